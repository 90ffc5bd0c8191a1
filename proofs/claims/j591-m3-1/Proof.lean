import JvmDerived
import JvmDerived.Pilot.@@N@@Statement
import JvmDerived.Pilot.@@N@@Code
set_option linter.unusedVariables false
set_option linter.unusedSimpArgs false
namespace Jvm.RoadKit
open Sem ClassFile Op Lib Jvm.Stand Jvm.Free Jvm.LawKit
section New
variable {p : Program} {l : Launch} {e : Env} {R : Room} {s : State} {m : MethodId} {args : Array Value} {below : List Frame} {meth : Method} {c : Code} {T : State} {locs : List Loc} {cells slots : Nat}
theorem retI (X : Stand p l e R s m args below meth c T locs cells slots) (hx : p.tables.exec = Jvm.exec) {pc : Nat} {Ls : Array Slot} {z : Int32} {rest : List Value} (hret : meth.sig.returnType = some .int) (hd : decode c.code pc = .ok (.ireturn, 1)) {fs : List Frame}
    (hl : ∀ (f : JFrame) (acts : List Action), f.method = m → f.locked = none → f.entered = [] → (doReturn e (T.setTop f) acts (some (.int z))).1 = T.setFrames fs) : Steps p.tables e below (T.setTop (mkF m pc Ls (.int z :: rest))) (T.setFrames fs) := by
  have hm' : T.vm.method? m = some meth := X.method'
  have hn : narrow .int (.int z) = .int z := rfl
  show Steps p.tables e below (T.setTop { method := m, pc := pc, locals := Ls, stack := _ :: rest, locked := none }) _
  jvm_step X.here [X.here.top, hx, hd, hm', hret, hn]
  first | (intro acts; rw [hl _ acts rfl rfl rfl]) | rw [hl _ _ rfl rfl rfl]
  exact Steps.refl _
/-- from here the run comes to an end of which Po says something -/
def Gl (p : Program) (e : Env) (below : List Frame) (Po : State → Outcome → Prop) (T : State) (g : JFrame) : Prop := ∃ s₂ o, Steps p.tables e below (T.setTop g) s₂ ∧ s₂.status = .running ∧ Ended s₂ below o ∧ Po s₂ o
def Pos (C S : Nat) (Q : Option Value → Heap → List Loc → Prop) (s : State) (U : State) (o : Outcome) : Prop := ∃ v L, o = .returned v ∧ Q v U.heap L ∧ FrameEnd s o U L C S
theorem Gl.by {Po : State → Outcome → Prop} {T' : State} {g g' : JFrame} (st : ∀ t, Steps p.tables e below (T'.setTop g') t → Steps p.tables e below (T.setTop g) t) (h : Gl p e below Po T' g') : Gl p e below Po T g := by
  obtain ⟨a, o, k, r⟩ := h
  exact ⟨a, o, st _ k, r⟩
abbrev vr (a : Addr) : Slot := .val (.ref a)
abbrev vi (a : Int32) : Slot := .val (.int a)
abbrev vj (a : Int64) : Slot := .val (.long a)
theorem gb {Po : State → Outcome → Prop} {T' : State} {g : JFrame} (g' : JFrame) (st : ∀ t, Steps p.tables e below (T'.setTop g') t → Steps p.tables e below (T.setTop g) t) (h : Gl p e below Po T' g') : Gl p e below Po T g := Gl.by st h
theorem Gl.cast {Po : State → Outcome → Prop} {g g' : JFrame} (q : g = g') (h : Gl p e below Po T g') : Gl p e below Po T g := q ▸ h
theorem Gl.outN (X : Stand p l e R s m args below meth c T locs cells slots) (hx : p.tables.exec = Jvm.exec) (hk : meth.locks = false) {pc : Nat} {Ls : Array Slot} {z : Int32} {t : FieldType} {rest : List Value} (hret : meth.sig.returnType = some t) (ht : t = .boolean ∨ t = .byte ∨ t = .char ∨ t = .short)
    (hd : decode c.code pc = .ok (.ireturn, 1)) {C S : Nat} {Q : Option Value → Heap → List Loc → Prop} (hQ : Q (some (.int (nar t z))) T.heap locs) (hc : cells ≤ C) (hs : slots ≤ S) : Gl p e below (Pos C S Q s) T (mkF m pc Ls (.int z :: rest)) := by
  obtain ⟨fs, hr, hrun, hended, hW, hsame⟩ := X.leave (v := some (.int (nar t z))) (fun h => by rw [hret] at h; cases h) hk
  exact ⟨_, _, retN X hx hret ht hd hr, hrun, hended, _, _, rfl, hQ, ⟨_, rfl⟩, hW, hsame.mono hc hs⟩
theorem Gl.outI (X : Stand p l e R s m args below meth c T locs cells slots) (hx : p.tables.exec = Jvm.exec) (hk : meth.locks = false) {pc : Nat} {Ls : Array Slot} {z : Int32} {rest : List Value} (hret : meth.sig.returnType = some .int)
    (hd : decode c.code pc = .ok (.ireturn, 1)) {C S : Nat} {Q : Option Value → Heap → List Loc → Prop} (hQ : Q (some (.int z)) T.heap locs) (hc : cells ≤ C) (hs : slots ≤ S) : Gl p e below (Pos C S Q s) T (mkF m pc Ls (.int z :: rest)) := by
  obtain ⟨fs, hr, hrun, hended, hW, hsame⟩ := X.leave (v := some (.int z)) (fun h => by rw [hret] at h; cases h) hk
  exact ⟨_, _, retI X hx hret hd hr, hrun, hended, _, _, rfl, hQ, ⟨_, rfl⟩, hW, hsame.mono hc hs⟩
theorem Gl.outJ (X : Stand p l e R s m args below meth c T locs cells slots) (hx : p.tables.exec = Jvm.exec) (hk : meth.locks = false) {pc : Nat} {Ls : Array Slot} {z : Int64} {rest : List Value} (hret : meth.sig.returnType = some .long)
    (hd : decode c.code pc = .ok (.lreturn, 1)) {C S : Nat} {Q : Option Value → Heap → List Loc → Prop} (hQ : Q (some (.long z)) T.heap locs) (hc : cells ≤ C) (hs : slots ≤ S) : Gl p e below (Pos C S Q s) T (mkF m pc Ls (.long z :: rest)) := by
  obtain ⟨fs, hr, hrun, hended, hW, hsame⟩ := X.leave (v := some (.long z)) (fun h => by rw [hret] at h; cases h) hk
  exact ⟨_, _, retOut X hx hret rfl (Or.inr (Or.inl ⟨rfl, rfl, _, rfl⟩)) hd hr, hrun, hended, _, _, rfl, hQ, ⟨_, rfl⟩, hW, hsame.mono hc hs⟩
theorem Gl.outD (X : Stand p l e R s m args below meth c T locs cells slots) (hx : p.tables.exec = Jvm.exec) (hk : meth.locks = false) {pc : Nat} {Ls : Array Slot} {z : UInt64} {rest : List Value} (hret : meth.sig.returnType = some .double)
    (hd : decode c.code pc = .ok (.dreturn, 1)) {C S : Nat} {Q : Option Value → Heap → List Loc → Prop} (hQ : Q (some (.double z)) T.heap locs) (hc : cells ≤ C) (hs : slots ≤ S) : Gl p e below (Pos C S Q s) T (mkF m pc Ls (.double z :: rest)) := by
  obtain ⟨fs, hr, hrun, hended, hW, hsame⟩ := X.leave (v := some (.double z)) (fun h => by rw [hret] at h; cases h) hk
  exact ⟨_, _, retOut X hx hret rfl (Or.inr (Or.inr (Or.inl ⟨rfl, rfl, _, rfl⟩))) hd hr, hrun, hended, _, _, rfl, hQ, ⟨_, rfl⟩, hW, hsame.mono hc hs⟩
theorem Gl.outA (X : Stand p l e R s m args below meth c T locs cells slots) (hx : p.tables.exec = Jvm.exec) (hk : meth.locks = false) {pc : Nat} {Ls : Array Slot} {w : Value} {t : FieldType} {rest : List Value} (hret : meth.sig.returnType = some t) (ht : t.isReference = true) (hw : w.isRef = true)
    (hd : decode c.code pc = .ok (.areturn, 1)) {C S : Nat} {Q : Option Value → Heap → List Loc → Prop} (hQ : Q (some w) T.heap locs) (hc : cells ≤ C) (hs : slots ≤ S) : Gl p e below (Pos C S Q s) T (mkF m pc Ls (w :: rest)) := by
  obtain ⟨fs, hr, hrun, hended, hW, hsame⟩ := X.leave (v := some w) (fun h => by rw [hret] at h; cases h) hk
  exact ⟨_, _, retOut X hx hret (by rcases ref_cases hw with rfl | ⟨a, rfl⟩ <;> cases t <;> first | rfl | (cases ht; done)) (Or.inr (Or.inr (Or.inr (Or.inr ⟨rfl, ht, hw⟩)))) hd hr, hrun, hended, _, _, rfl, hQ, ⟨_, rfl⟩, hW, hsame.mono hc hs⟩
theorem Gl.outV (X : Stand p l e R s m args below meth c T locs cells slots) (hx : p.tables.exec = Jvm.exec) (hk : meth.locks = false) {pc : Nat} {Ls : Array Slot} (hret : meth.sig.returnType = none)
    (hd : decode c.code pc = .ok (.return_, 1)) {C S : Nat} {Q : Option Value → Heap → List Loc → Prop} (hQ : Q none T.heap locs) (hc : cells ≤ C) (hs : slots ≤ S) : Gl p e below (Pos C S Q s) T (mkF m pc Ls []) := by
  obtain ⟨fs, hr, hrun, hended, hW, hsame⟩ := X.leave (v := none) (fun _ => rfl) hk
  exact ⟨_, _, X.returnOut hx hret hd hr, hrun, hended, _, _, rfl, hQ, ⟨_, rfl⟩, hW, hsame.mono hc hs⟩
def PosW (C S : Nat) (Q : Option Value → Heap → List Loc → Prop) (s : State) (U : State) (o : Outcome) : Prop := ∃ v L, o = .returned v ∧ Q v U.heap L ∧ ReturnedEndW s o U L C S
theorem ReturnedEndW.mono {s t : State} {o : Outcome} {L : List Loc} {k n k' n' : Nat} (h : ReturnedEndW s o t L k n) (hk : k ≤ k') (hn : n ≤ n') : ReturnedEndW s o t L k' n' := ⟨h.1, h.2.1, h.2.2.1, h.2.2.2.mono hk hn⟩
section Wide
variable {vm₁ : Vm} {n₁ : Nat}
theorem Gl.outNW (X : Stand p l e R (s.setVm vm₁) m args below meth c T locs cells slots) (hS : s.Since vm₁ n₁) (hn : n₁ ≤ T.heap.size) (hx : p.tables.exec = Jvm.exec) (hk : meth.locks = false) {pc : Nat} {Ls : Array Slot} {z : Int32} {t : FieldType} {rest : List Value} (hret : meth.sig.returnType = some t) (ht : t = .boolean ∨ t = .byte ∨ t = .char ∨ t = .short)
    (hd : decode c.code pc = .ok (.ireturn, 1)) {C S : Nat} {Q : Option Value → Heap → List Loc → Prop} (hQ : Q (some (.int (nar t z))) T.heap locs) (hc : cells ≤ C) (hs : slots ≤ S) : Gl p e below (PosW C S Q s) T (mkF m pc Ls (.int z :: rest)) := by
  obtain ⟨fs, hr, hrun, hended, hW⟩ := X.leaveW hS hn (v := some (.int (nar t z))) (fun h => by rw [hret] at h; cases h) hk
  exact ⟨_, _, retN X hx hret ht hd hr, hrun, hended, _, _, rfl, hQ, ReturnedEndW.mono hW hc hs⟩
theorem Gl.outIW (X : Stand p l e R (s.setVm vm₁) m args below meth c T locs cells slots) (hS : s.Since vm₁ n₁) (hn : n₁ ≤ T.heap.size) (hx : p.tables.exec = Jvm.exec) (hk : meth.locks = false) {pc : Nat} {Ls : Array Slot} {z : Int32} {rest : List Value} (hret : meth.sig.returnType = some .int)
    (hd : decode c.code pc = .ok (.ireturn, 1)) {C S : Nat} {Q : Option Value → Heap → List Loc → Prop} (hQ : Q (some (.int z)) T.heap locs) (hc : cells ≤ C) (hs : slots ≤ S) : Gl p e below (PosW C S Q s) T (mkF m pc Ls (.int z :: rest)) := by
  obtain ⟨fs, hr, hrun, hended, hW⟩ := X.leaveW hS hn (v := some (.int z)) (fun h => by rw [hret] at h; cases h) hk
  exact ⟨_, _, retI X hx hret hd hr, hrun, hended, _, _, rfl, hQ, ReturnedEndW.mono hW hc hs⟩
theorem Gl.outAW (X : Stand p l e R (s.setVm vm₁) m args below meth c T locs cells slots) (hS : s.Since vm₁ n₁) (hn : n₁ ≤ T.heap.size) (hx : p.tables.exec = Jvm.exec) (hk : meth.locks = false) {pc : Nat} {Ls : Array Slot} {w : Value} {t : FieldType} {rest : List Value} (hret : meth.sig.returnType = some t) (ht : t.isReference = true) (hw : w.isRef = true)
    (hd : decode c.code pc = .ok (.areturn, 1)) {C S : Nat} {Q : Option Value → Heap → List Loc → Prop} (hQ : Q (some w) T.heap locs) (hc : cells ≤ C) (hs : slots ≤ S) : Gl p e below (PosW C S Q s) T (mkF m pc Ls (w :: rest)) := by
  obtain ⟨fs, hr, hrun, hended, hW⟩ := X.leaveW hS hn (v := some w) (fun h => by rw [hret] at h; cases h) hk
  exact ⟨_, _, retOut X hx hret (by rcases ref_cases hw with rfl | ⟨a, rfl⟩ <;> cases t <;> first | rfl | (cases ht; done)) (Or.inr (Or.inr (Or.inr (Or.inr ⟨rfl, ht, hw⟩)))) hd hr, hrun, hended, _, _, rfl, hQ, ReturnedEndW.mono hW hc hs⟩
theorem Gl.outVW (X : Stand p l e R (s.setVm vm₁) m args below meth c T locs cells slots) (hS : s.Since vm₁ n₁) (hn : n₁ ≤ T.heap.size) (hx : p.tables.exec = Jvm.exec) (hk : meth.locks = false) {pc : Nat} {Ls : Array Slot} (hret : meth.sig.returnType = none)
    (hd : decode c.code pc = .ok (.return_, 1)) {C S : Nat} {Q : Option Value → Heap → List Loc → Prop} (hQ : Q none T.heap locs) (hc : cells ≤ C) (hs : slots ≤ S) : Gl p e below (PosW C S Q s) T (mkF m pc Ls []) := by
  obtain ⟨fs, hr, hrun, hended, hW⟩ := X.leaveW hS hn (v := none) (fun _ => rfl) hk
  exact ⟨_, _, X.returnOut hx hret hd hr, hrun, hended, _, _, rfl, hQ, ReturnedEndW.mono hW hc hs⟩
end Wide
theorem selPriv {s : State} {args : Array Value} {y : MethodName} {n : Nat} (wi : (Cond.instantiable y.cls n).before args s = true) (hp : s.PrivateAt y) (hi : (Cond.instanceMethod y).before args s = true) (hy : y.cls ≠ "java/lang/invoke/MethodHandle" ∧ y.cls ≠ "java/lang/invoke/VarHandle") : (Cond.selects y.cls y y).before args s = true := by
  obtain ⟨c, k, h1, h2, h3, h4, -⟩ := Cond.instantiable_spec wi
  exact selects_self_of_private h1 h2 (by simp only [Bool.or_eq_false_iff] at h4; exact h4.1) hp hi hy
theorem eqI_v {args : Array Value} {first s : State} {o : Option Outcome} {idx : List Nat} {t : Term} {k : Int32} (h : (Cond.eq t (.int k)).value args first o s idx = some true) : t.eval args first o idx s = some (.int k) := by
  simp only [Cond.value, Term.eval] at h
  cases ht : t.eval args first o idx s with
  | none => simp [ht] at h
  | some x => cases x <;> simp [ht] at h ⊢; exact h
end New
end Jvm.RoadKit
namespace Jvm.RoadKit
open Sem ClassFile Op Lib Bundle Jvm.Stand Jvm.Free Jvm.LawKit Jvm.Free.SB Jvm.Free.SBG
section HeldX
variable {p : Program} {l : Launch} {e : Env} {R : Room} {s : State} {m : MethodId} {args : Array Value} {below : List Frame} {meth : Method} {c : Code} {T : State} {locs : List Loc} {cells slots : Nat} {Z : State} {a0 : Array Value} {EL : List (String × Nat)} {h : Heap} {vm0 vm₁ : Vm} {n₁ : Nat}
def PosH (Z : State) (EL : List (String × Nat)) (C S : Nat) (Q : Option Value → Heap → List Loc → Prop) (s : State) (U : State) (o : Outcome) : Prop := ∃ v L, o = .returned v ∧ Q v U.heap L ∧ CHr Z EL s.vm s.heap U.vm U.heap ∧ ReturnedEndW s o U L C S
theorem Gl.outVH (X : Stand p l e R (s.setVm vm₁) m args below meth c T locs cells slots) (hS : s.Since vm₁ n₁) (hn : n₁ ≤ T.heap.size) (hx : p.tables.exec = Jvm.exec) (hk : meth.locks = false) {pc : Nat} {Ls : Array Slot} (hret : meth.sig.returnType = none)
    (hd : decode c.code pc = .ok (.return_, 1)) {C S : Nat} {Q : Option Value → Heap → List Loc → Prop} (hQ : Q none T.heap locs) (hC : CHr Z EL s.vm s.heap T.vm T.heap) (hc : cells ≤ C) (hs : slots ≤ S) : Gl p e below (PosH Z EL C S Q s) T (mkF m pc Ls []) := by
  obtain ⟨fs, hr, hrun, hended, hW⟩ := X.leaveW hS hn (v := none) (fun _ => rfl) hk
  exact ⟨_, _, X.returnOut hx hret hd hr, hrun, hended, _, _, rfl, hQ, hC, ReturnedEndW.mono hW hc hs⟩
theorem Gl.outAH (X : Stand p l e R (s.setVm vm₁) m args below meth c T locs cells slots) (hS : s.Since vm₁ n₁) (hn : n₁ ≤ T.heap.size) (hx : p.tables.exec = Jvm.exec) (hk : meth.locks = false) {pc : Nat} {Ls : Array Slot} {w : Value} {t : FieldType} {rest : List Value} (hret : meth.sig.returnType = some t) (ht : t.isReference = true) (hw : w.isRef = true)
    (hd : decode c.code pc = .ok (.areturn, 1)) {C S : Nat} {Q : Option Value → Heap → List Loc → Prop} (hQ : Q (some w) T.heap locs) (hC : CHr Z EL s.vm s.heap T.vm T.heap) (hc : cells ≤ C) (hs : slots ≤ S) : Gl p e below (PosH Z EL C S Q s) T (mkF m pc Ls (w :: rest)) := by
  obtain ⟨fs, hr, hrun, hended, hW⟩ := X.leaveW hS hn (v := some w) (fun h => by rw [hret] at h; cases h) hk
  exact ⟨_, _, retOut X hx hret (by rcases ref_cases hw with rfl | ⟨a, rfl⟩ <;> cases t <;> first | rfl | (cases ht; done)) (Or.inr (Or.inr (Or.inr (Or.inr ⟨rfl, ht, hw⟩)))) hd hr, hrun, hended, _, _, rfl, hQ, hC, ReturnedEndW.mono hW hc hs⟩
/-- a callee that may load a held constant and writes only what no constant is -/
theorem backOfSX {y : MethodName} {bytes : ByteArray} {maxL : Nat} {ret : Option FieldType} {rm : Room} {len W : Nat} {as' : Array Value} {xs : List Addr} {Q : Option Value → Heap → List Loc → Prop}
    (hM : MetFree l y (head1 [Cond.code y bytes maxL ret] rm) (fun a U => a = as' ∧ Z.Warmed39 U.vm ∧ U.heap = h ∧ CHv Z EL U.vm h ∧ ∀ x ∈ xs, x < h.size ∧ Safe Z EL U.vm h x) (fun _ _ _ _ _ => True) (fun _ U o U' => ∃ v L, o = .returned v ∧ Q v U'.heap L ∧ CHr Z EL U.vm U.heap U'.vm U'.heap ∧ ReturnedEndW U o U' L rm.cells rm.slots))
    (hZ : Z.Warmed39 vm0) (wc : (Cond.code y bytes maxL ret).before a0 Z = true) (wz : (Cond.initialized y.cls).before a0 Z = true) (hf : rm.frames + 1 ≤ R.frames) (hl : W + (maxL + 11) + rm.locals ≤ R.locals) (hEL : EW Z a0 EL) (H : CHv Z EL vm0 h) (hs : ∀ x ∈ xs, x < h.size ∧ Safe Z EL vm0 h x) :
    BackS l R p e below (s.setVm vm0) args y len W (fun A a => a = as' ∧ A.U.heap = h ∧ A.cells + rm.cells ≤ R.cells ∧ A.slots + rm.slots ≤ R.slots)
      (fun A _ v B => ∃ L, Q v B.U.heap L ∧ B.locs = A.locs ++ L ∧ B.cells = A.cells + rm.cells ∧ B.slots = A.slots + rm.slots ∧ CHr Z EL vm0 h B.U.vm B.U.heap) := by
  refine BackS.of_freeW (bytes := bytes) (maxL := maxL) (ret := ret) (E := fun _ u o t L k n => CHr Z EL u.vm u.heap t.vm t.heap ∧ (∃ v, o = .returned v ∧ Q v t.heap L) ∧ rm.cells = k ∧ rm.slots = n) hM hf hl ?_ ?_ ?_ ?_ ?_
  · intro _ _ _ A a Y hp
    have hA : Z.Warmed39 A.U.vm := wtrans (s := s.setVm vm0) hZ Y.warmed
    have hcode : (Cond.code y bytes maxL ret).before a A.U = true := mv hA wc
    have hhead : (head1 [Cond.code y bytes maxL ret] rm).pre.before a A.U = true := by
      show (Cond.and (Cond.code y bytes maxL ret) .tt).before a A.U = true
      rw [Cond.before_and, hcode]
      rfl
    obtain ⟨-, -, hcells, hslots⟩ := hp
    exact ⟨hhead, mv hA wc, mv hA wz, hcells, hslots⟩
  · intro _ _ _ A a g mk Y hp
    have hat := CHv.at Y hZ hEL H
    obtain ⟨ha, hheap, -⟩ := hp
    refine ⟨ha, wtrans (s := s.setVm vm0) hZ Y.warmed, hheap, hat.1, ?_⟩
    intro x hx
    obtain ⟨hlt, hsafe⟩ := hs x hx
    exact ⟨hlt, hat.safe hlt hsafe⟩
  · intros
    trivial
  · rintro _ _ _ _ ⟨v, L, ho, hq, hC, hend⟩
    exact ⟨L, _, _, hend, hC, ⟨v, ho, hq⟩, rfl, rfl⟩
  · rintro _ _ _ A a g mk v t L k n Y hp - - ⟨hC, ⟨w, ho, hq⟩, rfl, rfl⟩
    cases ho
    have hat := CHv.at Y hZ hEL H
    refine ⟨L, hq, rfl, rfl, rfl, hat.trans ?_⟩
    have hh : A.U.heap = h := hp.2.1
    rw [← hh]
    exact hC
theorem castF {a : Addr} {C n d : String} {v v' : Value} (q : v = v') (F : Fld Z h a C n d v) : Fld Z h a C n d v' := q ▸ F
end HeldX
end Jvm.RoadKit
namespace Jvm.Pilot.@@N@@
open Jvm Jvm.ClassFile Sem Op Lib Jvm.Free Jvm.Stand Jvm.LawKit Jvm.RoadKit Bundle Jvm.Pilot.@@N@@.Jvm.D
abbrev sR (q : Int64) (k : Int32) : Int64 := (q.toUInt64 >>> (k &&& 0x3f).toInt64.toUInt64).toInt64
set_option maxRecDepth 65536
set_option maxHeartbeats 40000000
theorem hW {Z : State} {a0 : Array Value} (hw : ∀ d ∈ tables_1, d.before a0 Z = true) (i : Nat) {d : Jvm.Cond} (h : tables_1[i]? = some d) : d.before a0 Z = true := hw d (List.mem_of_getElem? h)
abbrev mq0 : MethodName := ⟨"jdk/internal/util/Preconditions", "checkIndex", "(IILjava/util/function/BiFunction;)I"⟩
abbrev mq1 : MethodName := ⟨"java/lang/String", "checkIndex", "(II)V"⟩
abbrev mq2 : MethodName := ⟨"java/lang/StringLatin1", "charAt", "([BI)C"⟩
abbrev mq3 : MethodName := ⟨"java/lang/String", "coder", "()B"⟩
abbrev mq4 : MethodName := ⟨"java/lang/String", "isLatin1", "()Z"⟩
abbrev mq5 : MethodName := ⟨"java/lang/String", "length", "()I"⟩
abbrev mq6 : MethodName := ⟨"java/lang/String", "charAt", "(I)C"⟩
abbrev mq7 : MethodName := ⟨"java/lang/StringUTF16", "compress", "([CI[BII)I"⟩
abbrev mq8 : MethodName := ⟨"java/lang/StringUTF16", "compress", "([CII)[B"⟩
abbrev mq9 : MethodName := ⟨"java/lang/StringUTF16", "coderFromArrayLen", "([BI)B"⟩
abbrev mq10 : MethodName := ⟨"java/lang/String", "<init>", "([CIILjava/lang/Void;)V"⟩
abbrev mq11 : MethodName := ⟨"java/lang/String", "<init>", "([C)V"⟩
abbrev mq12 : MethodName := ⟨"com/example/gatewarden/gatewarden/core/UserKeywordEndInPinLaw", "draw", "(J)C"⟩
abbrev mq13 : MethodName := ⟨"com/example/gatewarden/gatewarden/core/UserKeywordEndInPinLaw", "tr", "(C)C"⟩
abbrev mq14 : MethodName := ⟨"com/example/gatewarden/gatewarden/core/UserKeywordEndInPinLaw", "str", "([CI)Ljava/lang/String;"⟩
abbrev mq15 : MethodName := ⟨"com/example/gatewarden/gatewarden/core/UserKeywordEndInPinLaw", "m", "([CI[CIII)Z"⟩
abbrev mq16 : MethodName := ⟨"java/lang/StringLatin1", "indexOfChar", "([BIII)I"⟩
abbrev mq17 : MethodName := ⟨"java/lang/StringLatin1", "canEncode", "(I)Z"⟩
abbrev mq18 : MethodName := ⟨"java/lang/Math", "max", "(II)I"⟩
abbrev mq19 : MethodName := ⟨"java/lang/Math", "min", "(II)I"⟩
abbrev mq20 : MethodName := ⟨"java/lang/StringLatin1", "indexOf", "([BIII)I"⟩
abbrev mq21 : MethodName := ⟨"java/lang/String", "indexOf", "(II)I"⟩
abbrev mq22 : MethodName := ⟨"java/lang/String", "indexOf", "(I)I"⟩
abbrev mq23 : MethodName := ⟨"com/example/gatewarden/gatewarden/core/UserKeyword", "translatedEndIn", "(Ljava/lang/String;IILjava/lang/String;I)I"⟩
abbrev mq24 : MethodName := ⟨"java/lang/Enum", "ordinal", "()I"⟩
abbrev mq25 : MethodName := ⟨"com/example/gatewarden/gatewarden/core/UserKeyword", "endIn", "(Ljava/lang/String;Ljava/lang/String;I)I"⟩
abbrev mq26 : MethodName := ⟨"com/example/gatewarden/gatewarden/core/UserKeyword", "ordinal", "()I"⟩
def Wd (Z : State) (w1 w2 w3 : Addr) (G1 : Int32) (sf : Value) : Prop := Sta Z Z.heap "com/example/gatewarden/gatewarden/core/UserKeyword" "USER_DOMAIN" "Lcom/example/gatewarden/gatewarden/core/UserKeyword;" (.ref w1) ∧ Exa Z Z.heap w1 "com/example/gatewarden/gatewarden/core/UserKeyword" ∧ Sta Z Z.heap "com/example/gatewarden/gatewarden/core/UserKeyword" "USER" "Lcom/example/gatewarden/gatewarden/core/UserKeyword;" (.ref w2) ∧ Exa Z Z.heap w2 "com/example/gatewarden/gatewarden/core/UserKeyword" ∧ Sta Z Z.heap "com/example/gatewarden/gatewarden/core/UserKeyword" "DOMAIN" "Lcom/example/gatewarden/gatewarden/core/UserKeyword;" (.ref w3) ∧ Exa Z Z.heap w3 "com/example/gatewarden/gatewarden/core/UserKeyword" ∧ Fld Z Z.heap w1 "java/lang/Enum" "ordinal" "I" (.int 0) ∧ Fld Z Z.heap w2 "java/lang/Enum" "ordinal" "I" (.int 1) ∧ Fld Z Z.heap w3 "java/lang/Enum" "ordinal" "I" (.int 2) ∧ Sta Z Z.heap "java/lang/String" "COMPACT_STRINGS" "Z" (.int G1) ∧ ¬ G1 = (0 : Int32) ∧ Sta Z Z.heap "jdk/internal/util/Preconditions" "SIOOBE_FORMATTER" "Ljava/util/function/BiFunction;" sf ∧ (sf = .null ∨ ∃ r, sf = .ref r)
theorem wS {Z : State} {a0 : Array Value} (hw : ∀ d ∈ tables_1, d.before a0 Z = true) : ∀ a ∈ Bundle.stringAtoms, a.before a0 Z = true := by
  intro d hd
  simp only [Bundle.stringAtoms, List.mem_cons, List.not_mem_nil, or_false] at hd
  rcases hd with rfl | rfl | rfl | rfl | rfl | rfl | rfl
  · exact (hW hw 12 rfl)
  · exact (hW hw 11 rfl)
  · exact (hW hw 24 rfl)
  · exact (hW hw 25 rfl)
  · exact (hW hw 26 rfl)
  · exact (hW hw 27 rfl)
  · exact (hW hw 28 rfl)
abbrev EL0 : List (String × Nat) := [("java/lang/String", 7)]
theorem tx0 : (∀ c ∈ "".toList, c.toNat < 256) ∧ "".toList.map (fun c => Value.int (Jvm.Lit.byteI c.toNat.toUInt16)) = [] := ⟨by simp, by simp⟩
theorem hEL0 {Z : State} {a0 : Array Value} (hw : ∀ d ∈ tables_1, d.before a0 Z = true) : EW Z a0 EL0 := EW.cons (hW hw 23 rfl) tx0.1 EW.nil
abbrev bL (x : Int32) : Int32 := ((x.toInt8.toInt32).toInt8.toInt32)
abbrev bA (x : Int32) : Int32 := (((x >>> ((0 : Int32) &&& 31)).toInt8.toInt32).toInt8.toInt32)
abbrev bB (x : Int32) : Int32 := (((x >>> ((8 : Int32) &&& 31)).toInt8.toInt32).toInt8.toInt32)
def chr (x : Int32) : Int32 := x.toUInt32.toUInt16.toUInt32.toInt32
theorem chr_chr (y : Int32) : chr (chr y) = chr y := by
  apply Int32.toBitVec_inj.mp
  show (((((y.toBitVec.setWidth 16).setWidth 32)).setWidth 16).setWidth 32) = (y.toBitVec.setWidth 16).setWidth 32
  simp
theorem tb255 (i : Nat) (h : i < 8) : Nat.testBit 255 i = true := by
  have : i = 0 ∨ i = 1 ∨ i = 2 ∨ i = 3 ∨ i = 4 ∨ i = 5 ∨ i = 6 ∨ i = 7 := by omega
  rcases this with h | h | h | h | h | h | h | h <;> subst h <;> decide
theorem bvL (v : BitVec 32) (h : v.toNat < 256) : (((BitVec.signExtend 32 (BitVec.signExtend 8 v)) &&& 255#32).setWidth 16).setWidth 32 = v := BitVec.eq_of_getLsbD_eq fun i hi => by
  simp only [BitVec.getLsbD_setWidth, BitVec.getLsbD_and, BitVec.getLsbD_signExtend, BitVec.getLsbD_ofNat]
  by_cases h1 : i < 8
  · have a : i < 16 := by omega
    simp [h1, a, hi, tb255 i h1]
  · have z : v.getLsbD i = false := by
      show Nat.testBit v.toNat i = false
      apply Nat.testBit_lt_two_pow
      exact Nat.lt_of_lt_of_le h (Nat.pow_le_pow_right (by decide : 2 > 0) (show 8 ≤ i by omega))
    have b : Nat.testBit 255 i = false := by
      apply Nat.testBit_lt_two_pow
      exact Nat.lt_of_lt_of_le (by decide : 255 < 2 ^ 8) (Nat.pow_le_pow_right (by decide : 2 > 0) (show 8 ≤ i by omega))
    simp [z, b]
theorem dec_L' (x : Int32) (hc : chr x = x) (hl : ¬ (255 : Int32) < x) : chr (chr ((bL x) &&& (255 : Int32))) = x := by
  rw [chr_chr]
  have hb : x.toBitVec.toNat < 256 := by
    have e : (x.toBitVec.setWidth 16).setWidth 32 = x.toBitVec := congrArg Int32.toBitVec hc
    have e2 := congrArg BitVec.toNat e
    simp at e2
    have lt : x.toBitVec.toNat < 65536 := by omega
    have ti : x.toInt = x.toBitVec.toNat := by
      show x.toBitVec.toInt = _
      rw [BitVec.toInt_eq_toNat_of_lt (by omega)]
    have z : (255 : Int32).toInt = 255 := by decide
    rw [Int32.lt_iff_toInt_lt, z, ti] at hl
    omega
  apply Int32.toBitVec_inj.mp
  have e1 : bL x = x.toInt8.toInt32 := by simp [bL]
  rw [e1]
  exact bvL x.toBitVec hb
theorem bvU (v : BitVec 32) : (((((BitVec.signExtend 32 (BitVec.signExtend 8 v)) &&& 255#32) ||| (((BitVec.signExtend 32 (BitVec.signExtend 8 (v.sshiftRight 8))) &&& 255#32) <<< 8)).setWidth 16).setWidth 32) = (v.setWidth 16).setWidth 32 := BitVec.eq_of_getLsbD_eq fun i hi => by
  simp only [BitVec.getLsbD_setWidth, BitVec.getLsbD_or, BitVec.getLsbD_and, BitVec.getLsbD_shiftLeft, BitVec.getLsbD_signExtend, BitVec.getLsbD_sshiftRight, BitVec.getLsbD_ofNat]
  by_cases h1 : i < 8
  · have a : i < 16 := by omega
    have b : Nat.testBit 255 i = true := by
      have : i = 0 ∨ i = 1 ∨ i = 2 ∨ i = 3 ∨ i = 4 ∨ i = 5 ∨ i = 6 ∨ i = 7 := by omega
      rcases this with h | h | h | h | h | h | h | h <;> subst h <;> decide
    simp [h1, a, hi, b]
  · by_cases h2 : i < 16
    · have b : Nat.testBit 255 i = false := by
        have : i = 8 ∨ i = 9 ∨ i = 10 ∨ i = 11 ∨ i = 12 ∨ i = 13 ∨ i = 14 ∨ i = 15 := by omega
        rcases this with h | h | h | h | h | h | h | h <;> subst h <;> decide
      have c : Nat.testBit 255 (i - 8) = true := by
        have : i = 8 ∨ i = 9 ∨ i = 10 ∨ i = 11 ∨ i = 12 ∨ i = 13 ∨ i = 14 ∨ i = 15 := by omega
        rcases this with h | h | h | h | h | h | h | h <;> subst h <;> decide
      have d : i - 8 < 8 := by omega
      have e : 8 + (i - 8) = i := by omega
      have f : ¬ 32 ≤ i - 8 := by omega
      have g : i - 8 < 32 := by omega
      simp [h1, h2, hi, b, c, d, e, f, g]
    · simp [h2]
theorem dec_U' (x : Int32) : chr (chr ((((bA x) &&& (255 : Int32)) <<< ((0 : Int32) &&& 31)) ||| (((bB x) &&& (255 : Int32)) <<< ((8 : Int32) &&& 31)))) = chr x := by
  have cc : ∀ y : Int32, chr (chr y) = chr y := fun y => by
    apply Int32.toBitVec_inj.mp
    show (((((y.toBitVec.setWidth 16).setWidth 32)).setWidth 16).setWidth 32) = (y.toBitVec.setWidth 16).setWidth 32
    simp
  rw [cc]
  apply Int32.toBitVec_inj.mp
  have s0 : ((0 : Int32) &&& 31) = 0 := by decide
  have s8 : ((8 : Int32) &&& 31) = 8 := by decide
  have e1 : bA x = x.toInt8.toInt32 := by
    simp only [bA, s0]; simp
  have e2 : bB x = (x >>> 8).toInt8.toInt32 := by
    simp only [bB, s8]; simp
  rw [e1, e2, s0, s8]
  have q := bvU x.toBitVec
  show (((((BitVec.signExtend 32 (BitVec.signExtend 8 x.toBitVec)) &&& 255#32) <<< 0 ||| (((BitVec.signExtend 32 (BitVec.signExtend 8 (x.toBitVec.sshiftRight 8))) &&& 255#32) <<< 8)).setWidth 16).setWidth 32) = (x.toBitVec.setWidth 16).setWidth 32
  rw [BitVec.shiftLeft_zero]
  exact q
theorem dec_L (x : Int32) (hc : nar .char x = x) (hl : ¬ (255 : Int32) < x) : nar .char (((bL x) &&& (255 : Int32)).toUInt32.toUInt16.toUInt32.toInt32) = x := dec_L' x hc hl
theorem dec_U (x : Int32) : nar .char (((((bA x) &&& (255 : Int32)) <<< ((0 : Int32) &&& 31)) ||| (((bB x) &&& (255 : Int32)) <<< ((8 : Int32) &&& 31))).toUInt32.toUInt16.toUInt32.toInt32) = nar .char x := dec_U' x
theorem nar_nar (x : Int32) : nar .char (nar .char x) = nar .char x := chr_chr x

theorem getDI (us : List Int32) (k : Nat) : (us.map Value.int).getD k (.int 0) = .int (us.getD k 0) := by
  simp only [List.getD, List.getElem?_map]
  cases us[k]? <;> rfl
theorem arv_at {Z : State} {h : Heap} {a : Addr} {k : ClassId} {ty : FieldType} {n : Int32} {vv : List Value} {u w dv : Value} {i j i' j' : Nat} (A : Arv Z h a k ty n ((vv.set i u).set j w) dv) (e1 : i = i') (e2 : j = j') : Arv Z h a k ty n ((vv.set i' u).set j' w) dv := by
  subst e1 e2; exact A
theorem d27_0 : decode jdk_41_method_11_code 0 = .ok (.iload_n 0, 1) := by decide +kernel
theorem d27_1 : decode jdk_41_method_11_code 1 = .ok (.ifCond .lt 8, 3) := by decide +kernel
theorem d27_4 : decode jdk_41_method_11_code 4 = .ok (.iload_n 0, 1) := by decide +kernel
theorem d27_5 : decode jdk_41_method_11_code 5 = .ok (.iload_n 1, 1) := by decide +kernel
theorem d27_6 : decode jdk_41_method_11_code 6 = .ok (.if_icmp .lt 10, 3) := by decide +kernel
theorem d27_16 : decode jdk_41_method_11_code 16 = .ok (.iload_n 0, 1) := by decide +kernel
theorem d27_17 : decode jdk_41_method_11_code 17 = .ok (.ireturn, 1) := by decide +kernel
theorem pn0 : plainName "jdk/internal/util/Preconditions" = true := by first | (simp [plainName, overriddenIn]; done) | decide +kernel
theorem ef27N (m : MethodId) (x0 : Int32) (x1 : Int32) : entryFrame m #[(.int x0), (.int x1), .null] 3 = mkF m 0 #[.val (.int x0), .val (.int x1), .val .null] [] := by first | (simp [entryFrame, mkF, argsToLocals, Value.category]; done) | rfl
def Q27N (Z : State) (p0 : Int32) (p1 : Int32) (w1 w2 w3 : Addr) (G1 : Int32) (sf : Value) (h0 : Heap) (n0 : Nat) (v : Option Value) (h : Heap) (L : List Loc) : Prop := v = some (.int p0) ∧ Fr n0 L ∧ h = h0
theorem rm27N (l : Launch) (Z : State) (a0' : Array Value) (hw : ∀ d ∈ tables_1, d.before a0' Z = true) (ws : List Jvm.Cond) (p0 : Int32) (p1 : Int32) (w1 w2 w3 : Addr) (G1 : Int32) (sf : Value) (h0 : Heap) (n0 : Nat) (O : Old Z n0 h0) (W : Wd Z w1 w2 w3 G1 sf) (h1 : ¬ p0 < (0 : Int32)) (h2 : p0 < p1) :
    MetFree l mq0 (head1 (Jvm.Cond.code mq0 jdk_41_method_11_code 3 (some .int) :: ws) ({ frames := 0, cells := 0, slots := 0, locals := 0 } : Room)) (fun a U => a = #[(.int p0), (.int p1), .null] ∧ Z.Warmed39 U.vm ∧ U.heap = h0) (fun _ _ _ _ _ => True) (fun _ U o U' => ∃ v L, o = .returned v ∧ Q27N Z p0 p1 w1 w2 w3 G1 sf h0 n0 v U'.heap L ∧ FrameEnd U o U' L ({ frames := 0, cells := 0, slots := 0, locals := 0 } : Room).cells ({ frames := 0, cells := 0, slots := 0, locals := 0 } : Room).slots) := by
  refine MetFree.of_bodySF (plainFor_of_name pn0) hisR ?_
  intro p e s m args below meth c s₁ Bd hml0 hP hK
  obtain ⟨rfl, hZ, hh⟩ := hP
  have hx := Bd.exec
  have hby := Bd.bytes
  have hml : c.maxLocals = 3 := hml0
  have hown : s.vm.findClass "jdk/internal/util/Preconditions" = some m.cls := findClass_of_methodNamed Bd.named
  have hnm := (name_of_methodNamed Bd.named Bd.method).1
  have hk := Bd.notSynchronized
  have X0 : Stand p l e ({ frames := 0, cells := 0, slots := 0, locals := 0 } : Room) s m #[(.int p0), (.int p1), .null] below meth c s₁ [] 0 0 := Stand.of_body Bd
  have hh2 := hh
  have e0 : s₁.heap = h0 := by rw [← hh, Bd.state]; rfl
  have N0 := Fr.nil n0
  show Gl p e below (Pos 0 0 (Q27N Z p0 p1 w1 w2 w3 G1 sf h0 n0) s) s₁ _
  refine Gl.cast (ef27N m p0 p1) ?_
  refine gb (mkF m 1 #[vi p0, vi p1, .val .null] [(.int p0)]) (fun _ k => XS.iloadN X0.here hx rfl (hb hby d27_0) rfl k) ?_
  refine gb (mkF m 4 #[vi p0, vi p1, .val .null] []) (fun _ k => XS.ifNo X0.here hx rfl (hb hby d27_1) rfl ((if0 _ _).trans (flt h1).1) k) ?_
  refine gb (mkF m 5 #[vi p0, vi p1, .val .null] [(.int p0)]) (fun _ k => XS.iloadN X0.here hx rfl (hb hby d27_4) rfl k) ?_
  refine gb (mkF m 6 #[vi p0, vi p1, .val .null] [(.int p1), (.int p0)]) (fun _ k => XS.iloadN X0.here hx rfl (hb hby d27_5) rfl k) ?_
  refine gb (mkF m 16 #[vi p0, vi p1, .val .null] []) (fun _ k => XS.icmpYes X0.here hx rfl (pc0 := 6) (pc' := 16) rfl (hb hby d27_6) rfl (tlt h2).1 (by decide) (by decide) k) ?_
  refine gb (mkF m 17 #[vi p0, vi p1, .val .null] [(.int p0)]) (fun _ k => XS.iloadN X0.here hx rfl (hb hby d27_16) rfl k) ?_
  exact Gl.outI X0 hx hk Bd.returns (hb hby d27_17) ⟨rfl, N0, e0⟩ (by decide) (by decide)
theorem ef27R (m : MethodId) (x0 : Int32) (x1 : Int32) (x2 : Addr) : entryFrame m #[(.int x0), (.int x1), (.ref x2)] 3 = mkF m 0 #[.val (.int x0), .val (.int x1), .val (.ref x2)] [] := by first | (simp [entryFrame, mkF, argsToLocals, Value.category]; done) | rfl
def Q27R (Z : State) (p0 : Int32) (p1 : Int32) (a2 : Addr) (w1 w2 w3 : Addr) (G1 : Int32) (sf : Value) (h0 : Heap) (n0 : Nat) (v : Option Value) (h : Heap) (L : List Loc) : Prop := v = some (.int p0) ∧ Fr n0 L ∧ h = h0
theorem rm27R (l : Launch) (Z : State) (a0' : Array Value) (hw : ∀ d ∈ tables_1, d.before a0' Z = true) (ws : List Jvm.Cond) (p0 : Int32) (p1 : Int32) (a2 : Addr) (w1 w2 w3 : Addr) (G1 : Int32) (sf : Value) (h0 : Heap) (n0 : Nat) (O : Old Z n0 h0) (W : Wd Z w1 w2 w3 G1 sf) (h1 : ¬ p0 < (0 : Int32)) (h2 : p0 < p1) :
    MetFree l mq0 (head1 (Jvm.Cond.code mq0 jdk_41_method_11_code 3 (some .int) :: ws) ({ frames := 0, cells := 0, slots := 0, locals := 0 } : Room)) (fun a U => a = #[(.int p0), (.int p1), (.ref a2)] ∧ Z.Warmed39 U.vm ∧ U.heap = h0) (fun _ _ _ _ _ => True) (fun _ U o U' => ∃ v L, o = .returned v ∧ Q27R Z p0 p1 a2 w1 w2 w3 G1 sf h0 n0 v U'.heap L ∧ FrameEnd U o U' L ({ frames := 0, cells := 0, slots := 0, locals := 0 } : Room).cells ({ frames := 0, cells := 0, slots := 0, locals := 0 } : Room).slots) := by
  refine MetFree.of_bodySF (plainFor_of_name pn0) hisR ?_
  intro p e s m args below meth c s₁ Bd hml0 hP hK
  obtain ⟨rfl, hZ, hh⟩ := hP
  have hx := Bd.exec
  have hby := Bd.bytes
  have hml : c.maxLocals = 3 := hml0
  have hown : s.vm.findClass "jdk/internal/util/Preconditions" = some m.cls := findClass_of_methodNamed Bd.named
  have hnm := (name_of_methodNamed Bd.named Bd.method).1
  have hk := Bd.notSynchronized
  have X0 : Stand p l e ({ frames := 0, cells := 0, slots := 0, locals := 0 } : Room) s m #[(.int p0), (.int p1), (.ref a2)] below meth c s₁ [] 0 0 := Stand.of_body Bd
  have hh2 := hh
  have e0 : s₁.heap = h0 := by rw [← hh, Bd.state]; rfl
  have N0 := Fr.nil n0
  show Gl p e below (Pos 0 0 (Q27R Z p0 p1 a2 w1 w2 w3 G1 sf h0 n0) s) s₁ _
  refine Gl.cast (ef27R m p0 p1 a2) ?_
  refine gb (mkF m 1 #[vi p0, vi p1, vr a2] [(.int p0)]) (fun _ k => XS.iloadN X0.here hx rfl (hb hby d27_0) rfl k) ?_
  refine gb (mkF m 4 #[vi p0, vi p1, vr a2] []) (fun _ k => XS.ifNo X0.here hx rfl (hb hby d27_1) rfl ((if0 _ _).trans (flt h1).1) k) ?_
  refine gb (mkF m 5 #[vi p0, vi p1, vr a2] [(.int p0)]) (fun _ k => XS.iloadN X0.here hx rfl (hb hby d27_4) rfl k) ?_
  refine gb (mkF m 6 #[vi p0, vi p1, vr a2] [(.int p1), (.int p0)]) (fun _ k => XS.iloadN X0.here hx rfl (hb hby d27_5) rfl k) ?_
  refine gb (mkF m 16 #[vi p0, vi p1, vr a2] []) (fun _ k => XS.icmpYes X0.here hx rfl (pc0 := 6) (pc' := 16) rfl (hb hby d27_6) rfl (tlt h2).1 (by decide) (by decide) k) ?_
  refine gb (mkF m 17 #[vi p0, vi p1, vr a2] [(.int p0)]) (fun _ k => XS.iloadN X0.here hx rfl (hb hby d27_16) rfl k) ?_
  exact Gl.outI X0 hx hk Bd.returns (hb hby d27_17) ⟨rfl, N0, e0⟩ (by decide) (by decide)
theorem d26_0 : decode jdk_42_method_155_code 0 = .ok (.iload_n 0, 1) := by decide +kernel
theorem d26_1 : decode jdk_42_method_155_code 1 = .ok (.iload_n 1, 1) := by decide +kernel
theorem d26_2 : decode jdk_42_method_155_code 2 = .ok (.getstatic 1053, 3) := by decide +kernel
theorem d26_5 : decode jdk_42_method_155_code 5 = .ok (.invokestatic 1059, 3) := by decide +kernel
theorem d26_8 : decode jdk_42_method_155_code 8 = .ok (.pop, 1) := by decide +kernel
theorem d26_9 : decode jdk_42_method_155_code 9 = .ok (.return_, 1) := by decide +kernel
theorem pn1 : plainName "java/lang/String" = true := by first | (simp [plainName, overriddenIn]; done) | decide +kernel
theorem pd13 : parseMethodDescriptor "(IILjava/util/function/BiFunction;)I" = some ⟨[.int, .int, (.object "java/util/function/BiFunction")], some .int⟩ := by decide +kernel
theorem ef26 (m : MethodId) (x0 : Int32) (x1 : Int32) : entryFrame m #[(.int x0), (.int x1)] 2 = mkF m 0 #[.val (.int x0), .val (.int x1)] [] := by first | (simp [entryFrame, mkF, argsToLocals, Value.category]; done) | rfl
def Q26 (Z : State) (p0 : Int32) (p1 : Int32) (w1 w2 w3 : Addr) (G1 : Int32) (sf : Value) (h0 : Heap) (n0 : Nat) (v : Option Value) (h : Heap) (L : List Loc) : Prop := v = none ∧ Fr n0 L ∧ h = h0
theorem rm26 (l : Launch) (Z : State) (a0' : Array Value) (hw : ∀ d ∈ tables_1, d.before a0' Z = true) (ws : List Jvm.Cond) (p0 : Int32) (p1 : Int32) (w1 w2 w3 : Addr) (G1 : Int32) (sf : Value) (h0 : Heap) (n0 : Nat) (O : Old Z n0 h0) (W : Wd Z w1 w2 w3 G1 sf) (h1 : ¬ p0 < (0 : Int32)) (h2 : p0 < p1) :
    MetFree l mq1 (head1 (Jvm.Cond.code mq1 jdk_42_method_155_code 2 none :: ws) ({ frames := 1, cells := 0, slots := 0, locals := 14 } : Room)) (fun a U => a = #[(.int p0), (.int p1)] ∧ Z.Warmed39 U.vm ∧ U.heap = h0) (fun _ _ _ _ _ => True) (fun _ U o U' => ∃ v L, o = .returned v ∧ Q26 Z p0 p1 w1 w2 w3 G1 sf h0 n0 v U'.heap L ∧ FrameEnd U o U' L ({ frames := 1, cells := 0, slots := 0, locals := 14 } : Room).cells ({ frames := 1, cells := 0, slots := 0, locals := 14 } : Room).slots) := by
  refine MetFree.of_bodySF (plainFor_of_name pn1) hisR ?_
  intro p e s m args below meth c s₁ Bd hml0 hP hK
  obtain ⟨rfl, hZ, hh⟩ := hP
  have hx := Bd.exec
  have hby := Bd.bytes
  have hml : c.maxLocals = 2 := hml0
  have hown : s.vm.findClass "java/lang/String" = some m.cls := findClass_of_methodNamed Bd.named
  have hnm := (name_of_methodNamed Bd.named Bd.method).1
  have hk := Bd.notSynchronized
  have X0 : Stand p l e ({ frames := 1, cells := 0, slots := 0, locals := 14 } : Room) s m #[(.int p0), (.int p1)] below meth c s₁ [] 0 0 := Stand.of_body Bd
  have hh2 := hh
  have e0 : s₁.heap = h0 := by rw [← hh, Bd.state]; rfl
  have N0 := Fr.nil n0
  show Gl p e below (Pos 0 0 (Q26 Z p0 p1 w1 w2 w3 G1 sf h0 n0) s) s₁ _
  refine Gl.cast (ef26 m p0 p1) ?_
  refine gb (mkF m 1 #[vi p0, vi p1] [(.int p0)]) (fun _ k => XS.iloadN X0.here hx rfl (hb hby d26_0) rfl k) ?_
  refine gb (mkF m 2 #[vi p0, vi p1] [(.int p1), (.int p0)]) (fun _ k => XS.iloadN X0.here hx rfl (hb hby d26_1) rfl k) ?_
  rcases W.2.2.2.2.2.2.2.2.2.2.2.2 with hsf | ⟨sfr, hsf⟩
  · have sta1 : Sta Z _ "jdk/internal/util/Preconditions" "SIOOBE_FORMATTER" "Ljava/util/function/BiFunction;" .null := hsf ▸ (Sta.ext O.2 W.2.2.2.2.2.2.2.2.2.2.2.1)
    obtain ⟨T1, X1, e1, st1⟩ := getS2 X0 hx hZ hown (host := "") (Or.inl (hW hw 126 rfl)) Via.refl e0 sta1 (g := (mkF m 2 #[vi p0, vi p1] [(.int p1), (.int p0)])) rfl (hb hby d26_2)
    refine gb (mkF m 5 #[vi p0, vi p1] [.null, (.int p1), (.int p0)]) st1 ?_
    obtain ⟨_, _, ⟨T2, L2, k2, n2⟩, -, X2, ⟨Lc2, hQ2, l2, y2, z2⟩, st2⟩ := callS X1 hx (y := mq0) hown (mvT hZ (hW hw 128 rfl)) (mvT hZ (hW hw 129 rfl)) (mvT hZ (hW hw 127 rfl)) (mvT hZ (hW hw 130 rfl)) (by decide) (backOf (W := 0) (rm27N l Z a0' hw [] p0 p1 w1 w2 w3 G1 sf h0 n0 O W h1 h2) hZ (hW hw 130 rfl) (hW hw 127 rfl) (by decide) (by decide)) (g := (mkF m 5 #[vi p0, vi p1] [.null, (.int p1), (.int p0)])) rfl (by rw [hml]; rfl) (argsL := [(.int p0), (.int p1), .null]) (rest := []) (lenOf pd13 rfl) rfl (Nat.le_of_eq rfl) (hb hby d26_5) (fun _ _ => ⟨rfl, e1, (by decide : 0 + 0 ≤ _), (by decide : 0 + 0 ≤ _)⟩)
    dsimp only [Pt.U, Pt.locs, Pt.cells, Pt.slots] at X2 l2 y2 z2 st2 hQ2
    subst l2 y2 z2
    obtain ⟨rfl, N2q, e2⟩ := hQ2
    have N2 := Fr.app N0 N2q
    refine gb (mkF m 8 #[vi p0, vi p1] [(.int p0)]) st2 ?_
    refine gb (mkF m 9 #[vi p0, vi p1] []) (fun _ k => XS.pop X2.here hx rfl (hb hby d26_8) rfl rfl k) ?_
    exact Gl.outV X2 hx hk Bd.returns (hb hby d26_9) ⟨rfl, N2, e2⟩ (by decide) (by decide)
  · have sta1 : Sta Z _ "jdk/internal/util/Preconditions" "SIOOBE_FORMATTER" "Ljava/util/function/BiFunction;" (.ref sfr) := hsf ▸ (Sta.ext O.2 W.2.2.2.2.2.2.2.2.2.2.2.1)
    obtain ⟨T1, X1, e1, st1⟩ := getS2 X0 hx hZ hown (host := "") (Or.inl (hW hw 126 rfl)) Via.refl e0 sta1 (g := (mkF m 2 #[vi p0, vi p1] [(.int p1), (.int p0)])) rfl (hb hby d26_2)
    refine gb (mkF m 5 #[vi p0, vi p1] [(.ref sfr), (.int p1), (.int p0)]) st1 ?_
    obtain ⟨_, _, ⟨T3, L3, k3, n3⟩, -, X3, ⟨Lc3, hQ3, l3, y3, z3⟩, st3⟩ := callS X1 hx (y := mq0) hown (mvT hZ (hW hw 128 rfl)) (mvT hZ (hW hw 129 rfl)) (mvT hZ (hW hw 127 rfl)) (mvT hZ (hW hw 130 rfl)) (by decide) (backOf (W := 0) (rm27R l Z a0' hw [] p0 p1 sfr w1 w2 w3 G1 sf h0 n0 O W h1 h2) hZ (hW hw 130 rfl) (hW hw 127 rfl) (by decide) (by decide)) (g := (mkF m 5 #[vi p0, vi p1] [(.ref sfr), (.int p1), (.int p0)])) rfl (by rw [hml]; rfl) (argsL := [(.int p0), (.int p1), (.ref sfr)]) (rest := []) (lenOf pd13 rfl) rfl (Nat.le_of_eq rfl) (hb hby d26_5) (fun _ _ => ⟨rfl, e1, (by decide : 0 + 0 ≤ _), (by decide : 0 + 0 ≤ _)⟩)
    dsimp only [Pt.U, Pt.locs, Pt.cells, Pt.slots] at X3 l3 y3 z3 st3 hQ3
    subst l3 y3 z3
    obtain ⟨rfl, N3q, e3⟩ := hQ3
    have N3 := Fr.app N0 N3q
    refine gb (mkF m 8 #[vi p0, vi p1] [(.int p0)]) st3 ?_
    refine gb (mkF m 9 #[vi p0, vi p1] []) (fun _ k => XS.pop X3.here hx rfl (hb hby d26_8) rfl rfl k) ?_
    exact Gl.outV X3 hx hk Bd.returns (hb hby d26_9) ⟨rfl, N3, e3⟩ (by decide) (by decide)
theorem d25_0 : decode jdk_43_method_2_code 0 = .ok (.iload_n 1, 1) := by decide +kernel
theorem d25_1 : decode jdk_43_method_2_code 1 = .ok (.aload_n 0, 1) := by decide +kernel
theorem d25_2 : decode jdk_43_method_2_code 2 = .ok (.arraylength, 1) := by decide +kernel
theorem d25_3 : decode jdk_43_method_2_code 3 = .ok (.invokestatic 9, 3) := by decide +kernel
theorem d25_6 : decode jdk_43_method_2_code 6 = .ok (.aload_n 0, 1) := by decide +kernel
theorem d25_7 : decode jdk_43_method_2_code 7 = .ok (.iload_n 1, 1) := by decide +kernel
theorem d25_8 : decode jdk_43_method_2_code 8 = .ok (.baload, 1) := by decide +kernel
theorem d25_9 : decode jdk_43_method_2_code 9 = .ok (.sipush 255, 3) := by decide +kernel
theorem d25_12 : decode jdk_43_method_2_code 12 = .ok (.iand, 1) := by decide +kernel
theorem d25_13 : decode jdk_43_method_2_code 13 = .ok (.i2c, 1) := by decide +kernel
theorem d25_14 : decode jdk_43_method_2_code 14 = .ok (.ireturn, 1) := by decide +kernel
theorem pn2 : plainName "java/lang/StringLatin1" = true := by first | (simp [plainName, overriddenIn]; done) | decide +kernel
theorem pd25 : parseMethodDescriptor "(II)V" = some ⟨[.int, .int], none⟩ := by decide +kernel
theorem ef25 (m : MethodId) (x0 : Addr) (x1 : Int32) : entryFrame m #[(.ref x0), (.int x1)] 2 = mkF m 0 #[.val (.ref x0), .val (.int x1)] [] := by first | (simp [entryFrame, mkF, argsToLocals, Value.category]; done) | rfl
def fn25 (p1 : Int32) (us : List Int32) (w1 w2 w3 : Addr) (G1 : Int32) (sf : Value) : Int32 := (nar .char (((us.getD (p1).toNatClampNeg 0) &&& (255 : Int32)).toUInt32.toUInt16.toUInt32.toInt32))
def Q25 (Z : State) (a0 : Addr) (p1 : Int32) (kb : ClassId) (zn : Int32) (us : List Int32) (w1 w2 w3 : Addr) (G1 : Int32) (sf : Value) (h0 : Heap) (n0 : Nat) (v : Option Value) (h : Heap) (L : List Loc) : Prop := v = some (.int (fn25 p1 us w1 w2 w3 G1 sf)) ∧ Fr n0 L ∧ h = h0
theorem rm25 (l : Launch) (Z : State) (a0' : Array Value) (hw : ∀ d ∈ tables_1, d.before a0' Z = true) (ws : List Jvm.Cond) (a0 : Addr) (p1 : Int32) (kb : ClassId) (zn : Int32) (us : List Int32) (w1 w2 w3 : Addr) (G1 : Int32) (sf : Value) (h0 : Heap) (n0 : Nat) (O : Old Z n0 h0) (W : Wd Z w1 w2 w3 G1 sf) (pf0 : Arv Z h0 a0 kb .byte zn (us.map Value.int) (.int 0)) (h1 : ¬ p1 < (0 : Int32)) (h2 : p1 < zn) :
    MetFree l mq2 (head1 (Jvm.Cond.code mq2 jdk_43_method_2_code 2 (some .char) :: ws) ({ frames := 2, cells := 0, slots := 0, locals := 27 } : Room)) (fun a U => a = #[(.ref a0), (.int p1)] ∧ Z.Warmed39 U.vm ∧ U.heap = h0) (fun _ _ _ _ _ => True) (fun _ U o U' => ∃ v L, o = .returned v ∧ Q25 Z a0 p1 kb zn us w1 w2 w3 G1 sf h0 n0 v U'.heap L ∧ FrameEnd U o U' L ({ frames := 2, cells := 0, slots := 0, locals := 27 } : Room).cells ({ frames := 2, cells := 0, slots := 0, locals := 27 } : Room).slots) := by
  refine MetFree.of_bodySF (plainFor_of_name pn2) hisR ?_
  intro p e s m args below meth c s₁ Bd hml0 hP hK
  obtain ⟨rfl, hZ, hh⟩ := hP
  have hx := Bd.exec
  have hby := Bd.bytes
  have hml : c.maxLocals = 2 := hml0
  have hown : s.vm.findClass "java/lang/StringLatin1" = some m.cls := findClass_of_methodNamed Bd.named
  have hnm := (name_of_methodNamed Bd.named Bd.method).1
  have hk := Bd.notSynchronized
  have X0 : Stand p l e ({ frames := 2, cells := 0, slots := 0, locals := 27 } : Room) s m #[(.ref a0), (.int p1)] below meth c s₁ [] 0 0 := Stand.of_body Bd
  have hh2 := hh
  have e0 : s₁.heap = h0 := by rw [← hh, Bd.state]; rfl
  have N0 := Fr.nil n0
  show Gl p e below (Pos 0 0 (Q25 Z a0 p1 kb zn us w1 w2 w3 G1 sf h0 n0) s) s₁ _
  refine Gl.cast (ef25 m a0 p1) ?_
  refine gb (mkF m 1 #[vr a0, vi p1] [(.int p1)]) (fun _ k => XS.iloadN X0.here hx rfl (hb hby d25_0) rfl k) ?_
  refine gb (mkF m 2 #[vr a0, vi p1] [(.ref a0), (.int p1)]) (fun _ k => XS.aloadN X0.here hx rfl (hb hby d25_1) rfl rfl k) ?_
  obtain ⟨cl1, Ar1, qa1, Sa1, Na1, Ha1, Ga1⟩ := id pf0
  refine gb (mkF m 3 #[vr a0, vi p1] [(.int zn), (.int p1)]) (fun t k => X0.arraylength hx (by rw [e0]; exact Ar1.1) (State.isArrayOf_alike hZ.alike Ar1.2.1) (g := (mkF m 2 #[vr a0, vi p1] [(.ref a0), (.int p1)])) rfl rfl (hb hby d25_2) t (by rw [len_of Sa1 Na1]; exact k)) ?_
  obtain ⟨_, _, ⟨T2, L2, k2, n2⟩, -, X2, ⟨Lc2, hQ2, l2, y2, z2⟩, st2⟩ := callS X0 hx (y := mq1) hown (mvT hZ (hW hw 123 rfl)) (mvT hZ (hW hw 124 rfl)) (mvT hZ (hW hw 12 rfl)) (mvT hZ (hW hw 125 rfl)) (by decide) (backOf (W := 0) (rm26 l Z a0' hw [] p1 zn w1 w2 w3 G1 sf h0 n0 O W h1 h2) hZ (hW hw 125 rfl) (hW hw 12 rfl) (by decide) (by decide)) (g := (mkF m 3 #[vr a0, vi p1] [(.int zn), (.int p1)])) rfl (by rw [hml]; rfl) (argsL := [(.int p1), (.int zn)]) (rest := []) (lenOf pd25 rfl) rfl (Nat.le_of_eq rfl) (hb hby d25_3) (fun _ _ => ⟨rfl, e0, (by decide : 0 + 0 ≤ _), (by decide : 0 + 0 ≤ _)⟩)
  dsimp only [Pt.U, Pt.locs, Pt.cells, Pt.slots] at X2 l2 y2 z2 st2 hQ2
  subst l2 y2 z2
  obtain ⟨rfl, N2q, e2⟩ := hQ2
  have N2 := Fr.app N0 N2q
  refine gb (mkF m 6 #[vr a0, vi p1] []) st2 ?_
  refine gb (mkF m 7 #[vr a0, vi p1] [(.ref a0)]) (fun _ k => XS.aloadN X2.here hx rfl (hb hby d25_6) rfl rfl k) ?_
  refine gb (mkF m 8 #[vr a0, vi p1] [(.int p1), (.ref a0)]) (fun _ k => XS.iloadN X2.here hx rfl (hb hby d25_7) rfl k) ?_
  obtain ⟨cl3, Ar3, qa3, Sa3, Na3, Ha3, Ga3⟩ := id pf0
  have hin4 : ¬ (p1 < 0 ∨ cl3.slots.size ≤ (p1).toNatClampNeg) := inb_of Sa3 ⟨h1, h2⟩
  refine gb (mkF m 9 #[vr a0, vi p1] [(.int (us.getD (p1).toNatClampNeg 0))]) (X2.baloadBytes hx (j := p1) (v := (.int (us.getD (p1).toNatClampNeg 0))) (by rw [e2]; exact Ar3.1) (State.isArrayOf_alike hZ.alike Ar3.2.1) Ar3.2.2 hin4 (Has.at Ha3 hin4 (getDI _ _)) (g := (mkF m 8 #[vr a0, vi p1] [(.int p1), (.ref a0)])) rfl rfl (hb hby d25_8)) ?_
  refine gb (mkF m 12 #[vr a0, vi p1] [(.int 255), (.int (us.getD (p1).toNatClampNeg 0))]) (fun _ k => XS.sipush X2.here hx rfl (hb hby d25_9) k) ?_
  refine gb (mkF m 13 #[vr a0, vi p1] [(.int ((us.getD (p1).toNatClampNeg 0) &&& (255 : Int32)))]) (fun _ k => XS.iand X2.here hx rfl (hb hby d25_12) rfl k) ?_
  refine gb (mkF m 14 #[vr a0, vi p1] [(.int (((us.getD (p1).toNatClampNeg 0) &&& (255 : Int32)).toUInt32.toUInt16.toUInt32.toInt32))]) (fun _ k => XS.i2c X2.here hx rfl (hb hby d25_13) rfl k) ?_
  exact Gl.outN X2 hx hk (t := .char) Bd.returns (by simp) (hb hby d25_14) ⟨(congrArg (fun z => some (Value.int z)) (show nar .char (((us.getD (p1).toNatClampNeg 0) &&& (255 : Int32)).toUInt32.toUInt16.toUInt32.toInt32) = fn25 p1 us w1 w2 w3 G1 sf by unfold fn25; try rfl)), N2, e2⟩ (by decide) (by decide)
theorem d12_0 : decode jdk_42_method_152_code 0 = .ok (.getstatic 38, 3) := by decide +kernel
theorem d12_3 : decode jdk_42_method_152_code 3 = .ok (.ifCond .eq 10, 3) := by decide +kernel
theorem d12_6 : decode jdk_42_method_152_code 6 = .ok (.aload_n 0, 1) := by decide +kernel
theorem d12_7 : decode jdk_42_method_152_code 7 = .ok (.getfield 15, 3) := by decide +kernel
theorem d12_10 : decode jdk_42_method_152_code 10 = .ok (.goto 4, 3) := by decide +kernel
theorem d12_14 : decode jdk_42_method_152_code 14 = .ok (.ireturn, 1) := by decide +kernel
theorem ef12 (m : MethodId) (x0 : Addr) : entryFrame m #[(.ref x0)] 1 = mkF m 0 #[.val (.ref x0)] [] := by first | (simp [entryFrame, mkF, argsToLocals, Value.category]; done) | rfl
def Q12 (Z : State) (a0 : Addr) (cd : Int32) (w1 w2 w3 : Addr) (G1 : Int32) (sf : Value) (h0 : Heap) (n0 : Nat) (v : Option Value) (h : Heap) (L : List Loc) : Prop := v = some (.int (cd.toInt8.toInt32)) ∧ Fr n0 L ∧ h = h0
theorem rm12 (l : Launch) (Z : State) (a0' : Array Value) (hw : ∀ d ∈ tables_1, d.before a0' Z = true) (ws : List Jvm.Cond) (a0 : Addr) (cd : Int32) (w1 w2 w3 : Addr) (G1 : Int32) (sf : Value) (h0 : Heap) (n0 : Nat) (O : Old Z n0 h0) (W : Wd Z w1 w2 w3 G1 sf) (pf0 : Exa Z h0 a0 "java/lang/String") (pf1 : Fld Z h0 a0 "java/lang/String" "coder" "B" (.int cd)) :
    MetFree l mq3 (head1 (Jvm.Cond.code mq3 jdk_42_method_152_code 1 (some .byte) :: ws) ({ frames := 0, cells := 0, slots := 0, locals := 0 } : Room)) (fun a U => a = #[(.ref a0)] ∧ Z.Warmed39 U.vm ∧ U.heap = h0) (fun _ _ _ _ _ => True) (fun _ U o U' => ∃ v L, o = .returned v ∧ Q12 Z a0 cd w1 w2 w3 G1 sf h0 n0 v U'.heap L ∧ FrameEnd U o U' L ({ frames := 0, cells := 0, slots := 0, locals := 0 } : Room).cells ({ frames := 0, cells := 0, slots := 0, locals := 0 } : Room).slots) := by
  refine MetFree.of_bodySF (plainFor_of_name pn1) hisR ?_
  intro p e s m args below meth c s₁ Bd hml0 hP hK
  obtain ⟨rfl, hZ, hh⟩ := hP
  have hx := Bd.exec
  have hby := Bd.bytes
  have hml : c.maxLocals = 1 := hml0
  have hown : s.vm.findClass "java/lang/String" = some m.cls := findClass_of_methodNamed Bd.named
  have hnm := (name_of_methodNamed Bd.named Bd.method).1
  have hk := Bd.notSynchronized
  have X0 : Stand p l e ({ frames := 0, cells := 0, slots := 0, locals := 0 } : Room) s m #[(.ref a0)] below meth c s₁ [] 0 0 := Stand.of_body Bd
  have hh2 := hh
  have e0 : s₁.heap = h0 := by rw [← hh, Bd.state]; rfl
  have N0 := Fr.nil n0
  show Gl p e below (Pos 0 0 (Q12 Z a0 cd w1 w2 w3 G1 sf h0 n0) s) s₁ _
  refine Gl.cast (ef12 m a0) ?_
  obtain ⟨T1, X1, e1, st1⟩ := getS2 X0 hx hZ hown (host := "") (Or.inl (hW hw 57 rfl)) Via.refl e0 (Sta.ext O.2 W.2.2.2.2.2.2.2.2.2.1) (g := (mkF m 0 #[vr a0] [])) rfl (hb hby d12_0)
  refine gb (mkF m 3 #[vr a0] [(.int G1)]) st1 ?_
  refine gb (mkF m 6 #[vr a0] []) (fun _ k => XS.ifNo X1.here hx rfl (hb hby d12_3) rfl ((if0 _ _).trans (feq W.2.2.2.2.2.2.2.2.2.2.1).1) k) ?_
  refine gb (mkF m 7 #[vr a0] [(.ref a0)]) (fun _ k => XS.aloadN X1.here hx rfl (hb hby d12_6) rfl rfl k) ?_
  obtain ⟨T2, X2, e2, st2⟩ := getF X1 hx hZ hown (host := "") (Or.inl (hW hw 30 rfl)) Via.refl e1 pf1 (g := (mkF m 7 #[vr a0] [(.ref a0)])) rfl rfl (hb hby d12_7)
  refine gb (mkF m 10 #[vr a0] [(.int cd)]) st2 ?_
  refine gb (mkF m 14 #[vr a0] [(.int cd)]) (fun _ k => XS.goto X2.here hx rfl (pc0 := 10) (pc' := 14) rfl (hb hby d12_10) (by decide) (by decide) k) ?_
  exact Gl.outN X2 hx hk (t := .byte) Bd.returns (by simp) (hb hby d12_14) ⟨rfl, N0, e2⟩ (by decide) (by decide)
theorem d10_0 : decode jdk_42_method_154_code 0 = .ok (.getstatic 38, 3) := by decide +kernel
theorem d10_3 : decode jdk_42_method_154_code 3 = .ok (.ifCond .eq 14, 3) := by decide +kernel
theorem d10_6 : decode jdk_42_method_154_code 6 = .ok (.aload_n 0, 1) := by decide +kernel
theorem d10_7 : decode jdk_42_method_154_code 7 = .ok (.getfield 15, 3) := by decide +kernel
theorem d10_10 : decode jdk_42_method_154_code 10 = .ok (.ifCond .ne 7, 3) := by decide +kernel
theorem d10_13 : decode jdk_42_method_154_code 13 = .ok (.iconst 1, 1) := by decide +kernel
theorem d10_14 : decode jdk_42_method_154_code 14 = .ok (.goto 4, 3) := by decide +kernel
theorem d10_18 : decode jdk_42_method_154_code 18 = .ok (.ireturn, 1) := by decide +kernel
theorem ef100 (m : MethodId) (x0 : Addr) : entryFrame m #[(.ref x0)] 1 = mkF m 0 #[.val (.ref x0)] [] := by first | (simp [entryFrame, mkF, argsToLocals, Value.category]; done) | rfl
def Q100 (Z : State) (a0 : Addr) (w1 w2 w3 : Addr) (G1 : Int32) (sf : Value) (h0 : Heap) (n0 : Nat) (v : Option Value) (h : Heap) (L : List Loc) : Prop := v = some (.int 1) ∧ Fr n0 L ∧ h = h0
theorem rm100 (l : Launch) (Z : State) (a0' : Array Value) (hw : ∀ d ∈ tables_1, d.before a0' Z = true) (ws : List Jvm.Cond) (a0 : Addr) (w1 w2 w3 : Addr) (G1 : Int32) (sf : Value) (h0 : Heap) (n0 : Nat) (O : Old Z n0 h0) (W : Wd Z w1 w2 w3 G1 sf) (pf0 : Exa Z h0 a0 "java/lang/String") (pf1 : Fld Z h0 a0 "java/lang/String" "coder" "B" (.int 0)) :
    MetFree l mq4 (head1 (Jvm.Cond.code mq4 jdk_42_method_154_code 1 (some .boolean) :: ws) ({ frames := 0, cells := 0, slots := 0, locals := 0 } : Room)) (fun a U => a = #[(.ref a0)] ∧ Z.Warmed39 U.vm ∧ U.heap = h0) (fun _ _ _ _ _ => True) (fun _ U o U' => ∃ v L, o = .returned v ∧ Q100 Z a0 w1 w2 w3 G1 sf h0 n0 v U'.heap L ∧ FrameEnd U o U' L ({ frames := 0, cells := 0, slots := 0, locals := 0 } : Room).cells ({ frames := 0, cells := 0, slots := 0, locals := 0 } : Room).slots) := by
  refine MetFree.of_bodySF (plainFor_of_name pn1) hisR ?_
  intro p e s m args below meth c s₁ Bd hml0 hP hK
  obtain ⟨rfl, hZ, hh⟩ := hP
  have hx := Bd.exec
  have hby := Bd.bytes
  have hml : c.maxLocals = 1 := hml0
  have hown : s.vm.findClass "java/lang/String" = some m.cls := findClass_of_methodNamed Bd.named
  have hnm := (name_of_methodNamed Bd.named Bd.method).1
  have hk := Bd.notSynchronized
  have X0 : Stand p l e ({ frames := 0, cells := 0, slots := 0, locals := 0 } : Room) s m #[(.ref a0)] below meth c s₁ [] 0 0 := Stand.of_body Bd
  have hh2 := hh
  have e0 : s₁.heap = h0 := by rw [← hh, Bd.state]; rfl
  have N0 := Fr.nil n0
  show Gl p e below (Pos 0 0 (Q100 Z a0 w1 w2 w3 G1 sf h0 n0) s) s₁ _
  refine Gl.cast (ef100 m a0) ?_
  obtain ⟨T1, X1, e1, st1⟩ := getS2 X0 hx hZ hown (host := "") (Or.inl (hW hw 57 rfl)) Via.refl e0 (Sta.ext O.2 W.2.2.2.2.2.2.2.2.2.1) (g := (mkF m 0 #[vr a0] [])) rfl (hb hby d10_0)
  refine gb (mkF m 3 #[vr a0] [(.int G1)]) st1 ?_
  refine gb (mkF m 6 #[vr a0] []) (fun _ k => XS.ifNo X1.here hx rfl (hb hby d10_3) rfl ((if0 _ _).trans (feq W.2.2.2.2.2.2.2.2.2.2.1).1) k) ?_
  refine gb (mkF m 7 #[vr a0] [(.ref a0)]) (fun _ k => XS.aloadN X1.here hx rfl (hb hby d10_6) rfl rfl k) ?_
  obtain ⟨T2, X2, e2, st2⟩ := getF X1 hx hZ hown (host := "") (Or.inl (hW hw 30 rfl)) Via.refl e1 pf1 (g := (mkF m 7 #[vr a0] [(.ref a0)])) rfl rfl (hb hby d10_7)
  refine gb (mkF m 10 #[vr a0] [(.int 0)]) st2 ?_
  refine gb (mkF m 13 #[vr a0] []) (fun _ k => XS.ifNo X2.here hx rfl (hb hby d10_10) rfl ((if0 _ _).trans (teq (by decide : (0 : Int32) = (0 : Int32))).2) k) ?_
  refine gb (mkF m 14 #[vr a0] [(.int 1)]) (fun _ k => XS.iconst X2.here hx rfl (hb hby d10_13) k) ?_
  refine gb (mkF m 18 #[vr a0] [(.int 1)]) (fun _ k => XS.goto X2.here hx rfl (pc0 := 14) (pc' := 18) rfl (hb hby d10_14) (by decide) (by decide) k) ?_
  exact Gl.outN X2 hx hk (t := .boolean) Bd.returns (by simp) (hb hby d10_18) ⟨(congrArg (fun z => some (Value.int z)) (by decide : nar .boolean (1 : Int32) = (1 : Int32))), N0, e2⟩ (by decide) (by decide)
theorem shr0 (z : Int32) : (z >>> (((0 : Int32).toInt8.toInt32) &&& 31)) = z := by
  have q : (((0 : Int32).toInt8.toInt32) &&& 31) = 0 := by decide
  rw [q]; simp
theorem d11_0 : decode jdk_42_method_54_code 0 = .ok (.aload_n 0, 1) := by decide +kernel
theorem d11_1 : decode jdk_42_method_54_code 1 = .ok (.getfield 9, 3) := by decide +kernel
theorem d11_4 : decode jdk_42_method_54_code 4 = .ok (.arraylength, 1) := by decide +kernel
theorem d11_5 : decode jdk_42_method_54_code 5 = .ok (.aload_n 0, 1) := by decide +kernel
theorem d11_6 : decode jdk_42_method_54_code 6 = .ok (.invokevirtual 335, 3) := by decide +kernel
theorem d11_9 : decode jdk_42_method_54_code 9 = .ok (.ishr, 1) := by decide +kernel
theorem d11_10 : decode jdk_42_method_54_code 10 = .ok (.ireturn, 1) := by decide +kernel
theorem pd47 : parseMethodDescriptor "()B" = some ⟨[], some .byte⟩ := by decide +kernel
theorem ef11 (m : MethodId) (x0 : Addr) : entryFrame m #[(.ref x0)] 1 = mkF m 0 #[.val (.ref x0)] [] := by first | (simp [entryFrame, mkF, argsToLocals, Value.category]; done) | rfl
def Q11 (Z : State) (a0 : Addr) (b : Addr) (kb : ClassId) (vv : List Value) (zn : Int32) (w1 w2 w3 : Addr) (G1 : Int32) (sf : Value) (h0 : Heap) (n0 : Nat) (v : Option Value) (h : Heap) (L : List Loc) : Prop := v = some (.int zn) ∧ Fr n0 L ∧ h = h0
theorem rm11 (l : Launch) (Z : State) (a0' : Array Value) (hw : ∀ d ∈ tables_1, d.before a0' Z = true) (ws : List Jvm.Cond) (a0 : Addr) (b : Addr) (kb : ClassId) (vv : List Value) (zn : Int32) (w1 w2 w3 : Addr) (G1 : Int32) (sf : Value) (h0 : Heap) (n0 : Nat) (O : Old Z n0 h0) (W : Wd Z w1 w2 w3 G1 sf) (pf0 : Exa Z h0 a0 "java/lang/String") (pf1 : Fld Z h0 a0 "java/lang/String" "value" "[B" (.ref b)) (pf2 : Fld Z h0 a0 "java/lang/String" "coder" "B" (.int 0)) (pf3 : Arv Z h0 b kb .byte zn vv (.int 0)) :
    MetFree l mq5 (head1 (Jvm.Cond.code mq5 jdk_42_method_54_code 1 (some .int) :: ws) ({ frames := 1, cells := 0, slots := 0, locals := 13 } : Room)) (fun a U => a = #[(.ref a0)] ∧ Z.Warmed39 U.vm ∧ U.heap = h0) (fun _ _ _ _ _ => True) (fun _ U o U' => ∃ v L, o = .returned v ∧ Q11 Z a0 b kb vv zn w1 w2 w3 G1 sf h0 n0 v U'.heap L ∧ FrameEnd U o U' L ({ frames := 1, cells := 0, slots := 0, locals := 13 } : Room).cells ({ frames := 1, cells := 0, slots := 0, locals := 13 } : Room).slots) := by
  refine MetFree.of_bodySF (plainFor_of_name pn1) hisR ?_
  intro p e s m args below meth c s₁ Bd hml0 hP hK
  obtain ⟨rfl, hZ, hh⟩ := hP
  have hx := Bd.exec
  have hby := Bd.bytes
  have hml : c.maxLocals = 1 := hml0
  have hown : s.vm.findClass "java/lang/String" = some m.cls := findClass_of_methodNamed Bd.named
  have hnm := (name_of_methodNamed Bd.named Bd.method).1
  have hk := Bd.notSynchronized
  have X0 : Stand p l e ({ frames := 1, cells := 0, slots := 0, locals := 13 } : Room) s m #[(.ref a0)] below meth c s₁ [] 0 0 := Stand.of_body Bd
  have hh2 := hh
  have e0 : s₁.heap = h0 := by rw [← hh, Bd.state]; rfl
  have N0 := Fr.nil n0
  show Gl p e below (Pos 0 0 (Q11 Z a0 b kb vv zn w1 w2 w3 G1 sf h0 n0) s) s₁ _
  refine Gl.cast (ef11 m a0) ?_
  refine gb (mkF m 1 #[vr a0] [(.ref a0)]) (fun _ k => XS.aloadN X0.here hx rfl (hb hby d11_0) rfl rfl k) ?_
  obtain ⟨T1, X1, e1, st1⟩ := getF X0 hx hZ hown (host := "") (Or.inl (hW hw 29 rfl)) Via.refl e0 pf1 (g := (mkF m 1 #[vr a0] [(.ref a0)])) rfl rfl (hb hby d11_1)
  refine gb (mkF m 4 #[vr a0] [(.ref b)]) st1 ?_
  obtain ⟨cl2, Ar2, qa2, Sa2, Na2, Ha2, Ga2⟩ := id pf3
  refine gb (mkF m 5 #[vr a0] [(.int zn)]) (fun t k => X1.arraylength hx (by rw [e1]; exact Ar2.1) (State.isArrayOf_alike hZ.alike Ar2.2.1) (g := (mkF m 4 #[vr a0] [(.ref b)])) rfl rfl (hb hby d11_4) t (by rw [len_of Sa2 Na2]; exact k)) ?_
  refine gb (mkF m 6 #[vr a0] [(.ref a0), (.int zn)]) (fun _ k => XS.aloadN X1.here hx rfl (hb hby d11_5) rfl rfl k) ?_
  obtain ⟨cq3, kq3, q3a, q3b, q3c⟩ := isOf hZ e1 pf0
  obtain ⟨_, _, ⟨T3, L3, k3, n3⟩, -, X3, ⟨Lc3, hQ3, l3, y3, z3⟩, st3⟩ := X1.virtualBack hx (y := mq3) (z := mq3) hown (mvT hZ (hW hw 63 rfl)) (mvT hZ (hW hw 64 rfl)) (notFace_of_selects (args := #[]) (mvT hZ (hW hw 66 rfl))) (mvT hZ (hW hw 66 rfl)) (mvT hZ (hW hw 65 rfl)) (by decide) (backOf (W := 1) (rm12 l Z a0' hw [] a0 (0 : Int32) w1 w2 w3 G1 sf h0 n0 O W pf0 pf2) hZ (hW hw 67 rfl) (hW hw 12 rfl) (by decide) (by decide)) q3a q3c (g := (mkF m 6 #[vr a0] [(.ref a0), (.int zn)])) rfl (by rw [hml]; rfl) (Steps.refl _) (argsL := []) (rest := [(.int zn)]) (lenOf pd47 rfl) rfl (Nat.le_of_eq rfl) (hb hby d11_6) (fun _ _ => ⟨rfl, e1, (by decide : 0 + 0 ≤ _), (by decide : 0 + 0 ≤ _)⟩)
  dsimp only [Pt.U, Pt.locs, Pt.cells, Pt.slots] at X3 l3 y3 z3 st3 hQ3
  subst l3 y3 z3
  obtain ⟨rfl, N3q, e3⟩ := hQ3
  have N3 := Fr.app N0 N3q
  refine gb (mkF m 9 #[vr a0] [(.int ((0 : Int32).toInt8.toInt32)), (.int zn)]) (fun _ k => st3.trans k) ?_
  refine gb (mkF m 10 #[vr a0] [(.int (zn >>> (((0 : Int32).toInt8.toInt32) &&& 31)))]) (fun _ k => XS.ishr X3.here hx rfl (hb hby d11_9) rfl k) ?_
  exact Gl.outI X3 hx hk Bd.returns (hb hby d11_10) ⟨(congrArg (fun z => some (Value.int z)) (shr0 zn)), N3, e3⟩ (by decide) (by decide)
theorem d24_0 : decode jdk_42_method_56_code 0 = .ok (.aload_n 0, 1) := by decide +kernel
theorem d24_1 : decode jdk_42_method_56_code 1 = .ok (.invokevirtual 492, 3) := by decide +kernel
theorem d24_4 : decode jdk_42_method_56_code 4 = .ok (.ifCond .eq 12, 3) := by decide +kernel
theorem d24_7 : decode jdk_42_method_56_code 7 = .ok (.aload_n 0, 1) := by decide +kernel
theorem d24_8 : decode jdk_42_method_56_code 8 = .ok (.getfield 9, 3) := by decide +kernel
theorem d24_11 : decode jdk_42_method_56_code 11 = .ok (.iload_n 1, 1) := by decide +kernel
theorem d24_12 : decode jdk_42_method_56_code 12 = .ok (.invokestatic 495, 3) := by decide +kernel
theorem d24_15 : decode jdk_42_method_56_code 15 = .ok (.ireturn, 1) := by decide +kernel
theorem pd56 : parseMethodDescriptor "()Z" = some ⟨[], some .boolean⟩ := by decide +kernel
theorem pd57 : parseMethodDescriptor "([BI)C" = some ⟨[(.array .byte), .int], some .char⟩ := by decide +kernel
theorem ef24A (m : MethodId) (x0 : Addr) (x1 : Int32) : entryFrame m #[(.ref x0), (.int x1)] 2 = mkF m 0 #[.val (.ref x0), .val (.int x1)] [] := by first | (simp [entryFrame, mkF, argsToLocals, Value.category]; done) | rfl
def fn24A (p1 : Int32) (us : List Int32) (w1 w2 w3 : Addr) (G1 : Int32) (sf : Value) : Int32 := (nar .char (fn25 p1 us w1 w2 w3 G1 sf))
def Q24A (Z : State) (a0 : Addr) (p1 : Int32) (b : Addr) (kb : ClassId) (zn : Int32) (us : List Int32) (w1 w2 w3 : Addr) (G1 : Int32) (sf : Value) (h0 : Heap) (n0 : Nat) (v : Option Value) (h : Heap) (L : List Loc) : Prop := v = some (.int (fn24A p1 us w1 w2 w3 G1 sf)) ∧ Fr n0 L ∧ h = h0
theorem rm24A (l : Launch) (Z : State) (a0' : Array Value) (hw : ∀ d ∈ tables_1, d.before a0' Z = true) (ws : List Jvm.Cond) (a0 : Addr) (p1 : Int32) (b : Addr) (kb : ClassId) (zn : Int32) (us : List Int32) (w1 w2 w3 : Addr) (G1 : Int32) (sf : Value) (h0 : Heap) (n0 : Nat) (O : Old Z n0 h0) (W : Wd Z w1 w2 w3 G1 sf) (pf0 : Exa Z h0 a0 "java/lang/String") (pf1 : Fld Z h0 a0 "java/lang/String" "value" "[B" (.ref b)) (pf2 : Fld Z h0 a0 "java/lang/String" "coder" "B" (.int 0)) (pf3 : Arv Z h0 b kb .byte zn (us.map Value.int) (.int 0)) (h1 : ¬ p1 < (0 : Int32)) (h2 : p1 < zn) :
    MetFree l mq6 (head1 (Jvm.Cond.code mq6 jdk_42_method_56_code 2 (some .char) :: ws) ({ frames := 3, cells := 0, slots := 0, locals := 40 } : Room)) (fun a U => a = #[(.ref a0), (.int p1)] ∧ Z.Warmed39 U.vm ∧ U.heap = h0) (fun _ _ _ _ _ => True) (fun _ U o U' => ∃ v L, o = .returned v ∧ Q24A Z a0 p1 b kb zn us w1 w2 w3 G1 sf h0 n0 v U'.heap L ∧ FrameEnd U o U' L ({ frames := 3, cells := 0, slots := 0, locals := 40 } : Room).cells ({ frames := 3, cells := 0, slots := 0, locals := 40 } : Room).slots) := by
  refine MetFree.of_bodySF (plainFor_of_name pn1) hisR ?_
  intro p e s m args below meth c s₁ Bd hml0 hP hK
  obtain ⟨rfl, hZ, hh⟩ := hP
  have hx := Bd.exec
  have hby := Bd.bytes
  have hml : c.maxLocals = 2 := hml0
  have hown : s.vm.findClass "java/lang/String" = some m.cls := findClass_of_methodNamed Bd.named
  have hnm := (name_of_methodNamed Bd.named Bd.method).1
  have hk := Bd.notSynchronized
  have X0 : Stand p l e ({ frames := 3, cells := 0, slots := 0, locals := 40 } : Room) s m #[(.ref a0), (.int p1)] below meth c s₁ [] 0 0 := Stand.of_body Bd
  have hh2 := hh
  have e0 : s₁.heap = h0 := by rw [← hh, Bd.state]; rfl
  have N0 := Fr.nil n0
  show Gl p e below (Pos 0 0 (Q24A Z a0 p1 b kb zn us w1 w2 w3 G1 sf h0 n0) s) s₁ _
  refine Gl.cast (ef24A m a0 p1) ?_
  refine gb (mkF m 1 #[vr a0, vi p1] [(.ref a0)]) (fun _ k => XS.aloadN X0.here hx rfl (hb hby d24_0) rfl rfl k) ?_
  obtain ⟨cq1, kq1, q1a, q1b, q1c⟩ := isOf hZ e0 pf0
  obtain ⟨_, _, ⟨T1, L1, k1, n1⟩, -, X1, ⟨Lc1, hQ1, l1, y1, z1⟩, st1⟩ := X0.virtualBack hx (y := mq4) (z := mq4) hown (mvT hZ (hW hw 52 rfl)) (mvT hZ (hW hw 53 rfl)) (notFace_of_selects (args := #[]) (mvT hZ (hW hw 55 rfl))) (mvT hZ (hW hw 55 rfl)) (mvT hZ (hW hw 54 rfl)) (by decide) (backOf (W := 0) (rm100 l Z a0' hw [] a0 w1 w2 w3 G1 sf h0 n0 O W pf0 pf2) hZ (hW hw 56 rfl) (hW hw 12 rfl) (by decide) (by decide)) q1a q1c (g := (mkF m 1 #[vr a0, vi p1] [(.ref a0)])) rfl (by rw [hml]; rfl) (Steps.refl _) (argsL := []) (rest := []) (lenOf pd56 rfl) rfl (Nat.le_of_eq rfl) (hb hby d24_1) (fun _ _ => ⟨rfl, e0, (by decide : 0 + 0 ≤ _), (by decide : 0 + 0 ≤ _)⟩)
  dsimp only [Pt.U, Pt.locs, Pt.cells, Pt.slots] at X1 l1 y1 z1 st1 hQ1
  subst l1 y1 z1
  obtain ⟨rfl, N1q, e1⟩ := hQ1
  have N1 := Fr.app N0 N1q
  refine gb (mkF m 4 #[vr a0, vi p1] [(.int 1)]) (fun _ k => st1.trans k) ?_
  refine gb (mkF m 7 #[vr a0, vi p1] []) (fun _ k => XS.ifNo X1.here hx rfl (hb hby d24_4) rfl ((if0 _ _).trans (feq (by decide : ¬ ((1 : Int32) = (0 : Int32)))).1) k) ?_
  refine gb (mkF m 8 #[vr a0, vi p1] [(.ref a0)]) (fun _ k => XS.aloadN X1.here hx rfl (hb hby d24_7) rfl rfl k) ?_
  obtain ⟨T2, X2, e2, st2⟩ := getF X1 hx hZ hown (host := "") (Or.inl (hW hw 29 rfl)) Via.refl e1 pf1 (g := (mkF m 8 #[vr a0, vi p1] [(.ref a0)])) rfl rfl (hb hby d24_8)
  refine gb (mkF m 11 #[vr a0, vi p1] [(.ref b)]) st2 ?_
  refine gb (mkF m 12 #[vr a0, vi p1] [(.int p1), (.ref b)]) (fun _ k => XS.iloadN X2.here hx rfl (hb hby d24_11) rfl k) ?_
  obtain ⟨_, _, ⟨T3, L3, k3, n3⟩, -, X3, ⟨Lc3, hQ3, l3, y3, z3⟩, st3⟩ := callS X2 hx (y := mq2) hown (mvT hZ (hW hw 120 rfl)) (mvT hZ (hW hw 121 rfl)) (mvT hZ (hW hw 70 rfl)) (mvT hZ (hW hw 122 rfl)) (by decide) (backOf (W := 0) (rm25 l Z a0' hw [] b p1 kb zn us w1 w2 w3 G1 sf h0 n0 O W pf3 h1 h2) hZ (hW hw 122 rfl) (hW hw 70 rfl) (by decide) (by decide)) (g := (mkF m 12 #[vr a0, vi p1] [(.int p1), (.ref b)])) rfl (by rw [hml]; rfl) (argsL := [(.ref b), (.int p1)]) (rest := []) (lenOf pd57 rfl) rfl (Nat.le_of_eq rfl) (hb hby d24_12) (fun _ _ => ⟨rfl, e2, (by decide : 0 + 0 ≤ _), (by decide : 0 + 0 ≤ _)⟩)
  dsimp only [Pt.U, Pt.locs, Pt.cells, Pt.slots] at X3 l3 y3 z3 st3 hQ3
  subst l3 y3 z3
  obtain ⟨rfl, N3q, e3⟩ := hQ3
  have N3 := Fr.app N1 N3q
  refine gb (mkF m 15 #[vr a0, vi p1] [(.int (fn25 p1 us w1 w2 w3 G1 sf))]) st3 ?_
  exact Gl.outN X3 hx hk (t := .char) Bd.returns (by simp) (hb hby d24_15) ⟨(congrArg (fun z => some (Value.int z)) (show nar .char (fn25 p1 us w1 w2 w3 G1 sf) = fn24A p1 us w1 w2 w3 G1 sf by unfold fn24A; try rfl)), N3, e3⟩ (by decide) (by decide)
theorem d20_0 : decode jdk_52_method_21_code 0 = .ok (.iconst 0, 1) := by decide +kernel
theorem d20_1 : decode jdk_52_method_21_code 1 = .ok (.istore 5, 2) := by decide +kernel
theorem d20_3 : decode jdk_52_method_21_code 3 = .ok (.iload 5, 2) := by decide +kernel
theorem d20_5 : decode jdk_52_method_21_code 5 = .ok (.iload 4, 2) := by decide +kernel
theorem d20_7 : decode jdk_52_method_21_code 7 = .ok (.if_icmp .ge 37, 3) := by decide +kernel
theorem d20_10 : decode jdk_52_method_21_code 10 = .ok (.aload_n 0, 1) := by decide +kernel
theorem d20_11 : decode jdk_52_method_21_code 11 = .ok (.iload_n 1, 1) := by decide +kernel
theorem d20_12 : decode jdk_52_method_21_code 12 = .ok (.caload, 1) := by decide +kernel
theorem d20_13 : decode jdk_52_method_21_code 13 = .ok (.istore 6, 2) := by decide +kernel
theorem d20_15 : decode jdk_52_method_21_code 15 = .ok (.iload 6, 2) := by decide +kernel
theorem d20_17 : decode jdk_52_method_21_code 17 = .ok (.sipush 255, 3) := by decide +kernel
theorem d20_20 : decode jdk_52_method_21_code 20 = .ok (.if_icmp .le 6, 3) := by decide +kernel
theorem d20_26 : decode jdk_52_method_21_code 26 = .ok (.aload_n 2, 1) := by decide +kernel
theorem d20_27 : decode jdk_52_method_21_code 27 = .ok (.iload_n 3, 1) := by decide +kernel
theorem d20_28 : decode jdk_52_method_21_code 28 = .ok (.iload 6, 2) := by decide +kernel
theorem d20_30 : decode jdk_52_method_21_code 30 = .ok (.i2b, 1) := by decide +kernel
theorem d20_31 : decode jdk_52_method_21_code 31 = .ok (.bastore, 1) := by decide +kernel
theorem d20_32 : decode jdk_52_method_21_code 32 = .ok (.iinc 1 1, 3) := by decide +kernel
theorem d20_35 : decode jdk_52_method_21_code 35 = .ok (.iinc 3 1, 3) := by decide +kernel
theorem d20_38 : decode jdk_52_method_21_code 38 = .ok (.iinc 5 1, 3) := by decide +kernel
theorem d20_41 : decode jdk_52_method_21_code 41 = .ok (.goto (-38), 3) := by decide +kernel
theorem d20_44 : decode jdk_52_method_21_code 44 = .ok (.iload 4, 2) := by decide +kernel
theorem d20_46 : decode jdk_52_method_21_code 46 = .ok (.ireturn, 1) := by decide +kernel
theorem pn3 : plainName "java/lang/StringUTF16" = true := by first | (simp [plainName, overriddenIn]; done) | decide +kernel
theorem ef201 (m : MethodId) (x0 : Addr) (x1 : Int32) (x2 : Addr) (x3 : Int32) (x4 : Int32) : entryFrame m #[(.ref x0), (.int x1), (.ref x2), (.int x3), (.int x4)] 7 = mkF m 0 #[.val (.ref x0), .val (.int x1), .val (.ref x2), .val (.int x3), .val (.int x4), .unset, .unset] [] := by first | (simp [entryFrame, mkF, argsToLocals, Value.category]; done) | rfl
def Q201 (Z : State) (a0 : Addr) (a2 : Addr) (ka : ClassId) (kb : ClassId) (x0 : Int32) (w1 w2 w3 : Addr) (G1 : Int32) (sf : Value) (h0 : Heap) (n0 : Nat) (v : Option Value) (h : Heap) (L : List Loc) : Prop := v = some (.int 1) ∧ Fr n0 L ∧ Keep h0 h [a2] ∧ Arv Z h a2 kb .byte (1 : Int32) [(.int (bL x0))] (.int 0)
theorem rm201 (l : Launch) (Z : State) (a0' : Array Value) (hw : ∀ d ∈ tables_1, d.before a0' Z = true) (ws : List Jvm.Cond) (a0 : Addr) (a2 : Addr) (ka : ClassId) (kb : ClassId) (x0 : Int32) (w1 w2 w3 : Addr) (G1 : Int32) (sf : Value) (h0 : Heap) (n0 : Nat) (O : Old Z n0 h0) (W : Wd Z w1 w2 w3 G1 sf) (pf0 : Arv Z h0 a0 ka .char (1 : Int32) [(.int x0)] (.int 0)) (pf1 : Arv Z h0 a2 kb .byte (1 : Int32) [(.int 0)] (.int 0)) (gp_a2 : n0 ≤ a2) (np_a0_a2 : a0 ≠ a2) (hx0 : ¬ (255 : Int32) < x0) :
    MetFree l mq7 (head1 (Jvm.Cond.code mq7 jdk_52_method_21_code 7 (some .int) :: ws) ({ frames := 0, cells := 0, slots := 0, locals := 0 } : Room)) (fun a U => a = #[(.ref a0), (.int 0), (.ref a2), (.int 0), (.int 1)] ∧ Z.Warmed39 U.vm ∧ U.heap = h0) (fun _ _ _ _ _ => True) (fun _ U o U' => ∃ v L, o = .returned v ∧ Q201 Z a0 a2 ka kb x0 w1 w2 w3 G1 sf h0 n0 v U'.heap L ∧ FrameEnd U o U' L ({ frames := 0, cells := 0, slots := 0, locals := 0 } : Room).cells ({ frames := 0, cells := 0, slots := 0, locals := 0 } : Room).slots) := by
  refine MetFree.of_bodySF (plainFor_of_name pn3) hisR ?_
  intro p e s m args below meth c s₁ Bd hml0 hP hK
  obtain ⟨rfl, hZ, hh⟩ := hP
  have hx := Bd.exec
  have hby := Bd.bytes
  have hml : c.maxLocals = 7 := hml0
  have hown : s.vm.findClass "java/lang/StringUTF16" = some m.cls := findClass_of_methodNamed Bd.named
  have hnm := (name_of_methodNamed Bd.named Bd.method).1
  have hk := Bd.notSynchronized
  have X0 : Stand p l e ({ frames := 0, cells := 0, slots := 0, locals := 0 } : Room) s m #[(.ref a0), (.int 0), (.ref a2), (.int 0), (.int 1)] below meth c s₁ [] 0 0 := Stand.of_body Bd
  have hh2 := hh
  have e0 : s₁.heap = h0 := by rw [← hh, Bd.state]; rfl
  have N0 := Fr.nil n0
  show Gl p e below (Pos 0 0 (Q201 Z a0 a2 ka kb x0 w1 w2 w3 G1 sf h0 n0) s) s₁ _
  refine Gl.cast (ef201 m a0 (0 : Int32) a2 (0 : Int32) (1 : Int32)) ?_
  refine gb (mkF m 1 #[vr a0, vi 0, vr a2, vi 0, vi 1, .unset, .unset] [(.int 0)]) (fun _ k => XS.iconst X0.here hx rfl (hb hby d20_0) k) ?_
  refine gb (mkF m 3 #[vr a0, vi 0, vr a2, vi 0, vi 1, vi 0, .unset] []) (fun _ k => XS.istore X0.here hx rfl (hb hby d20_1) rfl (l' := #[vr a0, vi 0, vr a2, vi 0, vi 1, vi 0, .unset]) rfl k) ?_
  refine gb (mkF m 5 #[vr a0, vi 0, vr a2, vi 0, vi 1, vi 0, .unset] [(.int 0)]) (fun _ k => XS.iload X0.here hx rfl (hb hby d20_3) rfl k) ?_
  refine gb (mkF m 7 #[vr a0, vi 0, vr a2, vi 0, vi 1, vi 0, .unset] [(.int 1), (.int 0)]) (fun _ k => XS.iload X0.here hx rfl (hb hby d20_5) rfl k) ?_
  refine gb (mkF m 10 #[vr a0, vi 0, vr a2, vi 0, vi 1, vi 0, .unset] []) (fun _ k => XS.icmpNo X0.here hx rfl (hb hby d20_7) rfl (tlt (by decide : (0 : Int32) < (1 : Int32))).2.1 k) ?_
  refine gb (mkF m 11 #[vr a0, vi 0, vr a2, vi 0, vi 1, vi 0, .unset] [(.ref a0)]) (fun _ k => XS.aloadN X0.here hx rfl (hb hby d20_10) rfl rfl k) ?_
  refine gb (mkF m 12 #[vr a0, vi 0, vr a2, vi 0, vi 1, vi 0, .unset] [(.int 0), (.ref a0)]) (fun _ k => XS.iloadN X0.here hx rfl (hb hby d20_11) rfl k) ?_
  obtain ⟨cl1, Ar1, qa1, Sa1, Na1, Ha1, Ga1⟩ := id pf0
  have hin2 : ¬ ((0 : Int32) < 0 ∨ cl1.slots.size ≤ ((0 : Int32)).toNatClampNeg) := inb_of Sa1 ⟨by decide, by decide⟩
  refine gb (mkF m 13 #[vr a0, vi 0, vr a2, vi 0, vi 1, vi 0, .unset] [(.int x0)]) (X0.caload hx (j := (0 : Int32)) (v := (.int x0)) (by rw [e0]; exact Ar1.1) (State.isArrayOf_alike hZ.alike Ar1.2.1) Ar1.2.2 hin2 (Has.at Ha1 hin2 rfl) (g := (mkF m 12 #[vr a0, vi 0, vr a2, vi 0, vi 1, vi 0, .unset] [(.int 0), (.ref a0)])) rfl rfl (hb hby d20_12)) ?_
  refine gb (mkF m 15 #[vr a0, vi 0, vr a2, vi 0, vi 1, vi 0, vi x0] []) (fun _ k => XS.istore X0.here hx rfl (hb hby d20_13) rfl (l' := #[vr a0, vi 0, vr a2, vi 0, vi 1, vi 0, vi x0]) rfl k) ?_
  refine gb (mkF m 17 #[vr a0, vi 0, vr a2, vi 0, vi 1, vi 0, vi x0] [(.int x0)]) (fun _ k => XS.iload X0.here hx rfl (hb hby d20_15) rfl k) ?_
  refine gb (mkF m 20 #[vr a0, vi 0, vr a2, vi 0, vi 1, vi 0, vi x0] [(.int 255), (.int x0)]) (fun _ k => XS.sipush X0.here hx rfl (hb hby d20_17) k) ?_
  refine gb (mkF m 26 #[vr a0, vi 0, vr a2, vi 0, vi 1, vi 0, vi x0] []) (fun _ k => XS.icmpYes X0.here hx rfl (pc0 := 20) (pc' := 26) rfl (hb hby d20_20) rfl (flt hx0).2.2.2 (by decide) (by decide) k) ?_
  refine gb (mkF m 27 #[vr a0, vi 0, vr a2, vi 0, vi 1, vi 0, vi x0] [(.ref a2)]) (fun _ k => XS.aloadN X0.here hx rfl (hb hby d20_26) rfl rfl k) ?_
  refine gb (mkF m 28 #[vr a0, vi 0, vr a2, vi 0, vi 1, vi 0, vi x0] [(.int 0), (.ref a2)]) (fun _ k => XS.iloadN X0.here hx rfl (hb hby d20_27) rfl k) ?_
  refine gb (mkF m 30 #[vr a0, vi 0, vr a2, vi 0, vi 1, vi 0, vi x0] [(.int x0), (.int 0), (.ref a2)]) (fun _ k => XS.iload X0.here hx rfl (hb hby d20_28) rfl k) ?_
  refine gb (mkF m 31 #[vr a0, vi 0, vr a2, vi 0, vi 1, vi 0, vi x0] [(.int (x0.toInt8.toInt32)), (.int 0), (.ref a2)]) (fun _ k => XS.i2b X0.here hx rfl (hb hby d20_30) rfl k) ?_
  obtain ⟨cl3, Ar3, qa3, Sa3, Na3, Ha3, Ga3⟩ := id pf1
  have hin4 : ¬ ((0 : Int32) < 0 ∨ cl3.slots.size ≤ ((0 : Int32)).toNatClampNeg) := inb_of Sa3 ⟨by decide, by decide⟩
  obtain ⟨T4, h4, X4, e4, W4, st4⟩ := stB X0 hx hZ e0 Ar3 (j := (0 : Int32)) hin4 (g := (mkF m 31 #[vr a0, vi 0, vr a2, vi 0, vi 1, vi 0, vi x0] [(.int (x0.toInt8.toInt32)), (.int 0), (.ref a2)])) rfl rfl (hb hby d20_31)
  have V4 : Arv Z h4 a2 kb .byte (1 : Int32) [(.int ((x0.toInt8.toInt32).toInt8.toInt32))] (.int 0) := Arv.set Ar3 qa3 Sa3 Na3 Ha3 Ga3 (fits_nar_byte _) W4 0 rfl (Nat.le_of_ble_eq_true rfl)
  have N4 := Fr.snoc X4 N0 gp_a2
  refine gb (mkF m 32 #[vr a0, vi 0, vr a2, vi 0, vi 1, vi 0, vi x0] []) st4 ?_
  refine gb (mkF m 35 #[vr a0, vi 1, vr a2, vi 0, vi 1, vi 0, vi x0] []) (fun _ k => XS.iinc X4.here hx rfl (hb hby d20_32) rfl (l' := #[vr a0, vi 1, vr a2, vi 0, vi 1, vi 0, vi x0]) rfl k) ?_
  refine gb (mkF m 38 #[vr a0, vi 1, vr a2, vi 1, vi 1, vi 0, vi x0] []) (fun _ k => XS.iinc X4.here hx rfl (hb hby d20_35) rfl (l' := #[vr a0, vi 1, vr a2, vi 1, vi 1, vi 0, vi x0]) rfl k) ?_
  refine gb (mkF m 41 #[vr a0, vi 1, vr a2, vi 1, vi 1, vi 1, vi x0] []) (fun _ k => XS.iinc X4.here hx rfl (hb hby d20_38) rfl (l' := #[vr a0, vi 1, vr a2, vi 1, vi 1, vi 1, vi x0]) rfl k) ?_
  refine gb (mkF m 3 #[vr a0, vi 1, vr a2, vi 1, vi 1, vi 1, vi x0] []) (fun _ k => XS.goto X4.here hx rfl (pc0 := 41) (pc' := 3) rfl (hb hby d20_41) (by decide) (by decide) k) ?_
  refine gb (mkF m 5 #[vr a0, vi 1, vr a2, vi 1, vi 1, vi 1, vi x0] [(.int 1)]) (fun _ k => XS.iload X4.here hx rfl (hb hby d20_3) rfl k) ?_
  refine gb (mkF m 7 #[vr a0, vi 1, vr a2, vi 1, vi 1, vi 1, vi x0] [(.int 1), (.int 1)]) (fun _ k => XS.iload X4.here hx rfl (hb hby d20_5) rfl k) ?_
  refine gb (mkF m 44 #[vr a0, vi 1, vr a2, vi 1, vi 1, vi 1, vi x0] []) (fun _ k => XS.icmpYes X4.here hx rfl (pc0 := 7) (pc' := 44) rfl (hb hby d20_7) rfl (flt (by decide : ¬ ((1 : Int32) < (1 : Int32)))).2.1 (by decide) (by decide) k) ?_
  refine gb (mkF m 46 #[vr a0, vi 1, vr a2, vi 1, vi 1, vi 1, vi x0] [(.int 1)]) (fun _ k => XS.iload X4.here hx rfl (hb hby d20_44) rfl k) ?_
  have K5 := ((Keep.refl h0 [a2]).wr W4 (Or.inl (List.mem_of_getElem? (i := 0) rfl)))
  exact Gl.outI X4 hx hk Bd.returns (hb hby d20_46) (Eq.mpr (congrArg (fun hh => Q201 Z a0 a2 ka kb x0 w1 w2 w3 G1 sf h0 n0 _ hh _) e4) (show Q201 Z a0 a2 ka kb x0 w1 w2 w3 G1 sf h0 n0 _ h4 _ from ⟨rfl, N4, K5, V4⟩)) (by decide) (by decide)
theorem ef202 (m : MethodId) (x0 : Addr) (x1 : Int32) (x2 : Addr) (x3 : Int32) (x4 : Int32) : entryFrame m #[(.ref x0), (.int x1), (.ref x2), (.int x3), (.int x4)] 7 = mkF m 0 #[.val (.ref x0), .val (.int x1), .val (.ref x2), .val (.int x3), .val (.int x4), .unset, .unset] [] := by first | (simp [entryFrame, mkF, argsToLocals, Value.category]; done) | rfl
def Q202 (Z : State) (a0 : Addr) (a2 : Addr) (ka : ClassId) (kb : ClassId) (x0 : Int32) (x1 : Int32) (w1 w2 w3 : Addr) (G1 : Int32) (sf : Value) (h0 : Heap) (n0 : Nat) (v : Option Value) (h : Heap) (L : List Loc) : Prop := v = some (.int 2) ∧ Fr n0 L ∧ Keep h0 h [a2] ∧ Arv Z h a2 kb .byte (2 : Int32) [(.int (bL x0)), (.int (bL x1))] (.int 0)
theorem rm202 (l : Launch) (Z : State) (a0' : Array Value) (hw : ∀ d ∈ tables_1, d.before a0' Z = true) (ws : List Jvm.Cond) (a0 : Addr) (a2 : Addr) (ka : ClassId) (kb : ClassId) (x0 : Int32) (x1 : Int32) (w1 w2 w3 : Addr) (G1 : Int32) (sf : Value) (h0 : Heap) (n0 : Nat) (O : Old Z n0 h0) (W : Wd Z w1 w2 w3 G1 sf) (pf0 : Arv Z h0 a0 ka .char (2 : Int32) [(.int x0), (.int x1)] (.int 0)) (pf1 : Arv Z h0 a2 kb .byte (2 : Int32) [(.int 0), (.int 0)] (.int 0)) (gp_a2 : n0 ≤ a2) (np_a0_a2 : a0 ≠ a2) (hx0 : ¬ (255 : Int32) < x0) (hx1 : ¬ (255 : Int32) < x1) :
    MetFree l mq7 (head1 (Jvm.Cond.code mq7 jdk_52_method_21_code 7 (some .int) :: ws) ({ frames := 0, cells := 0, slots := 0, locals := 0 } : Room)) (fun a U => a = #[(.ref a0), (.int 0), (.ref a2), (.int 0), (.int 2)] ∧ Z.Warmed39 U.vm ∧ U.heap = h0) (fun _ _ _ _ _ => True) (fun _ U o U' => ∃ v L, o = .returned v ∧ Q202 Z a0 a2 ka kb x0 x1 w1 w2 w3 G1 sf h0 n0 v U'.heap L ∧ FrameEnd U o U' L ({ frames := 0, cells := 0, slots := 0, locals := 0 } : Room).cells ({ frames := 0, cells := 0, slots := 0, locals := 0 } : Room).slots) := by
  refine MetFree.of_bodySF (plainFor_of_name pn3) hisR ?_
  intro p e s m args below meth c s₁ Bd hml0 hP hK
  obtain ⟨rfl, hZ, hh⟩ := hP
  have hx := Bd.exec
  have hby := Bd.bytes
  have hml : c.maxLocals = 7 := hml0
  have hown : s.vm.findClass "java/lang/StringUTF16" = some m.cls := findClass_of_methodNamed Bd.named
  have hnm := (name_of_methodNamed Bd.named Bd.method).1
  have hk := Bd.notSynchronized
  have X0 : Stand p l e ({ frames := 0, cells := 0, slots := 0, locals := 0 } : Room) s m #[(.ref a0), (.int 0), (.ref a2), (.int 0), (.int 2)] below meth c s₁ [] 0 0 := Stand.of_body Bd
  have hh2 := hh
  have e0 : s₁.heap = h0 := by rw [← hh, Bd.state]; rfl
  have N0 := Fr.nil n0
  show Gl p e below (Pos 0 0 (Q202 Z a0 a2 ka kb x0 x1 w1 w2 w3 G1 sf h0 n0) s) s₁ _
  refine Gl.cast (ef202 m a0 (0 : Int32) a2 (0 : Int32) (2 : Int32)) ?_
  refine gb (mkF m 1 #[vr a0, vi 0, vr a2, vi 0, vi 2, .unset, .unset] [(.int 0)]) (fun _ k => XS.iconst X0.here hx rfl (hb hby d20_0) k) ?_
  refine gb (mkF m 3 #[vr a0, vi 0, vr a2, vi 0, vi 2, vi 0, .unset] []) (fun _ k => XS.istore X0.here hx rfl (hb hby d20_1) rfl (l' := #[vr a0, vi 0, vr a2, vi 0, vi 2, vi 0, .unset]) rfl k) ?_
  refine gb (mkF m 5 #[vr a0, vi 0, vr a2, vi 0, vi 2, vi 0, .unset] [(.int 0)]) (fun _ k => XS.iload X0.here hx rfl (hb hby d20_3) rfl k) ?_
  refine gb (mkF m 7 #[vr a0, vi 0, vr a2, vi 0, vi 2, vi 0, .unset] [(.int 2), (.int 0)]) (fun _ k => XS.iload X0.here hx rfl (hb hby d20_5) rfl k) ?_
  refine gb (mkF m 10 #[vr a0, vi 0, vr a2, vi 0, vi 2, vi 0, .unset] []) (fun _ k => XS.icmpNo X0.here hx rfl (hb hby d20_7) rfl (tlt (by decide : (0 : Int32) < (2 : Int32))).2.1 k) ?_
  refine gb (mkF m 11 #[vr a0, vi 0, vr a2, vi 0, vi 2, vi 0, .unset] [(.ref a0)]) (fun _ k => XS.aloadN X0.here hx rfl (hb hby d20_10) rfl rfl k) ?_
  refine gb (mkF m 12 #[vr a0, vi 0, vr a2, vi 0, vi 2, vi 0, .unset] [(.int 0), (.ref a0)]) (fun _ k => XS.iloadN X0.here hx rfl (hb hby d20_11) rfl k) ?_
  obtain ⟨cl1, Ar1, qa1, Sa1, Na1, Ha1, Ga1⟩ := id pf0
  have hin2 : ¬ ((0 : Int32) < 0 ∨ cl1.slots.size ≤ ((0 : Int32)).toNatClampNeg) := inb_of Sa1 ⟨by decide, by decide⟩
  refine gb (mkF m 13 #[vr a0, vi 0, vr a2, vi 0, vi 2, vi 0, .unset] [(.int x0)]) (X0.caload hx (j := (0 : Int32)) (v := (.int x0)) (by rw [e0]; exact Ar1.1) (State.isArrayOf_alike hZ.alike Ar1.2.1) Ar1.2.2 hin2 (Has.at Ha1 hin2 rfl) (g := (mkF m 12 #[vr a0, vi 0, vr a2, vi 0, vi 2, vi 0, .unset] [(.int 0), (.ref a0)])) rfl rfl (hb hby d20_12)) ?_
  refine gb (mkF m 15 #[vr a0, vi 0, vr a2, vi 0, vi 2, vi 0, vi x0] []) (fun _ k => XS.istore X0.here hx rfl (hb hby d20_13) rfl (l' := #[vr a0, vi 0, vr a2, vi 0, vi 2, vi 0, vi x0]) rfl k) ?_
  refine gb (mkF m 17 #[vr a0, vi 0, vr a2, vi 0, vi 2, vi 0, vi x0] [(.int x0)]) (fun _ k => XS.iload X0.here hx rfl (hb hby d20_15) rfl k) ?_
  refine gb (mkF m 20 #[vr a0, vi 0, vr a2, vi 0, vi 2, vi 0, vi x0] [(.int 255), (.int x0)]) (fun _ k => XS.sipush X0.here hx rfl (hb hby d20_17) k) ?_
  refine gb (mkF m 26 #[vr a0, vi 0, vr a2, vi 0, vi 2, vi 0, vi x0] []) (fun _ k => XS.icmpYes X0.here hx rfl (pc0 := 20) (pc' := 26) rfl (hb hby d20_20) rfl (flt hx0).2.2.2 (by decide) (by decide) k) ?_
  refine gb (mkF m 27 #[vr a0, vi 0, vr a2, vi 0, vi 2, vi 0, vi x0] [(.ref a2)]) (fun _ k => XS.aloadN X0.here hx rfl (hb hby d20_26) rfl rfl k) ?_
  refine gb (mkF m 28 #[vr a0, vi 0, vr a2, vi 0, vi 2, vi 0, vi x0] [(.int 0), (.ref a2)]) (fun _ k => XS.iloadN X0.here hx rfl (hb hby d20_27) rfl k) ?_
  refine gb (mkF m 30 #[vr a0, vi 0, vr a2, vi 0, vi 2, vi 0, vi x0] [(.int x0), (.int 0), (.ref a2)]) (fun _ k => XS.iload X0.here hx rfl (hb hby d20_28) rfl k) ?_
  refine gb (mkF m 31 #[vr a0, vi 0, vr a2, vi 0, vi 2, vi 0, vi x0] [(.int (x0.toInt8.toInt32)), (.int 0), (.ref a2)]) (fun _ k => XS.i2b X0.here hx rfl (hb hby d20_30) rfl k) ?_
  obtain ⟨cl3, Ar3, qa3, Sa3, Na3, Ha3, Ga3⟩ := id pf1
  have hin4 : ¬ ((0 : Int32) < 0 ∨ cl3.slots.size ≤ ((0 : Int32)).toNatClampNeg) := inb_of Sa3 ⟨by decide, by decide⟩
  obtain ⟨T4, h4, X4, e4, W4, st4⟩ := stB X0 hx hZ e0 Ar3 (j := (0 : Int32)) hin4 (g := (mkF m 31 #[vr a0, vi 0, vr a2, vi 0, vi 2, vi 0, vi x0] [(.int (x0.toInt8.toInt32)), (.int 0), (.ref a2)])) rfl rfl (hb hby d20_31)
  have V4 : Arv Z h4 a2 kb .byte (2 : Int32) [(.int ((x0.toInt8.toInt32).toInt8.toInt32)), (.int 0)] (.int 0) := Arv.set Ar3 qa3 Sa3 Na3 Ha3 Ga3 (fits_nar_byte _) W4 0 rfl (Nat.le_of_ble_eq_true rfl)
  have N4 := Fr.snoc X4 N0 gp_a2
  refine gb (mkF m 32 #[vr a0, vi 0, vr a2, vi 0, vi 2, vi 0, vi x0] []) st4 ?_
  refine gb (mkF m 35 #[vr a0, vi 1, vr a2, vi 0, vi 2, vi 0, vi x0] []) (fun _ k => XS.iinc X4.here hx rfl (hb hby d20_32) rfl (l' := #[vr a0, vi 1, vr a2, vi 0, vi 2, vi 0, vi x0]) rfl k) ?_
  refine gb (mkF m 38 #[vr a0, vi 1, vr a2, vi 1, vi 2, vi 0, vi x0] []) (fun _ k => XS.iinc X4.here hx rfl (hb hby d20_35) rfl (l' := #[vr a0, vi 1, vr a2, vi 1, vi 2, vi 0, vi x0]) rfl k) ?_
  refine gb (mkF m 41 #[vr a0, vi 1, vr a2, vi 1, vi 2, vi 1, vi x0] []) (fun _ k => XS.iinc X4.here hx rfl (hb hby d20_38) rfl (l' := #[vr a0, vi 1, vr a2, vi 1, vi 2, vi 1, vi x0]) rfl k) ?_
  refine gb (mkF m 3 #[vr a0, vi 1, vr a2, vi 1, vi 2, vi 1, vi x0] []) (fun _ k => XS.goto X4.here hx rfl (pc0 := 41) (pc' := 3) rfl (hb hby d20_41) (by decide) (by decide) k) ?_
  refine gb (mkF m 5 #[vr a0, vi 1, vr a2, vi 1, vi 2, vi 1, vi x0] [(.int 1)]) (fun _ k => XS.iload X4.here hx rfl (hb hby d20_3) rfl k) ?_
  refine gb (mkF m 7 #[vr a0, vi 1, vr a2, vi 1, vi 2, vi 1, vi x0] [(.int 2), (.int 1)]) (fun _ k => XS.iload X4.here hx rfl (hb hby d20_5) rfl k) ?_
  refine gb (mkF m 10 #[vr a0, vi 1, vr a2, vi 1, vi 2, vi 1, vi x0] []) (fun _ k => XS.icmpNo X4.here hx rfl (hb hby d20_7) rfl (tlt (by decide : (1 : Int32) < (2 : Int32))).2.1 k) ?_
  refine gb (mkF m 11 #[vr a0, vi 1, vr a2, vi 1, vi 2, vi 1, vi x0] [(.ref a0)]) (fun _ k => XS.aloadN X4.here hx rfl (hb hby d20_10) rfl rfl k) ?_
  refine gb (mkF m 12 #[vr a0, vi 1, vr a2, vi 1, vi 2, vi 1, vi x0] [(.int 1), (.ref a0)]) (fun _ k => XS.iloadN X4.here hx rfl (hb hby d20_11) rfl k) ?_
  have f5 := (Arv.other pf0 W4 np_a0_a2)
  obtain ⟨cl6, Ar6, qa6, Sa6, Na6, Ha6, Ga6⟩ := id f5
  have hin7 : ¬ ((1 : Int32) < 0 ∨ cl6.slots.size ≤ ((1 : Int32)).toNatClampNeg) := inb_of Sa6 ⟨by decide, by decide⟩
  refine gb (mkF m 13 #[vr a0, vi 1, vr a2, vi 1, vi 2, vi 1, vi x0] [(.int x1)]) (X4.caload hx (j := (1 : Int32)) (v := (.int x1)) (by rw [e4]; exact Ar6.1) (State.isArrayOf_alike hZ.alike Ar6.2.1) Ar6.2.2 hin7 (Has.at Ha6 hin7 (congrArg (fun k => List.getD ([(.int x0), (.int x1)] : List Value) k (.int 0)) (by decide : ((1 : Int32)).toNatClampNeg = 1))) (g := (mkF m 12 #[vr a0, vi 1, vr a2, vi 1, vi 2, vi 1, vi x0] [(.int 1), (.ref a0)])) rfl rfl (hb hby d20_12)) ?_
  refine gb (mkF m 15 #[vr a0, vi 1, vr a2, vi 1, vi 2, vi 1, vi x1] []) (fun _ k => XS.istore X4.here hx rfl (hb hby d20_13) rfl (l' := #[vr a0, vi 1, vr a2, vi 1, vi 2, vi 1, vi x1]) rfl k) ?_
  refine gb (mkF m 17 #[vr a0, vi 1, vr a2, vi 1, vi 2, vi 1, vi x1] [(.int x1)]) (fun _ k => XS.iload X4.here hx rfl (hb hby d20_15) rfl k) ?_
  refine gb (mkF m 20 #[vr a0, vi 1, vr a2, vi 1, vi 2, vi 1, vi x1] [(.int 255), (.int x1)]) (fun _ k => XS.sipush X4.here hx rfl (hb hby d20_17) k) ?_
  refine gb (mkF m 26 #[vr a0, vi 1, vr a2, vi 1, vi 2, vi 1, vi x1] []) (fun _ k => XS.icmpYes X4.here hx rfl (pc0 := 20) (pc' := 26) rfl (hb hby d20_20) rfl (flt hx1).2.2.2 (by decide) (by decide) k) ?_
  refine gb (mkF m 27 #[vr a0, vi 1, vr a2, vi 1, vi 2, vi 1, vi x1] [(.ref a2)]) (fun _ k => XS.aloadN X4.here hx rfl (hb hby d20_26) rfl rfl k) ?_
  refine gb (mkF m 28 #[vr a0, vi 1, vr a2, vi 1, vi 2, vi 1, vi x1] [(.int 1), (.ref a2)]) (fun _ k => XS.iloadN X4.here hx rfl (hb hby d20_27) rfl k) ?_
  refine gb (mkF m 30 #[vr a0, vi 1, vr a2, vi 1, vi 2, vi 1, vi x1] [(.int x1), (.int 1), (.ref a2)]) (fun _ k => XS.iload X4.here hx rfl (hb hby d20_28) rfl k) ?_
  refine gb (mkF m 31 #[vr a0, vi 1, vr a2, vi 1, vi 2, vi 1, vi x1] [(.int (x1.toInt8.toInt32)), (.int 1), (.ref a2)]) (fun _ k => XS.i2b X4.here hx rfl (hb hby d20_30) rfl k) ?_
  obtain ⟨cl8, Ar8, qa8, Sa8, Na8, Ha8, Ga8⟩ := id V4
  have hin9 : ¬ ((1 : Int32) < 0 ∨ cl8.slots.size ≤ ((1 : Int32)).toNatClampNeg) := inb_of Sa8 ⟨by decide, by decide⟩
  obtain ⟨T9, h9, X9, e9, W9, st9⟩ := stB X4 hx hZ e4 Ar8 (j := (1 : Int32)) hin9 (g := (mkF m 31 #[vr a0, vi 1, vr a2, vi 1, vi 2, vi 1, vi x1] [(.int (x1.toInt8.toInt32)), (.int 1), (.ref a2)])) rfl rfl (hb hby d20_31)
  have V9 : Arv Z h9 a2 kb .byte (2 : Int32) [(.int ((x0.toInt8.toInt32).toInt8.toInt32)), (.int ((x1.toInt8.toInt32).toInt8.toInt32))] (.int 0) := Arv.set Ar8 qa8 Sa8 Na8 Ha8 Ga8 (fits_nar_byte _) W9 1 (by decide) (Nat.le_of_ble_eq_true rfl)
  have N9 := Fr.snoc X9 N4 gp_a2
  refine gb (mkF m 32 #[vr a0, vi 1, vr a2, vi 1, vi 2, vi 1, vi x1] []) st9 ?_
  refine gb (mkF m 35 #[vr a0, vi 2, vr a2, vi 1, vi 2, vi 1, vi x1] []) (fun _ k => XS.iinc X9.here hx rfl (hb hby d20_32) rfl (l' := #[vr a0, vi 2, vr a2, vi 1, vi 2, vi 1, vi x1]) rfl k) ?_
  refine gb (mkF m 38 #[vr a0, vi 2, vr a2, vi 2, vi 2, vi 1, vi x1] []) (fun _ k => XS.iinc X9.here hx rfl (hb hby d20_35) rfl (l' := #[vr a0, vi 2, vr a2, vi 2, vi 2, vi 1, vi x1]) rfl k) ?_
  refine gb (mkF m 41 #[vr a0, vi 2, vr a2, vi 2, vi 2, vi 2, vi x1] []) (fun _ k => XS.iinc X9.here hx rfl (hb hby d20_38) rfl (l' := #[vr a0, vi 2, vr a2, vi 2, vi 2, vi 2, vi x1]) rfl k) ?_
  refine gb (mkF m 3 #[vr a0, vi 2, vr a2, vi 2, vi 2, vi 2, vi x1] []) (fun _ k => XS.goto X9.here hx rfl (pc0 := 41) (pc' := 3) rfl (hb hby d20_41) (by decide) (by decide) k) ?_
  refine gb (mkF m 5 #[vr a0, vi 2, vr a2, vi 2, vi 2, vi 2, vi x1] [(.int 2)]) (fun _ k => XS.iload X9.here hx rfl (hb hby d20_3) rfl k) ?_
  refine gb (mkF m 7 #[vr a0, vi 2, vr a2, vi 2, vi 2, vi 2, vi x1] [(.int 2), (.int 2)]) (fun _ k => XS.iload X9.here hx rfl (hb hby d20_5) rfl k) ?_
  refine gb (mkF m 44 #[vr a0, vi 2, vr a2, vi 2, vi 2, vi 2, vi x1] []) (fun _ k => XS.icmpYes X9.here hx rfl (pc0 := 7) (pc' := 44) rfl (hb hby d20_7) rfl (flt (by decide : ¬ ((2 : Int32) < (2 : Int32)))).2.1 (by decide) (by decide) k) ?_
  refine gb (mkF m 46 #[vr a0, vi 2, vr a2, vi 2, vi 2, vi 2, vi x1] [(.int 2)]) (fun _ k => XS.iload X9.here hx rfl (hb hby d20_44) rfl k) ?_
  have K10 := (((Keep.refl h0 [a2]).wr W4 (Or.inl (List.mem_of_getElem? (i := 0) rfl))).wr W9 (Or.inl (List.mem_of_getElem? (i := 0) rfl)))
  exact Gl.outI X9 hx hk Bd.returns (hb hby d20_46) (Eq.mpr (congrArg (fun hh => Q202 Z a0 a2 ka kb x0 x1 w1 w2 w3 G1 sf h0 n0 _ hh _) e9) (show Q202 Z a0 a2 ka kb x0 x1 w1 w2 w3 G1 sf h0 n0 _ h9 _ from ⟨rfl, N9, K10, V9⟩)) (by decide) (by decide)
theorem ef203 (m : MethodId) (x0 : Addr) (x1 : Int32) (x2 : Addr) (x3 : Int32) (x4 : Int32) : entryFrame m #[(.ref x0), (.int x1), (.ref x2), (.int x3), (.int x4)] 7 = mkF m 0 #[.val (.ref x0), .val (.int x1), .val (.ref x2), .val (.int x3), .val (.int x4), .unset, .unset] [] := by first | (simp [entryFrame, mkF, argsToLocals, Value.category]; done) | rfl
def Q203 (Z : State) (a0 : Addr) (a2 : Addr) (ka : ClassId) (kb : ClassId) (x0 : Int32) (x1 : Int32) (x2 : Int32) (w1 w2 w3 : Addr) (G1 : Int32) (sf : Value) (h0 : Heap) (n0 : Nat) (v : Option Value) (h : Heap) (L : List Loc) : Prop := v = some (.int 3) ∧ Fr n0 L ∧ Keep h0 h [a2] ∧ Arv Z h a2 kb .byte (3 : Int32) [(.int (bL x0)), (.int (bL x1)), (.int (bL x2))] (.int 0)
theorem rm203 (l : Launch) (Z : State) (a0' : Array Value) (hw : ∀ d ∈ tables_1, d.before a0' Z = true) (ws : List Jvm.Cond) (a0 : Addr) (a2 : Addr) (ka : ClassId) (kb : ClassId) (x0 : Int32) (x1 : Int32) (x2 : Int32) (w1 w2 w3 : Addr) (G1 : Int32) (sf : Value) (h0 : Heap) (n0 : Nat) (O : Old Z n0 h0) (W : Wd Z w1 w2 w3 G1 sf) (pf0 : Arv Z h0 a0 ka .char (3 : Int32) [(.int x0), (.int x1), (.int x2)] (.int 0)) (pf1 : Arv Z h0 a2 kb .byte (3 : Int32) [(.int 0), (.int 0), (.int 0)] (.int 0)) (gp_a2 : n0 ≤ a2) (np_a0_a2 : a0 ≠ a2) (hx0 : ¬ (255 : Int32) < x0) (hx1 : ¬ (255 : Int32) < x1) (hx2 : ¬ (255 : Int32) < x2) :
    MetFree l mq7 (head1 (Jvm.Cond.code mq7 jdk_52_method_21_code 7 (some .int) :: ws) ({ frames := 0, cells := 0, slots := 0, locals := 0 } : Room)) (fun a U => a = #[(.ref a0), (.int 0), (.ref a2), (.int 0), (.int 3)] ∧ Z.Warmed39 U.vm ∧ U.heap = h0) (fun _ _ _ _ _ => True) (fun _ U o U' => ∃ v L, o = .returned v ∧ Q203 Z a0 a2 ka kb x0 x1 x2 w1 w2 w3 G1 sf h0 n0 v U'.heap L ∧ FrameEnd U o U' L ({ frames := 0, cells := 0, slots := 0, locals := 0 } : Room).cells ({ frames := 0, cells := 0, slots := 0, locals := 0 } : Room).slots) := by
  refine MetFree.of_bodySF (plainFor_of_name pn3) hisR ?_
  intro p e s m args below meth c s₁ Bd hml0 hP hK
  obtain ⟨rfl, hZ, hh⟩ := hP
  have hx := Bd.exec
  have hby := Bd.bytes
  have hml : c.maxLocals = 7 := hml0
  have hown : s.vm.findClass "java/lang/StringUTF16" = some m.cls := findClass_of_methodNamed Bd.named
  have hnm := (name_of_methodNamed Bd.named Bd.method).1
  have hk := Bd.notSynchronized
  have X0 : Stand p l e ({ frames := 0, cells := 0, slots := 0, locals := 0 } : Room) s m #[(.ref a0), (.int 0), (.ref a2), (.int 0), (.int 3)] below meth c s₁ [] 0 0 := Stand.of_body Bd
  have hh2 := hh
  have e0 : s₁.heap = h0 := by rw [← hh, Bd.state]; rfl
  have N0 := Fr.nil n0
  show Gl p e below (Pos 0 0 (Q203 Z a0 a2 ka kb x0 x1 x2 w1 w2 w3 G1 sf h0 n0) s) s₁ _
  refine Gl.cast (ef203 m a0 (0 : Int32) a2 (0 : Int32) (3 : Int32)) ?_
  refine gb (mkF m 1 #[vr a0, vi 0, vr a2, vi 0, vi 3, .unset, .unset] [(.int 0)]) (fun _ k => XS.iconst X0.here hx rfl (hb hby d20_0) k) ?_
  refine gb (mkF m 3 #[vr a0, vi 0, vr a2, vi 0, vi 3, vi 0, .unset] []) (fun _ k => XS.istore X0.here hx rfl (hb hby d20_1) rfl (l' := #[vr a0, vi 0, vr a2, vi 0, vi 3, vi 0, .unset]) rfl k) ?_
  refine gb (mkF m 5 #[vr a0, vi 0, vr a2, vi 0, vi 3, vi 0, .unset] [(.int 0)]) (fun _ k => XS.iload X0.here hx rfl (hb hby d20_3) rfl k) ?_
  refine gb (mkF m 7 #[vr a0, vi 0, vr a2, vi 0, vi 3, vi 0, .unset] [(.int 3), (.int 0)]) (fun _ k => XS.iload X0.here hx rfl (hb hby d20_5) rfl k) ?_
  refine gb (mkF m 10 #[vr a0, vi 0, vr a2, vi 0, vi 3, vi 0, .unset] []) (fun _ k => XS.icmpNo X0.here hx rfl (hb hby d20_7) rfl (tlt (by decide : (0 : Int32) < (3 : Int32))).2.1 k) ?_
  refine gb (mkF m 11 #[vr a0, vi 0, vr a2, vi 0, vi 3, vi 0, .unset] [(.ref a0)]) (fun _ k => XS.aloadN X0.here hx rfl (hb hby d20_10) rfl rfl k) ?_
  refine gb (mkF m 12 #[vr a0, vi 0, vr a2, vi 0, vi 3, vi 0, .unset] [(.int 0), (.ref a0)]) (fun _ k => XS.iloadN X0.here hx rfl (hb hby d20_11) rfl k) ?_
  obtain ⟨cl1, Ar1, qa1, Sa1, Na1, Ha1, Ga1⟩ := id pf0
  have hin2 : ¬ ((0 : Int32) < 0 ∨ cl1.slots.size ≤ ((0 : Int32)).toNatClampNeg) := inb_of Sa1 ⟨by decide, by decide⟩
  refine gb (mkF m 13 #[vr a0, vi 0, vr a2, vi 0, vi 3, vi 0, .unset] [(.int x0)]) (X0.caload hx (j := (0 : Int32)) (v := (.int x0)) (by rw [e0]; exact Ar1.1) (State.isArrayOf_alike hZ.alike Ar1.2.1) Ar1.2.2 hin2 (Has.at Ha1 hin2 rfl) (g := (mkF m 12 #[vr a0, vi 0, vr a2, vi 0, vi 3, vi 0, .unset] [(.int 0), (.ref a0)])) rfl rfl (hb hby d20_12)) ?_
  refine gb (mkF m 15 #[vr a0, vi 0, vr a2, vi 0, vi 3, vi 0, vi x0] []) (fun _ k => XS.istore X0.here hx rfl (hb hby d20_13) rfl (l' := #[vr a0, vi 0, vr a2, vi 0, vi 3, vi 0, vi x0]) rfl k) ?_
  refine gb (mkF m 17 #[vr a0, vi 0, vr a2, vi 0, vi 3, vi 0, vi x0] [(.int x0)]) (fun _ k => XS.iload X0.here hx rfl (hb hby d20_15) rfl k) ?_
  refine gb (mkF m 20 #[vr a0, vi 0, vr a2, vi 0, vi 3, vi 0, vi x0] [(.int 255), (.int x0)]) (fun _ k => XS.sipush X0.here hx rfl (hb hby d20_17) k) ?_
  refine gb (mkF m 26 #[vr a0, vi 0, vr a2, vi 0, vi 3, vi 0, vi x0] []) (fun _ k => XS.icmpYes X0.here hx rfl (pc0 := 20) (pc' := 26) rfl (hb hby d20_20) rfl (flt hx0).2.2.2 (by decide) (by decide) k) ?_
  refine gb (mkF m 27 #[vr a0, vi 0, vr a2, vi 0, vi 3, vi 0, vi x0] [(.ref a2)]) (fun _ k => XS.aloadN X0.here hx rfl (hb hby d20_26) rfl rfl k) ?_
  refine gb (mkF m 28 #[vr a0, vi 0, vr a2, vi 0, vi 3, vi 0, vi x0] [(.int 0), (.ref a2)]) (fun _ k => XS.iloadN X0.here hx rfl (hb hby d20_27) rfl k) ?_
  refine gb (mkF m 30 #[vr a0, vi 0, vr a2, vi 0, vi 3, vi 0, vi x0] [(.int x0), (.int 0), (.ref a2)]) (fun _ k => XS.iload X0.here hx rfl (hb hby d20_28) rfl k) ?_
  refine gb (mkF m 31 #[vr a0, vi 0, vr a2, vi 0, vi 3, vi 0, vi x0] [(.int (x0.toInt8.toInt32)), (.int 0), (.ref a2)]) (fun _ k => XS.i2b X0.here hx rfl (hb hby d20_30) rfl k) ?_
  obtain ⟨cl3, Ar3, qa3, Sa3, Na3, Ha3, Ga3⟩ := id pf1
  have hin4 : ¬ ((0 : Int32) < 0 ∨ cl3.slots.size ≤ ((0 : Int32)).toNatClampNeg) := inb_of Sa3 ⟨by decide, by decide⟩
  obtain ⟨T4, h4, X4, e4, W4, st4⟩ := stB X0 hx hZ e0 Ar3 (j := (0 : Int32)) hin4 (g := (mkF m 31 #[vr a0, vi 0, vr a2, vi 0, vi 3, vi 0, vi x0] [(.int (x0.toInt8.toInt32)), (.int 0), (.ref a2)])) rfl rfl (hb hby d20_31)
  have V4 : Arv Z h4 a2 kb .byte (3 : Int32) [(.int ((x0.toInt8.toInt32).toInt8.toInt32)), (.int 0), (.int 0)] (.int 0) := Arv.set Ar3 qa3 Sa3 Na3 Ha3 Ga3 (fits_nar_byte _) W4 0 rfl (Nat.le_of_ble_eq_true rfl)
  have N4 := Fr.snoc X4 N0 gp_a2
  refine gb (mkF m 32 #[vr a0, vi 0, vr a2, vi 0, vi 3, vi 0, vi x0] []) st4 ?_
  refine gb (mkF m 35 #[vr a0, vi 1, vr a2, vi 0, vi 3, vi 0, vi x0] []) (fun _ k => XS.iinc X4.here hx rfl (hb hby d20_32) rfl (l' := #[vr a0, vi 1, vr a2, vi 0, vi 3, vi 0, vi x0]) rfl k) ?_
  refine gb (mkF m 38 #[vr a0, vi 1, vr a2, vi 1, vi 3, vi 0, vi x0] []) (fun _ k => XS.iinc X4.here hx rfl (hb hby d20_35) rfl (l' := #[vr a0, vi 1, vr a2, vi 1, vi 3, vi 0, vi x0]) rfl k) ?_
  refine gb (mkF m 41 #[vr a0, vi 1, vr a2, vi 1, vi 3, vi 1, vi x0] []) (fun _ k => XS.iinc X4.here hx rfl (hb hby d20_38) rfl (l' := #[vr a0, vi 1, vr a2, vi 1, vi 3, vi 1, vi x0]) rfl k) ?_
  refine gb (mkF m 3 #[vr a0, vi 1, vr a2, vi 1, vi 3, vi 1, vi x0] []) (fun _ k => XS.goto X4.here hx rfl (pc0 := 41) (pc' := 3) rfl (hb hby d20_41) (by decide) (by decide) k) ?_
  refine gb (mkF m 5 #[vr a0, vi 1, vr a2, vi 1, vi 3, vi 1, vi x0] [(.int 1)]) (fun _ k => XS.iload X4.here hx rfl (hb hby d20_3) rfl k) ?_
  refine gb (mkF m 7 #[vr a0, vi 1, vr a2, vi 1, vi 3, vi 1, vi x0] [(.int 3), (.int 1)]) (fun _ k => XS.iload X4.here hx rfl (hb hby d20_5) rfl k) ?_
  refine gb (mkF m 10 #[vr a0, vi 1, vr a2, vi 1, vi 3, vi 1, vi x0] []) (fun _ k => XS.icmpNo X4.here hx rfl (hb hby d20_7) rfl (tlt (by decide : (1 : Int32) < (3 : Int32))).2.1 k) ?_
  refine gb (mkF m 11 #[vr a0, vi 1, vr a2, vi 1, vi 3, vi 1, vi x0] [(.ref a0)]) (fun _ k => XS.aloadN X4.here hx rfl (hb hby d20_10) rfl rfl k) ?_
  refine gb (mkF m 12 #[vr a0, vi 1, vr a2, vi 1, vi 3, vi 1, vi x0] [(.int 1), (.ref a0)]) (fun _ k => XS.iloadN X4.here hx rfl (hb hby d20_11) rfl k) ?_
  have f5 := (Arv.other pf0 W4 np_a0_a2)
  obtain ⟨cl6, Ar6, qa6, Sa6, Na6, Ha6, Ga6⟩ := id f5
  have hin7 : ¬ ((1 : Int32) < 0 ∨ cl6.slots.size ≤ ((1 : Int32)).toNatClampNeg) := inb_of Sa6 ⟨by decide, by decide⟩
  refine gb (mkF m 13 #[vr a0, vi 1, vr a2, vi 1, vi 3, vi 1, vi x0] [(.int x1)]) (X4.caload hx (j := (1 : Int32)) (v := (.int x1)) (by rw [e4]; exact Ar6.1) (State.isArrayOf_alike hZ.alike Ar6.2.1) Ar6.2.2 hin7 (Has.at Ha6 hin7 (congrArg (fun k => List.getD ([(.int x0), (.int x1), (.int x2)] : List Value) k (.int 0)) (by decide : ((1 : Int32)).toNatClampNeg = 1))) (g := (mkF m 12 #[vr a0, vi 1, vr a2, vi 1, vi 3, vi 1, vi x0] [(.int 1), (.ref a0)])) rfl rfl (hb hby d20_12)) ?_
  refine gb (mkF m 15 #[vr a0, vi 1, vr a2, vi 1, vi 3, vi 1, vi x1] []) (fun _ k => XS.istore X4.here hx rfl (hb hby d20_13) rfl (l' := #[vr a0, vi 1, vr a2, vi 1, vi 3, vi 1, vi x1]) rfl k) ?_
  refine gb (mkF m 17 #[vr a0, vi 1, vr a2, vi 1, vi 3, vi 1, vi x1] [(.int x1)]) (fun _ k => XS.iload X4.here hx rfl (hb hby d20_15) rfl k) ?_
  refine gb (mkF m 20 #[vr a0, vi 1, vr a2, vi 1, vi 3, vi 1, vi x1] [(.int 255), (.int x1)]) (fun _ k => XS.sipush X4.here hx rfl (hb hby d20_17) k) ?_
  refine gb (mkF m 26 #[vr a0, vi 1, vr a2, vi 1, vi 3, vi 1, vi x1] []) (fun _ k => XS.icmpYes X4.here hx rfl (pc0 := 20) (pc' := 26) rfl (hb hby d20_20) rfl (flt hx1).2.2.2 (by decide) (by decide) k) ?_
  refine gb (mkF m 27 #[vr a0, vi 1, vr a2, vi 1, vi 3, vi 1, vi x1] [(.ref a2)]) (fun _ k => XS.aloadN X4.here hx rfl (hb hby d20_26) rfl rfl k) ?_
  refine gb (mkF m 28 #[vr a0, vi 1, vr a2, vi 1, vi 3, vi 1, vi x1] [(.int 1), (.ref a2)]) (fun _ k => XS.iloadN X4.here hx rfl (hb hby d20_27) rfl k) ?_
  refine gb (mkF m 30 #[vr a0, vi 1, vr a2, vi 1, vi 3, vi 1, vi x1] [(.int x1), (.int 1), (.ref a2)]) (fun _ k => XS.iload X4.here hx rfl (hb hby d20_28) rfl k) ?_
  refine gb (mkF m 31 #[vr a0, vi 1, vr a2, vi 1, vi 3, vi 1, vi x1] [(.int (x1.toInt8.toInt32)), (.int 1), (.ref a2)]) (fun _ k => XS.i2b X4.here hx rfl (hb hby d20_30) rfl k) ?_
  obtain ⟨cl8, Ar8, qa8, Sa8, Na8, Ha8, Ga8⟩ := id V4
  have hin9 : ¬ ((1 : Int32) < 0 ∨ cl8.slots.size ≤ ((1 : Int32)).toNatClampNeg) := inb_of Sa8 ⟨by decide, by decide⟩
  obtain ⟨T9, h9, X9, e9, W9, st9⟩ := stB X4 hx hZ e4 Ar8 (j := (1 : Int32)) hin9 (g := (mkF m 31 #[vr a0, vi 1, vr a2, vi 1, vi 3, vi 1, vi x1] [(.int (x1.toInt8.toInt32)), (.int 1), (.ref a2)])) rfl rfl (hb hby d20_31)
  have V9 : Arv Z h9 a2 kb .byte (3 : Int32) [(.int ((x0.toInt8.toInt32).toInt8.toInt32)), (.int ((x1.toInt8.toInt32).toInt8.toInt32)), (.int 0)] (.int 0) := Arv.set Ar8 qa8 Sa8 Na8 Ha8 Ga8 (fits_nar_byte _) W9 1 (by decide) (Nat.le_of_ble_eq_true rfl)
  have N9 := Fr.snoc X9 N4 gp_a2
  refine gb (mkF m 32 #[vr a0, vi 1, vr a2, vi 1, vi 3, vi 1, vi x1] []) st9 ?_
  refine gb (mkF m 35 #[vr a0, vi 2, vr a2, vi 1, vi 3, vi 1, vi x1] []) (fun _ k => XS.iinc X9.here hx rfl (hb hby d20_32) rfl (l' := #[vr a0, vi 2, vr a2, vi 1, vi 3, vi 1, vi x1]) rfl k) ?_
  refine gb (mkF m 38 #[vr a0, vi 2, vr a2, vi 2, vi 3, vi 1, vi x1] []) (fun _ k => XS.iinc X9.here hx rfl (hb hby d20_35) rfl (l' := #[vr a0, vi 2, vr a2, vi 2, vi 3, vi 1, vi x1]) rfl k) ?_
  refine gb (mkF m 41 #[vr a0, vi 2, vr a2, vi 2, vi 3, vi 2, vi x1] []) (fun _ k => XS.iinc X9.here hx rfl (hb hby d20_38) rfl (l' := #[vr a0, vi 2, vr a2, vi 2, vi 3, vi 2, vi x1]) rfl k) ?_
  refine gb (mkF m 3 #[vr a0, vi 2, vr a2, vi 2, vi 3, vi 2, vi x1] []) (fun _ k => XS.goto X9.here hx rfl (pc0 := 41) (pc' := 3) rfl (hb hby d20_41) (by decide) (by decide) k) ?_
  refine gb (mkF m 5 #[vr a0, vi 2, vr a2, vi 2, vi 3, vi 2, vi x1] [(.int 2)]) (fun _ k => XS.iload X9.here hx rfl (hb hby d20_3) rfl k) ?_
  refine gb (mkF m 7 #[vr a0, vi 2, vr a2, vi 2, vi 3, vi 2, vi x1] [(.int 3), (.int 2)]) (fun _ k => XS.iload X9.here hx rfl (hb hby d20_5) rfl k) ?_
  refine gb (mkF m 10 #[vr a0, vi 2, vr a2, vi 2, vi 3, vi 2, vi x1] []) (fun _ k => XS.icmpNo X9.here hx rfl (hb hby d20_7) rfl (tlt (by decide : (2 : Int32) < (3 : Int32))).2.1 k) ?_
  refine gb (mkF m 11 #[vr a0, vi 2, vr a2, vi 2, vi 3, vi 2, vi x1] [(.ref a0)]) (fun _ k => XS.aloadN X9.here hx rfl (hb hby d20_10) rfl rfl k) ?_
  refine gb (mkF m 12 #[vr a0, vi 2, vr a2, vi 2, vi 3, vi 2, vi x1] [(.int 2), (.ref a0)]) (fun _ k => XS.iloadN X9.here hx rfl (hb hby d20_11) rfl k) ?_
  have f10 := (Arv.other f5 W9 np_a0_a2)
  obtain ⟨cl11, Ar11, qa11, Sa11, Na11, Ha11, Ga11⟩ := id f10
  have hin12 : ¬ ((2 : Int32) < 0 ∨ cl11.slots.size ≤ ((2 : Int32)).toNatClampNeg) := inb_of Sa11 ⟨by decide, by decide⟩
  refine gb (mkF m 13 #[vr a0, vi 2, vr a2, vi 2, vi 3, vi 2, vi x1] [(.int x2)]) (X9.caload hx (j := (2 : Int32)) (v := (.int x2)) (by rw [e9]; exact Ar11.1) (State.isArrayOf_alike hZ.alike Ar11.2.1) Ar11.2.2 hin12 (Has.at Ha11 hin12 (congrArg (fun k => List.getD ([(.int x0), (.int x1), (.int x2)] : List Value) k (.int 0)) (by decide : ((2 : Int32)).toNatClampNeg = 2))) (g := (mkF m 12 #[vr a0, vi 2, vr a2, vi 2, vi 3, vi 2, vi x1] [(.int 2), (.ref a0)])) rfl rfl (hb hby d20_12)) ?_
  refine gb (mkF m 15 #[vr a0, vi 2, vr a2, vi 2, vi 3, vi 2, vi x2] []) (fun _ k => XS.istore X9.here hx rfl (hb hby d20_13) rfl (l' := #[vr a0, vi 2, vr a2, vi 2, vi 3, vi 2, vi x2]) rfl k) ?_
  refine gb (mkF m 17 #[vr a0, vi 2, vr a2, vi 2, vi 3, vi 2, vi x2] [(.int x2)]) (fun _ k => XS.iload X9.here hx rfl (hb hby d20_15) rfl k) ?_
  refine gb (mkF m 20 #[vr a0, vi 2, vr a2, vi 2, vi 3, vi 2, vi x2] [(.int 255), (.int x2)]) (fun _ k => XS.sipush X9.here hx rfl (hb hby d20_17) k) ?_
  refine gb (mkF m 26 #[vr a0, vi 2, vr a2, vi 2, vi 3, vi 2, vi x2] []) (fun _ k => XS.icmpYes X9.here hx rfl (pc0 := 20) (pc' := 26) rfl (hb hby d20_20) rfl (flt hx2).2.2.2 (by decide) (by decide) k) ?_
  refine gb (mkF m 27 #[vr a0, vi 2, vr a2, vi 2, vi 3, vi 2, vi x2] [(.ref a2)]) (fun _ k => XS.aloadN X9.here hx rfl (hb hby d20_26) rfl rfl k) ?_
  refine gb (mkF m 28 #[vr a0, vi 2, vr a2, vi 2, vi 3, vi 2, vi x2] [(.int 2), (.ref a2)]) (fun _ k => XS.iloadN X9.here hx rfl (hb hby d20_27) rfl k) ?_
  refine gb (mkF m 30 #[vr a0, vi 2, vr a2, vi 2, vi 3, vi 2, vi x2] [(.int x2), (.int 2), (.ref a2)]) (fun _ k => XS.iload X9.here hx rfl (hb hby d20_28) rfl k) ?_
  refine gb (mkF m 31 #[vr a0, vi 2, vr a2, vi 2, vi 3, vi 2, vi x2] [(.int (x2.toInt8.toInt32)), (.int 2), (.ref a2)]) (fun _ k => XS.i2b X9.here hx rfl (hb hby d20_30) rfl k) ?_
  obtain ⟨cl13, Ar13, qa13, Sa13, Na13, Ha13, Ga13⟩ := id V9
  have hin14 : ¬ ((2 : Int32) < 0 ∨ cl13.slots.size ≤ ((2 : Int32)).toNatClampNeg) := inb_of Sa13 ⟨by decide, by decide⟩
  obtain ⟨T14, h14, X14, e14, W14, st14⟩ := stB X9 hx hZ e9 Ar13 (j := (2 : Int32)) hin14 (g := (mkF m 31 #[vr a0, vi 2, vr a2, vi 2, vi 3, vi 2, vi x2] [(.int (x2.toInt8.toInt32)), (.int 2), (.ref a2)])) rfl rfl (hb hby d20_31)
  have V14 : Arv Z h14 a2 kb .byte (3 : Int32) [(.int ((x0.toInt8.toInt32).toInt8.toInt32)), (.int ((x1.toInt8.toInt32).toInt8.toInt32)), (.int ((x2.toInt8.toInt32).toInt8.toInt32))] (.int 0) := Arv.set Ar13 qa13 Sa13 Na13 Ha13 Ga13 (fits_nar_byte _) W14 2 (by decide) (Nat.le_of_ble_eq_true rfl)
  have N14 := Fr.snoc X14 N9 gp_a2
  refine gb (mkF m 32 #[vr a0, vi 2, vr a2, vi 2, vi 3, vi 2, vi x2] []) st14 ?_
  refine gb (mkF m 35 #[vr a0, vi 3, vr a2, vi 2, vi 3, vi 2, vi x2] []) (fun _ k => XS.iinc X14.here hx rfl (hb hby d20_32) rfl (l' := #[vr a0, vi 3, vr a2, vi 2, vi 3, vi 2, vi x2]) rfl k) ?_
  refine gb (mkF m 38 #[vr a0, vi 3, vr a2, vi 3, vi 3, vi 2, vi x2] []) (fun _ k => XS.iinc X14.here hx rfl (hb hby d20_35) rfl (l' := #[vr a0, vi 3, vr a2, vi 3, vi 3, vi 2, vi x2]) rfl k) ?_
  refine gb (mkF m 41 #[vr a0, vi 3, vr a2, vi 3, vi 3, vi 3, vi x2] []) (fun _ k => XS.iinc X14.here hx rfl (hb hby d20_38) rfl (l' := #[vr a0, vi 3, vr a2, vi 3, vi 3, vi 3, vi x2]) rfl k) ?_
  refine gb (mkF m 3 #[vr a0, vi 3, vr a2, vi 3, vi 3, vi 3, vi x2] []) (fun _ k => XS.goto X14.here hx rfl (pc0 := 41) (pc' := 3) rfl (hb hby d20_41) (by decide) (by decide) k) ?_
  refine gb (mkF m 5 #[vr a0, vi 3, vr a2, vi 3, vi 3, vi 3, vi x2] [(.int 3)]) (fun _ k => XS.iload X14.here hx rfl (hb hby d20_3) rfl k) ?_
  refine gb (mkF m 7 #[vr a0, vi 3, vr a2, vi 3, vi 3, vi 3, vi x2] [(.int 3), (.int 3)]) (fun _ k => XS.iload X14.here hx rfl (hb hby d20_5) rfl k) ?_
  refine gb (mkF m 44 #[vr a0, vi 3, vr a2, vi 3, vi 3, vi 3, vi x2] []) (fun _ k => XS.icmpYes X14.here hx rfl (pc0 := 7) (pc' := 44) rfl (hb hby d20_7) rfl (flt (by decide : ¬ ((3 : Int32) < (3 : Int32)))).2.1 (by decide) (by decide) k) ?_
  refine gb (mkF m 46 #[vr a0, vi 3, vr a2, vi 3, vi 3, vi 3, vi x2] [(.int 3)]) (fun _ k => XS.iload X14.here hx rfl (hb hby d20_44) rfl k) ?_
  have K15 := ((((Keep.refl h0 [a2]).wr W4 (Or.inl (List.mem_of_getElem? (i := 0) rfl))).wr W9 (Or.inl (List.mem_of_getElem? (i := 0) rfl))).wr W14 (Or.inl (List.mem_of_getElem? (i := 0) rfl)))
  exact Gl.outI X14 hx hk Bd.returns (hb hby d20_46) (Eq.mpr (congrArg (fun hh => Q203 Z a0 a2 ka kb x0 x1 x2 w1 w2 w3 G1 sf h0 n0 _ hh _) e14) (show Q203 Z a0 a2 ka kb x0 x1 x2 w1 w2 w3 G1 sf h0 n0 _ h14 _ from ⟨rfl, N14, K15, V14⟩)) (by decide) (by decide)
theorem ef204 (m : MethodId) (x0 : Addr) (x1 : Int32) (x2 : Addr) (x3 : Int32) (x4 : Int32) : entryFrame m #[(.ref x0), (.int x1), (.ref x2), (.int x3), (.int x4)] 7 = mkF m 0 #[.val (.ref x0), .val (.int x1), .val (.ref x2), .val (.int x3), .val (.int x4), .unset, .unset] [] := by first | (simp [entryFrame, mkF, argsToLocals, Value.category]; done) | rfl
def Q204 (Z : State) (a0 : Addr) (a2 : Addr) (ka : ClassId) (kb : ClassId) (x0 : Int32) (x1 : Int32) (x2 : Int32) (x3 : Int32) (w1 w2 w3 : Addr) (G1 : Int32) (sf : Value) (h0 : Heap) (n0 : Nat) (v : Option Value) (h : Heap) (L : List Loc) : Prop := v = some (.int 4) ∧ Fr n0 L ∧ Keep h0 h [a2] ∧ Arv Z h a2 kb .byte (4 : Int32) [(.int (bL x0)), (.int (bL x1)), (.int (bL x2)), (.int (bL x3))] (.int 0)
theorem rm204 (l : Launch) (Z : State) (a0' : Array Value) (hw : ∀ d ∈ tables_1, d.before a0' Z = true) (ws : List Jvm.Cond) (a0 : Addr) (a2 : Addr) (ka : ClassId) (kb : ClassId) (x0 : Int32) (x1 : Int32) (x2 : Int32) (x3 : Int32) (w1 w2 w3 : Addr) (G1 : Int32) (sf : Value) (h0 : Heap) (n0 : Nat) (O : Old Z n0 h0) (W : Wd Z w1 w2 w3 G1 sf) (pf0 : Arv Z h0 a0 ka .char (4 : Int32) [(.int x0), (.int x1), (.int x2), (.int x3)] (.int 0)) (pf1 : Arv Z h0 a2 kb .byte (4 : Int32) [(.int 0), (.int 0), (.int 0), (.int 0)] (.int 0)) (gp_a2 : n0 ≤ a2) (np_a0_a2 : a0 ≠ a2) (hx0 : ¬ (255 : Int32) < x0) (hx1 : ¬ (255 : Int32) < x1) (hx2 : ¬ (255 : Int32) < x2) (hx3 : ¬ (255 : Int32) < x3) :
    MetFree l mq7 (head1 (Jvm.Cond.code mq7 jdk_52_method_21_code 7 (some .int) :: ws) ({ frames := 0, cells := 0, slots := 0, locals := 0 } : Room)) (fun a U => a = #[(.ref a0), (.int 0), (.ref a2), (.int 0), (.int 4)] ∧ Z.Warmed39 U.vm ∧ U.heap = h0) (fun _ _ _ _ _ => True) (fun _ U o U' => ∃ v L, o = .returned v ∧ Q204 Z a0 a2 ka kb x0 x1 x2 x3 w1 w2 w3 G1 sf h0 n0 v U'.heap L ∧ FrameEnd U o U' L ({ frames := 0, cells := 0, slots := 0, locals := 0 } : Room).cells ({ frames := 0, cells := 0, slots := 0, locals := 0 } : Room).slots) := by
  refine MetFree.of_bodySF (plainFor_of_name pn3) hisR ?_
  intro p e s m args below meth c s₁ Bd hml0 hP hK
  obtain ⟨rfl, hZ, hh⟩ := hP
  have hx := Bd.exec
  have hby := Bd.bytes
  have hml : c.maxLocals = 7 := hml0
  have hown : s.vm.findClass "java/lang/StringUTF16" = some m.cls := findClass_of_methodNamed Bd.named
  have hnm := (name_of_methodNamed Bd.named Bd.method).1
  have hk := Bd.notSynchronized
  have X0 : Stand p l e ({ frames := 0, cells := 0, slots := 0, locals := 0 } : Room) s m #[(.ref a0), (.int 0), (.ref a2), (.int 0), (.int 4)] below meth c s₁ [] 0 0 := Stand.of_body Bd
  have hh2 := hh
  have e0 : s₁.heap = h0 := by rw [← hh, Bd.state]; rfl
  have N0 := Fr.nil n0
  show Gl p e below (Pos 0 0 (Q204 Z a0 a2 ka kb x0 x1 x2 x3 w1 w2 w3 G1 sf h0 n0) s) s₁ _
  refine Gl.cast (ef204 m a0 (0 : Int32) a2 (0 : Int32) (4 : Int32)) ?_
  refine gb (mkF m 1 #[vr a0, vi 0, vr a2, vi 0, vi 4, .unset, .unset] [(.int 0)]) (fun _ k => XS.iconst X0.here hx rfl (hb hby d20_0) k) ?_
  refine gb (mkF m 3 #[vr a0, vi 0, vr a2, vi 0, vi 4, vi 0, .unset] []) (fun _ k => XS.istore X0.here hx rfl (hb hby d20_1) rfl (l' := #[vr a0, vi 0, vr a2, vi 0, vi 4, vi 0, .unset]) rfl k) ?_
  refine gb (mkF m 5 #[vr a0, vi 0, vr a2, vi 0, vi 4, vi 0, .unset] [(.int 0)]) (fun _ k => XS.iload X0.here hx rfl (hb hby d20_3) rfl k) ?_
  refine gb (mkF m 7 #[vr a0, vi 0, vr a2, vi 0, vi 4, vi 0, .unset] [(.int 4), (.int 0)]) (fun _ k => XS.iload X0.here hx rfl (hb hby d20_5) rfl k) ?_
  refine gb (mkF m 10 #[vr a0, vi 0, vr a2, vi 0, vi 4, vi 0, .unset] []) (fun _ k => XS.icmpNo X0.here hx rfl (hb hby d20_7) rfl (tlt (by decide : (0 : Int32) < (4 : Int32))).2.1 k) ?_
  refine gb (mkF m 11 #[vr a0, vi 0, vr a2, vi 0, vi 4, vi 0, .unset] [(.ref a0)]) (fun _ k => XS.aloadN X0.here hx rfl (hb hby d20_10) rfl rfl k) ?_
  refine gb (mkF m 12 #[vr a0, vi 0, vr a2, vi 0, vi 4, vi 0, .unset] [(.int 0), (.ref a0)]) (fun _ k => XS.iloadN X0.here hx rfl (hb hby d20_11) rfl k) ?_
  obtain ⟨cl1, Ar1, qa1, Sa1, Na1, Ha1, Ga1⟩ := id pf0
  have hin2 : ¬ ((0 : Int32) < 0 ∨ cl1.slots.size ≤ ((0 : Int32)).toNatClampNeg) := inb_of Sa1 ⟨by decide, by decide⟩
  refine gb (mkF m 13 #[vr a0, vi 0, vr a2, vi 0, vi 4, vi 0, .unset] [(.int x0)]) (X0.caload hx (j := (0 : Int32)) (v := (.int x0)) (by rw [e0]; exact Ar1.1) (State.isArrayOf_alike hZ.alike Ar1.2.1) Ar1.2.2 hin2 (Has.at Ha1 hin2 rfl) (g := (mkF m 12 #[vr a0, vi 0, vr a2, vi 0, vi 4, vi 0, .unset] [(.int 0), (.ref a0)])) rfl rfl (hb hby d20_12)) ?_
  refine gb (mkF m 15 #[vr a0, vi 0, vr a2, vi 0, vi 4, vi 0, vi x0] []) (fun _ k => XS.istore X0.here hx rfl (hb hby d20_13) rfl (l' := #[vr a0, vi 0, vr a2, vi 0, vi 4, vi 0, vi x0]) rfl k) ?_
  refine gb (mkF m 17 #[vr a0, vi 0, vr a2, vi 0, vi 4, vi 0, vi x0] [(.int x0)]) (fun _ k => XS.iload X0.here hx rfl (hb hby d20_15) rfl k) ?_
  refine gb (mkF m 20 #[vr a0, vi 0, vr a2, vi 0, vi 4, vi 0, vi x0] [(.int 255), (.int x0)]) (fun _ k => XS.sipush X0.here hx rfl (hb hby d20_17) k) ?_
  refine gb (mkF m 26 #[vr a0, vi 0, vr a2, vi 0, vi 4, vi 0, vi x0] []) (fun _ k => XS.icmpYes X0.here hx rfl (pc0 := 20) (pc' := 26) rfl (hb hby d20_20) rfl (flt hx0).2.2.2 (by decide) (by decide) k) ?_
  refine gb (mkF m 27 #[vr a0, vi 0, vr a2, vi 0, vi 4, vi 0, vi x0] [(.ref a2)]) (fun _ k => XS.aloadN X0.here hx rfl (hb hby d20_26) rfl rfl k) ?_
  refine gb (mkF m 28 #[vr a0, vi 0, vr a2, vi 0, vi 4, vi 0, vi x0] [(.int 0), (.ref a2)]) (fun _ k => XS.iloadN X0.here hx rfl (hb hby d20_27) rfl k) ?_
  refine gb (mkF m 30 #[vr a0, vi 0, vr a2, vi 0, vi 4, vi 0, vi x0] [(.int x0), (.int 0), (.ref a2)]) (fun _ k => XS.iload X0.here hx rfl (hb hby d20_28) rfl k) ?_
  refine gb (mkF m 31 #[vr a0, vi 0, vr a2, vi 0, vi 4, vi 0, vi x0] [(.int (x0.toInt8.toInt32)), (.int 0), (.ref a2)]) (fun _ k => XS.i2b X0.here hx rfl (hb hby d20_30) rfl k) ?_
  obtain ⟨cl3, Ar3, qa3, Sa3, Na3, Ha3, Ga3⟩ := id pf1
  have hin4 : ¬ ((0 : Int32) < 0 ∨ cl3.slots.size ≤ ((0 : Int32)).toNatClampNeg) := inb_of Sa3 ⟨by decide, by decide⟩
  obtain ⟨T4, h4, X4, e4, W4, st4⟩ := stB X0 hx hZ e0 Ar3 (j := (0 : Int32)) hin4 (g := (mkF m 31 #[vr a0, vi 0, vr a2, vi 0, vi 4, vi 0, vi x0] [(.int (x0.toInt8.toInt32)), (.int 0), (.ref a2)])) rfl rfl (hb hby d20_31)
  have V4 : Arv Z h4 a2 kb .byte (4 : Int32) [(.int ((x0.toInt8.toInt32).toInt8.toInt32)), (.int 0), (.int 0), (.int 0)] (.int 0) := Arv.set Ar3 qa3 Sa3 Na3 Ha3 Ga3 (fits_nar_byte _) W4 0 rfl (Nat.le_of_ble_eq_true rfl)
  have N4 := Fr.snoc X4 N0 gp_a2
  refine gb (mkF m 32 #[vr a0, vi 0, vr a2, vi 0, vi 4, vi 0, vi x0] []) st4 ?_
  refine gb (mkF m 35 #[vr a0, vi 1, vr a2, vi 0, vi 4, vi 0, vi x0] []) (fun _ k => XS.iinc X4.here hx rfl (hb hby d20_32) rfl (l' := #[vr a0, vi 1, vr a2, vi 0, vi 4, vi 0, vi x0]) rfl k) ?_
  refine gb (mkF m 38 #[vr a0, vi 1, vr a2, vi 1, vi 4, vi 0, vi x0] []) (fun _ k => XS.iinc X4.here hx rfl (hb hby d20_35) rfl (l' := #[vr a0, vi 1, vr a2, vi 1, vi 4, vi 0, vi x0]) rfl k) ?_
  refine gb (mkF m 41 #[vr a0, vi 1, vr a2, vi 1, vi 4, vi 1, vi x0] []) (fun _ k => XS.iinc X4.here hx rfl (hb hby d20_38) rfl (l' := #[vr a0, vi 1, vr a2, vi 1, vi 4, vi 1, vi x0]) rfl k) ?_
  refine gb (mkF m 3 #[vr a0, vi 1, vr a2, vi 1, vi 4, vi 1, vi x0] []) (fun _ k => XS.goto X4.here hx rfl (pc0 := 41) (pc' := 3) rfl (hb hby d20_41) (by decide) (by decide) k) ?_
  refine gb (mkF m 5 #[vr a0, vi 1, vr a2, vi 1, vi 4, vi 1, vi x0] [(.int 1)]) (fun _ k => XS.iload X4.here hx rfl (hb hby d20_3) rfl k) ?_
  refine gb (mkF m 7 #[vr a0, vi 1, vr a2, vi 1, vi 4, vi 1, vi x0] [(.int 4), (.int 1)]) (fun _ k => XS.iload X4.here hx rfl (hb hby d20_5) rfl k) ?_
  refine gb (mkF m 10 #[vr a0, vi 1, vr a2, vi 1, vi 4, vi 1, vi x0] []) (fun _ k => XS.icmpNo X4.here hx rfl (hb hby d20_7) rfl (tlt (by decide : (1 : Int32) < (4 : Int32))).2.1 k) ?_
  refine gb (mkF m 11 #[vr a0, vi 1, vr a2, vi 1, vi 4, vi 1, vi x0] [(.ref a0)]) (fun _ k => XS.aloadN X4.here hx rfl (hb hby d20_10) rfl rfl k) ?_
  refine gb (mkF m 12 #[vr a0, vi 1, vr a2, vi 1, vi 4, vi 1, vi x0] [(.int 1), (.ref a0)]) (fun _ k => XS.iloadN X4.here hx rfl (hb hby d20_11) rfl k) ?_
  have f5 := (Arv.other pf0 W4 np_a0_a2)
  obtain ⟨cl6, Ar6, qa6, Sa6, Na6, Ha6, Ga6⟩ := id f5
  have hin7 : ¬ ((1 : Int32) < 0 ∨ cl6.slots.size ≤ ((1 : Int32)).toNatClampNeg) := inb_of Sa6 ⟨by decide, by decide⟩
  refine gb (mkF m 13 #[vr a0, vi 1, vr a2, vi 1, vi 4, vi 1, vi x0] [(.int x1)]) (X4.caload hx (j := (1 : Int32)) (v := (.int x1)) (by rw [e4]; exact Ar6.1) (State.isArrayOf_alike hZ.alike Ar6.2.1) Ar6.2.2 hin7 (Has.at Ha6 hin7 (congrArg (fun k => List.getD ([(.int x0), (.int x1), (.int x2), (.int x3)] : List Value) k (.int 0)) (by decide : ((1 : Int32)).toNatClampNeg = 1))) (g := (mkF m 12 #[vr a0, vi 1, vr a2, vi 1, vi 4, vi 1, vi x0] [(.int 1), (.ref a0)])) rfl rfl (hb hby d20_12)) ?_
  refine gb (mkF m 15 #[vr a0, vi 1, vr a2, vi 1, vi 4, vi 1, vi x1] []) (fun _ k => XS.istore X4.here hx rfl (hb hby d20_13) rfl (l' := #[vr a0, vi 1, vr a2, vi 1, vi 4, vi 1, vi x1]) rfl k) ?_
  refine gb (mkF m 17 #[vr a0, vi 1, vr a2, vi 1, vi 4, vi 1, vi x1] [(.int x1)]) (fun _ k => XS.iload X4.here hx rfl (hb hby d20_15) rfl k) ?_
  refine gb (mkF m 20 #[vr a0, vi 1, vr a2, vi 1, vi 4, vi 1, vi x1] [(.int 255), (.int x1)]) (fun _ k => XS.sipush X4.here hx rfl (hb hby d20_17) k) ?_
  refine gb (mkF m 26 #[vr a0, vi 1, vr a2, vi 1, vi 4, vi 1, vi x1] []) (fun _ k => XS.icmpYes X4.here hx rfl (pc0 := 20) (pc' := 26) rfl (hb hby d20_20) rfl (flt hx1).2.2.2 (by decide) (by decide) k) ?_
  refine gb (mkF m 27 #[vr a0, vi 1, vr a2, vi 1, vi 4, vi 1, vi x1] [(.ref a2)]) (fun _ k => XS.aloadN X4.here hx rfl (hb hby d20_26) rfl rfl k) ?_
  refine gb (mkF m 28 #[vr a0, vi 1, vr a2, vi 1, vi 4, vi 1, vi x1] [(.int 1), (.ref a2)]) (fun _ k => XS.iloadN X4.here hx rfl (hb hby d20_27) rfl k) ?_
  refine gb (mkF m 30 #[vr a0, vi 1, vr a2, vi 1, vi 4, vi 1, vi x1] [(.int x1), (.int 1), (.ref a2)]) (fun _ k => XS.iload X4.here hx rfl (hb hby d20_28) rfl k) ?_
  refine gb (mkF m 31 #[vr a0, vi 1, vr a2, vi 1, vi 4, vi 1, vi x1] [(.int (x1.toInt8.toInt32)), (.int 1), (.ref a2)]) (fun _ k => XS.i2b X4.here hx rfl (hb hby d20_30) rfl k) ?_
  obtain ⟨cl8, Ar8, qa8, Sa8, Na8, Ha8, Ga8⟩ := id V4
  have hin9 : ¬ ((1 : Int32) < 0 ∨ cl8.slots.size ≤ ((1 : Int32)).toNatClampNeg) := inb_of Sa8 ⟨by decide, by decide⟩
  obtain ⟨T9, h9, X9, e9, W9, st9⟩ := stB X4 hx hZ e4 Ar8 (j := (1 : Int32)) hin9 (g := (mkF m 31 #[vr a0, vi 1, vr a2, vi 1, vi 4, vi 1, vi x1] [(.int (x1.toInt8.toInt32)), (.int 1), (.ref a2)])) rfl rfl (hb hby d20_31)
  have V9 : Arv Z h9 a2 kb .byte (4 : Int32) [(.int ((x0.toInt8.toInt32).toInt8.toInt32)), (.int ((x1.toInt8.toInt32).toInt8.toInt32)), (.int 0), (.int 0)] (.int 0) := Arv.set Ar8 qa8 Sa8 Na8 Ha8 Ga8 (fits_nar_byte _) W9 1 (by decide) (Nat.le_of_ble_eq_true rfl)
  have N9 := Fr.snoc X9 N4 gp_a2
  refine gb (mkF m 32 #[vr a0, vi 1, vr a2, vi 1, vi 4, vi 1, vi x1] []) st9 ?_
  refine gb (mkF m 35 #[vr a0, vi 2, vr a2, vi 1, vi 4, vi 1, vi x1] []) (fun _ k => XS.iinc X9.here hx rfl (hb hby d20_32) rfl (l' := #[vr a0, vi 2, vr a2, vi 1, vi 4, vi 1, vi x1]) rfl k) ?_
  refine gb (mkF m 38 #[vr a0, vi 2, vr a2, vi 2, vi 4, vi 1, vi x1] []) (fun _ k => XS.iinc X9.here hx rfl (hb hby d20_35) rfl (l' := #[vr a0, vi 2, vr a2, vi 2, vi 4, vi 1, vi x1]) rfl k) ?_
  refine gb (mkF m 41 #[vr a0, vi 2, vr a2, vi 2, vi 4, vi 2, vi x1] []) (fun _ k => XS.iinc X9.here hx rfl (hb hby d20_38) rfl (l' := #[vr a0, vi 2, vr a2, vi 2, vi 4, vi 2, vi x1]) rfl k) ?_
  refine gb (mkF m 3 #[vr a0, vi 2, vr a2, vi 2, vi 4, vi 2, vi x1] []) (fun _ k => XS.goto X9.here hx rfl (pc0 := 41) (pc' := 3) rfl (hb hby d20_41) (by decide) (by decide) k) ?_
  refine gb (mkF m 5 #[vr a0, vi 2, vr a2, vi 2, vi 4, vi 2, vi x1] [(.int 2)]) (fun _ k => XS.iload X9.here hx rfl (hb hby d20_3) rfl k) ?_
  refine gb (mkF m 7 #[vr a0, vi 2, vr a2, vi 2, vi 4, vi 2, vi x1] [(.int 4), (.int 2)]) (fun _ k => XS.iload X9.here hx rfl (hb hby d20_5) rfl k) ?_
  refine gb (mkF m 10 #[vr a0, vi 2, vr a2, vi 2, vi 4, vi 2, vi x1] []) (fun _ k => XS.icmpNo X9.here hx rfl (hb hby d20_7) rfl (tlt (by decide : (2 : Int32) < (4 : Int32))).2.1 k) ?_
  refine gb (mkF m 11 #[vr a0, vi 2, vr a2, vi 2, vi 4, vi 2, vi x1] [(.ref a0)]) (fun _ k => XS.aloadN X9.here hx rfl (hb hby d20_10) rfl rfl k) ?_
  refine gb (mkF m 12 #[vr a0, vi 2, vr a2, vi 2, vi 4, vi 2, vi x1] [(.int 2), (.ref a0)]) (fun _ k => XS.iloadN X9.here hx rfl (hb hby d20_11) rfl k) ?_
  have f10 := (Arv.other f5 W9 np_a0_a2)
  obtain ⟨cl11, Ar11, qa11, Sa11, Na11, Ha11, Ga11⟩ := id f10
  have hin12 : ¬ ((2 : Int32) < 0 ∨ cl11.slots.size ≤ ((2 : Int32)).toNatClampNeg) := inb_of Sa11 ⟨by decide, by decide⟩
  refine gb (mkF m 13 #[vr a0, vi 2, vr a2, vi 2, vi 4, vi 2, vi x1] [(.int x2)]) (X9.caload hx (j := (2 : Int32)) (v := (.int x2)) (by rw [e9]; exact Ar11.1) (State.isArrayOf_alike hZ.alike Ar11.2.1) Ar11.2.2 hin12 (Has.at Ha11 hin12 (congrArg (fun k => List.getD ([(.int x0), (.int x1), (.int x2), (.int x3)] : List Value) k (.int 0)) (by decide : ((2 : Int32)).toNatClampNeg = 2))) (g := (mkF m 12 #[vr a0, vi 2, vr a2, vi 2, vi 4, vi 2, vi x1] [(.int 2), (.ref a0)])) rfl rfl (hb hby d20_12)) ?_
  refine gb (mkF m 15 #[vr a0, vi 2, vr a2, vi 2, vi 4, vi 2, vi x2] []) (fun _ k => XS.istore X9.here hx rfl (hb hby d20_13) rfl (l' := #[vr a0, vi 2, vr a2, vi 2, vi 4, vi 2, vi x2]) rfl k) ?_
  refine gb (mkF m 17 #[vr a0, vi 2, vr a2, vi 2, vi 4, vi 2, vi x2] [(.int x2)]) (fun _ k => XS.iload X9.here hx rfl (hb hby d20_15) rfl k) ?_
  refine gb (mkF m 20 #[vr a0, vi 2, vr a2, vi 2, vi 4, vi 2, vi x2] [(.int 255), (.int x2)]) (fun _ k => XS.sipush X9.here hx rfl (hb hby d20_17) k) ?_
  refine gb (mkF m 26 #[vr a0, vi 2, vr a2, vi 2, vi 4, vi 2, vi x2] []) (fun _ k => XS.icmpYes X9.here hx rfl (pc0 := 20) (pc' := 26) rfl (hb hby d20_20) rfl (flt hx2).2.2.2 (by decide) (by decide) k) ?_
  refine gb (mkF m 27 #[vr a0, vi 2, vr a2, vi 2, vi 4, vi 2, vi x2] [(.ref a2)]) (fun _ k => XS.aloadN X9.here hx rfl (hb hby d20_26) rfl rfl k) ?_
  refine gb (mkF m 28 #[vr a0, vi 2, vr a2, vi 2, vi 4, vi 2, vi x2] [(.int 2), (.ref a2)]) (fun _ k => XS.iloadN X9.here hx rfl (hb hby d20_27) rfl k) ?_
  refine gb (mkF m 30 #[vr a0, vi 2, vr a2, vi 2, vi 4, vi 2, vi x2] [(.int x2), (.int 2), (.ref a2)]) (fun _ k => XS.iload X9.here hx rfl (hb hby d20_28) rfl k) ?_
  refine gb (mkF m 31 #[vr a0, vi 2, vr a2, vi 2, vi 4, vi 2, vi x2] [(.int (x2.toInt8.toInt32)), (.int 2), (.ref a2)]) (fun _ k => XS.i2b X9.here hx rfl (hb hby d20_30) rfl k) ?_
  obtain ⟨cl13, Ar13, qa13, Sa13, Na13, Ha13, Ga13⟩ := id V9
  have hin14 : ¬ ((2 : Int32) < 0 ∨ cl13.slots.size ≤ ((2 : Int32)).toNatClampNeg) := inb_of Sa13 ⟨by decide, by decide⟩
  obtain ⟨T14, h14, X14, e14, W14, st14⟩ := stB X9 hx hZ e9 Ar13 (j := (2 : Int32)) hin14 (g := (mkF m 31 #[vr a0, vi 2, vr a2, vi 2, vi 4, vi 2, vi x2] [(.int (x2.toInt8.toInt32)), (.int 2), (.ref a2)])) rfl rfl (hb hby d20_31)
  have V14 : Arv Z h14 a2 kb .byte (4 : Int32) [(.int ((x0.toInt8.toInt32).toInt8.toInt32)), (.int ((x1.toInt8.toInt32).toInt8.toInt32)), (.int ((x2.toInt8.toInt32).toInt8.toInt32)), (.int 0)] (.int 0) := Arv.set Ar13 qa13 Sa13 Na13 Ha13 Ga13 (fits_nar_byte _) W14 2 (by decide) (Nat.le_of_ble_eq_true rfl)
  have N14 := Fr.snoc X14 N9 gp_a2
  refine gb (mkF m 32 #[vr a0, vi 2, vr a2, vi 2, vi 4, vi 2, vi x2] []) st14 ?_
  refine gb (mkF m 35 #[vr a0, vi 3, vr a2, vi 2, vi 4, vi 2, vi x2] []) (fun _ k => XS.iinc X14.here hx rfl (hb hby d20_32) rfl (l' := #[vr a0, vi 3, vr a2, vi 2, vi 4, vi 2, vi x2]) rfl k) ?_
  refine gb (mkF m 38 #[vr a0, vi 3, vr a2, vi 3, vi 4, vi 2, vi x2] []) (fun _ k => XS.iinc X14.here hx rfl (hb hby d20_35) rfl (l' := #[vr a0, vi 3, vr a2, vi 3, vi 4, vi 2, vi x2]) rfl k) ?_
  refine gb (mkF m 41 #[vr a0, vi 3, vr a2, vi 3, vi 4, vi 3, vi x2] []) (fun _ k => XS.iinc X14.here hx rfl (hb hby d20_38) rfl (l' := #[vr a0, vi 3, vr a2, vi 3, vi 4, vi 3, vi x2]) rfl k) ?_
  refine gb (mkF m 3 #[vr a0, vi 3, vr a2, vi 3, vi 4, vi 3, vi x2] []) (fun _ k => XS.goto X14.here hx rfl (pc0 := 41) (pc' := 3) rfl (hb hby d20_41) (by decide) (by decide) k) ?_
  refine gb (mkF m 5 #[vr a0, vi 3, vr a2, vi 3, vi 4, vi 3, vi x2] [(.int 3)]) (fun _ k => XS.iload X14.here hx rfl (hb hby d20_3) rfl k) ?_
  refine gb (mkF m 7 #[vr a0, vi 3, vr a2, vi 3, vi 4, vi 3, vi x2] [(.int 4), (.int 3)]) (fun _ k => XS.iload X14.here hx rfl (hb hby d20_5) rfl k) ?_
  refine gb (mkF m 10 #[vr a0, vi 3, vr a2, vi 3, vi 4, vi 3, vi x2] []) (fun _ k => XS.icmpNo X14.here hx rfl (hb hby d20_7) rfl (tlt (by decide : (3 : Int32) < (4 : Int32))).2.1 k) ?_
  refine gb (mkF m 11 #[vr a0, vi 3, vr a2, vi 3, vi 4, vi 3, vi x2] [(.ref a0)]) (fun _ k => XS.aloadN X14.here hx rfl (hb hby d20_10) rfl rfl k) ?_
  refine gb (mkF m 12 #[vr a0, vi 3, vr a2, vi 3, vi 4, vi 3, vi x2] [(.int 3), (.ref a0)]) (fun _ k => XS.iloadN X14.here hx rfl (hb hby d20_11) rfl k) ?_
  have f15 := (Arv.other f10 W14 np_a0_a2)
  obtain ⟨cl16, Ar16, qa16, Sa16, Na16, Ha16, Ga16⟩ := id f15
  have hin17 : ¬ ((3 : Int32) < 0 ∨ cl16.slots.size ≤ ((3 : Int32)).toNatClampNeg) := inb_of Sa16 ⟨by decide, by decide⟩
  refine gb (mkF m 13 #[vr a0, vi 3, vr a2, vi 3, vi 4, vi 3, vi x2] [(.int x3)]) (X14.caload hx (j := (3 : Int32)) (v := (.int x3)) (by rw [e14]; exact Ar16.1) (State.isArrayOf_alike hZ.alike Ar16.2.1) Ar16.2.2 hin17 (Has.at Ha16 hin17 (congrArg (fun k => List.getD ([(.int x0), (.int x1), (.int x2), (.int x3)] : List Value) k (.int 0)) (by decide : ((3 : Int32)).toNatClampNeg = 3))) (g := (mkF m 12 #[vr a0, vi 3, vr a2, vi 3, vi 4, vi 3, vi x2] [(.int 3), (.ref a0)])) rfl rfl (hb hby d20_12)) ?_
  refine gb (mkF m 15 #[vr a0, vi 3, vr a2, vi 3, vi 4, vi 3, vi x3] []) (fun _ k => XS.istore X14.here hx rfl (hb hby d20_13) rfl (l' := #[vr a0, vi 3, vr a2, vi 3, vi 4, vi 3, vi x3]) rfl k) ?_
  refine gb (mkF m 17 #[vr a0, vi 3, vr a2, vi 3, vi 4, vi 3, vi x3] [(.int x3)]) (fun _ k => XS.iload X14.here hx rfl (hb hby d20_15) rfl k) ?_
  refine gb (mkF m 20 #[vr a0, vi 3, vr a2, vi 3, vi 4, vi 3, vi x3] [(.int 255), (.int x3)]) (fun _ k => XS.sipush X14.here hx rfl (hb hby d20_17) k) ?_
  refine gb (mkF m 26 #[vr a0, vi 3, vr a2, vi 3, vi 4, vi 3, vi x3] []) (fun _ k => XS.icmpYes X14.here hx rfl (pc0 := 20) (pc' := 26) rfl (hb hby d20_20) rfl (flt hx3).2.2.2 (by decide) (by decide) k) ?_
  refine gb (mkF m 27 #[vr a0, vi 3, vr a2, vi 3, vi 4, vi 3, vi x3] [(.ref a2)]) (fun _ k => XS.aloadN X14.here hx rfl (hb hby d20_26) rfl rfl k) ?_
  refine gb (mkF m 28 #[vr a0, vi 3, vr a2, vi 3, vi 4, vi 3, vi x3] [(.int 3), (.ref a2)]) (fun _ k => XS.iloadN X14.here hx rfl (hb hby d20_27) rfl k) ?_
  refine gb (mkF m 30 #[vr a0, vi 3, vr a2, vi 3, vi 4, vi 3, vi x3] [(.int x3), (.int 3), (.ref a2)]) (fun _ k => XS.iload X14.here hx rfl (hb hby d20_28) rfl k) ?_
  refine gb (mkF m 31 #[vr a0, vi 3, vr a2, vi 3, vi 4, vi 3, vi x3] [(.int (x3.toInt8.toInt32)), (.int 3), (.ref a2)]) (fun _ k => XS.i2b X14.here hx rfl (hb hby d20_30) rfl k) ?_
  obtain ⟨cl18, Ar18, qa18, Sa18, Na18, Ha18, Ga18⟩ := id V14
  have hin19 : ¬ ((3 : Int32) < 0 ∨ cl18.slots.size ≤ ((3 : Int32)).toNatClampNeg) := inb_of Sa18 ⟨by decide, by decide⟩
  obtain ⟨T19, h19, X19, e19, W19, st19⟩ := stB X14 hx hZ e14 Ar18 (j := (3 : Int32)) hin19 (g := (mkF m 31 #[vr a0, vi 3, vr a2, vi 3, vi 4, vi 3, vi x3] [(.int (x3.toInt8.toInt32)), (.int 3), (.ref a2)])) rfl rfl (hb hby d20_31)
  have V19 : Arv Z h19 a2 kb .byte (4 : Int32) [(.int ((x0.toInt8.toInt32).toInt8.toInt32)), (.int ((x1.toInt8.toInt32).toInt8.toInt32)), (.int ((x2.toInt8.toInt32).toInt8.toInt32)), (.int ((x3.toInt8.toInt32).toInt8.toInt32))] (.int 0) := Arv.set Ar18 qa18 Sa18 Na18 Ha18 Ga18 (fits_nar_byte _) W19 3 (by decide) (Nat.le_of_ble_eq_true rfl)
  have N19 := Fr.snoc X19 N14 gp_a2
  refine gb (mkF m 32 #[vr a0, vi 3, vr a2, vi 3, vi 4, vi 3, vi x3] []) st19 ?_
  refine gb (mkF m 35 #[vr a0, vi 4, vr a2, vi 3, vi 4, vi 3, vi x3] []) (fun _ k => XS.iinc X19.here hx rfl (hb hby d20_32) rfl (l' := #[vr a0, vi 4, vr a2, vi 3, vi 4, vi 3, vi x3]) rfl k) ?_
  refine gb (mkF m 38 #[vr a0, vi 4, vr a2, vi 4, vi 4, vi 3, vi x3] []) (fun _ k => XS.iinc X19.here hx rfl (hb hby d20_35) rfl (l' := #[vr a0, vi 4, vr a2, vi 4, vi 4, vi 3, vi x3]) rfl k) ?_
  refine gb (mkF m 41 #[vr a0, vi 4, vr a2, vi 4, vi 4, vi 4, vi x3] []) (fun _ k => XS.iinc X19.here hx rfl (hb hby d20_38) rfl (l' := #[vr a0, vi 4, vr a2, vi 4, vi 4, vi 4, vi x3]) rfl k) ?_
  refine gb (mkF m 3 #[vr a0, vi 4, vr a2, vi 4, vi 4, vi 4, vi x3] []) (fun _ k => XS.goto X19.here hx rfl (pc0 := 41) (pc' := 3) rfl (hb hby d20_41) (by decide) (by decide) k) ?_
  refine gb (mkF m 5 #[vr a0, vi 4, vr a2, vi 4, vi 4, vi 4, vi x3] [(.int 4)]) (fun _ k => XS.iload X19.here hx rfl (hb hby d20_3) rfl k) ?_
  refine gb (mkF m 7 #[vr a0, vi 4, vr a2, vi 4, vi 4, vi 4, vi x3] [(.int 4), (.int 4)]) (fun _ k => XS.iload X19.here hx rfl (hb hby d20_5) rfl k) ?_
  refine gb (mkF m 44 #[vr a0, vi 4, vr a2, vi 4, vi 4, vi 4, vi x3] []) (fun _ k => XS.icmpYes X19.here hx rfl (pc0 := 7) (pc' := 44) rfl (hb hby d20_7) rfl (flt (by decide : ¬ ((4 : Int32) < (4 : Int32)))).2.1 (by decide) (by decide) k) ?_
  refine gb (mkF m 46 #[vr a0, vi 4, vr a2, vi 4, vi 4, vi 4, vi x3] [(.int 4)]) (fun _ k => XS.iload X19.here hx rfl (hb hby d20_44) rfl k) ?_
  have K20 := (((((Keep.refl h0 [a2]).wr W4 (Or.inl (List.mem_of_getElem? (i := 0) rfl))).wr W9 (Or.inl (List.mem_of_getElem? (i := 0) rfl))).wr W14 (Or.inl (List.mem_of_getElem? (i := 0) rfl))).wr W19 (Or.inl (List.mem_of_getElem? (i := 0) rfl)))
  exact Gl.outI X19 hx hk Bd.returns (hb hby d20_46) (Eq.mpr (congrArg (fun hh => Q204 Z a0 a2 ka kb x0 x1 x2 x3 w1 w2 w3 G1 sf h0 n0 _ hh _) e19) (show Q204 Z a0 a2 ka kb x0 x1 x2 x3 w1 w2 w3 G1 sf h0 n0 _ h19 _ from ⟨rfl, N19, K20, V19⟩)) (by decide) (by decide)
theorem d19_0 : decode jdk_52_method_16_code 0 = .ok (.iload_n 2, 1) := by decide +kernel
theorem d19_1 : decode jdk_52_method_16_code 1 = .ok (.newarray .byte, 2) := by decide +kernel
theorem d19_3 : decode jdk_52_method_16_code 3 = .ok (.astore_n 3, 1) := by decide +kernel
theorem d19_4 : decode jdk_52_method_16_code 4 = .ok (.aload_n 0, 1) := by decide +kernel
theorem d19_5 : decode jdk_52_method_16_code 5 = .ok (.iload_n 1, 1) := by decide +kernel
theorem d19_6 : decode jdk_52_method_16_code 6 = .ok (.aload_n 3, 1) := by decide +kernel
theorem d19_7 : decode jdk_52_method_16_code 7 = .ok (.iconst 0, 1) := by decide +kernel
theorem d19_8 : decode jdk_52_method_16_code 8 = .ok (.iload_n 2, 1) := by decide +kernel
theorem d19_9 : decode jdk_52_method_16_code 9 = .ok (.invokestatic 115, 3) := by decide +kernel
theorem d19_12 : decode jdk_52_method_16_code 12 = .ok (.istore 4, 2) := by decide +kernel
theorem d19_14 : decode jdk_52_method_16_code 14 = .ok (.iload 4, 2) := by decide +kernel
theorem d19_16 : decode jdk_52_method_16_code 16 = .ok (.iload_n 2, 1) := by decide +kernel
theorem d19_17 : decode jdk_52_method_16_code 17 = .ok (.if_icmp .eq 40, 3) := by decide +kernel
theorem d19_57 : decode jdk_52_method_16_code 57 = .ok (.aload_n 3, 1) := by decide +kernel
theorem d19_58 : decode jdk_52_method_16_code 58 = .ok (.areturn, 1) := by decide +kernel
theorem pd96 : parseMethodDescriptor "([CI[BII)I" = some ⟨[(.array .char), .int, (.array .byte), .int, .int], some .int⟩ := by decide +kernel
theorem ef191 (m : MethodId) (x0 : Addr) (x1 : Int32) (x2 : Int32) : entryFrame m #[(.ref x0), (.int x1), (.int x2)] 6 = mkF m 0 #[.val (.ref x0), .val (.int x1), .val (.int x2), .unset, .unset, .unset] [] := by first | (simp [entryFrame, mkF, argsToLocals, Value.category]; done) | rfl
def Q191 (Z : State) (a0 : Addr) (ka : ClassId) (x0 : Int32) (w1 w2 w3 : Addr) (G1 : Int32) (sf : Value) (h0 : Heap) (n0 : Nat) (v : Option Value) (h : Heap) (L : List Loc) : Prop := ∃ (b : Addr), ∃ (kb : ClassId), v = some (.ref b) ∧ Fr n0 L ∧ Keep h0 h [] ∧ Arv Z h b kb .byte (1 : Int32) [(.int (bL x0))] (.int 0) ∧ (h0.size ≤ b)
theorem rm191 (l : Launch) (Z : State) (a0' : Array Value) (hw : ∀ d ∈ tables_1, d.before a0' Z = true) (ws : List Jvm.Cond) (a0 : Addr) (ka : ClassId) (x0 : Int32) (w1 w2 w3 : Addr) (G1 : Int32) (sf : Value) (h0 : Heap) (n0 : Nat) (O : Old Z n0 h0) (W : Wd Z w1 w2 w3 G1 sf) (pf0 : Arv Z h0 a0 ka .char (1 : Int32) [(.int x0)] (.int 0)) (hx0 : ¬ (255 : Int32) < x0) :
    MetFree l mq8 (head1 (Jvm.Cond.code mq8 jdk_52_method_16_code 6 (some (.array .byte)) :: ws) ({ frames := 1, cells := 1, slots := 1, locals := 18 } : Room)) (fun a U => a = #[(.ref a0), (.int 0), (.int 1)] ∧ Z.Warmed39 U.vm ∧ U.heap = h0) (fun _ _ _ _ _ => True) (fun _ U o U' => ∃ v L, o = .returned v ∧ Q191 Z a0 ka x0 w1 w2 w3 G1 sf h0 n0 v U'.heap L ∧ FrameEnd U o U' L ({ frames := 1, cells := 1, slots := 1, locals := 18 } : Room).cells ({ frames := 1, cells := 1, slots := 1, locals := 18 } : Room).slots) := by
  refine MetFree.of_bodySF (plainFor_of_name pn3) hisR ?_
  intro p e s m args below meth c s₁ Bd hml0 hP hK
  obtain ⟨rfl, hZ, hh⟩ := hP
  have hx := Bd.exec
  have hby := Bd.bytes
  have hml : c.maxLocals = 6 := hml0
  have hown : s.vm.findClass "java/lang/StringUTF16" = some m.cls := findClass_of_methodNamed Bd.named
  have hnm := (name_of_methodNamed Bd.named Bd.method).1
  have hk := Bd.notSynchronized
  have X0 : Stand p l e ({ frames := 1, cells := 1, slots := 1, locals := 18 } : Room) s m #[(.ref a0), (.int 0), (.int 1)] below meth c s₁ [] 0 0 := Stand.of_body Bd
  have hh2 := hh
  have e0 : s₁.heap = h0 := by rw [← hh, Bd.state]; rfl
  have N0 := Fr.nil n0
  show Gl p e below (Pos 1 1 (Q191 Z a0 ka x0 w1 w2 w3 G1 sf h0 n0) s) s₁ _
  refine Gl.cast (ef191 m a0 (0 : Int32) (1 : Int32)) ?_
  refine gb (mkF m 1 #[vr a0, vi 0, vi 1, .unset, .unset, .unset] [(.int 1)]) (fun _ k => XS.iloadN X0.here hx rfl (hb hby d19_0) rfl k) ?_
  obtain ⟨T1, h1, k1, X1, e1, E1, A1, st1⟩ := newP X0 hx hZ (hW hw 24 rfl) e0 (g := (mkF m 1 #[vr a0, vi 0, vi 1, .unset, .unset, .unset] [(.int 1)])) rfl (hb hby d19_1) rfl (by decide) (cap := 1) (by decide) (by decide) (by decide) (by decide)
  obtain ⟨b1, g1⟩ : ∃ z, z = (h0).size := ⟨_, rfl⟩
  rw [← g1] at A1 st1
  have gb1 : n0 ≤ b1 := Nat.le_trans (Nat.le_trans (Nat.le_of_eq O.1.symm) O.2.1) (Nat.le_of_eq g1.symm)
  have sb1 : h0.size ≤ b1 := Nat.le_trans (Keep.refl h0 []).1 (Nat.le_of_eq g1.symm)
  have ne1_0 : a0 ≠ b1 := Nat.ne_of_lt (Nat.lt_of_lt_of_le pf0.lt (Nat.le_of_eq g1.symm))
  have V1 : Arv Z h1 b1 k1 .byte (1 : Int32) [(.int 0)] (.int 0) := (Arv.new A1 (by decide)).pad (pad_rep [] (.int 0) 1)
  refine gb (mkF m 3 #[vr a0, vi 0, vi 1, .unset, .unset, .unset] [(.ref b1)]) st1 ?_
  refine gb (mkF m 4 #[vr a0, vi 0, vi 1, vr b1, .unset, .unset] []) (fun _ k => XS.astoreN X1.here hx rfl (hb hby d19_3) rfl rfl (l' := #[vr a0, vi 0, vi 1, vr b1, .unset, .unset]) rfl k) ?_
  refine gb (mkF m 5 #[vr a0, vi 0, vi 1, vr b1, .unset, .unset] [(.ref a0)]) (fun _ k => XS.aloadN X1.here hx rfl (hb hby d19_4) rfl rfl k) ?_
  refine gb (mkF m 6 #[vr a0, vi 0, vi 1, vr b1, .unset, .unset] [(.int 0), (.ref a0)]) (fun _ k => XS.iloadN X1.here hx rfl (hb hby d19_5) rfl k) ?_
  refine gb (mkF m 7 #[vr a0, vi 0, vi 1, vr b1, .unset, .unset] [(.ref b1), (.int 0), (.ref a0)]) (fun _ k => XS.aloadN X1.here hx rfl (hb hby d19_6) rfl rfl k) ?_
  refine gb (mkF m 8 #[vr a0, vi 0, vi 1, vr b1, .unset, .unset] [(.int 0), (.ref b1), (.int 0), (.ref a0)]) (fun _ k => XS.iconst X1.here hx rfl (hb hby d19_7) k) ?_
  refine gb (mkF m 9 #[vr a0, vi 0, vi 1, vr b1, .unset, .unset] [(.int 1), (.int 0), (.ref b1), (.int 0), (.ref a0)]) (fun _ k => XS.iloadN X1.here hx rfl (hb hby d19_8) rfl k) ?_
  have f3 := (Arv.ext pf0 E1)
  have O4 := (O.ext E1)
  obtain ⟨_, _, ⟨T2, L2, k2, n2⟩, -, X2, ⟨Lc2, hQ2, l2, y2, z2⟩, st2⟩ := callS X1 hx (y := mq7) hown (mvT hZ (hW hw 101 rfl)) (mvT hZ (hW hw 102 rfl)) (mvT hZ (hW hw 99 rfl)) (mvT hZ (hW hw 103 rfl)) (by decide) (backOf (W := 0) (rm201 l Z a0' hw [] a0 b1 ka k1 x0 w1 w2 w3 G1 sf h1 n0 O4 W f3 V1 gb1 ne1_0 hx0) hZ (hW hw 103 rfl) (hW hw 99 rfl) (by decide) (by decide)) (g := (mkF m 9 #[vr a0, vi 0, vi 1, vr b1, .unset, .unset] [(.int 1), (.int 0), (.ref b1), (.int 0), (.ref a0)])) rfl (by rw [hml]; rfl) (argsL := [(.ref a0), (.int 0), (.ref b1), (.int 0), (.int 1)]) (rest := []) (lenOf pd96 rfl) rfl (Nat.le_of_eq rfl) (hb hby d19_9) (fun _ _ => ⟨rfl, e1, (by decide : 1 + 0 ≤ _), (by decide : 1 + 0 ≤ _)⟩)
  dsimp only [Pt.U, Pt.locs, Pt.cells, Pt.slots] at X2 l2 y2 z2 st2 hQ2
  subst l2 y2 z2
  obtain ⟨rfl, N2q, Kc2, fc2_0⟩ := hQ2
  have N2 := Fr.app N0 N2q
  refine gb (mkF m 12 #[vr a0, vi 0, vi 1, vr b1, .unset, .unset] [(.int 1)]) st2 ?_
  refine gb (mkF m 14 #[vr a0, vi 0, vi 1, vr b1, vi 1, .unset] []) (fun _ k => XS.istore X2.here hx rfl (hb hby d19_12) rfl (l' := #[vr a0, vi 0, vi 1, vr b1, vi 1, .unset]) rfl k) ?_
  refine gb (mkF m 16 #[vr a0, vi 0, vi 1, vr b1, vi 1, .unset] [(.int 1)]) (fun _ k => XS.iload X2.here hx rfl (hb hby d19_14) rfl k) ?_
  refine gb (mkF m 17 #[vr a0, vi 0, vi 1, vr b1, vi 1, .unset] [(.int 1), (.int 1)]) (fun _ k => XS.iloadN X2.here hx rfl (hb hby d19_16) rfl k) ?_
  refine gb (mkF m 57 #[vr a0, vi 0, vi 1, vr b1, vi 1, .unset] []) (fun _ k => XS.icmpYes X2.here hx rfl (pc0 := 17) (pc' := 57) rfl (hb hby d19_17) rfl (teq (by decide : (1 : Int32) = (1 : Int32))).1 (by decide) (by decide) k) ?_
  refine gb (mkF m 58 #[vr a0, vi 0, vi 1, vr b1, vi 1, .unset] [(.ref b1)]) (fun _ k => XS.aloadN X2.here hx rfl (hb hby d19_57) rfl rfl k) ?_
  have K5 := (((Keep.refl h0 []).ext E1).trans Kc2 (allS (Or.inr sb1) all0))
  exact Gl.outA X2 hx hk Bd.returns rfl rfl (hb hby d19_58) ⟨b1, k1, rfl, N2, K5, fc2_0, sb1⟩ (by decide) (by decide)
theorem ef192 (m : MethodId) (x0 : Addr) (x1 : Int32) (x2 : Int32) : entryFrame m #[(.ref x0), (.int x1), (.int x2)] 6 = mkF m 0 #[.val (.ref x0), .val (.int x1), .val (.int x2), .unset, .unset, .unset] [] := by first | (simp [entryFrame, mkF, argsToLocals, Value.category]; done) | rfl
def Q192 (Z : State) (a0 : Addr) (ka : ClassId) (x0 : Int32) (x1 : Int32) (w1 w2 w3 : Addr) (G1 : Int32) (sf : Value) (h0 : Heap) (n0 : Nat) (v : Option Value) (h : Heap) (L : List Loc) : Prop := ∃ (b : Addr), ∃ (kb : ClassId), v = some (.ref b) ∧ Fr n0 L ∧ Keep h0 h [] ∧ Arv Z h b kb .byte (2 : Int32) [(.int (bL x0)), (.int (bL x1))] (.int 0) ∧ (h0.size ≤ b)
theorem rm192 (l : Launch) (Z : State) (a0' : Array Value) (hw : ∀ d ∈ tables_1, d.before a0' Z = true) (ws : List Jvm.Cond) (a0 : Addr) (ka : ClassId) (x0 : Int32) (x1 : Int32) (w1 w2 w3 : Addr) (G1 : Int32) (sf : Value) (h0 : Heap) (n0 : Nat) (O : Old Z n0 h0) (W : Wd Z w1 w2 w3 G1 sf) (pf0 : Arv Z h0 a0 ka .char (2 : Int32) [(.int x0), (.int x1)] (.int 0)) (hx0 : ¬ (255 : Int32) < x0) (hx1 : ¬ (255 : Int32) < x1) :
    MetFree l mq8 (head1 (Jvm.Cond.code mq8 jdk_52_method_16_code 6 (some (.array .byte)) :: ws) ({ frames := 1, cells := 1, slots := 2, locals := 18 } : Room)) (fun a U => a = #[(.ref a0), (.int 0), (.int 2)] ∧ Z.Warmed39 U.vm ∧ U.heap = h0) (fun _ _ _ _ _ => True) (fun _ U o U' => ∃ v L, o = .returned v ∧ Q192 Z a0 ka x0 x1 w1 w2 w3 G1 sf h0 n0 v U'.heap L ∧ FrameEnd U o U' L ({ frames := 1, cells := 1, slots := 2, locals := 18 } : Room).cells ({ frames := 1, cells := 1, slots := 2, locals := 18 } : Room).slots) := by
  refine MetFree.of_bodySF (plainFor_of_name pn3) hisR ?_
  intro p e s m args below meth c s₁ Bd hml0 hP hK
  obtain ⟨rfl, hZ, hh⟩ := hP
  have hx := Bd.exec
  have hby := Bd.bytes
  have hml : c.maxLocals = 6 := hml0
  have hown : s.vm.findClass "java/lang/StringUTF16" = some m.cls := findClass_of_methodNamed Bd.named
  have hnm := (name_of_methodNamed Bd.named Bd.method).1
  have hk := Bd.notSynchronized
  have X0 : Stand p l e ({ frames := 1, cells := 1, slots := 2, locals := 18 } : Room) s m #[(.ref a0), (.int 0), (.int 2)] below meth c s₁ [] 0 0 := Stand.of_body Bd
  have hh2 := hh
  have e0 : s₁.heap = h0 := by rw [← hh, Bd.state]; rfl
  have N0 := Fr.nil n0
  show Gl p e below (Pos 1 2 (Q192 Z a0 ka x0 x1 w1 w2 w3 G1 sf h0 n0) s) s₁ _
  refine Gl.cast (ef192 m a0 (0 : Int32) (2 : Int32)) ?_
  refine gb (mkF m 1 #[vr a0, vi 0, vi 2, .unset, .unset, .unset] [(.int 2)]) (fun _ k => XS.iloadN X0.here hx rfl (hb hby d19_0) rfl k) ?_
  obtain ⟨T1, h1, k1, X1, e1, E1, A1, st1⟩ := newP X0 hx hZ (hW hw 24 rfl) e0 (g := (mkF m 1 #[vr a0, vi 0, vi 2, .unset, .unset, .unset] [(.int 2)])) rfl (hb hby d19_1) rfl (by decide) (cap := 2) (by decide) (by decide) (by decide) (by decide)
  obtain ⟨b1, g1⟩ : ∃ z, z = (h0).size := ⟨_, rfl⟩
  rw [← g1] at A1 st1
  have gb1 : n0 ≤ b1 := Nat.le_trans (Nat.le_trans (Nat.le_of_eq O.1.symm) O.2.1) (Nat.le_of_eq g1.symm)
  have sb1 : h0.size ≤ b1 := Nat.le_trans (Keep.refl h0 []).1 (Nat.le_of_eq g1.symm)
  have ne1_0 : a0 ≠ b1 := Nat.ne_of_lt (Nat.lt_of_lt_of_le pf0.lt (Nat.le_of_eq g1.symm))
  have V1 : Arv Z h1 b1 k1 .byte (2 : Int32) [(.int 0), (.int 0)] (.int 0) := (Arv.new A1 (by decide)).pad (pad_rep [] (.int 0) 2)
  refine gb (mkF m 3 #[vr a0, vi 0, vi 2, .unset, .unset, .unset] [(.ref b1)]) st1 ?_
  refine gb (mkF m 4 #[vr a0, vi 0, vi 2, vr b1, .unset, .unset] []) (fun _ k => XS.astoreN X1.here hx rfl (hb hby d19_3) rfl rfl (l' := #[vr a0, vi 0, vi 2, vr b1, .unset, .unset]) rfl k) ?_
  refine gb (mkF m 5 #[vr a0, vi 0, vi 2, vr b1, .unset, .unset] [(.ref a0)]) (fun _ k => XS.aloadN X1.here hx rfl (hb hby d19_4) rfl rfl k) ?_
  refine gb (mkF m 6 #[vr a0, vi 0, vi 2, vr b1, .unset, .unset] [(.int 0), (.ref a0)]) (fun _ k => XS.iloadN X1.here hx rfl (hb hby d19_5) rfl k) ?_
  refine gb (mkF m 7 #[vr a0, vi 0, vi 2, vr b1, .unset, .unset] [(.ref b1), (.int 0), (.ref a0)]) (fun _ k => XS.aloadN X1.here hx rfl (hb hby d19_6) rfl rfl k) ?_
  refine gb (mkF m 8 #[vr a0, vi 0, vi 2, vr b1, .unset, .unset] [(.int 0), (.ref b1), (.int 0), (.ref a0)]) (fun _ k => XS.iconst X1.here hx rfl (hb hby d19_7) k) ?_
  refine gb (mkF m 9 #[vr a0, vi 0, vi 2, vr b1, .unset, .unset] [(.int 2), (.int 0), (.ref b1), (.int 0), (.ref a0)]) (fun _ k => XS.iloadN X1.here hx rfl (hb hby d19_8) rfl k) ?_
  have f3 := (Arv.ext pf0 E1)
  have O4 := (O.ext E1)
  obtain ⟨_, _, ⟨T2, L2, k2, n2⟩, -, X2, ⟨Lc2, hQ2, l2, y2, z2⟩, st2⟩ := callS X1 hx (y := mq7) hown (mvT hZ (hW hw 101 rfl)) (mvT hZ (hW hw 102 rfl)) (mvT hZ (hW hw 99 rfl)) (mvT hZ (hW hw 103 rfl)) (by decide) (backOf (W := 0) (rm202 l Z a0' hw [] a0 b1 ka k1 x0 x1 w1 w2 w3 G1 sf h1 n0 O4 W f3 V1 gb1 ne1_0 hx0 hx1) hZ (hW hw 103 rfl) (hW hw 99 rfl) (by decide) (by decide)) (g := (mkF m 9 #[vr a0, vi 0, vi 2, vr b1, .unset, .unset] [(.int 2), (.int 0), (.ref b1), (.int 0), (.ref a0)])) rfl (by rw [hml]; rfl) (argsL := [(.ref a0), (.int 0), (.ref b1), (.int 0), (.int 2)]) (rest := []) (lenOf pd96 rfl) rfl (Nat.le_of_eq rfl) (hb hby d19_9) (fun _ _ => ⟨rfl, e1, (by decide : 1 + 0 ≤ _), (by decide : 2 + 0 ≤ _)⟩)
  dsimp only [Pt.U, Pt.locs, Pt.cells, Pt.slots] at X2 l2 y2 z2 st2 hQ2
  subst l2 y2 z2
  obtain ⟨rfl, N2q, Kc2, fc2_0⟩ := hQ2
  have N2 := Fr.app N0 N2q
  refine gb (mkF m 12 #[vr a0, vi 0, vi 2, vr b1, .unset, .unset] [(.int 2)]) st2 ?_
  refine gb (mkF m 14 #[vr a0, vi 0, vi 2, vr b1, vi 2, .unset] []) (fun _ k => XS.istore X2.here hx rfl (hb hby d19_12) rfl (l' := #[vr a0, vi 0, vi 2, vr b1, vi 2, .unset]) rfl k) ?_
  refine gb (mkF m 16 #[vr a0, vi 0, vi 2, vr b1, vi 2, .unset] [(.int 2)]) (fun _ k => XS.iload X2.here hx rfl (hb hby d19_14) rfl k) ?_
  refine gb (mkF m 17 #[vr a0, vi 0, vi 2, vr b1, vi 2, .unset] [(.int 2), (.int 2)]) (fun _ k => XS.iloadN X2.here hx rfl (hb hby d19_16) rfl k) ?_
  refine gb (mkF m 57 #[vr a0, vi 0, vi 2, vr b1, vi 2, .unset] []) (fun _ k => XS.icmpYes X2.here hx rfl (pc0 := 17) (pc' := 57) rfl (hb hby d19_17) rfl (teq (by decide : (2 : Int32) = (2 : Int32))).1 (by decide) (by decide) k) ?_
  refine gb (mkF m 58 #[vr a0, vi 0, vi 2, vr b1, vi 2, .unset] [(.ref b1)]) (fun _ k => XS.aloadN X2.here hx rfl (hb hby d19_57) rfl rfl k) ?_
  have K5 := (((Keep.refl h0 []).ext E1).trans Kc2 (allS (Or.inr sb1) all0))
  exact Gl.outA X2 hx hk Bd.returns rfl rfl (hb hby d19_58) ⟨b1, k1, rfl, N2, K5, fc2_0, sb1⟩ (by decide) (by decide)
theorem ef193 (m : MethodId) (x0 : Addr) (x1 : Int32) (x2 : Int32) : entryFrame m #[(.ref x0), (.int x1), (.int x2)] 6 = mkF m 0 #[.val (.ref x0), .val (.int x1), .val (.int x2), .unset, .unset, .unset] [] := by first | (simp [entryFrame, mkF, argsToLocals, Value.category]; done) | rfl
def Q193 (Z : State) (a0 : Addr) (ka : ClassId) (x0 : Int32) (x1 : Int32) (x2 : Int32) (w1 w2 w3 : Addr) (G1 : Int32) (sf : Value) (h0 : Heap) (n0 : Nat) (v : Option Value) (h : Heap) (L : List Loc) : Prop := ∃ (b : Addr), ∃ (kb : ClassId), v = some (.ref b) ∧ Fr n0 L ∧ Keep h0 h [] ∧ Arv Z h b kb .byte (3 : Int32) [(.int (bL x0)), (.int (bL x1)), (.int (bL x2))] (.int 0) ∧ (h0.size ≤ b)
theorem rm193 (l : Launch) (Z : State) (a0' : Array Value) (hw : ∀ d ∈ tables_1, d.before a0' Z = true) (ws : List Jvm.Cond) (a0 : Addr) (ka : ClassId) (x0 : Int32) (x1 : Int32) (x2 : Int32) (w1 w2 w3 : Addr) (G1 : Int32) (sf : Value) (h0 : Heap) (n0 : Nat) (O : Old Z n0 h0) (W : Wd Z w1 w2 w3 G1 sf) (pf0 : Arv Z h0 a0 ka .char (3 : Int32) [(.int x0), (.int x1), (.int x2)] (.int 0)) (hx0 : ¬ (255 : Int32) < x0) (hx1 : ¬ (255 : Int32) < x1) (hx2 : ¬ (255 : Int32) < x2) :
    MetFree l mq8 (head1 (Jvm.Cond.code mq8 jdk_52_method_16_code 6 (some (.array .byte)) :: ws) ({ frames := 1, cells := 1, slots := 3, locals := 18 } : Room)) (fun a U => a = #[(.ref a0), (.int 0), (.int 3)] ∧ Z.Warmed39 U.vm ∧ U.heap = h0) (fun _ _ _ _ _ => True) (fun _ U o U' => ∃ v L, o = .returned v ∧ Q193 Z a0 ka x0 x1 x2 w1 w2 w3 G1 sf h0 n0 v U'.heap L ∧ FrameEnd U o U' L ({ frames := 1, cells := 1, slots := 3, locals := 18 } : Room).cells ({ frames := 1, cells := 1, slots := 3, locals := 18 } : Room).slots) := by
  refine MetFree.of_bodySF (plainFor_of_name pn3) hisR ?_
  intro p e s m args below meth c s₁ Bd hml0 hP hK
  obtain ⟨rfl, hZ, hh⟩ := hP
  have hx := Bd.exec
  have hby := Bd.bytes
  have hml : c.maxLocals = 6 := hml0
  have hown : s.vm.findClass "java/lang/StringUTF16" = some m.cls := findClass_of_methodNamed Bd.named
  have hnm := (name_of_methodNamed Bd.named Bd.method).1
  have hk := Bd.notSynchronized
  have X0 : Stand p l e ({ frames := 1, cells := 1, slots := 3, locals := 18 } : Room) s m #[(.ref a0), (.int 0), (.int 3)] below meth c s₁ [] 0 0 := Stand.of_body Bd
  have hh2 := hh
  have e0 : s₁.heap = h0 := by rw [← hh, Bd.state]; rfl
  have N0 := Fr.nil n0
  show Gl p e below (Pos 1 3 (Q193 Z a0 ka x0 x1 x2 w1 w2 w3 G1 sf h0 n0) s) s₁ _
  refine Gl.cast (ef193 m a0 (0 : Int32) (3 : Int32)) ?_
  refine gb (mkF m 1 #[vr a0, vi 0, vi 3, .unset, .unset, .unset] [(.int 3)]) (fun _ k => XS.iloadN X0.here hx rfl (hb hby d19_0) rfl k) ?_
  obtain ⟨T1, h1, k1, X1, e1, E1, A1, st1⟩ := newP X0 hx hZ (hW hw 24 rfl) e0 (g := (mkF m 1 #[vr a0, vi 0, vi 3, .unset, .unset, .unset] [(.int 3)])) rfl (hb hby d19_1) rfl (by decide) (cap := 3) (by decide) (by decide) (by decide) (by decide)
  obtain ⟨b1, g1⟩ : ∃ z, z = (h0).size := ⟨_, rfl⟩
  rw [← g1] at A1 st1
  have gb1 : n0 ≤ b1 := Nat.le_trans (Nat.le_trans (Nat.le_of_eq O.1.symm) O.2.1) (Nat.le_of_eq g1.symm)
  have sb1 : h0.size ≤ b1 := Nat.le_trans (Keep.refl h0 []).1 (Nat.le_of_eq g1.symm)
  have ne1_0 : a0 ≠ b1 := Nat.ne_of_lt (Nat.lt_of_lt_of_le pf0.lt (Nat.le_of_eq g1.symm))
  have V1 : Arv Z h1 b1 k1 .byte (3 : Int32) [(.int 0), (.int 0), (.int 0)] (.int 0) := (Arv.new A1 (by decide)).pad (pad_rep [] (.int 0) 3)
  refine gb (mkF m 3 #[vr a0, vi 0, vi 3, .unset, .unset, .unset] [(.ref b1)]) st1 ?_
  refine gb (mkF m 4 #[vr a0, vi 0, vi 3, vr b1, .unset, .unset] []) (fun _ k => XS.astoreN X1.here hx rfl (hb hby d19_3) rfl rfl (l' := #[vr a0, vi 0, vi 3, vr b1, .unset, .unset]) rfl k) ?_
  refine gb (mkF m 5 #[vr a0, vi 0, vi 3, vr b1, .unset, .unset] [(.ref a0)]) (fun _ k => XS.aloadN X1.here hx rfl (hb hby d19_4) rfl rfl k) ?_
  refine gb (mkF m 6 #[vr a0, vi 0, vi 3, vr b1, .unset, .unset] [(.int 0), (.ref a0)]) (fun _ k => XS.iloadN X1.here hx rfl (hb hby d19_5) rfl k) ?_
  refine gb (mkF m 7 #[vr a0, vi 0, vi 3, vr b1, .unset, .unset] [(.ref b1), (.int 0), (.ref a0)]) (fun _ k => XS.aloadN X1.here hx rfl (hb hby d19_6) rfl rfl k) ?_
  refine gb (mkF m 8 #[vr a0, vi 0, vi 3, vr b1, .unset, .unset] [(.int 0), (.ref b1), (.int 0), (.ref a0)]) (fun _ k => XS.iconst X1.here hx rfl (hb hby d19_7) k) ?_
  refine gb (mkF m 9 #[vr a0, vi 0, vi 3, vr b1, .unset, .unset] [(.int 3), (.int 0), (.ref b1), (.int 0), (.ref a0)]) (fun _ k => XS.iloadN X1.here hx rfl (hb hby d19_8) rfl k) ?_
  have f3 := (Arv.ext pf0 E1)
  have O4 := (O.ext E1)
  obtain ⟨_, _, ⟨T2, L2, k2, n2⟩, -, X2, ⟨Lc2, hQ2, l2, y2, z2⟩, st2⟩ := callS X1 hx (y := mq7) hown (mvT hZ (hW hw 101 rfl)) (mvT hZ (hW hw 102 rfl)) (mvT hZ (hW hw 99 rfl)) (mvT hZ (hW hw 103 rfl)) (by decide) (backOf (W := 0) (rm203 l Z a0' hw [] a0 b1 ka k1 x0 x1 x2 w1 w2 w3 G1 sf h1 n0 O4 W f3 V1 gb1 ne1_0 hx0 hx1 hx2) hZ (hW hw 103 rfl) (hW hw 99 rfl) (by decide) (by decide)) (g := (mkF m 9 #[vr a0, vi 0, vi 3, vr b1, .unset, .unset] [(.int 3), (.int 0), (.ref b1), (.int 0), (.ref a0)])) rfl (by rw [hml]; rfl) (argsL := [(.ref a0), (.int 0), (.ref b1), (.int 0), (.int 3)]) (rest := []) (lenOf pd96 rfl) rfl (Nat.le_of_eq rfl) (hb hby d19_9) (fun _ _ => ⟨rfl, e1, (by decide : 1 + 0 ≤ _), (by decide : 3 + 0 ≤ _)⟩)
  dsimp only [Pt.U, Pt.locs, Pt.cells, Pt.slots] at X2 l2 y2 z2 st2 hQ2
  subst l2 y2 z2
  obtain ⟨rfl, N2q, Kc2, fc2_0⟩ := hQ2
  have N2 := Fr.app N0 N2q
  refine gb (mkF m 12 #[vr a0, vi 0, vi 3, vr b1, .unset, .unset] [(.int 3)]) st2 ?_
  refine gb (mkF m 14 #[vr a0, vi 0, vi 3, vr b1, vi 3, .unset] []) (fun _ k => XS.istore X2.here hx rfl (hb hby d19_12) rfl (l' := #[vr a0, vi 0, vi 3, vr b1, vi 3, .unset]) rfl k) ?_
  refine gb (mkF m 16 #[vr a0, vi 0, vi 3, vr b1, vi 3, .unset] [(.int 3)]) (fun _ k => XS.iload X2.here hx rfl (hb hby d19_14) rfl k) ?_
  refine gb (mkF m 17 #[vr a0, vi 0, vi 3, vr b1, vi 3, .unset] [(.int 3), (.int 3)]) (fun _ k => XS.iloadN X2.here hx rfl (hb hby d19_16) rfl k) ?_
  refine gb (mkF m 57 #[vr a0, vi 0, vi 3, vr b1, vi 3, .unset] []) (fun _ k => XS.icmpYes X2.here hx rfl (pc0 := 17) (pc' := 57) rfl (hb hby d19_17) rfl (teq (by decide : (3 : Int32) = (3 : Int32))).1 (by decide) (by decide) k) ?_
  refine gb (mkF m 58 #[vr a0, vi 0, vi 3, vr b1, vi 3, .unset] [(.ref b1)]) (fun _ k => XS.aloadN X2.here hx rfl (hb hby d19_57) rfl rfl k) ?_
  have K5 := (((Keep.refl h0 []).ext E1).trans Kc2 (allS (Or.inr sb1) all0))
  exact Gl.outA X2 hx hk Bd.returns rfl rfl (hb hby d19_58) ⟨b1, k1, rfl, N2, K5, fc2_0, sb1⟩ (by decide) (by decide)
theorem ef194 (m : MethodId) (x0 : Addr) (x1 : Int32) (x2 : Int32) : entryFrame m #[(.ref x0), (.int x1), (.int x2)] 6 = mkF m 0 #[.val (.ref x0), .val (.int x1), .val (.int x2), .unset, .unset, .unset] [] := by first | (simp [entryFrame, mkF, argsToLocals, Value.category]; done) | rfl
def Q194 (Z : State) (a0 : Addr) (ka : ClassId) (x0 : Int32) (x1 : Int32) (x2 : Int32) (x3 : Int32) (w1 w2 w3 : Addr) (G1 : Int32) (sf : Value) (h0 : Heap) (n0 : Nat) (v : Option Value) (h : Heap) (L : List Loc) : Prop := ∃ (b : Addr), ∃ (kb : ClassId), v = some (.ref b) ∧ Fr n0 L ∧ Keep h0 h [] ∧ Arv Z h b kb .byte (4 : Int32) [(.int (bL x0)), (.int (bL x1)), (.int (bL x2)), (.int (bL x3))] (.int 0) ∧ (h0.size ≤ b)
theorem rm194 (l : Launch) (Z : State) (a0' : Array Value) (hw : ∀ d ∈ tables_1, d.before a0' Z = true) (ws : List Jvm.Cond) (a0 : Addr) (ka : ClassId) (x0 : Int32) (x1 : Int32) (x2 : Int32) (x3 : Int32) (w1 w2 w3 : Addr) (G1 : Int32) (sf : Value) (h0 : Heap) (n0 : Nat) (O : Old Z n0 h0) (W : Wd Z w1 w2 w3 G1 sf) (pf0 : Arv Z h0 a0 ka .char (4 : Int32) [(.int x0), (.int x1), (.int x2), (.int x3)] (.int 0)) (hx0 : ¬ (255 : Int32) < x0) (hx1 : ¬ (255 : Int32) < x1) (hx2 : ¬ (255 : Int32) < x2) (hx3 : ¬ (255 : Int32) < x3) :
    MetFree l mq8 (head1 (Jvm.Cond.code mq8 jdk_52_method_16_code 6 (some (.array .byte)) :: ws) ({ frames := 1, cells := 1, slots := 4, locals := 18 } : Room)) (fun a U => a = #[(.ref a0), (.int 0), (.int 4)] ∧ Z.Warmed39 U.vm ∧ U.heap = h0) (fun _ _ _ _ _ => True) (fun _ U o U' => ∃ v L, o = .returned v ∧ Q194 Z a0 ka x0 x1 x2 x3 w1 w2 w3 G1 sf h0 n0 v U'.heap L ∧ FrameEnd U o U' L ({ frames := 1, cells := 1, slots := 4, locals := 18 } : Room).cells ({ frames := 1, cells := 1, slots := 4, locals := 18 } : Room).slots) := by
  refine MetFree.of_bodySF (plainFor_of_name pn3) hisR ?_
  intro p e s m args below meth c s₁ Bd hml0 hP hK
  obtain ⟨rfl, hZ, hh⟩ := hP
  have hx := Bd.exec
  have hby := Bd.bytes
  have hml : c.maxLocals = 6 := hml0
  have hown : s.vm.findClass "java/lang/StringUTF16" = some m.cls := findClass_of_methodNamed Bd.named
  have hnm := (name_of_methodNamed Bd.named Bd.method).1
  have hk := Bd.notSynchronized
  have X0 : Stand p l e ({ frames := 1, cells := 1, slots := 4, locals := 18 } : Room) s m #[(.ref a0), (.int 0), (.int 4)] below meth c s₁ [] 0 0 := Stand.of_body Bd
  have hh2 := hh
  have e0 : s₁.heap = h0 := by rw [← hh, Bd.state]; rfl
  have N0 := Fr.nil n0
  show Gl p e below (Pos 1 4 (Q194 Z a0 ka x0 x1 x2 x3 w1 w2 w3 G1 sf h0 n0) s) s₁ _
  refine Gl.cast (ef194 m a0 (0 : Int32) (4 : Int32)) ?_
  refine gb (mkF m 1 #[vr a0, vi 0, vi 4, .unset, .unset, .unset] [(.int 4)]) (fun _ k => XS.iloadN X0.here hx rfl (hb hby d19_0) rfl k) ?_
  obtain ⟨T1, h1, k1, X1, e1, E1, A1, st1⟩ := newP X0 hx hZ (hW hw 24 rfl) e0 (g := (mkF m 1 #[vr a0, vi 0, vi 4, .unset, .unset, .unset] [(.int 4)])) rfl (hb hby d19_1) rfl (by decide) (cap := 4) (by decide) (by decide) (by decide) (by decide)
  obtain ⟨b1, g1⟩ : ∃ z, z = (h0).size := ⟨_, rfl⟩
  rw [← g1] at A1 st1
  have gb1 : n0 ≤ b1 := Nat.le_trans (Nat.le_trans (Nat.le_of_eq O.1.symm) O.2.1) (Nat.le_of_eq g1.symm)
  have sb1 : h0.size ≤ b1 := Nat.le_trans (Keep.refl h0 []).1 (Nat.le_of_eq g1.symm)
  have ne1_0 : a0 ≠ b1 := Nat.ne_of_lt (Nat.lt_of_lt_of_le pf0.lt (Nat.le_of_eq g1.symm))
  have V1 : Arv Z h1 b1 k1 .byte (4 : Int32) [(.int 0), (.int 0), (.int 0), (.int 0)] (.int 0) := (Arv.new A1 (by decide)).pad (pad_rep [] (.int 0) 4)
  refine gb (mkF m 3 #[vr a0, vi 0, vi 4, .unset, .unset, .unset] [(.ref b1)]) st1 ?_
  refine gb (mkF m 4 #[vr a0, vi 0, vi 4, vr b1, .unset, .unset] []) (fun _ k => XS.astoreN X1.here hx rfl (hb hby d19_3) rfl rfl (l' := #[vr a0, vi 0, vi 4, vr b1, .unset, .unset]) rfl k) ?_
  refine gb (mkF m 5 #[vr a0, vi 0, vi 4, vr b1, .unset, .unset] [(.ref a0)]) (fun _ k => XS.aloadN X1.here hx rfl (hb hby d19_4) rfl rfl k) ?_
  refine gb (mkF m 6 #[vr a0, vi 0, vi 4, vr b1, .unset, .unset] [(.int 0), (.ref a0)]) (fun _ k => XS.iloadN X1.here hx rfl (hb hby d19_5) rfl k) ?_
  refine gb (mkF m 7 #[vr a0, vi 0, vi 4, vr b1, .unset, .unset] [(.ref b1), (.int 0), (.ref a0)]) (fun _ k => XS.aloadN X1.here hx rfl (hb hby d19_6) rfl rfl k) ?_
  refine gb (mkF m 8 #[vr a0, vi 0, vi 4, vr b1, .unset, .unset] [(.int 0), (.ref b1), (.int 0), (.ref a0)]) (fun _ k => XS.iconst X1.here hx rfl (hb hby d19_7) k) ?_
  refine gb (mkF m 9 #[vr a0, vi 0, vi 4, vr b1, .unset, .unset] [(.int 4), (.int 0), (.ref b1), (.int 0), (.ref a0)]) (fun _ k => XS.iloadN X1.here hx rfl (hb hby d19_8) rfl k) ?_
  have f3 := (Arv.ext pf0 E1)
  have O4 := (O.ext E1)
  obtain ⟨_, _, ⟨T2, L2, k2, n2⟩, -, X2, ⟨Lc2, hQ2, l2, y2, z2⟩, st2⟩ := callS X1 hx (y := mq7) hown (mvT hZ (hW hw 101 rfl)) (mvT hZ (hW hw 102 rfl)) (mvT hZ (hW hw 99 rfl)) (mvT hZ (hW hw 103 rfl)) (by decide) (backOf (W := 0) (rm204 l Z a0' hw [] a0 b1 ka k1 x0 x1 x2 x3 w1 w2 w3 G1 sf h1 n0 O4 W f3 V1 gb1 ne1_0 hx0 hx1 hx2 hx3) hZ (hW hw 103 rfl) (hW hw 99 rfl) (by decide) (by decide)) (g := (mkF m 9 #[vr a0, vi 0, vi 4, vr b1, .unset, .unset] [(.int 4), (.int 0), (.ref b1), (.int 0), (.ref a0)])) rfl (by rw [hml]; rfl) (argsL := [(.ref a0), (.int 0), (.ref b1), (.int 0), (.int 4)]) (rest := []) (lenOf pd96 rfl) rfl (Nat.le_of_eq rfl) (hb hby d19_9) (fun _ _ => ⟨rfl, e1, (by decide : 1 + 0 ≤ _), (by decide : 4 + 0 ≤ _)⟩)
  dsimp only [Pt.U, Pt.locs, Pt.cells, Pt.slots] at X2 l2 y2 z2 st2 hQ2
  subst l2 y2 z2
  obtain ⟨rfl, N2q, Kc2, fc2_0⟩ := hQ2
  have N2 := Fr.app N0 N2q
  refine gb (mkF m 12 #[vr a0, vi 0, vi 4, vr b1, .unset, .unset] [(.int 4)]) st2 ?_
  refine gb (mkF m 14 #[vr a0, vi 0, vi 4, vr b1, vi 4, .unset] []) (fun _ k => XS.istore X2.here hx rfl (hb hby d19_12) rfl (l' := #[vr a0, vi 0, vi 4, vr b1, vi 4, .unset]) rfl k) ?_
  refine gb (mkF m 16 #[vr a0, vi 0, vi 4, vr b1, vi 4, .unset] [(.int 4)]) (fun _ k => XS.iload X2.here hx rfl (hb hby d19_14) rfl k) ?_
  refine gb (mkF m 17 #[vr a0, vi 0, vi 4, vr b1, vi 4, .unset] [(.int 4), (.int 4)]) (fun _ k => XS.iloadN X2.here hx rfl (hb hby d19_16) rfl k) ?_
  refine gb (mkF m 57 #[vr a0, vi 0, vi 4, vr b1, vi 4, .unset] []) (fun _ k => XS.icmpYes X2.here hx rfl (pc0 := 17) (pc' := 57) rfl (hb hby d19_17) rfl (teq (by decide : (4 : Int32) = (4 : Int32))).1 (by decide) (by decide) k) ?_
  refine gb (mkF m 58 #[vr a0, vi 0, vi 4, vr b1, vi 4, .unset] [(.ref b1)]) (fun _ k => XS.aloadN X2.here hx rfl (hb hby d19_57) rfl rfl k) ?_
  have K5 := (((Keep.refl h0 []).ext E1).trans Kc2 (allS (Or.inr sb1) all0))
  exact Gl.outA X2 hx hk Bd.returns rfl rfl (hb hby d19_58) ⟨b1, k1, rfl, N2, K5, fc2_0, sb1⟩ (by decide) (by decide)
theorem d21_0 : decode jdk_52_method_15_code 0 = .ok (.iload_n 1, 1) := by decide +kernel
theorem d21_1 : decode jdk_52_method_15_code 1 = .ok (.aload_n 0, 1) := by decide +kernel
theorem d21_2 : decode jdk_52_method_15_code 2 = .ok (.arraylength, 1) := by decide +kernel
theorem d21_3 : decode jdk_52_method_15_code 3 = .ok (.isub, 1) := by decide +kernel
theorem d21_4 : decode jdk_52_method_15_code 4 = .ok (.bipush 31, 2) := by decide +kernel
theorem d21_6 : decode jdk_52_method_15_code 6 = .ok (.iushr, 1) := by decide +kernel
theorem d21_7 : decode jdk_52_method_15_code 7 = .ok (.i2b, 1) := by decide +kernel
theorem d21_8 : decode jdk_52_method_15_code 8 = .ok (.ireturn, 1) := by decide +kernel
theorem ef211_1 (m : MethodId) (x0 : Addr) (x1 : Int32) : entryFrame m #[(.ref x0), (.int x1)] 2 = mkF m 0 #[.val (.ref x0), .val (.int x1)] [] := by first | (simp [entryFrame, mkF, argsToLocals, Value.category]; done) | rfl
def Q211_1 (Z : State) (a0 : Addr) (kb : ClassId) (vv : List Value) (w1 w2 w3 : Addr) (G1 : Int32) (sf : Value) (h0 : Heap) (n0 : Nat) (v : Option Value) (h : Heap) (L : List Loc) : Prop := v = some (.int 0) ∧ Fr n0 L ∧ h = h0
theorem rm211_1 (l : Launch) (Z : State) (a0' : Array Value) (hw : ∀ d ∈ tables_1, d.before a0' Z = true) (ws : List Jvm.Cond) (a0 : Addr) (kb : ClassId) (vv : List Value) (w1 w2 w3 : Addr) (G1 : Int32) (sf : Value) (h0 : Heap) (n0 : Nat) (O : Old Z n0 h0) (W : Wd Z w1 w2 w3 G1 sf) (pf0 : Arv Z h0 a0 kb .byte (1 : Int32) vv (.int 0)) :
    MetFree l mq9 (head1 (Jvm.Cond.code mq9 jdk_52_method_15_code 2 (some .byte) :: ws) ({ frames := 0, cells := 0, slots := 0, locals := 0 } : Room)) (fun a U => a = #[(.ref a0), (.int 1)] ∧ Z.Warmed39 U.vm ∧ U.heap = h0) (fun _ _ _ _ _ => True) (fun _ U o U' => ∃ v L, o = .returned v ∧ Q211_1 Z a0 kb vv w1 w2 w3 G1 sf h0 n0 v U'.heap L ∧ FrameEnd U o U' L ({ frames := 0, cells := 0, slots := 0, locals := 0 } : Room).cells ({ frames := 0, cells := 0, slots := 0, locals := 0 } : Room).slots) := by
  refine MetFree.of_bodySF (plainFor_of_name pn3) hisR ?_
  intro p e s m args below meth c s₁ Bd hml0 hP hK
  obtain ⟨rfl, hZ, hh⟩ := hP
  have hx := Bd.exec
  have hby := Bd.bytes
  have hml : c.maxLocals = 2 := hml0
  have hown : s.vm.findClass "java/lang/StringUTF16" = some m.cls := findClass_of_methodNamed Bd.named
  have hnm := (name_of_methodNamed Bd.named Bd.method).1
  have hk := Bd.notSynchronized
  have X0 : Stand p l e ({ frames := 0, cells := 0, slots := 0, locals := 0 } : Room) s m #[(.ref a0), (.int 1)] below meth c s₁ [] 0 0 := Stand.of_body Bd
  have hh2 := hh
  have e0 : s₁.heap = h0 := by rw [← hh, Bd.state]; rfl
  have N0 := Fr.nil n0
  show Gl p e below (Pos 0 0 (Q211_1 Z a0 kb vv w1 w2 w3 G1 sf h0 n0) s) s₁ _
  refine Gl.cast (ef211_1 m a0 (1 : Int32)) ?_
  refine gb (mkF m 1 #[vr a0, vi 1] [(.int 1)]) (fun _ k => XS.iloadN X0.here hx rfl (hb hby d21_0) rfl k) ?_
  refine gb (mkF m 2 #[vr a0, vi 1] [(.ref a0), (.int 1)]) (fun _ k => XS.aloadN X0.here hx rfl (hb hby d21_1) rfl rfl k) ?_
  obtain ⟨cl1, Ar1, qa1, Sa1, Na1, Ha1, Ga1⟩ := id pf0
  refine gb (mkF m 3 #[vr a0, vi 1] [(.int 1), (.int 1)]) (fun t k => X0.arraylength hx (by rw [e0]; exact Ar1.1) (State.isArrayOf_alike hZ.alike Ar1.2.1) (g := (mkF m 2 #[vr a0, vi 1] [(.ref a0), (.int 1)])) rfl rfl (hb hby d21_2) t (by rw [len_of Sa1 Na1]; exact k)) ?_
  refine gb (mkF m 4 #[vr a0, vi 1] [(.int ((1 : Int32) - (1 : Int32)))]) (fun _ k => XS.isub X0.here hx rfl (hb hby d21_3) rfl k) ?_
  refine gb (mkF m 6 #[vr a0, vi 1] [(.int 31), (.int ((1 : Int32) - (1 : Int32)))]) (fun _ k => XS.bipush X0.here hx rfl (hb hby d21_4) k) ?_
  refine gb (mkF m 7 #[vr a0, vi 1] [(.int ((((1 : Int32) - (1 : Int32)).toUInt32 >>> ((31 : Int32) &&& 31).toUInt32).toInt32))]) (fun _ k => XS.iushr X0.here hx rfl (hb hby d21_6) rfl k) ?_
  refine gb (mkF m 8 #[vr a0, vi 1] [(.int (((((1 : Int32) - (1 : Int32)).toUInt32 >>> ((31 : Int32) &&& 31).toUInt32).toInt32).toInt8.toInt32))]) (fun _ k => XS.i2b X0.here hx rfl (hb hby d21_7) rfl k) ?_
  exact Gl.outN X0 hx hk (t := .byte) Bd.returns (by simp) (hb hby d21_8) ⟨(congrArg (fun z => some (Value.int z)) (by decide : nar .byte (((((1 : Int32) - (1 : Int32)).toUInt32 >>> ((31 : Int32) &&& 31).toUInt32).toInt32).toInt8.toInt32) = (0 : Int32))), N0, e0⟩ (by decide) (by decide)
theorem ef212_2 (m : MethodId) (x0 : Addr) (x1 : Int32) : entryFrame m #[(.ref x0), (.int x1)] 2 = mkF m 0 #[.val (.ref x0), .val (.int x1)] [] := by first | (simp [entryFrame, mkF, argsToLocals, Value.category]; done) | rfl
def Q212_2 (Z : State) (a0 : Addr) (kb : ClassId) (vv : List Value) (w1 w2 w3 : Addr) (G1 : Int32) (sf : Value) (h0 : Heap) (n0 : Nat) (v : Option Value) (h : Heap) (L : List Loc) : Prop := v = some (.int 0) ∧ Fr n0 L ∧ h = h0
theorem rm212_2 (l : Launch) (Z : State) (a0' : Array Value) (hw : ∀ d ∈ tables_1, d.before a0' Z = true) (ws : List Jvm.Cond) (a0 : Addr) (kb : ClassId) (vv : List Value) (w1 w2 w3 : Addr) (G1 : Int32) (sf : Value) (h0 : Heap) (n0 : Nat) (O : Old Z n0 h0) (W : Wd Z w1 w2 w3 G1 sf) (pf0 : Arv Z h0 a0 kb .byte (2 : Int32) vv (.int 0)) :
    MetFree l mq9 (head1 (Jvm.Cond.code mq9 jdk_52_method_15_code 2 (some .byte) :: ws) ({ frames := 0, cells := 0, slots := 0, locals := 0 } : Room)) (fun a U => a = #[(.ref a0), (.int 2)] ∧ Z.Warmed39 U.vm ∧ U.heap = h0) (fun _ _ _ _ _ => True) (fun _ U o U' => ∃ v L, o = .returned v ∧ Q212_2 Z a0 kb vv w1 w2 w3 G1 sf h0 n0 v U'.heap L ∧ FrameEnd U o U' L ({ frames := 0, cells := 0, slots := 0, locals := 0 } : Room).cells ({ frames := 0, cells := 0, slots := 0, locals := 0 } : Room).slots) := by
  refine MetFree.of_bodySF (plainFor_of_name pn3) hisR ?_
  intro p e s m args below meth c s₁ Bd hml0 hP hK
  obtain ⟨rfl, hZ, hh⟩ := hP
  have hx := Bd.exec
  have hby := Bd.bytes
  have hml : c.maxLocals = 2 := hml0
  have hown : s.vm.findClass "java/lang/StringUTF16" = some m.cls := findClass_of_methodNamed Bd.named
  have hnm := (name_of_methodNamed Bd.named Bd.method).1
  have hk := Bd.notSynchronized
  have X0 : Stand p l e ({ frames := 0, cells := 0, slots := 0, locals := 0 } : Room) s m #[(.ref a0), (.int 2)] below meth c s₁ [] 0 0 := Stand.of_body Bd
  have hh2 := hh
  have e0 : s₁.heap = h0 := by rw [← hh, Bd.state]; rfl
  have N0 := Fr.nil n0
  show Gl p e below (Pos 0 0 (Q212_2 Z a0 kb vv w1 w2 w3 G1 sf h0 n0) s) s₁ _
  refine Gl.cast (ef212_2 m a0 (2 : Int32)) ?_
  refine gb (mkF m 1 #[vr a0, vi 2] [(.int 2)]) (fun _ k => XS.iloadN X0.here hx rfl (hb hby d21_0) rfl k) ?_
  refine gb (mkF m 2 #[vr a0, vi 2] [(.ref a0), (.int 2)]) (fun _ k => XS.aloadN X0.here hx rfl (hb hby d21_1) rfl rfl k) ?_
  obtain ⟨cl1, Ar1, qa1, Sa1, Na1, Ha1, Ga1⟩ := id pf0
  refine gb (mkF m 3 #[vr a0, vi 2] [(.int 2), (.int 2)]) (fun t k => X0.arraylength hx (by rw [e0]; exact Ar1.1) (State.isArrayOf_alike hZ.alike Ar1.2.1) (g := (mkF m 2 #[vr a0, vi 2] [(.ref a0), (.int 2)])) rfl rfl (hb hby d21_2) t (by rw [len_of Sa1 Na1]; exact k)) ?_
  refine gb (mkF m 4 #[vr a0, vi 2] [(.int ((2 : Int32) - (2 : Int32)))]) (fun _ k => XS.isub X0.here hx rfl (hb hby d21_3) rfl k) ?_
  refine gb (mkF m 6 #[vr a0, vi 2] [(.int 31), (.int ((2 : Int32) - (2 : Int32)))]) (fun _ k => XS.bipush X0.here hx rfl (hb hby d21_4) k) ?_
  refine gb (mkF m 7 #[vr a0, vi 2] [(.int ((((2 : Int32) - (2 : Int32)).toUInt32 >>> ((31 : Int32) &&& 31).toUInt32).toInt32))]) (fun _ k => XS.iushr X0.here hx rfl (hb hby d21_6) rfl k) ?_
  refine gb (mkF m 8 #[vr a0, vi 2] [(.int (((((2 : Int32) - (2 : Int32)).toUInt32 >>> ((31 : Int32) &&& 31).toUInt32).toInt32).toInt8.toInt32))]) (fun _ k => XS.i2b X0.here hx rfl (hb hby d21_7) rfl k) ?_
  exact Gl.outN X0 hx hk (t := .byte) Bd.returns (by simp) (hb hby d21_8) ⟨(congrArg (fun z => some (Value.int z)) (by decide : nar .byte (((((2 : Int32) - (2 : Int32)).toUInt32 >>> ((31 : Int32) &&& 31).toUInt32).toInt32).toInt8.toInt32) = (0 : Int32))), N0, e0⟩ (by decide) (by decide)
theorem ef213_3 (m : MethodId) (x0 : Addr) (x1 : Int32) : entryFrame m #[(.ref x0), (.int x1)] 2 = mkF m 0 #[.val (.ref x0), .val (.int x1)] [] := by first | (simp [entryFrame, mkF, argsToLocals, Value.category]; done) | rfl
def Q213_3 (Z : State) (a0 : Addr) (kb : ClassId) (vv : List Value) (w1 w2 w3 : Addr) (G1 : Int32) (sf : Value) (h0 : Heap) (n0 : Nat) (v : Option Value) (h : Heap) (L : List Loc) : Prop := v = some (.int 0) ∧ Fr n0 L ∧ h = h0
theorem rm213_3 (l : Launch) (Z : State) (a0' : Array Value) (hw : ∀ d ∈ tables_1, d.before a0' Z = true) (ws : List Jvm.Cond) (a0 : Addr) (kb : ClassId) (vv : List Value) (w1 w2 w3 : Addr) (G1 : Int32) (sf : Value) (h0 : Heap) (n0 : Nat) (O : Old Z n0 h0) (W : Wd Z w1 w2 w3 G1 sf) (pf0 : Arv Z h0 a0 kb .byte (3 : Int32) vv (.int 0)) :
    MetFree l mq9 (head1 (Jvm.Cond.code mq9 jdk_52_method_15_code 2 (some .byte) :: ws) ({ frames := 0, cells := 0, slots := 0, locals := 0 } : Room)) (fun a U => a = #[(.ref a0), (.int 3)] ∧ Z.Warmed39 U.vm ∧ U.heap = h0) (fun _ _ _ _ _ => True) (fun _ U o U' => ∃ v L, o = .returned v ∧ Q213_3 Z a0 kb vv w1 w2 w3 G1 sf h0 n0 v U'.heap L ∧ FrameEnd U o U' L ({ frames := 0, cells := 0, slots := 0, locals := 0 } : Room).cells ({ frames := 0, cells := 0, slots := 0, locals := 0 } : Room).slots) := by
  refine MetFree.of_bodySF (plainFor_of_name pn3) hisR ?_
  intro p e s m args below meth c s₁ Bd hml0 hP hK
  obtain ⟨rfl, hZ, hh⟩ := hP
  have hx := Bd.exec
  have hby := Bd.bytes
  have hml : c.maxLocals = 2 := hml0
  have hown : s.vm.findClass "java/lang/StringUTF16" = some m.cls := findClass_of_methodNamed Bd.named
  have hnm := (name_of_methodNamed Bd.named Bd.method).1
  have hk := Bd.notSynchronized
  have X0 : Stand p l e ({ frames := 0, cells := 0, slots := 0, locals := 0 } : Room) s m #[(.ref a0), (.int 3)] below meth c s₁ [] 0 0 := Stand.of_body Bd
  have hh2 := hh
  have e0 : s₁.heap = h0 := by rw [← hh, Bd.state]; rfl
  have N0 := Fr.nil n0
  show Gl p e below (Pos 0 0 (Q213_3 Z a0 kb vv w1 w2 w3 G1 sf h0 n0) s) s₁ _
  refine Gl.cast (ef213_3 m a0 (3 : Int32)) ?_
  refine gb (mkF m 1 #[vr a0, vi 3] [(.int 3)]) (fun _ k => XS.iloadN X0.here hx rfl (hb hby d21_0) rfl k) ?_
  refine gb (mkF m 2 #[vr a0, vi 3] [(.ref a0), (.int 3)]) (fun _ k => XS.aloadN X0.here hx rfl (hb hby d21_1) rfl rfl k) ?_
  obtain ⟨cl1, Ar1, qa1, Sa1, Na1, Ha1, Ga1⟩ := id pf0
  refine gb (mkF m 3 #[vr a0, vi 3] [(.int 3), (.int 3)]) (fun t k => X0.arraylength hx (by rw [e0]; exact Ar1.1) (State.isArrayOf_alike hZ.alike Ar1.2.1) (g := (mkF m 2 #[vr a0, vi 3] [(.ref a0), (.int 3)])) rfl rfl (hb hby d21_2) t (by rw [len_of Sa1 Na1]; exact k)) ?_
  refine gb (mkF m 4 #[vr a0, vi 3] [(.int ((3 : Int32) - (3 : Int32)))]) (fun _ k => XS.isub X0.here hx rfl (hb hby d21_3) rfl k) ?_
  refine gb (mkF m 6 #[vr a0, vi 3] [(.int 31), (.int ((3 : Int32) - (3 : Int32)))]) (fun _ k => XS.bipush X0.here hx rfl (hb hby d21_4) k) ?_
  refine gb (mkF m 7 #[vr a0, vi 3] [(.int ((((3 : Int32) - (3 : Int32)).toUInt32 >>> ((31 : Int32) &&& 31).toUInt32).toInt32))]) (fun _ k => XS.iushr X0.here hx rfl (hb hby d21_6) rfl k) ?_
  refine gb (mkF m 8 #[vr a0, vi 3] [(.int (((((3 : Int32) - (3 : Int32)).toUInt32 >>> ((31 : Int32) &&& 31).toUInt32).toInt32).toInt8.toInt32))]) (fun _ k => XS.i2b X0.here hx rfl (hb hby d21_7) rfl k) ?_
  exact Gl.outN X0 hx hk (t := .byte) Bd.returns (by simp) (hb hby d21_8) ⟨(congrArg (fun z => some (Value.int z)) (by decide : nar .byte (((((3 : Int32) - (3 : Int32)).toUInt32 >>> ((31 : Int32) &&& 31).toUInt32).toInt32).toInt8.toInt32) = (0 : Int32))), N0, e0⟩ (by decide) (by decide)
theorem ef214_4 (m : MethodId) (x0 : Addr) (x1 : Int32) : entryFrame m #[(.ref x0), (.int x1)] 2 = mkF m 0 #[.val (.ref x0), .val (.int x1)] [] := by first | (simp [entryFrame, mkF, argsToLocals, Value.category]; done) | rfl
def Q214_4 (Z : State) (a0 : Addr) (kb : ClassId) (vv : List Value) (w1 w2 w3 : Addr) (G1 : Int32) (sf : Value) (h0 : Heap) (n0 : Nat) (v : Option Value) (h : Heap) (L : List Loc) : Prop := v = some (.int 0) ∧ Fr n0 L ∧ h = h0
theorem rm214_4 (l : Launch) (Z : State) (a0' : Array Value) (hw : ∀ d ∈ tables_1, d.before a0' Z = true) (ws : List Jvm.Cond) (a0 : Addr) (kb : ClassId) (vv : List Value) (w1 w2 w3 : Addr) (G1 : Int32) (sf : Value) (h0 : Heap) (n0 : Nat) (O : Old Z n0 h0) (W : Wd Z w1 w2 w3 G1 sf) (pf0 : Arv Z h0 a0 kb .byte (4 : Int32) vv (.int 0)) :
    MetFree l mq9 (head1 (Jvm.Cond.code mq9 jdk_52_method_15_code 2 (some .byte) :: ws) ({ frames := 0, cells := 0, slots := 0, locals := 0 } : Room)) (fun a U => a = #[(.ref a0), (.int 4)] ∧ Z.Warmed39 U.vm ∧ U.heap = h0) (fun _ _ _ _ _ => True) (fun _ U o U' => ∃ v L, o = .returned v ∧ Q214_4 Z a0 kb vv w1 w2 w3 G1 sf h0 n0 v U'.heap L ∧ FrameEnd U o U' L ({ frames := 0, cells := 0, slots := 0, locals := 0 } : Room).cells ({ frames := 0, cells := 0, slots := 0, locals := 0 } : Room).slots) := by
  refine MetFree.of_bodySF (plainFor_of_name pn3) hisR ?_
  intro p e s m args below meth c s₁ Bd hml0 hP hK
  obtain ⟨rfl, hZ, hh⟩ := hP
  have hx := Bd.exec
  have hby := Bd.bytes
  have hml : c.maxLocals = 2 := hml0
  have hown : s.vm.findClass "java/lang/StringUTF16" = some m.cls := findClass_of_methodNamed Bd.named
  have hnm := (name_of_methodNamed Bd.named Bd.method).1
  have hk := Bd.notSynchronized
  have X0 : Stand p l e ({ frames := 0, cells := 0, slots := 0, locals := 0 } : Room) s m #[(.ref a0), (.int 4)] below meth c s₁ [] 0 0 := Stand.of_body Bd
  have hh2 := hh
  have e0 : s₁.heap = h0 := by rw [← hh, Bd.state]; rfl
  have N0 := Fr.nil n0
  show Gl p e below (Pos 0 0 (Q214_4 Z a0 kb vv w1 w2 w3 G1 sf h0 n0) s) s₁ _
  refine Gl.cast (ef214_4 m a0 (4 : Int32)) ?_
  refine gb (mkF m 1 #[vr a0, vi 4] [(.int 4)]) (fun _ k => XS.iloadN X0.here hx rfl (hb hby d21_0) rfl k) ?_
  refine gb (mkF m 2 #[vr a0, vi 4] [(.ref a0), (.int 4)]) (fun _ k => XS.aloadN X0.here hx rfl (hb hby d21_1) rfl rfl k) ?_
  obtain ⟨cl1, Ar1, qa1, Sa1, Na1, Ha1, Ga1⟩ := id pf0
  refine gb (mkF m 3 #[vr a0, vi 4] [(.int 4), (.int 4)]) (fun t k => X0.arraylength hx (by rw [e0]; exact Ar1.1) (State.isArrayOf_alike hZ.alike Ar1.2.1) (g := (mkF m 2 #[vr a0, vi 4] [(.ref a0), (.int 4)])) rfl rfl (hb hby d21_2) t (by rw [len_of Sa1 Na1]; exact k)) ?_
  refine gb (mkF m 4 #[vr a0, vi 4] [(.int ((4 : Int32) - (4 : Int32)))]) (fun _ k => XS.isub X0.here hx rfl (hb hby d21_3) rfl k) ?_
  refine gb (mkF m 6 #[vr a0, vi 4] [(.int 31), (.int ((4 : Int32) - (4 : Int32)))]) (fun _ k => XS.bipush X0.here hx rfl (hb hby d21_4) k) ?_
  refine gb (mkF m 7 #[vr a0, vi 4] [(.int ((((4 : Int32) - (4 : Int32)).toUInt32 >>> ((31 : Int32) &&& 31).toUInt32).toInt32))]) (fun _ k => XS.iushr X0.here hx rfl (hb hby d21_6) rfl k) ?_
  refine gb (mkF m 8 #[vr a0, vi 4] [(.int (((((4 : Int32) - (4 : Int32)).toUInt32 >>> ((31 : Int32) &&& 31).toUInt32).toInt32).toInt8.toInt32))]) (fun _ k => XS.i2b X0.here hx rfl (hb hby d21_7) rfl k) ?_
  exact Gl.outN X0 hx hk (t := .byte) Bd.returns (by simp) (hb hby d21_8) ⟨(congrArg (fun z => some (Value.int z)) (by decide : nar .byte (((((4 : Int32) - (4 : Int32)).toUInt32 >>> ((31 : Int32) &&& 31).toUInt32).toInt32).toInt8.toInt32) = (0 : Int32))), N0, e0⟩ (by decide) (by decide)
theorem d4_0 : decode jdk_42_method_149_code 0 = .ok (.aload_n 0, 1) := by decide +kernel
theorem d4_1 : decode jdk_42_method_149_code 1 = .ok (.invokespecial 1, 3) := by decide +kernel
theorem d4_4 : decode jdk_42_method_149_code 4 = .ok (.iload_n 3, 1) := by decide +kernel
theorem d4_5 : decode jdk_42_method_149_code 5 = .ok (.ifCond .ne 22, 3) := by decide +kernel
theorem d4_8 : decode jdk_42_method_149_code 8 = .ok (.aload_n 0, 1) := by decide +kernel
theorem d4_9 : decode jdk_42_method_149_code 9 = .ok (.ldc 7, 2) := by decide +kernel
theorem d4_11 : decode jdk_42_method_149_code 11 = .ok (.getfield 9, 3) := by decide +kernel
theorem d4_14 : decode jdk_42_method_149_code 14 = .ok (.putfield 9, 3) := by decide +kernel
theorem d4_17 : decode jdk_42_method_149_code 17 = .ok (.aload_n 0, 1) := by decide +kernel
theorem d4_18 : decode jdk_42_method_149_code 18 = .ok (.ldc 7, 2) := by decide +kernel
theorem d4_20 : decode jdk_42_method_149_code 20 = .ok (.getfield 15, 3) := by decide +kernel
theorem d4_23 : decode jdk_42_method_149_code 23 = .ok (.putfield 15, 3) := by decide +kernel
theorem d4_26 : decode jdk_42_method_149_code 26 = .ok (.return_, 1) := by decide +kernel
theorem pd118 : parseMethodDescriptor "()V" = some ⟨[], none⟩ := by decide +kernel
theorem ef4k0 (m : MethodId) (x0 : Addr) (x1 : Addr) (x2 : Int32) (x3 : Int32) : entryFrame m #[(.ref x0), (.ref x1), (.int x2), (.int x3), .null] 6 = mkF m 0 #[.val (.ref x0), .val (.ref x1), .val (.int x2), .val (.int x3), .val .null, .unset] [] := by first | (simp [entryFrame, mkF, argsToLocals, Value.category]; done) | rfl
def Q4k0 (Z : State) (a0 : Addr) (a1 : Addr) (ka : ClassId) (w1 w2 w3 : Addr) (G1 : Int32) (sf : Value) (h0 : Heap) (n0 : Nat) (v : Option Value) (h : Heap) (L : List Loc) : Prop := ∃ (b : Addr), ∃ (kb : ClassId), v = none ∧ Fr n0 L ∧ Keep h0 h [a0] ∧ Fld Z h a0 "java/lang/String" "value" "[B" (.ref b) ∧ Fld Z h a0 "java/lang/String" "coder" "B" (.int 0) ∧ Arv Z h b kb .byte (0 : Int32) [] (.int 0)
theorem rm4k0 (l : Launch) (Z : State) (a0' : Array Value) (hw : ∀ d ∈ tables_1, d.before a0' Z = true) (ws : List Jvm.Cond) (a0 : Addr) (a1 : Addr) (ka : ClassId) (w1 w2 w3 : Addr) (G1 : Int32) (sf : Value) (h0 : Heap) (n0 : Nat) (O : Old Z n0 h0) (W : Wd Z w1 w2 w3 G1 sf) (pf0 : Exa Z h0 a0 "java/lang/String") (pf1 : Fld Z h0 a0 "java/lang/String" "value" "[B" .null) (pf2 : Fld Z h0 a0 "java/lang/String" "coder" "B" (.int 0)) (gp_a0 : n0 ≤ a0) (pf4 : Arv Z h0 a1 ka .char (0 : Int32) [] (.int 0)) :
    MetFree l mq10 (head1 (Jvm.Cond.code mq10 jdk_42_method_149_code 6 none :: ws) ({ frames := 1, cells := 4, slots := 8, locals := 12 } : Room)) (fun a U => a = #[(.ref a0), (.ref a1), (.int 0), (.int 0), .null] ∧ Z.Warmed39 U.vm ∧ U.heap = h0 ∧ CHv Z EL0 U.vm h0 ∧ ∀ x ∈ ([a0] : List Addr), x < h0.size ∧ Safe Z EL0 U.vm h0 x) (fun _ _ _ _ _ => True) (fun _ U o U' => ∃ v L, o = .returned v ∧ Q4k0 Z a0 a1 ka w1 w2 w3 G1 sf h0 n0 v U'.heap L ∧ CHr Z EL0 U.vm U.heap U'.vm U'.heap ∧ ReturnedEndW U o U' L ({ frames := 1, cells := 4, slots := 8, locals := 12 } : Room).cells ({ frames := 1, cells := 4, slots := 8, locals := 12 } : Room).slots) := by
  refine MetFree.of_bodySF (plainFor_of_name pn1) hisR ?_
  intro p e s m args below meth c s₁ Bd hml0 hP hK
  obtain ⟨rfl, hZ, hh, hCH, hSf⟩ := hP
  have hx := Bd.exec
  have hby := Bd.bytes
  have hml : c.maxLocals = 6 := hml0
  have hown : s.vm.findClass "java/lang/String" = some m.cls := findClass_of_methodNamed Bd.named
  have hnm := (name_of_methodNamed Bd.named Bd.method).1
  have hk := Bd.notSynchronized
  have X0 : Stand p l e ({ frames := 1, cells := 4, slots := 8, locals := 12 } : Room) (s.setVm s.vm) m #[(.ref a0), (.ref a1), (.int 0), (.int 0), .null] below meth c s₁ [] 0 0 := Stand.of_body Bd
  have hS : s.Since s.vm h0.size := State.WarmedH.since (State.WarmedH.refl s) _
  have e0 : s₁.heap = h0 := by rw [← hh, Bd.state]; rfl
  have N0 := Fr.nil n0
  show Gl p e below (PosH Z EL0 4 8 (Q4k0 Z a0 a1 ka w1 w2 w3 G1 sf h0 n0) s) s₁ _
  refine Gl.cast (ef4k0 m a0 a1 (0 : Int32) (0 : Int32)) ?_
  refine gb (mkF m 1 #[vr a0, vr a1, vi 0, vi 0, .val .null, .unset] [(.ref a0)]) (fun _ k => XS.aloadN X0.here hx rfl (hb hby d4_0) rfl rfl k) ?_
  obtain ⟨T1, X1, e1, st1⟩ := initO X0 hx hZ hown (hW hw 20 rfl) (hW hw 21 rfl) (hW hw 22 rfl) e0 (g := (mkF m 1 #[vr a0, vr a1, vi 0, vi 0, .val .null, .unset] [(.ref a0)])) rfl (by rw [hml]; rfl) rfl (hb hby d4_1) (by decide) (W := 0) (Nat.le_of_eq rfl) (by decide)
  refine gb (mkF m 4 #[vr a0, vr a1, vi 0, vi 0, .val .null, .unset] []) st1 ?_
  refine gb (mkF m 5 #[vr a0, vr a1, vi 0, vi 0, .val .null, .unset] [(.int 0)]) (fun _ k => XS.iloadN X1.here hx rfl (hb hby d4_4) rfl k) ?_
  refine gb (mkF m 8 #[vr a0, vr a1, vi 0, vi 0, .val .null, .unset] []) (fun _ k => XS.ifNo X1.here hx rfl (hb hby d4_5) rfl ((if0 _ _).trans (teq (by decide : (0 : Int32) = (0 : Int32))).2) k) ?_
  refine gb (mkF m 9 #[vr a0, vr a1, vi 0, vi 0, .val .null, .unset] [(.ref a0)]) (fun _ k => XS.aloadN X1.here hx rfl (hb hby d4_8) rfl rfl k) ?_
  obtain ⟨c2, T2, h2, k2, bq2, kq2, X2, e2, E2, hS, hk2, hZ, hown, xE2, xC2, xV2, xA2, -, -, Sc2, -, nq2, st2⟩ := ldcCH X1 hx hZ hown (hW hw 23 rfl) (wS hw) e1 hS (Nat.le_refl h0.size) (hEL0 hw) (List.mem_of_getElem? (i := 0) rfl) (CHr.refl hCH).1 (vs := []) (z := (0 : Int32)) tx0 (by decide) (by decide) (g := (mkF m 9 #[vr a0, vr a1, vi 0, vi 0, .val .null, .unset] [(.ref a0)])) rfl (hb hby d4_9) (n := 0) (by decide) (by decide) (by decide) (by decide)
  refine gb (mkF m 11 #[vr a0, vr a1, vi 0, vi 0, .val .null, .unset] [(.ref c2), (.ref a0)]) st2 ?_
  have CH3 := CHr.trans (CHr.refl hCH) Sc2
  have Sf3_a0 := Sc2.safe (hSf a0 (List.mem_of_getElem? (i := 0) rfl)).1 (hSf a0 (List.mem_of_getElem? (i := 0) rfl)).2
  obtain ⟨T4, X4, e4, st4⟩ := getF X2 hx hZ hown (host := "") (Or.inl (hW hw 29 rfl)) Via.refl e2 xV2 (g := (mkF m 11 #[vr a0, vr a1, vi 0, vi 0, .val .null, .unset] [(.ref c2), (.ref a0)])) rfl rfl (hb hby d4_11)
  refine gb (mkF m 14 #[vr a0, vr a1, vi 0, vi 0, .val .null, .unset] [(.ref bq2), (.ref a0)]) st4 ?_
  have f5 := (Exa.ext E2 pf0)
  have f6 := (Fld.ext E2 pf1)
  obtain ⟨T7, h7, X7, e7, W7, st7⟩ := putF X4 hx hZ hown (host := "") (Or.inl (hW hw 29 rfl)) Via.refl e4 f6 f5 (Or.inr ⟨(hW hw 25 rfl), rfl, hnm⟩) (hW hw 11 rfl) (ty := (.array .byte)) (by decide) rfl rfl (g := (mkF m 14 #[vr a0, vr a1, vi 0, vi 0, .val .null, .unset] [(.ref bq2), (.ref a0)])) rfl rfl (hb hby d4_14)
  have N7 := Fr.snoc X7 N0 gp_a0
  have Fw7 := Fld.same W7 f6
  refine gb (mkF m 17 #[vr a0, vr a1, vi 0, vi 0, .val .null, .unset] []) st7 ?_
  have Sy8 := CHr.wr W7 Sf3_a0 CH3.1
  have CH8 := CHr.trans CH3 Sy8
  have Sf8_a0 := Sy8.safe (Nat.lt_of_lt_of_le (hSf a0 (List.mem_of_getElem? (i := 0) rfl)).1 Sc2.2.1) Sf3_a0
  refine gb (mkF m 18 #[vr a0, vr a1, vi 0, vi 0, .val .null, .unset] [(.ref a0)]) (fun _ k => XS.aloadN X7.here hx rfl (hb hby d4_17) rfl rfl k) ?_
  have sz10 := (Nat.le_trans hk2 (Nat.le_of_eq W7.size.symm))
  obtain ⟨c9, T9, h9, k9, bq9, kq9, X9, e9, E9, hS, hk9, hZ, hown, xE9, xC9, xV9, xA9, -, -, Sc9, -, nq9, st9⟩ := ldcCH X7 hx hZ hown (hW hw 23 rfl) (wS hw) e7 hS sz10 (hEL0 hw) (List.mem_of_getElem? (i := 0) rfl) CH8.1 (vs := []) (z := (0 : Int32)) tx0 (by decide) (by decide) (g := (mkF m 18 #[vr a0, vr a1, vi 0, vi 0, .val .null, .unset] [(.ref a0)])) rfl (hb hby d4_18) (n := 0) (by decide) (by decide) (by decide) (by decide)
  refine gb (mkF m 20 #[vr a0, vr a1, vi 0, vi 0, .val .null, .unset] [(.ref c9), (.ref a0)]) st9 ?_
  have CH11 := CHr.trans CH8 Sc9
  have Sf11_a0 := Sc9.safe (Nat.lt_of_lt_of_le (Nat.lt_of_lt_of_le (hSf a0 (List.mem_of_getElem? (i := 0) rfl)).1 Sc2.2.1) Sy8.2.1) Sf8_a0
  obtain ⟨T12, X12, e12, st12⟩ := getF X9 hx hZ hown (host := "") (Or.inl (hW hw 30 rfl)) Via.refl e9 xC9 (g := (mkF m 20 #[vr a0, vr a1, vi 0, vi 0, .val .null, .unset] [(.ref c9), (.ref a0)])) rfl rfl (hb hby d4_20)
  refine gb (mkF m 23 #[vr a0, vr a1, vi 0, vi 0, .val .null, .unset] [(.int 0), (.ref a0)]) st12 ?_
  have f13 := (Exa.ext E9 (Exa.wr W7 f5))
  have f14 := (Fld.ext E9 (Fld.other W7 (Fld.ext E2 pf2) (Or.inr (slot_ne (Or.inr (hW hw 26 rfl)) (Or.inr (hW hw 25 rfl)) (by decide) (t := .byte) (t' := (.array .byte)) (by decide) (by decide)))))
  obtain ⟨T15, h15, X15, e15, W15, st15⟩ := putFN X12 hx hZ hown (hW hw 30 rfl) Via.refl e12 f14 f13 (Or.inr ⟨(hW hw 26 rfl), rfl, hnm⟩) (hW hw 11 rfl) (ty := .byte) (v' := (.int ((0 : Int32).toInt8.toInt32))) (by decide) rfl (fits_nar_byte _) (g := (mkF m 23 #[vr a0, vr a1, vi 0, vi 0, .val .null, .unset] [(.int 0), (.ref a0)])) rfl rfl (hb hby d4_23)
  have N15 := Fr.snoc X15 N7 gp_a0
  have Fw15 := Fld.same W15 f14
  refine gb (mkF m 26 #[vr a0, vr a1, vi 0, vi 0, .val .null, .unset] []) st15 ?_
  have Sy16 := CHr.wr W15 Sf11_a0 CH11.1
  have CH16 := CHr.trans CH11 Sy16
  have Sf16_a0 := Sy16.safe (Nat.lt_of_lt_of_le (Nat.lt_of_lt_of_le (Nat.lt_of_lt_of_le (hSf a0 (List.mem_of_getElem? (i := 0) rfl)).1 Sc2.2.1) Sy8.2.1) Sc9.2.1) Sf11_a0
  have sz17 := (Nat.le_trans hk9 (Nat.le_of_eq W15.size.symm))
  have K18 := (((((Keep.refl h0 [a0]).ext E2).wr W7 (Or.inl (List.mem_of_getElem? (i := 0) rfl))).ext E9).wr W15 (Or.inl (List.mem_of_getElem? (i := 0) rfl)))
  have f19 := (Fld.other W15 (Fld.ext E9 Fw7) (Or.inr (slot_ne (Or.inr (hW hw 25 rfl)) (Or.inr (hW hw 26 rfl)) (by decide) (t := (.array .byte)) (t' := .byte) (by decide) (by decide))))
  have f20 := (Arv.other (Arv.ext (Arv.other xA2 W7 (Ne.symm (nq2 a0 Sf3_a0).2)) E9) W15 (Ne.symm (nq2 a0 Sf3_a0).2))
  have hC21 := CHr.trans CH16 (CHv.at X15 hZ (hEL0 hw) CH16.1)
  exact Gl.outVH X15 hS (by rw [e15]; exact sz17) hx hk Bd.returns (hb hby d4_26) (Eq.mpr (congrArg (fun hh => Q4k0 Z a0 a1 ka w1 w2 w3 G1 sf h0 n0 _ hh _) e15) (show Q4k0 Z a0 a1 ka w1 w2 w3 G1 sf h0 n0 _ h15 _ from ⟨bq2, kq2, rfl, N15, K18, f19, (castF (congrArg Value.int (by decide : ((0 : Int32).toInt8.toInt32) = (0 : Int32))) Fw15), f20⟩)) (by rw [hh, e15]; exact hC21) (by decide) (by decide)
theorem d3_0 : decode jdk_42_method_3_code 0 = .ok (.aload_n 0, 1) := by decide +kernel
theorem d3_1 : decode jdk_42_method_3_code 1 = .ok (.aload_n 1, 1) := by decide +kernel
theorem d3_2 : decode jdk_42_method_3_code 2 = .ok (.iconst 0, 1) := by decide +kernel
theorem d3_3 : decode jdk_42_method_3_code 3 = .ok (.aload_n 1, 1) := by decide +kernel
theorem d3_4 : decode jdk_42_method_3_code 4 = .ok (.arraylength, 1) := by decide +kernel
theorem d3_5 : decode jdk_42_method_3_code 5 = .ok (.aconst_null, 1) := by decide +kernel
theorem d3_6 : decode jdk_42_method_3_code 6 = .ok (.invokespecial 27, 3) := by decide +kernel
theorem d3_9 : decode jdk_42_method_3_code 9 = .ok (.return_, 1) := by decide +kernel
theorem pd127 : parseMethodDescriptor "([CIILjava/lang/Void;)V" = some ⟨[(.array .char), .int, .int, (.object "java/lang/Void")], none⟩ := by decide +kernel
theorem ef3k0 (m : MethodId) (x0 : Addr) (x1 : Addr) : entryFrame m #[(.ref x0), (.ref x1)] 2 = mkF m 0 #[.val (.ref x0), .val (.ref x1)] [] := by first | (simp [entryFrame, mkF, argsToLocals, Value.category]; done) | rfl
def Q3k0 (Z : State) (a0 : Addr) (a1 : Addr) (ka : ClassId) (w1 w2 w3 : Addr) (G1 : Int32) (sf : Value) (h0 : Heap) (n0 : Nat) (v : Option Value) (h : Heap) (L : List Loc) : Prop := ∃ (b : Addr), ∃ (kb : ClassId), v = none ∧ Fr n0 L ∧ Keep h0 h [a0] ∧ Fld Z h a0 "java/lang/String" "value" "[B" (.ref b) ∧ Fld Z h a0 "java/lang/String" "coder" "B" (.int 0) ∧ Arv Z h b kb .byte (0 : Int32) [] (.int 0)
theorem rm3k0 (l : Launch) (Z : State) (a0' : Array Value) (hw : ∀ d ∈ tables_1, d.before a0' Z = true) (ws : List Jvm.Cond) (a0 : Addr) (a1 : Addr) (ka : ClassId) (w1 w2 w3 : Addr) (G1 : Int32) (sf : Value) (h0 : Heap) (n0 : Nat) (O : Old Z n0 h0) (W : Wd Z w1 w2 w3 G1 sf) (pf0 : Exa Z h0 a0 "java/lang/String") (pf1 : Fld Z h0 a0 "java/lang/String" "value" "[B" .null) (pf2 : Fld Z h0 a0 "java/lang/String" "coder" "B" (.int 0)) (gp_a0 : n0 ≤ a0) (pf4 : Arv Z h0 a1 ka .char (0 : Int32) [] (.int 0)) :
    MetFree l mq11 (head1 (Jvm.Cond.code mq11 jdk_42_method_3_code 2 none :: ws) ({ frames := 2, cells := 4, slots := 8, locals := 29 } : Room)) (fun a U => a = #[(.ref a0), (.ref a1)] ∧ Z.Warmed39 U.vm ∧ U.heap = h0 ∧ CHv Z EL0 U.vm h0 ∧ ∀ x ∈ ([a0] : List Addr), x < h0.size ∧ Safe Z EL0 U.vm h0 x) (fun _ _ _ _ _ => True) (fun _ U o U' => ∃ v L, o = .returned v ∧ Q3k0 Z a0 a1 ka w1 w2 w3 G1 sf h0 n0 v U'.heap L ∧ CHr Z EL0 U.vm U.heap U'.vm U'.heap ∧ ReturnedEndW U o U' L ({ frames := 2, cells := 4, slots := 8, locals := 29 } : Room).cells ({ frames := 2, cells := 4, slots := 8, locals := 29 } : Room).slots) := by
  refine MetFree.of_bodySF (plainFor_of_name pn1) hisR ?_
  intro p e s m args below meth c s₁ Bd hml0 hP hK
  obtain ⟨rfl, hZ, hh, hCH, hSf⟩ := hP
  have hx := Bd.exec
  have hby := Bd.bytes
  have hml : c.maxLocals = 2 := hml0
  have hown : s.vm.findClass "java/lang/String" = some m.cls := findClass_of_methodNamed Bd.named
  have hnm := (name_of_methodNamed Bd.named Bd.method).1
  have hk := Bd.notSynchronized
  have X0 : Stand p l e ({ frames := 2, cells := 4, slots := 8, locals := 29 } : Room) (s.setVm s.vm) m #[(.ref a0), (.ref a1)] below meth c s₁ [] 0 0 := Stand.of_body Bd
  have hS : s.Since s.vm h0.size := State.WarmedH.since (State.WarmedH.refl s) _
  have e0 : s₁.heap = h0 := by rw [← hh, Bd.state]; rfl
  have N0 := Fr.nil n0
  show Gl p e below (PosH Z EL0 4 8 (Q3k0 Z a0 a1 ka w1 w2 w3 G1 sf h0 n0) s) s₁ _
  refine Gl.cast (ef3k0 m a0 a1) ?_
  refine gb (mkF m 1 #[vr a0, vr a1] [(.ref a0)]) (fun _ k => XS.aloadN X0.here hx rfl (hb hby d3_0) rfl rfl k) ?_
  refine gb (mkF m 2 #[vr a0, vr a1] [(.ref a1), (.ref a0)]) (fun _ k => XS.aloadN X0.here hx rfl (hb hby d3_1) rfl rfl k) ?_
  refine gb (mkF m 3 #[vr a0, vr a1] [(.int 0), (.ref a1), (.ref a0)]) (fun _ k => XS.iconst X0.here hx rfl (hb hby d3_2) k) ?_
  refine gb (mkF m 4 #[vr a0, vr a1] [(.ref a1), (.int 0), (.ref a1), (.ref a0)]) (fun _ k => XS.aloadN X0.here hx rfl (hb hby d3_3) rfl rfl k) ?_
  obtain ⟨cl1, Ar1, qa1, Sa1, Na1, Ha1, Ga1⟩ := id pf4
  refine gb (mkF m 5 #[vr a0, vr a1] [(.int 0), (.int 0), (.ref a1), (.ref a0)]) (fun t k => X0.arraylength hx (by rw [e0]; exact Ar1.1) (State.isArrayOf_alike hZ.alike Ar1.2.1) (g := (mkF m 4 #[vr a0, vr a1] [(.ref a1), (.int 0), (.ref a1), (.ref a0)])) rfl rfl (hb hby d3_4) t (by rw [len_of Sa1 Na1]; exact k)) ?_
  refine gb (mkF m 6 #[vr a0, vr a1] [.null, (.int 0), (.int 0), (.ref a1), (.ref a0)]) (fun _ k => XS.aconstNull X0.here hx rfl (hb hby d3_5) k) ?_
  obtain ⟨_, _, ⟨T2, L2, k2, n2⟩, -, X2, hS2, hg2, ⟨Lc2, hQ2, l2, y2, z2, Sc2⟩, st2⟩ := X0.specialBackS hx (y := mq10) rfl hown (mvT hZ (hW hw 16 rfl)) (mvT hZ (hW hw 17 rfl)) (mvT hZ (hW hw 19 rfl)) (by decide) (backOfSX (W := 0) (rm4k0 l Z a0' hw [] a0 a1 ka w1 w2 w3 G1 sf h0 n0 O W pf0 pf1 pf2 gp_a0 pf4) hZ (hW hw 19 rfl) (hW hw 12 rfl) (by decide) (by decide) (hEL0 hw) (CHr.refl hCH).1 (allS ⟨(hSf a0 (List.mem_of_getElem? (i := 0) rfl)).1, (hSf a0 (List.mem_of_getElem? (i := 0) rfl)).2⟩ all0)) (g := (mkF m 6 #[vr a0, vr a1] [.null, (.int 0), (.int 0), (.ref a1), (.ref a0)])) rfl (by rw [hml]; rfl) (Steps.refl _) (a := a0) (argsL := [(.ref a1), (.int 0), (.int 0), .null]) (rest := []) (lenOf pd127 rfl) rfl (Nat.le_of_eq rfl) (hb hby d3_6) (fun _ _ => ⟨rfl, e0, (by decide : 0 + 4 ≤ _), (by decide : 0 + 8 ≤ _)⟩)
  dsimp only [Pt.U, Pt.locs, Pt.cells, Pt.slots] at X2 l2 y2 z2 st2 hQ2 Sc2
  subst l2 y2 z2
  obtain ⟨X2, hS, hZ, hown⟩ := rebS hS (by rw [e0]; exact (Nat.le_refl h0.size)) X2 hS2 hg2 hZ hown
  obtain ⟨b_2, kb_2, rfl, N2q, Kc2, fc2_0, fc2_1, fc2_2⟩ := hQ2
  have N2 := Fr.app N0 N2q
  refine gb (mkF m 9 #[vr a0, vr a1] []) (fun _ k => st2.trans k) ?_
  have CH3 := CHr.trans (CHr.refl hCH) Sc2
  have Sf3_a0 := Sc2.safe (hSf a0 (List.mem_of_getElem? (i := 0) rfl)).1 (hSf a0 (List.mem_of_getElem? (i := 0) rfl)).2
  have K4 := ((Keep.refl h0 [a0]).trans Kc2 (allS (Or.inl (List.mem_of_getElem? (i := 0) rfl)) all0))
  have hC5 := CHr.trans CH3 (CHv.at X2 hZ (hEL0 hw) CH3.1)
  exact Gl.outVH X2 hS (Nat.le_refl _) hx hk Bd.returns (hb hby d3_9) ⟨b_2, kb_2, rfl, N2, K4, fc2_0, fc2_1, fc2_2⟩ (by rw [hh]; exact hC5) (by decide) (by decide)
theorem d4_27 : decode jdk_42_method_149_code 27 = .ok (.getstatic 38, 3) := by decide +kernel
theorem d4_30 : decode jdk_42_method_149_code 30 = .ok (.ifCond .eq 28, 3) := by decide +kernel
theorem d4_33 : decode jdk_42_method_149_code 33 = .ok (.aload_n 1, 1) := by decide +kernel
theorem d4_34 : decode jdk_42_method_149_code 34 = .ok (.iload_n 2, 1) := by decide +kernel
theorem d4_35 : decode jdk_42_method_149_code 35 = .ok (.iload_n 3, 1) := by decide +kernel
theorem d4_36 : decode jdk_42_method_149_code 36 = .ok (.invokestatic 177, 3) := by decide +kernel
theorem d4_39 : decode jdk_42_method_149_code 39 = .ok (.astore 5, 2) := by decide +kernel
theorem d4_41 : decode jdk_42_method_149_code 41 = .ok (.aload_n 0, 1) := by decide +kernel
theorem d4_42 : decode jdk_42_method_149_code 42 = .ok (.aload 5, 2) := by decide +kernel
theorem d4_44 : decode jdk_42_method_149_code 44 = .ok (.iload_n 3, 1) := by decide +kernel
theorem d4_45 : decode jdk_42_method_149_code 45 = .ok (.invokestatic 47, 3) := by decide +kernel
theorem d4_48 : decode jdk_42_method_149_code 48 = .ok (.putfield 15, 3) := by decide +kernel
theorem d4_51 : decode jdk_42_method_149_code 51 = .ok (.aload_n 0, 1) := by decide +kernel
theorem d4_52 : decode jdk_42_method_149_code 52 = .ok (.aload 5, 2) := by decide +kernel
theorem d4_54 : decode jdk_42_method_149_code 54 = .ok (.putfield 9, 3) := by decide +kernel
theorem d4_57 : decode jdk_42_method_149_code 57 = .ok (.return_, 1) := by decide +kernel
theorem pd144 : parseMethodDescriptor "([CII)[B" = some ⟨[(.array .char), .int, .int], some (.array .byte)⟩ := by decide +kernel
theorem pd145 : parseMethodDescriptor "([BI)B" = some ⟨[(.array .byte), .int], some .byte⟩ := by decide +kernel
theorem ef4k1 (m : MethodId) (x0 : Addr) (x1 : Addr) (x2 : Int32) (x3 : Int32) : entryFrame m #[(.ref x0), (.ref x1), (.int x2), (.int x3), .null] 6 = mkF m 0 #[.val (.ref x0), .val (.ref x1), .val (.int x2), .val (.int x3), .val .null, .unset] [] := by first | (simp [entryFrame, mkF, argsToLocals, Value.category]; done) | rfl
def Q4k1 (Z : State) (a0 : Addr) (a1 : Addr) (ka : ClassId) (x0 : Int32) (w1 w2 w3 : Addr) (G1 : Int32) (sf : Value) (h0 : Heap) (n0 : Nat) (v : Option Value) (h : Heap) (L : List Loc) : Prop := ∃ (b : Addr), ∃ (kb : ClassId), v = none ∧ Fr n0 L ∧ Keep h0 h [a0] ∧ Fld Z h a0 "java/lang/String" "value" "[B" (.ref b) ∧ Fld Z h a0 "java/lang/String" "coder" "B" (.int 0) ∧ Arv Z h b kb .byte (1 : Int32) [(.int (bL x0))] (.int 0)
theorem rm4k1 (l : Launch) (Z : State) (a0' : Array Value) (hw : ∀ d ∈ tables_1, d.before a0' Z = true) (ws : List Jvm.Cond) (a0 : Addr) (a1 : Addr) (ka : ClassId) (x0 : Int32) (w1 w2 w3 : Addr) (G1 : Int32) (sf : Value) (h0 : Heap) (n0 : Nat) (O : Old Z n0 h0) (W : Wd Z w1 w2 w3 G1 sf) (pf0 : Exa Z h0 a0 "java/lang/String") (pf1 : Fld Z h0 a0 "java/lang/String" "value" "[B" .null) (pf2 : Fld Z h0 a0 "java/lang/String" "coder" "B" (.int 0)) (gp_a0 : n0 ≤ a0) (pf4 : Arv Z h0 a1 ka .char (1 : Int32) [(.int x0)] (.int 0)) (hx0 : ¬ (255 : Int32) < x0) :
    MetFree l mq10 (head1 (Jvm.Cond.code mq10 jdk_42_method_149_code 6 none :: ws) ({ frames := 2, cells := 1, slots := 1, locals := 35 } : Room)) (fun a U => a = #[(.ref a0), (.ref a1), (.int 0), (.int 1), .null] ∧ Z.Warmed39 U.vm ∧ U.heap = h0) (fun _ _ _ _ _ => True) (fun _ U o U' => ∃ v L, o = .returned v ∧ Q4k1 Z a0 a1 ka x0 w1 w2 w3 G1 sf h0 n0 v U'.heap L ∧ FrameEnd U o U' L ({ frames := 2, cells := 1, slots := 1, locals := 35 } : Room).cells ({ frames := 2, cells := 1, slots := 1, locals := 35 } : Room).slots) := by
  refine MetFree.of_bodySF (plainFor_of_name pn1) hisR ?_
  intro p e s m args below meth c s₁ Bd hml0 hP hK
  obtain ⟨rfl, hZ, hh⟩ := hP
  have hx := Bd.exec
  have hby := Bd.bytes
  have hml : c.maxLocals = 6 := hml0
  have hown : s.vm.findClass "java/lang/String" = some m.cls := findClass_of_methodNamed Bd.named
  have hnm := (name_of_methodNamed Bd.named Bd.method).1
  have hk := Bd.notSynchronized
  have X0 : Stand p l e ({ frames := 2, cells := 1, slots := 1, locals := 35 } : Room) s m #[(.ref a0), (.ref a1), (.int 0), (.int 1), .null] below meth c s₁ [] 0 0 := Stand.of_body Bd
  have hh2 := hh
  have e0 : s₁.heap = h0 := by rw [← hh, Bd.state]; rfl
  have N0 := Fr.nil n0
  show Gl p e below (Pos 1 1 (Q4k1 Z a0 a1 ka x0 w1 w2 w3 G1 sf h0 n0) s) s₁ _
  refine Gl.cast (ef4k1 m a0 a1 (0 : Int32) (1 : Int32)) ?_
  refine gb (mkF m 1 #[vr a0, vr a1, vi 0, vi 1, .val .null, .unset] [(.ref a0)]) (fun _ k => XS.aloadN X0.here hx rfl (hb hby d4_0) rfl rfl k) ?_
  obtain ⟨T1, X1, e1, st1⟩ := initO X0 hx hZ hown (hW hw 20 rfl) (hW hw 21 rfl) (hW hw 22 rfl) e0 (g := (mkF m 1 #[vr a0, vr a1, vi 0, vi 1, .val .null, .unset] [(.ref a0)])) rfl (by rw [hml]; rfl) rfl (hb hby d4_1) (by decide) (W := 0) (Nat.le_of_eq rfl) (by decide)
  refine gb (mkF m 4 #[vr a0, vr a1, vi 0, vi 1, .val .null, .unset] []) st1 ?_
  refine gb (mkF m 5 #[vr a0, vr a1, vi 0, vi 1, .val .null, .unset] [(.int 1)]) (fun _ k => XS.iloadN X1.here hx rfl (hb hby d4_4) rfl k) ?_
  refine gb (mkF m 27 #[vr a0, vr a1, vi 0, vi 1, .val .null, .unset] []) (fun _ k => XS.ifYes X1.here hx rfl (pc0 := 5) (pc' := 27) rfl (hb hby d4_5) rfl ((if0 _ _).trans (feq (by decide : ¬ ((1 : Int32) = (0 : Int32)))).2) (by decide) (by decide) k) ?_
  obtain ⟨T2, X2, e2, st2⟩ := getS2 X1 hx hZ hown (host := "") (Or.inl (hW hw 57 rfl)) Via.refl e1 (Sta.ext O.2 W.2.2.2.2.2.2.2.2.2.1) (g := (mkF m 27 #[vr a0, vr a1, vi 0, vi 1, .val .null, .unset] [])) rfl (hb hby d4_27)
  refine gb (mkF m 30 #[vr a0, vr a1, vi 0, vi 1, .val .null, .unset] [(.int G1)]) st2 ?_
  refine gb (mkF m 33 #[vr a0, vr a1, vi 0, vi 1, .val .null, .unset] []) (fun _ k => XS.ifNo X2.here hx rfl (hb hby d4_30) rfl ((if0 _ _).trans (feq W.2.2.2.2.2.2.2.2.2.2.1).1) k) ?_
  refine gb (mkF m 34 #[vr a0, vr a1, vi 0, vi 1, .val .null, .unset] [(.ref a1)]) (fun _ k => XS.aloadN X2.here hx rfl (hb hby d4_33) rfl rfl k) ?_
  refine gb (mkF m 35 #[vr a0, vr a1, vi 0, vi 1, .val .null, .unset] [(.int 0), (.ref a1)]) (fun _ k => XS.iloadN X2.here hx rfl (hb hby d4_34) rfl k) ?_
  refine gb (mkF m 36 #[vr a0, vr a1, vi 0, vi 1, .val .null, .unset] [(.int 1), (.int 0), (.ref a1)]) (fun _ k => XS.iloadN X2.here hx rfl (hb hby d4_35) rfl k) ?_
  obtain ⟨_, _, ⟨T3, L3, k3, n3⟩, -, X3, ⟨Lc3, hQ3, l3, y3, z3⟩, st3⟩ := callS X2 hx (y := mq8) hown (mvT hZ (hW hw 97 rfl)) (mvT hZ (hW hw 98 rfl)) (mvT hZ (hW hw 99 rfl)) (mvT hZ (hW hw 100 rfl)) (by decide) (backOf (W := 0) (rm191 l Z a0' hw [] a1 ka x0 w1 w2 w3 G1 sf h0 n0 O W pf4 hx0) hZ (hW hw 100 rfl) (hW hw 99 rfl) (by decide) (by decide)) (g := (mkF m 36 #[vr a0, vr a1, vi 0, vi 1, .val .null, .unset] [(.int 1), (.int 0), (.ref a1)])) rfl (by rw [hml]; rfl) (argsL := [(.ref a1), (.int 0), (.int 1)]) (rest := []) (lenOf pd144 rfl) rfl (Nat.le_of_eq rfl) (hb hby d4_36) (fun _ _ => ⟨rfl, e2, (by decide : 0 + 1 ≤ _), (by decide : 0 + 1 ≤ _)⟩)
  dsimp only [Pt.U, Pt.locs, Pt.cells, Pt.slots] at X3 l3 y3 z3 st3 hQ3
  subst l3 y3 z3
  obtain ⟨b_3, kb_3, rfl, N3q, Kc3, fc3_0, fc3_1⟩ := hQ3
  have N3 := Fr.app N0 N3q
  have nb4 : a0 ≠ b_3 := Nat.ne_of_lt (Nat.lt_of_lt_of_le pf0.lt fc3_1)
  have nb5 : a1 ≠ b_3 := Nat.ne_of_lt (Nat.lt_of_lt_of_le pf4.lt fc3_1)
  refine gb (mkF m 39 #[vr a0, vr a1, vi 0, vi 1, .val .null, .unset] [(.ref b_3)]) st3 ?_
  refine gb (mkF m 41 #[vr a0, vr a1, vi 0, vi 1, .val .null, vr b_3] []) (fun _ k => XS.astore X3.here hx rfl (hb hby d4_39) rfl rfl (l' := #[vr a0, vr a1, vi 0, vi 1, .val .null, vr b_3]) rfl k) ?_
  refine gb (mkF m 42 #[vr a0, vr a1, vi 0, vi 1, .val .null, vr b_3] [(.ref a0)]) (fun _ k => XS.aloadN X3.here hx rfl (hb hby d4_41) rfl rfl k) ?_
  refine gb (mkF m 44 #[vr a0, vr a1, vi 0, vi 1, .val .null, vr b_3] [(.ref b_3), (.ref a0)]) (fun _ k => XS.aload X3.here hx rfl (hb hby d4_42) rfl rfl k) ?_
  refine gb (mkF m 45 #[vr a0, vr a1, vi 0, vi 1, .val .null, vr b_3] [(.int 1), (.ref b_3), (.ref a0)]) (fun _ k => XS.iloadN X3.here hx rfl (hb hby d4_44) rfl k) ?_
  have O7 := (O.keep Kc3 all0)
  obtain ⟨_, _, ⟨T6, L6, k6, n6⟩, -, X6, ⟨Lc6, hQ6, l6, y6, z6⟩, st6⟩ := callS X3 hx (y := mq9) hown (mvT hZ (hW hw 104 rfl)) (mvT hZ (hW hw 105 rfl)) (mvT hZ (hW hw 99 rfl)) (mvT hZ (hW hw 106 rfl)) (by decide) (backOf (W := 1) (rm211_1 l Z a0' hw [] b_3 kb_3 [(.int (bL x0))] w1 w2 w3 G1 sf T3.heap n0 O7 W fc3_0) hZ (hW hw 106 rfl) (hW hw 99 rfl) (by decide) (by decide)) (g := (mkF m 45 #[vr a0, vr a1, vi 0, vi 1, .val .null, vr b_3] [(.int 1), (.ref b_3), (.ref a0)])) rfl (by rw [hml]; rfl) (argsL := [(.ref b_3), (.int 1)]) (rest := [(.ref a0)]) (lenOf pd145 rfl) rfl (Nat.le_of_eq rfl) (hb hby d4_45) (fun _ _ => ⟨rfl, rfl, (by decide : 1 + 0 ≤ _), (by decide : 1 + 0 ≤ _)⟩)
  dsimp only [Pt.U, Pt.locs, Pt.cells, Pt.slots] at X6 l6 y6 z6 st6 hQ6
  subst l6 y6 z6
  obtain ⟨rfl, N6q, e6⟩ := hQ6
  have N6 := Fr.app N3 N6q
  refine gb (mkF m 48 #[vr a0, vr a1, vi 0, vi 1, .val .null, vr b_3] [(.int 0), (.ref a0)]) st6 ?_
  have f8 := (Exa.keep pf0 Kc3)
  have f9 := (Fld.keep pf2 Kc3 nin0)
  obtain ⟨T10, h10, X10, e10, W10, st10⟩ := putFN X6 hx hZ hown (hW hw 30 rfl) Via.refl e6 f9 f8 (Or.inr ⟨(hW hw 26 rfl), rfl, hnm⟩) (hW hw 11 rfl) (ty := .byte) (v' := (.int ((0 : Int32).toInt8.toInt32))) (by decide) rfl (fits_nar_byte _) (g := (mkF m 48 #[vr a0, vr a1, vi 0, vi 1, .val .null, vr b_3] [(.int 0), (.ref a0)])) rfl rfl (hb hby d4_48)
  have N10 := Fr.snoc X10 N6 gp_a0
  have Fw10 := Fld.same W10 f9
  refine gb (mkF m 51 #[vr a0, vr a1, vi 0, vi 1, .val .null, vr b_3] []) st10 ?_
  refine gb (mkF m 52 #[vr a0, vr a1, vi 0, vi 1, .val .null, vr b_3] [(.ref a0)]) (fun _ k => XS.aloadN X10.here hx rfl (hb hby d4_51) rfl rfl k) ?_
  refine gb (mkF m 54 #[vr a0, vr a1, vi 0, vi 1, .val .null, vr b_3] [(.ref b_3), (.ref a0)]) (fun _ k => XS.aload X10.here hx rfl (hb hby d4_52) rfl rfl k) ?_
  have f11 := (Exa.wr W10 f8)
  have f12 := (Fld.other W10 (Fld.keep pf1 Kc3 nin0) (Or.inr (slot_ne (Or.inr (hW hw 25 rfl)) (Or.inr (hW hw 26 rfl)) (by decide) (t := (.array .byte)) (t' := .byte) (by decide) (by decide))))
  obtain ⟨T13, h13, X13, e13, W13, st13⟩ := putF X10 hx hZ hown (host := "") (Or.inl (hW hw 29 rfl)) Via.refl e10 f12 f11 (Or.inr ⟨(hW hw 25 rfl), rfl, hnm⟩) (hW hw 11 rfl) (ty := (.array .byte)) (by decide) rfl rfl (g := (mkF m 54 #[vr a0, vr a1, vi 0, vi 1, .val .null, vr b_3] [(.ref b_3), (.ref a0)])) rfl rfl (hb hby d4_54)
  have N13 := Fr.snoc X13 N10 gp_a0
  have Fw13 := Fld.same W13 f12
  refine gb (mkF m 57 #[vr a0, vr a1, vi 0, vi 1, .val .null, vr b_3] []) st13 ?_
  have K14 := ((((Keep.refl h0 [a0]).trans Kc3 all0).wr W10 (Or.inl (List.mem_of_getElem? (i := 0) rfl))).wr W13 (Or.inl (List.mem_of_getElem? (i := 0) rfl)))
  have f15 := (Fld.other W13 Fw10 (Or.inr (slot_ne (Or.inr (hW hw 26 rfl)) (Or.inr (hW hw 25 rfl)) (by decide) (t := .byte) (t' := (.array .byte)) (by decide) (by decide))))
  have f16 := (Arv.other (Arv.other fc3_0 W10 (Ne.symm nb4)) W13 (Ne.symm nb4))
  exact Gl.outV X13 hx hk Bd.returns (hb hby d4_57) (Eq.mpr (congrArg (fun hh => Q4k1 Z a0 a1 ka x0 w1 w2 w3 G1 sf h0 n0 _ hh _) e13) (show Q4k1 Z a0 a1 ka x0 w1 w2 w3 G1 sf h0 n0 _ h13 _ from ⟨b_3, kb_3, rfl, N13, K14, Fw13, (castF (congrArg Value.int (by decide : ((0 : Int32).toInt8.toInt32) = (0 : Int32))) f15), f16⟩)) (by decide) (by decide)
theorem ef3k1 (m : MethodId) (x0 : Addr) (x1 : Addr) : entryFrame m #[(.ref x0), (.ref x1)] 2 = mkF m 0 #[.val (.ref x0), .val (.ref x1)] [] := by first | (simp [entryFrame, mkF, argsToLocals, Value.category]; done) | rfl
def Q3k1 (Z : State) (a0 : Addr) (a1 : Addr) (ka : ClassId) (x0 : Int32) (w1 w2 w3 : Addr) (G1 : Int32) (sf : Value) (h0 : Heap) (n0 : Nat) (v : Option Value) (h : Heap) (L : List Loc) : Prop := ∃ (b : Addr), ∃ (kb : ClassId), v = none ∧ Fr n0 L ∧ Keep h0 h [a0] ∧ Fld Z h a0 "java/lang/String" "value" "[B" (.ref b) ∧ Fld Z h a0 "java/lang/String" "coder" "B" (.int 0) ∧ Arv Z h b kb .byte (1 : Int32) [(.int (bL x0))] (.int 0)
theorem rm3k1 (l : Launch) (Z : State) (a0' : Array Value) (hw : ∀ d ∈ tables_1, d.before a0' Z = true) (ws : List Jvm.Cond) (a0 : Addr) (a1 : Addr) (ka : ClassId) (x0 : Int32) (w1 w2 w3 : Addr) (G1 : Int32) (sf : Value) (h0 : Heap) (n0 : Nat) (O : Old Z n0 h0) (W : Wd Z w1 w2 w3 G1 sf) (pf0 : Exa Z h0 a0 "java/lang/String") (pf1 : Fld Z h0 a0 "java/lang/String" "value" "[B" .null) (pf2 : Fld Z h0 a0 "java/lang/String" "coder" "B" (.int 0)) (gp_a0 : n0 ≤ a0) (pf4 : Arv Z h0 a1 ka .char (1 : Int32) [(.int x0)] (.int 0)) (hx0 : ¬ (255 : Int32) < x0) :
    MetFree l mq11 (head1 (Jvm.Cond.code mq11 jdk_42_method_3_code 2 none :: ws) ({ frames := 3, cells := 1, slots := 1, locals := 52 } : Room)) (fun a U => a = #[(.ref a0), (.ref a1)] ∧ Z.Warmed39 U.vm ∧ U.heap = h0) (fun _ _ _ _ _ => True) (fun _ U o U' => ∃ v L, o = .returned v ∧ Q3k1 Z a0 a1 ka x0 w1 w2 w3 G1 sf h0 n0 v U'.heap L ∧ FrameEnd U o U' L ({ frames := 3, cells := 1, slots := 1, locals := 52 } : Room).cells ({ frames := 3, cells := 1, slots := 1, locals := 52 } : Room).slots) := by
  refine MetFree.of_bodySF (plainFor_of_name pn1) hisR ?_
  intro p e s m args below meth c s₁ Bd hml0 hP hK
  obtain ⟨rfl, hZ, hh⟩ := hP
  have hx := Bd.exec
  have hby := Bd.bytes
  have hml : c.maxLocals = 2 := hml0
  have hown : s.vm.findClass "java/lang/String" = some m.cls := findClass_of_methodNamed Bd.named
  have hnm := (name_of_methodNamed Bd.named Bd.method).1
  have hk := Bd.notSynchronized
  have X0 : Stand p l e ({ frames := 3, cells := 1, slots := 1, locals := 52 } : Room) s m #[(.ref a0), (.ref a1)] below meth c s₁ [] 0 0 := Stand.of_body Bd
  have hh2 := hh
  have e0 : s₁.heap = h0 := by rw [← hh, Bd.state]; rfl
  have N0 := Fr.nil n0
  show Gl p e below (Pos 1 1 (Q3k1 Z a0 a1 ka x0 w1 w2 w3 G1 sf h0 n0) s) s₁ _
  refine Gl.cast (ef3k1 m a0 a1) ?_
  refine gb (mkF m 1 #[vr a0, vr a1] [(.ref a0)]) (fun _ k => XS.aloadN X0.here hx rfl (hb hby d3_0) rfl rfl k) ?_
  refine gb (mkF m 2 #[vr a0, vr a1] [(.ref a1), (.ref a0)]) (fun _ k => XS.aloadN X0.here hx rfl (hb hby d3_1) rfl rfl k) ?_
  refine gb (mkF m 3 #[vr a0, vr a1] [(.int 0), (.ref a1), (.ref a0)]) (fun _ k => XS.iconst X0.here hx rfl (hb hby d3_2) k) ?_
  refine gb (mkF m 4 #[vr a0, vr a1] [(.ref a1), (.int 0), (.ref a1), (.ref a0)]) (fun _ k => XS.aloadN X0.here hx rfl (hb hby d3_3) rfl rfl k) ?_
  obtain ⟨cl1, Ar1, qa1, Sa1, Na1, Ha1, Ga1⟩ := id pf4
  refine gb (mkF m 5 #[vr a0, vr a1] [(.int 1), (.int 0), (.ref a1), (.ref a0)]) (fun t k => X0.arraylength hx (by rw [e0]; exact Ar1.1) (State.isArrayOf_alike hZ.alike Ar1.2.1) (g := (mkF m 4 #[vr a0, vr a1] [(.ref a1), (.int 0), (.ref a1), (.ref a0)])) rfl rfl (hb hby d3_4) t (by rw [len_of Sa1 Na1]; exact k)) ?_
  refine gb (mkF m 6 #[vr a0, vr a1] [.null, (.int 1), (.int 0), (.ref a1), (.ref a0)]) (fun _ k => XS.aconstNull X0.here hx rfl (hb hby d3_5) k) ?_
  obtain ⟨_, _, ⟨T2, L2, k2, n2⟩, -, X2, ⟨Lc2, hQ2, l2, y2, z2⟩, st2⟩ := X0.specialBack hx (y := mq10) rfl hown (mvT hZ (hW hw 16 rfl)) (mvT hZ (hW hw 17 rfl)) (mvT hZ (hW hw 19 rfl)) (by decide) (backOf (W := 0) (rm4k1 l Z a0' hw [] a0 a1 ka x0 w1 w2 w3 G1 sf h0 n0 O W pf0 pf1 pf2 gp_a0 pf4 hx0) hZ (hW hw 19 rfl) (hW hw 12 rfl) (by decide) (by decide)) (g := (mkF m 6 #[vr a0, vr a1] [.null, (.int 1), (.int 0), (.ref a1), (.ref a0)])) rfl (by rw [hml]; rfl) (Steps.refl _) (a := a0) (argsL := [(.ref a1), (.int 0), (.int 1), .null]) (rest := []) (lenOf pd127 rfl) rfl (Nat.le_of_eq rfl) (hb hby d3_6) (fun _ _ => ⟨rfl, e0, (by decide : 0 + 1 ≤ _), (by decide : 0 + 1 ≤ _)⟩)
  dsimp only [Pt.U, Pt.locs, Pt.cells, Pt.slots] at X2 l2 y2 z2 st2 hQ2
  subst l2 y2 z2
  obtain ⟨b_2, kb_2, rfl, N2q, Kc2, fc2_0, fc2_1, fc2_2⟩ := hQ2
  have N2 := Fr.app N0 N2q
  refine gb (mkF m 9 #[vr a0, vr a1] []) (fun _ k => st2.trans k) ?_
  have K3 := ((Keep.refl h0 [a0]).trans Kc2 (allS (Or.inl (List.mem_of_getElem? (i := 0) rfl)) all0))
  exact Gl.outV X2 hx hk Bd.returns (hb hby d3_9) ⟨b_2, kb_2, rfl, N2, K3, fc2_0, fc2_1, fc2_2⟩ (by decide) (by decide)
theorem ef4k2 (m : MethodId) (x0 : Addr) (x1 : Addr) (x2 : Int32) (x3 : Int32) : entryFrame m #[(.ref x0), (.ref x1), (.int x2), (.int x3), .null] 6 = mkF m 0 #[.val (.ref x0), .val (.ref x1), .val (.int x2), .val (.int x3), .val .null, .unset] [] := by first | (simp [entryFrame, mkF, argsToLocals, Value.category]; done) | rfl
def Q4k2 (Z : State) (a0 : Addr) (a1 : Addr) (ka : ClassId) (x0 : Int32) (x1 : Int32) (w1 w2 w3 : Addr) (G1 : Int32) (sf : Value) (h0 : Heap) (n0 : Nat) (v : Option Value) (h : Heap) (L : List Loc) : Prop := ∃ (b : Addr), ∃ (kb : ClassId), v = none ∧ Fr n0 L ∧ Keep h0 h [a0] ∧ Fld Z h a0 "java/lang/String" "value" "[B" (.ref b) ∧ Fld Z h a0 "java/lang/String" "coder" "B" (.int 0) ∧ Arv Z h b kb .byte (2 : Int32) [(.int (bL x0)), (.int (bL x1))] (.int 0)
theorem rm4k2 (l : Launch) (Z : State) (a0' : Array Value) (hw : ∀ d ∈ tables_1, d.before a0' Z = true) (ws : List Jvm.Cond) (a0 : Addr) (a1 : Addr) (ka : ClassId) (x0 : Int32) (x1 : Int32) (w1 w2 w3 : Addr) (G1 : Int32) (sf : Value) (h0 : Heap) (n0 : Nat) (O : Old Z n0 h0) (W : Wd Z w1 w2 w3 G1 sf) (pf0 : Exa Z h0 a0 "java/lang/String") (pf1 : Fld Z h0 a0 "java/lang/String" "value" "[B" .null) (pf2 : Fld Z h0 a0 "java/lang/String" "coder" "B" (.int 0)) (gp_a0 : n0 ≤ a0) (pf4 : Arv Z h0 a1 ka .char (2 : Int32) [(.int x0), (.int x1)] (.int 0)) (hx0 : ¬ (255 : Int32) < x0) (hx1 : ¬ (255 : Int32) < x1) :
    MetFree l mq10 (head1 (Jvm.Cond.code mq10 jdk_42_method_149_code 6 none :: ws) ({ frames := 2, cells := 1, slots := 2, locals := 35 } : Room)) (fun a U => a = #[(.ref a0), (.ref a1), (.int 0), (.int 2), .null] ∧ Z.Warmed39 U.vm ∧ U.heap = h0) (fun _ _ _ _ _ => True) (fun _ U o U' => ∃ v L, o = .returned v ∧ Q4k2 Z a0 a1 ka x0 x1 w1 w2 w3 G1 sf h0 n0 v U'.heap L ∧ FrameEnd U o U' L ({ frames := 2, cells := 1, slots := 2, locals := 35 } : Room).cells ({ frames := 2, cells := 1, slots := 2, locals := 35 } : Room).slots) := by
  refine MetFree.of_bodySF (plainFor_of_name pn1) hisR ?_
  intro p e s m args below meth c s₁ Bd hml0 hP hK
  obtain ⟨rfl, hZ, hh⟩ := hP
  have hx := Bd.exec
  have hby := Bd.bytes
  have hml : c.maxLocals = 6 := hml0
  have hown : s.vm.findClass "java/lang/String" = some m.cls := findClass_of_methodNamed Bd.named
  have hnm := (name_of_methodNamed Bd.named Bd.method).1
  have hk := Bd.notSynchronized
  have X0 : Stand p l e ({ frames := 2, cells := 1, slots := 2, locals := 35 } : Room) s m #[(.ref a0), (.ref a1), (.int 0), (.int 2), .null] below meth c s₁ [] 0 0 := Stand.of_body Bd
  have hh2 := hh
  have e0 : s₁.heap = h0 := by rw [← hh, Bd.state]; rfl
  have N0 := Fr.nil n0
  show Gl p e below (Pos 1 2 (Q4k2 Z a0 a1 ka x0 x1 w1 w2 w3 G1 sf h0 n0) s) s₁ _
  refine Gl.cast (ef4k2 m a0 a1 (0 : Int32) (2 : Int32)) ?_
  refine gb (mkF m 1 #[vr a0, vr a1, vi 0, vi 2, .val .null, .unset] [(.ref a0)]) (fun _ k => XS.aloadN X0.here hx rfl (hb hby d4_0) rfl rfl k) ?_
  obtain ⟨T1, X1, e1, st1⟩ := initO X0 hx hZ hown (hW hw 20 rfl) (hW hw 21 rfl) (hW hw 22 rfl) e0 (g := (mkF m 1 #[vr a0, vr a1, vi 0, vi 2, .val .null, .unset] [(.ref a0)])) rfl (by rw [hml]; rfl) rfl (hb hby d4_1) (by decide) (W := 0) (Nat.le_of_eq rfl) (by decide)
  refine gb (mkF m 4 #[vr a0, vr a1, vi 0, vi 2, .val .null, .unset] []) st1 ?_
  refine gb (mkF m 5 #[vr a0, vr a1, vi 0, vi 2, .val .null, .unset] [(.int 2)]) (fun _ k => XS.iloadN X1.here hx rfl (hb hby d4_4) rfl k) ?_
  refine gb (mkF m 27 #[vr a0, vr a1, vi 0, vi 2, .val .null, .unset] []) (fun _ k => XS.ifYes X1.here hx rfl (pc0 := 5) (pc' := 27) rfl (hb hby d4_5) rfl ((if0 _ _).trans (feq (by decide : ¬ ((2 : Int32) = (0 : Int32)))).2) (by decide) (by decide) k) ?_
  obtain ⟨T2, X2, e2, st2⟩ := getS2 X1 hx hZ hown (host := "") (Or.inl (hW hw 57 rfl)) Via.refl e1 (Sta.ext O.2 W.2.2.2.2.2.2.2.2.2.1) (g := (mkF m 27 #[vr a0, vr a1, vi 0, vi 2, .val .null, .unset] [])) rfl (hb hby d4_27)
  refine gb (mkF m 30 #[vr a0, vr a1, vi 0, vi 2, .val .null, .unset] [(.int G1)]) st2 ?_
  refine gb (mkF m 33 #[vr a0, vr a1, vi 0, vi 2, .val .null, .unset] []) (fun _ k => XS.ifNo X2.here hx rfl (hb hby d4_30) rfl ((if0 _ _).trans (feq W.2.2.2.2.2.2.2.2.2.2.1).1) k) ?_
  refine gb (mkF m 34 #[vr a0, vr a1, vi 0, vi 2, .val .null, .unset] [(.ref a1)]) (fun _ k => XS.aloadN X2.here hx rfl (hb hby d4_33) rfl rfl k) ?_
  refine gb (mkF m 35 #[vr a0, vr a1, vi 0, vi 2, .val .null, .unset] [(.int 0), (.ref a1)]) (fun _ k => XS.iloadN X2.here hx rfl (hb hby d4_34) rfl k) ?_
  refine gb (mkF m 36 #[vr a0, vr a1, vi 0, vi 2, .val .null, .unset] [(.int 2), (.int 0), (.ref a1)]) (fun _ k => XS.iloadN X2.here hx rfl (hb hby d4_35) rfl k) ?_
  obtain ⟨_, _, ⟨T3, L3, k3, n3⟩, -, X3, ⟨Lc3, hQ3, l3, y3, z3⟩, st3⟩ := callS X2 hx (y := mq8) hown (mvT hZ (hW hw 97 rfl)) (mvT hZ (hW hw 98 rfl)) (mvT hZ (hW hw 99 rfl)) (mvT hZ (hW hw 100 rfl)) (by decide) (backOf (W := 0) (rm192 l Z a0' hw [] a1 ka x0 x1 w1 w2 w3 G1 sf h0 n0 O W pf4 hx0 hx1) hZ (hW hw 100 rfl) (hW hw 99 rfl) (by decide) (by decide)) (g := (mkF m 36 #[vr a0, vr a1, vi 0, vi 2, .val .null, .unset] [(.int 2), (.int 0), (.ref a1)])) rfl (by rw [hml]; rfl) (argsL := [(.ref a1), (.int 0), (.int 2)]) (rest := []) (lenOf pd144 rfl) rfl (Nat.le_of_eq rfl) (hb hby d4_36) (fun _ _ => ⟨rfl, e2, (by decide : 0 + 1 ≤ _), (by decide : 0 + 2 ≤ _)⟩)
  dsimp only [Pt.U, Pt.locs, Pt.cells, Pt.slots] at X3 l3 y3 z3 st3 hQ3
  subst l3 y3 z3
  obtain ⟨b_3, kb_3, rfl, N3q, Kc3, fc3_0, fc3_1⟩ := hQ3
  have N3 := Fr.app N0 N3q
  have nb4 : a0 ≠ b_3 := Nat.ne_of_lt (Nat.lt_of_lt_of_le pf0.lt fc3_1)
  have nb5 : a1 ≠ b_3 := Nat.ne_of_lt (Nat.lt_of_lt_of_le pf4.lt fc3_1)
  refine gb (mkF m 39 #[vr a0, vr a1, vi 0, vi 2, .val .null, .unset] [(.ref b_3)]) st3 ?_
  refine gb (mkF m 41 #[vr a0, vr a1, vi 0, vi 2, .val .null, vr b_3] []) (fun _ k => XS.astore X3.here hx rfl (hb hby d4_39) rfl rfl (l' := #[vr a0, vr a1, vi 0, vi 2, .val .null, vr b_3]) rfl k) ?_
  refine gb (mkF m 42 #[vr a0, vr a1, vi 0, vi 2, .val .null, vr b_3] [(.ref a0)]) (fun _ k => XS.aloadN X3.here hx rfl (hb hby d4_41) rfl rfl k) ?_
  refine gb (mkF m 44 #[vr a0, vr a1, vi 0, vi 2, .val .null, vr b_3] [(.ref b_3), (.ref a0)]) (fun _ k => XS.aload X3.here hx rfl (hb hby d4_42) rfl rfl k) ?_
  refine gb (mkF m 45 #[vr a0, vr a1, vi 0, vi 2, .val .null, vr b_3] [(.int 2), (.ref b_3), (.ref a0)]) (fun _ k => XS.iloadN X3.here hx rfl (hb hby d4_44) rfl k) ?_
  have O7 := (O.keep Kc3 all0)
  obtain ⟨_, _, ⟨T6, L6, k6, n6⟩, -, X6, ⟨Lc6, hQ6, l6, y6, z6⟩, st6⟩ := callS X3 hx (y := mq9) hown (mvT hZ (hW hw 104 rfl)) (mvT hZ (hW hw 105 rfl)) (mvT hZ (hW hw 99 rfl)) (mvT hZ (hW hw 106 rfl)) (by decide) (backOf (W := 1) (rm212_2 l Z a0' hw [] b_3 kb_3 [(.int (bL x0)), (.int (bL x1))] w1 w2 w3 G1 sf T3.heap n0 O7 W fc3_0) hZ (hW hw 106 rfl) (hW hw 99 rfl) (by decide) (by decide)) (g := (mkF m 45 #[vr a0, vr a1, vi 0, vi 2, .val .null, vr b_3] [(.int 2), (.ref b_3), (.ref a0)])) rfl (by rw [hml]; rfl) (argsL := [(.ref b_3), (.int 2)]) (rest := [(.ref a0)]) (lenOf pd145 rfl) rfl (Nat.le_of_eq rfl) (hb hby d4_45) (fun _ _ => ⟨rfl, rfl, (by decide : 1 + 0 ≤ _), (by decide : 2 + 0 ≤ _)⟩)
  dsimp only [Pt.U, Pt.locs, Pt.cells, Pt.slots] at X6 l6 y6 z6 st6 hQ6
  subst l6 y6 z6
  obtain ⟨rfl, N6q, e6⟩ := hQ6
  have N6 := Fr.app N3 N6q
  refine gb (mkF m 48 #[vr a0, vr a1, vi 0, vi 2, .val .null, vr b_3] [(.int 0), (.ref a0)]) st6 ?_
  have f8 := (Exa.keep pf0 Kc3)
  have f9 := (Fld.keep pf2 Kc3 nin0)
  obtain ⟨T10, h10, X10, e10, W10, st10⟩ := putFN X6 hx hZ hown (hW hw 30 rfl) Via.refl e6 f9 f8 (Or.inr ⟨(hW hw 26 rfl), rfl, hnm⟩) (hW hw 11 rfl) (ty := .byte) (v' := (.int ((0 : Int32).toInt8.toInt32))) (by decide) rfl (fits_nar_byte _) (g := (mkF m 48 #[vr a0, vr a1, vi 0, vi 2, .val .null, vr b_3] [(.int 0), (.ref a0)])) rfl rfl (hb hby d4_48)
  have N10 := Fr.snoc X10 N6 gp_a0
  have Fw10 := Fld.same W10 f9
  refine gb (mkF m 51 #[vr a0, vr a1, vi 0, vi 2, .val .null, vr b_3] []) st10 ?_
  refine gb (mkF m 52 #[vr a0, vr a1, vi 0, vi 2, .val .null, vr b_3] [(.ref a0)]) (fun _ k => XS.aloadN X10.here hx rfl (hb hby d4_51) rfl rfl k) ?_
  refine gb (mkF m 54 #[vr a0, vr a1, vi 0, vi 2, .val .null, vr b_3] [(.ref b_3), (.ref a0)]) (fun _ k => XS.aload X10.here hx rfl (hb hby d4_52) rfl rfl k) ?_
  have f11 := (Exa.wr W10 f8)
  have f12 := (Fld.other W10 (Fld.keep pf1 Kc3 nin0) (Or.inr (slot_ne (Or.inr (hW hw 25 rfl)) (Or.inr (hW hw 26 rfl)) (by decide) (t := (.array .byte)) (t' := .byte) (by decide) (by decide))))
  obtain ⟨T13, h13, X13, e13, W13, st13⟩ := putF X10 hx hZ hown (host := "") (Or.inl (hW hw 29 rfl)) Via.refl e10 f12 f11 (Or.inr ⟨(hW hw 25 rfl), rfl, hnm⟩) (hW hw 11 rfl) (ty := (.array .byte)) (by decide) rfl rfl (g := (mkF m 54 #[vr a0, vr a1, vi 0, vi 2, .val .null, vr b_3] [(.ref b_3), (.ref a0)])) rfl rfl (hb hby d4_54)
  have N13 := Fr.snoc X13 N10 gp_a0
  have Fw13 := Fld.same W13 f12
  refine gb (mkF m 57 #[vr a0, vr a1, vi 0, vi 2, .val .null, vr b_3] []) st13 ?_
  have K14 := ((((Keep.refl h0 [a0]).trans Kc3 all0).wr W10 (Or.inl (List.mem_of_getElem? (i := 0) rfl))).wr W13 (Or.inl (List.mem_of_getElem? (i := 0) rfl)))
  have f15 := (Fld.other W13 Fw10 (Or.inr (slot_ne (Or.inr (hW hw 26 rfl)) (Or.inr (hW hw 25 rfl)) (by decide) (t := .byte) (t' := (.array .byte)) (by decide) (by decide))))
  have f16 := (Arv.other (Arv.other fc3_0 W10 (Ne.symm nb4)) W13 (Ne.symm nb4))
  exact Gl.outV X13 hx hk Bd.returns (hb hby d4_57) (Eq.mpr (congrArg (fun hh => Q4k2 Z a0 a1 ka x0 x1 w1 w2 w3 G1 sf h0 n0 _ hh _) e13) (show Q4k2 Z a0 a1 ka x0 x1 w1 w2 w3 G1 sf h0 n0 _ h13 _ from ⟨b_3, kb_3, rfl, N13, K14, Fw13, (castF (congrArg Value.int (by decide : ((0 : Int32).toInt8.toInt32) = (0 : Int32))) f15), f16⟩)) (by decide) (by decide)
theorem ef3k2 (m : MethodId) (x0 : Addr) (x1 : Addr) : entryFrame m #[(.ref x0), (.ref x1)] 2 = mkF m 0 #[.val (.ref x0), .val (.ref x1)] [] := by first | (simp [entryFrame, mkF, argsToLocals, Value.category]; done) | rfl
def Q3k2 (Z : State) (a0 : Addr) (a1 : Addr) (ka : ClassId) (x0 : Int32) (x1 : Int32) (w1 w2 w3 : Addr) (G1 : Int32) (sf : Value) (h0 : Heap) (n0 : Nat) (v : Option Value) (h : Heap) (L : List Loc) : Prop := ∃ (b : Addr), ∃ (kb : ClassId), v = none ∧ Fr n0 L ∧ Keep h0 h [a0] ∧ Fld Z h a0 "java/lang/String" "value" "[B" (.ref b) ∧ Fld Z h a0 "java/lang/String" "coder" "B" (.int 0) ∧ Arv Z h b kb .byte (2 : Int32) [(.int (bL x0)), (.int (bL x1))] (.int 0)
theorem rm3k2 (l : Launch) (Z : State) (a0' : Array Value) (hw : ∀ d ∈ tables_1, d.before a0' Z = true) (ws : List Jvm.Cond) (a0 : Addr) (a1 : Addr) (ka : ClassId) (x0 : Int32) (x1 : Int32) (w1 w2 w3 : Addr) (G1 : Int32) (sf : Value) (h0 : Heap) (n0 : Nat) (O : Old Z n0 h0) (W : Wd Z w1 w2 w3 G1 sf) (pf0 : Exa Z h0 a0 "java/lang/String") (pf1 : Fld Z h0 a0 "java/lang/String" "value" "[B" .null) (pf2 : Fld Z h0 a0 "java/lang/String" "coder" "B" (.int 0)) (gp_a0 : n0 ≤ a0) (pf4 : Arv Z h0 a1 ka .char (2 : Int32) [(.int x0), (.int x1)] (.int 0)) (hx0 : ¬ (255 : Int32) < x0) (hx1 : ¬ (255 : Int32) < x1) :
    MetFree l mq11 (head1 (Jvm.Cond.code mq11 jdk_42_method_3_code 2 none :: ws) ({ frames := 3, cells := 1, slots := 2, locals := 52 } : Room)) (fun a U => a = #[(.ref a0), (.ref a1)] ∧ Z.Warmed39 U.vm ∧ U.heap = h0) (fun _ _ _ _ _ => True) (fun _ U o U' => ∃ v L, o = .returned v ∧ Q3k2 Z a0 a1 ka x0 x1 w1 w2 w3 G1 sf h0 n0 v U'.heap L ∧ FrameEnd U o U' L ({ frames := 3, cells := 1, slots := 2, locals := 52 } : Room).cells ({ frames := 3, cells := 1, slots := 2, locals := 52 } : Room).slots) := by
  refine MetFree.of_bodySF (plainFor_of_name pn1) hisR ?_
  intro p e s m args below meth c s₁ Bd hml0 hP hK
  obtain ⟨rfl, hZ, hh⟩ := hP
  have hx := Bd.exec
  have hby := Bd.bytes
  have hml : c.maxLocals = 2 := hml0
  have hown : s.vm.findClass "java/lang/String" = some m.cls := findClass_of_methodNamed Bd.named
  have hnm := (name_of_methodNamed Bd.named Bd.method).1
  have hk := Bd.notSynchronized
  have X0 : Stand p l e ({ frames := 3, cells := 1, slots := 2, locals := 52 } : Room) s m #[(.ref a0), (.ref a1)] below meth c s₁ [] 0 0 := Stand.of_body Bd
  have hh2 := hh
  have e0 : s₁.heap = h0 := by rw [← hh, Bd.state]; rfl
  have N0 := Fr.nil n0
  show Gl p e below (Pos 1 2 (Q3k2 Z a0 a1 ka x0 x1 w1 w2 w3 G1 sf h0 n0) s) s₁ _
  refine Gl.cast (ef3k2 m a0 a1) ?_
  refine gb (mkF m 1 #[vr a0, vr a1] [(.ref a0)]) (fun _ k => XS.aloadN X0.here hx rfl (hb hby d3_0) rfl rfl k) ?_
  refine gb (mkF m 2 #[vr a0, vr a1] [(.ref a1), (.ref a0)]) (fun _ k => XS.aloadN X0.here hx rfl (hb hby d3_1) rfl rfl k) ?_
  refine gb (mkF m 3 #[vr a0, vr a1] [(.int 0), (.ref a1), (.ref a0)]) (fun _ k => XS.iconst X0.here hx rfl (hb hby d3_2) k) ?_
  refine gb (mkF m 4 #[vr a0, vr a1] [(.ref a1), (.int 0), (.ref a1), (.ref a0)]) (fun _ k => XS.aloadN X0.here hx rfl (hb hby d3_3) rfl rfl k) ?_
  obtain ⟨cl1, Ar1, qa1, Sa1, Na1, Ha1, Ga1⟩ := id pf4
  refine gb (mkF m 5 #[vr a0, vr a1] [(.int 2), (.int 0), (.ref a1), (.ref a0)]) (fun t k => X0.arraylength hx (by rw [e0]; exact Ar1.1) (State.isArrayOf_alike hZ.alike Ar1.2.1) (g := (mkF m 4 #[vr a0, vr a1] [(.ref a1), (.int 0), (.ref a1), (.ref a0)])) rfl rfl (hb hby d3_4) t (by rw [len_of Sa1 Na1]; exact k)) ?_
  refine gb (mkF m 6 #[vr a0, vr a1] [.null, (.int 2), (.int 0), (.ref a1), (.ref a0)]) (fun _ k => XS.aconstNull X0.here hx rfl (hb hby d3_5) k) ?_
  obtain ⟨_, _, ⟨T2, L2, k2, n2⟩, -, X2, ⟨Lc2, hQ2, l2, y2, z2⟩, st2⟩ := X0.specialBack hx (y := mq10) rfl hown (mvT hZ (hW hw 16 rfl)) (mvT hZ (hW hw 17 rfl)) (mvT hZ (hW hw 19 rfl)) (by decide) (backOf (W := 0) (rm4k2 l Z a0' hw [] a0 a1 ka x0 x1 w1 w2 w3 G1 sf h0 n0 O W pf0 pf1 pf2 gp_a0 pf4 hx0 hx1) hZ (hW hw 19 rfl) (hW hw 12 rfl) (by decide) (by decide)) (g := (mkF m 6 #[vr a0, vr a1] [.null, (.int 2), (.int 0), (.ref a1), (.ref a0)])) rfl (by rw [hml]; rfl) (Steps.refl _) (a := a0) (argsL := [(.ref a1), (.int 0), (.int 2), .null]) (rest := []) (lenOf pd127 rfl) rfl (Nat.le_of_eq rfl) (hb hby d3_6) (fun _ _ => ⟨rfl, e0, (by decide : 0 + 1 ≤ _), (by decide : 0 + 2 ≤ _)⟩)
  dsimp only [Pt.U, Pt.locs, Pt.cells, Pt.slots] at X2 l2 y2 z2 st2 hQ2
  subst l2 y2 z2
  obtain ⟨b_2, kb_2, rfl, N2q, Kc2, fc2_0, fc2_1, fc2_2⟩ := hQ2
  have N2 := Fr.app N0 N2q
  refine gb (mkF m 9 #[vr a0, vr a1] []) (fun _ k => st2.trans k) ?_
  have K3 := ((Keep.refl h0 [a0]).trans Kc2 (allS (Or.inl (List.mem_of_getElem? (i := 0) rfl)) all0))
  exact Gl.outV X2 hx hk Bd.returns (hb hby d3_9) ⟨b_2, kb_2, rfl, N2, K3, fc2_0, fc2_1, fc2_2⟩ (by decide) (by decide)
theorem ef4k3 (m : MethodId) (x0 : Addr) (x1 : Addr) (x2 : Int32) (x3 : Int32) : entryFrame m #[(.ref x0), (.ref x1), (.int x2), (.int x3), .null] 6 = mkF m 0 #[.val (.ref x0), .val (.ref x1), .val (.int x2), .val (.int x3), .val .null, .unset] [] := by first | (simp [entryFrame, mkF, argsToLocals, Value.category]; done) | rfl
def Q4k3 (Z : State) (a0 : Addr) (a1 : Addr) (ka : ClassId) (x0 : Int32) (x1 : Int32) (x2 : Int32) (w1 w2 w3 : Addr) (G1 : Int32) (sf : Value) (h0 : Heap) (n0 : Nat) (v : Option Value) (h : Heap) (L : List Loc) : Prop := ∃ (b : Addr), ∃ (kb : ClassId), v = none ∧ Fr n0 L ∧ Keep h0 h [a0] ∧ Fld Z h a0 "java/lang/String" "value" "[B" (.ref b) ∧ Fld Z h a0 "java/lang/String" "coder" "B" (.int 0) ∧ Arv Z h b kb .byte (3 : Int32) [(.int (bL x0)), (.int (bL x1)), (.int (bL x2))] (.int 0)
theorem rm4k3 (l : Launch) (Z : State) (a0' : Array Value) (hw : ∀ d ∈ tables_1, d.before a0' Z = true) (ws : List Jvm.Cond) (a0 : Addr) (a1 : Addr) (ka : ClassId) (x0 : Int32) (x1 : Int32) (x2 : Int32) (w1 w2 w3 : Addr) (G1 : Int32) (sf : Value) (h0 : Heap) (n0 : Nat) (O : Old Z n0 h0) (W : Wd Z w1 w2 w3 G1 sf) (pf0 : Exa Z h0 a0 "java/lang/String") (pf1 : Fld Z h0 a0 "java/lang/String" "value" "[B" .null) (pf2 : Fld Z h0 a0 "java/lang/String" "coder" "B" (.int 0)) (gp_a0 : n0 ≤ a0) (pf4 : Arv Z h0 a1 ka .char (3 : Int32) [(.int x0), (.int x1), (.int x2)] (.int 0)) (hx0 : ¬ (255 : Int32) < x0) (hx1 : ¬ (255 : Int32) < x1) (hx2 : ¬ (255 : Int32) < x2) :
    MetFree l mq10 (head1 (Jvm.Cond.code mq10 jdk_42_method_149_code 6 none :: ws) ({ frames := 2, cells := 1, slots := 3, locals := 35 } : Room)) (fun a U => a = #[(.ref a0), (.ref a1), (.int 0), (.int 3), .null] ∧ Z.Warmed39 U.vm ∧ U.heap = h0) (fun _ _ _ _ _ => True) (fun _ U o U' => ∃ v L, o = .returned v ∧ Q4k3 Z a0 a1 ka x0 x1 x2 w1 w2 w3 G1 sf h0 n0 v U'.heap L ∧ FrameEnd U o U' L ({ frames := 2, cells := 1, slots := 3, locals := 35 } : Room).cells ({ frames := 2, cells := 1, slots := 3, locals := 35 } : Room).slots) := by
  refine MetFree.of_bodySF (plainFor_of_name pn1) hisR ?_
  intro p e s m args below meth c s₁ Bd hml0 hP hK
  obtain ⟨rfl, hZ, hh⟩ := hP
  have hx := Bd.exec
  have hby := Bd.bytes
  have hml : c.maxLocals = 6 := hml0
  have hown : s.vm.findClass "java/lang/String" = some m.cls := findClass_of_methodNamed Bd.named
  have hnm := (name_of_methodNamed Bd.named Bd.method).1
  have hk := Bd.notSynchronized
  have X0 : Stand p l e ({ frames := 2, cells := 1, slots := 3, locals := 35 } : Room) s m #[(.ref a0), (.ref a1), (.int 0), (.int 3), .null] below meth c s₁ [] 0 0 := Stand.of_body Bd
  have hh2 := hh
  have e0 : s₁.heap = h0 := by rw [← hh, Bd.state]; rfl
  have N0 := Fr.nil n0
  show Gl p e below (Pos 1 3 (Q4k3 Z a0 a1 ka x0 x1 x2 w1 w2 w3 G1 sf h0 n0) s) s₁ _
  refine Gl.cast (ef4k3 m a0 a1 (0 : Int32) (3 : Int32)) ?_
  refine gb (mkF m 1 #[vr a0, vr a1, vi 0, vi 3, .val .null, .unset] [(.ref a0)]) (fun _ k => XS.aloadN X0.here hx rfl (hb hby d4_0) rfl rfl k) ?_
  obtain ⟨T1, X1, e1, st1⟩ := initO X0 hx hZ hown (hW hw 20 rfl) (hW hw 21 rfl) (hW hw 22 rfl) e0 (g := (mkF m 1 #[vr a0, vr a1, vi 0, vi 3, .val .null, .unset] [(.ref a0)])) rfl (by rw [hml]; rfl) rfl (hb hby d4_1) (by decide) (W := 0) (Nat.le_of_eq rfl) (by decide)
  refine gb (mkF m 4 #[vr a0, vr a1, vi 0, vi 3, .val .null, .unset] []) st1 ?_
  refine gb (mkF m 5 #[vr a0, vr a1, vi 0, vi 3, .val .null, .unset] [(.int 3)]) (fun _ k => XS.iloadN X1.here hx rfl (hb hby d4_4) rfl k) ?_
  refine gb (mkF m 27 #[vr a0, vr a1, vi 0, vi 3, .val .null, .unset] []) (fun _ k => XS.ifYes X1.here hx rfl (pc0 := 5) (pc' := 27) rfl (hb hby d4_5) rfl ((if0 _ _).trans (feq (by decide : ¬ ((3 : Int32) = (0 : Int32)))).2) (by decide) (by decide) k) ?_
  obtain ⟨T2, X2, e2, st2⟩ := getS2 X1 hx hZ hown (host := "") (Or.inl (hW hw 57 rfl)) Via.refl e1 (Sta.ext O.2 W.2.2.2.2.2.2.2.2.2.1) (g := (mkF m 27 #[vr a0, vr a1, vi 0, vi 3, .val .null, .unset] [])) rfl (hb hby d4_27)
  refine gb (mkF m 30 #[vr a0, vr a1, vi 0, vi 3, .val .null, .unset] [(.int G1)]) st2 ?_
  refine gb (mkF m 33 #[vr a0, vr a1, vi 0, vi 3, .val .null, .unset] []) (fun _ k => XS.ifNo X2.here hx rfl (hb hby d4_30) rfl ((if0 _ _).trans (feq W.2.2.2.2.2.2.2.2.2.2.1).1) k) ?_
  refine gb (mkF m 34 #[vr a0, vr a1, vi 0, vi 3, .val .null, .unset] [(.ref a1)]) (fun _ k => XS.aloadN X2.here hx rfl (hb hby d4_33) rfl rfl k) ?_
  refine gb (mkF m 35 #[vr a0, vr a1, vi 0, vi 3, .val .null, .unset] [(.int 0), (.ref a1)]) (fun _ k => XS.iloadN X2.here hx rfl (hb hby d4_34) rfl k) ?_
  refine gb (mkF m 36 #[vr a0, vr a1, vi 0, vi 3, .val .null, .unset] [(.int 3), (.int 0), (.ref a1)]) (fun _ k => XS.iloadN X2.here hx rfl (hb hby d4_35) rfl k) ?_
  obtain ⟨_, _, ⟨T3, L3, k3, n3⟩, -, X3, ⟨Lc3, hQ3, l3, y3, z3⟩, st3⟩ := callS X2 hx (y := mq8) hown (mvT hZ (hW hw 97 rfl)) (mvT hZ (hW hw 98 rfl)) (mvT hZ (hW hw 99 rfl)) (mvT hZ (hW hw 100 rfl)) (by decide) (backOf (W := 0) (rm193 l Z a0' hw [] a1 ka x0 x1 x2 w1 w2 w3 G1 sf h0 n0 O W pf4 hx0 hx1 hx2) hZ (hW hw 100 rfl) (hW hw 99 rfl) (by decide) (by decide)) (g := (mkF m 36 #[vr a0, vr a1, vi 0, vi 3, .val .null, .unset] [(.int 3), (.int 0), (.ref a1)])) rfl (by rw [hml]; rfl) (argsL := [(.ref a1), (.int 0), (.int 3)]) (rest := []) (lenOf pd144 rfl) rfl (Nat.le_of_eq rfl) (hb hby d4_36) (fun _ _ => ⟨rfl, e2, (by decide : 0 + 1 ≤ _), (by decide : 0 + 3 ≤ _)⟩)
  dsimp only [Pt.U, Pt.locs, Pt.cells, Pt.slots] at X3 l3 y3 z3 st3 hQ3
  subst l3 y3 z3
  obtain ⟨b_3, kb_3, rfl, N3q, Kc3, fc3_0, fc3_1⟩ := hQ3
  have N3 := Fr.app N0 N3q
  have nb4 : a0 ≠ b_3 := Nat.ne_of_lt (Nat.lt_of_lt_of_le pf0.lt fc3_1)
  have nb5 : a1 ≠ b_3 := Nat.ne_of_lt (Nat.lt_of_lt_of_le pf4.lt fc3_1)
  refine gb (mkF m 39 #[vr a0, vr a1, vi 0, vi 3, .val .null, .unset] [(.ref b_3)]) st3 ?_
  refine gb (mkF m 41 #[vr a0, vr a1, vi 0, vi 3, .val .null, vr b_3] []) (fun _ k => XS.astore X3.here hx rfl (hb hby d4_39) rfl rfl (l' := #[vr a0, vr a1, vi 0, vi 3, .val .null, vr b_3]) rfl k) ?_
  refine gb (mkF m 42 #[vr a0, vr a1, vi 0, vi 3, .val .null, vr b_3] [(.ref a0)]) (fun _ k => XS.aloadN X3.here hx rfl (hb hby d4_41) rfl rfl k) ?_
  refine gb (mkF m 44 #[vr a0, vr a1, vi 0, vi 3, .val .null, vr b_3] [(.ref b_3), (.ref a0)]) (fun _ k => XS.aload X3.here hx rfl (hb hby d4_42) rfl rfl k) ?_
  refine gb (mkF m 45 #[vr a0, vr a1, vi 0, vi 3, .val .null, vr b_3] [(.int 3), (.ref b_3), (.ref a0)]) (fun _ k => XS.iloadN X3.here hx rfl (hb hby d4_44) rfl k) ?_
  have O7 := (O.keep Kc3 all0)
  obtain ⟨_, _, ⟨T6, L6, k6, n6⟩, -, X6, ⟨Lc6, hQ6, l6, y6, z6⟩, st6⟩ := callS X3 hx (y := mq9) hown (mvT hZ (hW hw 104 rfl)) (mvT hZ (hW hw 105 rfl)) (mvT hZ (hW hw 99 rfl)) (mvT hZ (hW hw 106 rfl)) (by decide) (backOf (W := 1) (rm213_3 l Z a0' hw [] b_3 kb_3 [(.int (bL x0)), (.int (bL x1)), (.int (bL x2))] w1 w2 w3 G1 sf T3.heap n0 O7 W fc3_0) hZ (hW hw 106 rfl) (hW hw 99 rfl) (by decide) (by decide)) (g := (mkF m 45 #[vr a0, vr a1, vi 0, vi 3, .val .null, vr b_3] [(.int 3), (.ref b_3), (.ref a0)])) rfl (by rw [hml]; rfl) (argsL := [(.ref b_3), (.int 3)]) (rest := [(.ref a0)]) (lenOf pd145 rfl) rfl (Nat.le_of_eq rfl) (hb hby d4_45) (fun _ _ => ⟨rfl, rfl, (by decide : 1 + 0 ≤ _), (by decide : 3 + 0 ≤ _)⟩)
  dsimp only [Pt.U, Pt.locs, Pt.cells, Pt.slots] at X6 l6 y6 z6 st6 hQ6
  subst l6 y6 z6
  obtain ⟨rfl, N6q, e6⟩ := hQ6
  have N6 := Fr.app N3 N6q
  refine gb (mkF m 48 #[vr a0, vr a1, vi 0, vi 3, .val .null, vr b_3] [(.int 0), (.ref a0)]) st6 ?_
  have f8 := (Exa.keep pf0 Kc3)
  have f9 := (Fld.keep pf2 Kc3 nin0)
  obtain ⟨T10, h10, X10, e10, W10, st10⟩ := putFN X6 hx hZ hown (hW hw 30 rfl) Via.refl e6 f9 f8 (Or.inr ⟨(hW hw 26 rfl), rfl, hnm⟩) (hW hw 11 rfl) (ty := .byte) (v' := (.int ((0 : Int32).toInt8.toInt32))) (by decide) rfl (fits_nar_byte _) (g := (mkF m 48 #[vr a0, vr a1, vi 0, vi 3, .val .null, vr b_3] [(.int 0), (.ref a0)])) rfl rfl (hb hby d4_48)
  have N10 := Fr.snoc X10 N6 gp_a0
  have Fw10 := Fld.same W10 f9
  refine gb (mkF m 51 #[vr a0, vr a1, vi 0, vi 3, .val .null, vr b_3] []) st10 ?_
  refine gb (mkF m 52 #[vr a0, vr a1, vi 0, vi 3, .val .null, vr b_3] [(.ref a0)]) (fun _ k => XS.aloadN X10.here hx rfl (hb hby d4_51) rfl rfl k) ?_
  refine gb (mkF m 54 #[vr a0, vr a1, vi 0, vi 3, .val .null, vr b_3] [(.ref b_3), (.ref a0)]) (fun _ k => XS.aload X10.here hx rfl (hb hby d4_52) rfl rfl k) ?_
  have f11 := (Exa.wr W10 f8)
  have f12 := (Fld.other W10 (Fld.keep pf1 Kc3 nin0) (Or.inr (slot_ne (Or.inr (hW hw 25 rfl)) (Or.inr (hW hw 26 rfl)) (by decide) (t := (.array .byte)) (t' := .byte) (by decide) (by decide))))
  obtain ⟨T13, h13, X13, e13, W13, st13⟩ := putF X10 hx hZ hown (host := "") (Or.inl (hW hw 29 rfl)) Via.refl e10 f12 f11 (Or.inr ⟨(hW hw 25 rfl), rfl, hnm⟩) (hW hw 11 rfl) (ty := (.array .byte)) (by decide) rfl rfl (g := (mkF m 54 #[vr a0, vr a1, vi 0, vi 3, .val .null, vr b_3] [(.ref b_3), (.ref a0)])) rfl rfl (hb hby d4_54)
  have N13 := Fr.snoc X13 N10 gp_a0
  have Fw13 := Fld.same W13 f12
  refine gb (mkF m 57 #[vr a0, vr a1, vi 0, vi 3, .val .null, vr b_3] []) st13 ?_
  have K14 := ((((Keep.refl h0 [a0]).trans Kc3 all0).wr W10 (Or.inl (List.mem_of_getElem? (i := 0) rfl))).wr W13 (Or.inl (List.mem_of_getElem? (i := 0) rfl)))
  have f15 := (Fld.other W13 Fw10 (Or.inr (slot_ne (Or.inr (hW hw 26 rfl)) (Or.inr (hW hw 25 rfl)) (by decide) (t := .byte) (t' := (.array .byte)) (by decide) (by decide))))
  have f16 := (Arv.other (Arv.other fc3_0 W10 (Ne.symm nb4)) W13 (Ne.symm nb4))
  exact Gl.outV X13 hx hk Bd.returns (hb hby d4_57) (Eq.mpr (congrArg (fun hh => Q4k3 Z a0 a1 ka x0 x1 x2 w1 w2 w3 G1 sf h0 n0 _ hh _) e13) (show Q4k3 Z a0 a1 ka x0 x1 x2 w1 w2 w3 G1 sf h0 n0 _ h13 _ from ⟨b_3, kb_3, rfl, N13, K14, Fw13, (castF (congrArg Value.int (by decide : ((0 : Int32).toInt8.toInt32) = (0 : Int32))) f15), f16⟩)) (by decide) (by decide)
theorem ef3k3 (m : MethodId) (x0 : Addr) (x1 : Addr) : entryFrame m #[(.ref x0), (.ref x1)] 2 = mkF m 0 #[.val (.ref x0), .val (.ref x1)] [] := by first | (simp [entryFrame, mkF, argsToLocals, Value.category]; done) | rfl
def Q3k3 (Z : State) (a0 : Addr) (a1 : Addr) (ka : ClassId) (x0 : Int32) (x1 : Int32) (x2 : Int32) (w1 w2 w3 : Addr) (G1 : Int32) (sf : Value) (h0 : Heap) (n0 : Nat) (v : Option Value) (h : Heap) (L : List Loc) : Prop := ∃ (b : Addr), ∃ (kb : ClassId), v = none ∧ Fr n0 L ∧ Keep h0 h [a0] ∧ Fld Z h a0 "java/lang/String" "value" "[B" (.ref b) ∧ Fld Z h a0 "java/lang/String" "coder" "B" (.int 0) ∧ Arv Z h b kb .byte (3 : Int32) [(.int (bL x0)), (.int (bL x1)), (.int (bL x2))] (.int 0)
theorem rm3k3 (l : Launch) (Z : State) (a0' : Array Value) (hw : ∀ d ∈ tables_1, d.before a0' Z = true) (ws : List Jvm.Cond) (a0 : Addr) (a1 : Addr) (ka : ClassId) (x0 : Int32) (x1 : Int32) (x2 : Int32) (w1 w2 w3 : Addr) (G1 : Int32) (sf : Value) (h0 : Heap) (n0 : Nat) (O : Old Z n0 h0) (W : Wd Z w1 w2 w3 G1 sf) (pf0 : Exa Z h0 a0 "java/lang/String") (pf1 : Fld Z h0 a0 "java/lang/String" "value" "[B" .null) (pf2 : Fld Z h0 a0 "java/lang/String" "coder" "B" (.int 0)) (gp_a0 : n0 ≤ a0) (pf4 : Arv Z h0 a1 ka .char (3 : Int32) [(.int x0), (.int x1), (.int x2)] (.int 0)) (hx0 : ¬ (255 : Int32) < x0) (hx1 : ¬ (255 : Int32) < x1) (hx2 : ¬ (255 : Int32) < x2) :
    MetFree l mq11 (head1 (Jvm.Cond.code mq11 jdk_42_method_3_code 2 none :: ws) ({ frames := 3, cells := 1, slots := 3, locals := 52 } : Room)) (fun a U => a = #[(.ref a0), (.ref a1)] ∧ Z.Warmed39 U.vm ∧ U.heap = h0) (fun _ _ _ _ _ => True) (fun _ U o U' => ∃ v L, o = .returned v ∧ Q3k3 Z a0 a1 ka x0 x1 x2 w1 w2 w3 G1 sf h0 n0 v U'.heap L ∧ FrameEnd U o U' L ({ frames := 3, cells := 1, slots := 3, locals := 52 } : Room).cells ({ frames := 3, cells := 1, slots := 3, locals := 52 } : Room).slots) := by
  refine MetFree.of_bodySF (plainFor_of_name pn1) hisR ?_
  intro p e s m args below meth c s₁ Bd hml0 hP hK
  obtain ⟨rfl, hZ, hh⟩ := hP
  have hx := Bd.exec
  have hby := Bd.bytes
  have hml : c.maxLocals = 2 := hml0
  have hown : s.vm.findClass "java/lang/String" = some m.cls := findClass_of_methodNamed Bd.named
  have hnm := (name_of_methodNamed Bd.named Bd.method).1
  have hk := Bd.notSynchronized
  have X0 : Stand p l e ({ frames := 3, cells := 1, slots := 3, locals := 52 } : Room) s m #[(.ref a0), (.ref a1)] below meth c s₁ [] 0 0 := Stand.of_body Bd
  have hh2 := hh
  have e0 : s₁.heap = h0 := by rw [← hh, Bd.state]; rfl
  have N0 := Fr.nil n0
  show Gl p e below (Pos 1 3 (Q3k3 Z a0 a1 ka x0 x1 x2 w1 w2 w3 G1 sf h0 n0) s) s₁ _
  refine Gl.cast (ef3k3 m a0 a1) ?_
  refine gb (mkF m 1 #[vr a0, vr a1] [(.ref a0)]) (fun _ k => XS.aloadN X0.here hx rfl (hb hby d3_0) rfl rfl k) ?_
  refine gb (mkF m 2 #[vr a0, vr a1] [(.ref a1), (.ref a0)]) (fun _ k => XS.aloadN X0.here hx rfl (hb hby d3_1) rfl rfl k) ?_
  refine gb (mkF m 3 #[vr a0, vr a1] [(.int 0), (.ref a1), (.ref a0)]) (fun _ k => XS.iconst X0.here hx rfl (hb hby d3_2) k) ?_
  refine gb (mkF m 4 #[vr a0, vr a1] [(.ref a1), (.int 0), (.ref a1), (.ref a0)]) (fun _ k => XS.aloadN X0.here hx rfl (hb hby d3_3) rfl rfl k) ?_
  obtain ⟨cl1, Ar1, qa1, Sa1, Na1, Ha1, Ga1⟩ := id pf4
  refine gb (mkF m 5 #[vr a0, vr a1] [(.int 3), (.int 0), (.ref a1), (.ref a0)]) (fun t k => X0.arraylength hx (by rw [e0]; exact Ar1.1) (State.isArrayOf_alike hZ.alike Ar1.2.1) (g := (mkF m 4 #[vr a0, vr a1] [(.ref a1), (.int 0), (.ref a1), (.ref a0)])) rfl rfl (hb hby d3_4) t (by rw [len_of Sa1 Na1]; exact k)) ?_
  refine gb (mkF m 6 #[vr a0, vr a1] [.null, (.int 3), (.int 0), (.ref a1), (.ref a0)]) (fun _ k => XS.aconstNull X0.here hx rfl (hb hby d3_5) k) ?_
  obtain ⟨_, _, ⟨T2, L2, k2, n2⟩, -, X2, ⟨Lc2, hQ2, l2, y2, z2⟩, st2⟩ := X0.specialBack hx (y := mq10) rfl hown (mvT hZ (hW hw 16 rfl)) (mvT hZ (hW hw 17 rfl)) (mvT hZ (hW hw 19 rfl)) (by decide) (backOf (W := 0) (rm4k3 l Z a0' hw [] a0 a1 ka x0 x1 x2 w1 w2 w3 G1 sf h0 n0 O W pf0 pf1 pf2 gp_a0 pf4 hx0 hx1 hx2) hZ (hW hw 19 rfl) (hW hw 12 rfl) (by decide) (by decide)) (g := (mkF m 6 #[vr a0, vr a1] [.null, (.int 3), (.int 0), (.ref a1), (.ref a0)])) rfl (by rw [hml]; rfl) (Steps.refl _) (a := a0) (argsL := [(.ref a1), (.int 0), (.int 3), .null]) (rest := []) (lenOf pd127 rfl) rfl (Nat.le_of_eq rfl) (hb hby d3_6) (fun _ _ => ⟨rfl, e0, (by decide : 0 + 1 ≤ _), (by decide : 0 + 3 ≤ _)⟩)
  dsimp only [Pt.U, Pt.locs, Pt.cells, Pt.slots] at X2 l2 y2 z2 st2 hQ2
  subst l2 y2 z2
  obtain ⟨b_2, kb_2, rfl, N2q, Kc2, fc2_0, fc2_1, fc2_2⟩ := hQ2
  have N2 := Fr.app N0 N2q
  refine gb (mkF m 9 #[vr a0, vr a1] []) (fun _ k => st2.trans k) ?_
  have K3 := ((Keep.refl h0 [a0]).trans Kc2 (allS (Or.inl (List.mem_of_getElem? (i := 0) rfl)) all0))
  exact Gl.outV X2 hx hk Bd.returns (hb hby d3_9) ⟨b_2, kb_2, rfl, N2, K3, fc2_0, fc2_1, fc2_2⟩ (by decide) (by decide)
theorem ef4k4 (m : MethodId) (x0 : Addr) (x1 : Addr) (x2 : Int32) (x3 : Int32) : entryFrame m #[(.ref x0), (.ref x1), (.int x2), (.int x3), .null] 6 = mkF m 0 #[.val (.ref x0), .val (.ref x1), .val (.int x2), .val (.int x3), .val .null, .unset] [] := by first | (simp [entryFrame, mkF, argsToLocals, Value.category]; done) | rfl
def Q4k4 (Z : State) (a0 : Addr) (a1 : Addr) (ka : ClassId) (x0 : Int32) (x1 : Int32) (x2 : Int32) (x3 : Int32) (w1 w2 w3 : Addr) (G1 : Int32) (sf : Value) (h0 : Heap) (n0 : Nat) (v : Option Value) (h : Heap) (L : List Loc) : Prop := ∃ (b : Addr), ∃ (kb : ClassId), v = none ∧ Fr n0 L ∧ Keep h0 h [a0] ∧ Fld Z h a0 "java/lang/String" "value" "[B" (.ref b) ∧ Fld Z h a0 "java/lang/String" "coder" "B" (.int 0) ∧ Arv Z h b kb .byte (4 : Int32) [(.int (bL x0)), (.int (bL x1)), (.int (bL x2)), (.int (bL x3))] (.int 0)
theorem rm4k4 (l : Launch) (Z : State) (a0' : Array Value) (hw : ∀ d ∈ tables_1, d.before a0' Z = true) (ws : List Jvm.Cond) (a0 : Addr) (a1 : Addr) (ka : ClassId) (x0 : Int32) (x1 : Int32) (x2 : Int32) (x3 : Int32) (w1 w2 w3 : Addr) (G1 : Int32) (sf : Value) (h0 : Heap) (n0 : Nat) (O : Old Z n0 h0) (W : Wd Z w1 w2 w3 G1 sf) (pf0 : Exa Z h0 a0 "java/lang/String") (pf1 : Fld Z h0 a0 "java/lang/String" "value" "[B" .null) (pf2 : Fld Z h0 a0 "java/lang/String" "coder" "B" (.int 0)) (gp_a0 : n0 ≤ a0) (pf4 : Arv Z h0 a1 ka .char (4 : Int32) [(.int x0), (.int x1), (.int x2), (.int x3)] (.int 0)) (hx0 : ¬ (255 : Int32) < x0) (hx1 : ¬ (255 : Int32) < x1) (hx2 : ¬ (255 : Int32) < x2) (hx3 : ¬ (255 : Int32) < x3) :
    MetFree l mq10 (head1 (Jvm.Cond.code mq10 jdk_42_method_149_code 6 none :: ws) ({ frames := 2, cells := 1, slots := 4, locals := 35 } : Room)) (fun a U => a = #[(.ref a0), (.ref a1), (.int 0), (.int 4), .null] ∧ Z.Warmed39 U.vm ∧ U.heap = h0) (fun _ _ _ _ _ => True) (fun _ U o U' => ∃ v L, o = .returned v ∧ Q4k4 Z a0 a1 ka x0 x1 x2 x3 w1 w2 w3 G1 sf h0 n0 v U'.heap L ∧ FrameEnd U o U' L ({ frames := 2, cells := 1, slots := 4, locals := 35 } : Room).cells ({ frames := 2, cells := 1, slots := 4, locals := 35 } : Room).slots) := by
  refine MetFree.of_bodySF (plainFor_of_name pn1) hisR ?_
  intro p e s m args below meth c s₁ Bd hml0 hP hK
  obtain ⟨rfl, hZ, hh⟩ := hP
  have hx := Bd.exec
  have hby := Bd.bytes
  have hml : c.maxLocals = 6 := hml0
  have hown : s.vm.findClass "java/lang/String" = some m.cls := findClass_of_methodNamed Bd.named
  have hnm := (name_of_methodNamed Bd.named Bd.method).1
  have hk := Bd.notSynchronized
  have X0 : Stand p l e ({ frames := 2, cells := 1, slots := 4, locals := 35 } : Room) s m #[(.ref a0), (.ref a1), (.int 0), (.int 4), .null] below meth c s₁ [] 0 0 := Stand.of_body Bd
  have hh2 := hh
  have e0 : s₁.heap = h0 := by rw [← hh, Bd.state]; rfl
  have N0 := Fr.nil n0
  show Gl p e below (Pos 1 4 (Q4k4 Z a0 a1 ka x0 x1 x2 x3 w1 w2 w3 G1 sf h0 n0) s) s₁ _
  refine Gl.cast (ef4k4 m a0 a1 (0 : Int32) (4 : Int32)) ?_
  refine gb (mkF m 1 #[vr a0, vr a1, vi 0, vi 4, .val .null, .unset] [(.ref a0)]) (fun _ k => XS.aloadN X0.here hx rfl (hb hby d4_0) rfl rfl k) ?_
  obtain ⟨T1, X1, e1, st1⟩ := initO X0 hx hZ hown (hW hw 20 rfl) (hW hw 21 rfl) (hW hw 22 rfl) e0 (g := (mkF m 1 #[vr a0, vr a1, vi 0, vi 4, .val .null, .unset] [(.ref a0)])) rfl (by rw [hml]; rfl) rfl (hb hby d4_1) (by decide) (W := 0) (Nat.le_of_eq rfl) (by decide)
  refine gb (mkF m 4 #[vr a0, vr a1, vi 0, vi 4, .val .null, .unset] []) st1 ?_
  refine gb (mkF m 5 #[vr a0, vr a1, vi 0, vi 4, .val .null, .unset] [(.int 4)]) (fun _ k => XS.iloadN X1.here hx rfl (hb hby d4_4) rfl k) ?_
  refine gb (mkF m 27 #[vr a0, vr a1, vi 0, vi 4, .val .null, .unset] []) (fun _ k => XS.ifYes X1.here hx rfl (pc0 := 5) (pc' := 27) rfl (hb hby d4_5) rfl ((if0 _ _).trans (feq (by decide : ¬ ((4 : Int32) = (0 : Int32)))).2) (by decide) (by decide) k) ?_
  obtain ⟨T2, X2, e2, st2⟩ := getS2 X1 hx hZ hown (host := "") (Or.inl (hW hw 57 rfl)) Via.refl e1 (Sta.ext O.2 W.2.2.2.2.2.2.2.2.2.1) (g := (mkF m 27 #[vr a0, vr a1, vi 0, vi 4, .val .null, .unset] [])) rfl (hb hby d4_27)
  refine gb (mkF m 30 #[vr a0, vr a1, vi 0, vi 4, .val .null, .unset] [(.int G1)]) st2 ?_
  refine gb (mkF m 33 #[vr a0, vr a1, vi 0, vi 4, .val .null, .unset] []) (fun _ k => XS.ifNo X2.here hx rfl (hb hby d4_30) rfl ((if0 _ _).trans (feq W.2.2.2.2.2.2.2.2.2.2.1).1) k) ?_
  refine gb (mkF m 34 #[vr a0, vr a1, vi 0, vi 4, .val .null, .unset] [(.ref a1)]) (fun _ k => XS.aloadN X2.here hx rfl (hb hby d4_33) rfl rfl k) ?_
  refine gb (mkF m 35 #[vr a0, vr a1, vi 0, vi 4, .val .null, .unset] [(.int 0), (.ref a1)]) (fun _ k => XS.iloadN X2.here hx rfl (hb hby d4_34) rfl k) ?_
  refine gb (mkF m 36 #[vr a0, vr a1, vi 0, vi 4, .val .null, .unset] [(.int 4), (.int 0), (.ref a1)]) (fun _ k => XS.iloadN X2.here hx rfl (hb hby d4_35) rfl k) ?_
  obtain ⟨_, _, ⟨T3, L3, k3, n3⟩, -, X3, ⟨Lc3, hQ3, l3, y3, z3⟩, st3⟩ := callS X2 hx (y := mq8) hown (mvT hZ (hW hw 97 rfl)) (mvT hZ (hW hw 98 rfl)) (mvT hZ (hW hw 99 rfl)) (mvT hZ (hW hw 100 rfl)) (by decide) (backOf (W := 0) (rm194 l Z a0' hw [] a1 ka x0 x1 x2 x3 w1 w2 w3 G1 sf h0 n0 O W pf4 hx0 hx1 hx2 hx3) hZ (hW hw 100 rfl) (hW hw 99 rfl) (by decide) (by decide)) (g := (mkF m 36 #[vr a0, vr a1, vi 0, vi 4, .val .null, .unset] [(.int 4), (.int 0), (.ref a1)])) rfl (by rw [hml]; rfl) (argsL := [(.ref a1), (.int 0), (.int 4)]) (rest := []) (lenOf pd144 rfl) rfl (Nat.le_of_eq rfl) (hb hby d4_36) (fun _ _ => ⟨rfl, e2, (by decide : 0 + 1 ≤ _), (by decide : 0 + 4 ≤ _)⟩)
  dsimp only [Pt.U, Pt.locs, Pt.cells, Pt.slots] at X3 l3 y3 z3 st3 hQ3
  subst l3 y3 z3
  obtain ⟨b_3, kb_3, rfl, N3q, Kc3, fc3_0, fc3_1⟩ := hQ3
  have N3 := Fr.app N0 N3q
  have nb4 : a0 ≠ b_3 := Nat.ne_of_lt (Nat.lt_of_lt_of_le pf0.lt fc3_1)
  have nb5 : a1 ≠ b_3 := Nat.ne_of_lt (Nat.lt_of_lt_of_le pf4.lt fc3_1)
  refine gb (mkF m 39 #[vr a0, vr a1, vi 0, vi 4, .val .null, .unset] [(.ref b_3)]) st3 ?_
  refine gb (mkF m 41 #[vr a0, vr a1, vi 0, vi 4, .val .null, vr b_3] []) (fun _ k => XS.astore X3.here hx rfl (hb hby d4_39) rfl rfl (l' := #[vr a0, vr a1, vi 0, vi 4, .val .null, vr b_3]) rfl k) ?_
  refine gb (mkF m 42 #[vr a0, vr a1, vi 0, vi 4, .val .null, vr b_3] [(.ref a0)]) (fun _ k => XS.aloadN X3.here hx rfl (hb hby d4_41) rfl rfl k) ?_
  refine gb (mkF m 44 #[vr a0, vr a1, vi 0, vi 4, .val .null, vr b_3] [(.ref b_3), (.ref a0)]) (fun _ k => XS.aload X3.here hx rfl (hb hby d4_42) rfl rfl k) ?_
  refine gb (mkF m 45 #[vr a0, vr a1, vi 0, vi 4, .val .null, vr b_3] [(.int 4), (.ref b_3), (.ref a0)]) (fun _ k => XS.iloadN X3.here hx rfl (hb hby d4_44) rfl k) ?_
  have O7 := (O.keep Kc3 all0)
  obtain ⟨_, _, ⟨T6, L6, k6, n6⟩, -, X6, ⟨Lc6, hQ6, l6, y6, z6⟩, st6⟩ := callS X3 hx (y := mq9) hown (mvT hZ (hW hw 104 rfl)) (mvT hZ (hW hw 105 rfl)) (mvT hZ (hW hw 99 rfl)) (mvT hZ (hW hw 106 rfl)) (by decide) (backOf (W := 1) (rm214_4 l Z a0' hw [] b_3 kb_3 [(.int (bL x0)), (.int (bL x1)), (.int (bL x2)), (.int (bL x3))] w1 w2 w3 G1 sf T3.heap n0 O7 W fc3_0) hZ (hW hw 106 rfl) (hW hw 99 rfl) (by decide) (by decide)) (g := (mkF m 45 #[vr a0, vr a1, vi 0, vi 4, .val .null, vr b_3] [(.int 4), (.ref b_3), (.ref a0)])) rfl (by rw [hml]; rfl) (argsL := [(.ref b_3), (.int 4)]) (rest := [(.ref a0)]) (lenOf pd145 rfl) rfl (Nat.le_of_eq rfl) (hb hby d4_45) (fun _ _ => ⟨rfl, rfl, (by decide : 1 + 0 ≤ _), (by decide : 4 + 0 ≤ _)⟩)
  dsimp only [Pt.U, Pt.locs, Pt.cells, Pt.slots] at X6 l6 y6 z6 st6 hQ6
  subst l6 y6 z6
  obtain ⟨rfl, N6q, e6⟩ := hQ6
  have N6 := Fr.app N3 N6q
  refine gb (mkF m 48 #[vr a0, vr a1, vi 0, vi 4, .val .null, vr b_3] [(.int 0), (.ref a0)]) st6 ?_
  have f8 := (Exa.keep pf0 Kc3)
  have f9 := (Fld.keep pf2 Kc3 nin0)
  obtain ⟨T10, h10, X10, e10, W10, st10⟩ := putFN X6 hx hZ hown (hW hw 30 rfl) Via.refl e6 f9 f8 (Or.inr ⟨(hW hw 26 rfl), rfl, hnm⟩) (hW hw 11 rfl) (ty := .byte) (v' := (.int ((0 : Int32).toInt8.toInt32))) (by decide) rfl (fits_nar_byte _) (g := (mkF m 48 #[vr a0, vr a1, vi 0, vi 4, .val .null, vr b_3] [(.int 0), (.ref a0)])) rfl rfl (hb hby d4_48)
  have N10 := Fr.snoc X10 N6 gp_a0
  have Fw10 := Fld.same W10 f9
  refine gb (mkF m 51 #[vr a0, vr a1, vi 0, vi 4, .val .null, vr b_3] []) st10 ?_
  refine gb (mkF m 52 #[vr a0, vr a1, vi 0, vi 4, .val .null, vr b_3] [(.ref a0)]) (fun _ k => XS.aloadN X10.here hx rfl (hb hby d4_51) rfl rfl k) ?_
  refine gb (mkF m 54 #[vr a0, vr a1, vi 0, vi 4, .val .null, vr b_3] [(.ref b_3), (.ref a0)]) (fun _ k => XS.aload X10.here hx rfl (hb hby d4_52) rfl rfl k) ?_
  have f11 := (Exa.wr W10 f8)
  have f12 := (Fld.other W10 (Fld.keep pf1 Kc3 nin0) (Or.inr (slot_ne (Or.inr (hW hw 25 rfl)) (Or.inr (hW hw 26 rfl)) (by decide) (t := (.array .byte)) (t' := .byte) (by decide) (by decide))))
  obtain ⟨T13, h13, X13, e13, W13, st13⟩ := putF X10 hx hZ hown (host := "") (Or.inl (hW hw 29 rfl)) Via.refl e10 f12 f11 (Or.inr ⟨(hW hw 25 rfl), rfl, hnm⟩) (hW hw 11 rfl) (ty := (.array .byte)) (by decide) rfl rfl (g := (mkF m 54 #[vr a0, vr a1, vi 0, vi 4, .val .null, vr b_3] [(.ref b_3), (.ref a0)])) rfl rfl (hb hby d4_54)
  have N13 := Fr.snoc X13 N10 gp_a0
  have Fw13 := Fld.same W13 f12
  refine gb (mkF m 57 #[vr a0, vr a1, vi 0, vi 4, .val .null, vr b_3] []) st13 ?_
  have K14 := ((((Keep.refl h0 [a0]).trans Kc3 all0).wr W10 (Or.inl (List.mem_of_getElem? (i := 0) rfl))).wr W13 (Or.inl (List.mem_of_getElem? (i := 0) rfl)))
  have f15 := (Fld.other W13 Fw10 (Or.inr (slot_ne (Or.inr (hW hw 26 rfl)) (Or.inr (hW hw 25 rfl)) (by decide) (t := .byte) (t' := (.array .byte)) (by decide) (by decide))))
  have f16 := (Arv.other (Arv.other fc3_0 W10 (Ne.symm nb4)) W13 (Ne.symm nb4))
  exact Gl.outV X13 hx hk Bd.returns (hb hby d4_57) (Eq.mpr (congrArg (fun hh => Q4k4 Z a0 a1 ka x0 x1 x2 x3 w1 w2 w3 G1 sf h0 n0 _ hh _) e13) (show Q4k4 Z a0 a1 ka x0 x1 x2 x3 w1 w2 w3 G1 sf h0 n0 _ h13 _ from ⟨b_3, kb_3, rfl, N13, K14, Fw13, (castF (congrArg Value.int (by decide : ((0 : Int32).toInt8.toInt32) = (0 : Int32))) f15), f16⟩)) (by decide) (by decide)
theorem ef3k4 (m : MethodId) (x0 : Addr) (x1 : Addr) : entryFrame m #[(.ref x0), (.ref x1)] 2 = mkF m 0 #[.val (.ref x0), .val (.ref x1)] [] := by first | (simp [entryFrame, mkF, argsToLocals, Value.category]; done) | rfl
def Q3k4 (Z : State) (a0 : Addr) (a1 : Addr) (ka : ClassId) (x0 : Int32) (x1 : Int32) (x2 : Int32) (x3 : Int32) (w1 w2 w3 : Addr) (G1 : Int32) (sf : Value) (h0 : Heap) (n0 : Nat) (v : Option Value) (h : Heap) (L : List Loc) : Prop := ∃ (b : Addr), ∃ (kb : ClassId), v = none ∧ Fr n0 L ∧ Keep h0 h [a0] ∧ Fld Z h a0 "java/lang/String" "value" "[B" (.ref b) ∧ Fld Z h a0 "java/lang/String" "coder" "B" (.int 0) ∧ Arv Z h b kb .byte (4 : Int32) [(.int (bL x0)), (.int (bL x1)), (.int (bL x2)), (.int (bL x3))] (.int 0)
theorem rm3k4 (l : Launch) (Z : State) (a0' : Array Value) (hw : ∀ d ∈ tables_1, d.before a0' Z = true) (ws : List Jvm.Cond) (a0 : Addr) (a1 : Addr) (ka : ClassId) (x0 : Int32) (x1 : Int32) (x2 : Int32) (x3 : Int32) (w1 w2 w3 : Addr) (G1 : Int32) (sf : Value) (h0 : Heap) (n0 : Nat) (O : Old Z n0 h0) (W : Wd Z w1 w2 w3 G1 sf) (pf0 : Exa Z h0 a0 "java/lang/String") (pf1 : Fld Z h0 a0 "java/lang/String" "value" "[B" .null) (pf2 : Fld Z h0 a0 "java/lang/String" "coder" "B" (.int 0)) (gp_a0 : n0 ≤ a0) (pf4 : Arv Z h0 a1 ka .char (4 : Int32) [(.int x0), (.int x1), (.int x2), (.int x3)] (.int 0)) (hx0 : ¬ (255 : Int32) < x0) (hx1 : ¬ (255 : Int32) < x1) (hx2 : ¬ (255 : Int32) < x2) (hx3 : ¬ (255 : Int32) < x3) :
    MetFree l mq11 (head1 (Jvm.Cond.code mq11 jdk_42_method_3_code 2 none :: ws) ({ frames := 3, cells := 1, slots := 4, locals := 52 } : Room)) (fun a U => a = #[(.ref a0), (.ref a1)] ∧ Z.Warmed39 U.vm ∧ U.heap = h0) (fun _ _ _ _ _ => True) (fun _ U o U' => ∃ v L, o = .returned v ∧ Q3k4 Z a0 a1 ka x0 x1 x2 x3 w1 w2 w3 G1 sf h0 n0 v U'.heap L ∧ FrameEnd U o U' L ({ frames := 3, cells := 1, slots := 4, locals := 52 } : Room).cells ({ frames := 3, cells := 1, slots := 4, locals := 52 } : Room).slots) := by
  refine MetFree.of_bodySF (plainFor_of_name pn1) hisR ?_
  intro p e s m args below meth c s₁ Bd hml0 hP hK
  obtain ⟨rfl, hZ, hh⟩ := hP
  have hx := Bd.exec
  have hby := Bd.bytes
  have hml : c.maxLocals = 2 := hml0
  have hown : s.vm.findClass "java/lang/String" = some m.cls := findClass_of_methodNamed Bd.named
  have hnm := (name_of_methodNamed Bd.named Bd.method).1
  have hk := Bd.notSynchronized
  have X0 : Stand p l e ({ frames := 3, cells := 1, slots := 4, locals := 52 } : Room) s m #[(.ref a0), (.ref a1)] below meth c s₁ [] 0 0 := Stand.of_body Bd
  have hh2 := hh
  have e0 : s₁.heap = h0 := by rw [← hh, Bd.state]; rfl
  have N0 := Fr.nil n0
  show Gl p e below (Pos 1 4 (Q3k4 Z a0 a1 ka x0 x1 x2 x3 w1 w2 w3 G1 sf h0 n0) s) s₁ _
  refine Gl.cast (ef3k4 m a0 a1) ?_
  refine gb (mkF m 1 #[vr a0, vr a1] [(.ref a0)]) (fun _ k => XS.aloadN X0.here hx rfl (hb hby d3_0) rfl rfl k) ?_
  refine gb (mkF m 2 #[vr a0, vr a1] [(.ref a1), (.ref a0)]) (fun _ k => XS.aloadN X0.here hx rfl (hb hby d3_1) rfl rfl k) ?_
  refine gb (mkF m 3 #[vr a0, vr a1] [(.int 0), (.ref a1), (.ref a0)]) (fun _ k => XS.iconst X0.here hx rfl (hb hby d3_2) k) ?_
  refine gb (mkF m 4 #[vr a0, vr a1] [(.ref a1), (.int 0), (.ref a1), (.ref a0)]) (fun _ k => XS.aloadN X0.here hx rfl (hb hby d3_3) rfl rfl k) ?_
  obtain ⟨cl1, Ar1, qa1, Sa1, Na1, Ha1, Ga1⟩ := id pf4
  refine gb (mkF m 5 #[vr a0, vr a1] [(.int 4), (.int 0), (.ref a1), (.ref a0)]) (fun t k => X0.arraylength hx (by rw [e0]; exact Ar1.1) (State.isArrayOf_alike hZ.alike Ar1.2.1) (g := (mkF m 4 #[vr a0, vr a1] [(.ref a1), (.int 0), (.ref a1), (.ref a0)])) rfl rfl (hb hby d3_4) t (by rw [len_of Sa1 Na1]; exact k)) ?_
  refine gb (mkF m 6 #[vr a0, vr a1] [.null, (.int 4), (.int 0), (.ref a1), (.ref a0)]) (fun _ k => XS.aconstNull X0.here hx rfl (hb hby d3_5) k) ?_
  obtain ⟨_, _, ⟨T2, L2, k2, n2⟩, -, X2, ⟨Lc2, hQ2, l2, y2, z2⟩, st2⟩ := X0.specialBack hx (y := mq10) rfl hown (mvT hZ (hW hw 16 rfl)) (mvT hZ (hW hw 17 rfl)) (mvT hZ (hW hw 19 rfl)) (by decide) (backOf (W := 0) (rm4k4 l Z a0' hw [] a0 a1 ka x0 x1 x2 x3 w1 w2 w3 G1 sf h0 n0 O W pf0 pf1 pf2 gp_a0 pf4 hx0 hx1 hx2 hx3) hZ (hW hw 19 rfl) (hW hw 12 rfl) (by decide) (by decide)) (g := (mkF m 6 #[vr a0, vr a1] [.null, (.int 4), (.int 0), (.ref a1), (.ref a0)])) rfl (by rw [hml]; rfl) (Steps.refl _) (a := a0) (argsL := [(.ref a1), (.int 0), (.int 4), .null]) (rest := []) (lenOf pd127 rfl) rfl (Nat.le_of_eq rfl) (hb hby d3_6) (fun _ _ => ⟨rfl, e0, (by decide : 0 + 1 ≤ _), (by decide : 0 + 4 ≤ _)⟩)
  dsimp only [Pt.U, Pt.locs, Pt.cells, Pt.slots] at X2 l2 y2 z2 st2 hQ2
  subst l2 y2 z2
  obtain ⟨b_2, kb_2, rfl, N2q, Kc2, fc2_0, fc2_1, fc2_2⟩ := hQ2
  have N2 := Fr.app N0 N2q
  refine gb (mkF m 9 #[vr a0, vr a1] []) (fun _ k => st2.trans k) ?_
  have K3 := ((Keep.refl h0 [a0]).trans Kc2 (allS (Or.inl (List.mem_of_getElem? (i := 0) rfl)) all0))
  exact Gl.outV X2 hx hk Bd.returns (hb hby d3_9) ⟨b_2, kb_2, rfl, N2, K3, fc2_0, fc2_1, fc2_2⟩ (by decide) (by decide)
def stk (n : Int32) (l : List Int32) : List Int32 := (l.take n.toNatClampNeg).map (fun x => bL (nar .char x))
theorem stkA {Z : State} {h : Heap} {b : Addr} {kb : ClassId} {dv : Value} {p k : Int32} {m : Nat} {l : List Int32} (e : p = k) (q : k.toNatClampNeg = m) (A : Arv Z h b kb .byte k (((l.take m).map (fun x => bL (nar .char x))).map Value.int) dv) : Arv Z h b kb .byte p ((stk p l).map Value.int) dv := by
  subst e; unfold stk; rw [q]; exact A
theorem d1_0 : decode method_2_code 0 = .ok (.lload_n 0, 1) := by decide +kernel
theorem d1_1 : decode method_2_code 1 = .ok (.ldc2_w 7, 3) := by decide +kernel
theorem d1_4 : decode method_2_code 4 = .ok (.land, 1) := by decide +kernel
theorem d1_5 : decode method_2_code 5 = .ok (.l2i, 1) := by decide +kernel
theorem d1_6 : decode method_2_code 6 = .ok (.istore_n 2, 1) := by decide +kernel
theorem d1_7 : decode method_2_code 7 = .ok (.iload_n 2, 1) := by decide +kernel
theorem d1_8 : decode method_2_code 8 = .ok (.ifCond .ne 6, 3) := by decide +kernel
theorem d1_11 : decode method_2_code 11 = .ok (.bipush 97, 2) := by decide +kernel
theorem d1_13 : decode method_2_code 13 = .ok (.ireturn, 1) := by decide +kernel
theorem d1_14 : decode method_2_code 14 = .ok (.iload_n 2, 1) := by decide +kernel
theorem d1_15 : decode method_2_code 15 = .ok (.iconst 1, 1) := by decide +kernel
theorem d1_16 : decode method_2_code 16 = .ok (.if_icmp .ne 6, 3) := by decide +kernel
theorem d1_19 : decode method_2_code 19 = .ok (.bipush 46, 2) := by decide +kernel
theorem d1_21 : decode method_2_code 21 = .ok (.ireturn, 1) := by decide +kernel
theorem d1_22 : decode method_2_code 22 = .ok (.iload_n 2, 1) := by decide +kernel
theorem d1_23 : decode method_2_code 23 = .ok (.iconst 2, 1) := by decide +kernel
theorem d1_24 : decode method_2_code 24 = .ok (.if_icmp .ne 6, 3) := by decide +kernel
theorem d1_27 : decode method_2_code 27 = .ok (.bipush 64, 2) := by decide +kernel
theorem d1_29 : decode method_2_code 29 = .ok (.ireturn, 1) := by decide +kernel
theorem d1_30 : decode method_2_code 30 = .ok (.iload_n 2, 1) := by decide +kernel
theorem d1_31 : decode method_2_code 31 = .ok (.iconst 3, 1) := by decide +kernel
theorem d1_32 : decode method_2_code 32 = .ok (.if_icmp .ne 6, 3) := by decide +kernel
theorem d1_35 : decode method_2_code 35 = .ok (.bipush 95, 2) := by decide +kernel
theorem d1_37 : decode method_2_code 37 = .ok (.ireturn, 1) := by decide +kernel
theorem d1_38 : decode method_2_code 38 = .ok (.iload_n 2, 1) := by decide +kernel
theorem d1_39 : decode method_2_code 39 = .ok (.iconst 4, 1) := by decide +kernel
theorem d1_40 : decode method_2_code 40 = .ok (.if_icmp .ne 6, 3) := by decide +kernel
theorem d1_43 : decode method_2_code 43 = .ok (.bipush 98, 2) := by decide +kernel
theorem d1_45 : decode method_2_code 45 = .ok (.ireturn, 1) := by decide +kernel
theorem d1_46 : decode method_2_code 46 = .ok (.lload_n 0, 1) := by decide +kernel
theorem d1_47 : decode method_2_code 47 = .ok (.iconst 3, 1) := by decide +kernel
theorem d1_48 : decode method_2_code 48 = .ok (.lushr, 1) := by decide +kernel
theorem d1_49 : decode method_2_code 49 = .ok (.ldc2_w 9, 3) := by decide +kernel
theorem d1_52 : decode method_2_code 52 = .ok (.land, 1) := by decide +kernel
theorem d1_53 : decode method_2_code 53 = .ok (.l2i, 1) := by decide +kernel
theorem d1_54 : decode method_2_code 54 = .ok (.i2c, 1) := by decide +kernel
theorem d1_55 : decode method_2_code 55 = .ok (.ireturn, 1) := by decide +kernel
theorem pn4 : plainName "com/example/gatewarden/gatewarden/core/UserKeywordEndInPinLaw" = true := by first | (simp [plainName, overriddenIn]; done) | decide +kernel
theorem ef1 (m : MethodId) (x0 : Int64) : entryFrame m #[(.long x0)] 3 = mkF m 0 #[.val (.long x0), .second, .unset] [] := by first | (simp [entryFrame, mkF, argsToLocals, Value.category]; done) | rfl
def fn1 (q0 : Int64) (w1 w2 w3 : Addr) (G1 : Int32) (sf : Value) : Int32 := if ((q0 &&& (7 : Int64)).toInt32) = (0 : Int32) then (nar .char (97 : Int32)) else if ((q0 &&& (7 : Int64)).toInt32) = (1 : Int32) then (nar .char (46 : Int32)) else if ((q0 &&& (7 : Int64)).toInt32) = (2 : Int32) then (nar .char (64 : Int32)) else if ((q0 &&& (7 : Int64)).toInt32) = (3 : Int32) then (nar .char (95 : Int32)) else if ((q0 &&& (7 : Int64)).toInt32) = (4 : Int32) then (nar .char (98 : Int32)) else (nar .char ((((sR q0 (3 : Int32)) &&& (255 : Int64)).toInt32).toUInt32.toUInt16.toUInt32.toInt32))
def Q1 (Z : State) (q0 : Int64) (w1 w2 w3 : Addr) (G1 : Int32) (sf : Value) (h0 : Heap) (n0 : Nat) (v : Option Value) (h : Heap) (L : List Loc) : Prop := v = some (.int (fn1 q0 w1 w2 w3 G1 sf)) ∧ Fr n0 L ∧ h = h0
theorem rm1 (l : Launch) (Z : State) (a0' : Array Value) (hw : ∀ d ∈ tables_1, d.before a0' Z = true) (ws : List Jvm.Cond) (q0 : Int64) (w1 w2 w3 : Addr) (G1 : Int32) (sf : Value) (h0 : Heap) (n0 : Nat) (O : Old Z n0 h0) (W : Wd Z w1 w2 w3 G1 sf) :
    MetFree l mq12 (head1 (Jvm.Cond.code mq12 method_2_code 3 (some .char) :: ws) ({ frames := 0, cells := 0, slots := 0, locals := 0 } : Room)) (fun a U => a = #[(.long q0)] ∧ Z.Warmed39 U.vm ∧ U.heap = h0) (fun _ _ _ _ _ => True) (fun _ U o U' => ∃ v L, o = .returned v ∧ Q1 Z q0 w1 w2 w3 G1 sf h0 n0 v U'.heap L ∧ FrameEnd U o U' L ({ frames := 0, cells := 0, slots := 0, locals := 0 } : Room).cells ({ frames := 0, cells := 0, slots := 0, locals := 0 } : Room).slots) := by
  refine MetFree.of_bodySF (plainFor_of_name pn4) hisR ?_
  intro p e s m args below meth c s₁ Bd hml0 hP hK
  obtain ⟨rfl, hZ, hh⟩ := hP
  have hx := Bd.exec
  have hby := Bd.bytes
  have hml : c.maxLocals = 3 := hml0
  have hown : s.vm.findClass "com/example/gatewarden/gatewarden/core/UserKeywordEndInPinLaw" = some m.cls := findClass_of_methodNamed Bd.named
  have hnm := (name_of_methodNamed Bd.named Bd.method).1
  have hk := Bd.notSynchronized
  have X0 : Stand p l e ({ frames := 0, cells := 0, slots := 0, locals := 0 } : Room) s m #[(.long q0)] below meth c s₁ [] 0 0 := Stand.of_body Bd
  have hh2 := hh
  have e0 : s₁.heap = h0 := by rw [← hh, Bd.state]; rfl
  have N0 := Fr.nil n0
  show Gl p e below (Pos 0 0 (Q1 Z q0 w1 w2 w3 G1 sf h0 n0) s) s₁ _
  refine Gl.cast (ef1 m q0) ?_
  refine gb (mkF m 1 #[vj q0, .second, .unset] [(.long q0)]) (fun _ k => XS.lloadN X0.here hx rfl (hb hby d1_0) rfl k) ?_
  refine gb (mkF m 4 #[vj q0, .second, .unset] [(.long (7 : Int64)), (.long q0)]) (X0.ldc2Long hx hown (mvT hZ (hW hw 5 rfl)) (g := (mkF m 1 #[vj q0, .second, .unset] [(.long q0)])) rfl (hb hby d1_1)) ?_
  refine gb (mkF m 5 #[vj q0, .second, .unset] [(.long (q0 &&& (7 : Int64)))]) (fun _ k => XS.land X0.here hx rfl (hb hby d1_4) rfl k) ?_
  refine gb (mkF m 6 #[vj q0, .second, .unset] [(.int ((q0 &&& (7 : Int64)).toInt32))]) (fun _ k => XS.l2i X0.here hx rfl (hb hby d1_5) rfl k) ?_
  refine gb (mkF m 7 #[vj q0, .second, vi ((q0 &&& (7 : Int64)).toInt32)] []) (fun _ k => XS.istoreN X0.here hx rfl (hb hby d1_6) rfl (l' := #[vj q0, .second, vi ((q0 &&& (7 : Int64)).toInt32)]) rfl k) ?_
  refine gb (mkF m 8 #[vj q0, .second, vi ((q0 &&& (7 : Int64)).toInt32)] [(.int ((q0 &&& (7 : Int64)).toInt32))]) (fun _ k => XS.iloadN X0.here hx rfl (hb hby d1_7) rfl k) ?_
  by_cases hf1 : ((q0 &&& (7 : Int64)).toInt32) = (0 : Int32)
  · refine gb (mkF m 11 #[vj q0, .second, vi ((q0 &&& (7 : Int64)).toInt32)] []) (fun _ k => XS.ifNo X0.here hx rfl (hb hby d1_8) rfl ((if0 _ _).trans (teq hf1).2) k) ?_
    refine gb (mkF m 13 #[vj q0, .second, vi ((q0 &&& (7 : Int64)).toInt32)] [(.int 97)]) (fun _ k => XS.bipush X0.here hx rfl (hb hby d1_11) k) ?_
    exact Gl.outN X0 hx hk (t := .char) Bd.returns (by simp) (hb hby d1_13) ⟨(congrArg (fun z => some (Value.int z)) (show nar .char (97 : Int32) = fn1 q0 w1 w2 w3 G1 sf by unfold fn1; rw [if_pos hf1]; try rfl)), N0, e0⟩ (by decide) (by decide)
  · refine gb (mkF m 14 #[vj q0, .second, vi ((q0 &&& (7 : Int64)).toInt32)] []) (fun _ k => XS.ifYes X0.here hx rfl (pc0 := 8) (pc' := 14) rfl (hb hby d1_8) rfl ((if0 _ _).trans (feq hf1).2) (by decide) (by decide) k) ?_
    refine gb (mkF m 15 #[vj q0, .second, vi ((q0 &&& (7 : Int64)).toInt32)] [(.int ((q0 &&& (7 : Int64)).toInt32))]) (fun _ k => XS.iloadN X0.here hx rfl (hb hby d1_14) rfl k) ?_
    refine gb (mkF m 16 #[vj q0, .second, vi ((q0 &&& (7 : Int64)).toInt32)] [(.int 1), (.int ((q0 &&& (7 : Int64)).toInt32))]) (fun _ k => XS.iconst X0.here hx rfl (hb hby d1_15) k) ?_
    by_cases hf2 : ((q0 &&& (7 : Int64)).toInt32) = (1 : Int32)
    · refine gb (mkF m 19 #[vj q0, .second, vi ((q0 &&& (7 : Int64)).toInt32)] []) (fun _ k => XS.icmpNo X0.here hx rfl (hb hby d1_16) rfl (teq hf2).2 k) ?_
      refine gb (mkF m 21 #[vj q0, .second, vi ((q0 &&& (7 : Int64)).toInt32)] [(.int 46)]) (fun _ k => XS.bipush X0.here hx rfl (hb hby d1_19) k) ?_
      exact Gl.outN X0 hx hk (t := .char) Bd.returns (by simp) (hb hby d1_21) ⟨(congrArg (fun z => some (Value.int z)) (show nar .char (46 : Int32) = fn1 q0 w1 w2 w3 G1 sf by unfold fn1; rw [if_neg hf1, if_pos hf2]; try rfl)), N0, e0⟩ (by decide) (by decide)
    · refine gb (mkF m 22 #[vj q0, .second, vi ((q0 &&& (7 : Int64)).toInt32)] []) (fun _ k => XS.icmpYes X0.here hx rfl (pc0 := 16) (pc' := 22) rfl (hb hby d1_16) rfl (feq hf2).2 (by decide) (by decide) k) ?_
      refine gb (mkF m 23 #[vj q0, .second, vi ((q0 &&& (7 : Int64)).toInt32)] [(.int ((q0 &&& (7 : Int64)).toInt32))]) (fun _ k => XS.iloadN X0.here hx rfl (hb hby d1_22) rfl k) ?_
      refine gb (mkF m 24 #[vj q0, .second, vi ((q0 &&& (7 : Int64)).toInt32)] [(.int 2), (.int ((q0 &&& (7 : Int64)).toInt32))]) (fun _ k => XS.iconst X0.here hx rfl (hb hby d1_23) k) ?_
      by_cases hf3 : ((q0 &&& (7 : Int64)).toInt32) = (2 : Int32)
      · refine gb (mkF m 27 #[vj q0, .second, vi ((q0 &&& (7 : Int64)).toInt32)] []) (fun _ k => XS.icmpNo X0.here hx rfl (hb hby d1_24) rfl (teq hf3).2 k) ?_
        refine gb (mkF m 29 #[vj q0, .second, vi ((q0 &&& (7 : Int64)).toInt32)] [(.int 64)]) (fun _ k => XS.bipush X0.here hx rfl (hb hby d1_27) k) ?_
        exact Gl.outN X0 hx hk (t := .char) Bd.returns (by simp) (hb hby d1_29) ⟨(congrArg (fun z => some (Value.int z)) (show nar .char (64 : Int32) = fn1 q0 w1 w2 w3 G1 sf by unfold fn1; rw [if_neg hf1, if_neg hf2, if_pos hf3]; try rfl)), N0, e0⟩ (by decide) (by decide)
      · refine gb (mkF m 30 #[vj q0, .second, vi ((q0 &&& (7 : Int64)).toInt32)] []) (fun _ k => XS.icmpYes X0.here hx rfl (pc0 := 24) (pc' := 30) rfl (hb hby d1_24) rfl (feq hf3).2 (by decide) (by decide) k) ?_
        refine gb (mkF m 31 #[vj q0, .second, vi ((q0 &&& (7 : Int64)).toInt32)] [(.int ((q0 &&& (7 : Int64)).toInt32))]) (fun _ k => XS.iloadN X0.here hx rfl (hb hby d1_30) rfl k) ?_
        refine gb (mkF m 32 #[vj q0, .second, vi ((q0 &&& (7 : Int64)).toInt32)] [(.int 3), (.int ((q0 &&& (7 : Int64)).toInt32))]) (fun _ k => XS.iconst X0.here hx rfl (hb hby d1_31) k) ?_
        by_cases hf4 : ((q0 &&& (7 : Int64)).toInt32) = (3 : Int32)
        · refine gb (mkF m 35 #[vj q0, .second, vi ((q0 &&& (7 : Int64)).toInt32)] []) (fun _ k => XS.icmpNo X0.here hx rfl (hb hby d1_32) rfl (teq hf4).2 k) ?_
          refine gb (mkF m 37 #[vj q0, .second, vi ((q0 &&& (7 : Int64)).toInt32)] [(.int 95)]) (fun _ k => XS.bipush X0.here hx rfl (hb hby d1_35) k) ?_
          exact Gl.outN X0 hx hk (t := .char) Bd.returns (by simp) (hb hby d1_37) ⟨(congrArg (fun z => some (Value.int z)) (show nar .char (95 : Int32) = fn1 q0 w1 w2 w3 G1 sf by unfold fn1; rw [if_neg hf1, if_neg hf2, if_neg hf3, if_pos hf4]; try rfl)), N0, e0⟩ (by decide) (by decide)
        · refine gb (mkF m 38 #[vj q0, .second, vi ((q0 &&& (7 : Int64)).toInt32)] []) (fun _ k => XS.icmpYes X0.here hx rfl (pc0 := 32) (pc' := 38) rfl (hb hby d1_32) rfl (feq hf4).2 (by decide) (by decide) k) ?_
          refine gb (mkF m 39 #[vj q0, .second, vi ((q0 &&& (7 : Int64)).toInt32)] [(.int ((q0 &&& (7 : Int64)).toInt32))]) (fun _ k => XS.iloadN X0.here hx rfl (hb hby d1_38) rfl k) ?_
          refine gb (mkF m 40 #[vj q0, .second, vi ((q0 &&& (7 : Int64)).toInt32)] [(.int 4), (.int ((q0 &&& (7 : Int64)).toInt32))]) (fun _ k => XS.iconst X0.here hx rfl (hb hby d1_39) k) ?_
          by_cases hf5 : ((q0 &&& (7 : Int64)).toInt32) = (4 : Int32)
          · refine gb (mkF m 43 #[vj q0, .second, vi ((q0 &&& (7 : Int64)).toInt32)] []) (fun _ k => XS.icmpNo X0.here hx rfl (hb hby d1_40) rfl (teq hf5).2 k) ?_
            refine gb (mkF m 45 #[vj q0, .second, vi ((q0 &&& (7 : Int64)).toInt32)] [(.int 98)]) (fun _ k => XS.bipush X0.here hx rfl (hb hby d1_43) k) ?_
            exact Gl.outN X0 hx hk (t := .char) Bd.returns (by simp) (hb hby d1_45) ⟨(congrArg (fun z => some (Value.int z)) (show nar .char (98 : Int32) = fn1 q0 w1 w2 w3 G1 sf by unfold fn1; rw [if_neg hf1, if_neg hf2, if_neg hf3, if_neg hf4, if_pos hf5]; try rfl)), N0, e0⟩ (by decide) (by decide)
          · refine gb (mkF m 46 #[vj q0, .second, vi ((q0 &&& (7 : Int64)).toInt32)] []) (fun _ k => XS.icmpYes X0.here hx rfl (pc0 := 40) (pc' := 46) rfl (hb hby d1_40) rfl (feq hf5).2 (by decide) (by decide) k) ?_
            refine gb (mkF m 47 #[vj q0, .second, vi ((q0 &&& (7 : Int64)).toInt32)] [(.long q0)]) (fun _ k => XS.lloadN X0.here hx rfl (hb hby d1_46) rfl k) ?_
            refine gb (mkF m 48 #[vj q0, .second, vi ((q0 &&& (7 : Int64)).toInt32)] [(.int 3), (.long q0)]) (fun _ k => XS.iconst X0.here hx rfl (hb hby d1_47) k) ?_
            refine gb (mkF m 49 #[vj q0, .second, vi ((q0 &&& (7 : Int64)).toInt32)] [(.long (sR q0 (3 : Int32)))]) (fun _ k => XS.lushr X0.here hx rfl (hb hby d1_48) rfl k) ?_
            refine gb (mkF m 52 #[vj q0, .second, vi ((q0 &&& (7 : Int64)).toInt32)] [(.long (255 : Int64)), (.long (sR q0 (3 : Int32)))]) (X0.ldc2Long hx hown (mvT hZ (hW hw 6 rfl)) (g := (mkF m 49 #[vj q0, .second, vi ((q0 &&& (7 : Int64)).toInt32)] [(.long (sR q0 (3 : Int32)))])) rfl (hb hby d1_49)) ?_
            refine gb (mkF m 53 #[vj q0, .second, vi ((q0 &&& (7 : Int64)).toInt32)] [(.long ((sR q0 (3 : Int32)) &&& (255 : Int64)))]) (fun _ k => XS.land X0.here hx rfl (hb hby d1_52) rfl k) ?_
            refine gb (mkF m 54 #[vj q0, .second, vi ((q0 &&& (7 : Int64)).toInt32)] [(.int (((sR q0 (3 : Int32)) &&& (255 : Int64)).toInt32))]) (fun _ k => XS.l2i X0.here hx rfl (hb hby d1_53) rfl k) ?_
            refine gb (mkF m 55 #[vj q0, .second, vi ((q0 &&& (7 : Int64)).toInt32)] [(.int ((((sR q0 (3 : Int32)) &&& (255 : Int64)).toInt32).toUInt32.toUInt16.toUInt32.toInt32))]) (fun _ k => XS.i2c X0.here hx rfl (hb hby d1_54) rfl k) ?_
            exact Gl.outN X0 hx hk (t := .char) Bd.returns (by simp) (hb hby d1_55) ⟨(congrArg (fun z => some (Value.int z)) (show nar .char ((((sR q0 (3 : Int32)) &&& (255 : Int64)).toInt32).toUInt32.toUInt16.toUInt32.toInt32) = fn1 q0 w1 w2 w3 G1 sf by unfold fn1; rw [if_neg hf1, if_neg hf2, if_neg hf3, if_neg hf4, if_neg hf5]; try rfl)), N0, e0⟩ (by decide) (by decide)
theorem d23_0 : decode method_4_code 0 = .ok (.iload_n 0, 1) := by decide +kernel
theorem d23_1 : decode method_4_code 1 = .ok (.bipush 46, 2) := by decide +kernel
theorem d23_3 : decode method_4_code 3 = .ok (.if_icmp .eq 9, 3) := by decide +kernel
theorem d23_6 : decode method_4_code 6 = .ok (.iload_n 0, 1) := by decide +kernel
theorem d23_7 : decode method_4_code 7 = .ok (.bipush 64, 2) := by decide +kernel
theorem d23_9 : decode method_4_code 9 = .ok (.if_icmp .ne 8, 3) := by decide +kernel
theorem d23_12 : decode method_4_code 12 = .ok (.bipush 95, 2) := by decide +kernel
theorem d23_14 : decode method_4_code 14 = .ok (.goto 4, 3) := by decide +kernel
theorem d23_17 : decode method_4_code 17 = .ok (.iload_n 0, 1) := by decide +kernel
theorem d23_18 : decode method_4_code 18 = .ok (.ireturn, 1) := by decide +kernel
theorem ef23 (m : MethodId) (x0 : Int32) : entryFrame m #[(.int x0)] 1 = mkF m 0 #[.val (.int x0)] [] := by first | (simp [entryFrame, mkF, argsToLocals, Value.category]; done) | rfl
def fn23 (p0 : Int32) (w1 w2 w3 : Addr) (G1 : Int32) (sf : Value) : Int32 := if p0 = (46 : Int32) then (nar .char (95 : Int32)) else if p0 = (64 : Int32) then (nar .char (95 : Int32)) else (nar .char p0)
def Q23 (Z : State) (p0 : Int32) (w1 w2 w3 : Addr) (G1 : Int32) (sf : Value) (h0 : Heap) (n0 : Nat) (v : Option Value) (h : Heap) (L : List Loc) : Prop := v = some (.int (fn23 p0 w1 w2 w3 G1 sf)) ∧ Fr n0 L ∧ h = h0
theorem rm23 (l : Launch) (Z : State) (a0' : Array Value) (hw : ∀ d ∈ tables_1, d.before a0' Z = true) (ws : List Jvm.Cond) (p0 : Int32) (w1 w2 w3 : Addr) (G1 : Int32) (sf : Value) (h0 : Heap) (n0 : Nat) (O : Old Z n0 h0) (W : Wd Z w1 w2 w3 G1 sf) :
    MetFree l mq13 (head1 (Jvm.Cond.code mq13 method_4_code 1 (some .char) :: ws) ({ frames := 0, cells := 0, slots := 0, locals := 0 } : Room)) (fun a U => a = #[(.int p0)] ∧ Z.Warmed39 U.vm ∧ U.heap = h0) (fun _ _ _ _ _ => True) (fun _ U o U' => ∃ v L, o = .returned v ∧ Q23 Z p0 w1 w2 w3 G1 sf h0 n0 v U'.heap L ∧ FrameEnd U o U' L ({ frames := 0, cells := 0, slots := 0, locals := 0 } : Room).cells ({ frames := 0, cells := 0, slots := 0, locals := 0 } : Room).slots) := by
  refine MetFree.of_bodySF (plainFor_of_name pn4) hisR ?_
  intro p e s m args below meth c s₁ Bd hml0 hP hK
  obtain ⟨rfl, hZ, hh⟩ := hP
  have hx := Bd.exec
  have hby := Bd.bytes
  have hml : c.maxLocals = 1 := hml0
  have hown : s.vm.findClass "com/example/gatewarden/gatewarden/core/UserKeywordEndInPinLaw" = some m.cls := findClass_of_methodNamed Bd.named
  have hnm := (name_of_methodNamed Bd.named Bd.method).1
  have hk := Bd.notSynchronized
  have X0 : Stand p l e ({ frames := 0, cells := 0, slots := 0, locals := 0 } : Room) s m #[(.int p0)] below meth c s₁ [] 0 0 := Stand.of_body Bd
  have hh2 := hh
  have e0 : s₁.heap = h0 := by rw [← hh, Bd.state]; rfl
  have N0 := Fr.nil n0
  show Gl p e below (Pos 0 0 (Q23 Z p0 w1 w2 w3 G1 sf h0 n0) s) s₁ _
  refine Gl.cast (ef23 m p0) ?_
  refine gb (mkF m 1 #[vi p0] [(.int p0)]) (fun _ k => XS.iloadN X0.here hx rfl (hb hby d23_0) rfl k) ?_
  refine gb (mkF m 3 #[vi p0] [(.int 46), (.int p0)]) (fun _ k => XS.bipush X0.here hx rfl (hb hby d23_1) k) ?_
  by_cases hf1 : p0 = (46 : Int32)
  · refine gb (mkF m 12 #[vi p0] []) (fun _ k => XS.icmpYes X0.here hx rfl (pc0 := 3) (pc' := 12) rfl (hb hby d23_3) rfl (teq hf1).1 (by decide) (by decide) k) ?_
    refine gb (mkF m 14 #[vi p0] [(.int 95)]) (fun _ k => XS.bipush X0.here hx rfl (hb hby d23_12) k) ?_
    refine gb (mkF m 18 #[vi p0] [(.int 95)]) (fun _ k => XS.goto X0.here hx rfl (pc0 := 14) (pc' := 18) rfl (hb hby d23_14) (by decide) (by decide) k) ?_
    exact Gl.outN X0 hx hk (t := .char) Bd.returns (by simp) (hb hby d23_18) ⟨(congrArg (fun z => some (Value.int z)) (show nar .char (95 : Int32) = fn23 p0 w1 w2 w3 G1 sf by unfold fn23; rw [if_pos hf1]; try rfl)), N0, e0⟩ (by decide) (by decide)
  · refine gb (mkF m 6 #[vi p0] []) (fun _ k => XS.icmpNo X0.here hx rfl (hb hby d23_3) rfl (feq hf1).1 k) ?_
    refine gb (mkF m 7 #[vi p0] [(.int p0)]) (fun _ k => XS.iloadN X0.here hx rfl (hb hby d23_6) rfl k) ?_
    refine gb (mkF m 9 #[vi p0] [(.int 64), (.int p0)]) (fun _ k => XS.bipush X0.here hx rfl (hb hby d23_7) k) ?_
    by_cases hf2 : p0 = (64 : Int32)
    · refine gb (mkF m 12 #[vi p0] []) (fun _ k => XS.icmpNo X0.here hx rfl (hb hby d23_9) rfl (teq hf2).2 k) ?_
      refine gb (mkF m 14 #[vi p0] [(.int 95)]) (fun _ k => XS.bipush X0.here hx rfl (hb hby d23_12) k) ?_
      refine gb (mkF m 18 #[vi p0] [(.int 95)]) (fun _ k => XS.goto X0.here hx rfl (pc0 := 14) (pc' := 18) rfl (hb hby d23_14) (by decide) (by decide) k) ?_
      exact Gl.outN X0 hx hk (t := .char) Bd.returns (by simp) (hb hby d23_18) ⟨(congrArg (fun z => some (Value.int z)) (show nar .char (95 : Int32) = fn23 p0 w1 w2 w3 G1 sf by unfold fn23; rw [if_neg hf1, if_pos hf2]; try rfl)), N0, e0⟩ (by decide) (by decide)
    · refine gb (mkF m 17 #[vi p0] []) (fun _ k => XS.icmpYes X0.here hx rfl (pc0 := 9) (pc' := 17) rfl (hb hby d23_9) rfl (feq hf2).2 (by decide) (by decide) k) ?_
      refine gb (mkF m 18 #[vi p0] [(.int p0)]) (fun _ k => XS.iloadN X0.here hx rfl (hb hby d23_17) rfl k) ?_
      exact Gl.outN X0 hx hk (t := .char) Bd.returns (by simp) (hb hby d23_18) ⟨(congrArg (fun z => some (Value.int z)) (show nar .char p0 = fn23 p0 w1 w2 w3 G1 sf by unfold fn23; rw [if_neg hf1, if_neg hf2]; try rfl)), N0, e0⟩ (by decide) (by decide)
theorem d2_0 : decode method_3_code 0 = .ok (.iload_n 1, 1) := by decide +kernel
theorem d2_1 : decode method_3_code 1 = .ok (.ifCond .ne 14, 3) := by decide +kernel
theorem d2_4 : decode method_3_code 4 = .ok (.new 11, 3) := by decide +kernel
theorem d2_7 : decode method_3_code 7 = .ok (.dup, 1) := by decide +kernel
theorem d2_8 : decode method_3_code 8 = .ok (.iconst 0, 1) := by decide +kernel
theorem d2_9 : decode method_3_code 9 = .ok (.newarray .char, 2) := by decide +kernel
theorem d2_11 : decode method_3_code 11 = .ok (.invokespecial 13, 3) := by decide +kernel
theorem d2_14 : decode method_3_code 14 = .ok (.areturn, 1) := by decide +kernel
theorem d2_15 : decode method_3_code 15 = .ok (.iload_n 1, 1) := by decide +kernel
theorem d2_16 : decode method_3_code 16 = .ok (.iconst 1, 1) := by decide +kernel
theorem d2_17 : decode method_3_code 17 = .ok (.if_icmp .ne 20, 3) := by decide +kernel
theorem d2_20 : decode method_3_code 20 = .ok (.new 11, 3) := by decide +kernel
theorem d2_23 : decode method_3_code 23 = .ok (.dup, 1) := by decide +kernel
theorem d2_24 : decode method_3_code 24 = .ok (.iconst 1, 1) := by decide +kernel
theorem d2_25 : decode method_3_code 25 = .ok (.newarray .char, 2) := by decide +kernel
theorem d2_27 : decode method_3_code 27 = .ok (.dup, 1) := by decide +kernel
theorem d2_28 : decode method_3_code 28 = .ok (.iconst 0, 1) := by decide +kernel
theorem d2_29 : decode method_3_code 29 = .ok (.aload_n 0, 1) := by decide +kernel
theorem d2_30 : decode method_3_code 30 = .ok (.iconst 0, 1) := by decide +kernel
theorem d2_31 : decode method_3_code 31 = .ok (.caload, 1) := by decide +kernel
theorem d2_32 : decode method_3_code 32 = .ok (.castore, 1) := by decide +kernel
theorem d2_33 : decode method_3_code 33 = .ok (.invokespecial 13, 3) := by decide +kernel
theorem d2_36 : decode method_3_code 36 = .ok (.areturn, 1) := by decide +kernel
theorem d2_37 : decode method_3_code 37 = .ok (.iload_n 1, 1) := by decide +kernel
theorem d2_38 : decode method_3_code 38 = .ok (.iconst 2, 1) := by decide +kernel
theorem d2_39 : decode method_3_code 39 = .ok (.if_icmp .ne 26, 3) := by decide +kernel
theorem d2_42 : decode method_3_code 42 = .ok (.new 11, 3) := by decide +kernel
theorem d2_45 : decode method_3_code 45 = .ok (.dup, 1) := by decide +kernel
theorem d2_46 : decode method_3_code 46 = .ok (.iconst 2, 1) := by decide +kernel
theorem d2_47 : decode method_3_code 47 = .ok (.newarray .char, 2) := by decide +kernel
theorem d2_49 : decode method_3_code 49 = .ok (.dup, 1) := by decide +kernel
theorem d2_50 : decode method_3_code 50 = .ok (.iconst 0, 1) := by decide +kernel
theorem d2_51 : decode method_3_code 51 = .ok (.aload_n 0, 1) := by decide +kernel
theorem d2_52 : decode method_3_code 52 = .ok (.iconst 0, 1) := by decide +kernel
theorem d2_53 : decode method_3_code 53 = .ok (.caload, 1) := by decide +kernel
theorem d2_54 : decode method_3_code 54 = .ok (.castore, 1) := by decide +kernel
theorem d2_55 : decode method_3_code 55 = .ok (.dup, 1) := by decide +kernel
theorem d2_56 : decode method_3_code 56 = .ok (.iconst 1, 1) := by decide +kernel
theorem d2_57 : decode method_3_code 57 = .ok (.aload_n 0, 1) := by decide +kernel
theorem d2_58 : decode method_3_code 58 = .ok (.iconst 1, 1) := by decide +kernel
theorem d2_59 : decode method_3_code 59 = .ok (.caload, 1) := by decide +kernel
theorem d2_60 : decode method_3_code 60 = .ok (.castore, 1) := by decide +kernel
theorem d2_61 : decode method_3_code 61 = .ok (.invokespecial 13, 3) := by decide +kernel
theorem d2_64 : decode method_3_code 64 = .ok (.areturn, 1) := by decide +kernel
theorem d2_65 : decode method_3_code 65 = .ok (.iload_n 1, 1) := by decide +kernel
theorem d2_66 : decode method_3_code 66 = .ok (.iconst 3, 1) := by decide +kernel
theorem d2_67 : decode method_3_code 67 = .ok (.if_icmp .ne 32, 3) := by decide +kernel
theorem d2_70 : decode method_3_code 70 = .ok (.new 11, 3) := by decide +kernel
theorem d2_73 : decode method_3_code 73 = .ok (.dup, 1) := by decide +kernel
theorem d2_74 : decode method_3_code 74 = .ok (.iconst 3, 1) := by decide +kernel
theorem d2_75 : decode method_3_code 75 = .ok (.newarray .char, 2) := by decide +kernel
theorem d2_77 : decode method_3_code 77 = .ok (.dup, 1) := by decide +kernel
theorem d2_78 : decode method_3_code 78 = .ok (.iconst 0, 1) := by decide +kernel
theorem d2_79 : decode method_3_code 79 = .ok (.aload_n 0, 1) := by decide +kernel
theorem d2_80 : decode method_3_code 80 = .ok (.iconst 0, 1) := by decide +kernel
theorem d2_81 : decode method_3_code 81 = .ok (.caload, 1) := by decide +kernel
theorem d2_82 : decode method_3_code 82 = .ok (.castore, 1) := by decide +kernel
theorem d2_83 : decode method_3_code 83 = .ok (.dup, 1) := by decide +kernel
theorem d2_84 : decode method_3_code 84 = .ok (.iconst 1, 1) := by decide +kernel
theorem d2_85 : decode method_3_code 85 = .ok (.aload_n 0, 1) := by decide +kernel
theorem d2_86 : decode method_3_code 86 = .ok (.iconst 1, 1) := by decide +kernel
theorem d2_87 : decode method_3_code 87 = .ok (.caload, 1) := by decide +kernel
theorem d2_88 : decode method_3_code 88 = .ok (.castore, 1) := by decide +kernel
theorem d2_89 : decode method_3_code 89 = .ok (.dup, 1) := by decide +kernel
theorem d2_90 : decode method_3_code 90 = .ok (.iconst 2, 1) := by decide +kernel
theorem d2_91 : decode method_3_code 91 = .ok (.aload_n 0, 1) := by decide +kernel
theorem d2_92 : decode method_3_code 92 = .ok (.iconst 2, 1) := by decide +kernel
theorem d2_93 : decode method_3_code 93 = .ok (.caload, 1) := by decide +kernel
theorem d2_94 : decode method_3_code 94 = .ok (.castore, 1) := by decide +kernel
theorem d2_95 : decode method_3_code 95 = .ok (.invokespecial 13, 3) := by decide +kernel
theorem d2_98 : decode method_3_code 98 = .ok (.areturn, 1) := by decide +kernel
theorem pd264 : parseMethodDescriptor "([C)V" = some ⟨[(.array .char)], none⟩ := by decide +kernel
theorem ef2U (m : MethodId) (x0 : Addr) (x1 : Int32) : entryFrame m #[(.ref x0), (.int x1)] 2 = mkF m 0 #[.val (.ref x0), .val (.int x1)] [] := by first | (simp [entryFrame, mkF, argsToLocals, Value.category]; done) | rfl
def Q2U (Z : State) (a0 : Addr) (p1 : Int32) (ka : ClassId) (x0 : Int32) (x1 : Int32) (x2 : Int32) (w1 w2 w3 : Addr) (G1 : Int32) (sf : Value) (h0 : Heap) (n0 : Nat) (v : Option Value) (h : Heap) (L : List Loc) : Prop := ∃ (r : Addr), ∃ (b : Addr), ∃ (kb : ClassId), v = some (.ref r) ∧ Fr n0 L ∧ Keep h0 h [] ∧ Exa Z h r "java/lang/String" ∧ Fld Z h r "java/lang/String" "value" "[B" (.ref b) ∧ Fld Z h r "java/lang/String" "coder" "B" (.int 0) ∧ Arv Z h b kb .byte p1 ((stk p1 [x0, x1, x2]).map Value.int) (.int 0)
theorem rm2U (l : Launch) (Z : State) (a0' : Array Value) (hw : ∀ d ∈ tables_1, d.before a0' Z = true) (ws : List Jvm.Cond) (a0 : Addr) (p1 : Int32) (ka : ClassId) (x0 : Int32) (x1 : Int32) (x2 : Int32) (w1 w2 w3 : Addr) (G1 : Int32) (sf : Value) (h0 : Heap) (n0 : Nat) (O : Old Z n0 h0) (W : Wd Z w1 w2 w3 G1 sf) (pf0 : Arv Z h0 a0 ka .char (3 : Int32) [(.int x0), (.int x1), (.int x2)] (.int 0)) (hp : p1 = (0 : Int32) ∨ p1 = (1 : Int32) ∨ p1 = (2 : Int32) ∨ p1 = (3 : Int32)) (hx0 : ¬ (255 : Int32) < x0) (hx1 : ¬ (255 : Int32) < x1) (hx2 : ¬ (255 : Int32) < x2) (hc0 : nar .char x0 = x0) (hc1 : nar .char x1 = x1) (hc2 : nar .char x2 = x2) :
    MetFree l mq14 (head1 (Jvm.Cond.code mq14 method_3_code 2 (some (.object "java/lang/String")) :: ws) ({ frames := 4, cells := 6, slots := 12, locals := 66 } : Room)) (fun a U => a = #[(.ref a0), (.int p1)] ∧ Z.Warmed39 U.vm ∧ U.heap = h0 ∧ CHv Z EL0 U.vm h0 ∧ ∀ x ∈ ([] : List Addr), x < h0.size ∧ Safe Z EL0 U.vm h0 x) (fun _ _ _ _ _ => True) (fun _ U o U' => ∃ v L, o = .returned v ∧ Q2U Z a0 p1 ka x0 x1 x2 w1 w2 w3 G1 sf h0 n0 v U'.heap L ∧ CHr Z EL0 U.vm U.heap U'.vm U'.heap ∧ ReturnedEndW U o U' L ({ frames := 4, cells := 6, slots := 12, locals := 66 } : Room).cells ({ frames := 4, cells := 6, slots := 12, locals := 66 } : Room).slots) := by
  refine MetFree.of_bodySF (plainFor_of_name pn4) hisR ?_
  intro p e s m args below meth c s₁ Bd hml0 hP hK
  obtain ⟨rfl, hZ, hh, hCH, hSf⟩ := hP
  have hx := Bd.exec
  have hby := Bd.bytes
  have hml : c.maxLocals = 2 := hml0
  have hown : s.vm.findClass "com/example/gatewarden/gatewarden/core/UserKeywordEndInPinLaw" = some m.cls := findClass_of_methodNamed Bd.named
  have hnm := (name_of_methodNamed Bd.named Bd.method).1
  have hk := Bd.notSynchronized
  have X0 : Stand p l e ({ frames := 4, cells := 6, slots := 12, locals := 66 } : Room) (s.setVm s.vm) m #[(.ref a0), (.int p1)] below meth c s₁ [] 0 0 := Stand.of_body Bd
  have hS : s.Since s.vm h0.size := State.WarmedH.since (State.WarmedH.refl s) _
  have e0 : s₁.heap = h0 := by rw [← hh, Bd.state]; rfl
  have N0 := Fr.nil n0
  show Gl p e below (PosH Z EL0 6 12 (Q2U Z a0 p1 ka x0 x1 x2 w1 w2 w3 G1 sf h0 n0) s) s₁ _
  refine Gl.cast (ef2U m a0 p1) ?_
  refine gb (mkF m 1 #[vr a0, vi p1] [(.int p1)]) (fun _ k => XS.iloadN X0.here hx rfl (hb hby d2_0) rfl k) ?_
  by_cases hf1 : p1 = (0 : Int32)
  · refine gb (mkF m 4 #[vr a0, vi p1] []) (fun _ k => XS.ifNo X0.here hx rfl (hb hby d2_1) rfl ((if0 _ _).trans (teq hf1).2) k) ?_
    obtain ⟨T2, h2, X2, e2, E2, A2, D2, -, st2⟩ := newO X0 hx hZ hown (hW hw 10 rfl) (hW hw 11 rfl) (hW hw 12 rfl) e0 (g := (mkF m 4 #[vr a0, vi p1] [])) rfl (hb hby d2_4) (by decide) (by decide)
    obtain ⟨b2, g2⟩ : ∃ z, z = (h0).size := ⟨_, rfl⟩
    rw [← g2] at A2 D2 st2
    have gb2 : n0 ≤ b2 := Nat.le_trans (Nat.le_trans (Nat.le_of_eq O.1.symm) O.2.1) (Nat.le_of_eq g2.symm)
    have sb2 : h0.size ≤ b2 := Nat.le_trans (Keep.refl h0 []).1 (Nat.le_of_eq g2.symm)
    have ne2_0 : a0 ≠ b2 := Nat.ne_of_lt (Nat.lt_of_lt_of_le pf0.lt (Nat.le_of_eq g2.symm))
    have D2_value : Fld Z h2 b2 "java/lang/String" "value" "[B" .null := D2 (Or.inr (hW hw 25 rfl)) (ty := (.array .byte)) (by decide)
    have D2_coder : Fld Z h2 b2 "java/lang/String" "coder" "B" (.int 0) := D2 (Or.inr (hW hw 26 rfl)) (ty := .byte) (by decide)
    have Sb2 : Safe Z EL0 _ h2 b2 := Safe.ext E2 (CHr.refl hCH).1 (Safe.new (Nat.le_of_eq g2.symm))
    refine gb (mkF m 7 #[vr a0, vi p1] [(.ref b2)]) st2 ?_
    have Sy3 := CHr.ext E2 (CHr.refl hCH).1
    have CH3 := CHr.trans (CHr.refl hCH) Sy3
    refine gb (mkF m 8 #[vr a0, vi p1] [(.ref b2), (.ref b2)]) (fun _ k => XS.dup X2.here hx rfl (hb hby d2_7) rfl rfl k) ?_
    refine gb (mkF m 9 #[vr a0, vi p1] [(.int 0), (.ref b2), (.ref b2)]) (fun _ k => XS.iconst X2.here hx rfl (hb hby d2_8) k) ?_
    have O5 := (O.ext E2)
    have f6 := (Arv.ext pf0 E2)
    have K7 := ((Keep.refl h0 []).ext E2)
    obtain ⟨T4, h4, k4, X4, e4, E4, A4, st4⟩ := newP X2 hx hZ (hW hw 0 rfl) e2 (g := (mkF m 9 #[vr a0, vi p1] [(.int 0), (.ref b2), (.ref b2)])) rfl (hb hby d2_9) rfl (by decide) (cap := 0) (by decide) (by decide) (by decide) (by decide)
    obtain ⟨b4, g4⟩ : ∃ z, z = (h2).size := ⟨_, rfl⟩
    rw [← g4] at A4 st4
    have gb4 : n0 ≤ b4 := Nat.le_trans (Nat.le_trans (Nat.le_of_eq O5.1.symm) O5.2.1) (Nat.le_of_eq g4.symm)
    have sb4 : h0.size ≤ b4 := Nat.le_trans K7.1 (Nat.le_of_eq g4.symm)
    have ne4_2 : a0 ≠ b4 := Nat.ne_of_lt (Nat.lt_of_lt_of_le f6.lt (Nat.le_of_eq g4.symm))
    have ne4_4 : b2 ≠ b4 := Nat.ne_of_lt (Nat.lt_of_lt_of_le A2.lt (Nat.le_of_eq g4.symm))
    have V4 : Arv Z h4 b4 k4 .char (0 : Int32) [] (.int 0) := (Arv.new A4 (by decide)).pad (pad_rep [] (.int 0) 0)
    have Sb4 : Safe Z EL0 _ h4 b4 := Safe.ext E4 CH3.1 (Safe.new (Nat.le_of_eq g4.symm))
    refine gb (mkF m 11 #[vr a0, vi p1] [(.ref b4), (.ref b2), (.ref b2)]) st4 ?_
    have Sy8 := CHr.ext E4 CH3.1
    have CH8 := CHr.trans CH3 Sy8
    have Sf8_b2 := Sy8.safe A2.lt Sb2
    have f10 := (Exa.ext E4 A2)
    have f11 := (Fld.ext E4 D2_value)
    have f12 := (Fld.ext E4 D2_coder)
    have O13 := (O5.ext E4)
    obtain ⟨_, _, ⟨T9, L9, k9, n9⟩, -, X9, hS9, hg9, ⟨Lc9, hQ9, l9, y9, z9, Sc9⟩, st9⟩ := X4.specialBackS hx (y := mq11) rfl hown (mvT hZ (hW hw 13 rfl)) (mvT hZ (hW hw 14 rfl)) (mvT hZ (hW hw 15 rfl)) (by decide) (backOfSX (W := 1) (rm3k0 l Z a0' hw [] b2 b4 k4 w1 w2 w3 G1 sf h4 n0 O13 W f10 f11 f12 gb2 V4) hZ (hW hw 15 rfl) (hW hw 12 rfl) (by decide) (by decide) (hEL0 hw) CH8.1 (allS ⟨(Nat.lt_of_lt_of_le A2.lt Sy8.2.1), Sf8_b2⟩ all0)) (g := (mkF m 11 #[vr a0, vi p1] [(.ref b4), (.ref b2), (.ref b2)])) rfl (by rw [hml]; rfl) (Steps.refl _) (a := b2) (argsL := [(.ref b4)]) (rest := [(.ref b2)]) (lenOf pd264 rfl) rfl (Nat.le_of_eq rfl) (hb hby d2_11) (fun _ _ => ⟨rfl, e4, (by decide : 2 + 4 ≤ _), (by decide : 4 + 8 ≤ _)⟩)
    dsimp only [Pt.U, Pt.locs, Pt.cells, Pt.slots] at X9 l9 y9 z9 st9 hQ9 Sc9
    subst l9 y9 z9
    have sz14 := (Nat.le_trans (Nat.le_trans (Nat.le_refl h0.size) E2.1) E4.1)
    obtain ⟨X9, hS, hZ, hown⟩ := rebS hS (by rw [e4]; exact sz14) X9 hS9 hg9 hZ hown
    obtain ⟨b_9, kb_9, rfl, N9q, Kc9, fc9_0, fc9_1, fc9_2⟩ := hQ9
    have N9 := Fr.app N0 N9q
    refine gb (mkF m 14 #[vr a0, vi p1] [(.ref b2)]) (fun _ k => st9.trans k) ?_
    have CH15 := CHr.trans CH8 Sc9
    have Sf15_b2 := Sc9.safe (Nat.lt_of_lt_of_le A2.lt Sy8.2.1) Sf8_b2
    have Sf15_b4 := Sc9.safe V4.lt Sb4
    have K16 := ((K7.ext E4).trans Kc9 (allS (Or.inr sb2) all0))
    have f17 := (Exa.keep f10 Kc9)
    have hC18 := CHr.trans CH15 (CHv.at X9 hZ (hEL0 hw) CH15.1)
    exact Gl.outAH X9 hS (Nat.le_refl _) hx hk Bd.returns rfl rfl (hb hby d2_14) ⟨b2, b_9, kb_9, rfl, N9, K16, f17, fc9_0, fc9_1, (stkA (l := [x0, x1, x2]) hf1 (by decide : (0 : Int32).toNatClampNeg = 0) fc9_2)⟩ (by rw [hh]; exact hC18) (by decide) (by decide)
  · refine gb (mkF m 15 #[vr a0, vi p1] []) (fun _ k => XS.ifYes X0.here hx rfl (pc0 := 1) (pc' := 15) rfl (hb hby d2_1) rfl ((if0 _ _).trans (feq hf1).2) (by decide) (by decide) k) ?_
    refine gb (mkF m 16 #[vr a0, vi p1] [(.int p1)]) (fun _ k => XS.iloadN X0.here hx rfl (hb hby d2_15) rfl k) ?_
    refine gb (mkF m 17 #[vr a0, vi p1] [(.int 1), (.int p1)]) (fun _ k => XS.iconst X0.here hx rfl (hb hby d2_16) k) ?_
    by_cases hf19 : p1 = (1 : Int32)
    · refine gb (mkF m 20 #[vr a0, vi p1] []) (fun _ k => XS.icmpNo X0.here hx rfl (hb hby d2_17) rfl (teq hf19).2 k) ?_
      obtain ⟨T20, h20, X20, e20, E20, A20, D20, -, st20⟩ := newO X0 hx hZ hown (hW hw 10 rfl) (hW hw 11 rfl) (hW hw 12 rfl) e0 (g := (mkF m 20 #[vr a0, vi p1] [])) rfl (hb hby d2_20) (by decide) (by decide)
      obtain ⟨b20, g20⟩ : ∃ z, z = (h0).size := ⟨_, rfl⟩
      rw [← g20] at A20 D20 st20
      have gb20 : n0 ≤ b20 := Nat.le_trans (Nat.le_trans (Nat.le_of_eq O.1.symm) O.2.1) (Nat.le_of_eq g20.symm)
      have sb20 : h0.size ≤ b20 := Nat.le_trans (Keep.refl h0 []).1 (Nat.le_of_eq g20.symm)
      have ne20_0 : a0 ≠ b20 := Nat.ne_of_lt (Nat.lt_of_lt_of_le pf0.lt (Nat.le_of_eq g20.symm))
      have D20_value : Fld Z h20 b20 "java/lang/String" "value" "[B" .null := D20 (Or.inr (hW hw 25 rfl)) (ty := (.array .byte)) (by decide)
      have D20_coder : Fld Z h20 b20 "java/lang/String" "coder" "B" (.int 0) := D20 (Or.inr (hW hw 26 rfl)) (ty := .byte) (by decide)
      have Sb20 : Safe Z EL0 _ h20 b20 := Safe.ext E20 (CHr.refl hCH).1 (Safe.new (Nat.le_of_eq g20.symm))
      refine gb (mkF m 23 #[vr a0, vi p1] [(.ref b20)]) st20 ?_
      have Sy21 := CHr.ext E20 (CHr.refl hCH).1
      have CH21 := CHr.trans (CHr.refl hCH) Sy21
      refine gb (mkF m 24 #[vr a0, vi p1] [(.ref b20), (.ref b20)]) (fun _ k => XS.dup X20.here hx rfl (hb hby d2_23) rfl rfl k) ?_
      refine gb (mkF m 25 #[vr a0, vi p1] [(.int 1), (.ref b20), (.ref b20)]) (fun _ k => XS.iconst X20.here hx rfl (hb hby d2_24) k) ?_
      have O23 := (O.ext E20)
      have f24 := (Arv.ext pf0 E20)
      have K25 := ((Keep.refl h0 []).ext E20)
      obtain ⟨T22, h22, k22, X22, e22, E22, A22, st22⟩ := newP X20 hx hZ (hW hw 0 rfl) e20 (g := (mkF m 25 #[vr a0, vi p1] [(.int 1), (.ref b20), (.ref b20)])) rfl (hb hby d2_25) rfl (by decide) (cap := 1) (by decide) (by decide) (by decide) (by decide)
      obtain ⟨b22, g22⟩ : ∃ z, z = (h20).size := ⟨_, rfl⟩
      rw [← g22] at A22 st22
      have gb22 : n0 ≤ b22 := Nat.le_trans (Nat.le_trans (Nat.le_of_eq O23.1.symm) O23.2.1) (Nat.le_of_eq g22.symm)
      have sb22 : h0.size ≤ b22 := Nat.le_trans K25.1 (Nat.le_of_eq g22.symm)
      have ne22_2 : a0 ≠ b22 := Nat.ne_of_lt (Nat.lt_of_lt_of_le f24.lt (Nat.le_of_eq g22.symm))
      have ne22_4 : b20 ≠ b22 := Nat.ne_of_lt (Nat.lt_of_lt_of_le A20.lt (Nat.le_of_eq g22.symm))
      have V22 : Arv Z h22 b22 k22 .char (1 : Int32) [(.int 0)] (.int 0) := (Arv.new A22 (by decide)).pad (pad_rep [] (.int 0) 1)
      have Sb22 : Safe Z EL0 _ h22 b22 := Safe.ext E22 CH21.1 (Safe.new (Nat.le_of_eq g22.symm))
      refine gb (mkF m 27 #[vr a0, vi p1] [(.ref b22), (.ref b20), (.ref b20)]) st22 ?_
      have Sy26 := CHr.ext E22 CH21.1
      have CH26 := CHr.trans CH21 Sy26
      have Sf26_b20 := Sy26.safe A20.lt Sb20
      refine gb (mkF m 28 #[vr a0, vi p1] [(.ref b22), (.ref b22), (.ref b20), (.ref b20)]) (fun _ k => XS.dup X22.here hx rfl (hb hby d2_27) rfl rfl k) ?_
      refine gb (mkF m 29 #[vr a0, vi p1] [(.int 0), (.ref b22), (.ref b22), (.ref b20), (.ref b20)]) (fun _ k => XS.iconst X22.here hx rfl (hb hby d2_28) k) ?_
      refine gb (mkF m 30 #[vr a0, vi p1] [(.ref a0), (.int 0), (.ref b22), (.ref b22), (.ref b20), (.ref b20)]) (fun _ k => XS.aloadN X22.here hx rfl (hb hby d2_29) rfl rfl k) ?_
      refine gb (mkF m 31 #[vr a0, vi p1] [(.int 0), (.ref a0), (.int 0), (.ref b22), (.ref b22), (.ref b20), (.ref b20)]) (fun _ k => XS.iconst X22.here hx rfl (hb hby d2_30) k) ?_
      have f27 := (Arv.ext f24 E22)
      obtain ⟨cl28, Ar28, qa28, Sa28, Na28, Ha28, Ga28⟩ := id f27
      have hin29 : ¬ ((0 : Int32) < 0 ∨ cl28.slots.size ≤ ((0 : Int32)).toNatClampNeg) := inb_of Sa28 ⟨by decide, by decide⟩
      refine gb (mkF m 32 #[vr a0, vi p1] [(.int x0), (.int 0), (.ref b22), (.ref b22), (.ref b20), (.ref b20)]) (X22.caload hx (j := (0 : Int32)) (v := (.int x0)) (by rw [e22]; exact Ar28.1) (State.isArrayOf_alike hZ.alike Ar28.2.1) Ar28.2.2 hin29 (Has.at Ha28 hin29 rfl) (g := (mkF m 31 #[vr a0, vi p1] [(.int 0), (.ref a0), (.int 0), (.ref b22), (.ref b22), (.ref b20), (.ref b20)])) rfl rfl (hb hby d2_31)) ?_
      obtain ⟨cl30, Ar30, qa30, Sa30, Na30, Ha30, Ga30⟩ := id V22
      have hin31 : ¬ ((0 : Int32) < 0 ∨ cl30.slots.size ≤ ((0 : Int32)).toNatClampNeg) := inb_of Sa30 ⟨by decide, by decide⟩
      obtain ⟨T31, h31, X31, e31, W31, st31⟩ := stC X22 hx hZ e22 Ar30 (j := (0 : Int32)) hin31 (g := (mkF m 32 #[vr a0, vi p1] [(.int x0), (.int 0), (.ref b22), (.ref b22), (.ref b20), (.ref b20)])) rfl rfl (hb hby d2_32)
      have V31 : Arv Z h31 b22 k22 .char (1 : Int32) [(.int (nar .char x0))] (.int 0) := Arv.set Ar30 qa30 Sa30 Na30 Ha30 Ga30 (fits_nar_char _) W31 0 rfl (Nat.le_of_ble_eq_true rfl)
      have N31 := Fr.snoc X31 N0 gb22
      refine gb (mkF m 33 #[vr a0, vi p1] [(.ref b22), (.ref b20), (.ref b20)]) st31 ?_
      have Sy32 := CHr.wr W31 Sb22 CH26.1
      have CH32 := CHr.trans CH26 Sy32
      have Sf32_b20 := Sy32.safe (Nat.lt_of_lt_of_le A20.lt Sy26.2.1) Sf26_b20
      have Sf32_b22 := Sy32.safe V22.lt Sb22
      have f34 := (Exa.wr W31 (Exa.ext E22 A20))
      have f35 := (Fld.other W31 (Fld.ext E22 D20_value) (Or.inl ne22_4))
      have f36 := (Fld.other W31 (Fld.ext E22 D20_coder) (Or.inl ne22_4))
      have O37 := ((O23.ext E22).wr W31 gb22)
      obtain ⟨_, _, ⟨T33, L33, k33, n33⟩, -, X33, ⟨Lc33, hQ33, l33, y33, z33⟩, st33⟩ := X31.specialBack hx (y := mq11) rfl hown (mvT hZ (hW hw 13 rfl)) (mvT hZ (hW hw 14 rfl)) (mvT hZ (hW hw 15 rfl)) (by decide) (backOf (W := 1) (rm3k1 l Z a0' hw [] b20 b22 k22 (nar .char x0) w1 w2 w3 G1 sf h31 n0 O37 W f34 f35 f36 gb20 V31 (by rw [hc0]; exact hx0)) hZ (hW hw 15 rfl) (hW hw 12 rfl) (by decide) (by decide)) (g := (mkF m 33 #[vr a0, vi p1] [(.ref b22), (.ref b20), (.ref b20)])) rfl (by rw [hml]; rfl) (Steps.refl _) (a := b20) (argsL := [(.ref b22)]) (rest := [(.ref b20)]) (lenOf pd264 rfl) rfl (Nat.le_of_eq rfl) (hb hby d2_33) (fun _ _ => ⟨rfl, e31, (by decide : 2 + 1 ≤ _), (by decide : 5 + 1 ≤ _)⟩)
      dsimp only [Pt.U, Pt.locs, Pt.cells, Pt.slots] at X33 l33 y33 z33 st33 hQ33
      subst l33 y33 z33
      obtain ⟨b_33, kb_33, rfl, N33q, Kc33, fc33_0, fc33_1, fc33_2⟩ := hQ33
      have N33 := Fr.app N31 N33q
      refine gb (mkF m 36 #[vr a0, vi p1] [(.ref b20)]) (fun _ k => st33.trans k) ?_
      have Sy38 := CHr.keep Kc33 (allS Sf32_b20 all0) CH32.1
      have CH38 := CHr.trans CH32 Sy38
      have Sf38_b20 := Sy38.safe (Nat.lt_of_lt_of_le (Nat.lt_of_lt_of_le A20.lt Sy26.2.1) Sy32.2.1) Sf32_b20
      have Sf38_b22 := Sy38.safe (Nat.lt_of_lt_of_le V22.lt Sy32.2.1) Sf32_b22
      have sz39 := (Nat.le_trans (Nat.le_trans (Nat.le_trans (Nat.le_trans (Nat.le_refl h0.size) E20.1) E22.1) (Nat.le_of_eq W31.size.symm)) Kc33.1)
      have K40 := (((K25.ext E22).wr W31 (Or.inr sb22)).trans Kc33 (allS (Or.inr sb20) all0))
      have f41 := (Exa.keep f34 Kc33)
      have hC42 := CHr.trans CH38 (CHv.at X33 hZ (hEL0 hw) CH38.1)
      exact Gl.outAH X33 hS sz39 hx hk Bd.returns rfl rfl (hb hby d2_36) ⟨b20, b_33, kb_33, rfl, N33, K40, f41, fc33_0, fc33_1, (stkA (l := [x0, x1, x2]) hf19 (by decide : (1 : Int32).toNatClampNeg = 1) fc33_2)⟩ (by rw [hh]; exact hC42) (by decide) (by decide)
    · refine gb (mkF m 37 #[vr a0, vi p1] []) (fun _ k => XS.icmpYes X0.here hx rfl (pc0 := 17) (pc' := 37) rfl (hb hby d2_17) rfl (feq hf19).2 (by decide) (by decide) k) ?_
      refine gb (mkF m 38 #[vr a0, vi p1] [(.int p1)]) (fun _ k => XS.iloadN X0.here hx rfl (hb hby d2_37) rfl k) ?_
      refine gb (mkF m 39 #[vr a0, vi p1] [(.int 2), (.int p1)]) (fun _ k => XS.iconst X0.here hx rfl (hb hby d2_38) k) ?_
      by_cases hf43 : p1 = (2 : Int32)
      · refine gb (mkF m 42 #[vr a0, vi p1] []) (fun _ k => XS.icmpNo X0.here hx rfl (hb hby d2_39) rfl (teq hf43).2 k) ?_
        obtain ⟨T44, h44, X44, e44, E44, A44, D44, -, st44⟩ := newO X0 hx hZ hown (hW hw 10 rfl) (hW hw 11 rfl) (hW hw 12 rfl) e0 (g := (mkF m 42 #[vr a0, vi p1] [])) rfl (hb hby d2_42) (by decide) (by decide)
        obtain ⟨b44, g44⟩ : ∃ z, z = (h0).size := ⟨_, rfl⟩
        rw [← g44] at A44 D44 st44
        have gb44 : n0 ≤ b44 := Nat.le_trans (Nat.le_trans (Nat.le_of_eq O.1.symm) O.2.1) (Nat.le_of_eq g44.symm)
        have sb44 : h0.size ≤ b44 := Nat.le_trans (Keep.refl h0 []).1 (Nat.le_of_eq g44.symm)
        have ne44_0 : a0 ≠ b44 := Nat.ne_of_lt (Nat.lt_of_lt_of_le pf0.lt (Nat.le_of_eq g44.symm))
        have D44_value : Fld Z h44 b44 "java/lang/String" "value" "[B" .null := D44 (Or.inr (hW hw 25 rfl)) (ty := (.array .byte)) (by decide)
        have D44_coder : Fld Z h44 b44 "java/lang/String" "coder" "B" (.int 0) := D44 (Or.inr (hW hw 26 rfl)) (ty := .byte) (by decide)
        have Sb44 : Safe Z EL0 _ h44 b44 := Safe.ext E44 (CHr.refl hCH).1 (Safe.new (Nat.le_of_eq g44.symm))
        refine gb (mkF m 45 #[vr a0, vi p1] [(.ref b44)]) st44 ?_
        have Sy45 := CHr.ext E44 (CHr.refl hCH).1
        have CH45 := CHr.trans (CHr.refl hCH) Sy45
        refine gb (mkF m 46 #[vr a0, vi p1] [(.ref b44), (.ref b44)]) (fun _ k => XS.dup X44.here hx rfl (hb hby d2_45) rfl rfl k) ?_
        refine gb (mkF m 47 #[vr a0, vi p1] [(.int 2), (.ref b44), (.ref b44)]) (fun _ k => XS.iconst X44.here hx rfl (hb hby d2_46) k) ?_
        have O47 := (O.ext E44)
        have f48 := (Arv.ext pf0 E44)
        have K49 := ((Keep.refl h0 []).ext E44)
        obtain ⟨T46, h46, k46, X46, e46, E46, A46, st46⟩ := newP X44 hx hZ (hW hw 0 rfl) e44 (g := (mkF m 47 #[vr a0, vi p1] [(.int 2), (.ref b44), (.ref b44)])) rfl (hb hby d2_47) rfl (by decide) (cap := 2) (by decide) (by decide) (by decide) (by decide)
        obtain ⟨b46, g46⟩ : ∃ z, z = (h44).size := ⟨_, rfl⟩
        rw [← g46] at A46 st46
        have gb46 : n0 ≤ b46 := Nat.le_trans (Nat.le_trans (Nat.le_of_eq O47.1.symm) O47.2.1) (Nat.le_of_eq g46.symm)
        have sb46 : h0.size ≤ b46 := Nat.le_trans K49.1 (Nat.le_of_eq g46.symm)
        have ne46_2 : a0 ≠ b46 := Nat.ne_of_lt (Nat.lt_of_lt_of_le f48.lt (Nat.le_of_eq g46.symm))
        have ne46_4 : b44 ≠ b46 := Nat.ne_of_lt (Nat.lt_of_lt_of_le A44.lt (Nat.le_of_eq g46.symm))
        have V46 : Arv Z h46 b46 k46 .char (2 : Int32) [(.int 0), (.int 0)] (.int 0) := (Arv.new A46 (by decide)).pad (pad_rep [] (.int 0) 2)
        have Sb46 : Safe Z EL0 _ h46 b46 := Safe.ext E46 CH45.1 (Safe.new (Nat.le_of_eq g46.symm))
        refine gb (mkF m 49 #[vr a0, vi p1] [(.ref b46), (.ref b44), (.ref b44)]) st46 ?_
        have Sy50 := CHr.ext E46 CH45.1
        have CH50 := CHr.trans CH45 Sy50
        have Sf50_b44 := Sy50.safe A44.lt Sb44
        refine gb (mkF m 50 #[vr a0, vi p1] [(.ref b46), (.ref b46), (.ref b44), (.ref b44)]) (fun _ k => XS.dup X46.here hx rfl (hb hby d2_49) rfl rfl k) ?_
        refine gb (mkF m 51 #[vr a0, vi p1] [(.int 0), (.ref b46), (.ref b46), (.ref b44), (.ref b44)]) (fun _ k => XS.iconst X46.here hx rfl (hb hby d2_50) k) ?_
        refine gb (mkF m 52 #[vr a0, vi p1] [(.ref a0), (.int 0), (.ref b46), (.ref b46), (.ref b44), (.ref b44)]) (fun _ k => XS.aloadN X46.here hx rfl (hb hby d2_51) rfl rfl k) ?_
        refine gb (mkF m 53 #[vr a0, vi p1] [(.int 0), (.ref a0), (.int 0), (.ref b46), (.ref b46), (.ref b44), (.ref b44)]) (fun _ k => XS.iconst X46.here hx rfl (hb hby d2_52) k) ?_
        have f51 := (Arv.ext f48 E46)
        obtain ⟨cl52, Ar52, qa52, Sa52, Na52, Ha52, Ga52⟩ := id f51
        have hin53 : ¬ ((0 : Int32) < 0 ∨ cl52.slots.size ≤ ((0 : Int32)).toNatClampNeg) := inb_of Sa52 ⟨by decide, by decide⟩
        refine gb (mkF m 54 #[vr a0, vi p1] [(.int x0), (.int 0), (.ref b46), (.ref b46), (.ref b44), (.ref b44)]) (X46.caload hx (j := (0 : Int32)) (v := (.int x0)) (by rw [e46]; exact Ar52.1) (State.isArrayOf_alike hZ.alike Ar52.2.1) Ar52.2.2 hin53 (Has.at Ha52 hin53 rfl) (g := (mkF m 53 #[vr a0, vi p1] [(.int 0), (.ref a0), (.int 0), (.ref b46), (.ref b46), (.ref b44), (.ref b44)])) rfl rfl (hb hby d2_53)) ?_
        obtain ⟨cl54, Ar54, qa54, Sa54, Na54, Ha54, Ga54⟩ := id V46
        have hin55 : ¬ ((0 : Int32) < 0 ∨ cl54.slots.size ≤ ((0 : Int32)).toNatClampNeg) := inb_of Sa54 ⟨by decide, by decide⟩
        obtain ⟨T55, h55, X55, e55, W55, st55⟩ := stC X46 hx hZ e46 Ar54 (j := (0 : Int32)) hin55 (g := (mkF m 54 #[vr a0, vi p1] [(.int x0), (.int 0), (.ref b46), (.ref b46), (.ref b44), (.ref b44)])) rfl rfl (hb hby d2_54)
        have V55 : Arv Z h55 b46 k46 .char (2 : Int32) [(.int (nar .char x0)), (.int 0)] (.int 0) := Arv.set Ar54 qa54 Sa54 Na54 Ha54 Ga54 (fits_nar_char _) W55 0 rfl (Nat.le_of_ble_eq_true rfl)
        have N55 := Fr.snoc X55 N0 gb46
        refine gb (mkF m 55 #[vr a0, vi p1] [(.ref b46), (.ref b44), (.ref b44)]) st55 ?_
        have Sy56 := CHr.wr W55 Sb46 CH50.1
        have CH56 := CHr.trans CH50 Sy56
        have Sf56_b44 := Sy56.safe (Nat.lt_of_lt_of_le A44.lt Sy50.2.1) Sf50_b44
        have Sf56_b46 := Sy56.safe V46.lt Sb46
        refine gb (mkF m 56 #[vr a0, vi p1] [(.ref b46), (.ref b46), (.ref b44), (.ref b44)]) (fun _ k => XS.dup X55.here hx rfl (hb hby d2_55) rfl rfl k) ?_
        refine gb (mkF m 57 #[vr a0, vi p1] [(.int 1), (.ref b46), (.ref b46), (.ref b44), (.ref b44)]) (fun _ k => XS.iconst X55.here hx rfl (hb hby d2_56) k) ?_
        refine gb (mkF m 58 #[vr a0, vi p1] [(.ref a0), (.int 1), (.ref b46), (.ref b46), (.ref b44), (.ref b44)]) (fun _ k => XS.aloadN X55.here hx rfl (hb hby d2_57) rfl rfl k) ?_
        refine gb (mkF m 59 #[vr a0, vi p1] [(.int 1), (.ref a0), (.int 1), (.ref b46), (.ref b46), (.ref b44), (.ref b44)]) (fun _ k => XS.iconst X55.here hx rfl (hb hby d2_58) k) ?_
        have f57 := (Arv.other f51 W55 ne46_2)
        obtain ⟨cl58, Ar58, qa58, Sa58, Na58, Ha58, Ga58⟩ := id f57
        have hin59 : ¬ ((1 : Int32) < 0 ∨ cl58.slots.size ≤ ((1 : Int32)).toNatClampNeg) := inb_of Sa58 ⟨by decide, by decide⟩
        refine gb (mkF m 60 #[vr a0, vi p1] [(.int x1), (.int 1), (.ref b46), (.ref b46), (.ref b44), (.ref b44)]) (X55.caload hx (j := (1 : Int32)) (v := (.int x1)) (by rw [e55]; exact Ar58.1) (State.isArrayOf_alike hZ.alike Ar58.2.1) Ar58.2.2 hin59 (Has.at Ha58 hin59 rfl) (g := (mkF m 59 #[vr a0, vi p1] [(.int 1), (.ref a0), (.int 1), (.ref b46), (.ref b46), (.ref b44), (.ref b44)])) rfl rfl (hb hby d2_59)) ?_
        obtain ⟨cl60, Ar60, qa60, Sa60, Na60, Ha60, Ga60⟩ := id V55
        have hin61 : ¬ ((1 : Int32) < 0 ∨ cl60.slots.size ≤ ((1 : Int32)).toNatClampNeg) := inb_of Sa60 ⟨by decide, by decide⟩
        obtain ⟨T61, h61, X61, e61, W61, st61⟩ := stC X55 hx hZ e55 Ar60 (j := (1 : Int32)) hin61 (g := (mkF m 60 #[vr a0, vi p1] [(.int x1), (.int 1), (.ref b46), (.ref b46), (.ref b44), (.ref b44)])) rfl rfl (hb hby d2_60)
        have V61 : Arv Z h61 b46 k46 .char (2 : Int32) [(.int (nar .char x0)), (.int (nar .char x1))] (.int 0) := Arv.set Ar60 qa60 Sa60 Na60 Ha60 Ga60 (fits_nar_char _) W61 1 rfl (Nat.le_of_ble_eq_true rfl)
        have N61 := Fr.snoc X61 N55 gb46
        refine gb (mkF m 61 #[vr a0, vi p1] [(.ref b46), (.ref b44), (.ref b44)]) st61 ?_
        have Sy62 := CHr.wr W61 Sf56_b46 CH56.1
        have CH62 := CHr.trans CH56 Sy62
        have Sf62_b44 := Sy62.safe (Nat.lt_of_lt_of_le (Nat.lt_of_lt_of_le A44.lt Sy50.2.1) Sy56.2.1) Sf56_b44
        have Sf62_b46 := Sy62.safe (Nat.lt_of_lt_of_le V46.lt Sy56.2.1) Sf56_b46
        have f64 := (Exa.wr W61 (Exa.wr W55 (Exa.ext E46 A44)))
        have f65 := (Fld.other W61 (Fld.other W55 (Fld.ext E46 D44_value) (Or.inl ne46_4)) (Or.inl ne46_4))
        have f66 := (Fld.other W61 (Fld.other W55 (Fld.ext E46 D44_coder) (Or.inl ne46_4)) (Or.inl ne46_4))
        have O67 := (((O47.ext E46).wr W55 gb46).wr W61 gb46)
        obtain ⟨_, _, ⟨T63, L63, k63, n63⟩, -, X63, ⟨Lc63, hQ63, l63, y63, z63⟩, st63⟩ := X61.specialBack hx (y := mq11) rfl hown (mvT hZ (hW hw 13 rfl)) (mvT hZ (hW hw 14 rfl)) (mvT hZ (hW hw 15 rfl)) (by decide) (backOf (W := 1) (rm3k2 l Z a0' hw [] b44 b46 k46 (nar .char x0) (nar .char x1) w1 w2 w3 G1 sf h61 n0 O67 W f64 f65 f66 gb44 V61 (by rw [hc0]; exact hx0) (by rw [hc1]; exact hx1)) hZ (hW hw 15 rfl) (hW hw 12 rfl) (by decide) (by decide)) (g := (mkF m 61 #[vr a0, vi p1] [(.ref b46), (.ref b44), (.ref b44)])) rfl (by rw [hml]; rfl) (Steps.refl _) (a := b44) (argsL := [(.ref b46)]) (rest := [(.ref b44)]) (lenOf pd264 rfl) rfl (Nat.le_of_eq rfl) (hb hby d2_61) (fun _ _ => ⟨rfl, e61, (by decide : 2 + 1 ≤ _), (by decide : 6 + 2 ≤ _)⟩)
        dsimp only [Pt.U, Pt.locs, Pt.cells, Pt.slots] at X63 l63 y63 z63 st63 hQ63
        subst l63 y63 z63
        obtain ⟨b_63, kb_63, rfl, N63q, Kc63, fc63_0, fc63_1, fc63_2⟩ := hQ63
        have N63 := Fr.app N61 N63q
        refine gb (mkF m 64 #[vr a0, vi p1] [(.ref b44)]) (fun _ k => st63.trans k) ?_
        have Sy68 := CHr.keep Kc63 (allS Sf62_b44 all0) CH62.1
        have CH68 := CHr.trans CH62 Sy68
        have Sf68_b44 := Sy68.safe (Nat.lt_of_lt_of_le (Nat.lt_of_lt_of_le (Nat.lt_of_lt_of_le A44.lt Sy50.2.1) Sy56.2.1) Sy62.2.1) Sf62_b44
        have Sf68_b46 := Sy68.safe (Nat.lt_of_lt_of_le (Nat.lt_of_lt_of_le V46.lt Sy56.2.1) Sy62.2.1) Sf62_b46
        have sz69 := (Nat.le_trans (Nat.le_trans (Nat.le_trans (Nat.le_trans (Nat.le_trans (Nat.le_refl h0.size) E44.1) E46.1) (Nat.le_of_eq W55.size.symm)) (Nat.le_of_eq W61.size.symm)) Kc63.1)
        have K70 := ((((K49.ext E46).wr W55 (Or.inr sb46)).wr W61 (Or.inr sb46)).trans Kc63 (allS (Or.inr sb44) all0))
        have f71 := (Exa.keep f64 Kc63)
        have hC72 := CHr.trans CH68 (CHv.at X63 hZ (hEL0 hw) CH68.1)
        exact Gl.outAH X63 hS sz69 hx hk Bd.returns rfl rfl (hb hby d2_64) ⟨b44, b_63, kb_63, rfl, N63, K70, f71, fc63_0, fc63_1, (stkA (l := [x0, x1, x2]) hf43 (by decide : (2 : Int32).toNatClampNeg = 2) fc63_2)⟩ (by rw [hh]; exact hC72) (by decide) (by decide)
      · refine gb (mkF m 65 #[vr a0, vi p1] []) (fun _ k => XS.icmpYes X0.here hx rfl (pc0 := 39) (pc' := 65) rfl (hb hby d2_39) rfl (feq hf43).2 (by decide) (by decide) k) ?_
        refine gb (mkF m 66 #[vr a0, vi p1] [(.int p1)]) (fun _ k => XS.iloadN X0.here hx rfl (hb hby d2_65) rfl k) ?_
        refine gb (mkF m 67 #[vr a0, vi p1] [(.int 3), (.int p1)]) (fun _ k => XS.iconst X0.here hx rfl (hb hby d2_66) k) ?_
        by_cases hf73 : p1 = (3 : Int32)
        · refine gb (mkF m 70 #[vr a0, vi p1] []) (fun _ k => XS.icmpNo X0.here hx rfl (hb hby d2_67) rfl (teq hf73).2 k) ?_
          obtain ⟨T74, h74, X74, e74, E74, A74, D74, -, st74⟩ := newO X0 hx hZ hown (hW hw 10 rfl) (hW hw 11 rfl) (hW hw 12 rfl) e0 (g := (mkF m 70 #[vr a0, vi p1] [])) rfl (hb hby d2_70) (by decide) (by decide)
          obtain ⟨b74, g74⟩ : ∃ z, z = (h0).size := ⟨_, rfl⟩
          rw [← g74] at A74 D74 st74
          have gb74 : n0 ≤ b74 := Nat.le_trans (Nat.le_trans (Nat.le_of_eq O.1.symm) O.2.1) (Nat.le_of_eq g74.symm)
          have sb74 : h0.size ≤ b74 := Nat.le_trans (Keep.refl h0 []).1 (Nat.le_of_eq g74.symm)
          have ne74_0 : a0 ≠ b74 := Nat.ne_of_lt (Nat.lt_of_lt_of_le pf0.lt (Nat.le_of_eq g74.symm))
          have D74_value : Fld Z h74 b74 "java/lang/String" "value" "[B" .null := D74 (Or.inr (hW hw 25 rfl)) (ty := (.array .byte)) (by decide)
          have D74_coder : Fld Z h74 b74 "java/lang/String" "coder" "B" (.int 0) := D74 (Or.inr (hW hw 26 rfl)) (ty := .byte) (by decide)
          have Sb74 : Safe Z EL0 _ h74 b74 := Safe.ext E74 (CHr.refl hCH).1 (Safe.new (Nat.le_of_eq g74.symm))
          refine gb (mkF m 73 #[vr a0, vi p1] [(.ref b74)]) st74 ?_
          have Sy75 := CHr.ext E74 (CHr.refl hCH).1
          have CH75 := CHr.trans (CHr.refl hCH) Sy75
          refine gb (mkF m 74 #[vr a0, vi p1] [(.ref b74), (.ref b74)]) (fun _ k => XS.dup X74.here hx rfl (hb hby d2_73) rfl rfl k) ?_
          refine gb (mkF m 75 #[vr a0, vi p1] [(.int 3), (.ref b74), (.ref b74)]) (fun _ k => XS.iconst X74.here hx rfl (hb hby d2_74) k) ?_
          have O77 := (O.ext E74)
          have f78 := (Arv.ext pf0 E74)
          have K79 := ((Keep.refl h0 []).ext E74)
          obtain ⟨T76, h76, k76, X76, e76, E76, A76, st76⟩ := newP X74 hx hZ (hW hw 0 rfl) e74 (g := (mkF m 75 #[vr a0, vi p1] [(.int 3), (.ref b74), (.ref b74)])) rfl (hb hby d2_75) rfl (by decide) (cap := 3) (by decide) (by decide) (by decide) (by decide)
          obtain ⟨b76, g76⟩ : ∃ z, z = (h74).size := ⟨_, rfl⟩
          rw [← g76] at A76 st76
          have gb76 : n0 ≤ b76 := Nat.le_trans (Nat.le_trans (Nat.le_of_eq O77.1.symm) O77.2.1) (Nat.le_of_eq g76.symm)
          have sb76 : h0.size ≤ b76 := Nat.le_trans K79.1 (Nat.le_of_eq g76.symm)
          have ne76_2 : a0 ≠ b76 := Nat.ne_of_lt (Nat.lt_of_lt_of_le f78.lt (Nat.le_of_eq g76.symm))
          have ne76_4 : b74 ≠ b76 := Nat.ne_of_lt (Nat.lt_of_lt_of_le A74.lt (Nat.le_of_eq g76.symm))
          have V76 : Arv Z h76 b76 k76 .char (3 : Int32) [(.int 0), (.int 0), (.int 0)] (.int 0) := (Arv.new A76 (by decide)).pad (pad_rep [] (.int 0) 3)
          have Sb76 : Safe Z EL0 _ h76 b76 := Safe.ext E76 CH75.1 (Safe.new (Nat.le_of_eq g76.symm))
          refine gb (mkF m 77 #[vr a0, vi p1] [(.ref b76), (.ref b74), (.ref b74)]) st76 ?_
          have Sy80 := CHr.ext E76 CH75.1
          have CH80 := CHr.trans CH75 Sy80
          have Sf80_b74 := Sy80.safe A74.lt Sb74
          refine gb (mkF m 78 #[vr a0, vi p1] [(.ref b76), (.ref b76), (.ref b74), (.ref b74)]) (fun _ k => XS.dup X76.here hx rfl (hb hby d2_77) rfl rfl k) ?_
          refine gb (mkF m 79 #[vr a0, vi p1] [(.int 0), (.ref b76), (.ref b76), (.ref b74), (.ref b74)]) (fun _ k => XS.iconst X76.here hx rfl (hb hby d2_78) k) ?_
          refine gb (mkF m 80 #[vr a0, vi p1] [(.ref a0), (.int 0), (.ref b76), (.ref b76), (.ref b74), (.ref b74)]) (fun _ k => XS.aloadN X76.here hx rfl (hb hby d2_79) rfl rfl k) ?_
          refine gb (mkF m 81 #[vr a0, vi p1] [(.int 0), (.ref a0), (.int 0), (.ref b76), (.ref b76), (.ref b74), (.ref b74)]) (fun _ k => XS.iconst X76.here hx rfl (hb hby d2_80) k) ?_
          have f81 := (Arv.ext f78 E76)
          obtain ⟨cl82, Ar82, qa82, Sa82, Na82, Ha82, Ga82⟩ := id f81
          have hin83 : ¬ ((0 : Int32) < 0 ∨ cl82.slots.size ≤ ((0 : Int32)).toNatClampNeg) := inb_of Sa82 ⟨by decide, by decide⟩
          refine gb (mkF m 82 #[vr a0, vi p1] [(.int x0), (.int 0), (.ref b76), (.ref b76), (.ref b74), (.ref b74)]) (X76.caload hx (j := (0 : Int32)) (v := (.int x0)) (by rw [e76]; exact Ar82.1) (State.isArrayOf_alike hZ.alike Ar82.2.1) Ar82.2.2 hin83 (Has.at Ha82 hin83 rfl) (g := (mkF m 81 #[vr a0, vi p1] [(.int 0), (.ref a0), (.int 0), (.ref b76), (.ref b76), (.ref b74), (.ref b74)])) rfl rfl (hb hby d2_81)) ?_
          obtain ⟨cl84, Ar84, qa84, Sa84, Na84, Ha84, Ga84⟩ := id V76
          have hin85 : ¬ ((0 : Int32) < 0 ∨ cl84.slots.size ≤ ((0 : Int32)).toNatClampNeg) := inb_of Sa84 ⟨by decide, by decide⟩
          obtain ⟨T85, h85, X85, e85, W85, st85⟩ := stC X76 hx hZ e76 Ar84 (j := (0 : Int32)) hin85 (g := (mkF m 82 #[vr a0, vi p1] [(.int x0), (.int 0), (.ref b76), (.ref b76), (.ref b74), (.ref b74)])) rfl rfl (hb hby d2_82)
          have V85 : Arv Z h85 b76 k76 .char (3 : Int32) [(.int (nar .char x0)), (.int 0), (.int 0)] (.int 0) := Arv.set Ar84 qa84 Sa84 Na84 Ha84 Ga84 (fits_nar_char _) W85 0 rfl (Nat.le_of_ble_eq_true rfl)
          have N85 := Fr.snoc X85 N0 gb76
          refine gb (mkF m 83 #[vr a0, vi p1] [(.ref b76), (.ref b74), (.ref b74)]) st85 ?_
          have Sy86 := CHr.wr W85 Sb76 CH80.1
          have CH86 := CHr.trans CH80 Sy86
          have Sf86_b74 := Sy86.safe (Nat.lt_of_lt_of_le A74.lt Sy80.2.1) Sf80_b74
          have Sf86_b76 := Sy86.safe V76.lt Sb76
          refine gb (mkF m 84 #[vr a0, vi p1] [(.ref b76), (.ref b76), (.ref b74), (.ref b74)]) (fun _ k => XS.dup X85.here hx rfl (hb hby d2_83) rfl rfl k) ?_
          refine gb (mkF m 85 #[vr a0, vi p1] [(.int 1), (.ref b76), (.ref b76), (.ref b74), (.ref b74)]) (fun _ k => XS.iconst X85.here hx rfl (hb hby d2_84) k) ?_
          refine gb (mkF m 86 #[vr a0, vi p1] [(.ref a0), (.int 1), (.ref b76), (.ref b76), (.ref b74), (.ref b74)]) (fun _ k => XS.aloadN X85.here hx rfl (hb hby d2_85) rfl rfl k) ?_
          refine gb (mkF m 87 #[vr a0, vi p1] [(.int 1), (.ref a0), (.int 1), (.ref b76), (.ref b76), (.ref b74), (.ref b74)]) (fun _ k => XS.iconst X85.here hx rfl (hb hby d2_86) k) ?_
          have f87 := (Arv.other f81 W85 ne76_2)
          obtain ⟨cl88, Ar88, qa88, Sa88, Na88, Ha88, Ga88⟩ := id f87
          have hin89 : ¬ ((1 : Int32) < 0 ∨ cl88.slots.size ≤ ((1 : Int32)).toNatClampNeg) := inb_of Sa88 ⟨by decide, by decide⟩
          refine gb (mkF m 88 #[vr a0, vi p1] [(.int x1), (.int 1), (.ref b76), (.ref b76), (.ref b74), (.ref b74)]) (X85.caload hx (j := (1 : Int32)) (v := (.int x1)) (by rw [e85]; exact Ar88.1) (State.isArrayOf_alike hZ.alike Ar88.2.1) Ar88.2.2 hin89 (Has.at Ha88 hin89 rfl) (g := (mkF m 87 #[vr a0, vi p1] [(.int 1), (.ref a0), (.int 1), (.ref b76), (.ref b76), (.ref b74), (.ref b74)])) rfl rfl (hb hby d2_87)) ?_
          obtain ⟨cl90, Ar90, qa90, Sa90, Na90, Ha90, Ga90⟩ := id V85
          have hin91 : ¬ ((1 : Int32) < 0 ∨ cl90.slots.size ≤ ((1 : Int32)).toNatClampNeg) := inb_of Sa90 ⟨by decide, by decide⟩
          obtain ⟨T91, h91, X91, e91, W91, st91⟩ := stC X85 hx hZ e85 Ar90 (j := (1 : Int32)) hin91 (g := (mkF m 88 #[vr a0, vi p1] [(.int x1), (.int 1), (.ref b76), (.ref b76), (.ref b74), (.ref b74)])) rfl rfl (hb hby d2_88)
          have V91 : Arv Z h91 b76 k76 .char (3 : Int32) [(.int (nar .char x0)), (.int (nar .char x1)), (.int 0)] (.int 0) := Arv.set Ar90 qa90 Sa90 Na90 Ha90 Ga90 (fits_nar_char _) W91 1 rfl (Nat.le_of_ble_eq_true rfl)
          have N91 := Fr.snoc X91 N85 gb76
          refine gb (mkF m 89 #[vr a0, vi p1] [(.ref b76), (.ref b74), (.ref b74)]) st91 ?_
          have Sy92 := CHr.wr W91 Sf86_b76 CH86.1
          have CH92 := CHr.trans CH86 Sy92
          have Sf92_b74 := Sy92.safe (Nat.lt_of_lt_of_le (Nat.lt_of_lt_of_le A74.lt Sy80.2.1) Sy86.2.1) Sf86_b74
          have Sf92_b76 := Sy92.safe (Nat.lt_of_lt_of_le V76.lt Sy86.2.1) Sf86_b76
          refine gb (mkF m 90 #[vr a0, vi p1] [(.ref b76), (.ref b76), (.ref b74), (.ref b74)]) (fun _ k => XS.dup X91.here hx rfl (hb hby d2_89) rfl rfl k) ?_
          refine gb (mkF m 91 #[vr a0, vi p1] [(.int 2), (.ref b76), (.ref b76), (.ref b74), (.ref b74)]) (fun _ k => XS.iconst X91.here hx rfl (hb hby d2_90) k) ?_
          refine gb (mkF m 92 #[vr a0, vi p1] [(.ref a0), (.int 2), (.ref b76), (.ref b76), (.ref b74), (.ref b74)]) (fun _ k => XS.aloadN X91.here hx rfl (hb hby d2_91) rfl rfl k) ?_
          refine gb (mkF m 93 #[vr a0, vi p1] [(.int 2), (.ref a0), (.int 2), (.ref b76), (.ref b76), (.ref b74), (.ref b74)]) (fun _ k => XS.iconst X91.here hx rfl (hb hby d2_92) k) ?_
          have f93 := (Arv.other f87 W91 ne76_2)
          obtain ⟨cl94, Ar94, qa94, Sa94, Na94, Ha94, Ga94⟩ := id f93
          have hin95 : ¬ ((2 : Int32) < 0 ∨ cl94.slots.size ≤ ((2 : Int32)).toNatClampNeg) := inb_of Sa94 ⟨by decide, by decide⟩
          refine gb (mkF m 94 #[vr a0, vi p1] [(.int x2), (.int 2), (.ref b76), (.ref b76), (.ref b74), (.ref b74)]) (X91.caload hx (j := (2 : Int32)) (v := (.int x2)) (by rw [e91]; exact Ar94.1) (State.isArrayOf_alike hZ.alike Ar94.2.1) Ar94.2.2 hin95 (Has.at Ha94 hin95 rfl) (g := (mkF m 93 #[vr a0, vi p1] [(.int 2), (.ref a0), (.int 2), (.ref b76), (.ref b76), (.ref b74), (.ref b74)])) rfl rfl (hb hby d2_93)) ?_
          obtain ⟨cl96, Ar96, qa96, Sa96, Na96, Ha96, Ga96⟩ := id V91
          have hin97 : ¬ ((2 : Int32) < 0 ∨ cl96.slots.size ≤ ((2 : Int32)).toNatClampNeg) := inb_of Sa96 ⟨by decide, by decide⟩
          obtain ⟨T97, h97, X97, e97, W97, st97⟩ := stC X91 hx hZ e91 Ar96 (j := (2 : Int32)) hin97 (g := (mkF m 94 #[vr a0, vi p1] [(.int x2), (.int 2), (.ref b76), (.ref b76), (.ref b74), (.ref b74)])) rfl rfl (hb hby d2_94)
          have V97 : Arv Z h97 b76 k76 .char (3 : Int32) [(.int (nar .char x0)), (.int (nar .char x1)), (.int (nar .char x2))] (.int 0) := Arv.set Ar96 qa96 Sa96 Na96 Ha96 Ga96 (fits_nar_char _) W97 2 rfl (Nat.le_of_ble_eq_true rfl)
          have N97 := Fr.snoc X97 N91 gb76
          refine gb (mkF m 95 #[vr a0, vi p1] [(.ref b76), (.ref b74), (.ref b74)]) st97 ?_
          have Sy98 := CHr.wr W97 Sf92_b76 CH92.1
          have CH98 := CHr.trans CH92 Sy98
          have Sf98_b74 := Sy98.safe (Nat.lt_of_lt_of_le (Nat.lt_of_lt_of_le (Nat.lt_of_lt_of_le A74.lt Sy80.2.1) Sy86.2.1) Sy92.2.1) Sf92_b74
          have Sf98_b76 := Sy98.safe (Nat.lt_of_lt_of_le (Nat.lt_of_lt_of_le V76.lt Sy86.2.1) Sy92.2.1) Sf92_b76
          have f100 := (Exa.wr W97 (Exa.wr W91 (Exa.wr W85 (Exa.ext E76 A74))))
          have f101 := (Fld.other W97 (Fld.other W91 (Fld.other W85 (Fld.ext E76 D74_value) (Or.inl ne76_4)) (Or.inl ne76_4)) (Or.inl ne76_4))
          have f102 := (Fld.other W97 (Fld.other W91 (Fld.other W85 (Fld.ext E76 D74_coder) (Or.inl ne76_4)) (Or.inl ne76_4)) (Or.inl ne76_4))
          have O103 := ((((O77.ext E76).wr W85 gb76).wr W91 gb76).wr W97 gb76)
          obtain ⟨_, _, ⟨T99, L99, k99, n99⟩, -, X99, ⟨Lc99, hQ99, l99, y99, z99⟩, st99⟩ := X97.specialBack hx (y := mq11) rfl hown (mvT hZ (hW hw 13 rfl)) (mvT hZ (hW hw 14 rfl)) (mvT hZ (hW hw 15 rfl)) (by decide) (backOf (W := 1) (rm3k3 l Z a0' hw [] b74 b76 k76 (nar .char x0) (nar .char x1) (nar .char x2) w1 w2 w3 G1 sf h97 n0 O103 W f100 f101 f102 gb74 V97 (by rw [hc0]; exact hx0) (by rw [hc1]; exact hx1) (by rw [hc2]; exact hx2)) hZ (hW hw 15 rfl) (hW hw 12 rfl) (by decide) (by decide)) (g := (mkF m 95 #[vr a0, vi p1] [(.ref b76), (.ref b74), (.ref b74)])) rfl (by rw [hml]; rfl) (Steps.refl _) (a := b74) (argsL := [(.ref b76)]) (rest := [(.ref b74)]) (lenOf pd264 rfl) rfl (Nat.le_of_eq rfl) (hb hby d2_95) (fun _ _ => ⟨rfl, e97, (by decide : 2 + 1 ≤ _), (by decide : 7 + 3 ≤ _)⟩)
          dsimp only [Pt.U, Pt.locs, Pt.cells, Pt.slots] at X99 l99 y99 z99 st99 hQ99
          subst l99 y99 z99
          obtain ⟨b_99, kb_99, rfl, N99q, Kc99, fc99_0, fc99_1, fc99_2⟩ := hQ99
          have N99 := Fr.app N97 N99q
          refine gb (mkF m 98 #[vr a0, vi p1] [(.ref b74)]) (fun _ k => st99.trans k) ?_
          have Sy104 := CHr.keep Kc99 (allS Sf98_b74 all0) CH98.1
          have CH104 := CHr.trans CH98 Sy104
          have Sf104_b74 := Sy104.safe (Nat.lt_of_lt_of_le (Nat.lt_of_lt_of_le (Nat.lt_of_lt_of_le (Nat.lt_of_lt_of_le A74.lt Sy80.2.1) Sy86.2.1) Sy92.2.1) Sy98.2.1) Sf98_b74
          have Sf104_b76 := Sy104.safe (Nat.lt_of_lt_of_le (Nat.lt_of_lt_of_le (Nat.lt_of_lt_of_le V76.lt Sy86.2.1) Sy92.2.1) Sy98.2.1) Sf98_b76
          have sz105 := (Nat.le_trans (Nat.le_trans (Nat.le_trans (Nat.le_trans (Nat.le_trans (Nat.le_trans (Nat.le_refl h0.size) E74.1) E76.1) (Nat.le_of_eq W85.size.symm)) (Nat.le_of_eq W91.size.symm)) (Nat.le_of_eq W97.size.symm)) Kc99.1)
          have K106 := (((((K79.ext E76).wr W85 (Or.inr sb76)).wr W91 (Or.inr sb76)).wr W97 (Or.inr sb76)).trans Kc99 (allS (Or.inr sb74) all0))
          have f107 := (Exa.keep f100 Kc99)
          have hC108 := CHr.trans CH104 (CHv.at X99 hZ (hEL0 hw) CH104.1)
          exact Gl.outAH X99 hS sz105 hx hk Bd.returns rfl rfl (hb hby d2_98) ⟨b74, b_99, kb_99, rfl, N99, K106, f107, fc99_0, fc99_1, (stkA (l := [x0, x1, x2]) hf73 (by decide : (3 : Int32).toNatClampNeg = 3) fc99_2)⟩ (by rw [hh]; exact hC108) (by decide) (by decide)
        · refine gb (mkF m 99 #[vr a0, vi p1] []) (fun _ k => XS.icmpYes X0.here hx rfl (pc0 := 67) (pc' := 99) rfl (hb hby d2_67) rfl (feq hf73).2 (by decide) (by decide) k) ?_
          exact absurd hp (fun q => Or.elim q hf1 (fun q => Or.elim q hf19 (fun q => Or.elim q hf43 hf73)))
theorem d2_99 : decode method_3_code 99 = .ok (.new 11, 3) := by decide +kernel
theorem d2_102 : decode method_3_code 102 = .ok (.dup, 1) := by decide +kernel
theorem d2_103 : decode method_3_code 103 = .ok (.iconst 4, 1) := by decide +kernel
theorem d2_104 : decode method_3_code 104 = .ok (.newarray .char, 2) := by decide +kernel
theorem d2_106 : decode method_3_code 106 = .ok (.dup, 1) := by decide +kernel
theorem d2_107 : decode method_3_code 107 = .ok (.iconst 0, 1) := by decide +kernel
theorem d2_108 : decode method_3_code 108 = .ok (.aload_n 0, 1) := by decide +kernel
theorem d2_109 : decode method_3_code 109 = .ok (.iconst 0, 1) := by decide +kernel
theorem d2_110 : decode method_3_code 110 = .ok (.caload, 1) := by decide +kernel
theorem d2_111 : decode method_3_code 111 = .ok (.castore, 1) := by decide +kernel
theorem d2_112 : decode method_3_code 112 = .ok (.dup, 1) := by decide +kernel
theorem d2_113 : decode method_3_code 113 = .ok (.iconst 1, 1) := by decide +kernel
theorem d2_114 : decode method_3_code 114 = .ok (.aload_n 0, 1) := by decide +kernel
theorem d2_115 : decode method_3_code 115 = .ok (.iconst 1, 1) := by decide +kernel
theorem d2_116 : decode method_3_code 116 = .ok (.caload, 1) := by decide +kernel
theorem d2_117 : decode method_3_code 117 = .ok (.castore, 1) := by decide +kernel
theorem d2_118 : decode method_3_code 118 = .ok (.dup, 1) := by decide +kernel
theorem d2_119 : decode method_3_code 119 = .ok (.iconst 2, 1) := by decide +kernel
theorem d2_120 : decode method_3_code 120 = .ok (.aload_n 0, 1) := by decide +kernel
theorem d2_121 : decode method_3_code 121 = .ok (.iconst 2, 1) := by decide +kernel
theorem d2_122 : decode method_3_code 122 = .ok (.caload, 1) := by decide +kernel
theorem d2_123 : decode method_3_code 123 = .ok (.castore, 1) := by decide +kernel
theorem d2_124 : decode method_3_code 124 = .ok (.dup, 1) := by decide +kernel
theorem d2_125 : decode method_3_code 125 = .ok (.iconst 3, 1) := by decide +kernel
theorem d2_126 : decode method_3_code 126 = .ok (.aload_n 0, 1) := by decide +kernel
theorem d2_127 : decode method_3_code 127 = .ok (.iconst 3, 1) := by decide +kernel
theorem d2_128 : decode method_3_code 128 = .ok (.caload, 1) := by decide +kernel
theorem d2_129 : decode method_3_code 129 = .ok (.castore, 1) := by decide +kernel
theorem d2_130 : decode method_3_code 130 = .ok (.invokespecial 13, 3) := by decide +kernel
theorem d2_133 : decode method_3_code 133 = .ok (.areturn, 1) := by decide +kernel
theorem ef2C (m : MethodId) (x0 : Addr) (x1 : Int32) : entryFrame m #[(.ref x0), (.int x1)] 2 = mkF m 0 #[.val (.ref x0), .val (.int x1)] [] := by first | (simp [entryFrame, mkF, argsToLocals, Value.category]; done) | rfl
def Q2C (Z : State) (a0 : Addr) (p1 : Int32) (ka : ClassId) (x0 : Int32) (x1 : Int32) (x2 : Int32) (x3 : Int32) (w1 w2 w3 : Addr) (G1 : Int32) (sf : Value) (h0 : Heap) (n0 : Nat) (v : Option Value) (h : Heap) (L : List Loc) : Prop := ∃ (r : Addr), ∃ (b : Addr), ∃ (kb : ClassId), v = some (.ref r) ∧ Fr n0 L ∧ Keep h0 h [] ∧ Exa Z h r "java/lang/String" ∧ Fld Z h r "java/lang/String" "value" "[B" (.ref b) ∧ Fld Z h r "java/lang/String" "coder" "B" (.int 0) ∧ Arv Z h b kb .byte p1 ((stk p1 [x0, x1, x2, x3]).map Value.int) (.int 0)
theorem rm2C (l : Launch) (Z : State) (a0' : Array Value) (hw : ∀ d ∈ tables_1, d.before a0' Z = true) (ws : List Jvm.Cond) (a0 : Addr) (p1 : Int32) (ka : ClassId) (x0 : Int32) (x1 : Int32) (x2 : Int32) (x3 : Int32) (w1 w2 w3 : Addr) (G1 : Int32) (sf : Value) (h0 : Heap) (n0 : Nat) (O : Old Z n0 h0) (W : Wd Z w1 w2 w3 G1 sf) (pf0 : Arv Z h0 a0 ka .char (4 : Int32) [(.int x0), (.int x1), (.int x2), (.int x3)] (.int 0)) (hp : p1 = (0 : Int32) ∨ p1 = (1 : Int32) ∨ p1 = (2 : Int32) ∨ p1 = (3 : Int32) ∨ p1 = (4 : Int32)) (hx0 : ¬ (255 : Int32) < x0) (hx1 : ¬ (255 : Int32) < x1) (hx2 : ¬ (255 : Int32) < x2) (hx3 : ¬ (255 : Int32) < x3) (hc0 : nar .char x0 = x0) (hc1 : nar .char x1 = x1) (hc2 : nar .char x2 = x2) (hc3 : nar .char x3 = x3) :
    MetFree l mq14 (head1 (Jvm.Cond.code mq14 method_3_code 2 (some (.object "java/lang/String")) :: ws) ({ frames := 4, cells := 6, slots := 12, locals := 66 } : Room)) (fun a U => a = #[(.ref a0), (.int p1)] ∧ Z.Warmed39 U.vm ∧ U.heap = h0 ∧ CHv Z EL0 U.vm h0 ∧ ∀ x ∈ ([] : List Addr), x < h0.size ∧ Safe Z EL0 U.vm h0 x) (fun _ _ _ _ _ => True) (fun _ U o U' => ∃ v L, o = .returned v ∧ Q2C Z a0 p1 ka x0 x1 x2 x3 w1 w2 w3 G1 sf h0 n0 v U'.heap L ∧ CHr Z EL0 U.vm U.heap U'.vm U'.heap ∧ ReturnedEndW U o U' L ({ frames := 4, cells := 6, slots := 12, locals := 66 } : Room).cells ({ frames := 4, cells := 6, slots := 12, locals := 66 } : Room).slots) := by
  refine MetFree.of_bodySF (plainFor_of_name pn4) hisR ?_
  intro p e s m args below meth c s₁ Bd hml0 hP hK
  obtain ⟨rfl, hZ, hh, hCH, hSf⟩ := hP
  have hx := Bd.exec
  have hby := Bd.bytes
  have hml : c.maxLocals = 2 := hml0
  have hown : s.vm.findClass "com/example/gatewarden/gatewarden/core/UserKeywordEndInPinLaw" = some m.cls := findClass_of_methodNamed Bd.named
  have hnm := (name_of_methodNamed Bd.named Bd.method).1
  have hk := Bd.notSynchronized
  have X0 : Stand p l e ({ frames := 4, cells := 6, slots := 12, locals := 66 } : Room) (s.setVm s.vm) m #[(.ref a0), (.int p1)] below meth c s₁ [] 0 0 := Stand.of_body Bd
  have hS : s.Since s.vm h0.size := State.WarmedH.since (State.WarmedH.refl s) _
  have e0 : s₁.heap = h0 := by rw [← hh, Bd.state]; rfl
  have N0 := Fr.nil n0
  show Gl p e below (PosH Z EL0 6 12 (Q2C Z a0 p1 ka x0 x1 x2 x3 w1 w2 w3 G1 sf h0 n0) s) s₁ _
  refine Gl.cast (ef2C m a0 p1) ?_
  refine gb (mkF m 1 #[vr a0, vi p1] [(.int p1)]) (fun _ k => XS.iloadN X0.here hx rfl (hb hby d2_0) rfl k) ?_
  by_cases hf1 : p1 = (0 : Int32)
  · refine gb (mkF m 4 #[vr a0, vi p1] []) (fun _ k => XS.ifNo X0.here hx rfl (hb hby d2_1) rfl ((if0 _ _).trans (teq hf1).2) k) ?_
    obtain ⟨T2, h2, X2, e2, E2, A2, D2, -, st2⟩ := newO X0 hx hZ hown (hW hw 10 rfl) (hW hw 11 rfl) (hW hw 12 rfl) e0 (g := (mkF m 4 #[vr a0, vi p1] [])) rfl (hb hby d2_4) (by decide) (by decide)
    obtain ⟨b2, g2⟩ : ∃ z, z = (h0).size := ⟨_, rfl⟩
    rw [← g2] at A2 D2 st2
    have gb2 : n0 ≤ b2 := Nat.le_trans (Nat.le_trans (Nat.le_of_eq O.1.symm) O.2.1) (Nat.le_of_eq g2.symm)
    have sb2 : h0.size ≤ b2 := Nat.le_trans (Keep.refl h0 []).1 (Nat.le_of_eq g2.symm)
    have ne2_0 : a0 ≠ b2 := Nat.ne_of_lt (Nat.lt_of_lt_of_le pf0.lt (Nat.le_of_eq g2.symm))
    have D2_value : Fld Z h2 b2 "java/lang/String" "value" "[B" .null := D2 (Or.inr (hW hw 25 rfl)) (ty := (.array .byte)) (by decide)
    have D2_coder : Fld Z h2 b2 "java/lang/String" "coder" "B" (.int 0) := D2 (Or.inr (hW hw 26 rfl)) (ty := .byte) (by decide)
    have Sb2 : Safe Z EL0 _ h2 b2 := Safe.ext E2 (CHr.refl hCH).1 (Safe.new (Nat.le_of_eq g2.symm))
    refine gb (mkF m 7 #[vr a0, vi p1] [(.ref b2)]) st2 ?_
    have Sy3 := CHr.ext E2 (CHr.refl hCH).1
    have CH3 := CHr.trans (CHr.refl hCH) Sy3
    refine gb (mkF m 8 #[vr a0, vi p1] [(.ref b2), (.ref b2)]) (fun _ k => XS.dup X2.here hx rfl (hb hby d2_7) rfl rfl k) ?_
    refine gb (mkF m 9 #[vr a0, vi p1] [(.int 0), (.ref b2), (.ref b2)]) (fun _ k => XS.iconst X2.here hx rfl (hb hby d2_8) k) ?_
    have O5 := (O.ext E2)
    have f6 := (Arv.ext pf0 E2)
    have K7 := ((Keep.refl h0 []).ext E2)
    obtain ⟨T4, h4, k4, X4, e4, E4, A4, st4⟩ := newP X2 hx hZ (hW hw 0 rfl) e2 (g := (mkF m 9 #[vr a0, vi p1] [(.int 0), (.ref b2), (.ref b2)])) rfl (hb hby d2_9) rfl (by decide) (cap := 0) (by decide) (by decide) (by decide) (by decide)
    obtain ⟨b4, g4⟩ : ∃ z, z = (h2).size := ⟨_, rfl⟩
    rw [← g4] at A4 st4
    have gb4 : n0 ≤ b4 := Nat.le_trans (Nat.le_trans (Nat.le_of_eq O5.1.symm) O5.2.1) (Nat.le_of_eq g4.symm)
    have sb4 : h0.size ≤ b4 := Nat.le_trans K7.1 (Nat.le_of_eq g4.symm)
    have ne4_2 : a0 ≠ b4 := Nat.ne_of_lt (Nat.lt_of_lt_of_le f6.lt (Nat.le_of_eq g4.symm))
    have ne4_4 : b2 ≠ b4 := Nat.ne_of_lt (Nat.lt_of_lt_of_le A2.lt (Nat.le_of_eq g4.symm))
    have V4 : Arv Z h4 b4 k4 .char (0 : Int32) [] (.int 0) := (Arv.new A4 (by decide)).pad (pad_rep [] (.int 0) 0)
    have Sb4 : Safe Z EL0 _ h4 b4 := Safe.ext E4 CH3.1 (Safe.new (Nat.le_of_eq g4.symm))
    refine gb (mkF m 11 #[vr a0, vi p1] [(.ref b4), (.ref b2), (.ref b2)]) st4 ?_
    have Sy8 := CHr.ext E4 CH3.1
    have CH8 := CHr.trans CH3 Sy8
    have Sf8_b2 := Sy8.safe A2.lt Sb2
    have f10 := (Exa.ext E4 A2)
    have f11 := (Fld.ext E4 D2_value)
    have f12 := (Fld.ext E4 D2_coder)
    have O13 := (O5.ext E4)
    obtain ⟨_, _, ⟨T9, L9, k9, n9⟩, -, X9, hS9, hg9, ⟨Lc9, hQ9, l9, y9, z9, Sc9⟩, st9⟩ := X4.specialBackS hx (y := mq11) rfl hown (mvT hZ (hW hw 13 rfl)) (mvT hZ (hW hw 14 rfl)) (mvT hZ (hW hw 15 rfl)) (by decide) (backOfSX (W := 1) (rm3k0 l Z a0' hw [] b2 b4 k4 w1 w2 w3 G1 sf h4 n0 O13 W f10 f11 f12 gb2 V4) hZ (hW hw 15 rfl) (hW hw 12 rfl) (by decide) (by decide) (hEL0 hw) CH8.1 (allS ⟨(Nat.lt_of_lt_of_le A2.lt Sy8.2.1), Sf8_b2⟩ all0)) (g := (mkF m 11 #[vr a0, vi p1] [(.ref b4), (.ref b2), (.ref b2)])) rfl (by rw [hml]; rfl) (Steps.refl _) (a := b2) (argsL := [(.ref b4)]) (rest := [(.ref b2)]) (lenOf pd264 rfl) rfl (Nat.le_of_eq rfl) (hb hby d2_11) (fun _ _ => ⟨rfl, e4, (by decide : 2 + 4 ≤ _), (by decide : 4 + 8 ≤ _)⟩)
    dsimp only [Pt.U, Pt.locs, Pt.cells, Pt.slots] at X9 l9 y9 z9 st9 hQ9 Sc9
    subst l9 y9 z9
    have sz14 := (Nat.le_trans (Nat.le_trans (Nat.le_refl h0.size) E2.1) E4.1)
    obtain ⟨X9, hS, hZ, hown⟩ := rebS hS (by rw [e4]; exact sz14) X9 hS9 hg9 hZ hown
    obtain ⟨b_9, kb_9, rfl, N9q, Kc9, fc9_0, fc9_1, fc9_2⟩ := hQ9
    have N9 := Fr.app N0 N9q
    refine gb (mkF m 14 #[vr a0, vi p1] [(.ref b2)]) (fun _ k => st9.trans k) ?_
    have CH15 := CHr.trans CH8 Sc9
    have Sf15_b2 := Sc9.safe (Nat.lt_of_lt_of_le A2.lt Sy8.2.1) Sf8_b2
    have Sf15_b4 := Sc9.safe V4.lt Sb4
    have K16 := ((K7.ext E4).trans Kc9 (allS (Or.inr sb2) all0))
    have f17 := (Exa.keep f10 Kc9)
    have hC18 := CHr.trans CH15 (CHv.at X9 hZ (hEL0 hw) CH15.1)
    exact Gl.outAH X9 hS (Nat.le_refl _) hx hk Bd.returns rfl rfl (hb hby d2_14) ⟨b2, b_9, kb_9, rfl, N9, K16, f17, fc9_0, fc9_1, (stkA (l := [x0, x1, x2, x3]) hf1 (by decide : (0 : Int32).toNatClampNeg = 0) fc9_2)⟩ (by rw [hh]; exact hC18) (by decide) (by decide)
  · refine gb (mkF m 15 #[vr a0, vi p1] []) (fun _ k => XS.ifYes X0.here hx rfl (pc0 := 1) (pc' := 15) rfl (hb hby d2_1) rfl ((if0 _ _).trans (feq hf1).2) (by decide) (by decide) k) ?_
    refine gb (mkF m 16 #[vr a0, vi p1] [(.int p1)]) (fun _ k => XS.iloadN X0.here hx rfl (hb hby d2_15) rfl k) ?_
    refine gb (mkF m 17 #[vr a0, vi p1] [(.int 1), (.int p1)]) (fun _ k => XS.iconst X0.here hx rfl (hb hby d2_16) k) ?_
    by_cases hf19 : p1 = (1 : Int32)
    · refine gb (mkF m 20 #[vr a0, vi p1] []) (fun _ k => XS.icmpNo X0.here hx rfl (hb hby d2_17) rfl (teq hf19).2 k) ?_
      obtain ⟨T20, h20, X20, e20, E20, A20, D20, -, st20⟩ := newO X0 hx hZ hown (hW hw 10 rfl) (hW hw 11 rfl) (hW hw 12 rfl) e0 (g := (mkF m 20 #[vr a0, vi p1] [])) rfl (hb hby d2_20) (by decide) (by decide)
      obtain ⟨b20, g20⟩ : ∃ z, z = (h0).size := ⟨_, rfl⟩
      rw [← g20] at A20 D20 st20
      have gb20 : n0 ≤ b20 := Nat.le_trans (Nat.le_trans (Nat.le_of_eq O.1.symm) O.2.1) (Nat.le_of_eq g20.symm)
      have sb20 : h0.size ≤ b20 := Nat.le_trans (Keep.refl h0 []).1 (Nat.le_of_eq g20.symm)
      have ne20_0 : a0 ≠ b20 := Nat.ne_of_lt (Nat.lt_of_lt_of_le pf0.lt (Nat.le_of_eq g20.symm))
      have D20_value : Fld Z h20 b20 "java/lang/String" "value" "[B" .null := D20 (Or.inr (hW hw 25 rfl)) (ty := (.array .byte)) (by decide)
      have D20_coder : Fld Z h20 b20 "java/lang/String" "coder" "B" (.int 0) := D20 (Or.inr (hW hw 26 rfl)) (ty := .byte) (by decide)
      have Sb20 : Safe Z EL0 _ h20 b20 := Safe.ext E20 (CHr.refl hCH).1 (Safe.new (Nat.le_of_eq g20.symm))
      refine gb (mkF m 23 #[vr a0, vi p1] [(.ref b20)]) st20 ?_
      have Sy21 := CHr.ext E20 (CHr.refl hCH).1
      have CH21 := CHr.trans (CHr.refl hCH) Sy21
      refine gb (mkF m 24 #[vr a0, vi p1] [(.ref b20), (.ref b20)]) (fun _ k => XS.dup X20.here hx rfl (hb hby d2_23) rfl rfl k) ?_
      refine gb (mkF m 25 #[vr a0, vi p1] [(.int 1), (.ref b20), (.ref b20)]) (fun _ k => XS.iconst X20.here hx rfl (hb hby d2_24) k) ?_
      have O23 := (O.ext E20)
      have f24 := (Arv.ext pf0 E20)
      have K25 := ((Keep.refl h0 []).ext E20)
      obtain ⟨T22, h22, k22, X22, e22, E22, A22, st22⟩ := newP X20 hx hZ (hW hw 0 rfl) e20 (g := (mkF m 25 #[vr a0, vi p1] [(.int 1), (.ref b20), (.ref b20)])) rfl (hb hby d2_25) rfl (by decide) (cap := 1) (by decide) (by decide) (by decide) (by decide)
      obtain ⟨b22, g22⟩ : ∃ z, z = (h20).size := ⟨_, rfl⟩
      rw [← g22] at A22 st22
      have gb22 : n0 ≤ b22 := Nat.le_trans (Nat.le_trans (Nat.le_of_eq O23.1.symm) O23.2.1) (Nat.le_of_eq g22.symm)
      have sb22 : h0.size ≤ b22 := Nat.le_trans K25.1 (Nat.le_of_eq g22.symm)
      have ne22_2 : a0 ≠ b22 := Nat.ne_of_lt (Nat.lt_of_lt_of_le f24.lt (Nat.le_of_eq g22.symm))
      have ne22_4 : b20 ≠ b22 := Nat.ne_of_lt (Nat.lt_of_lt_of_le A20.lt (Nat.le_of_eq g22.symm))
      have V22 : Arv Z h22 b22 k22 .char (1 : Int32) [(.int 0)] (.int 0) := (Arv.new A22 (by decide)).pad (pad_rep [] (.int 0) 1)
      have Sb22 : Safe Z EL0 _ h22 b22 := Safe.ext E22 CH21.1 (Safe.new (Nat.le_of_eq g22.symm))
      refine gb (mkF m 27 #[vr a0, vi p1] [(.ref b22), (.ref b20), (.ref b20)]) st22 ?_
      have Sy26 := CHr.ext E22 CH21.1
      have CH26 := CHr.trans CH21 Sy26
      have Sf26_b20 := Sy26.safe A20.lt Sb20
      refine gb (mkF m 28 #[vr a0, vi p1] [(.ref b22), (.ref b22), (.ref b20), (.ref b20)]) (fun _ k => XS.dup X22.here hx rfl (hb hby d2_27) rfl rfl k) ?_
      refine gb (mkF m 29 #[vr a0, vi p1] [(.int 0), (.ref b22), (.ref b22), (.ref b20), (.ref b20)]) (fun _ k => XS.iconst X22.here hx rfl (hb hby d2_28) k) ?_
      refine gb (mkF m 30 #[vr a0, vi p1] [(.ref a0), (.int 0), (.ref b22), (.ref b22), (.ref b20), (.ref b20)]) (fun _ k => XS.aloadN X22.here hx rfl (hb hby d2_29) rfl rfl k) ?_
      refine gb (mkF m 31 #[vr a0, vi p1] [(.int 0), (.ref a0), (.int 0), (.ref b22), (.ref b22), (.ref b20), (.ref b20)]) (fun _ k => XS.iconst X22.here hx rfl (hb hby d2_30) k) ?_
      have f27 := (Arv.ext f24 E22)
      obtain ⟨cl28, Ar28, qa28, Sa28, Na28, Ha28, Ga28⟩ := id f27
      have hin29 : ¬ ((0 : Int32) < 0 ∨ cl28.slots.size ≤ ((0 : Int32)).toNatClampNeg) := inb_of Sa28 ⟨by decide, by decide⟩
      refine gb (mkF m 32 #[vr a0, vi p1] [(.int x0), (.int 0), (.ref b22), (.ref b22), (.ref b20), (.ref b20)]) (X22.caload hx (j := (0 : Int32)) (v := (.int x0)) (by rw [e22]; exact Ar28.1) (State.isArrayOf_alike hZ.alike Ar28.2.1) Ar28.2.2 hin29 (Has.at Ha28 hin29 rfl) (g := (mkF m 31 #[vr a0, vi p1] [(.int 0), (.ref a0), (.int 0), (.ref b22), (.ref b22), (.ref b20), (.ref b20)])) rfl rfl (hb hby d2_31)) ?_
      obtain ⟨cl30, Ar30, qa30, Sa30, Na30, Ha30, Ga30⟩ := id V22
      have hin31 : ¬ ((0 : Int32) < 0 ∨ cl30.slots.size ≤ ((0 : Int32)).toNatClampNeg) := inb_of Sa30 ⟨by decide, by decide⟩
      obtain ⟨T31, h31, X31, e31, W31, st31⟩ := stC X22 hx hZ e22 Ar30 (j := (0 : Int32)) hin31 (g := (mkF m 32 #[vr a0, vi p1] [(.int x0), (.int 0), (.ref b22), (.ref b22), (.ref b20), (.ref b20)])) rfl rfl (hb hby d2_32)
      have V31 : Arv Z h31 b22 k22 .char (1 : Int32) [(.int (nar .char x0))] (.int 0) := Arv.set Ar30 qa30 Sa30 Na30 Ha30 Ga30 (fits_nar_char _) W31 0 rfl (Nat.le_of_ble_eq_true rfl)
      have N31 := Fr.snoc X31 N0 gb22
      refine gb (mkF m 33 #[vr a0, vi p1] [(.ref b22), (.ref b20), (.ref b20)]) st31 ?_
      have Sy32 := CHr.wr W31 Sb22 CH26.1
      have CH32 := CHr.trans CH26 Sy32
      have Sf32_b20 := Sy32.safe (Nat.lt_of_lt_of_le A20.lt Sy26.2.1) Sf26_b20
      have Sf32_b22 := Sy32.safe V22.lt Sb22
      have f34 := (Exa.wr W31 (Exa.ext E22 A20))
      have f35 := (Fld.other W31 (Fld.ext E22 D20_value) (Or.inl ne22_4))
      have f36 := (Fld.other W31 (Fld.ext E22 D20_coder) (Or.inl ne22_4))
      have O37 := ((O23.ext E22).wr W31 gb22)
      obtain ⟨_, _, ⟨T33, L33, k33, n33⟩, -, X33, ⟨Lc33, hQ33, l33, y33, z33⟩, st33⟩ := X31.specialBack hx (y := mq11) rfl hown (mvT hZ (hW hw 13 rfl)) (mvT hZ (hW hw 14 rfl)) (mvT hZ (hW hw 15 rfl)) (by decide) (backOf (W := 1) (rm3k1 l Z a0' hw [] b20 b22 k22 (nar .char x0) w1 w2 w3 G1 sf h31 n0 O37 W f34 f35 f36 gb20 V31 (by rw [hc0]; exact hx0)) hZ (hW hw 15 rfl) (hW hw 12 rfl) (by decide) (by decide)) (g := (mkF m 33 #[vr a0, vi p1] [(.ref b22), (.ref b20), (.ref b20)])) rfl (by rw [hml]; rfl) (Steps.refl _) (a := b20) (argsL := [(.ref b22)]) (rest := [(.ref b20)]) (lenOf pd264 rfl) rfl (Nat.le_of_eq rfl) (hb hby d2_33) (fun _ _ => ⟨rfl, e31, (by decide : 2 + 1 ≤ _), (by decide : 5 + 1 ≤ _)⟩)
      dsimp only [Pt.U, Pt.locs, Pt.cells, Pt.slots] at X33 l33 y33 z33 st33 hQ33
      subst l33 y33 z33
      obtain ⟨b_33, kb_33, rfl, N33q, Kc33, fc33_0, fc33_1, fc33_2⟩ := hQ33
      have N33 := Fr.app N31 N33q
      refine gb (mkF m 36 #[vr a0, vi p1] [(.ref b20)]) (fun _ k => st33.trans k) ?_
      have Sy38 := CHr.keep Kc33 (allS Sf32_b20 all0) CH32.1
      have CH38 := CHr.trans CH32 Sy38
      have Sf38_b20 := Sy38.safe (Nat.lt_of_lt_of_le (Nat.lt_of_lt_of_le A20.lt Sy26.2.1) Sy32.2.1) Sf32_b20
      have Sf38_b22 := Sy38.safe (Nat.lt_of_lt_of_le V22.lt Sy32.2.1) Sf32_b22
      have sz39 := (Nat.le_trans (Nat.le_trans (Nat.le_trans (Nat.le_trans (Nat.le_refl h0.size) E20.1) E22.1) (Nat.le_of_eq W31.size.symm)) Kc33.1)
      have K40 := (((K25.ext E22).wr W31 (Or.inr sb22)).trans Kc33 (allS (Or.inr sb20) all0))
      have f41 := (Exa.keep f34 Kc33)
      have hC42 := CHr.trans CH38 (CHv.at X33 hZ (hEL0 hw) CH38.1)
      exact Gl.outAH X33 hS sz39 hx hk Bd.returns rfl rfl (hb hby d2_36) ⟨b20, b_33, kb_33, rfl, N33, K40, f41, fc33_0, fc33_1, (stkA (l := [x0, x1, x2, x3]) hf19 (by decide : (1 : Int32).toNatClampNeg = 1) fc33_2)⟩ (by rw [hh]; exact hC42) (by decide) (by decide)
    · refine gb (mkF m 37 #[vr a0, vi p1] []) (fun _ k => XS.icmpYes X0.here hx rfl (pc0 := 17) (pc' := 37) rfl (hb hby d2_17) rfl (feq hf19).2 (by decide) (by decide) k) ?_
      refine gb (mkF m 38 #[vr a0, vi p1] [(.int p1)]) (fun _ k => XS.iloadN X0.here hx rfl (hb hby d2_37) rfl k) ?_
      refine gb (mkF m 39 #[vr a0, vi p1] [(.int 2), (.int p1)]) (fun _ k => XS.iconst X0.here hx rfl (hb hby d2_38) k) ?_
      by_cases hf43 : p1 = (2 : Int32)
      · refine gb (mkF m 42 #[vr a0, vi p1] []) (fun _ k => XS.icmpNo X0.here hx rfl (hb hby d2_39) rfl (teq hf43).2 k) ?_
        obtain ⟨T44, h44, X44, e44, E44, A44, D44, -, st44⟩ := newO X0 hx hZ hown (hW hw 10 rfl) (hW hw 11 rfl) (hW hw 12 rfl) e0 (g := (mkF m 42 #[vr a0, vi p1] [])) rfl (hb hby d2_42) (by decide) (by decide)
        obtain ⟨b44, g44⟩ : ∃ z, z = (h0).size := ⟨_, rfl⟩
        rw [← g44] at A44 D44 st44
        have gb44 : n0 ≤ b44 := Nat.le_trans (Nat.le_trans (Nat.le_of_eq O.1.symm) O.2.1) (Nat.le_of_eq g44.symm)
        have sb44 : h0.size ≤ b44 := Nat.le_trans (Keep.refl h0 []).1 (Nat.le_of_eq g44.symm)
        have ne44_0 : a0 ≠ b44 := Nat.ne_of_lt (Nat.lt_of_lt_of_le pf0.lt (Nat.le_of_eq g44.symm))
        have D44_value : Fld Z h44 b44 "java/lang/String" "value" "[B" .null := D44 (Or.inr (hW hw 25 rfl)) (ty := (.array .byte)) (by decide)
        have D44_coder : Fld Z h44 b44 "java/lang/String" "coder" "B" (.int 0) := D44 (Or.inr (hW hw 26 rfl)) (ty := .byte) (by decide)
        have Sb44 : Safe Z EL0 _ h44 b44 := Safe.ext E44 (CHr.refl hCH).1 (Safe.new (Nat.le_of_eq g44.symm))
        refine gb (mkF m 45 #[vr a0, vi p1] [(.ref b44)]) st44 ?_
        have Sy45 := CHr.ext E44 (CHr.refl hCH).1
        have CH45 := CHr.trans (CHr.refl hCH) Sy45
        refine gb (mkF m 46 #[vr a0, vi p1] [(.ref b44), (.ref b44)]) (fun _ k => XS.dup X44.here hx rfl (hb hby d2_45) rfl rfl k) ?_
        refine gb (mkF m 47 #[vr a0, vi p1] [(.int 2), (.ref b44), (.ref b44)]) (fun _ k => XS.iconst X44.here hx rfl (hb hby d2_46) k) ?_
        have O47 := (O.ext E44)
        have f48 := (Arv.ext pf0 E44)
        have K49 := ((Keep.refl h0 []).ext E44)
        obtain ⟨T46, h46, k46, X46, e46, E46, A46, st46⟩ := newP X44 hx hZ (hW hw 0 rfl) e44 (g := (mkF m 47 #[vr a0, vi p1] [(.int 2), (.ref b44), (.ref b44)])) rfl (hb hby d2_47) rfl (by decide) (cap := 2) (by decide) (by decide) (by decide) (by decide)
        obtain ⟨b46, g46⟩ : ∃ z, z = (h44).size := ⟨_, rfl⟩
        rw [← g46] at A46 st46
        have gb46 : n0 ≤ b46 := Nat.le_trans (Nat.le_trans (Nat.le_of_eq O47.1.symm) O47.2.1) (Nat.le_of_eq g46.symm)
        have sb46 : h0.size ≤ b46 := Nat.le_trans K49.1 (Nat.le_of_eq g46.symm)
        have ne46_2 : a0 ≠ b46 := Nat.ne_of_lt (Nat.lt_of_lt_of_le f48.lt (Nat.le_of_eq g46.symm))
        have ne46_4 : b44 ≠ b46 := Nat.ne_of_lt (Nat.lt_of_lt_of_le A44.lt (Nat.le_of_eq g46.symm))
        have V46 : Arv Z h46 b46 k46 .char (2 : Int32) [(.int 0), (.int 0)] (.int 0) := (Arv.new A46 (by decide)).pad (pad_rep [] (.int 0) 2)
        have Sb46 : Safe Z EL0 _ h46 b46 := Safe.ext E46 CH45.1 (Safe.new (Nat.le_of_eq g46.symm))
        refine gb (mkF m 49 #[vr a0, vi p1] [(.ref b46), (.ref b44), (.ref b44)]) st46 ?_
        have Sy50 := CHr.ext E46 CH45.1
        have CH50 := CHr.trans CH45 Sy50
        have Sf50_b44 := Sy50.safe A44.lt Sb44
        refine gb (mkF m 50 #[vr a0, vi p1] [(.ref b46), (.ref b46), (.ref b44), (.ref b44)]) (fun _ k => XS.dup X46.here hx rfl (hb hby d2_49) rfl rfl k) ?_
        refine gb (mkF m 51 #[vr a0, vi p1] [(.int 0), (.ref b46), (.ref b46), (.ref b44), (.ref b44)]) (fun _ k => XS.iconst X46.here hx rfl (hb hby d2_50) k) ?_
        refine gb (mkF m 52 #[vr a0, vi p1] [(.ref a0), (.int 0), (.ref b46), (.ref b46), (.ref b44), (.ref b44)]) (fun _ k => XS.aloadN X46.here hx rfl (hb hby d2_51) rfl rfl k) ?_
        refine gb (mkF m 53 #[vr a0, vi p1] [(.int 0), (.ref a0), (.int 0), (.ref b46), (.ref b46), (.ref b44), (.ref b44)]) (fun _ k => XS.iconst X46.here hx rfl (hb hby d2_52) k) ?_
        have f51 := (Arv.ext f48 E46)
        obtain ⟨cl52, Ar52, qa52, Sa52, Na52, Ha52, Ga52⟩ := id f51
        have hin53 : ¬ ((0 : Int32) < 0 ∨ cl52.slots.size ≤ ((0 : Int32)).toNatClampNeg) := inb_of Sa52 ⟨by decide, by decide⟩
        refine gb (mkF m 54 #[vr a0, vi p1] [(.int x0), (.int 0), (.ref b46), (.ref b46), (.ref b44), (.ref b44)]) (X46.caload hx (j := (0 : Int32)) (v := (.int x0)) (by rw [e46]; exact Ar52.1) (State.isArrayOf_alike hZ.alike Ar52.2.1) Ar52.2.2 hin53 (Has.at Ha52 hin53 rfl) (g := (mkF m 53 #[vr a0, vi p1] [(.int 0), (.ref a0), (.int 0), (.ref b46), (.ref b46), (.ref b44), (.ref b44)])) rfl rfl (hb hby d2_53)) ?_
        obtain ⟨cl54, Ar54, qa54, Sa54, Na54, Ha54, Ga54⟩ := id V46
        have hin55 : ¬ ((0 : Int32) < 0 ∨ cl54.slots.size ≤ ((0 : Int32)).toNatClampNeg) := inb_of Sa54 ⟨by decide, by decide⟩
        obtain ⟨T55, h55, X55, e55, W55, st55⟩ := stC X46 hx hZ e46 Ar54 (j := (0 : Int32)) hin55 (g := (mkF m 54 #[vr a0, vi p1] [(.int x0), (.int 0), (.ref b46), (.ref b46), (.ref b44), (.ref b44)])) rfl rfl (hb hby d2_54)
        have V55 : Arv Z h55 b46 k46 .char (2 : Int32) [(.int (nar .char x0)), (.int 0)] (.int 0) := Arv.set Ar54 qa54 Sa54 Na54 Ha54 Ga54 (fits_nar_char _) W55 0 rfl (Nat.le_of_ble_eq_true rfl)
        have N55 := Fr.snoc X55 N0 gb46
        refine gb (mkF m 55 #[vr a0, vi p1] [(.ref b46), (.ref b44), (.ref b44)]) st55 ?_
        have Sy56 := CHr.wr W55 Sb46 CH50.1
        have CH56 := CHr.trans CH50 Sy56
        have Sf56_b44 := Sy56.safe (Nat.lt_of_lt_of_le A44.lt Sy50.2.1) Sf50_b44
        have Sf56_b46 := Sy56.safe V46.lt Sb46
        refine gb (mkF m 56 #[vr a0, vi p1] [(.ref b46), (.ref b46), (.ref b44), (.ref b44)]) (fun _ k => XS.dup X55.here hx rfl (hb hby d2_55) rfl rfl k) ?_
        refine gb (mkF m 57 #[vr a0, vi p1] [(.int 1), (.ref b46), (.ref b46), (.ref b44), (.ref b44)]) (fun _ k => XS.iconst X55.here hx rfl (hb hby d2_56) k) ?_
        refine gb (mkF m 58 #[vr a0, vi p1] [(.ref a0), (.int 1), (.ref b46), (.ref b46), (.ref b44), (.ref b44)]) (fun _ k => XS.aloadN X55.here hx rfl (hb hby d2_57) rfl rfl k) ?_
        refine gb (mkF m 59 #[vr a0, vi p1] [(.int 1), (.ref a0), (.int 1), (.ref b46), (.ref b46), (.ref b44), (.ref b44)]) (fun _ k => XS.iconst X55.here hx rfl (hb hby d2_58) k) ?_
        have f57 := (Arv.other f51 W55 ne46_2)
        obtain ⟨cl58, Ar58, qa58, Sa58, Na58, Ha58, Ga58⟩ := id f57
        have hin59 : ¬ ((1 : Int32) < 0 ∨ cl58.slots.size ≤ ((1 : Int32)).toNatClampNeg) := inb_of Sa58 ⟨by decide, by decide⟩
        refine gb (mkF m 60 #[vr a0, vi p1] [(.int x1), (.int 1), (.ref b46), (.ref b46), (.ref b44), (.ref b44)]) (X55.caload hx (j := (1 : Int32)) (v := (.int x1)) (by rw [e55]; exact Ar58.1) (State.isArrayOf_alike hZ.alike Ar58.2.1) Ar58.2.2 hin59 (Has.at Ha58 hin59 rfl) (g := (mkF m 59 #[vr a0, vi p1] [(.int 1), (.ref a0), (.int 1), (.ref b46), (.ref b46), (.ref b44), (.ref b44)])) rfl rfl (hb hby d2_59)) ?_
        obtain ⟨cl60, Ar60, qa60, Sa60, Na60, Ha60, Ga60⟩ := id V55
        have hin61 : ¬ ((1 : Int32) < 0 ∨ cl60.slots.size ≤ ((1 : Int32)).toNatClampNeg) := inb_of Sa60 ⟨by decide, by decide⟩
        obtain ⟨T61, h61, X61, e61, W61, st61⟩ := stC X55 hx hZ e55 Ar60 (j := (1 : Int32)) hin61 (g := (mkF m 60 #[vr a0, vi p1] [(.int x1), (.int 1), (.ref b46), (.ref b46), (.ref b44), (.ref b44)])) rfl rfl (hb hby d2_60)
        have V61 : Arv Z h61 b46 k46 .char (2 : Int32) [(.int (nar .char x0)), (.int (nar .char x1))] (.int 0) := Arv.set Ar60 qa60 Sa60 Na60 Ha60 Ga60 (fits_nar_char _) W61 1 rfl (Nat.le_of_ble_eq_true rfl)
        have N61 := Fr.snoc X61 N55 gb46
        refine gb (mkF m 61 #[vr a0, vi p1] [(.ref b46), (.ref b44), (.ref b44)]) st61 ?_
        have Sy62 := CHr.wr W61 Sf56_b46 CH56.1
        have CH62 := CHr.trans CH56 Sy62
        have Sf62_b44 := Sy62.safe (Nat.lt_of_lt_of_le (Nat.lt_of_lt_of_le A44.lt Sy50.2.1) Sy56.2.1) Sf56_b44
        have Sf62_b46 := Sy62.safe (Nat.lt_of_lt_of_le V46.lt Sy56.2.1) Sf56_b46
        have f64 := (Exa.wr W61 (Exa.wr W55 (Exa.ext E46 A44)))
        have f65 := (Fld.other W61 (Fld.other W55 (Fld.ext E46 D44_value) (Or.inl ne46_4)) (Or.inl ne46_4))
        have f66 := (Fld.other W61 (Fld.other W55 (Fld.ext E46 D44_coder) (Or.inl ne46_4)) (Or.inl ne46_4))
        have O67 := (((O47.ext E46).wr W55 gb46).wr W61 gb46)
        obtain ⟨_, _, ⟨T63, L63, k63, n63⟩, -, X63, ⟨Lc63, hQ63, l63, y63, z63⟩, st63⟩ := X61.specialBack hx (y := mq11) rfl hown (mvT hZ (hW hw 13 rfl)) (mvT hZ (hW hw 14 rfl)) (mvT hZ (hW hw 15 rfl)) (by decide) (backOf (W := 1) (rm3k2 l Z a0' hw [] b44 b46 k46 (nar .char x0) (nar .char x1) w1 w2 w3 G1 sf h61 n0 O67 W f64 f65 f66 gb44 V61 (by rw [hc0]; exact hx0) (by rw [hc1]; exact hx1)) hZ (hW hw 15 rfl) (hW hw 12 rfl) (by decide) (by decide)) (g := (mkF m 61 #[vr a0, vi p1] [(.ref b46), (.ref b44), (.ref b44)])) rfl (by rw [hml]; rfl) (Steps.refl _) (a := b44) (argsL := [(.ref b46)]) (rest := [(.ref b44)]) (lenOf pd264 rfl) rfl (Nat.le_of_eq rfl) (hb hby d2_61) (fun _ _ => ⟨rfl, e61, (by decide : 2 + 1 ≤ _), (by decide : 6 + 2 ≤ _)⟩)
        dsimp only [Pt.U, Pt.locs, Pt.cells, Pt.slots] at X63 l63 y63 z63 st63 hQ63
        subst l63 y63 z63
        obtain ⟨b_63, kb_63, rfl, N63q, Kc63, fc63_0, fc63_1, fc63_2⟩ := hQ63
        have N63 := Fr.app N61 N63q
        refine gb (mkF m 64 #[vr a0, vi p1] [(.ref b44)]) (fun _ k => st63.trans k) ?_
        have Sy68 := CHr.keep Kc63 (allS Sf62_b44 all0) CH62.1
        have CH68 := CHr.trans CH62 Sy68
        have Sf68_b44 := Sy68.safe (Nat.lt_of_lt_of_le (Nat.lt_of_lt_of_le (Nat.lt_of_lt_of_le A44.lt Sy50.2.1) Sy56.2.1) Sy62.2.1) Sf62_b44
        have Sf68_b46 := Sy68.safe (Nat.lt_of_lt_of_le (Nat.lt_of_lt_of_le V46.lt Sy56.2.1) Sy62.2.1) Sf62_b46
        have sz69 := (Nat.le_trans (Nat.le_trans (Nat.le_trans (Nat.le_trans (Nat.le_trans (Nat.le_refl h0.size) E44.1) E46.1) (Nat.le_of_eq W55.size.symm)) (Nat.le_of_eq W61.size.symm)) Kc63.1)
        have K70 := ((((K49.ext E46).wr W55 (Or.inr sb46)).wr W61 (Or.inr sb46)).trans Kc63 (allS (Or.inr sb44) all0))
        have f71 := (Exa.keep f64 Kc63)
        have hC72 := CHr.trans CH68 (CHv.at X63 hZ (hEL0 hw) CH68.1)
        exact Gl.outAH X63 hS sz69 hx hk Bd.returns rfl rfl (hb hby d2_64) ⟨b44, b_63, kb_63, rfl, N63, K70, f71, fc63_0, fc63_1, (stkA (l := [x0, x1, x2, x3]) hf43 (by decide : (2 : Int32).toNatClampNeg = 2) fc63_2)⟩ (by rw [hh]; exact hC72) (by decide) (by decide)
      · refine gb (mkF m 65 #[vr a0, vi p1] []) (fun _ k => XS.icmpYes X0.here hx rfl (pc0 := 39) (pc' := 65) rfl (hb hby d2_39) rfl (feq hf43).2 (by decide) (by decide) k) ?_
        refine gb (mkF m 66 #[vr a0, vi p1] [(.int p1)]) (fun _ k => XS.iloadN X0.here hx rfl (hb hby d2_65) rfl k) ?_
        refine gb (mkF m 67 #[vr a0, vi p1] [(.int 3), (.int p1)]) (fun _ k => XS.iconst X0.here hx rfl (hb hby d2_66) k) ?_
        by_cases hf73 : p1 = (3 : Int32)
        · refine gb (mkF m 70 #[vr a0, vi p1] []) (fun _ k => XS.icmpNo X0.here hx rfl (hb hby d2_67) rfl (teq hf73).2 k) ?_
          obtain ⟨T74, h74, X74, e74, E74, A74, D74, -, st74⟩ := newO X0 hx hZ hown (hW hw 10 rfl) (hW hw 11 rfl) (hW hw 12 rfl) e0 (g := (mkF m 70 #[vr a0, vi p1] [])) rfl (hb hby d2_70) (by decide) (by decide)
          obtain ⟨b74, g74⟩ : ∃ z, z = (h0).size := ⟨_, rfl⟩
          rw [← g74] at A74 D74 st74
          have gb74 : n0 ≤ b74 := Nat.le_trans (Nat.le_trans (Nat.le_of_eq O.1.symm) O.2.1) (Nat.le_of_eq g74.symm)
          have sb74 : h0.size ≤ b74 := Nat.le_trans (Keep.refl h0 []).1 (Nat.le_of_eq g74.symm)
          have ne74_0 : a0 ≠ b74 := Nat.ne_of_lt (Nat.lt_of_lt_of_le pf0.lt (Nat.le_of_eq g74.symm))
          have D74_value : Fld Z h74 b74 "java/lang/String" "value" "[B" .null := D74 (Or.inr (hW hw 25 rfl)) (ty := (.array .byte)) (by decide)
          have D74_coder : Fld Z h74 b74 "java/lang/String" "coder" "B" (.int 0) := D74 (Or.inr (hW hw 26 rfl)) (ty := .byte) (by decide)
          have Sb74 : Safe Z EL0 _ h74 b74 := Safe.ext E74 (CHr.refl hCH).1 (Safe.new (Nat.le_of_eq g74.symm))
          refine gb (mkF m 73 #[vr a0, vi p1] [(.ref b74)]) st74 ?_
          have Sy75 := CHr.ext E74 (CHr.refl hCH).1
          have CH75 := CHr.trans (CHr.refl hCH) Sy75
          refine gb (mkF m 74 #[vr a0, vi p1] [(.ref b74), (.ref b74)]) (fun _ k => XS.dup X74.here hx rfl (hb hby d2_73) rfl rfl k) ?_
          refine gb (mkF m 75 #[vr a0, vi p1] [(.int 3), (.ref b74), (.ref b74)]) (fun _ k => XS.iconst X74.here hx rfl (hb hby d2_74) k) ?_
          have O77 := (O.ext E74)
          have f78 := (Arv.ext pf0 E74)
          have K79 := ((Keep.refl h0 []).ext E74)
          obtain ⟨T76, h76, k76, X76, e76, E76, A76, st76⟩ := newP X74 hx hZ (hW hw 0 rfl) e74 (g := (mkF m 75 #[vr a0, vi p1] [(.int 3), (.ref b74), (.ref b74)])) rfl (hb hby d2_75) rfl (by decide) (cap := 3) (by decide) (by decide) (by decide) (by decide)
          obtain ⟨b76, g76⟩ : ∃ z, z = (h74).size := ⟨_, rfl⟩
          rw [← g76] at A76 st76
          have gb76 : n0 ≤ b76 := Nat.le_trans (Nat.le_trans (Nat.le_of_eq O77.1.symm) O77.2.1) (Nat.le_of_eq g76.symm)
          have sb76 : h0.size ≤ b76 := Nat.le_trans K79.1 (Nat.le_of_eq g76.symm)
          have ne76_2 : a0 ≠ b76 := Nat.ne_of_lt (Nat.lt_of_lt_of_le f78.lt (Nat.le_of_eq g76.symm))
          have ne76_4 : b74 ≠ b76 := Nat.ne_of_lt (Nat.lt_of_lt_of_le A74.lt (Nat.le_of_eq g76.symm))
          have V76 : Arv Z h76 b76 k76 .char (3 : Int32) [(.int 0), (.int 0), (.int 0)] (.int 0) := (Arv.new A76 (by decide)).pad (pad_rep [] (.int 0) 3)
          have Sb76 : Safe Z EL0 _ h76 b76 := Safe.ext E76 CH75.1 (Safe.new (Nat.le_of_eq g76.symm))
          refine gb (mkF m 77 #[vr a0, vi p1] [(.ref b76), (.ref b74), (.ref b74)]) st76 ?_
          have Sy80 := CHr.ext E76 CH75.1
          have CH80 := CHr.trans CH75 Sy80
          have Sf80_b74 := Sy80.safe A74.lt Sb74
          refine gb (mkF m 78 #[vr a0, vi p1] [(.ref b76), (.ref b76), (.ref b74), (.ref b74)]) (fun _ k => XS.dup X76.here hx rfl (hb hby d2_77) rfl rfl k) ?_
          refine gb (mkF m 79 #[vr a0, vi p1] [(.int 0), (.ref b76), (.ref b76), (.ref b74), (.ref b74)]) (fun _ k => XS.iconst X76.here hx rfl (hb hby d2_78) k) ?_
          refine gb (mkF m 80 #[vr a0, vi p1] [(.ref a0), (.int 0), (.ref b76), (.ref b76), (.ref b74), (.ref b74)]) (fun _ k => XS.aloadN X76.here hx rfl (hb hby d2_79) rfl rfl k) ?_
          refine gb (mkF m 81 #[vr a0, vi p1] [(.int 0), (.ref a0), (.int 0), (.ref b76), (.ref b76), (.ref b74), (.ref b74)]) (fun _ k => XS.iconst X76.here hx rfl (hb hby d2_80) k) ?_
          have f81 := (Arv.ext f78 E76)
          obtain ⟨cl82, Ar82, qa82, Sa82, Na82, Ha82, Ga82⟩ := id f81
          have hin83 : ¬ ((0 : Int32) < 0 ∨ cl82.slots.size ≤ ((0 : Int32)).toNatClampNeg) := inb_of Sa82 ⟨by decide, by decide⟩
          refine gb (mkF m 82 #[vr a0, vi p1] [(.int x0), (.int 0), (.ref b76), (.ref b76), (.ref b74), (.ref b74)]) (X76.caload hx (j := (0 : Int32)) (v := (.int x0)) (by rw [e76]; exact Ar82.1) (State.isArrayOf_alike hZ.alike Ar82.2.1) Ar82.2.2 hin83 (Has.at Ha82 hin83 rfl) (g := (mkF m 81 #[vr a0, vi p1] [(.int 0), (.ref a0), (.int 0), (.ref b76), (.ref b76), (.ref b74), (.ref b74)])) rfl rfl (hb hby d2_81)) ?_
          obtain ⟨cl84, Ar84, qa84, Sa84, Na84, Ha84, Ga84⟩ := id V76
          have hin85 : ¬ ((0 : Int32) < 0 ∨ cl84.slots.size ≤ ((0 : Int32)).toNatClampNeg) := inb_of Sa84 ⟨by decide, by decide⟩
          obtain ⟨T85, h85, X85, e85, W85, st85⟩ := stC X76 hx hZ e76 Ar84 (j := (0 : Int32)) hin85 (g := (mkF m 82 #[vr a0, vi p1] [(.int x0), (.int 0), (.ref b76), (.ref b76), (.ref b74), (.ref b74)])) rfl rfl (hb hby d2_82)
          have V85 : Arv Z h85 b76 k76 .char (3 : Int32) [(.int (nar .char x0)), (.int 0), (.int 0)] (.int 0) := Arv.set Ar84 qa84 Sa84 Na84 Ha84 Ga84 (fits_nar_char _) W85 0 rfl (Nat.le_of_ble_eq_true rfl)
          have N85 := Fr.snoc X85 N0 gb76
          refine gb (mkF m 83 #[vr a0, vi p1] [(.ref b76), (.ref b74), (.ref b74)]) st85 ?_
          have Sy86 := CHr.wr W85 Sb76 CH80.1
          have CH86 := CHr.trans CH80 Sy86
          have Sf86_b74 := Sy86.safe (Nat.lt_of_lt_of_le A74.lt Sy80.2.1) Sf80_b74
          have Sf86_b76 := Sy86.safe V76.lt Sb76
          refine gb (mkF m 84 #[vr a0, vi p1] [(.ref b76), (.ref b76), (.ref b74), (.ref b74)]) (fun _ k => XS.dup X85.here hx rfl (hb hby d2_83) rfl rfl k) ?_
          refine gb (mkF m 85 #[vr a0, vi p1] [(.int 1), (.ref b76), (.ref b76), (.ref b74), (.ref b74)]) (fun _ k => XS.iconst X85.here hx rfl (hb hby d2_84) k) ?_
          refine gb (mkF m 86 #[vr a0, vi p1] [(.ref a0), (.int 1), (.ref b76), (.ref b76), (.ref b74), (.ref b74)]) (fun _ k => XS.aloadN X85.here hx rfl (hb hby d2_85) rfl rfl k) ?_
          refine gb (mkF m 87 #[vr a0, vi p1] [(.int 1), (.ref a0), (.int 1), (.ref b76), (.ref b76), (.ref b74), (.ref b74)]) (fun _ k => XS.iconst X85.here hx rfl (hb hby d2_86) k) ?_
          have f87 := (Arv.other f81 W85 ne76_2)
          obtain ⟨cl88, Ar88, qa88, Sa88, Na88, Ha88, Ga88⟩ := id f87
          have hin89 : ¬ ((1 : Int32) < 0 ∨ cl88.slots.size ≤ ((1 : Int32)).toNatClampNeg) := inb_of Sa88 ⟨by decide, by decide⟩
          refine gb (mkF m 88 #[vr a0, vi p1] [(.int x1), (.int 1), (.ref b76), (.ref b76), (.ref b74), (.ref b74)]) (X85.caload hx (j := (1 : Int32)) (v := (.int x1)) (by rw [e85]; exact Ar88.1) (State.isArrayOf_alike hZ.alike Ar88.2.1) Ar88.2.2 hin89 (Has.at Ha88 hin89 rfl) (g := (mkF m 87 #[vr a0, vi p1] [(.int 1), (.ref a0), (.int 1), (.ref b76), (.ref b76), (.ref b74), (.ref b74)])) rfl rfl (hb hby d2_87)) ?_
          obtain ⟨cl90, Ar90, qa90, Sa90, Na90, Ha90, Ga90⟩ := id V85
          have hin91 : ¬ ((1 : Int32) < 0 ∨ cl90.slots.size ≤ ((1 : Int32)).toNatClampNeg) := inb_of Sa90 ⟨by decide, by decide⟩
          obtain ⟨T91, h91, X91, e91, W91, st91⟩ := stC X85 hx hZ e85 Ar90 (j := (1 : Int32)) hin91 (g := (mkF m 88 #[vr a0, vi p1] [(.int x1), (.int 1), (.ref b76), (.ref b76), (.ref b74), (.ref b74)])) rfl rfl (hb hby d2_88)
          have V91 : Arv Z h91 b76 k76 .char (3 : Int32) [(.int (nar .char x0)), (.int (nar .char x1)), (.int 0)] (.int 0) := Arv.set Ar90 qa90 Sa90 Na90 Ha90 Ga90 (fits_nar_char _) W91 1 rfl (Nat.le_of_ble_eq_true rfl)
          have N91 := Fr.snoc X91 N85 gb76
          refine gb (mkF m 89 #[vr a0, vi p1] [(.ref b76), (.ref b74), (.ref b74)]) st91 ?_
          have Sy92 := CHr.wr W91 Sf86_b76 CH86.1
          have CH92 := CHr.trans CH86 Sy92
          have Sf92_b74 := Sy92.safe (Nat.lt_of_lt_of_le (Nat.lt_of_lt_of_le A74.lt Sy80.2.1) Sy86.2.1) Sf86_b74
          have Sf92_b76 := Sy92.safe (Nat.lt_of_lt_of_le V76.lt Sy86.2.1) Sf86_b76
          refine gb (mkF m 90 #[vr a0, vi p1] [(.ref b76), (.ref b76), (.ref b74), (.ref b74)]) (fun _ k => XS.dup X91.here hx rfl (hb hby d2_89) rfl rfl k) ?_
          refine gb (mkF m 91 #[vr a0, vi p1] [(.int 2), (.ref b76), (.ref b76), (.ref b74), (.ref b74)]) (fun _ k => XS.iconst X91.here hx rfl (hb hby d2_90) k) ?_
          refine gb (mkF m 92 #[vr a0, vi p1] [(.ref a0), (.int 2), (.ref b76), (.ref b76), (.ref b74), (.ref b74)]) (fun _ k => XS.aloadN X91.here hx rfl (hb hby d2_91) rfl rfl k) ?_
          refine gb (mkF m 93 #[vr a0, vi p1] [(.int 2), (.ref a0), (.int 2), (.ref b76), (.ref b76), (.ref b74), (.ref b74)]) (fun _ k => XS.iconst X91.here hx rfl (hb hby d2_92) k) ?_
          have f93 := (Arv.other f87 W91 ne76_2)
          obtain ⟨cl94, Ar94, qa94, Sa94, Na94, Ha94, Ga94⟩ := id f93
          have hin95 : ¬ ((2 : Int32) < 0 ∨ cl94.slots.size ≤ ((2 : Int32)).toNatClampNeg) := inb_of Sa94 ⟨by decide, by decide⟩
          refine gb (mkF m 94 #[vr a0, vi p1] [(.int x2), (.int 2), (.ref b76), (.ref b76), (.ref b74), (.ref b74)]) (X91.caload hx (j := (2 : Int32)) (v := (.int x2)) (by rw [e91]; exact Ar94.1) (State.isArrayOf_alike hZ.alike Ar94.2.1) Ar94.2.2 hin95 (Has.at Ha94 hin95 rfl) (g := (mkF m 93 #[vr a0, vi p1] [(.int 2), (.ref a0), (.int 2), (.ref b76), (.ref b76), (.ref b74), (.ref b74)])) rfl rfl (hb hby d2_93)) ?_
          obtain ⟨cl96, Ar96, qa96, Sa96, Na96, Ha96, Ga96⟩ := id V91
          have hin97 : ¬ ((2 : Int32) < 0 ∨ cl96.slots.size ≤ ((2 : Int32)).toNatClampNeg) := inb_of Sa96 ⟨by decide, by decide⟩
          obtain ⟨T97, h97, X97, e97, W97, st97⟩ := stC X91 hx hZ e91 Ar96 (j := (2 : Int32)) hin97 (g := (mkF m 94 #[vr a0, vi p1] [(.int x2), (.int 2), (.ref b76), (.ref b76), (.ref b74), (.ref b74)])) rfl rfl (hb hby d2_94)
          have V97 : Arv Z h97 b76 k76 .char (3 : Int32) [(.int (nar .char x0)), (.int (nar .char x1)), (.int (nar .char x2))] (.int 0) := Arv.set Ar96 qa96 Sa96 Na96 Ha96 Ga96 (fits_nar_char _) W97 2 rfl (Nat.le_of_ble_eq_true rfl)
          have N97 := Fr.snoc X97 N91 gb76
          refine gb (mkF m 95 #[vr a0, vi p1] [(.ref b76), (.ref b74), (.ref b74)]) st97 ?_
          have Sy98 := CHr.wr W97 Sf92_b76 CH92.1
          have CH98 := CHr.trans CH92 Sy98
          have Sf98_b74 := Sy98.safe (Nat.lt_of_lt_of_le (Nat.lt_of_lt_of_le (Nat.lt_of_lt_of_le A74.lt Sy80.2.1) Sy86.2.1) Sy92.2.1) Sf92_b74
          have Sf98_b76 := Sy98.safe (Nat.lt_of_lt_of_le (Nat.lt_of_lt_of_le V76.lt Sy86.2.1) Sy92.2.1) Sf92_b76
          have f100 := (Exa.wr W97 (Exa.wr W91 (Exa.wr W85 (Exa.ext E76 A74))))
          have f101 := (Fld.other W97 (Fld.other W91 (Fld.other W85 (Fld.ext E76 D74_value) (Or.inl ne76_4)) (Or.inl ne76_4)) (Or.inl ne76_4))
          have f102 := (Fld.other W97 (Fld.other W91 (Fld.other W85 (Fld.ext E76 D74_coder) (Or.inl ne76_4)) (Or.inl ne76_4)) (Or.inl ne76_4))
          have O103 := ((((O77.ext E76).wr W85 gb76).wr W91 gb76).wr W97 gb76)
          obtain ⟨_, _, ⟨T99, L99, k99, n99⟩, -, X99, ⟨Lc99, hQ99, l99, y99, z99⟩, st99⟩ := X97.specialBack hx (y := mq11) rfl hown (mvT hZ (hW hw 13 rfl)) (mvT hZ (hW hw 14 rfl)) (mvT hZ (hW hw 15 rfl)) (by decide) (backOf (W := 1) (rm3k3 l Z a0' hw [] b74 b76 k76 (nar .char x0) (nar .char x1) (nar .char x2) w1 w2 w3 G1 sf h97 n0 O103 W f100 f101 f102 gb74 V97 (by rw [hc0]; exact hx0) (by rw [hc1]; exact hx1) (by rw [hc2]; exact hx2)) hZ (hW hw 15 rfl) (hW hw 12 rfl) (by decide) (by decide)) (g := (mkF m 95 #[vr a0, vi p1] [(.ref b76), (.ref b74), (.ref b74)])) rfl (by rw [hml]; rfl) (Steps.refl _) (a := b74) (argsL := [(.ref b76)]) (rest := [(.ref b74)]) (lenOf pd264 rfl) rfl (Nat.le_of_eq rfl) (hb hby d2_95) (fun _ _ => ⟨rfl, e97, (by decide : 2 + 1 ≤ _), (by decide : 7 + 3 ≤ _)⟩)
          dsimp only [Pt.U, Pt.locs, Pt.cells, Pt.slots] at X99 l99 y99 z99 st99 hQ99
          subst l99 y99 z99
          obtain ⟨b_99, kb_99, rfl, N99q, Kc99, fc99_0, fc99_1, fc99_2⟩ := hQ99
          have N99 := Fr.app N97 N99q
          refine gb (mkF m 98 #[vr a0, vi p1] [(.ref b74)]) (fun _ k => st99.trans k) ?_
          have Sy104 := CHr.keep Kc99 (allS Sf98_b74 all0) CH98.1
          have CH104 := CHr.trans CH98 Sy104
          have Sf104_b74 := Sy104.safe (Nat.lt_of_lt_of_le (Nat.lt_of_lt_of_le (Nat.lt_of_lt_of_le (Nat.lt_of_lt_of_le A74.lt Sy80.2.1) Sy86.2.1) Sy92.2.1) Sy98.2.1) Sf98_b74
          have Sf104_b76 := Sy104.safe (Nat.lt_of_lt_of_le (Nat.lt_of_lt_of_le (Nat.lt_of_lt_of_le V76.lt Sy86.2.1) Sy92.2.1) Sy98.2.1) Sf98_b76
          have sz105 := (Nat.le_trans (Nat.le_trans (Nat.le_trans (Nat.le_trans (Nat.le_trans (Nat.le_trans (Nat.le_refl h0.size) E74.1) E76.1) (Nat.le_of_eq W85.size.symm)) (Nat.le_of_eq W91.size.symm)) (Nat.le_of_eq W97.size.symm)) Kc99.1)
          have K106 := (((((K79.ext E76).wr W85 (Or.inr sb76)).wr W91 (Or.inr sb76)).wr W97 (Or.inr sb76)).trans Kc99 (allS (Or.inr sb74) all0))
          have f107 := (Exa.keep f100 Kc99)
          have hC108 := CHr.trans CH104 (CHv.at X99 hZ (hEL0 hw) CH104.1)
          exact Gl.outAH X99 hS sz105 hx hk Bd.returns rfl rfl (hb hby d2_98) ⟨b74, b_99, kb_99, rfl, N99, K106, f107, fc99_0, fc99_1, (stkA (l := [x0, x1, x2, x3]) hf73 (by decide : (3 : Int32).toNatClampNeg = 3) fc99_2)⟩ (by rw [hh]; exact hC108) (by decide) (by decide)
        · refine gb (mkF m 99 #[vr a0, vi p1] []) (fun _ k => XS.icmpYes X0.here hx rfl (pc0 := 67) (pc' := 99) rfl (hb hby d2_67) rfl (feq hf73).2 (by decide) (by decide) k) ?_
          obtain ⟨T109, h109, X109, e109, E109, A109, D109, -, st109⟩ := newO X0 hx hZ hown (hW hw 10 rfl) (hW hw 11 rfl) (hW hw 12 rfl) e0 (g := (mkF m 99 #[vr a0, vi p1] [])) rfl (hb hby d2_99) (by decide) (by decide)
          obtain ⟨b109, g109⟩ : ∃ z, z = (h0).size := ⟨_, rfl⟩
          rw [← g109] at A109 D109 st109
          have gb109 : n0 ≤ b109 := Nat.le_trans (Nat.le_trans (Nat.le_of_eq O.1.symm) O.2.1) (Nat.le_of_eq g109.symm)
          have sb109 : h0.size ≤ b109 := Nat.le_trans (Keep.refl h0 []).1 (Nat.le_of_eq g109.symm)
          have ne109_0 : a0 ≠ b109 := Nat.ne_of_lt (Nat.lt_of_lt_of_le pf0.lt (Nat.le_of_eq g109.symm))
          have D109_value : Fld Z h109 b109 "java/lang/String" "value" "[B" .null := D109 (Or.inr (hW hw 25 rfl)) (ty := (.array .byte)) (by decide)
          have D109_coder : Fld Z h109 b109 "java/lang/String" "coder" "B" (.int 0) := D109 (Or.inr (hW hw 26 rfl)) (ty := .byte) (by decide)
          have Sb109 : Safe Z EL0 _ h109 b109 := Safe.ext E109 (CHr.refl hCH).1 (Safe.new (Nat.le_of_eq g109.symm))
          refine gb (mkF m 102 #[vr a0, vi p1] [(.ref b109)]) st109 ?_
          have Sy110 := CHr.ext E109 (CHr.refl hCH).1
          have CH110 := CHr.trans (CHr.refl hCH) Sy110
          refine gb (mkF m 103 #[vr a0, vi p1] [(.ref b109), (.ref b109)]) (fun _ k => XS.dup X109.here hx rfl (hb hby d2_102) rfl rfl k) ?_
          refine gb (mkF m 104 #[vr a0, vi p1] [(.int 4), (.ref b109), (.ref b109)]) (fun _ k => XS.iconst X109.here hx rfl (hb hby d2_103) k) ?_
          have O112 := (O.ext E109)
          have f113 := (Arv.ext pf0 E109)
          have K114 := ((Keep.refl h0 []).ext E109)
          obtain ⟨T111, h111, k111, X111, e111, E111, A111, st111⟩ := newP X109 hx hZ (hW hw 0 rfl) e109 (g := (mkF m 104 #[vr a0, vi p1] [(.int 4), (.ref b109), (.ref b109)])) rfl (hb hby d2_104) rfl (by decide) (cap := 4) (by decide) (by decide) (by decide) (by decide)
          obtain ⟨b111, g111⟩ : ∃ z, z = (h109).size := ⟨_, rfl⟩
          rw [← g111] at A111 st111
          have gb111 : n0 ≤ b111 := Nat.le_trans (Nat.le_trans (Nat.le_of_eq O112.1.symm) O112.2.1) (Nat.le_of_eq g111.symm)
          have sb111 : h0.size ≤ b111 := Nat.le_trans K114.1 (Nat.le_of_eq g111.symm)
          have ne111_2 : a0 ≠ b111 := Nat.ne_of_lt (Nat.lt_of_lt_of_le f113.lt (Nat.le_of_eq g111.symm))
          have ne111_4 : b109 ≠ b111 := Nat.ne_of_lt (Nat.lt_of_lt_of_le A109.lt (Nat.le_of_eq g111.symm))
          have V111 : Arv Z h111 b111 k111 .char (4 : Int32) [(.int 0), (.int 0), (.int 0), (.int 0)] (.int 0) := (Arv.new A111 (by decide)).pad (pad_rep [] (.int 0) 4)
          have Sb111 : Safe Z EL0 _ h111 b111 := Safe.ext E111 CH110.1 (Safe.new (Nat.le_of_eq g111.symm))
          refine gb (mkF m 106 #[vr a0, vi p1] [(.ref b111), (.ref b109), (.ref b109)]) st111 ?_
          have Sy115 := CHr.ext E111 CH110.1
          have CH115 := CHr.trans CH110 Sy115
          have Sf115_b109 := Sy115.safe A109.lt Sb109
          refine gb (mkF m 107 #[vr a0, vi p1] [(.ref b111), (.ref b111), (.ref b109), (.ref b109)]) (fun _ k => XS.dup X111.here hx rfl (hb hby d2_106) rfl rfl k) ?_
          refine gb (mkF m 108 #[vr a0, vi p1] [(.int 0), (.ref b111), (.ref b111), (.ref b109), (.ref b109)]) (fun _ k => XS.iconst X111.here hx rfl (hb hby d2_107) k) ?_
          refine gb (mkF m 109 #[vr a0, vi p1] [(.ref a0), (.int 0), (.ref b111), (.ref b111), (.ref b109), (.ref b109)]) (fun _ k => XS.aloadN X111.here hx rfl (hb hby d2_108) rfl rfl k) ?_
          refine gb (mkF m 110 #[vr a0, vi p1] [(.int 0), (.ref a0), (.int 0), (.ref b111), (.ref b111), (.ref b109), (.ref b109)]) (fun _ k => XS.iconst X111.here hx rfl (hb hby d2_109) k) ?_
          have f116 := (Arv.ext f113 E111)
          obtain ⟨cl117, Ar117, qa117, Sa117, Na117, Ha117, Ga117⟩ := id f116
          have hin118 : ¬ ((0 : Int32) < 0 ∨ cl117.slots.size ≤ ((0 : Int32)).toNatClampNeg) := inb_of Sa117 ⟨by decide, by decide⟩
          refine gb (mkF m 111 #[vr a0, vi p1] [(.int x0), (.int 0), (.ref b111), (.ref b111), (.ref b109), (.ref b109)]) (X111.caload hx (j := (0 : Int32)) (v := (.int x0)) (by rw [e111]; exact Ar117.1) (State.isArrayOf_alike hZ.alike Ar117.2.1) Ar117.2.2 hin118 (Has.at Ha117 hin118 rfl) (g := (mkF m 110 #[vr a0, vi p1] [(.int 0), (.ref a0), (.int 0), (.ref b111), (.ref b111), (.ref b109), (.ref b109)])) rfl rfl (hb hby d2_110)) ?_
          obtain ⟨cl119, Ar119, qa119, Sa119, Na119, Ha119, Ga119⟩ := id V111
          have hin120 : ¬ ((0 : Int32) < 0 ∨ cl119.slots.size ≤ ((0 : Int32)).toNatClampNeg) := inb_of Sa119 ⟨by decide, by decide⟩
          obtain ⟨T120, h120, X120, e120, W120, st120⟩ := stC X111 hx hZ e111 Ar119 (j := (0 : Int32)) hin120 (g := (mkF m 111 #[vr a0, vi p1] [(.int x0), (.int 0), (.ref b111), (.ref b111), (.ref b109), (.ref b109)])) rfl rfl (hb hby d2_111)
          have V120 : Arv Z h120 b111 k111 .char (4 : Int32) [(.int (nar .char x0)), (.int 0), (.int 0), (.int 0)] (.int 0) := Arv.set Ar119 qa119 Sa119 Na119 Ha119 Ga119 (fits_nar_char _) W120 0 rfl (Nat.le_of_ble_eq_true rfl)
          have N120 := Fr.snoc X120 N0 gb111
          refine gb (mkF m 112 #[vr a0, vi p1] [(.ref b111), (.ref b109), (.ref b109)]) st120 ?_
          have Sy121 := CHr.wr W120 Sb111 CH115.1
          have CH121 := CHr.trans CH115 Sy121
          have Sf121_b109 := Sy121.safe (Nat.lt_of_lt_of_le A109.lt Sy115.2.1) Sf115_b109
          have Sf121_b111 := Sy121.safe V111.lt Sb111
          refine gb (mkF m 113 #[vr a0, vi p1] [(.ref b111), (.ref b111), (.ref b109), (.ref b109)]) (fun _ k => XS.dup X120.here hx rfl (hb hby d2_112) rfl rfl k) ?_
          refine gb (mkF m 114 #[vr a0, vi p1] [(.int 1), (.ref b111), (.ref b111), (.ref b109), (.ref b109)]) (fun _ k => XS.iconst X120.here hx rfl (hb hby d2_113) k) ?_
          refine gb (mkF m 115 #[vr a0, vi p1] [(.ref a0), (.int 1), (.ref b111), (.ref b111), (.ref b109), (.ref b109)]) (fun _ k => XS.aloadN X120.here hx rfl (hb hby d2_114) rfl rfl k) ?_
          refine gb (mkF m 116 #[vr a0, vi p1] [(.int 1), (.ref a0), (.int 1), (.ref b111), (.ref b111), (.ref b109), (.ref b109)]) (fun _ k => XS.iconst X120.here hx rfl (hb hby d2_115) k) ?_
          have f122 := (Arv.other f116 W120 ne111_2)
          obtain ⟨cl123, Ar123, qa123, Sa123, Na123, Ha123, Ga123⟩ := id f122
          have hin124 : ¬ ((1 : Int32) < 0 ∨ cl123.slots.size ≤ ((1 : Int32)).toNatClampNeg) := inb_of Sa123 ⟨by decide, by decide⟩
          refine gb (mkF m 117 #[vr a0, vi p1] [(.int x1), (.int 1), (.ref b111), (.ref b111), (.ref b109), (.ref b109)]) (X120.caload hx (j := (1 : Int32)) (v := (.int x1)) (by rw [e120]; exact Ar123.1) (State.isArrayOf_alike hZ.alike Ar123.2.1) Ar123.2.2 hin124 (Has.at Ha123 hin124 rfl) (g := (mkF m 116 #[vr a0, vi p1] [(.int 1), (.ref a0), (.int 1), (.ref b111), (.ref b111), (.ref b109), (.ref b109)])) rfl rfl (hb hby d2_116)) ?_
          obtain ⟨cl125, Ar125, qa125, Sa125, Na125, Ha125, Ga125⟩ := id V120
          have hin126 : ¬ ((1 : Int32) < 0 ∨ cl125.slots.size ≤ ((1 : Int32)).toNatClampNeg) := inb_of Sa125 ⟨by decide, by decide⟩
          obtain ⟨T126, h126, X126, e126, W126, st126⟩ := stC X120 hx hZ e120 Ar125 (j := (1 : Int32)) hin126 (g := (mkF m 117 #[vr a0, vi p1] [(.int x1), (.int 1), (.ref b111), (.ref b111), (.ref b109), (.ref b109)])) rfl rfl (hb hby d2_117)
          have V126 : Arv Z h126 b111 k111 .char (4 : Int32) [(.int (nar .char x0)), (.int (nar .char x1)), (.int 0), (.int 0)] (.int 0) := Arv.set Ar125 qa125 Sa125 Na125 Ha125 Ga125 (fits_nar_char _) W126 1 rfl (Nat.le_of_ble_eq_true rfl)
          have N126 := Fr.snoc X126 N120 gb111
          refine gb (mkF m 118 #[vr a0, vi p1] [(.ref b111), (.ref b109), (.ref b109)]) st126 ?_
          have Sy127 := CHr.wr W126 Sf121_b111 CH121.1
          have CH127 := CHr.trans CH121 Sy127
          have Sf127_b109 := Sy127.safe (Nat.lt_of_lt_of_le (Nat.lt_of_lt_of_le A109.lt Sy115.2.1) Sy121.2.1) Sf121_b109
          have Sf127_b111 := Sy127.safe (Nat.lt_of_lt_of_le V111.lt Sy121.2.1) Sf121_b111
          refine gb (mkF m 119 #[vr a0, vi p1] [(.ref b111), (.ref b111), (.ref b109), (.ref b109)]) (fun _ k => XS.dup X126.here hx rfl (hb hby d2_118) rfl rfl k) ?_
          refine gb (mkF m 120 #[vr a0, vi p1] [(.int 2), (.ref b111), (.ref b111), (.ref b109), (.ref b109)]) (fun _ k => XS.iconst X126.here hx rfl (hb hby d2_119) k) ?_
          refine gb (mkF m 121 #[vr a0, vi p1] [(.ref a0), (.int 2), (.ref b111), (.ref b111), (.ref b109), (.ref b109)]) (fun _ k => XS.aloadN X126.here hx rfl (hb hby d2_120) rfl rfl k) ?_
          refine gb (mkF m 122 #[vr a0, vi p1] [(.int 2), (.ref a0), (.int 2), (.ref b111), (.ref b111), (.ref b109), (.ref b109)]) (fun _ k => XS.iconst X126.here hx rfl (hb hby d2_121) k) ?_
          have f128 := (Arv.other f122 W126 ne111_2)
          obtain ⟨cl129, Ar129, qa129, Sa129, Na129, Ha129, Ga129⟩ := id f128
          have hin130 : ¬ ((2 : Int32) < 0 ∨ cl129.slots.size ≤ ((2 : Int32)).toNatClampNeg) := inb_of Sa129 ⟨by decide, by decide⟩
          refine gb (mkF m 123 #[vr a0, vi p1] [(.int x2), (.int 2), (.ref b111), (.ref b111), (.ref b109), (.ref b109)]) (X126.caload hx (j := (2 : Int32)) (v := (.int x2)) (by rw [e126]; exact Ar129.1) (State.isArrayOf_alike hZ.alike Ar129.2.1) Ar129.2.2 hin130 (Has.at Ha129 hin130 rfl) (g := (mkF m 122 #[vr a0, vi p1] [(.int 2), (.ref a0), (.int 2), (.ref b111), (.ref b111), (.ref b109), (.ref b109)])) rfl rfl (hb hby d2_122)) ?_
          obtain ⟨cl131, Ar131, qa131, Sa131, Na131, Ha131, Ga131⟩ := id V126
          have hin132 : ¬ ((2 : Int32) < 0 ∨ cl131.slots.size ≤ ((2 : Int32)).toNatClampNeg) := inb_of Sa131 ⟨by decide, by decide⟩
          obtain ⟨T132, h132, X132, e132, W132, st132⟩ := stC X126 hx hZ e126 Ar131 (j := (2 : Int32)) hin132 (g := (mkF m 123 #[vr a0, vi p1] [(.int x2), (.int 2), (.ref b111), (.ref b111), (.ref b109), (.ref b109)])) rfl rfl (hb hby d2_123)
          have V132 : Arv Z h132 b111 k111 .char (4 : Int32) [(.int (nar .char x0)), (.int (nar .char x1)), (.int (nar .char x2)), (.int 0)] (.int 0) := Arv.set Ar131 qa131 Sa131 Na131 Ha131 Ga131 (fits_nar_char _) W132 2 rfl (Nat.le_of_ble_eq_true rfl)
          have N132 := Fr.snoc X132 N126 gb111
          refine gb (mkF m 124 #[vr a0, vi p1] [(.ref b111), (.ref b109), (.ref b109)]) st132 ?_
          have Sy133 := CHr.wr W132 Sf127_b111 CH127.1
          have CH133 := CHr.trans CH127 Sy133
          have Sf133_b109 := Sy133.safe (Nat.lt_of_lt_of_le (Nat.lt_of_lt_of_le (Nat.lt_of_lt_of_le A109.lt Sy115.2.1) Sy121.2.1) Sy127.2.1) Sf127_b109
          have Sf133_b111 := Sy133.safe (Nat.lt_of_lt_of_le (Nat.lt_of_lt_of_le V111.lt Sy121.2.1) Sy127.2.1) Sf127_b111
          refine gb (mkF m 125 #[vr a0, vi p1] [(.ref b111), (.ref b111), (.ref b109), (.ref b109)]) (fun _ k => XS.dup X132.here hx rfl (hb hby d2_124) rfl rfl k) ?_
          refine gb (mkF m 126 #[vr a0, vi p1] [(.int 3), (.ref b111), (.ref b111), (.ref b109), (.ref b109)]) (fun _ k => XS.iconst X132.here hx rfl (hb hby d2_125) k) ?_
          refine gb (mkF m 127 #[vr a0, vi p1] [(.ref a0), (.int 3), (.ref b111), (.ref b111), (.ref b109), (.ref b109)]) (fun _ k => XS.aloadN X132.here hx rfl (hb hby d2_126) rfl rfl k) ?_
          refine gb (mkF m 128 #[vr a0, vi p1] [(.int 3), (.ref a0), (.int 3), (.ref b111), (.ref b111), (.ref b109), (.ref b109)]) (fun _ k => XS.iconst X132.here hx rfl (hb hby d2_127) k) ?_
          have f134 := (Arv.other f128 W132 ne111_2)
          obtain ⟨cl135, Ar135, qa135, Sa135, Na135, Ha135, Ga135⟩ := id f134
          have hin136 : ¬ ((3 : Int32) < 0 ∨ cl135.slots.size ≤ ((3 : Int32)).toNatClampNeg) := inb_of Sa135 ⟨by decide, by decide⟩
          refine gb (mkF m 129 #[vr a0, vi p1] [(.int x3), (.int 3), (.ref b111), (.ref b111), (.ref b109), (.ref b109)]) (X132.caload hx (j := (3 : Int32)) (v := (.int x3)) (by rw [e132]; exact Ar135.1) (State.isArrayOf_alike hZ.alike Ar135.2.1) Ar135.2.2 hin136 (Has.at Ha135 hin136 rfl) (g := (mkF m 128 #[vr a0, vi p1] [(.int 3), (.ref a0), (.int 3), (.ref b111), (.ref b111), (.ref b109), (.ref b109)])) rfl rfl (hb hby d2_128)) ?_
          obtain ⟨cl137, Ar137, qa137, Sa137, Na137, Ha137, Ga137⟩ := id V132
          have hin138 : ¬ ((3 : Int32) < 0 ∨ cl137.slots.size ≤ ((3 : Int32)).toNatClampNeg) := inb_of Sa137 ⟨by decide, by decide⟩
          obtain ⟨T138, h138, X138, e138, W138, st138⟩ := stC X132 hx hZ e132 Ar137 (j := (3 : Int32)) hin138 (g := (mkF m 129 #[vr a0, vi p1] [(.int x3), (.int 3), (.ref b111), (.ref b111), (.ref b109), (.ref b109)])) rfl rfl (hb hby d2_129)
          have V138 : Arv Z h138 b111 k111 .char (4 : Int32) [(.int (nar .char x0)), (.int (nar .char x1)), (.int (nar .char x2)), (.int (nar .char x3))] (.int 0) := Arv.set Ar137 qa137 Sa137 Na137 Ha137 Ga137 (fits_nar_char _) W138 3 rfl (Nat.le_of_ble_eq_true rfl)
          have N138 := Fr.snoc X138 N132 gb111
          refine gb (mkF m 130 #[vr a0, vi p1] [(.ref b111), (.ref b109), (.ref b109)]) st138 ?_
          have Sy139 := CHr.wr W138 Sf133_b111 CH133.1
          have CH139 := CHr.trans CH133 Sy139
          have Sf139_b109 := Sy139.safe (Nat.lt_of_lt_of_le (Nat.lt_of_lt_of_le (Nat.lt_of_lt_of_le (Nat.lt_of_lt_of_le A109.lt Sy115.2.1) Sy121.2.1) Sy127.2.1) Sy133.2.1) Sf133_b109
          have Sf139_b111 := Sy139.safe (Nat.lt_of_lt_of_le (Nat.lt_of_lt_of_le (Nat.lt_of_lt_of_le V111.lt Sy121.2.1) Sy127.2.1) Sy133.2.1) Sf133_b111
          have f141 := (Exa.wr W138 (Exa.wr W132 (Exa.wr W126 (Exa.wr W120 (Exa.ext E111 A109)))))
          have f142 := (Fld.other W138 (Fld.other W132 (Fld.other W126 (Fld.other W120 (Fld.ext E111 D109_value) (Or.inl ne111_4)) (Or.inl ne111_4)) (Or.inl ne111_4)) (Or.inl ne111_4))
          have f143 := (Fld.other W138 (Fld.other W132 (Fld.other W126 (Fld.other W120 (Fld.ext E111 D109_coder) (Or.inl ne111_4)) (Or.inl ne111_4)) (Or.inl ne111_4)) (Or.inl ne111_4))
          have O144 := (((((O112.ext E111).wr W120 gb111).wr W126 gb111).wr W132 gb111).wr W138 gb111)
          obtain ⟨_, _, ⟨T140, L140, k140, n140⟩, -, X140, ⟨Lc140, hQ140, l140, y140, z140⟩, st140⟩ := X138.specialBack hx (y := mq11) rfl hown (mvT hZ (hW hw 13 rfl)) (mvT hZ (hW hw 14 rfl)) (mvT hZ (hW hw 15 rfl)) (by decide) (backOf (W := 1) (rm3k4 l Z a0' hw [] b109 b111 k111 (nar .char x0) (nar .char x1) (nar .char x2) (nar .char x3) w1 w2 w3 G1 sf h138 n0 O144 W f141 f142 f143 gb109 V138 (by rw [hc0]; exact hx0) (by rw [hc1]; exact hx1) (by rw [hc2]; exact hx2) (by rw [hc3]; exact hx3)) hZ (hW hw 15 rfl) (hW hw 12 rfl) (by decide) (by decide)) (g := (mkF m 130 #[vr a0, vi p1] [(.ref b111), (.ref b109), (.ref b109)])) rfl (by rw [hml]; rfl) (Steps.refl _) (a := b109) (argsL := [(.ref b111)]) (rest := [(.ref b109)]) (lenOf pd264 rfl) rfl (Nat.le_of_eq rfl) (hb hby d2_130) (fun _ _ => ⟨rfl, e138, (by decide : 2 + 1 ≤ _), (by decide : 8 + 4 ≤ _)⟩)
          dsimp only [Pt.U, Pt.locs, Pt.cells, Pt.slots] at X140 l140 y140 z140 st140 hQ140
          subst l140 y140 z140
          obtain ⟨b_140, kb_140, rfl, N140q, Kc140, fc140_0, fc140_1, fc140_2⟩ := hQ140
          have N140 := Fr.app N138 N140q
          refine gb (mkF m 133 #[vr a0, vi p1] [(.ref b109)]) (fun _ k => st140.trans k) ?_
          have Sy145 := CHr.keep Kc140 (allS Sf139_b109 all0) CH139.1
          have CH145 := CHr.trans CH139 Sy145
          have Sf145_b109 := Sy145.safe (Nat.lt_of_lt_of_le (Nat.lt_of_lt_of_le (Nat.lt_of_lt_of_le (Nat.lt_of_lt_of_le (Nat.lt_of_lt_of_le A109.lt Sy115.2.1) Sy121.2.1) Sy127.2.1) Sy133.2.1) Sy139.2.1) Sf139_b109
          have Sf145_b111 := Sy145.safe (Nat.lt_of_lt_of_le (Nat.lt_of_lt_of_le (Nat.lt_of_lt_of_le (Nat.lt_of_lt_of_le V111.lt Sy121.2.1) Sy127.2.1) Sy133.2.1) Sy139.2.1) Sf139_b111
          have sz146 := (Nat.le_trans (Nat.le_trans (Nat.le_trans (Nat.le_trans (Nat.le_trans (Nat.le_trans (Nat.le_trans (Nat.le_refl h0.size) E109.1) E111.1) (Nat.le_of_eq W120.size.symm)) (Nat.le_of_eq W126.size.symm)) (Nat.le_of_eq W132.size.symm)) (Nat.le_of_eq W138.size.symm)) Kc140.1)
          have K147 := ((((((K114.ext E111).wr W120 (Or.inr sb111)).wr W126 (Or.inr sb111)).wr W132 (Or.inr sb111)).wr W138 (Or.inr sb111)).trans Kc140 (allS (Or.inr sb109) all0))
          have f148 := (Exa.keep f141 Kc140)
          have hC149 := CHr.trans CH145 (CHv.at X140 hZ (hEL0 hw) CH145.1)
          exact Gl.outAH X140 hS sz146 hx hk Bd.returns rfl rfl (hb hby d2_133) ⟨b109, b_140, kb_140, rfl, N140, K147, f148, fc140_0, fc140_1, (stkA (l := [x0, x1, x2, x3]) (Or.resolve_left (Or.resolve_left (Or.resolve_left (Or.resolve_left hp hf1) hf19) hf43) hf73) (by decide : (4 : Int32).toNatClampNeg = 4) fc140_2)⟩ (by rw [hh]; exact hC149) (by decide) (by decide)
theorem d6_0 : decode method_5_code 0 = .ok (.iload 5, 2) := by decide +kernel
theorem d6_2 : decode method_5_code 2 = .ok (.iload 4, 2) := by decide +kernel
theorem d6_4 : decode method_5_code 4 = .ok (.if_icmp .ge 21, 3) := by decide +kernel
theorem d6_7 : decode method_5_code 7 = .ok (.aload_n 2, 1) := by decide +kernel
theorem d6_8 : decode method_5_code 8 = .ok (.iload_n 3, 1) := by decide +kernel
theorem d6_9 : decode method_5_code 9 = .ok (.iload 5, 2) := by decide +kernel
theorem d6_11 : decode method_5_code 11 = .ok (.iadd, 1) := by decide +kernel
theorem d6_12 : decode method_5_code 12 = .ok (.caload, 1) := by decide +kernel
theorem d6_13 : decode method_5_code 13 = .ok (.aload_n 0, 1) := by decide +kernel
theorem d6_14 : decode method_5_code 14 = .ok (.iload_n 1, 1) := by decide +kernel
theorem d6_15 : decode method_5_code 15 = .ok (.iload 5, 2) := by decide +kernel
theorem d6_17 : decode method_5_code 17 = .ok (.iadd, 1) := by decide +kernel
theorem d6_18 : decode method_5_code 18 = .ok (.caload, 1) := by decide +kernel
theorem d6_19 : decode method_5_code 19 = .ok (.invokestatic 16, 3) := by decide +kernel
theorem d6_22 : decode method_5_code 22 = .ok (.if_icmp .ne 7, 3) := by decide +kernel
theorem d6_25 : decode method_5_code 25 = .ok (.iconst 1, 1) := by decide +kernel
theorem d6_26 : decode method_5_code 26 = .ok (.goto 4, 3) := by decide +kernel
theorem d6_29 : decode method_5_code 29 = .ok (.iconst 0, 1) := by decide +kernel
theorem d6_30 : decode method_5_code 30 = .ok (.ireturn, 1) := by decide +kernel
theorem pd314 : parseMethodDescriptor "(C)C" = some ⟨[.char], some .char⟩ := by decide +kernel
theorem ef60 (m : MethodId) (x0 : Addr) (x1 : Int32) (x2 : Addr) (x3 : Int32) (x4 : Int32) (x5 : Int32) : entryFrame m #[(.ref x0), (.int x1), (.ref x2), (.int x3), (.int x4), (.int x5)] 6 = mkF m 0 #[.val (.ref x0), .val (.int x1), .val (.ref x2), .val (.int x3), .val (.int x4), .val (.int x5)] [] := by first | (simp [entryFrame, mkF, argsToLocals, Value.category]; done) | rfl
def fn60 (p1 : Int32) (p3 : Int32) (p4 : Int32) (x0 : Int32) (x1 : Int32) (x2 : Int32) (y0 : Int32) (y1 : Int32) (y2 : Int32) (y3 : Int32) (w1 w2 w3 : Addr) (G1 : Int32) (sf : Value) : Int32 := if (0 : Int32) < p4 then if ([y0, y1, y2, y3].getD ((p3 + (0 : Int32))).toNatClampNeg 0) = (fn23 ([x0, x1, x2].getD ((p1 + (0 : Int32))).toNatClampNeg 0) w1 w2 w3 G1 sf) then (1 : Int32) else (0 : Int32) else (1 : Int32)
def Q60 (Z : State) (a0 : Addr) (p1 : Int32) (a2 : Addr) (p3 : Int32) (p4 : Int32) (ka : ClassId) (kc : ClassId) (x0 : Int32) (x1 : Int32) (x2 : Int32) (y0 : Int32) (y1 : Int32) (y2 : Int32) (y3 : Int32) (w1 w2 w3 : Addr) (G1 : Int32) (sf : Value) (h0 : Heap) (n0 : Nat) (v : Option Value) (h : Heap) (L : List Loc) : Prop := v = some (.int (fn60 p1 p3 p4 x0 x1 x2 y0 y1 y2 y3 w1 w2 w3 G1 sf)) ∧ Fr n0 L ∧ h = h0
theorem rm60 (l : Launch) (Z : State) (a0' : Array Value) (hw : ∀ d ∈ tables_1, d.before a0' Z = true) (ws : List Jvm.Cond) (a0 : Addr) (p1 : Int32) (a2 : Addr) (p3 : Int32) (p4 : Int32) (ka : ClassId) (kc : ClassId) (x0 : Int32) (x1 : Int32) (x2 : Int32) (y0 : Int32) (y1 : Int32) (y2 : Int32) (y3 : Int32) (w1 w2 w3 : Addr) (G1 : Int32) (sf : Value) (h0 : Heap) (n0 : Nat) (O : Old Z n0 h0) (W : Wd Z w1 w2 w3 G1 sf) (pf0 : Arv Z h0 a0 ka .char (3 : Int32) [(.int x0), (.int x1), (.int x2)] (.int 0)) (pf1 : Arv Z h0 a2 kc .char (4 : Int32) [(.int y0), (.int y1), (.int y2), (.int y3)] (.int 0)) (hm : (0 : Int32) < p4 → (¬ (p3 + (0 : Int32)) < 0 ∧ (p3 + (0 : Int32)) < 4) ∧ (¬ (p1 + (0 : Int32)) < 0 ∧ (p1 + (0 : Int32)) < 3)) :
    MetFree l mq15 (head1 (Jvm.Cond.code mq15 method_5_code 6 (some .boolean) :: ws) ({ frames := 1, cells := 0, slots := 0, locals := 13 } : Room)) (fun a U => a = #[(.ref a0), (.int p1), (.ref a2), (.int p3), (.int p4), (.int 0)] ∧ Z.Warmed39 U.vm ∧ U.heap = h0) (fun _ _ _ _ _ => True) (fun _ U o U' => ∃ v L, o = .returned v ∧ Q60 Z a0 p1 a2 p3 p4 ka kc x0 x1 x2 y0 y1 y2 y3 w1 w2 w3 G1 sf h0 n0 v U'.heap L ∧ FrameEnd U o U' L ({ frames := 1, cells := 0, slots := 0, locals := 13 } : Room).cells ({ frames := 1, cells := 0, slots := 0, locals := 13 } : Room).slots) := by
  refine MetFree.of_bodySF (plainFor_of_name pn4) hisR ?_
  intro p e s m args below meth c s₁ Bd hml0 hP hK
  obtain ⟨rfl, hZ, hh⟩ := hP
  have hx := Bd.exec
  have hby := Bd.bytes
  have hml : c.maxLocals = 6 := hml0
  have hown : s.vm.findClass "com/example/gatewarden/gatewarden/core/UserKeywordEndInPinLaw" = some m.cls := findClass_of_methodNamed Bd.named
  have hnm := (name_of_methodNamed Bd.named Bd.method).1
  have hk := Bd.notSynchronized
  have X0 : Stand p l e ({ frames := 1, cells := 0, slots := 0, locals := 13 } : Room) s m #[(.ref a0), (.int p1), (.ref a2), (.int p3), (.int p4), (.int 0)] below meth c s₁ [] 0 0 := Stand.of_body Bd
  have hh2 := hh
  have e0 : s₁.heap = h0 := by rw [← hh, Bd.state]; rfl
  have N0 := Fr.nil n0
  show Gl p e below (Pos 0 0 (Q60 Z a0 p1 a2 p3 p4 ka kc x0 x1 x2 y0 y1 y2 y3 w1 w2 w3 G1 sf h0 n0) s) s₁ _
  refine Gl.cast (ef60 m a0 p1 a2 p3 p4 (0 : Int32)) ?_
  refine gb (mkF m 2 #[vr a0, vi p1, vr a2, vi p3, vi p4, vi 0] [(.int 0)]) (fun _ k => XS.iload X0.here hx rfl (hb hby d6_0) rfl k) ?_
  refine gb (mkF m 4 #[vr a0, vi p1, vr a2, vi p3, vi p4, vi 0] [(.int p4), (.int 0)]) (fun _ k => XS.iload X0.here hx rfl (hb hby d6_2) rfl k) ?_
  by_cases hf1 : (0 : Int32) < p4
  · refine gb (mkF m 7 #[vr a0, vi p1, vr a2, vi p3, vi p4, vi 0] []) (fun _ k => XS.icmpNo X0.here hx rfl (hb hby d6_4) rfl (tlt hf1).2.1 k) ?_
    refine gb (mkF m 8 #[vr a0, vi p1, vr a2, vi p3, vi p4, vi 0] [(.ref a2)]) (fun _ k => XS.aloadN X0.here hx rfl (hb hby d6_7) rfl rfl k) ?_
    refine gb (mkF m 9 #[vr a0, vi p1, vr a2, vi p3, vi p4, vi 0] [(.int p3), (.ref a2)]) (fun _ k => XS.iloadN X0.here hx rfl (hb hby d6_8) rfl k) ?_
    refine gb (mkF m 11 #[vr a0, vi p1, vr a2, vi p3, vi p4, vi 0] [(.int 0), (.int p3), (.ref a2)]) (fun _ k => XS.iload X0.here hx rfl (hb hby d6_9) rfl k) ?_
    refine gb (mkF m 12 #[vr a0, vi p1, vr a2, vi p3, vi p4, vi 0] [(.int (p3 + (0 : Int32))), (.ref a2)]) (fun _ k => XS.iadd X0.here hx rfl (hb hby d6_11) rfl k) ?_
    obtain ⟨cl2, Ar2, qa2, Sa2, Na2, Ha2, Ga2⟩ := id pf1
    have hin3 : ¬ ((p3 + (0 : Int32)) < 0 ∨ cl2.slots.size ≤ ((p3 + (0 : Int32))).toNatClampNeg) := inb_of Sa2 (hm hf1).1
    refine gb (mkF m 13 #[vr a0, vi p1, vr a2, vi p3, vi p4, vi 0] [(.int ([y0, y1, y2, y3].getD ((p3 + (0 : Int32))).toNatClampNeg 0))]) (X0.caload hx (j := (p3 + (0 : Int32))) (v := (.int ([y0, y1, y2, y3].getD ((p3 + (0 : Int32))).toNatClampNeg 0))) (by rw [e0]; exact Ar2.1) (State.isArrayOf_alike hZ.alike Ar2.2.1) Ar2.2.2 hin3 (Has.at Ha2 hin3 (getDI [y0, y1, y2, y3] _)) (g := (mkF m 12 #[vr a0, vi p1, vr a2, vi p3, vi p4, vi 0] [(.int (p3 + (0 : Int32))), (.ref a2)])) rfl rfl (hb hby d6_12)) ?_
    refine gb (mkF m 14 #[vr a0, vi p1, vr a2, vi p3, vi p4, vi 0] [(.ref a0), (.int ([y0, y1, y2, y3].getD ((p3 + (0 : Int32))).toNatClampNeg 0))]) (fun _ k => XS.aloadN X0.here hx rfl (hb hby d6_13) rfl rfl k) ?_
    refine gb (mkF m 15 #[vr a0, vi p1, vr a2, vi p3, vi p4, vi 0] [(.int p1), (.ref a0), (.int ([y0, y1, y2, y3].getD ((p3 + (0 : Int32))).toNatClampNeg 0))]) (fun _ k => XS.iloadN X0.here hx rfl (hb hby d6_14) rfl k) ?_
    refine gb (mkF m 17 #[vr a0, vi p1, vr a2, vi p3, vi p4, vi 0] [(.int 0), (.int p1), (.ref a0), (.int ([y0, y1, y2, y3].getD ((p3 + (0 : Int32))).toNatClampNeg 0))]) (fun _ k => XS.iload X0.here hx rfl (hb hby d6_15) rfl k) ?_
    refine gb (mkF m 18 #[vr a0, vi p1, vr a2, vi p3, vi p4, vi 0] [(.int (p1 + (0 : Int32))), (.ref a0), (.int ([y0, y1, y2, y3].getD ((p3 + (0 : Int32))).toNatClampNeg 0))]) (fun _ k => XS.iadd X0.here hx rfl (hb hby d6_17) rfl k) ?_
    obtain ⟨cl4, Ar4, qa4, Sa4, Na4, Ha4, Ga4⟩ := id pf0
    have hin5 : ¬ ((p1 + (0 : Int32)) < 0 ∨ cl4.slots.size ≤ ((p1 + (0 : Int32))).toNatClampNeg) := inb_of Sa4 (hm hf1).2
    refine gb (mkF m 19 #[vr a0, vi p1, vr a2, vi p3, vi p4, vi 0] [(.int ([x0, x1, x2].getD ((p1 + (0 : Int32))).toNatClampNeg 0)), (.int ([y0, y1, y2, y3].getD ((p3 + (0 : Int32))).toNatClampNeg 0))]) (X0.caload hx (j := (p1 + (0 : Int32))) (v := (.int ([x0, x1, x2].getD ((p1 + (0 : Int32))).toNatClampNeg 0))) (by rw [e0]; exact Ar4.1) (State.isArrayOf_alike hZ.alike Ar4.2.1) Ar4.2.2 hin5 (Has.at Ha4 hin5 (getDI [x0, x1, x2] _)) (g := (mkF m 18 #[vr a0, vi p1, vr a2, vi p3, vi p4, vi 0] [(.int (p1 + (0 : Int32))), (.ref a0), (.int ([y0, y1, y2, y3].getD ((p3 + (0 : Int32))).toNatClampNeg 0))])) rfl rfl (hb hby d6_18)) ?_
    obtain ⟨_, _, ⟨T6, L6, k6, n6⟩, -, X6, ⟨Lc6, hQ6, l6, y6, z6⟩, st6⟩ := callS X0 hx (y := mq13) hown (mvT hZ (hW hw 112 rfl)) (mvT hZ (hW hw 113 rfl)) (mvT hZ (hW hw 3 rfl)) (mvT hZ (hW hw 114 rfl)) (by decide) (backOf (W := 1) (rm23 l Z a0' hw [] ([x0, x1, x2].getD ((p1 + (0 : Int32))).toNatClampNeg 0) w1 w2 w3 G1 sf h0 n0 O W ) hZ (hW hw 114 rfl) (hW hw 3 rfl) (by decide) (by decide)) (g := (mkF m 19 #[vr a0, vi p1, vr a2, vi p3, vi p4, vi 0] [(.int ([x0, x1, x2].getD ((p1 + (0 : Int32))).toNatClampNeg 0)), (.int ([y0, y1, y2, y3].getD ((p3 + (0 : Int32))).toNatClampNeg 0))])) rfl (by rw [hml]; rfl) (argsL := [(.int ([x0, x1, x2].getD ((p1 + (0 : Int32))).toNatClampNeg 0))]) (rest := [(.int ([y0, y1, y2, y3].getD ((p3 + (0 : Int32))).toNatClampNeg 0))]) (lenOf pd314 rfl) rfl (Nat.le_of_eq rfl) (hb hby d6_19) (fun _ _ => ⟨rfl, e0, (by decide : 0 + 0 ≤ _), (by decide : 0 + 0 ≤ _)⟩)
    dsimp only [Pt.U, Pt.locs, Pt.cells, Pt.slots] at X6 l6 y6 z6 st6 hQ6
    subst l6 y6 z6
    obtain ⟨rfl, N6q, e6⟩ := hQ6
    have N6 := Fr.app N0 N6q
    refine gb (mkF m 22 #[vr a0, vi p1, vr a2, vi p3, vi p4, vi 0] [(.int (fn23 ([x0, x1, x2].getD ((p1 + (0 : Int32))).toNatClampNeg 0) w1 w2 w3 G1 sf)), (.int ([y0, y1, y2, y3].getD ((p3 + (0 : Int32))).toNatClampNeg 0))]) st6 ?_
    by_cases hf7 : ([y0, y1, y2, y3].getD ((p3 + (0 : Int32))).toNatClampNeg 0) = (fn23 ([x0, x1, x2].getD ((p1 + (0 : Int32))).toNatClampNeg 0) w1 w2 w3 G1 sf)
    · refine gb (mkF m 25 #[vr a0, vi p1, vr a2, vi p3, vi p4, vi 0] []) (fun _ k => XS.icmpNo X6.here hx rfl (hb hby d6_22) rfl (teq hf7).2 k) ?_
      refine gb (mkF m 26 #[vr a0, vi p1, vr a2, vi p3, vi p4, vi 0] [(.int 1)]) (fun _ k => XS.iconst X6.here hx rfl (hb hby d6_25) k) ?_
      refine gb (mkF m 30 #[vr a0, vi p1, vr a2, vi p3, vi p4, vi 0] [(.int 1)]) (fun _ k => XS.goto X6.here hx rfl (pc0 := 26) (pc' := 30) rfl (hb hby d6_26) (by decide) (by decide) k) ?_
      exact Gl.outN X6 hx hk (t := .boolean) Bd.returns (by simp) (hb hby d6_30) ⟨(congrArg (fun z => some (Value.int z)) (show nar .boolean (1 : Int32) = fn60 p1 p3 p4 x0 x1 x2 y0 y1 y2 y3 w1 w2 w3 G1 sf by unfold fn60; rw [if_pos hf1, if_pos hf7]; try rfl)), N6, e6⟩ (by decide) (by decide)
    · refine gb (mkF m 29 #[vr a0, vi p1, vr a2, vi p3, vi p4, vi 0] []) (fun _ k => XS.icmpYes X6.here hx rfl (pc0 := 22) (pc' := 29) rfl (hb hby d6_22) rfl (feq hf7).2 (by decide) (by decide) k) ?_
      refine gb (mkF m 30 #[vr a0, vi p1, vr a2, vi p3, vi p4, vi 0] [(.int 0)]) (fun _ k => XS.iconst X6.here hx rfl (hb hby d6_29) k) ?_
      exact Gl.outN X6 hx hk (t := .boolean) Bd.returns (by simp) (hb hby d6_30) ⟨(congrArg (fun z => some (Value.int z)) (show nar .boolean (0 : Int32) = fn60 p1 p3 p4 x0 x1 x2 y0 y1 y2 y3 w1 w2 w3 G1 sf by unfold fn60; rw [if_pos hf1, if_neg hf7]; try rfl)), N6, e6⟩ (by decide) (by decide)
  · refine gb (mkF m 25 #[vr a0, vi p1, vr a2, vi p3, vi p4, vi 0] []) (fun _ k => XS.icmpYes X0.here hx rfl (pc0 := 4) (pc' := 25) rfl (hb hby d6_4) rfl (flt hf1).2.1 (by decide) (by decide) k) ?_
    refine gb (mkF m 26 #[vr a0, vi p1, vr a2, vi p3, vi p4, vi 0] [(.int 1)]) (fun _ k => XS.iconst X0.here hx rfl (hb hby d6_25) k) ?_
    refine gb (mkF m 30 #[vr a0, vi p1, vr a2, vi p3, vi p4, vi 0] [(.int 1)]) (fun _ k => XS.goto X0.here hx rfl (pc0 := 26) (pc' := 30) rfl (hb hby d6_26) (by decide) (by decide) k) ?_
    exact Gl.outN X0 hx hk (t := .boolean) Bd.returns (by simp) (hb hby d6_30) ⟨(congrArg (fun z => some (Value.int z)) (show nar .boolean (1 : Int32) = fn60 p1 p3 p4 x0 x1 x2 y0 y1 y2 y3 w1 w2 w3 G1 sf by unfold fn60; rw [if_neg hf1]; try rfl)), N0, e0⟩ (by decide) (by decide)
theorem ef61 (m : MethodId) (x0 : Addr) (x1 : Int32) (x2 : Addr) (x3 : Int32) (x4 : Int32) (x5 : Int32) : entryFrame m #[(.ref x0), (.int x1), (.ref x2), (.int x3), (.int x4), (.int x5)] 6 = mkF m 0 #[.val (.ref x0), .val (.int x1), .val (.ref x2), .val (.int x3), .val (.int x4), .val (.int x5)] [] := by first | (simp [entryFrame, mkF, argsToLocals, Value.category]; done) | rfl
def fn61 (p1 : Int32) (p3 : Int32) (p4 : Int32) (x0 : Int32) (x1 : Int32) (x2 : Int32) (y0 : Int32) (y1 : Int32) (y2 : Int32) (y3 : Int32) (w1 w2 w3 : Addr) (G1 : Int32) (sf : Value) : Int32 := if (1 : Int32) < p4 then if ([y0, y1, y2, y3].getD ((p3 + (1 : Int32))).toNatClampNeg 0) = (fn23 ([x0, x1, x2].getD ((p1 + (1 : Int32))).toNatClampNeg 0) w1 w2 w3 G1 sf) then (1 : Int32) else (0 : Int32) else (1 : Int32)
def Q61 (Z : State) (a0 : Addr) (p1 : Int32) (a2 : Addr) (p3 : Int32) (p4 : Int32) (ka : ClassId) (kc : ClassId) (x0 : Int32) (x1 : Int32) (x2 : Int32) (y0 : Int32) (y1 : Int32) (y2 : Int32) (y3 : Int32) (w1 w2 w3 : Addr) (G1 : Int32) (sf : Value) (h0 : Heap) (n0 : Nat) (v : Option Value) (h : Heap) (L : List Loc) : Prop := v = some (.int (fn61 p1 p3 p4 x0 x1 x2 y0 y1 y2 y3 w1 w2 w3 G1 sf)) ∧ Fr n0 L ∧ h = h0
theorem rm61 (l : Launch) (Z : State) (a0' : Array Value) (hw : ∀ d ∈ tables_1, d.before a0' Z = true) (ws : List Jvm.Cond) (a0 : Addr) (p1 : Int32) (a2 : Addr) (p3 : Int32) (p4 : Int32) (ka : ClassId) (kc : ClassId) (x0 : Int32) (x1 : Int32) (x2 : Int32) (y0 : Int32) (y1 : Int32) (y2 : Int32) (y3 : Int32) (w1 w2 w3 : Addr) (G1 : Int32) (sf : Value) (h0 : Heap) (n0 : Nat) (O : Old Z n0 h0) (W : Wd Z w1 w2 w3 G1 sf) (pf0 : Arv Z h0 a0 ka .char (3 : Int32) [(.int x0), (.int x1), (.int x2)] (.int 0)) (pf1 : Arv Z h0 a2 kc .char (4 : Int32) [(.int y0), (.int y1), (.int y2), (.int y3)] (.int 0)) (hm : (1 : Int32) < p4 → (¬ (p3 + (1 : Int32)) < 0 ∧ (p3 + (1 : Int32)) < 4) ∧ (¬ (p1 + (1 : Int32)) < 0 ∧ (p1 + (1 : Int32)) < 3)) :
    MetFree l mq15 (head1 (Jvm.Cond.code mq15 method_5_code 6 (some .boolean) :: ws) ({ frames := 1, cells := 0, slots := 0, locals := 13 } : Room)) (fun a U => a = #[(.ref a0), (.int p1), (.ref a2), (.int p3), (.int p4), (.int 1)] ∧ Z.Warmed39 U.vm ∧ U.heap = h0) (fun _ _ _ _ _ => True) (fun _ U o U' => ∃ v L, o = .returned v ∧ Q61 Z a0 p1 a2 p3 p4 ka kc x0 x1 x2 y0 y1 y2 y3 w1 w2 w3 G1 sf h0 n0 v U'.heap L ∧ FrameEnd U o U' L ({ frames := 1, cells := 0, slots := 0, locals := 13 } : Room).cells ({ frames := 1, cells := 0, slots := 0, locals := 13 } : Room).slots) := by
  refine MetFree.of_bodySF (plainFor_of_name pn4) hisR ?_
  intro p e s m args below meth c s₁ Bd hml0 hP hK
  obtain ⟨rfl, hZ, hh⟩ := hP
  have hx := Bd.exec
  have hby := Bd.bytes
  have hml : c.maxLocals = 6 := hml0
  have hown : s.vm.findClass "com/example/gatewarden/gatewarden/core/UserKeywordEndInPinLaw" = some m.cls := findClass_of_methodNamed Bd.named
  have hnm := (name_of_methodNamed Bd.named Bd.method).1
  have hk := Bd.notSynchronized
  have X0 : Stand p l e ({ frames := 1, cells := 0, slots := 0, locals := 13 } : Room) s m #[(.ref a0), (.int p1), (.ref a2), (.int p3), (.int p4), (.int 1)] below meth c s₁ [] 0 0 := Stand.of_body Bd
  have hh2 := hh
  have e0 : s₁.heap = h0 := by rw [← hh, Bd.state]; rfl
  have N0 := Fr.nil n0
  show Gl p e below (Pos 0 0 (Q61 Z a0 p1 a2 p3 p4 ka kc x0 x1 x2 y0 y1 y2 y3 w1 w2 w3 G1 sf h0 n0) s) s₁ _
  refine Gl.cast (ef61 m a0 p1 a2 p3 p4 (1 : Int32)) ?_
  refine gb (mkF m 2 #[vr a0, vi p1, vr a2, vi p3, vi p4, vi 1] [(.int 1)]) (fun _ k => XS.iload X0.here hx rfl (hb hby d6_0) rfl k) ?_
  refine gb (mkF m 4 #[vr a0, vi p1, vr a2, vi p3, vi p4, vi 1] [(.int p4), (.int 1)]) (fun _ k => XS.iload X0.here hx rfl (hb hby d6_2) rfl k) ?_
  by_cases hf1 : (1 : Int32) < p4
  · refine gb (mkF m 7 #[vr a0, vi p1, vr a2, vi p3, vi p4, vi 1] []) (fun _ k => XS.icmpNo X0.here hx rfl (hb hby d6_4) rfl (tlt hf1).2.1 k) ?_
    refine gb (mkF m 8 #[vr a0, vi p1, vr a2, vi p3, vi p4, vi 1] [(.ref a2)]) (fun _ k => XS.aloadN X0.here hx rfl (hb hby d6_7) rfl rfl k) ?_
    refine gb (mkF m 9 #[vr a0, vi p1, vr a2, vi p3, vi p4, vi 1] [(.int p3), (.ref a2)]) (fun _ k => XS.iloadN X0.here hx rfl (hb hby d6_8) rfl k) ?_
    refine gb (mkF m 11 #[vr a0, vi p1, vr a2, vi p3, vi p4, vi 1] [(.int 1), (.int p3), (.ref a2)]) (fun _ k => XS.iload X0.here hx rfl (hb hby d6_9) rfl k) ?_
    refine gb (mkF m 12 #[vr a0, vi p1, vr a2, vi p3, vi p4, vi 1] [(.int (p3 + (1 : Int32))), (.ref a2)]) (fun _ k => XS.iadd X0.here hx rfl (hb hby d6_11) rfl k) ?_
    obtain ⟨cl2, Ar2, qa2, Sa2, Na2, Ha2, Ga2⟩ := id pf1
    have hin3 : ¬ ((p3 + (1 : Int32)) < 0 ∨ cl2.slots.size ≤ ((p3 + (1 : Int32))).toNatClampNeg) := inb_of Sa2 (hm hf1).1
    refine gb (mkF m 13 #[vr a0, vi p1, vr a2, vi p3, vi p4, vi 1] [(.int ([y0, y1, y2, y3].getD ((p3 + (1 : Int32))).toNatClampNeg 0))]) (X0.caload hx (j := (p3 + (1 : Int32))) (v := (.int ([y0, y1, y2, y3].getD ((p3 + (1 : Int32))).toNatClampNeg 0))) (by rw [e0]; exact Ar2.1) (State.isArrayOf_alike hZ.alike Ar2.2.1) Ar2.2.2 hin3 (Has.at Ha2 hin3 (getDI [y0, y1, y2, y3] _)) (g := (mkF m 12 #[vr a0, vi p1, vr a2, vi p3, vi p4, vi 1] [(.int (p3 + (1 : Int32))), (.ref a2)])) rfl rfl (hb hby d6_12)) ?_
    refine gb (mkF m 14 #[vr a0, vi p1, vr a2, vi p3, vi p4, vi 1] [(.ref a0), (.int ([y0, y1, y2, y3].getD ((p3 + (1 : Int32))).toNatClampNeg 0))]) (fun _ k => XS.aloadN X0.here hx rfl (hb hby d6_13) rfl rfl k) ?_
    refine gb (mkF m 15 #[vr a0, vi p1, vr a2, vi p3, vi p4, vi 1] [(.int p1), (.ref a0), (.int ([y0, y1, y2, y3].getD ((p3 + (1 : Int32))).toNatClampNeg 0))]) (fun _ k => XS.iloadN X0.here hx rfl (hb hby d6_14) rfl k) ?_
    refine gb (mkF m 17 #[vr a0, vi p1, vr a2, vi p3, vi p4, vi 1] [(.int 1), (.int p1), (.ref a0), (.int ([y0, y1, y2, y3].getD ((p3 + (1 : Int32))).toNatClampNeg 0))]) (fun _ k => XS.iload X0.here hx rfl (hb hby d6_15) rfl k) ?_
    refine gb (mkF m 18 #[vr a0, vi p1, vr a2, vi p3, vi p4, vi 1] [(.int (p1 + (1 : Int32))), (.ref a0), (.int ([y0, y1, y2, y3].getD ((p3 + (1 : Int32))).toNatClampNeg 0))]) (fun _ k => XS.iadd X0.here hx rfl (hb hby d6_17) rfl k) ?_
    obtain ⟨cl4, Ar4, qa4, Sa4, Na4, Ha4, Ga4⟩ := id pf0
    have hin5 : ¬ ((p1 + (1 : Int32)) < 0 ∨ cl4.slots.size ≤ ((p1 + (1 : Int32))).toNatClampNeg) := inb_of Sa4 (hm hf1).2
    refine gb (mkF m 19 #[vr a0, vi p1, vr a2, vi p3, vi p4, vi 1] [(.int ([x0, x1, x2].getD ((p1 + (1 : Int32))).toNatClampNeg 0)), (.int ([y0, y1, y2, y3].getD ((p3 + (1 : Int32))).toNatClampNeg 0))]) (X0.caload hx (j := (p1 + (1 : Int32))) (v := (.int ([x0, x1, x2].getD ((p1 + (1 : Int32))).toNatClampNeg 0))) (by rw [e0]; exact Ar4.1) (State.isArrayOf_alike hZ.alike Ar4.2.1) Ar4.2.2 hin5 (Has.at Ha4 hin5 (getDI [x0, x1, x2] _)) (g := (mkF m 18 #[vr a0, vi p1, vr a2, vi p3, vi p4, vi 1] [(.int (p1 + (1 : Int32))), (.ref a0), (.int ([y0, y1, y2, y3].getD ((p3 + (1 : Int32))).toNatClampNeg 0))])) rfl rfl (hb hby d6_18)) ?_
    obtain ⟨_, _, ⟨T6, L6, k6, n6⟩, -, X6, ⟨Lc6, hQ6, l6, y6, z6⟩, st6⟩ := callS X0 hx (y := mq13) hown (mvT hZ (hW hw 112 rfl)) (mvT hZ (hW hw 113 rfl)) (mvT hZ (hW hw 3 rfl)) (mvT hZ (hW hw 114 rfl)) (by decide) (backOf (W := 1) (rm23 l Z a0' hw [] ([x0, x1, x2].getD ((p1 + (1 : Int32))).toNatClampNeg 0) w1 w2 w3 G1 sf h0 n0 O W ) hZ (hW hw 114 rfl) (hW hw 3 rfl) (by decide) (by decide)) (g := (mkF m 19 #[vr a0, vi p1, vr a2, vi p3, vi p4, vi 1] [(.int ([x0, x1, x2].getD ((p1 + (1 : Int32))).toNatClampNeg 0)), (.int ([y0, y1, y2, y3].getD ((p3 + (1 : Int32))).toNatClampNeg 0))])) rfl (by rw [hml]; rfl) (argsL := [(.int ([x0, x1, x2].getD ((p1 + (1 : Int32))).toNatClampNeg 0))]) (rest := [(.int ([y0, y1, y2, y3].getD ((p3 + (1 : Int32))).toNatClampNeg 0))]) (lenOf pd314 rfl) rfl (Nat.le_of_eq rfl) (hb hby d6_19) (fun _ _ => ⟨rfl, e0, (by decide : 0 + 0 ≤ _), (by decide : 0 + 0 ≤ _)⟩)
    dsimp only [Pt.U, Pt.locs, Pt.cells, Pt.slots] at X6 l6 y6 z6 st6 hQ6
    subst l6 y6 z6
    obtain ⟨rfl, N6q, e6⟩ := hQ6
    have N6 := Fr.app N0 N6q
    refine gb (mkF m 22 #[vr a0, vi p1, vr a2, vi p3, vi p4, vi 1] [(.int (fn23 ([x0, x1, x2].getD ((p1 + (1 : Int32))).toNatClampNeg 0) w1 w2 w3 G1 sf)), (.int ([y0, y1, y2, y3].getD ((p3 + (1 : Int32))).toNatClampNeg 0))]) st6 ?_
    by_cases hf7 : ([y0, y1, y2, y3].getD ((p3 + (1 : Int32))).toNatClampNeg 0) = (fn23 ([x0, x1, x2].getD ((p1 + (1 : Int32))).toNatClampNeg 0) w1 w2 w3 G1 sf)
    · refine gb (mkF m 25 #[vr a0, vi p1, vr a2, vi p3, vi p4, vi 1] []) (fun _ k => XS.icmpNo X6.here hx rfl (hb hby d6_22) rfl (teq hf7).2 k) ?_
      refine gb (mkF m 26 #[vr a0, vi p1, vr a2, vi p3, vi p4, vi 1] [(.int 1)]) (fun _ k => XS.iconst X6.here hx rfl (hb hby d6_25) k) ?_
      refine gb (mkF m 30 #[vr a0, vi p1, vr a2, vi p3, vi p4, vi 1] [(.int 1)]) (fun _ k => XS.goto X6.here hx rfl (pc0 := 26) (pc' := 30) rfl (hb hby d6_26) (by decide) (by decide) k) ?_
      exact Gl.outN X6 hx hk (t := .boolean) Bd.returns (by simp) (hb hby d6_30) ⟨(congrArg (fun z => some (Value.int z)) (show nar .boolean (1 : Int32) = fn61 p1 p3 p4 x0 x1 x2 y0 y1 y2 y3 w1 w2 w3 G1 sf by unfold fn61; rw [if_pos hf1, if_pos hf7]; try rfl)), N6, e6⟩ (by decide) (by decide)
    · refine gb (mkF m 29 #[vr a0, vi p1, vr a2, vi p3, vi p4, vi 1] []) (fun _ k => XS.icmpYes X6.here hx rfl (pc0 := 22) (pc' := 29) rfl (hb hby d6_22) rfl (feq hf7).2 (by decide) (by decide) k) ?_
      refine gb (mkF m 30 #[vr a0, vi p1, vr a2, vi p3, vi p4, vi 1] [(.int 0)]) (fun _ k => XS.iconst X6.here hx rfl (hb hby d6_29) k) ?_
      exact Gl.outN X6 hx hk (t := .boolean) Bd.returns (by simp) (hb hby d6_30) ⟨(congrArg (fun z => some (Value.int z)) (show nar .boolean (0 : Int32) = fn61 p1 p3 p4 x0 x1 x2 y0 y1 y2 y3 w1 w2 w3 G1 sf by unfold fn61; rw [if_pos hf1, if_neg hf7]; try rfl)), N6, e6⟩ (by decide) (by decide)
  · refine gb (mkF m 25 #[vr a0, vi p1, vr a2, vi p3, vi p4, vi 1] []) (fun _ k => XS.icmpYes X0.here hx rfl (pc0 := 4) (pc' := 25) rfl (hb hby d6_4) rfl (flt hf1).2.1 (by decide) (by decide) k) ?_
    refine gb (mkF m 26 #[vr a0, vi p1, vr a2, vi p3, vi p4, vi 1] [(.int 1)]) (fun _ k => XS.iconst X0.here hx rfl (hb hby d6_25) k) ?_
    refine gb (mkF m 30 #[vr a0, vi p1, vr a2, vi p3, vi p4, vi 1] [(.int 1)]) (fun _ k => XS.goto X0.here hx rfl (pc0 := 26) (pc' := 30) rfl (hb hby d6_26) (by decide) (by decide) k) ?_
    exact Gl.outN X0 hx hk (t := .boolean) Bd.returns (by simp) (hb hby d6_30) ⟨(congrArg (fun z => some (Value.int z)) (show nar .boolean (1 : Int32) = fn61 p1 p3 p4 x0 x1 x2 y0 y1 y2 y3 w1 w2 w3 G1 sf by unfold fn61; rw [if_neg hf1]; try rfl)), N0, e0⟩ (by decide) (by decide)
theorem ef62 (m : MethodId) (x0 : Addr) (x1 : Int32) (x2 : Addr) (x3 : Int32) (x4 : Int32) (x5 : Int32) : entryFrame m #[(.ref x0), (.int x1), (.ref x2), (.int x3), (.int x4), (.int x5)] 6 = mkF m 0 #[.val (.ref x0), .val (.int x1), .val (.ref x2), .val (.int x3), .val (.int x4), .val (.int x5)] [] := by first | (simp [entryFrame, mkF, argsToLocals, Value.category]; done) | rfl
def fn62 (p1 : Int32) (p3 : Int32) (p4 : Int32) (x0 : Int32) (x1 : Int32) (x2 : Int32) (y0 : Int32) (y1 : Int32) (y2 : Int32) (y3 : Int32) (w1 w2 w3 : Addr) (G1 : Int32) (sf : Value) : Int32 := if (2 : Int32) < p4 then if ([y0, y1, y2, y3].getD ((p3 + (2 : Int32))).toNatClampNeg 0) = (fn23 ([x0, x1, x2].getD ((p1 + (2 : Int32))).toNatClampNeg 0) w1 w2 w3 G1 sf) then (1 : Int32) else (0 : Int32) else (1 : Int32)
def Q62 (Z : State) (a0 : Addr) (p1 : Int32) (a2 : Addr) (p3 : Int32) (p4 : Int32) (ka : ClassId) (kc : ClassId) (x0 : Int32) (x1 : Int32) (x2 : Int32) (y0 : Int32) (y1 : Int32) (y2 : Int32) (y3 : Int32) (w1 w2 w3 : Addr) (G1 : Int32) (sf : Value) (h0 : Heap) (n0 : Nat) (v : Option Value) (h : Heap) (L : List Loc) : Prop := v = some (.int (fn62 p1 p3 p4 x0 x1 x2 y0 y1 y2 y3 w1 w2 w3 G1 sf)) ∧ Fr n0 L ∧ h = h0
theorem rm62 (l : Launch) (Z : State) (a0' : Array Value) (hw : ∀ d ∈ tables_1, d.before a0' Z = true) (ws : List Jvm.Cond) (a0 : Addr) (p1 : Int32) (a2 : Addr) (p3 : Int32) (p4 : Int32) (ka : ClassId) (kc : ClassId) (x0 : Int32) (x1 : Int32) (x2 : Int32) (y0 : Int32) (y1 : Int32) (y2 : Int32) (y3 : Int32) (w1 w2 w3 : Addr) (G1 : Int32) (sf : Value) (h0 : Heap) (n0 : Nat) (O : Old Z n0 h0) (W : Wd Z w1 w2 w3 G1 sf) (pf0 : Arv Z h0 a0 ka .char (3 : Int32) [(.int x0), (.int x1), (.int x2)] (.int 0)) (pf1 : Arv Z h0 a2 kc .char (4 : Int32) [(.int y0), (.int y1), (.int y2), (.int y3)] (.int 0)) (hm : (2 : Int32) < p4 → (¬ (p3 + (2 : Int32)) < 0 ∧ (p3 + (2 : Int32)) < 4) ∧ (¬ (p1 + (2 : Int32)) < 0 ∧ (p1 + (2 : Int32)) < 3)) :
    MetFree l mq15 (head1 (Jvm.Cond.code mq15 method_5_code 6 (some .boolean) :: ws) ({ frames := 1, cells := 0, slots := 0, locals := 13 } : Room)) (fun a U => a = #[(.ref a0), (.int p1), (.ref a2), (.int p3), (.int p4), (.int 2)] ∧ Z.Warmed39 U.vm ∧ U.heap = h0) (fun _ _ _ _ _ => True) (fun _ U o U' => ∃ v L, o = .returned v ∧ Q62 Z a0 p1 a2 p3 p4 ka kc x0 x1 x2 y0 y1 y2 y3 w1 w2 w3 G1 sf h0 n0 v U'.heap L ∧ FrameEnd U o U' L ({ frames := 1, cells := 0, slots := 0, locals := 13 } : Room).cells ({ frames := 1, cells := 0, slots := 0, locals := 13 } : Room).slots) := by
  refine MetFree.of_bodySF (plainFor_of_name pn4) hisR ?_
  intro p e s m args below meth c s₁ Bd hml0 hP hK
  obtain ⟨rfl, hZ, hh⟩ := hP
  have hx := Bd.exec
  have hby := Bd.bytes
  have hml : c.maxLocals = 6 := hml0
  have hown : s.vm.findClass "com/example/gatewarden/gatewarden/core/UserKeywordEndInPinLaw" = some m.cls := findClass_of_methodNamed Bd.named
  have hnm := (name_of_methodNamed Bd.named Bd.method).1
  have hk := Bd.notSynchronized
  have X0 : Stand p l e ({ frames := 1, cells := 0, slots := 0, locals := 13 } : Room) s m #[(.ref a0), (.int p1), (.ref a2), (.int p3), (.int p4), (.int 2)] below meth c s₁ [] 0 0 := Stand.of_body Bd
  have hh2 := hh
  have e0 : s₁.heap = h0 := by rw [← hh, Bd.state]; rfl
  have N0 := Fr.nil n0
  show Gl p e below (Pos 0 0 (Q62 Z a0 p1 a2 p3 p4 ka kc x0 x1 x2 y0 y1 y2 y3 w1 w2 w3 G1 sf h0 n0) s) s₁ _
  refine Gl.cast (ef62 m a0 p1 a2 p3 p4 (2 : Int32)) ?_
  refine gb (mkF m 2 #[vr a0, vi p1, vr a2, vi p3, vi p4, vi 2] [(.int 2)]) (fun _ k => XS.iload X0.here hx rfl (hb hby d6_0) rfl k) ?_
  refine gb (mkF m 4 #[vr a0, vi p1, vr a2, vi p3, vi p4, vi 2] [(.int p4), (.int 2)]) (fun _ k => XS.iload X0.here hx rfl (hb hby d6_2) rfl k) ?_
  by_cases hf1 : (2 : Int32) < p4
  · refine gb (mkF m 7 #[vr a0, vi p1, vr a2, vi p3, vi p4, vi 2] []) (fun _ k => XS.icmpNo X0.here hx rfl (hb hby d6_4) rfl (tlt hf1).2.1 k) ?_
    refine gb (mkF m 8 #[vr a0, vi p1, vr a2, vi p3, vi p4, vi 2] [(.ref a2)]) (fun _ k => XS.aloadN X0.here hx rfl (hb hby d6_7) rfl rfl k) ?_
    refine gb (mkF m 9 #[vr a0, vi p1, vr a2, vi p3, vi p4, vi 2] [(.int p3), (.ref a2)]) (fun _ k => XS.iloadN X0.here hx rfl (hb hby d6_8) rfl k) ?_
    refine gb (mkF m 11 #[vr a0, vi p1, vr a2, vi p3, vi p4, vi 2] [(.int 2), (.int p3), (.ref a2)]) (fun _ k => XS.iload X0.here hx rfl (hb hby d6_9) rfl k) ?_
    refine gb (mkF m 12 #[vr a0, vi p1, vr a2, vi p3, vi p4, vi 2] [(.int (p3 + (2 : Int32))), (.ref a2)]) (fun _ k => XS.iadd X0.here hx rfl (hb hby d6_11) rfl k) ?_
    obtain ⟨cl2, Ar2, qa2, Sa2, Na2, Ha2, Ga2⟩ := id pf1
    have hin3 : ¬ ((p3 + (2 : Int32)) < 0 ∨ cl2.slots.size ≤ ((p3 + (2 : Int32))).toNatClampNeg) := inb_of Sa2 (hm hf1).1
    refine gb (mkF m 13 #[vr a0, vi p1, vr a2, vi p3, vi p4, vi 2] [(.int ([y0, y1, y2, y3].getD ((p3 + (2 : Int32))).toNatClampNeg 0))]) (X0.caload hx (j := (p3 + (2 : Int32))) (v := (.int ([y0, y1, y2, y3].getD ((p3 + (2 : Int32))).toNatClampNeg 0))) (by rw [e0]; exact Ar2.1) (State.isArrayOf_alike hZ.alike Ar2.2.1) Ar2.2.2 hin3 (Has.at Ha2 hin3 (getDI [y0, y1, y2, y3] _)) (g := (mkF m 12 #[vr a0, vi p1, vr a2, vi p3, vi p4, vi 2] [(.int (p3 + (2 : Int32))), (.ref a2)])) rfl rfl (hb hby d6_12)) ?_
    refine gb (mkF m 14 #[vr a0, vi p1, vr a2, vi p3, vi p4, vi 2] [(.ref a0), (.int ([y0, y1, y2, y3].getD ((p3 + (2 : Int32))).toNatClampNeg 0))]) (fun _ k => XS.aloadN X0.here hx rfl (hb hby d6_13) rfl rfl k) ?_
    refine gb (mkF m 15 #[vr a0, vi p1, vr a2, vi p3, vi p4, vi 2] [(.int p1), (.ref a0), (.int ([y0, y1, y2, y3].getD ((p3 + (2 : Int32))).toNatClampNeg 0))]) (fun _ k => XS.iloadN X0.here hx rfl (hb hby d6_14) rfl k) ?_
    refine gb (mkF m 17 #[vr a0, vi p1, vr a2, vi p3, vi p4, vi 2] [(.int 2), (.int p1), (.ref a0), (.int ([y0, y1, y2, y3].getD ((p3 + (2 : Int32))).toNatClampNeg 0))]) (fun _ k => XS.iload X0.here hx rfl (hb hby d6_15) rfl k) ?_
    refine gb (mkF m 18 #[vr a0, vi p1, vr a2, vi p3, vi p4, vi 2] [(.int (p1 + (2 : Int32))), (.ref a0), (.int ([y0, y1, y2, y3].getD ((p3 + (2 : Int32))).toNatClampNeg 0))]) (fun _ k => XS.iadd X0.here hx rfl (hb hby d6_17) rfl k) ?_
    obtain ⟨cl4, Ar4, qa4, Sa4, Na4, Ha4, Ga4⟩ := id pf0
    have hin5 : ¬ ((p1 + (2 : Int32)) < 0 ∨ cl4.slots.size ≤ ((p1 + (2 : Int32))).toNatClampNeg) := inb_of Sa4 (hm hf1).2
    refine gb (mkF m 19 #[vr a0, vi p1, vr a2, vi p3, vi p4, vi 2] [(.int ([x0, x1, x2].getD ((p1 + (2 : Int32))).toNatClampNeg 0)), (.int ([y0, y1, y2, y3].getD ((p3 + (2 : Int32))).toNatClampNeg 0))]) (X0.caload hx (j := (p1 + (2 : Int32))) (v := (.int ([x0, x1, x2].getD ((p1 + (2 : Int32))).toNatClampNeg 0))) (by rw [e0]; exact Ar4.1) (State.isArrayOf_alike hZ.alike Ar4.2.1) Ar4.2.2 hin5 (Has.at Ha4 hin5 (getDI [x0, x1, x2] _)) (g := (mkF m 18 #[vr a0, vi p1, vr a2, vi p3, vi p4, vi 2] [(.int (p1 + (2 : Int32))), (.ref a0), (.int ([y0, y1, y2, y3].getD ((p3 + (2 : Int32))).toNatClampNeg 0))])) rfl rfl (hb hby d6_18)) ?_
    obtain ⟨_, _, ⟨T6, L6, k6, n6⟩, -, X6, ⟨Lc6, hQ6, l6, y6, z6⟩, st6⟩ := callS X0 hx (y := mq13) hown (mvT hZ (hW hw 112 rfl)) (mvT hZ (hW hw 113 rfl)) (mvT hZ (hW hw 3 rfl)) (mvT hZ (hW hw 114 rfl)) (by decide) (backOf (W := 1) (rm23 l Z a0' hw [] ([x0, x1, x2].getD ((p1 + (2 : Int32))).toNatClampNeg 0) w1 w2 w3 G1 sf h0 n0 O W ) hZ (hW hw 114 rfl) (hW hw 3 rfl) (by decide) (by decide)) (g := (mkF m 19 #[vr a0, vi p1, vr a2, vi p3, vi p4, vi 2] [(.int ([x0, x1, x2].getD ((p1 + (2 : Int32))).toNatClampNeg 0)), (.int ([y0, y1, y2, y3].getD ((p3 + (2 : Int32))).toNatClampNeg 0))])) rfl (by rw [hml]; rfl) (argsL := [(.int ([x0, x1, x2].getD ((p1 + (2 : Int32))).toNatClampNeg 0))]) (rest := [(.int ([y0, y1, y2, y3].getD ((p3 + (2 : Int32))).toNatClampNeg 0))]) (lenOf pd314 rfl) rfl (Nat.le_of_eq rfl) (hb hby d6_19) (fun _ _ => ⟨rfl, e0, (by decide : 0 + 0 ≤ _), (by decide : 0 + 0 ≤ _)⟩)
    dsimp only [Pt.U, Pt.locs, Pt.cells, Pt.slots] at X6 l6 y6 z6 st6 hQ6
    subst l6 y6 z6
    obtain ⟨rfl, N6q, e6⟩ := hQ6
    have N6 := Fr.app N0 N6q
    refine gb (mkF m 22 #[vr a0, vi p1, vr a2, vi p3, vi p4, vi 2] [(.int (fn23 ([x0, x1, x2].getD ((p1 + (2 : Int32))).toNatClampNeg 0) w1 w2 w3 G1 sf)), (.int ([y0, y1, y2, y3].getD ((p3 + (2 : Int32))).toNatClampNeg 0))]) st6 ?_
    by_cases hf7 : ([y0, y1, y2, y3].getD ((p3 + (2 : Int32))).toNatClampNeg 0) = (fn23 ([x0, x1, x2].getD ((p1 + (2 : Int32))).toNatClampNeg 0) w1 w2 w3 G1 sf)
    · refine gb (mkF m 25 #[vr a0, vi p1, vr a2, vi p3, vi p4, vi 2] []) (fun _ k => XS.icmpNo X6.here hx rfl (hb hby d6_22) rfl (teq hf7).2 k) ?_
      refine gb (mkF m 26 #[vr a0, vi p1, vr a2, vi p3, vi p4, vi 2] [(.int 1)]) (fun _ k => XS.iconst X6.here hx rfl (hb hby d6_25) k) ?_
      refine gb (mkF m 30 #[vr a0, vi p1, vr a2, vi p3, vi p4, vi 2] [(.int 1)]) (fun _ k => XS.goto X6.here hx rfl (pc0 := 26) (pc' := 30) rfl (hb hby d6_26) (by decide) (by decide) k) ?_
      exact Gl.outN X6 hx hk (t := .boolean) Bd.returns (by simp) (hb hby d6_30) ⟨(congrArg (fun z => some (Value.int z)) (show nar .boolean (1 : Int32) = fn62 p1 p3 p4 x0 x1 x2 y0 y1 y2 y3 w1 w2 w3 G1 sf by unfold fn62; rw [if_pos hf1, if_pos hf7]; try rfl)), N6, e6⟩ (by decide) (by decide)
    · refine gb (mkF m 29 #[vr a0, vi p1, vr a2, vi p3, vi p4, vi 2] []) (fun _ k => XS.icmpYes X6.here hx rfl (pc0 := 22) (pc' := 29) rfl (hb hby d6_22) rfl (feq hf7).2 (by decide) (by decide) k) ?_
      refine gb (mkF m 30 #[vr a0, vi p1, vr a2, vi p3, vi p4, vi 2] [(.int 0)]) (fun _ k => XS.iconst X6.here hx rfl (hb hby d6_29) k) ?_
      exact Gl.outN X6 hx hk (t := .boolean) Bd.returns (by simp) (hb hby d6_30) ⟨(congrArg (fun z => some (Value.int z)) (show nar .boolean (0 : Int32) = fn62 p1 p3 p4 x0 x1 x2 y0 y1 y2 y3 w1 w2 w3 G1 sf by unfold fn62; rw [if_pos hf1, if_neg hf7]; try rfl)), N6, e6⟩ (by decide) (by decide)
  · refine gb (mkF m 25 #[vr a0, vi p1, vr a2, vi p3, vi p4, vi 2] []) (fun _ k => XS.icmpYes X0.here hx rfl (pc0 := 4) (pc' := 25) rfl (hb hby d6_4) rfl (flt hf1).2.1 (by decide) (by decide) k) ?_
    refine gb (mkF m 26 #[vr a0, vi p1, vr a2, vi p3, vi p4, vi 2] [(.int 1)]) (fun _ k => XS.iconst X0.here hx rfl (hb hby d6_25) k) ?_
    refine gb (mkF m 30 #[vr a0, vi p1, vr a2, vi p3, vi p4, vi 2] [(.int 1)]) (fun _ k => XS.goto X0.here hx rfl (pc0 := 26) (pc' := 30) rfl (hb hby d6_26) (by decide) (by decide) k) ?_
    exact Gl.outN X0 hx hk (t := .boolean) Bd.returns (by simp) (hb hby d6_30) ⟨(congrArg (fun z => some (Value.int z)) (show nar .boolean (1 : Int32) = fn62 p1 p3 p4 x0 x1 x2 y0 y1 y2 y3 w1 w2 w3 G1 sf by unfold fn62; rw [if_neg hf1]; try rfl)), N0, e0⟩ (by decide) (by decide)
theorem z3 {z : Int32} (h : 0 ≤ z.toInt ∧ z.toInt ≤ 3) : ¬ (3 : Int32) < z := by
  have q : (3 : Int32).toInt = 3 := by decide
  rw [Int32.lt_iff_toInt_lt, q]; omega
theorem d22_0 : decode jdk_43_method_23_code 0 = .ok (.iload_n 1, 1) := by decide +kernel
theorem d22_1 : decode jdk_43_method_23_code 1 = .ok (.i2b, 1) := by decide +kernel
theorem d22_2 : decode jdk_43_method_23_code 2 = .ok (.istore 4, 2) := by decide +kernel
theorem d22_4 : decode jdk_43_method_23_code 4 = .ok (.iload_n 2, 1) := by decide +kernel
theorem d22_5 : decode jdk_43_method_23_code 5 = .ok (.istore 5, 2) := by decide +kernel
theorem d22_7 : decode jdk_43_method_23_code 7 = .ok (.iload 5, 2) := by decide +kernel
theorem d22_9 : decode jdk_43_method_23_code 9 = .ok (.iload_n 3, 1) := by decide +kernel
theorem d22_10 : decode jdk_43_method_23_code 10 = .ok (.if_icmp .ge 21, 3) := by decide +kernel
theorem d22_13 : decode jdk_43_method_23_code 13 = .ok (.aload_n 0, 1) := by decide +kernel
theorem d22_14 : decode jdk_43_method_23_code 14 = .ok (.iload 5, 2) := by decide +kernel
theorem d22_16 : decode jdk_43_method_23_code 16 = .ok (.baload, 1) := by decide +kernel
theorem d22_17 : decode jdk_43_method_23_code 17 = .ok (.iload 4, 2) := by decide +kernel
theorem d22_19 : decode jdk_43_method_23_code 19 = .ok (.if_icmp .ne 6, 3) := by decide +kernel
theorem d22_22 : decode jdk_43_method_23_code 22 = .ok (.iload 5, 2) := by decide +kernel
theorem d22_24 : decode jdk_43_method_23_code 24 = .ok (.ireturn, 1) := by decide +kernel
theorem d22_25 : decode jdk_43_method_23_code 25 = .ok (.iinc 5 1, 3) := by decide +kernel
theorem d22_28 : decode jdk_43_method_23_code 28 = .ok (.goto (-21), 3) := by decide +kernel
theorem d22_31 : decode jdk_43_method_23_code 31 = .ok (.iconst (-1), 1) := by decide +kernel
theorem d22_32 : decode jdk_43_method_23_code 32 = .ok (.ireturn, 1) := by decide +kernel
theorem ef22 (m : MethodId) (x0 : Addr) (x1 : Int32) (x2 : Int32) (x3 : Int32) : entryFrame m #[(.ref x0), (.int x1), (.int x2), (.int x3)] 6 = mkF m 0 #[.val (.ref x0), .val (.int x1), .val (.int x2), .val (.int x3), .unset, .unset] [] := by first | (simp [entryFrame, mkF, argsToLocals, Value.category]; done) | rfl
def fn22 (zn : Int32) (us : List Int32) (w1 w2 w3 : Addr) (G1 : Int32) (sf : Value) : Int32 := if (0 : Int32) < zn then if (us.getD ((0 : Int32)).toNatClampNeg 0) = ((64 : Int32).toInt8.toInt32) then (0 : Int32) else if (1 : Int32) < zn then if (us.getD ((1 : Int32)).toNatClampNeg 0) = ((64 : Int32).toInt8.toInt32) then (1 : Int32) else if (2 : Int32) < zn then if (us.getD ((2 : Int32)).toNatClampNeg 0) = ((64 : Int32).toInt8.toInt32) then (2 : Int32) else (-1 : Int32) else (-1 : Int32) else (-1 : Int32) else (-1 : Int32)
def Q22 (Z : State) (a0 : Addr) (zn : Int32) (kb : ClassId) (us : List Int32) (w1 w2 w3 : Addr) (G1 : Int32) (sf : Value) (h0 : Heap) (n0 : Nat) (v : Option Value) (h : Heap) (L : List Loc) : Prop := v = some (.int (fn22 zn us w1 w2 w3 G1 sf)) ∧ Fr n0 L ∧ h = h0
theorem rm22 (l : Launch) (Z : State) (a0' : Array Value) (hw : ∀ d ∈ tables_1, d.before a0' Z = true) (ws : List Jvm.Cond) (a0 : Addr) (zn : Int32) (kb : ClassId) (us : List Int32) (w1 w2 w3 : Addr) (G1 : Int32) (sf : Value) (h0 : Heap) (n0 : Nat) (O : Old Z n0 h0) (W : Wd Z w1 w2 w3 G1 sf) (pf0 : Arv Z h0 a0 kb .byte zn (us.map Value.int) (.int 0)) (hz : 0 ≤ zn.toInt ∧ zn.toInt ≤ 3) :
    MetFree l mq16 (head1 (Jvm.Cond.code mq16 jdk_43_method_23_code 6 (some .int) :: ws) ({ frames := 0, cells := 0, slots := 0, locals := 0 } : Room)) (fun a U => a = #[(.ref a0), (.int 64), (.int 0), (.int zn)] ∧ Z.Warmed39 U.vm ∧ U.heap = h0) (fun _ _ _ _ _ => True) (fun _ U o U' => ∃ v L, o = .returned v ∧ Q22 Z a0 zn kb us w1 w2 w3 G1 sf h0 n0 v U'.heap L ∧ FrameEnd U o U' L ({ frames := 0, cells := 0, slots := 0, locals := 0 } : Room).cells ({ frames := 0, cells := 0, slots := 0, locals := 0 } : Room).slots) := by
  refine MetFree.of_bodySF (plainFor_of_name pn2) hisR ?_
  intro p e s m args below meth c s₁ Bd hml0 hP hK
  obtain ⟨rfl, hZ, hh⟩ := hP
  have hx := Bd.exec
  have hby := Bd.bytes
  have hml : c.maxLocals = 6 := hml0
  have hown : s.vm.findClass "java/lang/StringLatin1" = some m.cls := findClass_of_methodNamed Bd.named
  have hnm := (name_of_methodNamed Bd.named Bd.method).1
  have hk := Bd.notSynchronized
  have X0 : Stand p l e ({ frames := 0, cells := 0, slots := 0, locals := 0 } : Room) s m #[(.ref a0), (.int 64), (.int 0), (.int zn)] below meth c s₁ [] 0 0 := Stand.of_body Bd
  have hh2 := hh
  have e0 : s₁.heap = h0 := by rw [← hh, Bd.state]; rfl
  have N0 := Fr.nil n0
  show Gl p e below (Pos 0 0 (Q22 Z a0 zn kb us w1 w2 w3 G1 sf h0 n0) s) s₁ _
  refine Gl.cast (ef22 m a0 (64 : Int32) (0 : Int32) zn) ?_
  refine gb (mkF m 1 #[vr a0, vi 64, vi 0, vi zn, .unset, .unset] [(.int 64)]) (fun _ k => XS.iloadN X0.here hx rfl (hb hby d22_0) rfl k) ?_
  refine gb (mkF m 2 #[vr a0, vi 64, vi 0, vi zn, .unset, .unset] [(.int ((64 : Int32).toInt8.toInt32))]) (fun _ k => XS.i2b X0.here hx rfl (hb hby d22_1) rfl k) ?_
  refine gb (mkF m 4 #[vr a0, vi 64, vi 0, vi zn, vi ((64 : Int32).toInt8.toInt32), .unset] []) (fun _ k => XS.istore X0.here hx rfl (hb hby d22_2) rfl (l' := #[vr a0, vi 64, vi 0, vi zn, vi ((64 : Int32).toInt8.toInt32), .unset]) rfl k) ?_
  refine gb (mkF m 5 #[vr a0, vi 64, vi 0, vi zn, vi ((64 : Int32).toInt8.toInt32), .unset] [(.int 0)]) (fun _ k => XS.iloadN X0.here hx rfl (hb hby d22_4) rfl k) ?_
  refine gb (mkF m 7 #[vr a0, vi 64, vi 0, vi zn, vi ((64 : Int32).toInt8.toInt32), vi 0] []) (fun _ k => XS.istore X0.here hx rfl (hb hby d22_5) rfl (l' := #[vr a0, vi 64, vi 0, vi zn, vi ((64 : Int32).toInt8.toInt32), vi 0]) rfl k) ?_
  refine gb (mkF m 9 #[vr a0, vi 64, vi 0, vi zn, vi ((64 : Int32).toInt8.toInt32), vi 0] [(.int 0)]) (fun _ k => XS.iload X0.here hx rfl (hb hby d22_7) rfl k) ?_
  refine gb (mkF m 10 #[vr a0, vi 64, vi 0, vi zn, vi ((64 : Int32).toInt8.toInt32), vi 0] [(.int zn), (.int 0)]) (fun _ k => XS.iloadN X0.here hx rfl (hb hby d22_9) rfl k) ?_
  by_cases hf1 : (0 : Int32) < zn
  · refine gb (mkF m 13 #[vr a0, vi 64, vi 0, vi zn, vi ((64 : Int32).toInt8.toInt32), vi 0] []) (fun _ k => XS.icmpNo X0.here hx rfl (hb hby d22_10) rfl (tlt hf1).2.1 k) ?_
    refine gb (mkF m 14 #[vr a0, vi 64, vi 0, vi zn, vi ((64 : Int32).toInt8.toInt32), vi 0] [(.ref a0)]) (fun _ k => XS.aloadN X0.here hx rfl (hb hby d22_13) rfl rfl k) ?_
    refine gb (mkF m 16 #[vr a0, vi 64, vi 0, vi zn, vi ((64 : Int32).toInt8.toInt32), vi 0] [(.int 0), (.ref a0)]) (fun _ k => XS.iload X0.here hx rfl (hb hby d22_14) rfl k) ?_
    obtain ⟨cl2, Ar2, qa2, Sa2, Na2, Ha2, Ga2⟩ := id pf0
    have hin3 : ¬ ((0 : Int32) < 0 ∨ cl2.slots.size ≤ ((0 : Int32)).toNatClampNeg) := inb_of Sa2 ⟨by decide, hf1⟩
    refine gb (mkF m 17 #[vr a0, vi 64, vi 0, vi zn, vi ((64 : Int32).toInt8.toInt32), vi 0] [(.int (us.getD ((0 : Int32)).toNatClampNeg 0))]) (X0.baloadBytes hx (j := (0 : Int32)) (v := (.int (us.getD ((0 : Int32)).toNatClampNeg 0))) (by rw [e0]; exact Ar2.1) (State.isArrayOf_alike hZ.alike Ar2.2.1) Ar2.2.2 hin3 (Has.at Ha2 hin3 (getDI _ _)) (g := (mkF m 16 #[vr a0, vi 64, vi 0, vi zn, vi ((64 : Int32).toInt8.toInt32), vi 0] [(.int 0), (.ref a0)])) rfl rfl (hb hby d22_16)) ?_
    refine gb (mkF m 19 #[vr a0, vi 64, vi 0, vi zn, vi ((64 : Int32).toInt8.toInt32), vi 0] [(.int ((64 : Int32).toInt8.toInt32)), (.int (us.getD ((0 : Int32)).toNatClampNeg 0))]) (fun _ k => XS.iload X0.here hx rfl (hb hby d22_17) rfl k) ?_
    by_cases hf4 : (us.getD ((0 : Int32)).toNatClampNeg 0) = ((64 : Int32).toInt8.toInt32)
    · refine gb (mkF m 22 #[vr a0, vi 64, vi 0, vi zn, vi ((64 : Int32).toInt8.toInt32), vi 0] []) (fun _ k => XS.icmpNo X0.here hx rfl (hb hby d22_19) rfl (teq hf4).2 k) ?_
      refine gb (mkF m 24 #[vr a0, vi 64, vi 0, vi zn, vi ((64 : Int32).toInt8.toInt32), vi 0] [(.int 0)]) (fun _ k => XS.iload X0.here hx rfl (hb hby d22_22) rfl k) ?_
      exact Gl.outI X0 hx hk Bd.returns (hb hby d22_24) ⟨(congrArg (fun z => some (Value.int z)) (show (0 : Int32) = fn22 zn us w1 w2 w3 G1 sf by unfold fn22; rw [if_pos hf1, if_pos hf4]; try rfl)), N0, e0⟩ (by decide) (by decide)
    · refine gb (mkF m 25 #[vr a0, vi 64, vi 0, vi zn, vi ((64 : Int32).toInt8.toInt32), vi 0] []) (fun _ k => XS.icmpYes X0.here hx rfl (pc0 := 19) (pc' := 25) rfl (hb hby d22_19) rfl (feq hf4).2 (by decide) (by decide) k) ?_
      refine gb (mkF m 28 #[vr a0, vi 64, vi 0, vi zn, vi ((64 : Int32).toInt8.toInt32), vi 1] []) (fun _ k => XS.iinc X0.here hx rfl (hb hby d22_25) rfl (l' := #[vr a0, vi 64, vi 0, vi zn, vi ((64 : Int32).toInt8.toInt32), vi 1]) rfl k) ?_
      refine gb (mkF m 7 #[vr a0, vi 64, vi 0, vi zn, vi ((64 : Int32).toInt8.toInt32), vi 1] []) (fun _ k => XS.goto X0.here hx rfl (pc0 := 28) (pc' := 7) rfl (hb hby d22_28) (by decide) (by decide) k) ?_
      refine gb (mkF m 9 #[vr a0, vi 64, vi 0, vi zn, vi ((64 : Int32).toInt8.toInt32), vi 1] [(.int 1)]) (fun _ k => XS.iload X0.here hx rfl (hb hby d22_7) rfl k) ?_
      refine gb (mkF m 10 #[vr a0, vi 64, vi 0, vi zn, vi ((64 : Int32).toInt8.toInt32), vi 1] [(.int zn), (.int 1)]) (fun _ k => XS.iloadN X0.here hx rfl (hb hby d22_9) rfl k) ?_
      by_cases hf5 : (1 : Int32) < zn
      · refine gb (mkF m 13 #[vr a0, vi 64, vi 0, vi zn, vi ((64 : Int32).toInt8.toInt32), vi 1] []) (fun _ k => XS.icmpNo X0.here hx rfl (hb hby d22_10) rfl (tlt hf5).2.1 k) ?_
        refine gb (mkF m 14 #[vr a0, vi 64, vi 0, vi zn, vi ((64 : Int32).toInt8.toInt32), vi 1] [(.ref a0)]) (fun _ k => XS.aloadN X0.here hx rfl (hb hby d22_13) rfl rfl k) ?_
        refine gb (mkF m 16 #[vr a0, vi 64, vi 0, vi zn, vi ((64 : Int32).toInt8.toInt32), vi 1] [(.int 1), (.ref a0)]) (fun _ k => XS.iload X0.here hx rfl (hb hby d22_14) rfl k) ?_
        obtain ⟨cl6, Ar6, qa6, Sa6, Na6, Ha6, Ga6⟩ := id pf0
        have hin7 : ¬ ((1 : Int32) < 0 ∨ cl6.slots.size ≤ ((1 : Int32)).toNatClampNeg) := inb_of Sa6 ⟨by decide, hf5⟩
        refine gb (mkF m 17 #[vr a0, vi 64, vi 0, vi zn, vi ((64 : Int32).toInt8.toInt32), vi 1] [(.int (us.getD ((1 : Int32)).toNatClampNeg 0))]) (X0.baloadBytes hx (j := (1 : Int32)) (v := (.int (us.getD ((1 : Int32)).toNatClampNeg 0))) (by rw [e0]; exact Ar6.1) (State.isArrayOf_alike hZ.alike Ar6.2.1) Ar6.2.2 hin7 (Has.at Ha6 hin7 (getDI _ _)) (g := (mkF m 16 #[vr a0, vi 64, vi 0, vi zn, vi ((64 : Int32).toInt8.toInt32), vi 1] [(.int 1), (.ref a0)])) rfl rfl (hb hby d22_16)) ?_
        refine gb (mkF m 19 #[vr a0, vi 64, vi 0, vi zn, vi ((64 : Int32).toInt8.toInt32), vi 1] [(.int ((64 : Int32).toInt8.toInt32)), (.int (us.getD ((1 : Int32)).toNatClampNeg 0))]) (fun _ k => XS.iload X0.here hx rfl (hb hby d22_17) rfl k) ?_
        by_cases hf8 : (us.getD ((1 : Int32)).toNatClampNeg 0) = ((64 : Int32).toInt8.toInt32)
        · refine gb (mkF m 22 #[vr a0, vi 64, vi 0, vi zn, vi ((64 : Int32).toInt8.toInt32), vi 1] []) (fun _ k => XS.icmpNo X0.here hx rfl (hb hby d22_19) rfl (teq hf8).2 k) ?_
          refine gb (mkF m 24 #[vr a0, vi 64, vi 0, vi zn, vi ((64 : Int32).toInt8.toInt32), vi 1] [(.int 1)]) (fun _ k => XS.iload X0.here hx rfl (hb hby d22_22) rfl k) ?_
          exact Gl.outI X0 hx hk Bd.returns (hb hby d22_24) ⟨(congrArg (fun z => some (Value.int z)) (show (1 : Int32) = fn22 zn us w1 w2 w3 G1 sf by unfold fn22; rw [if_pos hf1, if_neg hf4, if_pos hf5, if_pos hf8]; try rfl)), N0, e0⟩ (by decide) (by decide)
        · refine gb (mkF m 25 #[vr a0, vi 64, vi 0, vi zn, vi ((64 : Int32).toInt8.toInt32), vi 1] []) (fun _ k => XS.icmpYes X0.here hx rfl (pc0 := 19) (pc' := 25) rfl (hb hby d22_19) rfl (feq hf8).2 (by decide) (by decide) k) ?_
          refine gb (mkF m 28 #[vr a0, vi 64, vi 0, vi zn, vi ((64 : Int32).toInt8.toInt32), vi 2] []) (fun _ k => XS.iinc X0.here hx rfl (hb hby d22_25) rfl (l' := #[vr a0, vi 64, vi 0, vi zn, vi ((64 : Int32).toInt8.toInt32), vi 2]) rfl k) ?_
          refine gb (mkF m 7 #[vr a0, vi 64, vi 0, vi zn, vi ((64 : Int32).toInt8.toInt32), vi 2] []) (fun _ k => XS.goto X0.here hx rfl (pc0 := 28) (pc' := 7) rfl (hb hby d22_28) (by decide) (by decide) k) ?_
          refine gb (mkF m 9 #[vr a0, vi 64, vi 0, vi zn, vi ((64 : Int32).toInt8.toInt32), vi 2] [(.int 2)]) (fun _ k => XS.iload X0.here hx rfl (hb hby d22_7) rfl k) ?_
          refine gb (mkF m 10 #[vr a0, vi 64, vi 0, vi zn, vi ((64 : Int32).toInt8.toInt32), vi 2] [(.int zn), (.int 2)]) (fun _ k => XS.iloadN X0.here hx rfl (hb hby d22_9) rfl k) ?_
          by_cases hf9 : (2 : Int32) < zn
          · refine gb (mkF m 13 #[vr a0, vi 64, vi 0, vi zn, vi ((64 : Int32).toInt8.toInt32), vi 2] []) (fun _ k => XS.icmpNo X0.here hx rfl (hb hby d22_10) rfl (tlt hf9).2.1 k) ?_
            refine gb (mkF m 14 #[vr a0, vi 64, vi 0, vi zn, vi ((64 : Int32).toInt8.toInt32), vi 2] [(.ref a0)]) (fun _ k => XS.aloadN X0.here hx rfl (hb hby d22_13) rfl rfl k) ?_
            refine gb (mkF m 16 #[vr a0, vi 64, vi 0, vi zn, vi ((64 : Int32).toInt8.toInt32), vi 2] [(.int 2), (.ref a0)]) (fun _ k => XS.iload X0.here hx rfl (hb hby d22_14) rfl k) ?_
            obtain ⟨cl10, Ar10, qa10, Sa10, Na10, Ha10, Ga10⟩ := id pf0
            have hin11 : ¬ ((2 : Int32) < 0 ∨ cl10.slots.size ≤ ((2 : Int32)).toNatClampNeg) := inb_of Sa10 ⟨by decide, hf9⟩
            refine gb (mkF m 17 #[vr a0, vi 64, vi 0, vi zn, vi ((64 : Int32).toInt8.toInt32), vi 2] [(.int (us.getD ((2 : Int32)).toNatClampNeg 0))]) (X0.baloadBytes hx (j := (2 : Int32)) (v := (.int (us.getD ((2 : Int32)).toNatClampNeg 0))) (by rw [e0]; exact Ar10.1) (State.isArrayOf_alike hZ.alike Ar10.2.1) Ar10.2.2 hin11 (Has.at Ha10 hin11 (getDI _ _)) (g := (mkF m 16 #[vr a0, vi 64, vi 0, vi zn, vi ((64 : Int32).toInt8.toInt32), vi 2] [(.int 2), (.ref a0)])) rfl rfl (hb hby d22_16)) ?_
            refine gb (mkF m 19 #[vr a0, vi 64, vi 0, vi zn, vi ((64 : Int32).toInt8.toInt32), vi 2] [(.int ((64 : Int32).toInt8.toInt32)), (.int (us.getD ((2 : Int32)).toNatClampNeg 0))]) (fun _ k => XS.iload X0.here hx rfl (hb hby d22_17) rfl k) ?_
            by_cases hf12 : (us.getD ((2 : Int32)).toNatClampNeg 0) = ((64 : Int32).toInt8.toInt32)
            · refine gb (mkF m 22 #[vr a0, vi 64, vi 0, vi zn, vi ((64 : Int32).toInt8.toInt32), vi 2] []) (fun _ k => XS.icmpNo X0.here hx rfl (hb hby d22_19) rfl (teq hf12).2 k) ?_
              refine gb (mkF m 24 #[vr a0, vi 64, vi 0, vi zn, vi ((64 : Int32).toInt8.toInt32), vi 2] [(.int 2)]) (fun _ k => XS.iload X0.here hx rfl (hb hby d22_22) rfl k) ?_
              exact Gl.outI X0 hx hk Bd.returns (hb hby d22_24) ⟨(congrArg (fun z => some (Value.int z)) (show (2 : Int32) = fn22 zn us w1 w2 w3 G1 sf by unfold fn22; rw [if_pos hf1, if_neg hf4, if_pos hf5, if_neg hf8, if_pos hf9, if_pos hf12]; try rfl)), N0, e0⟩ (by decide) (by decide)
            · refine gb (mkF m 25 #[vr a0, vi 64, vi 0, vi zn, vi ((64 : Int32).toInt8.toInt32), vi 2] []) (fun _ k => XS.icmpYes X0.here hx rfl (pc0 := 19) (pc' := 25) rfl (hb hby d22_19) rfl (feq hf12).2 (by decide) (by decide) k) ?_
              refine gb (mkF m 28 #[vr a0, vi 64, vi 0, vi zn, vi ((64 : Int32).toInt8.toInt32), vi 3] []) (fun _ k => XS.iinc X0.here hx rfl (hb hby d22_25) rfl (l' := #[vr a0, vi 64, vi 0, vi zn, vi ((64 : Int32).toInt8.toInt32), vi 3]) rfl k) ?_
              refine gb (mkF m 7 #[vr a0, vi 64, vi 0, vi zn, vi ((64 : Int32).toInt8.toInt32), vi 3] []) (fun _ k => XS.goto X0.here hx rfl (pc0 := 28) (pc' := 7) rfl (hb hby d22_28) (by decide) (by decide) k) ?_
              refine gb (mkF m 9 #[vr a0, vi 64, vi 0, vi zn, vi ((64 : Int32).toInt8.toInt32), vi 3] [(.int 3)]) (fun _ k => XS.iload X0.here hx rfl (hb hby d22_7) rfl k) ?_
              refine gb (mkF m 10 #[vr a0, vi 64, vi 0, vi zn, vi ((64 : Int32).toInt8.toInt32), vi 3] [(.int zn), (.int 3)]) (fun _ k => XS.iloadN X0.here hx rfl (hb hby d22_9) rfl k) ?_
              refine gb (mkF m 31 #[vr a0, vi 64, vi 0, vi zn, vi ((64 : Int32).toInt8.toInt32), vi 3] []) (fun _ k => XS.icmpYes X0.here hx rfl (pc0 := 10) (pc' := 31) rfl (hb hby d22_10) rfl (flt (z3 hz)).2.1 (by decide) (by decide) k) ?_
              refine gb (mkF m 32 #[vr a0, vi 64, vi 0, vi zn, vi ((64 : Int32).toInt8.toInt32), vi 3] [(.int (-1 : Int32))]) (fun _ k => XS.iconst X0.here hx rfl (hb hby d22_31) k) ?_
              exact Gl.outI X0 hx hk Bd.returns (hb hby d22_32) ⟨(congrArg (fun z => some (Value.int z)) (show (-1 : Int32) = fn22 zn us w1 w2 w3 G1 sf by unfold fn22; rw [if_pos hf1, if_neg hf4, if_pos hf5, if_neg hf8, if_pos hf9, if_neg hf12]; try rfl)), N0, e0⟩ (by decide) (by decide)
          · refine gb (mkF m 31 #[vr a0, vi 64, vi 0, vi zn, vi ((64 : Int32).toInt8.toInt32), vi 2] []) (fun _ k => XS.icmpYes X0.here hx rfl (pc0 := 10) (pc' := 31) rfl (hb hby d22_10) rfl (flt hf9).2.1 (by decide) (by decide) k) ?_
            refine gb (mkF m 32 #[vr a0, vi 64, vi 0, vi zn, vi ((64 : Int32).toInt8.toInt32), vi 2] [(.int (-1 : Int32))]) (fun _ k => XS.iconst X0.here hx rfl (hb hby d22_31) k) ?_
            exact Gl.outI X0 hx hk Bd.returns (hb hby d22_32) ⟨(congrArg (fun z => some (Value.int z)) (show (-1 : Int32) = fn22 zn us w1 w2 w3 G1 sf by unfold fn22; rw [if_pos hf1, if_neg hf4, if_pos hf5, if_neg hf8, if_neg hf9]; try rfl)), N0, e0⟩ (by decide) (by decide)
      · refine gb (mkF m 31 #[vr a0, vi 64, vi 0, vi zn, vi ((64 : Int32).toInt8.toInt32), vi 1] []) (fun _ k => XS.icmpYes X0.here hx rfl (pc0 := 10) (pc' := 31) rfl (hb hby d22_10) rfl (flt hf5).2.1 (by decide) (by decide) k) ?_
        refine gb (mkF m 32 #[vr a0, vi 64, vi 0, vi zn, vi ((64 : Int32).toInt8.toInt32), vi 1] [(.int (-1 : Int32))]) (fun _ k => XS.iconst X0.here hx rfl (hb hby d22_31) k) ?_
        exact Gl.outI X0 hx hk Bd.returns (hb hby d22_32) ⟨(congrArg (fun z => some (Value.int z)) (show (-1 : Int32) = fn22 zn us w1 w2 w3 G1 sf by unfold fn22; rw [if_pos hf1, if_neg hf4, if_neg hf5]; try rfl)), N0, e0⟩ (by decide) (by decide)
  · refine gb (mkF m 31 #[vr a0, vi 64, vi 0, vi zn, vi ((64 : Int32).toInt8.toInt32), vi 0] []) (fun _ k => XS.icmpYes X0.here hx rfl (pc0 := 10) (pc' := 31) rfl (hb hby d22_10) rfl (flt hf1).2.1 (by decide) (by decide) k) ?_
    refine gb (mkF m 32 #[vr a0, vi 64, vi 0, vi zn, vi ((64 : Int32).toInt8.toInt32), vi 0] [(.int (-1 : Int32))]) (fun _ k => XS.iconst X0.here hx rfl (hb hby d22_31) k) ?_
    exact Gl.outI X0 hx hk Bd.returns (hb hby d22_32) ⟨(congrArg (fun z => some (Value.int z)) (show (-1 : Int32) = fn22 zn us w1 w2 w3 G1 sf by unfold fn22; rw [if_neg hf1]; try rfl)), N0, e0⟩ (by decide) (by decide)
theorem d14_0 : decode jdk_43_method_4_code 0 = .ok (.iload_n 0, 1) := by decide +kernel
theorem d14_1 : decode jdk_43_method_4_code 1 = .ok (.ifCond .lt 14, 3) := by decide +kernel
theorem d14_4 : decode jdk_43_method_4_code 4 = .ok (.iload_n 0, 1) := by decide +kernel
theorem d14_5 : decode jdk_43_method_4_code 5 = .ok (.sipush 255, 3) := by decide +kernel
theorem d14_8 : decode jdk_43_method_4_code 8 = .ok (.if_icmp .gt 7, 3) := by decide +kernel
theorem d14_11 : decode jdk_43_method_4_code 11 = .ok (.iconst 1, 1) := by decide +kernel
theorem d14_12 : decode jdk_43_method_4_code 12 = .ok (.goto 4, 3) := by decide +kernel
theorem d14_16 : decode jdk_43_method_4_code 16 = .ok (.ireturn, 1) := by decide +kernel
theorem ef14 (m : MethodId) (x0 : Int32) : entryFrame m #[(.int x0)] 1 = mkF m 0 #[.val (.int x0)] [] := by first | (simp [entryFrame, mkF, argsToLocals, Value.category]; done) | rfl
def Q14 (Z : State) (w1 w2 w3 : Addr) (G1 : Int32) (sf : Value) (h0 : Heap) (n0 : Nat) (v : Option Value) (h : Heap) (L : List Loc) : Prop := v = some (.int 1) ∧ Fr n0 L ∧ h = h0
theorem rm14 (l : Launch) (Z : State) (a0' : Array Value) (hw : ∀ d ∈ tables_1, d.before a0' Z = true) (ws : List Jvm.Cond) (w1 w2 w3 : Addr) (G1 : Int32) (sf : Value) (h0 : Heap) (n0 : Nat) (O : Old Z n0 h0) (W : Wd Z w1 w2 w3 G1 sf) :
    MetFree l mq17 (head1 (Jvm.Cond.code mq17 jdk_43_method_4_code 1 (some .boolean) :: ws) ({ frames := 0, cells := 0, slots := 0, locals := 0 } : Room)) (fun a U => a = #[(.int 64)] ∧ Z.Warmed39 U.vm ∧ U.heap = h0) (fun _ _ _ _ _ => True) (fun _ U o U' => ∃ v L, o = .returned v ∧ Q14 Z  w1 w2 w3 G1 sf h0 n0 v U'.heap L ∧ FrameEnd U o U' L ({ frames := 0, cells := 0, slots := 0, locals := 0 } : Room).cells ({ frames := 0, cells := 0, slots := 0, locals := 0 } : Room).slots) := by
  refine MetFree.of_bodySF (plainFor_of_name pn2) hisR ?_
  intro p e s m args below meth c s₁ Bd hml0 hP hK
  obtain ⟨rfl, hZ, hh⟩ := hP
  have hx := Bd.exec
  have hby := Bd.bytes
  have hml : c.maxLocals = 1 := hml0
  have hown : s.vm.findClass "java/lang/StringLatin1" = some m.cls := findClass_of_methodNamed Bd.named
  have hnm := (name_of_methodNamed Bd.named Bd.method).1
  have hk := Bd.notSynchronized
  have X0 : Stand p l e ({ frames := 0, cells := 0, slots := 0, locals := 0 } : Room) s m #[(.int 64)] below meth c s₁ [] 0 0 := Stand.of_body Bd
  have hh2 := hh
  have e0 : s₁.heap = h0 := by rw [← hh, Bd.state]; rfl
  have N0 := Fr.nil n0
  show Gl p e below (Pos 0 0 (Q14 Z  w1 w2 w3 G1 sf h0 n0) s) s₁ _
  refine Gl.cast (ef14 m (64 : Int32)) ?_
  refine gb (mkF m 1 #[vi 64] [(.int 64)]) (fun _ k => XS.iloadN X0.here hx rfl (hb hby d14_0) rfl k) ?_
  refine gb (mkF m 4 #[vi 64] []) (fun _ k => XS.ifNo X0.here hx rfl (hb hby d14_1) rfl ((if0 _ _).trans (flt (by decide : ¬ ((64 : Int32) < (0 : Int32)))).1) k) ?_
  refine gb (mkF m 5 #[vi 64] [(.int 64)]) (fun _ k => XS.iloadN X0.here hx rfl (hb hby d14_4) rfl k) ?_
  refine gb (mkF m 8 #[vi 64] [(.int 255), (.int 64)]) (fun _ k => XS.sipush X0.here hx rfl (hb hby d14_5) k) ?_
  refine gb (mkF m 11 #[vi 64] []) (fun _ k => XS.icmpNo X0.here hx rfl (hb hby d14_8) rfl (flt (by decide : ¬ ((255 : Int32) < (64 : Int32)))).2.2.1 k) ?_
  refine gb (mkF m 12 #[vi 64] [(.int 1)]) (fun _ k => XS.iconst X0.here hx rfl (hb hby d14_11) k) ?_
  refine gb (mkF m 16 #[vi 64] [(.int 1)]) (fun _ k => XS.goto X0.here hx rfl (pc0 := 12) (pc' := 16) rfl (hb hby d14_12) (by decide) (by decide) k) ?_
  exact Gl.outN X0 hx hk (t := .boolean) Bd.returns (by simp) (hb hby d14_16) ⟨(congrArg (fun z => some (Value.int z)) (by decide : nar .boolean (1 : Int32) = (1 : Int32))), N0, e0⟩ (by decide) (by decide)
theorem d15_0 : decode jdk_29_method_65_code 0 = .ok (.iload_n 0, 1) := by decide +kernel
theorem d15_1 : decode jdk_29_method_65_code 1 = .ok (.iload_n 1, 1) := by decide +kernel
theorem d15_2 : decode jdk_29_method_65_code 2 = .ok (.if_icmp .lt 7, 3) := by decide +kernel
theorem d15_5 : decode jdk_29_method_65_code 5 = .ok (.iload_n 0, 1) := by decide +kernel
theorem d15_6 : decode jdk_29_method_65_code 6 = .ok (.goto 4, 3) := by decide +kernel
theorem d15_10 : decode jdk_29_method_65_code 10 = .ok (.ireturn, 1) := by decide +kernel
theorem ef15 (m : MethodId) (x0 : Int32) (x1 : Int32) : entryFrame m #[(.int x0), (.int x1)] 2 = mkF m 0 #[.val (.int x0), .val (.int x1)] [] := by first | (simp [entryFrame, mkF, argsToLocals, Value.category]; done) | rfl
def Q15 (Z : State) (w1 w2 w3 : Addr) (G1 : Int32) (sf : Value) (h0 : Heap) (n0 : Nat) (v : Option Value) (h : Heap) (L : List Loc) : Prop := v = some (.int 0) ∧ Fr n0 L ∧ h = h0
theorem rm15 (l : Launch) (Z : State) (a0' : Array Value) (hw : ∀ d ∈ tables_1, d.before a0' Z = true) (ws : List Jvm.Cond) (w1 w2 w3 : Addr) (G1 : Int32) (sf : Value) (h0 : Heap) (n0 : Nat) (O : Old Z n0 h0) (W : Wd Z w1 w2 w3 G1 sf) :
    MetFree l mq18 (head1 (Jvm.Cond.code mq18 jdk_29_method_65_code 2 (some .int) :: ws) ({ frames := 0, cells := 0, slots := 0, locals := 0 } : Room)) (fun a U => a = #[(.int 0), (.int 0)] ∧ Z.Warmed39 U.vm ∧ U.heap = h0) (fun _ _ _ _ _ => True) (fun _ U o U' => ∃ v L, o = .returned v ∧ Q15 Z  w1 w2 w3 G1 sf h0 n0 v U'.heap L ∧ FrameEnd U o U' L ({ frames := 0, cells := 0, slots := 0, locals := 0 } : Room).cells ({ frames := 0, cells := 0, slots := 0, locals := 0 } : Room).slots) := by
  refine MetFree.of_bodySF (Jvm.Free.JP.mathPlain rfl (by decide +kernel)) hisR ?_
  intro p e s m args below meth c s₁ Bd hml0 hP hK
  obtain ⟨rfl, hZ, hh⟩ := hP
  have hx := Bd.exec
  have hby := Bd.bytes
  have hml : c.maxLocals = 2 := hml0
  have hown : s.vm.findClass "java/lang/Math" = some m.cls := findClass_of_methodNamed Bd.named
  have hnm := (name_of_methodNamed Bd.named Bd.method).1
  have hk := Bd.notSynchronized
  have X0 : Stand p l e ({ frames := 0, cells := 0, slots := 0, locals := 0 } : Room) s m #[(.int 0), (.int 0)] below meth c s₁ [] 0 0 := Stand.of_body Bd
  have hh2 := hh
  have e0 : s₁.heap = h0 := by rw [← hh, Bd.state]; rfl
  have N0 := Fr.nil n0
  show Gl p e below (Pos 0 0 (Q15 Z  w1 w2 w3 G1 sf h0 n0) s) s₁ _
  refine Gl.cast (ef15 m (0 : Int32) (0 : Int32)) ?_
  refine gb (mkF m 1 #[vi 0, vi 0] [(.int 0)]) (fun _ k => XS.iloadN X0.here hx rfl (hb hby d15_0) rfl k) ?_
  refine gb (mkF m 2 #[vi 0, vi 0] [(.int 0), (.int 0)]) (fun _ k => XS.iloadN X0.here hx rfl (hb hby d15_1) rfl k) ?_
  refine gb (mkF m 5 #[vi 0, vi 0] []) (fun _ k => XS.icmpNo X0.here hx rfl (hb hby d15_2) rfl (flt (by decide : ¬ ((0 : Int32) < (0 : Int32)))).1 k) ?_
  refine gb (mkF m 6 #[vi 0, vi 0] [(.int 0)]) (fun _ k => XS.iloadN X0.here hx rfl (hb hby d15_5) rfl k) ?_
  refine gb (mkF m 10 #[vi 0, vi 0] [(.int 0)]) (fun _ k => XS.goto X0.here hx rfl (pc0 := 6) (pc' := 10) rfl (hb hby d15_6) (by decide) (by decide) k) ?_
  exact Gl.outI X0 hx hk Bd.returns (hb hby d15_10) ⟨rfl, N0, e0⟩ (by decide) (by decide)
theorem d16_0 : decode jdk_29_method_69_code 0 = .ok (.iload_n 0, 1) := by decide +kernel
theorem d16_1 : decode jdk_29_method_69_code 1 = .ok (.iload_n 1, 1) := by decide +kernel
theorem d16_2 : decode jdk_29_method_69_code 2 = .ok (.if_icmp .gt 7, 3) := by decide +kernel
theorem d16_5 : decode jdk_29_method_69_code 5 = .ok (.iload_n 0, 1) := by decide +kernel
theorem d16_6 : decode jdk_29_method_69_code 6 = .ok (.goto 4, 3) := by decide +kernel
theorem d16_10 : decode jdk_29_method_69_code 10 = .ok (.ireturn, 1) := by decide +kernel
theorem ef16 (m : MethodId) (x0 : Int32) (x1 : Int32) : entryFrame m #[(.int x0), (.int x1)] 2 = mkF m 0 #[.val (.int x0), .val (.int x1)] [] := by first | (simp [entryFrame, mkF, argsToLocals, Value.category]; done) | rfl
def Q16 (Z : State) (p0 : Int32) (p0 : Int32) (w1 w2 w3 : Addr) (G1 : Int32) (sf : Value) (h0 : Heap) (n0 : Nat) (v : Option Value) (h : Heap) (L : List Loc) : Prop := v = some (.int p0) ∧ Fr n0 L ∧ h = h0
theorem rm16 (l : Launch) (Z : State) (a0' : Array Value) (hw : ∀ d ∈ tables_1, d.before a0' Z = true) (ws : List Jvm.Cond) (p0 : Int32) (p0 : Int32) (w1 w2 w3 : Addr) (G1 : Int32) (sf : Value) (h0 : Heap) (n0 : Nat) (O : Old Z n0 h0) (W : Wd Z w1 w2 w3 G1 sf) :
    MetFree l mq19 (head1 (Jvm.Cond.code mq19 jdk_29_method_69_code 2 (some .int) :: ws) ({ frames := 0, cells := 0, slots := 0, locals := 0 } : Room)) (fun a U => a = #[(.int p0), (.int p0)] ∧ Z.Warmed39 U.vm ∧ U.heap = h0) (fun _ _ _ _ _ => True) (fun _ U o U' => ∃ v L, o = .returned v ∧ Q16 Z p0 p0 w1 w2 w3 G1 sf h0 n0 v U'.heap L ∧ FrameEnd U o U' L ({ frames := 0, cells := 0, slots := 0, locals := 0 } : Room).cells ({ frames := 0, cells := 0, slots := 0, locals := 0 } : Room).slots) := by
  refine MetFree.of_bodySF (Jvm.Free.JP.mathPlain rfl (by decide +kernel)) hisR ?_
  intro p e s m args below meth c s₁ Bd hml0 hP hK
  obtain ⟨rfl, hZ, hh⟩ := hP
  have hx := Bd.exec
  have hby := Bd.bytes
  have hml : c.maxLocals = 2 := hml0
  have hown : s.vm.findClass "java/lang/Math" = some m.cls := findClass_of_methodNamed Bd.named
  have hnm := (name_of_methodNamed Bd.named Bd.method).1
  have hk := Bd.notSynchronized
  have X0 : Stand p l e ({ frames := 0, cells := 0, slots := 0, locals := 0 } : Room) s m #[(.int p0), (.int p0)] below meth c s₁ [] 0 0 := Stand.of_body Bd
  have hh2 := hh
  have e0 : s₁.heap = h0 := by rw [← hh, Bd.state]; rfl
  have N0 := Fr.nil n0
  show Gl p e below (Pos 0 0 (Q16 Z p0 p0 w1 w2 w3 G1 sf h0 n0) s) s₁ _
  refine Gl.cast (ef16 m p0 p0) ?_
  refine gb (mkF m 1 #[vi p0, vi p0] [(.int p0)]) (fun _ k => XS.iloadN X0.here hx rfl (hb hby d16_0) rfl k) ?_
  refine gb (mkF m 2 #[vi p0, vi p0] [(.int p0), (.int p0)]) (fun _ k => XS.iloadN X0.here hx rfl (hb hby d16_1) rfl k) ?_
  refine gb (mkF m 5 #[vi p0, vi p0] []) (fun _ k => XS.icmpNo X0.here hx rfl (hb hby d16_2) rfl (flt Int32.lt_irrefl).2.2.1 k) ?_
  refine gb (mkF m 6 #[vi p0, vi p0] [(.int p0)]) (fun _ k => XS.iloadN X0.here hx rfl (hb hby d16_5) rfl k) ?_
  refine gb (mkF m 10 #[vi p0, vi p0] [(.int p0)]) (fun _ k => XS.goto X0.here hx rfl (pc0 := 6) (pc' := 10) rfl (hb hby d16_6) (by decide) (by decide) k) ?_
  exact Gl.outI X0 hx hk Bd.returns (hb hby d16_10) ⟨rfl, N0, e0⟩ (by decide) (by decide)
theorem d13_0 : decode jdk_43_method_22_code 0 = .ok (.iload_n 1, 1) := by decide +kernel
theorem d13_1 : decode jdk_43_method_22_code 1 = .ok (.invokestatic 88, 3) := by decide +kernel
theorem d13_4 : decode jdk_43_method_22_code 4 = .ok (.ifCond .ne 5, 3) := by decide +kernel
theorem d13_9 : decode jdk_43_method_22_code 9 = .ok (.iload_n 2, 1) := by decide +kernel
theorem d13_10 : decode jdk_43_method_22_code 10 = .ok (.iconst 0, 1) := by decide +kernel
theorem d13_11 : decode jdk_43_method_22_code 11 = .ok (.invokestatic 92, 3) := by decide +kernel
theorem d13_14 : decode jdk_43_method_22_code 14 = .ok (.istore_n 2, 1) := by decide +kernel
theorem d13_15 : decode jdk_43_method_22_code 15 = .ok (.iload_n 3, 1) := by decide +kernel
theorem d13_16 : decode jdk_43_method_22_code 16 = .ok (.aload_n 0, 1) := by decide +kernel
theorem d13_17 : decode jdk_43_method_22_code 17 = .ok (.arraylength, 1) := by decide +kernel
theorem d13_18 : decode jdk_43_method_22_code 18 = .ok (.invokestatic 38, 3) := by decide +kernel
theorem d13_21 : decode jdk_43_method_22_code 21 = .ok (.istore_n 3, 1) := by decide +kernel
theorem d13_22 : decode jdk_43_method_22_code 22 = .ok (.iload_n 2, 1) := by decide +kernel
theorem d13_23 : decode jdk_43_method_22_code 23 = .ok (.iload_n 3, 1) := by decide +kernel
theorem d13_24 : decode jdk_43_method_22_code 24 = .ok (.if_icmp .lt 5, 3) := by decide +kernel
theorem d13_27 : decode jdk_43_method_22_code 27 = .ok (.iconst (-1), 1) := by decide +kernel
theorem d13_28 : decode jdk_43_method_22_code 28 = .ok (.ireturn, 1) := by decide +kernel
theorem d13_29 : decode jdk_43_method_22_code 29 = .ok (.aload_n 0, 1) := by decide +kernel
theorem d13_30 : decode jdk_43_method_22_code 30 = .ok (.iload_n 1, 1) := by decide +kernel
theorem d13_31 : decode jdk_43_method_22_code 31 = .ok (.iload_n 2, 1) := by decide +kernel
theorem d13_32 : decode jdk_43_method_22_code 32 = .ok (.iload_n 3, 1) := by decide +kernel
theorem d13_33 : decode jdk_43_method_22_code 33 = .ok (.invokestatic 95, 3) := by decide +kernel
theorem d13_36 : decode jdk_43_method_22_code 36 = .ok (.ireturn, 1) := by decide +kernel
theorem pd377 : parseMethodDescriptor "(I)Z" = some ⟨[.int], some .boolean⟩ := by decide +kernel
theorem pd378 : parseMethodDescriptor "(II)I" = some ⟨[.int, .int], some .int⟩ := by decide +kernel
theorem pd379 : parseMethodDescriptor "([BIII)I" = some ⟨[(.array .byte), .int, .int, .int], some .int⟩ := by decide +kernel
theorem ef13 (m : MethodId) (x0 : Addr) (x1 : Int32) (x2 : Int32) (x3 : Int32) : entryFrame m #[(.ref x0), (.int x1), (.int x2), (.int x3)] 4 = mkF m 0 #[.val (.ref x0), .val (.int x1), .val (.int x2), .val (.int x3)] [] := by first | (simp [entryFrame, mkF, argsToLocals, Value.category]; done) | rfl
def fn13 (zn : Int32) (us : List Int32) (w1 w2 w3 : Addr) (G1 : Int32) (sf : Value) : Int32 := if (0 : Int32) < zn then (fn22 zn us w1 w2 w3 G1 sf) else (-1 : Int32)
def Q13 (Z : State) (a0 : Addr) (zn : Int32) (kb : ClassId) (us : List Int32) (w1 w2 w3 : Addr) (G1 : Int32) (sf : Value) (h0 : Heap) (n0 : Nat) (v : Option Value) (h : Heap) (L : List Loc) : Prop := v = some (.int (fn13 zn us w1 w2 w3 G1 sf)) ∧ Fr n0 L ∧ h = h0
theorem rm13 (l : Launch) (Z : State) (a0' : Array Value) (hw : ∀ d ∈ tables_1, d.before a0' Z = true) (ws : List Jvm.Cond) (a0 : Addr) (zn : Int32) (kb : ClassId) (us : List Int32) (w1 w2 w3 : Addr) (G1 : Int32) (sf : Value) (h0 : Heap) (n0 : Nat) (O : Old Z n0 h0) (W : Wd Z w1 w2 w3 G1 sf) (pf0 : Arv Z h0 a0 kb .byte zn (us.map Value.int) (.int 0)) (hz : 0 ≤ zn.toInt ∧ zn.toInt ≤ 3) :
    MetFree l mq20 (head1 (Jvm.Cond.code mq20 jdk_43_method_22_code 4 (some .int) :: ws) ({ frames := 1, cells := 0, slots := 0, locals := 17 } : Room)) (fun a U => a = #[(.ref a0), (.int 64), (.int 0), (.int zn)] ∧ Z.Warmed39 U.vm ∧ U.heap = h0) (fun _ _ _ _ _ => True) (fun _ U o U' => ∃ v L, o = .returned v ∧ Q13 Z a0 zn kb us w1 w2 w3 G1 sf h0 n0 v U'.heap L ∧ FrameEnd U o U' L ({ frames := 1, cells := 0, slots := 0, locals := 17 } : Room).cells ({ frames := 1, cells := 0, slots := 0, locals := 17 } : Room).slots) := by
  refine MetFree.of_bodySF (plainFor_of_name pn2) hisR ?_
  intro p e s m args below meth c s₁ Bd hml0 hP hK
  obtain ⟨rfl, hZ, hh⟩ := hP
  have hx := Bd.exec
  have hby := Bd.bytes
  have hml : c.maxLocals = 4 := hml0
  have hown : s.vm.findClass "java/lang/StringLatin1" = some m.cls := findClass_of_methodNamed Bd.named
  have hnm := (name_of_methodNamed Bd.named Bd.method).1
  have hk := Bd.notSynchronized
  have X0 : Stand p l e ({ frames := 1, cells := 0, slots := 0, locals := 17 } : Room) s m #[(.ref a0), (.int 64), (.int 0), (.int zn)] below meth c s₁ [] 0 0 := Stand.of_body Bd
  have hh2 := hh
  have e0 : s₁.heap = h0 := by rw [← hh, Bd.state]; rfl
  have N0 := Fr.nil n0
  show Gl p e below (Pos 0 0 (Q13 Z a0 zn kb us w1 w2 w3 G1 sf h0 n0) s) s₁ _
  refine Gl.cast (ef13 m a0 (64 : Int32) (0 : Int32) zn) ?_
  refine gb (mkF m 1 #[vr a0, vi 64, vi 0, vi zn] [(.int 64)]) (fun _ k => XS.iloadN X0.here hx rfl (hb hby d13_0) rfl k) ?_
  obtain ⟨_, _, ⟨T1, L1, k1, n1⟩, -, X1, ⟨Lc1, hQ1, l1, y1, z1⟩, st1⟩ := callS X0 hx (y := mq17) hown (mvT hZ (hW hw 72 rfl)) (mvT hZ (hW hw 73 rfl)) (mvT hZ (hW hw 70 rfl)) (mvT hZ (hW hw 74 rfl)) (by decide) (backOf (W := 0) (rm14 l Z a0' hw []  w1 w2 w3 G1 sf h0 n0 O W ) hZ (hW hw 74 rfl) (hW hw 70 rfl) (by decide) (by decide)) (g := (mkF m 1 #[vr a0, vi 64, vi 0, vi zn] [(.int 64)])) rfl (by rw [hml]; rfl) (argsL := [(.int 64)]) (rest := []) (lenOf pd377 rfl) rfl (Nat.le_of_eq rfl) (hb hby d13_1) (fun _ _ => ⟨rfl, e0, (by decide : 0 + 0 ≤ _), (by decide : 0 + 0 ≤ _)⟩)
  dsimp only [Pt.U, Pt.locs, Pt.cells, Pt.slots] at X1 l1 y1 z1 st1 hQ1
  subst l1 y1 z1
  obtain ⟨rfl, N1q, e1⟩ := hQ1
  have N1 := Fr.app N0 N1q
  refine gb (mkF m 4 #[vr a0, vi 64, vi 0, vi zn] [(.int 1)]) st1 ?_
  refine gb (mkF m 9 #[vr a0, vi 64, vi 0, vi zn] []) (fun _ k => XS.ifYes X1.here hx rfl (pc0 := 4) (pc' := 9) rfl (hb hby d13_4) rfl ((if0 _ _).trans (feq (by decide : ¬ ((1 : Int32) = (0 : Int32)))).2) (by decide) (by decide) k) ?_
  refine gb (mkF m 10 #[vr a0, vi 64, vi 0, vi zn] [(.int 0)]) (fun _ k => XS.iloadN X1.here hx rfl (hb hby d13_9) rfl k) ?_
  refine gb (mkF m 11 #[vr a0, vi 64, vi 0, vi zn] [(.int 0), (.int 0)]) (fun _ k => XS.iconst X1.here hx rfl (hb hby d13_10) k) ?_
  obtain ⟨_, _, ⟨T2, L2, k2, n2⟩, -, X2, ⟨Lc2, hQ2, l2, y2, z2⟩, st2⟩ := callS X1 hx (y := mq18) hown (mvT hZ (hW hw 75 rfl)) (mvT hZ (hW hw 76 rfl)) (mvT hZ (hW hw 77 rfl)) (mvT hZ (hW hw 78 rfl)) (by decide) (backOf (W := 0) (rm15 l Z a0' hw []  w1 w2 w3 G1 sf h0 n0 O W ) hZ (hW hw 78 rfl) (hW hw 77 rfl) (by decide) (by decide)) (g := (mkF m 11 #[vr a0, vi 64, vi 0, vi zn] [(.int 0), (.int 0)])) rfl (by rw [hml]; rfl) (argsL := [(.int 0), (.int 0)]) (rest := []) (lenOf pd378 rfl) rfl (Nat.le_of_eq rfl) (hb hby d13_11) (fun _ _ => ⟨rfl, e1, (by decide : 0 + 0 ≤ _), (by decide : 0 + 0 ≤ _)⟩)
  dsimp only [Pt.U, Pt.locs, Pt.cells, Pt.slots] at X2 l2 y2 z2 st2 hQ2
  subst l2 y2 z2
  obtain ⟨rfl, N2q, e2⟩ := hQ2
  have N2 := Fr.app N1 N2q
  refine gb (mkF m 14 #[vr a0, vi 64, vi 0, vi zn] [(.int 0)]) st2 ?_
  refine gb (mkF m 15 #[vr a0, vi 64, vi 0, vi zn] []) (fun _ k => XS.istoreN X2.here hx rfl (hb hby d13_14) rfl (l' := #[vr a0, vi 64, vi 0, vi zn]) rfl k) ?_
  refine gb (mkF m 16 #[vr a0, vi 64, vi 0, vi zn] [(.int zn)]) (fun _ k => XS.iloadN X2.here hx rfl (hb hby d13_15) rfl k) ?_
  refine gb (mkF m 17 #[vr a0, vi 64, vi 0, vi zn] [(.ref a0), (.int zn)]) (fun _ k => XS.aloadN X2.here hx rfl (hb hby d13_16) rfl rfl k) ?_
  obtain ⟨cl3, Ar3, qa3, Sa3, Na3, Ha3, Ga3⟩ := id pf0
  refine gb (mkF m 18 #[vr a0, vi 64, vi 0, vi zn] [(.int zn), (.int zn)]) (fun t k => X2.arraylength hx (by rw [e2]; exact Ar3.1) (State.isArrayOf_alike hZ.alike Ar3.2.1) (g := (mkF m 17 #[vr a0, vi 64, vi 0, vi zn] [(.ref a0), (.int zn)])) rfl rfl (hb hby d13_17) t (by rw [len_of Sa3 Na3]; exact k)) ?_
  obtain ⟨_, _, ⟨T4, L4, k4, n4⟩, -, X4, ⟨Lc4, hQ4, l4, y4, z4⟩, st4⟩ := callS X2 hx (y := mq19) hown (mvT hZ (hW hw 79 rfl)) (mvT hZ (hW hw 80 rfl)) (mvT hZ (hW hw 77 rfl)) (mvT hZ (hW hw 81 rfl)) (by decide) (backOf (W := 0) (rm16 l Z a0' hw [] zn zn w1 w2 w3 G1 sf h0 n0 O W ) hZ (hW hw 81 rfl) (hW hw 77 rfl) (by decide) (by decide)) (g := (mkF m 18 #[vr a0, vi 64, vi 0, vi zn] [(.int zn), (.int zn)])) rfl (by rw [hml]; rfl) (argsL := [(.int zn), (.int zn)]) (rest := []) (lenOf pd378 rfl) rfl (Nat.le_of_eq rfl) (hb hby d13_18) (fun _ _ => ⟨rfl, e2, (by decide : 0 + 0 ≤ _), (by decide : 0 + 0 ≤ _)⟩)
  dsimp only [Pt.U, Pt.locs, Pt.cells, Pt.slots] at X4 l4 y4 z4 st4 hQ4
  subst l4 y4 z4
  obtain ⟨rfl, N4q, e4⟩ := hQ4
  have N4 := Fr.app N2 N4q
  refine gb (mkF m 21 #[vr a0, vi 64, vi 0, vi zn] [(.int zn)]) st4 ?_
  refine gb (mkF m 22 #[vr a0, vi 64, vi 0, vi zn] []) (fun _ k => XS.istoreN X4.here hx rfl (hb hby d13_21) rfl (l' := #[vr a0, vi 64, vi 0, vi zn]) rfl k) ?_
  refine gb (mkF m 23 #[vr a0, vi 64, vi 0, vi zn] [(.int 0)]) (fun _ k => XS.iloadN X4.here hx rfl (hb hby d13_22) rfl k) ?_
  refine gb (mkF m 24 #[vr a0, vi 64, vi 0, vi zn] [(.int zn), (.int 0)]) (fun _ k => XS.iloadN X4.here hx rfl (hb hby d13_23) rfl k) ?_
  by_cases hf5 : (0 : Int32) < zn
  · refine gb (mkF m 29 #[vr a0, vi 64, vi 0, vi zn] []) (fun _ k => XS.icmpYes X4.here hx rfl (pc0 := 24) (pc' := 29) rfl (hb hby d13_24) rfl (tlt hf5).1 (by decide) (by decide) k) ?_
    refine gb (mkF m 30 #[vr a0, vi 64, vi 0, vi zn] [(.ref a0)]) (fun _ k => XS.aloadN X4.here hx rfl (hb hby d13_29) rfl rfl k) ?_
    refine gb (mkF m 31 #[vr a0, vi 64, vi 0, vi zn] [(.int 64), (.ref a0)]) (fun _ k => XS.iloadN X4.here hx rfl (hb hby d13_30) rfl k) ?_
    refine gb (mkF m 32 #[vr a0, vi 64, vi 0, vi zn] [(.int 0), (.int 64), (.ref a0)]) (fun _ k => XS.iloadN X4.here hx rfl (hb hby d13_31) rfl k) ?_
    refine gb (mkF m 33 #[vr a0, vi 64, vi 0, vi zn] [(.int zn), (.int 0), (.int 64), (.ref a0)]) (fun _ k => XS.iloadN X4.here hx rfl (hb hby d13_32) rfl k) ?_
    obtain ⟨_, _, ⟨T6, L6, k6, n6⟩, -, X6, ⟨Lc6, hQ6, l6, y6, z6⟩, st6⟩ := callS X4 hx (y := mq16) hown (mvT hZ (hW hw 107 rfl)) (mvT hZ (hW hw 108 rfl)) (mvT hZ (hW hw 70 rfl)) (mvT hZ (hW hw 109 rfl)) (by decide) (backOf (W := 0) (rm22 l Z a0' hw [] a0 zn kb us w1 w2 w3 G1 sf h0 n0 O W pf0 hz) hZ (hW hw 109 rfl) (hW hw 70 rfl) (by decide) (by decide)) (g := (mkF m 33 #[vr a0, vi 64, vi 0, vi zn] [(.int zn), (.int 0), (.int 64), (.ref a0)])) rfl (by rw [hml]; rfl) (argsL := [(.ref a0), (.int 64), (.int 0), (.int zn)]) (rest := []) (lenOf pd379 rfl) rfl (Nat.le_of_eq rfl) (hb hby d13_33) (fun _ _ => ⟨rfl, e4, (by decide : 0 + 0 ≤ _), (by decide : 0 + 0 ≤ _)⟩)
    dsimp only [Pt.U, Pt.locs, Pt.cells, Pt.slots] at X6 l6 y6 z6 st6 hQ6
    subst l6 y6 z6
    obtain ⟨rfl, N6q, e6⟩ := hQ6
    have N6 := Fr.app N4 N6q
    refine gb (mkF m 36 #[vr a0, vi 64, vi 0, vi zn] [(.int (fn22 zn us w1 w2 w3 G1 sf))]) st6 ?_
    exact Gl.outI X6 hx hk Bd.returns (hb hby d13_36) ⟨(congrArg (fun z => some (Value.int z)) (show (fn22 zn us w1 w2 w3 G1 sf) = fn13 zn us w1 w2 w3 G1 sf by unfold fn13; rw [if_pos hf5]; try rfl)), N6, e6⟩ (by decide) (by decide)
  · refine gb (mkF m 27 #[vr a0, vi 64, vi 0, vi zn] []) (fun _ k => XS.icmpNo X4.here hx rfl (hb hby d13_24) rfl (flt hf5).1 k) ?_
    refine gb (mkF m 28 #[vr a0, vi 64, vi 0, vi zn] [(.int (-1 : Int32))]) (fun _ k => XS.iconst X4.here hx rfl (hb hby d13_27) k) ?_
    exact Gl.outI X4 hx hk Bd.returns (hb hby d13_28) ⟨(congrArg (fun z => some (Value.int z)) (show (-1 : Int32) = fn13 zn us w1 w2 w3 G1 sf by unfold fn13; rw [if_neg hf5]; try rfl)), N4, e4⟩ (by decide) (by decide)
theorem d9_0 : decode jdk_42_method_80_code 0 = .ok (.aload_n 0, 1) := by decide +kernel
theorem d9_1 : decode jdk_42_method_80_code 1 = .ok (.invokevirtual 492, 3) := by decide +kernel
theorem d9_4 : decode jdk_42_method_80_code 4 = .ok (.ifCond .eq 19, 3) := by decide +kernel
theorem d9_7 : decode jdk_42_method_80_code 7 = .ok (.aload_n 0, 1) := by decide +kernel
theorem d9_8 : decode jdk_42_method_80_code 8 = .ok (.getfield 9, 3) := by decide +kernel
theorem d9_11 : decode jdk_42_method_80_code 11 = .ok (.iload_n 1, 1) := by decide +kernel
theorem d9_12 : decode jdk_42_method_80_code 12 = .ok (.iload_n 2, 1) := by decide +kernel
theorem d9_13 : decode jdk_42_method_80_code 13 = .ok (.aload_n 0, 1) := by decide +kernel
theorem d9_14 : decode jdk_42_method_80_code 14 = .ok (.invokevirtual 505, 3) := by decide +kernel
theorem d9_17 : decode jdk_42_method_80_code 17 = .ok (.invokestatic 637, 3) := by decide +kernel
theorem d9_20 : decode jdk_42_method_80_code 20 = .ok (.goto 16, 3) := by decide +kernel
theorem d9_36 : decode jdk_42_method_80_code 36 = .ok (.ireturn, 1) := by decide +kernel
theorem pd392 : parseMethodDescriptor "()I" = some ⟨[], some .int⟩ := by decide +kernel
theorem ef9 (m : MethodId) (x0 : Addr) (x1 : Int32) (x2 : Int32) : entryFrame m #[(.ref x0), (.int x1), (.int x2)] 3 = mkF m 0 #[.val (.ref x0), .val (.int x1), .val (.int x2)] [] := by first | (simp [entryFrame, mkF, argsToLocals, Value.category]; done) | rfl
def fn9 (zn : Int32) (us : List Int32) (w1 w2 w3 : Addr) (G1 : Int32) (sf : Value) : Int32 := (fn13 zn us w1 w2 w3 G1 sf)
def Q9 (Z : State) (a0 : Addr) (b : Addr) (kb : ClassId) (zn : Int32) (us : List Int32) (w1 w2 w3 : Addr) (G1 : Int32) (sf : Value) (h0 : Heap) (n0 : Nat) (v : Option Value) (h : Heap) (L : List Loc) : Prop := v = some (.int (fn9 zn us w1 w2 w3 G1 sf)) ∧ Fr n0 L ∧ h = h0
theorem rm9 (l : Launch) (Z : State) (a0' : Array Value) (hw : ∀ d ∈ tables_1, d.before a0' Z = true) (ws : List Jvm.Cond) (a0 : Addr) (b : Addr) (kb : ClassId) (zn : Int32) (us : List Int32) (w1 w2 w3 : Addr) (G1 : Int32) (sf : Value) (h0 : Heap) (n0 : Nat) (O : Old Z n0 h0) (W : Wd Z w1 w2 w3 G1 sf) (pf0 : Exa Z h0 a0 "java/lang/String") (pf1 : Fld Z h0 a0 "java/lang/String" "value" "[B" (.ref b)) (pf2 : Fld Z h0 a0 "java/lang/String" "coder" "B" (.int 0)) (pf3 : Arv Z h0 b kb .byte zn (us.map Value.int) (.int 0)) (hz : 0 ≤ zn.toInt ∧ zn.toInt ≤ 3) :
    MetFree l mq21 (head1 (Jvm.Cond.code mq21 jdk_42_method_80_code 3 (some .int) :: ws) ({ frames := 2, cells := 0, slots := 0, locals := 32 } : Room)) (fun a U => a = #[(.ref a0), (.int 64), (.int 0)] ∧ Z.Warmed39 U.vm ∧ U.heap = h0) (fun _ _ _ _ _ => True) (fun _ U o U' => ∃ v L, o = .returned v ∧ Q9 Z a0 b kb zn us w1 w2 w3 G1 sf h0 n0 v U'.heap L ∧ FrameEnd U o U' L ({ frames := 2, cells := 0, slots := 0, locals := 32 } : Room).cells ({ frames := 2, cells := 0, slots := 0, locals := 32 } : Room).slots) := by
  refine MetFree.of_bodySF (plainFor_of_name pn1) hisR ?_
  intro p e s m args below meth c s₁ Bd hml0 hP hK
  obtain ⟨rfl, hZ, hh⟩ := hP
  have hx := Bd.exec
  have hby := Bd.bytes
  have hml : c.maxLocals = 3 := hml0
  have hown : s.vm.findClass "java/lang/String" = some m.cls := findClass_of_methodNamed Bd.named
  have hnm := (name_of_methodNamed Bd.named Bd.method).1
  have hk := Bd.notSynchronized
  have X0 : Stand p l e ({ frames := 2, cells := 0, slots := 0, locals := 32 } : Room) s m #[(.ref a0), (.int 64), (.int 0)] below meth c s₁ [] 0 0 := Stand.of_body Bd
  have hh2 := hh
  have e0 : s₁.heap = h0 := by rw [← hh, Bd.state]; rfl
  have N0 := Fr.nil n0
  show Gl p e below (Pos 0 0 (Q9 Z a0 b kb zn us w1 w2 w3 G1 sf h0 n0) s) s₁ _
  refine Gl.cast (ef9 m a0 (64 : Int32) (0 : Int32)) ?_
  refine gb (mkF m 1 #[vr a0, vi 64, vi 0] [(.ref a0)]) (fun _ k => XS.aloadN X0.here hx rfl (hb hby d9_0) rfl rfl k) ?_
  obtain ⟨cq1, kq1, q1a, q1b, q1c⟩ := isOf hZ e0 pf0
  obtain ⟨_, _, ⟨T1, L1, k1, n1⟩, -, X1, ⟨Lc1, hQ1, l1, y1, z1⟩, st1⟩ := X0.virtualBack hx (y := mq4) (z := mq4) hown (mvT hZ (hW hw 52 rfl)) (mvT hZ (hW hw 53 rfl)) (notFace_of_selects (args := #[]) (mvT hZ (hW hw 55 rfl))) (mvT hZ (hW hw 55 rfl)) (mvT hZ (hW hw 54 rfl)) (by decide) (backOf (W := 0) (rm100 l Z a0' hw [] a0 w1 w2 w3 G1 sf h0 n0 O W pf0 pf2) hZ (hW hw 56 rfl) (hW hw 12 rfl) (by decide) (by decide)) q1a q1c (g := (mkF m 1 #[vr a0, vi 64, vi 0] [(.ref a0)])) rfl (by rw [hml]; rfl) (Steps.refl _) (argsL := []) (rest := []) (lenOf pd56 rfl) rfl (Nat.le_of_eq rfl) (hb hby d9_1) (fun _ _ => ⟨rfl, e0, (by decide : 0 + 0 ≤ _), (by decide : 0 + 0 ≤ _)⟩)
  dsimp only [Pt.U, Pt.locs, Pt.cells, Pt.slots] at X1 l1 y1 z1 st1 hQ1
  subst l1 y1 z1
  obtain ⟨rfl, N1q, e1⟩ := hQ1
  have N1 := Fr.app N0 N1q
  refine gb (mkF m 4 #[vr a0, vi 64, vi 0] [(.int 1)]) (fun _ k => st1.trans k) ?_
  refine gb (mkF m 7 #[vr a0, vi 64, vi 0] []) (fun _ k => XS.ifNo X1.here hx rfl (hb hby d9_4) rfl ((if0 _ _).trans (feq (by decide : ¬ ((1 : Int32) = (0 : Int32)))).1) k) ?_
  refine gb (mkF m 8 #[vr a0, vi 64, vi 0] [(.ref a0)]) (fun _ k => XS.aloadN X1.here hx rfl (hb hby d9_7) rfl rfl k) ?_
  obtain ⟨T2, X2, e2, st2⟩ := getF X1 hx hZ hown (host := "") (Or.inl (hW hw 29 rfl)) Via.refl e1 pf1 (g := (mkF m 8 #[vr a0, vi 64, vi 0] [(.ref a0)])) rfl rfl (hb hby d9_8)
  refine gb (mkF m 11 #[vr a0, vi 64, vi 0] [(.ref b)]) st2 ?_
  refine gb (mkF m 12 #[vr a0, vi 64, vi 0] [(.int 64), (.ref b)]) (fun _ k => XS.iloadN X2.here hx rfl (hb hby d9_11) rfl k) ?_
  refine gb (mkF m 13 #[vr a0, vi 64, vi 0] [(.int 0), (.int 64), (.ref b)]) (fun _ k => XS.iloadN X2.here hx rfl (hb hby d9_12) rfl k) ?_
  refine gb (mkF m 14 #[vr a0, vi 64, vi 0] [(.ref a0), (.int 0), (.int 64), (.ref b)]) (fun _ k => XS.aloadN X2.here hx rfl (hb hby d9_13) rfl rfl k) ?_
  obtain ⟨cq3, kq3, q3a, q3b, q3c⟩ := isOf hZ e2 pf0
  obtain ⟨_, _, ⟨T3, L3, k3, n3⟩, -, X3, ⟨Lc3, hQ3, l3, y3, z3⟩, st3⟩ := X2.virtualBack hx (y := mq5) (z := mq5) hown (mvT hZ (hW hw 58 rfl)) (mvT hZ (hW hw 59 rfl)) (notFace_of_selects (args := #[]) (mvT hZ (hW hw 61 rfl))) (mvT hZ (hW hw 61 rfl)) (mvT hZ (hW hw 60 rfl)) (by decide) (backOf (W := 3) (rm11 l Z a0' hw [] a0 b kb (us.map Value.int) zn w1 w2 w3 G1 sf h0 n0 O W pf0 pf1 pf2 pf3) hZ (hW hw 62 rfl) (hW hw 12 rfl) (by decide) (by decide)) q3a q3c (g := (mkF m 14 #[vr a0, vi 64, vi 0] [(.ref a0), (.int 0), (.int 64), (.ref b)])) rfl (by rw [hml]; rfl) (Steps.refl _) (argsL := []) (rest := [(.int 0), (.int 64), (.ref b)]) (lenOf pd392 rfl) rfl (Nat.le_of_eq rfl) (hb hby d9_14) (fun _ _ => ⟨rfl, e2, (by decide : 0 + 0 ≤ _), (by decide : 0 + 0 ≤ _)⟩)
  dsimp only [Pt.U, Pt.locs, Pt.cells, Pt.slots] at X3 l3 y3 z3 st3 hQ3
  subst l3 y3 z3
  obtain ⟨rfl, N3q, e3⟩ := hQ3
  have N3 := Fr.app N1 N3q
  refine gb (mkF m 17 #[vr a0, vi 64, vi 0] [(.int zn), (.int 0), (.int 64), (.ref b)]) (fun _ k => st3.trans k) ?_
  obtain ⟨_, _, ⟨T4, L4, k4, n4⟩, -, X4, ⟨Lc4, hQ4, l4, y4, z4⟩, st4⟩ := callS X3 hx (y := mq20) hown (mvT hZ (hW hw 68 rfl)) (mvT hZ (hW hw 69 rfl)) (mvT hZ (hW hw 70 rfl)) (mvT hZ (hW hw 71 rfl)) (by decide) (backOf (W := 0) (rm13 l Z a0' hw [] b zn kb us w1 w2 w3 G1 sf h0 n0 O W pf3 hz) hZ (hW hw 71 rfl) (hW hw 70 rfl) (by decide) (by decide)) (g := (mkF m 17 #[vr a0, vi 64, vi 0] [(.int zn), (.int 0), (.int 64), (.ref b)])) rfl (by rw [hml]; rfl) (argsL := [(.ref b), (.int 64), (.int 0), (.int zn)]) (rest := []) (lenOf pd379 rfl) rfl (Nat.le_of_eq rfl) (hb hby d9_17) (fun _ _ => ⟨rfl, e3, (by decide : 0 + 0 ≤ _), (by decide : 0 + 0 ≤ _)⟩)
  dsimp only [Pt.U, Pt.locs, Pt.cells, Pt.slots] at X4 l4 y4 z4 st4 hQ4
  subst l4 y4 z4
  obtain ⟨rfl, N4q, e4⟩ := hQ4
  have N4 := Fr.app N3 N4q
  refine gb (mkF m 20 #[vr a0, vi 64, vi 0] [(.int (fn13 zn us w1 w2 w3 G1 sf))]) st4 ?_
  refine gb (mkF m 36 #[vr a0, vi 64, vi 0] [(.int (fn13 zn us w1 w2 w3 G1 sf))]) (fun _ k => XS.goto X4.here hx rfl (pc0 := 20) (pc' := 36) rfl (hb hby d9_20) (by decide) (by decide) k) ?_
  exact Gl.outI X4 hx hk Bd.returns (hb hby d9_36) ⟨(congrArg (fun z => some (Value.int z)) (show (fn13 zn us w1 w2 w3 G1 sf) = fn9 zn us w1 w2 w3 G1 sf by unfold fn9; try rfl)), N4, e4⟩ (by decide) (by decide)
theorem d8_0 : decode jdk_42_method_79_code 0 = .ok (.aload_n 0, 1) := by decide +kernel
theorem d8_1 : decode jdk_42_method_79_code 1 = .ok (.iload_n 1, 1) := by decide +kernel
theorem d8_2 : decode jdk_42_method_79_code 2 = .ok (.iconst 0, 1) := by decide +kernel
theorem d8_3 : decode jdk_42_method_79_code 3 = .ok (.invokevirtual 633, 3) := by decide +kernel
theorem d8_6 : decode jdk_42_method_79_code 6 = .ok (.ireturn, 1) := by decide +kernel
theorem ef8 (m : MethodId) (x0 : Addr) (x1 : Int32) : entryFrame m #[(.ref x0), (.int x1)] 2 = mkF m 0 #[.val (.ref x0), .val (.int x1)] [] := by first | (simp [entryFrame, mkF, argsToLocals, Value.category]; done) | rfl
def fn8 (zn : Int32) (us : List Int32) (w1 w2 w3 : Addr) (G1 : Int32) (sf : Value) : Int32 := (fn9 zn us w1 w2 w3 G1 sf)
def Q8 (Z : State) (a0 : Addr) (b : Addr) (kb : ClassId) (zn : Int32) (us : List Int32) (w1 w2 w3 : Addr) (G1 : Int32) (sf : Value) (h0 : Heap) (n0 : Nat) (v : Option Value) (h : Heap) (L : List Loc) : Prop := v = some (.int (fn8 zn us w1 w2 w3 G1 sf)) ∧ Fr n0 L ∧ h = h0
theorem rm8 (l : Launch) (Z : State) (a0' : Array Value) (hw : ∀ d ∈ tables_1, d.before a0' Z = true) (ws : List Jvm.Cond) (a0 : Addr) (b : Addr) (kb : ClassId) (zn : Int32) (us : List Int32) (w1 w2 w3 : Addr) (G1 : Int32) (sf : Value) (h0 : Heap) (n0 : Nat) (O : Old Z n0 h0) (W : Wd Z w1 w2 w3 G1 sf) (pf0 : Exa Z h0 a0 "java/lang/String") (pf1 : Fld Z h0 a0 "java/lang/String" "value" "[B" (.ref b)) (pf2 : Fld Z h0 a0 "java/lang/String" "coder" "B" (.int 0)) (pf3 : Arv Z h0 b kb .byte zn (us.map Value.int) (.int 0)) (hz : 0 ≤ zn.toInt ∧ zn.toInt ≤ 3) :
    MetFree l mq22 (head1 (Jvm.Cond.code mq22 jdk_42_method_79_code 2 (some .int) :: ws) ({ frames := 3, cells := 0, slots := 0, locals := 46 } : Room)) (fun a U => a = #[(.ref a0), (.int 64)] ∧ Z.Warmed39 U.vm ∧ U.heap = h0) (fun _ _ _ _ _ => True) (fun _ U o U' => ∃ v L, o = .returned v ∧ Q8 Z a0 b kb zn us w1 w2 w3 G1 sf h0 n0 v U'.heap L ∧ FrameEnd U o U' L ({ frames := 3, cells := 0, slots := 0, locals := 46 } : Room).cells ({ frames := 3, cells := 0, slots := 0, locals := 46 } : Room).slots) := by
  refine MetFree.of_bodySF (plainFor_of_name pn1) hisR ?_
  intro p e s m args below meth c s₁ Bd hml0 hP hK
  obtain ⟨rfl, hZ, hh⟩ := hP
  have hx := Bd.exec
  have hby := Bd.bytes
  have hml : c.maxLocals = 2 := hml0
  have hown : s.vm.findClass "java/lang/String" = some m.cls := findClass_of_methodNamed Bd.named
  have hnm := (name_of_methodNamed Bd.named Bd.method).1
  have hk := Bd.notSynchronized
  have X0 : Stand p l e ({ frames := 3, cells := 0, slots := 0, locals := 46 } : Room) s m #[(.ref a0), (.int 64)] below meth c s₁ [] 0 0 := Stand.of_body Bd
  have hh2 := hh
  have e0 : s₁.heap = h0 := by rw [← hh, Bd.state]; rfl
  have N0 := Fr.nil n0
  show Gl p e below (Pos 0 0 (Q8 Z a0 b kb zn us w1 w2 w3 G1 sf h0 n0) s) s₁ _
  refine Gl.cast (ef8 m a0 (64 : Int32)) ?_
  refine gb (mkF m 1 #[vr a0, vi 64] [(.ref a0)]) (fun _ k => XS.aloadN X0.here hx rfl (hb hby d8_0) rfl rfl k) ?_
  refine gb (mkF m 2 #[vr a0, vi 64] [(.int 64), (.ref a0)]) (fun _ k => XS.iloadN X0.here hx rfl (hb hby d8_1) rfl k) ?_
  refine gb (mkF m 3 #[vr a0, vi 64] [(.int 0), (.int 64), (.ref a0)]) (fun _ k => XS.iconst X0.here hx rfl (hb hby d8_2) k) ?_
  obtain ⟨cq1, kq1, q1a, q1b, q1c⟩ := isOf hZ e0 pf0
  obtain ⟨_, _, ⟨T1, L1, k1, n1⟩, -, X1, ⟨Lc1, hQ1, l1, y1, z1⟩, st1⟩ := X0.virtualBack hx (y := mq21) (z := mq21) hown (mvT hZ (hW hw 47 rfl)) (mvT hZ (hW hw 48 rfl)) (notFace_of_selects (args := #[]) (mvT hZ (hW hw 50 rfl))) (mvT hZ (hW hw 50 rfl)) (mvT hZ (hW hw 49 rfl)) (by decide) (backOf (W := 0) (rm9 l Z a0' hw [] a0 b kb zn us w1 w2 w3 G1 sf h0 n0 O W pf0 pf1 pf2 pf3 hz) hZ (hW hw 51 rfl) (hW hw 12 rfl) (by decide) (by decide)) q1a q1c (g := (mkF m 3 #[vr a0, vi 64] [(.int 0), (.int 64), (.ref a0)])) rfl (by rw [hml]; rfl) (Steps.refl _) (argsL := [(.int 64), (.int 0)]) (rest := []) (lenOf pd378 rfl) rfl (Nat.le_of_eq rfl) (hb hby d8_3) (fun _ _ => ⟨rfl, e0, (by decide : 0 + 0 ≤ _), (by decide : 0 + 0 ≤ _)⟩)
  dsimp only [Pt.U, Pt.locs, Pt.cells, Pt.slots] at X1 l1 y1 z1 st1 hQ1
  subst l1 y1 z1
  obtain ⟨rfl, N1q, e1⟩ := hQ1
  have N1 := Fr.app N0 N1q
  refine gb (mkF m 6 #[vr a0, vi 64] [(.int (fn9 zn us w1 w2 w3 G1 sf))]) (fun _ k => st1.trans k) ?_
  exact Gl.outI X1 hx hk Bd.returns (hb hby d8_6) ⟨(congrArg (fun z => some (Value.int z)) (show (fn9 zn us w1 w2 w3 G1 sf) = fn8 zn us w1 w2 w3 G1 sf by unfold fn8; try rfl)), N1, e1⟩ (by decide) (by decide)
def Rg (b e z t m : Int32) : Prop := (0 ≤ b.toInt ∧ b.toInt ≤ e.toInt ∧ e.toInt ≤ z.toInt ∧ z.toInt ≤ 3) ∧ (0 ≤ t.toInt ∧ t.toInt ≤ m.toInt ∧ m.toInt ≤ 4)
theorem inc {b e z t m i : Int32} {j : Int} (h : Rg b e z t m) (hi : i.toInt = b.toInt + j) (h0 : 0 ≤ j) (h1 : j ≤ 3) : (i + (1 : Int32)).toInt = b.toInt + (j + 1) := by
  have a := c_iadd i 1
  have r := rng32 (i + 1)
  have q : (1 : Int32).toInt = 1 := by decide
  obtain ⟨⟨g1, g2, g3, g4⟩, -⟩ := h
  rw [q] at a
  omega
theorem cu {b e z t m i : Int32} {j : Int} (h : Rg b e z t m) (hi : i.toInt = b.toInt + j) (h0 : 0 ≤ j) (hl : i < e) : ¬ i < (0 : Int32) ∧ i < z := by
  have q : (0 : Int32).toInt = 0 := by decide
  obtain ⟨⟨g1, g2, g3, g4⟩, -⟩ := h
  rw [Int32.lt_iff_toInt_lt] at hl
  rw [Int32.lt_iff_toInt_lt, Int32.lt_iff_toInt_lt, q]
  omega
theorem cc {b e z t m i : Int32} {j : Int} (h : Rg b e z t m) (hi : i.toInt = b.toInt + j) (h0 : 0 ≤ j) (hl : i < e) (hn : ¬ (m - t) < (e - b)) : ¬ ((t + i) - b) < (0 : Int32) ∧ ((t + i) - b) < m := by
  have q : (0 : Int32).toInt = 0 := by decide
  have a1 := c_iadd t i
  have a2 := c_isub (t + i) b
  have a3 := c_isub m t
  have a4 := c_isub e b
  have r1 := rng32 (t + i)
  have r2 := rng32 ((t + i) - b)
  have r3 := rng32 (m - t)
  have r4 := rng32 (e - b)
  obtain ⟨⟨g1, g2, g3, g4⟩, g5, g6, g7⟩ := h
  rw [Int32.lt_iff_toInt_lt] at hl hn
  rw [Int32.lt_iff_toInt_lt, Int32.lt_iff_toInt_lt, q]
  omega
theorem ce {b e z t m i : Int32} (h : Rg b e z t m) (hi : i.toInt = b.toInt + (0 + 1 + 1 + 1)) : ¬ i < e := by
  obtain ⟨⟨g1, g2, g3, g4⟩, -⟩ := h
  rw [Int32.lt_iff_toInt_lt]
  omega
theorem d18_0 : decode prog_45_method_7_code 0 = .ok (.aload_n 3, 1) := by decide +kernel
theorem d18_1 : decode prog_45_method_7_code 1 = .ok (.invokevirtual 59, 3) := by decide +kernel
theorem d18_4 : decode prog_45_method_7_code 4 = .ok (.iload 4, 2) := by decide +kernel
theorem d18_6 : decode prog_45_method_7_code 6 = .ok (.isub, 1) := by decide +kernel
theorem d18_7 : decode prog_45_method_7_code 7 = .ok (.iload_n 2, 1) := by decide +kernel
theorem d18_8 : decode prog_45_method_7_code 8 = .ok (.iload_n 1, 1) := by decide +kernel
theorem d18_9 : decode prog_45_method_7_code 9 = .ok (.isub, 1) := by decide +kernel
theorem d18_10 : decode prog_45_method_7_code 10 = .ok (.if_icmp .ge 5, 3) := by decide +kernel
theorem d18_13 : decode prog_45_method_7_code 13 = .ok (.iconst (-1), 1) := by decide +kernel
theorem d18_14 : decode prog_45_method_7_code 14 = .ok (.ireturn, 1) := by decide +kernel
theorem d18_15 : decode prog_45_method_7_code 15 = .ok (.iload_n 1, 1) := by decide +kernel
theorem d18_16 : decode prog_45_method_7_code 16 = .ok (.istore 5, 2) := by decide +kernel
theorem d18_18 : decode prog_45_method_7_code 18 = .ok (.iload 5, 2) := by decide +kernel
theorem d18_20 : decode prog_45_method_7_code 20 = .ok (.iload_n 2, 1) := by decide +kernel
theorem d18_21 : decode prog_45_method_7_code 21 = .ok (.if_icmp .ge 58, 3) := by decide +kernel
theorem d18_24 : decode prog_45_method_7_code 24 = .ok (.aload_n 0, 1) := by decide +kernel
theorem d18_25 : decode prog_45_method_7_code 25 = .ok (.iload 5, 2) := by decide +kernel
theorem d18_27 : decode prog_45_method_7_code 27 = .ok (.invokevirtual 66, 3) := by decide +kernel
theorem d18_30 : decode prog_45_method_7_code 30 = .ok (.istore 6, 2) := by decide +kernel
theorem d18_32 : decode prog_45_method_7_code 32 = .ok (.iload 6, 2) := by decide +kernel
theorem d18_34 : decode prog_45_method_7_code 34 = .ok (.bipush 46, 2) := by decide +kernel
theorem d18_36 : decode prog_45_method_7_code 36 = .ok (.if_icmp .eq 10, 3) := by decide +kernel
theorem d18_39 : decode prog_45_method_7_code 39 = .ok (.iload 6, 2) := by decide +kernel
theorem d18_41 : decode prog_45_method_7_code 41 = .ok (.bipush 64, 2) := by decide +kernel
theorem d18_43 : decode prog_45_method_7_code 43 = .ok (.if_icmp .ne 8, 3) := by decide +kernel
theorem d18_46 : decode prog_45_method_7_code 46 = .ok (.bipush 95, 2) := by decide +kernel
theorem d18_48 : decode prog_45_method_7_code 48 = .ok (.goto 5, 3) := by decide +kernel
theorem d18_51 : decode prog_45_method_7_code 51 = .ok (.iload 6, 2) := by decide +kernel
theorem d18_53 : decode prog_45_method_7_code 53 = .ok (.istore 7, 2) := by decide +kernel
theorem d18_55 : decode prog_45_method_7_code 55 = .ok (.aload_n 3, 1) := by decide +kernel
theorem d18_56 : decode prog_45_method_7_code 56 = .ok (.iload 4, 2) := by decide +kernel
theorem d18_58 : decode prog_45_method_7_code 58 = .ok (.iload 5, 2) := by decide +kernel
theorem d18_60 : decode prog_45_method_7_code 60 = .ok (.iadd, 1) := by decide +kernel
theorem d18_61 : decode prog_45_method_7_code 61 = .ok (.iload_n 1, 1) := by decide +kernel
theorem d18_62 : decode prog_45_method_7_code 62 = .ok (.isub, 1) := by decide +kernel
theorem d18_63 : decode prog_45_method_7_code 63 = .ok (.invokevirtual 66, 3) := by decide +kernel
theorem d18_66 : decode prog_45_method_7_code 66 = .ok (.iload 7, 2) := by decide +kernel
theorem d18_68 : decode prog_45_method_7_code 68 = .ok (.if_icmp .eq 5, 3) := by decide +kernel
theorem d18_71 : decode prog_45_method_7_code 71 = .ok (.iconst (-1), 1) := by decide +kernel
theorem d18_72 : decode prog_45_method_7_code 72 = .ok (.ireturn, 1) := by decide +kernel
theorem d18_73 : decode prog_45_method_7_code 73 = .ok (.iinc 5 1, 3) := by decide +kernel
theorem d18_76 : decode prog_45_method_7_code 76 = .ok (.goto (-58), 3) := by decide +kernel
theorem d18_79 : decode prog_45_method_7_code 79 = .ok (.iload 4, 2) := by decide +kernel
theorem d18_81 : decode prog_45_method_7_code 81 = .ok (.iload_n 2, 1) := by decide +kernel
theorem d18_82 : decode prog_45_method_7_code 82 = .ok (.iadd, 1) := by decide +kernel
theorem d18_83 : decode prog_45_method_7_code 83 = .ok (.iload_n 1, 1) := by decide +kernel
theorem d18_84 : decode prog_45_method_7_code 84 = .ok (.isub, 1) := by decide +kernel
theorem d18_85 : decode prog_45_method_7_code 85 = .ok (.ireturn, 1) := by decide +kernel
theorem pn5 : plainName "com/example/gatewarden/gatewarden/core/UserKeyword" = true := by first | (simp [plainName, overriddenIn]; done) | decide +kernel
theorem pd446 : parseMethodDescriptor "(I)C" = some ⟨[.int], some .char⟩ := by decide +kernel
theorem ef18 (m : MethodId) (x0 : Addr) (x1 : Int32) (x2 : Int32) (x3 : Addr) (x4 : Int32) : entryFrame m #[(.ref x0), (.int x1), (.int x2), (.ref x3), (.int x4)] 8 = mkF m 0 #[.val (.ref x0), .val (.int x1), .val (.int x2), .val (.ref x3), .val (.int x4), .unset, .unset, .unset] [] := by first | (simp [entryFrame, mkF, argsToLocals, Value.category]; done) | rfl
def fj18_0 (p1 : Int32) (us : List Int32) (w1 w2 w3 : Addr) (G1 : Int32) (sf : Value) : Int32 := if (fn24A p1 us w1 w2 w3 G1 sf) = (46 : Int32) then (95 : Int32) else if (fn24A p1 us w1 w2 w3 G1 sf) = (64 : Int32) then (95 : Int32) else (fn24A p1 us w1 w2 w3 G1 sf)
def fj18_1 (p1 : Int32) (us : List Int32) (w1 w2 w3 : Addr) (G1 : Int32) (sf : Value) : Int32 := if (fn24A (p1 + (1 : Int32)) us w1 w2 w3 G1 sf) = (46 : Int32) then (95 : Int32) else if (fn24A (p1 + (1 : Int32)) us w1 w2 w3 G1 sf) = (64 : Int32) then (95 : Int32) else (fn24A (p1 + (1 : Int32)) us w1 w2 w3 G1 sf)
def fj18_2 (p1 : Int32) (us : List Int32) (w1 w2 w3 : Addr) (G1 : Int32) (sf : Value) : Int32 := if (fn24A ((p1 + (1 : Int32)) + (1 : Int32)) us w1 w2 w3 G1 sf) = (46 : Int32) then (95 : Int32) else if (fn24A ((p1 + (1 : Int32)) + (1 : Int32)) us w1 w2 w3 G1 sf) = (64 : Int32) then (95 : Int32) else (fn24A ((p1 + (1 : Int32)) + (1 : Int32)) us w1 w2 w3 G1 sf)
def fn18 (p1 : Int32) (p2 : Int32) (p4 : Int32) (us : List Int32) (zm : Int32) (cs : List Int32) (w1 w2 w3 : Addr) (G1 : Int32) (sf : Value) : Int32 := if (zm - p4) < (p2 - p1) then (-1 : Int32) else if p1 < p2 then if (fn24A ((p4 + p1) - p1) cs w1 w2 w3 G1 sf) = (fj18_0 p1 us w1 w2 w3 G1 sf) then if (p1 + (1 : Int32)) < p2 then if (fn24A ((p4 + (p1 + (1 : Int32))) - p1) cs w1 w2 w3 G1 sf) = (fj18_1 p1 us w1 w2 w3 G1 sf) then if ((p1 + (1 : Int32)) + (1 : Int32)) < p2 then if (fn24A ((p4 + ((p1 + (1 : Int32)) + (1 : Int32))) - p1) cs w1 w2 w3 G1 sf) = (fj18_2 p1 us w1 w2 w3 G1 sf) then ((p4 + p2) - p1) else (-1 : Int32) else ((p4 + p2) - p1) else (-1 : Int32) else ((p4 + p2) - p1) else (-1 : Int32) else ((p4 + p2) - p1)
def Q18 (Z : State) (a0 : Addr) (p1 : Int32) (p2 : Int32) (a3 : Addr) (p4 : Int32) (b : Addr) (kb : ClassId) (zn : Int32) (us : List Int32) (bc : Addr) (kc : ClassId) (zm : Int32) (cs : List Int32) (w1 w2 w3 : Addr) (G1 : Int32) (sf : Value) (h0 : Heap) (n0 : Nat) (v : Option Value) (h : Heap) (L : List Loc) : Prop := v = some (.int (fn18 p1 p2 p4 us zm cs w1 w2 w3 G1 sf)) ∧ Fr n0 L ∧ h = h0
theorem rm18 (l : Launch) (Z : State) (a0' : Array Value) (hw : ∀ d ∈ tables_1, d.before a0' Z = true) (ws : List Jvm.Cond) (a0 : Addr) (p1 : Int32) (p2 : Int32) (a3 : Addr) (p4 : Int32) (b : Addr) (kb : ClassId) (zn : Int32) (us : List Int32) (bc : Addr) (kc : ClassId) (zm : Int32) (cs : List Int32) (w1 w2 w3 : Addr) (G1 : Int32) (sf : Value) (h0 : Heap) (n0 : Nat) (O : Old Z n0 h0) (W : Wd Z w1 w2 w3 G1 sf) (pf0 : Exa Z h0 a0 "java/lang/String") (pf1 : Fld Z h0 a0 "java/lang/String" "value" "[B" (.ref b)) (pf2 : Fld Z h0 a0 "java/lang/String" "coder" "B" (.int 0)) (pf3 : Arv Z h0 b kb .byte zn (us.map Value.int) (.int 0)) (pf4 : Exa Z h0 a3 "java/lang/String") (pf5 : Fld Z h0 a3 "java/lang/String" "value" "[B" (.ref bc)) (pf6 : Fld Z h0 a3 "java/lang/String" "coder" "B" (.int 0)) (pf7 : Arv Z h0 bc kc .byte zm (cs.map Value.int) (.int 0)) (hR : Rg p1 p2 zn p4 zm) :
    MetFree l mq23 (head1 (Jvm.Cond.code mq23 prog_45_method_7_code 8 (some .int) :: ws) ({ frames := 4, cells := 0, slots := 0, locals := 53 } : Room)) (fun a U => a = #[(.ref a0), (.int p1), (.int p2), (.ref a3), (.int p4)] ∧ Z.Warmed39 U.vm ∧ U.heap = h0) (fun _ _ _ _ _ => True) (fun _ U o U' => ∃ v L, o = .returned v ∧ Q18 Z a0 p1 p2 a3 p4 b kb zn us bc kc zm cs w1 w2 w3 G1 sf h0 n0 v U'.heap L ∧ FrameEnd U o U' L ({ frames := 4, cells := 0, slots := 0, locals := 53 } : Room).cells ({ frames := 4, cells := 0, slots := 0, locals := 53 } : Room).slots) := by
  refine MetFree.of_bodySF (plainFor_of_name pn5) hisR ?_
  intro p e s m args below meth c s₁ Bd hml0 hP hK
  obtain ⟨rfl, hZ, hh⟩ := hP
  have hx := Bd.exec
  have hby := Bd.bytes
  have hml : c.maxLocals = 8 := hml0
  have hown : s.vm.findClass "com/example/gatewarden/gatewarden/core/UserKeyword" = some m.cls := findClass_of_methodNamed Bd.named
  have hnm := (name_of_methodNamed Bd.named Bd.method).1
  have hk := Bd.notSynchronized
  have X0 : Stand p l e ({ frames := 4, cells := 0, slots := 0, locals := 53 } : Room) s m #[(.ref a0), (.int p1), (.int p2), (.ref a3), (.int p4)] below meth c s₁ [] 0 0 := Stand.of_body Bd
  have hh2 := hh
  have e0 : s₁.heap = h0 := by rw [← hh, Bd.state]; rfl
  have N0 := Fr.nil n0
  show Gl p e below (Pos 0 0 (Q18 Z a0 p1 p2 a3 p4 b kb zn us bc kc zm cs w1 w2 w3 G1 sf h0 n0) s) s₁ _
  refine Gl.cast (ef18 m a0 p1 p2 a3 p4) ?_
  refine gb (mkF m 1 #[vr a0, vi p1, vi p2, vr a3, vi p4, .unset, .unset, .unset] [(.ref a3)]) (fun _ k => XS.aloadN X0.here hx rfl (hb hby d18_0) rfl rfl k) ?_
  obtain ⟨cq1, kq1, q1a, q1b, q1c⟩ := isOf hZ e0 pf4
  obtain ⟨_, _, ⟨T1, L1, k1, n1⟩, -, X1, ⟨Lc1, hQ1, l1, y1, z1⟩, st1⟩ := X0.virtualBack hx (y := mq5) (z := mq5) hown (mvT hZ (hW hw 91 rfl)) (mvT hZ (hW hw 59 rfl)) (notFace_of_selects (args := #[]) (mvT hZ (hW hw 61 rfl))) (mvT hZ (hW hw 61 rfl)) (mvT hZ (hW hw 60 rfl)) (by decide) (backOf (W := 0) (rm11 l Z a0' hw [] a3 bc kc (cs.map Value.int) zm w1 w2 w3 G1 sf h0 n0 O W pf4 pf5 pf6 pf7) hZ (hW hw 62 rfl) (hW hw 12 rfl) (by decide) (by decide)) q1a q1c (g := (mkF m 1 #[vr a0, vi p1, vi p2, vr a3, vi p4, .unset, .unset, .unset] [(.ref a3)])) rfl (by rw [hml]; rfl) (Steps.refl _) (argsL := []) (rest := []) (lenOf pd392 rfl) rfl (Nat.le_of_eq rfl) (hb hby d18_1) (fun _ _ => ⟨rfl, e0, (by decide : 0 + 0 ≤ _), (by decide : 0 + 0 ≤ _)⟩)
  dsimp only [Pt.U, Pt.locs, Pt.cells, Pt.slots] at X1 l1 y1 z1 st1 hQ1
  subst l1 y1 z1
  obtain ⟨rfl, N1q, e1⟩ := hQ1
  have N1 := Fr.app N0 N1q
  refine gb (mkF m 4 #[vr a0, vi p1, vi p2, vr a3, vi p4, .unset, .unset, .unset] [(.int zm)]) (fun _ k => st1.trans k) ?_
  refine gb (mkF m 6 #[vr a0, vi p1, vi p2, vr a3, vi p4, .unset, .unset, .unset] [(.int p4), (.int zm)]) (fun _ k => XS.iload X1.here hx rfl (hb hby d18_4) rfl k) ?_
  refine gb (mkF m 7 #[vr a0, vi p1, vi p2, vr a3, vi p4, .unset, .unset, .unset] [(.int (zm - p4))]) (fun _ k => XS.isub X1.here hx rfl (hb hby d18_6) rfl k) ?_
  refine gb (mkF m 8 #[vr a0, vi p1, vi p2, vr a3, vi p4, .unset, .unset, .unset] [(.int p2), (.int (zm - p4))]) (fun _ k => XS.iloadN X1.here hx rfl (hb hby d18_7) rfl k) ?_
  refine gb (mkF m 9 #[vr a0, vi p1, vi p2, vr a3, vi p4, .unset, .unset, .unset] [(.int p1), (.int p2), (.int (zm - p4))]) (fun _ k => XS.iloadN X1.here hx rfl (hb hby d18_8) rfl k) ?_
  refine gb (mkF m 10 #[vr a0, vi p1, vi p2, vr a3, vi p4, .unset, .unset, .unset] [(.int (p2 - p1)), (.int (zm - p4))]) (fun _ k => XS.isub X1.here hx rfl (hb hby d18_9) rfl k) ?_
  by_cases hf2 : (zm - p4) < (p2 - p1)
  · refine gb (mkF m 13 #[vr a0, vi p1, vi p2, vr a3, vi p4, .unset, .unset, .unset] []) (fun _ k => XS.icmpNo X1.here hx rfl (hb hby d18_10) rfl (tlt hf2).2.1 k) ?_
    refine gb (mkF m 14 #[vr a0, vi p1, vi p2, vr a3, vi p4, .unset, .unset, .unset] [(.int (-1 : Int32))]) (fun _ k => XS.iconst X1.here hx rfl (hb hby d18_13) k) ?_
    exact Gl.outI X1 hx hk Bd.returns (hb hby d18_14) ⟨(congrArg (fun z => some (Value.int z)) (show (-1 : Int32) = fn18 p1 p2 p4 us zm cs w1 w2 w3 G1 sf by unfold fn18; rw [if_pos hf2]; try rfl)), N1, e1⟩ (by decide) (by decide)
  · refine gb (mkF m 15 #[vr a0, vi p1, vi p2, vr a3, vi p4, .unset, .unset, .unset] []) (fun _ k => XS.icmpYes X1.here hx rfl (pc0 := 10) (pc' := 15) rfl (hb hby d18_10) rfl (flt hf2).2.1 (by decide) (by decide) k) ?_
    refine gb (mkF m 16 #[vr a0, vi p1, vi p2, vr a3, vi p4, .unset, .unset, .unset] [(.int p1)]) (fun _ k => XS.iloadN X1.here hx rfl (hb hby d18_15) rfl k) ?_
    refine gb (mkF m 18 #[vr a0, vi p1, vi p2, vr a3, vi p4, vi p1, .unset, .unset] []) (fun _ k => XS.istore X1.here hx rfl (hb hby d18_16) rfl (l' := #[vr a0, vi p1, vi p2, vr a3, vi p4, vi p1, .unset, .unset]) rfl k) ?_
    refine gb (mkF m 20 #[vr a0, vi p1, vi p2, vr a3, vi p4, vi p1, .unset, .unset] [(.int p1)]) (fun _ k => XS.iload X1.here hx rfl (hb hby d18_18) rfl k) ?_
    refine gb (mkF m 21 #[vr a0, vi p1, vi p2, vr a3, vi p4, vi p1, .unset, .unset] [(.int p2), (.int p1)]) (fun _ k => XS.iloadN X1.here hx rfl (hb hby d18_20) rfl k) ?_
    by_cases hf3 : p1 < p2
    · refine gb (mkF m 24 #[vr a0, vi p1, vi p2, vr a3, vi p4, vi p1, .unset, .unset] []) (fun _ k => XS.icmpNo X1.here hx rfl (hb hby d18_21) rfl (tlt hf3).2.1 k) ?_
      refine gb (mkF m 25 #[vr a0, vi p1, vi p2, vr a3, vi p4, vi p1, .unset, .unset] [(.ref a0)]) (fun _ k => XS.aloadN X1.here hx rfl (hb hby d18_24) rfl rfl k) ?_
      refine gb (mkF m 27 #[vr a0, vi p1, vi p2, vr a3, vi p4, vi p1, .unset, .unset] [(.int p1), (.ref a0)]) (fun _ k => XS.iload X1.here hx rfl (hb hby d18_25) rfl k) ?_
      obtain ⟨cq4, kq4, q4a, q4b, q4c⟩ := isOf hZ e1 pf0
      obtain ⟨_, _, ⟨T4, L4, k4, n4⟩, -, X4, ⟨Lc4, hQ4, l4, y4, z4⟩, st4⟩ := X1.virtualBack hx (y := mq6) (z := mq6) hown (mvT hZ (hW hw 115 rfl)) (mvT hZ (hW hw 116 rfl)) (notFace_of_selects (args := #[]) (mvT hZ (hW hw 118 rfl))) (mvT hZ (hW hw 118 rfl)) (mvT hZ (hW hw 117 rfl)) (by decide) (backOf (W := 0) (rm24A l Z a0' hw [] a0 p1 b kb zn us w1 w2 w3 G1 sf h0 n0 O W pf0 pf1 pf2 pf3 (cu hR (Int.add_zero _).symm (by decide) hf3).1 (cu hR (Int.add_zero _).symm (by decide) hf3).2) hZ (hW hw 119 rfl) (hW hw 12 rfl) (by decide) (by decide)) q4a q4c (g := (mkF m 27 #[vr a0, vi p1, vi p2, vr a3, vi p4, vi p1, .unset, .unset] [(.int p1), (.ref a0)])) rfl (by rw [hml]; rfl) (Steps.refl _) (argsL := [(.int p1)]) (rest := []) (lenOf pd446 rfl) rfl (Nat.le_of_eq rfl) (hb hby d18_27) (fun _ _ => ⟨rfl, e1, (by decide : 0 + 0 ≤ _), (by decide : 0 + 0 ≤ _)⟩)
      dsimp only [Pt.U, Pt.locs, Pt.cells, Pt.slots] at X4 l4 y4 z4 st4 hQ4
      subst l4 y4 z4
      obtain ⟨rfl, N4q, e4⟩ := hQ4
      have N4 := Fr.app N1 N4q
      refine gb (mkF m 30 #[vr a0, vi p1, vi p2, vr a3, vi p4, vi p1, .unset, .unset] [(.int (fn24A p1 us w1 w2 w3 G1 sf))]) (fun _ k => st4.trans k) ?_
      refine gb (mkF m 32 #[vr a0, vi p1, vi p2, vr a3, vi p4, vi p1, vi (fn24A p1 us w1 w2 w3 G1 sf), .unset] []) (fun _ k => XS.istore X4.here hx rfl (hb hby d18_30) rfl (l' := #[vr a0, vi p1, vi p2, vr a3, vi p4, vi p1, vi (fn24A p1 us w1 w2 w3 G1 sf), .unset]) rfl k) ?_
      refine gb (mkF m 34 #[vr a0, vi p1, vi p2, vr a3, vi p4, vi p1, vi (fn24A p1 us w1 w2 w3 G1 sf), .unset] [(.int (fn24A p1 us w1 w2 w3 G1 sf))]) (fun _ k => XS.iload X4.here hx rfl (hb hby d18_32) rfl k) ?_
      refine gb (mkF m 36 #[vr a0, vi p1, vi p2, vr a3, vi p4, vi p1, vi (fn24A p1 us w1 w2 w3 G1 sf), .unset] [(.int 46), (.int (fn24A p1 us w1 w2 w3 G1 sf))]) (fun _ k => XS.bipush X4.here hx rfl (hb hby d18_34) k) ?_
      have J5 : ∀ (T' : State) (lc : List Loc) (X' : Stand p l e ({ frames := 4, cells := 0, slots := 0, locals := 53 } : Room) s m #[(.ref a0), (.int p1), (.int p2), (.ref a3), (.int p4)] below meth c T' lc 0 0) (eT : T'.heap = h0) (N' : Fr n0 lc) (zj5_0 : Int32) (hz5_0 : zj5_0 = (fj18_0 p1 us w1 w2 w3 G1 sf)), Gl p e below (Pos 0 0 (Q18 Z a0 p1 p2 a3 p4 b kb zn us bc kc zm cs w1 w2 w3 G1 sf h0 n0) s) T' (mkF m 53 #[vr a0, vi p1, vi p2, vr a3, vi p4, vi p1, vi (fn24A p1 us w1 w2 w3 G1 sf), .unset] [(.int zj5_0)]) := by
        intro T' lc X' eT N' zj5_0 hz5_0
        subst hz5_0
        refine gb (mkF m 55 #[vr a0, vi p1, vi p2, vr a3, vi p4, vi p1, vi (fn24A p1 us w1 w2 w3 G1 sf), vi (fj18_0 p1 us w1 w2 w3 G1 sf)] []) (fun _ k => XS.istore X'.here hx rfl (hb hby d18_53) rfl (l' := #[vr a0, vi p1, vi p2, vr a3, vi p4, vi p1, vi (fn24A p1 us w1 w2 w3 G1 sf), vi (fj18_0 p1 us w1 w2 w3 G1 sf)]) rfl k) ?_
        refine gb (mkF m 56 #[vr a0, vi p1, vi p2, vr a3, vi p4, vi p1, vi (fn24A p1 us w1 w2 w3 G1 sf), vi (fj18_0 p1 us w1 w2 w3 G1 sf)] [(.ref a3)]) (fun _ k => XS.aloadN X'.here hx rfl (hb hby d18_55) rfl rfl k) ?_
        refine gb (mkF m 58 #[vr a0, vi p1, vi p2, vr a3, vi p4, vi p1, vi (fn24A p1 us w1 w2 w3 G1 sf), vi (fj18_0 p1 us w1 w2 w3 G1 sf)] [(.int p4), (.ref a3)]) (fun _ k => XS.iload X'.here hx rfl (hb hby d18_56) rfl k) ?_
        refine gb (mkF m 60 #[vr a0, vi p1, vi p2, vr a3, vi p4, vi p1, vi (fn24A p1 us w1 w2 w3 G1 sf), vi (fj18_0 p1 us w1 w2 w3 G1 sf)] [(.int p1), (.int p4), (.ref a3)]) (fun _ k => XS.iload X'.here hx rfl (hb hby d18_58) rfl k) ?_
        refine gb (mkF m 61 #[vr a0, vi p1, vi p2, vr a3, vi p4, vi p1, vi (fn24A p1 us w1 w2 w3 G1 sf), vi (fj18_0 p1 us w1 w2 w3 G1 sf)] [(.int (p4 + p1)), (.ref a3)]) (fun _ k => XS.iadd X'.here hx rfl (hb hby d18_60) rfl k) ?_
        refine gb (mkF m 62 #[vr a0, vi p1, vi p2, vr a3, vi p4, vi p1, vi (fn24A p1 us w1 w2 w3 G1 sf), vi (fj18_0 p1 us w1 w2 w3 G1 sf)] [(.int p1), (.int (p4 + p1)), (.ref a3)]) (fun _ k => XS.iloadN X'.here hx rfl (hb hby d18_61) rfl k) ?_
        refine gb (mkF m 63 #[vr a0, vi p1, vi p2, vr a3, vi p4, vi p1, vi (fn24A p1 us w1 w2 w3 G1 sf), vi (fj18_0 p1 us w1 w2 w3 G1 sf)] [(.int ((p4 + p1) - p1)), (.ref a3)]) (fun _ k => XS.isub X'.here hx rfl (hb hby d18_62) rfl k) ?_
        obtain ⟨cq6, kq6, q6a, q6b, q6c⟩ := isOf hZ eT pf4
        obtain ⟨_, _, ⟨T6, L6, k6, n6⟩, -, X6, ⟨Lc6, hQ6, l6, y6, z6⟩, st6⟩ := X'.virtualBack hx (y := mq6) (z := mq6) hown (mvT hZ (hW hw 115 rfl)) (mvT hZ (hW hw 116 rfl)) (notFace_of_selects (args := #[]) (mvT hZ (hW hw 118 rfl))) (mvT hZ (hW hw 118 rfl)) (mvT hZ (hW hw 117 rfl)) (by decide) (backOf (W := 0) (rm24A l Z a0' hw [] a3 ((p4 + p1) - p1) bc kc zm cs w1 w2 w3 G1 sf h0 n0 O W pf4 pf5 pf6 pf7 (cc hR (Int.add_zero _).symm (by decide) hf3 hf2).1 (cc hR (Int.add_zero _).symm (by decide) hf3 hf2).2) hZ (hW hw 119 rfl) (hW hw 12 rfl) (by decide) (by decide)) q6a q6c (g := (mkF m 63 #[vr a0, vi p1, vi p2, vr a3, vi p4, vi p1, vi (fn24A p1 us w1 w2 w3 G1 sf), vi (fj18_0 p1 us w1 w2 w3 G1 sf)] [(.int ((p4 + p1) - p1)), (.ref a3)])) rfl (by rw [hml]; rfl) (Steps.refl _) (argsL := [(.int ((p4 + p1) - p1))]) (rest := []) (lenOf pd446 rfl) rfl (Nat.le_of_eq rfl) (hb hby d18_63) (fun _ _ => ⟨rfl, eT, (by decide : 0 + 0 ≤ _), (by decide : 0 + 0 ≤ _)⟩)
        dsimp only [Pt.U, Pt.locs, Pt.cells, Pt.slots] at X6 l6 y6 z6 st6 hQ6
        subst l6 y6 z6
        obtain ⟨rfl, N6q, e6⟩ := hQ6
        have N6 := Fr.app N' N6q
        refine gb (mkF m 66 #[vr a0, vi p1, vi p2, vr a3, vi p4, vi p1, vi (fn24A p1 us w1 w2 w3 G1 sf), vi (fj18_0 p1 us w1 w2 w3 G1 sf)] [(.int (fn24A ((p4 + p1) - p1) cs w1 w2 w3 G1 sf))]) (fun _ k => st6.trans k) ?_
        refine gb (mkF m 68 #[vr a0, vi p1, vi p2, vr a3, vi p4, vi p1, vi (fn24A p1 us w1 w2 w3 G1 sf), vi (fj18_0 p1 us w1 w2 w3 G1 sf)] [(.int (fj18_0 p1 us w1 w2 w3 G1 sf)), (.int (fn24A ((p4 + p1) - p1) cs w1 w2 w3 G1 sf))]) (fun _ k => XS.iload X6.here hx rfl (hb hby d18_66) rfl k) ?_
        by_cases hf7 : (fn24A ((p4 + p1) - p1) cs w1 w2 w3 G1 sf) = (fj18_0 p1 us w1 w2 w3 G1 sf)
        · refine gb (mkF m 73 #[vr a0, vi p1, vi p2, vr a3, vi p4, vi p1, vi (fn24A p1 us w1 w2 w3 G1 sf), vi (fj18_0 p1 us w1 w2 w3 G1 sf)] []) (fun _ k => XS.icmpYes X6.here hx rfl (pc0 := 68) (pc' := 73) rfl (hb hby d18_68) rfl (teq hf7).1 (by decide) (by decide) k) ?_
          refine gb (mkF m 76 #[vr a0, vi p1, vi p2, vr a3, vi p4, vi (p1 + (1 : Int32)), vi (fn24A p1 us w1 w2 w3 G1 sf), vi (fj18_0 p1 us w1 w2 w3 G1 sf)] []) (fun _ k => XS.iinc X6.here hx rfl (hb hby d18_73) rfl (l' := #[vr a0, vi p1, vi p2, vr a3, vi p4, vi (p1 + (1 : Int32)), vi (fn24A p1 us w1 w2 w3 G1 sf), vi (fj18_0 p1 us w1 w2 w3 G1 sf)]) rfl k) ?_
          refine gb (mkF m 18 #[vr a0, vi p1, vi p2, vr a3, vi p4, vi (p1 + (1 : Int32)), vi (fn24A p1 us w1 w2 w3 G1 sf), vi (fj18_0 p1 us w1 w2 w3 G1 sf)] []) (fun _ k => XS.goto X6.here hx rfl (pc0 := 76) (pc' := 18) rfl (hb hby d18_76) (by decide) (by decide) k) ?_
          refine gb (mkF m 20 #[vr a0, vi p1, vi p2, vr a3, vi p4, vi (p1 + (1 : Int32)), vi (fn24A p1 us w1 w2 w3 G1 sf), vi (fj18_0 p1 us w1 w2 w3 G1 sf)] [(.int (p1 + (1 : Int32)))]) (fun _ k => XS.iload X6.here hx rfl (hb hby d18_18) rfl k) ?_
          refine gb (mkF m 21 #[vr a0, vi p1, vi p2, vr a3, vi p4, vi (p1 + (1 : Int32)), vi (fn24A p1 us w1 w2 w3 G1 sf), vi (fj18_0 p1 us w1 w2 w3 G1 sf)] [(.int p2), (.int (p1 + (1 : Int32)))]) (fun _ k => XS.iloadN X6.here hx rfl (hb hby d18_20) rfl k) ?_
          by_cases hf8 : (p1 + (1 : Int32)) < p2
          · refine gb (mkF m 24 #[vr a0, vi p1, vi p2, vr a3, vi p4, vi (p1 + (1 : Int32)), vi (fn24A p1 us w1 w2 w3 G1 sf), vi (fj18_0 p1 us w1 w2 w3 G1 sf)] []) (fun _ k => XS.icmpNo X6.here hx rfl (hb hby d18_21) rfl (tlt hf8).2.1 k) ?_
            refine gb (mkF m 25 #[vr a0, vi p1, vi p2, vr a3, vi p4, vi (p1 + (1 : Int32)), vi (fn24A p1 us w1 w2 w3 G1 sf), vi (fj18_0 p1 us w1 w2 w3 G1 sf)] [(.ref a0)]) (fun _ k => XS.aloadN X6.here hx rfl (hb hby d18_24) rfl rfl k) ?_
            refine gb (mkF m 27 #[vr a0, vi p1, vi p2, vr a3, vi p4, vi (p1 + (1 : Int32)), vi (fn24A p1 us w1 w2 w3 G1 sf), vi (fj18_0 p1 us w1 w2 w3 G1 sf)] [(.int (p1 + (1 : Int32))), (.ref a0)]) (fun _ k => XS.iload X6.here hx rfl (hb hby d18_25) rfl k) ?_
            obtain ⟨cq9, kq9, q9a, q9b, q9c⟩ := isOf hZ e6 pf0
            obtain ⟨_, _, ⟨T9, L9, k9, n9⟩, -, X9, ⟨Lc9, hQ9, l9, y9, z9⟩, st9⟩ := X6.virtualBack hx (y := mq6) (z := mq6) hown (mvT hZ (hW hw 115 rfl)) (mvT hZ (hW hw 116 rfl)) (notFace_of_selects (args := #[]) (mvT hZ (hW hw 118 rfl))) (mvT hZ (hW hw 118 rfl)) (mvT hZ (hW hw 117 rfl)) (by decide) (backOf (W := 0) (rm24A l Z a0' hw [] a0 (p1 + (1 : Int32)) b kb zn us w1 w2 w3 G1 sf h0 n0 O W pf0 pf1 pf2 pf3 (cu hR (inc hR (Int.add_zero _).symm (by decide) (by decide)) (by decide) hf8).1 (cu hR (inc hR (Int.add_zero _).symm (by decide) (by decide)) (by decide) hf8).2) hZ (hW hw 119 rfl) (hW hw 12 rfl) (by decide) (by decide)) q9a q9c (g := (mkF m 27 #[vr a0, vi p1, vi p2, vr a3, vi p4, vi (p1 + (1 : Int32)), vi (fn24A p1 us w1 w2 w3 G1 sf), vi (fj18_0 p1 us w1 w2 w3 G1 sf)] [(.int (p1 + (1 : Int32))), (.ref a0)])) rfl (by rw [hml]; rfl) (Steps.refl _) (argsL := [(.int (p1 + (1 : Int32)))]) (rest := []) (lenOf pd446 rfl) rfl (Nat.le_of_eq rfl) (hb hby d18_27) (fun _ _ => ⟨rfl, e6, (by decide : 0 + 0 ≤ _), (by decide : 0 + 0 ≤ _)⟩)
            dsimp only [Pt.U, Pt.locs, Pt.cells, Pt.slots] at X9 l9 y9 z9 st9 hQ9
            subst l9 y9 z9
            obtain ⟨rfl, N9q, e9⟩ := hQ9
            have N9 := Fr.app N6 N9q
            refine gb (mkF m 30 #[vr a0, vi p1, vi p2, vr a3, vi p4, vi (p1 + (1 : Int32)), vi (fn24A p1 us w1 w2 w3 G1 sf), vi (fj18_0 p1 us w1 w2 w3 G1 sf)] [(.int (fn24A (p1 + (1 : Int32)) us w1 w2 w3 G1 sf))]) (fun _ k => st9.trans k) ?_
            refine gb (mkF m 32 #[vr a0, vi p1, vi p2, vr a3, vi p4, vi (p1 + (1 : Int32)), vi (fn24A (p1 + (1 : Int32)) us w1 w2 w3 G1 sf), vi (fj18_0 p1 us w1 w2 w3 G1 sf)] []) (fun _ k => XS.istore X9.here hx rfl (hb hby d18_30) rfl (l' := #[vr a0, vi p1, vi p2, vr a3, vi p4, vi (p1 + (1 : Int32)), vi (fn24A (p1 + (1 : Int32)) us w1 w2 w3 G1 sf), vi (fj18_0 p1 us w1 w2 w3 G1 sf)]) rfl k) ?_
            refine gb (mkF m 34 #[vr a0, vi p1, vi p2, vr a3, vi p4, vi (p1 + (1 : Int32)), vi (fn24A (p1 + (1 : Int32)) us w1 w2 w3 G1 sf), vi (fj18_0 p1 us w1 w2 w3 G1 sf)] [(.int (fn24A (p1 + (1 : Int32)) us w1 w2 w3 G1 sf))]) (fun _ k => XS.iload X9.here hx rfl (hb hby d18_32) rfl k) ?_
            refine gb (mkF m 36 #[vr a0, vi p1, vi p2, vr a3, vi p4, vi (p1 + (1 : Int32)), vi (fn24A (p1 + (1 : Int32)) us w1 w2 w3 G1 sf), vi (fj18_0 p1 us w1 w2 w3 G1 sf)] [(.int 46), (.int (fn24A (p1 + (1 : Int32)) us w1 w2 w3 G1 sf))]) (fun _ k => XS.bipush X9.here hx rfl (hb hby d18_34) k) ?_
            have J10 : ∀ (T' : State) (lc : List Loc) (X' : Stand p l e ({ frames := 4, cells := 0, slots := 0, locals := 53 } : Room) s m #[(.ref a0), (.int p1), (.int p2), (.ref a3), (.int p4)] below meth c T' lc 0 0) (eT : T'.heap = h0) (N' : Fr n0 lc) (zj10_0 : Int32) (hz10_0 : zj10_0 = (fj18_1 p1 us w1 w2 w3 G1 sf)), Gl p e below (Pos 0 0 (Q18 Z a0 p1 p2 a3 p4 b kb zn us bc kc zm cs w1 w2 w3 G1 sf h0 n0) s) T' (mkF m 53 #[vr a0, vi p1, vi p2, vr a3, vi p4, vi (p1 + (1 : Int32)), vi (fn24A (p1 + (1 : Int32)) us w1 w2 w3 G1 sf), vi (fj18_0 p1 us w1 w2 w3 G1 sf)] [(.int zj10_0)]) := by
              intro T' lc X' eT N' zj10_0 hz10_0
              subst hz10_0
              refine gb (mkF m 55 #[vr a0, vi p1, vi p2, vr a3, vi p4, vi (p1 + (1 : Int32)), vi (fn24A (p1 + (1 : Int32)) us w1 w2 w3 G1 sf), vi (fj18_1 p1 us w1 w2 w3 G1 sf)] []) (fun _ k => XS.istore X'.here hx rfl (hb hby d18_53) rfl (l' := #[vr a0, vi p1, vi p2, vr a3, vi p4, vi (p1 + (1 : Int32)), vi (fn24A (p1 + (1 : Int32)) us w1 w2 w3 G1 sf), vi (fj18_1 p1 us w1 w2 w3 G1 sf)]) rfl k) ?_
              refine gb (mkF m 56 #[vr a0, vi p1, vi p2, vr a3, vi p4, vi (p1 + (1 : Int32)), vi (fn24A (p1 + (1 : Int32)) us w1 w2 w3 G1 sf), vi (fj18_1 p1 us w1 w2 w3 G1 sf)] [(.ref a3)]) (fun _ k => XS.aloadN X'.here hx rfl (hb hby d18_55) rfl rfl k) ?_
              refine gb (mkF m 58 #[vr a0, vi p1, vi p2, vr a3, vi p4, vi (p1 + (1 : Int32)), vi (fn24A (p1 + (1 : Int32)) us w1 w2 w3 G1 sf), vi (fj18_1 p1 us w1 w2 w3 G1 sf)] [(.int p4), (.ref a3)]) (fun _ k => XS.iload X'.here hx rfl (hb hby d18_56) rfl k) ?_
              refine gb (mkF m 60 #[vr a0, vi p1, vi p2, vr a3, vi p4, vi (p1 + (1 : Int32)), vi (fn24A (p1 + (1 : Int32)) us w1 w2 w3 G1 sf), vi (fj18_1 p1 us w1 w2 w3 G1 sf)] [(.int (p1 + (1 : Int32))), (.int p4), (.ref a3)]) (fun _ k => XS.iload X'.here hx rfl (hb hby d18_58) rfl k) ?_
              refine gb (mkF m 61 #[vr a0, vi p1, vi p2, vr a3, vi p4, vi (p1 + (1 : Int32)), vi (fn24A (p1 + (1 : Int32)) us w1 w2 w3 G1 sf), vi (fj18_1 p1 us w1 w2 w3 G1 sf)] [(.int (p4 + (p1 + (1 : Int32)))), (.ref a3)]) (fun _ k => XS.iadd X'.here hx rfl (hb hby d18_60) rfl k) ?_
              refine gb (mkF m 62 #[vr a0, vi p1, vi p2, vr a3, vi p4, vi (p1 + (1 : Int32)), vi (fn24A (p1 + (1 : Int32)) us w1 w2 w3 G1 sf), vi (fj18_1 p1 us w1 w2 w3 G1 sf)] [(.int p1), (.int (p4 + (p1 + (1 : Int32)))), (.ref a3)]) (fun _ k => XS.iloadN X'.here hx rfl (hb hby d18_61) rfl k) ?_
              refine gb (mkF m 63 #[vr a0, vi p1, vi p2, vr a3, vi p4, vi (p1 + (1 : Int32)), vi (fn24A (p1 + (1 : Int32)) us w1 w2 w3 G1 sf), vi (fj18_1 p1 us w1 w2 w3 G1 sf)] [(.int ((p4 + (p1 + (1 : Int32))) - p1)), (.ref a3)]) (fun _ k => XS.isub X'.here hx rfl (hb hby d18_62) rfl k) ?_
              obtain ⟨cq11, kq11, q11a, q11b, q11c⟩ := isOf hZ eT pf4
              obtain ⟨_, _, ⟨T11, L11, k11, n11⟩, -, X11, ⟨Lc11, hQ11, l11, y11, z11⟩, st11⟩ := X'.virtualBack hx (y := mq6) (z := mq6) hown (mvT hZ (hW hw 115 rfl)) (mvT hZ (hW hw 116 rfl)) (notFace_of_selects (args := #[]) (mvT hZ (hW hw 118 rfl))) (mvT hZ (hW hw 118 rfl)) (mvT hZ (hW hw 117 rfl)) (by decide) (backOf (W := 0) (rm24A l Z a0' hw [] a3 ((p4 + (p1 + (1 : Int32))) - p1) bc kc zm cs w1 w2 w3 G1 sf h0 n0 O W pf4 pf5 pf6 pf7 (cc hR (inc hR (Int.add_zero _).symm (by decide) (by decide)) (by decide) hf8 hf2).1 (cc hR (inc hR (Int.add_zero _).symm (by decide) (by decide)) (by decide) hf8 hf2).2) hZ (hW hw 119 rfl) (hW hw 12 rfl) (by decide) (by decide)) q11a q11c (g := (mkF m 63 #[vr a0, vi p1, vi p2, vr a3, vi p4, vi (p1 + (1 : Int32)), vi (fn24A (p1 + (1 : Int32)) us w1 w2 w3 G1 sf), vi (fj18_1 p1 us w1 w2 w3 G1 sf)] [(.int ((p4 + (p1 + (1 : Int32))) - p1)), (.ref a3)])) rfl (by rw [hml]; rfl) (Steps.refl _) (argsL := [(.int ((p4 + (p1 + (1 : Int32))) - p1))]) (rest := []) (lenOf pd446 rfl) rfl (Nat.le_of_eq rfl) (hb hby d18_63) (fun _ _ => ⟨rfl, eT, (by decide : 0 + 0 ≤ _), (by decide : 0 + 0 ≤ _)⟩)
              dsimp only [Pt.U, Pt.locs, Pt.cells, Pt.slots] at X11 l11 y11 z11 st11 hQ11
              subst l11 y11 z11
              obtain ⟨rfl, N11q, e11⟩ := hQ11
              have N11 := Fr.app N' N11q
              refine gb (mkF m 66 #[vr a0, vi p1, vi p2, vr a3, vi p4, vi (p1 + (1 : Int32)), vi (fn24A (p1 + (1 : Int32)) us w1 w2 w3 G1 sf), vi (fj18_1 p1 us w1 w2 w3 G1 sf)] [(.int (fn24A ((p4 + (p1 + (1 : Int32))) - p1) cs w1 w2 w3 G1 sf))]) (fun _ k => st11.trans k) ?_
              refine gb (mkF m 68 #[vr a0, vi p1, vi p2, vr a3, vi p4, vi (p1 + (1 : Int32)), vi (fn24A (p1 + (1 : Int32)) us w1 w2 w3 G1 sf), vi (fj18_1 p1 us w1 w2 w3 G1 sf)] [(.int (fj18_1 p1 us w1 w2 w3 G1 sf)), (.int (fn24A ((p4 + (p1 + (1 : Int32))) - p1) cs w1 w2 w3 G1 sf))]) (fun _ k => XS.iload X11.here hx rfl (hb hby d18_66) rfl k) ?_
              by_cases hf12 : (fn24A ((p4 + (p1 + (1 : Int32))) - p1) cs w1 w2 w3 G1 sf) = (fj18_1 p1 us w1 w2 w3 G1 sf)
              · refine gb (mkF m 73 #[vr a0, vi p1, vi p2, vr a3, vi p4, vi (p1 + (1 : Int32)), vi (fn24A (p1 + (1 : Int32)) us w1 w2 w3 G1 sf), vi (fj18_1 p1 us w1 w2 w3 G1 sf)] []) (fun _ k => XS.icmpYes X11.here hx rfl (pc0 := 68) (pc' := 73) rfl (hb hby d18_68) rfl (teq hf12).1 (by decide) (by decide) k) ?_
                refine gb (mkF m 76 #[vr a0, vi p1, vi p2, vr a3, vi p4, vi ((p1 + (1 : Int32)) + (1 : Int32)), vi (fn24A (p1 + (1 : Int32)) us w1 w2 w3 G1 sf), vi (fj18_1 p1 us w1 w2 w3 G1 sf)] []) (fun _ k => XS.iinc X11.here hx rfl (hb hby d18_73) rfl (l' := #[vr a0, vi p1, vi p2, vr a3, vi p4, vi ((p1 + (1 : Int32)) + (1 : Int32)), vi (fn24A (p1 + (1 : Int32)) us w1 w2 w3 G1 sf), vi (fj18_1 p1 us w1 w2 w3 G1 sf)]) rfl k) ?_
                refine gb (mkF m 18 #[vr a0, vi p1, vi p2, vr a3, vi p4, vi ((p1 + (1 : Int32)) + (1 : Int32)), vi (fn24A (p1 + (1 : Int32)) us w1 w2 w3 G1 sf), vi (fj18_1 p1 us w1 w2 w3 G1 sf)] []) (fun _ k => XS.goto X11.here hx rfl (pc0 := 76) (pc' := 18) rfl (hb hby d18_76) (by decide) (by decide) k) ?_
                refine gb (mkF m 20 #[vr a0, vi p1, vi p2, vr a3, vi p4, vi ((p1 + (1 : Int32)) + (1 : Int32)), vi (fn24A (p1 + (1 : Int32)) us w1 w2 w3 G1 sf), vi (fj18_1 p1 us w1 w2 w3 G1 sf)] [(.int ((p1 + (1 : Int32)) + (1 : Int32)))]) (fun _ k => XS.iload X11.here hx rfl (hb hby d18_18) rfl k) ?_
                refine gb (mkF m 21 #[vr a0, vi p1, vi p2, vr a3, vi p4, vi ((p1 + (1 : Int32)) + (1 : Int32)), vi (fn24A (p1 + (1 : Int32)) us w1 w2 w3 G1 sf), vi (fj18_1 p1 us w1 w2 w3 G1 sf)] [(.int p2), (.int ((p1 + (1 : Int32)) + (1 : Int32)))]) (fun _ k => XS.iloadN X11.here hx rfl (hb hby d18_20) rfl k) ?_
                by_cases hf13 : ((p1 + (1 : Int32)) + (1 : Int32)) < p2
                · refine gb (mkF m 24 #[vr a0, vi p1, vi p2, vr a3, vi p4, vi ((p1 + (1 : Int32)) + (1 : Int32)), vi (fn24A (p1 + (1 : Int32)) us w1 w2 w3 G1 sf), vi (fj18_1 p1 us w1 w2 w3 G1 sf)] []) (fun _ k => XS.icmpNo X11.here hx rfl (hb hby d18_21) rfl (tlt hf13).2.1 k) ?_
                  refine gb (mkF m 25 #[vr a0, vi p1, vi p2, vr a3, vi p4, vi ((p1 + (1 : Int32)) + (1 : Int32)), vi (fn24A (p1 + (1 : Int32)) us w1 w2 w3 G1 sf), vi (fj18_1 p1 us w1 w2 w3 G1 sf)] [(.ref a0)]) (fun _ k => XS.aloadN X11.here hx rfl (hb hby d18_24) rfl rfl k) ?_
                  refine gb (mkF m 27 #[vr a0, vi p1, vi p2, vr a3, vi p4, vi ((p1 + (1 : Int32)) + (1 : Int32)), vi (fn24A (p1 + (1 : Int32)) us w1 w2 w3 G1 sf), vi (fj18_1 p1 us w1 w2 w3 G1 sf)] [(.int ((p1 + (1 : Int32)) + (1 : Int32))), (.ref a0)]) (fun _ k => XS.iload X11.here hx rfl (hb hby d18_25) rfl k) ?_
                  obtain ⟨cq14, kq14, q14a, q14b, q14c⟩ := isOf hZ e11 pf0
                  obtain ⟨_, _, ⟨T14, L14, k14, n14⟩, -, X14, ⟨Lc14, hQ14, l14, y14, z14⟩, st14⟩ := X11.virtualBack hx (y := mq6) (z := mq6) hown (mvT hZ (hW hw 115 rfl)) (mvT hZ (hW hw 116 rfl)) (notFace_of_selects (args := #[]) (mvT hZ (hW hw 118 rfl))) (mvT hZ (hW hw 118 rfl)) (mvT hZ (hW hw 117 rfl)) (by decide) (backOf (W := 0) (rm24A l Z a0' hw [] a0 ((p1 + (1 : Int32)) + (1 : Int32)) b kb zn us w1 w2 w3 G1 sf h0 n0 O W pf0 pf1 pf2 pf3 (cu hR (inc hR (inc hR (Int.add_zero _).symm (by decide) (by decide)) (by decide) (by decide)) (by decide) hf13).1 (cu hR (inc hR (inc hR (Int.add_zero _).symm (by decide) (by decide)) (by decide) (by decide)) (by decide) hf13).2) hZ (hW hw 119 rfl) (hW hw 12 rfl) (by decide) (by decide)) q14a q14c (g := (mkF m 27 #[vr a0, vi p1, vi p2, vr a3, vi p4, vi ((p1 + (1 : Int32)) + (1 : Int32)), vi (fn24A (p1 + (1 : Int32)) us w1 w2 w3 G1 sf), vi (fj18_1 p1 us w1 w2 w3 G1 sf)] [(.int ((p1 + (1 : Int32)) + (1 : Int32))), (.ref a0)])) rfl (by rw [hml]; rfl) (Steps.refl _) (argsL := [(.int ((p1 + (1 : Int32)) + (1 : Int32)))]) (rest := []) (lenOf pd446 rfl) rfl (Nat.le_of_eq rfl) (hb hby d18_27) (fun _ _ => ⟨rfl, e11, (by decide : 0 + 0 ≤ _), (by decide : 0 + 0 ≤ _)⟩)
                  dsimp only [Pt.U, Pt.locs, Pt.cells, Pt.slots] at X14 l14 y14 z14 st14 hQ14
                  subst l14 y14 z14
                  obtain ⟨rfl, N14q, e14⟩ := hQ14
                  have N14 := Fr.app N11 N14q
                  refine gb (mkF m 30 #[vr a0, vi p1, vi p2, vr a3, vi p4, vi ((p1 + (1 : Int32)) + (1 : Int32)), vi (fn24A (p1 + (1 : Int32)) us w1 w2 w3 G1 sf), vi (fj18_1 p1 us w1 w2 w3 G1 sf)] [(.int (fn24A ((p1 + (1 : Int32)) + (1 : Int32)) us w1 w2 w3 G1 sf))]) (fun _ k => st14.trans k) ?_
                  refine gb (mkF m 32 #[vr a0, vi p1, vi p2, vr a3, vi p4, vi ((p1 + (1 : Int32)) + (1 : Int32)), vi (fn24A ((p1 + (1 : Int32)) + (1 : Int32)) us w1 w2 w3 G1 sf), vi (fj18_1 p1 us w1 w2 w3 G1 sf)] []) (fun _ k => XS.istore X14.here hx rfl (hb hby d18_30) rfl (l' := #[vr a0, vi p1, vi p2, vr a3, vi p4, vi ((p1 + (1 : Int32)) + (1 : Int32)), vi (fn24A ((p1 + (1 : Int32)) + (1 : Int32)) us w1 w2 w3 G1 sf), vi (fj18_1 p1 us w1 w2 w3 G1 sf)]) rfl k) ?_
                  refine gb (mkF m 34 #[vr a0, vi p1, vi p2, vr a3, vi p4, vi ((p1 + (1 : Int32)) + (1 : Int32)), vi (fn24A ((p1 + (1 : Int32)) + (1 : Int32)) us w1 w2 w3 G1 sf), vi (fj18_1 p1 us w1 w2 w3 G1 sf)] [(.int (fn24A ((p1 + (1 : Int32)) + (1 : Int32)) us w1 w2 w3 G1 sf))]) (fun _ k => XS.iload X14.here hx rfl (hb hby d18_32) rfl k) ?_
                  refine gb (mkF m 36 #[vr a0, vi p1, vi p2, vr a3, vi p4, vi ((p1 + (1 : Int32)) + (1 : Int32)), vi (fn24A ((p1 + (1 : Int32)) + (1 : Int32)) us w1 w2 w3 G1 sf), vi (fj18_1 p1 us w1 w2 w3 G1 sf)] [(.int 46), (.int (fn24A ((p1 + (1 : Int32)) + (1 : Int32)) us w1 w2 w3 G1 sf))]) (fun _ k => XS.bipush X14.here hx rfl (hb hby d18_34) k) ?_
                  have J15 : ∀ (T' : State) (lc : List Loc) (X' : Stand p l e ({ frames := 4, cells := 0, slots := 0, locals := 53 } : Room) s m #[(.ref a0), (.int p1), (.int p2), (.ref a3), (.int p4)] below meth c T' lc 0 0) (eT : T'.heap = h0) (N' : Fr n0 lc) (zj15_0 : Int32) (hz15_0 : zj15_0 = (fj18_2 p1 us w1 w2 w3 G1 sf)), Gl p e below (Pos 0 0 (Q18 Z a0 p1 p2 a3 p4 b kb zn us bc kc zm cs w1 w2 w3 G1 sf h0 n0) s) T' (mkF m 53 #[vr a0, vi p1, vi p2, vr a3, vi p4, vi ((p1 + (1 : Int32)) + (1 : Int32)), vi (fn24A ((p1 + (1 : Int32)) + (1 : Int32)) us w1 w2 w3 G1 sf), vi (fj18_1 p1 us w1 w2 w3 G1 sf)] [(.int zj15_0)]) := by
                    intro T' lc X' eT N' zj15_0 hz15_0
                    subst hz15_0
                    refine gb (mkF m 55 #[vr a0, vi p1, vi p2, vr a3, vi p4, vi ((p1 + (1 : Int32)) + (1 : Int32)), vi (fn24A ((p1 + (1 : Int32)) + (1 : Int32)) us w1 w2 w3 G1 sf), vi (fj18_2 p1 us w1 w2 w3 G1 sf)] []) (fun _ k => XS.istore X'.here hx rfl (hb hby d18_53) rfl (l' := #[vr a0, vi p1, vi p2, vr a3, vi p4, vi ((p1 + (1 : Int32)) + (1 : Int32)), vi (fn24A ((p1 + (1 : Int32)) + (1 : Int32)) us w1 w2 w3 G1 sf), vi (fj18_2 p1 us w1 w2 w3 G1 sf)]) rfl k) ?_
                    refine gb (mkF m 56 #[vr a0, vi p1, vi p2, vr a3, vi p4, vi ((p1 + (1 : Int32)) + (1 : Int32)), vi (fn24A ((p1 + (1 : Int32)) + (1 : Int32)) us w1 w2 w3 G1 sf), vi (fj18_2 p1 us w1 w2 w3 G1 sf)] [(.ref a3)]) (fun _ k => XS.aloadN X'.here hx rfl (hb hby d18_55) rfl rfl k) ?_
                    refine gb (mkF m 58 #[vr a0, vi p1, vi p2, vr a3, vi p4, vi ((p1 + (1 : Int32)) + (1 : Int32)), vi (fn24A ((p1 + (1 : Int32)) + (1 : Int32)) us w1 w2 w3 G1 sf), vi (fj18_2 p1 us w1 w2 w3 G1 sf)] [(.int p4), (.ref a3)]) (fun _ k => XS.iload X'.here hx rfl (hb hby d18_56) rfl k) ?_
                    refine gb (mkF m 60 #[vr a0, vi p1, vi p2, vr a3, vi p4, vi ((p1 + (1 : Int32)) + (1 : Int32)), vi (fn24A ((p1 + (1 : Int32)) + (1 : Int32)) us w1 w2 w3 G1 sf), vi (fj18_2 p1 us w1 w2 w3 G1 sf)] [(.int ((p1 + (1 : Int32)) + (1 : Int32))), (.int p4), (.ref a3)]) (fun _ k => XS.iload X'.here hx rfl (hb hby d18_58) rfl k) ?_
                    refine gb (mkF m 61 #[vr a0, vi p1, vi p2, vr a3, vi p4, vi ((p1 + (1 : Int32)) + (1 : Int32)), vi (fn24A ((p1 + (1 : Int32)) + (1 : Int32)) us w1 w2 w3 G1 sf), vi (fj18_2 p1 us w1 w2 w3 G1 sf)] [(.int (p4 + ((p1 + (1 : Int32)) + (1 : Int32)))), (.ref a3)]) (fun _ k => XS.iadd X'.here hx rfl (hb hby d18_60) rfl k) ?_
                    refine gb (mkF m 62 #[vr a0, vi p1, vi p2, vr a3, vi p4, vi ((p1 + (1 : Int32)) + (1 : Int32)), vi (fn24A ((p1 + (1 : Int32)) + (1 : Int32)) us w1 w2 w3 G1 sf), vi (fj18_2 p1 us w1 w2 w3 G1 sf)] [(.int p1), (.int (p4 + ((p1 + (1 : Int32)) + (1 : Int32)))), (.ref a3)]) (fun _ k => XS.iloadN X'.here hx rfl (hb hby d18_61) rfl k) ?_
                    refine gb (mkF m 63 #[vr a0, vi p1, vi p2, vr a3, vi p4, vi ((p1 + (1 : Int32)) + (1 : Int32)), vi (fn24A ((p1 + (1 : Int32)) + (1 : Int32)) us w1 w2 w3 G1 sf), vi (fj18_2 p1 us w1 w2 w3 G1 sf)] [(.int ((p4 + ((p1 + (1 : Int32)) + (1 : Int32))) - p1)), (.ref a3)]) (fun _ k => XS.isub X'.here hx rfl (hb hby d18_62) rfl k) ?_
                    obtain ⟨cq16, kq16, q16a, q16b, q16c⟩ := isOf hZ eT pf4
                    obtain ⟨_, _, ⟨T16, L16, k16, n16⟩, -, X16, ⟨Lc16, hQ16, l16, y16, z16⟩, st16⟩ := X'.virtualBack hx (y := mq6) (z := mq6) hown (mvT hZ (hW hw 115 rfl)) (mvT hZ (hW hw 116 rfl)) (notFace_of_selects (args := #[]) (mvT hZ (hW hw 118 rfl))) (mvT hZ (hW hw 118 rfl)) (mvT hZ (hW hw 117 rfl)) (by decide) (backOf (W := 0) (rm24A l Z a0' hw [] a3 ((p4 + ((p1 + (1 : Int32)) + (1 : Int32))) - p1) bc kc zm cs w1 w2 w3 G1 sf h0 n0 O W pf4 pf5 pf6 pf7 (cc hR (inc hR (inc hR (Int.add_zero _).symm (by decide) (by decide)) (by decide) (by decide)) (by decide) hf13 hf2).1 (cc hR (inc hR (inc hR (Int.add_zero _).symm (by decide) (by decide)) (by decide) (by decide)) (by decide) hf13 hf2).2) hZ (hW hw 119 rfl) (hW hw 12 rfl) (by decide) (by decide)) q16a q16c (g := (mkF m 63 #[vr a0, vi p1, vi p2, vr a3, vi p4, vi ((p1 + (1 : Int32)) + (1 : Int32)), vi (fn24A ((p1 + (1 : Int32)) + (1 : Int32)) us w1 w2 w3 G1 sf), vi (fj18_2 p1 us w1 w2 w3 G1 sf)] [(.int ((p4 + ((p1 + (1 : Int32)) + (1 : Int32))) - p1)), (.ref a3)])) rfl (by rw [hml]; rfl) (Steps.refl _) (argsL := [(.int ((p4 + ((p1 + (1 : Int32)) + (1 : Int32))) - p1))]) (rest := []) (lenOf pd446 rfl) rfl (Nat.le_of_eq rfl) (hb hby d18_63) (fun _ _ => ⟨rfl, eT, (by decide : 0 + 0 ≤ _), (by decide : 0 + 0 ≤ _)⟩)
                    dsimp only [Pt.U, Pt.locs, Pt.cells, Pt.slots] at X16 l16 y16 z16 st16 hQ16
                    subst l16 y16 z16
                    obtain ⟨rfl, N16q, e16⟩ := hQ16
                    have N16 := Fr.app N' N16q
                    refine gb (mkF m 66 #[vr a0, vi p1, vi p2, vr a3, vi p4, vi ((p1 + (1 : Int32)) + (1 : Int32)), vi (fn24A ((p1 + (1 : Int32)) + (1 : Int32)) us w1 w2 w3 G1 sf), vi (fj18_2 p1 us w1 w2 w3 G1 sf)] [(.int (fn24A ((p4 + ((p1 + (1 : Int32)) + (1 : Int32))) - p1) cs w1 w2 w3 G1 sf))]) (fun _ k => st16.trans k) ?_
                    refine gb (mkF m 68 #[vr a0, vi p1, vi p2, vr a3, vi p4, vi ((p1 + (1 : Int32)) + (1 : Int32)), vi (fn24A ((p1 + (1 : Int32)) + (1 : Int32)) us w1 w2 w3 G1 sf), vi (fj18_2 p1 us w1 w2 w3 G1 sf)] [(.int (fj18_2 p1 us w1 w2 w3 G1 sf)), (.int (fn24A ((p4 + ((p1 + (1 : Int32)) + (1 : Int32))) - p1) cs w1 w2 w3 G1 sf))]) (fun _ k => XS.iload X16.here hx rfl (hb hby d18_66) rfl k) ?_
                    by_cases hf17 : (fn24A ((p4 + ((p1 + (1 : Int32)) + (1 : Int32))) - p1) cs w1 w2 w3 G1 sf) = (fj18_2 p1 us w1 w2 w3 G1 sf)
                    · refine gb (mkF m 73 #[vr a0, vi p1, vi p2, vr a3, vi p4, vi ((p1 + (1 : Int32)) + (1 : Int32)), vi (fn24A ((p1 + (1 : Int32)) + (1 : Int32)) us w1 w2 w3 G1 sf), vi (fj18_2 p1 us w1 w2 w3 G1 sf)] []) (fun _ k => XS.icmpYes X16.here hx rfl (pc0 := 68) (pc' := 73) rfl (hb hby d18_68) rfl (teq hf17).1 (by decide) (by decide) k) ?_
                      refine gb (mkF m 76 #[vr a0, vi p1, vi p2, vr a3, vi p4, vi (((p1 + (1 : Int32)) + (1 : Int32)) + (1 : Int32)), vi (fn24A ((p1 + (1 : Int32)) + (1 : Int32)) us w1 w2 w3 G1 sf), vi (fj18_2 p1 us w1 w2 w3 G1 sf)] []) (fun _ k => XS.iinc X16.here hx rfl (hb hby d18_73) rfl (l' := #[vr a0, vi p1, vi p2, vr a3, vi p4, vi (((p1 + (1 : Int32)) + (1 : Int32)) + (1 : Int32)), vi (fn24A ((p1 + (1 : Int32)) + (1 : Int32)) us w1 w2 w3 G1 sf), vi (fj18_2 p1 us w1 w2 w3 G1 sf)]) rfl k) ?_
                      refine gb (mkF m 18 #[vr a0, vi p1, vi p2, vr a3, vi p4, vi (((p1 + (1 : Int32)) + (1 : Int32)) + (1 : Int32)), vi (fn24A ((p1 + (1 : Int32)) + (1 : Int32)) us w1 w2 w3 G1 sf), vi (fj18_2 p1 us w1 w2 w3 G1 sf)] []) (fun _ k => XS.goto X16.here hx rfl (pc0 := 76) (pc' := 18) rfl (hb hby d18_76) (by decide) (by decide) k) ?_
                      refine gb (mkF m 20 #[vr a0, vi p1, vi p2, vr a3, vi p4, vi (((p1 + (1 : Int32)) + (1 : Int32)) + (1 : Int32)), vi (fn24A ((p1 + (1 : Int32)) + (1 : Int32)) us w1 w2 w3 G1 sf), vi (fj18_2 p1 us w1 w2 w3 G1 sf)] [(.int (((p1 + (1 : Int32)) + (1 : Int32)) + (1 : Int32)))]) (fun _ k => XS.iload X16.here hx rfl (hb hby d18_18) rfl k) ?_
                      refine gb (mkF m 21 #[vr a0, vi p1, vi p2, vr a3, vi p4, vi (((p1 + (1 : Int32)) + (1 : Int32)) + (1 : Int32)), vi (fn24A ((p1 + (1 : Int32)) + (1 : Int32)) us w1 w2 w3 G1 sf), vi (fj18_2 p1 us w1 w2 w3 G1 sf)] [(.int p2), (.int (((p1 + (1 : Int32)) + (1 : Int32)) + (1 : Int32)))]) (fun _ k => XS.iloadN X16.here hx rfl (hb hby d18_20) rfl k) ?_
                      refine gb (mkF m 79 #[vr a0, vi p1, vi p2, vr a3, vi p4, vi (((p1 + (1 : Int32)) + (1 : Int32)) + (1 : Int32)), vi (fn24A ((p1 + (1 : Int32)) + (1 : Int32)) us w1 w2 w3 G1 sf), vi (fj18_2 p1 us w1 w2 w3 G1 sf)] []) (fun _ k => XS.icmpYes X16.here hx rfl (pc0 := 21) (pc' := 79) rfl (hb hby d18_21) rfl (flt (ce hR (inc hR (inc hR (inc hR (Int.add_zero _).symm (by decide) (by decide)) (by decide) (by decide)) (by decide) (by decide)))).2.1 (by decide) (by decide) k) ?_
                      refine gb (mkF m 81 #[vr a0, vi p1, vi p2, vr a3, vi p4, vi (((p1 + (1 : Int32)) + (1 : Int32)) + (1 : Int32)), vi (fn24A ((p1 + (1 : Int32)) + (1 : Int32)) us w1 w2 w3 G1 sf), vi (fj18_2 p1 us w1 w2 w3 G1 sf)] [(.int p4)]) (fun _ k => XS.iload X16.here hx rfl (hb hby d18_79) rfl k) ?_
                      refine gb (mkF m 82 #[vr a0, vi p1, vi p2, vr a3, vi p4, vi (((p1 + (1 : Int32)) + (1 : Int32)) + (1 : Int32)), vi (fn24A ((p1 + (1 : Int32)) + (1 : Int32)) us w1 w2 w3 G1 sf), vi (fj18_2 p1 us w1 w2 w3 G1 sf)] [(.int p2), (.int p4)]) (fun _ k => XS.iloadN X16.here hx rfl (hb hby d18_81) rfl k) ?_
                      refine gb (mkF m 83 #[vr a0, vi p1, vi p2, vr a3, vi p4, vi (((p1 + (1 : Int32)) + (1 : Int32)) + (1 : Int32)), vi (fn24A ((p1 + (1 : Int32)) + (1 : Int32)) us w1 w2 w3 G1 sf), vi (fj18_2 p1 us w1 w2 w3 G1 sf)] [(.int (p4 + p2))]) (fun _ k => XS.iadd X16.here hx rfl (hb hby d18_82) rfl k) ?_
                      refine gb (mkF m 84 #[vr a0, vi p1, vi p2, vr a3, vi p4, vi (((p1 + (1 : Int32)) + (1 : Int32)) + (1 : Int32)), vi (fn24A ((p1 + (1 : Int32)) + (1 : Int32)) us w1 w2 w3 G1 sf), vi (fj18_2 p1 us w1 w2 w3 G1 sf)] [(.int p1), (.int (p4 + p2))]) (fun _ k => XS.iloadN X16.here hx rfl (hb hby d18_83) rfl k) ?_
                      refine gb (mkF m 85 #[vr a0, vi p1, vi p2, vr a3, vi p4, vi (((p1 + (1 : Int32)) + (1 : Int32)) + (1 : Int32)), vi (fn24A ((p1 + (1 : Int32)) + (1 : Int32)) us w1 w2 w3 G1 sf), vi (fj18_2 p1 us w1 w2 w3 G1 sf)] [(.int ((p4 + p2) - p1))]) (fun _ k => XS.isub X16.here hx rfl (hb hby d18_84) rfl k) ?_
                      exact Gl.outI X16 hx hk Bd.returns (hb hby d18_85) ⟨(congrArg (fun z => some (Value.int z)) (show ((p4 + p2) - p1) = fn18 p1 p2 p4 us zm cs w1 w2 w3 G1 sf by unfold fn18; rw [if_neg hf2, if_pos hf3, if_pos hf7, if_pos hf8, if_pos hf12, if_pos hf13, if_pos hf17]; try rfl)), N16, e16⟩ (by decide) (by decide)
                    · refine gb (mkF m 71 #[vr a0, vi p1, vi p2, vr a3, vi p4, vi ((p1 + (1 : Int32)) + (1 : Int32)), vi (fn24A ((p1 + (1 : Int32)) + (1 : Int32)) us w1 w2 w3 G1 sf), vi (fj18_2 p1 us w1 w2 w3 G1 sf)] []) (fun _ k => XS.icmpNo X16.here hx rfl (hb hby d18_68) rfl (feq hf17).1 k) ?_
                      refine gb (mkF m 72 #[vr a0, vi p1, vi p2, vr a3, vi p4, vi ((p1 + (1 : Int32)) + (1 : Int32)), vi (fn24A ((p1 + (1 : Int32)) + (1 : Int32)) us w1 w2 w3 G1 sf), vi (fj18_2 p1 us w1 w2 w3 G1 sf)] [(.int (-1 : Int32))]) (fun _ k => XS.iconst X16.here hx rfl (hb hby d18_71) k) ?_
                      exact Gl.outI X16 hx hk Bd.returns (hb hby d18_72) ⟨(congrArg (fun z => some (Value.int z)) (show (-1 : Int32) = fn18 p1 p2 p4 us zm cs w1 w2 w3 G1 sf by unfold fn18; rw [if_neg hf2, if_pos hf3, if_pos hf7, if_pos hf8, if_pos hf12, if_pos hf13, if_neg hf17]; try rfl)), N16, e16⟩ (by decide) (by decide)
                  by_cases hf18 : (fn24A ((p1 + (1 : Int32)) + (1 : Int32)) us w1 w2 w3 G1 sf) = (46 : Int32)
                  · refine gb (mkF m 46 #[vr a0, vi p1, vi p2, vr a3, vi p4, vi ((p1 + (1 : Int32)) + (1 : Int32)), vi (fn24A ((p1 + (1 : Int32)) + (1 : Int32)) us w1 w2 w3 G1 sf), vi (fj18_1 p1 us w1 w2 w3 G1 sf)] []) (fun _ k => XS.icmpYes X14.here hx rfl (pc0 := 36) (pc' := 46) rfl (hb hby d18_36) rfl (teq hf18).1 (by decide) (by decide) k) ?_
                    refine gb (mkF m 48 #[vr a0, vi p1, vi p2, vr a3, vi p4, vi ((p1 + (1 : Int32)) + (1 : Int32)), vi (fn24A ((p1 + (1 : Int32)) + (1 : Int32)) us w1 w2 w3 G1 sf), vi (fj18_1 p1 us w1 w2 w3 G1 sf)] [(.int 95)]) (fun _ k => XS.bipush X14.here hx rfl (hb hby d18_46) k) ?_
                    refine gb (mkF m 53 #[vr a0, vi p1, vi p2, vr a3, vi p4, vi ((p1 + (1 : Int32)) + (1 : Int32)), vi (fn24A ((p1 + (1 : Int32)) + (1 : Int32)) us w1 w2 w3 G1 sf), vi (fj18_1 p1 us w1 w2 w3 G1 sf)] [(.int 95)]) (fun _ k => XS.goto X14.here hx rfl (pc0 := 48) (pc' := 53) rfl (hb hby d18_48) (by decide) (by decide) k) ?_
                    exact J15 _ _ X14 e14 N14 (95 : Int32) (show (95 : Int32) = (fj18_2 p1 us w1 w2 w3 G1 sf) by unfold fj18_2; rw [if_pos hf18]; try rfl)
                  · refine gb (mkF m 39 #[vr a0, vi p1, vi p2, vr a3, vi p4, vi ((p1 + (1 : Int32)) + (1 : Int32)), vi (fn24A ((p1 + (1 : Int32)) + (1 : Int32)) us w1 w2 w3 G1 sf), vi (fj18_1 p1 us w1 w2 w3 G1 sf)] []) (fun _ k => XS.icmpNo X14.here hx rfl (hb hby d18_36) rfl (feq hf18).1 k) ?_
                    refine gb (mkF m 41 #[vr a0, vi p1, vi p2, vr a3, vi p4, vi ((p1 + (1 : Int32)) + (1 : Int32)), vi (fn24A ((p1 + (1 : Int32)) + (1 : Int32)) us w1 w2 w3 G1 sf), vi (fj18_1 p1 us w1 w2 w3 G1 sf)] [(.int (fn24A ((p1 + (1 : Int32)) + (1 : Int32)) us w1 w2 w3 G1 sf))]) (fun _ k => XS.iload X14.here hx rfl (hb hby d18_39) rfl k) ?_
                    refine gb (mkF m 43 #[vr a0, vi p1, vi p2, vr a3, vi p4, vi ((p1 + (1 : Int32)) + (1 : Int32)), vi (fn24A ((p1 + (1 : Int32)) + (1 : Int32)) us w1 w2 w3 G1 sf), vi (fj18_1 p1 us w1 w2 w3 G1 sf)] [(.int 64), (.int (fn24A ((p1 + (1 : Int32)) + (1 : Int32)) us w1 w2 w3 G1 sf))]) (fun _ k => XS.bipush X14.here hx rfl (hb hby d18_41) k) ?_
                    by_cases hf19 : (fn24A ((p1 + (1 : Int32)) + (1 : Int32)) us w1 w2 w3 G1 sf) = (64 : Int32)
                    · refine gb (mkF m 46 #[vr a0, vi p1, vi p2, vr a3, vi p4, vi ((p1 + (1 : Int32)) + (1 : Int32)), vi (fn24A ((p1 + (1 : Int32)) + (1 : Int32)) us w1 w2 w3 G1 sf), vi (fj18_1 p1 us w1 w2 w3 G1 sf)] []) (fun _ k => XS.icmpNo X14.here hx rfl (hb hby d18_43) rfl (teq hf19).2 k) ?_
                      refine gb (mkF m 48 #[vr a0, vi p1, vi p2, vr a3, vi p4, vi ((p1 + (1 : Int32)) + (1 : Int32)), vi (fn24A ((p1 + (1 : Int32)) + (1 : Int32)) us w1 w2 w3 G1 sf), vi (fj18_1 p1 us w1 w2 w3 G1 sf)] [(.int 95)]) (fun _ k => XS.bipush X14.here hx rfl (hb hby d18_46) k) ?_
                      refine gb (mkF m 53 #[vr a0, vi p1, vi p2, vr a3, vi p4, vi ((p1 + (1 : Int32)) + (1 : Int32)), vi (fn24A ((p1 + (1 : Int32)) + (1 : Int32)) us w1 w2 w3 G1 sf), vi (fj18_1 p1 us w1 w2 w3 G1 sf)] [(.int 95)]) (fun _ k => XS.goto X14.here hx rfl (pc0 := 48) (pc' := 53) rfl (hb hby d18_48) (by decide) (by decide) k) ?_
                      exact J15 _ _ X14 e14 N14 (95 : Int32) (show (95 : Int32) = (fj18_2 p1 us w1 w2 w3 G1 sf) by unfold fj18_2; rw [if_neg hf18, if_pos hf19]; try rfl)
                    · refine gb (mkF m 51 #[vr a0, vi p1, vi p2, vr a3, vi p4, vi ((p1 + (1 : Int32)) + (1 : Int32)), vi (fn24A ((p1 + (1 : Int32)) + (1 : Int32)) us w1 w2 w3 G1 sf), vi (fj18_1 p1 us w1 w2 w3 G1 sf)] []) (fun _ k => XS.icmpYes X14.here hx rfl (pc0 := 43) (pc' := 51) rfl (hb hby d18_43) rfl (feq hf19).2 (by decide) (by decide) k) ?_
                      refine gb (mkF m 53 #[vr a0, vi p1, vi p2, vr a3, vi p4, vi ((p1 + (1 : Int32)) + (1 : Int32)), vi (fn24A ((p1 + (1 : Int32)) + (1 : Int32)) us w1 w2 w3 G1 sf), vi (fj18_1 p1 us w1 w2 w3 G1 sf)] [(.int (fn24A ((p1 + (1 : Int32)) + (1 : Int32)) us w1 w2 w3 G1 sf))]) (fun _ k => XS.iload X14.here hx rfl (hb hby d18_51) rfl k) ?_
                      exact J15 _ _ X14 e14 N14 (fn24A ((p1 + (1 : Int32)) + (1 : Int32)) us w1 w2 w3 G1 sf) (show (fn24A ((p1 + (1 : Int32)) + (1 : Int32)) us w1 w2 w3 G1 sf) = (fj18_2 p1 us w1 w2 w3 G1 sf) by unfold fj18_2; rw [if_neg hf18, if_neg hf19]; try rfl)
                · refine gb (mkF m 79 #[vr a0, vi p1, vi p2, vr a3, vi p4, vi ((p1 + (1 : Int32)) + (1 : Int32)), vi (fn24A (p1 + (1 : Int32)) us w1 w2 w3 G1 sf), vi (fj18_1 p1 us w1 w2 w3 G1 sf)] []) (fun _ k => XS.icmpYes X11.here hx rfl (pc0 := 21) (pc' := 79) rfl (hb hby d18_21) rfl (flt hf13).2.1 (by decide) (by decide) k) ?_
                  refine gb (mkF m 81 #[vr a0, vi p1, vi p2, vr a3, vi p4, vi ((p1 + (1 : Int32)) + (1 : Int32)), vi (fn24A (p1 + (1 : Int32)) us w1 w2 w3 G1 sf), vi (fj18_1 p1 us w1 w2 w3 G1 sf)] [(.int p4)]) (fun _ k => XS.iload X11.here hx rfl (hb hby d18_79) rfl k) ?_
                  refine gb (mkF m 82 #[vr a0, vi p1, vi p2, vr a3, vi p4, vi ((p1 + (1 : Int32)) + (1 : Int32)), vi (fn24A (p1 + (1 : Int32)) us w1 w2 w3 G1 sf), vi (fj18_1 p1 us w1 w2 w3 G1 sf)] [(.int p2), (.int p4)]) (fun _ k => XS.iloadN X11.here hx rfl (hb hby d18_81) rfl k) ?_
                  refine gb (mkF m 83 #[vr a0, vi p1, vi p2, vr a3, vi p4, vi ((p1 + (1 : Int32)) + (1 : Int32)), vi (fn24A (p1 + (1 : Int32)) us w1 w2 w3 G1 sf), vi (fj18_1 p1 us w1 w2 w3 G1 sf)] [(.int (p4 + p2))]) (fun _ k => XS.iadd X11.here hx rfl (hb hby d18_82) rfl k) ?_
                  refine gb (mkF m 84 #[vr a0, vi p1, vi p2, vr a3, vi p4, vi ((p1 + (1 : Int32)) + (1 : Int32)), vi (fn24A (p1 + (1 : Int32)) us w1 w2 w3 G1 sf), vi (fj18_1 p1 us w1 w2 w3 G1 sf)] [(.int p1), (.int (p4 + p2))]) (fun _ k => XS.iloadN X11.here hx rfl (hb hby d18_83) rfl k) ?_
                  refine gb (mkF m 85 #[vr a0, vi p1, vi p2, vr a3, vi p4, vi ((p1 + (1 : Int32)) + (1 : Int32)), vi (fn24A (p1 + (1 : Int32)) us w1 w2 w3 G1 sf), vi (fj18_1 p1 us w1 w2 w3 G1 sf)] [(.int ((p4 + p2) - p1))]) (fun _ k => XS.isub X11.here hx rfl (hb hby d18_84) rfl k) ?_
                  exact Gl.outI X11 hx hk Bd.returns (hb hby d18_85) ⟨(congrArg (fun z => some (Value.int z)) (show ((p4 + p2) - p1) = fn18 p1 p2 p4 us zm cs w1 w2 w3 G1 sf by unfold fn18; rw [if_neg hf2, if_pos hf3, if_pos hf7, if_pos hf8, if_pos hf12, if_neg hf13]; try rfl)), N11, e11⟩ (by decide) (by decide)
              · refine gb (mkF m 71 #[vr a0, vi p1, vi p2, vr a3, vi p4, vi (p1 + (1 : Int32)), vi (fn24A (p1 + (1 : Int32)) us w1 w2 w3 G1 sf), vi (fj18_1 p1 us w1 w2 w3 G1 sf)] []) (fun _ k => XS.icmpNo X11.here hx rfl (hb hby d18_68) rfl (feq hf12).1 k) ?_
                refine gb (mkF m 72 #[vr a0, vi p1, vi p2, vr a3, vi p4, vi (p1 + (1 : Int32)), vi (fn24A (p1 + (1 : Int32)) us w1 w2 w3 G1 sf), vi (fj18_1 p1 us w1 w2 w3 G1 sf)] [(.int (-1 : Int32))]) (fun _ k => XS.iconst X11.here hx rfl (hb hby d18_71) k) ?_
                exact Gl.outI X11 hx hk Bd.returns (hb hby d18_72) ⟨(congrArg (fun z => some (Value.int z)) (show (-1 : Int32) = fn18 p1 p2 p4 us zm cs w1 w2 w3 G1 sf by unfold fn18; rw [if_neg hf2, if_pos hf3, if_pos hf7, if_pos hf8, if_neg hf12]; try rfl)), N11, e11⟩ (by decide) (by decide)
            by_cases hf20 : (fn24A (p1 + (1 : Int32)) us w1 w2 w3 G1 sf) = (46 : Int32)
            · refine gb (mkF m 46 #[vr a0, vi p1, vi p2, vr a3, vi p4, vi (p1 + (1 : Int32)), vi (fn24A (p1 + (1 : Int32)) us w1 w2 w3 G1 sf), vi (fj18_0 p1 us w1 w2 w3 G1 sf)] []) (fun _ k => XS.icmpYes X9.here hx rfl (pc0 := 36) (pc' := 46) rfl (hb hby d18_36) rfl (teq hf20).1 (by decide) (by decide) k) ?_
              refine gb (mkF m 48 #[vr a0, vi p1, vi p2, vr a3, vi p4, vi (p1 + (1 : Int32)), vi (fn24A (p1 + (1 : Int32)) us w1 w2 w3 G1 sf), vi (fj18_0 p1 us w1 w2 w3 G1 sf)] [(.int 95)]) (fun _ k => XS.bipush X9.here hx rfl (hb hby d18_46) k) ?_
              refine gb (mkF m 53 #[vr a0, vi p1, vi p2, vr a3, vi p4, vi (p1 + (1 : Int32)), vi (fn24A (p1 + (1 : Int32)) us w1 w2 w3 G1 sf), vi (fj18_0 p1 us w1 w2 w3 G1 sf)] [(.int 95)]) (fun _ k => XS.goto X9.here hx rfl (pc0 := 48) (pc' := 53) rfl (hb hby d18_48) (by decide) (by decide) k) ?_
              exact J10 _ _ X9 e9 N9 (95 : Int32) (show (95 : Int32) = (fj18_1 p1 us w1 w2 w3 G1 sf) by unfold fj18_1; rw [if_pos hf20]; try rfl)
            · refine gb (mkF m 39 #[vr a0, vi p1, vi p2, vr a3, vi p4, vi (p1 + (1 : Int32)), vi (fn24A (p1 + (1 : Int32)) us w1 w2 w3 G1 sf), vi (fj18_0 p1 us w1 w2 w3 G1 sf)] []) (fun _ k => XS.icmpNo X9.here hx rfl (hb hby d18_36) rfl (feq hf20).1 k) ?_
              refine gb (mkF m 41 #[vr a0, vi p1, vi p2, vr a3, vi p4, vi (p1 + (1 : Int32)), vi (fn24A (p1 + (1 : Int32)) us w1 w2 w3 G1 sf), vi (fj18_0 p1 us w1 w2 w3 G1 sf)] [(.int (fn24A (p1 + (1 : Int32)) us w1 w2 w3 G1 sf))]) (fun _ k => XS.iload X9.here hx rfl (hb hby d18_39) rfl k) ?_
              refine gb (mkF m 43 #[vr a0, vi p1, vi p2, vr a3, vi p4, vi (p1 + (1 : Int32)), vi (fn24A (p1 + (1 : Int32)) us w1 w2 w3 G1 sf), vi (fj18_0 p1 us w1 w2 w3 G1 sf)] [(.int 64), (.int (fn24A (p1 + (1 : Int32)) us w1 w2 w3 G1 sf))]) (fun _ k => XS.bipush X9.here hx rfl (hb hby d18_41) k) ?_
              by_cases hf21 : (fn24A (p1 + (1 : Int32)) us w1 w2 w3 G1 sf) = (64 : Int32)
              · refine gb (mkF m 46 #[vr a0, vi p1, vi p2, vr a3, vi p4, vi (p1 + (1 : Int32)), vi (fn24A (p1 + (1 : Int32)) us w1 w2 w3 G1 sf), vi (fj18_0 p1 us w1 w2 w3 G1 sf)] []) (fun _ k => XS.icmpNo X9.here hx rfl (hb hby d18_43) rfl (teq hf21).2 k) ?_
                refine gb (mkF m 48 #[vr a0, vi p1, vi p2, vr a3, vi p4, vi (p1 + (1 : Int32)), vi (fn24A (p1 + (1 : Int32)) us w1 w2 w3 G1 sf), vi (fj18_0 p1 us w1 w2 w3 G1 sf)] [(.int 95)]) (fun _ k => XS.bipush X9.here hx rfl (hb hby d18_46) k) ?_
                refine gb (mkF m 53 #[vr a0, vi p1, vi p2, vr a3, vi p4, vi (p1 + (1 : Int32)), vi (fn24A (p1 + (1 : Int32)) us w1 w2 w3 G1 sf), vi (fj18_0 p1 us w1 w2 w3 G1 sf)] [(.int 95)]) (fun _ k => XS.goto X9.here hx rfl (pc0 := 48) (pc' := 53) rfl (hb hby d18_48) (by decide) (by decide) k) ?_
                exact J10 _ _ X9 e9 N9 (95 : Int32) (show (95 : Int32) = (fj18_1 p1 us w1 w2 w3 G1 sf) by unfold fj18_1; rw [if_neg hf20, if_pos hf21]; try rfl)
              · refine gb (mkF m 51 #[vr a0, vi p1, vi p2, vr a3, vi p4, vi (p1 + (1 : Int32)), vi (fn24A (p1 + (1 : Int32)) us w1 w2 w3 G1 sf), vi (fj18_0 p1 us w1 w2 w3 G1 sf)] []) (fun _ k => XS.icmpYes X9.here hx rfl (pc0 := 43) (pc' := 51) rfl (hb hby d18_43) rfl (feq hf21).2 (by decide) (by decide) k) ?_
                refine gb (mkF m 53 #[vr a0, vi p1, vi p2, vr a3, vi p4, vi (p1 + (1 : Int32)), vi (fn24A (p1 + (1 : Int32)) us w1 w2 w3 G1 sf), vi (fj18_0 p1 us w1 w2 w3 G1 sf)] [(.int (fn24A (p1 + (1 : Int32)) us w1 w2 w3 G1 sf))]) (fun _ k => XS.iload X9.here hx rfl (hb hby d18_51) rfl k) ?_
                exact J10 _ _ X9 e9 N9 (fn24A (p1 + (1 : Int32)) us w1 w2 w3 G1 sf) (show (fn24A (p1 + (1 : Int32)) us w1 w2 w3 G1 sf) = (fj18_1 p1 us w1 w2 w3 G1 sf) by unfold fj18_1; rw [if_neg hf20, if_neg hf21]; try rfl)
          · refine gb (mkF m 79 #[vr a0, vi p1, vi p2, vr a3, vi p4, vi (p1 + (1 : Int32)), vi (fn24A p1 us w1 w2 w3 G1 sf), vi (fj18_0 p1 us w1 w2 w3 G1 sf)] []) (fun _ k => XS.icmpYes X6.here hx rfl (pc0 := 21) (pc' := 79) rfl (hb hby d18_21) rfl (flt hf8).2.1 (by decide) (by decide) k) ?_
            refine gb (mkF m 81 #[vr a0, vi p1, vi p2, vr a3, vi p4, vi (p1 + (1 : Int32)), vi (fn24A p1 us w1 w2 w3 G1 sf), vi (fj18_0 p1 us w1 w2 w3 G1 sf)] [(.int p4)]) (fun _ k => XS.iload X6.here hx rfl (hb hby d18_79) rfl k) ?_
            refine gb (mkF m 82 #[vr a0, vi p1, vi p2, vr a3, vi p4, vi (p1 + (1 : Int32)), vi (fn24A p1 us w1 w2 w3 G1 sf), vi (fj18_0 p1 us w1 w2 w3 G1 sf)] [(.int p2), (.int p4)]) (fun _ k => XS.iloadN X6.here hx rfl (hb hby d18_81) rfl k) ?_
            refine gb (mkF m 83 #[vr a0, vi p1, vi p2, vr a3, vi p4, vi (p1 + (1 : Int32)), vi (fn24A p1 us w1 w2 w3 G1 sf), vi (fj18_0 p1 us w1 w2 w3 G1 sf)] [(.int (p4 + p2))]) (fun _ k => XS.iadd X6.here hx rfl (hb hby d18_82) rfl k) ?_
            refine gb (mkF m 84 #[vr a0, vi p1, vi p2, vr a3, vi p4, vi (p1 + (1 : Int32)), vi (fn24A p1 us w1 w2 w3 G1 sf), vi (fj18_0 p1 us w1 w2 w3 G1 sf)] [(.int p1), (.int (p4 + p2))]) (fun _ k => XS.iloadN X6.here hx rfl (hb hby d18_83) rfl k) ?_
            refine gb (mkF m 85 #[vr a0, vi p1, vi p2, vr a3, vi p4, vi (p1 + (1 : Int32)), vi (fn24A p1 us w1 w2 w3 G1 sf), vi (fj18_0 p1 us w1 w2 w3 G1 sf)] [(.int ((p4 + p2) - p1))]) (fun _ k => XS.isub X6.here hx rfl (hb hby d18_84) rfl k) ?_
            exact Gl.outI X6 hx hk Bd.returns (hb hby d18_85) ⟨(congrArg (fun z => some (Value.int z)) (show ((p4 + p2) - p1) = fn18 p1 p2 p4 us zm cs w1 w2 w3 G1 sf by unfold fn18; rw [if_neg hf2, if_pos hf3, if_pos hf7, if_neg hf8]; try rfl)), N6, e6⟩ (by decide) (by decide)
        · refine gb (mkF m 71 #[vr a0, vi p1, vi p2, vr a3, vi p4, vi p1, vi (fn24A p1 us w1 w2 w3 G1 sf), vi (fj18_0 p1 us w1 w2 w3 G1 sf)] []) (fun _ k => XS.icmpNo X6.here hx rfl (hb hby d18_68) rfl (feq hf7).1 k) ?_
          refine gb (mkF m 72 #[vr a0, vi p1, vi p2, vr a3, vi p4, vi p1, vi (fn24A p1 us w1 w2 w3 G1 sf), vi (fj18_0 p1 us w1 w2 w3 G1 sf)] [(.int (-1 : Int32))]) (fun _ k => XS.iconst X6.here hx rfl (hb hby d18_71) k) ?_
          exact Gl.outI X6 hx hk Bd.returns (hb hby d18_72) ⟨(congrArg (fun z => some (Value.int z)) (show (-1 : Int32) = fn18 p1 p2 p4 us zm cs w1 w2 w3 G1 sf by unfold fn18; rw [if_neg hf2, if_pos hf3, if_neg hf7]; try rfl)), N6, e6⟩ (by decide) (by decide)
      by_cases hf22 : (fn24A p1 us w1 w2 w3 G1 sf) = (46 : Int32)
      · refine gb (mkF m 46 #[vr a0, vi p1, vi p2, vr a3, vi p4, vi p1, vi (fn24A p1 us w1 w2 w3 G1 sf), .unset] []) (fun _ k => XS.icmpYes X4.here hx rfl (pc0 := 36) (pc' := 46) rfl (hb hby d18_36) rfl (teq hf22).1 (by decide) (by decide) k) ?_
        refine gb (mkF m 48 #[vr a0, vi p1, vi p2, vr a3, vi p4, vi p1, vi (fn24A p1 us w1 w2 w3 G1 sf), .unset] [(.int 95)]) (fun _ k => XS.bipush X4.here hx rfl (hb hby d18_46) k) ?_
        refine gb (mkF m 53 #[vr a0, vi p1, vi p2, vr a3, vi p4, vi p1, vi (fn24A p1 us w1 w2 w3 G1 sf), .unset] [(.int 95)]) (fun _ k => XS.goto X4.here hx rfl (pc0 := 48) (pc' := 53) rfl (hb hby d18_48) (by decide) (by decide) k) ?_
        exact J5 _ _ X4 e4 N4 (95 : Int32) (show (95 : Int32) = (fj18_0 p1 us w1 w2 w3 G1 sf) by unfold fj18_0; rw [if_pos hf22]; try rfl)
      · refine gb (mkF m 39 #[vr a0, vi p1, vi p2, vr a3, vi p4, vi p1, vi (fn24A p1 us w1 w2 w3 G1 sf), .unset] []) (fun _ k => XS.icmpNo X4.here hx rfl (hb hby d18_36) rfl (feq hf22).1 k) ?_
        refine gb (mkF m 41 #[vr a0, vi p1, vi p2, vr a3, vi p4, vi p1, vi (fn24A p1 us w1 w2 w3 G1 sf), .unset] [(.int (fn24A p1 us w1 w2 w3 G1 sf))]) (fun _ k => XS.iload X4.here hx rfl (hb hby d18_39) rfl k) ?_
        refine gb (mkF m 43 #[vr a0, vi p1, vi p2, vr a3, vi p4, vi p1, vi (fn24A p1 us w1 w2 w3 G1 sf), .unset] [(.int 64), (.int (fn24A p1 us w1 w2 w3 G1 sf))]) (fun _ k => XS.bipush X4.here hx rfl (hb hby d18_41) k) ?_
        by_cases hf23 : (fn24A p1 us w1 w2 w3 G1 sf) = (64 : Int32)
        · refine gb (mkF m 46 #[vr a0, vi p1, vi p2, vr a3, vi p4, vi p1, vi (fn24A p1 us w1 w2 w3 G1 sf), .unset] []) (fun _ k => XS.icmpNo X4.here hx rfl (hb hby d18_43) rfl (teq hf23).2 k) ?_
          refine gb (mkF m 48 #[vr a0, vi p1, vi p2, vr a3, vi p4, vi p1, vi (fn24A p1 us w1 w2 w3 G1 sf), .unset] [(.int 95)]) (fun _ k => XS.bipush X4.here hx rfl (hb hby d18_46) k) ?_
          refine gb (mkF m 53 #[vr a0, vi p1, vi p2, vr a3, vi p4, vi p1, vi (fn24A p1 us w1 w2 w3 G1 sf), .unset] [(.int 95)]) (fun _ k => XS.goto X4.here hx rfl (pc0 := 48) (pc' := 53) rfl (hb hby d18_48) (by decide) (by decide) k) ?_
          exact J5 _ _ X4 e4 N4 (95 : Int32) (show (95 : Int32) = (fj18_0 p1 us w1 w2 w3 G1 sf) by unfold fj18_0; rw [if_neg hf22, if_pos hf23]; try rfl)
        · refine gb (mkF m 51 #[vr a0, vi p1, vi p2, vr a3, vi p4, vi p1, vi (fn24A p1 us w1 w2 w3 G1 sf), .unset] []) (fun _ k => XS.icmpYes X4.here hx rfl (pc0 := 43) (pc' := 51) rfl (hb hby d18_43) rfl (feq hf23).2 (by decide) (by decide) k) ?_
          refine gb (mkF m 53 #[vr a0, vi p1, vi p2, vr a3, vi p4, vi p1, vi (fn24A p1 us w1 w2 w3 G1 sf), .unset] [(.int (fn24A p1 us w1 w2 w3 G1 sf))]) (fun _ k => XS.iload X4.here hx rfl (hb hby d18_51) rfl k) ?_
          exact J5 _ _ X4 e4 N4 (fn24A p1 us w1 w2 w3 G1 sf) (show (fn24A p1 us w1 w2 w3 G1 sf) = (fj18_0 p1 us w1 w2 w3 G1 sf) by unfold fj18_0; rw [if_neg hf22, if_neg hf23]; try rfl)
    · refine gb (mkF m 79 #[vr a0, vi p1, vi p2, vr a3, vi p4, vi p1, .unset, .unset] []) (fun _ k => XS.icmpYes X1.here hx rfl (pc0 := 21) (pc' := 79) rfl (hb hby d18_21) rfl (flt hf3).2.1 (by decide) (by decide) k) ?_
      refine gb (mkF m 81 #[vr a0, vi p1, vi p2, vr a3, vi p4, vi p1, .unset, .unset] [(.int p4)]) (fun _ k => XS.iload X1.here hx rfl (hb hby d18_79) rfl k) ?_
      refine gb (mkF m 82 #[vr a0, vi p1, vi p2, vr a3, vi p4, vi p1, .unset, .unset] [(.int p2), (.int p4)]) (fun _ k => XS.iloadN X1.here hx rfl (hb hby d18_81) rfl k) ?_
      refine gb (mkF m 83 #[vr a0, vi p1, vi p2, vr a3, vi p4, vi p1, .unset, .unset] [(.int (p4 + p2))]) (fun _ k => XS.iadd X1.here hx rfl (hb hby d18_82) rfl k) ?_
      refine gb (mkF m 84 #[vr a0, vi p1, vi p2, vr a3, vi p4, vi p1, .unset, .unset] [(.int p1), (.int (p4 + p2))]) (fun _ k => XS.iloadN X1.here hx rfl (hb hby d18_83) rfl k) ?_
      refine gb (mkF m 85 #[vr a0, vi p1, vi p2, vr a3, vi p4, vi p1, .unset, .unset] [(.int ((p4 + p2) - p1))]) (fun _ k => XS.isub X1.here hx rfl (hb hby d18_84) rfl k) ?_
      exact Gl.outI X1 hx hk Bd.returns (hb hby d18_85) ⟨(congrArg (fun z => some (Value.int z)) (show ((p4 + p2) - p1) = fn18 p1 p2 p4 us zm cs w1 w2 w3 G1 sf by unfold fn18; rw [if_neg hf2, if_neg hf3]; try rfl)), N1, e1⟩ (by decide) (by decide)
theorem d17_0 : decode jdk_37_method_2_code 0 = .ok (.aload_n 0, 1) := by decide +kernel
theorem d17_1 : decode jdk_37_method_2_code 1 = .ok (.getfield 7, 3) := by decide +kernel
theorem d17_4 : decode jdk_37_method_2_code 4 = .ok (.ireturn, 1) := by decide +kernel
theorem pn6 : plainName "java/lang/Enum" = true := by first | (simp [plainName, overriddenIn]; done) | decide +kernel
theorem ef17 (m : MethodId) (x0 : Addr) : entryFrame m #[(.ref x0)] 1 = mkF m 0 #[.val (.ref x0)] [] := by first | (simp [entryFrame, mkF, argsToLocals, Value.category]; done) | rfl
def Q17 (Z : State) (a0 : Addr) (od : Int32) (w1 w2 w3 : Addr) (G1 : Int32) (sf : Value) (h0 : Heap) (n0 : Nat) (v : Option Value) (h : Heap) (L : List Loc) : Prop := v = some (.int od) ∧ Fr n0 L ∧ h = h0
theorem rm17 (l : Launch) (Z : State) (a0' : Array Value) (hw : ∀ d ∈ tables_1, d.before a0' Z = true) (ws : List Jvm.Cond) (a0 : Addr) (od : Int32) (w1 w2 w3 : Addr) (G1 : Int32) (sf : Value) (h0 : Heap) (n0 : Nat) (O : Old Z n0 h0) (W : Wd Z w1 w2 w3 G1 sf) (pf0 : Exa Z h0 a0 "com/example/gatewarden/gatewarden/core/UserKeyword") (pf1 : Fld Z h0 a0 "java/lang/Enum" "ordinal" "I" (.int od)) :
    MetFree l mq24 (head1 (Jvm.Cond.code mq24 jdk_37_method_2_code 1 (some .int) :: ws) ({ frames := 0, cells := 0, slots := 0, locals := 0 } : Room)) (fun a U => a = #[(.ref a0)] ∧ Z.Warmed39 U.vm ∧ U.heap = h0) (fun _ _ _ _ _ => True) (fun _ U o U' => ∃ v L, o = .returned v ∧ Q17 Z a0 od w1 w2 w3 G1 sf h0 n0 v U'.heap L ∧ FrameEnd U o U' L ({ frames := 0, cells := 0, slots := 0, locals := 0 } : Room).cells ({ frames := 0, cells := 0, slots := 0, locals := 0 } : Room).slots) := by
  refine MetFree.of_bodySF (plainFor_of_name pn6) hisR ?_
  intro p e s m args below meth c s₁ Bd hml0 hP hK
  obtain ⟨rfl, hZ, hh⟩ := hP
  have hx := Bd.exec
  have hby := Bd.bytes
  have hml : c.maxLocals = 1 := hml0
  have hown : s.vm.findClass "java/lang/Enum" = some m.cls := findClass_of_methodNamed Bd.named
  have hnm := (name_of_methodNamed Bd.named Bd.method).1
  have hk := Bd.notSynchronized
  have X0 : Stand p l e ({ frames := 0, cells := 0, slots := 0, locals := 0 } : Room) s m #[(.ref a0)] below meth c s₁ [] 0 0 := Stand.of_body Bd
  have hh2 := hh
  have e0 : s₁.heap = h0 := by rw [← hh, Bd.state]; rfl
  have N0 := Fr.nil n0
  show Gl p e below (Pos 0 0 (Q17 Z a0 od w1 w2 w3 G1 sf h0 n0) s) s₁ _
  refine Gl.cast (ef17 m a0) ?_
  refine gb (mkF m 1 #[vr a0] [(.ref a0)]) (fun _ k => XS.aloadN X0.here hx rfl (hb hby d17_0) rfl rfl k) ?_
  obtain ⟨T1, X1, e1, st1⟩ := getF X0 hx hZ hown (host := "") (Or.inl (hW hw 89 rfl)) Via.refl e0 pf1 (g := (mkF m 1 #[vr a0] [(.ref a0)])) rfl rfl (hb hby d17_1)
  refine gb (mkF m 4 #[vr a0] [(.int od)]) st1 ?_
  exact Gl.outI X1 hx hk Bd.returns (hb hby d17_4) ⟨rfl, N0, e1⟩ (by decide) (by decide)
theorem d8 {w1 : Addr} {w2 : Addr} {w3 : Addr} {G1 : Int32} {sf : Value} {z : Int32} {us : List Int32} (h : 0 ≤ z.toInt ∧ z.toInt ≤ 3) : -1 ≤ (fn8 z us w1 w2 w3 G1 sf).toInt ∧ (fn8 z us w1 w2 w3 G1 sf).toInt < z.toInt ∨ (fn8 z us w1 w2 w3 G1 sf).toInt = -1 := by
  unfold fn8 fn9 fn13 fn22
  have z0 : (0 : Int32).toInt = 0 := by decide
  have z1 : (1 : Int32).toInt = 1 := by decide
  have z2 : (2 : Int32).toInt = 2 := by decide
  have zm : (-1 : Int32).toInt = -1 := by decide
  repeat' split
  all_goals simp only [Int32.lt_iff_toInt_lt, z0, z1, z2, zm] at *
  all_goals omega
theorem Rg.z {z t m : Int32} (h : Rg (0 : Int32) z z t m) : 0 ≤ z.toInt ∧ z.toInt ≤ 3 := by
  obtain ⟨⟨g1, g2, g3, g4⟩, -⟩ := h
  have q : (0 : Int32).toInt = 0 := by decide
  omega
theorem Rg.e {z t m d : Int32} (h : Rg (0 : Int32) z z t m) (hd : 0 ≤ z.toInt ∧ z.toInt ≤ 3 → -1 ≤ d.toInt ∧ d.toInt < z.toInt ∨ d.toInt = -1) (hl : ¬ d < (0 : Int32)) : Rg (0 : Int32) d z t m := by
  have a := hd h.z
  obtain ⟨⟨g1, g2, g3, g4⟩, g5⟩ := h
  have q : (0 : Int32).toInt = 0 := by decide
  rw [Int32.lt_iff_toInt_lt, q] at hl
  refine ⟨⟨?_, ?_, ?_, ?_⟩, g5⟩ <;> omega
theorem Rg.b {z t m d : Int32} (h : Rg (0 : Int32) z z t m) (hd : 0 ≤ z.toInt ∧ z.toInt ≤ 3 → -1 ≤ d.toInt ∧ d.toInt < z.toInt ∨ d.toInt = -1) (hl : ¬ d < (0 : Int32)) : Rg (d + (1 : Int32)) z z t m := by
  have a := hd h.z
  obtain ⟨⟨g1, g2, g3, g4⟩, g5⟩ := h
  have q : (0 : Int32).toInt = 0 := by decide
  have q1 : (1 : Int32).toInt = 1 := by decide
  have c := c_iadd d 1
  have r := rng32 (d + 1)
  rw [q1] at c
  rw [Int32.lt_iff_toInt_lt, q] at hl
  refine ⟨⟨?_, ?_, ?_, ?_⟩, g5⟩ <;> omega
theorem d7_0 : decode prog_45_method_6_code 0 = .ok (.aload_n 1, 1) := by decide +kernel
theorem d7_1 : decode prog_45_method_6_code 1 = .ok (.bipush 64, 2) := by decide +kernel
theorem d7_3 : decode prog_45_method_6_code 3 = .ok (.invokevirtual 46, 3) := by decide +kernel
theorem d7_6 : decode prog_45_method_6_code 6 = .ok (.istore 4, 2) := by decide +kernel
theorem d7_8 : decode prog_45_method_6_code 8 = .ok (.aload_n 0, 1) := by decide +kernel
theorem d7_9 : decode prog_45_method_6_code 9 = .ok (.invokevirtual 50, 3) := by decide +kernel
theorem d7_12 : decode prog_45_method_6_code 12 = .ok (.tableswitch 28 0 2 #[38, 52, 76], 28) := by decide +kernel
theorem d7_50 : decode prog_45_method_6_code 50 = .ok (.aload_n 1, 1) := by decide +kernel
theorem d7_51 : decode prog_45_method_6_code 51 = .ok (.iconst 0, 1) := by decide +kernel
theorem d7_52 : decode prog_45_method_6_code 52 = .ok (.aload_n 1, 1) := by decide +kernel
theorem d7_53 : decode prog_45_method_6_code 53 = .ok (.invokevirtual 59, 3) := by decide +kernel
theorem d7_56 : decode prog_45_method_6_code 56 = .ok (.aload_n 2, 1) := by decide +kernel
theorem d7_57 : decode prog_45_method_6_code 57 = .ok (.iload_n 3, 1) := by decide +kernel
theorem d7_58 : decode prog_45_method_6_code 58 = .ok (.invokestatic 62, 3) := by decide +kernel
theorem d7_61 : decode prog_45_method_6_code 61 = .ok (.goto 50, 3) := by decide +kernel
theorem d7_111 : decode prog_45_method_6_code 111 = .ok (.ireturn, 1) := by decide +kernel
theorem pd466 : parseMethodDescriptor "(I)I" = some ⟨[.int], some .int⟩ := by decide +kernel
theorem pd467 : parseMethodDescriptor "(Ljava/lang/String;IILjava/lang/String;I)I" = some ⟨[(.object "java/lang/String"), .int, .int, (.object "java/lang/String"), .int], some .int⟩ := by decide +kernel
theorem ef70 (m : MethodId) (x0 : Addr) (x1 : Addr) (x2 : Addr) (x3 : Int32) : entryFrame m #[(.ref x0), (.ref x1), (.ref x2), (.int x3)] 5 = mkF m 0 #[.val (.ref x0), .val (.ref x1), .val (.ref x2), .val (.int x3), .unset] [] := by first | (simp [entryFrame, mkF, argsToLocals, Value.category]; done) | rfl
def fn70 (p3 : Int32) (zn : Int32) (us : List Int32) (zm : Int32) (cs : List Int32) (w1 w2 w3 : Addr) (G1 : Int32) (sf : Value) : Int32 := (fn18 (0 : Int32) zn p3 us zm cs w1 w2 w3 G1 sf)
def Q70 (Z : State) (a0 : Addr) (a1 : Addr) (a2 : Addr) (p3 : Int32) (b : Addr) (kb : ClassId) (zn : Int32) (us : List Int32) (bc : Addr) (kc : ClassId) (zm : Int32) (cs : List Int32) (w1 w2 w3 : Addr) (G1 : Int32) (sf : Value) (h0 : Heap) (n0 : Nat) (v : Option Value) (h : Heap) (L : List Loc) : Prop := v = some (.int (fn70 p3 zn us zm cs w1 w2 w3 G1 sf)) ∧ Fr n0 L ∧ h = h0
theorem rm70 (l : Launch) (Z : State) (a0' : Array Value) (hw : ∀ d ∈ tables_1, d.before a0' Z = true) (ws : List Jvm.Cond) (a0 : Addr) (a1 : Addr) (a2 : Addr) (p3 : Int32) (b : Addr) (kb : ClassId) (zn : Int32) (us : List Int32) (bc : Addr) (kc : ClassId) (zm : Int32) (cs : List Int32) (w1 w2 w3 : Addr) (G1 : Int32) (sf : Value) (h0 : Heap) (n0 : Nat) (O : Old Z n0 h0) (W : Wd Z w1 w2 w3 G1 sf) (pf0 : Exa Z h0 a0 "com/example/gatewarden/gatewarden/core/UserKeyword") (pf1 : Fld Z h0 a0 "java/lang/Enum" "ordinal" "I" (.int 0)) (pf2 : Exa Z h0 a1 "java/lang/String") (pf3 : Fld Z h0 a1 "java/lang/String" "value" "[B" (.ref b)) (pf4 : Fld Z h0 a1 "java/lang/String" "coder" "B" (.int 0)) (pf5 : Arv Z h0 b kb .byte zn (us.map Value.int) (.int 0)) (pf6 : Exa Z h0 a2 "java/lang/String") (pf7 : Fld Z h0 a2 "java/lang/String" "value" "[B" (.ref bc)) (pf8 : Fld Z h0 a2 "java/lang/String" "coder" "B" (.int 0)) (pf9 : Arv Z h0 bc kc .byte zm (cs.map Value.int) (.int 0)) (hS : Rg (0 : Int32) zn zn p3 zm) :
    MetFree l mq25 (head1 (Jvm.Cond.code mq25 prog_45_method_6_code 5 (some .int) :: ws) ({ frames := 5, cells := 0, slots := 0, locals := 72 } : Room)) (fun a U => a = #[(.ref a0), (.ref a1), (.ref a2), (.int p3)] ∧ Z.Warmed39 U.vm ∧ U.heap = h0) (fun _ _ _ _ _ => True) (fun _ U o U' => ∃ v L, o = .returned v ∧ Q70 Z a0 a1 a2 p3 b kb zn us bc kc zm cs w1 w2 w3 G1 sf h0 n0 v U'.heap L ∧ FrameEnd U o U' L ({ frames := 5, cells := 0, slots := 0, locals := 72 } : Room).cells ({ frames := 5, cells := 0, slots := 0, locals := 72 } : Room).slots) := by
  refine MetFree.of_bodySF (plainFor_of_name pn5) hisR ?_
  intro p e s m args below meth c s₁ Bd hml0 hP hK
  obtain ⟨rfl, hZ, hh⟩ := hP
  have hx := Bd.exec
  have hby := Bd.bytes
  have hml : c.maxLocals = 5 := hml0
  have hown : s.vm.findClass "com/example/gatewarden/gatewarden/core/UserKeyword" = some m.cls := findClass_of_methodNamed Bd.named
  have hnm := (name_of_methodNamed Bd.named Bd.method).1
  have hk := Bd.notSynchronized
  have X0 : Stand p l e ({ frames := 5, cells := 0, slots := 0, locals := 72 } : Room) s m #[(.ref a0), (.ref a1), (.ref a2), (.int p3)] below meth c s₁ [] 0 0 := Stand.of_body Bd
  have hh2 := hh
  have e0 : s₁.heap = h0 := by rw [← hh, Bd.state]; rfl
  have N0 := Fr.nil n0
  show Gl p e below (Pos 0 0 (Q70 Z a0 a1 a2 p3 b kb zn us bc kc zm cs w1 w2 w3 G1 sf h0 n0) s) s₁ _
  refine Gl.cast (ef70 m a0 a1 a2 p3) ?_
  refine gb (mkF m 1 #[vr a0, vr a1, vr a2, vi p3, .unset] [(.ref a1)]) (fun _ k => XS.aloadN X0.here hx rfl (hb hby d7_0) rfl rfl k) ?_
  refine gb (mkF m 3 #[vr a0, vr a1, vr a2, vi p3, .unset] [(.int 64), (.ref a1)]) (fun _ k => XS.bipush X0.here hx rfl (hb hby d7_1) k) ?_
  obtain ⟨cq1, kq1, q1a, q1b, q1c⟩ := isOf hZ e0 pf2
  obtain ⟨_, _, ⟨T1, L1, k1, n1⟩, -, X1, ⟨Lc1, hQ1, l1, y1, z1⟩, st1⟩ := X0.virtualBack hx (y := mq22) (z := mq22) hown (mvT hZ (hW hw 42 rfl)) (mvT hZ (hW hw 43 rfl)) (notFace_of_selects (args := #[]) (mvT hZ (hW hw 45 rfl))) (mvT hZ (hW hw 45 rfl)) (mvT hZ (hW hw 44 rfl)) (by decide) (backOf (W := 0) (rm8 l Z a0' hw [] a1 b kb zn us w1 w2 w3 G1 sf h0 n0 O W pf2 pf3 pf4 pf5 hS.z) hZ (hW hw 46 rfl) (hW hw 12 rfl) (by decide) (by decide)) q1a q1c (g := (mkF m 3 #[vr a0, vr a1, vr a2, vi p3, .unset] [(.int 64), (.ref a1)])) rfl (by rw [hml]; rfl) (Steps.refl _) (argsL := [(.int 64)]) (rest := []) (lenOf pd466 rfl) rfl (Nat.le_of_eq rfl) (hb hby d7_3) (fun _ _ => ⟨rfl, e0, (by decide : 0 + 0 ≤ _), (by decide : 0 + 0 ≤ _)⟩)
  dsimp only [Pt.U, Pt.locs, Pt.cells, Pt.slots] at X1 l1 y1 z1 st1 hQ1
  subst l1 y1 z1
  obtain ⟨rfl, N1q, e1⟩ := hQ1
  have N1 := Fr.app N0 N1q
  refine gb (mkF m 6 #[vr a0, vr a1, vr a2, vi p3, .unset] [(.int (fn8 zn us w1 w2 w3 G1 sf))]) (fun _ k => st1.trans k) ?_
  refine gb (mkF m 8 #[vr a0, vr a1, vr a2, vi p3, vi (fn8 zn us w1 w2 w3 G1 sf)] []) (fun _ k => XS.istore X1.here hx rfl (hb hby d7_6) rfl (l' := #[vr a0, vr a1, vr a2, vi p3, vi (fn8 zn us w1 w2 w3 G1 sf)]) rfl k) ?_
  refine gb (mkF m 9 #[vr a0, vr a1, vr a2, vi p3, vi (fn8 zn us w1 w2 w3 G1 sf)] [(.ref a0)]) (fun _ k => XS.aloadN X1.here hx rfl (hb hby d7_8) rfl rfl k) ?_
  obtain ⟨cq2, kq2, q2a, q2b, q2c⟩ := isOf hZ e1 pf0
  obtain ⟨_, _, ⟨T2, L2, k2, n2⟩, -, X2, ⟨Lc2, hQ2, l2, y2, z2⟩, st2⟩ := X1.virtualBackUp hx (x := mq26) (y := mq24) (owner := "java/lang/Enum") hown (mvT hZ (hW hw 82 rfl)) (mvT hZ (hW hw 83 rfl)) (mvT hZ (hW hw 84 rfl)) (by decide) (mvT hZ (hW hw 86 rfl)) (mvT hZ (hW hw 85 rfl)) (backOf (W := 0) (rm17 l Z a0' hw [] a0 (0 : Int32) w1 w2 w3 G1 sf h0 n0 O W pf0 pf1) hZ (hW hw 88 rfl) (hW hw 87 rfl) (by decide) (by decide)) q2a q2c (g := (mkF m 9 #[vr a0, vr a1, vr a2, vi p3, vi (fn8 zn us w1 w2 w3 G1 sf)] [(.ref a0)])) rfl (by rw [hml]; rfl) (Steps.refl _) (argsL := []) (rest := []) (lenOf pd392 rfl) rfl (Nat.le_of_eq rfl) (hb hby d7_9) (fun _ _ => ⟨rfl, e1, (by decide : 0 + 0 ≤ _), (by decide : 0 + 0 ≤ _)⟩)
  dsimp only [Pt.U, Pt.locs, Pt.cells, Pt.slots] at X2 l2 y2 z2 st2 hQ2
  subst l2 y2 z2
  obtain ⟨rfl, N2q, e2⟩ := hQ2
  have N2 := Fr.app N1 N2q
  refine gb (mkF m 12 #[vr a0, vr a1, vr a2, vi p3, vi (fn8 zn us w1 w2 w3 G1 sf)] [(.int 0)]) (fun _ k => st2.trans k) ?_
  refine gb (mkF m 50 #[vr a0, vr a1, vr a2, vi p3, vi (fn8 zn us w1 w2 w3 G1 sf)] []) (fun _ k => XS.tswIn (o := 38) (pc0 := 12) X2.here hx rfl rfl (hb hby d7_12) rfl (by decide) rfl (by decide) rfl k) ?_
  refine gb (mkF m 51 #[vr a0, vr a1, vr a2, vi p3, vi (fn8 zn us w1 w2 w3 G1 sf)] [(.ref a1)]) (fun _ k => XS.aloadN X2.here hx rfl (hb hby d7_50) rfl rfl k) ?_
  refine gb (mkF m 52 #[vr a0, vr a1, vr a2, vi p3, vi (fn8 zn us w1 w2 w3 G1 sf)] [(.int 0), (.ref a1)]) (fun _ k => XS.iconst X2.here hx rfl (hb hby d7_51) k) ?_
  refine gb (mkF m 53 #[vr a0, vr a1, vr a2, vi p3, vi (fn8 zn us w1 w2 w3 G1 sf)] [(.ref a1), (.int 0), (.ref a1)]) (fun _ k => XS.aloadN X2.here hx rfl (hb hby d7_52) rfl rfl k) ?_
  obtain ⟨cq3, kq3, q3a, q3b, q3c⟩ := isOf hZ e2 pf2
  obtain ⟨_, _, ⟨T3, L3, k3, n3⟩, -, X3, ⟨Lc3, hQ3, l3, y3, z3⟩, st3⟩ := X2.virtualBack hx (y := mq5) (z := mq5) hown (mvT hZ (hW hw 91 rfl)) (mvT hZ (hW hw 59 rfl)) (notFace_of_selects (args := #[]) (mvT hZ (hW hw 61 rfl))) (mvT hZ (hW hw 61 rfl)) (mvT hZ (hW hw 60 rfl)) (by decide) (backOf (W := 2) (rm11 l Z a0' hw [] a1 b kb (us.map Value.int) zn w1 w2 w3 G1 sf h0 n0 O W pf2 pf3 pf4 pf5) hZ (hW hw 62 rfl) (hW hw 12 rfl) (by decide) (by decide)) q3a q3c (g := (mkF m 53 #[vr a0, vr a1, vr a2, vi p3, vi (fn8 zn us w1 w2 w3 G1 sf)] [(.ref a1), (.int 0), (.ref a1)])) rfl (by rw [hml]; rfl) (Steps.refl _) (argsL := []) (rest := [(.int 0), (.ref a1)]) (lenOf pd392 rfl) rfl (Nat.le_of_eq rfl) (hb hby d7_53) (fun _ _ => ⟨rfl, e2, (by decide : 0 + 0 ≤ _), (by decide : 0 + 0 ≤ _)⟩)
  dsimp only [Pt.U, Pt.locs, Pt.cells, Pt.slots] at X3 l3 y3 z3 st3 hQ3
  subst l3 y3 z3
  obtain ⟨rfl, N3q, e3⟩ := hQ3
  have N3 := Fr.app N2 N3q
  refine gb (mkF m 56 #[vr a0, vr a1, vr a2, vi p3, vi (fn8 zn us w1 w2 w3 G1 sf)] [(.int zn), (.int 0), (.ref a1)]) (fun _ k => st3.trans k) ?_
  refine gb (mkF m 57 #[vr a0, vr a1, vr a2, vi p3, vi (fn8 zn us w1 w2 w3 G1 sf)] [(.ref a2), (.int zn), (.int 0), (.ref a1)]) (fun _ k => XS.aloadN X3.here hx rfl (hb hby d7_56) rfl rfl k) ?_
  refine gb (mkF m 58 #[vr a0, vr a1, vr a2, vi p3, vi (fn8 zn us w1 w2 w3 G1 sf)] [(.int p3), (.ref a2), (.int zn), (.int 0), (.ref a1)]) (fun _ k => XS.iloadN X3.here hx rfl (hb hby d7_57) rfl k) ?_
  obtain ⟨_, _, ⟨T4, L4, k4, n4⟩, -, X4, ⟨Lc4, hQ4, l4, y4, z4⟩, st4⟩ := callS X3 hx (y := mq23) hown (mvT hZ (hW hw 92 rfl)) (mvT hZ (hW hw 93 rfl)) (mvT hZ (hW hw 32 rfl)) (mvT hZ (hW hw 94 rfl)) (by decide) (backOf (W := 0) (rm18 l Z a0' hw [] a1 (0 : Int32) zn a2 p3 b kb zn us bc kc zm cs w1 w2 w3 G1 sf h0 n0 O W pf2 pf3 pf4 pf5 pf6 pf7 pf8 pf9 hS) hZ (hW hw 94 rfl) (hW hw 32 rfl) (by decide) (by decide)) (g := (mkF m 58 #[vr a0, vr a1, vr a2, vi p3, vi (fn8 zn us w1 w2 w3 G1 sf)] [(.int p3), (.ref a2), (.int zn), (.int 0), (.ref a1)])) rfl (by rw [hml]; rfl) (argsL := [(.ref a1), (.int 0), (.int zn), (.ref a2), (.int p3)]) (rest := []) (lenOf pd467 rfl) rfl (Nat.le_of_eq rfl) (hb hby d7_58) (fun _ _ => ⟨rfl, e3, (by decide : 0 + 0 ≤ _), (by decide : 0 + 0 ≤ _)⟩)
  dsimp only [Pt.U, Pt.locs, Pt.cells, Pt.slots] at X4 l4 y4 z4 st4 hQ4
  subst l4 y4 z4
  obtain ⟨rfl, N4q, e4⟩ := hQ4
  have N4 := Fr.app N3 N4q
  refine gb (mkF m 61 #[vr a0, vr a1, vr a2, vi p3, vi (fn8 zn us w1 w2 w3 G1 sf)] [(.int (fn18 (0 : Int32) zn p3 us zm cs w1 w2 w3 G1 sf))]) st4 ?_
  refine gb (mkF m 111 #[vr a0, vr a1, vr a2, vi p3, vi (fn8 zn us w1 w2 w3 G1 sf)] [(.int (fn18 (0 : Int32) zn p3 us zm cs w1 w2 w3 G1 sf))]) (fun _ k => XS.goto X4.here hx rfl (pc0 := 61) (pc' := 111) rfl (hb hby d7_61) (by decide) (by decide) k) ?_
  exact Gl.outI X4 hx hk Bd.returns (hb hby d7_111) ⟨(congrArg (fun z => some (Value.int z)) (show (fn18 (0 : Int32) zn p3 us zm cs w1 w2 w3 G1 sf) = fn70 p3 zn us zm cs w1 w2 w3 G1 sf by unfold fn70; try rfl)), N4, e4⟩ (by decide) (by decide)
theorem d7_64 : decode prog_45_method_6_code 64 = .ok (.aload_n 1, 1) := by decide +kernel
theorem d7_65 : decode prog_45_method_6_code 65 = .ok (.iconst 0, 1) := by decide +kernel
theorem d7_66 : decode prog_45_method_6_code 66 = .ok (.iload 4, 2) := by decide +kernel
theorem d7_68 : decode prog_45_method_6_code 68 = .ok (.ifCond .ge 10, 3) := by decide +kernel
theorem d7_71 : decode prog_45_method_6_code 71 = .ok (.aload_n 1, 1) := by decide +kernel
theorem d7_72 : decode prog_45_method_6_code 72 = .ok (.invokevirtual 59, 3) := by decide +kernel
theorem d7_75 : decode prog_45_method_6_code 75 = .ok (.goto 5, 3) := by decide +kernel
theorem d7_78 : decode prog_45_method_6_code 78 = .ok (.iload 4, 2) := by decide +kernel
theorem d7_80 : decode prog_45_method_6_code 80 = .ok (.aload_n 2, 1) := by decide +kernel
theorem d7_81 : decode prog_45_method_6_code 81 = .ok (.iload_n 3, 1) := by decide +kernel
theorem d7_82 : decode prog_45_method_6_code 82 = .ok (.invokestatic 62, 3) := by decide +kernel
theorem d7_85 : decode prog_45_method_6_code 85 = .ok (.goto 26, 3) := by decide +kernel
theorem ef71 (m : MethodId) (x0 : Addr) (x1 : Addr) (x2 : Addr) (x3 : Int32) : entryFrame m #[(.ref x0), (.ref x1), (.ref x2), (.int x3)] 5 = mkF m 0 #[.val (.ref x0), .val (.ref x1), .val (.ref x2), .val (.int x3), .unset] [] := by first | (simp [entryFrame, mkF, argsToLocals, Value.category]; done) | rfl
def fn71 (p3 : Int32) (zn : Int32) (us : List Int32) (zm : Int32) (cs : List Int32) (w1 w2 w3 : Addr) (G1 : Int32) (sf : Value) : Int32 := if (fn8 zn us w1 w2 w3 G1 sf) < (0 : Int32) then (fn18 (0 : Int32) zn p3 us zm cs w1 w2 w3 G1 sf) else (fn18 (0 : Int32) (fn8 zn us w1 w2 w3 G1 sf) p3 us zm cs w1 w2 w3 G1 sf)
def Q71 (Z : State) (a0 : Addr) (a1 : Addr) (a2 : Addr) (p3 : Int32) (b : Addr) (kb : ClassId) (zn : Int32) (us : List Int32) (bc : Addr) (kc : ClassId) (zm : Int32) (cs : List Int32) (w1 w2 w3 : Addr) (G1 : Int32) (sf : Value) (h0 : Heap) (n0 : Nat) (v : Option Value) (h : Heap) (L : List Loc) : Prop := v = some (.int (fn71 p3 zn us zm cs w1 w2 w3 G1 sf)) ∧ Fr n0 L ∧ h = h0
theorem rm71 (l : Launch) (Z : State) (a0' : Array Value) (hw : ∀ d ∈ tables_1, d.before a0' Z = true) (ws : List Jvm.Cond) (a0 : Addr) (a1 : Addr) (a2 : Addr) (p3 : Int32) (b : Addr) (kb : ClassId) (zn : Int32) (us : List Int32) (bc : Addr) (kc : ClassId) (zm : Int32) (cs : List Int32) (w1 w2 w3 : Addr) (G1 : Int32) (sf : Value) (h0 : Heap) (n0 : Nat) (O : Old Z n0 h0) (W : Wd Z w1 w2 w3 G1 sf) (pf0 : Exa Z h0 a0 "com/example/gatewarden/gatewarden/core/UserKeyword") (pf1 : Fld Z h0 a0 "java/lang/Enum" "ordinal" "I" (.int 1)) (pf2 : Exa Z h0 a1 "java/lang/String") (pf3 : Fld Z h0 a1 "java/lang/String" "value" "[B" (.ref b)) (pf4 : Fld Z h0 a1 "java/lang/String" "coder" "B" (.int 0)) (pf5 : Arv Z h0 b kb .byte zn (us.map Value.int) (.int 0)) (pf6 : Exa Z h0 a2 "java/lang/String") (pf7 : Fld Z h0 a2 "java/lang/String" "value" "[B" (.ref bc)) (pf8 : Fld Z h0 a2 "java/lang/String" "coder" "B" (.int 0)) (pf9 : Arv Z h0 bc kc .byte zm (cs.map Value.int) (.int 0)) (hS : Rg (0 : Int32) zn zn p3 zm) :
    MetFree l mq25 (head1 (Jvm.Cond.code mq25 prog_45_method_6_code 5 (some .int) :: ws) ({ frames := 5, cells := 0, slots := 0, locals := 72 } : Room)) (fun a U => a = #[(.ref a0), (.ref a1), (.ref a2), (.int p3)] ∧ Z.Warmed39 U.vm ∧ U.heap = h0) (fun _ _ _ _ _ => True) (fun _ U o U' => ∃ v L, o = .returned v ∧ Q71 Z a0 a1 a2 p3 b kb zn us bc kc zm cs w1 w2 w3 G1 sf h0 n0 v U'.heap L ∧ FrameEnd U o U' L ({ frames := 5, cells := 0, slots := 0, locals := 72 } : Room).cells ({ frames := 5, cells := 0, slots := 0, locals := 72 } : Room).slots) := by
  refine MetFree.of_bodySF (plainFor_of_name pn5) hisR ?_
  intro p e s m args below meth c s₁ Bd hml0 hP hK
  obtain ⟨rfl, hZ, hh⟩ := hP
  have hx := Bd.exec
  have hby := Bd.bytes
  have hml : c.maxLocals = 5 := hml0
  have hown : s.vm.findClass "com/example/gatewarden/gatewarden/core/UserKeyword" = some m.cls := findClass_of_methodNamed Bd.named
  have hnm := (name_of_methodNamed Bd.named Bd.method).1
  have hk := Bd.notSynchronized
  have X0 : Stand p l e ({ frames := 5, cells := 0, slots := 0, locals := 72 } : Room) s m #[(.ref a0), (.ref a1), (.ref a2), (.int p3)] below meth c s₁ [] 0 0 := Stand.of_body Bd
  have hh2 := hh
  have e0 : s₁.heap = h0 := by rw [← hh, Bd.state]; rfl
  have N0 := Fr.nil n0
  show Gl p e below (Pos 0 0 (Q71 Z a0 a1 a2 p3 b kb zn us bc kc zm cs w1 w2 w3 G1 sf h0 n0) s) s₁ _
  refine Gl.cast (ef71 m a0 a1 a2 p3) ?_
  refine gb (mkF m 1 #[vr a0, vr a1, vr a2, vi p3, .unset] [(.ref a1)]) (fun _ k => XS.aloadN X0.here hx rfl (hb hby d7_0) rfl rfl k) ?_
  refine gb (mkF m 3 #[vr a0, vr a1, vr a2, vi p3, .unset] [(.int 64), (.ref a1)]) (fun _ k => XS.bipush X0.here hx rfl (hb hby d7_1) k) ?_
  obtain ⟨cq1, kq1, q1a, q1b, q1c⟩ := isOf hZ e0 pf2
  obtain ⟨_, _, ⟨T1, L1, k1, n1⟩, -, X1, ⟨Lc1, hQ1, l1, y1, z1⟩, st1⟩ := X0.virtualBack hx (y := mq22) (z := mq22) hown (mvT hZ (hW hw 42 rfl)) (mvT hZ (hW hw 43 rfl)) (notFace_of_selects (args := #[]) (mvT hZ (hW hw 45 rfl))) (mvT hZ (hW hw 45 rfl)) (mvT hZ (hW hw 44 rfl)) (by decide) (backOf (W := 0) (rm8 l Z a0' hw [] a1 b kb zn us w1 w2 w3 G1 sf h0 n0 O W pf2 pf3 pf4 pf5 hS.z) hZ (hW hw 46 rfl) (hW hw 12 rfl) (by decide) (by decide)) q1a q1c (g := (mkF m 3 #[vr a0, vr a1, vr a2, vi p3, .unset] [(.int 64), (.ref a1)])) rfl (by rw [hml]; rfl) (Steps.refl _) (argsL := [(.int 64)]) (rest := []) (lenOf pd466 rfl) rfl (Nat.le_of_eq rfl) (hb hby d7_3) (fun _ _ => ⟨rfl, e0, (by decide : 0 + 0 ≤ _), (by decide : 0 + 0 ≤ _)⟩)
  dsimp only [Pt.U, Pt.locs, Pt.cells, Pt.slots] at X1 l1 y1 z1 st1 hQ1
  subst l1 y1 z1
  obtain ⟨rfl, N1q, e1⟩ := hQ1
  have N1 := Fr.app N0 N1q
  refine gb (mkF m 6 #[vr a0, vr a1, vr a2, vi p3, .unset] [(.int (fn8 zn us w1 w2 w3 G1 sf))]) (fun _ k => st1.trans k) ?_
  refine gb (mkF m 8 #[vr a0, vr a1, vr a2, vi p3, vi (fn8 zn us w1 w2 w3 G1 sf)] []) (fun _ k => XS.istore X1.here hx rfl (hb hby d7_6) rfl (l' := #[vr a0, vr a1, vr a2, vi p3, vi (fn8 zn us w1 w2 w3 G1 sf)]) rfl k) ?_
  refine gb (mkF m 9 #[vr a0, vr a1, vr a2, vi p3, vi (fn8 zn us w1 w2 w3 G1 sf)] [(.ref a0)]) (fun _ k => XS.aloadN X1.here hx rfl (hb hby d7_8) rfl rfl k) ?_
  obtain ⟨cq2, kq2, q2a, q2b, q2c⟩ := isOf hZ e1 pf0
  obtain ⟨_, _, ⟨T2, L2, k2, n2⟩, -, X2, ⟨Lc2, hQ2, l2, y2, z2⟩, st2⟩ := X1.virtualBackUp hx (x := mq26) (y := mq24) (owner := "java/lang/Enum") hown (mvT hZ (hW hw 82 rfl)) (mvT hZ (hW hw 83 rfl)) (mvT hZ (hW hw 84 rfl)) (by decide) (mvT hZ (hW hw 86 rfl)) (mvT hZ (hW hw 85 rfl)) (backOf (W := 0) (rm17 l Z a0' hw [] a0 (1 : Int32) w1 w2 w3 G1 sf h0 n0 O W pf0 pf1) hZ (hW hw 88 rfl) (hW hw 87 rfl) (by decide) (by decide)) q2a q2c (g := (mkF m 9 #[vr a0, vr a1, vr a2, vi p3, vi (fn8 zn us w1 w2 w3 G1 sf)] [(.ref a0)])) rfl (by rw [hml]; rfl) (Steps.refl _) (argsL := []) (rest := []) (lenOf pd392 rfl) rfl (Nat.le_of_eq rfl) (hb hby d7_9) (fun _ _ => ⟨rfl, e1, (by decide : 0 + 0 ≤ _), (by decide : 0 + 0 ≤ _)⟩)
  dsimp only [Pt.U, Pt.locs, Pt.cells, Pt.slots] at X2 l2 y2 z2 st2 hQ2
  subst l2 y2 z2
  obtain ⟨rfl, N2q, e2⟩ := hQ2
  have N2 := Fr.app N1 N2q
  refine gb (mkF m 12 #[vr a0, vr a1, vr a2, vi p3, vi (fn8 zn us w1 w2 w3 G1 sf)] [(.int 1)]) (fun _ k => st2.trans k) ?_
  refine gb (mkF m 64 #[vr a0, vr a1, vr a2, vi p3, vi (fn8 zn us w1 w2 w3 G1 sf)] []) (fun _ k => XS.tswIn (o := 52) (pc0 := 12) X2.here hx rfl rfl (hb hby d7_12) rfl (by decide) rfl (by decide) rfl k) ?_
  refine gb (mkF m 65 #[vr a0, vr a1, vr a2, vi p3, vi (fn8 zn us w1 w2 w3 G1 sf)] [(.ref a1)]) (fun _ k => XS.aloadN X2.here hx rfl (hb hby d7_64) rfl rfl k) ?_
  refine gb (mkF m 66 #[vr a0, vr a1, vr a2, vi p3, vi (fn8 zn us w1 w2 w3 G1 sf)] [(.int 0), (.ref a1)]) (fun _ k => XS.iconst X2.here hx rfl (hb hby d7_65) k) ?_
  refine gb (mkF m 68 #[vr a0, vr a1, vr a2, vi p3, vi (fn8 zn us w1 w2 w3 G1 sf)] [(.int (fn8 zn us w1 w2 w3 G1 sf)), (.int 0), (.ref a1)]) (fun _ k => XS.iload X2.here hx rfl (hb hby d7_66) rfl k) ?_
  by_cases hf3 : (fn8 zn us w1 w2 w3 G1 sf) < (0 : Int32)
  · refine gb (mkF m 71 #[vr a0, vr a1, vr a2, vi p3, vi (fn8 zn us w1 w2 w3 G1 sf)] [(.int 0), (.ref a1)]) (fun _ k => XS.ifNo X2.here hx rfl (hb hby d7_68) rfl ((if0 _ _).trans (tlt hf3).2.1) k) ?_
    refine gb (mkF m 72 #[vr a0, vr a1, vr a2, vi p3, vi (fn8 zn us w1 w2 w3 G1 sf)] [(.ref a1), (.int 0), (.ref a1)]) (fun _ k => XS.aloadN X2.here hx rfl (hb hby d7_71) rfl rfl k) ?_
    obtain ⟨cq4, kq4, q4a, q4b, q4c⟩ := isOf hZ e2 pf2
    obtain ⟨_, _, ⟨T4, L4, k4, n4⟩, -, X4, ⟨Lc4, hQ4, l4, y4, z4⟩, st4⟩ := X2.virtualBack hx (y := mq5) (z := mq5) hown (mvT hZ (hW hw 91 rfl)) (mvT hZ (hW hw 59 rfl)) (notFace_of_selects (args := #[]) (mvT hZ (hW hw 61 rfl))) (mvT hZ (hW hw 61 rfl)) (mvT hZ (hW hw 60 rfl)) (by decide) (backOf (W := 2) (rm11 l Z a0' hw [] a1 b kb (us.map Value.int) zn w1 w2 w3 G1 sf h0 n0 O W pf2 pf3 pf4 pf5) hZ (hW hw 62 rfl) (hW hw 12 rfl) (by decide) (by decide)) q4a q4c (g := (mkF m 72 #[vr a0, vr a1, vr a2, vi p3, vi (fn8 zn us w1 w2 w3 G1 sf)] [(.ref a1), (.int 0), (.ref a1)])) rfl (by rw [hml]; rfl) (Steps.refl _) (argsL := []) (rest := [(.int 0), (.ref a1)]) (lenOf pd392 rfl) rfl (Nat.le_of_eq rfl) (hb hby d7_72) (fun _ _ => ⟨rfl, e2, (by decide : 0 + 0 ≤ _), (by decide : 0 + 0 ≤ _)⟩)
    dsimp only [Pt.U, Pt.locs, Pt.cells, Pt.slots] at X4 l4 y4 z4 st4 hQ4
    subst l4 y4 z4
    obtain ⟨rfl, N4q, e4⟩ := hQ4
    have N4 := Fr.app N2 N4q
    refine gb (mkF m 75 #[vr a0, vr a1, vr a2, vi p3, vi (fn8 zn us w1 w2 w3 G1 sf)] [(.int zn), (.int 0), (.ref a1)]) (fun _ k => st4.trans k) ?_
    refine gb (mkF m 80 #[vr a0, vr a1, vr a2, vi p3, vi (fn8 zn us w1 w2 w3 G1 sf)] [(.int zn), (.int 0), (.ref a1)]) (fun _ k => XS.goto X4.here hx rfl (pc0 := 75) (pc' := 80) rfl (hb hby d7_75) (by decide) (by decide) k) ?_
    refine gb (mkF m 81 #[vr a0, vr a1, vr a2, vi p3, vi (fn8 zn us w1 w2 w3 G1 sf)] [(.ref a2), (.int zn), (.int 0), (.ref a1)]) (fun _ k => XS.aloadN X4.here hx rfl (hb hby d7_80) rfl rfl k) ?_
    refine gb (mkF m 82 #[vr a0, vr a1, vr a2, vi p3, vi (fn8 zn us w1 w2 w3 G1 sf)] [(.int p3), (.ref a2), (.int zn), (.int 0), (.ref a1)]) (fun _ k => XS.iloadN X4.here hx rfl (hb hby d7_81) rfl k) ?_
    obtain ⟨_, _, ⟨T5, L5, k5, n5⟩, -, X5, ⟨Lc5, hQ5, l5, y5, z5⟩, st5⟩ := callS X4 hx (y := mq23) hown (mvT hZ (hW hw 92 rfl)) (mvT hZ (hW hw 93 rfl)) (mvT hZ (hW hw 32 rfl)) (mvT hZ (hW hw 94 rfl)) (by decide) (backOf (W := 0) (rm18 l Z a0' hw [] a1 (0 : Int32) zn a2 p3 b kb zn us bc kc zm cs w1 w2 w3 G1 sf h0 n0 O W pf2 pf3 pf4 pf5 pf6 pf7 pf8 pf9 hS) hZ (hW hw 94 rfl) (hW hw 32 rfl) (by decide) (by decide)) (g := (mkF m 82 #[vr a0, vr a1, vr a2, vi p3, vi (fn8 zn us w1 w2 w3 G1 sf)] [(.int p3), (.ref a2), (.int zn), (.int 0), (.ref a1)])) rfl (by rw [hml]; rfl) (argsL := [(.ref a1), (.int 0), (.int zn), (.ref a2), (.int p3)]) (rest := []) (lenOf pd467 rfl) rfl (Nat.le_of_eq rfl) (hb hby d7_82) (fun _ _ => ⟨rfl, e4, (by decide : 0 + 0 ≤ _), (by decide : 0 + 0 ≤ _)⟩)
    dsimp only [Pt.U, Pt.locs, Pt.cells, Pt.slots] at X5 l5 y5 z5 st5 hQ5
    subst l5 y5 z5
    obtain ⟨rfl, N5q, e5⟩ := hQ5
    have N5 := Fr.app N4 N5q
    refine gb (mkF m 85 #[vr a0, vr a1, vr a2, vi p3, vi (fn8 zn us w1 w2 w3 G1 sf)] [(.int (fn18 (0 : Int32) zn p3 us zm cs w1 w2 w3 G1 sf))]) st5 ?_
    refine gb (mkF m 111 #[vr a0, vr a1, vr a2, vi p3, vi (fn8 zn us w1 w2 w3 G1 sf)] [(.int (fn18 (0 : Int32) zn p3 us zm cs w1 w2 w3 G1 sf))]) (fun _ k => XS.goto X5.here hx rfl (pc0 := 85) (pc' := 111) rfl (hb hby d7_85) (by decide) (by decide) k) ?_
    exact Gl.outI X5 hx hk Bd.returns (hb hby d7_111) ⟨(congrArg (fun z => some (Value.int z)) (show (fn18 (0 : Int32) zn p3 us zm cs w1 w2 w3 G1 sf) = fn71 p3 zn us zm cs w1 w2 w3 G1 sf by unfold fn71; rw [if_pos hf3]; try rfl)), N5, e5⟩ (by decide) (by decide)
  · refine gb (mkF m 78 #[vr a0, vr a1, vr a2, vi p3, vi (fn8 zn us w1 w2 w3 G1 sf)] [(.int 0), (.ref a1)]) (fun _ k => XS.ifYes X2.here hx rfl (pc0 := 68) (pc' := 78) rfl (hb hby d7_68) rfl ((if0 _ _).trans (flt hf3).2.1) (by decide) (by decide) k) ?_
    refine gb (mkF m 80 #[vr a0, vr a1, vr a2, vi p3, vi (fn8 zn us w1 w2 w3 G1 sf)] [(.int (fn8 zn us w1 w2 w3 G1 sf)), (.int 0), (.ref a1)]) (fun _ k => XS.iload X2.here hx rfl (hb hby d7_78) rfl k) ?_
    refine gb (mkF m 81 #[vr a0, vr a1, vr a2, vi p3, vi (fn8 zn us w1 w2 w3 G1 sf)] [(.ref a2), (.int (fn8 zn us w1 w2 w3 G1 sf)), (.int 0), (.ref a1)]) (fun _ k => XS.aloadN X2.here hx rfl (hb hby d7_80) rfl rfl k) ?_
    refine gb (mkF m 82 #[vr a0, vr a1, vr a2, vi p3, vi (fn8 zn us w1 w2 w3 G1 sf)] [(.int p3), (.ref a2), (.int (fn8 zn us w1 w2 w3 G1 sf)), (.int 0), (.ref a1)]) (fun _ k => XS.iloadN X2.here hx rfl (hb hby d7_81) rfl k) ?_
    obtain ⟨_, _, ⟨T6, L6, k6, n6⟩, -, X6, ⟨Lc6, hQ6, l6, y6, z6⟩, st6⟩ := callS X2 hx (y := mq23) hown (mvT hZ (hW hw 92 rfl)) (mvT hZ (hW hw 93 rfl)) (mvT hZ (hW hw 32 rfl)) (mvT hZ (hW hw 94 rfl)) (by decide) (backOf (W := 0) (rm18 l Z a0' hw [] a1 (0 : Int32) (fn8 zn us w1 w2 w3 G1 sf) a2 p3 b kb zn us bc kc zm cs w1 w2 w3 G1 sf h0 n0 O W pf2 pf3 pf4 pf5 pf6 pf7 pf8 pf9 (hS.e d8 hf3)) hZ (hW hw 94 rfl) (hW hw 32 rfl) (by decide) (by decide)) (g := (mkF m 82 #[vr a0, vr a1, vr a2, vi p3, vi (fn8 zn us w1 w2 w3 G1 sf)] [(.int p3), (.ref a2), (.int (fn8 zn us w1 w2 w3 G1 sf)), (.int 0), (.ref a1)])) rfl (by rw [hml]; rfl) (argsL := [(.ref a1), (.int 0), (.int (fn8 zn us w1 w2 w3 G1 sf)), (.ref a2), (.int p3)]) (rest := []) (lenOf pd467 rfl) rfl (Nat.le_of_eq rfl) (hb hby d7_82) (fun _ _ => ⟨rfl, e2, (by decide : 0 + 0 ≤ _), (by decide : 0 + 0 ≤ _)⟩)
    dsimp only [Pt.U, Pt.locs, Pt.cells, Pt.slots] at X6 l6 y6 z6 st6 hQ6
    subst l6 y6 z6
    obtain ⟨rfl, N6q, e6⟩ := hQ6
    have N6 := Fr.app N2 N6q
    refine gb (mkF m 85 #[vr a0, vr a1, vr a2, vi p3, vi (fn8 zn us w1 w2 w3 G1 sf)] [(.int (fn18 (0 : Int32) (fn8 zn us w1 w2 w3 G1 sf) p3 us zm cs w1 w2 w3 G1 sf))]) st6 ?_
    refine gb (mkF m 111 #[vr a0, vr a1, vr a2, vi p3, vi (fn8 zn us w1 w2 w3 G1 sf)] [(.int (fn18 (0 : Int32) (fn8 zn us w1 w2 w3 G1 sf) p3 us zm cs w1 w2 w3 G1 sf))]) (fun _ k => XS.goto X6.here hx rfl (pc0 := 85) (pc' := 111) rfl (hb hby d7_85) (by decide) (by decide) k) ?_
    exact Gl.outI X6 hx hk Bd.returns (hb hby d7_111) ⟨(congrArg (fun z => some (Value.int z)) (show (fn18 (0 : Int32) (fn8 zn us w1 w2 w3 G1 sf) p3 us zm cs w1 w2 w3 G1 sf) = fn71 p3 zn us zm cs w1 w2 w3 G1 sf by unfold fn71; rw [if_neg hf3]; try rfl)), N6, e6⟩ (by decide) (by decide)
theorem d7_88 : decode prog_45_method_6_code 88 = .ok (.iload 4, 2) := by decide +kernel
theorem d7_90 : decode prog_45_method_6_code 90 = .ok (.ifCond .ge 7, 3) := by decide +kernel
theorem d7_93 : decode prog_45_method_6_code 93 = .ok (.iconst (-1), 1) := by decide +kernel
theorem d7_94 : decode prog_45_method_6_code 94 = .ok (.goto 17, 3) := by decide +kernel
theorem d7_97 : decode prog_45_method_6_code 97 = .ok (.aload_n 1, 1) := by decide +kernel
theorem d7_98 : decode prog_45_method_6_code 98 = .ok (.iload 4, 2) := by decide +kernel
theorem d7_100 : decode prog_45_method_6_code 100 = .ok (.iconst 1, 1) := by decide +kernel
theorem d7_101 : decode prog_45_method_6_code 101 = .ok (.iadd, 1) := by decide +kernel
theorem d7_102 : decode prog_45_method_6_code 102 = .ok (.aload_n 1, 1) := by decide +kernel
theorem d7_103 : decode prog_45_method_6_code 103 = .ok (.invokevirtual 59, 3) := by decide +kernel
theorem d7_106 : decode prog_45_method_6_code 106 = .ok (.aload_n 2, 1) := by decide +kernel
theorem d7_107 : decode prog_45_method_6_code 107 = .ok (.iload_n 3, 1) := by decide +kernel
theorem d7_108 : decode prog_45_method_6_code 108 = .ok (.invokestatic 62, 3) := by decide +kernel
theorem ef72 (m : MethodId) (x0 : Addr) (x1 : Addr) (x2 : Addr) (x3 : Int32) : entryFrame m #[(.ref x0), (.ref x1), (.ref x2), (.int x3)] 5 = mkF m 0 #[.val (.ref x0), .val (.ref x1), .val (.ref x2), .val (.int x3), .unset] [] := by first | (simp [entryFrame, mkF, argsToLocals, Value.category]; done) | rfl
def fn72 (p3 : Int32) (zn : Int32) (us : List Int32) (zm : Int32) (cs : List Int32) (w1 w2 w3 : Addr) (G1 : Int32) (sf : Value) : Int32 := if (fn8 zn us w1 w2 w3 G1 sf) < (0 : Int32) then (-1 : Int32) else (fn18 ((fn8 zn us w1 w2 w3 G1 sf) + (1 : Int32)) zn p3 us zm cs w1 w2 w3 G1 sf)
def Q72 (Z : State) (a0 : Addr) (a1 : Addr) (a2 : Addr) (p3 : Int32) (b : Addr) (kb : ClassId) (zn : Int32) (us : List Int32) (bc : Addr) (kc : ClassId) (zm : Int32) (cs : List Int32) (w1 w2 w3 : Addr) (G1 : Int32) (sf : Value) (h0 : Heap) (n0 : Nat) (v : Option Value) (h : Heap) (L : List Loc) : Prop := v = some (.int (fn72 p3 zn us zm cs w1 w2 w3 G1 sf)) ∧ Fr n0 L ∧ h = h0
theorem rm72 (l : Launch) (Z : State) (a0' : Array Value) (hw : ∀ d ∈ tables_1, d.before a0' Z = true) (ws : List Jvm.Cond) (a0 : Addr) (a1 : Addr) (a2 : Addr) (p3 : Int32) (b : Addr) (kb : ClassId) (zn : Int32) (us : List Int32) (bc : Addr) (kc : ClassId) (zm : Int32) (cs : List Int32) (w1 w2 w3 : Addr) (G1 : Int32) (sf : Value) (h0 : Heap) (n0 : Nat) (O : Old Z n0 h0) (W : Wd Z w1 w2 w3 G1 sf) (pf0 : Exa Z h0 a0 "com/example/gatewarden/gatewarden/core/UserKeyword") (pf1 : Fld Z h0 a0 "java/lang/Enum" "ordinal" "I" (.int 2)) (pf2 : Exa Z h0 a1 "java/lang/String") (pf3 : Fld Z h0 a1 "java/lang/String" "value" "[B" (.ref b)) (pf4 : Fld Z h0 a1 "java/lang/String" "coder" "B" (.int 0)) (pf5 : Arv Z h0 b kb .byte zn (us.map Value.int) (.int 0)) (pf6 : Exa Z h0 a2 "java/lang/String") (pf7 : Fld Z h0 a2 "java/lang/String" "value" "[B" (.ref bc)) (pf8 : Fld Z h0 a2 "java/lang/String" "coder" "B" (.int 0)) (pf9 : Arv Z h0 bc kc .byte zm (cs.map Value.int) (.int 0)) (hS : Rg (0 : Int32) zn zn p3 zm) :
    MetFree l mq25 (head1 (Jvm.Cond.code mq25 prog_45_method_6_code 5 (some .int) :: ws) ({ frames := 5, cells := 0, slots := 0, locals := 72 } : Room)) (fun a U => a = #[(.ref a0), (.ref a1), (.ref a2), (.int p3)] ∧ Z.Warmed39 U.vm ∧ U.heap = h0) (fun _ _ _ _ _ => True) (fun _ U o U' => ∃ v L, o = .returned v ∧ Q72 Z a0 a1 a2 p3 b kb zn us bc kc zm cs w1 w2 w3 G1 sf h0 n0 v U'.heap L ∧ FrameEnd U o U' L ({ frames := 5, cells := 0, slots := 0, locals := 72 } : Room).cells ({ frames := 5, cells := 0, slots := 0, locals := 72 } : Room).slots) := by
  refine MetFree.of_bodySF (plainFor_of_name pn5) hisR ?_
  intro p e s m args below meth c s₁ Bd hml0 hP hK
  obtain ⟨rfl, hZ, hh⟩ := hP
  have hx := Bd.exec
  have hby := Bd.bytes
  have hml : c.maxLocals = 5 := hml0
  have hown : s.vm.findClass "com/example/gatewarden/gatewarden/core/UserKeyword" = some m.cls := findClass_of_methodNamed Bd.named
  have hnm := (name_of_methodNamed Bd.named Bd.method).1
  have hk := Bd.notSynchronized
  have X0 : Stand p l e ({ frames := 5, cells := 0, slots := 0, locals := 72 } : Room) s m #[(.ref a0), (.ref a1), (.ref a2), (.int p3)] below meth c s₁ [] 0 0 := Stand.of_body Bd
  have hh2 := hh
  have e0 : s₁.heap = h0 := by rw [← hh, Bd.state]; rfl
  have N0 := Fr.nil n0
  show Gl p e below (Pos 0 0 (Q72 Z a0 a1 a2 p3 b kb zn us bc kc zm cs w1 w2 w3 G1 sf h0 n0) s) s₁ _
  refine Gl.cast (ef72 m a0 a1 a2 p3) ?_
  refine gb (mkF m 1 #[vr a0, vr a1, vr a2, vi p3, .unset] [(.ref a1)]) (fun _ k => XS.aloadN X0.here hx rfl (hb hby d7_0) rfl rfl k) ?_
  refine gb (mkF m 3 #[vr a0, vr a1, vr a2, vi p3, .unset] [(.int 64), (.ref a1)]) (fun _ k => XS.bipush X0.here hx rfl (hb hby d7_1) k) ?_
  obtain ⟨cq1, kq1, q1a, q1b, q1c⟩ := isOf hZ e0 pf2
  obtain ⟨_, _, ⟨T1, L1, k1, n1⟩, -, X1, ⟨Lc1, hQ1, l1, y1, z1⟩, st1⟩ := X0.virtualBack hx (y := mq22) (z := mq22) hown (mvT hZ (hW hw 42 rfl)) (mvT hZ (hW hw 43 rfl)) (notFace_of_selects (args := #[]) (mvT hZ (hW hw 45 rfl))) (mvT hZ (hW hw 45 rfl)) (mvT hZ (hW hw 44 rfl)) (by decide) (backOf (W := 0) (rm8 l Z a0' hw [] a1 b kb zn us w1 w2 w3 G1 sf h0 n0 O W pf2 pf3 pf4 pf5 hS.z) hZ (hW hw 46 rfl) (hW hw 12 rfl) (by decide) (by decide)) q1a q1c (g := (mkF m 3 #[vr a0, vr a1, vr a2, vi p3, .unset] [(.int 64), (.ref a1)])) rfl (by rw [hml]; rfl) (Steps.refl _) (argsL := [(.int 64)]) (rest := []) (lenOf pd466 rfl) rfl (Nat.le_of_eq rfl) (hb hby d7_3) (fun _ _ => ⟨rfl, e0, (by decide : 0 + 0 ≤ _), (by decide : 0 + 0 ≤ _)⟩)
  dsimp only [Pt.U, Pt.locs, Pt.cells, Pt.slots] at X1 l1 y1 z1 st1 hQ1
  subst l1 y1 z1
  obtain ⟨rfl, N1q, e1⟩ := hQ1
  have N1 := Fr.app N0 N1q
  refine gb (mkF m 6 #[vr a0, vr a1, vr a2, vi p3, .unset] [(.int (fn8 zn us w1 w2 w3 G1 sf))]) (fun _ k => st1.trans k) ?_
  refine gb (mkF m 8 #[vr a0, vr a1, vr a2, vi p3, vi (fn8 zn us w1 w2 w3 G1 sf)] []) (fun _ k => XS.istore X1.here hx rfl (hb hby d7_6) rfl (l' := #[vr a0, vr a1, vr a2, vi p3, vi (fn8 zn us w1 w2 w3 G1 sf)]) rfl k) ?_
  refine gb (mkF m 9 #[vr a0, vr a1, vr a2, vi p3, vi (fn8 zn us w1 w2 w3 G1 sf)] [(.ref a0)]) (fun _ k => XS.aloadN X1.here hx rfl (hb hby d7_8) rfl rfl k) ?_
  obtain ⟨cq2, kq2, q2a, q2b, q2c⟩ := isOf hZ e1 pf0
  obtain ⟨_, _, ⟨T2, L2, k2, n2⟩, -, X2, ⟨Lc2, hQ2, l2, y2, z2⟩, st2⟩ := X1.virtualBackUp hx (x := mq26) (y := mq24) (owner := "java/lang/Enum") hown (mvT hZ (hW hw 82 rfl)) (mvT hZ (hW hw 83 rfl)) (mvT hZ (hW hw 84 rfl)) (by decide) (mvT hZ (hW hw 86 rfl)) (mvT hZ (hW hw 85 rfl)) (backOf (W := 0) (rm17 l Z a0' hw [] a0 (2 : Int32) w1 w2 w3 G1 sf h0 n0 O W pf0 pf1) hZ (hW hw 88 rfl) (hW hw 87 rfl) (by decide) (by decide)) q2a q2c (g := (mkF m 9 #[vr a0, vr a1, vr a2, vi p3, vi (fn8 zn us w1 w2 w3 G1 sf)] [(.ref a0)])) rfl (by rw [hml]; rfl) (Steps.refl _) (argsL := []) (rest := []) (lenOf pd392 rfl) rfl (Nat.le_of_eq rfl) (hb hby d7_9) (fun _ _ => ⟨rfl, e1, (by decide : 0 + 0 ≤ _), (by decide : 0 + 0 ≤ _)⟩)
  dsimp only [Pt.U, Pt.locs, Pt.cells, Pt.slots] at X2 l2 y2 z2 st2 hQ2
  subst l2 y2 z2
  obtain ⟨rfl, N2q, e2⟩ := hQ2
  have N2 := Fr.app N1 N2q
  refine gb (mkF m 12 #[vr a0, vr a1, vr a2, vi p3, vi (fn8 zn us w1 w2 w3 G1 sf)] [(.int 2)]) (fun _ k => st2.trans k) ?_
  refine gb (mkF m 88 #[vr a0, vr a1, vr a2, vi p3, vi (fn8 zn us w1 w2 w3 G1 sf)] []) (fun _ k => XS.tswIn (o := 76) (pc0 := 12) X2.here hx rfl rfl (hb hby d7_12) rfl (by decide) rfl (by decide) rfl k) ?_
  refine gb (mkF m 90 #[vr a0, vr a1, vr a2, vi p3, vi (fn8 zn us w1 w2 w3 G1 sf)] [(.int (fn8 zn us w1 w2 w3 G1 sf))]) (fun _ k => XS.iload X2.here hx rfl (hb hby d7_88) rfl k) ?_
  by_cases hf3 : (fn8 zn us w1 w2 w3 G1 sf) < (0 : Int32)
  · refine gb (mkF m 93 #[vr a0, vr a1, vr a2, vi p3, vi (fn8 zn us w1 w2 w3 G1 sf)] []) (fun _ k => XS.ifNo X2.here hx rfl (hb hby d7_90) rfl ((if0 _ _).trans (tlt hf3).2.1) k) ?_
    refine gb (mkF m 94 #[vr a0, vr a1, vr a2, vi p3, vi (fn8 zn us w1 w2 w3 G1 sf)] [(.int (-1 : Int32))]) (fun _ k => XS.iconst X2.here hx rfl (hb hby d7_93) k) ?_
    refine gb (mkF m 111 #[vr a0, vr a1, vr a2, vi p3, vi (fn8 zn us w1 w2 w3 G1 sf)] [(.int (-1 : Int32))]) (fun _ k => XS.goto X2.here hx rfl (pc0 := 94) (pc' := 111) rfl (hb hby d7_94) (by decide) (by decide) k) ?_
    exact Gl.outI X2 hx hk Bd.returns (hb hby d7_111) ⟨(congrArg (fun z => some (Value.int z)) (show (-1 : Int32) = fn72 p3 zn us zm cs w1 w2 w3 G1 sf by unfold fn72; rw [if_pos hf3]; try rfl)), N2, e2⟩ (by decide) (by decide)
  · refine gb (mkF m 97 #[vr a0, vr a1, vr a2, vi p3, vi (fn8 zn us w1 w2 w3 G1 sf)] []) (fun _ k => XS.ifYes X2.here hx rfl (pc0 := 90) (pc' := 97) rfl (hb hby d7_90) rfl ((if0 _ _).trans (flt hf3).2.1) (by decide) (by decide) k) ?_
    refine gb (mkF m 98 #[vr a0, vr a1, vr a2, vi p3, vi (fn8 zn us w1 w2 w3 G1 sf)] [(.ref a1)]) (fun _ k => XS.aloadN X2.here hx rfl (hb hby d7_97) rfl rfl k) ?_
    refine gb (mkF m 100 #[vr a0, vr a1, vr a2, vi p3, vi (fn8 zn us w1 w2 w3 G1 sf)] [(.int (fn8 zn us w1 w2 w3 G1 sf)), (.ref a1)]) (fun _ k => XS.iload X2.here hx rfl (hb hby d7_98) rfl k) ?_
    refine gb (mkF m 101 #[vr a0, vr a1, vr a2, vi p3, vi (fn8 zn us w1 w2 w3 G1 sf)] [(.int 1), (.int (fn8 zn us w1 w2 w3 G1 sf)), (.ref a1)]) (fun _ k => XS.iconst X2.here hx rfl (hb hby d7_100) k) ?_
    refine gb (mkF m 102 #[vr a0, vr a1, vr a2, vi p3, vi (fn8 zn us w1 w2 w3 G1 sf)] [(.int ((fn8 zn us w1 w2 w3 G1 sf) + (1 : Int32))), (.ref a1)]) (fun _ k => XS.iadd X2.here hx rfl (hb hby d7_101) rfl k) ?_
    refine gb (mkF m 103 #[vr a0, vr a1, vr a2, vi p3, vi (fn8 zn us w1 w2 w3 G1 sf)] [(.ref a1), (.int ((fn8 zn us w1 w2 w3 G1 sf) + (1 : Int32))), (.ref a1)]) (fun _ k => XS.aloadN X2.here hx rfl (hb hby d7_102) rfl rfl k) ?_
    obtain ⟨cq4, kq4, q4a, q4b, q4c⟩ := isOf hZ e2 pf2
    obtain ⟨_, _, ⟨T4, L4, k4, n4⟩, -, X4, ⟨Lc4, hQ4, l4, y4, z4⟩, st4⟩ := X2.virtualBack hx (y := mq5) (z := mq5) hown (mvT hZ (hW hw 91 rfl)) (mvT hZ (hW hw 59 rfl)) (notFace_of_selects (args := #[]) (mvT hZ (hW hw 61 rfl))) (mvT hZ (hW hw 61 rfl)) (mvT hZ (hW hw 60 rfl)) (by decide) (backOf (W := 2) (rm11 l Z a0' hw [] a1 b kb (us.map Value.int) zn w1 w2 w3 G1 sf h0 n0 O W pf2 pf3 pf4 pf5) hZ (hW hw 62 rfl) (hW hw 12 rfl) (by decide) (by decide)) q4a q4c (g := (mkF m 103 #[vr a0, vr a1, vr a2, vi p3, vi (fn8 zn us w1 w2 w3 G1 sf)] [(.ref a1), (.int ((fn8 zn us w1 w2 w3 G1 sf) + (1 : Int32))), (.ref a1)])) rfl (by rw [hml]; rfl) (Steps.refl _) (argsL := []) (rest := [(.int ((fn8 zn us w1 w2 w3 G1 sf) + (1 : Int32))), (.ref a1)]) (lenOf pd392 rfl) rfl (Nat.le_of_eq rfl) (hb hby d7_103) (fun _ _ => ⟨rfl, e2, (by decide : 0 + 0 ≤ _), (by decide : 0 + 0 ≤ _)⟩)
    dsimp only [Pt.U, Pt.locs, Pt.cells, Pt.slots] at X4 l4 y4 z4 st4 hQ4
    subst l4 y4 z4
    obtain ⟨rfl, N4q, e4⟩ := hQ4
    have N4 := Fr.app N2 N4q
    refine gb (mkF m 106 #[vr a0, vr a1, vr a2, vi p3, vi (fn8 zn us w1 w2 w3 G1 sf)] [(.int zn), (.int ((fn8 zn us w1 w2 w3 G1 sf) + (1 : Int32))), (.ref a1)]) (fun _ k => st4.trans k) ?_
    refine gb (mkF m 107 #[vr a0, vr a1, vr a2, vi p3, vi (fn8 zn us w1 w2 w3 G1 sf)] [(.ref a2), (.int zn), (.int ((fn8 zn us w1 w2 w3 G1 sf) + (1 : Int32))), (.ref a1)]) (fun _ k => XS.aloadN X4.here hx rfl (hb hby d7_106) rfl rfl k) ?_
    refine gb (mkF m 108 #[vr a0, vr a1, vr a2, vi p3, vi (fn8 zn us w1 w2 w3 G1 sf)] [(.int p3), (.ref a2), (.int zn), (.int ((fn8 zn us w1 w2 w3 G1 sf) + (1 : Int32))), (.ref a1)]) (fun _ k => XS.iloadN X4.here hx rfl (hb hby d7_107) rfl k) ?_
    obtain ⟨_, _, ⟨T5, L5, k5, n5⟩, -, X5, ⟨Lc5, hQ5, l5, y5, z5⟩, st5⟩ := callS X4 hx (y := mq23) hown (mvT hZ (hW hw 92 rfl)) (mvT hZ (hW hw 93 rfl)) (mvT hZ (hW hw 32 rfl)) (mvT hZ (hW hw 94 rfl)) (by decide) (backOf (W := 0) (rm18 l Z a0' hw [] a1 ((fn8 zn us w1 w2 w3 G1 sf) + (1 : Int32)) zn a2 p3 b kb zn us bc kc zm cs w1 w2 w3 G1 sf h0 n0 O W pf2 pf3 pf4 pf5 pf6 pf7 pf8 pf9 (hS.b d8 hf3)) hZ (hW hw 94 rfl) (hW hw 32 rfl) (by decide) (by decide)) (g := (mkF m 108 #[vr a0, vr a1, vr a2, vi p3, vi (fn8 zn us w1 w2 w3 G1 sf)] [(.int p3), (.ref a2), (.int zn), (.int ((fn8 zn us w1 w2 w3 G1 sf) + (1 : Int32))), (.ref a1)])) rfl (by rw [hml]; rfl) (argsL := [(.ref a1), (.int ((fn8 zn us w1 w2 w3 G1 sf) + (1 : Int32))), (.int zn), (.ref a2), (.int p3)]) (rest := []) (lenOf pd467 rfl) rfl (Nat.le_of_eq rfl) (hb hby d7_108) (fun _ _ => ⟨rfl, e4, (by decide : 0 + 0 ≤ _), (by decide : 0 + 0 ≤ _)⟩)
    dsimp only [Pt.U, Pt.locs, Pt.cells, Pt.slots] at X5 l5 y5 z5 st5 hQ5
    subst l5 y5 z5
    obtain ⟨rfl, N5q, e5⟩ := hQ5
    have N5 := Fr.app N4 N5q
    refine gb (mkF m 111 #[vr a0, vr a1, vr a2, vi p3, vi (fn8 zn us w1 w2 w3 G1 sf)] [(.int (fn18 ((fn8 zn us w1 w2 w3 G1 sf) + (1 : Int32)) zn p3 us zm cs w1 w2 w3 G1 sf))]) st5 ?_
    exact Gl.outI X5 hx hk Bd.returns (hb hby d7_111) ⟨(congrArg (fun z => some (Value.int z)) (show (fn18 ((fn8 zn us w1 w2 w3 G1 sf) + (1 : Int32)) zn p3 us zm cs w1 w2 w3 G1 sf) = fn72 p3 zn us zm cs w1 w2 w3 G1 sf by unfold fn72; rw [if_neg hf3]; try rfl)), N5, e5⟩ (by decide) (by decide)
abbrev kT (p0 : Int32) : Int32 := ((p0 &&& (255 : Int32)) % (3 : Int32))
abbrev uT (p0 : Int32) : Int32 := (((p0.toUInt32 >>> ((8 : Int32) &&& 31).toUInt32).toInt32) &&& (3 : Int32))
abbrev cT (p0 : Int32) : Int32 := ((((p0.toUInt32 >>> ((10 : Int32) &&& 31).toUInt32).toInt32) &&& (7 : Int32)) % (5 : Int32))
abbrev aT (p0 : Int32) : Int32 := ((((p0.toUInt32 >>> ((13 : Int32) &&& 31).toUInt32).toInt32) &&& (7 : Int32)) % ((cT p0) + (1 : Int32)))
theorem kR (p0 : Int32) : 0 ≤ (kT p0).toInt ∧ (kT p0).toInt ≤ 2 := by
  have hm := c_mask p0 255 8 (by decide) (by decide)
  have hr := c_irem (p0 &&& 255) 3 3 (by decide)
  unfold kT; omega
theorem uR (p0 : Int32) : 0 ≤ (uT p0).toInt ∧ (uT p0).toInt ≤ 3 := by
  have hm := c_mask ((p0.toUInt32 >>> ((8 : Int32) &&& 31).toUInt32).toInt32) 3 2 (by decide) (by decide)
  unfold uT; omega
theorem cR (p0 : Int32) : 0 ≤ (cT p0).toInt ∧ (cT p0).toInt ≤ 4 := by
  have hm := c_mask ((p0.toUInt32 >>> ((10 : Int32) &&& 31).toUInt32).toInt32) 7 3 (by decide) (by decide)
  have hr := c_irem (((p0.toUInt32 >>> ((10 : Int32) &&& 31).toUInt32).toInt32) &&& 7) 5 5 (by decide)
  unfold cT; omega
theorem c1 (p0 : Int32) : ((cT p0) + (1 : Int32)).toInt = (cT p0).toInt + 1 := by
  have a := c_iadd (cT p0) 1
  have r := rng32 ((cT p0) + 1)
  have q : (1 : Int32).toInt = 1 := by decide
  have h := cR p0
  rw [q] at a
  omega
theorem cz (p0 : Int32) : ((cT p0) + (1 : Int32)) ≠ 0 := fun q => by
  have a := c1 p0
  have h := cR p0
  rw [q] at a
  have z : (0 : Int32).toInt = 0 := by decide
  omega
theorem aR (p0 : Int32) : 0 ≤ (aT p0).toInt ∧ (aT p0).toInt ≤ (cT p0).toInt := by
  have hm := c_mask ((p0.toUInt32 >>> ((13 : Int32) &&& 31).toUInt32).toInt32) 7 3 (by decide) (by decide)
  have a := c1 p0
  have h := cR p0
  have hr := c_irem (((p0.toUInt32 >>> ((13 : Int32) &&& 31).toUInt32).toInt32) &&& 7) ((cT p0) + 1) ((cT p0).toInt + 1) a
  unfold aT
  generalize (((p0.toUInt32 >>> ((13 : Int32) &&& 31).toUInt32).toInt32) &&& (7 : Int32)) = y at *
  have b := hr.1 (by omega)
  have e1 := Int.emod_nonneg y.toInt (show (cT p0).toInt + 1 ≠ 0 by omega)
  have e2 := Int.emod_lt_of_pos y.toInt (show 0 < (cT p0).toInt + 1 by omega)
  omega
theorem rg0 (p0 : Int32) : Rg (0 : Int32) (uT p0) (uT p0) (aT p0) (cT p0) := by
  have a := uR p0
  have b := cR p0
  have c := aR p0
  have q : (0 : Int32).toInt = 0 := by decide
  refine ⟨⟨?_, ?_, ?_, ?_⟩, ?_, ?_, ?_⟩ <;> omega
theorem eqof {x k : Int32} (h : x.toInt = k.toInt) : x = k := Int32.toInt_inj.mp h
theorem uT4 (p0 : Int32) : uT p0 = (0 : Int32) ∨ uT p0 = (1 : Int32) ∨ uT p0 = (2 : Int32) ∨ uT p0 = (3 : Int32) := by
  have a := uR p0
  generalize uT p0 = x at *
  have q : x.toInt = 0 ∨ x.toInt = 1 ∨ x.toInt = 2 ∨ x.toInt = 3 := by omega
  rcases q with q | q | q | q
  · exact Or.inl (eqof q)
  · exact Or.inr (Or.inl (eqof q))
  · exact Or.inr (Or.inr (Or.inl (eqof q)))
  · exact Or.inr (Or.inr (Or.inr (eqof q)))
theorem cT5 (p0 : Int32) : cT p0 = (0 : Int32) ∨ cT p0 = (1 : Int32) ∨ cT p0 = (2 : Int32) ∨ cT p0 = (3 : Int32) ∨ cT p0 = (4 : Int32) := by
  have a := cR p0
  generalize cT p0 = x at *
  have q : x.toInt = 0 ∨ x.toInt = 1 ∨ x.toInt = 2 ∨ x.toInt = 3 ∨ x.toInt = 4 := by omega
  rcases q with q | q | q | q | q
  · exact Or.inl (eqof q)
  · exact Or.inr (Or.inl (eqof q))
  · exact Or.inr (Or.inr (Or.inl (eqof q)))
  · exact Or.inr (Or.inr (Or.inr (Or.inl (eqof q))))
  · exact Or.inr (Or.inr (Or.inr (Or.inr (eqof q))))
theorem k2 {p0 : Int32} (h0 : ¬ kT p0 = (0 : Int32)) (h1 : ¬ kT p0 = (1 : Int32)) : kT p0 = (2 : Int32) := by
  have a := kR p0
  generalize kT p0 = x at *
  have z0 : (0 : Int32).toInt = 0 := by decide
  have z1 : (1 : Int32).toInt = 1 := by decide
  have z2 : (2 : Int32).toInt = 2 := by decide
  rw [← Int32.toInt_inj] at h0 h1 ⊢
  omega
theorem hmm {b e z t m i : Int32} (h : Rg b e z t m) (hn : ¬ (m - t) < (e - b)) (h0 : 0 ≤ i.toInt) (h2 : i.toInt ≤ 2) : i < (e - b) → (¬ (t + i) < 0 ∧ (t + i) < 4) ∧ (¬ (b + i) < 0 ∧ (b + i) < 3) := fun hl => by
  have q : (0 : Int32).toInt = 0 := by decide
  have q3 : (3 : Int32).toInt = 3 := by decide
  have q4 : (4 : Int32).toInt = 4 := by decide
  have a1 := c_iadd t i
  have a2 := c_iadd b i
  have a3 := c_isub m t
  have a4 := c_isub e b
  have r1 := rng32 (t + i)
  have r2 := rng32 (b + i)
  have r3 := rng32 (m - t)
  have r4 := rng32 (e - b)
  obtain ⟨⟨g1, g2, g3, g4⟩, g5, g6, g7⟩ := h
  rw [Int32.lt_iff_toInt_lt] at hl hn
  rw [Int32.lt_iff_toInt_lt, Int32.lt_iff_toInt_lt, Int32.lt_iff_toInt_lt, Int32.lt_iff_toInt_lt, q, q3, q4]
  omega
theorem nar_fn1 (q0 : Int64) (w1 w2 w3 : Addr) (G1 : Int32) (sf : Value) : nar .char (fn1 q0 w1 w2 w3 G1 sf) = fn1 q0 w1 w2 w3 G1 sf := by
  unfold fn1; repeat' split
  all_goals first | exact nar_nar _ | rfl | decide
theorem l255 (q : Int64) : ¬ (255 : Int32) < nar .char (((q &&& (255 : Int64)).toInt32).toUInt32.toUInt16.toUInt32.toInt32) := by
  have h := c_maskL q 255 8 (by decide) (by decide)
  have c := c_l2i (q &&& 255)
  have r := rng32 (q &&& 255).toInt32
  have e : (q &&& 255).toInt32 &&& 255 = (q &&& 255).toInt32 := by
    apply Int32.toInt_inj.mp
    rw [c_mask _ 255 8 (by decide) (by decide)]
    omega
  rw [← e, i2c_mask]
  have f := i2c_mask (q &&& 255).toInt32
  show ¬ (255 : Int32) < (((q &&& 255).toInt32 &&& 255).toUInt32.toUInt16.toUInt32.toInt32)
  rw [f]
  have m := c_mask (q &&& 255).toInt32 255 8 (by decide) (by decide)
  have z : (255 : Int32).toInt = 255 := by decide
  rw [Int32.lt_iff_toInt_lt, z]
  omega
theorem dr1 (q0 : Int64) (w1 w2 w3 : Addr) (G1 : Int32) (sf : Value) : ¬ (255 : Int32) < fn1 q0 w1 w2 w3 G1 sf := by
  unfold fn1; repeat' split
  all_goals first | decide | exact l255 _
theorem dr_le {w1 : Addr} {w2 : Addr} {w3 : Addr} {G1 : Int32} {sf : Value} (q0 : Int64) : ¬ (255 : Int32) < nar .char (fn1 q0 w1 w2 w3 G1 sf) := by
  rw [nar_fn1]; exact dr1 _ _ _ _ _ _
theorem pd493 : parseMethodDescriptor "(J)C" = some ⟨[.long], some .char⟩ := by decide +kernel
theorem pd494 : parseMethodDescriptor "([CI)Ljava/lang/String;" = some ⟨[(.array .char), .int], some (.object "java/lang/String")⟩ := by decide +kernel
theorem pd495 : parseMethodDescriptor "([CI[CIII)Z" = some ⟨[(.array .char), .int, (.array .char), .int, .int, .int], some .boolean⟩ := by decide +kernel
theorem pd496 : parseMethodDescriptor "(Ljava/lang/String;Ljava/lang/String;I)I" = some ⟨[(.object "java/lang/String"), (.object "java/lang/String"), .int], some .int⟩ := by decide +kernel
theorem ef0 (m : MethodId) (x0 : Int32) (x1 : Int64) (x2 : Int64) : entryFrame m #[(.int x0), (.long x1), (.long x2)] maxLocals = mkF m 0 #[.val (.int x0), .val (.long x1), .second, .val (.long x2), .second, .unset, .unset, .unset, .unset, .unset, .unset, .unset, .unset, .unset, .unset, .unset, .unset, .unset, .unset] [] := by first | (simp [entryFrame, mkF, argsToLocals, Value.category, maxLocals]; done) | rfl
def fj0_0 (p0 : Int32) (q1 : Int64) (w1 w2 w3 : Addr) (G1 : Int32) (sf : Value) : Int32 := if (0 : Int32) < (uT p0) then if (nar .char (fn1 q1 w1 w2 w3 G1 sf)) = (64 : Int32) then (0 : Int32) else if (1 : Int32) < (uT p0) then if (nar .char (fn1 (sR q1 (11 : Int32)) w1 w2 w3 G1 sf)) = (64 : Int32) then (1 : Int32) else if (2 : Int32) < (uT p0) then if (nar .char (fn1 (sR q1 (22 : Int32)) w1 w2 w3 G1 sf)) = (64 : Int32) then (2 : Int32) else (-1 : Int32) else (-1 : Int32) else if (2 : Int32) < (uT p0) then if (nar .char (fn1 (sR q1 (22 : Int32)) w1 w2 w3 G1 sf)) = (64 : Int32) then (2 : Int32) else (-1 : Int32) else (-1 : Int32) else if (1 : Int32) < (uT p0) then if (nar .char (fn1 (sR q1 (11 : Int32)) w1 w2 w3 G1 sf)) = (64 : Int32) then (1 : Int32) else if (2 : Int32) < (uT p0) then if (nar .char (fn1 (sR q1 (22 : Int32)) w1 w2 w3 G1 sf)) = (64 : Int32) then (2 : Int32) else (-1 : Int32) else (-1 : Int32) else if (2 : Int32) < (uT p0) then if (nar .char (fn1 (sR q1 (22 : Int32)) w1 w2 w3 G1 sf)) = (64 : Int32) then (2 : Int32) else (-1 : Int32) else (-1 : Int32)
def fj0_1 (p0 : Int32) (q1 : Int64) (q2 : Int64) (w1 w2 w3 : Addr) (G1 : Int32) (sf : Value) : Int32 := if ((cT p0) - (aT p0)) < ((uT p0) - (0 : Int32)) then (-1 : Int32) else if (fn60 (0 : Int32) (aT p0) ((uT p0) - (0 : Int32)) (nar .char (fn1 q1 w1 w2 w3 G1 sf)) (nar .char (fn1 (sR q1 (11 : Int32)) w1 w2 w3 G1 sf)) (nar .char (fn1 (sR q1 (22 : Int32)) w1 w2 w3 G1 sf)) (nar .char (fn1 q2 w1 w2 w3 G1 sf)) (nar .char (fn1 (sR q2 (11 : Int32)) w1 w2 w3 G1 sf)) (nar .char (fn1 (sR q2 (22 : Int32)) w1 w2 w3 G1 sf)) (nar .char (fn1 (sR q2 (33 : Int32)) w1 w2 w3 G1 sf)) w1 w2 w3 G1 sf) = (0 : Int32) then (-1 : Int32) else if (fn61 (0 : Int32) (aT p0) ((uT p0) - (0 : Int32)) (nar .char (fn1 q1 w1 w2 w3 G1 sf)) (nar .char (fn1 (sR q1 (11 : Int32)) w1 w2 w3 G1 sf)) (nar .char (fn1 (sR q1 (22 : Int32)) w1 w2 w3 G1 sf)) (nar .char (fn1 q2 w1 w2 w3 G1 sf)) (nar .char (fn1 (sR q2 (11 : Int32)) w1 w2 w3 G1 sf)) (nar .char (fn1 (sR q2 (22 : Int32)) w1 w2 w3 G1 sf)) (nar .char (fn1 (sR q2 (33 : Int32)) w1 w2 w3 G1 sf)) w1 w2 w3 G1 sf) = (0 : Int32) then (-1 : Int32) else if (fn62 (0 : Int32) (aT p0) ((uT p0) - (0 : Int32)) (nar .char (fn1 q1 w1 w2 w3 G1 sf)) (nar .char (fn1 (sR q1 (11 : Int32)) w1 w2 w3 G1 sf)) (nar .char (fn1 (sR q1 (22 : Int32)) w1 w2 w3 G1 sf)) (nar .char (fn1 q2 w1 w2 w3 G1 sf)) (nar .char (fn1 (sR q2 (11 : Int32)) w1 w2 w3 G1 sf)) (nar .char (fn1 (sR q2 (22 : Int32)) w1 w2 w3 G1 sf)) (nar .char (fn1 (sR q2 (33 : Int32)) w1 w2 w3 G1 sf)) w1 w2 w3 G1 sf) = (0 : Int32) then (-1 : Int32) else ((aT p0) + ((uT p0) - (0 : Int32)))
def fj0_2 (p0 : Int32) (q1 : Int64) (q2 : Int64) (w1 w2 w3 : Addr) (G1 : Int32) (sf : Value) : Int32 := if (fn70 (aT p0) (uT p0) (stk (uT p0) [(nar .char (fn1 q1 w1 w2 w3 G1 sf)), (nar .char (fn1 (sR q1 (11 : Int32)) w1 w2 w3 G1 sf)), (nar .char (fn1 (sR q1 (22 : Int32)) w1 w2 w3 G1 sf))]) (cT p0) (stk (cT p0) [(nar .char (fn1 q2 w1 w2 w3 G1 sf)), (nar .char (fn1 (sR q2 (11 : Int32)) w1 w2 w3 G1 sf)), (nar .char (fn1 (sR q2 (22 : Int32)) w1 w2 w3 G1 sf)), (nar .char (fn1 (sR q2 (33 : Int32)) w1 w2 w3 G1 sf))]) w1 w2 w3 G1 sf) = (fj0_1 p0 q1 q2 w1 w2 w3 G1 sf) then (1 : Int32) else (0 : Int32)
def fj0_3 (p0 : Int32) (q1 : Int64) (w1 w2 w3 : Addr) (G1 : Int32) (sf : Value) : Int32 := if (fj0_0 p0 q1 w1 w2 w3 G1 sf) < (0 : Int32) then (uT p0) else (fj0_0 p0 q1 w1 w2 w3 G1 sf)
def fj0_4 (p0 : Int32) (q1 : Int64) (q2 : Int64) (w1 w2 w3 : Addr) (G1 : Int32) (sf : Value) : Int32 := if ((cT p0) - (aT p0)) < ((fj0_3 p0 q1 w1 w2 w3 G1 sf) - (0 : Int32)) then (-1 : Int32) else if (fn60 (0 : Int32) (aT p0) ((fj0_3 p0 q1 w1 w2 w3 G1 sf) - (0 : Int32)) (nar .char (fn1 q1 w1 w2 w3 G1 sf)) (nar .char (fn1 (sR q1 (11 : Int32)) w1 w2 w3 G1 sf)) (nar .char (fn1 (sR q1 (22 : Int32)) w1 w2 w3 G1 sf)) (nar .char (fn1 q2 w1 w2 w3 G1 sf)) (nar .char (fn1 (sR q2 (11 : Int32)) w1 w2 w3 G1 sf)) (nar .char (fn1 (sR q2 (22 : Int32)) w1 w2 w3 G1 sf)) (nar .char (fn1 (sR q2 (33 : Int32)) w1 w2 w3 G1 sf)) w1 w2 w3 G1 sf) = (0 : Int32) then (-1 : Int32) else if (fn61 (0 : Int32) (aT p0) ((fj0_3 p0 q1 w1 w2 w3 G1 sf) - (0 : Int32)) (nar .char (fn1 q1 w1 w2 w3 G1 sf)) (nar .char (fn1 (sR q1 (11 : Int32)) w1 w2 w3 G1 sf)) (nar .char (fn1 (sR q1 (22 : Int32)) w1 w2 w3 G1 sf)) (nar .char (fn1 q2 w1 w2 w3 G1 sf)) (nar .char (fn1 (sR q2 (11 : Int32)) w1 w2 w3 G1 sf)) (nar .char (fn1 (sR q2 (22 : Int32)) w1 w2 w3 G1 sf)) (nar .char (fn1 (sR q2 (33 : Int32)) w1 w2 w3 G1 sf)) w1 w2 w3 G1 sf) = (0 : Int32) then (-1 : Int32) else if (fn62 (0 : Int32) (aT p0) ((fj0_3 p0 q1 w1 w2 w3 G1 sf) - (0 : Int32)) (nar .char (fn1 q1 w1 w2 w3 G1 sf)) (nar .char (fn1 (sR q1 (11 : Int32)) w1 w2 w3 G1 sf)) (nar .char (fn1 (sR q1 (22 : Int32)) w1 w2 w3 G1 sf)) (nar .char (fn1 q2 w1 w2 w3 G1 sf)) (nar .char (fn1 (sR q2 (11 : Int32)) w1 w2 w3 G1 sf)) (nar .char (fn1 (sR q2 (22 : Int32)) w1 w2 w3 G1 sf)) (nar .char (fn1 (sR q2 (33 : Int32)) w1 w2 w3 G1 sf)) w1 w2 w3 G1 sf) = (0 : Int32) then (-1 : Int32) else ((aT p0) + ((fj0_3 p0 q1 w1 w2 w3 G1 sf) - (0 : Int32)))
def fj0_5 (p0 : Int32) (q1 : Int64) (q2 : Int64) (w1 w2 w3 : Addr) (G1 : Int32) (sf : Value) : Int32 := if (fn71 (aT p0) (uT p0) (stk (uT p0) [(nar .char (fn1 q1 w1 w2 w3 G1 sf)), (nar .char (fn1 (sR q1 (11 : Int32)) w1 w2 w3 G1 sf)), (nar .char (fn1 (sR q1 (22 : Int32)) w1 w2 w3 G1 sf))]) (cT p0) (stk (cT p0) [(nar .char (fn1 q2 w1 w2 w3 G1 sf)), (nar .char (fn1 (sR q2 (11 : Int32)) w1 w2 w3 G1 sf)), (nar .char (fn1 (sR q2 (22 : Int32)) w1 w2 w3 G1 sf)), (nar .char (fn1 (sR q2 (33 : Int32)) w1 w2 w3 G1 sf))]) w1 w2 w3 G1 sf) = (fj0_4 p0 q1 q2 w1 w2 w3 G1 sf) then (1 : Int32) else (0 : Int32)
def fj0_6 (p0 : Int32) (q1 : Int64) (q2 : Int64) (w1 w2 w3 : Addr) (G1 : Int32) (sf : Value) : Int32 := if (fj0_0 p0 q1 w1 w2 w3 G1 sf) < (0 : Int32) then (-1 : Int32) else if ((cT p0) - (aT p0)) < ((uT p0) - ((fj0_0 p0 q1 w1 w2 w3 G1 sf) + (1 : Int32))) then (-1 : Int32) else if (fn60 ((fj0_0 p0 q1 w1 w2 w3 G1 sf) + (1 : Int32)) (aT p0) ((uT p0) - ((fj0_0 p0 q1 w1 w2 w3 G1 sf) + (1 : Int32))) (nar .char (fn1 q1 w1 w2 w3 G1 sf)) (nar .char (fn1 (sR q1 (11 : Int32)) w1 w2 w3 G1 sf)) (nar .char (fn1 (sR q1 (22 : Int32)) w1 w2 w3 G1 sf)) (nar .char (fn1 q2 w1 w2 w3 G1 sf)) (nar .char (fn1 (sR q2 (11 : Int32)) w1 w2 w3 G1 sf)) (nar .char (fn1 (sR q2 (22 : Int32)) w1 w2 w3 G1 sf)) (nar .char (fn1 (sR q2 (33 : Int32)) w1 w2 w3 G1 sf)) w1 w2 w3 G1 sf) = (0 : Int32) then (-1 : Int32) else if (fn61 ((fj0_0 p0 q1 w1 w2 w3 G1 sf) + (1 : Int32)) (aT p0) ((uT p0) - ((fj0_0 p0 q1 w1 w2 w3 G1 sf) + (1 : Int32))) (nar .char (fn1 q1 w1 w2 w3 G1 sf)) (nar .char (fn1 (sR q1 (11 : Int32)) w1 w2 w3 G1 sf)) (nar .char (fn1 (sR q1 (22 : Int32)) w1 w2 w3 G1 sf)) (nar .char (fn1 q2 w1 w2 w3 G1 sf)) (nar .char (fn1 (sR q2 (11 : Int32)) w1 w2 w3 G1 sf)) (nar .char (fn1 (sR q2 (22 : Int32)) w1 w2 w3 G1 sf)) (nar .char (fn1 (sR q2 (33 : Int32)) w1 w2 w3 G1 sf)) w1 w2 w3 G1 sf) = (0 : Int32) then (-1 : Int32) else if (fn62 ((fj0_0 p0 q1 w1 w2 w3 G1 sf) + (1 : Int32)) (aT p0) ((uT p0) - ((fj0_0 p0 q1 w1 w2 w3 G1 sf) + (1 : Int32))) (nar .char (fn1 q1 w1 w2 w3 G1 sf)) (nar .char (fn1 (sR q1 (11 : Int32)) w1 w2 w3 G1 sf)) (nar .char (fn1 (sR q1 (22 : Int32)) w1 w2 w3 G1 sf)) (nar .char (fn1 q2 w1 w2 w3 G1 sf)) (nar .char (fn1 (sR q2 (11 : Int32)) w1 w2 w3 G1 sf)) (nar .char (fn1 (sR q2 (22 : Int32)) w1 w2 w3 G1 sf)) (nar .char (fn1 (sR q2 (33 : Int32)) w1 w2 w3 G1 sf)) w1 w2 w3 G1 sf) = (0 : Int32) then (-1 : Int32) else ((aT p0) + ((uT p0) - ((fj0_0 p0 q1 w1 w2 w3 G1 sf) + (1 : Int32))))
def fj0_7 (p0 : Int32) (q1 : Int64) (q2 : Int64) (w1 w2 w3 : Addr) (G1 : Int32) (sf : Value) : Int32 := if (fn72 (aT p0) (uT p0) (stk (uT p0) [(nar .char (fn1 q1 w1 w2 w3 G1 sf)), (nar .char (fn1 (sR q1 (11 : Int32)) w1 w2 w3 G1 sf)), (nar .char (fn1 (sR q1 (22 : Int32)) w1 w2 w3 G1 sf))]) (cT p0) (stk (cT p0) [(nar .char (fn1 q2 w1 w2 w3 G1 sf)), (nar .char (fn1 (sR q2 (11 : Int32)) w1 w2 w3 G1 sf)), (nar .char (fn1 (sR q2 (22 : Int32)) w1 w2 w3 G1 sf)), (nar .char (fn1 (sR q2 (33 : Int32)) w1 w2 w3 G1 sf))]) w1 w2 w3 G1 sf) = (-1 : Int32) then (1 : Int32) else (0 : Int32)
def fj0_8 (p0 : Int32) (q1 : Int64) (q2 : Int64) (w1 w2 w3 : Addr) (G1 : Int32) (sf : Value) : Int32 := if ((cT p0) - (aT p0)) < ((uT p0) - ((fj0_0 p0 q1 w1 w2 w3 G1 sf) + (1 : Int32))) then (-1 : Int32) else if (fn60 ((fj0_0 p0 q1 w1 w2 w3 G1 sf) + (1 : Int32)) (aT p0) ((uT p0) - ((fj0_0 p0 q1 w1 w2 w3 G1 sf) + (1 : Int32))) (nar .char (fn1 q1 w1 w2 w3 G1 sf)) (nar .char (fn1 (sR q1 (11 : Int32)) w1 w2 w3 G1 sf)) (nar .char (fn1 (sR q1 (22 : Int32)) w1 w2 w3 G1 sf)) (nar .char (fn1 q2 w1 w2 w3 G1 sf)) (nar .char (fn1 (sR q2 (11 : Int32)) w1 w2 w3 G1 sf)) (nar .char (fn1 (sR q2 (22 : Int32)) w1 w2 w3 G1 sf)) (nar .char (fn1 (sR q2 (33 : Int32)) w1 w2 w3 G1 sf)) w1 w2 w3 G1 sf) = (0 : Int32) then (-1 : Int32) else if (fn61 ((fj0_0 p0 q1 w1 w2 w3 G1 sf) + (1 : Int32)) (aT p0) ((uT p0) - ((fj0_0 p0 q1 w1 w2 w3 G1 sf) + (1 : Int32))) (nar .char (fn1 q1 w1 w2 w3 G1 sf)) (nar .char (fn1 (sR q1 (11 : Int32)) w1 w2 w3 G1 sf)) (nar .char (fn1 (sR q1 (22 : Int32)) w1 w2 w3 G1 sf)) (nar .char (fn1 q2 w1 w2 w3 G1 sf)) (nar .char (fn1 (sR q2 (11 : Int32)) w1 w2 w3 G1 sf)) (nar .char (fn1 (sR q2 (22 : Int32)) w1 w2 w3 G1 sf)) (nar .char (fn1 (sR q2 (33 : Int32)) w1 w2 w3 G1 sf)) w1 w2 w3 G1 sf) = (0 : Int32) then (-1 : Int32) else if (fn62 ((fj0_0 p0 q1 w1 w2 w3 G1 sf) + (1 : Int32)) (aT p0) ((uT p0) - ((fj0_0 p0 q1 w1 w2 w3 G1 sf) + (1 : Int32))) (nar .char (fn1 q1 w1 w2 w3 G1 sf)) (nar .char (fn1 (sR q1 (11 : Int32)) w1 w2 w3 G1 sf)) (nar .char (fn1 (sR q1 (22 : Int32)) w1 w2 w3 G1 sf)) (nar .char (fn1 q2 w1 w2 w3 G1 sf)) (nar .char (fn1 (sR q2 (11 : Int32)) w1 w2 w3 G1 sf)) (nar .char (fn1 (sR q2 (22 : Int32)) w1 w2 w3 G1 sf)) (nar .char (fn1 (sR q2 (33 : Int32)) w1 w2 w3 G1 sf)) w1 w2 w3 G1 sf) = (0 : Int32) then (-1 : Int32) else ((aT p0) + ((uT p0) - ((fj0_0 p0 q1 w1 w2 w3 G1 sf) + (1 : Int32))))
def fj0_9 (p0 : Int32) (q1 : Int64) (q2 : Int64) (w1 w2 w3 : Addr) (G1 : Int32) (sf : Value) : Int32 := if (fn72 (aT p0) (uT p0) (stk (uT p0) [(nar .char (fn1 q1 w1 w2 w3 G1 sf)), (nar .char (fn1 (sR q1 (11 : Int32)) w1 w2 w3 G1 sf)), (nar .char (fn1 (sR q1 (22 : Int32)) w1 w2 w3 G1 sf))]) (cT p0) (stk (cT p0) [(nar .char (fn1 q2 w1 w2 w3 G1 sf)), (nar .char (fn1 (sR q2 (11 : Int32)) w1 w2 w3 G1 sf)), (nar .char (fn1 (sR q2 (22 : Int32)) w1 w2 w3 G1 sf)), (nar .char (fn1 (sR q2 (33 : Int32)) w1 w2 w3 G1 sf))]) w1 w2 w3 G1 sf) = (fj0_8 p0 q1 q2 w1 w2 w3 G1 sf) then (1 : Int32) else (0 : Int32)
theorem dl {p0 : Int32} {q1 : Int64} {w1 : Addr} {w2 : Addr} {w3 : Addr} {G1 : Int32} {sf : Value} : -1 ≤ (fj0_0 p0 q1 w1 w2 w3 G1 sf).toInt ∧ (fj0_0 p0 q1 w1 w2 w3 G1 sf).toInt < (uT p0).toInt ∨ (fj0_0 p0 q1 w1 w2 w3 G1 sf).toInt = -1 := by
  unfold fj0_0
  have u := uR p0
  generalize uT p0 = z at *
  have z0 : (0 : Int32).toInt = 0 := by decide
  have z1 : (1 : Int32).toInt = 1 := by decide
  have z2 : (2 : Int32).toInt = 2 := by decide
  have zm : (-1 : Int32).toInt = -1 := by decide
  repeat' split
  all_goals simp only [Int32.lt_iff_toInt_lt, z0, z1, z2, zm] at *
  all_goals omega
theorem rgE {p0 : Int32} {q1 : Int64} {w1 : Addr} {w2 : Addr} {w3 : Addr} {G1 : Int32} {sf : Value} : Rg (0 : Int32) (fj0_3 p0 q1 w1 w2 w3 G1 sf) (uT p0) (aT p0) (cT p0) := by
  unfold fj0_3
  split
  · exact rg0 p0
  · rename_i h; exact Rg.e (rg0 p0) (fun _ => dl) h
def fn0 (p0 : Int32) (q1 : Int64) (q2 : Int64) (w1 w2 w3 : Addr) (G1 : Int32) (sf : Value) : Int32 := if (kT p0) = (0 : Int32) then (nar .boolean (fj0_2 p0 q1 q2 w1 w2 w3 G1 sf)) else if (kT p0) = (1 : Int32) then (nar .boolean (fj0_5 p0 q1 q2 w1 w2 w3 G1 sf)) else if (fj0_0 p0 q1 w1 w2 w3 G1 sf) < (0 : Int32) then (nar .boolean (fj0_7 p0 q1 q2 w1 w2 w3 G1 sf)) else (nar .boolean (fj0_9 p0 q1 q2 w1 w2 w3 G1 sf))
def Q0 (Z : State) (p0 : Int32) (q1 : Int64) (q2 : Int64) (w1 w2 w3 : Addr) (G1 : Int32) (sf : Value) (h0 : Heap) (n0 : Nat) (v : Option Value) (h : Heap) (L : List Loc) : Prop := v = some (.int (fn0 p0 q1 q2 w1 w2 w3 G1 sf)) ∧ Fr n0 L
theorem rm0 (l : Launch) (Z : State) (a0' : Array Value) (hw : ∀ d ∈ tables_1, d.before a0' Z = true) (ws : List Jvm.Cond) (p0 : Int32) (q1 : Int64) (q2 : Int64) (w1 w2 w3 : Addr) (G1 : Int32) (sf : Value) (h0 : Heap) (n0 : Nat) (O : Old Z n0 h0) (W : Wd Z w1 w2 w3 G1 sf) :
    MetFree l x (head1 (Jvm.Cond.code x code maxLocals ret :: ws) room_1) (fun a U => a = #[(.int p0), (.long q1), (.long q2)] ∧ Z.Warmed39 U.vm ∧ U.heap = h0 ∧ CHv Z EL0 U.vm h0 ∧ ∀ x ∈ ([] : List Addr), x < h0.size ∧ Safe Z EL0 U.vm h0 x) (fun _ _ _ _ _ => True) (fun _ U o U' => ∃ v L, o = .returned v ∧ Q0 Z p0 q1 q2 w1 w2 w3 G1 sf h0 n0 v U'.heap L ∧ ReturnedEndW U o U' L 32 1152) := by
  refine MetFree.of_bodySF (plainFor_of_name pn4) hisR ?_
  intro p e s m args below meth c s₁ Bd hml0 hP hK
  obtain ⟨rfl, hZ, hh, hCH, hSf⟩ := hP
  have hx := Bd.exec
  have hby := Bd.bytes
  have hml : c.maxLocals = 19 := hml0
  have hown : s.vm.findClass "com/example/gatewarden/gatewarden/core/UserKeywordEndInPinLaw" = some m.cls := findClass_of_methodNamed Bd.named
  have hnm := (name_of_methodNamed Bd.named Bd.method).1
  have hk := Bd.notSynchronized
  have X0 : Stand p l e room_1 (s.setVm s.vm) m #[(.int p0), (.long q1), (.long q2)] below meth c s₁ [] 0 0 := Stand.of_body Bd
  have hS : s.Since s.vm h0.size := State.WarmedH.since (State.WarmedH.refl s) _
  have e0 : s₁.heap = h0 := by rw [← hh, Bd.state]; rfl
  have N0 := Fr.nil n0
  show Gl p e below (PosW 32 1152 (Q0 Z p0 q1 q2 w1 w2 w3 G1 sf h0 n0) s) s₁ _
  refine Gl.cast (ef0 m p0 q1 q2) ?_
  refine gb (mkF m 1 #[vi p0, vj q1, .second, vj q2, .second, .unset, .unset, .unset, .unset, .unset, .unset, .unset, .unset, .unset, .unset, .unset, .unset, .unset, .unset] [(.int p0)]) (fun _ k => XS.iloadN X0.here hx rfl (hb hby at_0) rfl k) ?_
  refine gb (mkF m 4 #[vi p0, vj q1, .second, vj q2, .second, .unset, .unset, .unset, .unset, .unset, .unset, .unset, .unset, .unset, .unset, .unset, .unset, .unset, .unset] [(.int 255), (.int p0)]) (fun _ k => XS.sipush X0.here hx rfl (hb hby at_1) k) ?_
  refine gb (mkF m 5 #[vi p0, vj q1, .second, vj q2, .second, .unset, .unset, .unset, .unset, .unset, .unset, .unset, .unset, .unset, .unset, .unset, .unset, .unset, .unset] [(.int (p0 &&& (255 : Int32)))]) (fun _ k => XS.iand X0.here hx rfl (hb hby at_4) rfl k) ?_
  refine gb (mkF m 6 #[vi p0, vj q1, .second, vj q2, .second, .unset, .unset, .unset, .unset, .unset, .unset, .unset, .unset, .unset, .unset, .unset, .unset, .unset, .unset] [(.int 3), (.int (p0 &&& (255 : Int32)))]) (fun _ k => XS.iconst X0.here hx rfl (hb hby at_5) k) ?_
  refine gb (mkF m 7 #[vi p0, vj q1, .second, vj q2, .second, .unset, .unset, .unset, .unset, .unset, .unset, .unset, .unset, .unset, .unset, .unset, .unset, .unset, .unset] [(.int ((p0 &&& (255 : Int32)) % (3 : Int32)))]) (fun _ k => iremM X0 hx rfl (hb hby at_6) rfl (by decide) k) ?_
  refine gb (mkF m 9 #[vi p0, vj q1, .second, vj q2, .second, vi (kT p0), .unset, .unset, .unset, .unset, .unset, .unset, .unset, .unset, .unset, .unset, .unset, .unset, .unset] []) (fun _ k => XS.istore X0.here hx rfl (hb hby at_7) rfl (l' := #[vi p0, vj q1, .second, vj q2, .second, vi (kT p0), .unset, .unset, .unset, .unset, .unset, .unset, .unset, .unset, .unset, .unset, .unset, .unset, .unset]) rfl k) ?_
  refine gb (mkF m 10 #[vi p0, vj q1, .second, vj q2, .second, vi (kT p0), .unset, .unset, .unset, .unset, .unset, .unset, .unset, .unset, .unset, .unset, .unset, .unset, .unset] [(.int p0)]) (fun _ k => XS.iloadN X0.here hx rfl (hb hby at_9) rfl k) ?_
  refine gb (mkF m 12 #[vi p0, vj q1, .second, vj q2, .second, vi (kT p0), .unset, .unset, .unset, .unset, .unset, .unset, .unset, .unset, .unset, .unset, .unset, .unset, .unset] [(.int 8), (.int p0)]) (fun _ k => XS.bipush X0.here hx rfl (hb hby at_10) k) ?_
  refine gb (mkF m 13 #[vi p0, vj q1, .second, vj q2, .second, vi (kT p0), .unset, .unset, .unset, .unset, .unset, .unset, .unset, .unset, .unset, .unset, .unset, .unset, .unset] [(.int ((p0.toUInt32 >>> ((8 : Int32) &&& 31).toUInt32).toInt32))]) (fun _ k => XS.iushr X0.here hx rfl (hb hby at_12) rfl k) ?_
  refine gb (mkF m 14 #[vi p0, vj q1, .second, vj q2, .second, vi (kT p0), .unset, .unset, .unset, .unset, .unset, .unset, .unset, .unset, .unset, .unset, .unset, .unset, .unset] [(.int 3), (.int ((p0.toUInt32 >>> ((8 : Int32) &&& 31).toUInt32).toInt32))]) (fun _ k => XS.iconst X0.here hx rfl (hb hby at_13) k) ?_
  refine gb (mkF m 15 #[vi p0, vj q1, .second, vj q2, .second, vi (kT p0), .unset, .unset, .unset, .unset, .unset, .unset, .unset, .unset, .unset, .unset, .unset, .unset, .unset] [(.int (((p0.toUInt32 >>> ((8 : Int32) &&& 31).toUInt32).toInt32) &&& (3 : Int32)))]) (fun _ k => XS.iand X0.here hx rfl (hb hby at_14) rfl k) ?_
  refine gb (mkF m 17 #[vi p0, vj q1, .second, vj q2, .second, vi (kT p0), vi (uT p0), .unset, .unset, .unset, .unset, .unset, .unset, .unset, .unset, .unset, .unset, .unset, .unset] []) (fun _ k => XS.istore X0.here hx rfl (hb hby at_15) rfl (l' := #[vi p0, vj q1, .second, vj q2, .second, vi (kT p0), vi (uT p0), .unset, .unset, .unset, .unset, .unset, .unset, .unset, .unset, .unset, .unset, .unset, .unset]) rfl k) ?_
  refine gb (mkF m 18 #[vi p0, vj q1, .second, vj q2, .second, vi (kT p0), vi (uT p0), .unset, .unset, .unset, .unset, .unset, .unset, .unset, .unset, .unset, .unset, .unset, .unset] [(.int p0)]) (fun _ k => XS.iloadN X0.here hx rfl (hb hby at_17) rfl k) ?_
  refine gb (mkF m 20 #[vi p0, vj q1, .second, vj q2, .second, vi (kT p0), vi (uT p0), .unset, .unset, .unset, .unset, .unset, .unset, .unset, .unset, .unset, .unset, .unset, .unset] [(.int 10), (.int p0)]) (fun _ k => XS.bipush X0.here hx rfl (hb hby at_18) k) ?_
  refine gb (mkF m 21 #[vi p0, vj q1, .second, vj q2, .second, vi (kT p0), vi (uT p0), .unset, .unset, .unset, .unset, .unset, .unset, .unset, .unset, .unset, .unset, .unset, .unset] [(.int ((p0.toUInt32 >>> ((10 : Int32) &&& 31).toUInt32).toInt32))]) (fun _ k => XS.iushr X0.here hx rfl (hb hby at_20) rfl k) ?_
  refine gb (mkF m 23 #[vi p0, vj q1, .second, vj q2, .second, vi (kT p0), vi (uT p0), .unset, .unset, .unset, .unset, .unset, .unset, .unset, .unset, .unset, .unset, .unset, .unset] [(.int 7), (.int ((p0.toUInt32 >>> ((10 : Int32) &&& 31).toUInt32).toInt32))]) (fun _ k => XS.bipush X0.here hx rfl (hb hby at_21) k) ?_
  refine gb (mkF m 24 #[vi p0, vj q1, .second, vj q2, .second, vi (kT p0), vi (uT p0), .unset, .unset, .unset, .unset, .unset, .unset, .unset, .unset, .unset, .unset, .unset, .unset] [(.int (((p0.toUInt32 >>> ((10 : Int32) &&& 31).toUInt32).toInt32) &&& (7 : Int32)))]) (fun _ k => XS.iand X0.here hx rfl (hb hby at_23) rfl k) ?_
  refine gb (mkF m 25 #[vi p0, vj q1, .second, vj q2, .second, vi (kT p0), vi (uT p0), .unset, .unset, .unset, .unset, .unset, .unset, .unset, .unset, .unset, .unset, .unset, .unset] [(.int 5), (.int (((p0.toUInt32 >>> ((10 : Int32) &&& 31).toUInt32).toInt32) &&& (7 : Int32)))]) (fun _ k => XS.iconst X0.here hx rfl (hb hby at_24) k) ?_
  refine gb (mkF m 26 #[vi p0, vj q1, .second, vj q2, .second, vi (kT p0), vi (uT p0), .unset, .unset, .unset, .unset, .unset, .unset, .unset, .unset, .unset, .unset, .unset, .unset] [(.int ((((p0.toUInt32 >>> ((10 : Int32) &&& 31).toUInt32).toInt32) &&& (7 : Int32)) % (5 : Int32)))]) (fun _ k => iremM X0 hx rfl (hb hby at_25) rfl (by decide) k) ?_
  refine gb (mkF m 28 #[vi p0, vj q1, .second, vj q2, .second, vi (kT p0), vi (uT p0), vi (cT p0), .unset, .unset, .unset, .unset, .unset, .unset, .unset, .unset, .unset, .unset, .unset] []) (fun _ k => XS.istore X0.here hx rfl (hb hby at_26) rfl (l' := #[vi p0, vj q1, .second, vj q2, .second, vi (kT p0), vi (uT p0), vi (cT p0), .unset, .unset, .unset, .unset, .unset, .unset, .unset, .unset, .unset, .unset, .unset]) rfl k) ?_
  refine gb (mkF m 29 #[vi p0, vj q1, .second, vj q2, .second, vi (kT p0), vi (uT p0), vi (cT p0), .unset, .unset, .unset, .unset, .unset, .unset, .unset, .unset, .unset, .unset, .unset] [(.int p0)]) (fun _ k => XS.iloadN X0.here hx rfl (hb hby at_28) rfl k) ?_
  refine gb (mkF m 31 #[vi p0, vj q1, .second, vj q2, .second, vi (kT p0), vi (uT p0), vi (cT p0), .unset, .unset, .unset, .unset, .unset, .unset, .unset, .unset, .unset, .unset, .unset] [(.int 13), (.int p0)]) (fun _ k => XS.bipush X0.here hx rfl (hb hby at_29) k) ?_
  refine gb (mkF m 32 #[vi p0, vj q1, .second, vj q2, .second, vi (kT p0), vi (uT p0), vi (cT p0), .unset, .unset, .unset, .unset, .unset, .unset, .unset, .unset, .unset, .unset, .unset] [(.int ((p0.toUInt32 >>> ((13 : Int32) &&& 31).toUInt32).toInt32))]) (fun _ k => XS.iushr X0.here hx rfl (hb hby at_31) rfl k) ?_
  refine gb (mkF m 34 #[vi p0, vj q1, .second, vj q2, .second, vi (kT p0), vi (uT p0), vi (cT p0), .unset, .unset, .unset, .unset, .unset, .unset, .unset, .unset, .unset, .unset, .unset] [(.int 7), (.int ((p0.toUInt32 >>> ((13 : Int32) &&& 31).toUInt32).toInt32))]) (fun _ k => XS.bipush X0.here hx rfl (hb hby at_32) k) ?_
  refine gb (mkF m 35 #[vi p0, vj q1, .second, vj q2, .second, vi (kT p0), vi (uT p0), vi (cT p0), .unset, .unset, .unset, .unset, .unset, .unset, .unset, .unset, .unset, .unset, .unset] [(.int (((p0.toUInt32 >>> ((13 : Int32) &&& 31).toUInt32).toInt32) &&& (7 : Int32)))]) (fun _ k => XS.iand X0.here hx rfl (hb hby at_34) rfl k) ?_
  refine gb (mkF m 37 #[vi p0, vj q1, .second, vj q2, .second, vi (kT p0), vi (uT p0), vi (cT p0), .unset, .unset, .unset, .unset, .unset, .unset, .unset, .unset, .unset, .unset, .unset] [(.int (cT p0)), (.int (((p0.toUInt32 >>> ((13 : Int32) &&& 31).toUInt32).toInt32) &&& (7 : Int32)))]) (fun _ k => XS.iload X0.here hx rfl (hb hby at_35) rfl k) ?_
  refine gb (mkF m 38 #[vi p0, vj q1, .second, vj q2, .second, vi (kT p0), vi (uT p0), vi (cT p0), .unset, .unset, .unset, .unset, .unset, .unset, .unset, .unset, .unset, .unset, .unset] [(.int 1), (.int (cT p0)), (.int (((p0.toUInt32 >>> ((13 : Int32) &&& 31).toUInt32).toInt32) &&& (7 : Int32)))]) (fun _ k => XS.iconst X0.here hx rfl (hb hby at_37) k) ?_
  refine gb (mkF m 39 #[vi p0, vj q1, .second, vj q2, .second, vi (kT p0), vi (uT p0), vi (cT p0), .unset, .unset, .unset, .unset, .unset, .unset, .unset, .unset, .unset, .unset, .unset] [(.int ((cT p0) + (1 : Int32))), (.int (((p0.toUInt32 >>> ((13 : Int32) &&& 31).toUInt32).toInt32) &&& (7 : Int32)))]) (fun _ k => XS.iadd X0.here hx rfl (hb hby at_38) rfl k) ?_
  refine gb (mkF m 40 #[vi p0, vj q1, .second, vj q2, .second, vi (kT p0), vi (uT p0), vi (cT p0), .unset, .unset, .unset, .unset, .unset, .unset, .unset, .unset, .unset, .unset, .unset] [(.int ((((p0.toUInt32 >>> ((13 : Int32) &&& 31).toUInt32).toInt32) &&& (7 : Int32)) % ((cT p0) + (1 : Int32))))]) (fun _ k => iremM X0 hx rfl (hb hby at_39) rfl (cz p0) k) ?_
  refine gb (mkF m 42 #[vi p0, vj q1, .second, vj q2, .second, vi (kT p0), vi (uT p0), vi (cT p0), vi (aT p0), .unset, .unset, .unset, .unset, .unset, .unset, .unset, .unset, .unset, .unset] []) (fun _ k => XS.istore X0.here hx rfl (hb hby at_40) rfl (l' := #[vi p0, vj q1, .second, vj q2, .second, vi (kT p0), vi (uT p0), vi (cT p0), vi (aT p0), .unset, .unset, .unset, .unset, .unset, .unset, .unset, .unset, .unset, .unset]) rfl k) ?_
  refine gb (mkF m 43 #[vi p0, vj q1, .second, vj q2, .second, vi (kT p0), vi (uT p0), vi (cT p0), vi (aT p0), .unset, .unset, .unset, .unset, .unset, .unset, .unset, .unset, .unset, .unset] [(.int 3)]) (fun _ k => XS.iconst X0.here hx rfl (hb hby at_42) k) ?_
  obtain ⟨T1, h1, k1, X1, e1, E1, A1, st1⟩ := newP X0 hx hZ (hW hw 0 rfl) e0 (g := (mkF m 43 #[vi p0, vj q1, .second, vj q2, .second, vi (kT p0), vi (uT p0), vi (cT p0), vi (aT p0), .unset, .unset, .unset, .unset, .unset, .unset, .unset, .unset, .unset, .unset] [(.int 3)])) rfl (hb hby at_43) rfl (by decide) (cap := 3) (by decide) (by decide) (by decide) (by decide)
  obtain ⟨b1, g1⟩ : ∃ z, z = (h0).size := ⟨_, rfl⟩
  rw [← g1] at A1 st1
  have gb1 : n0 ≤ b1 := Nat.le_trans (Nat.le_trans (Nat.le_of_eq O.1.symm) O.2.1) (Nat.le_of_eq g1.symm)
  have sb1 : h0.size ≤ b1 := Nat.le_trans (Keep.refl h0 []).1 (Nat.le_of_eq g1.symm)
  have V1 : Arv Z h1 b1 k1 .char (3 : Int32) [(.int 0), (.int 0), (.int 0)] (.int 0) := (Arv.new A1 (by decide)).pad (pad_rep [] (.int 0) 3)
  have Sb1 : Safe Z EL0 _ h1 b1 := Safe.ext E1 (CHr.refl hCH).1 (Safe.new (Nat.le_of_eq g1.symm))
  refine gb (mkF m 45 #[vi p0, vj q1, .second, vj q2, .second, vi (kT p0), vi (uT p0), vi (cT p0), vi (aT p0), .unset, .unset, .unset, .unset, .unset, .unset, .unset, .unset, .unset, .unset] [(.ref b1)]) st1 ?_
  have Sy2 := CHr.ext E1 (CHr.refl hCH).1
  have CH2 := CHr.trans (CHr.refl hCH) Sy2
  refine gb (mkF m 46 #[vi p0, vj q1, .second, vj q2, .second, vi (kT p0), vi (uT p0), vi (cT p0), vi (aT p0), .unset, .unset, .unset, .unset, .unset, .unset, .unset, .unset, .unset, .unset] [(.ref b1), (.ref b1)]) (fun _ k => XS.dup X1.here hx rfl (hb hby at_45) rfl rfl k) ?_
  refine gb (mkF m 47 #[vi p0, vj q1, .second, vj q2, .second, vi (kT p0), vi (uT p0), vi (cT p0), vi (aT p0), .unset, .unset, .unset, .unset, .unset, .unset, .unset, .unset, .unset, .unset] [(.int 0), (.ref b1), (.ref b1)]) (fun _ k => XS.iconst X1.here hx rfl (hb hby at_46) k) ?_
  refine gb (mkF m 48 #[vi p0, vj q1, .second, vj q2, .second, vi (kT p0), vi (uT p0), vi (cT p0), vi (aT p0), .unset, .unset, .unset, .unset, .unset, .unset, .unset, .unset, .unset, .unset] [(.long q1), (.int 0), (.ref b1), (.ref b1)]) (fun _ k => XS.lloadN X1.here hx rfl (hb hby at_47) rfl k) ?_
  have O4 := (O.ext E1)
  obtain ⟨_, _, ⟨T3, L3, k3, n3⟩, -, X3, ⟨Lc3, hQ3, l3, y3, z3⟩, st3⟩ := callS X1 hx (y := mq12) hown (mvT hZ (hW hw 1 rfl)) (mvT hZ (hW hw 2 rfl)) (mvT hZ (hW hw 3 rfl)) (mvT hZ (hW hw 4 rfl)) (by decide) (backOf (W := 3) (rm1 l Z a0' hw [] q1 w1 w2 w3 G1 sf h1 n0 O4 W ) hZ (hW hw 4 rfl) (hW hw 3 rfl) (by decide) (by decide)) (g := (mkF m 48 #[vi p0, vj q1, .second, vj q2, .second, vi (kT p0), vi (uT p0), vi (cT p0), vi (aT p0), .unset, .unset, .unset, .unset, .unset, .unset, .unset, .unset, .unset, .unset] [(.long q1), (.int 0), (.ref b1), (.ref b1)])) rfl (by rw [hml]; rfl) (argsL := [(.long q1)]) (rest := [(.int 0), (.ref b1), (.ref b1)]) (lenOf pd493 rfl) rfl (Nat.le_of_eq rfl) (hb hby at_48) (fun _ _ => ⟨rfl, e1, (by decide : 1 + 0 ≤ _), (by decide : 3 + 0 ≤ _)⟩)
  dsimp only [Pt.U, Pt.locs, Pt.cells, Pt.slots] at X3 l3 y3 z3 st3 hQ3
  subst l3 y3 z3
  obtain ⟨rfl, N3q, e3⟩ := hQ3
  have N3 := Fr.app N0 N3q
  refine gb (mkF m 51 #[vi p0, vj q1, .second, vj q2, .second, vi (kT p0), vi (uT p0), vi (cT p0), vi (aT p0), .unset, .unset, .unset, .unset, .unset, .unset, .unset, .unset, .unset, .unset] [(.int (fn1 q1 w1 w2 w3 G1 sf)), (.int 0), (.ref b1), (.ref b1)]) st3 ?_
  obtain ⟨cl5, Ar5, qa5, Sa5, Na5, Ha5, Ga5⟩ := id V1
  have hin6 : ¬ ((0 : Int32) < 0 ∨ cl5.slots.size ≤ ((0 : Int32)).toNatClampNeg) := inb_of Sa5 ⟨by decide, by decide⟩
  obtain ⟨T6, h6, X6, e6, W6, st6⟩ := stC X3 hx hZ e3 Ar5 (j := (0 : Int32)) hin6 (g := (mkF m 51 #[vi p0, vj q1, .second, vj q2, .second, vi (kT p0), vi (uT p0), vi (cT p0), vi (aT p0), .unset, .unset, .unset, .unset, .unset, .unset, .unset, .unset, .unset, .unset] [(.int (fn1 q1 w1 w2 w3 G1 sf)), (.int 0), (.ref b1), (.ref b1)])) rfl rfl (hb hby at_51)
  have V6 : Arv Z h6 b1 k1 .char (3 : Int32) [(.int (nar .char (fn1 q1 w1 w2 w3 G1 sf))), (.int 0), (.int 0)] (.int 0) := Arv.set Ar5 qa5 Sa5 Na5 Ha5 Ga5 (fits_nar_char _) W6 0 rfl (Nat.le_of_ble_eq_true rfl)
  have N6 := Fr.snoc X6 N3 gb1
  refine gb (mkF m 52 #[vi p0, vj q1, .second, vj q2, .second, vi (kT p0), vi (uT p0), vi (cT p0), vi (aT p0), .unset, .unset, .unset, .unset, .unset, .unset, .unset, .unset, .unset, .unset] [(.ref b1)]) st6 ?_
  have Sy7 := CHr.wr W6 Sb1 CH2.1
  have CH7 := CHr.trans CH2 Sy7
  have Sf7_b1 := Sy7.safe V1.lt Sb1
  refine gb (mkF m 53 #[vi p0, vj q1, .second, vj q2, .second, vi (kT p0), vi (uT p0), vi (cT p0), vi (aT p0), .unset, .unset, .unset, .unset, .unset, .unset, .unset, .unset, .unset, .unset] [(.ref b1), (.ref b1)]) (fun _ k => XS.dup X6.here hx rfl (hb hby at_52) rfl rfl k) ?_
  refine gb (mkF m 54 #[vi p0, vj q1, .second, vj q2, .second, vi (kT p0), vi (uT p0), vi (cT p0), vi (aT p0), .unset, .unset, .unset, .unset, .unset, .unset, .unset, .unset, .unset, .unset] [(.int 1), (.ref b1), (.ref b1)]) (fun _ k => XS.iconst X6.here hx rfl (hb hby at_53) k) ?_
  refine gb (mkF m 55 #[vi p0, vj q1, .second, vj q2, .second, vi (kT p0), vi (uT p0), vi (cT p0), vi (aT p0), .unset, .unset, .unset, .unset, .unset, .unset, .unset, .unset, .unset, .unset] [(.long q1), (.int 1), (.ref b1), (.ref b1)]) (fun _ k => XS.lloadN X6.here hx rfl (hb hby at_54) rfl k) ?_
  refine gb (mkF m 57 #[vi p0, vj q1, .second, vj q2, .second, vi (kT p0), vi (uT p0), vi (cT p0), vi (aT p0), .unset, .unset, .unset, .unset, .unset, .unset, .unset, .unset, .unset, .unset] [(.int 11), (.long q1), (.int 1), (.ref b1), (.ref b1)]) (fun _ k => XS.bipush X6.here hx rfl (hb hby at_55) k) ?_
  refine gb (mkF m 58 #[vi p0, vj q1, .second, vj q2, .second, vi (kT p0), vi (uT p0), vi (cT p0), vi (aT p0), .unset, .unset, .unset, .unset, .unset, .unset, .unset, .unset, .unset, .unset] [(.long (sR q1 (11 : Int32))), (.int 1), (.ref b1), (.ref b1)]) (fun _ k => XS.lushr X6.here hx rfl (hb hby at_57) rfl k) ?_
  have O9 := (O4.wr W6 gb1)
  obtain ⟨_, _, ⟨T8, L8, k8, n8⟩, -, X8, ⟨Lc8, hQ8, l8, y8, z8⟩, st8⟩ := callS X6 hx (y := mq12) hown (mvT hZ (hW hw 1 rfl)) (mvT hZ (hW hw 2 rfl)) (mvT hZ (hW hw 3 rfl)) (mvT hZ (hW hw 4 rfl)) (by decide) (backOf (W := 3) (rm1 l Z a0' hw [] (sR q1 (11 : Int32)) w1 w2 w3 G1 sf h6 n0 O9 W ) hZ (hW hw 4 rfl) (hW hw 3 rfl) (by decide) (by decide)) (g := (mkF m 58 #[vi p0, vj q1, .second, vj q2, .second, vi (kT p0), vi (uT p0), vi (cT p0), vi (aT p0), .unset, .unset, .unset, .unset, .unset, .unset, .unset, .unset, .unset, .unset] [(.long (sR q1 (11 : Int32))), (.int 1), (.ref b1), (.ref b1)])) rfl (by rw [hml]; rfl) (argsL := [(.long (sR q1 (11 : Int32)))]) (rest := [(.int 1), (.ref b1), (.ref b1)]) (lenOf pd493 rfl) rfl (Nat.le_of_eq rfl) (hb hby at_58) (fun _ _ => ⟨rfl, e6, (by decide : 1 + 0 ≤ _), (by decide : 3 + 0 ≤ _)⟩)
  dsimp only [Pt.U, Pt.locs, Pt.cells, Pt.slots] at X8 l8 y8 z8 st8 hQ8
  subst l8 y8 z8
  obtain ⟨rfl, N8q, e8⟩ := hQ8
  have N8 := Fr.app N6 N8q
  refine gb (mkF m 61 #[vi p0, vj q1, .second, vj q2, .second, vi (kT p0), vi (uT p0), vi (cT p0), vi (aT p0), .unset, .unset, .unset, .unset, .unset, .unset, .unset, .unset, .unset, .unset] [(.int (fn1 (sR q1 (11 : Int32)) w1 w2 w3 G1 sf)), (.int 1), (.ref b1), (.ref b1)]) st8 ?_
  obtain ⟨cl10, Ar10, qa10, Sa10, Na10, Ha10, Ga10⟩ := id V6
  have hin11 : ¬ ((1 : Int32) < 0 ∨ cl10.slots.size ≤ ((1 : Int32)).toNatClampNeg) := inb_of Sa10 ⟨by decide, by decide⟩
  obtain ⟨T11, h11, X11, e11, W11, st11⟩ := stC X8 hx hZ e8 Ar10 (j := (1 : Int32)) hin11 (g := (mkF m 61 #[vi p0, vj q1, .second, vj q2, .second, vi (kT p0), vi (uT p0), vi (cT p0), vi (aT p0), .unset, .unset, .unset, .unset, .unset, .unset, .unset, .unset, .unset, .unset] [(.int (fn1 (sR q1 (11 : Int32)) w1 w2 w3 G1 sf)), (.int 1), (.ref b1), (.ref b1)])) rfl rfl (hb hby at_61)
  have V11 : Arv Z h11 b1 k1 .char (3 : Int32) [(.int (nar .char (fn1 q1 w1 w2 w3 G1 sf))), (.int (nar .char (fn1 (sR q1 (11 : Int32)) w1 w2 w3 G1 sf))), (.int 0)] (.int 0) := Arv.set Ar10 qa10 Sa10 Na10 Ha10 Ga10 (fits_nar_char _) W11 1 rfl (Nat.le_of_ble_eq_true rfl)
  have N11 := Fr.snoc X11 N8 gb1
  refine gb (mkF m 62 #[vi p0, vj q1, .second, vj q2, .second, vi (kT p0), vi (uT p0), vi (cT p0), vi (aT p0), .unset, .unset, .unset, .unset, .unset, .unset, .unset, .unset, .unset, .unset] [(.ref b1)]) st11 ?_
  have Sy12 := CHr.wr W11 Sf7_b1 CH7.1
  have CH12 := CHr.trans CH7 Sy12
  have Sf12_b1 := Sy12.safe (Nat.lt_of_lt_of_le V1.lt Sy7.2.1) Sf7_b1
  refine gb (mkF m 63 #[vi p0, vj q1, .second, vj q2, .second, vi (kT p0), vi (uT p0), vi (cT p0), vi (aT p0), .unset, .unset, .unset, .unset, .unset, .unset, .unset, .unset, .unset, .unset] [(.ref b1), (.ref b1)]) (fun _ k => XS.dup X11.here hx rfl (hb hby at_62) rfl rfl k) ?_
  refine gb (mkF m 64 #[vi p0, vj q1, .second, vj q2, .second, vi (kT p0), vi (uT p0), vi (cT p0), vi (aT p0), .unset, .unset, .unset, .unset, .unset, .unset, .unset, .unset, .unset, .unset] [(.int 2), (.ref b1), (.ref b1)]) (fun _ k => XS.iconst X11.here hx rfl (hb hby at_63) k) ?_
  refine gb (mkF m 65 #[vi p0, vj q1, .second, vj q2, .second, vi (kT p0), vi (uT p0), vi (cT p0), vi (aT p0), .unset, .unset, .unset, .unset, .unset, .unset, .unset, .unset, .unset, .unset] [(.long q1), (.int 2), (.ref b1), (.ref b1)]) (fun _ k => XS.lloadN X11.here hx rfl (hb hby at_64) rfl k) ?_
  refine gb (mkF m 67 #[vi p0, vj q1, .second, vj q2, .second, vi (kT p0), vi (uT p0), vi (cT p0), vi (aT p0), .unset, .unset, .unset, .unset, .unset, .unset, .unset, .unset, .unset, .unset] [(.int 22), (.long q1), (.int 2), (.ref b1), (.ref b1)]) (fun _ k => XS.bipush X11.here hx rfl (hb hby at_65) k) ?_
  refine gb (mkF m 68 #[vi p0, vj q1, .second, vj q2, .second, vi (kT p0), vi (uT p0), vi (cT p0), vi (aT p0), .unset, .unset, .unset, .unset, .unset, .unset, .unset, .unset, .unset, .unset] [(.long (sR q1 (22 : Int32))), (.int 2), (.ref b1), (.ref b1)]) (fun _ k => XS.lushr X11.here hx rfl (hb hby at_67) rfl k) ?_
  have O14 := (O9.wr W11 gb1)
  obtain ⟨_, _, ⟨T13, L13, k13, n13⟩, -, X13, ⟨Lc13, hQ13, l13, y13, z13⟩, st13⟩ := callS X11 hx (y := mq12) hown (mvT hZ (hW hw 1 rfl)) (mvT hZ (hW hw 2 rfl)) (mvT hZ (hW hw 3 rfl)) (mvT hZ (hW hw 4 rfl)) (by decide) (backOf (W := 3) (rm1 l Z a0' hw [] (sR q1 (22 : Int32)) w1 w2 w3 G1 sf h11 n0 O14 W ) hZ (hW hw 4 rfl) (hW hw 3 rfl) (by decide) (by decide)) (g := (mkF m 68 #[vi p0, vj q1, .second, vj q2, .second, vi (kT p0), vi (uT p0), vi (cT p0), vi (aT p0), .unset, .unset, .unset, .unset, .unset, .unset, .unset, .unset, .unset, .unset] [(.long (sR q1 (22 : Int32))), (.int 2), (.ref b1), (.ref b1)])) rfl (by rw [hml]; rfl) (argsL := [(.long (sR q1 (22 : Int32)))]) (rest := [(.int 2), (.ref b1), (.ref b1)]) (lenOf pd493 rfl) rfl (Nat.le_of_eq rfl) (hb hby at_68) (fun _ _ => ⟨rfl, e11, (by decide : 1 + 0 ≤ _), (by decide : 3 + 0 ≤ _)⟩)
  dsimp only [Pt.U, Pt.locs, Pt.cells, Pt.slots] at X13 l13 y13 z13 st13 hQ13
  subst l13 y13 z13
  obtain ⟨rfl, N13q, e13⟩ := hQ13
  have N13 := Fr.app N11 N13q
  refine gb (mkF m 71 #[vi p0, vj q1, .second, vj q2, .second, vi (kT p0), vi (uT p0), vi (cT p0), vi (aT p0), .unset, .unset, .unset, .unset, .unset, .unset, .unset, .unset, .unset, .unset] [(.int (fn1 (sR q1 (22 : Int32)) w1 w2 w3 G1 sf)), (.int 2), (.ref b1), (.ref b1)]) st13 ?_
  obtain ⟨cl15, Ar15, qa15, Sa15, Na15, Ha15, Ga15⟩ := id V11
  have hin16 : ¬ ((2 : Int32) < 0 ∨ cl15.slots.size ≤ ((2 : Int32)).toNatClampNeg) := inb_of Sa15 ⟨by decide, by decide⟩
  obtain ⟨T16, h16, X16, e16, W16, st16⟩ := stC X13 hx hZ e13 Ar15 (j := (2 : Int32)) hin16 (g := (mkF m 71 #[vi p0, vj q1, .second, vj q2, .second, vi (kT p0), vi (uT p0), vi (cT p0), vi (aT p0), .unset, .unset, .unset, .unset, .unset, .unset, .unset, .unset, .unset, .unset] [(.int (fn1 (sR q1 (22 : Int32)) w1 w2 w3 G1 sf)), (.int 2), (.ref b1), (.ref b1)])) rfl rfl (hb hby at_71)
  have V16 : Arv Z h16 b1 k1 .char (3 : Int32) [(.int (nar .char (fn1 q1 w1 w2 w3 G1 sf))), (.int (nar .char (fn1 (sR q1 (11 : Int32)) w1 w2 w3 G1 sf))), (.int (nar .char (fn1 (sR q1 (22 : Int32)) w1 w2 w3 G1 sf)))] (.int 0) := Arv.set Ar15 qa15 Sa15 Na15 Ha15 Ga15 (fits_nar_char _) W16 2 rfl (Nat.le_of_ble_eq_true rfl)
  have N16 := Fr.snoc X16 N13 gb1
  refine gb (mkF m 72 #[vi p0, vj q1, .second, vj q2, .second, vi (kT p0), vi (uT p0), vi (cT p0), vi (aT p0), .unset, .unset, .unset, .unset, .unset, .unset, .unset, .unset, .unset, .unset] [(.ref b1)]) st16 ?_
  have Sy17 := CHr.wr W16 Sf12_b1 CH12.1
  have CH17 := CHr.trans CH12 Sy17
  have Sf17_b1 := Sy17.safe (Nat.lt_of_lt_of_le (Nat.lt_of_lt_of_le V1.lt Sy7.2.1) Sy12.2.1) Sf12_b1
  refine gb (mkF m 74 #[vi p0, vj q1, .second, vj q2, .second, vi (kT p0), vi (uT p0), vi (cT p0), vi (aT p0), vr b1, .unset, .unset, .unset, .unset, .unset, .unset, .unset, .unset, .unset] []) (fun _ k => XS.astore X16.here hx rfl (hb hby at_72) rfl rfl (l' := #[vi p0, vj q1, .second, vj q2, .second, vi (kT p0), vi (uT p0), vi (cT p0), vi (aT p0), vr b1, .unset, .unset, .unset, .unset, .unset, .unset, .unset, .unset, .unset]) rfl k) ?_
  refine gb (mkF m 75 #[vi p0, vj q1, .second, vj q2, .second, vi (kT p0), vi (uT p0), vi (cT p0), vi (aT p0), vr b1, .unset, .unset, .unset, .unset, .unset, .unset, .unset, .unset, .unset] [(.int 4)]) (fun _ k => XS.iconst X16.here hx rfl (hb hby at_74) k) ?_
  have O19 := (O14.wr W16 gb1)
  have K20 := (((((Keep.refl h0 []).ext E1).wr W6 (Or.inr sb1)).wr W11 (Or.inr sb1)).wr W16 (Or.inr sb1))
  obtain ⟨T18, h18, k18, X18, e18, E18, A18, st18⟩ := newP X16 hx hZ (hW hw 0 rfl) e16 (g := (mkF m 75 #[vi p0, vj q1, .second, vj q2, .second, vi (kT p0), vi (uT p0), vi (cT p0), vi (aT p0), vr b1, .unset, .unset, .unset, .unset, .unset, .unset, .unset, .unset, .unset] [(.int 4)])) rfl (hb hby at_75) rfl (by decide) (cap := 4) (by decide) (by decide) (by decide) (by decide)
  obtain ⟨b18, g18⟩ : ∃ z, z = (h16).size := ⟨_, rfl⟩
  rw [← g18] at A18 st18
  have gb18 : n0 ≤ b18 := Nat.le_trans (Nat.le_trans (Nat.le_of_eq O19.1.symm) O19.2.1) (Nat.le_of_eq g18.symm)
  have sb18 : h0.size ≤ b18 := Nat.le_trans K20.1 (Nat.le_of_eq g18.symm)
  have ne18_0 : b1 ≠ b18 := Nat.ne_of_lt (Nat.lt_of_lt_of_le V16.lt (Nat.le_of_eq g18.symm))
  have V18 : Arv Z h18 b18 k18 .char (4 : Int32) [(.int 0), (.int 0), (.int 0), (.int 0)] (.int 0) := (Arv.new A18 (by decide)).pad (pad_rep [] (.int 0) 4)
  have Sb18 : Safe Z EL0 _ h18 b18 := Safe.ext E18 CH17.1 (Safe.new (Nat.le_of_eq g18.symm))
  refine gb (mkF m 77 #[vi p0, vj q1, .second, vj q2, .second, vi (kT p0), vi (uT p0), vi (cT p0), vi (aT p0), vr b1, .unset, .unset, .unset, .unset, .unset, .unset, .unset, .unset, .unset] [(.ref b18)]) st18 ?_
  have Sy21 := CHr.ext E18 CH17.1
  have CH21 := CHr.trans CH17 Sy21
  have Sf21_b1 := Sy21.safe (Nat.lt_of_lt_of_le (Nat.lt_of_lt_of_le (Nat.lt_of_lt_of_le V1.lt Sy7.2.1) Sy12.2.1) Sy17.2.1) Sf17_b1
  refine gb (mkF m 78 #[vi p0, vj q1, .second, vj q2, .second, vi (kT p0), vi (uT p0), vi (cT p0), vi (aT p0), vr b1, .unset, .unset, .unset, .unset, .unset, .unset, .unset, .unset, .unset] [(.ref b18), (.ref b18)]) (fun _ k => XS.dup X18.here hx rfl (hb hby at_77) rfl rfl k) ?_
  refine gb (mkF m 79 #[vi p0, vj q1, .second, vj q2, .second, vi (kT p0), vi (uT p0), vi (cT p0), vi (aT p0), vr b1, .unset, .unset, .unset, .unset, .unset, .unset, .unset, .unset, .unset] [(.int 0), (.ref b18), (.ref b18)]) (fun _ k => XS.iconst X18.here hx rfl (hb hby at_78) k) ?_
  refine gb (mkF m 80 #[vi p0, vj q1, .second, vj q2, .second, vi (kT p0), vi (uT p0), vi (cT p0), vi (aT p0), vr b1, .unset, .unset, .unset, .unset, .unset, .unset, .unset, .unset, .unset] [(.long q2), (.int 0), (.ref b18), (.ref b18)]) (fun _ k => XS.lloadN X18.here hx rfl (hb hby at_79) rfl k) ?_
  have O23 := (O19.ext E18)
  obtain ⟨_, _, ⟨T22, L22, k22, n22⟩, -, X22, ⟨Lc22, hQ22, l22, y22, z22⟩, st22⟩ := callS X18 hx (y := mq12) hown (mvT hZ (hW hw 1 rfl)) (mvT hZ (hW hw 2 rfl)) (mvT hZ (hW hw 3 rfl)) (mvT hZ (hW hw 4 rfl)) (by decide) (backOf (W := 3) (rm1 l Z a0' hw [] q2 w1 w2 w3 G1 sf h18 n0 O23 W ) hZ (hW hw 4 rfl) (hW hw 3 rfl) (by decide) (by decide)) (g := (mkF m 80 #[vi p0, vj q1, .second, vj q2, .second, vi (kT p0), vi (uT p0), vi (cT p0), vi (aT p0), vr b1, .unset, .unset, .unset, .unset, .unset, .unset, .unset, .unset, .unset] [(.long q2), (.int 0), (.ref b18), (.ref b18)])) rfl (by rw [hml]; rfl) (argsL := [(.long q2)]) (rest := [(.int 0), (.ref b18), (.ref b18)]) (lenOf pd493 rfl) rfl (Nat.le_of_eq rfl) (hb hby at_80) (fun _ _ => ⟨rfl, e18, (by decide : 2 + 0 ≤ _), (by decide : 7 + 0 ≤ _)⟩)
  dsimp only [Pt.U, Pt.locs, Pt.cells, Pt.slots] at X22 l22 y22 z22 st22 hQ22
  subst l22 y22 z22
  obtain ⟨rfl, N22q, e22⟩ := hQ22
  have N22 := Fr.app N16 N22q
  refine gb (mkF m 83 #[vi p0, vj q1, .second, vj q2, .second, vi (kT p0), vi (uT p0), vi (cT p0), vi (aT p0), vr b1, .unset, .unset, .unset, .unset, .unset, .unset, .unset, .unset, .unset] [(.int (fn1 q2 w1 w2 w3 G1 sf)), (.int 0), (.ref b18), (.ref b18)]) st22 ?_
  obtain ⟨cl24, Ar24, qa24, Sa24, Na24, Ha24, Ga24⟩ := id V18
  have hin25 : ¬ ((0 : Int32) < 0 ∨ cl24.slots.size ≤ ((0 : Int32)).toNatClampNeg) := inb_of Sa24 ⟨by decide, by decide⟩
  obtain ⟨T25, h25, X25, e25, W25, st25⟩ := stC X22 hx hZ e22 Ar24 (j := (0 : Int32)) hin25 (g := (mkF m 83 #[vi p0, vj q1, .second, vj q2, .second, vi (kT p0), vi (uT p0), vi (cT p0), vi (aT p0), vr b1, .unset, .unset, .unset, .unset, .unset, .unset, .unset, .unset, .unset] [(.int (fn1 q2 w1 w2 w3 G1 sf)), (.int 0), (.ref b18), (.ref b18)])) rfl rfl (hb hby at_83)
  have V25 : Arv Z h25 b18 k18 .char (4 : Int32) [(.int (nar .char (fn1 q2 w1 w2 w3 G1 sf))), (.int 0), (.int 0), (.int 0)] (.int 0) := Arv.set Ar24 qa24 Sa24 Na24 Ha24 Ga24 (fits_nar_char _) W25 0 rfl (Nat.le_of_ble_eq_true rfl)
  have N25 := Fr.snoc X25 N22 gb18
  refine gb (mkF m 84 #[vi p0, vj q1, .second, vj q2, .second, vi (kT p0), vi (uT p0), vi (cT p0), vi (aT p0), vr b1, .unset, .unset, .unset, .unset, .unset, .unset, .unset, .unset, .unset] [(.ref b18)]) st25 ?_
  have Sy26 := CHr.wr W25 Sb18 CH21.1
  have CH26 := CHr.trans CH21 Sy26
  have Sf26_b1 := Sy26.safe (Nat.lt_of_lt_of_le (Nat.lt_of_lt_of_le (Nat.lt_of_lt_of_le (Nat.lt_of_lt_of_le V1.lt Sy7.2.1) Sy12.2.1) Sy17.2.1) Sy21.2.1) Sf21_b1
  have Sf26_b18 := Sy26.safe V18.lt Sb18
  refine gb (mkF m 85 #[vi p0, vj q1, .second, vj q2, .second, vi (kT p0), vi (uT p0), vi (cT p0), vi (aT p0), vr b1, .unset, .unset, .unset, .unset, .unset, .unset, .unset, .unset, .unset] [(.ref b18), (.ref b18)]) (fun _ k => XS.dup X25.here hx rfl (hb hby at_84) rfl rfl k) ?_
  refine gb (mkF m 86 #[vi p0, vj q1, .second, vj q2, .second, vi (kT p0), vi (uT p0), vi (cT p0), vi (aT p0), vr b1, .unset, .unset, .unset, .unset, .unset, .unset, .unset, .unset, .unset] [(.int 1), (.ref b18), (.ref b18)]) (fun _ k => XS.iconst X25.here hx rfl (hb hby at_85) k) ?_
  refine gb (mkF m 87 #[vi p0, vj q1, .second, vj q2, .second, vi (kT p0), vi (uT p0), vi (cT p0), vi (aT p0), vr b1, .unset, .unset, .unset, .unset, .unset, .unset, .unset, .unset, .unset] [(.long q2), (.int 1), (.ref b18), (.ref b18)]) (fun _ k => XS.lloadN X25.here hx rfl (hb hby at_86) rfl k) ?_
  refine gb (mkF m 89 #[vi p0, vj q1, .second, vj q2, .second, vi (kT p0), vi (uT p0), vi (cT p0), vi (aT p0), vr b1, .unset, .unset, .unset, .unset, .unset, .unset, .unset, .unset, .unset] [(.int 11), (.long q2), (.int 1), (.ref b18), (.ref b18)]) (fun _ k => XS.bipush X25.here hx rfl (hb hby at_87) k) ?_
  refine gb (mkF m 90 #[vi p0, vj q1, .second, vj q2, .second, vi (kT p0), vi (uT p0), vi (cT p0), vi (aT p0), vr b1, .unset, .unset, .unset, .unset, .unset, .unset, .unset, .unset, .unset] [(.long (sR q2 (11 : Int32))), (.int 1), (.ref b18), (.ref b18)]) (fun _ k => XS.lushr X25.here hx rfl (hb hby at_89) rfl k) ?_
  have O28 := (O23.wr W25 gb18)
  obtain ⟨_, _, ⟨T27, L27, k27, n27⟩, -, X27, ⟨Lc27, hQ27, l27, y27, z27⟩, st27⟩ := callS X25 hx (y := mq12) hown (mvT hZ (hW hw 1 rfl)) (mvT hZ (hW hw 2 rfl)) (mvT hZ (hW hw 3 rfl)) (mvT hZ (hW hw 4 rfl)) (by decide) (backOf (W := 3) (rm1 l Z a0' hw [] (sR q2 (11 : Int32)) w1 w2 w3 G1 sf h25 n0 O28 W ) hZ (hW hw 4 rfl) (hW hw 3 rfl) (by decide) (by decide)) (g := (mkF m 90 #[vi p0, vj q1, .second, vj q2, .second, vi (kT p0), vi (uT p0), vi (cT p0), vi (aT p0), vr b1, .unset, .unset, .unset, .unset, .unset, .unset, .unset, .unset, .unset] [(.long (sR q2 (11 : Int32))), (.int 1), (.ref b18), (.ref b18)])) rfl (by rw [hml]; rfl) (argsL := [(.long (sR q2 (11 : Int32)))]) (rest := [(.int 1), (.ref b18), (.ref b18)]) (lenOf pd493 rfl) rfl (Nat.le_of_eq rfl) (hb hby at_90) (fun _ _ => ⟨rfl, e25, (by decide : 2 + 0 ≤ _), (by decide : 7 + 0 ≤ _)⟩)
  dsimp only [Pt.U, Pt.locs, Pt.cells, Pt.slots] at X27 l27 y27 z27 st27 hQ27
  subst l27 y27 z27
  obtain ⟨rfl, N27q, e27⟩ := hQ27
  have N27 := Fr.app N25 N27q
  refine gb (mkF m 93 #[vi p0, vj q1, .second, vj q2, .second, vi (kT p0), vi (uT p0), vi (cT p0), vi (aT p0), vr b1, .unset, .unset, .unset, .unset, .unset, .unset, .unset, .unset, .unset] [(.int (fn1 (sR q2 (11 : Int32)) w1 w2 w3 G1 sf)), (.int 1), (.ref b18), (.ref b18)]) st27 ?_
  obtain ⟨cl29, Ar29, qa29, Sa29, Na29, Ha29, Ga29⟩ := id V25
  have hin30 : ¬ ((1 : Int32) < 0 ∨ cl29.slots.size ≤ ((1 : Int32)).toNatClampNeg) := inb_of Sa29 ⟨by decide, by decide⟩
  obtain ⟨T30, h30, X30, e30, W30, st30⟩ := stC X27 hx hZ e27 Ar29 (j := (1 : Int32)) hin30 (g := (mkF m 93 #[vi p0, vj q1, .second, vj q2, .second, vi (kT p0), vi (uT p0), vi (cT p0), vi (aT p0), vr b1, .unset, .unset, .unset, .unset, .unset, .unset, .unset, .unset, .unset] [(.int (fn1 (sR q2 (11 : Int32)) w1 w2 w3 G1 sf)), (.int 1), (.ref b18), (.ref b18)])) rfl rfl (hb hby at_93)
  have V30 : Arv Z h30 b18 k18 .char (4 : Int32) [(.int (nar .char (fn1 q2 w1 w2 w3 G1 sf))), (.int (nar .char (fn1 (sR q2 (11 : Int32)) w1 w2 w3 G1 sf))), (.int 0), (.int 0)] (.int 0) := Arv.set Ar29 qa29 Sa29 Na29 Ha29 Ga29 (fits_nar_char _) W30 1 rfl (Nat.le_of_ble_eq_true rfl)
  have N30 := Fr.snoc X30 N27 gb18
  refine gb (mkF m 94 #[vi p0, vj q1, .second, vj q2, .second, vi (kT p0), vi (uT p0), vi (cT p0), vi (aT p0), vr b1, .unset, .unset, .unset, .unset, .unset, .unset, .unset, .unset, .unset] [(.ref b18)]) st30 ?_
  have Sy31 := CHr.wr W30 Sf26_b18 CH26.1
  have CH31 := CHr.trans CH26 Sy31
  have Sf31_b1 := Sy31.safe (Nat.lt_of_lt_of_le (Nat.lt_of_lt_of_le (Nat.lt_of_lt_of_le (Nat.lt_of_lt_of_le (Nat.lt_of_lt_of_le V1.lt Sy7.2.1) Sy12.2.1) Sy17.2.1) Sy21.2.1) Sy26.2.1) Sf26_b1
  have Sf31_b18 := Sy31.safe (Nat.lt_of_lt_of_le V18.lt Sy26.2.1) Sf26_b18
  refine gb (mkF m 95 #[vi p0, vj q1, .second, vj q2, .second, vi (kT p0), vi (uT p0), vi (cT p0), vi (aT p0), vr b1, .unset, .unset, .unset, .unset, .unset, .unset, .unset, .unset, .unset] [(.ref b18), (.ref b18)]) (fun _ k => XS.dup X30.here hx rfl (hb hby at_94) rfl rfl k) ?_
  refine gb (mkF m 96 #[vi p0, vj q1, .second, vj q2, .second, vi (kT p0), vi (uT p0), vi (cT p0), vi (aT p0), vr b1, .unset, .unset, .unset, .unset, .unset, .unset, .unset, .unset, .unset] [(.int 2), (.ref b18), (.ref b18)]) (fun _ k => XS.iconst X30.here hx rfl (hb hby at_95) k) ?_
  refine gb (mkF m 97 #[vi p0, vj q1, .second, vj q2, .second, vi (kT p0), vi (uT p0), vi (cT p0), vi (aT p0), vr b1, .unset, .unset, .unset, .unset, .unset, .unset, .unset, .unset, .unset] [(.long q2), (.int 2), (.ref b18), (.ref b18)]) (fun _ k => XS.lloadN X30.here hx rfl (hb hby at_96) rfl k) ?_
  refine gb (mkF m 99 #[vi p0, vj q1, .second, vj q2, .second, vi (kT p0), vi (uT p0), vi (cT p0), vi (aT p0), vr b1, .unset, .unset, .unset, .unset, .unset, .unset, .unset, .unset, .unset] [(.int 22), (.long q2), (.int 2), (.ref b18), (.ref b18)]) (fun _ k => XS.bipush X30.here hx rfl (hb hby at_97) k) ?_
  refine gb (mkF m 100 #[vi p0, vj q1, .second, vj q2, .second, vi (kT p0), vi (uT p0), vi (cT p0), vi (aT p0), vr b1, .unset, .unset, .unset, .unset, .unset, .unset, .unset, .unset, .unset] [(.long (sR q2 (22 : Int32))), (.int 2), (.ref b18), (.ref b18)]) (fun _ k => XS.lushr X30.here hx rfl (hb hby at_99) rfl k) ?_
  have O33 := (O28.wr W30 gb18)
  obtain ⟨_, _, ⟨T32, L32, k32, n32⟩, -, X32, ⟨Lc32, hQ32, l32, y32, z32⟩, st32⟩ := callS X30 hx (y := mq12) hown (mvT hZ (hW hw 1 rfl)) (mvT hZ (hW hw 2 rfl)) (mvT hZ (hW hw 3 rfl)) (mvT hZ (hW hw 4 rfl)) (by decide) (backOf (W := 3) (rm1 l Z a0' hw [] (sR q2 (22 : Int32)) w1 w2 w3 G1 sf h30 n0 O33 W ) hZ (hW hw 4 rfl) (hW hw 3 rfl) (by decide) (by decide)) (g := (mkF m 100 #[vi p0, vj q1, .second, vj q2, .second, vi (kT p0), vi (uT p0), vi (cT p0), vi (aT p0), vr b1, .unset, .unset, .unset, .unset, .unset, .unset, .unset, .unset, .unset] [(.long (sR q2 (22 : Int32))), (.int 2), (.ref b18), (.ref b18)])) rfl (by rw [hml]; rfl) (argsL := [(.long (sR q2 (22 : Int32)))]) (rest := [(.int 2), (.ref b18), (.ref b18)]) (lenOf pd493 rfl) rfl (Nat.le_of_eq rfl) (hb hby at_100) (fun _ _ => ⟨rfl, e30, (by decide : 2 + 0 ≤ _), (by decide : 7 + 0 ≤ _)⟩)
  dsimp only [Pt.U, Pt.locs, Pt.cells, Pt.slots] at X32 l32 y32 z32 st32 hQ32
  subst l32 y32 z32
  obtain ⟨rfl, N32q, e32⟩ := hQ32
  have N32 := Fr.app N30 N32q
  refine gb (mkF m 103 #[vi p0, vj q1, .second, vj q2, .second, vi (kT p0), vi (uT p0), vi (cT p0), vi (aT p0), vr b1, .unset, .unset, .unset, .unset, .unset, .unset, .unset, .unset, .unset] [(.int (fn1 (sR q2 (22 : Int32)) w1 w2 w3 G1 sf)), (.int 2), (.ref b18), (.ref b18)]) st32 ?_
  obtain ⟨cl34, Ar34, qa34, Sa34, Na34, Ha34, Ga34⟩ := id V30
  have hin35 : ¬ ((2 : Int32) < 0 ∨ cl34.slots.size ≤ ((2 : Int32)).toNatClampNeg) := inb_of Sa34 ⟨by decide, by decide⟩
  obtain ⟨T35, h35, X35, e35, W35, st35⟩ := stC X32 hx hZ e32 Ar34 (j := (2 : Int32)) hin35 (g := (mkF m 103 #[vi p0, vj q1, .second, vj q2, .second, vi (kT p0), vi (uT p0), vi (cT p0), vi (aT p0), vr b1, .unset, .unset, .unset, .unset, .unset, .unset, .unset, .unset, .unset] [(.int (fn1 (sR q2 (22 : Int32)) w1 w2 w3 G1 sf)), (.int 2), (.ref b18), (.ref b18)])) rfl rfl (hb hby at_103)
  have V35 : Arv Z h35 b18 k18 .char (4 : Int32) [(.int (nar .char (fn1 q2 w1 w2 w3 G1 sf))), (.int (nar .char (fn1 (sR q2 (11 : Int32)) w1 w2 w3 G1 sf))), (.int (nar .char (fn1 (sR q2 (22 : Int32)) w1 w2 w3 G1 sf))), (.int 0)] (.int 0) := Arv.set Ar34 qa34 Sa34 Na34 Ha34 Ga34 (fits_nar_char _) W35 2 rfl (Nat.le_of_ble_eq_true rfl)
  have N35 := Fr.snoc X35 N32 gb18
  refine gb (mkF m 104 #[vi p0, vj q1, .second, vj q2, .second, vi (kT p0), vi (uT p0), vi (cT p0), vi (aT p0), vr b1, .unset, .unset, .unset, .unset, .unset, .unset, .unset, .unset, .unset] [(.ref b18)]) st35 ?_
  have Sy36 := CHr.wr W35 Sf31_b18 CH31.1
  have CH36 := CHr.trans CH31 Sy36
  have Sf36_b1 := Sy36.safe (Nat.lt_of_lt_of_le (Nat.lt_of_lt_of_le (Nat.lt_of_lt_of_le (Nat.lt_of_lt_of_le (Nat.lt_of_lt_of_le (Nat.lt_of_lt_of_le V1.lt Sy7.2.1) Sy12.2.1) Sy17.2.1) Sy21.2.1) Sy26.2.1) Sy31.2.1) Sf31_b1
  have Sf36_b18 := Sy36.safe (Nat.lt_of_lt_of_le (Nat.lt_of_lt_of_le V18.lt Sy26.2.1) Sy31.2.1) Sf31_b18
  refine gb (mkF m 105 #[vi p0, vj q1, .second, vj q2, .second, vi (kT p0), vi (uT p0), vi (cT p0), vi (aT p0), vr b1, .unset, .unset, .unset, .unset, .unset, .unset, .unset, .unset, .unset] [(.ref b18), (.ref b18)]) (fun _ k => XS.dup X35.here hx rfl (hb hby at_104) rfl rfl k) ?_
  refine gb (mkF m 106 #[vi p0, vj q1, .second, vj q2, .second, vi (kT p0), vi (uT p0), vi (cT p0), vi (aT p0), vr b1, .unset, .unset, .unset, .unset, .unset, .unset, .unset, .unset, .unset] [(.int 3), (.ref b18), (.ref b18)]) (fun _ k => XS.iconst X35.here hx rfl (hb hby at_105) k) ?_
  refine gb (mkF m 107 #[vi p0, vj q1, .second, vj q2, .second, vi (kT p0), vi (uT p0), vi (cT p0), vi (aT p0), vr b1, .unset, .unset, .unset, .unset, .unset, .unset, .unset, .unset, .unset] [(.long q2), (.int 3), (.ref b18), (.ref b18)]) (fun _ k => XS.lloadN X35.here hx rfl (hb hby at_106) rfl k) ?_
  refine gb (mkF m 109 #[vi p0, vj q1, .second, vj q2, .second, vi (kT p0), vi (uT p0), vi (cT p0), vi (aT p0), vr b1, .unset, .unset, .unset, .unset, .unset, .unset, .unset, .unset, .unset] [(.int 33), (.long q2), (.int 3), (.ref b18), (.ref b18)]) (fun _ k => XS.bipush X35.here hx rfl (hb hby at_107) k) ?_
  refine gb (mkF m 110 #[vi p0, vj q1, .second, vj q2, .second, vi (kT p0), vi (uT p0), vi (cT p0), vi (aT p0), vr b1, .unset, .unset, .unset, .unset, .unset, .unset, .unset, .unset, .unset] [(.long (sR q2 (33 : Int32))), (.int 3), (.ref b18), (.ref b18)]) (fun _ k => XS.lushr X35.here hx rfl (hb hby at_109) rfl k) ?_
  have O38 := (O33.wr W35 gb18)
  obtain ⟨_, _, ⟨T37, L37, k37, n37⟩, -, X37, ⟨Lc37, hQ37, l37, y37, z37⟩, st37⟩ := callS X35 hx (y := mq12) hown (mvT hZ (hW hw 1 rfl)) (mvT hZ (hW hw 2 rfl)) (mvT hZ (hW hw 3 rfl)) (mvT hZ (hW hw 4 rfl)) (by decide) (backOf (W := 3) (rm1 l Z a0' hw [] (sR q2 (33 : Int32)) w1 w2 w3 G1 sf h35 n0 O38 W ) hZ (hW hw 4 rfl) (hW hw 3 rfl) (by decide) (by decide)) (g := (mkF m 110 #[vi p0, vj q1, .second, vj q2, .second, vi (kT p0), vi (uT p0), vi (cT p0), vi (aT p0), vr b1, .unset, .unset, .unset, .unset, .unset, .unset, .unset, .unset, .unset] [(.long (sR q2 (33 : Int32))), (.int 3), (.ref b18), (.ref b18)])) rfl (by rw [hml]; rfl) (argsL := [(.long (sR q2 (33 : Int32)))]) (rest := [(.int 3), (.ref b18), (.ref b18)]) (lenOf pd493 rfl) rfl (Nat.le_of_eq rfl) (hb hby at_110) (fun _ _ => ⟨rfl, e35, (by decide : 2 + 0 ≤ _), (by decide : 7 + 0 ≤ _)⟩)
  dsimp only [Pt.U, Pt.locs, Pt.cells, Pt.slots] at X37 l37 y37 z37 st37 hQ37
  subst l37 y37 z37
  obtain ⟨rfl, N37q, e37⟩ := hQ37
  have N37 := Fr.app N35 N37q
  refine gb (mkF m 113 #[vi p0, vj q1, .second, vj q2, .second, vi (kT p0), vi (uT p0), vi (cT p0), vi (aT p0), vr b1, .unset, .unset, .unset, .unset, .unset, .unset, .unset, .unset, .unset] [(.int (fn1 (sR q2 (33 : Int32)) w1 w2 w3 G1 sf)), (.int 3), (.ref b18), (.ref b18)]) st37 ?_
  obtain ⟨cl39, Ar39, qa39, Sa39, Na39, Ha39, Ga39⟩ := id V35
  have hin40 : ¬ ((3 : Int32) < 0 ∨ cl39.slots.size ≤ ((3 : Int32)).toNatClampNeg) := inb_of Sa39 ⟨by decide, by decide⟩
  obtain ⟨T40, h40, X40, e40, W40, st40⟩ := stC X37 hx hZ e37 Ar39 (j := (3 : Int32)) hin40 (g := (mkF m 113 #[vi p0, vj q1, .second, vj q2, .second, vi (kT p0), vi (uT p0), vi (cT p0), vi (aT p0), vr b1, .unset, .unset, .unset, .unset, .unset, .unset, .unset, .unset, .unset] [(.int (fn1 (sR q2 (33 : Int32)) w1 w2 w3 G1 sf)), (.int 3), (.ref b18), (.ref b18)])) rfl rfl (hb hby at_113)
  have V40 : Arv Z h40 b18 k18 .char (4 : Int32) [(.int (nar .char (fn1 q2 w1 w2 w3 G1 sf))), (.int (nar .char (fn1 (sR q2 (11 : Int32)) w1 w2 w3 G1 sf))), (.int (nar .char (fn1 (sR q2 (22 : Int32)) w1 w2 w3 G1 sf))), (.int (nar .char (fn1 (sR q2 (33 : Int32)) w1 w2 w3 G1 sf)))] (.int 0) := Arv.set Ar39 qa39 Sa39 Na39 Ha39 Ga39 (fits_nar_char _) W40 3 rfl (Nat.le_of_ble_eq_true rfl)
  have N40 := Fr.snoc X40 N37 gb18
  refine gb (mkF m 114 #[vi p0, vj q1, .second, vj q2, .second, vi (kT p0), vi (uT p0), vi (cT p0), vi (aT p0), vr b1, .unset, .unset, .unset, .unset, .unset, .unset, .unset, .unset, .unset] [(.ref b18)]) st40 ?_
  have Sy41 := CHr.wr W40 Sf36_b18 CH36.1
  have CH41 := CHr.trans CH36 Sy41
  have Sf41_b1 := Sy41.safe (Nat.lt_of_lt_of_le (Nat.lt_of_lt_of_le (Nat.lt_of_lt_of_le (Nat.lt_of_lt_of_le (Nat.lt_of_lt_of_le (Nat.lt_of_lt_of_le (Nat.lt_of_lt_of_le V1.lt Sy7.2.1) Sy12.2.1) Sy17.2.1) Sy21.2.1) Sy26.2.1) Sy31.2.1) Sy36.2.1) Sf36_b1
  have Sf41_b18 := Sy41.safe (Nat.lt_of_lt_of_le (Nat.lt_of_lt_of_le (Nat.lt_of_lt_of_le V18.lt Sy26.2.1) Sy31.2.1) Sy36.2.1) Sf36_b18
  refine gb (mkF m 116 #[vi p0, vj q1, .second, vj q2, .second, vi (kT p0), vi (uT p0), vi (cT p0), vi (aT p0), vr b1, vr b18, .unset, .unset, .unset, .unset, .unset, .unset, .unset, .unset] []) (fun _ k => XS.astore X40.here hx rfl (hb hby at_114) rfl rfl (l' := #[vi p0, vj q1, .second, vj q2, .second, vi (kT p0), vi (uT p0), vi (cT p0), vi (aT p0), vr b1, vr b18, .unset, .unset, .unset, .unset, .unset, .unset, .unset, .unset]) rfl k) ?_
  refine gb (mkF m 118 #[vi p0, vj q1, .second, vj q2, .second, vi (kT p0), vi (uT p0), vi (cT p0), vi (aT p0), vr b1, vr b18, .unset, .unset, .unset, .unset, .unset, .unset, .unset, .unset] [(.ref b1)]) (fun _ k => XS.aload X40.here hx rfl (hb hby at_116) rfl rfl k) ?_
  refine gb (mkF m 120 #[vi p0, vj q1, .second, vj q2, .second, vi (kT p0), vi (uT p0), vi (cT p0), vi (aT p0), vr b1, vr b18, .unset, .unset, .unset, .unset, .unset, .unset, .unset, .unset] [(.int (uT p0)), (.ref b1)]) (fun _ k => XS.iload X40.here hx rfl (hb hby at_118) rfl k) ?_
  have f43 := (Arv.other (Arv.other (Arv.other (Arv.other (Arv.ext V16 E18) W25 ne18_0) W30 ne18_0) W35 ne18_0) W40 ne18_0)
  have O44 := (O38.wr W40 gb18)
  obtain ⟨_, _, ⟨T42, L42, k42, n42⟩, -, X42, hS42, hg42, ⟨Lc42, hQ42, l42, y42, z42, Sc42⟩, st42⟩ := callSS X40 hx (y := mq14) hown (mvT hZ (hW hw 7 rfl)) (mvT hZ (hW hw 8 rfl)) (mvT hZ (hW hw 3 rfl)) (mvT hZ (hW hw 9 rfl)) (by decide) (backOfSX (W := 0) (rm2U l Z a0' hw [] b1 (uT p0) k1 (nar .char (fn1 q1 w1 w2 w3 G1 sf)) (nar .char (fn1 (sR q1 (11 : Int32)) w1 w2 w3 G1 sf)) (nar .char (fn1 (sR q1 (22 : Int32)) w1 w2 w3 G1 sf)) w1 w2 w3 G1 sf h40 n0 O44 W f43 (uT4 p0) (dr_le _) (dr_le _) (dr_le _) (nar_nar _) (nar_nar _) (nar_nar _)) hZ (hW hw 9 rfl) (hW hw 3 rfl) (by decide) (by decide) (hEL0 hw) CH41.1 all0) (g := (mkF m 120 #[vi p0, vj q1, .second, vj q2, .second, vi (kT p0), vi (uT p0), vi (cT p0), vi (aT p0), vr b1, vr b18, .unset, .unset, .unset, .unset, .unset, .unset, .unset, .unset] [(.int (uT p0)), (.ref b1)])) rfl (by rw [hml]; rfl) (argsL := [(.ref b1), (.int (uT p0))]) (rest := []) (lenOf pd494 rfl) rfl (Nat.le_of_eq rfl) (hb hby at_120) (fun _ _ => ⟨rfl, e40, (by decide : 2 + 6 ≤ _), (by decide : 7 + 12 ≤ _)⟩)
  dsimp only [Pt.U, Pt.locs, Pt.cells, Pt.slots] at X42 l42 y42 z42 st42 hQ42 Sc42
  subst l42 y42 z42
  have sz45 := (Nat.le_trans (Nat.le_trans (Nat.le_trans (Nat.le_trans (Nat.le_trans (Nat.le_trans (Nat.le_trans (Nat.le_trans (Nat.le_trans (Nat.le_refl h0.size) E1.1) (Nat.le_of_eq W6.size.symm)) (Nat.le_of_eq W11.size.symm)) (Nat.le_of_eq W16.size.symm)) E18.1) (Nat.le_of_eq W25.size.symm)) (Nat.le_of_eq W30.size.symm)) (Nat.le_of_eq W35.size.symm)) (Nat.le_of_eq W40.size.symm))
  obtain ⟨X42, hS, hZ, hown⟩ := rebS hS (by rw [e40]; exact sz45) X42 hS42 hg42 hZ hown
  obtain ⟨r_42, b_42, kb_42, rfl, N42q, Kc42, fc42_0, fc42_1, fc42_2, fc42_3⟩ := hQ42
  have N42 := Fr.app N40 N42q
  refine gb (mkF m 123 #[vi p0, vj q1, .second, vj q2, .second, vi (kT p0), vi (uT p0), vi (cT p0), vi (aT p0), vr b1, vr b18, .unset, .unset, .unset, .unset, .unset, .unset, .unset, .unset] [(.ref r_42)]) (fun _ k => st42.trans k) ?_
  have CH46 := CHr.trans CH41 Sc42
  have Sf46_b1 := Sc42.safe (Nat.lt_of_lt_of_le (Nat.lt_of_lt_of_le (Nat.lt_of_lt_of_le (Nat.lt_of_lt_of_le (Nat.lt_of_lt_of_le (Nat.lt_of_lt_of_le (Nat.lt_of_lt_of_le (Nat.lt_of_lt_of_le V1.lt Sy7.2.1) Sy12.2.1) Sy17.2.1) Sy21.2.1) Sy26.2.1) Sy31.2.1) Sy36.2.1) Sy41.2.1) Sf41_b1
  have Sf46_b18 := Sc42.safe (Nat.lt_of_lt_of_le (Nat.lt_of_lt_of_le (Nat.lt_of_lt_of_le (Nat.lt_of_lt_of_le V18.lt Sy26.2.1) Sy31.2.1) Sy36.2.1) Sy41.2.1) Sf41_b18
  refine gb (mkF m 125 #[vi p0, vj q1, .second, vj q2, .second, vi (kT p0), vi (uT p0), vi (cT p0), vi (aT p0), vr b1, vr b18, vr r_42, .unset, .unset, .unset, .unset, .unset, .unset, .unset] []) (fun _ k => XS.astore X42.here hx rfl (hb hby at_123) rfl rfl (l' := #[vi p0, vj q1, .second, vj q2, .second, vi (kT p0), vi (uT p0), vi (cT p0), vi (aT p0), vr b1, vr b18, vr r_42, .unset, .unset, .unset, .unset, .unset, .unset, .unset]) rfl k) ?_
  refine gb (mkF m 127 #[vi p0, vj q1, .second, vj q2, .second, vi (kT p0), vi (uT p0), vi (cT p0), vi (aT p0), vr b1, vr b18, vr r_42, .unset, .unset, .unset, .unset, .unset, .unset, .unset] [(.ref b18)]) (fun _ k => XS.aload X42.here hx rfl (hb hby at_125) rfl rfl k) ?_
  refine gb (mkF m 129 #[vi p0, vj q1, .second, vj q2, .second, vi (kT p0), vi (uT p0), vi (cT p0), vi (aT p0), vr b1, vr b18, vr r_42, .unset, .unset, .unset, .unset, .unset, .unset, .unset] [(.int (cT p0)), (.ref b18)]) (fun _ k => XS.iload X42.here hx rfl (hb hby at_127) rfl k) ?_
  have f48 := (Arv.keep V40 Kc42 nin0)
  have O49 := (O44.keep Kc42 all0)
  obtain ⟨_, _, ⟨T47, L47, k47, n47⟩, -, X47, hS47, hg47, ⟨Lc47, hQ47, l47, y47, z47, Sc47⟩, st47⟩ := callSS X42 hx (y := mq14) hown (mvT hZ (hW hw 7 rfl)) (mvT hZ (hW hw 8 rfl)) (mvT hZ (hW hw 3 rfl)) (mvT hZ (hW hw 9 rfl)) (by decide) (backOfSX (W := 0) (rm2C l Z a0' hw [] b18 (cT p0) k18 (nar .char (fn1 q2 w1 w2 w3 G1 sf)) (nar .char (fn1 (sR q2 (11 : Int32)) w1 w2 w3 G1 sf)) (nar .char (fn1 (sR q2 (22 : Int32)) w1 w2 w3 G1 sf)) (nar .char (fn1 (sR q2 (33 : Int32)) w1 w2 w3 G1 sf)) w1 w2 w3 G1 sf T42.heap n0 O49 W f48 (cT5 p0) (dr_le _) (dr_le _) (dr_le _) (dr_le _) (nar_nar _) (nar_nar _) (nar_nar _) (nar_nar _)) hZ (hW hw 9 rfl) (hW hw 3 rfl) (by decide) (by decide) (hEL0 hw) CH46.1 all0) (g := (mkF m 129 #[vi p0, vj q1, .second, vj q2, .second, vi (kT p0), vi (uT p0), vi (cT p0), vi (aT p0), vr b1, vr b18, vr r_42, .unset, .unset, .unset, .unset, .unset, .unset, .unset] [(.int (cT p0)), (.ref b18)])) rfl (by rw [hml]; rfl) (argsL := [(.ref b18), (.int (cT p0))]) (rest := []) (lenOf pd494 rfl) rfl (Nat.le_of_eq rfl) (hb hby at_129) (fun _ _ => ⟨rfl, rfl, (by decide : 8 + 6 ≤ _), (by decide : 19 + 12 ≤ _)⟩)
  dsimp only [Pt.U, Pt.locs, Pt.cells, Pt.slots] at X47 l47 y47 z47 st47 hQ47 Sc47
  subst l47 y47 z47
  obtain ⟨X47, hS, hZ, hown⟩ := rebS hS (Nat.le_refl _) X47 hS47 hg47 hZ hown
  obtain ⟨r_47, b_47, kb_47, rfl, N47q, Kc47, fc47_0, fc47_1, fc47_2, fc47_3⟩ := hQ47
  have N47 := Fr.app N42 N47q
  refine gb (mkF m 132 #[vi p0, vj q1, .second, vj q2, .second, vi (kT p0), vi (uT p0), vi (cT p0), vi (aT p0), vr b1, vr b18, vr r_42, .unset, .unset, .unset, .unset, .unset, .unset, .unset] [(.ref r_47)]) (fun _ k => st47.trans k) ?_
  have CH50 := CHr.trans CH46 Sc47
  have Sf50_b1 := Sc47.safe (Nat.lt_of_lt_of_le (Nat.lt_of_lt_of_le (Nat.lt_of_lt_of_le (Nat.lt_of_lt_of_le (Nat.lt_of_lt_of_le (Nat.lt_of_lt_of_le (Nat.lt_of_lt_of_le (Nat.lt_of_lt_of_le (Nat.lt_of_lt_of_le V1.lt Sy7.2.1) Sy12.2.1) Sy17.2.1) Sy21.2.1) Sy26.2.1) Sy31.2.1) Sy36.2.1) Sy41.2.1) Sc42.2.1) Sf46_b1
  have Sf50_b18 := Sc47.safe (Nat.lt_of_lt_of_le (Nat.lt_of_lt_of_le (Nat.lt_of_lt_of_le (Nat.lt_of_lt_of_le (Nat.lt_of_lt_of_le V18.lt Sy26.2.1) Sy31.2.1) Sy36.2.1) Sy41.2.1) Sc42.2.1) Sf46_b18
  refine gb (mkF m 134 #[vi p0, vj q1, .second, vj q2, .second, vi (kT p0), vi (uT p0), vi (cT p0), vi (aT p0), vr b1, vr b18, vr r_42, vr r_47, .unset, .unset, .unset, .unset, .unset, .unset] []) (fun _ k => XS.astore X47.here hx rfl (hb hby at_132) rfl rfl (l' := #[vi p0, vj q1, .second, vj q2, .second, vi (kT p0), vi (uT p0), vi (cT p0), vi (aT p0), vr b1, vr b18, vr r_42, vr r_47, .unset, .unset, .unset, .unset, .unset, .unset]) rfl k) ?_
  refine gb (mkF m 135 #[vi p0, vj q1, .second, vj q2, .second, vi (kT p0), vi (uT p0), vi (cT p0), vi (aT p0), vr b1, vr b18, vr r_42, vr r_47, .unset, .unset, .unset, .unset, .unset, .unset] [(.int (-1 : Int32))]) (fun _ k => XS.iconst X47.here hx rfl (hb hby at_134) k) ?_
  refine gb (mkF m 137 #[vi p0, vj q1, .second, vj q2, .second, vi (kT p0), vi (uT p0), vi (cT p0), vi (aT p0), vr b1, vr b18, vr r_42, vr r_47, vi (-1 : Int32), .unset, .unset, .unset, .unset, .unset] []) (fun _ k => XS.istore X47.here hx rfl (hb hby at_135) rfl (l' := #[vi p0, vj q1, .second, vj q2, .second, vi (kT p0), vi (uT p0), vi (cT p0), vi (aT p0), vr b1, vr b18, vr r_42, vr r_47, vi (-1 : Int32), .unset, .unset, .unset, .unset, .unset]) rfl k) ?_
  refine gb (mkF m 139 #[vi p0, vj q1, .second, vj q2, .second, vi (kT p0), vi (uT p0), vi (cT p0), vi (aT p0), vr b1, vr b18, vr r_42, vr r_47, vi (-1 : Int32), .unset, .unset, .unset, .unset, .unset] [(.int (uT p0))]) (fun _ k => XS.iload X47.here hx rfl (hb hby at_137) rfl k) ?_
  have J51 : ∀ (T' : State) (lc : List Loc) (X' : Stand p l e room_1 (s.setVm T47.vm) m #[(.int p0), (.long q1), (.long q2)] below meth c T' lc 14 31) (eT : T'.heap = T47.heap) (N' : Fr n0 lc) (zj51_0 : Int32) (hz51_0 : zj51_0 = (fj0_0 p0 q1 w1 w2 w3 G1 sf)), Gl p e below (PosW 32 1152 (Q0 Z p0 q1 q2 w1 w2 w3 G1 sf h0 n0) s) T' (mkF m 196 #[vi p0, vj q1, .second, vj q2, .second, vi (kT p0), vi (uT p0), vi (cT p0), vi (aT p0), vr b1, vr b18, vr r_42, vr r_47, vi zj51_0, .unset, .unset, .unset, .unset, .unset] []) := by
    intro T' lc X' eT N' zj51_0 hz51_0
    subst hz51_0
    refine gb (mkF m 198 #[vi p0, vj q1, .second, vj q2, .second, vi (kT p0), vi (uT p0), vi (cT p0), vi (aT p0), vr b1, vr b18, vr r_42, vr r_47, vi (fj0_0 p0 q1 w1 w2 w3 G1 sf), .unset, .unset, .unset, .unset, .unset] [(.int (kT p0))]) (fun _ k => XS.iload X'.here hx rfl (hb hby at_196) rfl k) ?_
    by_cases hf52 : (kT p0) = (0 : Int32)
    · refine gb (mkF m 201 #[vi p0, vj q1, .second, vj q2, .second, vi (kT p0), vi (uT p0), vi (cT p0), vi (aT p0), vr b1, vr b18, vr r_42, vr r_47, vi (fj0_0 p0 q1 w1 w2 w3 G1 sf), .unset, .unset, .unset, .unset, .unset] []) (fun _ k => XS.ifNo X'.here hx rfl (hb hby at_198) rfl ((if0 _ _).trans (teq hf52).2) k) ?_
      have O54 := (O49.keep Kc47 all0)
      obtain ⟨T53, X53, e53, st53⟩ := getS2 X' hx hZ hown (host := "") (Or.inl (hW hw 31 rfl)) Via.refl eT (Sta.ext O54.2 W.1) (g := (mkF m 201 #[vi p0, vj q1, .second, vj q2, .second, vi (kT p0), vi (uT p0), vi (cT p0), vi (aT p0), vr b1, vr b18, vr r_42, vr r_47, vi (fj0_0 p0 q1 w1 w2 w3 G1 sf), .unset, .unset, .unset, .unset, .unset] [])) rfl (hb hby at_201)
      refine gb (mkF m 204 #[vi p0, vj q1, .second, vj q2, .second, vi (kT p0), vi (uT p0), vi (cT p0), vi (aT p0), vr b1, vr b18, vr r_42, vr r_47, vi (fj0_0 p0 q1 w1 w2 w3 G1 sf), .unset, .unset, .unset, .unset, .unset] [(.ref w1)]) st53 ?_
      refine gb (mkF m 206 #[vi p0, vj q1, .second, vj q2, .second, vi (kT p0), vi (uT p0), vi (cT p0), vi (aT p0), vr b1, vr b18, vr r_42, vr r_47, vi (fj0_0 p0 q1 w1 w2 w3 G1 sf), vr w1, .unset, .unset, .unset, .unset] []) (fun _ k => XS.astore X53.here hx rfl (hb hby at_204) rfl rfl (l' := #[vi p0, vj q1, .second, vj q2, .second, vi (kT p0), vi (uT p0), vi (cT p0), vi (aT p0), vr b1, vr b18, vr r_42, vr r_47, vi (fj0_0 p0 q1 w1 w2 w3 G1 sf), vr w1, .unset, .unset, .unset, .unset]) rfl k) ?_
      refine gb (mkF m 207 #[vi p0, vj q1, .second, vj q2, .second, vi (kT p0), vi (uT p0), vi (cT p0), vi (aT p0), vr b1, vr b18, vr r_42, vr r_47, vi (fj0_0 p0 q1 w1 w2 w3 G1 sf), vr w1, .unset, .unset, .unset, .unset] [(.int 0)]) (fun _ k => XS.iconst X53.here hx rfl (hb hby at_206) k) ?_
      refine gb (mkF m 209 #[vi p0, vj q1, .second, vj q2, .second, vi (kT p0), vi (uT p0), vi (cT p0), vi (aT p0), vr b1, vr b18, vr r_42, vr r_47, vi (fj0_0 p0 q1 w1 w2 w3 G1 sf), vr w1, vi 0, .unset, .unset, .unset] []) (fun _ k => XS.istore X53.here hx rfl (hb hby at_207) rfl (l' := #[vi p0, vj q1, .second, vj q2, .second, vi (kT p0), vi (uT p0), vi (cT p0), vi (aT p0), vr b1, vr b18, vr r_42, vr r_47, vi (fj0_0 p0 q1 w1 w2 w3 G1 sf), vr w1, vi 0, .unset, .unset, .unset]) rfl k) ?_
      refine gb (mkF m 211 #[vi p0, vj q1, .second, vj q2, .second, vi (kT p0), vi (uT p0), vi (cT p0), vi (aT p0), vr b1, vr b18, vr r_42, vr r_47, vi (fj0_0 p0 q1 w1 w2 w3 G1 sf), vr w1, vi 0, .unset, .unset, .unset] [(.int (uT p0))]) (fun _ k => XS.iload X53.here hx rfl (hb hby at_209) rfl k) ?_
      refine gb (mkF m 213 #[vi p0, vj q1, .second, vj q2, .second, vi (kT p0), vi (uT p0), vi (cT p0), vi (aT p0), vr b1, vr b18, vr r_42, vr r_47, vi (fj0_0 p0 q1 w1 w2 w3 G1 sf), vr w1, vi 0, vi (uT p0), .unset, .unset] []) (fun _ k => XS.istore X53.here hx rfl (hb hby at_211) rfl (l' := #[vi p0, vj q1, .second, vj q2, .second, vi (kT p0), vi (uT p0), vi (cT p0), vi (aT p0), vr b1, vr b18, vr r_42, vr r_47, vi (fj0_0 p0 q1 w1 w2 w3 G1 sf), vr w1, vi 0, vi (uT p0), .unset, .unset]) rfl k) ?_
      refine gb (mkF m 262 #[vi p0, vj q1, .second, vj q2, .second, vi (kT p0), vi (uT p0), vi (cT p0), vi (aT p0), vr b1, vr b18, vr r_42, vr r_47, vi (fj0_0 p0 q1 w1 w2 w3 G1 sf), vr w1, vi 0, vi (uT p0), .unset, .unset] []) (fun _ k => XS.goto X53.here hx rfl (pc0 := 213) (pc' := 262) rfl (hb hby at_213) (by decide) (by decide) k) ?_
      refine gb (mkF m 264 #[vi p0, vj q1, .second, vj q2, .second, vi (kT p0), vi (uT p0), vi (cT p0), vi (aT p0), vr b1, vr b18, vr r_42, vr r_47, vi (fj0_0 p0 q1 w1 w2 w3 G1 sf), vr w1, vi 0, vi (uT p0), .unset, .unset] [(.int (kT p0))]) (fun _ k => XS.iload X53.here hx rfl (hb hby at_262) rfl k) ?_
      refine gb (mkF m 265 #[vi p0, vj q1, .second, vj q2, .second, vi (kT p0), vi (uT p0), vi (cT p0), vi (aT p0), vr b1, vr b18, vr r_42, vr r_47, vi (fj0_0 p0 q1 w1 w2 w3 G1 sf), vr w1, vi 0, vi (uT p0), .unset, .unset] [(.int 2), (.int (kT p0))]) (fun _ k => XS.iconst X53.here hx rfl (hb hby at_264) k) ?_
      have J55 : ∀ (T' : State) (lc : List Loc) (X' : Stand p l e room_1 (s.setVm T47.vm) m #[(.int p0), (.long q1), (.long q2)] below meth c T' lc 14 31) (eT : T'.heap = T47.heap) (N' : Fr n0 lc) (zj55_0 : Int32) (hz55_0 : zj55_0 = (fj0_1 p0 q1 q2 w1 w2 w3 G1 sf)), Gl p e below (PosW 32 1152 (Q0 Z p0 q1 q2 w1 w2 w3 G1 sf h0 n0) s) T' (mkF m 366 #[vi p0, vj q1, .second, vj q2, .second, vi (kT p0), vi (uT p0), vi (cT p0), vi (aT p0), vr b1, vr b18, vr r_42, vr r_47, vi (fj0_0 p0 q1 w1 w2 w3 G1 sf), vr w1, vi 0, vi (uT p0), vi zj55_0, vi ((uT p0) - (0 : Int32))] []) := by
        intro T' lc X' eT N' zj55_0 hz55_0
        subst hz55_0
        refine gb (mkF m 368 #[vi p0, vj q1, .second, vj q2, .second, vi (kT p0), vi (uT p0), vi (cT p0), vi (aT p0), vr b1, vr b18, vr r_42, vr r_47, vi (fj0_0 p0 q1 w1 w2 w3 G1 sf), vr w1, vi 0, vi (uT p0), vi (fj0_1 p0 q1 q2 w1 w2 w3 G1 sf), vi ((uT p0) - (0 : Int32))] [(.ref w1)]) (fun _ k => XS.aload X'.here hx rfl (hb hby at_366) rfl rfl k) ?_
        refine gb (mkF m 370 #[vi p0, vj q1, .second, vj q2, .second, vi (kT p0), vi (uT p0), vi (cT p0), vi (aT p0), vr b1, vr b18, vr r_42, vr r_47, vi (fj0_0 p0 q1 w1 w2 w3 G1 sf), vr w1, vi 0, vi (uT p0), vi (fj0_1 p0 q1 q2 w1 w2 w3 G1 sf), vi ((uT p0) - (0 : Int32))] [(.ref r_42), (.ref w1)]) (fun _ k => XS.aload X'.here hx rfl (hb hby at_368) rfl rfl k) ?_
        refine gb (mkF m 372 #[vi p0, vj q1, .second, vj q2, .second, vi (kT p0), vi (uT p0), vi (cT p0), vi (aT p0), vr b1, vr b18, vr r_42, vr r_47, vi (fj0_0 p0 q1 w1 w2 w3 G1 sf), vr w1, vi 0, vi (uT p0), vi (fj0_1 p0 q1 q2 w1 w2 w3 G1 sf), vi ((uT p0) - (0 : Int32))] [(.ref r_47), (.ref r_42), (.ref w1)]) (fun _ k => XS.aload X'.here hx rfl (hb hby at_370) rfl rfl k) ?_
        refine gb (mkF m 374 #[vi p0, vj q1, .second, vj q2, .second, vi (kT p0), vi (uT p0), vi (cT p0), vi (aT p0), vr b1, vr b18, vr r_42, vr r_47, vi (fj0_0 p0 q1 w1 w2 w3 G1 sf), vr w1, vi 0, vi (uT p0), vi (fj0_1 p0 q1 q2 w1 w2 w3 G1 sf), vi ((uT p0) - (0 : Int32))] [(.int (aT p0)), (.ref r_47), (.ref r_42), (.ref w1)]) (fun _ k => XS.iload X'.here hx rfl (hb hby at_372) rfl k) ?_
        have f57 := (Exa.keep fc42_0 Kc47)
        have f58 := (Fld.keep fc42_1 Kc47 nin0)
        have f59 := (Fld.keep fc42_2 Kc47 nin0)
        have f60 := (Arv.keep fc42_3 Kc47 nin0)
        obtain ⟨cq56, kq56, q56a, q56b, q56c⟩ := isOf hZ eT (Exa.ext O54.2 W.2.1)
        obtain ⟨_, _, ⟨T56, L56, k56, n56⟩, -, X56, ⟨Lc56, hQ56, l56, y56, z56⟩, st56⟩ := X'.virtualBack hx (y := mq25) (z := mq25) hown (mvT hZ (hW hw 37 rfl)) (mvT hZ (hW hw 38 rfl)) (notFace_of_selects (args := #[]) (mvT hZ (hW hw 40 rfl))) (mvT hZ (hW hw 40 rfl)) (mvT hZ (hW hw 39 rfl)) (by decide) (backOf (W := 0) (rm70 l Z a0' hw [] w1 r_42 r_47 (aT p0) b_42 kb_42 (uT p0) (stk (uT p0) [(nar .char (fn1 q1 w1 w2 w3 G1 sf)), (nar .char (fn1 (sR q1 (11 : Int32)) w1 w2 w3 G1 sf)), (nar .char (fn1 (sR q1 (22 : Int32)) w1 w2 w3 G1 sf))]) b_47 kb_47 (cT p0) (stk (cT p0) [(nar .char (fn1 q2 w1 w2 w3 G1 sf)), (nar .char (fn1 (sR q2 (11 : Int32)) w1 w2 w3 G1 sf)), (nar .char (fn1 (sR q2 (22 : Int32)) w1 w2 w3 G1 sf)), (nar .char (fn1 (sR q2 (33 : Int32)) w1 w2 w3 G1 sf))]) w1 w2 w3 G1 sf T47.heap n0 O54 W (Exa.ext O54.2 W.2.1) (Fld.ext O54.2 W.2.2.2.2.2.2.1) f57 f58 f59 f60 fc47_0 fc47_1 fc47_2 fc47_3 (rg0 p0)) hZ (hW hw 41 rfl) (hW hw 32 rfl) (by decide) (by decide)) q56a q56c (g := (mkF m 374 #[vi p0, vj q1, .second, vj q2, .second, vi (kT p0), vi (uT p0), vi (cT p0), vi (aT p0), vr b1, vr b18, vr r_42, vr r_47, vi (fj0_0 p0 q1 w1 w2 w3 G1 sf), vr w1, vi 0, vi (uT p0), vi (fj0_1 p0 q1 q2 w1 w2 w3 G1 sf), vi ((uT p0) - (0 : Int32))] [(.int (aT p0)), (.ref r_47), (.ref r_42), (.ref w1)])) rfl (by rw [hml]; rfl) (Steps.refl _) (argsL := [(.ref r_42), (.ref r_47), (.int (aT p0))]) (rest := []) (lenOf pd496 rfl) rfl (Nat.le_of_eq rfl) (hb hby at_374) (fun _ _ => ⟨rfl, eT, (by decide : 14 + 0 ≤ _), (by decide : 31 + 0 ≤ _)⟩)
        dsimp only [Pt.U, Pt.locs, Pt.cells, Pt.slots] at X56 l56 y56 z56 st56 hQ56
        subst l56 y56 z56
        obtain ⟨rfl, N56q, e56⟩ := hQ56
        have N56 := Fr.app N' N56q
        refine gb (mkF m 377 #[vi p0, vj q1, .second, vj q2, .second, vi (kT p0), vi (uT p0), vi (cT p0), vi (aT p0), vr b1, vr b18, vr r_42, vr r_47, vi (fj0_0 p0 q1 w1 w2 w3 G1 sf), vr w1, vi 0, vi (uT p0), vi (fj0_1 p0 q1 q2 w1 w2 w3 G1 sf), vi ((uT p0) - (0 : Int32))] [(.int (fn70 (aT p0) (uT p0) (stk (uT p0) [(nar .char (fn1 q1 w1 w2 w3 G1 sf)), (nar .char (fn1 (sR q1 (11 : Int32)) w1 w2 w3 G1 sf)), (nar .char (fn1 (sR q1 (22 : Int32)) w1 w2 w3 G1 sf))]) (cT p0) (stk (cT p0) [(nar .char (fn1 q2 w1 w2 w3 G1 sf)), (nar .char (fn1 (sR q2 (11 : Int32)) w1 w2 w3 G1 sf)), (nar .char (fn1 (sR q2 (22 : Int32)) w1 w2 w3 G1 sf)), (nar .char (fn1 (sR q2 (33 : Int32)) w1 w2 w3 G1 sf))]) w1 w2 w3 G1 sf))]) (fun _ k => st56.trans k) ?_
        refine gb (mkF m 379 #[vi p0, vj q1, .second, vj q2, .second, vi (kT p0), vi (uT p0), vi (cT p0), vi (aT p0), vr b1, vr b18, vr r_42, vr r_47, vi (fj0_0 p0 q1 w1 w2 w3 G1 sf), vr w1, vi 0, vi (uT p0), vi (fj0_1 p0 q1 q2 w1 w2 w3 G1 sf), vi ((uT p0) - (0 : Int32))] [(.int (fj0_1 p0 q1 q2 w1 w2 w3 G1 sf)), (.int (fn70 (aT p0) (uT p0) (stk (uT p0) [(nar .char (fn1 q1 w1 w2 w3 G1 sf)), (nar .char (fn1 (sR q1 (11 : Int32)) w1 w2 w3 G1 sf)), (nar .char (fn1 (sR q1 (22 : Int32)) w1 w2 w3 G1 sf))]) (cT p0) (stk (cT p0) [(nar .char (fn1 q2 w1 w2 w3 G1 sf)), (nar .char (fn1 (sR q2 (11 : Int32)) w1 w2 w3 G1 sf)), (nar .char (fn1 (sR q2 (22 : Int32)) w1 w2 w3 G1 sf)), (nar .char (fn1 (sR q2 (33 : Int32)) w1 w2 w3 G1 sf))]) w1 w2 w3 G1 sf))]) (fun _ k => XS.iload X56.here hx rfl (hb hby at_377) rfl k) ?_
        have J61 : ∀ (T' : State) (lc : List Loc) (X' : Stand p l e room_1 (s.setVm T47.vm) m #[(.int p0), (.long q1), (.long q2)] below meth c T' lc 14 31) (eT : T'.heap = T47.heap) (N' : Fr n0 lc) (zj61_0 : Int32) (hz61_0 : zj61_0 = (fj0_2 p0 q1 q2 w1 w2 w3 G1 sf)), Gl p e below (PosW 32 1152 (Q0 Z p0 q1 q2 w1 w2 w3 G1 sf h0 n0) s) T' (mkF m 387 #[vi p0, vj q1, .second, vj q2, .second, vi (kT p0), vi (uT p0), vi (cT p0), vi (aT p0), vr b1, vr b18, vr r_42, vr r_47, vi (fj0_0 p0 q1 w1 w2 w3 G1 sf), vr w1, vi 0, vi (uT p0), vi (fj0_1 p0 q1 q2 w1 w2 w3 G1 sf), vi ((uT p0) - (0 : Int32))] [(.int zj61_0)]) := by
          intro T' lc X' eT N' zj61_0 hz61_0
          subst hz61_0
          exact Gl.outNW X' hS (by rw [eT]; exact (Nat.le_refl _)) hx hk (t := .boolean) Bd.returns (by simp) (hb hby at_387) ⟨(congrArg (fun z => some (Value.int z)) (show nar .boolean (fj0_2 p0 q1 q2 w1 w2 w3 G1 sf) = fn0 p0 q1 q2 w1 w2 w3 G1 sf by unfold fn0; rw [if_pos hf52]; try rfl)), N'⟩ (by decide) (by decide)
        by_cases hf62 : (fn70 (aT p0) (uT p0) (stk (uT p0) [(nar .char (fn1 q1 w1 w2 w3 G1 sf)), (nar .char (fn1 (sR q1 (11 : Int32)) w1 w2 w3 G1 sf)), (nar .char (fn1 (sR q1 (22 : Int32)) w1 w2 w3 G1 sf))]) (cT p0) (stk (cT p0) [(nar .char (fn1 q2 w1 w2 w3 G1 sf)), (nar .char (fn1 (sR q2 (11 : Int32)) w1 w2 w3 G1 sf)), (nar .char (fn1 (sR q2 (22 : Int32)) w1 w2 w3 G1 sf)), (nar .char (fn1 (sR q2 (33 : Int32)) w1 w2 w3 G1 sf))]) w1 w2 w3 G1 sf) = (fj0_1 p0 q1 q2 w1 w2 w3 G1 sf)
        · refine gb (mkF m 382 #[vi p0, vj q1, .second, vj q2, .second, vi (kT p0), vi (uT p0), vi (cT p0), vi (aT p0), vr b1, vr b18, vr r_42, vr r_47, vi (fj0_0 p0 q1 w1 w2 w3 G1 sf), vr w1, vi 0, vi (uT p0), vi (fj0_1 p0 q1 q2 w1 w2 w3 G1 sf), vi ((uT p0) - (0 : Int32))] []) (fun _ k => XS.icmpNo X56.here hx rfl (hb hby at_379) rfl (teq hf62).2 k) ?_
          refine gb (mkF m 383 #[vi p0, vj q1, .second, vj q2, .second, vi (kT p0), vi (uT p0), vi (cT p0), vi (aT p0), vr b1, vr b18, vr r_42, vr r_47, vi (fj0_0 p0 q1 w1 w2 w3 G1 sf), vr w1, vi 0, vi (uT p0), vi (fj0_1 p0 q1 q2 w1 w2 w3 G1 sf), vi ((uT p0) - (0 : Int32))] [(.int 1)]) (fun _ k => XS.iconst X56.here hx rfl (hb hby at_382) k) ?_
          refine gb (mkF m 387 #[vi p0, vj q1, .second, vj q2, .second, vi (kT p0), vi (uT p0), vi (cT p0), vi (aT p0), vr b1, vr b18, vr r_42, vr r_47, vi (fj0_0 p0 q1 w1 w2 w3 G1 sf), vr w1, vi 0, vi (uT p0), vi (fj0_1 p0 q1 q2 w1 w2 w3 G1 sf), vi ((uT p0) - (0 : Int32))] [(.int 1)]) (fun _ k => XS.goto X56.here hx rfl (pc0 := 383) (pc' := 387) rfl (hb hby at_383) (by decide) (by decide) k) ?_
          exact J61 _ _ X56 e56 N56 (1 : Int32) (show (1 : Int32) = (fj0_2 p0 q1 q2 w1 w2 w3 G1 sf) by unfold fj0_2; rw [if_pos hf62]; try rfl)
        · refine gb (mkF m 386 #[vi p0, vj q1, .second, vj q2, .second, vi (kT p0), vi (uT p0), vi (cT p0), vi (aT p0), vr b1, vr b18, vr r_42, vr r_47, vi (fj0_0 p0 q1 w1 w2 w3 G1 sf), vr w1, vi 0, vi (uT p0), vi (fj0_1 p0 q1 q2 w1 w2 w3 G1 sf), vi ((uT p0) - (0 : Int32))] []) (fun _ k => XS.icmpYes X56.here hx rfl (pc0 := 379) (pc' := 386) rfl (hb hby at_379) rfl (feq hf62).2 (by decide) (by decide) k) ?_
          refine gb (mkF m 387 #[vi p0, vj q1, .second, vj q2, .second, vi (kT p0), vi (uT p0), vi (cT p0), vi (aT p0), vr b1, vr b18, vr r_42, vr r_47, vi (fj0_0 p0 q1 w1 w2 w3 G1 sf), vr w1, vi 0, vi (uT p0), vi (fj0_1 p0 q1 q2 w1 w2 w3 G1 sf), vi ((uT p0) - (0 : Int32))] [(.int 0)]) (fun _ k => XS.iconst X56.here hx rfl (hb hby at_386) k) ?_
          exact J61 _ _ X56 e56 N56 (0 : Int32) (show (0 : Int32) = (fj0_2 p0 q1 q2 w1 w2 w3 G1 sf) by unfold fj0_2; rw [if_neg hf62]; try rfl)
      refine gb (mkF m 279 #[vi p0, vj q1, .second, vj q2, .second, vi (kT p0), vi (uT p0), vi (cT p0), vi (aT p0), vr b1, vr b18, vr r_42, vr r_47, vi (fj0_0 p0 q1 w1 w2 w3 G1 sf), vr w1, vi 0, vi (uT p0), .unset, .unset] []) (fun _ k => XS.icmpYes X53.here hx rfl (pc0 := 265) (pc' := 279) rfl (hb hby at_265) rfl (feq (fun q => absurd (hf52.symm.trans q) (by decide))).2 (by decide) (by decide) k) ?_
      refine gb (mkF m 281 #[vi p0, vj q1, .second, vj q2, .second, vi (kT p0), vi (uT p0), vi (cT p0), vi (aT p0), vr b1, vr b18, vr r_42, vr r_47, vi (fj0_0 p0 q1 w1 w2 w3 G1 sf), vr w1, vi 0, vi (uT p0), .unset, .unset] [(.int (uT p0))]) (fun _ k => XS.iload X53.here hx rfl (hb hby at_279) rfl k) ?_
      refine gb (mkF m 283 #[vi p0, vj q1, .second, vj q2, .second, vi (kT p0), vi (uT p0), vi (cT p0), vi (aT p0), vr b1, vr b18, vr r_42, vr r_47, vi (fj0_0 p0 q1 w1 w2 w3 G1 sf), vr w1, vi 0, vi (uT p0), .unset, .unset] [(.int 0), (.int (uT p0))]) (fun _ k => XS.iload X53.here hx rfl (hb hby at_281) rfl k) ?_
      refine gb (mkF m 284 #[vi p0, vj q1, .second, vj q2, .second, vi (kT p0), vi (uT p0), vi (cT p0), vi (aT p0), vr b1, vr b18, vr r_42, vr r_47, vi (fj0_0 p0 q1 w1 w2 w3 G1 sf), vr w1, vi 0, vi (uT p0), .unset, .unset] [(.int ((uT p0) - (0 : Int32)))]) (fun _ k => XS.isub X53.here hx rfl (hb hby at_283) rfl k) ?_
      refine gb (mkF m 286 #[vi p0, vj q1, .second, vj q2, .second, vi (kT p0), vi (uT p0), vi (cT p0), vi (aT p0), vr b1, vr b18, vr r_42, vr r_47, vi (fj0_0 p0 q1 w1 w2 w3 G1 sf), vr w1, vi 0, vi (uT p0), .unset, vi ((uT p0) - (0 : Int32))] []) (fun _ k => XS.istore X53.here hx rfl (hb hby at_284) rfl (l' := #[vi p0, vj q1, .second, vj q2, .second, vi (kT p0), vi (uT p0), vi (cT p0), vi (aT p0), vr b1, vr b18, vr r_42, vr r_47, vi (fj0_0 p0 q1 w1 w2 w3 G1 sf), vr w1, vi 0, vi (uT p0), .unset, vi ((uT p0) - (0 : Int32))]) rfl k) ?_
      refine gb (mkF m 288 #[vi p0, vj q1, .second, vj q2, .second, vi (kT p0), vi (uT p0), vi (cT p0), vi (aT p0), vr b1, vr b18, vr r_42, vr r_47, vi (fj0_0 p0 q1 w1 w2 w3 G1 sf), vr w1, vi 0, vi (uT p0), .unset, vi ((uT p0) - (0 : Int32))] [(.int (cT p0))]) (fun _ k => XS.iload X53.here hx rfl (hb hby at_286) rfl k) ?_
      refine gb (mkF m 290 #[vi p0, vj q1, .second, vj q2, .second, vi (kT p0), vi (uT p0), vi (cT p0), vi (aT p0), vr b1, vr b18, vr r_42, vr r_47, vi (fj0_0 p0 q1 w1 w2 w3 G1 sf), vr w1, vi 0, vi (uT p0), .unset, vi ((uT p0) - (0 : Int32))] [(.int (aT p0)), (.int (cT p0))]) (fun _ k => XS.iload X53.here hx rfl (hb hby at_288) rfl k) ?_
      refine gb (mkF m 291 #[vi p0, vj q1, .second, vj q2, .second, vi (kT p0), vi (uT p0), vi (cT p0), vi (aT p0), vr b1, vr b18, vr r_42, vr r_47, vi (fj0_0 p0 q1 w1 w2 w3 G1 sf), vr w1, vi 0, vi (uT p0), .unset, vi ((uT p0) - (0 : Int32))] [(.int ((cT p0) - (aT p0)))]) (fun _ k => XS.isub X53.here hx rfl (hb hby at_290) rfl k) ?_
      refine gb (mkF m 293 #[vi p0, vj q1, .second, vj q2, .second, vi (kT p0), vi (uT p0), vi (cT p0), vi (aT p0), vr b1, vr b18, vr r_42, vr r_47, vi (fj0_0 p0 q1 w1 w2 w3 G1 sf), vr w1, vi 0, vi (uT p0), .unset, vi ((uT p0) - (0 : Int32))] [(.int ((uT p0) - (0 : Int32))), (.int ((cT p0) - (aT p0)))]) (fun _ k => XS.iload X53.here hx rfl (hb hby at_291) rfl k) ?_
      by_cases hf63 : ((cT p0) - (aT p0)) < ((uT p0) - (0 : Int32))
      · refine gb (mkF m 296 #[vi p0, vj q1, .second, vj q2, .second, vi (kT p0), vi (uT p0), vi (cT p0), vi (aT p0), vr b1, vr b18, vr r_42, vr r_47, vi (fj0_0 p0 q1 w1 w2 w3 G1 sf), vr w1, vi 0, vi (uT p0), .unset, vi ((uT p0) - (0 : Int32))] []) (fun _ k => XS.icmpNo X53.here hx rfl (hb hby at_293) rfl (tlt hf63).2.1 k) ?_
        refine gb (mkF m 297 #[vi p0, vj q1, .second, vj q2, .second, vi (kT p0), vi (uT p0), vi (cT p0), vi (aT p0), vr b1, vr b18, vr r_42, vr r_47, vi (fj0_0 p0 q1 w1 w2 w3 G1 sf), vr w1, vi 0, vi (uT p0), .unset, vi ((uT p0) - (0 : Int32))] [(.int (-1 : Int32))]) (fun _ k => XS.iconst X53.here hx rfl (hb hby at_296) k) ?_
        refine gb (mkF m 299 #[vi p0, vj q1, .second, vj q2, .second, vi (kT p0), vi (uT p0), vi (cT p0), vi (aT p0), vr b1, vr b18, vr r_42, vr r_47, vi (fj0_0 p0 q1 w1 w2 w3 G1 sf), vr w1, vi 0, vi (uT p0), vi (-1 : Int32), vi ((uT p0) - (0 : Int32))] []) (fun _ k => XS.istore X53.here hx rfl (hb hby at_297) rfl (l' := #[vi p0, vj q1, .second, vj q2, .second, vi (kT p0), vi (uT p0), vi (cT p0), vi (aT p0), vr b1, vr b18, vr r_42, vr r_47, vi (fj0_0 p0 q1 w1 w2 w3 G1 sf), vr w1, vi 0, vi (uT p0), vi (-1 : Int32), vi ((uT p0) - (0 : Int32))]) rfl k) ?_
        refine gb (mkF m 366 #[vi p0, vj q1, .second, vj q2, .second, vi (kT p0), vi (uT p0), vi (cT p0), vi (aT p0), vr b1, vr b18, vr r_42, vr r_47, vi (fj0_0 p0 q1 w1 w2 w3 G1 sf), vr w1, vi 0, vi (uT p0), vi (-1 : Int32), vi ((uT p0) - (0 : Int32))] []) (fun _ k => XS.goto X53.here hx rfl (pc0 := 299) (pc' := 366) rfl (hb hby at_299) (by decide) (by decide) k) ?_
        exact J55 _ _ X53 e53 N' (-1 : Int32) (show (-1 : Int32) = (fj0_1 p0 q1 q2 w1 w2 w3 G1 sf) by unfold fj0_1; rw [if_pos hf63]; try rfl)
      · refine gb (mkF m 302 #[vi p0, vj q1, .second, vj q2, .second, vi (kT p0), vi (uT p0), vi (cT p0), vi (aT p0), vr b1, vr b18, vr r_42, vr r_47, vi (fj0_0 p0 q1 w1 w2 w3 G1 sf), vr w1, vi 0, vi (uT p0), .unset, vi ((uT p0) - (0 : Int32))] []) (fun _ k => XS.icmpYes X53.here hx rfl (pc0 := 293) (pc' := 302) rfl (hb hby at_293) rfl (flt hf63).2.1 (by decide) (by decide) k) ?_
        refine gb (mkF m 304 #[vi p0, vj q1, .second, vj q2, .second, vi (kT p0), vi (uT p0), vi (cT p0), vi (aT p0), vr b1, vr b18, vr r_42, vr r_47, vi (fj0_0 p0 q1 w1 w2 w3 G1 sf), vr w1, vi 0, vi (uT p0), .unset, vi ((uT p0) - (0 : Int32))] [(.ref b1)]) (fun _ k => XS.aload X53.here hx rfl (hb hby at_302) rfl rfl k) ?_
        refine gb (mkF m 306 #[vi p0, vj q1, .second, vj q2, .second, vi (kT p0), vi (uT p0), vi (cT p0), vi (aT p0), vr b1, vr b18, vr r_42, vr r_47, vi (fj0_0 p0 q1 w1 w2 w3 G1 sf), vr w1, vi 0, vi (uT p0), .unset, vi ((uT p0) - (0 : Int32))] [(.int 0), (.ref b1)]) (fun _ k => XS.iload X53.here hx rfl (hb hby at_304) rfl k) ?_
        refine gb (mkF m 308 #[vi p0, vj q1, .second, vj q2, .second, vi (kT p0), vi (uT p0), vi (cT p0), vi (aT p0), vr b1, vr b18, vr r_42, vr r_47, vi (fj0_0 p0 q1 w1 w2 w3 G1 sf), vr w1, vi 0, vi (uT p0), .unset, vi ((uT p0) - (0 : Int32))] [(.ref b18), (.int 0), (.ref b1)]) (fun _ k => XS.aload X53.here hx rfl (hb hby at_306) rfl rfl k) ?_
        refine gb (mkF m 310 #[vi p0, vj q1, .second, vj q2, .second, vi (kT p0), vi (uT p0), vi (cT p0), vi (aT p0), vr b1, vr b18, vr r_42, vr r_47, vi (fj0_0 p0 q1 w1 w2 w3 G1 sf), vr w1, vi 0, vi (uT p0), .unset, vi ((uT p0) - (0 : Int32))] [(.int (aT p0)), (.ref b18), (.int 0), (.ref b1)]) (fun _ k => XS.iload X53.here hx rfl (hb hby at_308) rfl k) ?_
        refine gb (mkF m 312 #[vi p0, vj q1, .second, vj q2, .second, vi (kT p0), vi (uT p0), vi (cT p0), vi (aT p0), vr b1, vr b18, vr r_42, vr r_47, vi (fj0_0 p0 q1 w1 w2 w3 G1 sf), vr w1, vi 0, vi (uT p0), .unset, vi ((uT p0) - (0 : Int32))] [(.int ((uT p0) - (0 : Int32))), (.int (aT p0)), (.ref b18), (.int 0), (.ref b1)]) (fun _ k => XS.iload X53.here hx rfl (hb hby at_310) rfl k) ?_
        refine gb (mkF m 313 #[vi p0, vj q1, .second, vj q2, .second, vi (kT p0), vi (uT p0), vi (cT p0), vi (aT p0), vr b1, vr b18, vr r_42, vr r_47, vi (fj0_0 p0 q1 w1 w2 w3 G1 sf), vr w1, vi 0, vi (uT p0), .unset, vi ((uT p0) - (0 : Int32))] [(.int 0), (.int ((uT p0) - (0 : Int32))), (.int (aT p0)), (.ref b18), (.int 0), (.ref b1)]) (fun _ k => XS.iconst X53.here hx rfl (hb hby at_312) k) ?_
        have f65 := (Arv.keep (Arv.keep f43 Kc42 nin0) Kc47 nin0)
        have f66 := (Arv.keep f48 Kc47 nin0)
        obtain ⟨_, _, ⟨T64, L64, k64, n64⟩, -, X64, ⟨Lc64, hQ64, l64, y64, z64⟩, st64⟩ := callS X53 hx (y := mq15) hown (mvT hZ (hW hw 34 rfl)) (mvT hZ (hW hw 35 rfl)) (mvT hZ (hW hw 3 rfl)) (mvT hZ (hW hw 36 rfl)) (by decide) (backOf (W := 0) (rm60 l Z a0' hw [] b1 (0 : Int32) b18 (aT p0) ((uT p0) - (0 : Int32)) k1 k18 (nar .char (fn1 q1 w1 w2 w3 G1 sf)) (nar .char (fn1 (sR q1 (11 : Int32)) w1 w2 w3 G1 sf)) (nar .char (fn1 (sR q1 (22 : Int32)) w1 w2 w3 G1 sf)) (nar .char (fn1 q2 w1 w2 w3 G1 sf)) (nar .char (fn1 (sR q2 (11 : Int32)) w1 w2 w3 G1 sf)) (nar .char (fn1 (sR q2 (22 : Int32)) w1 w2 w3 G1 sf)) (nar .char (fn1 (sR q2 (33 : Int32)) w1 w2 w3 G1 sf)) w1 w2 w3 G1 sf T47.heap n0 O54 W f65 f66 (hmm (rg0 p0) hf63 (by decide) (by decide))) hZ (hW hw 36 rfl) (hW hw 3 rfl) (by decide) (by decide)) (g := (mkF m 313 #[vi p0, vj q1, .second, vj q2, .second, vi (kT p0), vi (uT p0), vi (cT p0), vi (aT p0), vr b1, vr b18, vr r_42, vr r_47, vi (fj0_0 p0 q1 w1 w2 w3 G1 sf), vr w1, vi 0, vi (uT p0), .unset, vi ((uT p0) - (0 : Int32))] [(.int 0), (.int ((uT p0) - (0 : Int32))), (.int (aT p0)), (.ref b18), (.int 0), (.ref b1)])) rfl (by rw [hml]; rfl) (argsL := [(.ref b1), (.int 0), (.ref b18), (.int (aT p0)), (.int ((uT p0) - (0 : Int32))), (.int 0)]) (rest := []) (lenOf pd495 rfl) rfl (Nat.le_of_eq rfl) (hb hby at_313) (fun _ _ => ⟨rfl, e53, (by decide : 14 + 0 ≤ _), (by decide : 31 + 0 ≤ _)⟩)
        dsimp only [Pt.U, Pt.locs, Pt.cells, Pt.slots] at X64 l64 y64 z64 st64 hQ64
        subst l64 y64 z64
        obtain ⟨rfl, N64q, e64⟩ := hQ64
        have N64 := Fr.app N' N64q
        refine gb (mkF m 316 #[vi p0, vj q1, .second, vj q2, .second, vi (kT p0), vi (uT p0), vi (cT p0), vi (aT p0), vr b1, vr b18, vr r_42, vr r_47, vi (fj0_0 p0 q1 w1 w2 w3 G1 sf), vr w1, vi 0, vi (uT p0), .unset, vi ((uT p0) - (0 : Int32))] [(.int (fn60 (0 : Int32) (aT p0) ((uT p0) - (0 : Int32)) (nar .char (fn1 q1 w1 w2 w3 G1 sf)) (nar .char (fn1 (sR q1 (11 : Int32)) w1 w2 w3 G1 sf)) (nar .char (fn1 (sR q1 (22 : Int32)) w1 w2 w3 G1 sf)) (nar .char (fn1 q2 w1 w2 w3 G1 sf)) (nar .char (fn1 (sR q2 (11 : Int32)) w1 w2 w3 G1 sf)) (nar .char (fn1 (sR q2 (22 : Int32)) w1 w2 w3 G1 sf)) (nar .char (fn1 (sR q2 (33 : Int32)) w1 w2 w3 G1 sf)) w1 w2 w3 G1 sf))]) st64 ?_
        by_cases hf67 : (fn60 (0 : Int32) (aT p0) ((uT p0) - (0 : Int32)) (nar .char (fn1 q1 w1 w2 w3 G1 sf)) (nar .char (fn1 (sR q1 (11 : Int32)) w1 w2 w3 G1 sf)) (nar .char (fn1 (sR q1 (22 : Int32)) w1 w2 w3 G1 sf)) (nar .char (fn1 q2 w1 w2 w3 G1 sf)) (nar .char (fn1 (sR q2 (11 : Int32)) w1 w2 w3 G1 sf)) (nar .char (fn1 (sR q2 (22 : Int32)) w1 w2 w3 G1 sf)) (nar .char (fn1 (sR q2 (33 : Int32)) w1 w2 w3 G1 sf)) w1 w2 w3 G1 sf) = (0 : Int32)
        · refine gb (mkF m 363 #[vi p0, vj q1, .second, vj q2, .second, vi (kT p0), vi (uT p0), vi (cT p0), vi (aT p0), vr b1, vr b18, vr r_42, vr r_47, vi (fj0_0 p0 q1 w1 w2 w3 G1 sf), vr w1, vi 0, vi (uT p0), .unset, vi ((uT p0) - (0 : Int32))] []) (fun _ k => XS.ifYes X64.here hx rfl (pc0 := 316) (pc' := 363) rfl (hb hby at_316) rfl ((if0 _ _).trans (teq hf67).1) (by decide) (by decide) k) ?_
          refine gb (mkF m 364 #[vi p0, vj q1, .second, vj q2, .second, vi (kT p0), vi (uT p0), vi (cT p0), vi (aT p0), vr b1, vr b18, vr r_42, vr r_47, vi (fj0_0 p0 q1 w1 w2 w3 G1 sf), vr w1, vi 0, vi (uT p0), .unset, vi ((uT p0) - (0 : Int32))] [(.int (-1 : Int32))]) (fun _ k => XS.iconst X64.here hx rfl (hb hby at_363) k) ?_
          refine gb (mkF m 366 #[vi p0, vj q1, .second, vj q2, .second, vi (kT p0), vi (uT p0), vi (cT p0), vi (aT p0), vr b1, vr b18, vr r_42, vr r_47, vi (fj0_0 p0 q1 w1 w2 w3 G1 sf), vr w1, vi 0, vi (uT p0), vi (-1 : Int32), vi ((uT p0) - (0 : Int32))] []) (fun _ k => XS.istore X64.here hx rfl (hb hby at_364) rfl (l' := #[vi p0, vj q1, .second, vj q2, .second, vi (kT p0), vi (uT p0), vi (cT p0), vi (aT p0), vr b1, vr b18, vr r_42, vr r_47, vi (fj0_0 p0 q1 w1 w2 w3 G1 sf), vr w1, vi 0, vi (uT p0), vi (-1 : Int32), vi ((uT p0) - (0 : Int32))]) rfl k) ?_
          exact J55 _ _ X64 e64 N64 (-1 : Int32) (show (-1 : Int32) = (fj0_1 p0 q1 q2 w1 w2 w3 G1 sf) by unfold fj0_1; rw [if_neg hf63, if_pos hf67]; try rfl)
        · refine gb (mkF m 319 #[vi p0, vj q1, .second, vj q2, .second, vi (kT p0), vi (uT p0), vi (cT p0), vi (aT p0), vr b1, vr b18, vr r_42, vr r_47, vi (fj0_0 p0 q1 w1 w2 w3 G1 sf), vr w1, vi 0, vi (uT p0), .unset, vi ((uT p0) - (0 : Int32))] []) (fun _ k => XS.ifNo X64.here hx rfl (hb hby at_316) rfl ((if0 _ _).trans (feq hf67).1) k) ?_
          refine gb (mkF m 321 #[vi p0, vj q1, .second, vj q2, .second, vi (kT p0), vi (uT p0), vi (cT p0), vi (aT p0), vr b1, vr b18, vr r_42, vr r_47, vi (fj0_0 p0 q1 w1 w2 w3 G1 sf), vr w1, vi 0, vi (uT p0), .unset, vi ((uT p0) - (0 : Int32))] [(.ref b1)]) (fun _ k => XS.aload X64.here hx rfl (hb hby at_319) rfl rfl k) ?_
          refine gb (mkF m 323 #[vi p0, vj q1, .second, vj q2, .second, vi (kT p0), vi (uT p0), vi (cT p0), vi (aT p0), vr b1, vr b18, vr r_42, vr r_47, vi (fj0_0 p0 q1 w1 w2 w3 G1 sf), vr w1, vi 0, vi (uT p0), .unset, vi ((uT p0) - (0 : Int32))] [(.int 0), (.ref b1)]) (fun _ k => XS.iload X64.here hx rfl (hb hby at_321) rfl k) ?_
          refine gb (mkF m 325 #[vi p0, vj q1, .second, vj q2, .second, vi (kT p0), vi (uT p0), vi (cT p0), vi (aT p0), vr b1, vr b18, vr r_42, vr r_47, vi (fj0_0 p0 q1 w1 w2 w3 G1 sf), vr w1, vi 0, vi (uT p0), .unset, vi ((uT p0) - (0 : Int32))] [(.ref b18), (.int 0), (.ref b1)]) (fun _ k => XS.aload X64.here hx rfl (hb hby at_323) rfl rfl k) ?_
          refine gb (mkF m 327 #[vi p0, vj q1, .second, vj q2, .second, vi (kT p0), vi (uT p0), vi (cT p0), vi (aT p0), vr b1, vr b18, vr r_42, vr r_47, vi (fj0_0 p0 q1 w1 w2 w3 G1 sf), vr w1, vi 0, vi (uT p0), .unset, vi ((uT p0) - (0 : Int32))] [(.int (aT p0)), (.ref b18), (.int 0), (.ref b1)]) (fun _ k => XS.iload X64.here hx rfl (hb hby at_325) rfl k) ?_
          refine gb (mkF m 329 #[vi p0, vj q1, .second, vj q2, .second, vi (kT p0), vi (uT p0), vi (cT p0), vi (aT p0), vr b1, vr b18, vr r_42, vr r_47, vi (fj0_0 p0 q1 w1 w2 w3 G1 sf), vr w1, vi 0, vi (uT p0), .unset, vi ((uT p0) - (0 : Int32))] [(.int ((uT p0) - (0 : Int32))), (.int (aT p0)), (.ref b18), (.int 0), (.ref b1)]) (fun _ k => XS.iload X64.here hx rfl (hb hby at_327) rfl k) ?_
          refine gb (mkF m 330 #[vi p0, vj q1, .second, vj q2, .second, vi (kT p0), vi (uT p0), vi (cT p0), vi (aT p0), vr b1, vr b18, vr r_42, vr r_47, vi (fj0_0 p0 q1 w1 w2 w3 G1 sf), vr w1, vi 0, vi (uT p0), .unset, vi ((uT p0) - (0 : Int32))] [(.int 1), (.int ((uT p0) - (0 : Int32))), (.int (aT p0)), (.ref b18), (.int 0), (.ref b1)]) (fun _ k => XS.iconst X64.here hx rfl (hb hby at_329) k) ?_
          obtain ⟨_, _, ⟨T68, L68, k68, n68⟩, -, X68, ⟨Lc68, hQ68, l68, y68, z68⟩, st68⟩ := callS X64 hx (y := mq15) hown (mvT hZ (hW hw 34 rfl)) (mvT hZ (hW hw 35 rfl)) (mvT hZ (hW hw 3 rfl)) (mvT hZ (hW hw 36 rfl)) (by decide) (backOf (W := 0) (rm61 l Z a0' hw [] b1 (0 : Int32) b18 (aT p0) ((uT p0) - (0 : Int32)) k1 k18 (nar .char (fn1 q1 w1 w2 w3 G1 sf)) (nar .char (fn1 (sR q1 (11 : Int32)) w1 w2 w3 G1 sf)) (nar .char (fn1 (sR q1 (22 : Int32)) w1 w2 w3 G1 sf)) (nar .char (fn1 q2 w1 w2 w3 G1 sf)) (nar .char (fn1 (sR q2 (11 : Int32)) w1 w2 w3 G1 sf)) (nar .char (fn1 (sR q2 (22 : Int32)) w1 w2 w3 G1 sf)) (nar .char (fn1 (sR q2 (33 : Int32)) w1 w2 w3 G1 sf)) w1 w2 w3 G1 sf T47.heap n0 O54 W f65 f66 (hmm (rg0 p0) hf63 (by decide) (by decide))) hZ (hW hw 36 rfl) (hW hw 3 rfl) (by decide) (by decide)) (g := (mkF m 330 #[vi p0, vj q1, .second, vj q2, .second, vi (kT p0), vi (uT p0), vi (cT p0), vi (aT p0), vr b1, vr b18, vr r_42, vr r_47, vi (fj0_0 p0 q1 w1 w2 w3 G1 sf), vr w1, vi 0, vi (uT p0), .unset, vi ((uT p0) - (0 : Int32))] [(.int 1), (.int ((uT p0) - (0 : Int32))), (.int (aT p0)), (.ref b18), (.int 0), (.ref b1)])) rfl (by rw [hml]; rfl) (argsL := [(.ref b1), (.int 0), (.ref b18), (.int (aT p0)), (.int ((uT p0) - (0 : Int32))), (.int 1)]) (rest := []) (lenOf pd495 rfl) rfl (Nat.le_of_eq rfl) (hb hby at_330) (fun _ _ => ⟨rfl, e64, (by decide : 14 + 0 ≤ _), (by decide : 31 + 0 ≤ _)⟩)
          dsimp only [Pt.U, Pt.locs, Pt.cells, Pt.slots] at X68 l68 y68 z68 st68 hQ68
          subst l68 y68 z68
          obtain ⟨rfl, N68q, e68⟩ := hQ68
          have N68 := Fr.app N64 N68q
          refine gb (mkF m 333 #[vi p0, vj q1, .second, vj q2, .second, vi (kT p0), vi (uT p0), vi (cT p0), vi (aT p0), vr b1, vr b18, vr r_42, vr r_47, vi (fj0_0 p0 q1 w1 w2 w3 G1 sf), vr w1, vi 0, vi (uT p0), .unset, vi ((uT p0) - (0 : Int32))] [(.int (fn61 (0 : Int32) (aT p0) ((uT p0) - (0 : Int32)) (nar .char (fn1 q1 w1 w2 w3 G1 sf)) (nar .char (fn1 (sR q1 (11 : Int32)) w1 w2 w3 G1 sf)) (nar .char (fn1 (sR q1 (22 : Int32)) w1 w2 w3 G1 sf)) (nar .char (fn1 q2 w1 w2 w3 G1 sf)) (nar .char (fn1 (sR q2 (11 : Int32)) w1 w2 w3 G1 sf)) (nar .char (fn1 (sR q2 (22 : Int32)) w1 w2 w3 G1 sf)) (nar .char (fn1 (sR q2 (33 : Int32)) w1 w2 w3 G1 sf)) w1 w2 w3 G1 sf))]) st68 ?_
          by_cases hf69 : (fn61 (0 : Int32) (aT p0) ((uT p0) - (0 : Int32)) (nar .char (fn1 q1 w1 w2 w3 G1 sf)) (nar .char (fn1 (sR q1 (11 : Int32)) w1 w2 w3 G1 sf)) (nar .char (fn1 (sR q1 (22 : Int32)) w1 w2 w3 G1 sf)) (nar .char (fn1 q2 w1 w2 w3 G1 sf)) (nar .char (fn1 (sR q2 (11 : Int32)) w1 w2 w3 G1 sf)) (nar .char (fn1 (sR q2 (22 : Int32)) w1 w2 w3 G1 sf)) (nar .char (fn1 (sR q2 (33 : Int32)) w1 w2 w3 G1 sf)) w1 w2 w3 G1 sf) = (0 : Int32)
          · refine gb (mkF m 363 #[vi p0, vj q1, .second, vj q2, .second, vi (kT p0), vi (uT p0), vi (cT p0), vi (aT p0), vr b1, vr b18, vr r_42, vr r_47, vi (fj0_0 p0 q1 w1 w2 w3 G1 sf), vr w1, vi 0, vi (uT p0), .unset, vi ((uT p0) - (0 : Int32))] []) (fun _ k => XS.ifYes X68.here hx rfl (pc0 := 333) (pc' := 363) rfl (hb hby at_333) rfl ((if0 _ _).trans (teq hf69).1) (by decide) (by decide) k) ?_
            refine gb (mkF m 364 #[vi p0, vj q1, .second, vj q2, .second, vi (kT p0), vi (uT p0), vi (cT p0), vi (aT p0), vr b1, vr b18, vr r_42, vr r_47, vi (fj0_0 p0 q1 w1 w2 w3 G1 sf), vr w1, vi 0, vi (uT p0), .unset, vi ((uT p0) - (0 : Int32))] [(.int (-1 : Int32))]) (fun _ k => XS.iconst X68.here hx rfl (hb hby at_363) k) ?_
            refine gb (mkF m 366 #[vi p0, vj q1, .second, vj q2, .second, vi (kT p0), vi (uT p0), vi (cT p0), vi (aT p0), vr b1, vr b18, vr r_42, vr r_47, vi (fj0_0 p0 q1 w1 w2 w3 G1 sf), vr w1, vi 0, vi (uT p0), vi (-1 : Int32), vi ((uT p0) - (0 : Int32))] []) (fun _ k => XS.istore X68.here hx rfl (hb hby at_364) rfl (l' := #[vi p0, vj q1, .second, vj q2, .second, vi (kT p0), vi (uT p0), vi (cT p0), vi (aT p0), vr b1, vr b18, vr r_42, vr r_47, vi (fj0_0 p0 q1 w1 w2 w3 G1 sf), vr w1, vi 0, vi (uT p0), vi (-1 : Int32), vi ((uT p0) - (0 : Int32))]) rfl k) ?_
            exact J55 _ _ X68 e68 N68 (-1 : Int32) (show (-1 : Int32) = (fj0_1 p0 q1 q2 w1 w2 w3 G1 sf) by unfold fj0_1; rw [if_neg hf63, if_neg hf67, if_pos hf69]; try rfl)
          · refine gb (mkF m 336 #[vi p0, vj q1, .second, vj q2, .second, vi (kT p0), vi (uT p0), vi (cT p0), vi (aT p0), vr b1, vr b18, vr r_42, vr r_47, vi (fj0_0 p0 q1 w1 w2 w3 G1 sf), vr w1, vi 0, vi (uT p0), .unset, vi ((uT p0) - (0 : Int32))] []) (fun _ k => XS.ifNo X68.here hx rfl (hb hby at_333) rfl ((if0 _ _).trans (feq hf69).1) k) ?_
            refine gb (mkF m 338 #[vi p0, vj q1, .second, vj q2, .second, vi (kT p0), vi (uT p0), vi (cT p0), vi (aT p0), vr b1, vr b18, vr r_42, vr r_47, vi (fj0_0 p0 q1 w1 w2 w3 G1 sf), vr w1, vi 0, vi (uT p0), .unset, vi ((uT p0) - (0 : Int32))] [(.ref b1)]) (fun _ k => XS.aload X68.here hx rfl (hb hby at_336) rfl rfl k) ?_
            refine gb (mkF m 340 #[vi p0, vj q1, .second, vj q2, .second, vi (kT p0), vi (uT p0), vi (cT p0), vi (aT p0), vr b1, vr b18, vr r_42, vr r_47, vi (fj0_0 p0 q1 w1 w2 w3 G1 sf), vr w1, vi 0, vi (uT p0), .unset, vi ((uT p0) - (0 : Int32))] [(.int 0), (.ref b1)]) (fun _ k => XS.iload X68.here hx rfl (hb hby at_338) rfl k) ?_
            refine gb (mkF m 342 #[vi p0, vj q1, .second, vj q2, .second, vi (kT p0), vi (uT p0), vi (cT p0), vi (aT p0), vr b1, vr b18, vr r_42, vr r_47, vi (fj0_0 p0 q1 w1 w2 w3 G1 sf), vr w1, vi 0, vi (uT p0), .unset, vi ((uT p0) - (0 : Int32))] [(.ref b18), (.int 0), (.ref b1)]) (fun _ k => XS.aload X68.here hx rfl (hb hby at_340) rfl rfl k) ?_
            refine gb (mkF m 344 #[vi p0, vj q1, .second, vj q2, .second, vi (kT p0), vi (uT p0), vi (cT p0), vi (aT p0), vr b1, vr b18, vr r_42, vr r_47, vi (fj0_0 p0 q1 w1 w2 w3 G1 sf), vr w1, vi 0, vi (uT p0), .unset, vi ((uT p0) - (0 : Int32))] [(.int (aT p0)), (.ref b18), (.int 0), (.ref b1)]) (fun _ k => XS.iload X68.here hx rfl (hb hby at_342) rfl k) ?_
            refine gb (mkF m 346 #[vi p0, vj q1, .second, vj q2, .second, vi (kT p0), vi (uT p0), vi (cT p0), vi (aT p0), vr b1, vr b18, vr r_42, vr r_47, vi (fj0_0 p0 q1 w1 w2 w3 G1 sf), vr w1, vi 0, vi (uT p0), .unset, vi ((uT p0) - (0 : Int32))] [(.int ((uT p0) - (0 : Int32))), (.int (aT p0)), (.ref b18), (.int 0), (.ref b1)]) (fun _ k => XS.iload X68.here hx rfl (hb hby at_344) rfl k) ?_
            refine gb (mkF m 347 #[vi p0, vj q1, .second, vj q2, .second, vi (kT p0), vi (uT p0), vi (cT p0), vi (aT p0), vr b1, vr b18, vr r_42, vr r_47, vi (fj0_0 p0 q1 w1 w2 w3 G1 sf), vr w1, vi 0, vi (uT p0), .unset, vi ((uT p0) - (0 : Int32))] [(.int 2), (.int ((uT p0) - (0 : Int32))), (.int (aT p0)), (.ref b18), (.int 0), (.ref b1)]) (fun _ k => XS.iconst X68.here hx rfl (hb hby at_346) k) ?_
            obtain ⟨_, _, ⟨T70, L70, k70, n70⟩, -, X70, ⟨Lc70, hQ70, l70, y70, z70⟩, st70⟩ := callS X68 hx (y := mq15) hown (mvT hZ (hW hw 34 rfl)) (mvT hZ (hW hw 35 rfl)) (mvT hZ (hW hw 3 rfl)) (mvT hZ (hW hw 36 rfl)) (by decide) (backOf (W := 0) (rm62 l Z a0' hw [] b1 (0 : Int32) b18 (aT p0) ((uT p0) - (0 : Int32)) k1 k18 (nar .char (fn1 q1 w1 w2 w3 G1 sf)) (nar .char (fn1 (sR q1 (11 : Int32)) w1 w2 w3 G1 sf)) (nar .char (fn1 (sR q1 (22 : Int32)) w1 w2 w3 G1 sf)) (nar .char (fn1 q2 w1 w2 w3 G1 sf)) (nar .char (fn1 (sR q2 (11 : Int32)) w1 w2 w3 G1 sf)) (nar .char (fn1 (sR q2 (22 : Int32)) w1 w2 w3 G1 sf)) (nar .char (fn1 (sR q2 (33 : Int32)) w1 w2 w3 G1 sf)) w1 w2 w3 G1 sf T47.heap n0 O54 W f65 f66 (hmm (rg0 p0) hf63 (by decide) (by decide))) hZ (hW hw 36 rfl) (hW hw 3 rfl) (by decide) (by decide)) (g := (mkF m 347 #[vi p0, vj q1, .second, vj q2, .second, vi (kT p0), vi (uT p0), vi (cT p0), vi (aT p0), vr b1, vr b18, vr r_42, vr r_47, vi (fj0_0 p0 q1 w1 w2 w3 G1 sf), vr w1, vi 0, vi (uT p0), .unset, vi ((uT p0) - (0 : Int32))] [(.int 2), (.int ((uT p0) - (0 : Int32))), (.int (aT p0)), (.ref b18), (.int 0), (.ref b1)])) rfl (by rw [hml]; rfl) (argsL := [(.ref b1), (.int 0), (.ref b18), (.int (aT p0)), (.int ((uT p0) - (0 : Int32))), (.int 2)]) (rest := []) (lenOf pd495 rfl) rfl (Nat.le_of_eq rfl) (hb hby at_347) (fun _ _ => ⟨rfl, e68, (by decide : 14 + 0 ≤ _), (by decide : 31 + 0 ≤ _)⟩)
            dsimp only [Pt.U, Pt.locs, Pt.cells, Pt.slots] at X70 l70 y70 z70 st70 hQ70
            subst l70 y70 z70
            obtain ⟨rfl, N70q, e70⟩ := hQ70
            have N70 := Fr.app N68 N70q
            refine gb (mkF m 350 #[vi p0, vj q1, .second, vj q2, .second, vi (kT p0), vi (uT p0), vi (cT p0), vi (aT p0), vr b1, vr b18, vr r_42, vr r_47, vi (fj0_0 p0 q1 w1 w2 w3 G1 sf), vr w1, vi 0, vi (uT p0), .unset, vi ((uT p0) - (0 : Int32))] [(.int (fn62 (0 : Int32) (aT p0) ((uT p0) - (0 : Int32)) (nar .char (fn1 q1 w1 w2 w3 G1 sf)) (nar .char (fn1 (sR q1 (11 : Int32)) w1 w2 w3 G1 sf)) (nar .char (fn1 (sR q1 (22 : Int32)) w1 w2 w3 G1 sf)) (nar .char (fn1 q2 w1 w2 w3 G1 sf)) (nar .char (fn1 (sR q2 (11 : Int32)) w1 w2 w3 G1 sf)) (nar .char (fn1 (sR q2 (22 : Int32)) w1 w2 w3 G1 sf)) (nar .char (fn1 (sR q2 (33 : Int32)) w1 w2 w3 G1 sf)) w1 w2 w3 G1 sf))]) st70 ?_
            by_cases hf71 : (fn62 (0 : Int32) (aT p0) ((uT p0) - (0 : Int32)) (nar .char (fn1 q1 w1 w2 w3 G1 sf)) (nar .char (fn1 (sR q1 (11 : Int32)) w1 w2 w3 G1 sf)) (nar .char (fn1 (sR q1 (22 : Int32)) w1 w2 w3 G1 sf)) (nar .char (fn1 q2 w1 w2 w3 G1 sf)) (nar .char (fn1 (sR q2 (11 : Int32)) w1 w2 w3 G1 sf)) (nar .char (fn1 (sR q2 (22 : Int32)) w1 w2 w3 G1 sf)) (nar .char (fn1 (sR q2 (33 : Int32)) w1 w2 w3 G1 sf)) w1 w2 w3 G1 sf) = (0 : Int32)
            · refine gb (mkF m 363 #[vi p0, vj q1, .second, vj q2, .second, vi (kT p0), vi (uT p0), vi (cT p0), vi (aT p0), vr b1, vr b18, vr r_42, vr r_47, vi (fj0_0 p0 q1 w1 w2 w3 G1 sf), vr w1, vi 0, vi (uT p0), .unset, vi ((uT p0) - (0 : Int32))] []) (fun _ k => XS.ifYes X70.here hx rfl (pc0 := 350) (pc' := 363) rfl (hb hby at_350) rfl ((if0 _ _).trans (teq hf71).1) (by decide) (by decide) k) ?_
              refine gb (mkF m 364 #[vi p0, vj q1, .second, vj q2, .second, vi (kT p0), vi (uT p0), vi (cT p0), vi (aT p0), vr b1, vr b18, vr r_42, vr r_47, vi (fj0_0 p0 q1 w1 w2 w3 G1 sf), vr w1, vi 0, vi (uT p0), .unset, vi ((uT p0) - (0 : Int32))] [(.int (-1 : Int32))]) (fun _ k => XS.iconst X70.here hx rfl (hb hby at_363) k) ?_
              refine gb (mkF m 366 #[vi p0, vj q1, .second, vj q2, .second, vi (kT p0), vi (uT p0), vi (cT p0), vi (aT p0), vr b1, vr b18, vr r_42, vr r_47, vi (fj0_0 p0 q1 w1 w2 w3 G1 sf), vr w1, vi 0, vi (uT p0), vi (-1 : Int32), vi ((uT p0) - (0 : Int32))] []) (fun _ k => XS.istore X70.here hx rfl (hb hby at_364) rfl (l' := #[vi p0, vj q1, .second, vj q2, .second, vi (kT p0), vi (uT p0), vi (cT p0), vi (aT p0), vr b1, vr b18, vr r_42, vr r_47, vi (fj0_0 p0 q1 w1 w2 w3 G1 sf), vr w1, vi 0, vi (uT p0), vi (-1 : Int32), vi ((uT p0) - (0 : Int32))]) rfl k) ?_
              exact J55 _ _ X70 e70 N70 (-1 : Int32) (show (-1 : Int32) = (fj0_1 p0 q1 q2 w1 w2 w3 G1 sf) by unfold fj0_1; rw [if_neg hf63, if_neg hf67, if_neg hf69, if_pos hf71]; try rfl)
            · refine gb (mkF m 353 #[vi p0, vj q1, .second, vj q2, .second, vi (kT p0), vi (uT p0), vi (cT p0), vi (aT p0), vr b1, vr b18, vr r_42, vr r_47, vi (fj0_0 p0 q1 w1 w2 w3 G1 sf), vr w1, vi 0, vi (uT p0), .unset, vi ((uT p0) - (0 : Int32))] []) (fun _ k => XS.ifNo X70.here hx rfl (hb hby at_350) rfl ((if0 _ _).trans (feq hf71).1) k) ?_
              refine gb (mkF m 355 #[vi p0, vj q1, .second, vj q2, .second, vi (kT p0), vi (uT p0), vi (cT p0), vi (aT p0), vr b1, vr b18, vr r_42, vr r_47, vi (fj0_0 p0 q1 w1 w2 w3 G1 sf), vr w1, vi 0, vi (uT p0), .unset, vi ((uT p0) - (0 : Int32))] [(.int (aT p0))]) (fun _ k => XS.iload X70.here hx rfl (hb hby at_353) rfl k) ?_
              refine gb (mkF m 357 #[vi p0, vj q1, .second, vj q2, .second, vi (kT p0), vi (uT p0), vi (cT p0), vi (aT p0), vr b1, vr b18, vr r_42, vr r_47, vi (fj0_0 p0 q1 w1 w2 w3 G1 sf), vr w1, vi 0, vi (uT p0), .unset, vi ((uT p0) - (0 : Int32))] [(.int ((uT p0) - (0 : Int32))), (.int (aT p0))]) (fun _ k => XS.iload X70.here hx rfl (hb hby at_355) rfl k) ?_
              refine gb (mkF m 358 #[vi p0, vj q1, .second, vj q2, .second, vi (kT p0), vi (uT p0), vi (cT p0), vi (aT p0), vr b1, vr b18, vr r_42, vr r_47, vi (fj0_0 p0 q1 w1 w2 w3 G1 sf), vr w1, vi 0, vi (uT p0), .unset, vi ((uT p0) - (0 : Int32))] [(.int ((aT p0) + ((uT p0) - (0 : Int32))))]) (fun _ k => XS.iadd X70.here hx rfl (hb hby at_357) rfl k) ?_
              refine gb (mkF m 360 #[vi p0, vj q1, .second, vj q2, .second, vi (kT p0), vi (uT p0), vi (cT p0), vi (aT p0), vr b1, vr b18, vr r_42, vr r_47, vi (fj0_0 p0 q1 w1 w2 w3 G1 sf), vr w1, vi 0, vi (uT p0), vi ((aT p0) + ((uT p0) - (0 : Int32))), vi ((uT p0) - (0 : Int32))] []) (fun _ k => XS.istore X70.here hx rfl (hb hby at_358) rfl (l' := #[vi p0, vj q1, .second, vj q2, .second, vi (kT p0), vi (uT p0), vi (cT p0), vi (aT p0), vr b1, vr b18, vr r_42, vr r_47, vi (fj0_0 p0 q1 w1 w2 w3 G1 sf), vr w1, vi 0, vi (uT p0), vi ((aT p0) + ((uT p0) - (0 : Int32))), vi ((uT p0) - (0 : Int32))]) rfl k) ?_
              refine gb (mkF m 366 #[vi p0, vj q1, .second, vj q2, .second, vi (kT p0), vi (uT p0), vi (cT p0), vi (aT p0), vr b1, vr b18, vr r_42, vr r_47, vi (fj0_0 p0 q1 w1 w2 w3 G1 sf), vr w1, vi 0, vi (uT p0), vi ((aT p0) + ((uT p0) - (0 : Int32))), vi ((uT p0) - (0 : Int32))] []) (fun _ k => XS.goto X70.here hx rfl (pc0 := 360) (pc' := 366) rfl (hb hby at_360) (by decide) (by decide) k) ?_
              exact J55 _ _ X70 e70 N70 ((aT p0) + ((uT p0) - (0 : Int32))) (show ((aT p0) + ((uT p0) - (0 : Int32))) = (fj0_1 p0 q1 q2 w1 w2 w3 G1 sf) by unfold fj0_1; rw [if_neg hf63, if_neg hf67, if_neg hf69, if_neg hf71]; try rfl)
    · refine gb (mkF m 216 #[vi p0, vj q1, .second, vj q2, .second, vi (kT p0), vi (uT p0), vi (cT p0), vi (aT p0), vr b1, vr b18, vr r_42, vr r_47, vi (fj0_0 p0 q1 w1 w2 w3 G1 sf), .unset, .unset, .unset, .unset, .unset] []) (fun _ k => XS.ifYes X'.here hx rfl (pc0 := 198) (pc' := 216) rfl (hb hby at_198) rfl ((if0 _ _).trans (feq hf52).2) (by decide) (by decide) k) ?_
      refine gb (mkF m 218 #[vi p0, vj q1, .second, vj q2, .second, vi (kT p0), vi (uT p0), vi (cT p0), vi (aT p0), vr b1, vr b18, vr r_42, vr r_47, vi (fj0_0 p0 q1 w1 w2 w3 G1 sf), .unset, .unset, .unset, .unset, .unset] [(.int (kT p0))]) (fun _ k => XS.iload X'.here hx rfl (hb hby at_216) rfl k) ?_
      refine gb (mkF m 219 #[vi p0, vj q1, .second, vj q2, .second, vi (kT p0), vi (uT p0), vi (cT p0), vi (aT p0), vr b1, vr b18, vr r_42, vr r_47, vi (fj0_0 p0 q1 w1 w2 w3 G1 sf), .unset, .unset, .unset, .unset, .unset] [(.int 1), (.int (kT p0))]) (fun _ k => XS.iconst X'.here hx rfl (hb hby at_218) k) ?_
      by_cases hf72 : (kT p0) = (1 : Int32)
      · refine gb (mkF m 222 #[vi p0, vj q1, .second, vj q2, .second, vi (kT p0), vi (uT p0), vi (cT p0), vi (aT p0), vr b1, vr b18, vr r_42, vr r_47, vi (fj0_0 p0 q1 w1 w2 w3 G1 sf), .unset, .unset, .unset, .unset, .unset] []) (fun _ k => XS.icmpNo X'.here hx rfl (hb hby at_219) rfl (teq hf72).2 k) ?_
        have O74 := (O49.keep Kc47 all0)
        obtain ⟨T73, X73, e73, st73⟩ := getS2 X' hx hZ hown (host := "") (Or.inl (hW hw 95 rfl)) Via.refl eT (Sta.ext O74.2 W.2.2.1) (g := (mkF m 222 #[vi p0, vj q1, .second, vj q2, .second, vi (kT p0), vi (uT p0), vi (cT p0), vi (aT p0), vr b1, vr b18, vr r_42, vr r_47, vi (fj0_0 p0 q1 w1 w2 w3 G1 sf), .unset, .unset, .unset, .unset, .unset] [])) rfl (hb hby at_222)
        refine gb (mkF m 225 #[vi p0, vj q1, .second, vj q2, .second, vi (kT p0), vi (uT p0), vi (cT p0), vi (aT p0), vr b1, vr b18, vr r_42, vr r_47, vi (fj0_0 p0 q1 w1 w2 w3 G1 sf), .unset, .unset, .unset, .unset, .unset] [(.ref w2)]) st73 ?_
        refine gb (mkF m 227 #[vi p0, vj q1, .second, vj q2, .second, vi (kT p0), vi (uT p0), vi (cT p0), vi (aT p0), vr b1, vr b18, vr r_42, vr r_47, vi (fj0_0 p0 q1 w1 w2 w3 G1 sf), vr w2, .unset, .unset, .unset, .unset] []) (fun _ k => XS.astore X73.here hx rfl (hb hby at_225) rfl rfl (l' := #[vi p0, vj q1, .second, vj q2, .second, vi (kT p0), vi (uT p0), vi (cT p0), vi (aT p0), vr b1, vr b18, vr r_42, vr r_47, vi (fj0_0 p0 q1 w1 w2 w3 G1 sf), vr w2, .unset, .unset, .unset, .unset]) rfl k) ?_
        refine gb (mkF m 228 #[vi p0, vj q1, .second, vj q2, .second, vi (kT p0), vi (uT p0), vi (cT p0), vi (aT p0), vr b1, vr b18, vr r_42, vr r_47, vi (fj0_0 p0 q1 w1 w2 w3 G1 sf), vr w2, .unset, .unset, .unset, .unset] [(.int 0)]) (fun _ k => XS.iconst X73.here hx rfl (hb hby at_227) k) ?_
        refine gb (mkF m 230 #[vi p0, vj q1, .second, vj q2, .second, vi (kT p0), vi (uT p0), vi (cT p0), vi (aT p0), vr b1, vr b18, vr r_42, vr r_47, vi (fj0_0 p0 q1 w1 w2 w3 G1 sf), vr w2, vi 0, .unset, .unset, .unset] []) (fun _ k => XS.istore X73.here hx rfl (hb hby at_228) rfl (l' := #[vi p0, vj q1, .second, vj q2, .second, vi (kT p0), vi (uT p0), vi (cT p0), vi (aT p0), vr b1, vr b18, vr r_42, vr r_47, vi (fj0_0 p0 q1 w1 w2 w3 G1 sf), vr w2, vi 0, .unset, .unset, .unset]) rfl k) ?_
        refine gb (mkF m 232 #[vi p0, vj q1, .second, vj q2, .second, vi (kT p0), vi (uT p0), vi (cT p0), vi (aT p0), vr b1, vr b18, vr r_42, vr r_47, vi (fj0_0 p0 q1 w1 w2 w3 G1 sf), vr w2, vi 0, .unset, .unset, .unset] [(.int (fj0_0 p0 q1 w1 w2 w3 G1 sf))]) (fun _ k => XS.iload X73.here hx rfl (hb hby at_230) rfl k) ?_
        have J75 : ∀ (T' : State) (lc : List Loc) (X' : Stand p l e room_1 (s.setVm T47.vm) m #[(.int p0), (.long q1), (.long q2)] below meth c T' lc 14 31) (eT : T'.heap = T47.heap) (N' : Fr n0 lc) (zj75_0 : Int32) (hz75_0 : zj75_0 = (fj0_3 p0 q1 w1 w2 w3 G1 sf)), Gl p e below (PosW 32 1152 (Q0 Z p0 q1 q2 w1 w2 w3 G1 sf h0 n0) s) T' (mkF m 242 #[vi p0, vj q1, .second, vj q2, .second, vi (kT p0), vi (uT p0), vi (cT p0), vi (aT p0), vr b1, vr b18, vr r_42, vr r_47, vi (fj0_0 p0 q1 w1 w2 w3 G1 sf), vr w2, vi 0, .unset, .unset, .unset] [(.int zj75_0)]) := by
          intro T' lc X' eT N' zj75_0 hz75_0
          subst hz75_0
          refine gb (mkF m 244 #[vi p0, vj q1, .second, vj q2, .second, vi (kT p0), vi (uT p0), vi (cT p0), vi (aT p0), vr b1, vr b18, vr r_42, vr r_47, vi (fj0_0 p0 q1 w1 w2 w3 G1 sf), vr w2, vi 0, vi (fj0_3 p0 q1 w1 w2 w3 G1 sf), .unset, .unset] []) (fun _ k => XS.istore X'.here hx rfl (hb hby at_242) rfl (l' := #[vi p0, vj q1, .second, vj q2, .second, vi (kT p0), vi (uT p0), vi (cT p0), vi (aT p0), vr b1, vr b18, vr r_42, vr r_47, vi (fj0_0 p0 q1 w1 w2 w3 G1 sf), vr w2, vi 0, vi (fj0_3 p0 q1 w1 w2 w3 G1 sf), .unset, .unset]) rfl k) ?_
          refine gb (mkF m 262 #[vi p0, vj q1, .second, vj q2, .second, vi (kT p0), vi (uT p0), vi (cT p0), vi (aT p0), vr b1, vr b18, vr r_42, vr r_47, vi (fj0_0 p0 q1 w1 w2 w3 G1 sf), vr w2, vi 0, vi (fj0_3 p0 q1 w1 w2 w3 G1 sf), .unset, .unset] []) (fun _ k => XS.goto X'.here hx rfl (pc0 := 244) (pc' := 262) rfl (hb hby at_244) (by decide) (by decide) k) ?_
          refine gb (mkF m 264 #[vi p0, vj q1, .second, vj q2, .second, vi (kT p0), vi (uT p0), vi (cT p0), vi (aT p0), vr b1, vr b18, vr r_42, vr r_47, vi (fj0_0 p0 q1 w1 w2 w3 G1 sf), vr w2, vi 0, vi (fj0_3 p0 q1 w1 w2 w3 G1 sf), .unset, .unset] [(.int (kT p0))]) (fun _ k => XS.iload X'.here hx rfl (hb hby at_262) rfl k) ?_
          refine gb (mkF m 265 #[vi p0, vj q1, .second, vj q2, .second, vi (kT p0), vi (uT p0), vi (cT p0), vi (aT p0), vr b1, vr b18, vr r_42, vr r_47, vi (fj0_0 p0 q1 w1 w2 w3 G1 sf), vr w2, vi 0, vi (fj0_3 p0 q1 w1 w2 w3 G1 sf), .unset, .unset] [(.int 2), (.int (kT p0))]) (fun _ k => XS.iconst X'.here hx rfl (hb hby at_264) k) ?_
          have J76 : ∀ (T' : State) (lc : List Loc) (X' : Stand p l e room_1 (s.setVm T47.vm) m #[(.int p0), (.long q1), (.long q2)] below meth c T' lc 14 31) (eT : T'.heap = T47.heap) (N' : Fr n0 lc) (zj76_0 : Int32) (hz76_0 : zj76_0 = (fj0_4 p0 q1 q2 w1 w2 w3 G1 sf)), Gl p e below (PosW 32 1152 (Q0 Z p0 q1 q2 w1 w2 w3 G1 sf h0 n0) s) T' (mkF m 366 #[vi p0, vj q1, .second, vj q2, .second, vi (kT p0), vi (uT p0), vi (cT p0), vi (aT p0), vr b1, vr b18, vr r_42, vr r_47, vi (fj0_0 p0 q1 w1 w2 w3 G1 sf), vr w2, vi 0, vi (fj0_3 p0 q1 w1 w2 w3 G1 sf), vi zj76_0, vi ((fj0_3 p0 q1 w1 w2 w3 G1 sf) - (0 : Int32))] []) := by
            intro T' lc X' eT N' zj76_0 hz76_0
            subst hz76_0
            refine gb (mkF m 368 #[vi p0, vj q1, .second, vj q2, .second, vi (kT p0), vi (uT p0), vi (cT p0), vi (aT p0), vr b1, vr b18, vr r_42, vr r_47, vi (fj0_0 p0 q1 w1 w2 w3 G1 sf), vr w2, vi 0, vi (fj0_3 p0 q1 w1 w2 w3 G1 sf), vi (fj0_4 p0 q1 q2 w1 w2 w3 G1 sf), vi ((fj0_3 p0 q1 w1 w2 w3 G1 sf) - (0 : Int32))] [(.ref w2)]) (fun _ k => XS.aload X'.here hx rfl (hb hby at_366) rfl rfl k) ?_
            refine gb (mkF m 370 #[vi p0, vj q1, .second, vj q2, .second, vi (kT p0), vi (uT p0), vi (cT p0), vi (aT p0), vr b1, vr b18, vr r_42, vr r_47, vi (fj0_0 p0 q1 w1 w2 w3 G1 sf), vr w2, vi 0, vi (fj0_3 p0 q1 w1 w2 w3 G1 sf), vi (fj0_4 p0 q1 q2 w1 w2 w3 G1 sf), vi ((fj0_3 p0 q1 w1 w2 w3 G1 sf) - (0 : Int32))] [(.ref r_42), (.ref w2)]) (fun _ k => XS.aload X'.here hx rfl (hb hby at_368) rfl rfl k) ?_
            refine gb (mkF m 372 #[vi p0, vj q1, .second, vj q2, .second, vi (kT p0), vi (uT p0), vi (cT p0), vi (aT p0), vr b1, vr b18, vr r_42, vr r_47, vi (fj0_0 p0 q1 w1 w2 w3 G1 sf), vr w2, vi 0, vi (fj0_3 p0 q1 w1 w2 w3 G1 sf), vi (fj0_4 p0 q1 q2 w1 w2 w3 G1 sf), vi ((fj0_3 p0 q1 w1 w2 w3 G1 sf) - (0 : Int32))] [(.ref r_47), (.ref r_42), (.ref w2)]) (fun _ k => XS.aload X'.here hx rfl (hb hby at_370) rfl rfl k) ?_
            refine gb (mkF m 374 #[vi p0, vj q1, .second, vj q2, .second, vi (kT p0), vi (uT p0), vi (cT p0), vi (aT p0), vr b1, vr b18, vr r_42, vr r_47, vi (fj0_0 p0 q1 w1 w2 w3 G1 sf), vr w2, vi 0, vi (fj0_3 p0 q1 w1 w2 w3 G1 sf), vi (fj0_4 p0 q1 q2 w1 w2 w3 G1 sf), vi ((fj0_3 p0 q1 w1 w2 w3 G1 sf) - (0 : Int32))] [(.int (aT p0)), (.ref r_47), (.ref r_42), (.ref w2)]) (fun _ k => XS.iload X'.here hx rfl (hb hby at_372) rfl k) ?_
            have f78 := (Exa.keep fc42_0 Kc47)
            have f79 := (Fld.keep fc42_1 Kc47 nin0)
            have f80 := (Fld.keep fc42_2 Kc47 nin0)
            have f81 := (Arv.keep fc42_3 Kc47 nin0)
            obtain ⟨cq77, kq77, q77a, q77b, q77c⟩ := isOf hZ eT (Exa.ext O74.2 W.2.2.2.1)
            obtain ⟨_, _, ⟨T77, L77, k77, n77⟩, -, X77, ⟨Lc77, hQ77, l77, y77, z77⟩, st77⟩ := X'.virtualBack hx (y := mq25) (z := mq25) hown (mvT hZ (hW hw 37 rfl)) (mvT hZ (hW hw 38 rfl)) (notFace_of_selects (args := #[]) (mvT hZ (hW hw 40 rfl))) (mvT hZ (hW hw 40 rfl)) (mvT hZ (hW hw 39 rfl)) (by decide) (backOf (W := 0) (rm71 l Z a0' hw [] w2 r_42 r_47 (aT p0) b_42 kb_42 (uT p0) (stk (uT p0) [(nar .char (fn1 q1 w1 w2 w3 G1 sf)), (nar .char (fn1 (sR q1 (11 : Int32)) w1 w2 w3 G1 sf)), (nar .char (fn1 (sR q1 (22 : Int32)) w1 w2 w3 G1 sf))]) b_47 kb_47 (cT p0) (stk (cT p0) [(nar .char (fn1 q2 w1 w2 w3 G1 sf)), (nar .char (fn1 (sR q2 (11 : Int32)) w1 w2 w3 G1 sf)), (nar .char (fn1 (sR q2 (22 : Int32)) w1 w2 w3 G1 sf)), (nar .char (fn1 (sR q2 (33 : Int32)) w1 w2 w3 G1 sf))]) w1 w2 w3 G1 sf T47.heap n0 O74 W (Exa.ext O74.2 W.2.2.2.1) (Fld.ext O74.2 W.2.2.2.2.2.2.2.1) f78 f79 f80 f81 fc47_0 fc47_1 fc47_2 fc47_3 (rg0 p0)) hZ (hW hw 41 rfl) (hW hw 32 rfl) (by decide) (by decide)) q77a q77c (g := (mkF m 374 #[vi p0, vj q1, .second, vj q2, .second, vi (kT p0), vi (uT p0), vi (cT p0), vi (aT p0), vr b1, vr b18, vr r_42, vr r_47, vi (fj0_0 p0 q1 w1 w2 w3 G1 sf), vr w2, vi 0, vi (fj0_3 p0 q1 w1 w2 w3 G1 sf), vi (fj0_4 p0 q1 q2 w1 w2 w3 G1 sf), vi ((fj0_3 p0 q1 w1 w2 w3 G1 sf) - (0 : Int32))] [(.int (aT p0)), (.ref r_47), (.ref r_42), (.ref w2)])) rfl (by rw [hml]; rfl) (Steps.refl _) (argsL := [(.ref r_42), (.ref r_47), (.int (aT p0))]) (rest := []) (lenOf pd496 rfl) rfl (Nat.le_of_eq rfl) (hb hby at_374) (fun _ _ => ⟨rfl, eT, (by decide : 14 + 0 ≤ _), (by decide : 31 + 0 ≤ _)⟩)
            dsimp only [Pt.U, Pt.locs, Pt.cells, Pt.slots] at X77 l77 y77 z77 st77 hQ77
            subst l77 y77 z77
            obtain ⟨rfl, N77q, e77⟩ := hQ77
            have N77 := Fr.app N' N77q
            refine gb (mkF m 377 #[vi p0, vj q1, .second, vj q2, .second, vi (kT p0), vi (uT p0), vi (cT p0), vi (aT p0), vr b1, vr b18, vr r_42, vr r_47, vi (fj0_0 p0 q1 w1 w2 w3 G1 sf), vr w2, vi 0, vi (fj0_3 p0 q1 w1 w2 w3 G1 sf), vi (fj0_4 p0 q1 q2 w1 w2 w3 G1 sf), vi ((fj0_3 p0 q1 w1 w2 w3 G1 sf) - (0 : Int32))] [(.int (fn71 (aT p0) (uT p0) (stk (uT p0) [(nar .char (fn1 q1 w1 w2 w3 G1 sf)), (nar .char (fn1 (sR q1 (11 : Int32)) w1 w2 w3 G1 sf)), (nar .char (fn1 (sR q1 (22 : Int32)) w1 w2 w3 G1 sf))]) (cT p0) (stk (cT p0) [(nar .char (fn1 q2 w1 w2 w3 G1 sf)), (nar .char (fn1 (sR q2 (11 : Int32)) w1 w2 w3 G1 sf)), (nar .char (fn1 (sR q2 (22 : Int32)) w1 w2 w3 G1 sf)), (nar .char (fn1 (sR q2 (33 : Int32)) w1 w2 w3 G1 sf))]) w1 w2 w3 G1 sf))]) (fun _ k => st77.trans k) ?_
            refine gb (mkF m 379 #[vi p0, vj q1, .second, vj q2, .second, vi (kT p0), vi (uT p0), vi (cT p0), vi (aT p0), vr b1, vr b18, vr r_42, vr r_47, vi (fj0_0 p0 q1 w1 w2 w3 G1 sf), vr w2, vi 0, vi (fj0_3 p0 q1 w1 w2 w3 G1 sf), vi (fj0_4 p0 q1 q2 w1 w2 w3 G1 sf), vi ((fj0_3 p0 q1 w1 w2 w3 G1 sf) - (0 : Int32))] [(.int (fj0_4 p0 q1 q2 w1 w2 w3 G1 sf)), (.int (fn71 (aT p0) (uT p0) (stk (uT p0) [(nar .char (fn1 q1 w1 w2 w3 G1 sf)), (nar .char (fn1 (sR q1 (11 : Int32)) w1 w2 w3 G1 sf)), (nar .char (fn1 (sR q1 (22 : Int32)) w1 w2 w3 G1 sf))]) (cT p0) (stk (cT p0) [(nar .char (fn1 q2 w1 w2 w3 G1 sf)), (nar .char (fn1 (sR q2 (11 : Int32)) w1 w2 w3 G1 sf)), (nar .char (fn1 (sR q2 (22 : Int32)) w1 w2 w3 G1 sf)), (nar .char (fn1 (sR q2 (33 : Int32)) w1 w2 w3 G1 sf))]) w1 w2 w3 G1 sf))]) (fun _ k => XS.iload X77.here hx rfl (hb hby at_377) rfl k) ?_
            have J82 : ∀ (T' : State) (lc : List Loc) (X' : Stand p l e room_1 (s.setVm T47.vm) m #[(.int p0), (.long q1), (.long q2)] below meth c T' lc 14 31) (eT : T'.heap = T47.heap) (N' : Fr n0 lc) (zj82_0 : Int32) (hz82_0 : zj82_0 = (fj0_5 p0 q1 q2 w1 w2 w3 G1 sf)), Gl p e below (PosW 32 1152 (Q0 Z p0 q1 q2 w1 w2 w3 G1 sf h0 n0) s) T' (mkF m 387 #[vi p0, vj q1, .second, vj q2, .second, vi (kT p0), vi (uT p0), vi (cT p0), vi (aT p0), vr b1, vr b18, vr r_42, vr r_47, vi (fj0_0 p0 q1 w1 w2 w3 G1 sf), vr w2, vi 0, vi (fj0_3 p0 q1 w1 w2 w3 G1 sf), vi (fj0_4 p0 q1 q2 w1 w2 w3 G1 sf), vi ((fj0_3 p0 q1 w1 w2 w3 G1 sf) - (0 : Int32))] [(.int zj82_0)]) := by
              intro T' lc X' eT N' zj82_0 hz82_0
              subst hz82_0
              exact Gl.outNW X' hS (by rw [eT]; exact (Nat.le_refl _)) hx hk (t := .boolean) Bd.returns (by simp) (hb hby at_387) ⟨(congrArg (fun z => some (Value.int z)) (show nar .boolean (fj0_5 p0 q1 q2 w1 w2 w3 G1 sf) = fn0 p0 q1 q2 w1 w2 w3 G1 sf by unfold fn0; rw [if_neg hf52, if_pos hf72]; try rfl)), N'⟩ (by decide) (by decide)
            by_cases hf83 : (fn71 (aT p0) (uT p0) (stk (uT p0) [(nar .char (fn1 q1 w1 w2 w3 G1 sf)), (nar .char (fn1 (sR q1 (11 : Int32)) w1 w2 w3 G1 sf)), (nar .char (fn1 (sR q1 (22 : Int32)) w1 w2 w3 G1 sf))]) (cT p0) (stk (cT p0) [(nar .char (fn1 q2 w1 w2 w3 G1 sf)), (nar .char (fn1 (sR q2 (11 : Int32)) w1 w2 w3 G1 sf)), (nar .char (fn1 (sR q2 (22 : Int32)) w1 w2 w3 G1 sf)), (nar .char (fn1 (sR q2 (33 : Int32)) w1 w2 w3 G1 sf))]) w1 w2 w3 G1 sf) = (fj0_4 p0 q1 q2 w1 w2 w3 G1 sf)
            · refine gb (mkF m 382 #[vi p0, vj q1, .second, vj q2, .second, vi (kT p0), vi (uT p0), vi (cT p0), vi (aT p0), vr b1, vr b18, vr r_42, vr r_47, vi (fj0_0 p0 q1 w1 w2 w3 G1 sf), vr w2, vi 0, vi (fj0_3 p0 q1 w1 w2 w3 G1 sf), vi (fj0_4 p0 q1 q2 w1 w2 w3 G1 sf), vi ((fj0_3 p0 q1 w1 w2 w3 G1 sf) - (0 : Int32))] []) (fun _ k => XS.icmpNo X77.here hx rfl (hb hby at_379) rfl (teq hf83).2 k) ?_
              refine gb (mkF m 383 #[vi p0, vj q1, .second, vj q2, .second, vi (kT p0), vi (uT p0), vi (cT p0), vi (aT p0), vr b1, vr b18, vr r_42, vr r_47, vi (fj0_0 p0 q1 w1 w2 w3 G1 sf), vr w2, vi 0, vi (fj0_3 p0 q1 w1 w2 w3 G1 sf), vi (fj0_4 p0 q1 q2 w1 w2 w3 G1 sf), vi ((fj0_3 p0 q1 w1 w2 w3 G1 sf) - (0 : Int32))] [(.int 1)]) (fun _ k => XS.iconst X77.here hx rfl (hb hby at_382) k) ?_
              refine gb (mkF m 387 #[vi p0, vj q1, .second, vj q2, .second, vi (kT p0), vi (uT p0), vi (cT p0), vi (aT p0), vr b1, vr b18, vr r_42, vr r_47, vi (fj0_0 p0 q1 w1 w2 w3 G1 sf), vr w2, vi 0, vi (fj0_3 p0 q1 w1 w2 w3 G1 sf), vi (fj0_4 p0 q1 q2 w1 w2 w3 G1 sf), vi ((fj0_3 p0 q1 w1 w2 w3 G1 sf) - (0 : Int32))] [(.int 1)]) (fun _ k => XS.goto X77.here hx rfl (pc0 := 383) (pc' := 387) rfl (hb hby at_383) (by decide) (by decide) k) ?_
              exact J82 _ _ X77 e77 N77 (1 : Int32) (show (1 : Int32) = (fj0_5 p0 q1 q2 w1 w2 w3 G1 sf) by unfold fj0_5; rw [if_pos hf83]; try rfl)
            · refine gb (mkF m 386 #[vi p0, vj q1, .second, vj q2, .second, vi (kT p0), vi (uT p0), vi (cT p0), vi (aT p0), vr b1, vr b18, vr r_42, vr r_47, vi (fj0_0 p0 q1 w1 w2 w3 G1 sf), vr w2, vi 0, vi (fj0_3 p0 q1 w1 w2 w3 G1 sf), vi (fj0_4 p0 q1 q2 w1 w2 w3 G1 sf), vi ((fj0_3 p0 q1 w1 w2 w3 G1 sf) - (0 : Int32))] []) (fun _ k => XS.icmpYes X77.here hx rfl (pc0 := 379) (pc' := 386) rfl (hb hby at_379) rfl (feq hf83).2 (by decide) (by decide) k) ?_
              refine gb (mkF m 387 #[vi p0, vj q1, .second, vj q2, .second, vi (kT p0), vi (uT p0), vi (cT p0), vi (aT p0), vr b1, vr b18, vr r_42, vr r_47, vi (fj0_0 p0 q1 w1 w2 w3 G1 sf), vr w2, vi 0, vi (fj0_3 p0 q1 w1 w2 w3 G1 sf), vi (fj0_4 p0 q1 q2 w1 w2 w3 G1 sf), vi ((fj0_3 p0 q1 w1 w2 w3 G1 sf) - (0 : Int32))] [(.int 0)]) (fun _ k => XS.iconst X77.here hx rfl (hb hby at_386) k) ?_
              exact J82 _ _ X77 e77 N77 (0 : Int32) (show (0 : Int32) = (fj0_5 p0 q1 q2 w1 w2 w3 G1 sf) by unfold fj0_5; rw [if_neg hf83]; try rfl)
          refine gb (mkF m 279 #[vi p0, vj q1, .second, vj q2, .second, vi (kT p0), vi (uT p0), vi (cT p0), vi (aT p0), vr b1, vr b18, vr r_42, vr r_47, vi (fj0_0 p0 q1 w1 w2 w3 G1 sf), vr w2, vi 0, vi (fj0_3 p0 q1 w1 w2 w3 G1 sf), .unset, .unset] []) (fun _ k => XS.icmpYes X'.here hx rfl (pc0 := 265) (pc' := 279) rfl (hb hby at_265) rfl (feq (fun q => absurd (hf72.symm.trans q) (by decide))).2 (by decide) (by decide) k) ?_
          refine gb (mkF m 281 #[vi p0, vj q1, .second, vj q2, .second, vi (kT p0), vi (uT p0), vi (cT p0), vi (aT p0), vr b1, vr b18, vr r_42, vr r_47, vi (fj0_0 p0 q1 w1 w2 w3 G1 sf), vr w2, vi 0, vi (fj0_3 p0 q1 w1 w2 w3 G1 sf), .unset, .unset] [(.int (fj0_3 p0 q1 w1 w2 w3 G1 sf))]) (fun _ k => XS.iload X'.here hx rfl (hb hby at_279) rfl k) ?_
          refine gb (mkF m 283 #[vi p0, vj q1, .second, vj q2, .second, vi (kT p0), vi (uT p0), vi (cT p0), vi (aT p0), vr b1, vr b18, vr r_42, vr r_47, vi (fj0_0 p0 q1 w1 w2 w3 G1 sf), vr w2, vi 0, vi (fj0_3 p0 q1 w1 w2 w3 G1 sf), .unset, .unset] [(.int 0), (.int (fj0_3 p0 q1 w1 w2 w3 G1 sf))]) (fun _ k => XS.iload X'.here hx rfl (hb hby at_281) rfl k) ?_
          refine gb (mkF m 284 #[vi p0, vj q1, .second, vj q2, .second, vi (kT p0), vi (uT p0), vi (cT p0), vi (aT p0), vr b1, vr b18, vr r_42, vr r_47, vi (fj0_0 p0 q1 w1 w2 w3 G1 sf), vr w2, vi 0, vi (fj0_3 p0 q1 w1 w2 w3 G1 sf), .unset, .unset] [(.int ((fj0_3 p0 q1 w1 w2 w3 G1 sf) - (0 : Int32)))]) (fun _ k => XS.isub X'.here hx rfl (hb hby at_283) rfl k) ?_
          refine gb (mkF m 286 #[vi p0, vj q1, .second, vj q2, .second, vi (kT p0), vi (uT p0), vi (cT p0), vi (aT p0), vr b1, vr b18, vr r_42, vr r_47, vi (fj0_0 p0 q1 w1 w2 w3 G1 sf), vr w2, vi 0, vi (fj0_3 p0 q1 w1 w2 w3 G1 sf), .unset, vi ((fj0_3 p0 q1 w1 w2 w3 G1 sf) - (0 : Int32))] []) (fun _ k => XS.istore X'.here hx rfl (hb hby at_284) rfl (l' := #[vi p0, vj q1, .second, vj q2, .second, vi (kT p0), vi (uT p0), vi (cT p0), vi (aT p0), vr b1, vr b18, vr r_42, vr r_47, vi (fj0_0 p0 q1 w1 w2 w3 G1 sf), vr w2, vi 0, vi (fj0_3 p0 q1 w1 w2 w3 G1 sf), .unset, vi ((fj0_3 p0 q1 w1 w2 w3 G1 sf) - (0 : Int32))]) rfl k) ?_
          refine gb (mkF m 288 #[vi p0, vj q1, .second, vj q2, .second, vi (kT p0), vi (uT p0), vi (cT p0), vi (aT p0), vr b1, vr b18, vr r_42, vr r_47, vi (fj0_0 p0 q1 w1 w2 w3 G1 sf), vr w2, vi 0, vi (fj0_3 p0 q1 w1 w2 w3 G1 sf), .unset, vi ((fj0_3 p0 q1 w1 w2 w3 G1 sf) - (0 : Int32))] [(.int (cT p0))]) (fun _ k => XS.iload X'.here hx rfl (hb hby at_286) rfl k) ?_
          refine gb (mkF m 290 #[vi p0, vj q1, .second, vj q2, .second, vi (kT p0), vi (uT p0), vi (cT p0), vi (aT p0), vr b1, vr b18, vr r_42, vr r_47, vi (fj0_0 p0 q1 w1 w2 w3 G1 sf), vr w2, vi 0, vi (fj0_3 p0 q1 w1 w2 w3 G1 sf), .unset, vi ((fj0_3 p0 q1 w1 w2 w3 G1 sf) - (0 : Int32))] [(.int (aT p0)), (.int (cT p0))]) (fun _ k => XS.iload X'.here hx rfl (hb hby at_288) rfl k) ?_
          refine gb (mkF m 291 #[vi p0, vj q1, .second, vj q2, .second, vi (kT p0), vi (uT p0), vi (cT p0), vi (aT p0), vr b1, vr b18, vr r_42, vr r_47, vi (fj0_0 p0 q1 w1 w2 w3 G1 sf), vr w2, vi 0, vi (fj0_3 p0 q1 w1 w2 w3 G1 sf), .unset, vi ((fj0_3 p0 q1 w1 w2 w3 G1 sf) - (0 : Int32))] [(.int ((cT p0) - (aT p0)))]) (fun _ k => XS.isub X'.here hx rfl (hb hby at_290) rfl k) ?_
          refine gb (mkF m 293 #[vi p0, vj q1, .second, vj q2, .second, vi (kT p0), vi (uT p0), vi (cT p0), vi (aT p0), vr b1, vr b18, vr r_42, vr r_47, vi (fj0_0 p0 q1 w1 w2 w3 G1 sf), vr w2, vi 0, vi (fj0_3 p0 q1 w1 w2 w3 G1 sf), .unset, vi ((fj0_3 p0 q1 w1 w2 w3 G1 sf) - (0 : Int32))] [(.int ((fj0_3 p0 q1 w1 w2 w3 G1 sf) - (0 : Int32))), (.int ((cT p0) - (aT p0)))]) (fun _ k => XS.iload X'.here hx rfl (hb hby at_291) rfl k) ?_
          by_cases hf84 : ((cT p0) - (aT p0)) < ((fj0_3 p0 q1 w1 w2 w3 G1 sf) - (0 : Int32))
          · refine gb (mkF m 296 #[vi p0, vj q1, .second, vj q2, .second, vi (kT p0), vi (uT p0), vi (cT p0), vi (aT p0), vr b1, vr b18, vr r_42, vr r_47, vi (fj0_0 p0 q1 w1 w2 w3 G1 sf), vr w2, vi 0, vi (fj0_3 p0 q1 w1 w2 w3 G1 sf), .unset, vi ((fj0_3 p0 q1 w1 w2 w3 G1 sf) - (0 : Int32))] []) (fun _ k => XS.icmpNo X'.here hx rfl (hb hby at_293) rfl (tlt hf84).2.1 k) ?_
            refine gb (mkF m 297 #[vi p0, vj q1, .second, vj q2, .second, vi (kT p0), vi (uT p0), vi (cT p0), vi (aT p0), vr b1, vr b18, vr r_42, vr r_47, vi (fj0_0 p0 q1 w1 w2 w3 G1 sf), vr w2, vi 0, vi (fj0_3 p0 q1 w1 w2 w3 G1 sf), .unset, vi ((fj0_3 p0 q1 w1 w2 w3 G1 sf) - (0 : Int32))] [(.int (-1 : Int32))]) (fun _ k => XS.iconst X'.here hx rfl (hb hby at_296) k) ?_
            refine gb (mkF m 299 #[vi p0, vj q1, .second, vj q2, .second, vi (kT p0), vi (uT p0), vi (cT p0), vi (aT p0), vr b1, vr b18, vr r_42, vr r_47, vi (fj0_0 p0 q1 w1 w2 w3 G1 sf), vr w2, vi 0, vi (fj0_3 p0 q1 w1 w2 w3 G1 sf), vi (-1 : Int32), vi ((fj0_3 p0 q1 w1 w2 w3 G1 sf) - (0 : Int32))] []) (fun _ k => XS.istore X'.here hx rfl (hb hby at_297) rfl (l' := #[vi p0, vj q1, .second, vj q2, .second, vi (kT p0), vi (uT p0), vi (cT p0), vi (aT p0), vr b1, vr b18, vr r_42, vr r_47, vi (fj0_0 p0 q1 w1 w2 w3 G1 sf), vr w2, vi 0, vi (fj0_3 p0 q1 w1 w2 w3 G1 sf), vi (-1 : Int32), vi ((fj0_3 p0 q1 w1 w2 w3 G1 sf) - (0 : Int32))]) rfl k) ?_
            refine gb (mkF m 366 #[vi p0, vj q1, .second, vj q2, .second, vi (kT p0), vi (uT p0), vi (cT p0), vi (aT p0), vr b1, vr b18, vr r_42, vr r_47, vi (fj0_0 p0 q1 w1 w2 w3 G1 sf), vr w2, vi 0, vi (fj0_3 p0 q1 w1 w2 w3 G1 sf), vi (-1 : Int32), vi ((fj0_3 p0 q1 w1 w2 w3 G1 sf) - (0 : Int32))] []) (fun _ k => XS.goto X'.here hx rfl (pc0 := 299) (pc' := 366) rfl (hb hby at_299) (by decide) (by decide) k) ?_
            exact J76 _ _ X' eT N' (-1 : Int32) (show (-1 : Int32) = (fj0_4 p0 q1 q2 w1 w2 w3 G1 sf) by unfold fj0_4; rw [if_pos hf84]; try rfl)
          · refine gb (mkF m 302 #[vi p0, vj q1, .second, vj q2, .second, vi (kT p0), vi (uT p0), vi (cT p0), vi (aT p0), vr b1, vr b18, vr r_42, vr r_47, vi (fj0_0 p0 q1 w1 w2 w3 G1 sf), vr w2, vi 0, vi (fj0_3 p0 q1 w1 w2 w3 G1 sf), .unset, vi ((fj0_3 p0 q1 w1 w2 w3 G1 sf) - (0 : Int32))] []) (fun _ k => XS.icmpYes X'.here hx rfl (pc0 := 293) (pc' := 302) rfl (hb hby at_293) rfl (flt hf84).2.1 (by decide) (by decide) k) ?_
            refine gb (mkF m 304 #[vi p0, vj q1, .second, vj q2, .second, vi (kT p0), vi (uT p0), vi (cT p0), vi (aT p0), vr b1, vr b18, vr r_42, vr r_47, vi (fj0_0 p0 q1 w1 w2 w3 G1 sf), vr w2, vi 0, vi (fj0_3 p0 q1 w1 w2 w3 G1 sf), .unset, vi ((fj0_3 p0 q1 w1 w2 w3 G1 sf) - (0 : Int32))] [(.ref b1)]) (fun _ k => XS.aload X'.here hx rfl (hb hby at_302) rfl rfl k) ?_
            refine gb (mkF m 306 #[vi p0, vj q1, .second, vj q2, .second, vi (kT p0), vi (uT p0), vi (cT p0), vi (aT p0), vr b1, vr b18, vr r_42, vr r_47, vi (fj0_0 p0 q1 w1 w2 w3 G1 sf), vr w2, vi 0, vi (fj0_3 p0 q1 w1 w2 w3 G1 sf), .unset, vi ((fj0_3 p0 q1 w1 w2 w3 G1 sf) - (0 : Int32))] [(.int 0), (.ref b1)]) (fun _ k => XS.iload X'.here hx rfl (hb hby at_304) rfl k) ?_
            refine gb (mkF m 308 #[vi p0, vj q1, .second, vj q2, .second, vi (kT p0), vi (uT p0), vi (cT p0), vi (aT p0), vr b1, vr b18, vr r_42, vr r_47, vi (fj0_0 p0 q1 w1 w2 w3 G1 sf), vr w2, vi 0, vi (fj0_3 p0 q1 w1 w2 w3 G1 sf), .unset, vi ((fj0_3 p0 q1 w1 w2 w3 G1 sf) - (0 : Int32))] [(.ref b18), (.int 0), (.ref b1)]) (fun _ k => XS.aload X'.here hx rfl (hb hby at_306) rfl rfl k) ?_
            refine gb (mkF m 310 #[vi p0, vj q1, .second, vj q2, .second, vi (kT p0), vi (uT p0), vi (cT p0), vi (aT p0), vr b1, vr b18, vr r_42, vr r_47, vi (fj0_0 p0 q1 w1 w2 w3 G1 sf), vr w2, vi 0, vi (fj0_3 p0 q1 w1 w2 w3 G1 sf), .unset, vi ((fj0_3 p0 q1 w1 w2 w3 G1 sf) - (0 : Int32))] [(.int (aT p0)), (.ref b18), (.int 0), (.ref b1)]) (fun _ k => XS.iload X'.here hx rfl (hb hby at_308) rfl k) ?_
            refine gb (mkF m 312 #[vi p0, vj q1, .second, vj q2, .second, vi (kT p0), vi (uT p0), vi (cT p0), vi (aT p0), vr b1, vr b18, vr r_42, vr r_47, vi (fj0_0 p0 q1 w1 w2 w3 G1 sf), vr w2, vi 0, vi (fj0_3 p0 q1 w1 w2 w3 G1 sf), .unset, vi ((fj0_3 p0 q1 w1 w2 w3 G1 sf) - (0 : Int32))] [(.int ((fj0_3 p0 q1 w1 w2 w3 G1 sf) - (0 : Int32))), (.int (aT p0)), (.ref b18), (.int 0), (.ref b1)]) (fun _ k => XS.iload X'.here hx rfl (hb hby at_310) rfl k) ?_
            refine gb (mkF m 313 #[vi p0, vj q1, .second, vj q2, .second, vi (kT p0), vi (uT p0), vi (cT p0), vi (aT p0), vr b1, vr b18, vr r_42, vr r_47, vi (fj0_0 p0 q1 w1 w2 w3 G1 sf), vr w2, vi 0, vi (fj0_3 p0 q1 w1 w2 w3 G1 sf), .unset, vi ((fj0_3 p0 q1 w1 w2 w3 G1 sf) - (0 : Int32))] [(.int 0), (.int ((fj0_3 p0 q1 w1 w2 w3 G1 sf) - (0 : Int32))), (.int (aT p0)), (.ref b18), (.int 0), (.ref b1)]) (fun _ k => XS.iconst X'.here hx rfl (hb hby at_312) k) ?_
            have f86 := (Arv.keep (Arv.keep f43 Kc42 nin0) Kc47 nin0)
            have f87 := (Arv.keep f48 Kc47 nin0)
            obtain ⟨_, _, ⟨T85, L85, k85, n85⟩, -, X85, ⟨Lc85, hQ85, l85, y85, z85⟩, st85⟩ := callS X' hx (y := mq15) hown (mvT hZ (hW hw 34 rfl)) (mvT hZ (hW hw 35 rfl)) (mvT hZ (hW hw 3 rfl)) (mvT hZ (hW hw 36 rfl)) (by decide) (backOf (W := 0) (rm60 l Z a0' hw [] b1 (0 : Int32) b18 (aT p0) ((fj0_3 p0 q1 w1 w2 w3 G1 sf) - (0 : Int32)) k1 k18 (nar .char (fn1 q1 w1 w2 w3 G1 sf)) (nar .char (fn1 (sR q1 (11 : Int32)) w1 w2 w3 G1 sf)) (nar .char (fn1 (sR q1 (22 : Int32)) w1 w2 w3 G1 sf)) (nar .char (fn1 q2 w1 w2 w3 G1 sf)) (nar .char (fn1 (sR q2 (11 : Int32)) w1 w2 w3 G1 sf)) (nar .char (fn1 (sR q2 (22 : Int32)) w1 w2 w3 G1 sf)) (nar .char (fn1 (sR q2 (33 : Int32)) w1 w2 w3 G1 sf)) w1 w2 w3 G1 sf T47.heap n0 O74 W f86 f87 (hmm rgE hf84 (by decide) (by decide))) hZ (hW hw 36 rfl) (hW hw 3 rfl) (by decide) (by decide)) (g := (mkF m 313 #[vi p0, vj q1, .second, vj q2, .second, vi (kT p0), vi (uT p0), vi (cT p0), vi (aT p0), vr b1, vr b18, vr r_42, vr r_47, vi (fj0_0 p0 q1 w1 w2 w3 G1 sf), vr w2, vi 0, vi (fj0_3 p0 q1 w1 w2 w3 G1 sf), .unset, vi ((fj0_3 p0 q1 w1 w2 w3 G1 sf) - (0 : Int32))] [(.int 0), (.int ((fj0_3 p0 q1 w1 w2 w3 G1 sf) - (0 : Int32))), (.int (aT p0)), (.ref b18), (.int 0), (.ref b1)])) rfl (by rw [hml]; rfl) (argsL := [(.ref b1), (.int 0), (.ref b18), (.int (aT p0)), (.int ((fj0_3 p0 q1 w1 w2 w3 G1 sf) - (0 : Int32))), (.int 0)]) (rest := []) (lenOf pd495 rfl) rfl (Nat.le_of_eq rfl) (hb hby at_313) (fun _ _ => ⟨rfl, eT, (by decide : 14 + 0 ≤ _), (by decide : 31 + 0 ≤ _)⟩)
            dsimp only [Pt.U, Pt.locs, Pt.cells, Pt.slots] at X85 l85 y85 z85 st85 hQ85
            subst l85 y85 z85
            obtain ⟨rfl, N85q, e85⟩ := hQ85
            have N85 := Fr.app N' N85q
            refine gb (mkF m 316 #[vi p0, vj q1, .second, vj q2, .second, vi (kT p0), vi (uT p0), vi (cT p0), vi (aT p0), vr b1, vr b18, vr r_42, vr r_47, vi (fj0_0 p0 q1 w1 w2 w3 G1 sf), vr w2, vi 0, vi (fj0_3 p0 q1 w1 w2 w3 G1 sf), .unset, vi ((fj0_3 p0 q1 w1 w2 w3 G1 sf) - (0 : Int32))] [(.int (fn60 (0 : Int32) (aT p0) ((fj0_3 p0 q1 w1 w2 w3 G1 sf) - (0 : Int32)) (nar .char (fn1 q1 w1 w2 w3 G1 sf)) (nar .char (fn1 (sR q1 (11 : Int32)) w1 w2 w3 G1 sf)) (nar .char (fn1 (sR q1 (22 : Int32)) w1 w2 w3 G1 sf)) (nar .char (fn1 q2 w1 w2 w3 G1 sf)) (nar .char (fn1 (sR q2 (11 : Int32)) w1 w2 w3 G1 sf)) (nar .char (fn1 (sR q2 (22 : Int32)) w1 w2 w3 G1 sf)) (nar .char (fn1 (sR q2 (33 : Int32)) w1 w2 w3 G1 sf)) w1 w2 w3 G1 sf))]) st85 ?_
            by_cases hf88 : (fn60 (0 : Int32) (aT p0) ((fj0_3 p0 q1 w1 w2 w3 G1 sf) - (0 : Int32)) (nar .char (fn1 q1 w1 w2 w3 G1 sf)) (nar .char (fn1 (sR q1 (11 : Int32)) w1 w2 w3 G1 sf)) (nar .char (fn1 (sR q1 (22 : Int32)) w1 w2 w3 G1 sf)) (nar .char (fn1 q2 w1 w2 w3 G1 sf)) (nar .char (fn1 (sR q2 (11 : Int32)) w1 w2 w3 G1 sf)) (nar .char (fn1 (sR q2 (22 : Int32)) w1 w2 w3 G1 sf)) (nar .char (fn1 (sR q2 (33 : Int32)) w1 w2 w3 G1 sf)) w1 w2 w3 G1 sf) = (0 : Int32)
            · refine gb (mkF m 363 #[vi p0, vj q1, .second, vj q2, .second, vi (kT p0), vi (uT p0), vi (cT p0), vi (aT p0), vr b1, vr b18, vr r_42, vr r_47, vi (fj0_0 p0 q1 w1 w2 w3 G1 sf), vr w2, vi 0, vi (fj0_3 p0 q1 w1 w2 w3 G1 sf), .unset, vi ((fj0_3 p0 q1 w1 w2 w3 G1 sf) - (0 : Int32))] []) (fun _ k => XS.ifYes X85.here hx rfl (pc0 := 316) (pc' := 363) rfl (hb hby at_316) rfl ((if0 _ _).trans (teq hf88).1) (by decide) (by decide) k) ?_
              refine gb (mkF m 364 #[vi p0, vj q1, .second, vj q2, .second, vi (kT p0), vi (uT p0), vi (cT p0), vi (aT p0), vr b1, vr b18, vr r_42, vr r_47, vi (fj0_0 p0 q1 w1 w2 w3 G1 sf), vr w2, vi 0, vi (fj0_3 p0 q1 w1 w2 w3 G1 sf), .unset, vi ((fj0_3 p0 q1 w1 w2 w3 G1 sf) - (0 : Int32))] [(.int (-1 : Int32))]) (fun _ k => XS.iconst X85.here hx rfl (hb hby at_363) k) ?_
              refine gb (mkF m 366 #[vi p0, vj q1, .second, vj q2, .second, vi (kT p0), vi (uT p0), vi (cT p0), vi (aT p0), vr b1, vr b18, vr r_42, vr r_47, vi (fj0_0 p0 q1 w1 w2 w3 G1 sf), vr w2, vi 0, vi (fj0_3 p0 q1 w1 w2 w3 G1 sf), vi (-1 : Int32), vi ((fj0_3 p0 q1 w1 w2 w3 G1 sf) - (0 : Int32))] []) (fun _ k => XS.istore X85.here hx rfl (hb hby at_364) rfl (l' := #[vi p0, vj q1, .second, vj q2, .second, vi (kT p0), vi (uT p0), vi (cT p0), vi (aT p0), vr b1, vr b18, vr r_42, vr r_47, vi (fj0_0 p0 q1 w1 w2 w3 G1 sf), vr w2, vi 0, vi (fj0_3 p0 q1 w1 w2 w3 G1 sf), vi (-1 : Int32), vi ((fj0_3 p0 q1 w1 w2 w3 G1 sf) - (0 : Int32))]) rfl k) ?_
              exact J76 _ _ X85 e85 N85 (-1 : Int32) (show (-1 : Int32) = (fj0_4 p0 q1 q2 w1 w2 w3 G1 sf) by unfold fj0_4; rw [if_neg hf84, if_pos hf88]; try rfl)
            · refine gb (mkF m 319 #[vi p0, vj q1, .second, vj q2, .second, vi (kT p0), vi (uT p0), vi (cT p0), vi (aT p0), vr b1, vr b18, vr r_42, vr r_47, vi (fj0_0 p0 q1 w1 w2 w3 G1 sf), vr w2, vi 0, vi (fj0_3 p0 q1 w1 w2 w3 G1 sf), .unset, vi ((fj0_3 p0 q1 w1 w2 w3 G1 sf) - (0 : Int32))] []) (fun _ k => XS.ifNo X85.here hx rfl (hb hby at_316) rfl ((if0 _ _).trans (feq hf88).1) k) ?_
              refine gb (mkF m 321 #[vi p0, vj q1, .second, vj q2, .second, vi (kT p0), vi (uT p0), vi (cT p0), vi (aT p0), vr b1, vr b18, vr r_42, vr r_47, vi (fj0_0 p0 q1 w1 w2 w3 G1 sf), vr w2, vi 0, vi (fj0_3 p0 q1 w1 w2 w3 G1 sf), .unset, vi ((fj0_3 p0 q1 w1 w2 w3 G1 sf) - (0 : Int32))] [(.ref b1)]) (fun _ k => XS.aload X85.here hx rfl (hb hby at_319) rfl rfl k) ?_
              refine gb (mkF m 323 #[vi p0, vj q1, .second, vj q2, .second, vi (kT p0), vi (uT p0), vi (cT p0), vi (aT p0), vr b1, vr b18, vr r_42, vr r_47, vi (fj0_0 p0 q1 w1 w2 w3 G1 sf), vr w2, vi 0, vi (fj0_3 p0 q1 w1 w2 w3 G1 sf), .unset, vi ((fj0_3 p0 q1 w1 w2 w3 G1 sf) - (0 : Int32))] [(.int 0), (.ref b1)]) (fun _ k => XS.iload X85.here hx rfl (hb hby at_321) rfl k) ?_
              refine gb (mkF m 325 #[vi p0, vj q1, .second, vj q2, .second, vi (kT p0), vi (uT p0), vi (cT p0), vi (aT p0), vr b1, vr b18, vr r_42, vr r_47, vi (fj0_0 p0 q1 w1 w2 w3 G1 sf), vr w2, vi 0, vi (fj0_3 p0 q1 w1 w2 w3 G1 sf), .unset, vi ((fj0_3 p0 q1 w1 w2 w3 G1 sf) - (0 : Int32))] [(.ref b18), (.int 0), (.ref b1)]) (fun _ k => XS.aload X85.here hx rfl (hb hby at_323) rfl rfl k) ?_
              refine gb (mkF m 327 #[vi p0, vj q1, .second, vj q2, .second, vi (kT p0), vi (uT p0), vi (cT p0), vi (aT p0), vr b1, vr b18, vr r_42, vr r_47, vi (fj0_0 p0 q1 w1 w2 w3 G1 sf), vr w2, vi 0, vi (fj0_3 p0 q1 w1 w2 w3 G1 sf), .unset, vi ((fj0_3 p0 q1 w1 w2 w3 G1 sf) - (0 : Int32))] [(.int (aT p0)), (.ref b18), (.int 0), (.ref b1)]) (fun _ k => XS.iload X85.here hx rfl (hb hby at_325) rfl k) ?_
              refine gb (mkF m 329 #[vi p0, vj q1, .second, vj q2, .second, vi (kT p0), vi (uT p0), vi (cT p0), vi (aT p0), vr b1, vr b18, vr r_42, vr r_47, vi (fj0_0 p0 q1 w1 w2 w3 G1 sf), vr w2, vi 0, vi (fj0_3 p0 q1 w1 w2 w3 G1 sf), .unset, vi ((fj0_3 p0 q1 w1 w2 w3 G1 sf) - (0 : Int32))] [(.int ((fj0_3 p0 q1 w1 w2 w3 G1 sf) - (0 : Int32))), (.int (aT p0)), (.ref b18), (.int 0), (.ref b1)]) (fun _ k => XS.iload X85.here hx rfl (hb hby at_327) rfl k) ?_
              refine gb (mkF m 330 #[vi p0, vj q1, .second, vj q2, .second, vi (kT p0), vi (uT p0), vi (cT p0), vi (aT p0), vr b1, vr b18, vr r_42, vr r_47, vi (fj0_0 p0 q1 w1 w2 w3 G1 sf), vr w2, vi 0, vi (fj0_3 p0 q1 w1 w2 w3 G1 sf), .unset, vi ((fj0_3 p0 q1 w1 w2 w3 G1 sf) - (0 : Int32))] [(.int 1), (.int ((fj0_3 p0 q1 w1 w2 w3 G1 sf) - (0 : Int32))), (.int (aT p0)), (.ref b18), (.int 0), (.ref b1)]) (fun _ k => XS.iconst X85.here hx rfl (hb hby at_329) k) ?_
              obtain ⟨_, _, ⟨T89, L89, k89, n89⟩, -, X89, ⟨Lc89, hQ89, l89, y89, z89⟩, st89⟩ := callS X85 hx (y := mq15) hown (mvT hZ (hW hw 34 rfl)) (mvT hZ (hW hw 35 rfl)) (mvT hZ (hW hw 3 rfl)) (mvT hZ (hW hw 36 rfl)) (by decide) (backOf (W := 0) (rm61 l Z a0' hw [] b1 (0 : Int32) b18 (aT p0) ((fj0_3 p0 q1 w1 w2 w3 G1 sf) - (0 : Int32)) k1 k18 (nar .char (fn1 q1 w1 w2 w3 G1 sf)) (nar .char (fn1 (sR q1 (11 : Int32)) w1 w2 w3 G1 sf)) (nar .char (fn1 (sR q1 (22 : Int32)) w1 w2 w3 G1 sf)) (nar .char (fn1 q2 w1 w2 w3 G1 sf)) (nar .char (fn1 (sR q2 (11 : Int32)) w1 w2 w3 G1 sf)) (nar .char (fn1 (sR q2 (22 : Int32)) w1 w2 w3 G1 sf)) (nar .char (fn1 (sR q2 (33 : Int32)) w1 w2 w3 G1 sf)) w1 w2 w3 G1 sf T47.heap n0 O74 W f86 f87 (hmm rgE hf84 (by decide) (by decide))) hZ (hW hw 36 rfl) (hW hw 3 rfl) (by decide) (by decide)) (g := (mkF m 330 #[vi p0, vj q1, .second, vj q2, .second, vi (kT p0), vi (uT p0), vi (cT p0), vi (aT p0), vr b1, vr b18, vr r_42, vr r_47, vi (fj0_0 p0 q1 w1 w2 w3 G1 sf), vr w2, vi 0, vi (fj0_3 p0 q1 w1 w2 w3 G1 sf), .unset, vi ((fj0_3 p0 q1 w1 w2 w3 G1 sf) - (0 : Int32))] [(.int 1), (.int ((fj0_3 p0 q1 w1 w2 w3 G1 sf) - (0 : Int32))), (.int (aT p0)), (.ref b18), (.int 0), (.ref b1)])) rfl (by rw [hml]; rfl) (argsL := [(.ref b1), (.int 0), (.ref b18), (.int (aT p0)), (.int ((fj0_3 p0 q1 w1 w2 w3 G1 sf) - (0 : Int32))), (.int 1)]) (rest := []) (lenOf pd495 rfl) rfl (Nat.le_of_eq rfl) (hb hby at_330) (fun _ _ => ⟨rfl, e85, (by decide : 14 + 0 ≤ _), (by decide : 31 + 0 ≤ _)⟩)
              dsimp only [Pt.U, Pt.locs, Pt.cells, Pt.slots] at X89 l89 y89 z89 st89 hQ89
              subst l89 y89 z89
              obtain ⟨rfl, N89q, e89⟩ := hQ89
              have N89 := Fr.app N85 N89q
              refine gb (mkF m 333 #[vi p0, vj q1, .second, vj q2, .second, vi (kT p0), vi (uT p0), vi (cT p0), vi (aT p0), vr b1, vr b18, vr r_42, vr r_47, vi (fj0_0 p0 q1 w1 w2 w3 G1 sf), vr w2, vi 0, vi (fj0_3 p0 q1 w1 w2 w3 G1 sf), .unset, vi ((fj0_3 p0 q1 w1 w2 w3 G1 sf) - (0 : Int32))] [(.int (fn61 (0 : Int32) (aT p0) ((fj0_3 p0 q1 w1 w2 w3 G1 sf) - (0 : Int32)) (nar .char (fn1 q1 w1 w2 w3 G1 sf)) (nar .char (fn1 (sR q1 (11 : Int32)) w1 w2 w3 G1 sf)) (nar .char (fn1 (sR q1 (22 : Int32)) w1 w2 w3 G1 sf)) (nar .char (fn1 q2 w1 w2 w3 G1 sf)) (nar .char (fn1 (sR q2 (11 : Int32)) w1 w2 w3 G1 sf)) (nar .char (fn1 (sR q2 (22 : Int32)) w1 w2 w3 G1 sf)) (nar .char (fn1 (sR q2 (33 : Int32)) w1 w2 w3 G1 sf)) w1 w2 w3 G1 sf))]) st89 ?_
              by_cases hf90 : (fn61 (0 : Int32) (aT p0) ((fj0_3 p0 q1 w1 w2 w3 G1 sf) - (0 : Int32)) (nar .char (fn1 q1 w1 w2 w3 G1 sf)) (nar .char (fn1 (sR q1 (11 : Int32)) w1 w2 w3 G1 sf)) (nar .char (fn1 (sR q1 (22 : Int32)) w1 w2 w3 G1 sf)) (nar .char (fn1 q2 w1 w2 w3 G1 sf)) (nar .char (fn1 (sR q2 (11 : Int32)) w1 w2 w3 G1 sf)) (nar .char (fn1 (sR q2 (22 : Int32)) w1 w2 w3 G1 sf)) (nar .char (fn1 (sR q2 (33 : Int32)) w1 w2 w3 G1 sf)) w1 w2 w3 G1 sf) = (0 : Int32)
              · refine gb (mkF m 363 #[vi p0, vj q1, .second, vj q2, .second, vi (kT p0), vi (uT p0), vi (cT p0), vi (aT p0), vr b1, vr b18, vr r_42, vr r_47, vi (fj0_0 p0 q1 w1 w2 w3 G1 sf), vr w2, vi 0, vi (fj0_3 p0 q1 w1 w2 w3 G1 sf), .unset, vi ((fj0_3 p0 q1 w1 w2 w3 G1 sf) - (0 : Int32))] []) (fun _ k => XS.ifYes X89.here hx rfl (pc0 := 333) (pc' := 363) rfl (hb hby at_333) rfl ((if0 _ _).trans (teq hf90).1) (by decide) (by decide) k) ?_
                refine gb (mkF m 364 #[vi p0, vj q1, .second, vj q2, .second, vi (kT p0), vi (uT p0), vi (cT p0), vi (aT p0), vr b1, vr b18, vr r_42, vr r_47, vi (fj0_0 p0 q1 w1 w2 w3 G1 sf), vr w2, vi 0, vi (fj0_3 p0 q1 w1 w2 w3 G1 sf), .unset, vi ((fj0_3 p0 q1 w1 w2 w3 G1 sf) - (0 : Int32))] [(.int (-1 : Int32))]) (fun _ k => XS.iconst X89.here hx rfl (hb hby at_363) k) ?_
                refine gb (mkF m 366 #[vi p0, vj q1, .second, vj q2, .second, vi (kT p0), vi (uT p0), vi (cT p0), vi (aT p0), vr b1, vr b18, vr r_42, vr r_47, vi (fj0_0 p0 q1 w1 w2 w3 G1 sf), vr w2, vi 0, vi (fj0_3 p0 q1 w1 w2 w3 G1 sf), vi (-1 : Int32), vi ((fj0_3 p0 q1 w1 w2 w3 G1 sf) - (0 : Int32))] []) (fun _ k => XS.istore X89.here hx rfl (hb hby at_364) rfl (l' := #[vi p0, vj q1, .second, vj q2, .second, vi (kT p0), vi (uT p0), vi (cT p0), vi (aT p0), vr b1, vr b18, vr r_42, vr r_47, vi (fj0_0 p0 q1 w1 w2 w3 G1 sf), vr w2, vi 0, vi (fj0_3 p0 q1 w1 w2 w3 G1 sf), vi (-1 : Int32), vi ((fj0_3 p0 q1 w1 w2 w3 G1 sf) - (0 : Int32))]) rfl k) ?_
                exact J76 _ _ X89 e89 N89 (-1 : Int32) (show (-1 : Int32) = (fj0_4 p0 q1 q2 w1 w2 w3 G1 sf) by unfold fj0_4; rw [if_neg hf84, if_neg hf88, if_pos hf90]; try rfl)
              · refine gb (mkF m 336 #[vi p0, vj q1, .second, vj q2, .second, vi (kT p0), vi (uT p0), vi (cT p0), vi (aT p0), vr b1, vr b18, vr r_42, vr r_47, vi (fj0_0 p0 q1 w1 w2 w3 G1 sf), vr w2, vi 0, vi (fj0_3 p0 q1 w1 w2 w3 G1 sf), .unset, vi ((fj0_3 p0 q1 w1 w2 w3 G1 sf) - (0 : Int32))] []) (fun _ k => XS.ifNo X89.here hx rfl (hb hby at_333) rfl ((if0 _ _).trans (feq hf90).1) k) ?_
                refine gb (mkF m 338 #[vi p0, vj q1, .second, vj q2, .second, vi (kT p0), vi (uT p0), vi (cT p0), vi (aT p0), vr b1, vr b18, vr r_42, vr r_47, vi (fj0_0 p0 q1 w1 w2 w3 G1 sf), vr w2, vi 0, vi (fj0_3 p0 q1 w1 w2 w3 G1 sf), .unset, vi ((fj0_3 p0 q1 w1 w2 w3 G1 sf) - (0 : Int32))] [(.ref b1)]) (fun _ k => XS.aload X89.here hx rfl (hb hby at_336) rfl rfl k) ?_
                refine gb (mkF m 340 #[vi p0, vj q1, .second, vj q2, .second, vi (kT p0), vi (uT p0), vi (cT p0), vi (aT p0), vr b1, vr b18, vr r_42, vr r_47, vi (fj0_0 p0 q1 w1 w2 w3 G1 sf), vr w2, vi 0, vi (fj0_3 p0 q1 w1 w2 w3 G1 sf), .unset, vi ((fj0_3 p0 q1 w1 w2 w3 G1 sf) - (0 : Int32))] [(.int 0), (.ref b1)]) (fun _ k => XS.iload X89.here hx rfl (hb hby at_338) rfl k) ?_
                refine gb (mkF m 342 #[vi p0, vj q1, .second, vj q2, .second, vi (kT p0), vi (uT p0), vi (cT p0), vi (aT p0), vr b1, vr b18, vr r_42, vr r_47, vi (fj0_0 p0 q1 w1 w2 w3 G1 sf), vr w2, vi 0, vi (fj0_3 p0 q1 w1 w2 w3 G1 sf), .unset, vi ((fj0_3 p0 q1 w1 w2 w3 G1 sf) - (0 : Int32))] [(.ref b18), (.int 0), (.ref b1)]) (fun _ k => XS.aload X89.here hx rfl (hb hby at_340) rfl rfl k) ?_
                refine gb (mkF m 344 #[vi p0, vj q1, .second, vj q2, .second, vi (kT p0), vi (uT p0), vi (cT p0), vi (aT p0), vr b1, vr b18, vr r_42, vr r_47, vi (fj0_0 p0 q1 w1 w2 w3 G1 sf), vr w2, vi 0, vi (fj0_3 p0 q1 w1 w2 w3 G1 sf), .unset, vi ((fj0_3 p0 q1 w1 w2 w3 G1 sf) - (0 : Int32))] [(.int (aT p0)), (.ref b18), (.int 0), (.ref b1)]) (fun _ k => XS.iload X89.here hx rfl (hb hby at_342) rfl k) ?_
                refine gb (mkF m 346 #[vi p0, vj q1, .second, vj q2, .second, vi (kT p0), vi (uT p0), vi (cT p0), vi (aT p0), vr b1, vr b18, vr r_42, vr r_47, vi (fj0_0 p0 q1 w1 w2 w3 G1 sf), vr w2, vi 0, vi (fj0_3 p0 q1 w1 w2 w3 G1 sf), .unset, vi ((fj0_3 p0 q1 w1 w2 w3 G1 sf) - (0 : Int32))] [(.int ((fj0_3 p0 q1 w1 w2 w3 G1 sf) - (0 : Int32))), (.int (aT p0)), (.ref b18), (.int 0), (.ref b1)]) (fun _ k => XS.iload X89.here hx rfl (hb hby at_344) rfl k) ?_
                refine gb (mkF m 347 #[vi p0, vj q1, .second, vj q2, .second, vi (kT p0), vi (uT p0), vi (cT p0), vi (aT p0), vr b1, vr b18, vr r_42, vr r_47, vi (fj0_0 p0 q1 w1 w2 w3 G1 sf), vr w2, vi 0, vi (fj0_3 p0 q1 w1 w2 w3 G1 sf), .unset, vi ((fj0_3 p0 q1 w1 w2 w3 G1 sf) - (0 : Int32))] [(.int 2), (.int ((fj0_3 p0 q1 w1 w2 w3 G1 sf) - (0 : Int32))), (.int (aT p0)), (.ref b18), (.int 0), (.ref b1)]) (fun _ k => XS.iconst X89.here hx rfl (hb hby at_346) k) ?_
                obtain ⟨_, _, ⟨T91, L91, k91, n91⟩, -, X91, ⟨Lc91, hQ91, l91, y91, z91⟩, st91⟩ := callS X89 hx (y := mq15) hown (mvT hZ (hW hw 34 rfl)) (mvT hZ (hW hw 35 rfl)) (mvT hZ (hW hw 3 rfl)) (mvT hZ (hW hw 36 rfl)) (by decide) (backOf (W := 0) (rm62 l Z a0' hw [] b1 (0 : Int32) b18 (aT p0) ((fj0_3 p0 q1 w1 w2 w3 G1 sf) - (0 : Int32)) k1 k18 (nar .char (fn1 q1 w1 w2 w3 G1 sf)) (nar .char (fn1 (sR q1 (11 : Int32)) w1 w2 w3 G1 sf)) (nar .char (fn1 (sR q1 (22 : Int32)) w1 w2 w3 G1 sf)) (nar .char (fn1 q2 w1 w2 w3 G1 sf)) (nar .char (fn1 (sR q2 (11 : Int32)) w1 w2 w3 G1 sf)) (nar .char (fn1 (sR q2 (22 : Int32)) w1 w2 w3 G1 sf)) (nar .char (fn1 (sR q2 (33 : Int32)) w1 w2 w3 G1 sf)) w1 w2 w3 G1 sf T47.heap n0 O74 W f86 f87 (hmm rgE hf84 (by decide) (by decide))) hZ (hW hw 36 rfl) (hW hw 3 rfl) (by decide) (by decide)) (g := (mkF m 347 #[vi p0, vj q1, .second, vj q2, .second, vi (kT p0), vi (uT p0), vi (cT p0), vi (aT p0), vr b1, vr b18, vr r_42, vr r_47, vi (fj0_0 p0 q1 w1 w2 w3 G1 sf), vr w2, vi 0, vi (fj0_3 p0 q1 w1 w2 w3 G1 sf), .unset, vi ((fj0_3 p0 q1 w1 w2 w3 G1 sf) - (0 : Int32))] [(.int 2), (.int ((fj0_3 p0 q1 w1 w2 w3 G1 sf) - (0 : Int32))), (.int (aT p0)), (.ref b18), (.int 0), (.ref b1)])) rfl (by rw [hml]; rfl) (argsL := [(.ref b1), (.int 0), (.ref b18), (.int (aT p0)), (.int ((fj0_3 p0 q1 w1 w2 w3 G1 sf) - (0 : Int32))), (.int 2)]) (rest := []) (lenOf pd495 rfl) rfl (Nat.le_of_eq rfl) (hb hby at_347) (fun _ _ => ⟨rfl, e89, (by decide : 14 + 0 ≤ _), (by decide : 31 + 0 ≤ _)⟩)
                dsimp only [Pt.U, Pt.locs, Pt.cells, Pt.slots] at X91 l91 y91 z91 st91 hQ91
                subst l91 y91 z91
                obtain ⟨rfl, N91q, e91⟩ := hQ91
                have N91 := Fr.app N89 N91q
                refine gb (mkF m 350 #[vi p0, vj q1, .second, vj q2, .second, vi (kT p0), vi (uT p0), vi (cT p0), vi (aT p0), vr b1, vr b18, vr r_42, vr r_47, vi (fj0_0 p0 q1 w1 w2 w3 G1 sf), vr w2, vi 0, vi (fj0_3 p0 q1 w1 w2 w3 G1 sf), .unset, vi ((fj0_3 p0 q1 w1 w2 w3 G1 sf) - (0 : Int32))] [(.int (fn62 (0 : Int32) (aT p0) ((fj0_3 p0 q1 w1 w2 w3 G1 sf) - (0 : Int32)) (nar .char (fn1 q1 w1 w2 w3 G1 sf)) (nar .char (fn1 (sR q1 (11 : Int32)) w1 w2 w3 G1 sf)) (nar .char (fn1 (sR q1 (22 : Int32)) w1 w2 w3 G1 sf)) (nar .char (fn1 q2 w1 w2 w3 G1 sf)) (nar .char (fn1 (sR q2 (11 : Int32)) w1 w2 w3 G1 sf)) (nar .char (fn1 (sR q2 (22 : Int32)) w1 w2 w3 G1 sf)) (nar .char (fn1 (sR q2 (33 : Int32)) w1 w2 w3 G1 sf)) w1 w2 w3 G1 sf))]) st91 ?_
                by_cases hf92 : (fn62 (0 : Int32) (aT p0) ((fj0_3 p0 q1 w1 w2 w3 G1 sf) - (0 : Int32)) (nar .char (fn1 q1 w1 w2 w3 G1 sf)) (nar .char (fn1 (sR q1 (11 : Int32)) w1 w2 w3 G1 sf)) (nar .char (fn1 (sR q1 (22 : Int32)) w1 w2 w3 G1 sf)) (nar .char (fn1 q2 w1 w2 w3 G1 sf)) (nar .char (fn1 (sR q2 (11 : Int32)) w1 w2 w3 G1 sf)) (nar .char (fn1 (sR q2 (22 : Int32)) w1 w2 w3 G1 sf)) (nar .char (fn1 (sR q2 (33 : Int32)) w1 w2 w3 G1 sf)) w1 w2 w3 G1 sf) = (0 : Int32)
                · refine gb (mkF m 363 #[vi p0, vj q1, .second, vj q2, .second, vi (kT p0), vi (uT p0), vi (cT p0), vi (aT p0), vr b1, vr b18, vr r_42, vr r_47, vi (fj0_0 p0 q1 w1 w2 w3 G1 sf), vr w2, vi 0, vi (fj0_3 p0 q1 w1 w2 w3 G1 sf), .unset, vi ((fj0_3 p0 q1 w1 w2 w3 G1 sf) - (0 : Int32))] []) (fun _ k => XS.ifYes X91.here hx rfl (pc0 := 350) (pc' := 363) rfl (hb hby at_350) rfl ((if0 _ _).trans (teq hf92).1) (by decide) (by decide) k) ?_
                  refine gb (mkF m 364 #[vi p0, vj q1, .second, vj q2, .second, vi (kT p0), vi (uT p0), vi (cT p0), vi (aT p0), vr b1, vr b18, vr r_42, vr r_47, vi (fj0_0 p0 q1 w1 w2 w3 G1 sf), vr w2, vi 0, vi (fj0_3 p0 q1 w1 w2 w3 G1 sf), .unset, vi ((fj0_3 p0 q1 w1 w2 w3 G1 sf) - (0 : Int32))] [(.int (-1 : Int32))]) (fun _ k => XS.iconst X91.here hx rfl (hb hby at_363) k) ?_
                  refine gb (mkF m 366 #[vi p0, vj q1, .second, vj q2, .second, vi (kT p0), vi (uT p0), vi (cT p0), vi (aT p0), vr b1, vr b18, vr r_42, vr r_47, vi (fj0_0 p0 q1 w1 w2 w3 G1 sf), vr w2, vi 0, vi (fj0_3 p0 q1 w1 w2 w3 G1 sf), vi (-1 : Int32), vi ((fj0_3 p0 q1 w1 w2 w3 G1 sf) - (0 : Int32))] []) (fun _ k => XS.istore X91.here hx rfl (hb hby at_364) rfl (l' := #[vi p0, vj q1, .second, vj q2, .second, vi (kT p0), vi (uT p0), vi (cT p0), vi (aT p0), vr b1, vr b18, vr r_42, vr r_47, vi (fj0_0 p0 q1 w1 w2 w3 G1 sf), vr w2, vi 0, vi (fj0_3 p0 q1 w1 w2 w3 G1 sf), vi (-1 : Int32), vi ((fj0_3 p0 q1 w1 w2 w3 G1 sf) - (0 : Int32))]) rfl k) ?_
                  exact J76 _ _ X91 e91 N91 (-1 : Int32) (show (-1 : Int32) = (fj0_4 p0 q1 q2 w1 w2 w3 G1 sf) by unfold fj0_4; rw [if_neg hf84, if_neg hf88, if_neg hf90, if_pos hf92]; try rfl)
                · refine gb (mkF m 353 #[vi p0, vj q1, .second, vj q2, .second, vi (kT p0), vi (uT p0), vi (cT p0), vi (aT p0), vr b1, vr b18, vr r_42, vr r_47, vi (fj0_0 p0 q1 w1 w2 w3 G1 sf), vr w2, vi 0, vi (fj0_3 p0 q1 w1 w2 w3 G1 sf), .unset, vi ((fj0_3 p0 q1 w1 w2 w3 G1 sf) - (0 : Int32))] []) (fun _ k => XS.ifNo X91.here hx rfl (hb hby at_350) rfl ((if0 _ _).trans (feq hf92).1) k) ?_
                  refine gb (mkF m 355 #[vi p0, vj q1, .second, vj q2, .second, vi (kT p0), vi (uT p0), vi (cT p0), vi (aT p0), vr b1, vr b18, vr r_42, vr r_47, vi (fj0_0 p0 q1 w1 w2 w3 G1 sf), vr w2, vi 0, vi (fj0_3 p0 q1 w1 w2 w3 G1 sf), .unset, vi ((fj0_3 p0 q1 w1 w2 w3 G1 sf) - (0 : Int32))] [(.int (aT p0))]) (fun _ k => XS.iload X91.here hx rfl (hb hby at_353) rfl k) ?_
                  refine gb (mkF m 357 #[vi p0, vj q1, .second, vj q2, .second, vi (kT p0), vi (uT p0), vi (cT p0), vi (aT p0), vr b1, vr b18, vr r_42, vr r_47, vi (fj0_0 p0 q1 w1 w2 w3 G1 sf), vr w2, vi 0, vi (fj0_3 p0 q1 w1 w2 w3 G1 sf), .unset, vi ((fj0_3 p0 q1 w1 w2 w3 G1 sf) - (0 : Int32))] [(.int ((fj0_3 p0 q1 w1 w2 w3 G1 sf) - (0 : Int32))), (.int (aT p0))]) (fun _ k => XS.iload X91.here hx rfl (hb hby at_355) rfl k) ?_
                  refine gb (mkF m 358 #[vi p0, vj q1, .second, vj q2, .second, vi (kT p0), vi (uT p0), vi (cT p0), vi (aT p0), vr b1, vr b18, vr r_42, vr r_47, vi (fj0_0 p0 q1 w1 w2 w3 G1 sf), vr w2, vi 0, vi (fj0_3 p0 q1 w1 w2 w3 G1 sf), .unset, vi ((fj0_3 p0 q1 w1 w2 w3 G1 sf) - (0 : Int32))] [(.int ((aT p0) + ((fj0_3 p0 q1 w1 w2 w3 G1 sf) - (0 : Int32))))]) (fun _ k => XS.iadd X91.here hx rfl (hb hby at_357) rfl k) ?_
                  refine gb (mkF m 360 #[vi p0, vj q1, .second, vj q2, .second, vi (kT p0), vi (uT p0), vi (cT p0), vi (aT p0), vr b1, vr b18, vr r_42, vr r_47, vi (fj0_0 p0 q1 w1 w2 w3 G1 sf), vr w2, vi 0, vi (fj0_3 p0 q1 w1 w2 w3 G1 sf), vi ((aT p0) + ((fj0_3 p0 q1 w1 w2 w3 G1 sf) - (0 : Int32))), vi ((fj0_3 p0 q1 w1 w2 w3 G1 sf) - (0 : Int32))] []) (fun _ k => XS.istore X91.here hx rfl (hb hby at_358) rfl (l' := #[vi p0, vj q1, .second, vj q2, .second, vi (kT p0), vi (uT p0), vi (cT p0), vi (aT p0), vr b1, vr b18, vr r_42, vr r_47, vi (fj0_0 p0 q1 w1 w2 w3 G1 sf), vr w2, vi 0, vi (fj0_3 p0 q1 w1 w2 w3 G1 sf), vi ((aT p0) + ((fj0_3 p0 q1 w1 w2 w3 G1 sf) - (0 : Int32))), vi ((fj0_3 p0 q1 w1 w2 w3 G1 sf) - (0 : Int32))]) rfl k) ?_
                  refine gb (mkF m 366 #[vi p0, vj q1, .second, vj q2, .second, vi (kT p0), vi (uT p0), vi (cT p0), vi (aT p0), vr b1, vr b18, vr r_42, vr r_47, vi (fj0_0 p0 q1 w1 w2 w3 G1 sf), vr w2, vi 0, vi (fj0_3 p0 q1 w1 w2 w3 G1 sf), vi ((aT p0) + ((fj0_3 p0 q1 w1 w2 w3 G1 sf) - (0 : Int32))), vi ((fj0_3 p0 q1 w1 w2 w3 G1 sf) - (0 : Int32))] []) (fun _ k => XS.goto X91.here hx rfl (pc0 := 360) (pc' := 366) rfl (hb hby at_360) (by decide) (by decide) k) ?_
                  exact J76 _ _ X91 e91 N91 ((aT p0) + ((fj0_3 p0 q1 w1 w2 w3 G1 sf) - (0 : Int32))) (show ((aT p0) + ((fj0_3 p0 q1 w1 w2 w3 G1 sf) - (0 : Int32))) = (fj0_4 p0 q1 q2 w1 w2 w3 G1 sf) by unfold fj0_4; rw [if_neg hf84, if_neg hf88, if_neg hf90, if_neg hf92]; try rfl)
        by_cases hf93 : (fj0_0 p0 q1 w1 w2 w3 G1 sf) < (0 : Int32)
        · refine gb (mkF m 235 #[vi p0, vj q1, .second, vj q2, .second, vi (kT p0), vi (uT p0), vi (cT p0), vi (aT p0), vr b1, vr b18, vr r_42, vr r_47, vi (fj0_0 p0 q1 w1 w2 w3 G1 sf), vr w2, vi 0, .unset, .unset, .unset] []) (fun _ k => XS.ifNo X73.here hx rfl (hb hby at_232) rfl ((if0 _ _).trans (tlt hf93).2.1) k) ?_
          refine gb (mkF m 237 #[vi p0, vj q1, .second, vj q2, .second, vi (kT p0), vi (uT p0), vi (cT p0), vi (aT p0), vr b1, vr b18, vr r_42, vr r_47, vi (fj0_0 p0 q1 w1 w2 w3 G1 sf), vr w2, vi 0, .unset, .unset, .unset] [(.int (uT p0))]) (fun _ k => XS.iload X73.here hx rfl (hb hby at_235) rfl k) ?_
          refine gb (mkF m 242 #[vi p0, vj q1, .second, vj q2, .second, vi (kT p0), vi (uT p0), vi (cT p0), vi (aT p0), vr b1, vr b18, vr r_42, vr r_47, vi (fj0_0 p0 q1 w1 w2 w3 G1 sf), vr w2, vi 0, .unset, .unset, .unset] [(.int (uT p0))]) (fun _ k => XS.goto X73.here hx rfl (pc0 := 237) (pc' := 242) rfl (hb hby at_237) (by decide) (by decide) k) ?_
          exact J75 _ _ X73 e73 N' (uT p0) (show (uT p0) = (fj0_3 p0 q1 w1 w2 w3 G1 sf) by unfold fj0_3; rw [if_pos hf93]; try rfl)
        · refine gb (mkF m 240 #[vi p0, vj q1, .second, vj q2, .second, vi (kT p0), vi (uT p0), vi (cT p0), vi (aT p0), vr b1, vr b18, vr r_42, vr r_47, vi (fj0_0 p0 q1 w1 w2 w3 G1 sf), vr w2, vi 0, .unset, .unset, .unset] []) (fun _ k => XS.ifYes X73.here hx rfl (pc0 := 232) (pc' := 240) rfl (hb hby at_232) rfl ((if0 _ _).trans (flt hf93).2.1) (by decide) (by decide) k) ?_
          refine gb (mkF m 242 #[vi p0, vj q1, .second, vj q2, .second, vi (kT p0), vi (uT p0), vi (cT p0), vi (aT p0), vr b1, vr b18, vr r_42, vr r_47, vi (fj0_0 p0 q1 w1 w2 w3 G1 sf), vr w2, vi 0, .unset, .unset, .unset] [(.int (fj0_0 p0 q1 w1 w2 w3 G1 sf))]) (fun _ k => XS.iload X73.here hx rfl (hb hby at_240) rfl k) ?_
          exact J75 _ _ X73 e73 N' (fj0_0 p0 q1 w1 w2 w3 G1 sf) (show (fj0_0 p0 q1 w1 w2 w3 G1 sf) = (fj0_3 p0 q1 w1 w2 w3 G1 sf) by unfold fj0_3; rw [if_neg hf93]; try rfl)
      · refine gb (mkF m 247 #[vi p0, vj q1, .second, vj q2, .second, vi (kT p0), vi (uT p0), vi (cT p0), vi (aT p0), vr b1, vr b18, vr r_42, vr r_47, vi (fj0_0 p0 q1 w1 w2 w3 G1 sf), .unset, .unset, .unset, .unset, .unset] []) (fun _ k => XS.icmpYes X'.here hx rfl (pc0 := 219) (pc' := 247) rfl (hb hby at_219) rfl (feq hf72).2 (by decide) (by decide) k) ?_
        have O95 := (O49.keep Kc47 all0)
        obtain ⟨T94, X94, e94, st94⟩ := getS2 X' hx hZ hown (host := "") (Or.inl (hW hw 110 rfl)) Via.refl eT (Sta.ext O95.2 W.2.2.2.2.1) (g := (mkF m 247 #[vi p0, vj q1, .second, vj q2, .second, vi (kT p0), vi (uT p0), vi (cT p0), vi (aT p0), vr b1, vr b18, vr r_42, vr r_47, vi (fj0_0 p0 q1 w1 w2 w3 G1 sf), .unset, .unset, .unset, .unset, .unset] [])) rfl (hb hby at_247)
        refine gb (mkF m 250 #[vi p0, vj q1, .second, vj q2, .second, vi (kT p0), vi (uT p0), vi (cT p0), vi (aT p0), vr b1, vr b18, vr r_42, vr r_47, vi (fj0_0 p0 q1 w1 w2 w3 G1 sf), .unset, .unset, .unset, .unset, .unset] [(.ref w3)]) st94 ?_
        refine gb (mkF m 252 #[vi p0, vj q1, .second, vj q2, .second, vi (kT p0), vi (uT p0), vi (cT p0), vi (aT p0), vr b1, vr b18, vr r_42, vr r_47, vi (fj0_0 p0 q1 w1 w2 w3 G1 sf), vr w3, .unset, .unset, .unset, .unset] []) (fun _ k => XS.astore X94.here hx rfl (hb hby at_250) rfl rfl (l' := #[vi p0, vj q1, .second, vj q2, .second, vi (kT p0), vi (uT p0), vi (cT p0), vi (aT p0), vr b1, vr b18, vr r_42, vr r_47, vi (fj0_0 p0 q1 w1 w2 w3 G1 sf), vr w3, .unset, .unset, .unset, .unset]) rfl k) ?_
        refine gb (mkF m 254 #[vi p0, vj q1, .second, vj q2, .second, vi (kT p0), vi (uT p0), vi (cT p0), vi (aT p0), vr b1, vr b18, vr r_42, vr r_47, vi (fj0_0 p0 q1 w1 w2 w3 G1 sf), vr w3, .unset, .unset, .unset, .unset] [(.int (fj0_0 p0 q1 w1 w2 w3 G1 sf))]) (fun _ k => XS.iload X94.here hx rfl (hb hby at_252) rfl k) ?_
        refine gb (mkF m 255 #[vi p0, vj q1, .second, vj q2, .second, vi (kT p0), vi (uT p0), vi (cT p0), vi (aT p0), vr b1, vr b18, vr r_42, vr r_47, vi (fj0_0 p0 q1 w1 w2 w3 G1 sf), vr w3, .unset, .unset, .unset, .unset] [(.int 1), (.int (fj0_0 p0 q1 w1 w2 w3 G1 sf))]) (fun _ k => XS.iconst X94.here hx rfl (hb hby at_254) k) ?_
        refine gb (mkF m 256 #[vi p0, vj q1, .second, vj q2, .second, vi (kT p0), vi (uT p0), vi (cT p0), vi (aT p0), vr b1, vr b18, vr r_42, vr r_47, vi (fj0_0 p0 q1 w1 w2 w3 G1 sf), vr w3, .unset, .unset, .unset, .unset] [(.int ((fj0_0 p0 q1 w1 w2 w3 G1 sf) + (1 : Int32)))]) (fun _ k => XS.iadd X94.here hx rfl (hb hby at_255) rfl k) ?_
        refine gb (mkF m 258 #[vi p0, vj q1, .second, vj q2, .second, vi (kT p0), vi (uT p0), vi (cT p0), vi (aT p0), vr b1, vr b18, vr r_42, vr r_47, vi (fj0_0 p0 q1 w1 w2 w3 G1 sf), vr w3, vi ((fj0_0 p0 q1 w1 w2 w3 G1 sf) + (1 : Int32)), .unset, .unset, .unset] []) (fun _ k => XS.istore X94.here hx rfl (hb hby at_256) rfl (l' := #[vi p0, vj q1, .second, vj q2, .second, vi (kT p0), vi (uT p0), vi (cT p0), vi (aT p0), vr b1, vr b18, vr r_42, vr r_47, vi (fj0_0 p0 q1 w1 w2 w3 G1 sf), vr w3, vi ((fj0_0 p0 q1 w1 w2 w3 G1 sf) + (1 : Int32)), .unset, .unset, .unset]) rfl k) ?_
        refine gb (mkF m 260 #[vi p0, vj q1, .second, vj q2, .second, vi (kT p0), vi (uT p0), vi (cT p0), vi (aT p0), vr b1, vr b18, vr r_42, vr r_47, vi (fj0_0 p0 q1 w1 w2 w3 G1 sf), vr w3, vi ((fj0_0 p0 q1 w1 w2 w3 G1 sf) + (1 : Int32)), .unset, .unset, .unset] [(.int (uT p0))]) (fun _ k => XS.iload X94.here hx rfl (hb hby at_258) rfl k) ?_
        refine gb (mkF m 262 #[vi p0, vj q1, .second, vj q2, .second, vi (kT p0), vi (uT p0), vi (cT p0), vi (aT p0), vr b1, vr b18, vr r_42, vr r_47, vi (fj0_0 p0 q1 w1 w2 w3 G1 sf), vr w3, vi ((fj0_0 p0 q1 w1 w2 w3 G1 sf) + (1 : Int32)), vi (uT p0), .unset, .unset] []) (fun _ k => XS.istore X94.here hx rfl (hb hby at_260) rfl (l' := #[vi p0, vj q1, .second, vj q2, .second, vi (kT p0), vi (uT p0), vi (cT p0), vi (aT p0), vr b1, vr b18, vr r_42, vr r_47, vi (fj0_0 p0 q1 w1 w2 w3 G1 sf), vr w3, vi ((fj0_0 p0 q1 w1 w2 w3 G1 sf) + (1 : Int32)), vi (uT p0), .unset, .unset]) rfl k) ?_
        refine gb (mkF m 264 #[vi p0, vj q1, .second, vj q2, .second, vi (kT p0), vi (uT p0), vi (cT p0), vi (aT p0), vr b1, vr b18, vr r_42, vr r_47, vi (fj0_0 p0 q1 w1 w2 w3 G1 sf), vr w3, vi ((fj0_0 p0 q1 w1 w2 w3 G1 sf) + (1 : Int32)), vi (uT p0), .unset, .unset] [(.int (kT p0))]) (fun _ k => XS.iload X94.here hx rfl (hb hby at_262) rfl k) ?_
        refine gb (mkF m 265 #[vi p0, vj q1, .second, vj q2, .second, vi (kT p0), vi (uT p0), vi (cT p0), vi (aT p0), vr b1, vr b18, vr r_42, vr r_47, vi (fj0_0 p0 q1 w1 w2 w3 G1 sf), vr w3, vi ((fj0_0 p0 q1 w1 w2 w3 G1 sf) + (1 : Int32)), vi (uT p0), .unset, .unset] [(.int 2), (.int (kT p0))]) (fun _ k => XS.iconst X94.here hx rfl (hb hby at_264) k) ?_
        refine gb (mkF m 268 #[vi p0, vj q1, .second, vj q2, .second, vi (kT p0), vi (uT p0), vi (cT p0), vi (aT p0), vr b1, vr b18, vr r_42, vr r_47, vi (fj0_0 p0 q1 w1 w2 w3 G1 sf), vr w3, vi ((fj0_0 p0 q1 w1 w2 w3 G1 sf) + (1 : Int32)), vi (uT p0), .unset, .unset] []) (fun _ k => XS.icmpNo X94.here hx rfl (hb hby at_265) rfl (teq (k2 hf52 hf72)).2 k) ?_
        refine gb (mkF m 270 #[vi p0, vj q1, .second, vj q2, .second, vi (kT p0), vi (uT p0), vi (cT p0), vi (aT p0), vr b1, vr b18, vr r_42, vr r_47, vi (fj0_0 p0 q1 w1 w2 w3 G1 sf), vr w3, vi ((fj0_0 p0 q1 w1 w2 w3 G1 sf) + (1 : Int32)), vi (uT p0), .unset, .unset] [(.int (fj0_0 p0 q1 w1 w2 w3 G1 sf))]) (fun _ k => XS.iload X94.here hx rfl (hb hby at_268) rfl k) ?_
        by_cases hf96 : (fj0_0 p0 q1 w1 w2 w3 G1 sf) < (0 : Int32)
        · refine gb (mkF m 273 #[vi p0, vj q1, .second, vj q2, .second, vi (kT p0), vi (uT p0), vi (cT p0), vi (aT p0), vr b1, vr b18, vr r_42, vr r_47, vi (fj0_0 p0 q1 w1 w2 w3 G1 sf), vr w3, vi ((fj0_0 p0 q1 w1 w2 w3 G1 sf) + (1 : Int32)), vi (uT p0), .unset, .unset] []) (fun _ k => XS.ifNo X94.here hx rfl (hb hby at_270) rfl ((if0 _ _).trans (tlt hf96).2.1) k) ?_
          refine gb (mkF m 274 #[vi p0, vj q1, .second, vj q2, .second, vi (kT p0), vi (uT p0), vi (cT p0), vi (aT p0), vr b1, vr b18, vr r_42, vr r_47, vi (fj0_0 p0 q1 w1 w2 w3 G1 sf), vr w3, vi ((fj0_0 p0 q1 w1 w2 w3 G1 sf) + (1 : Int32)), vi (uT p0), .unset, .unset] [(.int (-1 : Int32))]) (fun _ k => XS.iconst X94.here hx rfl (hb hby at_273) k) ?_
          refine gb (mkF m 276 #[vi p0, vj q1, .second, vj q2, .second, vi (kT p0), vi (uT p0), vi (cT p0), vi (aT p0), vr b1, vr b18, vr r_42, vr r_47, vi (fj0_0 p0 q1 w1 w2 w3 G1 sf), vr w3, vi ((fj0_0 p0 q1 w1 w2 w3 G1 sf) + (1 : Int32)), vi (uT p0), vi (-1 : Int32), .unset] []) (fun _ k => XS.istore X94.here hx rfl (hb hby at_274) rfl (l' := #[vi p0, vj q1, .second, vj q2, .second, vi (kT p0), vi (uT p0), vi (cT p0), vi (aT p0), vr b1, vr b18, vr r_42, vr r_47, vi (fj0_0 p0 q1 w1 w2 w3 G1 sf), vr w3, vi ((fj0_0 p0 q1 w1 w2 w3 G1 sf) + (1 : Int32)), vi (uT p0), vi (-1 : Int32), .unset]) rfl k) ?_
          refine gb (mkF m 366 #[vi p0, vj q1, .second, vj q2, .second, vi (kT p0), vi (uT p0), vi (cT p0), vi (aT p0), vr b1, vr b18, vr r_42, vr r_47, vi (fj0_0 p0 q1 w1 w2 w3 G1 sf), vr w3, vi ((fj0_0 p0 q1 w1 w2 w3 G1 sf) + (1 : Int32)), vi (uT p0), vi (-1 : Int32), .unset] []) (fun _ k => XS.goto X94.here hx rfl (pc0 := 276) (pc' := 366) rfl (hb hby at_276) (by decide) (by decide) k) ?_
          refine gb (mkF m 368 #[vi p0, vj q1, .second, vj q2, .second, vi (kT p0), vi (uT p0), vi (cT p0), vi (aT p0), vr b1, vr b18, vr r_42, vr r_47, vi (fj0_0 p0 q1 w1 w2 w3 G1 sf), vr w3, vi ((fj0_0 p0 q1 w1 w2 w3 G1 sf) + (1 : Int32)), vi (uT p0), vi (-1 : Int32), .unset] [(.ref w3)]) (fun _ k => XS.aload X94.here hx rfl (hb hby at_366) rfl rfl k) ?_
          refine gb (mkF m 370 #[vi p0, vj q1, .second, vj q2, .second, vi (kT p0), vi (uT p0), vi (cT p0), vi (aT p0), vr b1, vr b18, vr r_42, vr r_47, vi (fj0_0 p0 q1 w1 w2 w3 G1 sf), vr w3, vi ((fj0_0 p0 q1 w1 w2 w3 G1 sf) + (1 : Int32)), vi (uT p0), vi (-1 : Int32), .unset] [(.ref r_42), (.ref w3)]) (fun _ k => XS.aload X94.here hx rfl (hb hby at_368) rfl rfl k) ?_
          refine gb (mkF m 372 #[vi p0, vj q1, .second, vj q2, .second, vi (kT p0), vi (uT p0), vi (cT p0), vi (aT p0), vr b1, vr b18, vr r_42, vr r_47, vi (fj0_0 p0 q1 w1 w2 w3 G1 sf), vr w3, vi ((fj0_0 p0 q1 w1 w2 w3 G1 sf) + (1 : Int32)), vi (uT p0), vi (-1 : Int32), .unset] [(.ref r_47), (.ref r_42), (.ref w3)]) (fun _ k => XS.aload X94.here hx rfl (hb hby at_370) rfl rfl k) ?_
          refine gb (mkF m 374 #[vi p0, vj q1, .second, vj q2, .second, vi (kT p0), vi (uT p0), vi (cT p0), vi (aT p0), vr b1, vr b18, vr r_42, vr r_47, vi (fj0_0 p0 q1 w1 w2 w3 G1 sf), vr w3, vi ((fj0_0 p0 q1 w1 w2 w3 G1 sf) + (1 : Int32)), vi (uT p0), vi (-1 : Int32), .unset] [(.int (aT p0)), (.ref r_47), (.ref r_42), (.ref w3)]) (fun _ k => XS.iload X94.here hx rfl (hb hby at_372) rfl k) ?_
          have f98 := (Exa.keep fc42_0 Kc47)
          have f99 := (Fld.keep fc42_1 Kc47 nin0)
          have f100 := (Fld.keep fc42_2 Kc47 nin0)
          have f101 := (Arv.keep fc42_3 Kc47 nin0)
          obtain ⟨cq97, kq97, q97a, q97b, q97c⟩ := isOf hZ e94 (Exa.ext O95.2 W.2.2.2.2.2.1)
          obtain ⟨_, _, ⟨T97, L97, k97, n97⟩, -, X97, ⟨Lc97, hQ97, l97, y97, z97⟩, st97⟩ := X94.virtualBack hx (y := mq25) (z := mq25) hown (mvT hZ (hW hw 37 rfl)) (mvT hZ (hW hw 38 rfl)) (notFace_of_selects (args := #[]) (mvT hZ (hW hw 40 rfl))) (mvT hZ (hW hw 40 rfl)) (mvT hZ (hW hw 39 rfl)) (by decide) (backOf (W := 0) (rm72 l Z a0' hw [] w3 r_42 r_47 (aT p0) b_42 kb_42 (uT p0) (stk (uT p0) [(nar .char (fn1 q1 w1 w2 w3 G1 sf)), (nar .char (fn1 (sR q1 (11 : Int32)) w1 w2 w3 G1 sf)), (nar .char (fn1 (sR q1 (22 : Int32)) w1 w2 w3 G1 sf))]) b_47 kb_47 (cT p0) (stk (cT p0) [(nar .char (fn1 q2 w1 w2 w3 G1 sf)), (nar .char (fn1 (sR q2 (11 : Int32)) w1 w2 w3 G1 sf)), (nar .char (fn1 (sR q2 (22 : Int32)) w1 w2 w3 G1 sf)), (nar .char (fn1 (sR q2 (33 : Int32)) w1 w2 w3 G1 sf))]) w1 w2 w3 G1 sf T47.heap n0 O95 W (Exa.ext O95.2 W.2.2.2.2.2.1) (Fld.ext O95.2 W.2.2.2.2.2.2.2.2.1) f98 f99 f100 f101 fc47_0 fc47_1 fc47_2 fc47_3 (rg0 p0)) hZ (hW hw 41 rfl) (hW hw 32 rfl) (by decide) (by decide)) q97a q97c (g := (mkF m 374 #[vi p0, vj q1, .second, vj q2, .second, vi (kT p0), vi (uT p0), vi (cT p0), vi (aT p0), vr b1, vr b18, vr r_42, vr r_47, vi (fj0_0 p0 q1 w1 w2 w3 G1 sf), vr w3, vi ((fj0_0 p0 q1 w1 w2 w3 G1 sf) + (1 : Int32)), vi (uT p0), vi (-1 : Int32), .unset] [(.int (aT p0)), (.ref r_47), (.ref r_42), (.ref w3)])) rfl (by rw [hml]; rfl) (Steps.refl _) (argsL := [(.ref r_42), (.ref r_47), (.int (aT p0))]) (rest := []) (lenOf pd496 rfl) rfl (Nat.le_of_eq rfl) (hb hby at_374) (fun _ _ => ⟨rfl, e94, (by decide : 14 + 0 ≤ _), (by decide : 31 + 0 ≤ _)⟩)
          dsimp only [Pt.U, Pt.locs, Pt.cells, Pt.slots] at X97 l97 y97 z97 st97 hQ97
          subst l97 y97 z97
          obtain ⟨rfl, N97q, e97⟩ := hQ97
          have N97 := Fr.app N' N97q
          refine gb (mkF m 377 #[vi p0, vj q1, .second, vj q2, .second, vi (kT p0), vi (uT p0), vi (cT p0), vi (aT p0), vr b1, vr b18, vr r_42, vr r_47, vi (fj0_0 p0 q1 w1 w2 w3 G1 sf), vr w3, vi ((fj0_0 p0 q1 w1 w2 w3 G1 sf) + (1 : Int32)), vi (uT p0), vi (-1 : Int32), .unset] [(.int (fn72 (aT p0) (uT p0) (stk (uT p0) [(nar .char (fn1 q1 w1 w2 w3 G1 sf)), (nar .char (fn1 (sR q1 (11 : Int32)) w1 w2 w3 G1 sf)), (nar .char (fn1 (sR q1 (22 : Int32)) w1 w2 w3 G1 sf))]) (cT p0) (stk (cT p0) [(nar .char (fn1 q2 w1 w2 w3 G1 sf)), (nar .char (fn1 (sR q2 (11 : Int32)) w1 w2 w3 G1 sf)), (nar .char (fn1 (sR q2 (22 : Int32)) w1 w2 w3 G1 sf)), (nar .char (fn1 (sR q2 (33 : Int32)) w1 w2 w3 G1 sf))]) w1 w2 w3 G1 sf))]) (fun _ k => st97.trans k) ?_
          refine gb (mkF m 379 #[vi p0, vj q1, .second, vj q2, .second, vi (kT p0), vi (uT p0), vi (cT p0), vi (aT p0), vr b1, vr b18, vr r_42, vr r_47, vi (fj0_0 p0 q1 w1 w2 w3 G1 sf), vr w3, vi ((fj0_0 p0 q1 w1 w2 w3 G1 sf) + (1 : Int32)), vi (uT p0), vi (-1 : Int32), .unset] [(.int (-1 : Int32)), (.int (fn72 (aT p0) (uT p0) (stk (uT p0) [(nar .char (fn1 q1 w1 w2 w3 G1 sf)), (nar .char (fn1 (sR q1 (11 : Int32)) w1 w2 w3 G1 sf)), (nar .char (fn1 (sR q1 (22 : Int32)) w1 w2 w3 G1 sf))]) (cT p0) (stk (cT p0) [(nar .char (fn1 q2 w1 w2 w3 G1 sf)), (nar .char (fn1 (sR q2 (11 : Int32)) w1 w2 w3 G1 sf)), (nar .char (fn1 (sR q2 (22 : Int32)) w1 w2 w3 G1 sf)), (nar .char (fn1 (sR q2 (33 : Int32)) w1 w2 w3 G1 sf))]) w1 w2 w3 G1 sf))]) (fun _ k => XS.iload X97.here hx rfl (hb hby at_377) rfl k) ?_
          have J102 : ∀ (T' : State) (lc : List Loc) (X' : Stand p l e room_1 (s.setVm T47.vm) m #[(.int p0), (.long q1), (.long q2)] below meth c T' lc 14 31) (eT : T'.heap = T47.heap) (N' : Fr n0 lc) (zj102_0 : Int32) (hz102_0 : zj102_0 = (fj0_7 p0 q1 q2 w1 w2 w3 G1 sf)), Gl p e below (PosW 32 1152 (Q0 Z p0 q1 q2 w1 w2 w3 G1 sf h0 n0) s) T' (mkF m 387 #[vi p0, vj q1, .second, vj q2, .second, vi (kT p0), vi (uT p0), vi (cT p0), vi (aT p0), vr b1, vr b18, vr r_42, vr r_47, vi (fj0_0 p0 q1 w1 w2 w3 G1 sf), vr w3, vi ((fj0_0 p0 q1 w1 w2 w3 G1 sf) + (1 : Int32)), vi (uT p0), vi (-1 : Int32), .unset] [(.int zj102_0)]) := by
            intro T' lc X' eT N' zj102_0 hz102_0
            subst hz102_0
            exact Gl.outNW X' hS (by rw [eT]; exact (Nat.le_refl _)) hx hk (t := .boolean) Bd.returns (by simp) (hb hby at_387) ⟨(congrArg (fun z => some (Value.int z)) (show nar .boolean (fj0_7 p0 q1 q2 w1 w2 w3 G1 sf) = fn0 p0 q1 q2 w1 w2 w3 G1 sf by unfold fn0; rw [if_neg hf52, if_neg hf72, if_pos hf96]; try rfl)), N'⟩ (by decide) (by decide)
          by_cases hf103 : (fn72 (aT p0) (uT p0) (stk (uT p0) [(nar .char (fn1 q1 w1 w2 w3 G1 sf)), (nar .char (fn1 (sR q1 (11 : Int32)) w1 w2 w3 G1 sf)), (nar .char (fn1 (sR q1 (22 : Int32)) w1 w2 w3 G1 sf))]) (cT p0) (stk (cT p0) [(nar .char (fn1 q2 w1 w2 w3 G1 sf)), (nar .char (fn1 (sR q2 (11 : Int32)) w1 w2 w3 G1 sf)), (nar .char (fn1 (sR q2 (22 : Int32)) w1 w2 w3 G1 sf)), (nar .char (fn1 (sR q2 (33 : Int32)) w1 w2 w3 G1 sf))]) w1 w2 w3 G1 sf) = (-1 : Int32)
          · refine gb (mkF m 382 #[vi p0, vj q1, .second, vj q2, .second, vi (kT p0), vi (uT p0), vi (cT p0), vi (aT p0), vr b1, vr b18, vr r_42, vr r_47, vi (fj0_0 p0 q1 w1 w2 w3 G1 sf), vr w3, vi ((fj0_0 p0 q1 w1 w2 w3 G1 sf) + (1 : Int32)), vi (uT p0), vi (-1 : Int32), .unset] []) (fun _ k => XS.icmpNo X97.here hx rfl (hb hby at_379) rfl (teq hf103).2 k) ?_
            refine gb (mkF m 383 #[vi p0, vj q1, .second, vj q2, .second, vi (kT p0), vi (uT p0), vi (cT p0), vi (aT p0), vr b1, vr b18, vr r_42, vr r_47, vi (fj0_0 p0 q1 w1 w2 w3 G1 sf), vr w3, vi ((fj0_0 p0 q1 w1 w2 w3 G1 sf) + (1 : Int32)), vi (uT p0), vi (-1 : Int32), .unset] [(.int 1)]) (fun _ k => XS.iconst X97.here hx rfl (hb hby at_382) k) ?_
            refine gb (mkF m 387 #[vi p0, vj q1, .second, vj q2, .second, vi (kT p0), vi (uT p0), vi (cT p0), vi (aT p0), vr b1, vr b18, vr r_42, vr r_47, vi (fj0_0 p0 q1 w1 w2 w3 G1 sf), vr w3, vi ((fj0_0 p0 q1 w1 w2 w3 G1 sf) + (1 : Int32)), vi (uT p0), vi (-1 : Int32), .unset] [(.int 1)]) (fun _ k => XS.goto X97.here hx rfl (pc0 := 383) (pc' := 387) rfl (hb hby at_383) (by decide) (by decide) k) ?_
            exact J102 _ _ X97 e97 N97 (1 : Int32) (show (1 : Int32) = (fj0_7 p0 q1 q2 w1 w2 w3 G1 sf) by unfold fj0_7; rw [if_pos hf103]; try rfl)
          · refine gb (mkF m 386 #[vi p0, vj q1, .second, vj q2, .second, vi (kT p0), vi (uT p0), vi (cT p0), vi (aT p0), vr b1, vr b18, vr r_42, vr r_47, vi (fj0_0 p0 q1 w1 w2 w3 G1 sf), vr w3, vi ((fj0_0 p0 q1 w1 w2 w3 G1 sf) + (1 : Int32)), vi (uT p0), vi (-1 : Int32), .unset] []) (fun _ k => XS.icmpYes X97.here hx rfl (pc0 := 379) (pc' := 386) rfl (hb hby at_379) rfl (feq hf103).2 (by decide) (by decide) k) ?_
            refine gb (mkF m 387 #[vi p0, vj q1, .second, vj q2, .second, vi (kT p0), vi (uT p0), vi (cT p0), vi (aT p0), vr b1, vr b18, vr r_42, vr r_47, vi (fj0_0 p0 q1 w1 w2 w3 G1 sf), vr w3, vi ((fj0_0 p0 q1 w1 w2 w3 G1 sf) + (1 : Int32)), vi (uT p0), vi (-1 : Int32), .unset] [(.int 0)]) (fun _ k => XS.iconst X97.here hx rfl (hb hby at_386) k) ?_
            exact J102 _ _ X97 e97 N97 (0 : Int32) (show (0 : Int32) = (fj0_7 p0 q1 q2 w1 w2 w3 G1 sf) by unfold fj0_7; rw [if_neg hf103]; try rfl)
        · refine gb (mkF m 279 #[vi p0, vj q1, .second, vj q2, .second, vi (kT p0), vi (uT p0), vi (cT p0), vi (aT p0), vr b1, vr b18, vr r_42, vr r_47, vi (fj0_0 p0 q1 w1 w2 w3 G1 sf), vr w3, vi ((fj0_0 p0 q1 w1 w2 w3 G1 sf) + (1 : Int32)), vi (uT p0), .unset, .unset] []) (fun _ k => XS.ifYes X94.here hx rfl (pc0 := 270) (pc' := 279) rfl (hb hby at_270) rfl ((if0 _ _).trans (flt hf96).2.1) (by decide) (by decide) k) ?_
          refine gb (mkF m 281 #[vi p0, vj q1, .second, vj q2, .second, vi (kT p0), vi (uT p0), vi (cT p0), vi (aT p0), vr b1, vr b18, vr r_42, vr r_47, vi (fj0_0 p0 q1 w1 w2 w3 G1 sf), vr w3, vi ((fj0_0 p0 q1 w1 w2 w3 G1 sf) + (1 : Int32)), vi (uT p0), .unset, .unset] [(.int (uT p0))]) (fun _ k => XS.iload X94.here hx rfl (hb hby at_279) rfl k) ?_
          refine gb (mkF m 283 #[vi p0, vj q1, .second, vj q2, .second, vi (kT p0), vi (uT p0), vi (cT p0), vi (aT p0), vr b1, vr b18, vr r_42, vr r_47, vi (fj0_0 p0 q1 w1 w2 w3 G1 sf), vr w3, vi ((fj0_0 p0 q1 w1 w2 w3 G1 sf) + (1 : Int32)), vi (uT p0), .unset, .unset] [(.int ((fj0_0 p0 q1 w1 w2 w3 G1 sf) + (1 : Int32))), (.int (uT p0))]) (fun _ k => XS.iload X94.here hx rfl (hb hby at_281) rfl k) ?_
          refine gb (mkF m 284 #[vi p0, vj q1, .second, vj q2, .second, vi (kT p0), vi (uT p0), vi (cT p0), vi (aT p0), vr b1, vr b18, vr r_42, vr r_47, vi (fj0_0 p0 q1 w1 w2 w3 G1 sf), vr w3, vi ((fj0_0 p0 q1 w1 w2 w3 G1 sf) + (1 : Int32)), vi (uT p0), .unset, .unset] [(.int ((uT p0) - ((fj0_0 p0 q1 w1 w2 w3 G1 sf) + (1 : Int32))))]) (fun _ k => XS.isub X94.here hx rfl (hb hby at_283) rfl k) ?_
          refine gb (mkF m 286 #[vi p0, vj q1, .second, vj q2, .second, vi (kT p0), vi (uT p0), vi (cT p0), vi (aT p0), vr b1, vr b18, vr r_42, vr r_47, vi (fj0_0 p0 q1 w1 w2 w3 G1 sf), vr w3, vi ((fj0_0 p0 q1 w1 w2 w3 G1 sf) + (1 : Int32)), vi (uT p0), .unset, vi ((uT p0) - ((fj0_0 p0 q1 w1 w2 w3 G1 sf) + (1 : Int32)))] []) (fun _ k => XS.istore X94.here hx rfl (hb hby at_284) rfl (l' := #[vi p0, vj q1, .second, vj q2, .second, vi (kT p0), vi (uT p0), vi (cT p0), vi (aT p0), vr b1, vr b18, vr r_42, vr r_47, vi (fj0_0 p0 q1 w1 w2 w3 G1 sf), vr w3, vi ((fj0_0 p0 q1 w1 w2 w3 G1 sf) + (1 : Int32)), vi (uT p0), .unset, vi ((uT p0) - ((fj0_0 p0 q1 w1 w2 w3 G1 sf) + (1 : Int32)))]) rfl k) ?_
          refine gb (mkF m 288 #[vi p0, vj q1, .second, vj q2, .second, vi (kT p0), vi (uT p0), vi (cT p0), vi (aT p0), vr b1, vr b18, vr r_42, vr r_47, vi (fj0_0 p0 q1 w1 w2 w3 G1 sf), vr w3, vi ((fj0_0 p0 q1 w1 w2 w3 G1 sf) + (1 : Int32)), vi (uT p0), .unset, vi ((uT p0) - ((fj0_0 p0 q1 w1 w2 w3 G1 sf) + (1 : Int32)))] [(.int (cT p0))]) (fun _ k => XS.iload X94.here hx rfl (hb hby at_286) rfl k) ?_
          refine gb (mkF m 290 #[vi p0, vj q1, .second, vj q2, .second, vi (kT p0), vi (uT p0), vi (cT p0), vi (aT p0), vr b1, vr b18, vr r_42, vr r_47, vi (fj0_0 p0 q1 w1 w2 w3 G1 sf), vr w3, vi ((fj0_0 p0 q1 w1 w2 w3 G1 sf) + (1 : Int32)), vi (uT p0), .unset, vi ((uT p0) - ((fj0_0 p0 q1 w1 w2 w3 G1 sf) + (1 : Int32)))] [(.int (aT p0)), (.int (cT p0))]) (fun _ k => XS.iload X94.here hx rfl (hb hby at_288) rfl k) ?_
          refine gb (mkF m 291 #[vi p0, vj q1, .second, vj q2, .second, vi (kT p0), vi (uT p0), vi (cT p0), vi (aT p0), vr b1, vr b18, vr r_42, vr r_47, vi (fj0_0 p0 q1 w1 w2 w3 G1 sf), vr w3, vi ((fj0_0 p0 q1 w1 w2 w3 G1 sf) + (1 : Int32)), vi (uT p0), .unset, vi ((uT p0) - ((fj0_0 p0 q1 w1 w2 w3 G1 sf) + (1 : Int32)))] [(.int ((cT p0) - (aT p0)))]) (fun _ k => XS.isub X94.here hx rfl (hb hby at_290) rfl k) ?_
          refine gb (mkF m 293 #[vi p0, vj q1, .second, vj q2, .second, vi (kT p0), vi (uT p0), vi (cT p0), vi (aT p0), vr b1, vr b18, vr r_42, vr r_47, vi (fj0_0 p0 q1 w1 w2 w3 G1 sf), vr w3, vi ((fj0_0 p0 q1 w1 w2 w3 G1 sf) + (1 : Int32)), vi (uT p0), .unset, vi ((uT p0) - ((fj0_0 p0 q1 w1 w2 w3 G1 sf) + (1 : Int32)))] [(.int ((uT p0) - ((fj0_0 p0 q1 w1 w2 w3 G1 sf) + (1 : Int32)))), (.int ((cT p0) - (aT p0)))]) (fun _ k => XS.iload X94.here hx rfl (hb hby at_291) rfl k) ?_
          have J104 : ∀ (T' : State) (lc : List Loc) (X' : Stand p l e room_1 (s.setVm T47.vm) m #[(.int p0), (.long q1), (.long q2)] below meth c T' lc 14 31) (eT : T'.heap = T47.heap) (N' : Fr n0 lc) (zj104_0 : Int32) (hz104_0 : zj104_0 = (fj0_8 p0 q1 q2 w1 w2 w3 G1 sf)), Gl p e below (PosW 32 1152 (Q0 Z p0 q1 q2 w1 w2 w3 G1 sf h0 n0) s) T' (mkF m 366 #[vi p0, vj q1, .second, vj q2, .second, vi (kT p0), vi (uT p0), vi (cT p0), vi (aT p0), vr b1, vr b18, vr r_42, vr r_47, vi (fj0_0 p0 q1 w1 w2 w3 G1 sf), vr w3, vi ((fj0_0 p0 q1 w1 w2 w3 G1 sf) + (1 : Int32)), vi (uT p0), vi zj104_0, vi ((uT p0) - ((fj0_0 p0 q1 w1 w2 w3 G1 sf) + (1 : Int32)))] []) := by
            intro T' lc X' eT N' zj104_0 hz104_0
            subst hz104_0
            refine gb (mkF m 368 #[vi p0, vj q1, .second, vj q2, .second, vi (kT p0), vi (uT p0), vi (cT p0), vi (aT p0), vr b1, vr b18, vr r_42, vr r_47, vi (fj0_0 p0 q1 w1 w2 w3 G1 sf), vr w3, vi ((fj0_0 p0 q1 w1 w2 w3 G1 sf) + (1 : Int32)), vi (uT p0), vi (fj0_8 p0 q1 q2 w1 w2 w3 G1 sf), vi ((uT p0) - ((fj0_0 p0 q1 w1 w2 w3 G1 sf) + (1 : Int32)))] [(.ref w3)]) (fun _ k => XS.aload X'.here hx rfl (hb hby at_366) rfl rfl k) ?_
            refine gb (mkF m 370 #[vi p0, vj q1, .second, vj q2, .second, vi (kT p0), vi (uT p0), vi (cT p0), vi (aT p0), vr b1, vr b18, vr r_42, vr r_47, vi (fj0_0 p0 q1 w1 w2 w3 G1 sf), vr w3, vi ((fj0_0 p0 q1 w1 w2 w3 G1 sf) + (1 : Int32)), vi (uT p0), vi (fj0_8 p0 q1 q2 w1 w2 w3 G1 sf), vi ((uT p0) - ((fj0_0 p0 q1 w1 w2 w3 G1 sf) + (1 : Int32)))] [(.ref r_42), (.ref w3)]) (fun _ k => XS.aload X'.here hx rfl (hb hby at_368) rfl rfl k) ?_
            refine gb (mkF m 372 #[vi p0, vj q1, .second, vj q2, .second, vi (kT p0), vi (uT p0), vi (cT p0), vi (aT p0), vr b1, vr b18, vr r_42, vr r_47, vi (fj0_0 p0 q1 w1 w2 w3 G1 sf), vr w3, vi ((fj0_0 p0 q1 w1 w2 w3 G1 sf) + (1 : Int32)), vi (uT p0), vi (fj0_8 p0 q1 q2 w1 w2 w3 G1 sf), vi ((uT p0) - ((fj0_0 p0 q1 w1 w2 w3 G1 sf) + (1 : Int32)))] [(.ref r_47), (.ref r_42), (.ref w3)]) (fun _ k => XS.aload X'.here hx rfl (hb hby at_370) rfl rfl k) ?_
            refine gb (mkF m 374 #[vi p0, vj q1, .second, vj q2, .second, vi (kT p0), vi (uT p0), vi (cT p0), vi (aT p0), vr b1, vr b18, vr r_42, vr r_47, vi (fj0_0 p0 q1 w1 w2 w3 G1 sf), vr w3, vi ((fj0_0 p0 q1 w1 w2 w3 G1 sf) + (1 : Int32)), vi (uT p0), vi (fj0_8 p0 q1 q2 w1 w2 w3 G1 sf), vi ((uT p0) - ((fj0_0 p0 q1 w1 w2 w3 G1 sf) + (1 : Int32)))] [(.int (aT p0)), (.ref r_47), (.ref r_42), (.ref w3)]) (fun _ k => XS.iload X'.here hx rfl (hb hby at_372) rfl k) ?_
            have f106 := (Exa.keep fc42_0 Kc47)
            have f107 := (Fld.keep fc42_1 Kc47 nin0)
            have f108 := (Fld.keep fc42_2 Kc47 nin0)
            have f109 := (Arv.keep fc42_3 Kc47 nin0)
            obtain ⟨cq105, kq105, q105a, q105b, q105c⟩ := isOf hZ eT (Exa.ext O95.2 W.2.2.2.2.2.1)
            obtain ⟨_, _, ⟨T105, L105, k105, n105⟩, -, X105, ⟨Lc105, hQ105, l105, y105, z105⟩, st105⟩ := X'.virtualBack hx (y := mq25) (z := mq25) hown (mvT hZ (hW hw 37 rfl)) (mvT hZ (hW hw 38 rfl)) (notFace_of_selects (args := #[]) (mvT hZ (hW hw 40 rfl))) (mvT hZ (hW hw 40 rfl)) (mvT hZ (hW hw 39 rfl)) (by decide) (backOf (W := 0) (rm72 l Z a0' hw [] w3 r_42 r_47 (aT p0) b_42 kb_42 (uT p0) (stk (uT p0) [(nar .char (fn1 q1 w1 w2 w3 G1 sf)), (nar .char (fn1 (sR q1 (11 : Int32)) w1 w2 w3 G1 sf)), (nar .char (fn1 (sR q1 (22 : Int32)) w1 w2 w3 G1 sf))]) b_47 kb_47 (cT p0) (stk (cT p0) [(nar .char (fn1 q2 w1 w2 w3 G1 sf)), (nar .char (fn1 (sR q2 (11 : Int32)) w1 w2 w3 G1 sf)), (nar .char (fn1 (sR q2 (22 : Int32)) w1 w2 w3 G1 sf)), (nar .char (fn1 (sR q2 (33 : Int32)) w1 w2 w3 G1 sf))]) w1 w2 w3 G1 sf T47.heap n0 O95 W (Exa.ext O95.2 W.2.2.2.2.2.1) (Fld.ext O95.2 W.2.2.2.2.2.2.2.2.1) f106 f107 f108 f109 fc47_0 fc47_1 fc47_2 fc47_3 (rg0 p0)) hZ (hW hw 41 rfl) (hW hw 32 rfl) (by decide) (by decide)) q105a q105c (g := (mkF m 374 #[vi p0, vj q1, .second, vj q2, .second, vi (kT p0), vi (uT p0), vi (cT p0), vi (aT p0), vr b1, vr b18, vr r_42, vr r_47, vi (fj0_0 p0 q1 w1 w2 w3 G1 sf), vr w3, vi ((fj0_0 p0 q1 w1 w2 w3 G1 sf) + (1 : Int32)), vi (uT p0), vi (fj0_8 p0 q1 q2 w1 w2 w3 G1 sf), vi ((uT p0) - ((fj0_0 p0 q1 w1 w2 w3 G1 sf) + (1 : Int32)))] [(.int (aT p0)), (.ref r_47), (.ref r_42), (.ref w3)])) rfl (by rw [hml]; rfl) (Steps.refl _) (argsL := [(.ref r_42), (.ref r_47), (.int (aT p0))]) (rest := []) (lenOf pd496 rfl) rfl (Nat.le_of_eq rfl) (hb hby at_374) (fun _ _ => ⟨rfl, eT, (by decide : 14 + 0 ≤ _), (by decide : 31 + 0 ≤ _)⟩)
            dsimp only [Pt.U, Pt.locs, Pt.cells, Pt.slots] at X105 l105 y105 z105 st105 hQ105
            subst l105 y105 z105
            obtain ⟨rfl, N105q, e105⟩ := hQ105
            have N105 := Fr.app N' N105q
            refine gb (mkF m 377 #[vi p0, vj q1, .second, vj q2, .second, vi (kT p0), vi (uT p0), vi (cT p0), vi (aT p0), vr b1, vr b18, vr r_42, vr r_47, vi (fj0_0 p0 q1 w1 w2 w3 G1 sf), vr w3, vi ((fj0_0 p0 q1 w1 w2 w3 G1 sf) + (1 : Int32)), vi (uT p0), vi (fj0_8 p0 q1 q2 w1 w2 w3 G1 sf), vi ((uT p0) - ((fj0_0 p0 q1 w1 w2 w3 G1 sf) + (1 : Int32)))] [(.int (fn72 (aT p0) (uT p0) (stk (uT p0) [(nar .char (fn1 q1 w1 w2 w3 G1 sf)), (nar .char (fn1 (sR q1 (11 : Int32)) w1 w2 w3 G1 sf)), (nar .char (fn1 (sR q1 (22 : Int32)) w1 w2 w3 G1 sf))]) (cT p0) (stk (cT p0) [(nar .char (fn1 q2 w1 w2 w3 G1 sf)), (nar .char (fn1 (sR q2 (11 : Int32)) w1 w2 w3 G1 sf)), (nar .char (fn1 (sR q2 (22 : Int32)) w1 w2 w3 G1 sf)), (nar .char (fn1 (sR q2 (33 : Int32)) w1 w2 w3 G1 sf))]) w1 w2 w3 G1 sf))]) (fun _ k => st105.trans k) ?_
            refine gb (mkF m 379 #[vi p0, vj q1, .second, vj q2, .second, vi (kT p0), vi (uT p0), vi (cT p0), vi (aT p0), vr b1, vr b18, vr r_42, vr r_47, vi (fj0_0 p0 q1 w1 w2 w3 G1 sf), vr w3, vi ((fj0_0 p0 q1 w1 w2 w3 G1 sf) + (1 : Int32)), vi (uT p0), vi (fj0_8 p0 q1 q2 w1 w2 w3 G1 sf), vi ((uT p0) - ((fj0_0 p0 q1 w1 w2 w3 G1 sf) + (1 : Int32)))] [(.int (fj0_8 p0 q1 q2 w1 w2 w3 G1 sf)), (.int (fn72 (aT p0) (uT p0) (stk (uT p0) [(nar .char (fn1 q1 w1 w2 w3 G1 sf)), (nar .char (fn1 (sR q1 (11 : Int32)) w1 w2 w3 G1 sf)), (nar .char (fn1 (sR q1 (22 : Int32)) w1 w2 w3 G1 sf))]) (cT p0) (stk (cT p0) [(nar .char (fn1 q2 w1 w2 w3 G1 sf)), (nar .char (fn1 (sR q2 (11 : Int32)) w1 w2 w3 G1 sf)), (nar .char (fn1 (sR q2 (22 : Int32)) w1 w2 w3 G1 sf)), (nar .char (fn1 (sR q2 (33 : Int32)) w1 w2 w3 G1 sf))]) w1 w2 w3 G1 sf))]) (fun _ k => XS.iload X105.here hx rfl (hb hby at_377) rfl k) ?_
            have J110 : ∀ (T' : State) (lc : List Loc) (X' : Stand p l e room_1 (s.setVm T47.vm) m #[(.int p0), (.long q1), (.long q2)] below meth c T' lc 14 31) (eT : T'.heap = T47.heap) (N' : Fr n0 lc) (zj110_0 : Int32) (hz110_0 : zj110_0 = (fj0_9 p0 q1 q2 w1 w2 w3 G1 sf)), Gl p e below (PosW 32 1152 (Q0 Z p0 q1 q2 w1 w2 w3 G1 sf h0 n0) s) T' (mkF m 387 #[vi p0, vj q1, .second, vj q2, .second, vi (kT p0), vi (uT p0), vi (cT p0), vi (aT p0), vr b1, vr b18, vr r_42, vr r_47, vi (fj0_0 p0 q1 w1 w2 w3 G1 sf), vr w3, vi ((fj0_0 p0 q1 w1 w2 w3 G1 sf) + (1 : Int32)), vi (uT p0), vi (fj0_8 p0 q1 q2 w1 w2 w3 G1 sf), vi ((uT p0) - ((fj0_0 p0 q1 w1 w2 w3 G1 sf) + (1 : Int32)))] [(.int zj110_0)]) := by
              intro T' lc X' eT N' zj110_0 hz110_0
              subst hz110_0
              exact Gl.outNW X' hS (by rw [eT]; exact (Nat.le_refl _)) hx hk (t := .boolean) Bd.returns (by simp) (hb hby at_387) ⟨(congrArg (fun z => some (Value.int z)) (show nar .boolean (fj0_9 p0 q1 q2 w1 w2 w3 G1 sf) = fn0 p0 q1 q2 w1 w2 w3 G1 sf by unfold fn0; rw [if_neg hf52, if_neg hf72, if_neg hf96]; try rfl)), N'⟩ (by decide) (by decide)
            by_cases hf111 : (fn72 (aT p0) (uT p0) (stk (uT p0) [(nar .char (fn1 q1 w1 w2 w3 G1 sf)), (nar .char (fn1 (sR q1 (11 : Int32)) w1 w2 w3 G1 sf)), (nar .char (fn1 (sR q1 (22 : Int32)) w1 w2 w3 G1 sf))]) (cT p0) (stk (cT p0) [(nar .char (fn1 q2 w1 w2 w3 G1 sf)), (nar .char (fn1 (sR q2 (11 : Int32)) w1 w2 w3 G1 sf)), (nar .char (fn1 (sR q2 (22 : Int32)) w1 w2 w3 G1 sf)), (nar .char (fn1 (sR q2 (33 : Int32)) w1 w2 w3 G1 sf))]) w1 w2 w3 G1 sf) = (fj0_8 p0 q1 q2 w1 w2 w3 G1 sf)
            · refine gb (mkF m 382 #[vi p0, vj q1, .second, vj q2, .second, vi (kT p0), vi (uT p0), vi (cT p0), vi (aT p0), vr b1, vr b18, vr r_42, vr r_47, vi (fj0_0 p0 q1 w1 w2 w3 G1 sf), vr w3, vi ((fj0_0 p0 q1 w1 w2 w3 G1 sf) + (1 : Int32)), vi (uT p0), vi (fj0_8 p0 q1 q2 w1 w2 w3 G1 sf), vi ((uT p0) - ((fj0_0 p0 q1 w1 w2 w3 G1 sf) + (1 : Int32)))] []) (fun _ k => XS.icmpNo X105.here hx rfl (hb hby at_379) rfl (teq hf111).2 k) ?_
              refine gb (mkF m 383 #[vi p0, vj q1, .second, vj q2, .second, vi (kT p0), vi (uT p0), vi (cT p0), vi (aT p0), vr b1, vr b18, vr r_42, vr r_47, vi (fj0_0 p0 q1 w1 w2 w3 G1 sf), vr w3, vi ((fj0_0 p0 q1 w1 w2 w3 G1 sf) + (1 : Int32)), vi (uT p0), vi (fj0_8 p0 q1 q2 w1 w2 w3 G1 sf), vi ((uT p0) - ((fj0_0 p0 q1 w1 w2 w3 G1 sf) + (1 : Int32)))] [(.int 1)]) (fun _ k => XS.iconst X105.here hx rfl (hb hby at_382) k) ?_
              refine gb (mkF m 387 #[vi p0, vj q1, .second, vj q2, .second, vi (kT p0), vi (uT p0), vi (cT p0), vi (aT p0), vr b1, vr b18, vr r_42, vr r_47, vi (fj0_0 p0 q1 w1 w2 w3 G1 sf), vr w3, vi ((fj0_0 p0 q1 w1 w2 w3 G1 sf) + (1 : Int32)), vi (uT p0), vi (fj0_8 p0 q1 q2 w1 w2 w3 G1 sf), vi ((uT p0) - ((fj0_0 p0 q1 w1 w2 w3 G1 sf) + (1 : Int32)))] [(.int 1)]) (fun _ k => XS.goto X105.here hx rfl (pc0 := 383) (pc' := 387) rfl (hb hby at_383) (by decide) (by decide) k) ?_
              exact J110 _ _ X105 e105 N105 (1 : Int32) (show (1 : Int32) = (fj0_9 p0 q1 q2 w1 w2 w3 G1 sf) by unfold fj0_9; rw [if_pos hf111]; try rfl)
            · refine gb (mkF m 386 #[vi p0, vj q1, .second, vj q2, .second, vi (kT p0), vi (uT p0), vi (cT p0), vi (aT p0), vr b1, vr b18, vr r_42, vr r_47, vi (fj0_0 p0 q1 w1 w2 w3 G1 sf), vr w3, vi ((fj0_0 p0 q1 w1 w2 w3 G1 sf) + (1 : Int32)), vi (uT p0), vi (fj0_8 p0 q1 q2 w1 w2 w3 G1 sf), vi ((uT p0) - ((fj0_0 p0 q1 w1 w2 w3 G1 sf) + (1 : Int32)))] []) (fun _ k => XS.icmpYes X105.here hx rfl (pc0 := 379) (pc' := 386) rfl (hb hby at_379) rfl (feq hf111).2 (by decide) (by decide) k) ?_
              refine gb (mkF m 387 #[vi p0, vj q1, .second, vj q2, .second, vi (kT p0), vi (uT p0), vi (cT p0), vi (aT p0), vr b1, vr b18, vr r_42, vr r_47, vi (fj0_0 p0 q1 w1 w2 w3 G1 sf), vr w3, vi ((fj0_0 p0 q1 w1 w2 w3 G1 sf) + (1 : Int32)), vi (uT p0), vi (fj0_8 p0 q1 q2 w1 w2 w3 G1 sf), vi ((uT p0) - ((fj0_0 p0 q1 w1 w2 w3 G1 sf) + (1 : Int32)))] [(.int 0)]) (fun _ k => XS.iconst X105.here hx rfl (hb hby at_386) k) ?_
              exact J110 _ _ X105 e105 N105 (0 : Int32) (show (0 : Int32) = (fj0_9 p0 q1 q2 w1 w2 w3 G1 sf) by unfold fj0_9; rw [if_neg hf111]; try rfl)
          by_cases hf112 : ((cT p0) - (aT p0)) < ((uT p0) - ((fj0_0 p0 q1 w1 w2 w3 G1 sf) + (1 : Int32)))
          · refine gb (mkF m 296 #[vi p0, vj q1, .second, vj q2, .second, vi (kT p0), vi (uT p0), vi (cT p0), vi (aT p0), vr b1, vr b18, vr r_42, vr r_47, vi (fj0_0 p0 q1 w1 w2 w3 G1 sf), vr w3, vi ((fj0_0 p0 q1 w1 w2 w3 G1 sf) + (1 : Int32)), vi (uT p0), .unset, vi ((uT p0) - ((fj0_0 p0 q1 w1 w2 w3 G1 sf) + (1 : Int32)))] []) (fun _ k => XS.icmpNo X94.here hx rfl (hb hby at_293) rfl (tlt hf112).2.1 k) ?_
            refine gb (mkF m 297 #[vi p0, vj q1, .second, vj q2, .second, vi (kT p0), vi (uT p0), vi (cT p0), vi (aT p0), vr b1, vr b18, vr r_42, vr r_47, vi (fj0_0 p0 q1 w1 w2 w3 G1 sf), vr w3, vi ((fj0_0 p0 q1 w1 w2 w3 G1 sf) + (1 : Int32)), vi (uT p0), .unset, vi ((uT p0) - ((fj0_0 p0 q1 w1 w2 w3 G1 sf) + (1 : Int32)))] [(.int (-1 : Int32))]) (fun _ k => XS.iconst X94.here hx rfl (hb hby at_296) k) ?_
            refine gb (mkF m 299 #[vi p0, vj q1, .second, vj q2, .second, vi (kT p0), vi (uT p0), vi (cT p0), vi (aT p0), vr b1, vr b18, vr r_42, vr r_47, vi (fj0_0 p0 q1 w1 w2 w3 G1 sf), vr w3, vi ((fj0_0 p0 q1 w1 w2 w3 G1 sf) + (1 : Int32)), vi (uT p0), vi (-1 : Int32), vi ((uT p0) - ((fj0_0 p0 q1 w1 w2 w3 G1 sf) + (1 : Int32)))] []) (fun _ k => XS.istore X94.here hx rfl (hb hby at_297) rfl (l' := #[vi p0, vj q1, .second, vj q2, .second, vi (kT p0), vi (uT p0), vi (cT p0), vi (aT p0), vr b1, vr b18, vr r_42, vr r_47, vi (fj0_0 p0 q1 w1 w2 w3 G1 sf), vr w3, vi ((fj0_0 p0 q1 w1 w2 w3 G1 sf) + (1 : Int32)), vi (uT p0), vi (-1 : Int32), vi ((uT p0) - ((fj0_0 p0 q1 w1 w2 w3 G1 sf) + (1 : Int32)))]) rfl k) ?_
            refine gb (mkF m 366 #[vi p0, vj q1, .second, vj q2, .second, vi (kT p0), vi (uT p0), vi (cT p0), vi (aT p0), vr b1, vr b18, vr r_42, vr r_47, vi (fj0_0 p0 q1 w1 w2 w3 G1 sf), vr w3, vi ((fj0_0 p0 q1 w1 w2 w3 G1 sf) + (1 : Int32)), vi (uT p0), vi (-1 : Int32), vi ((uT p0) - ((fj0_0 p0 q1 w1 w2 w3 G1 sf) + (1 : Int32)))] []) (fun _ k => XS.goto X94.here hx rfl (pc0 := 299) (pc' := 366) rfl (hb hby at_299) (by decide) (by decide) k) ?_
            exact J104 _ _ X94 e94 N' (-1 : Int32) (show (-1 : Int32) = (fj0_8 p0 q1 q2 w1 w2 w3 G1 sf) by unfold fj0_8; rw [if_pos hf112]; try rfl)
          · refine gb (mkF m 302 #[vi p0, vj q1, .second, vj q2, .second, vi (kT p0), vi (uT p0), vi (cT p0), vi (aT p0), vr b1, vr b18, vr r_42, vr r_47, vi (fj0_0 p0 q1 w1 w2 w3 G1 sf), vr w3, vi ((fj0_0 p0 q1 w1 w2 w3 G1 sf) + (1 : Int32)), vi (uT p0), .unset, vi ((uT p0) - ((fj0_0 p0 q1 w1 w2 w3 G1 sf) + (1 : Int32)))] []) (fun _ k => XS.icmpYes X94.here hx rfl (pc0 := 293) (pc' := 302) rfl (hb hby at_293) rfl (flt hf112).2.1 (by decide) (by decide) k) ?_
            refine gb (mkF m 304 #[vi p0, vj q1, .second, vj q2, .second, vi (kT p0), vi (uT p0), vi (cT p0), vi (aT p0), vr b1, vr b18, vr r_42, vr r_47, vi (fj0_0 p0 q1 w1 w2 w3 G1 sf), vr w3, vi ((fj0_0 p0 q1 w1 w2 w3 G1 sf) + (1 : Int32)), vi (uT p0), .unset, vi ((uT p0) - ((fj0_0 p0 q1 w1 w2 w3 G1 sf) + (1 : Int32)))] [(.ref b1)]) (fun _ k => XS.aload X94.here hx rfl (hb hby at_302) rfl rfl k) ?_
            refine gb (mkF m 306 #[vi p0, vj q1, .second, vj q2, .second, vi (kT p0), vi (uT p0), vi (cT p0), vi (aT p0), vr b1, vr b18, vr r_42, vr r_47, vi (fj0_0 p0 q1 w1 w2 w3 G1 sf), vr w3, vi ((fj0_0 p0 q1 w1 w2 w3 G1 sf) + (1 : Int32)), vi (uT p0), .unset, vi ((uT p0) - ((fj0_0 p0 q1 w1 w2 w3 G1 sf) + (1 : Int32)))] [(.int ((fj0_0 p0 q1 w1 w2 w3 G1 sf) + (1 : Int32))), (.ref b1)]) (fun _ k => XS.iload X94.here hx rfl (hb hby at_304) rfl k) ?_
            refine gb (mkF m 308 #[vi p0, vj q1, .second, vj q2, .second, vi (kT p0), vi (uT p0), vi (cT p0), vi (aT p0), vr b1, vr b18, vr r_42, vr r_47, vi (fj0_0 p0 q1 w1 w2 w3 G1 sf), vr w3, vi ((fj0_0 p0 q1 w1 w2 w3 G1 sf) + (1 : Int32)), vi (uT p0), .unset, vi ((uT p0) - ((fj0_0 p0 q1 w1 w2 w3 G1 sf) + (1 : Int32)))] [(.ref b18), (.int ((fj0_0 p0 q1 w1 w2 w3 G1 sf) + (1 : Int32))), (.ref b1)]) (fun _ k => XS.aload X94.here hx rfl (hb hby at_306) rfl rfl k) ?_
            refine gb (mkF m 310 #[vi p0, vj q1, .second, vj q2, .second, vi (kT p0), vi (uT p0), vi (cT p0), vi (aT p0), vr b1, vr b18, vr r_42, vr r_47, vi (fj0_0 p0 q1 w1 w2 w3 G1 sf), vr w3, vi ((fj0_0 p0 q1 w1 w2 w3 G1 sf) + (1 : Int32)), vi (uT p0), .unset, vi ((uT p0) - ((fj0_0 p0 q1 w1 w2 w3 G1 sf) + (1 : Int32)))] [(.int (aT p0)), (.ref b18), (.int ((fj0_0 p0 q1 w1 w2 w3 G1 sf) + (1 : Int32))), (.ref b1)]) (fun _ k => XS.iload X94.here hx rfl (hb hby at_308) rfl k) ?_
            refine gb (mkF m 312 #[vi p0, vj q1, .second, vj q2, .second, vi (kT p0), vi (uT p0), vi (cT p0), vi (aT p0), vr b1, vr b18, vr r_42, vr r_47, vi (fj0_0 p0 q1 w1 w2 w3 G1 sf), vr w3, vi ((fj0_0 p0 q1 w1 w2 w3 G1 sf) + (1 : Int32)), vi (uT p0), .unset, vi ((uT p0) - ((fj0_0 p0 q1 w1 w2 w3 G1 sf) + (1 : Int32)))] [(.int ((uT p0) - ((fj0_0 p0 q1 w1 w2 w3 G1 sf) + (1 : Int32)))), (.int (aT p0)), (.ref b18), (.int ((fj0_0 p0 q1 w1 w2 w3 G1 sf) + (1 : Int32))), (.ref b1)]) (fun _ k => XS.iload X94.here hx rfl (hb hby at_310) rfl k) ?_
            refine gb (mkF m 313 #[vi p0, vj q1, .second, vj q2, .second, vi (kT p0), vi (uT p0), vi (cT p0), vi (aT p0), vr b1, vr b18, vr r_42, vr r_47, vi (fj0_0 p0 q1 w1 w2 w3 G1 sf), vr w3, vi ((fj0_0 p0 q1 w1 w2 w3 G1 sf) + (1 : Int32)), vi (uT p0), .unset, vi ((uT p0) - ((fj0_0 p0 q1 w1 w2 w3 G1 sf) + (1 : Int32)))] [(.int 0), (.int ((uT p0) - ((fj0_0 p0 q1 w1 w2 w3 G1 sf) + (1 : Int32)))), (.int (aT p0)), (.ref b18), (.int ((fj0_0 p0 q1 w1 w2 w3 G1 sf) + (1 : Int32))), (.ref b1)]) (fun _ k => XS.iconst X94.here hx rfl (hb hby at_312) k) ?_
            have f114 := (Arv.keep (Arv.keep f43 Kc42 nin0) Kc47 nin0)
            have f115 := (Arv.keep f48 Kc47 nin0)
            obtain ⟨_, _, ⟨T113, L113, k113, n113⟩, -, X113, ⟨Lc113, hQ113, l113, y113, z113⟩, st113⟩ := callS X94 hx (y := mq15) hown (mvT hZ (hW hw 34 rfl)) (mvT hZ (hW hw 35 rfl)) (mvT hZ (hW hw 3 rfl)) (mvT hZ (hW hw 36 rfl)) (by decide) (backOf (W := 0) (rm60 l Z a0' hw [] b1 ((fj0_0 p0 q1 w1 w2 w3 G1 sf) + (1 : Int32)) b18 (aT p0) ((uT p0) - ((fj0_0 p0 q1 w1 w2 w3 G1 sf) + (1 : Int32))) k1 k18 (nar .char (fn1 q1 w1 w2 w3 G1 sf)) (nar .char (fn1 (sR q1 (11 : Int32)) w1 w2 w3 G1 sf)) (nar .char (fn1 (sR q1 (22 : Int32)) w1 w2 w3 G1 sf)) (nar .char (fn1 q2 w1 w2 w3 G1 sf)) (nar .char (fn1 (sR q2 (11 : Int32)) w1 w2 w3 G1 sf)) (nar .char (fn1 (sR q2 (22 : Int32)) w1 w2 w3 G1 sf)) (nar .char (fn1 (sR q2 (33 : Int32)) w1 w2 w3 G1 sf)) w1 w2 w3 G1 sf T47.heap n0 O95 W f114 f115 (hmm (Rg.b (rg0 p0) (fun _ => dl) hf96) hf112 (by decide) (by decide))) hZ (hW hw 36 rfl) (hW hw 3 rfl) (by decide) (by decide)) (g := (mkF m 313 #[vi p0, vj q1, .second, vj q2, .second, vi (kT p0), vi (uT p0), vi (cT p0), vi (aT p0), vr b1, vr b18, vr r_42, vr r_47, vi (fj0_0 p0 q1 w1 w2 w3 G1 sf), vr w3, vi ((fj0_0 p0 q1 w1 w2 w3 G1 sf) + (1 : Int32)), vi (uT p0), .unset, vi ((uT p0) - ((fj0_0 p0 q1 w1 w2 w3 G1 sf) + (1 : Int32)))] [(.int 0), (.int ((uT p0) - ((fj0_0 p0 q1 w1 w2 w3 G1 sf) + (1 : Int32)))), (.int (aT p0)), (.ref b18), (.int ((fj0_0 p0 q1 w1 w2 w3 G1 sf) + (1 : Int32))), (.ref b1)])) rfl (by rw [hml]; rfl) (argsL := [(.ref b1), (.int ((fj0_0 p0 q1 w1 w2 w3 G1 sf) + (1 : Int32))), (.ref b18), (.int (aT p0)), (.int ((uT p0) - ((fj0_0 p0 q1 w1 w2 w3 G1 sf) + (1 : Int32)))), (.int 0)]) (rest := []) (lenOf pd495 rfl) rfl (Nat.le_of_eq rfl) (hb hby at_313) (fun _ _ => ⟨rfl, e94, (by decide : 14 + 0 ≤ _), (by decide : 31 + 0 ≤ _)⟩)
            dsimp only [Pt.U, Pt.locs, Pt.cells, Pt.slots] at X113 l113 y113 z113 st113 hQ113
            subst l113 y113 z113
            obtain ⟨rfl, N113q, e113⟩ := hQ113
            have N113 := Fr.app N' N113q
            refine gb (mkF m 316 #[vi p0, vj q1, .second, vj q2, .second, vi (kT p0), vi (uT p0), vi (cT p0), vi (aT p0), vr b1, vr b18, vr r_42, vr r_47, vi (fj0_0 p0 q1 w1 w2 w3 G1 sf), vr w3, vi ((fj0_0 p0 q1 w1 w2 w3 G1 sf) + (1 : Int32)), vi (uT p0), .unset, vi ((uT p0) - ((fj0_0 p0 q1 w1 w2 w3 G1 sf) + (1 : Int32)))] [(.int (fn60 ((fj0_0 p0 q1 w1 w2 w3 G1 sf) + (1 : Int32)) (aT p0) ((uT p0) - ((fj0_0 p0 q1 w1 w2 w3 G1 sf) + (1 : Int32))) (nar .char (fn1 q1 w1 w2 w3 G1 sf)) (nar .char (fn1 (sR q1 (11 : Int32)) w1 w2 w3 G1 sf)) (nar .char (fn1 (sR q1 (22 : Int32)) w1 w2 w3 G1 sf)) (nar .char (fn1 q2 w1 w2 w3 G1 sf)) (nar .char (fn1 (sR q2 (11 : Int32)) w1 w2 w3 G1 sf)) (nar .char (fn1 (sR q2 (22 : Int32)) w1 w2 w3 G1 sf)) (nar .char (fn1 (sR q2 (33 : Int32)) w1 w2 w3 G1 sf)) w1 w2 w3 G1 sf))]) st113 ?_
            by_cases hf116 : (fn60 ((fj0_0 p0 q1 w1 w2 w3 G1 sf) + (1 : Int32)) (aT p0) ((uT p0) - ((fj0_0 p0 q1 w1 w2 w3 G1 sf) + (1 : Int32))) (nar .char (fn1 q1 w1 w2 w3 G1 sf)) (nar .char (fn1 (sR q1 (11 : Int32)) w1 w2 w3 G1 sf)) (nar .char (fn1 (sR q1 (22 : Int32)) w1 w2 w3 G1 sf)) (nar .char (fn1 q2 w1 w2 w3 G1 sf)) (nar .char (fn1 (sR q2 (11 : Int32)) w1 w2 w3 G1 sf)) (nar .char (fn1 (sR q2 (22 : Int32)) w1 w2 w3 G1 sf)) (nar .char (fn1 (sR q2 (33 : Int32)) w1 w2 w3 G1 sf)) w1 w2 w3 G1 sf) = (0 : Int32)
            · refine gb (mkF m 363 #[vi p0, vj q1, .second, vj q2, .second, vi (kT p0), vi (uT p0), vi (cT p0), vi (aT p0), vr b1, vr b18, vr r_42, vr r_47, vi (fj0_0 p0 q1 w1 w2 w3 G1 sf), vr w3, vi ((fj0_0 p0 q1 w1 w2 w3 G1 sf) + (1 : Int32)), vi (uT p0), .unset, vi ((uT p0) - ((fj0_0 p0 q1 w1 w2 w3 G1 sf) + (1 : Int32)))] []) (fun _ k => XS.ifYes X113.here hx rfl (pc0 := 316) (pc' := 363) rfl (hb hby at_316) rfl ((if0 _ _).trans (teq hf116).1) (by decide) (by decide) k) ?_
              refine gb (mkF m 364 #[vi p0, vj q1, .second, vj q2, .second, vi (kT p0), vi (uT p0), vi (cT p0), vi (aT p0), vr b1, vr b18, vr r_42, vr r_47, vi (fj0_0 p0 q1 w1 w2 w3 G1 sf), vr w3, vi ((fj0_0 p0 q1 w1 w2 w3 G1 sf) + (1 : Int32)), vi (uT p0), .unset, vi ((uT p0) - ((fj0_0 p0 q1 w1 w2 w3 G1 sf) + (1 : Int32)))] [(.int (-1 : Int32))]) (fun _ k => XS.iconst X113.here hx rfl (hb hby at_363) k) ?_
              refine gb (mkF m 366 #[vi p0, vj q1, .second, vj q2, .second, vi (kT p0), vi (uT p0), vi (cT p0), vi (aT p0), vr b1, vr b18, vr r_42, vr r_47, vi (fj0_0 p0 q1 w1 w2 w3 G1 sf), vr w3, vi ((fj0_0 p0 q1 w1 w2 w3 G1 sf) + (1 : Int32)), vi (uT p0), vi (-1 : Int32), vi ((uT p0) - ((fj0_0 p0 q1 w1 w2 w3 G1 sf) + (1 : Int32)))] []) (fun _ k => XS.istore X113.here hx rfl (hb hby at_364) rfl (l' := #[vi p0, vj q1, .second, vj q2, .second, vi (kT p0), vi (uT p0), vi (cT p0), vi (aT p0), vr b1, vr b18, vr r_42, vr r_47, vi (fj0_0 p0 q1 w1 w2 w3 G1 sf), vr w3, vi ((fj0_0 p0 q1 w1 w2 w3 G1 sf) + (1 : Int32)), vi (uT p0), vi (-1 : Int32), vi ((uT p0) - ((fj0_0 p0 q1 w1 w2 w3 G1 sf) + (1 : Int32)))]) rfl k) ?_
              exact J104 _ _ X113 e113 N113 (-1 : Int32) (show (-1 : Int32) = (fj0_8 p0 q1 q2 w1 w2 w3 G1 sf) by unfold fj0_8; rw [if_neg hf112, if_pos hf116]; try rfl)
            · refine gb (mkF m 319 #[vi p0, vj q1, .second, vj q2, .second, vi (kT p0), vi (uT p0), vi (cT p0), vi (aT p0), vr b1, vr b18, vr r_42, vr r_47, vi (fj0_0 p0 q1 w1 w2 w3 G1 sf), vr w3, vi ((fj0_0 p0 q1 w1 w2 w3 G1 sf) + (1 : Int32)), vi (uT p0), .unset, vi ((uT p0) - ((fj0_0 p0 q1 w1 w2 w3 G1 sf) + (1 : Int32)))] []) (fun _ k => XS.ifNo X113.here hx rfl (hb hby at_316) rfl ((if0 _ _).trans (feq hf116).1) k) ?_
              refine gb (mkF m 321 #[vi p0, vj q1, .second, vj q2, .second, vi (kT p0), vi (uT p0), vi (cT p0), vi (aT p0), vr b1, vr b18, vr r_42, vr r_47, vi (fj0_0 p0 q1 w1 w2 w3 G1 sf), vr w3, vi ((fj0_0 p0 q1 w1 w2 w3 G1 sf) + (1 : Int32)), vi (uT p0), .unset, vi ((uT p0) - ((fj0_0 p0 q1 w1 w2 w3 G1 sf) + (1 : Int32)))] [(.ref b1)]) (fun _ k => XS.aload X113.here hx rfl (hb hby at_319) rfl rfl k) ?_
              refine gb (mkF m 323 #[vi p0, vj q1, .second, vj q2, .second, vi (kT p0), vi (uT p0), vi (cT p0), vi (aT p0), vr b1, vr b18, vr r_42, vr r_47, vi (fj0_0 p0 q1 w1 w2 w3 G1 sf), vr w3, vi ((fj0_0 p0 q1 w1 w2 w3 G1 sf) + (1 : Int32)), vi (uT p0), .unset, vi ((uT p0) - ((fj0_0 p0 q1 w1 w2 w3 G1 sf) + (1 : Int32)))] [(.int ((fj0_0 p0 q1 w1 w2 w3 G1 sf) + (1 : Int32))), (.ref b1)]) (fun _ k => XS.iload X113.here hx rfl (hb hby at_321) rfl k) ?_
              refine gb (mkF m 325 #[vi p0, vj q1, .second, vj q2, .second, vi (kT p0), vi (uT p0), vi (cT p0), vi (aT p0), vr b1, vr b18, vr r_42, vr r_47, vi (fj0_0 p0 q1 w1 w2 w3 G1 sf), vr w3, vi ((fj0_0 p0 q1 w1 w2 w3 G1 sf) + (1 : Int32)), vi (uT p0), .unset, vi ((uT p0) - ((fj0_0 p0 q1 w1 w2 w3 G1 sf) + (1 : Int32)))] [(.ref b18), (.int ((fj0_0 p0 q1 w1 w2 w3 G1 sf) + (1 : Int32))), (.ref b1)]) (fun _ k => XS.aload X113.here hx rfl (hb hby at_323) rfl rfl k) ?_
              refine gb (mkF m 327 #[vi p0, vj q1, .second, vj q2, .second, vi (kT p0), vi (uT p0), vi (cT p0), vi (aT p0), vr b1, vr b18, vr r_42, vr r_47, vi (fj0_0 p0 q1 w1 w2 w3 G1 sf), vr w3, vi ((fj0_0 p0 q1 w1 w2 w3 G1 sf) + (1 : Int32)), vi (uT p0), .unset, vi ((uT p0) - ((fj0_0 p0 q1 w1 w2 w3 G1 sf) + (1 : Int32)))] [(.int (aT p0)), (.ref b18), (.int ((fj0_0 p0 q1 w1 w2 w3 G1 sf) + (1 : Int32))), (.ref b1)]) (fun _ k => XS.iload X113.here hx rfl (hb hby at_325) rfl k) ?_
              refine gb (mkF m 329 #[vi p0, vj q1, .second, vj q2, .second, vi (kT p0), vi (uT p0), vi (cT p0), vi (aT p0), vr b1, vr b18, vr r_42, vr r_47, vi (fj0_0 p0 q1 w1 w2 w3 G1 sf), vr w3, vi ((fj0_0 p0 q1 w1 w2 w3 G1 sf) + (1 : Int32)), vi (uT p0), .unset, vi ((uT p0) - ((fj0_0 p0 q1 w1 w2 w3 G1 sf) + (1 : Int32)))] [(.int ((uT p0) - ((fj0_0 p0 q1 w1 w2 w3 G1 sf) + (1 : Int32)))), (.int (aT p0)), (.ref b18), (.int ((fj0_0 p0 q1 w1 w2 w3 G1 sf) + (1 : Int32))), (.ref b1)]) (fun _ k => XS.iload X113.here hx rfl (hb hby at_327) rfl k) ?_
              refine gb (mkF m 330 #[vi p0, vj q1, .second, vj q2, .second, vi (kT p0), vi (uT p0), vi (cT p0), vi (aT p0), vr b1, vr b18, vr r_42, vr r_47, vi (fj0_0 p0 q1 w1 w2 w3 G1 sf), vr w3, vi ((fj0_0 p0 q1 w1 w2 w3 G1 sf) + (1 : Int32)), vi (uT p0), .unset, vi ((uT p0) - ((fj0_0 p0 q1 w1 w2 w3 G1 sf) + (1 : Int32)))] [(.int 1), (.int ((uT p0) - ((fj0_0 p0 q1 w1 w2 w3 G1 sf) + (1 : Int32)))), (.int (aT p0)), (.ref b18), (.int ((fj0_0 p0 q1 w1 w2 w3 G1 sf) + (1 : Int32))), (.ref b1)]) (fun _ k => XS.iconst X113.here hx rfl (hb hby at_329) k) ?_
              obtain ⟨_, _, ⟨T117, L117, k117, n117⟩, -, X117, ⟨Lc117, hQ117, l117, y117, z117⟩, st117⟩ := callS X113 hx (y := mq15) hown (mvT hZ (hW hw 34 rfl)) (mvT hZ (hW hw 35 rfl)) (mvT hZ (hW hw 3 rfl)) (mvT hZ (hW hw 36 rfl)) (by decide) (backOf (W := 0) (rm61 l Z a0' hw [] b1 ((fj0_0 p0 q1 w1 w2 w3 G1 sf) + (1 : Int32)) b18 (aT p0) ((uT p0) - ((fj0_0 p0 q1 w1 w2 w3 G1 sf) + (1 : Int32))) k1 k18 (nar .char (fn1 q1 w1 w2 w3 G1 sf)) (nar .char (fn1 (sR q1 (11 : Int32)) w1 w2 w3 G1 sf)) (nar .char (fn1 (sR q1 (22 : Int32)) w1 w2 w3 G1 sf)) (nar .char (fn1 q2 w1 w2 w3 G1 sf)) (nar .char (fn1 (sR q2 (11 : Int32)) w1 w2 w3 G1 sf)) (nar .char (fn1 (sR q2 (22 : Int32)) w1 w2 w3 G1 sf)) (nar .char (fn1 (sR q2 (33 : Int32)) w1 w2 w3 G1 sf)) w1 w2 w3 G1 sf T47.heap n0 O95 W f114 f115 (hmm (Rg.b (rg0 p0) (fun _ => dl) hf96) hf112 (by decide) (by decide))) hZ (hW hw 36 rfl) (hW hw 3 rfl) (by decide) (by decide)) (g := (mkF m 330 #[vi p0, vj q1, .second, vj q2, .second, vi (kT p0), vi (uT p0), vi (cT p0), vi (aT p0), vr b1, vr b18, vr r_42, vr r_47, vi (fj0_0 p0 q1 w1 w2 w3 G1 sf), vr w3, vi ((fj0_0 p0 q1 w1 w2 w3 G1 sf) + (1 : Int32)), vi (uT p0), .unset, vi ((uT p0) - ((fj0_0 p0 q1 w1 w2 w3 G1 sf) + (1 : Int32)))] [(.int 1), (.int ((uT p0) - ((fj0_0 p0 q1 w1 w2 w3 G1 sf) + (1 : Int32)))), (.int (aT p0)), (.ref b18), (.int ((fj0_0 p0 q1 w1 w2 w3 G1 sf) + (1 : Int32))), (.ref b1)])) rfl (by rw [hml]; rfl) (argsL := [(.ref b1), (.int ((fj0_0 p0 q1 w1 w2 w3 G1 sf) + (1 : Int32))), (.ref b18), (.int (aT p0)), (.int ((uT p0) - ((fj0_0 p0 q1 w1 w2 w3 G1 sf) + (1 : Int32)))), (.int 1)]) (rest := []) (lenOf pd495 rfl) rfl (Nat.le_of_eq rfl) (hb hby at_330) (fun _ _ => ⟨rfl, e113, (by decide : 14 + 0 ≤ _), (by decide : 31 + 0 ≤ _)⟩)
              dsimp only [Pt.U, Pt.locs, Pt.cells, Pt.slots] at X117 l117 y117 z117 st117 hQ117
              subst l117 y117 z117
              obtain ⟨rfl, N117q, e117⟩ := hQ117
              have N117 := Fr.app N113 N117q
              refine gb (mkF m 333 #[vi p0, vj q1, .second, vj q2, .second, vi (kT p0), vi (uT p0), vi (cT p0), vi (aT p0), vr b1, vr b18, vr r_42, vr r_47, vi (fj0_0 p0 q1 w1 w2 w3 G1 sf), vr w3, vi ((fj0_0 p0 q1 w1 w2 w3 G1 sf) + (1 : Int32)), vi (uT p0), .unset, vi ((uT p0) - ((fj0_0 p0 q1 w1 w2 w3 G1 sf) + (1 : Int32)))] [(.int (fn61 ((fj0_0 p0 q1 w1 w2 w3 G1 sf) + (1 : Int32)) (aT p0) ((uT p0) - ((fj0_0 p0 q1 w1 w2 w3 G1 sf) + (1 : Int32))) (nar .char (fn1 q1 w1 w2 w3 G1 sf)) (nar .char (fn1 (sR q1 (11 : Int32)) w1 w2 w3 G1 sf)) (nar .char (fn1 (sR q1 (22 : Int32)) w1 w2 w3 G1 sf)) (nar .char (fn1 q2 w1 w2 w3 G1 sf)) (nar .char (fn1 (sR q2 (11 : Int32)) w1 w2 w3 G1 sf)) (nar .char (fn1 (sR q2 (22 : Int32)) w1 w2 w3 G1 sf)) (nar .char (fn1 (sR q2 (33 : Int32)) w1 w2 w3 G1 sf)) w1 w2 w3 G1 sf))]) st117 ?_
              by_cases hf118 : (fn61 ((fj0_0 p0 q1 w1 w2 w3 G1 sf) + (1 : Int32)) (aT p0) ((uT p0) - ((fj0_0 p0 q1 w1 w2 w3 G1 sf) + (1 : Int32))) (nar .char (fn1 q1 w1 w2 w3 G1 sf)) (nar .char (fn1 (sR q1 (11 : Int32)) w1 w2 w3 G1 sf)) (nar .char (fn1 (sR q1 (22 : Int32)) w1 w2 w3 G1 sf)) (nar .char (fn1 q2 w1 w2 w3 G1 sf)) (nar .char (fn1 (sR q2 (11 : Int32)) w1 w2 w3 G1 sf)) (nar .char (fn1 (sR q2 (22 : Int32)) w1 w2 w3 G1 sf)) (nar .char (fn1 (sR q2 (33 : Int32)) w1 w2 w3 G1 sf)) w1 w2 w3 G1 sf) = (0 : Int32)
              · refine gb (mkF m 363 #[vi p0, vj q1, .second, vj q2, .second, vi (kT p0), vi (uT p0), vi (cT p0), vi (aT p0), vr b1, vr b18, vr r_42, vr r_47, vi (fj0_0 p0 q1 w1 w2 w3 G1 sf), vr w3, vi ((fj0_0 p0 q1 w1 w2 w3 G1 sf) + (1 : Int32)), vi (uT p0), .unset, vi ((uT p0) - ((fj0_0 p0 q1 w1 w2 w3 G1 sf) + (1 : Int32)))] []) (fun _ k => XS.ifYes X117.here hx rfl (pc0 := 333) (pc' := 363) rfl (hb hby at_333) rfl ((if0 _ _).trans (teq hf118).1) (by decide) (by decide) k) ?_
                refine gb (mkF m 364 #[vi p0, vj q1, .second, vj q2, .second, vi (kT p0), vi (uT p0), vi (cT p0), vi (aT p0), vr b1, vr b18, vr r_42, vr r_47, vi (fj0_0 p0 q1 w1 w2 w3 G1 sf), vr w3, vi ((fj0_0 p0 q1 w1 w2 w3 G1 sf) + (1 : Int32)), vi (uT p0), .unset, vi ((uT p0) - ((fj0_0 p0 q1 w1 w2 w3 G1 sf) + (1 : Int32)))] [(.int (-1 : Int32))]) (fun _ k => XS.iconst X117.here hx rfl (hb hby at_363) k) ?_
                refine gb (mkF m 366 #[vi p0, vj q1, .second, vj q2, .second, vi (kT p0), vi (uT p0), vi (cT p0), vi (aT p0), vr b1, vr b18, vr r_42, vr r_47, vi (fj0_0 p0 q1 w1 w2 w3 G1 sf), vr w3, vi ((fj0_0 p0 q1 w1 w2 w3 G1 sf) + (1 : Int32)), vi (uT p0), vi (-1 : Int32), vi ((uT p0) - ((fj0_0 p0 q1 w1 w2 w3 G1 sf) + (1 : Int32)))] []) (fun _ k => XS.istore X117.here hx rfl (hb hby at_364) rfl (l' := #[vi p0, vj q1, .second, vj q2, .second, vi (kT p0), vi (uT p0), vi (cT p0), vi (aT p0), vr b1, vr b18, vr r_42, vr r_47, vi (fj0_0 p0 q1 w1 w2 w3 G1 sf), vr w3, vi ((fj0_0 p0 q1 w1 w2 w3 G1 sf) + (1 : Int32)), vi (uT p0), vi (-1 : Int32), vi ((uT p0) - ((fj0_0 p0 q1 w1 w2 w3 G1 sf) + (1 : Int32)))]) rfl k) ?_
                exact J104 _ _ X117 e117 N117 (-1 : Int32) (show (-1 : Int32) = (fj0_8 p0 q1 q2 w1 w2 w3 G1 sf) by unfold fj0_8; rw [if_neg hf112, if_neg hf116, if_pos hf118]; try rfl)
              · refine gb (mkF m 336 #[vi p0, vj q1, .second, vj q2, .second, vi (kT p0), vi (uT p0), vi (cT p0), vi (aT p0), vr b1, vr b18, vr r_42, vr r_47, vi (fj0_0 p0 q1 w1 w2 w3 G1 sf), vr w3, vi ((fj0_0 p0 q1 w1 w2 w3 G1 sf) + (1 : Int32)), vi (uT p0), .unset, vi ((uT p0) - ((fj0_0 p0 q1 w1 w2 w3 G1 sf) + (1 : Int32)))] []) (fun _ k => XS.ifNo X117.here hx rfl (hb hby at_333) rfl ((if0 _ _).trans (feq hf118).1) k) ?_
                refine gb (mkF m 338 #[vi p0, vj q1, .second, vj q2, .second, vi (kT p0), vi (uT p0), vi (cT p0), vi (aT p0), vr b1, vr b18, vr r_42, vr r_47, vi (fj0_0 p0 q1 w1 w2 w3 G1 sf), vr w3, vi ((fj0_0 p0 q1 w1 w2 w3 G1 sf) + (1 : Int32)), vi (uT p0), .unset, vi ((uT p0) - ((fj0_0 p0 q1 w1 w2 w3 G1 sf) + (1 : Int32)))] [(.ref b1)]) (fun _ k => XS.aload X117.here hx rfl (hb hby at_336) rfl rfl k) ?_
                refine gb (mkF m 340 #[vi p0, vj q1, .second, vj q2, .second, vi (kT p0), vi (uT p0), vi (cT p0), vi (aT p0), vr b1, vr b18, vr r_42, vr r_47, vi (fj0_0 p0 q1 w1 w2 w3 G1 sf), vr w3, vi ((fj0_0 p0 q1 w1 w2 w3 G1 sf) + (1 : Int32)), vi (uT p0), .unset, vi ((uT p0) - ((fj0_0 p0 q1 w1 w2 w3 G1 sf) + (1 : Int32)))] [(.int ((fj0_0 p0 q1 w1 w2 w3 G1 sf) + (1 : Int32))), (.ref b1)]) (fun _ k => XS.iload X117.here hx rfl (hb hby at_338) rfl k) ?_
                refine gb (mkF m 342 #[vi p0, vj q1, .second, vj q2, .second, vi (kT p0), vi (uT p0), vi (cT p0), vi (aT p0), vr b1, vr b18, vr r_42, vr r_47, vi (fj0_0 p0 q1 w1 w2 w3 G1 sf), vr w3, vi ((fj0_0 p0 q1 w1 w2 w3 G1 sf) + (1 : Int32)), vi (uT p0), .unset, vi ((uT p0) - ((fj0_0 p0 q1 w1 w2 w3 G1 sf) + (1 : Int32)))] [(.ref b18), (.int ((fj0_0 p0 q1 w1 w2 w3 G1 sf) + (1 : Int32))), (.ref b1)]) (fun _ k => XS.aload X117.here hx rfl (hb hby at_340) rfl rfl k) ?_
                refine gb (mkF m 344 #[vi p0, vj q1, .second, vj q2, .second, vi (kT p0), vi (uT p0), vi (cT p0), vi (aT p0), vr b1, vr b18, vr r_42, vr r_47, vi (fj0_0 p0 q1 w1 w2 w3 G1 sf), vr w3, vi ((fj0_0 p0 q1 w1 w2 w3 G1 sf) + (1 : Int32)), vi (uT p0), .unset, vi ((uT p0) - ((fj0_0 p0 q1 w1 w2 w3 G1 sf) + (1 : Int32)))] [(.int (aT p0)), (.ref b18), (.int ((fj0_0 p0 q1 w1 w2 w3 G1 sf) + (1 : Int32))), (.ref b1)]) (fun _ k => XS.iload X117.here hx rfl (hb hby at_342) rfl k) ?_
                refine gb (mkF m 346 #[vi p0, vj q1, .second, vj q2, .second, vi (kT p0), vi (uT p0), vi (cT p0), vi (aT p0), vr b1, vr b18, vr r_42, vr r_47, vi (fj0_0 p0 q1 w1 w2 w3 G1 sf), vr w3, vi ((fj0_0 p0 q1 w1 w2 w3 G1 sf) + (1 : Int32)), vi (uT p0), .unset, vi ((uT p0) - ((fj0_0 p0 q1 w1 w2 w3 G1 sf) + (1 : Int32)))] [(.int ((uT p0) - ((fj0_0 p0 q1 w1 w2 w3 G1 sf) + (1 : Int32)))), (.int (aT p0)), (.ref b18), (.int ((fj0_0 p0 q1 w1 w2 w3 G1 sf) + (1 : Int32))), (.ref b1)]) (fun _ k => XS.iload X117.here hx rfl (hb hby at_344) rfl k) ?_
                refine gb (mkF m 347 #[vi p0, vj q1, .second, vj q2, .second, vi (kT p0), vi (uT p0), vi (cT p0), vi (aT p0), vr b1, vr b18, vr r_42, vr r_47, vi (fj0_0 p0 q1 w1 w2 w3 G1 sf), vr w3, vi ((fj0_0 p0 q1 w1 w2 w3 G1 sf) + (1 : Int32)), vi (uT p0), .unset, vi ((uT p0) - ((fj0_0 p0 q1 w1 w2 w3 G1 sf) + (1 : Int32)))] [(.int 2), (.int ((uT p0) - ((fj0_0 p0 q1 w1 w2 w3 G1 sf) + (1 : Int32)))), (.int (aT p0)), (.ref b18), (.int ((fj0_0 p0 q1 w1 w2 w3 G1 sf) + (1 : Int32))), (.ref b1)]) (fun _ k => XS.iconst X117.here hx rfl (hb hby at_346) k) ?_
                obtain ⟨_, _, ⟨T119, L119, k119, n119⟩, -, X119, ⟨Lc119, hQ119, l119, y119, z119⟩, st119⟩ := callS X117 hx (y := mq15) hown (mvT hZ (hW hw 34 rfl)) (mvT hZ (hW hw 35 rfl)) (mvT hZ (hW hw 3 rfl)) (mvT hZ (hW hw 36 rfl)) (by decide) (backOf (W := 0) (rm62 l Z a0' hw [] b1 ((fj0_0 p0 q1 w1 w2 w3 G1 sf) + (1 : Int32)) b18 (aT p0) ((uT p0) - ((fj0_0 p0 q1 w1 w2 w3 G1 sf) + (1 : Int32))) k1 k18 (nar .char (fn1 q1 w1 w2 w3 G1 sf)) (nar .char (fn1 (sR q1 (11 : Int32)) w1 w2 w3 G1 sf)) (nar .char (fn1 (sR q1 (22 : Int32)) w1 w2 w3 G1 sf)) (nar .char (fn1 q2 w1 w2 w3 G1 sf)) (nar .char (fn1 (sR q2 (11 : Int32)) w1 w2 w3 G1 sf)) (nar .char (fn1 (sR q2 (22 : Int32)) w1 w2 w3 G1 sf)) (nar .char (fn1 (sR q2 (33 : Int32)) w1 w2 w3 G1 sf)) w1 w2 w3 G1 sf T47.heap n0 O95 W f114 f115 (hmm (Rg.b (rg0 p0) (fun _ => dl) hf96) hf112 (by decide) (by decide))) hZ (hW hw 36 rfl) (hW hw 3 rfl) (by decide) (by decide)) (g := (mkF m 347 #[vi p0, vj q1, .second, vj q2, .second, vi (kT p0), vi (uT p0), vi (cT p0), vi (aT p0), vr b1, vr b18, vr r_42, vr r_47, vi (fj0_0 p0 q1 w1 w2 w3 G1 sf), vr w3, vi ((fj0_0 p0 q1 w1 w2 w3 G1 sf) + (1 : Int32)), vi (uT p0), .unset, vi ((uT p0) - ((fj0_0 p0 q1 w1 w2 w3 G1 sf) + (1 : Int32)))] [(.int 2), (.int ((uT p0) - ((fj0_0 p0 q1 w1 w2 w3 G1 sf) + (1 : Int32)))), (.int (aT p0)), (.ref b18), (.int ((fj0_0 p0 q1 w1 w2 w3 G1 sf) + (1 : Int32))), (.ref b1)])) rfl (by rw [hml]; rfl) (argsL := [(.ref b1), (.int ((fj0_0 p0 q1 w1 w2 w3 G1 sf) + (1 : Int32))), (.ref b18), (.int (aT p0)), (.int ((uT p0) - ((fj0_0 p0 q1 w1 w2 w3 G1 sf) + (1 : Int32)))), (.int 2)]) (rest := []) (lenOf pd495 rfl) rfl (Nat.le_of_eq rfl) (hb hby at_347) (fun _ _ => ⟨rfl, e117, (by decide : 14 + 0 ≤ _), (by decide : 31 + 0 ≤ _)⟩)
                dsimp only [Pt.U, Pt.locs, Pt.cells, Pt.slots] at X119 l119 y119 z119 st119 hQ119
                subst l119 y119 z119
                obtain ⟨rfl, N119q, e119⟩ := hQ119
                have N119 := Fr.app N117 N119q
                refine gb (mkF m 350 #[vi p0, vj q1, .second, vj q2, .second, vi (kT p0), vi (uT p0), vi (cT p0), vi (aT p0), vr b1, vr b18, vr r_42, vr r_47, vi (fj0_0 p0 q1 w1 w2 w3 G1 sf), vr w3, vi ((fj0_0 p0 q1 w1 w2 w3 G1 sf) + (1 : Int32)), vi (uT p0), .unset, vi ((uT p0) - ((fj0_0 p0 q1 w1 w2 w3 G1 sf) + (1 : Int32)))] [(.int (fn62 ((fj0_0 p0 q1 w1 w2 w3 G1 sf) + (1 : Int32)) (aT p0) ((uT p0) - ((fj0_0 p0 q1 w1 w2 w3 G1 sf) + (1 : Int32))) (nar .char (fn1 q1 w1 w2 w3 G1 sf)) (nar .char (fn1 (sR q1 (11 : Int32)) w1 w2 w3 G1 sf)) (nar .char (fn1 (sR q1 (22 : Int32)) w1 w2 w3 G1 sf)) (nar .char (fn1 q2 w1 w2 w3 G1 sf)) (nar .char (fn1 (sR q2 (11 : Int32)) w1 w2 w3 G1 sf)) (nar .char (fn1 (sR q2 (22 : Int32)) w1 w2 w3 G1 sf)) (nar .char (fn1 (sR q2 (33 : Int32)) w1 w2 w3 G1 sf)) w1 w2 w3 G1 sf))]) st119 ?_
                by_cases hf120 : (fn62 ((fj0_0 p0 q1 w1 w2 w3 G1 sf) + (1 : Int32)) (aT p0) ((uT p0) - ((fj0_0 p0 q1 w1 w2 w3 G1 sf) + (1 : Int32))) (nar .char (fn1 q1 w1 w2 w3 G1 sf)) (nar .char (fn1 (sR q1 (11 : Int32)) w1 w2 w3 G1 sf)) (nar .char (fn1 (sR q1 (22 : Int32)) w1 w2 w3 G1 sf)) (nar .char (fn1 q2 w1 w2 w3 G1 sf)) (nar .char (fn1 (sR q2 (11 : Int32)) w1 w2 w3 G1 sf)) (nar .char (fn1 (sR q2 (22 : Int32)) w1 w2 w3 G1 sf)) (nar .char (fn1 (sR q2 (33 : Int32)) w1 w2 w3 G1 sf)) w1 w2 w3 G1 sf) = (0 : Int32)
                · refine gb (mkF m 363 #[vi p0, vj q1, .second, vj q2, .second, vi (kT p0), vi (uT p0), vi (cT p0), vi (aT p0), vr b1, vr b18, vr r_42, vr r_47, vi (fj0_0 p0 q1 w1 w2 w3 G1 sf), vr w3, vi ((fj0_0 p0 q1 w1 w2 w3 G1 sf) + (1 : Int32)), vi (uT p0), .unset, vi ((uT p0) - ((fj0_0 p0 q1 w1 w2 w3 G1 sf) + (1 : Int32)))] []) (fun _ k => XS.ifYes X119.here hx rfl (pc0 := 350) (pc' := 363) rfl (hb hby at_350) rfl ((if0 _ _).trans (teq hf120).1) (by decide) (by decide) k) ?_
                  refine gb (mkF m 364 #[vi p0, vj q1, .second, vj q2, .second, vi (kT p0), vi (uT p0), vi (cT p0), vi (aT p0), vr b1, vr b18, vr r_42, vr r_47, vi (fj0_0 p0 q1 w1 w2 w3 G1 sf), vr w3, vi ((fj0_0 p0 q1 w1 w2 w3 G1 sf) + (1 : Int32)), vi (uT p0), .unset, vi ((uT p0) - ((fj0_0 p0 q1 w1 w2 w3 G1 sf) + (1 : Int32)))] [(.int (-1 : Int32))]) (fun _ k => XS.iconst X119.here hx rfl (hb hby at_363) k) ?_
                  refine gb (mkF m 366 #[vi p0, vj q1, .second, vj q2, .second, vi (kT p0), vi (uT p0), vi (cT p0), vi (aT p0), vr b1, vr b18, vr r_42, vr r_47, vi (fj0_0 p0 q1 w1 w2 w3 G1 sf), vr w3, vi ((fj0_0 p0 q1 w1 w2 w3 G1 sf) + (1 : Int32)), vi (uT p0), vi (-1 : Int32), vi ((uT p0) - ((fj0_0 p0 q1 w1 w2 w3 G1 sf) + (1 : Int32)))] []) (fun _ k => XS.istore X119.here hx rfl (hb hby at_364) rfl (l' := #[vi p0, vj q1, .second, vj q2, .second, vi (kT p0), vi (uT p0), vi (cT p0), vi (aT p0), vr b1, vr b18, vr r_42, vr r_47, vi (fj0_0 p0 q1 w1 w2 w3 G1 sf), vr w3, vi ((fj0_0 p0 q1 w1 w2 w3 G1 sf) + (1 : Int32)), vi (uT p0), vi (-1 : Int32), vi ((uT p0) - ((fj0_0 p0 q1 w1 w2 w3 G1 sf) + (1 : Int32)))]) rfl k) ?_
                  exact J104 _ _ X119 e119 N119 (-1 : Int32) (show (-1 : Int32) = (fj0_8 p0 q1 q2 w1 w2 w3 G1 sf) by unfold fj0_8; rw [if_neg hf112, if_neg hf116, if_neg hf118, if_pos hf120]; try rfl)
                · refine gb (mkF m 353 #[vi p0, vj q1, .second, vj q2, .second, vi (kT p0), vi (uT p0), vi (cT p0), vi (aT p0), vr b1, vr b18, vr r_42, vr r_47, vi (fj0_0 p0 q1 w1 w2 w3 G1 sf), vr w3, vi ((fj0_0 p0 q1 w1 w2 w3 G1 sf) + (1 : Int32)), vi (uT p0), .unset, vi ((uT p0) - ((fj0_0 p0 q1 w1 w2 w3 G1 sf) + (1 : Int32)))] []) (fun _ k => XS.ifNo X119.here hx rfl (hb hby at_350) rfl ((if0 _ _).trans (feq hf120).1) k) ?_
                  refine gb (mkF m 355 #[vi p0, vj q1, .second, vj q2, .second, vi (kT p0), vi (uT p0), vi (cT p0), vi (aT p0), vr b1, vr b18, vr r_42, vr r_47, vi (fj0_0 p0 q1 w1 w2 w3 G1 sf), vr w3, vi ((fj0_0 p0 q1 w1 w2 w3 G1 sf) + (1 : Int32)), vi (uT p0), .unset, vi ((uT p0) - ((fj0_0 p0 q1 w1 w2 w3 G1 sf) + (1 : Int32)))] [(.int (aT p0))]) (fun _ k => XS.iload X119.here hx rfl (hb hby at_353) rfl k) ?_
                  refine gb (mkF m 357 #[vi p0, vj q1, .second, vj q2, .second, vi (kT p0), vi (uT p0), vi (cT p0), vi (aT p0), vr b1, vr b18, vr r_42, vr r_47, vi (fj0_0 p0 q1 w1 w2 w3 G1 sf), vr w3, vi ((fj0_0 p0 q1 w1 w2 w3 G1 sf) + (1 : Int32)), vi (uT p0), .unset, vi ((uT p0) - ((fj0_0 p0 q1 w1 w2 w3 G1 sf) + (1 : Int32)))] [(.int ((uT p0) - ((fj0_0 p0 q1 w1 w2 w3 G1 sf) + (1 : Int32)))), (.int (aT p0))]) (fun _ k => XS.iload X119.here hx rfl (hb hby at_355) rfl k) ?_
                  refine gb (mkF m 358 #[vi p0, vj q1, .second, vj q2, .second, vi (kT p0), vi (uT p0), vi (cT p0), vi (aT p0), vr b1, vr b18, vr r_42, vr r_47, vi (fj0_0 p0 q1 w1 w2 w3 G1 sf), vr w3, vi ((fj0_0 p0 q1 w1 w2 w3 G1 sf) + (1 : Int32)), vi (uT p0), .unset, vi ((uT p0) - ((fj0_0 p0 q1 w1 w2 w3 G1 sf) + (1 : Int32)))] [(.int ((aT p0) + ((uT p0) - ((fj0_0 p0 q1 w1 w2 w3 G1 sf) + (1 : Int32)))))]) (fun _ k => XS.iadd X119.here hx rfl (hb hby at_357) rfl k) ?_
                  refine gb (mkF m 360 #[vi p0, vj q1, .second, vj q2, .second, vi (kT p0), vi (uT p0), vi (cT p0), vi (aT p0), vr b1, vr b18, vr r_42, vr r_47, vi (fj0_0 p0 q1 w1 w2 w3 G1 sf), vr w3, vi ((fj0_0 p0 q1 w1 w2 w3 G1 sf) + (1 : Int32)), vi (uT p0), vi ((aT p0) + ((uT p0) - ((fj0_0 p0 q1 w1 w2 w3 G1 sf) + (1 : Int32)))), vi ((uT p0) - ((fj0_0 p0 q1 w1 w2 w3 G1 sf) + (1 : Int32)))] []) (fun _ k => XS.istore X119.here hx rfl (hb hby at_358) rfl (l' := #[vi p0, vj q1, .second, vj q2, .second, vi (kT p0), vi (uT p0), vi (cT p0), vi (aT p0), vr b1, vr b18, vr r_42, vr r_47, vi (fj0_0 p0 q1 w1 w2 w3 G1 sf), vr w3, vi ((fj0_0 p0 q1 w1 w2 w3 G1 sf) + (1 : Int32)), vi (uT p0), vi ((aT p0) + ((uT p0) - ((fj0_0 p0 q1 w1 w2 w3 G1 sf) + (1 : Int32)))), vi ((uT p0) - ((fj0_0 p0 q1 w1 w2 w3 G1 sf) + (1 : Int32)))]) rfl k) ?_
                  refine gb (mkF m 366 #[vi p0, vj q1, .second, vj q2, .second, vi (kT p0), vi (uT p0), vi (cT p0), vi (aT p0), vr b1, vr b18, vr r_42, vr r_47, vi (fj0_0 p0 q1 w1 w2 w3 G1 sf), vr w3, vi ((fj0_0 p0 q1 w1 w2 w3 G1 sf) + (1 : Int32)), vi (uT p0), vi ((aT p0) + ((uT p0) - ((fj0_0 p0 q1 w1 w2 w3 G1 sf) + (1 : Int32)))), vi ((uT p0) - ((fj0_0 p0 q1 w1 w2 w3 G1 sf) + (1 : Int32)))] []) (fun _ k => XS.goto X119.here hx rfl (pc0 := 360) (pc' := 366) rfl (hb hby at_360) (by decide) (by decide) k) ?_
                  exact J104 _ _ X119 e119 N119 ((aT p0) + ((uT p0) - ((fj0_0 p0 q1 w1 w2 w3 G1 sf) + (1 : Int32)))) (show ((aT p0) + ((uT p0) - ((fj0_0 p0 q1 w1 w2 w3 G1 sf) + (1 : Int32)))) = (fj0_8 p0 q1 q2 w1 w2 w3 G1 sf) by unfold fj0_8; rw [if_neg hf112, if_neg hf116, if_neg hf118, if_neg hf120]; try rfl)
  by_cases hf121 : (0 : Int32) < (uT p0)
  · refine gb (mkF m 142 #[vi p0, vj q1, .second, vj q2, .second, vi (kT p0), vi (uT p0), vi (cT p0), vi (aT p0), vr b1, vr b18, vr r_42, vr r_47, vi (-1 : Int32), .unset, .unset, .unset, .unset, .unset] []) (fun _ k => XS.ifNo X47.here hx rfl (hb hby at_139) rfl ((if0 _ _).trans (tlt hf121).2.2.2) k) ?_
    refine gb (mkF m 144 #[vi p0, vj q1, .second, vj q2, .second, vi (kT p0), vi (uT p0), vi (cT p0), vi (aT p0), vr b1, vr b18, vr r_42, vr r_47, vi (-1 : Int32), .unset, .unset, .unset, .unset, .unset] [(.ref b1)]) (fun _ k => XS.aload X47.here hx rfl (hb hby at_142) rfl rfl k) ?_
    refine gb (mkF m 145 #[vi p0, vj q1, .second, vj q2, .second, vi (kT p0), vi (uT p0), vi (cT p0), vi (aT p0), vr b1, vr b18, vr r_42, vr r_47, vi (-1 : Int32), .unset, .unset, .unset, .unset, .unset] [(.int 0), (.ref b1)]) (fun _ k => XS.iconst X47.here hx rfl (hb hby at_144) k) ?_
    have f122 := (Arv.keep (Arv.keep f43 Kc42 nin0) Kc47 nin0)
    obtain ⟨cl123, Ar123, qa123, Sa123, Na123, Ha123, Ga123⟩ := id f122
    have hin124 : ¬ ((0 : Int32) < 0 ∨ cl123.slots.size ≤ ((0 : Int32)).toNatClampNeg) := inb_of Sa123 ⟨by decide, by decide⟩
    refine gb (mkF m 146 #[vi p0, vj q1, .second, vj q2, .second, vi (kT p0), vi (uT p0), vi (cT p0), vi (aT p0), vr b1, vr b18, vr r_42, vr r_47, vi (-1 : Int32), .unset, .unset, .unset, .unset, .unset] [(.int (nar .char (fn1 q1 w1 w2 w3 G1 sf)))]) (X47.caload hx (j := (0 : Int32)) (v := (.int (nar .char (fn1 q1 w1 w2 w3 G1 sf)))) Ar123.1 (State.isArrayOf_alike hZ.alike Ar123.2.1) Ar123.2.2 hin124 (Has.at Ha123 hin124 rfl) (g := (mkF m 145 #[vi p0, vj q1, .second, vj q2, .second, vi (kT p0), vi (uT p0), vi (cT p0), vi (aT p0), vr b1, vr b18, vr r_42, vr r_47, vi (-1 : Int32), .unset, .unset, .unset, .unset, .unset] [(.int 0), (.ref b1)])) rfl rfl (hb hby at_145)) ?_
    refine gb (mkF m 148 #[vi p0, vj q1, .second, vj q2, .second, vi (kT p0), vi (uT p0), vi (cT p0), vi (aT p0), vr b1, vr b18, vr r_42, vr r_47, vi (-1 : Int32), .unset, .unset, .unset, .unset, .unset] [(.int 64), (.int (nar .char (fn1 q1 w1 w2 w3 G1 sf)))]) (fun _ k => XS.bipush X47.here hx rfl (hb hby at_146) k) ?_
    by_cases hf125 : (nar .char (fn1 q1 w1 w2 w3 G1 sf)) = (64 : Int32)
    · refine gb (mkF m 151 #[vi p0, vj q1, .second, vj q2, .second, vi (kT p0), vi (uT p0), vi (cT p0), vi (aT p0), vr b1, vr b18, vr r_42, vr r_47, vi (-1 : Int32), .unset, .unset, .unset, .unset, .unset] []) (fun _ k => XS.icmpNo X47.here hx rfl (hb hby at_148) rfl (teq hf125).2 k) ?_
      refine gb (mkF m 152 #[vi p0, vj q1, .second, vj q2, .second, vi (kT p0), vi (uT p0), vi (cT p0), vi (aT p0), vr b1, vr b18, vr r_42, vr r_47, vi (-1 : Int32), .unset, .unset, .unset, .unset, .unset] [(.int 0)]) (fun _ k => XS.iconst X47.here hx rfl (hb hby at_151) k) ?_
      refine gb (mkF m 154 #[vi p0, vj q1, .second, vj q2, .second, vi (kT p0), vi (uT p0), vi (cT p0), vi (aT p0), vr b1, vr b18, vr r_42, vr r_47, vi 0, .unset, .unset, .unset, .unset, .unset] []) (fun _ k => XS.istore X47.here hx rfl (hb hby at_152) rfl (l' := #[vi p0, vj q1, .second, vj q2, .second, vi (kT p0), vi (uT p0), vi (cT p0), vi (aT p0), vr b1, vr b18, vr r_42, vr r_47, vi 0, .unset, .unset, .unset, .unset, .unset]) rfl k) ?_
      refine gb (mkF m 196 #[vi p0, vj q1, .second, vj q2, .second, vi (kT p0), vi (uT p0), vi (cT p0), vi (aT p0), vr b1, vr b18, vr r_42, vr r_47, vi 0, .unset, .unset, .unset, .unset, .unset] []) (fun _ k => XS.goto X47.here hx rfl (pc0 := 154) (pc' := 196) rfl (hb hby at_154) (by decide) (by decide) k) ?_
      exact J51 _ _ X47 rfl N47 (0 : Int32) (show (0 : Int32) = (fj0_0 p0 q1 w1 w2 w3 G1 sf) by unfold fj0_0; rw [if_pos hf121, if_pos hf125]; try rfl)
    · refine gb (mkF m 157 #[vi p0, vj q1, .second, vj q2, .second, vi (kT p0), vi (uT p0), vi (cT p0), vi (aT p0), vr b1, vr b18, vr r_42, vr r_47, vi (-1 : Int32), .unset, .unset, .unset, .unset, .unset] []) (fun _ k => XS.icmpYes X47.here hx rfl (pc0 := 148) (pc' := 157) rfl (hb hby at_148) rfl (feq hf125).2 (by decide) (by decide) k) ?_
      refine gb (mkF m 159 #[vi p0, vj q1, .second, vj q2, .second, vi (kT p0), vi (uT p0), vi (cT p0), vi (aT p0), vr b1, vr b18, vr r_42, vr r_47, vi (-1 : Int32), .unset, .unset, .unset, .unset, .unset] [(.int (uT p0))]) (fun _ k => XS.iload X47.here hx rfl (hb hby at_157) rfl k) ?_
      refine gb (mkF m 160 #[vi p0, vj q1, .second, vj q2, .second, vi (kT p0), vi (uT p0), vi (cT p0), vi (aT p0), vr b1, vr b18, vr r_42, vr r_47, vi (-1 : Int32), .unset, .unset, .unset, .unset, .unset] [(.int 1), (.int (uT p0))]) (fun _ k => XS.iconst X47.here hx rfl (hb hby at_159) k) ?_
      by_cases hf126 : (1 : Int32) < (uT p0)
      · refine gb (mkF m 163 #[vi p0, vj q1, .second, vj q2, .second, vi (kT p0), vi (uT p0), vi (cT p0), vi (aT p0), vr b1, vr b18, vr r_42, vr r_47, vi (-1 : Int32), .unset, .unset, .unset, .unset, .unset] []) (fun _ k => XS.icmpNo X47.here hx rfl (hb hby at_160) rfl (tlt hf126).2.2.2 k) ?_
        refine gb (mkF m 165 #[vi p0, vj q1, .second, vj q2, .second, vi (kT p0), vi (uT p0), vi (cT p0), vi (aT p0), vr b1, vr b18, vr r_42, vr r_47, vi (-1 : Int32), .unset, .unset, .unset, .unset, .unset] [(.ref b1)]) (fun _ k => XS.aload X47.here hx rfl (hb hby at_163) rfl rfl k) ?_
        refine gb (mkF m 166 #[vi p0, vj q1, .second, vj q2, .second, vi (kT p0), vi (uT p0), vi (cT p0), vi (aT p0), vr b1, vr b18, vr r_42, vr r_47, vi (-1 : Int32), .unset, .unset, .unset, .unset, .unset] [(.int 1), (.ref b1)]) (fun _ k => XS.iconst X47.here hx rfl (hb hby at_165) k) ?_
        obtain ⟨cl127, Ar127, qa127, Sa127, Na127, Ha127, Ga127⟩ := id f122
        have hin128 : ¬ ((1 : Int32) < 0 ∨ cl127.slots.size ≤ ((1 : Int32)).toNatClampNeg) := inb_of Sa127 ⟨by decide, by decide⟩
        refine gb (mkF m 167 #[vi p0, vj q1, .second, vj q2, .second, vi (kT p0), vi (uT p0), vi (cT p0), vi (aT p0), vr b1, vr b18, vr r_42, vr r_47, vi (-1 : Int32), .unset, .unset, .unset, .unset, .unset] [(.int (nar .char (fn1 (sR q1 (11 : Int32)) w1 w2 w3 G1 sf)))]) (X47.caload hx (j := (1 : Int32)) (v := (.int (nar .char (fn1 (sR q1 (11 : Int32)) w1 w2 w3 G1 sf)))) Ar127.1 (State.isArrayOf_alike hZ.alike Ar127.2.1) Ar127.2.2 hin128 (Has.at Ha127 hin128 rfl) (g := (mkF m 166 #[vi p0, vj q1, .second, vj q2, .second, vi (kT p0), vi (uT p0), vi (cT p0), vi (aT p0), vr b1, vr b18, vr r_42, vr r_47, vi (-1 : Int32), .unset, .unset, .unset, .unset, .unset] [(.int 1), (.ref b1)])) rfl rfl (hb hby at_166)) ?_
        refine gb (mkF m 169 #[vi p0, vj q1, .second, vj q2, .second, vi (kT p0), vi (uT p0), vi (cT p0), vi (aT p0), vr b1, vr b18, vr r_42, vr r_47, vi (-1 : Int32), .unset, .unset, .unset, .unset, .unset] [(.int 64), (.int (nar .char (fn1 (sR q1 (11 : Int32)) w1 w2 w3 G1 sf)))]) (fun _ k => XS.bipush X47.here hx rfl (hb hby at_167) k) ?_
        by_cases hf129 : (nar .char (fn1 (sR q1 (11 : Int32)) w1 w2 w3 G1 sf)) = (64 : Int32)
        · refine gb (mkF m 172 #[vi p0, vj q1, .second, vj q2, .second, vi (kT p0), vi (uT p0), vi (cT p0), vi (aT p0), vr b1, vr b18, vr r_42, vr r_47, vi (-1 : Int32), .unset, .unset, .unset, .unset, .unset] []) (fun _ k => XS.icmpNo X47.here hx rfl (hb hby at_169) rfl (teq hf129).2 k) ?_
          refine gb (mkF m 173 #[vi p0, vj q1, .second, vj q2, .second, vi (kT p0), vi (uT p0), vi (cT p0), vi (aT p0), vr b1, vr b18, vr r_42, vr r_47, vi (-1 : Int32), .unset, .unset, .unset, .unset, .unset] [(.int 1)]) (fun _ k => XS.iconst X47.here hx rfl (hb hby at_172) k) ?_
          refine gb (mkF m 175 #[vi p0, vj q1, .second, vj q2, .second, vi (kT p0), vi (uT p0), vi (cT p0), vi (aT p0), vr b1, vr b18, vr r_42, vr r_47, vi 1, .unset, .unset, .unset, .unset, .unset] []) (fun _ k => XS.istore X47.here hx rfl (hb hby at_173) rfl (l' := #[vi p0, vj q1, .second, vj q2, .second, vi (kT p0), vi (uT p0), vi (cT p0), vi (aT p0), vr b1, vr b18, vr r_42, vr r_47, vi 1, .unset, .unset, .unset, .unset, .unset]) rfl k) ?_
          refine gb (mkF m 196 #[vi p0, vj q1, .second, vj q2, .second, vi (kT p0), vi (uT p0), vi (cT p0), vi (aT p0), vr b1, vr b18, vr r_42, vr r_47, vi 1, .unset, .unset, .unset, .unset, .unset] []) (fun _ k => XS.goto X47.here hx rfl (pc0 := 175) (pc' := 196) rfl (hb hby at_175) (by decide) (by decide) k) ?_
          exact J51 _ _ X47 rfl N47 (1 : Int32) (show (1 : Int32) = (fj0_0 p0 q1 w1 w2 w3 G1 sf) by unfold fj0_0; rw [if_pos hf121, if_neg hf125, if_pos hf126, if_pos hf129]; try rfl)
        · refine gb (mkF m 178 #[vi p0, vj q1, .second, vj q2, .second, vi (kT p0), vi (uT p0), vi (cT p0), vi (aT p0), vr b1, vr b18, vr r_42, vr r_47, vi (-1 : Int32), .unset, .unset, .unset, .unset, .unset] []) (fun _ k => XS.icmpYes X47.here hx rfl (pc0 := 169) (pc' := 178) rfl (hb hby at_169) rfl (feq hf129).2 (by decide) (by decide) k) ?_
          refine gb (mkF m 180 #[vi p0, vj q1, .second, vj q2, .second, vi (kT p0), vi (uT p0), vi (cT p0), vi (aT p0), vr b1, vr b18, vr r_42, vr r_47, vi (-1 : Int32), .unset, .unset, .unset, .unset, .unset] [(.int (uT p0))]) (fun _ k => XS.iload X47.here hx rfl (hb hby at_178) rfl k) ?_
          refine gb (mkF m 181 #[vi p0, vj q1, .second, vj q2, .second, vi (kT p0), vi (uT p0), vi (cT p0), vi (aT p0), vr b1, vr b18, vr r_42, vr r_47, vi (-1 : Int32), .unset, .unset, .unset, .unset, .unset] [(.int 2), (.int (uT p0))]) (fun _ k => XS.iconst X47.here hx rfl (hb hby at_180) k) ?_
          by_cases hf130 : (2 : Int32) < (uT p0)
          · refine gb (mkF m 184 #[vi p0, vj q1, .second, vj q2, .second, vi (kT p0), vi (uT p0), vi (cT p0), vi (aT p0), vr b1, vr b18, vr r_42, vr r_47, vi (-1 : Int32), .unset, .unset, .unset, .unset, .unset] []) (fun _ k => XS.icmpNo X47.here hx rfl (hb hby at_181) rfl (tlt hf130).2.2.2 k) ?_
            refine gb (mkF m 186 #[vi p0, vj q1, .second, vj q2, .second, vi (kT p0), vi (uT p0), vi (cT p0), vi (aT p0), vr b1, vr b18, vr r_42, vr r_47, vi (-1 : Int32), .unset, .unset, .unset, .unset, .unset] [(.ref b1)]) (fun _ k => XS.aload X47.here hx rfl (hb hby at_184) rfl rfl k) ?_
            refine gb (mkF m 187 #[vi p0, vj q1, .second, vj q2, .second, vi (kT p0), vi (uT p0), vi (cT p0), vi (aT p0), vr b1, vr b18, vr r_42, vr r_47, vi (-1 : Int32), .unset, .unset, .unset, .unset, .unset] [(.int 2), (.ref b1)]) (fun _ k => XS.iconst X47.here hx rfl (hb hby at_186) k) ?_
            obtain ⟨cl131, Ar131, qa131, Sa131, Na131, Ha131, Ga131⟩ := id f122
            have hin132 : ¬ ((2 : Int32) < 0 ∨ cl131.slots.size ≤ ((2 : Int32)).toNatClampNeg) := inb_of Sa131 ⟨by decide, by decide⟩
            refine gb (mkF m 188 #[vi p0, vj q1, .second, vj q2, .second, vi (kT p0), vi (uT p0), vi (cT p0), vi (aT p0), vr b1, vr b18, vr r_42, vr r_47, vi (-1 : Int32), .unset, .unset, .unset, .unset, .unset] [(.int (nar .char (fn1 (sR q1 (22 : Int32)) w1 w2 w3 G1 sf)))]) (X47.caload hx (j := (2 : Int32)) (v := (.int (nar .char (fn1 (sR q1 (22 : Int32)) w1 w2 w3 G1 sf)))) Ar131.1 (State.isArrayOf_alike hZ.alike Ar131.2.1) Ar131.2.2 hin132 (Has.at Ha131 hin132 rfl) (g := (mkF m 187 #[vi p0, vj q1, .second, vj q2, .second, vi (kT p0), vi (uT p0), vi (cT p0), vi (aT p0), vr b1, vr b18, vr r_42, vr r_47, vi (-1 : Int32), .unset, .unset, .unset, .unset, .unset] [(.int 2), (.ref b1)])) rfl rfl (hb hby at_187)) ?_
            refine gb (mkF m 190 #[vi p0, vj q1, .second, vj q2, .second, vi (kT p0), vi (uT p0), vi (cT p0), vi (aT p0), vr b1, vr b18, vr r_42, vr r_47, vi (-1 : Int32), .unset, .unset, .unset, .unset, .unset] [(.int 64), (.int (nar .char (fn1 (sR q1 (22 : Int32)) w1 w2 w3 G1 sf)))]) (fun _ k => XS.bipush X47.here hx rfl (hb hby at_188) k) ?_
            by_cases hf133 : (nar .char (fn1 (sR q1 (22 : Int32)) w1 w2 w3 G1 sf)) = (64 : Int32)
            · refine gb (mkF m 193 #[vi p0, vj q1, .second, vj q2, .second, vi (kT p0), vi (uT p0), vi (cT p0), vi (aT p0), vr b1, vr b18, vr r_42, vr r_47, vi (-1 : Int32), .unset, .unset, .unset, .unset, .unset] []) (fun _ k => XS.icmpNo X47.here hx rfl (hb hby at_190) rfl (teq hf133).2 k) ?_
              refine gb (mkF m 194 #[vi p0, vj q1, .second, vj q2, .second, vi (kT p0), vi (uT p0), vi (cT p0), vi (aT p0), vr b1, vr b18, vr r_42, vr r_47, vi (-1 : Int32), .unset, .unset, .unset, .unset, .unset] [(.int 2)]) (fun _ k => XS.iconst X47.here hx rfl (hb hby at_193) k) ?_
              refine gb (mkF m 196 #[vi p0, vj q1, .second, vj q2, .second, vi (kT p0), vi (uT p0), vi (cT p0), vi (aT p0), vr b1, vr b18, vr r_42, vr r_47, vi 2, .unset, .unset, .unset, .unset, .unset] []) (fun _ k => XS.istore X47.here hx rfl (hb hby at_194) rfl (l' := #[vi p0, vj q1, .second, vj q2, .second, vi (kT p0), vi (uT p0), vi (cT p0), vi (aT p0), vr b1, vr b18, vr r_42, vr r_47, vi 2, .unset, .unset, .unset, .unset, .unset]) rfl k) ?_
              exact J51 _ _ X47 rfl N47 (2 : Int32) (show (2 : Int32) = (fj0_0 p0 q1 w1 w2 w3 G1 sf) by unfold fj0_0; rw [if_pos hf121, if_neg hf125, if_pos hf126, if_neg hf129, if_pos hf130, if_pos hf133]; try rfl)
            · refine gb (mkF m 196 #[vi p0, vj q1, .second, vj q2, .second, vi (kT p0), vi (uT p0), vi (cT p0), vi (aT p0), vr b1, vr b18, vr r_42, vr r_47, vi (-1 : Int32), .unset, .unset, .unset, .unset, .unset] []) (fun _ k => XS.icmpYes X47.here hx rfl (pc0 := 190) (pc' := 196) rfl (hb hby at_190) rfl (feq hf133).2 (by decide) (by decide) k) ?_
              exact J51 _ _ X47 rfl N47 (-1 : Int32) (show (-1 : Int32) = (fj0_0 p0 q1 w1 w2 w3 G1 sf) by unfold fj0_0; rw [if_pos hf121, if_neg hf125, if_pos hf126, if_neg hf129, if_pos hf130, if_neg hf133]; try rfl)
          · refine gb (mkF m 196 #[vi p0, vj q1, .second, vj q2, .second, vi (kT p0), vi (uT p0), vi (cT p0), vi (aT p0), vr b1, vr b18, vr r_42, vr r_47, vi (-1 : Int32), .unset, .unset, .unset, .unset, .unset] []) (fun _ k => XS.icmpYes X47.here hx rfl (pc0 := 181) (pc' := 196) rfl (hb hby at_181) rfl (flt hf130).2.2.2 (by decide) (by decide) k) ?_
            exact J51 _ _ X47 rfl N47 (-1 : Int32) (show (-1 : Int32) = (fj0_0 p0 q1 w1 w2 w3 G1 sf) by unfold fj0_0; rw [if_pos hf121, if_neg hf125, if_pos hf126, if_neg hf129, if_neg hf130]; try rfl)
      · refine gb (mkF m 178 #[vi p0, vj q1, .second, vj q2, .second, vi (kT p0), vi (uT p0), vi (cT p0), vi (aT p0), vr b1, vr b18, vr r_42, vr r_47, vi (-1 : Int32), .unset, .unset, .unset, .unset, .unset] []) (fun _ k => XS.icmpYes X47.here hx rfl (pc0 := 160) (pc' := 178) rfl (hb hby at_160) rfl (flt hf126).2.2.2 (by decide) (by decide) k) ?_
        refine gb (mkF m 180 #[vi p0, vj q1, .second, vj q2, .second, vi (kT p0), vi (uT p0), vi (cT p0), vi (aT p0), vr b1, vr b18, vr r_42, vr r_47, vi (-1 : Int32), .unset, .unset, .unset, .unset, .unset] [(.int (uT p0))]) (fun _ k => XS.iload X47.here hx rfl (hb hby at_178) rfl k) ?_
        refine gb (mkF m 181 #[vi p0, vj q1, .second, vj q2, .second, vi (kT p0), vi (uT p0), vi (cT p0), vi (aT p0), vr b1, vr b18, vr r_42, vr r_47, vi (-1 : Int32), .unset, .unset, .unset, .unset, .unset] [(.int 2), (.int (uT p0))]) (fun _ k => XS.iconst X47.here hx rfl (hb hby at_180) k) ?_
        by_cases hf134 : (2 : Int32) < (uT p0)
        · refine gb (mkF m 184 #[vi p0, vj q1, .second, vj q2, .second, vi (kT p0), vi (uT p0), vi (cT p0), vi (aT p0), vr b1, vr b18, vr r_42, vr r_47, vi (-1 : Int32), .unset, .unset, .unset, .unset, .unset] []) (fun _ k => XS.icmpNo X47.here hx rfl (hb hby at_181) rfl (tlt hf134).2.2.2 k) ?_
          refine gb (mkF m 186 #[vi p0, vj q1, .second, vj q2, .second, vi (kT p0), vi (uT p0), vi (cT p0), vi (aT p0), vr b1, vr b18, vr r_42, vr r_47, vi (-1 : Int32), .unset, .unset, .unset, .unset, .unset] [(.ref b1)]) (fun _ k => XS.aload X47.here hx rfl (hb hby at_184) rfl rfl k) ?_
          refine gb (mkF m 187 #[vi p0, vj q1, .second, vj q2, .second, vi (kT p0), vi (uT p0), vi (cT p0), vi (aT p0), vr b1, vr b18, vr r_42, vr r_47, vi (-1 : Int32), .unset, .unset, .unset, .unset, .unset] [(.int 2), (.ref b1)]) (fun _ k => XS.iconst X47.here hx rfl (hb hby at_186) k) ?_
          obtain ⟨cl135, Ar135, qa135, Sa135, Na135, Ha135, Ga135⟩ := id f122
          have hin136 : ¬ ((2 : Int32) < 0 ∨ cl135.slots.size ≤ ((2 : Int32)).toNatClampNeg) := inb_of Sa135 ⟨by decide, by decide⟩
          refine gb (mkF m 188 #[vi p0, vj q1, .second, vj q2, .second, vi (kT p0), vi (uT p0), vi (cT p0), vi (aT p0), vr b1, vr b18, vr r_42, vr r_47, vi (-1 : Int32), .unset, .unset, .unset, .unset, .unset] [(.int (nar .char (fn1 (sR q1 (22 : Int32)) w1 w2 w3 G1 sf)))]) (X47.caload hx (j := (2 : Int32)) (v := (.int (nar .char (fn1 (sR q1 (22 : Int32)) w1 w2 w3 G1 sf)))) Ar135.1 (State.isArrayOf_alike hZ.alike Ar135.2.1) Ar135.2.2 hin136 (Has.at Ha135 hin136 rfl) (g := (mkF m 187 #[vi p0, vj q1, .second, vj q2, .second, vi (kT p0), vi (uT p0), vi (cT p0), vi (aT p0), vr b1, vr b18, vr r_42, vr r_47, vi (-1 : Int32), .unset, .unset, .unset, .unset, .unset] [(.int 2), (.ref b1)])) rfl rfl (hb hby at_187)) ?_
          refine gb (mkF m 190 #[vi p0, vj q1, .second, vj q2, .second, vi (kT p0), vi (uT p0), vi (cT p0), vi (aT p0), vr b1, vr b18, vr r_42, vr r_47, vi (-1 : Int32), .unset, .unset, .unset, .unset, .unset] [(.int 64), (.int (nar .char (fn1 (sR q1 (22 : Int32)) w1 w2 w3 G1 sf)))]) (fun _ k => XS.bipush X47.here hx rfl (hb hby at_188) k) ?_
          by_cases hf137 : (nar .char (fn1 (sR q1 (22 : Int32)) w1 w2 w3 G1 sf)) = (64 : Int32)
          · refine gb (mkF m 193 #[vi p0, vj q1, .second, vj q2, .second, vi (kT p0), vi (uT p0), vi (cT p0), vi (aT p0), vr b1, vr b18, vr r_42, vr r_47, vi (-1 : Int32), .unset, .unset, .unset, .unset, .unset] []) (fun _ k => XS.icmpNo X47.here hx rfl (hb hby at_190) rfl (teq hf137).2 k) ?_
            refine gb (mkF m 194 #[vi p0, vj q1, .second, vj q2, .second, vi (kT p0), vi (uT p0), vi (cT p0), vi (aT p0), vr b1, vr b18, vr r_42, vr r_47, vi (-1 : Int32), .unset, .unset, .unset, .unset, .unset] [(.int 2)]) (fun _ k => XS.iconst X47.here hx rfl (hb hby at_193) k) ?_
            refine gb (mkF m 196 #[vi p0, vj q1, .second, vj q2, .second, vi (kT p0), vi (uT p0), vi (cT p0), vi (aT p0), vr b1, vr b18, vr r_42, vr r_47, vi 2, .unset, .unset, .unset, .unset, .unset] []) (fun _ k => XS.istore X47.here hx rfl (hb hby at_194) rfl (l' := #[vi p0, vj q1, .second, vj q2, .second, vi (kT p0), vi (uT p0), vi (cT p0), vi (aT p0), vr b1, vr b18, vr r_42, vr r_47, vi 2, .unset, .unset, .unset, .unset, .unset]) rfl k) ?_
            exact J51 _ _ X47 rfl N47 (2 : Int32) (show (2 : Int32) = (fj0_0 p0 q1 w1 w2 w3 G1 sf) by unfold fj0_0; rw [if_pos hf121, if_neg hf125, if_neg hf126, if_pos hf134, if_pos hf137]; try rfl)
          · refine gb (mkF m 196 #[vi p0, vj q1, .second, vj q2, .second, vi (kT p0), vi (uT p0), vi (cT p0), vi (aT p0), vr b1, vr b18, vr r_42, vr r_47, vi (-1 : Int32), .unset, .unset, .unset, .unset, .unset] []) (fun _ k => XS.icmpYes X47.here hx rfl (pc0 := 190) (pc' := 196) rfl (hb hby at_190) rfl (feq hf137).2 (by decide) (by decide) k) ?_
            exact J51 _ _ X47 rfl N47 (-1 : Int32) (show (-1 : Int32) = (fj0_0 p0 q1 w1 w2 w3 G1 sf) by unfold fj0_0; rw [if_pos hf121, if_neg hf125, if_neg hf126, if_pos hf134, if_neg hf137]; try rfl)
        · refine gb (mkF m 196 #[vi p0, vj q1, .second, vj q2, .second, vi (kT p0), vi (uT p0), vi (cT p0), vi (aT p0), vr b1, vr b18, vr r_42, vr r_47, vi (-1 : Int32), .unset, .unset, .unset, .unset, .unset] []) (fun _ k => XS.icmpYes X47.here hx rfl (pc0 := 181) (pc' := 196) rfl (hb hby at_181) rfl (flt hf134).2.2.2 (by decide) (by decide) k) ?_
          exact J51 _ _ X47 rfl N47 (-1 : Int32) (show (-1 : Int32) = (fj0_0 p0 q1 w1 w2 w3 G1 sf) by unfold fj0_0; rw [if_pos hf121, if_neg hf125, if_neg hf126, if_neg hf134]; try rfl)
  · refine gb (mkF m 157 #[vi p0, vj q1, .second, vj q2, .second, vi (kT p0), vi (uT p0), vi (cT p0), vi (aT p0), vr b1, vr b18, vr r_42, vr r_47, vi (-1 : Int32), .unset, .unset, .unset, .unset, .unset] []) (fun _ k => XS.ifYes X47.here hx rfl (pc0 := 139) (pc' := 157) rfl (hb hby at_139) rfl ((if0 _ _).trans (flt hf121).2.2.2) (by decide) (by decide) k) ?_
    refine gb (mkF m 159 #[vi p0, vj q1, .second, vj q2, .second, vi (kT p0), vi (uT p0), vi (cT p0), vi (aT p0), vr b1, vr b18, vr r_42, vr r_47, vi (-1 : Int32), .unset, .unset, .unset, .unset, .unset] [(.int (uT p0))]) (fun _ k => XS.iload X47.here hx rfl (hb hby at_157) rfl k) ?_
    refine gb (mkF m 160 #[vi p0, vj q1, .second, vj q2, .second, vi (kT p0), vi (uT p0), vi (cT p0), vi (aT p0), vr b1, vr b18, vr r_42, vr r_47, vi (-1 : Int32), .unset, .unset, .unset, .unset, .unset] [(.int 1), (.int (uT p0))]) (fun _ k => XS.iconst X47.here hx rfl (hb hby at_159) k) ?_
    by_cases hf138 : (1 : Int32) < (uT p0)
    · refine gb (mkF m 163 #[vi p0, vj q1, .second, vj q2, .second, vi (kT p0), vi (uT p0), vi (cT p0), vi (aT p0), vr b1, vr b18, vr r_42, vr r_47, vi (-1 : Int32), .unset, .unset, .unset, .unset, .unset] []) (fun _ k => XS.icmpNo X47.here hx rfl (hb hby at_160) rfl (tlt hf138).2.2.2 k) ?_
      refine gb (mkF m 165 #[vi p0, vj q1, .second, vj q2, .second, vi (kT p0), vi (uT p0), vi (cT p0), vi (aT p0), vr b1, vr b18, vr r_42, vr r_47, vi (-1 : Int32), .unset, .unset, .unset, .unset, .unset] [(.ref b1)]) (fun _ k => XS.aload X47.here hx rfl (hb hby at_163) rfl rfl k) ?_
      refine gb (mkF m 166 #[vi p0, vj q1, .second, vj q2, .second, vi (kT p0), vi (uT p0), vi (cT p0), vi (aT p0), vr b1, vr b18, vr r_42, vr r_47, vi (-1 : Int32), .unset, .unset, .unset, .unset, .unset] [(.int 1), (.ref b1)]) (fun _ k => XS.iconst X47.here hx rfl (hb hby at_165) k) ?_
      have f139 := (Arv.keep (Arv.keep f43 Kc42 nin0) Kc47 nin0)
      obtain ⟨cl140, Ar140, qa140, Sa140, Na140, Ha140, Ga140⟩ := id f139
      have hin141 : ¬ ((1 : Int32) < 0 ∨ cl140.slots.size ≤ ((1 : Int32)).toNatClampNeg) := inb_of Sa140 ⟨by decide, by decide⟩
      refine gb (mkF m 167 #[vi p0, vj q1, .second, vj q2, .second, vi (kT p0), vi (uT p0), vi (cT p0), vi (aT p0), vr b1, vr b18, vr r_42, vr r_47, vi (-1 : Int32), .unset, .unset, .unset, .unset, .unset] [(.int (nar .char (fn1 (sR q1 (11 : Int32)) w1 w2 w3 G1 sf)))]) (X47.caload hx (j := (1 : Int32)) (v := (.int (nar .char (fn1 (sR q1 (11 : Int32)) w1 w2 w3 G1 sf)))) Ar140.1 (State.isArrayOf_alike hZ.alike Ar140.2.1) Ar140.2.2 hin141 (Has.at Ha140 hin141 rfl) (g := (mkF m 166 #[vi p0, vj q1, .second, vj q2, .second, vi (kT p0), vi (uT p0), vi (cT p0), vi (aT p0), vr b1, vr b18, vr r_42, vr r_47, vi (-1 : Int32), .unset, .unset, .unset, .unset, .unset] [(.int 1), (.ref b1)])) rfl rfl (hb hby at_166)) ?_
      refine gb (mkF m 169 #[vi p0, vj q1, .second, vj q2, .second, vi (kT p0), vi (uT p0), vi (cT p0), vi (aT p0), vr b1, vr b18, vr r_42, vr r_47, vi (-1 : Int32), .unset, .unset, .unset, .unset, .unset] [(.int 64), (.int (nar .char (fn1 (sR q1 (11 : Int32)) w1 w2 w3 G1 sf)))]) (fun _ k => XS.bipush X47.here hx rfl (hb hby at_167) k) ?_
      by_cases hf142 : (nar .char (fn1 (sR q1 (11 : Int32)) w1 w2 w3 G1 sf)) = (64 : Int32)
      · refine gb (mkF m 172 #[vi p0, vj q1, .second, vj q2, .second, vi (kT p0), vi (uT p0), vi (cT p0), vi (aT p0), vr b1, vr b18, vr r_42, vr r_47, vi (-1 : Int32), .unset, .unset, .unset, .unset, .unset] []) (fun _ k => XS.icmpNo X47.here hx rfl (hb hby at_169) rfl (teq hf142).2 k) ?_
        refine gb (mkF m 173 #[vi p0, vj q1, .second, vj q2, .second, vi (kT p0), vi (uT p0), vi (cT p0), vi (aT p0), vr b1, vr b18, vr r_42, vr r_47, vi (-1 : Int32), .unset, .unset, .unset, .unset, .unset] [(.int 1)]) (fun _ k => XS.iconst X47.here hx rfl (hb hby at_172) k) ?_
        refine gb (mkF m 175 #[vi p0, vj q1, .second, vj q2, .second, vi (kT p0), vi (uT p0), vi (cT p0), vi (aT p0), vr b1, vr b18, vr r_42, vr r_47, vi 1, .unset, .unset, .unset, .unset, .unset] []) (fun _ k => XS.istore X47.here hx rfl (hb hby at_173) rfl (l' := #[vi p0, vj q1, .second, vj q2, .second, vi (kT p0), vi (uT p0), vi (cT p0), vi (aT p0), vr b1, vr b18, vr r_42, vr r_47, vi 1, .unset, .unset, .unset, .unset, .unset]) rfl k) ?_
        refine gb (mkF m 196 #[vi p0, vj q1, .second, vj q2, .second, vi (kT p0), vi (uT p0), vi (cT p0), vi (aT p0), vr b1, vr b18, vr r_42, vr r_47, vi 1, .unset, .unset, .unset, .unset, .unset] []) (fun _ k => XS.goto X47.here hx rfl (pc0 := 175) (pc' := 196) rfl (hb hby at_175) (by decide) (by decide) k) ?_
        exact J51 _ _ X47 rfl N47 (1 : Int32) (show (1 : Int32) = (fj0_0 p0 q1 w1 w2 w3 G1 sf) by unfold fj0_0; rw [if_neg hf121, if_pos hf138, if_pos hf142]; try rfl)
      · refine gb (mkF m 178 #[vi p0, vj q1, .second, vj q2, .second, vi (kT p0), vi (uT p0), vi (cT p0), vi (aT p0), vr b1, vr b18, vr r_42, vr r_47, vi (-1 : Int32), .unset, .unset, .unset, .unset, .unset] []) (fun _ k => XS.icmpYes X47.here hx rfl (pc0 := 169) (pc' := 178) rfl (hb hby at_169) rfl (feq hf142).2 (by decide) (by decide) k) ?_
        refine gb (mkF m 180 #[vi p0, vj q1, .second, vj q2, .second, vi (kT p0), vi (uT p0), vi (cT p0), vi (aT p0), vr b1, vr b18, vr r_42, vr r_47, vi (-1 : Int32), .unset, .unset, .unset, .unset, .unset] [(.int (uT p0))]) (fun _ k => XS.iload X47.here hx rfl (hb hby at_178) rfl k) ?_
        refine gb (mkF m 181 #[vi p0, vj q1, .second, vj q2, .second, vi (kT p0), vi (uT p0), vi (cT p0), vi (aT p0), vr b1, vr b18, vr r_42, vr r_47, vi (-1 : Int32), .unset, .unset, .unset, .unset, .unset] [(.int 2), (.int (uT p0))]) (fun _ k => XS.iconst X47.here hx rfl (hb hby at_180) k) ?_
        by_cases hf143 : (2 : Int32) < (uT p0)
        · refine gb (mkF m 184 #[vi p0, vj q1, .second, vj q2, .second, vi (kT p0), vi (uT p0), vi (cT p0), vi (aT p0), vr b1, vr b18, vr r_42, vr r_47, vi (-1 : Int32), .unset, .unset, .unset, .unset, .unset] []) (fun _ k => XS.icmpNo X47.here hx rfl (hb hby at_181) rfl (tlt hf143).2.2.2 k) ?_
          refine gb (mkF m 186 #[vi p0, vj q1, .second, vj q2, .second, vi (kT p0), vi (uT p0), vi (cT p0), vi (aT p0), vr b1, vr b18, vr r_42, vr r_47, vi (-1 : Int32), .unset, .unset, .unset, .unset, .unset] [(.ref b1)]) (fun _ k => XS.aload X47.here hx rfl (hb hby at_184) rfl rfl k) ?_
          refine gb (mkF m 187 #[vi p0, vj q1, .second, vj q2, .second, vi (kT p0), vi (uT p0), vi (cT p0), vi (aT p0), vr b1, vr b18, vr r_42, vr r_47, vi (-1 : Int32), .unset, .unset, .unset, .unset, .unset] [(.int 2), (.ref b1)]) (fun _ k => XS.iconst X47.here hx rfl (hb hby at_186) k) ?_
          obtain ⟨cl144, Ar144, qa144, Sa144, Na144, Ha144, Ga144⟩ := id f139
          have hin145 : ¬ ((2 : Int32) < 0 ∨ cl144.slots.size ≤ ((2 : Int32)).toNatClampNeg) := inb_of Sa144 ⟨by decide, by decide⟩
          refine gb (mkF m 188 #[vi p0, vj q1, .second, vj q2, .second, vi (kT p0), vi (uT p0), vi (cT p0), vi (aT p0), vr b1, vr b18, vr r_42, vr r_47, vi (-1 : Int32), .unset, .unset, .unset, .unset, .unset] [(.int (nar .char (fn1 (sR q1 (22 : Int32)) w1 w2 w3 G1 sf)))]) (X47.caload hx (j := (2 : Int32)) (v := (.int (nar .char (fn1 (sR q1 (22 : Int32)) w1 w2 w3 G1 sf)))) Ar144.1 (State.isArrayOf_alike hZ.alike Ar144.2.1) Ar144.2.2 hin145 (Has.at Ha144 hin145 rfl) (g := (mkF m 187 #[vi p0, vj q1, .second, vj q2, .second, vi (kT p0), vi (uT p0), vi (cT p0), vi (aT p0), vr b1, vr b18, vr r_42, vr r_47, vi (-1 : Int32), .unset, .unset, .unset, .unset, .unset] [(.int 2), (.ref b1)])) rfl rfl (hb hby at_187)) ?_
          refine gb (mkF m 190 #[vi p0, vj q1, .second, vj q2, .second, vi (kT p0), vi (uT p0), vi (cT p0), vi (aT p0), vr b1, vr b18, vr r_42, vr r_47, vi (-1 : Int32), .unset, .unset, .unset, .unset, .unset] [(.int 64), (.int (nar .char (fn1 (sR q1 (22 : Int32)) w1 w2 w3 G1 sf)))]) (fun _ k => XS.bipush X47.here hx rfl (hb hby at_188) k) ?_
          by_cases hf146 : (nar .char (fn1 (sR q1 (22 : Int32)) w1 w2 w3 G1 sf)) = (64 : Int32)
          · refine gb (mkF m 193 #[vi p0, vj q1, .second, vj q2, .second, vi (kT p0), vi (uT p0), vi (cT p0), vi (aT p0), vr b1, vr b18, vr r_42, vr r_47, vi (-1 : Int32), .unset, .unset, .unset, .unset, .unset] []) (fun _ k => XS.icmpNo X47.here hx rfl (hb hby at_190) rfl (teq hf146).2 k) ?_
            refine gb (mkF m 194 #[vi p0, vj q1, .second, vj q2, .second, vi (kT p0), vi (uT p0), vi (cT p0), vi (aT p0), vr b1, vr b18, vr r_42, vr r_47, vi (-1 : Int32), .unset, .unset, .unset, .unset, .unset] [(.int 2)]) (fun _ k => XS.iconst X47.here hx rfl (hb hby at_193) k) ?_
            refine gb (mkF m 196 #[vi p0, vj q1, .second, vj q2, .second, vi (kT p0), vi (uT p0), vi (cT p0), vi (aT p0), vr b1, vr b18, vr r_42, vr r_47, vi 2, .unset, .unset, .unset, .unset, .unset] []) (fun _ k => XS.istore X47.here hx rfl (hb hby at_194) rfl (l' := #[vi p0, vj q1, .second, vj q2, .second, vi (kT p0), vi (uT p0), vi (cT p0), vi (aT p0), vr b1, vr b18, vr r_42, vr r_47, vi 2, .unset, .unset, .unset, .unset, .unset]) rfl k) ?_
            exact J51 _ _ X47 rfl N47 (2 : Int32) (show (2 : Int32) = (fj0_0 p0 q1 w1 w2 w3 G1 sf) by unfold fj0_0; rw [if_neg hf121, if_pos hf138, if_neg hf142, if_pos hf143, if_pos hf146]; try rfl)
          · refine gb (mkF m 196 #[vi p0, vj q1, .second, vj q2, .second, vi (kT p0), vi (uT p0), vi (cT p0), vi (aT p0), vr b1, vr b18, vr r_42, vr r_47, vi (-1 : Int32), .unset, .unset, .unset, .unset, .unset] []) (fun _ k => XS.icmpYes X47.here hx rfl (pc0 := 190) (pc' := 196) rfl (hb hby at_190) rfl (feq hf146).2 (by decide) (by decide) k) ?_
            exact J51 _ _ X47 rfl N47 (-1 : Int32) (show (-1 : Int32) = (fj0_0 p0 q1 w1 w2 w3 G1 sf) by unfold fj0_0; rw [if_neg hf121, if_pos hf138, if_neg hf142, if_pos hf143, if_neg hf146]; try rfl)
        · refine gb (mkF m 196 #[vi p0, vj q1, .second, vj q2, .second, vi (kT p0), vi (uT p0), vi (cT p0), vi (aT p0), vr b1, vr b18, vr r_42, vr r_47, vi (-1 : Int32), .unset, .unset, .unset, .unset, .unset] []) (fun _ k => XS.icmpYes X47.here hx rfl (pc0 := 181) (pc' := 196) rfl (hb hby at_181) rfl (flt hf143).2.2.2 (by decide) (by decide) k) ?_
          exact J51 _ _ X47 rfl N47 (-1 : Int32) (show (-1 : Int32) = (fj0_0 p0 q1 w1 w2 w3 G1 sf) by unfold fj0_0; rw [if_neg hf121, if_pos hf138, if_neg hf142, if_neg hf143]; try rfl)
    · refine gb (mkF m 178 #[vi p0, vj q1, .second, vj q2, .second, vi (kT p0), vi (uT p0), vi (cT p0), vi (aT p0), vr b1, vr b18, vr r_42, vr r_47, vi (-1 : Int32), .unset, .unset, .unset, .unset, .unset] []) (fun _ k => XS.icmpYes X47.here hx rfl (pc0 := 160) (pc' := 178) rfl (hb hby at_160) rfl (flt hf138).2.2.2 (by decide) (by decide) k) ?_
      refine gb (mkF m 180 #[vi p0, vj q1, .second, vj q2, .second, vi (kT p0), vi (uT p0), vi (cT p0), vi (aT p0), vr b1, vr b18, vr r_42, vr r_47, vi (-1 : Int32), .unset, .unset, .unset, .unset, .unset] [(.int (uT p0))]) (fun _ k => XS.iload X47.here hx rfl (hb hby at_178) rfl k) ?_
      refine gb (mkF m 181 #[vi p0, vj q1, .second, vj q2, .second, vi (kT p0), vi (uT p0), vi (cT p0), vi (aT p0), vr b1, vr b18, vr r_42, vr r_47, vi (-1 : Int32), .unset, .unset, .unset, .unset, .unset] [(.int 2), (.int (uT p0))]) (fun _ k => XS.iconst X47.here hx rfl (hb hby at_180) k) ?_
      by_cases hf147 : (2 : Int32) < (uT p0)
      · refine gb (mkF m 184 #[vi p0, vj q1, .second, vj q2, .second, vi (kT p0), vi (uT p0), vi (cT p0), vi (aT p0), vr b1, vr b18, vr r_42, vr r_47, vi (-1 : Int32), .unset, .unset, .unset, .unset, .unset] []) (fun _ k => XS.icmpNo X47.here hx rfl (hb hby at_181) rfl (tlt hf147).2.2.2 k) ?_
        refine gb (mkF m 186 #[vi p0, vj q1, .second, vj q2, .second, vi (kT p0), vi (uT p0), vi (cT p0), vi (aT p0), vr b1, vr b18, vr r_42, vr r_47, vi (-1 : Int32), .unset, .unset, .unset, .unset, .unset] [(.ref b1)]) (fun _ k => XS.aload X47.here hx rfl (hb hby at_184) rfl rfl k) ?_
        refine gb (mkF m 187 #[vi p0, vj q1, .second, vj q2, .second, vi (kT p0), vi (uT p0), vi (cT p0), vi (aT p0), vr b1, vr b18, vr r_42, vr r_47, vi (-1 : Int32), .unset, .unset, .unset, .unset, .unset] [(.int 2), (.ref b1)]) (fun _ k => XS.iconst X47.here hx rfl (hb hby at_186) k) ?_
        have f148 := (Arv.keep (Arv.keep f43 Kc42 nin0) Kc47 nin0)
        obtain ⟨cl149, Ar149, qa149, Sa149, Na149, Ha149, Ga149⟩ := id f148
        have hin150 : ¬ ((2 : Int32) < 0 ∨ cl149.slots.size ≤ ((2 : Int32)).toNatClampNeg) := inb_of Sa149 ⟨by decide, by decide⟩
        refine gb (mkF m 188 #[vi p0, vj q1, .second, vj q2, .second, vi (kT p0), vi (uT p0), vi (cT p0), vi (aT p0), vr b1, vr b18, vr r_42, vr r_47, vi (-1 : Int32), .unset, .unset, .unset, .unset, .unset] [(.int (nar .char (fn1 (sR q1 (22 : Int32)) w1 w2 w3 G1 sf)))]) (X47.caload hx (j := (2 : Int32)) (v := (.int (nar .char (fn1 (sR q1 (22 : Int32)) w1 w2 w3 G1 sf)))) Ar149.1 (State.isArrayOf_alike hZ.alike Ar149.2.1) Ar149.2.2 hin150 (Has.at Ha149 hin150 rfl) (g := (mkF m 187 #[vi p0, vj q1, .second, vj q2, .second, vi (kT p0), vi (uT p0), vi (cT p0), vi (aT p0), vr b1, vr b18, vr r_42, vr r_47, vi (-1 : Int32), .unset, .unset, .unset, .unset, .unset] [(.int 2), (.ref b1)])) rfl rfl (hb hby at_187)) ?_
        refine gb (mkF m 190 #[vi p0, vj q1, .second, vj q2, .second, vi (kT p0), vi (uT p0), vi (cT p0), vi (aT p0), vr b1, vr b18, vr r_42, vr r_47, vi (-1 : Int32), .unset, .unset, .unset, .unset, .unset] [(.int 64), (.int (nar .char (fn1 (sR q1 (22 : Int32)) w1 w2 w3 G1 sf)))]) (fun _ k => XS.bipush X47.here hx rfl (hb hby at_188) k) ?_
        by_cases hf151 : (nar .char (fn1 (sR q1 (22 : Int32)) w1 w2 w3 G1 sf)) = (64 : Int32)
        · refine gb (mkF m 193 #[vi p0, vj q1, .second, vj q2, .second, vi (kT p0), vi (uT p0), vi (cT p0), vi (aT p0), vr b1, vr b18, vr r_42, vr r_47, vi (-1 : Int32), .unset, .unset, .unset, .unset, .unset] []) (fun _ k => XS.icmpNo X47.here hx rfl (hb hby at_190) rfl (teq hf151).2 k) ?_
          refine gb (mkF m 194 #[vi p0, vj q1, .second, vj q2, .second, vi (kT p0), vi (uT p0), vi (cT p0), vi (aT p0), vr b1, vr b18, vr r_42, vr r_47, vi (-1 : Int32), .unset, .unset, .unset, .unset, .unset] [(.int 2)]) (fun _ k => XS.iconst X47.here hx rfl (hb hby at_193) k) ?_
          refine gb (mkF m 196 #[vi p0, vj q1, .second, vj q2, .second, vi (kT p0), vi (uT p0), vi (cT p0), vi (aT p0), vr b1, vr b18, vr r_42, vr r_47, vi 2, .unset, .unset, .unset, .unset, .unset] []) (fun _ k => XS.istore X47.here hx rfl (hb hby at_194) rfl (l' := #[vi p0, vj q1, .second, vj q2, .second, vi (kT p0), vi (uT p0), vi (cT p0), vi (aT p0), vr b1, vr b18, vr r_42, vr r_47, vi 2, .unset, .unset, .unset, .unset, .unset]) rfl k) ?_
          exact J51 _ _ X47 rfl N47 (2 : Int32) (show (2 : Int32) = (fj0_0 p0 q1 w1 w2 w3 G1 sf) by unfold fj0_0; rw [if_neg hf121, if_neg hf138, if_pos hf147, if_pos hf151]; try rfl)
        · refine gb (mkF m 196 #[vi p0, vj q1, .second, vj q2, .second, vi (kT p0), vi (uT p0), vi (cT p0), vi (aT p0), vr b1, vr b18, vr r_42, vr r_47, vi (-1 : Int32), .unset, .unset, .unset, .unset, .unset] []) (fun _ k => XS.icmpYes X47.here hx rfl (pc0 := 190) (pc' := 196) rfl (hb hby at_190) rfl (feq hf151).2 (by decide) (by decide) k) ?_
          exact J51 _ _ X47 rfl N47 (-1 : Int32) (show (-1 : Int32) = (fj0_0 p0 q1 w1 w2 w3 G1 sf) by unfold fj0_0; rw [if_neg hf121, if_neg hf138, if_pos hf147, if_neg hf151]; try rfl)
      · refine gb (mkF m 196 #[vi p0, vj q1, .second, vj q2, .second, vi (kT p0), vi (uT p0), vi (cT p0), vi (aT p0), vr b1, vr b18, vr r_42, vr r_47, vi (-1 : Int32), .unset, .unset, .unset, .unset, .unset] []) (fun _ k => XS.icmpYes X47.here hx rfl (pc0 := 181) (pc' := 196) rfl (hb hby at_181) rfl (flt hf147).2.2.2 (by decide) (by decide) k) ?_
        exact J51 _ _ X47 rfl N47 (-1 : Int32) (show (-1 : Int32) = (fj0_0 p0 q1 w1 w2 w3 G1 sf) by unfold fj0_0; rw [if_neg hf121, if_neg hf138, if_neg hf147]; try rfl)
section Plain
variable {w1 : Addr} {w2 : Addr} {w3 : Addr} {G1 : Int32} {sf : Value}
def Gd (l : List Int32) : Prop := ∀ x ∈ l, nar .char x = x ∧ ¬ (255 : Int32) < x
theorem gd_at {l : List Int32} (h : Gd l) {k : Nat} (hk : k < l.length) : nar .char (l.getD k 0) = l.getD k 0 ∧ ¬ (255 : Int32) < l.getD k 0 := by
  have e : l.getD k 0 = l[k] := by simp [List.getD, List.getElem?_eq_getElem hk]
  rw [e]; exact h _ (List.getElem_mem hk)
theorem stk_at {n : Int32} {l : List Int32} {k : Nat} (h : Gd l) (h1 : k < n.toNatClampNeg) (h2 : k < l.length) : (stk n l).getD k 0 = bL (l.getD k 0) := by
  have e : l.getD k 0 = l[k] := by simp [List.getD, List.getElem?_eq_getElem h2]
  have g := (gd_at h h2).1
  rw [e] at g ⊢
  unfold stk
  rw [List.getD, List.getElem?_map, List.getElem?_take_of_lt h1, List.getElem?_eq_getElem h2]
  show bL (nar .char l[k]) = bL l[k]
  rw [g]
theorem ch_at {n i : Int32} {l : List Int32} (h : Gd l) (h1 : ¬ i < 0) (h2 : i < n) (h3 : n.toInt ≤ l.length) : fn24A i (stk n l) w1 w2 w3 G1 sf = l.getD i.toNatClampNeg 0 := by
  have a := nat_of h1
  have hn : ¬ n < 0 := by
    rw [Int32.lt_iff_toInt_lt] at *
    omega
  have b := nat_of hn
  rw [Int32.lt_iff_toInt_lt] at h2
  have q1 : i.toNatClampNeg < n.toNatClampNeg := by omega
  have q2 : i.toNatClampNeg < l.length := by omega
  have g := gd_at h q2
  unfold fn24A fn25
  rw [stk_at h q1 q2, dec_L _ g.1 g.2]
  exact g.1
theorem tr_eq {x : Int32} (g : nar .char x = x) : (if x = (46 : Int32) then (95 : Int32) else if x = (64 : Int32) then (95 : Int32) else x) = fn23 x w1 w2 w3 G1 sf := by
  unfold fn23
  rw [g]
  have e : nar .char (95 : Int32) = 95 := by decide
  rw [e]
theorem ra0 (t b : Int32) : (t + b) - b = t + 0 := by
  apply Int32.toBitVec_inj.mp; simp
theorem ra1 (t b : Int32) : (t + (b + 1)) - b = t + 1 := by
  apply Int32.toBitVec_inj.mp; simp only [Int32.toBitVec_sub, Int32.toBitVec_add]; rw [← BitVec.add_assoc, BitVec.add_assoc, BitVec.add_comm b.toBitVec, ← BitVec.add_assoc, BitVec.add_sub_cancel]
theorem rb2 (b : Int32) : (b + 1) + 1 = b + 2 := by
  rw [Int32.add_assoc]; rfl
theorem ra2 (t b : Int32) : (t + ((b + 1) + 1)) - b = t + 2 := by
  rw [rb2]
  apply Int32.toBitVec_inj.mp; simp only [Int32.toBitVec_sub, Int32.toBitVec_add]; rw [← BitVec.add_assoc, BitVec.add_assoc, BitVec.add_comm b.toBitVec, ← BitVec.add_assoc, BitVec.add_sub_cancel]
theorem rc (t e b : Int32) : (t + e) - b = t + (e - b) := by
  apply Int32.toBitVec_inj.mp; simp only [Int32.toBitVec_sub, Int32.toBitVec_add]; rw [BitVec.sub_eq_add_neg, BitVec.sub_eq_add_neg, BitVec.add_assoc]
theorem lt_len {b e z t m i k : Int32} {j : Int} (h : Rg b e z t m) (hi : i.toInt = b.toInt + j) (hk : k.toInt = j) (h0 : 0 ≤ j) (h3 : j ≤ 3) : (i < e) ↔ (k < e - b) := by
  have a := c_isub e b
  have r := rng32 (e - b)
  obtain ⟨⟨g1, g2, g3, g4⟩, -⟩ := h
  rw [Int32.lt_iff_toInt_lt, Int32.lt_iff_toInt_lt]
  omega
theorem te {b e z t m x0 x1 x2 y0 y1 y2 y3 : Int32} (h : Rg b e z t m) (gx : Gd [x0, x1, x2]) (gy : Gd [y0, y1, y2, y3]) : fn18 b e t (stk z [x0, x1, x2]) m (stk m [y0, y1, y2, y3]) w1 w2 w3 G1 sf =
    if (m - t) < (e - b) then (-1 : Int32) else if fn60 b t (e - b) x0 x1 x2 y0 y1 y2 y3 w1 w2 w3 G1 sf = 0 then (-1 : Int32) else if fn61 b t (e - b) x0 x1 x2 y0 y1 y2 y3 w1 w2 w3 G1 sf = 0 then (-1 : Int32) else if fn62 b t (e - b) x0 x1 x2 y0 y1 y2 y3 w1 w2 w3 G1 sf = 0 then (-1 : Int32) else t + (e - b) := by
  by_cases hn : (m - t) < (e - b)
  · unfold fn18; rw [if_pos hn, if_pos hn]
  have i0 : b.toInt = b.toInt + 0 := (Int.add_zero _).symm
  have i1 := inc h i0 (by decide) (by decide)
  have i2 := inc h i1 (by decide) (by decide)
  have l0 := lt_len (k := 0) h i0 (by decide) (by decide) (by decide)
  have l1 := lt_len (k := 1) h i1 (by decide) (by decide) (by decide)
  have l2 := lt_len (k := 2) h i2 (by decide) (by decide) (by decide)
  have hz : z.toInt ≤ ([x0, x1, x2] : List Int32).length := h.1.2.2.2
  have hm : m.toInt ≤ ([y0, y1, y2, y3] : List Int32).length := h.2.2.2
  have u : ∀ {i : Int32} {j : Int}, i.toInt = b.toInt + j → 0 ≤ j → i < e → fn24A i (stk z [x0, x1, x2]) w1 w2 w3 G1 sf = [x0, x1, x2].getD i.toNatClampNeg 0 ∧ nar .char ([x0, x1, x2].getD i.toNatClampNeg 0) = [x0, x1, x2].getD i.toNatClampNeg 0 := fun hi h0 hl => by
    have q := cu h hi h0 hl
    have n1 := nat_of q.1
    have q2 := q.2
    rw [Int32.lt_iff_toInt_lt] at q2
    exact ⟨ch_at gx q.1 q.2 hz, (gd_at gx (by omega)).1⟩
  have v : ∀ {i : Int32} {j : Int}, i.toInt = b.toInt + j → 0 ≤ j → i < e → fn24A ((t + i) - b) (stk m [y0, y1, y2, y3]) w1 w2 w3 G1 sf = [y0, y1, y2, y3].getD ((t + i) - b).toNatClampNeg 0 := fun hi h0 hl => by
    have q := cc h hi h0 hl hn
    exact ch_at gy q.1 q.2 hm
  have b0 : b + 0 = b := by simp
  unfold fn18
  rw [if_neg hn, if_neg hn, rc t e b]
  unfold fn60 fn61 fn62
  by_cases c0 : b < e
  · obtain ⟨e0, g0⟩ := u i0 (by decide) c0
    have f0 : fj18_0 b (stk z [x0, x1, x2]) w1 w2 w3 G1 sf = fn23 ([x0, x1, x2].getD (b + 0).toNatClampNeg 0) w1 w2 w3 G1 sf := by
      unfold fj18_0; rw [e0, b0]; exact tr_eq g0
    have d0 := v i0 (by decide) c0
    rw [ra0] at d0
    rw [if_pos c0, ra0, d0, f0, if_pos (l0.mp c0)]
    by_cases k0 : [y0, y1, y2, y3].getD (t + 0).toNatClampNeg 0 = fn23 ([x0, x1, x2].getD (b + 0).toNatClampNeg 0) w1 w2 w3 G1 sf
    · rw [if_pos k0, if_pos k0, if_neg (by decide : ¬ (1 : Int32) = 0)]
      by_cases c1 : b + 1 < e
      · obtain ⟨e1, g1⟩ := u i1 (by decide) c1
        have f1 : fj18_1 b (stk z [x0, x1, x2]) w1 w2 w3 G1 sf = fn23 ([x0, x1, x2].getD (b + 1).toNatClampNeg 0) w1 w2 w3 G1 sf := by
          unfold fj18_1; rw [e1]; exact tr_eq g1
        have d1 := v i1 (by decide) c1
        rw [ra1] at d1
        rw [if_pos c1, ra1, d1, f1, if_pos (l1.mp c1)]
        by_cases k1 : [y0, y1, y2, y3].getD (t + 1).toNatClampNeg 0 = fn23 ([x0, x1, x2].getD (b + 1).toNatClampNeg 0) w1 w2 w3 G1 sf
        · rw [if_pos k1, if_pos k1, if_neg (by decide : ¬ (1 : Int32) = 0)]
          by_cases c2 : b + 1 + 1 < e
          · obtain ⟨e2, g2⟩ := u i2 (by decide) c2
            have f2 : fj18_2 b (stk z [x0, x1, x2]) w1 w2 w3 G1 sf = fn23 ([x0, x1, x2].getD (b + 2).toNatClampNeg 0) w1 w2 w3 G1 sf := by
              unfold fj18_2; rw [e2, rb2]; rw [rb2] at g2; exact tr_eq g2
            have d2 := v i2 (by decide) c2
            rw [ra2] at d2
            rw [if_pos c2, ra2, d2, f2, if_pos (l2.mp c2)]
            by_cases k2 : [y0, y1, y2, y3].getD (t + 2).toNatClampNeg 0 = fn23 ([x0, x1, x2].getD (b + 2).toNatClampNeg 0) w1 w2 w3 G1 sf
            · rw [if_pos k2, if_pos k2, if_neg (by decide : ¬ (1 : Int32) = 0)]
            · rw [if_neg k2, if_neg k2, if_pos rfl]
          · rw [if_neg c2, if_neg (fun q => c2 (l2.mpr q)), if_neg (by decide : ¬ (1 : Int32) = 0)]
        · rw [if_neg k1, if_neg k1, if_pos rfl]
      · have n2 : ¬ (2 : Int32) < e - b := fun q => c1 (l1.mpr (by
          rw [Int32.lt_iff_toInt_lt] at *
          have : (2 : Int32).toInt = 2 := by decide
          have : (1 : Int32).toInt = 1 := by decide
          omega))
        rw [if_neg c1, if_neg (fun q => c1 (l1.mpr q)), if_neg n2, if_neg (by decide : ¬ (1 : Int32) = 0), if_neg (by decide : ¬ (1 : Int32) = 0)]
    · rw [if_neg k0, if_neg k0, if_pos rfl]
  · have n1 : ¬ (1 : Int32) < e - b := fun q => c0 (l0.mpr (by
      rw [Int32.lt_iff_toInt_lt] at *
      have : (0 : Int32).toInt = 0 := by decide
      have : (1 : Int32).toInt = 1 := by decide
      omega))
    have n2 : ¬ (2 : Int32) < e - b := fun q => c0 (l0.mpr (by
      rw [Int32.lt_iff_toInt_lt] at *
      have : (2 : Int32).toInt = 2 := by decide
      have : (0 : Int32).toInt = 0 := by decide
      omega))
    rw [if_neg c0, if_neg (fun q => c0 (l0.mpr q)), if_neg n1, if_neg n2, if_neg (by decide : ¬ (1 : Int32) = 0), if_neg (by decide : ¬ (1 : Int32) = 0), if_neg (by decide : ¬ (1 : Int32) = 0)]
theorem is64 {x : Int32} (hc : nar .char x = x) (hl : ¬ (255 : Int32) < x) : (bL x = ((64 : Int32).toInt8.toInt32)) ↔ x = 64 := by
  constructor
  · intro q
    have d := dec_L x hc hl
    rw [q] at d
    rw [← d]; decide
  · intro q; rw [q]; decide
theorem u64 {z k : Int32} {j : Nat} {l : List Int32} (h : Gd l) (hk : k.toNatClampNeg = j) (h2 : j < l.length) (hz : k < z) (h0 : ¬ k < 0) : ((stk z l).getD k.toNatClampNeg 0 = ((64 : Int32).toInt8.toInt32)) ↔ l.getD j 0 = 64 := by
  have a := nat_of h0
  have hn : ¬ z < 0 := by
    rw [Int32.lt_iff_toInt_lt] at *
    omega
  have b := nat_of hn
  rw [Int32.lt_iff_toInt_lt] at hz
  rw [hk, stk_at h (by omega) h2]
  exact is64 (gd_at h h2).1 (gd_at h h2).2
theorem d_eq {z x0 x1 x2 : Int32} (g : Gd [x0, x1, x2]) : fn8 z (stk z [x0, x1, x2]) w1 w2 w3 G1 sf = if (0 : Int32) < z then if x0 = (64 : Int32) then (0 : Int32) else if (1 : Int32) < z then if x1 = (64 : Int32) then (1 : Int32) else if (2 : Int32) < z then if x2 = (64 : Int32) then (2 : Int32) else (-1 : Int32) else (-1 : Int32) else if (2 : Int32) < z then if x2 = (64 : Int32) then (2 : Int32) else (-1 : Int32) else (-1 : Int32) else if (1 : Int32) < z then if x1 = (64 : Int32) then (1 : Int32) else if (2 : Int32) < z then if x2 = (64 : Int32) then (2 : Int32) else (-1 : Int32) else (-1 : Int32) else if (2 : Int32) < z then if x2 = (64 : Int32) then (2 : Int32) else (-1 : Int32) else (-1 : Int32) := by
  unfold fn8 fn9 fn13 fn22
  have z0 : (0 : Int32).toInt = 0 := by decide
  have z1 : (1 : Int32).toInt = 1 := by decide
  have z2 : (2 : Int32).toInt = 2 := by decide
  have i10 : (1 : Int32) < z → (0 : Int32) < z := fun q => by rw [Int32.lt_iff_toInt_lt] at *; omega
  have i21 : (2 : Int32) < z → (1 : Int32) < z := fun q => by rw [Int32.lt_iff_toInt_lt] at *; omega
  by_cases c0 : (0 : Int32) < z
  · have e0 := u64 (j := 0) g (by decide) (by show 0 < 3; decide) c0 (by decide)
    have e0' : ((stk z [x0, x1, x2]).getD (0 : Int32).toNatClampNeg 0 = ((64 : Int32).toInt8.toInt32)) ↔ x0 = 64 := e0
    rw [if_pos c0, if_pos c0, if_pos c0]
    by_cases k0 : x0 = 64
    · rw [if_pos (e0'.mpr k0), if_pos k0]
    · rw [if_neg (fun q => k0 (e0'.mp q)), if_neg k0]
      by_cases c1 : (1 : Int32) < z
      · have e1 : ((stk z [x0, x1, x2]).getD (1 : Int32).toNatClampNeg 0 = ((64 : Int32).toInt8.toInt32)) ↔ x1 = 64 := u64 (j := 1) g (by decide) (by show 1 < 3; decide) c1 (by decide)
        rw [if_pos c1, if_pos c1]
        by_cases k1 : x1 = 64
        · rw [if_pos (e1.mpr k1), if_pos k1]
        · rw [if_neg (fun q => k1 (e1.mp q)), if_neg k1]
          by_cases c2 : (2 : Int32) < z
          · have e2 : ((stk z [x0, x1, x2]).getD (2 : Int32).toNatClampNeg 0 = ((64 : Int32).toInt8.toInt32)) ↔ x2 = 64 := u64 (j := 2) g (by decide) (by show 2 < 3; decide) c2 (by decide)
            rw [if_pos c2, if_pos c2]
            by_cases k2 : x2 = 64
            · rw [if_pos (e2.mpr k2), if_pos k2]
            · rw [if_neg (fun q => k2 (e2.mp q)), if_neg k2]
          · rw [if_neg c2, if_neg c2]
      · have c2 : ¬ (2 : Int32) < z := fun q => c1 (i21 q)
        rw [if_neg c1, if_neg c1, if_neg c2]
  · have c1 : ¬ (1 : Int32) < z := fun q => c0 (i10 q)
    have c2 : ¬ (2 : Int32) < z := fun q => c1 (i21 q)
    rw [if_neg c0, if_neg c0, if_neg c1, if_neg c2]

end Plain
theorem gdx (p0 : Int32) (q1 q2 : Int64) (w1 w2 w3 : Addr) (G1 : Int32) (sf : Value) : Gd [(nar .char (fn1 q1 w1 w2 w3 G1 sf)), (nar .char (fn1 (sR q1 (11 : Int32)) w1 w2 w3 G1 sf)), (nar .char (fn1 (sR q1 (22 : Int32)) w1 w2 w3 G1 sf))] ∧ Gd [(nar .char (fn1 q2 w1 w2 w3 G1 sf)), (nar .char (fn1 (sR q2 (11 : Int32)) w1 w2 w3 G1 sf)), (nar .char (fn1 (sR q2 (22 : Int32)) w1 w2 w3 G1 sf)), (nar .char (fn1 (sR q2 (33 : Int32)) w1 w2 w3 G1 sf))] := by
  constructor
  · intro x hx
    simp only [List.mem_cons, List.not_mem_nil, or_false] at hx
    rcases hx with rfl | rfl | rfl <;> exact ⟨nar_nar _, dr_le _⟩
  · intro x hx
    simp only [List.mem_cons, List.not_mem_nil, or_false] at hx
    rcases hx with rfl | rfl | rfl | rfl <;> exact ⟨nar_nar _, dr_le _⟩
theorem hd8 (p0 : Int32) (q1 q2 : Int64) (w1 w2 w3 : Addr) (G1 : Int32) (sf : Value) : fn8 (uT p0) (stk (uT p0) [(nar .char (fn1 q1 w1 w2 w3 G1 sf)), (nar .char (fn1 (sR q1 (11 : Int32)) w1 w2 w3 G1 sf)), (nar .char (fn1 (sR q1 (22 : Int32)) w1 w2 w3 G1 sf))]) w1 w2 w3 G1 sf = fj0_0 p0 q1 w1 w2 w3 G1 sf := by
  unfold fj0_0
  exact d_eq (gdx p0 q1 q2 w1 w2 w3 G1 sf).1
theorem q0e (p0 : Int32) (q1 q2 : Int64) (w1 w2 w3 : Addr) (G1 : Int32) (sf : Value) : fn70 (aT p0) (uT p0) (stk (uT p0) [(nar .char (fn1 q1 w1 w2 w3 G1 sf)), (nar .char (fn1 (sR q1 (11 : Int32)) w1 w2 w3 G1 sf)), (nar .char (fn1 (sR q1 (22 : Int32)) w1 w2 w3 G1 sf))]) (cT p0) (stk (cT p0) [(nar .char (fn1 q2 w1 w2 w3 G1 sf)), (nar .char (fn1 (sR q2 (11 : Int32)) w1 w2 w3 G1 sf)), (nar .char (fn1 (sR q2 (22 : Int32)) w1 w2 w3 G1 sf)), (nar .char (fn1 (sR q2 (33 : Int32)) w1 w2 w3 G1 sf))]) w1 w2 w3 G1 sf = fj0_1 p0 q1 q2 w1 w2 w3 G1 sf := by
  unfold fn70 fj0_1
  exact te (rg0 p0) (gdx p0 q1 q2 w1 w2 w3 G1 sf).1 (gdx p0 q1 q2 w1 w2 w3 G1 sf).2
theorem q1e (p0 : Int32) (q1 q2 : Int64) (w1 w2 w3 : Addr) (G1 : Int32) (sf : Value) : fn71 (aT p0) (uT p0) (stk (uT p0) [(nar .char (fn1 q1 w1 w2 w3 G1 sf)), (nar .char (fn1 (sR q1 (11 : Int32)) w1 w2 w3 G1 sf)), (nar .char (fn1 (sR q1 (22 : Int32)) w1 w2 w3 G1 sf))]) (cT p0) (stk (cT p0) [(nar .char (fn1 q2 w1 w2 w3 G1 sf)), (nar .char (fn1 (sR q2 (11 : Int32)) w1 w2 w3 G1 sf)), (nar .char (fn1 (sR q2 (22 : Int32)) w1 w2 w3 G1 sf)), (nar .char (fn1 (sR q2 (33 : Int32)) w1 w2 w3 G1 sf))]) w1 w2 w3 G1 sf = fj0_4 p0 q1 q2 w1 w2 w3 G1 sf := by
  unfold fn71 fj0_4
  rw [hd8 p0 q1 q2 w1 w2 w3 G1 sf]
  by_cases hl : fj0_0 p0 q1 w1 w2 w3 G1 sf < (0 : Int32)
  · have e3 : fj0_3 p0 q1 w1 w2 w3 G1 sf = uT p0 := by unfold fj0_3; rw [if_pos hl]
    rw [if_pos hl, e3]
    exact te (rg0 p0) (gdx p0 q1 q2 w1 w2 w3 G1 sf).1 (gdx p0 q1 q2 w1 w2 w3 G1 sf).2
  · have e3 : fj0_3 p0 q1 w1 w2 w3 G1 sf = fj0_0 p0 q1 w1 w2 w3 G1 sf := by unfold fj0_3; rw [if_neg hl]
    rw [if_neg hl, e3]
    exact te (Rg.e (rg0 p0) (fun _ => dl) hl) (gdx p0 q1 q2 w1 w2 w3 G1 sf).1 (gdx p0 q1 q2 w1 w2 w3 G1 sf).2
theorem q2e (p0 : Int32) (q1 q2 : Int64) (w1 w2 w3 : Addr) (G1 : Int32) (sf : Value) (hl : ¬ fj0_0 p0 q1 w1 w2 w3 G1 sf < (0 : Int32)) : fn72 (aT p0) (uT p0) (stk (uT p0) [(nar .char (fn1 q1 w1 w2 w3 G1 sf)), (nar .char (fn1 (sR q1 (11 : Int32)) w1 w2 w3 G1 sf)), (nar .char (fn1 (sR q1 (22 : Int32)) w1 w2 w3 G1 sf))]) (cT p0) (stk (cT p0) [(nar .char (fn1 q2 w1 w2 w3 G1 sf)), (nar .char (fn1 (sR q2 (11 : Int32)) w1 w2 w3 G1 sf)), (nar .char (fn1 (sR q2 (22 : Int32)) w1 w2 w3 G1 sf)), (nar .char (fn1 (sR q2 (33 : Int32)) w1 w2 w3 G1 sf))]) w1 w2 w3 G1 sf = fj0_8 p0 q1 q2 w1 w2 w3 G1 sf := by
  unfold fn72 fj0_8
  rw [hd8 p0 q1 q2 w1 w2 w3 G1 sf, if_neg hl]
  exact te (Rg.b (rg0 p0) (fun _ => dl) hl) (gdx p0 q1 q2 w1 w2 w3 G1 sf).1 (gdx p0 q1 q2 w1 w2 w3 G1 sf).2
theorem q3e (p0 : Int32) (q1 q2 : Int64) (w1 w2 w3 : Addr) (G1 : Int32) (sf : Value) (hl : fj0_0 p0 q1 w1 w2 w3 G1 sf < (0 : Int32)) : fn72 (aT p0) (uT p0) (stk (uT p0) [(nar .char (fn1 q1 w1 w2 w3 G1 sf)), (nar .char (fn1 (sR q1 (11 : Int32)) w1 w2 w3 G1 sf)), (nar .char (fn1 (sR q1 (22 : Int32)) w1 w2 w3 G1 sf))]) (cT p0) (stk (cT p0) [(nar .char (fn1 q2 w1 w2 w3 G1 sf)), (nar .char (fn1 (sR q2 (11 : Int32)) w1 w2 w3 G1 sf)), (nar .char (fn1 (sR q2 (22 : Int32)) w1 w2 w3 G1 sf)), (nar .char (fn1 (sR q2 (33 : Int32)) w1 w2 w3 G1 sf))]) w1 w2 w3 G1 sf = (-1 : Int32) := by
  unfold fn72
  rw [hd8 p0 q1 q2 w1 w2 w3 G1 sf, if_pos hl]
theorem plain (p0 : Int32) (q1 q2 : Int64) (w1 w2 w3 : Addr) (G1 : Int32) (sf : Value) : fn0 p0 q1 q2 w1 w2 w3 G1 sf = 1 := by
  have b1 : nar .boolean (1 : Int32) = 1 := by decide
  unfold fn0
  by_cases k0 : kT p0 = (0 : Int32)
  · rw [if_pos k0]; unfold fj0_2; rw [if_pos (q0e p0 q1 q2 w1 w2 w3 G1 sf)]; exact b1
  · rw [if_neg k0]
    by_cases k1 : kT p0 = (1 : Int32)
    · rw [if_pos k1]; unfold fj0_5; rw [if_pos (q1e p0 q1 q2 w1 w2 w3 G1 sf)]; exact b1
    · rw [if_neg k1]
      by_cases hl : fj0_0 p0 q1 w1 w2 w3 G1 sf < (0 : Int32)
      · rw [if_pos hl]; unfold fj0_7; rw [if_pos (q3e p0 q1 q2 w1 w2 w3 G1 sf hl)]; exact b1
      · rw [if_neg hl]; unfold fj0_9; rw [if_pos (q2e p0 q1 q2 w1 w2 w3 G1 sf hl)]; exact b1
theorem comes_1 {Post : Tables → Env → Array Value → State → Outcome → State → Prop} (hpost : ∀ tb e args s v u, (limb_1_1.after args s (.returned v) u = true ∧ limb_1_2.after args s (.returned v) u = true ∧ True) → FramedW s (.returned v) u (Jvm.fieldLocs frame_1_writes args s ++ Jvm.arrayLocs frame_1_arrays args s ++ Jvm.staticLocs frame_1_statics s) 32 1152 → Post tb e args s (.returned v) u) :
    ArmFor flags0 classFile x code maxLocals ret World_1 tables_1 room_1 Calls_1 rest_1 Pre_1 Post := by
  intro l hfl _ _ p e ha hc hk s m args below hf hA hF happ hP
  obtain ⟨hcalls, hrest, hpre⟩ := hP
  obtain ⟨-, -, -, hnamed, -, -, -, hat⟩ := (Spec.applies_iff hf).mp happ
  obtain ⟨hg, hn⟩ := and_e (Cond.before_iff.mp (show (Jvm.Cond.and given_1 narrow_1).before args s = true from hpre))
  obtain ⟨ga1, gb1⟩ := and_e hg
  obtain ⟨ga2, gb2⟩ := and_e gb1
  obtain ⟨ga3, gb3⟩ := and_e gb2
  obtain ⟨w0, w1, w2, rfl⟩ : ∃ w0 w1 w2 : Value, args = #[w0, w1, w2] := by
    have hs : args.size = 3 := by simpa [Cond.value, given_1] using ga1
    obtain ⟨L⟩ := args
    match L, hs with
    | [w0, w1, w2], _ => exact ⟨w0, w1, w2, rfl⟩
  have hw := fun d (hd : d ∈ tables_1) => atoms_spec (ws := Jvm.Cond.code x code maxLocals ret :: tables_1) hat d (List.mem_cons_of_mem _ hd)
  have hfit : Fit s := fun {y c} hc i hi => by
    obtain ⟨ha, rfl⟩ := Array.getElem?_eq_some_iff.mp hc
    have q := List.all_eq_true.mp ((Array.all_eq_true_iff_forall_mem.mp hF) _ (Array.getElem_mem ha)) i (List.mem_range.mpr hi)
    simpa [Array.getElem?_eq_getElem hi] using q
  obtain ⟨i0, ei0⟩ := is_v ga2
  obtain rfl : w0 = (.int i0) := Option.some.inj ei0
  obtain ⟨i1, ei1⟩ := isL_v ga3
  obtain rfl : w1 = (.long i1) := Option.some.inj ei1
  obtain ⟨i2, ei2⟩ := isL_v gb3
  obtain rfl : w2 = (.long i2) := Option.some.inj ei2
  obtain ⟨y1, z1⟩ := and_e hn
  obtain ⟨y2, z2⟩ := and_e z1
  obtain ⟨y3, z3⟩ := and_e z2
  obtain ⟨y4, z4⟩ := and_e z3
  obtain ⟨y5, z5⟩ := and_e z4
  obtain ⟨w1, ev_w_USER_DOMAIN⟩ := exa_v y1
  have S_w_USER_DOMAIN := Sta.start ev_w_USER_DOMAIN (Or.inr ⟨(hW hw 32 rfl), (hW hw 33 rfl)⟩)
  have E_w_USER_DOMAIN := Exa.start ev_w_USER_DOMAIN y1
  obtain ⟨w2, ev_w_USER⟩ := exa_v y3
  have S_w_USER := Sta.start ev_w_USER (Or.inr ⟨(hW hw 32 rfl), (hW hw 96 rfl)⟩)
  have E_w_USER := Exa.start ev_w_USER y3
  obtain ⟨w3, ev_w_DOMAIN⟩ := exa_v y5
  have S_w_DOMAIN := Sta.start ev_w_DOMAIN (Or.inr ⟨(hW hw 32 rfl), (hW hw 111 rfl)⟩)
  have E_w_DOMAIN := Exa.start ev_w_DOMAIN y5
  obtain ⟨hsets, hown0⟩ := atoms_of _ (rest_1_c_eq ▸ (show rest_1_c.before _ s = true from hrest))
  obtain ⟨G1, ev_G1⟩ := is_v (Cond.before_iff.mp (hsets _ (List.mem_of_getElem? (i := 1) rfl)))
  have S_G1 := Sta.start ev_G1 (Or.inl (hsets _ (List.mem_of_getElem? (i := 0) rfl)))
  have n_G1 : ¬ G1 = (0 : Int32) := fun q => by
    have u := not_v (Cond.before_iff.mp (hsets _ (List.mem_of_getElem? (i := 2) rfl)))
    rw [eq_i ev_G1 (Term.int_eval 0) (by rw [q])] at u
    cases u
  obtain ⟨sf, ev_sf, r_sf⟩ := isR_v (Cond.before_iff.mp (hsets _ (List.mem_of_getElem? (i := 8) rfl)))
  have S_sf := Sta.start ev_sf (Or.inl (hsets _ (List.mem_of_getElem? (i := 7) rfl)))
  have hCH0 : CHv s EL0 s.vm s.heap := CHv.start (hEL0 hw) hcalls.1 ((hsets _ (List.mem_of_getElem? (i := 2) rfl)) : Jvm.Lit.compactW.before _ s = true) (hW hw 24 rfl) (hW hw 11 rfl)
  have F_ordinal_w_USER_DOMAIN := Fld.start ((fld_at ev_w_USER_DOMAIN).symm.trans (eqI_v y2))
  have F_ordinal_w_USER := Fld.start ((fld_at ev_w_USER).symm.trans (eqI_v y4))
  have F_ordinal_w_DOMAIN := Fld.start ((fld_at ev_w_DOMAIN).symm.trans (eqI_v z5))
  have n_USER_DOMAIN_USER : w1 ≠ w2 := Fld.ne F_ordinal_w_USER_DOMAIN F_ordinal_w_USER (fun q => absurd (Value.int.inj q) (by decide))
  have n_USER_DOMAIN_DOMAIN : w1 ≠ w3 := Fld.ne F_ordinal_w_USER_DOMAIN F_ordinal_w_DOMAIN (fun q => absurd (Value.int.inj q) (by decide))
  have n_USER_USER_DOMAIN : w2 ≠ w1 := Fld.ne F_ordinal_w_USER F_ordinal_w_USER_DOMAIN (fun q => absurd (Value.int.inj q) (by decide))
  have n_USER_DOMAIN : w2 ≠ w3 := Fld.ne F_ordinal_w_USER F_ordinal_w_DOMAIN (fun q => absurd (Value.int.inj q) (by decide))
  have n_DOMAIN_USER_DOMAIN : w3 ≠ w1 := Fld.ne F_ordinal_w_DOMAIN F_ordinal_w_USER_DOMAIN (fun q => absurd (Value.int.inj q) (by decide))
  have n_DOMAIN_USER : w3 ≠ w2 := Fld.ne F_ordinal_w_DOMAIN F_ordinal_w_USER (fun q => absurd (Value.int.inj q) (by decide))
  have W : Wd s w1 w2 w3 G1 sf := ⟨S_w_USER_DOMAIN, E_w_USER_DOMAIN, S_w_USER, E_w_USER, S_w_DOMAIN, E_w_DOMAIN, F_ordinal_w_USER_DOMAIN, F_ordinal_w_USER, F_ordinal_w_DOMAIN, S_G1, n_G1, S_sf, (ref_cases r_sf)⟩
  have hpl : fn0 i0 i1 i2 w1 w2 w3 G1 sf = 1 := plain i0 i1 i2 w1 w2 w3 G1 sf
  obtain ⟨n, o, h1, h2, h3, v, L, rfl, ⟨hv, N⟩, hq⟩ := rm0 l s _ hw tables_1 i0 i1 i2 w1 w2 w3 G1 sf s.heap s.heap.size (Old.start s) W p e ha hc hk s m _ below hf ((Spec.applies_iff_loose hf).mp happ).1 ⟨rfl, State.Warmed39.refl s, rfl, hCH0, fun _ hq => nomatch hq⟩ trivial
  rw [hpl] at hv
  subst hv
  refine ⟨n, _, h1, h2, h3, hpost _ _ _ _ _ _ ⟨Cond.after_iff.mpr rfl, Cond.after_iff.mpr (eq_i res_at (Term.int_eval (1)) rfl), trivial⟩ ⟨hq.1, hq.2.1, hq.2.2.1, (hq.2.2.2.sift fun y hy => Or.inr (N y hy)).mono (by decide) (by decide)⟩⟩
theorem main_1_1 : Claimed_1_1 := comes_1 fun _ _ _ _ _ _ h hF => ⟨h.1, hF⟩
theorem main_1_2 : Claimed_1_2 := comes_1 fun _ _ _ _ _ _ h hF => ⟨h.2.1, hF⟩
end Jvm.Pilot.@@N@@
/-! WITNESS -/
namespace Jvm.Pilot.@@N@@
open Jvm Jvm.ClassFile Sem Op Lib Jvm.Free Jvm.Stand Jvm.Pilot.@@N@@.Jvm.D
/-! MADE BY PROGRAM (witnessworld.py) out of the Statement's table words and the real class files: 22 classes; the members and pool entries that the words name. The judged class is class 1, her method 5. -/
namespace start1
open Jvm.ClassFile
def u (s : String) : CpInfo := .utf8 (stringToUtf16 s)
/-- a pool by its gaps: so many unusable entries, then the entry; so many at the end -/
def gap : Nat → List CpInfo → List CpInfo
  | 0, r => r
  | n + 1, r => .unusable :: gap n r
def poolList (es : List (Nat × CpInfo)) (last : Nat) : List CpInfo := es.foldr (fun e r => gap e.1 (e.2 :: r)) (gap last [])
def pool (es : List (Nat × CpInfo)) (last : Nat) : Array CpInfo := ⟨poolList es last⟩
def fileOf (pool : Array CpInfo) (this : Nat) (attrs : Array Attribute := #[]) (ms : Array MethodInfo := #[]) (fl : Nat := 33) (sup : Nat := 0) (ifs : Array Nat := #[]) (fds : Array FieldInfo := #[]) : ClassFile where
  minorVersion := 0
  majorVersion := 65
  constantPool := pool
  accessFlags := fl
  thisClass := this
  superClass := sup
  interfaces := ifs
  fields := fds
  methods := ms
  attributes := attrs
def plain (name : String) (sup : Option ClassId) : Class where
  name := name
  kind := .ordinary
  loader := none
  accessFlags := 33
  super := sup
  interfaces := #[]
  cf := none
  fields := #[]
  methods := #[]
  instanceTypes := #[]
  staticTypes := #[]
  resolved := #[]
  callSites := []
  init := .initialized
  statics := none
  mirror := none

def pool0 : Array CpInfo := pool [(5, u "<init>"), (0, u "()V"), (1, .class_ 10), (1, u "java/lang/Object")] 113

def k0c0 : Code := { maxStack := 0, maxLocals := 1, code := object_method_1_code, exceptionTable := #[], attributes := #[] }
def k0m0 : Method := { name := "<init>", desc := "()V", sig := { parameters := [], returnType := none }, accessFlags := 1, code := some k0c0 }
/-- java/lang/Object -/
def k0 : Class := { plain "java/lang/Object" none with
  accessFlags := 33
  interfaces := #[]
  cf := some (fileOf pool0 8 #[] #[{ accessFlags := 1, nameIndex := 5, descriptorIndex := 6, attributes := #[] }] 33 0 #[] #[])
  fields := #[]
  methods := #[k0m0]
  instanceTypes := #[]
  staticTypes := #[]
  resolved := Array.replicate 124 none
  statics := none }

def pool1 : Array CpInfo := pool [(2, .class_ 4), (1, u "java/lang/Object"), (0, u "<init>"), (0, u "()V"), (0, .long 7), (1, .long 255), (1, .class_ 12), (0, u "java/lang/String"), (0, .methodref 11 14), (0, .nameAndType 5 15), (0, u "([C)V"), (0, .methodref 17 18), (0, .class_ 19), (0, .nameAndType 20 21), (0, u "com/example/gatewarden/gatewarden/core/UserKeywordEndInPinLaw"), (0, u "tr"), (0, u "(C)C"), (0, .methodref 17 23), (0, .nameAndType 24 25), (0, u "draw"), (0, u "(J)C"), (0, .methodref 17 27), (0, .nameAndType 28 29), (0, u "str"), (0, u "([CI)Ljava/lang/String;"), (0, .fieldref 31 32), (0, .class_ 33), (0, .nameAndType 34 35), (0, u "com/example/gatewarden/gatewarden/core/UserKeyword"), (0, u "USER_DOMAIN"), (0, u "Lcom/example/gatewarden/gatewarden/core/UserKeyword;"), (0, .fieldref 31 37), (0, .nameAndType 38 35), (0, u "USER"), (0, .fieldref 31 40), (0, .nameAndType 41 35), (0, u "DOMAIN"), (0, .methodref 17 43), (0, .nameAndType 44 45), (0, u "m"), (0, u "([CI[CIII)Z"), (0, .methodref 31 47), (0, .nameAndType 48 49), (0, u "endIn"), (0, u "(Ljava/lang/String;Ljava/lang/String;I)I"), (3, u "law"), (0, u "(IJJ)Z")] 4

def k1m0 : Method := { name := "<init>", desc := "()V", sig := { parameters := [], returnType := none }, accessFlags := 1, code := none }
def k1c1 : Code := { maxStack := 4, maxLocals := 3, code := method_2_code, exceptionTable := #[], attributes := #[] }
def k1m1 : Method := { name := "draw", desc := "(J)C", sig := { parameters := [.long], returnType := some .char }, accessFlags := 10, code := some k1c1 }
def k1c2 : Code := { maxStack := 7, maxLocals := 2, code := method_3_code, exceptionTable := #[], attributes := #[] }
def k1m2 : Method := { name := "str", desc := "([CI)Ljava/lang/String;", sig := { parameters := [(.array .char), .int], returnType := some (.object "java/lang/String") }, accessFlags := 10, code := some k1c2 }
def k1c3 : Code := { maxStack := 2, maxLocals := 1, code := method_4_code, exceptionTable := #[], attributes := #[] }
def k1m3 : Method := { name := "tr", desc := "(C)C", sig := { parameters := [.char], returnType := some .char }, accessFlags := 10, code := some k1c3 }
def k1c4 : Code := { maxStack := 4, maxLocals := 6, code := method_5_code, exceptionTable := #[], attributes := #[] }
def k1m4 : Method := { name := "m", desc := "([CI[CIII)Z", sig := { parameters := [(.array .char), .int, (.array .char), .int, .int, .int], returnType := some .boolean }, accessFlags := 10, code := some k1c4 }
def k1c5 : Code := { maxStack := 6, maxLocals := 19, code := code, exceptionTable := #[], attributes := #[] }
def k1m5 : Method := { name := "law", desc := "(IJJ)Z", sig := { parameters := [.int, .long, .long], returnType := some .boolean }, accessFlags := 9, code := some k1c5 }
/-- com/example/gatewarden/gatewarden/core/UserKeywordEndInPinLaw -/
def k1 : Class := { plain "com/example/gatewarden/gatewarden/core/UserKeywordEndInPinLaw" (some 0) with
  accessFlags := 49
  interfaces := #[]
  cf := some (fileOf pool1 17 #[] #[{ accessFlags := 1, nameIndex := 5, descriptorIndex := 6, attributes := #[] }, { accessFlags := 10, nameIndex := 24, descriptorIndex := 25, attributes := #[] }, { accessFlags := 10, nameIndex := 28, descriptorIndex := 29, attributes := #[] }, { accessFlags := 10, nameIndex := 20, descriptorIndex := 21, attributes := #[] }, { accessFlags := 10, nameIndex := 44, descriptorIndex := 45, attributes := #[] }, { accessFlags := 9, nameIndex := 53, descriptorIndex := 54, attributes := #[] }] 49 2 #[] #[])
  fields := #[]
  methods := #[k1m0, k1m1, k1m2, k1m3, k1m4, k1m5]
  instanceTypes := #[]
  staticTypes := #[]
  resolved := Array.replicate 59 none
  statics := none }

def pool2 : Array CpInfo := pool [(1, .class_ 2), (0, u "java/io/Serializable"), (0, .class_ 4), (0, u "java/lang/Object")] 2

/-- java/io/Serializable -/
def k2 : Class := { plain "java/io/Serializable" (some 0) with
  accessFlags := 1537
  interfaces := #[]
  cf := some (fileOf pool2 1 #[] #[] 1537 3 #[] #[])
  fields := #[]
  methods := #[]
  instanceTypes := #[]
  staticTypes := #[]
  resolved := Array.replicate 7 none
  statics := none }

def pool3 : Array CpInfo := pool [(1, .class_ 2), (0, u "java/lang/Comparable"), (0, .class_ 4), (0, u "java/lang/Object")] 7

/-- java/lang/Comparable -/
def k3 : Class := { plain "java/lang/Comparable" (some 0) with
  accessFlags := 1537
  interfaces := #[]
  cf := some (fileOf pool3 1 #[] #[] 1537 3 #[] #[])
  fields := #[]
  methods := #[]
  instanceTypes := #[]
  staticTypes := #[]
  resolved := Array.replicate 12 none
  statics := none }

def pool4 : Array CpInfo := pool [(2, .class_ 4), (1, u "java/lang/CharSequence"), (42, .class_ 48), (0, u "java/lang/CharSequence$1CodePointIterator"), (10, .class_ 60), (0, u "java/lang/CharSequence$1CharIterator"), (5, .class_ 67), (0, u "java/lang/Object")] 63

/-- java/lang/CharSequence -/
def k4 : Class := { plain "java/lang/CharSequence" (some 0) with
  accessFlags := 1537
  interfaces := #[]
  cf := some (fileOf pool4 2 #[.nestMembers #[47, 59]] #[] 1537 66 #[] #[])
  fields := #[]
  methods := #[]
  instanceTypes := #[]
  staticTypes := #[]
  resolved := Array.replicate 131 none
  statics := none }

def pool5 : Array CpInfo := pool [(1, .class_ 2), (0, u "java/lang/constant/Constable"), (0, .class_ 4), (0, u "java/lang/Object")] 6

/-- java/lang/constant/Constable -/
def k5 : Class := { plain "java/lang/constant/Constable" (some 0) with
  accessFlags := 1537
  interfaces := #[]
  cf := some (fileOf pool5 1 #[] #[] 1537 3 #[] #[])
  fields := #[]
  methods := #[]
  instanceTypes := #[]
  staticTypes := #[]
  resolved := Array.replicate 11 none
  statics := none }

def pool6 : Array CpInfo := pool [(1, .class_ 2), (0, u "java/lang/constant/ConstantDesc"), (0, .class_ 4), (0, u "java/lang/Object")] 32

/-- java/lang/constant/ConstantDesc -/
def k6 : Class := { plain "java/lang/constant/ConstantDesc" (some 0) with
  accessFlags := 1537
  interfaces := #[]
  cf := some (fileOf pool6 1 #[] #[] 1537 3 #[] #[])
  fields := #[]
  methods := #[]
  instanceTypes := #[]
  staticTypes := #[]
  resolved := Array.replicate 37 none
  statics := none }

def pool7 : Array CpInfo := pool [(1, .methodref 2 3), (0, .class_ 4), (0, .nameAndType 5 6), (0, u "java/lang/Object"), (0, u "<init>"), (0, u "()V"), (0, .string 8), (0, u ""), (0, .fieldref 10 11), (0, .class_ 12), (0, .nameAndType 13 14), (0, u "java/lang/String"), (0, u "value"), (0, u "[B"), (0, .fieldref 10 16), (0, .nameAndType 17 18), (0, u "coder"), (0, u "B"), (2, u "hash"), (0, u "I"), (2, u "hashIsZero"), (0, u "Z"), (0, .methodref 10 28), (0, .nameAndType 5 29), (0, u "([CIILjava/lang/Void;)V"), (8, .fieldref 10 39), (0, .nameAndType 40 26), (0, u "COMPACT_STRINGS"), (1, .class_ 44), (1, u "java/lang/StringUTF16"), (0, u "compress"), (1, .methodref 42 48), (0, .nameAndType 49 50), (0, u "coderFromArrayLen"), (0, u "([BI)B"), (56, .class_ 109), (1, u "java/lang/StringLatin1"), (32, u "()Z"), (34, .methodref 42 178), (0, .nameAndType 45 179), (0, u "([CII)[B"), (154, u "()I"), (0, .methodref 10 336), (0, .nameAndType 17 337), (0, u "()B"), (25, u "([BI)C"), (27, u "(II)V"), (35, u "(I)C"), (64, .methodref 10 493), (0, .nameAndType 494 142), (0, u "isLatin1"), (0, .methodref 107 496), (0, .nameAndType 497 363), (0, u "charAt"), (3, u "checkIndex"), (3, .methodref 10 506), (0, .nameAndType 507 334), (0, u "length"), (67, .class_ 576), (0, u "java/lang/CharSequence"), (22, u "CASE_INSENSITIVE_ORDER"), (0, u "Ljava/util/Comparator;"), (32, .methodref 10 634), (0, .nameAndType 635 636), (0, u "indexOf"), (0, u "(II)I"), (0, .methodref 107 638), (0, .nameAndType 635 639), (0, u "([BIII)I"), (125, u "(I)I"), (244, u "([C)V"), (42, .fieldref 1054 1055), (0, .class_ 1056), (0, .nameAndType 1057 1058), (0, u "jdk/internal/util/Preconditions"), (0, u "SIOOBE_FORMATTER"), (0, u "Ljava/util/function/BiFunction;"), (0, .methodref 1054 1060), (0, .nameAndType 501 1061), (0, u "(IILjava/util/function/BiFunction;)I"), (39, u "serialPersistentFields"), (0, u "[Ljava/io/ObjectStreamField;"), (0, .class_ 1104), (0, u "java/lang/String$CaseInsensitiveComparator"), (1, .class_ 1107), (0, u "java/io/Serializable"), (0, .class_ 1109), (0, u "java/lang/Comparable"), (0, .class_ 1111), (0, u "java/lang/constant/Constable"), (0, .class_ 1113), (0, u "java/lang/constant/ConstantDesc"), (2, u "serialVersionUID"), (0, u "J"), (3, u "REPL"), (0, u "C"), (2, u "LATIN1"), (1, u "UTF16")] 323

def k7m0 : Method := { name := "<init>", desc := "()V", sig := { parameters := [], returnType := none }, accessFlags := 1, code := none }
def k7c1 : Code := { maxStack := 5, maxLocals := 2, code := jdk_42_method_3_code, exceptionTable := #[], attributes := #[] }
def k7m1 : Method := { name := "<init>", desc := "([C)V", sig := { parameters := [(.array .char)], returnType := none }, accessFlags := 1, code := some k7c1 }
def k7c2 : Code := { maxStack := 2, maxLocals := 1, code := jdk_42_method_54_code, exceptionTable := #[], attributes := #[] }
def k7m2 : Method := { name := "length", desc := "()I", sig := { parameters := [], returnType := some .int }, accessFlags := 1, code := some k7c2 }
def k7c3 : Code := { maxStack := 2, maxLocals := 2, code := jdk_42_method_56_code, exceptionTable := #[], attributes := #[] }
def k7m3 : Method := { name := "charAt", desc := "(I)C", sig := { parameters := [.int], returnType := some .char }, accessFlags := 1, code := some k7c3 }
def k7c4 : Code := { maxStack := 3, maxLocals := 2, code := jdk_42_method_79_code, exceptionTable := #[], attributes := #[] }
def k7m4 : Method := { name := "indexOf", desc := "(I)I", sig := { parameters := [.int], returnType := some .int }, accessFlags := 1, code := some k7c4 }
def k7c5 : Code := { maxStack := 4, maxLocals := 3, code := jdk_42_method_80_code, exceptionTable := #[], attributes := #[] }
def k7m5 : Method := { name := "indexOf", desc := "(II)I", sig := { parameters := [.int, .int], returnType := some .int }, accessFlags := 1, code := some k7c5 }
def k7c6 : Code := { maxStack := 4, maxLocals := 6, code := jdk_42_method_149_code, exceptionTable := #[], attributes := #[] }
def k7m6 : Method := { name := "<init>", desc := "([CIILjava/lang/Void;)V", sig := { parameters := [(.array .char), .int, .int, (.object "java/lang/Void")], returnType := none }, accessFlags := 2, code := some k7c6 }
def k7c7 : Code := { maxStack := 1, maxLocals := 1, code := jdk_42_method_152_code, exceptionTable := #[], attributes := #[] }
def k7m7 : Method := { name := "coder", desc := "()B", sig := { parameters := [], returnType := some .byte }, accessFlags := 0, code := some k7c7 }
def k7c8 : Code := { maxStack := 1, maxLocals := 1, code := jdk_42_method_154_code, exceptionTable := #[], attributes := #[] }
def k7m8 : Method := { name := "isLatin1", desc := "()Z", sig := { parameters := [], returnType := some .boolean }, accessFlags := 0, code := some k7c8 }
def k7c9 : Code := { maxStack := 3, maxLocals := 2, code := jdk_42_method_155_code, exceptionTable := #[], attributes := #[] }
def k7m9 : Method := { name := "checkIndex", desc := "(II)V", sig := { parameters := [.int, .int], returnType := none }, accessFlags := 8, code := some k7c9 }
/-- java/lang/String -/
def k7 : Class := { plain "java/lang/String" (some 0) with
  accessFlags := 49
  interfaces := #[2, 3, 4, 5, 6]
  cf := some (fileOf pool7 10 #[.nestMembers #[1103]] #[{ accessFlags := 1, nameIndex := 5, descriptorIndex := 6, attributes := #[] }, { accessFlags := 1, nameIndex := 5, descriptorIndex := 1010, attributes := #[] }, { accessFlags := 1, nameIndex := 507, descriptorIndex := 334, attributes := #[] }, { accessFlags := 1, nameIndex := 497, descriptorIndex := 427, attributes := #[] }, { accessFlags := 1, nameIndex := 635, descriptorIndex := 765, attributes := #[] }, { accessFlags := 1, nameIndex := 635, descriptorIndex := 636, attributes := #[] }, { accessFlags := 2, nameIndex := 5, descriptorIndex := 29, attributes := #[] }, { accessFlags := 0, nameIndex := 17, descriptorIndex := 337, attributes := #[] }, { accessFlags := 0, nameIndex := 494, descriptorIndex := 142, attributes := #[] }, { accessFlags := 8, nameIndex := 501, descriptorIndex := 391, attributes := #[] }] 49 2 #[1106, 1108, 575, 1110, 1112] #[{ accessFlags := 18, nameIndex := 13, descriptorIndex := 14, attributes := #[] }, { accessFlags := 18, nameIndex := 17, descriptorIndex := 18, attributes := #[] }, { accessFlags := 2, nameIndex := 21, descriptorIndex := 22, attributes := #[] }, { accessFlags := 2, nameIndex := 25, descriptorIndex := 26, attributes := #[] }, { accessFlags := 26, nameIndex := 1116, descriptorIndex := 1117, attributes := #[] }, { accessFlags := 24, nameIndex := 40, descriptorIndex := 26, attributes := #[] }, { accessFlags := 26, nameIndex := 1101, descriptorIndex := 1102, attributes := #[] }, { accessFlags := 26, nameIndex := 1121, descriptorIndex := 1122, attributes := #[] }, { accessFlags := 25, nameIndex := 599, descriptorIndex := 600, attributes := #[] }, { accessFlags := 24, nameIndex := 1125, descriptorIndex := 18, attributes := #[] }, { accessFlags := 24, nameIndex := 1127, descriptorIndex := 18, attributes := #[] }])
  fields := #[{ name := "value", type := (.array .byte), accessFlags := 18, slot := 0, constantValue := 0 }, { name := "coder", type := .byte, accessFlags := 18, slot := 1, constantValue := 0 }, { name := "hash", type := .int, accessFlags := 2, slot := 2, constantValue := 0 }, { name := "hashIsZero", type := .boolean, accessFlags := 2, slot := 3, constantValue := 0 }, { name := "serialVersionUID", type := .long, accessFlags := 26, slot := 0, constantValue := 0 }, { name := "COMPACT_STRINGS", type := .boolean, accessFlags := 24, slot := 1, constantValue := 0 }, { name := "serialPersistentFields", type := (.array (.object "java/io/ObjectStreamField")), accessFlags := 26, slot := 2, constantValue := 0 }, { name := "REPL", type := .char, accessFlags := 26, slot := 3, constantValue := 0 }, { name := "CASE_INSENSITIVE_ORDER", type := (.object "java/util/Comparator"), accessFlags := 25, slot := 4, constantValue := 0 }, { name := "LATIN1", type := .byte, accessFlags := 24, slot := 5, constantValue := 0 }, { name := "UTF16", type := .byte, accessFlags := 24, slot := 6, constantValue := 0 }]
  methods := #[k7m0, k7m1, k7m2, k7m3, k7m4, k7m5, k7m6, k7m7, k7m8, k7m9]
  instanceTypes := #[(.array .byte), .byte, .int, .boolean]
  staticTypes := #[.long, .boolean, (.array (.object "java/io/ObjectStreamField")), .char, (.object "java/util/Comparator"), .byte, .byte]
  resolved := Array.replicate 1451 none
  statics := some 0 }

def pool8 : Array CpInfo := pool [(2, .class_ 4), (1, u "java/lang/Enum"), (0, u "name"), (0, u "Ljava/lang/String;"), (0, .fieldref 2 8), (0, .nameAndType 9 10), (0, u "ordinal"), (0, u "I"), (1, .class_ 14), (1, u "java/lang/Object"), (4, u "hash"), (86, .class_ 108), (1, u "java/lang/Enum$EnumDesc"), (2, .class_ 112), (0, u "java/lang/constant/Constable"), (0, .class_ 114), (0, u "java/lang/Comparable"), (0, .class_ 116), (0, u "java/io/Serializable"), (9, u "()I")] 77

def k8c0 : Code := { maxStack := 1, maxLocals := 1, code := jdk_37_method_2_code, exceptionTable := #[], attributes := #[] }
def k8m0 : Method := { name := "ordinal", desc := "()I", sig := { parameters := [], returnType := some .int }, accessFlags := 17, code := some k8c0 }
/-- java/lang/Enum -/
def k8 : Class := { plain "java/lang/Enum" (some 0) with
  accessFlags := 1057
  interfaces := #[5, 3, 2]
  cf := some (fileOf pool8 2 #[.nestMembers #[106]] #[{ accessFlags := 17, nameIndex := 9, descriptorIndex := 126, attributes := #[] }] 1057 12 #[111, 113, 115] #[{ accessFlags := 18, nameIndex := 5, descriptorIndex := 6, attributes := #[] }, { accessFlags := 18, nameIndex := 9, descriptorIndex := 10, attributes := #[] }, { accessFlags := 2, nameIndex := 19, descriptorIndex := 10, attributes := #[] }])
  fields := #[{ name := "name", type := (.object "java/lang/String"), accessFlags := 18, slot := 0, constantValue := 0 }, { name := "ordinal", type := .int, accessFlags := 18, slot := 1, constantValue := 0 }, { name := "hash", type := .int, accessFlags := 2, slot := 2, constantValue := 0 }]
  methods := #[k8m0]
  instanceTypes := #[(.object "java/lang/String"), .int, .int]
  staticTypes := #[]
  resolved := Array.replicate 204 none
  statics := none }

def pool9 : Array CpInfo := pool [(1, .class_ 2), (0, u "com/example/gatewarden/gatewarden/core/UserKeyword"), (2, u "USER_DOMAIN"), (0, u "Lcom/example/gatewarden/gatewarden/core/UserKeyword;"), (2, u "USER"), (2, u "DOMAIN"), (2, u "$VALUES"), (0, u "[Lcom/example/gatewarden/gatewarden/core/UserKeyword;"), (6, .class_ 25), (1, u "java/lang/Enum"), (8, u "written"), (0, u "Ljava/lang/String;"), (5, .class_ 43), (1, u "java/lang/String"), (2, .methodref 41 47), (0, .nameAndType 48 49), (0, u "indexOf"), (0, u "(I)I"), (0, .methodref 1 51), (0, .nameAndType 52 53), (0, u "ordinal"), (0, u "()I"), (5, .methodref 41 60), (0, .nameAndType 61 53), (0, u "length"), (0, .methodref 1 63), (0, .nameAndType 64 65), (0, u "translatedEndIn"), (0, u "(Ljava/lang/String;IILjava/lang/String;I)I"), (0, .methodref 41 67), (0, .nameAndType 68 69), (0, u "charAt"), (0, u "(I)C"), (25, u "endIn"), (0, u "(Ljava/lang/String;Ljava/lang/String;I)I")] 5

def k9c0 : Code := { maxStack := 5, maxLocals := 5, code := prog_45_method_6_code, exceptionTable := #[], attributes := #[] }
def k9m0 : Method := { name := "endIn", desc := "(Ljava/lang/String;Ljava/lang/String;I)I", sig := { parameters := [(.object "java/lang/String"), (.object "java/lang/String"), .int], returnType := some .int }, accessFlags := 0, code := some k9c0 }
def k9c1 : Code := { maxStack := 3, maxLocals := 8, code := prog_45_method_7_code, exceptionTable := #[], attributes := #[] }
def k9m1 : Method := { name := "translatedEndIn", desc := "(Ljava/lang/String;IILjava/lang/String;I)I", sig := { parameters := [(.object "java/lang/String"), .int, .int, (.object "java/lang/String"), .int], returnType := some .int }, accessFlags := 10, code := some k9c1 }
/-- com/example/gatewarden/gatewarden/core/UserKeyword -/
def k9 : Class := { plain "com/example/gatewarden/gatewarden/core/UserKeyword" (some 8) with
  accessFlags := 16433
  interfaces := #[]
  cf := some (fileOf pool9 1 #[] #[{ accessFlags := 0, nameIndex := 95, descriptorIndex := 96, attributes := #[] }, { accessFlags := 10, nameIndex := 64, descriptorIndex := 65, attributes := #[] }] 16433 23 #[] #[{ accessFlags := 16409, nameIndex := 5, descriptorIndex := 6, attributes := #[] }, { accessFlags := 16409, nameIndex := 9, descriptorIndex := 6, attributes := #[] }, { accessFlags := 16409, nameIndex := 12, descriptorIndex := 6, attributes := #[] }, { accessFlags := 18, nameIndex := 34, descriptorIndex := 35, attributes := #[] }, { accessFlags := 4122, nameIndex := 15, descriptorIndex := 16, attributes := #[] }])
  fields := #[{ name := "USER_DOMAIN", type := (.object "com/example/gatewarden/gatewarden/core/UserKeyword"), accessFlags := 16409, slot := 0, constantValue := 0 }, { name := "USER", type := (.object "com/example/gatewarden/gatewarden/core/UserKeyword"), accessFlags := 16409, slot := 1, constantValue := 0 }, { name := "DOMAIN", type := (.object "com/example/gatewarden/gatewarden/core/UserKeyword"), accessFlags := 16409, slot := 2, constantValue := 0 }, { name := "written", type := (.object "java/lang/String"), accessFlags := 18, slot := 3, constantValue := 0 }, { name := "$VALUES", type := (.array (.object "com/example/gatewarden/gatewarden/core/UserKeyword")), accessFlags := 4122, slot := 3, constantValue := 0 }]
  methods := #[k9m0, k9m1]
  instanceTypes := #[(.object "java/lang/String"), .int, .int, (.object "java/lang/String")]
  staticTypes := #[(.object "com/example/gatewarden/gatewarden/core/UserKeyword"), (.object "com/example/gatewarden/gatewarden/core/UserKeyword"), (.object "com/example/gatewarden/gatewarden/core/UserKeyword"), (.array (.object "com/example/gatewarden/gatewarden/core/UserKeyword"))]
  resolved := Array.replicate 102 none
  statics := some 1 }

def pool10 : Array CpInfo := pool [(1, .class_ 2), (0, u "java/lang/String"), (1, .class_ 6), (1, u "java/lang/Object"), (0, u "<init>"), (0, u "()V"), (0, .methodref 1 10), (0, .nameAndType 11 12), (0, u "checkIndex"), (0, u "(II)V"), (1, .class_ 16), (1, u "java/lang/StringLatin1"), (21, .methodref 39 40), (0, .class_ 41), (0, .nameAndType 42 43), (0, u "java/lang/Math"), (0, u "min"), (0, u "(II)I"), (9, u "([BI)C"), (34, .methodref 14 89), (0, .nameAndType 90 91), (0, u "canEncode"), (0, u "(I)Z"), (0, .methodref 39 93), (0, .nameAndType 94 43), (0, u "max"), (0, .methodref 14 96), (0, .nameAndType 97 98), (0, u "indexOfChar"), (0, u "([BIII)I"), (2, u "indexOf"), (19, u "$assertionsDisabled"), (0, u "Z"), (98, .class_ 223), (1, u "java/lang/StringLatin1$LinesSpliterator"), (28, u "charAt"), (137, .class_ 391), (0, u "java/lang/StringLatin1$CharsSpliterator")] 3

def k10m0 : Method := { name := "<init>", desc := "()V", sig := { parameters := [], returnType := none }, accessFlags := 0, code := none }
def k10c1 : Code := { maxStack := 2, maxLocals := 2, code := jdk_43_method_2_code, exceptionTable := #[], attributes := #[] }
def k10m1 : Method := { name := "charAt", desc := "([BI)C", sig := { parameters := [(.array .byte), .int], returnType := some .char }, accessFlags := 9, code := some k10c1 }
def k10c2 : Code := { maxStack := 2, maxLocals := 1, code := jdk_43_method_4_code, exceptionTable := #[], attributes := #[] }
def k10m2 : Method := { name := "canEncode", desc := "(I)Z", sig := { parameters := [.int], returnType := some .boolean }, accessFlags := 9, code := some k10c2 }
def k10c3 : Code := { maxStack := 4, maxLocals := 4, code := jdk_43_method_22_code, exceptionTable := #[], attributes := #[] }
def k10m3 : Method := { name := "indexOf", desc := "([BIII)I", sig := { parameters := [(.array .byte), .int, .int, .int], returnType := some .int }, accessFlags := 9, code := some k10c3 }
def k10c4 : Code := { maxStack := 2, maxLocals := 6, code := jdk_43_method_23_code, exceptionTable := #[], attributes := #[] }
def k10m4 : Method := { name := "indexOfChar", desc := "([BIII)I", sig := { parameters := [(.array .byte), .int, .int, .int], returnType := some .int }, accessFlags := 10, code := some k10c4 }
/-- java/lang/StringLatin1 -/
def k10 : Class := { plain "java/lang/StringLatin1" (some 0) with
  accessFlags := 48
  interfaces := #[]
  cf := some (fileOf pool10 14 #[.nestMembers #[390, 221]] #[{ accessFlags := 0, nameIndex := 7, descriptorIndex := 8, attributes := #[] }, { accessFlags := 9, nameIndex := 252, descriptorIndex := 53, attributes := #[] }, { accessFlags := 9, nameIndex := 90, descriptorIndex := 91, attributes := #[] }, { accessFlags := 9, nameIndex := 101, descriptorIndex := 98, attributes := #[] }, { accessFlags := 10, nameIndex := 97, descriptorIndex := 98, attributes := #[] }] 48 4 #[] #[{ accessFlags := 4120, nameIndex := 121, descriptorIndex := 122, attributes := #[] }])
  fields := #[{ name := "$assertionsDisabled", type := .boolean, accessFlags := 4120, slot := 0, constantValue := 0 }]
  methods := #[k10m0, k10m1, k10m2, k10m3, k10m4]
  instanceTypes := #[]
  staticTypes := #[.boolean]
  resolved := Array.replicate 395 none
  statics := none }

def pool11 : Array CpInfo := pool [(1, .class_ 2), (0, u "java/lang/Math"), (1, .class_ 6), (1, u "java/lang/Object"), (0, u "<init>"), (0, u "()V"), (89, .class_ 100), (1, u "java/lang/Math$RandomNumberGeneratorHolder"), (71, u "negativeZeroFloatBits"), (0, u "J"), (2, u "negativeZeroDoubleBits"), (21, u "max"), (2, u "min"), (43, u "$assertionsDisabled"), (0, u "Z"), (88, u "(II)I"), (2, u "twoToTheDoubleScaleDown"), (0, u "D"), (4, u "twoToTheDoubleScaleUp"), (9, u "E"), (3, u "PI"), (2, u "TAU"), (2, u "DEGREES_TO_RADIANS"), (0, u "RADIANS_TO_DEGREES")] 94

def k11m0 : Method := { name := "<init>", desc := "()V", sig := { parameters := [], returnType := none }, accessFlags := 2, code := none }
def k11c1 : Code := { maxStack := 2, maxLocals := 2, code := jdk_29_method_65_code, exceptionTable := #[], attributes := #[] }
def k11m1 : Method := { name := "max", desc := "(II)I", sig := { parameters := [.int, .int], returnType := some .int }, accessFlags := 9, code := some k11c1 }
def k11c2 : Code := { maxStack := 2, maxLocals := 2, code := jdk_29_method_69_code, exceptionTable := #[], attributes := #[] }
def k11m2 : Method := { name := "min", desc := "(II)I", sig := { parameters := [.int, .int], returnType := some .int }, accessFlags := 9, code := some k11c2 }
/-- java/lang/Math -/
def k11 : Class := { plain "java/lang/Math" (some 0) with
  accessFlags := 49
  interfaces := #[]
  cf := some (fileOf pool11 1 #[.nestMembers #[98]] #[{ accessFlags := 2, nameIndex := 7, descriptorIndex := 8, attributes := #[] }, { accessFlags := 9, nameIndex := 198, descriptorIndex := 335, attributes := #[] }, { accessFlags := 9, nameIndex := 201, descriptorIndex := 335, attributes := #[] }] 49 4 #[] #[{ accessFlags := 25, nameIndex := 354, descriptorIndex := 339, attributes := #[] }, { accessFlags := 25, nameIndex := 358, descriptorIndex := 339, attributes := #[] }, { accessFlags := 25, nameIndex := 361, descriptorIndex := 339, attributes := #[] }, { accessFlags := 26, nameIndex := 364, descriptorIndex := 339, attributes := #[] }, { accessFlags := 26, nameIndex := 365, descriptorIndex := 339, attributes := #[] }, { accessFlags := 26, nameIndex := 172, descriptorIndex := 173, attributes := #[] }, { accessFlags := 26, nameIndex := 176, descriptorIndex := 173, attributes := #[] }, { accessFlags := 8, nameIndex := 344, descriptorIndex := 339, attributes := #[] }, { accessFlags := 8, nameIndex := 338, descriptorIndex := 339, attributes := #[] }, { accessFlags := 4120, nameIndex := 245, descriptorIndex := 246, attributes := #[] }])
  fields := #[{ name := "E", type := .double, accessFlags := 25, slot := 0, constantValue := 0 }, { name := "PI", type := .double, accessFlags := 25, slot := 1, constantValue := 0 }, { name := "TAU", type := .double, accessFlags := 25, slot := 2, constantValue := 0 }, { name := "DEGREES_TO_RADIANS", type := .double, accessFlags := 26, slot := 3, constantValue := 0 }, { name := "RADIANS_TO_DEGREES", type := .double, accessFlags := 26, slot := 4, constantValue := 0 }, { name := "negativeZeroFloatBits", type := .long, accessFlags := 26, slot := 5, constantValue := 0 }, { name := "negativeZeroDoubleBits", type := .long, accessFlags := 26, slot := 6, constantValue := 0 }, { name := "twoToTheDoubleScaleUp", type := .double, accessFlags := 8, slot := 7, constantValue := 0 }, { name := "twoToTheDoubleScaleDown", type := .double, accessFlags := 8, slot := 8, constantValue := 0 }, { name := "$assertionsDisabled", type := .boolean, accessFlags := 4120, slot := 9, constantValue := 0 }]
  methods := #[k11m0, k11m1, k11m2]
  instanceTypes := #[]
  staticTypes := #[.double, .double, .double, .double, .double, .long, .long, .double, .double, .boolean]
  resolved := Array.replicate 460 none
  statics := none }

def pool12 : Array CpInfo := pool [(6, .class_ 8), (1, u "java/lang/Object"), (0, u "<init>"), (0, u "()V"), (1, .class_ 14), (1, u "java/lang/StringUTF16"), (31, u "$assertionsDisabled"), (0, u "Z"), (13, u "HI_BYTE_SHIFT"), (0, u "I"), (2, u "LO_BYTE_SHIFT"), (49, .methodref 12 116), (0, .nameAndType 117 118), (0, u "compress"), (0, u "([CI[BII)I"), (3, u "([CII)[B"), (138, u "coderFromArrayLen"), (0, u "([BI)B"), (106, .class_ 371), (1, u "java/lang/StringUTF16$LinesSpliterator"), (58, u "MAX_LENGTH"), (196, .class_ 628), (0, u "java/lang/StringUTF16$CodePointsSpliterator"), (0, .class_ 630), (0, u "java/lang/StringUTF16$CharsSpliterator")] 4

def k12m0 : Method := { name := "<init>", desc := "()V", sig := { parameters := [], returnType := none }, accessFlags := 0, code := none }
def k12c1 : Code := { maxStack := 2, maxLocals := 2, code := jdk_52_method_15_code, exceptionTable := #[], attributes := #[] }
def k12m1 : Method := { name := "coderFromArrayLen", desc := "([BI)B", sig := { parameters := [(.array .byte), .int], returnType := some .byte }, accessFlags := 8, code := some k12c1 }
def k12c2 : Code := { maxStack := 5, maxLocals := 6, code := jdk_52_method_16_code, exceptionTable := #[], attributes := #[] }
def k12m2 : Method := { name := "compress", desc := "([CII)[B", sig := { parameters := [(.array .char), .int, .int], returnType := some (.array .byte) }, accessFlags := 9, code := some k12c2 }
def k12c3 : Code := { maxStack := 3, maxLocals := 7, code := jdk_52_method_21_code, exceptionTable := #[], attributes := #[] }
def k12m3 : Method := { name := "compress", desc := "([CI[BII)I", sig := { parameters := [(.array .char), .int, (.array .byte), .int, .int], returnType := some .int }, accessFlags := 9, code := some k12c3 }
/-- java/lang/StringUTF16 -/
def k12 : Class := { plain "java/lang/StringUTF16" (some 0) with
  accessFlags := 48
  interfaces := #[]
  cf := some (fileOf pool12 12 #[.nestMembers #[627, 629, 369]] #[{ accessFlags := 0, nameIndex := 9, descriptorIndex := 10, attributes := #[] }, { accessFlags := 8, nameIndex := 261, descriptorIndex := 262, attributes := #[] }, { accessFlags := 9, nameIndex := 117, descriptorIndex := 122, attributes := #[] }, { accessFlags := 9, nameIndex := 117, descriptorIndex := 118, attributes := #[] }] 48 6 #[] #[{ accessFlags := 26, nameIndex := 61, descriptorIndex := 62, attributes := #[] }, { accessFlags := 26, nameIndex := 65, descriptorIndex := 62, attributes := #[] }, { accessFlags := 24, nameIndex := 430, descriptorIndex := 62, attributes := #[] }, { accessFlags := 4120, nameIndex := 46, descriptorIndex := 47, attributes := #[] }])
  fields := #[{ name := "HI_BYTE_SHIFT", type := .int, accessFlags := 26, slot := 0, constantValue := 0 }, { name := "LO_BYTE_SHIFT", type := .int, accessFlags := 26, slot := 1, constantValue := 0 }, { name := "MAX_LENGTH", type := .int, accessFlags := 24, slot := 2, constantValue := 0 }, { name := "$assertionsDisabled", type := .boolean, accessFlags := 4120, slot := 3, constantValue := 0 }]
  methods := #[k12m0, k12m1, k12m2, k12m3]
  instanceTypes := #[]
  staticTypes := #[.int, .int, .int, .boolean]
  resolved := Array.replicate 635 none
  statics := none }

def pool13 : Array CpInfo := pool [(2, .class_ 4), (1, u "java/lang/Object"), (0, u "<init>"), (0, u "()V"), (17, .class_ 26), (1, u "jdk/internal/util/Preconditions"), (6, u "checkIndex"), (21, .class_ 56), (0, u "jdk/internal/util/Preconditions$4"), (57, .class_ 115), (0, u "jdk/internal/util/Preconditions$1"), (7, u "SIOOBE_FORMATTER"), (0, u "Ljava/util/function/BiFunction;"), (0, .class_ 126), (0, u "jdk/internal/util/Preconditions$2"), (3, u "AIOOBE_FORMATTER"), (0, .class_ 132), (0, u "jdk/internal/util/Preconditions$3"), (3, u "IOOBE_FORMATTER"), (41, u "(IILjava/util/function/BiFunction;)I")] 15

def k13m0 : Method := { name := "<init>", desc := "()V", sig := { parameters := [], returnType := none }, accessFlags := 1, code := none }
def k13c1 : Code := { maxStack := 3, maxLocals := 3, code := jdk_41_method_11_code, exceptionTable := #[], attributes := #[] }
def k13m1 : Method := { name := "checkIndex", desc := "(IILjava/util/function/BiFunction;)I", sig := { parameters := [.int, .int, (.object "java/util/function/BiFunction")], returnType := some .int }, accessFlags := 9, code := some k13c1 }
/-- jdk/internal/util/Preconditions -/
def k13 : Class := { plain "jdk/internal/util/Preconditions" (some 0) with
  accessFlags := 33
  interfaces := #[]
  cf := some (fileOf pool13 24 #[.nestMembers #[55, 131, 125, 114]] #[{ accessFlags := 1, nameIndex := 5, descriptorIndex := 6, attributes := #[] }, { accessFlags := 9, nameIndex := 33, descriptorIndex := 178, attributes := #[] }] 33 2 #[] #[{ accessFlags := 25, nameIndex := 123, descriptorIndex := 124, attributes := #[] }, { accessFlags := 25, nameIndex := 130, descriptorIndex := 124, attributes := #[] }, { accessFlags := 25, nameIndex := 136, descriptorIndex := 124, attributes := #[] }])
  fields := #[{ name := "SIOOBE_FORMATTER", type := (.object "java/util/function/BiFunction"), accessFlags := 25, slot := 0, constantValue := 0 }, { name := "AIOOBE_FORMATTER", type := (.object "java/util/function/BiFunction"), accessFlags := 25, slot := 1, constantValue := 0 }, { name := "IOOBE_FORMATTER", type := (.object "java/util/function/BiFunction"), accessFlags := 25, slot := 2, constantValue := 0 }]
  methods := #[k13m0, k13m1]
  instanceTypes := #[]
  staticTypes := #[(.object "java/util/function/BiFunction"), (.object "java/util/function/BiFunction"), (.object "java/util/function/BiFunction")]
  resolved := Array.replicate 194 none
  statics := some 2 }

def pool14 : Array CpInfo := pool [(9, u "<init>"), (6, .class_ 18), (1, u "java/lang/Object"), (0, u "()V"), (1, .class_ 23), (1, u "jdk/internal/util/ArraysSupport"), (0, u "LOG2_ARRAY_LONG_INDEX_SCALE"), (0, u "I"), (2, u "U"), (0, u "Ljdk/internal/misc/Unsafe;"), (8, u "BIG_ENDIAN"), (0, u "Z"), (8, u "LOG2_BYTE_BIT_SIZE"), (4, u "LOG2_ARRAY_INT_INDEX_SCALE"), (54, u "JLA"), (0, u "Ljdk/internal/access/JavaLangAccess;"), (11, u "LOG2_ARRAY_BOOLEAN_INDEX_SCALE"), (9, u "LOG2_ARRAY_BYTE_INDEX_SCALE"), (5, u "LOG2_ARRAY_CHAR_INDEX_SCALE"), (5, u "LOG2_ARRAY_SHORT_INDEX_SCALE"), (18, u "LOG2_ARRAY_FLOAT_INDEX_SCALE"), (24, u "LOG2_ARRAY_DOUBLE_INDEX_SCALE"), (89, u "T_BOOLEAN"), (2, u "T_CHAR"), (1, u "T_FLOAT"), (1, u "T_DOUBLE"), (1, u "T_BYTE"), (1, u "T_SHORT"), (1, u "T_INT"), (1, u "T_LONG"), (1, u "SOFT_MAX_ARRAY_LENGTH")] 83

def k14m0 : Method := { name := "<init>", desc := "()V", sig := { parameters := [], returnType := none }, accessFlags := 2, code := none }
/-- jdk/internal/util/ArraysSupport -/
def k14 : Class := { plain "jdk/internal/util/ArraysSupport" (some 0) with
  accessFlags := 33
  interfaces := #[]
  cf := some (fileOf pool14 21 #[] #[{ accessFlags := 2, nameIndex := 9, descriptorIndex := 19, attributes := #[] }] 33 16 #[] #[{ accessFlags := 24, nameIndex := 28, descriptorIndex := 29, attributes := #[] }, { accessFlags := 26, nameIndex := 38, descriptorIndex := 39, attributes := #[] }, { accessFlags := 25, nameIndex := 121, descriptorIndex := 25, attributes := #[] }, { accessFlags := 25, nameIndex := 131, descriptorIndex := 25, attributes := #[] }, { accessFlags := 25, nameIndex := 137, descriptorIndex := 25, attributes := #[] }, { accessFlags := 25, nameIndex := 143, descriptorIndex := 25, attributes := #[] }, { accessFlags := 25, nameIndex := 53, descriptorIndex := 25, attributes := #[] }, { accessFlags := 25, nameIndex := 24, descriptorIndex := 25, attributes := #[] }, { accessFlags := 25, nameIndex := 162, descriptorIndex := 25, attributes := #[] }, { accessFlags := 25, nameIndex := 187, descriptorIndex := 25, attributes := #[] }, { accessFlags := 26, nameIndex := 48, descriptorIndex := 25, attributes := #[] }, { accessFlags := 25, nameIndex := 277, descriptorIndex := 25, attributes := #[] }, { accessFlags := 25, nameIndex := 280, descriptorIndex := 25, attributes := #[] }, { accessFlags := 25, nameIndex := 282, descriptorIndex := 25, attributes := #[] }, { accessFlags := 25, nameIndex := 284, descriptorIndex := 25, attributes := #[] }, { accessFlags := 25, nameIndex := 286, descriptorIndex := 25, attributes := #[] }, { accessFlags := 25, nameIndex := 288, descriptorIndex := 25, attributes := #[] }, { accessFlags := 25, nameIndex := 290, descriptorIndex := 25, attributes := #[] }, { accessFlags := 25, nameIndex := 292, descriptorIndex := 25, attributes := #[] }, { accessFlags := 26, nameIndex := 108, descriptorIndex := 109, attributes := #[] }, { accessFlags := 25, nameIndex := 294, descriptorIndex := 25, attributes := #[] }])
  fields := #[{ name := "U", type := (.object "jdk/internal/misc/Unsafe"), accessFlags := 24, slot := 0, constantValue := 0 }, { name := "BIG_ENDIAN", type := .boolean, accessFlags := 26, slot := 1, constantValue := 0 }, { name := "LOG2_ARRAY_BOOLEAN_INDEX_SCALE", type := .int, accessFlags := 25, slot := 2, constantValue := 0 }, { name := "LOG2_ARRAY_BYTE_INDEX_SCALE", type := .int, accessFlags := 25, slot := 3, constantValue := 0 }, { name := "LOG2_ARRAY_CHAR_INDEX_SCALE", type := .int, accessFlags := 25, slot := 4, constantValue := 0 }, { name := "LOG2_ARRAY_SHORT_INDEX_SCALE", type := .int, accessFlags := 25, slot := 5, constantValue := 0 }, { name := "LOG2_ARRAY_INT_INDEX_SCALE", type := .int, accessFlags := 25, slot := 6, constantValue := 0 }, { name := "LOG2_ARRAY_LONG_INDEX_SCALE", type := .int, accessFlags := 25, slot := 7, constantValue := 0 }, { name := "LOG2_ARRAY_FLOAT_INDEX_SCALE", type := .int, accessFlags := 25, slot := 8, constantValue := 0 }, { name := "LOG2_ARRAY_DOUBLE_INDEX_SCALE", type := .int, accessFlags := 25, slot := 9, constantValue := 0 }, { name := "LOG2_BYTE_BIT_SIZE", type := .int, accessFlags := 26, slot := 10, constantValue := 0 }, { name := "T_BOOLEAN", type := .int, accessFlags := 25, slot := 11, constantValue := 0 }, { name := "T_CHAR", type := .int, accessFlags := 25, slot := 12, constantValue := 0 }, { name := "T_FLOAT", type := .int, accessFlags := 25, slot := 13, constantValue := 0 }, { name := "T_DOUBLE", type := .int, accessFlags := 25, slot := 14, constantValue := 0 }, { name := "T_BYTE", type := .int, accessFlags := 25, slot := 15, constantValue := 0 }, { name := "T_SHORT", type := .int, accessFlags := 25, slot := 16, constantValue := 0 }, { name := "T_INT", type := .int, accessFlags := 25, slot := 17, constantValue := 0 }, { name := "T_LONG", type := .int, accessFlags := 25, slot := 18, constantValue := 0 }, { name := "JLA", type := (.object "jdk/internal/access/JavaLangAccess"), accessFlags := 26, slot := 19, constantValue := 0 }, { name := "SOFT_MAX_ARRAY_LENGTH", type := .int, accessFlags := 25, slot := 20, constantValue := 0 }]
  methods := #[k14m0]
  instanceTypes := #[]
  staticTypes := #[(.object "jdk/internal/misc/Unsafe"), .boolean, .int, .int, .int, .int, .int, .int, .int, .int, .int, .int, .int, .int, .int, .int, .int, .int, .int, (.object "jdk/internal/access/JavaLangAccess"), .int]
  resolved := Array.replicate 378 none
  statics := none }

def pool15 : Array CpInfo := pool [(1, u "java/lang/Cloneable"), (0, .class_ 1), (0, u "java/lang/Object"), (0, .class_ 3)] 3

/-- java/lang/Cloneable -/
def k15 : Class := { plain "java/lang/Cloneable" (some 0) with
  accessFlags := 1537
  interfaces := #[]
  cf := some (fileOf pool15 2 #[] #[] 1537 4 #[] #[])
  fields := #[]
  methods := #[]
  instanceTypes := #[]
  staticTypes := #[]
  resolved := Array.replicate 8 none
  statics := none }

/-- the primitive byte -/
def k16 : Class := { plain "byte" none with kind := .primitive 'B', accessFlags := 0x411 }
/-- [B -/
def k17 : Class := { plain "[B" (some 0) with kind := .array 16 .byte, interfaces := #[15, 2], accessFlags := 1041 }

/-- the primitive char -/
def k18 : Class := { plain "char" none with kind := .primitive 'C', accessFlags := 0x411 }
/-- [C -/
def k19 : Class := { plain "[C" (some 0) with kind := .array 18 .char, interfaces := #[15, 2], accessFlags := 1041 }

/-- the primitive int -/
def k20 : Class := { plain "int" none with kind := .primitive 'I', accessFlags := 0x411 }
/-- [I -/
def k21 : Class := { plain "[I" (some 0) with kind := .array 20 .int, interfaces := #[15, 2], accessFlags := 1041 }

def heap : Heap := #[{ cls := 7, slots := #[.long 0, .int 1, .null, .int 0, .null, .int 0, .int 0], vm := .statics 7 },
  { cls := 9, slots := #[.ref 3, .ref 4, .ref 5, .null], vm := .statics 9 },
  { cls := 13, slots := #[.null, .null, .null], vm := .statics 13 },
  { cls := 9, slots := #[.null, .int 0, .int 0, .null], vm := .none },
  { cls := 9, slots := #[.null, .int 1, .int 0, .null], vm := .none },
  { cls := 9, slots := #[.null, .int 2, .int 0, .null], vm := .none }]
def classes : Array Class := #[k0, k1, k2, k3, k4, k5, k6, k7, k8, k9, k10, k11, k12, k13, k14, k15, k16, k17, k18, k19, k20, k21]
def interned : List (Array UInt16 × Addr) := []
def slotsUsed : Nat := 26
def theMethod : MethodId := ⟨1, 5⟩
def args0 : Array Value := #[.int 5, .long 1, .long 2]
def aboutOver (below : List Frame) : State where
  vm := { classes := classes, interned := interned.toArray }
  heap := heap
  slotsUsed := slotsUsed
  threads := #[{ frames := .invoking theMethod args0 :: below }]
def below0 : List Frame := [.native { method := ⟨0, 0⟩, args := #[] }]
def about1 : State := aboutOver below0
def p0 : Program := .bare "" "" ""
def e0 : Env := launch0.env 0 0 0
theorem w_frames : about1.frames = Frame.invoking theMethod args0 :: below0 := rfl
set_option maxRecDepth 65536 in
theorem w_args : argsFit about1.vm theMethod args0 = true := by decide +kernel
set_option maxRecDepth 65536 in
theorem w_heap : heapFits about1 = true := by decide +kernel
set_option maxRecDepth 65536 in
theorem w_runnable : about1.curStatus? = some .runnable := by decide +kernel
set_option maxRecDepth 65536 in
theorem w_alone : about1.alone = true := by decide +kernel
set_option maxRecDepth 65536 in
theorem w_named : about1.methodNamed? x = some theMethod := by decide +kernel
set_option maxRecDepth 65536 in
theorem w_hears : about1.hears theMethod below0 = true := by decide +kernel
set_option maxRecDepth 65536 in
theorem w_ripe : about1.ripe theMethod args0 below0 = true := by decide +kernel
theorem w_running : about1.status = .running := rfl
set_option maxRecDepth 65536 in
theorem w_room : about1.hasRoom e0.platform room_1 = true :=
  launch0.hasRoom_least _ room_1 (by decide +kernel) (by decide +kernel) (by decide +kernel) (by decide +kernel) (by decide +kernel) (by decide +kernel)
theorem allAtoms_all (ts : List Jvm.Cond) (a : Array Jvm.Value) (st : Jvm.State) : (allAtoms ts).before a st = ts.all (fun c => c.before a st) := by
  induction ts with
  | nil => rfl
  | cons c t ih =>
    show (Jvm.Cond.and c (allAtoms t)).before a st = _
    rw [Jvm.Cond.before_and, ih, List.all_cons]
def words1 : List Jvm.Cond := Jvm.Cond.code x code maxLocals ret :: tables_1
/-- a 'code' word, met by the world's own term for the bytes: nothing is compared byte by byte -/
theorem code_word {y : MethodName} {bytes : ByteArray} {mx : Nat} {rt : Option FieldType} {a : Array Value} {s : State} {m : MethodId} {meth : Method} {c : Code} (h1 : s.methodNamed? y = some m) (h2 : s.vm.method? m = some meth) (h3 : meth.code = some c) (h4 : c.code = bytes)
    (h5 : (c.maxLocals == mx && c.exceptionTable.isEmpty && decide (c.maxStack ≤ mostOperands) && decide (meth.sig.returnType = rt) && !meth.locks && decide (parseMethodDescriptor y.desc = some meth.sig)) = true) : (Jvm.Cond.code y bytes mx rt).before a s = true := by
  simp only [Bool.and_eq_true, beq_iff_eq, Bool.not_eq_true', decide_eq_true_eq] at h5
  obtain ⟨⟨⟨⟨⟨g1, g2⟩, g3⟩, g4⟩, g5⟩, g6⟩ := h5
  simp [Cond.before, Cond.holds, Cond.value, h1, h2, h3, h4, g1, g2, g3, g4, g5, g6]
def isCode : Jvm.Cond → Bool
  | .code _ _ _ _ => true
  | _ => false
theorem all_split {L : List Jvm.Cond} {P : Jvm.Cond → Bool} (h1 : L.all (fun c => isCode c || P c) = true) (h2 : ∀ c ∈ L.filter isCode, P c = true) : L.all P = true := by
  refine List.all_eq_true.mpr fun c hc => ?_
  have h := List.all_eq_true.mp h1 c hc
  rcases Bool.eq_false_or_eq_true (isCode c) with hi | hi
  · exact h2 c (List.mem_filter.mpr ⟨hc, hi⟩)
  · simpa [hi] using h
set_option maxRecDepth 65536 in
theorem w_c0 : (Jvm.Cond.code x code maxLocals ret).before args0 about1 = true := code_word (m := ⟨1, 5⟩) (meth := k1m5) (c := k1c5) (by decide +kernel) rfl rfl rfl (by decide +kernel)
set_option maxRecDepth 65536 in
theorem w_c1 : (Jvm.Cond.code ({ cls := "com/example/gatewarden/gatewarden/core/UserKeywordEndInPinLaw", name := "draw", desc := "(J)C" } : Jvm.MethodName) method_2_code (3 : Nat) (Option.some Jvm.ClassFile.FieldType.char)).before args0 about1 = true := code_word (m := ⟨1, 1⟩) (meth := k1m1) (c := k1c1) (by decide +kernel) rfl rfl rfl (by decide +kernel)
set_option maxRecDepth 65536 in
theorem w_c2 : (Jvm.Cond.code ({ cls := "com/example/gatewarden/gatewarden/core/UserKeywordEndInPinLaw", name := "str", desc := "([CI)Ljava/lang/String;" } : Jvm.MethodName) method_3_code (2 : Nat) (Option.some (Jvm.ClassFile.FieldType.object "java/lang/String"))).before args0 about1 = true := code_word (m := ⟨1, 2⟩) (meth := k1m2) (c := k1c2) (by decide +kernel) rfl rfl rfl (by decide +kernel)
set_option maxRecDepth 65536 in
theorem w_c3 : (Jvm.Cond.code ({ cls := "java/lang/String", name := "<init>", desc := "([C)V" } : Jvm.MethodName) jdk_42_method_3_code (2 : Nat) (Option.none : Option Jvm.ClassFile.FieldType)).before args0 about1 = true := code_word (m := ⟨7, 1⟩) (meth := k7m1) (c := k7c1) (by decide +kernel) rfl rfl rfl (by decide +kernel)
set_option maxRecDepth 65536 in
theorem w_c4 : (Jvm.Cond.code ({ cls := "java/lang/String", name := "<init>", desc := "([CIILjava/lang/Void;)V" } : Jvm.MethodName) jdk_42_method_149_code (6 : Nat) (Option.none : Option Jvm.ClassFile.FieldType)).before args0 about1 = true := code_word (m := ⟨7, 6⟩) (meth := k7m6) (c := k7c6) (by decide +kernel) rfl rfl rfl (by decide +kernel)
set_option maxRecDepth 65536 in
theorem w_c5 : (Jvm.Cond.code ({ cls := "java/lang/Object", name := "<init>", desc := "()V" } : Jvm.MethodName) object_method_1_code (1 : Nat) (Option.none : Option Jvm.ClassFile.FieldType)).before args0 about1 = true := code_word (m := ⟨0, 0⟩) (meth := k0m0) (c := k0c0) (by decide +kernel) rfl rfl rfl (by decide +kernel)
set_option maxRecDepth 65536 in
theorem w_c6 : (Jvm.Cond.code ({ cls := "com/example/gatewarden/gatewarden/core/UserKeywordEndInPinLaw", name := "m", desc := "([CI[CIII)Z" } : Jvm.MethodName) method_5_code (6 : Nat) (Option.some Jvm.ClassFile.FieldType.boolean)).before args0 about1 = true := code_word (m := ⟨1, 4⟩) (meth := k1m4) (c := k1c4) (by decide +kernel) rfl rfl rfl (by decide +kernel)
set_option maxRecDepth 65536 in
theorem w_c7 : (Jvm.Cond.code ({ cls := "com/example/gatewarden/gatewarden/core/UserKeyword", name := "endIn", desc := "(Ljava/lang/String;Ljava/lang/String;I)I" } : Jvm.MethodName) prog_45_method_6_code (5 : Nat) (Option.some Jvm.ClassFile.FieldType.int)).before args0 about1 = true := code_word (m := ⟨9, 0⟩) (meth := k9m0) (c := k9c0) (by decide +kernel) rfl rfl rfl (by decide +kernel)
set_option maxRecDepth 65536 in
theorem w_c8 : (Jvm.Cond.code ({ cls := "java/lang/String", name := "indexOf", desc := "(I)I" } : Jvm.MethodName) jdk_42_method_79_code (2 : Nat) (Option.some Jvm.ClassFile.FieldType.int)).before args0 about1 = true := code_word (m := ⟨7, 4⟩) (meth := k7m4) (c := k7c4) (by decide +kernel) rfl rfl rfl (by decide +kernel)
set_option maxRecDepth 65536 in
theorem w_c9 : (Jvm.Cond.code ({ cls := "java/lang/String", name := "indexOf", desc := "(II)I" } : Jvm.MethodName) jdk_42_method_80_code (3 : Nat) (Option.some Jvm.ClassFile.FieldType.int)).before args0 about1 = true := code_word (m := ⟨7, 5⟩) (meth := k7m5) (c := k7c5) (by decide +kernel) rfl rfl rfl (by decide +kernel)
set_option maxRecDepth 65536 in
theorem w_c10 : (Jvm.Cond.code ({ cls := "java/lang/String", name := "isLatin1", desc := "()Z" } : Jvm.MethodName) jdk_42_method_154_code (1 : Nat) (Option.some Jvm.ClassFile.FieldType.boolean)).before args0 about1 = true := code_word (m := ⟨7, 8⟩) (meth := k7m8) (c := k7c8) (by decide +kernel) rfl rfl rfl (by decide +kernel)
set_option maxRecDepth 65536 in
theorem w_c11 : (Jvm.Cond.code ({ cls := "java/lang/String", name := "length", desc := "()I" } : Jvm.MethodName) jdk_42_method_54_code (1 : Nat) (Option.some Jvm.ClassFile.FieldType.int)).before args0 about1 = true := code_word (m := ⟨7, 2⟩) (meth := k7m2) (c := k7c2) (by decide +kernel) rfl rfl rfl (by decide +kernel)
set_option maxRecDepth 65536 in
theorem w_c12 : (Jvm.Cond.code ({ cls := "java/lang/String", name := "coder", desc := "()B" } : Jvm.MethodName) jdk_42_method_152_code (1 : Nat) (Option.some Jvm.ClassFile.FieldType.byte)).before args0 about1 = true := code_word (m := ⟨7, 7⟩) (meth := k7m7) (c := k7c7) (by decide +kernel) rfl rfl rfl (by decide +kernel)
set_option maxRecDepth 65536 in
theorem w_c13 : (Jvm.Cond.code ({ cls := "java/lang/StringLatin1", name := "indexOf", desc := "([BIII)I" } : Jvm.MethodName) jdk_43_method_22_code (4 : Nat) (Option.some Jvm.ClassFile.FieldType.int)).before args0 about1 = true := code_word (m := ⟨10, 3⟩) (meth := k10m3) (c := k10c3) (by decide +kernel) rfl rfl rfl (by decide +kernel)
set_option maxRecDepth 65536 in
theorem w_c14 : (Jvm.Cond.code ({ cls := "java/lang/StringLatin1", name := "canEncode", desc := "(I)Z" } : Jvm.MethodName) jdk_43_method_4_code (1 : Nat) (Option.some Jvm.ClassFile.FieldType.boolean)).before args0 about1 = true := code_word (m := ⟨10, 2⟩) (meth := k10m2) (c := k10c2) (by decide +kernel) rfl rfl rfl (by decide +kernel)
set_option maxRecDepth 65536 in
theorem w_c15 : (Jvm.Cond.code ({ cls := "java/lang/Math", name := "max", desc := "(II)I" } : Jvm.MethodName) jdk_29_method_65_code (2 : Nat) (Option.some Jvm.ClassFile.FieldType.int)).before args0 about1 = true := code_word (m := ⟨11, 1⟩) (meth := k11m1) (c := k11c1) (by decide +kernel) rfl rfl rfl (by decide +kernel)
set_option maxRecDepth 65536 in
theorem w_c16 : (Jvm.Cond.code ({ cls := "java/lang/Math", name := "min", desc := "(II)I" } : Jvm.MethodName) jdk_29_method_69_code (2 : Nat) (Option.some Jvm.ClassFile.FieldType.int)).before args0 about1 = true := code_word (m := ⟨11, 2⟩) (meth := k11m2) (c := k11c2) (by decide +kernel) rfl rfl rfl (by decide +kernel)
set_option maxRecDepth 65536 in
theorem w_c17 : (Jvm.Cond.code ({ cls := "java/lang/Enum", name := "ordinal", desc := "()I" } : Jvm.MethodName) jdk_37_method_2_code (1 : Nat) (Option.some Jvm.ClassFile.FieldType.int)).before args0 about1 = true := code_word (m := ⟨8, 0⟩) (meth := k8m0) (c := k8c0) (by decide +kernel) rfl rfl rfl (by decide +kernel)
set_option maxRecDepth 65536 in
theorem w_c18 : (Jvm.Cond.code ({ cls := "com/example/gatewarden/gatewarden/core/UserKeyword", name := "translatedEndIn", desc := "(Ljava/lang/String;IILjava/lang/String;I)I" } : Jvm.MethodName) prog_45_method_7_code (8 : Nat) (Option.some Jvm.ClassFile.FieldType.int)).before args0 about1 = true := code_word (m := ⟨9, 1⟩) (meth := k9m1) (c := k9c1) (by decide +kernel) rfl rfl rfl (by decide +kernel)
set_option maxRecDepth 65536 in
theorem w_c19 : (Jvm.Cond.code ({ cls := "java/lang/StringUTF16", name := "compress", desc := "([CII)[B" } : Jvm.MethodName) jdk_52_method_16_code (6 : Nat) (Option.some (Jvm.ClassFile.FieldType.array Jvm.ClassFile.FieldType.byte))).before args0 about1 = true := code_word (m := ⟨12, 2⟩) (meth := k12m2) (c := k12c2) (by decide +kernel) rfl rfl rfl (by decide +kernel)
set_option maxRecDepth 65536 in
theorem w_c20 : (Jvm.Cond.code ({ cls := "java/lang/StringUTF16", name := "compress", desc := "([CI[BII)I" } : Jvm.MethodName) jdk_52_method_21_code (7 : Nat) (Option.some Jvm.ClassFile.FieldType.int)).before args0 about1 = true := code_word (m := ⟨12, 3⟩) (meth := k12m3) (c := k12c3) (by decide +kernel) rfl rfl rfl (by decide +kernel)
set_option maxRecDepth 65536 in
theorem w_c21 : (Jvm.Cond.code ({ cls := "java/lang/StringUTF16", name := "coderFromArrayLen", desc := "([BI)B" } : Jvm.MethodName) jdk_52_method_15_code (2 : Nat) (Option.some Jvm.ClassFile.FieldType.byte)).before args0 about1 = true := code_word (m := ⟨12, 1⟩) (meth := k12m1) (c := k12c1) (by decide +kernel) rfl rfl rfl (by decide +kernel)
set_option maxRecDepth 65536 in
theorem w_c22 : (Jvm.Cond.code ({ cls := "java/lang/StringLatin1", name := "indexOfChar", desc := "([BIII)I" } : Jvm.MethodName) jdk_43_method_23_code (6 : Nat) (Option.some Jvm.ClassFile.FieldType.int)).before args0 about1 = true := code_word (m := ⟨10, 4⟩) (meth := k10m4) (c := k10c4) (by decide +kernel) rfl rfl rfl (by decide +kernel)
set_option maxRecDepth 65536 in
theorem w_c23 : (Jvm.Cond.code ({ cls := "com/example/gatewarden/gatewarden/core/UserKeywordEndInPinLaw", name := "tr", desc := "(C)C" } : Jvm.MethodName) method_4_code (1 : Nat) (Option.some Jvm.ClassFile.FieldType.char)).before args0 about1 = true := code_word (m := ⟨1, 3⟩) (meth := k1m3) (c := k1c3) (by decide +kernel) rfl rfl rfl (by decide +kernel)
set_option maxRecDepth 65536 in
theorem w_c24 : (Jvm.Cond.code ({ cls := "java/lang/String", name := "charAt", desc := "(I)C" } : Jvm.MethodName) jdk_42_method_56_code (2 : Nat) (Option.some Jvm.ClassFile.FieldType.char)).before args0 about1 = true := code_word (m := ⟨7, 3⟩) (meth := k7m3) (c := k7c3) (by decide +kernel) rfl rfl rfl (by decide +kernel)
set_option maxRecDepth 65536 in
theorem w_c25 : (Jvm.Cond.code ({ cls := "java/lang/StringLatin1", name := "charAt", desc := "([BI)C" } : Jvm.MethodName) jdk_43_method_2_code (2 : Nat) (Option.some Jvm.ClassFile.FieldType.char)).before args0 about1 = true := code_word (m := ⟨10, 1⟩) (meth := k10m1) (c := k10c1) (by decide +kernel) rfl rfl rfl (by decide +kernel)
set_option maxRecDepth 65536 in
theorem w_c26 : (Jvm.Cond.code ({ cls := "java/lang/String", name := "checkIndex", desc := "(II)V" } : Jvm.MethodName) jdk_42_method_155_code (2 : Nat) (Option.none : Option Jvm.ClassFile.FieldType)).before args0 about1 = true := code_word (m := ⟨7, 9⟩) (meth := k7m9) (c := k7c9) (by decide +kernel) rfl rfl rfl (by decide +kernel)
set_option maxRecDepth 65536 in
theorem w_c27 : (Jvm.Cond.code ({ cls := "jdk/internal/util/Preconditions", name := "checkIndex", desc := "(IILjava/util/function/BiFunction;)I" } : Jvm.MethodName) jdk_41_method_11_code (3 : Nat) (Option.some Jvm.ClassFile.FieldType.int)).before args0 about1 = true := code_word (m := ⟨13, 1⟩) (meth := k13m1) (c := k13c1) (by decide +kernel) rfl rfl rfl (by decide +kernel)
def codes1 : List Jvm.Cond := [Jvm.Cond.code x code maxLocals ret, Jvm.Cond.code ({ cls := "com/example/gatewarden/gatewarden/core/UserKeywordEndInPinLaw", name := "draw", desc := "(J)C" } : Jvm.MethodName) method_2_code (3 : Nat) (Option.some Jvm.ClassFile.FieldType.char), Jvm.Cond.code ({ cls := "com/example/gatewarden/gatewarden/core/UserKeywordEndInPinLaw", name := "str", desc := "([CI)Ljava/lang/String;" } : Jvm.MethodName) method_3_code (2 : Nat) (Option.some (Jvm.ClassFile.FieldType.object "java/lang/String")), Jvm.Cond.code ({ cls := "java/lang/String", name := "<init>", desc := "([C)V" } : Jvm.MethodName) jdk_42_method_3_code (2 : Nat) (Option.none : Option Jvm.ClassFile.FieldType), Jvm.Cond.code ({ cls := "java/lang/String", name := "<init>", desc := "([CIILjava/lang/Void;)V" } : Jvm.MethodName) jdk_42_method_149_code (6 : Nat) (Option.none : Option Jvm.ClassFile.FieldType), Jvm.Cond.code ({ cls := "java/lang/Object", name := "<init>", desc := "()V" } : Jvm.MethodName) object_method_1_code (1 : Nat) (Option.none : Option Jvm.ClassFile.FieldType), Jvm.Cond.code ({ cls := "com/example/gatewarden/gatewarden/core/UserKeywordEndInPinLaw", name := "m", desc := "([CI[CIII)Z" } : Jvm.MethodName) method_5_code (6 : Nat) (Option.some Jvm.ClassFile.FieldType.boolean), Jvm.Cond.code ({ cls := "com/example/gatewarden/gatewarden/core/UserKeyword", name := "endIn", desc := "(Ljava/lang/String;Ljava/lang/String;I)I" } : Jvm.MethodName) prog_45_method_6_code (5 : Nat) (Option.some Jvm.ClassFile.FieldType.int), Jvm.Cond.code ({ cls := "java/lang/String", name := "indexOf", desc := "(I)I" } : Jvm.MethodName) jdk_42_method_79_code (2 : Nat) (Option.some Jvm.ClassFile.FieldType.int), Jvm.Cond.code ({ cls := "java/lang/String", name := "indexOf", desc := "(II)I" } : Jvm.MethodName) jdk_42_method_80_code (3 : Nat) (Option.some Jvm.ClassFile.FieldType.int), Jvm.Cond.code ({ cls := "java/lang/String", name := "isLatin1", desc := "()Z" } : Jvm.MethodName) jdk_42_method_154_code (1 : Nat) (Option.some Jvm.ClassFile.FieldType.boolean), Jvm.Cond.code ({ cls := "java/lang/String", name := "length", desc := "()I" } : Jvm.MethodName) jdk_42_method_54_code (1 : Nat) (Option.some Jvm.ClassFile.FieldType.int), Jvm.Cond.code ({ cls := "java/lang/String", name := "coder", desc := "()B" } : Jvm.MethodName) jdk_42_method_152_code (1 : Nat) (Option.some Jvm.ClassFile.FieldType.byte), Jvm.Cond.code ({ cls := "java/lang/StringLatin1", name := "indexOf", desc := "([BIII)I" } : Jvm.MethodName) jdk_43_method_22_code (4 : Nat) (Option.some Jvm.ClassFile.FieldType.int), Jvm.Cond.code ({ cls := "java/lang/StringLatin1", name := "canEncode", desc := "(I)Z" } : Jvm.MethodName) jdk_43_method_4_code (1 : Nat) (Option.some Jvm.ClassFile.FieldType.boolean), Jvm.Cond.code ({ cls := "java/lang/Math", name := "max", desc := "(II)I" } : Jvm.MethodName) jdk_29_method_65_code (2 : Nat) (Option.some Jvm.ClassFile.FieldType.int), Jvm.Cond.code ({ cls := "java/lang/Math", name := "min", desc := "(II)I" } : Jvm.MethodName) jdk_29_method_69_code (2 : Nat) (Option.some Jvm.ClassFile.FieldType.int), Jvm.Cond.code ({ cls := "java/lang/Enum", name := "ordinal", desc := "()I" } : Jvm.MethodName) jdk_37_method_2_code (1 : Nat) (Option.some Jvm.ClassFile.FieldType.int), Jvm.Cond.code ({ cls := "com/example/gatewarden/gatewarden/core/UserKeyword", name := "translatedEndIn", desc := "(Ljava/lang/String;IILjava/lang/String;I)I" } : Jvm.MethodName) prog_45_method_7_code (8 : Nat) (Option.some Jvm.ClassFile.FieldType.int), Jvm.Cond.code ({ cls := "java/lang/StringUTF16", name := "compress", desc := "([CII)[B" } : Jvm.MethodName) jdk_52_method_16_code (6 : Nat) (Option.some (Jvm.ClassFile.FieldType.array Jvm.ClassFile.FieldType.byte)), Jvm.Cond.code ({ cls := "java/lang/StringUTF16", name := "compress", desc := "([CI[BII)I" } : Jvm.MethodName) jdk_52_method_21_code (7 : Nat) (Option.some Jvm.ClassFile.FieldType.int), Jvm.Cond.code ({ cls := "java/lang/StringUTF16", name := "coderFromArrayLen", desc := "([BI)B" } : Jvm.MethodName) jdk_52_method_15_code (2 : Nat) (Option.some Jvm.ClassFile.FieldType.byte), Jvm.Cond.code ({ cls := "java/lang/StringLatin1", name := "indexOfChar", desc := "([BIII)I" } : Jvm.MethodName) jdk_43_method_23_code (6 : Nat) (Option.some Jvm.ClassFile.FieldType.int), Jvm.Cond.code ({ cls := "com/example/gatewarden/gatewarden/core/UserKeywordEndInPinLaw", name := "tr", desc := "(C)C" } : Jvm.MethodName) method_4_code (1 : Nat) (Option.some Jvm.ClassFile.FieldType.char), Jvm.Cond.code ({ cls := "java/lang/String", name := "charAt", desc := "(I)C" } : Jvm.MethodName) jdk_42_method_56_code (2 : Nat) (Option.some Jvm.ClassFile.FieldType.char), Jvm.Cond.code ({ cls := "java/lang/StringLatin1", name := "charAt", desc := "([BI)C" } : Jvm.MethodName) jdk_43_method_2_code (2 : Nat) (Option.some Jvm.ClassFile.FieldType.char), Jvm.Cond.code ({ cls := "java/lang/String", name := "checkIndex", desc := "(II)V" } : Jvm.MethodName) jdk_42_method_155_code (2 : Nat) (Option.none : Option Jvm.ClassFile.FieldType), Jvm.Cond.code ({ cls := "jdk/internal/util/Preconditions", name := "checkIndex", desc := "(IILjava/util/function/BiFunction;)I" } : Jvm.MethodName) jdk_41_method_11_code (3 : Nat) (Option.some Jvm.ClassFile.FieldType.int)]
set_option maxRecDepth 65536 in
theorem codes_eq : words1.filter isCode = codes1 := rfl
theorem w_codes : ∀ c ∈ words1.filter isCode, c.before args0 about1 = true := by
  rw [codes_eq]
  intro c hc
  simp only [codes1, List.mem_cons, List.not_mem_nil, or_false] at hc
  rcases hc with rfl | rfl | rfl | rfl | rfl | rfl | rfl | rfl | rfl | rfl | rfl | rfl | rfl | rfl | rfl | rfl | rfl | rfl | rfl | rfl | rfl | rfl | rfl | rfl | rfl | rfl | rfl | rfl
  · exact w_c0
  · exact w_c1
  · exact w_c2
  · exact w_c3
  · exact w_c4
  · exact w_c5
  · exact w_c6
  · exact w_c7
  · exact w_c8
  · exact w_c9
  · exact w_c10
  · exact w_c11
  · exact w_c12
  · exact w_c13
  · exact w_c14
  · exact w_c15
  · exact w_c16
  · exact w_c17
  · exact w_c18
  · exact w_c19
  · exact w_c20
  · exact w_c21
  · exact w_c22
  · exact w_c23
  · exact w_c24
  · exact w_c25
  · exact w_c26
  · exact w_c27
set_option maxRecDepth 65536 in
theorem w_t1 : (words1.take 24).all (fun c => isCode c || c.before args0 about1) = true := by decide +kernel
set_option maxRecDepth 65536 in
theorem w_t2 : ((words1.drop 24).take 24).all (fun c => isCode c || c.before args0 about1) = true := by decide +kernel
set_option maxRecDepth 65536 in
theorem w_t3 : (((words1.drop 24).drop 24).take 24).all (fun c => isCode c || c.before args0 about1) = true := by decide +kernel
set_option maxRecDepth 65536 in
theorem w_t4 : ((((words1.drop 24).drop 24).drop 24).take 24).all (fun c => isCode c || c.before args0 about1) = true := by decide +kernel
set_option maxRecDepth 65536 in
theorem w_t5 : (((((words1.drop 24).drop 24).drop 24).drop 24).take 24).all (fun c => isCode c || c.before args0 about1) = true := by decide +kernel
set_option maxRecDepth 65536 in
theorem w_t6 : (((((words1.drop 24).drop 24).drop 24).drop 24).drop 24).all (fun c => isCode c || c.before args0 about1) = true := by decide +kernel
theorem w_tables : (allAtoms (Jvm.Cond.code x code maxLocals ret :: tables_1)).before args0 about1 = true := by
  rw [allAtoms_all]
  show words1.all (fun c => c.before args0 about1) = true
  refine all_split ?_ w_codes
  rw [← List.take_append_drop 24 words1, List.all_append, w_t1, ← List.take_append_drop 24 (words1.drop 24), List.all_append, w_t2, ← List.take_append_drop 24 ((words1.drop 24).drop 24), List.all_append, w_t3, ← List.take_append_drop 24 (((words1.drop 24).drop 24).drop 24), List.all_append, w_t4, ← List.take_append_drop 24 ((((words1.drop 24).drop 24).drop 24).drop 24), List.all_append, w_t5, w_t6]
  rfl
set_option maxRecDepth 65536 in
theorem w_rest : rest_1_c.before args0 about1 = true := by decide +kernel
set_option maxRecDepth 65536 in
theorem w_case : (Jvm.Cond.and given_1 narrow_1).before args0 about1 = true := by decide +kernel
set_option maxRecDepth 65536 in
theorem w_consts : constsHeld consts_1 about1 := Jvm.Lit.constsHeldB_iff.mp (by decide +kernel)
theorem w_applies : (headSpec (Jvm.Cond.code x code maxLocals ret :: tables_1) room_1).applies x e0.platform about1 = true :=
  (Spec.applies_iff w_frames).mpr ⟨w_running, w_runnable, w_alone, w_named, w_hears, w_ripe, w_room, w_tables⟩
theorem atStart : AtStart classFile x code maxLocals ret World_1 tables_1 room_1 Calls_1 rest_1 Pre_1 launch0 p0 e0 about1 theMethod args0 below0 :=
  ⟨lists_1, trivial, launch0.admits_env _ _ _, launch0.least_env, fairChoices_fair.cas, fairChoices_fair.clock, w_frames, w_args, w_heap, w_applies, ⟨w_consts, trivial⟩, w_rest, w_case⟩
end start1
theorem witness_1 : WitnessClaimed_1 := ⟨start1.p0, start1.e0, start1.about1, start1.theMethod, start1.args0, start1.below0, start1.atStart⟩
end Jvm.Pilot.@@N@@
