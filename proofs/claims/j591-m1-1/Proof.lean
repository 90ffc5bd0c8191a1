import JvmDerived
import JvmDerived.Pilot.@@N@@Statement
import JvmDerived.Pilot.@@N@@Code
set_option linter.unusedVariables false
set_option linter.unusedSimpArgs false
namespace Jvm.RoadKit
open Sem ClassFile Op Lib Jvm.Stand Jvm.Free Jvm.LawKit
section New
variable {p : Program} {l : Launch} {e : Env} {R : Room} {s : State} {m : MethodId} {args : Array Value} {below : List Frame} {meth : Method} {c : Code} {T : State} {locs : List Loc} {cells slots : Nat}
theorem retI (X : Stand p l e R s m args below meth c T locs cells slots) (hx : p.tables.exec = Jvm.exec) {pc : Nat} {Ls : Array Slot} {z : Int32} {rest : List Value} (hret : meth.sig.returnType = some .int) (hd : decode c.code pc = .ok (.ireturn, 1)) {fs : List Frame}
    (hl : ∀ (f : JFrame) (acts : List Action), f.method = m → f.locked = none → f.entered = [] → (doReturn e (T.setTop f) acts (some (.int z))).1 = T.setFrames fs) : Steps p.tables e below (T.setTop (mkF m pc Ls (.int z :: rest))) (T.setFrames fs) := by
  have hm' : T.vm.method? m = some meth := X.method'
  have hn : narrow .int (.int z) = .int z := rfl
  show Steps p.tables e below (T.setTop { method := m, pc := pc, locals := Ls, stack := _ :: rest, locked := none }) _
  jvm_step X.here [X.here.top, hx, hd, hm', hret, hn]
  first | (intro acts; rw [hl _ acts rfl rfl rfl]) | rw [hl _ _ rfl rfl rfl]
  exact Steps.refl _
/-- from here the run comes to an end of which Po says something -/
def Gl (p : Program) (e : Env) (below : List Frame) (Po : State → Outcome → Prop) (T : State) (g : JFrame) : Prop := ∃ s₂ o, Steps p.tables e below (T.setTop g) s₂ ∧ s₂.status = .running ∧ Ended s₂ below o ∧ Po s₂ o
def Pos (C S : Nat) (Q : Option Value → Heap → List Loc → Prop) (s : State) (U : State) (o : Outcome) : Prop := ∃ v L, o = .returned v ∧ Q v U.heap L ∧ FrameEnd s o U L C S
theorem Gl.by {Po : State → Outcome → Prop} {T' : State} {g g' : JFrame} (st : ∀ t, Steps p.tables e below (T'.setTop g') t → Steps p.tables e below (T.setTop g) t) (h : Gl p e below Po T' g') : Gl p e below Po T g := by
  obtain ⟨a, o, k, r⟩ := h
  exact ⟨a, o, st _ k, r⟩
theorem Gl.cast {Po : State → Outcome → Prop} {g g' : JFrame} (q : g = g') (h : Gl p e below Po T g') : Gl p e below Po T g := q ▸ h
theorem Gl.outN (X : Stand p l e R s m args below meth c T locs cells slots) (hx : p.tables.exec = Jvm.exec) (hk : meth.locks = false) {pc : Nat} {Ls : Array Slot} {z : Int32} {t : FieldType} {rest : List Value} (hret : meth.sig.returnType = some t) (ht : t = .boolean ∨ t = .byte ∨ t = .char ∨ t = .short)
    (hd : decode c.code pc = .ok (.ireturn, 1)) {C S : Nat} {Q : Option Value → Heap → List Loc → Prop} (hQ : Q (some (.int (nar t z))) T.heap locs) (hc : cells ≤ C) (hs : slots ≤ S) : Gl p e below (Pos C S Q s) T (mkF m pc Ls (.int z :: rest)) := by
  obtain ⟨fs, hr, hrun, hended, hW, hsame⟩ := X.leave (v := some (.int (nar t z))) (fun h => by rw [hret] at h; cases h) hk
  exact ⟨_, _, retN X hx hret ht hd hr, hrun, hended, _, _, rfl, hQ, ⟨_, rfl⟩, hW, hsame.mono hc hs⟩
theorem Gl.outI (X : Stand p l e R s m args below meth c T locs cells slots) (hx : p.tables.exec = Jvm.exec) (hk : meth.locks = false) {pc : Nat} {Ls : Array Slot} {z : Int32} {rest : List Value} (hret : meth.sig.returnType = some .int)
    (hd : decode c.code pc = .ok (.ireturn, 1)) {C S : Nat} {Q : Option Value → Heap → List Loc → Prop} (hQ : Q (some (.int z)) T.heap locs) (hc : cells ≤ C) (hs : slots ≤ S) : Gl p e below (Pos C S Q s) T (mkF m pc Ls (.int z :: rest)) := by
  obtain ⟨fs, hr, hrun, hended, hW, hsame⟩ := X.leave (v := some (.int z)) (fun h => by rw [hret] at h; cases h) hk
  exact ⟨_, _, retI X hx hret hd hr, hrun, hended, _, _, rfl, hQ, ⟨_, rfl⟩, hW, hsame.mono hc hs⟩
theorem Gl.outJ (X : Stand p l e R s m args below meth c T locs cells slots) (hx : p.tables.exec = Jvm.exec) (hk : meth.locks = false) {pc : Nat} {Ls : Array Slot} {z : Int64} {rest : List Value} (hret : meth.sig.returnType = some .long)
    (hd : decode c.code pc = .ok (.lreturn, 1)) {C S : Nat} {Q : Option Value → Heap → List Loc → Prop} (hQ : Q (some (.long z)) T.heap locs) (hc : cells ≤ C) (hs : slots ≤ S) : Gl p e below (Pos C S Q s) T (mkF m pc Ls (.long z :: rest)) := by
  obtain ⟨fs, hr, hrun, hended, hW, hsame⟩ := X.leave (v := some (.long z)) (fun h => by rw [hret] at h; cases h) hk
  exact ⟨_, _, retOut X hx hret rfl (Or.inr (Or.inl ⟨rfl, rfl, _, rfl⟩)) hd hr, hrun, hended, _, _, rfl, hQ, ⟨_, rfl⟩, hW, hsame.mono hc hs⟩
theorem Gl.outD (X : Stand p l e R s m args below meth c T locs cells slots) (hx : p.tables.exec = Jvm.exec) (hk : meth.locks = false) {pc : Nat} {Ls : Array Slot} {z : UInt64} {rest : List Value} (hret : meth.sig.returnType = some .double)
    (hd : decode c.code pc = .ok (.dreturn, 1)) {C S : Nat} {Q : Option Value → Heap → List Loc → Prop} (hQ : Q (some (.double z)) T.heap locs) (hc : cells ≤ C) (hs : slots ≤ S) : Gl p e below (Pos C S Q s) T (mkF m pc Ls (.double z :: rest)) := by
  obtain ⟨fs, hr, hrun, hended, hW, hsame⟩ := X.leave (v := some (.double z)) (fun h => by rw [hret] at h; cases h) hk
  exact ⟨_, _, retOut X hx hret rfl (Or.inr (Or.inr (Or.inl ⟨rfl, rfl, _, rfl⟩))) hd hr, hrun, hended, _, _, rfl, hQ, ⟨_, rfl⟩, hW, hsame.mono hc hs⟩
theorem Gl.outA (X : Stand p l e R s m args below meth c T locs cells slots) (hx : p.tables.exec = Jvm.exec) (hk : meth.locks = false) {pc : Nat} {Ls : Array Slot} {w : Value} {t : FieldType} {rest : List Value} (hret : meth.sig.returnType = some t) (ht : t.isReference = true) (hw : w.isRef = true)
    (hd : decode c.code pc = .ok (.areturn, 1)) {C S : Nat} {Q : Option Value → Heap → List Loc → Prop} (hQ : Q (some w) T.heap locs) (hc : cells ≤ C) (hs : slots ≤ S) : Gl p e below (Pos C S Q s) T (mkF m pc Ls (w :: rest)) := by
  obtain ⟨fs, hr, hrun, hended, hW, hsame⟩ := X.leave (v := some w) (fun h => by rw [hret] at h; cases h) hk
  exact ⟨_, _, retOut X hx hret (by rcases ref_cases hw with rfl | ⟨a, rfl⟩ <;> cases t <;> first | rfl | (cases ht; done)) (Or.inr (Or.inr (Or.inr (Or.inr ⟨rfl, ht, hw⟩)))) hd hr, hrun, hended, _, _, rfl, hQ, ⟨_, rfl⟩, hW, hsame.mono hc hs⟩
theorem Gl.outV (X : Stand p l e R s m args below meth c T locs cells slots) (hx : p.tables.exec = Jvm.exec) (hk : meth.locks = false) {pc : Nat} {Ls : Array Slot} (hret : meth.sig.returnType = none)
    (hd : decode c.code pc = .ok (.return_, 1)) {C S : Nat} {Q : Option Value → Heap → List Loc → Prop} (hQ : Q none T.heap locs) (hc : cells ≤ C) (hs : slots ≤ S) : Gl p e below (Pos C S Q s) T (mkF m pc Ls []) := by
  obtain ⟨fs, hr, hrun, hended, hW, hsame⟩ := X.leave (v := none) (fun _ => rfl) hk
  exact ⟨_, _, X.returnOut hx hret hd hr, hrun, hended, _, _, rfl, hQ, ⟨_, rfl⟩, hW, hsame.mono hc hs⟩
def PosW (C S : Nat) (Q : Option Value → Heap → List Loc → Prop) (s : State) (U : State) (o : Outcome) : Prop := ∃ v L, o = .returned v ∧ Q v U.heap L ∧ ReturnedEndW s o U L C S
theorem ReturnedEndW.mono {s t : State} {o : Outcome} {L : List Loc} {k n k' n' : Nat} (h : ReturnedEndW s o t L k n) (hk : k ≤ k') (hn : n ≤ n') : ReturnedEndW s o t L k' n' := ⟨h.1, h.2.1, h.2.2.1, h.2.2.2.mono hk hn⟩
section Wide
variable {vm₁ : Vm} {n₁ : Nat}
theorem Gl.outNW (X : Stand p l e R (s.setVm vm₁) m args below meth c T locs cells slots) (hS : s.Since vm₁ n₁) (hn : n₁ ≤ T.heap.size) (hx : p.tables.exec = Jvm.exec) (hk : meth.locks = false) {pc : Nat} {Ls : Array Slot} {z : Int32} {t : FieldType} {rest : List Value} (hret : meth.sig.returnType = some t) (ht : t = .boolean ∨ t = .byte ∨ t = .char ∨ t = .short)
    (hd : decode c.code pc = .ok (.ireturn, 1)) {C S : Nat} {Q : Option Value → Heap → List Loc → Prop} (hQ : Q (some (.int (nar t z))) T.heap locs) (hc : cells ≤ C) (hs : slots ≤ S) : Gl p e below (PosW C S Q s) T (mkF m pc Ls (.int z :: rest)) := by
  obtain ⟨fs, hr, hrun, hended, hW⟩ := X.leaveW hS hn (v := some (.int (nar t z))) (fun h => by rw [hret] at h; cases h) hk
  exact ⟨_, _, retN X hx hret ht hd hr, hrun, hended, _, _, rfl, hQ, ReturnedEndW.mono hW hc hs⟩
theorem Gl.outIW (X : Stand p l e R (s.setVm vm₁) m args below meth c T locs cells slots) (hS : s.Since vm₁ n₁) (hn : n₁ ≤ T.heap.size) (hx : p.tables.exec = Jvm.exec) (hk : meth.locks = false) {pc : Nat} {Ls : Array Slot} {z : Int32} {rest : List Value} (hret : meth.sig.returnType = some .int)
    (hd : decode c.code pc = .ok (.ireturn, 1)) {C S : Nat} {Q : Option Value → Heap → List Loc → Prop} (hQ : Q (some (.int z)) T.heap locs) (hc : cells ≤ C) (hs : slots ≤ S) : Gl p e below (PosW C S Q s) T (mkF m pc Ls (.int z :: rest)) := by
  obtain ⟨fs, hr, hrun, hended, hW⟩ := X.leaveW hS hn (v := some (.int z)) (fun h => by rw [hret] at h; cases h) hk
  exact ⟨_, _, retI X hx hret hd hr, hrun, hended, _, _, rfl, hQ, ReturnedEndW.mono hW hc hs⟩
theorem Gl.outAW (X : Stand p l e R (s.setVm vm₁) m args below meth c T locs cells slots) (hS : s.Since vm₁ n₁) (hn : n₁ ≤ T.heap.size) (hx : p.tables.exec = Jvm.exec) (hk : meth.locks = false) {pc : Nat} {Ls : Array Slot} {w : Value} {t : FieldType} {rest : List Value} (hret : meth.sig.returnType = some t) (ht : t.isReference = true) (hw : w.isRef = true)
    (hd : decode c.code pc = .ok (.areturn, 1)) {C S : Nat} {Q : Option Value → Heap → List Loc → Prop} (hQ : Q (some w) T.heap locs) (hc : cells ≤ C) (hs : slots ≤ S) : Gl p e below (PosW C S Q s) T (mkF m pc Ls (w :: rest)) := by
  obtain ⟨fs, hr, hrun, hended, hW⟩ := X.leaveW hS hn (v := some w) (fun h => by rw [hret] at h; cases h) hk
  exact ⟨_, _, retOut X hx hret (by rcases ref_cases hw with rfl | ⟨a, rfl⟩ <;> cases t <;> first | rfl | (cases ht; done)) (Or.inr (Or.inr (Or.inr (Or.inr ⟨rfl, ht, hw⟩)))) hd hr, hrun, hended, _, _, rfl, hQ, ReturnedEndW.mono hW hc hs⟩
theorem Gl.outVW (X : Stand p l e R (s.setVm vm₁) m args below meth c T locs cells slots) (hS : s.Since vm₁ n₁) (hn : n₁ ≤ T.heap.size) (hx : p.tables.exec = Jvm.exec) (hk : meth.locks = false) {pc : Nat} {Ls : Array Slot} (hret : meth.sig.returnType = none)
    (hd : decode c.code pc = .ok (.return_, 1)) {C S : Nat} {Q : Option Value → Heap → List Loc → Prop} (hQ : Q none T.heap locs) (hc : cells ≤ C) (hs : slots ≤ S) : Gl p e below (PosW C S Q s) T (mkF m pc Ls []) := by
  obtain ⟨fs, hr, hrun, hended, hW⟩ := X.leaveW hS hn (v := none) (fun _ => rfl) hk
  exact ⟨_, _, X.returnOut hx hret hd hr, hrun, hended, _, _, rfl, hQ, ReturnedEndW.mono hW hc hs⟩
end Wide
theorem eqI_v {args : Array Value} {first s : State} {o : Option Outcome} {idx : List Nat} {t : Term} {k : Int32} (h : (Cond.eq t (.int k)).value args first o s idx = some true) : t.eval args first o idx s = some (.int k) := by
  simp only [Cond.value, Term.eval] at h
  cases ht : t.eval args first o idx s with
  | none => simp [ht] at h
  | some x => cases x <;> simp [ht] at h ⊢; exact h
end New
end Jvm.RoadKit
namespace Jvm.Pilot.@@N@@
open Jvm Jvm.ClassFile Sem Op Lib Jvm.Free Jvm.Stand Jvm.LawKit Jvm.RoadKit Bundle Jvm.Pilot.@@N@@.Jvm.D
def Wd (Z : State) (w_CONSUME w_PUBLISH w_CREATE w_ACCESS w_BIND w_UNBIND w_DELETE w_PURGE w_UPDATE w_MOVE w_REDIRECT w_REROUTE w_QUEUE w_EXCHANGE w_BROKER w_LINK w_METHOD w_QUERY w_CONNECTION : Addr) : Prop := Sta Z Z.heap "com/example/gatewarden/gatewarden/core/Action" "CONSUME" "Lcom/example/gatewarden/gatewarden/core/Action;" (.ref w_CONSUME) ∧ Exa Z Z.heap w_CONSUME "com/example/gatewarden/gatewarden/core/Action" ∧ Sta Z Z.heap "com/example/gatewarden/gatewarden/core/Action" "PUBLISH" "Lcom/example/gatewarden/gatewarden/core/Action;" (.ref w_PUBLISH) ∧ Exa Z Z.heap w_PUBLISH "com/example/gatewarden/gatewarden/core/Action" ∧ Sta Z Z.heap "com/example/gatewarden/gatewarden/core/Action" "CREATE" "Lcom/example/gatewarden/gatewarden/core/Action;" (.ref w_CREATE) ∧ Exa Z Z.heap w_CREATE "com/example/gatewarden/gatewarden/core/Action" ∧ Sta Z Z.heap "com/example/gatewarden/gatewarden/core/Action" "ACCESS" "Lcom/example/gatewarden/gatewarden/core/Action;" (.ref w_ACCESS) ∧ Exa Z Z.heap w_ACCESS "com/example/gatewarden/gatewarden/core/Action" ∧ Sta Z Z.heap "com/example/gatewarden/gatewarden/core/Action" "BIND" "Lcom/example/gatewarden/gatewarden/core/Action;" (.ref w_BIND) ∧ Exa Z Z.heap w_BIND "com/example/gatewarden/gatewarden/core/Action" ∧ Sta Z Z.heap "com/example/gatewarden/gatewarden/core/Action" "UNBIND" "Lcom/example/gatewarden/gatewarden/core/Action;" (.ref w_UNBIND) ∧ Exa Z Z.heap w_UNBIND "com/example/gatewarden/gatewarden/core/Action" ∧ Sta Z Z.heap "com/example/gatewarden/gatewarden/core/Action" "DELETE" "Lcom/example/gatewarden/gatewarden/core/Action;" (.ref w_DELETE) ∧ Exa Z Z.heap w_DELETE "com/example/gatewarden/gatewarden/core/Action" ∧ Sta Z Z.heap "com/example/gatewarden/gatewarden/core/Action" "PURGE" "Lcom/example/gatewarden/gatewarden/core/Action;" (.ref w_PURGE) ∧ Exa Z Z.heap w_PURGE "com/example/gatewarden/gatewarden/core/Action" ∧ Sta Z Z.heap "com/example/gatewarden/gatewarden/core/Action" "UPDATE" "Lcom/example/gatewarden/gatewarden/core/Action;" (.ref w_UPDATE) ∧ Exa Z Z.heap w_UPDATE "com/example/gatewarden/gatewarden/core/Action" ∧ Sta Z Z.heap "com/example/gatewarden/gatewarden/core/Action" "MOVE" "Lcom/example/gatewarden/gatewarden/core/Action;" (.ref w_MOVE) ∧ Exa Z Z.heap w_MOVE "com/example/gatewarden/gatewarden/core/Action" ∧ Sta Z Z.heap "com/example/gatewarden/gatewarden/core/Action" "REDIRECT" "Lcom/example/gatewarden/gatewarden/core/Action;" (.ref w_REDIRECT) ∧ Exa Z Z.heap w_REDIRECT "com/example/gatewarden/gatewarden/core/Action" ∧ Sta Z Z.heap "com/example/gatewarden/gatewarden/core/Action" "REROUTE" "Lcom/example/gatewarden/gatewarden/core/Action;" (.ref w_REROUTE) ∧ Exa Z Z.heap w_REROUTE "com/example/gatewarden/gatewarden/core/Action" ∧ Sta Z Z.heap "com/example/gatewarden/gatewarden/core/ObjectType" "QUEUE" "Lcom/example/gatewarden/gatewarden/core/ObjectType;" (.ref w_QUEUE) ∧ Exa Z Z.heap w_QUEUE "com/example/gatewarden/gatewarden/core/ObjectType" ∧ Sta Z Z.heap "com/example/gatewarden/gatewarden/core/ObjectType" "EXCHANGE" "Lcom/example/gatewarden/gatewarden/core/ObjectType;" (.ref w_EXCHANGE) ∧ Exa Z Z.heap w_EXCHANGE "com/example/gatewarden/gatewarden/core/ObjectType" ∧ Sta Z Z.heap "com/example/gatewarden/gatewarden/core/ObjectType" "BROKER" "Lcom/example/gatewarden/gatewarden/core/ObjectType;" (.ref w_BROKER) ∧ Exa Z Z.heap w_BROKER "com/example/gatewarden/gatewarden/core/ObjectType" ∧ Sta Z Z.heap "com/example/gatewarden/gatewarden/core/ObjectType" "LINK" "Lcom/example/gatewarden/gatewarden/core/ObjectType;" (.ref w_LINK) ∧ Exa Z Z.heap w_LINK "com/example/gatewarden/gatewarden/core/ObjectType" ∧ Sta Z Z.heap "com/example/gatewarden/gatewarden/core/ObjectType" "METHOD" "Lcom/example/gatewarden/gatewarden/core/ObjectType;" (.ref w_METHOD) ∧ Exa Z Z.heap w_METHOD "com/example/gatewarden/gatewarden/core/ObjectType" ∧ Sta Z Z.heap "com/example/gatewarden/gatewarden/core/ObjectType" "QUERY" "Lcom/example/gatewarden/gatewarden/core/ObjectType;" (.ref w_QUERY) ∧ Exa Z Z.heap w_QUERY "com/example/gatewarden/gatewarden/core/ObjectType" ∧ Sta Z Z.heap "com/example/gatewarden/gatewarden/core/ObjectType" "CONNECTION" "Lcom/example/gatewarden/gatewarden/core/ObjectType;" (.ref w_CONNECTION) ∧ Exa Z Z.heap w_CONNECTION "com/example/gatewarden/gatewarden/core/ObjectType" ∧ Fld Z Z.heap w_CONSUME "java/lang/Enum" "ordinal" "I" (.int (0 : Int32)) ∧ Fld Z Z.heap w_CREATE "java/lang/Enum" "ordinal" "I" (.int (2 : Int32)) ∧ Fld Z Z.heap w_EXCHANGE "java/lang/Enum" "ordinal" "I" (.int (1 : Int32)) ∧ Fld Z Z.heap w_CONNECTION "java/lang/Enum" "ordinal" "I" (.int (6 : Int32)) ∧ Fld Z Z.heap w_UPDATE "java/lang/Enum" "ordinal" "I" (.int (8 : Int32)) ∧ Fld Z Z.heap w_BIND "java/lang/Enum" "ordinal" "I" (.int (4 : Int32)) ∧ Fld Z Z.heap w_PUBLISH "java/lang/Enum" "ordinal" "I" (.int (1 : Int32)) ∧ Fld Z Z.heap w_DELETE "java/lang/Enum" "ordinal" "I" (.int (6 : Int32)) ∧ Fld Z Z.heap w_REROUTE "java/lang/Enum" "ordinal" "I" (.int (11 : Int32)) ∧ Fld Z Z.heap w_ACCESS "java/lang/Enum" "ordinal" "I" (.int (3 : Int32)) ∧ Fld Z Z.heap w_MOVE "java/lang/Enum" "ordinal" "I" (.int (9 : Int32)) ∧ Fld Z Z.heap w_PURGE "java/lang/Enum" "ordinal" "I" (.int (7 : Int32)) ∧ Fld Z Z.heap w_REDIRECT "java/lang/Enum" "ordinal" "I" (.int (10 : Int32)) ∧ Fld Z Z.heap w_BROKER "java/lang/Enum" "ordinal" "I" (.int (2 : Int32)) ∧ Fld Z Z.heap w_UNBIND "java/lang/Enum" "ordinal" "I" (.int (5 : Int32)) ∧ Fld Z Z.heap w_LINK "java/lang/Enum" "ordinal" "I" (.int (3 : Int32)) ∧ Fld Z Z.heap w_QUEUE "java/lang/Enum" "ordinal" "I" (.int (0 : Int32)) ∧ Fld Z Z.heap w_QUERY "java/lang/Enum" "ordinal" "I" (.int (5 : Int32)) ∧ Fld Z Z.heap w_METHOD "java/lang/Enum" "ordinal" "I" (.int (4 : Int32))
def sel (l : List Addr) (j : Int32) : Addr := l.getD j.toNatClampNeg 0
theorem sel_at (l : List Addr) (j : Int32) (h : j.toNatClampNeg < l.length) : (l.map Value.ref).getD j.toNatClampNeg .null = .ref (sel l j) := by
  simp [sel, List.getD, List.getElem?_map, List.getElem?_eq_getElem h]
theorem idx_ok (x : Int32) (q : Int32) (h : 0 < q.toInt) : ¬ ((x &&& 2147483647) % q) < 0 ∧ ((x &&& 2147483647) % q) < q := by
  have hm := c_mask x 2147483647 31 (by decide) (by decide)
  have hr := c_irem (x &&& 2147483647) q q.toInt rfl
  have hl : (0 : Int32).toInt = 0 := by decide
  have a : 0 ≤ (x &&& 2147483647).toInt := by rw [hm]; omega
  have b := hr.1 a
  have c1 := Int.emod_nonneg (x &&& 2147483647).toInt (show q.toInt ≠ 0 by omega)
  have c2 := Int.emod_lt_of_pos (x &&& 2147483647).toInt h
  rw [Int32.lt_iff_toInt_lt, Int32.lt_iff_toInt_lt, b, hl]
  omega
theorem idx_nat {j q : Int32} {n : Nat} (h : ¬ j < 0 ∧ j < q) (hq : q.toInt = n) : j.toNatClampNeg < n := by
  have h1 := nat_of h.1
  have h2 := h.2
  rw [Int32.lt_iff_toInt_lt, hq, h1] at h2
  omega
theorem d1_0 : decode prog_21_method_3_code 0 = .ok (.aload_n 0, 1) := by decide +kernel
theorem d1_1 : decode prog_21_method_3_code 1 = .ok (.getstatic 60, 3) := by decide +kernel
theorem d1_4 : decode prog_21_method_3_code 4 = .ok (.if_acmp .ne 14, 3) := by decide +kernel
theorem d1_7 : decode prog_21_method_3_code 7 = .ok (.aload_n 1, 1) := by decide +kernel
theorem d1_8 : decode prog_21_method_3_code 8 = .ok (.getstatic 65, 3) := by decide +kernel
theorem d1_11 : decode prog_21_method_3_code 11 = .ok (.if_acmp .ne 7, 3) := by decide +kernel
theorem d1_14 : decode prog_21_method_3_code 14 = .ok (.iconst 1, 1) := by decide +kernel
theorem d1_15 : decode prog_21_method_3_code 15 = .ok (.goto 4, 3) := by decide +kernel
theorem d1_18 : decode prog_21_method_3_code 18 = .ok (.iconst 0, 1) := by decide +kernel
theorem d1_19 : decode prog_21_method_3_code 19 = .ok (.ireturn, 1) := by decide +kernel
theorem pn0 : plainName "com/example/gatewarden/gatewarden/core/Lookup" = true := by first | (simp [plainName, overriddenIn]; done) | decide +kernel
theorem ef1 (m : MethodId) (x0 : Addr) (x1 : Addr) : entryFrame m #[(.ref x0), (.ref x1)] 2 = mkF m 0 #[.val (.ref x0), .val (.ref x1)] [] := by first | (simp [entryFrame, mkF, argsToLocals, Value.category]; done) | rfl
def fn1 (a0 : Addr) (a1 : Addr) (w_CONSUME w_PUBLISH w_CREATE w_ACCESS w_BIND w_UNBIND w_DELETE w_PURGE w_UPDATE w_MOVE w_REDIRECT w_REROUTE w_QUEUE w_EXCHANGE w_BROKER w_LINK w_METHOD w_QUERY w_CONNECTION : Addr) : Int32 := if a0 = w_CREATE then if a1 = w_CONNECTION then (1 : Int32) else (0 : Int32) else (0 : Int32)
def Q1 (Z : State) (a0 : Addr) (a1 : Addr) (w_CONSUME w_PUBLISH w_CREATE w_ACCESS w_BIND w_UNBIND w_DELETE w_PURGE w_UPDATE w_MOVE w_REDIRECT w_REROUTE w_QUEUE w_EXCHANGE w_BROKER w_LINK w_METHOD w_QUERY w_CONNECTION : Addr) (h0 : Heap) (n0 : Nat) (v : Option Value) (h : Heap) (L : List Loc) : Prop := v = some (.int (fn1 a0 a1 w_CONSUME w_PUBLISH w_CREATE w_ACCESS w_BIND w_UNBIND w_DELETE w_PURGE w_UPDATE w_MOVE w_REDIRECT w_REROUTE w_QUEUE w_EXCHANGE w_BROKER w_LINK w_METHOD w_QUERY w_CONNECTION)) ∧ Fr n0 L ∧ h = h0
set_option maxRecDepth 65536 in
set_option maxHeartbeats 40000000 in
theorem rm1 (l : Launch) (Z : State) (a0' : Array Value) (hw : ∀ d ∈ tables_1, d.before a0' Z = true) (ws : List Jvm.Cond) (a0 : Addr) (a1 : Addr) (w_CONSUME w_PUBLISH w_CREATE w_ACCESS w_BIND w_UNBIND w_DELETE w_PURGE w_UPDATE w_MOVE w_REDIRECT w_REROUTE w_QUEUE w_EXCHANGE w_BROKER w_LINK w_METHOD w_QUERY w_CONNECTION : Addr) (h0 : Heap) (n0 : Nat) (O : Old Z n0 h0) (W : Wd Z w_CONSUME w_PUBLISH w_CREATE w_ACCESS w_BIND w_UNBIND w_DELETE w_PURGE w_UPDATE w_MOVE w_REDIRECT w_REROUTE w_QUEUE w_EXCHANGE w_BROKER w_LINK w_METHOD w_QUERY w_CONNECTION) :
    MetFree l (⟨"com/example/gatewarden/gatewarden/core/Lookup", "isConnection", "(Lcom/example/gatewarden/gatewarden/core/Action;Lcom/example/gatewarden/gatewarden/core/ObjectType;)Z"⟩ : MethodName) (head1 (Jvm.Cond.code (⟨"com/example/gatewarden/gatewarden/core/Lookup", "isConnection", "(Lcom/example/gatewarden/gatewarden/core/Action;Lcom/example/gatewarden/gatewarden/core/ObjectType;)Z"⟩ : MethodName) prog_21_method_3_code 2 (some .boolean) :: ws) ({ frames := 0, cells := 0, slots := 0, locals := 0 } : Room)) (fun a U => a = #[(.ref a0), (.ref a1)] ∧ Z.Warmed39 U.vm ∧ U.heap = h0) (fun _ _ _ _ _ => True) (fun _ U o U' => ∃ v L, o = .returned v ∧ Q1 Z a0 a1 w_CONSUME w_PUBLISH w_CREATE w_ACCESS w_BIND w_UNBIND w_DELETE w_PURGE w_UPDATE w_MOVE w_REDIRECT w_REROUTE w_QUEUE w_EXCHANGE w_BROKER w_LINK w_METHOD w_QUERY w_CONNECTION h0 n0 v U'.heap L ∧ FrameEnd U o U' L ({ frames := 0, cells := 0, slots := 0, locals := 0 } : Room).cells ({ frames := 0, cells := 0, slots := 0, locals := 0 } : Room).slots) := by
  refine MetFree.of_bodySF (plainFor_of_name pn0) hisR ?_
  intro p e s m args below meth c s₁ Bd hml0 hP hK
  obtain ⟨rfl, hZ, hh⟩ := hP
  have hx := Bd.exec
  have hby := Bd.bytes
  have hml : c.maxLocals = 2 := hml0
  have hown : s.vm.findClass "com/example/gatewarden/gatewarden/core/Lookup" = some m.cls := findClass_of_methodNamed Bd.named
  have hnm := (name_of_methodNamed Bd.named Bd.method).1
  have hk := Bd.notSynchronized
  have X0 : Stand p l e ({ frames := 0, cells := 0, slots := 0, locals := 0 } : Room) s m #[(.ref a0), (.ref a1)] below meth c s₁ [] 0 0 := Stand.of_body Bd
  have hh2 := hh
  have e0 : s₁.heap = h0 := by rw [← hh, Bd.state]; rfl
  have N0 := Fr.nil n0
  show Gl p e below (Pos 0 0 (Q1 Z a0 a1 w_CONSUME w_PUBLISH w_CREATE w_ACCESS w_BIND w_UNBIND w_DELETE w_PURGE w_UPDATE w_MOVE w_REDIRECT w_REROUTE w_QUEUE w_EXCHANGE w_BROKER w_LINK w_METHOD w_QUERY w_CONNECTION h0 n0) s) s₁ _
  refine Gl.cast (ef1 m a0 a1) ?_
  refine Gl.by (g' := (mkF m 1 #[.val (.ref a0), .val (.ref a1)] [(.ref a0)])) (fun _ k => XS.aloadN X0.here hx rfl (hb hby d1_0) rfl rfl k) ?_
  obtain ⟨T1, X1, e1, st1⟩ := getS2 X0 hx hZ hown (host := "") (Or.inl (hw _ (List.mem_of_getElem? (i := 51) rfl))) Via.refl e0 (Sta.ext O.2 W.2.2.2.2.1) (g := (mkF m 1 #[.val (.ref a0), .val (.ref a1)] [(.ref a0)])) rfl (hb hby d1_1)
  refine Gl.by (g' := (mkF m 4 #[.val (.ref a0), .val (.ref a1)] [(.ref w_CREATE), (.ref a0)])) st1 ?_
  by_cases hc2 : a0 = w_CREATE
  · refine Gl.by (g' := (mkF m 7 #[.val (.ref a0), .val (.ref a1)] [])) (fun _ k => Jvm.RoadKit.acmp (g := (mkF m 4 #[.val (.ref a0), .val (.ref a1)] [(.ref w_CREATE), (.ref a0)])) X1 hx rfl rfl rfl (pc0 := 4) (pc' := 7) (same := true) rfl (hb hby d1_4) rfl (decide_eq_true (congrArg Value.ref hc2)) (by decide) (by decide) k) ?_
    refine Gl.by (g' := (mkF m 8 #[.val (.ref a0), .val (.ref a1)] [(.ref a1)])) (fun _ k => XS.aloadN X1.here hx rfl (hb hby d1_7) rfl rfl k) ?_
    obtain ⟨T3, X3, e3, st3⟩ := getS2 X1 hx hZ hown (host := "") (Or.inl (hw _ (List.mem_of_getElem? (i := 52) rfl))) Via.refl e1 (Sta.ext O.2 W.2.2.2.2.2.2.2.2.2.2.2.2.2.2.2.2.2.2.2.2.2.2.2.2.2.2.2.2.2.2.2.2.2.2.2.2.1) (g := (mkF m 8 #[.val (.ref a0), .val (.ref a1)] [(.ref a1)])) rfl (hb hby d1_8)
    refine Gl.by (g' := (mkF m 11 #[.val (.ref a0), .val (.ref a1)] [(.ref w_CONNECTION), (.ref a1)])) st3 ?_
    by_cases hc4 : a1 = w_CONNECTION
    · refine Gl.by (g' := (mkF m 14 #[.val (.ref a0), .val (.ref a1)] [])) (fun _ k => Jvm.RoadKit.acmp (g := (mkF m 11 #[.val (.ref a0), .val (.ref a1)] [(.ref w_CONNECTION), (.ref a1)])) X3 hx rfl rfl rfl (pc0 := 11) (pc' := 14) (same := true) rfl (hb hby d1_11) rfl (decide_eq_true (congrArg Value.ref hc4)) (by decide) (by decide) k) ?_
      refine Gl.by (g' := (mkF m 15 #[.val (.ref a0), .val (.ref a1)] [(.int (1 : Int32))])) (fun _ k => XS.iconst X3.here hx rfl (hb hby d1_14) k) ?_
      refine Gl.by (g' := (mkF m 19 #[.val (.ref a0), .val (.ref a1)] [(.int (1 : Int32))])) (fun _ k => XS.goto X3.here hx rfl (pc0 := 15) (pc' := 19) rfl (hb hby d1_15) (by decide) (by decide) k) ?_
      exact Gl.outN X3 hx hk (t := .boolean) Bd.returns (by simp) (hb hby d1_19) ⟨(congrArg (fun z => some (Value.int z)) (show nar .boolean (1 : Int32) = fn1 a0 a1 w_CONSUME w_PUBLISH w_CREATE w_ACCESS w_BIND w_UNBIND w_DELETE w_PURGE w_UPDATE w_MOVE w_REDIRECT w_REROUTE w_QUEUE w_EXCHANGE w_BROKER w_LINK w_METHOD w_QUERY w_CONNECTION by unfold fn1; rw [if_pos hc2, if_pos hc4]; try rfl)), N0, e3⟩ (by decide) (by decide)
    · refine Gl.by (g' := (mkF m 18 #[.val (.ref a0), .val (.ref a1)] [])) (fun _ k => Jvm.RoadKit.acmp (g := (mkF m 11 #[.val (.ref a0), .val (.ref a1)] [(.ref w_CONNECTION), (.ref a1)])) X3 hx rfl rfl rfl (pc0 := 11) (pc' := 18) (same := false) rfl (hb hby d1_11) rfl (decide_eq_false fun q => hc4 (Value.ref.inj q)) (by decide) (by decide) k) ?_
      refine Gl.by (g' := (mkF m 19 #[.val (.ref a0), .val (.ref a1)] [(.int (0 : Int32))])) (fun _ k => XS.iconst X3.here hx rfl (hb hby d1_18) k) ?_
      exact Gl.outN X3 hx hk (t := .boolean) Bd.returns (by simp) (hb hby d1_19) ⟨(congrArg (fun z => some (Value.int z)) (show nar .boolean (0 : Int32) = fn1 a0 a1 w_CONSUME w_PUBLISH w_CREATE w_ACCESS w_BIND w_UNBIND w_DELETE w_PURGE w_UPDATE w_MOVE w_REDIRECT w_REROUTE w_QUEUE w_EXCHANGE w_BROKER w_LINK w_METHOD w_QUERY w_CONNECTION by unfold fn1; rw [if_pos hc2, if_neg hc4]; try rfl)), N0, e3⟩ (by decide) (by decide)
  · refine Gl.by (g' := (mkF m 18 #[.val (.ref a0), .val (.ref a1)] [])) (fun _ k => Jvm.RoadKit.acmp (g := (mkF m 4 #[.val (.ref a0), .val (.ref a1)] [(.ref w_CREATE), (.ref a0)])) X1 hx rfl rfl rfl (pc0 := 4) (pc' := 18) (same := false) rfl (hb hby d1_4) rfl (decide_eq_false fun q => hc2 (Value.ref.inj q)) (by decide) (by decide) k) ?_
    refine Gl.by (g' := (mkF m 19 #[.val (.ref a0), .val (.ref a1)] [(.int (0 : Int32))])) (fun _ k => XS.iconst X1.here hx rfl (hb hby d1_18) k) ?_
    exact Gl.outN X1 hx hk (t := .boolean) Bd.returns (by simp) (hb hby d1_19) ⟨(congrArg (fun z => some (Value.int z)) (show nar .boolean (0 : Int32) = fn1 a0 a1 w_CONSUME w_PUBLISH w_CREATE w_ACCESS w_BIND w_UNBIND w_DELETE w_PURGE w_UPDATE w_MOVE w_REDIRECT w_REROUTE w_QUEUE w_EXCHANGE w_BROKER w_LINK w_METHOD w_QUERY w_CONNECTION by unfold fn1; rw [if_neg hc2]; try rfl)), N0, e1⟩ (by decide) (by decide)
theorem pn1 : plainName "com/example/gatewarden/gatewarden/core/LookupIsConnectionPinLaw" = true := by first | (simp [plainName, overriddenIn]; done) | decide +kernel
theorem pd10 : parseMethodDescriptor "(Lcom/example/gatewarden/gatewarden/core/Action;Lcom/example/gatewarden/gatewarden/core/ObjectType;)Z" = some ⟨[(.object "com/example/gatewarden/gatewarden/core/Action"), (.object "com/example/gatewarden/gatewarden/core/ObjectType")], some .boolean⟩ := by decide +kernel
theorem ef0 (m : MethodId) (x0 : Int32) (x1 : Int32) : entryFrame m #[(.int x0), (.int x1)] maxLocals = mkF m 0 #[.val (.int x0), .val (.int x1), .unset, .unset, .unset, .unset, .unset, .unset] [] := by first | (simp [entryFrame, mkF, argsToLocals, Value.category, maxLocals]; done) | rfl
def fn0 (p0 : Int32) (p1 : Int32) (w_CONSUME w_PUBLISH w_CREATE w_ACCESS w_BIND w_UNBIND w_DELETE w_PURGE w_UPDATE w_MOVE w_REDIRECT w_REROUTE w_QUEUE w_EXCHANGE w_BROKER w_LINK w_METHOD w_QUERY w_CONNECTION : Addr) : Int32 := if ((p0 &&& (2147483647 : Int32)) % (12 : Int32)) = (2 : Int32) then if ((p1 &&& (2147483647 : Int32)) % (7 : Int32)) = (6 : Int32) then if (fn1 (sel [w_CONSUME, w_PUBLISH, w_CREATE, w_ACCESS, w_BIND, w_UNBIND, w_DELETE, w_PURGE, w_UPDATE, w_MOVE, w_REDIRECT, w_REROUTE] ((p0 &&& (2147483647 : Int32)) % (12 : Int32))) (sel [w_QUEUE, w_EXCHANGE, w_BROKER, w_LINK, w_METHOD, w_QUERY, w_CONNECTION] ((p1 &&& (2147483647 : Int32)) % (7 : Int32))) w_CONSUME w_PUBLISH w_CREATE w_ACCESS w_BIND w_UNBIND w_DELETE w_PURGE w_UPDATE w_MOVE w_REDIRECT w_REROUTE w_QUEUE w_EXCHANGE w_BROKER w_LINK w_METHOD w_QUERY w_CONNECTION) = (1 : Int32) then (1 : Int32) else (0 : Int32) else if (fn1 (sel [w_CONSUME, w_PUBLISH, w_CREATE, w_ACCESS, w_BIND, w_UNBIND, w_DELETE, w_PURGE, w_UPDATE, w_MOVE, w_REDIRECT, w_REROUTE] ((p0 &&& (2147483647 : Int32)) % (12 : Int32))) (sel [w_QUEUE, w_EXCHANGE, w_BROKER, w_LINK, w_METHOD, w_QUERY, w_CONNECTION] ((p1 &&& (2147483647 : Int32)) % (7 : Int32))) w_CONSUME w_PUBLISH w_CREATE w_ACCESS w_BIND w_UNBIND w_DELETE w_PURGE w_UPDATE w_MOVE w_REDIRECT w_REROUTE w_QUEUE w_EXCHANGE w_BROKER w_LINK w_METHOD w_QUERY w_CONNECTION) = (0 : Int32) then (1 : Int32) else (0 : Int32) else if (fn1 (sel [w_CONSUME, w_PUBLISH, w_CREATE, w_ACCESS, w_BIND, w_UNBIND, w_DELETE, w_PURGE, w_UPDATE, w_MOVE, w_REDIRECT, w_REROUTE] ((p0 &&& (2147483647 : Int32)) % (12 : Int32))) (sel [w_QUEUE, w_EXCHANGE, w_BROKER, w_LINK, w_METHOD, w_QUERY, w_CONNECTION] ((p1 &&& (2147483647 : Int32)) % (7 : Int32))) w_CONSUME w_PUBLISH w_CREATE w_ACCESS w_BIND w_UNBIND w_DELETE w_PURGE w_UPDATE w_MOVE w_REDIRECT w_REROUTE w_QUEUE w_EXCHANGE w_BROKER w_LINK w_METHOD w_QUERY w_CONNECTION) = (0 : Int32) then (1 : Int32) else (0 : Int32)
def Q0 (Z : State) (p0 : Int32) (p1 : Int32) (w_CONSUME w_PUBLISH w_CREATE w_ACCESS w_BIND w_UNBIND w_DELETE w_PURGE w_UPDATE w_MOVE w_REDIRECT w_REROUTE w_QUEUE w_EXCHANGE w_BROKER w_LINK w_METHOD w_QUERY w_CONNECTION : Addr) (h0 : Heap) (n0 : Nat) (v : Option Value) (h : Heap) (L : List Loc) : Prop := v = some (.int (fn0 p0 p1 w_CONSUME w_PUBLISH w_CREATE w_ACCESS w_BIND w_UNBIND w_DELETE w_PURGE w_UPDATE w_MOVE w_REDIRECT w_REROUTE w_QUEUE w_EXCHANGE w_BROKER w_LINK w_METHOD w_QUERY w_CONNECTION)) ∧ Fr n0 L
set_option maxRecDepth 65536 in
set_option maxHeartbeats 40000000 in
theorem rm0 (l : Launch) (Z : State) (a0' : Array Value) (hw : ∀ d ∈ tables_1, d.before a0' Z = true) (ws : List Jvm.Cond) (p0 : Int32) (p1 : Int32) (w_CONSUME w_PUBLISH w_CREATE w_ACCESS w_BIND w_UNBIND w_DELETE w_PURGE w_UPDATE w_MOVE w_REDIRECT w_REROUTE w_QUEUE w_EXCHANGE w_BROKER w_LINK w_METHOD w_QUERY w_CONNECTION : Addr) (h0 : Heap) (n0 : Nat) (O : Old Z n0 h0) (W : Wd Z w_CONSUME w_PUBLISH w_CREATE w_ACCESS w_BIND w_UNBIND w_DELETE w_PURGE w_UPDATE w_MOVE w_REDIRECT w_REROUTE w_QUEUE w_EXCHANGE w_BROKER w_LINK w_METHOD w_QUERY w_CONNECTION) :
    MetFree l x (head1 (Jvm.Cond.code x code maxLocals ret :: ws) room_1) (fun a U => a = #[(.int p0), (.int p1)] ∧ Z.Warmed39 U.vm ∧ U.heap = h0) (fun _ _ _ _ _ => True) (fun _ U o U' => ∃ v L, o = .returned v ∧ Q0 Z p0 p1 w_CONSUME w_PUBLISH w_CREATE w_ACCESS w_BIND w_UNBIND w_DELETE w_PURGE w_UPDATE w_MOVE w_REDIRECT w_REROUTE w_QUEUE w_EXCHANGE w_BROKER w_LINK w_METHOD w_QUERY w_CONNECTION h0 n0 v U'.heap L ∧ FrameEnd U o U' L 16 128) := by
  refine MetFree.of_bodySF (plainFor_of_name pn1) hisR ?_
  intro p e s m args below meth c s₁ Bd hml0 hP hK
  obtain ⟨rfl, hZ, hh⟩ := hP
  have hx := Bd.exec
  have hby := Bd.bytes
  have hml : c.maxLocals = 8 := hml0
  have hown : s.vm.findClass "com/example/gatewarden/gatewarden/core/LookupIsConnectionPinLaw" = some m.cls := findClass_of_methodNamed Bd.named
  have hnm := (name_of_methodNamed Bd.named Bd.method).1
  have hk := Bd.notSynchronized
  have X0 : Stand p l e room_1 s m #[(.int p0), (.int p1)] below meth c s₁ [] 0 0 := Stand.of_body Bd
  have hh2 := hh
  have e0 : s₁.heap = h0 := by rw [← hh, Bd.state]; rfl
  have N0 := Fr.nil n0
  show Gl p e below (Pos 16 128 (Q0 Z p0 p1 w_CONSUME w_PUBLISH w_CREATE w_ACCESS w_BIND w_UNBIND w_DELETE w_PURGE w_UPDATE w_MOVE w_REDIRECT w_REROUTE w_QUEUE w_EXCHANGE w_BROKER w_LINK w_METHOD w_QUERY w_CONNECTION h0 n0) s) s₁ _
  refine Gl.cast (ef0 m p0 p1) ?_
  refine Gl.by (g' := (mkF m 2 #[.val (.int p0), .val (.int p1), .unset, .unset, .unset, .unset, .unset, .unset] [(.int (12 : Int32))])) (fun _ k => XS.bipush X0.here hx rfl (hb hby at_0) k) ?_
  obtain ⟨T1, h1, k1, X1, e1, E1, A1, Ov1, st1⟩ := newR X0 hx hZ hown (hw _ (List.mem_of_getElem? (i := 0) rfl)) (hw _ (List.mem_of_getElem? (i := 1) rfl)) e0 (g := (mkF m 2 #[.val (.int p0), .val (.int p1), .unset, .unset, .unset, .unset, .unset, .unset] [(.int (12 : Int32))])) rfl (hb hby at_2) rfl (by decide) (cap := 12) (by decide) (by decide) (by decide) (by decide)
  obtain ⟨b1, g1⟩ : ∃ z, z = (h0).size := ⟨_, rfl⟩
  rw [← g1] at A1 st1
  have gb1 : n0 ≤ b1 := Nat.le_trans (Nat.le_trans (Nat.le_of_eq O.1.symm) O.2.1) (Nat.le_of_eq g1.symm)
  have sb1 : h0.size ≤ b1 := Nat.le_trans (Keep.refl h0 []).1 (Nat.le_of_eq g1.symm)
  have V1 : Arv Z h1 b1 k1 (.object "com/example/gatewarden/gatewarden/core/Action") (12 : Int32) [.null, .null, .null, .null, .null, .null, .null, .null, .null, .null, .null, .null] .null := (Arv.new A1 (by decide)).pad (pad_rep [] .null 12)
  refine Gl.by (g' := (mkF m 5 #[.val (.int p0), .val (.int p1), .unset, .unset, .unset, .unset, .unset, .unset] [(.ref b1)])) st1 ?_
  refine Gl.by (g' := (mkF m 6 #[.val (.int p0), .val (.int p1), .unset, .unset, .unset, .unset, .unset, .unset] [(.ref b1), (.ref b1)])) (fun _ k => XS.dup X1.here hx rfl (hb hby at_5) rfl rfl k) ?_
  refine Gl.by (g' := (mkF m 7 #[.val (.int p0), .val (.int p1), .unset, .unset, .unset, .unset, .unset, .unset] [(.int (0 : Int32)), (.ref b1), (.ref b1)])) (fun _ k => XS.iconst X1.here hx rfl (hb hby at_6) k) ?_
  have O3 := (O.ext E1)
  obtain ⟨T2, X2, e2, st2⟩ := getS2 X1 hx hZ hown (host := "") (Or.inl (hw _ (List.mem_of_getElem? (i := 2) rfl))) Via.refl e1 (Sta.ext O3.2 W.1) (g := (mkF m 7 #[.val (.int p0), .val (.int p1), .unset, .unset, .unset, .unset, .unset, .unset] [(.int (0 : Int32)), (.ref b1), (.ref b1)])) rfl (hb hby at_7)
  refine Gl.by (g' := (mkF m 10 #[.val (.int p0), .val (.int p1), .unset, .unset, .unset, .unset, .unset, .unset] [(.ref w_CONSUME), (.int (0 : Int32)), (.ref b1), (.ref b1)])) st2 ?_
  obtain ⟨cl4, Ar4, qa4, Sa4, Na4, Ha4, Ga4⟩ := id V1
  have hin5 : ¬ ((0 : Int32) < 0 ∨ cl4.slots.size ≤ ((0 : Int32)).toNatClampNeg) := inb_of Sa4 ⟨by decide, by decide⟩
  obtain ⟨T5, h5, X5, e5, W5, st5⟩ := stR X2 hx hZ e2 Ar4 (j := (0 : Int32)) hin5 rfl (Sto.ofV Ar4 qa4 Ov1 (Ins.self (Exa.ext O3.2 W.2.1))) (g := (mkF m 10 #[.val (.int p0), .val (.int p1), .unset, .unset, .unset, .unset, .unset, .unset] [(.ref w_CONSUME), (.int (0 : Int32)), (.ref b1), (.ref b1)])) rfl rfl (hb hby at_10)
  have V5 : Arv Z h5 b1 k1 (.object "com/example/gatewarden/gatewarden/core/Action") (12 : Int32) [(.ref w_CONSUME), .null, .null, .null, .null, .null, .null, .null, .null, .null, .null, .null] .null := Arv.set Ar4 qa4 Sa4 Na4 Ha4 Ga4 rfl W5 0 rfl (Nat.le_of_ble_eq_true rfl)
  have N5 := Fr.snoc X5 N0 gb1
  refine Gl.by (g' := (mkF m 11 #[.val (.int p0), .val (.int p1), .unset, .unset, .unset, .unset, .unset, .unset] [(.ref b1)])) st5 ?_
  refine Gl.by (g' := (mkF m 12 #[.val (.int p0), .val (.int p1), .unset, .unset, .unset, .unset, .unset, .unset] [(.ref b1), (.ref b1)])) (fun _ k => XS.dup X5.here hx rfl (hb hby at_11) rfl rfl k) ?_
  refine Gl.by (g' := (mkF m 13 #[.val (.int p0), .val (.int p1), .unset, .unset, .unset, .unset, .unset, .unset] [(.int (1 : Int32)), (.ref b1), (.ref b1)])) (fun _ k => XS.iconst X5.here hx rfl (hb hby at_12) k) ?_
  have O7 := (O3.wr W5 gb1)
  obtain ⟨T6, X6, e6, st6⟩ := getS2 X5 hx hZ hown (host := "") (Or.inl (hw _ (List.mem_of_getElem? (i := 6) rfl))) Via.refl e5 (Sta.ext O7.2 W.2.2.1) (g := (mkF m 13 #[.val (.int p0), .val (.int p1), .unset, .unset, .unset, .unset, .unset, .unset] [(.int (1 : Int32)), (.ref b1), (.ref b1)])) rfl (hb hby at_13)
  refine Gl.by (g' := (mkF m 16 #[.val (.int p0), .val (.int p1), .unset, .unset, .unset, .unset, .unset, .unset] [(.ref w_PUBLISH), (.int (1 : Int32)), (.ref b1), (.ref b1)])) st6 ?_
  obtain ⟨cl8, Ar8, qa8, Sa8, Na8, Ha8, Ga8⟩ := id V5
  have hin9 : ¬ ((1 : Int32) < 0 ∨ cl8.slots.size ≤ ((1 : Int32)).toNatClampNeg) := inb_of Sa8 ⟨by decide, by decide⟩
  obtain ⟨T9, h9, X9, e9, W9, st9⟩ := stR X6 hx hZ e6 Ar8 (j := (1 : Int32)) hin9 rfl (Sto.ofV Ar8 qa8 Ov1 (Ins.self (Exa.ext O7.2 W.2.2.2.1))) (g := (mkF m 16 #[.val (.int p0), .val (.int p1), .unset, .unset, .unset, .unset, .unset, .unset] [(.ref w_PUBLISH), (.int (1 : Int32)), (.ref b1), (.ref b1)])) rfl rfl (hb hby at_16)
  have V9 : Arv Z h9 b1 k1 (.object "com/example/gatewarden/gatewarden/core/Action") (12 : Int32) [(.ref w_CONSUME), (.ref w_PUBLISH), .null, .null, .null, .null, .null, .null, .null, .null, .null, .null] .null := Arv.set Ar8 qa8 Sa8 Na8 Ha8 Ga8 rfl W9 1 rfl (Nat.le_of_ble_eq_true rfl)
  have N9 := Fr.snoc X9 N5 gb1
  refine Gl.by (g' := (mkF m 17 #[.val (.int p0), .val (.int p1), .unset, .unset, .unset, .unset, .unset, .unset] [(.ref b1)])) st9 ?_
  refine Gl.by (g' := (mkF m 18 #[.val (.int p0), .val (.int p1), .unset, .unset, .unset, .unset, .unset, .unset] [(.ref b1), (.ref b1)])) (fun _ k => XS.dup X9.here hx rfl (hb hby at_17) rfl rfl k) ?_
  refine Gl.by (g' := (mkF m 19 #[.val (.int p0), .val (.int p1), .unset, .unset, .unset, .unset, .unset, .unset] [(.int (2 : Int32)), (.ref b1), (.ref b1)])) (fun _ k => XS.iconst X9.here hx rfl (hb hby at_18) k) ?_
  have O11 := (O7.wr W9 gb1)
  obtain ⟨T10, X10, e10, st10⟩ := getS2 X9 hx hZ hown (host := "") (Or.inl (hw _ (List.mem_of_getElem? (i := 8) rfl))) Via.refl e9 (Sta.ext O11.2 W.2.2.2.2.1) (g := (mkF m 19 #[.val (.int p0), .val (.int p1), .unset, .unset, .unset, .unset, .unset, .unset] [(.int (2 : Int32)), (.ref b1), (.ref b1)])) rfl (hb hby at_19)
  refine Gl.by (g' := (mkF m 22 #[.val (.int p0), .val (.int p1), .unset, .unset, .unset, .unset, .unset, .unset] [(.ref w_CREATE), (.int (2 : Int32)), (.ref b1), (.ref b1)])) st10 ?_
  obtain ⟨cl12, Ar12, qa12, Sa12, Na12, Ha12, Ga12⟩ := id V9
  have hin13 : ¬ ((2 : Int32) < 0 ∨ cl12.slots.size ≤ ((2 : Int32)).toNatClampNeg) := inb_of Sa12 ⟨by decide, by decide⟩
  obtain ⟨T13, h13, X13, e13, W13, st13⟩ := stR X10 hx hZ e10 Ar12 (j := (2 : Int32)) hin13 rfl (Sto.ofV Ar12 qa12 Ov1 (Ins.self (Exa.ext O11.2 W.2.2.2.2.2.1))) (g := (mkF m 22 #[.val (.int p0), .val (.int p1), .unset, .unset, .unset, .unset, .unset, .unset] [(.ref w_CREATE), (.int (2 : Int32)), (.ref b1), (.ref b1)])) rfl rfl (hb hby at_22)
  have V13 : Arv Z h13 b1 k1 (.object "com/example/gatewarden/gatewarden/core/Action") (12 : Int32) [(.ref w_CONSUME), (.ref w_PUBLISH), (.ref w_CREATE), .null, .null, .null, .null, .null, .null, .null, .null, .null] .null := Arv.set Ar12 qa12 Sa12 Na12 Ha12 Ga12 rfl W13 2 rfl (Nat.le_of_ble_eq_true rfl)
  have N13 := Fr.snoc X13 N9 gb1
  refine Gl.by (g' := (mkF m 23 #[.val (.int p0), .val (.int p1), .unset, .unset, .unset, .unset, .unset, .unset] [(.ref b1)])) st13 ?_
  refine Gl.by (g' := (mkF m 24 #[.val (.int p0), .val (.int p1), .unset, .unset, .unset, .unset, .unset, .unset] [(.ref b1), (.ref b1)])) (fun _ k => XS.dup X13.here hx rfl (hb hby at_23) rfl rfl k) ?_
  refine Gl.by (g' := (mkF m 25 #[.val (.int p0), .val (.int p1), .unset, .unset, .unset, .unset, .unset, .unset] [(.int (3 : Int32)), (.ref b1), (.ref b1)])) (fun _ k => XS.iconst X13.here hx rfl (hb hby at_24) k) ?_
  have O15 := (O11.wr W13 gb1)
  obtain ⟨T14, X14, e14, st14⟩ := getS2 X13 hx hZ hown (host := "") (Or.inl (hw _ (List.mem_of_getElem? (i := 10) rfl))) Via.refl e13 (Sta.ext O15.2 W.2.2.2.2.2.2.1) (g := (mkF m 25 #[.val (.int p0), .val (.int p1), .unset, .unset, .unset, .unset, .unset, .unset] [(.int (3 : Int32)), (.ref b1), (.ref b1)])) rfl (hb hby at_25)
  refine Gl.by (g' := (mkF m 28 #[.val (.int p0), .val (.int p1), .unset, .unset, .unset, .unset, .unset, .unset] [(.ref w_ACCESS), (.int (3 : Int32)), (.ref b1), (.ref b1)])) st14 ?_
  obtain ⟨cl16, Ar16, qa16, Sa16, Na16, Ha16, Ga16⟩ := id V13
  have hin17 : ¬ ((3 : Int32) < 0 ∨ cl16.slots.size ≤ ((3 : Int32)).toNatClampNeg) := inb_of Sa16 ⟨by decide, by decide⟩
  obtain ⟨T17, h17, X17, e17, W17, st17⟩ := stR X14 hx hZ e14 Ar16 (j := (3 : Int32)) hin17 rfl (Sto.ofV Ar16 qa16 Ov1 (Ins.self (Exa.ext O15.2 W.2.2.2.2.2.2.2.1))) (g := (mkF m 28 #[.val (.int p0), .val (.int p1), .unset, .unset, .unset, .unset, .unset, .unset] [(.ref w_ACCESS), (.int (3 : Int32)), (.ref b1), (.ref b1)])) rfl rfl (hb hby at_28)
  have V17 : Arv Z h17 b1 k1 (.object "com/example/gatewarden/gatewarden/core/Action") (12 : Int32) [(.ref w_CONSUME), (.ref w_PUBLISH), (.ref w_CREATE), (.ref w_ACCESS), .null, .null, .null, .null, .null, .null, .null, .null] .null := Arv.set Ar16 qa16 Sa16 Na16 Ha16 Ga16 rfl W17 3 rfl (Nat.le_of_ble_eq_true rfl)
  have N17 := Fr.snoc X17 N13 gb1
  refine Gl.by (g' := (mkF m 29 #[.val (.int p0), .val (.int p1), .unset, .unset, .unset, .unset, .unset, .unset] [(.ref b1)])) st17 ?_
  refine Gl.by (g' := (mkF m 30 #[.val (.int p0), .val (.int p1), .unset, .unset, .unset, .unset, .unset, .unset] [(.ref b1), (.ref b1)])) (fun _ k => XS.dup X17.here hx rfl (hb hby at_29) rfl rfl k) ?_
  refine Gl.by (g' := (mkF m 31 #[.val (.int p0), .val (.int p1), .unset, .unset, .unset, .unset, .unset, .unset] [(.int (4 : Int32)), (.ref b1), (.ref b1)])) (fun _ k => XS.iconst X17.here hx rfl (hb hby at_30) k) ?_
  have O19 := (O15.wr W17 gb1)
  obtain ⟨T18, X18, e18, st18⟩ := getS2 X17 hx hZ hown (host := "") (Or.inl (hw _ (List.mem_of_getElem? (i := 12) rfl))) Via.refl e17 (Sta.ext O19.2 W.2.2.2.2.2.2.2.2.1) (g := (mkF m 31 #[.val (.int p0), .val (.int p1), .unset, .unset, .unset, .unset, .unset, .unset] [(.int (4 : Int32)), (.ref b1), (.ref b1)])) rfl (hb hby at_31)
  refine Gl.by (g' := (mkF m 34 #[.val (.int p0), .val (.int p1), .unset, .unset, .unset, .unset, .unset, .unset] [(.ref w_BIND), (.int (4 : Int32)), (.ref b1), (.ref b1)])) st18 ?_
  obtain ⟨cl20, Ar20, qa20, Sa20, Na20, Ha20, Ga20⟩ := id V17
  have hin21 : ¬ ((4 : Int32) < 0 ∨ cl20.slots.size ≤ ((4 : Int32)).toNatClampNeg) := inb_of Sa20 ⟨by decide, by decide⟩
  obtain ⟨T21, h21, X21, e21, W21, st21⟩ := stR X18 hx hZ e18 Ar20 (j := (4 : Int32)) hin21 rfl (Sto.ofV Ar20 qa20 Ov1 (Ins.self (Exa.ext O19.2 W.2.2.2.2.2.2.2.2.2.1))) (g := (mkF m 34 #[.val (.int p0), .val (.int p1), .unset, .unset, .unset, .unset, .unset, .unset] [(.ref w_BIND), (.int (4 : Int32)), (.ref b1), (.ref b1)])) rfl rfl (hb hby at_34)
  have V21 : Arv Z h21 b1 k1 (.object "com/example/gatewarden/gatewarden/core/Action") (12 : Int32) [(.ref w_CONSUME), (.ref w_PUBLISH), (.ref w_CREATE), (.ref w_ACCESS), (.ref w_BIND), .null, .null, .null, .null, .null, .null, .null] .null := Arv.set Ar20 qa20 Sa20 Na20 Ha20 Ga20 rfl W21 4 rfl (Nat.le_of_ble_eq_true rfl)
  have N21 := Fr.snoc X21 N17 gb1
  refine Gl.by (g' := (mkF m 35 #[.val (.int p0), .val (.int p1), .unset, .unset, .unset, .unset, .unset, .unset] [(.ref b1)])) st21 ?_
  refine Gl.by (g' := (mkF m 36 #[.val (.int p0), .val (.int p1), .unset, .unset, .unset, .unset, .unset, .unset] [(.ref b1), (.ref b1)])) (fun _ k => XS.dup X21.here hx rfl (hb hby at_35) rfl rfl k) ?_
  refine Gl.by (g' := (mkF m 37 #[.val (.int p0), .val (.int p1), .unset, .unset, .unset, .unset, .unset, .unset] [(.int (5 : Int32)), (.ref b1), (.ref b1)])) (fun _ k => XS.iconst X21.here hx rfl (hb hby at_36) k) ?_
  have O23 := (O19.wr W21 gb1)
  obtain ⟨T22, X22, e22, st22⟩ := getS2 X21 hx hZ hown (host := "") (Or.inl (hw _ (List.mem_of_getElem? (i := 14) rfl))) Via.refl e21 (Sta.ext O23.2 W.2.2.2.2.2.2.2.2.2.2.1) (g := (mkF m 37 #[.val (.int p0), .val (.int p1), .unset, .unset, .unset, .unset, .unset, .unset] [(.int (5 : Int32)), (.ref b1), (.ref b1)])) rfl (hb hby at_37)
  refine Gl.by (g' := (mkF m 40 #[.val (.int p0), .val (.int p1), .unset, .unset, .unset, .unset, .unset, .unset] [(.ref w_UNBIND), (.int (5 : Int32)), (.ref b1), (.ref b1)])) st22 ?_
  obtain ⟨cl24, Ar24, qa24, Sa24, Na24, Ha24, Ga24⟩ := id V21
  have hin25 : ¬ ((5 : Int32) < 0 ∨ cl24.slots.size ≤ ((5 : Int32)).toNatClampNeg) := inb_of Sa24 ⟨by decide, by decide⟩
  obtain ⟨T25, h25, X25, e25, W25, st25⟩ := stR X22 hx hZ e22 Ar24 (j := (5 : Int32)) hin25 rfl (Sto.ofV Ar24 qa24 Ov1 (Ins.self (Exa.ext O23.2 W.2.2.2.2.2.2.2.2.2.2.2.1))) (g := (mkF m 40 #[.val (.int p0), .val (.int p1), .unset, .unset, .unset, .unset, .unset, .unset] [(.ref w_UNBIND), (.int (5 : Int32)), (.ref b1), (.ref b1)])) rfl rfl (hb hby at_40)
  have V25 : Arv Z h25 b1 k1 (.object "com/example/gatewarden/gatewarden/core/Action") (12 : Int32) [(.ref w_CONSUME), (.ref w_PUBLISH), (.ref w_CREATE), (.ref w_ACCESS), (.ref w_BIND), (.ref w_UNBIND), .null, .null, .null, .null, .null, .null] .null := Arv.set Ar24 qa24 Sa24 Na24 Ha24 Ga24 rfl W25 5 rfl (Nat.le_of_ble_eq_true rfl)
  have N25 := Fr.snoc X25 N21 gb1
  refine Gl.by (g' := (mkF m 41 #[.val (.int p0), .val (.int p1), .unset, .unset, .unset, .unset, .unset, .unset] [(.ref b1)])) st25 ?_
  refine Gl.by (g' := (mkF m 42 #[.val (.int p0), .val (.int p1), .unset, .unset, .unset, .unset, .unset, .unset] [(.ref b1), (.ref b1)])) (fun _ k => XS.dup X25.here hx rfl (hb hby at_41) rfl rfl k) ?_
  refine Gl.by (g' := (mkF m 44 #[.val (.int p0), .val (.int p1), .unset, .unset, .unset, .unset, .unset, .unset] [(.int (6 : Int32)), (.ref b1), (.ref b1)])) (fun _ k => XS.bipush X25.here hx rfl (hb hby at_42) k) ?_
  have O27 := (O23.wr W25 gb1)
  obtain ⟨T26, X26, e26, st26⟩ := getS2 X25 hx hZ hown (host := "") (Or.inl (hw _ (List.mem_of_getElem? (i := 16) rfl))) Via.refl e25 (Sta.ext O27.2 W.2.2.2.2.2.2.2.2.2.2.2.2.1) (g := (mkF m 44 #[.val (.int p0), .val (.int p1), .unset, .unset, .unset, .unset, .unset, .unset] [(.int (6 : Int32)), (.ref b1), (.ref b1)])) rfl (hb hby at_44)
  refine Gl.by (g' := (mkF m 47 #[.val (.int p0), .val (.int p1), .unset, .unset, .unset, .unset, .unset, .unset] [(.ref w_DELETE), (.int (6 : Int32)), (.ref b1), (.ref b1)])) st26 ?_
  obtain ⟨cl28, Ar28, qa28, Sa28, Na28, Ha28, Ga28⟩ := id V25
  have hin29 : ¬ ((6 : Int32) < 0 ∨ cl28.slots.size ≤ ((6 : Int32)).toNatClampNeg) := inb_of Sa28 ⟨by decide, by decide⟩
  obtain ⟨T29, h29, X29, e29, W29, st29⟩ := stR X26 hx hZ e26 Ar28 (j := (6 : Int32)) hin29 rfl (Sto.ofV Ar28 qa28 Ov1 (Ins.self (Exa.ext O27.2 W.2.2.2.2.2.2.2.2.2.2.2.2.2.1))) (g := (mkF m 47 #[.val (.int p0), .val (.int p1), .unset, .unset, .unset, .unset, .unset, .unset] [(.ref w_DELETE), (.int (6 : Int32)), (.ref b1), (.ref b1)])) rfl rfl (hb hby at_47)
  have V29 : Arv Z h29 b1 k1 (.object "com/example/gatewarden/gatewarden/core/Action") (12 : Int32) [(.ref w_CONSUME), (.ref w_PUBLISH), (.ref w_CREATE), (.ref w_ACCESS), (.ref w_BIND), (.ref w_UNBIND), (.ref w_DELETE), .null, .null, .null, .null, .null] .null := Arv.set Ar28 qa28 Sa28 Na28 Ha28 Ga28 rfl W29 6 rfl (Nat.le_of_ble_eq_true rfl)
  have N29 := Fr.snoc X29 N25 gb1
  refine Gl.by (g' := (mkF m 48 #[.val (.int p0), .val (.int p1), .unset, .unset, .unset, .unset, .unset, .unset] [(.ref b1)])) st29 ?_
  refine Gl.by (g' := (mkF m 49 #[.val (.int p0), .val (.int p1), .unset, .unset, .unset, .unset, .unset, .unset] [(.ref b1), (.ref b1)])) (fun _ k => XS.dup X29.here hx rfl (hb hby at_48) rfl rfl k) ?_
  refine Gl.by (g' := (mkF m 51 #[.val (.int p0), .val (.int p1), .unset, .unset, .unset, .unset, .unset, .unset] [(.int (7 : Int32)), (.ref b1), (.ref b1)])) (fun _ k => XS.bipush X29.here hx rfl (hb hby at_49) k) ?_
  have O31 := (O27.wr W29 gb1)
  obtain ⟨T30, X30, e30, st30⟩ := getS2 X29 hx hZ hown (host := "") (Or.inl (hw _ (List.mem_of_getElem? (i := 18) rfl))) Via.refl e29 (Sta.ext O31.2 W.2.2.2.2.2.2.2.2.2.2.2.2.2.2.1) (g := (mkF m 51 #[.val (.int p0), .val (.int p1), .unset, .unset, .unset, .unset, .unset, .unset] [(.int (7 : Int32)), (.ref b1), (.ref b1)])) rfl (hb hby at_51)
  refine Gl.by (g' := (mkF m 54 #[.val (.int p0), .val (.int p1), .unset, .unset, .unset, .unset, .unset, .unset] [(.ref w_PURGE), (.int (7 : Int32)), (.ref b1), (.ref b1)])) st30 ?_
  obtain ⟨cl32, Ar32, qa32, Sa32, Na32, Ha32, Ga32⟩ := id V29
  have hin33 : ¬ ((7 : Int32) < 0 ∨ cl32.slots.size ≤ ((7 : Int32)).toNatClampNeg) := inb_of Sa32 ⟨by decide, by decide⟩
  obtain ⟨T33, h33, X33, e33, W33, st33⟩ := stR X30 hx hZ e30 Ar32 (j := (7 : Int32)) hin33 rfl (Sto.ofV Ar32 qa32 Ov1 (Ins.self (Exa.ext O31.2 W.2.2.2.2.2.2.2.2.2.2.2.2.2.2.2.1))) (g := (mkF m 54 #[.val (.int p0), .val (.int p1), .unset, .unset, .unset, .unset, .unset, .unset] [(.ref w_PURGE), (.int (7 : Int32)), (.ref b1), (.ref b1)])) rfl rfl (hb hby at_54)
  have V33 : Arv Z h33 b1 k1 (.object "com/example/gatewarden/gatewarden/core/Action") (12 : Int32) [(.ref w_CONSUME), (.ref w_PUBLISH), (.ref w_CREATE), (.ref w_ACCESS), (.ref w_BIND), (.ref w_UNBIND), (.ref w_DELETE), (.ref w_PURGE), .null, .null, .null, .null] .null := Arv.set Ar32 qa32 Sa32 Na32 Ha32 Ga32 rfl W33 7 rfl (Nat.le_of_ble_eq_true rfl)
  have N33 := Fr.snoc X33 N29 gb1
  refine Gl.by (g' := (mkF m 55 #[.val (.int p0), .val (.int p1), .unset, .unset, .unset, .unset, .unset, .unset] [(.ref b1)])) st33 ?_
  refine Gl.by (g' := (mkF m 56 #[.val (.int p0), .val (.int p1), .unset, .unset, .unset, .unset, .unset, .unset] [(.ref b1), (.ref b1)])) (fun _ k => XS.dup X33.here hx rfl (hb hby at_55) rfl rfl k) ?_
  refine Gl.by (g' := (mkF m 58 #[.val (.int p0), .val (.int p1), .unset, .unset, .unset, .unset, .unset, .unset] [(.int (8 : Int32)), (.ref b1), (.ref b1)])) (fun _ k => XS.bipush X33.here hx rfl (hb hby at_56) k) ?_
  have O35 := (O31.wr W33 gb1)
  obtain ⟨T34, X34, e34, st34⟩ := getS2 X33 hx hZ hown (host := "") (Or.inl (hw _ (List.mem_of_getElem? (i := 20) rfl))) Via.refl e33 (Sta.ext O35.2 W.2.2.2.2.2.2.2.2.2.2.2.2.2.2.2.2.1) (g := (mkF m 58 #[.val (.int p0), .val (.int p1), .unset, .unset, .unset, .unset, .unset, .unset] [(.int (8 : Int32)), (.ref b1), (.ref b1)])) rfl (hb hby at_58)
  refine Gl.by (g' := (mkF m 61 #[.val (.int p0), .val (.int p1), .unset, .unset, .unset, .unset, .unset, .unset] [(.ref w_UPDATE), (.int (8 : Int32)), (.ref b1), (.ref b1)])) st34 ?_
  obtain ⟨cl36, Ar36, qa36, Sa36, Na36, Ha36, Ga36⟩ := id V33
  have hin37 : ¬ ((8 : Int32) < 0 ∨ cl36.slots.size ≤ ((8 : Int32)).toNatClampNeg) := inb_of Sa36 ⟨by decide, by decide⟩
  obtain ⟨T37, h37, X37, e37, W37, st37⟩ := stR X34 hx hZ e34 Ar36 (j := (8 : Int32)) hin37 rfl (Sto.ofV Ar36 qa36 Ov1 (Ins.self (Exa.ext O35.2 W.2.2.2.2.2.2.2.2.2.2.2.2.2.2.2.2.2.1))) (g := (mkF m 61 #[.val (.int p0), .val (.int p1), .unset, .unset, .unset, .unset, .unset, .unset] [(.ref w_UPDATE), (.int (8 : Int32)), (.ref b1), (.ref b1)])) rfl rfl (hb hby at_61)
  have V37 : Arv Z h37 b1 k1 (.object "com/example/gatewarden/gatewarden/core/Action") (12 : Int32) [(.ref w_CONSUME), (.ref w_PUBLISH), (.ref w_CREATE), (.ref w_ACCESS), (.ref w_BIND), (.ref w_UNBIND), (.ref w_DELETE), (.ref w_PURGE), (.ref w_UPDATE), .null, .null, .null] .null := Arv.set Ar36 qa36 Sa36 Na36 Ha36 Ga36 rfl W37 8 rfl (Nat.le_of_ble_eq_true rfl)
  have N37 := Fr.snoc X37 N33 gb1
  refine Gl.by (g' := (mkF m 62 #[.val (.int p0), .val (.int p1), .unset, .unset, .unset, .unset, .unset, .unset] [(.ref b1)])) st37 ?_
  refine Gl.by (g' := (mkF m 63 #[.val (.int p0), .val (.int p1), .unset, .unset, .unset, .unset, .unset, .unset] [(.ref b1), (.ref b1)])) (fun _ k => XS.dup X37.here hx rfl (hb hby at_62) rfl rfl k) ?_
  refine Gl.by (g' := (mkF m 65 #[.val (.int p0), .val (.int p1), .unset, .unset, .unset, .unset, .unset, .unset] [(.int (9 : Int32)), (.ref b1), (.ref b1)])) (fun _ k => XS.bipush X37.here hx rfl (hb hby at_63) k) ?_
  have O39 := (O35.wr W37 gb1)
  obtain ⟨T38, X38, e38, st38⟩ := getS2 X37 hx hZ hown (host := "") (Or.inl (hw _ (List.mem_of_getElem? (i := 22) rfl))) Via.refl e37 (Sta.ext O39.2 W.2.2.2.2.2.2.2.2.2.2.2.2.2.2.2.2.2.2.1) (g := (mkF m 65 #[.val (.int p0), .val (.int p1), .unset, .unset, .unset, .unset, .unset, .unset] [(.int (9 : Int32)), (.ref b1), (.ref b1)])) rfl (hb hby at_65)
  refine Gl.by (g' := (mkF m 68 #[.val (.int p0), .val (.int p1), .unset, .unset, .unset, .unset, .unset, .unset] [(.ref w_MOVE), (.int (9 : Int32)), (.ref b1), (.ref b1)])) st38 ?_
  obtain ⟨cl40, Ar40, qa40, Sa40, Na40, Ha40, Ga40⟩ := id V37
  have hin41 : ¬ ((9 : Int32) < 0 ∨ cl40.slots.size ≤ ((9 : Int32)).toNatClampNeg) := inb_of Sa40 ⟨by decide, by decide⟩
  obtain ⟨T41, h41, X41, e41, W41, st41⟩ := stR X38 hx hZ e38 Ar40 (j := (9 : Int32)) hin41 rfl (Sto.ofV Ar40 qa40 Ov1 (Ins.self (Exa.ext O39.2 W.2.2.2.2.2.2.2.2.2.2.2.2.2.2.2.2.2.2.2.1))) (g := (mkF m 68 #[.val (.int p0), .val (.int p1), .unset, .unset, .unset, .unset, .unset, .unset] [(.ref w_MOVE), (.int (9 : Int32)), (.ref b1), (.ref b1)])) rfl rfl (hb hby at_68)
  have V41 : Arv Z h41 b1 k1 (.object "com/example/gatewarden/gatewarden/core/Action") (12 : Int32) [(.ref w_CONSUME), (.ref w_PUBLISH), (.ref w_CREATE), (.ref w_ACCESS), (.ref w_BIND), (.ref w_UNBIND), (.ref w_DELETE), (.ref w_PURGE), (.ref w_UPDATE), (.ref w_MOVE), .null, .null] .null := Arv.set Ar40 qa40 Sa40 Na40 Ha40 Ga40 rfl W41 9 rfl (Nat.le_of_ble_eq_true rfl)
  have N41 := Fr.snoc X41 N37 gb1
  refine Gl.by (g' := (mkF m 69 #[.val (.int p0), .val (.int p1), .unset, .unset, .unset, .unset, .unset, .unset] [(.ref b1)])) st41 ?_
  refine Gl.by (g' := (mkF m 70 #[.val (.int p0), .val (.int p1), .unset, .unset, .unset, .unset, .unset, .unset] [(.ref b1), (.ref b1)])) (fun _ k => XS.dup X41.here hx rfl (hb hby at_69) rfl rfl k) ?_
  refine Gl.by (g' := (mkF m 72 #[.val (.int p0), .val (.int p1), .unset, .unset, .unset, .unset, .unset, .unset] [(.int (10 : Int32)), (.ref b1), (.ref b1)])) (fun _ k => XS.bipush X41.here hx rfl (hb hby at_70) k) ?_
  have O43 := (O39.wr W41 gb1)
  obtain ⟨T42, X42, e42, st42⟩ := getS2 X41 hx hZ hown (host := "") (Or.inl (hw _ (List.mem_of_getElem? (i := 24) rfl))) Via.refl e41 (Sta.ext O43.2 W.2.2.2.2.2.2.2.2.2.2.2.2.2.2.2.2.2.2.2.2.1) (g := (mkF m 72 #[.val (.int p0), .val (.int p1), .unset, .unset, .unset, .unset, .unset, .unset] [(.int (10 : Int32)), (.ref b1), (.ref b1)])) rfl (hb hby at_72)
  refine Gl.by (g' := (mkF m 75 #[.val (.int p0), .val (.int p1), .unset, .unset, .unset, .unset, .unset, .unset] [(.ref w_REDIRECT), (.int (10 : Int32)), (.ref b1), (.ref b1)])) st42 ?_
  obtain ⟨cl44, Ar44, qa44, Sa44, Na44, Ha44, Ga44⟩ := id V41
  have hin45 : ¬ ((10 : Int32) < 0 ∨ cl44.slots.size ≤ ((10 : Int32)).toNatClampNeg) := inb_of Sa44 ⟨by decide, by decide⟩
  obtain ⟨T45, h45, X45, e45, W45, st45⟩ := stR X42 hx hZ e42 Ar44 (j := (10 : Int32)) hin45 rfl (Sto.ofV Ar44 qa44 Ov1 (Ins.self (Exa.ext O43.2 W.2.2.2.2.2.2.2.2.2.2.2.2.2.2.2.2.2.2.2.2.2.1))) (g := (mkF m 75 #[.val (.int p0), .val (.int p1), .unset, .unset, .unset, .unset, .unset, .unset] [(.ref w_REDIRECT), (.int (10 : Int32)), (.ref b1), (.ref b1)])) rfl rfl (hb hby at_75)
  have V45 : Arv Z h45 b1 k1 (.object "com/example/gatewarden/gatewarden/core/Action") (12 : Int32) [(.ref w_CONSUME), (.ref w_PUBLISH), (.ref w_CREATE), (.ref w_ACCESS), (.ref w_BIND), (.ref w_UNBIND), (.ref w_DELETE), (.ref w_PURGE), (.ref w_UPDATE), (.ref w_MOVE), (.ref w_REDIRECT), .null] .null := Arv.set Ar44 qa44 Sa44 Na44 Ha44 Ga44 rfl W45 10 rfl (Nat.le_of_ble_eq_true rfl)
  have N45 := Fr.snoc X45 N41 gb1
  refine Gl.by (g' := (mkF m 76 #[.val (.int p0), .val (.int p1), .unset, .unset, .unset, .unset, .unset, .unset] [(.ref b1)])) st45 ?_
  refine Gl.by (g' := (mkF m 77 #[.val (.int p0), .val (.int p1), .unset, .unset, .unset, .unset, .unset, .unset] [(.ref b1), (.ref b1)])) (fun _ k => XS.dup X45.here hx rfl (hb hby at_76) rfl rfl k) ?_
  refine Gl.by (g' := (mkF m 79 #[.val (.int p0), .val (.int p1), .unset, .unset, .unset, .unset, .unset, .unset] [(.int (11 : Int32)), (.ref b1), (.ref b1)])) (fun _ k => XS.bipush X45.here hx rfl (hb hby at_77) k) ?_
  have O47 := (O43.wr W45 gb1)
  obtain ⟨T46, X46, e46, st46⟩ := getS2 X45 hx hZ hown (host := "") (Or.inl (hw _ (List.mem_of_getElem? (i := 26) rfl))) Via.refl e45 (Sta.ext O47.2 W.2.2.2.2.2.2.2.2.2.2.2.2.2.2.2.2.2.2.2.2.2.2.1) (g := (mkF m 79 #[.val (.int p0), .val (.int p1), .unset, .unset, .unset, .unset, .unset, .unset] [(.int (11 : Int32)), (.ref b1), (.ref b1)])) rfl (hb hby at_79)
  refine Gl.by (g' := (mkF m 82 #[.val (.int p0), .val (.int p1), .unset, .unset, .unset, .unset, .unset, .unset] [(.ref w_REROUTE), (.int (11 : Int32)), (.ref b1), (.ref b1)])) st46 ?_
  obtain ⟨cl48, Ar48, qa48, Sa48, Na48, Ha48, Ga48⟩ := id V45
  have hin49 : ¬ ((11 : Int32) < 0 ∨ cl48.slots.size ≤ ((11 : Int32)).toNatClampNeg) := inb_of Sa48 ⟨by decide, by decide⟩
  obtain ⟨T49, h49, X49, e49, W49, st49⟩ := stR X46 hx hZ e46 Ar48 (j := (11 : Int32)) hin49 rfl (Sto.ofV Ar48 qa48 Ov1 (Ins.self (Exa.ext O47.2 W.2.2.2.2.2.2.2.2.2.2.2.2.2.2.2.2.2.2.2.2.2.2.2.1))) (g := (mkF m 82 #[.val (.int p0), .val (.int p1), .unset, .unset, .unset, .unset, .unset, .unset] [(.ref w_REROUTE), (.int (11 : Int32)), (.ref b1), (.ref b1)])) rfl rfl (hb hby at_82)
  have V49 : Arv Z h49 b1 k1 (.object "com/example/gatewarden/gatewarden/core/Action") (12 : Int32) [(.ref w_CONSUME), (.ref w_PUBLISH), (.ref w_CREATE), (.ref w_ACCESS), (.ref w_BIND), (.ref w_UNBIND), (.ref w_DELETE), (.ref w_PURGE), (.ref w_UPDATE), (.ref w_MOVE), (.ref w_REDIRECT), (.ref w_REROUTE)] .null := Arv.set Ar48 qa48 Sa48 Na48 Ha48 Ga48 rfl W49 11 rfl (Nat.le_of_ble_eq_true rfl)
  have N49 := Fr.snoc X49 N45 gb1
  refine Gl.by (g' := (mkF m 83 #[.val (.int p0), .val (.int p1), .unset, .unset, .unset, .unset, .unset, .unset] [(.ref b1)])) st49 ?_
  refine Gl.by (g' := (mkF m 84 #[.val (.int p0), .val (.int p1), .val (.ref b1), .unset, .unset, .unset, .unset, .unset] [])) (fun _ k => XS.astoreN X49.here hx rfl (hb hby at_83) rfl rfl (l' := #[.val (.int p0), .val (.int p1), .val (.ref b1), .unset, .unset, .unset, .unset, .unset]) rfl k) ?_
  refine Gl.by (g' := (mkF m 86 #[.val (.int p0), .val (.int p1), .val (.ref b1), .unset, .unset, .unset, .unset, .unset] [(.int (7 : Int32))])) (fun _ k => XS.bipush X49.here hx rfl (hb hby at_84) k) ?_
  have O51 := (O47.wr W49 gb1)
  have K52 := ((((((((((((((Keep.refl h0 []).ext E1).wr W5 (Or.inr sb1)).wr W9 (Or.inr sb1)).wr W13 (Or.inr sb1)).wr W17 (Or.inr sb1)).wr W21 (Or.inr sb1)).wr W25 (Or.inr sb1)).wr W29 (Or.inr sb1)).wr W33 (Or.inr sb1)).wr W37 (Or.inr sb1)).wr W41 (Or.inr sb1)).wr W45 (Or.inr sb1)).wr W49 (Or.inr sb1))
  obtain ⟨T50, h50, k50, X50, e50, E50, A50, Ov50, st50⟩ := newR X49 hx hZ hown (hw _ (List.mem_of_getElem? (i := 28) rfl)) (hw _ (List.mem_of_getElem? (i := 29) rfl)) e49 (g := (mkF m 86 #[.val (.int p0), .val (.int p1), .val (.ref b1), .unset, .unset, .unset, .unset, .unset] [(.int (7 : Int32))])) rfl (hb hby at_86) rfl (by decide) (cap := 7) (by decide) (by decide) (by decide) (by decide)
  obtain ⟨b50, g50⟩ : ∃ z, z = (h49).size := ⟨_, rfl⟩
  rw [← g50] at A50 st50
  have gb50 : n0 ≤ b50 := Nat.le_trans (Nat.le_trans (Nat.le_of_eq O51.1.symm) O51.2.1) (Nat.le_of_eq g50.symm)
  have sb50 : h0.size ≤ b50 := Nat.le_trans K52.1 (Nat.le_of_eq g50.symm)
  have ne50_0 : b1 ≠ b50 := Nat.ne_of_lt (Nat.lt_of_lt_of_le V49.lt (Nat.le_of_eq g50.symm))
  have V50 : Arv Z h50 b50 k50 (.object "com/example/gatewarden/gatewarden/core/ObjectType") (7 : Int32) [.null, .null, .null, .null, .null, .null, .null] .null := (Arv.new A50 (by decide)).pad (pad_rep [] .null 7)
  refine Gl.by (g' := (mkF m 89 #[.val (.int p0), .val (.int p1), .val (.ref b1), .unset, .unset, .unset, .unset, .unset] [(.ref b50)])) st50 ?_
  refine Gl.by (g' := (mkF m 90 #[.val (.int p0), .val (.int p1), .val (.ref b1), .unset, .unset, .unset, .unset, .unset] [(.ref b50), (.ref b50)])) (fun _ k => XS.dup X50.here hx rfl (hb hby at_89) rfl rfl k) ?_
  refine Gl.by (g' := (mkF m 91 #[.val (.int p0), .val (.int p1), .val (.ref b1), .unset, .unset, .unset, .unset, .unset] [(.int (0 : Int32)), (.ref b50), (.ref b50)])) (fun _ k => XS.iconst X50.here hx rfl (hb hby at_90) k) ?_
  have O54 := (O51.ext E50)
  obtain ⟨T53, X53, e53, st53⟩ := getS2 X50 hx hZ hown (host := "") (Or.inl (hw _ (List.mem_of_getElem? (i := 30) rfl))) Via.refl e50 (Sta.ext O54.2 W.2.2.2.2.2.2.2.2.2.2.2.2.2.2.2.2.2.2.2.2.2.2.2.2.1) (g := (mkF m 91 #[.val (.int p0), .val (.int p1), .val (.ref b1), .unset, .unset, .unset, .unset, .unset] [(.int (0 : Int32)), (.ref b50), (.ref b50)])) rfl (hb hby at_91)
  refine Gl.by (g' := (mkF m 94 #[.val (.int p0), .val (.int p1), .val (.ref b1), .unset, .unset, .unset, .unset, .unset] [(.ref w_QUEUE), (.int (0 : Int32)), (.ref b50), (.ref b50)])) st53 ?_
  obtain ⟨cl55, Ar55, qa55, Sa55, Na55, Ha55, Ga55⟩ := id V50
  have hin56 : ¬ ((0 : Int32) < 0 ∨ cl55.slots.size ≤ ((0 : Int32)).toNatClampNeg) := inb_of Sa55 ⟨by decide, by decide⟩
  obtain ⟨T56, h56, X56, e56, W56, st56⟩ := stR X53 hx hZ e53 Ar55 (j := (0 : Int32)) hin56 rfl (Sto.ofV Ar55 qa55 Ov50 (Ins.self (Exa.ext O54.2 W.2.2.2.2.2.2.2.2.2.2.2.2.2.2.2.2.2.2.2.2.2.2.2.2.2.1))) (g := (mkF m 94 #[.val (.int p0), .val (.int p1), .val (.ref b1), .unset, .unset, .unset, .unset, .unset] [(.ref w_QUEUE), (.int (0 : Int32)), (.ref b50), (.ref b50)])) rfl rfl (hb hby at_94)
  have V56 : Arv Z h56 b50 k50 (.object "com/example/gatewarden/gatewarden/core/ObjectType") (7 : Int32) [(.ref w_QUEUE), .null, .null, .null, .null, .null, .null] .null := Arv.set Ar55 qa55 Sa55 Na55 Ha55 Ga55 rfl W56 0 rfl (Nat.le_of_ble_eq_true rfl)
  have N56 := Fr.snoc X56 N49 gb50
  refine Gl.by (g' := (mkF m 95 #[.val (.int p0), .val (.int p1), .val (.ref b1), .unset, .unset, .unset, .unset, .unset] [(.ref b50)])) st56 ?_
  refine Gl.by (g' := (mkF m 96 #[.val (.int p0), .val (.int p1), .val (.ref b1), .unset, .unset, .unset, .unset, .unset] [(.ref b50), (.ref b50)])) (fun _ k => XS.dup X56.here hx rfl (hb hby at_95) rfl rfl k) ?_
  refine Gl.by (g' := (mkF m 97 #[.val (.int p0), .val (.int p1), .val (.ref b1), .unset, .unset, .unset, .unset, .unset] [(.int (1 : Int32)), (.ref b50), (.ref b50)])) (fun _ k => XS.iconst X56.here hx rfl (hb hby at_96) k) ?_
  have O58 := (O54.wr W56 gb50)
  obtain ⟨T57, X57, e57, st57⟩ := getS2 X56 hx hZ hown (host := "") (Or.inl (hw _ (List.mem_of_getElem? (i := 34) rfl))) Via.refl e56 (Sta.ext O58.2 W.2.2.2.2.2.2.2.2.2.2.2.2.2.2.2.2.2.2.2.2.2.2.2.2.2.2.1) (g := (mkF m 97 #[.val (.int p0), .val (.int p1), .val (.ref b1), .unset, .unset, .unset, .unset, .unset] [(.int (1 : Int32)), (.ref b50), (.ref b50)])) rfl (hb hby at_97)
  refine Gl.by (g' := (mkF m 100 #[.val (.int p0), .val (.int p1), .val (.ref b1), .unset, .unset, .unset, .unset, .unset] [(.ref w_EXCHANGE), (.int (1 : Int32)), (.ref b50), (.ref b50)])) st57 ?_
  obtain ⟨cl59, Ar59, qa59, Sa59, Na59, Ha59, Ga59⟩ := id V56
  have hin60 : ¬ ((1 : Int32) < 0 ∨ cl59.slots.size ≤ ((1 : Int32)).toNatClampNeg) := inb_of Sa59 ⟨by decide, by decide⟩
  obtain ⟨T60, h60, X60, e60, W60, st60⟩ := stR X57 hx hZ e57 Ar59 (j := (1 : Int32)) hin60 rfl (Sto.ofV Ar59 qa59 Ov50 (Ins.self (Exa.ext O58.2 W.2.2.2.2.2.2.2.2.2.2.2.2.2.2.2.2.2.2.2.2.2.2.2.2.2.2.2.1))) (g := (mkF m 100 #[.val (.int p0), .val (.int p1), .val (.ref b1), .unset, .unset, .unset, .unset, .unset] [(.ref w_EXCHANGE), (.int (1 : Int32)), (.ref b50), (.ref b50)])) rfl rfl (hb hby at_100)
  have V60 : Arv Z h60 b50 k50 (.object "com/example/gatewarden/gatewarden/core/ObjectType") (7 : Int32) [(.ref w_QUEUE), (.ref w_EXCHANGE), .null, .null, .null, .null, .null] .null := Arv.set Ar59 qa59 Sa59 Na59 Ha59 Ga59 rfl W60 1 rfl (Nat.le_of_ble_eq_true rfl)
  have N60 := Fr.snoc X60 N56 gb50
  refine Gl.by (g' := (mkF m 101 #[.val (.int p0), .val (.int p1), .val (.ref b1), .unset, .unset, .unset, .unset, .unset] [(.ref b50)])) st60 ?_
  refine Gl.by (g' := (mkF m 102 #[.val (.int p0), .val (.int p1), .val (.ref b1), .unset, .unset, .unset, .unset, .unset] [(.ref b50), (.ref b50)])) (fun _ k => XS.dup X60.here hx rfl (hb hby at_101) rfl rfl k) ?_
  refine Gl.by (g' := (mkF m 103 #[.val (.int p0), .val (.int p1), .val (.ref b1), .unset, .unset, .unset, .unset, .unset] [(.int (2 : Int32)), (.ref b50), (.ref b50)])) (fun _ k => XS.iconst X60.here hx rfl (hb hby at_102) k) ?_
  have O62 := (O58.wr W60 gb50)
  obtain ⟨T61, X61, e61, st61⟩ := getS2 X60 hx hZ hown (host := "") (Or.inl (hw _ (List.mem_of_getElem? (i := 36) rfl))) Via.refl e60 (Sta.ext O62.2 W.2.2.2.2.2.2.2.2.2.2.2.2.2.2.2.2.2.2.2.2.2.2.2.2.2.2.2.2.1) (g := (mkF m 103 #[.val (.int p0), .val (.int p1), .val (.ref b1), .unset, .unset, .unset, .unset, .unset] [(.int (2 : Int32)), (.ref b50), (.ref b50)])) rfl (hb hby at_103)
  refine Gl.by (g' := (mkF m 106 #[.val (.int p0), .val (.int p1), .val (.ref b1), .unset, .unset, .unset, .unset, .unset] [(.ref w_BROKER), (.int (2 : Int32)), (.ref b50), (.ref b50)])) st61 ?_
  obtain ⟨cl63, Ar63, qa63, Sa63, Na63, Ha63, Ga63⟩ := id V60
  have hin64 : ¬ ((2 : Int32) < 0 ∨ cl63.slots.size ≤ ((2 : Int32)).toNatClampNeg) := inb_of Sa63 ⟨by decide, by decide⟩
  obtain ⟨T64, h64, X64, e64, W64, st64⟩ := stR X61 hx hZ e61 Ar63 (j := (2 : Int32)) hin64 rfl (Sto.ofV Ar63 qa63 Ov50 (Ins.self (Exa.ext O62.2 W.2.2.2.2.2.2.2.2.2.2.2.2.2.2.2.2.2.2.2.2.2.2.2.2.2.2.2.2.2.1))) (g := (mkF m 106 #[.val (.int p0), .val (.int p1), .val (.ref b1), .unset, .unset, .unset, .unset, .unset] [(.ref w_BROKER), (.int (2 : Int32)), (.ref b50), (.ref b50)])) rfl rfl (hb hby at_106)
  have V64 : Arv Z h64 b50 k50 (.object "com/example/gatewarden/gatewarden/core/ObjectType") (7 : Int32) [(.ref w_QUEUE), (.ref w_EXCHANGE), (.ref w_BROKER), .null, .null, .null, .null] .null := Arv.set Ar63 qa63 Sa63 Na63 Ha63 Ga63 rfl W64 2 rfl (Nat.le_of_ble_eq_true rfl)
  have N64 := Fr.snoc X64 N60 gb50
  refine Gl.by (g' := (mkF m 107 #[.val (.int p0), .val (.int p1), .val (.ref b1), .unset, .unset, .unset, .unset, .unset] [(.ref b50)])) st64 ?_
  refine Gl.by (g' := (mkF m 108 #[.val (.int p0), .val (.int p1), .val (.ref b1), .unset, .unset, .unset, .unset, .unset] [(.ref b50), (.ref b50)])) (fun _ k => XS.dup X64.here hx rfl (hb hby at_107) rfl rfl k) ?_
  refine Gl.by (g' := (mkF m 109 #[.val (.int p0), .val (.int p1), .val (.ref b1), .unset, .unset, .unset, .unset, .unset] [(.int (3 : Int32)), (.ref b50), (.ref b50)])) (fun _ k => XS.iconst X64.here hx rfl (hb hby at_108) k) ?_
  have O66 := (O62.wr W64 gb50)
  obtain ⟨T65, X65, e65, st65⟩ := getS2 X64 hx hZ hown (host := "") (Or.inl (hw _ (List.mem_of_getElem? (i := 38) rfl))) Via.refl e64 (Sta.ext O66.2 W.2.2.2.2.2.2.2.2.2.2.2.2.2.2.2.2.2.2.2.2.2.2.2.2.2.2.2.2.2.2.1) (g := (mkF m 109 #[.val (.int p0), .val (.int p1), .val (.ref b1), .unset, .unset, .unset, .unset, .unset] [(.int (3 : Int32)), (.ref b50), (.ref b50)])) rfl (hb hby at_109)
  refine Gl.by (g' := (mkF m 112 #[.val (.int p0), .val (.int p1), .val (.ref b1), .unset, .unset, .unset, .unset, .unset] [(.ref w_LINK), (.int (3 : Int32)), (.ref b50), (.ref b50)])) st65 ?_
  obtain ⟨cl67, Ar67, qa67, Sa67, Na67, Ha67, Ga67⟩ := id V64
  have hin68 : ¬ ((3 : Int32) < 0 ∨ cl67.slots.size ≤ ((3 : Int32)).toNatClampNeg) := inb_of Sa67 ⟨by decide, by decide⟩
  obtain ⟨T68, h68, X68, e68, W68, st68⟩ := stR X65 hx hZ e65 Ar67 (j := (3 : Int32)) hin68 rfl (Sto.ofV Ar67 qa67 Ov50 (Ins.self (Exa.ext O66.2 W.2.2.2.2.2.2.2.2.2.2.2.2.2.2.2.2.2.2.2.2.2.2.2.2.2.2.2.2.2.2.2.1))) (g := (mkF m 112 #[.val (.int p0), .val (.int p1), .val (.ref b1), .unset, .unset, .unset, .unset, .unset] [(.ref w_LINK), (.int (3 : Int32)), (.ref b50), (.ref b50)])) rfl rfl (hb hby at_112)
  have V68 : Arv Z h68 b50 k50 (.object "com/example/gatewarden/gatewarden/core/ObjectType") (7 : Int32) [(.ref w_QUEUE), (.ref w_EXCHANGE), (.ref w_BROKER), (.ref w_LINK), .null, .null, .null] .null := Arv.set Ar67 qa67 Sa67 Na67 Ha67 Ga67 rfl W68 3 rfl (Nat.le_of_ble_eq_true rfl)
  have N68 := Fr.snoc X68 N64 gb50
  refine Gl.by (g' := (mkF m 113 #[.val (.int p0), .val (.int p1), .val (.ref b1), .unset, .unset, .unset, .unset, .unset] [(.ref b50)])) st68 ?_
  refine Gl.by (g' := (mkF m 114 #[.val (.int p0), .val (.int p1), .val (.ref b1), .unset, .unset, .unset, .unset, .unset] [(.ref b50), (.ref b50)])) (fun _ k => XS.dup X68.here hx rfl (hb hby at_113) rfl rfl k) ?_
  refine Gl.by (g' := (mkF m 115 #[.val (.int p0), .val (.int p1), .val (.ref b1), .unset, .unset, .unset, .unset, .unset] [(.int (4 : Int32)), (.ref b50), (.ref b50)])) (fun _ k => XS.iconst X68.here hx rfl (hb hby at_114) k) ?_
  have O70 := (O66.wr W68 gb50)
  obtain ⟨T69, X69, e69, st69⟩ := getS2 X68 hx hZ hown (host := "") (Or.inl (hw _ (List.mem_of_getElem? (i := 40) rfl))) Via.refl e68 (Sta.ext O70.2 W.2.2.2.2.2.2.2.2.2.2.2.2.2.2.2.2.2.2.2.2.2.2.2.2.2.2.2.2.2.2.2.2.1) (g := (mkF m 115 #[.val (.int p0), .val (.int p1), .val (.ref b1), .unset, .unset, .unset, .unset, .unset] [(.int (4 : Int32)), (.ref b50), (.ref b50)])) rfl (hb hby at_115)
  refine Gl.by (g' := (mkF m 118 #[.val (.int p0), .val (.int p1), .val (.ref b1), .unset, .unset, .unset, .unset, .unset] [(.ref w_METHOD), (.int (4 : Int32)), (.ref b50), (.ref b50)])) st69 ?_
  obtain ⟨cl71, Ar71, qa71, Sa71, Na71, Ha71, Ga71⟩ := id V68
  have hin72 : ¬ ((4 : Int32) < 0 ∨ cl71.slots.size ≤ ((4 : Int32)).toNatClampNeg) := inb_of Sa71 ⟨by decide, by decide⟩
  obtain ⟨T72, h72, X72, e72, W72, st72⟩ := stR X69 hx hZ e69 Ar71 (j := (4 : Int32)) hin72 rfl (Sto.ofV Ar71 qa71 Ov50 (Ins.self (Exa.ext O70.2 W.2.2.2.2.2.2.2.2.2.2.2.2.2.2.2.2.2.2.2.2.2.2.2.2.2.2.2.2.2.2.2.2.2.1))) (g := (mkF m 118 #[.val (.int p0), .val (.int p1), .val (.ref b1), .unset, .unset, .unset, .unset, .unset] [(.ref w_METHOD), (.int (4 : Int32)), (.ref b50), (.ref b50)])) rfl rfl (hb hby at_118)
  have V72 : Arv Z h72 b50 k50 (.object "com/example/gatewarden/gatewarden/core/ObjectType") (7 : Int32) [(.ref w_QUEUE), (.ref w_EXCHANGE), (.ref w_BROKER), (.ref w_LINK), (.ref w_METHOD), .null, .null] .null := Arv.set Ar71 qa71 Sa71 Na71 Ha71 Ga71 rfl W72 4 rfl (Nat.le_of_ble_eq_true rfl)
  have N72 := Fr.snoc X72 N68 gb50
  refine Gl.by (g' := (mkF m 119 #[.val (.int p0), .val (.int p1), .val (.ref b1), .unset, .unset, .unset, .unset, .unset] [(.ref b50)])) st72 ?_
  refine Gl.by (g' := (mkF m 120 #[.val (.int p0), .val (.int p1), .val (.ref b1), .unset, .unset, .unset, .unset, .unset] [(.ref b50), (.ref b50)])) (fun _ k => XS.dup X72.here hx rfl (hb hby at_119) rfl rfl k) ?_
  refine Gl.by (g' := (mkF m 121 #[.val (.int p0), .val (.int p1), .val (.ref b1), .unset, .unset, .unset, .unset, .unset] [(.int (5 : Int32)), (.ref b50), (.ref b50)])) (fun _ k => XS.iconst X72.here hx rfl (hb hby at_120) k) ?_
  have O74 := (O70.wr W72 gb50)
  obtain ⟨T73, X73, e73, st73⟩ := getS2 X72 hx hZ hown (host := "") (Or.inl (hw _ (List.mem_of_getElem? (i := 42) rfl))) Via.refl e72 (Sta.ext O74.2 W.2.2.2.2.2.2.2.2.2.2.2.2.2.2.2.2.2.2.2.2.2.2.2.2.2.2.2.2.2.2.2.2.2.2.1) (g := (mkF m 121 #[.val (.int p0), .val (.int p1), .val (.ref b1), .unset, .unset, .unset, .unset, .unset] [(.int (5 : Int32)), (.ref b50), (.ref b50)])) rfl (hb hby at_121)
  refine Gl.by (g' := (mkF m 124 #[.val (.int p0), .val (.int p1), .val (.ref b1), .unset, .unset, .unset, .unset, .unset] [(.ref w_QUERY), (.int (5 : Int32)), (.ref b50), (.ref b50)])) st73 ?_
  obtain ⟨cl75, Ar75, qa75, Sa75, Na75, Ha75, Ga75⟩ := id V72
  have hin76 : ¬ ((5 : Int32) < 0 ∨ cl75.slots.size ≤ ((5 : Int32)).toNatClampNeg) := inb_of Sa75 ⟨by decide, by decide⟩
  obtain ⟨T76, h76, X76, e76, W76, st76⟩ := stR X73 hx hZ e73 Ar75 (j := (5 : Int32)) hin76 rfl (Sto.ofV Ar75 qa75 Ov50 (Ins.self (Exa.ext O74.2 W.2.2.2.2.2.2.2.2.2.2.2.2.2.2.2.2.2.2.2.2.2.2.2.2.2.2.2.2.2.2.2.2.2.2.2.1))) (g := (mkF m 124 #[.val (.int p0), .val (.int p1), .val (.ref b1), .unset, .unset, .unset, .unset, .unset] [(.ref w_QUERY), (.int (5 : Int32)), (.ref b50), (.ref b50)])) rfl rfl (hb hby at_124)
  have V76 : Arv Z h76 b50 k50 (.object "com/example/gatewarden/gatewarden/core/ObjectType") (7 : Int32) [(.ref w_QUEUE), (.ref w_EXCHANGE), (.ref w_BROKER), (.ref w_LINK), (.ref w_METHOD), (.ref w_QUERY), .null] .null := Arv.set Ar75 qa75 Sa75 Na75 Ha75 Ga75 rfl W76 5 rfl (Nat.le_of_ble_eq_true rfl)
  have N76 := Fr.snoc X76 N72 gb50
  refine Gl.by (g' := (mkF m 125 #[.val (.int p0), .val (.int p1), .val (.ref b1), .unset, .unset, .unset, .unset, .unset] [(.ref b50)])) st76 ?_
  refine Gl.by (g' := (mkF m 126 #[.val (.int p0), .val (.int p1), .val (.ref b1), .unset, .unset, .unset, .unset, .unset] [(.ref b50), (.ref b50)])) (fun _ k => XS.dup X76.here hx rfl (hb hby at_125) rfl rfl k) ?_
  refine Gl.by (g' := (mkF m 128 #[.val (.int p0), .val (.int p1), .val (.ref b1), .unset, .unset, .unset, .unset, .unset] [(.int (6 : Int32)), (.ref b50), (.ref b50)])) (fun _ k => XS.bipush X76.here hx rfl (hb hby at_126) k) ?_
  have O78 := (O74.wr W76 gb50)
  obtain ⟨T77, X77, e77, st77⟩ := getS2 X76 hx hZ hown (host := "") (Or.inl (hw _ (List.mem_of_getElem? (i := 44) rfl))) Via.refl e76 (Sta.ext O78.2 W.2.2.2.2.2.2.2.2.2.2.2.2.2.2.2.2.2.2.2.2.2.2.2.2.2.2.2.2.2.2.2.2.2.2.2.2.1) (g := (mkF m 128 #[.val (.int p0), .val (.int p1), .val (.ref b1), .unset, .unset, .unset, .unset, .unset] [(.int (6 : Int32)), (.ref b50), (.ref b50)])) rfl (hb hby at_128)
  refine Gl.by (g' := (mkF m 131 #[.val (.int p0), .val (.int p1), .val (.ref b1), .unset, .unset, .unset, .unset, .unset] [(.ref w_CONNECTION), (.int (6 : Int32)), (.ref b50), (.ref b50)])) st77 ?_
  obtain ⟨cl79, Ar79, qa79, Sa79, Na79, Ha79, Ga79⟩ := id V76
  have hin80 : ¬ ((6 : Int32) < 0 ∨ cl79.slots.size ≤ ((6 : Int32)).toNatClampNeg) := inb_of Sa79 ⟨by decide, by decide⟩
  obtain ⟨T80, h80, X80, e80, W80, st80⟩ := stR X77 hx hZ e77 Ar79 (j := (6 : Int32)) hin80 rfl (Sto.ofV Ar79 qa79 Ov50 (Ins.self (Exa.ext O78.2 W.2.2.2.2.2.2.2.2.2.2.2.2.2.2.2.2.2.2.2.2.2.2.2.2.2.2.2.2.2.2.2.2.2.2.2.2.2.1))) (g := (mkF m 131 #[.val (.int p0), .val (.int p1), .val (.ref b1), .unset, .unset, .unset, .unset, .unset] [(.ref w_CONNECTION), (.int (6 : Int32)), (.ref b50), (.ref b50)])) rfl rfl (hb hby at_131)
  have V80 : Arv Z h80 b50 k50 (.object "com/example/gatewarden/gatewarden/core/ObjectType") (7 : Int32) [(.ref w_QUEUE), (.ref w_EXCHANGE), (.ref w_BROKER), (.ref w_LINK), (.ref w_METHOD), (.ref w_QUERY), (.ref w_CONNECTION)] .null := Arv.set Ar79 qa79 Sa79 Na79 Ha79 Ga79 rfl W80 6 rfl (Nat.le_of_ble_eq_true rfl)
  have N80 := Fr.snoc X80 N76 gb50
  refine Gl.by (g' := (mkF m 132 #[.val (.int p0), .val (.int p1), .val (.ref b1), .unset, .unset, .unset, .unset, .unset] [(.ref b50)])) st80 ?_
  refine Gl.by (g' := (mkF m 133 #[.val (.int p0), .val (.int p1), .val (.ref b1), .val (.ref b50), .unset, .unset, .unset, .unset] [])) (fun _ k => XS.astoreN X80.here hx rfl (hb hby at_132) rfl rfl (l' := #[.val (.int p0), .val (.int p1), .val (.ref b1), .val (.ref b50), .unset, .unset, .unset, .unset]) rfl k) ?_
  refine Gl.by (g' := (mkF m 134 #[.val (.int p0), .val (.int p1), .val (.ref b1), .val (.ref b50), .unset, .unset, .unset, .unset] [(.int p0)])) (fun _ k => XS.iloadN X80.here hx rfl (hb hby at_133) rfl k) ?_
  refine Gl.by (g' := (mkF m 136 #[.val (.int p0), .val (.int p1), .val (.ref b1), .val (.ref b50), .unset, .unset, .unset, .unset] [(.int (2147483647 : Int32)), (.int p0)])) (X80.ldcInt hx hown (mvT hZ (hw _ (List.mem_of_getElem? (i := 46) rfl))) (g := (mkF m 134 #[.val (.int p0), .val (.int p1), .val (.ref b1), .val (.ref b50), .unset, .unset, .unset, .unset] [(.int p0)])) rfl (hb hby at_134)) ?_
  refine Gl.by (g' := (mkF m 137 #[.val (.int p0), .val (.int p1), .val (.ref b1), .val (.ref b50), .unset, .unset, .unset, .unset] [(.int (p0 &&& (2147483647 : Int32)))])) (fun _ k => XS.iand X80.here hx rfl (hb hby at_136) rfl k) ?_
  refine Gl.by (g' := (mkF m 139 #[.val (.int p0), .val (.int p1), .val (.ref b1), .val (.ref b50), .unset, .unset, .unset, .unset] [(.int (12 : Int32)), (.int (p0 &&& (2147483647 : Int32)))])) (fun _ k => XS.bipush X80.here hx rfl (hb hby at_137) k) ?_
  refine Gl.by (g' := (mkF m 140 #[.val (.int p0), .val (.int p1), .val (.ref b1), .val (.ref b50), .unset, .unset, .unset, .unset] [(.int ((p0 &&& (2147483647 : Int32)) % (12 : Int32)))])) (fun _ k => iremM X80 hx rfl (hb hby at_139) rfl (by decide) k) ?_
  refine Gl.by (g' := (mkF m 142 #[.val (.int p0), .val (.int p1), .val (.ref b1), .val (.ref b50), .val (.int ((p0 &&& (2147483647 : Int32)) % (12 : Int32))), .unset, .unset, .unset] [])) (fun _ k => XS.istore X80.here hx rfl (hb hby at_140) rfl (l' := #[.val (.int p0), .val (.int p1), .val (.ref b1), .val (.ref b50), .val (.int ((p0 &&& (2147483647 : Int32)) % (12 : Int32))), .unset, .unset, .unset]) rfl k) ?_
  refine Gl.by (g' := (mkF m 143 #[.val (.int p0), .val (.int p1), .val (.ref b1), .val (.ref b50), .val (.int ((p0 &&& (2147483647 : Int32)) % (12 : Int32))), .unset, .unset, .unset] [(.int p1)])) (fun _ k => XS.iloadN X80.here hx rfl (hb hby at_142) rfl k) ?_
  refine Gl.by (g' := (mkF m 145 #[.val (.int p0), .val (.int p1), .val (.ref b1), .val (.ref b50), .val (.int ((p0 &&& (2147483647 : Int32)) % (12 : Int32))), .unset, .unset, .unset] [(.int (2147483647 : Int32)), (.int p1)])) (X80.ldcInt hx hown (mvT hZ (hw _ (List.mem_of_getElem? (i := 46) rfl))) (g := (mkF m 143 #[.val (.int p0), .val (.int p1), .val (.ref b1), .val (.ref b50), .val (.int ((p0 &&& (2147483647 : Int32)) % (12 : Int32))), .unset, .unset, .unset] [(.int p1)])) rfl (hb hby at_143)) ?_
  refine Gl.by (g' := (mkF m 146 #[.val (.int p0), .val (.int p1), .val (.ref b1), .val (.ref b50), .val (.int ((p0 &&& (2147483647 : Int32)) % (12 : Int32))), .unset, .unset, .unset] [(.int (p1 &&& (2147483647 : Int32)))])) (fun _ k => XS.iand X80.here hx rfl (hb hby at_145) rfl k) ?_
  refine Gl.by (g' := (mkF m 148 #[.val (.int p0), .val (.int p1), .val (.ref b1), .val (.ref b50), .val (.int ((p0 &&& (2147483647 : Int32)) % (12 : Int32))), .unset, .unset, .unset] [(.int (7 : Int32)), (.int (p1 &&& (2147483647 : Int32)))])) (fun _ k => XS.bipush X80.here hx rfl (hb hby at_146) k) ?_
  refine Gl.by (g' := (mkF m 149 #[.val (.int p0), .val (.int p1), .val (.ref b1), .val (.ref b50), .val (.int ((p0 &&& (2147483647 : Int32)) % (12 : Int32))), .unset, .unset, .unset] [(.int ((p1 &&& (2147483647 : Int32)) % (7 : Int32)))])) (fun _ k => iremM X80 hx rfl (hb hby at_148) rfl (by decide) k) ?_
  refine Gl.by (g' := (mkF m 151 #[.val (.int p0), .val (.int p1), .val (.ref b1), .val (.ref b50), .val (.int ((p0 &&& (2147483647 : Int32)) % (12 : Int32))), .val (.int ((p1 &&& (2147483647 : Int32)) % (7 : Int32))), .unset, .unset] [])) (fun _ k => XS.istore X80.here hx rfl (hb hby at_149) rfl (l' := #[.val (.int p0), .val (.int p1), .val (.ref b1), .val (.ref b50), .val (.int ((p0 &&& (2147483647 : Int32)) % (12 : Int32))), .val (.int ((p1 &&& (2147483647 : Int32)) % (7 : Int32))), .unset, .unset]) rfl k) ?_
  refine Gl.by (g' := (mkF m 153 #[.val (.int p0), .val (.int p1), .val (.ref b1), .val (.ref b50), .val (.int ((p0 &&& (2147483647 : Int32)) % (12 : Int32))), .val (.int ((p1 &&& (2147483647 : Int32)) % (7 : Int32))), .unset, .unset] [(.int ((p0 &&& (2147483647 : Int32)) % (12 : Int32)))])) (fun _ k => XS.iload X80.here hx rfl (hb hby at_151) rfl k) ?_
  refine Gl.by (g' := (mkF m 154 #[.val (.int p0), .val (.int p1), .val (.ref b1), .val (.ref b50), .val (.int ((p0 &&& (2147483647 : Int32)) % (12 : Int32))), .val (.int ((p1 &&& (2147483647 : Int32)) % (7 : Int32))), .unset, .unset] [(.int (2 : Int32)), (.int ((p0 &&& (2147483647 : Int32)) % (12 : Int32)))])) (fun _ k => XS.iconst X80.here hx rfl (hb hby at_153) k) ?_
  by_cases hc81 : ((p0 &&& (2147483647 : Int32)) % (12 : Int32)) = (2 : Int32)
  · refine Gl.by (g' := (mkF m 157 #[.val (.int p0), .val (.int p1), .val (.ref b1), .val (.ref b50), .val (.int ((p0 &&& (2147483647 : Int32)) % (12 : Int32))), .val (.int ((p1 &&& (2147483647 : Int32)) % (7 : Int32))), .unset, .unset] [])) (fun _ k => XS.icmpNo X80.here hx rfl (hb hby at_154) rfl (teq hc81).2 k) ?_
    refine Gl.by (g' := (mkF m 159 #[.val (.int p0), .val (.int p1), .val (.ref b1), .val (.ref b50), .val (.int ((p0 &&& (2147483647 : Int32)) % (12 : Int32))), .val (.int ((p1 &&& (2147483647 : Int32)) % (7 : Int32))), .unset, .unset] [(.int ((p1 &&& (2147483647 : Int32)) % (7 : Int32)))])) (fun _ k => XS.iload X80.here hx rfl (hb hby at_157) rfl k) ?_
    refine Gl.by (g' := (mkF m 161 #[.val (.int p0), .val (.int p1), .val (.ref b1), .val (.ref b50), .val (.int ((p0 &&& (2147483647 : Int32)) % (12 : Int32))), .val (.int ((p1 &&& (2147483647 : Int32)) % (7 : Int32))), .unset, .unset] [(.int (6 : Int32)), (.int ((p1 &&& (2147483647 : Int32)) % (7 : Int32)))])) (fun _ k => XS.bipush X80.here hx rfl (hb hby at_159) k) ?_
    by_cases hc82 : ((p1 &&& (2147483647 : Int32)) % (7 : Int32)) = (6 : Int32)
    · refine Gl.by (g' := (mkF m 164 #[.val (.int p0), .val (.int p1), .val (.ref b1), .val (.ref b50), .val (.int ((p0 &&& (2147483647 : Int32)) % (12 : Int32))), .val (.int ((p1 &&& (2147483647 : Int32)) % (7 : Int32))), .unset, .unset] [])) (fun _ k => XS.icmpNo X80.here hx rfl (hb hby at_161) rfl (teq hc82).2 k) ?_
      refine Gl.by (g' := (mkF m 165 #[.val (.int p0), .val (.int p1), .val (.ref b1), .val (.ref b50), .val (.int ((p0 &&& (2147483647 : Int32)) % (12 : Int32))), .val (.int ((p1 &&& (2147483647 : Int32)) % (7 : Int32))), .unset, .unset] [(.int (1 : Int32))])) (fun _ k => XS.iconst X80.here hx rfl (hb hby at_164) k) ?_
      refine Gl.by (g' := (mkF m 169 #[.val (.int p0), .val (.int p1), .val (.ref b1), .val (.ref b50), .val (.int ((p0 &&& (2147483647 : Int32)) % (12 : Int32))), .val (.int ((p1 &&& (2147483647 : Int32)) % (7 : Int32))), .unset, .unset] [(.int (1 : Int32))])) (fun _ k => XS.goto X80.here hx rfl (pc0 := 165) (pc' := 169) rfl (hb hby at_165) (by decide) (by decide) k) ?_
      refine Gl.by (g' := (mkF m 171 #[.val (.int p0), .val (.int p1), .val (.ref b1), .val (.ref b50), .val (.int ((p0 &&& (2147483647 : Int32)) % (12 : Int32))), .val (.int ((p1 &&& (2147483647 : Int32)) % (7 : Int32))), .val (.int (1 : Int32)), .unset] [])) (fun _ k => XS.istore X80.here hx rfl (hb hby at_169) rfl (l' := #[.val (.int p0), .val (.int p1), .val (.ref b1), .val (.ref b50), .val (.int ((p0 &&& (2147483647 : Int32)) % (12 : Int32))), .val (.int ((p1 &&& (2147483647 : Int32)) % (7 : Int32))), .val (.int (1 : Int32)), .unset]) rfl k) ?_
      refine Gl.by (g' := (mkF m 172 #[.val (.int p0), .val (.int p1), .val (.ref b1), .val (.ref b50), .val (.int ((p0 &&& (2147483647 : Int32)) % (12 : Int32))), .val (.int ((p1 &&& (2147483647 : Int32)) % (7 : Int32))), .val (.int (1 : Int32)), .unset] [(.ref b1)])) (fun _ k => XS.aloadN X80.here hx rfl (hb hby at_171) rfl rfl k) ?_
      refine Gl.by (g' := (mkF m 174 #[.val (.int p0), .val (.int p1), .val (.ref b1), .val (.ref b50), .val (.int ((p0 &&& (2147483647 : Int32)) % (12 : Int32))), .val (.int ((p1 &&& (2147483647 : Int32)) % (7 : Int32))), .val (.int (1 : Int32)), .unset] [(.int ((p0 &&& (2147483647 : Int32)) % (12 : Int32))), (.ref b1)])) (fun _ k => XS.iload X80.here hx rfl (hb hby at_172) rfl k) ?_
      have f83 := (Arv.other (Arv.other (Arv.other (Arv.other (Arv.other (Arv.other (Arv.other (Arv.ext V49 E50) W56 ne50_0) W60 ne50_0) W64 ne50_0) W68 ne50_0) W72 ne50_0) W76 ne50_0) W80 ne50_0)
      obtain ⟨cl84, Ar84, qa84, Sa84, Na84, Ha84, Ga84⟩ := id f83
      have hin85 : ¬ (((p0 &&& (2147483647 : Int32)) % (12 : Int32)) < 0 ∨ cl84.slots.size ≤ (((p0 &&& (2147483647 : Int32)) % (12 : Int32))).toNatClampNeg) := inb_of Sa84 (idx_ok p0 (12 : Int32) (by decide))
      refine Gl.by (g' := (mkF m 175 #[.val (.int p0), .val (.int p1), .val (.ref b1), .val (.ref b50), .val (.int ((p0 &&& (2147483647 : Int32)) % (12 : Int32))), .val (.int ((p1 &&& (2147483647 : Int32)) % (7 : Int32))), .val (.int (1 : Int32)), .unset] [(.ref (sel [w_CONSUME, w_PUBLISH, w_CREATE, w_ACCESS, w_BIND, w_UNBIND, w_DELETE, w_PURGE, w_UPDATE, w_MOVE, w_REDIRECT, w_REROUTE] ((p0 &&& (2147483647 : Int32)) % (12 : Int32))))])) (X80.aaload hx (j := ((p0 &&& (2147483647 : Int32)) % (12 : Int32))) (v := (.ref (sel [w_CONSUME, w_PUBLISH, w_CREATE, w_ACCESS, w_BIND, w_UNBIND, w_DELETE, w_PURGE, w_UPDATE, w_MOVE, w_REDIRECT, w_REROUTE] ((p0 &&& (2147483647 : Int32)) % (12 : Int32))))) (by rw [e80]; exact Ar84.1) (State.isArrayOf_alike hZ.alike Ar84.2.1) rfl Ar84.2.2 hin85 (Has.at Ha84 hin85 (sel_at [w_CONSUME, w_PUBLISH, w_CREATE, w_ACCESS, w_BIND, w_UNBIND, w_DELETE, w_PURGE, w_UPDATE, w_MOVE, w_REDIRECT, w_REROUTE] ((p0 &&& (2147483647 : Int32)) % (12 : Int32)) (idx_nat (idx_ok p0 (12 : Int32) (by decide)) rfl))) (g := (mkF m 174 #[.val (.int p0), .val (.int p1), .val (.ref b1), .val (.ref b50), .val (.int ((p0 &&& (2147483647 : Int32)) % (12 : Int32))), .val (.int ((p1 &&& (2147483647 : Int32)) % (7 : Int32))), .val (.int (1 : Int32)), .unset] [(.int ((p0 &&& (2147483647 : Int32)) % (12 : Int32))), (.ref b1)])) rfl rfl (hb hby at_174)) ?_
      refine Gl.by (g' := (mkF m 176 #[.val (.int p0), .val (.int p1), .val (.ref b1), .val (.ref b50), .val (.int ((p0 &&& (2147483647 : Int32)) % (12 : Int32))), .val (.int ((p1 &&& (2147483647 : Int32)) % (7 : Int32))), .val (.int (1 : Int32)), .unset] [(.ref b50), (.ref (sel [w_CONSUME, w_PUBLISH, w_CREATE, w_ACCESS, w_BIND, w_UNBIND, w_DELETE, w_PURGE, w_UPDATE, w_MOVE, w_REDIRECT, w_REROUTE] ((p0 &&& (2147483647 : Int32)) % (12 : Int32))))])) (fun _ k => XS.aloadN X80.here hx rfl (hb hby at_175) rfl rfl k) ?_
      refine Gl.by (g' := (mkF m 178 #[.val (.int p0), .val (.int p1), .val (.ref b1), .val (.ref b50), .val (.int ((p0 &&& (2147483647 : Int32)) % (12 : Int32))), .val (.int ((p1 &&& (2147483647 : Int32)) % (7 : Int32))), .val (.int (1 : Int32)), .unset] [(.int ((p1 &&& (2147483647 : Int32)) % (7 : Int32))), (.ref b50), (.ref (sel [w_CONSUME, w_PUBLISH, w_CREATE, w_ACCESS, w_BIND, w_UNBIND, w_DELETE, w_PURGE, w_UPDATE, w_MOVE, w_REDIRECT, w_REROUTE] ((p0 &&& (2147483647 : Int32)) % (12 : Int32))))])) (fun _ k => XS.iload X80.here hx rfl (hb hby at_176) rfl k) ?_
      obtain ⟨cl86, Ar86, qa86, Sa86, Na86, Ha86, Ga86⟩ := id V80
      have hin87 : ¬ (((p1 &&& (2147483647 : Int32)) % (7 : Int32)) < 0 ∨ cl86.slots.size ≤ (((p1 &&& (2147483647 : Int32)) % (7 : Int32))).toNatClampNeg) := inb_of Sa86 (idx_ok p1 (7 : Int32) (by decide))
      refine Gl.by (g' := (mkF m 179 #[.val (.int p0), .val (.int p1), .val (.ref b1), .val (.ref b50), .val (.int ((p0 &&& (2147483647 : Int32)) % (12 : Int32))), .val (.int ((p1 &&& (2147483647 : Int32)) % (7 : Int32))), .val (.int (1 : Int32)), .unset] [(.ref (sel [w_QUEUE, w_EXCHANGE, w_BROKER, w_LINK, w_METHOD, w_QUERY, w_CONNECTION] ((p1 &&& (2147483647 : Int32)) % (7 : Int32)))), (.ref (sel [w_CONSUME, w_PUBLISH, w_CREATE, w_ACCESS, w_BIND, w_UNBIND, w_DELETE, w_PURGE, w_UPDATE, w_MOVE, w_REDIRECT, w_REROUTE] ((p0 &&& (2147483647 : Int32)) % (12 : Int32))))])) (X80.aaload hx (j := ((p1 &&& (2147483647 : Int32)) % (7 : Int32))) (v := (.ref (sel [w_QUEUE, w_EXCHANGE, w_BROKER, w_LINK, w_METHOD, w_QUERY, w_CONNECTION] ((p1 &&& (2147483647 : Int32)) % (7 : Int32))))) (by rw [e80]; exact Ar86.1) (State.isArrayOf_alike hZ.alike Ar86.2.1) rfl Ar86.2.2 hin87 (Has.at Ha86 hin87 (sel_at [w_QUEUE, w_EXCHANGE, w_BROKER, w_LINK, w_METHOD, w_QUERY, w_CONNECTION] ((p1 &&& (2147483647 : Int32)) % (7 : Int32)) (idx_nat (idx_ok p1 (7 : Int32) (by decide)) rfl))) (g := (mkF m 178 #[.val (.int p0), .val (.int p1), .val (.ref b1), .val (.ref b50), .val (.int ((p0 &&& (2147483647 : Int32)) % (12 : Int32))), .val (.int ((p1 &&& (2147483647 : Int32)) % (7 : Int32))), .val (.int (1 : Int32)), .unset] [(.int ((p1 &&& (2147483647 : Int32)) % (7 : Int32))), (.ref b50), (.ref (sel [w_CONSUME, w_PUBLISH, w_CREATE, w_ACCESS, w_BIND, w_UNBIND, w_DELETE, w_PURGE, w_UPDATE, w_MOVE, w_REDIRECT, w_REROUTE] ((p0 &&& (2147483647 : Int32)) % (12 : Int32))))])) rfl rfl (hb hby at_178)) ?_
      have O89 := (O78.wr W80 gb50)
      obtain ⟨_, _, ⟨T88, L88, k88, n88⟩, -, X88, ⟨Lc88, hQ88, l88, y88, z88⟩, st88⟩ := Jvm.LawKit.callS X80 hx (y := (⟨"com/example/gatewarden/gatewarden/core/Lookup", "isConnection", "(Lcom/example/gatewarden/gatewarden/core/Action;Lcom/example/gatewarden/gatewarden/core/ObjectType;)Z"⟩ : MethodName)) hown (mvT hZ (hw _ (List.mem_of_getElem? (i := 47) rfl))) (mvT hZ (hw _ (List.mem_of_getElem? (i := 48) rfl))) (mvT hZ (hw _ (List.mem_of_getElem? (i := 49) rfl))) (mvT hZ (hw _ (List.mem_of_getElem? (i := 50) rfl))) (by decide) (backOf (W := 0) (rm1 l Z a0' hw [] (sel [w_CONSUME, w_PUBLISH, w_CREATE, w_ACCESS, w_BIND, w_UNBIND, w_DELETE, w_PURGE, w_UPDATE, w_MOVE, w_REDIRECT, w_REROUTE] ((p0 &&& (2147483647 : Int32)) % (12 : Int32))) (sel [w_QUEUE, w_EXCHANGE, w_BROKER, w_LINK, w_METHOD, w_QUERY, w_CONNECTION] ((p1 &&& (2147483647 : Int32)) % (7 : Int32))) w_CONSUME w_PUBLISH w_CREATE w_ACCESS w_BIND w_UNBIND w_DELETE w_PURGE w_UPDATE w_MOVE w_REDIRECT w_REROUTE w_QUEUE w_EXCHANGE w_BROKER w_LINK w_METHOD w_QUERY w_CONNECTION h80 n0 O89 W ) hZ (hw _ (List.mem_of_getElem? (i := 50) rfl)) (hw _ (List.mem_of_getElem? (i := 49) rfl)) (by decide) (by decide)) (g := (mkF m 179 #[.val (.int p0), .val (.int p1), .val (.ref b1), .val (.ref b50), .val (.int ((p0 &&& (2147483647 : Int32)) % (12 : Int32))), .val (.int ((p1 &&& (2147483647 : Int32)) % (7 : Int32))), .val (.int (1 : Int32)), .unset] [(.ref (sel [w_QUEUE, w_EXCHANGE, w_BROKER, w_LINK, w_METHOD, w_QUERY, w_CONNECTION] ((p1 &&& (2147483647 : Int32)) % (7 : Int32)))), (.ref (sel [w_CONSUME, w_PUBLISH, w_CREATE, w_ACCESS, w_BIND, w_UNBIND, w_DELETE, w_PURGE, w_UPDATE, w_MOVE, w_REDIRECT, w_REROUTE] ((p0 &&& (2147483647 : Int32)) % (12 : Int32))))])) rfl (by rw [hml]; rfl) (argsL := [(.ref (sel [w_CONSUME, w_PUBLISH, w_CREATE, w_ACCESS, w_BIND, w_UNBIND, w_DELETE, w_PURGE, w_UPDATE, w_MOVE, w_REDIRECT, w_REROUTE] ((p0 &&& (2147483647 : Int32)) % (12 : Int32)))), (.ref (sel [w_QUEUE, w_EXCHANGE, w_BROKER, w_LINK, w_METHOD, w_QUERY, w_CONNECTION] ((p1 &&& (2147483647 : Int32)) % (7 : Int32))))]) (rest := []) (lenOf pd10 rfl) rfl (by show 2 * 0 + _ ≤ _; exact Nat.le_of_eq rfl) (hb hby at_179) (fun _ _ => ⟨rfl, e80, (by decide : 2 + 0 ≤ _), (by decide : 19 + 0 ≤ _)⟩)
      dsimp only [Pt.U, Pt.locs, Pt.cells, Pt.slots] at X88 l88 y88 z88 st88 hQ88
      subst l88 y88 z88
      obtain ⟨rfl, N88q, e88⟩ := hQ88
      have N88 := Fr.app N80 N88q
      refine Gl.by (g' := (mkF m 182 #[.val (.int p0), .val (.int p1), .val (.ref b1), .val (.ref b50), .val (.int ((p0 &&& (2147483647 : Int32)) % (12 : Int32))), .val (.int ((p1 &&& (2147483647 : Int32)) % (7 : Int32))), .val (.int (1 : Int32)), .unset] [(.int (fn1 (sel [w_CONSUME, w_PUBLISH, w_CREATE, w_ACCESS, w_BIND, w_UNBIND, w_DELETE, w_PURGE, w_UPDATE, w_MOVE, w_REDIRECT, w_REROUTE] ((p0 &&& (2147483647 : Int32)) % (12 : Int32))) (sel [w_QUEUE, w_EXCHANGE, w_BROKER, w_LINK, w_METHOD, w_QUERY, w_CONNECTION] ((p1 &&& (2147483647 : Int32)) % (7 : Int32))) w_CONSUME w_PUBLISH w_CREATE w_ACCESS w_BIND w_UNBIND w_DELETE w_PURGE w_UPDATE w_MOVE w_REDIRECT w_REROUTE w_QUEUE w_EXCHANGE w_BROKER w_LINK w_METHOD w_QUERY w_CONNECTION))])) st88 ?_
      refine Gl.by (g' := (mkF m 184 #[.val (.int p0), .val (.int p1), .val (.ref b1), .val (.ref b50), .val (.int ((p0 &&& (2147483647 : Int32)) % (12 : Int32))), .val (.int ((p1 &&& (2147483647 : Int32)) % (7 : Int32))), .val (.int (1 : Int32)), .val (.int (fn1 (sel [w_CONSUME, w_PUBLISH, w_CREATE, w_ACCESS, w_BIND, w_UNBIND, w_DELETE, w_PURGE, w_UPDATE, w_MOVE, w_REDIRECT, w_REROUTE] ((p0 &&& (2147483647 : Int32)) % (12 : Int32))) (sel [w_QUEUE, w_EXCHANGE, w_BROKER, w_LINK, w_METHOD, w_QUERY, w_CONNECTION] ((p1 &&& (2147483647 : Int32)) % (7 : Int32))) w_CONSUME w_PUBLISH w_CREATE w_ACCESS w_BIND w_UNBIND w_DELETE w_PURGE w_UPDATE w_MOVE w_REDIRECT w_REROUTE w_QUEUE w_EXCHANGE w_BROKER w_LINK w_METHOD w_QUERY w_CONNECTION))] [])) (fun _ k => XS.istore X88.here hx rfl (hb hby at_182) rfl (l' := #[.val (.int p0), .val (.int p1), .val (.ref b1), .val (.ref b50), .val (.int ((p0 &&& (2147483647 : Int32)) % (12 : Int32))), .val (.int ((p1 &&& (2147483647 : Int32)) % (7 : Int32))), .val (.int (1 : Int32)), .val (.int (fn1 (sel [w_CONSUME, w_PUBLISH, w_CREATE, w_ACCESS, w_BIND, w_UNBIND, w_DELETE, w_PURGE, w_UPDATE, w_MOVE, w_REDIRECT, w_REROUTE] ((p0 &&& (2147483647 : Int32)) % (12 : Int32))) (sel [w_QUEUE, w_EXCHANGE, w_BROKER, w_LINK, w_METHOD, w_QUERY, w_CONNECTION] ((p1 &&& (2147483647 : Int32)) % (7 : Int32))) w_CONSUME w_PUBLISH w_CREATE w_ACCESS w_BIND w_UNBIND w_DELETE w_PURGE w_UPDATE w_MOVE w_REDIRECT w_REROUTE w_QUEUE w_EXCHANGE w_BROKER w_LINK w_METHOD w_QUERY w_CONNECTION))]) rfl k) ?_
      refine Gl.by (g' := (mkF m 186 #[.val (.int p0), .val (.int p1), .val (.ref b1), .val (.ref b50), .val (.int ((p0 &&& (2147483647 : Int32)) % (12 : Int32))), .val (.int ((p1 &&& (2147483647 : Int32)) % (7 : Int32))), .val (.int (1 : Int32)), .val (.int (fn1 (sel [w_CONSUME, w_PUBLISH, w_CREATE, w_ACCESS, w_BIND, w_UNBIND, w_DELETE, w_PURGE, w_UPDATE, w_MOVE, w_REDIRECT, w_REROUTE] ((p0 &&& (2147483647 : Int32)) % (12 : Int32))) (sel [w_QUEUE, w_EXCHANGE, w_BROKER, w_LINK, w_METHOD, w_QUERY, w_CONNECTION] ((p1 &&& (2147483647 : Int32)) % (7 : Int32))) w_CONSUME w_PUBLISH w_CREATE w_ACCESS w_BIND w_UNBIND w_DELETE w_PURGE w_UPDATE w_MOVE w_REDIRECT w_REROUTE w_QUEUE w_EXCHANGE w_BROKER w_LINK w_METHOD w_QUERY w_CONNECTION))] [(.int (fn1 (sel [w_CONSUME, w_PUBLISH, w_CREATE, w_ACCESS, w_BIND, w_UNBIND, w_DELETE, w_PURGE, w_UPDATE, w_MOVE, w_REDIRECT, w_REROUTE] ((p0 &&& (2147483647 : Int32)) % (12 : Int32))) (sel [w_QUEUE, w_EXCHANGE, w_BROKER, w_LINK, w_METHOD, w_QUERY, w_CONNECTION] ((p1 &&& (2147483647 : Int32)) % (7 : Int32))) w_CONSUME w_PUBLISH w_CREATE w_ACCESS w_BIND w_UNBIND w_DELETE w_PURGE w_UPDATE w_MOVE w_REDIRECT w_REROUTE w_QUEUE w_EXCHANGE w_BROKER w_LINK w_METHOD w_QUERY w_CONNECTION))])) (fun _ k => XS.iload X88.here hx rfl (hb hby at_184) rfl k) ?_
      refine Gl.by (g' := (mkF m 188 #[.val (.int p0), .val (.int p1), .val (.ref b1), .val (.ref b50), .val (.int ((p0 &&& (2147483647 : Int32)) % (12 : Int32))), .val (.int ((p1 &&& (2147483647 : Int32)) % (7 : Int32))), .val (.int (1 : Int32)), .val (.int (fn1 (sel [w_CONSUME, w_PUBLISH, w_CREATE, w_ACCESS, w_BIND, w_UNBIND, w_DELETE, w_PURGE, w_UPDATE, w_MOVE, w_REDIRECT, w_REROUTE] ((p0 &&& (2147483647 : Int32)) % (12 : Int32))) (sel [w_QUEUE, w_EXCHANGE, w_BROKER, w_LINK, w_METHOD, w_QUERY, w_CONNECTION] ((p1 &&& (2147483647 : Int32)) % (7 : Int32))) w_CONSUME w_PUBLISH w_CREATE w_ACCESS w_BIND w_UNBIND w_DELETE w_PURGE w_UPDATE w_MOVE w_REDIRECT w_REROUTE w_QUEUE w_EXCHANGE w_BROKER w_LINK w_METHOD w_QUERY w_CONNECTION))] [(.int (1 : Int32)), (.int (fn1 (sel [w_CONSUME, w_PUBLISH, w_CREATE, w_ACCESS, w_BIND, w_UNBIND, w_DELETE, w_PURGE, w_UPDATE, w_MOVE, w_REDIRECT, w_REROUTE] ((p0 &&& (2147483647 : Int32)) % (12 : Int32))) (sel [w_QUEUE, w_EXCHANGE, w_BROKER, w_LINK, w_METHOD, w_QUERY, w_CONNECTION] ((p1 &&& (2147483647 : Int32)) % (7 : Int32))) w_CONSUME w_PUBLISH w_CREATE w_ACCESS w_BIND w_UNBIND w_DELETE w_PURGE w_UPDATE w_MOVE w_REDIRECT w_REROUTE w_QUEUE w_EXCHANGE w_BROKER w_LINK w_METHOD w_QUERY w_CONNECTION))])) (fun _ k => XS.iload X88.here hx rfl (hb hby at_186) rfl k) ?_
      by_cases hc90 : (fn1 (sel [w_CONSUME, w_PUBLISH, w_CREATE, w_ACCESS, w_BIND, w_UNBIND, w_DELETE, w_PURGE, w_UPDATE, w_MOVE, w_REDIRECT, w_REROUTE] ((p0 &&& (2147483647 : Int32)) % (12 : Int32))) (sel [w_QUEUE, w_EXCHANGE, w_BROKER, w_LINK, w_METHOD, w_QUERY, w_CONNECTION] ((p1 &&& (2147483647 : Int32)) % (7 : Int32))) w_CONSUME w_PUBLISH w_CREATE w_ACCESS w_BIND w_UNBIND w_DELETE w_PURGE w_UPDATE w_MOVE w_REDIRECT w_REROUTE w_QUEUE w_EXCHANGE w_BROKER w_LINK w_METHOD w_QUERY w_CONNECTION) = (1 : Int32)
      · refine Gl.by (g' := (mkF m 191 #[.val (.int p0), .val (.int p1), .val (.ref b1), .val (.ref b50), .val (.int ((p0 &&& (2147483647 : Int32)) % (12 : Int32))), .val (.int ((p1 &&& (2147483647 : Int32)) % (7 : Int32))), .val (.int (1 : Int32)), .val (.int (fn1 (sel [w_CONSUME, w_PUBLISH, w_CREATE, w_ACCESS, w_BIND, w_UNBIND, w_DELETE, w_PURGE, w_UPDATE, w_MOVE, w_REDIRECT, w_REROUTE] ((p0 &&& (2147483647 : Int32)) % (12 : Int32))) (sel [w_QUEUE, w_EXCHANGE, w_BROKER, w_LINK, w_METHOD, w_QUERY, w_CONNECTION] ((p1 &&& (2147483647 : Int32)) % (7 : Int32))) w_CONSUME w_PUBLISH w_CREATE w_ACCESS w_BIND w_UNBIND w_DELETE w_PURGE w_UPDATE w_MOVE w_REDIRECT w_REROUTE w_QUEUE w_EXCHANGE w_BROKER w_LINK w_METHOD w_QUERY w_CONNECTION))] [])) (fun _ k => XS.icmpNo X88.here hx rfl (hb hby at_188) rfl (teq hc90).2 k) ?_
        refine Gl.by (g' := (mkF m 192 #[.val (.int p0), .val (.int p1), .val (.ref b1), .val (.ref b50), .val (.int ((p0 &&& (2147483647 : Int32)) % (12 : Int32))), .val (.int ((p1 &&& (2147483647 : Int32)) % (7 : Int32))), .val (.int (1 : Int32)), .val (.int (fn1 (sel [w_CONSUME, w_PUBLISH, w_CREATE, w_ACCESS, w_BIND, w_UNBIND, w_DELETE, w_PURGE, w_UPDATE, w_MOVE, w_REDIRECT, w_REROUTE] ((p0 &&& (2147483647 : Int32)) % (12 : Int32))) (sel [w_QUEUE, w_EXCHANGE, w_BROKER, w_LINK, w_METHOD, w_QUERY, w_CONNECTION] ((p1 &&& (2147483647 : Int32)) % (7 : Int32))) w_CONSUME w_PUBLISH w_CREATE w_ACCESS w_BIND w_UNBIND w_DELETE w_PURGE w_UPDATE w_MOVE w_REDIRECT w_REROUTE w_QUEUE w_EXCHANGE w_BROKER w_LINK w_METHOD w_QUERY w_CONNECTION))] [(.int (1 : Int32))])) (fun _ k => XS.iconst X88.here hx rfl (hb hby at_191) k) ?_
        refine Gl.by (g' := (mkF m 196 #[.val (.int p0), .val (.int p1), .val (.ref b1), .val (.ref b50), .val (.int ((p0 &&& (2147483647 : Int32)) % (12 : Int32))), .val (.int ((p1 &&& (2147483647 : Int32)) % (7 : Int32))), .val (.int (1 : Int32)), .val (.int (fn1 (sel [w_CONSUME, w_PUBLISH, w_CREATE, w_ACCESS, w_BIND, w_UNBIND, w_DELETE, w_PURGE, w_UPDATE, w_MOVE, w_REDIRECT, w_REROUTE] ((p0 &&& (2147483647 : Int32)) % (12 : Int32))) (sel [w_QUEUE, w_EXCHANGE, w_BROKER, w_LINK, w_METHOD, w_QUERY, w_CONNECTION] ((p1 &&& (2147483647 : Int32)) % (7 : Int32))) w_CONSUME w_PUBLISH w_CREATE w_ACCESS w_BIND w_UNBIND w_DELETE w_PURGE w_UPDATE w_MOVE w_REDIRECT w_REROUTE w_QUEUE w_EXCHANGE w_BROKER w_LINK w_METHOD w_QUERY w_CONNECTION))] [(.int (1 : Int32))])) (fun _ k => XS.goto X88.here hx rfl (pc0 := 192) (pc' := 196) rfl (hb hby at_192) (by decide) (by decide) k) ?_
        exact Gl.outN X88 hx hk (t := .boolean) Bd.returns (by simp) (hb hby at_196) ⟨(congrArg (fun z => some (Value.int z)) (show nar .boolean (1 : Int32) = fn0 p0 p1 w_CONSUME w_PUBLISH w_CREATE w_ACCESS w_BIND w_UNBIND w_DELETE w_PURGE w_UPDATE w_MOVE w_REDIRECT w_REROUTE w_QUEUE w_EXCHANGE w_BROKER w_LINK w_METHOD w_QUERY w_CONNECTION by unfold fn0; rw [if_pos hc81, if_pos hc82, if_pos hc90]; try rfl)), N88⟩ (by decide) (by decide)
      · refine Gl.by (g' := (mkF m 195 #[.val (.int p0), .val (.int p1), .val (.ref b1), .val (.ref b50), .val (.int ((p0 &&& (2147483647 : Int32)) % (12 : Int32))), .val (.int ((p1 &&& (2147483647 : Int32)) % (7 : Int32))), .val (.int (1 : Int32)), .val (.int (fn1 (sel [w_CONSUME, w_PUBLISH, w_CREATE, w_ACCESS, w_BIND, w_UNBIND, w_DELETE, w_PURGE, w_UPDATE, w_MOVE, w_REDIRECT, w_REROUTE] ((p0 &&& (2147483647 : Int32)) % (12 : Int32))) (sel [w_QUEUE, w_EXCHANGE, w_BROKER, w_LINK, w_METHOD, w_QUERY, w_CONNECTION] ((p1 &&& (2147483647 : Int32)) % (7 : Int32))) w_CONSUME w_PUBLISH w_CREATE w_ACCESS w_BIND w_UNBIND w_DELETE w_PURGE w_UPDATE w_MOVE w_REDIRECT w_REROUTE w_QUEUE w_EXCHANGE w_BROKER w_LINK w_METHOD w_QUERY w_CONNECTION))] [])) (fun _ k => XS.icmpYes X88.here hx rfl (pc0 := 188) (pc' := 195) rfl (hb hby at_188) rfl (feq hc90).2 (by decide) (by decide) k) ?_
        refine Gl.by (g' := (mkF m 196 #[.val (.int p0), .val (.int p1), .val (.ref b1), .val (.ref b50), .val (.int ((p0 &&& (2147483647 : Int32)) % (12 : Int32))), .val (.int ((p1 &&& (2147483647 : Int32)) % (7 : Int32))), .val (.int (1 : Int32)), .val (.int (fn1 (sel [w_CONSUME, w_PUBLISH, w_CREATE, w_ACCESS, w_BIND, w_UNBIND, w_DELETE, w_PURGE, w_UPDATE, w_MOVE, w_REDIRECT, w_REROUTE] ((p0 &&& (2147483647 : Int32)) % (12 : Int32))) (sel [w_QUEUE, w_EXCHANGE, w_BROKER, w_LINK, w_METHOD, w_QUERY, w_CONNECTION] ((p1 &&& (2147483647 : Int32)) % (7 : Int32))) w_CONSUME w_PUBLISH w_CREATE w_ACCESS w_BIND w_UNBIND w_DELETE w_PURGE w_UPDATE w_MOVE w_REDIRECT w_REROUTE w_QUEUE w_EXCHANGE w_BROKER w_LINK w_METHOD w_QUERY w_CONNECTION))] [(.int (0 : Int32))])) (fun _ k => XS.iconst X88.here hx rfl (hb hby at_195) k) ?_
        exact Gl.outN X88 hx hk (t := .boolean) Bd.returns (by simp) (hb hby at_196) ⟨(congrArg (fun z => some (Value.int z)) (show nar .boolean (0 : Int32) = fn0 p0 p1 w_CONSUME w_PUBLISH w_CREATE w_ACCESS w_BIND w_UNBIND w_DELETE w_PURGE w_UPDATE w_MOVE w_REDIRECT w_REROUTE w_QUEUE w_EXCHANGE w_BROKER w_LINK w_METHOD w_QUERY w_CONNECTION by unfold fn0; rw [if_pos hc81, if_pos hc82, if_neg hc90]; try rfl)), N88⟩ (by decide) (by decide)
    · refine Gl.by (g' := (mkF m 168 #[.val (.int p0), .val (.int p1), .val (.ref b1), .val (.ref b50), .val (.int ((p0 &&& (2147483647 : Int32)) % (12 : Int32))), .val (.int ((p1 &&& (2147483647 : Int32)) % (7 : Int32))), .unset, .unset] [])) (fun _ k => XS.icmpYes X80.here hx rfl (pc0 := 161) (pc' := 168) rfl (hb hby at_161) rfl (feq hc82).2 (by decide) (by decide) k) ?_
      refine Gl.by (g' := (mkF m 169 #[.val (.int p0), .val (.int p1), .val (.ref b1), .val (.ref b50), .val (.int ((p0 &&& (2147483647 : Int32)) % (12 : Int32))), .val (.int ((p1 &&& (2147483647 : Int32)) % (7 : Int32))), .unset, .unset] [(.int (0 : Int32))])) (fun _ k => XS.iconst X80.here hx rfl (hb hby at_168) k) ?_
      refine Gl.by (g' := (mkF m 171 #[.val (.int p0), .val (.int p1), .val (.ref b1), .val (.ref b50), .val (.int ((p0 &&& (2147483647 : Int32)) % (12 : Int32))), .val (.int ((p1 &&& (2147483647 : Int32)) % (7 : Int32))), .val (.int (0 : Int32)), .unset] [])) (fun _ k => XS.istore X80.here hx rfl (hb hby at_169) rfl (l' := #[.val (.int p0), .val (.int p1), .val (.ref b1), .val (.ref b50), .val (.int ((p0 &&& (2147483647 : Int32)) % (12 : Int32))), .val (.int ((p1 &&& (2147483647 : Int32)) % (7 : Int32))), .val (.int (0 : Int32)), .unset]) rfl k) ?_
      refine Gl.by (g' := (mkF m 172 #[.val (.int p0), .val (.int p1), .val (.ref b1), .val (.ref b50), .val (.int ((p0 &&& (2147483647 : Int32)) % (12 : Int32))), .val (.int ((p1 &&& (2147483647 : Int32)) % (7 : Int32))), .val (.int (0 : Int32)), .unset] [(.ref b1)])) (fun _ k => XS.aloadN X80.here hx rfl (hb hby at_171) rfl rfl k) ?_
      refine Gl.by (g' := (mkF m 174 #[.val (.int p0), .val (.int p1), .val (.ref b1), .val (.ref b50), .val (.int ((p0 &&& (2147483647 : Int32)) % (12 : Int32))), .val (.int ((p1 &&& (2147483647 : Int32)) % (7 : Int32))), .val (.int (0 : Int32)), .unset] [(.int ((p0 &&& (2147483647 : Int32)) % (12 : Int32))), (.ref b1)])) (fun _ k => XS.iload X80.here hx rfl (hb hby at_172) rfl k) ?_
      have f91 := (Arv.other (Arv.other (Arv.other (Arv.other (Arv.other (Arv.other (Arv.other (Arv.ext V49 E50) W56 ne50_0) W60 ne50_0) W64 ne50_0) W68 ne50_0) W72 ne50_0) W76 ne50_0) W80 ne50_0)
      obtain ⟨cl92, Ar92, qa92, Sa92, Na92, Ha92, Ga92⟩ := id f91
      have hin93 : ¬ (((p0 &&& (2147483647 : Int32)) % (12 : Int32)) < 0 ∨ cl92.slots.size ≤ (((p0 &&& (2147483647 : Int32)) % (12 : Int32))).toNatClampNeg) := inb_of Sa92 (idx_ok p0 (12 : Int32) (by decide))
      refine Gl.by (g' := (mkF m 175 #[.val (.int p0), .val (.int p1), .val (.ref b1), .val (.ref b50), .val (.int ((p0 &&& (2147483647 : Int32)) % (12 : Int32))), .val (.int ((p1 &&& (2147483647 : Int32)) % (7 : Int32))), .val (.int (0 : Int32)), .unset] [(.ref (sel [w_CONSUME, w_PUBLISH, w_CREATE, w_ACCESS, w_BIND, w_UNBIND, w_DELETE, w_PURGE, w_UPDATE, w_MOVE, w_REDIRECT, w_REROUTE] ((p0 &&& (2147483647 : Int32)) % (12 : Int32))))])) (X80.aaload hx (j := ((p0 &&& (2147483647 : Int32)) % (12 : Int32))) (v := (.ref (sel [w_CONSUME, w_PUBLISH, w_CREATE, w_ACCESS, w_BIND, w_UNBIND, w_DELETE, w_PURGE, w_UPDATE, w_MOVE, w_REDIRECT, w_REROUTE] ((p0 &&& (2147483647 : Int32)) % (12 : Int32))))) (by rw [e80]; exact Ar92.1) (State.isArrayOf_alike hZ.alike Ar92.2.1) rfl Ar92.2.2 hin93 (Has.at Ha92 hin93 (sel_at [w_CONSUME, w_PUBLISH, w_CREATE, w_ACCESS, w_BIND, w_UNBIND, w_DELETE, w_PURGE, w_UPDATE, w_MOVE, w_REDIRECT, w_REROUTE] ((p0 &&& (2147483647 : Int32)) % (12 : Int32)) (idx_nat (idx_ok p0 (12 : Int32) (by decide)) rfl))) (g := (mkF m 174 #[.val (.int p0), .val (.int p1), .val (.ref b1), .val (.ref b50), .val (.int ((p0 &&& (2147483647 : Int32)) % (12 : Int32))), .val (.int ((p1 &&& (2147483647 : Int32)) % (7 : Int32))), .val (.int (0 : Int32)), .unset] [(.int ((p0 &&& (2147483647 : Int32)) % (12 : Int32))), (.ref b1)])) rfl rfl (hb hby at_174)) ?_
      refine Gl.by (g' := (mkF m 176 #[.val (.int p0), .val (.int p1), .val (.ref b1), .val (.ref b50), .val (.int ((p0 &&& (2147483647 : Int32)) % (12 : Int32))), .val (.int ((p1 &&& (2147483647 : Int32)) % (7 : Int32))), .val (.int (0 : Int32)), .unset] [(.ref b50), (.ref (sel [w_CONSUME, w_PUBLISH, w_CREATE, w_ACCESS, w_BIND, w_UNBIND, w_DELETE, w_PURGE, w_UPDATE, w_MOVE, w_REDIRECT, w_REROUTE] ((p0 &&& (2147483647 : Int32)) % (12 : Int32))))])) (fun _ k => XS.aloadN X80.here hx rfl (hb hby at_175) rfl rfl k) ?_
      refine Gl.by (g' := (mkF m 178 #[.val (.int p0), .val (.int p1), .val (.ref b1), .val (.ref b50), .val (.int ((p0 &&& (2147483647 : Int32)) % (12 : Int32))), .val (.int ((p1 &&& (2147483647 : Int32)) % (7 : Int32))), .val (.int (0 : Int32)), .unset] [(.int ((p1 &&& (2147483647 : Int32)) % (7 : Int32))), (.ref b50), (.ref (sel [w_CONSUME, w_PUBLISH, w_CREATE, w_ACCESS, w_BIND, w_UNBIND, w_DELETE, w_PURGE, w_UPDATE, w_MOVE, w_REDIRECT, w_REROUTE] ((p0 &&& (2147483647 : Int32)) % (12 : Int32))))])) (fun _ k => XS.iload X80.here hx rfl (hb hby at_176) rfl k) ?_
      obtain ⟨cl94, Ar94, qa94, Sa94, Na94, Ha94, Ga94⟩ := id V80
      have hin95 : ¬ (((p1 &&& (2147483647 : Int32)) % (7 : Int32)) < 0 ∨ cl94.slots.size ≤ (((p1 &&& (2147483647 : Int32)) % (7 : Int32))).toNatClampNeg) := inb_of Sa94 (idx_ok p1 (7 : Int32) (by decide))
      refine Gl.by (g' := (mkF m 179 #[.val (.int p0), .val (.int p1), .val (.ref b1), .val (.ref b50), .val (.int ((p0 &&& (2147483647 : Int32)) % (12 : Int32))), .val (.int ((p1 &&& (2147483647 : Int32)) % (7 : Int32))), .val (.int (0 : Int32)), .unset] [(.ref (sel [w_QUEUE, w_EXCHANGE, w_BROKER, w_LINK, w_METHOD, w_QUERY, w_CONNECTION] ((p1 &&& (2147483647 : Int32)) % (7 : Int32)))), (.ref (sel [w_CONSUME, w_PUBLISH, w_CREATE, w_ACCESS, w_BIND, w_UNBIND, w_DELETE, w_PURGE, w_UPDATE, w_MOVE, w_REDIRECT, w_REROUTE] ((p0 &&& (2147483647 : Int32)) % (12 : Int32))))])) (X80.aaload hx (j := ((p1 &&& (2147483647 : Int32)) % (7 : Int32))) (v := (.ref (sel [w_QUEUE, w_EXCHANGE, w_BROKER, w_LINK, w_METHOD, w_QUERY, w_CONNECTION] ((p1 &&& (2147483647 : Int32)) % (7 : Int32))))) (by rw [e80]; exact Ar94.1) (State.isArrayOf_alike hZ.alike Ar94.2.1) rfl Ar94.2.2 hin95 (Has.at Ha94 hin95 (sel_at [w_QUEUE, w_EXCHANGE, w_BROKER, w_LINK, w_METHOD, w_QUERY, w_CONNECTION] ((p1 &&& (2147483647 : Int32)) % (7 : Int32)) (idx_nat (idx_ok p1 (7 : Int32) (by decide)) rfl))) (g := (mkF m 178 #[.val (.int p0), .val (.int p1), .val (.ref b1), .val (.ref b50), .val (.int ((p0 &&& (2147483647 : Int32)) % (12 : Int32))), .val (.int ((p1 &&& (2147483647 : Int32)) % (7 : Int32))), .val (.int (0 : Int32)), .unset] [(.int ((p1 &&& (2147483647 : Int32)) % (7 : Int32))), (.ref b50), (.ref (sel [w_CONSUME, w_PUBLISH, w_CREATE, w_ACCESS, w_BIND, w_UNBIND, w_DELETE, w_PURGE, w_UPDATE, w_MOVE, w_REDIRECT, w_REROUTE] ((p0 &&& (2147483647 : Int32)) % (12 : Int32))))])) rfl rfl (hb hby at_178)) ?_
      have O97 := (O78.wr W80 gb50)
      obtain ⟨_, _, ⟨T96, L96, k96, n96⟩, -, X96, ⟨Lc96, hQ96, l96, y96, z96⟩, st96⟩ := Jvm.LawKit.callS X80 hx (y := (⟨"com/example/gatewarden/gatewarden/core/Lookup", "isConnection", "(Lcom/example/gatewarden/gatewarden/core/Action;Lcom/example/gatewarden/gatewarden/core/ObjectType;)Z"⟩ : MethodName)) hown (mvT hZ (hw _ (List.mem_of_getElem? (i := 47) rfl))) (mvT hZ (hw _ (List.mem_of_getElem? (i := 48) rfl))) (mvT hZ (hw _ (List.mem_of_getElem? (i := 49) rfl))) (mvT hZ (hw _ (List.mem_of_getElem? (i := 50) rfl))) (by decide) (backOf (W := 0) (rm1 l Z a0' hw [] (sel [w_CONSUME, w_PUBLISH, w_CREATE, w_ACCESS, w_BIND, w_UNBIND, w_DELETE, w_PURGE, w_UPDATE, w_MOVE, w_REDIRECT, w_REROUTE] ((p0 &&& (2147483647 : Int32)) % (12 : Int32))) (sel [w_QUEUE, w_EXCHANGE, w_BROKER, w_LINK, w_METHOD, w_QUERY, w_CONNECTION] ((p1 &&& (2147483647 : Int32)) % (7 : Int32))) w_CONSUME w_PUBLISH w_CREATE w_ACCESS w_BIND w_UNBIND w_DELETE w_PURGE w_UPDATE w_MOVE w_REDIRECT w_REROUTE w_QUEUE w_EXCHANGE w_BROKER w_LINK w_METHOD w_QUERY w_CONNECTION h80 n0 O97 W ) hZ (hw _ (List.mem_of_getElem? (i := 50) rfl)) (hw _ (List.mem_of_getElem? (i := 49) rfl)) (by decide) (by decide)) (g := (mkF m 179 #[.val (.int p0), .val (.int p1), .val (.ref b1), .val (.ref b50), .val (.int ((p0 &&& (2147483647 : Int32)) % (12 : Int32))), .val (.int ((p1 &&& (2147483647 : Int32)) % (7 : Int32))), .val (.int (0 : Int32)), .unset] [(.ref (sel [w_QUEUE, w_EXCHANGE, w_BROKER, w_LINK, w_METHOD, w_QUERY, w_CONNECTION] ((p1 &&& (2147483647 : Int32)) % (7 : Int32)))), (.ref (sel [w_CONSUME, w_PUBLISH, w_CREATE, w_ACCESS, w_BIND, w_UNBIND, w_DELETE, w_PURGE, w_UPDATE, w_MOVE, w_REDIRECT, w_REROUTE] ((p0 &&& (2147483647 : Int32)) % (12 : Int32))))])) rfl (by rw [hml]; rfl) (argsL := [(.ref (sel [w_CONSUME, w_PUBLISH, w_CREATE, w_ACCESS, w_BIND, w_UNBIND, w_DELETE, w_PURGE, w_UPDATE, w_MOVE, w_REDIRECT, w_REROUTE] ((p0 &&& (2147483647 : Int32)) % (12 : Int32)))), (.ref (sel [w_QUEUE, w_EXCHANGE, w_BROKER, w_LINK, w_METHOD, w_QUERY, w_CONNECTION] ((p1 &&& (2147483647 : Int32)) % (7 : Int32))))]) (rest := []) (lenOf pd10 rfl) rfl (by show 2 * 0 + _ ≤ _; exact Nat.le_of_eq rfl) (hb hby at_179) (fun _ _ => ⟨rfl, e80, (by decide : 2 + 0 ≤ _), (by decide : 19 + 0 ≤ _)⟩)
      dsimp only [Pt.U, Pt.locs, Pt.cells, Pt.slots] at X96 l96 y96 z96 st96 hQ96
      subst l96 y96 z96
      obtain ⟨rfl, N96q, e96⟩ := hQ96
      have N96 := Fr.app N80 N96q
      refine Gl.by (g' := (mkF m 182 #[.val (.int p0), .val (.int p1), .val (.ref b1), .val (.ref b50), .val (.int ((p0 &&& (2147483647 : Int32)) % (12 : Int32))), .val (.int ((p1 &&& (2147483647 : Int32)) % (7 : Int32))), .val (.int (0 : Int32)), .unset] [(.int (fn1 (sel [w_CONSUME, w_PUBLISH, w_CREATE, w_ACCESS, w_BIND, w_UNBIND, w_DELETE, w_PURGE, w_UPDATE, w_MOVE, w_REDIRECT, w_REROUTE] ((p0 &&& (2147483647 : Int32)) % (12 : Int32))) (sel [w_QUEUE, w_EXCHANGE, w_BROKER, w_LINK, w_METHOD, w_QUERY, w_CONNECTION] ((p1 &&& (2147483647 : Int32)) % (7 : Int32))) w_CONSUME w_PUBLISH w_CREATE w_ACCESS w_BIND w_UNBIND w_DELETE w_PURGE w_UPDATE w_MOVE w_REDIRECT w_REROUTE w_QUEUE w_EXCHANGE w_BROKER w_LINK w_METHOD w_QUERY w_CONNECTION))])) st96 ?_
      refine Gl.by (g' := (mkF m 184 #[.val (.int p0), .val (.int p1), .val (.ref b1), .val (.ref b50), .val (.int ((p0 &&& (2147483647 : Int32)) % (12 : Int32))), .val (.int ((p1 &&& (2147483647 : Int32)) % (7 : Int32))), .val (.int (0 : Int32)), .val (.int (fn1 (sel [w_CONSUME, w_PUBLISH, w_CREATE, w_ACCESS, w_BIND, w_UNBIND, w_DELETE, w_PURGE, w_UPDATE, w_MOVE, w_REDIRECT, w_REROUTE] ((p0 &&& (2147483647 : Int32)) % (12 : Int32))) (sel [w_QUEUE, w_EXCHANGE, w_BROKER, w_LINK, w_METHOD, w_QUERY, w_CONNECTION] ((p1 &&& (2147483647 : Int32)) % (7 : Int32))) w_CONSUME w_PUBLISH w_CREATE w_ACCESS w_BIND w_UNBIND w_DELETE w_PURGE w_UPDATE w_MOVE w_REDIRECT w_REROUTE w_QUEUE w_EXCHANGE w_BROKER w_LINK w_METHOD w_QUERY w_CONNECTION))] [])) (fun _ k => XS.istore X96.here hx rfl (hb hby at_182) rfl (l' := #[.val (.int p0), .val (.int p1), .val (.ref b1), .val (.ref b50), .val (.int ((p0 &&& (2147483647 : Int32)) % (12 : Int32))), .val (.int ((p1 &&& (2147483647 : Int32)) % (7 : Int32))), .val (.int (0 : Int32)), .val (.int (fn1 (sel [w_CONSUME, w_PUBLISH, w_CREATE, w_ACCESS, w_BIND, w_UNBIND, w_DELETE, w_PURGE, w_UPDATE, w_MOVE, w_REDIRECT, w_REROUTE] ((p0 &&& (2147483647 : Int32)) % (12 : Int32))) (sel [w_QUEUE, w_EXCHANGE, w_BROKER, w_LINK, w_METHOD, w_QUERY, w_CONNECTION] ((p1 &&& (2147483647 : Int32)) % (7 : Int32))) w_CONSUME w_PUBLISH w_CREATE w_ACCESS w_BIND w_UNBIND w_DELETE w_PURGE w_UPDATE w_MOVE w_REDIRECT w_REROUTE w_QUEUE w_EXCHANGE w_BROKER w_LINK w_METHOD w_QUERY w_CONNECTION))]) rfl k) ?_
      refine Gl.by (g' := (mkF m 186 #[.val (.int p0), .val (.int p1), .val (.ref b1), .val (.ref b50), .val (.int ((p0 &&& (2147483647 : Int32)) % (12 : Int32))), .val (.int ((p1 &&& (2147483647 : Int32)) % (7 : Int32))), .val (.int (0 : Int32)), .val (.int (fn1 (sel [w_CONSUME, w_PUBLISH, w_CREATE, w_ACCESS, w_BIND, w_UNBIND, w_DELETE, w_PURGE, w_UPDATE, w_MOVE, w_REDIRECT, w_REROUTE] ((p0 &&& (2147483647 : Int32)) % (12 : Int32))) (sel [w_QUEUE, w_EXCHANGE, w_BROKER, w_LINK, w_METHOD, w_QUERY, w_CONNECTION] ((p1 &&& (2147483647 : Int32)) % (7 : Int32))) w_CONSUME w_PUBLISH w_CREATE w_ACCESS w_BIND w_UNBIND w_DELETE w_PURGE w_UPDATE w_MOVE w_REDIRECT w_REROUTE w_QUEUE w_EXCHANGE w_BROKER w_LINK w_METHOD w_QUERY w_CONNECTION))] [(.int (fn1 (sel [w_CONSUME, w_PUBLISH, w_CREATE, w_ACCESS, w_BIND, w_UNBIND, w_DELETE, w_PURGE, w_UPDATE, w_MOVE, w_REDIRECT, w_REROUTE] ((p0 &&& (2147483647 : Int32)) % (12 : Int32))) (sel [w_QUEUE, w_EXCHANGE, w_BROKER, w_LINK, w_METHOD, w_QUERY, w_CONNECTION] ((p1 &&& (2147483647 : Int32)) % (7 : Int32))) w_CONSUME w_PUBLISH w_CREATE w_ACCESS w_BIND w_UNBIND w_DELETE w_PURGE w_UPDATE w_MOVE w_REDIRECT w_REROUTE w_QUEUE w_EXCHANGE w_BROKER w_LINK w_METHOD w_QUERY w_CONNECTION))])) (fun _ k => XS.iload X96.here hx rfl (hb hby at_184) rfl k) ?_
      refine Gl.by (g' := (mkF m 188 #[.val (.int p0), .val (.int p1), .val (.ref b1), .val (.ref b50), .val (.int ((p0 &&& (2147483647 : Int32)) % (12 : Int32))), .val (.int ((p1 &&& (2147483647 : Int32)) % (7 : Int32))), .val (.int (0 : Int32)), .val (.int (fn1 (sel [w_CONSUME, w_PUBLISH, w_CREATE, w_ACCESS, w_BIND, w_UNBIND, w_DELETE, w_PURGE, w_UPDATE, w_MOVE, w_REDIRECT, w_REROUTE] ((p0 &&& (2147483647 : Int32)) % (12 : Int32))) (sel [w_QUEUE, w_EXCHANGE, w_BROKER, w_LINK, w_METHOD, w_QUERY, w_CONNECTION] ((p1 &&& (2147483647 : Int32)) % (7 : Int32))) w_CONSUME w_PUBLISH w_CREATE w_ACCESS w_BIND w_UNBIND w_DELETE w_PURGE w_UPDATE w_MOVE w_REDIRECT w_REROUTE w_QUEUE w_EXCHANGE w_BROKER w_LINK w_METHOD w_QUERY w_CONNECTION))] [(.int (0 : Int32)), (.int (fn1 (sel [w_CONSUME, w_PUBLISH, w_CREATE, w_ACCESS, w_BIND, w_UNBIND, w_DELETE, w_PURGE, w_UPDATE, w_MOVE, w_REDIRECT, w_REROUTE] ((p0 &&& (2147483647 : Int32)) % (12 : Int32))) (sel [w_QUEUE, w_EXCHANGE, w_BROKER, w_LINK, w_METHOD, w_QUERY, w_CONNECTION] ((p1 &&& (2147483647 : Int32)) % (7 : Int32))) w_CONSUME w_PUBLISH w_CREATE w_ACCESS w_BIND w_UNBIND w_DELETE w_PURGE w_UPDATE w_MOVE w_REDIRECT w_REROUTE w_QUEUE w_EXCHANGE w_BROKER w_LINK w_METHOD w_QUERY w_CONNECTION))])) (fun _ k => XS.iload X96.here hx rfl (hb hby at_186) rfl k) ?_
      by_cases hc98 : (fn1 (sel [w_CONSUME, w_PUBLISH, w_CREATE, w_ACCESS, w_BIND, w_UNBIND, w_DELETE, w_PURGE, w_UPDATE, w_MOVE, w_REDIRECT, w_REROUTE] ((p0 &&& (2147483647 : Int32)) % (12 : Int32))) (sel [w_QUEUE, w_EXCHANGE, w_BROKER, w_LINK, w_METHOD, w_QUERY, w_CONNECTION] ((p1 &&& (2147483647 : Int32)) % (7 : Int32))) w_CONSUME w_PUBLISH w_CREATE w_ACCESS w_BIND w_UNBIND w_DELETE w_PURGE w_UPDATE w_MOVE w_REDIRECT w_REROUTE w_QUEUE w_EXCHANGE w_BROKER w_LINK w_METHOD w_QUERY w_CONNECTION) = (0 : Int32)
      · refine Gl.by (g' := (mkF m 191 #[.val (.int p0), .val (.int p1), .val (.ref b1), .val (.ref b50), .val (.int ((p0 &&& (2147483647 : Int32)) % (12 : Int32))), .val (.int ((p1 &&& (2147483647 : Int32)) % (7 : Int32))), .val (.int (0 : Int32)), .val (.int (fn1 (sel [w_CONSUME, w_PUBLISH, w_CREATE, w_ACCESS, w_BIND, w_UNBIND, w_DELETE, w_PURGE, w_UPDATE, w_MOVE, w_REDIRECT, w_REROUTE] ((p0 &&& (2147483647 : Int32)) % (12 : Int32))) (sel [w_QUEUE, w_EXCHANGE, w_BROKER, w_LINK, w_METHOD, w_QUERY, w_CONNECTION] ((p1 &&& (2147483647 : Int32)) % (7 : Int32))) w_CONSUME w_PUBLISH w_CREATE w_ACCESS w_BIND w_UNBIND w_DELETE w_PURGE w_UPDATE w_MOVE w_REDIRECT w_REROUTE w_QUEUE w_EXCHANGE w_BROKER w_LINK w_METHOD w_QUERY w_CONNECTION))] [])) (fun _ k => XS.icmpNo X96.here hx rfl (hb hby at_188) rfl (teq hc98).2 k) ?_
        refine Gl.by (g' := (mkF m 192 #[.val (.int p0), .val (.int p1), .val (.ref b1), .val (.ref b50), .val (.int ((p0 &&& (2147483647 : Int32)) % (12 : Int32))), .val (.int ((p1 &&& (2147483647 : Int32)) % (7 : Int32))), .val (.int (0 : Int32)), .val (.int (fn1 (sel [w_CONSUME, w_PUBLISH, w_CREATE, w_ACCESS, w_BIND, w_UNBIND, w_DELETE, w_PURGE, w_UPDATE, w_MOVE, w_REDIRECT, w_REROUTE] ((p0 &&& (2147483647 : Int32)) % (12 : Int32))) (sel [w_QUEUE, w_EXCHANGE, w_BROKER, w_LINK, w_METHOD, w_QUERY, w_CONNECTION] ((p1 &&& (2147483647 : Int32)) % (7 : Int32))) w_CONSUME w_PUBLISH w_CREATE w_ACCESS w_BIND w_UNBIND w_DELETE w_PURGE w_UPDATE w_MOVE w_REDIRECT w_REROUTE w_QUEUE w_EXCHANGE w_BROKER w_LINK w_METHOD w_QUERY w_CONNECTION))] [(.int (1 : Int32))])) (fun _ k => XS.iconst X96.here hx rfl (hb hby at_191) k) ?_
        refine Gl.by (g' := (mkF m 196 #[.val (.int p0), .val (.int p1), .val (.ref b1), .val (.ref b50), .val (.int ((p0 &&& (2147483647 : Int32)) % (12 : Int32))), .val (.int ((p1 &&& (2147483647 : Int32)) % (7 : Int32))), .val (.int (0 : Int32)), .val (.int (fn1 (sel [w_CONSUME, w_PUBLISH, w_CREATE, w_ACCESS, w_BIND, w_UNBIND, w_DELETE, w_PURGE, w_UPDATE, w_MOVE, w_REDIRECT, w_REROUTE] ((p0 &&& (2147483647 : Int32)) % (12 : Int32))) (sel [w_QUEUE, w_EXCHANGE, w_BROKER, w_LINK, w_METHOD, w_QUERY, w_CONNECTION] ((p1 &&& (2147483647 : Int32)) % (7 : Int32))) w_CONSUME w_PUBLISH w_CREATE w_ACCESS w_BIND w_UNBIND w_DELETE w_PURGE w_UPDATE w_MOVE w_REDIRECT w_REROUTE w_QUEUE w_EXCHANGE w_BROKER w_LINK w_METHOD w_QUERY w_CONNECTION))] [(.int (1 : Int32))])) (fun _ k => XS.goto X96.here hx rfl (pc0 := 192) (pc' := 196) rfl (hb hby at_192) (by decide) (by decide) k) ?_
        exact Gl.outN X96 hx hk (t := .boolean) Bd.returns (by simp) (hb hby at_196) ⟨(congrArg (fun z => some (Value.int z)) (show nar .boolean (1 : Int32) = fn0 p0 p1 w_CONSUME w_PUBLISH w_CREATE w_ACCESS w_BIND w_UNBIND w_DELETE w_PURGE w_UPDATE w_MOVE w_REDIRECT w_REROUTE w_QUEUE w_EXCHANGE w_BROKER w_LINK w_METHOD w_QUERY w_CONNECTION by unfold fn0; rw [if_pos hc81, if_neg hc82, if_pos hc98]; try rfl)), N96⟩ (by decide) (by decide)
      · refine Gl.by (g' := (mkF m 195 #[.val (.int p0), .val (.int p1), .val (.ref b1), .val (.ref b50), .val (.int ((p0 &&& (2147483647 : Int32)) % (12 : Int32))), .val (.int ((p1 &&& (2147483647 : Int32)) % (7 : Int32))), .val (.int (0 : Int32)), .val (.int (fn1 (sel [w_CONSUME, w_PUBLISH, w_CREATE, w_ACCESS, w_BIND, w_UNBIND, w_DELETE, w_PURGE, w_UPDATE, w_MOVE, w_REDIRECT, w_REROUTE] ((p0 &&& (2147483647 : Int32)) % (12 : Int32))) (sel [w_QUEUE, w_EXCHANGE, w_BROKER, w_LINK, w_METHOD, w_QUERY, w_CONNECTION] ((p1 &&& (2147483647 : Int32)) % (7 : Int32))) w_CONSUME w_PUBLISH w_CREATE w_ACCESS w_BIND w_UNBIND w_DELETE w_PURGE w_UPDATE w_MOVE w_REDIRECT w_REROUTE w_QUEUE w_EXCHANGE w_BROKER w_LINK w_METHOD w_QUERY w_CONNECTION))] [])) (fun _ k => XS.icmpYes X96.here hx rfl (pc0 := 188) (pc' := 195) rfl (hb hby at_188) rfl (feq hc98).2 (by decide) (by decide) k) ?_
        refine Gl.by (g' := (mkF m 196 #[.val (.int p0), .val (.int p1), .val (.ref b1), .val (.ref b50), .val (.int ((p0 &&& (2147483647 : Int32)) % (12 : Int32))), .val (.int ((p1 &&& (2147483647 : Int32)) % (7 : Int32))), .val (.int (0 : Int32)), .val (.int (fn1 (sel [w_CONSUME, w_PUBLISH, w_CREATE, w_ACCESS, w_BIND, w_UNBIND, w_DELETE, w_PURGE, w_UPDATE, w_MOVE, w_REDIRECT, w_REROUTE] ((p0 &&& (2147483647 : Int32)) % (12 : Int32))) (sel [w_QUEUE, w_EXCHANGE, w_BROKER, w_LINK, w_METHOD, w_QUERY, w_CONNECTION] ((p1 &&& (2147483647 : Int32)) % (7 : Int32))) w_CONSUME w_PUBLISH w_CREATE w_ACCESS w_BIND w_UNBIND w_DELETE w_PURGE w_UPDATE w_MOVE w_REDIRECT w_REROUTE w_QUEUE w_EXCHANGE w_BROKER w_LINK w_METHOD w_QUERY w_CONNECTION))] [(.int (0 : Int32))])) (fun _ k => XS.iconst X96.here hx rfl (hb hby at_195) k) ?_
        exact Gl.outN X96 hx hk (t := .boolean) Bd.returns (by simp) (hb hby at_196) ⟨(congrArg (fun z => some (Value.int z)) (show nar .boolean (0 : Int32) = fn0 p0 p1 w_CONSUME w_PUBLISH w_CREATE w_ACCESS w_BIND w_UNBIND w_DELETE w_PURGE w_UPDATE w_MOVE w_REDIRECT w_REROUTE w_QUEUE w_EXCHANGE w_BROKER w_LINK w_METHOD w_QUERY w_CONNECTION by unfold fn0; rw [if_pos hc81, if_neg hc82, if_neg hc98]; try rfl)), N96⟩ (by decide) (by decide)
  · refine Gl.by (g' := (mkF m 168 #[.val (.int p0), .val (.int p1), .val (.ref b1), .val (.ref b50), .val (.int ((p0 &&& (2147483647 : Int32)) % (12 : Int32))), .val (.int ((p1 &&& (2147483647 : Int32)) % (7 : Int32))), .unset, .unset] [])) (fun _ k => XS.icmpYes X80.here hx rfl (pc0 := 154) (pc' := 168) rfl (hb hby at_154) rfl (feq hc81).2 (by decide) (by decide) k) ?_
    refine Gl.by (g' := (mkF m 169 #[.val (.int p0), .val (.int p1), .val (.ref b1), .val (.ref b50), .val (.int ((p0 &&& (2147483647 : Int32)) % (12 : Int32))), .val (.int ((p1 &&& (2147483647 : Int32)) % (7 : Int32))), .unset, .unset] [(.int (0 : Int32))])) (fun _ k => XS.iconst X80.here hx rfl (hb hby at_168) k) ?_
    refine Gl.by (g' := (mkF m 171 #[.val (.int p0), .val (.int p1), .val (.ref b1), .val (.ref b50), .val (.int ((p0 &&& (2147483647 : Int32)) % (12 : Int32))), .val (.int ((p1 &&& (2147483647 : Int32)) % (7 : Int32))), .val (.int (0 : Int32)), .unset] [])) (fun _ k => XS.istore X80.here hx rfl (hb hby at_169) rfl (l' := #[.val (.int p0), .val (.int p1), .val (.ref b1), .val (.ref b50), .val (.int ((p0 &&& (2147483647 : Int32)) % (12 : Int32))), .val (.int ((p1 &&& (2147483647 : Int32)) % (7 : Int32))), .val (.int (0 : Int32)), .unset]) rfl k) ?_
    refine Gl.by (g' := (mkF m 172 #[.val (.int p0), .val (.int p1), .val (.ref b1), .val (.ref b50), .val (.int ((p0 &&& (2147483647 : Int32)) % (12 : Int32))), .val (.int ((p1 &&& (2147483647 : Int32)) % (7 : Int32))), .val (.int (0 : Int32)), .unset] [(.ref b1)])) (fun _ k => XS.aloadN X80.here hx rfl (hb hby at_171) rfl rfl k) ?_
    refine Gl.by (g' := (mkF m 174 #[.val (.int p0), .val (.int p1), .val (.ref b1), .val (.ref b50), .val (.int ((p0 &&& (2147483647 : Int32)) % (12 : Int32))), .val (.int ((p1 &&& (2147483647 : Int32)) % (7 : Int32))), .val (.int (0 : Int32)), .unset] [(.int ((p0 &&& (2147483647 : Int32)) % (12 : Int32))), (.ref b1)])) (fun _ k => XS.iload X80.here hx rfl (hb hby at_172) rfl k) ?_
    have f99 := (Arv.other (Arv.other (Arv.other (Arv.other (Arv.other (Arv.other (Arv.other (Arv.ext V49 E50) W56 ne50_0) W60 ne50_0) W64 ne50_0) W68 ne50_0) W72 ne50_0) W76 ne50_0) W80 ne50_0)
    obtain ⟨cl100, Ar100, qa100, Sa100, Na100, Ha100, Ga100⟩ := id f99
    have hin101 : ¬ (((p0 &&& (2147483647 : Int32)) % (12 : Int32)) < 0 ∨ cl100.slots.size ≤ (((p0 &&& (2147483647 : Int32)) % (12 : Int32))).toNatClampNeg) := inb_of Sa100 (idx_ok p0 (12 : Int32) (by decide))
    refine Gl.by (g' := (mkF m 175 #[.val (.int p0), .val (.int p1), .val (.ref b1), .val (.ref b50), .val (.int ((p0 &&& (2147483647 : Int32)) % (12 : Int32))), .val (.int ((p1 &&& (2147483647 : Int32)) % (7 : Int32))), .val (.int (0 : Int32)), .unset] [(.ref (sel [w_CONSUME, w_PUBLISH, w_CREATE, w_ACCESS, w_BIND, w_UNBIND, w_DELETE, w_PURGE, w_UPDATE, w_MOVE, w_REDIRECT, w_REROUTE] ((p0 &&& (2147483647 : Int32)) % (12 : Int32))))])) (X80.aaload hx (j := ((p0 &&& (2147483647 : Int32)) % (12 : Int32))) (v := (.ref (sel [w_CONSUME, w_PUBLISH, w_CREATE, w_ACCESS, w_BIND, w_UNBIND, w_DELETE, w_PURGE, w_UPDATE, w_MOVE, w_REDIRECT, w_REROUTE] ((p0 &&& (2147483647 : Int32)) % (12 : Int32))))) (by rw [e80]; exact Ar100.1) (State.isArrayOf_alike hZ.alike Ar100.2.1) rfl Ar100.2.2 hin101 (Has.at Ha100 hin101 (sel_at [w_CONSUME, w_PUBLISH, w_CREATE, w_ACCESS, w_BIND, w_UNBIND, w_DELETE, w_PURGE, w_UPDATE, w_MOVE, w_REDIRECT, w_REROUTE] ((p0 &&& (2147483647 : Int32)) % (12 : Int32)) (idx_nat (idx_ok p0 (12 : Int32) (by decide)) rfl))) (g := (mkF m 174 #[.val (.int p0), .val (.int p1), .val (.ref b1), .val (.ref b50), .val (.int ((p0 &&& (2147483647 : Int32)) % (12 : Int32))), .val (.int ((p1 &&& (2147483647 : Int32)) % (7 : Int32))), .val (.int (0 : Int32)), .unset] [(.int ((p0 &&& (2147483647 : Int32)) % (12 : Int32))), (.ref b1)])) rfl rfl (hb hby at_174)) ?_
    refine Gl.by (g' := (mkF m 176 #[.val (.int p0), .val (.int p1), .val (.ref b1), .val (.ref b50), .val (.int ((p0 &&& (2147483647 : Int32)) % (12 : Int32))), .val (.int ((p1 &&& (2147483647 : Int32)) % (7 : Int32))), .val (.int (0 : Int32)), .unset] [(.ref b50), (.ref (sel [w_CONSUME, w_PUBLISH, w_CREATE, w_ACCESS, w_BIND, w_UNBIND, w_DELETE, w_PURGE, w_UPDATE, w_MOVE, w_REDIRECT, w_REROUTE] ((p0 &&& (2147483647 : Int32)) % (12 : Int32))))])) (fun _ k => XS.aloadN X80.here hx rfl (hb hby at_175) rfl rfl k) ?_
    refine Gl.by (g' := (mkF m 178 #[.val (.int p0), .val (.int p1), .val (.ref b1), .val (.ref b50), .val (.int ((p0 &&& (2147483647 : Int32)) % (12 : Int32))), .val (.int ((p1 &&& (2147483647 : Int32)) % (7 : Int32))), .val (.int (0 : Int32)), .unset] [(.int ((p1 &&& (2147483647 : Int32)) % (7 : Int32))), (.ref b50), (.ref (sel [w_CONSUME, w_PUBLISH, w_CREATE, w_ACCESS, w_BIND, w_UNBIND, w_DELETE, w_PURGE, w_UPDATE, w_MOVE, w_REDIRECT, w_REROUTE] ((p0 &&& (2147483647 : Int32)) % (12 : Int32))))])) (fun _ k => XS.iload X80.here hx rfl (hb hby at_176) rfl k) ?_
    obtain ⟨cl102, Ar102, qa102, Sa102, Na102, Ha102, Ga102⟩ := id V80
    have hin103 : ¬ (((p1 &&& (2147483647 : Int32)) % (7 : Int32)) < 0 ∨ cl102.slots.size ≤ (((p1 &&& (2147483647 : Int32)) % (7 : Int32))).toNatClampNeg) := inb_of Sa102 (idx_ok p1 (7 : Int32) (by decide))
    refine Gl.by (g' := (mkF m 179 #[.val (.int p0), .val (.int p1), .val (.ref b1), .val (.ref b50), .val (.int ((p0 &&& (2147483647 : Int32)) % (12 : Int32))), .val (.int ((p1 &&& (2147483647 : Int32)) % (7 : Int32))), .val (.int (0 : Int32)), .unset] [(.ref (sel [w_QUEUE, w_EXCHANGE, w_BROKER, w_LINK, w_METHOD, w_QUERY, w_CONNECTION] ((p1 &&& (2147483647 : Int32)) % (7 : Int32)))), (.ref (sel [w_CONSUME, w_PUBLISH, w_CREATE, w_ACCESS, w_BIND, w_UNBIND, w_DELETE, w_PURGE, w_UPDATE, w_MOVE, w_REDIRECT, w_REROUTE] ((p0 &&& (2147483647 : Int32)) % (12 : Int32))))])) (X80.aaload hx (j := ((p1 &&& (2147483647 : Int32)) % (7 : Int32))) (v := (.ref (sel [w_QUEUE, w_EXCHANGE, w_BROKER, w_LINK, w_METHOD, w_QUERY, w_CONNECTION] ((p1 &&& (2147483647 : Int32)) % (7 : Int32))))) (by rw [e80]; exact Ar102.1) (State.isArrayOf_alike hZ.alike Ar102.2.1) rfl Ar102.2.2 hin103 (Has.at Ha102 hin103 (sel_at [w_QUEUE, w_EXCHANGE, w_BROKER, w_LINK, w_METHOD, w_QUERY, w_CONNECTION] ((p1 &&& (2147483647 : Int32)) % (7 : Int32)) (idx_nat (idx_ok p1 (7 : Int32) (by decide)) rfl))) (g := (mkF m 178 #[.val (.int p0), .val (.int p1), .val (.ref b1), .val (.ref b50), .val (.int ((p0 &&& (2147483647 : Int32)) % (12 : Int32))), .val (.int ((p1 &&& (2147483647 : Int32)) % (7 : Int32))), .val (.int (0 : Int32)), .unset] [(.int ((p1 &&& (2147483647 : Int32)) % (7 : Int32))), (.ref b50), (.ref (sel [w_CONSUME, w_PUBLISH, w_CREATE, w_ACCESS, w_BIND, w_UNBIND, w_DELETE, w_PURGE, w_UPDATE, w_MOVE, w_REDIRECT, w_REROUTE] ((p0 &&& (2147483647 : Int32)) % (12 : Int32))))])) rfl rfl (hb hby at_178)) ?_
    have O105 := (O78.wr W80 gb50)
    obtain ⟨_, _, ⟨T104, L104, k104, n104⟩, -, X104, ⟨Lc104, hQ104, l104, y104, z104⟩, st104⟩ := Jvm.LawKit.callS X80 hx (y := (⟨"com/example/gatewarden/gatewarden/core/Lookup", "isConnection", "(Lcom/example/gatewarden/gatewarden/core/Action;Lcom/example/gatewarden/gatewarden/core/ObjectType;)Z"⟩ : MethodName)) hown (mvT hZ (hw _ (List.mem_of_getElem? (i := 47) rfl))) (mvT hZ (hw _ (List.mem_of_getElem? (i := 48) rfl))) (mvT hZ (hw _ (List.mem_of_getElem? (i := 49) rfl))) (mvT hZ (hw _ (List.mem_of_getElem? (i := 50) rfl))) (by decide) (backOf (W := 0) (rm1 l Z a0' hw [] (sel [w_CONSUME, w_PUBLISH, w_CREATE, w_ACCESS, w_BIND, w_UNBIND, w_DELETE, w_PURGE, w_UPDATE, w_MOVE, w_REDIRECT, w_REROUTE] ((p0 &&& (2147483647 : Int32)) % (12 : Int32))) (sel [w_QUEUE, w_EXCHANGE, w_BROKER, w_LINK, w_METHOD, w_QUERY, w_CONNECTION] ((p1 &&& (2147483647 : Int32)) % (7 : Int32))) w_CONSUME w_PUBLISH w_CREATE w_ACCESS w_BIND w_UNBIND w_DELETE w_PURGE w_UPDATE w_MOVE w_REDIRECT w_REROUTE w_QUEUE w_EXCHANGE w_BROKER w_LINK w_METHOD w_QUERY w_CONNECTION h80 n0 O105 W ) hZ (hw _ (List.mem_of_getElem? (i := 50) rfl)) (hw _ (List.mem_of_getElem? (i := 49) rfl)) (by decide) (by decide)) (g := (mkF m 179 #[.val (.int p0), .val (.int p1), .val (.ref b1), .val (.ref b50), .val (.int ((p0 &&& (2147483647 : Int32)) % (12 : Int32))), .val (.int ((p1 &&& (2147483647 : Int32)) % (7 : Int32))), .val (.int (0 : Int32)), .unset] [(.ref (sel [w_QUEUE, w_EXCHANGE, w_BROKER, w_LINK, w_METHOD, w_QUERY, w_CONNECTION] ((p1 &&& (2147483647 : Int32)) % (7 : Int32)))), (.ref (sel [w_CONSUME, w_PUBLISH, w_CREATE, w_ACCESS, w_BIND, w_UNBIND, w_DELETE, w_PURGE, w_UPDATE, w_MOVE, w_REDIRECT, w_REROUTE] ((p0 &&& (2147483647 : Int32)) % (12 : Int32))))])) rfl (by rw [hml]; rfl) (argsL := [(.ref (sel [w_CONSUME, w_PUBLISH, w_CREATE, w_ACCESS, w_BIND, w_UNBIND, w_DELETE, w_PURGE, w_UPDATE, w_MOVE, w_REDIRECT, w_REROUTE] ((p0 &&& (2147483647 : Int32)) % (12 : Int32)))), (.ref (sel [w_QUEUE, w_EXCHANGE, w_BROKER, w_LINK, w_METHOD, w_QUERY, w_CONNECTION] ((p1 &&& (2147483647 : Int32)) % (7 : Int32))))]) (rest := []) (lenOf pd10 rfl) rfl (by show 2 * 0 + _ ≤ _; exact Nat.le_of_eq rfl) (hb hby at_179) (fun _ _ => ⟨rfl, e80, (by decide : 2 + 0 ≤ _), (by decide : 19 + 0 ≤ _)⟩)
    dsimp only [Pt.U, Pt.locs, Pt.cells, Pt.slots] at X104 l104 y104 z104 st104 hQ104
    subst l104 y104 z104
    obtain ⟨rfl, N104q, e104⟩ := hQ104
    have N104 := Fr.app N80 N104q
    refine Gl.by (g' := (mkF m 182 #[.val (.int p0), .val (.int p1), .val (.ref b1), .val (.ref b50), .val (.int ((p0 &&& (2147483647 : Int32)) % (12 : Int32))), .val (.int ((p1 &&& (2147483647 : Int32)) % (7 : Int32))), .val (.int (0 : Int32)), .unset] [(.int (fn1 (sel [w_CONSUME, w_PUBLISH, w_CREATE, w_ACCESS, w_BIND, w_UNBIND, w_DELETE, w_PURGE, w_UPDATE, w_MOVE, w_REDIRECT, w_REROUTE] ((p0 &&& (2147483647 : Int32)) % (12 : Int32))) (sel [w_QUEUE, w_EXCHANGE, w_BROKER, w_LINK, w_METHOD, w_QUERY, w_CONNECTION] ((p1 &&& (2147483647 : Int32)) % (7 : Int32))) w_CONSUME w_PUBLISH w_CREATE w_ACCESS w_BIND w_UNBIND w_DELETE w_PURGE w_UPDATE w_MOVE w_REDIRECT w_REROUTE w_QUEUE w_EXCHANGE w_BROKER w_LINK w_METHOD w_QUERY w_CONNECTION))])) st104 ?_
    refine Gl.by (g' := (mkF m 184 #[.val (.int p0), .val (.int p1), .val (.ref b1), .val (.ref b50), .val (.int ((p0 &&& (2147483647 : Int32)) % (12 : Int32))), .val (.int ((p1 &&& (2147483647 : Int32)) % (7 : Int32))), .val (.int (0 : Int32)), .val (.int (fn1 (sel [w_CONSUME, w_PUBLISH, w_CREATE, w_ACCESS, w_BIND, w_UNBIND, w_DELETE, w_PURGE, w_UPDATE, w_MOVE, w_REDIRECT, w_REROUTE] ((p0 &&& (2147483647 : Int32)) % (12 : Int32))) (sel [w_QUEUE, w_EXCHANGE, w_BROKER, w_LINK, w_METHOD, w_QUERY, w_CONNECTION] ((p1 &&& (2147483647 : Int32)) % (7 : Int32))) w_CONSUME w_PUBLISH w_CREATE w_ACCESS w_BIND w_UNBIND w_DELETE w_PURGE w_UPDATE w_MOVE w_REDIRECT w_REROUTE w_QUEUE w_EXCHANGE w_BROKER w_LINK w_METHOD w_QUERY w_CONNECTION))] [])) (fun _ k => XS.istore X104.here hx rfl (hb hby at_182) rfl (l' := #[.val (.int p0), .val (.int p1), .val (.ref b1), .val (.ref b50), .val (.int ((p0 &&& (2147483647 : Int32)) % (12 : Int32))), .val (.int ((p1 &&& (2147483647 : Int32)) % (7 : Int32))), .val (.int (0 : Int32)), .val (.int (fn1 (sel [w_CONSUME, w_PUBLISH, w_CREATE, w_ACCESS, w_BIND, w_UNBIND, w_DELETE, w_PURGE, w_UPDATE, w_MOVE, w_REDIRECT, w_REROUTE] ((p0 &&& (2147483647 : Int32)) % (12 : Int32))) (sel [w_QUEUE, w_EXCHANGE, w_BROKER, w_LINK, w_METHOD, w_QUERY, w_CONNECTION] ((p1 &&& (2147483647 : Int32)) % (7 : Int32))) w_CONSUME w_PUBLISH w_CREATE w_ACCESS w_BIND w_UNBIND w_DELETE w_PURGE w_UPDATE w_MOVE w_REDIRECT w_REROUTE w_QUEUE w_EXCHANGE w_BROKER w_LINK w_METHOD w_QUERY w_CONNECTION))]) rfl k) ?_
    refine Gl.by (g' := (mkF m 186 #[.val (.int p0), .val (.int p1), .val (.ref b1), .val (.ref b50), .val (.int ((p0 &&& (2147483647 : Int32)) % (12 : Int32))), .val (.int ((p1 &&& (2147483647 : Int32)) % (7 : Int32))), .val (.int (0 : Int32)), .val (.int (fn1 (sel [w_CONSUME, w_PUBLISH, w_CREATE, w_ACCESS, w_BIND, w_UNBIND, w_DELETE, w_PURGE, w_UPDATE, w_MOVE, w_REDIRECT, w_REROUTE] ((p0 &&& (2147483647 : Int32)) % (12 : Int32))) (sel [w_QUEUE, w_EXCHANGE, w_BROKER, w_LINK, w_METHOD, w_QUERY, w_CONNECTION] ((p1 &&& (2147483647 : Int32)) % (7 : Int32))) w_CONSUME w_PUBLISH w_CREATE w_ACCESS w_BIND w_UNBIND w_DELETE w_PURGE w_UPDATE w_MOVE w_REDIRECT w_REROUTE w_QUEUE w_EXCHANGE w_BROKER w_LINK w_METHOD w_QUERY w_CONNECTION))] [(.int (fn1 (sel [w_CONSUME, w_PUBLISH, w_CREATE, w_ACCESS, w_BIND, w_UNBIND, w_DELETE, w_PURGE, w_UPDATE, w_MOVE, w_REDIRECT, w_REROUTE] ((p0 &&& (2147483647 : Int32)) % (12 : Int32))) (sel [w_QUEUE, w_EXCHANGE, w_BROKER, w_LINK, w_METHOD, w_QUERY, w_CONNECTION] ((p1 &&& (2147483647 : Int32)) % (7 : Int32))) w_CONSUME w_PUBLISH w_CREATE w_ACCESS w_BIND w_UNBIND w_DELETE w_PURGE w_UPDATE w_MOVE w_REDIRECT w_REROUTE w_QUEUE w_EXCHANGE w_BROKER w_LINK w_METHOD w_QUERY w_CONNECTION))])) (fun _ k => XS.iload X104.here hx rfl (hb hby at_184) rfl k) ?_
    refine Gl.by (g' := (mkF m 188 #[.val (.int p0), .val (.int p1), .val (.ref b1), .val (.ref b50), .val (.int ((p0 &&& (2147483647 : Int32)) % (12 : Int32))), .val (.int ((p1 &&& (2147483647 : Int32)) % (7 : Int32))), .val (.int (0 : Int32)), .val (.int (fn1 (sel [w_CONSUME, w_PUBLISH, w_CREATE, w_ACCESS, w_BIND, w_UNBIND, w_DELETE, w_PURGE, w_UPDATE, w_MOVE, w_REDIRECT, w_REROUTE] ((p0 &&& (2147483647 : Int32)) % (12 : Int32))) (sel [w_QUEUE, w_EXCHANGE, w_BROKER, w_LINK, w_METHOD, w_QUERY, w_CONNECTION] ((p1 &&& (2147483647 : Int32)) % (7 : Int32))) w_CONSUME w_PUBLISH w_CREATE w_ACCESS w_BIND w_UNBIND w_DELETE w_PURGE w_UPDATE w_MOVE w_REDIRECT w_REROUTE w_QUEUE w_EXCHANGE w_BROKER w_LINK w_METHOD w_QUERY w_CONNECTION))] [(.int (0 : Int32)), (.int (fn1 (sel [w_CONSUME, w_PUBLISH, w_CREATE, w_ACCESS, w_BIND, w_UNBIND, w_DELETE, w_PURGE, w_UPDATE, w_MOVE, w_REDIRECT, w_REROUTE] ((p0 &&& (2147483647 : Int32)) % (12 : Int32))) (sel [w_QUEUE, w_EXCHANGE, w_BROKER, w_LINK, w_METHOD, w_QUERY, w_CONNECTION] ((p1 &&& (2147483647 : Int32)) % (7 : Int32))) w_CONSUME w_PUBLISH w_CREATE w_ACCESS w_BIND w_UNBIND w_DELETE w_PURGE w_UPDATE w_MOVE w_REDIRECT w_REROUTE w_QUEUE w_EXCHANGE w_BROKER w_LINK w_METHOD w_QUERY w_CONNECTION))])) (fun _ k => XS.iload X104.here hx rfl (hb hby at_186) rfl k) ?_
    by_cases hc106 : (fn1 (sel [w_CONSUME, w_PUBLISH, w_CREATE, w_ACCESS, w_BIND, w_UNBIND, w_DELETE, w_PURGE, w_UPDATE, w_MOVE, w_REDIRECT, w_REROUTE] ((p0 &&& (2147483647 : Int32)) % (12 : Int32))) (sel [w_QUEUE, w_EXCHANGE, w_BROKER, w_LINK, w_METHOD, w_QUERY, w_CONNECTION] ((p1 &&& (2147483647 : Int32)) % (7 : Int32))) w_CONSUME w_PUBLISH w_CREATE w_ACCESS w_BIND w_UNBIND w_DELETE w_PURGE w_UPDATE w_MOVE w_REDIRECT w_REROUTE w_QUEUE w_EXCHANGE w_BROKER w_LINK w_METHOD w_QUERY w_CONNECTION) = (0 : Int32)
    · refine Gl.by (g' := (mkF m 191 #[.val (.int p0), .val (.int p1), .val (.ref b1), .val (.ref b50), .val (.int ((p0 &&& (2147483647 : Int32)) % (12 : Int32))), .val (.int ((p1 &&& (2147483647 : Int32)) % (7 : Int32))), .val (.int (0 : Int32)), .val (.int (fn1 (sel [w_CONSUME, w_PUBLISH, w_CREATE, w_ACCESS, w_BIND, w_UNBIND, w_DELETE, w_PURGE, w_UPDATE, w_MOVE, w_REDIRECT, w_REROUTE] ((p0 &&& (2147483647 : Int32)) % (12 : Int32))) (sel [w_QUEUE, w_EXCHANGE, w_BROKER, w_LINK, w_METHOD, w_QUERY, w_CONNECTION] ((p1 &&& (2147483647 : Int32)) % (7 : Int32))) w_CONSUME w_PUBLISH w_CREATE w_ACCESS w_BIND w_UNBIND w_DELETE w_PURGE w_UPDATE w_MOVE w_REDIRECT w_REROUTE w_QUEUE w_EXCHANGE w_BROKER w_LINK w_METHOD w_QUERY w_CONNECTION))] [])) (fun _ k => XS.icmpNo X104.here hx rfl (hb hby at_188) rfl (teq hc106).2 k) ?_
      refine Gl.by (g' := (mkF m 192 #[.val (.int p0), .val (.int p1), .val (.ref b1), .val (.ref b50), .val (.int ((p0 &&& (2147483647 : Int32)) % (12 : Int32))), .val (.int ((p1 &&& (2147483647 : Int32)) % (7 : Int32))), .val (.int (0 : Int32)), .val (.int (fn1 (sel [w_CONSUME, w_PUBLISH, w_CREATE, w_ACCESS, w_BIND, w_UNBIND, w_DELETE, w_PURGE, w_UPDATE, w_MOVE, w_REDIRECT, w_REROUTE] ((p0 &&& (2147483647 : Int32)) % (12 : Int32))) (sel [w_QUEUE, w_EXCHANGE, w_BROKER, w_LINK, w_METHOD, w_QUERY, w_CONNECTION] ((p1 &&& (2147483647 : Int32)) % (7 : Int32))) w_CONSUME w_PUBLISH w_CREATE w_ACCESS w_BIND w_UNBIND w_DELETE w_PURGE w_UPDATE w_MOVE w_REDIRECT w_REROUTE w_QUEUE w_EXCHANGE w_BROKER w_LINK w_METHOD w_QUERY w_CONNECTION))] [(.int (1 : Int32))])) (fun _ k => XS.iconst X104.here hx rfl (hb hby at_191) k) ?_
      refine Gl.by (g' := (mkF m 196 #[.val (.int p0), .val (.int p1), .val (.ref b1), .val (.ref b50), .val (.int ((p0 &&& (2147483647 : Int32)) % (12 : Int32))), .val (.int ((p1 &&& (2147483647 : Int32)) % (7 : Int32))), .val (.int (0 : Int32)), .val (.int (fn1 (sel [w_CONSUME, w_PUBLISH, w_CREATE, w_ACCESS, w_BIND, w_UNBIND, w_DELETE, w_PURGE, w_UPDATE, w_MOVE, w_REDIRECT, w_REROUTE] ((p0 &&& (2147483647 : Int32)) % (12 : Int32))) (sel [w_QUEUE, w_EXCHANGE, w_BROKER, w_LINK, w_METHOD, w_QUERY, w_CONNECTION] ((p1 &&& (2147483647 : Int32)) % (7 : Int32))) w_CONSUME w_PUBLISH w_CREATE w_ACCESS w_BIND w_UNBIND w_DELETE w_PURGE w_UPDATE w_MOVE w_REDIRECT w_REROUTE w_QUEUE w_EXCHANGE w_BROKER w_LINK w_METHOD w_QUERY w_CONNECTION))] [(.int (1 : Int32))])) (fun _ k => XS.goto X104.here hx rfl (pc0 := 192) (pc' := 196) rfl (hb hby at_192) (by decide) (by decide) k) ?_
      exact Gl.outN X104 hx hk (t := .boolean) Bd.returns (by simp) (hb hby at_196) ⟨(congrArg (fun z => some (Value.int z)) (show nar .boolean (1 : Int32) = fn0 p0 p1 w_CONSUME w_PUBLISH w_CREATE w_ACCESS w_BIND w_UNBIND w_DELETE w_PURGE w_UPDATE w_MOVE w_REDIRECT w_REROUTE w_QUEUE w_EXCHANGE w_BROKER w_LINK w_METHOD w_QUERY w_CONNECTION by unfold fn0; rw [if_neg hc81, if_pos hc106]; try rfl)), N104⟩ (by decide) (by decide)
    · refine Gl.by (g' := (mkF m 195 #[.val (.int p0), .val (.int p1), .val (.ref b1), .val (.ref b50), .val (.int ((p0 &&& (2147483647 : Int32)) % (12 : Int32))), .val (.int ((p1 &&& (2147483647 : Int32)) % (7 : Int32))), .val (.int (0 : Int32)), .val (.int (fn1 (sel [w_CONSUME, w_PUBLISH, w_CREATE, w_ACCESS, w_BIND, w_UNBIND, w_DELETE, w_PURGE, w_UPDATE, w_MOVE, w_REDIRECT, w_REROUTE] ((p0 &&& (2147483647 : Int32)) % (12 : Int32))) (sel [w_QUEUE, w_EXCHANGE, w_BROKER, w_LINK, w_METHOD, w_QUERY, w_CONNECTION] ((p1 &&& (2147483647 : Int32)) % (7 : Int32))) w_CONSUME w_PUBLISH w_CREATE w_ACCESS w_BIND w_UNBIND w_DELETE w_PURGE w_UPDATE w_MOVE w_REDIRECT w_REROUTE w_QUEUE w_EXCHANGE w_BROKER w_LINK w_METHOD w_QUERY w_CONNECTION))] [])) (fun _ k => XS.icmpYes X104.here hx rfl (pc0 := 188) (pc' := 195) rfl (hb hby at_188) rfl (feq hc106).2 (by decide) (by decide) k) ?_
      refine Gl.by (g' := (mkF m 196 #[.val (.int p0), .val (.int p1), .val (.ref b1), .val (.ref b50), .val (.int ((p0 &&& (2147483647 : Int32)) % (12 : Int32))), .val (.int ((p1 &&& (2147483647 : Int32)) % (7 : Int32))), .val (.int (0 : Int32)), .val (.int (fn1 (sel [w_CONSUME, w_PUBLISH, w_CREATE, w_ACCESS, w_BIND, w_UNBIND, w_DELETE, w_PURGE, w_UPDATE, w_MOVE, w_REDIRECT, w_REROUTE] ((p0 &&& (2147483647 : Int32)) % (12 : Int32))) (sel [w_QUEUE, w_EXCHANGE, w_BROKER, w_LINK, w_METHOD, w_QUERY, w_CONNECTION] ((p1 &&& (2147483647 : Int32)) % (7 : Int32))) w_CONSUME w_PUBLISH w_CREATE w_ACCESS w_BIND w_UNBIND w_DELETE w_PURGE w_UPDATE w_MOVE w_REDIRECT w_REROUTE w_QUEUE w_EXCHANGE w_BROKER w_LINK w_METHOD w_QUERY w_CONNECTION))] [(.int (0 : Int32))])) (fun _ k => XS.iconst X104.here hx rfl (hb hby at_195) k) ?_
      exact Gl.outN X104 hx hk (t := .boolean) Bd.returns (by simp) (hb hby at_196) ⟨(congrArg (fun z => some (Value.int z)) (show nar .boolean (0 : Int32) = fn0 p0 p1 w_CONSUME w_PUBLISH w_CREATE w_ACCESS w_BIND w_UNBIND w_DELETE w_PURGE w_UPDATE w_MOVE w_REDIRECT w_REROUTE w_QUEUE w_EXCHANGE w_BROKER w_LINK w_METHOD w_QUERY w_CONNECTION by unfold fn0; rw [if_neg hc81, if_neg hc106]; try rfl)), N104⟩ (by decide) (by decide)
theorem cs12 {k : Int32} (h1 : 0 ≤ k.toInt) (h2 : k.toInt < 12) : k = 0 ∨ k = 1 ∨ k = 2 ∨ k = 3 ∨ k = 4 ∨ k = 5 ∨ k = 6 ∨ k = 7 ∨ k = 8 ∨ k = 9 ∨ k = 10 ∨ k = 11 := by
  have q : k.toInt = 0 ∨ k.toInt = 1 ∨ k.toInt = 2 ∨ k.toInt = 3 ∨ k.toInt = 4 ∨ k.toInt = 5 ∨ k.toInt = 6 ∨ k.toInt = 7 ∨ k.toInt = 8 ∨ k.toInt = 9 ∨ k.toInt = 10 ∨ k.toInt = 11 := by omega
  rcases q with h | h | h | h | h | h | h | h | h | h | h | h
  · exact Or.inl (Int32.toInt_inj.mp h)
  · exact Or.inr (Or.inl (Int32.toInt_inj.mp h))
  · exact Or.inr (Or.inr (Or.inl (Int32.toInt_inj.mp h)))
  · exact Or.inr (Or.inr (Or.inr (Or.inl (Int32.toInt_inj.mp h))))
  · exact Or.inr (Or.inr (Or.inr (Or.inr (Or.inl (Int32.toInt_inj.mp h)))))
  · exact Or.inr (Or.inr (Or.inr (Or.inr (Or.inr (Or.inl (Int32.toInt_inj.mp h))))))
  · exact Or.inr (Or.inr (Or.inr (Or.inr (Or.inr (Or.inr (Or.inl (Int32.toInt_inj.mp h)))))))
  · exact Or.inr (Or.inr (Or.inr (Or.inr (Or.inr (Or.inr (Or.inr (Or.inl (Int32.toInt_inj.mp h))))))))
  · exact Or.inr (Or.inr (Or.inr (Or.inr (Or.inr (Or.inr (Or.inr (Or.inr (Or.inl (Int32.toInt_inj.mp h)))))))))
  · exact Or.inr (Or.inr (Or.inr (Or.inr (Or.inr (Or.inr (Or.inr (Or.inr (Or.inr (Or.inl (Int32.toInt_inj.mp h))))))))))
  · exact Or.inr (Or.inr (Or.inr (Or.inr (Or.inr (Or.inr (Or.inr (Or.inr (Or.inr (Or.inr (Or.inl (Int32.toInt_inj.mp h)))))))))))
  · exact Or.inr (Or.inr (Or.inr (Or.inr (Or.inr (Or.inr (Or.inr (Or.inr (Or.inr (Or.inr (Or.inr ((Int32.toInt_inj.mp h))))))))))))
theorem cs7 {k : Int32} (h1 : 0 ≤ k.toInt) (h2 : k.toInt < 7) : k = 0 ∨ k = 1 ∨ k = 2 ∨ k = 3 ∨ k = 4 ∨ k = 5 ∨ k = 6 := by
  have q : k.toInt = 0 ∨ k.toInt = 1 ∨ k.toInt = 2 ∨ k.toInt = 3 ∨ k.toInt = 4 ∨ k.toInt = 5 ∨ k.toInt = 6 := by omega
  rcases q with h | h | h | h | h | h | h
  · exact Or.inl (Int32.toInt_inj.mp h)
  · exact Or.inr (Or.inl (Int32.toInt_inj.mp h))
  · exact Or.inr (Or.inr (Or.inl (Int32.toInt_inj.mp h)))
  · exact Or.inr (Or.inr (Or.inr (Or.inl (Int32.toInt_inj.mp h))))
  · exact Or.inr (Or.inr (Or.inr (Or.inr (Or.inl (Int32.toInt_inj.mp h)))))
  · exact Or.inr (Or.inr (Or.inr (Or.inr (Or.inr (Or.inl (Int32.toInt_inj.mp h))))))
  · exact Or.inr (Or.inr (Or.inr (Or.inr (Or.inr (Or.inr ((Int32.toInt_inj.mp h)))))))
theorem plain (p0 p1 : Int32) (w_CONSUME w_PUBLISH w_CREATE w_ACCESS w_BIND w_UNBIND w_DELETE w_PURGE w_UPDATE w_MOVE w_REDIRECT w_REROUTE w_QUEUE w_EXCHANGE w_BROKER w_LINK w_METHOD w_QUERY w_CONNECTION : Addr) (h_CONSUME : w_CONSUME ≠ w_CREATE) (h_PUBLISH : w_PUBLISH ≠ w_CREATE) (h_ACCESS : w_ACCESS ≠ w_CREATE) (h_BIND : w_BIND ≠ w_CREATE) (h_UNBIND : w_UNBIND ≠ w_CREATE) (h_DELETE : w_DELETE ≠ w_CREATE) (h_PURGE : w_PURGE ≠ w_CREATE) (h_UPDATE : w_UPDATE ≠ w_CREATE) (h_MOVE : w_MOVE ≠ w_CREATE) (h_REDIRECT : w_REDIRECT ≠ w_CREATE) (h_REROUTE : w_REROUTE ≠ w_CREATE) (h_QUEUE : w_QUEUE ≠ w_CONNECTION) (h_EXCHANGE : w_EXCHANGE ≠ w_CONNECTION) (h_BROKER : w_BROKER ≠ w_CONNECTION) (h_LINK : w_LINK ≠ w_CONNECTION) (h_METHOD : w_METHOD ≠ w_CONNECTION) (h_QUERY : w_QUERY ≠ w_CONNECTION) : fn0 p0 p1 w_CONSUME w_PUBLISH w_CREATE w_ACCESS w_BIND w_UNBIND w_DELETE w_PURGE w_UPDATE w_MOVE w_REDIRECT w_REROUTE w_QUEUE w_EXCHANGE w_BROKER w_LINK w_METHOD w_QUERY w_CONNECTION = 1 := by
  have z0 : (0 : Int32).toInt = 0 := by decide
  have z12 : (12 : Int32).toInt = 12 := by decide
  have z7 : (7 : Int32).toInt = 7 := by decide
  have b1 := idx_ok p0 12 (by decide)
  have b2 := idx_ok p1 7 (by decide)
  rw [Int32.lt_iff_toInt_lt, Int32.lt_iff_toInt_lt, z0] at b1 b2
  rw [z12] at b1
  rw [z7] at b2
  unfold fn0
  generalize ((p0 &&& (2147483647 : Int32)) % (12 : Int32)) = k at *
  generalize ((p1 &&& (2147483647 : Int32)) % (7 : Int32)) = n at *
  have s1 : sel [w_CONSUME, w_PUBLISH, w_CREATE, w_ACCESS, w_BIND, w_UNBIND, w_DELETE, w_PURGE, w_UPDATE, w_MOVE, w_REDIRECT, w_REROUTE] k = w_CREATE ↔ k = 2 := by
    rcases cs12 (by omega) b1.2 with rfl | rfl | rfl | rfl | rfl | rfl | rfl | rfl | rfl | rfl | rfl | rfl <;> simp_all [sel] <;> first | decide | skip
  have s2 : sel [w_QUEUE, w_EXCHANGE, w_BROKER, w_LINK, w_METHOD, w_QUERY, w_CONNECTION] n = w_CONNECTION ↔ n = 6 := by
    rcases cs7 (by omega) b2.2 with rfl | rfl | rfl | rfl | rfl | rfl | rfl <;> simp_all [sel] <;> first | decide | skip
  simp only [fn1, s1, s2]
  by_cases q1 : k = 2 <;> by_cases q2 : n = 6 <;> simp [q1, q2]
set_option maxRecDepth 65536 in
set_option maxHeartbeats 40000000 in
theorem comes_1 {Post : Tables → Env → Array Value → State → Outcome → State → Prop} (hpost : ∀ tb e args s v u, (limb_1_1.after args s (.returned v) u = true ∧ limb_1_2.after args s (.returned v) u = true ∧ True) → FrameEnd s (.returned v) u (Jvm.fieldLocs frame_1_writes args s ++ Jvm.arrayLocs frame_1_arrays args s ++ Jvm.staticLocs frame_1_statics s) 16 128 → Post tb e args s (.returned v) u) :
    ArmFor flags0 classFile x code maxLocals ret World_1 tables_1 room_1 Calls_1 rest_1 Pre_1 Post := by
  intro l hfl _ _ p e ha hc hk s m args below hf hA hF happ hP
  obtain ⟨hcalls, hrest, hpre⟩ := hP
  obtain ⟨-, -, -, hnamed, -, -, -, hat⟩ := (Spec.applies_iff hf).mp happ
  obtain ⟨hg, hn⟩ := and_e (Cond.before_iff.mp (show (Jvm.Cond.and given_1 narrow_1).before args s = true from hpre))
  obtain ⟨ga1, gb1⟩ := and_e hg
  obtain ⟨ga2, gb2⟩ := and_e gb1
  obtain ⟨w0, w1, rfl⟩ : ∃ w0 w1 : Value, args = #[w0, w1] := by
    have hs : args.size = 2 := by simpa [Cond.value, given_1] using ga1
    obtain ⟨L⟩ := args
    match L, hs with
    | [w0, w1], _ => exact ⟨w0, w1, rfl⟩
  have hw := fun d (hd : d ∈ tables_1) => atoms_spec (ws := Jvm.Cond.code x code maxLocals ret :: tables_1) hat d (List.mem_cons_of_mem _ hd)
  have hfit : Fit s := fun {y c} hc i hi => by
    obtain ⟨ha, rfl⟩ := Array.getElem?_eq_some_iff.mp hc
    have q := List.all_eq_true.mp ((Array.all_eq_true_iff_forall_mem.mp hF) _ (Array.getElem_mem ha)) i (List.mem_range.mpr hi)
    simpa [Array.getElem?_eq_getElem hi] using q
  obtain ⟨i0, ei0⟩ := is_v ga2
  obtain rfl : w0 = (.int i0) := Option.some.inj ei0
  obtain ⟨i1, ei1⟩ := is_v gb2
  obtain rfl : w1 = (.int i1) := Option.some.inj ei1
  obtain ⟨y1, z1⟩ := and_e hn
  obtain ⟨y2, z2⟩ := and_e z1
  obtain ⟨y3, z3⟩ := and_e z2
  obtain ⟨y4, z4⟩ := and_e z3
  obtain ⟨y5, z5⟩ := and_e z4
  obtain ⟨y6, z6⟩ := and_e z5
  obtain ⟨y7, z7⟩ := and_e z6
  obtain ⟨y8, z8⟩ := and_e z7
  obtain ⟨y9, z9⟩ := and_e z8
  obtain ⟨y10, z10⟩ := and_e z9
  obtain ⟨y11, z11⟩ := and_e z10
  obtain ⟨y12, z12⟩ := and_e z11
  obtain ⟨y13, z13⟩ := and_e z12
  obtain ⟨y14, z14⟩ := and_e z13
  obtain ⟨y15, z15⟩ := and_e z14
  obtain ⟨y16, z16⟩ := and_e z15
  obtain ⟨y17, z17⟩ := and_e z16
  obtain ⟨y18, z18⟩ := and_e z17
  obtain ⟨y19, z19⟩ := and_e z18
  obtain ⟨y20, z20⟩ := and_e z19
  obtain ⟨y21, z21⟩ := and_e z20
  obtain ⟨y22, z22⟩ := and_e z21
  obtain ⟨y23, z23⟩ := and_e z22
  obtain ⟨y24, z24⟩ := and_e z23
  obtain ⟨y25, z25⟩ := and_e z24
  obtain ⟨y26, z26⟩ := and_e z25
  obtain ⟨y27, z27⟩ := and_e z26
  obtain ⟨y28, z28⟩ := and_e z27
  obtain ⟨y29, z29⟩ := and_e z28
  obtain ⟨y30, z30⟩ := and_e z29
  obtain ⟨y31, z31⟩ := and_e z30
  obtain ⟨y32, z32⟩ := and_e z31
  obtain ⟨y33, z33⟩ := and_e z32
  obtain ⟨y34, z34⟩ := and_e z33
  obtain ⟨y35, z35⟩ := and_e z34
  obtain ⟨y36, z36⟩ := and_e z35
  obtain ⟨y37, z37⟩ := and_e z36
  obtain ⟨w_CONSUME, ev_w_CONSUME⟩ := exa_v y1
  have S_w_CONSUME := Sta.start ev_w_CONSUME (Or.inr ⟨(hw _ (List.mem_of_getElem? (i := 3) rfl)), (hw _ (List.mem_of_getElem? (i := 4) rfl))⟩)
  have E_w_CONSUME := Exa.start ev_w_CONSUME y1
  obtain ⟨w_PUBLISH, ev_w_PUBLISH⟩ := exa_v y2
  have S_w_PUBLISH := Sta.start ev_w_PUBLISH (Or.inr ⟨(hw _ (List.mem_of_getElem? (i := 3) rfl)), (hw _ (List.mem_of_getElem? (i := 7) rfl))⟩)
  have E_w_PUBLISH := Exa.start ev_w_PUBLISH y2
  obtain ⟨w_CREATE, ev_w_CREATE⟩ := exa_v y3
  have S_w_CREATE := Sta.start ev_w_CREATE (Or.inr ⟨(hw _ (List.mem_of_getElem? (i := 3) rfl)), (hw _ (List.mem_of_getElem? (i := 9) rfl))⟩)
  have E_w_CREATE := Exa.start ev_w_CREATE y3
  obtain ⟨w_ACCESS, ev_w_ACCESS⟩ := exa_v y4
  have S_w_ACCESS := Sta.start ev_w_ACCESS (Or.inr ⟨(hw _ (List.mem_of_getElem? (i := 3) rfl)), (hw _ (List.mem_of_getElem? (i := 11) rfl))⟩)
  have E_w_ACCESS := Exa.start ev_w_ACCESS y4
  obtain ⟨w_BIND, ev_w_BIND⟩ := exa_v y5
  have S_w_BIND := Sta.start ev_w_BIND (Or.inr ⟨(hw _ (List.mem_of_getElem? (i := 3) rfl)), (hw _ (List.mem_of_getElem? (i := 13) rfl))⟩)
  have E_w_BIND := Exa.start ev_w_BIND y5
  obtain ⟨w_UNBIND, ev_w_UNBIND⟩ := exa_v y6
  have S_w_UNBIND := Sta.start ev_w_UNBIND (Or.inr ⟨(hw _ (List.mem_of_getElem? (i := 3) rfl)), (hw _ (List.mem_of_getElem? (i := 15) rfl))⟩)
  have E_w_UNBIND := Exa.start ev_w_UNBIND y6
  obtain ⟨w_DELETE, ev_w_DELETE⟩ := exa_v y7
  have S_w_DELETE := Sta.start ev_w_DELETE (Or.inr ⟨(hw _ (List.mem_of_getElem? (i := 3) rfl)), (hw _ (List.mem_of_getElem? (i := 17) rfl))⟩)
  have E_w_DELETE := Exa.start ev_w_DELETE y7
  obtain ⟨w_PURGE, ev_w_PURGE⟩ := exa_v y8
  have S_w_PURGE := Sta.start ev_w_PURGE (Or.inr ⟨(hw _ (List.mem_of_getElem? (i := 3) rfl)), (hw _ (List.mem_of_getElem? (i := 19) rfl))⟩)
  have E_w_PURGE := Exa.start ev_w_PURGE y8
  obtain ⟨w_UPDATE, ev_w_UPDATE⟩ := exa_v y9
  have S_w_UPDATE := Sta.start ev_w_UPDATE (Or.inr ⟨(hw _ (List.mem_of_getElem? (i := 3) rfl)), (hw _ (List.mem_of_getElem? (i := 21) rfl))⟩)
  have E_w_UPDATE := Exa.start ev_w_UPDATE y9
  obtain ⟨w_MOVE, ev_w_MOVE⟩ := exa_v y10
  have S_w_MOVE := Sta.start ev_w_MOVE (Or.inr ⟨(hw _ (List.mem_of_getElem? (i := 3) rfl)), (hw _ (List.mem_of_getElem? (i := 23) rfl))⟩)
  have E_w_MOVE := Exa.start ev_w_MOVE y10
  obtain ⟨w_REDIRECT, ev_w_REDIRECT⟩ := exa_v y11
  have S_w_REDIRECT := Sta.start ev_w_REDIRECT (Or.inr ⟨(hw _ (List.mem_of_getElem? (i := 3) rfl)), (hw _ (List.mem_of_getElem? (i := 25) rfl))⟩)
  have E_w_REDIRECT := Exa.start ev_w_REDIRECT y11
  obtain ⟨w_REROUTE, ev_w_REROUTE⟩ := exa_v y12
  have S_w_REROUTE := Sta.start ev_w_REROUTE (Or.inr ⟨(hw _ (List.mem_of_getElem? (i := 3) rfl)), (hw _ (List.mem_of_getElem? (i := 27) rfl))⟩)
  have E_w_REROUTE := Exa.start ev_w_REROUTE y12
  obtain ⟨w_QUEUE, ev_w_QUEUE⟩ := exa_v y13
  have S_w_QUEUE := Sta.start ev_w_QUEUE (Or.inr ⟨(hw _ (List.mem_of_getElem? (i := 31) rfl)), (hw _ (List.mem_of_getElem? (i := 32) rfl))⟩)
  have E_w_QUEUE := Exa.start ev_w_QUEUE y13
  obtain ⟨w_EXCHANGE, ev_w_EXCHANGE⟩ := exa_v y14
  have S_w_EXCHANGE := Sta.start ev_w_EXCHANGE (Or.inr ⟨(hw _ (List.mem_of_getElem? (i := 31) rfl)), (hw _ (List.mem_of_getElem? (i := 35) rfl))⟩)
  have E_w_EXCHANGE := Exa.start ev_w_EXCHANGE y14
  obtain ⟨w_BROKER, ev_w_BROKER⟩ := exa_v y15
  have S_w_BROKER := Sta.start ev_w_BROKER (Or.inr ⟨(hw _ (List.mem_of_getElem? (i := 31) rfl)), (hw _ (List.mem_of_getElem? (i := 37) rfl))⟩)
  have E_w_BROKER := Exa.start ev_w_BROKER y15
  obtain ⟨w_LINK, ev_w_LINK⟩ := exa_v y16
  have S_w_LINK := Sta.start ev_w_LINK (Or.inr ⟨(hw _ (List.mem_of_getElem? (i := 31) rfl)), (hw _ (List.mem_of_getElem? (i := 39) rfl))⟩)
  have E_w_LINK := Exa.start ev_w_LINK y16
  obtain ⟨w_METHOD, ev_w_METHOD⟩ := exa_v y17
  have S_w_METHOD := Sta.start ev_w_METHOD (Or.inr ⟨(hw _ (List.mem_of_getElem? (i := 31) rfl)), (hw _ (List.mem_of_getElem? (i := 41) rfl))⟩)
  have E_w_METHOD := Exa.start ev_w_METHOD y17
  obtain ⟨w_QUERY, ev_w_QUERY⟩ := exa_v y18
  have S_w_QUERY := Sta.start ev_w_QUERY (Or.inr ⟨(hw _ (List.mem_of_getElem? (i := 31) rfl)), (hw _ (List.mem_of_getElem? (i := 43) rfl))⟩)
  have E_w_QUERY := Exa.start ev_w_QUERY y18
  obtain ⟨w_CONNECTION, ev_w_CONNECTION⟩ := exa_v y19
  have S_w_CONNECTION := Sta.start ev_w_CONNECTION (Or.inr ⟨(hw _ (List.mem_of_getElem? (i := 31) rfl)), (hw _ (List.mem_of_getElem? (i := 45) rfl))⟩)
  have E_w_CONNECTION := Exa.start ev_w_CONNECTION y19
  have F_ordinal_w_CONSUME := Fld.start ((fld_at ev_w_CONSUME).symm.trans (eqI_v y20))
  have F_ordinal_w_CREATE := Fld.start ((fld_at ev_w_CREATE).symm.trans (eqI_v y21))
  have F_ordinal_w_EXCHANGE := Fld.start ((fld_at ev_w_EXCHANGE).symm.trans (eqI_v y22))
  have F_ordinal_w_CONNECTION := Fld.start ((fld_at ev_w_CONNECTION).symm.trans (eqI_v y23))
  have F_ordinal_w_UPDATE := Fld.start ((fld_at ev_w_UPDATE).symm.trans (eqI_v y24))
  have F_ordinal_w_BIND := Fld.start ((fld_at ev_w_BIND).symm.trans (eqI_v y25))
  have F_ordinal_w_PUBLISH := Fld.start ((fld_at ev_w_PUBLISH).symm.trans (eqI_v y26))
  have F_ordinal_w_DELETE := Fld.start ((fld_at ev_w_DELETE).symm.trans (eqI_v y27))
  have F_ordinal_w_REROUTE := Fld.start ((fld_at ev_w_REROUTE).symm.trans (eqI_v y28))
  have F_ordinal_w_ACCESS := Fld.start ((fld_at ev_w_ACCESS).symm.trans (eqI_v y29))
  have F_ordinal_w_MOVE := Fld.start ((fld_at ev_w_MOVE).symm.trans (eqI_v y30))
  have F_ordinal_w_PURGE := Fld.start ((fld_at ev_w_PURGE).symm.trans (eqI_v y31))
  have F_ordinal_w_REDIRECT := Fld.start ((fld_at ev_w_REDIRECT).symm.trans (eqI_v y32))
  have F_ordinal_w_BROKER := Fld.start ((fld_at ev_w_BROKER).symm.trans (eqI_v y33))
  have F_ordinal_w_UNBIND := Fld.start ((fld_at ev_w_UNBIND).symm.trans (eqI_v y34))
  have F_ordinal_w_LINK := Fld.start ((fld_at ev_w_LINK).symm.trans (eqI_v y35))
  have F_ordinal_w_QUEUE := Fld.start ((fld_at ev_w_QUEUE).symm.trans (eqI_v y36))
  have F_ordinal_w_QUERY := Fld.start ((fld_at ev_w_QUERY).symm.trans (eqI_v y37))
  have F_ordinal_w_METHOD := Fld.start ((fld_at ev_w_METHOD).symm.trans (eqI_v z37))
  have n_CONSUME_CREATE : w_CONSUME ≠ w_CREATE := Fld.ne F_ordinal_w_CONSUME F_ordinal_w_CREATE (fun q => absurd (Value.int.inj q) (by decide))
  have n_EXCHANGE_CONNECTION : w_EXCHANGE ≠ w_CONNECTION := Fld.ne F_ordinal_w_EXCHANGE F_ordinal_w_CONNECTION (fun q => absurd (Value.int.inj q) (by decide))
  have n_UPDATE_CREATE : w_UPDATE ≠ w_CREATE := Fld.ne F_ordinal_w_UPDATE F_ordinal_w_CREATE (fun q => absurd (Value.int.inj q) (by decide))
  have n_BIND_CREATE : w_BIND ≠ w_CREATE := Fld.ne F_ordinal_w_BIND F_ordinal_w_CREATE (fun q => absurd (Value.int.inj q) (by decide))
  have n_PUBLISH_CREATE : w_PUBLISH ≠ w_CREATE := Fld.ne F_ordinal_w_PUBLISH F_ordinal_w_CREATE (fun q => absurd (Value.int.inj q) (by decide))
  have n_DELETE_CREATE : w_DELETE ≠ w_CREATE := Fld.ne F_ordinal_w_DELETE F_ordinal_w_CREATE (fun q => absurd (Value.int.inj q) (by decide))
  have n_REROUTE_CREATE : w_REROUTE ≠ w_CREATE := Fld.ne F_ordinal_w_REROUTE F_ordinal_w_CREATE (fun q => absurd (Value.int.inj q) (by decide))
  have n_ACCESS_CREATE : w_ACCESS ≠ w_CREATE := Fld.ne F_ordinal_w_ACCESS F_ordinal_w_CREATE (fun q => absurd (Value.int.inj q) (by decide))
  have n_MOVE_CREATE : w_MOVE ≠ w_CREATE := Fld.ne F_ordinal_w_MOVE F_ordinal_w_CREATE (fun q => absurd (Value.int.inj q) (by decide))
  have n_PURGE_CREATE : w_PURGE ≠ w_CREATE := Fld.ne F_ordinal_w_PURGE F_ordinal_w_CREATE (fun q => absurd (Value.int.inj q) (by decide))
  have n_REDIRECT_CREATE : w_REDIRECT ≠ w_CREATE := Fld.ne F_ordinal_w_REDIRECT F_ordinal_w_CREATE (fun q => absurd (Value.int.inj q) (by decide))
  have n_BROKER_CONNECTION : w_BROKER ≠ w_CONNECTION := Fld.ne F_ordinal_w_BROKER F_ordinal_w_CONNECTION (fun q => absurd (Value.int.inj q) (by decide))
  have n_UNBIND_CREATE : w_UNBIND ≠ w_CREATE := Fld.ne F_ordinal_w_UNBIND F_ordinal_w_CREATE (fun q => absurd (Value.int.inj q) (by decide))
  have n_LINK_CONNECTION : w_LINK ≠ w_CONNECTION := Fld.ne F_ordinal_w_LINK F_ordinal_w_CONNECTION (fun q => absurd (Value.int.inj q) (by decide))
  have n_QUEUE_CONNECTION : w_QUEUE ≠ w_CONNECTION := Fld.ne F_ordinal_w_QUEUE F_ordinal_w_CONNECTION (fun q => absurd (Value.int.inj q) (by decide))
  have n_QUERY_CONNECTION : w_QUERY ≠ w_CONNECTION := Fld.ne F_ordinal_w_QUERY F_ordinal_w_CONNECTION (fun q => absurd (Value.int.inj q) (by decide))
  have n_METHOD_CONNECTION : w_METHOD ≠ w_CONNECTION := Fld.ne F_ordinal_w_METHOD F_ordinal_w_CONNECTION (fun q => absurd (Value.int.inj q) (by decide))
  have W : Wd s w_CONSUME w_PUBLISH w_CREATE w_ACCESS w_BIND w_UNBIND w_DELETE w_PURGE w_UPDATE w_MOVE w_REDIRECT w_REROUTE w_QUEUE w_EXCHANGE w_BROKER w_LINK w_METHOD w_QUERY w_CONNECTION := ⟨S_w_CONSUME, E_w_CONSUME, S_w_PUBLISH, E_w_PUBLISH, S_w_CREATE, E_w_CREATE, S_w_ACCESS, E_w_ACCESS, S_w_BIND, E_w_BIND, S_w_UNBIND, E_w_UNBIND, S_w_DELETE, E_w_DELETE, S_w_PURGE, E_w_PURGE, S_w_UPDATE, E_w_UPDATE, S_w_MOVE, E_w_MOVE, S_w_REDIRECT, E_w_REDIRECT, S_w_REROUTE, E_w_REROUTE, S_w_QUEUE, E_w_QUEUE, S_w_EXCHANGE, E_w_EXCHANGE, S_w_BROKER, E_w_BROKER, S_w_LINK, E_w_LINK, S_w_METHOD, E_w_METHOD, S_w_QUERY, E_w_QUERY, S_w_CONNECTION, E_w_CONNECTION, F_ordinal_w_CONSUME, F_ordinal_w_CREATE, F_ordinal_w_EXCHANGE, F_ordinal_w_CONNECTION, F_ordinal_w_UPDATE, F_ordinal_w_BIND, F_ordinal_w_PUBLISH, F_ordinal_w_DELETE, F_ordinal_w_REROUTE, F_ordinal_w_ACCESS, F_ordinal_w_MOVE, F_ordinal_w_PURGE, F_ordinal_w_REDIRECT, F_ordinal_w_BROKER, F_ordinal_w_UNBIND, F_ordinal_w_LINK, F_ordinal_w_QUEUE, F_ordinal_w_QUERY, F_ordinal_w_METHOD⟩
  have hpl : fn0 i0 i1 w_CONSUME w_PUBLISH w_CREATE w_ACCESS w_BIND w_UNBIND w_DELETE w_PURGE w_UPDATE w_MOVE w_REDIRECT w_REROUTE w_QUEUE w_EXCHANGE w_BROKER w_LINK w_METHOD w_QUERY w_CONNECTION = 1 := plain i0 i1 w_CONSUME w_PUBLISH w_CREATE w_ACCESS w_BIND w_UNBIND w_DELETE w_PURGE w_UPDATE w_MOVE w_REDIRECT w_REROUTE w_QUEUE w_EXCHANGE w_BROKER w_LINK w_METHOD w_QUERY w_CONNECTION n_CONSUME_CREATE n_PUBLISH_CREATE n_ACCESS_CREATE n_BIND_CREATE n_UNBIND_CREATE n_DELETE_CREATE n_PURGE_CREATE n_UPDATE_CREATE n_MOVE_CREATE n_REDIRECT_CREATE n_REROUTE_CREATE n_QUEUE_CONNECTION n_EXCHANGE_CONNECTION n_BROKER_CONNECTION n_LINK_CONNECTION n_METHOD_CONNECTION n_QUERY_CONNECTION
  obtain ⟨n, o, h1, h2, h3, v, L, rfl, ⟨hv, N⟩, hq⟩ := rm0 l s _ hw tables_1 i0 i1 w_CONSUME w_PUBLISH w_CREATE w_ACCESS w_BIND w_UNBIND w_DELETE w_PURGE w_UPDATE w_MOVE w_REDIRECT w_REROUTE w_QUEUE w_EXCHANGE w_BROKER w_LINK w_METHOD w_QUERY w_CONNECTION s.heap s.heap.size (Old.start s) W p e ha hc hk s m _ below hf ((Spec.applies_iff_loose hf).mp happ).1 ⟨rfl, State.Warmed39.refl s, rfl⟩ trivial
  rw [hpl] at hv
  subst hv
  refine ⟨n, _, h1, h2, h3, hpost _ _ _ _ _ _ ⟨Cond.after_iff.mpr rfl, Cond.after_iff.mpr (eq_i res_at (Term.int_eval (1)) rfl), trivial⟩ ⟨hq.1, hq.2.1, (hq.2.2.sift fun y hy => Or.inr (N y hy)).mono (by decide) (by decide)⟩⟩
theorem main_1_1 : Claimed_1_1 := comes_1 fun _ _ _ _ _ _ h hF => ⟨h.1, hF⟩
theorem main_1_2 : Claimed_1_2 := comes_1 fun _ _ _ _ _ _ h hF => ⟨h.2.1, hF⟩
end Jvm.Pilot.@@N@@
/-! WITNESS -/
namespace Jvm.Pilot.@@N@@
open Jvm Jvm.ClassFile Sem Op Lib Jvm.Free Jvm.Stand Jvm.Pilot.@@N@@.Jvm.D
/-! MADE BY PROGRAM (witnessworld.py) out of the Statement's table words and the real class files: 18 classes; the members and pool entries that the words name. The judged class is class 1, her method 1. -/
namespace start1
open Jvm.ClassFile
def u (s : String) : CpInfo := .utf8 (stringToUtf16 s)
/-- a pool by its gaps: so many unusable entries, then the entry; so many at the end -/
def gap : Nat → List CpInfo → List CpInfo
  | 0, r => r
  | n + 1, r => .unusable :: gap n r
def poolList (es : List (Nat × CpInfo)) (last : Nat) : List CpInfo := es.foldr (fun e r => gap e.1 (e.2 :: r)) (gap last [])
def pool (es : List (Nat × CpInfo)) (last : Nat) : Array CpInfo := ⟨poolList es last⟩
def fileOf (pool : Array CpInfo) (this : Nat) (attrs : Array Attribute := #[]) (ms : Array MethodInfo := #[]) (fl : Nat := 33) (sup : Nat := 0) (ifs : Array Nat := #[]) (fds : Array FieldInfo := #[]) : ClassFile where
  minorVersion := 0
  majorVersion := 65
  constantPool := pool
  accessFlags := fl
  thisClass := this
  superClass := sup
  interfaces := ifs
  fields := fds
  methods := ms
  attributes := attrs
def plain (name : String) (sup : Option ClassId) : Class where
  name := name
  kind := .ordinary
  loader := none
  accessFlags := 33
  super := sup
  interfaces := #[]
  cf := none
  fields := #[]
  methods := #[]
  instanceTypes := #[]
  staticTypes := #[]
  resolved := #[]
  callSites := []
  init := .initialized
  statics := none
  mirror := none

def pool0 : Array CpInfo := pool [(5, u "<init>"), (0, u "()V"), (1, .class_ 10), (1, u "java/lang/Object")] 113

def k0m0 : Method := { name := "<init>", desc := "()V", sig := { parameters := [], returnType := none }, accessFlags := 1, code := none }
/-- java/lang/Object -/
def k0 : Class := { plain "java/lang/Object" none with
  accessFlags := 33
  interfaces := #[]
  cf := some (fileOf pool0 8 #[] #[{ accessFlags := 1, nameIndex := 5, descriptorIndex := 6, attributes := #[] }] 33 0 #[] #[])
  fields := #[]
  methods := #[k0m0]
  instanceTypes := #[]
  staticTypes := #[]
  resolved := Array.replicate 124 none
  statics := none }

def pool1 : Array CpInfo := pool [(2, .class_ 4), (1, u "java/lang/Object"), (0, u "<init>"), (0, u "()V"), (0, .class_ 8), (0, u "com/example/gatewarden/gatewarden/core/Action"), (0, .fieldref 7 10), (0, .nameAndType 11 12), (0, u "CONSUME"), (0, u "Lcom/example/gatewarden/gatewarden/core/Action;"), (0, .fieldref 7 14), (0, .nameAndType 15 12), (0, u "PUBLISH"), (0, .fieldref 7 17), (0, .nameAndType 18 12), (0, u "CREATE"), (0, .fieldref 7 20), (0, .nameAndType 21 12), (0, u "ACCESS"), (0, .fieldref 7 23), (0, .nameAndType 24 12), (0, u "BIND"), (0, .fieldref 7 26), (0, .nameAndType 27 12), (0, u "UNBIND"), (0, .fieldref 7 29), (0, .nameAndType 30 12), (0, u "DELETE"), (0, .fieldref 7 32), (0, .nameAndType 33 12), (0, u "PURGE"), (0, .fieldref 7 35), (0, .nameAndType 36 12), (0, u "UPDATE"), (0, .fieldref 7 38), (0, .nameAndType 39 12), (0, u "MOVE"), (0, .fieldref 7 41), (0, .nameAndType 42 12), (0, u "REDIRECT"), (0, .fieldref 7 44), (0, .nameAndType 45 12), (0, u "REROUTE"), (0, .class_ 47), (0, u "com/example/gatewarden/gatewarden/core/ObjectType"), (0, .fieldref 46 49), (0, .nameAndType 50 51), (0, u "QUEUE"), (0, u "Lcom/example/gatewarden/gatewarden/core/ObjectType;"), (0, .fieldref 46 53), (0, .nameAndType 54 51), (0, u "EXCHANGE"), (0, .fieldref 46 56), (0, .nameAndType 57 51), (0, u "BROKER"), (0, .fieldref 46 59), (0, .nameAndType 60 51), (0, u "LINK"), (0, .fieldref 46 62), (0, .nameAndType 63 51), (0, u "METHOD"), (0, .fieldref 46 65), (0, .nameAndType 66 51), (0, u "QUERY"), (0, .fieldref 46 68), (0, .nameAndType 69 51), (0, u "CONNECTION"), (0, .integer 2147483647), (0, .methodref 72 73), (0, .class_ 74), (0, .nameAndType 75 76), (0, u "com/example/gatewarden/gatewarden/core/Lookup"), (0, u "isConnection"), (0, u "(Lcom/example/gatewarden/gatewarden/core/Action;Lcom/example/gatewarden/gatewarden/core/ObjectType;)Z"), (0, .class_ 78), (0, u "com/example/gatewarden/gatewarden/core/LookupIsConnectionPinLaw"), (2, u "law"), (0, u "(II)Z")] 7

def k1m0 : Method := { name := "<init>", desc := "()V", sig := { parameters := [], returnType := none }, accessFlags := 2, code := none }
def k1c1 : Code := { maxStack := 4, maxLocals := 8, code := code, exceptionTable := #[], attributes := #[] }
def k1m1 : Method := { name := "law", desc := "(II)Z", sig := { parameters := [.int, .int], returnType := some .boolean }, accessFlags := 9, code := some k1c1 }
/-- com/example/gatewarden/gatewarden/core/LookupIsConnectionPinLaw -/
def k1 : Class := { plain "com/example/gatewarden/gatewarden/core/LookupIsConnectionPinLaw" (some 0) with
  accessFlags := 49
  interfaces := #[]
  cf := some (fileOf pool1 77 #[] #[{ accessFlags := 2, nameIndex := 5, descriptorIndex := 6, attributes := #[] }, { accessFlags := 9, nameIndex := 81, descriptorIndex := 82, attributes := #[] }] 49 2 #[] #[])
  fields := #[]
  methods := #[k1m0, k1m1]
  instanceTypes := #[]
  staticTypes := #[]
  resolved := Array.replicate 90 none
  statics := none }

def pool2 : Array CpInfo := pool [(1, .class_ 2), (0, u "java/lang/constant/Constable"), (0, .class_ 4), (0, u "java/lang/Object")] 6

/-- java/lang/constant/Constable -/
def k2 : Class := { plain "java/lang/constant/Constable" (some 0) with
  accessFlags := 1537
  interfaces := #[]
  cf := some (fileOf pool2 1 #[] #[] 1537 3 #[] #[])
  fields := #[]
  methods := #[]
  instanceTypes := #[]
  staticTypes := #[]
  resolved := Array.replicate 11 none
  statics := none }

def pool3 : Array CpInfo := pool [(1, .class_ 2), (0, u "java/lang/Comparable"), (0, .class_ 4), (0, u "java/lang/Object")] 7

/-- java/lang/Comparable -/
def k3 : Class := { plain "java/lang/Comparable" (some 0) with
  accessFlags := 1537
  interfaces := #[]
  cf := some (fileOf pool3 1 #[] #[] 1537 3 #[] #[])
  fields := #[]
  methods := #[]
  instanceTypes := #[]
  staticTypes := #[]
  resolved := Array.replicate 12 none
  statics := none }

def pool4 : Array CpInfo := pool [(1, .class_ 2), (0, u "java/io/Serializable"), (0, .class_ 4), (0, u "java/lang/Object")] 2

/-- java/io/Serializable -/
def k4 : Class := { plain "java/io/Serializable" (some 0) with
  accessFlags := 1537
  interfaces := #[]
  cf := some (fileOf pool4 1 #[] #[] 1537 3 #[] #[])
  fields := #[]
  methods := #[]
  instanceTypes := #[]
  staticTypes := #[]
  resolved := Array.replicate 7 none
  statics := none }

def pool5 : Array CpInfo := pool [(2, .class_ 4), (1, u "java/lang/Enum"), (0, u "name"), (0, u "Ljava/lang/String;"), (2, u "ordinal"), (0, u "I"), (1, .class_ 14), (1, u "java/lang/Object"), (4, u "hash"), (86, .class_ 108), (1, u "java/lang/Enum$EnumDesc"), (2, .class_ 112), (0, u "java/lang/constant/Constable"), (0, .class_ 114), (0, u "java/lang/Comparable"), (0, .class_ 116), (0, u "java/io/Serializable")] 87

/-- java/lang/Enum -/
def k5 : Class := { plain "java/lang/Enum" (some 0) with
  accessFlags := 1057
  interfaces := #[2, 3, 4]
  cf := some (fileOf pool5 2 #[.nestMembers #[106]] #[] 1057 12 #[111, 113, 115] #[{ accessFlags := 18, nameIndex := 5, descriptorIndex := 6, attributes := #[] }, { accessFlags := 18, nameIndex := 9, descriptorIndex := 10, attributes := #[] }, { accessFlags := 2, nameIndex := 19, descriptorIndex := 10, attributes := #[] }])
  fields := #[{ name := "name", type := (.object "java/lang/String"), accessFlags := 18, slot := 0, constantValue := 0 }, { name := "ordinal", type := .int, accessFlags := 18, slot := 1, constantValue := 0 }, { name := "hash", type := .int, accessFlags := 2, slot := 2, constantValue := 0 }]
  methods := #[]
  instanceTypes := #[(.object "java/lang/String"), .int, .int]
  staticTypes := #[]
  resolved := Array.replicate 204 none
  statics := none }

def pool6 : Array CpInfo := pool [(9, .class_ 10), (0, u "com/example/gatewarden/gatewarden/core/Keyword"), (37, .class_ 49), (0, u "java/lang/Object")] 12

/-- com/example/gatewarden/gatewarden/core/Keyword -/
def k6 : Class := { plain "com/example/gatewarden/gatewarden/core/Keyword" (some 0) with
  accessFlags := 1537
  interfaces := #[]
  cf := some (fileOf pool6 9 #[] #[] 1537 48 #[] #[])
  fields := #[]
  methods := #[]
  instanceTypes := #[]
  staticTypes := #[]
  resolved := Array.replicate 62 none
  statics := none }

def pool7 : Array CpInfo := pool [(1, .class_ 2), (0, u "com/example/gatewarden/gatewarden/core/Action"), (2, u "CONSUME"), (0, u "Lcom/example/gatewarden/gatewarden/core/Action;"), (2, u "PUBLISH"), (2, u "CREATE"), (2, u "ACCESS"), (2, u "BIND"), (2, u "UNBIND"), (2, u "DELETE"), (2, u "PURGE"), (2, u "UPDATE"), (2, u "MOVE"), (2, u "REDIRECT"), (2, u "REROUTE"), (2, u "$VALUES"), (0, u "[Lcom/example/gatewarden/gatewarden/core/Action;"), (6, .class_ 52), (1, u "java/lang/Enum"), (8, u "keyword"), (0, u "Ljava/lang/String;"), (43, .class_ 107), (0, u "com/example/gatewarden/gatewarden/core/Keyword")] 13

/-- com/example/gatewarden/gatewarden/core/Action -/
def k7 : Class := { plain "com/example/gatewarden/gatewarden/core/Action" (some 5) with
  accessFlags := 16433
  interfaces := #[6]
  cf := some (fileOf pool7 1 #[] #[] 16433 50 #[106] #[{ accessFlags := 16409, nameIndex := 5, descriptorIndex := 6, attributes := #[] }, { accessFlags := 16409, nameIndex := 9, descriptorIndex := 6, attributes := #[] }, { accessFlags := 16409, nameIndex := 12, descriptorIndex := 6, attributes := #[] }, { accessFlags := 16409, nameIndex := 15, descriptorIndex := 6, attributes := #[] }, { accessFlags := 16409, nameIndex := 18, descriptorIndex := 6, attributes := #[] }, { accessFlags := 16409, nameIndex := 21, descriptorIndex := 6, attributes := #[] }, { accessFlags := 16409, nameIndex := 24, descriptorIndex := 6, attributes := #[] }, { accessFlags := 16409, nameIndex := 27, descriptorIndex := 6, attributes := #[] }, { accessFlags := 16409, nameIndex := 30, descriptorIndex := 6, attributes := #[] }, { accessFlags := 16409, nameIndex := 33, descriptorIndex := 6, attributes := #[] }, { accessFlags := 16409, nameIndex := 36, descriptorIndex := 6, attributes := #[] }, { accessFlags := 16409, nameIndex := 39, descriptorIndex := 6, attributes := #[] }, { accessFlags := 18, nameIndex := 61, descriptorIndex := 62, attributes := #[] }, { accessFlags := 4122, nameIndex := 42, descriptorIndex := 43, attributes := #[] }])
  fields := #[{ name := "CONSUME", type := (.object "com/example/gatewarden/gatewarden/core/Action"), accessFlags := 16409, slot := 0, constantValue := 0 }, { name := "PUBLISH", type := (.object "com/example/gatewarden/gatewarden/core/Action"), accessFlags := 16409, slot := 1, constantValue := 0 }, { name := "CREATE", type := (.object "com/example/gatewarden/gatewarden/core/Action"), accessFlags := 16409, slot := 2, constantValue := 0 }, { name := "ACCESS", type := (.object "com/example/gatewarden/gatewarden/core/Action"), accessFlags := 16409, slot := 3, constantValue := 0 }, { name := "BIND", type := (.object "com/example/gatewarden/gatewarden/core/Action"), accessFlags := 16409, slot := 4, constantValue := 0 }, { name := "UNBIND", type := (.object "com/example/gatewarden/gatewarden/core/Action"), accessFlags := 16409, slot := 5, constantValue := 0 }, { name := "DELETE", type := (.object "com/example/gatewarden/gatewarden/core/Action"), accessFlags := 16409, slot := 6, constantValue := 0 }, { name := "PURGE", type := (.object "com/example/gatewarden/gatewarden/core/Action"), accessFlags := 16409, slot := 7, constantValue := 0 }, { name := "UPDATE", type := (.object "com/example/gatewarden/gatewarden/core/Action"), accessFlags := 16409, slot := 8, constantValue := 0 }, { name := "MOVE", type := (.object "com/example/gatewarden/gatewarden/core/Action"), accessFlags := 16409, slot := 9, constantValue := 0 }, { name := "REDIRECT", type := (.object "com/example/gatewarden/gatewarden/core/Action"), accessFlags := 16409, slot := 10, constantValue := 0 }, { name := "REROUTE", type := (.object "com/example/gatewarden/gatewarden/core/Action"), accessFlags := 16409, slot := 11, constantValue := 0 }, { name := "keyword", type := (.object "java/lang/String"), accessFlags := 18, slot := 3, constantValue := 0 }, { name := "$VALUES", type := (.array (.object "com/example/gatewarden/gatewarden/core/Action")), accessFlags := 4122, slot := 12, constantValue := 0 }]
  methods := #[]
  instanceTypes := #[(.object "java/lang/String"), .int, .int, (.object "java/lang/String")]
  staticTypes := #[(.object "com/example/gatewarden/gatewarden/core/Action"), (.object "com/example/gatewarden/gatewarden/core/Action"), (.object "com/example/gatewarden/gatewarden/core/Action"), (.object "com/example/gatewarden/gatewarden/core/Action"), (.object "com/example/gatewarden/gatewarden/core/Action"), (.object "com/example/gatewarden/gatewarden/core/Action"), (.object "com/example/gatewarden/gatewarden/core/Action"), (.object "com/example/gatewarden/gatewarden/core/Action"), (.object "com/example/gatewarden/gatewarden/core/Action"), (.object "com/example/gatewarden/gatewarden/core/Action"), (.object "com/example/gatewarden/gatewarden/core/Action"), (.object "com/example/gatewarden/gatewarden/core/Action"), (.array (.object "com/example/gatewarden/gatewarden/core/Action"))]
  resolved := Array.replicate 121 none
  statics := some 0 }

def pool8 : Array CpInfo := pool [(1, .class_ 2), (0, u "com/example/gatewarden/gatewarden/core/ObjectType"), (2, u "QUEUE"), (0, u "Lcom/example/gatewarden/gatewarden/core/ObjectType;"), (2, u "EXCHANGE"), (2, u "BROKER"), (2, u "LINK"), (2, u "METHOD"), (2, u "QUERY"), (2, u "CONNECTION"), (2, u "$VALUES"), (0, u "[Lcom/example/gatewarden/gatewarden/core/ObjectType;"), (6, .class_ 37), (1, u "java/lang/Enum"), (8, u "keyword"), (0, u "Ljava/lang/String;"), (28, .class_ 77), (0, u "com/example/gatewarden/gatewarden/core/Keyword")] 13

/-- com/example/gatewarden/gatewarden/core/ObjectType -/
def k8 : Class := { plain "com/example/gatewarden/gatewarden/core/ObjectType" (some 5) with
  accessFlags := 16433
  interfaces := #[6]
  cf := some (fileOf pool8 1 #[] #[] 16433 35 #[76] #[{ accessFlags := 16409, nameIndex := 5, descriptorIndex := 6, attributes := #[] }, { accessFlags := 16409, nameIndex := 9, descriptorIndex := 6, attributes := #[] }, { accessFlags := 16409, nameIndex := 12, descriptorIndex := 6, attributes := #[] }, { accessFlags := 16409, nameIndex := 15, descriptorIndex := 6, attributes := #[] }, { accessFlags := 16409, nameIndex := 18, descriptorIndex := 6, attributes := #[] }, { accessFlags := 16409, nameIndex := 21, descriptorIndex := 6, attributes := #[] }, { accessFlags := 16409, nameIndex := 24, descriptorIndex := 6, attributes := #[] }, { accessFlags := 18, nameIndex := 46, descriptorIndex := 47, attributes := #[] }, { accessFlags := 4122, nameIndex := 27, descriptorIndex := 28, attributes := #[] }])
  fields := #[{ name := "QUEUE", type := (.object "com/example/gatewarden/gatewarden/core/ObjectType"), accessFlags := 16409, slot := 0, constantValue := 0 }, { name := "EXCHANGE", type := (.object "com/example/gatewarden/gatewarden/core/ObjectType"), accessFlags := 16409, slot := 1, constantValue := 0 }, { name := "BROKER", type := (.object "com/example/gatewarden/gatewarden/core/ObjectType"), accessFlags := 16409, slot := 2, constantValue := 0 }, { name := "LINK", type := (.object "com/example/gatewarden/gatewarden/core/ObjectType"), accessFlags := 16409, slot := 3, constantValue := 0 }, { name := "METHOD", type := (.object "com/example/gatewarden/gatewarden/core/ObjectType"), accessFlags := 16409, slot := 4, constantValue := 0 }, { name := "QUERY", type := (.object "com/example/gatewarden/gatewarden/core/ObjectType"), accessFlags := 16409, slot := 5, constantValue := 0 }, { name := "CONNECTION", type := (.object "com/example/gatewarden/gatewarden/core/ObjectType"), accessFlags := 16409, slot := 6, constantValue := 0 }, { name := "keyword", type := (.object "java/lang/String"), accessFlags := 18, slot := 3, constantValue := 0 }, { name := "$VALUES", type := (.array (.object "com/example/gatewarden/gatewarden/core/ObjectType")), accessFlags := 4122, slot := 7, constantValue := 0 }]
  methods := #[]
  instanceTypes := #[(.object "java/lang/String"), .int, .int, (.object "java/lang/String")]
  staticTypes := #[(.object "com/example/gatewarden/gatewarden/core/ObjectType"), (.object "com/example/gatewarden/gatewarden/core/ObjectType"), (.object "com/example/gatewarden/gatewarden/core/ObjectType"), (.object "com/example/gatewarden/gatewarden/core/ObjectType"), (.object "com/example/gatewarden/gatewarden/core/ObjectType"), (.object "com/example/gatewarden/gatewarden/core/ObjectType"), (.object "com/example/gatewarden/gatewarden/core/ObjectType"), (.array (.object "com/example/gatewarden/gatewarden/core/ObjectType"))]
  resolved := Array.replicate 91 none
  statics := some 1 }

def pool9 : Array CpInfo := pool [(2, .class_ 4), (1, u "java/lang/Object"), (0, u "<init>"), (0, u "()V"), (0, .class_ 8), (0, u "java/lang/Record")] 13

def k9m0 : Method := { name := "<init>", desc := "()V", sig := { parameters := [], returnType := none }, accessFlags := 4, code := none }
/-- java/lang/Record -/
def k9 : Class := { plain "java/lang/Record" (some 0) with
  accessFlags := 1057
  interfaces := #[]
  cf := some (fileOf pool9 7 #[] #[{ accessFlags := 4, nameIndex := 5, descriptorIndex := 6, attributes := #[] }] 1057 2 #[] #[])
  fields := #[]
  methods := #[k9m0]
  instanceTypes := #[]
  staticTypes := #[]
  resolved := Array.replicate 22 none
  statics := none }

def pool10 : Array CpInfo := pool [(2, .class_ 4), (1, u "java/lang/Record"), (3, u "user"), (7, u "action"), (1, u "object"), (7, .class_ 28), (1, u "com/example/gatewarden/gatewarden/core/Lookup"), (0, u "isConnection"), (0, u "(Lcom/example/gatewarden/gatewarden/core/Action;Lcom/example/gatewarden/gatewarden/core/ObjectType;)Z"), (18, u "Ljava/lang/String;"), (2, u "Lcom/example/gatewarden/gatewarden/core/Action;"), (2, u "Lcom/example/gatewarden/gatewarden/core/ObjectType;"), (2, u "properties"), (0, u "Ljava/util/Map;"), (0, .fieldref 61 62), (0, .class_ 63), (0, .nameAndType 64 52), (0, u "com/example/gatewarden/gatewarden/core/Action"), (0, u "CREATE"), (0, .fieldref 66 67), (0, .class_ 68), (0, .nameAndType 69 55), (0, u "com/example/gatewarden/gatewarden/core/ObjectType"), (0, u "CONNECTION")] 80

def k10c0 : Code := { maxStack := 2, maxLocals := 2, code := prog_21_method_3_code, exceptionTable := #[], attributes := #[] }
def k10m0 : Method := { name := "isConnection", desc := "(Lcom/example/gatewarden/gatewarden/core/Action;Lcom/example/gatewarden/gatewarden/core/ObjectType;)Z", sig := { parameters := [(.object "com/example/gatewarden/gatewarden/core/Action"), (.object "com/example/gatewarden/gatewarden/core/ObjectType")], returnType := some .boolean }, accessFlags := 8, code := some k10c0 }
/-- com/example/gatewarden/gatewarden/core/Lookup -/
def k10 : Class := { plain "com/example/gatewarden/gatewarden/core/Lookup" (some 9) with
  accessFlags := 49
  interfaces := #[]
  cf := some (fileOf pool10 26 #[] #[{ accessFlags := 8, nameIndex := 29, descriptorIndex := 30, attributes := #[] }] 49 2 #[] #[{ accessFlags := 18, nameIndex := 8, descriptorIndex := 49, attributes := #[] }, { accessFlags := 18, nameIndex := 16, descriptorIndex := 52, attributes := #[] }, { accessFlags := 18, nameIndex := 18, descriptorIndex := 55, attributes := #[] }, { accessFlags := 18, nameIndex := 58, descriptorIndex := 59, attributes := #[] }])
  fields := #[{ name := "user", type := (.object "java/lang/String"), accessFlags := 18, slot := 0, constantValue := 0 }, { name := "action", type := (.object "com/example/gatewarden/gatewarden/core/Action"), accessFlags := 18, slot := 1, constantValue := 0 }, { name := "object", type := (.object "com/example/gatewarden/gatewarden/core/ObjectType"), accessFlags := 18, slot := 2, constantValue := 0 }, { name := "properties", type := (.object "java/util/Map"), accessFlags := 18, slot := 3, constantValue := 0 }]
  methods := #[k10m0]
  instanceTypes := #[(.object "java/lang/String"), (.object "com/example/gatewarden/gatewarden/core/Action"), (.object "com/example/gatewarden/gatewarden/core/ObjectType"), (.object "java/util/Map")]
  staticTypes := #[]
  resolved := Array.replicate 150 none
  statics := none }

def pool11 : Array CpInfo := pool [(1, u "java/lang/Cloneable"), (0, .class_ 1), (0, u "java/lang/Object"), (0, .class_ 3)] 3

/-- java/lang/Cloneable -/
def k11 : Class := { plain "java/lang/Cloneable" (some 0) with
  accessFlags := 1537
  interfaces := #[]
  cf := some (fileOf pool11 2 #[] #[] 1537 4 #[] #[])
  fields := #[]
  methods := #[]
  instanceTypes := #[]
  staticTypes := #[]
  resolved := Array.replicate 8 none
  statics := none }

/-- the primitive byte -/
def k12 : Class := { plain "byte" none with kind := .primitive 'B', accessFlags := 0x411 }
/-- [B -/
def k13 : Class := { plain "[B" (some 0) with kind := .array 12 .byte, interfaces := #[11, 4], accessFlags := 1041 }

/-- the primitive int -/
def k14 : Class := { plain "int" none with kind := .primitive 'I', accessFlags := 0x411 }
/-- [I -/
def k15 : Class := { plain "[I" (some 0) with kind := .array 14 .int, interfaces := #[11, 4], accessFlags := 1041 }

/-- [Lcom/example/gatewarden/gatewarden/core/Action; -/
def k16 : Class := { plain "[Lcom/example/gatewarden/gatewarden/core/Action;" (some 0) with kind := .array 7 (.object "com/example/gatewarden/gatewarden/core/Action"), interfaces := #[11, 4], accessFlags := 1041 }

/-- [Lcom/example/gatewarden/gatewarden/core/ObjectType; -/
def k17 : Class := { plain "[Lcom/example/gatewarden/gatewarden/core/ObjectType;" (some 0) with kind := .array 8 (.object "com/example/gatewarden/gatewarden/core/ObjectType"), interfaces := #[11, 4], accessFlags := 1041 }

def heap : Heap := #[{ cls := 7, slots := #[.ref 2, .ref 3, .ref 4, .ref 5, .ref 6, .ref 7, .ref 8, .ref 9, .ref 10, .ref 11, .ref 12, .ref 13, .null], vm := .statics 7 },
  { cls := 8, slots := #[.ref 14, .ref 15, .ref 16, .ref 17, .ref 18, .ref 19, .ref 20, .null], vm := .statics 8 },
  { cls := 7, slots := #[.null, .int 0, .int 0, .null], vm := .none },
  { cls := 7, slots := #[.null, .int 1, .int 0, .null], vm := .none },
  { cls := 7, slots := #[.null, .int 2, .int 0, .null], vm := .none },
  { cls := 7, slots := #[.null, .int 3, .int 0, .null], vm := .none },
  { cls := 7, slots := #[.null, .int 4, .int 0, .null], vm := .none },
  { cls := 7, slots := #[.null, .int 5, .int 0, .null], vm := .none },
  { cls := 7, slots := #[.null, .int 6, .int 0, .null], vm := .none },
  { cls := 7, slots := #[.null, .int 7, .int 0, .null], vm := .none },
  { cls := 7, slots := #[.null, .int 8, .int 0, .null], vm := .none },
  { cls := 7, slots := #[.null, .int 9, .int 0, .null], vm := .none },
  { cls := 7, slots := #[.null, .int 10, .int 0, .null], vm := .none },
  { cls := 7, slots := #[.null, .int 11, .int 0, .null], vm := .none },
  { cls := 8, slots := #[.null, .int 0, .int 0, .null], vm := .none },
  { cls := 8, slots := #[.null, .int 1, .int 0, .null], vm := .none },
  { cls := 8, slots := #[.null, .int 2, .int 0, .null], vm := .none },
  { cls := 8, slots := #[.null, .int 3, .int 0, .null], vm := .none },
  { cls := 8, slots := #[.null, .int 4, .int 0, .null], vm := .none },
  { cls := 8, slots := #[.null, .int 5, .int 0, .null], vm := .none },
  { cls := 8, slots := #[.null, .int 6, .int 0, .null], vm := .none }]
def classes : Array Class := #[k0, k1, k2, k3, k4, k5, k6, k7, k8, k9, k10, k11, k12, k13, k14, k15, k16, k17]
def interned : List (Array UInt16 × Addr) := []
def slotsUsed : Nat := 97
def theMethod : MethodId := ⟨1, 1⟩
def args0 : Array Value := #[.int 5, .int 7]
def aboutOver (below : List Frame) : State where
  vm := { classes := classes, interned := interned.toArray }
  heap := heap
  slotsUsed := slotsUsed
  threads := #[{ frames := .invoking theMethod args0 :: below }]
def below0 : List Frame := [.native { method := ⟨0, 0⟩, args := #[] }]
def about1 : State := aboutOver below0
def p0 : Program := .bare "" "" ""
def e0 : Env := launch0.env 0 0 0
theorem w_frames : about1.frames = Frame.invoking theMethod args0 :: below0 := rfl
set_option maxRecDepth 65536 in
theorem w_args : argsFit about1.vm theMethod args0 = true := by decide +kernel
set_option maxRecDepth 65536 in
theorem w_heap : heapFits about1 = true := by decide +kernel
set_option maxRecDepth 65536 in
theorem w_runnable : about1.curStatus? = some .runnable := by decide +kernel
set_option maxRecDepth 65536 in
theorem w_alone : about1.alone = true := by decide +kernel
set_option maxRecDepth 65536 in
theorem w_named : about1.methodNamed? x = some theMethod := by decide +kernel
set_option maxRecDepth 65536 in
theorem w_hears : about1.hears theMethod below0 = true := by decide +kernel
set_option maxRecDepth 65536 in
theorem w_ripe : about1.ripe theMethod args0 below0 = true := by decide +kernel
theorem w_running : about1.status = .running := rfl
set_option maxRecDepth 65536 in
theorem w_room : about1.hasRoom e0.platform room_1 = true :=
  launch0.hasRoom_least _ room_1 (by decide +kernel) (by decide +kernel) (by decide +kernel) (by decide +kernel) (by decide +kernel) (by decide +kernel)
theorem allAtoms_all (ts : List Jvm.Cond) (a : Array Jvm.Value) (st : Jvm.State) : (allAtoms ts).before a st = ts.all (fun c => c.before a st) := by
  induction ts with
  | nil => rfl
  | cons c t ih =>
    show (Jvm.Cond.and c (allAtoms t)).before a st = _
    rw [Jvm.Cond.before_and, ih, List.all_cons]
def words1 : List Jvm.Cond := Jvm.Cond.code x code maxLocals ret :: tables_1
/-- a 'code' word, met by the world's own term for the bytes: nothing is compared byte by byte -/
theorem code_word {y : MethodName} {bytes : ByteArray} {mx : Nat} {rt : Option FieldType} {a : Array Value} {s : State} {m : MethodId} {meth : Method} {c : Code} (h1 : s.methodNamed? y = some m) (h2 : s.vm.method? m = some meth) (h3 : meth.code = some c) (h4 : c.code = bytes)
    (h5 : (c.maxLocals == mx && c.exceptionTable.isEmpty && decide (c.maxStack ≤ mostOperands) && decide (meth.sig.returnType = rt) && !meth.locks && decide (parseMethodDescriptor y.desc = some meth.sig)) = true) : (Jvm.Cond.code y bytes mx rt).before a s = true := by
  simp only [Bool.and_eq_true, beq_iff_eq, Bool.not_eq_true', decide_eq_true_eq] at h5
  obtain ⟨⟨⟨⟨⟨g1, g2⟩, g3⟩, g4⟩, g5⟩, g6⟩ := h5
  simp [Cond.before, Cond.holds, Cond.value, h1, h2, h3, h4, g1, g2, g3, g4, g5, g6]
def isCode : Jvm.Cond → Bool
  | .code _ _ _ _ => true
  | _ => false
theorem all_split {L : List Jvm.Cond} {P : Jvm.Cond → Bool} (h1 : L.all (fun c => isCode c || P c) = true) (h2 : ∀ c ∈ L.filter isCode, P c = true) : L.all P = true := by
  refine List.all_eq_true.mpr fun c hc => ?_
  have h := List.all_eq_true.mp h1 c hc
  rcases Bool.eq_false_or_eq_true (isCode c) with hi | hi
  · exact h2 c (List.mem_filter.mpr ⟨hc, hi⟩)
  · simpa [hi] using h
set_option maxRecDepth 65536 in
theorem w_c0 : (Jvm.Cond.code x code maxLocals ret).before args0 about1 = true := code_word (m := ⟨1, 1⟩) (meth := k1m1) (c := k1c1) (by decide +kernel) rfl rfl rfl (by decide +kernel)
set_option maxRecDepth 65536 in
theorem w_c1 : (Jvm.Cond.code ({ cls := "com/example/gatewarden/gatewarden/core/Lookup", name := "isConnection", desc := "(Lcom/example/gatewarden/gatewarden/core/Action;Lcom/example/gatewarden/gatewarden/core/ObjectType;)Z" } : Jvm.MethodName) prog_21_method_3_code (2 : Nat) (Option.some Jvm.ClassFile.FieldType.boolean)).before args0 about1 = true := code_word (m := ⟨10, 0⟩) (meth := k10m0) (c := k10c0) (by decide +kernel) rfl rfl rfl (by decide +kernel)
def codes1 : List Jvm.Cond := [Jvm.Cond.code x code maxLocals ret, Jvm.Cond.code ({ cls := "com/example/gatewarden/gatewarden/core/Lookup", name := "isConnection", desc := "(Lcom/example/gatewarden/gatewarden/core/Action;Lcom/example/gatewarden/gatewarden/core/ObjectType;)Z" } : Jvm.MethodName) prog_21_method_3_code (2 : Nat) (Option.some Jvm.ClassFile.FieldType.boolean)]
set_option maxRecDepth 65536 in
theorem codes_eq : words1.filter isCode = codes1 := rfl
theorem w_codes : ∀ c ∈ words1.filter isCode, c.before args0 about1 = true := by
  rw [codes_eq]
  intro c hc
  simp only [codes1, List.mem_cons, List.not_mem_nil, or_false] at hc
  rcases hc with rfl | rfl
  · exact w_c0
  · exact w_c1
set_option maxRecDepth 65536 in
theorem w_t1 : (words1.take 24).all (fun c => isCode c || c.before args0 about1) = true := by decide +kernel
set_option maxRecDepth 65536 in
theorem w_t2 : ((words1.drop 24).take 24).all (fun c => isCode c || c.before args0 about1) = true := by decide +kernel
set_option maxRecDepth 65536 in
theorem w_t3 : ((words1.drop 24).drop 24).all (fun c => isCode c || c.before args0 about1) = true := by decide +kernel
theorem w_tables : (allAtoms (Jvm.Cond.code x code maxLocals ret :: tables_1)).before args0 about1 = true := by
  rw [allAtoms_all]
  show words1.all (fun c => c.before args0 about1) = true
  refine all_split ?_ w_codes
  rw [← List.take_append_drop 24 words1, List.all_append, w_t1, ← List.take_append_drop 24 (words1.drop 24), List.all_append, w_t2, w_t3]
  rfl
set_option maxRecDepth 65536 in
theorem w_case : (Jvm.Cond.and given_1 narrow_1).before args0 about1 = true := by decide +kernel
theorem w_applies : (headSpec (Jvm.Cond.code x code maxLocals ret :: tables_1) room_1).applies x e0.platform about1 = true :=
  (Spec.applies_iff w_frames).mpr ⟨w_running, w_runnable, w_alone, w_named, w_hears, w_ripe, w_room, w_tables⟩
theorem atStart : AtStart classFile x code maxLocals ret World_1 tables_1 room_1 Calls_1 rest_1 Pre_1 launch0 p0 e0 about1 theMethod args0 below0 :=
  ⟨lists_1, trivial, launch0.admits_env _ _ _, launch0.least_env, fairChoices_fair.cas, fairChoices_fair.clock, w_frames, w_args, w_heap, w_applies, trivial, trivial, w_case⟩
end start1
theorem witness_1 : WitnessClaimed_1 := ⟨start1.p0, start1.e0, start1.about1, start1.theMethod, start1.args0, start1.below0, start1.atStart⟩
end Jvm.Pilot.@@N@@
