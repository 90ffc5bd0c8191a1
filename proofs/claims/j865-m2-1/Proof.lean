import JvmDerived
import JvmDerived.Pilot.@@N@@Statement
import JvmDerived.Pilot.@@N@@Code
set_option linter.unusedVariables false
set_option linter.unusedSimpArgs false
namespace Jvm.RoadKit
open Sem ClassFile Op Lib Jvm.Stand Jvm.Free Jvm.LawKit
section New
variable {p : Program} {l : Launch} {e : Env} {R : Room} {s : State} {m : MethodId} {args : Array Value} {below : List Frame} {meth : Method} {c : Code} {T : State} {locs : List Loc} {cells slots : Nat}
theorem retI (X : Stand p l e R s m args below meth c T locs cells slots) (hx : p.tables.exec = Jvm.exec) {pc : Nat} {Ls : Array Slot} {z : Int32} {rest : List Value} (hret : meth.sig.returnType = some .int) (hd : decode c.code pc = .ok (.ireturn, 1)) {fs : List Frame}
    (hl : ∀ (f : JFrame) (acts : List Action), f.method = m → f.locked = none → f.entered = [] → (doReturn e (T.setTop f) acts (some (.int z))).1 = T.setFrames fs) : Steps p.tables e below (T.setTop (mkF m pc Ls (.int z :: rest))) (T.setFrames fs) := by
  have hm' : T.vm.method? m = some meth := X.method'
  have hn : narrow .int (.int z) = .int z := rfl
  show Steps p.tables e below (T.setTop { method := m, pc := pc, locals := Ls, stack := _ :: rest, locked := none }) _
  jvm_step X.here [X.here.top, hx, hd, hm', hret, hn]
  first | (intro acts; rw [hl _ acts rfl rfl rfl]) | rw [hl _ _ rfl rfl rfl]
  exact Steps.refl _
/-- from here the run comes to an end of which Po says something -/
def Gl (p : Program) (e : Env) (below : List Frame) (Po : State → Outcome → Prop) (T : State) (g : JFrame) : Prop := ∃ s₂ o, Steps p.tables e below (T.setTop g) s₂ ∧ s₂.status = .running ∧ Ended s₂ below o ∧ Po s₂ o
def Pos (C S : Nat) (Q : Option Value → Heap → List Loc → Prop) (s : State) (U : State) (o : Outcome) : Prop := ∃ v L, o = .returned v ∧ Q v U.heap L ∧ FrameEnd s o U L C S
theorem Gl.by {Po : State → Outcome → Prop} {T' : State} {g g' : JFrame} (st : ∀ t, Steps p.tables e below (T'.setTop g') t → Steps p.tables e below (T.setTop g) t) (h : Gl p e below Po T' g') : Gl p e below Po T g := by
  obtain ⟨a, o, k, r⟩ := h
  exact ⟨a, o, st _ k, r⟩
abbrev vr (a : Addr) : Slot := .val (.ref a)
abbrev vi (a : Int32) : Slot := .val (.int a)
abbrev vj (a : Int64) : Slot := .val (.long a)
theorem gb {Po : State → Outcome → Prop} {T' : State} {g : JFrame} (g' : JFrame) (st : ∀ t, Steps p.tables e below (T'.setTop g') t → Steps p.tables e below (T.setTop g) t) (h : Gl p e below Po T' g') : Gl p e below Po T g := Gl.by st h
theorem Gl.cast {Po : State → Outcome → Prop} {g g' : JFrame} (q : g = g') (h : Gl p e below Po T g') : Gl p e below Po T g := q ▸ h
theorem Gl.outN (X : Stand p l e R s m args below meth c T locs cells slots) (hx : p.tables.exec = Jvm.exec) (hk : meth.locks = false) {pc : Nat} {Ls : Array Slot} {z : Int32} {t : FieldType} {rest : List Value} (hret : meth.sig.returnType = some t) (ht : t = .boolean ∨ t = .byte ∨ t = .char ∨ t = .short)
    (hd : decode c.code pc = .ok (.ireturn, 1)) {C S : Nat} {Q : Option Value → Heap → List Loc → Prop} (hQ : Q (some (.int (nar t z))) T.heap locs) (hc : cells ≤ C) (hs : slots ≤ S) : Gl p e below (Pos C S Q s) T (mkF m pc Ls (.int z :: rest)) := by
  obtain ⟨fs, hr, hrun, hended, hW, hsame⟩ := X.leave (v := some (.int (nar t z))) (fun h => by rw [hret] at h; cases h) hk
  exact ⟨_, _, retN X hx hret ht hd hr, hrun, hended, _, _, rfl, hQ, ⟨_, rfl⟩, hW, hsame.mono hc hs⟩
theorem Gl.outI (X : Stand p l e R s m args below meth c T locs cells slots) (hx : p.tables.exec = Jvm.exec) (hk : meth.locks = false) {pc : Nat} {Ls : Array Slot} {z : Int32} {rest : List Value} (hret : meth.sig.returnType = some .int)
    (hd : decode c.code pc = .ok (.ireturn, 1)) {C S : Nat} {Q : Option Value → Heap → List Loc → Prop} (hQ : Q (some (.int z)) T.heap locs) (hc : cells ≤ C) (hs : slots ≤ S) : Gl p e below (Pos C S Q s) T (mkF m pc Ls (.int z :: rest)) := by
  obtain ⟨fs, hr, hrun, hended, hW, hsame⟩ := X.leave (v := some (.int z)) (fun h => by rw [hret] at h; cases h) hk
  exact ⟨_, _, retI X hx hret hd hr, hrun, hended, _, _, rfl, hQ, ⟨_, rfl⟩, hW, hsame.mono hc hs⟩
theorem Gl.outJ (X : Stand p l e R s m args below meth c T locs cells slots) (hx : p.tables.exec = Jvm.exec) (hk : meth.locks = false) {pc : Nat} {Ls : Array Slot} {z : Int64} {rest : List Value} (hret : meth.sig.returnType = some .long)
    (hd : decode c.code pc = .ok (.lreturn, 1)) {C S : Nat} {Q : Option Value → Heap → List Loc → Prop} (hQ : Q (some (.long z)) T.heap locs) (hc : cells ≤ C) (hs : slots ≤ S) : Gl p e below (Pos C S Q s) T (mkF m pc Ls (.long z :: rest)) := by
  obtain ⟨fs, hr, hrun, hended, hW, hsame⟩ := X.leave (v := some (.long z)) (fun h => by rw [hret] at h; cases h) hk
  exact ⟨_, _, retOut X hx hret rfl (Or.inr (Or.inl ⟨rfl, rfl, _, rfl⟩)) hd hr, hrun, hended, _, _, rfl, hQ, ⟨_, rfl⟩, hW, hsame.mono hc hs⟩
theorem Gl.outD (X : Stand p l e R s m args below meth c T locs cells slots) (hx : p.tables.exec = Jvm.exec) (hk : meth.locks = false) {pc : Nat} {Ls : Array Slot} {z : UInt64} {rest : List Value} (hret : meth.sig.returnType = some .double)
    (hd : decode c.code pc = .ok (.dreturn, 1)) {C S : Nat} {Q : Option Value → Heap → List Loc → Prop} (hQ : Q (some (.double z)) T.heap locs) (hc : cells ≤ C) (hs : slots ≤ S) : Gl p e below (Pos C S Q s) T (mkF m pc Ls (.double z :: rest)) := by
  obtain ⟨fs, hr, hrun, hended, hW, hsame⟩ := X.leave (v := some (.double z)) (fun h => by rw [hret] at h; cases h) hk
  exact ⟨_, _, retOut X hx hret rfl (Or.inr (Or.inr (Or.inl ⟨rfl, rfl, _, rfl⟩))) hd hr, hrun, hended, _, _, rfl, hQ, ⟨_, rfl⟩, hW, hsame.mono hc hs⟩
theorem Gl.outA (X : Stand p l e R s m args below meth c T locs cells slots) (hx : p.tables.exec = Jvm.exec) (hk : meth.locks = false) {pc : Nat} {Ls : Array Slot} {w : Value} {t : FieldType} {rest : List Value} (hret : meth.sig.returnType = some t) (ht : t.isReference = true) (hw : w.isRef = true)
    (hd : decode c.code pc = .ok (.areturn, 1)) {C S : Nat} {Q : Option Value → Heap → List Loc → Prop} (hQ : Q (some w) T.heap locs) (hc : cells ≤ C) (hs : slots ≤ S) : Gl p e below (Pos C S Q s) T (mkF m pc Ls (w :: rest)) := by
  obtain ⟨fs, hr, hrun, hended, hW, hsame⟩ := X.leave (v := some w) (fun h => by rw [hret] at h; cases h) hk
  exact ⟨_, _, retOut X hx hret (by rcases ref_cases hw with rfl | ⟨a, rfl⟩ <;> cases t <;> first | rfl | (cases ht; done)) (Or.inr (Or.inr (Or.inr (Or.inr ⟨rfl, ht, hw⟩)))) hd hr, hrun, hended, _, _, rfl, hQ, ⟨_, rfl⟩, hW, hsame.mono hc hs⟩
theorem Gl.outV (X : Stand p l e R s m args below meth c T locs cells slots) (hx : p.tables.exec = Jvm.exec) (hk : meth.locks = false) {pc : Nat} {Ls : Array Slot} (hret : meth.sig.returnType = none)
    (hd : decode c.code pc = .ok (.return_, 1)) {C S : Nat} {Q : Option Value → Heap → List Loc → Prop} (hQ : Q none T.heap locs) (hc : cells ≤ C) (hs : slots ≤ S) : Gl p e below (Pos C S Q s) T (mkF m pc Ls []) := by
  obtain ⟨fs, hr, hrun, hended, hW, hsame⟩ := X.leave (v := none) (fun _ => rfl) hk
  exact ⟨_, _, X.returnOut hx hret hd hr, hrun, hended, _, _, rfl, hQ, ⟨_, rfl⟩, hW, hsame.mono hc hs⟩
def PosW (C S : Nat) (Q : Option Value → Heap → List Loc → Prop) (s : State) (U : State) (o : Outcome) : Prop := ∃ v L, o = .returned v ∧ Q v U.heap L ∧ ReturnedEndW s o U L C S
theorem ReturnedEndW.mono {s t : State} {o : Outcome} {L : List Loc} {k n k' n' : Nat} (h : ReturnedEndW s o t L k n) (hk : k ≤ k') (hn : n ≤ n') : ReturnedEndW s o t L k' n' := ⟨h.1, h.2.1, h.2.2.1, h.2.2.2.mono hk hn⟩
section Wide
variable {vm₁ : Vm} {n₁ : Nat}
theorem Gl.outNW (X : Stand p l e R (s.setVm vm₁) m args below meth c T locs cells slots) (hS : s.Since vm₁ n₁) (hn : n₁ ≤ T.heap.size) (hx : p.tables.exec = Jvm.exec) (hk : meth.locks = false) {pc : Nat} {Ls : Array Slot} {z : Int32} {t : FieldType} {rest : List Value} (hret : meth.sig.returnType = some t) (ht : t = .boolean ∨ t = .byte ∨ t = .char ∨ t = .short)
    (hd : decode c.code pc = .ok (.ireturn, 1)) {C S : Nat} {Q : Option Value → Heap → List Loc → Prop} (hQ : Q (some (.int (nar t z))) T.heap locs) (hc : cells ≤ C) (hs : slots ≤ S) : Gl p e below (PosW C S Q s) T (mkF m pc Ls (.int z :: rest)) := by
  obtain ⟨fs, hr, hrun, hended, hW⟩ := X.leaveW hS hn (v := some (.int (nar t z))) (fun h => by rw [hret] at h; cases h) hk
  exact ⟨_, _, retN X hx hret ht hd hr, hrun, hended, _, _, rfl, hQ, ReturnedEndW.mono hW hc hs⟩
theorem Gl.outIW (X : Stand p l e R (s.setVm vm₁) m args below meth c T locs cells slots) (hS : s.Since vm₁ n₁) (hn : n₁ ≤ T.heap.size) (hx : p.tables.exec = Jvm.exec) (hk : meth.locks = false) {pc : Nat} {Ls : Array Slot} {z : Int32} {rest : List Value} (hret : meth.sig.returnType = some .int)
    (hd : decode c.code pc = .ok (.ireturn, 1)) {C S : Nat} {Q : Option Value → Heap → List Loc → Prop} (hQ : Q (some (.int z)) T.heap locs) (hc : cells ≤ C) (hs : slots ≤ S) : Gl p e below (PosW C S Q s) T (mkF m pc Ls (.int z :: rest)) := by
  obtain ⟨fs, hr, hrun, hended, hW⟩ := X.leaveW hS hn (v := some (.int z)) (fun h => by rw [hret] at h; cases h) hk
  exact ⟨_, _, retI X hx hret hd hr, hrun, hended, _, _, rfl, hQ, ReturnedEndW.mono hW hc hs⟩
theorem Gl.outAW (X : Stand p l e R (s.setVm vm₁) m args below meth c T locs cells slots) (hS : s.Since vm₁ n₁) (hn : n₁ ≤ T.heap.size) (hx : p.tables.exec = Jvm.exec) (hk : meth.locks = false) {pc : Nat} {Ls : Array Slot} {w : Value} {t : FieldType} {rest : List Value} (hret : meth.sig.returnType = some t) (ht : t.isReference = true) (hw : w.isRef = true)
    (hd : decode c.code pc = .ok (.areturn, 1)) {C S : Nat} {Q : Option Value → Heap → List Loc → Prop} (hQ : Q (some w) T.heap locs) (hc : cells ≤ C) (hs : slots ≤ S) : Gl p e below (PosW C S Q s) T (mkF m pc Ls (w :: rest)) := by
  obtain ⟨fs, hr, hrun, hended, hW⟩ := X.leaveW hS hn (v := some w) (fun h => by rw [hret] at h; cases h) hk
  exact ⟨_, _, retOut X hx hret (by rcases ref_cases hw with rfl | ⟨a, rfl⟩ <;> cases t <;> first | rfl | (cases ht; done)) (Or.inr (Or.inr (Or.inr (Or.inr ⟨rfl, ht, hw⟩)))) hd hr, hrun, hended, _, _, rfl, hQ, ReturnedEndW.mono hW hc hs⟩
theorem Gl.outVW (X : Stand p l e R (s.setVm vm₁) m args below meth c T locs cells slots) (hS : s.Since vm₁ n₁) (hn : n₁ ≤ T.heap.size) (hx : p.tables.exec = Jvm.exec) (hk : meth.locks = false) {pc : Nat} {Ls : Array Slot} (hret : meth.sig.returnType = none)
    (hd : decode c.code pc = .ok (.return_, 1)) {C S : Nat} {Q : Option Value → Heap → List Loc → Prop} (hQ : Q none T.heap locs) (hc : cells ≤ C) (hs : slots ≤ S) : Gl p e below (PosW C S Q s) T (mkF m pc Ls []) := by
  obtain ⟨fs, hr, hrun, hended, hW⟩ := X.leaveW hS hn (v := none) (fun _ => rfl) hk
  exact ⟨_, _, X.returnOut hx hret hd hr, hrun, hended, _, _, rfl, hQ, ReturnedEndW.mono hW hc hs⟩
end Wide
theorem selPriv {s : State} {args : Array Value} {y : MethodName} {n : Nat} (wi : (Cond.instantiable y.cls n).before args s = true) (hp : s.PrivateAt y) (hi : (Cond.instanceMethod y).before args s = true) (hy : y.cls ≠ "java/lang/invoke/MethodHandle" ∧ y.cls ≠ "java/lang/invoke/VarHandle") : (Cond.selects y.cls y y).before args s = true := by
  obtain ⟨c, k, h1, h2, h3, h4, -⟩ := Cond.instantiable_spec wi
  exact selects_self_of_private h1 h2 (by simp only [Bool.or_eq_false_iff] at h4; exact h4.1) hp hi hy
theorem eqI_v {args : Array Value} {first s : State} {o : Option Outcome} {idx : List Nat} {t : Term} {k : Int32} (h : (Cond.eq t (.int k)).value args first o s idx = some true) : t.eval args first o idx s = some (.int k) := by
  simp only [Cond.value, Term.eval] at h
  cases ht : t.eval args first o idx s with
  | none => simp [ht] at h
  | some x => cases x <;> simp [ht] at h ⊢; exact h
end New
end Jvm.RoadKit
namespace Jvm.RoadKit
open Sem ClassFile Op Lib Jvm.Stand Jvm.Free Jvm.LawKit
section Lists
variable {p : Program} {l : Launch} {e : Env} {R : Room} {s : State} {m : MethodId} {args : Array Value} {below : List Frame} {meth : Method} {c : Code} {T : State} {locs : List Loc} {cells slots : Nat} {Z : State} {a0 : Array Value} {h : Heap}
theorem newRX (X : Stand p l e R s m args below meth c T locs cells slots) (hx : p.tables.exec = Jvm.exec) (hZ : Z.Warmed39 s.vm) {own C CA : String} {index : Nat} (hown : s.vm.findClass own = some m.cls) (w1 : (Cond.classLink own index C).before a0 Z = true) (w2 : (Cond.arrayOver (.object C)).before a0 Z = true) (hCA : "[" ++ (FieldType.object C).toString = CA)
    (eT : T.heap = h) {g : JFrame} (hg : g.method = m) (hd : decode c.code g.pc = .ok (.anewarray index, 3)) {n : Int32} {rest : List Value} (hs : g.stack = .int n :: rest) (hn : ¬ n < 0) {cap : Nat} (hcap : n.toNatClampNeg ≤ cap) (hb : cap * 8 ≤ 536870912) (hc : cells + 1 ≤ R.cells) (hl : slots + cap ≤ R.slots) :
    ∃ T' h' cA, Stand p l e R s m args below meth c T' locs (cells + 1) (slots + cap) ∧ T'.heap = h' ∧ Ext h h' ∧ Arr Z h' h.size (newA cA (.object C) n) (.object C) ∧ (Ovr Z cA C ∧ Exa Z h' h.size CA) ∧
      ∀ target, Steps p.tables e below (T'.setTop { g with pc := g.pc + 3, stack := .ref h.size :: rest }) target → Steps p.tables e below (T.setTop g) target := by
  subst eT
  have cov : (Cond.arrayOver (.object C)).before args s = true := Cond.arrayOver_alike hZ.alike w2
  obtain ⟨vmN, cA, kN, comp, -, fN, gN, kindN, compN, XN, stN⟩ := X.anewarrayRefK hx hown (mv hZ w1) cov hg hd hs hn (by omega) hc (by omega)
  have fZ : Z.vm.findClass ("[" ++ (FieldType.object C).toString) = some cA := (hZ.alike.findClass _ _).symm.trans fN
  have compZ : Z.vm.findClass C = some comp := (hZ.alike.findClass _ _).symm.trans compN
  obtain ⟨kZ, atZ, -⟩ := Vm.findClass_spec fZ
  have kindZ : kZ.kind = .array comp (.object C) := by
    obtain ⟨kS, atS, same⟩ := hZ.alike.2.2 _ _ atZ
    obtain rfl := Option.some.inj (gN.symm.trans atS)
    rw [← kindN, same]
  have made : (T.heap.push { cls := cA, slots := Array.replicate n.toNatClampNeg .null, vm := .none })[T.heap.size]? = some (newA cA (.object C) n) := by
    rw [Array.getElem?_push_size]
    simp [newA, defaultValue]
  refine ⟨_, _, cA, XN.more (Nat.le_refl _) (by omega), rfl, ext_of fun a q => ?_, ⟨made, ⟨by simp [newA], kZ, atZ, comp, kindZ⟩, by simp [newA]⟩, ⟨⟨kZ, comp, atZ, kindZ, compZ⟩, ?_⟩, stN⟩
  · show (T.heap.push _)[a]? = T.heap[a]?
    rw [Array.getElem?_push_lt q, Array.getElem?_eq_getElem q]
  · refine ⟨newA cA (.object C) n, kZ, made, hCA ▸ fZ, atZ, rfl, fun ord => ?_⟩
    rw [kindZ] at ord
    cases ord
/-- ldc of a class whose Class object has been made -/
theorem ldcM (X : Stand p l e R s m args below meth c T locs cells slots) (hx : p.tables.exec = Jvm.exec) (hZ : Z.Warmed39 s.vm) {own C : String} {index : Nat} (hown : s.vm.findClass own = some m.cls) (w1 : (Cond.classLink own index C).before a0 Z = true) {mr : Addr} (M : Mir Z C mr) (eT : T.heap = h)
    {g : JFrame} (hg : g.method = m) (hd : decode c.code g.pc = .ok (.ldc index, 2)) :
    ∃ T', Stand p l e R s m args below meth c T' locs cells slots ∧ T'.heap = h ∧ ∀ target, Steps p.tables e below (T'.setTop { g with pc := g.pc + 2, stack := .ref mr :: g.stack }) target → Steps p.tables e below (T.setTop g) target := by
  obtain ⟨cc, kc, m1, m2, m3, -⟩ := M
  obtain ⟨k', q, ek⟩ := hZ.alike.2.2 _ _ m2
  have f : s.vm.findClass C = some cc := by rw [hZ.alike.findClass]; exact m1
  have g3 : k'.mirror = some mr := by rw [ek]; exact m3
  obtain ⟨vm', X', st⟩ := X.ldcMirror hx hown (mv hZ w1) (a := mr) (by simp [Term.eval, f, q, g3]) hg hd
  exact ⟨_, X', eT, st⟩
/-- an array of length 0 at a static or a field -/
theorem arv0 {t : Term} {args : Array Value} {a : Addr} {ty : FieldType} (hf : Fit Z) (ev : t.eval args Z none [] Z = some (.ref a)) (h1 : (Cond.arrayOf t ty).value args Z none Z [] = some true) (h2 : (Cond.eq (.length t) (.int 0)).value args Z none Z [] = some true) : ∃ k, Arv Z Z.heap a k ty 0 [] .null := by
  obtain ⟨cl, A⟩ := Arr.start ev h1
  have hA : Z.arrayAt? a = some cl := A.fin (Vm.Alike.refl _)
  have hl := eqI_v h2
  have hl2 : (do let a ← Z.arrayAt? a; if a.slots.size < 2 ^ 31 then pure (Value.int a.slots.size.toInt32) else none) = some (Value.int 0) := by
    rw [← hl]; simp only [Term.eval]; rw [ev]; rfl
  rw [hA] at hl2
  simp only [Option.bind_some, Option.bind_eq_bind] at hl2
  split at hl2
  · rename_i h
    have q := len_toInt h
    have e : cl.slots.size.toInt32 = 0 := Value.int.inj (Option.some.inj hl2)
    exact ⟨cl.cls, Arv.start hf A h e (by decide) rfl trivial⟩
  · cases hl2
end Lists
end Jvm.RoadKit
namespace Jvm.Pilot.@@N@@
open Jvm Jvm.ClassFile Sem Op Lib Jvm.Free Jvm.Stand Jvm.LawKit Jvm.RoadKit Bundle Jvm.Pilot.@@N@@.Jvm.D
set_option maxRecDepth 65536
set_option maxHeartbeats 40000000
theorem hW {Z : State} {a0 : Array Value} (hw : ∀ d ∈ tables_1, d.before a0 Z = true) (i : Nat) {d : Jvm.Cond} (h : tables_1[i]? = some d) : d.before a0 Z = true := hw d (List.mem_of_getElem? h)
abbrev sI : String := "com/example/talaria/talaria/model/ProblemDetails$InvalidParam"
abbrev sF : String := "com/example/talaria/talaria/model/Faults"
abbrev sA : String := "java/util/ArrayList"
abbrev sN : String := "java/util/ImmutableCollections$ListN"
abbrev sT : String := "java/util/ImmutableCollections$List12"
abbrev sO : String := "[Ljava/lang/Object;"
abbrev oT : FieldType := .object "java/lang/Object"
abbrev mq0 : MethodName := ⟨"java/lang/Math", "max", "(II)I"⟩
abbrev mq1 : MethodName := ⟨sA, "grow", "(I)[Ljava/lang/Object;"⟩
abbrev mq2 : MethodName := ⟨sA, "grow", "()[Ljava/lang/Object;"⟩
abbrev mq3 : MethodName := ⟨sA, "add", "(Ljava/lang/Object;[Ljava/lang/Object;I)V"⟩
abbrev mq4 : MethodName := ⟨sA, "add", "(Ljava/lang/Object;)Z"⟩
abbrev mq5 : MethodName := ⟨sA, "size", "()I"⟩
abbrev mq6 : MethodName := ⟨"java/lang/Record", "<init>", "()V"⟩
abbrev mq7 : MethodName := ⟨sI, "<init>", "(Ljava/lang/String;Ljava/lang/String;)V"⟩
abbrev mq8 : MethodName := ⟨sF, "add", "(Lcom/example/talaria/talaria/model/ProblemDetails$InvalidParam;)V"⟩
abbrev mq9 : MethodName := ⟨"java/util/List", "size", "()I"⟩
abbrev mq10 : MethodName := ⟨"java/util/List", "add", "(Ljava/lang/Object;)Z"⟩
abbrev mq11 : MethodName := ⟨"java/lang/StringLatin1", "canEncode", "(C)Z"⟩
abbrev mq12 : MethodName := ⟨"java/lang/StringLatin1", "toBytes", "(C)[B"⟩
abbrev mq13 : MethodName := ⟨"java/lang/String", "<init>", "([BB)V"⟩
abbrev mq14 : MethodName := ⟨"java/lang/String", "valueOf", "(C)Ljava/lang/String;"⟩
abbrev mq15 : MethodName := ⟨sF, "incorrect", "(Ljava/lang/String;Ljava/lang/String;)V"⟩
abbrev mq16 : MethodName := ⟨sF, "missing", "(Ljava/lang/String;)V"⟩
abbrev mq17 : MethodName := ⟨"com/example/talaria/talaria/model/FaultsFullPinLaw", "put", "(Lcom/example/talaria/talaria/model/Faults;II)V"⟩
abbrev mq18 : MethodName := ⟨"java/lang/Math", "min", "(II)I"⟩
abbrev mq19 : MethodName := ⟨"java/util/Arrays", "copyOf", "([Ljava/lang/Object;ILjava/lang/Class;)[Ljava/lang/Object;"⟩
abbrev mq20 : MethodName := ⟨"java/util/Arrays", "copyOf", "([Ljava/lang/Object;I)[Ljava/lang/Object;"⟩
abbrev mq21 : MethodName := ⟨sA, "toArray", "()[Ljava/lang/Object;"⟩
abbrev mq22 : MethodName := ⟨"java/util/AbstractCollection", "<init>", "()V"⟩
abbrev mq23 : MethodName := ⟨"java/util/AbstractList", "<init>", "()V"⟩
abbrev mq24 : MethodName := ⟨sA, "<init>", "()V"⟩
abbrev mq25 : MethodName := ⟨sF, "<init>", "()V"⟩
abbrev mq26 : MethodName := ⟨sF, "full", "()Z"⟩
abbrev mq27 : MethodName := ⟨sF, "isEmpty", "()Z"⟩
abbrev mq28 : MethodName := ⟨sA, "isEmpty", "()Z"⟩
abbrev mq29 : MethodName := ⟨"java/util/List", "of", "()Ljava/util/List;"⟩
abbrev mq30 : MethodName := ⟨sN, "size", "()I"⟩
abbrev mq31 : MethodName := ⟨sT, "size", "()I"⟩
abbrev mq32 : MethodName := ⟨"java/util/Objects", "requireNonNull", "(Ljava/lang/Object;)Ljava/lang/Object;"⟩
abbrev mq33 : MethodName := ⟨"java/util/ImmutableCollections$AbstractImmutableCollection", "<init>", "()V"⟩
abbrev mq34 : MethodName := ⟨"java/util/ImmutableCollections$AbstractImmutableList", "<init>", "()V"⟩
abbrev mq35 : MethodName := ⟨sN, "<init>", "([Ljava/lang/Object;Z)V"⟩
abbrev mq36 : MethodName := ⟨sT, "<init>", "(Ljava/lang/Object;)V"⟩
abbrev mq37 : MethodName := ⟨sT, "<init>", "(Ljava/lang/Object;Ljava/lang/Object;)V"⟩
abbrev mq38 : MethodName := ⟨"java/util/ImmutableCollections", "listCopy", "(Ljava/util/Collection;)Ljava/util/List;"⟩
abbrev mq39 : MethodName := ⟨"java/util/Collection", "isEmpty", "()Z"⟩
abbrev mq40 : MethodName := ⟨"java/util/List", "copyOf", "(Ljava/util/Collection;)Ljava/util/List;"⟩
abbrev mq41 : MethodName := ⟨sF, "params", "()Ljava/util/List;"⟩
abbrev mq42 : MethodName := ⟨"java/util/List", "of", "([Ljava/lang/Object;)Ljava/util/List;"⟩
abbrev mq43 : MethodName := ⟨"java/util/Collection", "toArray", "()[Ljava/lang/Object;"⟩
abbrev mq44 : MethodName := ⟨"java/util/ImmutableCollections", "listFromArray", "([Ljava/lang/Object;)Ljava/util/List;"⟩
theorem ns_root {Z : State} {a0 : Array Value} {O K : String} {n : Nat} (w : (Jvm.Cond.noSuperclass O).before a0 Z = true) (wk : (Jvm.Cond.instantiable K n).before a0 Z = true) (hn : O ≠ K) : NS Z O K := by
  obtain ⟨c, k, h1, h2, h3, -, -⟩ := Cond.noSuperclass_spec w
  obtain ⟨t, k', g1, -⟩ := Cond.instantiable_spec wk
  have ne := ids_ne h1 g1 hn
  refine ⟨c, t, h1, g1, fun fuel => ?_⟩
  cases fuel with
  | zero => rfl
  | succ f => simp [Vm.isSubclassAux, ne, h2, h3]
theorem ns_no {Z : State} {a0 : Array Value} {C S K : String} {m : Nat} (w : (Jvm.Cond.superclass C S).before a0 Z = true) (wk : (Jvm.Cond.instantiable K m).before a0 Z = true) (n : NS Z C K) (hn : C ≠ K) : ∃ c t, Z.vm.findClass C = some c ∧ Z.vm.findClass K = some t ∧ Z.vm.assignable c t = false := by
  obtain ⟨c, t, h0, g0, n3⟩ := n
  obtain ⟨p, k, kp, h1, h2, h3, h4, h5, -, h7⟩ := Cond.superclass_spec h0 w
  obtain ⟨t', k', g1, g2, g3, g4, -⟩ := Cond.instantiable_spec wk
  cases g0.symm.trans g1
  have ne := ids_ne h0 g0 hn
  have gi : k'.isInterface = false := by simp only [Bool.or_eq_false_iff] at g4; exact g4.1
  refine ⟨c, t, h0, g0, ?_⟩
  show Z.vm.assignableAux (255 + 1) c t = false
  simp [Vm.assignableAux, ne, h2, g2, h5, g3, gi, Vm.isSubclass, n3]

def Wd (Z : State) (wa wb wc wd we : Addr) (ka kc : ClassId) (G1 : Int32) : Prop := Sta Z Z.heap sA "DEFAULTCAPACITY_EMPTY_ELEMENTDATA" sO (.ref wa) ∧ Arv Z Z.heap wa ka oT 0 [] .null ∧ Sta Z Z.heap "java/util/ImmutableCollections" "EMPTY_LIST" "Ljava/util/ImmutableCollections$ListN;" (.ref wb) ∧ Exa Z Z.heap wb sN ∧ Fld Z Z.heap wb sN "elements" sO (.ref wc) ∧ Arv Z Z.heap wc kc oT 0 [] .null ∧ Sta Z Z.heap "java/util/ImmutableCollections" "EMPTY" "Ljava/lang/Object;" (.ref wd) ∧ Exa Z Z.heap wd "java/lang/Object" ∧ Mir Z sO we ∧ Sta Z Z.heap "java/lang/String" "COMPACT_STRINGS" "Z" (.int G1) ∧ ¬ G1 = (0 : Int32)
theorem wS {Z : State} {a0 : Array Value} (hw : ∀ d ∈ tables_1, d.before a0 Z = true) : ∀ a ∈ Bundle.stringAtoms, a.before a0 Z = true := by
  intro d hd
  simp only [Bundle.stringAtoms, List.mem_cons, List.not_mem_nil, or_false] at hd
  rcases hd with rfl | rfl | rfl | rfl | rfl | rfl | rfl
  · exact (hW hw 101 rfl)
  · exact (hW hw 109 rfl)
  · exact (hW hw 113 rfl)
  · exact (hW hw 120 rfl)
  · exact (hW hw 122 rfl)
  · exact (hW hw 124 rfl)
  · exact (hW hw 125 rfl)
theorem d28_0 : decode jdk_29_method_65_code 0 = .ok (.iload_n 0, 1) := by decide +kernel
theorem d28_1 : decode jdk_29_method_65_code 1 = .ok (.iload_n 1, 1) := by decide +kernel
theorem d28_2 : decode jdk_29_method_65_code 2 = .ok (.if_icmp .lt 7, 3) := by decide +kernel
theorem d28_5 : decode jdk_29_method_65_code 5 = .ok (.iload_n 0, 1) := by decide +kernel
theorem d28_6 : decode jdk_29_method_65_code 6 = .ok (.goto 4, 3) := by decide +kernel
theorem d28_10 : decode jdk_29_method_65_code 10 = .ok (.ireturn, 1) := by decide +kernel
theorem ef28g (m : MethodId) (x0 : Int32) (x1 : Int32) : entryFrame m #[(.int x0), (.int x1)] 2 = mkF m 0 #[.val (.int x0), .val (.int x1)] [] := by first | (simp [entryFrame, mkF, argsToLocals, Value.category]; done) | rfl
def Q28g (Z : State) (wa wb wc wd we : Addr) (ka kc : ClassId) (G1 : Int32) (h0 : Heap) (n0 : Nat) (v : Option Value) (h : Heap) (L : List Loc) : Prop := v = some (.int 10) ∧ Fr n0 L ∧ h = h0
theorem rm28g (l : Launch) (Z : State) (a0' : Array Value) (hw : ∀ d ∈ tables_1, d.before a0' Z = true) (ws : List Jvm.Cond) (wa wb wc wd we : Addr) (ka kc : ClassId) (G1 : Int32) (h0 : Heap) (n0 : Nat) (O : Old Z n0 h0) (W : Wd Z wa wb wc wd we ka kc G1) :
    MetFree l mq0 (head1 (Jvm.Cond.code mq0 jdk_29_method_65_code 2 (some .int) :: ws) ({ frames := 0, cells := 0, slots := 0, locals := 0 } : Room)) (fun a U => a = #[(.int 10), (.int 1)] ∧ Z.Warmed39 U.vm ∧ U.heap = h0) (fun _ _ _ _ _ => True) (fun _ U o U' => ∃ v L, o = .returned v ∧ Q28g Z  wa wb wc wd we ka kc G1 h0 n0 v U'.heap L ∧ FrameEnd U o U' L ({ frames := 0, cells := 0, slots := 0, locals := 0 } : Room).cells ({ frames := 0, cells := 0, slots := 0, locals := 0 } : Room).slots) := by
  refine MetFree.of_bodySF (Jvm.Free.JP.mathPlain rfl (by decide +kernel)) hisR ?_
  intro p e s m args below meth c s₁ Bd hml0 hP hK
  obtain ⟨rfl, hZ, hh⟩ := hP
  have hx := Bd.exec
  have hby := Bd.bytes
  have hml : c.maxLocals = 2 := hml0
  have hown : s.vm.findClass "java/lang/Math" = some m.cls := findClass_of_methodNamed Bd.named
  have hnm := (name_of_methodNamed Bd.named Bd.method).1
  have hk := Bd.notSynchronized
  have X0 : Stand p l e ({ frames := 0, cells := 0, slots := 0, locals := 0 } : Room) s m #[(.int 10), (.int 1)] below meth c s₁ [] 0 0 := Stand.of_body Bd
  have hh2 := hh
  have e0 : s₁.heap = h0 := by rw [← hh, Bd.state]; rfl
  have N0 := Fr.nil n0
  show Gl p e below (Pos 0 0 (Q28g Z  wa wb wc wd we ka kc G1 h0 n0) s) s₁ _
  refine Gl.cast (ef28g m (10 : Int32) (1 : Int32)) ?_
  refine gb (mkF m 1 #[vi 10, vi 1] [(.int 10)]) (fun _ k => XS.iloadN X0.here hx rfl (hb hby d28_0) rfl k) ?_
  refine gb (mkF m 2 #[vi 10, vi 1] [(.int 1), (.int 10)]) (fun _ k => XS.iloadN X0.here hx rfl (hb hby d28_1) rfl k) ?_
  refine gb (mkF m 5 #[vi 10, vi 1] []) (fun _ k => XS.icmpNo X0.here hx rfl (hb hby d28_2) rfl (flt (by decide : ¬ ((10 : Int32) < (1 : Int32)))).1 k) ?_
  refine gb (mkF m 6 #[vi 10, vi 1] [(.int 10)]) (fun _ k => XS.iloadN X0.here hx rfl (hb hby d28_5) rfl k) ?_
  refine gb (mkF m 10 #[vi 10, vi 1] [(.int 10)]) (fun _ k => XS.goto X0.here hx rfl (pc0 := 6) (pc' := 10) rfl (hb hby d28_6) (by decide) (by decide) k) ?_
  exact Gl.outI X0 hx hk Bd.returns (hb hby d28_10) ⟨rfl, N0, e0⟩ (by decide) (by decide)
theorem d27_0 : decode jdk_38_method_6_code 0 = .ok (.aload_n 0, 1) := by decide +kernel
theorem d27_1 : decode jdk_38_method_6_code 1 = .ok (.getfield 9, 3) := by decide +kernel
theorem d27_4 : decode jdk_38_method_6_code 4 = .ok (.arraylength, 1) := by decide +kernel
theorem d27_5 : decode jdk_38_method_6_code 5 = .ok (.istore_n 2, 1) := by decide +kernel
theorem d27_6 : decode jdk_38_method_6_code 6 = .ok (.iload_n 2, 1) := by decide +kernel
theorem d27_7 : decode jdk_38_method_6_code 7 = .ok (.ifCond .gt 13, 3) := by decide +kernel
theorem d27_10 : decode jdk_38_method_6_code 10 = .ok (.aload_n 0, 1) := by decide +kernel
theorem d27_11 : decode jdk_38_method_6_code 11 = .ok (.getfield 9, 3) := by decide +kernel
theorem d27_14 : decode jdk_38_method_6_code 14 = .ok (.getstatic 39, 3) := by decide +kernel
theorem d27_17 : decode jdk_38_method_6_code 17 = .ok (.if_acmp .eq 28, 3) := by decide +kernel
theorem d27_45 : decode jdk_38_method_6_code 45 = .ok (.aload_n 0, 1) := by decide +kernel
theorem d27_46 : decode jdk_38_method_6_code 46 = .ok (.bipush 10, 2) := by decide +kernel
theorem d27_48 : decode jdk_38_method_6_code 48 = .ok (.iload_n 1, 1) := by decide +kernel
theorem d27_49 : decode jdk_38_method_6_code 49 = .ok (.invokestatic 79, 3) := by decide +kernel
theorem d27_52 : decode jdk_38_method_6_code 52 = .ok (.anewarray 7, 3) := by decide +kernel
theorem d27_55 : decode jdk_38_method_6_code 55 = .ok (.dup_x1, 1) := by decide +kernel
theorem d27_56 : decode jdk_38_method_6_code 56 = .ok (.putfield 9, 3) := by decide +kernel
theorem d27_59 : decode jdk_38_method_6_code 59 = .ok (.areturn, 1) := by decide +kernel
theorem pn0 : plainName sA = true := by first | (simp [plainName, overriddenIn]; done) | decide +kernel
theorem pd24 : parseMethodDescriptor "(II)I" = some ⟨[.int, .int], some .int⟩ := by decide +kernel
theorem ef27g (m : MethodId) (x0 : Addr) (x1 : Int32) : entryFrame m #[(.ref x0), (.int x1)] 4 = mkF m 0 #[.val (.ref x0), .val (.int x1), .unset, .unset] [] := by first | (simp [entryFrame, mkF, argsToLocals, Value.category]; done) | rfl
def Q27g (Z : State) (a0 : Addr) (fa : Addr) (mc : Int32) (wa wb wc wd we : Addr) (ka kc : ClassId) (G1 : Int32) (h0 : Heap) (n0 : Nat) (v : Option Value) (h : Heap) (L : List Loc) : Prop := ∃ (b : Addr), ∃ (kb : ClassId), v = some (.ref b) ∧ Fr n0 L ∧ Keep h0 h [a0] ∧ Fld Z h a0 "java/util/AbstractList" "modCount" "I" (.int mc) ∧ Fld Z h a0 sA "elementData" sO (.ref b) ∧ Fld Z h a0 sA "size" "I" (.int 0) ∧ Arv Z h b kb oT (10 : Int32) [.null, .null, .null, .null, .null, .null, .null, .null, .null, .null] .null ∧ Exa Z h b sO ∧ n0 ≤ b ∧ Ovr Z kb "java/lang/Object" ∧ a0 ≠ b ∧ fa ≠ b ∧ h0.size ≤ b
theorem rm27g (l : Launch) (Z : State) (a0' : Array Value) (hw : ∀ d ∈ tables_1, d.before a0' Z = true) (ws : List Jvm.Cond) (a0 : Addr) (fa : Addr) (mc : Int32) (wa wb wc wd we : Addr) (ka kc : ClassId) (G1 : Int32) (h0 : Heap) (n0 : Nat) (O : Old Z n0 h0) (W : Wd Z wa wb wc wd we ka kc G1) (pf0 : Exa Z h0 a0 sA) (pf1 : Fld Z h0 a0 sA "elementData" sO (.ref wa)) (pf2 : Fld Z h0 a0 sA "size" "I" (.int 0)) (pf3 : Fld Z h0 a0 "java/util/AbstractList" "modCount" "I" (.int mc)) (gp_a0 : n0 ≤ a0) (pf5 : Exa Z h0 fa sF) :
    MetFree l mq1 (head1 (Jvm.Cond.code mq1 jdk_38_method_6_code 4 (some (.array oT)) :: ws) ({ frames := 1, cells := 1, slots := 10, locals := 14 } : Room)) (fun a U => a = #[(.ref a0), (.int 1)] ∧ Z.Warmed39 U.vm ∧ U.heap = h0) (fun _ _ _ _ _ => True) (fun _ U o U' => ∃ v L, o = .returned v ∧ Q27g Z a0 fa mc wa wb wc wd we ka kc G1 h0 n0 v U'.heap L ∧ FrameEnd U o U' L ({ frames := 1, cells := 1, slots := 10, locals := 14 } : Room).cells ({ frames := 1, cells := 1, slots := 10, locals := 14 } : Room).slots) := by
  refine MetFree.of_bodySF (plainFor_of_name pn0) hisR ?_
  intro p e s m args below meth c s₁ Bd hml0 hP hK
  obtain ⟨rfl, hZ, hh⟩ := hP
  have hx := Bd.exec
  have hby := Bd.bytes
  have hml : c.maxLocals = 4 := hml0
  have hown : s.vm.findClass sA = some m.cls := findClass_of_methodNamed Bd.named
  have hnm := (name_of_methodNamed Bd.named Bd.method).1
  have hk := Bd.notSynchronized
  have X0 : Stand p l e ({ frames := 1, cells := 1, slots := 10, locals := 14 } : Room) s m #[(.ref a0), (.int 1)] below meth c s₁ [] 0 0 := Stand.of_body Bd
  have hh2 := hh
  have e0 : s₁.heap = h0 := by rw [← hh, Bd.state]; rfl
  have N0 := Fr.nil n0
  show Gl p e below (Pos 1 10 (Q27g Z a0 fa mc wa wb wc wd we ka kc G1 h0 n0) s) s₁ _
  refine Gl.cast (ef27g m a0 (1 : Int32)) ?_
  refine gb (mkF m 1 #[vr a0, vi 1, .unset, .unset] [(.ref a0)]) (fun _ k => XS.aloadN X0.here hx rfl (hb hby d27_0) rfl rfl k) ?_
  obtain ⟨T1, X1, e1, st1⟩ := getF X0 hx hZ hown (host := "") (Or.inl (hW hw 31 rfl)) Via.refl e0 pf1 (g := (mkF m 1 #[vr a0, vi 1, .unset, .unset] [(.ref a0)])) rfl rfl (hb hby d27_1)
  refine gb (mkF m 4 #[vr a0, vi 1, .unset, .unset] [(.ref wa)]) st1 ?_
  obtain ⟨cl2, Ar2, qa2, Sa2, Na2, Ha2, Ga2⟩ := id (Arv.ext W.2.1 O.2)
  refine gb (mkF m 5 #[vr a0, vi 1, .unset, .unset] [(.int 0)]) (fun t k => X1.arraylength hx (by rw [e1]; exact Ar2.1) (State.isArrayOf_alike hZ.alike Ar2.2.1) (g := (mkF m 4 #[vr a0, vi 1, .unset, .unset] [(.ref wa)])) rfl rfl (hb hby d27_4) t (by rw [len_of Sa2 Na2]; exact k)) ?_
  refine gb (mkF m 6 #[vr a0, vi 1, vi 0, .unset] []) (fun _ k => XS.istoreN X1.here hx rfl (hb hby d27_5) rfl (l' := #[vr a0, vi 1, vi 0, .unset]) rfl k) ?_
  refine gb (mkF m 7 #[vr a0, vi 1, vi 0, .unset] [(.int 0)]) (fun _ k => XS.iloadN X1.here hx rfl (hb hby d27_6) rfl k) ?_
  refine gb (mkF m 10 #[vr a0, vi 1, vi 0, .unset] []) (fun _ k => XS.ifNo X1.here hx rfl (hb hby d27_7) rfl ((if0 _ _).trans (flt (by decide : ¬ ((0 : Int32) < (0 : Int32)))).2.2.1) k) ?_
  refine gb (mkF m 11 #[vr a0, vi 1, vi 0, .unset] [(.ref a0)]) (fun _ k => XS.aloadN X1.here hx rfl (hb hby d27_10) rfl rfl k) ?_
  obtain ⟨T3, X3, e3, st3⟩ := getF X1 hx hZ hown (host := "") (Or.inl (hW hw 31 rfl)) Via.refl e1 pf1 (g := (mkF m 11 #[vr a0, vi 1, vi 0, .unset] [(.ref a0)])) rfl rfl (hb hby d27_11)
  refine gb (mkF m 14 #[vr a0, vi 1, vi 0, .unset] [(.ref wa)]) st3 ?_
  obtain ⟨T4, X4, e4, st4⟩ := getS2 X3 hx hZ hown (host := "") (Or.inl (hW hw 30 rfl)) Via.refl e3 (Sta.ext O.2 W.1) (g := (mkF m 14 #[vr a0, vi 1, vi 0, .unset] [(.ref wa)])) rfl (hb hby d27_14)
  refine gb (mkF m 17 #[vr a0, vi 1, vi 0, .unset] [(.ref wa), (.ref wa)]) st4 ?_
  refine gb (mkF m 45 #[vr a0, vi 1, vi 0, .unset] []) (fun _ k => Jvm.RoadKit.acmp (g := (mkF m 17 #[vr a0, vi 1, vi 0, .unset] [(.ref wa), (.ref wa)])) X4 hx rfl rfl rfl (pc0 := 17) (pc' := 45) (same := true) rfl (hb hby d27_17) rfl (decide_eq_true (congrArg Value.ref rfl)) (by decide) (by decide) k) ?_
  refine gb (mkF m 46 #[vr a0, vi 1, vi 0, .unset] [(.ref a0)]) (fun _ k => XS.aloadN X4.here hx rfl (hb hby d27_45) rfl rfl k) ?_
  refine gb (mkF m 48 #[vr a0, vi 1, vi 0, .unset] [(.int 10), (.ref a0)]) (fun _ k => XS.bipush X4.here hx rfl (hb hby d27_46) k) ?_
  refine gb (mkF m 49 #[vr a0, vi 1, vi 0, .unset] [(.int 1), (.int 10), (.ref a0)]) (fun _ k => XS.iloadN X4.here hx rfl (hb hby d27_48) rfl k) ?_
  obtain ⟨_, _, ⟨T5, L5, k5, n5⟩, -, X5, ⟨Lc5, hQ5, l5, y5, z5⟩, st5⟩ := callS X4 hx (y := mq0) hown (mvT hZ (hW hw 183 rfl)) (mvT hZ (hW hw 184 rfl)) (mvT hZ (hW hw 185 rfl)) (mvT hZ (hW hw 186 rfl)) (by decide) (backOf (W := 1) (rm28g l Z a0' hw []  wa wb wc wd we ka kc G1 h0 n0 O W ) hZ (hW hw 186 rfl) (hW hw 185 rfl) (by decide) (by decide)) (g := (mkF m 49 #[vr a0, vi 1, vi 0, .unset] [(.int 1), (.int 10), (.ref a0)])) rfl (by rw [hml]; rfl) (argsL := [(.int 10), (.int 1)]) (rest := [(.ref a0)]) (lenOf pd24 rfl) rfl (Nat.le_of_eq rfl) (hb hby d27_49) (fun _ _ => ⟨rfl, e4, (by decide : 0 + 0 ≤ _), (by decide : 0 + 0 ≤ _)⟩)
  dsimp only [Pt.U, Pt.locs, Pt.cells, Pt.slots] at X5 l5 y5 z5 st5 hQ5
  subst l5 y5 z5
  obtain ⟨rfl, N5q, e5⟩ := hQ5
  have N5 := Fr.app N0 N5q
  refine gb (mkF m 52 #[vr a0, vi 1, vi 0, .unset] [(.int 10), (.ref a0)]) st5 ?_
  obtain ⟨T6, h6, k6, X6, e6, E6, A6, Ov6, st6⟩ := newRX X5 hx hZ hown (hW hw 187 rfl) (hW hw 188 rfl) rfl e5 (g := (mkF m 52 #[vr a0, vi 1, vi 0, .unset] [(.int 10), (.ref a0)])) rfl (hb hby d27_52) rfl (by decide) (cap := 10) (by decide) (by decide) (by decide) (by decide)
  obtain ⟨b6, g6⟩ : ∃ z, z = (h0).size := ⟨_, rfl⟩
  rw [← g6] at A6 st6
  have gb6 : n0 ≤ b6 := Nat.le_trans (Nat.le_trans (Nat.le_of_eq O.1.symm) O.2.1) (Nat.le_of_eq g6.symm)
  have sb6 : h0.size ≤ b6 := Nat.le_trans (Keep.refl h0 [a0]).1 (Nat.le_of_eq g6.symm)
  have ne6_0 : a0 ≠ b6 := Nat.ne_of_lt (Nat.lt_of_lt_of_le pf0.lt (Nat.le_of_eq g6.symm))
  have ne6_2 : fa ≠ b6 := Nat.ne_of_lt (Nat.lt_of_lt_of_le pf5.lt (Nat.le_of_eq g6.symm))
  have ne6_4 : wa ≠ b6 := Nat.ne_of_lt (Nat.lt_of_lt_of_le (Arv.ext W.2.1 O.2).lt (Nat.le_of_eq g6.symm))
  have ne6_6 : wc ≠ b6 := Nat.ne_of_lt (Nat.lt_of_lt_of_le (Arv.ext W.2.2.2.2.2.1 O.2).lt (Nat.le_of_eq g6.symm))
  have ne6_8 : wb ≠ b6 := Nat.ne_of_lt (Nat.lt_of_lt_of_le (Exa.ext O.2 W.2.2.2.1).lt (Nat.le_of_eq g6.symm))
  have ne6_10 : wd ≠ b6 := Nat.ne_of_lt (Nat.lt_of_lt_of_le (Exa.ext O.2 W.2.2.2.2.2.2.2.1).lt (Nat.le_of_eq g6.symm))
  have V6 : Arv Z h6 b6 k6 oT (10 : Int32) [.null, .null, .null, .null, .null, .null, .null, .null, .null, .null] .null := (Arv.new A6 (by decide)).pad (pad_rep [] .null 10)
  rw [← g6] at Ov6
  refine gb (mkF m 55 #[vr a0, vi 1, vi 0, .unset] [(.ref b6), (.ref a0)]) st6 ?_
  refine gb (mkF m 56 #[vr a0, vi 1, vi 0, .unset] [(.ref b6), (.ref a0), (.ref b6)]) (fun _ k => XS.dupX1 X6.here hx rfl (hb hby d27_55) rfl rfl rfl k) ?_
  have f7 := (Exa.ext E6 pf0)
  have f8 := (Fld.ext E6 pf1)
  obtain ⟨T9, h9, X9, e9, W9, st9⟩ := putF X6 hx hZ hown (host := "") (Or.inl (hW hw 31 rfl)) Via.refl e6 f8 f7 (Or.inl (hW hw 32 rfl)) (hW hw 10 rfl) (ty := (.array oT)) (by decide) rfl rfl (g := (mkF m 56 #[vr a0, vi 1, vi 0, .unset] [(.ref b6), (.ref a0), (.ref b6)])) rfl rfl (hb hby d27_56)
  have N9 := Fr.snoc X9 N5 gp_a0
  have Fw9 := Fld.same W9 f8
  refine gb (mkF m 59 #[vr a0, vi 1, vi 0, .unset] [(.ref b6)]) st9 ?_
  have K10 := (((Keep.refl h0 [a0]).ext E6).wr W9 (Or.inl (List.mem_of_getElem? (i := 0) rfl)))
  have f11 := (Fld.other W9 (Fld.ext E6 pf3) (Or.inr (slot_ne (Or.inl (hW hw 29 rfl)) (Or.inl (hW hw 32 rfl)) (by decide) (t := .int) (t' := (.array oT)) (by decide) (by decide))))
  have f12 := (Fld.other W9 (Fld.ext E6 pf2) (Or.inr (slot_ne (Or.inl (hW hw 78 rfl)) (Or.inl (hW hw 32 rfl)) (by decide) (t := .int) (t' := (.array oT)) (by decide) (by decide))))
  have f13 := (Arv.other V6 W9 (Ne.symm ne6_0))
  have f14 := (Exa.wr W9 Ov6.2)
  exact Gl.outA X9 hx hk Bd.returns rfl rfl (hb hby d27_59) (Eq.mpr (congrArg (fun hh => Q27g Z a0 fa mc wa wb wc wd we ka kc G1 h0 n0 _ hh _) e9) (show Q27g Z a0 fa mc wa wb wc wd we ka kc G1 h0 n0 _ h9 _ from ⟨b6, k6, rfl, N9, K10, f11, Fw9, f12, f13, f14, ⟨gb6, Ov6.1, ne6_0, ne6_2, sb6⟩⟩)) (by decide) (by decide)
theorem d26_0 : decode jdk_38_method_7_code 0 = .ok (.aload_n 0, 1) := by decide +kernel
theorem d26_1 : decode jdk_38_method_7_code 1 = .ok (.aload_n 0, 1) := by decide +kernel
theorem d26_2 : decode jdk_38_method_7_code 2 = .ok (.getfield 48, 3) := by decide +kernel
theorem d26_5 : decode jdk_38_method_7_code 5 = .ok (.iconst 1, 1) := by decide +kernel
theorem d26_6 : decode jdk_38_method_7_code 6 = .ok (.iadd, 1) := by decide +kernel
theorem d26_7 : decode jdk_38_method_7_code 7 = .ok (.invokevirtual 69, 3) := by decide +kernel
theorem d26_10 : decode jdk_38_method_7_code 10 = .ok (.areturn, 1) := by decide +kernel
theorem pd32 : parseMethodDescriptor "(I)[Ljava/lang/Object;" = some ⟨[.int], some (.array oT)⟩ := by decide +kernel
theorem ef26g (m : MethodId) (x0 : Addr) : entryFrame m #[(.ref x0)] 1 = mkF m 0 #[.val (.ref x0)] [] := by first | (simp [entryFrame, mkF, argsToLocals, Value.category]; done) | rfl
def Q26g (Z : State) (a0 : Addr) (fa : Addr) (mc : Int32) (wa wb wc wd we : Addr) (ka kc : ClassId) (G1 : Int32) (h0 : Heap) (n0 : Nat) (v : Option Value) (h : Heap) (L : List Loc) : Prop := ∃ (b : Addr), ∃ (kb : ClassId), v = some (.ref b) ∧ Fr n0 L ∧ Keep h0 h [a0] ∧ Fld Z h a0 "java/util/AbstractList" "modCount" "I" (.int mc) ∧ Fld Z h a0 sA "elementData" sO (.ref b) ∧ Fld Z h a0 sA "size" "I" (.int 0) ∧ Arv Z h b kb oT (10 : Int32) [.null, .null, .null, .null, .null, .null, .null, .null, .null, .null] .null ∧ Exa Z h b sO ∧ n0 ≤ b ∧ Ovr Z kb "java/lang/Object" ∧ a0 ≠ b ∧ fa ≠ b ∧ h0.size ≤ b
theorem rm26g (l : Launch) (Z : State) (a0' : Array Value) (hw : ∀ d ∈ tables_1, d.before a0' Z = true) (ws : List Jvm.Cond) (a0 : Addr) (fa : Addr) (mc : Int32) (wa wb wc wd we : Addr) (ka kc : ClassId) (G1 : Int32) (h0 : Heap) (n0 : Nat) (O : Old Z n0 h0) (W : Wd Z wa wb wc wd we ka kc G1) (pf0 : Exa Z h0 a0 sA) (pf1 : Fld Z h0 a0 sA "elementData" sO (.ref wa)) (pf2 : Fld Z h0 a0 sA "size" "I" (.int 0)) (pf3 : Fld Z h0 a0 "java/util/AbstractList" "modCount" "I" (.int mc)) (gp_a0 : n0 ≤ a0) (pf5 : Exa Z h0 fa sF) :
    MetFree l mq2 (head1 (Jvm.Cond.code mq2 jdk_38_method_7_code 1 (some (.array oT)) :: ws) ({ frames := 2, cells := 1, slots := 10, locals := 29 } : Room)) (fun a U => a = #[(.ref a0)] ∧ Z.Warmed39 U.vm ∧ U.heap = h0) (fun _ _ _ _ _ => True) (fun _ U o U' => ∃ v L, o = .returned v ∧ Q26g Z a0 fa mc wa wb wc wd we ka kc G1 h0 n0 v U'.heap L ∧ FrameEnd U o U' L ({ frames := 2, cells := 1, slots := 10, locals := 29 } : Room).cells ({ frames := 2, cells := 1, slots := 10, locals := 29 } : Room).slots) := by
  refine MetFree.of_bodySF (plainFor_of_name pn0) hisR ?_
  intro p e s m args below meth c s₁ Bd hml0 hP hK
  obtain ⟨rfl, hZ, hh⟩ := hP
  have hx := Bd.exec
  have hby := Bd.bytes
  have hml : c.maxLocals = 1 := hml0
  have hown : s.vm.findClass sA = some m.cls := findClass_of_methodNamed Bd.named
  have hnm := (name_of_methodNamed Bd.named Bd.method).1
  have hk := Bd.notSynchronized
  have X0 : Stand p l e ({ frames := 2, cells := 1, slots := 10, locals := 29 } : Room) s m #[(.ref a0)] below meth c s₁ [] 0 0 := Stand.of_body Bd
  have hh2 := hh
  have e0 : s₁.heap = h0 := by rw [← hh, Bd.state]; rfl
  have N0 := Fr.nil n0
  show Gl p e below (Pos 1 10 (Q26g Z a0 fa mc wa wb wc wd we ka kc G1 h0 n0) s) s₁ _
  refine Gl.cast (ef26g m a0) ?_
  refine gb (mkF m 1 #[vr a0] [(.ref a0)]) (fun _ k => XS.aloadN X0.here hx rfl (hb hby d26_0) rfl rfl k) ?_
  refine gb (mkF m 2 #[vr a0] [(.ref a0), (.ref a0)]) (fun _ k => XS.aloadN X0.here hx rfl (hb hby d26_1) rfl rfl k) ?_
  obtain ⟨T1, X1, e1, st1⟩ := getF X0 hx hZ hown (host := "") (Or.inl (hW hw 77 rfl)) Via.refl e0 pf2 (g := (mkF m 2 #[vr a0] [(.ref a0), (.ref a0)])) rfl rfl (hb hby d26_2)
  refine gb (mkF m 5 #[vr a0] [(.int 0), (.ref a0)]) st1 ?_
  refine gb (mkF m 6 #[vr a0] [(.int 1), (.int 0), (.ref a0)]) (fun _ k => XS.iconst X1.here hx rfl (hb hby d26_5) k) ?_
  refine gb (mkF m 7 #[vr a0] [(.int 1), (.ref a0)]) (fun _ k => XS.iadd X1.here hx rfl (hb hby d26_6) rfl k) ?_
  obtain ⟨cq2, q2, q2'⟩ := (pf0).cell
  obtain ⟨_, _, ⟨T2, L2, k2, n2⟩, -, X2, ⟨Lc2, hQ2, l2, y2, z2⟩, st2⟩ := X1.privateBack hx (y := mq1) hown (mvT hZ (hW hw 178 rfl)) (mvT hZ (hW hw 179 rfl)) (mvT hZ (hW hw 181 rfl)) (Cond.privateMethod_at (mvP hZ (hW hw 180 rfl) (args := #[]))) (mvT hZ (hW hw 182 rfl)) (by decide) (backOf (W := 0) (rm27g l Z a0' hw [] a0 fa mc wa wb wc wd we ka kc G1 h0 n0 O W pf0 pf1 pf2 pf3 gp_a0 pf5) hZ (hW hw 182 rfl) (hW hw 11 rfl) (by decide) (by decide)) (g := (mkF m 7 #[vr a0] [(.int 1), (.ref a0)])) rfl (by rw [hml]; rfl) (Steps.refl _) (a := a0) (by rw [e1]; exact q2) q2' (argsL := [(.int 1)]) (rest := []) (lenOf pd32 rfl) rfl (Nat.le_of_eq rfl) (hb hby d26_7) (fun _ _ => ⟨rfl, e1, (by decide : 0 + 1 ≤ _), (by decide : 0 + 10 ≤ _)⟩)
  dsimp only [Pt.U, Pt.locs, Pt.cells, Pt.slots] at X2 l2 y2 z2 st2 hQ2
  subst l2 y2 z2
  obtain ⟨b_2, kb_2, rfl, N2q, Kc2, fc2_0, fc2_1, fc2_2, fc2_3, fc2_4, fc2_5⟩ := hQ2
  have N2 := Fr.app N0 N2q
  refine gb (mkF m 10 #[vr a0] [(.ref b_2)]) (fun _ k => st2.trans k) ?_
  have K3 := ((Keep.refl h0 [a0]).trans Kc2 (allS (Or.inl (List.mem_of_getElem? (i := 0) rfl)) all0))
  exact Gl.outA X2 hx hk Bd.returns rfl rfl (hb hby d26_10) ⟨b_2, kb_2, rfl, N2, K3, fc2_0, fc2_1, fc2_2, fc2_3, fc2_4, ⟨fc2_5.1, fc2_5.2.1, fc2_5.2.2.1, fc2_5.2.2.2.1, (Nat.le_trans (Keep.refl h0 [a0]).1 fc2_5.2.2.2.2)⟩⟩ (by decide) (by decide)
theorem sz10 {z : Int32} (h : ¬ z < 0 ∧ z < 10) : ¬ z = (10 : Int32) := fun q => by rw [q] at h; exact absurd h.2 (by decide)
theorem sz100 {z : Int32} (h : ¬ z < 0 ∧ z < 10) : z < (100 : Int32) := by
  have a : (10 : Int32).toInt = 10 := by decide
  have b : (100 : Int32).toInt = 100 := by decide
  have c := h.2
  rw [Int32.lt_iff_toInt_lt, a] at c
  rw [Int32.lt_iff_toInt_lt, b]
  omega
theorem szl {z : Int32} {vv : List Value} (h : ¬ z < 0 ∧ z < 10) (hl : vv.length = 10) : z.toNatClampNeg < vv.length := by
  have q := nat_of h.1
  have c := h.2
  have a : (10 : Int32).toInt = 10 := by decide
  rw [Int32.lt_iff_toInt_lt, a] at c
  omega
theorem d25_0 : decode jdk_38_method_24_code 0 = .ok (.iload_n 3, 1) := by decide +kernel
theorem d25_1 : decode jdk_38_method_24_code 1 = .ok (.aload_n 2, 1) := by decide +kernel
theorem d25_2 : decode jdk_38_method_24_code 2 = .ok (.arraylength, 1) := by decide +kernel
theorem d25_3 : decode jdk_38_method_24_code 3 = .ok (.if_icmp .ne 8, 3) := by decide +kernel
theorem d25_6 : decode jdk_38_method_24_code 6 = .ok (.aload_n 0, 1) := by decide +kernel
theorem d25_7 : decode jdk_38_method_24_code 7 = .ok (.invokevirtual 129, 3) := by decide +kernel
theorem d25_10 : decode jdk_38_method_24_code 10 = .ok (.astore_n 2, 1) := by decide +kernel
theorem d25_11 : decode jdk_38_method_24_code 11 = .ok (.aload_n 2, 1) := by decide +kernel
theorem d25_12 : decode jdk_38_method_24_code 12 = .ok (.iload_n 3, 1) := by decide +kernel
theorem d25_13 : decode jdk_38_method_24_code 13 = .ok (.aload_n 1, 1) := by decide +kernel
theorem d25_14 : decode jdk_38_method_24_code 14 = .ok (.aastore, 1) := by decide +kernel
theorem d25_15 : decode jdk_38_method_24_code 15 = .ok (.aload_n 0, 1) := by decide +kernel
theorem d25_16 : decode jdk_38_method_24_code 16 = .ok (.iload_n 3, 1) := by decide +kernel
theorem d25_17 : decode jdk_38_method_24_code 17 = .ok (.iconst 1, 1) := by decide +kernel
theorem d25_18 : decode jdk_38_method_24_code 18 = .ok (.iadd, 1) := by decide +kernel
theorem d25_19 : decode jdk_38_method_24_code 19 = .ok (.putfield 48, 3) := by decide +kernel
theorem d25_22 : decode jdk_38_method_24_code 22 = .ok (.return_, 1) := by decide +kernel
theorem pd50 : parseMethodDescriptor "()[Ljava/lang/Object;" = some ⟨[], some (.array oT)⟩ := by decide +kernel
theorem ef250 (m : MethodId) (x0 x1 x2 : Addr) (x3 : Int32) : entryFrame m #[(.ref x0), (.ref x1), (.ref x2), (.int x3)] 4 = mkF m 0 #[.val (.ref x0), .val (.ref x1), .val (.ref x2), .val (.int x3)] [] := by first | (simp [entryFrame, mkF, argsToLocals, Value.category]; done) | rfl
def Q250 (Z : State) (a0 : Addr) (a1 : Addr) (wa : Addr) (fa : Addr) (mc : Int32) (wa wb wc wd we : Addr) (ka kc : ClassId) (G1 : Int32) (h0 : Heap) (n0 : Nat) (v : Option Value) (h : Heap) (L : List Loc) : Prop := ∃ (b : Addr), ∃ (kb : ClassId), v = none ∧ Fr n0 L ∧ Keep h0 h [a0] ∧ Fld Z h a0 sA "elementData" sO (.ref b) ∧ Fld Z h a0 sA "size" "I" (.int 1) ∧ Fld Z h a0 "java/util/AbstractList" "modCount" "I" (.int mc) ∧ Arv Z h b kb oT (10 : Int32) [(.ref a1), .null, .null, .null, .null, .null, .null, .null, .null, .null] .null ∧ Exa Z h b sO ∧ n0 ≤ b ∧ Ovr Z kb "java/lang/Object" ∧ a0 ≠ b ∧ fa ≠ b ∧ h0.size ≤ b
theorem rm250 (l : Launch) (Z : State) (a0' : Array Value) (hw : ∀ d ∈ tables_1, d.before a0' Z = true) (ws : List Jvm.Cond) (a0 : Addr) (a1 : Addr) (wa : Addr) (fa : Addr) (mc : Int32) (wa wb wc wd we : Addr) (ka kc : ClassId) (G1 : Int32) (h0 : Heap) (n0 : Nat) (O : Old Z n0 h0) (W : Wd Z wa wb wc wd we ka kc G1) (pf0 : Exa Z h0 a0 sA) (pf1 : Fld Z h0 a0 sA "elementData" sO (.ref wa)) (pf2 : Fld Z h0 a0 sA "size" "I" (.int 0)) (pf3 : Fld Z h0 a0 "java/util/AbstractList" "modCount" "I" (.int mc)) (gp_a0 : n0 ≤ a0) (pf5 : Exa Z h0 fa sF) (pf6 : Exa Z h0 a1 sI) :
    MetFree l mq3 (head1 (Jvm.Cond.code mq3 jdk_38_method_24_code 4 none :: ws) ({ frames := 3, cells := 1, slots := 10, locals := 41 } : Room)) (fun a U => a = #[(.ref a0), (.ref a1), (.ref wa), (.int 0)] ∧ Z.Warmed39 U.vm ∧ U.heap = h0) (fun _ _ _ _ _ => True) (fun _ U o U' => ∃ v L, o = .returned v ∧ Q250 Z a0 a1 wa fa mc wa wb wc wd we ka kc G1 h0 n0 v U'.heap L ∧ FrameEnd U o U' L ({ frames := 3, cells := 1, slots := 10, locals := 41 } : Room).cells ({ frames := 3, cells := 1, slots := 10, locals := 41 } : Room).slots) := by
  refine MetFree.of_bodySF (plainFor_of_name pn0) hisR ?_
  intro p e s m args below meth c s₁ Bd hml0 hP hK
  obtain ⟨rfl, hZ, hh⟩ := hP
  have hx := Bd.exec
  have hby := Bd.bytes
  have hml : c.maxLocals = 4 := hml0
  have hown : s.vm.findClass sA = some m.cls := findClass_of_methodNamed Bd.named
  have hnm := (name_of_methodNamed Bd.named Bd.method).1
  have hk := Bd.notSynchronized
  have X0 : Stand p l e ({ frames := 3, cells := 1, slots := 10, locals := 41 } : Room) s m #[(.ref a0), (.ref a1), (.ref wa), (.int 0)] below meth c s₁ [] 0 0 := Stand.of_body Bd
  have hh2 := hh
  have e0 : s₁.heap = h0 := by rw [← hh, Bd.state]; rfl
  have N0 := Fr.nil n0
  show Gl p e below (Pos 1 10 (Q250 Z a0 a1 wa fa mc wa wb wc wd we ka kc G1 h0 n0) s) s₁ _
  refine Gl.cast (ef250 m a0 a1 wa (0 : Int32)) ?_
  refine gb (mkF m 1 #[vr a0, vr a1, vr wa, vi 0] [(.int 0)]) (fun _ k => XS.iloadN X0.here hx rfl (hb hby d25_0) rfl k) ?_
  refine gb (mkF m 2 #[vr a0, vr a1, vr wa, vi 0] [(.ref wa), (.int 0)]) (fun _ k => XS.aloadN X0.here hx rfl (hb hby d25_1) rfl rfl k) ?_
  obtain ⟨cl1, Ar1, qa1, Sa1, Na1, Ha1, Ga1⟩ := id (Arv.ext W.2.1 O.2)
  refine gb (mkF m 3 #[vr a0, vr a1, vr wa, vi 0] [(.int 0), (.int 0)]) (fun t k => X0.arraylength hx (by rw [e0]; exact Ar1.1) (State.isArrayOf_alike hZ.alike Ar1.2.1) (g := (mkF m 2 #[vr a0, vr a1, vr wa, vi 0] [(.ref wa), (.int 0)])) rfl rfl (hb hby d25_2) t (by rw [len_of Sa1 Na1]; exact k)) ?_
  refine gb (mkF m 6 #[vr a0, vr a1, vr wa, vi 0] []) (fun _ k => XS.icmpNo X0.here hx rfl (hb hby d25_3) rfl (teq (by decide : (0 : Int32) = (0 : Int32))).2 k) ?_
  refine gb (mkF m 7 #[vr a0, vr a1, vr wa, vi 0] [(.ref a0)]) (fun _ k => XS.aloadN X0.here hx rfl (hb hby d25_6) rfl rfl k) ?_
  obtain ⟨cq2, q2, q2'⟩ := (pf0).cell
  obtain ⟨_, _, ⟨T2, L2, k2, n2⟩, -, X2, ⟨Lc2, hQ2, l2, y2, z2⟩, st2⟩ := X0.privateBack hx (y := mq2) hown (mvT hZ (hW hw 173 rfl)) (mvT hZ (hW hw 174 rfl)) (mvT hZ (hW hw 176 rfl)) (Cond.privateMethod_at (mvP hZ (hW hw 175 rfl) (args := #[]))) (mvT hZ (hW hw 177 rfl)) (by decide) (backOf (W := 0) (rm26g l Z a0' hw [] a0 fa mc wa wb wc wd we ka kc G1 h0 n0 O W pf0 pf1 pf2 pf3 gp_a0 pf5) hZ (hW hw 177 rfl) (hW hw 11 rfl) (by decide) (by decide)) (g := (mkF m 7 #[vr a0, vr a1, vr wa, vi 0] [(.ref a0)])) rfl (by rw [hml]; rfl) (Steps.refl _) (a := a0) (by rw [e0]; exact q2) q2' (argsL := []) (rest := []) (lenOf pd50 rfl) rfl (Nat.le_of_eq rfl) (hb hby d25_7) (fun _ _ => ⟨rfl, e0, (by decide : 0 + 1 ≤ _), (by decide : 0 + 10 ≤ _)⟩)
  dsimp only [Pt.U, Pt.locs, Pt.cells, Pt.slots] at X2 l2 y2 z2 st2 hQ2
  subst l2 y2 z2
  obtain ⟨b_2, kb_2, rfl, N2q, Kc2, fc2_0, fc2_1, fc2_2, fc2_3, fc2_4, fc2_5⟩ := hQ2
  have N2 := Fr.app N0 N2q
  refine gb (mkF m 10 #[vr a0, vr a1, vr wa, vi 0] [(.ref b_2)]) (fun _ k => st2.trans k) ?_
  refine gb (mkF m 11 #[vr a0, vr a1, vr b_2, vi 0] []) (fun _ k => XS.astoreN X2.here hx rfl (hb hby d25_10) rfl rfl (l' := #[vr a0, vr a1, vr b_2, vi 0]) rfl k) ?_
  refine gb (mkF m 12 #[vr a0, vr a1, vr b_2, vi 0] [(.ref b_2)]) (fun _ k => XS.aloadN X2.here hx rfl (hb hby d25_11) rfl rfl k) ?_
  refine gb (mkF m 13 #[vr a0, vr a1, vr b_2, vi 0] [(.int 0), (.ref b_2)]) (fun _ k => XS.iloadN X2.here hx rfl (hb hby d25_12) rfl k) ?_
  refine gb (mkF m 14 #[vr a0, vr a1, vr b_2, vi 0] [(.ref a1), (.int 0), (.ref b_2)]) (fun _ k => XS.aloadN X2.here hx rfl (hb hby d25_13) rfl rfl k) ?_
  obtain ⟨cl3, Ar3, qa3, Sa3, Na3, Ha3, Ga3⟩ := id fc2_3
  have hin4 : ¬ ((0 : Int32) < 0 ∨ cl3.slots.size ≤ ((0 : Int32)).toNatClampNeg) := inb_of Sa3 ⟨by decide, by decide⟩
  have f5 := (Exa.keep pf6 Kc2)
  obtain ⟨T4, h4, X4, e4, W4, st4⟩ := stR X2 hx hZ rfl Ar3 (j := (0 : Int32)) hin4 rfl (Sto.ofV Ar3 qa3 fc2_5.2.1 (Ins.of_exa f5 (hW hw 189 rfl))) (g := (mkF m 14 #[vr a0, vr a1, vr b_2, vi 0] [(.ref a1), (.int 0), (.ref b_2)])) rfl rfl (hb hby d25_14)
  have V4 : Arv Z h4 b_2 kb_2 oT (10 : Int32) [(.ref a1), .null, .null, .null, .null, .null, .null, .null, .null, .null] .null := Arv.set Ar3 qa3 Sa3 Na3 Ha3 Ga3 rfl W4 0 rfl (Nat.le_of_ble_eq_true rfl)
  have N4 := Fr.snoc X4 N2 fc2_5.1
  refine gb (mkF m 15 #[vr a0, vr a1, vr b_2, vi 0] []) st4 ?_
  refine gb (mkF m 16 #[vr a0, vr a1, vr b_2, vi 0] [(.ref a0)]) (fun _ k => XS.aloadN X4.here hx rfl (hb hby d25_15) rfl rfl k) ?_
  refine gb (mkF m 17 #[vr a0, vr a1, vr b_2, vi 0] [(.int 0), (.ref a0)]) (fun _ k => XS.iloadN X4.here hx rfl (hb hby d25_16) rfl k) ?_
  refine gb (mkF m 18 #[vr a0, vr a1, vr b_2, vi 0] [(.int 1), (.int 0), (.ref a0)]) (fun _ k => XS.iconst X4.here hx rfl (hb hby d25_17) k) ?_
  refine gb (mkF m 19 #[vr a0, vr a1, vr b_2, vi 0] [(.int 1), (.ref a0)]) (fun _ k => XS.iadd X4.here hx rfl (hb hby d25_18) rfl k) ?_
  have f6 := (Exa.wr W4 (Exa.keep pf0 Kc2))
  have f7 := (Fld.other W4 fc2_2 (Or.inl fc2_5.2.2.1))
  obtain ⟨T8, h8, X8, e8, W8, st8⟩ := putF X4 hx hZ hown (host := "") (Or.inl (hW hw 77 rfl)) Via.refl e4 f7 f6 (Or.inl (hW hw 78 rfl)) (hW hw 10 rfl) (ty := .int) (by decide) rfl rfl (g := (mkF m 19 #[vr a0, vr a1, vr b_2, vi 0] [(.int 1), (.ref a0)])) rfl rfl (hb hby d25_19)
  have N8 := Fr.snoc X8 N4 gp_a0
  have Fw8 := Fld.same W8 f7
  refine gb (mkF m 22 #[vr a0, vr a1, vr b_2, vi 0] []) st8 ?_
  have K9 := ((((Keep.refl h0 [a0]).trans Kc2 (allS (Or.inl (List.mem_of_getElem? (i := 0) rfl)) all0)).wr W4 (Or.inr (Nat.le_trans (Keep.refl h0 [a0]).1 fc2_5.2.2.2.2))).wr W8 (Or.inl (List.mem_of_getElem? (i := 0) rfl)))
  have f10 := (Fld.other W8 (Fld.other W4 fc2_1 (Or.inl fc2_5.2.2.1)) (Or.inr (slot_ne (Or.inl (hW hw 32 rfl)) (Or.inl (hW hw 78 rfl)) (by decide) (t := (.array oT)) (t' := .int) (by decide) (by decide))))
  have f11 := (Fld.other W8 (Fld.other W4 fc2_0 (Or.inl fc2_5.2.2.1)) (Or.inr (slot_ne (Or.inl (hW hw 29 rfl)) (Or.inl (hW hw 78 rfl)) (by decide) (t := .int) (t' := .int) (by decide) (by decide))))
  have f12 := (Arv.other V4 W8 (Ne.symm fc2_5.2.2.1))
  have f13 := (Exa.wr W8 (Exa.wr W4 fc2_4))
  exact Gl.outV X8 hx hk Bd.returns (hb hby d25_22) (Eq.mpr (congrArg (fun hh => Q250 Z a0 a1 wa fa mc wa wb wc wd we ka kc G1 h0 n0 _ hh _) e8) (show Q250 Z a0 a1 wa fa mc wa wb wc wd we ka kc G1 h0 n0 _ h8 _ from ⟨b_2, kb_2, rfl, N8, K9, f10, Fw8, f11, f12, f13, ⟨fc2_5.1, fc2_5.2.1, fc2_5.2.2.1, fc2_5.2.2.2.1, (Nat.le_trans (Keep.refl h0 [a0]).1 fc2_5.2.2.2.2)⟩⟩)) (by decide) (by decide)
theorem d24_0 : decode jdk_38_method_25_code 0 = .ok (.aload_n 0, 1) := by decide +kernel
theorem d24_1 : decode jdk_38_method_25_code 1 = .ok (.dup, 1) := by decide +kernel
theorem d24_2 : decode jdk_38_method_25_code 2 = .ok (.getfield 63, 3) := by decide +kernel
theorem d24_5 : decode jdk_38_method_25_code 5 = .ok (.iconst 1, 1) := by decide +kernel
theorem d24_6 : decode jdk_38_method_25_code 6 = .ok (.iadd, 1) := by decide +kernel
theorem d24_7 : decode jdk_38_method_25_code 7 = .ok (.putfield 63, 3) := by decide +kernel
theorem d24_10 : decode jdk_38_method_25_code 10 = .ok (.aload_n 0, 1) := by decide +kernel
theorem d24_11 : decode jdk_38_method_25_code 11 = .ok (.aload_n 1, 1) := by decide +kernel
theorem d24_12 : decode jdk_38_method_25_code 12 = .ok (.aload_n 0, 1) := by decide +kernel
theorem d24_13 : decode jdk_38_method_25_code 13 = .ok (.getfield 9, 3) := by decide +kernel
theorem d24_16 : decode jdk_38_method_25_code 16 = .ok (.aload_n 0, 1) := by decide +kernel
theorem d24_17 : decode jdk_38_method_25_code 17 = .ok (.getfield 48, 3) := by decide +kernel
theorem d24_20 : decode jdk_38_method_25_code 20 = .ok (.invokevirtual 131, 3) := by decide +kernel
theorem d24_23 : decode jdk_38_method_25_code 23 = .ok (.iconst 1, 1) := by decide +kernel
theorem d24_24 : decode jdk_38_method_25_code 24 = .ok (.ireturn, 1) := by decide +kernel
theorem pd66 : parseMethodDescriptor "(Ljava/lang/Object;[Ljava/lang/Object;I)V" = some ⟨[oT, (.array oT), .int], none⟩ := by decide +kernel
theorem ef240 (m : MethodId) (x0 x1 : Addr) : entryFrame m #[(.ref x0), (.ref x1)] 2 = mkF m 0 #[.val (.ref x0), .val (.ref x1)] [] := by first | (simp [entryFrame, mkF, argsToLocals, Value.category]; done) | rfl
def fn240 (wa wb wc wd we : Addr) (ka kc : ClassId) (G1 : Int32) : Int32 := (1 : Int32)
def Q240 (Z : State) (a0 : Addr) (a1 : Addr) (fa : Addr) (mc : Int32) (wa wb wc wd we : Addr) (ka kc : ClassId) (G1 : Int32) (h0 : Heap) (n0 : Nat) (v : Option Value) (h : Heap) (L : List Loc) : Prop := ∃ (b : Addr), ∃ (kb : ClassId), v = some (.int (fn240  wa wb wc wd we ka kc G1)) ∧ Fr n0 L ∧ Keep h0 h [a0] ∧ Fld Z h a0 sA "elementData" sO (.ref b) ∧ Fld Z h a0 sA "size" "I" (.int 1) ∧ Fld Z h a0 "java/util/AbstractList" "modCount" "I" (.int (mc + (1 : Int32))) ∧ Arv Z h b kb oT (10 : Int32) [(.ref a1), .null, .null, .null, .null, .null, .null, .null, .null, .null] .null ∧ Exa Z h b sO ∧ n0 ≤ b ∧ Ovr Z kb "java/lang/Object" ∧ a0 ≠ b ∧ fa ≠ b ∧ h0.size ≤ b
theorem rm240 (l : Launch) (Z : State) (a0' : Array Value) (hw : ∀ d ∈ tables_1, d.before a0' Z = true) (ws : List Jvm.Cond) (a0 : Addr) (a1 : Addr) (fa : Addr) (mc : Int32) (wa wb wc wd we : Addr) (ka kc : ClassId) (G1 : Int32) (h0 : Heap) (n0 : Nat) (O : Old Z n0 h0) (W : Wd Z wa wb wc wd we ka kc G1) (pf0 : Exa Z h0 a0 sA) (pf1 : Fld Z h0 a0 sA "elementData" sO (.ref wa)) (pf2 : Fld Z h0 a0 sA "size" "I" (.int 0)) (pf3 : Fld Z h0 a0 "java/util/AbstractList" "modCount" "I" (.int mc)) (gp_a0 : n0 ≤ a0) (pf5 : Exa Z h0 fa sF) (pf6 : Exa Z h0 a1 sI) :
    MetFree l mq4 (head1 (Jvm.Cond.code mq4 jdk_38_method_25_code 2 (some .boolean) :: ws) ({ frames := 4, cells := 1, slots := 10, locals := 56 } : Room)) (fun a U => a = #[(.ref a0), (.ref a1)] ∧ Z.Warmed39 U.vm ∧ U.heap = h0) (fun _ _ _ _ _ => True) (fun _ U o U' => ∃ v L, o = .returned v ∧ Q240 Z a0 a1 fa mc wa wb wc wd we ka kc G1 h0 n0 v U'.heap L ∧ FrameEnd U o U' L ({ frames := 4, cells := 1, slots := 10, locals := 56 } : Room).cells ({ frames := 4, cells := 1, slots := 10, locals := 56 } : Room).slots) := by
  refine MetFree.of_bodySF (plainFor_of_name pn0) hisR ?_
  intro p e s m args below meth c s₁ Bd hml0 hP hK
  obtain ⟨rfl, hZ, hh⟩ := hP
  have hx := Bd.exec
  have hby := Bd.bytes
  have hml : c.maxLocals = 2 := hml0
  have hown : s.vm.findClass sA = some m.cls := findClass_of_methodNamed Bd.named
  have hnm := (name_of_methodNamed Bd.named Bd.method).1
  have hk := Bd.notSynchronized
  have X0 : Stand p l e ({ frames := 4, cells := 1, slots := 10, locals := 56 } : Room) s m #[(.ref a0), (.ref a1)] below meth c s₁ [] 0 0 := Stand.of_body Bd
  have hh2 := hh
  have e0 : s₁.heap = h0 := by rw [← hh, Bd.state]; rfl
  have N0 := Fr.nil n0
  show Gl p e below (Pos 1 10 (Q240 Z a0 a1 fa mc wa wb wc wd we ka kc G1 h0 n0) s) s₁ _
  refine Gl.cast (ef240 m a0 a1) ?_
  refine gb (mkF m 1 #[vr a0, vr a1] [(.ref a0)]) (fun _ k => XS.aloadN X0.here hx rfl (hb hby d24_0) rfl rfl k) ?_
  refine gb (mkF m 2 #[vr a0, vr a1] [(.ref a0), (.ref a0)]) (fun _ k => XS.dup X0.here hx rfl (hb hby d24_1) rfl rfl k) ?_
  obtain ⟨T1, X1, e1, st1⟩ := getF X0 hx hZ hown (host := "") (Or.inl (hW hw 166 rfl)) (Via.of (hW hw 167 rfl)) e0 pf3 (g := (mkF m 2 #[vr a0, vr a1] [(.ref a0), (.ref a0)])) rfl rfl (hb hby d24_2)
  refine gb (mkF m 5 #[vr a0, vr a1] [(.int mc), (.ref a0)]) st1 ?_
  refine gb (mkF m 6 #[vr a0, vr a1] [(.int 1), (.int mc), (.ref a0)]) (fun _ k => XS.iconst X1.here hx rfl (hb hby d24_5) k) ?_
  refine gb (mkF m 7 #[vr a0, vr a1] [(.int (mc + (1 : Int32))), (.ref a0)]) (fun _ k => XS.iadd X1.here hx rfl (hb hby d24_6) rfl k) ?_
  obtain ⟨T2, h2, X2, e2, W2, st2⟩ := putF X1 hx hZ hown (host := "") (Or.inl (hW hw 166 rfl)) (Via.of (hW hw 167 rfl)) e1 pf3 pf0 (Or.inl (hW hw 29 rfl)) (hW hw 10 rfl) (ty := .int) (by decide) rfl rfl (g := (mkF m 7 #[vr a0, vr a1] [(.int (mc + (1 : Int32))), (.ref a0)])) rfl rfl (hb hby d24_7)
  have N2 := Fr.snoc X2 N0 gp_a0
  have Fw2 := Fld.same W2 pf3
  refine gb (mkF m 10 #[vr a0, vr a1] []) st2 ?_
  refine gb (mkF m 11 #[vr a0, vr a1] [(.ref a0)]) (fun _ k => XS.aloadN X2.here hx rfl (hb hby d24_10) rfl rfl k) ?_
  refine gb (mkF m 12 #[vr a0, vr a1] [(.ref a1), (.ref a0)]) (fun _ k => XS.aloadN X2.here hx rfl (hb hby d24_11) rfl rfl k) ?_
  refine gb (mkF m 13 #[vr a0, vr a1] [(.ref a0), (.ref a1), (.ref a0)]) (fun _ k => XS.aloadN X2.here hx rfl (hb hby d24_12) rfl rfl k) ?_
  have f3 := (Fld.other W2 pf1 (Or.inr (slot_ne (Or.inl (hW hw 32 rfl)) (Or.inl (hW hw 29 rfl)) (by decide) (t := (.array oT)) (t' := .int) (by decide) (by decide))))
  obtain ⟨T4, X4, e4, st4⟩ := getF X2 hx hZ hown (host := "") (Or.inl (hW hw 31 rfl)) Via.refl e2 f3 (g := (mkF m 13 #[vr a0, vr a1] [(.ref a0), (.ref a1), (.ref a0)])) rfl rfl (hb hby d24_13)
  refine gb (mkF m 16 #[vr a0, vr a1] [(.ref wa), (.ref a1), (.ref a0)]) st4 ?_
  refine gb (mkF m 17 #[vr a0, vr a1] [(.ref a0), (.ref wa), (.ref a1), (.ref a0)]) (fun _ k => XS.aloadN X4.here hx rfl (hb hby d24_16) rfl rfl k) ?_
  have f5 := (Fld.other W2 pf2 (Or.inr (slot_ne (Or.inl (hW hw 78 rfl)) (Or.inl (hW hw 29 rfl)) (by decide) (t := .int) (t' := .int) (by decide) (by decide))))
  obtain ⟨T6, X6, e6, st6⟩ := getF X4 hx hZ hown (host := "") (Or.inl (hW hw 77 rfl)) Via.refl e4 f5 (g := (mkF m 17 #[vr a0, vr a1] [(.ref a0), (.ref wa), (.ref a1), (.ref a0)])) rfl rfl (hb hby d24_17)
  refine gb (mkF m 20 #[vr a0, vr a1] [(.int 0), (.ref wa), (.ref a1), (.ref a0)]) st6 ?_
  have f8 := (Exa.wr W2 pf0)
  have K9 := ((Keep.refl h0 [a0]).wr W2 (Or.inl (List.mem_of_getElem? (i := 0) rfl)))
  have f10 := (Exa.wr W2 pf5)
  have f11 := (Exa.wr W2 pf6)
  have O12 := (O.wr W2 gp_a0)
  obtain ⟨cq7, q7, q7'⟩ := (f8).cell
  obtain ⟨_, _, ⟨T7, L7, k7, n7⟩, -, X7, ⟨Lc7, hQ7, l7, y7, z7⟩, st7⟩ := X6.privateBack hx (y := mq3) hown (mvT hZ (hW hw 168 rfl)) (mvT hZ (hW hw 169 rfl)) (mvT hZ (hW hw 171 rfl)) (Cond.privateMethod_at (mvP hZ (hW hw 170 rfl) (args := #[]))) (mvT hZ (hW hw 172 rfl)) (by decide) (backOf (W := 0) (rm250 l Z a0' hw [] a0 a1 wa fa (mc + (1 : Int32)) wa wb wc wd we ka kc G1 h2 n0 O12 W f8 f3 f5 Fw2 gp_a0 f10 f11) hZ (hW hw 172 rfl) (hW hw 11 rfl) (by decide) (by decide)) (g := (mkF m 20 #[vr a0, vr a1] [(.int 0), (.ref wa), (.ref a1), (.ref a0)])) rfl (by rw [hml]; rfl) (Steps.refl _) (a := a0) (by rw [e6]; exact q7) q7' (argsL := [(.ref a1), (.ref wa), (.int 0)]) (rest := []) (lenOf pd66 rfl) rfl (Nat.le_of_eq rfl) (hb hby d24_20) (fun _ _ => ⟨rfl, e6, (by decide : 0 + 1 ≤ _), (by decide : 0 + 10 ≤ _)⟩)
  dsimp only [Pt.U, Pt.locs, Pt.cells, Pt.slots] at X7 l7 y7 z7 st7 hQ7
  subst l7 y7 z7
  obtain ⟨b_7, kb_7, rfl, N7q, Kc7, fc7_0, fc7_1, fc7_2, fc7_3, fc7_4, fc7_5⟩ := hQ7
  have N7 := Fr.app N2 N7q
  refine gb (mkF m 23 #[vr a0, vr a1] []) (fun _ k => st7.trans k) ?_
  refine gb (mkF m 24 #[vr a0, vr a1] [(.int 1)]) (fun _ k => XS.iconst X7.here hx rfl (hb hby d24_23) k) ?_
  have K13 := (K9.trans Kc7 (allS (Or.inl (List.mem_of_getElem? (i := 0) rfl)) all0))
  exact Gl.outN X7 hx hk (t := .boolean) Bd.returns (by simp) (hb hby d24_24) ⟨b_7, kb_7, (congrArg (fun z => some (Value.int z)) (show nar .boolean (1 : Int32) = fn240  wa wb wc wd we ka kc G1 by unfold fn240; try rfl)), N7, K13, fc7_0, fc7_1, fc7_2, fc7_3, fc7_4, ⟨fc7_5.1, fc7_5.2.1, fc7_5.2.2.1, fc7_5.2.2.2.1, (Nat.le_trans K9.1 fc7_5.2.2.2.2)⟩⟩ (by decide) (by decide)
theorem ef25s (m : MethodId) (x0 x1 x2 : Addr) (x3 : Int32) : entryFrame m #[(.ref x0), (.ref x1), (.ref x2), (.int x3)] 4 = mkF m 0 #[.val (.ref x0), .val (.ref x1), .val (.ref x2), .val (.int x3)] [] := by first | (simp [entryFrame, mkF, argsToLocals, Value.category]; done) | rfl
def Q25s (Z : State) (a0 : Addr) (a1 : Addr) (ea : Addr) (sz : Int32) (kk : ClassId) (vv : List Value) (mc : Int32) (wa wb wc wd we : Addr) (ka kc : ClassId) (G1 : Int32) (h0 : Heap) (n0 : Nat) (v : Option Value) (h : Heap) (L : List Loc) : Prop := v = none ∧ Fr n0 L ∧ Keep h0 h [a0, ea] ∧ Fld Z h a0 sA "elementData" sO (.ref ea) ∧ Fld Z h a0 sA "size" "I" (.int (sz + (1 : Int32))) ∧ Fld Z h a0 "java/util/AbstractList" "modCount" "I" (.int mc) ∧ Arv Z h ea kk oT (10 : Int32) (vv.set (sz).toNatClampNeg (.ref a1)) .null
theorem rm25s (l : Launch) (Z : State) (a0' : Array Value) (hw : ∀ d ∈ tables_1, d.before a0' Z = true) (ws : List Jvm.Cond) (a0 : Addr) (a1 : Addr) (ea : Addr) (sz : Int32) (kk : ClassId) (vv : List Value) (mc : Int32) (wa wb wc wd we : Addr) (ka kc : ClassId) (G1 : Int32) (h0 : Heap) (n0 : Nat) (O : Old Z n0 h0) (W : Wd Z wa wb wc wd we ka kc G1) (pf0 : Exa Z h0 a0 sA) (pf1 : Fld Z h0 a0 sA "elementData" sO (.ref ea)) (pf2 : Fld Z h0 a0 sA "size" "I" (.int sz)) (pf3 : Fld Z h0 a0 "java/util/AbstractList" "modCount" "I" (.int mc)) (pf4 : Arv Z h0 ea kk oT (10 : Int32) vv .null) (gp_a0 : n0 ≤ a0) (gp_ea : n0 ≤ ea) (np_a0_ea : a0 ≠ ea) (hl : vv.length = 10) (hs : ¬ sz < 0 ∧ sz < 10) (ov : Ovr Z kk "java/lang/Object") (pf11 : Exa Z h0 a1 sI) :
    MetFree l mq3 (head1 (Jvm.Cond.code mq3 jdk_38_method_24_code 4 none :: ws) ({ frames := 0, cells := 0, slots := 0, locals := 0 } : Room)) (fun a U => a = #[(.ref a0), (.ref a1), (.ref ea), (.int sz)] ∧ Z.Warmed39 U.vm ∧ U.heap = h0) (fun _ _ _ _ _ => True) (fun _ U o U' => ∃ v L, o = .returned v ∧ Q25s Z a0 a1 ea sz kk vv mc wa wb wc wd we ka kc G1 h0 n0 v U'.heap L ∧ FrameEnd U o U' L ({ frames := 0, cells := 0, slots := 0, locals := 0 } : Room).cells ({ frames := 0, cells := 0, slots := 0, locals := 0 } : Room).slots) := by
  refine MetFree.of_bodySF (plainFor_of_name pn0) hisR ?_
  intro p e s m args below meth c s₁ Bd hml0 hP hK
  obtain ⟨rfl, hZ, hh⟩ := hP
  have hx := Bd.exec
  have hby := Bd.bytes
  have hml : c.maxLocals = 4 := hml0
  have hown : s.vm.findClass sA = some m.cls := findClass_of_methodNamed Bd.named
  have hnm := (name_of_methodNamed Bd.named Bd.method).1
  have hk := Bd.notSynchronized
  have X0 : Stand p l e ({ frames := 0, cells := 0, slots := 0, locals := 0 } : Room) s m #[(.ref a0), (.ref a1), (.ref ea), (.int sz)] below meth c s₁ [] 0 0 := Stand.of_body Bd
  have hh2 := hh
  have e0 : s₁.heap = h0 := by rw [← hh, Bd.state]; rfl
  have N0 := Fr.nil n0
  show Gl p e below (Pos 0 0 (Q25s Z a0 a1 ea sz kk vv mc wa wb wc wd we ka kc G1 h0 n0) s) s₁ _
  refine Gl.cast (ef25s m a0 a1 ea sz) ?_
  refine gb (mkF m 1 #[vr a0, vr a1, vr ea, vi sz] [(.int sz)]) (fun _ k => XS.iloadN X0.here hx rfl (hb hby d25_0) rfl k) ?_
  refine gb (mkF m 2 #[vr a0, vr a1, vr ea, vi sz] [(.ref ea), (.int sz)]) (fun _ k => XS.aloadN X0.here hx rfl (hb hby d25_1) rfl rfl k) ?_
  obtain ⟨cl1, Ar1, qa1, Sa1, Na1, Ha1, Ga1⟩ := id pf4
  refine gb (mkF m 3 #[vr a0, vr a1, vr ea, vi sz] [(.int 10), (.int sz)]) (fun t k => X0.arraylength hx (by rw [e0]; exact Ar1.1) (State.isArrayOf_alike hZ.alike Ar1.2.1) (g := (mkF m 2 #[vr a0, vr a1, vr ea, vi sz] [(.ref ea), (.int sz)])) rfl rfl (hb hby d25_2) t (by rw [len_of Sa1 Na1]; exact k)) ?_
  refine gb (mkF m 11 #[vr a0, vr a1, vr ea, vi sz] []) (fun _ k => XS.icmpYes X0.here hx rfl (pc0 := 3) (pc' := 11) rfl (hb hby d25_3) rfl (feq (sz10 hs)).2 (by decide) (by decide) k) ?_
  refine gb (mkF m 12 #[vr a0, vr a1, vr ea, vi sz] [(.ref ea)]) (fun _ k => XS.aloadN X0.here hx rfl (hb hby d25_11) rfl rfl k) ?_
  refine gb (mkF m 13 #[vr a0, vr a1, vr ea, vi sz] [(.int sz), (.ref ea)]) (fun _ k => XS.iloadN X0.here hx rfl (hb hby d25_12) rfl k) ?_
  refine gb (mkF m 14 #[vr a0, vr a1, vr ea, vi sz] [(.ref a1), (.int sz), (.ref ea)]) (fun _ k => XS.aloadN X0.here hx rfl (hb hby d25_13) rfl rfl k) ?_
  obtain ⟨cl2, Ar2, qa2, Sa2, Na2, Ha2, Ga2⟩ := id pf4
  have hin3 : ¬ (sz < 0 ∨ cl2.slots.size ≤ (sz).toNatClampNeg) := inb_of Sa2 hs
  obtain ⟨T3, h3, X3, e3, W3, st3⟩ := stR X0 hx hZ e0 Ar2 (j := sz) hin3 rfl (Sto.ofV Ar2 qa2 ov (Ins.of_exa pf11 (hW hw 189 rfl))) (g := (mkF m 14 #[vr a0, vr a1, vr ea, vi sz] [(.ref a1), (.int sz), (.ref ea)])) rfl rfl (hb hby d25_14)
  have V3 : Arv Z h3 ea kk oT (10 : Int32) (vv.set (sz).toNatClampNeg (.ref a1)) .null := Arv.set Ar2 qa2 Sa2 Na2 Ha2 Ga2 rfl W3 _ rfl (szl hs hl)
  have N3 := Fr.snoc X3 N0 gp_ea
  refine gb (mkF m 15 #[vr a0, vr a1, vr ea, vi sz] []) st3 ?_
  refine gb (mkF m 16 #[vr a0, vr a1, vr ea, vi sz] [(.ref a0)]) (fun _ k => XS.aloadN X3.here hx rfl (hb hby d25_15) rfl rfl k) ?_
  refine gb (mkF m 17 #[vr a0, vr a1, vr ea, vi sz] [(.int sz), (.ref a0)]) (fun _ k => XS.iloadN X3.here hx rfl (hb hby d25_16) rfl k) ?_
  refine gb (mkF m 18 #[vr a0, vr a1, vr ea, vi sz] [(.int 1), (.int sz), (.ref a0)]) (fun _ k => XS.iconst X3.here hx rfl (hb hby d25_17) k) ?_
  refine gb (mkF m 19 #[vr a0, vr a1, vr ea, vi sz] [(.int (sz + (1 : Int32))), (.ref a0)]) (fun _ k => XS.iadd X3.here hx rfl (hb hby d25_18) rfl k) ?_
  have f4 := (Exa.wr W3 pf0)
  have f5 := (Fld.other W3 pf2 (Or.inl np_a0_ea))
  obtain ⟨T6, h6, X6, e6, W6, st6⟩ := putF X3 hx hZ hown (host := "") (Or.inl (hW hw 77 rfl)) Via.refl e3 f5 f4 (Or.inl (hW hw 78 rfl)) (hW hw 10 rfl) (ty := .int) (by decide) rfl rfl (g := (mkF m 19 #[vr a0, vr a1, vr ea, vi sz] [(.int (sz + (1 : Int32))), (.ref a0)])) rfl rfl (hb hby d25_19)
  have N6 := Fr.snoc X6 N3 gp_a0
  have Fw6 := Fld.same W6 f5
  refine gb (mkF m 22 #[vr a0, vr a1, vr ea, vi sz] []) st6 ?_
  have K7 := (((Keep.refl h0 [a0, ea]).wr W3 (Or.inl (List.mem_of_getElem? (i := 1) rfl))).wr W6 (Or.inl (List.mem_of_getElem? (i := 0) rfl)))
  have f8 := (Fld.other W6 (Fld.other W3 pf1 (Or.inl np_a0_ea)) (Or.inr (slot_ne (Or.inl (hW hw 32 rfl)) (Or.inl (hW hw 78 rfl)) (by decide) (t := (.array oT)) (t' := .int) (by decide) (by decide))))
  have f9 := (Fld.other W6 (Fld.other W3 pf3 (Or.inl np_a0_ea)) (Or.inr (slot_ne (Or.inl (hW hw 29 rfl)) (Or.inl (hW hw 78 rfl)) (by decide) (t := .int) (t' := .int) (by decide) (by decide))))
  have f10 := (Arv.other V3 W6 (Ne.symm np_a0_ea))
  exact Gl.outV X6 hx hk Bd.returns (hb hby d25_22) (Eq.mpr (congrArg (fun hh => Q25s Z a0 a1 ea sz kk vv mc wa wb wc wd we ka kc G1 h0 n0 _ hh _) e6) (show Q25s Z a0 a1 ea sz kk vv mc wa wb wc wd we ka kc G1 h0 n0 _ h6 _ from ⟨rfl, N6, K7, f8, Fw6, f9, f10⟩)) (by decide) (by decide)
theorem ef24s (m : MethodId) (x0 x1 : Addr) : entryFrame m #[(.ref x0), (.ref x1)] 2 = mkF m 0 #[.val (.ref x0), .val (.ref x1)] [] := by first | (simp [entryFrame, mkF, argsToLocals, Value.category]; done) | rfl
def fn24s (wa wb wc wd we : Addr) (ka kc : ClassId) (G1 : Int32) : Int32 := (1 : Int32)
def Q24s (Z : State) (a0 : Addr) (a1 : Addr) (ea : Addr) (kk : ClassId) (vv : List Value) (sz : Int32) (mc : Int32) (wa wb wc wd we : Addr) (ka kc : ClassId) (G1 : Int32) (h0 : Heap) (n0 : Nat) (v : Option Value) (h : Heap) (L : List Loc) : Prop := v = some (.int (fn24s  wa wb wc wd we ka kc G1)) ∧ Fr n0 L ∧ Keep h0 h [a0, ea] ∧ Fld Z h a0 sA "elementData" sO (.ref ea) ∧ Fld Z h a0 sA "size" "I" (.int (sz + (1 : Int32))) ∧ Fld Z h a0 "java/util/AbstractList" "modCount" "I" (.int (mc + (1 : Int32))) ∧ Arv Z h ea kk oT (10 : Int32) (vv.set (sz).toNatClampNeg (.ref a1)) .null
theorem rm24s (l : Launch) (Z : State) (a0' : Array Value) (hw : ∀ d ∈ tables_1, d.before a0' Z = true) (ws : List Jvm.Cond) (a0 : Addr) (a1 : Addr) (ea : Addr) (kk : ClassId) (vv : List Value) (sz : Int32) (mc : Int32) (wa wb wc wd we : Addr) (ka kc : ClassId) (G1 : Int32) (h0 : Heap) (n0 : Nat) (O : Old Z n0 h0) (W : Wd Z wa wb wc wd we ka kc G1) (pf0 : Exa Z h0 a0 sA) (pf1 : Fld Z h0 a0 sA "elementData" sO (.ref ea)) (pf2 : Fld Z h0 a0 sA "size" "I" (.int sz)) (pf3 : Fld Z h0 a0 "java/util/AbstractList" "modCount" "I" (.int mc)) (pf4 : Arv Z h0 ea kk oT (10 : Int32) vv .null) (gp_a0 : n0 ≤ a0) (gp_ea : n0 ≤ ea) (np_a0_ea : a0 ≠ ea) (hl : vv.length = 10) (hs : ¬ sz < 0 ∧ sz < 10) (ov : Ovr Z kk "java/lang/Object") (pf11 : Exa Z h0 a1 sI) :
    MetFree l mq4 (head1 (Jvm.Cond.code mq4 jdk_38_method_25_code 2 (some .boolean) :: ws) ({ frames := 1, cells := 0, slots := 0, locals := 15 } : Room)) (fun a U => a = #[(.ref a0), (.ref a1)] ∧ Z.Warmed39 U.vm ∧ U.heap = h0) (fun _ _ _ _ _ => True) (fun _ U o U' => ∃ v L, o = .returned v ∧ Q24s Z a0 a1 ea kk vv sz mc wa wb wc wd we ka kc G1 h0 n0 v U'.heap L ∧ FrameEnd U o U' L ({ frames := 1, cells := 0, slots := 0, locals := 15 } : Room).cells ({ frames := 1, cells := 0, slots := 0, locals := 15 } : Room).slots) := by
  refine MetFree.of_bodySF (plainFor_of_name pn0) hisR ?_
  intro p e s m args below meth c s₁ Bd hml0 hP hK
  obtain ⟨rfl, hZ, hh⟩ := hP
  have hx := Bd.exec
  have hby := Bd.bytes
  have hml : c.maxLocals = 2 := hml0
  have hown : s.vm.findClass sA = some m.cls := findClass_of_methodNamed Bd.named
  have hnm := (name_of_methodNamed Bd.named Bd.method).1
  have hk := Bd.notSynchronized
  have X0 : Stand p l e ({ frames := 1, cells := 0, slots := 0, locals := 15 } : Room) s m #[(.ref a0), (.ref a1)] below meth c s₁ [] 0 0 := Stand.of_body Bd
  have hh2 := hh
  have e0 : s₁.heap = h0 := by rw [← hh, Bd.state]; rfl
  have N0 := Fr.nil n0
  show Gl p e below (Pos 0 0 (Q24s Z a0 a1 ea kk vv sz mc wa wb wc wd we ka kc G1 h0 n0) s) s₁ _
  refine Gl.cast (ef24s m a0 a1) ?_
  refine gb (mkF m 1 #[vr a0, vr a1] [(.ref a0)]) (fun _ k => XS.aloadN X0.here hx rfl (hb hby d24_0) rfl rfl k) ?_
  refine gb (mkF m 2 #[vr a0, vr a1] [(.ref a0), (.ref a0)]) (fun _ k => XS.dup X0.here hx rfl (hb hby d24_1) rfl rfl k) ?_
  obtain ⟨T1, X1, e1, st1⟩ := getF X0 hx hZ hown (host := "") (Or.inl (hW hw 166 rfl)) (Via.of (hW hw 167 rfl)) e0 pf3 (g := (mkF m 2 #[vr a0, vr a1] [(.ref a0), (.ref a0)])) rfl rfl (hb hby d24_2)
  refine gb (mkF m 5 #[vr a0, vr a1] [(.int mc), (.ref a0)]) st1 ?_
  refine gb (mkF m 6 #[vr a0, vr a1] [(.int 1), (.int mc), (.ref a0)]) (fun _ k => XS.iconst X1.here hx rfl (hb hby d24_5) k) ?_
  refine gb (mkF m 7 #[vr a0, vr a1] [(.int (mc + (1 : Int32))), (.ref a0)]) (fun _ k => XS.iadd X1.here hx rfl (hb hby d24_6) rfl k) ?_
  obtain ⟨T2, h2, X2, e2, W2, st2⟩ := putF X1 hx hZ hown (host := "") (Or.inl (hW hw 166 rfl)) (Via.of (hW hw 167 rfl)) e1 pf3 pf0 (Or.inl (hW hw 29 rfl)) (hW hw 10 rfl) (ty := .int) (by decide) rfl rfl (g := (mkF m 7 #[vr a0, vr a1] [(.int (mc + (1 : Int32))), (.ref a0)])) rfl rfl (hb hby d24_7)
  have N2 := Fr.snoc X2 N0 gp_a0
  have Fw2 := Fld.same W2 pf3
  refine gb (mkF m 10 #[vr a0, vr a1] []) st2 ?_
  refine gb (mkF m 11 #[vr a0, vr a1] [(.ref a0)]) (fun _ k => XS.aloadN X2.here hx rfl (hb hby d24_10) rfl rfl k) ?_
  refine gb (mkF m 12 #[vr a0, vr a1] [(.ref a1), (.ref a0)]) (fun _ k => XS.aloadN X2.here hx rfl (hb hby d24_11) rfl rfl k) ?_
  refine gb (mkF m 13 #[vr a0, vr a1] [(.ref a0), (.ref a1), (.ref a0)]) (fun _ k => XS.aloadN X2.here hx rfl (hb hby d24_12) rfl rfl k) ?_
  have f3 := (Fld.other W2 pf1 (Or.inr (slot_ne (Or.inl (hW hw 32 rfl)) (Or.inl (hW hw 29 rfl)) (by decide) (t := (.array oT)) (t' := .int) (by decide) (by decide))))
  obtain ⟨T4, X4, e4, st4⟩ := getF X2 hx hZ hown (host := "") (Or.inl (hW hw 31 rfl)) Via.refl e2 f3 (g := (mkF m 13 #[vr a0, vr a1] [(.ref a0), (.ref a1), (.ref a0)])) rfl rfl (hb hby d24_13)
  refine gb (mkF m 16 #[vr a0, vr a1] [(.ref ea), (.ref a1), (.ref a0)]) st4 ?_
  refine gb (mkF m 17 #[vr a0, vr a1] [(.ref a0), (.ref ea), (.ref a1), (.ref a0)]) (fun _ k => XS.aloadN X4.here hx rfl (hb hby d24_16) rfl rfl k) ?_
  have f5 := (Fld.other W2 pf2 (Or.inr (slot_ne (Or.inl (hW hw 78 rfl)) (Or.inl (hW hw 29 rfl)) (by decide) (t := .int) (t' := .int) (by decide) (by decide))))
  obtain ⟨T6, X6, e6, st6⟩ := getF X4 hx hZ hown (host := "") (Or.inl (hW hw 77 rfl)) Via.refl e4 f5 (g := (mkF m 17 #[vr a0, vr a1] [(.ref a0), (.ref ea), (.ref a1), (.ref a0)])) rfl rfl (hb hby d24_17)
  refine gb (mkF m 20 #[vr a0, vr a1] [(.int sz), (.ref ea), (.ref a1), (.ref a0)]) st6 ?_
  have f8 := (Exa.wr W2 pf0)
  have K9 := ((Keep.refl h0 [a0, ea]).wr W2 (Or.inl (List.mem_of_getElem? (i := 0) rfl)))
  have f10 := (Arv.other pf4 W2 (Ne.symm np_a0_ea))
  have f11 := (Exa.wr W2 pf11)
  have O12 := (O.wr W2 gp_a0)
  obtain ⟨cq7, q7, q7'⟩ := (f8).cell
  obtain ⟨_, _, ⟨T7, L7, k7, n7⟩, -, X7, ⟨Lc7, hQ7, l7, y7, z7⟩, st7⟩ := X6.privateBack hx (y := mq3) hown (mvT hZ (hW hw 168 rfl)) (mvT hZ (hW hw 169 rfl)) (mvT hZ (hW hw 171 rfl)) (Cond.privateMethod_at (mvP hZ (hW hw 170 rfl) (args := #[]))) (mvT hZ (hW hw 172 rfl)) (by decide) (backOf (W := 0) (rm25s l Z a0' hw [] a0 a1 ea sz kk vv (mc + (1 : Int32)) wa wb wc wd we ka kc G1 h2 n0 O12 W f8 f3 f5 Fw2 f10 gp_a0 gp_ea np_a0_ea hl hs ov f11) hZ (hW hw 172 rfl) (hW hw 11 rfl) (by decide) (by decide)) (g := (mkF m 20 #[vr a0, vr a1] [(.int sz), (.ref ea), (.ref a1), (.ref a0)])) rfl (by rw [hml]; rfl) (Steps.refl _) (a := a0) (by rw [e6]; exact q7) q7' (argsL := [(.ref a1), (.ref ea), (.int sz)]) (rest := []) (lenOf pd66 rfl) rfl (Nat.le_of_eq rfl) (hb hby d24_20) (fun _ _ => ⟨rfl, e6, (by decide : 0 + 0 ≤ _), (by decide : 0 + 0 ≤ _)⟩)
  dsimp only [Pt.U, Pt.locs, Pt.cells, Pt.slots] at X7 l7 y7 z7 st7 hQ7
  subst l7 y7 z7
  obtain ⟨rfl, N7q, Kc7, fc7_0, fc7_1, fc7_2, fc7_3⟩ := hQ7
  have N7 := Fr.app N2 N7q
  refine gb (mkF m 23 #[vr a0, vr a1] []) (fun _ k => st7.trans k) ?_
  refine gb (mkF m 24 #[vr a0, vr a1] [(.int 1)]) (fun _ k => XS.iconst X7.here hx rfl (hb hby d24_23) k) ?_
  have K13 := (K9.trans Kc7 (allS (Or.inl (List.mem_of_getElem? (i := 0) rfl)) (allS (Or.inl (List.mem_of_getElem? (i := 1) rfl)) all0)))
  exact Gl.outN X7 hx hk (t := .boolean) Bd.returns (by simp) (hb hby d24_24) ⟨(congrArg (fun z => some (Value.int z)) (show nar .boolean (1 : Int32) = fn24s  wa wb wc wd we ka kc G1 by unfold fn24s; try rfl)), N7, K13, fc7_0, fc7_1, fc7_2, fc7_3⟩ (by decide) (by decide)
theorem d23_0 : decode jdk_38_method_8_code 0 = .ok (.aload_n 0, 1) := by decide +kernel
theorem d23_1 : decode jdk_38_method_8_code 1 = .ok (.getfield 48, 3) := by decide +kernel
theorem d23_4 : decode jdk_38_method_8_code 4 = .ok (.ireturn, 1) := by decide +kernel
theorem ef23 (m : MethodId) (x0 : Addr) : entryFrame m #[(.ref x0)] 1 = mkF m 0 #[.val (.ref x0)] [] := by first | (simp [entryFrame, mkF, argsToLocals, Value.category]; done) | rfl
def Q23 (Z : State) (a0 : Addr) (sz : Int32) (wa wb wc wd we : Addr) (ka kc : ClassId) (G1 : Int32) (h0 : Heap) (n0 : Nat) (v : Option Value) (h : Heap) (L : List Loc) : Prop := v = some (.int sz) ∧ Fr n0 L ∧ h = h0
theorem rm23 (l : Launch) (Z : State) (a0' : Array Value) (hw : ∀ d ∈ tables_1, d.before a0' Z = true) (ws : List Jvm.Cond) (a0 : Addr) (sz : Int32) (wa wb wc wd we : Addr) (ka kc : ClassId) (G1 : Int32) (h0 : Heap) (n0 : Nat) (O : Old Z n0 h0) (W : Wd Z wa wb wc wd we ka kc G1) (pf0 : Exa Z h0 a0 sA) (pf1 : Fld Z h0 a0 sA "size" "I" (.int sz)) :
    MetFree l mq5 (head1 (Jvm.Cond.code mq5 jdk_38_method_8_code 1 (some .int) :: ws) ({ frames := 0, cells := 0, slots := 0, locals := 0 } : Room)) (fun a U => a = #[(.ref a0)] ∧ Z.Warmed39 U.vm ∧ U.heap = h0) (fun _ _ _ _ _ => True) (fun _ U o U' => ∃ v L, o = .returned v ∧ Q23 Z a0 sz wa wb wc wd we ka kc G1 h0 n0 v U'.heap L ∧ FrameEnd U o U' L ({ frames := 0, cells := 0, slots := 0, locals := 0 } : Room).cells ({ frames := 0, cells := 0, slots := 0, locals := 0 } : Room).slots) := by
  refine MetFree.of_bodySF (plainFor_of_name pn0) hisR ?_
  intro p e s m args below meth c s₁ Bd hml0 hP hK
  obtain ⟨rfl, hZ, hh⟩ := hP
  have hx := Bd.exec
  have hby := Bd.bytes
  have hml : c.maxLocals = 1 := hml0
  have hown : s.vm.findClass sA = some m.cls := findClass_of_methodNamed Bd.named
  have hnm := (name_of_methodNamed Bd.named Bd.method).1
  have hk := Bd.notSynchronized
  have X0 : Stand p l e ({ frames := 0, cells := 0, slots := 0, locals := 0 } : Room) s m #[(.ref a0)] below meth c s₁ [] 0 0 := Stand.of_body Bd
  have hh2 := hh
  have e0 : s₁.heap = h0 := by rw [← hh, Bd.state]; rfl
  have N0 := Fr.nil n0
  show Gl p e below (Pos 0 0 (Q23 Z a0 sz wa wb wc wd we ka kc G1 h0 n0) s) s₁ _
  refine Gl.cast (ef23 m a0) ?_
  refine gb (mkF m 1 #[vr a0] [(.ref a0)]) (fun _ k => XS.aloadN X0.here hx rfl (hb hby d23_0) rfl rfl k) ?_
  obtain ⟨T1, X1, e1, st1⟩ := getF X0 hx hZ hown (host := "") (Or.inl (hW hw 77 rfl)) Via.refl e0 pf1 (g := (mkF m 1 #[vr a0] [(.ref a0)])) rfl rfl (hb hby d23_1)
  refine gb (mkF m 4 #[vr a0] [(.int sz)]) st1 ?_
  exact Gl.outI X1 hx hk Bd.returns (hb hby d23_4) ⟨rfl, N0, e1⟩ (by decide) (by decide)
theorem d21_0 : decode jdk_30_method_1_code 0 = .ok (.aload_n 0, 1) := by decide +kernel
theorem d21_1 : decode jdk_30_method_1_code 1 = .ok (.invokespecial 1, 3) := by decide +kernel
theorem d21_4 : decode jdk_30_method_1_code 4 = .ok (.return_, 1) := by decide +kernel
theorem pn1 : plainName "java/lang/Record" = true := by first | (simp [plainName, overriddenIn]; done) | decide +kernel
theorem pd73 : parseMethodDescriptor "()V" = some ⟨[], none⟩ := by decide +kernel
theorem ef21 (m : MethodId) (x0 : Addr) : entryFrame m #[(.ref x0)] 1 = mkF m 0 #[.val (.ref x0)] [] := by first | (simp [entryFrame, mkF, argsToLocals, Value.category]; done) | rfl
def Q21 (Z : State) (a0 : Addr) (wa wb wc wd we : Addr) (ka kc : ClassId) (G1 : Int32) (h0 : Heap) (n0 : Nat) (v : Option Value) (h : Heap) (L : List Loc) : Prop := v = none ∧ Fr n0 L ∧ h = h0
theorem rm21 (l : Launch) (Z : State) (a0' : Array Value) (hw : ∀ d ∈ tables_1, d.before a0' Z = true) (ws : List Jvm.Cond) (a0 : Addr) (wa wb wc wd we : Addr) (ka kc : ClassId) (G1 : Int32) (h0 : Heap) (n0 : Nat) (O : Old Z n0 h0) (W : Wd Z wa wb wc wd we ka kc G1) :
    MetFree l mq6 (head1 (Jvm.Cond.code mq6 jdk_30_method_1_code 1 none :: ws) ({ frames := 1, cells := 0, slots := 0, locals := 12 } : Room)) (fun a U => a = #[(.ref a0)] ∧ Z.Warmed39 U.vm ∧ U.heap = h0) (fun _ _ _ _ _ => True) (fun _ U o U' => ∃ v L, o = .returned v ∧ Q21 Z a0 wa wb wc wd we ka kc G1 h0 n0 v U'.heap L ∧ FrameEnd U o U' L ({ frames := 1, cells := 0, slots := 0, locals := 12 } : Room).cells ({ frames := 1, cells := 0, slots := 0, locals := 12 } : Room).slots) := by
  refine MetFree.of_bodySF (plainFor_of_name pn1) hisR ?_
  intro p e s m args below meth c s₁ Bd hml0 hP hK
  obtain ⟨rfl, hZ, hh⟩ := hP
  have hx := Bd.exec
  have hby := Bd.bytes
  have hml : c.maxLocals = 1 := hml0
  have hown : s.vm.findClass "java/lang/Record" = some m.cls := findClass_of_methodNamed Bd.named
  have hnm := (name_of_methodNamed Bd.named Bd.method).1
  have hk := Bd.notSynchronized
  have X0 : Stand p l e ({ frames := 1, cells := 0, slots := 0, locals := 12 } : Room) s m #[(.ref a0)] below meth c s₁ [] 0 0 := Stand.of_body Bd
  have hh2 := hh
  have e0 : s₁.heap = h0 := by rw [← hh, Bd.state]; rfl
  have N0 := Fr.nil n0
  show Gl p e below (Pos 0 0 (Q21 Z a0 wa wb wc wd we ka kc G1 h0 n0) s) s₁ _
  refine Gl.cast (ef21 m a0) ?_
  refine gb (mkF m 1 #[vr a0] [(.ref a0)]) (fun _ k => XS.aloadN X0.here hx rfl (hb hby d21_0) rfl rfl k) ?_
  obtain ⟨T1, X1, e1, st1⟩ := initO X0 hx hZ hown (hW hw 142 rfl) (hW hw 7 rfl) (hW hw 8 rfl) e0 (g := (mkF m 1 #[vr a0] [(.ref a0)])) rfl (by rw [hml]; rfl) rfl (hb hby d21_1) (by decide) (W := 0) (Nat.le_of_eq rfl) (by decide)
  refine gb (mkF m 4 #[vr a0] []) st1 ?_
  exact Gl.outV X1 hx hk Bd.returns (hb hby d21_4) ⟨rfl, N0, e1⟩ (by decide) (by decide)
theorem d20_0 : decode prog_23_method_1_code 0 = .ok (.aload_n 0, 1) := by decide +kernel
theorem d20_1 : decode prog_23_method_1_code 1 = .ok (.invokespecial 1, 3) := by decide +kernel
theorem d20_4 : decode prog_23_method_1_code 4 = .ok (.aload_n 0, 1) := by decide +kernel
theorem d20_5 : decode prog_23_method_1_code 5 = .ok (.aload_n 1, 1) := by decide +kernel
theorem d20_6 : decode prog_23_method_1_code 6 = .ok (.putfield 7, 3) := by decide +kernel
theorem d20_9 : decode prog_23_method_1_code 9 = .ok (.aload_n 0, 1) := by decide +kernel
theorem d20_10 : decode prog_23_method_1_code 10 = .ok (.aload_n 2, 1) := by decide +kernel
theorem d20_11 : decode prog_23_method_1_code 11 = .ok (.putfield 13, 3) := by decide +kernel
theorem d20_14 : decode prog_23_method_1_code 14 = .ok (.return_, 1) := by decide +kernel
theorem pn2 : plainName sI = true := by first | (simp [plainName, overriddenIn]; done) | decide +kernel
theorem ef20 (m : MethodId) (x0 x1 x2 : Addr) : entryFrame m #[(.ref x0), (.ref x1), (.ref x2)] 3 = mkF m 0 #[.val (.ref x0), .val (.ref x1), .val (.ref x2)] [] := by first | (simp [entryFrame, mkF, argsToLocals, Value.category]; done) | rfl
def Q20 (Z : State) (a0 : Addr) (a1 : Addr) (a2 : Addr) (wa wb wc wd we : Addr) (ka kc : ClassId) (G1 : Int32) (h0 : Heap) (n0 : Nat) (v : Option Value) (h : Heap) (L : List Loc) : Prop := v = none ∧ Fr n0 L ∧ Keep h0 h [a0] ∧ Exa Z h a0 sI
theorem rm20 (l : Launch) (Z : State) (a0' : Array Value) (hw : ∀ d ∈ tables_1, d.before a0' Z = true) (ws : List Jvm.Cond) (a0 : Addr) (a1 : Addr) (a2 : Addr) (wa wb wc wd we : Addr) (ka kc : ClassId) (G1 : Int32) (h0 : Heap) (n0 : Nat) (O : Old Z n0 h0) (W : Wd Z wa wb wc wd we ka kc G1) (pf0 : Exa Z h0 a0 sI) (pf1 : Fld Z h0 a0 sI "param" "Ljava/lang/String;" .null) (pf2 : Fld Z h0 a0 sI "reason" "Ljava/lang/String;" .null) (gp_a0 : n0 ≤ a0) :
    MetFree l mq7 (head1 (Jvm.Cond.code mq7 prog_23_method_1_code 3 none :: ws) ({ frames := 2, cells := 0, slots := 0, locals := 24 } : Room)) (fun a U => a = #[(.ref a0), (.ref a1), (.ref a2)] ∧ Z.Warmed39 U.vm ∧ U.heap = h0) (fun _ _ _ _ _ => True) (fun _ U o U' => ∃ v L, o = .returned v ∧ Q20 Z a0 a1 a2 wa wb wc wd we ka kc G1 h0 n0 v U'.heap L ∧ FrameEnd U o U' L ({ frames := 2, cells := 0, slots := 0, locals := 24 } : Room).cells ({ frames := 2, cells := 0, slots := 0, locals := 24 } : Room).slots) := by
  refine MetFree.of_bodySF (plainFor_of_name pn2) hisR ?_
  intro p e s m args below meth c s₁ Bd hml0 hP hK
  obtain ⟨rfl, hZ, hh⟩ := hP
  have hx := Bd.exec
  have hby := Bd.bytes
  have hml : c.maxLocals = 3 := hml0
  have hown : s.vm.findClass sI = some m.cls := findClass_of_methodNamed Bd.named
  have hnm := (name_of_methodNamed Bd.named Bd.method).1
  have hk := Bd.notSynchronized
  have X0 : Stand p l e ({ frames := 2, cells := 0, slots := 0, locals := 24 } : Room) s m #[(.ref a0), (.ref a1), (.ref a2)] below meth c s₁ [] 0 0 := Stand.of_body Bd
  have hh2 := hh
  have e0 : s₁.heap = h0 := by rw [← hh, Bd.state]; rfl
  have N0 := Fr.nil n0
  show Gl p e below (Pos 0 0 (Q20 Z a0 a1 a2 wa wb wc wd we ka kc G1 h0 n0) s) s₁ _
  refine Gl.cast (ef20 m a0 a1 a2) ?_
  refine gb (mkF m 1 #[vr a0, vr a1, vr a2] [(.ref a0)]) (fun _ k => XS.aloadN X0.here hx rfl (hb hby d20_0) rfl rfl k) ?_
  obtain ⟨_, _, ⟨T1, L1, k1, n1⟩, -, X1, ⟨Lc1, hQ1, l1, y1, z1⟩, st1⟩ := X0.specialBack hx (y := mq6) rfl hown (mvT hZ (hW hw 137 rfl)) (mvT hZ (hW hw 138 rfl)) (mvT hZ (hW hw 141 rfl)) (by decide) (backOf (W := 0) (rm21 l Z a0' hw [] a0 wa wb wc wd we ka kc G1 h0 n0 O W ) hZ (hW hw 141 rfl) (hW hw 140 rfl) (by decide) (by decide)) (g := (mkF m 1 #[vr a0, vr a1, vr a2] [(.ref a0)])) rfl (by rw [hml]; rfl) (Steps.refl _) (a := a0) (argsL := []) (rest := []) (lenOf pd73 rfl) rfl (Nat.le_of_eq rfl) (hb hby d20_1) (fun _ _ => ⟨rfl, e0, (by decide : 0 + 0 ≤ _), (by decide : 0 + 0 ≤ _)⟩)
  dsimp only [Pt.U, Pt.locs, Pt.cells, Pt.slots] at X1 l1 y1 z1 st1 hQ1
  subst l1 y1 z1
  obtain ⟨rfl, N1q, e1⟩ := hQ1
  have N1 := Fr.app N0 N1q
  refine gb (mkF m 4 #[vr a0, vr a1, vr a2] []) (fun _ k => st1.trans k) ?_
  refine gb (mkF m 5 #[vr a0, vr a1, vr a2] [(.ref a0)]) (fun _ k => XS.aloadN X1.here hx rfl (hb hby d20_4) rfl rfl k) ?_
  refine gb (mkF m 6 #[vr a0, vr a1, vr a2] [(.ref a1), (.ref a0)]) (fun _ k => XS.aloadN X1.here hx rfl (hb hby d20_5) rfl rfl k) ?_
  obtain ⟨T2, h2, X2, e2, W2, st2⟩ := putF X1 hx hZ hown (host := "") (Or.inl (hW hw 143 rfl)) Via.refl e1 pf1 pf0 (Or.inr ⟨(hW hw 144 rfl), rfl, hnm⟩) (hW hw 132 rfl) (ty := (.object "java/lang/String")) (by decide) rfl rfl (g := (mkF m 6 #[vr a0, vr a1, vr a2] [(.ref a1), (.ref a0)])) rfl rfl (hb hby d20_6)
  have N2 := Fr.snoc X2 N1 gp_a0
  have Fw2 := Fld.same W2 pf1
  refine gb (mkF m 9 #[vr a0, vr a1, vr a2] []) st2 ?_
  refine gb (mkF m 10 #[vr a0, vr a1, vr a2] [(.ref a0)]) (fun _ k => XS.aloadN X2.here hx rfl (hb hby d20_9) rfl rfl k) ?_
  refine gb (mkF m 11 #[vr a0, vr a1, vr a2] [(.ref a2), (.ref a0)]) (fun _ k => XS.aloadN X2.here hx rfl (hb hby d20_10) rfl rfl k) ?_
  have f3 := (Exa.wr W2 pf0)
  have f4 := (Fld.other W2 pf2 (Or.inr (slot_ne (Or.inr (hW hw 146 rfl)) (Or.inr (hW hw 144 rfl)) (by decide) (t := (.object "java/lang/String")) (t' := (.object "java/lang/String")) (by decide) (by decide))))
  obtain ⟨T5, h5, X5, e5, W5, st5⟩ := putF X2 hx hZ hown (host := "") (Or.inl (hW hw 145 rfl)) Via.refl e2 f4 f3 (Or.inr ⟨(hW hw 146 rfl), rfl, hnm⟩) (hW hw 132 rfl) (ty := (.object "java/lang/String")) (by decide) rfl rfl (g := (mkF m 11 #[vr a0, vr a1, vr a2] [(.ref a2), (.ref a0)])) rfl rfl (hb hby d20_11)
  have N5 := Fr.snoc X5 N2 gp_a0
  have Fw5 := Fld.same W5 f4
  refine gb (mkF m 14 #[vr a0, vr a1, vr a2] []) st5 ?_
  have K6 := (((Keep.refl h0 [a0]).wr W2 (Or.inl (List.mem_of_getElem? (i := 0) rfl))).wr W5 (Or.inl (List.mem_of_getElem? (i := 0) rfl)))
  have f7 := (Exa.wr W5 f3)
  exact Gl.outV X5 hx hk Bd.returns (hb hby d20_14) (Eq.mpr (congrArg (fun hh => Q20 Z a0 a1 a2 wa wb wc wd we ka kc G1 h0 n0 _ hh _) e5) (show Q20 Z a0 a1 a2 wa wb wc wd we ka kc G1 h0 n0 _ h5 _ from ⟨rfl, N5, K6, f7⟩)) (by decide) (by decide)
theorem d22_0 : decode prog_17_method_4_code 0 = .ok (.aload_n 0, 1) := by decide +kernel
theorem d22_1 : decode prog_17_method_4_code 1 = .ok (.dup, 1) := by decide +kernel
theorem d22_2 : decode prog_17_method_4_code 2 = .ok (.getfield 31, 3) := by decide +kernel
theorem d22_5 : decode prog_17_method_4_code 5 = .ok (.iconst 1, 1) := by decide +kernel
theorem d22_6 : decode prog_17_method_4_code 6 = .ok (.iadd, 1) := by decide +kernel
theorem d22_7 : decode prog_17_method_4_code 7 = .ok (.putfield 31, 3) := by decide +kernel
theorem d22_10 : decode prog_17_method_4_code 10 = .ok (.aload_n 0, 1) := by decide +kernel
theorem d22_11 : decode prog_17_method_4_code 11 = .ok (.getfield 10, 3) := by decide +kernel
theorem d22_14 : decode prog_17_method_4_code 14 = .ok (.invokeinterface 35 1, 5) := by decide +kernel
theorem d22_19 : decode prog_17_method_4_code 19 = .ok (.bipush 100, 2) := by decide +kernel
theorem d22_21 : decode prog_17_method_4_code 21 = .ok (.if_icmp .ge 14, 3) := by decide +kernel
theorem d22_24 : decode prog_17_method_4_code 24 = .ok (.aload_n 0, 1) := by decide +kernel
theorem d22_25 : decode prog_17_method_4_code 25 = .ok (.getfield 10, 3) := by decide +kernel
theorem d22_28 : decode prog_17_method_4_code 28 = .ok (.aload_n 1, 1) := by decide +kernel
theorem d22_29 : decode prog_17_method_4_code 29 = .ok (.invokeinterface 41 2, 5) := by decide +kernel
theorem d22_34 : decode prog_17_method_4_code 34 = .ok (.pop, 1) := by decide +kernel
theorem d22_35 : decode prog_17_method_4_code 35 = .ok (.return_, 1) := by decide +kernel
theorem pn3 : plainName sF = true := by first | (simp [plainName, overriddenIn]; done) | decide +kernel
theorem pd100 : parseMethodDescriptor "()I" = some ⟨[], some .int⟩ := by decide +kernel
theorem pd101 : parseMethodDescriptor "(Ljava/lang/Object;)Z" = some ⟨[oT], some .boolean⟩ := by decide +kernel
theorem ef220 (m : MethodId) (x0 x1 : Addr) : entryFrame m #[(.ref x0), (.ref x1)] 2 = mkF m 0 #[.val (.ref x0), .val (.ref x1)] [] := by first | (simp [entryFrame, mkF, argsToLocals, Value.category]; done) | rfl
def Q220 (Z : State) (a0 : Addr) (a1 : Addr) (la : Addr) (mc : Int32) (om : Int32) (wa wb wc wd we : Addr) (ka kc : ClassId) (G1 : Int32) (h0 : Heap) (n0 : Nat) (v : Option Value) (h : Heap) (L : List Loc) : Prop := ∃ (b : Addr), ∃ (kb : ClassId), v = none ∧ Fr n0 L ∧ Keep h0 h [a0, la] ∧ Fld Z h a0 sF "found" "I" (.int 1) ∧ Fld Z h a0 sF "params" "Ljava/util/List;" (.ref la) ∧ Fld Z h a0 sF "onlyMissing" "Z" (.int om) ∧ Fld Z h la sA "elementData" sO (.ref b) ∧ Fld Z h la sA "size" "I" (.int 1) ∧ Fld Z h la "java/util/AbstractList" "modCount" "I" (.int (mc + (1 : Int32))) ∧ Arv Z h b kb oT (10 : Int32) [(.ref a1), .null, .null, .null, .null, .null, .null, .null, .null, .null] .null ∧ Exa Z h b sO ∧ n0 ≤ b ∧ Ovr Z kb "java/lang/Object" ∧ la ≠ b ∧ a0 ≠ b ∧ h0.size ≤ b
theorem rm220 (l : Launch) (Z : State) (a0' : Array Value) (hw : ∀ d ∈ tables_1, d.before a0' Z = true) (ws : List Jvm.Cond) (a0 : Addr) (a1 : Addr) (la : Addr) (mc : Int32) (om : Int32) (wa wb wc wd we : Addr) (ka kc : ClassId) (G1 : Int32) (h0 : Heap) (n0 : Nat) (O : Old Z n0 h0) (W : Wd Z wa wb wc wd we ka kc G1) (pf0 : Exa Z h0 a0 sF) (pf1 : Fld Z h0 a0 sF "found" "I" (.int 0)) (pf2 : Fld Z h0 a0 sF "params" "Ljava/util/List;" (.ref la)) (pf3 : Fld Z h0 a0 sF "onlyMissing" "Z" (.int om)) (pf4 : Exa Z h0 la sA) (pf5 : Fld Z h0 la sA "elementData" sO (.ref wa)) (pf6 : Fld Z h0 la sA "size" "I" (.int 0)) (pf7 : Fld Z h0 la "java/util/AbstractList" "modCount" "I" (.int mc)) (gp_a0 : n0 ≤ a0) (gp_la : n0 ≤ la) (np_a0_la : a0 ≠ la) (pf11 : Exa Z h0 a1 sI) :
    MetFree l mq8 (head1 (Jvm.Cond.code mq8 prog_17_method_4_code 2 none :: ws) ({ frames := 5, cells := 1, slots := 10, locals := 69 } : Room)) (fun a U => a = #[(.ref a0), (.ref a1)] ∧ Z.Warmed39 U.vm ∧ U.heap = h0) (fun _ _ _ _ _ => True) (fun _ U o U' => ∃ v L, o = .returned v ∧ Q220 Z a0 a1 la mc om wa wb wc wd we ka kc G1 h0 n0 v U'.heap L ∧ FrameEnd U o U' L ({ frames := 5, cells := 1, slots := 10, locals := 69 } : Room).cells ({ frames := 5, cells := 1, slots := 10, locals := 69 } : Room).slots) := by
  refine MetFree.of_bodySF (plainFor_of_name pn3) hisR ?_
  intro p e s m args below meth c s₁ Bd hml0 hP hK
  obtain ⟨rfl, hZ, hh⟩ := hP
  have hx := Bd.exec
  have hby := Bd.bytes
  have hml : c.maxLocals = 2 := hml0
  have hown : s.vm.findClass sF = some m.cls := findClass_of_methodNamed Bd.named
  have hnm := (name_of_methodNamed Bd.named Bd.method).1
  have hk := Bd.notSynchronized
  have X0 : Stand p l e ({ frames := 5, cells := 1, slots := 10, locals := 69 } : Room) s m #[(.ref a0), (.ref a1)] below meth c s₁ [] 0 0 := Stand.of_body Bd
  have hh2 := hh
  have e0 : s₁.heap = h0 := by rw [← hh, Bd.state]; rfl
  have N0 := Fr.nil n0
  show Gl p e below (Pos 1 10 (Q220 Z a0 a1 la mc om wa wb wc wd we ka kc G1 h0 n0) s) s₁ _
  refine Gl.cast (ef220 m a0 a1) ?_
  refine gb (mkF m 1 #[vr a0, vr a1] [(.ref a0)]) (fun _ k => XS.aloadN X0.here hx rfl (hb hby d22_0) rfl rfl k) ?_
  refine gb (mkF m 2 #[vr a0, vr a1] [(.ref a0), (.ref a0)]) (fun _ k => XS.dup X0.here hx rfl (hb hby d22_1) rfl rfl k) ?_
  obtain ⟨T1, X1, e1, st1⟩ := getF X0 hx hZ hown (host := "") (Or.inl (hW hw 42 rfl)) Via.refl e0 pf1 (g := (mkF m 2 #[vr a0, vr a1] [(.ref a0), (.ref a0)])) rfl rfl (hb hby d22_2)
  refine gb (mkF m 5 #[vr a0, vr a1] [(.int 0), (.ref a0)]) st1 ?_
  refine gb (mkF m 6 #[vr a0, vr a1] [(.int 1), (.int 0), (.ref a0)]) (fun _ k => XS.iconst X1.here hx rfl (hb hby d22_5) k) ?_
  refine gb (mkF m 7 #[vr a0, vr a1] [(.int 1), (.ref a0)]) (fun _ k => XS.iadd X1.here hx rfl (hb hby d22_6) rfl k) ?_
  obtain ⟨T2, h2, X2, e2, W2, st2⟩ := putF X1 hx hZ hown (host := "") (Or.inl (hW hw 42 rfl)) Via.refl e1 pf1 pf0 (Or.inl (hW hw 43 rfl)) (hW hw 1 rfl) (ty := .int) (by decide) rfl rfl (g := (mkF m 7 #[vr a0, vr a1] [(.int 1), (.ref a0)])) rfl rfl (hb hby d22_7)
  have N2 := Fr.snoc X2 N0 gp_a0
  have Fw2 := Fld.same W2 pf1
  refine gb (mkF m 10 #[vr a0, vr a1] []) st2 ?_
  refine gb (mkF m 11 #[vr a0, vr a1] [(.ref a0)]) (fun _ k => XS.aloadN X2.here hx rfl (hb hby d22_10) rfl rfl k) ?_
  have f3 := (Fld.other W2 pf2 (Or.inr (slot_ne (Or.inr (hW hw 34 rfl)) (Or.inl (hW hw 43 rfl)) (by decide) (t := (.object "java/util/List")) (t' := .int) (by decide) (by decide))))
  obtain ⟨T4, X4, e4, st4⟩ := getF X2 hx hZ hown (host := "") (Or.inl (hW hw 33 rfl)) Via.refl e2 f3 (g := (mkF m 11 #[vr a0, vr a1] [(.ref a0)])) rfl rfl (hb hby d22_11)
  refine gb (mkF m 14 #[vr a0, vr a1] [(.ref la)]) st4 ?_
  have f6 := (Exa.wr W2 pf4)
  have K7 := ((Keep.refl h0 [a0, la]).wr W2 (Or.inl (List.mem_of_getElem? (i := 0) rfl)))
  have f8 := (Fld.other W2 pf6 (Or.inl (Ne.symm np_a0_la)))
  have O9 := (O.wr W2 gp_a0)
  obtain ⟨cq5, kq5, q5a, q5b, q5c⟩ := isOf hZ e4 f6
  obtain ⟨_, _, ⟨T5, L5, k5, n5⟩, -, X5, ⟨Lc5, hQ5, l5, y5, z5⟩, st5⟩ := X4.interfaceBack hx (xi := mq9) (y := mq5) hown (mvT hZ (hW hw 151 rfl)) (mvT hZ (hW hw 84 rfl)) (mvT hZ (hW hw 85 rfl)) (mvT hZ (hW hw 152 rfl)) (mvT hZ (hW hw 153 rfl)) (mvT hZ (hW hw 154 rfl)) (mvT hZ (hW hw 155 rfl)) (mvT hZ (hW hw 156 rfl)) (by decide) (backOf (W := 0) (rm23 l Z a0' hw [] la (0 : Int32) wa wb wc wd we ka kc G1 h2 n0 O9 W f6 f8) hZ (hW hw 157 rfl) (hW hw 11 rfl) (by decide) (by decide)) q5a q5b q5c (g := (mkF m 14 #[vr a0, vr a1] [(.ref la)])) rfl (by rw [hml]; rfl) (Steps.refl _) (argsL := []) (rest := []) (lenOf pd100 rfl) rfl (Nat.le_of_eq rfl) (hb hby d22_14) (fun _ _ => ⟨rfl, e4, (by decide : 0 + 0 ≤ _), (by decide : 0 + 0 ≤ _)⟩)
  dsimp only [Pt.U, Pt.locs, Pt.cells, Pt.slots] at X5 l5 y5 z5 st5 hQ5
  subst l5 y5 z5
  obtain ⟨rfl, N5q, e5⟩ := hQ5
  have N5 := Fr.app N2 N5q
  refine gb (mkF m 19 #[vr a0, vr a1] [(.int 0)]) (fun _ k => st5.trans k) ?_
  refine gb (mkF m 21 #[vr a0, vr a1] [(.int 100), (.int 0)]) (fun _ k => XS.bipush X5.here hx rfl (hb hby d22_19) k) ?_
  refine gb (mkF m 24 #[vr a0, vr a1] []) (fun _ k => XS.icmpNo X5.here hx rfl (hb hby d22_21) rfl (tlt (by decide : (0 : Int32) < (100 : Int32))).2.1 k) ?_
  refine gb (mkF m 25 #[vr a0, vr a1] [(.ref a0)]) (fun _ k => XS.aloadN X5.here hx rfl (hb hby d22_24) rfl rfl k) ?_
  obtain ⟨T10, X10, e10, st10⟩ := getF X5 hx hZ hown (host := "") (Or.inl (hW hw 33 rfl)) Via.refl e5 f3 (g := (mkF m 25 #[vr a0, vr a1] [(.ref a0)])) rfl rfl (hb hby d22_25)
  refine gb (mkF m 28 #[vr a0, vr a1] [(.ref la)]) st10 ?_
  refine gb (mkF m 29 #[vr a0, vr a1] [(.ref a1), (.ref la)]) (fun _ k => XS.aloadN X10.here hx rfl (hb hby d22_28) rfl rfl k) ?_
  have f12 := (Fld.other W2 pf5 (Or.inl (Ne.symm np_a0_la)))
  have f13 := (Fld.other W2 pf7 (Or.inl (Ne.symm np_a0_la)))
  have f14 := (Exa.wr W2 pf0)
  have f15 := (Exa.wr W2 pf11)
  obtain ⟨cq11, kq11, q11a, q11b, q11c⟩ := isOf hZ e10 f6
  obtain ⟨_, _, ⟨T11, L11, k11, n11⟩, -, X11, ⟨Lc11, hQ11, l11, y11, z11⟩, st11⟩ := X10.interfaceBack hx (xi := mq10) (y := mq4) hown (mvT hZ (hW hw 158 rfl)) (mvT hZ (hW hw 159 rfl)) (mvT hZ (hW hw 160 rfl)) (mvT hZ (hW hw 161 rfl)) (mvT hZ (hW hw 162 rfl)) (mvT hZ (hW hw 163 rfl)) (mvT hZ (hW hw 164 rfl)) (mvT hZ (hW hw 156 rfl)) (by decide) (backOf (W := 0) (rm240 l Z a0' hw [] la a1 a0 mc wa wb wc wd we ka kc G1 h2 n0 O9 W f6 f12 f8 f13 gp_la f14 f15) hZ (hW hw 165 rfl) (hW hw 11 rfl) (by decide) (by decide)) q11a q11b q11c (g := (mkF m 29 #[vr a0, vr a1] [(.ref a1), (.ref la)])) rfl (by rw [hml]; rfl) (Steps.refl _) (argsL := [(.ref a1)]) (rest := []) (lenOf pd101 rfl) rfl (Nat.le_of_eq rfl) (hb hby d22_29) (fun _ _ => ⟨rfl, e10, (by decide : 0 + 1 ≤ _), (by decide : 0 + 10 ≤ _)⟩)
  dsimp only [Pt.U, Pt.locs, Pt.cells, Pt.slots] at X11 l11 y11 z11 st11 hQ11
  subst l11 y11 z11
  obtain ⟨b_11, kb_11, rfl, N11q, Kc11, fc11_0, fc11_1, fc11_2, fc11_3, fc11_4, fc11_5⟩ := hQ11
  have N11 := Fr.app N5 N11q
  refine gb (mkF m 34 #[vr a0, vr a1] [(.int (fn240  wa wb wc wd we ka kc G1))]) (fun _ k => st11.trans k) ?_
  refine gb (mkF m 35 #[vr a0, vr a1] []) (fun _ k => XS.pop X11.here hx rfl (hb hby d22_34) rfl rfl k) ?_
  have K16 := (K7.trans Kc11 (allS (Or.inl (List.mem_of_getElem? (i := 1) rfl)) all0))
  have f17 := (Fld.keep Fw2 Kc11 (ninS np_a0_la nin0))
  have f18 := (Fld.keep f3 Kc11 (ninS np_a0_la nin0))
  have f19 := (Fld.keep (Fld.other W2 pf3 (Or.inr (slot_ne (Or.inl (hW hw 36 rfl)) (Or.inl (hW hw 43 rfl)) (by decide) (t := .boolean) (t' := .int) (by decide) (by decide)))) Kc11 (ninS np_a0_la nin0))
  exact Gl.outV X11 hx hk Bd.returns (hb hby d22_35) ⟨b_11, kb_11, rfl, N11, K16, f17, f18, f19, fc11_0, fc11_1, fc11_2, fc11_3, fc11_4, ⟨fc11_5.1, fc11_5.2.1, fc11_5.2.2.1, fc11_5.2.2.2.1, (Nat.le_trans K7.1 fc11_5.2.2.2.2)⟩⟩ (by decide) (by decide)
theorem ef22s (m : MethodId) (x0 x1 : Addr) : entryFrame m #[(.ref x0), (.ref x1)] 2 = mkF m 0 #[.val (.ref x0), .val (.ref x1)] [] := by first | (simp [entryFrame, mkF, argsToLocals, Value.category]; done) | rfl
def Q22s (Z : State) (a0 : Addr) (a1 : Addr) (la : Addr) (ea : Addr) (kk : ClassId) (vv : List Value) (sz : Int32) (mc : Int32) (fd : Int32) (om : Int32) (wa wb wc wd we : Addr) (ka kc : ClassId) (G1 : Int32) (h0 : Heap) (n0 : Nat) (v : Option Value) (h : Heap) (L : List Loc) : Prop := v = none ∧ Fr n0 L ∧ Keep h0 h [a0, la, ea] ∧ Fld Z h a0 sF "found" "I" (.int (fd + (1 : Int32))) ∧ Fld Z h a0 sF "params" "Ljava/util/List;" (.ref la) ∧ Fld Z h a0 sF "onlyMissing" "Z" (.int om) ∧ Fld Z h la sA "elementData" sO (.ref ea) ∧ Fld Z h la sA "size" "I" (.int (sz + (1 : Int32))) ∧ Fld Z h la "java/util/AbstractList" "modCount" "I" (.int (mc + (1 : Int32))) ∧ Arv Z h ea kk oT (10 : Int32) (vv.set (sz).toNatClampNeg (.ref a1)) .null
theorem rm22s (l : Launch) (Z : State) (a0' : Array Value) (hw : ∀ d ∈ tables_1, d.before a0' Z = true) (ws : List Jvm.Cond) (a0 : Addr) (a1 : Addr) (la : Addr) (ea : Addr) (kk : ClassId) (vv : List Value) (sz : Int32) (mc : Int32) (fd : Int32) (om : Int32) (wa wb wc wd we : Addr) (ka kc : ClassId) (G1 : Int32) (h0 : Heap) (n0 : Nat) (O : Old Z n0 h0) (W : Wd Z wa wb wc wd we ka kc G1) (pf0 : Exa Z h0 a0 sF) (pf1 : Fld Z h0 a0 sF "found" "I" (.int fd)) (pf2 : Fld Z h0 a0 sF "params" "Ljava/util/List;" (.ref la)) (pf3 : Fld Z h0 a0 sF "onlyMissing" "Z" (.int om)) (pf4 : Exa Z h0 la sA) (pf5 : Fld Z h0 la sA "elementData" sO (.ref ea)) (pf6 : Fld Z h0 la sA "size" "I" (.int sz)) (pf7 : Fld Z h0 la "java/util/AbstractList" "modCount" "I" (.int mc)) (pf8 : Arv Z h0 ea kk oT (10 : Int32) vv .null) (gp_a0 : n0 ≤ a0) (gp_la : n0 ≤ la) (gp_ea : n0 ≤ ea) (np_a0_la : a0 ≠ la) (np_a0_ea : a0 ≠ ea) (np_la_ea : la ≠ ea) (hl : vv.length = 10) (hs : ¬ sz < 0 ∧ sz < 10) (ov : Ovr Z kk "java/lang/Object") (pf18 : Exa Z h0 a1 sI) :
    MetFree l mq8 (head1 (Jvm.Cond.code mq8 prog_17_method_4_code 2 none :: ws) ({ frames := 2, cells := 0, slots := 0, locals := 28 } : Room)) (fun a U => a = #[(.ref a0), (.ref a1)] ∧ Z.Warmed39 U.vm ∧ U.heap = h0) (fun _ _ _ _ _ => True) (fun _ U o U' => ∃ v L, o = .returned v ∧ Q22s Z a0 a1 la ea kk vv sz mc fd om wa wb wc wd we ka kc G1 h0 n0 v U'.heap L ∧ FrameEnd U o U' L ({ frames := 2, cells := 0, slots := 0, locals := 28 } : Room).cells ({ frames := 2, cells := 0, slots := 0, locals := 28 } : Room).slots) := by
  refine MetFree.of_bodySF (plainFor_of_name pn3) hisR ?_
  intro p e s m args below meth c s₁ Bd hml0 hP hK
  obtain ⟨rfl, hZ, hh⟩ := hP
  have hx := Bd.exec
  have hby := Bd.bytes
  have hml : c.maxLocals = 2 := hml0
  have hown : s.vm.findClass sF = some m.cls := findClass_of_methodNamed Bd.named
  have hnm := (name_of_methodNamed Bd.named Bd.method).1
  have hk := Bd.notSynchronized
  have X0 : Stand p l e ({ frames := 2, cells := 0, slots := 0, locals := 28 } : Room) s m #[(.ref a0), (.ref a1)] below meth c s₁ [] 0 0 := Stand.of_body Bd
  have hh2 := hh
  have e0 : s₁.heap = h0 := by rw [← hh, Bd.state]; rfl
  have N0 := Fr.nil n0
  show Gl p e below (Pos 0 0 (Q22s Z a0 a1 la ea kk vv sz mc fd om wa wb wc wd we ka kc G1 h0 n0) s) s₁ _
  refine Gl.cast (ef22s m a0 a1) ?_
  refine gb (mkF m 1 #[vr a0, vr a1] [(.ref a0)]) (fun _ k => XS.aloadN X0.here hx rfl (hb hby d22_0) rfl rfl k) ?_
  refine gb (mkF m 2 #[vr a0, vr a1] [(.ref a0), (.ref a0)]) (fun _ k => XS.dup X0.here hx rfl (hb hby d22_1) rfl rfl k) ?_
  obtain ⟨T1, X1, e1, st1⟩ := getF X0 hx hZ hown (host := "") (Or.inl (hW hw 42 rfl)) Via.refl e0 pf1 (g := (mkF m 2 #[vr a0, vr a1] [(.ref a0), (.ref a0)])) rfl rfl (hb hby d22_2)
  refine gb (mkF m 5 #[vr a0, vr a1] [(.int fd), (.ref a0)]) st1 ?_
  refine gb (mkF m 6 #[vr a0, vr a1] [(.int 1), (.int fd), (.ref a0)]) (fun _ k => XS.iconst X1.here hx rfl (hb hby d22_5) k) ?_
  refine gb (mkF m 7 #[vr a0, vr a1] [(.int (fd + (1 : Int32))), (.ref a0)]) (fun _ k => XS.iadd X1.here hx rfl (hb hby d22_6) rfl k) ?_
  obtain ⟨T2, h2, X2, e2, W2, st2⟩ := putF X1 hx hZ hown (host := "") (Or.inl (hW hw 42 rfl)) Via.refl e1 pf1 pf0 (Or.inl (hW hw 43 rfl)) (hW hw 1 rfl) (ty := .int) (by decide) rfl rfl (g := (mkF m 7 #[vr a0, vr a1] [(.int (fd + (1 : Int32))), (.ref a0)])) rfl rfl (hb hby d22_7)
  have N2 := Fr.snoc X2 N0 gp_a0
  have Fw2 := Fld.same W2 pf1
  refine gb (mkF m 10 #[vr a0, vr a1] []) st2 ?_
  refine gb (mkF m 11 #[vr a0, vr a1] [(.ref a0)]) (fun _ k => XS.aloadN X2.here hx rfl (hb hby d22_10) rfl rfl k) ?_
  have f3 := (Fld.other W2 pf2 (Or.inr (slot_ne (Or.inr (hW hw 34 rfl)) (Or.inl (hW hw 43 rfl)) (by decide) (t := (.object "java/util/List")) (t' := .int) (by decide) (by decide))))
  obtain ⟨T4, X4, e4, st4⟩ := getF X2 hx hZ hown (host := "") (Or.inl (hW hw 33 rfl)) Via.refl e2 f3 (g := (mkF m 11 #[vr a0, vr a1] [(.ref a0)])) rfl rfl (hb hby d22_11)
  refine gb (mkF m 14 #[vr a0, vr a1] [(.ref la)]) st4 ?_
  have f6 := (Exa.wr W2 pf4)
  have K7 := ((Keep.refl h0 [a0, la, ea]).wr W2 (Or.inl (List.mem_of_getElem? (i := 0) rfl)))
  have f8 := (Fld.other W2 pf6 (Or.inl (Ne.symm np_a0_la)))
  have O9 := (O.wr W2 gp_a0)
  obtain ⟨cq5, kq5, q5a, q5b, q5c⟩ := isOf hZ e4 f6
  obtain ⟨_, _, ⟨T5, L5, k5, n5⟩, -, X5, ⟨Lc5, hQ5, l5, y5, z5⟩, st5⟩ := X4.interfaceBack hx (xi := mq9) (y := mq5) hown (mvT hZ (hW hw 151 rfl)) (mvT hZ (hW hw 84 rfl)) (mvT hZ (hW hw 85 rfl)) (mvT hZ (hW hw 152 rfl)) (mvT hZ (hW hw 153 rfl)) (mvT hZ (hW hw 154 rfl)) (mvT hZ (hW hw 155 rfl)) (mvT hZ (hW hw 156 rfl)) (by decide) (backOf (W := 0) (rm23 l Z a0' hw [] la sz wa wb wc wd we ka kc G1 h2 n0 O9 W f6 f8) hZ (hW hw 157 rfl) (hW hw 11 rfl) (by decide) (by decide)) q5a q5b q5c (g := (mkF m 14 #[vr a0, vr a1] [(.ref la)])) rfl (by rw [hml]; rfl) (Steps.refl _) (argsL := []) (rest := []) (lenOf pd100 rfl) rfl (Nat.le_of_eq rfl) (hb hby d22_14) (fun _ _ => ⟨rfl, e4, (by decide : 0 + 0 ≤ _), (by decide : 0 + 0 ≤ _)⟩)
  dsimp only [Pt.U, Pt.locs, Pt.cells, Pt.slots] at X5 l5 y5 z5 st5 hQ5
  subst l5 y5 z5
  obtain ⟨rfl, N5q, e5⟩ := hQ5
  have N5 := Fr.app N2 N5q
  refine gb (mkF m 19 #[vr a0, vr a1] [(.int sz)]) (fun _ k => st5.trans k) ?_
  refine gb (mkF m 21 #[vr a0, vr a1] [(.int 100), (.int sz)]) (fun _ k => XS.bipush X5.here hx rfl (hb hby d22_19) k) ?_
  refine gb (mkF m 24 #[vr a0, vr a1] []) (fun _ k => XS.icmpNo X5.here hx rfl (hb hby d22_21) rfl (tlt (sz100 hs)).2.1 k) ?_
  refine gb (mkF m 25 #[vr a0, vr a1] [(.ref a0)]) (fun _ k => XS.aloadN X5.here hx rfl (hb hby d22_24) rfl rfl k) ?_
  obtain ⟨T10, X10, e10, st10⟩ := getF X5 hx hZ hown (host := "") (Or.inl (hW hw 33 rfl)) Via.refl e5 f3 (g := (mkF m 25 #[vr a0, vr a1] [(.ref a0)])) rfl rfl (hb hby d22_25)
  refine gb (mkF m 28 #[vr a0, vr a1] [(.ref la)]) st10 ?_
  refine gb (mkF m 29 #[vr a0, vr a1] [(.ref a1), (.ref la)]) (fun _ k => XS.aloadN X10.here hx rfl (hb hby d22_28) rfl rfl k) ?_
  have f12 := (Fld.other W2 pf5 (Or.inl (Ne.symm np_a0_la)))
  have f13 := (Fld.other W2 pf7 (Or.inl (Ne.symm np_a0_la)))
  have f14 := (Arv.other pf8 W2 (Ne.symm np_a0_ea))
  have f15 := (Exa.wr W2 pf18)
  obtain ⟨cq11, kq11, q11a, q11b, q11c⟩ := isOf hZ e10 f6
  obtain ⟨_, _, ⟨T11, L11, k11, n11⟩, -, X11, ⟨Lc11, hQ11, l11, y11, z11⟩, st11⟩ := X10.interfaceBack hx (xi := mq10) (y := mq4) hown (mvT hZ (hW hw 158 rfl)) (mvT hZ (hW hw 159 rfl)) (mvT hZ (hW hw 160 rfl)) (mvT hZ (hW hw 161 rfl)) (mvT hZ (hW hw 162 rfl)) (mvT hZ (hW hw 163 rfl)) (mvT hZ (hW hw 164 rfl)) (mvT hZ (hW hw 156 rfl)) (by decide) (backOf (W := 0) (rm24s l Z a0' hw [] la a1 ea kk vv sz mc wa wb wc wd we ka kc G1 h2 n0 O9 W f6 f12 f8 f13 f14 gp_la gp_ea np_la_ea hl hs ov f15) hZ (hW hw 165 rfl) (hW hw 11 rfl) (by decide) (by decide)) q11a q11b q11c (g := (mkF m 29 #[vr a0, vr a1] [(.ref a1), (.ref la)])) rfl (by rw [hml]; rfl) (Steps.refl _) (argsL := [(.ref a1)]) (rest := []) (lenOf pd101 rfl) rfl (Nat.le_of_eq rfl) (hb hby d22_29) (fun _ _ => ⟨rfl, e10, (by decide : 0 + 0 ≤ _), (by decide : 0 + 0 ≤ _)⟩)
  dsimp only [Pt.U, Pt.locs, Pt.cells, Pt.slots] at X11 l11 y11 z11 st11 hQ11
  subst l11 y11 z11
  obtain ⟨rfl, N11q, Kc11, fc11_0, fc11_1, fc11_2, fc11_3⟩ := hQ11
  have N11 := Fr.app N5 N11q
  refine gb (mkF m 34 #[vr a0, vr a1] [(.int (fn24s  wa wb wc wd we ka kc G1))]) (fun _ k => st11.trans k) ?_
  refine gb (mkF m 35 #[vr a0, vr a1] []) (fun _ k => XS.pop X11.here hx rfl (hb hby d22_34) rfl rfl k) ?_
  have K16 := (K7.trans Kc11 (allS (Or.inl (List.mem_of_getElem? (i := 1) rfl)) (allS (Or.inl (List.mem_of_getElem? (i := 2) rfl)) all0)))
  have f17 := (Fld.keep Fw2 Kc11 (ninS np_a0_la (ninS np_a0_ea nin0)))
  have f18 := (Fld.keep f3 Kc11 (ninS np_a0_la (ninS np_a0_ea nin0)))
  have f19 := (Fld.keep (Fld.other W2 pf3 (Or.inr (slot_ne (Or.inl (hW hw 36 rfl)) (Or.inl (hW hw 43 rfl)) (by decide) (t := .boolean) (t' := .int) (by decide) (by decide)))) Kc11 (ninS np_a0_la (ninS np_a0_ea nin0)))
  exact Gl.outV X11 hx hk Bd.returns (hb hby d22_35) ⟨rfl, N11, K16, f17, f18, f19, fc11_0, fc11_1, fc11_2, fc11_3⟩ (by decide) (by decide)
theorem ch255 (x : Int32) : nar .char ((x &&& (255 : Int32)).toUInt32.toUInt16.toUInt32.toInt32) = x &&& 255 := by
  rw [i2c_mask]
  exact i2c_mask x
theorem chb (x : Int32) : ¬ (x &&& 255) < 0 ∧ ¬ (255 : Int32) < (x &&& 255) := by
  have h := c_mask x 255 8 (by decide) (by decide)
  have z0 : (0 : Int32).toInt = 0 := by decide
  have z1 : (255 : Int32).toInt = 255 := by decide
  rw [Int32.lt_iff_toInt_lt, Int32.lt_iff_toInt_lt, z0, z1]
  omega
theorem chb' (x : Int32) : ¬ (nar .char ((x &&& (255 : Int32)).toUInt32.toUInt16.toUInt32.toInt32)) < 0 ∧ ¬ (255 : Int32) < (nar .char ((x &&& (255 : Int32)).toUInt32.toUInt16.toUInt32.toInt32)) := by
  rw [ch255]; exact chb x
theorem chc (x : Int32) : ¬ (255 : Int32) < ((x &&& (255 : Int32)).toUInt32.toUInt16.toUInt32.toInt32) := by
  rw [i2c_mask]; exact (chb x).2
theorem d16_0 : decode jdk_43_method_3_code 0 = .ok (.iload_n 0, 1) := by decide +kernel
theorem d16_1 : decode jdk_43_method_3_code 1 = .ok (.sipush 255, 3) := by decide +kernel
theorem d16_4 : decode jdk_43_method_3_code 4 = .ok (.if_icmp .gt 7, 3) := by decide +kernel
theorem d16_7 : decode jdk_43_method_3_code 7 = .ok (.iconst 1, 1) := by decide +kernel
theorem d16_8 : decode jdk_43_method_3_code 8 = .ok (.goto 4, 3) := by decide +kernel
theorem d16_11 : decode jdk_43_method_3_code 11 = .ok (.iconst 0, 1) := by decide +kernel
theorem d16_12 : decode jdk_43_method_3_code 12 = .ok (.ireturn, 1) := by decide +kernel
theorem pn4 : plainName "java/lang/StringLatin1" = true := by first | (simp [plainName, overriddenIn]; done) | decide +kernel
theorem ef16 (m : MethodId) (x0 : Int32) : entryFrame m #[(.int x0)] 1 = mkF m 0 #[.val (.int x0)] [] := by first | (simp [entryFrame, mkF, argsToLocals, Value.category]; done) | rfl
def fn16 (p0 : Int32) (wa wb wc wd we : Addr) (ka kc : ClassId) (G1 : Int32) : Int32 := if (255 : Int32) < p0 then (0 : Int32) else (1 : Int32)
def Q16 (Z : State) (p0 : Int32) (wa wb wc wd we : Addr) (ka kc : ClassId) (G1 : Int32) (h0 : Heap) (n0 : Nat) (v : Option Value) (h : Heap) (L : List Loc) : Prop := v = some (.int (fn16 p0 wa wb wc wd we ka kc G1)) ∧ Fr n0 L ∧ h = h0
theorem rm16 (l : Launch) (Z : State) (a0' : Array Value) (hw : ∀ d ∈ tables_1, d.before a0' Z = true) (ws : List Jvm.Cond) (p0 : Int32) (wa wb wc wd we : Addr) (ka kc : ClassId) (G1 : Int32) (h0 : Heap) (n0 : Nat) (O : Old Z n0 h0) (W : Wd Z wa wb wc wd we ka kc G1) :
    MetFree l mq11 (head1 (Jvm.Cond.code mq11 jdk_43_method_3_code 1 (some .boolean) :: ws) ({ frames := 0, cells := 0, slots := 0, locals := 0 } : Room)) (fun a U => a = #[(.int p0)] ∧ Z.Warmed39 U.vm ∧ U.heap = h0) (fun _ _ _ _ _ => True) (fun _ U o U' => ∃ v L, o = .returned v ∧ Q16 Z p0 wa wb wc wd we ka kc G1 h0 n0 v U'.heap L ∧ FrameEnd U o U' L ({ frames := 0, cells := 0, slots := 0, locals := 0 } : Room).cells ({ frames := 0, cells := 0, slots := 0, locals := 0 } : Room).slots) := by
  refine MetFree.of_bodySF (plainFor_of_name pn4) hisR ?_
  intro p e s m args below meth c s₁ Bd hml0 hP hK
  obtain ⟨rfl, hZ, hh⟩ := hP
  have hx := Bd.exec
  have hby := Bd.bytes
  have hml : c.maxLocals = 1 := hml0
  have hown : s.vm.findClass "java/lang/StringLatin1" = some m.cls := findClass_of_methodNamed Bd.named
  have hnm := (name_of_methodNamed Bd.named Bd.method).1
  have hk := Bd.notSynchronized
  have X0 : Stand p l e ({ frames := 0, cells := 0, slots := 0, locals := 0 } : Room) s m #[(.int p0)] below meth c s₁ [] 0 0 := Stand.of_body Bd
  have hh2 := hh
  have e0 : s₁.heap = h0 := by rw [← hh, Bd.state]; rfl
  have N0 := Fr.nil n0
  show Gl p e below (Pos 0 0 (Q16 Z p0 wa wb wc wd we ka kc G1 h0 n0) s) s₁ _
  refine Gl.cast (ef16 m p0) ?_
  refine gb (mkF m 1 #[vi p0] [(.int p0)]) (fun _ k => XS.iloadN X0.here hx rfl (hb hby d16_0) rfl k) ?_
  refine gb (mkF m 4 #[vi p0] [(.int 255), (.int p0)]) (fun _ k => XS.sipush X0.here hx rfl (hb hby d16_1) k) ?_
  by_cases hc1 : (255 : Int32) < p0
  · refine gb (mkF m 11 #[vi p0] []) (fun _ k => XS.icmpYes X0.here hx rfl (pc0 := 4) (pc' := 11) rfl (hb hby d16_4) rfl (tlt hc1).2.2.1 (by decide) (by decide) k) ?_
    refine gb (mkF m 12 #[vi p0] [(.int 0)]) (fun _ k => XS.iconst X0.here hx rfl (hb hby d16_11) k) ?_
    exact Gl.outN X0 hx hk (t := .boolean) Bd.returns (by simp) (hb hby d16_12) ⟨(congrArg (fun z => some (Value.int z)) (show nar .boolean (0 : Int32) = fn16 p0 wa wb wc wd we ka kc G1 by unfold fn16; rw [if_pos hc1]; try rfl)), N0, e0⟩ (by decide) (by decide)
  · refine gb (mkF m 7 #[vi p0] []) (fun _ k => XS.icmpNo X0.here hx rfl (hb hby d16_4) rfl (flt hc1).2.2.1 k) ?_
    refine gb (mkF m 8 #[vi p0] [(.int 1)]) (fun _ k => XS.iconst X0.here hx rfl (hb hby d16_7) k) ?_
    refine gb (mkF m 12 #[vi p0] [(.int 1)]) (fun _ k => XS.goto X0.here hx rfl (pc0 := 8) (pc' := 12) rfl (hb hby d16_8) (by decide) (by decide) k) ?_
    exact Gl.outN X0 hx hk (t := .boolean) Bd.returns (by simp) (hb hby d16_12) ⟨(congrArg (fun z => some (Value.int z)) (show nar .boolean (1 : Int32) = fn16 p0 wa wb wc wd we ka kc G1 by unfold fn16; rw [if_neg hc1]; try rfl)), N0, e0⟩ (by decide) (by decide)
theorem d17_0 : decode jdk_43_method_46_code 0 = .ok (.iconst 1, 1) := by decide +kernel
theorem d17_1 : decode jdk_43_method_46_code 1 = .ok (.newarray .byte, 2) := by decide +kernel
theorem d17_3 : decode jdk_43_method_46_code 3 = .ok (.dup, 1) := by decide +kernel
theorem d17_4 : decode jdk_43_method_46_code 4 = .ok (.iconst 0, 1) := by decide +kernel
theorem d17_5 : decode jdk_43_method_46_code 5 = .ok (.iload_n 0, 1) := by decide +kernel
theorem d17_6 : decode jdk_43_method_46_code 6 = .ok (.i2b, 1) := by decide +kernel
theorem d17_7 : decode jdk_43_method_46_code 7 = .ok (.bastore, 1) := by decide +kernel
theorem d17_8 : decode jdk_43_method_46_code 8 = .ok (.areturn, 1) := by decide +kernel
theorem ef17 (m : MethodId) (x0 : Int32) : entryFrame m #[(.int x0)] 1 = mkF m 0 #[.val (.int x0)] [] := by first | (simp [entryFrame, mkF, argsToLocals, Value.category]; done) | rfl
def Q17 (Z : State) (p0 : Int32) (wa wb wc wd we : Addr) (ka kc : ClassId) (G1 : Int32) (h0 : Heap) (n0 : Nat) (v : Option Value) (h : Heap) (L : List Loc) : Prop := ∃ (b : Addr), v = some (.ref b) ∧ Fr n0 L ∧ Keep h0 h []
theorem rm17 (l : Launch) (Z : State) (a0' : Array Value) (hw : ∀ d ∈ tables_1, d.before a0' Z = true) (ws : List Jvm.Cond) (p0 : Int32) (wa wb wc wd we : Addr) (ka kc : ClassId) (G1 : Int32) (h0 : Heap) (n0 : Nat) (O : Old Z n0 h0) (W : Wd Z wa wb wc wd we ka kc G1) :
    MetFree l mq12 (head1 (Jvm.Cond.code mq12 jdk_43_method_46_code 1 (some (.array .byte)) :: ws) ({ frames := 0, cells := 1, slots := 1, locals := 0 } : Room)) (fun a U => a = #[(.int p0)] ∧ Z.Warmed39 U.vm ∧ U.heap = h0) (fun _ _ _ _ _ => True) (fun _ U o U' => ∃ v L, o = .returned v ∧ Q17 Z p0 wa wb wc wd we ka kc G1 h0 n0 v U'.heap L ∧ FrameEnd U o U' L ({ frames := 0, cells := 1, slots := 1, locals := 0 } : Room).cells ({ frames := 0, cells := 1, slots := 1, locals := 0 } : Room).slots) := by
  refine MetFree.of_bodySF (plainFor_of_name pn4) hisR ?_
  intro p e s m args below meth c s₁ Bd hml0 hP hK
  obtain ⟨rfl, hZ, hh⟩ := hP
  have hx := Bd.exec
  have hby := Bd.bytes
  have hml : c.maxLocals = 1 := hml0
  have hown : s.vm.findClass "java/lang/StringLatin1" = some m.cls := findClass_of_methodNamed Bd.named
  have hnm := (name_of_methodNamed Bd.named Bd.method).1
  have hk := Bd.notSynchronized
  have X0 : Stand p l e ({ frames := 0, cells := 1, slots := 1, locals := 0 } : Room) s m #[(.int p0)] below meth c s₁ [] 0 0 := Stand.of_body Bd
  have hh2 := hh
  have e0 : s₁.heap = h0 := by rw [← hh, Bd.state]; rfl
  have N0 := Fr.nil n0
  show Gl p e below (Pos 1 1 (Q17 Z p0 wa wb wc wd we ka kc G1 h0 n0) s) s₁ _
  refine Gl.cast (ef17 m p0) ?_
  refine gb (mkF m 1 #[vi p0] [(.int 1)]) (fun _ k => XS.iconst X0.here hx rfl (hb hby d17_0) k) ?_
  obtain ⟨T1, h1, k1, X1, e1, E1, A1, st1⟩ := newP X0 hx hZ (hW hw 113 rfl) e0 (g := (mkF m 1 #[vi p0] [(.int 1)])) rfl (hb hby d17_1) rfl (by decide) (cap := 1) (by decide) (by decide) (by decide) (by decide)
  obtain ⟨b1, g1⟩ : ∃ z, z = (h0).size := ⟨_, rfl⟩
  rw [← g1] at A1 st1
  have gb1 : n0 ≤ b1 := Nat.le_trans (Nat.le_trans (Nat.le_of_eq O.1.symm) O.2.1) (Nat.le_of_eq g1.symm)
  have sb1 : h0.size ≤ b1 := Nat.le_trans (Keep.refl h0 []).1 (Nat.le_of_eq g1.symm)
  have ne1_0 : wa ≠ b1 := Nat.ne_of_lt (Nat.lt_of_lt_of_le (Arv.ext W.2.1 O.2).lt (Nat.le_of_eq g1.symm))
  have ne1_2 : wc ≠ b1 := Nat.ne_of_lt (Nat.lt_of_lt_of_le (Arv.ext W.2.2.2.2.2.1 O.2).lt (Nat.le_of_eq g1.symm))
  have ne1_4 : wb ≠ b1 := Nat.ne_of_lt (Nat.lt_of_lt_of_le (Exa.ext O.2 W.2.2.2.1).lt (Nat.le_of_eq g1.symm))
  have ne1_6 : wd ≠ b1 := Nat.ne_of_lt (Nat.lt_of_lt_of_le (Exa.ext O.2 W.2.2.2.2.2.2.2.1).lt (Nat.le_of_eq g1.symm))
  have V1 : Arv Z h1 b1 k1 .byte (1 : Int32) [(.int 0)] (.int 0) := (Arv.new A1 (by decide)).pad (pad_rep [] (.int 0) 1)
  refine gb (mkF m 3 #[vi p0] [(.ref b1)]) st1 ?_
  refine gb (mkF m 4 #[vi p0] [(.ref b1), (.ref b1)]) (fun _ k => XS.dup X1.here hx rfl (hb hby d17_3) rfl rfl k) ?_
  refine gb (mkF m 5 #[vi p0] [(.int 0), (.ref b1), (.ref b1)]) (fun _ k => XS.iconst X1.here hx rfl (hb hby d17_4) k) ?_
  refine gb (mkF m 6 #[vi p0] [(.int p0), (.int 0), (.ref b1), (.ref b1)]) (fun _ k => XS.iloadN X1.here hx rfl (hb hby d17_5) rfl k) ?_
  refine gb (mkF m 7 #[vi p0] [(.int (p0.toInt8.toInt32)), (.int 0), (.ref b1), (.ref b1)]) (fun _ k => XS.i2b X1.here hx rfl (hb hby d17_6) rfl k) ?_
  obtain ⟨cl2, Ar2, qa2, Sa2, Na2, Ha2, Ga2⟩ := id V1
  have hin3 : ¬ ((0 : Int32) < 0 ∨ cl2.slots.size ≤ ((0 : Int32)).toNatClampNeg) := inb_of Sa2 ⟨by decide, by decide⟩
  obtain ⟨T3, h3, X3, e3, W3, st3⟩ := stB X1 hx hZ e1 Ar2 (j := (0 : Int32)) hin3 (g := (mkF m 7 #[vi p0] [(.int (p0.toInt8.toInt32)), (.int 0), (.ref b1), (.ref b1)])) rfl rfl (hb hby d17_7)
  have V3 : Arv Z h3 b1 k1 .byte (1 : Int32) [(.int ((p0.toInt8.toInt32).toInt8.toInt32))] (.int 0) := Arv.set Ar2 qa2 Sa2 Na2 Ha2 Ga2 (fits_nar_byte _) W3 0 rfl (Nat.le_of_ble_eq_true rfl)
  have N3 := Fr.snoc X3 N0 gb1
  refine gb (mkF m 8 #[vi p0] [(.ref b1)]) st3 ?_
  have K4 := (((Keep.refl h0 []).ext E1).wr W3 (Or.inr sb1))
  exact Gl.outA X3 hx hk Bd.returns rfl rfl (hb hby d17_8) (Eq.mpr (congrArg (fun hh => Q17 Z p0 wa wb wc wd we ka kc G1 h0 n0 _ hh _) e3) (show Q17 Z p0 wa wb wc wd we ka kc G1 h0 n0 _ h3 _ from ⟨b1, rfl, N3, K4⟩)) (by decide) (by decide)
theorem d18_0 : decode jdk_42_method_151_code 0 = .ok (.aload_n 0, 1) := by decide +kernel
theorem d18_1 : decode jdk_42_method_151_code 1 = .ok (.invokespecial 1, 3) := by decide +kernel
theorem d18_4 : decode jdk_42_method_151_code 4 = .ok (.aload_n 0, 1) := by decide +kernel
theorem d18_5 : decode jdk_42_method_151_code 5 = .ok (.aload_n 1, 1) := by decide +kernel
theorem d18_6 : decode jdk_42_method_151_code 6 = .ok (.putfield 9, 3) := by decide +kernel
theorem d18_9 : decode jdk_42_method_151_code 9 = .ok (.aload_n 0, 1) := by decide +kernel
theorem d18_10 : decode jdk_42_method_151_code 10 = .ok (.iload_n 2, 1) := by decide +kernel
theorem d18_11 : decode jdk_42_method_151_code 11 = .ok (.putfield 15, 3) := by decide +kernel
theorem d18_14 : decode jdk_42_method_151_code 14 = .ok (.return_, 1) := by decide +kernel
theorem pn5 : plainName "java/lang/String" = true := by first | (simp [plainName, overriddenIn]; done) | decide +kernel
theorem ef18 (m : MethodId) (x0 x1 : Addr) (x2 : Int32) : entryFrame m #[(.ref x0), (.ref x1), (.int x2)] 3 = mkF m 0 #[.val (.ref x0), .val (.ref x1), .val (.int x2)] [] := by first | (simp [entryFrame, mkF, argsToLocals, Value.category]; done) | rfl
def Q18 (Z : State) (a0 : Addr) (a1 : Addr) (wa wb wc wd we : Addr) (ka kc : ClassId) (G1 : Int32) (h0 : Heap) (n0 : Nat) (v : Option Value) (h : Heap) (L : List Loc) : Prop := v = none ∧ Fr n0 L ∧ Keep h0 h [a0]
theorem rm18 (l : Launch) (Z : State) (a0' : Array Value) (hw : ∀ d ∈ tables_1, d.before a0' Z = true) (ws : List Jvm.Cond) (a0 : Addr) (a1 : Addr) (wa wb wc wd we : Addr) (ka kc : ClassId) (G1 : Int32) (h0 : Heap) (n0 : Nat) (O : Old Z n0 h0) (W : Wd Z wa wb wc wd we ka kc G1) (pf0 : Exa Z h0 a0 "java/lang/String") (pf1 : Fld Z h0 a0 "java/lang/String" "value" "[B" .null) (pf2 : Fld Z h0 a0 "java/lang/String" "coder" "B" (.int 0)) (gp_a0 : n0 ≤ a0) :
    MetFree l mq13 (head1 (Jvm.Cond.code mq13 jdk_42_method_151_code 3 none :: ws) ({ frames := 1, cells := 0, slots := 0, locals := 12 } : Room)) (fun a U => a = #[(.ref a0), (.ref a1), (.int 0)] ∧ Z.Warmed39 U.vm ∧ U.heap = h0) (fun _ _ _ _ _ => True) (fun _ U o U' => ∃ v L, o = .returned v ∧ Q18 Z a0 a1 wa wb wc wd we ka kc G1 h0 n0 v U'.heap L ∧ FrameEnd U o U' L ({ frames := 1, cells := 0, slots := 0, locals := 12 } : Room).cells ({ frames := 1, cells := 0, slots := 0, locals := 12 } : Room).slots) := by
  refine MetFree.of_bodySF (plainFor_of_name pn5) hisR ?_
  intro p e s m args below meth c s₁ Bd hml0 hP hK
  obtain ⟨rfl, hZ, hh⟩ := hP
  have hx := Bd.exec
  have hby := Bd.bytes
  have hml : c.maxLocals = 3 := hml0
  have hown : s.vm.findClass "java/lang/String" = some m.cls := findClass_of_methodNamed Bd.named
  have hnm := (name_of_methodNamed Bd.named Bd.method).1
  have hk := Bd.notSynchronized
  have X0 : Stand p l e ({ frames := 1, cells := 0, slots := 0, locals := 12 } : Room) s m #[(.ref a0), (.ref a1), (.int 0)] below meth c s₁ [] 0 0 := Stand.of_body Bd
  have hh2 := hh
  have e0 : s₁.heap = h0 := by rw [← hh, Bd.state]; rfl
  have N0 := Fr.nil n0
  show Gl p e below (Pos 0 0 (Q18 Z a0 a1 wa wb wc wd we ka kc G1 h0 n0) s) s₁ _
  refine Gl.cast (ef18 m a0 a1 (0 : Int32)) ?_
  refine gb (mkF m 1 #[vr a0, vr a1, vi 0] [(.ref a0)]) (fun _ k => XS.aloadN X0.here hx rfl (hb hby d18_0) rfl rfl k) ?_
  obtain ⟨T1, X1, e1, st1⟩ := initO X0 hx hZ hown (hW hw 118 rfl) (hW hw 7 rfl) (hW hw 8 rfl) e0 (g := (mkF m 1 #[vr a0, vr a1, vi 0] [(.ref a0)])) rfl (by rw [hml]; rfl) rfl (hb hby d18_1) (by decide) (W := 0) (Nat.le_of_eq rfl) (by decide)
  refine gb (mkF m 4 #[vr a0, vr a1, vi 0] []) st1 ?_
  refine gb (mkF m 5 #[vr a0, vr a1, vi 0] [(.ref a0)]) (fun _ k => XS.aloadN X1.here hx rfl (hb hby d18_4) rfl rfl k) ?_
  refine gb (mkF m 6 #[vr a0, vr a1, vi 0] [(.ref a1), (.ref a0)]) (fun _ k => XS.aloadN X1.here hx rfl (hb hby d18_5) rfl rfl k) ?_
  obtain ⟨T2, h2, X2, e2, W2, st2⟩ := putF X1 hx hZ hown (host := "") (Or.inl (hW hw 119 rfl)) Via.refl e1 pf1 pf0 (Or.inr ⟨(hW hw 120 rfl), rfl, hnm⟩) (hW hw 109 rfl) (ty := (.array .byte)) (by decide) rfl rfl (g := (mkF m 6 #[vr a0, vr a1, vi 0] [(.ref a1), (.ref a0)])) rfl rfl (hb hby d18_6)
  have N2 := Fr.snoc X2 N0 gp_a0
  have Fw2 := Fld.same W2 pf1
  refine gb (mkF m 9 #[vr a0, vr a1, vi 0] []) st2 ?_
  refine gb (mkF m 10 #[vr a0, vr a1, vi 0] [(.ref a0)]) (fun _ k => XS.aloadN X2.here hx rfl (hb hby d18_9) rfl rfl k) ?_
  refine gb (mkF m 11 #[vr a0, vr a1, vi 0] [(.int 0), (.ref a0)]) (fun _ k => XS.iloadN X2.here hx rfl (hb hby d18_10) rfl k) ?_
  have f3 := (Exa.wr W2 pf0)
  have f4 := (Fld.other W2 pf2 (Or.inr (slot_ne (Or.inr (hW hw 122 rfl)) (Or.inr (hW hw 120 rfl)) (by decide) (t := .byte) (t' := (.array .byte)) (by decide) (by decide))))
  obtain ⟨T5, h5, X5, e5, W5, st5⟩ := putFN X2 hx hZ hown (hW hw 121 rfl) Via.refl e2 f4 f3 (Or.inr ⟨(hW hw 122 rfl), rfl, hnm⟩) (hW hw 109 rfl) (ty := .byte) (v' := (.int ((0 : Int32).toInt8.toInt32))) (by decide) rfl (fits_nar_byte _) (g := (mkF m 11 #[vr a0, vr a1, vi 0] [(.int 0), (.ref a0)])) rfl rfl (hb hby d18_11)
  have N5 := Fr.snoc X5 N2 gp_a0
  have Fw5 := Fld.same W5 f4
  refine gb (mkF m 14 #[vr a0, vr a1, vi 0] []) st5 ?_
  have K6 := (((Keep.refl h0 [a0]).wr W2 (Or.inl (List.mem_of_getElem? (i := 0) rfl))).wr W5 (Or.inl (List.mem_of_getElem? (i := 0) rfl)))
  exact Gl.outV X5 hx hk Bd.returns (hb hby d18_14) (Eq.mpr (congrArg (fun hh => Q18 Z a0 a1 wa wb wc wd we ka kc G1 h0 n0 _ hh _) e5) (show Q18 Z a0 a1 wa wb wc wd we ka kc G1 h0 n0 _ h5 _ from ⟨rfl, N5, K6⟩)) (by decide) (by decide)
theorem d15_0 : decode jdk_42_method_139_code 0 = .ok (.getstatic 38, 3) := by decide +kernel
theorem d15_3 : decode jdk_42_method_139_code 3 = .ok (.ifCond .eq 23, 3) := by decide +kernel
theorem d15_6 : decode jdk_42_method_139_code 6 = .ok (.iload_n 0, 1) := by decide +kernel
theorem d15_7 : decode jdk_42_method_139_code 7 = .ok (.invokestatic 1015, 3) := by decide +kernel
theorem d15_10 : decode jdk_42_method_139_code 10 = .ok (.ifCond .eq 16, 3) := by decide +kernel
theorem d15_13 : decode jdk_42_method_139_code 13 = .ok (.new 10, 3) := by decide +kernel
theorem d15_16 : decode jdk_42_method_139_code 16 = .ok (.dup, 1) := by decide +kernel
theorem d15_17 : decode jdk_42_method_139_code 17 = .ok (.iload_n 0, 1) := by decide +kernel
theorem d15_18 : decode jdk_42_method_139_code 18 = .ok (.invokestatic 1018, 3) := by decide +kernel
theorem d15_21 : decode jdk_42_method_139_code 21 = .ok (.iconst 0, 1) := by decide +kernel
theorem d15_22 : decode jdk_42_method_139_code 22 = .ok (.invokespecial 209, 3) := by decide +kernel
theorem d15_25 : decode jdk_42_method_139_code 25 = .ok (.areturn, 1) := by decide +kernel
theorem pd138 : parseMethodDescriptor "(C)Z" = some ⟨[.char], some .boolean⟩ := by decide +kernel
theorem pd139 : parseMethodDescriptor "(C)[B" = some ⟨[.char], some (.array .byte)⟩ := by decide +kernel
theorem pd140 : parseMethodDescriptor "([BB)V" = some ⟨[(.array .byte), .byte], none⟩ := by decide +kernel
theorem ef15 (m : MethodId) (x0 : Int32) : entryFrame m #[(.int x0)] 1 = mkF m 0 #[.val (.int x0)] [] := by first | (simp [entryFrame, mkF, argsToLocals, Value.category]; done) | rfl
def Q15 (Z : State) (p0 : Int32) (wa wb wc wd we : Addr) (ka kc : ClassId) (G1 : Int32) (h0 : Heap) (n0 : Nat) (v : Option Value) (h : Heap) (L : List Loc) : Prop := ∃ (b : Addr), v = some (.ref b) ∧ Fr n0 L ∧ Keep h0 h [] ∧ Exa Z h b "java/lang/String"
theorem rm15 (l : Launch) (Z : State) (a0' : Array Value) (hw : ∀ d ∈ tables_1, d.before a0' Z = true) (ws : List Jvm.Cond) (p0 : Int32) (wa wb wc wd we : Addr) (ka kc : ClassId) (G1 : Int32) (h0 : Heap) (n0 : Nat) (O : Old Z n0 h0) (W : Wd Z wa wb wc wd we ka kc G1) (hp : ¬ (255 : Int32) < p0) :
    MetFree l mq14 (head1 (Jvm.Cond.code mq14 jdk_42_method_139_code 1 (some (.object "java/lang/String")) :: ws) ({ frames := 2, cells := 2, slots := 5, locals := 27 } : Room)) (fun a U => a = #[(.int p0)] ∧ Z.Warmed39 U.vm ∧ U.heap = h0) (fun _ _ _ _ _ => True) (fun _ U o U' => ∃ v L, o = .returned v ∧ Q15 Z p0 wa wb wc wd we ka kc G1 h0 n0 v U'.heap L ∧ FrameEnd U o U' L ({ frames := 2, cells := 2, slots := 5, locals := 27 } : Room).cells ({ frames := 2, cells := 2, slots := 5, locals := 27 } : Room).slots) := by
  refine MetFree.of_bodySF (plainFor_of_name pn5) hisR ?_
  intro p e s m args below meth c s₁ Bd hml0 hP hK
  obtain ⟨rfl, hZ, hh⟩ := hP
  have hx := Bd.exec
  have hby := Bd.bytes
  have hml : c.maxLocals = 1 := hml0
  have hown : s.vm.findClass "java/lang/String" = some m.cls := findClass_of_methodNamed Bd.named
  have hnm := (name_of_methodNamed Bd.named Bd.method).1
  have hk := Bd.notSynchronized
  have X0 : Stand p l e ({ frames := 2, cells := 2, slots := 5, locals := 27 } : Room) s m #[(.int p0)] below meth c s₁ [] 0 0 := Stand.of_body Bd
  have hh2 := hh
  have e0 : s₁.heap = h0 := by rw [← hh, Bd.state]; rfl
  have N0 := Fr.nil n0
  show Gl p e below (Pos 2 5 (Q15 Z p0 wa wb wc wd we ka kc G1 h0 n0) s) s₁ _
  refine Gl.cast (ef15 m p0) ?_
  obtain ⟨T1, X1, e1, st1⟩ := getS2 X0 hx hZ hown (host := "") (Or.inl (hW hw 103 rfl)) Via.refl e0 (Sta.ext O.2 W.2.2.2.2.2.2.2.2.2.1) (g := (mkF m 0 #[vi p0] [])) rfl (hb hby d15_0)
  refine gb (mkF m 3 #[vi p0] [(.int G1)]) st1 ?_
  refine gb (mkF m 6 #[vi p0] []) (fun _ k => XS.ifNo X1.here hx rfl (hb hby d15_3) rfl ((if0 _ _).trans (feq W.2.2.2.2.2.2.2.2.2.2).1) k) ?_
  refine gb (mkF m 7 #[vi p0] [(.int p0)]) (fun _ k => XS.iloadN X1.here hx rfl (hb hby d15_6) rfl k) ?_
  obtain ⟨_, _, ⟨T2, L2, k2, n2⟩, -, X2, ⟨Lc2, hQ2, l2, y2, z2⟩, st2⟩ := callS X1 hx (y := mq11) hown (mvT hZ (hW hw 104 rfl)) (mvT hZ (hW hw 105 rfl)) (mvT hZ (hW hw 106 rfl)) (mvT hZ (hW hw 107 rfl)) (by decide) (backOf (W := 0) (rm16 l Z a0' hw [] p0 wa wb wc wd we ka kc G1 h0 n0 O W ) hZ (hW hw 107 rfl) (hW hw 106 rfl) (by decide) (by decide)) (g := (mkF m 7 #[vi p0] [(.int p0)])) rfl (by rw [hml]; rfl) (argsL := [(.int p0)]) (rest := []) (lenOf pd138 rfl) rfl (Nat.le_of_eq rfl) (hb hby d15_7) (fun _ _ => ⟨rfl, e1, (by decide : 0 + 0 ≤ _), (by decide : 0 + 0 ≤ _)⟩)
  dsimp only [Pt.U, Pt.locs, Pt.cells, Pt.slots] at X2 l2 y2 z2 st2 hQ2
  subst l2 y2 z2
  obtain ⟨rfl, N2q, e2⟩ := hQ2
  have N2 := Fr.app N0 N2q
  refine gb (mkF m 10 #[vi p0] [(.int (fn16 p0 wa wb wc wd we ka kc G1))]) st2 ?_
  refine gb (mkF m 13 #[vi p0] []) (fun _ k => XS.ifNo X2.here hx rfl (hb hby d15_10) rfl ((if0 _ _).trans (feq (show ¬ fn16 p0 wa wb wc wd we ka kc G1 = (0 : Int32) by unfold fn16; rw [if_neg hp]; decide)).1) k) ?_
  obtain ⟨T3, h3, X3, e3, E3, A3, D3, -, st3⟩ := newO X2 hx hZ hown (hW hw 108 rfl) (hW hw 109 rfl) (hW hw 101 rfl) e2 (g := (mkF m 13 #[vi p0] [])) rfl (hb hby d15_13) (by decide) (by decide)
  obtain ⟨b3, g3⟩ : ∃ z, z = (h0).size := ⟨_, rfl⟩
  rw [← g3] at A3 D3 st3
  have gb3 : n0 ≤ b3 := Nat.le_trans (Nat.le_trans (Nat.le_of_eq O.1.symm) O.2.1) (Nat.le_of_eq g3.symm)
  have sb3 : h0.size ≤ b3 := Nat.le_trans (Keep.refl h0 []).1 (Nat.le_of_eq g3.symm)
  have ne3_0 : wa ≠ b3 := Nat.ne_of_lt (Nat.lt_of_lt_of_le (Arv.ext W.2.1 O.2).lt (Nat.le_of_eq g3.symm))
  have ne3_2 : wc ≠ b3 := Nat.ne_of_lt (Nat.lt_of_lt_of_le (Arv.ext W.2.2.2.2.2.1 O.2).lt (Nat.le_of_eq g3.symm))
  have ne3_4 : wb ≠ b3 := Nat.ne_of_lt (Nat.lt_of_lt_of_le (Exa.ext O.2 W.2.2.2.1).lt (Nat.le_of_eq g3.symm))
  have ne3_6 : wd ≠ b3 := Nat.ne_of_lt (Nat.lt_of_lt_of_le (Exa.ext O.2 W.2.2.2.2.2.2.2.1).lt (Nat.le_of_eq g3.symm))
  have D3_value : Fld Z h3 b3 "java/lang/String" "value" "[B" .null := D3 (Or.inr (hW hw 120 rfl)) (ty := (.array .byte)) (by decide)
  have D3_coder : Fld Z h3 b3 "java/lang/String" "coder" "B" (.int 0) := D3 (Or.inr (hW hw 122 rfl)) (ty := .byte) (by decide)
  refine gb (mkF m 16 #[vi p0] [(.ref b3)]) st3 ?_
  refine gb (mkF m 17 #[vi p0] [(.ref b3), (.ref b3)]) (fun _ k => XS.dup X3.here hx rfl (hb hby d15_16) rfl rfl k) ?_
  refine gb (mkF m 18 #[vi p0] [(.int p0), (.ref b3), (.ref b3)]) (fun _ k => XS.iloadN X3.here hx rfl (hb hby d15_17) rfl k) ?_
  have K5 := ((Keep.refl h0 []).ext E3)
  have O6 := (O.ext E3)
  obtain ⟨_, _, ⟨T4, L4, k4, n4⟩, -, X4, ⟨Lc4, hQ4, l4, y4, z4⟩, st4⟩ := callS X3 hx (y := mq12) hown (mvT hZ (hW hw 110 rfl)) (mvT hZ (hW hw 111 rfl)) (mvT hZ (hW hw 106 rfl)) (mvT hZ (hW hw 112 rfl)) (by decide) (backOf (W := 2) (rm17 l Z a0' hw [] p0 wa wb wc wd we ka kc G1 h3 n0 O6 W ) hZ (hW hw 112 rfl) (hW hw 106 rfl) (by decide) (by decide)) (g := (mkF m 18 #[vi p0] [(.int p0), (.ref b3), (.ref b3)])) rfl (by rw [hml]; rfl) (argsL := [(.int p0)]) (rest := [(.ref b3), (.ref b3)]) (lenOf pd139 rfl) rfl (Nat.le_of_eq rfl) (hb hby d15_18) (fun _ _ => ⟨rfl, e3, (by decide : 1 + 1 ≤ _), (by decide : 4 + 1 ≤ _)⟩)
  dsimp only [Pt.U, Pt.locs, Pt.cells, Pt.slots] at X4 l4 y4 z4 st4 hQ4
  subst l4 y4 z4
  obtain ⟨b_4, rfl, N4q, Kc4⟩ := hQ4
  have N4 := Fr.app N2 N4q
  refine gb (mkF m 21 #[vi p0] [(.ref b_4), (.ref b3), (.ref b3)]) st4 ?_
  refine gb (mkF m 22 #[vi p0] [(.int 0), (.ref b_4), (.ref b3), (.ref b3)]) (fun _ k => XS.iconst X4.here hx rfl (hb hby d15_21) k) ?_
  have K8 := (K5.trans Kc4 all0)
  have f9 := (Exa.keep A3 Kc4)
  have f10 := (Fld.keep D3_value Kc4 nin0)
  have f11 := (Fld.keep D3_coder Kc4 nin0)
  have O12 := (O6.keep Kc4 all0)
  obtain ⟨_, _, ⟨T7, L7, k7, n7⟩, -, X7, ⟨Lc7, hQ7, l7, y7, z7⟩, st7⟩ := X4.specialBack hx (y := mq13) rfl hown (mvT hZ (hW hw 114 rfl)) (mvT hZ (hW hw 115 rfl)) (mvT hZ (hW hw 117 rfl)) (by decide) (backOf (W := 1) (rm18 l Z a0' hw [] b3 b_4 wa wb wc wd we ka kc G1 T4.heap n0 O12 W f9 f10 f11 gb3) hZ (hW hw 117 rfl) (hW hw 101 rfl) (by decide) (by decide)) (g := (mkF m 22 #[vi p0] [(.int 0), (.ref b_4), (.ref b3), (.ref b3)])) rfl (by rw [hml]; rfl) (Steps.refl _) (a := b3) (argsL := [(.ref b_4), (.int 0)]) (rest := [(.ref b3)]) (lenOf pd140 rfl) rfl (Nat.le_of_eq rfl) (hb hby d15_22) (fun _ _ => ⟨rfl, rfl, (by decide : 2 + 0 ≤ _), (by decide : 5 + 0 ≤ _)⟩)
  dsimp only [Pt.U, Pt.locs, Pt.cells, Pt.slots] at X7 l7 y7 z7 st7 hQ7
  subst l7 y7 z7
  obtain ⟨rfl, N7q, Kc7⟩ := hQ7
  have N7 := Fr.app N4 N7q
  refine gb (mkF m 25 #[vi p0] [(.ref b3)]) (fun _ k => st7.trans k) ?_
  have K13 := (K8.trans Kc7 (allS (Or.inr sb3) all0))
  have f14 := (Exa.keep f9 Kc7)
  exact Gl.outA X7 hx hk Bd.returns rfl rfl (hb hby d15_25) ⟨b3, rfl, N7, K13, f14⟩ (by decide) (by decide)
theorem d19_0 : decode prog_17_method_3_code 0 = .ok (.aload_n 0, 1) := by decide +kernel
theorem d19_1 : decode prog_17_method_3_code 1 = .ok (.iconst 0, 1) := by decide +kernel
theorem d19_2 : decode prog_17_method_3_code 2 = .ok (.putfield 16, 3) := by decide +kernel
theorem d19_5 : decode prog_17_method_3_code 5 = .ok (.aload_n 0, 1) := by decide +kernel
theorem d19_6 : decode prog_17_method_3_code 6 = .ok (.new 20, 3) := by decide +kernel
theorem d19_9 : decode prog_17_method_3_code 9 = .ok (.dup, 1) := by decide +kernel
theorem d19_10 : decode prog_17_method_3_code 10 = .ok (.aload_n 1, 1) := by decide +kernel
theorem d19_11 : decode prog_17_method_3_code 11 = .ok (.aload_n 2, 1) := by decide +kernel
theorem d19_12 : decode prog_17_method_3_code 12 = .ok (.invokespecial 24, 3) := by decide +kernel
theorem d19_15 : decode prog_17_method_3_code 15 = .ok (.invokevirtual 27, 3) := by decide +kernel
theorem d19_18 : decode prog_17_method_3_code 18 = .ok (.return_, 1) := by decide +kernel
theorem pd152 : parseMethodDescriptor "(Ljava/lang/String;Ljava/lang/String;)V" = some ⟨[(.object "java/lang/String"), (.object "java/lang/String")], none⟩ := by decide +kernel
theorem pd153 : parseMethodDescriptor "(Lcom/example/talaria/talaria/model/ProblemDetails$InvalidParam;)V" = some ⟨[(.object sI)], none⟩ := by decide +kernel
theorem ef190 (m : MethodId) (x0 x1 x2 : Addr) : entryFrame m #[(.ref x0), (.ref x1), (.ref x2)] 3 = mkF m 0 #[.val (.ref x0), .val (.ref x1), .val (.ref x2)] [] := by first | (simp [entryFrame, mkF, argsToLocals, Value.category]; done) | rfl
def Q190 (Z : State) (a0 : Addr) (a1 : Addr) (a2 : Addr) (la : Addr) (mc : Int32) (om : Int32) (wa wb wc wd we : Addr) (ka kc : ClassId) (G1 : Int32) (h0 : Heap) (n0 : Nat) (v : Option Value) (h : Heap) (L : List Loc) : Prop := ∃ (x : Addr), ∃ (om2 : Int32), ∃ (b : Addr), ∃ (kb : ClassId), v = none ∧ Fr n0 L ∧ Keep h0 h [a0, la] ∧ Exa Z h x sI ∧ Fld Z h a0 sF "found" "I" (.int 1) ∧ Fld Z h a0 sF "params" "Ljava/util/List;" (.ref la) ∧ Fld Z h a0 sF "onlyMissing" "Z" (.int om2) ∧ Fld Z h la sA "elementData" sO (.ref b) ∧ Fld Z h la sA "size" "I" (.int 1) ∧ Fld Z h la "java/util/AbstractList" "modCount" "I" (.int (mc + (1 : Int32))) ∧ Arv Z h b kb oT (10 : Int32) [(.ref x), .null, .null, .null, .null, .null, .null, .null, .null, .null] .null ∧ Exa Z h b sO ∧ n0 ≤ x ∧ n0 ≤ b ∧ Ovr Z kb "java/lang/Object" ∧ la ≠ b ∧ a0 ≠ b ∧ h0.size ≤ b
theorem rm190 (l : Launch) (Z : State) (a0' : Array Value) (hw : ∀ d ∈ tables_1, d.before a0' Z = true) (ws : List Jvm.Cond) (a0 : Addr) (a1 : Addr) (a2 : Addr) (la : Addr) (mc : Int32) (om : Int32) (wa wb wc wd we : Addr) (ka kc : ClassId) (G1 : Int32) (h0 : Heap) (n0 : Nat) (O : Old Z n0 h0) (W : Wd Z wa wb wc wd we ka kc G1) (pf0 : Exa Z h0 a0 sF) (pf1 : Fld Z h0 a0 sF "found" "I" (.int 0)) (pf2 : Fld Z h0 a0 sF "params" "Ljava/util/List;" (.ref la)) (pf3 : Fld Z h0 a0 sF "onlyMissing" "Z" (.int om)) (pf4 : Exa Z h0 la sA) (pf5 : Fld Z h0 la sA "elementData" sO (.ref wa)) (pf6 : Fld Z h0 la sA "size" "I" (.int 0)) (pf7 : Fld Z h0 la "java/util/AbstractList" "modCount" "I" (.int mc)) (gp_a0 : n0 ≤ a0) (gp_la : n0 ≤ la) (np_a0_la : a0 ≠ la) :
    MetFree l mq15 (head1 (Jvm.Cond.code mq15 prog_17_method_3_code 3 none :: ws) ({ frames := 6, cells := 2, slots := 12, locals := 82 } : Room)) (fun a U => a = #[(.ref a0), (.ref a1), (.ref a2)] ∧ Z.Warmed39 U.vm ∧ U.heap = h0) (fun _ _ _ _ _ => True) (fun _ U o U' => ∃ v L, o = .returned v ∧ Q190 Z a0 a1 a2 la mc om wa wb wc wd we ka kc G1 h0 n0 v U'.heap L ∧ FrameEnd U o U' L ({ frames := 6, cells := 2, slots := 12, locals := 82 } : Room).cells ({ frames := 6, cells := 2, slots := 12, locals := 82 } : Room).slots) := by
  refine MetFree.of_bodySF (plainFor_of_name pn3) hisR ?_
  intro p e s m args below meth c s₁ Bd hml0 hP hK
  obtain ⟨rfl, hZ, hh⟩ := hP
  have hx := Bd.exec
  have hby := Bd.bytes
  have hml : c.maxLocals = 3 := hml0
  have hown : s.vm.findClass sF = some m.cls := findClass_of_methodNamed Bd.named
  have hnm := (name_of_methodNamed Bd.named Bd.method).1
  have hk := Bd.notSynchronized
  have X0 : Stand p l e ({ frames := 6, cells := 2, slots := 12, locals := 82 } : Room) s m #[(.ref a0), (.ref a1), (.ref a2)] below meth c s₁ [] 0 0 := Stand.of_body Bd
  have hh2 := hh
  have e0 : s₁.heap = h0 := by rw [← hh, Bd.state]; rfl
  have N0 := Fr.nil n0
  show Gl p e below (Pos 2 12 (Q190 Z a0 a1 a2 la mc om wa wb wc wd we ka kc G1 h0 n0) s) s₁ _
  refine Gl.cast (ef190 m a0 a1 a2) ?_
  refine gb (mkF m 1 #[vr a0, vr a1, vr a2] [(.ref a0)]) (fun _ k => XS.aloadN X0.here hx rfl (hb hby d19_0) rfl rfl k) ?_
  refine gb (mkF m 2 #[vr a0, vr a1, vr a2] [(.int 0), (.ref a0)]) (fun _ k => XS.iconst X0.here hx rfl (hb hby d19_1) k) ?_
  obtain ⟨T1, h1, X1, e1, W1, st1⟩ := putFN X0 hx hZ hown (hW hw 35 rfl) Via.refl e0 pf3 pf0 (Or.inl (hW hw 36 rfl)) (hW hw 1 rfl) (ty := .boolean) (v' := (.int (nar .boolean (0 : Int32)))) (by decide) rfl (fits_nar_bool _) (g := (mkF m 2 #[vr a0, vr a1, vr a2] [(.int 0), (.ref a0)])) rfl rfl (hb hby d19_2)
  have N1 := Fr.snoc X1 N0 gp_a0
  have Fw1 := Fld.same W1 pf3
  refine gb (mkF m 5 #[vr a0, vr a1, vr a2] []) st1 ?_
  refine gb (mkF m 6 #[vr a0, vr a1, vr a2] [(.ref a0)]) (fun _ k => XS.aloadN X1.here hx rfl (hb hby d19_5) rfl rfl k) ?_
  have O3 := (O.wr W1 gp_a0)
  have f4 := (Exa.wr W1 pf0)
  have f5 := (Exa.wr W1 pf4)
  have K6 := ((Keep.refl h0 [a0, la]).wr W1 (Or.inl (List.mem_of_getElem? (i := 0) rfl)))
  obtain ⟨T2, h2, X2, e2, E2, A2, D2, -, st2⟩ := newO X1 hx hZ hown (hW hw 131 rfl) (hW hw 132 rfl) (hW hw 133 rfl) e1 (g := (mkF m 6 #[vr a0, vr a1, vr a2] [(.ref a0)])) rfl (hb hby d19_6) (by decide) (by decide)
  obtain ⟨b2, g2⟩ : ∃ z, z = (h1).size := ⟨_, rfl⟩
  rw [← g2] at A2 D2 st2
  have gb2 : n0 ≤ b2 := Nat.le_trans (Nat.le_trans (Nat.le_of_eq O3.1.symm) O3.2.1) (Nat.le_of_eq g2.symm)
  have sb2 : h0.size ≤ b2 := Nat.le_trans K6.1 (Nat.le_of_eq g2.symm)
  have ne2_2 : a0 ≠ b2 := Nat.ne_of_lt (Nat.lt_of_lt_of_le f4.lt (Nat.le_of_eq g2.symm))
  have ne2_4 : la ≠ b2 := Nat.ne_of_lt (Nat.lt_of_lt_of_le f5.lt (Nat.le_of_eq g2.symm))
  have ne2_6 : wa ≠ b2 := Nat.ne_of_lt (Nat.lt_of_lt_of_le (Arv.ext W.2.1 O3.2).lt (Nat.le_of_eq g2.symm))
  have ne2_8 : wc ≠ b2 := Nat.ne_of_lt (Nat.lt_of_lt_of_le (Arv.ext W.2.2.2.2.2.1 O3.2).lt (Nat.le_of_eq g2.symm))
  have ne2_10 : wb ≠ b2 := Nat.ne_of_lt (Nat.lt_of_lt_of_le (Exa.ext O3.2 W.2.2.2.1).lt (Nat.le_of_eq g2.symm))
  have ne2_12 : wd ≠ b2 := Nat.ne_of_lt (Nat.lt_of_lt_of_le (Exa.ext O3.2 W.2.2.2.2.2.2.2.1).lt (Nat.le_of_eq g2.symm))
  have D2_param : Fld Z h2 b2 sI "param" "Ljava/lang/String;" .null := D2 (Or.inr (hW hw 144 rfl)) (ty := (.object "java/lang/String")) (by decide)
  have D2_reason : Fld Z h2 b2 sI "reason" "Ljava/lang/String;" .null := D2 (Or.inr (hW hw 146 rfl)) (ty := (.object "java/lang/String")) (by decide)
  refine gb (mkF m 9 #[vr a0, vr a1, vr a2] [(.ref b2), (.ref a0)]) st2 ?_
  refine gb (mkF m 10 #[vr a0, vr a1, vr a2] [(.ref b2), (.ref b2), (.ref a0)]) (fun _ k => XS.dup X2.here hx rfl (hb hby d19_9) rfl rfl k) ?_
  refine gb (mkF m 11 #[vr a0, vr a1, vr a2] [(.ref a1), (.ref b2), (.ref b2), (.ref a0)]) (fun _ k => XS.aloadN X2.here hx rfl (hb hby d19_10) rfl rfl k) ?_
  refine gb (mkF m 12 #[vr a0, vr a1, vr a2] [(.ref a2), (.ref a1), (.ref b2), (.ref b2), (.ref a0)]) (fun _ k => XS.aloadN X2.here hx rfl (hb hby d19_11) rfl rfl k) ?_
  have K8 := (K6.ext E2)
  have O9 := (O3.ext E2)
  obtain ⟨_, _, ⟨T7, L7, k7, n7⟩, -, X7, ⟨Lc7, hQ7, l7, y7, z7⟩, st7⟩ := X2.specialBack hx (y := mq7) rfl hown (mvT hZ (hW hw 134 rfl)) (mvT hZ (hW hw 135 rfl)) (mvT hZ (hW hw 136 rfl)) (by decide) (backOf (W := 2) (rm20 l Z a0' hw [] b2 a1 a2 wa wb wc wd we ka kc G1 h2 n0 O9 W A2 D2_param D2_reason gb2) hZ (hW hw 136 rfl) (hW hw 133 rfl) (by decide) (by decide)) (g := (mkF m 12 #[vr a0, vr a1, vr a2] [(.ref a2), (.ref a1), (.ref b2), (.ref b2), (.ref a0)])) rfl (by rw [hml]; rfl) (Steps.refl _) (a := b2) (argsL := [(.ref a1), (.ref a2)]) (rest := [(.ref b2), (.ref a0)]) (lenOf pd152 rfl) rfl (Nat.le_of_eq rfl) (hb hby d19_12) (fun _ _ => ⟨rfl, e2, (by decide : 1 + 0 ≤ _), (by decide : 2 + 0 ≤ _)⟩)
  dsimp only [Pt.U, Pt.locs, Pt.cells, Pt.slots] at X7 l7 y7 z7 st7 hQ7
  subst l7 y7 z7
  obtain ⟨rfl, N7q, Kc7, fc7_0⟩ := hQ7
  have N7 := Fr.app N1 N7q
  refine gb (mkF m 15 #[vr a0, vr a1, vr a2] [(.ref b2), (.ref a0)]) (fun _ k => st7.trans k) ?_
  have f11 := (Exa.keep (Exa.ext E2 f4) Kc7)
  have K12 := (K8.trans Kc7 (allS (Or.inr sb2) all0))
  have f13 := (Fld.keep (Fld.ext E2 (Fld.other W1 pf1 (Or.inr (slot_ne (Or.inl (hW hw 43 rfl)) (Or.inl (hW hw 36 rfl)) (by decide) (t := .int) (t' := .boolean) (by decide) (by decide))))) Kc7 (ninS ne2_2 nin0))
  have f14 := (Fld.keep (Fld.ext E2 (Fld.other W1 pf2 (Or.inr (slot_ne (Or.inr (hW hw 34 rfl)) (Or.inl (hW hw 36 rfl)) (by decide) (t := (.object "java/util/List")) (t' := .boolean) (by decide) (by decide))))) Kc7 (ninS ne2_2 nin0))
  have f15 := (Fld.keep (Fld.ext E2 Fw1) Kc7 (ninS ne2_2 nin0))
  have f16 := (Exa.keep (Exa.ext E2 f5) Kc7)
  have f17 := (Fld.keep (Fld.ext E2 (Fld.other W1 pf5 (Or.inl (Ne.symm np_a0_la)))) Kc7 (ninS ne2_4 nin0))
  have f18 := (Fld.keep (Fld.ext E2 (Fld.other W1 pf6 (Or.inl (Ne.symm np_a0_la)))) Kc7 (ninS ne2_4 nin0))
  have f19 := (Fld.keep (Fld.ext E2 (Fld.other W1 pf7 (Or.inl (Ne.symm np_a0_la)))) Kc7 (ninS ne2_4 nin0))
  have O20 := (O9.keep Kc7 (allS gb2 all0))
  obtain ⟨cq10, q10, q10'⟩ := (f11).cell
  obtain ⟨_, _, ⟨T10, L10, k10, n10⟩, -, X10, ⟨Lc10, hQ10, l10, y10, z10⟩, st10⟩ := X7.privateBack hx (y := mq8) hown (mvT hZ (hW hw 147 rfl)) (mvT hZ (hW hw 148 rfl)) (selPriv (mvT hZ (hW hw 1 rfl)) (Cond.privateMethod_at (mvP hZ (hW hw 149 rfl) (args := #[]))) (mvT hZ (hW hw 148 rfl)) (by decide)) (Cond.privateMethod_at (mvP hZ (hW hw 149 rfl) (args := #[]))) (mvT hZ (hW hw 150 rfl)) (by decide) (backOf (W := 0) (rm220 l Z a0' hw [] a0 b2 la mc (nar .boolean (0 : Int32)) wa wb wc wd we ka kc G1 T7.heap n0 O20 W f11 f13 f14 f15 f16 f17 f18 f19 gp_a0 gp_la np_a0_la fc7_0) hZ (hW hw 150 rfl) (hW hw 2 rfl) (by decide) (by decide)) (g := (mkF m 15 #[vr a0, vr a1, vr a2] [(.ref b2), (.ref a0)])) rfl (by rw [hml]; rfl) (Steps.refl _) (a := a0) q10 q10' (argsL := [(.ref b2)]) (rest := []) (lenOf pd153 rfl) rfl (Nat.le_of_eq rfl) (hb hby d19_15) (fun _ _ => ⟨rfl, rfl, (by decide : 1 + 1 ≤ _), (by decide : 2 + 10 ≤ _)⟩)
  dsimp only [Pt.U, Pt.locs, Pt.cells, Pt.slots] at X10 l10 y10 z10 st10 hQ10
  subst l10 y10 z10
  obtain ⟨b_10, kb_10, rfl, N10q, Kc10, fc10_0, fc10_1, fc10_2, fc10_3, fc10_4, fc10_5, fc10_6, fc10_7, fc10_8⟩ := hQ10
  have N10 := Fr.app N7 N10q
  refine gb (mkF m 18 #[vr a0, vr a1, vr a2] []) (fun _ k => st10.trans k) ?_
  have K21 := (K12.trans Kc10 (allS (Or.inl (List.mem_of_getElem? (i := 0) rfl)) (allS (Or.inl (List.mem_of_getElem? (i := 1) rfl)) all0)))
  have f22 := (Exa.keep fc7_0 Kc10)
  exact Gl.outV X10 hx hk Bd.returns (hb hby d19_18) ⟨b2, (nar .boolean (0 : Int32)), b_10, kb_10, rfl, N10, K21, f22, fc10_0, fc10_1, fc10_2, fc10_3, fc10_4, fc10_5, fc10_6, fc10_7, ⟨gb2, ⟨fc10_8.1, fc10_8.2.1, fc10_8.2.2.1, fc10_8.2.2.2.1, (Nat.le_trans K12.1 fc10_8.2.2.2.2)⟩⟩⟩ (by decide) (by decide)
theorem d29_0 : decode prog_17_method_2_code 0 = .ok (.aload_n 0, 1) := by decide +kernel
theorem d29_1 : decode prog_17_method_2_code 1 = .ok (.new 20, 3) := by decide +kernel
theorem d29_4 : decode prog_17_method_2_code 4 = .ok (.dup, 1) := by decide +kernel
theorem d29_5 : decode prog_17_method_2_code 5 = .ok (.aload_n 1, 1) := by decide +kernel
theorem d29_6 : decode prog_17_method_2_code 6 = .ok (.ldc 22, 2) := by decide +kernel
theorem d29_8 : decode prog_17_method_2_code 8 = .ok (.invokespecial 24, 3) := by decide +kernel
theorem d29_11 : decode prog_17_method_2_code 11 = .ok (.invokevirtual 27, 3) := by decide +kernel
theorem d29_14 : decode prog_17_method_2_code 14 = .ok (.return_, 1) := by decide +kernel
theorem ef290 (m : MethodId) (x0 x1 : Addr) : entryFrame m #[(.ref x0), (.ref x1)] 2 = mkF m 0 #[.val (.ref x0), .val (.ref x1)] [] := by first | (simp [entryFrame, mkF, argsToLocals, Value.category]; done) | rfl
def Q290 (Z : State) (a0 : Addr) (a1 : Addr) (la : Addr) (mc : Int32) (om : Int32) (wa wb wc wd we : Addr) (ka kc : ClassId) (G1 : Int32) (h0 : Heap) (n0 : Nat) (v : Option Value) (h : Heap) (L : List Loc) : Prop := ∃ (x : Addr), ∃ (om2 : Int32), ∃ (b : Addr), ∃ (kb : ClassId), v = none ∧ Fr n0 L ∧ Keep h0 h [a0, la] ∧ Exa Z h x sI ∧ Fld Z h a0 sF "found" "I" (.int 1) ∧ Fld Z h a0 sF "params" "Ljava/util/List;" (.ref la) ∧ Fld Z h a0 sF "onlyMissing" "Z" (.int om2) ∧ Fld Z h la sA "elementData" sO (.ref b) ∧ Fld Z h la sA "size" "I" (.int 1) ∧ Fld Z h la "java/util/AbstractList" "modCount" "I" (.int (mc + (1 : Int32))) ∧ Arv Z h b kb oT (10 : Int32) [(.ref x), .null, .null, .null, .null, .null, .null, .null, .null, .null] .null ∧ Exa Z h b sO ∧ n0 ≤ x ∧ n0 ≤ b ∧ Ovr Z kb "java/lang/Object" ∧ la ≠ b ∧ a0 ≠ b ∧ h0.size ≤ b
theorem rm290 (l : Launch) (Z : State) (a0' : Array Value) (hw : ∀ d ∈ tables_1, d.before a0' Z = true) (ws : List Jvm.Cond) (a0 : Addr) (a1 : Addr) (la : Addr) (mc : Int32) (om : Int32) (wa wb wc wd we : Addr) (ka kc : ClassId) (G1 : Int32) (h0 : Heap) (n0 : Nat) (O : Old Z n0 h0) (W : Wd Z wa wb wc wd we ka kc G1) (pf0 : Exa Z h0 a0 sF) (pf1 : Fld Z h0 a0 sF "found" "I" (.int 0)) (pf2 : Fld Z h0 a0 sF "params" "Ljava/util/List;" (.ref la)) (pf3 : Fld Z h0 a0 sF "onlyMissing" "Z" (.int om)) (pf4 : Exa Z h0 la sA) (pf5 : Fld Z h0 la sA "elementData" sO (.ref wa)) (pf6 : Fld Z h0 la sA "size" "I" (.int 0)) (pf7 : Fld Z h0 la "java/util/AbstractList" "modCount" "I" (.int mc)) (gp_a0 : n0 ≤ a0) (gp_la : n0 ≤ la) (np_a0_la : a0 ≠ la) :
    MetFree l mq16 (head1 (Jvm.Cond.code mq16 prog_17_method_2_code 2 none :: ws) ({ frames := 6, cells := 4, slots := 44, locals := 82 } : Room)) (fun a U => a = #[(.ref a0), (.ref a1)] ∧ Z.Warmed39 U.vm ∧ U.heap = h0) (fun _ _ _ _ _ => True) (fun _ U o U' => ∃ v L, o = .returned v ∧ Q290 Z a0 a1 la mc om wa wb wc wd we ka kc G1 h0 n0 v U'.heap L ∧ ReturnedEndW U o U' L ({ frames := 6, cells := 4, slots := 44, locals := 82 } : Room).cells ({ frames := 6, cells := 4, slots := 44, locals := 82 } : Room).slots) := by
  refine MetFree.of_bodySF (plainFor_of_name pn3) hisR ?_
  intro p e s m args below meth c s₁ Bd hml0 hP hK
  obtain ⟨rfl, hZ, hh⟩ := hP
  have hx := Bd.exec
  have hby := Bd.bytes
  have hml : c.maxLocals = 2 := hml0
  have hown : s.vm.findClass sF = some m.cls := findClass_of_methodNamed Bd.named
  have hnm := (name_of_methodNamed Bd.named Bd.method).1
  have hk := Bd.notSynchronized
  have X0 : Stand p l e ({ frames := 6, cells := 4, slots := 44, locals := 82 } : Room) (s.setVm s.vm) m #[(.ref a0), (.ref a1)] below meth c s₁ [] 0 0 := Stand.of_body Bd
  have hS : s.Since s.vm h0.size := State.WarmedH.since (State.WarmedH.refl s) _
  have e0 : s₁.heap = h0 := by rw [← hh, Bd.state]; rfl
  have N0 := Fr.nil n0
  show Gl p e below (PosW 4 44 (Q290 Z a0 a1 la mc om wa wb wc wd we ka kc G1 h0 n0) s) s₁ _
  refine Gl.cast (ef290 m a0 a1) ?_
  refine gb (mkF m 1 #[vr a0, vr a1] [(.ref a0)]) (fun _ k => XS.aloadN X0.here hx rfl (hb hby d29_0) rfl rfl k) ?_
  obtain ⟨T1, h1, X1, e1, E1, A1, D1, -, st1⟩ := newO X0 hx hZ hown (hW hw 131 rfl) (hW hw 132 rfl) (hW hw 133 rfl) e0 (g := (mkF m 1 #[vr a0, vr a1] [(.ref a0)])) rfl (hb hby d29_1) (by decide) (by decide)
  obtain ⟨b1, g1⟩ : ∃ z, z = (h0).size := ⟨_, rfl⟩
  rw [← g1] at A1 D1 st1
  have gb1 : n0 ≤ b1 := Nat.le_trans (Nat.le_trans (Nat.le_of_eq O.1.symm) O.2.1) (Nat.le_of_eq g1.symm)
  have sb1 : h0.size ≤ b1 := Nat.le_trans (Keep.refl h0 [a0, la]).1 (Nat.le_of_eq g1.symm)
  have ne1_2 : a0 ≠ b1 := Nat.ne_of_lt (Nat.lt_of_lt_of_le pf0.lt (Nat.le_of_eq g1.symm))
  have ne1_4 : la ≠ b1 := Nat.ne_of_lt (Nat.lt_of_lt_of_le pf4.lt (Nat.le_of_eq g1.symm))
  have ne1_6 : wa ≠ b1 := Nat.ne_of_lt (Nat.lt_of_lt_of_le (Arv.ext W.2.1 O.2).lt (Nat.le_of_eq g1.symm))
  have ne1_8 : wc ≠ b1 := Nat.ne_of_lt (Nat.lt_of_lt_of_le (Arv.ext W.2.2.2.2.2.1 O.2).lt (Nat.le_of_eq g1.symm))
  have ne1_10 : wb ≠ b1 := Nat.ne_of_lt (Nat.lt_of_lt_of_le (Exa.ext O.2 W.2.2.2.1).lt (Nat.le_of_eq g1.symm))
  have ne1_12 : wd ≠ b1 := Nat.ne_of_lt (Nat.lt_of_lt_of_le (Exa.ext O.2 W.2.2.2.2.2.2.2.1).lt (Nat.le_of_eq g1.symm))
  have D1_param : Fld Z h1 b1 sI "param" "Ljava/lang/String;" .null := D1 (Or.inr (hW hw 144 rfl)) (ty := (.object "java/lang/String")) (by decide)
  have D1_reason : Fld Z h1 b1 sI "reason" "Ljava/lang/String;" .null := D1 (Or.inr (hW hw 146 rfl)) (ty := (.object "java/lang/String")) (by decide)
  refine gb (mkF m 4 #[vr a0, vr a1] [(.ref b1), (.ref a0)]) st1 ?_
  refine gb (mkF m 5 #[vr a0, vr a1] [(.ref b1), (.ref b1), (.ref a0)]) (fun _ k => XS.dup X1.here hx rfl (hb hby d29_4) rfl rfl k) ?_
  refine gb (mkF m 6 #[vr a0, vr a1] [(.ref a1), (.ref b1), (.ref b1), (.ref a0)]) (fun _ k => XS.aloadN X1.here hx rfl (hb hby d29_5) rfl rfl k) ?_
  have sz3 := (Nat.le_trans (Nat.le_refl h0.size) E1.1)
  obtain ⟨c2, T2, h2, k2, X2, e2, E2, hS, hk2, hZ, hown, st2⟩ := ldcS X1 hx hZ hown (hW hw 195 rfl) (wS hw) e1 hS sz3 (g := (mkF m 6 #[vr a0, vr a1] [(.ref a1), (.ref b1), (.ref b1), (.ref a0)])) rfl (hb hby d29_6) (n := 28) (by decide) (by decide) (by decide) (by decide)
  refine gb (mkF m 8 #[vr a0, vr a1] [(.ref c2), (.ref a1), (.ref b1), (.ref b1), (.ref a0)]) st2 ?_
  have K5 := (((Keep.refl h0 [a0, la]).ext E1).ext E2)
  have f6 := (Exa.ext E2 A1)
  have f7 := (Fld.ext E2 D1_param)
  have f8 := (Fld.ext E2 D1_reason)
  have O9 := ((O.ext E1).ext E2)
  obtain ⟨_, _, ⟨T4, L4, k4, n4⟩, -, X4, ⟨Lc4, hQ4, l4, y4, z4⟩, st4⟩ := X2.specialBack hx (y := mq7) rfl hown (mvT hZ (hW hw 134 rfl)) (mvT hZ (hW hw 135 rfl)) (mvT hZ (hW hw 136 rfl)) (by decide) (backOf (W := 2) (rm20 l Z a0' hw [] b1 a1 c2 wa wb wc wd we ka kc G1 h2 n0 O9 W f6 f7 f8 gb1) hZ (hW hw 136 rfl) (hW hw 133 rfl) (by decide) (by decide)) (g := (mkF m 8 #[vr a0, vr a1] [(.ref c2), (.ref a1), (.ref b1), (.ref b1), (.ref a0)])) rfl (by rw [hml]; rfl) (Steps.refl _) (a := b1) (argsL := [(.ref a1), (.ref c2)]) (rest := [(.ref b1), (.ref a0)]) (lenOf pd152 rfl) rfl (Nat.le_of_eq rfl) (hb hby d29_8) (fun _ _ => ⟨rfl, e2, (by decide : 3 + 0 ≤ _), (by decide : 34 + 0 ≤ _)⟩)
  dsimp only [Pt.U, Pt.locs, Pt.cells, Pt.slots] at X4 l4 y4 z4 st4 hQ4
  subst l4 y4 z4
  obtain ⟨rfl, N4q, Kc4, fc4_0⟩ := hQ4
  have N4 := Fr.app N0 N4q
  refine gb (mkF m 11 #[vr a0, vr a1] [(.ref b1), (.ref a0)]) (fun _ k => st4.trans k) ?_
  have f11 := (Exa.keep (Exa.ext E2 (Exa.ext E1 pf0)) Kc4)
  have K12 := (K5.trans Kc4 (allS (Or.inr sb1) all0))
  have f13 := (Fld.keep (Fld.ext E2 (Fld.ext E1 pf1)) Kc4 (ninS ne1_2 nin0))
  have f14 := (Fld.keep (Fld.ext E2 (Fld.ext E1 pf2)) Kc4 (ninS ne1_2 nin0))
  have f15 := (Fld.keep (Fld.ext E2 (Fld.ext E1 pf3)) Kc4 (ninS ne1_2 nin0))
  have f16 := (Exa.keep (Exa.ext E2 (Exa.ext E1 pf4)) Kc4)
  have f17 := (Fld.keep (Fld.ext E2 (Fld.ext E1 pf5)) Kc4 (ninS ne1_4 nin0))
  have f18 := (Fld.keep (Fld.ext E2 (Fld.ext E1 pf6)) Kc4 (ninS ne1_4 nin0))
  have f19 := (Fld.keep (Fld.ext E2 (Fld.ext E1 pf7)) Kc4 (ninS ne1_4 nin0))
  have O20 := (O9.keep Kc4 (allS gb1 all0))
  obtain ⟨cq10, q10, q10'⟩ := (f11).cell
  obtain ⟨_, _, ⟨T10, L10, k10, n10⟩, -, X10, ⟨Lc10, hQ10, l10, y10, z10⟩, st10⟩ := X4.privateBack hx (y := mq8) hown (mvT hZ (hW hw 147 rfl)) (mvT hZ (hW hw 148 rfl)) (selPriv (mvT hZ (hW hw 1 rfl)) (Cond.privateMethod_at (mvP hZ (hW hw 149 rfl) (args := #[]))) (mvT hZ (hW hw 148 rfl)) (by decide)) (Cond.privateMethod_at (mvP hZ (hW hw 149 rfl) (args := #[]))) (mvT hZ (hW hw 150 rfl)) (by decide) (backOf (W := 0) (rm220 l Z a0' hw [] a0 b1 la mc om wa wb wc wd we ka kc G1 T4.heap n0 O20 W f11 f13 f14 f15 f16 f17 f18 f19 gp_a0 gp_la np_a0_la fc4_0) hZ (hW hw 150 rfl) (hW hw 2 rfl) (by decide) (by decide)) (g := (mkF m 11 #[vr a0, vr a1] [(.ref b1), (.ref a0)])) rfl (by rw [hml]; rfl) (Steps.refl _) (a := a0) q10 q10' (argsL := [(.ref b1)]) (rest := []) (lenOf pd153 rfl) rfl (Nat.le_of_eq rfl) (hb hby d29_11) (fun _ _ => ⟨rfl, rfl, (by decide : 3 + 1 ≤ _), (by decide : 34 + 10 ≤ _)⟩)
  dsimp only [Pt.U, Pt.locs, Pt.cells, Pt.slots] at X10 l10 y10 z10 st10 hQ10
  subst l10 y10 z10
  obtain ⟨b_10, kb_10, rfl, N10q, Kc10, fc10_0, fc10_1, fc10_2, fc10_3, fc10_4, fc10_5, fc10_6, fc10_7, fc10_8⟩ := hQ10
  have N10 := Fr.app N4 N10q
  refine gb (mkF m 14 #[vr a0, vr a1] []) (fun _ k => st10.trans k) ?_
  have sz21 := (Nat.le_trans (Nat.le_trans hk2 Kc4.1) Kc10.1)
  have K22 := (K12.trans Kc10 (allS (Or.inl (List.mem_of_getElem? (i := 0) rfl)) (allS (Or.inl (List.mem_of_getElem? (i := 1) rfl)) all0)))
  have f23 := (Exa.keep fc4_0 Kc10)
  exact Gl.outVW X10 hS sz21 hx hk Bd.returns (hb hby d29_14) ⟨b1, om, b_10, kb_10, rfl, N10, K22, f23, fc10_0, fc10_1, fc10_2, fc10_3, fc10_4, fc10_5, fc10_6, fc10_7, ⟨gb1, ⟨fc10_8.1, fc10_8.2.1, fc10_8.2.2.1, fc10_8.2.2.2.1, (Nat.le_trans K12.1 fc10_8.2.2.2.2)⟩⟩⟩ (by decide) (by decide)
theorem d14_0 : decode method_2_code 0 = .ok (.iload_n 2, 1) := by decide +kernel
theorem d14_1 : decode method_2_code 1 = .ok (.sipush 255, 3) := by decide +kernel
theorem d14_4 : decode method_2_code 4 = .ok (.iand, 1) := by decide +kernel
theorem d14_5 : decode method_2_code 5 = .ok (.i2c, 1) := by decide +kernel
theorem d14_6 : decode method_2_code 6 = .ok (.invokestatic 7, 3) := by decide +kernel
theorem d14_9 : decode method_2_code 9 = .ok (.astore_n 3, 1) := by decide +kernel
theorem d14_10 : decode method_2_code 10 = .ok (.iload_n 1, 1) := by decide +kernel
theorem d14_11 : decode method_2_code 11 = .ok (.iconst 1, 1) := by decide +kernel
theorem d14_12 : decode method_2_code 12 = .ok (.iand, 1) := by decide +kernel
theorem d14_13 : decode method_2_code 13 = .ok (.ifCond .eq 13, 3) := by decide +kernel
theorem d14_16 : decode method_2_code 16 = .ok (.aload_n 0, 1) := by decide +kernel
theorem d14_17 : decode method_2_code 17 = .ok (.aload_n 3, 1) := by decide +kernel
theorem d14_18 : decode method_2_code 18 = .ok (.ldc 13, 2) := by decide +kernel
theorem d14_20 : decode method_2_code 20 = .ok (.invokevirtual 15, 3) := by decide +kernel
theorem d14_23 : decode method_2_code 23 = .ok (.goto 8, 3) := by decide +kernel
theorem d14_26 : decode method_2_code 26 = .ok (.aload_n 0, 1) := by decide +kernel
theorem d14_27 : decode method_2_code 27 = .ok (.aload_n 3, 1) := by decide +kernel
theorem d14_28 : decode method_2_code 28 = .ok (.invokevirtual 21, 3) := by decide +kernel
theorem d14_31 : decode method_2_code 31 = .ok (.return_, 1) := by decide +kernel
theorem pn6 : plainName "com/example/talaria/talaria/model/FaultsFullPinLaw" = true := by first | (simp [plainName, overriddenIn]; done) | decide +kernel
theorem pd181 : parseMethodDescriptor "(C)Ljava/lang/String;" = some ⟨[.char], some (.object "java/lang/String")⟩ := by decide +kernel
theorem pd182 : parseMethodDescriptor "(Ljava/lang/String;)V" = some ⟨[(.object "java/lang/String")], none⟩ := by decide +kernel
theorem ef140 (m : MethodId) (x0 : Addr) (x1 : Int32) (x2 : Int32) : entryFrame m #[(.ref x0), (.int x1), (.int x2)] 4 = mkF m 0 #[.val (.ref x0), .val (.int x1), .val (.int x2), .unset] [] := by first | (simp [entryFrame, mkF, argsToLocals, Value.category]; done) | rfl
def Q140 (Z : State) (a0 : Addr) (p1 : Int32) (p2 : Int32) (la : Addr) (mc : Int32) (om : Int32) (wa wb wc wd we : Addr) (ka kc : ClassId) (G1 : Int32) (h0 : Heap) (n0 : Nat) (v : Option Value) (h : Heap) (L : List Loc) : Prop := ∃ (x : Addr), ∃ (om2 : Int32), ∃ (b : Addr), ∃ (kb : ClassId), v = none ∧ Fr n0 L ∧ Keep h0 h [a0, la] ∧ Exa Z h x sI ∧ Fld Z h a0 sF "found" "I" (.int 1) ∧ Fld Z h a0 sF "params" "Ljava/util/List;" (.ref la) ∧ Fld Z h a0 sF "onlyMissing" "Z" (.int om2) ∧ Fld Z h la sA "elementData" sO (.ref b) ∧ Fld Z h la sA "size" "I" (.int 1) ∧ Fld Z h la "java/util/AbstractList" "modCount" "I" (.int (mc + (1 : Int32))) ∧ Arv Z h b kb oT (10 : Int32) [(.ref x), .null, .null, .null, .null, .null, .null, .null, .null, .null] .null ∧ Exa Z h b sO ∧ n0 ≤ x ∧ n0 ≤ b ∧ Ovr Z kb "java/lang/Object" ∧ la ≠ b ∧ a0 ≠ b ∧ h0.size ≤ b
theorem rm140 (l : Launch) (Z : State) (a0' : Array Value) (hw : ∀ d ∈ tables_1, d.before a0' Z = true) (ws : List Jvm.Cond) (a0 : Addr) (p1 : Int32) (p2 : Int32) (la : Addr) (mc : Int32) (om : Int32) (wa wb wc wd we : Addr) (ka kc : ClassId) (G1 : Int32) (h0 : Heap) (n0 : Nat) (O : Old Z n0 h0) (W : Wd Z wa wb wc wd we ka kc G1) (pf0 : Exa Z h0 a0 sF) (pf1 : Fld Z h0 a0 sF "found" "I" (.int 0)) (pf2 : Fld Z h0 a0 sF "params" "Ljava/util/List;" (.ref la)) (pf3 : Fld Z h0 a0 sF "onlyMissing" "Z" (.int om)) (pf4 : Exa Z h0 la sA) (pf5 : Fld Z h0 la sA "elementData" sO (.ref wa)) (pf6 : Fld Z h0 la sA "size" "I" (.int 0)) (pf7 : Fld Z h0 la "java/util/AbstractList" "modCount" "I" (.int mc)) (gp_a0 : n0 ≤ a0) (gp_la : n0 ≤ la) (np_a0_la : a0 ≠ la) :
    MetFree l mq17 (head1 (Jvm.Cond.code mq17 method_2_code 4 none :: ws) ({ frames := 7, cells := 6, slots := 49, locals := 96 } : Room)) (fun a U => a = #[(.ref a0), (.int p1), (.int p2)] ∧ Z.Warmed39 U.vm ∧ U.heap = h0) (fun _ _ _ _ _ => True) (fun _ U o U' => ∃ v L, o = .returned v ∧ Q140 Z a0 p1 p2 la mc om wa wb wc wd we ka kc G1 h0 n0 v U'.heap L ∧ ReturnedEndW U o U' L ({ frames := 7, cells := 6, slots := 49, locals := 96 } : Room).cells ({ frames := 7, cells := 6, slots := 49, locals := 96 } : Room).slots) := by
  refine MetFree.of_bodySF (plainFor_of_name pn6) hisR ?_
  intro p e s m args below meth c s₁ Bd hml0 hP hK
  obtain ⟨rfl, hZ, hh⟩ := hP
  have hx := Bd.exec
  have hby := Bd.bytes
  have hml : c.maxLocals = 4 := hml0
  have hown : s.vm.findClass "com/example/talaria/talaria/model/FaultsFullPinLaw" = some m.cls := findClass_of_methodNamed Bd.named
  have hnm := (name_of_methodNamed Bd.named Bd.method).1
  have hk := Bd.notSynchronized
  have X0 : Stand p l e ({ frames := 7, cells := 6, slots := 49, locals := 96 } : Room) (s.setVm s.vm) m #[(.ref a0), (.int p1), (.int p2)] below meth c s₁ [] 0 0 := Stand.of_body Bd
  have hS : s.Since s.vm h0.size := State.WarmedH.since (State.WarmedH.refl s) _
  have e0 : s₁.heap = h0 := by rw [← hh, Bd.state]; rfl
  have N0 := Fr.nil n0
  show Gl p e below (PosW 6 49 (Q140 Z a0 p1 p2 la mc om wa wb wc wd we ka kc G1 h0 n0) s) s₁ _
  refine Gl.cast (ef140 m a0 p1 p2) ?_
  refine gb (mkF m 1 #[vr a0, vi p1, vi p2, .unset] [(.int p2)]) (fun _ k => XS.iloadN X0.here hx rfl (hb hby d14_0) rfl k) ?_
  refine gb (mkF m 4 #[vr a0, vi p1, vi p2, .unset] [(.int 255), (.int p2)]) (fun _ k => XS.sipush X0.here hx rfl (hb hby d14_1) k) ?_
  refine gb (mkF m 5 #[vr a0, vi p1, vi p2, .unset] [(.int (p2 &&& (255 : Int32)))]) (fun _ k => XS.iand X0.here hx rfl (hb hby d14_4) rfl k) ?_
  refine gb (mkF m 6 #[vr a0, vi p1, vi p2, .unset] [(.int ((p2 &&& (255 : Int32)).toUInt32.toUInt16.toUInt32.toInt32))]) (fun _ k => XS.i2c X0.here hx rfl (hb hby d14_5) rfl k) ?_
  obtain ⟨_, _, ⟨T1, L1, k1, n1⟩, -, X1, ⟨Lc1, hQ1, l1, y1, z1⟩, st1⟩ := callS X0 hx (y := mq14) hown (mvT hZ (hW hw 99 rfl)) (mvT hZ (hW hw 100 rfl)) (mvT hZ (hW hw 101 rfl)) (mvT hZ (hW hw 102 rfl)) (by decide) (backOf (W := 0) (rm15 l Z a0' hw [] ((p2 &&& (255 : Int32)).toUInt32.toUInt16.toUInt32.toInt32) wa wb wc wd we ka kc G1 h0 n0 O W (chc p2)) hZ (hW hw 102 rfl) (hW hw 101 rfl) (by decide) (by decide)) (g := (mkF m 6 #[vr a0, vi p1, vi p2, .unset] [(.int ((p2 &&& (255 : Int32)).toUInt32.toUInt16.toUInt32.toInt32))])) rfl (by rw [hml]; rfl) (argsL := [(.int ((p2 &&& (255 : Int32)).toUInt32.toUInt16.toUInt32.toInt32))]) (rest := []) (lenOf pd181 rfl) rfl (Nat.le_of_eq rfl) (hb hby d14_6) (fun _ _ => ⟨rfl, e0, (by decide : 0 + 2 ≤ _), (by decide : 0 + 5 ≤ _)⟩)
  dsimp only [Pt.U, Pt.locs, Pt.cells, Pt.slots] at X1 l1 y1 z1 st1 hQ1
  subst l1 y1 z1
  obtain ⟨b_1, rfl, N1q, Kc1, fc1_0⟩ := hQ1
  have N1 := Fr.app N0 N1q
  refine gb (mkF m 9 #[vr a0, vi p1, vi p2, .unset] [(.ref b_1)]) st1 ?_
  refine gb (mkF m 10 #[vr a0, vi p1, vi p2, vr b_1] []) (fun _ k => XS.astoreN X1.here hx rfl (hb hby d14_9) rfl rfl (l' := #[vr a0, vi p1, vi p2, vr b_1]) rfl k) ?_
  refine gb (mkF m 11 #[vr a0, vi p1, vi p2, vr b_1] [(.int p1)]) (fun _ k => XS.iloadN X1.here hx rfl (hb hby d14_10) rfl k) ?_
  refine gb (mkF m 12 #[vr a0, vi p1, vi p2, vr b_1] [(.int 1), (.int p1)]) (fun _ k => XS.iconst X1.here hx rfl (hb hby d14_11) k) ?_
  refine gb (mkF m 13 #[vr a0, vi p1, vi p2, vr b_1] [(.int (p1 &&& (1 : Int32)))]) (fun _ k => XS.iand X1.here hx rfl (hb hby d14_12) rfl k) ?_
  by_cases hc2 : (p1 &&& (1 : Int32)) = (0 : Int32)
  · refine gb (mkF m 26 #[vr a0, vi p1, vi p2, vr b_1] []) (fun _ k => XS.ifYes X1.here hx rfl (pc0 := 13) (pc' := 26) rfl (hb hby d14_13) rfl ((if0 _ _).trans (teq hc2).1) (by decide) (by decide) k) ?_
    refine gb (mkF m 27 #[vr a0, vi p1, vi p2, vr b_1] [(.ref a0)]) (fun _ k => XS.aloadN X1.here hx rfl (hb hby d14_26) rfl rfl k) ?_
    refine gb (mkF m 28 #[vr a0, vi p1, vi p2, vr b_1] [(.ref b_1), (.ref a0)]) (fun _ k => XS.aloadN X1.here hx rfl (hb hby d14_27) rfl rfl k) ?_
    have f4 := (Exa.keep pf0 Kc1)
    have K5 := ((Keep.refl h0 [a0, la]).trans Kc1 all0)
    have f6 := (Fld.keep pf1 Kc1 nin0)
    have f7 := (Fld.keep pf2 Kc1 nin0)
    have f8 := (Fld.keep pf3 Kc1 nin0)
    have f9 := (Exa.keep pf4 Kc1)
    have f10 := (Fld.keep pf5 Kc1 nin0)
    have f11 := (Fld.keep pf6 Kc1 nin0)
    have f12 := (Fld.keep pf7 Kc1 nin0)
    have O13 := (O.keep Kc1 all0)
    obtain ⟨cq3, kq3, q3a, q3b, q3c⟩ := isOf hZ rfl f4
    obtain ⟨_, _, ⟨T3, L3, k3, n3⟩, -, X3, hS3, hg3, ⟨Lc3, hQ3, l3, y3, z3⟩, st3⟩ := X1.virtualBackS hx (y := mq16) (z := mq16) hown (mvT hZ (hW hw 190 rfl)) (mvT hZ (hW hw 191 rfl)) (notFace_of_selects (args := #[]) (mvT hZ (hW hw 193 rfl))) (mvT hZ (hW hw 193 rfl)) (mvT hZ (hW hw 192 rfl)) (by decide) (backOfS (W := 0) (rm290 l Z a0' hw [] a0 b_1 la mc om wa wb wc wd we ka kc G1 T1.heap n0 O13 W f4 f6 f7 f8 f9 f10 f11 f12 gp_a0 gp_la np_a0_la) hZ (hW hw 194 rfl) (hW hw 2 rfl) (by decide) (by decide)) q3a q3c (g := (mkF m 28 #[vr a0, vi p1, vi p2, vr b_1] [(.ref b_1), (.ref a0)])) rfl (by rw [hml]; rfl) (Steps.refl _) (argsL := [(.ref b_1)]) (rest := []) (lenOf pd182 rfl) rfl (Nat.le_of_eq rfl) (hb hby d14_28) (fun _ _ => ⟨rfl, rfl, (by decide : 2 + 4 ≤ _), (by decide : 5 + 44 ≤ _)⟩)
    dsimp only [Pt.U, Pt.locs, Pt.cells, Pt.slots] at X3 l3 y3 z3 st3 hQ3
    subst l3 y3 z3
    have sz14 := (Nat.le_trans (Nat.le_refl h0.size) Kc1.1)
    obtain ⟨X3, hS, hZ, hown⟩ := rebS hS sz14 X3 hS3 hg3 hZ hown
    obtain ⟨x_3, om2_3, b_3, kb_3, rfl, N3q, Kc3, fc3_0, fc3_1, fc3_2, fc3_3, fc3_4, fc3_5, fc3_6, fc3_7, fc3_8, fc3_9⟩ := hQ3
    have N3 := Fr.app N1 N3q
    refine gb (mkF m 31 #[vr a0, vi p1, vi p2, vr b_1] []) (fun _ k => st3.trans k) ?_
    have K15 := (K5.trans Kc3 (allS (Or.inl (List.mem_of_getElem? (i := 0) rfl)) (allS (Or.inl (List.mem_of_getElem? (i := 1) rfl)) all0)))
    exact Gl.outVW X3 hS (Nat.le_refl _) hx hk Bd.returns (hb hby d14_31) ⟨x_3, om2_3, b_3, kb_3, rfl, N3, K15, fc3_0, fc3_1, fc3_2, fc3_3, fc3_4, fc3_5, fc3_6, fc3_7, fc3_8, ⟨fc3_9.1, ⟨fc3_9.2.1, fc3_9.2.2.1, fc3_9.2.2.2.1, fc3_9.2.2.2.2.1, (Nat.le_trans K5.1 fc3_9.2.2.2.2.2)⟩⟩⟩ (by decide) (by decide)
  · refine gb (mkF m 16 #[vr a0, vi p1, vi p2, vr b_1] []) (fun _ k => XS.ifNo X1.here hx rfl (hb hby d14_13) rfl ((if0 _ _).trans (feq hc2).1) k) ?_
    refine gb (mkF m 17 #[vr a0, vi p1, vi p2, vr b_1] [(.ref a0)]) (fun _ k => XS.aloadN X1.here hx rfl (hb hby d14_16) rfl rfl k) ?_
    refine gb (mkF m 18 #[vr a0, vi p1, vi p2, vr b_1] [(.ref b_1), (.ref a0)]) (fun _ k => XS.aloadN X1.here hx rfl (hb hby d14_17) rfl rfl k) ?_
    have sz17 := (Nat.le_trans (Nat.le_refl h0.size) Kc1.1)
    obtain ⟨c16, T16, h16, k16, X16, e16, E16, hS, hk16, hZ, hown, st16⟩ := ldcS X1 hx hZ hown (hW hw 123 rfl) (wS hw) rfl hS sz17 (g := (mkF m 18 #[vr a0, vi p1, vi p2, vr b_1] [(.ref b_1), (.ref a0)])) rfl (hb hby d14_18) (n := 12) (by decide) (by decide) (by decide) (by decide)
    refine gb (mkF m 20 #[vr a0, vi p1, vi p2, vr b_1] [(.ref c16), (.ref b_1), (.ref a0)]) st16 ?_
    have f19 := (Exa.ext E16 (Exa.keep pf0 Kc1))
    have K20 := (((Keep.refl h0 [a0, la]).trans Kc1 all0).ext E16)
    have f21 := (Fld.ext E16 (Fld.keep pf1 Kc1 nin0))
    have f22 := (Fld.ext E16 (Fld.keep pf2 Kc1 nin0))
    have f23 := (Fld.ext E16 (Fld.keep pf3 Kc1 nin0))
    have f24 := (Exa.ext E16 (Exa.keep pf4 Kc1))
    have f25 := (Fld.ext E16 (Fld.keep pf5 Kc1 nin0))
    have f26 := (Fld.ext E16 (Fld.keep pf6 Kc1 nin0))
    have f27 := (Fld.ext E16 (Fld.keep pf7 Kc1 nin0))
    have O28 := ((O.keep Kc1 all0).ext E16)
    obtain ⟨cq18, kq18, q18a, q18b, q18c⟩ := isOf hZ e16 f19
    obtain ⟨_, _, ⟨T18, L18, k18, n18⟩, -, X18, ⟨Lc18, hQ18, l18, y18, z18⟩, st18⟩ := X16.virtualBack hx (y := mq15) (z := mq15) hown (mvT hZ (hW hw 126 rfl)) (mvT hZ (hW hw 127 rfl)) (notFace_of_selects (args := #[]) (mvT hZ (hW hw 129 rfl))) (mvT hZ (hW hw 129 rfl)) (mvT hZ (hW hw 128 rfl)) (by decide) (backOf (W := 0) (rm190 l Z a0' hw [] a0 b_1 c16 la mc om wa wb wc wd we ka kc G1 h16 n0 O28 W f19 f21 f22 f23 f24 f25 f26 f27 gp_a0 gp_la np_a0_la) hZ (hW hw 130 rfl) (hW hw 2 rfl) (by decide) (by decide)) q18a q18c (g := (mkF m 20 #[vr a0, vi p1, vi p2, vr b_1] [(.ref c16), (.ref b_1), (.ref a0)])) rfl (by rw [hml]; rfl) (Steps.refl _) (argsL := [(.ref b_1), (.ref c16)]) (rest := []) (lenOf pd152 rfl) rfl (Nat.le_of_eq rfl) (hb hby d14_20) (fun _ _ => ⟨rfl, e16, (by decide : 4 + 2 ≤ _), (by decide : 21 + 12 ≤ _)⟩)
    dsimp only [Pt.U, Pt.locs, Pt.cells, Pt.slots] at X18 l18 y18 z18 st18 hQ18
    subst l18 y18 z18
    obtain ⟨x_18, om2_18, b_18, kb_18, rfl, N18q, Kc18, fc18_0, fc18_1, fc18_2, fc18_3, fc18_4, fc18_5, fc18_6, fc18_7, fc18_8, fc18_9⟩ := hQ18
    have N18 := Fr.app N1 N18q
    refine gb (mkF m 23 #[vr a0, vi p1, vi p2, vr b_1] []) (fun _ k => st18.trans k) ?_
    refine gb (mkF m 31 #[vr a0, vi p1, vi p2, vr b_1] []) (fun _ k => XS.goto X18.here hx rfl (pc0 := 23) (pc' := 31) rfl (hb hby d14_23) (by decide) (by decide) k) ?_
    have sz29 := (Nat.le_trans hk16 Kc18.1)
    have K30 := (K20.trans Kc18 (allS (Or.inl (List.mem_of_getElem? (i := 0) rfl)) (allS (Or.inl (List.mem_of_getElem? (i := 1) rfl)) all0)))
    exact Gl.outVW X18 hS sz29 hx hk Bd.returns (hb hby d14_31) ⟨x_18, om2_18, b_18, kb_18, rfl, N18, K30, fc18_0, fc18_1, fc18_2, fc18_3, fc18_4, fc18_5, fc18_6, fc18_7, fc18_8, ⟨fc18_9.1, ⟨fc18_9.2.1, fc18_9.2.2.1, fc18_9.2.2.2.1, fc18_9.2.2.2.2.1, (Nat.le_trans K20.1 fc18_9.2.2.2.2.2)⟩⟩⟩ (by decide) (by decide)
theorem ef19s (m : MethodId) (x0 x1 x2 : Addr) : entryFrame m #[(.ref x0), (.ref x1), (.ref x2)] 3 = mkF m 0 #[.val (.ref x0), .val (.ref x1), .val (.ref x2)] [] := by first | (simp [entryFrame, mkF, argsToLocals, Value.category]; done) | rfl
def Q19s (Z : State) (a0 : Addr) (a1 : Addr) (a2 : Addr) (la : Addr) (ea : Addr) (kk : ClassId) (vv : List Value) (sz : Int32) (mc : Int32) (fd : Int32) (om : Int32) (wa wb wc wd we : Addr) (ka kc : ClassId) (G1 : Int32) (h0 : Heap) (n0 : Nat) (v : Option Value) (h : Heap) (L : List Loc) : Prop := ∃ (x : Addr), ∃ (om2 : Int32), v = none ∧ Fr n0 L ∧ Keep h0 h [a0, la, ea] ∧ Exa Z h x sI ∧ Fld Z h a0 sF "found" "I" (.int (fd + (1 : Int32))) ∧ Fld Z h a0 sF "params" "Ljava/util/List;" (.ref la) ∧ Fld Z h a0 sF "onlyMissing" "Z" (.int om2) ∧ Fld Z h la sA "elementData" sO (.ref ea) ∧ Fld Z h la sA "size" "I" (.int (sz + (1 : Int32))) ∧ Fld Z h la "java/util/AbstractList" "modCount" "I" (.int (mc + (1 : Int32))) ∧ Arv Z h ea kk oT (10 : Int32) (vv.set (sz).toNatClampNeg (.ref x)) .null ∧ n0 ≤ x
theorem rm19s (l : Launch) (Z : State) (a0' : Array Value) (hw : ∀ d ∈ tables_1, d.before a0' Z = true) (ws : List Jvm.Cond) (a0 : Addr) (a1 : Addr) (a2 : Addr) (la : Addr) (ea : Addr) (kk : ClassId) (vv : List Value) (sz : Int32) (mc : Int32) (fd : Int32) (om : Int32) (wa wb wc wd we : Addr) (ka kc : ClassId) (G1 : Int32) (h0 : Heap) (n0 : Nat) (O : Old Z n0 h0) (W : Wd Z wa wb wc wd we ka kc G1) (pf0 : Exa Z h0 a0 sF) (pf1 : Fld Z h0 a0 sF "found" "I" (.int fd)) (pf2 : Fld Z h0 a0 sF "params" "Ljava/util/List;" (.ref la)) (pf3 : Fld Z h0 a0 sF "onlyMissing" "Z" (.int om)) (pf4 : Exa Z h0 la sA) (pf5 : Fld Z h0 la sA "elementData" sO (.ref ea)) (pf6 : Fld Z h0 la sA "size" "I" (.int sz)) (pf7 : Fld Z h0 la "java/util/AbstractList" "modCount" "I" (.int mc)) (pf8 : Arv Z h0 ea kk oT (10 : Int32) vv .null) (gp_a0 : n0 ≤ a0) (gp_la : n0 ≤ la) (gp_ea : n0 ≤ ea) (np_a0_la : a0 ≠ la) (np_a0_ea : a0 ≠ ea) (np_la_ea : la ≠ ea) (hl : vv.length = 10) (hs : ¬ sz < 0 ∧ sz < 10) (ov : Ovr Z kk "java/lang/Object") :
    MetFree l mq15 (head1 (Jvm.Cond.code mq15 prog_17_method_3_code 3 none :: ws) ({ frames := 3, cells := 1, slots := 2, locals := 41 } : Room)) (fun a U => a = #[(.ref a0), (.ref a1), (.ref a2)] ∧ Z.Warmed39 U.vm ∧ U.heap = h0) (fun _ _ _ _ _ => True) (fun _ U o U' => ∃ v L, o = .returned v ∧ Q19s Z a0 a1 a2 la ea kk vv sz mc fd om wa wb wc wd we ka kc G1 h0 n0 v U'.heap L ∧ FrameEnd U o U' L ({ frames := 3, cells := 1, slots := 2, locals := 41 } : Room).cells ({ frames := 3, cells := 1, slots := 2, locals := 41 } : Room).slots) := by
  refine MetFree.of_bodySF (plainFor_of_name pn3) hisR ?_
  intro p e s m args below meth c s₁ Bd hml0 hP hK
  obtain ⟨rfl, hZ, hh⟩ := hP
  have hx := Bd.exec
  have hby := Bd.bytes
  have hml : c.maxLocals = 3 := hml0
  have hown : s.vm.findClass sF = some m.cls := findClass_of_methodNamed Bd.named
  have hnm := (name_of_methodNamed Bd.named Bd.method).1
  have hk := Bd.notSynchronized
  have X0 : Stand p l e ({ frames := 3, cells := 1, slots := 2, locals := 41 } : Room) s m #[(.ref a0), (.ref a1), (.ref a2)] below meth c s₁ [] 0 0 := Stand.of_body Bd
  have hh2 := hh
  have e0 : s₁.heap = h0 := by rw [← hh, Bd.state]; rfl
  have N0 := Fr.nil n0
  show Gl p e below (Pos 1 2 (Q19s Z a0 a1 a2 la ea kk vv sz mc fd om wa wb wc wd we ka kc G1 h0 n0) s) s₁ _
  refine Gl.cast (ef19s m a0 a1 a2) ?_
  refine gb (mkF m 1 #[vr a0, vr a1, vr a2] [(.ref a0)]) (fun _ k => XS.aloadN X0.here hx rfl (hb hby d19_0) rfl rfl k) ?_
  refine gb (mkF m 2 #[vr a0, vr a1, vr a2] [(.int 0), (.ref a0)]) (fun _ k => XS.iconst X0.here hx rfl (hb hby d19_1) k) ?_
  obtain ⟨T1, h1, X1, e1, W1, st1⟩ := putFN X0 hx hZ hown (hW hw 35 rfl) Via.refl e0 pf3 pf0 (Or.inl (hW hw 36 rfl)) (hW hw 1 rfl) (ty := .boolean) (v' := (.int (nar .boolean (0 : Int32)))) (by decide) rfl (fits_nar_bool _) (g := (mkF m 2 #[vr a0, vr a1, vr a2] [(.int 0), (.ref a0)])) rfl rfl (hb hby d19_2)
  have N1 := Fr.snoc X1 N0 gp_a0
  have Fw1 := Fld.same W1 pf3
  refine gb (mkF m 5 #[vr a0, vr a1, vr a2] []) st1 ?_
  refine gb (mkF m 6 #[vr a0, vr a1, vr a2] [(.ref a0)]) (fun _ k => XS.aloadN X1.here hx rfl (hb hby d19_5) rfl rfl k) ?_
  have O3 := (O.wr W1 gp_a0)
  have f4 := (Exa.wr W1 pf0)
  have f5 := (Exa.wr W1 pf4)
  have f6 := (Arv.other pf8 W1 (Ne.symm np_a0_ea))
  have K7 := ((Keep.refl h0 [a0, la, ea]).wr W1 (Or.inl (List.mem_of_getElem? (i := 0) rfl)))
  obtain ⟨T2, h2, X2, e2, E2, A2, D2, -, st2⟩ := newO X1 hx hZ hown (hW hw 131 rfl) (hW hw 132 rfl) (hW hw 133 rfl) e1 (g := (mkF m 6 #[vr a0, vr a1, vr a2] [(.ref a0)])) rfl (hb hby d19_6) (by decide) (by decide)
  obtain ⟨b2, g2⟩ : ∃ z, z = (h1).size := ⟨_, rfl⟩
  rw [← g2] at A2 D2 st2
  have gb2 : n0 ≤ b2 := Nat.le_trans (Nat.le_trans (Nat.le_of_eq O3.1.symm) O3.2.1) (Nat.le_of_eq g2.symm)
  have sb2 : h0.size ≤ b2 := Nat.le_trans K7.1 (Nat.le_of_eq g2.symm)
  have ne2_6 : a0 ≠ b2 := Nat.ne_of_lt (Nat.lt_of_lt_of_le f4.lt (Nat.le_of_eq g2.symm))
  have ne2_8 : la ≠ b2 := Nat.ne_of_lt (Nat.lt_of_lt_of_le f5.lt (Nat.le_of_eq g2.symm))
  have ne2_10 : ea ≠ b2 := Nat.ne_of_lt (Nat.lt_of_lt_of_le f6.lt (Nat.le_of_eq g2.symm))
  have ne2_12 : wa ≠ b2 := Nat.ne_of_lt (Nat.lt_of_lt_of_le (Arv.ext W.2.1 O3.2).lt (Nat.le_of_eq g2.symm))
  have ne2_14 : wc ≠ b2 := Nat.ne_of_lt (Nat.lt_of_lt_of_le (Arv.ext W.2.2.2.2.2.1 O3.2).lt (Nat.le_of_eq g2.symm))
  have ne2_16 : wb ≠ b2 := Nat.ne_of_lt (Nat.lt_of_lt_of_le (Exa.ext O3.2 W.2.2.2.1).lt (Nat.le_of_eq g2.symm))
  have ne2_18 : wd ≠ b2 := Nat.ne_of_lt (Nat.lt_of_lt_of_le (Exa.ext O3.2 W.2.2.2.2.2.2.2.1).lt (Nat.le_of_eq g2.symm))
  have D2_param : Fld Z h2 b2 sI "param" "Ljava/lang/String;" .null := D2 (Or.inr (hW hw 144 rfl)) (ty := (.object "java/lang/String")) (by decide)
  have D2_reason : Fld Z h2 b2 sI "reason" "Ljava/lang/String;" .null := D2 (Or.inr (hW hw 146 rfl)) (ty := (.object "java/lang/String")) (by decide)
  refine gb (mkF m 9 #[vr a0, vr a1, vr a2] [(.ref b2), (.ref a0)]) st2 ?_
  refine gb (mkF m 10 #[vr a0, vr a1, vr a2] [(.ref b2), (.ref b2), (.ref a0)]) (fun _ k => XS.dup X2.here hx rfl (hb hby d19_9) rfl rfl k) ?_
  refine gb (mkF m 11 #[vr a0, vr a1, vr a2] [(.ref a1), (.ref b2), (.ref b2), (.ref a0)]) (fun _ k => XS.aloadN X2.here hx rfl (hb hby d19_10) rfl rfl k) ?_
  refine gb (mkF m 12 #[vr a0, vr a1, vr a2] [(.ref a2), (.ref a1), (.ref b2), (.ref b2), (.ref a0)]) (fun _ k => XS.aloadN X2.here hx rfl (hb hby d19_11) rfl rfl k) ?_
  have K9 := (K7.ext E2)
  have O10 := (O3.ext E2)
  obtain ⟨_, _, ⟨T8, L8, k8, n8⟩, -, X8, ⟨Lc8, hQ8, l8, y8, z8⟩, st8⟩ := X2.specialBack hx (y := mq7) rfl hown (mvT hZ (hW hw 134 rfl)) (mvT hZ (hW hw 135 rfl)) (mvT hZ (hW hw 136 rfl)) (by decide) (backOf (W := 2) (rm20 l Z a0' hw [] b2 a1 a2 wa wb wc wd we ka kc G1 h2 n0 O10 W A2 D2_param D2_reason gb2) hZ (hW hw 136 rfl) (hW hw 133 rfl) (by decide) (by decide)) (g := (mkF m 12 #[vr a0, vr a1, vr a2] [(.ref a2), (.ref a1), (.ref b2), (.ref b2), (.ref a0)])) rfl (by rw [hml]; rfl) (Steps.refl _) (a := b2) (argsL := [(.ref a1), (.ref a2)]) (rest := [(.ref b2), (.ref a0)]) (lenOf pd152 rfl) rfl (Nat.le_of_eq rfl) (hb hby d19_12) (fun _ _ => ⟨rfl, e2, (by decide : 1 + 0 ≤ _), (by decide : 2 + 0 ≤ _)⟩)
  dsimp only [Pt.U, Pt.locs, Pt.cells, Pt.slots] at X8 l8 y8 z8 st8 hQ8
  subst l8 y8 z8
  obtain ⟨rfl, N8q, Kc8, fc8_0⟩ := hQ8
  have N8 := Fr.app N1 N8q
  refine gb (mkF m 15 #[vr a0, vr a1, vr a2] [(.ref b2), (.ref a0)]) (fun _ k => st8.trans k) ?_
  have f12 := (Exa.keep (Exa.ext E2 f4) Kc8)
  have K13 := (K9.trans Kc8 (allS (Or.inr sb2) all0))
  have f14 := (Fld.keep (Fld.ext E2 (Fld.other W1 pf1 (Or.inr (slot_ne (Or.inl (hW hw 43 rfl)) (Or.inl (hW hw 36 rfl)) (by decide) (t := .int) (t' := .boolean) (by decide) (by decide))))) Kc8 (ninS ne2_6 nin0))
  have f15 := (Fld.keep (Fld.ext E2 (Fld.other W1 pf2 (Or.inr (slot_ne (Or.inr (hW hw 34 rfl)) (Or.inl (hW hw 36 rfl)) (by decide) (t := (.object "java/util/List")) (t' := .boolean) (by decide) (by decide))))) Kc8 (ninS ne2_6 nin0))
  have f16 := (Fld.keep (Fld.ext E2 Fw1) Kc8 (ninS ne2_6 nin0))
  have f17 := (Exa.keep (Exa.ext E2 f5) Kc8)
  have f18 := (Fld.keep (Fld.ext E2 (Fld.other W1 pf5 (Or.inl (Ne.symm np_a0_la)))) Kc8 (ninS ne2_8 nin0))
  have f19 := (Fld.keep (Fld.ext E2 (Fld.other W1 pf6 (Or.inl (Ne.symm np_a0_la)))) Kc8 (ninS ne2_8 nin0))
  have f20 := (Fld.keep (Fld.ext E2 (Fld.other W1 pf7 (Or.inl (Ne.symm np_a0_la)))) Kc8 (ninS ne2_8 nin0))
  have f21 := (Arv.keep (Arv.ext f6 E2) Kc8 (ninS ne2_10 nin0))
  have O22 := (O10.keep Kc8 (allS gb2 all0))
  obtain ⟨cq11, q11, q11'⟩ := (f12).cell
  obtain ⟨_, _, ⟨T11, L11, k11, n11⟩, -, X11, ⟨Lc11, hQ11, l11, y11, z11⟩, st11⟩ := X8.privateBack hx (y := mq8) hown (mvT hZ (hW hw 147 rfl)) (mvT hZ (hW hw 148 rfl)) (selPriv (mvT hZ (hW hw 1 rfl)) (Cond.privateMethod_at (mvP hZ (hW hw 149 rfl) (args := #[]))) (mvT hZ (hW hw 148 rfl)) (by decide)) (Cond.privateMethod_at (mvP hZ (hW hw 149 rfl) (args := #[]))) (mvT hZ (hW hw 150 rfl)) (by decide) (backOf (W := 0) (rm22s l Z a0' hw [] a0 b2 la ea kk vv sz mc fd (nar .boolean (0 : Int32)) wa wb wc wd we ka kc G1 T8.heap n0 O22 W f12 f14 f15 f16 f17 f18 f19 f20 f21 gp_a0 gp_la gp_ea np_a0_la np_a0_ea np_la_ea hl hs ov fc8_0) hZ (hW hw 150 rfl) (hW hw 2 rfl) (by decide) (by decide)) (g := (mkF m 15 #[vr a0, vr a1, vr a2] [(.ref b2), (.ref a0)])) rfl (by rw [hml]; rfl) (Steps.refl _) (a := a0) q11 q11' (argsL := [(.ref b2)]) (rest := []) (lenOf pd153 rfl) rfl (Nat.le_of_eq rfl) (hb hby d19_15) (fun _ _ => ⟨rfl, rfl, (by decide : 1 + 0 ≤ _), (by decide : 2 + 0 ≤ _)⟩)
  dsimp only [Pt.U, Pt.locs, Pt.cells, Pt.slots] at X11 l11 y11 z11 st11 hQ11
  subst l11 y11 z11
  obtain ⟨rfl, N11q, Kc11, fc11_0, fc11_1, fc11_2, fc11_3, fc11_4, fc11_5, fc11_6⟩ := hQ11
  have N11 := Fr.app N8 N11q
  refine gb (mkF m 18 #[vr a0, vr a1, vr a2] []) (fun _ k => st11.trans k) ?_
  have K23 := (K13.trans Kc11 (allS (Or.inl (List.mem_of_getElem? (i := 0) rfl)) (allS (Or.inl (List.mem_of_getElem? (i := 1) rfl)) (allS (Or.inl (List.mem_of_getElem? (i := 2) rfl)) all0))))
  have f24 := (Exa.keep fc8_0 Kc11)
  exact Gl.outV X11 hx hk Bd.returns (hb hby d19_18) ⟨b2, (nar .boolean (0 : Int32)), rfl, N11, K23, f24, fc11_0, fc11_1, fc11_2, fc11_3, fc11_4, fc11_5, fc11_6, gb2⟩ (by decide) (by decide)
theorem ef29s (m : MethodId) (x0 x1 : Addr) : entryFrame m #[(.ref x0), (.ref x1)] 2 = mkF m 0 #[.val (.ref x0), .val (.ref x1)] [] := by first | (simp [entryFrame, mkF, argsToLocals, Value.category]; done) | rfl
def Q29s (Z : State) (a0 : Addr) (a1 : Addr) (la : Addr) (ea : Addr) (kk : ClassId) (vv : List Value) (sz : Int32) (mc : Int32) (fd : Int32) (om : Int32) (wa wb wc wd we : Addr) (ka kc : ClassId) (G1 : Int32) (h0 : Heap) (n0 : Nat) (v : Option Value) (h : Heap) (L : List Loc) : Prop := ∃ (x : Addr), ∃ (om2 : Int32), v = none ∧ Fr n0 L ∧ Keep h0 h [a0, la, ea] ∧ Exa Z h x sI ∧ Fld Z h a0 sF "found" "I" (.int (fd + (1 : Int32))) ∧ Fld Z h a0 sF "params" "Ljava/util/List;" (.ref la) ∧ Fld Z h a0 sF "onlyMissing" "Z" (.int om2) ∧ Fld Z h la sA "elementData" sO (.ref ea) ∧ Fld Z h la sA "size" "I" (.int (sz + (1 : Int32))) ∧ Fld Z h la "java/util/AbstractList" "modCount" "I" (.int (mc + (1 : Int32))) ∧ Arv Z h ea kk oT (10 : Int32) (vv.set (sz).toNatClampNeg (.ref x)) .null ∧ n0 ≤ x
theorem rm29s (l : Launch) (Z : State) (a0' : Array Value) (hw : ∀ d ∈ tables_1, d.before a0' Z = true) (ws : List Jvm.Cond) (a0 : Addr) (a1 : Addr) (la : Addr) (ea : Addr) (kk : ClassId) (vv : List Value) (sz : Int32) (mc : Int32) (fd : Int32) (om : Int32) (wa wb wc wd we : Addr) (ka kc : ClassId) (G1 : Int32) (h0 : Heap) (n0 : Nat) (O : Old Z n0 h0) (W : Wd Z wa wb wc wd we ka kc G1) (pf0 : Exa Z h0 a0 sF) (pf1 : Fld Z h0 a0 sF "found" "I" (.int fd)) (pf2 : Fld Z h0 a0 sF "params" "Ljava/util/List;" (.ref la)) (pf3 : Fld Z h0 a0 sF "onlyMissing" "Z" (.int om)) (pf4 : Exa Z h0 la sA) (pf5 : Fld Z h0 la sA "elementData" sO (.ref ea)) (pf6 : Fld Z h0 la sA "size" "I" (.int sz)) (pf7 : Fld Z h0 la "java/util/AbstractList" "modCount" "I" (.int mc)) (pf8 : Arv Z h0 ea kk oT (10 : Int32) vv .null) (gp_a0 : n0 ≤ a0) (gp_la : n0 ≤ la) (gp_ea : n0 ≤ ea) (np_a0_la : a0 ≠ la) (np_a0_ea : a0 ≠ ea) (np_la_ea : la ≠ ea) (hl : vv.length = 10) (hs : ¬ sz < 0 ∧ sz < 10) (ov : Ovr Z kk "java/lang/Object") :
    MetFree l mq16 (head1 (Jvm.Cond.code mq16 prog_17_method_2_code 2 none :: ws) ({ frames := 3, cells := 3, slots := 34, locals := 41 } : Room)) (fun a U => a = #[(.ref a0), (.ref a1)] ∧ Z.Warmed39 U.vm ∧ U.heap = h0) (fun _ _ _ _ _ => True) (fun _ U o U' => ∃ v L, o = .returned v ∧ Q29s Z a0 a1 la ea kk vv sz mc fd om wa wb wc wd we ka kc G1 h0 n0 v U'.heap L ∧ ReturnedEndW U o U' L ({ frames := 3, cells := 3, slots := 34, locals := 41 } : Room).cells ({ frames := 3, cells := 3, slots := 34, locals := 41 } : Room).slots) := by
  refine MetFree.of_bodySF (plainFor_of_name pn3) hisR ?_
  intro p e s m args below meth c s₁ Bd hml0 hP hK
  obtain ⟨rfl, hZ, hh⟩ := hP
  have hx := Bd.exec
  have hby := Bd.bytes
  have hml : c.maxLocals = 2 := hml0
  have hown : s.vm.findClass sF = some m.cls := findClass_of_methodNamed Bd.named
  have hnm := (name_of_methodNamed Bd.named Bd.method).1
  have hk := Bd.notSynchronized
  have X0 : Stand p l e ({ frames := 3, cells := 3, slots := 34, locals := 41 } : Room) (s.setVm s.vm) m #[(.ref a0), (.ref a1)] below meth c s₁ [] 0 0 := Stand.of_body Bd
  have hS : s.Since s.vm h0.size := State.WarmedH.since (State.WarmedH.refl s) _
  have e0 : s₁.heap = h0 := by rw [← hh, Bd.state]; rfl
  have N0 := Fr.nil n0
  show Gl p e below (PosW 3 34 (Q29s Z a0 a1 la ea kk vv sz mc fd om wa wb wc wd we ka kc G1 h0 n0) s) s₁ _
  refine Gl.cast (ef29s m a0 a1) ?_
  refine gb (mkF m 1 #[vr a0, vr a1] [(.ref a0)]) (fun _ k => XS.aloadN X0.here hx rfl (hb hby d29_0) rfl rfl k) ?_
  obtain ⟨T1, h1, X1, e1, E1, A1, D1, -, st1⟩ := newO X0 hx hZ hown (hW hw 131 rfl) (hW hw 132 rfl) (hW hw 133 rfl) e0 (g := (mkF m 1 #[vr a0, vr a1] [(.ref a0)])) rfl (hb hby d29_1) (by decide) (by decide)
  obtain ⟨b1, g1⟩ : ∃ z, z = (h0).size := ⟨_, rfl⟩
  rw [← g1] at A1 D1 st1
  have gb1 : n0 ≤ b1 := Nat.le_trans (Nat.le_trans (Nat.le_of_eq O.1.symm) O.2.1) (Nat.le_of_eq g1.symm)
  have sb1 : h0.size ≤ b1 := Nat.le_trans (Keep.refl h0 [a0, la, ea]).1 (Nat.le_of_eq g1.symm)
  have ne1_6 : a0 ≠ b1 := Nat.ne_of_lt (Nat.lt_of_lt_of_le pf0.lt (Nat.le_of_eq g1.symm))
  have ne1_8 : la ≠ b1 := Nat.ne_of_lt (Nat.lt_of_lt_of_le pf4.lt (Nat.le_of_eq g1.symm))
  have ne1_10 : ea ≠ b1 := Nat.ne_of_lt (Nat.lt_of_lt_of_le pf8.lt (Nat.le_of_eq g1.symm))
  have ne1_12 : wa ≠ b1 := Nat.ne_of_lt (Nat.lt_of_lt_of_le (Arv.ext W.2.1 O.2).lt (Nat.le_of_eq g1.symm))
  have ne1_14 : wc ≠ b1 := Nat.ne_of_lt (Nat.lt_of_lt_of_le (Arv.ext W.2.2.2.2.2.1 O.2).lt (Nat.le_of_eq g1.symm))
  have ne1_16 : wb ≠ b1 := Nat.ne_of_lt (Nat.lt_of_lt_of_le (Exa.ext O.2 W.2.2.2.1).lt (Nat.le_of_eq g1.symm))
  have ne1_18 : wd ≠ b1 := Nat.ne_of_lt (Nat.lt_of_lt_of_le (Exa.ext O.2 W.2.2.2.2.2.2.2.1).lt (Nat.le_of_eq g1.symm))
  have D1_param : Fld Z h1 b1 sI "param" "Ljava/lang/String;" .null := D1 (Or.inr (hW hw 144 rfl)) (ty := (.object "java/lang/String")) (by decide)
  have D1_reason : Fld Z h1 b1 sI "reason" "Ljava/lang/String;" .null := D1 (Or.inr (hW hw 146 rfl)) (ty := (.object "java/lang/String")) (by decide)
  refine gb (mkF m 4 #[vr a0, vr a1] [(.ref b1), (.ref a0)]) st1 ?_
  refine gb (mkF m 5 #[vr a0, vr a1] [(.ref b1), (.ref b1), (.ref a0)]) (fun _ k => XS.dup X1.here hx rfl (hb hby d29_4) rfl rfl k) ?_
  refine gb (mkF m 6 #[vr a0, vr a1] [(.ref a1), (.ref b1), (.ref b1), (.ref a0)]) (fun _ k => XS.aloadN X1.here hx rfl (hb hby d29_5) rfl rfl k) ?_
  have sz3 := (Nat.le_trans (Nat.le_refl h0.size) E1.1)
  obtain ⟨c2, T2, h2, k2, X2, e2, E2, hS, hk2, hZ, hown, st2⟩ := ldcS X1 hx hZ hown (hW hw 195 rfl) (wS hw) e1 hS sz3 (g := (mkF m 6 #[vr a0, vr a1] [(.ref a1), (.ref b1), (.ref b1), (.ref a0)])) rfl (hb hby d29_6) (n := 28) (by decide) (by decide) (by decide) (by decide)
  refine gb (mkF m 8 #[vr a0, vr a1] [(.ref c2), (.ref a1), (.ref b1), (.ref b1), (.ref a0)]) st2 ?_
  have K5 := (((Keep.refl h0 [a0, la, ea]).ext E1).ext E2)
  have f6 := (Exa.ext E2 A1)
  have f7 := (Fld.ext E2 D1_param)
  have f8 := (Fld.ext E2 D1_reason)
  have O9 := ((O.ext E1).ext E2)
  obtain ⟨_, _, ⟨T4, L4, k4, n4⟩, -, X4, ⟨Lc4, hQ4, l4, y4, z4⟩, st4⟩ := X2.specialBack hx (y := mq7) rfl hown (mvT hZ (hW hw 134 rfl)) (mvT hZ (hW hw 135 rfl)) (mvT hZ (hW hw 136 rfl)) (by decide) (backOf (W := 2) (rm20 l Z a0' hw [] b1 a1 c2 wa wb wc wd we ka kc G1 h2 n0 O9 W f6 f7 f8 gb1) hZ (hW hw 136 rfl) (hW hw 133 rfl) (by decide) (by decide)) (g := (mkF m 8 #[vr a0, vr a1] [(.ref c2), (.ref a1), (.ref b1), (.ref b1), (.ref a0)])) rfl (by rw [hml]; rfl) (Steps.refl _) (a := b1) (argsL := [(.ref a1), (.ref c2)]) (rest := [(.ref b1), (.ref a0)]) (lenOf pd152 rfl) rfl (Nat.le_of_eq rfl) (hb hby d29_8) (fun _ _ => ⟨rfl, e2, (by decide : 3 + 0 ≤ _), (by decide : 34 + 0 ≤ _)⟩)
  dsimp only [Pt.U, Pt.locs, Pt.cells, Pt.slots] at X4 l4 y4 z4 st4 hQ4
  subst l4 y4 z4
  obtain ⟨rfl, N4q, Kc4, fc4_0⟩ := hQ4
  have N4 := Fr.app N0 N4q
  refine gb (mkF m 11 #[vr a0, vr a1] [(.ref b1), (.ref a0)]) (fun _ k => st4.trans k) ?_
  have f11 := (Exa.keep (Exa.ext E2 (Exa.ext E1 pf0)) Kc4)
  have K12 := (K5.trans Kc4 (allS (Or.inr sb1) all0))
  have f13 := (Fld.keep (Fld.ext E2 (Fld.ext E1 pf1)) Kc4 (ninS ne1_6 nin0))
  have f14 := (Fld.keep (Fld.ext E2 (Fld.ext E1 pf2)) Kc4 (ninS ne1_6 nin0))
  have f15 := (Fld.keep (Fld.ext E2 (Fld.ext E1 pf3)) Kc4 (ninS ne1_6 nin0))
  have f16 := (Exa.keep (Exa.ext E2 (Exa.ext E1 pf4)) Kc4)
  have f17 := (Fld.keep (Fld.ext E2 (Fld.ext E1 pf5)) Kc4 (ninS ne1_8 nin0))
  have f18 := (Fld.keep (Fld.ext E2 (Fld.ext E1 pf6)) Kc4 (ninS ne1_8 nin0))
  have f19 := (Fld.keep (Fld.ext E2 (Fld.ext E1 pf7)) Kc4 (ninS ne1_8 nin0))
  have f20 := (Arv.keep (Arv.ext (Arv.ext pf8 E1) E2) Kc4 (ninS ne1_10 nin0))
  have O21 := (O9.keep Kc4 (allS gb1 all0))
  obtain ⟨cq10, q10, q10'⟩ := (f11).cell
  obtain ⟨_, _, ⟨T10, L10, k10, n10⟩, -, X10, ⟨Lc10, hQ10, l10, y10, z10⟩, st10⟩ := X4.privateBack hx (y := mq8) hown (mvT hZ (hW hw 147 rfl)) (mvT hZ (hW hw 148 rfl)) (selPriv (mvT hZ (hW hw 1 rfl)) (Cond.privateMethod_at (mvP hZ (hW hw 149 rfl) (args := #[]))) (mvT hZ (hW hw 148 rfl)) (by decide)) (Cond.privateMethod_at (mvP hZ (hW hw 149 rfl) (args := #[]))) (mvT hZ (hW hw 150 rfl)) (by decide) (backOf (W := 0) (rm22s l Z a0' hw [] a0 b1 la ea kk vv sz mc fd om wa wb wc wd we ka kc G1 T4.heap n0 O21 W f11 f13 f14 f15 f16 f17 f18 f19 f20 gp_a0 gp_la gp_ea np_a0_la np_a0_ea np_la_ea hl hs ov fc4_0) hZ (hW hw 150 rfl) (hW hw 2 rfl) (by decide) (by decide)) (g := (mkF m 11 #[vr a0, vr a1] [(.ref b1), (.ref a0)])) rfl (by rw [hml]; rfl) (Steps.refl _) (a := a0) q10 q10' (argsL := [(.ref b1)]) (rest := []) (lenOf pd153 rfl) rfl (Nat.le_of_eq rfl) (hb hby d29_11) (fun _ _ => ⟨rfl, rfl, (by decide : 3 + 0 ≤ _), (by decide : 34 + 0 ≤ _)⟩)
  dsimp only [Pt.U, Pt.locs, Pt.cells, Pt.slots] at X10 l10 y10 z10 st10 hQ10
  subst l10 y10 z10
  obtain ⟨rfl, N10q, Kc10, fc10_0, fc10_1, fc10_2, fc10_3, fc10_4, fc10_5, fc10_6⟩ := hQ10
  have N10 := Fr.app N4 N10q
  refine gb (mkF m 14 #[vr a0, vr a1] []) (fun _ k => st10.trans k) ?_
  have sz22 := (Nat.le_trans (Nat.le_trans hk2 Kc4.1) Kc10.1)
  have K23 := (K12.trans Kc10 (allS (Or.inl (List.mem_of_getElem? (i := 0) rfl)) (allS (Or.inl (List.mem_of_getElem? (i := 1) rfl)) (allS (Or.inl (List.mem_of_getElem? (i := 2) rfl)) all0))))
  have f24 := (Exa.keep fc4_0 Kc10)
  exact Gl.outVW X10 hS sz22 hx hk Bd.returns (hb hby d29_14) ⟨b1, om, rfl, N10, K23, f24, fc10_0, fc10_1, fc10_2, fc10_3, fc10_4, fc10_5, fc10_6, gb1⟩ (by decide) (by decide)
theorem ef14s (m : MethodId) (x0 : Addr) (x1 : Int32) (x2 : Int32) : entryFrame m #[(.ref x0), (.int x1), (.int x2)] 4 = mkF m 0 #[.val (.ref x0), .val (.int x1), .val (.int x2), .unset] [] := by first | (simp [entryFrame, mkF, argsToLocals, Value.category]; done) | rfl
def Q14s (Z : State) (a0 : Addr) (p1 : Int32) (p2 : Int32) (la : Addr) (ea : Addr) (kk : ClassId) (vv : List Value) (sz : Int32) (mc : Int32) (fd : Int32) (om : Int32) (wa wb wc wd we : Addr) (ka kc : ClassId) (G1 : Int32) (h0 : Heap) (n0 : Nat) (v : Option Value) (h : Heap) (L : List Loc) : Prop := ∃ (x : Addr), ∃ (om2 : Int32), v = none ∧ Fr n0 L ∧ Keep h0 h [a0, la, ea] ∧ Exa Z h x sI ∧ Fld Z h a0 sF "found" "I" (.int (fd + (1 : Int32))) ∧ Fld Z h a0 sF "params" "Ljava/util/List;" (.ref la) ∧ Fld Z h a0 sF "onlyMissing" "Z" (.int om2) ∧ Fld Z h la sA "elementData" sO (.ref ea) ∧ Fld Z h la sA "size" "I" (.int (sz + (1 : Int32))) ∧ Fld Z h la "java/util/AbstractList" "modCount" "I" (.int (mc + (1 : Int32))) ∧ Arv Z h ea kk oT (10 : Int32) (vv.set (sz).toNatClampNeg (.ref x)) .null ∧ n0 ≤ x
theorem rm14s (l : Launch) (Z : State) (a0' : Array Value) (hw : ∀ d ∈ tables_1, d.before a0' Z = true) (ws : List Jvm.Cond) (a0 : Addr) (p1 : Int32) (p2 : Int32) (la : Addr) (ea : Addr) (kk : ClassId) (vv : List Value) (sz : Int32) (mc : Int32) (fd : Int32) (om : Int32) (wa wb wc wd we : Addr) (ka kc : ClassId) (G1 : Int32) (h0 : Heap) (n0 : Nat) (O : Old Z n0 h0) (W : Wd Z wa wb wc wd we ka kc G1) (pf0 : Exa Z h0 a0 sF) (pf1 : Fld Z h0 a0 sF "found" "I" (.int fd)) (pf2 : Fld Z h0 a0 sF "params" "Ljava/util/List;" (.ref la)) (pf3 : Fld Z h0 a0 sF "onlyMissing" "Z" (.int om)) (pf4 : Exa Z h0 la sA) (pf5 : Fld Z h0 la sA "elementData" sO (.ref ea)) (pf6 : Fld Z h0 la sA "size" "I" (.int sz)) (pf7 : Fld Z h0 la "java/util/AbstractList" "modCount" "I" (.int mc)) (pf8 : Arv Z h0 ea kk oT (10 : Int32) vv .null) (gp_a0 : n0 ≤ a0) (gp_la : n0 ≤ la) (gp_ea : n0 ≤ ea) (np_a0_la : a0 ≠ la) (np_a0_ea : a0 ≠ ea) (np_la_ea : la ≠ ea) (hl : vv.length = 10) (hs : ¬ sz < 0 ∧ sz < 10) (ov : Ovr Z kk "java/lang/Object") :
    MetFree l mq17 (head1 (Jvm.Cond.code mq17 method_2_code 4 none :: ws) ({ frames := 4, cells := 5, slots := 39, locals := 55 } : Room)) (fun a U => a = #[(.ref a0), (.int p1), (.int p2)] ∧ Z.Warmed39 U.vm ∧ U.heap = h0) (fun _ _ _ _ _ => True) (fun _ U o U' => ∃ v L, o = .returned v ∧ Q14s Z a0 p1 p2 la ea kk vv sz mc fd om wa wb wc wd we ka kc G1 h0 n0 v U'.heap L ∧ ReturnedEndW U o U' L ({ frames := 4, cells := 5, slots := 39, locals := 55 } : Room).cells ({ frames := 4, cells := 5, slots := 39, locals := 55 } : Room).slots) := by
  refine MetFree.of_bodySF (plainFor_of_name pn6) hisR ?_
  intro p e s m args below meth c s₁ Bd hml0 hP hK
  obtain ⟨rfl, hZ, hh⟩ := hP
  have hx := Bd.exec
  have hby := Bd.bytes
  have hml : c.maxLocals = 4 := hml0
  have hown : s.vm.findClass "com/example/talaria/talaria/model/FaultsFullPinLaw" = some m.cls := findClass_of_methodNamed Bd.named
  have hnm := (name_of_methodNamed Bd.named Bd.method).1
  have hk := Bd.notSynchronized
  have X0 : Stand p l e ({ frames := 4, cells := 5, slots := 39, locals := 55 } : Room) (s.setVm s.vm) m #[(.ref a0), (.int p1), (.int p2)] below meth c s₁ [] 0 0 := Stand.of_body Bd
  have hS : s.Since s.vm h0.size := State.WarmedH.since (State.WarmedH.refl s) _
  have e0 : s₁.heap = h0 := by rw [← hh, Bd.state]; rfl
  have N0 := Fr.nil n0
  show Gl p e below (PosW 5 39 (Q14s Z a0 p1 p2 la ea kk vv sz mc fd om wa wb wc wd we ka kc G1 h0 n0) s) s₁ _
  refine Gl.cast (ef14s m a0 p1 p2) ?_
  refine gb (mkF m 1 #[vr a0, vi p1, vi p2, .unset] [(.int p2)]) (fun _ k => XS.iloadN X0.here hx rfl (hb hby d14_0) rfl k) ?_
  refine gb (mkF m 4 #[vr a0, vi p1, vi p2, .unset] [(.int 255), (.int p2)]) (fun _ k => XS.sipush X0.here hx rfl (hb hby d14_1) k) ?_
  refine gb (mkF m 5 #[vr a0, vi p1, vi p2, .unset] [(.int (p2 &&& (255 : Int32)))]) (fun _ k => XS.iand X0.here hx rfl (hb hby d14_4) rfl k) ?_
  refine gb (mkF m 6 #[vr a0, vi p1, vi p2, .unset] [(.int ((p2 &&& (255 : Int32)).toUInt32.toUInt16.toUInt32.toInt32))]) (fun _ k => XS.i2c X0.here hx rfl (hb hby d14_5) rfl k) ?_
  obtain ⟨_, _, ⟨T1, L1, k1, n1⟩, -, X1, ⟨Lc1, hQ1, l1, y1, z1⟩, st1⟩ := callS X0 hx (y := mq14) hown (mvT hZ (hW hw 99 rfl)) (mvT hZ (hW hw 100 rfl)) (mvT hZ (hW hw 101 rfl)) (mvT hZ (hW hw 102 rfl)) (by decide) (backOf (W := 0) (rm15 l Z a0' hw [] ((p2 &&& (255 : Int32)).toUInt32.toUInt16.toUInt32.toInt32) wa wb wc wd we ka kc G1 h0 n0 O W (chc p2)) hZ (hW hw 102 rfl) (hW hw 101 rfl) (by decide) (by decide)) (g := (mkF m 6 #[vr a0, vi p1, vi p2, .unset] [(.int ((p2 &&& (255 : Int32)).toUInt32.toUInt16.toUInt32.toInt32))])) rfl (by rw [hml]; rfl) (argsL := [(.int ((p2 &&& (255 : Int32)).toUInt32.toUInt16.toUInt32.toInt32))]) (rest := []) (lenOf pd181 rfl) rfl (Nat.le_of_eq rfl) (hb hby d14_6) (fun _ _ => ⟨rfl, e0, (by decide : 0 + 2 ≤ _), (by decide : 0 + 5 ≤ _)⟩)
  dsimp only [Pt.U, Pt.locs, Pt.cells, Pt.slots] at X1 l1 y1 z1 st1 hQ1
  subst l1 y1 z1
  obtain ⟨b_1, rfl, N1q, Kc1, fc1_0⟩ := hQ1
  have N1 := Fr.app N0 N1q
  refine gb (mkF m 9 #[vr a0, vi p1, vi p2, .unset] [(.ref b_1)]) st1 ?_
  refine gb (mkF m 10 #[vr a0, vi p1, vi p2, vr b_1] []) (fun _ k => XS.astoreN X1.here hx rfl (hb hby d14_9) rfl rfl (l' := #[vr a0, vi p1, vi p2, vr b_1]) rfl k) ?_
  refine gb (mkF m 11 #[vr a0, vi p1, vi p2, vr b_1] [(.int p1)]) (fun _ k => XS.iloadN X1.here hx rfl (hb hby d14_10) rfl k) ?_
  refine gb (mkF m 12 #[vr a0, vi p1, vi p2, vr b_1] [(.int 1), (.int p1)]) (fun _ k => XS.iconst X1.here hx rfl (hb hby d14_11) k) ?_
  refine gb (mkF m 13 #[vr a0, vi p1, vi p2, vr b_1] [(.int (p1 &&& (1 : Int32)))]) (fun _ k => XS.iand X1.here hx rfl (hb hby d14_12) rfl k) ?_
  by_cases hc2 : (p1 &&& (1 : Int32)) = (0 : Int32)
  · refine gb (mkF m 26 #[vr a0, vi p1, vi p2, vr b_1] []) (fun _ k => XS.ifYes X1.here hx rfl (pc0 := 13) (pc' := 26) rfl (hb hby d14_13) rfl ((if0 _ _).trans (teq hc2).1) (by decide) (by decide) k) ?_
    refine gb (mkF m 27 #[vr a0, vi p1, vi p2, vr b_1] [(.ref a0)]) (fun _ k => XS.aloadN X1.here hx rfl (hb hby d14_26) rfl rfl k) ?_
    refine gb (mkF m 28 #[vr a0, vi p1, vi p2, vr b_1] [(.ref b_1), (.ref a0)]) (fun _ k => XS.aloadN X1.here hx rfl (hb hby d14_27) rfl rfl k) ?_
    have f4 := (Exa.keep pf0 Kc1)
    have K5 := ((Keep.refl h0 [a0, la, ea]).trans Kc1 all0)
    have f6 := (Fld.keep pf1 Kc1 nin0)
    have f7 := (Fld.keep pf2 Kc1 nin0)
    have f8 := (Fld.keep pf3 Kc1 nin0)
    have f9 := (Exa.keep pf4 Kc1)
    have f10 := (Fld.keep pf5 Kc1 nin0)
    have f11 := (Fld.keep pf6 Kc1 nin0)
    have f12 := (Fld.keep pf7 Kc1 nin0)
    have f13 := (Arv.keep pf8 Kc1 nin0)
    have O14 := (O.keep Kc1 all0)
    obtain ⟨cq3, kq3, q3a, q3b, q3c⟩ := isOf hZ rfl f4
    obtain ⟨_, _, ⟨T3, L3, k3, n3⟩, -, X3, hS3, hg3, ⟨Lc3, hQ3, l3, y3, z3⟩, st3⟩ := X1.virtualBackS hx (y := mq16) (z := mq16) hown (mvT hZ (hW hw 190 rfl)) (mvT hZ (hW hw 191 rfl)) (notFace_of_selects (args := #[]) (mvT hZ (hW hw 193 rfl))) (mvT hZ (hW hw 193 rfl)) (mvT hZ (hW hw 192 rfl)) (by decide) (backOfS (W := 0) (rm29s l Z a0' hw [] a0 b_1 la ea kk vv sz mc fd om wa wb wc wd we ka kc G1 T1.heap n0 O14 W f4 f6 f7 f8 f9 f10 f11 f12 f13 gp_a0 gp_la gp_ea np_a0_la np_a0_ea np_la_ea hl hs ov) hZ (hW hw 194 rfl) (hW hw 2 rfl) (by decide) (by decide)) q3a q3c (g := (mkF m 28 #[vr a0, vi p1, vi p2, vr b_1] [(.ref b_1), (.ref a0)])) rfl (by rw [hml]; rfl) (Steps.refl _) (argsL := [(.ref b_1)]) (rest := []) (lenOf pd182 rfl) rfl (Nat.le_of_eq rfl) (hb hby d14_28) (fun _ _ => ⟨rfl, rfl, (by decide : 2 + 3 ≤ _), (by decide : 5 + 34 ≤ _)⟩)
    dsimp only [Pt.U, Pt.locs, Pt.cells, Pt.slots] at X3 l3 y3 z3 st3 hQ3
    subst l3 y3 z3
    have sz15 := (Nat.le_trans (Nat.le_refl h0.size) Kc1.1)
    obtain ⟨X3, hS, hZ, hown⟩ := rebS hS sz15 X3 hS3 hg3 hZ hown
    obtain ⟨x_3, om2_3, rfl, N3q, Kc3, fc3_0, fc3_1, fc3_2, fc3_3, fc3_4, fc3_5, fc3_6, fc3_7, fc3_8⟩ := hQ3
    have N3 := Fr.app N1 N3q
    refine gb (mkF m 31 #[vr a0, vi p1, vi p2, vr b_1] []) (fun _ k => st3.trans k) ?_
    have K16 := (K5.trans Kc3 (allS (Or.inl (List.mem_of_getElem? (i := 0) rfl)) (allS (Or.inl (List.mem_of_getElem? (i := 1) rfl)) (allS (Or.inl (List.mem_of_getElem? (i := 2) rfl)) all0))))
    exact Gl.outVW X3 hS (Nat.le_refl _) hx hk Bd.returns (hb hby d14_31) ⟨x_3, om2_3, rfl, N3, K16, fc3_0, fc3_1, fc3_2, fc3_3, fc3_4, fc3_5, fc3_6, fc3_7, fc3_8⟩ (by decide) (by decide)
  · refine gb (mkF m 16 #[vr a0, vi p1, vi p2, vr b_1] []) (fun _ k => XS.ifNo X1.here hx rfl (hb hby d14_13) rfl ((if0 _ _).trans (feq hc2).1) k) ?_
    refine gb (mkF m 17 #[vr a0, vi p1, vi p2, vr b_1] [(.ref a0)]) (fun _ k => XS.aloadN X1.here hx rfl (hb hby d14_16) rfl rfl k) ?_
    refine gb (mkF m 18 #[vr a0, vi p1, vi p2, vr b_1] [(.ref b_1), (.ref a0)]) (fun _ k => XS.aloadN X1.here hx rfl (hb hby d14_17) rfl rfl k) ?_
    have sz18 := (Nat.le_trans (Nat.le_refl h0.size) Kc1.1)
    obtain ⟨c17, T17, h17, k17, X17, e17, E17, hS, hk17, hZ, hown, st17⟩ := ldcS X1 hx hZ hown (hW hw 123 rfl) (wS hw) rfl hS sz18 (g := (mkF m 18 #[vr a0, vi p1, vi p2, vr b_1] [(.ref b_1), (.ref a0)])) rfl (hb hby d14_18) (n := 12) (by decide) (by decide) (by decide) (by decide)
    refine gb (mkF m 20 #[vr a0, vi p1, vi p2, vr b_1] [(.ref c17), (.ref b_1), (.ref a0)]) st17 ?_
    have f20 := (Exa.ext E17 (Exa.keep pf0 Kc1))
    have K21 := (((Keep.refl h0 [a0, la, ea]).trans Kc1 all0).ext E17)
    have f22 := (Fld.ext E17 (Fld.keep pf1 Kc1 nin0))
    have f23 := (Fld.ext E17 (Fld.keep pf2 Kc1 nin0))
    have f24 := (Fld.ext E17 (Fld.keep pf3 Kc1 nin0))
    have f25 := (Exa.ext E17 (Exa.keep pf4 Kc1))
    have f26 := (Fld.ext E17 (Fld.keep pf5 Kc1 nin0))
    have f27 := (Fld.ext E17 (Fld.keep pf6 Kc1 nin0))
    have f28 := (Fld.ext E17 (Fld.keep pf7 Kc1 nin0))
    have f29 := (Arv.ext (Arv.keep pf8 Kc1 nin0) E17)
    have O30 := ((O.keep Kc1 all0).ext E17)
    obtain ⟨cq19, kq19, q19a, q19b, q19c⟩ := isOf hZ e17 f20
    obtain ⟨_, _, ⟨T19, L19, k19, n19⟩, -, X19, ⟨Lc19, hQ19, l19, y19, z19⟩, st19⟩ := X17.virtualBack hx (y := mq15) (z := mq15) hown (mvT hZ (hW hw 126 rfl)) (mvT hZ (hW hw 127 rfl)) (notFace_of_selects (args := #[]) (mvT hZ (hW hw 129 rfl))) (mvT hZ (hW hw 129 rfl)) (mvT hZ (hW hw 128 rfl)) (by decide) (backOf (W := 0) (rm19s l Z a0' hw [] a0 b_1 c17 la ea kk vv sz mc fd om wa wb wc wd we ka kc G1 h17 n0 O30 W f20 f22 f23 f24 f25 f26 f27 f28 f29 gp_a0 gp_la gp_ea np_a0_la np_a0_ea np_la_ea hl hs ov) hZ (hW hw 130 rfl) (hW hw 2 rfl) (by decide) (by decide)) q19a q19c (g := (mkF m 20 #[vr a0, vi p1, vi p2, vr b_1] [(.ref c17), (.ref b_1), (.ref a0)])) rfl (by rw [hml]; rfl) (Steps.refl _) (argsL := [(.ref b_1), (.ref c17)]) (rest := []) (lenOf pd152 rfl) rfl (Nat.le_of_eq rfl) (hb hby d14_20) (fun _ _ => ⟨rfl, e17, (by decide : 4 + 1 ≤ _), (by decide : 21 + 2 ≤ _)⟩)
    dsimp only [Pt.U, Pt.locs, Pt.cells, Pt.slots] at X19 l19 y19 z19 st19 hQ19
    subst l19 y19 z19
    obtain ⟨x_19, om2_19, rfl, N19q, Kc19, fc19_0, fc19_1, fc19_2, fc19_3, fc19_4, fc19_5, fc19_6, fc19_7, fc19_8⟩ := hQ19
    have N19 := Fr.app N1 N19q
    refine gb (mkF m 23 #[vr a0, vi p1, vi p2, vr b_1] []) (fun _ k => st19.trans k) ?_
    refine gb (mkF m 31 #[vr a0, vi p1, vi p2, vr b_1] []) (fun _ k => XS.goto X19.here hx rfl (pc0 := 23) (pc' := 31) rfl (hb hby d14_23) (by decide) (by decide) k) ?_
    have sz31 := (Nat.le_trans hk17 Kc19.1)
    have K32 := (K21.trans Kc19 (allS (Or.inl (List.mem_of_getElem? (i := 0) rfl)) (allS (Or.inl (List.mem_of_getElem? (i := 1) rfl)) (allS (Or.inl (List.mem_of_getElem? (i := 2) rfl)) all0))))
    exact Gl.outVW X19 hS sz31 hx hk Bd.returns (hb hby d14_31) ⟨x_19, om2_19, rfl, N19, K32, fc19_0, fc19_1, fc19_2, fc19_3, fc19_4, fc19_5, fc19_6, fc19_7, fc19_8⟩ (by decide) (by decide)
theorem d33_0 : decode jdk_29_method_69_code 0 = .ok (.iload_n 0, 1) := by decide +kernel
theorem d33_1 : decode jdk_29_method_69_code 1 = .ok (.iload_n 1, 1) := by decide +kernel
theorem d33_2 : decode jdk_29_method_69_code 2 = .ok (.if_icmp .gt 7, 3) := by decide +kernel
theorem d33_9 : decode jdk_29_method_69_code 9 = .ok (.iload_n 1, 1) := by decide +kernel
theorem d33_10 : decode jdk_29_method_69_code 10 = .ok (.ireturn, 1) := by decide +kernel
theorem ef33 (m : MethodId) (x0 : Int32) (x1 : Int32) : entryFrame m #[(.int x0), (.int x1)] 2 = mkF m 0 #[.val (.int x0), .val (.int x1)] [] := by first | (simp [entryFrame, mkF, argsToLocals, Value.category]; done) | rfl
def Q33 (Z : State) (p1 : Int32) (wa wb wc wd we : Addr) (ka kc : ClassId) (G1 : Int32) (h0 : Heap) (n0 : Nat) (v : Option Value) (h : Heap) (L : List Loc) : Prop := v = some (.int p1) ∧ Fr n0 L ∧ h = h0
theorem rm33 (l : Launch) (Z : State) (a0' : Array Value) (hw : ∀ d ∈ tables_1, d.before a0' Z = true) (ws : List Jvm.Cond) (p1 : Int32) (wa wb wc wd we : Addr) (ka kc : ClassId) (G1 : Int32) (h0 : Heap) (n0 : Nat) (O : Old Z n0 h0) (W : Wd Z wa wb wc wd we ka kc G1) (h33 : p1 < (10 : Int32)) :
    MetFree l mq18 (head1 (Jvm.Cond.code mq18 jdk_29_method_69_code 2 (some .int) :: ws) ({ frames := 0, cells := 0, slots := 0, locals := 0 } : Room)) (fun a U => a = #[(.int 10), (.int p1)] ∧ Z.Warmed39 U.vm ∧ U.heap = h0) (fun _ _ _ _ _ => True) (fun _ U o U' => ∃ v L, o = .returned v ∧ Q33 Z p1 wa wb wc wd we ka kc G1 h0 n0 v U'.heap L ∧ FrameEnd U o U' L ({ frames := 0, cells := 0, slots := 0, locals := 0 } : Room).cells ({ frames := 0, cells := 0, slots := 0, locals := 0 } : Room).slots) := by
  refine MetFree.of_bodySF (Jvm.Free.JP.mathPlain rfl (by decide +kernel)) hisR ?_
  intro p e s m args below meth c s₁ Bd hml0 hP hK
  obtain ⟨rfl, hZ, hh⟩ := hP
  have hx := Bd.exec
  have hby := Bd.bytes
  have hml : c.maxLocals = 2 := hml0
  have hown : s.vm.findClass "java/lang/Math" = some m.cls := findClass_of_methodNamed Bd.named
  have hnm := (name_of_methodNamed Bd.named Bd.method).1
  have hk := Bd.notSynchronized
  have X0 : Stand p l e ({ frames := 0, cells := 0, slots := 0, locals := 0 } : Room) s m #[(.int 10), (.int p1)] below meth c s₁ [] 0 0 := Stand.of_body Bd
  have hh2 := hh
  have e0 : s₁.heap = h0 := by rw [← hh, Bd.state]; rfl
  have N0 := Fr.nil n0
  show Gl p e below (Pos 0 0 (Q33 Z p1 wa wb wc wd we ka kc G1 h0 n0) s) s₁ _
  refine Gl.cast (ef33 m (10 : Int32) p1) ?_
  refine gb (mkF m 1 #[vi 10, vi p1] [(.int 10)]) (fun _ k => XS.iloadN X0.here hx rfl (hb hby d33_0) rfl k) ?_
  refine gb (mkF m 2 #[vi 10, vi p1] [(.int p1), (.int 10)]) (fun _ k => XS.iloadN X0.here hx rfl (hb hby d33_1) rfl k) ?_
  refine gb (mkF m 9 #[vi 10, vi p1] []) (fun _ k => XS.icmpYes X0.here hx rfl (pc0 := 2) (pc' := 9) rfl (hb hby d33_2) rfl (tlt h33).2.2.1 (by decide) (by decide) k) ?_
  refine gb (mkF m 10 #[vi 10, vi p1] [(.int p1)]) (fun _ k => XS.iloadN X0.here hx rfl (hb hby d33_9) rfl k) ?_
  exact Gl.outI X0 hx hk Bd.returns (hb hby d33_10) ⟨rfl, N0, e0⟩ (by decide) (by decide)
theorem d32_0 : decode jdk_65_method_120_code 0 = .ok (.aload_n 2, 1) := by decide +kernel
theorem d32_1 : decode jdk_65_method_120_code 1 = .ok (.ldc 110, 2) := by decide +kernel
theorem d32_3 : decode jdk_65_method_120_code 3 = .ok (.if_acmp .ne 10, 3) := by decide +kernel
theorem d32_6 : decode jdk_65_method_120_code 6 = .ok (.iload_n 1, 1) := by decide +kernel
theorem d32_7 : decode jdk_65_method_120_code 7 = .ok (.anewarray 2, 3) := by decide +kernel
theorem d32_10 : decode jdk_65_method_120_code 10 = .ok (.goto 14, 3) := by decide +kernel
theorem d32_24 : decode jdk_65_method_120_code 24 = .ok (.astore_n 3, 1) := by decide +kernel
theorem d32_25 : decode jdk_65_method_120_code 25 = .ok (.aload_n 0, 1) := by decide +kernel
theorem d32_26 : decode jdk_65_method_120_code 26 = .ok (.iconst 0, 1) := by decide +kernel
theorem d32_27 : decode jdk_65_method_120_code 27 = .ok (.aload_n 3, 1) := by decide +kernel
theorem d32_28 : decode jdk_65_method_120_code 28 = .ok (.iconst 0, 1) := by decide +kernel
theorem d32_29 : decode jdk_65_method_120_code 29 = .ok (.aload_n 0, 1) := by decide +kernel
theorem d32_30 : decode jdk_65_method_120_code 30 = .ok (.arraylength, 1) := by decide +kernel
theorem d32_31 : decode jdk_65_method_120_code 31 = .ok (.iload_n 1, 1) := by decide +kernel
theorem d32_32 : decode jdk_65_method_120_code 32 = .ok (.invokestatic 304, 3) := by decide +kernel
theorem d32_35 : decode jdk_65_method_120_code 35 = .ok (.invokestatic 150, 3) := by decide +kernel
theorem d32_38 : decode jdk_65_method_120_code 38 = .ok (.aload_n 3, 1) := by decide +kernel
theorem d32_39 : decode jdk_65_method_120_code 39 = .ok (.areturn, 1) := by decide +kernel
theorem pn7 : plainName "java/util/Arrays" = true := by first | (simp [plainName, overriddenIn]; done) | decide +kernel
theorem pd206 : parseMethodDescriptor "(Ljava/lang/Object;ILjava/lang/Object;II)V" = some ⟨[oT, .int, oT, .int, .int], none⟩ := by decide +kernel
theorem ef321 (m : MethodId) (x0 : Addr) (x1 : Int32) (x2 : Addr) : entryFrame m #[(.ref x0), (.int x1), (.ref x2)] 4 = mkF m 0 #[.val (.ref x0), .val (.int x1), .val (.ref x2), .unset] [] := by first | (simp [entryFrame, mkF, argsToLocals, Value.category]; done) | rfl
def Q321 (Z : State) (ea : Addr) (we : Addr) (kk : ClassId) (x0 : Addr) (wa wb wc wd we : Addr) (ka kc : ClassId) (G1 : Int32) (h0 : Heap) (n0 : Nat) (v : Option Value) (h : Heap) (L : List Loc) : Prop := ∃ (r : Addr), ∃ (kr : ClassId), v = some (.ref r) ∧ Fr n0 L ∧ Keep h0 h [] ∧ Arv Z h r kr oT (1 : Int32) [(.ref x0)] .null ∧ n0 ≤ r ∧ Ovr Z kr "java/lang/Object"
theorem rm321 (l : Launch) (Z : State) (a0' : Array Value) (hw : ∀ d ∈ tables_1, d.before a0' Z = true) (ws : List Jvm.Cond) (ea : Addr) (we : Addr) (kk : ClassId) (x0 : Addr) (wa wb wc wd we : Addr) (ka kc : ClassId) (G1 : Int32) (h0 : Heap) (n0 : Nat) (O : Old Z n0 h0) (W : Wd Z wa wb wc wd we ka kc G1) (pf0 : Arv Z h0 ea kk oT (10 : Int32) [(.ref x0), .null, .null, .null, .null, .null, .null, .null, .null, .null] .null) (pf1 : Exa Z h0 x0 sI) :
    MetFree l mq19 (head1 (Jvm.Cond.code mq19 jdk_65_method_120_code 4 (some (.array oT)) :: ws) ({ frames := 1, cells := 1, slots := 1, locals := 18 } : Room)) (fun a U => a = #[(.ref ea), (.int 1), (.ref we)] ∧ Z.Warmed39 U.vm ∧ U.heap = h0) (fun _ _ _ _ _ => True) (fun _ U o U' => ∃ v L, o = .returned v ∧ Q321 Z ea we kk x0 wa wb wc wd we ka kc G1 h0 n0 v U'.heap L ∧ FrameEnd U o U' L ({ frames := 1, cells := 1, slots := 1, locals := 18 } : Room).cells ({ frames := 1, cells := 1, slots := 1, locals := 18 } : Room).slots) := by
  refine MetFree.of_bodySF (plainFor_of_name pn7) hisR ?_
  intro p e s m args below meth c s₁ Bd hml0 hP hK
  obtain ⟨rfl, hZ, hh⟩ := hP
  have hx := Bd.exec
  have hby := Bd.bytes
  have hml : c.maxLocals = 4 := hml0
  have hown : s.vm.findClass "java/util/Arrays" = some m.cls := findClass_of_methodNamed Bd.named
  have hnm := (name_of_methodNamed Bd.named Bd.method).1
  have hk := Bd.notSynchronized
  have X0 : Stand p l e ({ frames := 1, cells := 1, slots := 1, locals := 18 } : Room) s m #[(.ref ea), (.int 1), (.ref we)] below meth c s₁ [] 0 0 := Stand.of_body Bd
  have hh2 := hh
  have e0 : s₁.heap = h0 := by rw [← hh, Bd.state]; rfl
  have N0 := Fr.nil n0
  show Gl p e below (Pos 1 1 (Q321 Z ea we kk x0 wa wb wc wd we ka kc G1 h0 n0) s) s₁ _
  refine Gl.cast (ef321 m ea (1 : Int32) we) ?_
  refine gb (mkF m 1 #[vr ea, vi 1, vr we, .unset] [(.ref we)]) (fun _ k => XS.aloadN X0.here hx rfl (hb hby d32_0) rfl rfl k) ?_
  obtain ⟨T1, X1, e1, st1⟩ := ldcM X0 hx hZ hown (hW hw 217 rfl) W.2.2.2.2.2.2.2.2.1 e0 (g := (mkF m 1 #[vr ea, vi 1, vr we, .unset] [(.ref we)])) rfl (hb hby d32_1)
  refine gb (mkF m 3 #[vr ea, vi 1, vr we, .unset] [(.ref we), (.ref we)]) st1 ?_
  refine gb (mkF m 6 #[vr ea, vi 1, vr we, .unset] []) (fun _ k => Jvm.RoadKit.acmp (g := (mkF m 3 #[vr ea, vi 1, vr we, .unset] [(.ref we), (.ref we)])) X1 hx rfl rfl rfl (pc0 := 3) (pc' := 6) (same := true) rfl (hb hby d32_3) rfl (decide_eq_true (congrArg Value.ref rfl)) (by decide) (by decide) k) ?_
  refine gb (mkF m 7 #[vr ea, vi 1, vr we, .unset] [(.int 1)]) (fun _ k => XS.iloadN X1.here hx rfl (hb hby d32_6) rfl k) ?_
  obtain ⟨T2, h2, k2, X2, e2, E2, A2, Ov2, st2⟩ := newRX X1 hx hZ hown (hW hw 218 rfl) (hW hw 188 rfl) rfl e1 (g := (mkF m 7 #[vr ea, vi 1, vr we, .unset] [(.int 1)])) rfl (hb hby d32_7) rfl (by decide) (cap := 1) (by decide) (by decide) (by decide) (by decide)
  obtain ⟨b2, g2⟩ : ∃ z, z = (h0).size := ⟨_, rfl⟩
  rw [← g2] at A2 st2
  have gb2 : n0 ≤ b2 := Nat.le_trans (Nat.le_trans (Nat.le_of_eq O.1.symm) O.2.1) (Nat.le_of_eq g2.symm)
  have sb2 : h0.size ≤ b2 := Nat.le_trans (Keep.refl h0 []).1 (Nat.le_of_eq g2.symm)
  have ne2_0 : ea ≠ b2 := Nat.ne_of_lt (Nat.lt_of_lt_of_le pf0.lt (Nat.le_of_eq g2.symm))
  have ne2_2 : x0 ≠ b2 := Nat.ne_of_lt (Nat.lt_of_lt_of_le pf1.lt (Nat.le_of_eq g2.symm))
  have ne2_4 : wa ≠ b2 := Nat.ne_of_lt (Nat.lt_of_lt_of_le (Arv.ext W.2.1 O.2).lt (Nat.le_of_eq g2.symm))
  have ne2_6 : wc ≠ b2 := Nat.ne_of_lt (Nat.lt_of_lt_of_le (Arv.ext W.2.2.2.2.2.1 O.2).lt (Nat.le_of_eq g2.symm))
  have ne2_8 : wb ≠ b2 := Nat.ne_of_lt (Nat.lt_of_lt_of_le (Exa.ext O.2 W.2.2.2.1).lt (Nat.le_of_eq g2.symm))
  have ne2_10 : wd ≠ b2 := Nat.ne_of_lt (Nat.lt_of_lt_of_le (Exa.ext O.2 W.2.2.2.2.2.2.2.1).lt (Nat.le_of_eq g2.symm))
  have V2 : Arv Z h2 b2 k2 oT (1 : Int32) [.null] .null := (Arv.new A2 (by decide)).pad (pad_rep [] .null 1)
  rw [← g2] at Ov2
  refine gb (mkF m 10 #[vr ea, vi 1, vr we, .unset] [(.ref b2)]) st2 ?_
  refine gb (mkF m 24 #[vr ea, vi 1, vr we, .unset] [(.ref b2)]) (fun _ k => XS.goto X2.here hx rfl (pc0 := 10) (pc' := 24) rfl (hb hby d32_10) (by decide) (by decide) k) ?_
  refine gb (mkF m 25 #[vr ea, vi 1, vr we, vr b2] []) (fun _ k => XS.astoreN X2.here hx rfl (hb hby d32_24) rfl rfl (l' := #[vr ea, vi 1, vr we, vr b2]) rfl k) ?_
  refine gb (mkF m 26 #[vr ea, vi 1, vr we, vr b2] [(.ref ea)]) (fun _ k => XS.aloadN X2.here hx rfl (hb hby d32_25) rfl rfl k) ?_
  refine gb (mkF m 27 #[vr ea, vi 1, vr we, vr b2] [(.int 0), (.ref ea)]) (fun _ k => XS.iconst X2.here hx rfl (hb hby d32_26) k) ?_
  refine gb (mkF m 28 #[vr ea, vi 1, vr we, vr b2] [(.ref b2), (.int 0), (.ref ea)]) (fun _ k => XS.aloadN X2.here hx rfl (hb hby d32_27) rfl rfl k) ?_
  refine gb (mkF m 29 #[vr ea, vi 1, vr we, vr b2] [(.int 0), (.ref b2), (.int 0), (.ref ea)]) (fun _ k => XS.iconst X2.here hx rfl (hb hby d32_28) k) ?_
  refine gb (mkF m 30 #[vr ea, vi 1, vr we, vr b2] [(.ref ea), (.int 0), (.ref b2), (.int 0), (.ref ea)]) (fun _ k => XS.aloadN X2.here hx rfl (hb hby d32_29) rfl rfl k) ?_
  have f3 := (Arv.ext pf0 E2)
  obtain ⟨cl4, Ar4, qa4, Sa4, Na4, Ha4, Ga4⟩ := id f3
  refine gb (mkF m 31 #[vr ea, vi 1, vr we, vr b2] [(.int 10), (.int 0), (.ref b2), (.int 0), (.ref ea)]) (fun t k => X2.arraylength hx (by rw [e2]; exact Ar4.1) (State.isArrayOf_alike hZ.alike Ar4.2.1) (g := (mkF m 30 #[vr ea, vi 1, vr we, vr b2] [(.ref ea), (.int 0), (.ref b2), (.int 0), (.ref ea)])) rfl rfl (hb hby d32_30) t (by rw [len_of Sa4 Na4]; exact k)) ?_
  refine gb (mkF m 32 #[vr ea, vi 1, vr we, vr b2] [(.int 1), (.int 10), (.int 0), (.ref b2), (.int 0), (.ref ea)]) (fun _ k => XS.iloadN X2.here hx rfl (hb hby d32_31) rfl k) ?_
  have K6 := ((Keep.refl h0 []).ext E2)
  have O7 := (O.ext E2)
  obtain ⟨_, _, ⟨T5, L5, k5, n5⟩, -, X5, ⟨Lc5, hQ5, l5, y5, z5⟩, st5⟩ := callS X2 hx (y := mq18) hown (mvT hZ (hW hw 219 rfl)) (mvT hZ (hW hw 220 rfl)) (mvT hZ (hW hw 185 rfl)) (mvT hZ (hW hw 221 rfl)) (by decide) (backOf (W := 4) (rm33 l Z a0' hw [] (1 : Int32) wa wb wc wd we ka kc G1 h2 n0 O7 W (by decide)) hZ (hW hw 221 rfl) (hW hw 185 rfl) (by decide) (by decide)) (g := (mkF m 32 #[vr ea, vi 1, vr we, vr b2] [(.int 1), (.int 10), (.int 0), (.ref b2), (.int 0), (.ref ea)])) rfl (by rw [hml]; rfl) (argsL := [(.int 10), (.int 1)]) (rest := [(.int 0), (.ref b2), (.int 0), (.ref ea)]) (lenOf pd24 rfl) rfl (Nat.le_of_eq rfl) (hb hby d32_32) (fun _ _ => ⟨rfl, e2, (by decide : 1 + 0 ≤ _), (by decide : 1 + 0 ≤ _)⟩)
  dsimp only [Pt.U, Pt.locs, Pt.cells, Pt.slots] at X5 l5 y5 z5 st5 hQ5
  subst l5 y5 z5
  obtain ⟨rfl, N5q, e5⟩ := hQ5
  have N5 := Fr.app N0 N5q
  refine gb (mkF m 35 #[vr ea, vi 1, vr we, vr b2] [(.int 1), (.int 0), (.ref b2), (.int 0), (.ref ea)]) st5 ?_
  obtain ⟨cl9, Ar9, qa9, Sa9, Na9, Ha9, Ga9⟩ := id V2
  have f10 := (Exa.ext E2 pf1)
  obtain ⟨T8, h8, L8, X8, e8, N8, Kc8, V8', st8⟩ := cpA X5 hx hZ hown (hW hw 222 rfl) (hW hw 225 rfl) (hW hw 223 rfl) (hW hw 224 rfl) e5 f3 V2 (us := [(.ref x0)]) (Or.inr ⟨rfl, rfl, ⟨Sto.ofV Ar9 qa9 Ov2.1 (Ins.of_exa f10 (hW hw 189 rfl)), trivial⟩⟩) (by decide) (by decide) (by decide) (by decide) (by decide) rfl (by decide) N5 gb2 (g := (mkF m 35 #[vr ea, vi 1, vr we, vr b2] [(.int 1), (.int 0), (.ref b2), (.int 0), (.ref ea)])) rfl (by rw [hml]; rfl) rfl (hb hby d32_35) (by decide) (W := 0) (Nat.le_of_eq rfl) (by decide)
  have V8 : Arv Z h8 b2 k2 oT (1 : Int32) [(.ref x0)] .null := V8'
  refine gb (mkF m 38 #[vr ea, vi 1, vr we, vr b2] []) st8 ?_
  refine gb (mkF m 39 #[vr ea, vi 1, vr we, vr b2] [(.ref b2)]) (fun _ k => XS.aloadN X8.here hx rfl (hb hby d32_38) rfl rfl k) ?_
  have K11 := (K6.trans Kc8 (allS (Or.inr sb2) all0))
  exact Gl.outA X8 hx hk Bd.returns rfl rfl (hb hby d32_39) (Eq.mpr (congrArg (fun hh => Q321 Z ea we kk x0 wa wb wc wd we ka kc G1 h0 n0 _ hh _) e8) (show Q321 Z ea we kk x0 wa wb wc wd we ka kc G1 h0 n0 _ h8 _ from ⟨b2, k2, rfl, N8, K11, V8, ⟨gb2, Ov2.1⟩⟩)) (by decide) (by decide)
theorem d31_0 : decode jdk_65_method_119_code 0 = .ok (.aload_n 0, 1) := by decide +kernel
theorem d31_1 : decode jdk_65_method_119_code 1 = .ok (.iload_n 1, 1) := by decide +kernel
theorem d31_2 : decode jdk_65_method_119_code 2 = .ok (.aload_n 0, 1) := by decide +kernel
theorem d31_3 : decode jdk_65_method_119_code 3 = .ok (.invokevirtual 86, 3) := by decide +kernel
theorem d31_6 : decode jdk_65_method_119_code 6 = .ok (.invokestatic 300, 3) := by decide +kernel
theorem d31_9 : decode jdk_65_method_119_code 9 = .ok (.areturn, 1) := by decide +kernel
theorem pd213 : parseMethodDescriptor "()Ljava/lang/Class;" = some ⟨[], some (.object "java/lang/Class")⟩ := by decide +kernel
theorem pd214 : parseMethodDescriptor "([Ljava/lang/Object;ILjava/lang/Class;)[Ljava/lang/Object;" = some ⟨[(.array oT), .int, (.object "java/lang/Class")], some (.array oT)⟩ := by decide +kernel
theorem ef311 (m : MethodId) (x0 : Addr) (x1 : Int32) : entryFrame m #[(.ref x0), (.int x1)] 2 = mkF m 0 #[.val (.ref x0), .val (.int x1)] [] := by first | (simp [entryFrame, mkF, argsToLocals, Value.category]; done) | rfl
def Q311 (Z : State) (ea : Addr) (kk : ClassId) (x0 : Addr) (wa wb wc wd we : Addr) (ka kc : ClassId) (G1 : Int32) (h0 : Heap) (n0 : Nat) (v : Option Value) (h : Heap) (L : List Loc) : Prop := ∃ (r : Addr), ∃ (kr : ClassId), v = some (.ref r) ∧ Fr n0 L ∧ Keep h0 h [] ∧ Arv Z h r kr oT (1 : Int32) [(.ref x0)] .null ∧ n0 ≤ r ∧ Ovr Z kr "java/lang/Object"
theorem rm311 (l : Launch) (Z : State) (a0' : Array Value) (hw : ∀ d ∈ tables_1, d.before a0' Z = true) (ws : List Jvm.Cond) (ea : Addr) (kk : ClassId) (x0 : Addr) (wa wb wc wd we : Addr) (ka kc : ClassId) (G1 : Int32) (h0 : Heap) (n0 : Nat) (O : Old Z n0 h0) (W : Wd Z wa wb wc wd we ka kc G1) (pf0 : Exa Z h0 ea sO) (pf1 : Arv Z h0 ea kk oT (10 : Int32) [(.ref x0), .null, .null, .null, .null, .null, .null, .null, .null, .null] .null) (pf2 : Exa Z h0 x0 sI) :
    MetFree l mq20 (head1 (Jvm.Cond.code mq20 jdk_65_method_119_code 2 (some (.array oT)) :: ws) ({ frames := 2, cells := 1, slots := 1, locals := 33 } : Room)) (fun a U => a = #[(.ref ea), (.int 1)] ∧ Z.Warmed39 U.vm ∧ U.heap = h0) (fun _ _ _ _ _ => True) (fun _ U o U' => ∃ v L, o = .returned v ∧ Q311 Z ea kk x0 wa wb wc wd we ka kc G1 h0 n0 v U'.heap L ∧ FrameEnd U o U' L ({ frames := 2, cells := 1, slots := 1, locals := 33 } : Room).cells ({ frames := 2, cells := 1, slots := 1, locals := 33 } : Room).slots) := by
  refine MetFree.of_bodySF (plainFor_of_name pn7) hisR ?_
  intro p e s m args below meth c s₁ Bd hml0 hP hK
  obtain ⟨rfl, hZ, hh⟩ := hP
  have hx := Bd.exec
  have hby := Bd.bytes
  have hml : c.maxLocals = 2 := hml0
  have hown : s.vm.findClass "java/util/Arrays" = some m.cls := findClass_of_methodNamed Bd.named
  have hnm := (name_of_methodNamed Bd.named Bd.method).1
  have hk := Bd.notSynchronized
  have X0 : Stand p l e ({ frames := 2, cells := 1, slots := 1, locals := 33 } : Room) s m #[(.ref ea), (.int 1)] below meth c s₁ [] 0 0 := Stand.of_body Bd
  have hh2 := hh
  have e0 : s₁.heap = h0 := by rw [← hh, Bd.state]; rfl
  have N0 := Fr.nil n0
  show Gl p e below (Pos 1 1 (Q311 Z ea kk x0 wa wb wc wd we ka kc G1 h0 n0) s) s₁ _
  refine Gl.cast (ef311 m ea (1 : Int32)) ?_
  refine gb (mkF m 1 #[vr ea, vi 1] [(.ref ea)]) (fun _ k => XS.aloadN X0.here hx rfl (hb hby d31_0) rfl rfl k) ?_
  refine gb (mkF m 2 #[vr ea, vi 1] [(.int 1), (.ref ea)]) (fun _ k => XS.iloadN X0.here hx rfl (hb hby d31_1) rfl k) ?_
  refine gb (mkF m 3 #[vr ea, vi 1] [(.ref ea), (.int 1), (.ref ea)]) (fun _ k => XS.aloadN X0.here hx rfl (hb hby d31_2) rfl rfl k) ?_
  obtain ⟨T1, X1, e1, st1⟩ := gcls X0 hx hZ hown (hW hw 208 rfl) (hW hw 209 rfl) (hW hw 66 rfl) (hW hw 211 rfl) (hW hw 210 rfl) (hW hw 212 rfl) e0 pf0 W.2.2.2.2.2.2.2.2.1 (g := (mkF m 3 #[vr ea, vi 1] [(.ref ea), (.int 1), (.ref ea)])) rfl (by rw [hml]; rfl) rfl (hb hby d31_3) (by decide) (W := 2) (Nat.le_of_eq rfl) (by decide)
  refine gb (mkF m 6 #[vr ea, vi 1] [(.ref we), (.int 1), (.ref ea)]) st1 ?_
  obtain ⟨_, _, ⟨T2, L2, k2, n2⟩, -, X2, ⟨Lc2, hQ2, l2, y2, z2⟩, st2⟩ := callS X1 hx (y := mq19) hown (mvT hZ (hW hw 214 rfl)) (mvT hZ (hW hw 215 rfl)) (mvT hZ (hW hw 206 rfl)) (mvT hZ (hW hw 216 rfl)) (by decide) (backOf (W := 0) (rm321 l Z a0' hw [] ea we kk x0 wa wb wc wd we ka kc G1 h0 n0 O W pf1 pf2) hZ (hW hw 216 rfl) (hW hw 206 rfl) (by decide) (by decide)) (g := (mkF m 6 #[vr ea, vi 1] [(.ref we), (.int 1), (.ref ea)])) rfl (by rw [hml]; rfl) (argsL := [(.ref ea), (.int 1), (.ref we)]) (rest := []) (lenOf pd214 rfl) rfl (Nat.le_of_eq rfl) (hb hby d31_6) (fun _ _ => ⟨rfl, e1, (by decide : 0 + 1 ≤ _), (by decide : 0 + 1 ≤ _)⟩)
  dsimp only [Pt.U, Pt.locs, Pt.cells, Pt.slots] at X2 l2 y2 z2 st2 hQ2
  subst l2 y2 z2
  obtain ⟨r_2, kr_2, rfl, N2q, Kc2, fc2_0, fc2_1⟩ := hQ2
  have N2 := Fr.app N0 N2q
  refine gb (mkF m 9 #[vr ea, vi 1] [(.ref r_2)]) st2 ?_
  have K3 := ((Keep.refl h0 []).trans Kc2 all0)
  exact Gl.outA X2 hx hk Bd.returns rfl rfl (hb hby d31_9) ⟨r_2, kr_2, rfl, N2, K3, fc2_0, ⟨fc2_1.1, fc2_1.2⟩⟩ (by decide) (by decide)
theorem d30_0 : decode jdk_38_method_16_code 0 = .ok (.aload_n 0, 1) := by decide +kernel
theorem d30_1 : decode jdk_38_method_16_code 1 = .ok (.getfield 9, 3) := by decide +kernel
theorem d30_4 : decode jdk_38_method_16_code 4 = .ok (.aload_n 0, 1) := by decide +kernel
theorem d30_5 : decode jdk_38_method_16_code 5 = .ok (.getfield 48, 3) := by decide +kernel
theorem d30_8 : decode jdk_38_method_16_code 8 = .ok (.invokestatic 66, 3) := by decide +kernel
theorem d30_11 : decode jdk_38_method_16_code 11 = .ok (.areturn, 1) := by decide +kernel
theorem pd221 : parseMethodDescriptor "([Ljava/lang/Object;I)[Ljava/lang/Object;" = some ⟨[(.array oT), .int], some (.array oT)⟩ := by decide +kernel
theorem ef301 (m : MethodId) (x0 : Addr) : entryFrame m #[(.ref x0)] 1 = mkF m 0 #[.val (.ref x0)] [] := by first | (simp [entryFrame, mkF, argsToLocals, Value.category]; done) | rfl
def Q301 (Z : State) (a0 : Addr) (ea : Addr) (kk : ClassId) (x0 : Addr) (wa wb wc wd we : Addr) (ka kc : ClassId) (G1 : Int32) (h0 : Heap) (n0 : Nat) (v : Option Value) (h : Heap) (L : List Loc) : Prop := ∃ (r : Addr), ∃ (kr : ClassId), v = some (.ref r) ∧ Fr n0 L ∧ Keep h0 h [] ∧ Arv Z h r kr oT (1 : Int32) [(.ref x0)] .null ∧ n0 ≤ r ∧ Ovr Z kr "java/lang/Object"
theorem rm301 (l : Launch) (Z : State) (a0' : Array Value) (hw : ∀ d ∈ tables_1, d.before a0' Z = true) (ws : List Jvm.Cond) (a0 : Addr) (ea : Addr) (kk : ClassId) (x0 : Addr) (wa wb wc wd we : Addr) (ka kc : ClassId) (G1 : Int32) (h0 : Heap) (n0 : Nat) (O : Old Z n0 h0) (W : Wd Z wa wb wc wd we ka kc G1) (pf0 : Exa Z h0 a0 sA) (pf1 : Fld Z h0 a0 sA "elementData" sO (.ref ea)) (pf2 : Fld Z h0 a0 sA "size" "I" (.int 1)) (pf3 : Exa Z h0 ea sO) (pf4 : Arv Z h0 ea kk oT (10 : Int32) [(.ref x0), .null, .null, .null, .null, .null, .null, .null, .null, .null] .null) (pf5 : Exa Z h0 x0 sI) :
    MetFree l mq21 (head1 (Jvm.Cond.code mq21 jdk_38_method_16_code 1 (some (.array oT)) :: ws) ({ frames := 3, cells := 1, slots := 1, locals := 46 } : Room)) (fun a U => a = #[(.ref a0)] ∧ Z.Warmed39 U.vm ∧ U.heap = h0) (fun _ _ _ _ _ => True) (fun _ U o U' => ∃ v L, o = .returned v ∧ Q301 Z a0 ea kk x0 wa wb wc wd we ka kc G1 h0 n0 v U'.heap L ∧ FrameEnd U o U' L ({ frames := 3, cells := 1, slots := 1, locals := 46 } : Room).cells ({ frames := 3, cells := 1, slots := 1, locals := 46 } : Room).slots) := by
  refine MetFree.of_bodySF (plainFor_of_name pn0) hisR ?_
  intro p e s m args below meth c s₁ Bd hml0 hP hK
  obtain ⟨rfl, hZ, hh⟩ := hP
  have hx := Bd.exec
  have hby := Bd.bytes
  have hml : c.maxLocals = 1 := hml0
  have hown : s.vm.findClass sA = some m.cls := findClass_of_methodNamed Bd.named
  have hnm := (name_of_methodNamed Bd.named Bd.method).1
  have hk := Bd.notSynchronized
  have X0 : Stand p l e ({ frames := 3, cells := 1, slots := 1, locals := 46 } : Room) s m #[(.ref a0)] below meth c s₁ [] 0 0 := Stand.of_body Bd
  have hh2 := hh
  have e0 : s₁.heap = h0 := by rw [← hh, Bd.state]; rfl
  have N0 := Fr.nil n0
  show Gl p e below (Pos 1 1 (Q301 Z a0 ea kk x0 wa wb wc wd we ka kc G1 h0 n0) s) s₁ _
  refine Gl.cast (ef301 m a0) ?_
  refine gb (mkF m 1 #[vr a0] [(.ref a0)]) (fun _ k => XS.aloadN X0.here hx rfl (hb hby d30_0) rfl rfl k) ?_
  obtain ⟨T1, X1, e1, st1⟩ := getF X0 hx hZ hown (host := "") (Or.inl (hW hw 31 rfl)) Via.refl e0 pf1 (g := (mkF m 1 #[vr a0] [(.ref a0)])) rfl rfl (hb hby d30_1)
  refine gb (mkF m 4 #[vr a0] [(.ref ea)]) st1 ?_
  refine gb (mkF m 5 #[vr a0] [(.ref a0), (.ref ea)]) (fun _ k => XS.aloadN X1.here hx rfl (hb hby d30_4) rfl rfl k) ?_
  obtain ⟨T2, X2, e2, st2⟩ := getF X1 hx hZ hown (host := "") (Or.inl (hW hw 77 rfl)) Via.refl e1 pf2 (g := (mkF m 5 #[vr a0] [(.ref a0), (.ref ea)])) rfl rfl (hb hby d30_5)
  refine gb (mkF m 8 #[vr a0] [(.int 1), (.ref ea)]) st2 ?_
  obtain ⟨_, _, ⟨T3, L3, k3, n3⟩, -, X3, ⟨Lc3, hQ3, l3, y3, z3⟩, st3⟩ := callS X2 hx (y := mq20) hown (mvT hZ (hW hw 204 rfl)) (mvT hZ (hW hw 205 rfl)) (mvT hZ (hW hw 206 rfl)) (mvT hZ (hW hw 207 rfl)) (by decide) (backOf (W := 0) (rm311 l Z a0' hw [] ea kk x0 wa wb wc wd we ka kc G1 h0 n0 O W pf3 pf4 pf5) hZ (hW hw 207 rfl) (hW hw 206 rfl) (by decide) (by decide)) (g := (mkF m 8 #[vr a0] [(.int 1), (.ref ea)])) rfl (by rw [hml]; rfl) (argsL := [(.ref ea), (.int 1)]) (rest := []) (lenOf pd221 rfl) rfl (Nat.le_of_eq rfl) (hb hby d30_8) (fun _ _ => ⟨rfl, e2, (by decide : 0 + 1 ≤ _), (by decide : 0 + 1 ≤ _)⟩)
  dsimp only [Pt.U, Pt.locs, Pt.cells, Pt.slots] at X3 l3 y3 z3 st3 hQ3
  subst l3 y3 z3
  obtain ⟨r_3, kr_3, rfl, N3q, Kc3, fc3_0, fc3_1⟩ := hQ3
  have N3 := Fr.app N0 N3q
  refine gb (mkF m 11 #[vr a0] [(.ref r_3)]) st3 ?_
  have K4 := ((Keep.refl h0 []).trans Kc3 all0)
  exact Gl.outA X3 hx hk Bd.returns rfl rfl (hb hby d30_11) ⟨r_3, kr_3, rfl, N3, K4, fc3_0, ⟨fc3_1.1, fc3_1.2⟩⟩ (by decide) (by decide)
theorem ef322 (m : MethodId) (x0 : Addr) (x1 : Int32) (x2 : Addr) : entryFrame m #[(.ref x0), (.int x1), (.ref x2)] 4 = mkF m 0 #[.val (.ref x0), .val (.int x1), .val (.ref x2), .unset] [] := by first | (simp [entryFrame, mkF, argsToLocals, Value.category]; done) | rfl
def Q322 (Z : State) (ea : Addr) (we : Addr) (kk : ClassId) (x0 x1 : Addr) (wa wb wc wd we : Addr) (ka kc : ClassId) (G1 : Int32) (h0 : Heap) (n0 : Nat) (v : Option Value) (h : Heap) (L : List Loc) : Prop := ∃ (r : Addr), ∃ (kr : ClassId), v = some (.ref r) ∧ Fr n0 L ∧ Keep h0 h [] ∧ Arv Z h r kr oT (2 : Int32) [(.ref x0), (.ref x1)] .null ∧ n0 ≤ r ∧ Ovr Z kr "java/lang/Object"
theorem rm322 (l : Launch) (Z : State) (a0' : Array Value) (hw : ∀ d ∈ tables_1, d.before a0' Z = true) (ws : List Jvm.Cond) (ea : Addr) (we : Addr) (kk : ClassId) (x0 x1 : Addr) (wa wb wc wd we : Addr) (ka kc : ClassId) (G1 : Int32) (h0 : Heap) (n0 : Nat) (O : Old Z n0 h0) (W : Wd Z wa wb wc wd we ka kc G1) (pf0 : Arv Z h0 ea kk oT (10 : Int32) [(.ref x0), (.ref x1), .null, .null, .null, .null, .null, .null, .null, .null] .null) (pf1 : Exa Z h0 x0 sI) (pf2 : Exa Z h0 x1 sI) :
    MetFree l mq19 (head1 (Jvm.Cond.code mq19 jdk_65_method_120_code 4 (some (.array oT)) :: ws) ({ frames := 1, cells := 1, slots := 2, locals := 18 } : Room)) (fun a U => a = #[(.ref ea), (.int 2), (.ref we)] ∧ Z.Warmed39 U.vm ∧ U.heap = h0) (fun _ _ _ _ _ => True) (fun _ U o U' => ∃ v L, o = .returned v ∧ Q322 Z ea we kk x0 x1 wa wb wc wd we ka kc G1 h0 n0 v U'.heap L ∧ FrameEnd U o U' L ({ frames := 1, cells := 1, slots := 2, locals := 18 } : Room).cells ({ frames := 1, cells := 1, slots := 2, locals := 18 } : Room).slots) := by
  refine MetFree.of_bodySF (plainFor_of_name pn7) hisR ?_
  intro p e s m args below meth c s₁ Bd hml0 hP hK
  obtain ⟨rfl, hZ, hh⟩ := hP
  have hx := Bd.exec
  have hby := Bd.bytes
  have hml : c.maxLocals = 4 := hml0
  have hown : s.vm.findClass "java/util/Arrays" = some m.cls := findClass_of_methodNamed Bd.named
  have hnm := (name_of_methodNamed Bd.named Bd.method).1
  have hk := Bd.notSynchronized
  have X0 : Stand p l e ({ frames := 1, cells := 1, slots := 2, locals := 18 } : Room) s m #[(.ref ea), (.int 2), (.ref we)] below meth c s₁ [] 0 0 := Stand.of_body Bd
  have hh2 := hh
  have e0 : s₁.heap = h0 := by rw [← hh, Bd.state]; rfl
  have N0 := Fr.nil n0
  show Gl p e below (Pos 1 2 (Q322 Z ea we kk x0 x1 wa wb wc wd we ka kc G1 h0 n0) s) s₁ _
  refine Gl.cast (ef322 m ea (2 : Int32) we) ?_
  refine gb (mkF m 1 #[vr ea, vi 2, vr we, .unset] [(.ref we)]) (fun _ k => XS.aloadN X0.here hx rfl (hb hby d32_0) rfl rfl k) ?_
  obtain ⟨T1, X1, e1, st1⟩ := ldcM X0 hx hZ hown (hW hw 217 rfl) W.2.2.2.2.2.2.2.2.1 e0 (g := (mkF m 1 #[vr ea, vi 2, vr we, .unset] [(.ref we)])) rfl (hb hby d32_1)
  refine gb (mkF m 3 #[vr ea, vi 2, vr we, .unset] [(.ref we), (.ref we)]) st1 ?_
  refine gb (mkF m 6 #[vr ea, vi 2, vr we, .unset] []) (fun _ k => Jvm.RoadKit.acmp (g := (mkF m 3 #[vr ea, vi 2, vr we, .unset] [(.ref we), (.ref we)])) X1 hx rfl rfl rfl (pc0 := 3) (pc' := 6) (same := true) rfl (hb hby d32_3) rfl (decide_eq_true (congrArg Value.ref rfl)) (by decide) (by decide) k) ?_
  refine gb (mkF m 7 #[vr ea, vi 2, vr we, .unset] [(.int 2)]) (fun _ k => XS.iloadN X1.here hx rfl (hb hby d32_6) rfl k) ?_
  obtain ⟨T2, h2, k2, X2, e2, E2, A2, Ov2, st2⟩ := newRX X1 hx hZ hown (hW hw 218 rfl) (hW hw 188 rfl) rfl e1 (g := (mkF m 7 #[vr ea, vi 2, vr we, .unset] [(.int 2)])) rfl (hb hby d32_7) rfl (by decide) (cap := 2) (by decide) (by decide) (by decide) (by decide)
  obtain ⟨b2, g2⟩ : ∃ z, z = (h0).size := ⟨_, rfl⟩
  rw [← g2] at A2 st2
  have gb2 : n0 ≤ b2 := Nat.le_trans (Nat.le_trans (Nat.le_of_eq O.1.symm) O.2.1) (Nat.le_of_eq g2.symm)
  have sb2 : h0.size ≤ b2 := Nat.le_trans (Keep.refl h0 []).1 (Nat.le_of_eq g2.symm)
  have ne2_0 : ea ≠ b2 := Nat.ne_of_lt (Nat.lt_of_lt_of_le pf0.lt (Nat.le_of_eq g2.symm))
  have ne2_2 : x0 ≠ b2 := Nat.ne_of_lt (Nat.lt_of_lt_of_le pf1.lt (Nat.le_of_eq g2.symm))
  have ne2_4 : x1 ≠ b2 := Nat.ne_of_lt (Nat.lt_of_lt_of_le pf2.lt (Nat.le_of_eq g2.symm))
  have ne2_6 : wa ≠ b2 := Nat.ne_of_lt (Nat.lt_of_lt_of_le (Arv.ext W.2.1 O.2).lt (Nat.le_of_eq g2.symm))
  have ne2_8 : wc ≠ b2 := Nat.ne_of_lt (Nat.lt_of_lt_of_le (Arv.ext W.2.2.2.2.2.1 O.2).lt (Nat.le_of_eq g2.symm))
  have ne2_10 : wb ≠ b2 := Nat.ne_of_lt (Nat.lt_of_lt_of_le (Exa.ext O.2 W.2.2.2.1).lt (Nat.le_of_eq g2.symm))
  have ne2_12 : wd ≠ b2 := Nat.ne_of_lt (Nat.lt_of_lt_of_le (Exa.ext O.2 W.2.2.2.2.2.2.2.1).lt (Nat.le_of_eq g2.symm))
  have V2 : Arv Z h2 b2 k2 oT (2 : Int32) [.null, .null] .null := (Arv.new A2 (by decide)).pad (pad_rep [] .null 2)
  rw [← g2] at Ov2
  refine gb (mkF m 10 #[vr ea, vi 2, vr we, .unset] [(.ref b2)]) st2 ?_
  refine gb (mkF m 24 #[vr ea, vi 2, vr we, .unset] [(.ref b2)]) (fun _ k => XS.goto X2.here hx rfl (pc0 := 10) (pc' := 24) rfl (hb hby d32_10) (by decide) (by decide) k) ?_
  refine gb (mkF m 25 #[vr ea, vi 2, vr we, vr b2] []) (fun _ k => XS.astoreN X2.here hx rfl (hb hby d32_24) rfl rfl (l' := #[vr ea, vi 2, vr we, vr b2]) rfl k) ?_
  refine gb (mkF m 26 #[vr ea, vi 2, vr we, vr b2] [(.ref ea)]) (fun _ k => XS.aloadN X2.here hx rfl (hb hby d32_25) rfl rfl k) ?_
  refine gb (mkF m 27 #[vr ea, vi 2, vr we, vr b2] [(.int 0), (.ref ea)]) (fun _ k => XS.iconst X2.here hx rfl (hb hby d32_26) k) ?_
  refine gb (mkF m 28 #[vr ea, vi 2, vr we, vr b2] [(.ref b2), (.int 0), (.ref ea)]) (fun _ k => XS.aloadN X2.here hx rfl (hb hby d32_27) rfl rfl k) ?_
  refine gb (mkF m 29 #[vr ea, vi 2, vr we, vr b2] [(.int 0), (.ref b2), (.int 0), (.ref ea)]) (fun _ k => XS.iconst X2.here hx rfl (hb hby d32_28) k) ?_
  refine gb (mkF m 30 #[vr ea, vi 2, vr we, vr b2] [(.ref ea), (.int 0), (.ref b2), (.int 0), (.ref ea)]) (fun _ k => XS.aloadN X2.here hx rfl (hb hby d32_29) rfl rfl k) ?_
  have f3 := (Arv.ext pf0 E2)
  obtain ⟨cl4, Ar4, qa4, Sa4, Na4, Ha4, Ga4⟩ := id f3
  refine gb (mkF m 31 #[vr ea, vi 2, vr we, vr b2] [(.int 10), (.int 0), (.ref b2), (.int 0), (.ref ea)]) (fun t k => X2.arraylength hx (by rw [e2]; exact Ar4.1) (State.isArrayOf_alike hZ.alike Ar4.2.1) (g := (mkF m 30 #[vr ea, vi 2, vr we, vr b2] [(.ref ea), (.int 0), (.ref b2), (.int 0), (.ref ea)])) rfl rfl (hb hby d32_30) t (by rw [len_of Sa4 Na4]; exact k)) ?_
  refine gb (mkF m 32 #[vr ea, vi 2, vr we, vr b2] [(.int 2), (.int 10), (.int 0), (.ref b2), (.int 0), (.ref ea)]) (fun _ k => XS.iloadN X2.here hx rfl (hb hby d32_31) rfl k) ?_
  have K6 := ((Keep.refl h0 []).ext E2)
  have O7 := (O.ext E2)
  obtain ⟨_, _, ⟨T5, L5, k5, n5⟩, -, X5, ⟨Lc5, hQ5, l5, y5, z5⟩, st5⟩ := callS X2 hx (y := mq18) hown (mvT hZ (hW hw 219 rfl)) (mvT hZ (hW hw 220 rfl)) (mvT hZ (hW hw 185 rfl)) (mvT hZ (hW hw 221 rfl)) (by decide) (backOf (W := 4) (rm33 l Z a0' hw [] (2 : Int32) wa wb wc wd we ka kc G1 h2 n0 O7 W (by decide)) hZ (hW hw 221 rfl) (hW hw 185 rfl) (by decide) (by decide)) (g := (mkF m 32 #[vr ea, vi 2, vr we, vr b2] [(.int 2), (.int 10), (.int 0), (.ref b2), (.int 0), (.ref ea)])) rfl (by rw [hml]; rfl) (argsL := [(.int 10), (.int 2)]) (rest := [(.int 0), (.ref b2), (.int 0), (.ref ea)]) (lenOf pd24 rfl) rfl (Nat.le_of_eq rfl) (hb hby d32_32) (fun _ _ => ⟨rfl, e2, (by decide : 1 + 0 ≤ _), (by decide : 2 + 0 ≤ _)⟩)
  dsimp only [Pt.U, Pt.locs, Pt.cells, Pt.slots] at X5 l5 y5 z5 st5 hQ5
  subst l5 y5 z5
  obtain ⟨rfl, N5q, e5⟩ := hQ5
  have N5 := Fr.app N0 N5q
  refine gb (mkF m 35 #[vr ea, vi 2, vr we, vr b2] [(.int 2), (.int 0), (.ref b2), (.int 0), (.ref ea)]) st5 ?_
  obtain ⟨cl9, Ar9, qa9, Sa9, Na9, Ha9, Ga9⟩ := id V2
  have f10 := (Exa.ext E2 pf2)
  have f11 := (Exa.ext E2 pf1)
  obtain ⟨T8, h8, L8, X8, e8, N8, Kc8, V8', st8⟩ := cpA X5 hx hZ hown (hW hw 222 rfl) (hW hw 225 rfl) (hW hw 223 rfl) (hW hw 224 rfl) e5 f3 V2 (us := [(.ref x0), (.ref x1)]) (Or.inr ⟨rfl, rfl, ⟨Sto.ofV Ar9 qa9 Ov2.1 (Ins.of_exa f11 (hW hw 189 rfl)), ⟨Sto.ofV Ar9 qa9 Ov2.1 (Ins.of_exa f10 (hW hw 189 rfl)), trivial⟩⟩⟩) (by decide) (by decide) (by decide) (by decide) (by decide) rfl (by decide) N5 gb2 (g := (mkF m 35 #[vr ea, vi 2, vr we, vr b2] [(.int 2), (.int 0), (.ref b2), (.int 0), (.ref ea)])) rfl (by rw [hml]; rfl) rfl (hb hby d32_35) (by decide) (W := 0) (Nat.le_of_eq rfl) (by decide)
  have V8 : Arv Z h8 b2 k2 oT (2 : Int32) [(.ref x0), (.ref x1)] .null := V8'
  refine gb (mkF m 38 #[vr ea, vi 2, vr we, vr b2] []) st8 ?_
  refine gb (mkF m 39 #[vr ea, vi 2, vr we, vr b2] [(.ref b2)]) (fun _ k => XS.aloadN X8.here hx rfl (hb hby d32_38) rfl rfl k) ?_
  have K12 := (K6.trans Kc8 (allS (Or.inr sb2) all0))
  exact Gl.outA X8 hx hk Bd.returns rfl rfl (hb hby d32_39) (Eq.mpr (congrArg (fun hh => Q322 Z ea we kk x0 x1 wa wb wc wd we ka kc G1 h0 n0 _ hh _) e8) (show Q322 Z ea we kk x0 x1 wa wb wc wd we ka kc G1 h0 n0 _ h8 _ from ⟨b2, k2, rfl, N8, K12, V8, ⟨gb2, Ov2.1⟩⟩)) (by decide) (by decide)
theorem ef312 (m : MethodId) (x0 : Addr) (x1 : Int32) : entryFrame m #[(.ref x0), (.int x1)] 2 = mkF m 0 #[.val (.ref x0), .val (.int x1)] [] := by first | (simp [entryFrame, mkF, argsToLocals, Value.category]; done) | rfl
def Q312 (Z : State) (ea : Addr) (kk : ClassId) (x0 x1 : Addr) (wa wb wc wd we : Addr) (ka kc : ClassId) (G1 : Int32) (h0 : Heap) (n0 : Nat) (v : Option Value) (h : Heap) (L : List Loc) : Prop := ∃ (r : Addr), ∃ (kr : ClassId), v = some (.ref r) ∧ Fr n0 L ∧ Keep h0 h [] ∧ Arv Z h r kr oT (2 : Int32) [(.ref x0), (.ref x1)] .null ∧ n0 ≤ r ∧ Ovr Z kr "java/lang/Object"
theorem rm312 (l : Launch) (Z : State) (a0' : Array Value) (hw : ∀ d ∈ tables_1, d.before a0' Z = true) (ws : List Jvm.Cond) (ea : Addr) (kk : ClassId) (x0 x1 : Addr) (wa wb wc wd we : Addr) (ka kc : ClassId) (G1 : Int32) (h0 : Heap) (n0 : Nat) (O : Old Z n0 h0) (W : Wd Z wa wb wc wd we ka kc G1) (pf0 : Exa Z h0 ea sO) (pf1 : Arv Z h0 ea kk oT (10 : Int32) [(.ref x0), (.ref x1), .null, .null, .null, .null, .null, .null, .null, .null] .null) (pf2 : Exa Z h0 x0 sI) (pf3 : Exa Z h0 x1 sI) :
    MetFree l mq20 (head1 (Jvm.Cond.code mq20 jdk_65_method_119_code 2 (some (.array oT)) :: ws) ({ frames := 2, cells := 1, slots := 2, locals := 33 } : Room)) (fun a U => a = #[(.ref ea), (.int 2)] ∧ Z.Warmed39 U.vm ∧ U.heap = h0) (fun _ _ _ _ _ => True) (fun _ U o U' => ∃ v L, o = .returned v ∧ Q312 Z ea kk x0 x1 wa wb wc wd we ka kc G1 h0 n0 v U'.heap L ∧ FrameEnd U o U' L ({ frames := 2, cells := 1, slots := 2, locals := 33 } : Room).cells ({ frames := 2, cells := 1, slots := 2, locals := 33 } : Room).slots) := by
  refine MetFree.of_bodySF (plainFor_of_name pn7) hisR ?_
  intro p e s m args below meth c s₁ Bd hml0 hP hK
  obtain ⟨rfl, hZ, hh⟩ := hP
  have hx := Bd.exec
  have hby := Bd.bytes
  have hml : c.maxLocals = 2 := hml0
  have hown : s.vm.findClass "java/util/Arrays" = some m.cls := findClass_of_methodNamed Bd.named
  have hnm := (name_of_methodNamed Bd.named Bd.method).1
  have hk := Bd.notSynchronized
  have X0 : Stand p l e ({ frames := 2, cells := 1, slots := 2, locals := 33 } : Room) s m #[(.ref ea), (.int 2)] below meth c s₁ [] 0 0 := Stand.of_body Bd
  have hh2 := hh
  have e0 : s₁.heap = h0 := by rw [← hh, Bd.state]; rfl
  have N0 := Fr.nil n0
  show Gl p e below (Pos 1 2 (Q312 Z ea kk x0 x1 wa wb wc wd we ka kc G1 h0 n0) s) s₁ _
  refine Gl.cast (ef312 m ea (2 : Int32)) ?_
  refine gb (mkF m 1 #[vr ea, vi 2] [(.ref ea)]) (fun _ k => XS.aloadN X0.here hx rfl (hb hby d31_0) rfl rfl k) ?_
  refine gb (mkF m 2 #[vr ea, vi 2] [(.int 2), (.ref ea)]) (fun _ k => XS.iloadN X0.here hx rfl (hb hby d31_1) rfl k) ?_
  refine gb (mkF m 3 #[vr ea, vi 2] [(.ref ea), (.int 2), (.ref ea)]) (fun _ k => XS.aloadN X0.here hx rfl (hb hby d31_2) rfl rfl k) ?_
  obtain ⟨T1, X1, e1, st1⟩ := gcls X0 hx hZ hown (hW hw 208 rfl) (hW hw 209 rfl) (hW hw 66 rfl) (hW hw 211 rfl) (hW hw 210 rfl) (hW hw 212 rfl) e0 pf0 W.2.2.2.2.2.2.2.2.1 (g := (mkF m 3 #[vr ea, vi 2] [(.ref ea), (.int 2), (.ref ea)])) rfl (by rw [hml]; rfl) rfl (hb hby d31_3) (by decide) (W := 2) (Nat.le_of_eq rfl) (by decide)
  refine gb (mkF m 6 #[vr ea, vi 2] [(.ref we), (.int 2), (.ref ea)]) st1 ?_
  obtain ⟨_, _, ⟨T2, L2, k2, n2⟩, -, X2, ⟨Lc2, hQ2, l2, y2, z2⟩, st2⟩ := callS X1 hx (y := mq19) hown (mvT hZ (hW hw 214 rfl)) (mvT hZ (hW hw 215 rfl)) (mvT hZ (hW hw 206 rfl)) (mvT hZ (hW hw 216 rfl)) (by decide) (backOf (W := 0) (rm322 l Z a0' hw [] ea we kk x0 x1 wa wb wc wd we ka kc G1 h0 n0 O W pf1 pf2 pf3) hZ (hW hw 216 rfl) (hW hw 206 rfl) (by decide) (by decide)) (g := (mkF m 6 #[vr ea, vi 2] [(.ref we), (.int 2), (.ref ea)])) rfl (by rw [hml]; rfl) (argsL := [(.ref ea), (.int 2), (.ref we)]) (rest := []) (lenOf pd214 rfl) rfl (Nat.le_of_eq rfl) (hb hby d31_6) (fun _ _ => ⟨rfl, e1, (by decide : 0 + 1 ≤ _), (by decide : 0 + 2 ≤ _)⟩)
  dsimp only [Pt.U, Pt.locs, Pt.cells, Pt.slots] at X2 l2 y2 z2 st2 hQ2
  subst l2 y2 z2
  obtain ⟨r_2, kr_2, rfl, N2q, Kc2, fc2_0, fc2_1⟩ := hQ2
  have N2 := Fr.app N0 N2q
  refine gb (mkF m 9 #[vr ea, vi 2] [(.ref r_2)]) st2 ?_
  have K3 := ((Keep.refl h0 []).trans Kc2 all0)
  exact Gl.outA X2 hx hk Bd.returns rfl rfl (hb hby d31_9) ⟨r_2, kr_2, rfl, N2, K3, fc2_0, ⟨fc2_1.1, fc2_1.2⟩⟩ (by decide) (by decide)
theorem ef302 (m : MethodId) (x0 : Addr) : entryFrame m #[(.ref x0)] 1 = mkF m 0 #[.val (.ref x0)] [] := by first | (simp [entryFrame, mkF, argsToLocals, Value.category]; done) | rfl
def Q302 (Z : State) (a0 : Addr) (ea : Addr) (kk : ClassId) (x0 x1 : Addr) (wa wb wc wd we : Addr) (ka kc : ClassId) (G1 : Int32) (h0 : Heap) (n0 : Nat) (v : Option Value) (h : Heap) (L : List Loc) : Prop := ∃ (r : Addr), ∃ (kr : ClassId), v = some (.ref r) ∧ Fr n0 L ∧ Keep h0 h [] ∧ Arv Z h r kr oT (2 : Int32) [(.ref x0), (.ref x1)] .null ∧ n0 ≤ r ∧ Ovr Z kr "java/lang/Object"
theorem rm302 (l : Launch) (Z : State) (a0' : Array Value) (hw : ∀ d ∈ tables_1, d.before a0' Z = true) (ws : List Jvm.Cond) (a0 : Addr) (ea : Addr) (kk : ClassId) (x0 x1 : Addr) (wa wb wc wd we : Addr) (ka kc : ClassId) (G1 : Int32) (h0 : Heap) (n0 : Nat) (O : Old Z n0 h0) (W : Wd Z wa wb wc wd we ka kc G1) (pf0 : Exa Z h0 a0 sA) (pf1 : Fld Z h0 a0 sA "elementData" sO (.ref ea)) (pf2 : Fld Z h0 a0 sA "size" "I" (.int 2)) (pf3 : Exa Z h0 ea sO) (pf4 : Arv Z h0 ea kk oT (10 : Int32) [(.ref x0), (.ref x1), .null, .null, .null, .null, .null, .null, .null, .null] .null) (pf5 : Exa Z h0 x0 sI) (pf6 : Exa Z h0 x1 sI) :
    MetFree l mq21 (head1 (Jvm.Cond.code mq21 jdk_38_method_16_code 1 (some (.array oT)) :: ws) ({ frames := 3, cells := 1, slots := 2, locals := 46 } : Room)) (fun a U => a = #[(.ref a0)] ∧ Z.Warmed39 U.vm ∧ U.heap = h0) (fun _ _ _ _ _ => True) (fun _ U o U' => ∃ v L, o = .returned v ∧ Q302 Z a0 ea kk x0 x1 wa wb wc wd we ka kc G1 h0 n0 v U'.heap L ∧ FrameEnd U o U' L ({ frames := 3, cells := 1, slots := 2, locals := 46 } : Room).cells ({ frames := 3, cells := 1, slots := 2, locals := 46 } : Room).slots) := by
  refine MetFree.of_bodySF (plainFor_of_name pn0) hisR ?_
  intro p e s m args below meth c s₁ Bd hml0 hP hK
  obtain ⟨rfl, hZ, hh⟩ := hP
  have hx := Bd.exec
  have hby := Bd.bytes
  have hml : c.maxLocals = 1 := hml0
  have hown : s.vm.findClass sA = some m.cls := findClass_of_methodNamed Bd.named
  have hnm := (name_of_methodNamed Bd.named Bd.method).1
  have hk := Bd.notSynchronized
  have X0 : Stand p l e ({ frames := 3, cells := 1, slots := 2, locals := 46 } : Room) s m #[(.ref a0)] below meth c s₁ [] 0 0 := Stand.of_body Bd
  have hh2 := hh
  have e0 : s₁.heap = h0 := by rw [← hh, Bd.state]; rfl
  have N0 := Fr.nil n0
  show Gl p e below (Pos 1 2 (Q302 Z a0 ea kk x0 x1 wa wb wc wd we ka kc G1 h0 n0) s) s₁ _
  refine Gl.cast (ef302 m a0) ?_
  refine gb (mkF m 1 #[vr a0] [(.ref a0)]) (fun _ k => XS.aloadN X0.here hx rfl (hb hby d30_0) rfl rfl k) ?_
  obtain ⟨T1, X1, e1, st1⟩ := getF X0 hx hZ hown (host := "") (Or.inl (hW hw 31 rfl)) Via.refl e0 pf1 (g := (mkF m 1 #[vr a0] [(.ref a0)])) rfl rfl (hb hby d30_1)
  refine gb (mkF m 4 #[vr a0] [(.ref ea)]) st1 ?_
  refine gb (mkF m 5 #[vr a0] [(.ref a0), (.ref ea)]) (fun _ k => XS.aloadN X1.here hx rfl (hb hby d30_4) rfl rfl k) ?_
  obtain ⟨T2, X2, e2, st2⟩ := getF X1 hx hZ hown (host := "") (Or.inl (hW hw 77 rfl)) Via.refl e1 pf2 (g := (mkF m 5 #[vr a0] [(.ref a0), (.ref ea)])) rfl rfl (hb hby d30_5)
  refine gb (mkF m 8 #[vr a0] [(.int 2), (.ref ea)]) st2 ?_
  obtain ⟨_, _, ⟨T3, L3, k3, n3⟩, -, X3, ⟨Lc3, hQ3, l3, y3, z3⟩, st3⟩ := callS X2 hx (y := mq20) hown (mvT hZ (hW hw 204 rfl)) (mvT hZ (hW hw 205 rfl)) (mvT hZ (hW hw 206 rfl)) (mvT hZ (hW hw 207 rfl)) (by decide) (backOf (W := 0) (rm312 l Z a0' hw [] ea kk x0 x1 wa wb wc wd we ka kc G1 h0 n0 O W pf3 pf4 pf5 pf6) hZ (hW hw 207 rfl) (hW hw 206 rfl) (by decide) (by decide)) (g := (mkF m 8 #[vr a0] [(.int 2), (.ref ea)])) rfl (by rw [hml]; rfl) (argsL := [(.ref ea), (.int 2)]) (rest := []) (lenOf pd221 rfl) rfl (Nat.le_of_eq rfl) (hb hby d30_8) (fun _ _ => ⟨rfl, e2, (by decide : 0 + 1 ≤ _), (by decide : 0 + 2 ≤ _)⟩)
  dsimp only [Pt.U, Pt.locs, Pt.cells, Pt.slots] at X3 l3 y3 z3 st3 hQ3
  subst l3 y3 z3
  obtain ⟨r_3, kr_3, rfl, N3q, Kc3, fc3_0, fc3_1⟩ := hQ3
  have N3 := Fr.app N0 N3q
  refine gb (mkF m 11 #[vr a0] [(.ref r_3)]) st3 ?_
  have K4 := ((Keep.refl h0 []).trans Kc3 all0)
  exact Gl.outA X3 hx hk Bd.returns rfl rfl (hb hby d30_11) ⟨r_3, kr_3, rfl, N3, K4, fc3_0, ⟨fc3_1.1, fc3_1.2⟩⟩ (by decide) (by decide)
theorem ef323 (m : MethodId) (x0 : Addr) (x1 : Int32) (x2 : Addr) : entryFrame m #[(.ref x0), (.int x1), (.ref x2)] 4 = mkF m 0 #[.val (.ref x0), .val (.int x1), .val (.ref x2), .unset] [] := by first | (simp [entryFrame, mkF, argsToLocals, Value.category]; done) | rfl
def Q323 (Z : State) (ea : Addr) (we : Addr) (kk : ClassId) (x0 x1 x2 : Addr) (wa wb wc wd we : Addr) (ka kc : ClassId) (G1 : Int32) (h0 : Heap) (n0 : Nat) (v : Option Value) (h : Heap) (L : List Loc) : Prop := ∃ (r : Addr), ∃ (kr : ClassId), v = some (.ref r) ∧ Fr n0 L ∧ Keep h0 h [] ∧ Arv Z h r kr oT (3 : Int32) [(.ref x0), (.ref x1), (.ref x2)] .null ∧ n0 ≤ r ∧ Ovr Z kr "java/lang/Object"
theorem rm323 (l : Launch) (Z : State) (a0' : Array Value) (hw : ∀ d ∈ tables_1, d.before a0' Z = true) (ws : List Jvm.Cond) (ea : Addr) (we : Addr) (kk : ClassId) (x0 x1 x2 : Addr) (wa wb wc wd we : Addr) (ka kc : ClassId) (G1 : Int32) (h0 : Heap) (n0 : Nat) (O : Old Z n0 h0) (W : Wd Z wa wb wc wd we ka kc G1) (pf0 : Arv Z h0 ea kk oT (10 : Int32) [(.ref x0), (.ref x1), (.ref x2), .null, .null, .null, .null, .null, .null, .null] .null) (pf1 : Exa Z h0 x0 sI) (pf2 : Exa Z h0 x1 sI) (pf3 : Exa Z h0 x2 sI) :
    MetFree l mq19 (head1 (Jvm.Cond.code mq19 jdk_65_method_120_code 4 (some (.array oT)) :: ws) ({ frames := 1, cells := 1, slots := 3, locals := 18 } : Room)) (fun a U => a = #[(.ref ea), (.int 3), (.ref we)] ∧ Z.Warmed39 U.vm ∧ U.heap = h0) (fun _ _ _ _ _ => True) (fun _ U o U' => ∃ v L, o = .returned v ∧ Q323 Z ea we kk x0 x1 x2 wa wb wc wd we ka kc G1 h0 n0 v U'.heap L ∧ FrameEnd U o U' L ({ frames := 1, cells := 1, slots := 3, locals := 18 } : Room).cells ({ frames := 1, cells := 1, slots := 3, locals := 18 } : Room).slots) := by
  refine MetFree.of_bodySF (plainFor_of_name pn7) hisR ?_
  intro p e s m args below meth c s₁ Bd hml0 hP hK
  obtain ⟨rfl, hZ, hh⟩ := hP
  have hx := Bd.exec
  have hby := Bd.bytes
  have hml : c.maxLocals = 4 := hml0
  have hown : s.vm.findClass "java/util/Arrays" = some m.cls := findClass_of_methodNamed Bd.named
  have hnm := (name_of_methodNamed Bd.named Bd.method).1
  have hk := Bd.notSynchronized
  have X0 : Stand p l e ({ frames := 1, cells := 1, slots := 3, locals := 18 } : Room) s m #[(.ref ea), (.int 3), (.ref we)] below meth c s₁ [] 0 0 := Stand.of_body Bd
  have hh2 := hh
  have e0 : s₁.heap = h0 := by rw [← hh, Bd.state]; rfl
  have N0 := Fr.nil n0
  show Gl p e below (Pos 1 3 (Q323 Z ea we kk x0 x1 x2 wa wb wc wd we ka kc G1 h0 n0) s) s₁ _
  refine Gl.cast (ef323 m ea (3 : Int32) we) ?_
  refine gb (mkF m 1 #[vr ea, vi 3, vr we, .unset] [(.ref we)]) (fun _ k => XS.aloadN X0.here hx rfl (hb hby d32_0) rfl rfl k) ?_
  obtain ⟨T1, X1, e1, st1⟩ := ldcM X0 hx hZ hown (hW hw 217 rfl) W.2.2.2.2.2.2.2.2.1 e0 (g := (mkF m 1 #[vr ea, vi 3, vr we, .unset] [(.ref we)])) rfl (hb hby d32_1)
  refine gb (mkF m 3 #[vr ea, vi 3, vr we, .unset] [(.ref we), (.ref we)]) st1 ?_
  refine gb (mkF m 6 #[vr ea, vi 3, vr we, .unset] []) (fun _ k => Jvm.RoadKit.acmp (g := (mkF m 3 #[vr ea, vi 3, vr we, .unset] [(.ref we), (.ref we)])) X1 hx rfl rfl rfl (pc0 := 3) (pc' := 6) (same := true) rfl (hb hby d32_3) rfl (decide_eq_true (congrArg Value.ref rfl)) (by decide) (by decide) k) ?_
  refine gb (mkF m 7 #[vr ea, vi 3, vr we, .unset] [(.int 3)]) (fun _ k => XS.iloadN X1.here hx rfl (hb hby d32_6) rfl k) ?_
  obtain ⟨T2, h2, k2, X2, e2, E2, A2, Ov2, st2⟩ := newRX X1 hx hZ hown (hW hw 218 rfl) (hW hw 188 rfl) rfl e1 (g := (mkF m 7 #[vr ea, vi 3, vr we, .unset] [(.int 3)])) rfl (hb hby d32_7) rfl (by decide) (cap := 3) (by decide) (by decide) (by decide) (by decide)
  obtain ⟨b2, g2⟩ : ∃ z, z = (h0).size := ⟨_, rfl⟩
  rw [← g2] at A2 st2
  have gb2 : n0 ≤ b2 := Nat.le_trans (Nat.le_trans (Nat.le_of_eq O.1.symm) O.2.1) (Nat.le_of_eq g2.symm)
  have sb2 : h0.size ≤ b2 := Nat.le_trans (Keep.refl h0 []).1 (Nat.le_of_eq g2.symm)
  have ne2_0 : ea ≠ b2 := Nat.ne_of_lt (Nat.lt_of_lt_of_le pf0.lt (Nat.le_of_eq g2.symm))
  have ne2_2 : x0 ≠ b2 := Nat.ne_of_lt (Nat.lt_of_lt_of_le pf1.lt (Nat.le_of_eq g2.symm))
  have ne2_4 : x1 ≠ b2 := Nat.ne_of_lt (Nat.lt_of_lt_of_le pf2.lt (Nat.le_of_eq g2.symm))
  have ne2_6 : x2 ≠ b2 := Nat.ne_of_lt (Nat.lt_of_lt_of_le pf3.lt (Nat.le_of_eq g2.symm))
  have ne2_8 : wa ≠ b2 := Nat.ne_of_lt (Nat.lt_of_lt_of_le (Arv.ext W.2.1 O.2).lt (Nat.le_of_eq g2.symm))
  have ne2_10 : wc ≠ b2 := Nat.ne_of_lt (Nat.lt_of_lt_of_le (Arv.ext W.2.2.2.2.2.1 O.2).lt (Nat.le_of_eq g2.symm))
  have ne2_12 : wb ≠ b2 := Nat.ne_of_lt (Nat.lt_of_lt_of_le (Exa.ext O.2 W.2.2.2.1).lt (Nat.le_of_eq g2.symm))
  have ne2_14 : wd ≠ b2 := Nat.ne_of_lt (Nat.lt_of_lt_of_le (Exa.ext O.2 W.2.2.2.2.2.2.2.1).lt (Nat.le_of_eq g2.symm))
  have V2 : Arv Z h2 b2 k2 oT (3 : Int32) [.null, .null, .null] .null := (Arv.new A2 (by decide)).pad (pad_rep [] .null 3)
  rw [← g2] at Ov2
  refine gb (mkF m 10 #[vr ea, vi 3, vr we, .unset] [(.ref b2)]) st2 ?_
  refine gb (mkF m 24 #[vr ea, vi 3, vr we, .unset] [(.ref b2)]) (fun _ k => XS.goto X2.here hx rfl (pc0 := 10) (pc' := 24) rfl (hb hby d32_10) (by decide) (by decide) k) ?_
  refine gb (mkF m 25 #[vr ea, vi 3, vr we, vr b2] []) (fun _ k => XS.astoreN X2.here hx rfl (hb hby d32_24) rfl rfl (l' := #[vr ea, vi 3, vr we, vr b2]) rfl k) ?_
  refine gb (mkF m 26 #[vr ea, vi 3, vr we, vr b2] [(.ref ea)]) (fun _ k => XS.aloadN X2.here hx rfl (hb hby d32_25) rfl rfl k) ?_
  refine gb (mkF m 27 #[vr ea, vi 3, vr we, vr b2] [(.int 0), (.ref ea)]) (fun _ k => XS.iconst X2.here hx rfl (hb hby d32_26) k) ?_
  refine gb (mkF m 28 #[vr ea, vi 3, vr we, vr b2] [(.ref b2), (.int 0), (.ref ea)]) (fun _ k => XS.aloadN X2.here hx rfl (hb hby d32_27) rfl rfl k) ?_
  refine gb (mkF m 29 #[vr ea, vi 3, vr we, vr b2] [(.int 0), (.ref b2), (.int 0), (.ref ea)]) (fun _ k => XS.iconst X2.here hx rfl (hb hby d32_28) k) ?_
  refine gb (mkF m 30 #[vr ea, vi 3, vr we, vr b2] [(.ref ea), (.int 0), (.ref b2), (.int 0), (.ref ea)]) (fun _ k => XS.aloadN X2.here hx rfl (hb hby d32_29) rfl rfl k) ?_
  have f3 := (Arv.ext pf0 E2)
  obtain ⟨cl4, Ar4, qa4, Sa4, Na4, Ha4, Ga4⟩ := id f3
  refine gb (mkF m 31 #[vr ea, vi 3, vr we, vr b2] [(.int 10), (.int 0), (.ref b2), (.int 0), (.ref ea)]) (fun t k => X2.arraylength hx (by rw [e2]; exact Ar4.1) (State.isArrayOf_alike hZ.alike Ar4.2.1) (g := (mkF m 30 #[vr ea, vi 3, vr we, vr b2] [(.ref ea), (.int 0), (.ref b2), (.int 0), (.ref ea)])) rfl rfl (hb hby d32_30) t (by rw [len_of Sa4 Na4]; exact k)) ?_
  refine gb (mkF m 32 #[vr ea, vi 3, vr we, vr b2] [(.int 3), (.int 10), (.int 0), (.ref b2), (.int 0), (.ref ea)]) (fun _ k => XS.iloadN X2.here hx rfl (hb hby d32_31) rfl k) ?_
  have K6 := ((Keep.refl h0 []).ext E2)
  have O7 := (O.ext E2)
  obtain ⟨_, _, ⟨T5, L5, k5, n5⟩, -, X5, ⟨Lc5, hQ5, l5, y5, z5⟩, st5⟩ := callS X2 hx (y := mq18) hown (mvT hZ (hW hw 219 rfl)) (mvT hZ (hW hw 220 rfl)) (mvT hZ (hW hw 185 rfl)) (mvT hZ (hW hw 221 rfl)) (by decide) (backOf (W := 4) (rm33 l Z a0' hw [] (3 : Int32) wa wb wc wd we ka kc G1 h2 n0 O7 W (by decide)) hZ (hW hw 221 rfl) (hW hw 185 rfl) (by decide) (by decide)) (g := (mkF m 32 #[vr ea, vi 3, vr we, vr b2] [(.int 3), (.int 10), (.int 0), (.ref b2), (.int 0), (.ref ea)])) rfl (by rw [hml]; rfl) (argsL := [(.int 10), (.int 3)]) (rest := [(.int 0), (.ref b2), (.int 0), (.ref ea)]) (lenOf pd24 rfl) rfl (Nat.le_of_eq rfl) (hb hby d32_32) (fun _ _ => ⟨rfl, e2, (by decide : 1 + 0 ≤ _), (by decide : 3 + 0 ≤ _)⟩)
  dsimp only [Pt.U, Pt.locs, Pt.cells, Pt.slots] at X5 l5 y5 z5 st5 hQ5
  subst l5 y5 z5
  obtain ⟨rfl, N5q, e5⟩ := hQ5
  have N5 := Fr.app N0 N5q
  refine gb (mkF m 35 #[vr ea, vi 3, vr we, vr b2] [(.int 3), (.int 0), (.ref b2), (.int 0), (.ref ea)]) st5 ?_
  obtain ⟨cl9, Ar9, qa9, Sa9, Na9, Ha9, Ga9⟩ := id V2
  have f10 := (Exa.ext E2 pf3)
  have f11 := (Exa.ext E2 pf2)
  have f12 := (Exa.ext E2 pf1)
  obtain ⟨T8, h8, L8, X8, e8, N8, Kc8, V8', st8⟩ := cpA X5 hx hZ hown (hW hw 222 rfl) (hW hw 225 rfl) (hW hw 223 rfl) (hW hw 224 rfl) e5 f3 V2 (us := [(.ref x0), (.ref x1), (.ref x2)]) (Or.inr ⟨rfl, rfl, ⟨Sto.ofV Ar9 qa9 Ov2.1 (Ins.of_exa f12 (hW hw 189 rfl)), ⟨Sto.ofV Ar9 qa9 Ov2.1 (Ins.of_exa f11 (hW hw 189 rfl)), ⟨Sto.ofV Ar9 qa9 Ov2.1 (Ins.of_exa f10 (hW hw 189 rfl)), trivial⟩⟩⟩⟩) (by decide) (by decide) (by decide) (by decide) (by decide) rfl (by decide) N5 gb2 (g := (mkF m 35 #[vr ea, vi 3, vr we, vr b2] [(.int 3), (.int 0), (.ref b2), (.int 0), (.ref ea)])) rfl (by rw [hml]; rfl) rfl (hb hby d32_35) (by decide) (W := 0) (Nat.le_of_eq rfl) (by decide)
  have V8 : Arv Z h8 b2 k2 oT (3 : Int32) [(.ref x0), (.ref x1), (.ref x2)] .null := V8'
  refine gb (mkF m 38 #[vr ea, vi 3, vr we, vr b2] []) st8 ?_
  refine gb (mkF m 39 #[vr ea, vi 3, vr we, vr b2] [(.ref b2)]) (fun _ k => XS.aloadN X8.here hx rfl (hb hby d32_38) rfl rfl k) ?_
  have K13 := (K6.trans Kc8 (allS (Or.inr sb2) all0))
  exact Gl.outA X8 hx hk Bd.returns rfl rfl (hb hby d32_39) (Eq.mpr (congrArg (fun hh => Q323 Z ea we kk x0 x1 x2 wa wb wc wd we ka kc G1 h0 n0 _ hh _) e8) (show Q323 Z ea we kk x0 x1 x2 wa wb wc wd we ka kc G1 h0 n0 _ h8 _ from ⟨b2, k2, rfl, N8, K13, V8, ⟨gb2, Ov2.1⟩⟩)) (by decide) (by decide)
theorem ef313 (m : MethodId) (x0 : Addr) (x1 : Int32) : entryFrame m #[(.ref x0), (.int x1)] 2 = mkF m 0 #[.val (.ref x0), .val (.int x1)] [] := by first | (simp [entryFrame, mkF, argsToLocals, Value.category]; done) | rfl
def Q313 (Z : State) (ea : Addr) (kk : ClassId) (x0 x1 x2 : Addr) (wa wb wc wd we : Addr) (ka kc : ClassId) (G1 : Int32) (h0 : Heap) (n0 : Nat) (v : Option Value) (h : Heap) (L : List Loc) : Prop := ∃ (r : Addr), ∃ (kr : ClassId), v = some (.ref r) ∧ Fr n0 L ∧ Keep h0 h [] ∧ Arv Z h r kr oT (3 : Int32) [(.ref x0), (.ref x1), (.ref x2)] .null ∧ n0 ≤ r ∧ Ovr Z kr "java/lang/Object"
theorem rm313 (l : Launch) (Z : State) (a0' : Array Value) (hw : ∀ d ∈ tables_1, d.before a0' Z = true) (ws : List Jvm.Cond) (ea : Addr) (kk : ClassId) (x0 x1 x2 : Addr) (wa wb wc wd we : Addr) (ka kc : ClassId) (G1 : Int32) (h0 : Heap) (n0 : Nat) (O : Old Z n0 h0) (W : Wd Z wa wb wc wd we ka kc G1) (pf0 : Exa Z h0 ea sO) (pf1 : Arv Z h0 ea kk oT (10 : Int32) [(.ref x0), (.ref x1), (.ref x2), .null, .null, .null, .null, .null, .null, .null] .null) (pf2 : Exa Z h0 x0 sI) (pf3 : Exa Z h0 x1 sI) (pf4 : Exa Z h0 x2 sI) :
    MetFree l mq20 (head1 (Jvm.Cond.code mq20 jdk_65_method_119_code 2 (some (.array oT)) :: ws) ({ frames := 2, cells := 1, slots := 3, locals := 33 } : Room)) (fun a U => a = #[(.ref ea), (.int 3)] ∧ Z.Warmed39 U.vm ∧ U.heap = h0) (fun _ _ _ _ _ => True) (fun _ U o U' => ∃ v L, o = .returned v ∧ Q313 Z ea kk x0 x1 x2 wa wb wc wd we ka kc G1 h0 n0 v U'.heap L ∧ FrameEnd U o U' L ({ frames := 2, cells := 1, slots := 3, locals := 33 } : Room).cells ({ frames := 2, cells := 1, slots := 3, locals := 33 } : Room).slots) := by
  refine MetFree.of_bodySF (plainFor_of_name pn7) hisR ?_
  intro p e s m args below meth c s₁ Bd hml0 hP hK
  obtain ⟨rfl, hZ, hh⟩ := hP
  have hx := Bd.exec
  have hby := Bd.bytes
  have hml : c.maxLocals = 2 := hml0
  have hown : s.vm.findClass "java/util/Arrays" = some m.cls := findClass_of_methodNamed Bd.named
  have hnm := (name_of_methodNamed Bd.named Bd.method).1
  have hk := Bd.notSynchronized
  have X0 : Stand p l e ({ frames := 2, cells := 1, slots := 3, locals := 33 } : Room) s m #[(.ref ea), (.int 3)] below meth c s₁ [] 0 0 := Stand.of_body Bd
  have hh2 := hh
  have e0 : s₁.heap = h0 := by rw [← hh, Bd.state]; rfl
  have N0 := Fr.nil n0
  show Gl p e below (Pos 1 3 (Q313 Z ea kk x0 x1 x2 wa wb wc wd we ka kc G1 h0 n0) s) s₁ _
  refine Gl.cast (ef313 m ea (3 : Int32)) ?_
  refine gb (mkF m 1 #[vr ea, vi 3] [(.ref ea)]) (fun _ k => XS.aloadN X0.here hx rfl (hb hby d31_0) rfl rfl k) ?_
  refine gb (mkF m 2 #[vr ea, vi 3] [(.int 3), (.ref ea)]) (fun _ k => XS.iloadN X0.here hx rfl (hb hby d31_1) rfl k) ?_
  refine gb (mkF m 3 #[vr ea, vi 3] [(.ref ea), (.int 3), (.ref ea)]) (fun _ k => XS.aloadN X0.here hx rfl (hb hby d31_2) rfl rfl k) ?_
  obtain ⟨T1, X1, e1, st1⟩ := gcls X0 hx hZ hown (hW hw 208 rfl) (hW hw 209 rfl) (hW hw 66 rfl) (hW hw 211 rfl) (hW hw 210 rfl) (hW hw 212 rfl) e0 pf0 W.2.2.2.2.2.2.2.2.1 (g := (mkF m 3 #[vr ea, vi 3] [(.ref ea), (.int 3), (.ref ea)])) rfl (by rw [hml]; rfl) rfl (hb hby d31_3) (by decide) (W := 2) (Nat.le_of_eq rfl) (by decide)
  refine gb (mkF m 6 #[vr ea, vi 3] [(.ref we), (.int 3), (.ref ea)]) st1 ?_
  obtain ⟨_, _, ⟨T2, L2, k2, n2⟩, -, X2, ⟨Lc2, hQ2, l2, y2, z2⟩, st2⟩ := callS X1 hx (y := mq19) hown (mvT hZ (hW hw 214 rfl)) (mvT hZ (hW hw 215 rfl)) (mvT hZ (hW hw 206 rfl)) (mvT hZ (hW hw 216 rfl)) (by decide) (backOf (W := 0) (rm323 l Z a0' hw [] ea we kk x0 x1 x2 wa wb wc wd we ka kc G1 h0 n0 O W pf1 pf2 pf3 pf4) hZ (hW hw 216 rfl) (hW hw 206 rfl) (by decide) (by decide)) (g := (mkF m 6 #[vr ea, vi 3] [(.ref we), (.int 3), (.ref ea)])) rfl (by rw [hml]; rfl) (argsL := [(.ref ea), (.int 3), (.ref we)]) (rest := []) (lenOf pd214 rfl) rfl (Nat.le_of_eq rfl) (hb hby d31_6) (fun _ _ => ⟨rfl, e1, (by decide : 0 + 1 ≤ _), (by decide : 0 + 3 ≤ _)⟩)
  dsimp only [Pt.U, Pt.locs, Pt.cells, Pt.slots] at X2 l2 y2 z2 st2 hQ2
  subst l2 y2 z2
  obtain ⟨r_2, kr_2, rfl, N2q, Kc2, fc2_0, fc2_1⟩ := hQ2
  have N2 := Fr.app N0 N2q
  refine gb (mkF m 9 #[vr ea, vi 3] [(.ref r_2)]) st2 ?_
  have K3 := ((Keep.refl h0 []).trans Kc2 all0)
  exact Gl.outA X2 hx hk Bd.returns rfl rfl (hb hby d31_9) ⟨r_2, kr_2, rfl, N2, K3, fc2_0, ⟨fc2_1.1, fc2_1.2⟩⟩ (by decide) (by decide)
theorem ef303 (m : MethodId) (x0 : Addr) : entryFrame m #[(.ref x0)] 1 = mkF m 0 #[.val (.ref x0)] [] := by first | (simp [entryFrame, mkF, argsToLocals, Value.category]; done) | rfl
def Q303 (Z : State) (a0 : Addr) (ea : Addr) (kk : ClassId) (x0 x1 x2 : Addr) (wa wb wc wd we : Addr) (ka kc : ClassId) (G1 : Int32) (h0 : Heap) (n0 : Nat) (v : Option Value) (h : Heap) (L : List Loc) : Prop := ∃ (r : Addr), ∃ (kr : ClassId), v = some (.ref r) ∧ Fr n0 L ∧ Keep h0 h [] ∧ Arv Z h r kr oT (3 : Int32) [(.ref x0), (.ref x1), (.ref x2)] .null ∧ n0 ≤ r ∧ Ovr Z kr "java/lang/Object"
theorem rm303 (l : Launch) (Z : State) (a0' : Array Value) (hw : ∀ d ∈ tables_1, d.before a0' Z = true) (ws : List Jvm.Cond) (a0 : Addr) (ea : Addr) (kk : ClassId) (x0 x1 x2 : Addr) (wa wb wc wd we : Addr) (ka kc : ClassId) (G1 : Int32) (h0 : Heap) (n0 : Nat) (O : Old Z n0 h0) (W : Wd Z wa wb wc wd we ka kc G1) (pf0 : Exa Z h0 a0 sA) (pf1 : Fld Z h0 a0 sA "elementData" sO (.ref ea)) (pf2 : Fld Z h0 a0 sA "size" "I" (.int 3)) (pf3 : Exa Z h0 ea sO) (pf4 : Arv Z h0 ea kk oT (10 : Int32) [(.ref x0), (.ref x1), (.ref x2), .null, .null, .null, .null, .null, .null, .null] .null) (pf5 : Exa Z h0 x0 sI) (pf6 : Exa Z h0 x1 sI) (pf7 : Exa Z h0 x2 sI) :
    MetFree l mq21 (head1 (Jvm.Cond.code mq21 jdk_38_method_16_code 1 (some (.array oT)) :: ws) ({ frames := 3, cells := 1, slots := 3, locals := 46 } : Room)) (fun a U => a = #[(.ref a0)] ∧ Z.Warmed39 U.vm ∧ U.heap = h0) (fun _ _ _ _ _ => True) (fun _ U o U' => ∃ v L, o = .returned v ∧ Q303 Z a0 ea kk x0 x1 x2 wa wb wc wd we ka kc G1 h0 n0 v U'.heap L ∧ FrameEnd U o U' L ({ frames := 3, cells := 1, slots := 3, locals := 46 } : Room).cells ({ frames := 3, cells := 1, slots := 3, locals := 46 } : Room).slots) := by
  refine MetFree.of_bodySF (plainFor_of_name pn0) hisR ?_
  intro p e s m args below meth c s₁ Bd hml0 hP hK
  obtain ⟨rfl, hZ, hh⟩ := hP
  have hx := Bd.exec
  have hby := Bd.bytes
  have hml : c.maxLocals = 1 := hml0
  have hown : s.vm.findClass sA = some m.cls := findClass_of_methodNamed Bd.named
  have hnm := (name_of_methodNamed Bd.named Bd.method).1
  have hk := Bd.notSynchronized
  have X0 : Stand p l e ({ frames := 3, cells := 1, slots := 3, locals := 46 } : Room) s m #[(.ref a0)] below meth c s₁ [] 0 0 := Stand.of_body Bd
  have hh2 := hh
  have e0 : s₁.heap = h0 := by rw [← hh, Bd.state]; rfl
  have N0 := Fr.nil n0
  show Gl p e below (Pos 1 3 (Q303 Z a0 ea kk x0 x1 x2 wa wb wc wd we ka kc G1 h0 n0) s) s₁ _
  refine Gl.cast (ef303 m a0) ?_
  refine gb (mkF m 1 #[vr a0] [(.ref a0)]) (fun _ k => XS.aloadN X0.here hx rfl (hb hby d30_0) rfl rfl k) ?_
  obtain ⟨T1, X1, e1, st1⟩ := getF X0 hx hZ hown (host := "") (Or.inl (hW hw 31 rfl)) Via.refl e0 pf1 (g := (mkF m 1 #[vr a0] [(.ref a0)])) rfl rfl (hb hby d30_1)
  refine gb (mkF m 4 #[vr a0] [(.ref ea)]) st1 ?_
  refine gb (mkF m 5 #[vr a0] [(.ref a0), (.ref ea)]) (fun _ k => XS.aloadN X1.here hx rfl (hb hby d30_4) rfl rfl k) ?_
  obtain ⟨T2, X2, e2, st2⟩ := getF X1 hx hZ hown (host := "") (Or.inl (hW hw 77 rfl)) Via.refl e1 pf2 (g := (mkF m 5 #[vr a0] [(.ref a0), (.ref ea)])) rfl rfl (hb hby d30_5)
  refine gb (mkF m 8 #[vr a0] [(.int 3), (.ref ea)]) st2 ?_
  obtain ⟨_, _, ⟨T3, L3, k3, n3⟩, -, X3, ⟨Lc3, hQ3, l3, y3, z3⟩, st3⟩ := callS X2 hx (y := mq20) hown (mvT hZ (hW hw 204 rfl)) (mvT hZ (hW hw 205 rfl)) (mvT hZ (hW hw 206 rfl)) (mvT hZ (hW hw 207 rfl)) (by decide) (backOf (W := 0) (rm313 l Z a0' hw [] ea kk x0 x1 x2 wa wb wc wd we ka kc G1 h0 n0 O W pf3 pf4 pf5 pf6 pf7) hZ (hW hw 207 rfl) (hW hw 206 rfl) (by decide) (by decide)) (g := (mkF m 8 #[vr a0] [(.int 3), (.ref ea)])) rfl (by rw [hml]; rfl) (argsL := [(.ref ea), (.int 3)]) (rest := []) (lenOf pd221 rfl) rfl (Nat.le_of_eq rfl) (hb hby d30_8) (fun _ _ => ⟨rfl, e2, (by decide : 0 + 1 ≤ _), (by decide : 0 + 3 ≤ _)⟩)
  dsimp only [Pt.U, Pt.locs, Pt.cells, Pt.slots] at X3 l3 y3 z3 st3 hQ3
  subst l3 y3 z3
  obtain ⟨r_3, kr_3, rfl, N3q, Kc3, fc3_0, fc3_1⟩ := hQ3
  have N3 := Fr.app N0 N3q
  refine gb (mkF m 11 #[vr a0] [(.ref r_3)]) st3 ?_
  have K4 := ((Keep.refl h0 []).trans Kc3 all0)
  exact Gl.outA X3 hx hk Bd.returns rfl rfl (hb hby d30_11) ⟨r_3, kr_3, rfl, N3, K4, fc3_0, ⟨fc3_1.1, fc3_1.2⟩⟩ (by decide) (by decide)
theorem ef324 (m : MethodId) (x0 : Addr) (x1 : Int32) (x2 : Addr) : entryFrame m #[(.ref x0), (.int x1), (.ref x2)] 4 = mkF m 0 #[.val (.ref x0), .val (.int x1), .val (.ref x2), .unset] [] := by first | (simp [entryFrame, mkF, argsToLocals, Value.category]; done) | rfl
def Q324 (Z : State) (ea : Addr) (we : Addr) (kk : ClassId) (x0 x1 x2 x3 : Addr) (wa wb wc wd we : Addr) (ka kc : ClassId) (G1 : Int32) (h0 : Heap) (n0 : Nat) (v : Option Value) (h : Heap) (L : List Loc) : Prop := ∃ (r : Addr), ∃ (kr : ClassId), v = some (.ref r) ∧ Fr n0 L ∧ Keep h0 h [] ∧ Arv Z h r kr oT (4 : Int32) [(.ref x0), (.ref x1), (.ref x2), (.ref x3)] .null ∧ n0 ≤ r ∧ Ovr Z kr "java/lang/Object"
theorem rm324 (l : Launch) (Z : State) (a0' : Array Value) (hw : ∀ d ∈ tables_1, d.before a0' Z = true) (ws : List Jvm.Cond) (ea : Addr) (we : Addr) (kk : ClassId) (x0 x1 x2 x3 : Addr) (wa wb wc wd we : Addr) (ka kc : ClassId) (G1 : Int32) (h0 : Heap) (n0 : Nat) (O : Old Z n0 h0) (W : Wd Z wa wb wc wd we ka kc G1) (pf0 : Arv Z h0 ea kk oT (10 : Int32) [(.ref x0), (.ref x1), (.ref x2), (.ref x3), .null, .null, .null, .null, .null, .null] .null) (pf1 : Exa Z h0 x0 sI) (pf2 : Exa Z h0 x1 sI) (pf3 : Exa Z h0 x2 sI) (pf4 : Exa Z h0 x3 sI) :
    MetFree l mq19 (head1 (Jvm.Cond.code mq19 jdk_65_method_120_code 4 (some (.array oT)) :: ws) ({ frames := 1, cells := 1, slots := 4, locals := 18 } : Room)) (fun a U => a = #[(.ref ea), (.int 4), (.ref we)] ∧ Z.Warmed39 U.vm ∧ U.heap = h0) (fun _ _ _ _ _ => True) (fun _ U o U' => ∃ v L, o = .returned v ∧ Q324 Z ea we kk x0 x1 x2 x3 wa wb wc wd we ka kc G1 h0 n0 v U'.heap L ∧ FrameEnd U o U' L ({ frames := 1, cells := 1, slots := 4, locals := 18 } : Room).cells ({ frames := 1, cells := 1, slots := 4, locals := 18 } : Room).slots) := by
  refine MetFree.of_bodySF (plainFor_of_name pn7) hisR ?_
  intro p e s m args below meth c s₁ Bd hml0 hP hK
  obtain ⟨rfl, hZ, hh⟩ := hP
  have hx := Bd.exec
  have hby := Bd.bytes
  have hml : c.maxLocals = 4 := hml0
  have hown : s.vm.findClass "java/util/Arrays" = some m.cls := findClass_of_methodNamed Bd.named
  have hnm := (name_of_methodNamed Bd.named Bd.method).1
  have hk := Bd.notSynchronized
  have X0 : Stand p l e ({ frames := 1, cells := 1, slots := 4, locals := 18 } : Room) s m #[(.ref ea), (.int 4), (.ref we)] below meth c s₁ [] 0 0 := Stand.of_body Bd
  have hh2 := hh
  have e0 : s₁.heap = h0 := by rw [← hh, Bd.state]; rfl
  have N0 := Fr.nil n0
  show Gl p e below (Pos 1 4 (Q324 Z ea we kk x0 x1 x2 x3 wa wb wc wd we ka kc G1 h0 n0) s) s₁ _
  refine Gl.cast (ef324 m ea (4 : Int32) we) ?_
  refine gb (mkF m 1 #[vr ea, vi 4, vr we, .unset] [(.ref we)]) (fun _ k => XS.aloadN X0.here hx rfl (hb hby d32_0) rfl rfl k) ?_
  obtain ⟨T1, X1, e1, st1⟩ := ldcM X0 hx hZ hown (hW hw 217 rfl) W.2.2.2.2.2.2.2.2.1 e0 (g := (mkF m 1 #[vr ea, vi 4, vr we, .unset] [(.ref we)])) rfl (hb hby d32_1)
  refine gb (mkF m 3 #[vr ea, vi 4, vr we, .unset] [(.ref we), (.ref we)]) st1 ?_
  refine gb (mkF m 6 #[vr ea, vi 4, vr we, .unset] []) (fun _ k => Jvm.RoadKit.acmp (g := (mkF m 3 #[vr ea, vi 4, vr we, .unset] [(.ref we), (.ref we)])) X1 hx rfl rfl rfl (pc0 := 3) (pc' := 6) (same := true) rfl (hb hby d32_3) rfl (decide_eq_true (congrArg Value.ref rfl)) (by decide) (by decide) k) ?_
  refine gb (mkF m 7 #[vr ea, vi 4, vr we, .unset] [(.int 4)]) (fun _ k => XS.iloadN X1.here hx rfl (hb hby d32_6) rfl k) ?_
  obtain ⟨T2, h2, k2, X2, e2, E2, A2, Ov2, st2⟩ := newRX X1 hx hZ hown (hW hw 218 rfl) (hW hw 188 rfl) rfl e1 (g := (mkF m 7 #[vr ea, vi 4, vr we, .unset] [(.int 4)])) rfl (hb hby d32_7) rfl (by decide) (cap := 4) (by decide) (by decide) (by decide) (by decide)
  obtain ⟨b2, g2⟩ : ∃ z, z = (h0).size := ⟨_, rfl⟩
  rw [← g2] at A2 st2
  have gb2 : n0 ≤ b2 := Nat.le_trans (Nat.le_trans (Nat.le_of_eq O.1.symm) O.2.1) (Nat.le_of_eq g2.symm)
  have sb2 : h0.size ≤ b2 := Nat.le_trans (Keep.refl h0 []).1 (Nat.le_of_eq g2.symm)
  have ne2_0 : ea ≠ b2 := Nat.ne_of_lt (Nat.lt_of_lt_of_le pf0.lt (Nat.le_of_eq g2.symm))
  have ne2_2 : x0 ≠ b2 := Nat.ne_of_lt (Nat.lt_of_lt_of_le pf1.lt (Nat.le_of_eq g2.symm))
  have ne2_4 : x1 ≠ b2 := Nat.ne_of_lt (Nat.lt_of_lt_of_le pf2.lt (Nat.le_of_eq g2.symm))
  have ne2_6 : x2 ≠ b2 := Nat.ne_of_lt (Nat.lt_of_lt_of_le pf3.lt (Nat.le_of_eq g2.symm))
  have ne2_8 : x3 ≠ b2 := Nat.ne_of_lt (Nat.lt_of_lt_of_le pf4.lt (Nat.le_of_eq g2.symm))
  have ne2_10 : wa ≠ b2 := Nat.ne_of_lt (Nat.lt_of_lt_of_le (Arv.ext W.2.1 O.2).lt (Nat.le_of_eq g2.symm))
  have ne2_12 : wc ≠ b2 := Nat.ne_of_lt (Nat.lt_of_lt_of_le (Arv.ext W.2.2.2.2.2.1 O.2).lt (Nat.le_of_eq g2.symm))
  have ne2_14 : wb ≠ b2 := Nat.ne_of_lt (Nat.lt_of_lt_of_le (Exa.ext O.2 W.2.2.2.1).lt (Nat.le_of_eq g2.symm))
  have ne2_16 : wd ≠ b2 := Nat.ne_of_lt (Nat.lt_of_lt_of_le (Exa.ext O.2 W.2.2.2.2.2.2.2.1).lt (Nat.le_of_eq g2.symm))
  have V2 : Arv Z h2 b2 k2 oT (4 : Int32) [.null, .null, .null, .null] .null := (Arv.new A2 (by decide)).pad (pad_rep [] .null 4)
  rw [← g2] at Ov2
  refine gb (mkF m 10 #[vr ea, vi 4, vr we, .unset] [(.ref b2)]) st2 ?_
  refine gb (mkF m 24 #[vr ea, vi 4, vr we, .unset] [(.ref b2)]) (fun _ k => XS.goto X2.here hx rfl (pc0 := 10) (pc' := 24) rfl (hb hby d32_10) (by decide) (by decide) k) ?_
  refine gb (mkF m 25 #[vr ea, vi 4, vr we, vr b2] []) (fun _ k => XS.astoreN X2.here hx rfl (hb hby d32_24) rfl rfl (l' := #[vr ea, vi 4, vr we, vr b2]) rfl k) ?_
  refine gb (mkF m 26 #[vr ea, vi 4, vr we, vr b2] [(.ref ea)]) (fun _ k => XS.aloadN X2.here hx rfl (hb hby d32_25) rfl rfl k) ?_
  refine gb (mkF m 27 #[vr ea, vi 4, vr we, vr b2] [(.int 0), (.ref ea)]) (fun _ k => XS.iconst X2.here hx rfl (hb hby d32_26) k) ?_
  refine gb (mkF m 28 #[vr ea, vi 4, vr we, vr b2] [(.ref b2), (.int 0), (.ref ea)]) (fun _ k => XS.aloadN X2.here hx rfl (hb hby d32_27) rfl rfl k) ?_
  refine gb (mkF m 29 #[vr ea, vi 4, vr we, vr b2] [(.int 0), (.ref b2), (.int 0), (.ref ea)]) (fun _ k => XS.iconst X2.here hx rfl (hb hby d32_28) k) ?_
  refine gb (mkF m 30 #[vr ea, vi 4, vr we, vr b2] [(.ref ea), (.int 0), (.ref b2), (.int 0), (.ref ea)]) (fun _ k => XS.aloadN X2.here hx rfl (hb hby d32_29) rfl rfl k) ?_
  have f3 := (Arv.ext pf0 E2)
  obtain ⟨cl4, Ar4, qa4, Sa4, Na4, Ha4, Ga4⟩ := id f3
  refine gb (mkF m 31 #[vr ea, vi 4, vr we, vr b2] [(.int 10), (.int 0), (.ref b2), (.int 0), (.ref ea)]) (fun t k => X2.arraylength hx (by rw [e2]; exact Ar4.1) (State.isArrayOf_alike hZ.alike Ar4.2.1) (g := (mkF m 30 #[vr ea, vi 4, vr we, vr b2] [(.ref ea), (.int 0), (.ref b2), (.int 0), (.ref ea)])) rfl rfl (hb hby d32_30) t (by rw [len_of Sa4 Na4]; exact k)) ?_
  refine gb (mkF m 32 #[vr ea, vi 4, vr we, vr b2] [(.int 4), (.int 10), (.int 0), (.ref b2), (.int 0), (.ref ea)]) (fun _ k => XS.iloadN X2.here hx rfl (hb hby d32_31) rfl k) ?_
  have K6 := ((Keep.refl h0 []).ext E2)
  have O7 := (O.ext E2)
  obtain ⟨_, _, ⟨T5, L5, k5, n5⟩, -, X5, ⟨Lc5, hQ5, l5, y5, z5⟩, st5⟩ := callS X2 hx (y := mq18) hown (mvT hZ (hW hw 219 rfl)) (mvT hZ (hW hw 220 rfl)) (mvT hZ (hW hw 185 rfl)) (mvT hZ (hW hw 221 rfl)) (by decide) (backOf (W := 4) (rm33 l Z a0' hw [] (4 : Int32) wa wb wc wd we ka kc G1 h2 n0 O7 W (by decide)) hZ (hW hw 221 rfl) (hW hw 185 rfl) (by decide) (by decide)) (g := (mkF m 32 #[vr ea, vi 4, vr we, vr b2] [(.int 4), (.int 10), (.int 0), (.ref b2), (.int 0), (.ref ea)])) rfl (by rw [hml]; rfl) (argsL := [(.int 10), (.int 4)]) (rest := [(.int 0), (.ref b2), (.int 0), (.ref ea)]) (lenOf pd24 rfl) rfl (Nat.le_of_eq rfl) (hb hby d32_32) (fun _ _ => ⟨rfl, e2, (by decide : 1 + 0 ≤ _), (by decide : 4 + 0 ≤ _)⟩)
  dsimp only [Pt.U, Pt.locs, Pt.cells, Pt.slots] at X5 l5 y5 z5 st5 hQ5
  subst l5 y5 z5
  obtain ⟨rfl, N5q, e5⟩ := hQ5
  have N5 := Fr.app N0 N5q
  refine gb (mkF m 35 #[vr ea, vi 4, vr we, vr b2] [(.int 4), (.int 0), (.ref b2), (.int 0), (.ref ea)]) st5 ?_
  obtain ⟨cl9, Ar9, qa9, Sa9, Na9, Ha9, Ga9⟩ := id V2
  have f10 := (Exa.ext E2 pf4)
  have f11 := (Exa.ext E2 pf3)
  have f12 := (Exa.ext E2 pf2)
  have f13 := (Exa.ext E2 pf1)
  obtain ⟨T8, h8, L8, X8, e8, N8, Kc8, V8', st8⟩ := cpA X5 hx hZ hown (hW hw 222 rfl) (hW hw 225 rfl) (hW hw 223 rfl) (hW hw 224 rfl) e5 f3 V2 (us := [(.ref x0), (.ref x1), (.ref x2), (.ref x3)]) (Or.inr ⟨rfl, rfl, ⟨Sto.ofV Ar9 qa9 Ov2.1 (Ins.of_exa f13 (hW hw 189 rfl)), ⟨Sto.ofV Ar9 qa9 Ov2.1 (Ins.of_exa f12 (hW hw 189 rfl)), ⟨Sto.ofV Ar9 qa9 Ov2.1 (Ins.of_exa f11 (hW hw 189 rfl)), ⟨Sto.ofV Ar9 qa9 Ov2.1 (Ins.of_exa f10 (hW hw 189 rfl)), trivial⟩⟩⟩⟩⟩) (by decide) (by decide) (by decide) (by decide) (by decide) rfl (by decide) N5 gb2 (g := (mkF m 35 #[vr ea, vi 4, vr we, vr b2] [(.int 4), (.int 0), (.ref b2), (.int 0), (.ref ea)])) rfl (by rw [hml]; rfl) rfl (hb hby d32_35) (by decide) (W := 0) (Nat.le_of_eq rfl) (by decide)
  have V8 : Arv Z h8 b2 k2 oT (4 : Int32) [(.ref x0), (.ref x1), (.ref x2), (.ref x3)] .null := V8'
  refine gb (mkF m 38 #[vr ea, vi 4, vr we, vr b2] []) st8 ?_
  refine gb (mkF m 39 #[vr ea, vi 4, vr we, vr b2] [(.ref b2)]) (fun _ k => XS.aloadN X8.here hx rfl (hb hby d32_38) rfl rfl k) ?_
  have K14 := (K6.trans Kc8 (allS (Or.inr sb2) all0))
  exact Gl.outA X8 hx hk Bd.returns rfl rfl (hb hby d32_39) (Eq.mpr (congrArg (fun hh => Q324 Z ea we kk x0 x1 x2 x3 wa wb wc wd we ka kc G1 h0 n0 _ hh _) e8) (show Q324 Z ea we kk x0 x1 x2 x3 wa wb wc wd we ka kc G1 h0 n0 _ h8 _ from ⟨b2, k2, rfl, N8, K14, V8, ⟨gb2, Ov2.1⟩⟩)) (by decide) (by decide)
theorem ef314 (m : MethodId) (x0 : Addr) (x1 : Int32) : entryFrame m #[(.ref x0), (.int x1)] 2 = mkF m 0 #[.val (.ref x0), .val (.int x1)] [] := by first | (simp [entryFrame, mkF, argsToLocals, Value.category]; done) | rfl
def Q314 (Z : State) (ea : Addr) (kk : ClassId) (x0 x1 x2 x3 : Addr) (wa wb wc wd we : Addr) (ka kc : ClassId) (G1 : Int32) (h0 : Heap) (n0 : Nat) (v : Option Value) (h : Heap) (L : List Loc) : Prop := ∃ (r : Addr), ∃ (kr : ClassId), v = some (.ref r) ∧ Fr n0 L ∧ Keep h0 h [] ∧ Arv Z h r kr oT (4 : Int32) [(.ref x0), (.ref x1), (.ref x2), (.ref x3)] .null ∧ n0 ≤ r ∧ Ovr Z kr "java/lang/Object"
theorem rm314 (l : Launch) (Z : State) (a0' : Array Value) (hw : ∀ d ∈ tables_1, d.before a0' Z = true) (ws : List Jvm.Cond) (ea : Addr) (kk : ClassId) (x0 x1 x2 x3 : Addr) (wa wb wc wd we : Addr) (ka kc : ClassId) (G1 : Int32) (h0 : Heap) (n0 : Nat) (O : Old Z n0 h0) (W : Wd Z wa wb wc wd we ka kc G1) (pf0 : Exa Z h0 ea sO) (pf1 : Arv Z h0 ea kk oT (10 : Int32) [(.ref x0), (.ref x1), (.ref x2), (.ref x3), .null, .null, .null, .null, .null, .null] .null) (pf2 : Exa Z h0 x0 sI) (pf3 : Exa Z h0 x1 sI) (pf4 : Exa Z h0 x2 sI) (pf5 : Exa Z h0 x3 sI) :
    MetFree l mq20 (head1 (Jvm.Cond.code mq20 jdk_65_method_119_code 2 (some (.array oT)) :: ws) ({ frames := 2, cells := 1, slots := 4, locals := 33 } : Room)) (fun a U => a = #[(.ref ea), (.int 4)] ∧ Z.Warmed39 U.vm ∧ U.heap = h0) (fun _ _ _ _ _ => True) (fun _ U o U' => ∃ v L, o = .returned v ∧ Q314 Z ea kk x0 x1 x2 x3 wa wb wc wd we ka kc G1 h0 n0 v U'.heap L ∧ FrameEnd U o U' L ({ frames := 2, cells := 1, slots := 4, locals := 33 } : Room).cells ({ frames := 2, cells := 1, slots := 4, locals := 33 } : Room).slots) := by
  refine MetFree.of_bodySF (plainFor_of_name pn7) hisR ?_
  intro p e s m args below meth c s₁ Bd hml0 hP hK
  obtain ⟨rfl, hZ, hh⟩ := hP
  have hx := Bd.exec
  have hby := Bd.bytes
  have hml : c.maxLocals = 2 := hml0
  have hown : s.vm.findClass "java/util/Arrays" = some m.cls := findClass_of_methodNamed Bd.named
  have hnm := (name_of_methodNamed Bd.named Bd.method).1
  have hk := Bd.notSynchronized
  have X0 : Stand p l e ({ frames := 2, cells := 1, slots := 4, locals := 33 } : Room) s m #[(.ref ea), (.int 4)] below meth c s₁ [] 0 0 := Stand.of_body Bd
  have hh2 := hh
  have e0 : s₁.heap = h0 := by rw [← hh, Bd.state]; rfl
  have N0 := Fr.nil n0
  show Gl p e below (Pos 1 4 (Q314 Z ea kk x0 x1 x2 x3 wa wb wc wd we ka kc G1 h0 n0) s) s₁ _
  refine Gl.cast (ef314 m ea (4 : Int32)) ?_
  refine gb (mkF m 1 #[vr ea, vi 4] [(.ref ea)]) (fun _ k => XS.aloadN X0.here hx rfl (hb hby d31_0) rfl rfl k) ?_
  refine gb (mkF m 2 #[vr ea, vi 4] [(.int 4), (.ref ea)]) (fun _ k => XS.iloadN X0.here hx rfl (hb hby d31_1) rfl k) ?_
  refine gb (mkF m 3 #[vr ea, vi 4] [(.ref ea), (.int 4), (.ref ea)]) (fun _ k => XS.aloadN X0.here hx rfl (hb hby d31_2) rfl rfl k) ?_
  obtain ⟨T1, X1, e1, st1⟩ := gcls X0 hx hZ hown (hW hw 208 rfl) (hW hw 209 rfl) (hW hw 66 rfl) (hW hw 211 rfl) (hW hw 210 rfl) (hW hw 212 rfl) e0 pf0 W.2.2.2.2.2.2.2.2.1 (g := (mkF m 3 #[vr ea, vi 4] [(.ref ea), (.int 4), (.ref ea)])) rfl (by rw [hml]; rfl) rfl (hb hby d31_3) (by decide) (W := 2) (Nat.le_of_eq rfl) (by decide)
  refine gb (mkF m 6 #[vr ea, vi 4] [(.ref we), (.int 4), (.ref ea)]) st1 ?_
  obtain ⟨_, _, ⟨T2, L2, k2, n2⟩, -, X2, ⟨Lc2, hQ2, l2, y2, z2⟩, st2⟩ := callS X1 hx (y := mq19) hown (mvT hZ (hW hw 214 rfl)) (mvT hZ (hW hw 215 rfl)) (mvT hZ (hW hw 206 rfl)) (mvT hZ (hW hw 216 rfl)) (by decide) (backOf (W := 0) (rm324 l Z a0' hw [] ea we kk x0 x1 x2 x3 wa wb wc wd we ka kc G1 h0 n0 O W pf1 pf2 pf3 pf4 pf5) hZ (hW hw 216 rfl) (hW hw 206 rfl) (by decide) (by decide)) (g := (mkF m 6 #[vr ea, vi 4] [(.ref we), (.int 4), (.ref ea)])) rfl (by rw [hml]; rfl) (argsL := [(.ref ea), (.int 4), (.ref we)]) (rest := []) (lenOf pd214 rfl) rfl (Nat.le_of_eq rfl) (hb hby d31_6) (fun _ _ => ⟨rfl, e1, (by decide : 0 + 1 ≤ _), (by decide : 0 + 4 ≤ _)⟩)
  dsimp only [Pt.U, Pt.locs, Pt.cells, Pt.slots] at X2 l2 y2 z2 st2 hQ2
  subst l2 y2 z2
  obtain ⟨r_2, kr_2, rfl, N2q, Kc2, fc2_0, fc2_1⟩ := hQ2
  have N2 := Fr.app N0 N2q
  refine gb (mkF m 9 #[vr ea, vi 4] [(.ref r_2)]) st2 ?_
  have K3 := ((Keep.refl h0 []).trans Kc2 all0)
  exact Gl.outA X2 hx hk Bd.returns rfl rfl (hb hby d31_9) ⟨r_2, kr_2, rfl, N2, K3, fc2_0, ⟨fc2_1.1, fc2_1.2⟩⟩ (by decide) (by decide)
theorem ef304 (m : MethodId) (x0 : Addr) : entryFrame m #[(.ref x0)] 1 = mkF m 0 #[.val (.ref x0)] [] := by first | (simp [entryFrame, mkF, argsToLocals, Value.category]; done) | rfl
def Q304 (Z : State) (a0 : Addr) (ea : Addr) (kk : ClassId) (x0 x1 x2 x3 : Addr) (wa wb wc wd we : Addr) (ka kc : ClassId) (G1 : Int32) (h0 : Heap) (n0 : Nat) (v : Option Value) (h : Heap) (L : List Loc) : Prop := ∃ (r : Addr), ∃ (kr : ClassId), v = some (.ref r) ∧ Fr n0 L ∧ Keep h0 h [] ∧ Arv Z h r kr oT (4 : Int32) [(.ref x0), (.ref x1), (.ref x2), (.ref x3)] .null ∧ n0 ≤ r ∧ Ovr Z kr "java/lang/Object"
theorem rm304 (l : Launch) (Z : State) (a0' : Array Value) (hw : ∀ d ∈ tables_1, d.before a0' Z = true) (ws : List Jvm.Cond) (a0 : Addr) (ea : Addr) (kk : ClassId) (x0 x1 x2 x3 : Addr) (wa wb wc wd we : Addr) (ka kc : ClassId) (G1 : Int32) (h0 : Heap) (n0 : Nat) (O : Old Z n0 h0) (W : Wd Z wa wb wc wd we ka kc G1) (pf0 : Exa Z h0 a0 sA) (pf1 : Fld Z h0 a0 sA "elementData" sO (.ref ea)) (pf2 : Fld Z h0 a0 sA "size" "I" (.int 4)) (pf3 : Exa Z h0 ea sO) (pf4 : Arv Z h0 ea kk oT (10 : Int32) [(.ref x0), (.ref x1), (.ref x2), (.ref x3), .null, .null, .null, .null, .null, .null] .null) (pf5 : Exa Z h0 x0 sI) (pf6 : Exa Z h0 x1 sI) (pf7 : Exa Z h0 x2 sI) (pf8 : Exa Z h0 x3 sI) :
    MetFree l mq21 (head1 (Jvm.Cond.code mq21 jdk_38_method_16_code 1 (some (.array oT)) :: ws) ({ frames := 3, cells := 1, slots := 4, locals := 46 } : Room)) (fun a U => a = #[(.ref a0)] ∧ Z.Warmed39 U.vm ∧ U.heap = h0) (fun _ _ _ _ _ => True) (fun _ U o U' => ∃ v L, o = .returned v ∧ Q304 Z a0 ea kk x0 x1 x2 x3 wa wb wc wd we ka kc G1 h0 n0 v U'.heap L ∧ FrameEnd U o U' L ({ frames := 3, cells := 1, slots := 4, locals := 46 } : Room).cells ({ frames := 3, cells := 1, slots := 4, locals := 46 } : Room).slots) := by
  refine MetFree.of_bodySF (plainFor_of_name pn0) hisR ?_
  intro p e s m args below meth c s₁ Bd hml0 hP hK
  obtain ⟨rfl, hZ, hh⟩ := hP
  have hx := Bd.exec
  have hby := Bd.bytes
  have hml : c.maxLocals = 1 := hml0
  have hown : s.vm.findClass sA = some m.cls := findClass_of_methodNamed Bd.named
  have hnm := (name_of_methodNamed Bd.named Bd.method).1
  have hk := Bd.notSynchronized
  have X0 : Stand p l e ({ frames := 3, cells := 1, slots := 4, locals := 46 } : Room) s m #[(.ref a0)] below meth c s₁ [] 0 0 := Stand.of_body Bd
  have hh2 := hh
  have e0 : s₁.heap = h0 := by rw [← hh, Bd.state]; rfl
  have N0 := Fr.nil n0
  show Gl p e below (Pos 1 4 (Q304 Z a0 ea kk x0 x1 x2 x3 wa wb wc wd we ka kc G1 h0 n0) s) s₁ _
  refine Gl.cast (ef304 m a0) ?_
  refine gb (mkF m 1 #[vr a0] [(.ref a0)]) (fun _ k => XS.aloadN X0.here hx rfl (hb hby d30_0) rfl rfl k) ?_
  obtain ⟨T1, X1, e1, st1⟩ := getF X0 hx hZ hown (host := "") (Or.inl (hW hw 31 rfl)) Via.refl e0 pf1 (g := (mkF m 1 #[vr a0] [(.ref a0)])) rfl rfl (hb hby d30_1)
  refine gb (mkF m 4 #[vr a0] [(.ref ea)]) st1 ?_
  refine gb (mkF m 5 #[vr a0] [(.ref a0), (.ref ea)]) (fun _ k => XS.aloadN X1.here hx rfl (hb hby d30_4) rfl rfl k) ?_
  obtain ⟨T2, X2, e2, st2⟩ := getF X1 hx hZ hown (host := "") (Or.inl (hW hw 77 rfl)) Via.refl e1 pf2 (g := (mkF m 5 #[vr a0] [(.ref a0), (.ref ea)])) rfl rfl (hb hby d30_5)
  refine gb (mkF m 8 #[vr a0] [(.int 4), (.ref ea)]) st2 ?_
  obtain ⟨_, _, ⟨T3, L3, k3, n3⟩, -, X3, ⟨Lc3, hQ3, l3, y3, z3⟩, st3⟩ := callS X2 hx (y := mq20) hown (mvT hZ (hW hw 204 rfl)) (mvT hZ (hW hw 205 rfl)) (mvT hZ (hW hw 206 rfl)) (mvT hZ (hW hw 207 rfl)) (by decide) (backOf (W := 0) (rm314 l Z a0' hw [] ea kk x0 x1 x2 x3 wa wb wc wd we ka kc G1 h0 n0 O W pf3 pf4 pf5 pf6 pf7 pf8) hZ (hW hw 207 rfl) (hW hw 206 rfl) (by decide) (by decide)) (g := (mkF m 8 #[vr a0] [(.int 4), (.ref ea)])) rfl (by rw [hml]; rfl) (argsL := [(.ref ea), (.int 4)]) (rest := []) (lenOf pd221 rfl) rfl (Nat.le_of_eq rfl) (hb hby d30_8) (fun _ _ => ⟨rfl, e2, (by decide : 0 + 1 ≤ _), (by decide : 0 + 4 ≤ _)⟩)
  dsimp only [Pt.U, Pt.locs, Pt.cells, Pt.slots] at X3 l3 y3 z3 st3 hQ3
  subst l3 y3 z3
  obtain ⟨r_3, kr_3, rfl, N3q, Kc3, fc3_0, fc3_1⟩ := hQ3
  have N3 := Fr.app N0 N3q
  refine gb (mkF m 11 #[vr a0] [(.ref r_3)]) st3 ?_
  have K4 := ((Keep.refl h0 []).trans Kc3 all0)
  exact Gl.outA X3 hx hk Bd.returns rfl rfl (hb hby d30_11) ⟨r_3, kr_3, rfl, N3, K4, fc3_0, ⟨fc3_1.1, fc3_1.2⟩⟩ (by decide) (by decide)
theorem ef325 (m : MethodId) (x0 : Addr) (x1 : Int32) (x2 : Addr) : entryFrame m #[(.ref x0), (.int x1), (.ref x2)] 4 = mkF m 0 #[.val (.ref x0), .val (.int x1), .val (.ref x2), .unset] [] := by first | (simp [entryFrame, mkF, argsToLocals, Value.category]; done) | rfl
def Q325 (Z : State) (ea : Addr) (we : Addr) (kk : ClassId) (x0 x1 x2 x3 x4 : Addr) (wa wb wc wd we : Addr) (ka kc : ClassId) (G1 : Int32) (h0 : Heap) (n0 : Nat) (v : Option Value) (h : Heap) (L : List Loc) : Prop := ∃ (r : Addr), ∃ (kr : ClassId), v = some (.ref r) ∧ Fr n0 L ∧ Keep h0 h [] ∧ Arv Z h r kr oT (5 : Int32) [(.ref x0), (.ref x1), (.ref x2), (.ref x3), (.ref x4)] .null ∧ n0 ≤ r ∧ Ovr Z kr "java/lang/Object"
theorem rm325 (l : Launch) (Z : State) (a0' : Array Value) (hw : ∀ d ∈ tables_1, d.before a0' Z = true) (ws : List Jvm.Cond) (ea : Addr) (we : Addr) (kk : ClassId) (x0 x1 x2 x3 x4 : Addr) (wa wb wc wd we : Addr) (ka kc : ClassId) (G1 : Int32) (h0 : Heap) (n0 : Nat) (O : Old Z n0 h0) (W : Wd Z wa wb wc wd we ka kc G1) (pf0 : Arv Z h0 ea kk oT (10 : Int32) [(.ref x0), (.ref x1), (.ref x2), (.ref x3), (.ref x4), .null, .null, .null, .null, .null] .null) (pf1 : Exa Z h0 x0 sI) (pf2 : Exa Z h0 x1 sI) (pf3 : Exa Z h0 x2 sI) (pf4 : Exa Z h0 x3 sI) (pf5 : Exa Z h0 x4 sI) :
    MetFree l mq19 (head1 (Jvm.Cond.code mq19 jdk_65_method_120_code 4 (some (.array oT)) :: ws) ({ frames := 1, cells := 1, slots := 5, locals := 18 } : Room)) (fun a U => a = #[(.ref ea), (.int 5), (.ref we)] ∧ Z.Warmed39 U.vm ∧ U.heap = h0) (fun _ _ _ _ _ => True) (fun _ U o U' => ∃ v L, o = .returned v ∧ Q325 Z ea we kk x0 x1 x2 x3 x4 wa wb wc wd we ka kc G1 h0 n0 v U'.heap L ∧ FrameEnd U o U' L ({ frames := 1, cells := 1, slots := 5, locals := 18 } : Room).cells ({ frames := 1, cells := 1, slots := 5, locals := 18 } : Room).slots) := by
  refine MetFree.of_bodySF (plainFor_of_name pn7) hisR ?_
  intro p e s m args below meth c s₁ Bd hml0 hP hK
  obtain ⟨rfl, hZ, hh⟩ := hP
  have hx := Bd.exec
  have hby := Bd.bytes
  have hml : c.maxLocals = 4 := hml0
  have hown : s.vm.findClass "java/util/Arrays" = some m.cls := findClass_of_methodNamed Bd.named
  have hnm := (name_of_methodNamed Bd.named Bd.method).1
  have hk := Bd.notSynchronized
  have X0 : Stand p l e ({ frames := 1, cells := 1, slots := 5, locals := 18 } : Room) s m #[(.ref ea), (.int 5), (.ref we)] below meth c s₁ [] 0 0 := Stand.of_body Bd
  have hh2 := hh
  have e0 : s₁.heap = h0 := by rw [← hh, Bd.state]; rfl
  have N0 := Fr.nil n0
  show Gl p e below (Pos 1 5 (Q325 Z ea we kk x0 x1 x2 x3 x4 wa wb wc wd we ka kc G1 h0 n0) s) s₁ _
  refine Gl.cast (ef325 m ea (5 : Int32) we) ?_
  refine gb (mkF m 1 #[vr ea, vi 5, vr we, .unset] [(.ref we)]) (fun _ k => XS.aloadN X0.here hx rfl (hb hby d32_0) rfl rfl k) ?_
  obtain ⟨T1, X1, e1, st1⟩ := ldcM X0 hx hZ hown (hW hw 217 rfl) W.2.2.2.2.2.2.2.2.1 e0 (g := (mkF m 1 #[vr ea, vi 5, vr we, .unset] [(.ref we)])) rfl (hb hby d32_1)
  refine gb (mkF m 3 #[vr ea, vi 5, vr we, .unset] [(.ref we), (.ref we)]) st1 ?_
  refine gb (mkF m 6 #[vr ea, vi 5, vr we, .unset] []) (fun _ k => Jvm.RoadKit.acmp (g := (mkF m 3 #[vr ea, vi 5, vr we, .unset] [(.ref we), (.ref we)])) X1 hx rfl rfl rfl (pc0 := 3) (pc' := 6) (same := true) rfl (hb hby d32_3) rfl (decide_eq_true (congrArg Value.ref rfl)) (by decide) (by decide) k) ?_
  refine gb (mkF m 7 #[vr ea, vi 5, vr we, .unset] [(.int 5)]) (fun _ k => XS.iloadN X1.here hx rfl (hb hby d32_6) rfl k) ?_
  obtain ⟨T2, h2, k2, X2, e2, E2, A2, Ov2, st2⟩ := newRX X1 hx hZ hown (hW hw 218 rfl) (hW hw 188 rfl) rfl e1 (g := (mkF m 7 #[vr ea, vi 5, vr we, .unset] [(.int 5)])) rfl (hb hby d32_7) rfl (by decide) (cap := 5) (by decide) (by decide) (by decide) (by decide)
  obtain ⟨b2, g2⟩ : ∃ z, z = (h0).size := ⟨_, rfl⟩
  rw [← g2] at A2 st2
  have gb2 : n0 ≤ b2 := Nat.le_trans (Nat.le_trans (Nat.le_of_eq O.1.symm) O.2.1) (Nat.le_of_eq g2.symm)
  have sb2 : h0.size ≤ b2 := Nat.le_trans (Keep.refl h0 []).1 (Nat.le_of_eq g2.symm)
  have ne2_0 : ea ≠ b2 := Nat.ne_of_lt (Nat.lt_of_lt_of_le pf0.lt (Nat.le_of_eq g2.symm))
  have ne2_2 : x0 ≠ b2 := Nat.ne_of_lt (Nat.lt_of_lt_of_le pf1.lt (Nat.le_of_eq g2.symm))
  have ne2_4 : x1 ≠ b2 := Nat.ne_of_lt (Nat.lt_of_lt_of_le pf2.lt (Nat.le_of_eq g2.symm))
  have ne2_6 : x2 ≠ b2 := Nat.ne_of_lt (Nat.lt_of_lt_of_le pf3.lt (Nat.le_of_eq g2.symm))
  have ne2_8 : x3 ≠ b2 := Nat.ne_of_lt (Nat.lt_of_lt_of_le pf4.lt (Nat.le_of_eq g2.symm))
  have ne2_10 : x4 ≠ b2 := Nat.ne_of_lt (Nat.lt_of_lt_of_le pf5.lt (Nat.le_of_eq g2.symm))
  have ne2_12 : wa ≠ b2 := Nat.ne_of_lt (Nat.lt_of_lt_of_le (Arv.ext W.2.1 O.2).lt (Nat.le_of_eq g2.symm))
  have ne2_14 : wc ≠ b2 := Nat.ne_of_lt (Nat.lt_of_lt_of_le (Arv.ext W.2.2.2.2.2.1 O.2).lt (Nat.le_of_eq g2.symm))
  have ne2_16 : wb ≠ b2 := Nat.ne_of_lt (Nat.lt_of_lt_of_le (Exa.ext O.2 W.2.2.2.1).lt (Nat.le_of_eq g2.symm))
  have ne2_18 : wd ≠ b2 := Nat.ne_of_lt (Nat.lt_of_lt_of_le (Exa.ext O.2 W.2.2.2.2.2.2.2.1).lt (Nat.le_of_eq g2.symm))
  have V2 : Arv Z h2 b2 k2 oT (5 : Int32) [.null, .null, .null, .null, .null] .null := (Arv.new A2 (by decide)).pad (pad_rep [] .null 5)
  rw [← g2] at Ov2
  refine gb (mkF m 10 #[vr ea, vi 5, vr we, .unset] [(.ref b2)]) st2 ?_
  refine gb (mkF m 24 #[vr ea, vi 5, vr we, .unset] [(.ref b2)]) (fun _ k => XS.goto X2.here hx rfl (pc0 := 10) (pc' := 24) rfl (hb hby d32_10) (by decide) (by decide) k) ?_
  refine gb (mkF m 25 #[vr ea, vi 5, vr we, vr b2] []) (fun _ k => XS.astoreN X2.here hx rfl (hb hby d32_24) rfl rfl (l' := #[vr ea, vi 5, vr we, vr b2]) rfl k) ?_
  refine gb (mkF m 26 #[vr ea, vi 5, vr we, vr b2] [(.ref ea)]) (fun _ k => XS.aloadN X2.here hx rfl (hb hby d32_25) rfl rfl k) ?_
  refine gb (mkF m 27 #[vr ea, vi 5, vr we, vr b2] [(.int 0), (.ref ea)]) (fun _ k => XS.iconst X2.here hx rfl (hb hby d32_26) k) ?_
  refine gb (mkF m 28 #[vr ea, vi 5, vr we, vr b2] [(.ref b2), (.int 0), (.ref ea)]) (fun _ k => XS.aloadN X2.here hx rfl (hb hby d32_27) rfl rfl k) ?_
  refine gb (mkF m 29 #[vr ea, vi 5, vr we, vr b2] [(.int 0), (.ref b2), (.int 0), (.ref ea)]) (fun _ k => XS.iconst X2.here hx rfl (hb hby d32_28) k) ?_
  refine gb (mkF m 30 #[vr ea, vi 5, vr we, vr b2] [(.ref ea), (.int 0), (.ref b2), (.int 0), (.ref ea)]) (fun _ k => XS.aloadN X2.here hx rfl (hb hby d32_29) rfl rfl k) ?_
  have f3 := (Arv.ext pf0 E2)
  obtain ⟨cl4, Ar4, qa4, Sa4, Na4, Ha4, Ga4⟩ := id f3
  refine gb (mkF m 31 #[vr ea, vi 5, vr we, vr b2] [(.int 10), (.int 0), (.ref b2), (.int 0), (.ref ea)]) (fun t k => X2.arraylength hx (by rw [e2]; exact Ar4.1) (State.isArrayOf_alike hZ.alike Ar4.2.1) (g := (mkF m 30 #[vr ea, vi 5, vr we, vr b2] [(.ref ea), (.int 0), (.ref b2), (.int 0), (.ref ea)])) rfl rfl (hb hby d32_30) t (by rw [len_of Sa4 Na4]; exact k)) ?_
  refine gb (mkF m 32 #[vr ea, vi 5, vr we, vr b2] [(.int 5), (.int 10), (.int 0), (.ref b2), (.int 0), (.ref ea)]) (fun _ k => XS.iloadN X2.here hx rfl (hb hby d32_31) rfl k) ?_
  have K6 := ((Keep.refl h0 []).ext E2)
  have O7 := (O.ext E2)
  obtain ⟨_, _, ⟨T5, L5, k5, n5⟩, -, X5, ⟨Lc5, hQ5, l5, y5, z5⟩, st5⟩ := callS X2 hx (y := mq18) hown (mvT hZ (hW hw 219 rfl)) (mvT hZ (hW hw 220 rfl)) (mvT hZ (hW hw 185 rfl)) (mvT hZ (hW hw 221 rfl)) (by decide) (backOf (W := 4) (rm33 l Z a0' hw [] (5 : Int32) wa wb wc wd we ka kc G1 h2 n0 O7 W (by decide)) hZ (hW hw 221 rfl) (hW hw 185 rfl) (by decide) (by decide)) (g := (mkF m 32 #[vr ea, vi 5, vr we, vr b2] [(.int 5), (.int 10), (.int 0), (.ref b2), (.int 0), (.ref ea)])) rfl (by rw [hml]; rfl) (argsL := [(.int 10), (.int 5)]) (rest := [(.int 0), (.ref b2), (.int 0), (.ref ea)]) (lenOf pd24 rfl) rfl (Nat.le_of_eq rfl) (hb hby d32_32) (fun _ _ => ⟨rfl, e2, (by decide : 1 + 0 ≤ _), (by decide : 5 + 0 ≤ _)⟩)
  dsimp only [Pt.U, Pt.locs, Pt.cells, Pt.slots] at X5 l5 y5 z5 st5 hQ5
  subst l5 y5 z5
  obtain ⟨rfl, N5q, e5⟩ := hQ5
  have N5 := Fr.app N0 N5q
  refine gb (mkF m 35 #[vr ea, vi 5, vr we, vr b2] [(.int 5), (.int 0), (.ref b2), (.int 0), (.ref ea)]) st5 ?_
  obtain ⟨cl9, Ar9, qa9, Sa9, Na9, Ha9, Ga9⟩ := id V2
  have f10 := (Exa.ext E2 pf5)
  have f11 := (Exa.ext E2 pf4)
  have f12 := (Exa.ext E2 pf3)
  have f13 := (Exa.ext E2 pf2)
  have f14 := (Exa.ext E2 pf1)
  obtain ⟨T8, h8, L8, X8, e8, N8, Kc8, V8', st8⟩ := cpA X5 hx hZ hown (hW hw 222 rfl) (hW hw 225 rfl) (hW hw 223 rfl) (hW hw 224 rfl) e5 f3 V2 (us := [(.ref x0), (.ref x1), (.ref x2), (.ref x3), (.ref x4)]) (Or.inr ⟨rfl, rfl, ⟨Sto.ofV Ar9 qa9 Ov2.1 (Ins.of_exa f14 (hW hw 189 rfl)), ⟨Sto.ofV Ar9 qa9 Ov2.1 (Ins.of_exa f13 (hW hw 189 rfl)), ⟨Sto.ofV Ar9 qa9 Ov2.1 (Ins.of_exa f12 (hW hw 189 rfl)), ⟨Sto.ofV Ar9 qa9 Ov2.1 (Ins.of_exa f11 (hW hw 189 rfl)), ⟨Sto.ofV Ar9 qa9 Ov2.1 (Ins.of_exa f10 (hW hw 189 rfl)), trivial⟩⟩⟩⟩⟩⟩) (by decide) (by decide) (by decide) (by decide) (by decide) rfl (by decide) N5 gb2 (g := (mkF m 35 #[vr ea, vi 5, vr we, vr b2] [(.int 5), (.int 0), (.ref b2), (.int 0), (.ref ea)])) rfl (by rw [hml]; rfl) rfl (hb hby d32_35) (by decide) (W := 0) (Nat.le_of_eq rfl) (by decide)
  have V8 : Arv Z h8 b2 k2 oT (5 : Int32) [(.ref x0), (.ref x1), (.ref x2), (.ref x3), (.ref x4)] .null := V8'
  refine gb (mkF m 38 #[vr ea, vi 5, vr we, vr b2] []) st8 ?_
  refine gb (mkF m 39 #[vr ea, vi 5, vr we, vr b2] [(.ref b2)]) (fun _ k => XS.aloadN X8.here hx rfl (hb hby d32_38) rfl rfl k) ?_
  have K15 := (K6.trans Kc8 (allS (Or.inr sb2) all0))
  exact Gl.outA X8 hx hk Bd.returns rfl rfl (hb hby d32_39) (Eq.mpr (congrArg (fun hh => Q325 Z ea we kk x0 x1 x2 x3 x4 wa wb wc wd we ka kc G1 h0 n0 _ hh _) e8) (show Q325 Z ea we kk x0 x1 x2 x3 x4 wa wb wc wd we ka kc G1 h0 n0 _ h8 _ from ⟨b2, k2, rfl, N8, K15, V8, ⟨gb2, Ov2.1⟩⟩)) (by decide) (by decide)
theorem ef315 (m : MethodId) (x0 : Addr) (x1 : Int32) : entryFrame m #[(.ref x0), (.int x1)] 2 = mkF m 0 #[.val (.ref x0), .val (.int x1)] [] := by first | (simp [entryFrame, mkF, argsToLocals, Value.category]; done) | rfl
def Q315 (Z : State) (ea : Addr) (kk : ClassId) (x0 x1 x2 x3 x4 : Addr) (wa wb wc wd we : Addr) (ka kc : ClassId) (G1 : Int32) (h0 : Heap) (n0 : Nat) (v : Option Value) (h : Heap) (L : List Loc) : Prop := ∃ (r : Addr), ∃ (kr : ClassId), v = some (.ref r) ∧ Fr n0 L ∧ Keep h0 h [] ∧ Arv Z h r kr oT (5 : Int32) [(.ref x0), (.ref x1), (.ref x2), (.ref x3), (.ref x4)] .null ∧ n0 ≤ r ∧ Ovr Z kr "java/lang/Object"
theorem rm315 (l : Launch) (Z : State) (a0' : Array Value) (hw : ∀ d ∈ tables_1, d.before a0' Z = true) (ws : List Jvm.Cond) (ea : Addr) (kk : ClassId) (x0 x1 x2 x3 x4 : Addr) (wa wb wc wd we : Addr) (ka kc : ClassId) (G1 : Int32) (h0 : Heap) (n0 : Nat) (O : Old Z n0 h0) (W : Wd Z wa wb wc wd we ka kc G1) (pf0 : Exa Z h0 ea sO) (pf1 : Arv Z h0 ea kk oT (10 : Int32) [(.ref x0), (.ref x1), (.ref x2), (.ref x3), (.ref x4), .null, .null, .null, .null, .null] .null) (pf2 : Exa Z h0 x0 sI) (pf3 : Exa Z h0 x1 sI) (pf4 : Exa Z h0 x2 sI) (pf5 : Exa Z h0 x3 sI) (pf6 : Exa Z h0 x4 sI) :
    MetFree l mq20 (head1 (Jvm.Cond.code mq20 jdk_65_method_119_code 2 (some (.array oT)) :: ws) ({ frames := 2, cells := 1, slots := 5, locals := 33 } : Room)) (fun a U => a = #[(.ref ea), (.int 5)] ∧ Z.Warmed39 U.vm ∧ U.heap = h0) (fun _ _ _ _ _ => True) (fun _ U o U' => ∃ v L, o = .returned v ∧ Q315 Z ea kk x0 x1 x2 x3 x4 wa wb wc wd we ka kc G1 h0 n0 v U'.heap L ∧ FrameEnd U o U' L ({ frames := 2, cells := 1, slots := 5, locals := 33 } : Room).cells ({ frames := 2, cells := 1, slots := 5, locals := 33 } : Room).slots) := by
  refine MetFree.of_bodySF (plainFor_of_name pn7) hisR ?_
  intro p e s m args below meth c s₁ Bd hml0 hP hK
  obtain ⟨rfl, hZ, hh⟩ := hP
  have hx := Bd.exec
  have hby := Bd.bytes
  have hml : c.maxLocals = 2 := hml0
  have hown : s.vm.findClass "java/util/Arrays" = some m.cls := findClass_of_methodNamed Bd.named
  have hnm := (name_of_methodNamed Bd.named Bd.method).1
  have hk := Bd.notSynchronized
  have X0 : Stand p l e ({ frames := 2, cells := 1, slots := 5, locals := 33 } : Room) s m #[(.ref ea), (.int 5)] below meth c s₁ [] 0 0 := Stand.of_body Bd
  have hh2 := hh
  have e0 : s₁.heap = h0 := by rw [← hh, Bd.state]; rfl
  have N0 := Fr.nil n0
  show Gl p e below (Pos 1 5 (Q315 Z ea kk x0 x1 x2 x3 x4 wa wb wc wd we ka kc G1 h0 n0) s) s₁ _
  refine Gl.cast (ef315 m ea (5 : Int32)) ?_
  refine gb (mkF m 1 #[vr ea, vi 5] [(.ref ea)]) (fun _ k => XS.aloadN X0.here hx rfl (hb hby d31_0) rfl rfl k) ?_
  refine gb (mkF m 2 #[vr ea, vi 5] [(.int 5), (.ref ea)]) (fun _ k => XS.iloadN X0.here hx rfl (hb hby d31_1) rfl k) ?_
  refine gb (mkF m 3 #[vr ea, vi 5] [(.ref ea), (.int 5), (.ref ea)]) (fun _ k => XS.aloadN X0.here hx rfl (hb hby d31_2) rfl rfl k) ?_
  obtain ⟨T1, X1, e1, st1⟩ := gcls X0 hx hZ hown (hW hw 208 rfl) (hW hw 209 rfl) (hW hw 66 rfl) (hW hw 211 rfl) (hW hw 210 rfl) (hW hw 212 rfl) e0 pf0 W.2.2.2.2.2.2.2.2.1 (g := (mkF m 3 #[vr ea, vi 5] [(.ref ea), (.int 5), (.ref ea)])) rfl (by rw [hml]; rfl) rfl (hb hby d31_3) (by decide) (W := 2) (Nat.le_of_eq rfl) (by decide)
  refine gb (mkF m 6 #[vr ea, vi 5] [(.ref we), (.int 5), (.ref ea)]) st1 ?_
  obtain ⟨_, _, ⟨T2, L2, k2, n2⟩, -, X2, ⟨Lc2, hQ2, l2, y2, z2⟩, st2⟩ := callS X1 hx (y := mq19) hown (mvT hZ (hW hw 214 rfl)) (mvT hZ (hW hw 215 rfl)) (mvT hZ (hW hw 206 rfl)) (mvT hZ (hW hw 216 rfl)) (by decide) (backOf (W := 0) (rm325 l Z a0' hw [] ea we kk x0 x1 x2 x3 x4 wa wb wc wd we ka kc G1 h0 n0 O W pf1 pf2 pf3 pf4 pf5 pf6) hZ (hW hw 216 rfl) (hW hw 206 rfl) (by decide) (by decide)) (g := (mkF m 6 #[vr ea, vi 5] [(.ref we), (.int 5), (.ref ea)])) rfl (by rw [hml]; rfl) (argsL := [(.ref ea), (.int 5), (.ref we)]) (rest := []) (lenOf pd214 rfl) rfl (Nat.le_of_eq rfl) (hb hby d31_6) (fun _ _ => ⟨rfl, e1, (by decide : 0 + 1 ≤ _), (by decide : 0 + 5 ≤ _)⟩)
  dsimp only [Pt.U, Pt.locs, Pt.cells, Pt.slots] at X2 l2 y2 z2 st2 hQ2
  subst l2 y2 z2
  obtain ⟨r_2, kr_2, rfl, N2q, Kc2, fc2_0, fc2_1⟩ := hQ2
  have N2 := Fr.app N0 N2q
  refine gb (mkF m 9 #[vr ea, vi 5] [(.ref r_2)]) st2 ?_
  have K3 := ((Keep.refl h0 []).trans Kc2 all0)
  exact Gl.outA X2 hx hk Bd.returns rfl rfl (hb hby d31_9) ⟨r_2, kr_2, rfl, N2, K3, fc2_0, ⟨fc2_1.1, fc2_1.2⟩⟩ (by decide) (by decide)
theorem ef305 (m : MethodId) (x0 : Addr) : entryFrame m #[(.ref x0)] 1 = mkF m 0 #[.val (.ref x0)] [] := by first | (simp [entryFrame, mkF, argsToLocals, Value.category]; done) | rfl
def Q305 (Z : State) (a0 : Addr) (ea : Addr) (kk : ClassId) (x0 x1 x2 x3 x4 : Addr) (wa wb wc wd we : Addr) (ka kc : ClassId) (G1 : Int32) (h0 : Heap) (n0 : Nat) (v : Option Value) (h : Heap) (L : List Loc) : Prop := ∃ (r : Addr), ∃ (kr : ClassId), v = some (.ref r) ∧ Fr n0 L ∧ Keep h0 h [] ∧ Arv Z h r kr oT (5 : Int32) [(.ref x0), (.ref x1), (.ref x2), (.ref x3), (.ref x4)] .null ∧ n0 ≤ r ∧ Ovr Z kr "java/lang/Object"
theorem rm305 (l : Launch) (Z : State) (a0' : Array Value) (hw : ∀ d ∈ tables_1, d.before a0' Z = true) (ws : List Jvm.Cond) (a0 : Addr) (ea : Addr) (kk : ClassId) (x0 x1 x2 x3 x4 : Addr) (wa wb wc wd we : Addr) (ka kc : ClassId) (G1 : Int32) (h0 : Heap) (n0 : Nat) (O : Old Z n0 h0) (W : Wd Z wa wb wc wd we ka kc G1) (pf0 : Exa Z h0 a0 sA) (pf1 : Fld Z h0 a0 sA "elementData" sO (.ref ea)) (pf2 : Fld Z h0 a0 sA "size" "I" (.int 5)) (pf3 : Exa Z h0 ea sO) (pf4 : Arv Z h0 ea kk oT (10 : Int32) [(.ref x0), (.ref x1), (.ref x2), (.ref x3), (.ref x4), .null, .null, .null, .null, .null] .null) (pf5 : Exa Z h0 x0 sI) (pf6 : Exa Z h0 x1 sI) (pf7 : Exa Z h0 x2 sI) (pf8 : Exa Z h0 x3 sI) (pf9 : Exa Z h0 x4 sI) :
    MetFree l mq21 (head1 (Jvm.Cond.code mq21 jdk_38_method_16_code 1 (some (.array oT)) :: ws) ({ frames := 3, cells := 1, slots := 5, locals := 46 } : Room)) (fun a U => a = #[(.ref a0)] ∧ Z.Warmed39 U.vm ∧ U.heap = h0) (fun _ _ _ _ _ => True) (fun _ U o U' => ∃ v L, o = .returned v ∧ Q305 Z a0 ea kk x0 x1 x2 x3 x4 wa wb wc wd we ka kc G1 h0 n0 v U'.heap L ∧ FrameEnd U o U' L ({ frames := 3, cells := 1, slots := 5, locals := 46 } : Room).cells ({ frames := 3, cells := 1, slots := 5, locals := 46 } : Room).slots) := by
  refine MetFree.of_bodySF (plainFor_of_name pn0) hisR ?_
  intro p e s m args below meth c s₁ Bd hml0 hP hK
  obtain ⟨rfl, hZ, hh⟩ := hP
  have hx := Bd.exec
  have hby := Bd.bytes
  have hml : c.maxLocals = 1 := hml0
  have hown : s.vm.findClass sA = some m.cls := findClass_of_methodNamed Bd.named
  have hnm := (name_of_methodNamed Bd.named Bd.method).1
  have hk := Bd.notSynchronized
  have X0 : Stand p l e ({ frames := 3, cells := 1, slots := 5, locals := 46 } : Room) s m #[(.ref a0)] below meth c s₁ [] 0 0 := Stand.of_body Bd
  have hh2 := hh
  have e0 : s₁.heap = h0 := by rw [← hh, Bd.state]; rfl
  have N0 := Fr.nil n0
  show Gl p e below (Pos 1 5 (Q305 Z a0 ea kk x0 x1 x2 x3 x4 wa wb wc wd we ka kc G1 h0 n0) s) s₁ _
  refine Gl.cast (ef305 m a0) ?_
  refine gb (mkF m 1 #[vr a0] [(.ref a0)]) (fun _ k => XS.aloadN X0.here hx rfl (hb hby d30_0) rfl rfl k) ?_
  obtain ⟨T1, X1, e1, st1⟩ := getF X0 hx hZ hown (host := "") (Or.inl (hW hw 31 rfl)) Via.refl e0 pf1 (g := (mkF m 1 #[vr a0] [(.ref a0)])) rfl rfl (hb hby d30_1)
  refine gb (mkF m 4 #[vr a0] [(.ref ea)]) st1 ?_
  refine gb (mkF m 5 #[vr a0] [(.ref a0), (.ref ea)]) (fun _ k => XS.aloadN X1.here hx rfl (hb hby d30_4) rfl rfl k) ?_
  obtain ⟨T2, X2, e2, st2⟩ := getF X1 hx hZ hown (host := "") (Or.inl (hW hw 77 rfl)) Via.refl e1 pf2 (g := (mkF m 5 #[vr a0] [(.ref a0), (.ref ea)])) rfl rfl (hb hby d30_5)
  refine gb (mkF m 8 #[vr a0] [(.int 5), (.ref ea)]) st2 ?_
  obtain ⟨_, _, ⟨T3, L3, k3, n3⟩, -, X3, ⟨Lc3, hQ3, l3, y3, z3⟩, st3⟩ := callS X2 hx (y := mq20) hown (mvT hZ (hW hw 204 rfl)) (mvT hZ (hW hw 205 rfl)) (mvT hZ (hW hw 206 rfl)) (mvT hZ (hW hw 207 rfl)) (by decide) (backOf (W := 0) (rm315 l Z a0' hw [] ea kk x0 x1 x2 x3 x4 wa wb wc wd we ka kc G1 h0 n0 O W pf3 pf4 pf5 pf6 pf7 pf8 pf9) hZ (hW hw 207 rfl) (hW hw 206 rfl) (by decide) (by decide)) (g := (mkF m 8 #[vr a0] [(.int 5), (.ref ea)])) rfl (by rw [hml]; rfl) (argsL := [(.ref ea), (.int 5)]) (rest := []) (lenOf pd221 rfl) rfl (Nat.le_of_eq rfl) (hb hby d30_8) (fun _ _ => ⟨rfl, e2, (by decide : 0 + 1 ≤ _), (by decide : 0 + 5 ≤ _)⟩)
  dsimp only [Pt.U, Pt.locs, Pt.cells, Pt.slots] at X3 l3 y3 z3 st3 hQ3
  subst l3 y3 z3
  obtain ⟨r_3, kr_3, rfl, N3q, Kc3, fc3_0, fc3_1⟩ := hQ3
  have N3 := Fr.app N0 N3q
  refine gb (mkF m 11 #[vr a0] [(.ref r_3)]) st3 ?_
  have K4 := ((Keep.refl h0 []).trans Kc3 all0)
  exact Gl.outA X3 hx hk Bd.returns rfl rfl (hb hby d30_11) ⟨r_3, kr_3, rfl, N3, K4, fc3_0, ⟨fc3_1.1, fc3_1.2⟩⟩ (by decide) (by decide)
theorem ef326 (m : MethodId) (x0 : Addr) (x1 : Int32) (x2 : Addr) : entryFrame m #[(.ref x0), (.int x1), (.ref x2)] 4 = mkF m 0 #[.val (.ref x0), .val (.int x1), .val (.ref x2), .unset] [] := by first | (simp [entryFrame, mkF, argsToLocals, Value.category]; done) | rfl
def Q326 (Z : State) (ea : Addr) (we : Addr) (kk : ClassId) (x0 x1 x2 x3 x4 x5 : Addr) (wa wb wc wd we : Addr) (ka kc : ClassId) (G1 : Int32) (h0 : Heap) (n0 : Nat) (v : Option Value) (h : Heap) (L : List Loc) : Prop := ∃ (r : Addr), ∃ (kr : ClassId), v = some (.ref r) ∧ Fr n0 L ∧ Keep h0 h [] ∧ Arv Z h r kr oT (6 : Int32) [(.ref x0), (.ref x1), (.ref x2), (.ref x3), (.ref x4), (.ref x5)] .null ∧ n0 ≤ r ∧ Ovr Z kr "java/lang/Object"
theorem rm326 (l : Launch) (Z : State) (a0' : Array Value) (hw : ∀ d ∈ tables_1, d.before a0' Z = true) (ws : List Jvm.Cond) (ea : Addr) (we : Addr) (kk : ClassId) (x0 x1 x2 x3 x4 x5 : Addr) (wa wb wc wd we : Addr) (ka kc : ClassId) (G1 : Int32) (h0 : Heap) (n0 : Nat) (O : Old Z n0 h0) (W : Wd Z wa wb wc wd we ka kc G1) (pf0 : Arv Z h0 ea kk oT (10 : Int32) [(.ref x0), (.ref x1), (.ref x2), (.ref x3), (.ref x4), (.ref x5), .null, .null, .null, .null] .null) (pf1 : Exa Z h0 x0 sI) (pf2 : Exa Z h0 x1 sI) (pf3 : Exa Z h0 x2 sI) (pf4 : Exa Z h0 x3 sI) (pf5 : Exa Z h0 x4 sI) (pf6 : Exa Z h0 x5 sI) :
    MetFree l mq19 (head1 (Jvm.Cond.code mq19 jdk_65_method_120_code 4 (some (.array oT)) :: ws) ({ frames := 1, cells := 1, slots := 6, locals := 18 } : Room)) (fun a U => a = #[(.ref ea), (.int 6), (.ref we)] ∧ Z.Warmed39 U.vm ∧ U.heap = h0) (fun _ _ _ _ _ => True) (fun _ U o U' => ∃ v L, o = .returned v ∧ Q326 Z ea we kk x0 x1 x2 x3 x4 x5 wa wb wc wd we ka kc G1 h0 n0 v U'.heap L ∧ FrameEnd U o U' L ({ frames := 1, cells := 1, slots := 6, locals := 18 } : Room).cells ({ frames := 1, cells := 1, slots := 6, locals := 18 } : Room).slots) := by
  refine MetFree.of_bodySF (plainFor_of_name pn7) hisR ?_
  intro p e s m args below meth c s₁ Bd hml0 hP hK
  obtain ⟨rfl, hZ, hh⟩ := hP
  have hx := Bd.exec
  have hby := Bd.bytes
  have hml : c.maxLocals = 4 := hml0
  have hown : s.vm.findClass "java/util/Arrays" = some m.cls := findClass_of_methodNamed Bd.named
  have hnm := (name_of_methodNamed Bd.named Bd.method).1
  have hk := Bd.notSynchronized
  have X0 : Stand p l e ({ frames := 1, cells := 1, slots := 6, locals := 18 } : Room) s m #[(.ref ea), (.int 6), (.ref we)] below meth c s₁ [] 0 0 := Stand.of_body Bd
  have hh2 := hh
  have e0 : s₁.heap = h0 := by rw [← hh, Bd.state]; rfl
  have N0 := Fr.nil n0
  show Gl p e below (Pos 1 6 (Q326 Z ea we kk x0 x1 x2 x3 x4 x5 wa wb wc wd we ka kc G1 h0 n0) s) s₁ _
  refine Gl.cast (ef326 m ea (6 : Int32) we) ?_
  refine gb (mkF m 1 #[vr ea, vi 6, vr we, .unset] [(.ref we)]) (fun _ k => XS.aloadN X0.here hx rfl (hb hby d32_0) rfl rfl k) ?_
  obtain ⟨T1, X1, e1, st1⟩ := ldcM X0 hx hZ hown (hW hw 217 rfl) W.2.2.2.2.2.2.2.2.1 e0 (g := (mkF m 1 #[vr ea, vi 6, vr we, .unset] [(.ref we)])) rfl (hb hby d32_1)
  refine gb (mkF m 3 #[vr ea, vi 6, vr we, .unset] [(.ref we), (.ref we)]) st1 ?_
  refine gb (mkF m 6 #[vr ea, vi 6, vr we, .unset] []) (fun _ k => Jvm.RoadKit.acmp (g := (mkF m 3 #[vr ea, vi 6, vr we, .unset] [(.ref we), (.ref we)])) X1 hx rfl rfl rfl (pc0 := 3) (pc' := 6) (same := true) rfl (hb hby d32_3) rfl (decide_eq_true (congrArg Value.ref rfl)) (by decide) (by decide) k) ?_
  refine gb (mkF m 7 #[vr ea, vi 6, vr we, .unset] [(.int 6)]) (fun _ k => XS.iloadN X1.here hx rfl (hb hby d32_6) rfl k) ?_
  obtain ⟨T2, h2, k2, X2, e2, E2, A2, Ov2, st2⟩ := newRX X1 hx hZ hown (hW hw 218 rfl) (hW hw 188 rfl) rfl e1 (g := (mkF m 7 #[vr ea, vi 6, vr we, .unset] [(.int 6)])) rfl (hb hby d32_7) rfl (by decide) (cap := 6) (by decide) (by decide) (by decide) (by decide)
  obtain ⟨b2, g2⟩ : ∃ z, z = (h0).size := ⟨_, rfl⟩
  rw [← g2] at A2 st2
  have gb2 : n0 ≤ b2 := Nat.le_trans (Nat.le_trans (Nat.le_of_eq O.1.symm) O.2.1) (Nat.le_of_eq g2.symm)
  have sb2 : h0.size ≤ b2 := Nat.le_trans (Keep.refl h0 []).1 (Nat.le_of_eq g2.symm)
  have ne2_0 : ea ≠ b2 := Nat.ne_of_lt (Nat.lt_of_lt_of_le pf0.lt (Nat.le_of_eq g2.symm))
  have ne2_2 : x0 ≠ b2 := Nat.ne_of_lt (Nat.lt_of_lt_of_le pf1.lt (Nat.le_of_eq g2.symm))
  have ne2_4 : x1 ≠ b2 := Nat.ne_of_lt (Nat.lt_of_lt_of_le pf2.lt (Nat.le_of_eq g2.symm))
  have ne2_6 : x2 ≠ b2 := Nat.ne_of_lt (Nat.lt_of_lt_of_le pf3.lt (Nat.le_of_eq g2.symm))
  have ne2_8 : x3 ≠ b2 := Nat.ne_of_lt (Nat.lt_of_lt_of_le pf4.lt (Nat.le_of_eq g2.symm))
  have ne2_10 : x4 ≠ b2 := Nat.ne_of_lt (Nat.lt_of_lt_of_le pf5.lt (Nat.le_of_eq g2.symm))
  have ne2_12 : x5 ≠ b2 := Nat.ne_of_lt (Nat.lt_of_lt_of_le pf6.lt (Nat.le_of_eq g2.symm))
  have ne2_14 : wa ≠ b2 := Nat.ne_of_lt (Nat.lt_of_lt_of_le (Arv.ext W.2.1 O.2).lt (Nat.le_of_eq g2.symm))
  have ne2_16 : wc ≠ b2 := Nat.ne_of_lt (Nat.lt_of_lt_of_le (Arv.ext W.2.2.2.2.2.1 O.2).lt (Nat.le_of_eq g2.symm))
  have ne2_18 : wb ≠ b2 := Nat.ne_of_lt (Nat.lt_of_lt_of_le (Exa.ext O.2 W.2.2.2.1).lt (Nat.le_of_eq g2.symm))
  have ne2_20 : wd ≠ b2 := Nat.ne_of_lt (Nat.lt_of_lt_of_le (Exa.ext O.2 W.2.2.2.2.2.2.2.1).lt (Nat.le_of_eq g2.symm))
  have V2 : Arv Z h2 b2 k2 oT (6 : Int32) [.null, .null, .null, .null, .null, .null] .null := (Arv.new A2 (by decide)).pad (pad_rep [] .null 6)
  rw [← g2] at Ov2
  refine gb (mkF m 10 #[vr ea, vi 6, vr we, .unset] [(.ref b2)]) st2 ?_
  refine gb (mkF m 24 #[vr ea, vi 6, vr we, .unset] [(.ref b2)]) (fun _ k => XS.goto X2.here hx rfl (pc0 := 10) (pc' := 24) rfl (hb hby d32_10) (by decide) (by decide) k) ?_
  refine gb (mkF m 25 #[vr ea, vi 6, vr we, vr b2] []) (fun _ k => XS.astoreN X2.here hx rfl (hb hby d32_24) rfl rfl (l' := #[vr ea, vi 6, vr we, vr b2]) rfl k) ?_
  refine gb (mkF m 26 #[vr ea, vi 6, vr we, vr b2] [(.ref ea)]) (fun _ k => XS.aloadN X2.here hx rfl (hb hby d32_25) rfl rfl k) ?_
  refine gb (mkF m 27 #[vr ea, vi 6, vr we, vr b2] [(.int 0), (.ref ea)]) (fun _ k => XS.iconst X2.here hx rfl (hb hby d32_26) k) ?_
  refine gb (mkF m 28 #[vr ea, vi 6, vr we, vr b2] [(.ref b2), (.int 0), (.ref ea)]) (fun _ k => XS.aloadN X2.here hx rfl (hb hby d32_27) rfl rfl k) ?_
  refine gb (mkF m 29 #[vr ea, vi 6, vr we, vr b2] [(.int 0), (.ref b2), (.int 0), (.ref ea)]) (fun _ k => XS.iconst X2.here hx rfl (hb hby d32_28) k) ?_
  refine gb (mkF m 30 #[vr ea, vi 6, vr we, vr b2] [(.ref ea), (.int 0), (.ref b2), (.int 0), (.ref ea)]) (fun _ k => XS.aloadN X2.here hx rfl (hb hby d32_29) rfl rfl k) ?_
  have f3 := (Arv.ext pf0 E2)
  obtain ⟨cl4, Ar4, qa4, Sa4, Na4, Ha4, Ga4⟩ := id f3
  refine gb (mkF m 31 #[vr ea, vi 6, vr we, vr b2] [(.int 10), (.int 0), (.ref b2), (.int 0), (.ref ea)]) (fun t k => X2.arraylength hx (by rw [e2]; exact Ar4.1) (State.isArrayOf_alike hZ.alike Ar4.2.1) (g := (mkF m 30 #[vr ea, vi 6, vr we, vr b2] [(.ref ea), (.int 0), (.ref b2), (.int 0), (.ref ea)])) rfl rfl (hb hby d32_30) t (by rw [len_of Sa4 Na4]; exact k)) ?_
  refine gb (mkF m 32 #[vr ea, vi 6, vr we, vr b2] [(.int 6), (.int 10), (.int 0), (.ref b2), (.int 0), (.ref ea)]) (fun _ k => XS.iloadN X2.here hx rfl (hb hby d32_31) rfl k) ?_
  have K6 := ((Keep.refl h0 []).ext E2)
  have O7 := (O.ext E2)
  obtain ⟨_, _, ⟨T5, L5, k5, n5⟩, -, X5, ⟨Lc5, hQ5, l5, y5, z5⟩, st5⟩ := callS X2 hx (y := mq18) hown (mvT hZ (hW hw 219 rfl)) (mvT hZ (hW hw 220 rfl)) (mvT hZ (hW hw 185 rfl)) (mvT hZ (hW hw 221 rfl)) (by decide) (backOf (W := 4) (rm33 l Z a0' hw [] (6 : Int32) wa wb wc wd we ka kc G1 h2 n0 O7 W (by decide)) hZ (hW hw 221 rfl) (hW hw 185 rfl) (by decide) (by decide)) (g := (mkF m 32 #[vr ea, vi 6, vr we, vr b2] [(.int 6), (.int 10), (.int 0), (.ref b2), (.int 0), (.ref ea)])) rfl (by rw [hml]; rfl) (argsL := [(.int 10), (.int 6)]) (rest := [(.int 0), (.ref b2), (.int 0), (.ref ea)]) (lenOf pd24 rfl) rfl (Nat.le_of_eq rfl) (hb hby d32_32) (fun _ _ => ⟨rfl, e2, (by decide : 1 + 0 ≤ _), (by decide : 6 + 0 ≤ _)⟩)
  dsimp only [Pt.U, Pt.locs, Pt.cells, Pt.slots] at X5 l5 y5 z5 st5 hQ5
  subst l5 y5 z5
  obtain ⟨rfl, N5q, e5⟩ := hQ5
  have N5 := Fr.app N0 N5q
  refine gb (mkF m 35 #[vr ea, vi 6, vr we, vr b2] [(.int 6), (.int 0), (.ref b2), (.int 0), (.ref ea)]) st5 ?_
  obtain ⟨cl9, Ar9, qa9, Sa9, Na9, Ha9, Ga9⟩ := id V2
  have f10 := (Exa.ext E2 pf6)
  have f11 := (Exa.ext E2 pf5)
  have f12 := (Exa.ext E2 pf4)
  have f13 := (Exa.ext E2 pf3)
  have f14 := (Exa.ext E2 pf2)
  have f15 := (Exa.ext E2 pf1)
  obtain ⟨T8, h8, L8, X8, e8, N8, Kc8, V8', st8⟩ := cpA X5 hx hZ hown (hW hw 222 rfl) (hW hw 225 rfl) (hW hw 223 rfl) (hW hw 224 rfl) e5 f3 V2 (us := [(.ref x0), (.ref x1), (.ref x2), (.ref x3), (.ref x4), (.ref x5)]) (Or.inr ⟨rfl, rfl, ⟨Sto.ofV Ar9 qa9 Ov2.1 (Ins.of_exa f15 (hW hw 189 rfl)), ⟨Sto.ofV Ar9 qa9 Ov2.1 (Ins.of_exa f14 (hW hw 189 rfl)), ⟨Sto.ofV Ar9 qa9 Ov2.1 (Ins.of_exa f13 (hW hw 189 rfl)), ⟨Sto.ofV Ar9 qa9 Ov2.1 (Ins.of_exa f12 (hW hw 189 rfl)), ⟨Sto.ofV Ar9 qa9 Ov2.1 (Ins.of_exa f11 (hW hw 189 rfl)), ⟨Sto.ofV Ar9 qa9 Ov2.1 (Ins.of_exa f10 (hW hw 189 rfl)), trivial⟩⟩⟩⟩⟩⟩⟩) (by decide) (by decide) (by decide) (by decide) (by decide) rfl (by decide) N5 gb2 (g := (mkF m 35 #[vr ea, vi 6, vr we, vr b2] [(.int 6), (.int 0), (.ref b2), (.int 0), (.ref ea)])) rfl (by rw [hml]; rfl) rfl (hb hby d32_35) (by decide) (W := 0) (Nat.le_of_eq rfl) (by decide)
  have V8 : Arv Z h8 b2 k2 oT (6 : Int32) [(.ref x0), (.ref x1), (.ref x2), (.ref x3), (.ref x4), (.ref x5)] .null := V8'
  refine gb (mkF m 38 #[vr ea, vi 6, vr we, vr b2] []) st8 ?_
  refine gb (mkF m 39 #[vr ea, vi 6, vr we, vr b2] [(.ref b2)]) (fun _ k => XS.aloadN X8.here hx rfl (hb hby d32_38) rfl rfl k) ?_
  have K16 := (K6.trans Kc8 (allS (Or.inr sb2) all0))
  exact Gl.outA X8 hx hk Bd.returns rfl rfl (hb hby d32_39) (Eq.mpr (congrArg (fun hh => Q326 Z ea we kk x0 x1 x2 x3 x4 x5 wa wb wc wd we ka kc G1 h0 n0 _ hh _) e8) (show Q326 Z ea we kk x0 x1 x2 x3 x4 x5 wa wb wc wd we ka kc G1 h0 n0 _ h8 _ from ⟨b2, k2, rfl, N8, K16, V8, ⟨gb2, Ov2.1⟩⟩)) (by decide) (by decide)
theorem ef316 (m : MethodId) (x0 : Addr) (x1 : Int32) : entryFrame m #[(.ref x0), (.int x1)] 2 = mkF m 0 #[.val (.ref x0), .val (.int x1)] [] := by first | (simp [entryFrame, mkF, argsToLocals, Value.category]; done) | rfl
def Q316 (Z : State) (ea : Addr) (kk : ClassId) (x0 x1 x2 x3 x4 x5 : Addr) (wa wb wc wd we : Addr) (ka kc : ClassId) (G1 : Int32) (h0 : Heap) (n0 : Nat) (v : Option Value) (h : Heap) (L : List Loc) : Prop := ∃ (r : Addr), ∃ (kr : ClassId), v = some (.ref r) ∧ Fr n0 L ∧ Keep h0 h [] ∧ Arv Z h r kr oT (6 : Int32) [(.ref x0), (.ref x1), (.ref x2), (.ref x3), (.ref x4), (.ref x5)] .null ∧ n0 ≤ r ∧ Ovr Z kr "java/lang/Object"
theorem rm316 (l : Launch) (Z : State) (a0' : Array Value) (hw : ∀ d ∈ tables_1, d.before a0' Z = true) (ws : List Jvm.Cond) (ea : Addr) (kk : ClassId) (x0 x1 x2 x3 x4 x5 : Addr) (wa wb wc wd we : Addr) (ka kc : ClassId) (G1 : Int32) (h0 : Heap) (n0 : Nat) (O : Old Z n0 h0) (W : Wd Z wa wb wc wd we ka kc G1) (pf0 : Exa Z h0 ea sO) (pf1 : Arv Z h0 ea kk oT (10 : Int32) [(.ref x0), (.ref x1), (.ref x2), (.ref x3), (.ref x4), (.ref x5), .null, .null, .null, .null] .null) (pf2 : Exa Z h0 x0 sI) (pf3 : Exa Z h0 x1 sI) (pf4 : Exa Z h0 x2 sI) (pf5 : Exa Z h0 x3 sI) (pf6 : Exa Z h0 x4 sI) (pf7 : Exa Z h0 x5 sI) :
    MetFree l mq20 (head1 (Jvm.Cond.code mq20 jdk_65_method_119_code 2 (some (.array oT)) :: ws) ({ frames := 2, cells := 1, slots := 6, locals := 33 } : Room)) (fun a U => a = #[(.ref ea), (.int 6)] ∧ Z.Warmed39 U.vm ∧ U.heap = h0) (fun _ _ _ _ _ => True) (fun _ U o U' => ∃ v L, o = .returned v ∧ Q316 Z ea kk x0 x1 x2 x3 x4 x5 wa wb wc wd we ka kc G1 h0 n0 v U'.heap L ∧ FrameEnd U o U' L ({ frames := 2, cells := 1, slots := 6, locals := 33 } : Room).cells ({ frames := 2, cells := 1, slots := 6, locals := 33 } : Room).slots) := by
  refine MetFree.of_bodySF (plainFor_of_name pn7) hisR ?_
  intro p e s m args below meth c s₁ Bd hml0 hP hK
  obtain ⟨rfl, hZ, hh⟩ := hP
  have hx := Bd.exec
  have hby := Bd.bytes
  have hml : c.maxLocals = 2 := hml0
  have hown : s.vm.findClass "java/util/Arrays" = some m.cls := findClass_of_methodNamed Bd.named
  have hnm := (name_of_methodNamed Bd.named Bd.method).1
  have hk := Bd.notSynchronized
  have X0 : Stand p l e ({ frames := 2, cells := 1, slots := 6, locals := 33 } : Room) s m #[(.ref ea), (.int 6)] below meth c s₁ [] 0 0 := Stand.of_body Bd
  have hh2 := hh
  have e0 : s₁.heap = h0 := by rw [← hh, Bd.state]; rfl
  have N0 := Fr.nil n0
  show Gl p e below (Pos 1 6 (Q316 Z ea kk x0 x1 x2 x3 x4 x5 wa wb wc wd we ka kc G1 h0 n0) s) s₁ _
  refine Gl.cast (ef316 m ea (6 : Int32)) ?_
  refine gb (mkF m 1 #[vr ea, vi 6] [(.ref ea)]) (fun _ k => XS.aloadN X0.here hx rfl (hb hby d31_0) rfl rfl k) ?_
  refine gb (mkF m 2 #[vr ea, vi 6] [(.int 6), (.ref ea)]) (fun _ k => XS.iloadN X0.here hx rfl (hb hby d31_1) rfl k) ?_
  refine gb (mkF m 3 #[vr ea, vi 6] [(.ref ea), (.int 6), (.ref ea)]) (fun _ k => XS.aloadN X0.here hx rfl (hb hby d31_2) rfl rfl k) ?_
  obtain ⟨T1, X1, e1, st1⟩ := gcls X0 hx hZ hown (hW hw 208 rfl) (hW hw 209 rfl) (hW hw 66 rfl) (hW hw 211 rfl) (hW hw 210 rfl) (hW hw 212 rfl) e0 pf0 W.2.2.2.2.2.2.2.2.1 (g := (mkF m 3 #[vr ea, vi 6] [(.ref ea), (.int 6), (.ref ea)])) rfl (by rw [hml]; rfl) rfl (hb hby d31_3) (by decide) (W := 2) (Nat.le_of_eq rfl) (by decide)
  refine gb (mkF m 6 #[vr ea, vi 6] [(.ref we), (.int 6), (.ref ea)]) st1 ?_
  obtain ⟨_, _, ⟨T2, L2, k2, n2⟩, -, X2, ⟨Lc2, hQ2, l2, y2, z2⟩, st2⟩ := callS X1 hx (y := mq19) hown (mvT hZ (hW hw 214 rfl)) (mvT hZ (hW hw 215 rfl)) (mvT hZ (hW hw 206 rfl)) (mvT hZ (hW hw 216 rfl)) (by decide) (backOf (W := 0) (rm326 l Z a0' hw [] ea we kk x0 x1 x2 x3 x4 x5 wa wb wc wd we ka kc G1 h0 n0 O W pf1 pf2 pf3 pf4 pf5 pf6 pf7) hZ (hW hw 216 rfl) (hW hw 206 rfl) (by decide) (by decide)) (g := (mkF m 6 #[vr ea, vi 6] [(.ref we), (.int 6), (.ref ea)])) rfl (by rw [hml]; rfl) (argsL := [(.ref ea), (.int 6), (.ref we)]) (rest := []) (lenOf pd214 rfl) rfl (Nat.le_of_eq rfl) (hb hby d31_6) (fun _ _ => ⟨rfl, e1, (by decide : 0 + 1 ≤ _), (by decide : 0 + 6 ≤ _)⟩)
  dsimp only [Pt.U, Pt.locs, Pt.cells, Pt.slots] at X2 l2 y2 z2 st2 hQ2
  subst l2 y2 z2
  obtain ⟨r_2, kr_2, rfl, N2q, Kc2, fc2_0, fc2_1⟩ := hQ2
  have N2 := Fr.app N0 N2q
  refine gb (mkF m 9 #[vr ea, vi 6] [(.ref r_2)]) st2 ?_
  have K3 := ((Keep.refl h0 []).trans Kc2 all0)
  exact Gl.outA X2 hx hk Bd.returns rfl rfl (hb hby d31_9) ⟨r_2, kr_2, rfl, N2, K3, fc2_0, ⟨fc2_1.1, fc2_1.2⟩⟩ (by decide) (by decide)
theorem ef306 (m : MethodId) (x0 : Addr) : entryFrame m #[(.ref x0)] 1 = mkF m 0 #[.val (.ref x0)] [] := by first | (simp [entryFrame, mkF, argsToLocals, Value.category]; done) | rfl
def Q306 (Z : State) (a0 : Addr) (ea : Addr) (kk : ClassId) (x0 x1 x2 x3 x4 x5 : Addr) (wa wb wc wd we : Addr) (ka kc : ClassId) (G1 : Int32) (h0 : Heap) (n0 : Nat) (v : Option Value) (h : Heap) (L : List Loc) : Prop := ∃ (r : Addr), ∃ (kr : ClassId), v = some (.ref r) ∧ Fr n0 L ∧ Keep h0 h [] ∧ Arv Z h r kr oT (6 : Int32) [(.ref x0), (.ref x1), (.ref x2), (.ref x3), (.ref x4), (.ref x5)] .null ∧ n0 ≤ r ∧ Ovr Z kr "java/lang/Object"
theorem rm306 (l : Launch) (Z : State) (a0' : Array Value) (hw : ∀ d ∈ tables_1, d.before a0' Z = true) (ws : List Jvm.Cond) (a0 : Addr) (ea : Addr) (kk : ClassId) (x0 x1 x2 x3 x4 x5 : Addr) (wa wb wc wd we : Addr) (ka kc : ClassId) (G1 : Int32) (h0 : Heap) (n0 : Nat) (O : Old Z n0 h0) (W : Wd Z wa wb wc wd we ka kc G1) (pf0 : Exa Z h0 a0 sA) (pf1 : Fld Z h0 a0 sA "elementData" sO (.ref ea)) (pf2 : Fld Z h0 a0 sA "size" "I" (.int 6)) (pf3 : Exa Z h0 ea sO) (pf4 : Arv Z h0 ea kk oT (10 : Int32) [(.ref x0), (.ref x1), (.ref x2), (.ref x3), (.ref x4), (.ref x5), .null, .null, .null, .null] .null) (pf5 : Exa Z h0 x0 sI) (pf6 : Exa Z h0 x1 sI) (pf7 : Exa Z h0 x2 sI) (pf8 : Exa Z h0 x3 sI) (pf9 : Exa Z h0 x4 sI) (pf10 : Exa Z h0 x5 sI) :
    MetFree l mq21 (head1 (Jvm.Cond.code mq21 jdk_38_method_16_code 1 (some (.array oT)) :: ws) ({ frames := 3, cells := 1, slots := 6, locals := 46 } : Room)) (fun a U => a = #[(.ref a0)] ∧ Z.Warmed39 U.vm ∧ U.heap = h0) (fun _ _ _ _ _ => True) (fun _ U o U' => ∃ v L, o = .returned v ∧ Q306 Z a0 ea kk x0 x1 x2 x3 x4 x5 wa wb wc wd we ka kc G1 h0 n0 v U'.heap L ∧ FrameEnd U o U' L ({ frames := 3, cells := 1, slots := 6, locals := 46 } : Room).cells ({ frames := 3, cells := 1, slots := 6, locals := 46 } : Room).slots) := by
  refine MetFree.of_bodySF (plainFor_of_name pn0) hisR ?_
  intro p e s m args below meth c s₁ Bd hml0 hP hK
  obtain ⟨rfl, hZ, hh⟩ := hP
  have hx := Bd.exec
  have hby := Bd.bytes
  have hml : c.maxLocals = 1 := hml0
  have hown : s.vm.findClass sA = some m.cls := findClass_of_methodNamed Bd.named
  have hnm := (name_of_methodNamed Bd.named Bd.method).1
  have hk := Bd.notSynchronized
  have X0 : Stand p l e ({ frames := 3, cells := 1, slots := 6, locals := 46 } : Room) s m #[(.ref a0)] below meth c s₁ [] 0 0 := Stand.of_body Bd
  have hh2 := hh
  have e0 : s₁.heap = h0 := by rw [← hh, Bd.state]; rfl
  have N0 := Fr.nil n0
  show Gl p e below (Pos 1 6 (Q306 Z a0 ea kk x0 x1 x2 x3 x4 x5 wa wb wc wd we ka kc G1 h0 n0) s) s₁ _
  refine Gl.cast (ef306 m a0) ?_
  refine gb (mkF m 1 #[vr a0] [(.ref a0)]) (fun _ k => XS.aloadN X0.here hx rfl (hb hby d30_0) rfl rfl k) ?_
  obtain ⟨T1, X1, e1, st1⟩ := getF X0 hx hZ hown (host := "") (Or.inl (hW hw 31 rfl)) Via.refl e0 pf1 (g := (mkF m 1 #[vr a0] [(.ref a0)])) rfl rfl (hb hby d30_1)
  refine gb (mkF m 4 #[vr a0] [(.ref ea)]) st1 ?_
  refine gb (mkF m 5 #[vr a0] [(.ref a0), (.ref ea)]) (fun _ k => XS.aloadN X1.here hx rfl (hb hby d30_4) rfl rfl k) ?_
  obtain ⟨T2, X2, e2, st2⟩ := getF X1 hx hZ hown (host := "") (Or.inl (hW hw 77 rfl)) Via.refl e1 pf2 (g := (mkF m 5 #[vr a0] [(.ref a0), (.ref ea)])) rfl rfl (hb hby d30_5)
  refine gb (mkF m 8 #[vr a0] [(.int 6), (.ref ea)]) st2 ?_
  obtain ⟨_, _, ⟨T3, L3, k3, n3⟩, -, X3, ⟨Lc3, hQ3, l3, y3, z3⟩, st3⟩ := callS X2 hx (y := mq20) hown (mvT hZ (hW hw 204 rfl)) (mvT hZ (hW hw 205 rfl)) (mvT hZ (hW hw 206 rfl)) (mvT hZ (hW hw 207 rfl)) (by decide) (backOf (W := 0) (rm316 l Z a0' hw [] ea kk x0 x1 x2 x3 x4 x5 wa wb wc wd we ka kc G1 h0 n0 O W pf3 pf4 pf5 pf6 pf7 pf8 pf9 pf10) hZ (hW hw 207 rfl) (hW hw 206 rfl) (by decide) (by decide)) (g := (mkF m 8 #[vr a0] [(.int 6), (.ref ea)])) rfl (by rw [hml]; rfl) (argsL := [(.ref ea), (.int 6)]) (rest := []) (lenOf pd221 rfl) rfl (Nat.le_of_eq rfl) (hb hby d30_8) (fun _ _ => ⟨rfl, e2, (by decide : 0 + 1 ≤ _), (by decide : 0 + 6 ≤ _)⟩)
  dsimp only [Pt.U, Pt.locs, Pt.cells, Pt.slots] at X3 l3 y3 z3 st3 hQ3
  subst l3 y3 z3
  obtain ⟨r_3, kr_3, rfl, N3q, Kc3, fc3_0, fc3_1⟩ := hQ3
  have N3 := Fr.app N0 N3q
  refine gb (mkF m 11 #[vr a0] [(.ref r_3)]) st3 ?_
  have K4 := ((Keep.refl h0 []).trans Kc3 all0)
  exact Gl.outA X3 hx hk Bd.returns rfl rfl (hb hby d30_11) ⟨r_3, kr_3, rfl, N3, K4, fc3_0, ⟨fc3_1.1, fc3_1.2⟩⟩ (by decide) (by decide)
theorem ef327 (m : MethodId) (x0 : Addr) (x1 : Int32) (x2 : Addr) : entryFrame m #[(.ref x0), (.int x1), (.ref x2)] 4 = mkF m 0 #[.val (.ref x0), .val (.int x1), .val (.ref x2), .unset] [] := by first | (simp [entryFrame, mkF, argsToLocals, Value.category]; done) | rfl
def Q327 (Z : State) (ea : Addr) (we : Addr) (kk : ClassId) (x0 x1 x2 x3 x4 x5 x6 : Addr) (wa wb wc wd we : Addr) (ka kc : ClassId) (G1 : Int32) (h0 : Heap) (n0 : Nat) (v : Option Value) (h : Heap) (L : List Loc) : Prop := ∃ (r : Addr), ∃ (kr : ClassId), v = some (.ref r) ∧ Fr n0 L ∧ Keep h0 h [] ∧ Arv Z h r kr oT (7 : Int32) [(.ref x0), (.ref x1), (.ref x2), (.ref x3), (.ref x4), (.ref x5), (.ref x6)] .null ∧ n0 ≤ r ∧ Ovr Z kr "java/lang/Object"
theorem rm327 (l : Launch) (Z : State) (a0' : Array Value) (hw : ∀ d ∈ tables_1, d.before a0' Z = true) (ws : List Jvm.Cond) (ea : Addr) (we : Addr) (kk : ClassId) (x0 x1 x2 x3 x4 x5 x6 : Addr) (wa wb wc wd we : Addr) (ka kc : ClassId) (G1 : Int32) (h0 : Heap) (n0 : Nat) (O : Old Z n0 h0) (W : Wd Z wa wb wc wd we ka kc G1) (pf0 : Arv Z h0 ea kk oT (10 : Int32) [(.ref x0), (.ref x1), (.ref x2), (.ref x3), (.ref x4), (.ref x5), (.ref x6), .null, .null, .null] .null) (pf1 : Exa Z h0 x0 sI) (pf2 : Exa Z h0 x1 sI) (pf3 : Exa Z h0 x2 sI) (pf4 : Exa Z h0 x3 sI) (pf5 : Exa Z h0 x4 sI) (pf6 : Exa Z h0 x5 sI) (pf7 : Exa Z h0 x6 sI) :
    MetFree l mq19 (head1 (Jvm.Cond.code mq19 jdk_65_method_120_code 4 (some (.array oT)) :: ws) ({ frames := 1, cells := 1, slots := 7, locals := 18 } : Room)) (fun a U => a = #[(.ref ea), (.int 7), (.ref we)] ∧ Z.Warmed39 U.vm ∧ U.heap = h0) (fun _ _ _ _ _ => True) (fun _ U o U' => ∃ v L, o = .returned v ∧ Q327 Z ea we kk x0 x1 x2 x3 x4 x5 x6 wa wb wc wd we ka kc G1 h0 n0 v U'.heap L ∧ FrameEnd U o U' L ({ frames := 1, cells := 1, slots := 7, locals := 18 } : Room).cells ({ frames := 1, cells := 1, slots := 7, locals := 18 } : Room).slots) := by
  refine MetFree.of_bodySF (plainFor_of_name pn7) hisR ?_
  intro p e s m args below meth c s₁ Bd hml0 hP hK
  obtain ⟨rfl, hZ, hh⟩ := hP
  have hx := Bd.exec
  have hby := Bd.bytes
  have hml : c.maxLocals = 4 := hml0
  have hown : s.vm.findClass "java/util/Arrays" = some m.cls := findClass_of_methodNamed Bd.named
  have hnm := (name_of_methodNamed Bd.named Bd.method).1
  have hk := Bd.notSynchronized
  have X0 : Stand p l e ({ frames := 1, cells := 1, slots := 7, locals := 18 } : Room) s m #[(.ref ea), (.int 7), (.ref we)] below meth c s₁ [] 0 0 := Stand.of_body Bd
  have hh2 := hh
  have e0 : s₁.heap = h0 := by rw [← hh, Bd.state]; rfl
  have N0 := Fr.nil n0
  show Gl p e below (Pos 1 7 (Q327 Z ea we kk x0 x1 x2 x3 x4 x5 x6 wa wb wc wd we ka kc G1 h0 n0) s) s₁ _
  refine Gl.cast (ef327 m ea (7 : Int32) we) ?_
  refine gb (mkF m 1 #[vr ea, vi 7, vr we, .unset] [(.ref we)]) (fun _ k => XS.aloadN X0.here hx rfl (hb hby d32_0) rfl rfl k) ?_
  obtain ⟨T1, X1, e1, st1⟩ := ldcM X0 hx hZ hown (hW hw 217 rfl) W.2.2.2.2.2.2.2.2.1 e0 (g := (mkF m 1 #[vr ea, vi 7, vr we, .unset] [(.ref we)])) rfl (hb hby d32_1)
  refine gb (mkF m 3 #[vr ea, vi 7, vr we, .unset] [(.ref we), (.ref we)]) st1 ?_
  refine gb (mkF m 6 #[vr ea, vi 7, vr we, .unset] []) (fun _ k => Jvm.RoadKit.acmp (g := (mkF m 3 #[vr ea, vi 7, vr we, .unset] [(.ref we), (.ref we)])) X1 hx rfl rfl rfl (pc0 := 3) (pc' := 6) (same := true) rfl (hb hby d32_3) rfl (decide_eq_true (congrArg Value.ref rfl)) (by decide) (by decide) k) ?_
  refine gb (mkF m 7 #[vr ea, vi 7, vr we, .unset] [(.int 7)]) (fun _ k => XS.iloadN X1.here hx rfl (hb hby d32_6) rfl k) ?_
  obtain ⟨T2, h2, k2, X2, e2, E2, A2, Ov2, st2⟩ := newRX X1 hx hZ hown (hW hw 218 rfl) (hW hw 188 rfl) rfl e1 (g := (mkF m 7 #[vr ea, vi 7, vr we, .unset] [(.int 7)])) rfl (hb hby d32_7) rfl (by decide) (cap := 7) (by decide) (by decide) (by decide) (by decide)
  obtain ⟨b2, g2⟩ : ∃ z, z = (h0).size := ⟨_, rfl⟩
  rw [← g2] at A2 st2
  have gb2 : n0 ≤ b2 := Nat.le_trans (Nat.le_trans (Nat.le_of_eq O.1.symm) O.2.1) (Nat.le_of_eq g2.symm)
  have sb2 : h0.size ≤ b2 := Nat.le_trans (Keep.refl h0 []).1 (Nat.le_of_eq g2.symm)
  have ne2_0 : ea ≠ b2 := Nat.ne_of_lt (Nat.lt_of_lt_of_le pf0.lt (Nat.le_of_eq g2.symm))
  have ne2_2 : x0 ≠ b2 := Nat.ne_of_lt (Nat.lt_of_lt_of_le pf1.lt (Nat.le_of_eq g2.symm))
  have ne2_4 : x1 ≠ b2 := Nat.ne_of_lt (Nat.lt_of_lt_of_le pf2.lt (Nat.le_of_eq g2.symm))
  have ne2_6 : x2 ≠ b2 := Nat.ne_of_lt (Nat.lt_of_lt_of_le pf3.lt (Nat.le_of_eq g2.symm))
  have ne2_8 : x3 ≠ b2 := Nat.ne_of_lt (Nat.lt_of_lt_of_le pf4.lt (Nat.le_of_eq g2.symm))
  have ne2_10 : x4 ≠ b2 := Nat.ne_of_lt (Nat.lt_of_lt_of_le pf5.lt (Nat.le_of_eq g2.symm))
  have ne2_12 : x5 ≠ b2 := Nat.ne_of_lt (Nat.lt_of_lt_of_le pf6.lt (Nat.le_of_eq g2.symm))
  have ne2_14 : x6 ≠ b2 := Nat.ne_of_lt (Nat.lt_of_lt_of_le pf7.lt (Nat.le_of_eq g2.symm))
  have ne2_16 : wa ≠ b2 := Nat.ne_of_lt (Nat.lt_of_lt_of_le (Arv.ext W.2.1 O.2).lt (Nat.le_of_eq g2.symm))
  have ne2_18 : wc ≠ b2 := Nat.ne_of_lt (Nat.lt_of_lt_of_le (Arv.ext W.2.2.2.2.2.1 O.2).lt (Nat.le_of_eq g2.symm))
  have ne2_20 : wb ≠ b2 := Nat.ne_of_lt (Nat.lt_of_lt_of_le (Exa.ext O.2 W.2.2.2.1).lt (Nat.le_of_eq g2.symm))
  have ne2_22 : wd ≠ b2 := Nat.ne_of_lt (Nat.lt_of_lt_of_le (Exa.ext O.2 W.2.2.2.2.2.2.2.1).lt (Nat.le_of_eq g2.symm))
  have V2 : Arv Z h2 b2 k2 oT (7 : Int32) [.null, .null, .null, .null, .null, .null, .null] .null := (Arv.new A2 (by decide)).pad (pad_rep [] .null 7)
  rw [← g2] at Ov2
  refine gb (mkF m 10 #[vr ea, vi 7, vr we, .unset] [(.ref b2)]) st2 ?_
  refine gb (mkF m 24 #[vr ea, vi 7, vr we, .unset] [(.ref b2)]) (fun _ k => XS.goto X2.here hx rfl (pc0 := 10) (pc' := 24) rfl (hb hby d32_10) (by decide) (by decide) k) ?_
  refine gb (mkF m 25 #[vr ea, vi 7, vr we, vr b2] []) (fun _ k => XS.astoreN X2.here hx rfl (hb hby d32_24) rfl rfl (l' := #[vr ea, vi 7, vr we, vr b2]) rfl k) ?_
  refine gb (mkF m 26 #[vr ea, vi 7, vr we, vr b2] [(.ref ea)]) (fun _ k => XS.aloadN X2.here hx rfl (hb hby d32_25) rfl rfl k) ?_
  refine gb (mkF m 27 #[vr ea, vi 7, vr we, vr b2] [(.int 0), (.ref ea)]) (fun _ k => XS.iconst X2.here hx rfl (hb hby d32_26) k) ?_
  refine gb (mkF m 28 #[vr ea, vi 7, vr we, vr b2] [(.ref b2), (.int 0), (.ref ea)]) (fun _ k => XS.aloadN X2.here hx rfl (hb hby d32_27) rfl rfl k) ?_
  refine gb (mkF m 29 #[vr ea, vi 7, vr we, vr b2] [(.int 0), (.ref b2), (.int 0), (.ref ea)]) (fun _ k => XS.iconst X2.here hx rfl (hb hby d32_28) k) ?_
  refine gb (mkF m 30 #[vr ea, vi 7, vr we, vr b2] [(.ref ea), (.int 0), (.ref b2), (.int 0), (.ref ea)]) (fun _ k => XS.aloadN X2.here hx rfl (hb hby d32_29) rfl rfl k) ?_
  have f3 := (Arv.ext pf0 E2)
  obtain ⟨cl4, Ar4, qa4, Sa4, Na4, Ha4, Ga4⟩ := id f3
  refine gb (mkF m 31 #[vr ea, vi 7, vr we, vr b2] [(.int 10), (.int 0), (.ref b2), (.int 0), (.ref ea)]) (fun t k => X2.arraylength hx (by rw [e2]; exact Ar4.1) (State.isArrayOf_alike hZ.alike Ar4.2.1) (g := (mkF m 30 #[vr ea, vi 7, vr we, vr b2] [(.ref ea), (.int 0), (.ref b2), (.int 0), (.ref ea)])) rfl rfl (hb hby d32_30) t (by rw [len_of Sa4 Na4]; exact k)) ?_
  refine gb (mkF m 32 #[vr ea, vi 7, vr we, vr b2] [(.int 7), (.int 10), (.int 0), (.ref b2), (.int 0), (.ref ea)]) (fun _ k => XS.iloadN X2.here hx rfl (hb hby d32_31) rfl k) ?_
  have K6 := ((Keep.refl h0 []).ext E2)
  have O7 := (O.ext E2)
  obtain ⟨_, _, ⟨T5, L5, k5, n5⟩, -, X5, ⟨Lc5, hQ5, l5, y5, z5⟩, st5⟩ := callS X2 hx (y := mq18) hown (mvT hZ (hW hw 219 rfl)) (mvT hZ (hW hw 220 rfl)) (mvT hZ (hW hw 185 rfl)) (mvT hZ (hW hw 221 rfl)) (by decide) (backOf (W := 4) (rm33 l Z a0' hw [] (7 : Int32) wa wb wc wd we ka kc G1 h2 n0 O7 W (by decide)) hZ (hW hw 221 rfl) (hW hw 185 rfl) (by decide) (by decide)) (g := (mkF m 32 #[vr ea, vi 7, vr we, vr b2] [(.int 7), (.int 10), (.int 0), (.ref b2), (.int 0), (.ref ea)])) rfl (by rw [hml]; rfl) (argsL := [(.int 10), (.int 7)]) (rest := [(.int 0), (.ref b2), (.int 0), (.ref ea)]) (lenOf pd24 rfl) rfl (Nat.le_of_eq rfl) (hb hby d32_32) (fun _ _ => ⟨rfl, e2, (by decide : 1 + 0 ≤ _), (by decide : 7 + 0 ≤ _)⟩)
  dsimp only [Pt.U, Pt.locs, Pt.cells, Pt.slots] at X5 l5 y5 z5 st5 hQ5
  subst l5 y5 z5
  obtain ⟨rfl, N5q, e5⟩ := hQ5
  have N5 := Fr.app N0 N5q
  refine gb (mkF m 35 #[vr ea, vi 7, vr we, vr b2] [(.int 7), (.int 0), (.ref b2), (.int 0), (.ref ea)]) st5 ?_
  obtain ⟨cl9, Ar9, qa9, Sa9, Na9, Ha9, Ga9⟩ := id V2
  have f10 := (Exa.ext E2 pf7)
  have f11 := (Exa.ext E2 pf6)
  have f12 := (Exa.ext E2 pf5)
  have f13 := (Exa.ext E2 pf4)
  have f14 := (Exa.ext E2 pf3)
  have f15 := (Exa.ext E2 pf2)
  have f16 := (Exa.ext E2 pf1)
  obtain ⟨T8, h8, L8, X8, e8, N8, Kc8, V8', st8⟩ := cpA X5 hx hZ hown (hW hw 222 rfl) (hW hw 225 rfl) (hW hw 223 rfl) (hW hw 224 rfl) e5 f3 V2 (us := [(.ref x0), (.ref x1), (.ref x2), (.ref x3), (.ref x4), (.ref x5), (.ref x6)]) (Or.inr ⟨rfl, rfl, ⟨Sto.ofV Ar9 qa9 Ov2.1 (Ins.of_exa f16 (hW hw 189 rfl)), ⟨Sto.ofV Ar9 qa9 Ov2.1 (Ins.of_exa f15 (hW hw 189 rfl)), ⟨Sto.ofV Ar9 qa9 Ov2.1 (Ins.of_exa f14 (hW hw 189 rfl)), ⟨Sto.ofV Ar9 qa9 Ov2.1 (Ins.of_exa f13 (hW hw 189 rfl)), ⟨Sto.ofV Ar9 qa9 Ov2.1 (Ins.of_exa f12 (hW hw 189 rfl)), ⟨Sto.ofV Ar9 qa9 Ov2.1 (Ins.of_exa f11 (hW hw 189 rfl)), ⟨Sto.ofV Ar9 qa9 Ov2.1 (Ins.of_exa f10 (hW hw 189 rfl)), trivial⟩⟩⟩⟩⟩⟩⟩⟩) (by decide) (by decide) (by decide) (by decide) (by decide) rfl (by decide) N5 gb2 (g := (mkF m 35 #[vr ea, vi 7, vr we, vr b2] [(.int 7), (.int 0), (.ref b2), (.int 0), (.ref ea)])) rfl (by rw [hml]; rfl) rfl (hb hby d32_35) (by decide) (W := 0) (Nat.le_of_eq rfl) (by decide)
  have V8 : Arv Z h8 b2 k2 oT (7 : Int32) [(.ref x0), (.ref x1), (.ref x2), (.ref x3), (.ref x4), (.ref x5), (.ref x6)] .null := V8'
  refine gb (mkF m 38 #[vr ea, vi 7, vr we, vr b2] []) st8 ?_
  refine gb (mkF m 39 #[vr ea, vi 7, vr we, vr b2] [(.ref b2)]) (fun _ k => XS.aloadN X8.here hx rfl (hb hby d32_38) rfl rfl k) ?_
  have K17 := (K6.trans Kc8 (allS (Or.inr sb2) all0))
  exact Gl.outA X8 hx hk Bd.returns rfl rfl (hb hby d32_39) (Eq.mpr (congrArg (fun hh => Q327 Z ea we kk x0 x1 x2 x3 x4 x5 x6 wa wb wc wd we ka kc G1 h0 n0 _ hh _) e8) (show Q327 Z ea we kk x0 x1 x2 x3 x4 x5 x6 wa wb wc wd we ka kc G1 h0 n0 _ h8 _ from ⟨b2, k2, rfl, N8, K17, V8, ⟨gb2, Ov2.1⟩⟩)) (by decide) (by decide)
theorem ef317 (m : MethodId) (x0 : Addr) (x1 : Int32) : entryFrame m #[(.ref x0), (.int x1)] 2 = mkF m 0 #[.val (.ref x0), .val (.int x1)] [] := by first | (simp [entryFrame, mkF, argsToLocals, Value.category]; done) | rfl
def Q317 (Z : State) (ea : Addr) (kk : ClassId) (x0 x1 x2 x3 x4 x5 x6 : Addr) (wa wb wc wd we : Addr) (ka kc : ClassId) (G1 : Int32) (h0 : Heap) (n0 : Nat) (v : Option Value) (h : Heap) (L : List Loc) : Prop := ∃ (r : Addr), ∃ (kr : ClassId), v = some (.ref r) ∧ Fr n0 L ∧ Keep h0 h [] ∧ Arv Z h r kr oT (7 : Int32) [(.ref x0), (.ref x1), (.ref x2), (.ref x3), (.ref x4), (.ref x5), (.ref x6)] .null ∧ n0 ≤ r ∧ Ovr Z kr "java/lang/Object"
theorem rm317 (l : Launch) (Z : State) (a0' : Array Value) (hw : ∀ d ∈ tables_1, d.before a0' Z = true) (ws : List Jvm.Cond) (ea : Addr) (kk : ClassId) (x0 x1 x2 x3 x4 x5 x6 : Addr) (wa wb wc wd we : Addr) (ka kc : ClassId) (G1 : Int32) (h0 : Heap) (n0 : Nat) (O : Old Z n0 h0) (W : Wd Z wa wb wc wd we ka kc G1) (pf0 : Exa Z h0 ea sO) (pf1 : Arv Z h0 ea kk oT (10 : Int32) [(.ref x0), (.ref x1), (.ref x2), (.ref x3), (.ref x4), (.ref x5), (.ref x6), .null, .null, .null] .null) (pf2 : Exa Z h0 x0 sI) (pf3 : Exa Z h0 x1 sI) (pf4 : Exa Z h0 x2 sI) (pf5 : Exa Z h0 x3 sI) (pf6 : Exa Z h0 x4 sI) (pf7 : Exa Z h0 x5 sI) (pf8 : Exa Z h0 x6 sI) :
    MetFree l mq20 (head1 (Jvm.Cond.code mq20 jdk_65_method_119_code 2 (some (.array oT)) :: ws) ({ frames := 2, cells := 1, slots := 7, locals := 33 } : Room)) (fun a U => a = #[(.ref ea), (.int 7)] ∧ Z.Warmed39 U.vm ∧ U.heap = h0) (fun _ _ _ _ _ => True) (fun _ U o U' => ∃ v L, o = .returned v ∧ Q317 Z ea kk x0 x1 x2 x3 x4 x5 x6 wa wb wc wd we ka kc G1 h0 n0 v U'.heap L ∧ FrameEnd U o U' L ({ frames := 2, cells := 1, slots := 7, locals := 33 } : Room).cells ({ frames := 2, cells := 1, slots := 7, locals := 33 } : Room).slots) := by
  refine MetFree.of_bodySF (plainFor_of_name pn7) hisR ?_
  intro p e s m args below meth c s₁ Bd hml0 hP hK
  obtain ⟨rfl, hZ, hh⟩ := hP
  have hx := Bd.exec
  have hby := Bd.bytes
  have hml : c.maxLocals = 2 := hml0
  have hown : s.vm.findClass "java/util/Arrays" = some m.cls := findClass_of_methodNamed Bd.named
  have hnm := (name_of_methodNamed Bd.named Bd.method).1
  have hk := Bd.notSynchronized
  have X0 : Stand p l e ({ frames := 2, cells := 1, slots := 7, locals := 33 } : Room) s m #[(.ref ea), (.int 7)] below meth c s₁ [] 0 0 := Stand.of_body Bd
  have hh2 := hh
  have e0 : s₁.heap = h0 := by rw [← hh, Bd.state]; rfl
  have N0 := Fr.nil n0
  show Gl p e below (Pos 1 7 (Q317 Z ea kk x0 x1 x2 x3 x4 x5 x6 wa wb wc wd we ka kc G1 h0 n0) s) s₁ _
  refine Gl.cast (ef317 m ea (7 : Int32)) ?_
  refine gb (mkF m 1 #[vr ea, vi 7] [(.ref ea)]) (fun _ k => XS.aloadN X0.here hx rfl (hb hby d31_0) rfl rfl k) ?_
  refine gb (mkF m 2 #[vr ea, vi 7] [(.int 7), (.ref ea)]) (fun _ k => XS.iloadN X0.here hx rfl (hb hby d31_1) rfl k) ?_
  refine gb (mkF m 3 #[vr ea, vi 7] [(.ref ea), (.int 7), (.ref ea)]) (fun _ k => XS.aloadN X0.here hx rfl (hb hby d31_2) rfl rfl k) ?_
  obtain ⟨T1, X1, e1, st1⟩ := gcls X0 hx hZ hown (hW hw 208 rfl) (hW hw 209 rfl) (hW hw 66 rfl) (hW hw 211 rfl) (hW hw 210 rfl) (hW hw 212 rfl) e0 pf0 W.2.2.2.2.2.2.2.2.1 (g := (mkF m 3 #[vr ea, vi 7] [(.ref ea), (.int 7), (.ref ea)])) rfl (by rw [hml]; rfl) rfl (hb hby d31_3) (by decide) (W := 2) (Nat.le_of_eq rfl) (by decide)
  refine gb (mkF m 6 #[vr ea, vi 7] [(.ref we), (.int 7), (.ref ea)]) st1 ?_
  obtain ⟨_, _, ⟨T2, L2, k2, n2⟩, -, X2, ⟨Lc2, hQ2, l2, y2, z2⟩, st2⟩ := callS X1 hx (y := mq19) hown (mvT hZ (hW hw 214 rfl)) (mvT hZ (hW hw 215 rfl)) (mvT hZ (hW hw 206 rfl)) (mvT hZ (hW hw 216 rfl)) (by decide) (backOf (W := 0) (rm327 l Z a0' hw [] ea we kk x0 x1 x2 x3 x4 x5 x6 wa wb wc wd we ka kc G1 h0 n0 O W pf1 pf2 pf3 pf4 pf5 pf6 pf7 pf8) hZ (hW hw 216 rfl) (hW hw 206 rfl) (by decide) (by decide)) (g := (mkF m 6 #[vr ea, vi 7] [(.ref we), (.int 7), (.ref ea)])) rfl (by rw [hml]; rfl) (argsL := [(.ref ea), (.int 7), (.ref we)]) (rest := []) (lenOf pd214 rfl) rfl (Nat.le_of_eq rfl) (hb hby d31_6) (fun _ _ => ⟨rfl, e1, (by decide : 0 + 1 ≤ _), (by decide : 0 + 7 ≤ _)⟩)
  dsimp only [Pt.U, Pt.locs, Pt.cells, Pt.slots] at X2 l2 y2 z2 st2 hQ2
  subst l2 y2 z2
  obtain ⟨r_2, kr_2, rfl, N2q, Kc2, fc2_0, fc2_1⟩ := hQ2
  have N2 := Fr.app N0 N2q
  refine gb (mkF m 9 #[vr ea, vi 7] [(.ref r_2)]) st2 ?_
  have K3 := ((Keep.refl h0 []).trans Kc2 all0)
  exact Gl.outA X2 hx hk Bd.returns rfl rfl (hb hby d31_9) ⟨r_2, kr_2, rfl, N2, K3, fc2_0, ⟨fc2_1.1, fc2_1.2⟩⟩ (by decide) (by decide)
theorem ef307 (m : MethodId) (x0 : Addr) : entryFrame m #[(.ref x0)] 1 = mkF m 0 #[.val (.ref x0)] [] := by first | (simp [entryFrame, mkF, argsToLocals, Value.category]; done) | rfl
def Q307 (Z : State) (a0 : Addr) (ea : Addr) (kk : ClassId) (x0 x1 x2 x3 x4 x5 x6 : Addr) (wa wb wc wd we : Addr) (ka kc : ClassId) (G1 : Int32) (h0 : Heap) (n0 : Nat) (v : Option Value) (h : Heap) (L : List Loc) : Prop := ∃ (r : Addr), ∃ (kr : ClassId), v = some (.ref r) ∧ Fr n0 L ∧ Keep h0 h [] ∧ Arv Z h r kr oT (7 : Int32) [(.ref x0), (.ref x1), (.ref x2), (.ref x3), (.ref x4), (.ref x5), (.ref x6)] .null ∧ n0 ≤ r ∧ Ovr Z kr "java/lang/Object"
theorem rm307 (l : Launch) (Z : State) (a0' : Array Value) (hw : ∀ d ∈ tables_1, d.before a0' Z = true) (ws : List Jvm.Cond) (a0 : Addr) (ea : Addr) (kk : ClassId) (x0 x1 x2 x3 x4 x5 x6 : Addr) (wa wb wc wd we : Addr) (ka kc : ClassId) (G1 : Int32) (h0 : Heap) (n0 : Nat) (O : Old Z n0 h0) (W : Wd Z wa wb wc wd we ka kc G1) (pf0 : Exa Z h0 a0 sA) (pf1 : Fld Z h0 a0 sA "elementData" sO (.ref ea)) (pf2 : Fld Z h0 a0 sA "size" "I" (.int 7)) (pf3 : Exa Z h0 ea sO) (pf4 : Arv Z h0 ea kk oT (10 : Int32) [(.ref x0), (.ref x1), (.ref x2), (.ref x3), (.ref x4), (.ref x5), (.ref x6), .null, .null, .null] .null) (pf5 : Exa Z h0 x0 sI) (pf6 : Exa Z h0 x1 sI) (pf7 : Exa Z h0 x2 sI) (pf8 : Exa Z h0 x3 sI) (pf9 : Exa Z h0 x4 sI) (pf10 : Exa Z h0 x5 sI) (pf11 : Exa Z h0 x6 sI) :
    MetFree l mq21 (head1 (Jvm.Cond.code mq21 jdk_38_method_16_code 1 (some (.array oT)) :: ws) ({ frames := 3, cells := 1, slots := 7, locals := 46 } : Room)) (fun a U => a = #[(.ref a0)] ∧ Z.Warmed39 U.vm ∧ U.heap = h0) (fun _ _ _ _ _ => True) (fun _ U o U' => ∃ v L, o = .returned v ∧ Q307 Z a0 ea kk x0 x1 x2 x3 x4 x5 x6 wa wb wc wd we ka kc G1 h0 n0 v U'.heap L ∧ FrameEnd U o U' L ({ frames := 3, cells := 1, slots := 7, locals := 46 } : Room).cells ({ frames := 3, cells := 1, slots := 7, locals := 46 } : Room).slots) := by
  refine MetFree.of_bodySF (plainFor_of_name pn0) hisR ?_
  intro p e s m args below meth c s₁ Bd hml0 hP hK
  obtain ⟨rfl, hZ, hh⟩ := hP
  have hx := Bd.exec
  have hby := Bd.bytes
  have hml : c.maxLocals = 1 := hml0
  have hown : s.vm.findClass sA = some m.cls := findClass_of_methodNamed Bd.named
  have hnm := (name_of_methodNamed Bd.named Bd.method).1
  have hk := Bd.notSynchronized
  have X0 : Stand p l e ({ frames := 3, cells := 1, slots := 7, locals := 46 } : Room) s m #[(.ref a0)] below meth c s₁ [] 0 0 := Stand.of_body Bd
  have hh2 := hh
  have e0 : s₁.heap = h0 := by rw [← hh, Bd.state]; rfl
  have N0 := Fr.nil n0
  show Gl p e below (Pos 1 7 (Q307 Z a0 ea kk x0 x1 x2 x3 x4 x5 x6 wa wb wc wd we ka kc G1 h0 n0) s) s₁ _
  refine Gl.cast (ef307 m a0) ?_
  refine gb (mkF m 1 #[vr a0] [(.ref a0)]) (fun _ k => XS.aloadN X0.here hx rfl (hb hby d30_0) rfl rfl k) ?_
  obtain ⟨T1, X1, e1, st1⟩ := getF X0 hx hZ hown (host := "") (Or.inl (hW hw 31 rfl)) Via.refl e0 pf1 (g := (mkF m 1 #[vr a0] [(.ref a0)])) rfl rfl (hb hby d30_1)
  refine gb (mkF m 4 #[vr a0] [(.ref ea)]) st1 ?_
  refine gb (mkF m 5 #[vr a0] [(.ref a0), (.ref ea)]) (fun _ k => XS.aloadN X1.here hx rfl (hb hby d30_4) rfl rfl k) ?_
  obtain ⟨T2, X2, e2, st2⟩ := getF X1 hx hZ hown (host := "") (Or.inl (hW hw 77 rfl)) Via.refl e1 pf2 (g := (mkF m 5 #[vr a0] [(.ref a0), (.ref ea)])) rfl rfl (hb hby d30_5)
  refine gb (mkF m 8 #[vr a0] [(.int 7), (.ref ea)]) st2 ?_
  obtain ⟨_, _, ⟨T3, L3, k3, n3⟩, -, X3, ⟨Lc3, hQ3, l3, y3, z3⟩, st3⟩ := callS X2 hx (y := mq20) hown (mvT hZ (hW hw 204 rfl)) (mvT hZ (hW hw 205 rfl)) (mvT hZ (hW hw 206 rfl)) (mvT hZ (hW hw 207 rfl)) (by decide) (backOf (W := 0) (rm317 l Z a0' hw [] ea kk x0 x1 x2 x3 x4 x5 x6 wa wb wc wd we ka kc G1 h0 n0 O W pf3 pf4 pf5 pf6 pf7 pf8 pf9 pf10 pf11) hZ (hW hw 207 rfl) (hW hw 206 rfl) (by decide) (by decide)) (g := (mkF m 8 #[vr a0] [(.int 7), (.ref ea)])) rfl (by rw [hml]; rfl) (argsL := [(.ref ea), (.int 7)]) (rest := []) (lenOf pd221 rfl) rfl (Nat.le_of_eq rfl) (hb hby d30_8) (fun _ _ => ⟨rfl, e2, (by decide : 0 + 1 ≤ _), (by decide : 0 + 7 ≤ _)⟩)
  dsimp only [Pt.U, Pt.locs, Pt.cells, Pt.slots] at X3 l3 y3 z3 st3 hQ3
  subst l3 y3 z3
  obtain ⟨r_3, kr_3, rfl, N3q, Kc3, fc3_0, fc3_1⟩ := hQ3
  have N3 := Fr.app N0 N3q
  refine gb (mkF m 11 #[vr a0] [(.ref r_3)]) st3 ?_
  have K4 := ((Keep.refl h0 []).trans Kc3 all0)
  exact Gl.outA X3 hx hk Bd.returns rfl rfl (hb hby d30_11) ⟨r_3, kr_3, rfl, N3, K4, fc3_0, ⟨fc3_1.1, fc3_1.2⟩⟩ (by decide) (by decide)
theorem d5_0 : decode jdk_22_method_1_code 0 = .ok (.aload_n 0, 1) := by decide +kernel
theorem d5_1 : decode jdk_22_method_1_code 1 = .ok (.invokespecial 1, 3) := by decide +kernel
theorem d5_4 : decode jdk_22_method_1_code 4 = .ok (.return_, 1) := by decide +kernel
theorem pn8 : plainName "java/util/AbstractCollection" = true := by first | (simp [plainName, overriddenIn]; done) | decide +kernel
theorem ef5 (m : MethodId) (x0 : Addr) : entryFrame m #[(.ref x0)] 1 = mkF m 0 #[.val (.ref x0)] [] := by first | (simp [entryFrame, mkF, argsToLocals, Value.category]; done) | rfl
def Q5 (Z : State) (a0 : Addr) (wa wb wc wd we : Addr) (ka kc : ClassId) (G1 : Int32) (h0 : Heap) (n0 : Nat) (v : Option Value) (h : Heap) (L : List Loc) : Prop := v = none ∧ Fr n0 L ∧ h = h0
theorem rm5 (l : Launch) (Z : State) (a0' : Array Value) (hw : ∀ d ∈ tables_1, d.before a0' Z = true) (ws : List Jvm.Cond) (a0 : Addr) (wa wb wc wd we : Addr) (ka kc : ClassId) (G1 : Int32) (h0 : Heap) (n0 : Nat) (O : Old Z n0 h0) (W : Wd Z wa wb wc wd we ka kc G1) :
    MetFree l mq22 (head1 (Jvm.Cond.code mq22 jdk_22_method_1_code 1 none :: ws) ({ frames := 1, cells := 0, slots := 0, locals := 12 } : Room)) (fun a U => a = #[(.ref a0)] ∧ Z.Warmed39 U.vm ∧ U.heap = h0) (fun _ _ _ _ _ => True) (fun _ U o U' => ∃ v L, o = .returned v ∧ Q5 Z a0 wa wb wc wd we ka kc G1 h0 n0 v U'.heap L ∧ FrameEnd U o U' L ({ frames := 1, cells := 0, slots := 0, locals := 12 } : Room).cells ({ frames := 1, cells := 0, slots := 0, locals := 12 } : Room).slots) := by
  refine MetFree.of_bodySF (plainFor_of_name pn8) hisR ?_
  intro p e s m args below meth c s₁ Bd hml0 hP hK
  obtain ⟨rfl, hZ, hh⟩ := hP
  have hx := Bd.exec
  have hby := Bd.bytes
  have hml : c.maxLocals = 1 := hml0
  have hown : s.vm.findClass "java/util/AbstractCollection" = some m.cls := findClass_of_methodNamed Bd.named
  have hnm := (name_of_methodNamed Bd.named Bd.method).1
  have hk := Bd.notSynchronized
  have X0 : Stand p l e ({ frames := 1, cells := 0, slots := 0, locals := 12 } : Room) s m #[(.ref a0)] below meth c s₁ [] 0 0 := Stand.of_body Bd
  have hh2 := hh
  have e0 : s₁.heap = h0 := by rw [← hh, Bd.state]; rfl
  have N0 := Fr.nil n0
  show Gl p e below (Pos 0 0 (Q5 Z a0 wa wb wc wd we ka kc G1 h0 n0) s) s₁ _
  refine Gl.cast (ef5 m a0) ?_
  refine gb (mkF m 1 #[vr a0] [(.ref a0)]) (fun _ k => XS.aloadN X0.here hx rfl (hb hby d5_0) rfl rfl k) ?_
  obtain ⟨T1, X1, e1, st1⟩ := initO X0 hx hZ hown (hW hw 27 rfl) (hW hw 7 rfl) (hW hw 8 rfl) e0 (g := (mkF m 1 #[vr a0] [(.ref a0)])) rfl (by rw [hml]; rfl) rfl (hb hby d5_1) (by decide) (W := 0) (Nat.le_of_eq rfl) (by decide)
  refine gb (mkF m 4 #[vr a0] []) st1 ?_
  exact Gl.outV X1 hx hk Bd.returns (hb hby d5_4) ⟨rfl, N0, e1⟩ (by decide) (by decide)
theorem d4_0 : decode jdk_39_method_1_code 0 = .ok (.aload_n 0, 1) := by decide +kernel
theorem d4_1 : decode jdk_39_method_1_code 1 = .ok (.invokespecial 1, 3) := by decide +kernel
theorem d4_4 : decode jdk_39_method_1_code 4 = .ok (.aload_n 0, 1) := by decide +kernel
theorem d4_5 : decode jdk_39_method_1_code 5 = .ok (.iconst 0, 1) := by decide +kernel
theorem d4_6 : decode jdk_39_method_1_code 6 = .ok (.putfield 7, 3) := by decide +kernel
theorem d4_9 : decode jdk_39_method_1_code 9 = .ok (.return_, 1) := by decide +kernel
theorem pn9 : plainName "java/util/AbstractList" = true := by first | (simp [plainName, overriddenIn]; done) | decide +kernel
theorem ef4 (m : MethodId) (x0 : Addr) : entryFrame m #[(.ref x0)] 1 = mkF m 0 #[.val (.ref x0)] [] := by first | (simp [entryFrame, mkF, argsToLocals, Value.category]; done) | rfl
def Q4 (Z : State) (a0 : Addr) (wa wb wc wd we : Addr) (ka kc : ClassId) (G1 : Int32) (h0 : Heap) (n0 : Nat) (v : Option Value) (h : Heap) (L : List Loc) : Prop := v = none ∧ Fr n0 L ∧ Keep h0 h [a0] ∧ Fld Z h a0 "java/util/AbstractList" "modCount" "I" (.int 0) ∧ Fld Z h a0 sA "size" "I" (.int 0) ∧ Fld Z h a0 sA "elementData" sO .null
theorem rm4 (l : Launch) (Z : State) (a0' : Array Value) (hw : ∀ d ∈ tables_1, d.before a0' Z = true) (ws : List Jvm.Cond) (a0 : Addr) (wa wb wc wd we : Addr) (ka kc : ClassId) (G1 : Int32) (h0 : Heap) (n0 : Nat) (O : Old Z n0 h0) (W : Wd Z wa wb wc wd we ka kc G1) (pf0 : Exa Z h0 a0 sA) (pf1 : Fld Z h0 a0 "java/util/AbstractList" "modCount" "I" (.int 0)) (pf2 : Fld Z h0 a0 sA "size" "I" (.int 0)) (pf3 : Fld Z h0 a0 sA "elementData" sO .null) (gp_a0 : n0 ≤ a0) :
    MetFree l mq23 (head1 (Jvm.Cond.code mq23 jdk_39_method_1_code 1 none :: ws) ({ frames := 2, cells := 0, slots := 0, locals := 24 } : Room)) (fun a U => a = #[(.ref a0)] ∧ Z.Warmed39 U.vm ∧ U.heap = h0) (fun _ _ _ _ _ => True) (fun _ U o U' => ∃ v L, o = .returned v ∧ Q4 Z a0 wa wb wc wd we ka kc G1 h0 n0 v U'.heap L ∧ FrameEnd U o U' L ({ frames := 2, cells := 0, slots := 0, locals := 24 } : Room).cells ({ frames := 2, cells := 0, slots := 0, locals := 24 } : Room).slots) := by
  refine MetFree.of_bodySF (plainFor_of_name pn9) hisR ?_
  intro p e s m args below meth c s₁ Bd hml0 hP hK
  obtain ⟨rfl, hZ, hh⟩ := hP
  have hx := Bd.exec
  have hby := Bd.bytes
  have hml : c.maxLocals = 1 := hml0
  have hown : s.vm.findClass "java/util/AbstractList" = some m.cls := findClass_of_methodNamed Bd.named
  have hnm := (name_of_methodNamed Bd.named Bd.method).1
  have hk := Bd.notSynchronized
  have X0 : Stand p l e ({ frames := 2, cells := 0, slots := 0, locals := 24 } : Room) s m #[(.ref a0)] below meth c s₁ [] 0 0 := Stand.of_body Bd
  have hh2 := hh
  have e0 : s₁.heap = h0 := by rw [← hh, Bd.state]; rfl
  have N0 := Fr.nil n0
  show Gl p e below (Pos 0 0 (Q4 Z a0 wa wb wc wd we ka kc G1 h0 n0) s) s₁ _
  refine Gl.cast (ef4 m a0) ?_
  refine gb (mkF m 1 #[vr a0] [(.ref a0)]) (fun _ k => XS.aloadN X0.here hx rfl (hb hby d4_0) rfl rfl k) ?_
  obtain ⟨_, _, ⟨T1, L1, k1, n1⟩, -, X1, ⟨Lc1, hQ1, l1, y1, z1⟩, st1⟩ := X0.specialBack hx (y := mq22) rfl hown (mvT hZ (hW hw 21 rfl)) (mvT hZ (hW hw 22 rfl)) (mvT hZ (hW hw 26 rfl)) (by decide) (backOf (W := 0) (rm5 l Z a0' hw [] a0 wa wb wc wd we ka kc G1 h0 n0 O W ) hZ (hW hw 26 rfl) (hW hw 25 rfl) (by decide) (by decide)) (g := (mkF m 1 #[vr a0] [(.ref a0)])) rfl (by rw [hml]; rfl) (Steps.refl _) (a := a0) (argsL := []) (rest := []) (lenOf pd73 rfl) rfl (Nat.le_of_eq rfl) (hb hby d4_1) (fun _ _ => ⟨rfl, e0, (by decide : 0 + 0 ≤ _), (by decide : 0 + 0 ≤ _)⟩)
  dsimp only [Pt.U, Pt.locs, Pt.cells, Pt.slots] at X1 l1 y1 z1 st1 hQ1
  subst l1 y1 z1
  obtain ⟨rfl, N1q, e1⟩ := hQ1
  have N1 := Fr.app N0 N1q
  refine gb (mkF m 4 #[vr a0] []) (fun _ k => st1.trans k) ?_
  refine gb (mkF m 5 #[vr a0] [(.ref a0)]) (fun _ k => XS.aloadN X1.here hx rfl (hb hby d4_4) rfl rfl k) ?_
  refine gb (mkF m 6 #[vr a0] [(.int 0), (.ref a0)]) (fun _ k => XS.iconst X1.here hx rfl (hb hby d4_5) k) ?_
  obtain ⟨T2, h2, X2, e2, W2, st2⟩ := putF X1 hx hZ hown (host := "") (Or.inl (hW hw 28 rfl)) Via.refl e1 pf1 pf0 (Or.inl (hW hw 29 rfl)) (hW hw 10 rfl) (ty := .int) (by decide) rfl rfl (g := (mkF m 6 #[vr a0] [(.int 0), (.ref a0)])) rfl rfl (hb hby d4_6)
  have N2 := Fr.snoc X2 N1 gp_a0
  have Fw2 := Fld.same W2 pf1
  refine gb (mkF m 9 #[vr a0] []) st2 ?_
  have K3 := ((Keep.refl h0 [a0]).wr W2 (Or.inl (List.mem_of_getElem? (i := 0) rfl)))
  have f4 := (Fld.other W2 pf2 (Or.inr (slot_ne (Or.inl (hW hw 78 rfl)) (Or.inl (hW hw 29 rfl)) (by decide) (t := .int) (t' := .int) (by decide) (by decide))))
  have f5 := (Fld.other W2 pf3 (Or.inr (slot_ne (Or.inl (hW hw 32 rfl)) (Or.inl (hW hw 29 rfl)) (by decide) (t := (.array oT)) (t' := .int) (by decide) (by decide))))
  exact Gl.outV X2 hx hk Bd.returns (hb hby d4_9) (Eq.mpr (congrArg (fun hh => Q4 Z a0 wa wb wc wd we ka kc G1 h0 n0 _ hh _) e2) (show Q4 Z a0 wa wb wc wd we ka kc G1 h0 n0 _ h2 _ from ⟨rfl, N2, K3, Fw2, f4, f5⟩)) (by decide) (by decide)
theorem d3_0 : decode jdk_38_method_2_code 0 = .ok (.aload_n 0, 1) := by decide +kernel
theorem d3_1 : decode jdk_38_method_2_code 1 = .ok (.invokespecial 1, 3) := by decide +kernel
theorem d3_4 : decode jdk_38_method_2_code 4 = .ok (.aload_n 0, 1) := by decide +kernel
theorem d3_5 : decode jdk_38_method_2_code 5 = .ok (.getstatic 39, 3) := by decide +kernel
theorem d3_8 : decode jdk_38_method_2_code 8 = .ok (.putfield 9, 3) := by decide +kernel
theorem d3_11 : decode jdk_38_method_2_code 11 = .ok (.return_, 1) := by decide +kernel
theorem ef3 (m : MethodId) (x0 : Addr) : entryFrame m #[(.ref x0)] 1 = mkF m 0 #[.val (.ref x0)] [] := by first | (simp [entryFrame, mkF, argsToLocals, Value.category]; done) | rfl
def Q3 (Z : State) (a0 : Addr) (wa wb wc wd we : Addr) (ka kc : ClassId) (G1 : Int32) (h0 : Heap) (n0 : Nat) (v : Option Value) (h : Heap) (L : List Loc) : Prop := v = none ∧ Fr n0 L ∧ Keep h0 h [a0] ∧ Fld Z h a0 "java/util/AbstractList" "modCount" "I" (.int 0) ∧ Fld Z h a0 sA "size" "I" (.int 0) ∧ Fld Z h a0 sA "elementData" sO (.ref wa)
theorem rm3 (l : Launch) (Z : State) (a0' : Array Value) (hw : ∀ d ∈ tables_1, d.before a0' Z = true) (ws : List Jvm.Cond) (a0 : Addr) (wa wb wc wd we : Addr) (ka kc : ClassId) (G1 : Int32) (h0 : Heap) (n0 : Nat) (O : Old Z n0 h0) (W : Wd Z wa wb wc wd we ka kc G1) (pf0 : Exa Z h0 a0 sA) (pf1 : Fld Z h0 a0 "java/util/AbstractList" "modCount" "I" (.int 0)) (pf2 : Fld Z h0 a0 sA "size" "I" (.int 0)) (pf3 : Fld Z h0 a0 sA "elementData" sO .null) (gp_a0 : n0 ≤ a0) :
    MetFree l mq24 (head1 (Jvm.Cond.code mq24 jdk_38_method_2_code 1 none :: ws) ({ frames := 3, cells := 0, slots := 0, locals := 36 } : Room)) (fun a U => a = #[(.ref a0)] ∧ Z.Warmed39 U.vm ∧ U.heap = h0) (fun _ _ _ _ _ => True) (fun _ U o U' => ∃ v L, o = .returned v ∧ Q3 Z a0 wa wb wc wd we ka kc G1 h0 n0 v U'.heap L ∧ FrameEnd U o U' L ({ frames := 3, cells := 0, slots := 0, locals := 36 } : Room).cells ({ frames := 3, cells := 0, slots := 0, locals := 36 } : Room).slots) := by
  refine MetFree.of_bodySF (plainFor_of_name pn0) hisR ?_
  intro p e s m args below meth c s₁ Bd hml0 hP hK
  obtain ⟨rfl, hZ, hh⟩ := hP
  have hx := Bd.exec
  have hby := Bd.bytes
  have hml : c.maxLocals = 1 := hml0
  have hown : s.vm.findClass sA = some m.cls := findClass_of_methodNamed Bd.named
  have hnm := (name_of_methodNamed Bd.named Bd.method).1
  have hk := Bd.notSynchronized
  have X0 : Stand p l e ({ frames := 3, cells := 0, slots := 0, locals := 36 } : Room) s m #[(.ref a0)] below meth c s₁ [] 0 0 := Stand.of_body Bd
  have hh2 := hh
  have e0 : s₁.heap = h0 := by rw [← hh, Bd.state]; rfl
  have N0 := Fr.nil n0
  show Gl p e below (Pos 0 0 (Q3 Z a0 wa wb wc wd we ka kc G1 h0 n0) s) s₁ _
  refine Gl.cast (ef3 m a0) ?_
  refine gb (mkF m 1 #[vr a0] [(.ref a0)]) (fun _ k => XS.aloadN X0.here hx rfl (hb hby d3_0) rfl rfl k) ?_
  obtain ⟨_, _, ⟨T1, L1, k1, n1⟩, -, X1, ⟨Lc1, hQ1, l1, y1, z1⟩, st1⟩ := X0.specialBack hx (y := mq23) rfl hown (mvT hZ (hW hw 15 rfl)) (mvT hZ (hW hw 16 rfl)) (mvT hZ (hW hw 20 rfl)) (by decide) (backOf (W := 0) (rm4 l Z a0' hw [] a0 wa wb wc wd we ka kc G1 h0 n0 O W pf0 pf1 pf2 pf3 gp_a0) hZ (hW hw 20 rfl) (hW hw 19 rfl) (by decide) (by decide)) (g := (mkF m 1 #[vr a0] [(.ref a0)])) rfl (by rw [hml]; rfl) (Steps.refl _) (a := a0) (argsL := []) (rest := []) (lenOf pd73 rfl) rfl (Nat.le_of_eq rfl) (hb hby d3_1) (fun _ _ => ⟨rfl, e0, (by decide : 0 + 0 ≤ _), (by decide : 0 + 0 ≤ _)⟩)
  dsimp only [Pt.U, Pt.locs, Pt.cells, Pt.slots] at X1 l1 y1 z1 st1 hQ1
  subst l1 y1 z1
  obtain ⟨rfl, N1q, Kc1, fc1_0, fc1_1, fc1_2⟩ := hQ1
  have N1 := Fr.app N0 N1q
  refine gb (mkF m 4 #[vr a0] []) (fun _ k => st1.trans k) ?_
  refine gb (mkF m 5 #[vr a0] [(.ref a0)]) (fun _ k => XS.aloadN X1.here hx rfl (hb hby d3_4) rfl rfl k) ?_
  have O3 := (O.keep Kc1 (allS gp_a0 all0))
  obtain ⟨T2, X2, e2, st2⟩ := getS2 X1 hx hZ hown (host := "") (Or.inl (hW hw 30 rfl)) Via.refl rfl (Sta.ext O3.2 W.1) (g := (mkF m 5 #[vr a0] [(.ref a0)])) rfl (hb hby d3_5)
  refine gb (mkF m 8 #[vr a0] [(.ref wa), (.ref a0)]) st2 ?_
  have f4 := (Exa.keep pf0 Kc1)
  obtain ⟨T5, h5, X5, e5, W5, st5⟩ := putF X2 hx hZ hown (host := "") (Or.inl (hW hw 31 rfl)) Via.refl e2 fc1_2 f4 (Or.inl (hW hw 32 rfl)) (hW hw 10 rfl) (ty := (.array oT)) (by decide) rfl rfl (g := (mkF m 8 #[vr a0] [(.ref wa), (.ref a0)])) rfl rfl (hb hby d3_8)
  have N5 := Fr.snoc X5 N1 gp_a0
  have Fw5 := Fld.same W5 fc1_2
  refine gb (mkF m 11 #[vr a0] []) st5 ?_
  have K6 := (((Keep.refl h0 [a0]).trans Kc1 (allS (Or.inl (List.mem_of_getElem? (i := 0) rfl)) all0)).wr W5 (Or.inl (List.mem_of_getElem? (i := 0) rfl)))
  have f7 := (Fld.other W5 fc1_0 (Or.inr (slot_ne (Or.inl (hW hw 29 rfl)) (Or.inl (hW hw 32 rfl)) (by decide) (t := .int) (t' := (.array oT)) (by decide) (by decide))))
  have f8 := (Fld.other W5 fc1_1 (Or.inr (slot_ne (Or.inl (hW hw 78 rfl)) (Or.inl (hW hw 32 rfl)) (by decide) (t := .int) (t' := (.array oT)) (by decide) (by decide))))
  exact Gl.outV X5 hx hk Bd.returns (hb hby d3_11) (Eq.mpr (congrArg (fun hh => Q3 Z a0 wa wb wc wd we ka kc G1 h0 n0 _ hh _) e5) (show Q3 Z a0 wa wb wc wd we ka kc G1 h0 n0 _ h5 _ from ⟨rfl, N5, K6, f7, f8, Fw5⟩)) (by decide) (by decide)
theorem d1_0 : decode prog_17_method_1_code 0 = .ok (.aload_n 0, 1) := by decide +kernel
theorem d1_1 : decode prog_17_method_1_code 1 = .ok (.invokespecial 1, 3) := by decide +kernel
theorem d1_4 : decode prog_17_method_1_code 4 = .ok (.aload_n 0, 1) := by decide +kernel
theorem d1_5 : decode prog_17_method_1_code 5 = .ok (.new 7, 3) := by decide +kernel
theorem d1_8 : decode prog_17_method_1_code 8 = .ok (.dup, 1) := by decide +kernel
theorem d1_9 : decode prog_17_method_1_code 9 = .ok (.invokespecial 9, 3) := by decide +kernel
theorem d1_12 : decode prog_17_method_1_code 12 = .ok (.putfield 10, 3) := by decide +kernel
theorem d1_15 : decode prog_17_method_1_code 15 = .ok (.aload_n 0, 1) := by decide +kernel
theorem d1_16 : decode prog_17_method_1_code 16 = .ok (.iconst 1, 1) := by decide +kernel
theorem d1_17 : decode prog_17_method_1_code 17 = .ok (.putfield 16, 3) := by decide +kernel
theorem d1_20 : decode prog_17_method_1_code 20 = .ok (.return_, 1) := by decide +kernel
theorem ef1 (m : MethodId) (x0 : Addr) : entryFrame m #[(.ref x0)] 1 = mkF m 0 #[.val (.ref x0)] [] := by first | (simp [entryFrame, mkF, argsToLocals, Value.category]; done) | rfl
def Q1 (Z : State) (a0 : Addr) (wa wb wc wd we : Addr) (ka kc : ClassId) (G1 : Int32) (h0 : Heap) (n0 : Nat) (v : Option Value) (h : Heap) (L : List Loc) : Prop := ∃ (la : Addr), v = none ∧ Fr n0 L ∧ Keep h0 h [a0] ∧ Fld Z h a0 sF "found" "I" (.int 0) ∧ Fld Z h a0 sF "params" "Ljava/util/List;" (.ref la) ∧ Fld Z h a0 sF "onlyMissing" "Z" (.int (nar .boolean (1 : Int32))) ∧ Exa Z h la sA ∧ Fld Z h la "java/util/AbstractList" "modCount" "I" (.int 0) ∧ Fld Z h la sA "elementData" sO (.ref wa) ∧ Fld Z h la sA "size" "I" (.int 0) ∧ n0 ≤ la ∧ a0 ≠ la
theorem rm1 (l : Launch) (Z : State) (a0' : Array Value) (hw : ∀ d ∈ tables_1, d.before a0' Z = true) (ws : List Jvm.Cond) (a0 : Addr) (wa wb wc wd we : Addr) (ka kc : ClassId) (G1 : Int32) (h0 : Heap) (n0 : Nat) (O : Old Z n0 h0) (W : Wd Z wa wb wc wd we ka kc G1) (pf0 : Exa Z h0 a0 sF) (pf1 : Fld Z h0 a0 sF "found" "I" (.int 0)) (pf2 : Fld Z h0 a0 sF "params" "Ljava/util/List;" .null) (pf3 : Fld Z h0 a0 sF "onlyMissing" "Z" (.int 0)) (gp_a0 : n0 ≤ a0) :
    MetFree l mq25 (head1 (Jvm.Cond.code mq25 prog_17_method_1_code 1 none :: ws) ({ frames := 4, cells := 1, slots := 3, locals := 50 } : Room)) (fun a U => a = #[(.ref a0)] ∧ Z.Warmed39 U.vm ∧ U.heap = h0) (fun _ _ _ _ _ => True) (fun _ U o U' => ∃ v L, o = .returned v ∧ Q1 Z a0 wa wb wc wd we ka kc G1 h0 n0 v U'.heap L ∧ FrameEnd U o U' L ({ frames := 4, cells := 1, slots := 3, locals := 50 } : Room).cells ({ frames := 4, cells := 1, slots := 3, locals := 50 } : Room).slots) := by
  refine MetFree.of_bodySF (plainFor_of_name pn3) hisR ?_
  intro p e s m args below meth c s₁ Bd hml0 hP hK
  obtain ⟨rfl, hZ, hh⟩ := hP
  have hx := Bd.exec
  have hby := Bd.bytes
  have hml : c.maxLocals = 1 := hml0
  have hown : s.vm.findClass sF = some m.cls := findClass_of_methodNamed Bd.named
  have hnm := (name_of_methodNamed Bd.named Bd.method).1
  have hk := Bd.notSynchronized
  have X0 : Stand p l e ({ frames := 4, cells := 1, slots := 3, locals := 50 } : Room) s m #[(.ref a0)] below meth c s₁ [] 0 0 := Stand.of_body Bd
  have hh2 := hh
  have e0 : s₁.heap = h0 := by rw [← hh, Bd.state]; rfl
  have N0 := Fr.nil n0
  show Gl p e below (Pos 1 3 (Q1 Z a0 wa wb wc wd we ka kc G1 h0 n0) s) s₁ _
  refine Gl.cast (ef1 m a0) ?_
  refine gb (mkF m 1 #[vr a0] [(.ref a0)]) (fun _ k => XS.aloadN X0.here hx rfl (hb hby d1_0) rfl rfl k) ?_
  obtain ⟨T1, X1, e1, st1⟩ := initO X0 hx hZ hown (hW hw 6 rfl) (hW hw 7 rfl) (hW hw 8 rfl) e0 (g := (mkF m 1 #[vr a0] [(.ref a0)])) rfl (by rw [hml]; rfl) rfl (hb hby d1_1) (by decide) (W := 0) (Nat.le_of_eq rfl) (by decide)
  refine gb (mkF m 4 #[vr a0] []) st1 ?_
  refine gb (mkF m 5 #[vr a0] [(.ref a0)]) (fun _ k => XS.aloadN X1.here hx rfl (hb hby d1_4) rfl rfl k) ?_
  obtain ⟨T2, h2, X2, e2, E2, A2, D2, -, st2⟩ := newO X1 hx hZ hown (hW hw 9 rfl) (hW hw 10 rfl) (hW hw 11 rfl) e1 (g := (mkF m 5 #[vr a0] [(.ref a0)])) rfl (hb hby d1_5) (by decide) (by decide)
  obtain ⟨b2, g2⟩ : ∃ z, z = (h0).size := ⟨_, rfl⟩
  rw [← g2] at A2 D2 st2
  have gb2 : n0 ≤ b2 := Nat.le_trans (Nat.le_trans (Nat.le_of_eq O.1.symm) O.2.1) (Nat.le_of_eq g2.symm)
  have sb2 : h0.size ≤ b2 := Nat.le_trans (Keep.refl h0 [a0]).1 (Nat.le_of_eq g2.symm)
  have ne2_0 : a0 ≠ b2 := Nat.ne_of_lt (Nat.lt_of_lt_of_le pf0.lt (Nat.le_of_eq g2.symm))
  have ne2_2 : wa ≠ b2 := Nat.ne_of_lt (Nat.lt_of_lt_of_le (Arv.ext W.2.1 O.2).lt (Nat.le_of_eq g2.symm))
  have ne2_4 : wc ≠ b2 := Nat.ne_of_lt (Nat.lt_of_lt_of_le (Arv.ext W.2.2.2.2.2.1 O.2).lt (Nat.le_of_eq g2.symm))
  have ne2_6 : wb ≠ b2 := Nat.ne_of_lt (Nat.lt_of_lt_of_le (Exa.ext O.2 W.2.2.2.1).lt (Nat.le_of_eq g2.symm))
  have ne2_8 : wd ≠ b2 := Nat.ne_of_lt (Nat.lt_of_lt_of_le (Exa.ext O.2 W.2.2.2.2.2.2.2.1).lt (Nat.le_of_eq g2.symm))
  have D2_modCount : Fld Z h2 b2 "java/util/AbstractList" "modCount" "I" (.int 0) := D2 (Or.inl (hW hw 29 rfl)) (ty := .int) (by decide)
  have D2_elementData : Fld Z h2 b2 sA "elementData" sO .null := D2 (Or.inl (hW hw 32 rfl)) (ty := (.array oT)) (by decide)
  have D2_size : Fld Z h2 b2 sA "size" "I" (.int 0) := D2 (Or.inl (hW hw 78 rfl)) (ty := .int) (by decide)
  refine gb (mkF m 8 #[vr a0] [(.ref b2), (.ref a0)]) st2 ?_
  refine gb (mkF m 9 #[vr a0] [(.ref b2), (.ref b2), (.ref a0)]) (fun _ k => XS.dup X2.here hx rfl (hb hby d1_8) rfl rfl k) ?_
  have K4 := ((Keep.refl h0 [a0]).ext E2)
  have O5 := (O.ext E2)
  obtain ⟨_, _, ⟨T3, L3, k3, n3⟩, -, X3, ⟨Lc3, hQ3, l3, y3, z3⟩, st3⟩ := X2.specialBack hx (y := mq24) rfl hown (mvT hZ (hW hw 12 rfl)) (mvT hZ (hW hw 13 rfl)) (mvT hZ (hW hw 14 rfl)) (by decide) (backOf (W := 2) (rm3 l Z a0' hw [] b2 wa wb wc wd we ka kc G1 h2 n0 O5 W A2 D2_modCount D2_size D2_elementData gb2) hZ (hW hw 14 rfl) (hW hw 11 rfl) (by decide) (by decide)) (g := (mkF m 9 #[vr a0] [(.ref b2), (.ref b2), (.ref a0)])) rfl (by rw [hml]; rfl) (Steps.refl _) (a := b2) (argsL := []) (rest := [(.ref b2), (.ref a0)]) (lenOf pd73 rfl) rfl (Nat.le_of_eq rfl) (hb hby d1_9) (fun _ _ => ⟨rfl, e2, (by decide : 1 + 0 ≤ _), (by decide : 3 + 0 ≤ _)⟩)
  dsimp only [Pt.U, Pt.locs, Pt.cells, Pt.slots] at X3 l3 y3 z3 st3 hQ3
  subst l3 y3 z3
  obtain ⟨rfl, N3q, Kc3, fc3_0, fc3_1, fc3_2⟩ := hQ3
  have N3 := Fr.app N0 N3q
  refine gb (mkF m 12 #[vr a0] [(.ref b2), (.ref a0)]) (fun _ k => st3.trans k) ?_
  have f6 := (Exa.keep (Exa.ext E2 pf0) Kc3)
  have f7 := (Fld.keep (Fld.ext E2 pf2) Kc3 (ninS ne2_0 nin0))
  obtain ⟨T8, h8, X8, e8, W8, st8⟩ := putF X3 hx hZ hown (host := "") (Or.inl (hW hw 33 rfl)) Via.refl rfl f7 f6 (Or.inr ⟨(hW hw 34 rfl), rfl, hnm⟩) (hW hw 1 rfl) (ty := (.object "java/util/List")) (by decide) rfl rfl (g := (mkF m 12 #[vr a0] [(.ref b2), (.ref a0)])) rfl rfl (hb hby d1_12)
  have N8 := Fr.snoc X8 N3 gp_a0
  have Fw8 := Fld.same W8 f7
  refine gb (mkF m 15 #[vr a0] []) st8 ?_
  refine gb (mkF m 16 #[vr a0] [(.ref a0)]) (fun _ k => XS.aloadN X8.here hx rfl (hb hby d1_15) rfl rfl k) ?_
  refine gb (mkF m 17 #[vr a0] [(.int 1), (.ref a0)]) (fun _ k => XS.iconst X8.here hx rfl (hb hby d1_16) k) ?_
  have f9 := (Exa.wr W8 f6)
  have f10 := (Fld.other W8 (Fld.keep (Fld.ext E2 pf3) Kc3 (ninS ne2_0 nin0)) (Or.inr (slot_ne (Or.inl (hW hw 36 rfl)) (Or.inr (hW hw 34 rfl)) (by decide) (t := .boolean) (t' := (.object "java/util/List")) (by decide) (by decide))))
  obtain ⟨T11, h11, X11, e11, W11, st11⟩ := putFN X8 hx hZ hown (hW hw 35 rfl) Via.refl e8 f10 f9 (Or.inl (hW hw 36 rfl)) (hW hw 1 rfl) (ty := .boolean) (v' := (.int (nar .boolean (1 : Int32)))) (by decide) rfl (fits_nar_bool _) (g := (mkF m 17 #[vr a0] [(.int 1), (.ref a0)])) rfl rfl (hb hby d1_17)
  have N11 := Fr.snoc X11 N8 gp_a0
  have Fw11 := Fld.same W11 f10
  refine gb (mkF m 20 #[vr a0] []) st11 ?_
  have K12 := (((K4.trans Kc3 (allS (Or.inr sb2) all0)).wr W8 (Or.inl (List.mem_of_getElem? (i := 0) rfl))).wr W11 (Or.inl (List.mem_of_getElem? (i := 0) rfl)))
  have f13 := (Fld.other W11 (Fld.other W8 (Fld.keep (Fld.ext E2 pf1) Kc3 (ninS ne2_0 nin0)) (Or.inr (slot_ne (Or.inl (hW hw 43 rfl)) (Or.inr (hW hw 34 rfl)) (by decide) (t := .int) (t' := (.object "java/util/List")) (by decide) (by decide)))) (Or.inr (slot_ne (Or.inl (hW hw 43 rfl)) (Or.inl (hW hw 36 rfl)) (by decide) (t := .int) (t' := .boolean) (by decide) (by decide))))
  have f14 := (Fld.other W11 Fw8 (Or.inr (slot_ne (Or.inr (hW hw 34 rfl)) (Or.inl (hW hw 36 rfl)) (by decide) (t := (.object "java/util/List")) (t' := .boolean) (by decide) (by decide))))
  have f15 := (Exa.wr W11 (Exa.wr W8 (Exa.keep A2 Kc3)))
  have f16 := (Fld.other W11 (Fld.other W8 fc3_0 (Or.inl (Ne.symm ne2_0))) (Or.inl (Ne.symm ne2_0)))
  have f17 := (Fld.other W11 (Fld.other W8 fc3_2 (Or.inl (Ne.symm ne2_0))) (Or.inl (Ne.symm ne2_0)))
  have f18 := (Fld.other W11 (Fld.other W8 fc3_1 (Or.inl (Ne.symm ne2_0))) (Or.inl (Ne.symm ne2_0)))
  exact Gl.outV X11 hx hk Bd.returns (hb hby d1_20) (Eq.mpr (congrArg (fun hh => Q1 Z a0 wa wb wc wd we ka kc G1 h0 n0 _ hh _) e11) (show Q1 Z a0 wa wb wc wd we ka kc G1 h0 n0 _ h11 _ from ⟨b2, rfl, N11, K12, f13, f14, Fw11, f15, f16, f17, f18, ⟨gb2, ne2_0⟩⟩)) (by decide) (by decide)
theorem d6_0 : decode prog_17_method_6_code 0 = .ok (.aload_n 0, 1) := by decide +kernel
theorem d6_1 : decode prog_17_method_6_code 1 = .ok (.getfield 31, 3) := by decide +kernel
theorem d6_4 : decode prog_17_method_6_code 4 = .ok (.bipush 100, 2) := by decide +kernel
theorem d6_6 : decode prog_17_method_6_code 6 = .ok (.if_icmp .le 7, 3) := by decide +kernel
theorem d6_13 : decode prog_17_method_6_code 13 = .ok (.iconst 0, 1) := by decide +kernel
theorem d6_14 : decode prog_17_method_6_code 14 = .ok (.ireturn, 1) := by decide +kernel
theorem ef6 (m : MethodId) (x0 : Addr) : entryFrame m #[(.ref x0)] 1 = mkF m 0 #[.val (.ref x0)] [] := by first | (simp [entryFrame, mkF, argsToLocals, Value.category]; done) | rfl
def Q6 (Z : State) (a0 : Addr) (fd : Int32) (wa wb wc wd we : Addr) (ka kc : ClassId) (G1 : Int32) (h0 : Heap) (n0 : Nat) (v : Option Value) (h : Heap) (L : List Loc) : Prop := v = some (.int 0) ∧ Fr n0 L ∧ h = h0
theorem rm6 (l : Launch) (Z : State) (a0' : Array Value) (hw : ∀ d ∈ tables_1, d.before a0' Z = true) (ws : List Jvm.Cond) (a0 : Addr) (fd : Int32) (wa wb wc wd we : Addr) (ka kc : ClassId) (G1 : Int32) (h0 : Heap) (n0 : Nat) (O : Old Z n0 h0) (W : Wd Z wa wb wc wd we ka kc G1) (pf0 : Exa Z h0 a0 sF) (pf1 : Fld Z h0 a0 sF "found" "I" (.int fd)) (h6 : ¬ (100 : Int32) < fd) :
    MetFree l mq26 (head1 (Jvm.Cond.code mq26 prog_17_method_6_code 1 (some .boolean) :: ws) ({ frames := 0, cells := 0, slots := 0, locals := 0 } : Room)) (fun a U => a = #[(.ref a0)] ∧ Z.Warmed39 U.vm ∧ U.heap = h0) (fun _ _ _ _ _ => True) (fun _ U o U' => ∃ v L, o = .returned v ∧ Q6 Z a0 fd wa wb wc wd we ka kc G1 h0 n0 v U'.heap L ∧ FrameEnd U o U' L ({ frames := 0, cells := 0, slots := 0, locals := 0 } : Room).cells ({ frames := 0, cells := 0, slots := 0, locals := 0 } : Room).slots) := by
  refine MetFree.of_bodySF (plainFor_of_name pn3) hisR ?_
  intro p e s m args below meth c s₁ Bd hml0 hP hK
  obtain ⟨rfl, hZ, hh⟩ := hP
  have hx := Bd.exec
  have hby := Bd.bytes
  have hml : c.maxLocals = 1 := hml0
  have hown : s.vm.findClass sF = some m.cls := findClass_of_methodNamed Bd.named
  have hnm := (name_of_methodNamed Bd.named Bd.method).1
  have hk := Bd.notSynchronized
  have X0 : Stand p l e ({ frames := 0, cells := 0, slots := 0, locals := 0 } : Room) s m #[(.ref a0)] below meth c s₁ [] 0 0 := Stand.of_body Bd
  have hh2 := hh
  have e0 : s₁.heap = h0 := by rw [← hh, Bd.state]; rfl
  have N0 := Fr.nil n0
  show Gl p e below (Pos 0 0 (Q6 Z a0 fd wa wb wc wd we ka kc G1 h0 n0) s) s₁ _
  refine Gl.cast (ef6 m a0) ?_
  refine gb (mkF m 1 #[vr a0] [(.ref a0)]) (fun _ k => XS.aloadN X0.here hx rfl (hb hby d6_0) rfl rfl k) ?_
  obtain ⟨T1, X1, e1, st1⟩ := getF X0 hx hZ hown (host := "") (Or.inl (hW hw 42 rfl)) Via.refl e0 pf1 (g := (mkF m 1 #[vr a0] [(.ref a0)])) rfl rfl (hb hby d6_1)
  refine gb (mkF m 4 #[vr a0] [(.int fd)]) st1 ?_
  refine gb (mkF m 6 #[vr a0] [(.int 100), (.int fd)]) (fun _ k => XS.bipush X1.here hx rfl (hb hby d6_4) k) ?_
  refine gb (mkF m 13 #[vr a0] []) (fun _ k => XS.icmpYes X1.here hx rfl (pc0 := 6) (pc' := 13) rfl (hb hby d6_6) rfl (flt h6).2.2.2 (by decide) (by decide) k) ?_
  refine gb (mkF m 14 #[vr a0] [(.int 0)]) (fun _ k => XS.iconst X1.here hx rfl (hb hby d6_13) k) ?_
  exact Gl.outN X1 hx hk (t := .boolean) Bd.returns (by simp) (hb hby d6_14) ⟨rfl, N0, e1⟩ (by decide) (by decide)
theorem d7_0 : decode prog_17_method_5_code 0 = .ok (.aload_n 0, 1) := by decide +kernel
theorem d7_1 : decode prog_17_method_5_code 1 = .ok (.getfield 31, 3) := by decide +kernel
theorem d7_4 : decode prog_17_method_5_code 4 = .ok (.ifCond .ne 7, 3) := by decide +kernel
theorem d7_7 : decode prog_17_method_5_code 7 = .ok (.iconst 1, 1) := by decide +kernel
theorem d7_8 : decode prog_17_method_5_code 8 = .ok (.goto 4, 3) := by decide +kernel
theorem d7_12 : decode prog_17_method_5_code 12 = .ok (.ireturn, 1) := by decide +kernel
theorem ef70 (m : MethodId) (x0 : Addr) : entryFrame m #[(.ref x0)] 1 = mkF m 0 #[.val (.ref x0)] [] := by first | (simp [entryFrame, mkF, argsToLocals, Value.category]; done) | rfl
def Q70 (Z : State) (a0 : Addr) (wa wb wc wd we : Addr) (ka kc : ClassId) (G1 : Int32) (h0 : Heap) (n0 : Nat) (v : Option Value) (h : Heap) (L : List Loc) : Prop := v = some (.int 1) ∧ Fr n0 L ∧ h = h0
theorem rm70 (l : Launch) (Z : State) (a0' : Array Value) (hw : ∀ d ∈ tables_1, d.before a0' Z = true) (ws : List Jvm.Cond) (a0 : Addr) (wa wb wc wd we : Addr) (ka kc : ClassId) (G1 : Int32) (h0 : Heap) (n0 : Nat) (O : Old Z n0 h0) (W : Wd Z wa wb wc wd we ka kc G1) (pf0 : Exa Z h0 a0 sF) (pf1 : Fld Z h0 a0 sF "found" "I" (.int 0)) :
    MetFree l mq27 (head1 (Jvm.Cond.code mq27 prog_17_method_5_code 1 (some .boolean) :: ws) ({ frames := 0, cells := 0, slots := 0, locals := 0 } : Room)) (fun a U => a = #[(.ref a0)] ∧ Z.Warmed39 U.vm ∧ U.heap = h0) (fun _ _ _ _ _ => True) (fun _ U o U' => ∃ v L, o = .returned v ∧ Q70 Z a0 wa wb wc wd we ka kc G1 h0 n0 v U'.heap L ∧ FrameEnd U o U' L ({ frames := 0, cells := 0, slots := 0, locals := 0 } : Room).cells ({ frames := 0, cells := 0, slots := 0, locals := 0 } : Room).slots) := by
  refine MetFree.of_bodySF (plainFor_of_name pn3) hisR ?_
  intro p e s m args below meth c s₁ Bd hml0 hP hK
  obtain ⟨rfl, hZ, hh⟩ := hP
  have hx := Bd.exec
  have hby := Bd.bytes
  have hml : c.maxLocals = 1 := hml0
  have hown : s.vm.findClass sF = some m.cls := findClass_of_methodNamed Bd.named
  have hnm := (name_of_methodNamed Bd.named Bd.method).1
  have hk := Bd.notSynchronized
  have X0 : Stand p l e ({ frames := 0, cells := 0, slots := 0, locals := 0 } : Room) s m #[(.ref a0)] below meth c s₁ [] 0 0 := Stand.of_body Bd
  have hh2 := hh
  have e0 : s₁.heap = h0 := by rw [← hh, Bd.state]; rfl
  have N0 := Fr.nil n0
  show Gl p e below (Pos 0 0 (Q70 Z a0 wa wb wc wd we ka kc G1 h0 n0) s) s₁ _
  refine Gl.cast (ef70 m a0) ?_
  refine gb (mkF m 1 #[vr a0] [(.ref a0)]) (fun _ k => XS.aloadN X0.here hx rfl (hb hby d7_0) rfl rfl k) ?_
  obtain ⟨T1, X1, e1, st1⟩ := getF X0 hx hZ hown (host := "") (Or.inl (hW hw 42 rfl)) Via.refl e0 pf1 (g := (mkF m 1 #[vr a0] [(.ref a0)])) rfl rfl (hb hby d7_1)
  refine gb (mkF m 4 #[vr a0] [(.int 0)]) st1 ?_
  refine gb (mkF m 7 #[vr a0] []) (fun _ k => XS.ifNo X1.here hx rfl (hb hby d7_4) rfl ((if0 _ _).trans (teq (by decide : (0 : Int32) = (0 : Int32))).2) k) ?_
  refine gb (mkF m 8 #[vr a0] [(.int 1)]) (fun _ k => XS.iconst X1.here hx rfl (hb hby d7_7) k) ?_
  refine gb (mkF m 12 #[vr a0] [(.int 1)]) (fun _ k => XS.goto X1.here hx rfl (pc0 := 8) (pc' := 12) rfl (hb hby d7_8) (by decide) (by decide) k) ?_
  exact Gl.outN X1 hx hk (t := .boolean) Bd.returns (by simp) (hb hby d7_12) ⟨rfl, N0, e1⟩ (by decide) (by decide)
theorem d7_11 : decode prog_17_method_5_code 11 = .ok (.iconst 0, 1) := by decide +kernel
theorem ef7s (m : MethodId) (x0 : Addr) : entryFrame m #[(.ref x0)] 1 = mkF m 0 #[.val (.ref x0)] [] := by first | (simp [entryFrame, mkF, argsToLocals, Value.category]; done) | rfl
def Q7s (Z : State) (a0 : Addr) (zz : Int32) (wa wb wc wd we : Addr) (ka kc : ClassId) (G1 : Int32) (h0 : Heap) (n0 : Nat) (v : Option Value) (h : Heap) (L : List Loc) : Prop := v = some (.int 0) ∧ Fr n0 L ∧ h = h0
theorem rm7s (l : Launch) (Z : State) (a0' : Array Value) (hw : ∀ d ∈ tables_1, d.before a0' Z = true) (ws : List Jvm.Cond) (a0 : Addr) (zz : Int32) (wa wb wc wd we : Addr) (ka kc : ClassId) (G1 : Int32) (h0 : Heap) (n0 : Nat) (O : Old Z n0 h0) (W : Wd Z wa wb wc wd we ka kc G1) (pf0 : Exa Z h0 a0 sF) (pf1 : Fld Z h0 a0 sF "found" "I" (.int zz)) (h7 : ¬ zz = (0 : Int32)) :
    MetFree l mq27 (head1 (Jvm.Cond.code mq27 prog_17_method_5_code 1 (some .boolean) :: ws) ({ frames := 0, cells := 0, slots := 0, locals := 0 } : Room)) (fun a U => a = #[(.ref a0)] ∧ Z.Warmed39 U.vm ∧ U.heap = h0) (fun _ _ _ _ _ => True) (fun _ U o U' => ∃ v L, o = .returned v ∧ Q7s Z a0 zz wa wb wc wd we ka kc G1 h0 n0 v U'.heap L ∧ FrameEnd U o U' L ({ frames := 0, cells := 0, slots := 0, locals := 0 } : Room).cells ({ frames := 0, cells := 0, slots := 0, locals := 0 } : Room).slots) := by
  refine MetFree.of_bodySF (plainFor_of_name pn3) hisR ?_
  intro p e s m args below meth c s₁ Bd hml0 hP hK
  obtain ⟨rfl, hZ, hh⟩ := hP
  have hx := Bd.exec
  have hby := Bd.bytes
  have hml : c.maxLocals = 1 := hml0
  have hown : s.vm.findClass sF = some m.cls := findClass_of_methodNamed Bd.named
  have hnm := (name_of_methodNamed Bd.named Bd.method).1
  have hk := Bd.notSynchronized
  have X0 : Stand p l e ({ frames := 0, cells := 0, slots := 0, locals := 0 } : Room) s m #[(.ref a0)] below meth c s₁ [] 0 0 := Stand.of_body Bd
  have hh2 := hh
  have e0 : s₁.heap = h0 := by rw [← hh, Bd.state]; rfl
  have N0 := Fr.nil n0
  show Gl p e below (Pos 0 0 (Q7s Z a0 zz wa wb wc wd we ka kc G1 h0 n0) s) s₁ _
  refine Gl.cast (ef7s m a0) ?_
  refine gb (mkF m 1 #[vr a0] [(.ref a0)]) (fun _ k => XS.aloadN X0.here hx rfl (hb hby d7_0) rfl rfl k) ?_
  obtain ⟨T1, X1, e1, st1⟩ := getF X0 hx hZ hown (host := "") (Or.inl (hW hw 42 rfl)) Via.refl e0 pf1 (g := (mkF m 1 #[vr a0] [(.ref a0)])) rfl rfl (hb hby d7_1)
  refine gb (mkF m 4 #[vr a0] [(.int zz)]) st1 ?_
  refine gb (mkF m 11 #[vr a0] []) (fun _ k => XS.ifYes X1.here hx rfl (pc0 := 4) (pc' := 11) rfl (hb hby d7_4) rfl ((if0 _ _).trans (feq h7).2) (by decide) (by decide) k) ?_
  refine gb (mkF m 12 #[vr a0] [(.int 0)]) (fun _ k => XS.iconst X1.here hx rfl (hb hby d7_11) k) ?_
  exact Gl.outN X1 hx hk (t := .boolean) Bd.returns (by simp) (hb hby d7_12) ⟨rfl, N0, e1⟩ (by decide) (by decide)
theorem d11_0 : decode jdk_38_method_9_code 0 = .ok (.aload_n 0, 1) := by decide +kernel
theorem d11_1 : decode jdk_38_method_9_code 1 = .ok (.getfield 48, 3) := by decide +kernel
theorem d11_4 : decode jdk_38_method_9_code 4 = .ok (.ifCond .ne 7, 3) := by decide +kernel
theorem d11_7 : decode jdk_38_method_9_code 7 = .ok (.iconst 1, 1) := by decide +kernel
theorem d11_8 : decode jdk_38_method_9_code 8 = .ok (.goto 4, 3) := by decide +kernel
theorem d11_12 : decode jdk_38_method_9_code 12 = .ok (.ireturn, 1) := by decide +kernel
theorem ef110 (m : MethodId) (x0 : Addr) : entryFrame m #[(.ref x0)] 1 = mkF m 0 #[.val (.ref x0)] [] := by first | (simp [entryFrame, mkF, argsToLocals, Value.category]; done) | rfl
def Q110 (Z : State) (a0 : Addr) (wa wb wc wd we : Addr) (ka kc : ClassId) (G1 : Int32) (h0 : Heap) (n0 : Nat) (v : Option Value) (h : Heap) (L : List Loc) : Prop := v = some (.int 1) ∧ Fr n0 L ∧ h = h0
theorem rm110 (l : Launch) (Z : State) (a0' : Array Value) (hw : ∀ d ∈ tables_1, d.before a0' Z = true) (ws : List Jvm.Cond) (a0 : Addr) (wa wb wc wd we : Addr) (ka kc : ClassId) (G1 : Int32) (h0 : Heap) (n0 : Nat) (O : Old Z n0 h0) (W : Wd Z wa wb wc wd we ka kc G1) (pf0 : Exa Z h0 a0 sA) (pf1 : Fld Z h0 a0 sA "size" "I" (.int 0)) :
    MetFree l mq28 (head1 (Jvm.Cond.code mq28 jdk_38_method_9_code 1 (some .boolean) :: ws) ({ frames := 0, cells := 0, slots := 0, locals := 0 } : Room)) (fun a U => a = #[(.ref a0)] ∧ Z.Warmed39 U.vm ∧ U.heap = h0) (fun _ _ _ _ _ => True) (fun _ U o U' => ∃ v L, o = .returned v ∧ Q110 Z a0 wa wb wc wd we ka kc G1 h0 n0 v U'.heap L ∧ FrameEnd U o U' L ({ frames := 0, cells := 0, slots := 0, locals := 0 } : Room).cells ({ frames := 0, cells := 0, slots := 0, locals := 0 } : Room).slots) := by
  refine MetFree.of_bodySF (plainFor_of_name pn0) hisR ?_
  intro p e s m args below meth c s₁ Bd hml0 hP hK
  obtain ⟨rfl, hZ, hh⟩ := hP
  have hx := Bd.exec
  have hby := Bd.bytes
  have hml : c.maxLocals = 1 := hml0
  have hown : s.vm.findClass sA = some m.cls := findClass_of_methodNamed Bd.named
  have hnm := (name_of_methodNamed Bd.named Bd.method).1
  have hk := Bd.notSynchronized
  have X0 : Stand p l e ({ frames := 0, cells := 0, slots := 0, locals := 0 } : Room) s m #[(.ref a0)] below meth c s₁ [] 0 0 := Stand.of_body Bd
  have hh2 := hh
  have e0 : s₁.heap = h0 := by rw [← hh, Bd.state]; rfl
  have N0 := Fr.nil n0
  show Gl p e below (Pos 0 0 (Q110 Z a0 wa wb wc wd we ka kc G1 h0 n0) s) s₁ _
  refine Gl.cast (ef110 m a0) ?_
  refine gb (mkF m 1 #[vr a0] [(.ref a0)]) (fun _ k => XS.aloadN X0.here hx rfl (hb hby d11_0) rfl rfl k) ?_
  obtain ⟨T1, X1, e1, st1⟩ := getF X0 hx hZ hown (host := "") (Or.inl (hW hw 77 rfl)) Via.refl e0 pf1 (g := (mkF m 1 #[vr a0] [(.ref a0)])) rfl rfl (hb hby d11_1)
  refine gb (mkF m 4 #[vr a0] [(.int 0)]) st1 ?_
  refine gb (mkF m 7 #[vr a0] []) (fun _ k => XS.ifNo X1.here hx rfl (hb hby d11_4) rfl ((if0 _ _).trans (teq (by decide : (0 : Int32) = (0 : Int32))).2) k) ?_
  refine gb (mkF m 8 #[vr a0] [(.int 1)]) (fun _ k => XS.iconst X1.here hx rfl (hb hby d11_7) k) ?_
  refine gb (mkF m 12 #[vr a0] [(.int 1)]) (fun _ k => XS.goto X1.here hx rfl (pc0 := 8) (pc' := 12) rfl (hb hby d11_8) (by decide) (by decide) k) ?_
  exact Gl.outN X1 hx hk (t := .boolean) Bd.returns (by simp) (hb hby d11_12) ⟨rfl, N0, e1⟩ (by decide) (by decide)
theorem d11_11 : decode jdk_38_method_9_code 11 = .ok (.iconst 0, 1) := by decide +kernel
theorem ef11s (m : MethodId) (x0 : Addr) : entryFrame m #[(.ref x0)] 1 = mkF m 0 #[.val (.ref x0)] [] := by first | (simp [entryFrame, mkF, argsToLocals, Value.category]; done) | rfl
def Q11s (Z : State) (a0 : Addr) (zz : Int32) (wa wb wc wd we : Addr) (ka kc : ClassId) (G1 : Int32) (h0 : Heap) (n0 : Nat) (v : Option Value) (h : Heap) (L : List Loc) : Prop := v = some (.int 0) ∧ Fr n0 L ∧ h = h0
theorem rm11s (l : Launch) (Z : State) (a0' : Array Value) (hw : ∀ d ∈ tables_1, d.before a0' Z = true) (ws : List Jvm.Cond) (a0 : Addr) (zz : Int32) (wa wb wc wd we : Addr) (ka kc : ClassId) (G1 : Int32) (h0 : Heap) (n0 : Nat) (O : Old Z n0 h0) (W : Wd Z wa wb wc wd we ka kc G1) (pf0 : Exa Z h0 a0 sA) (pf1 : Fld Z h0 a0 sA "size" "I" (.int zz)) (h7 : ¬ zz = (0 : Int32)) :
    MetFree l mq28 (head1 (Jvm.Cond.code mq28 jdk_38_method_9_code 1 (some .boolean) :: ws) ({ frames := 0, cells := 0, slots := 0, locals := 0 } : Room)) (fun a U => a = #[(.ref a0)] ∧ Z.Warmed39 U.vm ∧ U.heap = h0) (fun _ _ _ _ _ => True) (fun _ U o U' => ∃ v L, o = .returned v ∧ Q11s Z a0 zz wa wb wc wd we ka kc G1 h0 n0 v U'.heap L ∧ FrameEnd U o U' L ({ frames := 0, cells := 0, slots := 0, locals := 0 } : Room).cells ({ frames := 0, cells := 0, slots := 0, locals := 0 } : Room).slots) := by
  refine MetFree.of_bodySF (plainFor_of_name pn0) hisR ?_
  intro p e s m args below meth c s₁ Bd hml0 hP hK
  obtain ⟨rfl, hZ, hh⟩ := hP
  have hx := Bd.exec
  have hby := Bd.bytes
  have hml : c.maxLocals = 1 := hml0
  have hown : s.vm.findClass sA = some m.cls := findClass_of_methodNamed Bd.named
  have hnm := (name_of_methodNamed Bd.named Bd.method).1
  have hk := Bd.notSynchronized
  have X0 : Stand p l e ({ frames := 0, cells := 0, slots := 0, locals := 0 } : Room) s m #[(.ref a0)] below meth c s₁ [] 0 0 := Stand.of_body Bd
  have hh2 := hh
  have e0 : s₁.heap = h0 := by rw [← hh, Bd.state]; rfl
  have N0 := Fr.nil n0
  show Gl p e below (Pos 0 0 (Q11s Z a0 zz wa wb wc wd we ka kc G1 h0 n0) s) s₁ _
  refine Gl.cast (ef11s m a0) ?_
  refine gb (mkF m 1 #[vr a0] [(.ref a0)]) (fun _ k => XS.aloadN X0.here hx rfl (hb hby d11_0) rfl rfl k) ?_
  obtain ⟨T1, X1, e1, st1⟩ := getF X0 hx hZ hown (host := "") (Or.inl (hW hw 77 rfl)) Via.refl e0 pf1 (g := (mkF m 1 #[vr a0] [(.ref a0)])) rfl rfl (hb hby d11_1)
  refine gb (mkF m 4 #[vr a0] [(.int zz)]) st1 ?_
  refine gb (mkF m 11 #[vr a0] []) (fun _ k => XS.ifYes X1.here hx rfl (pc0 := 4) (pc' := 11) rfl (hb hby d11_4) rfl ((if0 _ _).trans (feq h7).2) (by decide) (by decide) k) ?_
  refine gb (mkF m 12 #[vr a0] [(.int 0)]) (fun _ k => XS.iconst X1.here hx rfl (hb hby d11_11) k) ?_
  exact Gl.outN X1 hx hk (t := .boolean) Bd.returns (by simp) (hb hby d11_12) ⟨rfl, N0, e1⟩ (by decide) (by decide)
theorem d12_0 : decode jdk_40_method_36_code 0 = .ok (.getstatic 90, 3) := by decide +kernel
theorem d12_3 : decode jdk_40_method_36_code 3 = .ok (.areturn, 1) := by decide +kernel
theorem pn10 : plainName "java/util/List" = true := by first | (simp [plainName, overriddenIn]; done) | decide +kernel
theorem ef12 (m : MethodId)  : entryFrame m #[] 0 = mkF m 0 #[] [] := by first | (simp [entryFrame, mkF, argsToLocals, Value.category]; done) | rfl
def Q12 (Z : State) (wa wb wc wd we : Addr) (ka kc : ClassId) (G1 : Int32) (h0 : Heap) (n0 : Nat) (v : Option Value) (h : Heap) (L : List Loc) : Prop := v = some (.ref wb) ∧ Fr n0 L ∧ h = h0
theorem rm12 (l : Launch) (Z : State) (a0' : Array Value) (hw : ∀ d ∈ tables_1, d.before a0' Z = true) (ws : List Jvm.Cond) (wa wb wc wd we : Addr) (ka kc : ClassId) (G1 : Int32) (h0 : Heap) (n0 : Nat) (O : Old Z n0 h0) (W : Wd Z wa wb wc wd we ka kc G1) :
    MetFree l mq29 (head1 (Jvm.Cond.code mq29 jdk_40_method_36_code 0 (some (.object "java/util/List")) :: ws) ({ frames := 0, cells := 0, slots := 0, locals := 0 } : Room)) (fun a U => a = #[] ∧ Z.Warmed39 U.vm ∧ U.heap = h0) (fun _ _ _ _ _ => True) (fun _ U o U' => ∃ v L, o = .returned v ∧ Q12 Z  wa wb wc wd we ka kc G1 h0 n0 v U'.heap L ∧ FrameEnd U o U' L ({ frames := 0, cells := 0, slots := 0, locals := 0 } : Room).cells ({ frames := 0, cells := 0, slots := 0, locals := 0 } : Room).slots) := by
  refine MetFree.of_bodySF (plainFor_of_name pn10) hisR ?_
  intro p e s m args below meth c s₁ Bd hml0 hP hK
  obtain ⟨rfl, hZ, hh⟩ := hP
  have hx := Bd.exec
  have hby := Bd.bytes
  have hml : c.maxLocals = 0 := hml0
  have hown : s.vm.findClass "java/util/List" = some m.cls := findClass_of_methodNamed Bd.named
  have hnm := (name_of_methodNamed Bd.named Bd.method).1
  have hk := Bd.notSynchronized
  have X0 : Stand p l e ({ frames := 0, cells := 0, slots := 0, locals := 0 } : Room) s m #[] below meth c s₁ [] 0 0 := Stand.of_body Bd
  have hh2 := hh
  have e0 : s₁.heap = h0 := by rw [← hh, Bd.state]; rfl
  have N0 := Fr.nil n0
  show Gl p e below (Pos 0 0 (Q12 Z  wa wb wc wd we ka kc G1 h0 n0) s) s₁ _
  refine Gl.cast (ef12 m ) ?_
  obtain ⟨T1, X1, e1, st1⟩ := getS2 X0 hx hZ hown (host := "") (Or.inl (hW hw 82 rfl)) Via.refl e0 (Sta.ext O.2 W.2.2.1) (g := (mkF m 0 #[] [])) rfl (hb hby d12_0)
  refine gb (mkF m 3 #[] [(.ref wb)]) st1 ?_
  exact Gl.outA X1 hx hk Bd.returns rfl rfl (hb hby d12_3) ⟨rfl, N0, e1⟩ (by decide) (by decide)
theorem d13_0 : decode jdk_45_method_3_code 0 = .ok (.aload_n 0, 1) := by decide +kernel
theorem d13_1 : decode jdk_45_method_3_code 1 = .ok (.getfield 7, 3) := by decide +kernel
theorem d13_4 : decode jdk_45_method_3_code 4 = .ok (.arraylength, 1) := by decide +kernel
theorem d13_5 : decode jdk_45_method_3_code 5 = .ok (.ireturn, 1) := by decide +kernel
theorem pn11 : plainName sN = true := by first | (simp [plainName, overriddenIn]; done) | decide +kernel
theorem ef13 (m : MethodId) (x0 : Addr) : entryFrame m #[(.ref x0)] 1 = mkF m 0 #[.val (.ref x0)] [] := by first | (simp [entryFrame, mkF, argsToLocals, Value.category]; done) | rfl
def Q13 (Z : State) (a0 : Addr) (ar : Addr) (kr : ClassId) (zn : Int32) (vs : List Value) (wa wb wc wd we : Addr) (ka kc : ClassId) (G1 : Int32) (h0 : Heap) (n0 : Nat) (v : Option Value) (h : Heap) (L : List Loc) : Prop := v = some (.int zn) ∧ Fr n0 L ∧ h = h0
theorem rm13 (l : Launch) (Z : State) (a0' : Array Value) (hw : ∀ d ∈ tables_1, d.before a0' Z = true) (ws : List Jvm.Cond) (a0 : Addr) (ar : Addr) (kr : ClassId) (zn : Int32) (vs : List Value) (wa wb wc wd we : Addr) (ka kc : ClassId) (G1 : Int32) (h0 : Heap) (n0 : Nat) (O : Old Z n0 h0) (W : Wd Z wa wb wc wd we ka kc G1) (pf0 : Exa Z h0 a0 sN) (pf1 : Fld Z h0 a0 sN "elements" sO (.ref ar)) (pf2 : Arv Z h0 ar kr oT zn vs .null) :
    MetFree l mq30 (head1 (Jvm.Cond.code mq30 jdk_45_method_3_code 1 (some .int) :: ws) ({ frames := 0, cells := 0, slots := 0, locals := 0 } : Room)) (fun a U => a = #[(.ref a0)] ∧ Z.Warmed39 U.vm ∧ U.heap = h0) (fun _ _ _ _ _ => True) (fun _ U o U' => ∃ v L, o = .returned v ∧ Q13 Z a0 ar kr zn vs wa wb wc wd we ka kc G1 h0 n0 v U'.heap L ∧ FrameEnd U o U' L ({ frames := 0, cells := 0, slots := 0, locals := 0 } : Room).cells ({ frames := 0, cells := 0, slots := 0, locals := 0 } : Room).slots) := by
  refine MetFree.of_bodySF (plainFor_of_name pn11) hisR ?_
  intro p e s m args below meth c s₁ Bd hml0 hP hK
  obtain ⟨rfl, hZ, hh⟩ := hP
  have hx := Bd.exec
  have hby := Bd.bytes
  have hml : c.maxLocals = 1 := hml0
  have hown : s.vm.findClass sN = some m.cls := findClass_of_methodNamed Bd.named
  have hnm := (name_of_methodNamed Bd.named Bd.method).1
  have hk := Bd.notSynchronized
  have X0 : Stand p l e ({ frames := 0, cells := 0, slots := 0, locals := 0 } : Room) s m #[(.ref a0)] below meth c s₁ [] 0 0 := Stand.of_body Bd
  have hh2 := hh
  have e0 : s₁.heap = h0 := by rw [← hh, Bd.state]; rfl
  have N0 := Fr.nil n0
  show Gl p e below (Pos 0 0 (Q13 Z a0 ar kr zn vs wa wb wc wd we ka kc G1 h0 n0) s) s₁ _
  refine Gl.cast (ef13 m a0) ?_
  refine gb (mkF m 1 #[vr a0] [(.ref a0)]) (fun _ k => XS.aloadN X0.here hx rfl (hb hby d13_0) rfl rfl k) ?_
  obtain ⟨T1, X1, e1, st1⟩ := getF X0 hx hZ hown (host := "") (Or.inl (hW hw 93 rfl)) Via.refl e0 pf1 (g := (mkF m 1 #[vr a0] [(.ref a0)])) rfl rfl (hb hby d13_1)
  refine gb (mkF m 4 #[vr a0] [(.ref ar)]) st1 ?_
  obtain ⟨cl2, Ar2, qa2, Sa2, Na2, Ha2, Ga2⟩ := id pf2
  refine gb (mkF m 5 #[vr a0] [(.int zn)]) (fun t k => X1.arraylength hx (by rw [e1]; exact Ar2.1) (State.isArrayOf_alike hZ.alike Ar2.2.1) (g := (mkF m 4 #[vr a0] [(.ref ar)])) rfl rfl (hb hby d13_4) t (by rw [len_of Sa2 Na2]; exact k)) ?_
  exact Gl.outI X1 hx hk Bd.returns (hb hby d13_5) ⟨rfl, N0, e1⟩ (by decide) (by decide)
theorem d41_0 : decode jdk_44_method_3_code 0 = .ok (.aload_n 0, 1) := by decide +kernel
theorem d41_1 : decode jdk_44_method_3_code 1 = .ok (.getfield 24, 3) := by decide +kernel
theorem d41_4 : decode jdk_44_method_3_code 4 = .ok (.getstatic 19, 3) := by decide +kernel
theorem d41_7 : decode jdk_44_method_3_code 7 = .ok (.if_acmp .eq 7, 3) := by decide +kernel
theorem d41_14 : decode jdk_44_method_3_code 14 = .ok (.iconst 1, 1) := by decide +kernel
theorem d41_15 : decode jdk_44_method_3_code 15 = .ok (.ireturn, 1) := by decide +kernel
theorem pn12 : plainName sT = true := by first | (simp [plainName, overriddenIn]; done) | decide +kernel
theorem ef411 (m : MethodId) (x0 : Addr) : entryFrame m #[(.ref x0)] 1 = mkF m 0 #[.val (.ref x0)] [] := by first | (simp [entryFrame, mkF, argsToLocals, Value.category]; done) | rfl
def Q411 (Z : State) (a0 : Addr) (wa wb wc wd we : Addr) (ka kc : ClassId) (G1 : Int32) (h0 : Heap) (n0 : Nat) (v : Option Value) (h : Heap) (L : List Loc) : Prop := v = some (.int 1) ∧ Fr n0 L ∧ h = h0
theorem rm411 (l : Launch) (Z : State) (a0' : Array Value) (hw : ∀ d ∈ tables_1, d.before a0' Z = true) (ws : List Jvm.Cond) (a0 : Addr) (wa wb wc wd we : Addr) (ka kc : ClassId) (G1 : Int32) (h0 : Heap) (n0 : Nat) (O : Old Z n0 h0) (W : Wd Z wa wb wc wd we ka kc G1) (pf0 : Exa Z h0 a0 sT) (pf1 : Fld Z h0 a0 sT "e1" "Ljava/lang/Object;" (.ref wd)) :
    MetFree l mq31 (head1 (Jvm.Cond.code mq31 jdk_44_method_3_code 1 (some .int) :: ws) ({ frames := 0, cells := 0, slots := 0, locals := 0 } : Room)) (fun a U => a = #[(.ref a0)] ∧ Z.Warmed39 U.vm ∧ U.heap = h0) (fun _ _ _ _ _ => True) (fun _ U o U' => ∃ v L, o = .returned v ∧ Q411 Z a0 wa wb wc wd we ka kc G1 h0 n0 v U'.heap L ∧ FrameEnd U o U' L ({ frames := 0, cells := 0, slots := 0, locals := 0 } : Room).cells ({ frames := 0, cells := 0, slots := 0, locals := 0 } : Room).slots) := by
  refine MetFree.of_bodySF (plainFor_of_name pn12) hisR ?_
  intro p e s m args below meth c s₁ Bd hml0 hP hK
  obtain ⟨rfl, hZ, hh⟩ := hP
  have hx := Bd.exec
  have hby := Bd.bytes
  have hml : c.maxLocals = 1 := hml0
  have hown : s.vm.findClass sT = some m.cls := findClass_of_methodNamed Bd.named
  have hnm := (name_of_methodNamed Bd.named Bd.method).1
  have hk := Bd.notSynchronized
  have X0 : Stand p l e ({ frames := 0, cells := 0, slots := 0, locals := 0 } : Room) s m #[(.ref a0)] below meth c s₁ [] 0 0 := Stand.of_body Bd
  have hh2 := hh
  have e0 : s₁.heap = h0 := by rw [← hh, Bd.state]; rfl
  have N0 := Fr.nil n0
  show Gl p e below (Pos 0 0 (Q411 Z a0 wa wb wc wd we ka kc G1 h0 n0) s) s₁ _
  refine Gl.cast (ef411 m a0) ?_
  refine gb (mkF m 1 #[vr a0] [(.ref a0)]) (fun _ k => XS.aloadN X0.here hx rfl (hb hby d41_0) rfl rfl k) ?_
  obtain ⟨T1, X1, e1, st1⟩ := getF X0 hx hZ hown (host := "") (Or.inl (hW hw 272 rfl)) Via.refl e0 pf1 (g := (mkF m 1 #[vr a0] [(.ref a0)])) rfl rfl (hb hby d41_1)
  refine gb (mkF m 4 #[vr a0] [(.ref wd)]) st1 ?_
  obtain ⟨T2, X2, e2, st2⟩ := getS2 X1 hx hZ hown (Or.inr (hW hw 280 rfl)) Via.refl e1 (Sta.ext O.2 W.2.2.2.2.2.2.1) (g := (mkF m 4 #[vr a0] [(.ref wd)])) rfl (hb hby d41_4)
  refine gb (mkF m 7 #[vr a0] [(.ref wd), (.ref wd)]) st2 ?_
  refine gb (mkF m 14 #[vr a0] []) (fun _ k => Jvm.RoadKit.acmp (g := (mkF m 7 #[vr a0] [(.ref wd), (.ref wd)])) X2 hx rfl rfl rfl (pc0 := 7) (pc' := 14) (same := true) rfl (hb hby d41_7) rfl (decide_eq_true (congrArg Value.ref rfl)) (by decide) (by decide) k) ?_
  refine gb (mkF m 15 #[vr a0] [(.int 1)]) (fun _ k => XS.iconst X2.here hx rfl (hb hby d41_14) k) ?_
  exact Gl.outI X2 hx hk Bd.returns (hb hby d41_15) ⟨rfl, N0, e2⟩ (by decide) (by decide)
theorem d41_10 : decode jdk_44_method_3_code 10 = .ok (.iconst 2, 1) := by decide +kernel
theorem d41_11 : decode jdk_44_method_3_code 11 = .ok (.goto 4, 3) := by decide +kernel
theorem ef412 (m : MethodId) (x0 : Addr) : entryFrame m #[(.ref x0)] 1 = mkF m 0 #[.val (.ref x0)] [] := by first | (simp [entryFrame, mkF, argsToLocals, Value.category]; done) | rfl
def Q412 (Z : State) (a0 : Addr) (yy : Addr) (wa wb wc wd we : Addr) (ka kc : ClassId) (G1 : Int32) (h0 : Heap) (n0 : Nat) (v : Option Value) (h : Heap) (L : List Loc) : Prop := v = some (.int 2) ∧ Fr n0 L ∧ h = h0
theorem rm412 (l : Launch) (Z : State) (a0' : Array Value) (hw : ∀ d ∈ tables_1, d.before a0' Z = true) (ws : List Jvm.Cond) (a0 : Addr) (yy : Addr) (wa wb wc wd we : Addr) (ka kc : ClassId) (G1 : Int32) (h0 : Heap) (n0 : Nat) (O : Old Z n0 h0) (W : Wd Z wa wb wc wd we ka kc G1) (pf0 : Exa Z h0 a0 sT) (pf1 : Fld Z h0 a0 sT "e1" "Ljava/lang/Object;" (.ref yy)) (np_yy_w_em : yy ≠ wd) :
    MetFree l mq31 (head1 (Jvm.Cond.code mq31 jdk_44_method_3_code 1 (some .int) :: ws) ({ frames := 0, cells := 0, slots := 0, locals := 0 } : Room)) (fun a U => a = #[(.ref a0)] ∧ Z.Warmed39 U.vm ∧ U.heap = h0) (fun _ _ _ _ _ => True) (fun _ U o U' => ∃ v L, o = .returned v ∧ Q412 Z a0 yy wa wb wc wd we ka kc G1 h0 n0 v U'.heap L ∧ FrameEnd U o U' L ({ frames := 0, cells := 0, slots := 0, locals := 0 } : Room).cells ({ frames := 0, cells := 0, slots := 0, locals := 0 } : Room).slots) := by
  refine MetFree.of_bodySF (plainFor_of_name pn12) hisR ?_
  intro p e s m args below meth c s₁ Bd hml0 hP hK
  obtain ⟨rfl, hZ, hh⟩ := hP
  have hx := Bd.exec
  have hby := Bd.bytes
  have hml : c.maxLocals = 1 := hml0
  have hown : s.vm.findClass sT = some m.cls := findClass_of_methodNamed Bd.named
  have hnm := (name_of_methodNamed Bd.named Bd.method).1
  have hk := Bd.notSynchronized
  have X0 : Stand p l e ({ frames := 0, cells := 0, slots := 0, locals := 0 } : Room) s m #[(.ref a0)] below meth c s₁ [] 0 0 := Stand.of_body Bd
  have hh2 := hh
  have e0 : s₁.heap = h0 := by rw [← hh, Bd.state]; rfl
  have N0 := Fr.nil n0
  show Gl p e below (Pos 0 0 (Q412 Z a0 yy wa wb wc wd we ka kc G1 h0 n0) s) s₁ _
  refine Gl.cast (ef412 m a0) ?_
  refine gb (mkF m 1 #[vr a0] [(.ref a0)]) (fun _ k => XS.aloadN X0.here hx rfl (hb hby d41_0) rfl rfl k) ?_
  obtain ⟨T1, X1, e1, st1⟩ := getF X0 hx hZ hown (host := "") (Or.inl (hW hw 272 rfl)) Via.refl e0 pf1 (g := (mkF m 1 #[vr a0] [(.ref a0)])) rfl rfl (hb hby d41_1)
  refine gb (mkF m 4 #[vr a0] [(.ref yy)]) st1 ?_
  obtain ⟨T2, X2, e2, st2⟩ := getS2 X1 hx hZ hown (Or.inr (hW hw 280 rfl)) Via.refl e1 (Sta.ext O.2 W.2.2.2.2.2.2.1) (g := (mkF m 4 #[vr a0] [(.ref yy)])) rfl (hb hby d41_4)
  refine gb (mkF m 7 #[vr a0] [(.ref wd), (.ref yy)]) st2 ?_
  refine gb (mkF m 10 #[vr a0] []) (fun _ k => Jvm.RoadKit.acmp (g := (mkF m 7 #[vr a0] [(.ref wd), (.ref yy)])) X2 hx rfl rfl rfl (pc0 := 7) (pc' := 10) (same := false) rfl (hb hby d41_7) rfl (decide_eq_false fun q => np_yy_w_em (Value.ref.inj q)) (by decide) (by decide) k) ?_
  refine gb (mkF m 11 #[vr a0] [(.int 2)]) (fun _ k => XS.iconst X2.here hx rfl (hb hby d41_10) k) ?_
  refine gb (mkF m 15 #[vr a0] [(.int 2)]) (fun _ k => XS.goto X2.here hx rfl (pc0 := 11) (pc' := 15) rfl (hb hby d41_11) (by decide) (by decide) k) ?_
  exact Gl.outI X2 hx hk Bd.returns (hb hby d41_15) ⟨rfl, N0, e2⟩ (by decide) (by decide)
theorem d36_0 : decode jdk_31_method_10_code 0 = .ok (.aload_n 0, 1) := by decide +kernel
theorem d36_1 : decode jdk_31_method_10_code 1 = .ok (.ifnonnull 11, 3) := by decide +kernel
theorem d36_12 : decode jdk_31_method_10_code 12 = .ok (.aload_n 0, 1) := by decide +kernel
theorem d36_13 : decode jdk_31_method_10_code 13 = .ok (.areturn, 1) := by decide +kernel
theorem pn13 : plainName "java/util/Objects" = true := by first | (simp [plainName, overriddenIn]; done) | decide +kernel
theorem ef36 (m : MethodId) (x0 : Addr) : entryFrame m #[(.ref x0)] 1 = mkF m 0 #[.val (.ref x0)] [] := by first | (simp [entryFrame, mkF, argsToLocals, Value.category]; done) | rfl
def Q36 (Z : State) (a0 : Addr) (wa wb wc wd we : Addr) (ka kc : ClassId) (G1 : Int32) (h0 : Heap) (n0 : Nat) (v : Option Value) (h : Heap) (L : List Loc) : Prop := v = some (.ref a0) ∧ Fr n0 L ∧ h = h0
theorem rm36 (l : Launch) (Z : State) (a0' : Array Value) (hw : ∀ d ∈ tables_1, d.before a0' Z = true) (ws : List Jvm.Cond) (a0 : Addr) (wa wb wc wd we : Addr) (ka kc : ClassId) (G1 : Int32) (h0 : Heap) (n0 : Nat) (O : Old Z n0 h0) (W : Wd Z wa wb wc wd we ka kc G1) :
    MetFree l mq32 (head1 (Jvm.Cond.code mq32 jdk_31_method_10_code 1 (some oT) :: ws) ({ frames := 0, cells := 0, slots := 0, locals := 0 } : Room)) (fun a U => a = #[(.ref a0)] ∧ Z.Warmed39 U.vm ∧ U.heap = h0) (fun _ _ _ _ _ => True) (fun _ U o U' => ∃ v L, o = .returned v ∧ Q36 Z a0 wa wb wc wd we ka kc G1 h0 n0 v U'.heap L ∧ FrameEnd U o U' L ({ frames := 0, cells := 0, slots := 0, locals := 0 } : Room).cells ({ frames := 0, cells := 0, slots := 0, locals := 0 } : Room).slots) := by
  refine MetFree.of_bodySF (plainFor_of_name pn13) hisR ?_
  intro p e s m args below meth c s₁ Bd hml0 hP hK
  obtain ⟨rfl, hZ, hh⟩ := hP
  have hx := Bd.exec
  have hby := Bd.bytes
  have hml : c.maxLocals = 1 := hml0
  have hown : s.vm.findClass "java/util/Objects" = some m.cls := findClass_of_methodNamed Bd.named
  have hnm := (name_of_methodNamed Bd.named Bd.method).1
  have hk := Bd.notSynchronized
  have X0 : Stand p l e ({ frames := 0, cells := 0, slots := 0, locals := 0 } : Room) s m #[(.ref a0)] below meth c s₁ [] 0 0 := Stand.of_body Bd
  have hh2 := hh
  have e0 : s₁.heap = h0 := by rw [← hh, Bd.state]; rfl
  have N0 := Fr.nil n0
  show Gl p e below (Pos 0 0 (Q36 Z a0 wa wb wc wd we ka kc G1 h0 n0) s) s₁ _
  refine Gl.cast (ef36 m a0) ?_
  refine gb (mkF m 1 #[vr a0] [(.ref a0)]) (fun _ k => XS.aloadN X0.here hx rfl (hb hby d36_0) rfl rfl k) ?_
  refine gb (mkF m 12 #[vr a0] []) (fun _ k => XS.ifnonnullYes X0.here hx rfl (pc0 := 1) (pc' := 12) rfl (hb hby d36_1) rfl (by decide) (by decide) k) ?_
  refine gb (mkF m 13 #[vr a0] [(.ref a0)]) (fun _ k => XS.aloadN X0.here hx rfl (hb hby d36_12) rfl rfl k) ?_
  exact Gl.outA X0 hx hk Bd.returns rfl rfl (hb hby d36_13) ⟨rfl, N0, e0⟩ (by decide) (by decide)
theorem d39_0 : decode jdk_47_method_1_code 0 = .ok (.aload_n 0, 1) := by decide +kernel
theorem d39_1 : decode jdk_47_method_1_code 1 = .ok (.invokespecial 1, 3) := by decide +kernel
theorem d39_4 : decode jdk_47_method_1_code 4 = .ok (.return_, 1) := by decide +kernel
theorem pn14 : plainName "java/util/ImmutableCollections$AbstractImmutableCollection" = true := by first | (simp [plainName, overriddenIn]; done) | decide +kernel
theorem ef39 (m : MethodId) (x0 : Addr) : entryFrame m #[(.ref x0)] 1 = mkF m 0 #[.val (.ref x0)] [] := by first | (simp [entryFrame, mkF, argsToLocals, Value.category]; done) | rfl
def Q39 (Z : State) (a0 : Addr) (wa wb wc wd we : Addr) (ka kc : ClassId) (G1 : Int32) (h0 : Heap) (n0 : Nat) (v : Option Value) (h : Heap) (L : List Loc) : Prop := v = none ∧ Fr n0 L ∧ h = h0
theorem rm39 (l : Launch) (Z : State) (a0' : Array Value) (hw : ∀ d ∈ tables_1, d.before a0' Z = true) (ws : List Jvm.Cond) (a0 : Addr) (wa wb wc wd we : Addr) (ka kc : ClassId) (G1 : Int32) (h0 : Heap) (n0 : Nat) (O : Old Z n0 h0) (W : Wd Z wa wb wc wd we ka kc G1) :
    MetFree l mq33 (head1 (Jvm.Cond.code mq33 jdk_47_method_1_code 1 none :: ws) ({ frames := 2, cells := 0, slots := 0, locals := 24 } : Room)) (fun a U => a = #[(.ref a0)] ∧ Z.Warmed39 U.vm ∧ U.heap = h0) (fun _ _ _ _ _ => True) (fun _ U o U' => ∃ v L, o = .returned v ∧ Q39 Z a0 wa wb wc wd we ka kc G1 h0 n0 v U'.heap L ∧ FrameEnd U o U' L ({ frames := 2, cells := 0, slots := 0, locals := 24 } : Room).cells ({ frames := 2, cells := 0, slots := 0, locals := 24 } : Room).slots) := by
  refine MetFree.of_bodySF (plainFor_of_name pn14) hisR ?_
  intro p e s m args below meth c s₁ Bd hml0 hP hK
  obtain ⟨rfl, hZ, hh⟩ := hP
  have hx := Bd.exec
  have hby := Bd.bytes
  have hml : c.maxLocals = 1 := hml0
  have hown : s.vm.findClass "java/util/ImmutableCollections$AbstractImmutableCollection" = some m.cls := findClass_of_methodNamed Bd.named
  have hnm := (name_of_methodNamed Bd.named Bd.method).1
  have hk := Bd.notSynchronized
  have X0 : Stand p l e ({ frames := 2, cells := 0, slots := 0, locals := 24 } : Room) s m #[(.ref a0)] below meth c s₁ [] 0 0 := Stand.of_body Bd
  have hh2 := hh
  have e0 : s₁.heap = h0 := by rw [← hh, Bd.state]; rfl
  have N0 := Fr.nil n0
  show Gl p e below (Pos 0 0 (Q39 Z a0 wa wb wc wd we ka kc G1 h0 n0) s) s₁ _
  refine Gl.cast (ef39 m a0) ?_
  refine gb (mkF m 1 #[vr a0] [(.ref a0)]) (fun _ k => XS.aloadN X0.here hx rfl (hb hby d39_0) rfl rfl k) ?_
  obtain ⟨_, _, ⟨T1, L1, k1, n1⟩, -, X1, ⟨Lc1, hQ1, l1, y1, z1⟩, st1⟩ := X0.specialBack hx (y := mq22) rfl hown (mvT hZ (hW hw 254 rfl)) (mvT hZ (hW hw 22 rfl)) (mvT hZ (hW hw 26 rfl)) (by decide) (backOf (W := 0) (rm5 l Z a0' hw [] a0 wa wb wc wd we ka kc G1 h0 n0 O W ) hZ (hW hw 26 rfl) (hW hw 25 rfl) (by decide) (by decide)) (g := (mkF m 1 #[vr a0] [(.ref a0)])) rfl (by rw [hml]; rfl) (Steps.refl _) (a := a0) (argsL := []) (rest := []) (lenOf pd73 rfl) rfl (Nat.le_of_eq rfl) (hb hby d39_1) (fun _ _ => ⟨rfl, e0, (by decide : 0 + 0 ≤ _), (by decide : 0 + 0 ≤ _)⟩)
  dsimp only [Pt.U, Pt.locs, Pt.cells, Pt.slots] at X1 l1 y1 z1 st1 hQ1
  subst l1 y1 z1
  obtain ⟨rfl, N1q, e1⟩ := hQ1
  have N1 := Fr.app N0 N1q
  refine gb (mkF m 4 #[vr a0] []) (fun _ k => st1.trans k) ?_
  exact Gl.outV X1 hx hk Bd.returns (hb hby d39_4) ⟨rfl, N1, e1⟩ (by decide) (by decide)
theorem d38_0 : decode jdk_46_method_1_code 0 = .ok (.aload_n 0, 1) := by decide +kernel
theorem d38_1 : decode jdk_46_method_1_code 1 = .ok (.invokespecial 1, 3) := by decide +kernel
theorem d38_4 : decode jdk_46_method_1_code 4 = .ok (.return_, 1) := by decide +kernel
theorem pn15 : plainName "java/util/ImmutableCollections$AbstractImmutableList" = true := by first | (simp [plainName, overriddenIn]; done) | decide +kernel
theorem ef38 (m : MethodId) (x0 : Addr) : entryFrame m #[(.ref x0)] 1 = mkF m 0 #[.val (.ref x0)] [] := by first | (simp [entryFrame, mkF, argsToLocals, Value.category]; done) | rfl
def Q38 (Z : State) (a0 : Addr) (wa wb wc wd we : Addr) (ka kc : ClassId) (G1 : Int32) (h0 : Heap) (n0 : Nat) (v : Option Value) (h : Heap) (L : List Loc) : Prop := v = none ∧ Fr n0 L ∧ h = h0
theorem rm38 (l : Launch) (Z : State) (a0' : Array Value) (hw : ∀ d ∈ tables_1, d.before a0' Z = true) (ws : List Jvm.Cond) (a0 : Addr) (wa wb wc wd we : Addr) (ka kc : ClassId) (G1 : Int32) (h0 : Heap) (n0 : Nat) (O : Old Z n0 h0) (W : Wd Z wa wb wc wd we ka kc G1) :
    MetFree l mq34 (head1 (Jvm.Cond.code mq34 jdk_46_method_1_code 1 none :: ws) ({ frames := 3, cells := 0, slots := 0, locals := 36 } : Room)) (fun a U => a = #[(.ref a0)] ∧ Z.Warmed39 U.vm ∧ U.heap = h0) (fun _ _ _ _ _ => True) (fun _ U o U' => ∃ v L, o = .returned v ∧ Q38 Z a0 wa wb wc wd we ka kc G1 h0 n0 v U'.heap L ∧ FrameEnd U o U' L ({ frames := 3, cells := 0, slots := 0, locals := 36 } : Room).cells ({ frames := 3, cells := 0, slots := 0, locals := 36 } : Room).slots) := by
  refine MetFree.of_bodySF (plainFor_of_name pn15) hisR ?_
  intro p e s m args below meth c s₁ Bd hml0 hP hK
  obtain ⟨rfl, hZ, hh⟩ := hP
  have hx := Bd.exec
  have hby := Bd.bytes
  have hml : c.maxLocals = 1 := hml0
  have hown : s.vm.findClass "java/util/ImmutableCollections$AbstractImmutableList" = some m.cls := findClass_of_methodNamed Bd.named
  have hnm := (name_of_methodNamed Bd.named Bd.method).1
  have hk := Bd.notSynchronized
  have X0 : Stand p l e ({ frames := 3, cells := 0, slots := 0, locals := 36 } : Room) s m #[(.ref a0)] below meth c s₁ [] 0 0 := Stand.of_body Bd
  have hh2 := hh
  have e0 : s₁.heap = h0 := by rw [← hh, Bd.state]; rfl
  have N0 := Fr.nil n0
  show Gl p e below (Pos 0 0 (Q38 Z a0 wa wb wc wd we ka kc G1 h0 n0) s) s₁ _
  refine Gl.cast (ef38 m a0) ?_
  refine gb (mkF m 1 #[vr a0] [(.ref a0)]) (fun _ k => XS.aloadN X0.here hx rfl (hb hby d38_0) rfl rfl k) ?_
  obtain ⟨_, _, ⟨T1, L1, k1, n1⟩, -, X1, ⟨Lc1, hQ1, l1, y1, z1⟩, st1⟩ := X0.specialBack hx (y := mq33) rfl hown (mvT hZ (hW hw 248 rfl)) (mvT hZ (hW hw 249 rfl)) (mvT hZ (hW hw 253 rfl)) (by decide) (backOf (W := 0) (rm39 l Z a0' hw [] a0 wa wb wc wd we ka kc G1 h0 n0 O W ) hZ (hW hw 253 rfl) (hW hw 252 rfl) (by decide) (by decide)) (g := (mkF m 1 #[vr a0] [(.ref a0)])) rfl (by rw [hml]; rfl) (Steps.refl _) (a := a0) (argsL := []) (rest := []) (lenOf pd73 rfl) rfl (Nat.le_of_eq rfl) (hb hby d38_1) (fun _ _ => ⟨rfl, e0, (by decide : 0 + 0 ≤ _), (by decide : 0 + 0 ≤ _)⟩)
  dsimp only [Pt.U, Pt.locs, Pt.cells, Pt.slots] at X1 l1 y1 z1 st1 hQ1
  subst l1 y1 z1
  obtain ⟨rfl, N1q, e1⟩ := hQ1
  have N1 := Fr.app N0 N1q
  refine gb (mkF m 4 #[vr a0] []) (fun _ k => st1.trans k) ?_
  exact Gl.outV X1 hx hk Bd.returns (hb hby d38_4) ⟨rfl, N1, e1⟩ (by decide) (by decide)
theorem d37_0 : decode jdk_45_method_1_code 0 = .ok (.aload_n 0, 1) := by decide +kernel
theorem d37_1 : decode jdk_45_method_1_code 1 = .ok (.invokespecial 1, 3) := by decide +kernel
theorem d37_4 : decode jdk_45_method_1_code 4 = .ok (.aload_n 0, 1) := by decide +kernel
theorem d37_5 : decode jdk_45_method_1_code 5 = .ok (.aload_n 1, 1) := by decide +kernel
theorem d37_6 : decode jdk_45_method_1_code 6 = .ok (.putfield 7, 3) := by decide +kernel
theorem d37_9 : decode jdk_45_method_1_code 9 = .ok (.aload_n 0, 1) := by decide +kernel
theorem d37_10 : decode jdk_45_method_1_code 10 = .ok (.iload_n 2, 1) := by decide +kernel
theorem d37_11 : decode jdk_45_method_1_code 11 = .ok (.putfield 13, 3) := by decide +kernel
theorem d37_14 : decode jdk_45_method_1_code 14 = .ok (.return_, 1) := by decide +kernel
theorem ef37 (m : MethodId) (x0 x1 : Addr) (x2 : Int32) : entryFrame m #[(.ref x0), (.ref x1), (.int x2)] 3 = mkF m 0 #[.val (.ref x0), .val (.ref x1), .val (.int x2)] [] := by first | (simp [entryFrame, mkF, argsToLocals, Value.category]; done) | rfl
def Q37 (Z : State) (a0 : Addr) (a1 : Addr) (wa wb wc wd we : Addr) (ka kc : ClassId) (G1 : Int32) (h0 : Heap) (n0 : Nat) (v : Option Value) (h : Heap) (L : List Loc) : Prop := v = none ∧ Fr n0 L ∧ Keep h0 h [a0] ∧ Fld Z h a0 sN "elements" sO (.ref a1)
theorem rm37 (l : Launch) (Z : State) (a0' : Array Value) (hw : ∀ d ∈ tables_1, d.before a0' Z = true) (ws : List Jvm.Cond) (a0 : Addr) (a1 : Addr) (wa wb wc wd we : Addr) (ka kc : ClassId) (G1 : Int32) (h0 : Heap) (n0 : Nat) (O : Old Z n0 h0) (W : Wd Z wa wb wc wd we ka kc G1) (pf0 : Exa Z h0 a0 sN) (pf1 : Fld Z h0 a0 sN "elements" sO .null) (pf2 : Fld Z h0 a0 sN "allowNulls" "Z" (.int 0)) (gp_a0 : n0 ≤ a0) :
    MetFree l mq35 (head1 (Jvm.Cond.code mq35 jdk_45_method_1_code 3 none :: ws) ({ frames := 4, cells := 0, slots := 0, locals := 48 } : Room)) (fun a U => a = #[(.ref a0), (.ref a1), (.int 0)] ∧ Z.Warmed39 U.vm ∧ U.heap = h0) (fun _ _ _ _ _ => True) (fun _ U o U' => ∃ v L, o = .returned v ∧ Q37 Z a0 a1 wa wb wc wd we ka kc G1 h0 n0 v U'.heap L ∧ FrameEnd U o U' L ({ frames := 4, cells := 0, slots := 0, locals := 48 } : Room).cells ({ frames := 4, cells := 0, slots := 0, locals := 48 } : Room).slots) := by
  refine MetFree.of_bodySF (plainFor_of_name pn11) hisR ?_
  intro p e s m args below meth c s₁ Bd hml0 hP hK
  obtain ⟨rfl, hZ, hh⟩ := hP
  have hx := Bd.exec
  have hby := Bd.bytes
  have hml : c.maxLocals = 3 := hml0
  have hown : s.vm.findClass sN = some m.cls := findClass_of_methodNamed Bd.named
  have hnm := (name_of_methodNamed Bd.named Bd.method).1
  have hk := Bd.notSynchronized
  have X0 : Stand p l e ({ frames := 4, cells := 0, slots := 0, locals := 48 } : Room) s m #[(.ref a0), (.ref a1), (.int 0)] below meth c s₁ [] 0 0 := Stand.of_body Bd
  have hh2 := hh
  have e0 : s₁.heap = h0 := by rw [← hh, Bd.state]; rfl
  have N0 := Fr.nil n0
  show Gl p e below (Pos 0 0 (Q37 Z a0 a1 wa wb wc wd we ka kc G1 h0 n0) s) s₁ _
  refine Gl.cast (ef37 m a0 a1 (0 : Int32)) ?_
  refine gb (mkF m 1 #[vr a0, vr a1, vi 0] [(.ref a0)]) (fun _ k => XS.aloadN X0.here hx rfl (hb hby d37_0) rfl rfl k) ?_
  obtain ⟨_, _, ⟨T1, L1, k1, n1⟩, -, X1, ⟨Lc1, hQ1, l1, y1, z1⟩, st1⟩ := X0.specialBack hx (y := mq34) rfl hown (mvT hZ (hW hw 242 rfl)) (mvT hZ (hW hw 243 rfl)) (mvT hZ (hW hw 247 rfl)) (by decide) (backOf (W := 0) (rm38 l Z a0' hw [] a0 wa wb wc wd we ka kc G1 h0 n0 O W ) hZ (hW hw 247 rfl) (hW hw 246 rfl) (by decide) (by decide)) (g := (mkF m 1 #[vr a0, vr a1, vi 0] [(.ref a0)])) rfl (by rw [hml]; rfl) (Steps.refl _) (a := a0) (argsL := []) (rest := []) (lenOf pd73 rfl) rfl (Nat.le_of_eq rfl) (hb hby d37_1) (fun _ _ => ⟨rfl, e0, (by decide : 0 + 0 ≤ _), (by decide : 0 + 0 ≤ _)⟩)
  dsimp only [Pt.U, Pt.locs, Pt.cells, Pt.slots] at X1 l1 y1 z1 st1 hQ1
  subst l1 y1 z1
  obtain ⟨rfl, N1q, e1⟩ := hQ1
  have N1 := Fr.app N0 N1q
  refine gb (mkF m 4 #[vr a0, vr a1, vi 0] []) (fun _ k => st1.trans k) ?_
  refine gb (mkF m 5 #[vr a0, vr a1, vi 0] [(.ref a0)]) (fun _ k => XS.aloadN X1.here hx rfl (hb hby d37_4) rfl rfl k) ?_
  refine gb (mkF m 6 #[vr a0, vr a1, vi 0] [(.ref a1), (.ref a0)]) (fun _ k => XS.aloadN X1.here hx rfl (hb hby d37_5) rfl rfl k) ?_
  obtain ⟨T2, h2, X2, e2, W2, st2⟩ := putF X1 hx hZ hown (host := "") (Or.inl (hW hw 93 rfl)) Via.refl e1 pf1 pf0 (Or.inr ⟨(hW hw 94 rfl), rfl, hnm⟩) (hW hw 237 rfl) (ty := (.array oT)) (by decide) rfl rfl (g := (mkF m 6 #[vr a0, vr a1, vi 0] [(.ref a1), (.ref a0)])) rfl rfl (hb hby d37_6)
  have N2 := Fr.snoc X2 N1 gp_a0
  have Fw2 := Fld.same W2 pf1
  refine gb (mkF m 9 #[vr a0, vr a1, vi 0] []) st2 ?_
  refine gb (mkF m 10 #[vr a0, vr a1, vi 0] [(.ref a0)]) (fun _ k => XS.aloadN X2.here hx rfl (hb hby d37_9) rfl rfl k) ?_
  refine gb (mkF m 11 #[vr a0, vr a1, vi 0] [(.int 0), (.ref a0)]) (fun _ k => XS.iloadN X2.here hx rfl (hb hby d37_10) rfl k) ?_
  have f3 := (Exa.wr W2 pf0)
  have f4 := (Fld.other W2 pf2 (Or.inr (slot_ne (Or.inr (hW hw 257 rfl)) (Or.inr (hW hw 94 rfl)) (by decide) (t := .boolean) (t' := (.array oT)) (by decide) (by decide))))
  obtain ⟨T5, h5, X5, e5, W5, st5⟩ := putFN X2 hx hZ hown (hW hw 256 rfl) Via.refl e2 f4 f3 (Or.inr ⟨(hW hw 257 rfl), rfl, hnm⟩) (hW hw 237 rfl) (ty := .boolean) (v' := (.int (nar .boolean (0 : Int32)))) (by decide) rfl (fits_nar_bool _) (g := (mkF m 11 #[vr a0, vr a1, vi 0] [(.int 0), (.ref a0)])) rfl rfl (hb hby d37_11)
  have N5 := Fr.snoc X5 N2 gp_a0
  have Fw5 := Fld.same W5 f4
  refine gb (mkF m 14 #[vr a0, vr a1, vi 0] []) st5 ?_
  have K6 := (((Keep.refl h0 [a0]).wr W2 (Or.inl (List.mem_of_getElem? (i := 0) rfl))).wr W5 (Or.inl (List.mem_of_getElem? (i := 0) rfl)))
  have f7 := (Fld.other W5 Fw2 (Or.inr (slot_ne (Or.inr (hW hw 94 rfl)) (Or.inr (hW hw 257 rfl)) (by decide) (t := (.array oT)) (t' := .boolean) (by decide) (by decide))))
  exact Gl.outV X5 hx hk Bd.returns (hb hby d37_14) (Eq.mpr (congrArg (fun hh => Q37 Z a0 a1 wa wb wc wd we ka kc G1 h0 n0 _ hh _) e5) (show Q37 Z a0 a1 wa wb wc wd we ka kc G1 h0 n0 _ h5 _ from ⟨rfl, N5, K6, f7⟩)) (by decide) (by decide)
theorem d42_0 : decode jdk_44_method_1_code 0 = .ok (.aload_n 0, 1) := by decide +kernel
theorem d42_1 : decode jdk_44_method_1_code 1 = .ok (.invokespecial 1, 3) := by decide +kernel
theorem d42_4 : decode jdk_44_method_1_code 4 = .ok (.aload_n 0, 1) := by decide +kernel
theorem d42_5 : decode jdk_44_method_1_code 5 = .ok (.aload_n 1, 1) := by decide +kernel
theorem d42_6 : decode jdk_44_method_1_code 6 = .ok (.invokestatic 7, 3) := by decide +kernel
theorem d42_9 : decode jdk_44_method_1_code 9 = .ok (.putfield 13, 3) := by decide +kernel
theorem d42_12 : decode jdk_44_method_1_code 12 = .ok (.aload_n 0, 1) := by decide +kernel
theorem d42_13 : decode jdk_44_method_1_code 13 = .ok (.getstatic 19, 3) := by decide +kernel
theorem d42_16 : decode jdk_44_method_1_code 16 = .ok (.putfield 24, 3) := by decide +kernel
theorem d42_19 : decode jdk_44_method_1_code 19 = .ok (.return_, 1) := by decide +kernel
theorem pd311 : parseMethodDescriptor "(Ljava/lang/Object;)Ljava/lang/Object;" = some ⟨[oT], some oT⟩ := by decide +kernel
theorem ef42 (m : MethodId) (x0 x1 : Addr) : entryFrame m #[(.ref x0), (.ref x1)] 2 = mkF m 0 #[.val (.ref x0), .val (.ref x1)] [] := by first | (simp [entryFrame, mkF, argsToLocals, Value.category]; done) | rfl
def Q42 (Z : State) (a0 : Addr) (a1 : Addr) (wa wb wc wd we : Addr) (ka kc : ClassId) (G1 : Int32) (h0 : Heap) (n0 : Nat) (v : Option Value) (h : Heap) (L : List Loc) : Prop := v = none ∧ Fr n0 L ∧ Keep h0 h [a0] ∧ Fld Z h a0 sT "e1" "Ljava/lang/Object;" (.ref wd)
theorem rm42 (l : Launch) (Z : State) (a0' : Array Value) (hw : ∀ d ∈ tables_1, d.before a0' Z = true) (ws : List Jvm.Cond) (a0 : Addr) (a1 : Addr) (wa wb wc wd we : Addr) (ka kc : ClassId) (G1 : Int32) (h0 : Heap) (n0 : Nat) (O : Old Z n0 h0) (W : Wd Z wa wb wc wd we ka kc G1) (pf0 : Exa Z h0 a0 sT) (pf1 : Fld Z h0 a0 sT "e0" "Ljava/lang/Object;" .null) (pf2 : Fld Z h0 a0 sT "e1" "Ljava/lang/Object;" .null) (gp_a0 : n0 ≤ a0) :
    MetFree l mq36 (head1 (Jvm.Cond.code mq36 jdk_44_method_1_code 2 none :: ws) ({ frames := 4, cells := 0, slots := 0, locals := 48 } : Room)) (fun a U => a = #[(.ref a0), (.ref a1)] ∧ Z.Warmed39 U.vm ∧ U.heap = h0) (fun _ _ _ _ _ => True) (fun _ U o U' => ∃ v L, o = .returned v ∧ Q42 Z a0 a1 wa wb wc wd we ka kc G1 h0 n0 v U'.heap L ∧ FrameEnd U o U' L ({ frames := 4, cells := 0, slots := 0, locals := 48 } : Room).cells ({ frames := 4, cells := 0, slots := 0, locals := 48 } : Room).slots) := by
  refine MetFree.of_bodySF (plainFor_of_name pn12) hisR ?_
  intro p e s m args below meth c s₁ Bd hml0 hP hK
  obtain ⟨rfl, hZ, hh⟩ := hP
  have hx := Bd.exec
  have hby := Bd.bytes
  have hml : c.maxLocals = 2 := hml0
  have hown : s.vm.findClass sT = some m.cls := findClass_of_methodNamed Bd.named
  have hnm := (name_of_methodNamed Bd.named Bd.method).1
  have hk := Bd.notSynchronized
  have X0 : Stand p l e ({ frames := 4, cells := 0, slots := 0, locals := 48 } : Room) s m #[(.ref a0), (.ref a1)] below meth c s₁ [] 0 0 := Stand.of_body Bd
  have hh2 := hh
  have e0 : s₁.heap = h0 := by rw [← hh, Bd.state]; rfl
  have N0 := Fr.nil n0
  show Gl p e below (Pos 0 0 (Q42 Z a0 a1 wa wb wc wd we ka kc G1 h0 n0) s) s₁ _
  refine Gl.cast (ef42 m a0 a1) ?_
  refine gb (mkF m 1 #[vr a0, vr a1] [(.ref a0)]) (fun _ k => XS.aloadN X0.here hx rfl (hb hby d42_0) rfl rfl k) ?_
  obtain ⟨_, _, ⟨T1, L1, k1, n1⟩, -, X1, ⟨Lc1, hQ1, l1, y1, z1⟩, st1⟩ := X0.specialBack hx (y := mq34) rfl hown (mvT hZ (hW hw 265 rfl)) (mvT hZ (hW hw 243 rfl)) (mvT hZ (hW hw 247 rfl)) (by decide) (backOf (W := 0) (rm38 l Z a0' hw [] a0 wa wb wc wd we ka kc G1 h0 n0 O W ) hZ (hW hw 247 rfl) (hW hw 246 rfl) (by decide) (by decide)) (g := (mkF m 1 #[vr a0, vr a1] [(.ref a0)])) rfl (by rw [hml]; rfl) (Steps.refl _) (a := a0) (argsL := []) (rest := []) (lenOf pd73 rfl) rfl (Nat.le_of_eq rfl) (hb hby d42_1) (fun _ _ => ⟨rfl, e0, (by decide : 0 + 0 ≤ _), (by decide : 0 + 0 ≤ _)⟩)
  dsimp only [Pt.U, Pt.locs, Pt.cells, Pt.slots] at X1 l1 y1 z1 st1 hQ1
  subst l1 y1 z1
  obtain ⟨rfl, N1q, e1⟩ := hQ1
  have N1 := Fr.app N0 N1q
  refine gb (mkF m 4 #[vr a0, vr a1] []) (fun _ k => st1.trans k) ?_
  refine gb (mkF m 5 #[vr a0, vr a1] [(.ref a0)]) (fun _ k => XS.aloadN X1.here hx rfl (hb hby d42_4) rfl rfl k) ?_
  refine gb (mkF m 6 #[vr a0, vr a1] [(.ref a1), (.ref a0)]) (fun _ k => XS.aloadN X1.here hx rfl (hb hby d42_5) rfl rfl k) ?_
  obtain ⟨_, _, ⟨T2, L2, k2, n2⟩, -, X2, ⟨Lc2, hQ2, l2, y2, z2⟩, st2⟩ := callS X1 hx (y := mq32) hown (mvT hZ (hW hw 269 rfl)) (mvT hZ (hW hw 234 rfl)) (mvT hZ (hW hw 235 rfl)) (mvT hZ (hW hw 236 rfl)) (by decide) (backOf (W := 1) (rm36 l Z a0' hw [] a1 wa wb wc wd we ka kc G1 h0 n0 O W ) hZ (hW hw 236 rfl) (hW hw 235 rfl) (by decide) (by decide)) (g := (mkF m 6 #[vr a0, vr a1] [(.ref a1), (.ref a0)])) rfl (by rw [hml]; rfl) (argsL := [(.ref a1)]) (rest := [(.ref a0)]) (lenOf pd311 rfl) rfl (Nat.le_of_eq rfl) (hb hby d42_6) (fun _ _ => ⟨rfl, e1, (by decide : 0 + 0 ≤ _), (by decide : 0 + 0 ≤ _)⟩)
  dsimp only [Pt.U, Pt.locs, Pt.cells, Pt.slots] at X2 l2 y2 z2 st2 hQ2
  subst l2 y2 z2
  obtain ⟨rfl, N2q, e2⟩ := hQ2
  have N2 := Fr.app N1 N2q
  refine gb (mkF m 9 #[vr a0, vr a1] [(.ref a1), (.ref a0)]) st2 ?_
  obtain ⟨T3, h3, X3, e3, W3, st3⟩ := putF X2 hx hZ hown (host := "") (Or.inl (hW hw 270 rfl)) Via.refl e2 pf1 pf0 (Or.inr ⟨(hW hw 271 rfl), rfl, hnm⟩) (hW hw 259 rfl) (ty := oT) (by decide) rfl rfl (g := (mkF m 9 #[vr a0, vr a1] [(.ref a1), (.ref a0)])) rfl rfl (hb hby d42_9)
  have N3 := Fr.snoc X3 N2 gp_a0
  have Fw3 := Fld.same W3 pf1
  refine gb (mkF m 12 #[vr a0, vr a1] []) st3 ?_
  refine gb (mkF m 13 #[vr a0, vr a1] [(.ref a0)]) (fun _ k => XS.aloadN X3.here hx rfl (hb hby d42_12) rfl rfl k) ?_
  have O5 := (O.wr W3 gp_a0)
  obtain ⟨T4, X4, e4, st4⟩ := getS2 X3 hx hZ hown (Or.inr (hW hw 280 rfl)) Via.refl e3 (Sta.ext O5.2 W.2.2.2.2.2.2.1) (g := (mkF m 13 #[vr a0, vr a1] [(.ref a0)])) rfl (hb hby d42_13)
  refine gb (mkF m 16 #[vr a0, vr a1] [(.ref wd), (.ref a0)]) st4 ?_
  have f6 := (Exa.wr W3 pf0)
  have f7 := (Fld.other W3 pf2 (Or.inr (slot_ne (Or.inr (hW hw 273 rfl)) (Or.inr (hW hw 271 rfl)) (by decide) (t := oT) (t' := oT) (by decide) (by decide))))
  obtain ⟨T8, h8, X8, e8, W8, st8⟩ := putF X4 hx hZ hown (host := "") (Or.inl (hW hw 272 rfl)) Via.refl e4 f7 f6 (Or.inr ⟨(hW hw 273 rfl), rfl, hnm⟩) (hW hw 259 rfl) (ty := oT) (by decide) rfl rfl (g := (mkF m 16 #[vr a0, vr a1] [(.ref wd), (.ref a0)])) rfl rfl (hb hby d42_16)
  have N8 := Fr.snoc X8 N3 gp_a0
  have Fw8 := Fld.same W8 f7
  refine gb (mkF m 19 #[vr a0, vr a1] []) st8 ?_
  have K9 := (((Keep.refl h0 [a0]).wr W3 (Or.inl (List.mem_of_getElem? (i := 0) rfl))).wr W8 (Or.inl (List.mem_of_getElem? (i := 0) rfl)))
  exact Gl.outV X8 hx hk Bd.returns (hb hby d42_19) (Eq.mpr (congrArg (fun hh => Q42 Z a0 a1 wa wb wc wd we ka kc G1 h0 n0 _ hh _) e8) (show Q42 Z a0 a1 wa wb wc wd we ka kc G1 h0 n0 _ h8 _ from ⟨rfl, N8, K9, Fw8⟩)) (by decide) (by decide)
theorem d40_0 : decode jdk_44_method_2_code 0 = .ok (.aload_n 0, 1) := by decide +kernel
theorem d40_1 : decode jdk_44_method_2_code 1 = .ok (.invokespecial 1, 3) := by decide +kernel
theorem d40_4 : decode jdk_44_method_2_code 4 = .ok (.aload_n 0, 1) := by decide +kernel
theorem d40_5 : decode jdk_44_method_2_code 5 = .ok (.aload_n 1, 1) := by decide +kernel
theorem d40_6 : decode jdk_44_method_2_code 6 = .ok (.invokestatic 7, 3) := by decide +kernel
theorem d40_9 : decode jdk_44_method_2_code 9 = .ok (.putfield 13, 3) := by decide +kernel
theorem d40_12 : decode jdk_44_method_2_code 12 = .ok (.aload_n 0, 1) := by decide +kernel
theorem d40_13 : decode jdk_44_method_2_code 13 = .ok (.aload_n 2, 1) := by decide +kernel
theorem d40_14 : decode jdk_44_method_2_code 14 = .ok (.invokestatic 7, 3) := by decide +kernel
theorem d40_17 : decode jdk_44_method_2_code 17 = .ok (.putfield 24, 3) := by decide +kernel
theorem d40_20 : decode jdk_44_method_2_code 20 = .ok (.return_, 1) := by decide +kernel
theorem ef40 (m : MethodId) (x0 x1 x2 : Addr) : entryFrame m #[(.ref x0), (.ref x1), (.ref x2)] 3 = mkF m 0 #[.val (.ref x0), .val (.ref x1), .val (.ref x2)] [] := by first | (simp [entryFrame, mkF, argsToLocals, Value.category]; done) | rfl
def Q40 (Z : State) (a0 : Addr) (a1 : Addr) (a2 : Addr) (wa wb wc wd we : Addr) (ka kc : ClassId) (G1 : Int32) (h0 : Heap) (n0 : Nat) (v : Option Value) (h : Heap) (L : List Loc) : Prop := v = none ∧ Fr n0 L ∧ Keep h0 h [a0] ∧ Fld Z h a0 sT "e1" "Ljava/lang/Object;" (.ref a2)
theorem rm40 (l : Launch) (Z : State) (a0' : Array Value) (hw : ∀ d ∈ tables_1, d.before a0' Z = true) (ws : List Jvm.Cond) (a0 : Addr) (a1 : Addr) (a2 : Addr) (wa wb wc wd we : Addr) (ka kc : ClassId) (G1 : Int32) (h0 : Heap) (n0 : Nat) (O : Old Z n0 h0) (W : Wd Z wa wb wc wd we ka kc G1) (pf0 : Exa Z h0 a0 sT) (pf1 : Fld Z h0 a0 sT "e0" "Ljava/lang/Object;" .null) (pf2 : Fld Z h0 a0 sT "e1" "Ljava/lang/Object;" .null) (gp_a0 : n0 ≤ a0) :
    MetFree l mq37 (head1 (Jvm.Cond.code mq37 jdk_44_method_2_code 3 none :: ws) ({ frames := 4, cells := 0, slots := 0, locals := 48 } : Room)) (fun a U => a = #[(.ref a0), (.ref a1), (.ref a2)] ∧ Z.Warmed39 U.vm ∧ U.heap = h0) (fun _ _ _ _ _ => True) (fun _ U o U' => ∃ v L, o = .returned v ∧ Q40 Z a0 a1 a2 wa wb wc wd we ka kc G1 h0 n0 v U'.heap L ∧ FrameEnd U o U' L ({ frames := 4, cells := 0, slots := 0, locals := 48 } : Room).cells ({ frames := 4, cells := 0, slots := 0, locals := 48 } : Room).slots) := by
  refine MetFree.of_bodySF (plainFor_of_name pn12) hisR ?_
  intro p e s m args below meth c s₁ Bd hml0 hP hK
  obtain ⟨rfl, hZ, hh⟩ := hP
  have hx := Bd.exec
  have hby := Bd.bytes
  have hml : c.maxLocals = 3 := hml0
  have hown : s.vm.findClass sT = some m.cls := findClass_of_methodNamed Bd.named
  have hnm := (name_of_methodNamed Bd.named Bd.method).1
  have hk := Bd.notSynchronized
  have X0 : Stand p l e ({ frames := 4, cells := 0, slots := 0, locals := 48 } : Room) s m #[(.ref a0), (.ref a1), (.ref a2)] below meth c s₁ [] 0 0 := Stand.of_body Bd
  have hh2 := hh
  have e0 : s₁.heap = h0 := by rw [← hh, Bd.state]; rfl
  have N0 := Fr.nil n0
  show Gl p e below (Pos 0 0 (Q40 Z a0 a1 a2 wa wb wc wd we ka kc G1 h0 n0) s) s₁ _
  refine Gl.cast (ef40 m a0 a1 a2) ?_
  refine gb (mkF m 1 #[vr a0, vr a1, vr a2] [(.ref a0)]) (fun _ k => XS.aloadN X0.here hx rfl (hb hby d40_0) rfl rfl k) ?_
  obtain ⟨_, _, ⟨T1, L1, k1, n1⟩, -, X1, ⟨Lc1, hQ1, l1, y1, z1⟩, st1⟩ := X0.specialBack hx (y := mq34) rfl hown (mvT hZ (hW hw 265 rfl)) (mvT hZ (hW hw 243 rfl)) (mvT hZ (hW hw 247 rfl)) (by decide) (backOf (W := 0) (rm38 l Z a0' hw [] a0 wa wb wc wd we ka kc G1 h0 n0 O W ) hZ (hW hw 247 rfl) (hW hw 246 rfl) (by decide) (by decide)) (g := (mkF m 1 #[vr a0, vr a1, vr a2] [(.ref a0)])) rfl (by rw [hml]; rfl) (Steps.refl _) (a := a0) (argsL := []) (rest := []) (lenOf pd73 rfl) rfl (Nat.le_of_eq rfl) (hb hby d40_1) (fun _ _ => ⟨rfl, e0, (by decide : 0 + 0 ≤ _), (by decide : 0 + 0 ≤ _)⟩)
  dsimp only [Pt.U, Pt.locs, Pt.cells, Pt.slots] at X1 l1 y1 z1 st1 hQ1
  subst l1 y1 z1
  obtain ⟨rfl, N1q, e1⟩ := hQ1
  have N1 := Fr.app N0 N1q
  refine gb (mkF m 4 #[vr a0, vr a1, vr a2] []) (fun _ k => st1.trans k) ?_
  refine gb (mkF m 5 #[vr a0, vr a1, vr a2] [(.ref a0)]) (fun _ k => XS.aloadN X1.here hx rfl (hb hby d40_4) rfl rfl k) ?_
  refine gb (mkF m 6 #[vr a0, vr a1, vr a2] [(.ref a1), (.ref a0)]) (fun _ k => XS.aloadN X1.here hx rfl (hb hby d40_5) rfl rfl k) ?_
  obtain ⟨_, _, ⟨T2, L2, k2, n2⟩, -, X2, ⟨Lc2, hQ2, l2, y2, z2⟩, st2⟩ := callS X1 hx (y := mq32) hown (mvT hZ (hW hw 269 rfl)) (mvT hZ (hW hw 234 rfl)) (mvT hZ (hW hw 235 rfl)) (mvT hZ (hW hw 236 rfl)) (by decide) (backOf (W := 1) (rm36 l Z a0' hw [] a1 wa wb wc wd we ka kc G1 h0 n0 O W ) hZ (hW hw 236 rfl) (hW hw 235 rfl) (by decide) (by decide)) (g := (mkF m 6 #[vr a0, vr a1, vr a2] [(.ref a1), (.ref a0)])) rfl (by rw [hml]; rfl) (argsL := [(.ref a1)]) (rest := [(.ref a0)]) (lenOf pd311 rfl) rfl (Nat.le_of_eq rfl) (hb hby d40_6) (fun _ _ => ⟨rfl, e1, (by decide : 0 + 0 ≤ _), (by decide : 0 + 0 ≤ _)⟩)
  dsimp only [Pt.U, Pt.locs, Pt.cells, Pt.slots] at X2 l2 y2 z2 st2 hQ2
  subst l2 y2 z2
  obtain ⟨rfl, N2q, e2⟩ := hQ2
  have N2 := Fr.app N1 N2q
  refine gb (mkF m 9 #[vr a0, vr a1, vr a2] [(.ref a1), (.ref a0)]) st2 ?_
  obtain ⟨T3, h3, X3, e3, W3, st3⟩ := putF X2 hx hZ hown (host := "") (Or.inl (hW hw 270 rfl)) Via.refl e2 pf1 pf0 (Or.inr ⟨(hW hw 271 rfl), rfl, hnm⟩) (hW hw 259 rfl) (ty := oT) (by decide) rfl rfl (g := (mkF m 9 #[vr a0, vr a1, vr a2] [(.ref a1), (.ref a0)])) rfl rfl (hb hby d40_9)
  have N3 := Fr.snoc X3 N2 gp_a0
  have Fw3 := Fld.same W3 pf1
  refine gb (mkF m 12 #[vr a0, vr a1, vr a2] []) st3 ?_
  refine gb (mkF m 13 #[vr a0, vr a1, vr a2] [(.ref a0)]) (fun _ k => XS.aloadN X3.here hx rfl (hb hby d40_12) rfl rfl k) ?_
  refine gb (mkF m 14 #[vr a0, vr a1, vr a2] [(.ref a2), (.ref a0)]) (fun _ k => XS.aloadN X3.here hx rfl (hb hby d40_13) rfl rfl k) ?_
  have K5 := ((Keep.refl h0 [a0]).wr W3 (Or.inl (List.mem_of_getElem? (i := 0) rfl)))
  have O6 := (O.wr W3 gp_a0)
  obtain ⟨_, _, ⟨T4, L4, k4, n4⟩, -, X4, ⟨Lc4, hQ4, l4, y4, z4⟩, st4⟩ := callS X3 hx (y := mq32) hown (mvT hZ (hW hw 269 rfl)) (mvT hZ (hW hw 234 rfl)) (mvT hZ (hW hw 235 rfl)) (mvT hZ (hW hw 236 rfl)) (by decide) (backOf (W := 1) (rm36 l Z a0' hw [] a2 wa wb wc wd we ka kc G1 h3 n0 O6 W ) hZ (hW hw 236 rfl) (hW hw 235 rfl) (by decide) (by decide)) (g := (mkF m 14 #[vr a0, vr a1, vr a2] [(.ref a2), (.ref a0)])) rfl (by rw [hml]; rfl) (argsL := [(.ref a2)]) (rest := [(.ref a0)]) (lenOf pd311 rfl) rfl (Nat.le_of_eq rfl) (hb hby d40_14) (fun _ _ => ⟨rfl, e3, (by decide : 0 + 0 ≤ _), (by decide : 0 + 0 ≤ _)⟩)
  dsimp only [Pt.U, Pt.locs, Pt.cells, Pt.slots] at X4 l4 y4 z4 st4 hQ4
  subst l4 y4 z4
  obtain ⟨rfl, N4q, e4⟩ := hQ4
  have N4 := Fr.app N3 N4q
  refine gb (mkF m 17 #[vr a0, vr a1, vr a2] [(.ref a2), (.ref a0)]) st4 ?_
  have f7 := (Exa.wr W3 pf0)
  have f8 := (Fld.other W3 pf2 (Or.inr (slot_ne (Or.inr (hW hw 273 rfl)) (Or.inr (hW hw 271 rfl)) (by decide) (t := oT) (t' := oT) (by decide) (by decide))))
  obtain ⟨T9, h9, X9, e9, W9, st9⟩ := putF X4 hx hZ hown (host := "") (Or.inl (hW hw 272 rfl)) Via.refl e4 f8 f7 (Or.inr ⟨(hW hw 273 rfl), rfl, hnm⟩) (hW hw 259 rfl) (ty := oT) (by decide) rfl rfl (g := (mkF m 17 #[vr a0, vr a1, vr a2] [(.ref a2), (.ref a0)])) rfl rfl (hb hby d40_17)
  have N9 := Fr.snoc X9 N4 gp_a0
  have Fw9 := Fld.same W9 f8
  refine gb (mkF m 20 #[vr a0, vr a1, vr a2] []) st9 ?_
  have K10 := (K5.wr W9 (Or.inl (List.mem_of_getElem? (i := 0) rfl)))
  exact Gl.outV X9 hx hk Bd.returns (hb hby d40_20) (Eq.mpr (congrArg (fun hh => Q40 Z a0 a1 a2 wa wb wc wd we ka kc G1 h0 n0 _ hh _) e9) (show Q40 Z a0 a1 a2 wa wb wc wd we ka kc G1 h0 n0 _ h9 _ from ⟨rfl, N9, K10, Fw9⟩)) (by decide) (by decide)
theorem d10_0 : decode jdk_56_method_3_code 0 = .ok (.aload_n 0, 1) := by decide +kernel
theorem d10_1 : decode jdk_56_method_3_code 1 = .ok (.instanceof 10, 3) := by decide +kernel
theorem d10_4 : decode jdk_56_method_3_code 4 = .ok (.ifCond .ne 22, 3) := by decide +kernel
theorem d10_7 : decode jdk_56_method_3_code 7 = .ok (.aload_n 0, 1) := by decide +kernel
theorem d10_8 : decode jdk_56_method_3_code 8 = .ok (.instanceof 12, 3) := by decide +kernel
theorem d10_11 : decode jdk_56_method_3_code 11 = .ok (.ifCond .eq 20, 3) := by decide +kernel
theorem d10_31 : decode jdk_56_method_3_code 31 = .ok (.aload_n 0, 1) := by decide +kernel
theorem d10_32 : decode jdk_56_method_3_code 32 = .ok (.invokeinterface 20 1, 5) := by decide +kernel
theorem d10_37 : decode jdk_56_method_3_code 37 = .ok (.ifCond .eq 7, 3) := by decide +kernel
theorem d10_40 : decode jdk_56_method_3_code 40 = .ok (.invokestatic 26, 3) := by decide +kernel
theorem d10_43 : decode jdk_56_method_3_code 43 = .ok (.areturn, 1) := by decide +kernel
theorem pn16 : plainName "java/util/ImmutableCollections" = true := by first | (simp [plainName, overriddenIn]; done) | decide +kernel
theorem pd334 : parseMethodDescriptor "()Z" = some ⟨[], some .boolean⟩ := by decide +kernel
theorem pd335 : parseMethodDescriptor "()Ljava/util/List;" = some ⟨[], some (.object "java/util/List")⟩ := by decide +kernel
theorem ef100 (m : MethodId) (x0 : Addr) : entryFrame m #[(.ref x0)] 2 = mkF m 0 #[.val (.ref x0), .unset] [] := by first | (simp [entryFrame, mkF, argsToLocals, Value.category]; done) | rfl
def Q100 (Z : State) (a0 : Addr) (wa wb wc wd we : Addr) (ka kc : ClassId) (G1 : Int32) (h0 : Heap) (n0 : Nat) (v : Option Value) (h : Heap) (L : List Loc) : Prop := v = some (.ref wb) ∧ Fr n0 L ∧ h = h0
theorem rm100 (l : Launch) (Z : State) (a0' : Array Value) (hw : ∀ d ∈ tables_1, d.before a0' Z = true) (ws : List Jvm.Cond) (a0 : Addr) (wa wb wc wd we : Addr) (ka kc : ClassId) (G1 : Int32) (h0 : Heap) (n0 : Nat) (O : Old Z n0 h0) (W : Wd Z wa wb wc wd we ka kc G1) (pf0 : Exa Z h0 a0 sA) (pf1 : Fld Z h0 a0 sA "size" "I" (.int 0)) :
    MetFree l mq38 (head1 (Jvm.Cond.code mq38 jdk_56_method_3_code 2 (some (.object "java/util/List")) :: ws) ({ frames := 1, cells := 0, slots := 0, locals := 12 } : Room)) (fun a U => a = #[(.ref a0)] ∧ Z.Warmed39 U.vm ∧ U.heap = h0) (fun _ _ _ _ _ => True) (fun _ U o U' => ∃ v L, o = .returned v ∧ Q100 Z a0 wa wb wc wd we ka kc G1 h0 n0 v U'.heap L ∧ FrameEnd U o U' L ({ frames := 1, cells := 0, slots := 0, locals := 12 } : Room).cells ({ frames := 1, cells := 0, slots := 0, locals := 12 } : Room).slots) := by
  refine MetFree.of_bodySF (plainFor_of_name pn16) hisR ?_
  intro p e s m args below meth c s₁ Bd hml0 hP hK
  obtain ⟨rfl, hZ, hh⟩ := hP
  have hx := Bd.exec
  have hby := Bd.bytes
  have hml : c.maxLocals = 2 := hml0
  have hown : s.vm.findClass "java/util/ImmutableCollections" = some m.cls := findClass_of_methodNamed Bd.named
  have hnm := (name_of_methodNamed Bd.named Bd.method).1
  have hk := Bd.notSynchronized
  have X0 : Stand p l e ({ frames := 1, cells := 0, slots := 0, locals := 12 } : Room) s m #[(.ref a0)] below meth c s₁ [] 0 0 := Stand.of_body Bd
  have hh2 := hh
  have e0 : s₁.heap = h0 := by rw [← hh, Bd.state]; rfl
  have N0 := Fr.nil n0
  show Gl p e below (Pos 0 0 (Q100 Z a0 wa wb wc wd we ka kc G1 h0 n0) s) s₁ _
  refine Gl.cast (ef100 m a0) ?_
  refine gb (mkF m 1 #[vr a0, .unset] [(.ref a0)]) (fun _ k => XS.aloadN X0.here hx rfl (hb hby d10_0) rfl rfl k) ?_
  obtain ⟨T1, X1, e1, st1⟩ := instNo X0 hx hZ hown (hW hw 62 rfl) e0 pf0 (ns_no (hW hw 63 rfl) (hW hw 259 rfl) (NS.step (hW hw 63 rfl) (NS.step (hW hw 64 rfl) (NS.step (hW hw 65 rfl) (ns_root (hW hw 66 rfl) (hW hw 259 rfl) (by decide)) (by decide)) (by decide)) (by decide)) (by decide)) (g := (mkF m 1 #[vr a0, .unset] [(.ref a0)])) rfl rfl (hb hby d10_1)
  refine gb (mkF m 4 #[vr a0, .unset] [(.int 0)]) st1 ?_
  refine gb (mkF m 7 #[vr a0, .unset] []) (fun _ k => XS.ifNo X1.here hx rfl (hb hby d10_4) rfl ((if0 _ _).trans (teq (by decide : (0 : Int32) = (0 : Int32))).2) k) ?_
  refine gb (mkF m 8 #[vr a0, .unset] [(.ref a0)]) (fun _ k => XS.aloadN X1.here hx rfl (hb hby d10_7) rfl rfl k) ?_
  obtain ⟨T2, X2, e2, st2⟩ := instNo X1 hx hZ hown (hW hw 67 rfl) e1 pf0 (ns_no (hW hw 63 rfl) (hW hw 237 rfl) (NS.step (hW hw 63 rfl) (NS.step (hW hw 64 rfl) (NS.step (hW hw 65 rfl) (ns_root (hW hw 66 rfl) (hW hw 237 rfl) (by decide)) (by decide)) (by decide)) (by decide)) (by decide)) (g := (mkF m 8 #[vr a0, .unset] [(.ref a0)])) rfl rfl (hb hby d10_8)
  refine gb (mkF m 11 #[vr a0, .unset] [(.int 0)]) st2 ?_
  refine gb (mkF m 31 #[vr a0, .unset] []) (fun _ k => XS.ifYes X2.here hx rfl (pc0 := 11) (pc' := 31) rfl (hb hby d10_11) rfl ((if0 _ _).trans (teq (by decide : (0 : Int32) = (0 : Int32))).1) (by decide) (by decide) k) ?_
  refine gb (mkF m 32 #[vr a0, .unset] [(.ref a0)]) (fun _ k => XS.aloadN X2.here hx rfl (hb hby d10_31) rfl rfl k) ?_
  obtain ⟨cq3, kq3, q3a, q3b, q3c⟩ := isOf hZ e2 pf0
  obtain ⟨_, _, ⟨T3, L3, k3, n3⟩, -, X3, ⟨Lc3, hQ3, l3, y3, z3⟩, st3⟩ := X2.interfaceBack hx (xi := mq39) (y := mq28) hown (mvT hZ (hW hw 68 rfl)) (mvT hZ (hW hw 69 rfl)) (mvT hZ (hW hw 70 rfl)) (mvT hZ (hW hw 71 rfl)) (mvT hZ (hW hw 72 rfl)) (mvT hZ (hW hw 73 rfl)) (mvT hZ (hW hw 74 rfl)) (mvT hZ (hW hw 75 rfl)) (by decide) (backOf (W := 0) (rm110 l Z a0' hw [] a0 wa wb wc wd we ka kc G1 h0 n0 O W pf0 pf1) hZ (hW hw 76 rfl) (hW hw 11 rfl) (by decide) (by decide)) q3a q3b q3c (g := (mkF m 32 #[vr a0, .unset] [(.ref a0)])) rfl (by rw [hml]; rfl) (Steps.refl _) (argsL := []) (rest := []) (lenOf pd334 rfl) rfl (Nat.le_of_eq rfl) (hb hby d10_32) (fun _ _ => ⟨rfl, e2, (by decide : 0 + 0 ≤ _), (by decide : 0 + 0 ≤ _)⟩)
  dsimp only [Pt.U, Pt.locs, Pt.cells, Pt.slots] at X3 l3 y3 z3 st3 hQ3
  subst l3 y3 z3
  obtain ⟨rfl, N3q, e3⟩ := hQ3
  have N3 := Fr.app N0 N3q
  refine gb (mkF m 37 #[vr a0, .unset] [(.int 1)]) (fun _ k => st3.trans k) ?_
  refine gb (mkF m 40 #[vr a0, .unset] []) (fun _ k => XS.ifNo X3.here hx rfl (hb hby d10_37) rfl ((if0 _ _).trans (feq (by decide : ¬ ((1 : Int32) = (0 : Int32)))).1) k) ?_
  obtain ⟨_, _, ⟨T4, L4, k4, n4⟩, -, X4, ⟨Lc4, hQ4, l4, y4, z4⟩, st4⟩ := callS X3 hx (y := mq29) hown (mvT hZ (hW hw 79 rfl)) (mvT hZ (hW hw 80 rfl)) (mvT hZ (hW hw 56 rfl)) (mvT hZ (hW hw 81 rfl)) (by decide) (backOf (W := 0) (rm12 l Z a0' hw []  wa wb wc wd we ka kc G1 h0 n0 O W ) hZ (hW hw 81 rfl) (hW hw 56 rfl) (by decide) (by decide)) (g := (mkF m 40 #[vr a0, .unset] [])) rfl (by rw [hml]; rfl) (argsL := []) (rest := []) (lenOf pd335 rfl) rfl (Nat.le_of_eq rfl) (hb hby d10_40) (fun _ _ => ⟨rfl, e3, (by decide : 0 + 0 ≤ _), (by decide : 0 + 0 ≤ _)⟩)
  dsimp only [Pt.U, Pt.locs, Pt.cells, Pt.slots] at X4 l4 y4 z4 st4 hQ4
  subst l4 y4 z4
  obtain ⟨rfl, N4q, e4⟩ := hQ4
  have N4 := Fr.app N3 N4q
  refine gb (mkF m 43 #[vr a0, .unset] [(.ref wb)]) st4 ?_
  exact Gl.outA X4 hx hk Bd.returns rfl rfl (hb hby d10_43) ⟨rfl, N4, e4⟩ (by decide) (by decide)
theorem d9_0 : decode jdk_40_method_48_code 0 = .ok (.aload_n 0, 1) := by decide +kernel
theorem d9_1 : decode jdk_40_method_48_code 1 = .ok (.invokestatic 112, 3) := by decide +kernel
theorem d9_4 : decode jdk_40_method_48_code 4 = .ok (.areturn, 1) := by decide +kernel
theorem pd339 : parseMethodDescriptor "(Ljava/util/Collection;)Ljava/util/List;" = some ⟨[(.object "java/util/Collection")], some (.object "java/util/List")⟩ := by decide +kernel
theorem ef90 (m : MethodId) (x0 : Addr) : entryFrame m #[(.ref x0)] 1 = mkF m 0 #[.val (.ref x0)] [] := by first | (simp [entryFrame, mkF, argsToLocals, Value.category]; done) | rfl
def Q90 (Z : State) (a0 : Addr) (wa wb wc wd we : Addr) (ka kc : ClassId) (G1 : Int32) (h0 : Heap) (n0 : Nat) (v : Option Value) (h : Heap) (L : List Loc) : Prop := v = some (.ref wb) ∧ Fr n0 L ∧ h = h0
theorem rm90 (l : Launch) (Z : State) (a0' : Array Value) (hw : ∀ d ∈ tables_1, d.before a0' Z = true) (ws : List Jvm.Cond) (a0 : Addr) (wa wb wc wd we : Addr) (ka kc : ClassId) (G1 : Int32) (h0 : Heap) (n0 : Nat) (O : Old Z n0 h0) (W : Wd Z wa wb wc wd we ka kc G1) (pf0 : Exa Z h0 a0 sA) (pf1 : Fld Z h0 a0 sA "size" "I" (.int 0)) :
    MetFree l mq40 (head1 (Jvm.Cond.code mq40 jdk_40_method_48_code 1 (some (.object "java/util/List")) :: ws) ({ frames := 2, cells := 0, slots := 0, locals := 25 } : Room)) (fun a U => a = #[(.ref a0)] ∧ Z.Warmed39 U.vm ∧ U.heap = h0) (fun _ _ _ _ _ => True) (fun _ U o U' => ∃ v L, o = .returned v ∧ Q90 Z a0 wa wb wc wd we ka kc G1 h0 n0 v U'.heap L ∧ FrameEnd U o U' L ({ frames := 2, cells := 0, slots := 0, locals := 25 } : Room).cells ({ frames := 2, cells := 0, slots := 0, locals := 25 } : Room).slots) := by
  refine MetFree.of_bodySF (plainFor_of_name pn10) hisR ?_
  intro p e s m args below meth c s₁ Bd hml0 hP hK
  obtain ⟨rfl, hZ, hh⟩ := hP
  have hx := Bd.exec
  have hby := Bd.bytes
  have hml : c.maxLocals = 1 := hml0
  have hown : s.vm.findClass "java/util/List" = some m.cls := findClass_of_methodNamed Bd.named
  have hnm := (name_of_methodNamed Bd.named Bd.method).1
  have hk := Bd.notSynchronized
  have X0 : Stand p l e ({ frames := 2, cells := 0, slots := 0, locals := 25 } : Room) s m #[(.ref a0)] below meth c s₁ [] 0 0 := Stand.of_body Bd
  have hh2 := hh
  have e0 : s₁.heap = h0 := by rw [← hh, Bd.state]; rfl
  have N0 := Fr.nil n0
  show Gl p e below (Pos 0 0 (Q90 Z a0 wa wb wc wd we ka kc G1 h0 n0) s) s₁ _
  refine Gl.cast (ef90 m a0) ?_
  refine gb (mkF m 1 #[vr a0] [(.ref a0)]) (fun _ k => XS.aloadN X0.here hx rfl (hb hby d9_0) rfl rfl k) ?_
  obtain ⟨_, _, ⟨T1, L1, k1, n1⟩, -, X1, ⟨Lc1, hQ1, l1, y1, z1⟩, st1⟩ := callS X0 hx (y := mq38) hown (mvT hZ (hW hw 58 rfl)) (mvT hZ (hW hw 59 rfl)) (mvT hZ (hW hw 60 rfl)) (mvT hZ (hW hw 61 rfl)) (by decide) (backOf (W := 0) (rm100 l Z a0' hw [] a0 wa wb wc wd we ka kc G1 h0 n0 O W pf0 pf1) hZ (hW hw 61 rfl) (hW hw 60 rfl) (by decide) (by decide)) (g := (mkF m 1 #[vr a0] [(.ref a0)])) rfl (by rw [hml]; rfl) (argsL := [(.ref a0)]) (rest := []) (lenOf pd339 rfl) rfl (Nat.le_of_eq rfl) (hb hby d9_1) (fun _ _ => ⟨rfl, e0, (by decide : 0 + 0 ≤ _), (by decide : 0 + 0 ≤ _)⟩)
  dsimp only [Pt.U, Pt.locs, Pt.cells, Pt.slots] at X1 l1 y1 z1 st1 hQ1
  subst l1 y1 z1
  obtain ⟨rfl, N1q, e1⟩ := hQ1
  have N1 := Fr.app N0 N1q
  refine gb (mkF m 4 #[vr a0] [(.ref wb)]) st1 ?_
  exact Gl.outA X1 hx hk Bd.returns rfl rfl (hb hby d9_4) ⟨rfl, N1, e1⟩ (by decide) (by decide)
theorem d8_0 : decode prog_17_method_8_code 0 = .ok (.aload_n 0, 1) := by decide +kernel
theorem d8_1 : decode prog_17_method_8_code 1 = .ok (.getfield 10, 3) := by decide +kernel
theorem d8_4 : decode prog_17_method_8_code 4 = .ok (.invokestatic 44, 3) := by decide +kernel
theorem d8_7 : decode prog_17_method_8_code 7 = .ok (.areturn, 1) := by decide +kernel
theorem ef80 (m : MethodId) (x0 : Addr) : entryFrame m #[(.ref x0)] 1 = mkF m 0 #[.val (.ref x0)] [] := by first | (simp [entryFrame, mkF, argsToLocals, Value.category]; done) | rfl
def Q80 (Z : State) (a0 : Addr) (la : Addr) (wa wb wc wd we : Addr) (ka kc : ClassId) (G1 : Int32) (h0 : Heap) (n0 : Nat) (v : Option Value) (h : Heap) (L : List Loc) : Prop := v = some (.ref wb) ∧ Fr n0 L ∧ h = h0
theorem rm80 (l : Launch) (Z : State) (a0' : Array Value) (hw : ∀ d ∈ tables_1, d.before a0' Z = true) (ws : List Jvm.Cond) (a0 : Addr) (la : Addr) (wa wb wc wd we : Addr) (ka kc : ClassId) (G1 : Int32) (h0 : Heap) (n0 : Nat) (O : Old Z n0 h0) (W : Wd Z wa wb wc wd we ka kc G1) (pf0 : Exa Z h0 a0 sF) (pf1 : Fld Z h0 a0 sF "found" "I" (.int 0)) (pf2 : Fld Z h0 a0 sF "params" "Ljava/util/List;" (.ref la)) (pf3 : Exa Z h0 la sA) (pf4 : Fld Z h0 la sA "size" "I" (.int 0)) :
    MetFree l mq41 (head1 (Jvm.Cond.code mq41 prog_17_method_8_code 1 (some (.object "java/util/List")) :: ws) ({ frames := 3, cells := 0, slots := 0, locals := 37 } : Room)) (fun a U => a = #[(.ref a0)] ∧ Z.Warmed39 U.vm ∧ U.heap = h0) (fun _ _ _ _ _ => True) (fun _ U o U' => ∃ v L, o = .returned v ∧ Q80 Z a0 la wa wb wc wd we ka kc G1 h0 n0 v U'.heap L ∧ FrameEnd U o U' L ({ frames := 3, cells := 0, slots := 0, locals := 37 } : Room).cells ({ frames := 3, cells := 0, slots := 0, locals := 37 } : Room).slots) := by
  refine MetFree.of_bodySF (plainFor_of_name pn3) hisR ?_
  intro p e s m args below meth c s₁ Bd hml0 hP hK
  obtain ⟨rfl, hZ, hh⟩ := hP
  have hx := Bd.exec
  have hby := Bd.bytes
  have hml : c.maxLocals = 1 := hml0
  have hown : s.vm.findClass sF = some m.cls := findClass_of_methodNamed Bd.named
  have hnm := (name_of_methodNamed Bd.named Bd.method).1
  have hk := Bd.notSynchronized
  have X0 : Stand p l e ({ frames := 3, cells := 0, slots := 0, locals := 37 } : Room) s m #[(.ref a0)] below meth c s₁ [] 0 0 := Stand.of_body Bd
  have hh2 := hh
  have e0 : s₁.heap = h0 := by rw [← hh, Bd.state]; rfl
  have N0 := Fr.nil n0
  show Gl p e below (Pos 0 0 (Q80 Z a0 la wa wb wc wd we ka kc G1 h0 n0) s) s₁ _
  refine Gl.cast (ef80 m a0) ?_
  refine gb (mkF m 1 #[vr a0] [(.ref a0)]) (fun _ k => XS.aloadN X0.here hx rfl (hb hby d8_0) rfl rfl k) ?_
  obtain ⟨T1, X1, e1, st1⟩ := getF X0 hx hZ hown (host := "") (Or.inl (hW hw 33 rfl)) Via.refl e0 pf2 (g := (mkF m 1 #[vr a0] [(.ref a0)])) rfl rfl (hb hby d8_1)
  refine gb (mkF m 4 #[vr a0] [(.ref la)]) st1 ?_
  obtain ⟨_, _, ⟨T2, L2, k2, n2⟩, -, X2, ⟨Lc2, hQ2, l2, y2, z2⟩, st2⟩ := callS X1 hx (y := mq40) hown (mvT hZ (hW hw 54 rfl)) (mvT hZ (hW hw 55 rfl)) (mvT hZ (hW hw 56 rfl)) (mvT hZ (hW hw 57 rfl)) (by decide) (backOf (W := 0) (rm90 l Z a0' hw [] la wa wb wc wd we ka kc G1 h0 n0 O W pf3 pf4) hZ (hW hw 57 rfl) (hW hw 56 rfl) (by decide) (by decide)) (g := (mkF m 4 #[vr a0] [(.ref la)])) rfl (by rw [hml]; rfl) (argsL := [(.ref la)]) (rest := []) (lenOf pd339 rfl) rfl (Nat.le_of_eq rfl) (hb hby d8_4) (fun _ _ => ⟨rfl, e1, (by decide : 0 + 0 ≤ _), (by decide : 0 + 0 ≤ _)⟩)
  dsimp only [Pt.U, Pt.locs, Pt.cells, Pt.slots] at X2 l2 y2 z2 st2 hQ2
  subst l2 y2 z2
  obtain ⟨rfl, N2q, e2⟩ := hQ2
  have N2 := Fr.app N0 N2q
  refine gb (mkF m 7 #[vr a0] [(.ref wb)]) st2 ?_
  exact Gl.outA X2 hx hk Bd.returns rfl rfl (hb hby d8_7) ⟨rfl, N2, e2⟩ (by decide) (by decide)
theorem d34_0 : decode jdk_40_method_47_code 0 = .ok (.aload_n 0, 1) := by decide +kernel
theorem d34_1 : decode jdk_40_method_47_code 1 = .ok (.arraylength, 1) := by decide +kernel
theorem d34_2 : decode jdk_40_method_47_code 2 = .ok (.tableswitch 57 0 2 #[26, 32, 43], 26) := by decide +kernel
theorem d34_34 : decode jdk_40_method_47_code 34 = .ok (.new 96, 3) := by decide +kernel
theorem d34_37 : decode jdk_40_method_47_code 37 = .ok (.dup, 1) := by decide +kernel
theorem d34_38 : decode jdk_40_method_47_code 38 = .ok (.aload_n 0, 1) := by decide +kernel
theorem d34_39 : decode jdk_40_method_47_code 39 = .ok (.iconst 0, 1) := by decide +kernel
theorem d34_40 : decode jdk_40_method_47_code 40 = .ok (.aaload, 1) := by decide +kernel
theorem d34_41 : decode jdk_40_method_47_code 41 = .ok (.invokespecial 98, 3) := by decide +kernel
theorem d34_44 : decode jdk_40_method_47_code 44 = .ok (.areturn, 1) := by decide +kernel
theorem pd354 : parseMethodDescriptor "(Ljava/lang/Object;)V" = some ⟨[oT], none⟩ := by decide +kernel
theorem ef341 (m : MethodId) (x0 : Addr) : entryFrame m #[(.ref x0)] 2 = mkF m 0 #[.val (.ref x0), .unset] [] := by first | (simp [entryFrame, mkF, argsToLocals, Value.category]; done) | rfl
def Q341 (Z : State) (a0 : Addr) (kk : ClassId) (x0 : Addr) (wa wb wc wd we : Addr) (ka kc : ClassId) (G1 : Int32) (h0 : Heap) (n0 : Nat) (v : Option Value) (h : Heap) (L : List Loc) : Prop := ∃ (r : Addr), v = some (.ref r) ∧ Fr n0 L ∧ Keep h0 h [] ∧ Exa Z h r sT ∧ Fld Z h r sT "e1" "Ljava/lang/Object;" (.ref wd)
theorem rm341 (l : Launch) (Z : State) (a0' : Array Value) (hw : ∀ d ∈ tables_1, d.before a0' Z = true) (ws : List Jvm.Cond) (a0 : Addr) (kk : ClassId) (x0 : Addr) (wa wb wc wd we : Addr) (ka kc : ClassId) (G1 : Int32) (h0 : Heap) (n0 : Nat) (O : Old Z n0 h0) (W : Wd Z wa wb wc wd we ka kc G1) (pf0 : Arv Z h0 a0 kk oT (1 : Int32) [(.ref x0)] .null) (pf1 : Exa Z h0 x0 sI) :
    MetFree l mq42 (head1 (Jvm.Cond.code mq42 jdk_40_method_47_code 2 (some (.object "java/util/List")) :: ws) ({ frames := 5, cells := 1, slots := 2, locals := 62 } : Room)) (fun a U => a = #[(.ref a0)] ∧ Z.Warmed39 U.vm ∧ U.heap = h0) (fun _ _ _ _ _ => True) (fun _ U o U' => ∃ v L, o = .returned v ∧ Q341 Z a0 kk x0 wa wb wc wd we ka kc G1 h0 n0 v U'.heap L ∧ FrameEnd U o U' L ({ frames := 5, cells := 1, slots := 2, locals := 62 } : Room).cells ({ frames := 5, cells := 1, slots := 2, locals := 62 } : Room).slots) := by
  refine MetFree.of_bodySF (plainFor_of_name pn10) hisR ?_
  intro p e s m args below meth c s₁ Bd hml0 hP hK
  obtain ⟨rfl, hZ, hh⟩ := hP
  have hx := Bd.exec
  have hby := Bd.bytes
  have hml : c.maxLocals = 2 := hml0
  have hown : s.vm.findClass "java/util/List" = some m.cls := findClass_of_methodNamed Bd.named
  have hnm := (name_of_methodNamed Bd.named Bd.method).1
  have hk := Bd.notSynchronized
  have X0 : Stand p l e ({ frames := 5, cells := 1, slots := 2, locals := 62 } : Room) s m #[(.ref a0)] below meth c s₁ [] 0 0 := Stand.of_body Bd
  have hh2 := hh
  have e0 : s₁.heap = h0 := by rw [← hh, Bd.state]; rfl
  have N0 := Fr.nil n0
  show Gl p e below (Pos 1 2 (Q341 Z a0 kk x0 wa wb wc wd we ka kc G1 h0 n0) s) s₁ _
  refine Gl.cast (ef341 m a0) ?_
  refine gb (mkF m 1 #[vr a0, .unset] [(.ref a0)]) (fun _ k => XS.aloadN X0.here hx rfl (hb hby d34_0) rfl rfl k) ?_
  obtain ⟨cl1, Ar1, qa1, Sa1, Na1, Ha1, Ga1⟩ := id pf0
  refine gb (mkF m 2 #[vr a0, .unset] [(.int 1)]) (fun t k => X0.arraylength hx (by rw [e0]; exact Ar1.1) (State.isArrayOf_alike hZ.alike Ar1.2.1) (g := (mkF m 1 #[vr a0, .unset] [(.ref a0)])) rfl rfl (hb hby d34_1) t (by rw [len_of Sa1 Na1]; exact k)) ?_
  refine gb (mkF m 34 #[vr a0, .unset] []) (fun _ k => XS.tswIn (o := 32) (pc0 := 2) X0.here hx rfl rfl (hb hby d34_2) rfl (by decide) rfl (by decide) rfl k) ?_
  obtain ⟨T2, h2, X2, e2, E2, A2, D2, -, st2⟩ := newO X0 hx hZ hown (hW hw 258 rfl) (hW hw 259 rfl) (hW hw 260 rfl) e0 (g := (mkF m 34 #[vr a0, .unset] [])) rfl (hb hby d34_34) (by decide) (by decide)
  obtain ⟨b2, g2⟩ : ∃ z, z = (h0).size := ⟨_, rfl⟩
  rw [← g2] at A2 D2 st2
  have gb2 : n0 ≤ b2 := Nat.le_trans (Nat.le_trans (Nat.le_of_eq O.1.symm) O.2.1) (Nat.le_of_eq g2.symm)
  have sb2 : h0.size ≤ b2 := Nat.le_trans (Keep.refl h0 []).1 (Nat.le_of_eq g2.symm)
  have ne2_0 : a0 ≠ b2 := Nat.ne_of_lt (Nat.lt_of_lt_of_le pf0.lt (Nat.le_of_eq g2.symm))
  have ne2_2 : x0 ≠ b2 := Nat.ne_of_lt (Nat.lt_of_lt_of_le pf1.lt (Nat.le_of_eq g2.symm))
  have ne2_4 : wa ≠ b2 := Nat.ne_of_lt (Nat.lt_of_lt_of_le (Arv.ext W.2.1 O.2).lt (Nat.le_of_eq g2.symm))
  have ne2_6 : wc ≠ b2 := Nat.ne_of_lt (Nat.lt_of_lt_of_le (Arv.ext W.2.2.2.2.2.1 O.2).lt (Nat.le_of_eq g2.symm))
  have ne2_8 : wb ≠ b2 := Nat.ne_of_lt (Nat.lt_of_lt_of_le (Exa.ext O.2 W.2.2.2.1).lt (Nat.le_of_eq g2.symm))
  have ne2_10 : wd ≠ b2 := Nat.ne_of_lt (Nat.lt_of_lt_of_le (Exa.ext O.2 W.2.2.2.2.2.2.2.1).lt (Nat.le_of_eq g2.symm))
  have D2_e0 : Fld Z h2 b2 sT "e0" "Ljava/lang/Object;" .null := D2 (Or.inr (hW hw 271 rfl)) (ty := oT) (by decide)
  have D2_e1 : Fld Z h2 b2 sT "e1" "Ljava/lang/Object;" .null := D2 (Or.inr (hW hw 273 rfl)) (ty := oT) (by decide)
  refine gb (mkF m 37 #[vr a0, .unset] [(.ref b2)]) st2 ?_
  refine gb (mkF m 38 #[vr a0, .unset] [(.ref b2), (.ref b2)]) (fun _ k => XS.dup X2.here hx rfl (hb hby d34_37) rfl rfl k) ?_
  refine gb (mkF m 39 #[vr a0, .unset] [(.ref a0), (.ref b2), (.ref b2)]) (fun _ k => XS.aloadN X2.here hx rfl (hb hby d34_38) rfl rfl k) ?_
  refine gb (mkF m 40 #[vr a0, .unset] [(.int 0), (.ref a0), (.ref b2), (.ref b2)]) (fun _ k => XS.iconst X2.here hx rfl (hb hby d34_39) k) ?_
  have f3 := (Arv.ext pf0 E2)
  obtain ⟨cl4, Ar4, qa4, Sa4, Na4, Ha4, Ga4⟩ := id f3
  have hin5 : ¬ ((0 : Int32) < 0 ∨ cl4.slots.size ≤ ((0 : Int32)).toNatClampNeg) := inb_of Sa4 ⟨by decide, by decide⟩
  refine gb (mkF m 41 #[vr a0, .unset] [(.ref x0), (.ref b2), (.ref b2)]) (X2.aaload hx (j := (0 : Int32)) (v := (.ref x0)) (by rw [e2]; exact Ar4.1) (State.isArrayOf_alike hZ.alike Ar4.2.1) rfl Ar4.2.2 hin5 (Has.at Ha4 hin5 rfl) (g := (mkF m 40 #[vr a0, .unset] [(.int 0), (.ref a0), (.ref b2), (.ref b2)])) rfl rfl (hb hby d34_40)) ?_
  have K7 := ((Keep.refl h0 []).ext E2)
  have O8 := (O.ext E2)
  obtain ⟨_, _, ⟨T6, L6, k6, n6⟩, -, X6, ⟨Lc6, hQ6, l6, y6, z6⟩, st6⟩ := X2.specialBack hx (y := mq36) rfl hown (mvT hZ (hW hw 281 rfl)) (mvT hZ (hW hw 282 rfl)) (mvT hZ (hW hw 283 rfl)) (by decide) (backOf (W := 1) (rm42 l Z a0' hw [] b2 x0 wa wb wc wd we ka kc G1 h2 n0 O8 W A2 D2_e0 D2_e1 gb2) hZ (hW hw 283 rfl) (hW hw 260 rfl) (by decide) (by decide)) (g := (mkF m 41 #[vr a0, .unset] [(.ref x0), (.ref b2), (.ref b2)])) rfl (by rw [hml]; rfl) (Steps.refl _) (a := b2) (argsL := [(.ref x0)]) (rest := [(.ref b2)]) (lenOf pd354 rfl) rfl (Nat.le_of_eq rfl) (hb hby d34_41) (fun _ _ => ⟨rfl, e2, (by decide : 1 + 0 ≤ _), (by decide : 2 + 0 ≤ _)⟩)
  dsimp only [Pt.U, Pt.locs, Pt.cells, Pt.slots] at X6 l6 y6 z6 st6 hQ6
  subst l6 y6 z6
  obtain ⟨rfl, N6q, Kc6, fc6_0⟩ := hQ6
  have N6 := Fr.app N0 N6q
  refine gb (mkF m 44 #[vr a0, .unset] [(.ref b2)]) (fun _ k => st6.trans k) ?_
  have K9 := (K7.trans Kc6 (allS (Or.inr sb2) all0))
  have f10 := (Exa.keep A2 Kc6)
  exact Gl.outA X6 hx hk Bd.returns rfl rfl (hb hby d34_44) ⟨b2, rfl, N6, K9, f10, fc6_0⟩ (by decide) (by decide)
theorem d10_44 : decode jdk_56_method_3_code 44 = .ok (.aload_n 0, 1) := by decide +kernel
theorem d10_45 : decode jdk_56_method_3_code 45 = .ok (.invokeinterface 30 1, 5) := by decide +kernel
theorem d10_50 : decode jdk_56_method_3_code 50 = .ok (.invokestatic 34, 3) := by decide +kernel
theorem d10_53 : decode jdk_56_method_3_code 53 = .ok (.areturn, 1) := by decide +kernel
theorem pd359 : parseMethodDescriptor "([Ljava/lang/Object;)Ljava/util/List;" = some ⟨[(.array oT)], some (.object "java/util/List")⟩ := by decide +kernel
theorem ef101 (m : MethodId) (x0 : Addr) : entryFrame m #[(.ref x0)] 2 = mkF m 0 #[.val (.ref x0), .unset] [] := by first | (simp [entryFrame, mkF, argsToLocals, Value.category]; done) | rfl
def Q101 (Z : State) (a0 : Addr) (ea : Addr) (kk : ClassId) (x0 : Addr) (wa wb wc wd we : Addr) (ka kc : ClassId) (G1 : Int32) (h0 : Heap) (n0 : Nat) (v : Option Value) (h : Heap) (L : List Loc) : Prop := ∃ (r : Addr), v = some (.ref r) ∧ Fr n0 L ∧ Keep h0 h [] ∧ Exa Z h r sT ∧ Fld Z h r sT "e1" "Ljava/lang/Object;" (.ref wd)
theorem rm101 (l : Launch) (Z : State) (a0' : Array Value) (hw : ∀ d ∈ tables_1, d.before a0' Z = true) (ws : List Jvm.Cond) (a0 : Addr) (ea : Addr) (kk : ClassId) (x0 : Addr) (wa wb wc wd we : Addr) (ka kc : ClassId) (G1 : Int32) (h0 : Heap) (n0 : Nat) (O : Old Z n0 h0) (W : Wd Z wa wb wc wd we ka kc G1) (pf0 : Exa Z h0 a0 sA) (pf1 : Fld Z h0 a0 sA "elementData" sO (.ref ea)) (pf2 : Fld Z h0 a0 sA "size" "I" (.int 1)) (pf3 : Exa Z h0 ea sO) (pf4 : Arv Z h0 ea kk oT (10 : Int32) [(.ref x0), .null, .null, .null, .null, .null, .null, .null, .null, .null] .null) (pf5 : Exa Z h0 x0 sI) :
    MetFree l mq38 (head1 (Jvm.Cond.code mq38 jdk_56_method_3_code 2 (some (.object "java/util/List")) :: ws) ({ frames := 6, cells := 2, slots := 3, locals := 75 } : Room)) (fun a U => a = #[(.ref a0)] ∧ Z.Warmed39 U.vm ∧ U.heap = h0) (fun _ _ _ _ _ => True) (fun _ U o U' => ∃ v L, o = .returned v ∧ Q101 Z a0 ea kk x0 wa wb wc wd we ka kc G1 h0 n0 v U'.heap L ∧ FrameEnd U o U' L ({ frames := 6, cells := 2, slots := 3, locals := 75 } : Room).cells ({ frames := 6, cells := 2, slots := 3, locals := 75 } : Room).slots) := by
  refine MetFree.of_bodySF (plainFor_of_name pn16) hisR ?_
  intro p e s m args below meth c s₁ Bd hml0 hP hK
  obtain ⟨rfl, hZ, hh⟩ := hP
  have hx := Bd.exec
  have hby := Bd.bytes
  have hml : c.maxLocals = 2 := hml0
  have hown : s.vm.findClass "java/util/ImmutableCollections" = some m.cls := findClass_of_methodNamed Bd.named
  have hnm := (name_of_methodNamed Bd.named Bd.method).1
  have hk := Bd.notSynchronized
  have X0 : Stand p l e ({ frames := 6, cells := 2, slots := 3, locals := 75 } : Room) s m #[(.ref a0)] below meth c s₁ [] 0 0 := Stand.of_body Bd
  have hh2 := hh
  have e0 : s₁.heap = h0 := by rw [← hh, Bd.state]; rfl
  have N0 := Fr.nil n0
  show Gl p e below (Pos 2 3 (Q101 Z a0 ea kk x0 wa wb wc wd we ka kc G1 h0 n0) s) s₁ _
  refine Gl.cast (ef101 m a0) ?_
  refine gb (mkF m 1 #[vr a0, .unset] [(.ref a0)]) (fun _ k => XS.aloadN X0.here hx rfl (hb hby d10_0) rfl rfl k) ?_
  obtain ⟨T1, X1, e1, st1⟩ := instNo X0 hx hZ hown (hW hw 62 rfl) e0 pf0 (ns_no (hW hw 63 rfl) (hW hw 259 rfl) (NS.step (hW hw 63 rfl) (NS.step (hW hw 64 rfl) (NS.step (hW hw 65 rfl) (ns_root (hW hw 66 rfl) (hW hw 259 rfl) (by decide)) (by decide)) (by decide)) (by decide)) (by decide)) (g := (mkF m 1 #[vr a0, .unset] [(.ref a0)])) rfl rfl (hb hby d10_1)
  refine gb (mkF m 4 #[vr a0, .unset] [(.int 0)]) st1 ?_
  refine gb (mkF m 7 #[vr a0, .unset] []) (fun _ k => XS.ifNo X1.here hx rfl (hb hby d10_4) rfl ((if0 _ _).trans (teq (by decide : (0 : Int32) = (0 : Int32))).2) k) ?_
  refine gb (mkF m 8 #[vr a0, .unset] [(.ref a0)]) (fun _ k => XS.aloadN X1.here hx rfl (hb hby d10_7) rfl rfl k) ?_
  obtain ⟨T2, X2, e2, st2⟩ := instNo X1 hx hZ hown (hW hw 67 rfl) e1 pf0 (ns_no (hW hw 63 rfl) (hW hw 237 rfl) (NS.step (hW hw 63 rfl) (NS.step (hW hw 64 rfl) (NS.step (hW hw 65 rfl) (ns_root (hW hw 66 rfl) (hW hw 237 rfl) (by decide)) (by decide)) (by decide)) (by decide)) (by decide)) (g := (mkF m 8 #[vr a0, .unset] [(.ref a0)])) rfl rfl (hb hby d10_8)
  refine gb (mkF m 11 #[vr a0, .unset] [(.int 0)]) st2 ?_
  refine gb (mkF m 31 #[vr a0, .unset] []) (fun _ k => XS.ifYes X2.here hx rfl (pc0 := 11) (pc' := 31) rfl (hb hby d10_11) rfl ((if0 _ _).trans (teq (by decide : (0 : Int32) = (0 : Int32))).1) (by decide) (by decide) k) ?_
  refine gb (mkF m 32 #[vr a0, .unset] [(.ref a0)]) (fun _ k => XS.aloadN X2.here hx rfl (hb hby d10_31) rfl rfl k) ?_
  obtain ⟨cq3, kq3, q3a, q3b, q3c⟩ := isOf hZ e2 pf0
  obtain ⟨_, _, ⟨T3, L3, k3, n3⟩, -, X3, ⟨Lc3, hQ3, l3, y3, z3⟩, st3⟩ := X2.interfaceBack hx (xi := mq39) (y := mq28) hown (mvT hZ (hW hw 68 rfl)) (mvT hZ (hW hw 69 rfl)) (mvT hZ (hW hw 70 rfl)) (mvT hZ (hW hw 71 rfl)) (mvT hZ (hW hw 72 rfl)) (mvT hZ (hW hw 73 rfl)) (mvT hZ (hW hw 74 rfl)) (mvT hZ (hW hw 75 rfl)) (by decide) (backOf (W := 0) (rm11s l Z a0' hw [] a0 (1 : Int32) wa wb wc wd we ka kc G1 h0 n0 O W pf0 pf2 (by decide)) hZ (hW hw 76 rfl) (hW hw 11 rfl) (by decide) (by decide)) q3a q3b q3c (g := (mkF m 32 #[vr a0, .unset] [(.ref a0)])) rfl (by rw [hml]; rfl) (Steps.refl _) (argsL := []) (rest := []) (lenOf pd334 rfl) rfl (Nat.le_of_eq rfl) (hb hby d10_32) (fun _ _ => ⟨rfl, e2, (by decide : 0 + 0 ≤ _), (by decide : 0 + 0 ≤ _)⟩)
  dsimp only [Pt.U, Pt.locs, Pt.cells, Pt.slots] at X3 l3 y3 z3 st3 hQ3
  subst l3 y3 z3
  obtain ⟨rfl, N3q, e3⟩ := hQ3
  have N3 := Fr.app N0 N3q
  refine gb (mkF m 37 #[vr a0, .unset] [(.int 0)]) (fun _ k => st3.trans k) ?_
  refine gb (mkF m 44 #[vr a0, .unset] []) (fun _ k => XS.ifYes X3.here hx rfl (pc0 := 37) (pc' := 44) rfl (hb hby d10_37) rfl ((if0 _ _).trans (teq (by decide : (0 : Int32) = (0 : Int32))).1) (by decide) (by decide) k) ?_
  refine gb (mkF m 45 #[vr a0, .unset] [(.ref a0)]) (fun _ k => XS.aloadN X3.here hx rfl (hb hby d10_44) rfl rfl k) ?_
  obtain ⟨cq4, kq4, q4a, q4b, q4c⟩ := isOf hZ e3 pf0
  obtain ⟨_, _, ⟨T4, L4, k4, n4⟩, -, X4, ⟨Lc4, hQ4, l4, y4, z4⟩, st4⟩ := X3.interfaceBack hx (xi := mq43) (y := mq21) hown (mvT hZ (hW hw 196 rfl)) (mvT hZ (hW hw 197 rfl)) (mvT hZ (hW hw 198 rfl)) (mvT hZ (hW hw 199 rfl)) (mvT hZ (hW hw 200 rfl)) (mvT hZ (hW hw 201 rfl)) (mvT hZ (hW hw 202 rfl)) (mvT hZ (hW hw 75 rfl)) (by decide) (backOf (W := 0) (rm301 l Z a0' hw [] a0 ea kk x0 wa wb wc wd we ka kc G1 h0 n0 O W pf0 pf1 pf2 pf3 pf4 pf5) hZ (hW hw 203 rfl) (hW hw 11 rfl) (by decide) (by decide)) q4a q4b q4c (g := (mkF m 45 #[vr a0, .unset] [(.ref a0)])) rfl (by rw [hml]; rfl) (Steps.refl _) (argsL := []) (rest := []) (lenOf pd50 rfl) rfl (Nat.le_of_eq rfl) (hb hby d10_45) (fun _ _ => ⟨rfl, e3, (by decide : 0 + 1 ≤ _), (by decide : 0 + 1 ≤ _)⟩)
  dsimp only [Pt.U, Pt.locs, Pt.cells, Pt.slots] at X4 l4 y4 z4 st4 hQ4
  subst l4 y4 z4
  obtain ⟨r_4, kr_4, rfl, N4q, Kc4, fc4_0, fc4_1⟩ := hQ4
  have N4 := Fr.app N3 N4q
  refine gb (mkF m 50 #[vr a0, .unset] [(.ref r_4)]) (fun _ k => st4.trans k) ?_
  have K6 := ((Keep.refl h0 []).trans Kc4 all0)
  have f7 := (Exa.keep pf5 Kc4)
  have O8 := (O.keep Kc4 all0)
  obtain ⟨_, _, ⟨T5, L5, k5, n5⟩, -, X5, ⟨Lc5, hQ5, l5, y5, z5⟩, st5⟩ := callS X4 hx (y := mq42) hown (mvT hZ (hW hw 226 rfl)) (mvT hZ (hW hw 227 rfl)) (mvT hZ (hW hw 56 rfl)) (mvT hZ (hW hw 228 rfl)) (by decide) (backOf (W := 0) (rm341 l Z a0' hw [] r_4 kr_4 x0 wa wb wc wd we ka kc G1 T4.heap n0 O8 W fc4_0 f7) hZ (hW hw 228 rfl) (hW hw 56 rfl) (by decide) (by decide)) (g := (mkF m 50 #[vr a0, .unset] [(.ref r_4)])) rfl (by rw [hml]; rfl) (argsL := [(.ref r_4)]) (rest := []) (lenOf pd359 rfl) rfl (Nat.le_of_eq rfl) (hb hby d10_50) (fun _ _ => ⟨rfl, rfl, (by decide : 1 + 1 ≤ _), (by decide : 1 + 2 ≤ _)⟩)
  dsimp only [Pt.U, Pt.locs, Pt.cells, Pt.slots] at X5 l5 y5 z5 st5 hQ5
  subst l5 y5 z5
  obtain ⟨r_5, rfl, N5q, Kc5, fc5_0, fc5_1⟩ := hQ5
  have N5 := Fr.app N4 N5q
  refine gb (mkF m 53 #[vr a0, .unset] [(.ref r_5)]) st5 ?_
  have K9 := (K6.trans Kc5 all0)
  exact Gl.outA X5 hx hk Bd.returns rfl rfl (hb hby d10_53) ⟨r_5, rfl, N5, K9, fc5_0, fc5_1⟩ (by decide) (by decide)
theorem ef91 (m : MethodId) (x0 : Addr) : entryFrame m #[(.ref x0)] 1 = mkF m 0 #[.val (.ref x0)] [] := by first | (simp [entryFrame, mkF, argsToLocals, Value.category]; done) | rfl
def Q91 (Z : State) (a0 : Addr) (ea : Addr) (kk : ClassId) (x0 : Addr) (wa wb wc wd we : Addr) (ka kc : ClassId) (G1 : Int32) (h0 : Heap) (n0 : Nat) (v : Option Value) (h : Heap) (L : List Loc) : Prop := ∃ (r : Addr), v = some (.ref r) ∧ Fr n0 L ∧ Keep h0 h [] ∧ Exa Z h r sT ∧ Fld Z h r sT "e1" "Ljava/lang/Object;" (.ref wd)
theorem rm91 (l : Launch) (Z : State) (a0' : Array Value) (hw : ∀ d ∈ tables_1, d.before a0' Z = true) (ws : List Jvm.Cond) (a0 : Addr) (ea : Addr) (kk : ClassId) (x0 : Addr) (wa wb wc wd we : Addr) (ka kc : ClassId) (G1 : Int32) (h0 : Heap) (n0 : Nat) (O : Old Z n0 h0) (W : Wd Z wa wb wc wd we ka kc G1) (pf0 : Exa Z h0 a0 sA) (pf1 : Fld Z h0 a0 sA "elementData" sO (.ref ea)) (pf2 : Fld Z h0 a0 sA "size" "I" (.int 1)) (pf3 : Exa Z h0 ea sO) (pf4 : Arv Z h0 ea kk oT (10 : Int32) [(.ref x0), .null, .null, .null, .null, .null, .null, .null, .null, .null] .null) (pf5 : Exa Z h0 x0 sI) :
    MetFree l mq40 (head1 (Jvm.Cond.code mq40 jdk_40_method_48_code 1 (some (.object "java/util/List")) :: ws) ({ frames := 7, cells := 2, slots := 3, locals := 88 } : Room)) (fun a U => a = #[(.ref a0)] ∧ Z.Warmed39 U.vm ∧ U.heap = h0) (fun _ _ _ _ _ => True) (fun _ U o U' => ∃ v L, o = .returned v ∧ Q91 Z a0 ea kk x0 wa wb wc wd we ka kc G1 h0 n0 v U'.heap L ∧ FrameEnd U o U' L ({ frames := 7, cells := 2, slots := 3, locals := 88 } : Room).cells ({ frames := 7, cells := 2, slots := 3, locals := 88 } : Room).slots) := by
  refine MetFree.of_bodySF (plainFor_of_name pn10) hisR ?_
  intro p e s m args below meth c s₁ Bd hml0 hP hK
  obtain ⟨rfl, hZ, hh⟩ := hP
  have hx := Bd.exec
  have hby := Bd.bytes
  have hml : c.maxLocals = 1 := hml0
  have hown : s.vm.findClass "java/util/List" = some m.cls := findClass_of_methodNamed Bd.named
  have hnm := (name_of_methodNamed Bd.named Bd.method).1
  have hk := Bd.notSynchronized
  have X0 : Stand p l e ({ frames := 7, cells := 2, slots := 3, locals := 88 } : Room) s m #[(.ref a0)] below meth c s₁ [] 0 0 := Stand.of_body Bd
  have hh2 := hh
  have e0 : s₁.heap = h0 := by rw [← hh, Bd.state]; rfl
  have N0 := Fr.nil n0
  show Gl p e below (Pos 2 3 (Q91 Z a0 ea kk x0 wa wb wc wd we ka kc G1 h0 n0) s) s₁ _
  refine Gl.cast (ef91 m a0) ?_
  refine gb (mkF m 1 #[vr a0] [(.ref a0)]) (fun _ k => XS.aloadN X0.here hx rfl (hb hby d9_0) rfl rfl k) ?_
  obtain ⟨_, _, ⟨T1, L1, k1, n1⟩, -, X1, ⟨Lc1, hQ1, l1, y1, z1⟩, st1⟩ := callS X0 hx (y := mq38) hown (mvT hZ (hW hw 58 rfl)) (mvT hZ (hW hw 59 rfl)) (mvT hZ (hW hw 60 rfl)) (mvT hZ (hW hw 61 rfl)) (by decide) (backOf (W := 0) (rm101 l Z a0' hw [] a0 ea kk x0 wa wb wc wd we ka kc G1 h0 n0 O W pf0 pf1 pf2 pf3 pf4 pf5) hZ (hW hw 61 rfl) (hW hw 60 rfl) (by decide) (by decide)) (g := (mkF m 1 #[vr a0] [(.ref a0)])) rfl (by rw [hml]; rfl) (argsL := [(.ref a0)]) (rest := []) (lenOf pd339 rfl) rfl (Nat.le_of_eq rfl) (hb hby d9_1) (fun _ _ => ⟨rfl, e0, (by decide : 0 + 2 ≤ _), (by decide : 0 + 3 ≤ _)⟩)
  dsimp only [Pt.U, Pt.locs, Pt.cells, Pt.slots] at X1 l1 y1 z1 st1 hQ1
  subst l1 y1 z1
  obtain ⟨r_1, rfl, N1q, Kc1, fc1_0, fc1_1⟩ := hQ1
  have N1 := Fr.app N0 N1q
  refine gb (mkF m 4 #[vr a0] [(.ref r_1)]) st1 ?_
  have K2 := ((Keep.refl h0 []).trans Kc1 all0)
  exact Gl.outA X1 hx hk Bd.returns rfl rfl (hb hby d9_4) ⟨r_1, rfl, N1, K2, fc1_0, fc1_1⟩ (by decide) (by decide)
theorem ef81 (m : MethodId) (x0 : Addr) : entryFrame m #[(.ref x0)] 1 = mkF m 0 #[.val (.ref x0)] [] := by first | (simp [entryFrame, mkF, argsToLocals, Value.category]; done) | rfl
def Q81 (Z : State) (a0 : Addr) (la : Addr) (ea : Addr) (kk : ClassId) (x0 : Addr) (wa wb wc wd we : Addr) (ka kc : ClassId) (G1 : Int32) (h0 : Heap) (n0 : Nat) (v : Option Value) (h : Heap) (L : List Loc) : Prop := ∃ (r : Addr), v = some (.ref r) ∧ Fr n0 L ∧ Keep h0 h [] ∧ Exa Z h r sT ∧ Fld Z h r sT "e1" "Ljava/lang/Object;" (.ref wd)
theorem rm81 (l : Launch) (Z : State) (a0' : Array Value) (hw : ∀ d ∈ tables_1, d.before a0' Z = true) (ws : List Jvm.Cond) (a0 : Addr) (la : Addr) (ea : Addr) (kk : ClassId) (x0 : Addr) (wa wb wc wd we : Addr) (ka kc : ClassId) (G1 : Int32) (h0 : Heap) (n0 : Nat) (O : Old Z n0 h0) (W : Wd Z wa wb wc wd we ka kc G1) (pf0 : Exa Z h0 a0 sF) (pf1 : Fld Z h0 a0 sF "found" "I" (.int 1)) (pf2 : Fld Z h0 a0 sF "params" "Ljava/util/List;" (.ref la)) (pf3 : Exa Z h0 la sA) (pf4 : Fld Z h0 la sA "elementData" sO (.ref ea)) (pf5 : Fld Z h0 la sA "size" "I" (.int 1)) (pf6 : Exa Z h0 ea sO) (pf7 : Arv Z h0 ea kk oT (10 : Int32) [(.ref x0), .null, .null, .null, .null, .null, .null, .null, .null, .null] .null) (pf8 : Exa Z h0 x0 sI) :
    MetFree l mq41 (head1 (Jvm.Cond.code mq41 prog_17_method_8_code 1 (some (.object "java/util/List")) :: ws) ({ frames := 8, cells := 2, slots := 3, locals := 100 } : Room)) (fun a U => a = #[(.ref a0)] ∧ Z.Warmed39 U.vm ∧ U.heap = h0) (fun _ _ _ _ _ => True) (fun _ U o U' => ∃ v L, o = .returned v ∧ Q81 Z a0 la ea kk x0 wa wb wc wd we ka kc G1 h0 n0 v U'.heap L ∧ FrameEnd U o U' L ({ frames := 8, cells := 2, slots := 3, locals := 100 } : Room).cells ({ frames := 8, cells := 2, slots := 3, locals := 100 } : Room).slots) := by
  refine MetFree.of_bodySF (plainFor_of_name pn3) hisR ?_
  intro p e s m args below meth c s₁ Bd hml0 hP hK
  obtain ⟨rfl, hZ, hh⟩ := hP
  have hx := Bd.exec
  have hby := Bd.bytes
  have hml : c.maxLocals = 1 := hml0
  have hown : s.vm.findClass sF = some m.cls := findClass_of_methodNamed Bd.named
  have hnm := (name_of_methodNamed Bd.named Bd.method).1
  have hk := Bd.notSynchronized
  have X0 : Stand p l e ({ frames := 8, cells := 2, slots := 3, locals := 100 } : Room) s m #[(.ref a0)] below meth c s₁ [] 0 0 := Stand.of_body Bd
  have hh2 := hh
  have e0 : s₁.heap = h0 := by rw [← hh, Bd.state]; rfl
  have N0 := Fr.nil n0
  show Gl p e below (Pos 2 3 (Q81 Z a0 la ea kk x0 wa wb wc wd we ka kc G1 h0 n0) s) s₁ _
  refine Gl.cast (ef81 m a0) ?_
  refine gb (mkF m 1 #[vr a0] [(.ref a0)]) (fun _ k => XS.aloadN X0.here hx rfl (hb hby d8_0) rfl rfl k) ?_
  obtain ⟨T1, X1, e1, st1⟩ := getF X0 hx hZ hown (host := "") (Or.inl (hW hw 33 rfl)) Via.refl e0 pf2 (g := (mkF m 1 #[vr a0] [(.ref a0)])) rfl rfl (hb hby d8_1)
  refine gb (mkF m 4 #[vr a0] [(.ref la)]) st1 ?_
  obtain ⟨_, _, ⟨T2, L2, k2, n2⟩, -, X2, ⟨Lc2, hQ2, l2, y2, z2⟩, st2⟩ := callS X1 hx (y := mq40) hown (mvT hZ (hW hw 54 rfl)) (mvT hZ (hW hw 55 rfl)) (mvT hZ (hW hw 56 rfl)) (mvT hZ (hW hw 57 rfl)) (by decide) (backOf (W := 0) (rm91 l Z a0' hw [] la ea kk x0 wa wb wc wd we ka kc G1 h0 n0 O W pf3 pf4 pf5 pf6 pf7 pf8) hZ (hW hw 57 rfl) (hW hw 56 rfl) (by decide) (by decide)) (g := (mkF m 4 #[vr a0] [(.ref la)])) rfl (by rw [hml]; rfl) (argsL := [(.ref la)]) (rest := []) (lenOf pd339 rfl) rfl (Nat.le_of_eq rfl) (hb hby d8_4) (fun _ _ => ⟨rfl, e1, (by decide : 0 + 2 ≤ _), (by decide : 0 + 3 ≤ _)⟩)
  dsimp only [Pt.U, Pt.locs, Pt.cells, Pt.slots] at X2 l2 y2 z2 st2 hQ2
  subst l2 y2 z2
  obtain ⟨r_2, rfl, N2q, Kc2, fc2_0, fc2_1⟩ := hQ2
  have N2 := Fr.app N0 N2q
  refine gb (mkF m 7 #[vr a0] [(.ref r_2)]) st2 ?_
  have K3 := ((Keep.refl h0 []).trans Kc2 all0)
  exact Gl.outA X2 hx hk Bd.returns rfl rfl (hb hby d8_7) ⟨r_2, rfl, N2, K3, fc2_0, fc2_1⟩ (by decide) (by decide)
theorem d34_45 : decode jdk_40_method_47_code 45 = .ok (.new 96, 3) := by decide +kernel
theorem d34_48 : decode jdk_40_method_47_code 48 = .ok (.dup, 1) := by decide +kernel
theorem d34_49 : decode jdk_40_method_47_code 49 = .ok (.aload_n 0, 1) := by decide +kernel
theorem d34_50 : decode jdk_40_method_47_code 50 = .ok (.iconst 0, 1) := by decide +kernel
theorem d34_51 : decode jdk_40_method_47_code 51 = .ok (.aaload, 1) := by decide +kernel
theorem d34_52 : decode jdk_40_method_47_code 52 = .ok (.aload_n 0, 1) := by decide +kernel
theorem d34_53 : decode jdk_40_method_47_code 53 = .ok (.iconst 1, 1) := by decide +kernel
theorem d34_54 : decode jdk_40_method_47_code 54 = .ok (.aaload, 1) := by decide +kernel
theorem d34_55 : decode jdk_40_method_47_code 55 = .ok (.invokespecial 100, 3) := by decide +kernel
theorem d34_58 : decode jdk_40_method_47_code 58 = .ok (.areturn, 1) := by decide +kernel
theorem pd370 : parseMethodDescriptor "(Ljava/lang/Object;Ljava/lang/Object;)V" = some ⟨[oT, oT], none⟩ := by decide +kernel
theorem ef342 (m : MethodId) (x0 : Addr) : entryFrame m #[(.ref x0)] 2 = mkF m 0 #[.val (.ref x0), .unset] [] := by first | (simp [entryFrame, mkF, argsToLocals, Value.category]; done) | rfl
def Q342 (Z : State) (a0 : Addr) (kk : ClassId) (x0 x1 : Addr) (wa wb wc wd we : Addr) (ka kc : ClassId) (G1 : Int32) (h0 : Heap) (n0 : Nat) (v : Option Value) (h : Heap) (L : List Loc) : Prop := ∃ (r : Addr), v = some (.ref r) ∧ Fr n0 L ∧ Keep h0 h [] ∧ Exa Z h r sT ∧ Fld Z h r sT "e1" "Ljava/lang/Object;" (.ref x1)
theorem rm342 (l : Launch) (Z : State) (a0' : Array Value) (hw : ∀ d ∈ tables_1, d.before a0' Z = true) (ws : List Jvm.Cond) (a0 : Addr) (kk : ClassId) (x0 x1 : Addr) (wa wb wc wd we : Addr) (ka kc : ClassId) (G1 : Int32) (h0 : Heap) (n0 : Nat) (O : Old Z n0 h0) (W : Wd Z wa wb wc wd we ka kc G1) (pf0 : Arv Z h0 a0 kk oT (2 : Int32) [(.ref x0), (.ref x1)] .null) (pf1 : Exa Z h0 x0 sI) (pf2 : Exa Z h0 x1 sI) :
    MetFree l mq42 (head1 (Jvm.Cond.code mq42 jdk_40_method_47_code 2 (some (.object "java/util/List")) :: ws) ({ frames := 5, cells := 1, slots := 2, locals := 63 } : Room)) (fun a U => a = #[(.ref a0)] ∧ Z.Warmed39 U.vm ∧ U.heap = h0) (fun _ _ _ _ _ => True) (fun _ U o U' => ∃ v L, o = .returned v ∧ Q342 Z a0 kk x0 x1 wa wb wc wd we ka kc G1 h0 n0 v U'.heap L ∧ FrameEnd U o U' L ({ frames := 5, cells := 1, slots := 2, locals := 63 } : Room).cells ({ frames := 5, cells := 1, slots := 2, locals := 63 } : Room).slots) := by
  refine MetFree.of_bodySF (plainFor_of_name pn10) hisR ?_
  intro p e s m args below meth c s₁ Bd hml0 hP hK
  obtain ⟨rfl, hZ, hh⟩ := hP
  have hx := Bd.exec
  have hby := Bd.bytes
  have hml : c.maxLocals = 2 := hml0
  have hown : s.vm.findClass "java/util/List" = some m.cls := findClass_of_methodNamed Bd.named
  have hnm := (name_of_methodNamed Bd.named Bd.method).1
  have hk := Bd.notSynchronized
  have X0 : Stand p l e ({ frames := 5, cells := 1, slots := 2, locals := 63 } : Room) s m #[(.ref a0)] below meth c s₁ [] 0 0 := Stand.of_body Bd
  have hh2 := hh
  have e0 : s₁.heap = h0 := by rw [← hh, Bd.state]; rfl
  have N0 := Fr.nil n0
  show Gl p e below (Pos 1 2 (Q342 Z a0 kk x0 x1 wa wb wc wd we ka kc G1 h0 n0) s) s₁ _
  refine Gl.cast (ef342 m a0) ?_
  refine gb (mkF m 1 #[vr a0, .unset] [(.ref a0)]) (fun _ k => XS.aloadN X0.here hx rfl (hb hby d34_0) rfl rfl k) ?_
  obtain ⟨cl1, Ar1, qa1, Sa1, Na1, Ha1, Ga1⟩ := id pf0
  refine gb (mkF m 2 #[vr a0, .unset] [(.int 2)]) (fun t k => X0.arraylength hx (by rw [e0]; exact Ar1.1) (State.isArrayOf_alike hZ.alike Ar1.2.1) (g := (mkF m 1 #[vr a0, .unset] [(.ref a0)])) rfl rfl (hb hby d34_1) t (by rw [len_of Sa1 Na1]; exact k)) ?_
  refine gb (mkF m 45 #[vr a0, .unset] []) (fun _ k => XS.tswIn (o := 43) (pc0 := 2) X0.here hx rfl rfl (hb hby d34_2) rfl (by decide) rfl (by decide) rfl k) ?_
  obtain ⟨T2, h2, X2, e2, E2, A2, D2, -, st2⟩ := newO X0 hx hZ hown (hW hw 258 rfl) (hW hw 259 rfl) (hW hw 260 rfl) e0 (g := (mkF m 45 #[vr a0, .unset] [])) rfl (hb hby d34_45) (by decide) (by decide)
  obtain ⟨b2, g2⟩ : ∃ z, z = (h0).size := ⟨_, rfl⟩
  rw [← g2] at A2 D2 st2
  have gb2 : n0 ≤ b2 := Nat.le_trans (Nat.le_trans (Nat.le_of_eq O.1.symm) O.2.1) (Nat.le_of_eq g2.symm)
  have sb2 : h0.size ≤ b2 := Nat.le_trans (Keep.refl h0 []).1 (Nat.le_of_eq g2.symm)
  have ne2_0 : a0 ≠ b2 := Nat.ne_of_lt (Nat.lt_of_lt_of_le pf0.lt (Nat.le_of_eq g2.symm))
  have ne2_2 : x0 ≠ b2 := Nat.ne_of_lt (Nat.lt_of_lt_of_le pf1.lt (Nat.le_of_eq g2.symm))
  have ne2_4 : x1 ≠ b2 := Nat.ne_of_lt (Nat.lt_of_lt_of_le pf2.lt (Nat.le_of_eq g2.symm))
  have ne2_6 : wa ≠ b2 := Nat.ne_of_lt (Nat.lt_of_lt_of_le (Arv.ext W.2.1 O.2).lt (Nat.le_of_eq g2.symm))
  have ne2_8 : wc ≠ b2 := Nat.ne_of_lt (Nat.lt_of_lt_of_le (Arv.ext W.2.2.2.2.2.1 O.2).lt (Nat.le_of_eq g2.symm))
  have ne2_10 : wb ≠ b2 := Nat.ne_of_lt (Nat.lt_of_lt_of_le (Exa.ext O.2 W.2.2.2.1).lt (Nat.le_of_eq g2.symm))
  have ne2_12 : wd ≠ b2 := Nat.ne_of_lt (Nat.lt_of_lt_of_le (Exa.ext O.2 W.2.2.2.2.2.2.2.1).lt (Nat.le_of_eq g2.symm))
  have D2_e0 : Fld Z h2 b2 sT "e0" "Ljava/lang/Object;" .null := D2 (Or.inr (hW hw 271 rfl)) (ty := oT) (by decide)
  have D2_e1 : Fld Z h2 b2 sT "e1" "Ljava/lang/Object;" .null := D2 (Or.inr (hW hw 273 rfl)) (ty := oT) (by decide)
  refine gb (mkF m 48 #[vr a0, .unset] [(.ref b2)]) st2 ?_
  refine gb (mkF m 49 #[vr a0, .unset] [(.ref b2), (.ref b2)]) (fun _ k => XS.dup X2.here hx rfl (hb hby d34_48) rfl rfl k) ?_
  refine gb (mkF m 50 #[vr a0, .unset] [(.ref a0), (.ref b2), (.ref b2)]) (fun _ k => XS.aloadN X2.here hx rfl (hb hby d34_49) rfl rfl k) ?_
  refine gb (mkF m 51 #[vr a0, .unset] [(.int 0), (.ref a0), (.ref b2), (.ref b2)]) (fun _ k => XS.iconst X2.here hx rfl (hb hby d34_50) k) ?_
  have f3 := (Arv.ext pf0 E2)
  obtain ⟨cl4, Ar4, qa4, Sa4, Na4, Ha4, Ga4⟩ := id f3
  have hin5 : ¬ ((0 : Int32) < 0 ∨ cl4.slots.size ≤ ((0 : Int32)).toNatClampNeg) := inb_of Sa4 ⟨by decide, by decide⟩
  refine gb (mkF m 52 #[vr a0, .unset] [(.ref x0), (.ref b2), (.ref b2)]) (X2.aaload hx (j := (0 : Int32)) (v := (.ref x0)) (by rw [e2]; exact Ar4.1) (State.isArrayOf_alike hZ.alike Ar4.2.1) rfl Ar4.2.2 hin5 (Has.at Ha4 hin5 rfl) (g := (mkF m 51 #[vr a0, .unset] [(.int 0), (.ref a0), (.ref b2), (.ref b2)])) rfl rfl (hb hby d34_51)) ?_
  refine gb (mkF m 53 #[vr a0, .unset] [(.ref a0), (.ref x0), (.ref b2), (.ref b2)]) (fun _ k => XS.aloadN X2.here hx rfl (hb hby d34_52) rfl rfl k) ?_
  refine gb (mkF m 54 #[vr a0, .unset] [(.int 1), (.ref a0), (.ref x0), (.ref b2), (.ref b2)]) (fun _ k => XS.iconst X2.here hx rfl (hb hby d34_53) k) ?_
  obtain ⟨cl6, Ar6, qa6, Sa6, Na6, Ha6, Ga6⟩ := id f3
  have hin7 : ¬ ((1 : Int32) < 0 ∨ cl6.slots.size ≤ ((1 : Int32)).toNatClampNeg) := inb_of Sa6 ⟨by decide, by decide⟩
  refine gb (mkF m 55 #[vr a0, .unset] [(.ref x1), (.ref x0), (.ref b2), (.ref b2)]) (X2.aaload hx (j := (1 : Int32)) (v := (.ref x1)) (by rw [e2]; exact Ar6.1) (State.isArrayOf_alike hZ.alike Ar6.2.1) rfl Ar6.2.2 hin7 (Has.at Ha6 hin7 rfl) (g := (mkF m 54 #[vr a0, .unset] [(.int 1), (.ref a0), (.ref x0), (.ref b2), (.ref b2)])) rfl rfl (hb hby d34_54)) ?_
  have K9 := ((Keep.refl h0 []).ext E2)
  have O10 := (O.ext E2)
  obtain ⟨_, _, ⟨T8, L8, k8, n8⟩, -, X8, ⟨Lc8, hQ8, l8, y8, z8⟩, st8⟩ := X2.specialBack hx (y := mq37) rfl hown (mvT hZ (hW hw 261 rfl)) (mvT hZ (hW hw 262 rfl)) (mvT hZ (hW hw 264 rfl)) (by decide) (backOf (W := 1) (rm40 l Z a0' hw [] b2 x0 x1 wa wb wc wd we ka kc G1 h2 n0 O10 W A2 D2_e0 D2_e1 gb2) hZ (hW hw 264 rfl) (hW hw 260 rfl) (by decide) (by decide)) (g := (mkF m 55 #[vr a0, .unset] [(.ref x1), (.ref x0), (.ref b2), (.ref b2)])) rfl (by rw [hml]; rfl) (Steps.refl _) (a := b2) (argsL := [(.ref x0), (.ref x1)]) (rest := [(.ref b2)]) (lenOf pd370 rfl) rfl (Nat.le_of_eq rfl) (hb hby d34_55) (fun _ _ => ⟨rfl, e2, (by decide : 1 + 0 ≤ _), (by decide : 2 + 0 ≤ _)⟩)
  dsimp only [Pt.U, Pt.locs, Pt.cells, Pt.slots] at X8 l8 y8 z8 st8 hQ8
  subst l8 y8 z8
  obtain ⟨rfl, N8q, Kc8, fc8_0⟩ := hQ8
  have N8 := Fr.app N0 N8q
  refine gb (mkF m 58 #[vr a0, .unset] [(.ref b2)]) (fun _ k => st8.trans k) ?_
  have K11 := (K9.trans Kc8 (allS (Or.inr sb2) all0))
  have f12 := (Exa.keep A2 Kc8)
  exact Gl.outA X8 hx hk Bd.returns rfl rfl (hb hby d34_58) ⟨b2, rfl, N8, K11, f12, fc8_0⟩ (by decide) (by decide)
theorem ef102 (m : MethodId) (x0 : Addr) : entryFrame m #[(.ref x0)] 2 = mkF m 0 #[.val (.ref x0), .unset] [] := by first | (simp [entryFrame, mkF, argsToLocals, Value.category]; done) | rfl
def Q102 (Z : State) (a0 : Addr) (ea : Addr) (kk : ClassId) (x0 x1 : Addr) (wa wb wc wd we : Addr) (ka kc : ClassId) (G1 : Int32) (h0 : Heap) (n0 : Nat) (v : Option Value) (h : Heap) (L : List Loc) : Prop := ∃ (r : Addr), v = some (.ref r) ∧ Fr n0 L ∧ Keep h0 h [] ∧ Exa Z h r sT ∧ Fld Z h r sT "e1" "Ljava/lang/Object;" (.ref x1)
theorem rm102 (l : Launch) (Z : State) (a0' : Array Value) (hw : ∀ d ∈ tables_1, d.before a0' Z = true) (ws : List Jvm.Cond) (a0 : Addr) (ea : Addr) (kk : ClassId) (x0 x1 : Addr) (wa wb wc wd we : Addr) (ka kc : ClassId) (G1 : Int32) (h0 : Heap) (n0 : Nat) (O : Old Z n0 h0) (W : Wd Z wa wb wc wd we ka kc G1) (pf0 : Exa Z h0 a0 sA) (pf1 : Fld Z h0 a0 sA "elementData" sO (.ref ea)) (pf2 : Fld Z h0 a0 sA "size" "I" (.int 2)) (pf3 : Exa Z h0 ea sO) (pf4 : Arv Z h0 ea kk oT (10 : Int32) [(.ref x0), (.ref x1), .null, .null, .null, .null, .null, .null, .null, .null] .null) (pf5 : Exa Z h0 x0 sI) (pf6 : Exa Z h0 x1 sI) :
    MetFree l mq38 (head1 (Jvm.Cond.code mq38 jdk_56_method_3_code 2 (some (.object "java/util/List")) :: ws) ({ frames := 6, cells := 2, slots := 4, locals := 76 } : Room)) (fun a U => a = #[(.ref a0)] ∧ Z.Warmed39 U.vm ∧ U.heap = h0) (fun _ _ _ _ _ => True) (fun _ U o U' => ∃ v L, o = .returned v ∧ Q102 Z a0 ea kk x0 x1 wa wb wc wd we ka kc G1 h0 n0 v U'.heap L ∧ FrameEnd U o U' L ({ frames := 6, cells := 2, slots := 4, locals := 76 } : Room).cells ({ frames := 6, cells := 2, slots := 4, locals := 76 } : Room).slots) := by
  refine MetFree.of_bodySF (plainFor_of_name pn16) hisR ?_
  intro p e s m args below meth c s₁ Bd hml0 hP hK
  obtain ⟨rfl, hZ, hh⟩ := hP
  have hx := Bd.exec
  have hby := Bd.bytes
  have hml : c.maxLocals = 2 := hml0
  have hown : s.vm.findClass "java/util/ImmutableCollections" = some m.cls := findClass_of_methodNamed Bd.named
  have hnm := (name_of_methodNamed Bd.named Bd.method).1
  have hk := Bd.notSynchronized
  have X0 : Stand p l e ({ frames := 6, cells := 2, slots := 4, locals := 76 } : Room) s m #[(.ref a0)] below meth c s₁ [] 0 0 := Stand.of_body Bd
  have hh2 := hh
  have e0 : s₁.heap = h0 := by rw [← hh, Bd.state]; rfl
  have N0 := Fr.nil n0
  show Gl p e below (Pos 2 4 (Q102 Z a0 ea kk x0 x1 wa wb wc wd we ka kc G1 h0 n0) s) s₁ _
  refine Gl.cast (ef102 m a0) ?_
  refine gb (mkF m 1 #[vr a0, .unset] [(.ref a0)]) (fun _ k => XS.aloadN X0.here hx rfl (hb hby d10_0) rfl rfl k) ?_
  obtain ⟨T1, X1, e1, st1⟩ := instNo X0 hx hZ hown (hW hw 62 rfl) e0 pf0 (ns_no (hW hw 63 rfl) (hW hw 259 rfl) (NS.step (hW hw 63 rfl) (NS.step (hW hw 64 rfl) (NS.step (hW hw 65 rfl) (ns_root (hW hw 66 rfl) (hW hw 259 rfl) (by decide)) (by decide)) (by decide)) (by decide)) (by decide)) (g := (mkF m 1 #[vr a0, .unset] [(.ref a0)])) rfl rfl (hb hby d10_1)
  refine gb (mkF m 4 #[vr a0, .unset] [(.int 0)]) st1 ?_
  refine gb (mkF m 7 #[vr a0, .unset] []) (fun _ k => XS.ifNo X1.here hx rfl (hb hby d10_4) rfl ((if0 _ _).trans (teq (by decide : (0 : Int32) = (0 : Int32))).2) k) ?_
  refine gb (mkF m 8 #[vr a0, .unset] [(.ref a0)]) (fun _ k => XS.aloadN X1.here hx rfl (hb hby d10_7) rfl rfl k) ?_
  obtain ⟨T2, X2, e2, st2⟩ := instNo X1 hx hZ hown (hW hw 67 rfl) e1 pf0 (ns_no (hW hw 63 rfl) (hW hw 237 rfl) (NS.step (hW hw 63 rfl) (NS.step (hW hw 64 rfl) (NS.step (hW hw 65 rfl) (ns_root (hW hw 66 rfl) (hW hw 237 rfl) (by decide)) (by decide)) (by decide)) (by decide)) (by decide)) (g := (mkF m 8 #[vr a0, .unset] [(.ref a0)])) rfl rfl (hb hby d10_8)
  refine gb (mkF m 11 #[vr a0, .unset] [(.int 0)]) st2 ?_
  refine gb (mkF m 31 #[vr a0, .unset] []) (fun _ k => XS.ifYes X2.here hx rfl (pc0 := 11) (pc' := 31) rfl (hb hby d10_11) rfl ((if0 _ _).trans (teq (by decide : (0 : Int32) = (0 : Int32))).1) (by decide) (by decide) k) ?_
  refine gb (mkF m 32 #[vr a0, .unset] [(.ref a0)]) (fun _ k => XS.aloadN X2.here hx rfl (hb hby d10_31) rfl rfl k) ?_
  obtain ⟨cq3, kq3, q3a, q3b, q3c⟩ := isOf hZ e2 pf0
  obtain ⟨_, _, ⟨T3, L3, k3, n3⟩, -, X3, ⟨Lc3, hQ3, l3, y3, z3⟩, st3⟩ := X2.interfaceBack hx (xi := mq39) (y := mq28) hown (mvT hZ (hW hw 68 rfl)) (mvT hZ (hW hw 69 rfl)) (mvT hZ (hW hw 70 rfl)) (mvT hZ (hW hw 71 rfl)) (mvT hZ (hW hw 72 rfl)) (mvT hZ (hW hw 73 rfl)) (mvT hZ (hW hw 74 rfl)) (mvT hZ (hW hw 75 rfl)) (by decide) (backOf (W := 0) (rm11s l Z a0' hw [] a0 (2 : Int32) wa wb wc wd we ka kc G1 h0 n0 O W pf0 pf2 (by decide)) hZ (hW hw 76 rfl) (hW hw 11 rfl) (by decide) (by decide)) q3a q3b q3c (g := (mkF m 32 #[vr a0, .unset] [(.ref a0)])) rfl (by rw [hml]; rfl) (Steps.refl _) (argsL := []) (rest := []) (lenOf pd334 rfl) rfl (Nat.le_of_eq rfl) (hb hby d10_32) (fun _ _ => ⟨rfl, e2, (by decide : 0 + 0 ≤ _), (by decide : 0 + 0 ≤ _)⟩)
  dsimp only [Pt.U, Pt.locs, Pt.cells, Pt.slots] at X3 l3 y3 z3 st3 hQ3
  subst l3 y3 z3
  obtain ⟨rfl, N3q, e3⟩ := hQ3
  have N3 := Fr.app N0 N3q
  refine gb (mkF m 37 #[vr a0, .unset] [(.int 0)]) (fun _ k => st3.trans k) ?_
  refine gb (mkF m 44 #[vr a0, .unset] []) (fun _ k => XS.ifYes X3.here hx rfl (pc0 := 37) (pc' := 44) rfl (hb hby d10_37) rfl ((if0 _ _).trans (teq (by decide : (0 : Int32) = (0 : Int32))).1) (by decide) (by decide) k) ?_
  refine gb (mkF m 45 #[vr a0, .unset] [(.ref a0)]) (fun _ k => XS.aloadN X3.here hx rfl (hb hby d10_44) rfl rfl k) ?_
  obtain ⟨cq4, kq4, q4a, q4b, q4c⟩ := isOf hZ e3 pf0
  obtain ⟨_, _, ⟨T4, L4, k4, n4⟩, -, X4, ⟨Lc4, hQ4, l4, y4, z4⟩, st4⟩ := X3.interfaceBack hx (xi := mq43) (y := mq21) hown (mvT hZ (hW hw 196 rfl)) (mvT hZ (hW hw 197 rfl)) (mvT hZ (hW hw 198 rfl)) (mvT hZ (hW hw 199 rfl)) (mvT hZ (hW hw 200 rfl)) (mvT hZ (hW hw 201 rfl)) (mvT hZ (hW hw 202 rfl)) (mvT hZ (hW hw 75 rfl)) (by decide) (backOf (W := 0) (rm302 l Z a0' hw [] a0 ea kk x0 x1 wa wb wc wd we ka kc G1 h0 n0 O W pf0 pf1 pf2 pf3 pf4 pf5 pf6) hZ (hW hw 203 rfl) (hW hw 11 rfl) (by decide) (by decide)) q4a q4b q4c (g := (mkF m 45 #[vr a0, .unset] [(.ref a0)])) rfl (by rw [hml]; rfl) (Steps.refl _) (argsL := []) (rest := []) (lenOf pd50 rfl) rfl (Nat.le_of_eq rfl) (hb hby d10_45) (fun _ _ => ⟨rfl, e3, (by decide : 0 + 1 ≤ _), (by decide : 0 + 2 ≤ _)⟩)
  dsimp only [Pt.U, Pt.locs, Pt.cells, Pt.slots] at X4 l4 y4 z4 st4 hQ4
  subst l4 y4 z4
  obtain ⟨r_4, kr_4, rfl, N4q, Kc4, fc4_0, fc4_1⟩ := hQ4
  have N4 := Fr.app N3 N4q
  refine gb (mkF m 50 #[vr a0, .unset] [(.ref r_4)]) (fun _ k => st4.trans k) ?_
  have K6 := ((Keep.refl h0 []).trans Kc4 all0)
  have f7 := (Exa.keep pf5 Kc4)
  have f8 := (Exa.keep pf6 Kc4)
  have O9 := (O.keep Kc4 all0)
  obtain ⟨_, _, ⟨T5, L5, k5, n5⟩, -, X5, ⟨Lc5, hQ5, l5, y5, z5⟩, st5⟩ := callS X4 hx (y := mq42) hown (mvT hZ (hW hw 226 rfl)) (mvT hZ (hW hw 227 rfl)) (mvT hZ (hW hw 56 rfl)) (mvT hZ (hW hw 228 rfl)) (by decide) (backOf (W := 0) (rm342 l Z a0' hw [] r_4 kr_4 x0 x1 wa wb wc wd we ka kc G1 T4.heap n0 O9 W fc4_0 f7 f8) hZ (hW hw 228 rfl) (hW hw 56 rfl) (by decide) (by decide)) (g := (mkF m 50 #[vr a0, .unset] [(.ref r_4)])) rfl (by rw [hml]; rfl) (argsL := [(.ref r_4)]) (rest := []) (lenOf pd359 rfl) rfl (Nat.le_of_eq rfl) (hb hby d10_50) (fun _ _ => ⟨rfl, rfl, (by decide : 1 + 1 ≤ _), (by decide : 2 + 2 ≤ _)⟩)
  dsimp only [Pt.U, Pt.locs, Pt.cells, Pt.slots] at X5 l5 y5 z5 st5 hQ5
  subst l5 y5 z5
  obtain ⟨r_5, rfl, N5q, Kc5, fc5_0, fc5_1⟩ := hQ5
  have N5 := Fr.app N4 N5q
  refine gb (mkF m 53 #[vr a0, .unset] [(.ref r_5)]) st5 ?_
  have K10 := (K6.trans Kc5 all0)
  exact Gl.outA X5 hx hk Bd.returns rfl rfl (hb hby d10_53) ⟨r_5, rfl, N5, K10, fc5_0, fc5_1⟩ (by decide) (by decide)
theorem ef92 (m : MethodId) (x0 : Addr) : entryFrame m #[(.ref x0)] 1 = mkF m 0 #[.val (.ref x0)] [] := by first | (simp [entryFrame, mkF, argsToLocals, Value.category]; done) | rfl
def Q92 (Z : State) (a0 : Addr) (ea : Addr) (kk : ClassId) (x0 x1 : Addr) (wa wb wc wd we : Addr) (ka kc : ClassId) (G1 : Int32) (h0 : Heap) (n0 : Nat) (v : Option Value) (h : Heap) (L : List Loc) : Prop := ∃ (r : Addr), v = some (.ref r) ∧ Fr n0 L ∧ Keep h0 h [] ∧ Exa Z h r sT ∧ Fld Z h r sT "e1" "Ljava/lang/Object;" (.ref x1)
theorem rm92 (l : Launch) (Z : State) (a0' : Array Value) (hw : ∀ d ∈ tables_1, d.before a0' Z = true) (ws : List Jvm.Cond) (a0 : Addr) (ea : Addr) (kk : ClassId) (x0 x1 : Addr) (wa wb wc wd we : Addr) (ka kc : ClassId) (G1 : Int32) (h0 : Heap) (n0 : Nat) (O : Old Z n0 h0) (W : Wd Z wa wb wc wd we ka kc G1) (pf0 : Exa Z h0 a0 sA) (pf1 : Fld Z h0 a0 sA "elementData" sO (.ref ea)) (pf2 : Fld Z h0 a0 sA "size" "I" (.int 2)) (pf3 : Exa Z h0 ea sO) (pf4 : Arv Z h0 ea kk oT (10 : Int32) [(.ref x0), (.ref x1), .null, .null, .null, .null, .null, .null, .null, .null] .null) (pf5 : Exa Z h0 x0 sI) (pf6 : Exa Z h0 x1 sI) :
    MetFree l mq40 (head1 (Jvm.Cond.code mq40 jdk_40_method_48_code 1 (some (.object "java/util/List")) :: ws) ({ frames := 7, cells := 2, slots := 4, locals := 89 } : Room)) (fun a U => a = #[(.ref a0)] ∧ Z.Warmed39 U.vm ∧ U.heap = h0) (fun _ _ _ _ _ => True) (fun _ U o U' => ∃ v L, o = .returned v ∧ Q92 Z a0 ea kk x0 x1 wa wb wc wd we ka kc G1 h0 n0 v U'.heap L ∧ FrameEnd U o U' L ({ frames := 7, cells := 2, slots := 4, locals := 89 } : Room).cells ({ frames := 7, cells := 2, slots := 4, locals := 89 } : Room).slots) := by
  refine MetFree.of_bodySF (plainFor_of_name pn10) hisR ?_
  intro p e s m args below meth c s₁ Bd hml0 hP hK
  obtain ⟨rfl, hZ, hh⟩ := hP
  have hx := Bd.exec
  have hby := Bd.bytes
  have hml : c.maxLocals = 1 := hml0
  have hown : s.vm.findClass "java/util/List" = some m.cls := findClass_of_methodNamed Bd.named
  have hnm := (name_of_methodNamed Bd.named Bd.method).1
  have hk := Bd.notSynchronized
  have X0 : Stand p l e ({ frames := 7, cells := 2, slots := 4, locals := 89 } : Room) s m #[(.ref a0)] below meth c s₁ [] 0 0 := Stand.of_body Bd
  have hh2 := hh
  have e0 : s₁.heap = h0 := by rw [← hh, Bd.state]; rfl
  have N0 := Fr.nil n0
  show Gl p e below (Pos 2 4 (Q92 Z a0 ea kk x0 x1 wa wb wc wd we ka kc G1 h0 n0) s) s₁ _
  refine Gl.cast (ef92 m a0) ?_
  refine gb (mkF m 1 #[vr a0] [(.ref a0)]) (fun _ k => XS.aloadN X0.here hx rfl (hb hby d9_0) rfl rfl k) ?_
  obtain ⟨_, _, ⟨T1, L1, k1, n1⟩, -, X1, ⟨Lc1, hQ1, l1, y1, z1⟩, st1⟩ := callS X0 hx (y := mq38) hown (mvT hZ (hW hw 58 rfl)) (mvT hZ (hW hw 59 rfl)) (mvT hZ (hW hw 60 rfl)) (mvT hZ (hW hw 61 rfl)) (by decide) (backOf (W := 0) (rm102 l Z a0' hw [] a0 ea kk x0 x1 wa wb wc wd we ka kc G1 h0 n0 O W pf0 pf1 pf2 pf3 pf4 pf5 pf6) hZ (hW hw 61 rfl) (hW hw 60 rfl) (by decide) (by decide)) (g := (mkF m 1 #[vr a0] [(.ref a0)])) rfl (by rw [hml]; rfl) (argsL := [(.ref a0)]) (rest := []) (lenOf pd339 rfl) rfl (Nat.le_of_eq rfl) (hb hby d9_1) (fun _ _ => ⟨rfl, e0, (by decide : 0 + 2 ≤ _), (by decide : 0 + 4 ≤ _)⟩)
  dsimp only [Pt.U, Pt.locs, Pt.cells, Pt.slots] at X1 l1 y1 z1 st1 hQ1
  subst l1 y1 z1
  obtain ⟨r_1, rfl, N1q, Kc1, fc1_0, fc1_1⟩ := hQ1
  have N1 := Fr.app N0 N1q
  refine gb (mkF m 4 #[vr a0] [(.ref r_1)]) st1 ?_
  have K2 := ((Keep.refl h0 []).trans Kc1 all0)
  exact Gl.outA X1 hx hk Bd.returns rfl rfl (hb hby d9_4) ⟨r_1, rfl, N1, K2, fc1_0, fc1_1⟩ (by decide) (by decide)
theorem ef82 (m : MethodId) (x0 : Addr) : entryFrame m #[(.ref x0)] 1 = mkF m 0 #[.val (.ref x0)] [] := by first | (simp [entryFrame, mkF, argsToLocals, Value.category]; done) | rfl
def Q82 (Z : State) (a0 : Addr) (la : Addr) (ea : Addr) (kk : ClassId) (x0 x1 : Addr) (wa wb wc wd we : Addr) (ka kc : ClassId) (G1 : Int32) (h0 : Heap) (n0 : Nat) (v : Option Value) (h : Heap) (L : List Loc) : Prop := ∃ (r : Addr), v = some (.ref r) ∧ Fr n0 L ∧ Keep h0 h [] ∧ Exa Z h r sT ∧ Fld Z h r sT "e1" "Ljava/lang/Object;" (.ref x1)
theorem rm82 (l : Launch) (Z : State) (a0' : Array Value) (hw : ∀ d ∈ tables_1, d.before a0' Z = true) (ws : List Jvm.Cond) (a0 : Addr) (la : Addr) (ea : Addr) (kk : ClassId) (x0 x1 : Addr) (wa wb wc wd we : Addr) (ka kc : ClassId) (G1 : Int32) (h0 : Heap) (n0 : Nat) (O : Old Z n0 h0) (W : Wd Z wa wb wc wd we ka kc G1) (pf0 : Exa Z h0 a0 sF) (pf1 : Fld Z h0 a0 sF "found" "I" (.int 2)) (pf2 : Fld Z h0 a0 sF "params" "Ljava/util/List;" (.ref la)) (pf3 : Exa Z h0 la sA) (pf4 : Fld Z h0 la sA "elementData" sO (.ref ea)) (pf5 : Fld Z h0 la sA "size" "I" (.int 2)) (pf6 : Exa Z h0 ea sO) (pf7 : Arv Z h0 ea kk oT (10 : Int32) [(.ref x0), (.ref x1), .null, .null, .null, .null, .null, .null, .null, .null] .null) (pf8 : Exa Z h0 x0 sI) (pf9 : Exa Z h0 x1 sI) :
    MetFree l mq41 (head1 (Jvm.Cond.code mq41 prog_17_method_8_code 1 (some (.object "java/util/List")) :: ws) ({ frames := 8, cells := 2, slots := 4, locals := 101 } : Room)) (fun a U => a = #[(.ref a0)] ∧ Z.Warmed39 U.vm ∧ U.heap = h0) (fun _ _ _ _ _ => True) (fun _ U o U' => ∃ v L, o = .returned v ∧ Q82 Z a0 la ea kk x0 x1 wa wb wc wd we ka kc G1 h0 n0 v U'.heap L ∧ FrameEnd U o U' L ({ frames := 8, cells := 2, slots := 4, locals := 101 } : Room).cells ({ frames := 8, cells := 2, slots := 4, locals := 101 } : Room).slots) := by
  refine MetFree.of_bodySF (plainFor_of_name pn3) hisR ?_
  intro p e s m args below meth c s₁ Bd hml0 hP hK
  obtain ⟨rfl, hZ, hh⟩ := hP
  have hx := Bd.exec
  have hby := Bd.bytes
  have hml : c.maxLocals = 1 := hml0
  have hown : s.vm.findClass sF = some m.cls := findClass_of_methodNamed Bd.named
  have hnm := (name_of_methodNamed Bd.named Bd.method).1
  have hk := Bd.notSynchronized
  have X0 : Stand p l e ({ frames := 8, cells := 2, slots := 4, locals := 101 } : Room) s m #[(.ref a0)] below meth c s₁ [] 0 0 := Stand.of_body Bd
  have hh2 := hh
  have e0 : s₁.heap = h0 := by rw [← hh, Bd.state]; rfl
  have N0 := Fr.nil n0
  show Gl p e below (Pos 2 4 (Q82 Z a0 la ea kk x0 x1 wa wb wc wd we ka kc G1 h0 n0) s) s₁ _
  refine Gl.cast (ef82 m a0) ?_
  refine gb (mkF m 1 #[vr a0] [(.ref a0)]) (fun _ k => XS.aloadN X0.here hx rfl (hb hby d8_0) rfl rfl k) ?_
  obtain ⟨T1, X1, e1, st1⟩ := getF X0 hx hZ hown (host := "") (Or.inl (hW hw 33 rfl)) Via.refl e0 pf2 (g := (mkF m 1 #[vr a0] [(.ref a0)])) rfl rfl (hb hby d8_1)
  refine gb (mkF m 4 #[vr a0] [(.ref la)]) st1 ?_
  obtain ⟨_, _, ⟨T2, L2, k2, n2⟩, -, X2, ⟨Lc2, hQ2, l2, y2, z2⟩, st2⟩ := callS X1 hx (y := mq40) hown (mvT hZ (hW hw 54 rfl)) (mvT hZ (hW hw 55 rfl)) (mvT hZ (hW hw 56 rfl)) (mvT hZ (hW hw 57 rfl)) (by decide) (backOf (W := 0) (rm92 l Z a0' hw [] la ea kk x0 x1 wa wb wc wd we ka kc G1 h0 n0 O W pf3 pf4 pf5 pf6 pf7 pf8 pf9) hZ (hW hw 57 rfl) (hW hw 56 rfl) (by decide) (by decide)) (g := (mkF m 4 #[vr a0] [(.ref la)])) rfl (by rw [hml]; rfl) (argsL := [(.ref la)]) (rest := []) (lenOf pd339 rfl) rfl (Nat.le_of_eq rfl) (hb hby d8_4) (fun _ _ => ⟨rfl, e1, (by decide : 0 + 2 ≤ _), (by decide : 0 + 4 ≤ _)⟩)
  dsimp only [Pt.U, Pt.locs, Pt.cells, Pt.slots] at X2 l2 y2 z2 st2 hQ2
  subst l2 y2 z2
  obtain ⟨r_2, rfl, N2q, Kc2, fc2_0, fc2_1⟩ := hQ2
  have N2 := Fr.app N0 N2q
  refine gb (mkF m 7 #[vr a0] [(.ref r_2)]) st2 ?_
  have K3 := ((Keep.refl h0 []).trans Kc2 all0)
  exact Gl.outA X2 hx hk Bd.returns rfl rfl (hb hby d8_7) ⟨r_2, rfl, N2, K3, fc2_0, fc2_1⟩ (by decide) (by decide)
theorem d35_0 : decode jdk_56_method_4_code 0 = .ok (.aload_n 0, 1) := by decide +kernel
theorem d35_1 : decode jdk_56_method_4_code 1 = .ok (.arraylength, 1) := by decide +kernel
theorem d35_2 : decode jdk_56_method_4_code 2 = .ok (.anewarray 2, 3) := by decide +kernel
theorem d35_5 : decode jdk_56_method_4_code 5 = .ok (.astore_n 1, 1) := by decide +kernel
theorem d35_6 : decode jdk_56_method_4_code 6 = .ok (.iconst 0, 1) := by decide +kernel
theorem d35_7 : decode jdk_56_method_4_code 7 = .ok (.istore_n 2, 1) := by decide +kernel
theorem d35_8 : decode jdk_56_method_4_code 8 = .ok (.iload_n 2, 1) := by decide +kernel
theorem d35_9 : decode jdk_56_method_4_code 9 = .ok (.aload_n 0, 1) := by decide +kernel
theorem d35_10 : decode jdk_56_method_4_code 10 = .ok (.arraylength, 1) := by decide +kernel
theorem d35_11 : decode jdk_56_method_4_code 11 = .ok (.if_icmp .ge 18, 3) := by decide +kernel
theorem d35_14 : decode jdk_56_method_4_code 14 = .ok (.aload_n 1, 1) := by decide +kernel
theorem d35_15 : decode jdk_56_method_4_code 15 = .ok (.iload_n 2, 1) := by decide +kernel
theorem d35_16 : decode jdk_56_method_4_code 16 = .ok (.aload_n 0, 1) := by decide +kernel
theorem d35_17 : decode jdk_56_method_4_code 17 = .ok (.iload_n 2, 1) := by decide +kernel
theorem d35_18 : decode jdk_56_method_4_code 18 = .ok (.aaload, 1) := by decide +kernel
theorem d35_19 : decode jdk_56_method_4_code 19 = .ok (.invokestatic 37, 3) := by decide +kernel
theorem d35_22 : decode jdk_56_method_4_code 22 = .ok (.aastore, 1) := by decide +kernel
theorem d35_23 : decode jdk_56_method_4_code 23 = .ok (.iinc 2 1, 3) := by decide +kernel
theorem d35_26 : decode jdk_56_method_4_code 26 = .ok (.goto (-18), 3) := by decide +kernel
theorem d35_29 : decode jdk_56_method_4_code 29 = .ok (.new 12, 3) := by decide +kernel
theorem d35_32 : decode jdk_56_method_4_code 32 = .ok (.dup, 1) := by decide +kernel
theorem d35_33 : decode jdk_56_method_4_code 33 = .ok (.aload_n 1, 1) := by decide +kernel
theorem d35_34 : decode jdk_56_method_4_code 34 = .ok (.iconst 0, 1) := by decide +kernel
theorem d35_35 : decode jdk_56_method_4_code 35 = .ok (.invokespecial 43, 3) := by decide +kernel
theorem d35_38 : decode jdk_56_method_4_code 38 = .ok (.areturn, 1) := by decide +kernel
theorem pd396 : parseMethodDescriptor "([Ljava/lang/Object;Z)V" = some ⟨[(.array oT), .boolean], none⟩ := by decide +kernel
theorem ef353 (m : MethodId) (x0 : Addr) : entryFrame m #[(.ref x0)] 3 = mkF m 0 #[.val (.ref x0), .unset, .unset] [] := by first | (simp [entryFrame, mkF, argsToLocals, Value.category]; done) | rfl
def Q353 (Z : State) (a0 : Addr) (kk : ClassId) (x0 x1 x2 : Addr) (wa wb wc wd we : Addr) (ka kc : ClassId) (G1 : Int32) (h0 : Heap) (n0 : Nat) (v : Option Value) (h : Heap) (L : List Loc) : Prop := ∃ (r : Addr), ∃ (ar : Addr), ∃ (kr : ClassId), v = some (.ref r) ∧ Fr n0 L ∧ Keep h0 h [] ∧ Exa Z h r sN ∧ Fld Z h r sN "elements" sO (.ref ar) ∧ Arv Z h ar kr oT (3 : Int32) [(.ref x0), (.ref x1), (.ref x2)] .null
theorem rm353 (l : Launch) (Z : State) (a0' : Array Value) (hw : ∀ d ∈ tables_1, d.before a0' Z = true) (ws : List Jvm.Cond) (a0 : Addr) (kk : ClassId) (x0 x1 x2 : Addr) (wa wb wc wd we : Addr) (ka kc : ClassId) (G1 : Int32) (h0 : Heap) (n0 : Nat) (O : Old Z n0 h0) (W : Wd Z wa wb wc wd we ka kc G1) (pf0 : Arv Z h0 a0 kk oT (3 : Int32) [(.ref x0), (.ref x1), (.ref x2)] .null) (pf1 : Exa Z h0 x0 sI) (pf2 : Exa Z h0 x1 sI) (pf3 : Exa Z h0 x2 sI) :
    MetFree l mq44 (head1 (Jvm.Cond.code mq44 jdk_56_method_4_code 3 (some (.object "java/util/List")) :: ws) ({ frames := 5, cells := 2, slots := 5, locals := 63 } : Room)) (fun a U => a = #[(.ref a0)] ∧ Z.Warmed39 U.vm ∧ U.heap = h0) (fun _ _ _ _ _ => True) (fun _ U o U' => ∃ v L, o = .returned v ∧ Q353 Z a0 kk x0 x1 x2 wa wb wc wd we ka kc G1 h0 n0 v U'.heap L ∧ FrameEnd U o U' L ({ frames := 5, cells := 2, slots := 5, locals := 63 } : Room).cells ({ frames := 5, cells := 2, slots := 5, locals := 63 } : Room).slots) := by
  refine MetFree.of_bodySF (plainFor_of_name pn16) hisR ?_
  intro p e s m args below meth c s₁ Bd hml0 hP hK
  obtain ⟨rfl, hZ, hh⟩ := hP
  have hx := Bd.exec
  have hby := Bd.bytes
  have hml : c.maxLocals = 3 := hml0
  have hown : s.vm.findClass "java/util/ImmutableCollections" = some m.cls := findClass_of_methodNamed Bd.named
  have hnm := (name_of_methodNamed Bd.named Bd.method).1
  have hk := Bd.notSynchronized
  have X0 : Stand p l e ({ frames := 5, cells := 2, slots := 5, locals := 63 } : Room) s m #[(.ref a0)] below meth c s₁ [] 0 0 := Stand.of_body Bd
  have hh2 := hh
  have e0 : s₁.heap = h0 := by rw [← hh, Bd.state]; rfl
  have N0 := Fr.nil n0
  show Gl p e below (Pos 2 5 (Q353 Z a0 kk x0 x1 x2 wa wb wc wd we ka kc G1 h0 n0) s) s₁ _
  refine Gl.cast (ef353 m a0) ?_
  refine gb (mkF m 1 #[vr a0, .unset, .unset] [(.ref a0)]) (fun _ k => XS.aloadN X0.here hx rfl (hb hby d35_0) rfl rfl k) ?_
  obtain ⟨cl1, Ar1, qa1, Sa1, Na1, Ha1, Ga1⟩ := id pf0
  refine gb (mkF m 2 #[vr a0, .unset, .unset] [(.int 3)]) (fun t k => X0.arraylength hx (by rw [e0]; exact Ar1.1) (State.isArrayOf_alike hZ.alike Ar1.2.1) (g := (mkF m 1 #[vr a0, .unset, .unset] [(.ref a0)])) rfl rfl (hb hby d35_1) t (by rw [len_of Sa1 Na1]; exact k)) ?_
  obtain ⟨T2, h2, k2, X2, e2, E2, A2, Ov2, st2⟩ := newRX X0 hx hZ hown (hW hw 232 rfl) (hW hw 188 rfl) rfl e0 (g := (mkF m 2 #[vr a0, .unset, .unset] [(.int 3)])) rfl (hb hby d35_2) rfl (by decide) (cap := 3) (by decide) (by decide) (by decide) (by decide)
  obtain ⟨b2, g2⟩ : ∃ z, z = (h0).size := ⟨_, rfl⟩
  rw [← g2] at A2 st2
  have gb2 : n0 ≤ b2 := Nat.le_trans (Nat.le_trans (Nat.le_of_eq O.1.symm) O.2.1) (Nat.le_of_eq g2.symm)
  have sb2 : h0.size ≤ b2 := Nat.le_trans (Keep.refl h0 []).1 (Nat.le_of_eq g2.symm)
  have ne2_0 : a0 ≠ b2 := Nat.ne_of_lt (Nat.lt_of_lt_of_le pf0.lt (Nat.le_of_eq g2.symm))
  have ne2_2 : x0 ≠ b2 := Nat.ne_of_lt (Nat.lt_of_lt_of_le pf1.lt (Nat.le_of_eq g2.symm))
  have ne2_4 : x1 ≠ b2 := Nat.ne_of_lt (Nat.lt_of_lt_of_le pf2.lt (Nat.le_of_eq g2.symm))
  have ne2_6 : x2 ≠ b2 := Nat.ne_of_lt (Nat.lt_of_lt_of_le pf3.lt (Nat.le_of_eq g2.symm))
  have ne2_8 : wa ≠ b2 := Nat.ne_of_lt (Nat.lt_of_lt_of_le (Arv.ext W.2.1 O.2).lt (Nat.le_of_eq g2.symm))
  have ne2_10 : wc ≠ b2 := Nat.ne_of_lt (Nat.lt_of_lt_of_le (Arv.ext W.2.2.2.2.2.1 O.2).lt (Nat.le_of_eq g2.symm))
  have ne2_12 : wb ≠ b2 := Nat.ne_of_lt (Nat.lt_of_lt_of_le (Exa.ext O.2 W.2.2.2.1).lt (Nat.le_of_eq g2.symm))
  have ne2_14 : wd ≠ b2 := Nat.ne_of_lt (Nat.lt_of_lt_of_le (Exa.ext O.2 W.2.2.2.2.2.2.2.1).lt (Nat.le_of_eq g2.symm))
  have V2 : Arv Z h2 b2 k2 oT (3 : Int32) [.null, .null, .null] .null := (Arv.new A2 (by decide)).pad (pad_rep [] .null 3)
  rw [← g2] at Ov2
  refine gb (mkF m 5 #[vr a0, .unset, .unset] [(.ref b2)]) st2 ?_
  refine gb (mkF m 6 #[vr a0, vr b2, .unset] []) (fun _ k => XS.astoreN X2.here hx rfl (hb hby d35_5) rfl rfl (l' := #[vr a0, vr b2, .unset]) rfl k) ?_
  refine gb (mkF m 7 #[vr a0, vr b2, .unset] [(.int 0)]) (fun _ k => XS.iconst X2.here hx rfl (hb hby d35_6) k) ?_
  refine gb (mkF m 8 #[vr a0, vr b2, vi 0] []) (fun _ k => XS.istoreN X2.here hx rfl (hb hby d35_7) rfl (l' := #[vr a0, vr b2, vi 0]) rfl k) ?_
  refine gb (mkF m 9 #[vr a0, vr b2, vi 0] [(.int 0)]) (fun _ k => XS.iloadN X2.here hx rfl (hb hby d35_8) rfl k) ?_
  refine gb (mkF m 10 #[vr a0, vr b2, vi 0] [(.ref a0), (.int 0)]) (fun _ k => XS.aloadN X2.here hx rfl (hb hby d35_9) rfl rfl k) ?_
  have f3 := (Arv.ext pf0 E2)
  obtain ⟨cl4, Ar4, qa4, Sa4, Na4, Ha4, Ga4⟩ := id f3
  refine gb (mkF m 11 #[vr a0, vr b2, vi 0] [(.int 3), (.int 0)]) (fun t k => X2.arraylength hx (by rw [e2]; exact Ar4.1) (State.isArrayOf_alike hZ.alike Ar4.2.1) (g := (mkF m 10 #[vr a0, vr b2, vi 0] [(.ref a0), (.int 0)])) rfl rfl (hb hby d35_10) t (by rw [len_of Sa4 Na4]; exact k)) ?_
  refine gb (mkF m 14 #[vr a0, vr b2, vi 0] []) (fun _ k => XS.icmpNo X2.here hx rfl (hb hby d35_11) rfl (tlt (by decide : (0 : Int32) < (3 : Int32))).2.1 k) ?_
  refine gb (mkF m 15 #[vr a0, vr b2, vi 0] [(.ref b2)]) (fun _ k => XS.aloadN X2.here hx rfl (hb hby d35_14) rfl rfl k) ?_
  refine gb (mkF m 16 #[vr a0, vr b2, vi 0] [(.int 0), (.ref b2)]) (fun _ k => XS.iloadN X2.here hx rfl (hb hby d35_15) rfl k) ?_
  refine gb (mkF m 17 #[vr a0, vr b2, vi 0] [(.ref a0), (.int 0), (.ref b2)]) (fun _ k => XS.aloadN X2.here hx rfl (hb hby d35_16) rfl rfl k) ?_
  refine gb (mkF m 18 #[vr a0, vr b2, vi 0] [(.int 0), (.ref a0), (.int 0), (.ref b2)]) (fun _ k => XS.iloadN X2.here hx rfl (hb hby d35_17) rfl k) ?_
  obtain ⟨cl5, Ar5, qa5, Sa5, Na5, Ha5, Ga5⟩ := id f3
  have hin6 : ¬ ((0 : Int32) < 0 ∨ cl5.slots.size ≤ ((0 : Int32)).toNatClampNeg) := inb_of Sa5 ⟨by decide, by decide⟩
  refine gb (mkF m 19 #[vr a0, vr b2, vi 0] [(.ref x0), (.int 0), (.ref b2)]) (X2.aaload hx (j := (0 : Int32)) (v := (.ref x0)) (by rw [e2]; exact Ar5.1) (State.isArrayOf_alike hZ.alike Ar5.2.1) rfl Ar5.2.2 hin6 (Has.at Ha5 hin6 rfl) (g := (mkF m 18 #[vr a0, vr b2, vi 0] [(.int 0), (.ref a0), (.int 0), (.ref b2)])) rfl rfl (hb hby d35_18)) ?_
  have K8 := ((Keep.refl h0 []).ext E2)
  have O9 := (O.ext E2)
  obtain ⟨_, _, ⟨T7, L7, k7, n7⟩, -, X7, ⟨Lc7, hQ7, l7, y7, z7⟩, st7⟩ := callS X2 hx (y := mq32) hown (mvT hZ (hW hw 233 rfl)) (mvT hZ (hW hw 234 rfl)) (mvT hZ (hW hw 235 rfl)) (mvT hZ (hW hw 236 rfl)) (by decide) (backOf (W := 2) (rm36 l Z a0' hw [] x0 wa wb wc wd we ka kc G1 h2 n0 O9 W ) hZ (hW hw 236 rfl) (hW hw 235 rfl) (by decide) (by decide)) (g := (mkF m 19 #[vr a0, vr b2, vi 0] [(.ref x0), (.int 0), (.ref b2)])) rfl (by rw [hml]; rfl) (argsL := [(.ref x0)]) (rest := [(.int 0), (.ref b2)]) (lenOf pd311 rfl) rfl (Nat.le_of_eq rfl) (hb hby d35_19) (fun _ _ => ⟨rfl, e2, (by decide : 1 + 0 ≤ _), (by decide : 3 + 0 ≤ _)⟩)
  dsimp only [Pt.U, Pt.locs, Pt.cells, Pt.slots] at X7 l7 y7 z7 st7 hQ7
  subst l7 y7 z7
  obtain ⟨rfl, N7q, e7⟩ := hQ7
  have N7 := Fr.app N0 N7q
  refine gb (mkF m 22 #[vr a0, vr b2, vi 0] [(.ref x0), (.int 0), (.ref b2)]) st7 ?_
  obtain ⟨cl10, Ar10, qa10, Sa10, Na10, Ha10, Ga10⟩ := id V2
  have hin11 : ¬ ((0 : Int32) < 0 ∨ cl10.slots.size ≤ ((0 : Int32)).toNatClampNeg) := inb_of Sa10 ⟨by decide, by decide⟩
  have f12 := (Exa.ext E2 pf1)
  obtain ⟨T11, h11, X11, e11, W11, st11⟩ := stR X7 hx hZ e7 Ar10 (j := (0 : Int32)) hin11 rfl (Sto.ofV Ar10 qa10 Ov2.1 (Ins.of_exa f12 (hW hw 189 rfl))) (g := (mkF m 22 #[vr a0, vr b2, vi 0] [(.ref x0), (.int 0), (.ref b2)])) rfl rfl (hb hby d35_22)
  have V11 : Arv Z h11 b2 k2 oT (3 : Int32) [(.ref x0), .null, .null] .null := Arv.set Ar10 qa10 Sa10 Na10 Ha10 Ga10 rfl W11 0 rfl (Nat.le_of_ble_eq_true rfl)
  have N11 := Fr.snoc X11 N7 gb2
  refine gb (mkF m 23 #[vr a0, vr b2, vi 0] []) st11 ?_
  refine gb (mkF m 26 #[vr a0, vr b2, vi 1] []) (fun _ k => XS.iinc X11.here hx rfl (hb hby d35_23) rfl (l' := #[vr a0, vr b2, vi 1]) rfl k) ?_
  refine gb (mkF m 8 #[vr a0, vr b2, vi 1] []) (fun _ k => XS.goto X11.here hx rfl (pc0 := 26) (pc' := 8) rfl (hb hby d35_26) (by decide) (by decide) k) ?_
  refine gb (mkF m 9 #[vr a0, vr b2, vi 1] [(.int 1)]) (fun _ k => XS.iloadN X11.here hx rfl (hb hby d35_8) rfl k) ?_
  refine gb (mkF m 10 #[vr a0, vr b2, vi 1] [(.ref a0), (.int 1)]) (fun _ k => XS.aloadN X11.here hx rfl (hb hby d35_9) rfl rfl k) ?_
  have f13 := (Arv.other f3 W11 ne2_0)
  obtain ⟨cl14, Ar14, qa14, Sa14, Na14, Ha14, Ga14⟩ := id f13
  refine gb (mkF m 11 #[vr a0, vr b2, vi 1] [(.int 3), (.int 1)]) (fun t k => X11.arraylength hx (by rw [e11]; exact Ar14.1) (State.isArrayOf_alike hZ.alike Ar14.2.1) (g := (mkF m 10 #[vr a0, vr b2, vi 1] [(.ref a0), (.int 1)])) rfl rfl (hb hby d35_10) t (by rw [len_of Sa14 Na14]; exact k)) ?_
  refine gb (mkF m 14 #[vr a0, vr b2, vi 1] []) (fun _ k => XS.icmpNo X11.here hx rfl (hb hby d35_11) rfl (tlt (by decide : (1 : Int32) < (3 : Int32))).2.1 k) ?_
  refine gb (mkF m 15 #[vr a0, vr b2, vi 1] [(.ref b2)]) (fun _ k => XS.aloadN X11.here hx rfl (hb hby d35_14) rfl rfl k) ?_
  refine gb (mkF m 16 #[vr a0, vr b2, vi 1] [(.int 1), (.ref b2)]) (fun _ k => XS.iloadN X11.here hx rfl (hb hby d35_15) rfl k) ?_
  refine gb (mkF m 17 #[vr a0, vr b2, vi 1] [(.ref a0), (.int 1), (.ref b2)]) (fun _ k => XS.aloadN X11.here hx rfl (hb hby d35_16) rfl rfl k) ?_
  refine gb (mkF m 18 #[vr a0, vr b2, vi 1] [(.int 1), (.ref a0), (.int 1), (.ref b2)]) (fun _ k => XS.iloadN X11.here hx rfl (hb hby d35_17) rfl k) ?_
  obtain ⟨cl15, Ar15, qa15, Sa15, Na15, Ha15, Ga15⟩ := id f13
  have hin16 : ¬ ((1 : Int32) < 0 ∨ cl15.slots.size ≤ ((1 : Int32)).toNatClampNeg) := inb_of Sa15 ⟨by decide, by decide⟩
  refine gb (mkF m 19 #[vr a0, vr b2, vi 1] [(.ref x1), (.int 1), (.ref b2)]) (X11.aaload hx (j := (1 : Int32)) (v := (.ref x1)) (by rw [e11]; exact Ar15.1) (State.isArrayOf_alike hZ.alike Ar15.2.1) rfl Ar15.2.2 hin16 (Has.at Ha15 hin16 rfl) (g := (mkF m 18 #[vr a0, vr b2, vi 1] [(.int 1), (.ref a0), (.int 1), (.ref b2)])) rfl rfl (hb hby d35_18)) ?_
  have K18 := (K8.wr W11 (Or.inr sb2))
  have O19 := (O9.wr W11 gb2)
  obtain ⟨_, _, ⟨T17, L17, k17, n17⟩, -, X17, ⟨Lc17, hQ17, l17, y17, z17⟩, st17⟩ := callS X11 hx (y := mq32) hown (mvT hZ (hW hw 233 rfl)) (mvT hZ (hW hw 234 rfl)) (mvT hZ (hW hw 235 rfl)) (mvT hZ (hW hw 236 rfl)) (by decide) (backOf (W := 2) (rm36 l Z a0' hw [] x1 wa wb wc wd we ka kc G1 h11 n0 O19 W ) hZ (hW hw 236 rfl) (hW hw 235 rfl) (by decide) (by decide)) (g := (mkF m 19 #[vr a0, vr b2, vi 1] [(.ref x1), (.int 1), (.ref b2)])) rfl (by rw [hml]; rfl) (argsL := [(.ref x1)]) (rest := [(.int 1), (.ref b2)]) (lenOf pd311 rfl) rfl (Nat.le_of_eq rfl) (hb hby d35_19) (fun _ _ => ⟨rfl, e11, (by decide : 1 + 0 ≤ _), (by decide : 3 + 0 ≤ _)⟩)
  dsimp only [Pt.U, Pt.locs, Pt.cells, Pt.slots] at X17 l17 y17 z17 st17 hQ17
  subst l17 y17 z17
  obtain ⟨rfl, N17q, e17⟩ := hQ17
  have N17 := Fr.app N11 N17q
  refine gb (mkF m 22 #[vr a0, vr b2, vi 1] [(.ref x1), (.int 1), (.ref b2)]) st17 ?_
  obtain ⟨cl20, Ar20, qa20, Sa20, Na20, Ha20, Ga20⟩ := id V11
  have hin21 : ¬ ((1 : Int32) < 0 ∨ cl20.slots.size ≤ ((1 : Int32)).toNatClampNeg) := inb_of Sa20 ⟨by decide, by decide⟩
  have f22 := (Exa.wr W11 (Exa.ext E2 pf2))
  obtain ⟨T21, h21, X21, e21, W21, st21⟩ := stR X17 hx hZ e17 Ar20 (j := (1 : Int32)) hin21 rfl (Sto.ofV Ar20 qa20 Ov2.1 (Ins.of_exa f22 (hW hw 189 rfl))) (g := (mkF m 22 #[vr a0, vr b2, vi 1] [(.ref x1), (.int 1), (.ref b2)])) rfl rfl (hb hby d35_22)
  have V21 : Arv Z h21 b2 k2 oT (3 : Int32) [(.ref x0), (.ref x1), .null] .null := Arv.set Ar20 qa20 Sa20 Na20 Ha20 Ga20 rfl W21 1 rfl (Nat.le_of_ble_eq_true rfl)
  have N21 := Fr.snoc X21 N17 gb2
  refine gb (mkF m 23 #[vr a0, vr b2, vi 1] []) st21 ?_
  refine gb (mkF m 26 #[vr a0, vr b2, vi 2] []) (fun _ k => XS.iinc X21.here hx rfl (hb hby d35_23) rfl (l' := #[vr a0, vr b2, vi 2]) rfl k) ?_
  refine gb (mkF m 8 #[vr a0, vr b2, vi 2] []) (fun _ k => XS.goto X21.here hx rfl (pc0 := 26) (pc' := 8) rfl (hb hby d35_26) (by decide) (by decide) k) ?_
  refine gb (mkF m 9 #[vr a0, vr b2, vi 2] [(.int 2)]) (fun _ k => XS.iloadN X21.here hx rfl (hb hby d35_8) rfl k) ?_
  refine gb (mkF m 10 #[vr a0, vr b2, vi 2] [(.ref a0), (.int 2)]) (fun _ k => XS.aloadN X21.here hx rfl (hb hby d35_9) rfl rfl k) ?_
  have f23 := (Arv.other f13 W21 ne2_0)
  obtain ⟨cl24, Ar24, qa24, Sa24, Na24, Ha24, Ga24⟩ := id f23
  refine gb (mkF m 11 #[vr a0, vr b2, vi 2] [(.int 3), (.int 2)]) (fun t k => X21.arraylength hx (by rw [e21]; exact Ar24.1) (State.isArrayOf_alike hZ.alike Ar24.2.1) (g := (mkF m 10 #[vr a0, vr b2, vi 2] [(.ref a0), (.int 2)])) rfl rfl (hb hby d35_10) t (by rw [len_of Sa24 Na24]; exact k)) ?_
  refine gb (mkF m 14 #[vr a0, vr b2, vi 2] []) (fun _ k => XS.icmpNo X21.here hx rfl (hb hby d35_11) rfl (tlt (by decide : (2 : Int32) < (3 : Int32))).2.1 k) ?_
  refine gb (mkF m 15 #[vr a0, vr b2, vi 2] [(.ref b2)]) (fun _ k => XS.aloadN X21.here hx rfl (hb hby d35_14) rfl rfl k) ?_
  refine gb (mkF m 16 #[vr a0, vr b2, vi 2] [(.int 2), (.ref b2)]) (fun _ k => XS.iloadN X21.here hx rfl (hb hby d35_15) rfl k) ?_
  refine gb (mkF m 17 #[vr a0, vr b2, vi 2] [(.ref a0), (.int 2), (.ref b2)]) (fun _ k => XS.aloadN X21.here hx rfl (hb hby d35_16) rfl rfl k) ?_
  refine gb (mkF m 18 #[vr a0, vr b2, vi 2] [(.int 2), (.ref a0), (.int 2), (.ref b2)]) (fun _ k => XS.iloadN X21.here hx rfl (hb hby d35_17) rfl k) ?_
  obtain ⟨cl25, Ar25, qa25, Sa25, Na25, Ha25, Ga25⟩ := id f23
  have hin26 : ¬ ((2 : Int32) < 0 ∨ cl25.slots.size ≤ ((2 : Int32)).toNatClampNeg) := inb_of Sa25 ⟨by decide, by decide⟩
  refine gb (mkF m 19 #[vr a0, vr b2, vi 2] [(.ref x2), (.int 2), (.ref b2)]) (X21.aaload hx (j := (2 : Int32)) (v := (.ref x2)) (by rw [e21]; exact Ar25.1) (State.isArrayOf_alike hZ.alike Ar25.2.1) rfl Ar25.2.2 hin26 (Has.at Ha25 hin26 rfl) (g := (mkF m 18 #[vr a0, vr b2, vi 2] [(.int 2), (.ref a0), (.int 2), (.ref b2)])) rfl rfl (hb hby d35_18)) ?_
  have K28 := (K18.wr W21 (Or.inr sb2))
  have O29 := (O19.wr W21 gb2)
  obtain ⟨_, _, ⟨T27, L27, k27, n27⟩, -, X27, ⟨Lc27, hQ27, l27, y27, z27⟩, st27⟩ := callS X21 hx (y := mq32) hown (mvT hZ (hW hw 233 rfl)) (mvT hZ (hW hw 234 rfl)) (mvT hZ (hW hw 235 rfl)) (mvT hZ (hW hw 236 rfl)) (by decide) (backOf (W := 2) (rm36 l Z a0' hw [] x2 wa wb wc wd we ka kc G1 h21 n0 O29 W ) hZ (hW hw 236 rfl) (hW hw 235 rfl) (by decide) (by decide)) (g := (mkF m 19 #[vr a0, vr b2, vi 2] [(.ref x2), (.int 2), (.ref b2)])) rfl (by rw [hml]; rfl) (argsL := [(.ref x2)]) (rest := [(.int 2), (.ref b2)]) (lenOf pd311 rfl) rfl (Nat.le_of_eq rfl) (hb hby d35_19) (fun _ _ => ⟨rfl, e21, (by decide : 1 + 0 ≤ _), (by decide : 3 + 0 ≤ _)⟩)
  dsimp only [Pt.U, Pt.locs, Pt.cells, Pt.slots] at X27 l27 y27 z27 st27 hQ27
  subst l27 y27 z27
  obtain ⟨rfl, N27q, e27⟩ := hQ27
  have N27 := Fr.app N21 N27q
  refine gb (mkF m 22 #[vr a0, vr b2, vi 2] [(.ref x2), (.int 2), (.ref b2)]) st27 ?_
  obtain ⟨cl30, Ar30, qa30, Sa30, Na30, Ha30, Ga30⟩ := id V21
  have hin31 : ¬ ((2 : Int32) < 0 ∨ cl30.slots.size ≤ ((2 : Int32)).toNatClampNeg) := inb_of Sa30 ⟨by decide, by decide⟩
  have f32 := (Exa.wr W21 (Exa.wr W11 (Exa.ext E2 pf3)))
  obtain ⟨T31, h31, X31, e31, W31, st31⟩ := stR X27 hx hZ e27 Ar30 (j := (2 : Int32)) hin31 rfl (Sto.ofV Ar30 qa30 Ov2.1 (Ins.of_exa f32 (hW hw 189 rfl))) (g := (mkF m 22 #[vr a0, vr b2, vi 2] [(.ref x2), (.int 2), (.ref b2)])) rfl rfl (hb hby d35_22)
  have V31 : Arv Z h31 b2 k2 oT (3 : Int32) [(.ref x0), (.ref x1), (.ref x2)] .null := Arv.set Ar30 qa30 Sa30 Na30 Ha30 Ga30 rfl W31 2 rfl (Nat.le_of_ble_eq_true rfl)
  have N31 := Fr.snoc X31 N27 gb2
  refine gb (mkF m 23 #[vr a0, vr b2, vi 2] []) st31 ?_
  refine gb (mkF m 26 #[vr a0, vr b2, vi 3] []) (fun _ k => XS.iinc X31.here hx rfl (hb hby d35_23) rfl (l' := #[vr a0, vr b2, vi 3]) rfl k) ?_
  refine gb (mkF m 8 #[vr a0, vr b2, vi 3] []) (fun _ k => XS.goto X31.here hx rfl (pc0 := 26) (pc' := 8) rfl (hb hby d35_26) (by decide) (by decide) k) ?_
  refine gb (mkF m 9 #[vr a0, vr b2, vi 3] [(.int 3)]) (fun _ k => XS.iloadN X31.here hx rfl (hb hby d35_8) rfl k) ?_
  refine gb (mkF m 10 #[vr a0, vr b2, vi 3] [(.ref a0), (.int 3)]) (fun _ k => XS.aloadN X31.here hx rfl (hb hby d35_9) rfl rfl k) ?_
  have f33 := (Arv.other f23 W31 ne2_0)
  obtain ⟨cl34, Ar34, qa34, Sa34, Na34, Ha34, Ga34⟩ := id f33
  refine gb (mkF m 11 #[vr a0, vr b2, vi 3] [(.int 3), (.int 3)]) (fun t k => X31.arraylength hx (by rw [e31]; exact Ar34.1) (State.isArrayOf_alike hZ.alike Ar34.2.1) (g := (mkF m 10 #[vr a0, vr b2, vi 3] [(.ref a0), (.int 3)])) rfl rfl (hb hby d35_10) t (by rw [len_of Sa34 Na34]; exact k)) ?_
  refine gb (mkF m 29 #[vr a0, vr b2, vi 3] []) (fun _ k => XS.icmpYes X31.here hx rfl (pc0 := 11) (pc' := 29) rfl (hb hby d35_11) rfl (flt (by decide : ¬ ((3 : Int32) < (3 : Int32)))).2.1 (by decide) (by decide) k) ?_
  have O36 := (O29.wr W31 gb2)
  have f37 := (Exa.wr W31 (Exa.wr W21 (Exa.wr W11 f12)))
  have f38 := (Exa.wr W31 (Exa.wr W21 f22))
  have f39 := (Exa.wr W31 f32)
  have K40 := (K28.wr W31 (Or.inr sb2))
  obtain ⟨T35, h35, X35, e35, E35, A35, D35, -, st35⟩ := newO X31 hx hZ hown (hW hw 67 rfl) (hW hw 237 rfl) (hW hw 91 rfl) e31 (g := (mkF m 29 #[vr a0, vr b2, vi 3] [])) rfl (hb hby d35_29) (by decide) (by decide)
  obtain ⟨b35, g35⟩ : ∃ z, z = (h31).size := ⟨_, rfl⟩
  rw [← g35] at A35 D35 st35
  have gb35 : n0 ≤ b35 := Nat.le_trans (Nat.le_trans (Nat.le_of_eq O36.1.symm) O36.2.1) (Nat.le_of_eq g35.symm)
  have sb35 : h0.size ≤ b35 := Nat.le_trans K40.1 (Nat.le_of_eq g35.symm)
  have ne35_16 : a0 ≠ b35 := Nat.ne_of_lt (Nat.lt_of_lt_of_le f33.lt (Nat.le_of_eq g35.symm))
  have ne35_18 : x0 ≠ b35 := Nat.ne_of_lt (Nat.lt_of_lt_of_le f37.lt (Nat.le_of_eq g35.symm))
  have ne35_20 : x1 ≠ b35 := Nat.ne_of_lt (Nat.lt_of_lt_of_le f38.lt (Nat.le_of_eq g35.symm))
  have ne35_22 : x2 ≠ b35 := Nat.ne_of_lt (Nat.lt_of_lt_of_le f39.lt (Nat.le_of_eq g35.symm))
  have ne35_24 : wa ≠ b35 := Nat.ne_of_lt (Nat.lt_of_lt_of_le (Arv.ext W.2.1 O36.2).lt (Nat.le_of_eq g35.symm))
  have ne35_26 : wc ≠ b35 := Nat.ne_of_lt (Nat.lt_of_lt_of_le (Arv.ext W.2.2.2.2.2.1 O36.2).lt (Nat.le_of_eq g35.symm))
  have ne35_28 : wb ≠ b35 := Nat.ne_of_lt (Nat.lt_of_lt_of_le (Exa.ext O36.2 W.2.2.2.1).lt (Nat.le_of_eq g35.symm))
  have ne35_30 : wd ≠ b35 := Nat.ne_of_lt (Nat.lt_of_lt_of_le (Exa.ext O36.2 W.2.2.2.2.2.2.2.1).lt (Nat.le_of_eq g35.symm))
  have ne35_32 : b2 ≠ b35 := Nat.ne_of_lt (Nat.lt_of_lt_of_le V31.lt (Nat.le_of_eq g35.symm))
  have D35_elements : Fld Z h35 b35 sN "elements" sO .null := D35 (Or.inr (hW hw 94 rfl)) (ty := (.array oT)) (by decide)
  have D35_allowNulls : Fld Z h35 b35 sN "allowNulls" "Z" (.int 0) := D35 (Or.inr (hW hw 257 rfl)) (ty := .boolean) (by decide)
  refine gb (mkF m 32 #[vr a0, vr b2, vi 3] [(.ref b35)]) st35 ?_
  refine gb (mkF m 33 #[vr a0, vr b2, vi 3] [(.ref b35), (.ref b35)]) (fun _ k => XS.dup X35.here hx rfl (hb hby d35_32) rfl rfl k) ?_
  refine gb (mkF m 34 #[vr a0, vr b2, vi 3] [(.ref b2), (.ref b35), (.ref b35)]) (fun _ k => XS.aloadN X35.here hx rfl (hb hby d35_33) rfl rfl k) ?_
  refine gb (mkF m 35 #[vr a0, vr b2, vi 3] [(.int 0), (.ref b2), (.ref b35), (.ref b35)]) (fun _ k => XS.iconst X35.here hx rfl (hb hby d35_34) k) ?_
  have K42 := (K40.ext E35)
  have O43 := (O36.ext E35)
  obtain ⟨_, _, ⟨T41, L41, k41, n41⟩, -, X41, ⟨Lc41, hQ41, l41, y41, z41⟩, st41⟩ := X35.specialBackNest hx (y := mq35) rfl hown (Cond.methodLinkNest_wide hZ (hW hw 238 rfl)) (mvT hZ (hW hw 239 rfl)) (mvT hZ (hW hw 241 rfl)) (by decide) (backOf (W := 1) (rm37 l Z a0' hw [] b35 b2 wa wb wc wd we ka kc G1 h35 n0 O43 W A35 D35_elements D35_allowNulls gb35) hZ (hW hw 241 rfl) (hW hw 91 rfl) (by decide) (by decide)) (g := (mkF m 35 #[vr a0, vr b2, vi 3] [(.int 0), (.ref b2), (.ref b35), (.ref b35)])) rfl (by rw [hml]; rfl) (Steps.refl _) (a := b35) (argsL := [(.ref b2), (.int 0)]) (rest := [(.ref b35)]) (lenOf pd396 rfl) rfl (Nat.le_of_eq rfl) (hb hby d35_35) (fun _ _ => ⟨rfl, e35, (by decide : 2 + 0 ≤ _), (by decide : 5 + 0 ≤ _)⟩)
  dsimp only [Pt.U, Pt.locs, Pt.cells, Pt.slots] at X41 l41 y41 z41 st41 hQ41
  subst l41 y41 z41
  obtain ⟨rfl, N41q, Kc41, fc41_0⟩ := hQ41
  have N41 := Fr.app N31 N41q
  refine gb (mkF m 38 #[vr a0, vr b2, vi 3] [(.ref b35)]) (fun _ k => st41.trans k) ?_
  have K44 := (K42.trans Kc41 (allS (Or.inr sb35) all0))
  have f45 := (Exa.keep A35 Kc41)
  have f46 := (Arv.keep (Arv.ext V31 E35) Kc41 (ninS ne35_32 nin0))
  exact Gl.outA X41 hx hk Bd.returns rfl rfl (hb hby d35_38) ⟨b35, b2, k2, rfl, N41, K44, f45, fc41_0, f46⟩ (by decide) (by decide)
theorem d34_59 : decode jdk_40_method_47_code 59 = .ok (.aload_n 0, 1) := by decide +kernel
theorem d34_60 : decode jdk_40_method_47_code 60 = .ok (.invokestatic 109, 3) := by decide +kernel
theorem d34_63 : decode jdk_40_method_47_code 63 = .ok (.areturn, 1) := by decide +kernel
theorem ef343 (m : MethodId) (x0 : Addr) : entryFrame m #[(.ref x0)] 2 = mkF m 0 #[.val (.ref x0), .unset] [] := by first | (simp [entryFrame, mkF, argsToLocals, Value.category]; done) | rfl
def Q343 (Z : State) (a0 : Addr) (kk : ClassId) (x0 x1 x2 : Addr) (wa wb wc wd we : Addr) (ka kc : ClassId) (G1 : Int32) (h0 : Heap) (n0 : Nat) (v : Option Value) (h : Heap) (L : List Loc) : Prop := ∃ (r : Addr), ∃ (ar : Addr), ∃ (kr : ClassId), v = some (.ref r) ∧ Fr n0 L ∧ Keep h0 h [] ∧ Exa Z h r sN ∧ Fld Z h r sN "elements" sO (.ref ar) ∧ Arv Z h ar kr oT (3 : Int32) [(.ref x0), (.ref x1), (.ref x2)] .null
theorem rm343 (l : Launch) (Z : State) (a0' : Array Value) (hw : ∀ d ∈ tables_1, d.before a0' Z = true) (ws : List Jvm.Cond) (a0 : Addr) (kk : ClassId) (x0 x1 x2 : Addr) (wa wb wc wd we : Addr) (ka kc : ClassId) (G1 : Int32) (h0 : Heap) (n0 : Nat) (O : Old Z n0 h0) (W : Wd Z wa wb wc wd we ka kc G1) (pf0 : Arv Z h0 a0 kk oT (3 : Int32) [(.ref x0), (.ref x1), (.ref x2)] .null) (pf1 : Exa Z h0 x0 sI) (pf2 : Exa Z h0 x1 sI) (pf3 : Exa Z h0 x2 sI) :
    MetFree l mq42 (head1 (Jvm.Cond.code mq42 jdk_40_method_47_code 2 (some (.object "java/util/List")) :: ws) ({ frames := 6, cells := 2, slots := 5, locals := 77 } : Room)) (fun a U => a = #[(.ref a0)] ∧ Z.Warmed39 U.vm ∧ U.heap = h0) (fun _ _ _ _ _ => True) (fun _ U o U' => ∃ v L, o = .returned v ∧ Q343 Z a0 kk x0 x1 x2 wa wb wc wd we ka kc G1 h0 n0 v U'.heap L ∧ FrameEnd U o U' L ({ frames := 6, cells := 2, slots := 5, locals := 77 } : Room).cells ({ frames := 6, cells := 2, slots := 5, locals := 77 } : Room).slots) := by
  refine MetFree.of_bodySF (plainFor_of_name pn10) hisR ?_
  intro p e s m args below meth c s₁ Bd hml0 hP hK
  obtain ⟨rfl, hZ, hh⟩ := hP
  have hx := Bd.exec
  have hby := Bd.bytes
  have hml : c.maxLocals = 2 := hml0
  have hown : s.vm.findClass "java/util/List" = some m.cls := findClass_of_methodNamed Bd.named
  have hnm := (name_of_methodNamed Bd.named Bd.method).1
  have hk := Bd.notSynchronized
  have X0 : Stand p l e ({ frames := 6, cells := 2, slots := 5, locals := 77 } : Room) s m #[(.ref a0)] below meth c s₁ [] 0 0 := Stand.of_body Bd
  have hh2 := hh
  have e0 : s₁.heap = h0 := by rw [← hh, Bd.state]; rfl
  have N0 := Fr.nil n0
  show Gl p e below (Pos 2 5 (Q343 Z a0 kk x0 x1 x2 wa wb wc wd we ka kc G1 h0 n0) s) s₁ _
  refine Gl.cast (ef343 m a0) ?_
  refine gb (mkF m 1 #[vr a0, .unset] [(.ref a0)]) (fun _ k => XS.aloadN X0.here hx rfl (hb hby d34_0) rfl rfl k) ?_
  obtain ⟨cl1, Ar1, qa1, Sa1, Na1, Ha1, Ga1⟩ := id pf0
  refine gb (mkF m 2 #[vr a0, .unset] [(.int 3)]) (fun t k => X0.arraylength hx (by rw [e0]; exact Ar1.1) (State.isArrayOf_alike hZ.alike Ar1.2.1) (g := (mkF m 1 #[vr a0, .unset] [(.ref a0)])) rfl rfl (hb hby d34_1) t (by rw [len_of Sa1 Na1]; exact k)) ?_
  refine gb (mkF m 59 #[vr a0, .unset] []) (fun _ k => XS.tswOut (pc0 := 2) X0.here hx rfl rfl (hb hby d34_2) rfl (by decide) (by decide) rfl k) ?_
  refine gb (mkF m 60 #[vr a0, .unset] [(.ref a0)]) (fun _ k => XS.aloadN X0.here hx rfl (hb hby d34_59) rfl rfl k) ?_
  obtain ⟨_, _, ⟨T2, L2, k2, n2⟩, -, X2, ⟨Lc2, hQ2, l2, y2, z2⟩, st2⟩ := callS X0 hx (y := mq44) hown (mvT hZ (hW hw 229 rfl)) (mvT hZ (hW hw 230 rfl)) (mvT hZ (hW hw 60 rfl)) (mvT hZ (hW hw 231 rfl)) (by decide) (backOf (W := 0) (rm353 l Z a0' hw [] a0 kk x0 x1 x2 wa wb wc wd we ka kc G1 h0 n0 O W pf0 pf1 pf2 pf3) hZ (hW hw 231 rfl) (hW hw 60 rfl) (by decide) (by decide)) (g := (mkF m 60 #[vr a0, .unset] [(.ref a0)])) rfl (by rw [hml]; rfl) (argsL := [(.ref a0)]) (rest := []) (lenOf pd359 rfl) rfl (Nat.le_of_eq rfl) (hb hby d34_60) (fun _ _ => ⟨rfl, e0, (by decide : 0 + 2 ≤ _), (by decide : 0 + 5 ≤ _)⟩)
  dsimp only [Pt.U, Pt.locs, Pt.cells, Pt.slots] at X2 l2 y2 z2 st2 hQ2
  subst l2 y2 z2
  obtain ⟨r_2, ar_2, kr_2, rfl, N2q, Kc2, fc2_0, fc2_1, fc2_2⟩ := hQ2
  have N2 := Fr.app N0 N2q
  refine gb (mkF m 63 #[vr a0, .unset] [(.ref r_2)]) st2 ?_
  have K3 := ((Keep.refl h0 []).trans Kc2 all0)
  exact Gl.outA X2 hx hk Bd.returns rfl rfl (hb hby d34_63) ⟨r_2, ar_2, kr_2, rfl, N2, K3, fc2_0, fc2_1, fc2_2⟩ (by decide) (by decide)
theorem ef103 (m : MethodId) (x0 : Addr) : entryFrame m #[(.ref x0)] 2 = mkF m 0 #[.val (.ref x0), .unset] [] := by first | (simp [entryFrame, mkF, argsToLocals, Value.category]; done) | rfl
def Q103 (Z : State) (a0 : Addr) (ea : Addr) (kk : ClassId) (x0 x1 x2 : Addr) (wa wb wc wd we : Addr) (ka kc : ClassId) (G1 : Int32) (h0 : Heap) (n0 : Nat) (v : Option Value) (h : Heap) (L : List Loc) : Prop := ∃ (r : Addr), ∃ (ar : Addr), ∃ (kr : ClassId), v = some (.ref r) ∧ Fr n0 L ∧ Keep h0 h [] ∧ Exa Z h r sN ∧ Fld Z h r sN "elements" sO (.ref ar) ∧ Arv Z h ar kr oT (3 : Int32) [(.ref x0), (.ref x1), (.ref x2)] .null
theorem rm103 (l : Launch) (Z : State) (a0' : Array Value) (hw : ∀ d ∈ tables_1, d.before a0' Z = true) (ws : List Jvm.Cond) (a0 : Addr) (ea : Addr) (kk : ClassId) (x0 x1 x2 : Addr) (wa wb wc wd we : Addr) (ka kc : ClassId) (G1 : Int32) (h0 : Heap) (n0 : Nat) (O : Old Z n0 h0) (W : Wd Z wa wb wc wd we ka kc G1) (pf0 : Exa Z h0 a0 sA) (pf1 : Fld Z h0 a0 sA "elementData" sO (.ref ea)) (pf2 : Fld Z h0 a0 sA "size" "I" (.int 3)) (pf3 : Exa Z h0 ea sO) (pf4 : Arv Z h0 ea kk oT (10 : Int32) [(.ref x0), (.ref x1), (.ref x2), .null, .null, .null, .null, .null, .null, .null] .null) (pf5 : Exa Z h0 x0 sI) (pf6 : Exa Z h0 x1 sI) (pf7 : Exa Z h0 x2 sI) :
    MetFree l mq38 (head1 (Jvm.Cond.code mq38 jdk_56_method_3_code 2 (some (.object "java/util/List")) :: ws) ({ frames := 7, cells := 3, slots := 8, locals := 90 } : Room)) (fun a U => a = #[(.ref a0)] ∧ Z.Warmed39 U.vm ∧ U.heap = h0) (fun _ _ _ _ _ => True) (fun _ U o U' => ∃ v L, o = .returned v ∧ Q103 Z a0 ea kk x0 x1 x2 wa wb wc wd we ka kc G1 h0 n0 v U'.heap L ∧ FrameEnd U o U' L ({ frames := 7, cells := 3, slots := 8, locals := 90 } : Room).cells ({ frames := 7, cells := 3, slots := 8, locals := 90 } : Room).slots) := by
  refine MetFree.of_bodySF (plainFor_of_name pn16) hisR ?_
  intro p e s m args below meth c s₁ Bd hml0 hP hK
  obtain ⟨rfl, hZ, hh⟩ := hP
  have hx := Bd.exec
  have hby := Bd.bytes
  have hml : c.maxLocals = 2 := hml0
  have hown : s.vm.findClass "java/util/ImmutableCollections" = some m.cls := findClass_of_methodNamed Bd.named
  have hnm := (name_of_methodNamed Bd.named Bd.method).1
  have hk := Bd.notSynchronized
  have X0 : Stand p l e ({ frames := 7, cells := 3, slots := 8, locals := 90 } : Room) s m #[(.ref a0)] below meth c s₁ [] 0 0 := Stand.of_body Bd
  have hh2 := hh
  have e0 : s₁.heap = h0 := by rw [← hh, Bd.state]; rfl
  have N0 := Fr.nil n0
  show Gl p e below (Pos 3 8 (Q103 Z a0 ea kk x0 x1 x2 wa wb wc wd we ka kc G1 h0 n0) s) s₁ _
  refine Gl.cast (ef103 m a0) ?_
  refine gb (mkF m 1 #[vr a0, .unset] [(.ref a0)]) (fun _ k => XS.aloadN X0.here hx rfl (hb hby d10_0) rfl rfl k) ?_
  obtain ⟨T1, X1, e1, st1⟩ := instNo X0 hx hZ hown (hW hw 62 rfl) e0 pf0 (ns_no (hW hw 63 rfl) (hW hw 259 rfl) (NS.step (hW hw 63 rfl) (NS.step (hW hw 64 rfl) (NS.step (hW hw 65 rfl) (ns_root (hW hw 66 rfl) (hW hw 259 rfl) (by decide)) (by decide)) (by decide)) (by decide)) (by decide)) (g := (mkF m 1 #[vr a0, .unset] [(.ref a0)])) rfl rfl (hb hby d10_1)
  refine gb (mkF m 4 #[vr a0, .unset] [(.int 0)]) st1 ?_
  refine gb (mkF m 7 #[vr a0, .unset] []) (fun _ k => XS.ifNo X1.here hx rfl (hb hby d10_4) rfl ((if0 _ _).trans (teq (by decide : (0 : Int32) = (0 : Int32))).2) k) ?_
  refine gb (mkF m 8 #[vr a0, .unset] [(.ref a0)]) (fun _ k => XS.aloadN X1.here hx rfl (hb hby d10_7) rfl rfl k) ?_
  obtain ⟨T2, X2, e2, st2⟩ := instNo X1 hx hZ hown (hW hw 67 rfl) e1 pf0 (ns_no (hW hw 63 rfl) (hW hw 237 rfl) (NS.step (hW hw 63 rfl) (NS.step (hW hw 64 rfl) (NS.step (hW hw 65 rfl) (ns_root (hW hw 66 rfl) (hW hw 237 rfl) (by decide)) (by decide)) (by decide)) (by decide)) (by decide)) (g := (mkF m 8 #[vr a0, .unset] [(.ref a0)])) rfl rfl (hb hby d10_8)
  refine gb (mkF m 11 #[vr a0, .unset] [(.int 0)]) st2 ?_
  refine gb (mkF m 31 #[vr a0, .unset] []) (fun _ k => XS.ifYes X2.here hx rfl (pc0 := 11) (pc' := 31) rfl (hb hby d10_11) rfl ((if0 _ _).trans (teq (by decide : (0 : Int32) = (0 : Int32))).1) (by decide) (by decide) k) ?_
  refine gb (mkF m 32 #[vr a0, .unset] [(.ref a0)]) (fun _ k => XS.aloadN X2.here hx rfl (hb hby d10_31) rfl rfl k) ?_
  obtain ⟨cq3, kq3, q3a, q3b, q3c⟩ := isOf hZ e2 pf0
  obtain ⟨_, _, ⟨T3, L3, k3, n3⟩, -, X3, ⟨Lc3, hQ3, l3, y3, z3⟩, st3⟩ := X2.interfaceBack hx (xi := mq39) (y := mq28) hown (mvT hZ (hW hw 68 rfl)) (mvT hZ (hW hw 69 rfl)) (mvT hZ (hW hw 70 rfl)) (mvT hZ (hW hw 71 rfl)) (mvT hZ (hW hw 72 rfl)) (mvT hZ (hW hw 73 rfl)) (mvT hZ (hW hw 74 rfl)) (mvT hZ (hW hw 75 rfl)) (by decide) (backOf (W := 0) (rm11s l Z a0' hw [] a0 (3 : Int32) wa wb wc wd we ka kc G1 h0 n0 O W pf0 pf2 (by decide)) hZ (hW hw 76 rfl) (hW hw 11 rfl) (by decide) (by decide)) q3a q3b q3c (g := (mkF m 32 #[vr a0, .unset] [(.ref a0)])) rfl (by rw [hml]; rfl) (Steps.refl _) (argsL := []) (rest := []) (lenOf pd334 rfl) rfl (Nat.le_of_eq rfl) (hb hby d10_32) (fun _ _ => ⟨rfl, e2, (by decide : 0 + 0 ≤ _), (by decide : 0 + 0 ≤ _)⟩)
  dsimp only [Pt.U, Pt.locs, Pt.cells, Pt.slots] at X3 l3 y3 z3 st3 hQ3
  subst l3 y3 z3
  obtain ⟨rfl, N3q, e3⟩ := hQ3
  have N3 := Fr.app N0 N3q
  refine gb (mkF m 37 #[vr a0, .unset] [(.int 0)]) (fun _ k => st3.trans k) ?_
  refine gb (mkF m 44 #[vr a0, .unset] []) (fun _ k => XS.ifYes X3.here hx rfl (pc0 := 37) (pc' := 44) rfl (hb hby d10_37) rfl ((if0 _ _).trans (teq (by decide : (0 : Int32) = (0 : Int32))).1) (by decide) (by decide) k) ?_
  refine gb (mkF m 45 #[vr a0, .unset] [(.ref a0)]) (fun _ k => XS.aloadN X3.here hx rfl (hb hby d10_44) rfl rfl k) ?_
  obtain ⟨cq4, kq4, q4a, q4b, q4c⟩ := isOf hZ e3 pf0
  obtain ⟨_, _, ⟨T4, L4, k4, n4⟩, -, X4, ⟨Lc4, hQ4, l4, y4, z4⟩, st4⟩ := X3.interfaceBack hx (xi := mq43) (y := mq21) hown (mvT hZ (hW hw 196 rfl)) (mvT hZ (hW hw 197 rfl)) (mvT hZ (hW hw 198 rfl)) (mvT hZ (hW hw 199 rfl)) (mvT hZ (hW hw 200 rfl)) (mvT hZ (hW hw 201 rfl)) (mvT hZ (hW hw 202 rfl)) (mvT hZ (hW hw 75 rfl)) (by decide) (backOf (W := 0) (rm303 l Z a0' hw [] a0 ea kk x0 x1 x2 wa wb wc wd we ka kc G1 h0 n0 O W pf0 pf1 pf2 pf3 pf4 pf5 pf6 pf7) hZ (hW hw 203 rfl) (hW hw 11 rfl) (by decide) (by decide)) q4a q4b q4c (g := (mkF m 45 #[vr a0, .unset] [(.ref a0)])) rfl (by rw [hml]; rfl) (Steps.refl _) (argsL := []) (rest := []) (lenOf pd50 rfl) rfl (Nat.le_of_eq rfl) (hb hby d10_45) (fun _ _ => ⟨rfl, e3, (by decide : 0 + 1 ≤ _), (by decide : 0 + 3 ≤ _)⟩)
  dsimp only [Pt.U, Pt.locs, Pt.cells, Pt.slots] at X4 l4 y4 z4 st4 hQ4
  subst l4 y4 z4
  obtain ⟨r_4, kr_4, rfl, N4q, Kc4, fc4_0, fc4_1⟩ := hQ4
  have N4 := Fr.app N3 N4q
  refine gb (mkF m 50 #[vr a0, .unset] [(.ref r_4)]) (fun _ k => st4.trans k) ?_
  have K6 := ((Keep.refl h0 []).trans Kc4 all0)
  have f7 := (Exa.keep pf5 Kc4)
  have f8 := (Exa.keep pf6 Kc4)
  have f9 := (Exa.keep pf7 Kc4)
  have O10 := (O.keep Kc4 all0)
  obtain ⟨_, _, ⟨T5, L5, k5, n5⟩, -, X5, ⟨Lc5, hQ5, l5, y5, z5⟩, st5⟩ := callS X4 hx (y := mq42) hown (mvT hZ (hW hw 226 rfl)) (mvT hZ (hW hw 227 rfl)) (mvT hZ (hW hw 56 rfl)) (mvT hZ (hW hw 228 rfl)) (by decide) (backOf (W := 0) (rm343 l Z a0' hw [] r_4 kr_4 x0 x1 x2 wa wb wc wd we ka kc G1 T4.heap n0 O10 W fc4_0 f7 f8 f9) hZ (hW hw 228 rfl) (hW hw 56 rfl) (by decide) (by decide)) (g := (mkF m 50 #[vr a0, .unset] [(.ref r_4)])) rfl (by rw [hml]; rfl) (argsL := [(.ref r_4)]) (rest := []) (lenOf pd359 rfl) rfl (Nat.le_of_eq rfl) (hb hby d10_50) (fun _ _ => ⟨rfl, rfl, (by decide : 1 + 2 ≤ _), (by decide : 3 + 5 ≤ _)⟩)
  dsimp only [Pt.U, Pt.locs, Pt.cells, Pt.slots] at X5 l5 y5 z5 st5 hQ5
  subst l5 y5 z5
  obtain ⟨r_5, ar_5, kr_5, rfl, N5q, Kc5, fc5_0, fc5_1, fc5_2⟩ := hQ5
  have N5 := Fr.app N4 N5q
  refine gb (mkF m 53 #[vr a0, .unset] [(.ref r_5)]) st5 ?_
  have K11 := (K6.trans Kc5 all0)
  exact Gl.outA X5 hx hk Bd.returns rfl rfl (hb hby d10_53) ⟨r_5, ar_5, kr_5, rfl, N5, K11, fc5_0, fc5_1, fc5_2⟩ (by decide) (by decide)
theorem ef93 (m : MethodId) (x0 : Addr) : entryFrame m #[(.ref x0)] 1 = mkF m 0 #[.val (.ref x0)] [] := by first | (simp [entryFrame, mkF, argsToLocals, Value.category]; done) | rfl
def Q93 (Z : State) (a0 : Addr) (ea : Addr) (kk : ClassId) (x0 x1 x2 : Addr) (wa wb wc wd we : Addr) (ka kc : ClassId) (G1 : Int32) (h0 : Heap) (n0 : Nat) (v : Option Value) (h : Heap) (L : List Loc) : Prop := ∃ (r : Addr), ∃ (ar : Addr), ∃ (kr : ClassId), v = some (.ref r) ∧ Fr n0 L ∧ Keep h0 h [] ∧ Exa Z h r sN ∧ Fld Z h r sN "elements" sO (.ref ar) ∧ Arv Z h ar kr oT (3 : Int32) [(.ref x0), (.ref x1), (.ref x2)] .null
theorem rm93 (l : Launch) (Z : State) (a0' : Array Value) (hw : ∀ d ∈ tables_1, d.before a0' Z = true) (ws : List Jvm.Cond) (a0 : Addr) (ea : Addr) (kk : ClassId) (x0 x1 x2 : Addr) (wa wb wc wd we : Addr) (ka kc : ClassId) (G1 : Int32) (h0 : Heap) (n0 : Nat) (O : Old Z n0 h0) (W : Wd Z wa wb wc wd we ka kc G1) (pf0 : Exa Z h0 a0 sA) (pf1 : Fld Z h0 a0 sA "elementData" sO (.ref ea)) (pf2 : Fld Z h0 a0 sA "size" "I" (.int 3)) (pf3 : Exa Z h0 ea sO) (pf4 : Arv Z h0 ea kk oT (10 : Int32) [(.ref x0), (.ref x1), (.ref x2), .null, .null, .null, .null, .null, .null, .null] .null) (pf5 : Exa Z h0 x0 sI) (pf6 : Exa Z h0 x1 sI) (pf7 : Exa Z h0 x2 sI) :
    MetFree l mq40 (head1 (Jvm.Cond.code mq40 jdk_40_method_48_code 1 (some (.object "java/util/List")) :: ws) ({ frames := 8, cells := 3, slots := 8, locals := 103 } : Room)) (fun a U => a = #[(.ref a0)] ∧ Z.Warmed39 U.vm ∧ U.heap = h0) (fun _ _ _ _ _ => True) (fun _ U o U' => ∃ v L, o = .returned v ∧ Q93 Z a0 ea kk x0 x1 x2 wa wb wc wd we ka kc G1 h0 n0 v U'.heap L ∧ FrameEnd U o U' L ({ frames := 8, cells := 3, slots := 8, locals := 103 } : Room).cells ({ frames := 8, cells := 3, slots := 8, locals := 103 } : Room).slots) := by
  refine MetFree.of_bodySF (plainFor_of_name pn10) hisR ?_
  intro p e s m args below meth c s₁ Bd hml0 hP hK
  obtain ⟨rfl, hZ, hh⟩ := hP
  have hx := Bd.exec
  have hby := Bd.bytes
  have hml : c.maxLocals = 1 := hml0
  have hown : s.vm.findClass "java/util/List" = some m.cls := findClass_of_methodNamed Bd.named
  have hnm := (name_of_methodNamed Bd.named Bd.method).1
  have hk := Bd.notSynchronized
  have X0 : Stand p l e ({ frames := 8, cells := 3, slots := 8, locals := 103 } : Room) s m #[(.ref a0)] below meth c s₁ [] 0 0 := Stand.of_body Bd
  have hh2 := hh
  have e0 : s₁.heap = h0 := by rw [← hh, Bd.state]; rfl
  have N0 := Fr.nil n0
  show Gl p e below (Pos 3 8 (Q93 Z a0 ea kk x0 x1 x2 wa wb wc wd we ka kc G1 h0 n0) s) s₁ _
  refine Gl.cast (ef93 m a0) ?_
  refine gb (mkF m 1 #[vr a0] [(.ref a0)]) (fun _ k => XS.aloadN X0.here hx rfl (hb hby d9_0) rfl rfl k) ?_
  obtain ⟨_, _, ⟨T1, L1, k1, n1⟩, -, X1, ⟨Lc1, hQ1, l1, y1, z1⟩, st1⟩ := callS X0 hx (y := mq38) hown (mvT hZ (hW hw 58 rfl)) (mvT hZ (hW hw 59 rfl)) (mvT hZ (hW hw 60 rfl)) (mvT hZ (hW hw 61 rfl)) (by decide) (backOf (W := 0) (rm103 l Z a0' hw [] a0 ea kk x0 x1 x2 wa wb wc wd we ka kc G1 h0 n0 O W pf0 pf1 pf2 pf3 pf4 pf5 pf6 pf7) hZ (hW hw 61 rfl) (hW hw 60 rfl) (by decide) (by decide)) (g := (mkF m 1 #[vr a0] [(.ref a0)])) rfl (by rw [hml]; rfl) (argsL := [(.ref a0)]) (rest := []) (lenOf pd339 rfl) rfl (Nat.le_of_eq rfl) (hb hby d9_1) (fun _ _ => ⟨rfl, e0, (by decide : 0 + 3 ≤ _), (by decide : 0 + 8 ≤ _)⟩)
  dsimp only [Pt.U, Pt.locs, Pt.cells, Pt.slots] at X1 l1 y1 z1 st1 hQ1
  subst l1 y1 z1
  obtain ⟨r_1, ar_1, kr_1, rfl, N1q, Kc1, fc1_0, fc1_1, fc1_2⟩ := hQ1
  have N1 := Fr.app N0 N1q
  refine gb (mkF m 4 #[vr a0] [(.ref r_1)]) st1 ?_
  have K2 := ((Keep.refl h0 []).trans Kc1 all0)
  exact Gl.outA X1 hx hk Bd.returns rfl rfl (hb hby d9_4) ⟨r_1, ar_1, kr_1, rfl, N1, K2, fc1_0, fc1_1, fc1_2⟩ (by decide) (by decide)
theorem ef83 (m : MethodId) (x0 : Addr) : entryFrame m #[(.ref x0)] 1 = mkF m 0 #[.val (.ref x0)] [] := by first | (simp [entryFrame, mkF, argsToLocals, Value.category]; done) | rfl
def Q83 (Z : State) (a0 : Addr) (la : Addr) (ea : Addr) (kk : ClassId) (x0 x1 x2 : Addr) (wa wb wc wd we : Addr) (ka kc : ClassId) (G1 : Int32) (h0 : Heap) (n0 : Nat) (v : Option Value) (h : Heap) (L : List Loc) : Prop := ∃ (r : Addr), ∃ (ar : Addr), ∃ (kr : ClassId), v = some (.ref r) ∧ Fr n0 L ∧ Keep h0 h [] ∧ Exa Z h r sN ∧ Fld Z h r sN "elements" sO (.ref ar) ∧ Arv Z h ar kr oT (3 : Int32) [(.ref x0), (.ref x1), (.ref x2)] .null
theorem rm83 (l : Launch) (Z : State) (a0' : Array Value) (hw : ∀ d ∈ tables_1, d.before a0' Z = true) (ws : List Jvm.Cond) (a0 : Addr) (la : Addr) (ea : Addr) (kk : ClassId) (x0 x1 x2 : Addr) (wa wb wc wd we : Addr) (ka kc : ClassId) (G1 : Int32) (h0 : Heap) (n0 : Nat) (O : Old Z n0 h0) (W : Wd Z wa wb wc wd we ka kc G1) (pf0 : Exa Z h0 a0 sF) (pf1 : Fld Z h0 a0 sF "found" "I" (.int 3)) (pf2 : Fld Z h0 a0 sF "params" "Ljava/util/List;" (.ref la)) (pf3 : Exa Z h0 la sA) (pf4 : Fld Z h0 la sA "elementData" sO (.ref ea)) (pf5 : Fld Z h0 la sA "size" "I" (.int 3)) (pf6 : Exa Z h0 ea sO) (pf7 : Arv Z h0 ea kk oT (10 : Int32) [(.ref x0), (.ref x1), (.ref x2), .null, .null, .null, .null, .null, .null, .null] .null) (pf8 : Exa Z h0 x0 sI) (pf9 : Exa Z h0 x1 sI) (pf10 : Exa Z h0 x2 sI) :
    MetFree l mq41 (head1 (Jvm.Cond.code mq41 prog_17_method_8_code 1 (some (.object "java/util/List")) :: ws) ({ frames := 9, cells := 3, slots := 8, locals := 115 } : Room)) (fun a U => a = #[(.ref a0)] ∧ Z.Warmed39 U.vm ∧ U.heap = h0) (fun _ _ _ _ _ => True) (fun _ U o U' => ∃ v L, o = .returned v ∧ Q83 Z a0 la ea kk x0 x1 x2 wa wb wc wd we ka kc G1 h0 n0 v U'.heap L ∧ FrameEnd U o U' L ({ frames := 9, cells := 3, slots := 8, locals := 115 } : Room).cells ({ frames := 9, cells := 3, slots := 8, locals := 115 } : Room).slots) := by
  refine MetFree.of_bodySF (plainFor_of_name pn3) hisR ?_
  intro p e s m args below meth c s₁ Bd hml0 hP hK
  obtain ⟨rfl, hZ, hh⟩ := hP
  have hx := Bd.exec
  have hby := Bd.bytes
  have hml : c.maxLocals = 1 := hml0
  have hown : s.vm.findClass sF = some m.cls := findClass_of_methodNamed Bd.named
  have hnm := (name_of_methodNamed Bd.named Bd.method).1
  have hk := Bd.notSynchronized
  have X0 : Stand p l e ({ frames := 9, cells := 3, slots := 8, locals := 115 } : Room) s m #[(.ref a0)] below meth c s₁ [] 0 0 := Stand.of_body Bd
  have hh2 := hh
  have e0 : s₁.heap = h0 := by rw [← hh, Bd.state]; rfl
  have N0 := Fr.nil n0
  show Gl p e below (Pos 3 8 (Q83 Z a0 la ea kk x0 x1 x2 wa wb wc wd we ka kc G1 h0 n0) s) s₁ _
  refine Gl.cast (ef83 m a0) ?_
  refine gb (mkF m 1 #[vr a0] [(.ref a0)]) (fun _ k => XS.aloadN X0.here hx rfl (hb hby d8_0) rfl rfl k) ?_
  obtain ⟨T1, X1, e1, st1⟩ := getF X0 hx hZ hown (host := "") (Or.inl (hW hw 33 rfl)) Via.refl e0 pf2 (g := (mkF m 1 #[vr a0] [(.ref a0)])) rfl rfl (hb hby d8_1)
  refine gb (mkF m 4 #[vr a0] [(.ref la)]) st1 ?_
  obtain ⟨_, _, ⟨T2, L2, k2, n2⟩, -, X2, ⟨Lc2, hQ2, l2, y2, z2⟩, st2⟩ := callS X1 hx (y := mq40) hown (mvT hZ (hW hw 54 rfl)) (mvT hZ (hW hw 55 rfl)) (mvT hZ (hW hw 56 rfl)) (mvT hZ (hW hw 57 rfl)) (by decide) (backOf (W := 0) (rm93 l Z a0' hw [] la ea kk x0 x1 x2 wa wb wc wd we ka kc G1 h0 n0 O W pf3 pf4 pf5 pf6 pf7 pf8 pf9 pf10) hZ (hW hw 57 rfl) (hW hw 56 rfl) (by decide) (by decide)) (g := (mkF m 4 #[vr a0] [(.ref la)])) rfl (by rw [hml]; rfl) (argsL := [(.ref la)]) (rest := []) (lenOf pd339 rfl) rfl (Nat.le_of_eq rfl) (hb hby d8_4) (fun _ _ => ⟨rfl, e1, (by decide : 0 + 3 ≤ _), (by decide : 0 + 8 ≤ _)⟩)
  dsimp only [Pt.U, Pt.locs, Pt.cells, Pt.slots] at X2 l2 y2 z2 st2 hQ2
  subst l2 y2 z2
  obtain ⟨r_2, ar_2, kr_2, rfl, N2q, Kc2, fc2_0, fc2_1, fc2_2⟩ := hQ2
  have N2 := Fr.app N0 N2q
  refine gb (mkF m 7 #[vr a0] [(.ref r_2)]) st2 ?_
  have K3 := ((Keep.refl h0 []).trans Kc2 all0)
  exact Gl.outA X2 hx hk Bd.returns rfl rfl (hb hby d8_7) ⟨r_2, ar_2, kr_2, rfl, N2, K3, fc2_0, fc2_1, fc2_2⟩ (by decide) (by decide)
theorem ef354 (m : MethodId) (x0 : Addr) : entryFrame m #[(.ref x0)] 3 = mkF m 0 #[.val (.ref x0), .unset, .unset] [] := by first | (simp [entryFrame, mkF, argsToLocals, Value.category]; done) | rfl
def Q354 (Z : State) (a0 : Addr) (kk : ClassId) (x0 x1 x2 x3 : Addr) (wa wb wc wd we : Addr) (ka kc : ClassId) (G1 : Int32) (h0 : Heap) (n0 : Nat) (v : Option Value) (h : Heap) (L : List Loc) : Prop := ∃ (r : Addr), ∃ (ar : Addr), ∃ (kr : ClassId), v = some (.ref r) ∧ Fr n0 L ∧ Keep h0 h [] ∧ Exa Z h r sN ∧ Fld Z h r sN "elements" sO (.ref ar) ∧ Arv Z h ar kr oT (4 : Int32) [(.ref x0), (.ref x1), (.ref x2), (.ref x3)] .null
theorem rm354 (l : Launch) (Z : State) (a0' : Array Value) (hw : ∀ d ∈ tables_1, d.before a0' Z = true) (ws : List Jvm.Cond) (a0 : Addr) (kk : ClassId) (x0 x1 x2 x3 : Addr) (wa wb wc wd we : Addr) (ka kc : ClassId) (G1 : Int32) (h0 : Heap) (n0 : Nat) (O : Old Z n0 h0) (W : Wd Z wa wb wc wd we ka kc G1) (pf0 : Arv Z h0 a0 kk oT (4 : Int32) [(.ref x0), (.ref x1), (.ref x2), (.ref x3)] .null) (pf1 : Exa Z h0 x0 sI) (pf2 : Exa Z h0 x1 sI) (pf3 : Exa Z h0 x2 sI) (pf4 : Exa Z h0 x3 sI) :
    MetFree l mq44 (head1 (Jvm.Cond.code mq44 jdk_56_method_4_code 3 (some (.object "java/util/List")) :: ws) ({ frames := 5, cells := 2, slots := 6, locals := 63 } : Room)) (fun a U => a = #[(.ref a0)] ∧ Z.Warmed39 U.vm ∧ U.heap = h0) (fun _ _ _ _ _ => True) (fun _ U o U' => ∃ v L, o = .returned v ∧ Q354 Z a0 kk x0 x1 x2 x3 wa wb wc wd we ka kc G1 h0 n0 v U'.heap L ∧ FrameEnd U o U' L ({ frames := 5, cells := 2, slots := 6, locals := 63 } : Room).cells ({ frames := 5, cells := 2, slots := 6, locals := 63 } : Room).slots) := by
  refine MetFree.of_bodySF (plainFor_of_name pn16) hisR ?_
  intro p e s m args below meth c s₁ Bd hml0 hP hK
  obtain ⟨rfl, hZ, hh⟩ := hP
  have hx := Bd.exec
  have hby := Bd.bytes
  have hml : c.maxLocals = 3 := hml0
  have hown : s.vm.findClass "java/util/ImmutableCollections" = some m.cls := findClass_of_methodNamed Bd.named
  have hnm := (name_of_methodNamed Bd.named Bd.method).1
  have hk := Bd.notSynchronized
  have X0 : Stand p l e ({ frames := 5, cells := 2, slots := 6, locals := 63 } : Room) s m #[(.ref a0)] below meth c s₁ [] 0 0 := Stand.of_body Bd
  have hh2 := hh
  have e0 : s₁.heap = h0 := by rw [← hh, Bd.state]; rfl
  have N0 := Fr.nil n0
  show Gl p e below (Pos 2 6 (Q354 Z a0 kk x0 x1 x2 x3 wa wb wc wd we ka kc G1 h0 n0) s) s₁ _
  refine Gl.cast (ef354 m a0) ?_
  refine gb (mkF m 1 #[vr a0, .unset, .unset] [(.ref a0)]) (fun _ k => XS.aloadN X0.here hx rfl (hb hby d35_0) rfl rfl k) ?_
  obtain ⟨cl1, Ar1, qa1, Sa1, Na1, Ha1, Ga1⟩ := id pf0
  refine gb (mkF m 2 #[vr a0, .unset, .unset] [(.int 4)]) (fun t k => X0.arraylength hx (by rw [e0]; exact Ar1.1) (State.isArrayOf_alike hZ.alike Ar1.2.1) (g := (mkF m 1 #[vr a0, .unset, .unset] [(.ref a0)])) rfl rfl (hb hby d35_1) t (by rw [len_of Sa1 Na1]; exact k)) ?_
  obtain ⟨T2, h2, k2, X2, e2, E2, A2, Ov2, st2⟩ := newRX X0 hx hZ hown (hW hw 232 rfl) (hW hw 188 rfl) rfl e0 (g := (mkF m 2 #[vr a0, .unset, .unset] [(.int 4)])) rfl (hb hby d35_2) rfl (by decide) (cap := 4) (by decide) (by decide) (by decide) (by decide)
  obtain ⟨b2, g2⟩ : ∃ z, z = (h0).size := ⟨_, rfl⟩
  rw [← g2] at A2 st2
  have gb2 : n0 ≤ b2 := Nat.le_trans (Nat.le_trans (Nat.le_of_eq O.1.symm) O.2.1) (Nat.le_of_eq g2.symm)
  have sb2 : h0.size ≤ b2 := Nat.le_trans (Keep.refl h0 []).1 (Nat.le_of_eq g2.symm)
  have ne2_0 : a0 ≠ b2 := Nat.ne_of_lt (Nat.lt_of_lt_of_le pf0.lt (Nat.le_of_eq g2.symm))
  have ne2_2 : x0 ≠ b2 := Nat.ne_of_lt (Nat.lt_of_lt_of_le pf1.lt (Nat.le_of_eq g2.symm))
  have ne2_4 : x1 ≠ b2 := Nat.ne_of_lt (Nat.lt_of_lt_of_le pf2.lt (Nat.le_of_eq g2.symm))
  have ne2_6 : x2 ≠ b2 := Nat.ne_of_lt (Nat.lt_of_lt_of_le pf3.lt (Nat.le_of_eq g2.symm))
  have ne2_8 : x3 ≠ b2 := Nat.ne_of_lt (Nat.lt_of_lt_of_le pf4.lt (Nat.le_of_eq g2.symm))
  have ne2_10 : wa ≠ b2 := Nat.ne_of_lt (Nat.lt_of_lt_of_le (Arv.ext W.2.1 O.2).lt (Nat.le_of_eq g2.symm))
  have ne2_12 : wc ≠ b2 := Nat.ne_of_lt (Nat.lt_of_lt_of_le (Arv.ext W.2.2.2.2.2.1 O.2).lt (Nat.le_of_eq g2.symm))
  have ne2_14 : wb ≠ b2 := Nat.ne_of_lt (Nat.lt_of_lt_of_le (Exa.ext O.2 W.2.2.2.1).lt (Nat.le_of_eq g2.symm))
  have ne2_16 : wd ≠ b2 := Nat.ne_of_lt (Nat.lt_of_lt_of_le (Exa.ext O.2 W.2.2.2.2.2.2.2.1).lt (Nat.le_of_eq g2.symm))
  have V2 : Arv Z h2 b2 k2 oT (4 : Int32) [.null, .null, .null, .null] .null := (Arv.new A2 (by decide)).pad (pad_rep [] .null 4)
  rw [← g2] at Ov2
  refine gb (mkF m 5 #[vr a0, .unset, .unset] [(.ref b2)]) st2 ?_
  refine gb (mkF m 6 #[vr a0, vr b2, .unset] []) (fun _ k => XS.astoreN X2.here hx rfl (hb hby d35_5) rfl rfl (l' := #[vr a0, vr b2, .unset]) rfl k) ?_
  refine gb (mkF m 7 #[vr a0, vr b2, .unset] [(.int 0)]) (fun _ k => XS.iconst X2.here hx rfl (hb hby d35_6) k) ?_
  refine gb (mkF m 8 #[vr a0, vr b2, vi 0] []) (fun _ k => XS.istoreN X2.here hx rfl (hb hby d35_7) rfl (l' := #[vr a0, vr b2, vi 0]) rfl k) ?_
  refine gb (mkF m 9 #[vr a0, vr b2, vi 0] [(.int 0)]) (fun _ k => XS.iloadN X2.here hx rfl (hb hby d35_8) rfl k) ?_
  refine gb (mkF m 10 #[vr a0, vr b2, vi 0] [(.ref a0), (.int 0)]) (fun _ k => XS.aloadN X2.here hx rfl (hb hby d35_9) rfl rfl k) ?_
  have f3 := (Arv.ext pf0 E2)
  obtain ⟨cl4, Ar4, qa4, Sa4, Na4, Ha4, Ga4⟩ := id f3
  refine gb (mkF m 11 #[vr a0, vr b2, vi 0] [(.int 4), (.int 0)]) (fun t k => X2.arraylength hx (by rw [e2]; exact Ar4.1) (State.isArrayOf_alike hZ.alike Ar4.2.1) (g := (mkF m 10 #[vr a0, vr b2, vi 0] [(.ref a0), (.int 0)])) rfl rfl (hb hby d35_10) t (by rw [len_of Sa4 Na4]; exact k)) ?_
  refine gb (mkF m 14 #[vr a0, vr b2, vi 0] []) (fun _ k => XS.icmpNo X2.here hx rfl (hb hby d35_11) rfl (tlt (by decide : (0 : Int32) < (4 : Int32))).2.1 k) ?_
  refine gb (mkF m 15 #[vr a0, vr b2, vi 0] [(.ref b2)]) (fun _ k => XS.aloadN X2.here hx rfl (hb hby d35_14) rfl rfl k) ?_
  refine gb (mkF m 16 #[vr a0, vr b2, vi 0] [(.int 0), (.ref b2)]) (fun _ k => XS.iloadN X2.here hx rfl (hb hby d35_15) rfl k) ?_
  refine gb (mkF m 17 #[vr a0, vr b2, vi 0] [(.ref a0), (.int 0), (.ref b2)]) (fun _ k => XS.aloadN X2.here hx rfl (hb hby d35_16) rfl rfl k) ?_
  refine gb (mkF m 18 #[vr a0, vr b2, vi 0] [(.int 0), (.ref a0), (.int 0), (.ref b2)]) (fun _ k => XS.iloadN X2.here hx rfl (hb hby d35_17) rfl k) ?_
  obtain ⟨cl5, Ar5, qa5, Sa5, Na5, Ha5, Ga5⟩ := id f3
  have hin6 : ¬ ((0 : Int32) < 0 ∨ cl5.slots.size ≤ ((0 : Int32)).toNatClampNeg) := inb_of Sa5 ⟨by decide, by decide⟩
  refine gb (mkF m 19 #[vr a0, vr b2, vi 0] [(.ref x0), (.int 0), (.ref b2)]) (X2.aaload hx (j := (0 : Int32)) (v := (.ref x0)) (by rw [e2]; exact Ar5.1) (State.isArrayOf_alike hZ.alike Ar5.2.1) rfl Ar5.2.2 hin6 (Has.at Ha5 hin6 rfl) (g := (mkF m 18 #[vr a0, vr b2, vi 0] [(.int 0), (.ref a0), (.int 0), (.ref b2)])) rfl rfl (hb hby d35_18)) ?_
  have K8 := ((Keep.refl h0 []).ext E2)
  have O9 := (O.ext E2)
  obtain ⟨_, _, ⟨T7, L7, k7, n7⟩, -, X7, ⟨Lc7, hQ7, l7, y7, z7⟩, st7⟩ := callS X2 hx (y := mq32) hown (mvT hZ (hW hw 233 rfl)) (mvT hZ (hW hw 234 rfl)) (mvT hZ (hW hw 235 rfl)) (mvT hZ (hW hw 236 rfl)) (by decide) (backOf (W := 2) (rm36 l Z a0' hw [] x0 wa wb wc wd we ka kc G1 h2 n0 O9 W ) hZ (hW hw 236 rfl) (hW hw 235 rfl) (by decide) (by decide)) (g := (mkF m 19 #[vr a0, vr b2, vi 0] [(.ref x0), (.int 0), (.ref b2)])) rfl (by rw [hml]; rfl) (argsL := [(.ref x0)]) (rest := [(.int 0), (.ref b2)]) (lenOf pd311 rfl) rfl (Nat.le_of_eq rfl) (hb hby d35_19) (fun _ _ => ⟨rfl, e2, (by decide : 1 + 0 ≤ _), (by decide : 4 + 0 ≤ _)⟩)
  dsimp only [Pt.U, Pt.locs, Pt.cells, Pt.slots] at X7 l7 y7 z7 st7 hQ7
  subst l7 y7 z7
  obtain ⟨rfl, N7q, e7⟩ := hQ7
  have N7 := Fr.app N0 N7q
  refine gb (mkF m 22 #[vr a0, vr b2, vi 0] [(.ref x0), (.int 0), (.ref b2)]) st7 ?_
  obtain ⟨cl10, Ar10, qa10, Sa10, Na10, Ha10, Ga10⟩ := id V2
  have hin11 : ¬ ((0 : Int32) < 0 ∨ cl10.slots.size ≤ ((0 : Int32)).toNatClampNeg) := inb_of Sa10 ⟨by decide, by decide⟩
  have f12 := (Exa.ext E2 pf1)
  obtain ⟨T11, h11, X11, e11, W11, st11⟩ := stR X7 hx hZ e7 Ar10 (j := (0 : Int32)) hin11 rfl (Sto.ofV Ar10 qa10 Ov2.1 (Ins.of_exa f12 (hW hw 189 rfl))) (g := (mkF m 22 #[vr a0, vr b2, vi 0] [(.ref x0), (.int 0), (.ref b2)])) rfl rfl (hb hby d35_22)
  have V11 : Arv Z h11 b2 k2 oT (4 : Int32) [(.ref x0), .null, .null, .null] .null := Arv.set Ar10 qa10 Sa10 Na10 Ha10 Ga10 rfl W11 0 rfl (Nat.le_of_ble_eq_true rfl)
  have N11 := Fr.snoc X11 N7 gb2
  refine gb (mkF m 23 #[vr a0, vr b2, vi 0] []) st11 ?_
  refine gb (mkF m 26 #[vr a0, vr b2, vi 1] []) (fun _ k => XS.iinc X11.here hx rfl (hb hby d35_23) rfl (l' := #[vr a0, vr b2, vi 1]) rfl k) ?_
  refine gb (mkF m 8 #[vr a0, vr b2, vi 1] []) (fun _ k => XS.goto X11.here hx rfl (pc0 := 26) (pc' := 8) rfl (hb hby d35_26) (by decide) (by decide) k) ?_
  refine gb (mkF m 9 #[vr a0, vr b2, vi 1] [(.int 1)]) (fun _ k => XS.iloadN X11.here hx rfl (hb hby d35_8) rfl k) ?_
  refine gb (mkF m 10 #[vr a0, vr b2, vi 1] [(.ref a0), (.int 1)]) (fun _ k => XS.aloadN X11.here hx rfl (hb hby d35_9) rfl rfl k) ?_
  have f13 := (Arv.other f3 W11 ne2_0)
  obtain ⟨cl14, Ar14, qa14, Sa14, Na14, Ha14, Ga14⟩ := id f13
  refine gb (mkF m 11 #[vr a0, vr b2, vi 1] [(.int 4), (.int 1)]) (fun t k => X11.arraylength hx (by rw [e11]; exact Ar14.1) (State.isArrayOf_alike hZ.alike Ar14.2.1) (g := (mkF m 10 #[vr a0, vr b2, vi 1] [(.ref a0), (.int 1)])) rfl rfl (hb hby d35_10) t (by rw [len_of Sa14 Na14]; exact k)) ?_
  refine gb (mkF m 14 #[vr a0, vr b2, vi 1] []) (fun _ k => XS.icmpNo X11.here hx rfl (hb hby d35_11) rfl (tlt (by decide : (1 : Int32) < (4 : Int32))).2.1 k) ?_
  refine gb (mkF m 15 #[vr a0, vr b2, vi 1] [(.ref b2)]) (fun _ k => XS.aloadN X11.here hx rfl (hb hby d35_14) rfl rfl k) ?_
  refine gb (mkF m 16 #[vr a0, vr b2, vi 1] [(.int 1), (.ref b2)]) (fun _ k => XS.iloadN X11.here hx rfl (hb hby d35_15) rfl k) ?_
  refine gb (mkF m 17 #[vr a0, vr b2, vi 1] [(.ref a0), (.int 1), (.ref b2)]) (fun _ k => XS.aloadN X11.here hx rfl (hb hby d35_16) rfl rfl k) ?_
  refine gb (mkF m 18 #[vr a0, vr b2, vi 1] [(.int 1), (.ref a0), (.int 1), (.ref b2)]) (fun _ k => XS.iloadN X11.here hx rfl (hb hby d35_17) rfl k) ?_
  obtain ⟨cl15, Ar15, qa15, Sa15, Na15, Ha15, Ga15⟩ := id f13
  have hin16 : ¬ ((1 : Int32) < 0 ∨ cl15.slots.size ≤ ((1 : Int32)).toNatClampNeg) := inb_of Sa15 ⟨by decide, by decide⟩
  refine gb (mkF m 19 #[vr a0, vr b2, vi 1] [(.ref x1), (.int 1), (.ref b2)]) (X11.aaload hx (j := (1 : Int32)) (v := (.ref x1)) (by rw [e11]; exact Ar15.1) (State.isArrayOf_alike hZ.alike Ar15.2.1) rfl Ar15.2.2 hin16 (Has.at Ha15 hin16 rfl) (g := (mkF m 18 #[vr a0, vr b2, vi 1] [(.int 1), (.ref a0), (.int 1), (.ref b2)])) rfl rfl (hb hby d35_18)) ?_
  have K18 := (K8.wr W11 (Or.inr sb2))
  have O19 := (O9.wr W11 gb2)
  obtain ⟨_, _, ⟨T17, L17, k17, n17⟩, -, X17, ⟨Lc17, hQ17, l17, y17, z17⟩, st17⟩ := callS X11 hx (y := mq32) hown (mvT hZ (hW hw 233 rfl)) (mvT hZ (hW hw 234 rfl)) (mvT hZ (hW hw 235 rfl)) (mvT hZ (hW hw 236 rfl)) (by decide) (backOf (W := 2) (rm36 l Z a0' hw [] x1 wa wb wc wd we ka kc G1 h11 n0 O19 W ) hZ (hW hw 236 rfl) (hW hw 235 rfl) (by decide) (by decide)) (g := (mkF m 19 #[vr a0, vr b2, vi 1] [(.ref x1), (.int 1), (.ref b2)])) rfl (by rw [hml]; rfl) (argsL := [(.ref x1)]) (rest := [(.int 1), (.ref b2)]) (lenOf pd311 rfl) rfl (Nat.le_of_eq rfl) (hb hby d35_19) (fun _ _ => ⟨rfl, e11, (by decide : 1 + 0 ≤ _), (by decide : 4 + 0 ≤ _)⟩)
  dsimp only [Pt.U, Pt.locs, Pt.cells, Pt.slots] at X17 l17 y17 z17 st17 hQ17
  subst l17 y17 z17
  obtain ⟨rfl, N17q, e17⟩ := hQ17
  have N17 := Fr.app N11 N17q
  refine gb (mkF m 22 #[vr a0, vr b2, vi 1] [(.ref x1), (.int 1), (.ref b2)]) st17 ?_
  obtain ⟨cl20, Ar20, qa20, Sa20, Na20, Ha20, Ga20⟩ := id V11
  have hin21 : ¬ ((1 : Int32) < 0 ∨ cl20.slots.size ≤ ((1 : Int32)).toNatClampNeg) := inb_of Sa20 ⟨by decide, by decide⟩
  have f22 := (Exa.wr W11 (Exa.ext E2 pf2))
  obtain ⟨T21, h21, X21, e21, W21, st21⟩ := stR X17 hx hZ e17 Ar20 (j := (1 : Int32)) hin21 rfl (Sto.ofV Ar20 qa20 Ov2.1 (Ins.of_exa f22 (hW hw 189 rfl))) (g := (mkF m 22 #[vr a0, vr b2, vi 1] [(.ref x1), (.int 1), (.ref b2)])) rfl rfl (hb hby d35_22)
  have V21 : Arv Z h21 b2 k2 oT (4 : Int32) [(.ref x0), (.ref x1), .null, .null] .null := Arv.set Ar20 qa20 Sa20 Na20 Ha20 Ga20 rfl W21 1 rfl (Nat.le_of_ble_eq_true rfl)
  have N21 := Fr.snoc X21 N17 gb2
  refine gb (mkF m 23 #[vr a0, vr b2, vi 1] []) st21 ?_
  refine gb (mkF m 26 #[vr a0, vr b2, vi 2] []) (fun _ k => XS.iinc X21.here hx rfl (hb hby d35_23) rfl (l' := #[vr a0, vr b2, vi 2]) rfl k) ?_
  refine gb (mkF m 8 #[vr a0, vr b2, vi 2] []) (fun _ k => XS.goto X21.here hx rfl (pc0 := 26) (pc' := 8) rfl (hb hby d35_26) (by decide) (by decide) k) ?_
  refine gb (mkF m 9 #[vr a0, vr b2, vi 2] [(.int 2)]) (fun _ k => XS.iloadN X21.here hx rfl (hb hby d35_8) rfl k) ?_
  refine gb (mkF m 10 #[vr a0, vr b2, vi 2] [(.ref a0), (.int 2)]) (fun _ k => XS.aloadN X21.here hx rfl (hb hby d35_9) rfl rfl k) ?_
  have f23 := (Arv.other f13 W21 ne2_0)
  obtain ⟨cl24, Ar24, qa24, Sa24, Na24, Ha24, Ga24⟩ := id f23
  refine gb (mkF m 11 #[vr a0, vr b2, vi 2] [(.int 4), (.int 2)]) (fun t k => X21.arraylength hx (by rw [e21]; exact Ar24.1) (State.isArrayOf_alike hZ.alike Ar24.2.1) (g := (mkF m 10 #[vr a0, vr b2, vi 2] [(.ref a0), (.int 2)])) rfl rfl (hb hby d35_10) t (by rw [len_of Sa24 Na24]; exact k)) ?_
  refine gb (mkF m 14 #[vr a0, vr b2, vi 2] []) (fun _ k => XS.icmpNo X21.here hx rfl (hb hby d35_11) rfl (tlt (by decide : (2 : Int32) < (4 : Int32))).2.1 k) ?_
  refine gb (mkF m 15 #[vr a0, vr b2, vi 2] [(.ref b2)]) (fun _ k => XS.aloadN X21.here hx rfl (hb hby d35_14) rfl rfl k) ?_
  refine gb (mkF m 16 #[vr a0, vr b2, vi 2] [(.int 2), (.ref b2)]) (fun _ k => XS.iloadN X21.here hx rfl (hb hby d35_15) rfl k) ?_
  refine gb (mkF m 17 #[vr a0, vr b2, vi 2] [(.ref a0), (.int 2), (.ref b2)]) (fun _ k => XS.aloadN X21.here hx rfl (hb hby d35_16) rfl rfl k) ?_
  refine gb (mkF m 18 #[vr a0, vr b2, vi 2] [(.int 2), (.ref a0), (.int 2), (.ref b2)]) (fun _ k => XS.iloadN X21.here hx rfl (hb hby d35_17) rfl k) ?_
  obtain ⟨cl25, Ar25, qa25, Sa25, Na25, Ha25, Ga25⟩ := id f23
  have hin26 : ¬ ((2 : Int32) < 0 ∨ cl25.slots.size ≤ ((2 : Int32)).toNatClampNeg) := inb_of Sa25 ⟨by decide, by decide⟩
  refine gb (mkF m 19 #[vr a0, vr b2, vi 2] [(.ref x2), (.int 2), (.ref b2)]) (X21.aaload hx (j := (2 : Int32)) (v := (.ref x2)) (by rw [e21]; exact Ar25.1) (State.isArrayOf_alike hZ.alike Ar25.2.1) rfl Ar25.2.2 hin26 (Has.at Ha25 hin26 rfl) (g := (mkF m 18 #[vr a0, vr b2, vi 2] [(.int 2), (.ref a0), (.int 2), (.ref b2)])) rfl rfl (hb hby d35_18)) ?_
  have K28 := (K18.wr W21 (Or.inr sb2))
  have O29 := (O19.wr W21 gb2)
  obtain ⟨_, _, ⟨T27, L27, k27, n27⟩, -, X27, ⟨Lc27, hQ27, l27, y27, z27⟩, st27⟩ := callS X21 hx (y := mq32) hown (mvT hZ (hW hw 233 rfl)) (mvT hZ (hW hw 234 rfl)) (mvT hZ (hW hw 235 rfl)) (mvT hZ (hW hw 236 rfl)) (by decide) (backOf (W := 2) (rm36 l Z a0' hw [] x2 wa wb wc wd we ka kc G1 h21 n0 O29 W ) hZ (hW hw 236 rfl) (hW hw 235 rfl) (by decide) (by decide)) (g := (mkF m 19 #[vr a0, vr b2, vi 2] [(.ref x2), (.int 2), (.ref b2)])) rfl (by rw [hml]; rfl) (argsL := [(.ref x2)]) (rest := [(.int 2), (.ref b2)]) (lenOf pd311 rfl) rfl (Nat.le_of_eq rfl) (hb hby d35_19) (fun _ _ => ⟨rfl, e21, (by decide : 1 + 0 ≤ _), (by decide : 4 + 0 ≤ _)⟩)
  dsimp only [Pt.U, Pt.locs, Pt.cells, Pt.slots] at X27 l27 y27 z27 st27 hQ27
  subst l27 y27 z27
  obtain ⟨rfl, N27q, e27⟩ := hQ27
  have N27 := Fr.app N21 N27q
  refine gb (mkF m 22 #[vr a0, vr b2, vi 2] [(.ref x2), (.int 2), (.ref b2)]) st27 ?_
  obtain ⟨cl30, Ar30, qa30, Sa30, Na30, Ha30, Ga30⟩ := id V21
  have hin31 : ¬ ((2 : Int32) < 0 ∨ cl30.slots.size ≤ ((2 : Int32)).toNatClampNeg) := inb_of Sa30 ⟨by decide, by decide⟩
  have f32 := (Exa.wr W21 (Exa.wr W11 (Exa.ext E2 pf3)))
  obtain ⟨T31, h31, X31, e31, W31, st31⟩ := stR X27 hx hZ e27 Ar30 (j := (2 : Int32)) hin31 rfl (Sto.ofV Ar30 qa30 Ov2.1 (Ins.of_exa f32 (hW hw 189 rfl))) (g := (mkF m 22 #[vr a0, vr b2, vi 2] [(.ref x2), (.int 2), (.ref b2)])) rfl rfl (hb hby d35_22)
  have V31 : Arv Z h31 b2 k2 oT (4 : Int32) [(.ref x0), (.ref x1), (.ref x2), .null] .null := Arv.set Ar30 qa30 Sa30 Na30 Ha30 Ga30 rfl W31 2 rfl (Nat.le_of_ble_eq_true rfl)
  have N31 := Fr.snoc X31 N27 gb2
  refine gb (mkF m 23 #[vr a0, vr b2, vi 2] []) st31 ?_
  refine gb (mkF m 26 #[vr a0, vr b2, vi 3] []) (fun _ k => XS.iinc X31.here hx rfl (hb hby d35_23) rfl (l' := #[vr a0, vr b2, vi 3]) rfl k) ?_
  refine gb (mkF m 8 #[vr a0, vr b2, vi 3] []) (fun _ k => XS.goto X31.here hx rfl (pc0 := 26) (pc' := 8) rfl (hb hby d35_26) (by decide) (by decide) k) ?_
  refine gb (mkF m 9 #[vr a0, vr b2, vi 3] [(.int 3)]) (fun _ k => XS.iloadN X31.here hx rfl (hb hby d35_8) rfl k) ?_
  refine gb (mkF m 10 #[vr a0, vr b2, vi 3] [(.ref a0), (.int 3)]) (fun _ k => XS.aloadN X31.here hx rfl (hb hby d35_9) rfl rfl k) ?_
  have f33 := (Arv.other f23 W31 ne2_0)
  obtain ⟨cl34, Ar34, qa34, Sa34, Na34, Ha34, Ga34⟩ := id f33
  refine gb (mkF m 11 #[vr a0, vr b2, vi 3] [(.int 4), (.int 3)]) (fun t k => X31.arraylength hx (by rw [e31]; exact Ar34.1) (State.isArrayOf_alike hZ.alike Ar34.2.1) (g := (mkF m 10 #[vr a0, vr b2, vi 3] [(.ref a0), (.int 3)])) rfl rfl (hb hby d35_10) t (by rw [len_of Sa34 Na34]; exact k)) ?_
  refine gb (mkF m 14 #[vr a0, vr b2, vi 3] []) (fun _ k => XS.icmpNo X31.here hx rfl (hb hby d35_11) rfl (tlt (by decide : (3 : Int32) < (4 : Int32))).2.1 k) ?_
  refine gb (mkF m 15 #[vr a0, vr b2, vi 3] [(.ref b2)]) (fun _ k => XS.aloadN X31.here hx rfl (hb hby d35_14) rfl rfl k) ?_
  refine gb (mkF m 16 #[vr a0, vr b2, vi 3] [(.int 3), (.ref b2)]) (fun _ k => XS.iloadN X31.here hx rfl (hb hby d35_15) rfl k) ?_
  refine gb (mkF m 17 #[vr a0, vr b2, vi 3] [(.ref a0), (.int 3), (.ref b2)]) (fun _ k => XS.aloadN X31.here hx rfl (hb hby d35_16) rfl rfl k) ?_
  refine gb (mkF m 18 #[vr a0, vr b2, vi 3] [(.int 3), (.ref a0), (.int 3), (.ref b2)]) (fun _ k => XS.iloadN X31.here hx rfl (hb hby d35_17) rfl k) ?_
  obtain ⟨cl35, Ar35, qa35, Sa35, Na35, Ha35, Ga35⟩ := id f33
  have hin36 : ¬ ((3 : Int32) < 0 ∨ cl35.slots.size ≤ ((3 : Int32)).toNatClampNeg) := inb_of Sa35 ⟨by decide, by decide⟩
  refine gb (mkF m 19 #[vr a0, vr b2, vi 3] [(.ref x3), (.int 3), (.ref b2)]) (X31.aaload hx (j := (3 : Int32)) (v := (.ref x3)) (by rw [e31]; exact Ar35.1) (State.isArrayOf_alike hZ.alike Ar35.2.1) rfl Ar35.2.2 hin36 (Has.at Ha35 hin36 rfl) (g := (mkF m 18 #[vr a0, vr b2, vi 3] [(.int 3), (.ref a0), (.int 3), (.ref b2)])) rfl rfl (hb hby d35_18)) ?_
  have K38 := (K28.wr W31 (Or.inr sb2))
  have O39 := (O29.wr W31 gb2)
  obtain ⟨_, _, ⟨T37, L37, k37, n37⟩, -, X37, ⟨Lc37, hQ37, l37, y37, z37⟩, st37⟩ := callS X31 hx (y := mq32) hown (mvT hZ (hW hw 233 rfl)) (mvT hZ (hW hw 234 rfl)) (mvT hZ (hW hw 235 rfl)) (mvT hZ (hW hw 236 rfl)) (by decide) (backOf (W := 2) (rm36 l Z a0' hw [] x3 wa wb wc wd we ka kc G1 h31 n0 O39 W ) hZ (hW hw 236 rfl) (hW hw 235 rfl) (by decide) (by decide)) (g := (mkF m 19 #[vr a0, vr b2, vi 3] [(.ref x3), (.int 3), (.ref b2)])) rfl (by rw [hml]; rfl) (argsL := [(.ref x3)]) (rest := [(.int 3), (.ref b2)]) (lenOf pd311 rfl) rfl (Nat.le_of_eq rfl) (hb hby d35_19) (fun _ _ => ⟨rfl, e31, (by decide : 1 + 0 ≤ _), (by decide : 4 + 0 ≤ _)⟩)
  dsimp only [Pt.U, Pt.locs, Pt.cells, Pt.slots] at X37 l37 y37 z37 st37 hQ37
  subst l37 y37 z37
  obtain ⟨rfl, N37q, e37⟩ := hQ37
  have N37 := Fr.app N31 N37q
  refine gb (mkF m 22 #[vr a0, vr b2, vi 3] [(.ref x3), (.int 3), (.ref b2)]) st37 ?_
  obtain ⟨cl40, Ar40, qa40, Sa40, Na40, Ha40, Ga40⟩ := id V31
  have hin41 : ¬ ((3 : Int32) < 0 ∨ cl40.slots.size ≤ ((3 : Int32)).toNatClampNeg) := inb_of Sa40 ⟨by decide, by decide⟩
  have f42 := (Exa.wr W31 (Exa.wr W21 (Exa.wr W11 (Exa.ext E2 pf4))))
  obtain ⟨T41, h41, X41, e41, W41, st41⟩ := stR X37 hx hZ e37 Ar40 (j := (3 : Int32)) hin41 rfl (Sto.ofV Ar40 qa40 Ov2.1 (Ins.of_exa f42 (hW hw 189 rfl))) (g := (mkF m 22 #[vr a0, vr b2, vi 3] [(.ref x3), (.int 3), (.ref b2)])) rfl rfl (hb hby d35_22)
  have V41 : Arv Z h41 b2 k2 oT (4 : Int32) [(.ref x0), (.ref x1), (.ref x2), (.ref x3)] .null := Arv.set Ar40 qa40 Sa40 Na40 Ha40 Ga40 rfl W41 3 rfl (Nat.le_of_ble_eq_true rfl)
  have N41 := Fr.snoc X41 N37 gb2
  refine gb (mkF m 23 #[vr a0, vr b2, vi 3] []) st41 ?_
  refine gb (mkF m 26 #[vr a0, vr b2, vi 4] []) (fun _ k => XS.iinc X41.here hx rfl (hb hby d35_23) rfl (l' := #[vr a0, vr b2, vi 4]) rfl k) ?_
  refine gb (mkF m 8 #[vr a0, vr b2, vi 4] []) (fun _ k => XS.goto X41.here hx rfl (pc0 := 26) (pc' := 8) rfl (hb hby d35_26) (by decide) (by decide) k) ?_
  refine gb (mkF m 9 #[vr a0, vr b2, vi 4] [(.int 4)]) (fun _ k => XS.iloadN X41.here hx rfl (hb hby d35_8) rfl k) ?_
  refine gb (mkF m 10 #[vr a0, vr b2, vi 4] [(.ref a0), (.int 4)]) (fun _ k => XS.aloadN X41.here hx rfl (hb hby d35_9) rfl rfl k) ?_
  have f43 := (Arv.other f33 W41 ne2_0)
  obtain ⟨cl44, Ar44, qa44, Sa44, Na44, Ha44, Ga44⟩ := id f43
  refine gb (mkF m 11 #[vr a0, vr b2, vi 4] [(.int 4), (.int 4)]) (fun t k => X41.arraylength hx (by rw [e41]; exact Ar44.1) (State.isArrayOf_alike hZ.alike Ar44.2.1) (g := (mkF m 10 #[vr a0, vr b2, vi 4] [(.ref a0), (.int 4)])) rfl rfl (hb hby d35_10) t (by rw [len_of Sa44 Na44]; exact k)) ?_
  refine gb (mkF m 29 #[vr a0, vr b2, vi 4] []) (fun _ k => XS.icmpYes X41.here hx rfl (pc0 := 11) (pc' := 29) rfl (hb hby d35_11) rfl (flt (by decide : ¬ ((4 : Int32) < (4 : Int32)))).2.1 (by decide) (by decide) k) ?_
  have O46 := (O39.wr W41 gb2)
  have f47 := (Exa.wr W41 (Exa.wr W31 (Exa.wr W21 (Exa.wr W11 f12))))
  have f48 := (Exa.wr W41 (Exa.wr W31 (Exa.wr W21 f22)))
  have f49 := (Exa.wr W41 (Exa.wr W31 f32))
  have f50 := (Exa.wr W41 f42)
  have K51 := (K38.wr W41 (Or.inr sb2))
  obtain ⟨T45, h45, X45, e45, E45, A45, D45, -, st45⟩ := newO X41 hx hZ hown (hW hw 67 rfl) (hW hw 237 rfl) (hW hw 91 rfl) e41 (g := (mkF m 29 #[vr a0, vr b2, vi 4] [])) rfl (hb hby d35_29) (by decide) (by decide)
  obtain ⟨b45, g45⟩ : ∃ z, z = (h41).size := ⟨_, rfl⟩
  rw [← g45] at A45 D45 st45
  have gb45 : n0 ≤ b45 := Nat.le_trans (Nat.le_trans (Nat.le_of_eq O46.1.symm) O46.2.1) (Nat.le_of_eq g45.symm)
  have sb45 : h0.size ≤ b45 := Nat.le_trans K51.1 (Nat.le_of_eq g45.symm)
  have ne45_18 : a0 ≠ b45 := Nat.ne_of_lt (Nat.lt_of_lt_of_le f43.lt (Nat.le_of_eq g45.symm))
  have ne45_20 : x0 ≠ b45 := Nat.ne_of_lt (Nat.lt_of_lt_of_le f47.lt (Nat.le_of_eq g45.symm))
  have ne45_22 : x1 ≠ b45 := Nat.ne_of_lt (Nat.lt_of_lt_of_le f48.lt (Nat.le_of_eq g45.symm))
  have ne45_24 : x2 ≠ b45 := Nat.ne_of_lt (Nat.lt_of_lt_of_le f49.lt (Nat.le_of_eq g45.symm))
  have ne45_26 : x3 ≠ b45 := Nat.ne_of_lt (Nat.lt_of_lt_of_le f50.lt (Nat.le_of_eq g45.symm))
  have ne45_28 : wa ≠ b45 := Nat.ne_of_lt (Nat.lt_of_lt_of_le (Arv.ext W.2.1 O46.2).lt (Nat.le_of_eq g45.symm))
  have ne45_30 : wc ≠ b45 := Nat.ne_of_lt (Nat.lt_of_lt_of_le (Arv.ext W.2.2.2.2.2.1 O46.2).lt (Nat.le_of_eq g45.symm))
  have ne45_32 : wb ≠ b45 := Nat.ne_of_lt (Nat.lt_of_lt_of_le (Exa.ext O46.2 W.2.2.2.1).lt (Nat.le_of_eq g45.symm))
  have ne45_34 : wd ≠ b45 := Nat.ne_of_lt (Nat.lt_of_lt_of_le (Exa.ext O46.2 W.2.2.2.2.2.2.2.1).lt (Nat.le_of_eq g45.symm))
  have ne45_36 : b2 ≠ b45 := Nat.ne_of_lt (Nat.lt_of_lt_of_le V41.lt (Nat.le_of_eq g45.symm))
  have D45_elements : Fld Z h45 b45 sN "elements" sO .null := D45 (Or.inr (hW hw 94 rfl)) (ty := (.array oT)) (by decide)
  have D45_allowNulls : Fld Z h45 b45 sN "allowNulls" "Z" (.int 0) := D45 (Or.inr (hW hw 257 rfl)) (ty := .boolean) (by decide)
  refine gb (mkF m 32 #[vr a0, vr b2, vi 4] [(.ref b45)]) st45 ?_
  refine gb (mkF m 33 #[vr a0, vr b2, vi 4] [(.ref b45), (.ref b45)]) (fun _ k => XS.dup X45.here hx rfl (hb hby d35_32) rfl rfl k) ?_
  refine gb (mkF m 34 #[vr a0, vr b2, vi 4] [(.ref b2), (.ref b45), (.ref b45)]) (fun _ k => XS.aloadN X45.here hx rfl (hb hby d35_33) rfl rfl k) ?_
  refine gb (mkF m 35 #[vr a0, vr b2, vi 4] [(.int 0), (.ref b2), (.ref b45), (.ref b45)]) (fun _ k => XS.iconst X45.here hx rfl (hb hby d35_34) k) ?_
  have K53 := (K51.ext E45)
  have O54 := (O46.ext E45)
  obtain ⟨_, _, ⟨T52, L52, k52, n52⟩, -, X52, ⟨Lc52, hQ52, l52, y52, z52⟩, st52⟩ := X45.specialBackNest hx (y := mq35) rfl hown (Cond.methodLinkNest_wide hZ (hW hw 238 rfl)) (mvT hZ (hW hw 239 rfl)) (mvT hZ (hW hw 241 rfl)) (by decide) (backOf (W := 1) (rm37 l Z a0' hw [] b45 b2 wa wb wc wd we ka kc G1 h45 n0 O54 W A45 D45_elements D45_allowNulls gb45) hZ (hW hw 241 rfl) (hW hw 91 rfl) (by decide) (by decide)) (g := (mkF m 35 #[vr a0, vr b2, vi 4] [(.int 0), (.ref b2), (.ref b45), (.ref b45)])) rfl (by rw [hml]; rfl) (Steps.refl _) (a := b45) (argsL := [(.ref b2), (.int 0)]) (rest := [(.ref b45)]) (lenOf pd396 rfl) rfl (Nat.le_of_eq rfl) (hb hby d35_35) (fun _ _ => ⟨rfl, e45, (by decide : 2 + 0 ≤ _), (by decide : 6 + 0 ≤ _)⟩)
  dsimp only [Pt.U, Pt.locs, Pt.cells, Pt.slots] at X52 l52 y52 z52 st52 hQ52
  subst l52 y52 z52
  obtain ⟨rfl, N52q, Kc52, fc52_0⟩ := hQ52
  have N52 := Fr.app N41 N52q
  refine gb (mkF m 38 #[vr a0, vr b2, vi 4] [(.ref b45)]) (fun _ k => st52.trans k) ?_
  have K55 := (K53.trans Kc52 (allS (Or.inr sb45) all0))
  have f56 := (Exa.keep A45 Kc52)
  have f57 := (Arv.keep (Arv.ext V41 E45) Kc52 (ninS ne45_36 nin0))
  exact Gl.outA X52 hx hk Bd.returns rfl rfl (hb hby d35_38) ⟨b45, b2, k2, rfl, N52, K55, f56, fc52_0, f57⟩ (by decide) (by decide)
theorem ef344 (m : MethodId) (x0 : Addr) : entryFrame m #[(.ref x0)] 2 = mkF m 0 #[.val (.ref x0), .unset] [] := by first | (simp [entryFrame, mkF, argsToLocals, Value.category]; done) | rfl
def Q344 (Z : State) (a0 : Addr) (kk : ClassId) (x0 x1 x2 x3 : Addr) (wa wb wc wd we : Addr) (ka kc : ClassId) (G1 : Int32) (h0 : Heap) (n0 : Nat) (v : Option Value) (h : Heap) (L : List Loc) : Prop := ∃ (r : Addr), ∃ (ar : Addr), ∃ (kr : ClassId), v = some (.ref r) ∧ Fr n0 L ∧ Keep h0 h [] ∧ Exa Z h r sN ∧ Fld Z h r sN "elements" sO (.ref ar) ∧ Arv Z h ar kr oT (4 : Int32) [(.ref x0), (.ref x1), (.ref x2), (.ref x3)] .null
theorem rm344 (l : Launch) (Z : State) (a0' : Array Value) (hw : ∀ d ∈ tables_1, d.before a0' Z = true) (ws : List Jvm.Cond) (a0 : Addr) (kk : ClassId) (x0 x1 x2 x3 : Addr) (wa wb wc wd we : Addr) (ka kc : ClassId) (G1 : Int32) (h0 : Heap) (n0 : Nat) (O : Old Z n0 h0) (W : Wd Z wa wb wc wd we ka kc G1) (pf0 : Arv Z h0 a0 kk oT (4 : Int32) [(.ref x0), (.ref x1), (.ref x2), (.ref x3)] .null) (pf1 : Exa Z h0 x0 sI) (pf2 : Exa Z h0 x1 sI) (pf3 : Exa Z h0 x2 sI) (pf4 : Exa Z h0 x3 sI) :
    MetFree l mq42 (head1 (Jvm.Cond.code mq42 jdk_40_method_47_code 2 (some (.object "java/util/List")) :: ws) ({ frames := 6, cells := 2, slots := 6, locals := 77 } : Room)) (fun a U => a = #[(.ref a0)] ∧ Z.Warmed39 U.vm ∧ U.heap = h0) (fun _ _ _ _ _ => True) (fun _ U o U' => ∃ v L, o = .returned v ∧ Q344 Z a0 kk x0 x1 x2 x3 wa wb wc wd we ka kc G1 h0 n0 v U'.heap L ∧ FrameEnd U o U' L ({ frames := 6, cells := 2, slots := 6, locals := 77 } : Room).cells ({ frames := 6, cells := 2, slots := 6, locals := 77 } : Room).slots) := by
  refine MetFree.of_bodySF (plainFor_of_name pn10) hisR ?_
  intro p e s m args below meth c s₁ Bd hml0 hP hK
  obtain ⟨rfl, hZ, hh⟩ := hP
  have hx := Bd.exec
  have hby := Bd.bytes
  have hml : c.maxLocals = 2 := hml0
  have hown : s.vm.findClass "java/util/List" = some m.cls := findClass_of_methodNamed Bd.named
  have hnm := (name_of_methodNamed Bd.named Bd.method).1
  have hk := Bd.notSynchronized
  have X0 : Stand p l e ({ frames := 6, cells := 2, slots := 6, locals := 77 } : Room) s m #[(.ref a0)] below meth c s₁ [] 0 0 := Stand.of_body Bd
  have hh2 := hh
  have e0 : s₁.heap = h0 := by rw [← hh, Bd.state]; rfl
  have N0 := Fr.nil n0
  show Gl p e below (Pos 2 6 (Q344 Z a0 kk x0 x1 x2 x3 wa wb wc wd we ka kc G1 h0 n0) s) s₁ _
  refine Gl.cast (ef344 m a0) ?_
  refine gb (mkF m 1 #[vr a0, .unset] [(.ref a0)]) (fun _ k => XS.aloadN X0.here hx rfl (hb hby d34_0) rfl rfl k) ?_
  obtain ⟨cl1, Ar1, qa1, Sa1, Na1, Ha1, Ga1⟩ := id pf0
  refine gb (mkF m 2 #[vr a0, .unset] [(.int 4)]) (fun t k => X0.arraylength hx (by rw [e0]; exact Ar1.1) (State.isArrayOf_alike hZ.alike Ar1.2.1) (g := (mkF m 1 #[vr a0, .unset] [(.ref a0)])) rfl rfl (hb hby d34_1) t (by rw [len_of Sa1 Na1]; exact k)) ?_
  refine gb (mkF m 59 #[vr a0, .unset] []) (fun _ k => XS.tswOut (pc0 := 2) X0.here hx rfl rfl (hb hby d34_2) rfl (by decide) (by decide) rfl k) ?_
  refine gb (mkF m 60 #[vr a0, .unset] [(.ref a0)]) (fun _ k => XS.aloadN X0.here hx rfl (hb hby d34_59) rfl rfl k) ?_
  obtain ⟨_, _, ⟨T2, L2, k2, n2⟩, -, X2, ⟨Lc2, hQ2, l2, y2, z2⟩, st2⟩ := callS X0 hx (y := mq44) hown (mvT hZ (hW hw 229 rfl)) (mvT hZ (hW hw 230 rfl)) (mvT hZ (hW hw 60 rfl)) (mvT hZ (hW hw 231 rfl)) (by decide) (backOf (W := 0) (rm354 l Z a0' hw [] a0 kk x0 x1 x2 x3 wa wb wc wd we ka kc G1 h0 n0 O W pf0 pf1 pf2 pf3 pf4) hZ (hW hw 231 rfl) (hW hw 60 rfl) (by decide) (by decide)) (g := (mkF m 60 #[vr a0, .unset] [(.ref a0)])) rfl (by rw [hml]; rfl) (argsL := [(.ref a0)]) (rest := []) (lenOf pd359 rfl) rfl (Nat.le_of_eq rfl) (hb hby d34_60) (fun _ _ => ⟨rfl, e0, (by decide : 0 + 2 ≤ _), (by decide : 0 + 6 ≤ _)⟩)
  dsimp only [Pt.U, Pt.locs, Pt.cells, Pt.slots] at X2 l2 y2 z2 st2 hQ2
  subst l2 y2 z2
  obtain ⟨r_2, ar_2, kr_2, rfl, N2q, Kc2, fc2_0, fc2_1, fc2_2⟩ := hQ2
  have N2 := Fr.app N0 N2q
  refine gb (mkF m 63 #[vr a0, .unset] [(.ref r_2)]) st2 ?_
  have K3 := ((Keep.refl h0 []).trans Kc2 all0)
  exact Gl.outA X2 hx hk Bd.returns rfl rfl (hb hby d34_63) ⟨r_2, ar_2, kr_2, rfl, N2, K3, fc2_0, fc2_1, fc2_2⟩ (by decide) (by decide)
theorem ef104 (m : MethodId) (x0 : Addr) : entryFrame m #[(.ref x0)] 2 = mkF m 0 #[.val (.ref x0), .unset] [] := by first | (simp [entryFrame, mkF, argsToLocals, Value.category]; done) | rfl
def Q104 (Z : State) (a0 : Addr) (ea : Addr) (kk : ClassId) (x0 x1 x2 x3 : Addr) (wa wb wc wd we : Addr) (ka kc : ClassId) (G1 : Int32) (h0 : Heap) (n0 : Nat) (v : Option Value) (h : Heap) (L : List Loc) : Prop := ∃ (r : Addr), ∃ (ar : Addr), ∃ (kr : ClassId), v = some (.ref r) ∧ Fr n0 L ∧ Keep h0 h [] ∧ Exa Z h r sN ∧ Fld Z h r sN "elements" sO (.ref ar) ∧ Arv Z h ar kr oT (4 : Int32) [(.ref x0), (.ref x1), (.ref x2), (.ref x3)] .null
theorem rm104 (l : Launch) (Z : State) (a0' : Array Value) (hw : ∀ d ∈ tables_1, d.before a0' Z = true) (ws : List Jvm.Cond) (a0 : Addr) (ea : Addr) (kk : ClassId) (x0 x1 x2 x3 : Addr) (wa wb wc wd we : Addr) (ka kc : ClassId) (G1 : Int32) (h0 : Heap) (n0 : Nat) (O : Old Z n0 h0) (W : Wd Z wa wb wc wd we ka kc G1) (pf0 : Exa Z h0 a0 sA) (pf1 : Fld Z h0 a0 sA "elementData" sO (.ref ea)) (pf2 : Fld Z h0 a0 sA "size" "I" (.int 4)) (pf3 : Exa Z h0 ea sO) (pf4 : Arv Z h0 ea kk oT (10 : Int32) [(.ref x0), (.ref x1), (.ref x2), (.ref x3), .null, .null, .null, .null, .null, .null] .null) (pf5 : Exa Z h0 x0 sI) (pf6 : Exa Z h0 x1 sI) (pf7 : Exa Z h0 x2 sI) (pf8 : Exa Z h0 x3 sI) :
    MetFree l mq38 (head1 (Jvm.Cond.code mq38 jdk_56_method_3_code 2 (some (.object "java/util/List")) :: ws) ({ frames := 7, cells := 3, slots := 10, locals := 90 } : Room)) (fun a U => a = #[(.ref a0)] ∧ Z.Warmed39 U.vm ∧ U.heap = h0) (fun _ _ _ _ _ => True) (fun _ U o U' => ∃ v L, o = .returned v ∧ Q104 Z a0 ea kk x0 x1 x2 x3 wa wb wc wd we ka kc G1 h0 n0 v U'.heap L ∧ FrameEnd U o U' L ({ frames := 7, cells := 3, slots := 10, locals := 90 } : Room).cells ({ frames := 7, cells := 3, slots := 10, locals := 90 } : Room).slots) := by
  refine MetFree.of_bodySF (plainFor_of_name pn16) hisR ?_
  intro p e s m args below meth c s₁ Bd hml0 hP hK
  obtain ⟨rfl, hZ, hh⟩ := hP
  have hx := Bd.exec
  have hby := Bd.bytes
  have hml : c.maxLocals = 2 := hml0
  have hown : s.vm.findClass "java/util/ImmutableCollections" = some m.cls := findClass_of_methodNamed Bd.named
  have hnm := (name_of_methodNamed Bd.named Bd.method).1
  have hk := Bd.notSynchronized
  have X0 : Stand p l e ({ frames := 7, cells := 3, slots := 10, locals := 90 } : Room) s m #[(.ref a0)] below meth c s₁ [] 0 0 := Stand.of_body Bd
  have hh2 := hh
  have e0 : s₁.heap = h0 := by rw [← hh, Bd.state]; rfl
  have N0 := Fr.nil n0
  show Gl p e below (Pos 3 10 (Q104 Z a0 ea kk x0 x1 x2 x3 wa wb wc wd we ka kc G1 h0 n0) s) s₁ _
  refine Gl.cast (ef104 m a0) ?_
  refine gb (mkF m 1 #[vr a0, .unset] [(.ref a0)]) (fun _ k => XS.aloadN X0.here hx rfl (hb hby d10_0) rfl rfl k) ?_
  obtain ⟨T1, X1, e1, st1⟩ := instNo X0 hx hZ hown (hW hw 62 rfl) e0 pf0 (ns_no (hW hw 63 rfl) (hW hw 259 rfl) (NS.step (hW hw 63 rfl) (NS.step (hW hw 64 rfl) (NS.step (hW hw 65 rfl) (ns_root (hW hw 66 rfl) (hW hw 259 rfl) (by decide)) (by decide)) (by decide)) (by decide)) (by decide)) (g := (mkF m 1 #[vr a0, .unset] [(.ref a0)])) rfl rfl (hb hby d10_1)
  refine gb (mkF m 4 #[vr a0, .unset] [(.int 0)]) st1 ?_
  refine gb (mkF m 7 #[vr a0, .unset] []) (fun _ k => XS.ifNo X1.here hx rfl (hb hby d10_4) rfl ((if0 _ _).trans (teq (by decide : (0 : Int32) = (0 : Int32))).2) k) ?_
  refine gb (mkF m 8 #[vr a0, .unset] [(.ref a0)]) (fun _ k => XS.aloadN X1.here hx rfl (hb hby d10_7) rfl rfl k) ?_
  obtain ⟨T2, X2, e2, st2⟩ := instNo X1 hx hZ hown (hW hw 67 rfl) e1 pf0 (ns_no (hW hw 63 rfl) (hW hw 237 rfl) (NS.step (hW hw 63 rfl) (NS.step (hW hw 64 rfl) (NS.step (hW hw 65 rfl) (ns_root (hW hw 66 rfl) (hW hw 237 rfl) (by decide)) (by decide)) (by decide)) (by decide)) (by decide)) (g := (mkF m 8 #[vr a0, .unset] [(.ref a0)])) rfl rfl (hb hby d10_8)
  refine gb (mkF m 11 #[vr a0, .unset] [(.int 0)]) st2 ?_
  refine gb (mkF m 31 #[vr a0, .unset] []) (fun _ k => XS.ifYes X2.here hx rfl (pc0 := 11) (pc' := 31) rfl (hb hby d10_11) rfl ((if0 _ _).trans (teq (by decide : (0 : Int32) = (0 : Int32))).1) (by decide) (by decide) k) ?_
  refine gb (mkF m 32 #[vr a0, .unset] [(.ref a0)]) (fun _ k => XS.aloadN X2.here hx rfl (hb hby d10_31) rfl rfl k) ?_
  obtain ⟨cq3, kq3, q3a, q3b, q3c⟩ := isOf hZ e2 pf0
  obtain ⟨_, _, ⟨T3, L3, k3, n3⟩, -, X3, ⟨Lc3, hQ3, l3, y3, z3⟩, st3⟩ := X2.interfaceBack hx (xi := mq39) (y := mq28) hown (mvT hZ (hW hw 68 rfl)) (mvT hZ (hW hw 69 rfl)) (mvT hZ (hW hw 70 rfl)) (mvT hZ (hW hw 71 rfl)) (mvT hZ (hW hw 72 rfl)) (mvT hZ (hW hw 73 rfl)) (mvT hZ (hW hw 74 rfl)) (mvT hZ (hW hw 75 rfl)) (by decide) (backOf (W := 0) (rm11s l Z a0' hw [] a0 (4 : Int32) wa wb wc wd we ka kc G1 h0 n0 O W pf0 pf2 (by decide)) hZ (hW hw 76 rfl) (hW hw 11 rfl) (by decide) (by decide)) q3a q3b q3c (g := (mkF m 32 #[vr a0, .unset] [(.ref a0)])) rfl (by rw [hml]; rfl) (Steps.refl _) (argsL := []) (rest := []) (lenOf pd334 rfl) rfl (Nat.le_of_eq rfl) (hb hby d10_32) (fun _ _ => ⟨rfl, e2, (by decide : 0 + 0 ≤ _), (by decide : 0 + 0 ≤ _)⟩)
  dsimp only [Pt.U, Pt.locs, Pt.cells, Pt.slots] at X3 l3 y3 z3 st3 hQ3
  subst l3 y3 z3
  obtain ⟨rfl, N3q, e3⟩ := hQ3
  have N3 := Fr.app N0 N3q
  refine gb (mkF m 37 #[vr a0, .unset] [(.int 0)]) (fun _ k => st3.trans k) ?_
  refine gb (mkF m 44 #[vr a0, .unset] []) (fun _ k => XS.ifYes X3.here hx rfl (pc0 := 37) (pc' := 44) rfl (hb hby d10_37) rfl ((if0 _ _).trans (teq (by decide : (0 : Int32) = (0 : Int32))).1) (by decide) (by decide) k) ?_
  refine gb (mkF m 45 #[vr a0, .unset] [(.ref a0)]) (fun _ k => XS.aloadN X3.here hx rfl (hb hby d10_44) rfl rfl k) ?_
  obtain ⟨cq4, kq4, q4a, q4b, q4c⟩ := isOf hZ e3 pf0
  obtain ⟨_, _, ⟨T4, L4, k4, n4⟩, -, X4, ⟨Lc4, hQ4, l4, y4, z4⟩, st4⟩ := X3.interfaceBack hx (xi := mq43) (y := mq21) hown (mvT hZ (hW hw 196 rfl)) (mvT hZ (hW hw 197 rfl)) (mvT hZ (hW hw 198 rfl)) (mvT hZ (hW hw 199 rfl)) (mvT hZ (hW hw 200 rfl)) (mvT hZ (hW hw 201 rfl)) (mvT hZ (hW hw 202 rfl)) (mvT hZ (hW hw 75 rfl)) (by decide) (backOf (W := 0) (rm304 l Z a0' hw [] a0 ea kk x0 x1 x2 x3 wa wb wc wd we ka kc G1 h0 n0 O W pf0 pf1 pf2 pf3 pf4 pf5 pf6 pf7 pf8) hZ (hW hw 203 rfl) (hW hw 11 rfl) (by decide) (by decide)) q4a q4b q4c (g := (mkF m 45 #[vr a0, .unset] [(.ref a0)])) rfl (by rw [hml]; rfl) (Steps.refl _) (argsL := []) (rest := []) (lenOf pd50 rfl) rfl (Nat.le_of_eq rfl) (hb hby d10_45) (fun _ _ => ⟨rfl, e3, (by decide : 0 + 1 ≤ _), (by decide : 0 + 4 ≤ _)⟩)
  dsimp only [Pt.U, Pt.locs, Pt.cells, Pt.slots] at X4 l4 y4 z4 st4 hQ4
  subst l4 y4 z4
  obtain ⟨r_4, kr_4, rfl, N4q, Kc4, fc4_0, fc4_1⟩ := hQ4
  have N4 := Fr.app N3 N4q
  refine gb (mkF m 50 #[vr a0, .unset] [(.ref r_4)]) (fun _ k => st4.trans k) ?_
  have K6 := ((Keep.refl h0 []).trans Kc4 all0)
  have f7 := (Exa.keep pf5 Kc4)
  have f8 := (Exa.keep pf6 Kc4)
  have f9 := (Exa.keep pf7 Kc4)
  have f10 := (Exa.keep pf8 Kc4)
  have O11 := (O.keep Kc4 all0)
  obtain ⟨_, _, ⟨T5, L5, k5, n5⟩, -, X5, ⟨Lc5, hQ5, l5, y5, z5⟩, st5⟩ := callS X4 hx (y := mq42) hown (mvT hZ (hW hw 226 rfl)) (mvT hZ (hW hw 227 rfl)) (mvT hZ (hW hw 56 rfl)) (mvT hZ (hW hw 228 rfl)) (by decide) (backOf (W := 0) (rm344 l Z a0' hw [] r_4 kr_4 x0 x1 x2 x3 wa wb wc wd we ka kc G1 T4.heap n0 O11 W fc4_0 f7 f8 f9 f10) hZ (hW hw 228 rfl) (hW hw 56 rfl) (by decide) (by decide)) (g := (mkF m 50 #[vr a0, .unset] [(.ref r_4)])) rfl (by rw [hml]; rfl) (argsL := [(.ref r_4)]) (rest := []) (lenOf pd359 rfl) rfl (Nat.le_of_eq rfl) (hb hby d10_50) (fun _ _ => ⟨rfl, rfl, (by decide : 1 + 2 ≤ _), (by decide : 4 + 6 ≤ _)⟩)
  dsimp only [Pt.U, Pt.locs, Pt.cells, Pt.slots] at X5 l5 y5 z5 st5 hQ5
  subst l5 y5 z5
  obtain ⟨r_5, ar_5, kr_5, rfl, N5q, Kc5, fc5_0, fc5_1, fc5_2⟩ := hQ5
  have N5 := Fr.app N4 N5q
  refine gb (mkF m 53 #[vr a0, .unset] [(.ref r_5)]) st5 ?_
  have K12 := (K6.trans Kc5 all0)
  exact Gl.outA X5 hx hk Bd.returns rfl rfl (hb hby d10_53) ⟨r_5, ar_5, kr_5, rfl, N5, K12, fc5_0, fc5_1, fc5_2⟩ (by decide) (by decide)
theorem ef94 (m : MethodId) (x0 : Addr) : entryFrame m #[(.ref x0)] 1 = mkF m 0 #[.val (.ref x0)] [] := by first | (simp [entryFrame, mkF, argsToLocals, Value.category]; done) | rfl
def Q94 (Z : State) (a0 : Addr) (ea : Addr) (kk : ClassId) (x0 x1 x2 x3 : Addr) (wa wb wc wd we : Addr) (ka kc : ClassId) (G1 : Int32) (h0 : Heap) (n0 : Nat) (v : Option Value) (h : Heap) (L : List Loc) : Prop := ∃ (r : Addr), ∃ (ar : Addr), ∃ (kr : ClassId), v = some (.ref r) ∧ Fr n0 L ∧ Keep h0 h [] ∧ Exa Z h r sN ∧ Fld Z h r sN "elements" sO (.ref ar) ∧ Arv Z h ar kr oT (4 : Int32) [(.ref x0), (.ref x1), (.ref x2), (.ref x3)] .null
theorem rm94 (l : Launch) (Z : State) (a0' : Array Value) (hw : ∀ d ∈ tables_1, d.before a0' Z = true) (ws : List Jvm.Cond) (a0 : Addr) (ea : Addr) (kk : ClassId) (x0 x1 x2 x3 : Addr) (wa wb wc wd we : Addr) (ka kc : ClassId) (G1 : Int32) (h0 : Heap) (n0 : Nat) (O : Old Z n0 h0) (W : Wd Z wa wb wc wd we ka kc G1) (pf0 : Exa Z h0 a0 sA) (pf1 : Fld Z h0 a0 sA "elementData" sO (.ref ea)) (pf2 : Fld Z h0 a0 sA "size" "I" (.int 4)) (pf3 : Exa Z h0 ea sO) (pf4 : Arv Z h0 ea kk oT (10 : Int32) [(.ref x0), (.ref x1), (.ref x2), (.ref x3), .null, .null, .null, .null, .null, .null] .null) (pf5 : Exa Z h0 x0 sI) (pf6 : Exa Z h0 x1 sI) (pf7 : Exa Z h0 x2 sI) (pf8 : Exa Z h0 x3 sI) :
    MetFree l mq40 (head1 (Jvm.Cond.code mq40 jdk_40_method_48_code 1 (some (.object "java/util/List")) :: ws) ({ frames := 8, cells := 3, slots := 10, locals := 103 } : Room)) (fun a U => a = #[(.ref a0)] ∧ Z.Warmed39 U.vm ∧ U.heap = h0) (fun _ _ _ _ _ => True) (fun _ U o U' => ∃ v L, o = .returned v ∧ Q94 Z a0 ea kk x0 x1 x2 x3 wa wb wc wd we ka kc G1 h0 n0 v U'.heap L ∧ FrameEnd U o U' L ({ frames := 8, cells := 3, slots := 10, locals := 103 } : Room).cells ({ frames := 8, cells := 3, slots := 10, locals := 103 } : Room).slots) := by
  refine MetFree.of_bodySF (plainFor_of_name pn10) hisR ?_
  intro p e s m args below meth c s₁ Bd hml0 hP hK
  obtain ⟨rfl, hZ, hh⟩ := hP
  have hx := Bd.exec
  have hby := Bd.bytes
  have hml : c.maxLocals = 1 := hml0
  have hown : s.vm.findClass "java/util/List" = some m.cls := findClass_of_methodNamed Bd.named
  have hnm := (name_of_methodNamed Bd.named Bd.method).1
  have hk := Bd.notSynchronized
  have X0 : Stand p l e ({ frames := 8, cells := 3, slots := 10, locals := 103 } : Room) s m #[(.ref a0)] below meth c s₁ [] 0 0 := Stand.of_body Bd
  have hh2 := hh
  have e0 : s₁.heap = h0 := by rw [← hh, Bd.state]; rfl
  have N0 := Fr.nil n0
  show Gl p e below (Pos 3 10 (Q94 Z a0 ea kk x0 x1 x2 x3 wa wb wc wd we ka kc G1 h0 n0) s) s₁ _
  refine Gl.cast (ef94 m a0) ?_
  refine gb (mkF m 1 #[vr a0] [(.ref a0)]) (fun _ k => XS.aloadN X0.here hx rfl (hb hby d9_0) rfl rfl k) ?_
  obtain ⟨_, _, ⟨T1, L1, k1, n1⟩, -, X1, ⟨Lc1, hQ1, l1, y1, z1⟩, st1⟩ := callS X0 hx (y := mq38) hown (mvT hZ (hW hw 58 rfl)) (mvT hZ (hW hw 59 rfl)) (mvT hZ (hW hw 60 rfl)) (mvT hZ (hW hw 61 rfl)) (by decide) (backOf (W := 0) (rm104 l Z a0' hw [] a0 ea kk x0 x1 x2 x3 wa wb wc wd we ka kc G1 h0 n0 O W pf0 pf1 pf2 pf3 pf4 pf5 pf6 pf7 pf8) hZ (hW hw 61 rfl) (hW hw 60 rfl) (by decide) (by decide)) (g := (mkF m 1 #[vr a0] [(.ref a0)])) rfl (by rw [hml]; rfl) (argsL := [(.ref a0)]) (rest := []) (lenOf pd339 rfl) rfl (Nat.le_of_eq rfl) (hb hby d9_1) (fun _ _ => ⟨rfl, e0, (by decide : 0 + 3 ≤ _), (by decide : 0 + 10 ≤ _)⟩)
  dsimp only [Pt.U, Pt.locs, Pt.cells, Pt.slots] at X1 l1 y1 z1 st1 hQ1
  subst l1 y1 z1
  obtain ⟨r_1, ar_1, kr_1, rfl, N1q, Kc1, fc1_0, fc1_1, fc1_2⟩ := hQ1
  have N1 := Fr.app N0 N1q
  refine gb (mkF m 4 #[vr a0] [(.ref r_1)]) st1 ?_
  have K2 := ((Keep.refl h0 []).trans Kc1 all0)
  exact Gl.outA X1 hx hk Bd.returns rfl rfl (hb hby d9_4) ⟨r_1, ar_1, kr_1, rfl, N1, K2, fc1_0, fc1_1, fc1_2⟩ (by decide) (by decide)
theorem ef84 (m : MethodId) (x0 : Addr) : entryFrame m #[(.ref x0)] 1 = mkF m 0 #[.val (.ref x0)] [] := by first | (simp [entryFrame, mkF, argsToLocals, Value.category]; done) | rfl
def Q84 (Z : State) (a0 : Addr) (la : Addr) (ea : Addr) (kk : ClassId) (x0 x1 x2 x3 : Addr) (wa wb wc wd we : Addr) (ka kc : ClassId) (G1 : Int32) (h0 : Heap) (n0 : Nat) (v : Option Value) (h : Heap) (L : List Loc) : Prop := ∃ (r : Addr), ∃ (ar : Addr), ∃ (kr : ClassId), v = some (.ref r) ∧ Fr n0 L ∧ Keep h0 h [] ∧ Exa Z h r sN ∧ Fld Z h r sN "elements" sO (.ref ar) ∧ Arv Z h ar kr oT (4 : Int32) [(.ref x0), (.ref x1), (.ref x2), (.ref x3)] .null
theorem rm84 (l : Launch) (Z : State) (a0' : Array Value) (hw : ∀ d ∈ tables_1, d.before a0' Z = true) (ws : List Jvm.Cond) (a0 : Addr) (la : Addr) (ea : Addr) (kk : ClassId) (x0 x1 x2 x3 : Addr) (wa wb wc wd we : Addr) (ka kc : ClassId) (G1 : Int32) (h0 : Heap) (n0 : Nat) (O : Old Z n0 h0) (W : Wd Z wa wb wc wd we ka kc G1) (pf0 : Exa Z h0 a0 sF) (pf1 : Fld Z h0 a0 sF "found" "I" (.int 4)) (pf2 : Fld Z h0 a0 sF "params" "Ljava/util/List;" (.ref la)) (pf3 : Exa Z h0 la sA) (pf4 : Fld Z h0 la sA "elementData" sO (.ref ea)) (pf5 : Fld Z h0 la sA "size" "I" (.int 4)) (pf6 : Exa Z h0 ea sO) (pf7 : Arv Z h0 ea kk oT (10 : Int32) [(.ref x0), (.ref x1), (.ref x2), (.ref x3), .null, .null, .null, .null, .null, .null] .null) (pf8 : Exa Z h0 x0 sI) (pf9 : Exa Z h0 x1 sI) (pf10 : Exa Z h0 x2 sI) (pf11 : Exa Z h0 x3 sI) :
    MetFree l mq41 (head1 (Jvm.Cond.code mq41 prog_17_method_8_code 1 (some (.object "java/util/List")) :: ws) ({ frames := 9, cells := 3, slots := 10, locals := 115 } : Room)) (fun a U => a = #[(.ref a0)] ∧ Z.Warmed39 U.vm ∧ U.heap = h0) (fun _ _ _ _ _ => True) (fun _ U o U' => ∃ v L, o = .returned v ∧ Q84 Z a0 la ea kk x0 x1 x2 x3 wa wb wc wd we ka kc G1 h0 n0 v U'.heap L ∧ FrameEnd U o U' L ({ frames := 9, cells := 3, slots := 10, locals := 115 } : Room).cells ({ frames := 9, cells := 3, slots := 10, locals := 115 } : Room).slots) := by
  refine MetFree.of_bodySF (plainFor_of_name pn3) hisR ?_
  intro p e s m args below meth c s₁ Bd hml0 hP hK
  obtain ⟨rfl, hZ, hh⟩ := hP
  have hx := Bd.exec
  have hby := Bd.bytes
  have hml : c.maxLocals = 1 := hml0
  have hown : s.vm.findClass sF = some m.cls := findClass_of_methodNamed Bd.named
  have hnm := (name_of_methodNamed Bd.named Bd.method).1
  have hk := Bd.notSynchronized
  have X0 : Stand p l e ({ frames := 9, cells := 3, slots := 10, locals := 115 } : Room) s m #[(.ref a0)] below meth c s₁ [] 0 0 := Stand.of_body Bd
  have hh2 := hh
  have e0 : s₁.heap = h0 := by rw [← hh, Bd.state]; rfl
  have N0 := Fr.nil n0
  show Gl p e below (Pos 3 10 (Q84 Z a0 la ea kk x0 x1 x2 x3 wa wb wc wd we ka kc G1 h0 n0) s) s₁ _
  refine Gl.cast (ef84 m a0) ?_
  refine gb (mkF m 1 #[vr a0] [(.ref a0)]) (fun _ k => XS.aloadN X0.here hx rfl (hb hby d8_0) rfl rfl k) ?_
  obtain ⟨T1, X1, e1, st1⟩ := getF X0 hx hZ hown (host := "") (Or.inl (hW hw 33 rfl)) Via.refl e0 pf2 (g := (mkF m 1 #[vr a0] [(.ref a0)])) rfl rfl (hb hby d8_1)
  refine gb (mkF m 4 #[vr a0] [(.ref la)]) st1 ?_
  obtain ⟨_, _, ⟨T2, L2, k2, n2⟩, -, X2, ⟨Lc2, hQ2, l2, y2, z2⟩, st2⟩ := callS X1 hx (y := mq40) hown (mvT hZ (hW hw 54 rfl)) (mvT hZ (hW hw 55 rfl)) (mvT hZ (hW hw 56 rfl)) (mvT hZ (hW hw 57 rfl)) (by decide) (backOf (W := 0) (rm94 l Z a0' hw [] la ea kk x0 x1 x2 x3 wa wb wc wd we ka kc G1 h0 n0 O W pf3 pf4 pf5 pf6 pf7 pf8 pf9 pf10 pf11) hZ (hW hw 57 rfl) (hW hw 56 rfl) (by decide) (by decide)) (g := (mkF m 4 #[vr a0] [(.ref la)])) rfl (by rw [hml]; rfl) (argsL := [(.ref la)]) (rest := []) (lenOf pd339 rfl) rfl (Nat.le_of_eq rfl) (hb hby d8_4) (fun _ _ => ⟨rfl, e1, (by decide : 0 + 3 ≤ _), (by decide : 0 + 10 ≤ _)⟩)
  dsimp only [Pt.U, Pt.locs, Pt.cells, Pt.slots] at X2 l2 y2 z2 st2 hQ2
  subst l2 y2 z2
  obtain ⟨r_2, ar_2, kr_2, rfl, N2q, Kc2, fc2_0, fc2_1, fc2_2⟩ := hQ2
  have N2 := Fr.app N0 N2q
  refine gb (mkF m 7 #[vr a0] [(.ref r_2)]) st2 ?_
  have K3 := ((Keep.refl h0 []).trans Kc2 all0)
  exact Gl.outA X2 hx hk Bd.returns rfl rfl (hb hby d8_7) ⟨r_2, ar_2, kr_2, rfl, N2, K3, fc2_0, fc2_1, fc2_2⟩ (by decide) (by decide)
theorem ef355 (m : MethodId) (x0 : Addr) : entryFrame m #[(.ref x0)] 3 = mkF m 0 #[.val (.ref x0), .unset, .unset] [] := by first | (simp [entryFrame, mkF, argsToLocals, Value.category]; done) | rfl
def Q355 (Z : State) (a0 : Addr) (kk : ClassId) (x0 x1 x2 x3 x4 : Addr) (wa wb wc wd we : Addr) (ka kc : ClassId) (G1 : Int32) (h0 : Heap) (n0 : Nat) (v : Option Value) (h : Heap) (L : List Loc) : Prop := ∃ (r : Addr), ∃ (ar : Addr), ∃ (kr : ClassId), v = some (.ref r) ∧ Fr n0 L ∧ Keep h0 h [] ∧ Exa Z h r sN ∧ Fld Z h r sN "elements" sO (.ref ar) ∧ Arv Z h ar kr oT (5 : Int32) [(.ref x0), (.ref x1), (.ref x2), (.ref x3), (.ref x4)] .null
theorem rm355 (l : Launch) (Z : State) (a0' : Array Value) (hw : ∀ d ∈ tables_1, d.before a0' Z = true) (ws : List Jvm.Cond) (a0 : Addr) (kk : ClassId) (x0 x1 x2 x3 x4 : Addr) (wa wb wc wd we : Addr) (ka kc : ClassId) (G1 : Int32) (h0 : Heap) (n0 : Nat) (O : Old Z n0 h0) (W : Wd Z wa wb wc wd we ka kc G1) (pf0 : Arv Z h0 a0 kk oT (5 : Int32) [(.ref x0), (.ref x1), (.ref x2), (.ref x3), (.ref x4)] .null) (pf1 : Exa Z h0 x0 sI) (pf2 : Exa Z h0 x1 sI) (pf3 : Exa Z h0 x2 sI) (pf4 : Exa Z h0 x3 sI) (pf5 : Exa Z h0 x4 sI) :
    MetFree l mq44 (head1 (Jvm.Cond.code mq44 jdk_56_method_4_code 3 (some (.object "java/util/List")) :: ws) ({ frames := 5, cells := 2, slots := 7, locals := 63 } : Room)) (fun a U => a = #[(.ref a0)] ∧ Z.Warmed39 U.vm ∧ U.heap = h0) (fun _ _ _ _ _ => True) (fun _ U o U' => ∃ v L, o = .returned v ∧ Q355 Z a0 kk x0 x1 x2 x3 x4 wa wb wc wd we ka kc G1 h0 n0 v U'.heap L ∧ FrameEnd U o U' L ({ frames := 5, cells := 2, slots := 7, locals := 63 } : Room).cells ({ frames := 5, cells := 2, slots := 7, locals := 63 } : Room).slots) := by
  refine MetFree.of_bodySF (plainFor_of_name pn16) hisR ?_
  intro p e s m args below meth c s₁ Bd hml0 hP hK
  obtain ⟨rfl, hZ, hh⟩ := hP
  have hx := Bd.exec
  have hby := Bd.bytes
  have hml : c.maxLocals = 3 := hml0
  have hown : s.vm.findClass "java/util/ImmutableCollections" = some m.cls := findClass_of_methodNamed Bd.named
  have hnm := (name_of_methodNamed Bd.named Bd.method).1
  have hk := Bd.notSynchronized
  have X0 : Stand p l e ({ frames := 5, cells := 2, slots := 7, locals := 63 } : Room) s m #[(.ref a0)] below meth c s₁ [] 0 0 := Stand.of_body Bd
  have hh2 := hh
  have e0 : s₁.heap = h0 := by rw [← hh, Bd.state]; rfl
  have N0 := Fr.nil n0
  show Gl p e below (Pos 2 7 (Q355 Z a0 kk x0 x1 x2 x3 x4 wa wb wc wd we ka kc G1 h0 n0) s) s₁ _
  refine Gl.cast (ef355 m a0) ?_
  refine gb (mkF m 1 #[vr a0, .unset, .unset] [(.ref a0)]) (fun _ k => XS.aloadN X0.here hx rfl (hb hby d35_0) rfl rfl k) ?_
  obtain ⟨cl1, Ar1, qa1, Sa1, Na1, Ha1, Ga1⟩ := id pf0
  refine gb (mkF m 2 #[vr a0, .unset, .unset] [(.int 5)]) (fun t k => X0.arraylength hx (by rw [e0]; exact Ar1.1) (State.isArrayOf_alike hZ.alike Ar1.2.1) (g := (mkF m 1 #[vr a0, .unset, .unset] [(.ref a0)])) rfl rfl (hb hby d35_1) t (by rw [len_of Sa1 Na1]; exact k)) ?_
  obtain ⟨T2, h2, k2, X2, e2, E2, A2, Ov2, st2⟩ := newRX X0 hx hZ hown (hW hw 232 rfl) (hW hw 188 rfl) rfl e0 (g := (mkF m 2 #[vr a0, .unset, .unset] [(.int 5)])) rfl (hb hby d35_2) rfl (by decide) (cap := 5) (by decide) (by decide) (by decide) (by decide)
  obtain ⟨b2, g2⟩ : ∃ z, z = (h0).size := ⟨_, rfl⟩
  rw [← g2] at A2 st2
  have gb2 : n0 ≤ b2 := Nat.le_trans (Nat.le_trans (Nat.le_of_eq O.1.symm) O.2.1) (Nat.le_of_eq g2.symm)
  have sb2 : h0.size ≤ b2 := Nat.le_trans (Keep.refl h0 []).1 (Nat.le_of_eq g2.symm)
  have ne2_0 : a0 ≠ b2 := Nat.ne_of_lt (Nat.lt_of_lt_of_le pf0.lt (Nat.le_of_eq g2.symm))
  have ne2_2 : x0 ≠ b2 := Nat.ne_of_lt (Nat.lt_of_lt_of_le pf1.lt (Nat.le_of_eq g2.symm))
  have ne2_4 : x1 ≠ b2 := Nat.ne_of_lt (Nat.lt_of_lt_of_le pf2.lt (Nat.le_of_eq g2.symm))
  have ne2_6 : x2 ≠ b2 := Nat.ne_of_lt (Nat.lt_of_lt_of_le pf3.lt (Nat.le_of_eq g2.symm))
  have ne2_8 : x3 ≠ b2 := Nat.ne_of_lt (Nat.lt_of_lt_of_le pf4.lt (Nat.le_of_eq g2.symm))
  have ne2_10 : x4 ≠ b2 := Nat.ne_of_lt (Nat.lt_of_lt_of_le pf5.lt (Nat.le_of_eq g2.symm))
  have ne2_12 : wa ≠ b2 := Nat.ne_of_lt (Nat.lt_of_lt_of_le (Arv.ext W.2.1 O.2).lt (Nat.le_of_eq g2.symm))
  have ne2_14 : wc ≠ b2 := Nat.ne_of_lt (Nat.lt_of_lt_of_le (Arv.ext W.2.2.2.2.2.1 O.2).lt (Nat.le_of_eq g2.symm))
  have ne2_16 : wb ≠ b2 := Nat.ne_of_lt (Nat.lt_of_lt_of_le (Exa.ext O.2 W.2.2.2.1).lt (Nat.le_of_eq g2.symm))
  have ne2_18 : wd ≠ b2 := Nat.ne_of_lt (Nat.lt_of_lt_of_le (Exa.ext O.2 W.2.2.2.2.2.2.2.1).lt (Nat.le_of_eq g2.symm))
  have V2 : Arv Z h2 b2 k2 oT (5 : Int32) [.null, .null, .null, .null, .null] .null := (Arv.new A2 (by decide)).pad (pad_rep [] .null 5)
  rw [← g2] at Ov2
  refine gb (mkF m 5 #[vr a0, .unset, .unset] [(.ref b2)]) st2 ?_
  refine gb (mkF m 6 #[vr a0, vr b2, .unset] []) (fun _ k => XS.astoreN X2.here hx rfl (hb hby d35_5) rfl rfl (l' := #[vr a0, vr b2, .unset]) rfl k) ?_
  refine gb (mkF m 7 #[vr a0, vr b2, .unset] [(.int 0)]) (fun _ k => XS.iconst X2.here hx rfl (hb hby d35_6) k) ?_
  refine gb (mkF m 8 #[vr a0, vr b2, vi 0] []) (fun _ k => XS.istoreN X2.here hx rfl (hb hby d35_7) rfl (l' := #[vr a0, vr b2, vi 0]) rfl k) ?_
  refine gb (mkF m 9 #[vr a0, vr b2, vi 0] [(.int 0)]) (fun _ k => XS.iloadN X2.here hx rfl (hb hby d35_8) rfl k) ?_
  refine gb (mkF m 10 #[vr a0, vr b2, vi 0] [(.ref a0), (.int 0)]) (fun _ k => XS.aloadN X2.here hx rfl (hb hby d35_9) rfl rfl k) ?_
  have f3 := (Arv.ext pf0 E2)
  obtain ⟨cl4, Ar4, qa4, Sa4, Na4, Ha4, Ga4⟩ := id f3
  refine gb (mkF m 11 #[vr a0, vr b2, vi 0] [(.int 5), (.int 0)]) (fun t k => X2.arraylength hx (by rw [e2]; exact Ar4.1) (State.isArrayOf_alike hZ.alike Ar4.2.1) (g := (mkF m 10 #[vr a0, vr b2, vi 0] [(.ref a0), (.int 0)])) rfl rfl (hb hby d35_10) t (by rw [len_of Sa4 Na4]; exact k)) ?_
  refine gb (mkF m 14 #[vr a0, vr b2, vi 0] []) (fun _ k => XS.icmpNo X2.here hx rfl (hb hby d35_11) rfl (tlt (by decide : (0 : Int32) < (5 : Int32))).2.1 k) ?_
  refine gb (mkF m 15 #[vr a0, vr b2, vi 0] [(.ref b2)]) (fun _ k => XS.aloadN X2.here hx rfl (hb hby d35_14) rfl rfl k) ?_
  refine gb (mkF m 16 #[vr a0, vr b2, vi 0] [(.int 0), (.ref b2)]) (fun _ k => XS.iloadN X2.here hx rfl (hb hby d35_15) rfl k) ?_
  refine gb (mkF m 17 #[vr a0, vr b2, vi 0] [(.ref a0), (.int 0), (.ref b2)]) (fun _ k => XS.aloadN X2.here hx rfl (hb hby d35_16) rfl rfl k) ?_
  refine gb (mkF m 18 #[vr a0, vr b2, vi 0] [(.int 0), (.ref a0), (.int 0), (.ref b2)]) (fun _ k => XS.iloadN X2.here hx rfl (hb hby d35_17) rfl k) ?_
  obtain ⟨cl5, Ar5, qa5, Sa5, Na5, Ha5, Ga5⟩ := id f3
  have hin6 : ¬ ((0 : Int32) < 0 ∨ cl5.slots.size ≤ ((0 : Int32)).toNatClampNeg) := inb_of Sa5 ⟨by decide, by decide⟩
  refine gb (mkF m 19 #[vr a0, vr b2, vi 0] [(.ref x0), (.int 0), (.ref b2)]) (X2.aaload hx (j := (0 : Int32)) (v := (.ref x0)) (by rw [e2]; exact Ar5.1) (State.isArrayOf_alike hZ.alike Ar5.2.1) rfl Ar5.2.2 hin6 (Has.at Ha5 hin6 rfl) (g := (mkF m 18 #[vr a0, vr b2, vi 0] [(.int 0), (.ref a0), (.int 0), (.ref b2)])) rfl rfl (hb hby d35_18)) ?_
  have K8 := ((Keep.refl h0 []).ext E2)
  have O9 := (O.ext E2)
  obtain ⟨_, _, ⟨T7, L7, k7, n7⟩, -, X7, ⟨Lc7, hQ7, l7, y7, z7⟩, st7⟩ := callS X2 hx (y := mq32) hown (mvT hZ (hW hw 233 rfl)) (mvT hZ (hW hw 234 rfl)) (mvT hZ (hW hw 235 rfl)) (mvT hZ (hW hw 236 rfl)) (by decide) (backOf (W := 2) (rm36 l Z a0' hw [] x0 wa wb wc wd we ka kc G1 h2 n0 O9 W ) hZ (hW hw 236 rfl) (hW hw 235 rfl) (by decide) (by decide)) (g := (mkF m 19 #[vr a0, vr b2, vi 0] [(.ref x0), (.int 0), (.ref b2)])) rfl (by rw [hml]; rfl) (argsL := [(.ref x0)]) (rest := [(.int 0), (.ref b2)]) (lenOf pd311 rfl) rfl (Nat.le_of_eq rfl) (hb hby d35_19) (fun _ _ => ⟨rfl, e2, (by decide : 1 + 0 ≤ _), (by decide : 5 + 0 ≤ _)⟩)
  dsimp only [Pt.U, Pt.locs, Pt.cells, Pt.slots] at X7 l7 y7 z7 st7 hQ7
  subst l7 y7 z7
  obtain ⟨rfl, N7q, e7⟩ := hQ7
  have N7 := Fr.app N0 N7q
  refine gb (mkF m 22 #[vr a0, vr b2, vi 0] [(.ref x0), (.int 0), (.ref b2)]) st7 ?_
  obtain ⟨cl10, Ar10, qa10, Sa10, Na10, Ha10, Ga10⟩ := id V2
  have hin11 : ¬ ((0 : Int32) < 0 ∨ cl10.slots.size ≤ ((0 : Int32)).toNatClampNeg) := inb_of Sa10 ⟨by decide, by decide⟩
  have f12 := (Exa.ext E2 pf1)
  obtain ⟨T11, h11, X11, e11, W11, st11⟩ := stR X7 hx hZ e7 Ar10 (j := (0 : Int32)) hin11 rfl (Sto.ofV Ar10 qa10 Ov2.1 (Ins.of_exa f12 (hW hw 189 rfl))) (g := (mkF m 22 #[vr a0, vr b2, vi 0] [(.ref x0), (.int 0), (.ref b2)])) rfl rfl (hb hby d35_22)
  have V11 : Arv Z h11 b2 k2 oT (5 : Int32) [(.ref x0), .null, .null, .null, .null] .null := Arv.set Ar10 qa10 Sa10 Na10 Ha10 Ga10 rfl W11 0 rfl (Nat.le_of_ble_eq_true rfl)
  have N11 := Fr.snoc X11 N7 gb2
  refine gb (mkF m 23 #[vr a0, vr b2, vi 0] []) st11 ?_
  refine gb (mkF m 26 #[vr a0, vr b2, vi 1] []) (fun _ k => XS.iinc X11.here hx rfl (hb hby d35_23) rfl (l' := #[vr a0, vr b2, vi 1]) rfl k) ?_
  refine gb (mkF m 8 #[vr a0, vr b2, vi 1] []) (fun _ k => XS.goto X11.here hx rfl (pc0 := 26) (pc' := 8) rfl (hb hby d35_26) (by decide) (by decide) k) ?_
  refine gb (mkF m 9 #[vr a0, vr b2, vi 1] [(.int 1)]) (fun _ k => XS.iloadN X11.here hx rfl (hb hby d35_8) rfl k) ?_
  refine gb (mkF m 10 #[vr a0, vr b2, vi 1] [(.ref a0), (.int 1)]) (fun _ k => XS.aloadN X11.here hx rfl (hb hby d35_9) rfl rfl k) ?_
  have f13 := (Arv.other f3 W11 ne2_0)
  obtain ⟨cl14, Ar14, qa14, Sa14, Na14, Ha14, Ga14⟩ := id f13
  refine gb (mkF m 11 #[vr a0, vr b2, vi 1] [(.int 5), (.int 1)]) (fun t k => X11.arraylength hx (by rw [e11]; exact Ar14.1) (State.isArrayOf_alike hZ.alike Ar14.2.1) (g := (mkF m 10 #[vr a0, vr b2, vi 1] [(.ref a0), (.int 1)])) rfl rfl (hb hby d35_10) t (by rw [len_of Sa14 Na14]; exact k)) ?_
  refine gb (mkF m 14 #[vr a0, vr b2, vi 1] []) (fun _ k => XS.icmpNo X11.here hx rfl (hb hby d35_11) rfl (tlt (by decide : (1 : Int32) < (5 : Int32))).2.1 k) ?_
  refine gb (mkF m 15 #[vr a0, vr b2, vi 1] [(.ref b2)]) (fun _ k => XS.aloadN X11.here hx rfl (hb hby d35_14) rfl rfl k) ?_
  refine gb (mkF m 16 #[vr a0, vr b2, vi 1] [(.int 1), (.ref b2)]) (fun _ k => XS.iloadN X11.here hx rfl (hb hby d35_15) rfl k) ?_
  refine gb (mkF m 17 #[vr a0, vr b2, vi 1] [(.ref a0), (.int 1), (.ref b2)]) (fun _ k => XS.aloadN X11.here hx rfl (hb hby d35_16) rfl rfl k) ?_
  refine gb (mkF m 18 #[vr a0, vr b2, vi 1] [(.int 1), (.ref a0), (.int 1), (.ref b2)]) (fun _ k => XS.iloadN X11.here hx rfl (hb hby d35_17) rfl k) ?_
  obtain ⟨cl15, Ar15, qa15, Sa15, Na15, Ha15, Ga15⟩ := id f13
  have hin16 : ¬ ((1 : Int32) < 0 ∨ cl15.slots.size ≤ ((1 : Int32)).toNatClampNeg) := inb_of Sa15 ⟨by decide, by decide⟩
  refine gb (mkF m 19 #[vr a0, vr b2, vi 1] [(.ref x1), (.int 1), (.ref b2)]) (X11.aaload hx (j := (1 : Int32)) (v := (.ref x1)) (by rw [e11]; exact Ar15.1) (State.isArrayOf_alike hZ.alike Ar15.2.1) rfl Ar15.2.2 hin16 (Has.at Ha15 hin16 rfl) (g := (mkF m 18 #[vr a0, vr b2, vi 1] [(.int 1), (.ref a0), (.int 1), (.ref b2)])) rfl rfl (hb hby d35_18)) ?_
  have K18 := (K8.wr W11 (Or.inr sb2))
  have O19 := (O9.wr W11 gb2)
  obtain ⟨_, _, ⟨T17, L17, k17, n17⟩, -, X17, ⟨Lc17, hQ17, l17, y17, z17⟩, st17⟩ := callS X11 hx (y := mq32) hown (mvT hZ (hW hw 233 rfl)) (mvT hZ (hW hw 234 rfl)) (mvT hZ (hW hw 235 rfl)) (mvT hZ (hW hw 236 rfl)) (by decide) (backOf (W := 2) (rm36 l Z a0' hw [] x1 wa wb wc wd we ka kc G1 h11 n0 O19 W ) hZ (hW hw 236 rfl) (hW hw 235 rfl) (by decide) (by decide)) (g := (mkF m 19 #[vr a0, vr b2, vi 1] [(.ref x1), (.int 1), (.ref b2)])) rfl (by rw [hml]; rfl) (argsL := [(.ref x1)]) (rest := [(.int 1), (.ref b2)]) (lenOf pd311 rfl) rfl (Nat.le_of_eq rfl) (hb hby d35_19) (fun _ _ => ⟨rfl, e11, (by decide : 1 + 0 ≤ _), (by decide : 5 + 0 ≤ _)⟩)
  dsimp only [Pt.U, Pt.locs, Pt.cells, Pt.slots] at X17 l17 y17 z17 st17 hQ17
  subst l17 y17 z17
  obtain ⟨rfl, N17q, e17⟩ := hQ17
  have N17 := Fr.app N11 N17q
  refine gb (mkF m 22 #[vr a0, vr b2, vi 1] [(.ref x1), (.int 1), (.ref b2)]) st17 ?_
  obtain ⟨cl20, Ar20, qa20, Sa20, Na20, Ha20, Ga20⟩ := id V11
  have hin21 : ¬ ((1 : Int32) < 0 ∨ cl20.slots.size ≤ ((1 : Int32)).toNatClampNeg) := inb_of Sa20 ⟨by decide, by decide⟩
  have f22 := (Exa.wr W11 (Exa.ext E2 pf2))
  obtain ⟨T21, h21, X21, e21, W21, st21⟩ := stR X17 hx hZ e17 Ar20 (j := (1 : Int32)) hin21 rfl (Sto.ofV Ar20 qa20 Ov2.1 (Ins.of_exa f22 (hW hw 189 rfl))) (g := (mkF m 22 #[vr a0, vr b2, vi 1] [(.ref x1), (.int 1), (.ref b2)])) rfl rfl (hb hby d35_22)
  have V21 : Arv Z h21 b2 k2 oT (5 : Int32) [(.ref x0), (.ref x1), .null, .null, .null] .null := Arv.set Ar20 qa20 Sa20 Na20 Ha20 Ga20 rfl W21 1 rfl (Nat.le_of_ble_eq_true rfl)
  have N21 := Fr.snoc X21 N17 gb2
  refine gb (mkF m 23 #[vr a0, vr b2, vi 1] []) st21 ?_
  refine gb (mkF m 26 #[vr a0, vr b2, vi 2] []) (fun _ k => XS.iinc X21.here hx rfl (hb hby d35_23) rfl (l' := #[vr a0, vr b2, vi 2]) rfl k) ?_
  refine gb (mkF m 8 #[vr a0, vr b2, vi 2] []) (fun _ k => XS.goto X21.here hx rfl (pc0 := 26) (pc' := 8) rfl (hb hby d35_26) (by decide) (by decide) k) ?_
  refine gb (mkF m 9 #[vr a0, vr b2, vi 2] [(.int 2)]) (fun _ k => XS.iloadN X21.here hx rfl (hb hby d35_8) rfl k) ?_
  refine gb (mkF m 10 #[vr a0, vr b2, vi 2] [(.ref a0), (.int 2)]) (fun _ k => XS.aloadN X21.here hx rfl (hb hby d35_9) rfl rfl k) ?_
  have f23 := (Arv.other f13 W21 ne2_0)
  obtain ⟨cl24, Ar24, qa24, Sa24, Na24, Ha24, Ga24⟩ := id f23
  refine gb (mkF m 11 #[vr a0, vr b2, vi 2] [(.int 5), (.int 2)]) (fun t k => X21.arraylength hx (by rw [e21]; exact Ar24.1) (State.isArrayOf_alike hZ.alike Ar24.2.1) (g := (mkF m 10 #[vr a0, vr b2, vi 2] [(.ref a0), (.int 2)])) rfl rfl (hb hby d35_10) t (by rw [len_of Sa24 Na24]; exact k)) ?_
  refine gb (mkF m 14 #[vr a0, vr b2, vi 2] []) (fun _ k => XS.icmpNo X21.here hx rfl (hb hby d35_11) rfl (tlt (by decide : (2 : Int32) < (5 : Int32))).2.1 k) ?_
  refine gb (mkF m 15 #[vr a0, vr b2, vi 2] [(.ref b2)]) (fun _ k => XS.aloadN X21.here hx rfl (hb hby d35_14) rfl rfl k) ?_
  refine gb (mkF m 16 #[vr a0, vr b2, vi 2] [(.int 2), (.ref b2)]) (fun _ k => XS.iloadN X21.here hx rfl (hb hby d35_15) rfl k) ?_
  refine gb (mkF m 17 #[vr a0, vr b2, vi 2] [(.ref a0), (.int 2), (.ref b2)]) (fun _ k => XS.aloadN X21.here hx rfl (hb hby d35_16) rfl rfl k) ?_
  refine gb (mkF m 18 #[vr a0, vr b2, vi 2] [(.int 2), (.ref a0), (.int 2), (.ref b2)]) (fun _ k => XS.iloadN X21.here hx rfl (hb hby d35_17) rfl k) ?_
  obtain ⟨cl25, Ar25, qa25, Sa25, Na25, Ha25, Ga25⟩ := id f23
  have hin26 : ¬ ((2 : Int32) < 0 ∨ cl25.slots.size ≤ ((2 : Int32)).toNatClampNeg) := inb_of Sa25 ⟨by decide, by decide⟩
  refine gb (mkF m 19 #[vr a0, vr b2, vi 2] [(.ref x2), (.int 2), (.ref b2)]) (X21.aaload hx (j := (2 : Int32)) (v := (.ref x2)) (by rw [e21]; exact Ar25.1) (State.isArrayOf_alike hZ.alike Ar25.2.1) rfl Ar25.2.2 hin26 (Has.at Ha25 hin26 rfl) (g := (mkF m 18 #[vr a0, vr b2, vi 2] [(.int 2), (.ref a0), (.int 2), (.ref b2)])) rfl rfl (hb hby d35_18)) ?_
  have K28 := (K18.wr W21 (Or.inr sb2))
  have O29 := (O19.wr W21 gb2)
  obtain ⟨_, _, ⟨T27, L27, k27, n27⟩, -, X27, ⟨Lc27, hQ27, l27, y27, z27⟩, st27⟩ := callS X21 hx (y := mq32) hown (mvT hZ (hW hw 233 rfl)) (mvT hZ (hW hw 234 rfl)) (mvT hZ (hW hw 235 rfl)) (mvT hZ (hW hw 236 rfl)) (by decide) (backOf (W := 2) (rm36 l Z a0' hw [] x2 wa wb wc wd we ka kc G1 h21 n0 O29 W ) hZ (hW hw 236 rfl) (hW hw 235 rfl) (by decide) (by decide)) (g := (mkF m 19 #[vr a0, vr b2, vi 2] [(.ref x2), (.int 2), (.ref b2)])) rfl (by rw [hml]; rfl) (argsL := [(.ref x2)]) (rest := [(.int 2), (.ref b2)]) (lenOf pd311 rfl) rfl (Nat.le_of_eq rfl) (hb hby d35_19) (fun _ _ => ⟨rfl, e21, (by decide : 1 + 0 ≤ _), (by decide : 5 + 0 ≤ _)⟩)
  dsimp only [Pt.U, Pt.locs, Pt.cells, Pt.slots] at X27 l27 y27 z27 st27 hQ27
  subst l27 y27 z27
  obtain ⟨rfl, N27q, e27⟩ := hQ27
  have N27 := Fr.app N21 N27q
  refine gb (mkF m 22 #[vr a0, vr b2, vi 2] [(.ref x2), (.int 2), (.ref b2)]) st27 ?_
  obtain ⟨cl30, Ar30, qa30, Sa30, Na30, Ha30, Ga30⟩ := id V21
  have hin31 : ¬ ((2 : Int32) < 0 ∨ cl30.slots.size ≤ ((2 : Int32)).toNatClampNeg) := inb_of Sa30 ⟨by decide, by decide⟩
  have f32 := (Exa.wr W21 (Exa.wr W11 (Exa.ext E2 pf3)))
  obtain ⟨T31, h31, X31, e31, W31, st31⟩ := stR X27 hx hZ e27 Ar30 (j := (2 : Int32)) hin31 rfl (Sto.ofV Ar30 qa30 Ov2.1 (Ins.of_exa f32 (hW hw 189 rfl))) (g := (mkF m 22 #[vr a0, vr b2, vi 2] [(.ref x2), (.int 2), (.ref b2)])) rfl rfl (hb hby d35_22)
  have V31 : Arv Z h31 b2 k2 oT (5 : Int32) [(.ref x0), (.ref x1), (.ref x2), .null, .null] .null := Arv.set Ar30 qa30 Sa30 Na30 Ha30 Ga30 rfl W31 2 rfl (Nat.le_of_ble_eq_true rfl)
  have N31 := Fr.snoc X31 N27 gb2
  refine gb (mkF m 23 #[vr a0, vr b2, vi 2] []) st31 ?_
  refine gb (mkF m 26 #[vr a0, vr b2, vi 3] []) (fun _ k => XS.iinc X31.here hx rfl (hb hby d35_23) rfl (l' := #[vr a0, vr b2, vi 3]) rfl k) ?_
  refine gb (mkF m 8 #[vr a0, vr b2, vi 3] []) (fun _ k => XS.goto X31.here hx rfl (pc0 := 26) (pc' := 8) rfl (hb hby d35_26) (by decide) (by decide) k) ?_
  refine gb (mkF m 9 #[vr a0, vr b2, vi 3] [(.int 3)]) (fun _ k => XS.iloadN X31.here hx rfl (hb hby d35_8) rfl k) ?_
  refine gb (mkF m 10 #[vr a0, vr b2, vi 3] [(.ref a0), (.int 3)]) (fun _ k => XS.aloadN X31.here hx rfl (hb hby d35_9) rfl rfl k) ?_
  have f33 := (Arv.other f23 W31 ne2_0)
  obtain ⟨cl34, Ar34, qa34, Sa34, Na34, Ha34, Ga34⟩ := id f33
  refine gb (mkF m 11 #[vr a0, vr b2, vi 3] [(.int 5), (.int 3)]) (fun t k => X31.arraylength hx (by rw [e31]; exact Ar34.1) (State.isArrayOf_alike hZ.alike Ar34.2.1) (g := (mkF m 10 #[vr a0, vr b2, vi 3] [(.ref a0), (.int 3)])) rfl rfl (hb hby d35_10) t (by rw [len_of Sa34 Na34]; exact k)) ?_
  refine gb (mkF m 14 #[vr a0, vr b2, vi 3] []) (fun _ k => XS.icmpNo X31.here hx rfl (hb hby d35_11) rfl (tlt (by decide : (3 : Int32) < (5 : Int32))).2.1 k) ?_
  refine gb (mkF m 15 #[vr a0, vr b2, vi 3] [(.ref b2)]) (fun _ k => XS.aloadN X31.here hx rfl (hb hby d35_14) rfl rfl k) ?_
  refine gb (mkF m 16 #[vr a0, vr b2, vi 3] [(.int 3), (.ref b2)]) (fun _ k => XS.iloadN X31.here hx rfl (hb hby d35_15) rfl k) ?_
  refine gb (mkF m 17 #[vr a0, vr b2, vi 3] [(.ref a0), (.int 3), (.ref b2)]) (fun _ k => XS.aloadN X31.here hx rfl (hb hby d35_16) rfl rfl k) ?_
  refine gb (mkF m 18 #[vr a0, vr b2, vi 3] [(.int 3), (.ref a0), (.int 3), (.ref b2)]) (fun _ k => XS.iloadN X31.here hx rfl (hb hby d35_17) rfl k) ?_
  obtain ⟨cl35, Ar35, qa35, Sa35, Na35, Ha35, Ga35⟩ := id f33
  have hin36 : ¬ ((3 : Int32) < 0 ∨ cl35.slots.size ≤ ((3 : Int32)).toNatClampNeg) := inb_of Sa35 ⟨by decide, by decide⟩
  refine gb (mkF m 19 #[vr a0, vr b2, vi 3] [(.ref x3), (.int 3), (.ref b2)]) (X31.aaload hx (j := (3 : Int32)) (v := (.ref x3)) (by rw [e31]; exact Ar35.1) (State.isArrayOf_alike hZ.alike Ar35.2.1) rfl Ar35.2.2 hin36 (Has.at Ha35 hin36 rfl) (g := (mkF m 18 #[vr a0, vr b2, vi 3] [(.int 3), (.ref a0), (.int 3), (.ref b2)])) rfl rfl (hb hby d35_18)) ?_
  have K38 := (K28.wr W31 (Or.inr sb2))
  have O39 := (O29.wr W31 gb2)
  obtain ⟨_, _, ⟨T37, L37, k37, n37⟩, -, X37, ⟨Lc37, hQ37, l37, y37, z37⟩, st37⟩ := callS X31 hx (y := mq32) hown (mvT hZ (hW hw 233 rfl)) (mvT hZ (hW hw 234 rfl)) (mvT hZ (hW hw 235 rfl)) (mvT hZ (hW hw 236 rfl)) (by decide) (backOf (W := 2) (rm36 l Z a0' hw [] x3 wa wb wc wd we ka kc G1 h31 n0 O39 W ) hZ (hW hw 236 rfl) (hW hw 235 rfl) (by decide) (by decide)) (g := (mkF m 19 #[vr a0, vr b2, vi 3] [(.ref x3), (.int 3), (.ref b2)])) rfl (by rw [hml]; rfl) (argsL := [(.ref x3)]) (rest := [(.int 3), (.ref b2)]) (lenOf pd311 rfl) rfl (Nat.le_of_eq rfl) (hb hby d35_19) (fun _ _ => ⟨rfl, e31, (by decide : 1 + 0 ≤ _), (by decide : 5 + 0 ≤ _)⟩)
  dsimp only [Pt.U, Pt.locs, Pt.cells, Pt.slots] at X37 l37 y37 z37 st37 hQ37
  subst l37 y37 z37
  obtain ⟨rfl, N37q, e37⟩ := hQ37
  have N37 := Fr.app N31 N37q
  refine gb (mkF m 22 #[vr a0, vr b2, vi 3] [(.ref x3), (.int 3), (.ref b2)]) st37 ?_
  obtain ⟨cl40, Ar40, qa40, Sa40, Na40, Ha40, Ga40⟩ := id V31
  have hin41 : ¬ ((3 : Int32) < 0 ∨ cl40.slots.size ≤ ((3 : Int32)).toNatClampNeg) := inb_of Sa40 ⟨by decide, by decide⟩
  have f42 := (Exa.wr W31 (Exa.wr W21 (Exa.wr W11 (Exa.ext E2 pf4))))
  obtain ⟨T41, h41, X41, e41, W41, st41⟩ := stR X37 hx hZ e37 Ar40 (j := (3 : Int32)) hin41 rfl (Sto.ofV Ar40 qa40 Ov2.1 (Ins.of_exa f42 (hW hw 189 rfl))) (g := (mkF m 22 #[vr a0, vr b2, vi 3] [(.ref x3), (.int 3), (.ref b2)])) rfl rfl (hb hby d35_22)
  have V41 : Arv Z h41 b2 k2 oT (5 : Int32) [(.ref x0), (.ref x1), (.ref x2), (.ref x3), .null] .null := Arv.set Ar40 qa40 Sa40 Na40 Ha40 Ga40 rfl W41 3 rfl (Nat.le_of_ble_eq_true rfl)
  have N41 := Fr.snoc X41 N37 gb2
  refine gb (mkF m 23 #[vr a0, vr b2, vi 3] []) st41 ?_
  refine gb (mkF m 26 #[vr a0, vr b2, vi 4] []) (fun _ k => XS.iinc X41.here hx rfl (hb hby d35_23) rfl (l' := #[vr a0, vr b2, vi 4]) rfl k) ?_
  refine gb (mkF m 8 #[vr a0, vr b2, vi 4] []) (fun _ k => XS.goto X41.here hx rfl (pc0 := 26) (pc' := 8) rfl (hb hby d35_26) (by decide) (by decide) k) ?_
  refine gb (mkF m 9 #[vr a0, vr b2, vi 4] [(.int 4)]) (fun _ k => XS.iloadN X41.here hx rfl (hb hby d35_8) rfl k) ?_
  refine gb (mkF m 10 #[vr a0, vr b2, vi 4] [(.ref a0), (.int 4)]) (fun _ k => XS.aloadN X41.here hx rfl (hb hby d35_9) rfl rfl k) ?_
  have f43 := (Arv.other f33 W41 ne2_0)
  obtain ⟨cl44, Ar44, qa44, Sa44, Na44, Ha44, Ga44⟩ := id f43
  refine gb (mkF m 11 #[vr a0, vr b2, vi 4] [(.int 5), (.int 4)]) (fun t k => X41.arraylength hx (by rw [e41]; exact Ar44.1) (State.isArrayOf_alike hZ.alike Ar44.2.1) (g := (mkF m 10 #[vr a0, vr b2, vi 4] [(.ref a0), (.int 4)])) rfl rfl (hb hby d35_10) t (by rw [len_of Sa44 Na44]; exact k)) ?_
  refine gb (mkF m 14 #[vr a0, vr b2, vi 4] []) (fun _ k => XS.icmpNo X41.here hx rfl (hb hby d35_11) rfl (tlt (by decide : (4 : Int32) < (5 : Int32))).2.1 k) ?_
  refine gb (mkF m 15 #[vr a0, vr b2, vi 4] [(.ref b2)]) (fun _ k => XS.aloadN X41.here hx rfl (hb hby d35_14) rfl rfl k) ?_
  refine gb (mkF m 16 #[vr a0, vr b2, vi 4] [(.int 4), (.ref b2)]) (fun _ k => XS.iloadN X41.here hx rfl (hb hby d35_15) rfl k) ?_
  refine gb (mkF m 17 #[vr a0, vr b2, vi 4] [(.ref a0), (.int 4), (.ref b2)]) (fun _ k => XS.aloadN X41.here hx rfl (hb hby d35_16) rfl rfl k) ?_
  refine gb (mkF m 18 #[vr a0, vr b2, vi 4] [(.int 4), (.ref a0), (.int 4), (.ref b2)]) (fun _ k => XS.iloadN X41.here hx rfl (hb hby d35_17) rfl k) ?_
  obtain ⟨cl45, Ar45, qa45, Sa45, Na45, Ha45, Ga45⟩ := id f43
  have hin46 : ¬ ((4 : Int32) < 0 ∨ cl45.slots.size ≤ ((4 : Int32)).toNatClampNeg) := inb_of Sa45 ⟨by decide, by decide⟩
  refine gb (mkF m 19 #[vr a0, vr b2, vi 4] [(.ref x4), (.int 4), (.ref b2)]) (X41.aaload hx (j := (4 : Int32)) (v := (.ref x4)) (by rw [e41]; exact Ar45.1) (State.isArrayOf_alike hZ.alike Ar45.2.1) rfl Ar45.2.2 hin46 (Has.at Ha45 hin46 rfl) (g := (mkF m 18 #[vr a0, vr b2, vi 4] [(.int 4), (.ref a0), (.int 4), (.ref b2)])) rfl rfl (hb hby d35_18)) ?_
  have K48 := (K38.wr W41 (Or.inr sb2))
  have O49 := (O39.wr W41 gb2)
  obtain ⟨_, _, ⟨T47, L47, k47, n47⟩, -, X47, ⟨Lc47, hQ47, l47, y47, z47⟩, st47⟩ := callS X41 hx (y := mq32) hown (mvT hZ (hW hw 233 rfl)) (mvT hZ (hW hw 234 rfl)) (mvT hZ (hW hw 235 rfl)) (mvT hZ (hW hw 236 rfl)) (by decide) (backOf (W := 2) (rm36 l Z a0' hw [] x4 wa wb wc wd we ka kc G1 h41 n0 O49 W ) hZ (hW hw 236 rfl) (hW hw 235 rfl) (by decide) (by decide)) (g := (mkF m 19 #[vr a0, vr b2, vi 4] [(.ref x4), (.int 4), (.ref b2)])) rfl (by rw [hml]; rfl) (argsL := [(.ref x4)]) (rest := [(.int 4), (.ref b2)]) (lenOf pd311 rfl) rfl (Nat.le_of_eq rfl) (hb hby d35_19) (fun _ _ => ⟨rfl, e41, (by decide : 1 + 0 ≤ _), (by decide : 5 + 0 ≤ _)⟩)
  dsimp only [Pt.U, Pt.locs, Pt.cells, Pt.slots] at X47 l47 y47 z47 st47 hQ47
  subst l47 y47 z47
  obtain ⟨rfl, N47q, e47⟩ := hQ47
  have N47 := Fr.app N41 N47q
  refine gb (mkF m 22 #[vr a0, vr b2, vi 4] [(.ref x4), (.int 4), (.ref b2)]) st47 ?_
  obtain ⟨cl50, Ar50, qa50, Sa50, Na50, Ha50, Ga50⟩ := id V41
  have hin51 : ¬ ((4 : Int32) < 0 ∨ cl50.slots.size ≤ ((4 : Int32)).toNatClampNeg) := inb_of Sa50 ⟨by decide, by decide⟩
  have f52 := (Exa.wr W41 (Exa.wr W31 (Exa.wr W21 (Exa.wr W11 (Exa.ext E2 pf5)))))
  obtain ⟨T51, h51, X51, e51, W51, st51⟩ := stR X47 hx hZ e47 Ar50 (j := (4 : Int32)) hin51 rfl (Sto.ofV Ar50 qa50 Ov2.1 (Ins.of_exa f52 (hW hw 189 rfl))) (g := (mkF m 22 #[vr a0, vr b2, vi 4] [(.ref x4), (.int 4), (.ref b2)])) rfl rfl (hb hby d35_22)
  have V51 : Arv Z h51 b2 k2 oT (5 : Int32) [(.ref x0), (.ref x1), (.ref x2), (.ref x3), (.ref x4)] .null := Arv.set Ar50 qa50 Sa50 Na50 Ha50 Ga50 rfl W51 4 rfl (Nat.le_of_ble_eq_true rfl)
  have N51 := Fr.snoc X51 N47 gb2
  refine gb (mkF m 23 #[vr a0, vr b2, vi 4] []) st51 ?_
  refine gb (mkF m 26 #[vr a0, vr b2, vi 5] []) (fun _ k => XS.iinc X51.here hx rfl (hb hby d35_23) rfl (l' := #[vr a0, vr b2, vi 5]) rfl k) ?_
  refine gb (mkF m 8 #[vr a0, vr b2, vi 5] []) (fun _ k => XS.goto X51.here hx rfl (pc0 := 26) (pc' := 8) rfl (hb hby d35_26) (by decide) (by decide) k) ?_
  refine gb (mkF m 9 #[vr a0, vr b2, vi 5] [(.int 5)]) (fun _ k => XS.iloadN X51.here hx rfl (hb hby d35_8) rfl k) ?_
  refine gb (mkF m 10 #[vr a0, vr b2, vi 5] [(.ref a0), (.int 5)]) (fun _ k => XS.aloadN X51.here hx rfl (hb hby d35_9) rfl rfl k) ?_
  have f53 := (Arv.other f43 W51 ne2_0)
  obtain ⟨cl54, Ar54, qa54, Sa54, Na54, Ha54, Ga54⟩ := id f53
  refine gb (mkF m 11 #[vr a0, vr b2, vi 5] [(.int 5), (.int 5)]) (fun t k => X51.arraylength hx (by rw [e51]; exact Ar54.1) (State.isArrayOf_alike hZ.alike Ar54.2.1) (g := (mkF m 10 #[vr a0, vr b2, vi 5] [(.ref a0), (.int 5)])) rfl rfl (hb hby d35_10) t (by rw [len_of Sa54 Na54]; exact k)) ?_
  refine gb (mkF m 29 #[vr a0, vr b2, vi 5] []) (fun _ k => XS.icmpYes X51.here hx rfl (pc0 := 11) (pc' := 29) rfl (hb hby d35_11) rfl (flt (by decide : ¬ ((5 : Int32) < (5 : Int32)))).2.1 (by decide) (by decide) k) ?_
  have O56 := (O49.wr W51 gb2)
  have f57 := (Exa.wr W51 (Exa.wr W41 (Exa.wr W31 (Exa.wr W21 (Exa.wr W11 f12)))))
  have f58 := (Exa.wr W51 (Exa.wr W41 (Exa.wr W31 (Exa.wr W21 f22))))
  have f59 := (Exa.wr W51 (Exa.wr W41 (Exa.wr W31 f32)))
  have f60 := (Exa.wr W51 (Exa.wr W41 f42))
  have f61 := (Exa.wr W51 f52)
  have K62 := (K48.wr W51 (Or.inr sb2))
  obtain ⟨T55, h55, X55, e55, E55, A55, D55, -, st55⟩ := newO X51 hx hZ hown (hW hw 67 rfl) (hW hw 237 rfl) (hW hw 91 rfl) e51 (g := (mkF m 29 #[vr a0, vr b2, vi 5] [])) rfl (hb hby d35_29) (by decide) (by decide)
  obtain ⟨b55, g55⟩ : ∃ z, z = (h51).size := ⟨_, rfl⟩
  rw [← g55] at A55 D55 st55
  have gb55 : n0 ≤ b55 := Nat.le_trans (Nat.le_trans (Nat.le_of_eq O56.1.symm) O56.2.1) (Nat.le_of_eq g55.symm)
  have sb55 : h0.size ≤ b55 := Nat.le_trans K62.1 (Nat.le_of_eq g55.symm)
  have ne55_20 : a0 ≠ b55 := Nat.ne_of_lt (Nat.lt_of_lt_of_le f53.lt (Nat.le_of_eq g55.symm))
  have ne55_22 : x0 ≠ b55 := Nat.ne_of_lt (Nat.lt_of_lt_of_le f57.lt (Nat.le_of_eq g55.symm))
  have ne55_24 : x1 ≠ b55 := Nat.ne_of_lt (Nat.lt_of_lt_of_le f58.lt (Nat.le_of_eq g55.symm))
  have ne55_26 : x2 ≠ b55 := Nat.ne_of_lt (Nat.lt_of_lt_of_le f59.lt (Nat.le_of_eq g55.symm))
  have ne55_28 : x3 ≠ b55 := Nat.ne_of_lt (Nat.lt_of_lt_of_le f60.lt (Nat.le_of_eq g55.symm))
  have ne55_30 : x4 ≠ b55 := Nat.ne_of_lt (Nat.lt_of_lt_of_le f61.lt (Nat.le_of_eq g55.symm))
  have ne55_32 : wa ≠ b55 := Nat.ne_of_lt (Nat.lt_of_lt_of_le (Arv.ext W.2.1 O56.2).lt (Nat.le_of_eq g55.symm))
  have ne55_34 : wc ≠ b55 := Nat.ne_of_lt (Nat.lt_of_lt_of_le (Arv.ext W.2.2.2.2.2.1 O56.2).lt (Nat.le_of_eq g55.symm))
  have ne55_36 : wb ≠ b55 := Nat.ne_of_lt (Nat.lt_of_lt_of_le (Exa.ext O56.2 W.2.2.2.1).lt (Nat.le_of_eq g55.symm))
  have ne55_38 : wd ≠ b55 := Nat.ne_of_lt (Nat.lt_of_lt_of_le (Exa.ext O56.2 W.2.2.2.2.2.2.2.1).lt (Nat.le_of_eq g55.symm))
  have ne55_40 : b2 ≠ b55 := Nat.ne_of_lt (Nat.lt_of_lt_of_le V51.lt (Nat.le_of_eq g55.symm))
  have D55_elements : Fld Z h55 b55 sN "elements" sO .null := D55 (Or.inr (hW hw 94 rfl)) (ty := (.array oT)) (by decide)
  have D55_allowNulls : Fld Z h55 b55 sN "allowNulls" "Z" (.int 0) := D55 (Or.inr (hW hw 257 rfl)) (ty := .boolean) (by decide)
  refine gb (mkF m 32 #[vr a0, vr b2, vi 5] [(.ref b55)]) st55 ?_
  refine gb (mkF m 33 #[vr a0, vr b2, vi 5] [(.ref b55), (.ref b55)]) (fun _ k => XS.dup X55.here hx rfl (hb hby d35_32) rfl rfl k) ?_
  refine gb (mkF m 34 #[vr a0, vr b2, vi 5] [(.ref b2), (.ref b55), (.ref b55)]) (fun _ k => XS.aloadN X55.here hx rfl (hb hby d35_33) rfl rfl k) ?_
  refine gb (mkF m 35 #[vr a0, vr b2, vi 5] [(.int 0), (.ref b2), (.ref b55), (.ref b55)]) (fun _ k => XS.iconst X55.here hx rfl (hb hby d35_34) k) ?_
  have K64 := (K62.ext E55)
  have O65 := (O56.ext E55)
  obtain ⟨_, _, ⟨T63, L63, k63, n63⟩, -, X63, ⟨Lc63, hQ63, l63, y63, z63⟩, st63⟩ := X55.specialBackNest hx (y := mq35) rfl hown (Cond.methodLinkNest_wide hZ (hW hw 238 rfl)) (mvT hZ (hW hw 239 rfl)) (mvT hZ (hW hw 241 rfl)) (by decide) (backOf (W := 1) (rm37 l Z a0' hw [] b55 b2 wa wb wc wd we ka kc G1 h55 n0 O65 W A55 D55_elements D55_allowNulls gb55) hZ (hW hw 241 rfl) (hW hw 91 rfl) (by decide) (by decide)) (g := (mkF m 35 #[vr a0, vr b2, vi 5] [(.int 0), (.ref b2), (.ref b55), (.ref b55)])) rfl (by rw [hml]; rfl) (Steps.refl _) (a := b55) (argsL := [(.ref b2), (.int 0)]) (rest := [(.ref b55)]) (lenOf pd396 rfl) rfl (Nat.le_of_eq rfl) (hb hby d35_35) (fun _ _ => ⟨rfl, e55, (by decide : 2 + 0 ≤ _), (by decide : 7 + 0 ≤ _)⟩)
  dsimp only [Pt.U, Pt.locs, Pt.cells, Pt.slots] at X63 l63 y63 z63 st63 hQ63
  subst l63 y63 z63
  obtain ⟨rfl, N63q, Kc63, fc63_0⟩ := hQ63
  have N63 := Fr.app N51 N63q
  refine gb (mkF m 38 #[vr a0, vr b2, vi 5] [(.ref b55)]) (fun _ k => st63.trans k) ?_
  have K66 := (K64.trans Kc63 (allS (Or.inr sb55) all0))
  have f67 := (Exa.keep A55 Kc63)
  have f68 := (Arv.keep (Arv.ext V51 E55) Kc63 (ninS ne55_40 nin0))
  exact Gl.outA X63 hx hk Bd.returns rfl rfl (hb hby d35_38) ⟨b55, b2, k2, rfl, N63, K66, f67, fc63_0, f68⟩ (by decide) (by decide)
theorem ef345 (m : MethodId) (x0 : Addr) : entryFrame m #[(.ref x0)] 2 = mkF m 0 #[.val (.ref x0), .unset] [] := by first | (simp [entryFrame, mkF, argsToLocals, Value.category]; done) | rfl
def Q345 (Z : State) (a0 : Addr) (kk : ClassId) (x0 x1 x2 x3 x4 : Addr) (wa wb wc wd we : Addr) (ka kc : ClassId) (G1 : Int32) (h0 : Heap) (n0 : Nat) (v : Option Value) (h : Heap) (L : List Loc) : Prop := ∃ (r : Addr), ∃ (ar : Addr), ∃ (kr : ClassId), v = some (.ref r) ∧ Fr n0 L ∧ Keep h0 h [] ∧ Exa Z h r sN ∧ Fld Z h r sN "elements" sO (.ref ar) ∧ Arv Z h ar kr oT (5 : Int32) [(.ref x0), (.ref x1), (.ref x2), (.ref x3), (.ref x4)] .null
theorem rm345 (l : Launch) (Z : State) (a0' : Array Value) (hw : ∀ d ∈ tables_1, d.before a0' Z = true) (ws : List Jvm.Cond) (a0 : Addr) (kk : ClassId) (x0 x1 x2 x3 x4 : Addr) (wa wb wc wd we : Addr) (ka kc : ClassId) (G1 : Int32) (h0 : Heap) (n0 : Nat) (O : Old Z n0 h0) (W : Wd Z wa wb wc wd we ka kc G1) (pf0 : Arv Z h0 a0 kk oT (5 : Int32) [(.ref x0), (.ref x1), (.ref x2), (.ref x3), (.ref x4)] .null) (pf1 : Exa Z h0 x0 sI) (pf2 : Exa Z h0 x1 sI) (pf3 : Exa Z h0 x2 sI) (pf4 : Exa Z h0 x3 sI) (pf5 : Exa Z h0 x4 sI) :
    MetFree l mq42 (head1 (Jvm.Cond.code mq42 jdk_40_method_47_code 2 (some (.object "java/util/List")) :: ws) ({ frames := 6, cells := 2, slots := 7, locals := 77 } : Room)) (fun a U => a = #[(.ref a0)] ∧ Z.Warmed39 U.vm ∧ U.heap = h0) (fun _ _ _ _ _ => True) (fun _ U o U' => ∃ v L, o = .returned v ∧ Q345 Z a0 kk x0 x1 x2 x3 x4 wa wb wc wd we ka kc G1 h0 n0 v U'.heap L ∧ FrameEnd U o U' L ({ frames := 6, cells := 2, slots := 7, locals := 77 } : Room).cells ({ frames := 6, cells := 2, slots := 7, locals := 77 } : Room).slots) := by
  refine MetFree.of_bodySF (plainFor_of_name pn10) hisR ?_
  intro p e s m args below meth c s₁ Bd hml0 hP hK
  obtain ⟨rfl, hZ, hh⟩ := hP
  have hx := Bd.exec
  have hby := Bd.bytes
  have hml : c.maxLocals = 2 := hml0
  have hown : s.vm.findClass "java/util/List" = some m.cls := findClass_of_methodNamed Bd.named
  have hnm := (name_of_methodNamed Bd.named Bd.method).1
  have hk := Bd.notSynchronized
  have X0 : Stand p l e ({ frames := 6, cells := 2, slots := 7, locals := 77 } : Room) s m #[(.ref a0)] below meth c s₁ [] 0 0 := Stand.of_body Bd
  have hh2 := hh
  have e0 : s₁.heap = h0 := by rw [← hh, Bd.state]; rfl
  have N0 := Fr.nil n0
  show Gl p e below (Pos 2 7 (Q345 Z a0 kk x0 x1 x2 x3 x4 wa wb wc wd we ka kc G1 h0 n0) s) s₁ _
  refine Gl.cast (ef345 m a0) ?_
  refine gb (mkF m 1 #[vr a0, .unset] [(.ref a0)]) (fun _ k => XS.aloadN X0.here hx rfl (hb hby d34_0) rfl rfl k) ?_
  obtain ⟨cl1, Ar1, qa1, Sa1, Na1, Ha1, Ga1⟩ := id pf0
  refine gb (mkF m 2 #[vr a0, .unset] [(.int 5)]) (fun t k => X0.arraylength hx (by rw [e0]; exact Ar1.1) (State.isArrayOf_alike hZ.alike Ar1.2.1) (g := (mkF m 1 #[vr a0, .unset] [(.ref a0)])) rfl rfl (hb hby d34_1) t (by rw [len_of Sa1 Na1]; exact k)) ?_
  refine gb (mkF m 59 #[vr a0, .unset] []) (fun _ k => XS.tswOut (pc0 := 2) X0.here hx rfl rfl (hb hby d34_2) rfl (by decide) (by decide) rfl k) ?_
  refine gb (mkF m 60 #[vr a0, .unset] [(.ref a0)]) (fun _ k => XS.aloadN X0.here hx rfl (hb hby d34_59) rfl rfl k) ?_
  obtain ⟨_, _, ⟨T2, L2, k2, n2⟩, -, X2, ⟨Lc2, hQ2, l2, y2, z2⟩, st2⟩ := callS X0 hx (y := mq44) hown (mvT hZ (hW hw 229 rfl)) (mvT hZ (hW hw 230 rfl)) (mvT hZ (hW hw 60 rfl)) (mvT hZ (hW hw 231 rfl)) (by decide) (backOf (W := 0) (rm355 l Z a0' hw [] a0 kk x0 x1 x2 x3 x4 wa wb wc wd we ka kc G1 h0 n0 O W pf0 pf1 pf2 pf3 pf4 pf5) hZ (hW hw 231 rfl) (hW hw 60 rfl) (by decide) (by decide)) (g := (mkF m 60 #[vr a0, .unset] [(.ref a0)])) rfl (by rw [hml]; rfl) (argsL := [(.ref a0)]) (rest := []) (lenOf pd359 rfl) rfl (Nat.le_of_eq rfl) (hb hby d34_60) (fun _ _ => ⟨rfl, e0, (by decide : 0 + 2 ≤ _), (by decide : 0 + 7 ≤ _)⟩)
  dsimp only [Pt.U, Pt.locs, Pt.cells, Pt.slots] at X2 l2 y2 z2 st2 hQ2
  subst l2 y2 z2
  obtain ⟨r_2, ar_2, kr_2, rfl, N2q, Kc2, fc2_0, fc2_1, fc2_2⟩ := hQ2
  have N2 := Fr.app N0 N2q
  refine gb (mkF m 63 #[vr a0, .unset] [(.ref r_2)]) st2 ?_
  have K3 := ((Keep.refl h0 []).trans Kc2 all0)
  exact Gl.outA X2 hx hk Bd.returns rfl rfl (hb hby d34_63) ⟨r_2, ar_2, kr_2, rfl, N2, K3, fc2_0, fc2_1, fc2_2⟩ (by decide) (by decide)
theorem ef105 (m : MethodId) (x0 : Addr) : entryFrame m #[(.ref x0)] 2 = mkF m 0 #[.val (.ref x0), .unset] [] := by first | (simp [entryFrame, mkF, argsToLocals, Value.category]; done) | rfl
def Q105 (Z : State) (a0 : Addr) (ea : Addr) (kk : ClassId) (x0 x1 x2 x3 x4 : Addr) (wa wb wc wd we : Addr) (ka kc : ClassId) (G1 : Int32) (h0 : Heap) (n0 : Nat) (v : Option Value) (h : Heap) (L : List Loc) : Prop := ∃ (r : Addr), ∃ (ar : Addr), ∃ (kr : ClassId), v = some (.ref r) ∧ Fr n0 L ∧ Keep h0 h [] ∧ Exa Z h r sN ∧ Fld Z h r sN "elements" sO (.ref ar) ∧ Arv Z h ar kr oT (5 : Int32) [(.ref x0), (.ref x1), (.ref x2), (.ref x3), (.ref x4)] .null
theorem rm105 (l : Launch) (Z : State) (a0' : Array Value) (hw : ∀ d ∈ tables_1, d.before a0' Z = true) (ws : List Jvm.Cond) (a0 : Addr) (ea : Addr) (kk : ClassId) (x0 x1 x2 x3 x4 : Addr) (wa wb wc wd we : Addr) (ka kc : ClassId) (G1 : Int32) (h0 : Heap) (n0 : Nat) (O : Old Z n0 h0) (W : Wd Z wa wb wc wd we ka kc G1) (pf0 : Exa Z h0 a0 sA) (pf1 : Fld Z h0 a0 sA "elementData" sO (.ref ea)) (pf2 : Fld Z h0 a0 sA "size" "I" (.int 5)) (pf3 : Exa Z h0 ea sO) (pf4 : Arv Z h0 ea kk oT (10 : Int32) [(.ref x0), (.ref x1), (.ref x2), (.ref x3), (.ref x4), .null, .null, .null, .null, .null] .null) (pf5 : Exa Z h0 x0 sI) (pf6 : Exa Z h0 x1 sI) (pf7 : Exa Z h0 x2 sI) (pf8 : Exa Z h0 x3 sI) (pf9 : Exa Z h0 x4 sI) :
    MetFree l mq38 (head1 (Jvm.Cond.code mq38 jdk_56_method_3_code 2 (some (.object "java/util/List")) :: ws) ({ frames := 7, cells := 3, slots := 12, locals := 90 } : Room)) (fun a U => a = #[(.ref a0)] ∧ Z.Warmed39 U.vm ∧ U.heap = h0) (fun _ _ _ _ _ => True) (fun _ U o U' => ∃ v L, o = .returned v ∧ Q105 Z a0 ea kk x0 x1 x2 x3 x4 wa wb wc wd we ka kc G1 h0 n0 v U'.heap L ∧ FrameEnd U o U' L ({ frames := 7, cells := 3, slots := 12, locals := 90 } : Room).cells ({ frames := 7, cells := 3, slots := 12, locals := 90 } : Room).slots) := by
  refine MetFree.of_bodySF (plainFor_of_name pn16) hisR ?_
  intro p e s m args below meth c s₁ Bd hml0 hP hK
  obtain ⟨rfl, hZ, hh⟩ := hP
  have hx := Bd.exec
  have hby := Bd.bytes
  have hml : c.maxLocals = 2 := hml0
  have hown : s.vm.findClass "java/util/ImmutableCollections" = some m.cls := findClass_of_methodNamed Bd.named
  have hnm := (name_of_methodNamed Bd.named Bd.method).1
  have hk := Bd.notSynchronized
  have X0 : Stand p l e ({ frames := 7, cells := 3, slots := 12, locals := 90 } : Room) s m #[(.ref a0)] below meth c s₁ [] 0 0 := Stand.of_body Bd
  have hh2 := hh
  have e0 : s₁.heap = h0 := by rw [← hh, Bd.state]; rfl
  have N0 := Fr.nil n0
  show Gl p e below (Pos 3 12 (Q105 Z a0 ea kk x0 x1 x2 x3 x4 wa wb wc wd we ka kc G1 h0 n0) s) s₁ _
  refine Gl.cast (ef105 m a0) ?_
  refine gb (mkF m 1 #[vr a0, .unset] [(.ref a0)]) (fun _ k => XS.aloadN X0.here hx rfl (hb hby d10_0) rfl rfl k) ?_
  obtain ⟨T1, X1, e1, st1⟩ := instNo X0 hx hZ hown (hW hw 62 rfl) e0 pf0 (ns_no (hW hw 63 rfl) (hW hw 259 rfl) (NS.step (hW hw 63 rfl) (NS.step (hW hw 64 rfl) (NS.step (hW hw 65 rfl) (ns_root (hW hw 66 rfl) (hW hw 259 rfl) (by decide)) (by decide)) (by decide)) (by decide)) (by decide)) (g := (mkF m 1 #[vr a0, .unset] [(.ref a0)])) rfl rfl (hb hby d10_1)
  refine gb (mkF m 4 #[vr a0, .unset] [(.int 0)]) st1 ?_
  refine gb (mkF m 7 #[vr a0, .unset] []) (fun _ k => XS.ifNo X1.here hx rfl (hb hby d10_4) rfl ((if0 _ _).trans (teq (by decide : (0 : Int32) = (0 : Int32))).2) k) ?_
  refine gb (mkF m 8 #[vr a0, .unset] [(.ref a0)]) (fun _ k => XS.aloadN X1.here hx rfl (hb hby d10_7) rfl rfl k) ?_
  obtain ⟨T2, X2, e2, st2⟩ := instNo X1 hx hZ hown (hW hw 67 rfl) e1 pf0 (ns_no (hW hw 63 rfl) (hW hw 237 rfl) (NS.step (hW hw 63 rfl) (NS.step (hW hw 64 rfl) (NS.step (hW hw 65 rfl) (ns_root (hW hw 66 rfl) (hW hw 237 rfl) (by decide)) (by decide)) (by decide)) (by decide)) (by decide)) (g := (mkF m 8 #[vr a0, .unset] [(.ref a0)])) rfl rfl (hb hby d10_8)
  refine gb (mkF m 11 #[vr a0, .unset] [(.int 0)]) st2 ?_
  refine gb (mkF m 31 #[vr a0, .unset] []) (fun _ k => XS.ifYes X2.here hx rfl (pc0 := 11) (pc' := 31) rfl (hb hby d10_11) rfl ((if0 _ _).trans (teq (by decide : (0 : Int32) = (0 : Int32))).1) (by decide) (by decide) k) ?_
  refine gb (mkF m 32 #[vr a0, .unset] [(.ref a0)]) (fun _ k => XS.aloadN X2.here hx rfl (hb hby d10_31) rfl rfl k) ?_
  obtain ⟨cq3, kq3, q3a, q3b, q3c⟩ := isOf hZ e2 pf0
  obtain ⟨_, _, ⟨T3, L3, k3, n3⟩, -, X3, ⟨Lc3, hQ3, l3, y3, z3⟩, st3⟩ := X2.interfaceBack hx (xi := mq39) (y := mq28) hown (mvT hZ (hW hw 68 rfl)) (mvT hZ (hW hw 69 rfl)) (mvT hZ (hW hw 70 rfl)) (mvT hZ (hW hw 71 rfl)) (mvT hZ (hW hw 72 rfl)) (mvT hZ (hW hw 73 rfl)) (mvT hZ (hW hw 74 rfl)) (mvT hZ (hW hw 75 rfl)) (by decide) (backOf (W := 0) (rm11s l Z a0' hw [] a0 (5 : Int32) wa wb wc wd we ka kc G1 h0 n0 O W pf0 pf2 (by decide)) hZ (hW hw 76 rfl) (hW hw 11 rfl) (by decide) (by decide)) q3a q3b q3c (g := (mkF m 32 #[vr a0, .unset] [(.ref a0)])) rfl (by rw [hml]; rfl) (Steps.refl _) (argsL := []) (rest := []) (lenOf pd334 rfl) rfl (Nat.le_of_eq rfl) (hb hby d10_32) (fun _ _ => ⟨rfl, e2, (by decide : 0 + 0 ≤ _), (by decide : 0 + 0 ≤ _)⟩)
  dsimp only [Pt.U, Pt.locs, Pt.cells, Pt.slots] at X3 l3 y3 z3 st3 hQ3
  subst l3 y3 z3
  obtain ⟨rfl, N3q, e3⟩ := hQ3
  have N3 := Fr.app N0 N3q
  refine gb (mkF m 37 #[vr a0, .unset] [(.int 0)]) (fun _ k => st3.trans k) ?_
  refine gb (mkF m 44 #[vr a0, .unset] []) (fun _ k => XS.ifYes X3.here hx rfl (pc0 := 37) (pc' := 44) rfl (hb hby d10_37) rfl ((if0 _ _).trans (teq (by decide : (0 : Int32) = (0 : Int32))).1) (by decide) (by decide) k) ?_
  refine gb (mkF m 45 #[vr a0, .unset] [(.ref a0)]) (fun _ k => XS.aloadN X3.here hx rfl (hb hby d10_44) rfl rfl k) ?_
  obtain ⟨cq4, kq4, q4a, q4b, q4c⟩ := isOf hZ e3 pf0
  obtain ⟨_, _, ⟨T4, L4, k4, n4⟩, -, X4, ⟨Lc4, hQ4, l4, y4, z4⟩, st4⟩ := X3.interfaceBack hx (xi := mq43) (y := mq21) hown (mvT hZ (hW hw 196 rfl)) (mvT hZ (hW hw 197 rfl)) (mvT hZ (hW hw 198 rfl)) (mvT hZ (hW hw 199 rfl)) (mvT hZ (hW hw 200 rfl)) (mvT hZ (hW hw 201 rfl)) (mvT hZ (hW hw 202 rfl)) (mvT hZ (hW hw 75 rfl)) (by decide) (backOf (W := 0) (rm305 l Z a0' hw [] a0 ea kk x0 x1 x2 x3 x4 wa wb wc wd we ka kc G1 h0 n0 O W pf0 pf1 pf2 pf3 pf4 pf5 pf6 pf7 pf8 pf9) hZ (hW hw 203 rfl) (hW hw 11 rfl) (by decide) (by decide)) q4a q4b q4c (g := (mkF m 45 #[vr a0, .unset] [(.ref a0)])) rfl (by rw [hml]; rfl) (Steps.refl _) (argsL := []) (rest := []) (lenOf pd50 rfl) rfl (Nat.le_of_eq rfl) (hb hby d10_45) (fun _ _ => ⟨rfl, e3, (by decide : 0 + 1 ≤ _), (by decide : 0 + 5 ≤ _)⟩)
  dsimp only [Pt.U, Pt.locs, Pt.cells, Pt.slots] at X4 l4 y4 z4 st4 hQ4
  subst l4 y4 z4
  obtain ⟨r_4, kr_4, rfl, N4q, Kc4, fc4_0, fc4_1⟩ := hQ4
  have N4 := Fr.app N3 N4q
  refine gb (mkF m 50 #[vr a0, .unset] [(.ref r_4)]) (fun _ k => st4.trans k) ?_
  have K6 := ((Keep.refl h0 []).trans Kc4 all0)
  have f7 := (Exa.keep pf5 Kc4)
  have f8 := (Exa.keep pf6 Kc4)
  have f9 := (Exa.keep pf7 Kc4)
  have f10 := (Exa.keep pf8 Kc4)
  have f11 := (Exa.keep pf9 Kc4)
  have O12 := (O.keep Kc4 all0)
  obtain ⟨_, _, ⟨T5, L5, k5, n5⟩, -, X5, ⟨Lc5, hQ5, l5, y5, z5⟩, st5⟩ := callS X4 hx (y := mq42) hown (mvT hZ (hW hw 226 rfl)) (mvT hZ (hW hw 227 rfl)) (mvT hZ (hW hw 56 rfl)) (mvT hZ (hW hw 228 rfl)) (by decide) (backOf (W := 0) (rm345 l Z a0' hw [] r_4 kr_4 x0 x1 x2 x3 x4 wa wb wc wd we ka kc G1 T4.heap n0 O12 W fc4_0 f7 f8 f9 f10 f11) hZ (hW hw 228 rfl) (hW hw 56 rfl) (by decide) (by decide)) (g := (mkF m 50 #[vr a0, .unset] [(.ref r_4)])) rfl (by rw [hml]; rfl) (argsL := [(.ref r_4)]) (rest := []) (lenOf pd359 rfl) rfl (Nat.le_of_eq rfl) (hb hby d10_50) (fun _ _ => ⟨rfl, rfl, (by decide : 1 + 2 ≤ _), (by decide : 5 + 7 ≤ _)⟩)
  dsimp only [Pt.U, Pt.locs, Pt.cells, Pt.slots] at X5 l5 y5 z5 st5 hQ5
  subst l5 y5 z5
  obtain ⟨r_5, ar_5, kr_5, rfl, N5q, Kc5, fc5_0, fc5_1, fc5_2⟩ := hQ5
  have N5 := Fr.app N4 N5q
  refine gb (mkF m 53 #[vr a0, .unset] [(.ref r_5)]) st5 ?_
  have K13 := (K6.trans Kc5 all0)
  exact Gl.outA X5 hx hk Bd.returns rfl rfl (hb hby d10_53) ⟨r_5, ar_5, kr_5, rfl, N5, K13, fc5_0, fc5_1, fc5_2⟩ (by decide) (by decide)
theorem ef95 (m : MethodId) (x0 : Addr) : entryFrame m #[(.ref x0)] 1 = mkF m 0 #[.val (.ref x0)] [] := by first | (simp [entryFrame, mkF, argsToLocals, Value.category]; done) | rfl
def Q95 (Z : State) (a0 : Addr) (ea : Addr) (kk : ClassId) (x0 x1 x2 x3 x4 : Addr) (wa wb wc wd we : Addr) (ka kc : ClassId) (G1 : Int32) (h0 : Heap) (n0 : Nat) (v : Option Value) (h : Heap) (L : List Loc) : Prop := ∃ (r : Addr), ∃ (ar : Addr), ∃ (kr : ClassId), v = some (.ref r) ∧ Fr n0 L ∧ Keep h0 h [] ∧ Exa Z h r sN ∧ Fld Z h r sN "elements" sO (.ref ar) ∧ Arv Z h ar kr oT (5 : Int32) [(.ref x0), (.ref x1), (.ref x2), (.ref x3), (.ref x4)] .null
theorem rm95 (l : Launch) (Z : State) (a0' : Array Value) (hw : ∀ d ∈ tables_1, d.before a0' Z = true) (ws : List Jvm.Cond) (a0 : Addr) (ea : Addr) (kk : ClassId) (x0 x1 x2 x3 x4 : Addr) (wa wb wc wd we : Addr) (ka kc : ClassId) (G1 : Int32) (h0 : Heap) (n0 : Nat) (O : Old Z n0 h0) (W : Wd Z wa wb wc wd we ka kc G1) (pf0 : Exa Z h0 a0 sA) (pf1 : Fld Z h0 a0 sA "elementData" sO (.ref ea)) (pf2 : Fld Z h0 a0 sA "size" "I" (.int 5)) (pf3 : Exa Z h0 ea sO) (pf4 : Arv Z h0 ea kk oT (10 : Int32) [(.ref x0), (.ref x1), (.ref x2), (.ref x3), (.ref x4), .null, .null, .null, .null, .null] .null) (pf5 : Exa Z h0 x0 sI) (pf6 : Exa Z h0 x1 sI) (pf7 : Exa Z h0 x2 sI) (pf8 : Exa Z h0 x3 sI) (pf9 : Exa Z h0 x4 sI) :
    MetFree l mq40 (head1 (Jvm.Cond.code mq40 jdk_40_method_48_code 1 (some (.object "java/util/List")) :: ws) ({ frames := 8, cells := 3, slots := 12, locals := 103 } : Room)) (fun a U => a = #[(.ref a0)] ∧ Z.Warmed39 U.vm ∧ U.heap = h0) (fun _ _ _ _ _ => True) (fun _ U o U' => ∃ v L, o = .returned v ∧ Q95 Z a0 ea kk x0 x1 x2 x3 x4 wa wb wc wd we ka kc G1 h0 n0 v U'.heap L ∧ FrameEnd U o U' L ({ frames := 8, cells := 3, slots := 12, locals := 103 } : Room).cells ({ frames := 8, cells := 3, slots := 12, locals := 103 } : Room).slots) := by
  refine MetFree.of_bodySF (plainFor_of_name pn10) hisR ?_
  intro p e s m args below meth c s₁ Bd hml0 hP hK
  obtain ⟨rfl, hZ, hh⟩ := hP
  have hx := Bd.exec
  have hby := Bd.bytes
  have hml : c.maxLocals = 1 := hml0
  have hown : s.vm.findClass "java/util/List" = some m.cls := findClass_of_methodNamed Bd.named
  have hnm := (name_of_methodNamed Bd.named Bd.method).1
  have hk := Bd.notSynchronized
  have X0 : Stand p l e ({ frames := 8, cells := 3, slots := 12, locals := 103 } : Room) s m #[(.ref a0)] below meth c s₁ [] 0 0 := Stand.of_body Bd
  have hh2 := hh
  have e0 : s₁.heap = h0 := by rw [← hh, Bd.state]; rfl
  have N0 := Fr.nil n0
  show Gl p e below (Pos 3 12 (Q95 Z a0 ea kk x0 x1 x2 x3 x4 wa wb wc wd we ka kc G1 h0 n0) s) s₁ _
  refine Gl.cast (ef95 m a0) ?_
  refine gb (mkF m 1 #[vr a0] [(.ref a0)]) (fun _ k => XS.aloadN X0.here hx rfl (hb hby d9_0) rfl rfl k) ?_
  obtain ⟨_, _, ⟨T1, L1, k1, n1⟩, -, X1, ⟨Lc1, hQ1, l1, y1, z1⟩, st1⟩ := callS X0 hx (y := mq38) hown (mvT hZ (hW hw 58 rfl)) (mvT hZ (hW hw 59 rfl)) (mvT hZ (hW hw 60 rfl)) (mvT hZ (hW hw 61 rfl)) (by decide) (backOf (W := 0) (rm105 l Z a0' hw [] a0 ea kk x0 x1 x2 x3 x4 wa wb wc wd we ka kc G1 h0 n0 O W pf0 pf1 pf2 pf3 pf4 pf5 pf6 pf7 pf8 pf9) hZ (hW hw 61 rfl) (hW hw 60 rfl) (by decide) (by decide)) (g := (mkF m 1 #[vr a0] [(.ref a0)])) rfl (by rw [hml]; rfl) (argsL := [(.ref a0)]) (rest := []) (lenOf pd339 rfl) rfl (Nat.le_of_eq rfl) (hb hby d9_1) (fun _ _ => ⟨rfl, e0, (by decide : 0 + 3 ≤ _), (by decide : 0 + 12 ≤ _)⟩)
  dsimp only [Pt.U, Pt.locs, Pt.cells, Pt.slots] at X1 l1 y1 z1 st1 hQ1
  subst l1 y1 z1
  obtain ⟨r_1, ar_1, kr_1, rfl, N1q, Kc1, fc1_0, fc1_1, fc1_2⟩ := hQ1
  have N1 := Fr.app N0 N1q
  refine gb (mkF m 4 #[vr a0] [(.ref r_1)]) st1 ?_
  have K2 := ((Keep.refl h0 []).trans Kc1 all0)
  exact Gl.outA X1 hx hk Bd.returns rfl rfl (hb hby d9_4) ⟨r_1, ar_1, kr_1, rfl, N1, K2, fc1_0, fc1_1, fc1_2⟩ (by decide) (by decide)
theorem ef85 (m : MethodId) (x0 : Addr) : entryFrame m #[(.ref x0)] 1 = mkF m 0 #[.val (.ref x0)] [] := by first | (simp [entryFrame, mkF, argsToLocals, Value.category]; done) | rfl
def Q85 (Z : State) (a0 : Addr) (la : Addr) (ea : Addr) (kk : ClassId) (x0 x1 x2 x3 x4 : Addr) (wa wb wc wd we : Addr) (ka kc : ClassId) (G1 : Int32) (h0 : Heap) (n0 : Nat) (v : Option Value) (h : Heap) (L : List Loc) : Prop := ∃ (r : Addr), ∃ (ar : Addr), ∃ (kr : ClassId), v = some (.ref r) ∧ Fr n0 L ∧ Keep h0 h [] ∧ Exa Z h r sN ∧ Fld Z h r sN "elements" sO (.ref ar) ∧ Arv Z h ar kr oT (5 : Int32) [(.ref x0), (.ref x1), (.ref x2), (.ref x3), (.ref x4)] .null
theorem rm85 (l : Launch) (Z : State) (a0' : Array Value) (hw : ∀ d ∈ tables_1, d.before a0' Z = true) (ws : List Jvm.Cond) (a0 : Addr) (la : Addr) (ea : Addr) (kk : ClassId) (x0 x1 x2 x3 x4 : Addr) (wa wb wc wd we : Addr) (ka kc : ClassId) (G1 : Int32) (h0 : Heap) (n0 : Nat) (O : Old Z n0 h0) (W : Wd Z wa wb wc wd we ka kc G1) (pf0 : Exa Z h0 a0 sF) (pf1 : Fld Z h0 a0 sF "found" "I" (.int 5)) (pf2 : Fld Z h0 a0 sF "params" "Ljava/util/List;" (.ref la)) (pf3 : Exa Z h0 la sA) (pf4 : Fld Z h0 la sA "elementData" sO (.ref ea)) (pf5 : Fld Z h0 la sA "size" "I" (.int 5)) (pf6 : Exa Z h0 ea sO) (pf7 : Arv Z h0 ea kk oT (10 : Int32) [(.ref x0), (.ref x1), (.ref x2), (.ref x3), (.ref x4), .null, .null, .null, .null, .null] .null) (pf8 : Exa Z h0 x0 sI) (pf9 : Exa Z h0 x1 sI) (pf10 : Exa Z h0 x2 sI) (pf11 : Exa Z h0 x3 sI) (pf12 : Exa Z h0 x4 sI) :
    MetFree l mq41 (head1 (Jvm.Cond.code mq41 prog_17_method_8_code 1 (some (.object "java/util/List")) :: ws) ({ frames := 9, cells := 3, slots := 12, locals := 115 } : Room)) (fun a U => a = #[(.ref a0)] ∧ Z.Warmed39 U.vm ∧ U.heap = h0) (fun _ _ _ _ _ => True) (fun _ U o U' => ∃ v L, o = .returned v ∧ Q85 Z a0 la ea kk x0 x1 x2 x3 x4 wa wb wc wd we ka kc G1 h0 n0 v U'.heap L ∧ FrameEnd U o U' L ({ frames := 9, cells := 3, slots := 12, locals := 115 } : Room).cells ({ frames := 9, cells := 3, slots := 12, locals := 115 } : Room).slots) := by
  refine MetFree.of_bodySF (plainFor_of_name pn3) hisR ?_
  intro p e s m args below meth c s₁ Bd hml0 hP hK
  obtain ⟨rfl, hZ, hh⟩ := hP
  have hx := Bd.exec
  have hby := Bd.bytes
  have hml : c.maxLocals = 1 := hml0
  have hown : s.vm.findClass sF = some m.cls := findClass_of_methodNamed Bd.named
  have hnm := (name_of_methodNamed Bd.named Bd.method).1
  have hk := Bd.notSynchronized
  have X0 : Stand p l e ({ frames := 9, cells := 3, slots := 12, locals := 115 } : Room) s m #[(.ref a0)] below meth c s₁ [] 0 0 := Stand.of_body Bd
  have hh2 := hh
  have e0 : s₁.heap = h0 := by rw [← hh, Bd.state]; rfl
  have N0 := Fr.nil n0
  show Gl p e below (Pos 3 12 (Q85 Z a0 la ea kk x0 x1 x2 x3 x4 wa wb wc wd we ka kc G1 h0 n0) s) s₁ _
  refine Gl.cast (ef85 m a0) ?_
  refine gb (mkF m 1 #[vr a0] [(.ref a0)]) (fun _ k => XS.aloadN X0.here hx rfl (hb hby d8_0) rfl rfl k) ?_
  obtain ⟨T1, X1, e1, st1⟩ := getF X0 hx hZ hown (host := "") (Or.inl (hW hw 33 rfl)) Via.refl e0 pf2 (g := (mkF m 1 #[vr a0] [(.ref a0)])) rfl rfl (hb hby d8_1)
  refine gb (mkF m 4 #[vr a0] [(.ref la)]) st1 ?_
  obtain ⟨_, _, ⟨T2, L2, k2, n2⟩, -, X2, ⟨Lc2, hQ2, l2, y2, z2⟩, st2⟩ := callS X1 hx (y := mq40) hown (mvT hZ (hW hw 54 rfl)) (mvT hZ (hW hw 55 rfl)) (mvT hZ (hW hw 56 rfl)) (mvT hZ (hW hw 57 rfl)) (by decide) (backOf (W := 0) (rm95 l Z a0' hw [] la ea kk x0 x1 x2 x3 x4 wa wb wc wd we ka kc G1 h0 n0 O W pf3 pf4 pf5 pf6 pf7 pf8 pf9 pf10 pf11 pf12) hZ (hW hw 57 rfl) (hW hw 56 rfl) (by decide) (by decide)) (g := (mkF m 4 #[vr a0] [(.ref la)])) rfl (by rw [hml]; rfl) (argsL := [(.ref la)]) (rest := []) (lenOf pd339 rfl) rfl (Nat.le_of_eq rfl) (hb hby d8_4) (fun _ _ => ⟨rfl, e1, (by decide : 0 + 3 ≤ _), (by decide : 0 + 12 ≤ _)⟩)
  dsimp only [Pt.U, Pt.locs, Pt.cells, Pt.slots] at X2 l2 y2 z2 st2 hQ2
  subst l2 y2 z2
  obtain ⟨r_2, ar_2, kr_2, rfl, N2q, Kc2, fc2_0, fc2_1, fc2_2⟩ := hQ2
  have N2 := Fr.app N0 N2q
  refine gb (mkF m 7 #[vr a0] [(.ref r_2)]) st2 ?_
  have K3 := ((Keep.refl h0 []).trans Kc2 all0)
  exact Gl.outA X2 hx hk Bd.returns rfl rfl (hb hby d8_7) ⟨r_2, ar_2, kr_2, rfl, N2, K3, fc2_0, fc2_1, fc2_2⟩ (by decide) (by decide)
theorem ef356 (m : MethodId) (x0 : Addr) : entryFrame m #[(.ref x0)] 3 = mkF m 0 #[.val (.ref x0), .unset, .unset] [] := by first | (simp [entryFrame, mkF, argsToLocals, Value.category]; done) | rfl
def Q356 (Z : State) (a0 : Addr) (kk : ClassId) (x0 x1 x2 x3 x4 x5 : Addr) (wa wb wc wd we : Addr) (ka kc : ClassId) (G1 : Int32) (h0 : Heap) (n0 : Nat) (v : Option Value) (h : Heap) (L : List Loc) : Prop := ∃ (r : Addr), ∃ (ar : Addr), ∃ (kr : ClassId), v = some (.ref r) ∧ Fr n0 L ∧ Keep h0 h [] ∧ Exa Z h r sN ∧ Fld Z h r sN "elements" sO (.ref ar) ∧ Arv Z h ar kr oT (6 : Int32) [(.ref x0), (.ref x1), (.ref x2), (.ref x3), (.ref x4), (.ref x5)] .null
theorem rm356 (l : Launch) (Z : State) (a0' : Array Value) (hw : ∀ d ∈ tables_1, d.before a0' Z = true) (ws : List Jvm.Cond) (a0 : Addr) (kk : ClassId) (x0 x1 x2 x3 x4 x5 : Addr) (wa wb wc wd we : Addr) (ka kc : ClassId) (G1 : Int32) (h0 : Heap) (n0 : Nat) (O : Old Z n0 h0) (W : Wd Z wa wb wc wd we ka kc G1) (pf0 : Arv Z h0 a0 kk oT (6 : Int32) [(.ref x0), (.ref x1), (.ref x2), (.ref x3), (.ref x4), (.ref x5)] .null) (pf1 : Exa Z h0 x0 sI) (pf2 : Exa Z h0 x1 sI) (pf3 : Exa Z h0 x2 sI) (pf4 : Exa Z h0 x3 sI) (pf5 : Exa Z h0 x4 sI) (pf6 : Exa Z h0 x5 sI) :
    MetFree l mq44 (head1 (Jvm.Cond.code mq44 jdk_56_method_4_code 3 (some (.object "java/util/List")) :: ws) ({ frames := 5, cells := 2, slots := 8, locals := 63 } : Room)) (fun a U => a = #[(.ref a0)] ∧ Z.Warmed39 U.vm ∧ U.heap = h0) (fun _ _ _ _ _ => True) (fun _ U o U' => ∃ v L, o = .returned v ∧ Q356 Z a0 kk x0 x1 x2 x3 x4 x5 wa wb wc wd we ka kc G1 h0 n0 v U'.heap L ∧ FrameEnd U o U' L ({ frames := 5, cells := 2, slots := 8, locals := 63 } : Room).cells ({ frames := 5, cells := 2, slots := 8, locals := 63 } : Room).slots) := by
  refine MetFree.of_bodySF (plainFor_of_name pn16) hisR ?_
  intro p e s m args below meth c s₁ Bd hml0 hP hK
  obtain ⟨rfl, hZ, hh⟩ := hP
  have hx := Bd.exec
  have hby := Bd.bytes
  have hml : c.maxLocals = 3 := hml0
  have hown : s.vm.findClass "java/util/ImmutableCollections" = some m.cls := findClass_of_methodNamed Bd.named
  have hnm := (name_of_methodNamed Bd.named Bd.method).1
  have hk := Bd.notSynchronized
  have X0 : Stand p l e ({ frames := 5, cells := 2, slots := 8, locals := 63 } : Room) s m #[(.ref a0)] below meth c s₁ [] 0 0 := Stand.of_body Bd
  have hh2 := hh
  have e0 : s₁.heap = h0 := by rw [← hh, Bd.state]; rfl
  have N0 := Fr.nil n0
  show Gl p e below (Pos 2 8 (Q356 Z a0 kk x0 x1 x2 x3 x4 x5 wa wb wc wd we ka kc G1 h0 n0) s) s₁ _
  refine Gl.cast (ef356 m a0) ?_
  refine gb (mkF m 1 #[vr a0, .unset, .unset] [(.ref a0)]) (fun _ k => XS.aloadN X0.here hx rfl (hb hby d35_0) rfl rfl k) ?_
  obtain ⟨cl1, Ar1, qa1, Sa1, Na1, Ha1, Ga1⟩ := id pf0
  refine gb (mkF m 2 #[vr a0, .unset, .unset] [(.int 6)]) (fun t k => X0.arraylength hx (by rw [e0]; exact Ar1.1) (State.isArrayOf_alike hZ.alike Ar1.2.1) (g := (mkF m 1 #[vr a0, .unset, .unset] [(.ref a0)])) rfl rfl (hb hby d35_1) t (by rw [len_of Sa1 Na1]; exact k)) ?_
  obtain ⟨T2, h2, k2, X2, e2, E2, A2, Ov2, st2⟩ := newRX X0 hx hZ hown (hW hw 232 rfl) (hW hw 188 rfl) rfl e0 (g := (mkF m 2 #[vr a0, .unset, .unset] [(.int 6)])) rfl (hb hby d35_2) rfl (by decide) (cap := 6) (by decide) (by decide) (by decide) (by decide)
  obtain ⟨b2, g2⟩ : ∃ z, z = (h0).size := ⟨_, rfl⟩
  rw [← g2] at A2 st2
  have gb2 : n0 ≤ b2 := Nat.le_trans (Nat.le_trans (Nat.le_of_eq O.1.symm) O.2.1) (Nat.le_of_eq g2.symm)
  have sb2 : h0.size ≤ b2 := Nat.le_trans (Keep.refl h0 []).1 (Nat.le_of_eq g2.symm)
  have ne2_0 : a0 ≠ b2 := Nat.ne_of_lt (Nat.lt_of_lt_of_le pf0.lt (Nat.le_of_eq g2.symm))
  have ne2_2 : x0 ≠ b2 := Nat.ne_of_lt (Nat.lt_of_lt_of_le pf1.lt (Nat.le_of_eq g2.symm))
  have ne2_4 : x1 ≠ b2 := Nat.ne_of_lt (Nat.lt_of_lt_of_le pf2.lt (Nat.le_of_eq g2.symm))
  have ne2_6 : x2 ≠ b2 := Nat.ne_of_lt (Nat.lt_of_lt_of_le pf3.lt (Nat.le_of_eq g2.symm))
  have ne2_8 : x3 ≠ b2 := Nat.ne_of_lt (Nat.lt_of_lt_of_le pf4.lt (Nat.le_of_eq g2.symm))
  have ne2_10 : x4 ≠ b2 := Nat.ne_of_lt (Nat.lt_of_lt_of_le pf5.lt (Nat.le_of_eq g2.symm))
  have ne2_12 : x5 ≠ b2 := Nat.ne_of_lt (Nat.lt_of_lt_of_le pf6.lt (Nat.le_of_eq g2.symm))
  have ne2_14 : wa ≠ b2 := Nat.ne_of_lt (Nat.lt_of_lt_of_le (Arv.ext W.2.1 O.2).lt (Nat.le_of_eq g2.symm))
  have ne2_16 : wc ≠ b2 := Nat.ne_of_lt (Nat.lt_of_lt_of_le (Arv.ext W.2.2.2.2.2.1 O.2).lt (Nat.le_of_eq g2.symm))
  have ne2_18 : wb ≠ b2 := Nat.ne_of_lt (Nat.lt_of_lt_of_le (Exa.ext O.2 W.2.2.2.1).lt (Nat.le_of_eq g2.symm))
  have ne2_20 : wd ≠ b2 := Nat.ne_of_lt (Nat.lt_of_lt_of_le (Exa.ext O.2 W.2.2.2.2.2.2.2.1).lt (Nat.le_of_eq g2.symm))
  have V2 : Arv Z h2 b2 k2 oT (6 : Int32) [.null, .null, .null, .null, .null, .null] .null := (Arv.new A2 (by decide)).pad (pad_rep [] .null 6)
  rw [← g2] at Ov2
  refine gb (mkF m 5 #[vr a0, .unset, .unset] [(.ref b2)]) st2 ?_
  refine gb (mkF m 6 #[vr a0, vr b2, .unset] []) (fun _ k => XS.astoreN X2.here hx rfl (hb hby d35_5) rfl rfl (l' := #[vr a0, vr b2, .unset]) rfl k) ?_
  refine gb (mkF m 7 #[vr a0, vr b2, .unset] [(.int 0)]) (fun _ k => XS.iconst X2.here hx rfl (hb hby d35_6) k) ?_
  refine gb (mkF m 8 #[vr a0, vr b2, vi 0] []) (fun _ k => XS.istoreN X2.here hx rfl (hb hby d35_7) rfl (l' := #[vr a0, vr b2, vi 0]) rfl k) ?_
  refine gb (mkF m 9 #[vr a0, vr b2, vi 0] [(.int 0)]) (fun _ k => XS.iloadN X2.here hx rfl (hb hby d35_8) rfl k) ?_
  refine gb (mkF m 10 #[vr a0, vr b2, vi 0] [(.ref a0), (.int 0)]) (fun _ k => XS.aloadN X2.here hx rfl (hb hby d35_9) rfl rfl k) ?_
  have f3 := (Arv.ext pf0 E2)
  obtain ⟨cl4, Ar4, qa4, Sa4, Na4, Ha4, Ga4⟩ := id f3
  refine gb (mkF m 11 #[vr a0, vr b2, vi 0] [(.int 6), (.int 0)]) (fun t k => X2.arraylength hx (by rw [e2]; exact Ar4.1) (State.isArrayOf_alike hZ.alike Ar4.2.1) (g := (mkF m 10 #[vr a0, vr b2, vi 0] [(.ref a0), (.int 0)])) rfl rfl (hb hby d35_10) t (by rw [len_of Sa4 Na4]; exact k)) ?_
  refine gb (mkF m 14 #[vr a0, vr b2, vi 0] []) (fun _ k => XS.icmpNo X2.here hx rfl (hb hby d35_11) rfl (tlt (by decide : (0 : Int32) < (6 : Int32))).2.1 k) ?_
  refine gb (mkF m 15 #[vr a0, vr b2, vi 0] [(.ref b2)]) (fun _ k => XS.aloadN X2.here hx rfl (hb hby d35_14) rfl rfl k) ?_
  refine gb (mkF m 16 #[vr a0, vr b2, vi 0] [(.int 0), (.ref b2)]) (fun _ k => XS.iloadN X2.here hx rfl (hb hby d35_15) rfl k) ?_
  refine gb (mkF m 17 #[vr a0, vr b2, vi 0] [(.ref a0), (.int 0), (.ref b2)]) (fun _ k => XS.aloadN X2.here hx rfl (hb hby d35_16) rfl rfl k) ?_
  refine gb (mkF m 18 #[vr a0, vr b2, vi 0] [(.int 0), (.ref a0), (.int 0), (.ref b2)]) (fun _ k => XS.iloadN X2.here hx rfl (hb hby d35_17) rfl k) ?_
  obtain ⟨cl5, Ar5, qa5, Sa5, Na5, Ha5, Ga5⟩ := id f3
  have hin6 : ¬ ((0 : Int32) < 0 ∨ cl5.slots.size ≤ ((0 : Int32)).toNatClampNeg) := inb_of Sa5 ⟨by decide, by decide⟩
  refine gb (mkF m 19 #[vr a0, vr b2, vi 0] [(.ref x0), (.int 0), (.ref b2)]) (X2.aaload hx (j := (0 : Int32)) (v := (.ref x0)) (by rw [e2]; exact Ar5.1) (State.isArrayOf_alike hZ.alike Ar5.2.1) rfl Ar5.2.2 hin6 (Has.at Ha5 hin6 rfl) (g := (mkF m 18 #[vr a0, vr b2, vi 0] [(.int 0), (.ref a0), (.int 0), (.ref b2)])) rfl rfl (hb hby d35_18)) ?_
  have K8 := ((Keep.refl h0 []).ext E2)
  have O9 := (O.ext E2)
  obtain ⟨_, _, ⟨T7, L7, k7, n7⟩, -, X7, ⟨Lc7, hQ7, l7, y7, z7⟩, st7⟩ := callS X2 hx (y := mq32) hown (mvT hZ (hW hw 233 rfl)) (mvT hZ (hW hw 234 rfl)) (mvT hZ (hW hw 235 rfl)) (mvT hZ (hW hw 236 rfl)) (by decide) (backOf (W := 2) (rm36 l Z a0' hw [] x0 wa wb wc wd we ka kc G1 h2 n0 O9 W ) hZ (hW hw 236 rfl) (hW hw 235 rfl) (by decide) (by decide)) (g := (mkF m 19 #[vr a0, vr b2, vi 0] [(.ref x0), (.int 0), (.ref b2)])) rfl (by rw [hml]; rfl) (argsL := [(.ref x0)]) (rest := [(.int 0), (.ref b2)]) (lenOf pd311 rfl) rfl (Nat.le_of_eq rfl) (hb hby d35_19) (fun _ _ => ⟨rfl, e2, (by decide : 1 + 0 ≤ _), (by decide : 6 + 0 ≤ _)⟩)
  dsimp only [Pt.U, Pt.locs, Pt.cells, Pt.slots] at X7 l7 y7 z7 st7 hQ7
  subst l7 y7 z7
  obtain ⟨rfl, N7q, e7⟩ := hQ7
  have N7 := Fr.app N0 N7q
  refine gb (mkF m 22 #[vr a0, vr b2, vi 0] [(.ref x0), (.int 0), (.ref b2)]) st7 ?_
  obtain ⟨cl10, Ar10, qa10, Sa10, Na10, Ha10, Ga10⟩ := id V2
  have hin11 : ¬ ((0 : Int32) < 0 ∨ cl10.slots.size ≤ ((0 : Int32)).toNatClampNeg) := inb_of Sa10 ⟨by decide, by decide⟩
  have f12 := (Exa.ext E2 pf1)
  obtain ⟨T11, h11, X11, e11, W11, st11⟩ := stR X7 hx hZ e7 Ar10 (j := (0 : Int32)) hin11 rfl (Sto.ofV Ar10 qa10 Ov2.1 (Ins.of_exa f12 (hW hw 189 rfl))) (g := (mkF m 22 #[vr a0, vr b2, vi 0] [(.ref x0), (.int 0), (.ref b2)])) rfl rfl (hb hby d35_22)
  have V11 : Arv Z h11 b2 k2 oT (6 : Int32) [(.ref x0), .null, .null, .null, .null, .null] .null := Arv.set Ar10 qa10 Sa10 Na10 Ha10 Ga10 rfl W11 0 rfl (Nat.le_of_ble_eq_true rfl)
  have N11 := Fr.snoc X11 N7 gb2
  refine gb (mkF m 23 #[vr a0, vr b2, vi 0] []) st11 ?_
  refine gb (mkF m 26 #[vr a0, vr b2, vi 1] []) (fun _ k => XS.iinc X11.here hx rfl (hb hby d35_23) rfl (l' := #[vr a0, vr b2, vi 1]) rfl k) ?_
  refine gb (mkF m 8 #[vr a0, vr b2, vi 1] []) (fun _ k => XS.goto X11.here hx rfl (pc0 := 26) (pc' := 8) rfl (hb hby d35_26) (by decide) (by decide) k) ?_
  refine gb (mkF m 9 #[vr a0, vr b2, vi 1] [(.int 1)]) (fun _ k => XS.iloadN X11.here hx rfl (hb hby d35_8) rfl k) ?_
  refine gb (mkF m 10 #[vr a0, vr b2, vi 1] [(.ref a0), (.int 1)]) (fun _ k => XS.aloadN X11.here hx rfl (hb hby d35_9) rfl rfl k) ?_
  have f13 := (Arv.other f3 W11 ne2_0)
  obtain ⟨cl14, Ar14, qa14, Sa14, Na14, Ha14, Ga14⟩ := id f13
  refine gb (mkF m 11 #[vr a0, vr b2, vi 1] [(.int 6), (.int 1)]) (fun t k => X11.arraylength hx (by rw [e11]; exact Ar14.1) (State.isArrayOf_alike hZ.alike Ar14.2.1) (g := (mkF m 10 #[vr a0, vr b2, vi 1] [(.ref a0), (.int 1)])) rfl rfl (hb hby d35_10) t (by rw [len_of Sa14 Na14]; exact k)) ?_
  refine gb (mkF m 14 #[vr a0, vr b2, vi 1] []) (fun _ k => XS.icmpNo X11.here hx rfl (hb hby d35_11) rfl (tlt (by decide : (1 : Int32) < (6 : Int32))).2.1 k) ?_
  refine gb (mkF m 15 #[vr a0, vr b2, vi 1] [(.ref b2)]) (fun _ k => XS.aloadN X11.here hx rfl (hb hby d35_14) rfl rfl k) ?_
  refine gb (mkF m 16 #[vr a0, vr b2, vi 1] [(.int 1), (.ref b2)]) (fun _ k => XS.iloadN X11.here hx rfl (hb hby d35_15) rfl k) ?_
  refine gb (mkF m 17 #[vr a0, vr b2, vi 1] [(.ref a0), (.int 1), (.ref b2)]) (fun _ k => XS.aloadN X11.here hx rfl (hb hby d35_16) rfl rfl k) ?_
  refine gb (mkF m 18 #[vr a0, vr b2, vi 1] [(.int 1), (.ref a0), (.int 1), (.ref b2)]) (fun _ k => XS.iloadN X11.here hx rfl (hb hby d35_17) rfl k) ?_
  obtain ⟨cl15, Ar15, qa15, Sa15, Na15, Ha15, Ga15⟩ := id f13
  have hin16 : ¬ ((1 : Int32) < 0 ∨ cl15.slots.size ≤ ((1 : Int32)).toNatClampNeg) := inb_of Sa15 ⟨by decide, by decide⟩
  refine gb (mkF m 19 #[vr a0, vr b2, vi 1] [(.ref x1), (.int 1), (.ref b2)]) (X11.aaload hx (j := (1 : Int32)) (v := (.ref x1)) (by rw [e11]; exact Ar15.1) (State.isArrayOf_alike hZ.alike Ar15.2.1) rfl Ar15.2.2 hin16 (Has.at Ha15 hin16 rfl) (g := (mkF m 18 #[vr a0, vr b2, vi 1] [(.int 1), (.ref a0), (.int 1), (.ref b2)])) rfl rfl (hb hby d35_18)) ?_
  have K18 := (K8.wr W11 (Or.inr sb2))
  have O19 := (O9.wr W11 gb2)
  obtain ⟨_, _, ⟨T17, L17, k17, n17⟩, -, X17, ⟨Lc17, hQ17, l17, y17, z17⟩, st17⟩ := callS X11 hx (y := mq32) hown (mvT hZ (hW hw 233 rfl)) (mvT hZ (hW hw 234 rfl)) (mvT hZ (hW hw 235 rfl)) (mvT hZ (hW hw 236 rfl)) (by decide) (backOf (W := 2) (rm36 l Z a0' hw [] x1 wa wb wc wd we ka kc G1 h11 n0 O19 W ) hZ (hW hw 236 rfl) (hW hw 235 rfl) (by decide) (by decide)) (g := (mkF m 19 #[vr a0, vr b2, vi 1] [(.ref x1), (.int 1), (.ref b2)])) rfl (by rw [hml]; rfl) (argsL := [(.ref x1)]) (rest := [(.int 1), (.ref b2)]) (lenOf pd311 rfl) rfl (Nat.le_of_eq rfl) (hb hby d35_19) (fun _ _ => ⟨rfl, e11, (by decide : 1 + 0 ≤ _), (by decide : 6 + 0 ≤ _)⟩)
  dsimp only [Pt.U, Pt.locs, Pt.cells, Pt.slots] at X17 l17 y17 z17 st17 hQ17
  subst l17 y17 z17
  obtain ⟨rfl, N17q, e17⟩ := hQ17
  have N17 := Fr.app N11 N17q
  refine gb (mkF m 22 #[vr a0, vr b2, vi 1] [(.ref x1), (.int 1), (.ref b2)]) st17 ?_
  obtain ⟨cl20, Ar20, qa20, Sa20, Na20, Ha20, Ga20⟩ := id V11
  have hin21 : ¬ ((1 : Int32) < 0 ∨ cl20.slots.size ≤ ((1 : Int32)).toNatClampNeg) := inb_of Sa20 ⟨by decide, by decide⟩
  have f22 := (Exa.wr W11 (Exa.ext E2 pf2))
  obtain ⟨T21, h21, X21, e21, W21, st21⟩ := stR X17 hx hZ e17 Ar20 (j := (1 : Int32)) hin21 rfl (Sto.ofV Ar20 qa20 Ov2.1 (Ins.of_exa f22 (hW hw 189 rfl))) (g := (mkF m 22 #[vr a0, vr b2, vi 1] [(.ref x1), (.int 1), (.ref b2)])) rfl rfl (hb hby d35_22)
  have V21 : Arv Z h21 b2 k2 oT (6 : Int32) [(.ref x0), (.ref x1), .null, .null, .null, .null] .null := Arv.set Ar20 qa20 Sa20 Na20 Ha20 Ga20 rfl W21 1 rfl (Nat.le_of_ble_eq_true rfl)
  have N21 := Fr.snoc X21 N17 gb2
  refine gb (mkF m 23 #[vr a0, vr b2, vi 1] []) st21 ?_
  refine gb (mkF m 26 #[vr a0, vr b2, vi 2] []) (fun _ k => XS.iinc X21.here hx rfl (hb hby d35_23) rfl (l' := #[vr a0, vr b2, vi 2]) rfl k) ?_
  refine gb (mkF m 8 #[vr a0, vr b2, vi 2] []) (fun _ k => XS.goto X21.here hx rfl (pc0 := 26) (pc' := 8) rfl (hb hby d35_26) (by decide) (by decide) k) ?_
  refine gb (mkF m 9 #[vr a0, vr b2, vi 2] [(.int 2)]) (fun _ k => XS.iloadN X21.here hx rfl (hb hby d35_8) rfl k) ?_
  refine gb (mkF m 10 #[vr a0, vr b2, vi 2] [(.ref a0), (.int 2)]) (fun _ k => XS.aloadN X21.here hx rfl (hb hby d35_9) rfl rfl k) ?_
  have f23 := (Arv.other f13 W21 ne2_0)
  obtain ⟨cl24, Ar24, qa24, Sa24, Na24, Ha24, Ga24⟩ := id f23
  refine gb (mkF m 11 #[vr a0, vr b2, vi 2] [(.int 6), (.int 2)]) (fun t k => X21.arraylength hx (by rw [e21]; exact Ar24.1) (State.isArrayOf_alike hZ.alike Ar24.2.1) (g := (mkF m 10 #[vr a0, vr b2, vi 2] [(.ref a0), (.int 2)])) rfl rfl (hb hby d35_10) t (by rw [len_of Sa24 Na24]; exact k)) ?_
  refine gb (mkF m 14 #[vr a0, vr b2, vi 2] []) (fun _ k => XS.icmpNo X21.here hx rfl (hb hby d35_11) rfl (tlt (by decide : (2 : Int32) < (6 : Int32))).2.1 k) ?_
  refine gb (mkF m 15 #[vr a0, vr b2, vi 2] [(.ref b2)]) (fun _ k => XS.aloadN X21.here hx rfl (hb hby d35_14) rfl rfl k) ?_
  refine gb (mkF m 16 #[vr a0, vr b2, vi 2] [(.int 2), (.ref b2)]) (fun _ k => XS.iloadN X21.here hx rfl (hb hby d35_15) rfl k) ?_
  refine gb (mkF m 17 #[vr a0, vr b2, vi 2] [(.ref a0), (.int 2), (.ref b2)]) (fun _ k => XS.aloadN X21.here hx rfl (hb hby d35_16) rfl rfl k) ?_
  refine gb (mkF m 18 #[vr a0, vr b2, vi 2] [(.int 2), (.ref a0), (.int 2), (.ref b2)]) (fun _ k => XS.iloadN X21.here hx rfl (hb hby d35_17) rfl k) ?_
  obtain ⟨cl25, Ar25, qa25, Sa25, Na25, Ha25, Ga25⟩ := id f23
  have hin26 : ¬ ((2 : Int32) < 0 ∨ cl25.slots.size ≤ ((2 : Int32)).toNatClampNeg) := inb_of Sa25 ⟨by decide, by decide⟩
  refine gb (mkF m 19 #[vr a0, vr b2, vi 2] [(.ref x2), (.int 2), (.ref b2)]) (X21.aaload hx (j := (2 : Int32)) (v := (.ref x2)) (by rw [e21]; exact Ar25.1) (State.isArrayOf_alike hZ.alike Ar25.2.1) rfl Ar25.2.2 hin26 (Has.at Ha25 hin26 rfl) (g := (mkF m 18 #[vr a0, vr b2, vi 2] [(.int 2), (.ref a0), (.int 2), (.ref b2)])) rfl rfl (hb hby d35_18)) ?_
  have K28 := (K18.wr W21 (Or.inr sb2))
  have O29 := (O19.wr W21 gb2)
  obtain ⟨_, _, ⟨T27, L27, k27, n27⟩, -, X27, ⟨Lc27, hQ27, l27, y27, z27⟩, st27⟩ := callS X21 hx (y := mq32) hown (mvT hZ (hW hw 233 rfl)) (mvT hZ (hW hw 234 rfl)) (mvT hZ (hW hw 235 rfl)) (mvT hZ (hW hw 236 rfl)) (by decide) (backOf (W := 2) (rm36 l Z a0' hw [] x2 wa wb wc wd we ka kc G1 h21 n0 O29 W ) hZ (hW hw 236 rfl) (hW hw 235 rfl) (by decide) (by decide)) (g := (mkF m 19 #[vr a0, vr b2, vi 2] [(.ref x2), (.int 2), (.ref b2)])) rfl (by rw [hml]; rfl) (argsL := [(.ref x2)]) (rest := [(.int 2), (.ref b2)]) (lenOf pd311 rfl) rfl (Nat.le_of_eq rfl) (hb hby d35_19) (fun _ _ => ⟨rfl, e21, (by decide : 1 + 0 ≤ _), (by decide : 6 + 0 ≤ _)⟩)
  dsimp only [Pt.U, Pt.locs, Pt.cells, Pt.slots] at X27 l27 y27 z27 st27 hQ27
  subst l27 y27 z27
  obtain ⟨rfl, N27q, e27⟩ := hQ27
  have N27 := Fr.app N21 N27q
  refine gb (mkF m 22 #[vr a0, vr b2, vi 2] [(.ref x2), (.int 2), (.ref b2)]) st27 ?_
  obtain ⟨cl30, Ar30, qa30, Sa30, Na30, Ha30, Ga30⟩ := id V21
  have hin31 : ¬ ((2 : Int32) < 0 ∨ cl30.slots.size ≤ ((2 : Int32)).toNatClampNeg) := inb_of Sa30 ⟨by decide, by decide⟩
  have f32 := (Exa.wr W21 (Exa.wr W11 (Exa.ext E2 pf3)))
  obtain ⟨T31, h31, X31, e31, W31, st31⟩ := stR X27 hx hZ e27 Ar30 (j := (2 : Int32)) hin31 rfl (Sto.ofV Ar30 qa30 Ov2.1 (Ins.of_exa f32 (hW hw 189 rfl))) (g := (mkF m 22 #[vr a0, vr b2, vi 2] [(.ref x2), (.int 2), (.ref b2)])) rfl rfl (hb hby d35_22)
  have V31 : Arv Z h31 b2 k2 oT (6 : Int32) [(.ref x0), (.ref x1), (.ref x2), .null, .null, .null] .null := Arv.set Ar30 qa30 Sa30 Na30 Ha30 Ga30 rfl W31 2 rfl (Nat.le_of_ble_eq_true rfl)
  have N31 := Fr.snoc X31 N27 gb2
  refine gb (mkF m 23 #[vr a0, vr b2, vi 2] []) st31 ?_
  refine gb (mkF m 26 #[vr a0, vr b2, vi 3] []) (fun _ k => XS.iinc X31.here hx rfl (hb hby d35_23) rfl (l' := #[vr a0, vr b2, vi 3]) rfl k) ?_
  refine gb (mkF m 8 #[vr a0, vr b2, vi 3] []) (fun _ k => XS.goto X31.here hx rfl (pc0 := 26) (pc' := 8) rfl (hb hby d35_26) (by decide) (by decide) k) ?_
  refine gb (mkF m 9 #[vr a0, vr b2, vi 3] [(.int 3)]) (fun _ k => XS.iloadN X31.here hx rfl (hb hby d35_8) rfl k) ?_
  refine gb (mkF m 10 #[vr a0, vr b2, vi 3] [(.ref a0), (.int 3)]) (fun _ k => XS.aloadN X31.here hx rfl (hb hby d35_9) rfl rfl k) ?_
  have f33 := (Arv.other f23 W31 ne2_0)
  obtain ⟨cl34, Ar34, qa34, Sa34, Na34, Ha34, Ga34⟩ := id f33
  refine gb (mkF m 11 #[vr a0, vr b2, vi 3] [(.int 6), (.int 3)]) (fun t k => X31.arraylength hx (by rw [e31]; exact Ar34.1) (State.isArrayOf_alike hZ.alike Ar34.2.1) (g := (mkF m 10 #[vr a0, vr b2, vi 3] [(.ref a0), (.int 3)])) rfl rfl (hb hby d35_10) t (by rw [len_of Sa34 Na34]; exact k)) ?_
  refine gb (mkF m 14 #[vr a0, vr b2, vi 3] []) (fun _ k => XS.icmpNo X31.here hx rfl (hb hby d35_11) rfl (tlt (by decide : (3 : Int32) < (6 : Int32))).2.1 k) ?_
  refine gb (mkF m 15 #[vr a0, vr b2, vi 3] [(.ref b2)]) (fun _ k => XS.aloadN X31.here hx rfl (hb hby d35_14) rfl rfl k) ?_
  refine gb (mkF m 16 #[vr a0, vr b2, vi 3] [(.int 3), (.ref b2)]) (fun _ k => XS.iloadN X31.here hx rfl (hb hby d35_15) rfl k) ?_
  refine gb (mkF m 17 #[vr a0, vr b2, vi 3] [(.ref a0), (.int 3), (.ref b2)]) (fun _ k => XS.aloadN X31.here hx rfl (hb hby d35_16) rfl rfl k) ?_
  refine gb (mkF m 18 #[vr a0, vr b2, vi 3] [(.int 3), (.ref a0), (.int 3), (.ref b2)]) (fun _ k => XS.iloadN X31.here hx rfl (hb hby d35_17) rfl k) ?_
  obtain ⟨cl35, Ar35, qa35, Sa35, Na35, Ha35, Ga35⟩ := id f33
  have hin36 : ¬ ((3 : Int32) < 0 ∨ cl35.slots.size ≤ ((3 : Int32)).toNatClampNeg) := inb_of Sa35 ⟨by decide, by decide⟩
  refine gb (mkF m 19 #[vr a0, vr b2, vi 3] [(.ref x3), (.int 3), (.ref b2)]) (X31.aaload hx (j := (3 : Int32)) (v := (.ref x3)) (by rw [e31]; exact Ar35.1) (State.isArrayOf_alike hZ.alike Ar35.2.1) rfl Ar35.2.2 hin36 (Has.at Ha35 hin36 rfl) (g := (mkF m 18 #[vr a0, vr b2, vi 3] [(.int 3), (.ref a0), (.int 3), (.ref b2)])) rfl rfl (hb hby d35_18)) ?_
  have K38 := (K28.wr W31 (Or.inr sb2))
  have O39 := (O29.wr W31 gb2)
  obtain ⟨_, _, ⟨T37, L37, k37, n37⟩, -, X37, ⟨Lc37, hQ37, l37, y37, z37⟩, st37⟩ := callS X31 hx (y := mq32) hown (mvT hZ (hW hw 233 rfl)) (mvT hZ (hW hw 234 rfl)) (mvT hZ (hW hw 235 rfl)) (mvT hZ (hW hw 236 rfl)) (by decide) (backOf (W := 2) (rm36 l Z a0' hw [] x3 wa wb wc wd we ka kc G1 h31 n0 O39 W ) hZ (hW hw 236 rfl) (hW hw 235 rfl) (by decide) (by decide)) (g := (mkF m 19 #[vr a0, vr b2, vi 3] [(.ref x3), (.int 3), (.ref b2)])) rfl (by rw [hml]; rfl) (argsL := [(.ref x3)]) (rest := [(.int 3), (.ref b2)]) (lenOf pd311 rfl) rfl (Nat.le_of_eq rfl) (hb hby d35_19) (fun _ _ => ⟨rfl, e31, (by decide : 1 + 0 ≤ _), (by decide : 6 + 0 ≤ _)⟩)
  dsimp only [Pt.U, Pt.locs, Pt.cells, Pt.slots] at X37 l37 y37 z37 st37 hQ37
  subst l37 y37 z37
  obtain ⟨rfl, N37q, e37⟩ := hQ37
  have N37 := Fr.app N31 N37q
  refine gb (mkF m 22 #[vr a0, vr b2, vi 3] [(.ref x3), (.int 3), (.ref b2)]) st37 ?_
  obtain ⟨cl40, Ar40, qa40, Sa40, Na40, Ha40, Ga40⟩ := id V31
  have hin41 : ¬ ((3 : Int32) < 0 ∨ cl40.slots.size ≤ ((3 : Int32)).toNatClampNeg) := inb_of Sa40 ⟨by decide, by decide⟩
  have f42 := (Exa.wr W31 (Exa.wr W21 (Exa.wr W11 (Exa.ext E2 pf4))))
  obtain ⟨T41, h41, X41, e41, W41, st41⟩ := stR X37 hx hZ e37 Ar40 (j := (3 : Int32)) hin41 rfl (Sto.ofV Ar40 qa40 Ov2.1 (Ins.of_exa f42 (hW hw 189 rfl))) (g := (mkF m 22 #[vr a0, vr b2, vi 3] [(.ref x3), (.int 3), (.ref b2)])) rfl rfl (hb hby d35_22)
  have V41 : Arv Z h41 b2 k2 oT (6 : Int32) [(.ref x0), (.ref x1), (.ref x2), (.ref x3), .null, .null] .null := Arv.set Ar40 qa40 Sa40 Na40 Ha40 Ga40 rfl W41 3 rfl (Nat.le_of_ble_eq_true rfl)
  have N41 := Fr.snoc X41 N37 gb2
  refine gb (mkF m 23 #[vr a0, vr b2, vi 3] []) st41 ?_
  refine gb (mkF m 26 #[vr a0, vr b2, vi 4] []) (fun _ k => XS.iinc X41.here hx rfl (hb hby d35_23) rfl (l' := #[vr a0, vr b2, vi 4]) rfl k) ?_
  refine gb (mkF m 8 #[vr a0, vr b2, vi 4] []) (fun _ k => XS.goto X41.here hx rfl (pc0 := 26) (pc' := 8) rfl (hb hby d35_26) (by decide) (by decide) k) ?_
  refine gb (mkF m 9 #[vr a0, vr b2, vi 4] [(.int 4)]) (fun _ k => XS.iloadN X41.here hx rfl (hb hby d35_8) rfl k) ?_
  refine gb (mkF m 10 #[vr a0, vr b2, vi 4] [(.ref a0), (.int 4)]) (fun _ k => XS.aloadN X41.here hx rfl (hb hby d35_9) rfl rfl k) ?_
  have f43 := (Arv.other f33 W41 ne2_0)
  obtain ⟨cl44, Ar44, qa44, Sa44, Na44, Ha44, Ga44⟩ := id f43
  refine gb (mkF m 11 #[vr a0, vr b2, vi 4] [(.int 6), (.int 4)]) (fun t k => X41.arraylength hx (by rw [e41]; exact Ar44.1) (State.isArrayOf_alike hZ.alike Ar44.2.1) (g := (mkF m 10 #[vr a0, vr b2, vi 4] [(.ref a0), (.int 4)])) rfl rfl (hb hby d35_10) t (by rw [len_of Sa44 Na44]; exact k)) ?_
  refine gb (mkF m 14 #[vr a0, vr b2, vi 4] []) (fun _ k => XS.icmpNo X41.here hx rfl (hb hby d35_11) rfl (tlt (by decide : (4 : Int32) < (6 : Int32))).2.1 k) ?_
  refine gb (mkF m 15 #[vr a0, vr b2, vi 4] [(.ref b2)]) (fun _ k => XS.aloadN X41.here hx rfl (hb hby d35_14) rfl rfl k) ?_
  refine gb (mkF m 16 #[vr a0, vr b2, vi 4] [(.int 4), (.ref b2)]) (fun _ k => XS.iloadN X41.here hx rfl (hb hby d35_15) rfl k) ?_
  refine gb (mkF m 17 #[vr a0, vr b2, vi 4] [(.ref a0), (.int 4), (.ref b2)]) (fun _ k => XS.aloadN X41.here hx rfl (hb hby d35_16) rfl rfl k) ?_
  refine gb (mkF m 18 #[vr a0, vr b2, vi 4] [(.int 4), (.ref a0), (.int 4), (.ref b2)]) (fun _ k => XS.iloadN X41.here hx rfl (hb hby d35_17) rfl k) ?_
  obtain ⟨cl45, Ar45, qa45, Sa45, Na45, Ha45, Ga45⟩ := id f43
  have hin46 : ¬ ((4 : Int32) < 0 ∨ cl45.slots.size ≤ ((4 : Int32)).toNatClampNeg) := inb_of Sa45 ⟨by decide, by decide⟩
  refine gb (mkF m 19 #[vr a0, vr b2, vi 4] [(.ref x4), (.int 4), (.ref b2)]) (X41.aaload hx (j := (4 : Int32)) (v := (.ref x4)) (by rw [e41]; exact Ar45.1) (State.isArrayOf_alike hZ.alike Ar45.2.1) rfl Ar45.2.2 hin46 (Has.at Ha45 hin46 rfl) (g := (mkF m 18 #[vr a0, vr b2, vi 4] [(.int 4), (.ref a0), (.int 4), (.ref b2)])) rfl rfl (hb hby d35_18)) ?_
  have K48 := (K38.wr W41 (Or.inr sb2))
  have O49 := (O39.wr W41 gb2)
  obtain ⟨_, _, ⟨T47, L47, k47, n47⟩, -, X47, ⟨Lc47, hQ47, l47, y47, z47⟩, st47⟩ := callS X41 hx (y := mq32) hown (mvT hZ (hW hw 233 rfl)) (mvT hZ (hW hw 234 rfl)) (mvT hZ (hW hw 235 rfl)) (mvT hZ (hW hw 236 rfl)) (by decide) (backOf (W := 2) (rm36 l Z a0' hw [] x4 wa wb wc wd we ka kc G1 h41 n0 O49 W ) hZ (hW hw 236 rfl) (hW hw 235 rfl) (by decide) (by decide)) (g := (mkF m 19 #[vr a0, vr b2, vi 4] [(.ref x4), (.int 4), (.ref b2)])) rfl (by rw [hml]; rfl) (argsL := [(.ref x4)]) (rest := [(.int 4), (.ref b2)]) (lenOf pd311 rfl) rfl (Nat.le_of_eq rfl) (hb hby d35_19) (fun _ _ => ⟨rfl, e41, (by decide : 1 + 0 ≤ _), (by decide : 6 + 0 ≤ _)⟩)
  dsimp only [Pt.U, Pt.locs, Pt.cells, Pt.slots] at X47 l47 y47 z47 st47 hQ47
  subst l47 y47 z47
  obtain ⟨rfl, N47q, e47⟩ := hQ47
  have N47 := Fr.app N41 N47q
  refine gb (mkF m 22 #[vr a0, vr b2, vi 4] [(.ref x4), (.int 4), (.ref b2)]) st47 ?_
  obtain ⟨cl50, Ar50, qa50, Sa50, Na50, Ha50, Ga50⟩ := id V41
  have hin51 : ¬ ((4 : Int32) < 0 ∨ cl50.slots.size ≤ ((4 : Int32)).toNatClampNeg) := inb_of Sa50 ⟨by decide, by decide⟩
  have f52 := (Exa.wr W41 (Exa.wr W31 (Exa.wr W21 (Exa.wr W11 (Exa.ext E2 pf5)))))
  obtain ⟨T51, h51, X51, e51, W51, st51⟩ := stR X47 hx hZ e47 Ar50 (j := (4 : Int32)) hin51 rfl (Sto.ofV Ar50 qa50 Ov2.1 (Ins.of_exa f52 (hW hw 189 rfl))) (g := (mkF m 22 #[vr a0, vr b2, vi 4] [(.ref x4), (.int 4), (.ref b2)])) rfl rfl (hb hby d35_22)
  have V51 : Arv Z h51 b2 k2 oT (6 : Int32) [(.ref x0), (.ref x1), (.ref x2), (.ref x3), (.ref x4), .null] .null := Arv.set Ar50 qa50 Sa50 Na50 Ha50 Ga50 rfl W51 4 rfl (Nat.le_of_ble_eq_true rfl)
  have N51 := Fr.snoc X51 N47 gb2
  refine gb (mkF m 23 #[vr a0, vr b2, vi 4] []) st51 ?_
  refine gb (mkF m 26 #[vr a0, vr b2, vi 5] []) (fun _ k => XS.iinc X51.here hx rfl (hb hby d35_23) rfl (l' := #[vr a0, vr b2, vi 5]) rfl k) ?_
  refine gb (mkF m 8 #[vr a0, vr b2, vi 5] []) (fun _ k => XS.goto X51.here hx rfl (pc0 := 26) (pc' := 8) rfl (hb hby d35_26) (by decide) (by decide) k) ?_
  refine gb (mkF m 9 #[vr a0, vr b2, vi 5] [(.int 5)]) (fun _ k => XS.iloadN X51.here hx rfl (hb hby d35_8) rfl k) ?_
  refine gb (mkF m 10 #[vr a0, vr b2, vi 5] [(.ref a0), (.int 5)]) (fun _ k => XS.aloadN X51.here hx rfl (hb hby d35_9) rfl rfl k) ?_
  have f53 := (Arv.other f43 W51 ne2_0)
  obtain ⟨cl54, Ar54, qa54, Sa54, Na54, Ha54, Ga54⟩ := id f53
  refine gb (mkF m 11 #[vr a0, vr b2, vi 5] [(.int 6), (.int 5)]) (fun t k => X51.arraylength hx (by rw [e51]; exact Ar54.1) (State.isArrayOf_alike hZ.alike Ar54.2.1) (g := (mkF m 10 #[vr a0, vr b2, vi 5] [(.ref a0), (.int 5)])) rfl rfl (hb hby d35_10) t (by rw [len_of Sa54 Na54]; exact k)) ?_
  refine gb (mkF m 14 #[vr a0, vr b2, vi 5] []) (fun _ k => XS.icmpNo X51.here hx rfl (hb hby d35_11) rfl (tlt (by decide : (5 : Int32) < (6 : Int32))).2.1 k) ?_
  refine gb (mkF m 15 #[vr a0, vr b2, vi 5] [(.ref b2)]) (fun _ k => XS.aloadN X51.here hx rfl (hb hby d35_14) rfl rfl k) ?_
  refine gb (mkF m 16 #[vr a0, vr b2, vi 5] [(.int 5), (.ref b2)]) (fun _ k => XS.iloadN X51.here hx rfl (hb hby d35_15) rfl k) ?_
  refine gb (mkF m 17 #[vr a0, vr b2, vi 5] [(.ref a0), (.int 5), (.ref b2)]) (fun _ k => XS.aloadN X51.here hx rfl (hb hby d35_16) rfl rfl k) ?_
  refine gb (mkF m 18 #[vr a0, vr b2, vi 5] [(.int 5), (.ref a0), (.int 5), (.ref b2)]) (fun _ k => XS.iloadN X51.here hx rfl (hb hby d35_17) rfl k) ?_
  obtain ⟨cl55, Ar55, qa55, Sa55, Na55, Ha55, Ga55⟩ := id f53
  have hin56 : ¬ ((5 : Int32) < 0 ∨ cl55.slots.size ≤ ((5 : Int32)).toNatClampNeg) := inb_of Sa55 ⟨by decide, by decide⟩
  refine gb (mkF m 19 #[vr a0, vr b2, vi 5] [(.ref x5), (.int 5), (.ref b2)]) (X51.aaload hx (j := (5 : Int32)) (v := (.ref x5)) (by rw [e51]; exact Ar55.1) (State.isArrayOf_alike hZ.alike Ar55.2.1) rfl Ar55.2.2 hin56 (Has.at Ha55 hin56 rfl) (g := (mkF m 18 #[vr a0, vr b2, vi 5] [(.int 5), (.ref a0), (.int 5), (.ref b2)])) rfl rfl (hb hby d35_18)) ?_
  have K58 := (K48.wr W51 (Or.inr sb2))
  have O59 := (O49.wr W51 gb2)
  obtain ⟨_, _, ⟨T57, L57, k57, n57⟩, -, X57, ⟨Lc57, hQ57, l57, y57, z57⟩, st57⟩ := callS X51 hx (y := mq32) hown (mvT hZ (hW hw 233 rfl)) (mvT hZ (hW hw 234 rfl)) (mvT hZ (hW hw 235 rfl)) (mvT hZ (hW hw 236 rfl)) (by decide) (backOf (W := 2) (rm36 l Z a0' hw [] x5 wa wb wc wd we ka kc G1 h51 n0 O59 W ) hZ (hW hw 236 rfl) (hW hw 235 rfl) (by decide) (by decide)) (g := (mkF m 19 #[vr a0, vr b2, vi 5] [(.ref x5), (.int 5), (.ref b2)])) rfl (by rw [hml]; rfl) (argsL := [(.ref x5)]) (rest := [(.int 5), (.ref b2)]) (lenOf pd311 rfl) rfl (Nat.le_of_eq rfl) (hb hby d35_19) (fun _ _ => ⟨rfl, e51, (by decide : 1 + 0 ≤ _), (by decide : 6 + 0 ≤ _)⟩)
  dsimp only [Pt.U, Pt.locs, Pt.cells, Pt.slots] at X57 l57 y57 z57 st57 hQ57
  subst l57 y57 z57
  obtain ⟨rfl, N57q, e57⟩ := hQ57
  have N57 := Fr.app N51 N57q
  refine gb (mkF m 22 #[vr a0, vr b2, vi 5] [(.ref x5), (.int 5), (.ref b2)]) st57 ?_
  obtain ⟨cl60, Ar60, qa60, Sa60, Na60, Ha60, Ga60⟩ := id V51
  have hin61 : ¬ ((5 : Int32) < 0 ∨ cl60.slots.size ≤ ((5 : Int32)).toNatClampNeg) := inb_of Sa60 ⟨by decide, by decide⟩
  have f62 := (Exa.wr W51 (Exa.wr W41 (Exa.wr W31 (Exa.wr W21 (Exa.wr W11 (Exa.ext E2 pf6))))))
  obtain ⟨T61, h61, X61, e61, W61, st61⟩ := stR X57 hx hZ e57 Ar60 (j := (5 : Int32)) hin61 rfl (Sto.ofV Ar60 qa60 Ov2.1 (Ins.of_exa f62 (hW hw 189 rfl))) (g := (mkF m 22 #[vr a0, vr b2, vi 5] [(.ref x5), (.int 5), (.ref b2)])) rfl rfl (hb hby d35_22)
  have V61 : Arv Z h61 b2 k2 oT (6 : Int32) [(.ref x0), (.ref x1), (.ref x2), (.ref x3), (.ref x4), (.ref x5)] .null := Arv.set Ar60 qa60 Sa60 Na60 Ha60 Ga60 rfl W61 5 rfl (Nat.le_of_ble_eq_true rfl)
  have N61 := Fr.snoc X61 N57 gb2
  refine gb (mkF m 23 #[vr a0, vr b2, vi 5] []) st61 ?_
  refine gb (mkF m 26 #[vr a0, vr b2, vi 6] []) (fun _ k => XS.iinc X61.here hx rfl (hb hby d35_23) rfl (l' := #[vr a0, vr b2, vi 6]) rfl k) ?_
  refine gb (mkF m 8 #[vr a0, vr b2, vi 6] []) (fun _ k => XS.goto X61.here hx rfl (pc0 := 26) (pc' := 8) rfl (hb hby d35_26) (by decide) (by decide) k) ?_
  refine gb (mkF m 9 #[vr a0, vr b2, vi 6] [(.int 6)]) (fun _ k => XS.iloadN X61.here hx rfl (hb hby d35_8) rfl k) ?_
  refine gb (mkF m 10 #[vr a0, vr b2, vi 6] [(.ref a0), (.int 6)]) (fun _ k => XS.aloadN X61.here hx rfl (hb hby d35_9) rfl rfl k) ?_
  have f63 := (Arv.other f53 W61 ne2_0)
  obtain ⟨cl64, Ar64, qa64, Sa64, Na64, Ha64, Ga64⟩ := id f63
  refine gb (mkF m 11 #[vr a0, vr b2, vi 6] [(.int 6), (.int 6)]) (fun t k => X61.arraylength hx (by rw [e61]; exact Ar64.1) (State.isArrayOf_alike hZ.alike Ar64.2.1) (g := (mkF m 10 #[vr a0, vr b2, vi 6] [(.ref a0), (.int 6)])) rfl rfl (hb hby d35_10) t (by rw [len_of Sa64 Na64]; exact k)) ?_
  refine gb (mkF m 29 #[vr a0, vr b2, vi 6] []) (fun _ k => XS.icmpYes X61.here hx rfl (pc0 := 11) (pc' := 29) rfl (hb hby d35_11) rfl (flt (by decide : ¬ ((6 : Int32) < (6 : Int32)))).2.1 (by decide) (by decide) k) ?_
  have O66 := (O59.wr W61 gb2)
  have f67 := (Exa.wr W61 (Exa.wr W51 (Exa.wr W41 (Exa.wr W31 (Exa.wr W21 (Exa.wr W11 f12))))))
  have f68 := (Exa.wr W61 (Exa.wr W51 (Exa.wr W41 (Exa.wr W31 (Exa.wr W21 f22)))))
  have f69 := (Exa.wr W61 (Exa.wr W51 (Exa.wr W41 (Exa.wr W31 f32))))
  have f70 := (Exa.wr W61 (Exa.wr W51 (Exa.wr W41 f42)))
  have f71 := (Exa.wr W61 (Exa.wr W51 f52))
  have f72 := (Exa.wr W61 f62)
  have K73 := (K58.wr W61 (Or.inr sb2))
  obtain ⟨T65, h65, X65, e65, E65, A65, D65, -, st65⟩ := newO X61 hx hZ hown (hW hw 67 rfl) (hW hw 237 rfl) (hW hw 91 rfl) e61 (g := (mkF m 29 #[vr a0, vr b2, vi 6] [])) rfl (hb hby d35_29) (by decide) (by decide)
  obtain ⟨b65, g65⟩ : ∃ z, z = (h61).size := ⟨_, rfl⟩
  rw [← g65] at A65 D65 st65
  have gb65 : n0 ≤ b65 := Nat.le_trans (Nat.le_trans (Nat.le_of_eq O66.1.symm) O66.2.1) (Nat.le_of_eq g65.symm)
  have sb65 : h0.size ≤ b65 := Nat.le_trans K73.1 (Nat.le_of_eq g65.symm)
  have ne65_22 : a0 ≠ b65 := Nat.ne_of_lt (Nat.lt_of_lt_of_le f63.lt (Nat.le_of_eq g65.symm))
  have ne65_24 : x0 ≠ b65 := Nat.ne_of_lt (Nat.lt_of_lt_of_le f67.lt (Nat.le_of_eq g65.symm))
  have ne65_26 : x1 ≠ b65 := Nat.ne_of_lt (Nat.lt_of_lt_of_le f68.lt (Nat.le_of_eq g65.symm))
  have ne65_28 : x2 ≠ b65 := Nat.ne_of_lt (Nat.lt_of_lt_of_le f69.lt (Nat.le_of_eq g65.symm))
  have ne65_30 : x3 ≠ b65 := Nat.ne_of_lt (Nat.lt_of_lt_of_le f70.lt (Nat.le_of_eq g65.symm))
  have ne65_32 : x4 ≠ b65 := Nat.ne_of_lt (Nat.lt_of_lt_of_le f71.lt (Nat.le_of_eq g65.symm))
  have ne65_34 : x5 ≠ b65 := Nat.ne_of_lt (Nat.lt_of_lt_of_le f72.lt (Nat.le_of_eq g65.symm))
  have ne65_36 : wa ≠ b65 := Nat.ne_of_lt (Nat.lt_of_lt_of_le (Arv.ext W.2.1 O66.2).lt (Nat.le_of_eq g65.symm))
  have ne65_38 : wc ≠ b65 := Nat.ne_of_lt (Nat.lt_of_lt_of_le (Arv.ext W.2.2.2.2.2.1 O66.2).lt (Nat.le_of_eq g65.symm))
  have ne65_40 : wb ≠ b65 := Nat.ne_of_lt (Nat.lt_of_lt_of_le (Exa.ext O66.2 W.2.2.2.1).lt (Nat.le_of_eq g65.symm))
  have ne65_42 : wd ≠ b65 := Nat.ne_of_lt (Nat.lt_of_lt_of_le (Exa.ext O66.2 W.2.2.2.2.2.2.2.1).lt (Nat.le_of_eq g65.symm))
  have ne65_44 : b2 ≠ b65 := Nat.ne_of_lt (Nat.lt_of_lt_of_le V61.lt (Nat.le_of_eq g65.symm))
  have D65_elements : Fld Z h65 b65 sN "elements" sO .null := D65 (Or.inr (hW hw 94 rfl)) (ty := (.array oT)) (by decide)
  have D65_allowNulls : Fld Z h65 b65 sN "allowNulls" "Z" (.int 0) := D65 (Or.inr (hW hw 257 rfl)) (ty := .boolean) (by decide)
  refine gb (mkF m 32 #[vr a0, vr b2, vi 6] [(.ref b65)]) st65 ?_
  refine gb (mkF m 33 #[vr a0, vr b2, vi 6] [(.ref b65), (.ref b65)]) (fun _ k => XS.dup X65.here hx rfl (hb hby d35_32) rfl rfl k) ?_
  refine gb (mkF m 34 #[vr a0, vr b2, vi 6] [(.ref b2), (.ref b65), (.ref b65)]) (fun _ k => XS.aloadN X65.here hx rfl (hb hby d35_33) rfl rfl k) ?_
  refine gb (mkF m 35 #[vr a0, vr b2, vi 6] [(.int 0), (.ref b2), (.ref b65), (.ref b65)]) (fun _ k => XS.iconst X65.here hx rfl (hb hby d35_34) k) ?_
  have K75 := (K73.ext E65)
  have O76 := (O66.ext E65)
  obtain ⟨_, _, ⟨T74, L74, k74, n74⟩, -, X74, ⟨Lc74, hQ74, l74, y74, z74⟩, st74⟩ := X65.specialBackNest hx (y := mq35) rfl hown (Cond.methodLinkNest_wide hZ (hW hw 238 rfl)) (mvT hZ (hW hw 239 rfl)) (mvT hZ (hW hw 241 rfl)) (by decide) (backOf (W := 1) (rm37 l Z a0' hw [] b65 b2 wa wb wc wd we ka kc G1 h65 n0 O76 W A65 D65_elements D65_allowNulls gb65) hZ (hW hw 241 rfl) (hW hw 91 rfl) (by decide) (by decide)) (g := (mkF m 35 #[vr a0, vr b2, vi 6] [(.int 0), (.ref b2), (.ref b65), (.ref b65)])) rfl (by rw [hml]; rfl) (Steps.refl _) (a := b65) (argsL := [(.ref b2), (.int 0)]) (rest := [(.ref b65)]) (lenOf pd396 rfl) rfl (Nat.le_of_eq rfl) (hb hby d35_35) (fun _ _ => ⟨rfl, e65, (by decide : 2 + 0 ≤ _), (by decide : 8 + 0 ≤ _)⟩)
  dsimp only [Pt.U, Pt.locs, Pt.cells, Pt.slots] at X74 l74 y74 z74 st74 hQ74
  subst l74 y74 z74
  obtain ⟨rfl, N74q, Kc74, fc74_0⟩ := hQ74
  have N74 := Fr.app N61 N74q
  refine gb (mkF m 38 #[vr a0, vr b2, vi 6] [(.ref b65)]) (fun _ k => st74.trans k) ?_
  have K77 := (K75.trans Kc74 (allS (Or.inr sb65) all0))
  have f78 := (Exa.keep A65 Kc74)
  have f79 := (Arv.keep (Arv.ext V61 E65) Kc74 (ninS ne65_44 nin0))
  exact Gl.outA X74 hx hk Bd.returns rfl rfl (hb hby d35_38) ⟨b65, b2, k2, rfl, N74, K77, f78, fc74_0, f79⟩ (by decide) (by decide)
theorem ef346 (m : MethodId) (x0 : Addr) : entryFrame m #[(.ref x0)] 2 = mkF m 0 #[.val (.ref x0), .unset] [] := by first | (simp [entryFrame, mkF, argsToLocals, Value.category]; done) | rfl
def Q346 (Z : State) (a0 : Addr) (kk : ClassId) (x0 x1 x2 x3 x4 x5 : Addr) (wa wb wc wd we : Addr) (ka kc : ClassId) (G1 : Int32) (h0 : Heap) (n0 : Nat) (v : Option Value) (h : Heap) (L : List Loc) : Prop := ∃ (r : Addr), ∃ (ar : Addr), ∃ (kr : ClassId), v = some (.ref r) ∧ Fr n0 L ∧ Keep h0 h [] ∧ Exa Z h r sN ∧ Fld Z h r sN "elements" sO (.ref ar) ∧ Arv Z h ar kr oT (6 : Int32) [(.ref x0), (.ref x1), (.ref x2), (.ref x3), (.ref x4), (.ref x5)] .null
theorem rm346 (l : Launch) (Z : State) (a0' : Array Value) (hw : ∀ d ∈ tables_1, d.before a0' Z = true) (ws : List Jvm.Cond) (a0 : Addr) (kk : ClassId) (x0 x1 x2 x3 x4 x5 : Addr) (wa wb wc wd we : Addr) (ka kc : ClassId) (G1 : Int32) (h0 : Heap) (n0 : Nat) (O : Old Z n0 h0) (W : Wd Z wa wb wc wd we ka kc G1) (pf0 : Arv Z h0 a0 kk oT (6 : Int32) [(.ref x0), (.ref x1), (.ref x2), (.ref x3), (.ref x4), (.ref x5)] .null) (pf1 : Exa Z h0 x0 sI) (pf2 : Exa Z h0 x1 sI) (pf3 : Exa Z h0 x2 sI) (pf4 : Exa Z h0 x3 sI) (pf5 : Exa Z h0 x4 sI) (pf6 : Exa Z h0 x5 sI) :
    MetFree l mq42 (head1 (Jvm.Cond.code mq42 jdk_40_method_47_code 2 (some (.object "java/util/List")) :: ws) ({ frames := 6, cells := 2, slots := 8, locals := 77 } : Room)) (fun a U => a = #[(.ref a0)] ∧ Z.Warmed39 U.vm ∧ U.heap = h0) (fun _ _ _ _ _ => True) (fun _ U o U' => ∃ v L, o = .returned v ∧ Q346 Z a0 kk x0 x1 x2 x3 x4 x5 wa wb wc wd we ka kc G1 h0 n0 v U'.heap L ∧ FrameEnd U o U' L ({ frames := 6, cells := 2, slots := 8, locals := 77 } : Room).cells ({ frames := 6, cells := 2, slots := 8, locals := 77 } : Room).slots) := by
  refine MetFree.of_bodySF (plainFor_of_name pn10) hisR ?_
  intro p e s m args below meth c s₁ Bd hml0 hP hK
  obtain ⟨rfl, hZ, hh⟩ := hP
  have hx := Bd.exec
  have hby := Bd.bytes
  have hml : c.maxLocals = 2 := hml0
  have hown : s.vm.findClass "java/util/List" = some m.cls := findClass_of_methodNamed Bd.named
  have hnm := (name_of_methodNamed Bd.named Bd.method).1
  have hk := Bd.notSynchronized
  have X0 : Stand p l e ({ frames := 6, cells := 2, slots := 8, locals := 77 } : Room) s m #[(.ref a0)] below meth c s₁ [] 0 0 := Stand.of_body Bd
  have hh2 := hh
  have e0 : s₁.heap = h0 := by rw [← hh, Bd.state]; rfl
  have N0 := Fr.nil n0
  show Gl p e below (Pos 2 8 (Q346 Z a0 kk x0 x1 x2 x3 x4 x5 wa wb wc wd we ka kc G1 h0 n0) s) s₁ _
  refine Gl.cast (ef346 m a0) ?_
  refine gb (mkF m 1 #[vr a0, .unset] [(.ref a0)]) (fun _ k => XS.aloadN X0.here hx rfl (hb hby d34_0) rfl rfl k) ?_
  obtain ⟨cl1, Ar1, qa1, Sa1, Na1, Ha1, Ga1⟩ := id pf0
  refine gb (mkF m 2 #[vr a0, .unset] [(.int 6)]) (fun t k => X0.arraylength hx (by rw [e0]; exact Ar1.1) (State.isArrayOf_alike hZ.alike Ar1.2.1) (g := (mkF m 1 #[vr a0, .unset] [(.ref a0)])) rfl rfl (hb hby d34_1) t (by rw [len_of Sa1 Na1]; exact k)) ?_
  refine gb (mkF m 59 #[vr a0, .unset] []) (fun _ k => XS.tswOut (pc0 := 2) X0.here hx rfl rfl (hb hby d34_2) rfl (by decide) (by decide) rfl k) ?_
  refine gb (mkF m 60 #[vr a0, .unset] [(.ref a0)]) (fun _ k => XS.aloadN X0.here hx rfl (hb hby d34_59) rfl rfl k) ?_
  obtain ⟨_, _, ⟨T2, L2, k2, n2⟩, -, X2, ⟨Lc2, hQ2, l2, y2, z2⟩, st2⟩ := callS X0 hx (y := mq44) hown (mvT hZ (hW hw 229 rfl)) (mvT hZ (hW hw 230 rfl)) (mvT hZ (hW hw 60 rfl)) (mvT hZ (hW hw 231 rfl)) (by decide) (backOf (W := 0) (rm356 l Z a0' hw [] a0 kk x0 x1 x2 x3 x4 x5 wa wb wc wd we ka kc G1 h0 n0 O W pf0 pf1 pf2 pf3 pf4 pf5 pf6) hZ (hW hw 231 rfl) (hW hw 60 rfl) (by decide) (by decide)) (g := (mkF m 60 #[vr a0, .unset] [(.ref a0)])) rfl (by rw [hml]; rfl) (argsL := [(.ref a0)]) (rest := []) (lenOf pd359 rfl) rfl (Nat.le_of_eq rfl) (hb hby d34_60) (fun _ _ => ⟨rfl, e0, (by decide : 0 + 2 ≤ _), (by decide : 0 + 8 ≤ _)⟩)
  dsimp only [Pt.U, Pt.locs, Pt.cells, Pt.slots] at X2 l2 y2 z2 st2 hQ2
  subst l2 y2 z2
  obtain ⟨r_2, ar_2, kr_2, rfl, N2q, Kc2, fc2_0, fc2_1, fc2_2⟩ := hQ2
  have N2 := Fr.app N0 N2q
  refine gb (mkF m 63 #[vr a0, .unset] [(.ref r_2)]) st2 ?_
  have K3 := ((Keep.refl h0 []).trans Kc2 all0)
  exact Gl.outA X2 hx hk Bd.returns rfl rfl (hb hby d34_63) ⟨r_2, ar_2, kr_2, rfl, N2, K3, fc2_0, fc2_1, fc2_2⟩ (by decide) (by decide)
theorem ef106 (m : MethodId) (x0 : Addr) : entryFrame m #[(.ref x0)] 2 = mkF m 0 #[.val (.ref x0), .unset] [] := by first | (simp [entryFrame, mkF, argsToLocals, Value.category]; done) | rfl
def Q106 (Z : State) (a0 : Addr) (ea : Addr) (kk : ClassId) (x0 x1 x2 x3 x4 x5 : Addr) (wa wb wc wd we : Addr) (ka kc : ClassId) (G1 : Int32) (h0 : Heap) (n0 : Nat) (v : Option Value) (h : Heap) (L : List Loc) : Prop := ∃ (r : Addr), ∃ (ar : Addr), ∃ (kr : ClassId), v = some (.ref r) ∧ Fr n0 L ∧ Keep h0 h [] ∧ Exa Z h r sN ∧ Fld Z h r sN "elements" sO (.ref ar) ∧ Arv Z h ar kr oT (6 : Int32) [(.ref x0), (.ref x1), (.ref x2), (.ref x3), (.ref x4), (.ref x5)] .null
theorem rm106 (l : Launch) (Z : State) (a0' : Array Value) (hw : ∀ d ∈ tables_1, d.before a0' Z = true) (ws : List Jvm.Cond) (a0 : Addr) (ea : Addr) (kk : ClassId) (x0 x1 x2 x3 x4 x5 : Addr) (wa wb wc wd we : Addr) (ka kc : ClassId) (G1 : Int32) (h0 : Heap) (n0 : Nat) (O : Old Z n0 h0) (W : Wd Z wa wb wc wd we ka kc G1) (pf0 : Exa Z h0 a0 sA) (pf1 : Fld Z h0 a0 sA "elementData" sO (.ref ea)) (pf2 : Fld Z h0 a0 sA "size" "I" (.int 6)) (pf3 : Exa Z h0 ea sO) (pf4 : Arv Z h0 ea kk oT (10 : Int32) [(.ref x0), (.ref x1), (.ref x2), (.ref x3), (.ref x4), (.ref x5), .null, .null, .null, .null] .null) (pf5 : Exa Z h0 x0 sI) (pf6 : Exa Z h0 x1 sI) (pf7 : Exa Z h0 x2 sI) (pf8 : Exa Z h0 x3 sI) (pf9 : Exa Z h0 x4 sI) (pf10 : Exa Z h0 x5 sI) :
    MetFree l mq38 (head1 (Jvm.Cond.code mq38 jdk_56_method_3_code 2 (some (.object "java/util/List")) :: ws) ({ frames := 7, cells := 3, slots := 14, locals := 90 } : Room)) (fun a U => a = #[(.ref a0)] ∧ Z.Warmed39 U.vm ∧ U.heap = h0) (fun _ _ _ _ _ => True) (fun _ U o U' => ∃ v L, o = .returned v ∧ Q106 Z a0 ea kk x0 x1 x2 x3 x4 x5 wa wb wc wd we ka kc G1 h0 n0 v U'.heap L ∧ FrameEnd U o U' L ({ frames := 7, cells := 3, slots := 14, locals := 90 } : Room).cells ({ frames := 7, cells := 3, slots := 14, locals := 90 } : Room).slots) := by
  refine MetFree.of_bodySF (plainFor_of_name pn16) hisR ?_
  intro p e s m args below meth c s₁ Bd hml0 hP hK
  obtain ⟨rfl, hZ, hh⟩ := hP
  have hx := Bd.exec
  have hby := Bd.bytes
  have hml : c.maxLocals = 2 := hml0
  have hown : s.vm.findClass "java/util/ImmutableCollections" = some m.cls := findClass_of_methodNamed Bd.named
  have hnm := (name_of_methodNamed Bd.named Bd.method).1
  have hk := Bd.notSynchronized
  have X0 : Stand p l e ({ frames := 7, cells := 3, slots := 14, locals := 90 } : Room) s m #[(.ref a0)] below meth c s₁ [] 0 0 := Stand.of_body Bd
  have hh2 := hh
  have e0 : s₁.heap = h0 := by rw [← hh, Bd.state]; rfl
  have N0 := Fr.nil n0
  show Gl p e below (Pos 3 14 (Q106 Z a0 ea kk x0 x1 x2 x3 x4 x5 wa wb wc wd we ka kc G1 h0 n0) s) s₁ _
  refine Gl.cast (ef106 m a0) ?_
  refine gb (mkF m 1 #[vr a0, .unset] [(.ref a0)]) (fun _ k => XS.aloadN X0.here hx rfl (hb hby d10_0) rfl rfl k) ?_
  obtain ⟨T1, X1, e1, st1⟩ := instNo X0 hx hZ hown (hW hw 62 rfl) e0 pf0 (ns_no (hW hw 63 rfl) (hW hw 259 rfl) (NS.step (hW hw 63 rfl) (NS.step (hW hw 64 rfl) (NS.step (hW hw 65 rfl) (ns_root (hW hw 66 rfl) (hW hw 259 rfl) (by decide)) (by decide)) (by decide)) (by decide)) (by decide)) (g := (mkF m 1 #[vr a0, .unset] [(.ref a0)])) rfl rfl (hb hby d10_1)
  refine gb (mkF m 4 #[vr a0, .unset] [(.int 0)]) st1 ?_
  refine gb (mkF m 7 #[vr a0, .unset] []) (fun _ k => XS.ifNo X1.here hx rfl (hb hby d10_4) rfl ((if0 _ _).trans (teq (by decide : (0 : Int32) = (0 : Int32))).2) k) ?_
  refine gb (mkF m 8 #[vr a0, .unset] [(.ref a0)]) (fun _ k => XS.aloadN X1.here hx rfl (hb hby d10_7) rfl rfl k) ?_
  obtain ⟨T2, X2, e2, st2⟩ := instNo X1 hx hZ hown (hW hw 67 rfl) e1 pf0 (ns_no (hW hw 63 rfl) (hW hw 237 rfl) (NS.step (hW hw 63 rfl) (NS.step (hW hw 64 rfl) (NS.step (hW hw 65 rfl) (ns_root (hW hw 66 rfl) (hW hw 237 rfl) (by decide)) (by decide)) (by decide)) (by decide)) (by decide)) (g := (mkF m 8 #[vr a0, .unset] [(.ref a0)])) rfl rfl (hb hby d10_8)
  refine gb (mkF m 11 #[vr a0, .unset] [(.int 0)]) st2 ?_
  refine gb (mkF m 31 #[vr a0, .unset] []) (fun _ k => XS.ifYes X2.here hx rfl (pc0 := 11) (pc' := 31) rfl (hb hby d10_11) rfl ((if0 _ _).trans (teq (by decide : (0 : Int32) = (0 : Int32))).1) (by decide) (by decide) k) ?_
  refine gb (mkF m 32 #[vr a0, .unset] [(.ref a0)]) (fun _ k => XS.aloadN X2.here hx rfl (hb hby d10_31) rfl rfl k) ?_
  obtain ⟨cq3, kq3, q3a, q3b, q3c⟩ := isOf hZ e2 pf0
  obtain ⟨_, _, ⟨T3, L3, k3, n3⟩, -, X3, ⟨Lc3, hQ3, l3, y3, z3⟩, st3⟩ := X2.interfaceBack hx (xi := mq39) (y := mq28) hown (mvT hZ (hW hw 68 rfl)) (mvT hZ (hW hw 69 rfl)) (mvT hZ (hW hw 70 rfl)) (mvT hZ (hW hw 71 rfl)) (mvT hZ (hW hw 72 rfl)) (mvT hZ (hW hw 73 rfl)) (mvT hZ (hW hw 74 rfl)) (mvT hZ (hW hw 75 rfl)) (by decide) (backOf (W := 0) (rm11s l Z a0' hw [] a0 (6 : Int32) wa wb wc wd we ka kc G1 h0 n0 O W pf0 pf2 (by decide)) hZ (hW hw 76 rfl) (hW hw 11 rfl) (by decide) (by decide)) q3a q3b q3c (g := (mkF m 32 #[vr a0, .unset] [(.ref a0)])) rfl (by rw [hml]; rfl) (Steps.refl _) (argsL := []) (rest := []) (lenOf pd334 rfl) rfl (Nat.le_of_eq rfl) (hb hby d10_32) (fun _ _ => ⟨rfl, e2, (by decide : 0 + 0 ≤ _), (by decide : 0 + 0 ≤ _)⟩)
  dsimp only [Pt.U, Pt.locs, Pt.cells, Pt.slots] at X3 l3 y3 z3 st3 hQ3
  subst l3 y3 z3
  obtain ⟨rfl, N3q, e3⟩ := hQ3
  have N3 := Fr.app N0 N3q
  refine gb (mkF m 37 #[vr a0, .unset] [(.int 0)]) (fun _ k => st3.trans k) ?_
  refine gb (mkF m 44 #[vr a0, .unset] []) (fun _ k => XS.ifYes X3.here hx rfl (pc0 := 37) (pc' := 44) rfl (hb hby d10_37) rfl ((if0 _ _).trans (teq (by decide : (0 : Int32) = (0 : Int32))).1) (by decide) (by decide) k) ?_
  refine gb (mkF m 45 #[vr a0, .unset] [(.ref a0)]) (fun _ k => XS.aloadN X3.here hx rfl (hb hby d10_44) rfl rfl k) ?_
  obtain ⟨cq4, kq4, q4a, q4b, q4c⟩ := isOf hZ e3 pf0
  obtain ⟨_, _, ⟨T4, L4, k4, n4⟩, -, X4, ⟨Lc4, hQ4, l4, y4, z4⟩, st4⟩ := X3.interfaceBack hx (xi := mq43) (y := mq21) hown (mvT hZ (hW hw 196 rfl)) (mvT hZ (hW hw 197 rfl)) (mvT hZ (hW hw 198 rfl)) (mvT hZ (hW hw 199 rfl)) (mvT hZ (hW hw 200 rfl)) (mvT hZ (hW hw 201 rfl)) (mvT hZ (hW hw 202 rfl)) (mvT hZ (hW hw 75 rfl)) (by decide) (backOf (W := 0) (rm306 l Z a0' hw [] a0 ea kk x0 x1 x2 x3 x4 x5 wa wb wc wd we ka kc G1 h0 n0 O W pf0 pf1 pf2 pf3 pf4 pf5 pf6 pf7 pf8 pf9 pf10) hZ (hW hw 203 rfl) (hW hw 11 rfl) (by decide) (by decide)) q4a q4b q4c (g := (mkF m 45 #[vr a0, .unset] [(.ref a0)])) rfl (by rw [hml]; rfl) (Steps.refl _) (argsL := []) (rest := []) (lenOf pd50 rfl) rfl (Nat.le_of_eq rfl) (hb hby d10_45) (fun _ _ => ⟨rfl, e3, (by decide : 0 + 1 ≤ _), (by decide : 0 + 6 ≤ _)⟩)
  dsimp only [Pt.U, Pt.locs, Pt.cells, Pt.slots] at X4 l4 y4 z4 st4 hQ4
  subst l4 y4 z4
  obtain ⟨r_4, kr_4, rfl, N4q, Kc4, fc4_0, fc4_1⟩ := hQ4
  have N4 := Fr.app N3 N4q
  refine gb (mkF m 50 #[vr a0, .unset] [(.ref r_4)]) (fun _ k => st4.trans k) ?_
  have K6 := ((Keep.refl h0 []).trans Kc4 all0)
  have f7 := (Exa.keep pf5 Kc4)
  have f8 := (Exa.keep pf6 Kc4)
  have f9 := (Exa.keep pf7 Kc4)
  have f10 := (Exa.keep pf8 Kc4)
  have f11 := (Exa.keep pf9 Kc4)
  have f12 := (Exa.keep pf10 Kc4)
  have O13 := (O.keep Kc4 all0)
  obtain ⟨_, _, ⟨T5, L5, k5, n5⟩, -, X5, ⟨Lc5, hQ5, l5, y5, z5⟩, st5⟩ := callS X4 hx (y := mq42) hown (mvT hZ (hW hw 226 rfl)) (mvT hZ (hW hw 227 rfl)) (mvT hZ (hW hw 56 rfl)) (mvT hZ (hW hw 228 rfl)) (by decide) (backOf (W := 0) (rm346 l Z a0' hw [] r_4 kr_4 x0 x1 x2 x3 x4 x5 wa wb wc wd we ka kc G1 T4.heap n0 O13 W fc4_0 f7 f8 f9 f10 f11 f12) hZ (hW hw 228 rfl) (hW hw 56 rfl) (by decide) (by decide)) (g := (mkF m 50 #[vr a0, .unset] [(.ref r_4)])) rfl (by rw [hml]; rfl) (argsL := [(.ref r_4)]) (rest := []) (lenOf pd359 rfl) rfl (Nat.le_of_eq rfl) (hb hby d10_50) (fun _ _ => ⟨rfl, rfl, (by decide : 1 + 2 ≤ _), (by decide : 6 + 8 ≤ _)⟩)
  dsimp only [Pt.U, Pt.locs, Pt.cells, Pt.slots] at X5 l5 y5 z5 st5 hQ5
  subst l5 y5 z5
  obtain ⟨r_5, ar_5, kr_5, rfl, N5q, Kc5, fc5_0, fc5_1, fc5_2⟩ := hQ5
  have N5 := Fr.app N4 N5q
  refine gb (mkF m 53 #[vr a0, .unset] [(.ref r_5)]) st5 ?_
  have K14 := (K6.trans Kc5 all0)
  exact Gl.outA X5 hx hk Bd.returns rfl rfl (hb hby d10_53) ⟨r_5, ar_5, kr_5, rfl, N5, K14, fc5_0, fc5_1, fc5_2⟩ (by decide) (by decide)
theorem ef96 (m : MethodId) (x0 : Addr) : entryFrame m #[(.ref x0)] 1 = mkF m 0 #[.val (.ref x0)] [] := by first | (simp [entryFrame, mkF, argsToLocals, Value.category]; done) | rfl
def Q96 (Z : State) (a0 : Addr) (ea : Addr) (kk : ClassId) (x0 x1 x2 x3 x4 x5 : Addr) (wa wb wc wd we : Addr) (ka kc : ClassId) (G1 : Int32) (h0 : Heap) (n0 : Nat) (v : Option Value) (h : Heap) (L : List Loc) : Prop := ∃ (r : Addr), ∃ (ar : Addr), ∃ (kr : ClassId), v = some (.ref r) ∧ Fr n0 L ∧ Keep h0 h [] ∧ Exa Z h r sN ∧ Fld Z h r sN "elements" sO (.ref ar) ∧ Arv Z h ar kr oT (6 : Int32) [(.ref x0), (.ref x1), (.ref x2), (.ref x3), (.ref x4), (.ref x5)] .null
theorem rm96 (l : Launch) (Z : State) (a0' : Array Value) (hw : ∀ d ∈ tables_1, d.before a0' Z = true) (ws : List Jvm.Cond) (a0 : Addr) (ea : Addr) (kk : ClassId) (x0 x1 x2 x3 x4 x5 : Addr) (wa wb wc wd we : Addr) (ka kc : ClassId) (G1 : Int32) (h0 : Heap) (n0 : Nat) (O : Old Z n0 h0) (W : Wd Z wa wb wc wd we ka kc G1) (pf0 : Exa Z h0 a0 sA) (pf1 : Fld Z h0 a0 sA "elementData" sO (.ref ea)) (pf2 : Fld Z h0 a0 sA "size" "I" (.int 6)) (pf3 : Exa Z h0 ea sO) (pf4 : Arv Z h0 ea kk oT (10 : Int32) [(.ref x0), (.ref x1), (.ref x2), (.ref x3), (.ref x4), (.ref x5), .null, .null, .null, .null] .null) (pf5 : Exa Z h0 x0 sI) (pf6 : Exa Z h0 x1 sI) (pf7 : Exa Z h0 x2 sI) (pf8 : Exa Z h0 x3 sI) (pf9 : Exa Z h0 x4 sI) (pf10 : Exa Z h0 x5 sI) :
    MetFree l mq40 (head1 (Jvm.Cond.code mq40 jdk_40_method_48_code 1 (some (.object "java/util/List")) :: ws) ({ frames := 8, cells := 3, slots := 14, locals := 103 } : Room)) (fun a U => a = #[(.ref a0)] ∧ Z.Warmed39 U.vm ∧ U.heap = h0) (fun _ _ _ _ _ => True) (fun _ U o U' => ∃ v L, o = .returned v ∧ Q96 Z a0 ea kk x0 x1 x2 x3 x4 x5 wa wb wc wd we ka kc G1 h0 n0 v U'.heap L ∧ FrameEnd U o U' L ({ frames := 8, cells := 3, slots := 14, locals := 103 } : Room).cells ({ frames := 8, cells := 3, slots := 14, locals := 103 } : Room).slots) := by
  refine MetFree.of_bodySF (plainFor_of_name pn10) hisR ?_
  intro p e s m args below meth c s₁ Bd hml0 hP hK
  obtain ⟨rfl, hZ, hh⟩ := hP
  have hx := Bd.exec
  have hby := Bd.bytes
  have hml : c.maxLocals = 1 := hml0
  have hown : s.vm.findClass "java/util/List" = some m.cls := findClass_of_methodNamed Bd.named
  have hnm := (name_of_methodNamed Bd.named Bd.method).1
  have hk := Bd.notSynchronized
  have X0 : Stand p l e ({ frames := 8, cells := 3, slots := 14, locals := 103 } : Room) s m #[(.ref a0)] below meth c s₁ [] 0 0 := Stand.of_body Bd
  have hh2 := hh
  have e0 : s₁.heap = h0 := by rw [← hh, Bd.state]; rfl
  have N0 := Fr.nil n0
  show Gl p e below (Pos 3 14 (Q96 Z a0 ea kk x0 x1 x2 x3 x4 x5 wa wb wc wd we ka kc G1 h0 n0) s) s₁ _
  refine Gl.cast (ef96 m a0) ?_
  refine gb (mkF m 1 #[vr a0] [(.ref a0)]) (fun _ k => XS.aloadN X0.here hx rfl (hb hby d9_0) rfl rfl k) ?_
  obtain ⟨_, _, ⟨T1, L1, k1, n1⟩, -, X1, ⟨Lc1, hQ1, l1, y1, z1⟩, st1⟩ := callS X0 hx (y := mq38) hown (mvT hZ (hW hw 58 rfl)) (mvT hZ (hW hw 59 rfl)) (mvT hZ (hW hw 60 rfl)) (mvT hZ (hW hw 61 rfl)) (by decide) (backOf (W := 0) (rm106 l Z a0' hw [] a0 ea kk x0 x1 x2 x3 x4 x5 wa wb wc wd we ka kc G1 h0 n0 O W pf0 pf1 pf2 pf3 pf4 pf5 pf6 pf7 pf8 pf9 pf10) hZ (hW hw 61 rfl) (hW hw 60 rfl) (by decide) (by decide)) (g := (mkF m 1 #[vr a0] [(.ref a0)])) rfl (by rw [hml]; rfl) (argsL := [(.ref a0)]) (rest := []) (lenOf pd339 rfl) rfl (Nat.le_of_eq rfl) (hb hby d9_1) (fun _ _ => ⟨rfl, e0, (by decide : 0 + 3 ≤ _), (by decide : 0 + 14 ≤ _)⟩)
  dsimp only [Pt.U, Pt.locs, Pt.cells, Pt.slots] at X1 l1 y1 z1 st1 hQ1
  subst l1 y1 z1
  obtain ⟨r_1, ar_1, kr_1, rfl, N1q, Kc1, fc1_0, fc1_1, fc1_2⟩ := hQ1
  have N1 := Fr.app N0 N1q
  refine gb (mkF m 4 #[vr a0] [(.ref r_1)]) st1 ?_
  have K2 := ((Keep.refl h0 []).trans Kc1 all0)
  exact Gl.outA X1 hx hk Bd.returns rfl rfl (hb hby d9_4) ⟨r_1, ar_1, kr_1, rfl, N1, K2, fc1_0, fc1_1, fc1_2⟩ (by decide) (by decide)
theorem ef86 (m : MethodId) (x0 : Addr) : entryFrame m #[(.ref x0)] 1 = mkF m 0 #[.val (.ref x0)] [] := by first | (simp [entryFrame, mkF, argsToLocals, Value.category]; done) | rfl
def Q86 (Z : State) (a0 : Addr) (la : Addr) (ea : Addr) (kk : ClassId) (x0 x1 x2 x3 x4 x5 : Addr) (wa wb wc wd we : Addr) (ka kc : ClassId) (G1 : Int32) (h0 : Heap) (n0 : Nat) (v : Option Value) (h : Heap) (L : List Loc) : Prop := ∃ (r : Addr), ∃ (ar : Addr), ∃ (kr : ClassId), v = some (.ref r) ∧ Fr n0 L ∧ Keep h0 h [] ∧ Exa Z h r sN ∧ Fld Z h r sN "elements" sO (.ref ar) ∧ Arv Z h ar kr oT (6 : Int32) [(.ref x0), (.ref x1), (.ref x2), (.ref x3), (.ref x4), (.ref x5)] .null
theorem rm86 (l : Launch) (Z : State) (a0' : Array Value) (hw : ∀ d ∈ tables_1, d.before a0' Z = true) (ws : List Jvm.Cond) (a0 : Addr) (la : Addr) (ea : Addr) (kk : ClassId) (x0 x1 x2 x3 x4 x5 : Addr) (wa wb wc wd we : Addr) (ka kc : ClassId) (G1 : Int32) (h0 : Heap) (n0 : Nat) (O : Old Z n0 h0) (W : Wd Z wa wb wc wd we ka kc G1) (pf0 : Exa Z h0 a0 sF) (pf1 : Fld Z h0 a0 sF "found" "I" (.int 6)) (pf2 : Fld Z h0 a0 sF "params" "Ljava/util/List;" (.ref la)) (pf3 : Exa Z h0 la sA) (pf4 : Fld Z h0 la sA "elementData" sO (.ref ea)) (pf5 : Fld Z h0 la sA "size" "I" (.int 6)) (pf6 : Exa Z h0 ea sO) (pf7 : Arv Z h0 ea kk oT (10 : Int32) [(.ref x0), (.ref x1), (.ref x2), (.ref x3), (.ref x4), (.ref x5), .null, .null, .null, .null] .null) (pf8 : Exa Z h0 x0 sI) (pf9 : Exa Z h0 x1 sI) (pf10 : Exa Z h0 x2 sI) (pf11 : Exa Z h0 x3 sI) (pf12 : Exa Z h0 x4 sI) (pf13 : Exa Z h0 x5 sI) :
    MetFree l mq41 (head1 (Jvm.Cond.code mq41 prog_17_method_8_code 1 (some (.object "java/util/List")) :: ws) ({ frames := 9, cells := 3, slots := 14, locals := 115 } : Room)) (fun a U => a = #[(.ref a0)] ∧ Z.Warmed39 U.vm ∧ U.heap = h0) (fun _ _ _ _ _ => True) (fun _ U o U' => ∃ v L, o = .returned v ∧ Q86 Z a0 la ea kk x0 x1 x2 x3 x4 x5 wa wb wc wd we ka kc G1 h0 n0 v U'.heap L ∧ FrameEnd U o U' L ({ frames := 9, cells := 3, slots := 14, locals := 115 } : Room).cells ({ frames := 9, cells := 3, slots := 14, locals := 115 } : Room).slots) := by
  refine MetFree.of_bodySF (plainFor_of_name pn3) hisR ?_
  intro p e s m args below meth c s₁ Bd hml0 hP hK
  obtain ⟨rfl, hZ, hh⟩ := hP
  have hx := Bd.exec
  have hby := Bd.bytes
  have hml : c.maxLocals = 1 := hml0
  have hown : s.vm.findClass sF = some m.cls := findClass_of_methodNamed Bd.named
  have hnm := (name_of_methodNamed Bd.named Bd.method).1
  have hk := Bd.notSynchronized
  have X0 : Stand p l e ({ frames := 9, cells := 3, slots := 14, locals := 115 } : Room) s m #[(.ref a0)] below meth c s₁ [] 0 0 := Stand.of_body Bd
  have hh2 := hh
  have e0 : s₁.heap = h0 := by rw [← hh, Bd.state]; rfl
  have N0 := Fr.nil n0
  show Gl p e below (Pos 3 14 (Q86 Z a0 la ea kk x0 x1 x2 x3 x4 x5 wa wb wc wd we ka kc G1 h0 n0) s) s₁ _
  refine Gl.cast (ef86 m a0) ?_
  refine gb (mkF m 1 #[vr a0] [(.ref a0)]) (fun _ k => XS.aloadN X0.here hx rfl (hb hby d8_0) rfl rfl k) ?_
  obtain ⟨T1, X1, e1, st1⟩ := getF X0 hx hZ hown (host := "") (Or.inl (hW hw 33 rfl)) Via.refl e0 pf2 (g := (mkF m 1 #[vr a0] [(.ref a0)])) rfl rfl (hb hby d8_1)
  refine gb (mkF m 4 #[vr a0] [(.ref la)]) st1 ?_
  obtain ⟨_, _, ⟨T2, L2, k2, n2⟩, -, X2, ⟨Lc2, hQ2, l2, y2, z2⟩, st2⟩ := callS X1 hx (y := mq40) hown (mvT hZ (hW hw 54 rfl)) (mvT hZ (hW hw 55 rfl)) (mvT hZ (hW hw 56 rfl)) (mvT hZ (hW hw 57 rfl)) (by decide) (backOf (W := 0) (rm96 l Z a0' hw [] la ea kk x0 x1 x2 x3 x4 x5 wa wb wc wd we ka kc G1 h0 n0 O W pf3 pf4 pf5 pf6 pf7 pf8 pf9 pf10 pf11 pf12 pf13) hZ (hW hw 57 rfl) (hW hw 56 rfl) (by decide) (by decide)) (g := (mkF m 4 #[vr a0] [(.ref la)])) rfl (by rw [hml]; rfl) (argsL := [(.ref la)]) (rest := []) (lenOf pd339 rfl) rfl (Nat.le_of_eq rfl) (hb hby d8_4) (fun _ _ => ⟨rfl, e1, (by decide : 0 + 3 ≤ _), (by decide : 0 + 14 ≤ _)⟩)
  dsimp only [Pt.U, Pt.locs, Pt.cells, Pt.slots] at X2 l2 y2 z2 st2 hQ2
  subst l2 y2 z2
  obtain ⟨r_2, ar_2, kr_2, rfl, N2q, Kc2, fc2_0, fc2_1, fc2_2⟩ := hQ2
  have N2 := Fr.app N0 N2q
  refine gb (mkF m 7 #[vr a0] [(.ref r_2)]) st2 ?_
  have K3 := ((Keep.refl h0 []).trans Kc2 all0)
  exact Gl.outA X2 hx hk Bd.returns rfl rfl (hb hby d8_7) ⟨r_2, ar_2, kr_2, rfl, N2, K3, fc2_0, fc2_1, fc2_2⟩ (by decide) (by decide)
theorem ef357 (m : MethodId) (x0 : Addr) : entryFrame m #[(.ref x0)] 3 = mkF m 0 #[.val (.ref x0), .unset, .unset] [] := by first | (simp [entryFrame, mkF, argsToLocals, Value.category]; done) | rfl
def Q357 (Z : State) (a0 : Addr) (kk : ClassId) (x0 x1 x2 x3 x4 x5 x6 : Addr) (wa wb wc wd we : Addr) (ka kc : ClassId) (G1 : Int32) (h0 : Heap) (n0 : Nat) (v : Option Value) (h : Heap) (L : List Loc) : Prop := ∃ (r : Addr), ∃ (ar : Addr), ∃ (kr : ClassId), v = some (.ref r) ∧ Fr n0 L ∧ Keep h0 h [] ∧ Exa Z h r sN ∧ Fld Z h r sN "elements" sO (.ref ar) ∧ Arv Z h ar kr oT (7 : Int32) [(.ref x0), (.ref x1), (.ref x2), (.ref x3), (.ref x4), (.ref x5), (.ref x6)] .null
theorem rm357 (l : Launch) (Z : State) (a0' : Array Value) (hw : ∀ d ∈ tables_1, d.before a0' Z = true) (ws : List Jvm.Cond) (a0 : Addr) (kk : ClassId) (x0 x1 x2 x3 x4 x5 x6 : Addr) (wa wb wc wd we : Addr) (ka kc : ClassId) (G1 : Int32) (h0 : Heap) (n0 : Nat) (O : Old Z n0 h0) (W : Wd Z wa wb wc wd we ka kc G1) (pf0 : Arv Z h0 a0 kk oT (7 : Int32) [(.ref x0), (.ref x1), (.ref x2), (.ref x3), (.ref x4), (.ref x5), (.ref x6)] .null) (pf1 : Exa Z h0 x0 sI) (pf2 : Exa Z h0 x1 sI) (pf3 : Exa Z h0 x2 sI) (pf4 : Exa Z h0 x3 sI) (pf5 : Exa Z h0 x4 sI) (pf6 : Exa Z h0 x5 sI) (pf7 : Exa Z h0 x6 sI) :
    MetFree l mq44 (head1 (Jvm.Cond.code mq44 jdk_56_method_4_code 3 (some (.object "java/util/List")) :: ws) ({ frames := 5, cells := 2, slots := 9, locals := 63 } : Room)) (fun a U => a = #[(.ref a0)] ∧ Z.Warmed39 U.vm ∧ U.heap = h0) (fun _ _ _ _ _ => True) (fun _ U o U' => ∃ v L, o = .returned v ∧ Q357 Z a0 kk x0 x1 x2 x3 x4 x5 x6 wa wb wc wd we ka kc G1 h0 n0 v U'.heap L ∧ FrameEnd U o U' L ({ frames := 5, cells := 2, slots := 9, locals := 63 } : Room).cells ({ frames := 5, cells := 2, slots := 9, locals := 63 } : Room).slots) := by
  refine MetFree.of_bodySF (plainFor_of_name pn16) hisR ?_
  intro p e s m args below meth c s₁ Bd hml0 hP hK
  obtain ⟨rfl, hZ, hh⟩ := hP
  have hx := Bd.exec
  have hby := Bd.bytes
  have hml : c.maxLocals = 3 := hml0
  have hown : s.vm.findClass "java/util/ImmutableCollections" = some m.cls := findClass_of_methodNamed Bd.named
  have hnm := (name_of_methodNamed Bd.named Bd.method).1
  have hk := Bd.notSynchronized
  have X0 : Stand p l e ({ frames := 5, cells := 2, slots := 9, locals := 63 } : Room) s m #[(.ref a0)] below meth c s₁ [] 0 0 := Stand.of_body Bd
  have hh2 := hh
  have e0 : s₁.heap = h0 := by rw [← hh, Bd.state]; rfl
  have N0 := Fr.nil n0
  show Gl p e below (Pos 2 9 (Q357 Z a0 kk x0 x1 x2 x3 x4 x5 x6 wa wb wc wd we ka kc G1 h0 n0) s) s₁ _
  refine Gl.cast (ef357 m a0) ?_
  refine gb (mkF m 1 #[vr a0, .unset, .unset] [(.ref a0)]) (fun _ k => XS.aloadN X0.here hx rfl (hb hby d35_0) rfl rfl k) ?_
  obtain ⟨cl1, Ar1, qa1, Sa1, Na1, Ha1, Ga1⟩ := id pf0
  refine gb (mkF m 2 #[vr a0, .unset, .unset] [(.int 7)]) (fun t k => X0.arraylength hx (by rw [e0]; exact Ar1.1) (State.isArrayOf_alike hZ.alike Ar1.2.1) (g := (mkF m 1 #[vr a0, .unset, .unset] [(.ref a0)])) rfl rfl (hb hby d35_1) t (by rw [len_of Sa1 Na1]; exact k)) ?_
  obtain ⟨T2, h2, k2, X2, e2, E2, A2, Ov2, st2⟩ := newRX X0 hx hZ hown (hW hw 232 rfl) (hW hw 188 rfl) rfl e0 (g := (mkF m 2 #[vr a0, .unset, .unset] [(.int 7)])) rfl (hb hby d35_2) rfl (by decide) (cap := 7) (by decide) (by decide) (by decide) (by decide)
  obtain ⟨b2, g2⟩ : ∃ z, z = (h0).size := ⟨_, rfl⟩
  rw [← g2] at A2 st2
  have gb2 : n0 ≤ b2 := Nat.le_trans (Nat.le_trans (Nat.le_of_eq O.1.symm) O.2.1) (Nat.le_of_eq g2.symm)
  have sb2 : h0.size ≤ b2 := Nat.le_trans (Keep.refl h0 []).1 (Nat.le_of_eq g2.symm)
  have ne2_0 : a0 ≠ b2 := Nat.ne_of_lt (Nat.lt_of_lt_of_le pf0.lt (Nat.le_of_eq g2.symm))
  have ne2_2 : x0 ≠ b2 := Nat.ne_of_lt (Nat.lt_of_lt_of_le pf1.lt (Nat.le_of_eq g2.symm))
  have ne2_4 : x1 ≠ b2 := Nat.ne_of_lt (Nat.lt_of_lt_of_le pf2.lt (Nat.le_of_eq g2.symm))
  have ne2_6 : x2 ≠ b2 := Nat.ne_of_lt (Nat.lt_of_lt_of_le pf3.lt (Nat.le_of_eq g2.symm))
  have ne2_8 : x3 ≠ b2 := Nat.ne_of_lt (Nat.lt_of_lt_of_le pf4.lt (Nat.le_of_eq g2.symm))
  have ne2_10 : x4 ≠ b2 := Nat.ne_of_lt (Nat.lt_of_lt_of_le pf5.lt (Nat.le_of_eq g2.symm))
  have ne2_12 : x5 ≠ b2 := Nat.ne_of_lt (Nat.lt_of_lt_of_le pf6.lt (Nat.le_of_eq g2.symm))
  have ne2_14 : x6 ≠ b2 := Nat.ne_of_lt (Nat.lt_of_lt_of_le pf7.lt (Nat.le_of_eq g2.symm))
  have ne2_16 : wa ≠ b2 := Nat.ne_of_lt (Nat.lt_of_lt_of_le (Arv.ext W.2.1 O.2).lt (Nat.le_of_eq g2.symm))
  have ne2_18 : wc ≠ b2 := Nat.ne_of_lt (Nat.lt_of_lt_of_le (Arv.ext W.2.2.2.2.2.1 O.2).lt (Nat.le_of_eq g2.symm))
  have ne2_20 : wb ≠ b2 := Nat.ne_of_lt (Nat.lt_of_lt_of_le (Exa.ext O.2 W.2.2.2.1).lt (Nat.le_of_eq g2.symm))
  have ne2_22 : wd ≠ b2 := Nat.ne_of_lt (Nat.lt_of_lt_of_le (Exa.ext O.2 W.2.2.2.2.2.2.2.1).lt (Nat.le_of_eq g2.symm))
  have V2 : Arv Z h2 b2 k2 oT (7 : Int32) [.null, .null, .null, .null, .null, .null, .null] .null := (Arv.new A2 (by decide)).pad (pad_rep [] .null 7)
  rw [← g2] at Ov2
  refine gb (mkF m 5 #[vr a0, .unset, .unset] [(.ref b2)]) st2 ?_
  refine gb (mkF m 6 #[vr a0, vr b2, .unset] []) (fun _ k => XS.astoreN X2.here hx rfl (hb hby d35_5) rfl rfl (l' := #[vr a0, vr b2, .unset]) rfl k) ?_
  refine gb (mkF m 7 #[vr a0, vr b2, .unset] [(.int 0)]) (fun _ k => XS.iconst X2.here hx rfl (hb hby d35_6) k) ?_
  refine gb (mkF m 8 #[vr a0, vr b2, vi 0] []) (fun _ k => XS.istoreN X2.here hx rfl (hb hby d35_7) rfl (l' := #[vr a0, vr b2, vi 0]) rfl k) ?_
  refine gb (mkF m 9 #[vr a0, vr b2, vi 0] [(.int 0)]) (fun _ k => XS.iloadN X2.here hx rfl (hb hby d35_8) rfl k) ?_
  refine gb (mkF m 10 #[vr a0, vr b2, vi 0] [(.ref a0), (.int 0)]) (fun _ k => XS.aloadN X2.here hx rfl (hb hby d35_9) rfl rfl k) ?_
  have f3 := (Arv.ext pf0 E2)
  obtain ⟨cl4, Ar4, qa4, Sa4, Na4, Ha4, Ga4⟩ := id f3
  refine gb (mkF m 11 #[vr a0, vr b2, vi 0] [(.int 7), (.int 0)]) (fun t k => X2.arraylength hx (by rw [e2]; exact Ar4.1) (State.isArrayOf_alike hZ.alike Ar4.2.1) (g := (mkF m 10 #[vr a0, vr b2, vi 0] [(.ref a0), (.int 0)])) rfl rfl (hb hby d35_10) t (by rw [len_of Sa4 Na4]; exact k)) ?_
  refine gb (mkF m 14 #[vr a0, vr b2, vi 0] []) (fun _ k => XS.icmpNo X2.here hx rfl (hb hby d35_11) rfl (tlt (by decide : (0 : Int32) < (7 : Int32))).2.1 k) ?_
  refine gb (mkF m 15 #[vr a0, vr b2, vi 0] [(.ref b2)]) (fun _ k => XS.aloadN X2.here hx rfl (hb hby d35_14) rfl rfl k) ?_
  refine gb (mkF m 16 #[vr a0, vr b2, vi 0] [(.int 0), (.ref b2)]) (fun _ k => XS.iloadN X2.here hx rfl (hb hby d35_15) rfl k) ?_
  refine gb (mkF m 17 #[vr a0, vr b2, vi 0] [(.ref a0), (.int 0), (.ref b2)]) (fun _ k => XS.aloadN X2.here hx rfl (hb hby d35_16) rfl rfl k) ?_
  refine gb (mkF m 18 #[vr a0, vr b2, vi 0] [(.int 0), (.ref a0), (.int 0), (.ref b2)]) (fun _ k => XS.iloadN X2.here hx rfl (hb hby d35_17) rfl k) ?_
  obtain ⟨cl5, Ar5, qa5, Sa5, Na5, Ha5, Ga5⟩ := id f3
  have hin6 : ¬ ((0 : Int32) < 0 ∨ cl5.slots.size ≤ ((0 : Int32)).toNatClampNeg) := inb_of Sa5 ⟨by decide, by decide⟩
  refine gb (mkF m 19 #[vr a0, vr b2, vi 0] [(.ref x0), (.int 0), (.ref b2)]) (X2.aaload hx (j := (0 : Int32)) (v := (.ref x0)) (by rw [e2]; exact Ar5.1) (State.isArrayOf_alike hZ.alike Ar5.2.1) rfl Ar5.2.2 hin6 (Has.at Ha5 hin6 rfl) (g := (mkF m 18 #[vr a0, vr b2, vi 0] [(.int 0), (.ref a0), (.int 0), (.ref b2)])) rfl rfl (hb hby d35_18)) ?_
  have K8 := ((Keep.refl h0 []).ext E2)
  have O9 := (O.ext E2)
  obtain ⟨_, _, ⟨T7, L7, k7, n7⟩, -, X7, ⟨Lc7, hQ7, l7, y7, z7⟩, st7⟩ := callS X2 hx (y := mq32) hown (mvT hZ (hW hw 233 rfl)) (mvT hZ (hW hw 234 rfl)) (mvT hZ (hW hw 235 rfl)) (mvT hZ (hW hw 236 rfl)) (by decide) (backOf (W := 2) (rm36 l Z a0' hw [] x0 wa wb wc wd we ka kc G1 h2 n0 O9 W ) hZ (hW hw 236 rfl) (hW hw 235 rfl) (by decide) (by decide)) (g := (mkF m 19 #[vr a0, vr b2, vi 0] [(.ref x0), (.int 0), (.ref b2)])) rfl (by rw [hml]; rfl) (argsL := [(.ref x0)]) (rest := [(.int 0), (.ref b2)]) (lenOf pd311 rfl) rfl (Nat.le_of_eq rfl) (hb hby d35_19) (fun _ _ => ⟨rfl, e2, (by decide : 1 + 0 ≤ _), (by decide : 7 + 0 ≤ _)⟩)
  dsimp only [Pt.U, Pt.locs, Pt.cells, Pt.slots] at X7 l7 y7 z7 st7 hQ7
  subst l7 y7 z7
  obtain ⟨rfl, N7q, e7⟩ := hQ7
  have N7 := Fr.app N0 N7q
  refine gb (mkF m 22 #[vr a0, vr b2, vi 0] [(.ref x0), (.int 0), (.ref b2)]) st7 ?_
  obtain ⟨cl10, Ar10, qa10, Sa10, Na10, Ha10, Ga10⟩ := id V2
  have hin11 : ¬ ((0 : Int32) < 0 ∨ cl10.slots.size ≤ ((0 : Int32)).toNatClampNeg) := inb_of Sa10 ⟨by decide, by decide⟩
  have f12 := (Exa.ext E2 pf1)
  obtain ⟨T11, h11, X11, e11, W11, st11⟩ := stR X7 hx hZ e7 Ar10 (j := (0 : Int32)) hin11 rfl (Sto.ofV Ar10 qa10 Ov2.1 (Ins.of_exa f12 (hW hw 189 rfl))) (g := (mkF m 22 #[vr a0, vr b2, vi 0] [(.ref x0), (.int 0), (.ref b2)])) rfl rfl (hb hby d35_22)
  have V11 : Arv Z h11 b2 k2 oT (7 : Int32) [(.ref x0), .null, .null, .null, .null, .null, .null] .null := Arv.set Ar10 qa10 Sa10 Na10 Ha10 Ga10 rfl W11 0 rfl (Nat.le_of_ble_eq_true rfl)
  have N11 := Fr.snoc X11 N7 gb2
  refine gb (mkF m 23 #[vr a0, vr b2, vi 0] []) st11 ?_
  refine gb (mkF m 26 #[vr a0, vr b2, vi 1] []) (fun _ k => XS.iinc X11.here hx rfl (hb hby d35_23) rfl (l' := #[vr a0, vr b2, vi 1]) rfl k) ?_
  refine gb (mkF m 8 #[vr a0, vr b2, vi 1] []) (fun _ k => XS.goto X11.here hx rfl (pc0 := 26) (pc' := 8) rfl (hb hby d35_26) (by decide) (by decide) k) ?_
  refine gb (mkF m 9 #[vr a0, vr b2, vi 1] [(.int 1)]) (fun _ k => XS.iloadN X11.here hx rfl (hb hby d35_8) rfl k) ?_
  refine gb (mkF m 10 #[vr a0, vr b2, vi 1] [(.ref a0), (.int 1)]) (fun _ k => XS.aloadN X11.here hx rfl (hb hby d35_9) rfl rfl k) ?_
  have f13 := (Arv.other f3 W11 ne2_0)
  obtain ⟨cl14, Ar14, qa14, Sa14, Na14, Ha14, Ga14⟩ := id f13
  refine gb (mkF m 11 #[vr a0, vr b2, vi 1] [(.int 7), (.int 1)]) (fun t k => X11.arraylength hx (by rw [e11]; exact Ar14.1) (State.isArrayOf_alike hZ.alike Ar14.2.1) (g := (mkF m 10 #[vr a0, vr b2, vi 1] [(.ref a0), (.int 1)])) rfl rfl (hb hby d35_10) t (by rw [len_of Sa14 Na14]; exact k)) ?_
  refine gb (mkF m 14 #[vr a0, vr b2, vi 1] []) (fun _ k => XS.icmpNo X11.here hx rfl (hb hby d35_11) rfl (tlt (by decide : (1 : Int32) < (7 : Int32))).2.1 k) ?_
  refine gb (mkF m 15 #[vr a0, vr b2, vi 1] [(.ref b2)]) (fun _ k => XS.aloadN X11.here hx rfl (hb hby d35_14) rfl rfl k) ?_
  refine gb (mkF m 16 #[vr a0, vr b2, vi 1] [(.int 1), (.ref b2)]) (fun _ k => XS.iloadN X11.here hx rfl (hb hby d35_15) rfl k) ?_
  refine gb (mkF m 17 #[vr a0, vr b2, vi 1] [(.ref a0), (.int 1), (.ref b2)]) (fun _ k => XS.aloadN X11.here hx rfl (hb hby d35_16) rfl rfl k) ?_
  refine gb (mkF m 18 #[vr a0, vr b2, vi 1] [(.int 1), (.ref a0), (.int 1), (.ref b2)]) (fun _ k => XS.iloadN X11.here hx rfl (hb hby d35_17) rfl k) ?_
  obtain ⟨cl15, Ar15, qa15, Sa15, Na15, Ha15, Ga15⟩ := id f13
  have hin16 : ¬ ((1 : Int32) < 0 ∨ cl15.slots.size ≤ ((1 : Int32)).toNatClampNeg) := inb_of Sa15 ⟨by decide, by decide⟩
  refine gb (mkF m 19 #[vr a0, vr b2, vi 1] [(.ref x1), (.int 1), (.ref b2)]) (X11.aaload hx (j := (1 : Int32)) (v := (.ref x1)) (by rw [e11]; exact Ar15.1) (State.isArrayOf_alike hZ.alike Ar15.2.1) rfl Ar15.2.2 hin16 (Has.at Ha15 hin16 rfl) (g := (mkF m 18 #[vr a0, vr b2, vi 1] [(.int 1), (.ref a0), (.int 1), (.ref b2)])) rfl rfl (hb hby d35_18)) ?_
  have K18 := (K8.wr W11 (Or.inr sb2))
  have O19 := (O9.wr W11 gb2)
  obtain ⟨_, _, ⟨T17, L17, k17, n17⟩, -, X17, ⟨Lc17, hQ17, l17, y17, z17⟩, st17⟩ := callS X11 hx (y := mq32) hown (mvT hZ (hW hw 233 rfl)) (mvT hZ (hW hw 234 rfl)) (mvT hZ (hW hw 235 rfl)) (mvT hZ (hW hw 236 rfl)) (by decide) (backOf (W := 2) (rm36 l Z a0' hw [] x1 wa wb wc wd we ka kc G1 h11 n0 O19 W ) hZ (hW hw 236 rfl) (hW hw 235 rfl) (by decide) (by decide)) (g := (mkF m 19 #[vr a0, vr b2, vi 1] [(.ref x1), (.int 1), (.ref b2)])) rfl (by rw [hml]; rfl) (argsL := [(.ref x1)]) (rest := [(.int 1), (.ref b2)]) (lenOf pd311 rfl) rfl (Nat.le_of_eq rfl) (hb hby d35_19) (fun _ _ => ⟨rfl, e11, (by decide : 1 + 0 ≤ _), (by decide : 7 + 0 ≤ _)⟩)
  dsimp only [Pt.U, Pt.locs, Pt.cells, Pt.slots] at X17 l17 y17 z17 st17 hQ17
  subst l17 y17 z17
  obtain ⟨rfl, N17q, e17⟩ := hQ17
  have N17 := Fr.app N11 N17q
  refine gb (mkF m 22 #[vr a0, vr b2, vi 1] [(.ref x1), (.int 1), (.ref b2)]) st17 ?_
  obtain ⟨cl20, Ar20, qa20, Sa20, Na20, Ha20, Ga20⟩ := id V11
  have hin21 : ¬ ((1 : Int32) < 0 ∨ cl20.slots.size ≤ ((1 : Int32)).toNatClampNeg) := inb_of Sa20 ⟨by decide, by decide⟩
  have f22 := (Exa.wr W11 (Exa.ext E2 pf2))
  obtain ⟨T21, h21, X21, e21, W21, st21⟩ := stR X17 hx hZ e17 Ar20 (j := (1 : Int32)) hin21 rfl (Sto.ofV Ar20 qa20 Ov2.1 (Ins.of_exa f22 (hW hw 189 rfl))) (g := (mkF m 22 #[vr a0, vr b2, vi 1] [(.ref x1), (.int 1), (.ref b2)])) rfl rfl (hb hby d35_22)
  have V21 : Arv Z h21 b2 k2 oT (7 : Int32) [(.ref x0), (.ref x1), .null, .null, .null, .null, .null] .null := Arv.set Ar20 qa20 Sa20 Na20 Ha20 Ga20 rfl W21 1 rfl (Nat.le_of_ble_eq_true rfl)
  have N21 := Fr.snoc X21 N17 gb2
  refine gb (mkF m 23 #[vr a0, vr b2, vi 1] []) st21 ?_
  refine gb (mkF m 26 #[vr a0, vr b2, vi 2] []) (fun _ k => XS.iinc X21.here hx rfl (hb hby d35_23) rfl (l' := #[vr a0, vr b2, vi 2]) rfl k) ?_
  refine gb (mkF m 8 #[vr a0, vr b2, vi 2] []) (fun _ k => XS.goto X21.here hx rfl (pc0 := 26) (pc' := 8) rfl (hb hby d35_26) (by decide) (by decide) k) ?_
  refine gb (mkF m 9 #[vr a0, vr b2, vi 2] [(.int 2)]) (fun _ k => XS.iloadN X21.here hx rfl (hb hby d35_8) rfl k) ?_
  refine gb (mkF m 10 #[vr a0, vr b2, vi 2] [(.ref a0), (.int 2)]) (fun _ k => XS.aloadN X21.here hx rfl (hb hby d35_9) rfl rfl k) ?_
  have f23 := (Arv.other f13 W21 ne2_0)
  obtain ⟨cl24, Ar24, qa24, Sa24, Na24, Ha24, Ga24⟩ := id f23
  refine gb (mkF m 11 #[vr a0, vr b2, vi 2] [(.int 7), (.int 2)]) (fun t k => X21.arraylength hx (by rw [e21]; exact Ar24.1) (State.isArrayOf_alike hZ.alike Ar24.2.1) (g := (mkF m 10 #[vr a0, vr b2, vi 2] [(.ref a0), (.int 2)])) rfl rfl (hb hby d35_10) t (by rw [len_of Sa24 Na24]; exact k)) ?_
  refine gb (mkF m 14 #[vr a0, vr b2, vi 2] []) (fun _ k => XS.icmpNo X21.here hx rfl (hb hby d35_11) rfl (tlt (by decide : (2 : Int32) < (7 : Int32))).2.1 k) ?_
  refine gb (mkF m 15 #[vr a0, vr b2, vi 2] [(.ref b2)]) (fun _ k => XS.aloadN X21.here hx rfl (hb hby d35_14) rfl rfl k) ?_
  refine gb (mkF m 16 #[vr a0, vr b2, vi 2] [(.int 2), (.ref b2)]) (fun _ k => XS.iloadN X21.here hx rfl (hb hby d35_15) rfl k) ?_
  refine gb (mkF m 17 #[vr a0, vr b2, vi 2] [(.ref a0), (.int 2), (.ref b2)]) (fun _ k => XS.aloadN X21.here hx rfl (hb hby d35_16) rfl rfl k) ?_
  refine gb (mkF m 18 #[vr a0, vr b2, vi 2] [(.int 2), (.ref a0), (.int 2), (.ref b2)]) (fun _ k => XS.iloadN X21.here hx rfl (hb hby d35_17) rfl k) ?_
  obtain ⟨cl25, Ar25, qa25, Sa25, Na25, Ha25, Ga25⟩ := id f23
  have hin26 : ¬ ((2 : Int32) < 0 ∨ cl25.slots.size ≤ ((2 : Int32)).toNatClampNeg) := inb_of Sa25 ⟨by decide, by decide⟩
  refine gb (mkF m 19 #[vr a0, vr b2, vi 2] [(.ref x2), (.int 2), (.ref b2)]) (X21.aaload hx (j := (2 : Int32)) (v := (.ref x2)) (by rw [e21]; exact Ar25.1) (State.isArrayOf_alike hZ.alike Ar25.2.1) rfl Ar25.2.2 hin26 (Has.at Ha25 hin26 rfl) (g := (mkF m 18 #[vr a0, vr b2, vi 2] [(.int 2), (.ref a0), (.int 2), (.ref b2)])) rfl rfl (hb hby d35_18)) ?_
  have K28 := (K18.wr W21 (Or.inr sb2))
  have O29 := (O19.wr W21 gb2)
  obtain ⟨_, _, ⟨T27, L27, k27, n27⟩, -, X27, ⟨Lc27, hQ27, l27, y27, z27⟩, st27⟩ := callS X21 hx (y := mq32) hown (mvT hZ (hW hw 233 rfl)) (mvT hZ (hW hw 234 rfl)) (mvT hZ (hW hw 235 rfl)) (mvT hZ (hW hw 236 rfl)) (by decide) (backOf (W := 2) (rm36 l Z a0' hw [] x2 wa wb wc wd we ka kc G1 h21 n0 O29 W ) hZ (hW hw 236 rfl) (hW hw 235 rfl) (by decide) (by decide)) (g := (mkF m 19 #[vr a0, vr b2, vi 2] [(.ref x2), (.int 2), (.ref b2)])) rfl (by rw [hml]; rfl) (argsL := [(.ref x2)]) (rest := [(.int 2), (.ref b2)]) (lenOf pd311 rfl) rfl (Nat.le_of_eq rfl) (hb hby d35_19) (fun _ _ => ⟨rfl, e21, (by decide : 1 + 0 ≤ _), (by decide : 7 + 0 ≤ _)⟩)
  dsimp only [Pt.U, Pt.locs, Pt.cells, Pt.slots] at X27 l27 y27 z27 st27 hQ27
  subst l27 y27 z27
  obtain ⟨rfl, N27q, e27⟩ := hQ27
  have N27 := Fr.app N21 N27q
  refine gb (mkF m 22 #[vr a0, vr b2, vi 2] [(.ref x2), (.int 2), (.ref b2)]) st27 ?_
  obtain ⟨cl30, Ar30, qa30, Sa30, Na30, Ha30, Ga30⟩ := id V21
  have hin31 : ¬ ((2 : Int32) < 0 ∨ cl30.slots.size ≤ ((2 : Int32)).toNatClampNeg) := inb_of Sa30 ⟨by decide, by decide⟩
  have f32 := (Exa.wr W21 (Exa.wr W11 (Exa.ext E2 pf3)))
  obtain ⟨T31, h31, X31, e31, W31, st31⟩ := stR X27 hx hZ e27 Ar30 (j := (2 : Int32)) hin31 rfl (Sto.ofV Ar30 qa30 Ov2.1 (Ins.of_exa f32 (hW hw 189 rfl))) (g := (mkF m 22 #[vr a0, vr b2, vi 2] [(.ref x2), (.int 2), (.ref b2)])) rfl rfl (hb hby d35_22)
  have V31 : Arv Z h31 b2 k2 oT (7 : Int32) [(.ref x0), (.ref x1), (.ref x2), .null, .null, .null, .null] .null := Arv.set Ar30 qa30 Sa30 Na30 Ha30 Ga30 rfl W31 2 rfl (Nat.le_of_ble_eq_true rfl)
  have N31 := Fr.snoc X31 N27 gb2
  refine gb (mkF m 23 #[vr a0, vr b2, vi 2] []) st31 ?_
  refine gb (mkF m 26 #[vr a0, vr b2, vi 3] []) (fun _ k => XS.iinc X31.here hx rfl (hb hby d35_23) rfl (l' := #[vr a0, vr b2, vi 3]) rfl k) ?_
  refine gb (mkF m 8 #[vr a0, vr b2, vi 3] []) (fun _ k => XS.goto X31.here hx rfl (pc0 := 26) (pc' := 8) rfl (hb hby d35_26) (by decide) (by decide) k) ?_
  refine gb (mkF m 9 #[vr a0, vr b2, vi 3] [(.int 3)]) (fun _ k => XS.iloadN X31.here hx rfl (hb hby d35_8) rfl k) ?_
  refine gb (mkF m 10 #[vr a0, vr b2, vi 3] [(.ref a0), (.int 3)]) (fun _ k => XS.aloadN X31.here hx rfl (hb hby d35_9) rfl rfl k) ?_
  have f33 := (Arv.other f23 W31 ne2_0)
  obtain ⟨cl34, Ar34, qa34, Sa34, Na34, Ha34, Ga34⟩ := id f33
  refine gb (mkF m 11 #[vr a0, vr b2, vi 3] [(.int 7), (.int 3)]) (fun t k => X31.arraylength hx (by rw [e31]; exact Ar34.1) (State.isArrayOf_alike hZ.alike Ar34.2.1) (g := (mkF m 10 #[vr a0, vr b2, vi 3] [(.ref a0), (.int 3)])) rfl rfl (hb hby d35_10) t (by rw [len_of Sa34 Na34]; exact k)) ?_
  refine gb (mkF m 14 #[vr a0, vr b2, vi 3] []) (fun _ k => XS.icmpNo X31.here hx rfl (hb hby d35_11) rfl (tlt (by decide : (3 : Int32) < (7 : Int32))).2.1 k) ?_
  refine gb (mkF m 15 #[vr a0, vr b2, vi 3] [(.ref b2)]) (fun _ k => XS.aloadN X31.here hx rfl (hb hby d35_14) rfl rfl k) ?_
  refine gb (mkF m 16 #[vr a0, vr b2, vi 3] [(.int 3), (.ref b2)]) (fun _ k => XS.iloadN X31.here hx rfl (hb hby d35_15) rfl k) ?_
  refine gb (mkF m 17 #[vr a0, vr b2, vi 3] [(.ref a0), (.int 3), (.ref b2)]) (fun _ k => XS.aloadN X31.here hx rfl (hb hby d35_16) rfl rfl k) ?_
  refine gb (mkF m 18 #[vr a0, vr b2, vi 3] [(.int 3), (.ref a0), (.int 3), (.ref b2)]) (fun _ k => XS.iloadN X31.here hx rfl (hb hby d35_17) rfl k) ?_
  obtain ⟨cl35, Ar35, qa35, Sa35, Na35, Ha35, Ga35⟩ := id f33
  have hin36 : ¬ ((3 : Int32) < 0 ∨ cl35.slots.size ≤ ((3 : Int32)).toNatClampNeg) := inb_of Sa35 ⟨by decide, by decide⟩
  refine gb (mkF m 19 #[vr a0, vr b2, vi 3] [(.ref x3), (.int 3), (.ref b2)]) (X31.aaload hx (j := (3 : Int32)) (v := (.ref x3)) (by rw [e31]; exact Ar35.1) (State.isArrayOf_alike hZ.alike Ar35.2.1) rfl Ar35.2.2 hin36 (Has.at Ha35 hin36 rfl) (g := (mkF m 18 #[vr a0, vr b2, vi 3] [(.int 3), (.ref a0), (.int 3), (.ref b2)])) rfl rfl (hb hby d35_18)) ?_
  have K38 := (K28.wr W31 (Or.inr sb2))
  have O39 := (O29.wr W31 gb2)
  obtain ⟨_, _, ⟨T37, L37, k37, n37⟩, -, X37, ⟨Lc37, hQ37, l37, y37, z37⟩, st37⟩ := callS X31 hx (y := mq32) hown (mvT hZ (hW hw 233 rfl)) (mvT hZ (hW hw 234 rfl)) (mvT hZ (hW hw 235 rfl)) (mvT hZ (hW hw 236 rfl)) (by decide) (backOf (W := 2) (rm36 l Z a0' hw [] x3 wa wb wc wd we ka kc G1 h31 n0 O39 W ) hZ (hW hw 236 rfl) (hW hw 235 rfl) (by decide) (by decide)) (g := (mkF m 19 #[vr a0, vr b2, vi 3] [(.ref x3), (.int 3), (.ref b2)])) rfl (by rw [hml]; rfl) (argsL := [(.ref x3)]) (rest := [(.int 3), (.ref b2)]) (lenOf pd311 rfl) rfl (Nat.le_of_eq rfl) (hb hby d35_19) (fun _ _ => ⟨rfl, e31, (by decide : 1 + 0 ≤ _), (by decide : 7 + 0 ≤ _)⟩)
  dsimp only [Pt.U, Pt.locs, Pt.cells, Pt.slots] at X37 l37 y37 z37 st37 hQ37
  subst l37 y37 z37
  obtain ⟨rfl, N37q, e37⟩ := hQ37
  have N37 := Fr.app N31 N37q
  refine gb (mkF m 22 #[vr a0, vr b2, vi 3] [(.ref x3), (.int 3), (.ref b2)]) st37 ?_
  obtain ⟨cl40, Ar40, qa40, Sa40, Na40, Ha40, Ga40⟩ := id V31
  have hin41 : ¬ ((3 : Int32) < 0 ∨ cl40.slots.size ≤ ((3 : Int32)).toNatClampNeg) := inb_of Sa40 ⟨by decide, by decide⟩
  have f42 := (Exa.wr W31 (Exa.wr W21 (Exa.wr W11 (Exa.ext E2 pf4))))
  obtain ⟨T41, h41, X41, e41, W41, st41⟩ := stR X37 hx hZ e37 Ar40 (j := (3 : Int32)) hin41 rfl (Sto.ofV Ar40 qa40 Ov2.1 (Ins.of_exa f42 (hW hw 189 rfl))) (g := (mkF m 22 #[vr a0, vr b2, vi 3] [(.ref x3), (.int 3), (.ref b2)])) rfl rfl (hb hby d35_22)
  have V41 : Arv Z h41 b2 k2 oT (7 : Int32) [(.ref x0), (.ref x1), (.ref x2), (.ref x3), .null, .null, .null] .null := Arv.set Ar40 qa40 Sa40 Na40 Ha40 Ga40 rfl W41 3 rfl (Nat.le_of_ble_eq_true rfl)
  have N41 := Fr.snoc X41 N37 gb2
  refine gb (mkF m 23 #[vr a0, vr b2, vi 3] []) st41 ?_
  refine gb (mkF m 26 #[vr a0, vr b2, vi 4] []) (fun _ k => XS.iinc X41.here hx rfl (hb hby d35_23) rfl (l' := #[vr a0, vr b2, vi 4]) rfl k) ?_
  refine gb (mkF m 8 #[vr a0, vr b2, vi 4] []) (fun _ k => XS.goto X41.here hx rfl (pc0 := 26) (pc' := 8) rfl (hb hby d35_26) (by decide) (by decide) k) ?_
  refine gb (mkF m 9 #[vr a0, vr b2, vi 4] [(.int 4)]) (fun _ k => XS.iloadN X41.here hx rfl (hb hby d35_8) rfl k) ?_
  refine gb (mkF m 10 #[vr a0, vr b2, vi 4] [(.ref a0), (.int 4)]) (fun _ k => XS.aloadN X41.here hx rfl (hb hby d35_9) rfl rfl k) ?_
  have f43 := (Arv.other f33 W41 ne2_0)
  obtain ⟨cl44, Ar44, qa44, Sa44, Na44, Ha44, Ga44⟩ := id f43
  refine gb (mkF m 11 #[vr a0, vr b2, vi 4] [(.int 7), (.int 4)]) (fun t k => X41.arraylength hx (by rw [e41]; exact Ar44.1) (State.isArrayOf_alike hZ.alike Ar44.2.1) (g := (mkF m 10 #[vr a0, vr b2, vi 4] [(.ref a0), (.int 4)])) rfl rfl (hb hby d35_10) t (by rw [len_of Sa44 Na44]; exact k)) ?_
  refine gb (mkF m 14 #[vr a0, vr b2, vi 4] []) (fun _ k => XS.icmpNo X41.here hx rfl (hb hby d35_11) rfl (tlt (by decide : (4 : Int32) < (7 : Int32))).2.1 k) ?_
  refine gb (mkF m 15 #[vr a0, vr b2, vi 4] [(.ref b2)]) (fun _ k => XS.aloadN X41.here hx rfl (hb hby d35_14) rfl rfl k) ?_
  refine gb (mkF m 16 #[vr a0, vr b2, vi 4] [(.int 4), (.ref b2)]) (fun _ k => XS.iloadN X41.here hx rfl (hb hby d35_15) rfl k) ?_
  refine gb (mkF m 17 #[vr a0, vr b2, vi 4] [(.ref a0), (.int 4), (.ref b2)]) (fun _ k => XS.aloadN X41.here hx rfl (hb hby d35_16) rfl rfl k) ?_
  refine gb (mkF m 18 #[vr a0, vr b2, vi 4] [(.int 4), (.ref a0), (.int 4), (.ref b2)]) (fun _ k => XS.iloadN X41.here hx rfl (hb hby d35_17) rfl k) ?_
  obtain ⟨cl45, Ar45, qa45, Sa45, Na45, Ha45, Ga45⟩ := id f43
  have hin46 : ¬ ((4 : Int32) < 0 ∨ cl45.slots.size ≤ ((4 : Int32)).toNatClampNeg) := inb_of Sa45 ⟨by decide, by decide⟩
  refine gb (mkF m 19 #[vr a0, vr b2, vi 4] [(.ref x4), (.int 4), (.ref b2)]) (X41.aaload hx (j := (4 : Int32)) (v := (.ref x4)) (by rw [e41]; exact Ar45.1) (State.isArrayOf_alike hZ.alike Ar45.2.1) rfl Ar45.2.2 hin46 (Has.at Ha45 hin46 rfl) (g := (mkF m 18 #[vr a0, vr b2, vi 4] [(.int 4), (.ref a0), (.int 4), (.ref b2)])) rfl rfl (hb hby d35_18)) ?_
  have K48 := (K38.wr W41 (Or.inr sb2))
  have O49 := (O39.wr W41 gb2)
  obtain ⟨_, _, ⟨T47, L47, k47, n47⟩, -, X47, ⟨Lc47, hQ47, l47, y47, z47⟩, st47⟩ := callS X41 hx (y := mq32) hown (mvT hZ (hW hw 233 rfl)) (mvT hZ (hW hw 234 rfl)) (mvT hZ (hW hw 235 rfl)) (mvT hZ (hW hw 236 rfl)) (by decide) (backOf (W := 2) (rm36 l Z a0' hw [] x4 wa wb wc wd we ka kc G1 h41 n0 O49 W ) hZ (hW hw 236 rfl) (hW hw 235 rfl) (by decide) (by decide)) (g := (mkF m 19 #[vr a0, vr b2, vi 4] [(.ref x4), (.int 4), (.ref b2)])) rfl (by rw [hml]; rfl) (argsL := [(.ref x4)]) (rest := [(.int 4), (.ref b2)]) (lenOf pd311 rfl) rfl (Nat.le_of_eq rfl) (hb hby d35_19) (fun _ _ => ⟨rfl, e41, (by decide : 1 + 0 ≤ _), (by decide : 7 + 0 ≤ _)⟩)
  dsimp only [Pt.U, Pt.locs, Pt.cells, Pt.slots] at X47 l47 y47 z47 st47 hQ47
  subst l47 y47 z47
  obtain ⟨rfl, N47q, e47⟩ := hQ47
  have N47 := Fr.app N41 N47q
  refine gb (mkF m 22 #[vr a0, vr b2, vi 4] [(.ref x4), (.int 4), (.ref b2)]) st47 ?_
  obtain ⟨cl50, Ar50, qa50, Sa50, Na50, Ha50, Ga50⟩ := id V41
  have hin51 : ¬ ((4 : Int32) < 0 ∨ cl50.slots.size ≤ ((4 : Int32)).toNatClampNeg) := inb_of Sa50 ⟨by decide, by decide⟩
  have f52 := (Exa.wr W41 (Exa.wr W31 (Exa.wr W21 (Exa.wr W11 (Exa.ext E2 pf5)))))
  obtain ⟨T51, h51, X51, e51, W51, st51⟩ := stR X47 hx hZ e47 Ar50 (j := (4 : Int32)) hin51 rfl (Sto.ofV Ar50 qa50 Ov2.1 (Ins.of_exa f52 (hW hw 189 rfl))) (g := (mkF m 22 #[vr a0, vr b2, vi 4] [(.ref x4), (.int 4), (.ref b2)])) rfl rfl (hb hby d35_22)
  have V51 : Arv Z h51 b2 k2 oT (7 : Int32) [(.ref x0), (.ref x1), (.ref x2), (.ref x3), (.ref x4), .null, .null] .null := Arv.set Ar50 qa50 Sa50 Na50 Ha50 Ga50 rfl W51 4 rfl (Nat.le_of_ble_eq_true rfl)
  have N51 := Fr.snoc X51 N47 gb2
  refine gb (mkF m 23 #[vr a0, vr b2, vi 4] []) st51 ?_
  refine gb (mkF m 26 #[vr a0, vr b2, vi 5] []) (fun _ k => XS.iinc X51.here hx rfl (hb hby d35_23) rfl (l' := #[vr a0, vr b2, vi 5]) rfl k) ?_
  refine gb (mkF m 8 #[vr a0, vr b2, vi 5] []) (fun _ k => XS.goto X51.here hx rfl (pc0 := 26) (pc' := 8) rfl (hb hby d35_26) (by decide) (by decide) k) ?_
  refine gb (mkF m 9 #[vr a0, vr b2, vi 5] [(.int 5)]) (fun _ k => XS.iloadN X51.here hx rfl (hb hby d35_8) rfl k) ?_
  refine gb (mkF m 10 #[vr a0, vr b2, vi 5] [(.ref a0), (.int 5)]) (fun _ k => XS.aloadN X51.here hx rfl (hb hby d35_9) rfl rfl k) ?_
  have f53 := (Arv.other f43 W51 ne2_0)
  obtain ⟨cl54, Ar54, qa54, Sa54, Na54, Ha54, Ga54⟩ := id f53
  refine gb (mkF m 11 #[vr a0, vr b2, vi 5] [(.int 7), (.int 5)]) (fun t k => X51.arraylength hx (by rw [e51]; exact Ar54.1) (State.isArrayOf_alike hZ.alike Ar54.2.1) (g := (mkF m 10 #[vr a0, vr b2, vi 5] [(.ref a0), (.int 5)])) rfl rfl (hb hby d35_10) t (by rw [len_of Sa54 Na54]; exact k)) ?_
  refine gb (mkF m 14 #[vr a0, vr b2, vi 5] []) (fun _ k => XS.icmpNo X51.here hx rfl (hb hby d35_11) rfl (tlt (by decide : (5 : Int32) < (7 : Int32))).2.1 k) ?_
  refine gb (mkF m 15 #[vr a0, vr b2, vi 5] [(.ref b2)]) (fun _ k => XS.aloadN X51.here hx rfl (hb hby d35_14) rfl rfl k) ?_
  refine gb (mkF m 16 #[vr a0, vr b2, vi 5] [(.int 5), (.ref b2)]) (fun _ k => XS.iloadN X51.here hx rfl (hb hby d35_15) rfl k) ?_
  refine gb (mkF m 17 #[vr a0, vr b2, vi 5] [(.ref a0), (.int 5), (.ref b2)]) (fun _ k => XS.aloadN X51.here hx rfl (hb hby d35_16) rfl rfl k) ?_
  refine gb (mkF m 18 #[vr a0, vr b2, vi 5] [(.int 5), (.ref a0), (.int 5), (.ref b2)]) (fun _ k => XS.iloadN X51.here hx rfl (hb hby d35_17) rfl k) ?_
  obtain ⟨cl55, Ar55, qa55, Sa55, Na55, Ha55, Ga55⟩ := id f53
  have hin56 : ¬ ((5 : Int32) < 0 ∨ cl55.slots.size ≤ ((5 : Int32)).toNatClampNeg) := inb_of Sa55 ⟨by decide, by decide⟩
  refine gb (mkF m 19 #[vr a0, vr b2, vi 5] [(.ref x5), (.int 5), (.ref b2)]) (X51.aaload hx (j := (5 : Int32)) (v := (.ref x5)) (by rw [e51]; exact Ar55.1) (State.isArrayOf_alike hZ.alike Ar55.2.1) rfl Ar55.2.2 hin56 (Has.at Ha55 hin56 rfl) (g := (mkF m 18 #[vr a0, vr b2, vi 5] [(.int 5), (.ref a0), (.int 5), (.ref b2)])) rfl rfl (hb hby d35_18)) ?_
  have K58 := (K48.wr W51 (Or.inr sb2))
  have O59 := (O49.wr W51 gb2)
  obtain ⟨_, _, ⟨T57, L57, k57, n57⟩, -, X57, ⟨Lc57, hQ57, l57, y57, z57⟩, st57⟩ := callS X51 hx (y := mq32) hown (mvT hZ (hW hw 233 rfl)) (mvT hZ (hW hw 234 rfl)) (mvT hZ (hW hw 235 rfl)) (mvT hZ (hW hw 236 rfl)) (by decide) (backOf (W := 2) (rm36 l Z a0' hw [] x5 wa wb wc wd we ka kc G1 h51 n0 O59 W ) hZ (hW hw 236 rfl) (hW hw 235 rfl) (by decide) (by decide)) (g := (mkF m 19 #[vr a0, vr b2, vi 5] [(.ref x5), (.int 5), (.ref b2)])) rfl (by rw [hml]; rfl) (argsL := [(.ref x5)]) (rest := [(.int 5), (.ref b2)]) (lenOf pd311 rfl) rfl (Nat.le_of_eq rfl) (hb hby d35_19) (fun _ _ => ⟨rfl, e51, (by decide : 1 + 0 ≤ _), (by decide : 7 + 0 ≤ _)⟩)
  dsimp only [Pt.U, Pt.locs, Pt.cells, Pt.slots] at X57 l57 y57 z57 st57 hQ57
  subst l57 y57 z57
  obtain ⟨rfl, N57q, e57⟩ := hQ57
  have N57 := Fr.app N51 N57q
  refine gb (mkF m 22 #[vr a0, vr b2, vi 5] [(.ref x5), (.int 5), (.ref b2)]) st57 ?_
  obtain ⟨cl60, Ar60, qa60, Sa60, Na60, Ha60, Ga60⟩ := id V51
  have hin61 : ¬ ((5 : Int32) < 0 ∨ cl60.slots.size ≤ ((5 : Int32)).toNatClampNeg) := inb_of Sa60 ⟨by decide, by decide⟩
  have f62 := (Exa.wr W51 (Exa.wr W41 (Exa.wr W31 (Exa.wr W21 (Exa.wr W11 (Exa.ext E2 pf6))))))
  obtain ⟨T61, h61, X61, e61, W61, st61⟩ := stR X57 hx hZ e57 Ar60 (j := (5 : Int32)) hin61 rfl (Sto.ofV Ar60 qa60 Ov2.1 (Ins.of_exa f62 (hW hw 189 rfl))) (g := (mkF m 22 #[vr a0, vr b2, vi 5] [(.ref x5), (.int 5), (.ref b2)])) rfl rfl (hb hby d35_22)
  have V61 : Arv Z h61 b2 k2 oT (7 : Int32) [(.ref x0), (.ref x1), (.ref x2), (.ref x3), (.ref x4), (.ref x5), .null] .null := Arv.set Ar60 qa60 Sa60 Na60 Ha60 Ga60 rfl W61 5 rfl (Nat.le_of_ble_eq_true rfl)
  have N61 := Fr.snoc X61 N57 gb2
  refine gb (mkF m 23 #[vr a0, vr b2, vi 5] []) st61 ?_
  refine gb (mkF m 26 #[vr a0, vr b2, vi 6] []) (fun _ k => XS.iinc X61.here hx rfl (hb hby d35_23) rfl (l' := #[vr a0, vr b2, vi 6]) rfl k) ?_
  refine gb (mkF m 8 #[vr a0, vr b2, vi 6] []) (fun _ k => XS.goto X61.here hx rfl (pc0 := 26) (pc' := 8) rfl (hb hby d35_26) (by decide) (by decide) k) ?_
  refine gb (mkF m 9 #[vr a0, vr b2, vi 6] [(.int 6)]) (fun _ k => XS.iloadN X61.here hx rfl (hb hby d35_8) rfl k) ?_
  refine gb (mkF m 10 #[vr a0, vr b2, vi 6] [(.ref a0), (.int 6)]) (fun _ k => XS.aloadN X61.here hx rfl (hb hby d35_9) rfl rfl k) ?_
  have f63 := (Arv.other f53 W61 ne2_0)
  obtain ⟨cl64, Ar64, qa64, Sa64, Na64, Ha64, Ga64⟩ := id f63
  refine gb (mkF m 11 #[vr a0, vr b2, vi 6] [(.int 7), (.int 6)]) (fun t k => X61.arraylength hx (by rw [e61]; exact Ar64.1) (State.isArrayOf_alike hZ.alike Ar64.2.1) (g := (mkF m 10 #[vr a0, vr b2, vi 6] [(.ref a0), (.int 6)])) rfl rfl (hb hby d35_10) t (by rw [len_of Sa64 Na64]; exact k)) ?_
  refine gb (mkF m 14 #[vr a0, vr b2, vi 6] []) (fun _ k => XS.icmpNo X61.here hx rfl (hb hby d35_11) rfl (tlt (by decide : (6 : Int32) < (7 : Int32))).2.1 k) ?_
  refine gb (mkF m 15 #[vr a0, vr b2, vi 6] [(.ref b2)]) (fun _ k => XS.aloadN X61.here hx rfl (hb hby d35_14) rfl rfl k) ?_
  refine gb (mkF m 16 #[vr a0, vr b2, vi 6] [(.int 6), (.ref b2)]) (fun _ k => XS.iloadN X61.here hx rfl (hb hby d35_15) rfl k) ?_
  refine gb (mkF m 17 #[vr a0, vr b2, vi 6] [(.ref a0), (.int 6), (.ref b2)]) (fun _ k => XS.aloadN X61.here hx rfl (hb hby d35_16) rfl rfl k) ?_
  refine gb (mkF m 18 #[vr a0, vr b2, vi 6] [(.int 6), (.ref a0), (.int 6), (.ref b2)]) (fun _ k => XS.iloadN X61.here hx rfl (hb hby d35_17) rfl k) ?_
  obtain ⟨cl65, Ar65, qa65, Sa65, Na65, Ha65, Ga65⟩ := id f63
  have hin66 : ¬ ((6 : Int32) < 0 ∨ cl65.slots.size ≤ ((6 : Int32)).toNatClampNeg) := inb_of Sa65 ⟨by decide, by decide⟩
  refine gb (mkF m 19 #[vr a0, vr b2, vi 6] [(.ref x6), (.int 6), (.ref b2)]) (X61.aaload hx (j := (6 : Int32)) (v := (.ref x6)) (by rw [e61]; exact Ar65.1) (State.isArrayOf_alike hZ.alike Ar65.2.1) rfl Ar65.2.2 hin66 (Has.at Ha65 hin66 rfl) (g := (mkF m 18 #[vr a0, vr b2, vi 6] [(.int 6), (.ref a0), (.int 6), (.ref b2)])) rfl rfl (hb hby d35_18)) ?_
  have K68 := (K58.wr W61 (Or.inr sb2))
  have O69 := (O59.wr W61 gb2)
  obtain ⟨_, _, ⟨T67, L67, k67, n67⟩, -, X67, ⟨Lc67, hQ67, l67, y67, z67⟩, st67⟩ := callS X61 hx (y := mq32) hown (mvT hZ (hW hw 233 rfl)) (mvT hZ (hW hw 234 rfl)) (mvT hZ (hW hw 235 rfl)) (mvT hZ (hW hw 236 rfl)) (by decide) (backOf (W := 2) (rm36 l Z a0' hw [] x6 wa wb wc wd we ka kc G1 h61 n0 O69 W ) hZ (hW hw 236 rfl) (hW hw 235 rfl) (by decide) (by decide)) (g := (mkF m 19 #[vr a0, vr b2, vi 6] [(.ref x6), (.int 6), (.ref b2)])) rfl (by rw [hml]; rfl) (argsL := [(.ref x6)]) (rest := [(.int 6), (.ref b2)]) (lenOf pd311 rfl) rfl (Nat.le_of_eq rfl) (hb hby d35_19) (fun _ _ => ⟨rfl, e61, (by decide : 1 + 0 ≤ _), (by decide : 7 + 0 ≤ _)⟩)
  dsimp only [Pt.U, Pt.locs, Pt.cells, Pt.slots] at X67 l67 y67 z67 st67 hQ67
  subst l67 y67 z67
  obtain ⟨rfl, N67q, e67⟩ := hQ67
  have N67 := Fr.app N61 N67q
  refine gb (mkF m 22 #[vr a0, vr b2, vi 6] [(.ref x6), (.int 6), (.ref b2)]) st67 ?_
  obtain ⟨cl70, Ar70, qa70, Sa70, Na70, Ha70, Ga70⟩ := id V61
  have hin71 : ¬ ((6 : Int32) < 0 ∨ cl70.slots.size ≤ ((6 : Int32)).toNatClampNeg) := inb_of Sa70 ⟨by decide, by decide⟩
  have f72 := (Exa.wr W61 (Exa.wr W51 (Exa.wr W41 (Exa.wr W31 (Exa.wr W21 (Exa.wr W11 (Exa.ext E2 pf7)))))))
  obtain ⟨T71, h71, X71, e71, W71, st71⟩ := stR X67 hx hZ e67 Ar70 (j := (6 : Int32)) hin71 rfl (Sto.ofV Ar70 qa70 Ov2.1 (Ins.of_exa f72 (hW hw 189 rfl))) (g := (mkF m 22 #[vr a0, vr b2, vi 6] [(.ref x6), (.int 6), (.ref b2)])) rfl rfl (hb hby d35_22)
  have V71 : Arv Z h71 b2 k2 oT (7 : Int32) [(.ref x0), (.ref x1), (.ref x2), (.ref x3), (.ref x4), (.ref x5), (.ref x6)] .null := Arv.set Ar70 qa70 Sa70 Na70 Ha70 Ga70 rfl W71 6 rfl (Nat.le_of_ble_eq_true rfl)
  have N71 := Fr.snoc X71 N67 gb2
  refine gb (mkF m 23 #[vr a0, vr b2, vi 6] []) st71 ?_
  refine gb (mkF m 26 #[vr a0, vr b2, vi 7] []) (fun _ k => XS.iinc X71.here hx rfl (hb hby d35_23) rfl (l' := #[vr a0, vr b2, vi 7]) rfl k) ?_
  refine gb (mkF m 8 #[vr a0, vr b2, vi 7] []) (fun _ k => XS.goto X71.here hx rfl (pc0 := 26) (pc' := 8) rfl (hb hby d35_26) (by decide) (by decide) k) ?_
  refine gb (mkF m 9 #[vr a0, vr b2, vi 7] [(.int 7)]) (fun _ k => XS.iloadN X71.here hx rfl (hb hby d35_8) rfl k) ?_
  refine gb (mkF m 10 #[vr a0, vr b2, vi 7] [(.ref a0), (.int 7)]) (fun _ k => XS.aloadN X71.here hx rfl (hb hby d35_9) rfl rfl k) ?_
  have f73 := (Arv.other f63 W71 ne2_0)
  obtain ⟨cl74, Ar74, qa74, Sa74, Na74, Ha74, Ga74⟩ := id f73
  refine gb (mkF m 11 #[vr a0, vr b2, vi 7] [(.int 7), (.int 7)]) (fun t k => X71.arraylength hx (by rw [e71]; exact Ar74.1) (State.isArrayOf_alike hZ.alike Ar74.2.1) (g := (mkF m 10 #[vr a0, vr b2, vi 7] [(.ref a0), (.int 7)])) rfl rfl (hb hby d35_10) t (by rw [len_of Sa74 Na74]; exact k)) ?_
  refine gb (mkF m 29 #[vr a0, vr b2, vi 7] []) (fun _ k => XS.icmpYes X71.here hx rfl (pc0 := 11) (pc' := 29) rfl (hb hby d35_11) rfl (flt (by decide : ¬ ((7 : Int32) < (7 : Int32)))).2.1 (by decide) (by decide) k) ?_
  have O76 := (O69.wr W71 gb2)
  have f77 := (Exa.wr W71 (Exa.wr W61 (Exa.wr W51 (Exa.wr W41 (Exa.wr W31 (Exa.wr W21 (Exa.wr W11 f12)))))))
  have f78 := (Exa.wr W71 (Exa.wr W61 (Exa.wr W51 (Exa.wr W41 (Exa.wr W31 (Exa.wr W21 f22))))))
  have f79 := (Exa.wr W71 (Exa.wr W61 (Exa.wr W51 (Exa.wr W41 (Exa.wr W31 f32)))))
  have f80 := (Exa.wr W71 (Exa.wr W61 (Exa.wr W51 (Exa.wr W41 f42))))
  have f81 := (Exa.wr W71 (Exa.wr W61 (Exa.wr W51 f52)))
  have f82 := (Exa.wr W71 (Exa.wr W61 f62))
  have f83 := (Exa.wr W71 f72)
  have K84 := (K68.wr W71 (Or.inr sb2))
  obtain ⟨T75, h75, X75, e75, E75, A75, D75, -, st75⟩ := newO X71 hx hZ hown (hW hw 67 rfl) (hW hw 237 rfl) (hW hw 91 rfl) e71 (g := (mkF m 29 #[vr a0, vr b2, vi 7] [])) rfl (hb hby d35_29) (by decide) (by decide)
  obtain ⟨b75, g75⟩ : ∃ z, z = (h71).size := ⟨_, rfl⟩
  rw [← g75] at A75 D75 st75
  have gb75 : n0 ≤ b75 := Nat.le_trans (Nat.le_trans (Nat.le_of_eq O76.1.symm) O76.2.1) (Nat.le_of_eq g75.symm)
  have sb75 : h0.size ≤ b75 := Nat.le_trans K84.1 (Nat.le_of_eq g75.symm)
  have ne75_24 : a0 ≠ b75 := Nat.ne_of_lt (Nat.lt_of_lt_of_le f73.lt (Nat.le_of_eq g75.symm))
  have ne75_26 : x0 ≠ b75 := Nat.ne_of_lt (Nat.lt_of_lt_of_le f77.lt (Nat.le_of_eq g75.symm))
  have ne75_28 : x1 ≠ b75 := Nat.ne_of_lt (Nat.lt_of_lt_of_le f78.lt (Nat.le_of_eq g75.symm))
  have ne75_30 : x2 ≠ b75 := Nat.ne_of_lt (Nat.lt_of_lt_of_le f79.lt (Nat.le_of_eq g75.symm))
  have ne75_32 : x3 ≠ b75 := Nat.ne_of_lt (Nat.lt_of_lt_of_le f80.lt (Nat.le_of_eq g75.symm))
  have ne75_34 : x4 ≠ b75 := Nat.ne_of_lt (Nat.lt_of_lt_of_le f81.lt (Nat.le_of_eq g75.symm))
  have ne75_36 : x5 ≠ b75 := Nat.ne_of_lt (Nat.lt_of_lt_of_le f82.lt (Nat.le_of_eq g75.symm))
  have ne75_38 : x6 ≠ b75 := Nat.ne_of_lt (Nat.lt_of_lt_of_le f83.lt (Nat.le_of_eq g75.symm))
  have ne75_40 : wa ≠ b75 := Nat.ne_of_lt (Nat.lt_of_lt_of_le (Arv.ext W.2.1 O76.2).lt (Nat.le_of_eq g75.symm))
  have ne75_42 : wc ≠ b75 := Nat.ne_of_lt (Nat.lt_of_lt_of_le (Arv.ext W.2.2.2.2.2.1 O76.2).lt (Nat.le_of_eq g75.symm))
  have ne75_44 : wb ≠ b75 := Nat.ne_of_lt (Nat.lt_of_lt_of_le (Exa.ext O76.2 W.2.2.2.1).lt (Nat.le_of_eq g75.symm))
  have ne75_46 : wd ≠ b75 := Nat.ne_of_lt (Nat.lt_of_lt_of_le (Exa.ext O76.2 W.2.2.2.2.2.2.2.1).lt (Nat.le_of_eq g75.symm))
  have ne75_48 : b2 ≠ b75 := Nat.ne_of_lt (Nat.lt_of_lt_of_le V71.lt (Nat.le_of_eq g75.symm))
  have D75_elements : Fld Z h75 b75 sN "elements" sO .null := D75 (Or.inr (hW hw 94 rfl)) (ty := (.array oT)) (by decide)
  have D75_allowNulls : Fld Z h75 b75 sN "allowNulls" "Z" (.int 0) := D75 (Or.inr (hW hw 257 rfl)) (ty := .boolean) (by decide)
  refine gb (mkF m 32 #[vr a0, vr b2, vi 7] [(.ref b75)]) st75 ?_
  refine gb (mkF m 33 #[vr a0, vr b2, vi 7] [(.ref b75), (.ref b75)]) (fun _ k => XS.dup X75.here hx rfl (hb hby d35_32) rfl rfl k) ?_
  refine gb (mkF m 34 #[vr a0, vr b2, vi 7] [(.ref b2), (.ref b75), (.ref b75)]) (fun _ k => XS.aloadN X75.here hx rfl (hb hby d35_33) rfl rfl k) ?_
  refine gb (mkF m 35 #[vr a0, vr b2, vi 7] [(.int 0), (.ref b2), (.ref b75), (.ref b75)]) (fun _ k => XS.iconst X75.here hx rfl (hb hby d35_34) k) ?_
  have K86 := (K84.ext E75)
  have O87 := (O76.ext E75)
  obtain ⟨_, _, ⟨T85, L85, k85, n85⟩, -, X85, ⟨Lc85, hQ85, l85, y85, z85⟩, st85⟩ := X75.specialBackNest hx (y := mq35) rfl hown (Cond.methodLinkNest_wide hZ (hW hw 238 rfl)) (mvT hZ (hW hw 239 rfl)) (mvT hZ (hW hw 241 rfl)) (by decide) (backOf (W := 1) (rm37 l Z a0' hw [] b75 b2 wa wb wc wd we ka kc G1 h75 n0 O87 W A75 D75_elements D75_allowNulls gb75) hZ (hW hw 241 rfl) (hW hw 91 rfl) (by decide) (by decide)) (g := (mkF m 35 #[vr a0, vr b2, vi 7] [(.int 0), (.ref b2), (.ref b75), (.ref b75)])) rfl (by rw [hml]; rfl) (Steps.refl _) (a := b75) (argsL := [(.ref b2), (.int 0)]) (rest := [(.ref b75)]) (lenOf pd396 rfl) rfl (Nat.le_of_eq rfl) (hb hby d35_35) (fun _ _ => ⟨rfl, e75, (by decide : 2 + 0 ≤ _), (by decide : 9 + 0 ≤ _)⟩)
  dsimp only [Pt.U, Pt.locs, Pt.cells, Pt.slots] at X85 l85 y85 z85 st85 hQ85
  subst l85 y85 z85
  obtain ⟨rfl, N85q, Kc85, fc85_0⟩ := hQ85
  have N85 := Fr.app N71 N85q
  refine gb (mkF m 38 #[vr a0, vr b2, vi 7] [(.ref b75)]) (fun _ k => st85.trans k) ?_
  have K88 := (K86.trans Kc85 (allS (Or.inr sb75) all0))
  have f89 := (Exa.keep A75 Kc85)
  have f90 := (Arv.keep (Arv.ext V71 E75) Kc85 (ninS ne75_48 nin0))
  exact Gl.outA X85 hx hk Bd.returns rfl rfl (hb hby d35_38) ⟨b75, b2, k2, rfl, N85, K88, f89, fc85_0, f90⟩ (by decide) (by decide)
theorem ef347 (m : MethodId) (x0 : Addr) : entryFrame m #[(.ref x0)] 2 = mkF m 0 #[.val (.ref x0), .unset] [] := by first | (simp [entryFrame, mkF, argsToLocals, Value.category]; done) | rfl
def Q347 (Z : State) (a0 : Addr) (kk : ClassId) (x0 x1 x2 x3 x4 x5 x6 : Addr) (wa wb wc wd we : Addr) (ka kc : ClassId) (G1 : Int32) (h0 : Heap) (n0 : Nat) (v : Option Value) (h : Heap) (L : List Loc) : Prop := ∃ (r : Addr), ∃ (ar : Addr), ∃ (kr : ClassId), v = some (.ref r) ∧ Fr n0 L ∧ Keep h0 h [] ∧ Exa Z h r sN ∧ Fld Z h r sN "elements" sO (.ref ar) ∧ Arv Z h ar kr oT (7 : Int32) [(.ref x0), (.ref x1), (.ref x2), (.ref x3), (.ref x4), (.ref x5), (.ref x6)] .null
theorem rm347 (l : Launch) (Z : State) (a0' : Array Value) (hw : ∀ d ∈ tables_1, d.before a0' Z = true) (ws : List Jvm.Cond) (a0 : Addr) (kk : ClassId) (x0 x1 x2 x3 x4 x5 x6 : Addr) (wa wb wc wd we : Addr) (ka kc : ClassId) (G1 : Int32) (h0 : Heap) (n0 : Nat) (O : Old Z n0 h0) (W : Wd Z wa wb wc wd we ka kc G1) (pf0 : Arv Z h0 a0 kk oT (7 : Int32) [(.ref x0), (.ref x1), (.ref x2), (.ref x3), (.ref x4), (.ref x5), (.ref x6)] .null) (pf1 : Exa Z h0 x0 sI) (pf2 : Exa Z h0 x1 sI) (pf3 : Exa Z h0 x2 sI) (pf4 : Exa Z h0 x3 sI) (pf5 : Exa Z h0 x4 sI) (pf6 : Exa Z h0 x5 sI) (pf7 : Exa Z h0 x6 sI) :
    MetFree l mq42 (head1 (Jvm.Cond.code mq42 jdk_40_method_47_code 2 (some (.object "java/util/List")) :: ws) ({ frames := 6, cells := 2, slots := 9, locals := 77 } : Room)) (fun a U => a = #[(.ref a0)] ∧ Z.Warmed39 U.vm ∧ U.heap = h0) (fun _ _ _ _ _ => True) (fun _ U o U' => ∃ v L, o = .returned v ∧ Q347 Z a0 kk x0 x1 x2 x3 x4 x5 x6 wa wb wc wd we ka kc G1 h0 n0 v U'.heap L ∧ FrameEnd U o U' L ({ frames := 6, cells := 2, slots := 9, locals := 77 } : Room).cells ({ frames := 6, cells := 2, slots := 9, locals := 77 } : Room).slots) := by
  refine MetFree.of_bodySF (plainFor_of_name pn10) hisR ?_
  intro p e s m args below meth c s₁ Bd hml0 hP hK
  obtain ⟨rfl, hZ, hh⟩ := hP
  have hx := Bd.exec
  have hby := Bd.bytes
  have hml : c.maxLocals = 2 := hml0
  have hown : s.vm.findClass "java/util/List" = some m.cls := findClass_of_methodNamed Bd.named
  have hnm := (name_of_methodNamed Bd.named Bd.method).1
  have hk := Bd.notSynchronized
  have X0 : Stand p l e ({ frames := 6, cells := 2, slots := 9, locals := 77 } : Room) s m #[(.ref a0)] below meth c s₁ [] 0 0 := Stand.of_body Bd
  have hh2 := hh
  have e0 : s₁.heap = h0 := by rw [← hh, Bd.state]; rfl
  have N0 := Fr.nil n0
  show Gl p e below (Pos 2 9 (Q347 Z a0 kk x0 x1 x2 x3 x4 x5 x6 wa wb wc wd we ka kc G1 h0 n0) s) s₁ _
  refine Gl.cast (ef347 m a0) ?_
  refine gb (mkF m 1 #[vr a0, .unset] [(.ref a0)]) (fun _ k => XS.aloadN X0.here hx rfl (hb hby d34_0) rfl rfl k) ?_
  obtain ⟨cl1, Ar1, qa1, Sa1, Na1, Ha1, Ga1⟩ := id pf0
  refine gb (mkF m 2 #[vr a0, .unset] [(.int 7)]) (fun t k => X0.arraylength hx (by rw [e0]; exact Ar1.1) (State.isArrayOf_alike hZ.alike Ar1.2.1) (g := (mkF m 1 #[vr a0, .unset] [(.ref a0)])) rfl rfl (hb hby d34_1) t (by rw [len_of Sa1 Na1]; exact k)) ?_
  refine gb (mkF m 59 #[vr a0, .unset] []) (fun _ k => XS.tswOut (pc0 := 2) X0.here hx rfl rfl (hb hby d34_2) rfl (by decide) (by decide) rfl k) ?_
  refine gb (mkF m 60 #[vr a0, .unset] [(.ref a0)]) (fun _ k => XS.aloadN X0.here hx rfl (hb hby d34_59) rfl rfl k) ?_
  obtain ⟨_, _, ⟨T2, L2, k2, n2⟩, -, X2, ⟨Lc2, hQ2, l2, y2, z2⟩, st2⟩ := callS X0 hx (y := mq44) hown (mvT hZ (hW hw 229 rfl)) (mvT hZ (hW hw 230 rfl)) (mvT hZ (hW hw 60 rfl)) (mvT hZ (hW hw 231 rfl)) (by decide) (backOf (W := 0) (rm357 l Z a0' hw [] a0 kk x0 x1 x2 x3 x4 x5 x6 wa wb wc wd we ka kc G1 h0 n0 O W pf0 pf1 pf2 pf3 pf4 pf5 pf6 pf7) hZ (hW hw 231 rfl) (hW hw 60 rfl) (by decide) (by decide)) (g := (mkF m 60 #[vr a0, .unset] [(.ref a0)])) rfl (by rw [hml]; rfl) (argsL := [(.ref a0)]) (rest := []) (lenOf pd359 rfl) rfl (Nat.le_of_eq rfl) (hb hby d34_60) (fun _ _ => ⟨rfl, e0, (by decide : 0 + 2 ≤ _), (by decide : 0 + 9 ≤ _)⟩)
  dsimp only [Pt.U, Pt.locs, Pt.cells, Pt.slots] at X2 l2 y2 z2 st2 hQ2
  subst l2 y2 z2
  obtain ⟨r_2, ar_2, kr_2, rfl, N2q, Kc2, fc2_0, fc2_1, fc2_2⟩ := hQ2
  have N2 := Fr.app N0 N2q
  refine gb (mkF m 63 #[vr a0, .unset] [(.ref r_2)]) st2 ?_
  have K3 := ((Keep.refl h0 []).trans Kc2 all0)
  exact Gl.outA X2 hx hk Bd.returns rfl rfl (hb hby d34_63) ⟨r_2, ar_2, kr_2, rfl, N2, K3, fc2_0, fc2_1, fc2_2⟩ (by decide) (by decide)
theorem ef107 (m : MethodId) (x0 : Addr) : entryFrame m #[(.ref x0)] 2 = mkF m 0 #[.val (.ref x0), .unset] [] := by first | (simp [entryFrame, mkF, argsToLocals, Value.category]; done) | rfl
def Q107 (Z : State) (a0 : Addr) (ea : Addr) (kk : ClassId) (x0 x1 x2 x3 x4 x5 x6 : Addr) (wa wb wc wd we : Addr) (ka kc : ClassId) (G1 : Int32) (h0 : Heap) (n0 : Nat) (v : Option Value) (h : Heap) (L : List Loc) : Prop := ∃ (r : Addr), ∃ (ar : Addr), ∃ (kr : ClassId), v = some (.ref r) ∧ Fr n0 L ∧ Keep h0 h [] ∧ Exa Z h r sN ∧ Fld Z h r sN "elements" sO (.ref ar) ∧ Arv Z h ar kr oT (7 : Int32) [(.ref x0), (.ref x1), (.ref x2), (.ref x3), (.ref x4), (.ref x5), (.ref x6)] .null
theorem rm107 (l : Launch) (Z : State) (a0' : Array Value) (hw : ∀ d ∈ tables_1, d.before a0' Z = true) (ws : List Jvm.Cond) (a0 : Addr) (ea : Addr) (kk : ClassId) (x0 x1 x2 x3 x4 x5 x6 : Addr) (wa wb wc wd we : Addr) (ka kc : ClassId) (G1 : Int32) (h0 : Heap) (n0 : Nat) (O : Old Z n0 h0) (W : Wd Z wa wb wc wd we ka kc G1) (pf0 : Exa Z h0 a0 sA) (pf1 : Fld Z h0 a0 sA "elementData" sO (.ref ea)) (pf2 : Fld Z h0 a0 sA "size" "I" (.int 7)) (pf3 : Exa Z h0 ea sO) (pf4 : Arv Z h0 ea kk oT (10 : Int32) [(.ref x0), (.ref x1), (.ref x2), (.ref x3), (.ref x4), (.ref x5), (.ref x6), .null, .null, .null] .null) (pf5 : Exa Z h0 x0 sI) (pf6 : Exa Z h0 x1 sI) (pf7 : Exa Z h0 x2 sI) (pf8 : Exa Z h0 x3 sI) (pf9 : Exa Z h0 x4 sI) (pf10 : Exa Z h0 x5 sI) (pf11 : Exa Z h0 x6 sI) :
    MetFree l mq38 (head1 (Jvm.Cond.code mq38 jdk_56_method_3_code 2 (some (.object "java/util/List")) :: ws) ({ frames := 7, cells := 3, slots := 16, locals := 90 } : Room)) (fun a U => a = #[(.ref a0)] ∧ Z.Warmed39 U.vm ∧ U.heap = h0) (fun _ _ _ _ _ => True) (fun _ U o U' => ∃ v L, o = .returned v ∧ Q107 Z a0 ea kk x0 x1 x2 x3 x4 x5 x6 wa wb wc wd we ka kc G1 h0 n0 v U'.heap L ∧ FrameEnd U o U' L ({ frames := 7, cells := 3, slots := 16, locals := 90 } : Room).cells ({ frames := 7, cells := 3, slots := 16, locals := 90 } : Room).slots) := by
  refine MetFree.of_bodySF (plainFor_of_name pn16) hisR ?_
  intro p e s m args below meth c s₁ Bd hml0 hP hK
  obtain ⟨rfl, hZ, hh⟩ := hP
  have hx := Bd.exec
  have hby := Bd.bytes
  have hml : c.maxLocals = 2 := hml0
  have hown : s.vm.findClass "java/util/ImmutableCollections" = some m.cls := findClass_of_methodNamed Bd.named
  have hnm := (name_of_methodNamed Bd.named Bd.method).1
  have hk := Bd.notSynchronized
  have X0 : Stand p l e ({ frames := 7, cells := 3, slots := 16, locals := 90 } : Room) s m #[(.ref a0)] below meth c s₁ [] 0 0 := Stand.of_body Bd
  have hh2 := hh
  have e0 : s₁.heap = h0 := by rw [← hh, Bd.state]; rfl
  have N0 := Fr.nil n0
  show Gl p e below (Pos 3 16 (Q107 Z a0 ea kk x0 x1 x2 x3 x4 x5 x6 wa wb wc wd we ka kc G1 h0 n0) s) s₁ _
  refine Gl.cast (ef107 m a0) ?_
  refine gb (mkF m 1 #[vr a0, .unset] [(.ref a0)]) (fun _ k => XS.aloadN X0.here hx rfl (hb hby d10_0) rfl rfl k) ?_
  obtain ⟨T1, X1, e1, st1⟩ := instNo X0 hx hZ hown (hW hw 62 rfl) e0 pf0 (ns_no (hW hw 63 rfl) (hW hw 259 rfl) (NS.step (hW hw 63 rfl) (NS.step (hW hw 64 rfl) (NS.step (hW hw 65 rfl) (ns_root (hW hw 66 rfl) (hW hw 259 rfl) (by decide)) (by decide)) (by decide)) (by decide)) (by decide)) (g := (mkF m 1 #[vr a0, .unset] [(.ref a0)])) rfl rfl (hb hby d10_1)
  refine gb (mkF m 4 #[vr a0, .unset] [(.int 0)]) st1 ?_
  refine gb (mkF m 7 #[vr a0, .unset] []) (fun _ k => XS.ifNo X1.here hx rfl (hb hby d10_4) rfl ((if0 _ _).trans (teq (by decide : (0 : Int32) = (0 : Int32))).2) k) ?_
  refine gb (mkF m 8 #[vr a0, .unset] [(.ref a0)]) (fun _ k => XS.aloadN X1.here hx rfl (hb hby d10_7) rfl rfl k) ?_
  obtain ⟨T2, X2, e2, st2⟩ := instNo X1 hx hZ hown (hW hw 67 rfl) e1 pf0 (ns_no (hW hw 63 rfl) (hW hw 237 rfl) (NS.step (hW hw 63 rfl) (NS.step (hW hw 64 rfl) (NS.step (hW hw 65 rfl) (ns_root (hW hw 66 rfl) (hW hw 237 rfl) (by decide)) (by decide)) (by decide)) (by decide)) (by decide)) (g := (mkF m 8 #[vr a0, .unset] [(.ref a0)])) rfl rfl (hb hby d10_8)
  refine gb (mkF m 11 #[vr a0, .unset] [(.int 0)]) st2 ?_
  refine gb (mkF m 31 #[vr a0, .unset] []) (fun _ k => XS.ifYes X2.here hx rfl (pc0 := 11) (pc' := 31) rfl (hb hby d10_11) rfl ((if0 _ _).trans (teq (by decide : (0 : Int32) = (0 : Int32))).1) (by decide) (by decide) k) ?_
  refine gb (mkF m 32 #[vr a0, .unset] [(.ref a0)]) (fun _ k => XS.aloadN X2.here hx rfl (hb hby d10_31) rfl rfl k) ?_
  obtain ⟨cq3, kq3, q3a, q3b, q3c⟩ := isOf hZ e2 pf0
  obtain ⟨_, _, ⟨T3, L3, k3, n3⟩, -, X3, ⟨Lc3, hQ3, l3, y3, z3⟩, st3⟩ := X2.interfaceBack hx (xi := mq39) (y := mq28) hown (mvT hZ (hW hw 68 rfl)) (mvT hZ (hW hw 69 rfl)) (mvT hZ (hW hw 70 rfl)) (mvT hZ (hW hw 71 rfl)) (mvT hZ (hW hw 72 rfl)) (mvT hZ (hW hw 73 rfl)) (mvT hZ (hW hw 74 rfl)) (mvT hZ (hW hw 75 rfl)) (by decide) (backOf (W := 0) (rm11s l Z a0' hw [] a0 (7 : Int32) wa wb wc wd we ka kc G1 h0 n0 O W pf0 pf2 (by decide)) hZ (hW hw 76 rfl) (hW hw 11 rfl) (by decide) (by decide)) q3a q3b q3c (g := (mkF m 32 #[vr a0, .unset] [(.ref a0)])) rfl (by rw [hml]; rfl) (Steps.refl _) (argsL := []) (rest := []) (lenOf pd334 rfl) rfl (Nat.le_of_eq rfl) (hb hby d10_32) (fun _ _ => ⟨rfl, e2, (by decide : 0 + 0 ≤ _), (by decide : 0 + 0 ≤ _)⟩)
  dsimp only [Pt.U, Pt.locs, Pt.cells, Pt.slots] at X3 l3 y3 z3 st3 hQ3
  subst l3 y3 z3
  obtain ⟨rfl, N3q, e3⟩ := hQ3
  have N3 := Fr.app N0 N3q
  refine gb (mkF m 37 #[vr a0, .unset] [(.int 0)]) (fun _ k => st3.trans k) ?_
  refine gb (mkF m 44 #[vr a0, .unset] []) (fun _ k => XS.ifYes X3.here hx rfl (pc0 := 37) (pc' := 44) rfl (hb hby d10_37) rfl ((if0 _ _).trans (teq (by decide : (0 : Int32) = (0 : Int32))).1) (by decide) (by decide) k) ?_
  refine gb (mkF m 45 #[vr a0, .unset] [(.ref a0)]) (fun _ k => XS.aloadN X3.here hx rfl (hb hby d10_44) rfl rfl k) ?_
  obtain ⟨cq4, kq4, q4a, q4b, q4c⟩ := isOf hZ e3 pf0
  obtain ⟨_, _, ⟨T4, L4, k4, n4⟩, -, X4, ⟨Lc4, hQ4, l4, y4, z4⟩, st4⟩ := X3.interfaceBack hx (xi := mq43) (y := mq21) hown (mvT hZ (hW hw 196 rfl)) (mvT hZ (hW hw 197 rfl)) (mvT hZ (hW hw 198 rfl)) (mvT hZ (hW hw 199 rfl)) (mvT hZ (hW hw 200 rfl)) (mvT hZ (hW hw 201 rfl)) (mvT hZ (hW hw 202 rfl)) (mvT hZ (hW hw 75 rfl)) (by decide) (backOf (W := 0) (rm307 l Z a0' hw [] a0 ea kk x0 x1 x2 x3 x4 x5 x6 wa wb wc wd we ka kc G1 h0 n0 O W pf0 pf1 pf2 pf3 pf4 pf5 pf6 pf7 pf8 pf9 pf10 pf11) hZ (hW hw 203 rfl) (hW hw 11 rfl) (by decide) (by decide)) q4a q4b q4c (g := (mkF m 45 #[vr a0, .unset] [(.ref a0)])) rfl (by rw [hml]; rfl) (Steps.refl _) (argsL := []) (rest := []) (lenOf pd50 rfl) rfl (Nat.le_of_eq rfl) (hb hby d10_45) (fun _ _ => ⟨rfl, e3, (by decide : 0 + 1 ≤ _), (by decide : 0 + 7 ≤ _)⟩)
  dsimp only [Pt.U, Pt.locs, Pt.cells, Pt.slots] at X4 l4 y4 z4 st4 hQ4
  subst l4 y4 z4
  obtain ⟨r_4, kr_4, rfl, N4q, Kc4, fc4_0, fc4_1⟩ := hQ4
  have N4 := Fr.app N3 N4q
  refine gb (mkF m 50 #[vr a0, .unset] [(.ref r_4)]) (fun _ k => st4.trans k) ?_
  have K6 := ((Keep.refl h0 []).trans Kc4 all0)
  have f7 := (Exa.keep pf5 Kc4)
  have f8 := (Exa.keep pf6 Kc4)
  have f9 := (Exa.keep pf7 Kc4)
  have f10 := (Exa.keep pf8 Kc4)
  have f11 := (Exa.keep pf9 Kc4)
  have f12 := (Exa.keep pf10 Kc4)
  have f13 := (Exa.keep pf11 Kc4)
  have O14 := (O.keep Kc4 all0)
  obtain ⟨_, _, ⟨T5, L5, k5, n5⟩, -, X5, ⟨Lc5, hQ5, l5, y5, z5⟩, st5⟩ := callS X4 hx (y := mq42) hown (mvT hZ (hW hw 226 rfl)) (mvT hZ (hW hw 227 rfl)) (mvT hZ (hW hw 56 rfl)) (mvT hZ (hW hw 228 rfl)) (by decide) (backOf (W := 0) (rm347 l Z a0' hw [] r_4 kr_4 x0 x1 x2 x3 x4 x5 x6 wa wb wc wd we ka kc G1 T4.heap n0 O14 W fc4_0 f7 f8 f9 f10 f11 f12 f13) hZ (hW hw 228 rfl) (hW hw 56 rfl) (by decide) (by decide)) (g := (mkF m 50 #[vr a0, .unset] [(.ref r_4)])) rfl (by rw [hml]; rfl) (argsL := [(.ref r_4)]) (rest := []) (lenOf pd359 rfl) rfl (Nat.le_of_eq rfl) (hb hby d10_50) (fun _ _ => ⟨rfl, rfl, (by decide : 1 + 2 ≤ _), (by decide : 7 + 9 ≤ _)⟩)
  dsimp only [Pt.U, Pt.locs, Pt.cells, Pt.slots] at X5 l5 y5 z5 st5 hQ5
  subst l5 y5 z5
  obtain ⟨r_5, ar_5, kr_5, rfl, N5q, Kc5, fc5_0, fc5_1, fc5_2⟩ := hQ5
  have N5 := Fr.app N4 N5q
  refine gb (mkF m 53 #[vr a0, .unset] [(.ref r_5)]) st5 ?_
  have K15 := (K6.trans Kc5 all0)
  exact Gl.outA X5 hx hk Bd.returns rfl rfl (hb hby d10_53) ⟨r_5, ar_5, kr_5, rfl, N5, K15, fc5_0, fc5_1, fc5_2⟩ (by decide) (by decide)
theorem ef97 (m : MethodId) (x0 : Addr) : entryFrame m #[(.ref x0)] 1 = mkF m 0 #[.val (.ref x0)] [] := by first | (simp [entryFrame, mkF, argsToLocals, Value.category]; done) | rfl
def Q97 (Z : State) (a0 : Addr) (ea : Addr) (kk : ClassId) (x0 x1 x2 x3 x4 x5 x6 : Addr) (wa wb wc wd we : Addr) (ka kc : ClassId) (G1 : Int32) (h0 : Heap) (n0 : Nat) (v : Option Value) (h : Heap) (L : List Loc) : Prop := ∃ (r : Addr), ∃ (ar : Addr), ∃ (kr : ClassId), v = some (.ref r) ∧ Fr n0 L ∧ Keep h0 h [] ∧ Exa Z h r sN ∧ Fld Z h r sN "elements" sO (.ref ar) ∧ Arv Z h ar kr oT (7 : Int32) [(.ref x0), (.ref x1), (.ref x2), (.ref x3), (.ref x4), (.ref x5), (.ref x6)] .null
theorem rm97 (l : Launch) (Z : State) (a0' : Array Value) (hw : ∀ d ∈ tables_1, d.before a0' Z = true) (ws : List Jvm.Cond) (a0 : Addr) (ea : Addr) (kk : ClassId) (x0 x1 x2 x3 x4 x5 x6 : Addr) (wa wb wc wd we : Addr) (ka kc : ClassId) (G1 : Int32) (h0 : Heap) (n0 : Nat) (O : Old Z n0 h0) (W : Wd Z wa wb wc wd we ka kc G1) (pf0 : Exa Z h0 a0 sA) (pf1 : Fld Z h0 a0 sA "elementData" sO (.ref ea)) (pf2 : Fld Z h0 a0 sA "size" "I" (.int 7)) (pf3 : Exa Z h0 ea sO) (pf4 : Arv Z h0 ea kk oT (10 : Int32) [(.ref x0), (.ref x1), (.ref x2), (.ref x3), (.ref x4), (.ref x5), (.ref x6), .null, .null, .null] .null) (pf5 : Exa Z h0 x0 sI) (pf6 : Exa Z h0 x1 sI) (pf7 : Exa Z h0 x2 sI) (pf8 : Exa Z h0 x3 sI) (pf9 : Exa Z h0 x4 sI) (pf10 : Exa Z h0 x5 sI) (pf11 : Exa Z h0 x6 sI) :
    MetFree l mq40 (head1 (Jvm.Cond.code mq40 jdk_40_method_48_code 1 (some (.object "java/util/List")) :: ws) ({ frames := 8, cells := 3, slots := 16, locals := 103 } : Room)) (fun a U => a = #[(.ref a0)] ∧ Z.Warmed39 U.vm ∧ U.heap = h0) (fun _ _ _ _ _ => True) (fun _ U o U' => ∃ v L, o = .returned v ∧ Q97 Z a0 ea kk x0 x1 x2 x3 x4 x5 x6 wa wb wc wd we ka kc G1 h0 n0 v U'.heap L ∧ FrameEnd U o U' L ({ frames := 8, cells := 3, slots := 16, locals := 103 } : Room).cells ({ frames := 8, cells := 3, slots := 16, locals := 103 } : Room).slots) := by
  refine MetFree.of_bodySF (plainFor_of_name pn10) hisR ?_
  intro p e s m args below meth c s₁ Bd hml0 hP hK
  obtain ⟨rfl, hZ, hh⟩ := hP
  have hx := Bd.exec
  have hby := Bd.bytes
  have hml : c.maxLocals = 1 := hml0
  have hown : s.vm.findClass "java/util/List" = some m.cls := findClass_of_methodNamed Bd.named
  have hnm := (name_of_methodNamed Bd.named Bd.method).1
  have hk := Bd.notSynchronized
  have X0 : Stand p l e ({ frames := 8, cells := 3, slots := 16, locals := 103 } : Room) s m #[(.ref a0)] below meth c s₁ [] 0 0 := Stand.of_body Bd
  have hh2 := hh
  have e0 : s₁.heap = h0 := by rw [← hh, Bd.state]; rfl
  have N0 := Fr.nil n0
  show Gl p e below (Pos 3 16 (Q97 Z a0 ea kk x0 x1 x2 x3 x4 x5 x6 wa wb wc wd we ka kc G1 h0 n0) s) s₁ _
  refine Gl.cast (ef97 m a0) ?_
  refine gb (mkF m 1 #[vr a0] [(.ref a0)]) (fun _ k => XS.aloadN X0.here hx rfl (hb hby d9_0) rfl rfl k) ?_
  obtain ⟨_, _, ⟨T1, L1, k1, n1⟩, -, X1, ⟨Lc1, hQ1, l1, y1, z1⟩, st1⟩ := callS X0 hx (y := mq38) hown (mvT hZ (hW hw 58 rfl)) (mvT hZ (hW hw 59 rfl)) (mvT hZ (hW hw 60 rfl)) (mvT hZ (hW hw 61 rfl)) (by decide) (backOf (W := 0) (rm107 l Z a0' hw [] a0 ea kk x0 x1 x2 x3 x4 x5 x6 wa wb wc wd we ka kc G1 h0 n0 O W pf0 pf1 pf2 pf3 pf4 pf5 pf6 pf7 pf8 pf9 pf10 pf11) hZ (hW hw 61 rfl) (hW hw 60 rfl) (by decide) (by decide)) (g := (mkF m 1 #[vr a0] [(.ref a0)])) rfl (by rw [hml]; rfl) (argsL := [(.ref a0)]) (rest := []) (lenOf pd339 rfl) rfl (Nat.le_of_eq rfl) (hb hby d9_1) (fun _ _ => ⟨rfl, e0, (by decide : 0 + 3 ≤ _), (by decide : 0 + 16 ≤ _)⟩)
  dsimp only [Pt.U, Pt.locs, Pt.cells, Pt.slots] at X1 l1 y1 z1 st1 hQ1
  subst l1 y1 z1
  obtain ⟨r_1, ar_1, kr_1, rfl, N1q, Kc1, fc1_0, fc1_1, fc1_2⟩ := hQ1
  have N1 := Fr.app N0 N1q
  refine gb (mkF m 4 #[vr a0] [(.ref r_1)]) st1 ?_
  have K2 := ((Keep.refl h0 []).trans Kc1 all0)
  exact Gl.outA X1 hx hk Bd.returns rfl rfl (hb hby d9_4) ⟨r_1, ar_1, kr_1, rfl, N1, K2, fc1_0, fc1_1, fc1_2⟩ (by decide) (by decide)
theorem ef87 (m : MethodId) (x0 : Addr) : entryFrame m #[(.ref x0)] 1 = mkF m 0 #[.val (.ref x0)] [] := by first | (simp [entryFrame, mkF, argsToLocals, Value.category]; done) | rfl
def Q87 (Z : State) (a0 : Addr) (la : Addr) (ea : Addr) (kk : ClassId) (x0 x1 x2 x3 x4 x5 x6 : Addr) (wa wb wc wd we : Addr) (ka kc : ClassId) (G1 : Int32) (h0 : Heap) (n0 : Nat) (v : Option Value) (h : Heap) (L : List Loc) : Prop := ∃ (r : Addr), ∃ (ar : Addr), ∃ (kr : ClassId), v = some (.ref r) ∧ Fr n0 L ∧ Keep h0 h [] ∧ Exa Z h r sN ∧ Fld Z h r sN "elements" sO (.ref ar) ∧ Arv Z h ar kr oT (7 : Int32) [(.ref x0), (.ref x1), (.ref x2), (.ref x3), (.ref x4), (.ref x5), (.ref x6)] .null
theorem rm87 (l : Launch) (Z : State) (a0' : Array Value) (hw : ∀ d ∈ tables_1, d.before a0' Z = true) (ws : List Jvm.Cond) (a0 : Addr) (la : Addr) (ea : Addr) (kk : ClassId) (x0 x1 x2 x3 x4 x5 x6 : Addr) (wa wb wc wd we : Addr) (ka kc : ClassId) (G1 : Int32) (h0 : Heap) (n0 : Nat) (O : Old Z n0 h0) (W : Wd Z wa wb wc wd we ka kc G1) (pf0 : Exa Z h0 a0 sF) (pf1 : Fld Z h0 a0 sF "found" "I" (.int 7)) (pf2 : Fld Z h0 a0 sF "params" "Ljava/util/List;" (.ref la)) (pf3 : Exa Z h0 la sA) (pf4 : Fld Z h0 la sA "elementData" sO (.ref ea)) (pf5 : Fld Z h0 la sA "size" "I" (.int 7)) (pf6 : Exa Z h0 ea sO) (pf7 : Arv Z h0 ea kk oT (10 : Int32) [(.ref x0), (.ref x1), (.ref x2), (.ref x3), (.ref x4), (.ref x5), (.ref x6), .null, .null, .null] .null) (pf8 : Exa Z h0 x0 sI) (pf9 : Exa Z h0 x1 sI) (pf10 : Exa Z h0 x2 sI) (pf11 : Exa Z h0 x3 sI) (pf12 : Exa Z h0 x4 sI) (pf13 : Exa Z h0 x5 sI) (pf14 : Exa Z h0 x6 sI) :
    MetFree l mq41 (head1 (Jvm.Cond.code mq41 prog_17_method_8_code 1 (some (.object "java/util/List")) :: ws) ({ frames := 9, cells := 3, slots := 16, locals := 115 } : Room)) (fun a U => a = #[(.ref a0)] ∧ Z.Warmed39 U.vm ∧ U.heap = h0) (fun _ _ _ _ _ => True) (fun _ U o U' => ∃ v L, o = .returned v ∧ Q87 Z a0 la ea kk x0 x1 x2 x3 x4 x5 x6 wa wb wc wd we ka kc G1 h0 n0 v U'.heap L ∧ FrameEnd U o U' L ({ frames := 9, cells := 3, slots := 16, locals := 115 } : Room).cells ({ frames := 9, cells := 3, slots := 16, locals := 115 } : Room).slots) := by
  refine MetFree.of_bodySF (plainFor_of_name pn3) hisR ?_
  intro p e s m args below meth c s₁ Bd hml0 hP hK
  obtain ⟨rfl, hZ, hh⟩ := hP
  have hx := Bd.exec
  have hby := Bd.bytes
  have hml : c.maxLocals = 1 := hml0
  have hown : s.vm.findClass sF = some m.cls := findClass_of_methodNamed Bd.named
  have hnm := (name_of_methodNamed Bd.named Bd.method).1
  have hk := Bd.notSynchronized
  have X0 : Stand p l e ({ frames := 9, cells := 3, slots := 16, locals := 115 } : Room) s m #[(.ref a0)] below meth c s₁ [] 0 0 := Stand.of_body Bd
  have hh2 := hh
  have e0 : s₁.heap = h0 := by rw [← hh, Bd.state]; rfl
  have N0 := Fr.nil n0
  show Gl p e below (Pos 3 16 (Q87 Z a0 la ea kk x0 x1 x2 x3 x4 x5 x6 wa wb wc wd we ka kc G1 h0 n0) s) s₁ _
  refine Gl.cast (ef87 m a0) ?_
  refine gb (mkF m 1 #[vr a0] [(.ref a0)]) (fun _ k => XS.aloadN X0.here hx rfl (hb hby d8_0) rfl rfl k) ?_
  obtain ⟨T1, X1, e1, st1⟩ := getF X0 hx hZ hown (host := "") (Or.inl (hW hw 33 rfl)) Via.refl e0 pf2 (g := (mkF m 1 #[vr a0] [(.ref a0)])) rfl rfl (hb hby d8_1)
  refine gb (mkF m 4 #[vr a0] [(.ref la)]) st1 ?_
  obtain ⟨_, _, ⟨T2, L2, k2, n2⟩, -, X2, ⟨Lc2, hQ2, l2, y2, z2⟩, st2⟩ := callS X1 hx (y := mq40) hown (mvT hZ (hW hw 54 rfl)) (mvT hZ (hW hw 55 rfl)) (mvT hZ (hW hw 56 rfl)) (mvT hZ (hW hw 57 rfl)) (by decide) (backOf (W := 0) (rm97 l Z a0' hw [] la ea kk x0 x1 x2 x3 x4 x5 x6 wa wb wc wd we ka kc G1 h0 n0 O W pf3 pf4 pf5 pf6 pf7 pf8 pf9 pf10 pf11 pf12 pf13 pf14) hZ (hW hw 57 rfl) (hW hw 56 rfl) (by decide) (by decide)) (g := (mkF m 4 #[vr a0] [(.ref la)])) rfl (by rw [hml]; rfl) (argsL := [(.ref la)]) (rest := []) (lenOf pd339 rfl) rfl (Nat.le_of_eq rfl) (hb hby d8_4) (fun _ _ => ⟨rfl, e1, (by decide : 0 + 3 ≤ _), (by decide : 0 + 16 ≤ _)⟩)
  dsimp only [Pt.U, Pt.locs, Pt.cells, Pt.slots] at X2 l2 y2 z2 st2 hQ2
  subst l2 y2 z2
  obtain ⟨r_2, ar_2, kr_2, rfl, N2q, Kc2, fc2_0, fc2_1, fc2_2⟩ := hQ2
  have N2 := Fr.app N0 N2q
  refine gb (mkF m 7 #[vr a0] [(.ref r_2)]) st2 ?_
  have K3 := ((Keep.refl h0 []).trans Kc2 all0)
  exact Gl.outA X2 hx hk Bd.returns rfl rfl (hb hby d8_7) ⟨r_2, ar_2, kr_2, rfl, N2, K3, fc2_0, fc2_1, fc2_2⟩ (by decide) (by decide)
theorem mask7 (x : Int32) : 0 ≤ (x &&& (7 : Int32)).toInt ∧ (x &&& (7 : Int32)).toInt ≤ 7 := by
  have h := c_mask x 7 3 (by decide) (by decide)
  omega
theorem nl_mono {x i j : Int32} (h : ¬ i < x) (q : i.toInt ≤ j.toInt) : ¬ j < x := by
  rw [Int32.lt_iff_toInt_lt] at h ⊢
  omega
theorem nkk {x a b k : Int32} (hm : 0 ≤ x.toInt ∧ x.toInt ≤ 7) (ha : a.toInt = k.toInt - 1) (hb : b.toInt = k.toInt) (h1 : k.toInt = 0 ∨ a < x) (h2 : k.toInt = 7 ∨ ¬ b < x) : x = k := by
  apply Int32.toInt_inj.mp
  rw [Int32.lt_iff_toInt_lt] at h1 h2
  omega
theorem pd400 : parseMethodDescriptor "(Lcom/example/talaria/talaria/model/Faults;II)V" = some ⟨[(.object sF), .int, .int], none⟩ := by decide +kernel
theorem ef0 (m : MethodId) (x0 : Int32) (x1 : Int32) (x2 : Int64) : entryFrame m #[(.int x0), (.int x1), (.long x2)] maxLocals = mkF m 0 #[.val (.int x0), .val (.int x1), .val (.long x2), .second, .unset, .unset, .unset, .unset] [] := by first | (simp [entryFrame, mkF, argsToLocals, Value.category, maxLocals]; done) | rfl
def fn0 (p0 : Int32) (p1 : Int32) (q2 : Int64) (wa wb wc wd we : Addr) (ka kc : ClassId) (G1 : Int32) : Int32 := if (0 : Int32) < (p0 &&& (7 : Int32)) then if (1 : Int32) < (p0 &&& (7 : Int32)) then if (2 : Int32) < (p0 &&& (7 : Int32)) then if (3 : Int32) < (p0 &&& (7 : Int32)) then if (4 : Int32) < (p0 &&& (7 : Int32)) then if (5 : Int32) < (p0 &&& (7 : Int32)) then if (6 : Int32) < (p0 &&& (7 : Int32)) then (1 : Int32) else (1 : Int32) else (1 : Int32) else (1 : Int32) else (1 : Int32) else (1 : Int32) else (1 : Int32) else (1 : Int32)
def Q0 (Z : State) (p0 : Int32) (p1 : Int32) (q2 : Int64) (wa wb wc wd we : Addr) (ka kc : ClassId) (G1 : Int32) (h0 : Heap) (n0 : Nat) (v : Option Value) (h : Heap) (L : List Loc) : Prop := v = some (.int (fn0 p0 p1 q2 wa wb wc wd we ka kc G1)) ∧ Fr n0 L
theorem rm0 (l : Launch) (Z : State) (a0' : Array Value) (hw : ∀ d ∈ tables_1, d.before a0' Z = true) (ws : List Jvm.Cond) (p0 : Int32) (p1 : Int32) (q2 : Int64) (wa wb wc wd we : Addr) (ka kc : ClassId) (G1 : Int32) (h0 : Heap) (n0 : Nat) (O : Old Z n0 h0) (W : Wd Z wa wb wc wd we ka kc G1) :
    MetFree l x (head1 (Jvm.Cond.code x code maxLocals ret :: ws) room_1) (fun a U => a = #[(.int p0), (.int p1), (.long q2)] ∧ Z.Warmed39 U.vm ∧ U.heap = h0) (fun _ _ _ _ _ => True) (fun _ U o U' => ∃ v L, o = .returned v ∧ Q0 Z p0 p1 q2 wa wb wc wd we ka kc G1 h0 n0 v U'.heap L ∧ ReturnedEndW U o U' L 72 2304) := by
  refine MetFree.of_bodySF (plainFor_of_name pn6) hisR ?_
  intro p e s m args below meth c s₁ Bd hml0 hP hK
  obtain ⟨rfl, hZ, hh⟩ := hP
  have hx := Bd.exec
  have hby := Bd.bytes
  have hml : c.maxLocals = 8 := hml0
  have hown : s.vm.findClass "com/example/talaria/talaria/model/FaultsFullPinLaw" = some m.cls := findClass_of_methodNamed Bd.named
  have hnm := (name_of_methodNamed Bd.named Bd.method).1
  have hk := Bd.notSynchronized
  have X0 : Stand p l e room_1 (s.setVm s.vm) m #[(.int p0), (.int p1), (.long q2)] below meth c s₁ [] 0 0 := Stand.of_body Bd
  have hS : s.Since s.vm h0.size := State.WarmedH.since (State.WarmedH.refl s) _
  have e0 : s₁.heap = h0 := by rw [← hh, Bd.state]; rfl
  have N0 := Fr.nil n0
  show Gl p e below (PosW 72 2304 (Q0 Z p0 p1 q2 wa wb wc wd we ka kc G1 h0 n0) s) s₁ _
  refine Gl.cast (ef0 m p0 p1 q2) ?_
  refine gb (mkF m 1 #[vi p0, vi p1, vj q2, .second, .unset, .unset, .unset, .unset] [(.int p0)]) (fun _ k => XS.iloadN X0.here hx rfl (hb hby at_0) rfl k) ?_
  refine gb (mkF m 3 #[vi p0, vi p1, vj q2, .second, .unset, .unset, .unset, .unset] [(.int 7), (.int p0)]) (fun _ k => XS.bipush X0.here hx rfl (hb hby at_1) k) ?_
  refine gb (mkF m 4 #[vi p0, vi p1, vj q2, .second, .unset, .unset, .unset, .unset] [(.int (p0 &&& (7 : Int32)))]) (fun _ k => XS.iand X0.here hx rfl (hb hby at_3) rfl k) ?_
  refine gb (mkF m 6 #[vi p0, vi p1, vj q2, .second, vi (p0 &&& (7 : Int32)), .unset, .unset, .unset] []) (fun _ k => XS.istore X0.here hx rfl (hb hby at_4) rfl (l' := #[vi p0, vi p1, vj q2, .second, vi (p0 &&& (7 : Int32)), .unset, .unset, .unset]) rfl k) ?_
  obtain ⟨T1, h1, X1, e1, E1, A1, D1, -, st1⟩ := newO X0 hx hZ hown (hW hw 0 rfl) (hW hw 1 rfl) (hW hw 2 rfl) e0 (g := (mkF m 6 #[vi p0, vi p1, vj q2, .second, vi (p0 &&& (7 : Int32)), .unset, .unset, .unset] [])) rfl (hb hby at_6) (by decide) (by decide)
  obtain ⟨b1, g1⟩ : ∃ z, z = (h0).size := ⟨_, rfl⟩
  rw [← g1] at A1 D1 st1
  have gb1 : n0 ≤ b1 := Nat.le_trans (Nat.le_trans (Nat.le_of_eq O.1.symm) O.2.1) (Nat.le_of_eq g1.symm)
  have sb1 : h0.size ≤ b1 := Nat.le_trans (Keep.refl h0 []).1 (Nat.le_of_eq g1.symm)
  have ne1_0 : wa ≠ b1 := Nat.ne_of_lt (Nat.lt_of_lt_of_le (Arv.ext W.2.1 O.2).lt (Nat.le_of_eq g1.symm))
  have ne1_2 : wc ≠ b1 := Nat.ne_of_lt (Nat.lt_of_lt_of_le (Arv.ext W.2.2.2.2.2.1 O.2).lt (Nat.le_of_eq g1.symm))
  have ne1_4 : wb ≠ b1 := Nat.ne_of_lt (Nat.lt_of_lt_of_le (Exa.ext O.2 W.2.2.2.1).lt (Nat.le_of_eq g1.symm))
  have ne1_6 : wd ≠ b1 := Nat.ne_of_lt (Nat.lt_of_lt_of_le (Exa.ext O.2 W.2.2.2.2.2.2.2.1).lt (Nat.le_of_eq g1.symm))
  have D1_params : Fld Z h1 b1 sF "params" "Ljava/util/List;" .null := D1 (Or.inr (hW hw 34 rfl)) (ty := (.object "java/util/List")) (by decide)
  have D1_onlyMissing : Fld Z h1 b1 sF "onlyMissing" "Z" (.int 0) := D1 (Or.inl (hW hw 36 rfl)) (ty := .boolean) (by decide)
  have D1_found : Fld Z h1 b1 sF "found" "I" (.int 0) := D1 (Or.inl (hW hw 43 rfl)) (ty := .int) (by decide)
  refine gb (mkF m 9 #[vi p0, vi p1, vj q2, .second, vi (p0 &&& (7 : Int32)), .unset, .unset, .unset] [(.ref b1)]) st1 ?_
  refine gb (mkF m 10 #[vi p0, vi p1, vj q2, .second, vi (p0 &&& (7 : Int32)), .unset, .unset, .unset] [(.ref b1), (.ref b1)]) (fun _ k => XS.dup X1.here hx rfl (hb hby at_9) rfl rfl k) ?_
  have O3 := (O.ext E1)
  obtain ⟨_, _, ⟨T2, L2, k2, n2⟩, -, X2, ⟨Lc2, hQ2, l2, y2, z2⟩, st2⟩ := X1.specialBack hx (y := mq25) rfl hown (mvT hZ (hW hw 3 rfl)) (mvT hZ (hW hw 4 rfl)) (mvT hZ (hW hw 5 rfl)) (by decide) (backOf (W := 1) (rm1 l Z a0' hw [] b1 wa wb wc wd we ka kc G1 h1 n0 O3 W A1 D1_found D1_params D1_onlyMissing gb1) hZ (hW hw 5 rfl) (hW hw 2 rfl) (by decide) (by decide)) (g := (mkF m 10 #[vi p0, vi p1, vj q2, .second, vi (p0 &&& (7 : Int32)), .unset, .unset, .unset] [(.ref b1), (.ref b1)])) rfl (by rw [hml]; rfl) (Steps.refl _) (a := b1) (argsL := []) (rest := [(.ref b1)]) (lenOf pd73 rfl) rfl (Nat.le_of_eq rfl) (hb hby at_10) (fun _ _ => ⟨rfl, e1, (by decide : 1 + 1 ≤ _), (by decide : 3 + 3 ≤ _)⟩)
  dsimp only [Pt.U, Pt.locs, Pt.cells, Pt.slots] at X2 l2 y2 z2 st2 hQ2
  subst l2 y2 z2
  obtain ⟨la_2, rfl, N2q, Kc2, fc2_0, fc2_1, fc2_2, fc2_3, fc2_4, fc2_5, fc2_6, fc2_7⟩ := hQ2
  have N2 := Fr.app N0 N2q
  refine gb (mkF m 13 #[vi p0, vi p1, vj q2, .second, vi (p0 &&& (7 : Int32)), .unset, .unset, .unset] [(.ref b1)]) (fun _ k => st2.trans k) ?_
  refine gb (mkF m 15 #[vi p0, vi p1, vj q2, .second, vi (p0 &&& (7 : Int32)), vr b1, .unset, .unset] []) (fun _ k => XS.astore X2.here hx rfl (hb hby at_13) rfl rfl (l' := #[vi p0, vi p1, vj q2, .second, vi (p0 &&& (7 : Int32)), vr b1, .unset, .unset]) rfl k) ?_
  refine gb (mkF m 17 #[vi p0, vi p1, vj q2, .second, vi (p0 &&& (7 : Int32)), vr b1, .unset, .unset] [(.ref b1)]) (fun _ k => XS.aload X2.here hx rfl (hb hby at_15) rfl rfl k) ?_
  have f5 := (Exa.keep A1 Kc2)
  have O6 := (O3.keep Kc2 (allS gb1 all0))
  obtain ⟨cq4, kq4, q4a, q4b, q4c⟩ := isOf hZ rfl f5
  obtain ⟨_, _, ⟨T4, L4, k4, n4⟩, -, X4, ⟨Lc4, hQ4, l4, y4, z4⟩, st4⟩ := X2.virtualBack hx (y := mq26) (z := mq26) hown (mvT hZ (hW hw 37 rfl)) (mvT hZ (hW hw 38 rfl)) (notFace_of_selects (args := #[]) (mvT hZ (hW hw 40 rfl))) (mvT hZ (hW hw 40 rfl)) (mvT hZ (hW hw 39 rfl)) (by decide) (backOf (W := 0) (rm6 l Z a0' hw [] b1 (0 : Int32) wa wb wc wd we ka kc G1 T2.heap n0 O6 W f5 fc2_0 (by decide)) hZ (hW hw 41 rfl) (hW hw 2 rfl) (by decide) (by decide)) q4a q4c (g := (mkF m 17 #[vi p0, vi p1, vj q2, .second, vi (p0 &&& (7 : Int32)), vr b1, .unset, .unset] [(.ref b1)])) rfl (by rw [hml]; rfl) (Steps.refl _) (argsL := []) (rest := []) (lenOf pd334 rfl) rfl (Nat.le_of_eq rfl) (hb hby at_17) (fun _ _ => ⟨rfl, rfl, (by decide : 2 + 0 ≤ _), (by decide : 6 + 0 ≤ _)⟩)
  dsimp only [Pt.U, Pt.locs, Pt.cells, Pt.slots] at X4 l4 y4 z4 st4 hQ4
  subst l4 y4 z4
  obtain ⟨rfl, N4q, e4⟩ := hQ4
  have N4 := Fr.app N2 N4q
  refine gb (mkF m 20 #[vi p0, vi p1, vj q2, .second, vi (p0 &&& (7 : Int32)), vr b1, .unset, .unset] [(.int 0)]) (fun _ k => st4.trans k) ?_
  refine gb (mkF m 22 #[vi p0, vi p1, vj q2, .second, vi (p0 &&& (7 : Int32)), vr b1, vi 0, .unset] []) (fun _ k => XS.istore X4.here hx rfl (hb hby at_20) rfl (l' := #[vi p0, vi p1, vj q2, .second, vi (p0 &&& (7 : Int32)), vr b1, vi 0, .unset]) rfl k) ?_
  refine gb (mkF m 24 #[vi p0, vi p1, vj q2, .second, vi (p0 &&& (7 : Int32)), vr b1, vi 0, .unset] [(.int (p0 &&& (7 : Int32)))]) (fun _ k => XS.iload X4.here hx rfl (hb hby at_22) rfl k) ?_
  by_cases hc7 : (0 : Int32) < (p0 &&& (7 : Int32))
  · refine gb (mkF m 27 #[vi p0, vi p1, vj q2, .second, vi (p0 &&& (7 : Int32)), vr b1, vi 0, .unset] []) (fun _ k => XS.ifNo X4.here hx rfl (hb hby at_24) rfl ((if0 _ _).trans (tlt hc7).2.2.2) k) ?_
    refine gb (mkF m 29 #[vi p0, vi p1, vj q2, .second, vi (p0 &&& (7 : Int32)), vr b1, vi 0, .unset] [(.ref b1)]) (fun _ k => XS.aload X4.here hx rfl (hb hby at_27) rfl rfl k) ?_
    refine gb (mkF m 30 #[vi p0, vi p1, vj q2, .second, vi (p0 &&& (7 : Int32)), vr b1, vi 0, .unset] [(.int p1), (.ref b1)]) (fun _ k => XS.iloadN X4.here hx rfl (hb hby at_29) rfl k) ?_
    refine gb (mkF m 31 #[vi p0, vi p1, vj q2, .second, vi (p0 &&& (7 : Int32)), vr b1, vi 0, .unset] [(.long q2), (.int p1), (.ref b1)]) (fun _ k => XS.lloadN X4.here hx rfl (hb hby at_30) rfl k) ?_
    refine gb (mkF m 32 #[vi p0, vi p1, vj q2, .second, vi (p0 &&& (7 : Int32)), vr b1, vi 0, .unset] [(.int (q2.toInt32)), (.int p1), (.ref b1)]) (fun _ k => XS.l2i X4.here hx rfl (hb hby at_31) rfl k) ?_
    obtain ⟨_, _, ⟨T8, L8, k8, n8⟩, -, X8, hS8, hg8, ⟨Lc8, hQ8, l8, y8, z8⟩, st8⟩ := callSS X4 hx (y := mq17) hown (mvT hZ (hW hw 95 rfl)) (mvT hZ (hW hw 96 rfl)) (mvT hZ (hW hw 97 rfl)) (mvT hZ (hW hw 98 rfl)) (by decide) (backOfS (W := 0) (rm140 l Z a0' hw [] b1 p1 (q2.toInt32) la_2 (0 : Int32) (nar .boolean (1 : Int32)) wa wb wc wd we ka kc G1 T2.heap n0 O6 W f5 fc2_0 fc2_1 fc2_2 fc2_3 fc2_5 fc2_6 fc2_4 gb1 fc2_7.1 fc2_7.2) hZ (hW hw 98 rfl) (hW hw 97 rfl) (by decide) (by decide)) (g := (mkF m 32 #[vi p0, vi p1, vj q2, .second, vi (p0 &&& (7 : Int32)), vr b1, vi 0, .unset] [(.int (q2.toInt32)), (.int p1), (.ref b1)])) rfl (by rw [hml]; rfl) (argsL := [(.ref b1), (.int p1), (.int (q2.toInt32))]) (rest := []) (lenOf pd400 rfl) rfl (Nat.le_of_eq rfl) (hb hby at_32) (fun _ _ => ⟨rfl, e4, (by decide : 2 + 6 ≤ _), (by decide : 6 + 49 ≤ _)⟩)
    dsimp only [Pt.U, Pt.locs, Pt.cells, Pt.slots] at X8 l8 y8 z8 st8 hQ8
    subst l8 y8 z8
    have sz9 := (Nat.le_trans (Nat.le_trans (Nat.le_refl h0.size) E1.1) Kc2.1)
    obtain ⟨X8, hS, hZ, hown⟩ := rebS hS (by rw [e4]; exact sz9) X8 hS8 hg8 hZ hown
    obtain ⟨x_8, om2_8, b_8, kb_8, rfl, N8q, Kc8, fc8_0, fc8_1, fc8_2, fc8_3, fc8_4, fc8_5, fc8_6, fc8_7, fc8_8, fc8_9⟩ := hQ8
    have N8 := Fr.app N4 N8q
    have fr10 : Fld Z T8.heap la_2 "java/util/AbstractList" "modCount" "I" (.int 1) := fc8_6
    refine gb (mkF m 35 #[vi p0, vi p1, vj q2, .second, vi (p0 &&& (7 : Int32)), vr b1, vi 0, .unset] []) (fun _ k => st8.trans k) ?_
    refine gb (mkF m 37 #[vi p0, vi p1, vj q2, .second, vi (p0 &&& (7 : Int32)), vr b1, vi 0, .unset] [(.int (p0 &&& (7 : Int32)))]) (fun _ k => XS.iload X8.here hx rfl (hb hby at_35) rfl k) ?_
    refine gb (mkF m 38 #[vi p0, vi p1, vj q2, .second, vi (p0 &&& (7 : Int32)), vr b1, vi 0, .unset] [(.int 1), (.int (p0 &&& (7 : Int32)))]) (fun _ k => XS.iconst X8.here hx rfl (hb hby at_37) k) ?_
    by_cases hc11 : (1 : Int32) < (p0 &&& (7 : Int32))
    · refine gb (mkF m 41 #[vi p0, vi p1, vj q2, .second, vi (p0 &&& (7 : Int32)), vr b1, vi 0, .unset] []) (fun _ k => XS.icmpNo X8.here hx rfl (hb hby at_38) rfl (tlt hc11).2.2.2 k) ?_
      refine gb (mkF m 43 #[vi p0, vi p1, vj q2, .second, vi (p0 &&& (7 : Int32)), vr b1, vi 0, .unset] [(.ref b1)]) (fun _ k => XS.aload X8.here hx rfl (hb hby at_41) rfl rfl k) ?_
      refine gb (mkF m 44 #[vi p0, vi p1, vj q2, .second, vi (p0 &&& (7 : Int32)), vr b1, vi 0, .unset] [(.int p1), (.ref b1)]) (fun _ k => XS.iloadN X8.here hx rfl (hb hby at_43) rfl k) ?_
      refine gb (mkF m 45 #[vi p0, vi p1, vj q2, .second, vi (p0 &&& (7 : Int32)), vr b1, vi 0, .unset] [(.int 1), (.int p1), (.ref b1)]) (fun _ k => XS.iconst X8.here hx rfl (hb hby at_44) k) ?_
      refine gb (mkF m 46 #[vi p0, vi p1, vj q2, .second, vi (p0 &&& (7 : Int32)), vr b1, vi 0, .unset] [(.int ((p1.toUInt32 >>> ((1 : Int32) &&& 31).toUInt32).toInt32)), (.ref b1)]) (fun _ k => XS.iushr X8.here hx rfl (hb hby at_45) rfl k) ?_
      refine gb (mkF m 47 #[vi p0, vi p1, vj q2, .second, vi (p0 &&& (7 : Int32)), vr b1, vi 0, .unset] [(.long q2), (.int ((p1.toUInt32 >>> ((1 : Int32) &&& 31).toUInt32).toInt32)), (.ref b1)]) (fun _ k => XS.lloadN X8.here hx rfl (hb hby at_46) rfl k) ?_
      refine gb (mkF m 49 #[vi p0, vi p1, vj q2, .second, vi (p0 &&& (7 : Int32)), vr b1, vi 0, .unset] [(.int 8), (.long q2), (.int ((p1.toUInt32 >>> ((1 : Int32) &&& 31).toUInt32).toInt32)), (.ref b1)]) (fun _ k => XS.bipush X8.here hx rfl (hb hby at_47) k) ?_
      refine gb (mkF m 50 #[vi p0, vi p1, vj q2, .second, vi (p0 &&& (7 : Int32)), vr b1, vi 0, .unset] [(.long ((q2.toUInt64 >>> ((8 : Int32) &&& 0x3f).toInt64.toUInt64).toInt64)), (.int ((p1.toUInt32 >>> ((1 : Int32) &&& 31).toUInt32).toInt32)), (.ref b1)]) (fun _ k => XS.lushr X8.here hx rfl (hb hby at_49) rfl k) ?_
      refine gb (mkF m 51 #[vi p0, vi p1, vj q2, .second, vi (p0 &&& (7 : Int32)), vr b1, vi 0, .unset] [(.int (((q2.toUInt64 >>> ((8 : Int32) &&& 0x3f).toInt64.toUInt64).toInt64).toInt32)), (.int ((p1.toUInt32 >>> ((1 : Int32) &&& 31).toUInt32).toInt32)), (.ref b1)]) (fun _ k => XS.l2i X8.here hx rfl (hb hby at_50) rfl k) ?_
      have f13 := (Exa.keep f5 Kc8)
      have f14 := (Exa.keep fc2_3 Kc8)
      have O15 := (O6.keep Kc8 (allS gb1 (allS fc2_7.1 all0)))
      obtain ⟨_, _, ⟨T12, L12, k12, n12⟩, -, X12, hS12, hg12, ⟨Lc12, hQ12, l12, y12, z12⟩, st12⟩ := callSS X8 hx (y := mq17) hown (mvT hZ (hW hw 95 rfl)) (mvT hZ (hW hw 96 rfl)) (mvT hZ (hW hw 97 rfl)) (mvT hZ (hW hw 98 rfl)) (by decide) (backOfS (W := 0) (rm14s l Z a0' hw [] b1 ((p1.toUInt32 >>> ((1 : Int32) &&& 31).toUInt32).toInt32) (((q2.toUInt64 >>> ((8 : Int32) &&& 0x3f).toInt64.toUInt64).toInt64).toInt32) la_2 b_8 kb_8 [(.ref x_8), .null, .null, .null, .null, .null, .null, .null, .null, .null] (1 : Int32) (1 : Int32) (1 : Int32) om2_8 wa wb wc wd we ka kc G1 T8.heap n0 O15 W f13 fc8_1 fc8_2 fc8_3 f14 fc8_4 fc8_5 fr10 fc8_7 gb1 fc2_7.1 fc8_9.2.1 fc2_7.2 fc8_9.2.2.2.2.1 fc8_9.2.2.2.1 rfl ⟨by decide, by decide⟩ fc8_9.2.2.1) hZ (hW hw 98 rfl) (hW hw 97 rfl) (by decide) (by decide)) (g := (mkF m 51 #[vi p0, vi p1, vj q2, .second, vi (p0 &&& (7 : Int32)), vr b1, vi 0, .unset] [(.int (((q2.toUInt64 >>> ((8 : Int32) &&& 0x3f).toInt64.toUInt64).toInt64).toInt32)), (.int ((p1.toUInt32 >>> ((1 : Int32) &&& 31).toUInt32).toInt32)), (.ref b1)])) rfl (by rw [hml]; rfl) (argsL := [(.ref b1), (.int ((p1.toUInt32 >>> ((1 : Int32) &&& 31).toUInt32).toInt32)), (.int (((q2.toUInt64 >>> ((8 : Int32) &&& 0x3f).toInt64.toUInt64).toInt64).toInt32))]) (rest := []) (lenOf pd400 rfl) rfl (Nat.le_of_eq rfl) (hb hby at_51) (fun _ _ => ⟨rfl, rfl, (by decide : 8 + 5 ≤ _), (by decide : 55 + 39 ≤ _)⟩)
      dsimp only [Pt.U, Pt.locs, Pt.cells, Pt.slots] at X12 l12 y12 z12 st12 hQ12
      subst l12 y12 z12
      obtain ⟨X12, hS, hZ, hown⟩ := rebS hS (Nat.le_refl _) X12 hS12 hg12 hZ hown
      obtain ⟨x_12, om2_12, rfl, N12q, Kc12, fc12_0, fc12_1, fc12_2, fc12_3, fc12_4, fc12_5, fc12_6, fc12_7, fc12_8⟩ := hQ12
      have N12 := Fr.app N8 N12q
      have fr16 : Fld Z T12.heap b1 sF "found" "I" (.int 2) := fc12_1
      have fr17 : Fld Z T12.heap la_2 sA "size" "I" (.int 2) := fc12_5
      have fr18 : Fld Z T12.heap la_2 "java/util/AbstractList" "modCount" "I" (.int 2) := fc12_6
      have fr19 : Arv Z T12.heap b_8 kb_8 oT (10 : Int32) [(.ref x_8), (.ref x_12), .null, .null, .null, .null, .null, .null, .null, .null] .null := fc12_7
      refine gb (mkF m 54 #[vi p0, vi p1, vj q2, .second, vi (p0 &&& (7 : Int32)), vr b1, vi 0, .unset] []) (fun _ k => st12.trans k) ?_
      refine gb (mkF m 56 #[vi p0, vi p1, vj q2, .second, vi (p0 &&& (7 : Int32)), vr b1, vi 0, .unset] [(.int (p0 &&& (7 : Int32)))]) (fun _ k => XS.iload X12.here hx rfl (hb hby at_54) rfl k) ?_
      refine gb (mkF m 57 #[vi p0, vi p1, vj q2, .second, vi (p0 &&& (7 : Int32)), vr b1, vi 0, .unset] [(.int 2), (.int (p0 &&& (7 : Int32)))]) (fun _ k => XS.iconst X12.here hx rfl (hb hby at_56) k) ?_
      by_cases hc20 : (2 : Int32) < (p0 &&& (7 : Int32))
      · refine gb (mkF m 60 #[vi p0, vi p1, vj q2, .second, vi (p0 &&& (7 : Int32)), vr b1, vi 0, .unset] []) (fun _ k => XS.icmpNo X12.here hx rfl (hb hby at_57) rfl (tlt hc20).2.2.2 k) ?_
        refine gb (mkF m 62 #[vi p0, vi p1, vj q2, .second, vi (p0 &&& (7 : Int32)), vr b1, vi 0, .unset] [(.ref b1)]) (fun _ k => XS.aload X12.here hx rfl (hb hby at_60) rfl rfl k) ?_
        refine gb (mkF m 63 #[vi p0, vi p1, vj q2, .second, vi (p0 &&& (7 : Int32)), vr b1, vi 0, .unset] [(.int p1), (.ref b1)]) (fun _ k => XS.iloadN X12.here hx rfl (hb hby at_62) rfl k) ?_
        refine gb (mkF m 64 #[vi p0, vi p1, vj q2, .second, vi (p0 &&& (7 : Int32)), vr b1, vi 0, .unset] [(.int 2), (.int p1), (.ref b1)]) (fun _ k => XS.iconst X12.here hx rfl (hb hby at_63) k) ?_
        refine gb (mkF m 65 #[vi p0, vi p1, vj q2, .second, vi (p0 &&& (7 : Int32)), vr b1, vi 0, .unset] [(.int ((p1.toUInt32 >>> ((2 : Int32) &&& 31).toUInt32).toInt32)), (.ref b1)]) (fun _ k => XS.iushr X12.here hx rfl (hb hby at_64) rfl k) ?_
        refine gb (mkF m 66 #[vi p0, vi p1, vj q2, .second, vi (p0 &&& (7 : Int32)), vr b1, vi 0, .unset] [(.long q2), (.int ((p1.toUInt32 >>> ((2 : Int32) &&& 31).toUInt32).toInt32)), (.ref b1)]) (fun _ k => XS.lloadN X12.here hx rfl (hb hby at_65) rfl k) ?_
        refine gb (mkF m 68 #[vi p0, vi p1, vj q2, .second, vi (p0 &&& (7 : Int32)), vr b1, vi 0, .unset] [(.int 16), (.long q2), (.int ((p1.toUInt32 >>> ((2 : Int32) &&& 31).toUInt32).toInt32)), (.ref b1)]) (fun _ k => XS.bipush X12.here hx rfl (hb hby at_66) k) ?_
        refine gb (mkF m 69 #[vi p0, vi p1, vj q2, .second, vi (p0 &&& (7 : Int32)), vr b1, vi 0, .unset] [(.long ((q2.toUInt64 >>> ((16 : Int32) &&& 0x3f).toInt64.toUInt64).toInt64)), (.int ((p1.toUInt32 >>> ((2 : Int32) &&& 31).toUInt32).toInt32)), (.ref b1)]) (fun _ k => XS.lushr X12.here hx rfl (hb hby at_68) rfl k) ?_
        refine gb (mkF m 70 #[vi p0, vi p1, vj q2, .second, vi (p0 &&& (7 : Int32)), vr b1, vi 0, .unset] [(.int (((q2.toUInt64 >>> ((16 : Int32) &&& 0x3f).toInt64.toUInt64).toInt64).toInt32)), (.int ((p1.toUInt32 >>> ((2 : Int32) &&& 31).toUInt32).toInt32)), (.ref b1)]) (fun _ k => XS.l2i X12.here hx rfl (hb hby at_69) rfl k) ?_
        have f22 := (Exa.keep f13 Kc12)
        have f23 := (Exa.keep f14 Kc12)
        have O24 := (O15.keep Kc12 (allS gb1 (allS fc2_7.1 (allS fc8_9.2.1 all0))))
        obtain ⟨_, _, ⟨T21, L21, k21, n21⟩, -, X21, hS21, hg21, ⟨Lc21, hQ21, l21, y21, z21⟩, st21⟩ := callSS X12 hx (y := mq17) hown (mvT hZ (hW hw 95 rfl)) (mvT hZ (hW hw 96 rfl)) (mvT hZ (hW hw 97 rfl)) (mvT hZ (hW hw 98 rfl)) (by decide) (backOfS (W := 0) (rm14s l Z a0' hw [] b1 ((p1.toUInt32 >>> ((2 : Int32) &&& 31).toUInt32).toInt32) (((q2.toUInt64 >>> ((16 : Int32) &&& 0x3f).toInt64.toUInt64).toInt64).toInt32) la_2 b_8 kb_8 [(.ref x_8), (.ref x_12), .null, .null, .null, .null, .null, .null, .null, .null] (2 : Int32) (2 : Int32) (2 : Int32) om2_12 wa wb wc wd we ka kc G1 T12.heap n0 O24 W f22 fr16 fc12_2 fc12_3 f23 fc12_4 fr17 fr18 fr19 gb1 fc2_7.1 fc8_9.2.1 fc2_7.2 fc8_9.2.2.2.2.1 fc8_9.2.2.2.1 rfl ⟨by decide, by decide⟩ fc8_9.2.2.1) hZ (hW hw 98 rfl) (hW hw 97 rfl) (by decide) (by decide)) (g := (mkF m 70 #[vi p0, vi p1, vj q2, .second, vi (p0 &&& (7 : Int32)), vr b1, vi 0, .unset] [(.int (((q2.toUInt64 >>> ((16 : Int32) &&& 0x3f).toInt64.toUInt64).toInt64).toInt32)), (.int ((p1.toUInt32 >>> ((2 : Int32) &&& 31).toUInt32).toInt32)), (.ref b1)])) rfl (by rw [hml]; rfl) (argsL := [(.ref b1), (.int ((p1.toUInt32 >>> ((2 : Int32) &&& 31).toUInt32).toInt32)), (.int (((q2.toUInt64 >>> ((16 : Int32) &&& 0x3f).toInt64.toUInt64).toInt64).toInt32))]) (rest := []) (lenOf pd400 rfl) rfl (Nat.le_of_eq rfl) (hb hby at_70) (fun _ _ => ⟨rfl, rfl, (by decide : 13 + 5 ≤ _), (by decide : 94 + 39 ≤ _)⟩)
        dsimp only [Pt.U, Pt.locs, Pt.cells, Pt.slots] at X21 l21 y21 z21 st21 hQ21
        subst l21 y21 z21
        obtain ⟨X21, hS, hZ, hown⟩ := rebS hS (Nat.le_refl _) X21 hS21 hg21 hZ hown
        obtain ⟨x_21, om2_21, rfl, N21q, Kc21, fc21_0, fc21_1, fc21_2, fc21_3, fc21_4, fc21_5, fc21_6, fc21_7, fc21_8⟩ := hQ21
        have N21 := Fr.app N12 N21q
        have fr25 : Fld Z T21.heap b1 sF "found" "I" (.int 3) := fc21_1
        have fr26 : Fld Z T21.heap la_2 sA "size" "I" (.int 3) := fc21_5
        have fr27 : Fld Z T21.heap la_2 "java/util/AbstractList" "modCount" "I" (.int 3) := fc21_6
        have fr28 : Arv Z T21.heap b_8 kb_8 oT (10 : Int32) [(.ref x_8), (.ref x_12), (.ref x_21), .null, .null, .null, .null, .null, .null, .null] .null := fc21_7
        refine gb (mkF m 73 #[vi p0, vi p1, vj q2, .second, vi (p0 &&& (7 : Int32)), vr b1, vi 0, .unset] []) (fun _ k => st21.trans k) ?_
        refine gb (mkF m 75 #[vi p0, vi p1, vj q2, .second, vi (p0 &&& (7 : Int32)), vr b1, vi 0, .unset] [(.int (p0 &&& (7 : Int32)))]) (fun _ k => XS.iload X21.here hx rfl (hb hby at_73) rfl k) ?_
        refine gb (mkF m 76 #[vi p0, vi p1, vj q2, .second, vi (p0 &&& (7 : Int32)), vr b1, vi 0, .unset] [(.int 3), (.int (p0 &&& (7 : Int32)))]) (fun _ k => XS.iconst X21.here hx rfl (hb hby at_75) k) ?_
        by_cases hc29 : (3 : Int32) < (p0 &&& (7 : Int32))
        · refine gb (mkF m 79 #[vi p0, vi p1, vj q2, .second, vi (p0 &&& (7 : Int32)), vr b1, vi 0, .unset] []) (fun _ k => XS.icmpNo X21.here hx rfl (hb hby at_76) rfl (tlt hc29).2.2.2 k) ?_
          refine gb (mkF m 81 #[vi p0, vi p1, vj q2, .second, vi (p0 &&& (7 : Int32)), vr b1, vi 0, .unset] [(.ref b1)]) (fun _ k => XS.aload X21.here hx rfl (hb hby at_79) rfl rfl k) ?_
          refine gb (mkF m 82 #[vi p0, vi p1, vj q2, .second, vi (p0 &&& (7 : Int32)), vr b1, vi 0, .unset] [(.int p1), (.ref b1)]) (fun _ k => XS.iloadN X21.here hx rfl (hb hby at_81) rfl k) ?_
          refine gb (mkF m 83 #[vi p0, vi p1, vj q2, .second, vi (p0 &&& (7 : Int32)), vr b1, vi 0, .unset] [(.int 3), (.int p1), (.ref b1)]) (fun _ k => XS.iconst X21.here hx rfl (hb hby at_82) k) ?_
          refine gb (mkF m 84 #[vi p0, vi p1, vj q2, .second, vi (p0 &&& (7 : Int32)), vr b1, vi 0, .unset] [(.int ((p1.toUInt32 >>> ((3 : Int32) &&& 31).toUInt32).toInt32)), (.ref b1)]) (fun _ k => XS.iushr X21.here hx rfl (hb hby at_83) rfl k) ?_
          refine gb (mkF m 85 #[vi p0, vi p1, vj q2, .second, vi (p0 &&& (7 : Int32)), vr b1, vi 0, .unset] [(.long q2), (.int ((p1.toUInt32 >>> ((3 : Int32) &&& 31).toUInt32).toInt32)), (.ref b1)]) (fun _ k => XS.lloadN X21.here hx rfl (hb hby at_84) rfl k) ?_
          refine gb (mkF m 87 #[vi p0, vi p1, vj q2, .second, vi (p0 &&& (7 : Int32)), vr b1, vi 0, .unset] [(.int 24), (.long q2), (.int ((p1.toUInt32 >>> ((3 : Int32) &&& 31).toUInt32).toInt32)), (.ref b1)]) (fun _ k => XS.bipush X21.here hx rfl (hb hby at_85) k) ?_
          refine gb (mkF m 88 #[vi p0, vi p1, vj q2, .second, vi (p0 &&& (7 : Int32)), vr b1, vi 0, .unset] [(.long ((q2.toUInt64 >>> ((24 : Int32) &&& 0x3f).toInt64.toUInt64).toInt64)), (.int ((p1.toUInt32 >>> ((3 : Int32) &&& 31).toUInt32).toInt32)), (.ref b1)]) (fun _ k => XS.lushr X21.here hx rfl (hb hby at_87) rfl k) ?_
          refine gb (mkF m 89 #[vi p0, vi p1, vj q2, .second, vi (p0 &&& (7 : Int32)), vr b1, vi 0, .unset] [(.int (((q2.toUInt64 >>> ((24 : Int32) &&& 0x3f).toInt64.toUInt64).toInt64).toInt32)), (.int ((p1.toUInt32 >>> ((3 : Int32) &&& 31).toUInt32).toInt32)), (.ref b1)]) (fun _ k => XS.l2i X21.here hx rfl (hb hby at_88) rfl k) ?_
          have f31 := (Exa.keep f22 Kc21)
          have f32 := (Exa.keep f23 Kc21)
          have O33 := (O24.keep Kc21 (allS gb1 (allS fc2_7.1 (allS fc8_9.2.1 all0))))
          obtain ⟨_, _, ⟨T30, L30, k30, n30⟩, -, X30, hS30, hg30, ⟨Lc30, hQ30, l30, y30, z30⟩, st30⟩ := callSS X21 hx (y := mq17) hown (mvT hZ (hW hw 95 rfl)) (mvT hZ (hW hw 96 rfl)) (mvT hZ (hW hw 97 rfl)) (mvT hZ (hW hw 98 rfl)) (by decide) (backOfS (W := 0) (rm14s l Z a0' hw [] b1 ((p1.toUInt32 >>> ((3 : Int32) &&& 31).toUInt32).toInt32) (((q2.toUInt64 >>> ((24 : Int32) &&& 0x3f).toInt64.toUInt64).toInt64).toInt32) la_2 b_8 kb_8 [(.ref x_8), (.ref x_12), (.ref x_21), .null, .null, .null, .null, .null, .null, .null] (3 : Int32) (3 : Int32) (3 : Int32) om2_21 wa wb wc wd we ka kc G1 T21.heap n0 O33 W f31 fr25 fc21_2 fc21_3 f32 fc21_4 fr26 fr27 fr28 gb1 fc2_7.1 fc8_9.2.1 fc2_7.2 fc8_9.2.2.2.2.1 fc8_9.2.2.2.1 rfl ⟨by decide, by decide⟩ fc8_9.2.2.1) hZ (hW hw 98 rfl) (hW hw 97 rfl) (by decide) (by decide)) (g := (mkF m 89 #[vi p0, vi p1, vj q2, .second, vi (p0 &&& (7 : Int32)), vr b1, vi 0, .unset] [(.int (((q2.toUInt64 >>> ((24 : Int32) &&& 0x3f).toInt64.toUInt64).toInt64).toInt32)), (.int ((p1.toUInt32 >>> ((3 : Int32) &&& 31).toUInt32).toInt32)), (.ref b1)])) rfl (by rw [hml]; rfl) (argsL := [(.ref b1), (.int ((p1.toUInt32 >>> ((3 : Int32) &&& 31).toUInt32).toInt32)), (.int (((q2.toUInt64 >>> ((24 : Int32) &&& 0x3f).toInt64.toUInt64).toInt64).toInt32))]) (rest := []) (lenOf pd400 rfl) rfl (Nat.le_of_eq rfl) (hb hby at_89) (fun _ _ => ⟨rfl, rfl, (by decide : 18 + 5 ≤ _), (by decide : 133 + 39 ≤ _)⟩)
          dsimp only [Pt.U, Pt.locs, Pt.cells, Pt.slots] at X30 l30 y30 z30 st30 hQ30
          subst l30 y30 z30
          obtain ⟨X30, hS, hZ, hown⟩ := rebS hS (Nat.le_refl _) X30 hS30 hg30 hZ hown
          obtain ⟨x_30, om2_30, rfl, N30q, Kc30, fc30_0, fc30_1, fc30_2, fc30_3, fc30_4, fc30_5, fc30_6, fc30_7, fc30_8⟩ := hQ30
          have N30 := Fr.app N21 N30q
          have fr34 : Fld Z T30.heap b1 sF "found" "I" (.int 4) := fc30_1
          have fr35 : Fld Z T30.heap la_2 sA "size" "I" (.int 4) := fc30_5
          have fr36 : Fld Z T30.heap la_2 "java/util/AbstractList" "modCount" "I" (.int 4) := fc30_6
          have fr37 : Arv Z T30.heap b_8 kb_8 oT (10 : Int32) [(.ref x_8), (.ref x_12), (.ref x_21), (.ref x_30), .null, .null, .null, .null, .null, .null] .null := fc30_7
          refine gb (mkF m 92 #[vi p0, vi p1, vj q2, .second, vi (p0 &&& (7 : Int32)), vr b1, vi 0, .unset] []) (fun _ k => st30.trans k) ?_
          refine gb (mkF m 94 #[vi p0, vi p1, vj q2, .second, vi (p0 &&& (7 : Int32)), vr b1, vi 0, .unset] [(.int (p0 &&& (7 : Int32)))]) (fun _ k => XS.iload X30.here hx rfl (hb hby at_92) rfl k) ?_
          refine gb (mkF m 95 #[vi p0, vi p1, vj q2, .second, vi (p0 &&& (7 : Int32)), vr b1, vi 0, .unset] [(.int 4), (.int (p0 &&& (7 : Int32)))]) (fun _ k => XS.iconst X30.here hx rfl (hb hby at_94) k) ?_
          by_cases hc38 : (4 : Int32) < (p0 &&& (7 : Int32))
          · refine gb (mkF m 98 #[vi p0, vi p1, vj q2, .second, vi (p0 &&& (7 : Int32)), vr b1, vi 0, .unset] []) (fun _ k => XS.icmpNo X30.here hx rfl (hb hby at_95) rfl (tlt hc38).2.2.2 k) ?_
            refine gb (mkF m 100 #[vi p0, vi p1, vj q2, .second, vi (p0 &&& (7 : Int32)), vr b1, vi 0, .unset] [(.ref b1)]) (fun _ k => XS.aload X30.here hx rfl (hb hby at_98) rfl rfl k) ?_
            refine gb (mkF m 101 #[vi p0, vi p1, vj q2, .second, vi (p0 &&& (7 : Int32)), vr b1, vi 0, .unset] [(.int p1), (.ref b1)]) (fun _ k => XS.iloadN X30.here hx rfl (hb hby at_100) rfl k) ?_
            refine gb (mkF m 102 #[vi p0, vi p1, vj q2, .second, vi (p0 &&& (7 : Int32)), vr b1, vi 0, .unset] [(.int 4), (.int p1), (.ref b1)]) (fun _ k => XS.iconst X30.here hx rfl (hb hby at_101) k) ?_
            refine gb (mkF m 103 #[vi p0, vi p1, vj q2, .second, vi (p0 &&& (7 : Int32)), vr b1, vi 0, .unset] [(.int ((p1.toUInt32 >>> ((4 : Int32) &&& 31).toUInt32).toInt32)), (.ref b1)]) (fun _ k => XS.iushr X30.here hx rfl (hb hby at_102) rfl k) ?_
            refine gb (mkF m 104 #[vi p0, vi p1, vj q2, .second, vi (p0 &&& (7 : Int32)), vr b1, vi 0, .unset] [(.long q2), (.int ((p1.toUInt32 >>> ((4 : Int32) &&& 31).toUInt32).toInt32)), (.ref b1)]) (fun _ k => XS.lloadN X30.here hx rfl (hb hby at_103) rfl k) ?_
            refine gb (mkF m 106 #[vi p0, vi p1, vj q2, .second, vi (p0 &&& (7 : Int32)), vr b1, vi 0, .unset] [(.int 32), (.long q2), (.int ((p1.toUInt32 >>> ((4 : Int32) &&& 31).toUInt32).toInt32)), (.ref b1)]) (fun _ k => XS.bipush X30.here hx rfl (hb hby at_104) k) ?_
            refine gb (mkF m 107 #[vi p0, vi p1, vj q2, .second, vi (p0 &&& (7 : Int32)), vr b1, vi 0, .unset] [(.long ((q2.toUInt64 >>> ((32 : Int32) &&& 0x3f).toInt64.toUInt64).toInt64)), (.int ((p1.toUInt32 >>> ((4 : Int32) &&& 31).toUInt32).toInt32)), (.ref b1)]) (fun _ k => XS.lushr X30.here hx rfl (hb hby at_106) rfl k) ?_
            refine gb (mkF m 108 #[vi p0, vi p1, vj q2, .second, vi (p0 &&& (7 : Int32)), vr b1, vi 0, .unset] [(.int (((q2.toUInt64 >>> ((32 : Int32) &&& 0x3f).toInt64.toUInt64).toInt64).toInt32)), (.int ((p1.toUInt32 >>> ((4 : Int32) &&& 31).toUInt32).toInt32)), (.ref b1)]) (fun _ k => XS.l2i X30.here hx rfl (hb hby at_107) rfl k) ?_
            have f40 := (Exa.keep f31 Kc30)
            have f41 := (Exa.keep f32 Kc30)
            have O42 := (O33.keep Kc30 (allS gb1 (allS fc2_7.1 (allS fc8_9.2.1 all0))))
            obtain ⟨_, _, ⟨T39, L39, k39, n39⟩, -, X39, hS39, hg39, ⟨Lc39, hQ39, l39, y39, z39⟩, st39⟩ := callSS X30 hx (y := mq17) hown (mvT hZ (hW hw 95 rfl)) (mvT hZ (hW hw 96 rfl)) (mvT hZ (hW hw 97 rfl)) (mvT hZ (hW hw 98 rfl)) (by decide) (backOfS (W := 0) (rm14s l Z a0' hw [] b1 ((p1.toUInt32 >>> ((4 : Int32) &&& 31).toUInt32).toInt32) (((q2.toUInt64 >>> ((32 : Int32) &&& 0x3f).toInt64.toUInt64).toInt64).toInt32) la_2 b_8 kb_8 [(.ref x_8), (.ref x_12), (.ref x_21), (.ref x_30), .null, .null, .null, .null, .null, .null] (4 : Int32) (4 : Int32) (4 : Int32) om2_30 wa wb wc wd we ka kc G1 T30.heap n0 O42 W f40 fr34 fc30_2 fc30_3 f41 fc30_4 fr35 fr36 fr37 gb1 fc2_7.1 fc8_9.2.1 fc2_7.2 fc8_9.2.2.2.2.1 fc8_9.2.2.2.1 rfl ⟨by decide, by decide⟩ fc8_9.2.2.1) hZ (hW hw 98 rfl) (hW hw 97 rfl) (by decide) (by decide)) (g := (mkF m 108 #[vi p0, vi p1, vj q2, .second, vi (p0 &&& (7 : Int32)), vr b1, vi 0, .unset] [(.int (((q2.toUInt64 >>> ((32 : Int32) &&& 0x3f).toInt64.toUInt64).toInt64).toInt32)), (.int ((p1.toUInt32 >>> ((4 : Int32) &&& 31).toUInt32).toInt32)), (.ref b1)])) rfl (by rw [hml]; rfl) (argsL := [(.ref b1), (.int ((p1.toUInt32 >>> ((4 : Int32) &&& 31).toUInt32).toInt32)), (.int (((q2.toUInt64 >>> ((32 : Int32) &&& 0x3f).toInt64.toUInt64).toInt64).toInt32))]) (rest := []) (lenOf pd400 rfl) rfl (Nat.le_of_eq rfl) (hb hby at_108) (fun _ _ => ⟨rfl, rfl, (by decide : 23 + 5 ≤ _), (by decide : 172 + 39 ≤ _)⟩)
            dsimp only [Pt.U, Pt.locs, Pt.cells, Pt.slots] at X39 l39 y39 z39 st39 hQ39
            subst l39 y39 z39
            obtain ⟨X39, hS, hZ, hown⟩ := rebS hS (Nat.le_refl _) X39 hS39 hg39 hZ hown
            obtain ⟨x_39, om2_39, rfl, N39q, Kc39, fc39_0, fc39_1, fc39_2, fc39_3, fc39_4, fc39_5, fc39_6, fc39_7, fc39_8⟩ := hQ39
            have N39 := Fr.app N30 N39q
            have fr43 : Fld Z T39.heap b1 sF "found" "I" (.int 5) := fc39_1
            have fr44 : Fld Z T39.heap la_2 sA "size" "I" (.int 5) := fc39_5
            have fr45 : Fld Z T39.heap la_2 "java/util/AbstractList" "modCount" "I" (.int 5) := fc39_6
            have fr46 : Arv Z T39.heap b_8 kb_8 oT (10 : Int32) [(.ref x_8), (.ref x_12), (.ref x_21), (.ref x_30), (.ref x_39), .null, .null, .null, .null, .null] .null := fc39_7
            refine gb (mkF m 111 #[vi p0, vi p1, vj q2, .second, vi (p0 &&& (7 : Int32)), vr b1, vi 0, .unset] []) (fun _ k => st39.trans k) ?_
            refine gb (mkF m 113 #[vi p0, vi p1, vj q2, .second, vi (p0 &&& (7 : Int32)), vr b1, vi 0, .unset] [(.int (p0 &&& (7 : Int32)))]) (fun _ k => XS.iload X39.here hx rfl (hb hby at_111) rfl k) ?_
            refine gb (mkF m 114 #[vi p0, vi p1, vj q2, .second, vi (p0 &&& (7 : Int32)), vr b1, vi 0, .unset] [(.int 5), (.int (p0 &&& (7 : Int32)))]) (fun _ k => XS.iconst X39.here hx rfl (hb hby at_113) k) ?_
            by_cases hc47 : (5 : Int32) < (p0 &&& (7 : Int32))
            · refine gb (mkF m 117 #[vi p0, vi p1, vj q2, .second, vi (p0 &&& (7 : Int32)), vr b1, vi 0, .unset] []) (fun _ k => XS.icmpNo X39.here hx rfl (hb hby at_114) rfl (tlt hc47).2.2.2 k) ?_
              refine gb (mkF m 119 #[vi p0, vi p1, vj q2, .second, vi (p0 &&& (7 : Int32)), vr b1, vi 0, .unset] [(.ref b1)]) (fun _ k => XS.aload X39.here hx rfl (hb hby at_117) rfl rfl k) ?_
              refine gb (mkF m 120 #[vi p0, vi p1, vj q2, .second, vi (p0 &&& (7 : Int32)), vr b1, vi 0, .unset] [(.int p1), (.ref b1)]) (fun _ k => XS.iloadN X39.here hx rfl (hb hby at_119) rfl k) ?_
              refine gb (mkF m 121 #[vi p0, vi p1, vj q2, .second, vi (p0 &&& (7 : Int32)), vr b1, vi 0, .unset] [(.int 5), (.int p1), (.ref b1)]) (fun _ k => XS.iconst X39.here hx rfl (hb hby at_120) k) ?_
              refine gb (mkF m 122 #[vi p0, vi p1, vj q2, .second, vi (p0 &&& (7 : Int32)), vr b1, vi 0, .unset] [(.int ((p1.toUInt32 >>> ((5 : Int32) &&& 31).toUInt32).toInt32)), (.ref b1)]) (fun _ k => XS.iushr X39.here hx rfl (hb hby at_121) rfl k) ?_
              refine gb (mkF m 123 #[vi p0, vi p1, vj q2, .second, vi (p0 &&& (7 : Int32)), vr b1, vi 0, .unset] [(.long q2), (.int ((p1.toUInt32 >>> ((5 : Int32) &&& 31).toUInt32).toInt32)), (.ref b1)]) (fun _ k => XS.lloadN X39.here hx rfl (hb hby at_122) rfl k) ?_
              refine gb (mkF m 125 #[vi p0, vi p1, vj q2, .second, vi (p0 &&& (7 : Int32)), vr b1, vi 0, .unset] [(.int 40), (.long q2), (.int ((p1.toUInt32 >>> ((5 : Int32) &&& 31).toUInt32).toInt32)), (.ref b1)]) (fun _ k => XS.bipush X39.here hx rfl (hb hby at_123) k) ?_
              refine gb (mkF m 126 #[vi p0, vi p1, vj q2, .second, vi (p0 &&& (7 : Int32)), vr b1, vi 0, .unset] [(.long ((q2.toUInt64 >>> ((40 : Int32) &&& 0x3f).toInt64.toUInt64).toInt64)), (.int ((p1.toUInt32 >>> ((5 : Int32) &&& 31).toUInt32).toInt32)), (.ref b1)]) (fun _ k => XS.lushr X39.here hx rfl (hb hby at_125) rfl k) ?_
              refine gb (mkF m 127 #[vi p0, vi p1, vj q2, .second, vi (p0 &&& (7 : Int32)), vr b1, vi 0, .unset] [(.int (((q2.toUInt64 >>> ((40 : Int32) &&& 0x3f).toInt64.toUInt64).toInt64).toInt32)), (.int ((p1.toUInt32 >>> ((5 : Int32) &&& 31).toUInt32).toInt32)), (.ref b1)]) (fun _ k => XS.l2i X39.here hx rfl (hb hby at_126) rfl k) ?_
              have f49 := (Exa.keep f40 Kc39)
              have f50 := (Exa.keep f41 Kc39)
              have O51 := (O42.keep Kc39 (allS gb1 (allS fc2_7.1 (allS fc8_9.2.1 all0))))
              obtain ⟨_, _, ⟨T48, L48, k48, n48⟩, -, X48, hS48, hg48, ⟨Lc48, hQ48, l48, y48, z48⟩, st48⟩ := callSS X39 hx (y := mq17) hown (mvT hZ (hW hw 95 rfl)) (mvT hZ (hW hw 96 rfl)) (mvT hZ (hW hw 97 rfl)) (mvT hZ (hW hw 98 rfl)) (by decide) (backOfS (W := 0) (rm14s l Z a0' hw [] b1 ((p1.toUInt32 >>> ((5 : Int32) &&& 31).toUInt32).toInt32) (((q2.toUInt64 >>> ((40 : Int32) &&& 0x3f).toInt64.toUInt64).toInt64).toInt32) la_2 b_8 kb_8 [(.ref x_8), (.ref x_12), (.ref x_21), (.ref x_30), (.ref x_39), .null, .null, .null, .null, .null] (5 : Int32) (5 : Int32) (5 : Int32) om2_39 wa wb wc wd we ka kc G1 T39.heap n0 O51 W f49 fr43 fc39_2 fc39_3 f50 fc39_4 fr44 fr45 fr46 gb1 fc2_7.1 fc8_9.2.1 fc2_7.2 fc8_9.2.2.2.2.1 fc8_9.2.2.2.1 rfl ⟨by decide, by decide⟩ fc8_9.2.2.1) hZ (hW hw 98 rfl) (hW hw 97 rfl) (by decide) (by decide)) (g := (mkF m 127 #[vi p0, vi p1, vj q2, .second, vi (p0 &&& (7 : Int32)), vr b1, vi 0, .unset] [(.int (((q2.toUInt64 >>> ((40 : Int32) &&& 0x3f).toInt64.toUInt64).toInt64).toInt32)), (.int ((p1.toUInt32 >>> ((5 : Int32) &&& 31).toUInt32).toInt32)), (.ref b1)])) rfl (by rw [hml]; rfl) (argsL := [(.ref b1), (.int ((p1.toUInt32 >>> ((5 : Int32) &&& 31).toUInt32).toInt32)), (.int (((q2.toUInt64 >>> ((40 : Int32) &&& 0x3f).toInt64.toUInt64).toInt64).toInt32))]) (rest := []) (lenOf pd400 rfl) rfl (Nat.le_of_eq rfl) (hb hby at_127) (fun _ _ => ⟨rfl, rfl, (by decide : 28 + 5 ≤ _), (by decide : 211 + 39 ≤ _)⟩)
              dsimp only [Pt.U, Pt.locs, Pt.cells, Pt.slots] at X48 l48 y48 z48 st48 hQ48
              subst l48 y48 z48
              obtain ⟨X48, hS, hZ, hown⟩ := rebS hS (Nat.le_refl _) X48 hS48 hg48 hZ hown
              obtain ⟨x_48, om2_48, rfl, N48q, Kc48, fc48_0, fc48_1, fc48_2, fc48_3, fc48_4, fc48_5, fc48_6, fc48_7, fc48_8⟩ := hQ48
              have N48 := Fr.app N39 N48q
              have fr52 : Fld Z T48.heap b1 sF "found" "I" (.int 6) := fc48_1
              have fr53 : Fld Z T48.heap la_2 sA "size" "I" (.int 6) := fc48_5
              have fr54 : Fld Z T48.heap la_2 "java/util/AbstractList" "modCount" "I" (.int 6) := fc48_6
              have fr55 : Arv Z T48.heap b_8 kb_8 oT (10 : Int32) [(.ref x_8), (.ref x_12), (.ref x_21), (.ref x_30), (.ref x_39), (.ref x_48), .null, .null, .null, .null] .null := fc48_7
              refine gb (mkF m 130 #[vi p0, vi p1, vj q2, .second, vi (p0 &&& (7 : Int32)), vr b1, vi 0, .unset] []) (fun _ k => st48.trans k) ?_
              refine gb (mkF m 132 #[vi p0, vi p1, vj q2, .second, vi (p0 &&& (7 : Int32)), vr b1, vi 0, .unset] [(.int (p0 &&& (7 : Int32)))]) (fun _ k => XS.iload X48.here hx rfl (hb hby at_130) rfl k) ?_
              refine gb (mkF m 134 #[vi p0, vi p1, vj q2, .second, vi (p0 &&& (7 : Int32)), vr b1, vi 0, .unset] [(.int 6), (.int (p0 &&& (7 : Int32)))]) (fun _ k => XS.bipush X48.here hx rfl (hb hby at_132) k) ?_
              by_cases hc56 : (6 : Int32) < (p0 &&& (7 : Int32))
              · refine gb (mkF m 137 #[vi p0, vi p1, vj q2, .second, vi (p0 &&& (7 : Int32)), vr b1, vi 0, .unset] []) (fun _ k => XS.icmpNo X48.here hx rfl (hb hby at_134) rfl (tlt hc56).2.2.2 k) ?_
                refine gb (mkF m 139 #[vi p0, vi p1, vj q2, .second, vi (p0 &&& (7 : Int32)), vr b1, vi 0, .unset] [(.ref b1)]) (fun _ k => XS.aload X48.here hx rfl (hb hby at_137) rfl rfl k) ?_
                refine gb (mkF m 140 #[vi p0, vi p1, vj q2, .second, vi (p0 &&& (7 : Int32)), vr b1, vi 0, .unset] [(.int p1), (.ref b1)]) (fun _ k => XS.iloadN X48.here hx rfl (hb hby at_139) rfl k) ?_
                refine gb (mkF m 142 #[vi p0, vi p1, vj q2, .second, vi (p0 &&& (7 : Int32)), vr b1, vi 0, .unset] [(.int 6), (.int p1), (.ref b1)]) (fun _ k => XS.bipush X48.here hx rfl (hb hby at_140) k) ?_
                refine gb (mkF m 143 #[vi p0, vi p1, vj q2, .second, vi (p0 &&& (7 : Int32)), vr b1, vi 0, .unset] [(.int ((p1.toUInt32 >>> ((6 : Int32) &&& 31).toUInt32).toInt32)), (.ref b1)]) (fun _ k => XS.iushr X48.here hx rfl (hb hby at_142) rfl k) ?_
                refine gb (mkF m 144 #[vi p0, vi p1, vj q2, .second, vi (p0 &&& (7 : Int32)), vr b1, vi 0, .unset] [(.long q2), (.int ((p1.toUInt32 >>> ((6 : Int32) &&& 31).toUInt32).toInt32)), (.ref b1)]) (fun _ k => XS.lloadN X48.here hx rfl (hb hby at_143) rfl k) ?_
                refine gb (mkF m 146 #[vi p0, vi p1, vj q2, .second, vi (p0 &&& (7 : Int32)), vr b1, vi 0, .unset] [(.int 48), (.long q2), (.int ((p1.toUInt32 >>> ((6 : Int32) &&& 31).toUInt32).toInt32)), (.ref b1)]) (fun _ k => XS.bipush X48.here hx rfl (hb hby at_144) k) ?_
                refine gb (mkF m 147 #[vi p0, vi p1, vj q2, .second, vi (p0 &&& (7 : Int32)), vr b1, vi 0, .unset] [(.long ((q2.toUInt64 >>> ((48 : Int32) &&& 0x3f).toInt64.toUInt64).toInt64)), (.int ((p1.toUInt32 >>> ((6 : Int32) &&& 31).toUInt32).toInt32)), (.ref b1)]) (fun _ k => XS.lushr X48.here hx rfl (hb hby at_146) rfl k) ?_
                refine gb (mkF m 148 #[vi p0, vi p1, vj q2, .second, vi (p0 &&& (7 : Int32)), vr b1, vi 0, .unset] [(.int (((q2.toUInt64 >>> ((48 : Int32) &&& 0x3f).toInt64.toUInt64).toInt64).toInt32)), (.int ((p1.toUInt32 >>> ((6 : Int32) &&& 31).toUInt32).toInt32)), (.ref b1)]) (fun _ k => XS.l2i X48.here hx rfl (hb hby at_147) rfl k) ?_
                have f58 := (Exa.keep f49 Kc48)
                have f59 := (Exa.keep f50 Kc48)
                have O60 := (O51.keep Kc48 (allS gb1 (allS fc2_7.1 (allS fc8_9.2.1 all0))))
                obtain ⟨_, _, ⟨T57, L57, k57, n57⟩, -, X57, hS57, hg57, ⟨Lc57, hQ57, l57, y57, z57⟩, st57⟩ := callSS X48 hx (y := mq17) hown (mvT hZ (hW hw 95 rfl)) (mvT hZ (hW hw 96 rfl)) (mvT hZ (hW hw 97 rfl)) (mvT hZ (hW hw 98 rfl)) (by decide) (backOfS (W := 0) (rm14s l Z a0' hw [] b1 ((p1.toUInt32 >>> ((6 : Int32) &&& 31).toUInt32).toInt32) (((q2.toUInt64 >>> ((48 : Int32) &&& 0x3f).toInt64.toUInt64).toInt64).toInt32) la_2 b_8 kb_8 [(.ref x_8), (.ref x_12), (.ref x_21), (.ref x_30), (.ref x_39), (.ref x_48), .null, .null, .null, .null] (6 : Int32) (6 : Int32) (6 : Int32) om2_48 wa wb wc wd we ka kc G1 T48.heap n0 O60 W f58 fr52 fc48_2 fc48_3 f59 fc48_4 fr53 fr54 fr55 gb1 fc2_7.1 fc8_9.2.1 fc2_7.2 fc8_9.2.2.2.2.1 fc8_9.2.2.2.1 rfl ⟨by decide, by decide⟩ fc8_9.2.2.1) hZ (hW hw 98 rfl) (hW hw 97 rfl) (by decide) (by decide)) (g := (mkF m 148 #[vi p0, vi p1, vj q2, .second, vi (p0 &&& (7 : Int32)), vr b1, vi 0, .unset] [(.int (((q2.toUInt64 >>> ((48 : Int32) &&& 0x3f).toInt64.toUInt64).toInt64).toInt32)), (.int ((p1.toUInt32 >>> ((6 : Int32) &&& 31).toUInt32).toInt32)), (.ref b1)])) rfl (by rw [hml]; rfl) (argsL := [(.ref b1), (.int ((p1.toUInt32 >>> ((6 : Int32) &&& 31).toUInt32).toInt32)), (.int (((q2.toUInt64 >>> ((48 : Int32) &&& 0x3f).toInt64.toUInt64).toInt64).toInt32))]) (rest := []) (lenOf pd400 rfl) rfl (Nat.le_of_eq rfl) (hb hby at_148) (fun _ _ => ⟨rfl, rfl, (by decide : 33 + 5 ≤ _), (by decide : 250 + 39 ≤ _)⟩)
                dsimp only [Pt.U, Pt.locs, Pt.cells, Pt.slots] at X57 l57 y57 z57 st57 hQ57
                subst l57 y57 z57
                obtain ⟨X57, hS, hZ, hown⟩ := rebS hS (Nat.le_refl _) X57 hS57 hg57 hZ hown
                obtain ⟨x_57, om2_57, rfl, N57q, Kc57, fc57_0, fc57_1, fc57_2, fc57_3, fc57_4, fc57_5, fc57_6, fc57_7, fc57_8⟩ := hQ57
                have N57 := Fr.app N48 N57q
                have fr61 : Fld Z T57.heap b1 sF "found" "I" (.int 7) := fc57_1
                have fr62 : Fld Z T57.heap la_2 sA "size" "I" (.int 7) := fc57_5
                have fr63 : Fld Z T57.heap la_2 "java/util/AbstractList" "modCount" "I" (.int 7) := fc57_6
                have fr64 : Arv Z T57.heap b_8 kb_8 oT (10 : Int32) [(.ref x_8), (.ref x_12), (.ref x_21), (.ref x_30), (.ref x_39), (.ref x_48), (.ref x_57), .null, .null, .null] .null := fc57_7
                refine gb (mkF m 151 #[vi p0, vi p1, vj q2, .second, vi (p0 &&& (7 : Int32)), vr b1, vi 0, .unset] []) (fun _ k => st57.trans k) ?_
                refine gb (mkF m 153 #[vi p0, vi p1, vj q2, .second, vi (p0 &&& (7 : Int32)), vr b1, vi 0, .unset] [(.ref b1)]) (fun _ k => XS.aload X57.here hx rfl (hb hby at_151) rfl rfl k) ?_
                have f66 := (Exa.keep f58 Kc57)
                have O67 := (O60.keep Kc57 (allS gb1 (allS fc2_7.1 (allS fc8_9.2.1 all0))))
                obtain ⟨cq65, kq65, q65a, q65b, q65c⟩ := isOf hZ rfl f66
                obtain ⟨_, _, ⟨T65, L65, k65, n65⟩, -, X65, ⟨Lc65, hQ65, l65, y65, z65⟩, st65⟩ := X57.virtualBack hx (y := mq26) (z := mq26) hown (mvT hZ (hW hw 37 rfl)) (mvT hZ (hW hw 38 rfl)) (notFace_of_selects (args := #[]) (mvT hZ (hW hw 40 rfl))) (mvT hZ (hW hw 40 rfl)) (mvT hZ (hW hw 39 rfl)) (by decide) (backOf (W := 0) (rm6 l Z a0' hw [] b1 (7 : Int32) wa wb wc wd we ka kc G1 T57.heap n0 O67 W f66 fr61 (by decide)) hZ (hW hw 41 rfl) (hW hw 2 rfl) (by decide) (by decide)) q65a q65c (g := (mkF m 153 #[vi p0, vi p1, vj q2, .second, vi (p0 &&& (7 : Int32)), vr b1, vi 0, .unset] [(.ref b1)])) rfl (by rw [hml]; rfl) (Steps.refl _) (argsL := []) (rest := []) (lenOf pd334 rfl) rfl (Nat.le_of_eq rfl) (hb hby at_153) (fun _ _ => ⟨rfl, rfl, (by decide : 38 + 0 ≤ _), (by decide : 289 + 0 ≤ _)⟩)
                dsimp only [Pt.U, Pt.locs, Pt.cells, Pt.slots] at X65 l65 y65 z65 st65 hQ65
                subst l65 y65 z65
                obtain ⟨rfl, N65q, e65⟩ := hQ65
                have N65 := Fr.app N57 N65q
                refine gb (mkF m 156 #[vi p0, vi p1, vj q2, .second, vi (p0 &&& (7 : Int32)), vr b1, vi 0, .unset] [(.int 0)]) (fun _ k => st65.trans k) ?_
                refine gb (mkF m 158 #[vi p0, vi p1, vj q2, .second, vi (p0 &&& (7 : Int32)), vr b1, vi 0, vi 0] []) (fun _ k => XS.istore X65.here hx rfl (hb hby at_156) rfl (l' := #[vi p0, vi p1, vj q2, .second, vi (p0 &&& (7 : Int32)), vr b1, vi 0, vi 0]) rfl k) ?_
                refine gb (mkF m 160 #[vi p0, vi p1, vj q2, .second, vi (p0 &&& (7 : Int32)), vr b1, vi 0, vi 0] [(.int 0)]) (fun _ k => XS.iload X65.here hx rfl (hb hby at_158) rfl k) ?_
                refine gb (mkF m 163 #[vi p0, vi p1, vj q2, .second, vi (p0 &&& (7 : Int32)), vr b1, vi 0, vi 0] []) (fun _ k => XS.ifNo X65.here hx rfl (hb hby at_160) rfl ((if0 _ _).trans (teq (by decide : (0 : Int32) = (0 : Int32))).2) k) ?_
                refine gb (mkF m 165 #[vi p0, vi p1, vj q2, .second, vi (p0 &&& (7 : Int32)), vr b1, vi 0, vi 0] [(.int 0)]) (fun _ k => XS.iload X65.here hx rfl (hb hby at_163) rfl k) ?_
                refine gb (mkF m 168 #[vi p0, vi p1, vj q2, .second, vi (p0 &&& (7 : Int32)), vr b1, vi 0, vi 0] []) (fun _ k => XS.ifNo X65.here hx rfl (hb hby at_165) rfl ((if0 _ _).trans (teq (by decide : (0 : Int32) = (0 : Int32))).2) k) ?_
                refine gb (mkF m 170 #[vi p0, vi p1, vj q2, .second, vi (p0 &&& (7 : Int32)), vr b1, vi 0, vi 0] [(.ref b1)]) (fun _ k => XS.aload X65.here hx rfl (hb hby at_168) rfl rfl k) ?_
                obtain ⟨cq68, kq68, q68a, q68b, q68c⟩ := isOf hZ e65 f66
                obtain ⟨_, _, ⟨T68, L68, k68, n68⟩, -, X68, ⟨Lc68, hQ68, l68, y68, z68⟩, st68⟩ := X65.virtualBack hx (y := mq27) (z := mq27) hown (mvT hZ (hW hw 44 rfl)) (mvT hZ (hW hw 45 rfl)) (notFace_of_selects (args := #[]) (mvT hZ (hW hw 47 rfl))) (mvT hZ (hW hw 47 rfl)) (mvT hZ (hW hw 46 rfl)) (by decide) (backOf (W := 0) (rm7s l Z a0' hw [] b1 (7 : Int32) wa wb wc wd we ka kc G1 T57.heap n0 O67 W f66 fr61 (by decide)) hZ (hW hw 48 rfl) (hW hw 2 rfl) (by decide) (by decide)) q68a q68c (g := (mkF m 170 #[vi p0, vi p1, vj q2, .second, vi (p0 &&& (7 : Int32)), vr b1, vi 0, vi 0] [(.ref b1)])) rfl (by rw [hml]; rfl) (Steps.refl _) (argsL := []) (rest := []) (lenOf pd334 rfl) rfl (Nat.le_of_eq rfl) (hb hby at_170) (fun _ _ => ⟨rfl, e65, (by decide : 38 + 0 ≤ _), (by decide : 289 + 0 ≤ _)⟩)
                dsimp only [Pt.U, Pt.locs, Pt.cells, Pt.slots] at X68 l68 y68 z68 st68 hQ68
                subst l68 y68 z68
                obtain ⟨rfl, N68q, e68⟩ := hQ68
                have N68 := Fr.app N65 N68q
                refine gb (mkF m 173 #[vi p0, vi p1, vj q2, .second, vi (p0 &&& (7 : Int32)), vr b1, vi 0, vi 0] [(.int 0)]) (fun _ k => st68.trans k) ?_
                refine gb (mkF m 175 #[vi p0, vi p1, vj q2, .second, vi (p0 &&& (7 : Int32)), vr b1, vi 0, vi 0] [(.int (p0 &&& (7 : Int32))), (.int 0)]) (fun _ k => XS.iload X68.here hx rfl (hb hby at_173) rfl k) ?_
                refine gb (mkF m 182 #[vi p0, vi p1, vj q2, .second, vi (p0 &&& (7 : Int32)), vr b1, vi 0, vi 0] [(.int 0)]) (fun _ k => XS.ifYes X68.here hx rfl (pc0 := 175) (pc' := 182) rfl (hb hby at_175) rfl ((if0 _ _).trans (feq (fun q => absurd (q.symm.trans (nkk (a := (6 : Int32)) (b := (7 : Int32)) (k := (7 : Int32)) (mask7 p0) (by decide) (by decide) (Or.inr hc56) (Or.inl (by decide)))) (by decide))).2) (by decide) (by decide) k) ?_
                refine gb (mkF m 183 #[vi p0, vi p1, vj q2, .second, vi (p0 &&& (7 : Int32)), vr b1, vi 0, vi 0] [(.int 0), (.int 0)]) (fun _ k => XS.iconst X68.here hx rfl (hb hby at_182) k) ?_
                refine gb (mkF m 186 #[vi p0, vi p1, vj q2, .second, vi (p0 &&& (7 : Int32)), vr b1, vi 0, vi 0] []) (fun _ k => XS.icmpNo X68.here hx rfl (hb hby at_183) rfl (teq (by decide : (0 : Int32) = (0 : Int32))).2 k) ?_
                refine gb (mkF m 188 #[vi p0, vi p1, vj q2, .second, vi (p0 &&& (7 : Int32)), vr b1, vi 0, vi 0] [(.ref b1)]) (fun _ k => XS.aload X68.here hx rfl (hb hby at_186) rfl rfl k) ?_
                have f70 := (Exa.keep f59 Kc57)
                have f71 := (Exa.keep (Exa.keep (Exa.keep (Exa.keep (Exa.keep (Exa.keep fc8_8 Kc12) Kc21) Kc30) Kc39) Kc48) Kc57)
                have f72 := (Exa.keep (Exa.keep (Exa.keep (Exa.keep (Exa.keep (Exa.keep fc8_0 Kc12) Kc21) Kc30) Kc39) Kc48) Kc57)
                have f73 := (Exa.keep (Exa.keep (Exa.keep (Exa.keep (Exa.keep fc12_0 Kc21) Kc30) Kc39) Kc48) Kc57)
                have f74 := (Exa.keep (Exa.keep (Exa.keep (Exa.keep fc21_0 Kc30) Kc39) Kc48) Kc57)
                have f75 := (Exa.keep (Exa.keep (Exa.keep fc30_0 Kc39) Kc48) Kc57)
                have f76 := (Exa.keep (Exa.keep fc39_0 Kc48) Kc57)
                have f77 := (Exa.keep fc48_0 Kc57)
                obtain ⟨cq69, kq69, q69a, q69b, q69c⟩ := isOf hZ e68 f66
                obtain ⟨_, _, ⟨T69, L69, k69, n69⟩, -, X69, ⟨Lc69, hQ69, l69, y69, z69⟩, st69⟩ := X68.virtualBack hx (y := mq41) (z := mq41) hown (mvT hZ (hW hw 49 rfl)) (mvT hZ (hW hw 50 rfl)) (notFace_of_selects (args := #[]) (mvT hZ (hW hw 52 rfl))) (mvT hZ (hW hw 52 rfl)) (mvT hZ (hW hw 51 rfl)) (by decide) (backOf (W := 0) (rm87 l Z a0' hw [] b1 la_2 b_8 kb_8 x_8 x_12 x_21 x_30 x_39 x_48 x_57 wa wb wc wd we ka kc G1 T57.heap n0 O67 W f66 fr61 fc57_2 f70 fc57_4 fr62 f71 fr64 f72 f73 f74 f75 f76 f77 fc57_0) hZ (hW hw 53 rfl) (hW hw 2 rfl) (by decide) (by decide)) q69a q69c (g := (mkF m 188 #[vi p0, vi p1, vj q2, .second, vi (p0 &&& (7 : Int32)), vr b1, vi 0, vi 0] [(.ref b1)])) rfl (by rw [hml]; rfl) (Steps.refl _) (argsL := []) (rest := []) (lenOf pd335 rfl) rfl (Nat.le_of_eq rfl) (hb hby at_188) (fun _ _ => ⟨rfl, e68, (by decide : 38 + 3 ≤ _), (by decide : 289 + 16 ≤ _)⟩)
                dsimp only [Pt.U, Pt.locs, Pt.cells, Pt.slots] at X69 l69 y69 z69 st69 hQ69
                subst l69 y69 z69
                obtain ⟨r_69, ar_69, kr_69, rfl, N69q, Kc69, fc69_0, fc69_1, fc69_2⟩ := hQ69
                have N69 := Fr.app N68 N69q
                refine gb (mkF m 191 #[vi p0, vi p1, vj q2, .second, vi (p0 &&& (7 : Int32)), vr b1, vi 0, vi 0] [(.ref r_69)]) (fun _ k => st69.trans k) ?_
                have O79 := (O67.keep Kc69 all0)
                obtain ⟨cq78, kq78, q78a, q78b, q78c⟩ := isOf hZ rfl fc69_0
                obtain ⟨_, _, ⟨T78, L78, k78, n78⟩, -, X78, ⟨Lc78, hQ78, l78, y78, z78⟩, st78⟩ := X69.interfaceBack hx (xi := mq9) (y := mq30) hown (mvT hZ (hW hw 83 rfl)) (mvT hZ (hW hw 84 rfl)) (mvT hZ (hW hw 85 rfl)) (mvT hZ (hW hw 86 rfl)) (mvT hZ (hW hw 87 rfl)) (mvT hZ (hW hw 88 rfl)) (mvT hZ (hW hw 89 rfl)) (mvT hZ (hW hw 90 rfl)) (by decide) (backOf (W := 0) (rm13 l Z a0' hw [] r_69 ar_69 kr_69 (7 : Int32) [(.ref x_8), (.ref x_12), (.ref x_21), (.ref x_30), (.ref x_39), (.ref x_48), (.ref x_57)] wa wb wc wd we ka kc G1 T69.heap n0 O79 W fc69_0 fc69_1 fc69_2) hZ (hW hw 92 rfl) (hW hw 91 rfl) (by decide) (by decide)) q78a q78b q78c (g := (mkF m 191 #[vi p0, vi p1, vj q2, .second, vi (p0 &&& (7 : Int32)), vr b1, vi 0, vi 0] [(.ref r_69)])) rfl (by rw [hml]; rfl) (Steps.refl _) (argsL := []) (rest := []) (lenOf pd100 rfl) rfl (Nat.le_of_eq rfl) (hb hby at_191) (fun _ _ => ⟨rfl, rfl, (by decide : 41 + 0 ≤ _), (by decide : 305 + 0 ≤ _)⟩)
                dsimp only [Pt.U, Pt.locs, Pt.cells, Pt.slots] at X78 l78 y78 z78 st78 hQ78
                subst l78 y78 z78
                obtain ⟨rfl, N78q, e78⟩ := hQ78
                have N78 := Fr.app N69 N78q
                refine gb (mkF m 196 #[vi p0, vi p1, vj q2, .second, vi (p0 &&& (7 : Int32)), vr b1, vi 0, vi 0] [(.int 7)]) (fun _ k => st78.trans k) ?_
                refine gb (mkF m 198 #[vi p0, vi p1, vj q2, .second, vi (p0 &&& (7 : Int32)), vr b1, vi 0, vi 0] [(.int (p0 &&& (7 : Int32))), (.int 7)]) (fun _ k => XS.iload X78.here hx rfl (hb hby at_196) rfl k) ?_
                refine gb (mkF m 201 #[vi p0, vi p1, vj q2, .second, vi (p0 &&& (7 : Int32)), vr b1, vi 0, vi 0] []) (fun _ k => XS.icmpNo X78.here hx rfl (hb hby at_198) rfl (teq ((nkk (a := (6 : Int32)) (b := (7 : Int32)) (k := (7 : Int32)) (mask7 p0) (by decide) (by decide) (Or.inr hc56) (Or.inl (by decide)))).symm).2 k) ?_
                refine gb (mkF m 202 #[vi p0, vi p1, vj q2, .second, vi (p0 &&& (7 : Int32)), vr b1, vi 0, vi 0] [(.int 1)]) (fun _ k => XS.iconst X78.here hx rfl (hb hby at_201) k) ?_
                refine gb (mkF m 206 #[vi p0, vi p1, vj q2, .second, vi (p0 &&& (7 : Int32)), vr b1, vi 0, vi 0] [(.int 1)]) (fun _ k => XS.goto X78.here hx rfl (pc0 := 202) (pc' := 206) rfl (hb hby at_202) (by decide) (by decide) k) ?_
                have sz80 := (Nat.le_trans (Nat.le_refl _) Kc69.1)
                exact Gl.outNW X78 hS (by rw [e78]; exact sz80) hx hk (t := .boolean) Bd.returns (by simp) (hb hby at_206) ⟨(congrArg (fun z => some (Value.int z)) (show nar .boolean (1 : Int32) = fn0 p0 p1 q2 wa wb wc wd we ka kc G1 by unfold fn0; rw [if_pos hc7, if_pos hc11, if_pos hc20, if_pos hc29, if_pos hc38, if_pos hc47, if_pos hc56]; try rfl)), N78⟩ (by decide) (by decide)
              · refine gb (mkF m 151 #[vi p0, vi p1, vj q2, .second, vi (p0 &&& (7 : Int32)), vr b1, vi 0, .unset] []) (fun _ k => XS.icmpYes X48.here hx rfl (pc0 := 134) (pc' := 151) rfl (hb hby at_134) rfl (flt hc56).2.2.2 (by decide) (by decide) k) ?_
                refine gb (mkF m 153 #[vi p0, vi p1, vj q2, .second, vi (p0 &&& (7 : Int32)), vr b1, vi 0, .unset] [(.ref b1)]) (fun _ k => XS.aload X48.here hx rfl (hb hby at_151) rfl rfl k) ?_
                have f82 := (Exa.keep f49 Kc48)
                have O83 := (O51.keep Kc48 (allS gb1 (allS fc2_7.1 (allS fc8_9.2.1 all0))))
                obtain ⟨cq81, kq81, q81a, q81b, q81c⟩ := isOf hZ rfl f82
                obtain ⟨_, _, ⟨T81, L81, k81, n81⟩, -, X81, ⟨Lc81, hQ81, l81, y81, z81⟩, st81⟩ := X48.virtualBack hx (y := mq26) (z := mq26) hown (mvT hZ (hW hw 37 rfl)) (mvT hZ (hW hw 38 rfl)) (notFace_of_selects (args := #[]) (mvT hZ (hW hw 40 rfl))) (mvT hZ (hW hw 40 rfl)) (mvT hZ (hW hw 39 rfl)) (by decide) (backOf (W := 0) (rm6 l Z a0' hw [] b1 (6 : Int32) wa wb wc wd we ka kc G1 T48.heap n0 O83 W f82 fr52 (by decide)) hZ (hW hw 41 rfl) (hW hw 2 rfl) (by decide) (by decide)) q81a q81c (g := (mkF m 153 #[vi p0, vi p1, vj q2, .second, vi (p0 &&& (7 : Int32)), vr b1, vi 0, .unset] [(.ref b1)])) rfl (by rw [hml]; rfl) (Steps.refl _) (argsL := []) (rest := []) (lenOf pd334 rfl) rfl (Nat.le_of_eq rfl) (hb hby at_153) (fun _ _ => ⟨rfl, rfl, (by decide : 33 + 0 ≤ _), (by decide : 250 + 0 ≤ _)⟩)
                dsimp only [Pt.U, Pt.locs, Pt.cells, Pt.slots] at X81 l81 y81 z81 st81 hQ81
                subst l81 y81 z81
                obtain ⟨rfl, N81q, e81⟩ := hQ81
                have N81 := Fr.app N48 N81q
                refine gb (mkF m 156 #[vi p0, vi p1, vj q2, .second, vi (p0 &&& (7 : Int32)), vr b1, vi 0, .unset] [(.int 0)]) (fun _ k => st81.trans k) ?_
                refine gb (mkF m 158 #[vi p0, vi p1, vj q2, .second, vi (p0 &&& (7 : Int32)), vr b1, vi 0, vi 0] []) (fun _ k => XS.istore X81.here hx rfl (hb hby at_156) rfl (l' := #[vi p0, vi p1, vj q2, .second, vi (p0 &&& (7 : Int32)), vr b1, vi 0, vi 0]) rfl k) ?_
                refine gb (mkF m 160 #[vi p0, vi p1, vj q2, .second, vi (p0 &&& (7 : Int32)), vr b1, vi 0, vi 0] [(.int 0)]) (fun _ k => XS.iload X81.here hx rfl (hb hby at_158) rfl k) ?_
                refine gb (mkF m 163 #[vi p0, vi p1, vj q2, .second, vi (p0 &&& (7 : Int32)), vr b1, vi 0, vi 0] []) (fun _ k => XS.ifNo X81.here hx rfl (hb hby at_160) rfl ((if0 _ _).trans (teq (by decide : (0 : Int32) = (0 : Int32))).2) k) ?_
                refine gb (mkF m 165 #[vi p0, vi p1, vj q2, .second, vi (p0 &&& (7 : Int32)), vr b1, vi 0, vi 0] [(.int 0)]) (fun _ k => XS.iload X81.here hx rfl (hb hby at_163) rfl k) ?_
                refine gb (mkF m 168 #[vi p0, vi p1, vj q2, .second, vi (p0 &&& (7 : Int32)), vr b1, vi 0, vi 0] []) (fun _ k => XS.ifNo X81.here hx rfl (hb hby at_165) rfl ((if0 _ _).trans (teq (by decide : (0 : Int32) = (0 : Int32))).2) k) ?_
                refine gb (mkF m 170 #[vi p0, vi p1, vj q2, .second, vi (p0 &&& (7 : Int32)), vr b1, vi 0, vi 0] [(.ref b1)]) (fun _ k => XS.aload X81.here hx rfl (hb hby at_168) rfl rfl k) ?_
                obtain ⟨cq84, kq84, q84a, q84b, q84c⟩ := isOf hZ e81 f82
                obtain ⟨_, _, ⟨T84, L84, k84, n84⟩, -, X84, ⟨Lc84, hQ84, l84, y84, z84⟩, st84⟩ := X81.virtualBack hx (y := mq27) (z := mq27) hown (mvT hZ (hW hw 44 rfl)) (mvT hZ (hW hw 45 rfl)) (notFace_of_selects (args := #[]) (mvT hZ (hW hw 47 rfl))) (mvT hZ (hW hw 47 rfl)) (mvT hZ (hW hw 46 rfl)) (by decide) (backOf (W := 0) (rm7s l Z a0' hw [] b1 (6 : Int32) wa wb wc wd we ka kc G1 T48.heap n0 O83 W f82 fr52 (by decide)) hZ (hW hw 48 rfl) (hW hw 2 rfl) (by decide) (by decide)) q84a q84c (g := (mkF m 170 #[vi p0, vi p1, vj q2, .second, vi (p0 &&& (7 : Int32)), vr b1, vi 0, vi 0] [(.ref b1)])) rfl (by rw [hml]; rfl) (Steps.refl _) (argsL := []) (rest := []) (lenOf pd334 rfl) rfl (Nat.le_of_eq rfl) (hb hby at_170) (fun _ _ => ⟨rfl, e81, (by decide : 33 + 0 ≤ _), (by decide : 250 + 0 ≤ _)⟩)
                dsimp only [Pt.U, Pt.locs, Pt.cells, Pt.slots] at X84 l84 y84 z84 st84 hQ84
                subst l84 y84 z84
                obtain ⟨rfl, N84q, e84⟩ := hQ84
                have N84 := Fr.app N81 N84q
                refine gb (mkF m 173 #[vi p0, vi p1, vj q2, .second, vi (p0 &&& (7 : Int32)), vr b1, vi 0, vi 0] [(.int 0)]) (fun _ k => st84.trans k) ?_
                refine gb (mkF m 175 #[vi p0, vi p1, vj q2, .second, vi (p0 &&& (7 : Int32)), vr b1, vi 0, vi 0] [(.int (p0 &&& (7 : Int32))), (.int 0)]) (fun _ k => XS.iload X84.here hx rfl (hb hby at_173) rfl k) ?_
                refine gb (mkF m 182 #[vi p0, vi p1, vj q2, .second, vi (p0 &&& (7 : Int32)), vr b1, vi 0, vi 0] [(.int 0)]) (fun _ k => XS.ifYes X84.here hx rfl (pc0 := 175) (pc' := 182) rfl (hb hby at_175) rfl ((if0 _ _).trans (feq (fun q => absurd (q.symm.trans (nkk (a := (5 : Int32)) (b := (6 : Int32)) (k := (6 : Int32)) (mask7 p0) (by decide) (by decide) (Or.inr hc47) (Or.inr hc56))) (by decide))).2) (by decide) (by decide) k) ?_
                refine gb (mkF m 183 #[vi p0, vi p1, vj q2, .second, vi (p0 &&& (7 : Int32)), vr b1, vi 0, vi 0] [(.int 0), (.int 0)]) (fun _ k => XS.iconst X84.here hx rfl (hb hby at_182) k) ?_
                refine gb (mkF m 186 #[vi p0, vi p1, vj q2, .second, vi (p0 &&& (7 : Int32)), vr b1, vi 0, vi 0] []) (fun _ k => XS.icmpNo X84.here hx rfl (hb hby at_183) rfl (teq (by decide : (0 : Int32) = (0 : Int32))).2 k) ?_
                refine gb (mkF m 188 #[vi p0, vi p1, vj q2, .second, vi (p0 &&& (7 : Int32)), vr b1, vi 0, vi 0] [(.ref b1)]) (fun _ k => XS.aload X84.here hx rfl (hb hby at_186) rfl rfl k) ?_
                have f86 := (Exa.keep f50 Kc48)
                have f87 := (Exa.keep (Exa.keep (Exa.keep (Exa.keep (Exa.keep fc8_8 Kc12) Kc21) Kc30) Kc39) Kc48)
                have f88 := (Exa.keep (Exa.keep (Exa.keep (Exa.keep (Exa.keep fc8_0 Kc12) Kc21) Kc30) Kc39) Kc48)
                have f89 := (Exa.keep (Exa.keep (Exa.keep (Exa.keep fc12_0 Kc21) Kc30) Kc39) Kc48)
                have f90 := (Exa.keep (Exa.keep (Exa.keep fc21_0 Kc30) Kc39) Kc48)
                have f91 := (Exa.keep (Exa.keep fc30_0 Kc39) Kc48)
                have f92 := (Exa.keep fc39_0 Kc48)
                obtain ⟨cq85, kq85, q85a, q85b, q85c⟩ := isOf hZ e84 f82
                obtain ⟨_, _, ⟨T85, L85, k85, n85⟩, -, X85, ⟨Lc85, hQ85, l85, y85, z85⟩, st85⟩ := X84.virtualBack hx (y := mq41) (z := mq41) hown (mvT hZ (hW hw 49 rfl)) (mvT hZ (hW hw 50 rfl)) (notFace_of_selects (args := #[]) (mvT hZ (hW hw 52 rfl))) (mvT hZ (hW hw 52 rfl)) (mvT hZ (hW hw 51 rfl)) (by decide) (backOf (W := 0) (rm86 l Z a0' hw [] b1 la_2 b_8 kb_8 x_8 x_12 x_21 x_30 x_39 x_48 wa wb wc wd we ka kc G1 T48.heap n0 O83 W f82 fr52 fc48_2 f86 fc48_4 fr53 f87 fr55 f88 f89 f90 f91 f92 fc48_0) hZ (hW hw 53 rfl) (hW hw 2 rfl) (by decide) (by decide)) q85a q85c (g := (mkF m 188 #[vi p0, vi p1, vj q2, .second, vi (p0 &&& (7 : Int32)), vr b1, vi 0, vi 0] [(.ref b1)])) rfl (by rw [hml]; rfl) (Steps.refl _) (argsL := []) (rest := []) (lenOf pd335 rfl) rfl (Nat.le_of_eq rfl) (hb hby at_188) (fun _ _ => ⟨rfl, e84, (by decide : 33 + 3 ≤ _), (by decide : 250 + 14 ≤ _)⟩)
                dsimp only [Pt.U, Pt.locs, Pt.cells, Pt.slots] at X85 l85 y85 z85 st85 hQ85
                subst l85 y85 z85
                obtain ⟨r_85, ar_85, kr_85, rfl, N85q, Kc85, fc85_0, fc85_1, fc85_2⟩ := hQ85
                have N85 := Fr.app N84 N85q
                refine gb (mkF m 191 #[vi p0, vi p1, vj q2, .second, vi (p0 &&& (7 : Int32)), vr b1, vi 0, vi 0] [(.ref r_85)]) (fun _ k => st85.trans k) ?_
                have O94 := (O83.keep Kc85 all0)
                obtain ⟨cq93, kq93, q93a, q93b, q93c⟩ := isOf hZ rfl fc85_0
                obtain ⟨_, _, ⟨T93, L93, k93, n93⟩, -, X93, ⟨Lc93, hQ93, l93, y93, z93⟩, st93⟩ := X85.interfaceBack hx (xi := mq9) (y := mq30) hown (mvT hZ (hW hw 83 rfl)) (mvT hZ (hW hw 84 rfl)) (mvT hZ (hW hw 85 rfl)) (mvT hZ (hW hw 86 rfl)) (mvT hZ (hW hw 87 rfl)) (mvT hZ (hW hw 88 rfl)) (mvT hZ (hW hw 89 rfl)) (mvT hZ (hW hw 90 rfl)) (by decide) (backOf (W := 0) (rm13 l Z a0' hw [] r_85 ar_85 kr_85 (6 : Int32) [(.ref x_8), (.ref x_12), (.ref x_21), (.ref x_30), (.ref x_39), (.ref x_48)] wa wb wc wd we ka kc G1 T85.heap n0 O94 W fc85_0 fc85_1 fc85_2) hZ (hW hw 92 rfl) (hW hw 91 rfl) (by decide) (by decide)) q93a q93b q93c (g := (mkF m 191 #[vi p0, vi p1, vj q2, .second, vi (p0 &&& (7 : Int32)), vr b1, vi 0, vi 0] [(.ref r_85)])) rfl (by rw [hml]; rfl) (Steps.refl _) (argsL := []) (rest := []) (lenOf pd100 rfl) rfl (Nat.le_of_eq rfl) (hb hby at_191) (fun _ _ => ⟨rfl, rfl, (by decide : 36 + 0 ≤ _), (by decide : 264 + 0 ≤ _)⟩)
                dsimp only [Pt.U, Pt.locs, Pt.cells, Pt.slots] at X93 l93 y93 z93 st93 hQ93
                subst l93 y93 z93
                obtain ⟨rfl, N93q, e93⟩ := hQ93
                have N93 := Fr.app N85 N93q
                refine gb (mkF m 196 #[vi p0, vi p1, vj q2, .second, vi (p0 &&& (7 : Int32)), vr b1, vi 0, vi 0] [(.int 6)]) (fun _ k => st93.trans k) ?_
                refine gb (mkF m 198 #[vi p0, vi p1, vj q2, .second, vi (p0 &&& (7 : Int32)), vr b1, vi 0, vi 0] [(.int (p0 &&& (7 : Int32))), (.int 6)]) (fun _ k => XS.iload X93.here hx rfl (hb hby at_196) rfl k) ?_
                refine gb (mkF m 201 #[vi p0, vi p1, vj q2, .second, vi (p0 &&& (7 : Int32)), vr b1, vi 0, vi 0] []) (fun _ k => XS.icmpNo X93.here hx rfl (hb hby at_198) rfl (teq ((nkk (a := (5 : Int32)) (b := (6 : Int32)) (k := (6 : Int32)) (mask7 p0) (by decide) (by decide) (Or.inr hc47) (Or.inr hc56))).symm).2 k) ?_
                refine gb (mkF m 202 #[vi p0, vi p1, vj q2, .second, vi (p0 &&& (7 : Int32)), vr b1, vi 0, vi 0] [(.int 1)]) (fun _ k => XS.iconst X93.here hx rfl (hb hby at_201) k) ?_
                refine gb (mkF m 206 #[vi p0, vi p1, vj q2, .second, vi (p0 &&& (7 : Int32)), vr b1, vi 0, vi 0] [(.int 1)]) (fun _ k => XS.goto X93.here hx rfl (pc0 := 202) (pc' := 206) rfl (hb hby at_202) (by decide) (by decide) k) ?_
                have sz95 := (Nat.le_trans (Nat.le_refl _) Kc85.1)
                exact Gl.outNW X93 hS (by rw [e93]; exact sz95) hx hk (t := .boolean) Bd.returns (by simp) (hb hby at_206) ⟨(congrArg (fun z => some (Value.int z)) (show nar .boolean (1 : Int32) = fn0 p0 p1 q2 wa wb wc wd we ka kc G1 by unfold fn0; rw [if_pos hc7, if_pos hc11, if_pos hc20, if_pos hc29, if_pos hc38, if_pos hc47, if_neg hc56]; try rfl)), N93⟩ (by decide) (by decide)
            · refine gb (mkF m 130 #[vi p0, vi p1, vj q2, .second, vi (p0 &&& (7 : Int32)), vr b1, vi 0, .unset] []) (fun _ k => XS.icmpYes X39.here hx rfl (pc0 := 114) (pc' := 130) rfl (hb hby at_114) rfl (flt hc47).2.2.2 (by decide) (by decide) k) ?_
              refine gb (mkF m 132 #[vi p0, vi p1, vj q2, .second, vi (p0 &&& (7 : Int32)), vr b1, vi 0, .unset] [(.int (p0 &&& (7 : Int32)))]) (fun _ k => XS.iload X39.here hx rfl (hb hby at_130) rfl k) ?_
              refine gb (mkF m 134 #[vi p0, vi p1, vj q2, .second, vi (p0 &&& (7 : Int32)), vr b1, vi 0, .unset] [(.int 6), (.int (p0 &&& (7 : Int32)))]) (fun _ k => XS.bipush X39.here hx rfl (hb hby at_132) k) ?_
              refine gb (mkF m 151 #[vi p0, vi p1, vj q2, .second, vi (p0 &&& (7 : Int32)), vr b1, vi 0, .unset] []) (fun _ k => XS.icmpYes X39.here hx rfl (pc0 := 134) (pc' := 151) rfl (hb hby at_134) rfl (flt (nl_mono hc47 (by decide))).2.2.2 (by decide) (by decide) k) ?_
              refine gb (mkF m 153 #[vi p0, vi p1, vj q2, .second, vi (p0 &&& (7 : Int32)), vr b1, vi 0, .unset] [(.ref b1)]) (fun _ k => XS.aload X39.here hx rfl (hb hby at_151) rfl rfl k) ?_
              have f97 := (Exa.keep f40 Kc39)
              have O98 := (O42.keep Kc39 (allS gb1 (allS fc2_7.1 (allS fc8_9.2.1 all0))))
              obtain ⟨cq96, kq96, q96a, q96b, q96c⟩ := isOf hZ rfl f97
              obtain ⟨_, _, ⟨T96, L96, k96, n96⟩, -, X96, ⟨Lc96, hQ96, l96, y96, z96⟩, st96⟩ := X39.virtualBack hx (y := mq26) (z := mq26) hown (mvT hZ (hW hw 37 rfl)) (mvT hZ (hW hw 38 rfl)) (notFace_of_selects (args := #[]) (mvT hZ (hW hw 40 rfl))) (mvT hZ (hW hw 40 rfl)) (mvT hZ (hW hw 39 rfl)) (by decide) (backOf (W := 0) (rm6 l Z a0' hw [] b1 (5 : Int32) wa wb wc wd we ka kc G1 T39.heap n0 O98 W f97 fr43 (by decide)) hZ (hW hw 41 rfl) (hW hw 2 rfl) (by decide) (by decide)) q96a q96c (g := (mkF m 153 #[vi p0, vi p1, vj q2, .second, vi (p0 &&& (7 : Int32)), vr b1, vi 0, .unset] [(.ref b1)])) rfl (by rw [hml]; rfl) (Steps.refl _) (argsL := []) (rest := []) (lenOf pd334 rfl) rfl (Nat.le_of_eq rfl) (hb hby at_153) (fun _ _ => ⟨rfl, rfl, (by decide : 28 + 0 ≤ _), (by decide : 211 + 0 ≤ _)⟩)
              dsimp only [Pt.U, Pt.locs, Pt.cells, Pt.slots] at X96 l96 y96 z96 st96 hQ96
              subst l96 y96 z96
              obtain ⟨rfl, N96q, e96⟩ := hQ96
              have N96 := Fr.app N39 N96q
              refine gb (mkF m 156 #[vi p0, vi p1, vj q2, .second, vi (p0 &&& (7 : Int32)), vr b1, vi 0, .unset] [(.int 0)]) (fun _ k => st96.trans k) ?_
              refine gb (mkF m 158 #[vi p0, vi p1, vj q2, .second, vi (p0 &&& (7 : Int32)), vr b1, vi 0, vi 0] []) (fun _ k => XS.istore X96.here hx rfl (hb hby at_156) rfl (l' := #[vi p0, vi p1, vj q2, .second, vi (p0 &&& (7 : Int32)), vr b1, vi 0, vi 0]) rfl k) ?_
              refine gb (mkF m 160 #[vi p0, vi p1, vj q2, .second, vi (p0 &&& (7 : Int32)), vr b1, vi 0, vi 0] [(.int 0)]) (fun _ k => XS.iload X96.here hx rfl (hb hby at_158) rfl k) ?_
              refine gb (mkF m 163 #[vi p0, vi p1, vj q2, .second, vi (p0 &&& (7 : Int32)), vr b1, vi 0, vi 0] []) (fun _ k => XS.ifNo X96.here hx rfl (hb hby at_160) rfl ((if0 _ _).trans (teq (by decide : (0 : Int32) = (0 : Int32))).2) k) ?_
              refine gb (mkF m 165 #[vi p0, vi p1, vj q2, .second, vi (p0 &&& (7 : Int32)), vr b1, vi 0, vi 0] [(.int 0)]) (fun _ k => XS.iload X96.here hx rfl (hb hby at_163) rfl k) ?_
              refine gb (mkF m 168 #[vi p0, vi p1, vj q2, .second, vi (p0 &&& (7 : Int32)), vr b1, vi 0, vi 0] []) (fun _ k => XS.ifNo X96.here hx rfl (hb hby at_165) rfl ((if0 _ _).trans (teq (by decide : (0 : Int32) = (0 : Int32))).2) k) ?_
              refine gb (mkF m 170 #[vi p0, vi p1, vj q2, .second, vi (p0 &&& (7 : Int32)), vr b1, vi 0, vi 0] [(.ref b1)]) (fun _ k => XS.aload X96.here hx rfl (hb hby at_168) rfl rfl k) ?_
              obtain ⟨cq99, kq99, q99a, q99b, q99c⟩ := isOf hZ e96 f97
              obtain ⟨_, _, ⟨T99, L99, k99, n99⟩, -, X99, ⟨Lc99, hQ99, l99, y99, z99⟩, st99⟩ := X96.virtualBack hx (y := mq27) (z := mq27) hown (mvT hZ (hW hw 44 rfl)) (mvT hZ (hW hw 45 rfl)) (notFace_of_selects (args := #[]) (mvT hZ (hW hw 47 rfl))) (mvT hZ (hW hw 47 rfl)) (mvT hZ (hW hw 46 rfl)) (by decide) (backOf (W := 0) (rm7s l Z a0' hw [] b1 (5 : Int32) wa wb wc wd we ka kc G1 T39.heap n0 O98 W f97 fr43 (by decide)) hZ (hW hw 48 rfl) (hW hw 2 rfl) (by decide) (by decide)) q99a q99c (g := (mkF m 170 #[vi p0, vi p1, vj q2, .second, vi (p0 &&& (7 : Int32)), vr b1, vi 0, vi 0] [(.ref b1)])) rfl (by rw [hml]; rfl) (Steps.refl _) (argsL := []) (rest := []) (lenOf pd334 rfl) rfl (Nat.le_of_eq rfl) (hb hby at_170) (fun _ _ => ⟨rfl, e96, (by decide : 28 + 0 ≤ _), (by decide : 211 + 0 ≤ _)⟩)
              dsimp only [Pt.U, Pt.locs, Pt.cells, Pt.slots] at X99 l99 y99 z99 st99 hQ99
              subst l99 y99 z99
              obtain ⟨rfl, N99q, e99⟩ := hQ99
              have N99 := Fr.app N96 N99q
              refine gb (mkF m 173 #[vi p0, vi p1, vj q2, .second, vi (p0 &&& (7 : Int32)), vr b1, vi 0, vi 0] [(.int 0)]) (fun _ k => st99.trans k) ?_
              refine gb (mkF m 175 #[vi p0, vi p1, vj q2, .second, vi (p0 &&& (7 : Int32)), vr b1, vi 0, vi 0] [(.int (p0 &&& (7 : Int32))), (.int 0)]) (fun _ k => XS.iload X99.here hx rfl (hb hby at_173) rfl k) ?_
              refine gb (mkF m 182 #[vi p0, vi p1, vj q2, .second, vi (p0 &&& (7 : Int32)), vr b1, vi 0, vi 0] [(.int 0)]) (fun _ k => XS.ifYes X99.here hx rfl (pc0 := 175) (pc' := 182) rfl (hb hby at_175) rfl ((if0 _ _).trans (feq (fun q => absurd (q.symm.trans (nkk (a := (4 : Int32)) (b := (5 : Int32)) (k := (5 : Int32)) (mask7 p0) (by decide) (by decide) (Or.inr hc38) (Or.inr hc47))) (by decide))).2) (by decide) (by decide) k) ?_
              refine gb (mkF m 183 #[vi p0, vi p1, vj q2, .second, vi (p0 &&& (7 : Int32)), vr b1, vi 0, vi 0] [(.int 0), (.int 0)]) (fun _ k => XS.iconst X99.here hx rfl (hb hby at_182) k) ?_
              refine gb (mkF m 186 #[vi p0, vi p1, vj q2, .second, vi (p0 &&& (7 : Int32)), vr b1, vi 0, vi 0] []) (fun _ k => XS.icmpNo X99.here hx rfl (hb hby at_183) rfl (teq (by decide : (0 : Int32) = (0 : Int32))).2 k) ?_
              refine gb (mkF m 188 #[vi p0, vi p1, vj q2, .second, vi (p0 &&& (7 : Int32)), vr b1, vi 0, vi 0] [(.ref b1)]) (fun _ k => XS.aload X99.here hx rfl (hb hby at_186) rfl rfl k) ?_
              have f101 := (Exa.keep f41 Kc39)
              have f102 := (Exa.keep (Exa.keep (Exa.keep (Exa.keep fc8_8 Kc12) Kc21) Kc30) Kc39)
              have f103 := (Exa.keep (Exa.keep (Exa.keep (Exa.keep fc8_0 Kc12) Kc21) Kc30) Kc39)
              have f104 := (Exa.keep (Exa.keep (Exa.keep fc12_0 Kc21) Kc30) Kc39)
              have f105 := (Exa.keep (Exa.keep fc21_0 Kc30) Kc39)
              have f106 := (Exa.keep fc30_0 Kc39)
              obtain ⟨cq100, kq100, q100a, q100b, q100c⟩ := isOf hZ e99 f97
              obtain ⟨_, _, ⟨T100, L100, k100, n100⟩, -, X100, ⟨Lc100, hQ100, l100, y100, z100⟩, st100⟩ := X99.virtualBack hx (y := mq41) (z := mq41) hown (mvT hZ (hW hw 49 rfl)) (mvT hZ (hW hw 50 rfl)) (notFace_of_selects (args := #[]) (mvT hZ (hW hw 52 rfl))) (mvT hZ (hW hw 52 rfl)) (mvT hZ (hW hw 51 rfl)) (by decide) (backOf (W := 0) (rm85 l Z a0' hw [] b1 la_2 b_8 kb_8 x_8 x_12 x_21 x_30 x_39 wa wb wc wd we ka kc G1 T39.heap n0 O98 W f97 fr43 fc39_2 f101 fc39_4 fr44 f102 fr46 f103 f104 f105 f106 fc39_0) hZ (hW hw 53 rfl) (hW hw 2 rfl) (by decide) (by decide)) q100a q100c (g := (mkF m 188 #[vi p0, vi p1, vj q2, .second, vi (p0 &&& (7 : Int32)), vr b1, vi 0, vi 0] [(.ref b1)])) rfl (by rw [hml]; rfl) (Steps.refl _) (argsL := []) (rest := []) (lenOf pd335 rfl) rfl (Nat.le_of_eq rfl) (hb hby at_188) (fun _ _ => ⟨rfl, e99, (by decide : 28 + 3 ≤ _), (by decide : 211 + 12 ≤ _)⟩)
              dsimp only [Pt.U, Pt.locs, Pt.cells, Pt.slots] at X100 l100 y100 z100 st100 hQ100
              subst l100 y100 z100
              obtain ⟨r_100, ar_100, kr_100, rfl, N100q, Kc100, fc100_0, fc100_1, fc100_2⟩ := hQ100
              have N100 := Fr.app N99 N100q
              refine gb (mkF m 191 #[vi p0, vi p1, vj q2, .second, vi (p0 &&& (7 : Int32)), vr b1, vi 0, vi 0] [(.ref r_100)]) (fun _ k => st100.trans k) ?_
              have O108 := (O98.keep Kc100 all0)
              obtain ⟨cq107, kq107, q107a, q107b, q107c⟩ := isOf hZ rfl fc100_0
              obtain ⟨_, _, ⟨T107, L107, k107, n107⟩, -, X107, ⟨Lc107, hQ107, l107, y107, z107⟩, st107⟩ := X100.interfaceBack hx (xi := mq9) (y := mq30) hown (mvT hZ (hW hw 83 rfl)) (mvT hZ (hW hw 84 rfl)) (mvT hZ (hW hw 85 rfl)) (mvT hZ (hW hw 86 rfl)) (mvT hZ (hW hw 87 rfl)) (mvT hZ (hW hw 88 rfl)) (mvT hZ (hW hw 89 rfl)) (mvT hZ (hW hw 90 rfl)) (by decide) (backOf (W := 0) (rm13 l Z a0' hw [] r_100 ar_100 kr_100 (5 : Int32) [(.ref x_8), (.ref x_12), (.ref x_21), (.ref x_30), (.ref x_39)] wa wb wc wd we ka kc G1 T100.heap n0 O108 W fc100_0 fc100_1 fc100_2) hZ (hW hw 92 rfl) (hW hw 91 rfl) (by decide) (by decide)) q107a q107b q107c (g := (mkF m 191 #[vi p0, vi p1, vj q2, .second, vi (p0 &&& (7 : Int32)), vr b1, vi 0, vi 0] [(.ref r_100)])) rfl (by rw [hml]; rfl) (Steps.refl _) (argsL := []) (rest := []) (lenOf pd100 rfl) rfl (Nat.le_of_eq rfl) (hb hby at_191) (fun _ _ => ⟨rfl, rfl, (by decide : 31 + 0 ≤ _), (by decide : 223 + 0 ≤ _)⟩)
              dsimp only [Pt.U, Pt.locs, Pt.cells, Pt.slots] at X107 l107 y107 z107 st107 hQ107
              subst l107 y107 z107
              obtain ⟨rfl, N107q, e107⟩ := hQ107
              have N107 := Fr.app N100 N107q
              refine gb (mkF m 196 #[vi p0, vi p1, vj q2, .second, vi (p0 &&& (7 : Int32)), vr b1, vi 0, vi 0] [(.int 5)]) (fun _ k => st107.trans k) ?_
              refine gb (mkF m 198 #[vi p0, vi p1, vj q2, .second, vi (p0 &&& (7 : Int32)), vr b1, vi 0, vi 0] [(.int (p0 &&& (7 : Int32))), (.int 5)]) (fun _ k => XS.iload X107.here hx rfl (hb hby at_196) rfl k) ?_
              refine gb (mkF m 201 #[vi p0, vi p1, vj q2, .second, vi (p0 &&& (7 : Int32)), vr b1, vi 0, vi 0] []) (fun _ k => XS.icmpNo X107.here hx rfl (hb hby at_198) rfl (teq ((nkk (a := (4 : Int32)) (b := (5 : Int32)) (k := (5 : Int32)) (mask7 p0) (by decide) (by decide) (Or.inr hc38) (Or.inr hc47))).symm).2 k) ?_
              refine gb (mkF m 202 #[vi p0, vi p1, vj q2, .second, vi (p0 &&& (7 : Int32)), vr b1, vi 0, vi 0] [(.int 1)]) (fun _ k => XS.iconst X107.here hx rfl (hb hby at_201) k) ?_
              refine gb (mkF m 206 #[vi p0, vi p1, vj q2, .second, vi (p0 &&& (7 : Int32)), vr b1, vi 0, vi 0] [(.int 1)]) (fun _ k => XS.goto X107.here hx rfl (pc0 := 202) (pc' := 206) rfl (hb hby at_202) (by decide) (by decide) k) ?_
              have sz109 := (Nat.le_trans (Nat.le_refl _) Kc100.1)
              exact Gl.outNW X107 hS (by rw [e107]; exact sz109) hx hk (t := .boolean) Bd.returns (by simp) (hb hby at_206) ⟨(congrArg (fun z => some (Value.int z)) (show nar .boolean (1 : Int32) = fn0 p0 p1 q2 wa wb wc wd we ka kc G1 by unfold fn0; rw [if_pos hc7, if_pos hc11, if_pos hc20, if_pos hc29, if_pos hc38, if_neg hc47]; try rfl)), N107⟩ (by decide) (by decide)
          · refine gb (mkF m 111 #[vi p0, vi p1, vj q2, .second, vi (p0 &&& (7 : Int32)), vr b1, vi 0, .unset] []) (fun _ k => XS.icmpYes X30.here hx rfl (pc0 := 95) (pc' := 111) rfl (hb hby at_95) rfl (flt hc38).2.2.2 (by decide) (by decide) k) ?_
            refine gb (mkF m 113 #[vi p0, vi p1, vj q2, .second, vi (p0 &&& (7 : Int32)), vr b1, vi 0, .unset] [(.int (p0 &&& (7 : Int32)))]) (fun _ k => XS.iload X30.here hx rfl (hb hby at_111) rfl k) ?_
            refine gb (mkF m 114 #[vi p0, vi p1, vj q2, .second, vi (p0 &&& (7 : Int32)), vr b1, vi 0, .unset] [(.int 5), (.int (p0 &&& (7 : Int32)))]) (fun _ k => XS.iconst X30.here hx rfl (hb hby at_113) k) ?_
            refine gb (mkF m 130 #[vi p0, vi p1, vj q2, .second, vi (p0 &&& (7 : Int32)), vr b1, vi 0, .unset] []) (fun _ k => XS.icmpYes X30.here hx rfl (pc0 := 114) (pc' := 130) rfl (hb hby at_114) rfl (flt (nl_mono hc38 (by decide))).2.2.2 (by decide) (by decide) k) ?_
            refine gb (mkF m 132 #[vi p0, vi p1, vj q2, .second, vi (p0 &&& (7 : Int32)), vr b1, vi 0, .unset] [(.int (p0 &&& (7 : Int32)))]) (fun _ k => XS.iload X30.here hx rfl (hb hby at_130) rfl k) ?_
            refine gb (mkF m 134 #[vi p0, vi p1, vj q2, .second, vi (p0 &&& (7 : Int32)), vr b1, vi 0, .unset] [(.int 6), (.int (p0 &&& (7 : Int32)))]) (fun _ k => XS.bipush X30.here hx rfl (hb hby at_132) k) ?_
            refine gb (mkF m 151 #[vi p0, vi p1, vj q2, .second, vi (p0 &&& (7 : Int32)), vr b1, vi 0, .unset] []) (fun _ k => XS.icmpYes X30.here hx rfl (pc0 := 134) (pc' := 151) rfl (hb hby at_134) rfl (flt (nl_mono hc38 (by decide))).2.2.2 (by decide) (by decide) k) ?_
            refine gb (mkF m 153 #[vi p0, vi p1, vj q2, .second, vi (p0 &&& (7 : Int32)), vr b1, vi 0, .unset] [(.ref b1)]) (fun _ k => XS.aload X30.here hx rfl (hb hby at_151) rfl rfl k) ?_
            have f111 := (Exa.keep f31 Kc30)
            have O112 := (O33.keep Kc30 (allS gb1 (allS fc2_7.1 (allS fc8_9.2.1 all0))))
            obtain ⟨cq110, kq110, q110a, q110b, q110c⟩ := isOf hZ rfl f111
            obtain ⟨_, _, ⟨T110, L110, k110, n110⟩, -, X110, ⟨Lc110, hQ110, l110, y110, z110⟩, st110⟩ := X30.virtualBack hx (y := mq26) (z := mq26) hown (mvT hZ (hW hw 37 rfl)) (mvT hZ (hW hw 38 rfl)) (notFace_of_selects (args := #[]) (mvT hZ (hW hw 40 rfl))) (mvT hZ (hW hw 40 rfl)) (mvT hZ (hW hw 39 rfl)) (by decide) (backOf (W := 0) (rm6 l Z a0' hw [] b1 (4 : Int32) wa wb wc wd we ka kc G1 T30.heap n0 O112 W f111 fr34 (by decide)) hZ (hW hw 41 rfl) (hW hw 2 rfl) (by decide) (by decide)) q110a q110c (g := (mkF m 153 #[vi p0, vi p1, vj q2, .second, vi (p0 &&& (7 : Int32)), vr b1, vi 0, .unset] [(.ref b1)])) rfl (by rw [hml]; rfl) (Steps.refl _) (argsL := []) (rest := []) (lenOf pd334 rfl) rfl (Nat.le_of_eq rfl) (hb hby at_153) (fun _ _ => ⟨rfl, rfl, (by decide : 23 + 0 ≤ _), (by decide : 172 + 0 ≤ _)⟩)
            dsimp only [Pt.U, Pt.locs, Pt.cells, Pt.slots] at X110 l110 y110 z110 st110 hQ110
            subst l110 y110 z110
            obtain ⟨rfl, N110q, e110⟩ := hQ110
            have N110 := Fr.app N30 N110q
            refine gb (mkF m 156 #[vi p0, vi p1, vj q2, .second, vi (p0 &&& (7 : Int32)), vr b1, vi 0, .unset] [(.int 0)]) (fun _ k => st110.trans k) ?_
            refine gb (mkF m 158 #[vi p0, vi p1, vj q2, .second, vi (p0 &&& (7 : Int32)), vr b1, vi 0, vi 0] []) (fun _ k => XS.istore X110.here hx rfl (hb hby at_156) rfl (l' := #[vi p0, vi p1, vj q2, .second, vi (p0 &&& (7 : Int32)), vr b1, vi 0, vi 0]) rfl k) ?_
            refine gb (mkF m 160 #[vi p0, vi p1, vj q2, .second, vi (p0 &&& (7 : Int32)), vr b1, vi 0, vi 0] [(.int 0)]) (fun _ k => XS.iload X110.here hx rfl (hb hby at_158) rfl k) ?_
            refine gb (mkF m 163 #[vi p0, vi p1, vj q2, .second, vi (p0 &&& (7 : Int32)), vr b1, vi 0, vi 0] []) (fun _ k => XS.ifNo X110.here hx rfl (hb hby at_160) rfl ((if0 _ _).trans (teq (by decide : (0 : Int32) = (0 : Int32))).2) k) ?_
            refine gb (mkF m 165 #[vi p0, vi p1, vj q2, .second, vi (p0 &&& (7 : Int32)), vr b1, vi 0, vi 0] [(.int 0)]) (fun _ k => XS.iload X110.here hx rfl (hb hby at_163) rfl k) ?_
            refine gb (mkF m 168 #[vi p0, vi p1, vj q2, .second, vi (p0 &&& (7 : Int32)), vr b1, vi 0, vi 0] []) (fun _ k => XS.ifNo X110.here hx rfl (hb hby at_165) rfl ((if0 _ _).trans (teq (by decide : (0 : Int32) = (0 : Int32))).2) k) ?_
            refine gb (mkF m 170 #[vi p0, vi p1, vj q2, .second, vi (p0 &&& (7 : Int32)), vr b1, vi 0, vi 0] [(.ref b1)]) (fun _ k => XS.aload X110.here hx rfl (hb hby at_168) rfl rfl k) ?_
            obtain ⟨cq113, kq113, q113a, q113b, q113c⟩ := isOf hZ e110 f111
            obtain ⟨_, _, ⟨T113, L113, k113, n113⟩, -, X113, ⟨Lc113, hQ113, l113, y113, z113⟩, st113⟩ := X110.virtualBack hx (y := mq27) (z := mq27) hown (mvT hZ (hW hw 44 rfl)) (mvT hZ (hW hw 45 rfl)) (notFace_of_selects (args := #[]) (mvT hZ (hW hw 47 rfl))) (mvT hZ (hW hw 47 rfl)) (mvT hZ (hW hw 46 rfl)) (by decide) (backOf (W := 0) (rm7s l Z a0' hw [] b1 (4 : Int32) wa wb wc wd we ka kc G1 T30.heap n0 O112 W f111 fr34 (by decide)) hZ (hW hw 48 rfl) (hW hw 2 rfl) (by decide) (by decide)) q113a q113c (g := (mkF m 170 #[vi p0, vi p1, vj q2, .second, vi (p0 &&& (7 : Int32)), vr b1, vi 0, vi 0] [(.ref b1)])) rfl (by rw [hml]; rfl) (Steps.refl _) (argsL := []) (rest := []) (lenOf pd334 rfl) rfl (Nat.le_of_eq rfl) (hb hby at_170) (fun _ _ => ⟨rfl, e110, (by decide : 23 + 0 ≤ _), (by decide : 172 + 0 ≤ _)⟩)
            dsimp only [Pt.U, Pt.locs, Pt.cells, Pt.slots] at X113 l113 y113 z113 st113 hQ113
            subst l113 y113 z113
            obtain ⟨rfl, N113q, e113⟩ := hQ113
            have N113 := Fr.app N110 N113q
            refine gb (mkF m 173 #[vi p0, vi p1, vj q2, .second, vi (p0 &&& (7 : Int32)), vr b1, vi 0, vi 0] [(.int 0)]) (fun _ k => st113.trans k) ?_
            refine gb (mkF m 175 #[vi p0, vi p1, vj q2, .second, vi (p0 &&& (7 : Int32)), vr b1, vi 0, vi 0] [(.int (p0 &&& (7 : Int32))), (.int 0)]) (fun _ k => XS.iload X113.here hx rfl (hb hby at_173) rfl k) ?_
            refine gb (mkF m 182 #[vi p0, vi p1, vj q2, .second, vi (p0 &&& (7 : Int32)), vr b1, vi 0, vi 0] [(.int 0)]) (fun _ k => XS.ifYes X113.here hx rfl (pc0 := 175) (pc' := 182) rfl (hb hby at_175) rfl ((if0 _ _).trans (feq (fun q => absurd (q.symm.trans (nkk (a := (3 : Int32)) (b := (4 : Int32)) (k := (4 : Int32)) (mask7 p0) (by decide) (by decide) (Or.inr hc29) (Or.inr hc38))) (by decide))).2) (by decide) (by decide) k) ?_
            refine gb (mkF m 183 #[vi p0, vi p1, vj q2, .second, vi (p0 &&& (7 : Int32)), vr b1, vi 0, vi 0] [(.int 0), (.int 0)]) (fun _ k => XS.iconst X113.here hx rfl (hb hby at_182) k) ?_
            refine gb (mkF m 186 #[vi p0, vi p1, vj q2, .second, vi (p0 &&& (7 : Int32)), vr b1, vi 0, vi 0] []) (fun _ k => XS.icmpNo X113.here hx rfl (hb hby at_183) rfl (teq (by decide : (0 : Int32) = (0 : Int32))).2 k) ?_
            refine gb (mkF m 188 #[vi p0, vi p1, vj q2, .second, vi (p0 &&& (7 : Int32)), vr b1, vi 0, vi 0] [(.ref b1)]) (fun _ k => XS.aload X113.here hx rfl (hb hby at_186) rfl rfl k) ?_
            have f115 := (Exa.keep f32 Kc30)
            have f116 := (Exa.keep (Exa.keep (Exa.keep fc8_8 Kc12) Kc21) Kc30)
            have f117 := (Exa.keep (Exa.keep (Exa.keep fc8_0 Kc12) Kc21) Kc30)
            have f118 := (Exa.keep (Exa.keep fc12_0 Kc21) Kc30)
            have f119 := (Exa.keep fc21_0 Kc30)
            obtain ⟨cq114, kq114, q114a, q114b, q114c⟩ := isOf hZ e113 f111
            obtain ⟨_, _, ⟨T114, L114, k114, n114⟩, -, X114, ⟨Lc114, hQ114, l114, y114, z114⟩, st114⟩ := X113.virtualBack hx (y := mq41) (z := mq41) hown (mvT hZ (hW hw 49 rfl)) (mvT hZ (hW hw 50 rfl)) (notFace_of_selects (args := #[]) (mvT hZ (hW hw 52 rfl))) (mvT hZ (hW hw 52 rfl)) (mvT hZ (hW hw 51 rfl)) (by decide) (backOf (W := 0) (rm84 l Z a0' hw [] b1 la_2 b_8 kb_8 x_8 x_12 x_21 x_30 wa wb wc wd we ka kc G1 T30.heap n0 O112 W f111 fr34 fc30_2 f115 fc30_4 fr35 f116 fr37 f117 f118 f119 fc30_0) hZ (hW hw 53 rfl) (hW hw 2 rfl) (by decide) (by decide)) q114a q114c (g := (mkF m 188 #[vi p0, vi p1, vj q2, .second, vi (p0 &&& (7 : Int32)), vr b1, vi 0, vi 0] [(.ref b1)])) rfl (by rw [hml]; rfl) (Steps.refl _) (argsL := []) (rest := []) (lenOf pd335 rfl) rfl (Nat.le_of_eq rfl) (hb hby at_188) (fun _ _ => ⟨rfl, e113, (by decide : 23 + 3 ≤ _), (by decide : 172 + 10 ≤ _)⟩)
            dsimp only [Pt.U, Pt.locs, Pt.cells, Pt.slots] at X114 l114 y114 z114 st114 hQ114
            subst l114 y114 z114
            obtain ⟨r_114, ar_114, kr_114, rfl, N114q, Kc114, fc114_0, fc114_1, fc114_2⟩ := hQ114
            have N114 := Fr.app N113 N114q
            refine gb (mkF m 191 #[vi p0, vi p1, vj q2, .second, vi (p0 &&& (7 : Int32)), vr b1, vi 0, vi 0] [(.ref r_114)]) (fun _ k => st114.trans k) ?_
            have O121 := (O112.keep Kc114 all0)
            obtain ⟨cq120, kq120, q120a, q120b, q120c⟩ := isOf hZ rfl fc114_0
            obtain ⟨_, _, ⟨T120, L120, k120, n120⟩, -, X120, ⟨Lc120, hQ120, l120, y120, z120⟩, st120⟩ := X114.interfaceBack hx (xi := mq9) (y := mq30) hown (mvT hZ (hW hw 83 rfl)) (mvT hZ (hW hw 84 rfl)) (mvT hZ (hW hw 85 rfl)) (mvT hZ (hW hw 86 rfl)) (mvT hZ (hW hw 87 rfl)) (mvT hZ (hW hw 88 rfl)) (mvT hZ (hW hw 89 rfl)) (mvT hZ (hW hw 90 rfl)) (by decide) (backOf (W := 0) (rm13 l Z a0' hw [] r_114 ar_114 kr_114 (4 : Int32) [(.ref x_8), (.ref x_12), (.ref x_21), (.ref x_30)] wa wb wc wd we ka kc G1 T114.heap n0 O121 W fc114_0 fc114_1 fc114_2) hZ (hW hw 92 rfl) (hW hw 91 rfl) (by decide) (by decide)) q120a q120b q120c (g := (mkF m 191 #[vi p0, vi p1, vj q2, .second, vi (p0 &&& (7 : Int32)), vr b1, vi 0, vi 0] [(.ref r_114)])) rfl (by rw [hml]; rfl) (Steps.refl _) (argsL := []) (rest := []) (lenOf pd100 rfl) rfl (Nat.le_of_eq rfl) (hb hby at_191) (fun _ _ => ⟨rfl, rfl, (by decide : 26 + 0 ≤ _), (by decide : 182 + 0 ≤ _)⟩)
            dsimp only [Pt.U, Pt.locs, Pt.cells, Pt.slots] at X120 l120 y120 z120 st120 hQ120
            subst l120 y120 z120
            obtain ⟨rfl, N120q, e120⟩ := hQ120
            have N120 := Fr.app N114 N120q
            refine gb (mkF m 196 #[vi p0, vi p1, vj q2, .second, vi (p0 &&& (7 : Int32)), vr b1, vi 0, vi 0] [(.int 4)]) (fun _ k => st120.trans k) ?_
            refine gb (mkF m 198 #[vi p0, vi p1, vj q2, .second, vi (p0 &&& (7 : Int32)), vr b1, vi 0, vi 0] [(.int (p0 &&& (7 : Int32))), (.int 4)]) (fun _ k => XS.iload X120.here hx rfl (hb hby at_196) rfl k) ?_
            refine gb (mkF m 201 #[vi p0, vi p1, vj q2, .second, vi (p0 &&& (7 : Int32)), vr b1, vi 0, vi 0] []) (fun _ k => XS.icmpNo X120.here hx rfl (hb hby at_198) rfl (teq ((nkk (a := (3 : Int32)) (b := (4 : Int32)) (k := (4 : Int32)) (mask7 p0) (by decide) (by decide) (Or.inr hc29) (Or.inr hc38))).symm).2 k) ?_
            refine gb (mkF m 202 #[vi p0, vi p1, vj q2, .second, vi (p0 &&& (7 : Int32)), vr b1, vi 0, vi 0] [(.int 1)]) (fun _ k => XS.iconst X120.here hx rfl (hb hby at_201) k) ?_
            refine gb (mkF m 206 #[vi p0, vi p1, vj q2, .second, vi (p0 &&& (7 : Int32)), vr b1, vi 0, vi 0] [(.int 1)]) (fun _ k => XS.goto X120.here hx rfl (pc0 := 202) (pc' := 206) rfl (hb hby at_202) (by decide) (by decide) k) ?_
            have sz122 := (Nat.le_trans (Nat.le_refl _) Kc114.1)
            exact Gl.outNW X120 hS (by rw [e120]; exact sz122) hx hk (t := .boolean) Bd.returns (by simp) (hb hby at_206) ⟨(congrArg (fun z => some (Value.int z)) (show nar .boolean (1 : Int32) = fn0 p0 p1 q2 wa wb wc wd we ka kc G1 by unfold fn0; rw [if_pos hc7, if_pos hc11, if_pos hc20, if_pos hc29, if_neg hc38]; try rfl)), N120⟩ (by decide) (by decide)
        · refine gb (mkF m 92 #[vi p0, vi p1, vj q2, .second, vi (p0 &&& (7 : Int32)), vr b1, vi 0, .unset] []) (fun _ k => XS.icmpYes X21.here hx rfl (pc0 := 76) (pc' := 92) rfl (hb hby at_76) rfl (flt hc29).2.2.2 (by decide) (by decide) k) ?_
          refine gb (mkF m 94 #[vi p0, vi p1, vj q2, .second, vi (p0 &&& (7 : Int32)), vr b1, vi 0, .unset] [(.int (p0 &&& (7 : Int32)))]) (fun _ k => XS.iload X21.here hx rfl (hb hby at_92) rfl k) ?_
          refine gb (mkF m 95 #[vi p0, vi p1, vj q2, .second, vi (p0 &&& (7 : Int32)), vr b1, vi 0, .unset] [(.int 4), (.int (p0 &&& (7 : Int32)))]) (fun _ k => XS.iconst X21.here hx rfl (hb hby at_94) k) ?_
          refine gb (mkF m 111 #[vi p0, vi p1, vj q2, .second, vi (p0 &&& (7 : Int32)), vr b1, vi 0, .unset] []) (fun _ k => XS.icmpYes X21.here hx rfl (pc0 := 95) (pc' := 111) rfl (hb hby at_95) rfl (flt (nl_mono hc29 (by decide))).2.2.2 (by decide) (by decide) k) ?_
          refine gb (mkF m 113 #[vi p0, vi p1, vj q2, .second, vi (p0 &&& (7 : Int32)), vr b1, vi 0, .unset] [(.int (p0 &&& (7 : Int32)))]) (fun _ k => XS.iload X21.here hx rfl (hb hby at_111) rfl k) ?_
          refine gb (mkF m 114 #[vi p0, vi p1, vj q2, .second, vi (p0 &&& (7 : Int32)), vr b1, vi 0, .unset] [(.int 5), (.int (p0 &&& (7 : Int32)))]) (fun _ k => XS.iconst X21.here hx rfl (hb hby at_113) k) ?_
          refine gb (mkF m 130 #[vi p0, vi p1, vj q2, .second, vi (p0 &&& (7 : Int32)), vr b1, vi 0, .unset] []) (fun _ k => XS.icmpYes X21.here hx rfl (pc0 := 114) (pc' := 130) rfl (hb hby at_114) rfl (flt (nl_mono hc29 (by decide))).2.2.2 (by decide) (by decide) k) ?_
          refine gb (mkF m 132 #[vi p0, vi p1, vj q2, .second, vi (p0 &&& (7 : Int32)), vr b1, vi 0, .unset] [(.int (p0 &&& (7 : Int32)))]) (fun _ k => XS.iload X21.here hx rfl (hb hby at_130) rfl k) ?_
          refine gb (mkF m 134 #[vi p0, vi p1, vj q2, .second, vi (p0 &&& (7 : Int32)), vr b1, vi 0, .unset] [(.int 6), (.int (p0 &&& (7 : Int32)))]) (fun _ k => XS.bipush X21.here hx rfl (hb hby at_132) k) ?_
          refine gb (mkF m 151 #[vi p0, vi p1, vj q2, .second, vi (p0 &&& (7 : Int32)), vr b1, vi 0, .unset] []) (fun _ k => XS.icmpYes X21.here hx rfl (pc0 := 134) (pc' := 151) rfl (hb hby at_134) rfl (flt (nl_mono hc29 (by decide))).2.2.2 (by decide) (by decide) k) ?_
          refine gb (mkF m 153 #[vi p0, vi p1, vj q2, .second, vi (p0 &&& (7 : Int32)), vr b1, vi 0, .unset] [(.ref b1)]) (fun _ k => XS.aload X21.here hx rfl (hb hby at_151) rfl rfl k) ?_
          have f124 := (Exa.keep f22 Kc21)
          have O125 := (O24.keep Kc21 (allS gb1 (allS fc2_7.1 (allS fc8_9.2.1 all0))))
          obtain ⟨cq123, kq123, q123a, q123b, q123c⟩ := isOf hZ rfl f124
          obtain ⟨_, _, ⟨T123, L123, k123, n123⟩, -, X123, ⟨Lc123, hQ123, l123, y123, z123⟩, st123⟩ := X21.virtualBack hx (y := mq26) (z := mq26) hown (mvT hZ (hW hw 37 rfl)) (mvT hZ (hW hw 38 rfl)) (notFace_of_selects (args := #[]) (mvT hZ (hW hw 40 rfl))) (mvT hZ (hW hw 40 rfl)) (mvT hZ (hW hw 39 rfl)) (by decide) (backOf (W := 0) (rm6 l Z a0' hw [] b1 (3 : Int32) wa wb wc wd we ka kc G1 T21.heap n0 O125 W f124 fr25 (by decide)) hZ (hW hw 41 rfl) (hW hw 2 rfl) (by decide) (by decide)) q123a q123c (g := (mkF m 153 #[vi p0, vi p1, vj q2, .second, vi (p0 &&& (7 : Int32)), vr b1, vi 0, .unset] [(.ref b1)])) rfl (by rw [hml]; rfl) (Steps.refl _) (argsL := []) (rest := []) (lenOf pd334 rfl) rfl (Nat.le_of_eq rfl) (hb hby at_153) (fun _ _ => ⟨rfl, rfl, (by decide : 18 + 0 ≤ _), (by decide : 133 + 0 ≤ _)⟩)
          dsimp only [Pt.U, Pt.locs, Pt.cells, Pt.slots] at X123 l123 y123 z123 st123 hQ123
          subst l123 y123 z123
          obtain ⟨rfl, N123q, e123⟩ := hQ123
          have N123 := Fr.app N21 N123q
          refine gb (mkF m 156 #[vi p0, vi p1, vj q2, .second, vi (p0 &&& (7 : Int32)), vr b1, vi 0, .unset] [(.int 0)]) (fun _ k => st123.trans k) ?_
          refine gb (mkF m 158 #[vi p0, vi p1, vj q2, .second, vi (p0 &&& (7 : Int32)), vr b1, vi 0, vi 0] []) (fun _ k => XS.istore X123.here hx rfl (hb hby at_156) rfl (l' := #[vi p0, vi p1, vj q2, .second, vi (p0 &&& (7 : Int32)), vr b1, vi 0, vi 0]) rfl k) ?_
          refine gb (mkF m 160 #[vi p0, vi p1, vj q2, .second, vi (p0 &&& (7 : Int32)), vr b1, vi 0, vi 0] [(.int 0)]) (fun _ k => XS.iload X123.here hx rfl (hb hby at_158) rfl k) ?_
          refine gb (mkF m 163 #[vi p0, vi p1, vj q2, .second, vi (p0 &&& (7 : Int32)), vr b1, vi 0, vi 0] []) (fun _ k => XS.ifNo X123.here hx rfl (hb hby at_160) rfl ((if0 _ _).trans (teq (by decide : (0 : Int32) = (0 : Int32))).2) k) ?_
          refine gb (mkF m 165 #[vi p0, vi p1, vj q2, .second, vi (p0 &&& (7 : Int32)), vr b1, vi 0, vi 0] [(.int 0)]) (fun _ k => XS.iload X123.here hx rfl (hb hby at_163) rfl k) ?_
          refine gb (mkF m 168 #[vi p0, vi p1, vj q2, .second, vi (p0 &&& (7 : Int32)), vr b1, vi 0, vi 0] []) (fun _ k => XS.ifNo X123.here hx rfl (hb hby at_165) rfl ((if0 _ _).trans (teq (by decide : (0 : Int32) = (0 : Int32))).2) k) ?_
          refine gb (mkF m 170 #[vi p0, vi p1, vj q2, .second, vi (p0 &&& (7 : Int32)), vr b1, vi 0, vi 0] [(.ref b1)]) (fun _ k => XS.aload X123.here hx rfl (hb hby at_168) rfl rfl k) ?_
          obtain ⟨cq126, kq126, q126a, q126b, q126c⟩ := isOf hZ e123 f124
          obtain ⟨_, _, ⟨T126, L126, k126, n126⟩, -, X126, ⟨Lc126, hQ126, l126, y126, z126⟩, st126⟩ := X123.virtualBack hx (y := mq27) (z := mq27) hown (mvT hZ (hW hw 44 rfl)) (mvT hZ (hW hw 45 rfl)) (notFace_of_selects (args := #[]) (mvT hZ (hW hw 47 rfl))) (mvT hZ (hW hw 47 rfl)) (mvT hZ (hW hw 46 rfl)) (by decide) (backOf (W := 0) (rm7s l Z a0' hw [] b1 (3 : Int32) wa wb wc wd we ka kc G1 T21.heap n0 O125 W f124 fr25 (by decide)) hZ (hW hw 48 rfl) (hW hw 2 rfl) (by decide) (by decide)) q126a q126c (g := (mkF m 170 #[vi p0, vi p1, vj q2, .second, vi (p0 &&& (7 : Int32)), vr b1, vi 0, vi 0] [(.ref b1)])) rfl (by rw [hml]; rfl) (Steps.refl _) (argsL := []) (rest := []) (lenOf pd334 rfl) rfl (Nat.le_of_eq rfl) (hb hby at_170) (fun _ _ => ⟨rfl, e123, (by decide : 18 + 0 ≤ _), (by decide : 133 + 0 ≤ _)⟩)
          dsimp only [Pt.U, Pt.locs, Pt.cells, Pt.slots] at X126 l126 y126 z126 st126 hQ126
          subst l126 y126 z126
          obtain ⟨rfl, N126q, e126⟩ := hQ126
          have N126 := Fr.app N123 N126q
          refine gb (mkF m 173 #[vi p0, vi p1, vj q2, .second, vi (p0 &&& (7 : Int32)), vr b1, vi 0, vi 0] [(.int 0)]) (fun _ k => st126.trans k) ?_
          refine gb (mkF m 175 #[vi p0, vi p1, vj q2, .second, vi (p0 &&& (7 : Int32)), vr b1, vi 0, vi 0] [(.int (p0 &&& (7 : Int32))), (.int 0)]) (fun _ k => XS.iload X126.here hx rfl (hb hby at_173) rfl k) ?_
          refine gb (mkF m 182 #[vi p0, vi p1, vj q2, .second, vi (p0 &&& (7 : Int32)), vr b1, vi 0, vi 0] [(.int 0)]) (fun _ k => XS.ifYes X126.here hx rfl (pc0 := 175) (pc' := 182) rfl (hb hby at_175) rfl ((if0 _ _).trans (feq (fun q => absurd (q.symm.trans (nkk (a := (2 : Int32)) (b := (3 : Int32)) (k := (3 : Int32)) (mask7 p0) (by decide) (by decide) (Or.inr hc20) (Or.inr hc29))) (by decide))).2) (by decide) (by decide) k) ?_
          refine gb (mkF m 183 #[vi p0, vi p1, vj q2, .second, vi (p0 &&& (7 : Int32)), vr b1, vi 0, vi 0] [(.int 0), (.int 0)]) (fun _ k => XS.iconst X126.here hx rfl (hb hby at_182) k) ?_
          refine gb (mkF m 186 #[vi p0, vi p1, vj q2, .second, vi (p0 &&& (7 : Int32)), vr b1, vi 0, vi 0] []) (fun _ k => XS.icmpNo X126.here hx rfl (hb hby at_183) rfl (teq (by decide : (0 : Int32) = (0 : Int32))).2 k) ?_
          refine gb (mkF m 188 #[vi p0, vi p1, vj q2, .second, vi (p0 &&& (7 : Int32)), vr b1, vi 0, vi 0] [(.ref b1)]) (fun _ k => XS.aload X126.here hx rfl (hb hby at_186) rfl rfl k) ?_
          have f128 := (Exa.keep f23 Kc21)
          have f129 := (Exa.keep (Exa.keep fc8_8 Kc12) Kc21)
          have f130 := (Exa.keep (Exa.keep fc8_0 Kc12) Kc21)
          have f131 := (Exa.keep fc12_0 Kc21)
          obtain ⟨cq127, kq127, q127a, q127b, q127c⟩ := isOf hZ e126 f124
          obtain ⟨_, _, ⟨T127, L127, k127, n127⟩, -, X127, ⟨Lc127, hQ127, l127, y127, z127⟩, st127⟩ := X126.virtualBack hx (y := mq41) (z := mq41) hown (mvT hZ (hW hw 49 rfl)) (mvT hZ (hW hw 50 rfl)) (notFace_of_selects (args := #[]) (mvT hZ (hW hw 52 rfl))) (mvT hZ (hW hw 52 rfl)) (mvT hZ (hW hw 51 rfl)) (by decide) (backOf (W := 0) (rm83 l Z a0' hw [] b1 la_2 b_8 kb_8 x_8 x_12 x_21 wa wb wc wd we ka kc G1 T21.heap n0 O125 W f124 fr25 fc21_2 f128 fc21_4 fr26 f129 fr28 f130 f131 fc21_0) hZ (hW hw 53 rfl) (hW hw 2 rfl) (by decide) (by decide)) q127a q127c (g := (mkF m 188 #[vi p0, vi p1, vj q2, .second, vi (p0 &&& (7 : Int32)), vr b1, vi 0, vi 0] [(.ref b1)])) rfl (by rw [hml]; rfl) (Steps.refl _) (argsL := []) (rest := []) (lenOf pd335 rfl) rfl (Nat.le_of_eq rfl) (hb hby at_188) (fun _ _ => ⟨rfl, e126, (by decide : 18 + 3 ≤ _), (by decide : 133 + 8 ≤ _)⟩)
          dsimp only [Pt.U, Pt.locs, Pt.cells, Pt.slots] at X127 l127 y127 z127 st127 hQ127
          subst l127 y127 z127
          obtain ⟨r_127, ar_127, kr_127, rfl, N127q, Kc127, fc127_0, fc127_1, fc127_2⟩ := hQ127
          have N127 := Fr.app N126 N127q
          refine gb (mkF m 191 #[vi p0, vi p1, vj q2, .second, vi (p0 &&& (7 : Int32)), vr b1, vi 0, vi 0] [(.ref r_127)]) (fun _ k => st127.trans k) ?_
          have O133 := (O125.keep Kc127 all0)
          obtain ⟨cq132, kq132, q132a, q132b, q132c⟩ := isOf hZ rfl fc127_0
          obtain ⟨_, _, ⟨T132, L132, k132, n132⟩, -, X132, ⟨Lc132, hQ132, l132, y132, z132⟩, st132⟩ := X127.interfaceBack hx (xi := mq9) (y := mq30) hown (mvT hZ (hW hw 83 rfl)) (mvT hZ (hW hw 84 rfl)) (mvT hZ (hW hw 85 rfl)) (mvT hZ (hW hw 86 rfl)) (mvT hZ (hW hw 87 rfl)) (mvT hZ (hW hw 88 rfl)) (mvT hZ (hW hw 89 rfl)) (mvT hZ (hW hw 90 rfl)) (by decide) (backOf (W := 0) (rm13 l Z a0' hw [] r_127 ar_127 kr_127 (3 : Int32) [(.ref x_8), (.ref x_12), (.ref x_21)] wa wb wc wd we ka kc G1 T127.heap n0 O133 W fc127_0 fc127_1 fc127_2) hZ (hW hw 92 rfl) (hW hw 91 rfl) (by decide) (by decide)) q132a q132b q132c (g := (mkF m 191 #[vi p0, vi p1, vj q2, .second, vi (p0 &&& (7 : Int32)), vr b1, vi 0, vi 0] [(.ref r_127)])) rfl (by rw [hml]; rfl) (Steps.refl _) (argsL := []) (rest := []) (lenOf pd100 rfl) rfl (Nat.le_of_eq rfl) (hb hby at_191) (fun _ _ => ⟨rfl, rfl, (by decide : 21 + 0 ≤ _), (by decide : 141 + 0 ≤ _)⟩)
          dsimp only [Pt.U, Pt.locs, Pt.cells, Pt.slots] at X132 l132 y132 z132 st132 hQ132
          subst l132 y132 z132
          obtain ⟨rfl, N132q, e132⟩ := hQ132
          have N132 := Fr.app N127 N132q
          refine gb (mkF m 196 #[vi p0, vi p1, vj q2, .second, vi (p0 &&& (7 : Int32)), vr b1, vi 0, vi 0] [(.int 3)]) (fun _ k => st132.trans k) ?_
          refine gb (mkF m 198 #[vi p0, vi p1, vj q2, .second, vi (p0 &&& (7 : Int32)), vr b1, vi 0, vi 0] [(.int (p0 &&& (7 : Int32))), (.int 3)]) (fun _ k => XS.iload X132.here hx rfl (hb hby at_196) rfl k) ?_
          refine gb (mkF m 201 #[vi p0, vi p1, vj q2, .second, vi (p0 &&& (7 : Int32)), vr b1, vi 0, vi 0] []) (fun _ k => XS.icmpNo X132.here hx rfl (hb hby at_198) rfl (teq ((nkk (a := (2 : Int32)) (b := (3 : Int32)) (k := (3 : Int32)) (mask7 p0) (by decide) (by decide) (Or.inr hc20) (Or.inr hc29))).symm).2 k) ?_
          refine gb (mkF m 202 #[vi p0, vi p1, vj q2, .second, vi (p0 &&& (7 : Int32)), vr b1, vi 0, vi 0] [(.int 1)]) (fun _ k => XS.iconst X132.here hx rfl (hb hby at_201) k) ?_
          refine gb (mkF m 206 #[vi p0, vi p1, vj q2, .second, vi (p0 &&& (7 : Int32)), vr b1, vi 0, vi 0] [(.int 1)]) (fun _ k => XS.goto X132.here hx rfl (pc0 := 202) (pc' := 206) rfl (hb hby at_202) (by decide) (by decide) k) ?_
          have sz134 := (Nat.le_trans (Nat.le_refl _) Kc127.1)
          exact Gl.outNW X132 hS (by rw [e132]; exact sz134) hx hk (t := .boolean) Bd.returns (by simp) (hb hby at_206) ⟨(congrArg (fun z => some (Value.int z)) (show nar .boolean (1 : Int32) = fn0 p0 p1 q2 wa wb wc wd we ka kc G1 by unfold fn0; rw [if_pos hc7, if_pos hc11, if_pos hc20, if_neg hc29]; try rfl)), N132⟩ (by decide) (by decide)
      · refine gb (mkF m 73 #[vi p0, vi p1, vj q2, .second, vi (p0 &&& (7 : Int32)), vr b1, vi 0, .unset] []) (fun _ k => XS.icmpYes X12.here hx rfl (pc0 := 57) (pc' := 73) rfl (hb hby at_57) rfl (flt hc20).2.2.2 (by decide) (by decide) k) ?_
        refine gb (mkF m 75 #[vi p0, vi p1, vj q2, .second, vi (p0 &&& (7 : Int32)), vr b1, vi 0, .unset] [(.int (p0 &&& (7 : Int32)))]) (fun _ k => XS.iload X12.here hx rfl (hb hby at_73) rfl k) ?_
        refine gb (mkF m 76 #[vi p0, vi p1, vj q2, .second, vi (p0 &&& (7 : Int32)), vr b1, vi 0, .unset] [(.int 3), (.int (p0 &&& (7 : Int32)))]) (fun _ k => XS.iconst X12.here hx rfl (hb hby at_75) k) ?_
        refine gb (mkF m 92 #[vi p0, vi p1, vj q2, .second, vi (p0 &&& (7 : Int32)), vr b1, vi 0, .unset] []) (fun _ k => XS.icmpYes X12.here hx rfl (pc0 := 76) (pc' := 92) rfl (hb hby at_76) rfl (flt (nl_mono hc20 (by decide))).2.2.2 (by decide) (by decide) k) ?_
        refine gb (mkF m 94 #[vi p0, vi p1, vj q2, .second, vi (p0 &&& (7 : Int32)), vr b1, vi 0, .unset] [(.int (p0 &&& (7 : Int32)))]) (fun _ k => XS.iload X12.here hx rfl (hb hby at_92) rfl k) ?_
        refine gb (mkF m 95 #[vi p0, vi p1, vj q2, .second, vi (p0 &&& (7 : Int32)), vr b1, vi 0, .unset] [(.int 4), (.int (p0 &&& (7 : Int32)))]) (fun _ k => XS.iconst X12.here hx rfl (hb hby at_94) k) ?_
        refine gb (mkF m 111 #[vi p0, vi p1, vj q2, .second, vi (p0 &&& (7 : Int32)), vr b1, vi 0, .unset] []) (fun _ k => XS.icmpYes X12.here hx rfl (pc0 := 95) (pc' := 111) rfl (hb hby at_95) rfl (flt (nl_mono hc20 (by decide))).2.2.2 (by decide) (by decide) k) ?_
        refine gb (mkF m 113 #[vi p0, vi p1, vj q2, .second, vi (p0 &&& (7 : Int32)), vr b1, vi 0, .unset] [(.int (p0 &&& (7 : Int32)))]) (fun _ k => XS.iload X12.here hx rfl (hb hby at_111) rfl k) ?_
        refine gb (mkF m 114 #[vi p0, vi p1, vj q2, .second, vi (p0 &&& (7 : Int32)), vr b1, vi 0, .unset] [(.int 5), (.int (p0 &&& (7 : Int32)))]) (fun _ k => XS.iconst X12.here hx rfl (hb hby at_113) k) ?_
        refine gb (mkF m 130 #[vi p0, vi p1, vj q2, .second, vi (p0 &&& (7 : Int32)), vr b1, vi 0, .unset] []) (fun _ k => XS.icmpYes X12.here hx rfl (pc0 := 114) (pc' := 130) rfl (hb hby at_114) rfl (flt (nl_mono hc20 (by decide))).2.2.2 (by decide) (by decide) k) ?_
        refine gb (mkF m 132 #[vi p0, vi p1, vj q2, .second, vi (p0 &&& (7 : Int32)), vr b1, vi 0, .unset] [(.int (p0 &&& (7 : Int32)))]) (fun _ k => XS.iload X12.here hx rfl (hb hby at_130) rfl k) ?_
        refine gb (mkF m 134 #[vi p0, vi p1, vj q2, .second, vi (p0 &&& (7 : Int32)), vr b1, vi 0, .unset] [(.int 6), (.int (p0 &&& (7 : Int32)))]) (fun _ k => XS.bipush X12.here hx rfl (hb hby at_132) k) ?_
        refine gb (mkF m 151 #[vi p0, vi p1, vj q2, .second, vi (p0 &&& (7 : Int32)), vr b1, vi 0, .unset] []) (fun _ k => XS.icmpYes X12.here hx rfl (pc0 := 134) (pc' := 151) rfl (hb hby at_134) rfl (flt (nl_mono hc20 (by decide))).2.2.2 (by decide) (by decide) k) ?_
        refine gb (mkF m 153 #[vi p0, vi p1, vj q2, .second, vi (p0 &&& (7 : Int32)), vr b1, vi 0, .unset] [(.ref b1)]) (fun _ k => XS.aload X12.here hx rfl (hb hby at_151) rfl rfl k) ?_
        have f136 := (Exa.keep f13 Kc12)
        have O137 := (O15.keep Kc12 (allS gb1 (allS fc2_7.1 (allS fc8_9.2.1 all0))))
        obtain ⟨cq135, kq135, q135a, q135b, q135c⟩ := isOf hZ rfl f136
        obtain ⟨_, _, ⟨T135, L135, k135, n135⟩, -, X135, ⟨Lc135, hQ135, l135, y135, z135⟩, st135⟩ := X12.virtualBack hx (y := mq26) (z := mq26) hown (mvT hZ (hW hw 37 rfl)) (mvT hZ (hW hw 38 rfl)) (notFace_of_selects (args := #[]) (mvT hZ (hW hw 40 rfl))) (mvT hZ (hW hw 40 rfl)) (mvT hZ (hW hw 39 rfl)) (by decide) (backOf (W := 0) (rm6 l Z a0' hw [] b1 (2 : Int32) wa wb wc wd we ka kc G1 T12.heap n0 O137 W f136 fr16 (by decide)) hZ (hW hw 41 rfl) (hW hw 2 rfl) (by decide) (by decide)) q135a q135c (g := (mkF m 153 #[vi p0, vi p1, vj q2, .second, vi (p0 &&& (7 : Int32)), vr b1, vi 0, .unset] [(.ref b1)])) rfl (by rw [hml]; rfl) (Steps.refl _) (argsL := []) (rest := []) (lenOf pd334 rfl) rfl (Nat.le_of_eq rfl) (hb hby at_153) (fun _ _ => ⟨rfl, rfl, (by decide : 13 + 0 ≤ _), (by decide : 94 + 0 ≤ _)⟩)
        dsimp only [Pt.U, Pt.locs, Pt.cells, Pt.slots] at X135 l135 y135 z135 st135 hQ135
        subst l135 y135 z135
        obtain ⟨rfl, N135q, e135⟩ := hQ135
        have N135 := Fr.app N12 N135q
        refine gb (mkF m 156 #[vi p0, vi p1, vj q2, .second, vi (p0 &&& (7 : Int32)), vr b1, vi 0, .unset] [(.int 0)]) (fun _ k => st135.trans k) ?_
        refine gb (mkF m 158 #[vi p0, vi p1, vj q2, .second, vi (p0 &&& (7 : Int32)), vr b1, vi 0, vi 0] []) (fun _ k => XS.istore X135.here hx rfl (hb hby at_156) rfl (l' := #[vi p0, vi p1, vj q2, .second, vi (p0 &&& (7 : Int32)), vr b1, vi 0, vi 0]) rfl k) ?_
        refine gb (mkF m 160 #[vi p0, vi p1, vj q2, .second, vi (p0 &&& (7 : Int32)), vr b1, vi 0, vi 0] [(.int 0)]) (fun _ k => XS.iload X135.here hx rfl (hb hby at_158) rfl k) ?_
        refine gb (mkF m 163 #[vi p0, vi p1, vj q2, .second, vi (p0 &&& (7 : Int32)), vr b1, vi 0, vi 0] []) (fun _ k => XS.ifNo X135.here hx rfl (hb hby at_160) rfl ((if0 _ _).trans (teq (by decide : (0 : Int32) = (0 : Int32))).2) k) ?_
        refine gb (mkF m 165 #[vi p0, vi p1, vj q2, .second, vi (p0 &&& (7 : Int32)), vr b1, vi 0, vi 0] [(.int 0)]) (fun _ k => XS.iload X135.here hx rfl (hb hby at_163) rfl k) ?_
        refine gb (mkF m 168 #[vi p0, vi p1, vj q2, .second, vi (p0 &&& (7 : Int32)), vr b1, vi 0, vi 0] []) (fun _ k => XS.ifNo X135.here hx rfl (hb hby at_165) rfl ((if0 _ _).trans (teq (by decide : (0 : Int32) = (0 : Int32))).2) k) ?_
        refine gb (mkF m 170 #[vi p0, vi p1, vj q2, .second, vi (p0 &&& (7 : Int32)), vr b1, vi 0, vi 0] [(.ref b1)]) (fun _ k => XS.aload X135.here hx rfl (hb hby at_168) rfl rfl k) ?_
        obtain ⟨cq138, kq138, q138a, q138b, q138c⟩ := isOf hZ e135 f136
        obtain ⟨_, _, ⟨T138, L138, k138, n138⟩, -, X138, ⟨Lc138, hQ138, l138, y138, z138⟩, st138⟩ := X135.virtualBack hx (y := mq27) (z := mq27) hown (mvT hZ (hW hw 44 rfl)) (mvT hZ (hW hw 45 rfl)) (notFace_of_selects (args := #[]) (mvT hZ (hW hw 47 rfl))) (mvT hZ (hW hw 47 rfl)) (mvT hZ (hW hw 46 rfl)) (by decide) (backOf (W := 0) (rm7s l Z a0' hw [] b1 (2 : Int32) wa wb wc wd we ka kc G1 T12.heap n0 O137 W f136 fr16 (by decide)) hZ (hW hw 48 rfl) (hW hw 2 rfl) (by decide) (by decide)) q138a q138c (g := (mkF m 170 #[vi p0, vi p1, vj q2, .second, vi (p0 &&& (7 : Int32)), vr b1, vi 0, vi 0] [(.ref b1)])) rfl (by rw [hml]; rfl) (Steps.refl _) (argsL := []) (rest := []) (lenOf pd334 rfl) rfl (Nat.le_of_eq rfl) (hb hby at_170) (fun _ _ => ⟨rfl, e135, (by decide : 13 + 0 ≤ _), (by decide : 94 + 0 ≤ _)⟩)
        dsimp only [Pt.U, Pt.locs, Pt.cells, Pt.slots] at X138 l138 y138 z138 st138 hQ138
        subst l138 y138 z138
        obtain ⟨rfl, N138q, e138⟩ := hQ138
        have N138 := Fr.app N135 N138q
        refine gb (mkF m 173 #[vi p0, vi p1, vj q2, .second, vi (p0 &&& (7 : Int32)), vr b1, vi 0, vi 0] [(.int 0)]) (fun _ k => st138.trans k) ?_
        refine gb (mkF m 175 #[vi p0, vi p1, vj q2, .second, vi (p0 &&& (7 : Int32)), vr b1, vi 0, vi 0] [(.int (p0 &&& (7 : Int32))), (.int 0)]) (fun _ k => XS.iload X138.here hx rfl (hb hby at_173) rfl k) ?_
        refine gb (mkF m 182 #[vi p0, vi p1, vj q2, .second, vi (p0 &&& (7 : Int32)), vr b1, vi 0, vi 0] [(.int 0)]) (fun _ k => XS.ifYes X138.here hx rfl (pc0 := 175) (pc' := 182) rfl (hb hby at_175) rfl ((if0 _ _).trans (feq (fun q => absurd (q.symm.trans (nkk (a := (1 : Int32)) (b := (2 : Int32)) (k := (2 : Int32)) (mask7 p0) (by decide) (by decide) (Or.inr hc11) (Or.inr hc20))) (by decide))).2) (by decide) (by decide) k) ?_
        refine gb (mkF m 183 #[vi p0, vi p1, vj q2, .second, vi (p0 &&& (7 : Int32)), vr b1, vi 0, vi 0] [(.int 0), (.int 0)]) (fun _ k => XS.iconst X138.here hx rfl (hb hby at_182) k) ?_
        refine gb (mkF m 186 #[vi p0, vi p1, vj q2, .second, vi (p0 &&& (7 : Int32)), vr b1, vi 0, vi 0] []) (fun _ k => XS.icmpNo X138.here hx rfl (hb hby at_183) rfl (teq (by decide : (0 : Int32) = (0 : Int32))).2 k) ?_
        refine gb (mkF m 188 #[vi p0, vi p1, vj q2, .second, vi (p0 &&& (7 : Int32)), vr b1, vi 0, vi 0] [(.ref b1)]) (fun _ k => XS.aload X138.here hx rfl (hb hby at_186) rfl rfl k) ?_
        have f140 := (Exa.keep f14 Kc12)
        have f141 := (Exa.keep fc8_8 Kc12)
        have f142 := (Exa.keep fc8_0 Kc12)
        obtain ⟨cq139, kq139, q139a, q139b, q139c⟩ := isOf hZ e138 f136
        obtain ⟨_, _, ⟨T139, L139, k139, n139⟩, -, X139, ⟨Lc139, hQ139, l139, y139, z139⟩, st139⟩ := X138.virtualBack hx (y := mq41) (z := mq41) hown (mvT hZ (hW hw 49 rfl)) (mvT hZ (hW hw 50 rfl)) (notFace_of_selects (args := #[]) (mvT hZ (hW hw 52 rfl))) (mvT hZ (hW hw 52 rfl)) (mvT hZ (hW hw 51 rfl)) (by decide) (backOf (W := 0) (rm82 l Z a0' hw [] b1 la_2 b_8 kb_8 x_8 x_12 wa wb wc wd we ka kc G1 T12.heap n0 O137 W f136 fr16 fc12_2 f140 fc12_4 fr17 f141 fr19 f142 fc12_0) hZ (hW hw 53 rfl) (hW hw 2 rfl) (by decide) (by decide)) q139a q139c (g := (mkF m 188 #[vi p0, vi p1, vj q2, .second, vi (p0 &&& (7 : Int32)), vr b1, vi 0, vi 0] [(.ref b1)])) rfl (by rw [hml]; rfl) (Steps.refl _) (argsL := []) (rest := []) (lenOf pd335 rfl) rfl (Nat.le_of_eq rfl) (hb hby at_188) (fun _ _ => ⟨rfl, e138, (by decide : 13 + 2 ≤ _), (by decide : 94 + 4 ≤ _)⟩)
        dsimp only [Pt.U, Pt.locs, Pt.cells, Pt.slots] at X139 l139 y139 z139 st139 hQ139
        subst l139 y139 z139
        obtain ⟨r_139, rfl, N139q, Kc139, fc139_0, fc139_1⟩ := hQ139
        have N139 := Fr.app N138 N139q
        refine gb (mkF m 191 #[vi p0, vi p1, vj q2, .second, vi (p0 &&& (7 : Int32)), vr b1, vi 0, vi 0] [(.ref r_139)]) (fun _ k => st139.trans k) ?_
        have O144 := (O137.keep Kc139 all0)
        obtain ⟨cq143, kq143, q143a, q143b, q143c⟩ := isOf hZ rfl fc139_0
        obtain ⟨_, _, ⟨T143, L143, k143, n143⟩, -, X143, ⟨Lc143, hQ143, l143, y143, z143⟩, st143⟩ := X139.interfaceBack hx (xi := mq9) (y := mq31) hown (mvT hZ (hW hw 83 rfl)) (mvT hZ (hW hw 84 rfl)) (mvT hZ (hW hw 85 rfl)) (mvT hZ (hW hw 274 rfl)) (mvT hZ (hW hw 275 rfl)) (mvT hZ (hW hw 276 rfl)) (mvT hZ (hW hw 277 rfl)) (mvT hZ (hW hw 278 rfl)) (by decide) (backOf (W := 0) (rm412 l Z a0' hw [] r_139 x_12 wa wb wc wd we ka kc G1 T139.heap n0 O144 W fc139_0 fc139_1 (Ne.symm (O144.ne W.2.2.2.2.2.2.2.1.lt fc12_8))) hZ (hW hw 279 rfl) (hW hw 260 rfl) (by decide) (by decide)) q143a q143b q143c (g := (mkF m 191 #[vi p0, vi p1, vj q2, .second, vi (p0 &&& (7 : Int32)), vr b1, vi 0, vi 0] [(.ref r_139)])) rfl (by rw [hml]; rfl) (Steps.refl _) (argsL := []) (rest := []) (lenOf pd100 rfl) rfl (Nat.le_of_eq rfl) (hb hby at_191) (fun _ _ => ⟨rfl, rfl, (by decide : 15 + 0 ≤ _), (by decide : 98 + 0 ≤ _)⟩)
        dsimp only [Pt.U, Pt.locs, Pt.cells, Pt.slots] at X143 l143 y143 z143 st143 hQ143
        subst l143 y143 z143
        obtain ⟨rfl, N143q, e143⟩ := hQ143
        have N143 := Fr.app N139 N143q
        refine gb (mkF m 196 #[vi p0, vi p1, vj q2, .second, vi (p0 &&& (7 : Int32)), vr b1, vi 0, vi 0] [(.int 2)]) (fun _ k => st143.trans k) ?_
        refine gb (mkF m 198 #[vi p0, vi p1, vj q2, .second, vi (p0 &&& (7 : Int32)), vr b1, vi 0, vi 0] [(.int (p0 &&& (7 : Int32))), (.int 2)]) (fun _ k => XS.iload X143.here hx rfl (hb hby at_196) rfl k) ?_
        refine gb (mkF m 201 #[vi p0, vi p1, vj q2, .second, vi (p0 &&& (7 : Int32)), vr b1, vi 0, vi 0] []) (fun _ k => XS.icmpNo X143.here hx rfl (hb hby at_198) rfl (teq ((nkk (a := (1 : Int32)) (b := (2 : Int32)) (k := (2 : Int32)) (mask7 p0) (by decide) (by decide) (Or.inr hc11) (Or.inr hc20))).symm).2 k) ?_
        refine gb (mkF m 202 #[vi p0, vi p1, vj q2, .second, vi (p0 &&& (7 : Int32)), vr b1, vi 0, vi 0] [(.int 1)]) (fun _ k => XS.iconst X143.here hx rfl (hb hby at_201) k) ?_
        refine gb (mkF m 206 #[vi p0, vi p1, vj q2, .second, vi (p0 &&& (7 : Int32)), vr b1, vi 0, vi 0] [(.int 1)]) (fun _ k => XS.goto X143.here hx rfl (pc0 := 202) (pc' := 206) rfl (hb hby at_202) (by decide) (by decide) k) ?_
        have sz145 := (Nat.le_trans (Nat.le_refl _) Kc139.1)
        exact Gl.outNW X143 hS (by rw [e143]; exact sz145) hx hk (t := .boolean) Bd.returns (by simp) (hb hby at_206) ⟨(congrArg (fun z => some (Value.int z)) (show nar .boolean (1 : Int32) = fn0 p0 p1 q2 wa wb wc wd we ka kc G1 by unfold fn0; rw [if_pos hc7, if_pos hc11, if_neg hc20]; try rfl)), N143⟩ (by decide) (by decide)
    · refine gb (mkF m 54 #[vi p0, vi p1, vj q2, .second, vi (p0 &&& (7 : Int32)), vr b1, vi 0, .unset] []) (fun _ k => XS.icmpYes X8.here hx rfl (pc0 := 38) (pc' := 54) rfl (hb hby at_38) rfl (flt hc11).2.2.2 (by decide) (by decide) k) ?_
      refine gb (mkF m 56 #[vi p0, vi p1, vj q2, .second, vi (p0 &&& (7 : Int32)), vr b1, vi 0, .unset] [(.int (p0 &&& (7 : Int32)))]) (fun _ k => XS.iload X8.here hx rfl (hb hby at_54) rfl k) ?_
      refine gb (mkF m 57 #[vi p0, vi p1, vj q2, .second, vi (p0 &&& (7 : Int32)), vr b1, vi 0, .unset] [(.int 2), (.int (p0 &&& (7 : Int32)))]) (fun _ k => XS.iconst X8.here hx rfl (hb hby at_56) k) ?_
      refine gb (mkF m 73 #[vi p0, vi p1, vj q2, .second, vi (p0 &&& (7 : Int32)), vr b1, vi 0, .unset] []) (fun _ k => XS.icmpYes X8.here hx rfl (pc0 := 57) (pc' := 73) rfl (hb hby at_57) rfl (flt (nl_mono hc11 (by decide))).2.2.2 (by decide) (by decide) k) ?_
      refine gb (mkF m 75 #[vi p0, vi p1, vj q2, .second, vi (p0 &&& (7 : Int32)), vr b1, vi 0, .unset] [(.int (p0 &&& (7 : Int32)))]) (fun _ k => XS.iload X8.here hx rfl (hb hby at_73) rfl k) ?_
      refine gb (mkF m 76 #[vi p0, vi p1, vj q2, .second, vi (p0 &&& (7 : Int32)), vr b1, vi 0, .unset] [(.int 3), (.int (p0 &&& (7 : Int32)))]) (fun _ k => XS.iconst X8.here hx rfl (hb hby at_75) k) ?_
      refine gb (mkF m 92 #[vi p0, vi p1, vj q2, .second, vi (p0 &&& (7 : Int32)), vr b1, vi 0, .unset] []) (fun _ k => XS.icmpYes X8.here hx rfl (pc0 := 76) (pc' := 92) rfl (hb hby at_76) rfl (flt (nl_mono hc11 (by decide))).2.2.2 (by decide) (by decide) k) ?_
      refine gb (mkF m 94 #[vi p0, vi p1, vj q2, .second, vi (p0 &&& (7 : Int32)), vr b1, vi 0, .unset] [(.int (p0 &&& (7 : Int32)))]) (fun _ k => XS.iload X8.here hx rfl (hb hby at_92) rfl k) ?_
      refine gb (mkF m 95 #[vi p0, vi p1, vj q2, .second, vi (p0 &&& (7 : Int32)), vr b1, vi 0, .unset] [(.int 4), (.int (p0 &&& (7 : Int32)))]) (fun _ k => XS.iconst X8.here hx rfl (hb hby at_94) k) ?_
      refine gb (mkF m 111 #[vi p0, vi p1, vj q2, .second, vi (p0 &&& (7 : Int32)), vr b1, vi 0, .unset] []) (fun _ k => XS.icmpYes X8.here hx rfl (pc0 := 95) (pc' := 111) rfl (hb hby at_95) rfl (flt (nl_mono hc11 (by decide))).2.2.2 (by decide) (by decide) k) ?_
      refine gb (mkF m 113 #[vi p0, vi p1, vj q2, .second, vi (p0 &&& (7 : Int32)), vr b1, vi 0, .unset] [(.int (p0 &&& (7 : Int32)))]) (fun _ k => XS.iload X8.here hx rfl (hb hby at_111) rfl k) ?_
      refine gb (mkF m 114 #[vi p0, vi p1, vj q2, .second, vi (p0 &&& (7 : Int32)), vr b1, vi 0, .unset] [(.int 5), (.int (p0 &&& (7 : Int32)))]) (fun _ k => XS.iconst X8.here hx rfl (hb hby at_113) k) ?_
      refine gb (mkF m 130 #[vi p0, vi p1, vj q2, .second, vi (p0 &&& (7 : Int32)), vr b1, vi 0, .unset] []) (fun _ k => XS.icmpYes X8.here hx rfl (pc0 := 114) (pc' := 130) rfl (hb hby at_114) rfl (flt (nl_mono hc11 (by decide))).2.2.2 (by decide) (by decide) k) ?_
      refine gb (mkF m 132 #[vi p0, vi p1, vj q2, .second, vi (p0 &&& (7 : Int32)), vr b1, vi 0, .unset] [(.int (p0 &&& (7 : Int32)))]) (fun _ k => XS.iload X8.here hx rfl (hb hby at_130) rfl k) ?_
      refine gb (mkF m 134 #[vi p0, vi p1, vj q2, .second, vi (p0 &&& (7 : Int32)), vr b1, vi 0, .unset] [(.int 6), (.int (p0 &&& (7 : Int32)))]) (fun _ k => XS.bipush X8.here hx rfl (hb hby at_132) k) ?_
      refine gb (mkF m 151 #[vi p0, vi p1, vj q2, .second, vi (p0 &&& (7 : Int32)), vr b1, vi 0, .unset] []) (fun _ k => XS.icmpYes X8.here hx rfl (pc0 := 134) (pc' := 151) rfl (hb hby at_134) rfl (flt (nl_mono hc11 (by decide))).2.2.2 (by decide) (by decide) k) ?_
      refine gb (mkF m 153 #[vi p0, vi p1, vj q2, .second, vi (p0 &&& (7 : Int32)), vr b1, vi 0, .unset] [(.ref b1)]) (fun _ k => XS.aload X8.here hx rfl (hb hby at_151) rfl rfl k) ?_
      have f147 := (Exa.keep f5 Kc8)
      have O148 := (O6.keep Kc8 (allS gb1 (allS fc2_7.1 all0)))
      obtain ⟨cq146, kq146, q146a, q146b, q146c⟩ := isOf hZ rfl f147
      obtain ⟨_, _, ⟨T146, L146, k146, n146⟩, -, X146, ⟨Lc146, hQ146, l146, y146, z146⟩, st146⟩ := X8.virtualBack hx (y := mq26) (z := mq26) hown (mvT hZ (hW hw 37 rfl)) (mvT hZ (hW hw 38 rfl)) (notFace_of_selects (args := #[]) (mvT hZ (hW hw 40 rfl))) (mvT hZ (hW hw 40 rfl)) (mvT hZ (hW hw 39 rfl)) (by decide) (backOf (W := 0) (rm6 l Z a0' hw [] b1 (1 : Int32) wa wb wc wd we ka kc G1 T8.heap n0 O148 W f147 fc8_1 (by decide)) hZ (hW hw 41 rfl) (hW hw 2 rfl) (by decide) (by decide)) q146a q146c (g := (mkF m 153 #[vi p0, vi p1, vj q2, .second, vi (p0 &&& (7 : Int32)), vr b1, vi 0, .unset] [(.ref b1)])) rfl (by rw [hml]; rfl) (Steps.refl _) (argsL := []) (rest := []) (lenOf pd334 rfl) rfl (Nat.le_of_eq rfl) (hb hby at_153) (fun _ _ => ⟨rfl, rfl, (by decide : 8 + 0 ≤ _), (by decide : 55 + 0 ≤ _)⟩)
      dsimp only [Pt.U, Pt.locs, Pt.cells, Pt.slots] at X146 l146 y146 z146 st146 hQ146
      subst l146 y146 z146
      obtain ⟨rfl, N146q, e146⟩ := hQ146
      have N146 := Fr.app N8 N146q
      refine gb (mkF m 156 #[vi p0, vi p1, vj q2, .second, vi (p0 &&& (7 : Int32)), vr b1, vi 0, .unset] [(.int 0)]) (fun _ k => st146.trans k) ?_
      refine gb (mkF m 158 #[vi p0, vi p1, vj q2, .second, vi (p0 &&& (7 : Int32)), vr b1, vi 0, vi 0] []) (fun _ k => XS.istore X146.here hx rfl (hb hby at_156) rfl (l' := #[vi p0, vi p1, vj q2, .second, vi (p0 &&& (7 : Int32)), vr b1, vi 0, vi 0]) rfl k) ?_
      refine gb (mkF m 160 #[vi p0, vi p1, vj q2, .second, vi (p0 &&& (7 : Int32)), vr b1, vi 0, vi 0] [(.int 0)]) (fun _ k => XS.iload X146.here hx rfl (hb hby at_158) rfl k) ?_
      refine gb (mkF m 163 #[vi p0, vi p1, vj q2, .second, vi (p0 &&& (7 : Int32)), vr b1, vi 0, vi 0] []) (fun _ k => XS.ifNo X146.here hx rfl (hb hby at_160) rfl ((if0 _ _).trans (teq (by decide : (0 : Int32) = (0 : Int32))).2) k) ?_
      refine gb (mkF m 165 #[vi p0, vi p1, vj q2, .second, vi (p0 &&& (7 : Int32)), vr b1, vi 0, vi 0] [(.int 0)]) (fun _ k => XS.iload X146.here hx rfl (hb hby at_163) rfl k) ?_
      refine gb (mkF m 168 #[vi p0, vi p1, vj q2, .second, vi (p0 &&& (7 : Int32)), vr b1, vi 0, vi 0] []) (fun _ k => XS.ifNo X146.here hx rfl (hb hby at_165) rfl ((if0 _ _).trans (teq (by decide : (0 : Int32) = (0 : Int32))).2) k) ?_
      refine gb (mkF m 170 #[vi p0, vi p1, vj q2, .second, vi (p0 &&& (7 : Int32)), vr b1, vi 0, vi 0] [(.ref b1)]) (fun _ k => XS.aload X146.here hx rfl (hb hby at_168) rfl rfl k) ?_
      obtain ⟨cq149, kq149, q149a, q149b, q149c⟩ := isOf hZ e146 f147
      obtain ⟨_, _, ⟨T149, L149, k149, n149⟩, -, X149, ⟨Lc149, hQ149, l149, y149, z149⟩, st149⟩ := X146.virtualBack hx (y := mq27) (z := mq27) hown (mvT hZ (hW hw 44 rfl)) (mvT hZ (hW hw 45 rfl)) (notFace_of_selects (args := #[]) (mvT hZ (hW hw 47 rfl))) (mvT hZ (hW hw 47 rfl)) (mvT hZ (hW hw 46 rfl)) (by decide) (backOf (W := 0) (rm7s l Z a0' hw [] b1 (1 : Int32) wa wb wc wd we ka kc G1 T8.heap n0 O148 W f147 fc8_1 (by decide)) hZ (hW hw 48 rfl) (hW hw 2 rfl) (by decide) (by decide)) q149a q149c (g := (mkF m 170 #[vi p0, vi p1, vj q2, .second, vi (p0 &&& (7 : Int32)), vr b1, vi 0, vi 0] [(.ref b1)])) rfl (by rw [hml]; rfl) (Steps.refl _) (argsL := []) (rest := []) (lenOf pd334 rfl) rfl (Nat.le_of_eq rfl) (hb hby at_170) (fun _ _ => ⟨rfl, e146, (by decide : 8 + 0 ≤ _), (by decide : 55 + 0 ≤ _)⟩)
      dsimp only [Pt.U, Pt.locs, Pt.cells, Pt.slots] at X149 l149 y149 z149 st149 hQ149
      subst l149 y149 z149
      obtain ⟨rfl, N149q, e149⟩ := hQ149
      have N149 := Fr.app N146 N149q
      refine gb (mkF m 173 #[vi p0, vi p1, vj q2, .second, vi (p0 &&& (7 : Int32)), vr b1, vi 0, vi 0] [(.int 0)]) (fun _ k => st149.trans k) ?_
      refine gb (mkF m 175 #[vi p0, vi p1, vj q2, .second, vi (p0 &&& (7 : Int32)), vr b1, vi 0, vi 0] [(.int (p0 &&& (7 : Int32))), (.int 0)]) (fun _ k => XS.iload X149.here hx rfl (hb hby at_173) rfl k) ?_
      refine gb (mkF m 182 #[vi p0, vi p1, vj q2, .second, vi (p0 &&& (7 : Int32)), vr b1, vi 0, vi 0] [(.int 0)]) (fun _ k => XS.ifYes X149.here hx rfl (pc0 := 175) (pc' := 182) rfl (hb hby at_175) rfl ((if0 _ _).trans (feq (fun q => absurd (q.symm.trans (nkk (a := (0 : Int32)) (b := (1 : Int32)) (k := (1 : Int32)) (mask7 p0) (by decide) (by decide) (Or.inr hc7) (Or.inr hc11))) (by decide))).2) (by decide) (by decide) k) ?_
      refine gb (mkF m 183 #[vi p0, vi p1, vj q2, .second, vi (p0 &&& (7 : Int32)), vr b1, vi 0, vi 0] [(.int 0), (.int 0)]) (fun _ k => XS.iconst X149.here hx rfl (hb hby at_182) k) ?_
      refine gb (mkF m 186 #[vi p0, vi p1, vj q2, .second, vi (p0 &&& (7 : Int32)), vr b1, vi 0, vi 0] []) (fun _ k => XS.icmpNo X149.here hx rfl (hb hby at_183) rfl (teq (by decide : (0 : Int32) = (0 : Int32))).2 k) ?_
      refine gb (mkF m 188 #[vi p0, vi p1, vj q2, .second, vi (p0 &&& (7 : Int32)), vr b1, vi 0, vi 0] [(.ref b1)]) (fun _ k => XS.aload X149.here hx rfl (hb hby at_186) rfl rfl k) ?_
      have f151 := (Exa.keep fc2_3 Kc8)
      obtain ⟨cq150, kq150, q150a, q150b, q150c⟩ := isOf hZ e149 f147
      obtain ⟨_, _, ⟨T150, L150, k150, n150⟩, -, X150, ⟨Lc150, hQ150, l150, y150, z150⟩, st150⟩ := X149.virtualBack hx (y := mq41) (z := mq41) hown (mvT hZ (hW hw 49 rfl)) (mvT hZ (hW hw 50 rfl)) (notFace_of_selects (args := #[]) (mvT hZ (hW hw 52 rfl))) (mvT hZ (hW hw 52 rfl)) (mvT hZ (hW hw 51 rfl)) (by decide) (backOf (W := 0) (rm81 l Z a0' hw [] b1 la_2 b_8 kb_8 x_8 wa wb wc wd we ka kc G1 T8.heap n0 O148 W f147 fc8_1 fc8_2 f151 fc8_4 fc8_5 fc8_8 fc8_7 fc8_0) hZ (hW hw 53 rfl) (hW hw 2 rfl) (by decide) (by decide)) q150a q150c (g := (mkF m 188 #[vi p0, vi p1, vj q2, .second, vi (p0 &&& (7 : Int32)), vr b1, vi 0, vi 0] [(.ref b1)])) rfl (by rw [hml]; rfl) (Steps.refl _) (argsL := []) (rest := []) (lenOf pd335 rfl) rfl (Nat.le_of_eq rfl) (hb hby at_188) (fun _ _ => ⟨rfl, e149, (by decide : 8 + 2 ≤ _), (by decide : 55 + 3 ≤ _)⟩)
      dsimp only [Pt.U, Pt.locs, Pt.cells, Pt.slots] at X150 l150 y150 z150 st150 hQ150
      subst l150 y150 z150
      obtain ⟨r_150, rfl, N150q, Kc150, fc150_0, fc150_1⟩ := hQ150
      have N150 := Fr.app N149 N150q
      refine gb (mkF m 191 #[vi p0, vi p1, vj q2, .second, vi (p0 &&& (7 : Int32)), vr b1, vi 0, vi 0] [(.ref r_150)]) (fun _ k => st150.trans k) ?_
      have O153 := (O148.keep Kc150 all0)
      obtain ⟨cq152, kq152, q152a, q152b, q152c⟩ := isOf hZ rfl fc150_0
      obtain ⟨_, _, ⟨T152, L152, k152, n152⟩, -, X152, ⟨Lc152, hQ152, l152, y152, z152⟩, st152⟩ := X150.interfaceBack hx (xi := mq9) (y := mq31) hown (mvT hZ (hW hw 83 rfl)) (mvT hZ (hW hw 84 rfl)) (mvT hZ (hW hw 85 rfl)) (mvT hZ (hW hw 274 rfl)) (mvT hZ (hW hw 275 rfl)) (mvT hZ (hW hw 276 rfl)) (mvT hZ (hW hw 277 rfl)) (mvT hZ (hW hw 278 rfl)) (by decide) (backOf (W := 0) (rm411 l Z a0' hw [] r_150 wa wb wc wd we ka kc G1 T150.heap n0 O153 W fc150_0 fc150_1) hZ (hW hw 279 rfl) (hW hw 260 rfl) (by decide) (by decide)) q152a q152b q152c (g := (mkF m 191 #[vi p0, vi p1, vj q2, .second, vi (p0 &&& (7 : Int32)), vr b1, vi 0, vi 0] [(.ref r_150)])) rfl (by rw [hml]; rfl) (Steps.refl _) (argsL := []) (rest := []) (lenOf pd100 rfl) rfl (Nat.le_of_eq rfl) (hb hby at_191) (fun _ _ => ⟨rfl, rfl, (by decide : 10 + 0 ≤ _), (by decide : 58 + 0 ≤ _)⟩)
      dsimp only [Pt.U, Pt.locs, Pt.cells, Pt.slots] at X152 l152 y152 z152 st152 hQ152
      subst l152 y152 z152
      obtain ⟨rfl, N152q, e152⟩ := hQ152
      have N152 := Fr.app N150 N152q
      refine gb (mkF m 196 #[vi p0, vi p1, vj q2, .second, vi (p0 &&& (7 : Int32)), vr b1, vi 0, vi 0] [(.int 1)]) (fun _ k => st152.trans k) ?_
      refine gb (mkF m 198 #[vi p0, vi p1, vj q2, .second, vi (p0 &&& (7 : Int32)), vr b1, vi 0, vi 0] [(.int (p0 &&& (7 : Int32))), (.int 1)]) (fun _ k => XS.iload X152.here hx rfl (hb hby at_196) rfl k) ?_
      refine gb (mkF m 201 #[vi p0, vi p1, vj q2, .second, vi (p0 &&& (7 : Int32)), vr b1, vi 0, vi 0] []) (fun _ k => XS.icmpNo X152.here hx rfl (hb hby at_198) rfl (teq ((nkk (a := (0 : Int32)) (b := (1 : Int32)) (k := (1 : Int32)) (mask7 p0) (by decide) (by decide) (Or.inr hc7) (Or.inr hc11))).symm).2 k) ?_
      refine gb (mkF m 202 #[vi p0, vi p1, vj q2, .second, vi (p0 &&& (7 : Int32)), vr b1, vi 0, vi 0] [(.int 1)]) (fun _ k => XS.iconst X152.here hx rfl (hb hby at_201) k) ?_
      refine gb (mkF m 206 #[vi p0, vi p1, vj q2, .second, vi (p0 &&& (7 : Int32)), vr b1, vi 0, vi 0] [(.int 1)]) (fun _ k => XS.goto X152.here hx rfl (pc0 := 202) (pc' := 206) rfl (hb hby at_202) (by decide) (by decide) k) ?_
      have sz154 := (Nat.le_trans (Nat.le_refl _) Kc150.1)
      exact Gl.outNW X152 hS (by rw [e152]; exact sz154) hx hk (t := .boolean) Bd.returns (by simp) (hb hby at_206) ⟨(congrArg (fun z => some (Value.int z)) (show nar .boolean (1 : Int32) = fn0 p0 p1 q2 wa wb wc wd we ka kc G1 by unfold fn0; rw [if_pos hc7, if_neg hc11]; try rfl)), N152⟩ (by decide) (by decide)
  · refine gb (mkF m 35 #[vi p0, vi p1, vj q2, .second, vi (p0 &&& (7 : Int32)), vr b1, vi 0, .unset] []) (fun _ k => XS.ifYes X4.here hx rfl (pc0 := 24) (pc' := 35) rfl (hb hby at_24) rfl ((if0 _ _).trans (flt hc7).2.2.2) (by decide) (by decide) k) ?_
    refine gb (mkF m 37 #[vi p0, vi p1, vj q2, .second, vi (p0 &&& (7 : Int32)), vr b1, vi 0, .unset] [(.int (p0 &&& (7 : Int32)))]) (fun _ k => XS.iload X4.here hx rfl (hb hby at_35) rfl k) ?_
    refine gb (mkF m 38 #[vi p0, vi p1, vj q2, .second, vi (p0 &&& (7 : Int32)), vr b1, vi 0, .unset] [(.int 1), (.int (p0 &&& (7 : Int32)))]) (fun _ k => XS.iconst X4.here hx rfl (hb hby at_37) k) ?_
    refine gb (mkF m 54 #[vi p0, vi p1, vj q2, .second, vi (p0 &&& (7 : Int32)), vr b1, vi 0, .unset] []) (fun _ k => XS.icmpYes X4.here hx rfl (pc0 := 38) (pc' := 54) rfl (hb hby at_38) rfl (flt (nl_mono hc7 (by decide))).2.2.2 (by decide) (by decide) k) ?_
    refine gb (mkF m 56 #[vi p0, vi p1, vj q2, .second, vi (p0 &&& (7 : Int32)), vr b1, vi 0, .unset] [(.int (p0 &&& (7 : Int32)))]) (fun _ k => XS.iload X4.here hx rfl (hb hby at_54) rfl k) ?_
    refine gb (mkF m 57 #[vi p0, vi p1, vj q2, .second, vi (p0 &&& (7 : Int32)), vr b1, vi 0, .unset] [(.int 2), (.int (p0 &&& (7 : Int32)))]) (fun _ k => XS.iconst X4.here hx rfl (hb hby at_56) k) ?_
    refine gb (mkF m 73 #[vi p0, vi p1, vj q2, .second, vi (p0 &&& (7 : Int32)), vr b1, vi 0, .unset] []) (fun _ k => XS.icmpYes X4.here hx rfl (pc0 := 57) (pc' := 73) rfl (hb hby at_57) rfl (flt (nl_mono hc7 (by decide))).2.2.2 (by decide) (by decide) k) ?_
    refine gb (mkF m 75 #[vi p0, vi p1, vj q2, .second, vi (p0 &&& (7 : Int32)), vr b1, vi 0, .unset] [(.int (p0 &&& (7 : Int32)))]) (fun _ k => XS.iload X4.here hx rfl (hb hby at_73) rfl k) ?_
    refine gb (mkF m 76 #[vi p0, vi p1, vj q2, .second, vi (p0 &&& (7 : Int32)), vr b1, vi 0, .unset] [(.int 3), (.int (p0 &&& (7 : Int32)))]) (fun _ k => XS.iconst X4.here hx rfl (hb hby at_75) k) ?_
    refine gb (mkF m 92 #[vi p0, vi p1, vj q2, .second, vi (p0 &&& (7 : Int32)), vr b1, vi 0, .unset] []) (fun _ k => XS.icmpYes X4.here hx rfl (pc0 := 76) (pc' := 92) rfl (hb hby at_76) rfl (flt (nl_mono hc7 (by decide))).2.2.2 (by decide) (by decide) k) ?_
    refine gb (mkF m 94 #[vi p0, vi p1, vj q2, .second, vi (p0 &&& (7 : Int32)), vr b1, vi 0, .unset] [(.int (p0 &&& (7 : Int32)))]) (fun _ k => XS.iload X4.here hx rfl (hb hby at_92) rfl k) ?_
    refine gb (mkF m 95 #[vi p0, vi p1, vj q2, .second, vi (p0 &&& (7 : Int32)), vr b1, vi 0, .unset] [(.int 4), (.int (p0 &&& (7 : Int32)))]) (fun _ k => XS.iconst X4.here hx rfl (hb hby at_94) k) ?_
    refine gb (mkF m 111 #[vi p0, vi p1, vj q2, .second, vi (p0 &&& (7 : Int32)), vr b1, vi 0, .unset] []) (fun _ k => XS.icmpYes X4.here hx rfl (pc0 := 95) (pc' := 111) rfl (hb hby at_95) rfl (flt (nl_mono hc7 (by decide))).2.2.2 (by decide) (by decide) k) ?_
    refine gb (mkF m 113 #[vi p0, vi p1, vj q2, .second, vi (p0 &&& (7 : Int32)), vr b1, vi 0, .unset] [(.int (p0 &&& (7 : Int32)))]) (fun _ k => XS.iload X4.here hx rfl (hb hby at_111) rfl k) ?_
    refine gb (mkF m 114 #[vi p0, vi p1, vj q2, .second, vi (p0 &&& (7 : Int32)), vr b1, vi 0, .unset] [(.int 5), (.int (p0 &&& (7 : Int32)))]) (fun _ k => XS.iconst X4.here hx rfl (hb hby at_113) k) ?_
    refine gb (mkF m 130 #[vi p0, vi p1, vj q2, .second, vi (p0 &&& (7 : Int32)), vr b1, vi 0, .unset] []) (fun _ k => XS.icmpYes X4.here hx rfl (pc0 := 114) (pc' := 130) rfl (hb hby at_114) rfl (flt (nl_mono hc7 (by decide))).2.2.2 (by decide) (by decide) k) ?_
    refine gb (mkF m 132 #[vi p0, vi p1, vj q2, .second, vi (p0 &&& (7 : Int32)), vr b1, vi 0, .unset] [(.int (p0 &&& (7 : Int32)))]) (fun _ k => XS.iload X4.here hx rfl (hb hby at_130) rfl k) ?_
    refine gb (mkF m 134 #[vi p0, vi p1, vj q2, .second, vi (p0 &&& (7 : Int32)), vr b1, vi 0, .unset] [(.int 6), (.int (p0 &&& (7 : Int32)))]) (fun _ k => XS.bipush X4.here hx rfl (hb hby at_132) k) ?_
    refine gb (mkF m 151 #[vi p0, vi p1, vj q2, .second, vi (p0 &&& (7 : Int32)), vr b1, vi 0, .unset] []) (fun _ k => XS.icmpYes X4.here hx rfl (pc0 := 134) (pc' := 151) rfl (hb hby at_134) rfl (flt (nl_mono hc7 (by decide))).2.2.2 (by decide) (by decide) k) ?_
    refine gb (mkF m 153 #[vi p0, vi p1, vj q2, .second, vi (p0 &&& (7 : Int32)), vr b1, vi 0, .unset] [(.ref b1)]) (fun _ k => XS.aload X4.here hx rfl (hb hby at_151) rfl rfl k) ?_
    obtain ⟨cq155, kq155, q155a, q155b, q155c⟩ := isOf hZ e4 f5
    obtain ⟨_, _, ⟨T155, L155, k155, n155⟩, -, X155, ⟨Lc155, hQ155, l155, y155, z155⟩, st155⟩ := X4.virtualBack hx (y := mq26) (z := mq26) hown (mvT hZ (hW hw 37 rfl)) (mvT hZ (hW hw 38 rfl)) (notFace_of_selects (args := #[]) (mvT hZ (hW hw 40 rfl))) (mvT hZ (hW hw 40 rfl)) (mvT hZ (hW hw 39 rfl)) (by decide) (backOf (W := 0) (rm6 l Z a0' hw [] b1 (0 : Int32) wa wb wc wd we ka kc G1 T2.heap n0 O6 W f5 fc2_0 (by decide)) hZ (hW hw 41 rfl) (hW hw 2 rfl) (by decide) (by decide)) q155a q155c (g := (mkF m 153 #[vi p0, vi p1, vj q2, .second, vi (p0 &&& (7 : Int32)), vr b1, vi 0, .unset] [(.ref b1)])) rfl (by rw [hml]; rfl) (Steps.refl _) (argsL := []) (rest := []) (lenOf pd334 rfl) rfl (Nat.le_of_eq rfl) (hb hby at_153) (fun _ _ => ⟨rfl, e4, (by decide : 2 + 0 ≤ _), (by decide : 6 + 0 ≤ _)⟩)
    dsimp only [Pt.U, Pt.locs, Pt.cells, Pt.slots] at X155 l155 y155 z155 st155 hQ155
    subst l155 y155 z155
    obtain ⟨rfl, N155q, e155⟩ := hQ155
    have N155 := Fr.app N4 N155q
    refine gb (mkF m 156 #[vi p0, vi p1, vj q2, .second, vi (p0 &&& (7 : Int32)), vr b1, vi 0, .unset] [(.int 0)]) (fun _ k => st155.trans k) ?_
    refine gb (mkF m 158 #[vi p0, vi p1, vj q2, .second, vi (p0 &&& (7 : Int32)), vr b1, vi 0, vi 0] []) (fun _ k => XS.istore X155.here hx rfl (hb hby at_156) rfl (l' := #[vi p0, vi p1, vj q2, .second, vi (p0 &&& (7 : Int32)), vr b1, vi 0, vi 0]) rfl k) ?_
    refine gb (mkF m 160 #[vi p0, vi p1, vj q2, .second, vi (p0 &&& (7 : Int32)), vr b1, vi 0, vi 0] [(.int 0)]) (fun _ k => XS.iload X155.here hx rfl (hb hby at_158) rfl k) ?_
    refine gb (mkF m 163 #[vi p0, vi p1, vj q2, .second, vi (p0 &&& (7 : Int32)), vr b1, vi 0, vi 0] []) (fun _ k => XS.ifNo X155.here hx rfl (hb hby at_160) rfl ((if0 _ _).trans (teq (by decide : (0 : Int32) = (0 : Int32))).2) k) ?_
    refine gb (mkF m 165 #[vi p0, vi p1, vj q2, .second, vi (p0 &&& (7 : Int32)), vr b1, vi 0, vi 0] [(.int 0)]) (fun _ k => XS.iload X155.here hx rfl (hb hby at_163) rfl k) ?_
    refine gb (mkF m 168 #[vi p0, vi p1, vj q2, .second, vi (p0 &&& (7 : Int32)), vr b1, vi 0, vi 0] []) (fun _ k => XS.ifNo X155.here hx rfl (hb hby at_165) rfl ((if0 _ _).trans (teq (by decide : (0 : Int32) = (0 : Int32))).2) k) ?_
    refine gb (mkF m 170 #[vi p0, vi p1, vj q2, .second, vi (p0 &&& (7 : Int32)), vr b1, vi 0, vi 0] [(.ref b1)]) (fun _ k => XS.aload X155.here hx rfl (hb hby at_168) rfl rfl k) ?_
    obtain ⟨cq156, kq156, q156a, q156b, q156c⟩ := isOf hZ e155 f5
    obtain ⟨_, _, ⟨T156, L156, k156, n156⟩, -, X156, ⟨Lc156, hQ156, l156, y156, z156⟩, st156⟩ := X155.virtualBack hx (y := mq27) (z := mq27) hown (mvT hZ (hW hw 44 rfl)) (mvT hZ (hW hw 45 rfl)) (notFace_of_selects (args := #[]) (mvT hZ (hW hw 47 rfl))) (mvT hZ (hW hw 47 rfl)) (mvT hZ (hW hw 46 rfl)) (by decide) (backOf (W := 0) (rm70 l Z a0' hw [] b1 wa wb wc wd we ka kc G1 T2.heap n0 O6 W f5 fc2_0) hZ (hW hw 48 rfl) (hW hw 2 rfl) (by decide) (by decide)) q156a q156c (g := (mkF m 170 #[vi p0, vi p1, vj q2, .second, vi (p0 &&& (7 : Int32)), vr b1, vi 0, vi 0] [(.ref b1)])) rfl (by rw [hml]; rfl) (Steps.refl _) (argsL := []) (rest := []) (lenOf pd334 rfl) rfl (Nat.le_of_eq rfl) (hb hby at_170) (fun _ _ => ⟨rfl, e155, (by decide : 2 + 0 ≤ _), (by decide : 6 + 0 ≤ _)⟩)
    dsimp only [Pt.U, Pt.locs, Pt.cells, Pt.slots] at X156 l156 y156 z156 st156 hQ156
    subst l156 y156 z156
    obtain ⟨rfl, N156q, e156⟩ := hQ156
    have N156 := Fr.app N155 N156q
    refine gb (mkF m 173 #[vi p0, vi p1, vj q2, .second, vi (p0 &&& (7 : Int32)), vr b1, vi 0, vi 0] [(.int 1)]) (fun _ k => st156.trans k) ?_
    refine gb (mkF m 175 #[vi p0, vi p1, vj q2, .second, vi (p0 &&& (7 : Int32)), vr b1, vi 0, vi 0] [(.int (p0 &&& (7 : Int32))), (.int 1)]) (fun _ k => XS.iload X156.here hx rfl (hb hby at_173) rfl k) ?_
    refine gb (mkF m 178 #[vi p0, vi p1, vj q2, .second, vi (p0 &&& (7 : Int32)), vr b1, vi 0, vi 0] [(.int 1)]) (fun _ k => XS.ifNo X156.here hx rfl (hb hby at_175) rfl ((if0 _ _).trans (teq (nkk (a := (-1 : Int32)) (b := (0 : Int32)) (k := (0 : Int32)) (mask7 p0) (by decide) (by decide) (Or.inl (by decide)) (Or.inr hc7))).2) k) ?_
    refine gb (mkF m 179 #[vi p0, vi p1, vj q2, .second, vi (p0 &&& (7 : Int32)), vr b1, vi 0, vi 0] [(.int 1), (.int 1)]) (fun _ k => XS.iconst X156.here hx rfl (hb hby at_178) k) ?_
    refine gb (mkF m 183 #[vi p0, vi p1, vj q2, .second, vi (p0 &&& (7 : Int32)), vr b1, vi 0, vi 0] [(.int 1), (.int 1)]) (fun _ k => XS.goto X156.here hx rfl (pc0 := 179) (pc' := 183) rfl (hb hby at_179) (by decide) (by decide) k) ?_
    refine gb (mkF m 186 #[vi p0, vi p1, vj q2, .second, vi (p0 &&& (7 : Int32)), vr b1, vi 0, vi 0] []) (fun _ k => XS.icmpNo X156.here hx rfl (hb hby at_183) rfl (teq (by decide : (1 : Int32) = (1 : Int32))).2 k) ?_
    refine gb (mkF m 188 #[vi p0, vi p1, vj q2, .second, vi (p0 &&& (7 : Int32)), vr b1, vi 0, vi 0] [(.ref b1)]) (fun _ k => XS.aload X156.here hx rfl (hb hby at_186) rfl rfl k) ?_
    obtain ⟨cq157, kq157, q157a, q157b, q157c⟩ := isOf hZ e156 f5
    obtain ⟨_, _, ⟨T157, L157, k157, n157⟩, -, X157, ⟨Lc157, hQ157, l157, y157, z157⟩, st157⟩ := X156.virtualBack hx (y := mq41) (z := mq41) hown (mvT hZ (hW hw 49 rfl)) (mvT hZ (hW hw 50 rfl)) (notFace_of_selects (args := #[]) (mvT hZ (hW hw 52 rfl))) (mvT hZ (hW hw 52 rfl)) (mvT hZ (hW hw 51 rfl)) (by decide) (backOf (W := 0) (rm80 l Z a0' hw [] b1 la_2 wa wb wc wd we ka kc G1 T2.heap n0 O6 W f5 fc2_0 fc2_1 fc2_3 fc2_6) hZ (hW hw 53 rfl) (hW hw 2 rfl) (by decide) (by decide)) q157a q157c (g := (mkF m 188 #[vi p0, vi p1, vj q2, .second, vi (p0 &&& (7 : Int32)), vr b1, vi 0, vi 0] [(.ref b1)])) rfl (by rw [hml]; rfl) (Steps.refl _) (argsL := []) (rest := []) (lenOf pd335 rfl) rfl (Nat.le_of_eq rfl) (hb hby at_188) (fun _ _ => ⟨rfl, e156, (by decide : 2 + 0 ≤ _), (by decide : 6 + 0 ≤ _)⟩)
    dsimp only [Pt.U, Pt.locs, Pt.cells, Pt.slots] at X157 l157 y157 z157 st157 hQ157
    subst l157 y157 z157
    obtain ⟨rfl, N157q, e157⟩ := hQ157
    have N157 := Fr.app N156 N157q
    refine gb (mkF m 191 #[vi p0, vi p1, vj q2, .second, vi (p0 &&& (7 : Int32)), vr b1, vi 0, vi 0] [(.ref wb)]) (fun _ k => st157.trans k) ?_
    obtain ⟨cq158, kq158, q158a, q158b, q158c⟩ := isOf hZ e157 (Exa.ext O6.2 W.2.2.2.1)
    obtain ⟨_, _, ⟨T158, L158, k158, n158⟩, -, X158, ⟨Lc158, hQ158, l158, y158, z158⟩, st158⟩ := X157.interfaceBack hx (xi := mq9) (y := mq30) hown (mvT hZ (hW hw 83 rfl)) (mvT hZ (hW hw 84 rfl)) (mvT hZ (hW hw 85 rfl)) (mvT hZ (hW hw 86 rfl)) (mvT hZ (hW hw 87 rfl)) (mvT hZ (hW hw 88 rfl)) (mvT hZ (hW hw 89 rfl)) (mvT hZ (hW hw 90 rfl)) (by decide) (backOf (W := 0) (rm13 l Z a0' hw [] wb wc kc (0 : Int32) [] wa wb wc wd we ka kc G1 T2.heap n0 O6 W (Exa.ext O6.2 W.2.2.2.1) (Fld.ext O6.2 W.2.2.2.2.1) (Arv.ext W.2.2.2.2.2.1 O6.2)) hZ (hW hw 92 rfl) (hW hw 91 rfl) (by decide) (by decide)) q158a q158b q158c (g := (mkF m 191 #[vi p0, vi p1, vj q2, .second, vi (p0 &&& (7 : Int32)), vr b1, vi 0, vi 0] [(.ref wb)])) rfl (by rw [hml]; rfl) (Steps.refl _) (argsL := []) (rest := []) (lenOf pd100 rfl) rfl (Nat.le_of_eq rfl) (hb hby at_191) (fun _ _ => ⟨rfl, e157, (by decide : 2 + 0 ≤ _), (by decide : 6 + 0 ≤ _)⟩)
    dsimp only [Pt.U, Pt.locs, Pt.cells, Pt.slots] at X158 l158 y158 z158 st158 hQ158
    subst l158 y158 z158
    obtain ⟨rfl, N158q, e158⟩ := hQ158
    have N158 := Fr.app N157 N158q
    refine gb (mkF m 196 #[vi p0, vi p1, vj q2, .second, vi (p0 &&& (7 : Int32)), vr b1, vi 0, vi 0] [(.int 0)]) (fun _ k => st158.trans k) ?_
    refine gb (mkF m 198 #[vi p0, vi p1, vj q2, .second, vi (p0 &&& (7 : Int32)), vr b1, vi 0, vi 0] [(.int (p0 &&& (7 : Int32))), (.int 0)]) (fun _ k => XS.iload X158.here hx rfl (hb hby at_196) rfl k) ?_
    refine gb (mkF m 201 #[vi p0, vi p1, vj q2, .second, vi (p0 &&& (7 : Int32)), vr b1, vi 0, vi 0] []) (fun _ k => XS.icmpNo X158.here hx rfl (hb hby at_198) rfl (teq ((nkk (a := (-1 : Int32)) (b := (0 : Int32)) (k := (0 : Int32)) (mask7 p0) (by decide) (by decide) (Or.inl (by decide)) (Or.inr hc7))).symm).2 k) ?_
    refine gb (mkF m 202 #[vi p0, vi p1, vj q2, .second, vi (p0 &&& (7 : Int32)), vr b1, vi 0, vi 0] [(.int 1)]) (fun _ k => XS.iconst X158.here hx rfl (hb hby at_201) k) ?_
    refine gb (mkF m 206 #[vi p0, vi p1, vj q2, .second, vi (p0 &&& (7 : Int32)), vr b1, vi 0, vi 0] [(.int 1)]) (fun _ k => XS.goto X158.here hx rfl (pc0 := 202) (pc' := 206) rfl (hb hby at_202) (by decide) (by decide) k) ?_
    have sz159 := (Nat.le_trans (Nat.le_trans (Nat.le_refl h0.size) E1.1) Kc2.1)
    exact Gl.outNW X158 hS (by rw [e158]; exact sz159) hx hk (t := .boolean) Bd.returns (by simp) (hb hby at_206) ⟨(congrArg (fun z => some (Value.int z)) (show nar .boolean (1 : Int32) = fn0 p0 p1 q2 wa wb wc wd we ka kc G1 by unfold fn0; rw [if_neg hc7]; try rfl)), N158⟩ (by decide) (by decide)
theorem plain (p0 p1 : Int32) (q2 : Int64) (wa wb wc wd we : Addr) (ka kc : ClassId) (G1 : Int32) : fn0 p0 p1 q2 wa wb wc wd we ka kc G1 = 1 := by
  unfold fn0; repeat' split
  all_goals rfl
theorem comes_1 {Post : Tables → Env → Array Value → State → Outcome → State → Prop} (hpost : ∀ tb e args s v u, (limb_1_1.after args s (.returned v) u = true ∧ limb_1_2.after args s (.returned v) u = true ∧ True) → FramedW s (.returned v) u (Jvm.fieldLocs frame_1_writes args s ++ Jvm.arrayLocs frame_1_arrays args s ++ Jvm.staticLocs frame_1_statics s) 72 2304 → Post tb e args s (.returned v) u) :
    ArmFor flags0 classFile x code maxLocals ret World_1 tables_1 room_1 Calls_1 rest_1 Pre_1 Post := by
  intro l hfl _ _ p e ha hc hk s m args below hf hA hF happ hP
  obtain ⟨hcalls, hrest, hpre⟩ := hP
  obtain ⟨-, -, -, hnamed, -, -, -, hat⟩ := (Spec.applies_iff hf).mp happ
  obtain ⟨hg, hn⟩ := and_e (Cond.before_iff.mp (show (Jvm.Cond.and given_1 narrow_1).before args s = true from hpre))
  obtain ⟨ga1, gb1⟩ := and_e hg
  obtain ⟨ga2, gb2⟩ := and_e gb1
  obtain ⟨ga3, gb3⟩ := and_e gb2
  obtain ⟨w0, w1, w2, rfl⟩ : ∃ w0 w1 w2 : Value, args = #[w0, w1, w2] := by
    have hs : args.size = 3 := by simpa [Cond.value, given_1] using ga1
    obtain ⟨L⟩ := args
    match L, hs with
    | [w0, w1, w2], _ => exact ⟨w0, w1, w2, rfl⟩
  have hw := fun d (hd : d ∈ tables_1) => atoms_spec (ws := Jvm.Cond.code x code maxLocals ret :: tables_1) hat d (List.mem_cons_of_mem _ hd)
  have hfit : Fit s := fun {y c} hc i hi => by
    obtain ⟨ha, rfl⟩ := Array.getElem?_eq_some_iff.mp hc
    have q := List.all_eq_true.mp ((Array.all_eq_true_iff_forall_mem.mp hF) _ (Array.getElem_mem ha)) i (List.mem_range.mpr hi)
    simpa [Array.getElem?_eq_getElem hi] using q
  obtain ⟨i0, ei0⟩ := is_v ga2
  obtain rfl : w0 = (.int i0) := Option.some.inj ei0
  obtain ⟨i1, ei1⟩ := is_v ga3
  obtain rfl : w1 = (.int i1) := Option.some.inj ei1
  obtain ⟨i2, ei2⟩ := isL_v gb3
  obtain rfl : w2 = (.long i2) := Option.some.inj ei2
  obtain ⟨hsets, hown0⟩ := atoms_of _ (rest_1_c_eq ▸ (show rest_1_c.before _ s = true from hrest))
  obtain ⟨wa, ev_dc⟩ := exa_v (Cond.before_iff.mp (hsets _ (List.mem_of_getElem? (i := 7) rfl)))
  have S_dc := Sta.start ev_dc (Or.inr ⟨(hW hw 11 rfl), (hsets _ (List.mem_of_getElem? (i := 2) rfl))⟩)
  obtain ⟨ka, V_dc⟩ := arv0 hfit ev_dc (Cond.before_iff.mp (hsets _ (List.mem_of_getElem? (i := 6) rfl))) (Cond.before_iff.mp (hsets _ (List.mem_of_getElem? (i := 8) rfl)))
  obtain ⟨wb, ev_el⟩ := exa_v (Cond.before_iff.mp (hsets _ (List.mem_of_getElem? (i := 11) rfl)))
  have S_el := Sta.start ev_el (Or.inl (hsets _ (List.mem_of_getElem? (i := 10) rfl)))
  have E_el := Exa.start ev_el (Cond.before_iff.mp (hsets _ (List.mem_of_getElem? (i := 11) rfl)))
  obtain ⟨wc, ev_ee⟩ := exa_v (Cond.before_iff.mp (hsets _ (List.mem_of_getElem? (i := 13) rfl)))
  have F_el := Fld.start ((fld_at ev_el).symm.trans ev_ee)
  obtain ⟨kc, V_ee⟩ := arv0 hfit ev_ee (Cond.before_iff.mp (hsets _ (List.mem_of_getElem? (i := 12) rfl))) (Cond.before_iff.mp (hsets _ (List.mem_of_getElem? (i := 14) rfl)))
  obtain ⟨wd, ev_em⟩ := exa_v (Cond.before_iff.mp (hsets _ (List.mem_of_getElem? (i := 27) rfl)))
  have S_em := Sta.start ev_em (Or.inl (hsets _ (List.mem_of_getElem? (i := 26) rfl)))
  have E_em := Exa.start ev_em (Cond.before_iff.mp (hsets _ (List.mem_of_getElem? (i := 27) rfl)))
  obtain ⟨⟨cm, km, we, hm1⟩, -⟩ := hcalls
  have M_mo : Mir s sO we := ⟨cm, km, hm1⟩
  obtain ⟨G1, ev_G1⟩ := is_v (Cond.before_iff.mp (hsets _ (List.mem_of_getElem? (i := 17) rfl)))
  have S_G1 := Sta.start ev_G1 (Or.inl (hsets _ (List.mem_of_getElem? (i := 16) rfl)))
  have n_G1 : ¬ G1 = (0 : Int32) := fun q => by
    have u := not_v (Cond.before_iff.mp (hsets _ (List.mem_of_getElem? (i := 18) rfl)))
    rw [eq_i ev_G1 (Term.int_eval 0) (by rw [q])] at u
    cases u
  have W : Wd s wa wb wc wd we ka kc G1 := ⟨S_dc, V_dc, S_el, E_el, F_el, V_ee, S_em, E_em, M_mo, S_G1, n_G1⟩
  have hpl : fn0 i0 i1 i2 wa wb wc wd we ka kc G1 = 1 := plain i0 i1 i2 wa wb wc wd we ka kc G1
  obtain ⟨n, o, h1, h2, h3, v, L, rfl, ⟨hv, N⟩, hq⟩ := rm0 l s _ hw tables_1 i0 i1 i2 wa wb wc wd we ka kc G1 s.heap s.heap.size (Old.start s) W p e ha hc hk s m _ below hf ((Spec.applies_iff_loose hf).mp happ).1 ⟨rfl, State.Warmed39.refl s, rfl⟩ trivial
  rw [hpl] at hv
  subst hv
  refine ⟨n, _, h1, h2, h3, hpost _ _ _ _ _ _ ⟨Cond.after_iff.mpr rfl, Cond.after_iff.mpr (eq_i res_at (Term.int_eval (1)) rfl), trivial⟩ ⟨hq.1, hq.2.1, hq.2.2.1, (hq.2.2.2.sift fun y hy => Or.inr (N y hy)).mono (by decide) (by decide)⟩⟩
theorem main_1_1 : Claimed_1_1 := comes_1 fun _ _ _ _ _ _ h hF => ⟨h.1, hF⟩
theorem main_1_2 : Claimed_1_2 := comes_1 fun _ _ _ _ _ _ h hF => ⟨h.2.1, hF⟩
end Jvm.Pilot.@@N@@
/-! WITNESS -/
namespace Jvm.Pilot.@@N@@
open Jvm Jvm.ClassFile Sem Op Lib Jvm.Free Jvm.Stand Jvm.Pilot.@@N@@.Jvm.D
/-! MADE BY PROGRAM (witnessworld.py) out of the Statement's table words and the real class files: 38 classes; the members and pool entries that the words name. The judged class is class 1, her method 2. -/
namespace start1
open Jvm.ClassFile
def u (s : String) : CpInfo := .utf8 (stringToUtf16 s)
/-- a pool by its gaps: so many unusable entries, then the entry; so many at the end -/
def gap : Nat → List CpInfo → List CpInfo
  | 0, r => r
  | n + 1, r => .unusable :: gap n r
def poolList (es : List (Nat × CpInfo)) (last : Nat) : List CpInfo := es.foldr (fun e r => gap e.1 (e.2 :: r)) (gap last [])
def pool (es : List (Nat × CpInfo)) (last : Nat) : Array CpInfo := ⟨poolList es last⟩
def fileOf (pool : Array CpInfo) (this : Nat) (attrs : Array Attribute := #[]) (ms : Array MethodInfo := #[]) (fl : Nat := 33) (sup : Nat := 0) (ifs : Array Nat := #[]) (fds : Array FieldInfo := #[]) : ClassFile where
  minorVersion := 0
  majorVersion := 65
  constantPool := pool
  accessFlags := fl
  thisClass := this
  superClass := sup
  interfaces := ifs
  fields := fds
  methods := ms
  attributes := attrs
def plain (name : String) (sup : Option ClassId) : Class where
  name := name
  kind := .ordinary
  loader := none
  accessFlags := 33
  super := sup
  interfaces := #[]
  cf := none
  fields := #[]
  methods := #[]
  instanceTypes := #[]
  staticTypes := #[]
  resolved := #[]
  callSites := []
  init := .initialized
  statics := none
  mirror := none

def pool0 : Array CpInfo := pool [(5, u "<init>"), (0, u "()V"), (1, .class_ 10), (1, u "java/lang/Object"), (0, u "getClass"), (0, u "()Ljava/lang/Class;")] 111

def k0c0 : Code := { maxStack := 0, maxLocals := 1, code := object_method_1_code, exceptionTable := #[], attributes := #[] }
def k0m0 : Method := { name := "<init>", desc := "()V", sig := { parameters := [], returnType := none }, accessFlags := 1, code := some k0c0 }
def k0m1 : Method := { name := "getClass", desc := "()Ljava/lang/Class;", sig := { parameters := [], returnType := some (.object "java/lang/Class") }, accessFlags := 273, code := none }
/-- java/lang/Object -/
def k0 : Class := { plain "java/lang/Object" none with
  accessFlags := 33
  interfaces := #[]
  cf := some (fileOf pool0 8 #[] #[{ accessFlags := 1, nameIndex := 5, descriptorIndex := 6, attributes := #[] }, { accessFlags := 273, nameIndex := 11, descriptorIndex := 12, attributes := #[] }] 33 0 #[] #[])
  fields := #[]
  methods := #[k0m0, k0m1]
  instanceTypes := #[]
  staticTypes := #[]
  resolved := Array.replicate 124 none
  statics := none }

def pool1 : Array CpInfo := pool [(2, .class_ 4), (0, .nameAndType 5 6), (0, u "java/lang/Object"), (0, u "<init>"), (0, u "()V"), (0, .methodref 8 9), (0, .class_ 10), (0, .nameAndType 11 12), (0, u "java/lang/String"), (0, u "valueOf"), (0, u "(C)Ljava/lang/String;"), (0, .string 14), (0, u "bad"), (0, .methodref 16 17), (0, .class_ 18), (0, .nameAndType 19 20), (0, u "com/example/talaria/talaria/model/Faults"), (0, u "incorrect"), (0, u "(Ljava/lang/String;Ljava/lang/String;)V"), (0, .methodref 16 22), (0, .nameAndType 23 24), (0, u "missing"), (0, u "(Ljava/lang/String;)V"), (0, .methodref 16 3), (0, .methodref 16 27), (0, .nameAndType 28 29), (0, u "full"), (0, u "()Z"), (0, .methodref 31 32), (0, .class_ 33), (0, .nameAndType 34 35), (0, u "com/example/talaria/talaria/model/FaultsFullPinLaw"), (0, u "put"), (0, u "(Lcom/example/talaria/talaria/model/Faults;II)V"), (0, .methodref 16 37), (0, .nameAndType 38 29), (0, u "isEmpty"), (0, .methodref 16 40), (0, .nameAndType 41 42), (0, u "params"), (0, u "()Ljava/util/List;"), (0, .interfaceMethodref 44 45), (0, .class_ 46), (0, .nameAndType 47 48), (0, u "java/util/List"), (0, u "size"), (0, u "()I"), (3, u "law"), (0, u "(IIJ)Z")] 2

def k1m0 : Method := { name := "<init>", desc := "()V", sig := { parameters := [], returnType := none }, accessFlags := 1, code := none }
def k1c1 : Code := { maxStack := 3, maxLocals := 4, code := method_2_code, exceptionTable := #[], attributes := #[] }
def k1m1 : Method := { name := "put", desc := "(Lcom/example/talaria/talaria/model/Faults;II)V", sig := { parameters := [(.object "com/example/talaria/talaria/model/Faults"), .int, .int], returnType := none }, accessFlags := 10, code := some k1c1 }
def k1c2 : Code := { maxStack := 5, maxLocals := 8, code := code, exceptionTable := #[], attributes := #[] }
def k1m2 : Method := { name := "law", desc := "(IIJ)Z", sig := { parameters := [.int, .int, .long], returnType := some .boolean }, accessFlags := 9, code := some k1c2 }
/-- com/example/talaria/talaria/model/FaultsFullPinLaw -/
def k1 : Class := { plain "com/example/talaria/talaria/model/FaultsFullPinLaw" (some 0) with
  accessFlags := 49
  interfaces := #[]
  cf := some (fileOf pool1 31 #[] #[{ accessFlags := 1, nameIndex := 5, descriptorIndex := 6, attributes := #[] }, { accessFlags := 10, nameIndex := 34, descriptorIndex := 35, attributes := #[] }, { accessFlags := 9, nameIndex := 52, descriptorIndex := 53, attributes := #[] }] 49 2 #[] #[])
  fields := #[]
  methods := #[k1m0, k1m1, k1m2]
  instanceTypes := #[]
  staticTypes := #[]
  resolved := Array.replicate 56 none
  statics := none }

def pool2 : Array CpInfo := pool [(1, .methodref 2 3), (0, .class_ 4), (0, .nameAndType 5 6), (0, u "java/lang/Object"), (0, u "<init>"), (0, u "()V"), (0, .class_ 8), (0, u "java/util/ArrayList"), (0, .methodref 7 3), (0, .fieldref 11 12), (0, .class_ 13), (0, .nameAndType 14 15), (0, u "com/example/talaria/talaria/model/Faults"), (0, u "params"), (0, u "Ljava/util/List;"), (0, .fieldref 11 17), (0, .nameAndType 18 19), (0, u "onlyMissing"), (0, u "Z"), (0, .class_ 21), (0, u "com/example/talaria/talaria/model/ProblemDetails$InvalidParam"), (0, .string 23), (0, u "missing"), (0, .methodref 20 25), (0, .nameAndType 5 26), (0, u "(Ljava/lang/String;Ljava/lang/String;)V"), (0, .methodref 11 28), (0, .nameAndType 29 30), (0, u "add"), (0, u "(Lcom/example/talaria/talaria/model/ProblemDetails$InvalidParam;)V"), (0, .fieldref 11 32), (0, .nameAndType 33 34), (0, u "found"), (0, u "I"), (0, .interfaceMethodref 36 37), (0, .class_ 38), (0, .nameAndType 39 40), (0, u "java/util/List"), (0, u "size"), (0, u "()I"), (0, .interfaceMethodref 36 42), (0, .nameAndType 29 43), (0, u "(Ljava/lang/Object;)Z"), (0, .interfaceMethodref 36 45), (0, .nameAndType 46 47), (0, u "copyOf"), (0, u "(Ljava/util/Collection;)Ljava/util/List;"), (0, u "LIMIT"), (6, u "(Ljava/lang/String;)V"), (0, u "incorrect"), (1, u "isEmpty"), (0, u "()Z"), (0, u "full"), (0, u "()Ljava/util/List;")] 7

def k2c0 : Code := { maxStack := 3, maxLocals := 1, code := prog_17_method_1_code, exceptionTable := #[], attributes := #[] }
def k2m0 : Method := { name := "<init>", desc := "()V", sig := { parameters := [], returnType := none }, accessFlags := 1, code := some k2c0 }
def k2c1 : Code := { maxStack := 5, maxLocals := 2, code := prog_17_method_2_code, exceptionTable := #[], attributes := #[] }
def k2m1 : Method := { name := "missing", desc := "(Ljava/lang/String;)V", sig := { parameters := [(.object "java/lang/String")], returnType := none }, accessFlags := 1, code := some k2c1 }
def k2c2 : Code := { maxStack := 5, maxLocals := 3, code := prog_17_method_3_code, exceptionTable := #[], attributes := #[] }
def k2m2 : Method := { name := "incorrect", desc := "(Ljava/lang/String;Ljava/lang/String;)V", sig := { parameters := [(.object "java/lang/String"), (.object "java/lang/String")], returnType := none }, accessFlags := 1, code := some k2c2 }
def k2c3 : Code := { maxStack := 3, maxLocals := 2, code := prog_17_method_4_code, exceptionTable := #[], attributes := #[] }
def k2m3 : Method := { name := "add", desc := "(Lcom/example/talaria/talaria/model/ProblemDetails$InvalidParam;)V", sig := { parameters := [(.object "com/example/talaria/talaria/model/ProblemDetails$InvalidParam")], returnType := none }, accessFlags := 2, code := some k2c3 }
def k2c4 : Code := { maxStack := 1, maxLocals := 1, code := prog_17_method_5_code, exceptionTable := #[], attributes := #[] }
def k2m4 : Method := { name := "isEmpty", desc := "()Z", sig := { parameters := [], returnType := some .boolean }, accessFlags := 1, code := some k2c4 }
def k2c5 : Code := { maxStack := 2, maxLocals := 1, code := prog_17_method_6_code, exceptionTable := #[], attributes := #[] }
def k2m5 : Method := { name := "full", desc := "()Z", sig := { parameters := [], returnType := some .boolean }, accessFlags := 1, code := some k2c5 }
def k2c6 : Code := { maxStack := 1, maxLocals := 1, code := prog_17_method_8_code, exceptionTable := #[], attributes := #[] }
def k2m6 : Method := { name := "params", desc := "()Ljava/util/List;", sig := { parameters := [], returnType := some (.object "java/util/List") }, accessFlags := 1, code := some k2c6 }
/-- com/example/talaria/talaria/model/Faults -/
def k2 : Class := { plain "com/example/talaria/talaria/model/Faults" (some 0) with
  accessFlags := 49
  interfaces := #[]
  cf := some (fileOf pool2 11 #[] #[{ accessFlags := 1, nameIndex := 5, descriptorIndex := 6, attributes := #[] }, { accessFlags := 1, nameIndex := 23, descriptorIndex := 55, attributes := #[] }, { accessFlags := 1, nameIndex := 56, descriptorIndex := 26, attributes := #[] }, { accessFlags := 2, nameIndex := 29, descriptorIndex := 30, attributes := #[] }, { accessFlags := 1, nameIndex := 58, descriptorIndex := 59, attributes := #[] }, { accessFlags := 1, nameIndex := 60, descriptorIndex := 59, attributes := #[] }, { accessFlags := 1, nameIndex := 14, descriptorIndex := 61, attributes := #[] }] 49 2 #[] #[{ accessFlags := 25, nameIndex := 48, descriptorIndex := 34, attributes := #[] }, { accessFlags := 18, nameIndex := 14, descriptorIndex := 15, attributes := #[] }, { accessFlags := 2, nameIndex := 33, descriptorIndex := 34, attributes := #[] }, { accessFlags := 2, nameIndex := 18, descriptorIndex := 19, attributes := #[] }])
  fields := #[{ name := "LIMIT", type := .int, accessFlags := 25, slot := 0, constantValue := 0 }, { name := "params", type := (.object "java/util/List"), accessFlags := 18, slot := 0, constantValue := 0 }, { name := "found", type := .int, accessFlags := 2, slot := 1, constantValue := 0 }, { name := "onlyMissing", type := .boolean, accessFlags := 2, slot := 2, constantValue := 0 }]
  methods := #[k2m0, k2m1, k2m2, k2m3, k2m4, k2m5, k2m6]
  instanceTypes := #[(.object "java/util/List"), .int, .boolean]
  staticTypes := #[.int]
  resolved := Array.replicate 69 none
  statics := none }

def pool3 : Array CpInfo := pool [(8, .class_ 10), (1, u "java/lang/Iterable"), (24, .class_ 36), (0, u "java/lang/Object")] 25

/-- java/lang/Iterable -/
def k3 : Class := { plain "java/lang/Iterable" (some 0) with
  accessFlags := 1537
  interfaces := #[]
  cf := some (fileOf pool3 8 #[] #[] 1537 35 #[] #[])
  fields := #[]
  methods := #[]
  instanceTypes := #[]
  staticTypes := #[]
  resolved := Array.replicate 62 none
  statics := none }

def pool4 : Array CpInfo := pool [(10, .class_ 12), (1, u "java/util/Collection"), (0, u "toArray"), (16, u "()Z"), (29, .class_ 61), (0, u "java/lang/Object"), (0, .class_ 63), (0, u "java/lang/Iterable"), (2, u "isEmpty"), (3, u "()[Ljava/lang/Object;")] 44

def k4m0 : Method := { name := "isEmpty", desc := "()Z", sig := { parameters := [], returnType := some .boolean }, accessFlags := 1025, code := none }
def k4m1 : Method := { name := "toArray", desc := "()[Ljava/lang/Object;", sig := { parameters := [], returnType := some (.array (.object "java/lang/Object")) }, accessFlags := 1025, code := none }
/-- java/util/Collection -/
def k4 : Class := { plain "java/util/Collection" (some 0) with
  accessFlags := 1537
  interfaces := #[3]
  cf := some (fileOf pool4 10 #[] #[{ accessFlags := 1025, nameIndex := 66, descriptorIndex := 30, attributes := #[] }, { accessFlags := 1025, nameIndex := 13, descriptorIndex := 70, attributes := #[] }] 1537 60 #[62] #[])
  fields := #[]
  methods := #[k4m0, k4m1]
  instanceTypes := #[]
  staticTypes := #[]
  resolved := Array.replicate 115 none
  statics := none }

def pool5 : Array CpInfo := pool [(1, .methodref 2 3), (0, .class_ 4), (0, .nameAndType 5 6), (0, u "java/lang/Object"), (0, u "<init>"), (0, u "()V"), (1, .class_ 10), (1, u "java/util/AbstractCollection"), (66, .class_ 78), (0, u "java/util/Collection")] 81

def k5c0 : Code := { maxStack := 1, maxLocals := 1, code := jdk_22_method_1_code, exceptionTable := #[], attributes := #[] }
def k5m0 : Method := { name := "<init>", desc := "()V", sig := { parameters := [], returnType := none }, accessFlags := 4, code := some k5c0 }
/-- java/util/AbstractCollection -/
def k5 : Class := { plain "java/util/AbstractCollection" (some 0) with
  accessFlags := 1057
  interfaces := #[4]
  cf := some (fileOf pool5 8 #[] #[{ accessFlags := 4, nameIndex := 5, descriptorIndex := 6, attributes := #[] }] 1057 2 #[77] #[])
  fields := #[]
  methods := #[k5m0]
  instanceTypes := #[]
  staticTypes := #[]
  resolved := Array.replicate 160 none
  statics := none }

def pool6 : Array CpInfo := pool [(8, .class_ 10), (1, u "java/util/SequencedCollection"), (15, .class_ 27), (0, u "java/lang/Object"), (0, .class_ 29), (0, u "java/util/Collection")] 27

/-- java/util/SequencedCollection -/
def k6 : Class := { plain "java/util/SequencedCollection" (some 0) with
  accessFlags := 1537
  interfaces := #[4]
  cf := some (fileOf pool6 8 #[] #[] 1537 26 #[28] #[])
  fields := #[]
  methods := #[]
  instanceTypes := #[]
  staticTypes := #[]
  resolved := Array.replicate 57 none
  statics := none }

def pool7 : Array CpInfo := pool [(8, .class_ 10), (1, u "java/util/List"), (20, u "(Ljava/lang/Object;)V"), (16, u "<init>"), (11, u "add"), (3, u "(Ljava/lang/Object;)Z"), (14, u "size"), (0, u "()I"), (7, u "of"), (1, .fieldref 91 92), (0, .class_ 93), (0, .nameAndType 94 95), (0, u "java/util/ImmutableCollections"), (0, u "EMPTY_LIST"), (0, u "Ljava/util/ImmutableCollections$ListN;"), (0, .class_ 97), (0, u "java/util/ImmutableCollections$List12"), (0, .methodref 96 99), (0, .nameAndType 48 31), (0, .methodref 96 101), (0, .nameAndType 48 102), (0, u "(Ljava/lang/Object;Ljava/lang/Object;)V"), (0, .class_ 104), (0, u "java/lang/Object"), (3, u "([Ljava/lang/Object;)Ljava/util/List;"), (0, .methodref 91 110), (0, .nameAndType 111 108), (0, u "listFromArray"), (0, .methodref 91 113), (0, .nameAndType 114 115), (0, u "listCopy"), (0, u "(Ljava/util/Collection;)Ljava/util/List;"), (3, u "()Ljava/util/List;"), (0, .class_ 121), (0, u "java/util/SequencedCollection"), (112, u "copyOf")] 16

def k7m0 : Method := { name := "size", desc := "()I", sig := { parameters := [], returnType := some .int }, accessFlags := 1025, code := none }
def k7m1 : Method := { name := "add", desc := "(Ljava/lang/Object;)Z", sig := { parameters := [(.object "java/lang/Object")], returnType := some .boolean }, accessFlags := 1025, code := none }
def k7c2 : Code := { maxStack := 1, maxLocals := 0, code := jdk_40_method_36_code, exceptionTable := #[], attributes := #[] }
def k7m2 : Method := { name := "of", desc := "()Ljava/util/List;", sig := { parameters := [], returnType := some (.object "java/util/List") }, accessFlags := 9, code := some k7c2 }
def k7c3 : Code := { maxStack := 5, maxLocals := 2, code := jdk_40_method_47_code, exceptionTable := #[], attributes := #[] }
def k7m3 : Method := { name := "of", desc := "([Ljava/lang/Object;)Ljava/util/List;", sig := { parameters := [(.array (.object "java/lang/Object"))], returnType := some (.object "java/util/List") }, accessFlags := 137, code := some k7c3 }
def k7c4 : Code := { maxStack := 1, maxLocals := 1, code := jdk_40_method_48_code, exceptionTable := #[], attributes := #[] }
def k7m4 : Method := { name := "copyOf", desc := "(Ljava/util/Collection;)Ljava/util/List;", sig := { parameters := [(.object "java/util/Collection")], returnType := some (.object "java/util/List") }, accessFlags := 9, code := some k7c4 }
/-- java/util/List -/
def k7 : Class := { plain "java/util/List" (some 0) with
  accessFlags := 1537
  interfaces := #[6]
  cf := some (fileOf pool7 8 #[] #[{ accessFlags := 1025, nameIndex := 79, descriptorIndex := 80, attributes := #[] }, { accessFlags := 1025, nameIndex := 60, descriptorIndex := 64, attributes := #[] }, { accessFlags := 9, nameIndex := 88, descriptorIndex := 119, attributes := #[] }, { accessFlags := 137, nameIndex := 88, descriptorIndex := 108, attributes := #[] }, { accessFlags := 9, nameIndex := 234, descriptorIndex := 115, attributes := #[] }] 1537 103 #[120] #[])
  fields := #[]
  methods := #[k7m0, k7m1, k7m2, k7m3, k7m4]
  instanceTypes := #[]
  staticTypes := #[]
  resolved := Array.replicate 251 none
  statics := none }

def pool8 : Array CpInfo := pool [(1, .methodref 2 3), (0, .class_ 4), (0, .nameAndType 5 6), (0, u "java/util/AbstractCollection"), (0, u "<init>"), (0, u "()V"), (0, .fieldref 8 9), (0, .class_ 10), (0, .nameAndType 11 12), (0, u "java/util/AbstractList"), (0, u "modCount"), (0, u "I"), (64, .class_ 78), (0, u "java/util/AbstractList$Itr"), (3, .class_ 83), (0, u "java/util/AbstractList$ListItr"), (9, .class_ 94), (0, u "java/util/AbstractList$RandomAccessSubList"), (3, .class_ 99), (0, u "java/util/AbstractList$SubList"), (33, .class_ 134), (0, u "java/util/List"), (73, .class_ 209), (0, u "java/util/AbstractList$SubList$1"), (0, .class_ 211), (0, u "java/util/AbstractList$RandomAccessSpliterator")] 6

def k8c0 : Code := { maxStack := 2, maxLocals := 1, code := jdk_39_method_1_code, exceptionTable := #[], attributes := #[] }
def k8m0 : Method := { name := "<init>", desc := "()V", sig := { parameters := [], returnType := none }, accessFlags := 4, code := some k8c0 }
/-- java/util/AbstractList -/
def k8 : Class := { plain "java/util/AbstractList" (some 5) with
  accessFlags := 1057
  interfaces := #[7]
  cf := some (fileOf pool8 8 #[.nestMembers #[93, 98, 208, 210, 82, 77]] #[{ accessFlags := 4, nameIndex := 5, descriptorIndex := 6, attributes := #[] }] 1057 2 #[133] #[{ accessFlags := 132, nameIndex := 11, descriptorIndex := 12, attributes := #[] }])
  fields := #[{ name := "modCount", type := .int, accessFlags := 132, slot := 0, constantValue := 0 }]
  methods := #[k8m0]
  instanceTypes := #[.int]
  staticTypes := #[]
  resolved := Array.replicate 218 none
  statics := none }

def pool9 : Array CpInfo := pool [(1, .class_ 2), (0, u "java/util/RandomAccess"), (0, .class_ 4), (0, u "java/lang/Object")] 2

/-- java/util/RandomAccess -/
def k9 : Class := { plain "java/util/RandomAccess" (some 0) with
  accessFlags := 1537
  interfaces := #[]
  cf := some (fileOf pool9 1 #[] #[] 1537 3 #[] #[])
  fields := #[]
  methods := #[]
  instanceTypes := #[]
  staticTypes := #[]
  resolved := Array.replicate 7 none
  statics := none }

def pool10 : Array CpInfo := pool [(1, .class_ 2), (0, u "java/lang/Cloneable"), (0, .class_ 4), (0, u "java/lang/Object")] 2

/-- java/lang/Cloneable -/
def k10 : Class := { plain "java/lang/Cloneable" (some 0) with
  accessFlags := 1537
  interfaces := #[]
  cf := some (fileOf pool10 1 #[] #[] 1537 3 #[] #[])
  fields := #[]
  methods := #[]
  instanceTypes := #[]
  staticTypes := #[]
  resolved := Array.replicate 7 none
  statics := none }

def pool11 : Array CpInfo := pool [(1, .class_ 2), (0, u "java/io/Serializable"), (0, .class_ 4), (0, u "java/lang/Object")] 2

/-- java/io/Serializable -/
def k11 : Class := { plain "java/io/Serializable" (some 0) with
  accessFlags := 1537
  interfaces := #[]
  cf := some (fileOf pool11 1 #[] #[] 1537 3 #[] #[])
  fields := #[]
  methods := #[]
  instanceTypes := #[]
  staticTypes := #[]
  resolved := Array.replicate 7 none
  statics := none }

def pool12 : Array CpInfo := pool [(1, .methodref 2 3), (0, .class_ 4), (0, .nameAndType 5 6), (0, u "java/util/AbstractList"), (0, u "<init>"), (0, u "()V"), (0, .class_ 8), (0, u "java/lang/Object"), (0, .fieldref 10 11), (0, .class_ 12), (0, .nameAndType 13 14), (0, u "java/util/ArrayList"), (0, u "elementData"), (0, u "[Ljava/lang/Object;"), (2, u "EMPTY_ELEMENTDATA"), (21, .fieldref 10 40), (0, .nameAndType 41 14), (0, u "DEFAULTCAPACITY_EMPTY_ELEMENTDATA"), (4, u "toArray"), (0, u "()[Ljava/lang/Object;"), (0, .fieldref 10 49), (0, .nameAndType 50 51), (0, u "size"), (0, u "I"), (6, .class_ 60), (1, u "java/util/Arrays"), (0, u "copyOf"), (1, .fieldref 10 64), (0, .nameAndType 65 51), (0, u "modCount"), (0, .methodref 58 67), (0, .nameAndType 61 68), (0, u "([Ljava/lang/Object;I)[Ljava/lang/Object;"), (0, .methodref 10 70), (0, .nameAndType 71 72), (0, u "grow"), (0, u "(I)[Ljava/lang/Object;"), (6, .methodref 80 81), (0, .class_ 82), (0, .nameAndType 83 84), (0, u "java/lang/Math"), (0, u "max"), (0, u "(II)I"), (11, u "(Ljava/lang/Object;)Z"), (32, .methodref 10 130), (0, .nameAndType 71 47), (0, .methodref 10 132), (0, .nameAndType 133 134), (0, u "add"), (0, u "(Ljava/lang/Object;[Ljava/lang/Object;I)V"), (13, .class_ 149), (0, u "java/util/List"), (23, u "()Z"), (12, u "()I"), (75, .class_ 263), (0, u "java/util/ArrayList$ListItr"), (3, .class_ 268), (0, u "java/util/ArrayList$Itr"), (7, .class_ 277), (0, u "java/util/ArrayList$SubList"), (12, .class_ 291), (0, u "java/util/ArrayList$ArrayListSpliterator"), (37, .class_ 330), (0, u "java/util/RandomAccess"), (0, .class_ 332), (0, u "java/lang/Cloneable"), (0, .class_ 334), (0, u "java/io/Serializable"), (0, u "serialVersionUID"), (0, u "J"), (3, u "DEFAULT_CAPACITY"), (22, u "isEmpty"), (136, .class_ 501), (0, u "java/util/ArrayList$SubList$2"), (0, .class_ 503), (0, u "java/util/ArrayList$SubList$1")] 5

def k12c0 : Code := { maxStack := 2, maxLocals := 1, code := jdk_38_method_2_code, exceptionTable := #[], attributes := #[] }
def k12m0 : Method := { name := "<init>", desc := "()V", sig := { parameters := [], returnType := none }, accessFlags := 1, code := some k12c0 }
def k12c1 : Code := { maxStack := 4, maxLocals := 4, code := jdk_38_method_6_code, exceptionTable := #[], attributes := #[] }
def k12m1 : Method := { name := "grow", desc := "(I)[Ljava/lang/Object;", sig := { parameters := [.int], returnType := some (.array (.object "java/lang/Object")) }, accessFlags := 2, code := some k12c1 }
def k12c2 : Code := { maxStack := 3, maxLocals := 1, code := jdk_38_method_7_code, exceptionTable := #[], attributes := #[] }
def k12m2 : Method := { name := "grow", desc := "()[Ljava/lang/Object;", sig := { parameters := [], returnType := some (.array (.object "java/lang/Object")) }, accessFlags := 2, code := some k12c2 }
def k12c3 : Code := { maxStack := 1, maxLocals := 1, code := jdk_38_method_8_code, exceptionTable := #[], attributes := #[] }
def k12m3 : Method := { name := "size", desc := "()I", sig := { parameters := [], returnType := some .int }, accessFlags := 1, code := some k12c3 }
def k12c4 : Code := { maxStack := 1, maxLocals := 1, code := jdk_38_method_9_code, exceptionTable := #[], attributes := #[] }
def k12m4 : Method := { name := "isEmpty", desc := "()Z", sig := { parameters := [], returnType := some .boolean }, accessFlags := 1, code := some k12c4 }
def k12c5 : Code := { maxStack := 2, maxLocals := 1, code := jdk_38_method_16_code, exceptionTable := #[], attributes := #[] }
def k12m5 : Method := { name := "toArray", desc := "()[Ljava/lang/Object;", sig := { parameters := [], returnType := some (.array (.object "java/lang/Object")) }, accessFlags := 1, code := some k12c5 }
def k12c6 : Code := { maxStack := 3, maxLocals := 4, code := jdk_38_method_24_code, exceptionTable := #[], attributes := #[] }
def k12m6 : Method := { name := "add", desc := "(Ljava/lang/Object;[Ljava/lang/Object;I)V", sig := { parameters := [(.object "java/lang/Object"), (.array (.object "java/lang/Object")), .int], returnType := none }, accessFlags := 2, code := some k12c6 }
def k12c7 : Code := { maxStack := 4, maxLocals := 2, code := jdk_38_method_25_code, exceptionTable := #[], attributes := #[] }
def k12m7 : Method := { name := "add", desc := "(Ljava/lang/Object;)Z", sig := { parameters := [(.object "java/lang/Object")], returnType := some .boolean }, accessFlags := 1, code := some k12c7 }
/-- java/util/ArrayList -/
def k12 : Class := { plain "java/util/ArrayList" (some 8) with
  accessFlags := 33
  interfaces := #[7, 9, 10, 11]
  cf := some (fileOf pool12 10 #[.nestMembers #[290, 276, 500, 502, 262, 267]] #[{ accessFlags := 1, nameIndex := 5, descriptorIndex := 6, attributes := #[] }, { accessFlags := 2, nameIndex := 71, descriptorIndex := 72, attributes := #[] }, { accessFlags := 2, nameIndex := 71, descriptorIndex := 47, attributes := #[] }, { accessFlags := 1, nameIndex := 50, descriptorIndex := 186, attributes := #[] }, { accessFlags := 1, nameIndex := 363, descriptorIndex := 173, attributes := #[] }, { accessFlags := 1, nameIndex := 46, descriptorIndex := 47, attributes := #[] }, { accessFlags := 2, nameIndex := 133, descriptorIndex := 134, attributes := #[] }, { accessFlags := 1, nameIndex := 133, descriptorIndex := 96, attributes := #[] }] 33 2 #[148, 329, 331, 333] #[{ accessFlags := 26, nameIndex := 335, descriptorIndex := 336, attributes := #[] }, { accessFlags := 26, nameIndex := 340, descriptorIndex := 51, attributes := #[] }, { accessFlags := 26, nameIndex := 17, descriptorIndex := 14, attributes := #[] }, { accessFlags := 26, nameIndex := 41, descriptorIndex := 14, attributes := #[] }, { accessFlags := 128, nameIndex := 13, descriptorIndex := 14, attributes := #[] }, { accessFlags := 2, nameIndex := 50, descriptorIndex := 51, attributes := #[] }])
  fields := #[{ name := "serialVersionUID", type := .long, accessFlags := 26, slot := 0, constantValue := 0 }, { name := "DEFAULT_CAPACITY", type := .int, accessFlags := 26, slot := 1, constantValue := 0 }, { name := "EMPTY_ELEMENTDATA", type := (.array (.object "java/lang/Object")), accessFlags := 26, slot := 2, constantValue := 0 }, { name := "DEFAULTCAPACITY_EMPTY_ELEMENTDATA", type := (.array (.object "java/lang/Object")), accessFlags := 26, slot := 3, constantValue := 0 }, { name := "elementData", type := (.array (.object "java/lang/Object")), accessFlags := 128, slot := 1, constantValue := 0 }, { name := "size", type := .int, accessFlags := 2, slot := 2, constantValue := 0 }]
  methods := #[k12m0, k12m1, k12m2, k12m3, k12m4, k12m5, k12m6, k12m7]
  instanceTypes := #[.int, (.array (.object "java/lang/Object")), .int]
  staticTypes := #[.long, .int, (.array (.object "java/lang/Object")), (.array (.object "java/lang/Object"))]
  resolved := Array.replicate 509 none
  statics := some 0 }

def pool13 : Array CpInfo := pool [(2, .class_ 4), (1, u "java/lang/Object"), (0, u "<init>"), (0, u "()V"), (3, .class_ 11), (0, u "java/util/ImmutableCollections$List12"), (0, .class_ 13), (0, u "java/util/ImmutableCollections$ListN"), (3, u "Z"), (0, .class_ 19), (0, u "java/util/List"), (0, .interfaceMethodref 21 22), (0, .class_ 23), (0, .nameAndType 24 25), (0, u "java/util/Collection"), (0, u "isEmpty"), (0, u "()Z"), (0, .interfaceMethodref 18 27), (0, .nameAndType 28 29), (0, u "of"), (0, u "()Ljava/util/List;"), (0, .interfaceMethodref 21 31), (0, .nameAndType 32 33), (0, u "toArray"), (0, u "()[Ljava/lang/Object;"), (0, .interfaceMethodref 18 35), (0, .nameAndType 28 36), (0, u "([Ljava/lang/Object;)Ljava/util/List;"), (0, .methodref 38 39), (0, .class_ 40), (0, .nameAndType 41 42), (0, u "java/util/Objects"), (0, u "requireNonNull"), (0, u "(Ljava/lang/Object;)Ljava/lang/Object;"), (0, .methodref 12 44), (0, .nameAndType 5 45), (0, u "([Ljava/lang/Object;Z)V"), (1, .class_ 49), (1, u "java/util/ImmutableCollections"), (0, u "$assertionsDisabled"), (5, u "[Ljava/lang/Object;"), (5, u "EMPTY_LIST"), (0, u "Ljava/util/ImmutableCollections$ListN;"), (8, u "EMPTY_LIST_NULLS"), (22, u "SALT32L"), (0, u "J"), (2, u "REVERSE"), (6, u "archivedObjects"), (2, u "EMPTY"), (0, u "Ljava/lang/Object;"), (0, .class_ 112), (0, u "java/util/ImmutableCollections$SetN"), (5, u "EMPTY_SET"), (0, u "Ljava/util/ImmutableCollections$SetN;"), (0, .class_ 121), (0, u "java/util/ImmutableCollections$MapN"), (3, u "EMPTY_MAP"), (0, u "Ljava/util/ImmutableCollections$MapN;"), (4, u "EXPAND_FACTOR"), (0, u "I"), (9, u "listCopy"), (0, u "(Ljava/util/Collection;)Ljava/util/List;"), (7, u "listFromArray"), (17, .class_ 170), (0, u "java/util/ImmutableCollections$MapN$MapNIterator"), (0, .class_ 172), (0, u "java/util/ImmutableCollections$MapN$1"), (0, .class_ 174), (0, u "java/util/ImmutableCollections$Map1"), (0, .class_ 176), (0, u "java/util/ImmutableCollections$AbstractImmutableMap"), (0, .class_ 178), (0, u "java/util/ImmutableCollections$SetN$SetNIterator"), (0, .class_ 180), (0, u "java/util/ImmutableCollections$Set12"), (0, .class_ 182), (0, u "java/util/ImmutableCollections$Set12$1"), (0, .class_ 184), (0, u "java/util/ImmutableCollections$AbstractImmutableSet"), (0, .class_ 186), (0, u "java/util/ImmutableCollections$SubList"), (0, .class_ 188), (0, u "java/util/ImmutableCollections$ListItr"), (0, .class_ 190), (0, u "java/util/ImmutableCollections$AbstractImmutableList"), (0, .class_ 192), (0, u "java/util/ImmutableCollections$AbstractImmutableCollection"), (0, .class_ 194), (0, u "java/util/ImmutableCollections$Access"), (0, .class_ 196), (0, u "java/util/ImmutableCollections$Access$1")] 16

def k13m0 : Method := { name := "<init>", desc := "()V", sig := { parameters := [], returnType := none }, accessFlags := 2, code := none }
def k13c1 : Code := { maxStack := 1, maxLocals := 2, code := jdk_56_method_3_code, exceptionTable := #[], attributes := #[] }
def k13m1 : Method := { name := "listCopy", desc := "(Ljava/util/Collection;)Ljava/util/List;", sig := { parameters := [(.object "java/util/Collection")], returnType := some (.object "java/util/List") }, accessFlags := 8, code := some k13c1 }
def k13c2 : Code := { maxStack := 4, maxLocals := 3, code := jdk_56_method_4_code, exceptionTable := #[], attributes := #[] }
def k13m2 : Method := { name := "listFromArray", desc := "([Ljava/lang/Object;)Ljava/util/List;", sig := { parameters := [(.array (.object "java/lang/Object"))], returnType := some (.object "java/util/List") }, accessFlags := 136, code := some k13c2 }
/-- java/util/ImmutableCollections -/
def k13 : Class := { plain "java/util/ImmutableCollections" (some 0) with
  accessFlags := 32
  interfaces := #[]
  cf := some (fileOf pool13 47 #[.nestMembers #[120, 169, 171, 173, 175, 111, 177, 179, 181, 183, 12, 10, 185, 187, 189, 191, 193, 195]] #[{ accessFlags := 2, nameIndex := 5, descriptorIndex := 6, attributes := #[] }, { accessFlags := 8, nameIndex := 142, descriptorIndex := 143, attributes := #[] }, { accessFlags := 136, nameIndex := 151, descriptorIndex := 36, attributes := #[] }] 32 2 #[] #[{ accessFlags := 26, nameIndex := 95, descriptorIndex := 96, attributes := #[] }, { accessFlags := 26, nameIndex := 99, descriptorIndex := 17, attributes := #[] }, { accessFlags := 10, nameIndex := 106, descriptorIndex := 56, attributes := #[] }, { accessFlags := 26, nameIndex := 109, descriptorIndex := 110, attributes := #[] }, { accessFlags := 24, nameIndex := 62, descriptorIndex := 63, attributes := #[] }, { accessFlags := 24, nameIndex := 72, descriptorIndex := 63, attributes := #[] }, { accessFlags := 24, nameIndex := 118, descriptorIndex := 119, attributes := #[] }, { accessFlags := 24, nameIndex := 125, descriptorIndex := 126, attributes := #[] }, { accessFlags := 24, nameIndex := 131, descriptorIndex := 132, attributes := #[] }, { accessFlags := 4120, nameIndex := 50, descriptorIndex := 17, attributes := #[] }])
  fields := #[{ name := "SALT32L", type := .long, accessFlags := 26, slot := 0, constantValue := 0 }, { name := "REVERSE", type := .boolean, accessFlags := 26, slot := 1, constantValue := 0 }, { name := "archivedObjects", type := (.array (.object "java/lang/Object")), accessFlags := 10, slot := 2, constantValue := 0 }, { name := "EMPTY", type := (.object "java/lang/Object"), accessFlags := 26, slot := 3, constantValue := 0 }, { name := "EMPTY_LIST", type := (.object "java/util/ImmutableCollections$ListN"), accessFlags := 24, slot := 4, constantValue := 0 }, { name := "EMPTY_LIST_NULLS", type := (.object "java/util/ImmutableCollections$ListN"), accessFlags := 24, slot := 5, constantValue := 0 }, { name := "EMPTY_SET", type := (.object "java/util/ImmutableCollections$SetN"), accessFlags := 24, slot := 6, constantValue := 0 }, { name := "EMPTY_MAP", type := (.object "java/util/ImmutableCollections$MapN"), accessFlags := 24, slot := 7, constantValue := 0 }, { name := "EXPAND_FACTOR", type := .int, accessFlags := 24, slot := 8, constantValue := 0 }, { name := "$assertionsDisabled", type := .boolean, accessFlags := 4120, slot := 9, constantValue := 0 }]
  methods := #[k13m0, k13m1, k13m2]
  instanceTypes := #[]
  staticTypes := #[.long, .boolean, (.array (.object "java/lang/Object")), (.object "java/lang/Object"), (.object "java/util/ImmutableCollections$ListN"), (.object "java/util/ImmutableCollections$ListN"), (.object "java/util/ImmutableCollections$SetN"), (.object "java/util/ImmutableCollections$MapN"), .int, .boolean]
  resolved := Array.replicate 213 none
  statics := some 1 }

def pool14 : Array CpInfo := pool [(1, .methodref 2 3), (0, .class_ 4), (0, .nameAndType 5 6), (0, u "java/util/AbstractCollection"), (0, u "<init>"), (0, u "()V"), (1, .class_ 10), (1, u "java/util/ImmutableCollections"), (2, .class_ 14), (0, u "java/util/ImmutableCollections$AbstractImmutableCollection")] 41

def k14c0 : Code := { maxStack := 1, maxLocals := 1, code := jdk_47_method_1_code, exceptionTable := #[], attributes := #[] }
def k14m0 : Method := { name := "<init>", desc := "()V", sig := { parameters := [], returnType := none }, accessFlags := 0, code := some k14c0 }
/-- java/util/ImmutableCollections$AbstractImmutableCollection -/
def k14 : Class := { plain "java/util/ImmutableCollections$AbstractImmutableCollection" (some 5) with
  accessFlags := 1056
  interfaces := #[]
  cf := some (fileOf pool14 13 #[.nestHost 8] #[{ accessFlags := 0, nameIndex := 5, descriptorIndex := 6, attributes := #[] }] 1056 2 #[] #[])
  fields := #[]
  methods := #[k14m0]
  instanceTypes := #[]
  staticTypes := #[]
  resolved := Array.replicate 56 none
  statics := none }

def pool15 : Array CpInfo := pool [(1, .methodref 2 3), (0, .class_ 4), (0, .nameAndType 5 6), (0, u "java/util/ImmutableCollections$AbstractImmutableCollection"), (0, u "<init>"), (0, u "()V"), (1, .class_ 10), (1, u "java/util/ImmutableCollections"), (3, .class_ 16), (1, u "java/util/ImmutableCollections$AbstractImmutableList"), (60, .class_ 78), (0, u "java/util/List"), (45, .class_ 125), (0, u "java/util/RandomAccess")] 70

def k15c0 : Code := { maxStack := 1, maxLocals := 1, code := jdk_46_method_1_code, exceptionTable := #[], attributes := #[] }
def k15m0 : Method := { name := "<init>", desc := "()V", sig := { parameters := [], returnType := none }, accessFlags := 0, code := some k15c0 }
/-- java/util/ImmutableCollections$AbstractImmutableList -/
def k15 : Class := { plain "java/util/ImmutableCollections$AbstractImmutableList" (some 14) with
  accessFlags := 1056
  interfaces := #[7, 9]
  cf := some (fileOf pool15 14 #[.nestHost 8] #[{ accessFlags := 0, nameIndex := 5, descriptorIndex := 6, attributes := #[] }] 1056 2 #[77, 124] #[])
  fields := #[]
  methods := #[k15m0]
  instanceTypes := #[]
  staticTypes := #[]
  resolved := Array.replicate 196 none
  statics := none }

def pool16 : Array CpInfo := pool [(1, .methodref 2 3), (0, .class_ 4), (0, .nameAndType 5 6), (0, u "java/util/ImmutableCollections$AbstractImmutableList"), (0, u "<init>"), (0, u "()V"), (0, .methodref 8 9), (0, .class_ 10), (0, .nameAndType 11 12), (0, u "java/util/Objects"), (0, u "requireNonNull"), (0, u "(Ljava/lang/Object;)Ljava/lang/Object;"), (0, .fieldref 14 15), (0, .class_ 16), (0, .nameAndType 17 18), (0, u "java/util/ImmutableCollections$List12"), (0, u "e0"), (0, u "Ljava/lang/Object;"), (0, .fieldref 20 21), (0, .class_ 22), (0, .nameAndType 23 18), (0, u "java/util/ImmutableCollections"), (0, u "EMPTY"), (0, .fieldref 14 25), (0, .nameAndType 26 18), (0, u "e1"), (24, u "size"), (0, u "()I"), (17, .class_ 71), (0, u "java/io/Serializable"), (4, u "(Ljava/lang/Object;)V"), (8, u "(Ljava/lang/Object;Ljava/lang/Object;)V")] 39

def k16c0 : Code := { maxStack := 2, maxLocals := 2, code := jdk_44_method_1_code, exceptionTable := #[], attributes := #[] }
def k16m0 : Method := { name := "<init>", desc := "(Ljava/lang/Object;)V", sig := { parameters := [(.object "java/lang/Object")], returnType := none }, accessFlags := 0, code := some k16c0 }
def k16c1 : Code := { maxStack := 2, maxLocals := 3, code := jdk_44_method_2_code, exceptionTable := #[], attributes := #[] }
def k16m1 : Method := { name := "<init>", desc := "(Ljava/lang/Object;Ljava/lang/Object;)V", sig := { parameters := [(.object "java/lang/Object"), (.object "java/lang/Object")], returnType := none }, accessFlags := 0, code := some k16c1 }
def k16c2 : Code := { maxStack := 2, maxLocals := 1, code := jdk_44_method_3_code, exceptionTable := #[], attributes := #[] }
def k16m2 : Method := { name := "size", desc := "()I", sig := { parameters := [], returnType := some .int }, accessFlags := 1, code := some k16c2 }
/-- java/util/ImmutableCollections$List12 -/
def k16 : Class := { plain "java/util/ImmutableCollections$List12" (some 15) with
  accessFlags := 48
  interfaces := #[11]
  cf := some (fileOf pool16 14 #[.nestHost 20] #[{ accessFlags := 0, nameIndex := 5, descriptorIndex := 76, attributes := #[] }, { accessFlags := 0, nameIndex := 5, descriptorIndex := 85, attributes := #[] }, { accessFlags := 1, nameIndex := 51, descriptorIndex := 52, attributes := #[] }] 48 2 #[70] #[{ accessFlags := 18, nameIndex := 17, descriptorIndex := 18, attributes := #[] }, { accessFlags := 18, nameIndex := 26, descriptorIndex := 18, attributes := #[] }])
  fields := #[{ name := "e0", type := (.object "java/lang/Object"), accessFlags := 18, slot := 0, constantValue := 0 }, { name := "e1", type := (.object "java/lang/Object"), accessFlags := 18, slot := 1, constantValue := 0 }]
  methods := #[k16m0, k16m1, k16m2]
  instanceTypes := #[(.object "java/lang/Object"), (.object "java/lang/Object")]
  staticTypes := #[]
  resolved := Array.replicate 125 none
  statics := none }

def pool17 : Array CpInfo := pool [(1, .methodref 2 3), (0, .class_ 4), (0, .nameAndType 5 6), (0, u "java/util/ImmutableCollections$AbstractImmutableList"), (0, u "<init>"), (0, u "()V"), (0, .fieldref 8 9), (0, .class_ 10), (0, .nameAndType 11 12), (0, u "java/util/ImmutableCollections$ListN"), (0, u "elements"), (0, u "[Ljava/lang/Object;"), (0, .fieldref 8 14), (0, .nameAndType 15 16), (0, u "allowNulls"), (0, u "Z"), (42, .class_ 60), (0, u "java/io/Serializable"), (4, u "([Ljava/lang/Object;Z)V"), (11, u "size"), (0, u "()I"), (35, .class_ 115), (0, u "java/util/ImmutableCollections")] 3

def k17c0 : Code := { maxStack := 2, maxLocals := 3, code := jdk_45_method_1_code, exceptionTable := #[], attributes := #[] }
def k17m0 : Method := { name := "<init>", desc := "([Ljava/lang/Object;Z)V", sig := { parameters := [(.array (.object "java/lang/Object")), .boolean], returnType := none }, accessFlags := 2, code := some k17c0 }
def k17c1 : Code := { maxStack := 1, maxLocals := 1, code := jdk_45_method_3_code, exceptionTable := #[], attributes := #[] }
def k17m1 : Method := { name := "size", desc := "()I", sig := { parameters := [], returnType := some .int }, accessFlags := 1, code := some k17c1 }
/-- java/util/ImmutableCollections$ListN -/
def k17 : Class := { plain "java/util/ImmutableCollections$ListN" (some 15) with
  accessFlags := 48
  interfaces := #[11]
  cf := some (fileOf pool17 8 #[.nestHost 114] #[{ accessFlags := 2, nameIndex := 5, descriptorIndex := 65, attributes := #[] }, { accessFlags := 1, nameIndex := 77, descriptorIndex := 78, attributes := #[] }] 48 2 #[59] #[{ accessFlags := 18, nameIndex := 11, descriptorIndex := 12, attributes := #[] }, { accessFlags := 18, nameIndex := 15, descriptorIndex := 16, attributes := #[] }])
  fields := #[{ name := "elements", type := (.array (.object "java/lang/Object")), accessFlags := 18, slot := 0, constantValue := 0 }, { name := "allowNulls", type := .boolean, accessFlags := 18, slot := 1, constantValue := 0 }]
  methods := #[k17m0, k17m1]
  instanceTypes := #[(.array (.object "java/lang/Object")), .boolean]
  staticTypes := #[]
  resolved := Array.replicate 119 none
  statics := none }

def pool18 : Array CpInfo := pool [(1, .class_ 2), (0, u "java/lang/Comparable"), (0, .class_ 4), (0, u "java/lang/Object")] 7

/-- java/lang/Comparable -/
def k18 : Class := { plain "java/lang/Comparable" (some 0) with
  accessFlags := 1537
  interfaces := #[]
  cf := some (fileOf pool18 1 #[] #[] 1537 3 #[] #[])
  fields := #[]
  methods := #[]
  instanceTypes := #[]
  staticTypes := #[]
  resolved := Array.replicate 12 none
  statics := none }

def pool19 : Array CpInfo := pool [(2, .class_ 4), (1, u "java/lang/CharSequence"), (42, .class_ 48), (0, u "java/lang/CharSequence$1CodePointIterator"), (10, .class_ 60), (0, u "java/lang/CharSequence$1CharIterator"), (5, .class_ 67), (0, u "java/lang/Object")] 63

/-- java/lang/CharSequence -/
def k19 : Class := { plain "java/lang/CharSequence" (some 0) with
  accessFlags := 1537
  interfaces := #[]
  cf := some (fileOf pool19 2 #[.nestMembers #[47, 59]] #[] 1537 66 #[] #[])
  fields := #[]
  methods := #[]
  instanceTypes := #[]
  staticTypes := #[]
  resolved := Array.replicate 131 none
  statics := none }

def pool20 : Array CpInfo := pool [(1, .class_ 2), (0, u "java/lang/constant/Constable"), (0, .class_ 4), (0, u "java/lang/Object")] 6

/-- java/lang/constant/Constable -/
def k20 : Class := { plain "java/lang/constant/Constable" (some 0) with
  accessFlags := 1537
  interfaces := #[]
  cf := some (fileOf pool20 1 #[] #[] 1537 3 #[] #[])
  fields := #[]
  methods := #[]
  instanceTypes := #[]
  staticTypes := #[]
  resolved := Array.replicate 11 none
  statics := none }

def pool21 : Array CpInfo := pool [(1, .class_ 2), (0, u "java/lang/constant/ConstantDesc"), (0, .class_ 4), (0, u "java/lang/Object")] 32

/-- java/lang/constant/ConstantDesc -/
def k21 : Class := { plain "java/lang/constant/ConstantDesc" (some 0) with
  accessFlags := 1537
  interfaces := #[]
  cf := some (fileOf pool21 1 #[] #[] 1537 3 #[] #[])
  fields := #[]
  methods := #[]
  instanceTypes := #[]
  staticTypes := #[]
  resolved := Array.replicate 37 none
  statics := none }

def pool22 : Array CpInfo := pool [(1, .methodref 2 3), (0, .class_ 4), (0, .nameAndType 5 6), (0, u "java/lang/Object"), (0, u "<init>"), (0, u "()V"), (2, .fieldref 10 11), (0, .class_ 12), (0, .nameAndType 13 14), (0, u "java/lang/String"), (0, u "value"), (0, u "[B"), (0, .fieldref 10 16), (0, .nameAndType 17 18), (0, u "coder"), (0, u "B"), (2, u "hash"), (0, u "I"), (2, u "hashIsZero"), (0, u "Z"), (11, .fieldref 10 39), (0, .nameAndType 40 26), (0, u "COMPACT_STRINGS"), (12, u "toBytes"), (53, .class_ 109), (1, u "java/lang/StringLatin1"), (99, .methodref 10 210), (0, .nameAndType 5 211), (0, u "([BB)V"), (157, u "(C)Z"), (205, .class_ 576), (0, u "java/lang/CharSequence"), (22, u "CASE_INSENSITIVE_ORDER"), (0, u "Ljava/util/Comparator;"), (181, u "valueOf"), (0, u "(C)Ljava/lang/String;"), (231, .methodref 107 1016), (0, .nameAndType 1017 369), (0, u "canEncode"), (0, .methodref 107 1019), (0, .nameAndType 53 1020), (0, u "(C)[B"), (80, u "serialPersistentFields"), (0, u "[Ljava/io/ObjectStreamField;"), (0, .class_ 1104), (0, u "java/lang/String$CaseInsensitiveComparator"), (1, .class_ 1107), (0, u "java/io/Serializable"), (0, .class_ 1109), (0, u "java/lang/Comparable"), (0, .class_ 1111), (0, u "java/lang/constant/Constable"), (0, .class_ 1113), (0, u "java/lang/constant/ConstantDesc"), (2, u "serialVersionUID"), (0, u "J"), (3, u "REPL"), (0, u "C"), (2, u "LATIN1"), (1, u "UTF16")] 323

def k22m0 : Method := { name := "<init>", desc := "()V", sig := { parameters := [], returnType := none }, accessFlags := 1, code := none }
def k22c1 : Code := { maxStack := 4, maxLocals := 1, code := jdk_42_method_139_code, exceptionTable := #[], attributes := #[] }
def k22m1 : Method := { name := "valueOf", desc := "(C)Ljava/lang/String;", sig := { parameters := [.char], returnType := some (.object "java/lang/String") }, accessFlags := 9, code := some k22c1 }
def k22c2 : Code := { maxStack := 2, maxLocals := 3, code := jdk_42_method_151_code, exceptionTable := #[], attributes := #[] }
def k22m2 : Method := { name := "<init>", desc := "([BB)V", sig := { parameters := [(.array .byte), .byte], returnType := none }, accessFlags := 0, code := some k22c2 }
/-- java/lang/String -/
def k22 : Class := { plain "java/lang/String" (some 0) with
  accessFlags := 49
  interfaces := #[11, 18, 19, 20, 21]
  cf := some (fileOf pool22 10 #[.nestMembers #[1103]] #[{ accessFlags := 1, nameIndex := 5, descriptorIndex := 6, attributes := #[] }, { accessFlags := 9, nameIndex := 782, descriptorIndex := 783, attributes := #[] }, { accessFlags := 0, nameIndex := 5, descriptorIndex := 211, attributes := #[] }] 49 2 #[1106, 1108, 575, 1110, 1112] #[{ accessFlags := 18, nameIndex := 13, descriptorIndex := 14, attributes := #[] }, { accessFlags := 18, nameIndex := 17, descriptorIndex := 18, attributes := #[] }, { accessFlags := 2, nameIndex := 21, descriptorIndex := 22, attributes := #[] }, { accessFlags := 2, nameIndex := 25, descriptorIndex := 26, attributes := #[] }, { accessFlags := 26, nameIndex := 1116, descriptorIndex := 1117, attributes := #[] }, { accessFlags := 24, nameIndex := 40, descriptorIndex := 26, attributes := #[] }, { accessFlags := 26, nameIndex := 1101, descriptorIndex := 1102, attributes := #[] }, { accessFlags := 26, nameIndex := 1121, descriptorIndex := 1122, attributes := #[] }, { accessFlags := 25, nameIndex := 599, descriptorIndex := 600, attributes := #[] }, { accessFlags := 24, nameIndex := 1125, descriptorIndex := 18, attributes := #[] }, { accessFlags := 24, nameIndex := 1127, descriptorIndex := 18, attributes := #[] }])
  fields := #[{ name := "value", type := (.array .byte), accessFlags := 18, slot := 0, constantValue := 0 }, { name := "coder", type := .byte, accessFlags := 18, slot := 1, constantValue := 0 }, { name := "hash", type := .int, accessFlags := 2, slot := 2, constantValue := 0 }, { name := "hashIsZero", type := .boolean, accessFlags := 2, slot := 3, constantValue := 0 }, { name := "serialVersionUID", type := .long, accessFlags := 26, slot := 0, constantValue := 0 }, { name := "COMPACT_STRINGS", type := .boolean, accessFlags := 24, slot := 1, constantValue := 0 }, { name := "serialPersistentFields", type := (.array (.object "java/io/ObjectStreamField")), accessFlags := 26, slot := 2, constantValue := 0 }, { name := "REPL", type := .char, accessFlags := 26, slot := 3, constantValue := 0 }, { name := "CASE_INSENSITIVE_ORDER", type := (.object "java/util/Comparator"), accessFlags := 25, slot := 4, constantValue := 0 }, { name := "LATIN1", type := .byte, accessFlags := 24, slot := 5, constantValue := 0 }, { name := "UTF16", type := .byte, accessFlags := 24, slot := 6, constantValue := 0 }]
  methods := #[k22m0, k22m1, k22m2]
  instanceTypes := #[(.array .byte), .byte, .int, .boolean]
  staticTypes := #[.long, .boolean, (.array (.object "java/io/ObjectStreamField")), .char, (.object "java/util/Comparator"), .byte, .byte]
  resolved := Array.replicate 1451 none
  statics := some 2 }

def pool23 : Array CpInfo := pool [(4, .class_ 6), (1, u "java/lang/Object"), (0, u "<init>"), (0, u "()V"), (5, .class_ 16), (1, u "java/lang/StringLatin1"), (73, u "canEncode"), (14, u "(C)Z"), (15, u "$assertionsDisabled"), (0, u "Z"), (98, .class_ 223), (1, u "java/lang/StringLatin1$LinesSpliterator"), (156, u "toBytes"), (1, u "(C)[B"), (7, .class_ 391), (0, u "java/lang/StringLatin1$CharsSpliterator")] 3

def k23m0 : Method := { name := "<init>", desc := "()V", sig := { parameters := [], returnType := none }, accessFlags := 0, code := none }
def k23c1 : Code := { maxStack := 2, maxLocals := 1, code := jdk_43_method_3_code, exceptionTable := #[], attributes := #[] }
def k23m1 : Method := { name := "canEncode", desc := "(C)Z", sig := { parameters := [.char], returnType := some .boolean }, accessFlags := 9, code := some k23c1 }
def k23c2 : Code := { maxStack := 4, maxLocals := 1, code := jdk_43_method_46_code, exceptionTable := #[], attributes := #[] }
def k23m2 : Method := { name := "toBytes", desc := "(C)[B", sig := { parameters := [.char], returnType := some (.array .byte) }, accessFlags := 9, code := some k23c2 }
/-- java/lang/StringLatin1 -/
def k23 : Class := { plain "java/lang/StringLatin1" (some 0) with
  accessFlags := 48
  interfaces := #[]
  cf := some (fileOf pool23 14 #[.nestMembers #[390, 221]] #[{ accessFlags := 0, nameIndex := 7, descriptorIndex := 8, attributes := #[] }, { accessFlags := 9, nameIndex := 90, descriptorIndex := 105, attributes := #[] }, { accessFlags := 9, nameIndex := 380, descriptorIndex := 382, attributes := #[] }] 48 4 #[] #[{ accessFlags := 4120, nameIndex := 121, descriptorIndex := 122, attributes := #[] }])
  fields := #[{ name := "$assertionsDisabled", type := .boolean, accessFlags := 4120, slot := 0, constantValue := 0 }]
  methods := #[k23m0, k23m1, k23m2]
  instanceTypes := #[]
  staticTypes := #[.boolean]
  resolved := Array.replicate 395 none
  statics := none }

def pool24 : Array CpInfo := pool [(1, .methodref 2 3), (0, .class_ 4), (0, .nameAndType 5 6), (0, u "java/lang/Object"), (0, u "<init>"), (0, u "()V"), (0, .class_ 8), (0, u "java/lang/Record")] 13

def k24c0 : Code := { maxStack := 1, maxLocals := 1, code := jdk_30_method_1_code, exceptionTable := #[], attributes := #[] }
def k24m0 : Method := { name := "<init>", desc := "()V", sig := { parameters := [], returnType := none }, accessFlags := 4, code := some k24c0 }
/-- java/lang/Record -/
def k24 : Class := { plain "java/lang/Record" (some 0) with
  accessFlags := 1057
  interfaces := #[]
  cf := some (fileOf pool24 7 #[] #[{ accessFlags := 4, nameIndex := 5, descriptorIndex := 6, attributes := #[] }] 1057 2 #[] #[])
  fields := #[]
  methods := #[k24m0]
  instanceTypes := #[]
  staticTypes := #[]
  resolved := Array.replicate 22 none
  statics := none }

def pool25 : Array CpInfo := pool [(1, .methodref 2 3), (0, .class_ 4), (0, .nameAndType 5 6), (0, u "java/lang/Record"), (0, u "<init>"), (0, u "()V"), (0, .fieldref 8 9), (0, .class_ 10), (0, .nameAndType 11 12), (0, u "com/example/talaria/talaria/model/ProblemDetails$InvalidParam"), (0, u "param"), (0, u "Ljava/lang/String;"), (0, .fieldref 8 14), (0, .nameAndType 15 12), (0, u "reason"), (12, u "(Ljava/lang/String;Ljava/lang/String;)V"), (9, .class_ 39), (0, u "com/example/talaria/talaria/model/ProblemDetails")] 20

def k25c0 : Code := { maxStack := 2, maxLocals := 3, code := prog_23_method_1_code, exceptionTable := #[], attributes := #[] }
def k25m0 : Method := { name := "<init>", desc := "(Ljava/lang/String;Ljava/lang/String;)V", sig := { parameters := [(.object "java/lang/String"), (.object "java/lang/String")], returnType := none }, accessFlags := 1, code := some k25c0 }
/-- com/example/talaria/talaria/model/ProblemDetails$InvalidParam -/
def k25 : Class := { plain "com/example/talaria/talaria/model/ProblemDetails$InvalidParam" (some 24) with
  accessFlags := 49
  interfaces := #[]
  cf := some (fileOf pool25 8 #[.nestHost 38] #[{ accessFlags := 1, nameIndex := 5, descriptorIndex := 28, attributes := #[] }] 49 2 #[] #[{ accessFlags := 18, nameIndex := 11, descriptorIndex := 12, attributes := #[] }, { accessFlags := 18, nameIndex := 15, descriptorIndex := 12, attributes := #[] }])
  fields := #[{ name := "param", type := (.object "java/lang/String"), accessFlags := 18, slot := 0, constantValue := 0 }, { name := "reason", type := (.object "java/lang/String"), accessFlags := 18, slot := 1, constantValue := 0 }]
  methods := #[k25m0]
  instanceTypes := #[(.object "java/lang/String"), (.object "java/lang/String")]
  staticTypes := #[]
  resolved := Array.replicate 60 none
  statics := none }

def pool26 : Array CpInfo := pool [(1, .class_ 2), (0, u "java/lang/Math"), (1, .class_ 6), (1, u "java/lang/Object"), (0, u "<init>"), (0, u "()V"), (89, .class_ 100), (1, u "java/lang/Math$RandomNumberGeneratorHolder"), (71, u "negativeZeroFloatBits"), (0, u "J"), (2, u "negativeZeroDoubleBits"), (21, u "max"), (2, u "min"), (43, u "$assertionsDisabled"), (0, u "Z"), (88, u "(II)I"), (2, u "twoToTheDoubleScaleDown"), (0, u "D"), (4, u "twoToTheDoubleScaleUp"), (9, u "E"), (3, u "PI"), (2, u "TAU"), (2, u "DEGREES_TO_RADIANS"), (0, u "RADIANS_TO_DEGREES")] 94

def k26m0 : Method := { name := "<init>", desc := "()V", sig := { parameters := [], returnType := none }, accessFlags := 2, code := none }
def k26c1 : Code := { maxStack := 2, maxLocals := 2, code := jdk_29_method_65_code, exceptionTable := #[], attributes := #[] }
def k26m1 : Method := { name := "max", desc := "(II)I", sig := { parameters := [.int, .int], returnType := some .int }, accessFlags := 9, code := some k26c1 }
def k26c2 : Code := { maxStack := 2, maxLocals := 2, code := jdk_29_method_69_code, exceptionTable := #[], attributes := #[] }
def k26m2 : Method := { name := "min", desc := "(II)I", sig := { parameters := [.int, .int], returnType := some .int }, accessFlags := 9, code := some k26c2 }
/-- java/lang/Math -/
def k26 : Class := { plain "java/lang/Math" (some 0) with
  accessFlags := 49
  interfaces := #[]
  cf := some (fileOf pool26 1 #[.nestMembers #[98]] #[{ accessFlags := 2, nameIndex := 7, descriptorIndex := 8, attributes := #[] }, { accessFlags := 9, nameIndex := 198, descriptorIndex := 335, attributes := #[] }, { accessFlags := 9, nameIndex := 201, descriptorIndex := 335, attributes := #[] }] 49 4 #[] #[{ accessFlags := 25, nameIndex := 354, descriptorIndex := 339, attributes := #[] }, { accessFlags := 25, nameIndex := 358, descriptorIndex := 339, attributes := #[] }, { accessFlags := 25, nameIndex := 361, descriptorIndex := 339, attributes := #[] }, { accessFlags := 26, nameIndex := 364, descriptorIndex := 339, attributes := #[] }, { accessFlags := 26, nameIndex := 365, descriptorIndex := 339, attributes := #[] }, { accessFlags := 26, nameIndex := 172, descriptorIndex := 173, attributes := #[] }, { accessFlags := 26, nameIndex := 176, descriptorIndex := 173, attributes := #[] }, { accessFlags := 8, nameIndex := 344, descriptorIndex := 339, attributes := #[] }, { accessFlags := 8, nameIndex := 338, descriptorIndex := 339, attributes := #[] }, { accessFlags := 4120, nameIndex := 245, descriptorIndex := 246, attributes := #[] }])
  fields := #[{ name := "E", type := .double, accessFlags := 25, slot := 0, constantValue := 0 }, { name := "PI", type := .double, accessFlags := 25, slot := 1, constantValue := 0 }, { name := "TAU", type := .double, accessFlags := 25, slot := 2, constantValue := 0 }, { name := "DEGREES_TO_RADIANS", type := .double, accessFlags := 26, slot := 3, constantValue := 0 }, { name := "RADIANS_TO_DEGREES", type := .double, accessFlags := 26, slot := 4, constantValue := 0 }, { name := "negativeZeroFloatBits", type := .long, accessFlags := 26, slot := 5, constantValue := 0 }, { name := "negativeZeroDoubleBits", type := .long, accessFlags := 26, slot := 6, constantValue := 0 }, { name := "twoToTheDoubleScaleUp", type := .double, accessFlags := 8, slot := 7, constantValue := 0 }, { name := "twoToTheDoubleScaleDown", type := .double, accessFlags := 8, slot := 8, constantValue := 0 }, { name := "$assertionsDisabled", type := .boolean, accessFlags := 4120, slot := 9, constantValue := 0 }]
  methods := #[k26m0, k26m1, k26m2]
  instanceTypes := #[]
  staticTypes := #[.double, .double, .double, .double, .double, .long, .long, .double, .double, .boolean]
  resolved := Array.replicate 460 none
  statics := none }

def pool27 : Array CpInfo := pool [(2, .class_ 4), (1, u "java/lang/Object"), (0, u "<init>"), (0, u "()V"), (7, .class_ 16), (1, u "java/util/Arrays"), (57, .class_ 76), (1, u "java/util/Arrays$NaturalOrder"), (9, .methodref 2 87), (0, .nameAndType 88 89), (0, u "getClass"), (0, u "()Ljava/lang/Class;"), (20, .class_ 111), (0, u "[Ljava/lang/Object;"), (1, .class_ 115), (1, u "java/util/Arrays$LegacyMergeSort"), (1, u "Z"), (32, .methodref 151 152), (0, .class_ 153), (0, .nameAndType 154 155), (0, u "java/lang/System"), (0, u "arraycopy"), (0, u "(Ljava/lang/Object;ILjava/lang/Object;II)V"), (144, .methodref 14 301), (0, .nameAndType 302 303), (0, u "copyOf"), (0, u "([Ljava/lang/Object;ILjava/lang/Class;)[Ljava/lang/Object;"), (0, .methodref 305 306), (0, .class_ 307), (0, .nameAndType 308 309), (0, u "java/lang/Math"), (0, u "min"), (0, u "(II)I"), (65, .class_ 376), (0, u "java/util/Arrays$ArrayList"), (68, u "$assertionsDisabled"), (269, u "MIN_ARRAY_SORT_GRAN"), (0, u "I"), (2, u "INSERTIONSORT_THRESHOLD"), (140, u "([Ljava/lang/Object;I)[Ljava/lang/Object;"), (114, .class_ 976), (0, u "java/util/Arrays$ArrayItr")] 52

def k27m0 : Method := { name := "<init>", desc := "()V", sig := { parameters := [], returnType := none }, accessFlags := 2, code := none }
def k27c1 : Code := { maxStack := 3, maxLocals := 2, code := jdk_65_method_119_code, exceptionTable := #[], attributes := #[] }
def k27m1 : Method := { name := "copyOf", desc := "([Ljava/lang/Object;I)[Ljava/lang/Object;", sig := { parameters := [(.array (.object "java/lang/Object")), .int], returnType := some (.array (.object "java/lang/Object")) }, accessFlags := 9, code := some k27c1 }
def k27c2 : Code := { maxStack := 6, maxLocals := 4, code := jdk_65_method_120_code, exceptionTable := #[], attributes := #[] }
def k27m2 : Method := { name := "copyOf", desc := "([Ljava/lang/Object;ILjava/lang/Class;)[Ljava/lang/Object;", sig := { parameters := [(.array (.object "java/lang/Object")), .int, (.object "java/lang/Class")], returnType := some (.array (.object "java/lang/Object")) }, accessFlags := 9, code := some k27c2 }
/-- java/util/Arrays -/
def k27 : Class := { plain "java/util/Arrays" (some 0) with
  accessFlags := 49
  interfaces := #[]
  cf := some (fileOf pool27 14 #[.nestMembers #[975, 375, 113, 74]] #[{ accessFlags := 2, nameIndex := 5, descriptorIndex := 6, attributes := #[] }, { accessFlags := 9, nameIndex := 302, descriptorIndex := 860, attributes := #[] }, { accessFlags := 9, nameIndex := 302, descriptorIndex := 303, attributes := #[] }] 49 2 #[] #[{ accessFlags := 26, nameIndex := 715, descriptorIndex := 716, attributes := #[] }, { accessFlags := 26, nameIndex := 719, descriptorIndex := 716, attributes := #[] }, { accessFlags := 4120, nameIndex := 445, descriptorIndex := 117, attributes := #[] }])
  fields := #[{ name := "MIN_ARRAY_SORT_GRAN", type := .int, accessFlags := 26, slot := 0, constantValue := 0 }, { name := "INSERTIONSORT_THRESHOLD", type := .int, accessFlags := 26, slot := 1, constantValue := 0 }, { name := "$assertionsDisabled", type := .boolean, accessFlags := 4120, slot := 2, constantValue := 0 }]
  methods := #[k27m0, k27m1, k27m2]
  instanceTypes := #[]
  staticTypes := #[.int, .int, .boolean]
  resolved := Array.replicate 1029 none
  statics := none }

def pool28 : Array CpInfo := pool [(2, .class_ 4), (1, u "java/lang/Object"), (0, u "<init>"), (0, u "()V"), (1, .class_ 10), (1, u "java/lang/System"), (0, u "allowSecurityManager"), (0, u "I"), (16, u "cons"), (0, u "Ljava/io/Console;"), (77, .class_ 110), (1, u "java/lang/System$CallersHolder"), (43, u "initialErrStream"), (0, u "Ljava/io/PrintStream;"), (19, u "security"), (0, u "Ljava/lang/SecurityManager;"), (31, .class_ 209), (0, u "java/lang/System$1"), (7, u "props"), (0, u "Ljava/util/Properties;"), (2, u "lineSeparator"), (0, u "Ljava/lang/String;"), (96, .class_ 321), (1, u "java/lang/System$LoggerFinder"), (5, .class_ 328), (0, u "java/lang/System$Logger"), (67, u "err"), (2, u "out"), (91, u "notSupportedJnuEncoding"), (15, u "in"), (17, u "initialIn"), (0, u "Ljava/io/InputStream;"), (35, u "bootLayer"), (0, u "Ljava/lang/ModuleLayer;"), (99, .class_ 664), (0, u "java/lang/System$2"), (9, u "NEVER"), (2, u "MAYBE"), (49, u "arraycopy"), (0, u "(Ljava/lang/Object;ILjava/lang/Object;II)V"), (72, .class_ 802), (0, u "java/lang/System$Logger$Level")] 31

def k28m0 : Method := { name := "<init>", desc := "()V", sig := { parameters := [], returnType := none }, accessFlags := 2, code := none }
def k28m1 : Method := { name := "arraycopy", desc := "(Ljava/lang/Object;ILjava/lang/Object;II)V", sig := { parameters := [(.object "java/lang/Object"), .int, (.object "java/lang/Object"), .int, .int], returnType := none }, accessFlags := 265, code := none }
/-- java/lang/System -/
def k28 : Class := { plain "java/lang/System" (some 0) with
  accessFlags := 49
  interfaces := #[]
  cf := some (fileOf pool28 8 #[.nestMembers #[319, 327, 801, 108, 663, 208]] #[{ accessFlags := 2, nameIndex := 5, descriptorIndex := 6, attributes := #[] }, { accessFlags := 265, nameIndex := 727, descriptorIndex := 728, attributes := #[] }] 49 2 #[] #[{ accessFlags := 25, nameIndex := 507, descriptorIndex := 526, attributes := #[] }, { accessFlags := 25, nameIndex := 399, descriptorIndex := 155, attributes := #[] }, { accessFlags := 25, nameIndex := 396, descriptorIndex := 155, attributes := #[] }, { accessFlags := 10, nameIndex := 525, descriptorIndex := 526, attributes := #[] }, { accessFlags := 26, nameIndex := 674, descriptorIndex := 12, attributes := #[] }, { accessFlags := 26, nameIndex := 677, descriptorIndex := 12, attributes := #[] }, { accessFlags := 10, nameIndex := 11, descriptorIndex := 12, attributes := #[] }, { accessFlags := 74, nameIndex := 175, descriptorIndex := 176, attributes := #[] }, { accessFlags := 10, nameIndex := 491, descriptorIndex := 222, attributes := #[] }, { accessFlags := 74, nameIndex := 29, descriptorIndex := 30, attributes := #[] }, { accessFlags := 74, nameIndex := 154, descriptorIndex := 155, attributes := #[] }, { accessFlags := 10, nameIndex := 217, descriptorIndex := 218, attributes := #[] }, { accessFlags := 10, nameIndex := 221, descriptorIndex := 222, attributes := #[] }, { accessFlags := 8, nameIndex := 562, descriptorIndex := 563, attributes := #[] }])
  fields := #[{ name := "in", type := (.object "java/io/InputStream"), accessFlags := 25, slot := 0, constantValue := 0 }, { name := "out", type := (.object "java/io/PrintStream"), accessFlags := 25, slot := 1, constantValue := 0 }, { name := "err", type := (.object "java/io/PrintStream"), accessFlags := 25, slot := 2, constantValue := 0 }, { name := "initialIn", type := (.object "java/io/InputStream"), accessFlags := 10, slot := 3, constantValue := 0 }, { name := "NEVER", type := .int, accessFlags := 26, slot := 4, constantValue := 0 }, { name := "MAYBE", type := .int, accessFlags := 26, slot := 5, constantValue := 0 }, { name := "allowSecurityManager", type := .int, accessFlags := 10, slot := 6, constantValue := 0 }, { name := "security", type := (.object "java/lang/SecurityManager"), accessFlags := 74, slot := 7, constantValue := 0 }, { name := "notSupportedJnuEncoding", type := (.object "java/lang/String"), accessFlags := 10, slot := 8, constantValue := 0 }, { name := "cons", type := (.object "java/io/Console"), accessFlags := 74, slot := 9, constantValue := 0 }, { name := "initialErrStream", type := (.object "java/io/PrintStream"), accessFlags := 74, slot := 10, constantValue := 0 }, { name := "props", type := (.object "java/util/Properties"), accessFlags := 10, slot := 11, constantValue := 0 }, { name := "lineSeparator", type := (.object "java/lang/String"), accessFlags := 10, slot := 12, constantValue := 0 }, { name := "bootLayer", type := (.object "java/lang/ModuleLayer"), accessFlags := 8, slot := 13, constantValue := 0 }]
  methods := #[k28m0, k28m1]
  instanceTypes := #[]
  staticTypes := #[(.object "java/io/InputStream"), (.object "java/io/PrintStream"), (.object "java/io/PrintStream"), (.object "java/io/InputStream"), .int, .int, .int, (.object "java/lang/SecurityManager"), (.object "java/lang/String"), (.object "java/io/Console"), (.object "java/io/PrintStream"), (.object "java/util/Properties"), (.object "java/lang/String"), (.object "java/lang/ModuleLayer")]
  resolved := Array.replicate 834 none
  statics := none }

def pool29 : Array CpInfo := pool [(2, .class_ 4), (1, u "java/lang/Object"), (0, u "<init>"), (0, u "()V"), (35, .class_ 44), (1, u "java/util/Objects"), (0, u "requireNonNull"), (0, u "(Ljava/lang/Object;)Ljava/lang/Object;")] 137

def k29m0 : Method := { name := "<init>", desc := "()V", sig := { parameters := [], returnType := none }, accessFlags := 2, code := none }
def k29c1 : Code := { maxStack := 2, maxLocals := 1, code := jdk_31_method_10_code, exceptionTable := #[], attributes := #[] }
def k29m1 : Method := { name := "requireNonNull", desc := "(Ljava/lang/Object;)Ljava/lang/Object;", sig := { parameters := [(.object "java/lang/Object")], returnType := some (.object "java/lang/Object") }, accessFlags := 9, code := some k29c1 }
/-- java/util/Objects -/
def k29 : Class := { plain "java/util/Objects" (some 0) with
  accessFlags := 49
  interfaces := #[]
  cf := some (fileOf pool29 42 #[] #[{ accessFlags := 2, nameIndex := 5, descriptorIndex := 6, attributes := #[] }, { accessFlags := 9, nameIndex := 45, descriptorIndex := 46, attributes := #[] }] 49 2 #[] #[])
  fields := #[]
  methods := #[k29m0, k29m1]
  instanceTypes := #[]
  staticTypes := #[]
  resolved := Array.replicate 184 none
  statics := none }

def pool30 : Array CpInfo := pool [(2, .class_ 4), (1, u "java/lang/Object"), (0, u "<init>"), (0, u "()V"), (17, .class_ 26), (1, u "jdk/internal/util/Preconditions"), (28, .class_ 56), (0, u "jdk/internal/util/Preconditions$4"), (57, .class_ 115), (0, u "jdk/internal/util/Preconditions$1"), (7, u "SIOOBE_FORMATTER"), (0, u "Ljava/util/function/BiFunction;"), (0, .class_ 126), (0, u "jdk/internal/util/Preconditions$2"), (3, u "AIOOBE_FORMATTER"), (0, .class_ 132), (0, u "jdk/internal/util/Preconditions$3"), (3, u "IOOBE_FORMATTER")] 57

def k30m0 : Method := { name := "<init>", desc := "()V", sig := { parameters := [], returnType := none }, accessFlags := 1, code := none }
/-- jdk/internal/util/Preconditions -/
def k30 : Class := { plain "jdk/internal/util/Preconditions" (some 0) with
  accessFlags := 33
  interfaces := #[]
  cf := some (fileOf pool30 24 #[.nestMembers #[55, 131, 125, 114]] #[{ accessFlags := 1, nameIndex := 5, descriptorIndex := 6, attributes := #[] }] 33 2 #[] #[{ accessFlags := 25, nameIndex := 123, descriptorIndex := 124, attributes := #[] }, { accessFlags := 25, nameIndex := 130, descriptorIndex := 124, attributes := #[] }, { accessFlags := 25, nameIndex := 136, descriptorIndex := 124, attributes := #[] }])
  fields := #[{ name := "SIOOBE_FORMATTER", type := (.object "java/util/function/BiFunction"), accessFlags := 25, slot := 0, constantValue := 0 }, { name := "AIOOBE_FORMATTER", type := (.object "java/util/function/BiFunction"), accessFlags := 25, slot := 1, constantValue := 0 }, { name := "IOOBE_FORMATTER", type := (.object "java/util/function/BiFunction"), accessFlags := 25, slot := 2, constantValue := 0 }]
  methods := #[k30m0]
  instanceTypes := #[]
  staticTypes := #[(.object "java/util/function/BiFunction"), (.object "java/util/function/BiFunction"), (.object "java/util/function/BiFunction")]
  resolved := Array.replicate 194 none
  statics := some 3 }

def pool31 : Array CpInfo := pool [(9, u "<init>"), (6, .class_ 18), (1, u "java/lang/Object"), (0, u "()V"), (1, .class_ 23), (1, u "jdk/internal/util/ArraysSupport"), (0, u "LOG2_ARRAY_LONG_INDEX_SCALE"), (0, u "I"), (2, u "U"), (0, u "Ljdk/internal/misc/Unsafe;"), (8, u "BIG_ENDIAN"), (0, u "Z"), (8, u "LOG2_BYTE_BIT_SIZE"), (4, u "LOG2_ARRAY_INT_INDEX_SCALE"), (54, u "JLA"), (0, u "Ljdk/internal/access/JavaLangAccess;"), (11, u "LOG2_ARRAY_BOOLEAN_INDEX_SCALE"), (9, u "LOG2_ARRAY_BYTE_INDEX_SCALE"), (5, u "LOG2_ARRAY_CHAR_INDEX_SCALE"), (5, u "LOG2_ARRAY_SHORT_INDEX_SCALE"), (18, u "LOG2_ARRAY_FLOAT_INDEX_SCALE"), (24, u "LOG2_ARRAY_DOUBLE_INDEX_SCALE"), (89, u "T_BOOLEAN"), (2, u "T_CHAR"), (1, u "T_FLOAT"), (1, u "T_DOUBLE"), (1, u "T_BYTE"), (1, u "T_SHORT"), (1, u "T_INT"), (1, u "T_LONG"), (1, u "SOFT_MAX_ARRAY_LENGTH")] 83

def k31m0 : Method := { name := "<init>", desc := "()V", sig := { parameters := [], returnType := none }, accessFlags := 2, code := none }
/-- jdk/internal/util/ArraysSupport -/
def k31 : Class := { plain "jdk/internal/util/ArraysSupport" (some 0) with
  accessFlags := 33
  interfaces := #[]
  cf := some (fileOf pool31 21 #[] #[{ accessFlags := 2, nameIndex := 9, descriptorIndex := 19, attributes := #[] }] 33 16 #[] #[{ accessFlags := 24, nameIndex := 28, descriptorIndex := 29, attributes := #[] }, { accessFlags := 26, nameIndex := 38, descriptorIndex := 39, attributes := #[] }, { accessFlags := 25, nameIndex := 121, descriptorIndex := 25, attributes := #[] }, { accessFlags := 25, nameIndex := 131, descriptorIndex := 25, attributes := #[] }, { accessFlags := 25, nameIndex := 137, descriptorIndex := 25, attributes := #[] }, { accessFlags := 25, nameIndex := 143, descriptorIndex := 25, attributes := #[] }, { accessFlags := 25, nameIndex := 53, descriptorIndex := 25, attributes := #[] }, { accessFlags := 25, nameIndex := 24, descriptorIndex := 25, attributes := #[] }, { accessFlags := 25, nameIndex := 162, descriptorIndex := 25, attributes := #[] }, { accessFlags := 25, nameIndex := 187, descriptorIndex := 25, attributes := #[] }, { accessFlags := 26, nameIndex := 48, descriptorIndex := 25, attributes := #[] }, { accessFlags := 25, nameIndex := 277, descriptorIndex := 25, attributes := #[] }, { accessFlags := 25, nameIndex := 280, descriptorIndex := 25, attributes := #[] }, { accessFlags := 25, nameIndex := 282, descriptorIndex := 25, attributes := #[] }, { accessFlags := 25, nameIndex := 284, descriptorIndex := 25, attributes := #[] }, { accessFlags := 25, nameIndex := 286, descriptorIndex := 25, attributes := #[] }, { accessFlags := 25, nameIndex := 288, descriptorIndex := 25, attributes := #[] }, { accessFlags := 25, nameIndex := 290, descriptorIndex := 25, attributes := #[] }, { accessFlags := 25, nameIndex := 292, descriptorIndex := 25, attributes := #[] }, { accessFlags := 26, nameIndex := 108, descriptorIndex := 109, attributes := #[] }, { accessFlags := 25, nameIndex := 294, descriptorIndex := 25, attributes := #[] }])
  fields := #[{ name := "U", type := (.object "jdk/internal/misc/Unsafe"), accessFlags := 24, slot := 0, constantValue := 0 }, { name := "BIG_ENDIAN", type := .boolean, accessFlags := 26, slot := 1, constantValue := 0 }, { name := "LOG2_ARRAY_BOOLEAN_INDEX_SCALE", type := .int, accessFlags := 25, slot := 2, constantValue := 0 }, { name := "LOG2_ARRAY_BYTE_INDEX_SCALE", type := .int, accessFlags := 25, slot := 3, constantValue := 0 }, { name := "LOG2_ARRAY_CHAR_INDEX_SCALE", type := .int, accessFlags := 25, slot := 4, constantValue := 0 }, { name := "LOG2_ARRAY_SHORT_INDEX_SCALE", type := .int, accessFlags := 25, slot := 5, constantValue := 0 }, { name := "LOG2_ARRAY_INT_INDEX_SCALE", type := .int, accessFlags := 25, slot := 6, constantValue := 0 }, { name := "LOG2_ARRAY_LONG_INDEX_SCALE", type := .int, accessFlags := 25, slot := 7, constantValue := 0 }, { name := "LOG2_ARRAY_FLOAT_INDEX_SCALE", type := .int, accessFlags := 25, slot := 8, constantValue := 0 }, { name := "LOG2_ARRAY_DOUBLE_INDEX_SCALE", type := .int, accessFlags := 25, slot := 9, constantValue := 0 }, { name := "LOG2_BYTE_BIT_SIZE", type := .int, accessFlags := 26, slot := 10, constantValue := 0 }, { name := "T_BOOLEAN", type := .int, accessFlags := 25, slot := 11, constantValue := 0 }, { name := "T_CHAR", type := .int, accessFlags := 25, slot := 12, constantValue := 0 }, { name := "T_FLOAT", type := .int, accessFlags := 25, slot := 13, constantValue := 0 }, { name := "T_DOUBLE", type := .int, accessFlags := 25, slot := 14, constantValue := 0 }, { name := "T_BYTE", type := .int, accessFlags := 25, slot := 15, constantValue := 0 }, { name := "T_SHORT", type := .int, accessFlags := 25, slot := 16, constantValue := 0 }, { name := "T_INT", type := .int, accessFlags := 25, slot := 17, constantValue := 0 }, { name := "T_LONG", type := .int, accessFlags := 25, slot := 18, constantValue := 0 }, { name := "JLA", type := (.object "jdk/internal/access/JavaLangAccess"), accessFlags := 26, slot := 19, constantValue := 0 }, { name := "SOFT_MAX_ARRAY_LENGTH", type := .int, accessFlags := 25, slot := 20, constantValue := 0 }]
  methods := #[k31m0]
  instanceTypes := #[]
  staticTypes := #[(.object "jdk/internal/misc/Unsafe"), .boolean, .int, .int, .int, .int, .int, .int, .int, .int, .int, .int, .int, .int, .int, .int, .int, .int, .int, (.object "jdk/internal/access/JavaLangAccess"), .int]
  resolved := Array.replicate 378 none
  statics := none }

def pool32 : Array CpInfo := pool [(1, u "java/lang/Class"), (0, .class_ 1), (0, u "java/lang/Object"), (0, .class_ 3)] 3

/-- java/lang/Class -/
def k32 : Class := { plain "java/lang/Class" (some 0) with
  accessFlags := 49
  interfaces := #[]
  cf := some (fileOf pool32 2 #[] #[] 49 4 #[] #[])
  fields := #[]
  methods := #[]
  instanceTypes := #[]
  staticTypes := #[]
  resolved := Array.replicate 8 none
  statics := none }

/-- the primitive byte -/
def k33 : Class := { plain "byte" none with kind := .primitive 'B', accessFlags := 0x411 }
/-- [B -/
def k34 : Class := { plain "[B" (some 0) with kind := .array 33 .byte, interfaces := #[10, 11], accessFlags := 1041 }

/-- the primitive int -/
def k35 : Class := { plain "int" none with kind := .primitive 'I', accessFlags := 0x411 }
/-- [I -/
def k36 : Class := { plain "[I" (some 0) with kind := .array 35 .int, interfaces := #[10, 11], accessFlags := 1041 }

/-- [Ljava/lang/Object; -/
def k37 : Class := { plain "[Ljava/lang/Object;" (some 0) with kind := .array 0 (.object "java/lang/Object"), interfaces := #[10, 11], accessFlags := 1041, mirror := some 4 }

def heap : Heap := #[{ cls := 12, slots := #[.long 0, .int 0, .ref 5, .ref 6], vm := .statics 12 },
  { cls := 13, slots := #[.long 0, .int 0, .null, .ref 9, .ref 8, .null, .null, .null, .int 0, .int 1], vm := .statics 13 },
  { cls := 22, slots := #[.long 0, .int 1, .null, .int 0, .null, .int 0, .int 0], vm := .statics 22 },
  { cls := 30, slots := #[.null, .null, .null], vm := .statics 30 },
  { cls := 32, slots := #[], vm := .mirror 37 },
  { cls := 37, slots := #[], vm := .none },
  { cls := 37, slots := #[], vm := .none },
  { cls := 37, slots := #[], vm := .none },
  { cls := 17, slots := #[.ref 7, .int 0], vm := .none },
  { cls := 0, slots := #[], vm := .none }]
def classes : Array Class := #[k0, k1, k2, k3, k4, k5, k6, k7, k8, k9, k10, k11, k12, k13, k14, k15, k16, k17, k18, k19, k20, k21, k22, k23, k24, k25, k26, k27, k28, k29, k30, k31, k32, k33, k34, k35, k36, k37]
def interned : List (Array UInt16 × Addr) := []
def slotsUsed : Nat := 26
def theMethod : MethodId := ⟨1, 2⟩
def args0 : Array Value := #[.int 2, .int 1, .long 66]
def aboutOver (below : List Frame) : State where
  vm := { classes := classes, interned := interned.toArray }
  heap := heap
  slotsUsed := slotsUsed
  threads := #[{ frames := .invoking theMethod args0 :: below }]
def below0 : List Frame := [.native { method := ⟨0, 0⟩, args := #[] }]
def about1 : State := aboutOver below0
def p0 : Program := .bare "" "" ""
def e0 : Env := launch0.env 0 0 0
theorem w_frames : about1.frames = Frame.invoking theMethod args0 :: below0 := rfl
set_option maxRecDepth 65536 in
theorem w_args : argsFit about1.vm theMethod args0 = true := by decide +kernel
set_option maxRecDepth 65536 in
theorem w_heap : heapFits about1 = true := by decide +kernel
set_option maxRecDepth 65536 in
theorem w_runnable : about1.curStatus? = some .runnable := by decide +kernel
set_option maxRecDepth 65536 in
theorem w_alone : about1.alone = true := by decide +kernel
set_option maxRecDepth 65536 in
theorem w_named : about1.methodNamed? x = some theMethod := by decide +kernel
set_option maxRecDepth 65536 in
theorem w_hears : about1.hears theMethod below0 = true := by decide +kernel
set_option maxRecDepth 65536 in
theorem w_ripe : about1.ripe theMethod args0 below0 = true := by decide +kernel
theorem w_running : about1.status = .running := rfl
set_option maxRecDepth 65536 in
theorem w_room : about1.hasRoom e0.platform room_1 = true :=
  launch0.hasRoom_least _ room_1 (by decide +kernel) (by decide +kernel) (by decide +kernel) (by decide +kernel) (by decide +kernel) (by decide +kernel)
theorem allAtoms_all (ts : List Jvm.Cond) (a : Array Jvm.Value) (st : Jvm.State) : (allAtoms ts).before a st = ts.all (fun c => c.before a st) := by
  induction ts with
  | nil => rfl
  | cons c t ih =>
    show (Jvm.Cond.and c (allAtoms t)).before a st = _
    rw [Jvm.Cond.before_and, ih, List.all_cons]
def words1 : List Jvm.Cond := Jvm.Cond.code x code maxLocals ret :: tables_1
/-- a 'code' word, met by the world's own term for the bytes: nothing is compared byte by byte -/
theorem code_word {y : MethodName} {bytes : ByteArray} {mx : Nat} {rt : Option FieldType} {a : Array Value} {s : State} {m : MethodId} {meth : Method} {c : Code} (h1 : s.methodNamed? y = some m) (h2 : s.vm.method? m = some meth) (h3 : meth.code = some c) (h4 : c.code = bytes)
    (h5 : (c.maxLocals == mx && c.exceptionTable.isEmpty && decide (c.maxStack ≤ mostOperands) && decide (meth.sig.returnType = rt) && !meth.locks && decide (parseMethodDescriptor y.desc = some meth.sig)) = true) : (Jvm.Cond.code y bytes mx rt).before a s = true := by
  simp only [Bool.and_eq_true, beq_iff_eq, Bool.not_eq_true', decide_eq_true_eq] at h5
  obtain ⟨⟨⟨⟨⟨g1, g2⟩, g3⟩, g4⟩, g5⟩, g6⟩ := h5
  simp [Cond.before, Cond.holds, Cond.value, h1, h2, h3, h4, g1, g2, g3, g4, g5, g6]
def isCode : Jvm.Cond → Bool
  | .code _ _ _ _ => true
  | _ => false
theorem all_split {L : List Jvm.Cond} {P : Jvm.Cond → Bool} (h1 : L.all (fun c => isCode c || P c) = true) (h2 : ∀ c ∈ L.filter isCode, P c = true) : L.all P = true := by
  refine List.all_eq_true.mpr fun c hc => ?_
  have h := List.all_eq_true.mp h1 c hc
  rcases Bool.eq_false_or_eq_true (isCode c) with hi | hi
  · exact h2 c (List.mem_filter.mpr ⟨hc, hi⟩)
  · simpa [hi] using h
set_option maxRecDepth 65536 in
theorem w_c0 : (Jvm.Cond.code x code maxLocals ret).before args0 about1 = true := code_word (m := ⟨1, 2⟩) (meth := k1m2) (c := k1c2) (by decide +kernel) rfl rfl rfl (by decide +kernel)
set_option maxRecDepth 65536 in
theorem w_c1 : (Jvm.Cond.code ({ cls := "com/example/talaria/talaria/model/Faults", name := "<init>", desc := "()V" } : Jvm.MethodName) prog_17_method_1_code (1 : Nat) (Option.none : Option Jvm.ClassFile.FieldType)).before args0 about1 = true := code_word (m := ⟨2, 0⟩) (meth := k2m0) (c := k2c0) (by decide +kernel) rfl rfl rfl (by decide +kernel)
set_option maxRecDepth 65536 in
theorem w_c2 : (Jvm.Cond.code ({ cls := "java/lang/Object", name := "<init>", desc := "()V" } : Jvm.MethodName) object_method_1_code (1 : Nat) (Option.none : Option Jvm.ClassFile.FieldType)).before args0 about1 = true := code_word (m := ⟨0, 0⟩) (meth := k0m0) (c := k0c0) (by decide +kernel) rfl rfl rfl (by decide +kernel)
set_option maxRecDepth 65536 in
theorem w_c3 : (Jvm.Cond.code ({ cls := "java/util/ArrayList", name := "<init>", desc := "()V" } : Jvm.MethodName) jdk_38_method_2_code (1 : Nat) (Option.none : Option Jvm.ClassFile.FieldType)).before args0 about1 = true := code_word (m := ⟨12, 0⟩) (meth := k12m0) (c := k12c0) (by decide +kernel) rfl rfl rfl (by decide +kernel)
set_option maxRecDepth 65536 in
theorem w_c4 : (Jvm.Cond.code ({ cls := "java/util/AbstractList", name := "<init>", desc := "()V" } : Jvm.MethodName) jdk_39_method_1_code (1 : Nat) (Option.none : Option Jvm.ClassFile.FieldType)).before args0 about1 = true := code_word (m := ⟨8, 0⟩) (meth := k8m0) (c := k8c0) (by decide +kernel) rfl rfl rfl (by decide +kernel)
set_option maxRecDepth 65536 in
theorem w_c5 : (Jvm.Cond.code ({ cls := "java/util/AbstractCollection", name := "<init>", desc := "()V" } : Jvm.MethodName) jdk_22_method_1_code (1 : Nat) (Option.none : Option Jvm.ClassFile.FieldType)).before args0 about1 = true := code_word (m := ⟨5, 0⟩) (meth := k5m0) (c := k5c0) (by decide +kernel) rfl rfl rfl (by decide +kernel)
set_option maxRecDepth 65536 in
theorem w_c6 : (Jvm.Cond.code ({ cls := "com/example/talaria/talaria/model/Faults", name := "full", desc := "()Z" } : Jvm.MethodName) prog_17_method_6_code (1 : Nat) (Option.some Jvm.ClassFile.FieldType.boolean)).before args0 about1 = true := code_word (m := ⟨2, 5⟩) (meth := k2m5) (c := k2c5) (by decide +kernel) rfl rfl rfl (by decide +kernel)
set_option maxRecDepth 65536 in
theorem w_c7 : (Jvm.Cond.code ({ cls := "com/example/talaria/talaria/model/Faults", name := "isEmpty", desc := "()Z" } : Jvm.MethodName) prog_17_method_5_code (1 : Nat) (Option.some Jvm.ClassFile.FieldType.boolean)).before args0 about1 = true := code_word (m := ⟨2, 4⟩) (meth := k2m4) (c := k2c4) (by decide +kernel) rfl rfl rfl (by decide +kernel)
set_option maxRecDepth 65536 in
theorem w_c8 : (Jvm.Cond.code ({ cls := "com/example/talaria/talaria/model/Faults", name := "params", desc := "()Ljava/util/List;" } : Jvm.MethodName) prog_17_method_8_code (1 : Nat) (Option.some (Jvm.ClassFile.FieldType.object "java/util/List"))).before args0 about1 = true := code_word (m := ⟨2, 6⟩) (meth := k2m6) (c := k2c6) (by decide +kernel) rfl rfl rfl (by decide +kernel)
set_option maxRecDepth 65536 in
theorem w_c9 : (Jvm.Cond.code ({ cls := "java/util/List", name := "copyOf", desc := "(Ljava/util/Collection;)Ljava/util/List;" } : Jvm.MethodName) jdk_40_method_48_code (1 : Nat) (Option.some (Jvm.ClassFile.FieldType.object "java/util/List"))).before args0 about1 = true := code_word (m := ⟨7, 4⟩) (meth := k7m4) (c := k7c4) (by decide +kernel) rfl rfl rfl (by decide +kernel)
set_option maxRecDepth 65536 in
theorem w_c10 : (Jvm.Cond.code ({ cls := "java/util/ImmutableCollections", name := "listCopy", desc := "(Ljava/util/Collection;)Ljava/util/List;" } : Jvm.MethodName) jdk_56_method_3_code (2 : Nat) (Option.some (Jvm.ClassFile.FieldType.object "java/util/List"))).before args0 about1 = true := code_word (m := ⟨13, 1⟩) (meth := k13m1) (c := k13c1) (by decide +kernel) rfl rfl rfl (by decide +kernel)
set_option maxRecDepth 65536 in
theorem w_c11 : (Jvm.Cond.code ({ cls := "java/util/ArrayList", name := "isEmpty", desc := "()Z" } : Jvm.MethodName) jdk_38_method_9_code (1 : Nat) (Option.some Jvm.ClassFile.FieldType.boolean)).before args0 about1 = true := code_word (m := ⟨12, 4⟩) (meth := k12m4) (c := k12c4) (by decide +kernel) rfl rfl rfl (by decide +kernel)
set_option maxRecDepth 65536 in
theorem w_c12 : (Jvm.Cond.code ({ cls := "java/util/List", name := "of", desc := "()Ljava/util/List;" } : Jvm.MethodName) jdk_40_method_36_code (0 : Nat) (Option.some (Jvm.ClassFile.FieldType.object "java/util/List"))).before args0 about1 = true := code_word (m := ⟨7, 2⟩) (meth := k7m2) (c := k7c2) (by decide +kernel) rfl rfl rfl (by decide +kernel)
set_option maxRecDepth 65536 in
theorem w_c13 : (Jvm.Cond.code ({ cls := "java/util/ImmutableCollections$ListN", name := "size", desc := "()I" } : Jvm.MethodName) jdk_45_method_3_code (1 : Nat) (Option.some Jvm.ClassFile.FieldType.int)).before args0 about1 = true := code_word (m := ⟨17, 1⟩) (meth := k17m1) (c := k17c1) (by decide +kernel) rfl rfl rfl (by decide +kernel)
set_option maxRecDepth 65536 in
theorem w_c14 : (Jvm.Cond.code ({ cls := "com/example/talaria/talaria/model/FaultsFullPinLaw", name := "put", desc := "(Lcom/example/talaria/talaria/model/Faults;II)V" } : Jvm.MethodName) method_2_code (4 : Nat) (Option.none : Option Jvm.ClassFile.FieldType)).before args0 about1 = true := code_word (m := ⟨1, 1⟩) (meth := k1m1) (c := k1c1) (by decide +kernel) rfl rfl rfl (by decide +kernel)
set_option maxRecDepth 65536 in
theorem w_c15 : (Jvm.Cond.code ({ cls := "java/lang/String", name := "valueOf", desc := "(C)Ljava/lang/String;" } : Jvm.MethodName) jdk_42_method_139_code (1 : Nat) (Option.some (Jvm.ClassFile.FieldType.object "java/lang/String"))).before args0 about1 = true := code_word (m := ⟨22, 1⟩) (meth := k22m1) (c := k22c1) (by decide +kernel) rfl rfl rfl (by decide +kernel)
set_option maxRecDepth 65536 in
theorem w_c16 : (Jvm.Cond.code ({ cls := "java/lang/StringLatin1", name := "canEncode", desc := "(C)Z" } : Jvm.MethodName) jdk_43_method_3_code (1 : Nat) (Option.some Jvm.ClassFile.FieldType.boolean)).before args0 about1 = true := code_word (m := ⟨23, 1⟩) (meth := k23m1) (c := k23c1) (by decide +kernel) rfl rfl rfl (by decide +kernel)
set_option maxRecDepth 65536 in
theorem w_c17 : (Jvm.Cond.code ({ cls := "java/lang/StringLatin1", name := "toBytes", desc := "(C)[B" } : Jvm.MethodName) jdk_43_method_46_code (1 : Nat) (Option.some (Jvm.ClassFile.FieldType.array Jvm.ClassFile.FieldType.byte))).before args0 about1 = true := code_word (m := ⟨23, 2⟩) (meth := k23m2) (c := k23c2) (by decide +kernel) rfl rfl rfl (by decide +kernel)
set_option maxRecDepth 65536 in
theorem w_c18 : (Jvm.Cond.code ({ cls := "java/lang/String", name := "<init>", desc := "([BB)V" } : Jvm.MethodName) jdk_42_method_151_code (3 : Nat) (Option.none : Option Jvm.ClassFile.FieldType)).before args0 about1 = true := code_word (m := ⟨22, 2⟩) (meth := k22m2) (c := k22c2) (by decide +kernel) rfl rfl rfl (by decide +kernel)
set_option maxRecDepth 65536 in
theorem w_c19 : (Jvm.Cond.code ({ cls := "com/example/talaria/talaria/model/Faults", name := "incorrect", desc := "(Ljava/lang/String;Ljava/lang/String;)V" } : Jvm.MethodName) prog_17_method_3_code (3 : Nat) (Option.none : Option Jvm.ClassFile.FieldType)).before args0 about1 = true := code_word (m := ⟨2, 2⟩) (meth := k2m2) (c := k2c2) (by decide +kernel) rfl rfl rfl (by decide +kernel)
set_option maxRecDepth 65536 in
theorem w_c20 : (Jvm.Cond.code ({ cls := "com/example/talaria/talaria/model/ProblemDetails$InvalidParam", name := "<init>", desc := "(Ljava/lang/String;Ljava/lang/String;)V" } : Jvm.MethodName) prog_23_method_1_code (3 : Nat) (Option.none : Option Jvm.ClassFile.FieldType)).before args0 about1 = true := code_word (m := ⟨25, 0⟩) (meth := k25m0) (c := k25c0) (by decide +kernel) rfl rfl rfl (by decide +kernel)
set_option maxRecDepth 65536 in
theorem w_c21 : (Jvm.Cond.code ({ cls := "java/lang/Record", name := "<init>", desc := "()V" } : Jvm.MethodName) jdk_30_method_1_code (1 : Nat) (Option.none : Option Jvm.ClassFile.FieldType)).before args0 about1 = true := code_word (m := ⟨24, 0⟩) (meth := k24m0) (c := k24c0) (by decide +kernel) rfl rfl rfl (by decide +kernel)
set_option maxRecDepth 65536 in
theorem w_c22 : (Jvm.Cond.code ({ cls := "com/example/talaria/talaria/model/Faults", name := "add", desc := "(Lcom/example/talaria/talaria/model/ProblemDetails$InvalidParam;)V" } : Jvm.MethodName) prog_17_method_4_code (2 : Nat) (Option.none : Option Jvm.ClassFile.FieldType)).before args0 about1 = true := code_word (m := ⟨2, 3⟩) (meth := k2m3) (c := k2c3) (by decide +kernel) rfl rfl rfl (by decide +kernel)
set_option maxRecDepth 65536 in
theorem w_c23 : (Jvm.Cond.code ({ cls := "java/util/ArrayList", name := "size", desc := "()I" } : Jvm.MethodName) jdk_38_method_8_code (1 : Nat) (Option.some Jvm.ClassFile.FieldType.int)).before args0 about1 = true := code_word (m := ⟨12, 3⟩) (meth := k12m3) (c := k12c3) (by decide +kernel) rfl rfl rfl (by decide +kernel)
set_option maxRecDepth 65536 in
theorem w_c24 : (Jvm.Cond.code ({ cls := "java/util/ArrayList", name := "add", desc := "(Ljava/lang/Object;)Z" } : Jvm.MethodName) jdk_38_method_25_code (2 : Nat) (Option.some Jvm.ClassFile.FieldType.boolean)).before args0 about1 = true := code_word (m := ⟨12, 7⟩) (meth := k12m7) (c := k12c7) (by decide +kernel) rfl rfl rfl (by decide +kernel)
set_option maxRecDepth 65536 in
theorem w_c25 : (Jvm.Cond.code ({ cls := "java/util/ArrayList", name := "add", desc := "(Ljava/lang/Object;[Ljava/lang/Object;I)V" } : Jvm.MethodName) jdk_38_method_24_code (4 : Nat) (Option.none : Option Jvm.ClassFile.FieldType)).before args0 about1 = true := code_word (m := ⟨12, 6⟩) (meth := k12m6) (c := k12c6) (by decide +kernel) rfl rfl rfl (by decide +kernel)
set_option maxRecDepth 65536 in
theorem w_c26 : (Jvm.Cond.code ({ cls := "java/util/ArrayList", name := "grow", desc := "()[Ljava/lang/Object;" } : Jvm.MethodName) jdk_38_method_7_code (1 : Nat) (Option.some (Jvm.ClassFile.FieldType.array (Jvm.ClassFile.FieldType.object "java/lang/Object")))).before args0 about1 = true := code_word (m := ⟨12, 2⟩) (meth := k12m2) (c := k12c2) (by decide +kernel) rfl rfl rfl (by decide +kernel)
set_option maxRecDepth 65536 in
theorem w_c27 : (Jvm.Cond.code ({ cls := "java/util/ArrayList", name := "grow", desc := "(I)[Ljava/lang/Object;" } : Jvm.MethodName) jdk_38_method_6_code (4 : Nat) (Option.some (Jvm.ClassFile.FieldType.array (Jvm.ClassFile.FieldType.object "java/lang/Object")))).before args0 about1 = true := code_word (m := ⟨12, 1⟩) (meth := k12m1) (c := k12c1) (by decide +kernel) rfl rfl rfl (by decide +kernel)
set_option maxRecDepth 65536 in
theorem w_c28 : (Jvm.Cond.code ({ cls := "java/lang/Math", name := "max", desc := "(II)I" } : Jvm.MethodName) jdk_29_method_65_code (2 : Nat) (Option.some Jvm.ClassFile.FieldType.int)).before args0 about1 = true := code_word (m := ⟨26, 1⟩) (meth := k26m1) (c := k26c1) (by decide +kernel) rfl rfl rfl (by decide +kernel)
set_option maxRecDepth 65536 in
theorem w_c29 : (Jvm.Cond.code ({ cls := "com/example/talaria/talaria/model/Faults", name := "missing", desc := "(Ljava/lang/String;)V" } : Jvm.MethodName) prog_17_method_2_code (2 : Nat) (Option.none : Option Jvm.ClassFile.FieldType)).before args0 about1 = true := code_word (m := ⟨2, 1⟩) (meth := k2m1) (c := k2c1) (by decide +kernel) rfl rfl rfl (by decide +kernel)
set_option maxRecDepth 65536 in
theorem w_c30 : (Jvm.Cond.code ({ cls := "java/util/ArrayList", name := "toArray", desc := "()[Ljava/lang/Object;" } : Jvm.MethodName) jdk_38_method_16_code (1 : Nat) (Option.some (Jvm.ClassFile.FieldType.array (Jvm.ClassFile.FieldType.object "java/lang/Object")))).before args0 about1 = true := code_word (m := ⟨12, 5⟩) (meth := k12m5) (c := k12c5) (by decide +kernel) rfl rfl rfl (by decide +kernel)
set_option maxRecDepth 65536 in
theorem w_c31 : (Jvm.Cond.code ({ cls := "java/util/Arrays", name := "copyOf", desc := "([Ljava/lang/Object;I)[Ljava/lang/Object;" } : Jvm.MethodName) jdk_65_method_119_code (2 : Nat) (Option.some (Jvm.ClassFile.FieldType.array (Jvm.ClassFile.FieldType.object "java/lang/Object")))).before args0 about1 = true := code_word (m := ⟨27, 1⟩) (meth := k27m1) (c := k27c1) (by decide +kernel) rfl rfl rfl (by decide +kernel)
set_option maxRecDepth 65536 in
theorem w_c32 : (Jvm.Cond.code ({ cls := "java/util/Arrays", name := "copyOf", desc := "([Ljava/lang/Object;ILjava/lang/Class;)[Ljava/lang/Object;" } : Jvm.MethodName) jdk_65_method_120_code (4 : Nat) (Option.some (Jvm.ClassFile.FieldType.array (Jvm.ClassFile.FieldType.object "java/lang/Object")))).before args0 about1 = true := code_word (m := ⟨27, 2⟩) (meth := k27m2) (c := k27c2) (by decide +kernel) rfl rfl rfl (by decide +kernel)
set_option maxRecDepth 65536 in
theorem w_c33 : (Jvm.Cond.code ({ cls := "java/lang/Math", name := "min", desc := "(II)I" } : Jvm.MethodName) jdk_29_method_69_code (2 : Nat) (Option.some Jvm.ClassFile.FieldType.int)).before args0 about1 = true := code_word (m := ⟨26, 2⟩) (meth := k26m2) (c := k26c2) (by decide +kernel) rfl rfl rfl (by decide +kernel)
set_option maxRecDepth 65536 in
theorem w_c34 : (Jvm.Cond.code ({ cls := "java/util/List", name := "of", desc := "([Ljava/lang/Object;)Ljava/util/List;" } : Jvm.MethodName) jdk_40_method_47_code (2 : Nat) (Option.some (Jvm.ClassFile.FieldType.object "java/util/List"))).before args0 about1 = true := code_word (m := ⟨7, 3⟩) (meth := k7m3) (c := k7c3) (by decide +kernel) rfl rfl rfl (by decide +kernel)
set_option maxRecDepth 65536 in
theorem w_c35 : (Jvm.Cond.code ({ cls := "java/util/ImmutableCollections", name := "listFromArray", desc := "([Ljava/lang/Object;)Ljava/util/List;" } : Jvm.MethodName) jdk_56_method_4_code (3 : Nat) (Option.some (Jvm.ClassFile.FieldType.object "java/util/List"))).before args0 about1 = true := code_word (m := ⟨13, 2⟩) (meth := k13m2) (c := k13c2) (by decide +kernel) rfl rfl rfl (by decide +kernel)
set_option maxRecDepth 65536 in
theorem w_c36 : (Jvm.Cond.code ({ cls := "java/util/Objects", name := "requireNonNull", desc := "(Ljava/lang/Object;)Ljava/lang/Object;" } : Jvm.MethodName) jdk_31_method_10_code (1 : Nat) (Option.some (Jvm.ClassFile.FieldType.object "java/lang/Object"))).before args0 about1 = true := code_word (m := ⟨29, 1⟩) (meth := k29m1) (c := k29c1) (by decide +kernel) rfl rfl rfl (by decide +kernel)
set_option maxRecDepth 65536 in
theorem w_c37 : (Jvm.Cond.code ({ cls := "java/util/ImmutableCollections$ListN", name := "<init>", desc := "([Ljava/lang/Object;Z)V" } : Jvm.MethodName) jdk_45_method_1_code (3 : Nat) (Option.none : Option Jvm.ClassFile.FieldType)).before args0 about1 = true := code_word (m := ⟨17, 0⟩) (meth := k17m0) (c := k17c0) (by decide +kernel) rfl rfl rfl (by decide +kernel)
set_option maxRecDepth 65536 in
theorem w_c38 : (Jvm.Cond.code ({ cls := "java/util/ImmutableCollections$AbstractImmutableList", name := "<init>", desc := "()V" } : Jvm.MethodName) jdk_46_method_1_code (1 : Nat) (Option.none : Option Jvm.ClassFile.FieldType)).before args0 about1 = true := code_word (m := ⟨15, 0⟩) (meth := k15m0) (c := k15c0) (by decide +kernel) rfl rfl rfl (by decide +kernel)
set_option maxRecDepth 65536 in
theorem w_c39 : (Jvm.Cond.code ({ cls := "java/util/ImmutableCollections$AbstractImmutableCollection", name := "<init>", desc := "()V" } : Jvm.MethodName) jdk_47_method_1_code (1 : Nat) (Option.none : Option Jvm.ClassFile.FieldType)).before args0 about1 = true := code_word (m := ⟨14, 0⟩) (meth := k14m0) (c := k14c0) (by decide +kernel) rfl rfl rfl (by decide +kernel)
set_option maxRecDepth 65536 in
theorem w_c40 : (Jvm.Cond.code ({ cls := "java/util/ImmutableCollections$List12", name := "<init>", desc := "(Ljava/lang/Object;Ljava/lang/Object;)V" } : Jvm.MethodName) jdk_44_method_2_code (3 : Nat) (Option.none : Option Jvm.ClassFile.FieldType)).before args0 about1 = true := code_word (m := ⟨16, 1⟩) (meth := k16m1) (c := k16c1) (by decide +kernel) rfl rfl rfl (by decide +kernel)
set_option maxRecDepth 65536 in
theorem w_c41 : (Jvm.Cond.code ({ cls := "java/util/ImmutableCollections$List12", name := "size", desc := "()I" } : Jvm.MethodName) jdk_44_method_3_code (1 : Nat) (Option.some Jvm.ClassFile.FieldType.int)).before args0 about1 = true := code_word (m := ⟨16, 2⟩) (meth := k16m2) (c := k16c2) (by decide +kernel) rfl rfl rfl (by decide +kernel)
set_option maxRecDepth 65536 in
theorem w_c42 : (Jvm.Cond.code ({ cls := "java/util/ImmutableCollections$List12", name := "<init>", desc := "(Ljava/lang/Object;)V" } : Jvm.MethodName) jdk_44_method_1_code (2 : Nat) (Option.none : Option Jvm.ClassFile.FieldType)).before args0 about1 = true := code_word (m := ⟨16, 0⟩) (meth := k16m0) (c := k16c0) (by decide +kernel) rfl rfl rfl (by decide +kernel)
def codes1 : List Jvm.Cond := [Jvm.Cond.code x code maxLocals ret, Jvm.Cond.code ({ cls := "com/example/talaria/talaria/model/Faults", name := "<init>", desc := "()V" } : Jvm.MethodName) prog_17_method_1_code (1 : Nat) (Option.none : Option Jvm.ClassFile.FieldType), Jvm.Cond.code ({ cls := "java/lang/Object", name := "<init>", desc := "()V" } : Jvm.MethodName) object_method_1_code (1 : Nat) (Option.none : Option Jvm.ClassFile.FieldType), Jvm.Cond.code ({ cls := "java/util/ArrayList", name := "<init>", desc := "()V" } : Jvm.MethodName) jdk_38_method_2_code (1 : Nat) (Option.none : Option Jvm.ClassFile.FieldType), Jvm.Cond.code ({ cls := "java/util/AbstractList", name := "<init>", desc := "()V" } : Jvm.MethodName) jdk_39_method_1_code (1 : Nat) (Option.none : Option Jvm.ClassFile.FieldType), Jvm.Cond.code ({ cls := "java/util/AbstractCollection", name := "<init>", desc := "()V" } : Jvm.MethodName) jdk_22_method_1_code (1 : Nat) (Option.none : Option Jvm.ClassFile.FieldType), Jvm.Cond.code ({ cls := "com/example/talaria/talaria/model/Faults", name := "full", desc := "()Z" } : Jvm.MethodName) prog_17_method_6_code (1 : Nat) (Option.some Jvm.ClassFile.FieldType.boolean), Jvm.Cond.code ({ cls := "com/example/talaria/talaria/model/Faults", name := "isEmpty", desc := "()Z" } : Jvm.MethodName) prog_17_method_5_code (1 : Nat) (Option.some Jvm.ClassFile.FieldType.boolean), Jvm.Cond.code ({ cls := "com/example/talaria/talaria/model/Faults", name := "params", desc := "()Ljava/util/List;" } : Jvm.MethodName) prog_17_method_8_code (1 : Nat) (Option.some (Jvm.ClassFile.FieldType.object "java/util/List")), Jvm.Cond.code ({ cls := "java/util/List", name := "copyOf", desc := "(Ljava/util/Collection;)Ljava/util/List;" } : Jvm.MethodName) jdk_40_method_48_code (1 : Nat) (Option.some (Jvm.ClassFile.FieldType.object "java/util/List")), Jvm.Cond.code ({ cls := "java/util/ImmutableCollections", name := "listCopy", desc := "(Ljava/util/Collection;)Ljava/util/List;" } : Jvm.MethodName) jdk_56_method_3_code (2 : Nat) (Option.some (Jvm.ClassFile.FieldType.object "java/util/List")), Jvm.Cond.code ({ cls := "java/util/ArrayList", name := "isEmpty", desc := "()Z" } : Jvm.MethodName) jdk_38_method_9_code (1 : Nat) (Option.some Jvm.ClassFile.FieldType.boolean), Jvm.Cond.code ({ cls := "java/util/List", name := "of", desc := "()Ljava/util/List;" } : Jvm.MethodName) jdk_40_method_36_code (0 : Nat) (Option.some (Jvm.ClassFile.FieldType.object "java/util/List")), Jvm.Cond.code ({ cls := "java/util/ImmutableCollections$ListN", name := "size", desc := "()I" } : Jvm.MethodName) jdk_45_method_3_code (1 : Nat) (Option.some Jvm.ClassFile.FieldType.int), Jvm.Cond.code ({ cls := "com/example/talaria/talaria/model/FaultsFullPinLaw", name := "put", desc := "(Lcom/example/talaria/talaria/model/Faults;II)V" } : Jvm.MethodName) method_2_code (4 : Nat) (Option.none : Option Jvm.ClassFile.FieldType), Jvm.Cond.code ({ cls := "java/lang/String", name := "valueOf", desc := "(C)Ljava/lang/String;" } : Jvm.MethodName) jdk_42_method_139_code (1 : Nat) (Option.some (Jvm.ClassFile.FieldType.object "java/lang/String")), Jvm.Cond.code ({ cls := "java/lang/StringLatin1", name := "canEncode", desc := "(C)Z" } : Jvm.MethodName) jdk_43_method_3_code (1 : Nat) (Option.some Jvm.ClassFile.FieldType.boolean), Jvm.Cond.code ({ cls := "java/lang/StringLatin1", name := "toBytes", desc := "(C)[B" } : Jvm.MethodName) jdk_43_method_46_code (1 : Nat) (Option.some (Jvm.ClassFile.FieldType.array Jvm.ClassFile.FieldType.byte)), Jvm.Cond.code ({ cls := "java/lang/String", name := "<init>", desc := "([BB)V" } : Jvm.MethodName) jdk_42_method_151_code (3 : Nat) (Option.none : Option Jvm.ClassFile.FieldType), Jvm.Cond.code ({ cls := "com/example/talaria/talaria/model/Faults", name := "incorrect", desc := "(Ljava/lang/String;Ljava/lang/String;)V" } : Jvm.MethodName) prog_17_method_3_code (3 : Nat) (Option.none : Option Jvm.ClassFile.FieldType), Jvm.Cond.code ({ cls := "com/example/talaria/talaria/model/ProblemDetails$InvalidParam", name := "<init>", desc := "(Ljava/lang/String;Ljava/lang/String;)V" } : Jvm.MethodName) prog_23_method_1_code (3 : Nat) (Option.none : Option Jvm.ClassFile.FieldType), Jvm.Cond.code ({ cls := "java/lang/Record", name := "<init>", desc := "()V" } : Jvm.MethodName) jdk_30_method_1_code (1 : Nat) (Option.none : Option Jvm.ClassFile.FieldType), Jvm.Cond.code ({ cls := "com/example/talaria/talaria/model/Faults", name := "add", desc := "(Lcom/example/talaria/talaria/model/ProblemDetails$InvalidParam;)V" } : Jvm.MethodName) prog_17_method_4_code (2 : Nat) (Option.none : Option Jvm.ClassFile.FieldType), Jvm.Cond.code ({ cls := "java/util/ArrayList", name := "size", desc := "()I" } : Jvm.MethodName) jdk_38_method_8_code (1 : Nat) (Option.some Jvm.ClassFile.FieldType.int), Jvm.Cond.code ({ cls := "java/util/ArrayList", name := "add", desc := "(Ljava/lang/Object;)Z" } : Jvm.MethodName) jdk_38_method_25_code (2 : Nat) (Option.some Jvm.ClassFile.FieldType.boolean), Jvm.Cond.code ({ cls := "java/util/ArrayList", name := "add", desc := "(Ljava/lang/Object;[Ljava/lang/Object;I)V" } : Jvm.MethodName) jdk_38_method_24_code (4 : Nat) (Option.none : Option Jvm.ClassFile.FieldType), Jvm.Cond.code ({ cls := "java/util/ArrayList", name := "grow", desc := "()[Ljava/lang/Object;" } : Jvm.MethodName) jdk_38_method_7_code (1 : Nat) (Option.some (Jvm.ClassFile.FieldType.array (Jvm.ClassFile.FieldType.object "java/lang/Object"))), Jvm.Cond.code ({ cls := "java/util/ArrayList", name := "grow", desc := "(I)[Ljava/lang/Object;" } : Jvm.MethodName) jdk_38_method_6_code (4 : Nat) (Option.some (Jvm.ClassFile.FieldType.array (Jvm.ClassFile.FieldType.object "java/lang/Object"))), Jvm.Cond.code ({ cls := "java/lang/Math", name := "max", desc := "(II)I" } : Jvm.MethodName) jdk_29_method_65_code (2 : Nat) (Option.some Jvm.ClassFile.FieldType.int), Jvm.Cond.code ({ cls := "com/example/talaria/talaria/model/Faults", name := "missing", desc := "(Ljava/lang/String;)V" } : Jvm.MethodName) prog_17_method_2_code (2 : Nat) (Option.none : Option Jvm.ClassFile.FieldType), Jvm.Cond.code ({ cls := "java/util/ArrayList", name := "toArray", desc := "()[Ljava/lang/Object;" } : Jvm.MethodName) jdk_38_method_16_code (1 : Nat) (Option.some (Jvm.ClassFile.FieldType.array (Jvm.ClassFile.FieldType.object "java/lang/Object"))), Jvm.Cond.code ({ cls := "java/util/Arrays", name := "copyOf", desc := "([Ljava/lang/Object;I)[Ljava/lang/Object;" } : Jvm.MethodName) jdk_65_method_119_code (2 : Nat) (Option.some (Jvm.ClassFile.FieldType.array (Jvm.ClassFile.FieldType.object "java/lang/Object"))), Jvm.Cond.code ({ cls := "java/util/Arrays", name := "copyOf", desc := "([Ljava/lang/Object;ILjava/lang/Class;)[Ljava/lang/Object;" } : Jvm.MethodName) jdk_65_method_120_code (4 : Nat) (Option.some (Jvm.ClassFile.FieldType.array (Jvm.ClassFile.FieldType.object "java/lang/Object"))), Jvm.Cond.code ({ cls := "java/lang/Math", name := "min", desc := "(II)I" } : Jvm.MethodName) jdk_29_method_69_code (2 : Nat) (Option.some Jvm.ClassFile.FieldType.int), Jvm.Cond.code ({ cls := "java/util/List", name := "of", desc := "([Ljava/lang/Object;)Ljava/util/List;" } : Jvm.MethodName) jdk_40_method_47_code (2 : Nat) (Option.some (Jvm.ClassFile.FieldType.object "java/util/List")), Jvm.Cond.code ({ cls := "java/util/ImmutableCollections", name := "listFromArray", desc := "([Ljava/lang/Object;)Ljava/util/List;" } : Jvm.MethodName) jdk_56_method_4_code (3 : Nat) (Option.some (Jvm.ClassFile.FieldType.object "java/util/List")), Jvm.Cond.code ({ cls := "java/util/Objects", name := "requireNonNull", desc := "(Ljava/lang/Object;)Ljava/lang/Object;" } : Jvm.MethodName) jdk_31_method_10_code (1 : Nat) (Option.some (Jvm.ClassFile.FieldType.object "java/lang/Object")), Jvm.Cond.code ({ cls := "java/util/ImmutableCollections$ListN", name := "<init>", desc := "([Ljava/lang/Object;Z)V" } : Jvm.MethodName) jdk_45_method_1_code (3 : Nat) (Option.none : Option Jvm.ClassFile.FieldType), Jvm.Cond.code ({ cls := "java/util/ImmutableCollections$AbstractImmutableList", name := "<init>", desc := "()V" } : Jvm.MethodName) jdk_46_method_1_code (1 : Nat) (Option.none : Option Jvm.ClassFile.FieldType), Jvm.Cond.code ({ cls := "java/util/ImmutableCollections$AbstractImmutableCollection", name := "<init>", desc := "()V" } : Jvm.MethodName) jdk_47_method_1_code (1 : Nat) (Option.none : Option Jvm.ClassFile.FieldType), Jvm.Cond.code ({ cls := "java/util/ImmutableCollections$List12", name := "<init>", desc := "(Ljava/lang/Object;Ljava/lang/Object;)V" } : Jvm.MethodName) jdk_44_method_2_code (3 : Nat) (Option.none : Option Jvm.ClassFile.FieldType), Jvm.Cond.code ({ cls := "java/util/ImmutableCollections$List12", name := "size", desc := "()I" } : Jvm.MethodName) jdk_44_method_3_code (1 : Nat) (Option.some Jvm.ClassFile.FieldType.int), Jvm.Cond.code ({ cls := "java/util/ImmutableCollections$List12", name := "<init>", desc := "(Ljava/lang/Object;)V" } : Jvm.MethodName) jdk_44_method_1_code (2 : Nat) (Option.none : Option Jvm.ClassFile.FieldType)]
set_option maxRecDepth 65536 in
theorem codes_eq : words1.filter isCode = codes1 := rfl
theorem w_codes : ∀ c ∈ words1.filter isCode, c.before args0 about1 = true := by
  rw [codes_eq]
  intro c hc
  simp only [codes1, List.mem_cons, List.not_mem_nil, or_false] at hc
  rcases hc with rfl | rfl | rfl | rfl | rfl | rfl | rfl | rfl | rfl | rfl | rfl | rfl | rfl | rfl | rfl | rfl | rfl | rfl | rfl | rfl | rfl | rfl | rfl | rfl | rfl | rfl | rfl | rfl | rfl | rfl | rfl | rfl | rfl | rfl | rfl | rfl | rfl | rfl | rfl | rfl | rfl | rfl | rfl
  · exact w_c0
  · exact w_c1
  · exact w_c2
  · exact w_c3
  · exact w_c4
  · exact w_c5
  · exact w_c6
  · exact w_c7
  · exact w_c8
  · exact w_c9
  · exact w_c10
  · exact w_c11
  · exact w_c12
  · exact w_c13
  · exact w_c14
  · exact w_c15
  · exact w_c16
  · exact w_c17
  · exact w_c18
  · exact w_c19
  · exact w_c20
  · exact w_c21
  · exact w_c22
  · exact w_c23
  · exact w_c24
  · exact w_c25
  · exact w_c26
  · exact w_c27
  · exact w_c28
  · exact w_c29
  · exact w_c30
  · exact w_c31
  · exact w_c32
  · exact w_c33
  · exact w_c34
  · exact w_c35
  · exact w_c36
  · exact w_c37
  · exact w_c38
  · exact w_c39
  · exact w_c40
  · exact w_c41
  · exact w_c42
set_option maxRecDepth 65536 in
theorem w_t1 : (words1.take 24).all (fun c => isCode c || c.before args0 about1) = true := by decide +kernel
set_option maxRecDepth 65536 in
theorem w_t2 : ((words1.drop 24).take 24).all (fun c => isCode c || c.before args0 about1) = true := by decide +kernel
set_option maxRecDepth 65536 in
theorem w_t3 : (((words1.drop 24).drop 24).take 24).all (fun c => isCode c || c.before args0 about1) = true := by decide +kernel
set_option maxRecDepth 65536 in
theorem w_t4 : ((((words1.drop 24).drop 24).drop 24).take 24).all (fun c => isCode c || c.before args0 about1) = true := by decide +kernel
set_option maxRecDepth 65536 in
theorem w_t5 : (((((words1.drop 24).drop 24).drop 24).drop 24).take 24).all (fun c => isCode c || c.before args0 about1) = true := by decide +kernel
set_option maxRecDepth 65536 in
theorem w_t6 : ((((((words1.drop 24).drop 24).drop 24).drop 24).drop 24).take 24).all (fun c => isCode c || c.before args0 about1) = true := by decide +kernel
set_option maxRecDepth 65536 in
theorem w_t7 : (((((((words1.drop 24).drop 24).drop 24).drop 24).drop 24).drop 24).take 24).all (fun c => isCode c || c.before args0 about1) = true := by decide +kernel
set_option maxRecDepth 65536 in
theorem w_t8 : ((((((((words1.drop 24).drop 24).drop 24).drop 24).drop 24).drop 24).drop 24).take 24).all (fun c => isCode c || c.before args0 about1) = true := by decide +kernel
set_option maxRecDepth 65536 in
theorem w_t9 : (((((((((words1.drop 24).drop 24).drop 24).drop 24).drop 24).drop 24).drop 24).drop 24).take 24).all (fun c => isCode c || c.before args0 about1) = true := by decide +kernel
set_option maxRecDepth 65536 in
theorem w_t10 : ((((((((((words1.drop 24).drop 24).drop 24).drop 24).drop 24).drop 24).drop 24).drop 24).drop 24).take 24).all (fun c => isCode c || c.before args0 about1) = true := by decide +kernel
set_option maxRecDepth 65536 in
theorem w_t11 : (((((((((((words1.drop 24).drop 24).drop 24).drop 24).drop 24).drop 24).drop 24).drop 24).drop 24).drop 24).take 24).all (fun c => isCode c || c.before args0 about1) = true := by decide +kernel
set_option maxRecDepth 65536 in
theorem w_t12 : (((((((((((words1.drop 24).drop 24).drop 24).drop 24).drop 24).drop 24).drop 24).drop 24).drop 24).drop 24).drop 24).all (fun c => isCode c || c.before args0 about1) = true := by decide +kernel
theorem w_tables : (allAtoms (Jvm.Cond.code x code maxLocals ret :: tables_1)).before args0 about1 = true := by
  rw [allAtoms_all]
  show words1.all (fun c => c.before args0 about1) = true
  refine all_split ?_ w_codes
  rw [← List.take_append_drop 24 words1, List.all_append, w_t1, ← List.take_append_drop 24 (words1.drop 24), List.all_append, w_t2, ← List.take_append_drop 24 ((words1.drop 24).drop 24), List.all_append, w_t3, ← List.take_append_drop 24 (((words1.drop 24).drop 24).drop 24), List.all_append, w_t4, ← List.take_append_drop 24 ((((words1.drop 24).drop 24).drop 24).drop 24), List.all_append, w_t5, ← List.take_append_drop 24 (((((words1.drop 24).drop 24).drop 24).drop 24).drop 24), List.all_append, w_t6, ← List.take_append_drop 24 ((((((words1.drop 24).drop 24).drop 24).drop 24).drop 24).drop 24), List.all_append, w_t7, ← List.take_append_drop 24 (((((((words1.drop 24).drop 24).drop 24).drop 24).drop 24).drop 24).drop 24), List.all_append, w_t8, ← List.take_append_drop 24 ((((((((words1.drop 24).drop 24).drop 24).drop 24).drop 24).drop 24).drop 24).drop 24), List.all_append, w_t9, ← List.take_append_drop 24 (((((((((words1.drop 24).drop 24).drop 24).drop 24).drop 24).drop 24).drop 24).drop 24).drop 24), List.all_append, w_t10, ← List.take_append_drop 24 ((((((((((words1.drop 24).drop 24).drop 24).drop 24).drop 24).drop 24).drop 24).drop 24).drop 24).drop 24), List.all_append, w_t11, w_t12]
  rfl
set_option maxRecDepth 65536 in
theorem w_rest : rest_1_c.before args0 about1 = true := by decide +kernel
set_option maxRecDepth 65536 in
theorem w_case : (Jvm.Cond.and given_1 narrow_1).before args0 about1 = true := by decide +kernel
theorem w_applies : (headSpec (Jvm.Cond.code x code maxLocals ret :: tables_1) room_1).applies x e0.platform about1 = true :=
  (Spec.applies_iff w_frames).mpr ⟨w_running, w_runnable, w_alone, w_named, w_hears, w_ripe, w_room, w_tables⟩
theorem atStart : AtStart classFile x code maxLocals ret World_1 tables_1 room_1 Calls_1 rest_1 Pre_1 launch0 p0 e0 about1 theMethod args0 below0 :=
  ⟨lists_1, trivial, launch0.admits_env _ _ _, launch0.least_env, fairChoices_fair.cas, fairChoices_fair.clock, w_frames, w_args, w_heap, w_applies, ⟨⟨37, k37, 4, by decide +kernel, rfl, rfl, _, rfl, rfl⟩, trivial⟩, w_rest, w_case⟩
end start1
theorem witness_1 : WitnessClaimed_1 := ⟨start1.p0, start1.e0, start1.about1, start1.theMethod, start1.args0, start1.below0, start1.atStart⟩
end Jvm.Pilot.@@N@@
