import JvmDerived
import JvmDerived.Pilot.@@N@@Statement
import JvmDerived.Pilot.@@N@@Code
set_option linter.unusedVariables false
set_option linter.unusedSimpArgs false
namespace Jvm.RoadKit
open Sem ClassFile Op Lib Jvm.Stand Jvm.Free Jvm.LawKit
section New
variable {p : Program} {l : Launch} {e : Env} {R : Room} {s : State} {m : MethodId} {args : Array Value} {below : List Frame} {meth : Method} {c : Code} {T : State} {locs : List Loc} {cells slots : Nat}
theorem retI (X : Stand p l e R s m args below meth c T locs cells slots) (hx : p.tables.exec = Jvm.exec) {pc : Nat} {Ls : Array Slot} {z : Int32} {rest : List Value} (hret : meth.sig.returnType = some .int) (hd : decode c.code pc = .ok (.ireturn, 1)) {fs : List Frame}
    (hl : ∀ (f : JFrame) (acts : List Action), f.method = m → f.locked = none → f.entered = [] → (doReturn e (T.setTop f) acts (some (.int z))).1 = T.setFrames fs) : Steps p.tables e below (T.setTop (mkF m pc Ls (.int z :: rest))) (T.setFrames fs) := by
  have hm' : T.vm.method? m = some meth := X.method'
  have hn : narrow .int (.int z) = .int z := rfl
  show Steps p.tables e below (T.setTop { method := m, pc := pc, locals := Ls, stack := _ :: rest, locked := none }) _
  jvm_step X.here [X.here.top, hx, hd, hm', hret, hn]
  first | (intro acts; rw [hl _ acts rfl rfl rfl]) | rw [hl _ _ rfl rfl rfl]
  exact Steps.refl _
/-- from here the run comes to an end of which Po says something -/
def Gl (p : Program) (e : Env) (below : List Frame) (Po : State → Outcome → Prop) (T : State) (g : JFrame) : Prop := ∃ s₂ o, Steps p.tables e below (T.setTop g) s₂ ∧ s₂.status = .running ∧ Ended s₂ below o ∧ Po s₂ o
def Pos (C S : Nat) (Q : Option Value → Heap → List Loc → Prop) (s : State) (U : State) (o : Outcome) : Prop := ∃ v L, o = .returned v ∧ Q v U.heap L ∧ FrameEnd s o U L C S
theorem Gl.by {Po : State → Outcome → Prop} {T' : State} {g g' : JFrame} (st : ∀ t, Steps p.tables e below (T'.setTop g') t → Steps p.tables e below (T.setTop g) t) (h : Gl p e below Po T' g') : Gl p e below Po T g := by
  obtain ⟨a, o, k, r⟩ := h
  exact ⟨a, o, st _ k, r⟩
theorem Gl.cast {Po : State → Outcome → Prop} {g g' : JFrame} (q : g = g') (h : Gl p e below Po T g') : Gl p e below Po T g := q ▸ h
theorem Gl.outN (X : Stand p l e R s m args below meth c T locs cells slots) (hx : p.tables.exec = Jvm.exec) (hk : meth.locks = false) {pc : Nat} {Ls : Array Slot} {z : Int32} {t : FieldType} {rest : List Value} (hret : meth.sig.returnType = some t) (ht : t = .boolean ∨ t = .byte ∨ t = .char ∨ t = .short)
    (hd : decode c.code pc = .ok (.ireturn, 1)) {C S : Nat} {Q : Option Value → Heap → List Loc → Prop} (hQ : Q (some (.int (nar t z))) T.heap locs) (hc : cells ≤ C) (hs : slots ≤ S) : Gl p e below (Pos C S Q s) T (mkF m pc Ls (.int z :: rest)) := by
  obtain ⟨fs, hr, hrun, hended, hW, hsame⟩ := X.leave (v := some (.int (nar t z))) (fun h => by rw [hret] at h; cases h) hk
  exact ⟨_, _, retN X hx hret ht hd hr, hrun, hended, _, _, rfl, hQ, ⟨_, rfl⟩, hW, hsame.mono hc hs⟩
theorem Gl.outI (X : Stand p l e R s m args below meth c T locs cells slots) (hx : p.tables.exec = Jvm.exec) (hk : meth.locks = false) {pc : Nat} {Ls : Array Slot} {z : Int32} {rest : List Value} (hret : meth.sig.returnType = some .int)
    (hd : decode c.code pc = .ok (.ireturn, 1)) {C S : Nat} {Q : Option Value → Heap → List Loc → Prop} (hQ : Q (some (.int z)) T.heap locs) (hc : cells ≤ C) (hs : slots ≤ S) : Gl p e below (Pos C S Q s) T (mkF m pc Ls (.int z :: rest)) := by
  obtain ⟨fs, hr, hrun, hended, hW, hsame⟩ := X.leave (v := some (.int z)) (fun h => by rw [hret] at h; cases h) hk
  exact ⟨_, _, retI X hx hret hd hr, hrun, hended, _, _, rfl, hQ, ⟨_, rfl⟩, hW, hsame.mono hc hs⟩
theorem Gl.outJ (X : Stand p l e R s m args below meth c T locs cells slots) (hx : p.tables.exec = Jvm.exec) (hk : meth.locks = false) {pc : Nat} {Ls : Array Slot} {z : Int64} {rest : List Value} (hret : meth.sig.returnType = some .long)
    (hd : decode c.code pc = .ok (.lreturn, 1)) {C S : Nat} {Q : Option Value → Heap → List Loc → Prop} (hQ : Q (some (.long z)) T.heap locs) (hc : cells ≤ C) (hs : slots ≤ S) : Gl p e below (Pos C S Q s) T (mkF m pc Ls (.long z :: rest)) := by
  obtain ⟨fs, hr, hrun, hended, hW, hsame⟩ := X.leave (v := some (.long z)) (fun h => by rw [hret] at h; cases h) hk
  exact ⟨_, _, retOut X hx hret rfl (Or.inr (Or.inl ⟨rfl, rfl, _, rfl⟩)) hd hr, hrun, hended, _, _, rfl, hQ, ⟨_, rfl⟩, hW, hsame.mono hc hs⟩
theorem Gl.outD (X : Stand p l e R s m args below meth c T locs cells slots) (hx : p.tables.exec = Jvm.exec) (hk : meth.locks = false) {pc : Nat} {Ls : Array Slot} {z : UInt64} {rest : List Value} (hret : meth.sig.returnType = some .double)
    (hd : decode c.code pc = .ok (.dreturn, 1)) {C S : Nat} {Q : Option Value → Heap → List Loc → Prop} (hQ : Q (some (.double z)) T.heap locs) (hc : cells ≤ C) (hs : slots ≤ S) : Gl p e below (Pos C S Q s) T (mkF m pc Ls (.double z :: rest)) := by
  obtain ⟨fs, hr, hrun, hended, hW, hsame⟩ := X.leave (v := some (.double z)) (fun h => by rw [hret] at h; cases h) hk
  exact ⟨_, _, retOut X hx hret rfl (Or.inr (Or.inr (Or.inl ⟨rfl, rfl, _, rfl⟩))) hd hr, hrun, hended, _, _, rfl, hQ, ⟨_, rfl⟩, hW, hsame.mono hc hs⟩
theorem Gl.outA (X : Stand p l e R s m args below meth c T locs cells slots) (hx : p.tables.exec = Jvm.exec) (hk : meth.locks = false) {pc : Nat} {Ls : Array Slot} {w : Value} {t : FieldType} {rest : List Value} (hret : meth.sig.returnType = some t) (ht : t.isReference = true) (hw : w.isRef = true)
    (hd : decode c.code pc = .ok (.areturn, 1)) {C S : Nat} {Q : Option Value → Heap → List Loc → Prop} (hQ : Q (some w) T.heap locs) (hc : cells ≤ C) (hs : slots ≤ S) : Gl p e below (Pos C S Q s) T (mkF m pc Ls (w :: rest)) := by
  obtain ⟨fs, hr, hrun, hended, hW, hsame⟩ := X.leave (v := some w) (fun h => by rw [hret] at h; cases h) hk
  exact ⟨_, _, retOut X hx hret (by rcases ref_cases hw with rfl | ⟨a, rfl⟩ <;> cases t <;> first | rfl | (cases ht; done)) (Or.inr (Or.inr (Or.inr (Or.inr ⟨rfl, ht, hw⟩)))) hd hr, hrun, hended, _, _, rfl, hQ, ⟨_, rfl⟩, hW, hsame.mono hc hs⟩
theorem Gl.outV (X : Stand p l e R s m args below meth c T locs cells slots) (hx : p.tables.exec = Jvm.exec) (hk : meth.locks = false) {pc : Nat} {Ls : Array Slot} (hret : meth.sig.returnType = none)
    (hd : decode c.code pc = .ok (.return_, 1)) {C S : Nat} {Q : Option Value → Heap → List Loc → Prop} (hQ : Q none T.heap locs) (hc : cells ≤ C) (hs : slots ≤ S) : Gl p e below (Pos C S Q s) T (mkF m pc Ls []) := by
  obtain ⟨fs, hr, hrun, hended, hW, hsame⟩ := X.leave (v := none) (fun _ => rfl) hk
  exact ⟨_, _, X.returnOut hx hret hd hr, hrun, hended, _, _, rfl, hQ, ⟨_, rfl⟩, hW, hsame.mono hc hs⟩
def PosW (C S : Nat) (Q : Option Value → Heap → List Loc → Prop) (s : State) (U : State) (o : Outcome) : Prop := ∃ v L, o = .returned v ∧ Q v U.heap L ∧ ReturnedEndW s o U L C S
theorem ReturnedEndW.mono {s t : State} {o : Outcome} {L : List Loc} {k n k' n' : Nat} (h : ReturnedEndW s o t L k n) (hk : k ≤ k') (hn : n ≤ n') : ReturnedEndW s o t L k' n' := ⟨h.1, h.2.1, h.2.2.1, h.2.2.2.mono hk hn⟩
section Wide
variable {vm₁ : Vm} {n₁ : Nat}
theorem Gl.outNW (X : Stand p l e R (s.setVm vm₁) m args below meth c T locs cells slots) (hS : s.Since vm₁ n₁) (hn : n₁ ≤ T.heap.size) (hx : p.tables.exec = Jvm.exec) (hk : meth.locks = false) {pc : Nat} {Ls : Array Slot} {z : Int32} {t : FieldType} {rest : List Value} (hret : meth.sig.returnType = some t) (ht : t = .boolean ∨ t = .byte ∨ t = .char ∨ t = .short)
    (hd : decode c.code pc = .ok (.ireturn, 1)) {C S : Nat} {Q : Option Value → Heap → List Loc → Prop} (hQ : Q (some (.int (nar t z))) T.heap locs) (hc : cells ≤ C) (hs : slots ≤ S) : Gl p e below (PosW C S Q s) T (mkF m pc Ls (.int z :: rest)) := by
  obtain ⟨fs, hr, hrun, hended, hW⟩ := X.leaveW hS hn (v := some (.int (nar t z))) (fun h => by rw [hret] at h; cases h) hk
  exact ⟨_, _, retN X hx hret ht hd hr, hrun, hended, _, _, rfl, hQ, ReturnedEndW.mono hW hc hs⟩
theorem Gl.outIW (X : Stand p l e R (s.setVm vm₁) m args below meth c T locs cells slots) (hS : s.Since vm₁ n₁) (hn : n₁ ≤ T.heap.size) (hx : p.tables.exec = Jvm.exec) (hk : meth.locks = false) {pc : Nat} {Ls : Array Slot} {z : Int32} {rest : List Value} (hret : meth.sig.returnType = some .int)
    (hd : decode c.code pc = .ok (.ireturn, 1)) {C S : Nat} {Q : Option Value → Heap → List Loc → Prop} (hQ : Q (some (.int z)) T.heap locs) (hc : cells ≤ C) (hs : slots ≤ S) : Gl p e below (PosW C S Q s) T (mkF m pc Ls (.int z :: rest)) := by
  obtain ⟨fs, hr, hrun, hended, hW⟩ := X.leaveW hS hn (v := some (.int z)) (fun h => by rw [hret] at h; cases h) hk
  exact ⟨_, _, retI X hx hret hd hr, hrun, hended, _, _, rfl, hQ, ReturnedEndW.mono hW hc hs⟩
theorem Gl.outAW (X : Stand p l e R (s.setVm vm₁) m args below meth c T locs cells slots) (hS : s.Since vm₁ n₁) (hn : n₁ ≤ T.heap.size) (hx : p.tables.exec = Jvm.exec) (hk : meth.locks = false) {pc : Nat} {Ls : Array Slot} {w : Value} {t : FieldType} {rest : List Value} (hret : meth.sig.returnType = some t) (ht : t.isReference = true) (hw : w.isRef = true)
    (hd : decode c.code pc = .ok (.areturn, 1)) {C S : Nat} {Q : Option Value → Heap → List Loc → Prop} (hQ : Q (some w) T.heap locs) (hc : cells ≤ C) (hs : slots ≤ S) : Gl p e below (PosW C S Q s) T (mkF m pc Ls (w :: rest)) := by
  obtain ⟨fs, hr, hrun, hended, hW⟩ := X.leaveW hS hn (v := some w) (fun h => by rw [hret] at h; cases h) hk
  exact ⟨_, _, retOut X hx hret (by rcases ref_cases hw with rfl | ⟨a, rfl⟩ <;> cases t <;> first | rfl | (cases ht; done)) (Or.inr (Or.inr (Or.inr (Or.inr ⟨rfl, ht, hw⟩)))) hd hr, hrun, hended, _, _, rfl, hQ, ReturnedEndW.mono hW hc hs⟩
theorem Gl.outVW (X : Stand p l e R (s.setVm vm₁) m args below meth c T locs cells slots) (hS : s.Since vm₁ n₁) (hn : n₁ ≤ T.heap.size) (hx : p.tables.exec = Jvm.exec) (hk : meth.locks = false) {pc : Nat} {Ls : Array Slot} (hret : meth.sig.returnType = none)
    (hd : decode c.code pc = .ok (.return_, 1)) {C S : Nat} {Q : Option Value → Heap → List Loc → Prop} (hQ : Q none T.heap locs) (hc : cells ≤ C) (hs : slots ≤ S) : Gl p e below (PosW C S Q s) T (mkF m pc Ls []) := by
  obtain ⟨fs, hr, hrun, hended, hW⟩ := X.leaveW hS hn (v := none) (fun _ => rfl) hk
  exact ⟨_, _, X.returnOut hx hret hd hr, hrun, hended, _, _, rfl, hQ, ReturnedEndW.mono hW hc hs⟩
end Wide
theorem eqI_v {args : Array Value} {first s : State} {o : Option Outcome} {idx : List Nat} {t : Term} {k : Int32} (h : (Cond.eq t (.int k)).value args first o s idx = some true) : t.eval args first o idx s = some (.int k) := by
  simp only [Cond.value, Term.eval] at h
  cases ht : t.eval args first o idx s with
  | none => simp [ht] at h
  | some x => cases x <;> simp [ht] at h ⊢; exact h
end New
end Jvm.RoadKit
namespace Jvm.Pilot.@@N@@
open Jvm Jvm.ClassFile Sem Op Lib Jvm.Free Jvm.Stand Jvm.LawKit Jvm.RoadKit Bundle Jvm.Pilot.@@N@@.Jvm.D
theorem ns_root {Z : State} {a0 : Array Value} {O K : String} {n : Nat} (w : (Jvm.Cond.noSuperclass O).before a0 Z = true) (wk : (Jvm.Cond.instantiable K n).before a0 Z = true) (hn : O ≠ K) : NS Z O K := by
  obtain ⟨c, k, h1, h2, h3, -, -⟩ := Cond.noSuperclass_spec w
  obtain ⟨t, k', g1, -⟩ := Cond.instantiable_spec wk
  have ne := ids_ne h1 g1 hn
  refine ⟨c, t, h1, g1, fun fuel => ?_⟩
  cases fuel with
  | zero => rfl
  | succ f => simp [Vm.isSubclassAux, ne, h2, h3]
theorem ns_no {Z : State} {a0 : Array Value} {C S K : String} {m : Nat} (w : (Jvm.Cond.superclass C S).before a0 Z = true) (wk : (Jvm.Cond.instantiable K m).before a0 Z = true) (n : NS Z C K) (hn : C ≠ K) : ∃ c t, Z.vm.findClass C = some c ∧ Z.vm.findClass K = some t ∧ Z.vm.assignable c t = false := by
  obtain ⟨c, t, h0, g0, n3⟩ := n
  obtain ⟨p, k, kp, h1, h2, h3, h4, h5, -, h7⟩ := Cond.superclass_spec h0 w
  obtain ⟨t', k', g1, g2, g3, g4, -⟩ := Cond.instantiable_spec wk
  cases g0.symm.trans g1
  have ne := ids_ne h0 g0 hn
  have gi : k'.isInterface = false := by simp only [Bool.or_eq_false_iff] at g4; exact g4.1
  refine ⟨c, t, h0, g0, ?_⟩
  show Z.vm.assignableAux (255 + 1) c t = false
  simp [Vm.assignableAux, ne, h2, g2, h5, g3, gi, Vm.isSubclass, n3]
/-- a cache of 256 boxes of the class C, at its static -/
def Box (Z : State) (wc : Addr) (H C d : String) : Prop := Sta Z Z.heap H "cache" d (.ref wc) ∧ ∃ cl, Arr Z Z.heap wc cl (.object C) ∧ cl.slots.size = 256 ∧ ∀ j : Int32, ¬ j < 0 → j < 256 → ∃ x, cl.slots[j.toNatClampNeg]? = some (.ref x) ∧ Exa Z Z.heap x C
theorem box_of {s : State} {args : Array Value} {H C d : String} {wc : Addr} {Y : Jvm.Cond} (ev : (Term.static H "cache" d).eval args s none [] s = some (.ref wc)) (S : Sta s s.heap H "cache" d (.ref wc)) (h4 : (Jvm.Cond.arrayOf (.static H "cache" d) (.object C)).before args s = true) (h6 : (Jvm.Cond.eq (.length (.static H "cache" d)) (.int 256)).before args s = true)
    (h7 : (Jvm.Cond.all (.static H "cache" d) (.and (.exactly (.elem (.static H "cache" d) (.index 0)) C) Y)).before args s = true) : Box s wc H C d := by
  obtain ⟨cl, A⟩ := Arr.start ev (Cond.before_iff.mp h4)
  have hA : s.arrayAt? wc = some cl := A.fin (Vm.Alike.refl _)
  have hl := eqI_v (Cond.before_iff.mp h6)
  have hsz : cl.slots.size = 256 := by
    have hl2 : (do let a ← s.arrayAt? wc; if a.slots.size < 2 ^ 31 then pure (Value.int a.slots.size.toInt32) else none) = some (Value.int 256) := by
      rw [← hl]; simp only [Term.eval] at ev ⊢; rw [ev]; rfl
    rw [hA] at hl2
    simp only [Option.bind_some, Option.bind_eq_bind] at hl2
    split at hl2
    · rename_i h
      have q := len_toInt h
      have e : cl.slots.size.toInt32 = 256 := Value.int.inj (Option.some.inj hl2)
      rw [e] at q
      have z : (256 : Int32).toInt = 256 := by decide
      omega
    · cases hl2
  refine ⟨S, cl, A, hsz, fun j h1 h2 => ?_⟩
  have hi : j.toNatClampNeg < cl.slots.size := by
    have q := nat_of h1
    rw [Int32.lt_iff_toInt_lt, q] at h2
    have z : (256 : Int32).toInt = 256 := by decide
    omega
  have q := (and_e (Cond.all_elim ev hA (Cond.before_iff.mp h7) _ hi)).1
  obtain ⟨x, ex⟩ := exa_v q
  exact ⟨x, (elem_in ex ev (idx_at h1) A.1).2, exa_at ex q⟩
def Wd (Z : State) (w_icache w_lcache : Addr) : Prop := Box Z w_icache "java/lang/Integer$IntegerCache" "java/lang/Integer" "[Ljava/lang/Integer;" ∧ Sta Z Z.heap "java/lang/Integer$IntegerCache" "high" "I" (.int (127 : Int32)) ∧ Box Z w_lcache "java/lang/Long$LongCache" "java/lang/Long" "[Ljava/lang/Long;"
theorem d1_0 : decode jdk_29_method_65_code 0 = .ok (.iload_n 0, 1) := by decide +kernel
theorem d1_1 : decode jdk_29_method_65_code 1 = .ok (.iload_n 1, 1) := by decide +kernel
theorem d1_2 : decode jdk_29_method_65_code 2 = .ok (.if_icmp .lt 7, 3) := by decide +kernel
theorem d1_5 : decode jdk_29_method_65_code 5 = .ok (.iload_n 0, 1) := by decide +kernel
theorem d1_6 : decode jdk_29_method_65_code 6 = .ok (.goto 4, 3) := by decide +kernel
theorem d1_9 : decode jdk_29_method_65_code 9 = .ok (.iload_n 1, 1) := by decide +kernel
theorem d1_10 : decode jdk_29_method_65_code 10 = .ok (.ireturn, 1) := by decide +kernel
theorem ef1 (m : MethodId) (x0 : Int32) (x1 : Int32) : entryFrame m #[(.int x0), (.int x1)] 2 = mkF m 0 #[.val (.int x0), .val (.int x1)] [] := by first | (simp [entryFrame, mkF, argsToLocals, Value.category]; done) | rfl
def fn1 (p0 : Int32) (p1 : Int32) (w_icache w_lcache : Addr) : Int32 := if p0 < p1 then p1 else p0
def Q1 (Z : State) (p0 : Int32) (p1 : Int32) (w_icache w_lcache : Addr) (h0 : Heap) (n0 : Nat) (v : Option Value) (h : Heap) (L : List Loc) : Prop := v = some (.int (fn1 p0 p1 w_icache w_lcache)) ∧ Fr n0 L ∧ h = h0
set_option maxRecDepth 65536 in
set_option maxHeartbeats 40000000 in
theorem rm1 (l : Launch) (Z : State) (a0' : Array Value) (hw : ∀ d ∈ tables_1, d.before a0' Z = true) (ws : List Jvm.Cond) (p0 : Int32) (p1 : Int32) (w_icache w_lcache : Addr) (h0 : Heap) (n0 : Nat) (O : Old Z n0 h0) (W : Wd Z w_icache w_lcache) :
    MetFree l (⟨"java/lang/Math", "max", "(II)I"⟩ : MethodName) (head1 (Jvm.Cond.code (⟨"java/lang/Math", "max", "(II)I"⟩ : MethodName) jdk_29_method_65_code 2 (some .int) :: ws) ({ frames := 0, cells := 0, slots := 0, locals := 0 } : Room)) (fun a U => a = #[(.int p0), (.int p1)] ∧ Z.Warmed39 U.vm ∧ U.heap = h0) (fun _ _ _ _ _ => True) (fun _ U o U' => ∃ v L, o = .returned v ∧ Q1 Z p0 p1 w_icache w_lcache h0 n0 v U'.heap L ∧ FrameEnd U o U' L ({ frames := 0, cells := 0, slots := 0, locals := 0 } : Room).cells ({ frames := 0, cells := 0, slots := 0, locals := 0 } : Room).slots) := by
  refine MetFree.of_bodySF (Jvm.Free.JP.mathPlain rfl (by decide +kernel)) hisR ?_
  intro p e s m args below meth c s₁ Bd hml0 hP hK
  obtain ⟨rfl, hZ, hh⟩ := hP
  have hx := Bd.exec
  have hby := Bd.bytes
  have hml : c.maxLocals = 2 := hml0
  have hown : s.vm.findClass "java/lang/Math" = some m.cls := findClass_of_methodNamed Bd.named
  have hnm := (name_of_methodNamed Bd.named Bd.method).1
  have hk := Bd.notSynchronized
  have X0 : Stand p l e ({ frames := 0, cells := 0, slots := 0, locals := 0 } : Room) s m #[(.int p0), (.int p1)] below meth c s₁ [] 0 0 := Stand.of_body Bd
  have hh2 := hh
  have e0 : s₁.heap = h0 := by rw [← hh, Bd.state]; rfl
  have N0 := Fr.nil n0
  show Gl p e below (Pos 0 0 (Q1 Z p0 p1 w_icache w_lcache h0 n0) s) s₁ _
  refine Gl.cast (ef1 m p0 p1) ?_
  refine Gl.by (g' := (mkF m 1 #[.val (.int p0), .val (.int p1)] [(.int p0)])) (fun _ k => XS.iloadN X0.here hx rfl (hb hby d1_0) rfl k) ?_
  refine Gl.by (g' := (mkF m 2 #[.val (.int p0), .val (.int p1)] [(.int p1), (.int p0)])) (fun _ k => XS.iloadN X0.here hx rfl (hb hby d1_1) rfl k) ?_
  by_cases hc1 : p0 < p1
  · refine Gl.by (g' := (mkF m 9 #[.val (.int p0), .val (.int p1)] [])) (fun _ k => XS.icmpYes X0.here hx rfl (pc0 := 2) (pc' := 9) rfl (hb hby d1_2) rfl (tlt hc1).1 (by decide) (by decide) k) ?_
    refine Gl.by (g' := (mkF m 10 #[.val (.int p0), .val (.int p1)] [(.int p1)])) (fun _ k => XS.iloadN X0.here hx rfl (hb hby d1_9) rfl k) ?_
    exact Gl.outI X0 hx hk Bd.returns (hb hby d1_10) ⟨(congrArg (fun z => some (Value.int z)) (show p1 = fn1 p0 p1 w_icache w_lcache by unfold fn1; rw [if_pos hc1]; try rfl)), N0, e0⟩ (by decide) (by decide)
  · refine Gl.by (g' := (mkF m 5 #[.val (.int p0), .val (.int p1)] [])) (fun _ k => XS.icmpNo X0.here hx rfl (hb hby d1_2) rfl (flt hc1).1 k) ?_
    refine Gl.by (g' := (mkF m 6 #[.val (.int p0), .val (.int p1)] [(.int p0)])) (fun _ k => XS.iloadN X0.here hx rfl (hb hby d1_5) rfl k) ?_
    refine Gl.by (g' := (mkF m 10 #[.val (.int p0), .val (.int p1)] [(.int p0)])) (fun _ k => XS.goto X0.here hx rfl (pc0 := 6) (pc' := 10) rfl (hb hby d1_6) (by decide) (by decide) k) ?_
    exact Gl.outI X0 hx hk Bd.returns (hb hby d1_10) ⟨(congrArg (fun z => some (Value.int z)) (show p0 = fn1 p0 p1 w_icache w_lcache by unfold fn1; rw [if_neg hc1]; try rfl)), N0, e0⟩ (by decide) (by decide)
theorem d2_0 : decode jdk_29_method_66_code 0 = .ok (.lload_n 0, 1) := by decide +kernel
theorem d2_1 : decode jdk_29_method_66_code 1 = .ok (.lload_n 2, 1) := by decide +kernel
theorem d2_2 : decode jdk_29_method_66_code 2 = .ok (.lcmp, 1) := by decide +kernel
theorem d2_3 : decode jdk_29_method_66_code 3 = .ok (.ifCond .lt 7, 3) := by decide +kernel
theorem d2_6 : decode jdk_29_method_66_code 6 = .ok (.lload_n 0, 1) := by decide +kernel
theorem d2_7 : decode jdk_29_method_66_code 7 = .ok (.goto 4, 3) := by decide +kernel
theorem d2_10 : decode jdk_29_method_66_code 10 = .ok (.lload_n 2, 1) := by decide +kernel
theorem d2_11 : decode jdk_29_method_66_code 11 = .ok (.lreturn, 1) := by decide +kernel
theorem ef2 (m : MethodId) (x0 : Int64) (x1 : Int64) : entryFrame m #[(.long x0), (.long x1)] 4 = mkF m 0 #[.val (.long x0), .second, .val (.long x1), .second] [] := by first | (simp [entryFrame, mkF, argsToLocals, Value.category]; done) | rfl
def fn2 (q0 : Int64) (q1 : Int64) (w_icache w_lcache : Addr) : Int64 := if q0 < q1 then q1 else q0
def Q2 (Z : State) (q0 : Int64) (q1 : Int64) (w_icache w_lcache : Addr) (h0 : Heap) (n0 : Nat) (v : Option Value) (h : Heap) (L : List Loc) : Prop := v = some (.long (fn2 q0 q1 w_icache w_lcache)) ∧ Fr n0 L ∧ h = h0
set_option maxRecDepth 65536 in
set_option maxHeartbeats 40000000 in
theorem rm2 (l : Launch) (Z : State) (a0' : Array Value) (hw : ∀ d ∈ tables_1, d.before a0' Z = true) (ws : List Jvm.Cond) (q0 : Int64) (q1 : Int64) (w_icache w_lcache : Addr) (h0 : Heap) (n0 : Nat) (O : Old Z n0 h0) (W : Wd Z w_icache w_lcache) :
    MetFree l (⟨"java/lang/Math", "max", "(JJ)J"⟩ : MethodName) (head1 (Jvm.Cond.code (⟨"java/lang/Math", "max", "(JJ)J"⟩ : MethodName) jdk_29_method_66_code 4 (some .long) :: ws) ({ frames := 0, cells := 0, slots := 0, locals := 0 } : Room)) (fun a U => a = #[(.long q0), (.long q1)] ∧ Z.Warmed39 U.vm ∧ U.heap = h0) (fun _ _ _ _ _ => True) (fun _ U o U' => ∃ v L, o = .returned v ∧ Q2 Z q0 q1 w_icache w_lcache h0 n0 v U'.heap L ∧ FrameEnd U o U' L ({ frames := 0, cells := 0, slots := 0, locals := 0 } : Room).cells ({ frames := 0, cells := 0, slots := 0, locals := 0 } : Room).slots) := by
  refine MetFree.of_bodySF (Jvm.Free.JP.mathPlain rfl (by decide +kernel)) hisR ?_
  intro p e s m args below meth c s₁ Bd hml0 hP hK
  obtain ⟨rfl, hZ, hh⟩ := hP
  have hx := Bd.exec
  have hby := Bd.bytes
  have hml : c.maxLocals = 4 := hml0
  have hown : s.vm.findClass "java/lang/Math" = some m.cls := findClass_of_methodNamed Bd.named
  have hnm := (name_of_methodNamed Bd.named Bd.method).1
  have hk := Bd.notSynchronized
  have X0 : Stand p l e ({ frames := 0, cells := 0, slots := 0, locals := 0 } : Room) s m #[(.long q0), (.long q1)] below meth c s₁ [] 0 0 := Stand.of_body Bd
  have hh2 := hh
  have e0 : s₁.heap = h0 := by rw [← hh, Bd.state]; rfl
  have N0 := Fr.nil n0
  show Gl p e below (Pos 0 0 (Q2 Z q0 q1 w_icache w_lcache h0 n0) s) s₁ _
  refine Gl.cast (ef2 m q0 q1) ?_
  refine Gl.by (g' := (mkF m 1 #[.val (.long q0), .second, .val (.long q1), .second] [(.long q0)])) (fun _ k => XS.lloadN X0.here hx rfl (hb hby d2_0) rfl k) ?_
  refine Gl.by (g' := (mkF m 2 #[.val (.long q0), .second, .val (.long q1), .second] [(.long q1), (.long q0)])) (fun _ k => XS.lloadN X0.here hx rfl (hb hby d2_1) rfl k) ?_
  refine Gl.by (g' := (mkF m 3 #[.val (.long q0), .second, .val (.long q1), .second] [(.int (lcmpW q0 q1))])) (fun _ k => XS.lcmp X0.here hx rfl (hb hby d2_2) rfl k) ?_
  by_cases hc1 : q0 < q1
  · refine Gl.by (g' := (mkF m 10 #[.val (.long q0), .second, .val (.long q1), .second] [])) (fun _ k => XS.ifYes X0.here hx rfl (pc0 := 3) (pc' := 10) rfl (hb hby d2_3) rfl ((if0 _ _).trans (tlt ((lw_lt q0 q1).mpr hc1)).1) (by decide) (by decide) k) ?_
    refine Gl.by (g' := (mkF m 11 #[.val (.long q0), .second, .val (.long q1), .second] [(.long q1)])) (fun _ k => XS.lloadN X0.here hx rfl (hb hby d2_10) rfl k) ?_
    exact Gl.outJ X0 hx hk Bd.returns (hb hby d2_11) ⟨(congrArg (fun z => some (Value.long z)) (show q1 = fn2 q0 q1 w_icache w_lcache by unfold fn2; rw [if_pos hc1]; try rfl)), N0, e0⟩ (by decide) (by decide)
  · refine Gl.by (g' := (mkF m 6 #[.val (.long q0), .second, .val (.long q1), .second] [])) (fun _ k => XS.ifNo X0.here hx rfl (hb hby d2_3) rfl ((if0 _ _).trans (flt (fun q => hc1 ((lw_lt q0 q1).mp q))).1) k) ?_
    refine Gl.by (g' := (mkF m 7 #[.val (.long q0), .second, .val (.long q1), .second] [(.long q0)])) (fun _ k => XS.lloadN X0.here hx rfl (hb hby d2_6) rfl k) ?_
    refine Gl.by (g' := (mkF m 11 #[.val (.long q0), .second, .val (.long q1), .second] [(.long q0)])) (fun _ k => XS.goto X0.here hx rfl (pc0 := 7) (pc' := 11) rfl (hb hby d2_7) (by decide) (by decide) k) ?_
    exact Gl.outJ X0 hx hk Bd.returns (hb hby d2_11) ⟨(congrArg (fun z => some (Value.long z)) (show q0 = fn2 q0 q1 w_icache w_lcache by unfold fn2; rw [if_neg hc1]; try rfl)), N0, e0⟩ (by decide) (by decide)
theorem d5_0 : decode prog_21_method_3_code 0 = .ok (.iload_n 0, 1) := by decide +kernel
theorem d5_1 : decode prog_21_method_3_code 1 = .ok (.iconst 1, 1) := by decide +kernel
theorem d5_2 : decode prog_21_method_3_code 2 = .ok (.if_icmp .ge 17, 3) := by decide +kernel
theorem d5_19 : decode prog_21_method_3_code 19 = .ok (.iload_n 0, 1) := by decide +kernel
theorem d5_20 : decode prog_21_method_3_code 20 = .ok (.ireturn, 1) := by decide +kernel
theorem pn0 : plainName "com/example/libelect/libelect/ProcessId" = true := by first | (simp [plainName, overriddenIn]; done) | decide +kernel
theorem ef5 (m : MethodId) (x0 : Int32) : entryFrame m #[(.int x0)] 1 = mkF m 0 #[.val (.int x0)] [] := by first | (simp [entryFrame, mkF, argsToLocals, Value.category]; done) | rfl
def fn5 (p0 : Int32) (w_icache w_lcache : Addr) : Int32 := p0
def Q5 (Z : State) (p0 : Int32) (w_icache w_lcache : Addr) (h0 : Heap) (n0 : Nat) (v : Option Value) (h : Heap) (L : List Loc) : Prop := v = some (.int (fn5 p0 w_icache w_lcache)) ∧ Fr n0 L ∧ h = h0
set_option maxRecDepth 65536 in
set_option maxHeartbeats 40000000 in
theorem rm5 (l : Launch) (Z : State) (a0' : Array Value) (hw : ∀ d ∈ tables_1, d.before a0' Z = true) (ws : List Jvm.Cond) (p0 : Int32) (w_icache w_lcache : Addr) (h0 : Heap) (n0 : Nat) (O : Old Z n0 h0) (W : Wd Z w_icache w_lcache) (hp : ¬ p0 < (1 : Int32)) :
    MetFree l (⟨"com/example/libelect/libelect/ProcessId", "require", "(I)I"⟩ : MethodName) (head1 (Jvm.Cond.code (⟨"com/example/libelect/libelect/ProcessId", "require", "(I)I"⟩ : MethodName) prog_21_method_3_code 1 (some .int) :: ws) ({ frames := 0, cells := 0, slots := 0, locals := 0 } : Room)) (fun a U => a = #[(.int p0)] ∧ Z.Warmed39 U.vm ∧ U.heap = h0) (fun _ _ _ _ _ => True) (fun _ U o U' => ∃ v L, o = .returned v ∧ Q5 Z p0 w_icache w_lcache h0 n0 v U'.heap L ∧ FrameEnd U o U' L ({ frames := 0, cells := 0, slots := 0, locals := 0 } : Room).cells ({ frames := 0, cells := 0, slots := 0, locals := 0 } : Room).slots) := by
  refine MetFree.of_bodySF (plainFor_of_name pn0) hisR ?_
  intro p e s m args below meth c s₁ Bd hml0 hP hK
  obtain ⟨rfl, hZ, hh⟩ := hP
  have hx := Bd.exec
  have hby := Bd.bytes
  have hml : c.maxLocals = 1 := hml0
  have hown : s.vm.findClass "com/example/libelect/libelect/ProcessId" = some m.cls := findClass_of_methodNamed Bd.named
  have hnm := (name_of_methodNamed Bd.named Bd.method).1
  have hk := Bd.notSynchronized
  have X0 : Stand p l e ({ frames := 0, cells := 0, slots := 0, locals := 0 } : Room) s m #[(.int p0)] below meth c s₁ [] 0 0 := Stand.of_body Bd
  have hh2 := hh
  have e0 : s₁.heap = h0 := by rw [← hh, Bd.state]; rfl
  have N0 := Fr.nil n0
  show Gl p e below (Pos 0 0 (Q5 Z p0 w_icache w_lcache h0 n0) s) s₁ _
  refine Gl.cast (ef5 m p0) ?_
  refine Gl.by (g' := (mkF m 1 #[.val (.int p0)] [(.int p0)])) (fun _ k => XS.iloadN X0.here hx rfl (hb hby d5_0) rfl k) ?_
  refine Gl.by (g' := (mkF m 2 #[.val (.int p0)] [(.int (1 : Int32)), (.int p0)])) (fun _ k => XS.iconst X0.here hx rfl (hb hby d5_1) k) ?_
  refine Gl.by (g' := (mkF m 19 #[.val (.int p0)] [])) (fun _ k => XS.icmpYes X0.here hx rfl (pc0 := 2) (pc' := 19) rfl (hb hby d5_2) rfl (flt hp).2.1 (by decide) (by decide) k) ?_
  refine Gl.by (g' := (mkF m 20 #[.val (.int p0)] [(.int p0)])) (fun _ k => XS.iloadN X0.here hx rfl (hb hby d5_19) rfl k) ?_
  exact Gl.outI X0 hx hk Bd.returns (hb hby d5_20) ⟨(congrArg (fun z => some (Value.int z)) (show p0 = fn5 p0 w_icache w_lcache by unfold fn5; try rfl)), N0, e0⟩ (by decide) (by decide)
theorem d3_0 : decode prog_13_method_1_code 0 = .ok (.aload_n 0, 1) := by decide +kernel
theorem d3_1 : decode prog_13_method_1_code 1 = .ok (.invokespecial 1, 3) := by decide +kernel
theorem d3_4 : decode prog_13_method_1_code 4 = .ok (.iload_n 1, 1) := by decide +kernel
theorem d3_5 : decode prog_13_method_1_code 5 = .ok (.invokestatic 7, 3) := by decide +kernel
theorem d3_8 : decode prog_13_method_1_code 8 = .ok (.pop, 1) := by decide +kernel
theorem d3_9 : decode prog_13_method_1_code 9 = .ok (.lload_n 2, 1) := by decide +kernel
theorem d3_10 : decode prog_13_method_1_code 10 = .ok (.lconst 1, 1) := by decide +kernel
theorem d3_11 : decode prog_13_method_1_code 11 = .ok (.lcmp, 1) := by decide +kernel
theorem d3_12 : decode prog_13_method_1_code 12 = .ok (.ifCond .ge 17, 3) := by decide +kernel
theorem d3_29 : decode prog_13_method_1_code 29 = .ok (.aload_n 0, 1) := by decide +kernel
theorem d3_30 : decode prog_13_method_1_code 30 = .ok (.iload_n 1, 1) := by decide +kernel
theorem d3_31 : decode prog_13_method_1_code 31 = .ok (.putfield 22, 3) := by decide +kernel
theorem d3_34 : decode prog_13_method_1_code 34 = .ok (.aload_n 0, 1) := by decide +kernel
theorem d3_35 : decode prog_13_method_1_code 35 = .ok (.lload_n 2, 1) := by decide +kernel
theorem d3_36 : decode prog_13_method_1_code 36 = .ok (.putfield 28, 3) := by decide +kernel
theorem d3_39 : decode prog_13_method_1_code 39 = .ok (.return_, 1) := by decide +kernel
theorem pn1 : plainName "com/example/libelect/libelect/Leadership" = true := by first | (simp [plainName, overriddenIn]; done) | decide +kernel
theorem pd36 : parseMethodDescriptor "()V" = some ⟨[], none⟩ := by decide +kernel
theorem pd37 : parseMethodDescriptor "(I)I" = some ⟨[.int], some .int⟩ := by decide +kernel
theorem ef3 (m : MethodId) (x0 : Addr) (x1 : Int32) (x2 : Int64) : entryFrame m #[(.ref x0), (.int x1), (.long x2)] 4 = mkF m 0 #[.val (.ref x0), .val (.int x1), .val (.long x2), .second] [] := by first | (simp [entryFrame, mkF, argsToLocals, Value.category]; done) | rfl
def Q3 (Z : State) (a0 : Addr) (p1 : Int32) (q2 : Int64) (w_icache w_lcache : Addr) (h0 : Heap) (n0 : Nat) (v : Option Value) (h : Heap) (L : List Loc) : Prop := v = none ∧ Fr n0 L ∧ Keep h0 h [a0] ∧ Fld Z h a0 "com/example/libelect/libelect/Leadership" "leader" "I" (.int p1) ∧ Fld Z h a0 "com/example/libelect/libelect/Leadership" "term" "J" (.long q2)
set_option maxRecDepth 65536 in
set_option maxHeartbeats 40000000 in
theorem rm3 (l : Launch) (Z : State) (a0' : Array Value) (hw : ∀ d ∈ tables_1, d.before a0' Z = true) (ws : List Jvm.Cond) (a0 : Addr) (p1 : Int32) (q2 : Int64) (w_icache w_lcache : Addr) (h0 : Heap) (n0 : Nat) (O : Old Z n0 h0) (W : Wd Z w_icache w_lcache) (pf0 : Exa Z h0 a0 "com/example/libelect/libelect/Leadership") (pf1 : Fld Z h0 a0 "com/example/libelect/libelect/Leadership" "leader" "I" (.int (0 : Int32))) (pf2 : Fld Z h0 a0 "com/example/libelect/libelect/Leadership" "term" "J" (.long (0 : Int64))) (gp_a0 : n0 ≤ a0) (hp1 : ¬ p1 < (1 : Int32)) (hp2 : ¬ q2 < (1 : Int64)) :
    MetFree l (⟨"com/example/libelect/libelect/Leadership", "<init>", "(IJ)V"⟩ : MethodName) (head1 (Jvm.Cond.code (⟨"com/example/libelect/libelect/Leadership", "<init>", "(IJ)V"⟩ : MethodName) prog_13_method_1_code 4 none :: ws) ({ frames := 1, cells := 0, slots := 0, locals := 12 } : Room)) (fun a U => a = #[(.ref a0), (.int p1), (.long q2)] ∧ Z.Warmed39 U.vm ∧ U.heap = h0) (fun _ _ _ _ _ => True) (fun _ U o U' => ∃ v L, o = .returned v ∧ Q3 Z a0 p1 q2 w_icache w_lcache h0 n0 v U'.heap L ∧ FrameEnd U o U' L ({ frames := 1, cells := 0, slots := 0, locals := 12 } : Room).cells ({ frames := 1, cells := 0, slots := 0, locals := 12 } : Room).slots) := by
  refine MetFree.of_bodySF (plainFor_of_name pn1) hisR ?_
  intro p e s m args below meth c s₁ Bd hml0 hP hK
  obtain ⟨rfl, hZ, hh⟩ := hP
  have hx := Bd.exec
  have hby := Bd.bytes
  have hml : c.maxLocals = 4 := hml0
  have hown : s.vm.findClass "com/example/libelect/libelect/Leadership" = some m.cls := findClass_of_methodNamed Bd.named
  have hnm := (name_of_methodNamed Bd.named Bd.method).1
  have hk := Bd.notSynchronized
  have X0 : Stand p l e ({ frames := 1, cells := 0, slots := 0, locals := 12 } : Room) s m #[(.ref a0), (.int p1), (.long q2)] below meth c s₁ [] 0 0 := Stand.of_body Bd
  have hh2 := hh
  have e0 : s₁.heap = h0 := by rw [← hh, Bd.state]; rfl
  have N0 := Fr.nil n0
  show Gl p e below (Pos 0 0 (Q3 Z a0 p1 q2 w_icache w_lcache h0 n0) s) s₁ _
  refine Gl.cast (ef3 m a0 p1 q2) ?_
  refine Gl.by (g' := (mkF m 1 #[.val (.ref a0), .val (.int p1), .val (.long q2), .second] [(.ref a0)])) (fun _ k => XS.aloadN X0.here hx rfl (hb hby d3_0) rfl rfl k) ?_
  obtain ⟨T1, X1, e1, st1⟩ := initO X0 hx hZ hown (hw _ (List.mem_of_getElem? (i := 15) rfl)) (hw _ (List.mem_of_getElem? (i := 16) rfl)) (hw _ (List.mem_of_getElem? (i := 17) rfl)) e0 (g := (mkF m 1 #[.val (.ref a0), .val (.int p1), .val (.long q2), .second] [(.ref a0)])) rfl (by rw [hml]; rfl) rfl (hb hby d3_1) (by decide) (W := 0) (by show 2 * 0 + _ ≤ _; exact Nat.le_of_eq rfl) (by decide)
  refine Gl.by (g' := (mkF m 4 #[.val (.ref a0), .val (.int p1), .val (.long q2), .second] [])) st1 ?_
  refine Gl.by (g' := (mkF m 5 #[.val (.ref a0), .val (.int p1), .val (.long q2), .second] [(.int p1)])) (fun _ k => XS.iloadN X1.here hx rfl (hb hby d3_4) rfl k) ?_
  obtain ⟨_, _, ⟨T2, L2, k2, n2⟩, -, X2, ⟨Lc2, hQ2, l2, y2, z2⟩, st2⟩ := Jvm.LawKit.callS X1 hx (y := (⟨"com/example/libelect/libelect/ProcessId", "require", "(I)I"⟩ : MethodName)) hown (mvT hZ (hw _ (List.mem_of_getElem? (i := 18) rfl))) (mvT hZ (hw _ (List.mem_of_getElem? (i := 19) rfl))) (mvT hZ (hw _ (List.mem_of_getElem? (i := 20) rfl))) (mvT hZ (hw _ (List.mem_of_getElem? (i := 21) rfl))) (by decide) (backOf (W := 0) (rm5 l Z a0' hw [] p1 w_icache w_lcache h0 n0 O W hp1) hZ (hw _ (List.mem_of_getElem? (i := 21) rfl)) (hw _ (List.mem_of_getElem? (i := 20) rfl)) (by decide) (by decide)) (g := (mkF m 5 #[.val (.ref a0), .val (.int p1), .val (.long q2), .second] [(.int p1)])) rfl (by rw [hml]; rfl) (argsL := [(.int p1)]) (rest := []) (lenOf pd37 rfl) rfl (by show 2 * 0 + _ ≤ _; exact Nat.le_of_eq rfl) (hb hby d3_5) (fun _ _ => ⟨rfl, e1, (by decide : 0 + 0 ≤ _), (by decide : 0 + 0 ≤ _)⟩)
  dsimp only [Pt.U, Pt.locs, Pt.cells, Pt.slots] at X2 l2 y2 z2 st2 hQ2
  subst l2 y2 z2
  obtain ⟨rfl, N2q, e2⟩ := hQ2
  have N2 := Fr.app N0 N2q
  refine Gl.by (g' := (mkF m 8 #[.val (.ref a0), .val (.int p1), .val (.long q2), .second] [(.int (fn5 p1 w_icache w_lcache))])) st2 ?_
  refine Gl.by (g' := (mkF m 9 #[.val (.ref a0), .val (.int p1), .val (.long q2), .second] [])) (fun _ k => XS.pop X2.here hx rfl (hb hby d3_8) rfl rfl k) ?_
  refine Gl.by (g' := (mkF m 10 #[.val (.ref a0), .val (.int p1), .val (.long q2), .second] [(.long q2)])) (fun _ k => XS.lloadN X2.here hx rfl (hb hby d3_9) rfl k) ?_
  refine Gl.by (g' := (mkF m 11 #[.val (.ref a0), .val (.int p1), .val (.long q2), .second] [(.long (1 : Int64)), (.long q2)])) (fun _ k => XS.lconst X2.here hx rfl (hb hby d3_10) k) ?_
  refine Gl.by (g' := (mkF m 12 #[.val (.ref a0), .val (.int p1), .val (.long q2), .second] [(.int (lcmpW q2 (1 : Int64)))])) (fun _ k => XS.lcmp X2.here hx rfl (hb hby d3_11) rfl k) ?_
  refine Gl.by (g' := (mkF m 29 #[.val (.ref a0), .val (.int p1), .val (.long q2), .second] [])) (fun _ k => XS.ifYes X2.here hx rfl (pc0 := 12) (pc' := 29) rfl (hb hby d3_12) rfl ((if0 _ _).trans (flt (fun q => hp2 ((lw_lt q2 (1 : Int64)).mp q))).2.1) (by decide) (by decide) k) ?_
  refine Gl.by (g' := (mkF m 30 #[.val (.ref a0), .val (.int p1), .val (.long q2), .second] [(.ref a0)])) (fun _ k => XS.aloadN X2.here hx rfl (hb hby d3_29) rfl rfl k) ?_
  refine Gl.by (g' := (mkF m 31 #[.val (.ref a0), .val (.int p1), .val (.long q2), .second] [(.int p1), (.ref a0)])) (fun _ k => XS.iloadN X2.here hx rfl (hb hby d3_30) rfl k) ?_
  obtain ⟨T3, h3, X3, e3, W3, st3⟩ := putF X2 hx hZ hown (host := "") (Or.inl (hw _ (List.mem_of_getElem? (i := 22) rfl))) Via.refl e2 pf1 pf0 (Or.inr ⟨(hw _ (List.mem_of_getElem? (i := 23) rfl)), rfl, hnm⟩) (hw _ (List.mem_of_getElem? (i := 10) rfl)) (ty := .int) (by decide) rfl rfl (g := (mkF m 31 #[.val (.ref a0), .val (.int p1), .val (.long q2), .second] [(.int p1), (.ref a0)])) rfl rfl (hb hby d3_31)
  have N3 := Fr.snoc X3 N2 gp_a0
  have Fw3 := Fld.same W3 pf1
  refine Gl.by (g' := (mkF m 34 #[.val (.ref a0), .val (.int p1), .val (.long q2), .second] [])) st3 ?_
  refine Gl.by (g' := (mkF m 35 #[.val (.ref a0), .val (.int p1), .val (.long q2), .second] [(.ref a0)])) (fun _ k => XS.aloadN X3.here hx rfl (hb hby d3_34) rfl rfl k) ?_
  refine Gl.by (g' := (mkF m 36 #[.val (.ref a0), .val (.int p1), .val (.long q2), .second] [(.long q2), (.ref a0)])) (fun _ k => XS.lloadN X3.here hx rfl (hb hby d3_35) rfl k) ?_
  have f4 := (Exa.wr W3 pf0)
  have f5 := (Fld.other W3 pf2 (Or.inr (slot_ne (Or.inr (hw _ (List.mem_of_getElem? (i := 25) rfl))) (Or.inr (hw _ (List.mem_of_getElem? (i := 23) rfl))) (by decide) (t := .long) (t' := .int) (by decide) (by decide))))
  obtain ⟨T6, h6, X6, e6, W6, st6⟩ := putF X3 hx hZ hown (host := "") (Or.inl (hw _ (List.mem_of_getElem? (i := 24) rfl))) Via.refl e3 f5 f4 (Or.inr ⟨(hw _ (List.mem_of_getElem? (i := 25) rfl)), rfl, hnm⟩) (hw _ (List.mem_of_getElem? (i := 10) rfl)) (ty := .long) (by decide) rfl rfl (g := (mkF m 36 #[.val (.ref a0), .val (.int p1), .val (.long q2), .second] [(.long q2), (.ref a0)])) rfl rfl (hb hby d3_36)
  have N6 := Fr.snoc X6 N3 gp_a0
  have Fw6 := Fld.same W6 f5
  refine Gl.by (g' := (mkF m 39 #[.val (.ref a0), .val (.int p1), .val (.long q2), .second] [])) st6 ?_
  have K7 := (((Keep.refl h0 [a0]).wr W3 (Or.inl (List.mem_of_getElem? (i := 0) rfl))).wr W6 (Or.inl (List.mem_of_getElem? (i := 0) rfl)))
  have f8 := (Fld.other W6 Fw3 (Or.inr (slot_ne (Or.inr (hw _ (List.mem_of_getElem? (i := 23) rfl))) (Or.inr (hw _ (List.mem_of_getElem? (i := 25) rfl))) (by decide) (t := .int) (t' := .long) (by decide) (by decide))))
  exact Gl.outV X6 hx hk Bd.returns (hb hby d3_39) (Eq.mpr (congrArg (fun hh => Q3 Z a0 p1 q2 w_icache w_lcache h0 n0 _ hh _) e6) (show Q3 Z a0 p1 q2 w_icache w_lcache h0 n0 _ h6 _ from ⟨rfl, N6, K7, f8, Fw6⟩)) (by decide) (by decide)
theorem d6_0 : decode prog_13_method_4_code 0 = .ok (.aload_n 1, 1) := by decide +kernel
theorem d6_1 : decode prog_13_method_4_code 1 = .ok (.instanceof 23, 3) := by decide +kernel
theorem d6_4 : decode prog_13_method_4_code 4 = .ok (.ifCond .ne 5, 3) := by decide +kernel
theorem d6_9 : decode prog_13_method_4_code 9 = .ok (.aload_n 1, 1) := by decide +kernel
theorem d6_10 : decode prog_13_method_4_code 10 = .ok (.checkcast 23, 3) := by decide +kernel
theorem d6_13 : decode prog_13_method_4_code 13 = .ok (.astore_n 2, 1) := by decide +kernel
theorem d6_14 : decode prog_13_method_4_code 14 = .ok (.aload_n 0, 1) := by decide +kernel
theorem d6_15 : decode prog_13_method_4_code 15 = .ok (.getfield 22, 3) := by decide +kernel
theorem d6_18 : decode prog_13_method_4_code 18 = .ok (.aload_n 2, 1) := by decide +kernel
theorem d6_19 : decode prog_13_method_4_code 19 = .ok (.getfield 22, 3) := by decide +kernel
theorem d6_22 : decode prog_13_method_4_code 22 = .ok (.if_icmp .ne 19, 3) := by decide +kernel
theorem d6_25 : decode prog_13_method_4_code 25 = .ok (.aload_n 0, 1) := by decide +kernel
theorem d6_26 : decode prog_13_method_4_code 26 = .ok (.getfield 28, 3) := by decide +kernel
theorem d6_29 : decode prog_13_method_4_code 29 = .ok (.aload_n 2, 1) := by decide +kernel
theorem d6_30 : decode prog_13_method_4_code 30 = .ok (.getfield 28, 3) := by decide +kernel
theorem d6_33 : decode prog_13_method_4_code 33 = .ok (.lcmp, 1) := by decide +kernel
theorem d6_34 : decode prog_13_method_4_code 34 = .ok (.ifCond .ne 7, 3) := by decide +kernel
theorem d6_37 : decode prog_13_method_4_code 37 = .ok (.iconst 1, 1) := by decide +kernel
theorem d6_38 : decode prog_13_method_4_code 38 = .ok (.goto 4, 3) := by decide +kernel
theorem d6_41 : decode prog_13_method_4_code 41 = .ok (.iconst 0, 1) := by decide +kernel
theorem d6_42 : decode prog_13_method_4_code 42 = .ok (.ireturn, 1) := by decide +kernel
theorem ef6m (m : MethodId) (x0 : Addr) (x1 : Addr) : entryFrame m #[(.ref x0), (.ref x1)] 3 = mkF m 0 #[.val (.ref x0), .val (.ref x1), .unset] [] := by first | (simp [entryFrame, mkF, argsToLocals, Value.category]; done) | rfl
def fn6m (l0 : Int32) (t0 : Int64) (l1 : Int32) (t1 : Int64) (w_icache w_lcache : Addr) : Int32 := if l0 = l1 then if t0 = t1 then (1 : Int32) else (0 : Int32) else (0 : Int32)
def Q6m (Z : State) (a0 : Addr) (a1 : Addr) (l0 : Int32) (t0 : Int64) (l1 : Int32) (t1 : Int64) (w_icache w_lcache : Addr) (h0 : Heap) (n0 : Nat) (v : Option Value) (h : Heap) (L : List Loc) : Prop := v = some (.int (fn6m l0 t0 l1 t1 w_icache w_lcache)) ∧ Fr n0 L ∧ h = h0
set_option maxRecDepth 65536 in
set_option maxHeartbeats 40000000 in
theorem rm6m (l : Launch) (Z : State) (a0' : Array Value) (hw : ∀ d ∈ tables_1, d.before a0' Z = true) (ws : List Jvm.Cond) (a0 : Addr) (a1 : Addr) (l0 : Int32) (t0 : Int64) (l1 : Int32) (t1 : Int64) (w_icache w_lcache : Addr) (h0 : Heap) (n0 : Nat) (O : Old Z n0 h0) (W : Wd Z w_icache w_lcache) (pf0 : Exa Z h0 a0 "com/example/libelect/libelect/Leadership") (pf1 : Fld Z h0 a0 "com/example/libelect/libelect/Leadership" "leader" "I" (.int l0)) (pf2 : Fld Z h0 a0 "com/example/libelect/libelect/Leadership" "term" "J" (.long t0)) (pf3 : Exa Z h0 a1 "com/example/libelect/libelect/Leadership") (pf4 : Fld Z h0 a1 "com/example/libelect/libelect/Leadership" "leader" "I" (.int l1)) (pf5 : Fld Z h0 a1 "com/example/libelect/libelect/Leadership" "term" "J" (.long t1)) :
    MetFree l (⟨"com/example/libelect/libelect/Leadership", "equals", "(Ljava/lang/Object;)Z"⟩ : MethodName) (head1 (Jvm.Cond.code (⟨"com/example/libelect/libelect/Leadership", "equals", "(Ljava/lang/Object;)Z"⟩ : MethodName) prog_13_method_4_code 3 (some .boolean) :: ws) ({ frames := 0, cells := 0, slots := 0, locals := 0 } : Room)) (fun a U => a = #[(.ref a0), (.ref a1)] ∧ Z.Warmed39 U.vm ∧ U.heap = h0) (fun _ _ _ _ _ => True) (fun _ U o U' => ∃ v L, o = .returned v ∧ Q6m Z a0 a1 l0 t0 l1 t1 w_icache w_lcache h0 n0 v U'.heap L ∧ FrameEnd U o U' L ({ frames := 0, cells := 0, slots := 0, locals := 0 } : Room).cells ({ frames := 0, cells := 0, slots := 0, locals := 0 } : Room).slots) := by
  refine MetFree.of_bodySF (plainFor_of_name pn1) hisR ?_
  intro p e s m args below meth c s₁ Bd hml0 hP hK
  obtain ⟨rfl, hZ, hh⟩ := hP
  have hx := Bd.exec
  have hby := Bd.bytes
  have hml : c.maxLocals = 3 := hml0
  have hown : s.vm.findClass "com/example/libelect/libelect/Leadership" = some m.cls := findClass_of_methodNamed Bd.named
  have hnm := (name_of_methodNamed Bd.named Bd.method).1
  have hk := Bd.notSynchronized
  have X0 : Stand p l e ({ frames := 0, cells := 0, slots := 0, locals := 0 } : Room) s m #[(.ref a0), (.ref a1)] below meth c s₁ [] 0 0 := Stand.of_body Bd
  have hh2 := hh
  have e0 : s₁.heap = h0 := by rw [← hh, Bd.state]; rfl
  have N0 := Fr.nil n0
  show Gl p e below (Pos 0 0 (Q6m Z a0 a1 l0 t0 l1 t1 w_icache w_lcache h0 n0) s) s₁ _
  refine Gl.cast (ef6m m a0 a1) ?_
  refine Gl.by (g' := (mkF m 1 #[.val (.ref a0), .val (.ref a1), .unset] [(.ref a1)])) (fun _ k => XS.aloadN X0.here hx rfl (hb hby d6_0) rfl rfl k) ?_
  obtain ⟨T1, X1, e1, st1⟩ := instY X0 hx hZ hown (hw _ (List.mem_of_getElem? (i := 31) rfl)) e0 (Ins.self pf3) (g := (mkF m 1 #[.val (.ref a0), .val (.ref a1), .unset] [(.ref a1)])) rfl rfl (hb hby d6_1)
  refine Gl.by (g' := (mkF m 4 #[.val (.ref a0), .val (.ref a1), .unset] [(.int (1 : Int32))])) st1 ?_
  refine Gl.by (g' := (mkF m 9 #[.val (.ref a0), .val (.ref a1), .unset] [])) (fun _ k => XS.ifYes X1.here hx rfl (pc0 := 4) (pc' := 9) rfl (hb hby d6_4) rfl ((if0 _ _).trans (feq (by decide : ¬ ((1 : Int32) = (0 : Int32)))).2) (by decide) (by decide) k) ?_
  refine Gl.by (g' := (mkF m 10 #[.val (.ref a0), .val (.ref a1), .unset] [(.ref a1)])) (fun _ k => XS.aloadN X1.here hx rfl (hb hby d6_9) rfl rfl k) ?_
  obtain ⟨T2, X2, e2, st2⟩ := castY X1 hx hZ hown (hw _ (List.mem_of_getElem? (i := 31) rfl)) e1 (Ins.self pf3) (g := (mkF m 10 #[.val (.ref a0), .val (.ref a1), .unset] [(.ref a1)])) rfl rfl (hb hby d6_10)
  refine Gl.by (g' := (mkF m 13 #[.val (.ref a0), .val (.ref a1), .unset] [(.ref a1)])) st2 ?_
  refine Gl.by (g' := (mkF m 14 #[.val (.ref a0), .val (.ref a1), .val (.ref a1)] [])) (fun _ k => XS.astoreN X2.here hx rfl (hb hby d6_13) rfl rfl (l' := #[.val (.ref a0), .val (.ref a1), .val (.ref a1)]) rfl k) ?_
  refine Gl.by (g' := (mkF m 15 #[.val (.ref a0), .val (.ref a1), .val (.ref a1)] [(.ref a0)])) (fun _ k => XS.aloadN X2.here hx rfl (hb hby d6_14) rfl rfl k) ?_
  obtain ⟨T3, X3, e3, st3⟩ := getF X2 hx hZ hown (host := "") (Or.inl (hw _ (List.mem_of_getElem? (i := 22) rfl))) Via.refl e2 pf1 (g := (mkF m 15 #[.val (.ref a0), .val (.ref a1), .val (.ref a1)] [(.ref a0)])) rfl rfl (hb hby d6_15)
  refine Gl.by (g' := (mkF m 18 #[.val (.ref a0), .val (.ref a1), .val (.ref a1)] [(.int l0)])) st3 ?_
  refine Gl.by (g' := (mkF m 19 #[.val (.ref a0), .val (.ref a1), .val (.ref a1)] [(.ref a1), (.int l0)])) (fun _ k => XS.aloadN X3.here hx rfl (hb hby d6_18) rfl rfl k) ?_
  obtain ⟨T4, X4, e4, st4⟩ := getF X3 hx hZ hown (host := "") (Or.inl (hw _ (List.mem_of_getElem? (i := 22) rfl))) Via.refl e3 pf4 (g := (mkF m 19 #[.val (.ref a0), .val (.ref a1), .val (.ref a1)] [(.ref a1), (.int l0)])) rfl rfl (hb hby d6_19)
  refine Gl.by (g' := (mkF m 22 #[.val (.ref a0), .val (.ref a1), .val (.ref a1)] [(.int l1), (.int l0)])) st4 ?_
  by_cases hc5 : l0 = l1
  · refine Gl.by (g' := (mkF m 25 #[.val (.ref a0), .val (.ref a1), .val (.ref a1)] [])) (fun _ k => XS.icmpNo X4.here hx rfl (hb hby d6_22) rfl (teq hc5).2 k) ?_
    refine Gl.by (g' := (mkF m 26 #[.val (.ref a0), .val (.ref a1), .val (.ref a1)] [(.ref a0)])) (fun _ k => XS.aloadN X4.here hx rfl (hb hby d6_25) rfl rfl k) ?_
    obtain ⟨T6, X6, e6, st6⟩ := getF X4 hx hZ hown (host := "") (Or.inl (hw _ (List.mem_of_getElem? (i := 24) rfl))) Via.refl e4 pf2 (g := (mkF m 26 #[.val (.ref a0), .val (.ref a1), .val (.ref a1)] [(.ref a0)])) rfl rfl (hb hby d6_26)
    refine Gl.by (g' := (mkF m 29 #[.val (.ref a0), .val (.ref a1), .val (.ref a1)] [(.long t0)])) st6 ?_
    refine Gl.by (g' := (mkF m 30 #[.val (.ref a0), .val (.ref a1), .val (.ref a1)] [(.ref a1), (.long t0)])) (fun _ k => XS.aloadN X6.here hx rfl (hb hby d6_29) rfl rfl k) ?_
    obtain ⟨T7, X7, e7, st7⟩ := getF X6 hx hZ hown (host := "") (Or.inl (hw _ (List.mem_of_getElem? (i := 24) rfl))) Via.refl e6 pf5 (g := (mkF m 30 #[.val (.ref a0), .val (.ref a1), .val (.ref a1)] [(.ref a1), (.long t0)])) rfl rfl (hb hby d6_30)
    refine Gl.by (g' := (mkF m 33 #[.val (.ref a0), .val (.ref a1), .val (.ref a1)] [(.long t1), (.long t0)])) st7 ?_
    refine Gl.by (g' := (mkF m 34 #[.val (.ref a0), .val (.ref a1), .val (.ref a1)] [(.int (lcmpW t0 t1))])) (fun _ k => XS.lcmp X7.here hx rfl (hb hby d6_33) rfl k) ?_
    by_cases hc8 : t0 = t1
    · refine Gl.by (g' := (mkF m 37 #[.val (.ref a0), .val (.ref a1), .val (.ref a1)] [])) (fun _ k => XS.ifNo X7.here hx rfl (hb hby d6_34) rfl ((if0 _ _).trans (teq ((lw_eq t0 t1).mpr hc8)).2) k) ?_
      refine Gl.by (g' := (mkF m 38 #[.val (.ref a0), .val (.ref a1), .val (.ref a1)] [(.int (1 : Int32))])) (fun _ k => XS.iconst X7.here hx rfl (hb hby d6_37) k) ?_
      refine Gl.by (g' := (mkF m 42 #[.val (.ref a0), .val (.ref a1), .val (.ref a1)] [(.int (1 : Int32))])) (fun _ k => XS.goto X7.here hx rfl (pc0 := 38) (pc' := 42) rfl (hb hby d6_38) (by decide) (by decide) k) ?_
      exact Gl.outN X7 hx hk (t := .boolean) Bd.returns (by simp) (hb hby d6_42) ⟨(congrArg (fun z => some (Value.int z)) (show nar .boolean (1 : Int32) = fn6m l0 t0 l1 t1 w_icache w_lcache by unfold fn6m; rw [if_pos hc5, if_pos hc8]; try rfl)), N0, e7⟩ (by decide) (by decide)
    · refine Gl.by (g' := (mkF m 41 #[.val (.ref a0), .val (.ref a1), .val (.ref a1)] [])) (fun _ k => XS.ifYes X7.here hx rfl (pc0 := 34) (pc' := 41) rfl (hb hby d6_34) rfl ((if0 _ _).trans (feq (fun q => hc8 ((lw_eq t0 t1).mp q))).2) (by decide) (by decide) k) ?_
      refine Gl.by (g' := (mkF m 42 #[.val (.ref a0), .val (.ref a1), .val (.ref a1)] [(.int (0 : Int32))])) (fun _ k => XS.iconst X7.here hx rfl (hb hby d6_41) k) ?_
      exact Gl.outN X7 hx hk (t := .boolean) Bd.returns (by simp) (hb hby d6_42) ⟨(congrArg (fun z => some (Value.int z)) (show nar .boolean (0 : Int32) = fn6m l0 t0 l1 t1 w_icache w_lcache by unfold fn6m; rw [if_pos hc5, if_neg hc8]; try rfl)), N0, e7⟩ (by decide) (by decide)
  · refine Gl.by (g' := (mkF m 41 #[.val (.ref a0), .val (.ref a1), .val (.ref a1)] [])) (fun _ k => XS.icmpYes X4.here hx rfl (pc0 := 22) (pc' := 41) rfl (hb hby d6_22) rfl (feq hc5).2 (by decide) (by decide) k) ?_
    refine Gl.by (g' := (mkF m 42 #[.val (.ref a0), .val (.ref a1), .val (.ref a1)] [(.int (0 : Int32))])) (fun _ k => XS.iconst X4.here hx rfl (hb hby d6_41) k) ?_
    exact Gl.outN X4 hx hk (t := .boolean) Bd.returns (by simp) (hb hby d6_42) ⟨(congrArg (fun z => some (Value.int z)) (show nar .boolean (0 : Int32) = fn6m l0 t0 l1 t1 w_icache w_lcache by unfold fn6m; rw [if_neg hc5]; try rfl)), N0, e4⟩ (by decide) (by decide)
theorem d6_7 : decode prog_13_method_4_code 7 = .ok (.iconst 0, 1) := by decide +kernel
theorem d6_8 : decode prog_13_method_4_code 8 = .ok (.ireturn, 1) := by decide +kernel
theorem ef6n (m : MethodId) (x0 : Addr) : entryFrame m #[(.ref x0), .null] 3 = mkF m 0 #[.val (.ref x0), .val .null, .unset] [] := by first | (simp [entryFrame, mkF, argsToLocals, Value.category]; done) | rfl
def fn6n (w_icache w_lcache : Addr) : Int32 := (0 : Int32)
def Q6n (Z : State) (a0 : Addr) (w_icache w_lcache : Addr) (h0 : Heap) (n0 : Nat) (v : Option Value) (h : Heap) (L : List Loc) : Prop := v = some (.int (fn6n  w_icache w_lcache)) ∧ Fr n0 L ∧ h = h0
set_option maxRecDepth 65536 in
set_option maxHeartbeats 40000000 in
theorem rm6n (l : Launch) (Z : State) (a0' : Array Value) (hw : ∀ d ∈ tables_1, d.before a0' Z = true) (ws : List Jvm.Cond) (a0 : Addr) (w_icache w_lcache : Addr) (h0 : Heap) (n0 : Nat) (O : Old Z n0 h0) (W : Wd Z w_icache w_lcache) :
    MetFree l (⟨"com/example/libelect/libelect/Leadership", "equals", "(Ljava/lang/Object;)Z"⟩ : MethodName) (head1 (Jvm.Cond.code (⟨"com/example/libelect/libelect/Leadership", "equals", "(Ljava/lang/Object;)Z"⟩ : MethodName) prog_13_method_4_code 3 (some .boolean) :: ws) ({ frames := 0, cells := 0, slots := 0, locals := 0 } : Room)) (fun a U => a = #[(.ref a0), .null] ∧ Z.Warmed39 U.vm ∧ U.heap = h0) (fun _ _ _ _ _ => True) (fun _ U o U' => ∃ v L, o = .returned v ∧ Q6n Z a0 w_icache w_lcache h0 n0 v U'.heap L ∧ FrameEnd U o U' L ({ frames := 0, cells := 0, slots := 0, locals := 0 } : Room).cells ({ frames := 0, cells := 0, slots := 0, locals := 0 } : Room).slots) := by
  refine MetFree.of_bodySF (plainFor_of_name pn1) hisR ?_
  intro p e s m args below meth c s₁ Bd hml0 hP hK
  obtain ⟨rfl, hZ, hh⟩ := hP
  have hx := Bd.exec
  have hby := Bd.bytes
  have hml : c.maxLocals = 3 := hml0
  have hown : s.vm.findClass "com/example/libelect/libelect/Leadership" = some m.cls := findClass_of_methodNamed Bd.named
  have hnm := (name_of_methodNamed Bd.named Bd.method).1
  have hk := Bd.notSynchronized
  have X0 : Stand p l e ({ frames := 0, cells := 0, slots := 0, locals := 0 } : Room) s m #[(.ref a0), .null] below meth c s₁ [] 0 0 := Stand.of_body Bd
  have hh2 := hh
  have e0 : s₁.heap = h0 := by rw [← hh, Bd.state]; rfl
  have N0 := Fr.nil n0
  show Gl p e below (Pos 0 0 (Q6n Z a0 w_icache w_lcache h0 n0) s) s₁ _
  refine Gl.cast (ef6n m a0) ?_
  refine Gl.by (g' := (mkF m 1 #[.val (.ref a0), .val .null, .unset] [.null])) (fun _ k => XS.aloadN X0.here hx rfl (hb hby d6_0) rfl rfl k) ?_
  refine Gl.by (g' := (mkF m 4 #[.val (.ref a0), .val .null, .unset] [(.int (0 : Int32))])) (X0.instanceofNull hx (g := (mkF m 1 #[.val (.ref a0), .val .null, .unset] [.null])) rfl rfl (hb hby d6_1)) ?_
  refine Gl.by (g' := (mkF m 7 #[.val (.ref a0), .val .null, .unset] [])) (fun _ k => XS.ifNo X0.here hx rfl (hb hby d6_4) rfl ((if0 _ _).trans (teq (by decide : (0 : Int32) = (0 : Int32))).2) k) ?_
  refine Gl.by (g' := (mkF m 8 #[.val (.ref a0), .val .null, .unset] [(.int (0 : Int32))])) (fun _ k => XS.iconst X0.here hx rfl (hb hby d6_7) k) ?_
  exact Gl.outN X0 hx hk (t := .boolean) Bd.returns (by simp) (hb hby d6_8) ⟨(congrArg (fun z => some (Value.int z)) (show nar .boolean (0 : Int32) = fn6n  w_icache w_lcache by unfold fn6n; try rfl)), N0, e0⟩ (by decide) (by decide)
theorem ef6i (m : MethodId) (x0 : Addr) (x1 : Addr) : entryFrame m #[(.ref x0), (.ref x1)] 3 = mkF m 0 #[.val (.ref x0), .val (.ref x1), .unset] [] := by first | (simp [entryFrame, mkF, argsToLocals, Value.category]; done) | rfl
def fn6i (w_icache w_lcache : Addr) : Int32 := (0 : Int32)
def Q6i (Z : State) (a0 : Addr) (a1 : Addr) (w_icache w_lcache : Addr) (h0 : Heap) (n0 : Nat) (v : Option Value) (h : Heap) (L : List Loc) : Prop := v = some (.int (fn6i  w_icache w_lcache)) ∧ Fr n0 L ∧ h = h0
set_option maxRecDepth 65536 in
set_option maxHeartbeats 40000000 in
theorem rm6i (l : Launch) (Z : State) (a0' : Array Value) (hw : ∀ d ∈ tables_1, d.before a0' Z = true) (ws : List Jvm.Cond) (a0 : Addr) (a1 : Addr) (w_icache w_lcache : Addr) (h0 : Heap) (n0 : Nat) (O : Old Z n0 h0) (W : Wd Z w_icache w_lcache) (pf0 : Exa Z h0 a1 "java/lang/Integer") :
    MetFree l (⟨"com/example/libelect/libelect/Leadership", "equals", "(Ljava/lang/Object;)Z"⟩ : MethodName) (head1 (Jvm.Cond.code (⟨"com/example/libelect/libelect/Leadership", "equals", "(Ljava/lang/Object;)Z"⟩ : MethodName) prog_13_method_4_code 3 (some .boolean) :: ws) ({ frames := 0, cells := 0, slots := 0, locals := 0 } : Room)) (fun a U => a = #[(.ref a0), (.ref a1)] ∧ Z.Warmed39 U.vm ∧ U.heap = h0) (fun _ _ _ _ _ => True) (fun _ U o U' => ∃ v L, o = .returned v ∧ Q6i Z a0 a1 w_icache w_lcache h0 n0 v U'.heap L ∧ FrameEnd U o U' L ({ frames := 0, cells := 0, slots := 0, locals := 0 } : Room).cells ({ frames := 0, cells := 0, slots := 0, locals := 0 } : Room).slots) := by
  refine MetFree.of_bodySF (plainFor_of_name pn1) hisR ?_
  intro p e s m args below meth c s₁ Bd hml0 hP hK
  obtain ⟨rfl, hZ, hh⟩ := hP
  have hx := Bd.exec
  have hby := Bd.bytes
  have hml : c.maxLocals = 3 := hml0
  have hown : s.vm.findClass "com/example/libelect/libelect/Leadership" = some m.cls := findClass_of_methodNamed Bd.named
  have hnm := (name_of_methodNamed Bd.named Bd.method).1
  have hk := Bd.notSynchronized
  have X0 : Stand p l e ({ frames := 0, cells := 0, slots := 0, locals := 0 } : Room) s m #[(.ref a0), (.ref a1)] below meth c s₁ [] 0 0 := Stand.of_body Bd
  have hh2 := hh
  have e0 : s₁.heap = h0 := by rw [← hh, Bd.state]; rfl
  have N0 := Fr.nil n0
  show Gl p e below (Pos 0 0 (Q6i Z a0 a1 w_icache w_lcache h0 n0) s) s₁ _
  refine Gl.cast (ef6i m a0 a1) ?_
  refine Gl.by (g' := (mkF m 1 #[.val (.ref a0), .val (.ref a1), .unset] [(.ref a1)])) (fun _ k => XS.aloadN X0.here hx rfl (hb hby d6_0) rfl rfl k) ?_
  obtain ⟨T1, X1, e1, st1⟩ := instNo X0 hx hZ hown (hw _ (List.mem_of_getElem? (i := 31) rfl)) e0 pf0 (ns_no (hw _ (List.mem_of_getElem? (i := 40) rfl)) (hw _ (List.mem_of_getElem? (i := 10) rfl)) (NS.step (hw _ (List.mem_of_getElem? (i := 40) rfl)) (NS.step (hw _ (List.mem_of_getElem? (i := 41) rfl)) (ns_root (hw _ (List.mem_of_getElem? (i := 42) rfl)) (hw _ (List.mem_of_getElem? (i := 10) rfl)) (by decide)) (by decide)) (by decide)) (by decide)) (g := (mkF m 1 #[.val (.ref a0), .val (.ref a1), .unset] [(.ref a1)])) rfl rfl (hb hby d6_1)
  refine Gl.by (g' := (mkF m 4 #[.val (.ref a0), .val (.ref a1), .unset] [(.int (0 : Int32))])) st1 ?_
  refine Gl.by (g' := (mkF m 7 #[.val (.ref a0), .val (.ref a1), .unset] [])) (fun _ k => XS.ifNo X1.here hx rfl (hb hby d6_4) rfl ((if0 _ _).trans (teq (by decide : (0 : Int32) = (0 : Int32))).2) k) ?_
  refine Gl.by (g' := (mkF m 8 #[.val (.ref a0), .val (.ref a1), .unset] [(.int (0 : Int32))])) (fun _ k => XS.iconst X1.here hx rfl (hb hby d6_7) k) ?_
  exact Gl.outN X1 hx hk (t := .boolean) Bd.returns (by simp) (hb hby d6_8) ⟨(congrArg (fun z => some (Value.int z)) (show nar .boolean (0 : Int32) = fn6i  w_icache w_lcache by unfold fn6i; try rfl)), N0, e1⟩ (by decide) (by decide)
theorem ef6l (m : MethodId) (x0 : Addr) (x1 : Addr) : entryFrame m #[(.ref x0), (.ref x1)] 3 = mkF m 0 #[.val (.ref x0), .val (.ref x1), .unset] [] := by first | (simp [entryFrame, mkF, argsToLocals, Value.category]; done) | rfl
def fn6l (w_icache w_lcache : Addr) : Int32 := (0 : Int32)
def Q6l (Z : State) (a0 : Addr) (a1 : Addr) (w_icache w_lcache : Addr) (h0 : Heap) (n0 : Nat) (v : Option Value) (h : Heap) (L : List Loc) : Prop := v = some (.int (fn6l  w_icache w_lcache)) ∧ Fr n0 L ∧ h = h0
set_option maxRecDepth 65536 in
set_option maxHeartbeats 40000000 in
theorem rm6l (l : Launch) (Z : State) (a0' : Array Value) (hw : ∀ d ∈ tables_1, d.before a0' Z = true) (ws : List Jvm.Cond) (a0 : Addr) (a1 : Addr) (w_icache w_lcache : Addr) (h0 : Heap) (n0 : Nat) (O : Old Z n0 h0) (W : Wd Z w_icache w_lcache) (pf0 : Exa Z h0 a1 "java/lang/Long") :
    MetFree l (⟨"com/example/libelect/libelect/Leadership", "equals", "(Ljava/lang/Object;)Z"⟩ : MethodName) (head1 (Jvm.Cond.code (⟨"com/example/libelect/libelect/Leadership", "equals", "(Ljava/lang/Object;)Z"⟩ : MethodName) prog_13_method_4_code 3 (some .boolean) :: ws) ({ frames := 0, cells := 0, slots := 0, locals := 0 } : Room)) (fun a U => a = #[(.ref a0), (.ref a1)] ∧ Z.Warmed39 U.vm ∧ U.heap = h0) (fun _ _ _ _ _ => True) (fun _ U o U' => ∃ v L, o = .returned v ∧ Q6l Z a0 a1 w_icache w_lcache h0 n0 v U'.heap L ∧ FrameEnd U o U' L ({ frames := 0, cells := 0, slots := 0, locals := 0 } : Room).cells ({ frames := 0, cells := 0, slots := 0, locals := 0 } : Room).slots) := by
  refine MetFree.of_bodySF (plainFor_of_name pn1) hisR ?_
  intro p e s m args below meth c s₁ Bd hml0 hP hK
  obtain ⟨rfl, hZ, hh⟩ := hP
  have hx := Bd.exec
  have hby := Bd.bytes
  have hml : c.maxLocals = 3 := hml0
  have hown : s.vm.findClass "com/example/libelect/libelect/Leadership" = some m.cls := findClass_of_methodNamed Bd.named
  have hnm := (name_of_methodNamed Bd.named Bd.method).1
  have hk := Bd.notSynchronized
  have X0 : Stand p l e ({ frames := 0, cells := 0, slots := 0, locals := 0 } : Room) s m #[(.ref a0), (.ref a1)] below meth c s₁ [] 0 0 := Stand.of_body Bd
  have hh2 := hh
  have e0 : s₁.heap = h0 := by rw [← hh, Bd.state]; rfl
  have N0 := Fr.nil n0
  show Gl p e below (Pos 0 0 (Q6l Z a0 a1 w_icache w_lcache h0 n0) s) s₁ _
  refine Gl.cast (ef6l m a0 a1) ?_
  refine Gl.by (g' := (mkF m 1 #[.val (.ref a0), .val (.ref a1), .unset] [(.ref a1)])) (fun _ k => XS.aloadN X0.here hx rfl (hb hby d6_0) rfl rfl k) ?_
  obtain ⟨T1, X1, e1, st1⟩ := instNo X0 hx hZ hown (hw _ (List.mem_of_getElem? (i := 31) rfl)) e0 pf0 (ns_no (hw _ (List.mem_of_getElem? (i := 64) rfl)) (hw _ (List.mem_of_getElem? (i := 10) rfl)) (NS.step (hw _ (List.mem_of_getElem? (i := 64) rfl)) (NS.step (hw _ (List.mem_of_getElem? (i := 41) rfl)) (ns_root (hw _ (List.mem_of_getElem? (i := 42) rfl)) (hw _ (List.mem_of_getElem? (i := 10) rfl)) (by decide)) (by decide)) (by decide)) (by decide)) (g := (mkF m 1 #[.val (.ref a0), .val (.ref a1), .unset] [(.ref a1)])) rfl rfl (hb hby d6_1)
  refine Gl.by (g' := (mkF m 4 #[.val (.ref a0), .val (.ref a1), .unset] [(.int (0 : Int32))])) st1 ?_
  refine Gl.by (g' := (mkF m 7 #[.val (.ref a0), .val (.ref a1), .unset] [])) (fun _ k => XS.ifNo X1.here hx rfl (hb hby d6_4) rfl ((if0 _ _).trans (teq (by decide : (0 : Int32) = (0 : Int32))).2) k) ?_
  refine Gl.by (g' := (mkF m 8 #[.val (.ref a0), .val (.ref a1), .unset] [(.int (0 : Int32))])) (fun _ k => XS.iconst X1.here hx rfl (hb hby d6_7) k) ?_
  exact Gl.outN X1 hx hk (t := .boolean) Bd.returns (by simp) (hb hby d6_8) ⟨(congrArg (fun z => some (Value.int z)) (show nar .boolean (0 : Int32) = fn6l  w_icache w_lcache by unfold fn6l; try rfl)), N0, e1⟩ (by decide) (by decide)
theorem d10_0 : decode jdk_18_method_1_code 0 = .ok (.aload_n 0, 1) := by decide +kernel
theorem d10_1 : decode jdk_18_method_1_code 1 = .ok (.invokespecial 1, 3) := by decide +kernel
theorem d10_4 : decode jdk_18_method_1_code 4 = .ok (.return_, 1) := by decide +kernel
theorem pn2 : plainName "java/lang/Number" = true := by first | (simp [plainName, overriddenIn]; done) | decide +kernel
theorem ef10i (m : MethodId) (x0 : Addr) : entryFrame m #[(.ref x0)] 1 = mkF m 0 #[.val (.ref x0)] [] := by first | (simp [entryFrame, mkF, argsToLocals, Value.category]; done) | rfl
def Q10i (Z : State) (a0 : Addr) (w_icache w_lcache : Addr) (h0 : Heap) (n0 : Nat) (v : Option Value) (h : Heap) (L : List Loc) : Prop := v = none ∧ Fr n0 L ∧ h = h0
set_option maxRecDepth 65536 in
set_option maxHeartbeats 40000000 in
theorem rm10i (l : Launch) (Z : State) (a0' : Array Value) (hw : ∀ d ∈ tables_1, d.before a0' Z = true) (ws : List Jvm.Cond) (a0 : Addr) (w_icache w_lcache : Addr) (h0 : Heap) (n0 : Nat) (O : Old Z n0 h0) (W : Wd Z w_icache w_lcache) :
    MetFree l (⟨"java/lang/Number", "<init>", "()V"⟩ : MethodName) (head1 (Jvm.Cond.code (⟨"java/lang/Number", "<init>", "()V"⟩ : MethodName) jdk_18_method_1_code 1 none :: ws) ({ frames := 1, cells := 0, slots := 0, locals := 12 } : Room)) (fun a U => a = #[(.ref a0)] ∧ Z.Warmed39 U.vm ∧ U.heap = h0) (fun _ _ _ _ _ => True) (fun _ U o U' => ∃ v L, o = .returned v ∧ Q10i Z a0 w_icache w_lcache h0 n0 v U'.heap L ∧ FrameEnd U o U' L ({ frames := 1, cells := 0, slots := 0, locals := 12 } : Room).cells ({ frames := 1, cells := 0, slots := 0, locals := 12 } : Room).slots) := by
  refine MetFree.of_bodySF (plainFor_of_name pn2) hisR ?_
  intro p e s m args below meth c s₁ Bd hml0 hP hK
  obtain ⟨rfl, hZ, hh⟩ := hP
  have hx := Bd.exec
  have hby := Bd.bytes
  have hml : c.maxLocals = 1 := hml0
  have hown : s.vm.findClass "java/lang/Number" = some m.cls := findClass_of_methodNamed Bd.named
  have hnm := (name_of_methodNamed Bd.named Bd.method).1
  have hk := Bd.notSynchronized
  have X0 : Stand p l e ({ frames := 1, cells := 0, slots := 0, locals := 12 } : Room) s m #[(.ref a0)] below meth c s₁ [] 0 0 := Stand.of_body Bd
  have hh2 := hh
  have e0 : s₁.heap = h0 := by rw [← hh, Bd.state]; rfl
  have N0 := Fr.nil n0
  show Gl p e below (Pos 0 0 (Q10i Z a0 w_icache w_lcache h0 n0) s) s₁ _
  refine Gl.cast (ef10i m a0) ?_
  refine Gl.by (g' := (mkF m 1 #[.val (.ref a0)] [(.ref a0)])) (fun _ k => XS.aloadN X0.here hx rfl (hb hby d10_0) rfl rfl k) ?_
  obtain ⟨T1, X1, e1, st1⟩ := initO X0 hx hZ hown (hw _ (List.mem_of_getElem? (i := 61) rfl)) (hw _ (List.mem_of_getElem? (i := 16) rfl)) (hw _ (List.mem_of_getElem? (i := 17) rfl)) e0 (g := (mkF m 1 #[.val (.ref a0)] [(.ref a0)])) rfl (by rw [hml]; rfl) rfl (hb hby d10_1) (by decide) (W := 0) (by show 2 * 0 + _ ≤ _; exact Nat.le_of_eq rfl) (by decide)
  refine Gl.by (g' := (mkF m 4 #[.val (.ref a0)] [])) st1 ?_
  exact Gl.outV X1 hx hk Bd.returns (hb hby d10_4) ⟨rfl, N0, e1⟩ (by decide) (by decide)
theorem d11_0 : decode jdk_33_method_23_code 0 = .ok (.aload_n 0, 1) := by decide +kernel
theorem d11_1 : decode jdk_33_method_23_code 1 = .ok (.invokespecial 202, 3) := by decide +kernel
theorem d11_4 : decode jdk_33_method_23_code 4 = .ok (.aload_n 0, 1) := by decide +kernel
theorem d11_5 : decode jdk_33_method_23_code 5 = .ok (.iload_n 1, 1) := by decide +kernel
theorem d11_6 : decode jdk_33_method_23_code 6 = .ok (.putfield 205, 3) := by decide +kernel
theorem d11_9 : decode jdk_33_method_23_code 9 = .ok (.return_, 1) := by decide +kernel
theorem pn3 : plainName "java/lang/Integer" = true := by first | (simp [plainName, overriddenIn]; done) | decide +kernel
theorem ef11 (m : MethodId) (x0 : Addr) (x1 : Int32) : entryFrame m #[(.ref x0), (.int x1)] 2 = mkF m 0 #[.val (.ref x0), .val (.int x1)] [] := by first | (simp [entryFrame, mkF, argsToLocals, Value.category]; done) | rfl
def Q11 (Z : State) (a0 : Addr) (p1 : Int32) (w_icache w_lcache : Addr) (h0 : Heap) (n0 : Nat) (v : Option Value) (h : Heap) (L : List Loc) : Prop := v = none ∧ Fr n0 L ∧ Keep h0 h [a0] ∧ Exa Z h a0 "java/lang/Integer"
set_option maxRecDepth 65536 in
set_option maxHeartbeats 40000000 in
theorem rm11 (l : Launch) (Z : State) (a0' : Array Value) (hw : ∀ d ∈ tables_1, d.before a0' Z = true) (ws : List Jvm.Cond) (a0 : Addr) (p1 : Int32) (w_icache w_lcache : Addr) (h0 : Heap) (n0 : Nat) (O : Old Z n0 h0) (W : Wd Z w_icache w_lcache) (pf0 : Exa Z h0 a0 "java/lang/Integer") (pf1 : Fld Z h0 a0 "java/lang/Integer" "value" "I" (.int (0 : Int32))) (gp_a0 : n0 ≤ a0) :
    MetFree l (⟨"java/lang/Integer", "<init>", "(I)V"⟩ : MethodName) (head1 (Jvm.Cond.code (⟨"java/lang/Integer", "<init>", "(I)V"⟩ : MethodName) jdk_33_method_23_code 2 none :: ws) ({ frames := 2, cells := 0, slots := 0, locals := 24 } : Room)) (fun a U => a = #[(.ref a0), (.int p1)] ∧ Z.Warmed39 U.vm ∧ U.heap = h0) (fun _ _ _ _ _ => True) (fun _ U o U' => ∃ v L, o = .returned v ∧ Q11 Z a0 p1 w_icache w_lcache h0 n0 v U'.heap L ∧ FrameEnd U o U' L ({ frames := 2, cells := 0, slots := 0, locals := 24 } : Room).cells ({ frames := 2, cells := 0, slots := 0, locals := 24 } : Room).slots) := by
  refine MetFree.of_bodySF (plainFor_of_name pn3) hisR ?_
  intro p e s m args below meth c s₁ Bd hml0 hP hK
  obtain ⟨rfl, hZ, hh⟩ := hP
  have hx := Bd.exec
  have hby := Bd.bytes
  have hml : c.maxLocals = 2 := hml0
  have hown : s.vm.findClass "java/lang/Integer" = some m.cls := findClass_of_methodNamed Bd.named
  have hnm := (name_of_methodNamed Bd.named Bd.method).1
  have hk := Bd.notSynchronized
  have X0 : Stand p l e ({ frames := 2, cells := 0, slots := 0, locals := 24 } : Room) s m #[(.ref a0), (.int p1)] below meth c s₁ [] 0 0 := Stand.of_body Bd
  have hh2 := hh
  have e0 : s₁.heap = h0 := by rw [← hh, Bd.state]; rfl
  have N0 := Fr.nil n0
  show Gl p e below (Pos 0 0 (Q11 Z a0 p1 w_icache w_lcache h0 n0) s) s₁ _
  refine Gl.cast (ef11 m a0 p1) ?_
  refine Gl.by (g' := (mkF m 1 #[.val (.ref a0), .val (.int p1)] [(.ref a0)])) (fun _ k => XS.aloadN X0.here hx rfl (hb hby d11_0) rfl rfl k) ?_
  obtain ⟨_, _, ⟨T1, L1, k1, n1⟩, -, X1, ⟨Lc1, hQ1, l1, y1, z1⟩, st1⟩ := X0.specialBack hx (y := (⟨"java/lang/Number", "<init>", "()V"⟩ : MethodName)) rfl hown (mvT hZ (hw _ (List.mem_of_getElem? (i := 71) rfl))) (mvT hZ (hw _ (List.mem_of_getElem? (i := 56) rfl))) (mvT hZ (hw _ (List.mem_of_getElem? (i := 60) rfl))) (by decide) (backOf (W := 0) (rm10i l Z a0' hw [] a0 w_icache w_lcache h0 n0 O W ) hZ (hw _ (List.mem_of_getElem? (i := 60) rfl)) (hw _ (List.mem_of_getElem? (i := 59) rfl)) (by decide) (by decide)) (g := (mkF m 1 #[.val (.ref a0), .val (.int p1)] [(.ref a0)])) rfl (by rw [hml]; rfl) (Steps.refl _) (a := a0) (argsL := []) (rest := []) (lenOf pd36 rfl) rfl (by show 2 * 0 + _ ≤ _; exact Nat.le_of_eq rfl) (hb hby d11_1) (fun _ _ => ⟨rfl, e0, (by decide : 0 + 0 ≤ _), (by decide : 0 + 0 ≤ _)⟩)
  dsimp only [Pt.U, Pt.locs, Pt.cells, Pt.slots] at X1 l1 y1 z1 st1 hQ1
  subst l1 y1 z1
  obtain ⟨rfl, N1q, e1⟩ := hQ1
  have N1 := Fr.app N0 N1q
  refine Gl.by (g' := (mkF m 4 #[.val (.ref a0), .val (.int p1)] [])) (fun _ k => st1.trans k) ?_
  refine Gl.by (g' := (mkF m 5 #[.val (.ref a0), .val (.int p1)] [(.ref a0)])) (fun _ k => XS.aloadN X1.here hx rfl (hb hby d11_4) rfl rfl k) ?_
  refine Gl.by (g' := (mkF m 6 #[.val (.ref a0), .val (.int p1)] [(.int p1), (.ref a0)])) (fun _ k => XS.iloadN X1.here hx rfl (hb hby d11_5) rfl k) ?_
  obtain ⟨T2, h2, X2, e2, W2, st2⟩ := putF X1 hx hZ hown (host := "") (Or.inl (hw _ (List.mem_of_getElem? (i := 73) rfl))) Via.refl e1 pf1 pf0 (Or.inr ⟨(hw _ (List.mem_of_getElem? (i := 74) rfl)), rfl, hnm⟩) (hw _ (List.mem_of_getElem? (i := 66) rfl)) (ty := .int) (by decide) rfl rfl (g := (mkF m 6 #[.val (.ref a0), .val (.int p1)] [(.int p1), (.ref a0)])) rfl rfl (hb hby d11_6)
  have N2 := Fr.snoc X2 N1 gp_a0
  have Fw2 := Fld.same W2 pf1
  refine Gl.by (g' := (mkF m 9 #[.val (.ref a0), .val (.int p1)] [])) st2 ?_
  have K3 := ((Keep.refl h0 [a0]).wr W2 (Or.inl (List.mem_of_getElem? (i := 0) rfl)))
  have f4 := (Exa.wr W2 pf0)
  exact Gl.outV X2 hx hk Bd.returns (hb hby d11_9) (Eq.mpr (congrArg (fun hh => Q11 Z a0 p1 w_icache w_lcache h0 n0 _ hh _) e2) (show Q11 Z a0 p1 w_icache w_lcache h0 n0 _ h2 _ from ⟨rfl, N2, K3, f4⟩)) (by decide) (by decide)
theorem d9_0 : decode jdk_35_method_26_code 0 = .ok (.aload_n 0, 1) := by decide +kernel
theorem d9_1 : decode jdk_35_method_26_code 1 = .ok (.invokespecial 270, 3) := by decide +kernel
theorem d9_4 : decode jdk_35_method_26_code 4 = .ok (.aload_n 0, 1) := by decide +kernel
theorem d9_5 : decode jdk_35_method_26_code 5 = .ok (.lload_n 1, 1) := by decide +kernel
theorem d9_6 : decode jdk_35_method_26_code 6 = .ok (.putfield 273, 3) := by decide +kernel
theorem d9_9 : decode jdk_35_method_26_code 9 = .ok (.return_, 1) := by decide +kernel
theorem pn4 : plainName "java/lang/Long" = true := by first | (simp [plainName, overriddenIn]; done) | decide +kernel
theorem ef9 (m : MethodId) (x0 : Addr) (x1 : Int64) : entryFrame m #[(.ref x0), (.long x1)] 3 = mkF m 0 #[.val (.ref x0), .val (.long x1), .second] [] := by first | (simp [entryFrame, mkF, argsToLocals, Value.category]; done) | rfl
def Q9 (Z : State) (a0 : Addr) (q1 : Int64) (w_icache w_lcache : Addr) (h0 : Heap) (n0 : Nat) (v : Option Value) (h : Heap) (L : List Loc) : Prop := v = none ∧ Fr n0 L ∧ Keep h0 h [a0] ∧ Exa Z h a0 "java/lang/Long"
set_option maxRecDepth 65536 in
set_option maxHeartbeats 40000000 in
theorem rm9 (l : Launch) (Z : State) (a0' : Array Value) (hw : ∀ d ∈ tables_1, d.before a0' Z = true) (ws : List Jvm.Cond) (a0 : Addr) (q1 : Int64) (w_icache w_lcache : Addr) (h0 : Heap) (n0 : Nat) (O : Old Z n0 h0) (W : Wd Z w_icache w_lcache) (pf0 : Exa Z h0 a0 "java/lang/Long") (pf1 : Fld Z h0 a0 "java/lang/Long" "value" "J" (.long (0 : Int64))) (gp_a0 : n0 ≤ a0) :
    MetFree l (⟨"java/lang/Long", "<init>", "(J)V"⟩ : MethodName) (head1 (Jvm.Cond.code (⟨"java/lang/Long", "<init>", "(J)V"⟩ : MethodName) jdk_35_method_26_code 3 none :: ws) ({ frames := 2, cells := 0, slots := 0, locals := 24 } : Room)) (fun a U => a = #[(.ref a0), (.long q1)] ∧ Z.Warmed39 U.vm ∧ U.heap = h0) (fun _ _ _ _ _ => True) (fun _ U o U' => ∃ v L, o = .returned v ∧ Q9 Z a0 q1 w_icache w_lcache h0 n0 v U'.heap L ∧ FrameEnd U o U' L ({ frames := 2, cells := 0, slots := 0, locals := 24 } : Room).cells ({ frames := 2, cells := 0, slots := 0, locals := 24 } : Room).slots) := by
  refine MetFree.of_bodySF (plainFor_of_name pn4) hisR ?_
  intro p e s m args below meth c s₁ Bd hml0 hP hK
  obtain ⟨rfl, hZ, hh⟩ := hP
  have hx := Bd.exec
  have hby := Bd.bytes
  have hml : c.maxLocals = 3 := hml0
  have hown : s.vm.findClass "java/lang/Long" = some m.cls := findClass_of_methodNamed Bd.named
  have hnm := (name_of_methodNamed Bd.named Bd.method).1
  have hk := Bd.notSynchronized
  have X0 : Stand p l e ({ frames := 2, cells := 0, slots := 0, locals := 24 } : Room) s m #[(.ref a0), (.long q1)] below meth c s₁ [] 0 0 := Stand.of_body Bd
  have hh2 := hh
  have e0 : s₁.heap = h0 := by rw [← hh, Bd.state]; rfl
  have N0 := Fr.nil n0
  show Gl p e below (Pos 0 0 (Q9 Z a0 q1 w_icache w_lcache h0 n0) s) s₁ _
  refine Gl.cast (ef9 m a0 q1) ?_
  refine Gl.by (g' := (mkF m 1 #[.val (.ref a0), .val (.long q1), .second] [(.ref a0)])) (fun _ k => XS.aloadN X0.here hx rfl (hb hby d9_0) rfl rfl k) ?_
  obtain ⟨_, _, ⟨T1, L1, k1, n1⟩, -, X1, ⟨Lc1, hQ1, l1, y1, z1⟩, st1⟩ := X0.specialBack hx (y := (⟨"java/lang/Number", "<init>", "()V"⟩ : MethodName)) rfl hown (mvT hZ (hw _ (List.mem_of_getElem? (i := 55) rfl))) (mvT hZ (hw _ (List.mem_of_getElem? (i := 56) rfl))) (mvT hZ (hw _ (List.mem_of_getElem? (i := 60) rfl))) (by decide) (backOf (W := 0) (rm10i l Z a0' hw [] a0 w_icache w_lcache h0 n0 O W ) hZ (hw _ (List.mem_of_getElem? (i := 60) rfl)) (hw _ (List.mem_of_getElem? (i := 59) rfl)) (by decide) (by decide)) (g := (mkF m 1 #[.val (.ref a0), .val (.long q1), .second] [(.ref a0)])) rfl (by rw [hml]; rfl) (Steps.refl _) (a := a0) (argsL := []) (rest := []) (lenOf pd36 rfl) rfl (by show 2 * 0 + _ ≤ _; exact Nat.le_of_eq rfl) (hb hby d9_1) (fun _ _ => ⟨rfl, e0, (by decide : 0 + 0 ≤ _), (by decide : 0 + 0 ≤ _)⟩)
  dsimp only [Pt.U, Pt.locs, Pt.cells, Pt.slots] at X1 l1 y1 z1 st1 hQ1
  subst l1 y1 z1
  obtain ⟨rfl, N1q, e1⟩ := hQ1
  have N1 := Fr.app N0 N1q
  refine Gl.by (g' := (mkF m 4 #[.val (.ref a0), .val (.long q1), .second] [])) (fun _ k => st1.trans k) ?_
  refine Gl.by (g' := (mkF m 5 #[.val (.ref a0), .val (.long q1), .second] [(.ref a0)])) (fun _ k => XS.aloadN X1.here hx rfl (hb hby d9_4) rfl rfl k) ?_
  refine Gl.by (g' := (mkF m 6 #[.val (.ref a0), .val (.long q1), .second] [(.long q1), (.ref a0)])) (fun _ k => XS.lloadN X1.here hx rfl (hb hby d9_5) rfl k) ?_
  obtain ⟨T2, h2, X2, e2, W2, st2⟩ := putF X1 hx hZ hown (host := "") (Or.inl (hw _ (List.mem_of_getElem? (i := 62) rfl))) Via.refl e1 pf1 pf0 (Or.inr ⟨(hw _ (List.mem_of_getElem? (i := 63) rfl)), rfl, hnm⟩) (hw _ (List.mem_of_getElem? (i := 50) rfl)) (ty := .long) (by decide) rfl rfl (g := (mkF m 6 #[.val (.ref a0), .val (.long q1), .second] [(.long q1), (.ref a0)])) rfl rfl (hb hby d9_6)
  have N2 := Fr.snoc X2 N1 gp_a0
  have Fw2 := Fld.same W2 pf1
  refine Gl.by (g' := (mkF m 9 #[.val (.ref a0), .val (.long q1), .second] [])) st2 ?_
  have K3 := ((Keep.refl h0 [a0]).wr W2 (Or.inl (List.mem_of_getElem? (i := 0) rfl)))
  have f4 := (Exa.wr W2 pf0)
  exact Gl.outV X2 hx hk Bd.returns (hb hby d9_9) (Eq.mpr (congrArg (fun hh => Q9 Z a0 q1 w_icache w_lcache h0 n0 _ hh _) e2) (show Q9 Z a0 q1 w_icache w_lcache h0 n0 _ h2 _ from ⟨rfl, N2, K3, f4⟩)) (by decide) (by decide)
theorem cidx (x : Int32) (h1 : ¬ x < (-128 : Int32)) (h2 : ¬ (127 : Int32) < x) : ¬ (x + (128 : Int32)) < 0 ∧ (x + (128 : Int32)) < 256 := by
  have a := c_iadd x 128
  have b := rng32 (x + 128)
  have z1 : (-128 : Int32).toInt = -128 := by decide
  have z2 : (127 : Int32).toInt = 127 := by decide
  have z3 : (128 : Int32).toInt = 128 := by decide
  have z4 : (0 : Int32).toInt = 0 := by decide
  have z5 : (256 : Int32).toInt = 256 := by decide
  rw [Int32.lt_iff_toInt_lt] at h1 h2
  rw [Int32.lt_iff_toInt_lt, Int32.lt_iff_toInt_lt]
  rw [z3] at a
  omega
theorem cidxL (x : Int64) (h1 : ¬ x < (-128 : Int64)) (h2 : ¬ (127 : Int64) < x) : ¬ ((x.toInt32) + (128 : Int32)) < 0 ∧ ((x.toInt32) + (128 : Int32)) < 256 := by
  have a := c_iadd x.toInt32 128
  have b := rng32 (x.toInt32 + 128)
  have c := c_l2i x
  have d := rng32 x.toInt32
  have z1 : (-128 : Int64).toInt = -128 := by decide
  have z2 : (127 : Int64).toInt = 127 := by decide
  have z3 : (128 : Int32).toInt = 128 := by decide
  have z4 : (0 : Int32).toInt = 0 := by decide
  have z5 : (256 : Int32).toInt = 256 := by decide
  rw [Int64.lt_iff_toInt_lt] at h1 h2
  rw [Int32.lt_iff_toInt_lt, Int32.lt_iff_toInt_lt]
  rw [z3] at a
  omega
theorem d7_0 : decode jdk_33_method_22_code 0 = .ok (.iload_n 0, 1) := by decide +kernel
theorem d7_1 : decode jdk_33_method_22_code 1 = .ok (.bipush (-128), 2) := by decide +kernel
theorem d7_3 : decode jdk_33_method_22_code 3 = .ok (.if_icmp .lt 20, 3) := by decide +kernel
theorem d7_6 : decode jdk_33_method_22_code 6 = .ok (.iload_n 0, 1) := by decide +kernel
theorem d7_7 : decode jdk_33_method_22_code 7 = .ok (.getstatic 191, 3) := by decide +kernel
theorem d7_10 : decode jdk_33_method_22_code 10 = .ok (.if_icmp .gt 13, 3) := by decide +kernel
theorem d7_13 : decode jdk_33_method_22_code 13 = .ok (.getstatic 195, 3) := by decide +kernel
theorem d7_16 : decode jdk_33_method_22_code 16 = .ok (.iload_n 0, 1) := by decide +kernel
theorem d7_17 : decode jdk_33_method_22_code 17 = .ok (.sipush 128, 3) := by decide +kernel
theorem d7_20 : decode jdk_33_method_22_code 20 = .ok (.iadd, 1) := by decide +kernel
theorem d7_21 : decode jdk_33_method_22_code 21 = .ok (.aaload, 1) := by decide +kernel
theorem d7_22 : decode jdk_33_method_22_code 22 = .ok (.areturn, 1) := by decide +kernel
theorem d7_23 : decode jdk_33_method_22_code 23 = .ok (.new 1, 3) := by decide +kernel
theorem d7_26 : decode jdk_33_method_22_code 26 = .ok (.dup, 1) := by decide +kernel
theorem d7_27 : decode jdk_33_method_22_code 27 = .ok (.iload_n 0, 1) := by decide +kernel
theorem d7_28 : decode jdk_33_method_22_code 28 = .ok (.invokespecial 199, 3) := by decide +kernel
theorem d7_31 : decode jdk_33_method_22_code 31 = .ok (.areturn, 1) := by decide +kernel
theorem pd93 : parseMethodDescriptor "(I)V" = some ⟨[.int], none⟩ := by decide +kernel
theorem ef7 (m : MethodId) (x0 : Int32) : entryFrame m #[(.int x0)] 1 = mkF m 0 #[.val (.int x0)] [] := by first | (simp [entryFrame, mkF, argsToLocals, Value.category]; done) | rfl
def Q7 (Z : State) (p0 : Int32) (w_icache w_lcache : Addr) (h0 : Heap) (n0 : Nat) (v : Option Value) (h : Heap) (L : List Loc) : Prop := ∃ (b : Addr), v = some (.ref b) ∧ Fr n0 L ∧ Keep h0 h [] ∧ Exa Z h b "java/lang/Integer"
set_option maxRecDepth 65536 in
set_option maxHeartbeats 40000000 in
theorem rm7 (l : Launch) (Z : State) (a0' : Array Value) (hw : ∀ d ∈ tables_1, d.before a0' Z = true) (ws : List Jvm.Cond) (p0 : Int32) (w_icache w_lcache : Addr) (h0 : Heap) (n0 : Nat) (O : Old Z n0 h0) (W : Wd Z w_icache w_lcache) :
    MetFree l (⟨"java/lang/Integer", "valueOf", "(I)Ljava/lang/Integer;"⟩ : MethodName) (head1 (Jvm.Cond.code (⟨"java/lang/Integer", "valueOf", "(I)Ljava/lang/Integer;"⟩ : MethodName) jdk_33_method_22_code 1 (some (.object "java/lang/Integer")) :: ws) ({ frames := 3, cells := 1, slots := 1, locals := 38 } : Room)) (fun a U => a = #[(.int p0)] ∧ Z.Warmed39 U.vm ∧ U.heap = h0) (fun _ _ _ _ _ => True) (fun _ U o U' => ∃ v L, o = .returned v ∧ Q7 Z p0 w_icache w_lcache h0 n0 v U'.heap L ∧ FrameEnd U o U' L ({ frames := 3, cells := 1, slots := 1, locals := 38 } : Room).cells ({ frames := 3, cells := 1, slots := 1, locals := 38 } : Room).slots) := by
  refine MetFree.of_bodySF (plainFor_of_name pn3) hisR ?_
  intro p e s m args below meth c s₁ Bd hml0 hP hK
  obtain ⟨rfl, hZ, hh⟩ := hP
  have hx := Bd.exec
  have hby := Bd.bytes
  have hml : c.maxLocals = 1 := hml0
  have hown : s.vm.findClass "java/lang/Integer" = some m.cls := findClass_of_methodNamed Bd.named
  have hnm := (name_of_methodNamed Bd.named Bd.method).1
  have hk := Bd.notSynchronized
  have X0 : Stand p l e ({ frames := 3, cells := 1, slots := 1, locals := 38 } : Room) s m #[(.int p0)] below meth c s₁ [] 0 0 := Stand.of_body Bd
  have hh2 := hh
  have e0 : s₁.heap = h0 := by rw [← hh, Bd.state]; rfl
  have N0 := Fr.nil n0
  show Gl p e below (Pos 1 1 (Q7 Z p0 w_icache w_lcache h0 n0) s) s₁ _
  refine Gl.cast (ef7 m p0) ?_
  refine Gl.by (g' := (mkF m 1 #[.val (.int p0)] [(.int p0)])) (fun _ k => XS.iloadN X0.here hx rfl (hb hby d7_0) rfl k) ?_
  refine Gl.by (g' := (mkF m 3 #[.val (.int p0)] [(.int (-128 : Int32)), (.int p0)])) (fun _ k => XS.bipush X0.here hx rfl (hb hby d7_1) k) ?_
  by_cases hc1 : p0 < (-128 : Int32)
  · refine Gl.by (g' := (mkF m 23 #[.val (.int p0)] [])) (fun _ k => XS.icmpYes X0.here hx rfl (pc0 := 3) (pc' := 23) rfl (hb hby d7_3) rfl (tlt hc1).1 (by decide) (by decide) k) ?_
    obtain ⟨T2, h2, X2, e2, E2, A2, D2, -, st2⟩ := newO X0 hx hZ hown (hw _ (List.mem_of_getElem? (i := 65) rfl)) (hw _ (List.mem_of_getElem? (i := 66) rfl)) (hw _ (List.mem_of_getElem? (i := 35) rfl)) e0 (g := (mkF m 23 #[.val (.int p0)] [])) rfl (hb hby d7_23) (by decide) (by decide)
    obtain ⟨b2, g2⟩ : ∃ z, z = (h0).size := ⟨_, rfl⟩
    rw [← g2] at A2 D2 st2
    have gb2 : n0 ≤ b2 := Nat.le_trans (Nat.le_trans (Nat.le_of_eq O.1.symm) O.2.1) (Nat.le_of_eq g2.symm)
    have sb2 : h0.size ≤ b2 := Nat.le_trans (Keep.refl h0 []).1 (Nat.le_of_eq g2.symm)
    have D2_value : Fld Z h2 b2 "java/lang/Integer" "value" "I" (.int (0 : Int32)) := D2 (Or.inr (hw _ (List.mem_of_getElem? (i := 74) rfl))) (ty := .int) (by decide)
    refine Gl.by (g' := (mkF m 26 #[.val (.int p0)] [(.ref b2)])) st2 ?_
    refine Gl.by (g' := (mkF m 27 #[.val (.int p0)] [(.ref b2), (.ref b2)])) (fun _ k => XS.dup X2.here hx rfl (hb hby d7_26) rfl rfl k) ?_
    refine Gl.by (g' := (mkF m 28 #[.val (.int p0)] [(.int p0), (.ref b2), (.ref b2)])) (fun _ k => XS.iloadN X2.here hx rfl (hb hby d7_27) rfl k) ?_
    have O4 := (O.ext E2)
    obtain ⟨_, _, ⟨T3, L3, k3, n3⟩, -, X3, ⟨Lc3, hQ3, l3, y3, z3⟩, st3⟩ := X2.specialBack hx (y := (⟨"java/lang/Integer", "<init>", "(I)V"⟩ : MethodName)) rfl hown (mvT hZ (hw _ (List.mem_of_getElem? (i := 67) rfl))) (mvT hZ (hw _ (List.mem_of_getElem? (i := 68) rfl))) (mvT hZ (hw _ (List.mem_of_getElem? (i := 70) rfl))) (by decide) (backOf (W := 1) (rm11 l Z a0' hw [] b2 p0 w_icache w_lcache h2 n0 O4 W A2 D2_value gb2) hZ (hw _ (List.mem_of_getElem? (i := 70) rfl)) (hw _ (List.mem_of_getElem? (i := 35) rfl)) (by decide) (by decide)) (g := (mkF m 28 #[.val (.int p0)] [(.int p0), (.ref b2), (.ref b2)])) rfl (by rw [hml]; rfl) (Steps.refl _) (a := b2) (argsL := [(.int p0)]) (rest := [(.ref b2)]) (lenOf pd93 rfl) rfl (by show 2 * 0 + _ ≤ _; exact Nat.le_of_eq rfl) (hb hby d7_28) (fun _ _ => ⟨rfl, e2, (by decide : 1 + 0 ≤ _), (by decide : 1 + 0 ≤ _)⟩)
    dsimp only [Pt.U, Pt.locs, Pt.cells, Pt.slots] at X3 l3 y3 z3 st3 hQ3
    subst l3 y3 z3
    obtain ⟨rfl, N3q, Kc3, fc3_0⟩ := hQ3
    have N3 := Fr.app N0 N3q
    refine Gl.by (g' := (mkF m 31 #[.val (.int p0)] [(.ref b2)])) (fun _ k => st3.trans k) ?_
    have K5 := (((Keep.refl h0 []).ext E2).trans Kc3 (allS (Or.inr sb2) all0))
    exact Gl.outA X3 hx hk Bd.returns rfl rfl (hb hby d7_31) ⟨b2, rfl, N3, K5, fc3_0⟩ (by decide) (by decide)
  · refine Gl.by (g' := (mkF m 6 #[.val (.int p0)] [])) (fun _ k => XS.icmpNo X0.here hx rfl (hb hby d7_3) rfl (flt hc1).1 k) ?_
    refine Gl.by (g' := (mkF m 7 #[.val (.int p0)] [(.int p0)])) (fun _ k => XS.iloadN X0.here hx rfl (hb hby d7_6) rfl k) ?_
    obtain ⟨T6, X6, e6, st6⟩ := getS2 X0 hx hZ hown (host := "") (Or.inl (hw _ (List.mem_of_getElem? (i := 37) rfl))) Via.refl e0 (Sta.ext O.2 W.2.1) (g := (mkF m 7 #[.val (.int p0)] [(.int p0)])) rfl (hb hby d7_7)
    refine Gl.by (g' := (mkF m 10 #[.val (.int p0)] [(.int (127 : Int32)), (.int p0)])) st6 ?_
    by_cases hc7 : (127 : Int32) < p0
    · refine Gl.by (g' := (mkF m 23 #[.val (.int p0)] [])) (fun _ k => XS.icmpYes X6.here hx rfl (pc0 := 10) (pc' := 23) rfl (hb hby d7_10) rfl (tlt hc7).2.2.1 (by decide) (by decide) k) ?_
      obtain ⟨T8, h8, X8, e8, E8, A8, D8, -, st8⟩ := newO X6 hx hZ hown (hw _ (List.mem_of_getElem? (i := 65) rfl)) (hw _ (List.mem_of_getElem? (i := 66) rfl)) (hw _ (List.mem_of_getElem? (i := 35) rfl)) e6 (g := (mkF m 23 #[.val (.int p0)] [])) rfl (hb hby d7_23) (by decide) (by decide)
      obtain ⟨b8, g8⟩ : ∃ z, z = (h0).size := ⟨_, rfl⟩
      rw [← g8] at A8 D8 st8
      have gb8 : n0 ≤ b8 := Nat.le_trans (Nat.le_trans (Nat.le_of_eq O.1.symm) O.2.1) (Nat.le_of_eq g8.symm)
      have sb8 : h0.size ≤ b8 := Nat.le_trans (Keep.refl h0 []).1 (Nat.le_of_eq g8.symm)
      have D8_value : Fld Z h8 b8 "java/lang/Integer" "value" "I" (.int (0 : Int32)) := D8 (Or.inr (hw _ (List.mem_of_getElem? (i := 74) rfl))) (ty := .int) (by decide)
      refine Gl.by (g' := (mkF m 26 #[.val (.int p0)] [(.ref b8)])) st8 ?_
      refine Gl.by (g' := (mkF m 27 #[.val (.int p0)] [(.ref b8), (.ref b8)])) (fun _ k => XS.dup X8.here hx rfl (hb hby d7_26) rfl rfl k) ?_
      refine Gl.by (g' := (mkF m 28 #[.val (.int p0)] [(.int p0), (.ref b8), (.ref b8)])) (fun _ k => XS.iloadN X8.here hx rfl (hb hby d7_27) rfl k) ?_
      have O10 := (O.ext E8)
      obtain ⟨_, _, ⟨T9, L9, k9, n9⟩, -, X9, ⟨Lc9, hQ9, l9, y9, z9⟩, st9⟩ := X8.specialBack hx (y := (⟨"java/lang/Integer", "<init>", "(I)V"⟩ : MethodName)) rfl hown (mvT hZ (hw _ (List.mem_of_getElem? (i := 67) rfl))) (mvT hZ (hw _ (List.mem_of_getElem? (i := 68) rfl))) (mvT hZ (hw _ (List.mem_of_getElem? (i := 70) rfl))) (by decide) (backOf (W := 1) (rm11 l Z a0' hw [] b8 p0 w_icache w_lcache h8 n0 O10 W A8 D8_value gb8) hZ (hw _ (List.mem_of_getElem? (i := 70) rfl)) (hw _ (List.mem_of_getElem? (i := 35) rfl)) (by decide) (by decide)) (g := (mkF m 28 #[.val (.int p0)] [(.int p0), (.ref b8), (.ref b8)])) rfl (by rw [hml]; rfl) (Steps.refl _) (a := b8) (argsL := [(.int p0)]) (rest := [(.ref b8)]) (lenOf pd93 rfl) rfl (by show 2 * 0 + _ ≤ _; exact Nat.le_of_eq rfl) (hb hby d7_28) (fun _ _ => ⟨rfl, e8, (by decide : 1 + 0 ≤ _), (by decide : 1 + 0 ≤ _)⟩)
      dsimp only [Pt.U, Pt.locs, Pt.cells, Pt.slots] at X9 l9 y9 z9 st9 hQ9
      subst l9 y9 z9
      obtain ⟨rfl, N9q, Kc9, fc9_0⟩ := hQ9
      have N9 := Fr.app N0 N9q
      refine Gl.by (g' := (mkF m 31 #[.val (.int p0)] [(.ref b8)])) (fun _ k => st9.trans k) ?_
      have K11 := (((Keep.refl h0 []).ext E8).trans Kc9 (allS (Or.inr sb8) all0))
      exact Gl.outA X9 hx hk Bd.returns rfl rfl (hb hby d7_31) ⟨b8, rfl, N9, K11, fc9_0⟩ (by decide) (by decide)
    · refine Gl.by (g' := (mkF m 13 #[.val (.int p0)] [])) (fun _ k => XS.icmpNo X6.here hx rfl (hb hby d7_10) rfl (flt hc7).2.2.1 k) ?_
      obtain ⟨T12, X12, e12, st12⟩ := getS2 X6 hx hZ hown (host := "") (Or.inl (hw _ (List.mem_of_getElem? (i := 39) rfl))) Via.refl e6 (Sta.ext O.2 W.1.1) (g := (mkF m 13 #[.val (.int p0)] [])) rfl (hb hby d7_13)
      refine Gl.by (g' := (mkF m 16 #[.val (.int p0)] [(.ref w_icache)])) st12 ?_
      refine Gl.by (g' := (mkF m 17 #[.val (.int p0)] [(.int p0), (.ref w_icache)])) (fun _ k => XS.iloadN X12.here hx rfl (hb hby d7_16) rfl k) ?_
      refine Gl.by (g' := (mkF m 20 #[.val (.int p0)] [(.int (128 : Int32)), (.int p0), (.ref w_icache)])) (fun _ k => XS.sipush X12.here hx rfl (hb hby d7_17) k) ?_
      refine Gl.by (g' := (mkF m 21 #[.val (.int p0)] [(.int (p0 + (128 : Int32))), (.ref w_icache)])) (fun _ k => XS.iadd X12.here hx rfl (hb hby d7_20) rfl k) ?_
      obtain ⟨clc13, Arc13, Szc13, Elc13⟩ := W.1.2
      have hj13 : ¬ (p0 + (128 : Int32)) < 0 ∧ (p0 + (128 : Int32)) < 256 := (cidx _ hc1 hc7)
      obtain ⟨xc13, hxc13, Exc13⟩ := Elc13 (p0 + (128 : Int32)) hj13.1 hj13.2
      refine Gl.by (g' := (mkF m 22 #[.val (.int p0)] [(.ref xc13)])) (X12.aaload hx (j := (p0 + (128 : Int32))) (v := (.ref xc13)) (by rw [e12]; exact O.2.2 _ _ Arc13.1) (State.isArrayOf_alike hZ.alike Arc13.2.1) rfl Arc13.2.2 (inb_of (z := 256) (by rw [Szc13]; rfl) hj13) hxc13 (g := (mkF m 21 #[.val (.int p0)] [(.int (p0 + (128 : Int32))), (.ref w_icache)])) rfl rfl (hb hby d7_21)) ?_
      exact Gl.outA X12 hx hk Bd.returns rfl rfl (hb hby d7_22) (Eq.mpr (congrArg (fun hh => Q7 Z p0 w_icache w_lcache h0 n0 _ hh _) e12) (show Q7 Z p0 w_icache w_lcache h0 n0 _ h0 _ from ⟨xc13, rfl, N0, (Keep.refl h0 []), (Exa.ext O.2 Exc13)⟩)) (by decide) (by decide)
theorem d8_0 : decode jdk_35_method_24_code 0 = .ok (.sipush 128, 3) := by decide +kernel
theorem d8_3 : decode jdk_35_method_24_code 3 = .ok (.istore_n 2, 1) := by decide +kernel
theorem d8_4 : decode jdk_35_method_24_code 4 = .ok (.lload_n 0, 1) := by decide +kernel
theorem d8_5 : decode jdk_35_method_24_code 5 = .ok (.ldc2_w 230, 3) := by decide +kernel
theorem d8_8 : decode jdk_35_method_24_code 8 = .ok (.lcmp, 1) := by decide +kernel
theorem d8_9 : decode jdk_35_method_24_code 9 = .ok (.ifCond .lt 22, 3) := by decide +kernel
theorem d8_12 : decode jdk_35_method_24_code 12 = .ok (.lload_n 0, 1) := by decide +kernel
theorem d8_13 : decode jdk_35_method_24_code 13 = .ok (.ldc2_w 232, 3) := by decide +kernel
theorem d8_16 : decode jdk_35_method_24_code 16 = .ok (.lcmp, 1) := by decide +kernel
theorem d8_17 : decode jdk_35_method_24_code 17 = .ok (.ifCond .gt 14, 3) := by decide +kernel
theorem d8_20 : decode jdk_35_method_24_code 20 = .ok (.getstatic 234, 3) := by decide +kernel
theorem d8_23 : decode jdk_35_method_24_code 23 = .ok (.lload_n 0, 1) := by decide +kernel
theorem d8_24 : decode jdk_35_method_24_code 24 = .ok (.l2i, 1) := by decide +kernel
theorem d8_25 : decode jdk_35_method_24_code 25 = .ok (.sipush 128, 3) := by decide +kernel
theorem d8_28 : decode jdk_35_method_24_code 28 = .ok (.iadd, 1) := by decide +kernel
theorem d8_29 : decode jdk_35_method_24_code 29 = .ok (.aaload, 1) := by decide +kernel
theorem d8_30 : decode jdk_35_method_24_code 30 = .ok (.areturn, 1) := by decide +kernel
theorem d8_31 : decode jdk_35_method_24_code 31 = .ok (.new 1, 3) := by decide +kernel
theorem d8_34 : decode jdk_35_method_24_code 34 = .ok (.dup, 1) := by decide +kernel
theorem d8_35 : decode jdk_35_method_24_code 35 = .ok (.lload_n 0, 1) := by decide +kernel
theorem d8_36 : decode jdk_35_method_24_code 36 = .ok (.invokespecial 240, 3) := by decide +kernel
theorem d8_39 : decode jdk_35_method_24_code 39 = .ok (.areturn, 1) := by decide +kernel
theorem pd116 : parseMethodDescriptor "(J)V" = some ⟨[.long], none⟩ := by decide +kernel
theorem ef8 (m : MethodId) (x0 : Int64) : entryFrame m #[(.long x0)] 3 = mkF m 0 #[.val (.long x0), .second, .unset] [] := by first | (simp [entryFrame, mkF, argsToLocals, Value.category]; done) | rfl
def Q8 (Z : State) (q0 : Int64) (w_icache w_lcache : Addr) (h0 : Heap) (n0 : Nat) (v : Option Value) (h : Heap) (L : List Loc) : Prop := ∃ (b : Addr), v = some (.ref b) ∧ Fr n0 L ∧ Keep h0 h [] ∧ Exa Z h b "java/lang/Long"
set_option maxRecDepth 65536 in
set_option maxHeartbeats 40000000 in
theorem rm8 (l : Launch) (Z : State) (a0' : Array Value) (hw : ∀ d ∈ tables_1, d.before a0' Z = true) (ws : List Jvm.Cond) (q0 : Int64) (w_icache w_lcache : Addr) (h0 : Heap) (n0 : Nat) (O : Old Z n0 h0) (W : Wd Z w_icache w_lcache) :
    MetFree l (⟨"java/lang/Long", "valueOf", "(J)Ljava/lang/Long;"⟩ : MethodName) (head1 (Jvm.Cond.code (⟨"java/lang/Long", "valueOf", "(J)Ljava/lang/Long;"⟩ : MethodName) jdk_35_method_24_code 3 (some (.object "java/lang/Long")) :: ws) ({ frames := 3, cells := 1, slots := 1, locals := 39 } : Room)) (fun a U => a = #[(.long q0)] ∧ Z.Warmed39 U.vm ∧ U.heap = h0) (fun _ _ _ _ _ => True) (fun _ U o U' => ∃ v L, o = .returned v ∧ Q8 Z q0 w_icache w_lcache h0 n0 v U'.heap L ∧ FrameEnd U o U' L ({ frames := 3, cells := 1, slots := 1, locals := 39 } : Room).cells ({ frames := 3, cells := 1, slots := 1, locals := 39 } : Room).slots) := by
  refine MetFree.of_bodySF (plainFor_of_name pn4) hisR ?_
  intro p e s m args below meth c s₁ Bd hml0 hP hK
  obtain ⟨rfl, hZ, hh⟩ := hP
  have hx := Bd.exec
  have hby := Bd.bytes
  have hml : c.maxLocals = 3 := hml0
  have hown : s.vm.findClass "java/lang/Long" = some m.cls := findClass_of_methodNamed Bd.named
  have hnm := (name_of_methodNamed Bd.named Bd.method).1
  have hk := Bd.notSynchronized
  have X0 : Stand p l e ({ frames := 3, cells := 1, slots := 1, locals := 39 } : Room) s m #[(.long q0)] below meth c s₁ [] 0 0 := Stand.of_body Bd
  have hh2 := hh
  have e0 : s₁.heap = h0 := by rw [← hh, Bd.state]; rfl
  have N0 := Fr.nil n0
  show Gl p e below (Pos 1 1 (Q8 Z q0 w_icache w_lcache h0 n0) s) s₁ _
  refine Gl.cast (ef8 m q0) ?_
  refine Gl.by (g' := (mkF m 3 #[.val (.long q0), .second, .unset] [(.int (128 : Int32))])) (fun _ k => XS.sipush X0.here hx rfl (hb hby d8_0) k) ?_
  refine Gl.by (g' := (mkF m 4 #[.val (.long q0), .second, .val (.int (128 : Int32))] [])) (fun _ k => XS.istoreN X0.here hx rfl (hb hby d8_3) rfl (l' := #[.val (.long q0), .second, .val (.int (128 : Int32))]) rfl k) ?_
  refine Gl.by (g' := (mkF m 5 #[.val (.long q0), .second, .val (.int (128 : Int32))] [(.long q0)])) (fun _ k => XS.lloadN X0.here hx rfl (hb hby d8_4) rfl k) ?_
  refine Gl.by (g' := (mkF m 8 #[.val (.long q0), .second, .val (.int (128 : Int32))] [(.long (-128 : Int64)), (.long q0)])) (X0.ldc2Long hx hown (mvT hZ (hw _ (List.mem_of_getElem? (i := 47) rfl))) (g := (mkF m 5 #[.val (.long q0), .second, .val (.int (128 : Int32))] [(.long q0)])) rfl (hb hby d8_5)) ?_
  refine Gl.by (g' := (mkF m 9 #[.val (.long q0), .second, .val (.int (128 : Int32))] [(.int (lcmpW q0 (-128 : Int64)))])) (fun _ k => XS.lcmp X0.here hx rfl (hb hby d8_8) rfl k) ?_
  by_cases hc1 : q0 < (-128 : Int64)
  · refine Gl.by (g' := (mkF m 31 #[.val (.long q0), .second, .val (.int (128 : Int32))] [])) (fun _ k => XS.ifYes X0.here hx rfl (pc0 := 9) (pc' := 31) rfl (hb hby d8_9) rfl ((if0 _ _).trans (tlt ((lw_lt q0 (-128 : Int64)).mpr hc1)).1) (by decide) (by decide) k) ?_
    obtain ⟨T2, h2, X2, e2, E2, A2, D2, -, st2⟩ := newO X0 hx hZ hown (hw _ (List.mem_of_getElem? (i := 49) rfl)) (hw _ (List.mem_of_getElem? (i := 50) rfl)) (hw _ (List.mem_of_getElem? (i := 45) rfl)) e0 (g := (mkF m 31 #[.val (.long q0), .second, .val (.int (128 : Int32))] [])) rfl (hb hby d8_31) (by decide) (by decide)
    obtain ⟨b2, g2⟩ : ∃ z, z = (h0).size := ⟨_, rfl⟩
    rw [← g2] at A2 D2 st2
    have gb2 : n0 ≤ b2 := Nat.le_trans (Nat.le_trans (Nat.le_of_eq O.1.symm) O.2.1) (Nat.le_of_eq g2.symm)
    have sb2 : h0.size ≤ b2 := Nat.le_trans (Keep.refl h0 []).1 (Nat.le_of_eq g2.symm)
    have D2_value : Fld Z h2 b2 "java/lang/Long" "value" "J" (.long (0 : Int64)) := D2 (Or.inr (hw _ (List.mem_of_getElem? (i := 63) rfl))) (ty := .long) (by decide)
    refine Gl.by (g' := (mkF m 34 #[.val (.long q0), .second, .val (.int (128 : Int32))] [(.ref b2)])) st2 ?_
    refine Gl.by (g' := (mkF m 35 #[.val (.long q0), .second, .val (.int (128 : Int32))] [(.ref b2), (.ref b2)])) (fun _ k => XS.dup X2.here hx rfl (hb hby d8_34) rfl rfl k) ?_
    refine Gl.by (g' := (mkF m 36 #[.val (.long q0), .second, .val (.int (128 : Int32))] [(.long q0), (.ref b2), (.ref b2)])) (fun _ k => XS.lloadN X2.here hx rfl (hb hby d8_35) rfl k) ?_
    have O4 := (O.ext E2)
    obtain ⟨_, _, ⟨T3, L3, k3, n3⟩, -, X3, ⟨Lc3, hQ3, l3, y3, z3⟩, st3⟩ := X2.specialBack hx (y := (⟨"java/lang/Long", "<init>", "(J)V"⟩ : MethodName)) rfl hown (mvT hZ (hw _ (List.mem_of_getElem? (i := 51) rfl))) (mvT hZ (hw _ (List.mem_of_getElem? (i := 52) rfl))) (mvT hZ (hw _ (List.mem_of_getElem? (i := 54) rfl))) (by decide) (backOf (W := 1) (rm9 l Z a0' hw [] b2 q0 w_icache w_lcache h2 n0 O4 W A2 D2_value gb2) hZ (hw _ (List.mem_of_getElem? (i := 54) rfl)) (hw _ (List.mem_of_getElem? (i := 45) rfl)) (by decide) (by decide)) (g := (mkF m 36 #[.val (.long q0), .second, .val (.int (128 : Int32))] [(.long q0), (.ref b2), (.ref b2)])) rfl (by rw [hml]; rfl) (Steps.refl _) (a := b2) (argsL := [(.long q0)]) (rest := [(.ref b2)]) (lenOf pd116 rfl) rfl (by show 2 * 0 + _ ≤ _; exact Nat.le_of_eq rfl) (hb hby d8_36) (fun _ _ => ⟨rfl, e2, (by decide : 1 + 0 ≤ _), (by decide : 1 + 0 ≤ _)⟩)
    dsimp only [Pt.U, Pt.locs, Pt.cells, Pt.slots] at X3 l3 y3 z3 st3 hQ3
    subst l3 y3 z3
    obtain ⟨rfl, N3q, Kc3, fc3_0⟩ := hQ3
    have N3 := Fr.app N0 N3q
    refine Gl.by (g' := (mkF m 39 #[.val (.long q0), .second, .val (.int (128 : Int32))] [(.ref b2)])) (fun _ k => st3.trans k) ?_
    have K5 := (((Keep.refl h0 []).ext E2).trans Kc3 (allS (Or.inr sb2) all0))
    exact Gl.outA X3 hx hk Bd.returns rfl rfl (hb hby d8_39) ⟨b2, rfl, N3, K5, fc3_0⟩ (by decide) (by decide)
  · refine Gl.by (g' := (mkF m 12 #[.val (.long q0), .second, .val (.int (128 : Int32))] [])) (fun _ k => XS.ifNo X0.here hx rfl (hb hby d8_9) rfl ((if0 _ _).trans (flt (fun q => hc1 ((lw_lt q0 (-128 : Int64)).mp q))).1) k) ?_
    refine Gl.by (g' := (mkF m 13 #[.val (.long q0), .second, .val (.int (128 : Int32))] [(.long q0)])) (fun _ k => XS.lloadN X0.here hx rfl (hb hby d8_12) rfl k) ?_
    refine Gl.by (g' := (mkF m 16 #[.val (.long q0), .second, .val (.int (128 : Int32))] [(.long (127 : Int64)), (.long q0)])) (X0.ldc2Long hx hown (mvT hZ (hw _ (List.mem_of_getElem? (i := 48) rfl))) (g := (mkF m 13 #[.val (.long q0), .second, .val (.int (128 : Int32))] [(.long q0)])) rfl (hb hby d8_13)) ?_
    refine Gl.by (g' := (mkF m 17 #[.val (.long q0), .second, .val (.int (128 : Int32))] [(.int (lcmpW q0 (127 : Int64)))])) (fun _ k => XS.lcmp X0.here hx rfl (hb hby d8_16) rfl k) ?_
    by_cases hc6 : (127 : Int64) < q0
    · refine Gl.by (g' := (mkF m 31 #[.val (.long q0), .second, .val (.int (128 : Int32))] [])) (fun _ k => XS.ifYes X0.here hx rfl (pc0 := 17) (pc' := 31) rfl (hb hby d8_17) rfl ((if0 _ _).trans (tlt ((lw_gt q0 (127 : Int64)).mpr hc6)).2.2.1) (by decide) (by decide) k) ?_
      obtain ⟨T7, h7, X7, e7, E7, A7, D7, -, st7⟩ := newO X0 hx hZ hown (hw _ (List.mem_of_getElem? (i := 49) rfl)) (hw _ (List.mem_of_getElem? (i := 50) rfl)) (hw _ (List.mem_of_getElem? (i := 45) rfl)) e0 (g := (mkF m 31 #[.val (.long q0), .second, .val (.int (128 : Int32))] [])) rfl (hb hby d8_31) (by decide) (by decide)
      obtain ⟨b7, g7⟩ : ∃ z, z = (h0).size := ⟨_, rfl⟩
      rw [← g7] at A7 D7 st7
      have gb7 : n0 ≤ b7 := Nat.le_trans (Nat.le_trans (Nat.le_of_eq O.1.symm) O.2.1) (Nat.le_of_eq g7.symm)
      have sb7 : h0.size ≤ b7 := Nat.le_trans (Keep.refl h0 []).1 (Nat.le_of_eq g7.symm)
      have D7_value : Fld Z h7 b7 "java/lang/Long" "value" "J" (.long (0 : Int64)) := D7 (Or.inr (hw _ (List.mem_of_getElem? (i := 63) rfl))) (ty := .long) (by decide)
      refine Gl.by (g' := (mkF m 34 #[.val (.long q0), .second, .val (.int (128 : Int32))] [(.ref b7)])) st7 ?_
      refine Gl.by (g' := (mkF m 35 #[.val (.long q0), .second, .val (.int (128 : Int32))] [(.ref b7), (.ref b7)])) (fun _ k => XS.dup X7.here hx rfl (hb hby d8_34) rfl rfl k) ?_
      refine Gl.by (g' := (mkF m 36 #[.val (.long q0), .second, .val (.int (128 : Int32))] [(.long q0), (.ref b7), (.ref b7)])) (fun _ k => XS.lloadN X7.here hx rfl (hb hby d8_35) rfl k) ?_
      have O9 := (O.ext E7)
      obtain ⟨_, _, ⟨T8, L8, k8, n8⟩, -, X8, ⟨Lc8, hQ8, l8, y8, z8⟩, st8⟩ := X7.specialBack hx (y := (⟨"java/lang/Long", "<init>", "(J)V"⟩ : MethodName)) rfl hown (mvT hZ (hw _ (List.mem_of_getElem? (i := 51) rfl))) (mvT hZ (hw _ (List.mem_of_getElem? (i := 52) rfl))) (mvT hZ (hw _ (List.mem_of_getElem? (i := 54) rfl))) (by decide) (backOf (W := 1) (rm9 l Z a0' hw [] b7 q0 w_icache w_lcache h7 n0 O9 W A7 D7_value gb7) hZ (hw _ (List.mem_of_getElem? (i := 54) rfl)) (hw _ (List.mem_of_getElem? (i := 45) rfl)) (by decide) (by decide)) (g := (mkF m 36 #[.val (.long q0), .second, .val (.int (128 : Int32))] [(.long q0), (.ref b7), (.ref b7)])) rfl (by rw [hml]; rfl) (Steps.refl _) (a := b7) (argsL := [(.long q0)]) (rest := [(.ref b7)]) (lenOf pd116 rfl) rfl (by show 2 * 0 + _ ≤ _; exact Nat.le_of_eq rfl) (hb hby d8_36) (fun _ _ => ⟨rfl, e7, (by decide : 1 + 0 ≤ _), (by decide : 1 + 0 ≤ _)⟩)
      dsimp only [Pt.U, Pt.locs, Pt.cells, Pt.slots] at X8 l8 y8 z8 st8 hQ8
      subst l8 y8 z8
      obtain ⟨rfl, N8q, Kc8, fc8_0⟩ := hQ8
      have N8 := Fr.app N0 N8q
      refine Gl.by (g' := (mkF m 39 #[.val (.long q0), .second, .val (.int (128 : Int32))] [(.ref b7)])) (fun _ k => st8.trans k) ?_
      have K10 := (((Keep.refl h0 []).ext E7).trans Kc8 (allS (Or.inr sb7) all0))
      exact Gl.outA X8 hx hk Bd.returns rfl rfl (hb hby d8_39) ⟨b7, rfl, N8, K10, fc8_0⟩ (by decide) (by decide)
    · refine Gl.by (g' := (mkF m 20 #[.val (.long q0), .second, .val (.int (128 : Int32))] [])) (fun _ k => XS.ifNo X0.here hx rfl (hb hby d8_17) rfl ((if0 _ _).trans (flt (fun q => hc6 ((lw_gt q0 (127 : Int64)).mp q))).2.2.1) k) ?_
      obtain ⟨T11, X11, e11, st11⟩ := getS2 X0 hx hZ hown (host := "") (Or.inl (hw _ (List.mem_of_getElem? (i := 75) rfl))) Via.refl e0 (Sta.ext O.2 W.2.2.1) (g := (mkF m 20 #[.val (.long q0), .second, .val (.int (128 : Int32))] [])) rfl (hb hby d8_20)
      refine Gl.by (g' := (mkF m 23 #[.val (.long q0), .second, .val (.int (128 : Int32))] [(.ref w_lcache)])) st11 ?_
      refine Gl.by (g' := (mkF m 24 #[.val (.long q0), .second, .val (.int (128 : Int32))] [(.long q0), (.ref w_lcache)])) (fun _ k => XS.lloadN X11.here hx rfl (hb hby d8_23) rfl k) ?_
      refine Gl.by (g' := (mkF m 25 #[.val (.long q0), .second, .val (.int (128 : Int32))] [(.int (q0.toInt32)), (.ref w_lcache)])) (fun _ k => XS.l2i X11.here hx rfl (hb hby d8_24) rfl k) ?_
      refine Gl.by (g' := (mkF m 28 #[.val (.long q0), .second, .val (.int (128 : Int32))] [(.int (128 : Int32)), (.int (q0.toInt32)), (.ref w_lcache)])) (fun _ k => XS.sipush X11.here hx rfl (hb hby d8_25) k) ?_
      refine Gl.by (g' := (mkF m 29 #[.val (.long q0), .second, .val (.int (128 : Int32))] [(.int ((q0.toInt32) + (128 : Int32))), (.ref w_lcache)])) (fun _ k => XS.iadd X11.here hx rfl (hb hby d8_28) rfl k) ?_
      obtain ⟨clc12, Arc12, Szc12, Elc12⟩ := W.2.2.2
      have hj12 : ¬ ((q0.toInt32) + (128 : Int32)) < 0 ∧ ((q0.toInt32) + (128 : Int32)) < 256 := (cidxL _ hc1 hc6)
      obtain ⟨xc12, hxc12, Exc12⟩ := Elc12 ((q0.toInt32) + (128 : Int32)) hj12.1 hj12.2
      refine Gl.by (g' := (mkF m 30 #[.val (.long q0), .second, .val (.int (128 : Int32))] [(.ref xc12)])) (X11.aaload hx (j := ((q0.toInt32) + (128 : Int32))) (v := (.ref xc12)) (by rw [e11]; exact O.2.2 _ _ Arc12.1) (State.isArrayOf_alike hZ.alike Arc12.2.1) rfl Arc12.2.2 (inb_of (z := 256) (by rw [Szc12]; rfl) hj12) hxc12 (g := (mkF m 29 #[.val (.long q0), .second, .val (.int (128 : Int32))] [(.int ((q0.toInt32) + (128 : Int32))), (.ref w_lcache)])) rfl rfl (hb hby d8_29)) ?_
      exact Gl.outA X11 hx hk Bd.returns rfl rfl (hb hby d8_30) (Eq.mpr (congrArg (fun hh => Q8 Z q0 w_icache w_lcache h0 n0 _ hh _) e11) (show Q8 Z q0 w_icache w_lcache h0 n0 _ h0 _ from ⟨xc12, rfl, N0, (Keep.refl h0 []), (Exa.ext O.2 Exc12)⟩)) (by decide) (by decide)
theorem fn1_ge (x : Int32) (w_icache w_lcache : Addr) : ¬ fn1 (1 : Int32) x w_icache w_lcache < (1 : Int32) := by
  unfold fn1; split <;> simp_all [Int32.lt_irrefl] <;> exact Int32.le_of_lt ‹_›
theorem fn2_ge (x : Int64) (w_icache w_lcache : Addr) : ¬ fn2 (1 : Int64) x w_icache w_lcache < (1 : Int64) := by
  unfold fn2; split <;> simp_all [Int64.lt_irrefl] <;> exact Int64.le_of_lt ‹_›
theorem pn5 : plainName "com/example/libelect/libelect/LeadershipEqualsPinLaw" = true := by first | (simp [plainName, overriddenIn]; done) | decide +kernel
theorem pd117 : parseMethodDescriptor "(II)I" = some ⟨[.int, .int], some .int⟩ := by decide +kernel
theorem pd118 : parseMethodDescriptor "(JJ)J" = some ⟨[.long, .long], some .long⟩ := by decide +kernel
theorem pd119 : parseMethodDescriptor "(IJ)V" = some ⟨[.int, .long], none⟩ := by decide +kernel
theorem pd120 : parseMethodDescriptor "(I)Ljava/lang/Integer;" = some ⟨[.int], some (.object "java/lang/Integer")⟩ := by decide +kernel
theorem pd121 : parseMethodDescriptor "(J)Ljava/lang/Long;" = some ⟨[.long], some (.object "java/lang/Long")⟩ := by decide +kernel
theorem pd122 : parseMethodDescriptor "(Ljava/lang/Object;)Z" = some ⟨[(.object "java/lang/Object")], some .boolean⟩ := by decide +kernel
theorem ef0 (m : MethodId) (x0 : Int32) (x1 : Int64) (x2 : Int32) (x3 : Int64) (x4 : Int32) : entryFrame m #[(.int x0), (.long x1), (.int x2), (.long x3), (.int x4)] maxLocals = mkF m 0 #[.val (.int x0), .val (.long x1), .second, .val (.int x2), .val (.long x3), .second, .val (.int x4), .unset, .unset, .unset, .unset, .unset, .unset, .unset, .unset, .unset, .unset, .unset, .unset, .unset, .unset] [] := by first | (simp [entryFrame, mkF, argsToLocals, Value.category, maxLocals]; done) | rfl
def fj0_0 (p0 : Int32) (q1 : Int64) (p2 : Int32) (q3 : Int64) (p4 : Int32) (w_icache w_lcache : Addr) : Int32 := if (p4 &&& (1 : Int32)) = (0 : Int32) then (fn1 (1 : Int32) (p2 &&& (2147483647 : Int32)) w_icache w_lcache) else (fn1 (1 : Int32) (p0 &&& (2147483647 : Int32)) w_icache w_lcache)
def fj0_1 (p0 : Int32) (q1 : Int64) (p2 : Int32) (q3 : Int64) (p4 : Int32) (w_icache w_lcache : Addr) : Int64 := if (p4 &&& (2 : Int32)) = (0 : Int32) then (fn2 (1 : Int64) (q3 &&& (9223372036854775807 : Int64)) w_icache w_lcache) else (fn2 (1 : Int64) (q1 &&& (9223372036854775807 : Int64)) w_icache w_lcache)
def fj0_2 (p0 : Int32) (q1 : Int64) (p2 : Int32) (q3 : Int64) (p4 : Int32) (w_icache w_lcache : Addr) : Int32 := if (fn1 (1 : Int32) (p0 &&& (2147483647 : Int32)) w_icache w_lcache) = (fj0_0 p0 q1 p2 q3 p4 w_icache w_lcache) then if (fn2 (1 : Int64) (q1 &&& (9223372036854775807 : Int64)) w_icache w_lcache) = (fj0_1 p0 q1 p2 q3 p4 w_icache w_lcache) then (1 : Int32) else (0 : Int32) else (0 : Int32)
def fj0_3 (p0 : Int32) (q1 : Int64) (p2 : Int32) (q3 : Int64) (p4 : Int32) (w_icache w_lcache : Addr) : Int32 := if (fn6m (fj0_0 p0 q1 p2 q3 p4 w_icache w_lcache) (fj0_1 p0 q1 p2 q3 p4 w_icache w_lcache) (fn1 (1 : Int32) (p0 &&& (2147483647 : Int32)) w_icache w_lcache) (fn2 (1 : Int64) (q1 &&& (9223372036854775807 : Int64)) w_icache w_lcache) w_icache w_lcache) = (fn6m (fn1 (1 : Int32) (p0 &&& (2147483647 : Int32)) w_icache w_lcache) (fn2 (1 : Int64) (q1 &&& (9223372036854775807 : Int64)) w_icache w_lcache) (fj0_0 p0 q1 p2 q3 p4 w_icache w_lcache) (fj0_1 p0 q1 p2 q3 p4 w_icache w_lcache) w_icache w_lcache) then (1 : Int32) else (0 : Int32)
def fj0_4 (p0 : Int32) (q1 : Int64) (p2 : Int32) (q3 : Int64) (p4 : Int32) (w_icache w_lcache : Addr) : Int32 := if (fn6m (fn1 (1 : Int32) (p0 &&& (2147483647 : Int32)) w_icache w_lcache) (fn2 (1 : Int64) (q1 &&& (9223372036854775807 : Int64)) w_icache w_lcache) (fj0_0 p0 q1 p2 q3 p4 w_icache w_lcache) (fj0_1 p0 q1 p2 q3 p4 w_icache w_lcache) w_icache w_lcache) = (fj0_2 p0 q1 p2 q3 p4 w_icache w_lcache) then if (fn6m (fn1 (1 : Int32) (p0 &&& (2147483647 : Int32)) w_icache w_lcache) (fn2 (1 : Int64) (q1 &&& (9223372036854775807 : Int64)) w_icache w_lcache) (fn1 (1 : Int32) (p0 &&& (2147483647 : Int32)) w_icache w_lcache) (fn2 (1 : Int64) (q1 &&& (9223372036854775807 : Int64)) w_icache w_lcache) w_icache w_lcache) = (0 : Int32) then (0 : Int32) else if (fj0_3 p0 q1 p2 q3 p4 w_icache w_lcache) = (0 : Int32) then (0 : Int32) else (1 : Int32) else (0 : Int32)
def fj0_5 (p0 : Int32) (q1 : Int64) (p2 : Int32) (q3 : Int64) (p4 : Int32) (w_icache w_lcache : Addr) : Int32 := if (fn6n  w_icache w_lcache) = (0 : Int32) then if (fn6m (fn1 (1 : Int32) (p0 &&& (2147483647 : Int32)) w_icache w_lcache) (fn2 (1 : Int64) (q1 &&& (9223372036854775807 : Int64)) w_icache w_lcache) (fn1 (1 : Int32) (p0 &&& (2147483647 : Int32)) w_icache w_lcache) (fn2 (1 : Int64) (q1 &&& (9223372036854775807 : Int64)) w_icache w_lcache) w_icache w_lcache) = (0 : Int32) then (0 : Int32) else (1 : Int32) else (0 : Int32)
def fj0_6 (p0 : Int32) (q1 : Int64) (p2 : Int32) (q3 : Int64) (p4 : Int32) (w_icache w_lcache : Addr) : Int32 := if (fn6i  w_icache w_lcache) = (0 : Int32) then if (fn6m (fn1 (1 : Int32) (p0 &&& (2147483647 : Int32)) w_icache w_lcache) (fn2 (1 : Int64) (q1 &&& (9223372036854775807 : Int64)) w_icache w_lcache) (fn1 (1 : Int32) (p0 &&& (2147483647 : Int32)) w_icache w_lcache) (fn2 (1 : Int64) (q1 &&& (9223372036854775807 : Int64)) w_icache w_lcache) w_icache w_lcache) = (0 : Int32) then (0 : Int32) else (1 : Int32) else (0 : Int32)
def fj0_7 (p0 : Int32) (q1 : Int64) (p2 : Int32) (q3 : Int64) (p4 : Int32) (w_icache w_lcache : Addr) : Int32 := if (fn6l  w_icache w_lcache) = (0 : Int32) then if (fn6m (fn1 (1 : Int32) (p0 &&& (2147483647 : Int32)) w_icache w_lcache) (fn2 (1 : Int64) (q1 &&& (9223372036854775807 : Int64)) w_icache w_lcache) (fn1 (1 : Int32) (p0 &&& (2147483647 : Int32)) w_icache w_lcache) (fn2 (1 : Int64) (q1 &&& (9223372036854775807 : Int64)) w_icache w_lcache) w_icache w_lcache) = (0 : Int32) then (0 : Int32) else (1 : Int32) else (0 : Int32)
def fn0 (p0 : Int32) (q1 : Int64) (p2 : Int32) (q3 : Int64) (p4 : Int32) (w_icache w_lcache : Addr) : Int32 := if (((p4.toUInt32 >>> ((2 : Int32) &&& 31).toUInt32).toInt32) &&& (3 : Int32)) = (0 : Int32) then (nar .boolean (fj0_4 p0 q1 p2 q3 p4 w_icache w_lcache)) else if (((p4.toUInt32 >>> ((2 : Int32) &&& 31).toUInt32).toInt32) &&& (3 : Int32)) = (1 : Int32) then (nar .boolean (fj0_5 p0 q1 p2 q3 p4 w_icache w_lcache)) else if (((p4.toUInt32 >>> ((2 : Int32) &&& 31).toUInt32).toInt32) &&& (3 : Int32)) = (2 : Int32) then (nar .boolean (fj0_6 p0 q1 p2 q3 p4 w_icache w_lcache)) else (nar .boolean (fj0_7 p0 q1 p2 q3 p4 w_icache w_lcache))
def Q0 (Z : State) (p0 : Int32) (q1 : Int64) (p2 : Int32) (q3 : Int64) (p4 : Int32) (w_icache w_lcache : Addr) (h0 : Heap) (n0 : Nat) (v : Option Value) (h : Heap) (L : List Loc) : Prop := v = some (.int (fn0 p0 q1 p2 q3 p4 w_icache w_lcache)) ∧ Fr n0 L
set_option maxRecDepth 65536 in
set_option maxHeartbeats 40000000 in
theorem rm0 (l : Launch) (Z : State) (a0' : Array Value) (hw : ∀ d ∈ tables_1, d.before a0' Z = true) (ws : List Jvm.Cond) (p0 : Int32) (q1 : Int64) (p2 : Int32) (q3 : Int64) (p4 : Int32) (w_icache w_lcache : Addr) (h0 : Heap) (n0 : Nat) (O : Old Z n0 h0) (W : Wd Z w_icache w_lcache) :
    MetFree l x (head1 (Jvm.Cond.code x code maxLocals ret :: ws) room_1) (fun a U => a = #[(.int p0), (.long q1), (.int p2), (.long q3), (.int p4)] ∧ Z.Warmed39 U.vm ∧ U.heap = h0) (fun _ _ _ _ _ => True) (fun _ U o U' => ∃ v L, o = .returned v ∧ Q0 Z p0 q1 p2 q3 p4 w_icache w_lcache h0 n0 v U'.heap L ∧ FrameEnd U o U' L 16 128) := by
  refine MetFree.of_bodySF (plainFor_of_name pn5) hisR ?_
  intro p e s m args below meth c s₁ Bd hml0 hP hK
  obtain ⟨rfl, hZ, hh⟩ := hP
  have hx := Bd.exec
  have hby := Bd.bytes
  have hml : c.maxLocals = 21 := hml0
  have hown : s.vm.findClass "com/example/libelect/libelect/LeadershipEqualsPinLaw" = some m.cls := findClass_of_methodNamed Bd.named
  have hnm := (name_of_methodNamed Bd.named Bd.method).1
  have hk := Bd.notSynchronized
  have X0 : Stand p l e room_1 s m #[(.int p0), (.long q1), (.int p2), (.long q3), (.int p4)] below meth c s₁ [] 0 0 := Stand.of_body Bd
  have hh2 := hh
  have e0 : s₁.heap = h0 := by rw [← hh, Bd.state]; rfl
  have N0 := Fr.nil n0
  show Gl p e below (Pos 16 128 (Q0 Z p0 q1 p2 q3 p4 w_icache w_lcache h0 n0) s) s₁ _
  refine Gl.cast (ef0 m p0 q1 p2 q3 p4) ?_
  refine Gl.by (g' := (mkF m 1 #[.val (.int p0), .val (.long q1), .second, .val (.int p2), .val (.long q3), .second, .val (.int p4), .unset, .unset, .unset, .unset, .unset, .unset, .unset, .unset, .unset, .unset, .unset, .unset, .unset, .unset] [(.int (1 : Int32))])) (fun _ k => XS.iconst X0.here hx rfl (hb hby at_0) k) ?_
  refine Gl.by (g' := (mkF m 2 #[.val (.int p0), .val (.long q1), .second, .val (.int p2), .val (.long q3), .second, .val (.int p4), .unset, .unset, .unset, .unset, .unset, .unset, .unset, .unset, .unset, .unset, .unset, .unset, .unset, .unset] [(.int p0), (.int (1 : Int32))])) (fun _ k => XS.iloadN X0.here hx rfl (hb hby at_1) rfl k) ?_
  refine Gl.by (g' := (mkF m 4 #[.val (.int p0), .val (.long q1), .second, .val (.int p2), .val (.long q3), .second, .val (.int p4), .unset, .unset, .unset, .unset, .unset, .unset, .unset, .unset, .unset, .unset, .unset, .unset, .unset, .unset] [(.int (2147483647 : Int32)), (.int p0), (.int (1 : Int32))])) (X0.ldcInt hx hown (mvT hZ (hw _ (List.mem_of_getElem? (i := 0) rfl))) (g := (mkF m 2 #[.val (.int p0), .val (.long q1), .second, .val (.int p2), .val (.long q3), .second, .val (.int p4), .unset, .unset, .unset, .unset, .unset, .unset, .unset, .unset, .unset, .unset, .unset, .unset, .unset, .unset] [(.int p0), (.int (1 : Int32))])) rfl (hb hby at_2)) ?_
  refine Gl.by (g' := (mkF m 5 #[.val (.int p0), .val (.long q1), .second, .val (.int p2), .val (.long q3), .second, .val (.int p4), .unset, .unset, .unset, .unset, .unset, .unset, .unset, .unset, .unset, .unset, .unset, .unset, .unset, .unset] [(.int (p0 &&& (2147483647 : Int32))), (.int (1 : Int32))])) (fun _ k => XS.iand X0.here hx rfl (hb hby at_4) rfl k) ?_
  obtain ⟨_, _, ⟨T1, L1, k1, n1⟩, -, X1, ⟨Lc1, hQ1, l1, y1, z1⟩, st1⟩ := Jvm.LawKit.callS X0 hx (y := (⟨"java/lang/Math", "max", "(II)I"⟩ : MethodName)) hown (mvT hZ (hw _ (List.mem_of_getElem? (i := 1) rfl))) (mvT hZ (hw _ (List.mem_of_getElem? (i := 2) rfl))) (mvT hZ (hw _ (List.mem_of_getElem? (i := 3) rfl))) (mvT hZ (hw _ (List.mem_of_getElem? (i := 4) rfl))) (by decide) (backOf (W := 0) (rm1 l Z a0' hw [] (1 : Int32) (p0 &&& (2147483647 : Int32)) w_icache w_lcache h0 n0 O W ) hZ (hw _ (List.mem_of_getElem? (i := 4) rfl)) (hw _ (List.mem_of_getElem? (i := 3) rfl)) (by decide) (by decide)) (g := (mkF m 5 #[.val (.int p0), .val (.long q1), .second, .val (.int p2), .val (.long q3), .second, .val (.int p4), .unset, .unset, .unset, .unset, .unset, .unset, .unset, .unset, .unset, .unset, .unset, .unset, .unset, .unset] [(.int (p0 &&& (2147483647 : Int32))), (.int (1 : Int32))])) rfl (by rw [hml]; rfl) (argsL := [(.int (1 : Int32)), (.int (p0 &&& (2147483647 : Int32)))]) (rest := []) (lenOf pd117 rfl) rfl (by show 2 * 0 + _ ≤ _; exact Nat.le_of_eq rfl) (hb hby at_5) (fun _ _ => ⟨rfl, e0, (by decide : 0 + 0 ≤ _), (by decide : 0 + 0 ≤ _)⟩)
  dsimp only [Pt.U, Pt.locs, Pt.cells, Pt.slots] at X1 l1 y1 z1 st1 hQ1
  subst l1 y1 z1
  obtain ⟨rfl, N1q, e1⟩ := hQ1
  have N1 := Fr.app N0 N1q
  refine Gl.by (g' := (mkF m 8 #[.val (.int p0), .val (.long q1), .second, .val (.int p2), .val (.long q3), .second, .val (.int p4), .unset, .unset, .unset, .unset, .unset, .unset, .unset, .unset, .unset, .unset, .unset, .unset, .unset, .unset] [(.int (fn1 (1 : Int32) (p0 &&& (2147483647 : Int32)) w_icache w_lcache))])) st1 ?_
  refine Gl.by (g' := (mkF m 10 #[.val (.int p0), .val (.long q1), .second, .val (.int p2), .val (.long q3), .second, .val (.int p4), .val (.int (fn1 (1 : Int32) (p0 &&& (2147483647 : Int32)) w_icache w_lcache)), .unset, .unset, .unset, .unset, .unset, .unset, .unset, .unset, .unset, .unset, .unset, .unset, .unset] [])) (fun _ k => XS.istore X1.here hx rfl (hb hby at_8) rfl (l' := #[.val (.int p0), .val (.long q1), .second, .val (.int p2), .val (.long q3), .second, .val (.int p4), .val (.int (fn1 (1 : Int32) (p0 &&& (2147483647 : Int32)) w_icache w_lcache)), .unset, .unset, .unset, .unset, .unset, .unset, .unset, .unset, .unset, .unset, .unset, .unset, .unset]) rfl k) ?_
  refine Gl.by (g' := (mkF m 11 #[.val (.int p0), .val (.long q1), .second, .val (.int p2), .val (.long q3), .second, .val (.int p4), .val (.int (fn1 (1 : Int32) (p0 &&& (2147483647 : Int32)) w_icache w_lcache)), .unset, .unset, .unset, .unset, .unset, .unset, .unset, .unset, .unset, .unset, .unset, .unset, .unset] [(.long (1 : Int64))])) (fun _ k => XS.lconst X1.here hx rfl (hb hby at_10) k) ?_
  refine Gl.by (g' := (mkF m 12 #[.val (.int p0), .val (.long q1), .second, .val (.int p2), .val (.long q3), .second, .val (.int p4), .val (.int (fn1 (1 : Int32) (p0 &&& (2147483647 : Int32)) w_icache w_lcache)), .unset, .unset, .unset, .unset, .unset, .unset, .unset, .unset, .unset, .unset, .unset, .unset, .unset] [(.long q1), (.long (1 : Int64))])) (fun _ k => XS.lloadN X1.here hx rfl (hb hby at_11) rfl k) ?_
  refine Gl.by (g' := (mkF m 15 #[.val (.int p0), .val (.long q1), .second, .val (.int p2), .val (.long q3), .second, .val (.int p4), .val (.int (fn1 (1 : Int32) (p0 &&& (2147483647 : Int32)) w_icache w_lcache)), .unset, .unset, .unset, .unset, .unset, .unset, .unset, .unset, .unset, .unset, .unset, .unset, .unset] [(.long (9223372036854775807 : Int64)), (.long q1), (.long (1 : Int64))])) (X1.ldc2Long hx hown (mvT hZ (hw _ (List.mem_of_getElem? (i := 5) rfl))) (g := (mkF m 12 #[.val (.int p0), .val (.long q1), .second, .val (.int p2), .val (.long q3), .second, .val (.int p4), .val (.int (fn1 (1 : Int32) (p0 &&& (2147483647 : Int32)) w_icache w_lcache)), .unset, .unset, .unset, .unset, .unset, .unset, .unset, .unset, .unset, .unset, .unset, .unset, .unset] [(.long q1), (.long (1 : Int64))])) rfl (hb hby at_12)) ?_
  refine Gl.by (g' := (mkF m 16 #[.val (.int p0), .val (.long q1), .second, .val (.int p2), .val (.long q3), .second, .val (.int p4), .val (.int (fn1 (1 : Int32) (p0 &&& (2147483647 : Int32)) w_icache w_lcache)), .unset, .unset, .unset, .unset, .unset, .unset, .unset, .unset, .unset, .unset, .unset, .unset, .unset] [(.long (q1 &&& (9223372036854775807 : Int64))), (.long (1 : Int64))])) (fun _ k => XS.land X1.here hx rfl (hb hby at_15) rfl k) ?_
  obtain ⟨_, _, ⟨T2, L2, k2, n2⟩, -, X2, ⟨Lc2, hQ2, l2, y2, z2⟩, st2⟩ := Jvm.LawKit.callS X1 hx (y := (⟨"java/lang/Math", "max", "(JJ)J"⟩ : MethodName)) hown (mvT hZ (hw _ (List.mem_of_getElem? (i := 6) rfl))) (mvT hZ (hw _ (List.mem_of_getElem? (i := 7) rfl))) (mvT hZ (hw _ (List.mem_of_getElem? (i := 3) rfl))) (mvT hZ (hw _ (List.mem_of_getElem? (i := 8) rfl))) (by decide) (backOf (W := 0) (rm2 l Z a0' hw [] (1 : Int64) (q1 &&& (9223372036854775807 : Int64)) w_icache w_lcache h0 n0 O W ) hZ (hw _ (List.mem_of_getElem? (i := 8) rfl)) (hw _ (List.mem_of_getElem? (i := 3) rfl)) (by decide) (by decide)) (g := (mkF m 16 #[.val (.int p0), .val (.long q1), .second, .val (.int p2), .val (.long q3), .second, .val (.int p4), .val (.int (fn1 (1 : Int32) (p0 &&& (2147483647 : Int32)) w_icache w_lcache)), .unset, .unset, .unset, .unset, .unset, .unset, .unset, .unset, .unset, .unset, .unset, .unset, .unset] [(.long (q1 &&& (9223372036854775807 : Int64))), (.long (1 : Int64))])) rfl (by rw [hml]; rfl) (argsL := [(.long (1 : Int64)), (.long (q1 &&& (9223372036854775807 : Int64)))]) (rest := []) (lenOf pd118 rfl) rfl (by show 2 * 0 + _ ≤ _; exact Nat.le_of_eq rfl) (hb hby at_16) (fun _ _ => ⟨rfl, e1, (by decide : 0 + 0 ≤ _), (by decide : 0 + 0 ≤ _)⟩)
  dsimp only [Pt.U, Pt.locs, Pt.cells, Pt.slots] at X2 l2 y2 z2 st2 hQ2
  subst l2 y2 z2
  obtain ⟨rfl, N2q, e2⟩ := hQ2
  have N2 := Fr.app N1 N2q
  refine Gl.by (g' := (mkF m 19 #[.val (.int p0), .val (.long q1), .second, .val (.int p2), .val (.long q3), .second, .val (.int p4), .val (.int (fn1 (1 : Int32) (p0 &&& (2147483647 : Int32)) w_icache w_lcache)), .unset, .unset, .unset, .unset, .unset, .unset, .unset, .unset, .unset, .unset, .unset, .unset, .unset] [(.long (fn2 (1 : Int64) (q1 &&& (9223372036854775807 : Int64)) w_icache w_lcache))])) st2 ?_
  refine Gl.by (g' := (mkF m 21 #[.val (.int p0), .val (.long q1), .second, .val (.int p2), .val (.long q3), .second, .val (.int p4), .val (.int (fn1 (1 : Int32) (p0 &&& (2147483647 : Int32)) w_icache w_lcache)), .val (.long (fn2 (1 : Int64) (q1 &&& (9223372036854775807 : Int64)) w_icache w_lcache)), .second, .unset, .unset, .unset, .unset, .unset, .unset, .unset, .unset, .unset, .unset, .unset] [])) (fun _ k => XS.lstore X2.here hx rfl (hb hby at_19) rfl (l' := #[.val (.int p0), .val (.long q1), .second, .val (.int p2), .val (.long q3), .second, .val (.int p4), .val (.int (fn1 (1 : Int32) (p0 &&& (2147483647 : Int32)) w_icache w_lcache)), .val (.long (fn2 (1 : Int64) (q1 &&& (9223372036854775807 : Int64)) w_icache w_lcache)), .second, .unset, .unset, .unset, .unset, .unset, .unset, .unset, .unset, .unset, .unset, .unset]) rfl k) ?_
  refine Gl.by (g' := (mkF m 23 #[.val (.int p0), .val (.long q1), .second, .val (.int p2), .val (.long q3), .second, .val (.int p4), .val (.int (fn1 (1 : Int32) (p0 &&& (2147483647 : Int32)) w_icache w_lcache)), .val (.long (fn2 (1 : Int64) (q1 &&& (9223372036854775807 : Int64)) w_icache w_lcache)), .second, .unset, .unset, .unset, .unset, .unset, .unset, .unset, .unset, .unset, .unset, .unset] [(.int p4)])) (fun _ k => XS.iload X2.here hx rfl (hb hby at_21) rfl k) ?_
  refine Gl.by (g' := (mkF m 24 #[.val (.int p0), .val (.long q1), .second, .val (.int p2), .val (.long q3), .second, .val (.int p4), .val (.int (fn1 (1 : Int32) (p0 &&& (2147483647 : Int32)) w_icache w_lcache)), .val (.long (fn2 (1 : Int64) (q1 &&& (9223372036854775807 : Int64)) w_icache w_lcache)), .second, .unset, .unset, .unset, .unset, .unset, .unset, .unset, .unset, .unset, .unset, .unset] [(.int (1 : Int32)), (.int p4)])) (fun _ k => XS.iconst X2.here hx rfl (hb hby at_23) k) ?_
  refine Gl.by (g' := (mkF m 25 #[.val (.int p0), .val (.long q1), .second, .val (.int p2), .val (.long q3), .second, .val (.int p4), .val (.int (fn1 (1 : Int32) (p0 &&& (2147483647 : Int32)) w_icache w_lcache)), .val (.long (fn2 (1 : Int64) (q1 &&& (9223372036854775807 : Int64)) w_icache w_lcache)), .second, .unset, .unset, .unset, .unset, .unset, .unset, .unset, .unset, .unset, .unset, .unset] [(.int (p4 &&& (1 : Int32)))])) (fun _ k => XS.iand X2.here hx rfl (hb hby at_24) rfl k) ?_
  have J3 : ∀ (T' : State) (lc : List Loc) (X' : Stand p l e room_1 s m #[(.int p0), (.long q1), (.int p2), (.long q3), (.int p4)] below meth c T' lc 0 0) (eT : T'.heap = h0) (N' : Fr n0 lc) (zj3_0 : Int32) (hz3_0 : zj3_0 = (fj0_0 p0 q1 p2 q3 p4 w_icache w_lcache)), Gl p e below (Pos 16 128 (Q0 Z p0 q1 p2 q3 p4 w_icache w_lcache h0 n0) s) T' (mkF m 41 #[.val (.int p0), .val (.long q1), .second, .val (.int p2), .val (.long q3), .second, .val (.int p4), .val (.int (fn1 (1 : Int32) (p0 &&& (2147483647 : Int32)) w_icache w_lcache)), .val (.long (fn2 (1 : Int64) (q1 &&& (9223372036854775807 : Int64)) w_icache w_lcache)), .second, .unset, .unset, .unset, .unset, .unset, .unset, .unset, .unset, .unset, .unset, .unset] [(.int zj3_0)]) := by
    intro T' lc X' eT N' zj3_0 hz3_0
    subst hz3_0
    refine Gl.by (g' := (mkF m 43 #[.val (.int p0), .val (.long q1), .second, .val (.int p2), .val (.long q3), .second, .val (.int p4), .val (.int (fn1 (1 : Int32) (p0 &&& (2147483647 : Int32)) w_icache w_lcache)), .val (.long (fn2 (1 : Int64) (q1 &&& (9223372036854775807 : Int64)) w_icache w_lcache)), .second, .val (.int (fj0_0 p0 q1 p2 q3 p4 w_icache w_lcache)), .unset, .unset, .unset, .unset, .unset, .unset, .unset, .unset, .unset, .unset] [])) (fun _ k => XS.istore X'.here hx rfl (hb hby at_41) rfl (l' := #[.val (.int p0), .val (.long q1), .second, .val (.int p2), .val (.long q3), .second, .val (.int p4), .val (.int (fn1 (1 : Int32) (p0 &&& (2147483647 : Int32)) w_icache w_lcache)), .val (.long (fn2 (1 : Int64) (q1 &&& (9223372036854775807 : Int64)) w_icache w_lcache)), .second, .val (.int (fj0_0 p0 q1 p2 q3 p4 w_icache w_lcache)), .unset, .unset, .unset, .unset, .unset, .unset, .unset, .unset, .unset, .unset]) rfl k) ?_
    refine Gl.by (g' := (mkF m 45 #[.val (.int p0), .val (.long q1), .second, .val (.int p2), .val (.long q3), .second, .val (.int p4), .val (.int (fn1 (1 : Int32) (p0 &&& (2147483647 : Int32)) w_icache w_lcache)), .val (.long (fn2 (1 : Int64) (q1 &&& (9223372036854775807 : Int64)) w_icache w_lcache)), .second, .val (.int (fj0_0 p0 q1 p2 q3 p4 w_icache w_lcache)), .unset, .unset, .unset, .unset, .unset, .unset, .unset, .unset, .unset, .unset] [(.int p4)])) (fun _ k => XS.iload X'.here hx rfl (hb hby at_43) rfl k) ?_
    refine Gl.by (g' := (mkF m 46 #[.val (.int p0), .val (.long q1), .second, .val (.int p2), .val (.long q3), .second, .val (.int p4), .val (.int (fn1 (1 : Int32) (p0 &&& (2147483647 : Int32)) w_icache w_lcache)), .val (.long (fn2 (1 : Int64) (q1 &&& (9223372036854775807 : Int64)) w_icache w_lcache)), .second, .val (.int (fj0_0 p0 q1 p2 q3 p4 w_icache w_lcache)), .unset, .unset, .unset, .unset, .unset, .unset, .unset, .unset, .unset, .unset] [(.int (2 : Int32)), (.int p4)])) (fun _ k => XS.iconst X'.here hx rfl (hb hby at_45) k) ?_
    refine Gl.by (g' := (mkF m 47 #[.val (.int p0), .val (.long q1), .second, .val (.int p2), .val (.long q3), .second, .val (.int p4), .val (.int (fn1 (1 : Int32) (p0 &&& (2147483647 : Int32)) w_icache w_lcache)), .val (.long (fn2 (1 : Int64) (q1 &&& (9223372036854775807 : Int64)) w_icache w_lcache)), .second, .val (.int (fj0_0 p0 q1 p2 q3 p4 w_icache w_lcache)), .unset, .unset, .unset, .unset, .unset, .unset, .unset, .unset, .unset, .unset] [(.int (p4 &&& (2 : Int32)))])) (fun _ k => XS.iand X'.here hx rfl (hb hby at_46) rfl k) ?_
    have J4 : ∀ (T' : State) (lc : List Loc) (X' : Stand p l e room_1 s m #[(.int p0), (.long q1), (.int p2), (.long q3), (.int p4)] below meth c T' lc 0 0) (eT : T'.heap = h0) (N' : Fr n0 lc) (zj4_0 : Int64) (hz4_0 : zj4_0 = (fj0_1 p0 q1 p2 q3 p4 w_icache w_lcache)), Gl p e below (Pos 16 128 (Q0 Z p0 q1 p2 q3 p4 w_icache w_lcache h0 n0) s) T' (mkF m 65 #[.val (.int p0), .val (.long q1), .second, .val (.int p2), .val (.long q3), .second, .val (.int p4), .val (.int (fn1 (1 : Int32) (p0 &&& (2147483647 : Int32)) w_icache w_lcache)), .val (.long (fn2 (1 : Int64) (q1 &&& (9223372036854775807 : Int64)) w_icache w_lcache)), .second, .val (.int (fj0_0 p0 q1 p2 q3 p4 w_icache w_lcache)), .unset, .unset, .unset, .unset, .unset, .unset, .unset, .unset, .unset, .unset] [(.long zj4_0)]) := by
      intro T' lc X' eT N' zj4_0 hz4_0
      subst hz4_0
      refine Gl.by (g' := (mkF m 67 #[.val (.int p0), .val (.long q1), .second, .val (.int p2), .val (.long q3), .second, .val (.int p4), .val (.int (fn1 (1 : Int32) (p0 &&& (2147483647 : Int32)) w_icache w_lcache)), .val (.long (fn2 (1 : Int64) (q1 &&& (9223372036854775807 : Int64)) w_icache w_lcache)), .second, .val (.int (fj0_0 p0 q1 p2 q3 p4 w_icache w_lcache)), .val (.long (fj0_1 p0 q1 p2 q3 p4 w_icache w_lcache)), .second, .unset, .unset, .unset, .unset, .unset, .unset, .unset, .unset] [])) (fun _ k => XS.lstore X'.here hx rfl (hb hby at_65) rfl (l' := #[.val (.int p0), .val (.long q1), .second, .val (.int p2), .val (.long q3), .second, .val (.int p4), .val (.int (fn1 (1 : Int32) (p0 &&& (2147483647 : Int32)) w_icache w_lcache)), .val (.long (fn2 (1 : Int64) (q1 &&& (9223372036854775807 : Int64)) w_icache w_lcache)), .second, .val (.int (fj0_0 p0 q1 p2 q3 p4 w_icache w_lcache)), .val (.long (fj0_1 p0 q1 p2 q3 p4 w_icache w_lcache)), .second, .unset, .unset, .unset, .unset, .unset, .unset, .unset, .unset]) rfl k) ?_
      obtain ⟨T5, h5, X5, e5, E5, A5, D5, -, st5⟩ := newO X' hx hZ hown (hw _ (List.mem_of_getElem? (i := 9) rfl)) (hw _ (List.mem_of_getElem? (i := 10) rfl)) (hw _ (List.mem_of_getElem? (i := 11) rfl)) eT (g := (mkF m 67 #[.val (.int p0), .val (.long q1), .second, .val (.int p2), .val (.long q3), .second, .val (.int p4), .val (.int (fn1 (1 : Int32) (p0 &&& (2147483647 : Int32)) w_icache w_lcache)), .val (.long (fn2 (1 : Int64) (q1 &&& (9223372036854775807 : Int64)) w_icache w_lcache)), .second, .val (.int (fj0_0 p0 q1 p2 q3 p4 w_icache w_lcache)), .val (.long (fj0_1 p0 q1 p2 q3 p4 w_icache w_lcache)), .second, .unset, .unset, .unset, .unset, .unset, .unset, .unset, .unset] [])) rfl (hb hby at_67) (by decide) (by decide)
      obtain ⟨b5, g5⟩ : ∃ z, z = (h0).size := ⟨_, rfl⟩
      rw [← g5] at A5 D5 st5
      have gb5 : n0 ≤ b5 := Nat.le_trans (Nat.le_trans (Nat.le_of_eq O.1.symm) O.2.1) (Nat.le_of_eq g5.symm)
      have sb5 : h0.size ≤ b5 := Nat.le_trans (Keep.refl h0 []).1 (Nat.le_of_eq g5.symm)
      have D5_leader : Fld Z h5 b5 "com/example/libelect/libelect/Leadership" "leader" "I" (.int (0 : Int32)) := D5 (Or.inr (hw _ (List.mem_of_getElem? (i := 23) rfl))) (ty := .int) (by decide)
      have D5_term : Fld Z h5 b5 "com/example/libelect/libelect/Leadership" "term" "J" (.long (0 : Int64)) := D5 (Or.inr (hw _ (List.mem_of_getElem? (i := 25) rfl))) (ty := .long) (by decide)
      refine Gl.by (g' := (mkF m 70 #[.val (.int p0), .val (.long q1), .second, .val (.int p2), .val (.long q3), .second, .val (.int p4), .val (.int (fn1 (1 : Int32) (p0 &&& (2147483647 : Int32)) w_icache w_lcache)), .val (.long (fn2 (1 : Int64) (q1 &&& (9223372036854775807 : Int64)) w_icache w_lcache)), .second, .val (.int (fj0_0 p0 q1 p2 q3 p4 w_icache w_lcache)), .val (.long (fj0_1 p0 q1 p2 q3 p4 w_icache w_lcache)), .second, .unset, .unset, .unset, .unset, .unset, .unset, .unset, .unset] [(.ref b5)])) st5 ?_
      refine Gl.by (g' := (mkF m 71 #[.val (.int p0), .val (.long q1), .second, .val (.int p2), .val (.long q3), .second, .val (.int p4), .val (.int (fn1 (1 : Int32) (p0 &&& (2147483647 : Int32)) w_icache w_lcache)), .val (.long (fn2 (1 : Int64) (q1 &&& (9223372036854775807 : Int64)) w_icache w_lcache)), .second, .val (.int (fj0_0 p0 q1 p2 q3 p4 w_icache w_lcache)), .val (.long (fj0_1 p0 q1 p2 q3 p4 w_icache w_lcache)), .second, .unset, .unset, .unset, .unset, .unset, .unset, .unset, .unset] [(.ref b5), (.ref b5)])) (fun _ k => XS.dup X5.here hx rfl (hb hby at_70) rfl rfl k) ?_
      refine Gl.by (g' := (mkF m 73 #[.val (.int p0), .val (.long q1), .second, .val (.int p2), .val (.long q3), .second, .val (.int p4), .val (.int (fn1 (1 : Int32) (p0 &&& (2147483647 : Int32)) w_icache w_lcache)), .val (.long (fn2 (1 : Int64) (q1 &&& (9223372036854775807 : Int64)) w_icache w_lcache)), .second, .val (.int (fj0_0 p0 q1 p2 q3 p4 w_icache w_lcache)), .val (.long (fj0_1 p0 q1 p2 q3 p4 w_icache w_lcache)), .second, .unset, .unset, .unset, .unset, .unset, .unset, .unset, .unset] [(.int (fn1 (1 : Int32) (p0 &&& (2147483647 : Int32)) w_icache w_lcache)), (.ref b5), (.ref b5)])) (fun _ k => XS.iload X5.here hx rfl (hb hby at_71) rfl k) ?_
      refine Gl.by (g' := (mkF m 75 #[.val (.int p0), .val (.long q1), .second, .val (.int p2), .val (.long q3), .second, .val (.int p4), .val (.int (fn1 (1 : Int32) (p0 &&& (2147483647 : Int32)) w_icache w_lcache)), .val (.long (fn2 (1 : Int64) (q1 &&& (9223372036854775807 : Int64)) w_icache w_lcache)), .second, .val (.int (fj0_0 p0 q1 p2 q3 p4 w_icache w_lcache)), .val (.long (fj0_1 p0 q1 p2 q3 p4 w_icache w_lcache)), .second, .unset, .unset, .unset, .unset, .unset, .unset, .unset, .unset] [(.long (fn2 (1 : Int64) (q1 &&& (9223372036854775807 : Int64)) w_icache w_lcache)), (.int (fn1 (1 : Int32) (p0 &&& (2147483647 : Int32)) w_icache w_lcache)), (.ref b5), (.ref b5)])) (fun _ k => XS.lload X5.here hx rfl (hb hby at_73) rfl k) ?_
      have O7 := (O.ext E5)
      obtain ⟨_, _, ⟨T6, L6, k6, n6⟩, -, X6, ⟨Lc6, hQ6, l6, y6, z6⟩, st6⟩ := X5.specialBack hx (y := (⟨"com/example/libelect/libelect/Leadership", "<init>", "(IJ)V"⟩ : MethodName)) rfl hown (mvT hZ (hw _ (List.mem_of_getElem? (i := 12) rfl))) (mvT hZ (hw _ (List.mem_of_getElem? (i := 13) rfl))) (mvT hZ (hw _ (List.mem_of_getElem? (i := 14) rfl))) (by decide) (backOf (W := 1) (rm3 l Z a0' hw [] b5 (fn1 (1 : Int32) (p0 &&& (2147483647 : Int32)) w_icache w_lcache) (fn2 (1 : Int64) (q1 &&& (9223372036854775807 : Int64)) w_icache w_lcache) w_icache w_lcache h5 n0 O7 W A5 D5_leader D5_term gb5 (fn1_ge _ _ _) (fn2_ge _ _ _)) hZ (hw _ (List.mem_of_getElem? (i := 14) rfl)) (hw _ (List.mem_of_getElem? (i := 11) rfl)) (by decide) (by decide)) (g := (mkF m 75 #[.val (.int p0), .val (.long q1), .second, .val (.int p2), .val (.long q3), .second, .val (.int p4), .val (.int (fn1 (1 : Int32) (p0 &&& (2147483647 : Int32)) w_icache w_lcache)), .val (.long (fn2 (1 : Int64) (q1 &&& (9223372036854775807 : Int64)) w_icache w_lcache)), .second, .val (.int (fj0_0 p0 q1 p2 q3 p4 w_icache w_lcache)), .val (.long (fj0_1 p0 q1 p2 q3 p4 w_icache w_lcache)), .second, .unset, .unset, .unset, .unset, .unset, .unset, .unset, .unset] [(.long (fn2 (1 : Int64) (q1 &&& (9223372036854775807 : Int64)) w_icache w_lcache)), (.int (fn1 (1 : Int32) (p0 &&& (2147483647 : Int32)) w_icache w_lcache)), (.ref b5), (.ref b5)])) rfl (by rw [hml]; rfl) (Steps.refl _) (a := b5) (argsL := [(.int (fn1 (1 : Int32) (p0 &&& (2147483647 : Int32)) w_icache w_lcache)), (.long (fn2 (1 : Int64) (q1 &&& (9223372036854775807 : Int64)) w_icache w_lcache))]) (rest := [(.ref b5)]) (lenOf pd119 rfl) rfl (by show 2 * 0 + _ ≤ _; exact Nat.le_of_eq rfl) (hb hby at_75) (fun _ _ => ⟨rfl, e5, (by decide : 1 + 0 ≤ _), (by decide : 2 + 0 ≤ _)⟩)
      dsimp only [Pt.U, Pt.locs, Pt.cells, Pt.slots] at X6 l6 y6 z6 st6 hQ6
      subst l6 y6 z6
      obtain ⟨rfl, N6q, Kc6, fc6_0, fc6_1⟩ := hQ6
      have N6 := Fr.app N' N6q
      refine Gl.by (g' := (mkF m 78 #[.val (.int p0), .val (.long q1), .second, .val (.int p2), .val (.long q3), .second, .val (.int p4), .val (.int (fn1 (1 : Int32) (p0 &&& (2147483647 : Int32)) w_icache w_lcache)), .val (.long (fn2 (1 : Int64) (q1 &&& (9223372036854775807 : Int64)) w_icache w_lcache)), .second, .val (.int (fj0_0 p0 q1 p2 q3 p4 w_icache w_lcache)), .val (.long (fj0_1 p0 q1 p2 q3 p4 w_icache w_lcache)), .second, .unset, .unset, .unset, .unset, .unset, .unset, .unset, .unset] [(.ref b5)])) (fun _ k => st6.trans k) ?_
      refine Gl.by (g' := (mkF m 80 #[.val (.int p0), .val (.long q1), .second, .val (.int p2), .val (.long q3), .second, .val (.int p4), .val (.int (fn1 (1 : Int32) (p0 &&& (2147483647 : Int32)) w_icache w_lcache)), .val (.long (fn2 (1 : Int64) (q1 &&& (9223372036854775807 : Int64)) w_icache w_lcache)), .second, .val (.int (fj0_0 p0 q1 p2 q3 p4 w_icache w_lcache)), .val (.long (fj0_1 p0 q1 p2 q3 p4 w_icache w_lcache)), .second, .val (.ref b5), .unset, .unset, .unset, .unset, .unset, .unset, .unset] [])) (fun _ k => XS.astore X6.here hx rfl (hb hby at_78) rfl rfl (l' := #[.val (.int p0), .val (.long q1), .second, .val (.int p2), .val (.long q3), .second, .val (.int p4), .val (.int (fn1 (1 : Int32) (p0 &&& (2147483647 : Int32)) w_icache w_lcache)), .val (.long (fn2 (1 : Int64) (q1 &&& (9223372036854775807 : Int64)) w_icache w_lcache)), .second, .val (.int (fj0_0 p0 q1 p2 q3 p4 w_icache w_lcache)), .val (.long (fj0_1 p0 q1 p2 q3 p4 w_icache w_lcache)), .second, .val (.ref b5), .unset, .unset, .unset, .unset, .unset, .unset, .unset]) rfl k) ?_
      have O9 := (O7.keep Kc6 (allS gb5 all0))
      have f10 := (Exa.keep A5 Kc6)
      have K11 := (((Keep.refl h0 []).ext E5).trans Kc6 (allS (Or.inr sb5) all0))
      obtain ⟨T8, h8, X8, e8, E8, A8, D8, -, st8⟩ := newO X6 hx hZ hown (hw _ (List.mem_of_getElem? (i := 9) rfl)) (hw _ (List.mem_of_getElem? (i := 10) rfl)) (hw _ (List.mem_of_getElem? (i := 11) rfl)) rfl (g := (mkF m 80 #[.val (.int p0), .val (.long q1), .second, .val (.int p2), .val (.long q3), .second, .val (.int p4), .val (.int (fn1 (1 : Int32) (p0 &&& (2147483647 : Int32)) w_icache w_lcache)), .val (.long (fn2 (1 : Int64) (q1 &&& (9223372036854775807 : Int64)) w_icache w_lcache)), .second, .val (.int (fj0_0 p0 q1 p2 q3 p4 w_icache w_lcache)), .val (.long (fj0_1 p0 q1 p2 q3 p4 w_icache w_lcache)), .second, .val (.ref b5), .unset, .unset, .unset, .unset, .unset, .unset, .unset] [])) rfl (hb hby at_80) (by decide) (by decide)
      obtain ⟨b8, g8⟩ : ∃ z, z = (T6.heap).size := ⟨_, rfl⟩
      rw [← g8] at A8 D8 st8
      have gb8 : n0 ≤ b8 := Nat.le_trans (Nat.le_trans (Nat.le_of_eq O9.1.symm) O9.2.1) (Nat.le_of_eq g8.symm)
      have sb8 : h0.size ≤ b8 := Nat.le_trans K11.1 (Nat.le_of_eq g8.symm)
      have ne8_0 : b5 ≠ b8 := Nat.ne_of_lt (Nat.lt_of_lt_of_le f10.lt (Nat.le_of_eq g8.symm))
      have D8_leader : Fld Z h8 b8 "com/example/libelect/libelect/Leadership" "leader" "I" (.int (0 : Int32)) := D8 (Or.inr (hw _ (List.mem_of_getElem? (i := 23) rfl))) (ty := .int) (by decide)
      have D8_term : Fld Z h8 b8 "com/example/libelect/libelect/Leadership" "term" "J" (.long (0 : Int64)) := D8 (Or.inr (hw _ (List.mem_of_getElem? (i := 25) rfl))) (ty := .long) (by decide)
      refine Gl.by (g' := (mkF m 83 #[.val (.int p0), .val (.long q1), .second, .val (.int p2), .val (.long q3), .second, .val (.int p4), .val (.int (fn1 (1 : Int32) (p0 &&& (2147483647 : Int32)) w_icache w_lcache)), .val (.long (fn2 (1 : Int64) (q1 &&& (9223372036854775807 : Int64)) w_icache w_lcache)), .second, .val (.int (fj0_0 p0 q1 p2 q3 p4 w_icache w_lcache)), .val (.long (fj0_1 p0 q1 p2 q3 p4 w_icache w_lcache)), .second, .val (.ref b5), .unset, .unset, .unset, .unset, .unset, .unset, .unset] [(.ref b8)])) st8 ?_
      refine Gl.by (g' := (mkF m 84 #[.val (.int p0), .val (.long q1), .second, .val (.int p2), .val (.long q3), .second, .val (.int p4), .val (.int (fn1 (1 : Int32) (p0 &&& (2147483647 : Int32)) w_icache w_lcache)), .val (.long (fn2 (1 : Int64) (q1 &&& (9223372036854775807 : Int64)) w_icache w_lcache)), .second, .val (.int (fj0_0 p0 q1 p2 q3 p4 w_icache w_lcache)), .val (.long (fj0_1 p0 q1 p2 q3 p4 w_icache w_lcache)), .second, .val (.ref b5), .unset, .unset, .unset, .unset, .unset, .unset, .unset] [(.ref b8), (.ref b8)])) (fun _ k => XS.dup X8.here hx rfl (hb hby at_83) rfl rfl k) ?_
      refine Gl.by (g' := (mkF m 86 #[.val (.int p0), .val (.long q1), .second, .val (.int p2), .val (.long q3), .second, .val (.int p4), .val (.int (fn1 (1 : Int32) (p0 &&& (2147483647 : Int32)) w_icache w_lcache)), .val (.long (fn2 (1 : Int64) (q1 &&& (9223372036854775807 : Int64)) w_icache w_lcache)), .second, .val (.int (fj0_0 p0 q1 p2 q3 p4 w_icache w_lcache)), .val (.long (fj0_1 p0 q1 p2 q3 p4 w_icache w_lcache)), .second, .val (.ref b5), .unset, .unset, .unset, .unset, .unset, .unset, .unset] [(.int (fj0_0 p0 q1 p2 q3 p4 w_icache w_lcache)), (.ref b8), (.ref b8)])) (fun _ k => XS.iload X8.here hx rfl (hb hby at_84) rfl k) ?_
      refine Gl.by (g' := (mkF m 88 #[.val (.int p0), .val (.long q1), .second, .val (.int p2), .val (.long q3), .second, .val (.int p4), .val (.int (fn1 (1 : Int32) (p0 &&& (2147483647 : Int32)) w_icache w_lcache)), .val (.long (fn2 (1 : Int64) (q1 &&& (9223372036854775807 : Int64)) w_icache w_lcache)), .second, .val (.int (fj0_0 p0 q1 p2 q3 p4 w_icache w_lcache)), .val (.long (fj0_1 p0 q1 p2 q3 p4 w_icache w_lcache)), .second, .val (.ref b5), .unset, .unset, .unset, .unset, .unset, .unset, .unset] [(.long (fj0_1 p0 q1 p2 q3 p4 w_icache w_lcache)), (.int (fj0_0 p0 q1 p2 q3 p4 w_icache w_lcache)), (.ref b8), (.ref b8)])) (fun _ k => XS.lload X8.here hx rfl (hb hby at_86) rfl k) ?_
      have O13 := (O9.ext E8)
      obtain ⟨_, _, ⟨T12, L12, k12, n12⟩, -, X12, ⟨Lc12, hQ12, l12, y12, z12⟩, st12⟩ := X8.specialBack hx (y := (⟨"com/example/libelect/libelect/Leadership", "<init>", "(IJ)V"⟩ : MethodName)) rfl hown (mvT hZ (hw _ (List.mem_of_getElem? (i := 12) rfl))) (mvT hZ (hw _ (List.mem_of_getElem? (i := 13) rfl))) (mvT hZ (hw _ (List.mem_of_getElem? (i := 14) rfl))) (by decide) (backOf (W := 1) (rm3 l Z a0' hw [] b8 (fj0_0 p0 q1 p2 q3 p4 w_icache w_lcache) (fj0_1 p0 q1 p2 q3 p4 w_icache w_lcache) w_icache w_lcache h8 n0 O13 W A8 D8_leader D8_term gb8 (by unfold fj0_0; split <;> exact fn1_ge _ _ _) (by unfold fj0_1; split <;> exact fn2_ge _ _ _)) hZ (hw _ (List.mem_of_getElem? (i := 14) rfl)) (hw _ (List.mem_of_getElem? (i := 11) rfl)) (by decide) (by decide)) (g := (mkF m 88 #[.val (.int p0), .val (.long q1), .second, .val (.int p2), .val (.long q3), .second, .val (.int p4), .val (.int (fn1 (1 : Int32) (p0 &&& (2147483647 : Int32)) w_icache w_lcache)), .val (.long (fn2 (1 : Int64) (q1 &&& (9223372036854775807 : Int64)) w_icache w_lcache)), .second, .val (.int (fj0_0 p0 q1 p2 q3 p4 w_icache w_lcache)), .val (.long (fj0_1 p0 q1 p2 q3 p4 w_icache w_lcache)), .second, .val (.ref b5), .unset, .unset, .unset, .unset, .unset, .unset, .unset] [(.long (fj0_1 p0 q1 p2 q3 p4 w_icache w_lcache)), (.int (fj0_0 p0 q1 p2 q3 p4 w_icache w_lcache)), (.ref b8), (.ref b8)])) rfl (by rw [hml]; rfl) (Steps.refl _) (a := b8) (argsL := [(.int (fj0_0 p0 q1 p2 q3 p4 w_icache w_lcache)), (.long (fj0_1 p0 q1 p2 q3 p4 w_icache w_lcache))]) (rest := [(.ref b8)]) (lenOf pd119 rfl) rfl (by show 2 * 0 + _ ≤ _; exact Nat.le_of_eq rfl) (hb hby at_88) (fun _ _ => ⟨rfl, e8, (by decide : 2 + 0 ≤ _), (by decide : 4 + 0 ≤ _)⟩)
      dsimp only [Pt.U, Pt.locs, Pt.cells, Pt.slots] at X12 l12 y12 z12 st12 hQ12
      subst l12 y12 z12
      obtain ⟨rfl, N12q, Kc12, fc12_0, fc12_1⟩ := hQ12
      have N12 := Fr.app N6 N12q
      refine Gl.by (g' := (mkF m 91 #[.val (.int p0), .val (.long q1), .second, .val (.int p2), .val (.long q3), .second, .val (.int p4), .val (.int (fn1 (1 : Int32) (p0 &&& (2147483647 : Int32)) w_icache w_lcache)), .val (.long (fn2 (1 : Int64) (q1 &&& (9223372036854775807 : Int64)) w_icache w_lcache)), .second, .val (.int (fj0_0 p0 q1 p2 q3 p4 w_icache w_lcache)), .val (.long (fj0_1 p0 q1 p2 q3 p4 w_icache w_lcache)), .second, .val (.ref b5), .unset, .unset, .unset, .unset, .unset, .unset, .unset] [(.ref b8)])) (fun _ k => st12.trans k) ?_
      refine Gl.by (g' := (mkF m 93 #[.val (.int p0), .val (.long q1), .second, .val (.int p2), .val (.long q3), .second, .val (.int p4), .val (.int (fn1 (1 : Int32) (p0 &&& (2147483647 : Int32)) w_icache w_lcache)), .val (.long (fn2 (1 : Int64) (q1 &&& (9223372036854775807 : Int64)) w_icache w_lcache)), .second, .val (.int (fj0_0 p0 q1 p2 q3 p4 w_icache w_lcache)), .val (.long (fj0_1 p0 q1 p2 q3 p4 w_icache w_lcache)), .second, .val (.ref b5), .val (.ref b8), .unset, .unset, .unset, .unset, .unset, .unset] [])) (fun _ k => XS.astore X12.here hx rfl (hb hby at_91) rfl rfl (l' := #[.val (.int p0), .val (.long q1), .second, .val (.int p2), .val (.long q3), .second, .val (.int p4), .val (.int (fn1 (1 : Int32) (p0 &&& (2147483647 : Int32)) w_icache w_lcache)), .val (.long (fn2 (1 : Int64) (q1 &&& (9223372036854775807 : Int64)) w_icache w_lcache)), .second, .val (.int (fj0_0 p0 q1 p2 q3 p4 w_icache w_lcache)), .val (.long (fj0_1 p0 q1 p2 q3 p4 w_icache w_lcache)), .second, .val (.ref b5), .val (.ref b8), .unset, .unset, .unset, .unset, .unset, .unset]) rfl k) ?_
      refine Gl.by (g' := (mkF m 95 #[.val (.int p0), .val (.long q1), .second, .val (.int p2), .val (.long q3), .second, .val (.int p4), .val (.int (fn1 (1 : Int32) (p0 &&& (2147483647 : Int32)) w_icache w_lcache)), .val (.long (fn2 (1 : Int64) (q1 &&& (9223372036854775807 : Int64)) w_icache w_lcache)), .second, .val (.int (fj0_0 p0 q1 p2 q3 p4 w_icache w_lcache)), .val (.long (fj0_1 p0 q1 p2 q3 p4 w_icache w_lcache)), .second, .val (.ref b5), .val (.ref b8), .unset, .unset, .unset, .unset, .unset, .unset] [(.int p4)])) (fun _ k => XS.iload X12.here hx rfl (hb hby at_93) rfl k) ?_
      refine Gl.by (g' := (mkF m 96 #[.val (.int p0), .val (.long q1), .second, .val (.int p2), .val (.long q3), .second, .val (.int p4), .val (.int (fn1 (1 : Int32) (p0 &&& (2147483647 : Int32)) w_icache w_lcache)), .val (.long (fn2 (1 : Int64) (q1 &&& (9223372036854775807 : Int64)) w_icache w_lcache)), .second, .val (.int (fj0_0 p0 q1 p2 q3 p4 w_icache w_lcache)), .val (.long (fj0_1 p0 q1 p2 q3 p4 w_icache w_lcache)), .second, .val (.ref b5), .val (.ref b8), .unset, .unset, .unset, .unset, .unset, .unset] [(.int (2 : Int32)), (.int p4)])) (fun _ k => XS.iconst X12.here hx rfl (hb hby at_95) k) ?_
      refine Gl.by (g' := (mkF m 97 #[.val (.int p0), .val (.long q1), .second, .val (.int p2), .val (.long q3), .second, .val (.int p4), .val (.int (fn1 (1 : Int32) (p0 &&& (2147483647 : Int32)) w_icache w_lcache)), .val (.long (fn2 (1 : Int64) (q1 &&& (9223372036854775807 : Int64)) w_icache w_lcache)), .second, .val (.int (fj0_0 p0 q1 p2 q3 p4 w_icache w_lcache)), .val (.long (fj0_1 p0 q1 p2 q3 p4 w_icache w_lcache)), .second, .val (.ref b5), .val (.ref b8), .unset, .unset, .unset, .unset, .unset, .unset] [(.int ((p4.toUInt32 >>> ((2 : Int32) &&& 31).toUInt32).toInt32))])) (fun _ k => XS.iushr X12.here hx rfl (hb hby at_96) rfl k) ?_
      refine Gl.by (g' := (mkF m 98 #[.val (.int p0), .val (.long q1), .second, .val (.int p2), .val (.long q3), .second, .val (.int p4), .val (.int (fn1 (1 : Int32) (p0 &&& (2147483647 : Int32)) w_icache w_lcache)), .val (.long (fn2 (1 : Int64) (q1 &&& (9223372036854775807 : Int64)) w_icache w_lcache)), .second, .val (.int (fj0_0 p0 q1 p2 q3 p4 w_icache w_lcache)), .val (.long (fj0_1 p0 q1 p2 q3 p4 w_icache w_lcache)), .second, .val (.ref b5), .val (.ref b8), .unset, .unset, .unset, .unset, .unset, .unset] [(.int (3 : Int32)), (.int ((p4.toUInt32 >>> ((2 : Int32) &&& 31).toUInt32).toInt32))])) (fun _ k => XS.iconst X12.here hx rfl (hb hby at_97) k) ?_
      refine Gl.by (g' := (mkF m 99 #[.val (.int p0), .val (.long q1), .second, .val (.int p2), .val (.long q3), .second, .val (.int p4), .val (.int (fn1 (1 : Int32) (p0 &&& (2147483647 : Int32)) w_icache w_lcache)), .val (.long (fn2 (1 : Int64) (q1 &&& (9223372036854775807 : Int64)) w_icache w_lcache)), .second, .val (.int (fj0_0 p0 q1 p2 q3 p4 w_icache w_lcache)), .val (.long (fj0_1 p0 q1 p2 q3 p4 w_icache w_lcache)), .second, .val (.ref b5), .val (.ref b8), .unset, .unset, .unset, .unset, .unset, .unset] [(.int (((p4.toUInt32 >>> ((2 : Int32) &&& 31).toUInt32).toInt32) &&& (3 : Int32)))])) (fun _ k => XS.iand X12.here hx rfl (hb hby at_98) rfl k) ?_
      refine Gl.by (g' := (mkF m 101 #[.val (.int p0), .val (.long q1), .second, .val (.int p2), .val (.long q3), .second, .val (.int p4), .val (.int (fn1 (1 : Int32) (p0 &&& (2147483647 : Int32)) w_icache w_lcache)), .val (.long (fn2 (1 : Int64) (q1 &&& (9223372036854775807 : Int64)) w_icache w_lcache)), .second, .val (.int (fj0_0 p0 q1 p2 q3 p4 w_icache w_lcache)), .val (.long (fj0_1 p0 q1 p2 q3 p4 w_icache w_lcache)), .second, .val (.ref b5), .val (.ref b8), .val (.int (((p4.toUInt32 >>> ((2 : Int32) &&& 31).toUInt32).toInt32) &&& (3 : Int32))), .unset, .unset, .unset, .unset, .unset] [])) (fun _ k => XS.istore X12.here hx rfl (hb hby at_99) rfl (l' := #[.val (.int p0), .val (.long q1), .second, .val (.int p2), .val (.long q3), .second, .val (.int p4), .val (.int (fn1 (1 : Int32) (p0 &&& (2147483647 : Int32)) w_icache w_lcache)), .val (.long (fn2 (1 : Int64) (q1 &&& (9223372036854775807 : Int64)) w_icache w_lcache)), .second, .val (.int (fj0_0 p0 q1 p2 q3 p4 w_icache w_lcache)), .val (.long (fj0_1 p0 q1 p2 q3 p4 w_icache w_lcache)), .second, .val (.ref b5), .val (.ref b8), .val (.int (((p4.toUInt32 >>> ((2 : Int32) &&& 31).toUInt32).toInt32) &&& (3 : Int32))), .unset, .unset, .unset, .unset, .unset]) rfl k) ?_
      refine Gl.by (g' := (mkF m 103 #[.val (.int p0), .val (.long q1), .second, .val (.int p2), .val (.long q3), .second, .val (.int p4), .val (.int (fn1 (1 : Int32) (p0 &&& (2147483647 : Int32)) w_icache w_lcache)), .val (.long (fn2 (1 : Int64) (q1 &&& (9223372036854775807 : Int64)) w_icache w_lcache)), .second, .val (.int (fj0_0 p0 q1 p2 q3 p4 w_icache w_lcache)), .val (.long (fj0_1 p0 q1 p2 q3 p4 w_icache w_lcache)), .second, .val (.ref b5), .val (.ref b8), .val (.int (((p4.toUInt32 >>> ((2 : Int32) &&& 31).toUInt32).toInt32) &&& (3 : Int32))), .unset, .unset, .unset, .unset, .unset] [(.int (((p4.toUInt32 >>> ((2 : Int32) &&& 31).toUInt32).toInt32) &&& (3 : Int32)))])) (fun _ k => XS.iload X12.here hx rfl (hb hby at_101) rfl k) ?_
      by_cases hc14 : (((p4.toUInt32 >>> ((2 : Int32) &&& 31).toUInt32).toInt32) &&& (3 : Int32)) = (0 : Int32)
      · refine Gl.by (g' := (mkF m 106 #[.val (.int p0), .val (.long q1), .second, .val (.int p2), .val (.long q3), .second, .val (.int p4), .val (.int (fn1 (1 : Int32) (p0 &&& (2147483647 : Int32)) w_icache w_lcache)), .val (.long (fn2 (1 : Int64) (q1 &&& (9223372036854775807 : Int64)) w_icache w_lcache)), .second, .val (.int (fj0_0 p0 q1 p2 q3 p4 w_icache w_lcache)), .val (.long (fj0_1 p0 q1 p2 q3 p4 w_icache w_lcache)), .second, .val (.ref b5), .val (.ref b8), .val (.int (((p4.toUInt32 >>> ((2 : Int32) &&& 31).toUInt32).toInt32) &&& (3 : Int32))), .unset, .unset, .unset, .unset, .unset] [])) (fun _ k => XS.ifNo X12.here hx rfl (hb hby at_103) rfl ((if0 _ _).trans (teq hc14).2) k) ?_
        refine Gl.by (g' := (mkF m 108 #[.val (.int p0), .val (.long q1), .second, .val (.int p2), .val (.long q3), .second, .val (.int p4), .val (.int (fn1 (1 : Int32) (p0 &&& (2147483647 : Int32)) w_icache w_lcache)), .val (.long (fn2 (1 : Int64) (q1 &&& (9223372036854775807 : Int64)) w_icache w_lcache)), .second, .val (.int (fj0_0 p0 q1 p2 q3 p4 w_icache w_lcache)), .val (.long (fj0_1 p0 q1 p2 q3 p4 w_icache w_lcache)), .second, .val (.ref b5), .val (.ref b8), .val (.int (((p4.toUInt32 >>> ((2 : Int32) &&& 31).toUInt32).toInt32) &&& (3 : Int32))), .unset, .unset, .unset, .unset, .unset] [(.ref b8)])) (fun _ k => XS.aload X12.here hx rfl (hb hby at_106) rfl rfl k) ?_
        refine Gl.by (g' := (mkF m 110 #[.val (.int p0), .val (.long q1), .second, .val (.int p2), .val (.long q3), .second, .val (.int p4), .val (.int (fn1 (1 : Int32) (p0 &&& (2147483647 : Int32)) w_icache w_lcache)), .val (.long (fn2 (1 : Int64) (q1 &&& (9223372036854775807 : Int64)) w_icache w_lcache)), .second, .val (.int (fj0_0 p0 q1 p2 q3 p4 w_icache w_lcache)), .val (.long (fj0_1 p0 q1 p2 q3 p4 w_icache w_lcache)), .second, .val (.ref b5), .val (.ref b8), .val (.int (((p4.toUInt32 >>> ((2 : Int32) &&& 31).toUInt32).toInt32) &&& (3 : Int32))), .val (.ref b8), .unset, .unset, .unset, .unset] [])) (fun _ k => XS.astore X12.here hx rfl (hb hby at_108) rfl rfl (l' := #[.val (.int p0), .val (.long q1), .second, .val (.int p2), .val (.long q3), .second, .val (.int p4), .val (.int (fn1 (1 : Int32) (p0 &&& (2147483647 : Int32)) w_icache w_lcache)), .val (.long (fn2 (1 : Int64) (q1 &&& (9223372036854775807 : Int64)) w_icache w_lcache)), .second, .val (.int (fj0_0 p0 q1 p2 q3 p4 w_icache w_lcache)), .val (.long (fj0_1 p0 q1 p2 q3 p4 w_icache w_lcache)), .second, .val (.ref b5), .val (.ref b8), .val (.int (((p4.toUInt32 >>> ((2 : Int32) &&& 31).toUInt32).toInt32) &&& (3 : Int32))), .val (.ref b8), .unset, .unset, .unset, .unset]) rfl k) ?_
        refine Gl.by (g' := (mkF m 148 #[.val (.int p0), .val (.long q1), .second, .val (.int p2), .val (.long q3), .second, .val (.int p4), .val (.int (fn1 (1 : Int32) (p0 &&& (2147483647 : Int32)) w_icache w_lcache)), .val (.long (fn2 (1 : Int64) (q1 &&& (9223372036854775807 : Int64)) w_icache w_lcache)), .second, .val (.int (fj0_0 p0 q1 p2 q3 p4 w_icache w_lcache)), .val (.long (fj0_1 p0 q1 p2 q3 p4 w_icache w_lcache)), .second, .val (.ref b5), .val (.ref b8), .val (.int (((p4.toUInt32 >>> ((2 : Int32) &&& 31).toUInt32).toInt32) &&& (3 : Int32))), .val (.ref b8), .unset, .unset, .unset, .unset] [])) (fun _ k => XS.goto X12.here hx rfl (pc0 := 110) (pc' := 148) rfl (hb hby at_110) (by decide) (by decide) k) ?_
        refine Gl.by (g' := (mkF m 150 #[.val (.int p0), .val (.long q1), .second, .val (.int p2), .val (.long q3), .second, .val (.int p4), .val (.int (fn1 (1 : Int32) (p0 &&& (2147483647 : Int32)) w_icache w_lcache)), .val (.long (fn2 (1 : Int64) (q1 &&& (9223372036854775807 : Int64)) w_icache w_lcache)), .second, .val (.int (fj0_0 p0 q1 p2 q3 p4 w_icache w_lcache)), .val (.long (fj0_1 p0 q1 p2 q3 p4 w_icache w_lcache)), .second, .val (.ref b5), .val (.ref b8), .val (.int (((p4.toUInt32 >>> ((2 : Int32) &&& 31).toUInt32).toInt32) &&& (3 : Int32))), .val (.ref b8), .unset, .unset, .unset, .unset] [(.int (((p4.toUInt32 >>> ((2 : Int32) &&& 31).toUInt32).toInt32) &&& (3 : Int32)))])) (fun _ k => XS.iload X12.here hx rfl (hb hby at_148) rfl k) ?_
        have J15 : ∀ (T' : State) (lc : List Loc) (X' : Stand p l e room_1 s m #[(.int p0), (.long q1), (.int p2), (.long q3), (.int p4)] below meth c T' lc 2 4) (eT : T'.heap = T12.heap) (N' : Fr n0 lc) (zj15_0 : Int32) (hz15_0 : zj15_0 = (fj0_2 p0 q1 p2 q3 p4 w_icache w_lcache)), Gl p e below (Pos 16 128 (Q0 Z p0 q1 p2 q3 p4 w_icache w_lcache h0 n0) s) T' (mkF m 173 #[.val (.int p0), .val (.long q1), .second, .val (.int p2), .val (.long q3), .second, .val (.int p4), .val (.int (fn1 (1 : Int32) (p0 &&& (2147483647 : Int32)) w_icache w_lcache)), .val (.long (fn2 (1 : Int64) (q1 &&& (9223372036854775807 : Int64)) w_icache w_lcache)), .second, .val (.int (fj0_0 p0 q1 p2 q3 p4 w_icache w_lcache)), .val (.long (fj0_1 p0 q1 p2 q3 p4 w_icache w_lcache)), .second, .val (.ref b5), .val (.ref b8), .val (.int (((p4.toUInt32 >>> ((2 : Int32) &&& 31).toUInt32).toInt32) &&& (3 : Int32))), .val (.ref b8), .unset, .unset, .unset, .unset] [(.int zj15_0)]) := by
          intro T' lc X' eT N' zj15_0 hz15_0
          subst hz15_0
          refine Gl.by (g' := (mkF m 175 #[.val (.int p0), .val (.long q1), .second, .val (.int p2), .val (.long q3), .second, .val (.int p4), .val (.int (fn1 (1 : Int32) (p0 &&& (2147483647 : Int32)) w_icache w_lcache)), .val (.long (fn2 (1 : Int64) (q1 &&& (9223372036854775807 : Int64)) w_icache w_lcache)), .second, .val (.int (fj0_0 p0 q1 p2 q3 p4 w_icache w_lcache)), .val (.long (fj0_1 p0 q1 p2 q3 p4 w_icache w_lcache)), .second, .val (.ref b5), .val (.ref b8), .val (.int (((p4.toUInt32 >>> ((2 : Int32) &&& 31).toUInt32).toInt32) &&& (3 : Int32))), .val (.ref b8), .val (.int (fj0_2 p0 q1 p2 q3 p4 w_icache w_lcache)), .unset, .unset, .unset] [])) (fun _ k => XS.istore X'.here hx rfl (hb hby at_173) rfl (l' := #[.val (.int p0), .val (.long q1), .second, .val (.int p2), .val (.long q3), .second, .val (.int p4), .val (.int (fn1 (1 : Int32) (p0 &&& (2147483647 : Int32)) w_icache w_lcache)), .val (.long (fn2 (1 : Int64) (q1 &&& (9223372036854775807 : Int64)) w_icache w_lcache)), .second, .val (.int (fj0_0 p0 q1 p2 q3 p4 w_icache w_lcache)), .val (.long (fj0_1 p0 q1 p2 q3 p4 w_icache w_lcache)), .second, .val (.ref b5), .val (.ref b8), .val (.int (((p4.toUInt32 >>> ((2 : Int32) &&& 31).toUInt32).toInt32) &&& (3 : Int32))), .val (.ref b8), .val (.int (fj0_2 p0 q1 p2 q3 p4 w_icache w_lcache)), .unset, .unset, .unset]) rfl k) ?_
          refine Gl.by (g' := (mkF m 177 #[.val (.int p0), .val (.long q1), .second, .val (.int p2), .val (.long q3), .second, .val (.int p4), .val (.int (fn1 (1 : Int32) (p0 &&& (2147483647 : Int32)) w_icache w_lcache)), .val (.long (fn2 (1 : Int64) (q1 &&& (9223372036854775807 : Int64)) w_icache w_lcache)), .second, .val (.int (fj0_0 p0 q1 p2 q3 p4 w_icache w_lcache)), .val (.long (fj0_1 p0 q1 p2 q3 p4 w_icache w_lcache)), .second, .val (.ref b5), .val (.ref b8), .val (.int (((p4.toUInt32 >>> ((2 : Int32) &&& 31).toUInt32).toInt32) &&& (3 : Int32))), .val (.ref b8), .val (.int (fj0_2 p0 q1 p2 q3 p4 w_icache w_lcache)), .unset, .unset, .unset] [(.ref b5)])) (fun _ k => XS.aload X'.here hx rfl (hb hby at_175) rfl rfl k) ?_
          refine Gl.by (g' := (mkF m 179 #[.val (.int p0), .val (.long q1), .second, .val (.int p2), .val (.long q3), .second, .val (.int p4), .val (.int (fn1 (1 : Int32) (p0 &&& (2147483647 : Int32)) w_icache w_lcache)), .val (.long (fn2 (1 : Int64) (q1 &&& (9223372036854775807 : Int64)) w_icache w_lcache)), .second, .val (.int (fj0_0 p0 q1 p2 q3 p4 w_icache w_lcache)), .val (.long (fj0_1 p0 q1 p2 q3 p4 w_icache w_lcache)), .second, .val (.ref b5), .val (.ref b8), .val (.int (((p4.toUInt32 >>> ((2 : Int32) &&& 31).toUInt32).toInt32) &&& (3 : Int32))), .val (.ref b8), .val (.int (fj0_2 p0 q1 p2 q3 p4 w_icache w_lcache)), .unset, .unset, .unset] [(.ref b8), (.ref b5)])) (fun _ k => XS.aload X'.here hx rfl (hb hby at_177) rfl rfl k) ?_
          have f17 := (Exa.keep (Exa.ext E8 f10) Kc12)
          have f18 := (Fld.keep (Fld.ext E8 fc6_0) Kc12 (ninS ne8_0 nin0))
          have f19 := (Fld.keep (Fld.ext E8 fc6_1) Kc12 (ninS ne8_0 nin0))
          have f20 := (Exa.keep A8 Kc12)
          have O21 := (O13.keep Kc12 (allS gb8 all0))
          obtain ⟨cq16, kq16, q16a, q16b, q16c⟩ := isOf hZ eT f17
          obtain ⟨_, _, ⟨T16, L16, k16, n16⟩, -, X16, ⟨Lc16, hQ16, l16, y16, z16⟩, st16⟩ := X'.virtualBack hx (y := (⟨"com/example/libelect/libelect/Leadership", "equals", "(Ljava/lang/Object;)Z"⟩ : MethodName)) (z := (⟨"com/example/libelect/libelect/Leadership", "equals", "(Ljava/lang/Object;)Z"⟩ : MethodName)) hown (mvT hZ (hw _ (List.mem_of_getElem? (i := 26) rfl))) (mvT hZ (hw _ (List.mem_of_getElem? (i := 27) rfl))) (notFace_of_selects (args := #[]) (mvT hZ (hw _ (List.mem_of_getElem? (i := 29) rfl)))) (mvT hZ (hw _ (List.mem_of_getElem? (i := 29) rfl))) (mvT hZ (hw _ (List.mem_of_getElem? (i := 28) rfl))) (by decide) (backOf (W := 0) (rm6m l Z a0' hw [] b5 b8 (fn1 (1 : Int32) (p0 &&& (2147483647 : Int32)) w_icache w_lcache) (fn2 (1 : Int64) (q1 &&& (9223372036854775807 : Int64)) w_icache w_lcache) (fj0_0 p0 q1 p2 q3 p4 w_icache w_lcache) (fj0_1 p0 q1 p2 q3 p4 w_icache w_lcache) w_icache w_lcache T12.heap n0 O21 W f17 f18 f19 f20 fc12_0 fc12_1) hZ (hw _ (List.mem_of_getElem? (i := 30) rfl)) (hw _ (List.mem_of_getElem? (i := 11) rfl)) (by decide) (by decide)) q16a q16c (g := (mkF m 179 #[.val (.int p0), .val (.long q1), .second, .val (.int p2), .val (.long q3), .second, .val (.int p4), .val (.int (fn1 (1 : Int32) (p0 &&& (2147483647 : Int32)) w_icache w_lcache)), .val (.long (fn2 (1 : Int64) (q1 &&& (9223372036854775807 : Int64)) w_icache w_lcache)), .second, .val (.int (fj0_0 p0 q1 p2 q3 p4 w_icache w_lcache)), .val (.long (fj0_1 p0 q1 p2 q3 p4 w_icache w_lcache)), .second, .val (.ref b5), .val (.ref b8), .val (.int (((p4.toUInt32 >>> ((2 : Int32) &&& 31).toUInt32).toInt32) &&& (3 : Int32))), .val (.ref b8), .val (.int (fj0_2 p0 q1 p2 q3 p4 w_icache w_lcache)), .unset, .unset, .unset] [(.ref b8), (.ref b5)])) rfl (by rw [hml]; rfl) (Steps.refl _) (argsL := [(.ref b8)]) (rest := []) (lenOf pd122 rfl) rfl (by show 2 * 0 + _ ≤ _; exact Nat.le_of_eq rfl) (hb hby at_179) (fun _ _ => ⟨rfl, eT, (by decide : 2 + 0 ≤ _), (by decide : 4 + 0 ≤ _)⟩)
          dsimp only [Pt.U, Pt.locs, Pt.cells, Pt.slots] at X16 l16 y16 z16 st16 hQ16
          subst l16 y16 z16
          obtain ⟨rfl, N16q, e16⟩ := hQ16
          have N16 := Fr.app N' N16q
          refine Gl.by (g' := (mkF m 182 #[.val (.int p0), .val (.long q1), .second, .val (.int p2), .val (.long q3), .second, .val (.int p4), .val (.int (fn1 (1 : Int32) (p0 &&& (2147483647 : Int32)) w_icache w_lcache)), .val (.long (fn2 (1 : Int64) (q1 &&& (9223372036854775807 : Int64)) w_icache w_lcache)), .second, .val (.int (fj0_0 p0 q1 p2 q3 p4 w_icache w_lcache)), .val (.long (fj0_1 p0 q1 p2 q3 p4 w_icache w_lcache)), .second, .val (.ref b5), .val (.ref b8), .val (.int (((p4.toUInt32 >>> ((2 : Int32) &&& 31).toUInt32).toInt32) &&& (3 : Int32))), .val (.ref b8), .val (.int (fj0_2 p0 q1 p2 q3 p4 w_icache w_lcache)), .unset, .unset, .unset] [(.int (fn6m (fn1 (1 : Int32) (p0 &&& (2147483647 : Int32)) w_icache w_lcache) (fn2 (1 : Int64) (q1 &&& (9223372036854775807 : Int64)) w_icache w_lcache) (fj0_0 p0 q1 p2 q3 p4 w_icache w_lcache) (fj0_1 p0 q1 p2 q3 p4 w_icache w_lcache) w_icache w_lcache))])) (fun _ k => st16.trans k) ?_
          refine Gl.by (g' := (mkF m 184 #[.val (.int p0), .val (.long q1), .second, .val (.int p2), .val (.long q3), .second, .val (.int p4), .val (.int (fn1 (1 : Int32) (p0 &&& (2147483647 : Int32)) w_icache w_lcache)), .val (.long (fn2 (1 : Int64) (q1 &&& (9223372036854775807 : Int64)) w_icache w_lcache)), .second, .val (.int (fj0_0 p0 q1 p2 q3 p4 w_icache w_lcache)), .val (.long (fj0_1 p0 q1 p2 q3 p4 w_icache w_lcache)), .second, .val (.ref b5), .val (.ref b8), .val (.int (((p4.toUInt32 >>> ((2 : Int32) &&& 31).toUInt32).toInt32) &&& (3 : Int32))), .val (.ref b8), .val (.int (fj0_2 p0 q1 p2 q3 p4 w_icache w_lcache)), .val (.int (fn6m (fn1 (1 : Int32) (p0 &&& (2147483647 : Int32)) w_icache w_lcache) (fn2 (1 : Int64) (q1 &&& (9223372036854775807 : Int64)) w_icache w_lcache) (fj0_0 p0 q1 p2 q3 p4 w_icache w_lcache) (fj0_1 p0 q1 p2 q3 p4 w_icache w_lcache) w_icache w_lcache)), .unset, .unset] [])) (fun _ k => XS.istore X16.here hx rfl (hb hby at_182) rfl (l' := #[.val (.int p0), .val (.long q1), .second, .val (.int p2), .val (.long q3), .second, .val (.int p4), .val (.int (fn1 (1 : Int32) (p0 &&& (2147483647 : Int32)) w_icache w_lcache)), .val (.long (fn2 (1 : Int64) (q1 &&& (9223372036854775807 : Int64)) w_icache w_lcache)), .second, .val (.int (fj0_0 p0 q1 p2 q3 p4 w_icache w_lcache)), .val (.long (fj0_1 p0 q1 p2 q3 p4 w_icache w_lcache)), .second, .val (.ref b5), .val (.ref b8), .val (.int (((p4.toUInt32 >>> ((2 : Int32) &&& 31).toUInt32).toInt32) &&& (3 : Int32))), .val (.ref b8), .val (.int (fj0_2 p0 q1 p2 q3 p4 w_icache w_lcache)), .val (.int (fn6m (fn1 (1 : Int32) (p0 &&& (2147483647 : Int32)) w_icache w_lcache) (fn2 (1 : Int64) (q1 &&& (9223372036854775807 : Int64)) w_icache w_lcache) (fj0_0 p0 q1 p2 q3 p4 w_icache w_lcache) (fj0_1 p0 q1 p2 q3 p4 w_icache w_lcache) w_icache w_lcache)), .unset, .unset]) rfl k) ?_
          refine Gl.by (g' := (mkF m 186 #[.val (.int p0), .val (.long q1), .second, .val (.int p2), .val (.long q3), .second, .val (.int p4), .val (.int (fn1 (1 : Int32) (p0 &&& (2147483647 : Int32)) w_icache w_lcache)), .val (.long (fn2 (1 : Int64) (q1 &&& (9223372036854775807 : Int64)) w_icache w_lcache)), .second, .val (.int (fj0_0 p0 q1 p2 q3 p4 w_icache w_lcache)), .val (.long (fj0_1 p0 q1 p2 q3 p4 w_icache w_lcache)), .second, .val (.ref b5), .val (.ref b8), .val (.int (((p4.toUInt32 >>> ((2 : Int32) &&& 31).toUInt32).toInt32) &&& (3 : Int32))), .val (.ref b8), .val (.int (fj0_2 p0 q1 p2 q3 p4 w_icache w_lcache)), .val (.int (fn6m (fn1 (1 : Int32) (p0 &&& (2147483647 : Int32)) w_icache w_lcache) (fn2 (1 : Int64) (q1 &&& (9223372036854775807 : Int64)) w_icache w_lcache) (fj0_0 p0 q1 p2 q3 p4 w_icache w_lcache) (fj0_1 p0 q1 p2 q3 p4 w_icache w_lcache) w_icache w_lcache)), .unset, .unset] [(.ref b5)])) (fun _ k => XS.aload X16.here hx rfl (hb hby at_184) rfl rfl k) ?_
          refine Gl.by (g' := (mkF m 188 #[.val (.int p0), .val (.long q1), .second, .val (.int p2), .val (.long q3), .second, .val (.int p4), .val (.int (fn1 (1 : Int32) (p0 &&& (2147483647 : Int32)) w_icache w_lcache)), .val (.long (fn2 (1 : Int64) (q1 &&& (9223372036854775807 : Int64)) w_icache w_lcache)), .second, .val (.int (fj0_0 p0 q1 p2 q3 p4 w_icache w_lcache)), .val (.long (fj0_1 p0 q1 p2 q3 p4 w_icache w_lcache)), .second, .val (.ref b5), .val (.ref b8), .val (.int (((p4.toUInt32 >>> ((2 : Int32) &&& 31).toUInt32).toInt32) &&& (3 : Int32))), .val (.ref b8), .val (.int (fj0_2 p0 q1 p2 q3 p4 w_icache w_lcache)), .val (.int (fn6m (fn1 (1 : Int32) (p0 &&& (2147483647 : Int32)) w_icache w_lcache) (fn2 (1 : Int64) (q1 &&& (9223372036854775807 : Int64)) w_icache w_lcache) (fj0_0 p0 q1 p2 q3 p4 w_icache w_lcache) (fj0_1 p0 q1 p2 q3 p4 w_icache w_lcache) w_icache w_lcache)), .unset, .unset] [(.ref b5), (.ref b5)])) (fun _ k => XS.aload X16.here hx rfl (hb hby at_186) rfl rfl k) ?_
          obtain ⟨cq22, kq22, q22a, q22b, q22c⟩ := isOf hZ e16 f17
          obtain ⟨_, _, ⟨T22, L22, k22, n22⟩, -, X22, ⟨Lc22, hQ22, l22, y22, z22⟩, st22⟩ := X16.virtualBack hx (y := (⟨"com/example/libelect/libelect/Leadership", "equals", "(Ljava/lang/Object;)Z"⟩ : MethodName)) (z := (⟨"com/example/libelect/libelect/Leadership", "equals", "(Ljava/lang/Object;)Z"⟩ : MethodName)) hown (mvT hZ (hw _ (List.mem_of_getElem? (i := 26) rfl))) (mvT hZ (hw _ (List.mem_of_getElem? (i := 27) rfl))) (notFace_of_selects (args := #[]) (mvT hZ (hw _ (List.mem_of_getElem? (i := 29) rfl)))) (mvT hZ (hw _ (List.mem_of_getElem? (i := 29) rfl))) (mvT hZ (hw _ (List.mem_of_getElem? (i := 28) rfl))) (by decide) (backOf (W := 0) (rm6m l Z a0' hw [] b5 b5 (fn1 (1 : Int32) (p0 &&& (2147483647 : Int32)) w_icache w_lcache) (fn2 (1 : Int64) (q1 &&& (9223372036854775807 : Int64)) w_icache w_lcache) (fn1 (1 : Int32) (p0 &&& (2147483647 : Int32)) w_icache w_lcache) (fn2 (1 : Int64) (q1 &&& (9223372036854775807 : Int64)) w_icache w_lcache) w_icache w_lcache T12.heap n0 O21 W f17 f18 f19 f17 f18 f19) hZ (hw _ (List.mem_of_getElem? (i := 30) rfl)) (hw _ (List.mem_of_getElem? (i := 11) rfl)) (by decide) (by decide)) q22a q22c (g := (mkF m 188 #[.val (.int p0), .val (.long q1), .second, .val (.int p2), .val (.long q3), .second, .val (.int p4), .val (.int (fn1 (1 : Int32) (p0 &&& (2147483647 : Int32)) w_icache w_lcache)), .val (.long (fn2 (1 : Int64) (q1 &&& (9223372036854775807 : Int64)) w_icache w_lcache)), .second, .val (.int (fj0_0 p0 q1 p2 q3 p4 w_icache w_lcache)), .val (.long (fj0_1 p0 q1 p2 q3 p4 w_icache w_lcache)), .second, .val (.ref b5), .val (.ref b8), .val (.int (((p4.toUInt32 >>> ((2 : Int32) &&& 31).toUInt32).toInt32) &&& (3 : Int32))), .val (.ref b8), .val (.int (fj0_2 p0 q1 p2 q3 p4 w_icache w_lcache)), .val (.int (fn6m (fn1 (1 : Int32) (p0 &&& (2147483647 : Int32)) w_icache w_lcache) (fn2 (1 : Int64) (q1 &&& (9223372036854775807 : Int64)) w_icache w_lcache) (fj0_0 p0 q1 p2 q3 p4 w_icache w_lcache) (fj0_1 p0 q1 p2 q3 p4 w_icache w_lcache) w_icache w_lcache)), .unset, .unset] [(.ref b5), (.ref b5)])) rfl (by rw [hml]; rfl) (Steps.refl _) (argsL := [(.ref b5)]) (rest := []) (lenOf pd122 rfl) rfl (by show 2 * 0 + _ ≤ _; exact Nat.le_of_eq rfl) (hb hby at_188) (fun _ _ => ⟨rfl, e16, (by decide : 2 + 0 ≤ _), (by decide : 4 + 0 ≤ _)⟩)
          dsimp only [Pt.U, Pt.locs, Pt.cells, Pt.slots] at X22 l22 y22 z22 st22 hQ22
          subst l22 y22 z22
          obtain ⟨rfl, N22q, e22⟩ := hQ22
          have N22 := Fr.app N16 N22q
          refine Gl.by (g' := (mkF m 191 #[.val (.int p0), .val (.long q1), .second, .val (.int p2), .val (.long q3), .second, .val (.int p4), .val (.int (fn1 (1 : Int32) (p0 &&& (2147483647 : Int32)) w_icache w_lcache)), .val (.long (fn2 (1 : Int64) (q1 &&& (9223372036854775807 : Int64)) w_icache w_lcache)), .second, .val (.int (fj0_0 p0 q1 p2 q3 p4 w_icache w_lcache)), .val (.long (fj0_1 p0 q1 p2 q3 p4 w_icache w_lcache)), .second, .val (.ref b5), .val (.ref b8), .val (.int (((p4.toUInt32 >>> ((2 : Int32) &&& 31).toUInt32).toInt32) &&& (3 : Int32))), .val (.ref b8), .val (.int (fj0_2 p0 q1 p2 q3 p4 w_icache w_lcache)), .val (.int (fn6m (fn1 (1 : Int32) (p0 &&& (2147483647 : Int32)) w_icache w_lcache) (fn2 (1 : Int64) (q1 &&& (9223372036854775807 : Int64)) w_icache w_lcache) (fj0_0 p0 q1 p2 q3 p4 w_icache w_lcache) (fj0_1 p0 q1 p2 q3 p4 w_icache w_lcache) w_icache w_lcache)), .unset, .unset] [(.int (fn6m (fn1 (1 : Int32) (p0 &&& (2147483647 : Int32)) w_icache w_lcache) (fn2 (1 : Int64) (q1 &&& (9223372036854775807 : Int64)) w_icache w_lcache) (fn1 (1 : Int32) (p0 &&& (2147483647 : Int32)) w_icache w_lcache) (fn2 (1 : Int64) (q1 &&& (9223372036854775807 : Int64)) w_icache w_lcache) w_icache w_lcache))])) (fun _ k => st22.trans k) ?_
          refine Gl.by (g' := (mkF m 193 #[.val (.int p0), .val (.long q1), .second, .val (.int p2), .val (.long q3), .second, .val (.int p4), .val (.int (fn1 (1 : Int32) (p0 &&& (2147483647 : Int32)) w_icache w_lcache)), .val (.long (fn2 (1 : Int64) (q1 &&& (9223372036854775807 : Int64)) w_icache w_lcache)), .second, .val (.int (fj0_0 p0 q1 p2 q3 p4 w_icache w_lcache)), .val (.long (fj0_1 p0 q1 p2 q3 p4 w_icache w_lcache)), .second, .val (.ref b5), .val (.ref b8), .val (.int (((p4.toUInt32 >>> ((2 : Int32) &&& 31).toUInt32).toInt32) &&& (3 : Int32))), .val (.ref b8), .val (.int (fj0_2 p0 q1 p2 q3 p4 w_icache w_lcache)), .val (.int (fn6m (fn1 (1 : Int32) (p0 &&& (2147483647 : Int32)) w_icache w_lcache) (fn2 (1 : Int64) (q1 &&& (9223372036854775807 : Int64)) w_icache w_lcache) (fj0_0 p0 q1 p2 q3 p4 w_icache w_lcache) (fj0_1 p0 q1 p2 q3 p4 w_icache w_lcache) w_icache w_lcache)), .val (.int (fn6m (fn1 (1 : Int32) (p0 &&& (2147483647 : Int32)) w_icache w_lcache) (fn2 (1 : Int64) (q1 &&& (9223372036854775807 : Int64)) w_icache w_lcache) (fn1 (1 : Int32) (p0 &&& (2147483647 : Int32)) w_icache w_lcache) (fn2 (1 : Int64) (q1 &&& (9223372036854775807 : Int64)) w_icache w_lcache) w_icache w_lcache)), .unset] [])) (fun _ k => XS.istore X22.here hx rfl (hb hby at_191) rfl (l' := #[.val (.int p0), .val (.long q1), .second, .val (.int p2), .val (.long q3), .second, .val (.int p4), .val (.int (fn1 (1 : Int32) (p0 &&& (2147483647 : Int32)) w_icache w_lcache)), .val (.long (fn2 (1 : Int64) (q1 &&& (9223372036854775807 : Int64)) w_icache w_lcache)), .second, .val (.int (fj0_0 p0 q1 p2 q3 p4 w_icache w_lcache)), .val (.long (fj0_1 p0 q1 p2 q3 p4 w_icache w_lcache)), .second, .val (.ref b5), .val (.ref b8), .val (.int (((p4.toUInt32 >>> ((2 : Int32) &&& 31).toUInt32).toInt32) &&& (3 : Int32))), .val (.ref b8), .val (.int (fj0_2 p0 q1 p2 q3 p4 w_icache w_lcache)), .val (.int (fn6m (fn1 (1 : Int32) (p0 &&& (2147483647 : Int32)) w_icache w_lcache) (fn2 (1 : Int64) (q1 &&& (9223372036854775807 : Int64)) w_icache w_lcache) (fj0_0 p0 q1 p2 q3 p4 w_icache w_lcache) (fj0_1 p0 q1 p2 q3 p4 w_icache w_lcache) w_icache w_lcache)), .val (.int (fn6m (fn1 (1 : Int32) (p0 &&& (2147483647 : Int32)) w_icache w_lcache) (fn2 (1 : Int64) (q1 &&& (9223372036854775807 : Int64)) w_icache w_lcache) (fn1 (1 : Int32) (p0 &&& (2147483647 : Int32)) w_icache w_lcache) (fn2 (1 : Int64) (q1 &&& (9223372036854775807 : Int64)) w_icache w_lcache) w_icache w_lcache)), .unset]) rfl k) ?_
          refine Gl.by (g' := (mkF m 195 #[.val (.int p0), .val (.long q1), .second, .val (.int p2), .val (.long q3), .second, .val (.int p4), .val (.int (fn1 (1 : Int32) (p0 &&& (2147483647 : Int32)) w_icache w_lcache)), .val (.long (fn2 (1 : Int64) (q1 &&& (9223372036854775807 : Int64)) w_icache w_lcache)), .second, .val (.int (fj0_0 p0 q1 p2 q3 p4 w_icache w_lcache)), .val (.long (fj0_1 p0 q1 p2 q3 p4 w_icache w_lcache)), .second, .val (.ref b5), .val (.ref b8), .val (.int (((p4.toUInt32 >>> ((2 : Int32) &&& 31).toUInt32).toInt32) &&& (3 : Int32))), .val (.ref b8), .val (.int (fj0_2 p0 q1 p2 q3 p4 w_icache w_lcache)), .val (.int (fn6m (fn1 (1 : Int32) (p0 &&& (2147483647 : Int32)) w_icache w_lcache) (fn2 (1 : Int64) (q1 &&& (9223372036854775807 : Int64)) w_icache w_lcache) (fj0_0 p0 q1 p2 q3 p4 w_icache w_lcache) (fj0_1 p0 q1 p2 q3 p4 w_icache w_lcache) w_icache w_lcache)), .val (.int (fn6m (fn1 (1 : Int32) (p0 &&& (2147483647 : Int32)) w_icache w_lcache) (fn2 (1 : Int64) (q1 &&& (9223372036854775807 : Int64)) w_icache w_lcache) (fn1 (1 : Int32) (p0 &&& (2147483647 : Int32)) w_icache w_lcache) (fn2 (1 : Int64) (q1 &&& (9223372036854775807 : Int64)) w_icache w_lcache) w_icache w_lcache)), .unset] [(.int (((p4.toUInt32 >>> ((2 : Int32) &&& 31).toUInt32).toInt32) &&& (3 : Int32)))])) (fun _ k => XS.iload X22.here hx rfl (hb hby at_193) rfl k) ?_
          have J23 : ∀ (T' : State) (lc : List Loc) (X' : Stand p l e room_1 s m #[(.int p0), (.long q1), (.int p2), (.long q3), (.int p4)] below meth c T' lc 2 4) (eT : T'.heap = T12.heap) (N' : Fr n0 lc) (zj23_0 : Int32) (hz23_0 : zj23_0 = (fj0_3 p0 q1 p2 q3 p4 w_icache w_lcache)), Gl p e below (Pos 16 128 (Q0 Z p0 q1 p2 q3 p4 w_icache w_lcache h0 n0) s) T' (mkF m 215 #[.val (.int p0), .val (.long q1), .second, .val (.int p2), .val (.long q3), .second, .val (.int p4), .val (.int (fn1 (1 : Int32) (p0 &&& (2147483647 : Int32)) w_icache w_lcache)), .val (.long (fn2 (1 : Int64) (q1 &&& (9223372036854775807 : Int64)) w_icache w_lcache)), .second, .val (.int (fj0_0 p0 q1 p2 q3 p4 w_icache w_lcache)), .val (.long (fj0_1 p0 q1 p2 q3 p4 w_icache w_lcache)), .second, .val (.ref b5), .val (.ref b8), .val (.int (((p4.toUInt32 >>> ((2 : Int32) &&& 31).toUInt32).toInt32) &&& (3 : Int32))), .val (.ref b8), .val (.int (fj0_2 p0 q1 p2 q3 p4 w_icache w_lcache)), .val (.int (fn6m (fn1 (1 : Int32) (p0 &&& (2147483647 : Int32)) w_icache w_lcache) (fn2 (1 : Int64) (q1 &&& (9223372036854775807 : Int64)) w_icache w_lcache) (fj0_0 p0 q1 p2 q3 p4 w_icache w_lcache) (fj0_1 p0 q1 p2 q3 p4 w_icache w_lcache) w_icache w_lcache)), .val (.int (fn6m (fn1 (1 : Int32) (p0 &&& (2147483647 : Int32)) w_icache w_lcache) (fn2 (1 : Int64) (q1 &&& (9223372036854775807 : Int64)) w_icache w_lcache) (fn1 (1 : Int32) (p0 &&& (2147483647 : Int32)) w_icache w_lcache) (fn2 (1 : Int64) (q1 &&& (9223372036854775807 : Int64)) w_icache w_lcache) w_icache w_lcache)), .unset] [(.int zj23_0)]) := by
            intro T' lc X' eT N' zj23_0 hz23_0
            subst hz23_0
            refine Gl.by (g' := (mkF m 217 #[.val (.int p0), .val (.long q1), .second, .val (.int p2), .val (.long q3), .second, .val (.int p4), .val (.int (fn1 (1 : Int32) (p0 &&& (2147483647 : Int32)) w_icache w_lcache)), .val (.long (fn2 (1 : Int64) (q1 &&& (9223372036854775807 : Int64)) w_icache w_lcache)), .second, .val (.int (fj0_0 p0 q1 p2 q3 p4 w_icache w_lcache)), .val (.long (fj0_1 p0 q1 p2 q3 p4 w_icache w_lcache)), .second, .val (.ref b5), .val (.ref b8), .val (.int (((p4.toUInt32 >>> ((2 : Int32) &&& 31).toUInt32).toInt32) &&& (3 : Int32))), .val (.ref b8), .val (.int (fj0_2 p0 q1 p2 q3 p4 w_icache w_lcache)), .val (.int (fn6m (fn1 (1 : Int32) (p0 &&& (2147483647 : Int32)) w_icache w_lcache) (fn2 (1 : Int64) (q1 &&& (9223372036854775807 : Int64)) w_icache w_lcache) (fj0_0 p0 q1 p2 q3 p4 w_icache w_lcache) (fj0_1 p0 q1 p2 q3 p4 w_icache w_lcache) w_icache w_lcache)), .val (.int (fn6m (fn1 (1 : Int32) (p0 &&& (2147483647 : Int32)) w_icache w_lcache) (fn2 (1 : Int64) (q1 &&& (9223372036854775807 : Int64)) w_icache w_lcache) (fn1 (1 : Int32) (p0 &&& (2147483647 : Int32)) w_icache w_lcache) (fn2 (1 : Int64) (q1 &&& (9223372036854775807 : Int64)) w_icache w_lcache) w_icache w_lcache)), .val (.int (fj0_3 p0 q1 p2 q3 p4 w_icache w_lcache))] [])) (fun _ k => XS.istore X'.here hx rfl (hb hby at_215) rfl (l' := #[.val (.int p0), .val (.long q1), .second, .val (.int p2), .val (.long q3), .second, .val (.int p4), .val (.int (fn1 (1 : Int32) (p0 &&& (2147483647 : Int32)) w_icache w_lcache)), .val (.long (fn2 (1 : Int64) (q1 &&& (9223372036854775807 : Int64)) w_icache w_lcache)), .second, .val (.int (fj0_0 p0 q1 p2 q3 p4 w_icache w_lcache)), .val (.long (fj0_1 p0 q1 p2 q3 p4 w_icache w_lcache)), .second, .val (.ref b5), .val (.ref b8), .val (.int (((p4.toUInt32 >>> ((2 : Int32) &&& 31).toUInt32).toInt32) &&& (3 : Int32))), .val (.ref b8), .val (.int (fj0_2 p0 q1 p2 q3 p4 w_icache w_lcache)), .val (.int (fn6m (fn1 (1 : Int32) (p0 &&& (2147483647 : Int32)) w_icache w_lcache) (fn2 (1 : Int64) (q1 &&& (9223372036854775807 : Int64)) w_icache w_lcache) (fj0_0 p0 q1 p2 q3 p4 w_icache w_lcache) (fj0_1 p0 q1 p2 q3 p4 w_icache w_lcache) w_icache w_lcache)), .val (.int (fn6m (fn1 (1 : Int32) (p0 &&& (2147483647 : Int32)) w_icache w_lcache) (fn2 (1 : Int64) (q1 &&& (9223372036854775807 : Int64)) w_icache w_lcache) (fn1 (1 : Int32) (p0 &&& (2147483647 : Int32)) w_icache w_lcache) (fn2 (1 : Int64) (q1 &&& (9223372036854775807 : Int64)) w_icache w_lcache) w_icache w_lcache)), .val (.int (fj0_3 p0 q1 p2 q3 p4 w_icache w_lcache))]) rfl k) ?_
            refine Gl.by (g' := (mkF m 219 #[.val (.int p0), .val (.long q1), .second, .val (.int p2), .val (.long q3), .second, .val (.int p4), .val (.int (fn1 (1 : Int32) (p0 &&& (2147483647 : Int32)) w_icache w_lcache)), .val (.long (fn2 (1 : Int64) (q1 &&& (9223372036854775807 : Int64)) w_icache w_lcache)), .second, .val (.int (fj0_0 p0 q1 p2 q3 p4 w_icache w_lcache)), .val (.long (fj0_1 p0 q1 p2 q3 p4 w_icache w_lcache)), .second, .val (.ref b5), .val (.ref b8), .val (.int (((p4.toUInt32 >>> ((2 : Int32) &&& 31).toUInt32).toInt32) &&& (3 : Int32))), .val (.ref b8), .val (.int (fj0_2 p0 q1 p2 q3 p4 w_icache w_lcache)), .val (.int (fn6m (fn1 (1 : Int32) (p0 &&& (2147483647 : Int32)) w_icache w_lcache) (fn2 (1 : Int64) (q1 &&& (9223372036854775807 : Int64)) w_icache w_lcache) (fj0_0 p0 q1 p2 q3 p4 w_icache w_lcache) (fj0_1 p0 q1 p2 q3 p4 w_icache w_lcache) w_icache w_lcache)), .val (.int (fn6m (fn1 (1 : Int32) (p0 &&& (2147483647 : Int32)) w_icache w_lcache) (fn2 (1 : Int64) (q1 &&& (9223372036854775807 : Int64)) w_icache w_lcache) (fn1 (1 : Int32) (p0 &&& (2147483647 : Int32)) w_icache w_lcache) (fn2 (1 : Int64) (q1 &&& (9223372036854775807 : Int64)) w_icache w_lcache) w_icache w_lcache)), .val (.int (fj0_3 p0 q1 p2 q3 p4 w_icache w_lcache))] [(.int (fn6m (fn1 (1 : Int32) (p0 &&& (2147483647 : Int32)) w_icache w_lcache) (fn2 (1 : Int64) (q1 &&& (9223372036854775807 : Int64)) w_icache w_lcache) (fj0_0 p0 q1 p2 q3 p4 w_icache w_lcache) (fj0_1 p0 q1 p2 q3 p4 w_icache w_lcache) w_icache w_lcache))])) (fun _ k => XS.iload X'.here hx rfl (hb hby at_217) rfl k) ?_
            refine Gl.by (g' := (mkF m 221 #[.val (.int p0), .val (.long q1), .second, .val (.int p2), .val (.long q3), .second, .val (.int p4), .val (.int (fn1 (1 : Int32) (p0 &&& (2147483647 : Int32)) w_icache w_lcache)), .val (.long (fn2 (1 : Int64) (q1 &&& (9223372036854775807 : Int64)) w_icache w_lcache)), .second, .val (.int (fj0_0 p0 q1 p2 q3 p4 w_icache w_lcache)), .val (.long (fj0_1 p0 q1 p2 q3 p4 w_icache w_lcache)), .second, .val (.ref b5), .val (.ref b8), .val (.int (((p4.toUInt32 >>> ((2 : Int32) &&& 31).toUInt32).toInt32) &&& (3 : Int32))), .val (.ref b8), .val (.int (fj0_2 p0 q1 p2 q3 p4 w_icache w_lcache)), .val (.int (fn6m (fn1 (1 : Int32) (p0 &&& (2147483647 : Int32)) w_icache w_lcache) (fn2 (1 : Int64) (q1 &&& (9223372036854775807 : Int64)) w_icache w_lcache) (fj0_0 p0 q1 p2 q3 p4 w_icache w_lcache) (fj0_1 p0 q1 p2 q3 p4 w_icache w_lcache) w_icache w_lcache)), .val (.int (fn6m (fn1 (1 : Int32) (p0 &&& (2147483647 : Int32)) w_icache w_lcache) (fn2 (1 : Int64) (q1 &&& (9223372036854775807 : Int64)) w_icache w_lcache) (fn1 (1 : Int32) (p0 &&& (2147483647 : Int32)) w_icache w_lcache) (fn2 (1 : Int64) (q1 &&& (9223372036854775807 : Int64)) w_icache w_lcache) w_icache w_lcache)), .val (.int (fj0_3 p0 q1 p2 q3 p4 w_icache w_lcache))] [(.int (fj0_2 p0 q1 p2 q3 p4 w_icache w_lcache)), (.int (fn6m (fn1 (1 : Int32) (p0 &&& (2147483647 : Int32)) w_icache w_lcache) (fn2 (1 : Int64) (q1 &&& (9223372036854775807 : Int64)) w_icache w_lcache) (fj0_0 p0 q1 p2 q3 p4 w_icache w_lcache) (fj0_1 p0 q1 p2 q3 p4 w_icache w_lcache) w_icache w_lcache))])) (fun _ k => XS.iload X'.here hx rfl (hb hby at_219) rfl k) ?_
            have J24 : ∀ (T' : State) (lc : List Loc) (X' : Stand p l e room_1 s m #[(.int p0), (.long q1), (.int p2), (.long q3), (.int p4)] below meth c T' lc 2 4) (eT : T'.heap = T12.heap) (N' : Fr n0 lc) (zj24_0 : Int32) (hz24_0 : zj24_0 = (fj0_4 p0 q1 p2 q3 p4 w_icache w_lcache)), Gl p e below (Pos 16 128 (Q0 Z p0 q1 p2 q3 p4 w_icache w_lcache h0 n0) s) T' (mkF m 239 #[.val (.int p0), .val (.long q1), .second, .val (.int p2), .val (.long q3), .second, .val (.int p4), .val (.int (fn1 (1 : Int32) (p0 &&& (2147483647 : Int32)) w_icache w_lcache)), .val (.long (fn2 (1 : Int64) (q1 &&& (9223372036854775807 : Int64)) w_icache w_lcache)), .second, .val (.int (fj0_0 p0 q1 p2 q3 p4 w_icache w_lcache)), .val (.long (fj0_1 p0 q1 p2 q3 p4 w_icache w_lcache)), .second, .val (.ref b5), .val (.ref b8), .val (.int (((p4.toUInt32 >>> ((2 : Int32) &&& 31).toUInt32).toInt32) &&& (3 : Int32))), .val (.ref b8), .val (.int (fj0_2 p0 q1 p2 q3 p4 w_icache w_lcache)), .val (.int (fn6m (fn1 (1 : Int32) (p0 &&& (2147483647 : Int32)) w_icache w_lcache) (fn2 (1 : Int64) (q1 &&& (9223372036854775807 : Int64)) w_icache w_lcache) (fj0_0 p0 q1 p2 q3 p4 w_icache w_lcache) (fj0_1 p0 q1 p2 q3 p4 w_icache w_lcache) w_icache w_lcache)), .val (.int (fn6m (fn1 (1 : Int32) (p0 &&& (2147483647 : Int32)) w_icache w_lcache) (fn2 (1 : Int64) (q1 &&& (9223372036854775807 : Int64)) w_icache w_lcache) (fn1 (1 : Int32) (p0 &&& (2147483647 : Int32)) w_icache w_lcache) (fn2 (1 : Int64) (q1 &&& (9223372036854775807 : Int64)) w_icache w_lcache) w_icache w_lcache)), .val (.int (fj0_3 p0 q1 p2 q3 p4 w_icache w_lcache))] [(.int zj24_0)]) := by
              intro T' lc X' eT N' zj24_0 hz24_0
              subst hz24_0
              exact Gl.outN X' hx hk (t := .boolean) Bd.returns (by simp) (hb hby at_239) ⟨(congrArg (fun z => some (Value.int z)) (show nar .boolean (fj0_4 p0 q1 p2 q3 p4 w_icache w_lcache) = fn0 p0 q1 p2 q3 p4 w_icache w_lcache by unfold fn0; rw [if_pos hc14]; try rfl)), N'⟩ (by decide) (by decide)
            by_cases hc25 : (fn6m (fn1 (1 : Int32) (p0 &&& (2147483647 : Int32)) w_icache w_lcache) (fn2 (1 : Int64) (q1 &&& (9223372036854775807 : Int64)) w_icache w_lcache) (fj0_0 p0 q1 p2 q3 p4 w_icache w_lcache) (fj0_1 p0 q1 p2 q3 p4 w_icache w_lcache) w_icache w_lcache) = (fj0_2 p0 q1 p2 q3 p4 w_icache w_lcache)
            · refine Gl.by (g' := (mkF m 224 #[.val (.int p0), .val (.long q1), .second, .val (.int p2), .val (.long q3), .second, .val (.int p4), .val (.int (fn1 (1 : Int32) (p0 &&& (2147483647 : Int32)) w_icache w_lcache)), .val (.long (fn2 (1 : Int64) (q1 &&& (9223372036854775807 : Int64)) w_icache w_lcache)), .second, .val (.int (fj0_0 p0 q1 p2 q3 p4 w_icache w_lcache)), .val (.long (fj0_1 p0 q1 p2 q3 p4 w_icache w_lcache)), .second, .val (.ref b5), .val (.ref b8), .val (.int (((p4.toUInt32 >>> ((2 : Int32) &&& 31).toUInt32).toInt32) &&& (3 : Int32))), .val (.ref b8), .val (.int (fj0_2 p0 q1 p2 q3 p4 w_icache w_lcache)), .val (.int (fn6m (fn1 (1 : Int32) (p0 &&& (2147483647 : Int32)) w_icache w_lcache) (fn2 (1 : Int64) (q1 &&& (9223372036854775807 : Int64)) w_icache w_lcache) (fj0_0 p0 q1 p2 q3 p4 w_icache w_lcache) (fj0_1 p0 q1 p2 q3 p4 w_icache w_lcache) w_icache w_lcache)), .val (.int (fn6m (fn1 (1 : Int32) (p0 &&& (2147483647 : Int32)) w_icache w_lcache) (fn2 (1 : Int64) (q1 &&& (9223372036854775807 : Int64)) w_icache w_lcache) (fn1 (1 : Int32) (p0 &&& (2147483647 : Int32)) w_icache w_lcache) (fn2 (1 : Int64) (q1 &&& (9223372036854775807 : Int64)) w_icache w_lcache) w_icache w_lcache)), .val (.int (fj0_3 p0 q1 p2 q3 p4 w_icache w_lcache))] [])) (fun _ k => XS.icmpNo X'.here hx rfl (hb hby at_221) rfl (teq hc25).2 k) ?_
              refine Gl.by (g' := (mkF m 226 #[.val (.int p0), .val (.long q1), .second, .val (.int p2), .val (.long q3), .second, .val (.int p4), .val (.int (fn1 (1 : Int32) (p0 &&& (2147483647 : Int32)) w_icache w_lcache)), .val (.long (fn2 (1 : Int64) (q1 &&& (9223372036854775807 : Int64)) w_icache w_lcache)), .second, .val (.int (fj0_0 p0 q1 p2 q3 p4 w_icache w_lcache)), .val (.long (fj0_1 p0 q1 p2 q3 p4 w_icache w_lcache)), .second, .val (.ref b5), .val (.ref b8), .val (.int (((p4.toUInt32 >>> ((2 : Int32) &&& 31).toUInt32).toInt32) &&& (3 : Int32))), .val (.ref b8), .val (.int (fj0_2 p0 q1 p2 q3 p4 w_icache w_lcache)), .val (.int (fn6m (fn1 (1 : Int32) (p0 &&& (2147483647 : Int32)) w_icache w_lcache) (fn2 (1 : Int64) (q1 &&& (9223372036854775807 : Int64)) w_icache w_lcache) (fj0_0 p0 q1 p2 q3 p4 w_icache w_lcache) (fj0_1 p0 q1 p2 q3 p4 w_icache w_lcache) w_icache w_lcache)), .val (.int (fn6m (fn1 (1 : Int32) (p0 &&& (2147483647 : Int32)) w_icache w_lcache) (fn2 (1 : Int64) (q1 &&& (9223372036854775807 : Int64)) w_icache w_lcache) (fn1 (1 : Int32) (p0 &&& (2147483647 : Int32)) w_icache w_lcache) (fn2 (1 : Int64) (q1 &&& (9223372036854775807 : Int64)) w_icache w_lcache) w_icache w_lcache)), .val (.int (fj0_3 p0 q1 p2 q3 p4 w_icache w_lcache))] [(.int (fn6m (fn1 (1 : Int32) (p0 &&& (2147483647 : Int32)) w_icache w_lcache) (fn2 (1 : Int64) (q1 &&& (9223372036854775807 : Int64)) w_icache w_lcache) (fn1 (1 : Int32) (p0 &&& (2147483647 : Int32)) w_icache w_lcache) (fn2 (1 : Int64) (q1 &&& (9223372036854775807 : Int64)) w_icache w_lcache) w_icache w_lcache))])) (fun _ k => XS.iload X'.here hx rfl (hb hby at_224) rfl k) ?_
              by_cases hc26 : (fn6m (fn1 (1 : Int32) (p0 &&& (2147483647 : Int32)) w_icache w_lcache) (fn2 (1 : Int64) (q1 &&& (9223372036854775807 : Int64)) w_icache w_lcache) (fn1 (1 : Int32) (p0 &&& (2147483647 : Int32)) w_icache w_lcache) (fn2 (1 : Int64) (q1 &&& (9223372036854775807 : Int64)) w_icache w_lcache) w_icache w_lcache) = (0 : Int32)
              · refine Gl.by (g' := (mkF m 238 #[.val (.int p0), .val (.long q1), .second, .val (.int p2), .val (.long q3), .second, .val (.int p4), .val (.int (fn1 (1 : Int32) (p0 &&& (2147483647 : Int32)) w_icache w_lcache)), .val (.long (fn2 (1 : Int64) (q1 &&& (9223372036854775807 : Int64)) w_icache w_lcache)), .second, .val (.int (fj0_0 p0 q1 p2 q3 p4 w_icache w_lcache)), .val (.long (fj0_1 p0 q1 p2 q3 p4 w_icache w_lcache)), .second, .val (.ref b5), .val (.ref b8), .val (.int (((p4.toUInt32 >>> ((2 : Int32) &&& 31).toUInt32).toInt32) &&& (3 : Int32))), .val (.ref b8), .val (.int (fj0_2 p0 q1 p2 q3 p4 w_icache w_lcache)), .val (.int (fn6m (fn1 (1 : Int32) (p0 &&& (2147483647 : Int32)) w_icache w_lcache) (fn2 (1 : Int64) (q1 &&& (9223372036854775807 : Int64)) w_icache w_lcache) (fj0_0 p0 q1 p2 q3 p4 w_icache w_lcache) (fj0_1 p0 q1 p2 q3 p4 w_icache w_lcache) w_icache w_lcache)), .val (.int (fn6m (fn1 (1 : Int32) (p0 &&& (2147483647 : Int32)) w_icache w_lcache) (fn2 (1 : Int64) (q1 &&& (9223372036854775807 : Int64)) w_icache w_lcache) (fn1 (1 : Int32) (p0 &&& (2147483647 : Int32)) w_icache w_lcache) (fn2 (1 : Int64) (q1 &&& (9223372036854775807 : Int64)) w_icache w_lcache) w_icache w_lcache)), .val (.int (fj0_3 p0 q1 p2 q3 p4 w_icache w_lcache))] [])) (fun _ k => XS.ifYes X'.here hx rfl (pc0 := 226) (pc' := 238) rfl (hb hby at_226) rfl ((if0 _ _).trans (teq hc26).1) (by decide) (by decide) k) ?_
                refine Gl.by (g' := (mkF m 239 #[.val (.int p0), .val (.long q1), .second, .val (.int p2), .val (.long q3), .second, .val (.int p4), .val (.int (fn1 (1 : Int32) (p0 &&& (2147483647 : Int32)) w_icache w_lcache)), .val (.long (fn2 (1 : Int64) (q1 &&& (9223372036854775807 : Int64)) w_icache w_lcache)), .second, .val (.int (fj0_0 p0 q1 p2 q3 p4 w_icache w_lcache)), .val (.long (fj0_1 p0 q1 p2 q3 p4 w_icache w_lcache)), .second, .val (.ref b5), .val (.ref b8), .val (.int (((p4.toUInt32 >>> ((2 : Int32) &&& 31).toUInt32).toInt32) &&& (3 : Int32))), .val (.ref b8), .val (.int (fj0_2 p0 q1 p2 q3 p4 w_icache w_lcache)), .val (.int (fn6m (fn1 (1 : Int32) (p0 &&& (2147483647 : Int32)) w_icache w_lcache) (fn2 (1 : Int64) (q1 &&& (9223372036854775807 : Int64)) w_icache w_lcache) (fj0_0 p0 q1 p2 q3 p4 w_icache w_lcache) (fj0_1 p0 q1 p2 q3 p4 w_icache w_lcache) w_icache w_lcache)), .val (.int (fn6m (fn1 (1 : Int32) (p0 &&& (2147483647 : Int32)) w_icache w_lcache) (fn2 (1 : Int64) (q1 &&& (9223372036854775807 : Int64)) w_icache w_lcache) (fn1 (1 : Int32) (p0 &&& (2147483647 : Int32)) w_icache w_lcache) (fn2 (1 : Int64) (q1 &&& (9223372036854775807 : Int64)) w_icache w_lcache) w_icache w_lcache)), .val (.int (fj0_3 p0 q1 p2 q3 p4 w_icache w_lcache))] [(.int (0 : Int32))])) (fun _ k => XS.iconst X'.here hx rfl (hb hby at_238) k) ?_
                exact J24 _ _ X' eT N' (0 : Int32) (show (0 : Int32) = (fj0_4 p0 q1 p2 q3 p4 w_icache w_lcache) by unfold fj0_4; rw [if_pos hc25, if_pos hc26]; try rfl)
              · refine Gl.by (g' := (mkF m 229 #[.val (.int p0), .val (.long q1), .second, .val (.int p2), .val (.long q3), .second, .val (.int p4), .val (.int (fn1 (1 : Int32) (p0 &&& (2147483647 : Int32)) w_icache w_lcache)), .val (.long (fn2 (1 : Int64) (q1 &&& (9223372036854775807 : Int64)) w_icache w_lcache)), .second, .val (.int (fj0_0 p0 q1 p2 q3 p4 w_icache w_lcache)), .val (.long (fj0_1 p0 q1 p2 q3 p4 w_icache w_lcache)), .second, .val (.ref b5), .val (.ref b8), .val (.int (((p4.toUInt32 >>> ((2 : Int32) &&& 31).toUInt32).toInt32) &&& (3 : Int32))), .val (.ref b8), .val (.int (fj0_2 p0 q1 p2 q3 p4 w_icache w_lcache)), .val (.int (fn6m (fn1 (1 : Int32) (p0 &&& (2147483647 : Int32)) w_icache w_lcache) (fn2 (1 : Int64) (q1 &&& (9223372036854775807 : Int64)) w_icache w_lcache) (fj0_0 p0 q1 p2 q3 p4 w_icache w_lcache) (fj0_1 p0 q1 p2 q3 p4 w_icache w_lcache) w_icache w_lcache)), .val (.int (fn6m (fn1 (1 : Int32) (p0 &&& (2147483647 : Int32)) w_icache w_lcache) (fn2 (1 : Int64) (q1 &&& (9223372036854775807 : Int64)) w_icache w_lcache) (fn1 (1 : Int32) (p0 &&& (2147483647 : Int32)) w_icache w_lcache) (fn2 (1 : Int64) (q1 &&& (9223372036854775807 : Int64)) w_icache w_lcache) w_icache w_lcache)), .val (.int (fj0_3 p0 q1 p2 q3 p4 w_icache w_lcache))] [])) (fun _ k => XS.ifNo X'.here hx rfl (hb hby at_226) rfl ((if0 _ _).trans (feq hc26).1) k) ?_
                refine Gl.by (g' := (mkF m 231 #[.val (.int p0), .val (.long q1), .second, .val (.int p2), .val (.long q3), .second, .val (.int p4), .val (.int (fn1 (1 : Int32) (p0 &&& (2147483647 : Int32)) w_icache w_lcache)), .val (.long (fn2 (1 : Int64) (q1 &&& (9223372036854775807 : Int64)) w_icache w_lcache)), .second, .val (.int (fj0_0 p0 q1 p2 q3 p4 w_icache w_lcache)), .val (.long (fj0_1 p0 q1 p2 q3 p4 w_icache w_lcache)), .second, .val (.ref b5), .val (.ref b8), .val (.int (((p4.toUInt32 >>> ((2 : Int32) &&& 31).toUInt32).toInt32) &&& (3 : Int32))), .val (.ref b8), .val (.int (fj0_2 p0 q1 p2 q3 p4 w_icache w_lcache)), .val (.int (fn6m (fn1 (1 : Int32) (p0 &&& (2147483647 : Int32)) w_icache w_lcache) (fn2 (1 : Int64) (q1 &&& (9223372036854775807 : Int64)) w_icache w_lcache) (fj0_0 p0 q1 p2 q3 p4 w_icache w_lcache) (fj0_1 p0 q1 p2 q3 p4 w_icache w_lcache) w_icache w_lcache)), .val (.int (fn6m (fn1 (1 : Int32) (p0 &&& (2147483647 : Int32)) w_icache w_lcache) (fn2 (1 : Int64) (q1 &&& (9223372036854775807 : Int64)) w_icache w_lcache) (fn1 (1 : Int32) (p0 &&& (2147483647 : Int32)) w_icache w_lcache) (fn2 (1 : Int64) (q1 &&& (9223372036854775807 : Int64)) w_icache w_lcache) w_icache w_lcache)), .val (.int (fj0_3 p0 q1 p2 q3 p4 w_icache w_lcache))] [(.int (fj0_3 p0 q1 p2 q3 p4 w_icache w_lcache))])) (fun _ k => XS.iload X'.here hx rfl (hb hby at_229) rfl k) ?_
                by_cases hc27 : (fj0_3 p0 q1 p2 q3 p4 w_icache w_lcache) = (0 : Int32)
                · refine Gl.by (g' := (mkF m 238 #[.val (.int p0), .val (.long q1), .second, .val (.int p2), .val (.long q3), .second, .val (.int p4), .val (.int (fn1 (1 : Int32) (p0 &&& (2147483647 : Int32)) w_icache w_lcache)), .val (.long (fn2 (1 : Int64) (q1 &&& (9223372036854775807 : Int64)) w_icache w_lcache)), .second, .val (.int (fj0_0 p0 q1 p2 q3 p4 w_icache w_lcache)), .val (.long (fj0_1 p0 q1 p2 q3 p4 w_icache w_lcache)), .second, .val (.ref b5), .val (.ref b8), .val (.int (((p4.toUInt32 >>> ((2 : Int32) &&& 31).toUInt32).toInt32) &&& (3 : Int32))), .val (.ref b8), .val (.int (fj0_2 p0 q1 p2 q3 p4 w_icache w_lcache)), .val (.int (fn6m (fn1 (1 : Int32) (p0 &&& (2147483647 : Int32)) w_icache w_lcache) (fn2 (1 : Int64) (q1 &&& (9223372036854775807 : Int64)) w_icache w_lcache) (fj0_0 p0 q1 p2 q3 p4 w_icache w_lcache) (fj0_1 p0 q1 p2 q3 p4 w_icache w_lcache) w_icache w_lcache)), .val (.int (fn6m (fn1 (1 : Int32) (p0 &&& (2147483647 : Int32)) w_icache w_lcache) (fn2 (1 : Int64) (q1 &&& (9223372036854775807 : Int64)) w_icache w_lcache) (fn1 (1 : Int32) (p0 &&& (2147483647 : Int32)) w_icache w_lcache) (fn2 (1 : Int64) (q1 &&& (9223372036854775807 : Int64)) w_icache w_lcache) w_icache w_lcache)), .val (.int (fj0_3 p0 q1 p2 q3 p4 w_icache w_lcache))] [])) (fun _ k => XS.ifYes X'.here hx rfl (pc0 := 231) (pc' := 238) rfl (hb hby at_231) rfl ((if0 _ _).trans (teq hc27).1) (by decide) (by decide) k) ?_
                  refine Gl.by (g' := (mkF m 239 #[.val (.int p0), .val (.long q1), .second, .val (.int p2), .val (.long q3), .second, .val (.int p4), .val (.int (fn1 (1 : Int32) (p0 &&& (2147483647 : Int32)) w_icache w_lcache)), .val (.long (fn2 (1 : Int64) (q1 &&& (9223372036854775807 : Int64)) w_icache w_lcache)), .second, .val (.int (fj0_0 p0 q1 p2 q3 p4 w_icache w_lcache)), .val (.long (fj0_1 p0 q1 p2 q3 p4 w_icache w_lcache)), .second, .val (.ref b5), .val (.ref b8), .val (.int (((p4.toUInt32 >>> ((2 : Int32) &&& 31).toUInt32).toInt32) &&& (3 : Int32))), .val (.ref b8), .val (.int (fj0_2 p0 q1 p2 q3 p4 w_icache w_lcache)), .val (.int (fn6m (fn1 (1 : Int32) (p0 &&& (2147483647 : Int32)) w_icache w_lcache) (fn2 (1 : Int64) (q1 &&& (9223372036854775807 : Int64)) w_icache w_lcache) (fj0_0 p0 q1 p2 q3 p4 w_icache w_lcache) (fj0_1 p0 q1 p2 q3 p4 w_icache w_lcache) w_icache w_lcache)), .val (.int (fn6m (fn1 (1 : Int32) (p0 &&& (2147483647 : Int32)) w_icache w_lcache) (fn2 (1 : Int64) (q1 &&& (9223372036854775807 : Int64)) w_icache w_lcache) (fn1 (1 : Int32) (p0 &&& (2147483647 : Int32)) w_icache w_lcache) (fn2 (1 : Int64) (q1 &&& (9223372036854775807 : Int64)) w_icache w_lcache) w_icache w_lcache)), .val (.int (fj0_3 p0 q1 p2 q3 p4 w_icache w_lcache))] [(.int (0 : Int32))])) (fun _ k => XS.iconst X'.here hx rfl (hb hby at_238) k) ?_
                  exact J24 _ _ X' eT N' (0 : Int32) (show (0 : Int32) = (fj0_4 p0 q1 p2 q3 p4 w_icache w_lcache) by unfold fj0_4; rw [if_pos hc25, if_neg hc26, if_pos hc27]; try rfl)
                · refine Gl.by (g' := (mkF m 234 #[.val (.int p0), .val (.long q1), .second, .val (.int p2), .val (.long q3), .second, .val (.int p4), .val (.int (fn1 (1 : Int32) (p0 &&& (2147483647 : Int32)) w_icache w_lcache)), .val (.long (fn2 (1 : Int64) (q1 &&& (9223372036854775807 : Int64)) w_icache w_lcache)), .second, .val (.int (fj0_0 p0 q1 p2 q3 p4 w_icache w_lcache)), .val (.long (fj0_1 p0 q1 p2 q3 p4 w_icache w_lcache)), .second, .val (.ref b5), .val (.ref b8), .val (.int (((p4.toUInt32 >>> ((2 : Int32) &&& 31).toUInt32).toInt32) &&& (3 : Int32))), .val (.ref b8), .val (.int (fj0_2 p0 q1 p2 q3 p4 w_icache w_lcache)), .val (.int (fn6m (fn1 (1 : Int32) (p0 &&& (2147483647 : Int32)) w_icache w_lcache) (fn2 (1 : Int64) (q1 &&& (9223372036854775807 : Int64)) w_icache w_lcache) (fj0_0 p0 q1 p2 q3 p4 w_icache w_lcache) (fj0_1 p0 q1 p2 q3 p4 w_icache w_lcache) w_icache w_lcache)), .val (.int (fn6m (fn1 (1 : Int32) (p0 &&& (2147483647 : Int32)) w_icache w_lcache) (fn2 (1 : Int64) (q1 &&& (9223372036854775807 : Int64)) w_icache w_lcache) (fn1 (1 : Int32) (p0 &&& (2147483647 : Int32)) w_icache w_lcache) (fn2 (1 : Int64) (q1 &&& (9223372036854775807 : Int64)) w_icache w_lcache) w_icache w_lcache)), .val (.int (fj0_3 p0 q1 p2 q3 p4 w_icache w_lcache))] [])) (fun _ k => XS.ifNo X'.here hx rfl (hb hby at_231) rfl ((if0 _ _).trans (feq hc27).1) k) ?_
                  refine Gl.by (g' := (mkF m 235 #[.val (.int p0), .val (.long q1), .second, .val (.int p2), .val (.long q3), .second, .val (.int p4), .val (.int (fn1 (1 : Int32) (p0 &&& (2147483647 : Int32)) w_icache w_lcache)), .val (.long (fn2 (1 : Int64) (q1 &&& (9223372036854775807 : Int64)) w_icache w_lcache)), .second, .val (.int (fj0_0 p0 q1 p2 q3 p4 w_icache w_lcache)), .val (.long (fj0_1 p0 q1 p2 q3 p4 w_icache w_lcache)), .second, .val (.ref b5), .val (.ref b8), .val (.int (((p4.toUInt32 >>> ((2 : Int32) &&& 31).toUInt32).toInt32) &&& (3 : Int32))), .val (.ref b8), .val (.int (fj0_2 p0 q1 p2 q3 p4 w_icache w_lcache)), .val (.int (fn6m (fn1 (1 : Int32) (p0 &&& (2147483647 : Int32)) w_icache w_lcache) (fn2 (1 : Int64) (q1 &&& (9223372036854775807 : Int64)) w_icache w_lcache) (fj0_0 p0 q1 p2 q3 p4 w_icache w_lcache) (fj0_1 p0 q1 p2 q3 p4 w_icache w_lcache) w_icache w_lcache)), .val (.int (fn6m (fn1 (1 : Int32) (p0 &&& (2147483647 : Int32)) w_icache w_lcache) (fn2 (1 : Int64) (q1 &&& (9223372036854775807 : Int64)) w_icache w_lcache) (fn1 (1 : Int32) (p0 &&& (2147483647 : Int32)) w_icache w_lcache) (fn2 (1 : Int64) (q1 &&& (9223372036854775807 : Int64)) w_icache w_lcache) w_icache w_lcache)), .val (.int (fj0_3 p0 q1 p2 q3 p4 w_icache w_lcache))] [(.int (1 : Int32))])) (fun _ k => XS.iconst X'.here hx rfl (hb hby at_234) k) ?_
                  refine Gl.by (g' := (mkF m 239 #[.val (.int p0), .val (.long q1), .second, .val (.int p2), .val (.long q3), .second, .val (.int p4), .val (.int (fn1 (1 : Int32) (p0 &&& (2147483647 : Int32)) w_icache w_lcache)), .val (.long (fn2 (1 : Int64) (q1 &&& (9223372036854775807 : Int64)) w_icache w_lcache)), .second, .val (.int (fj0_0 p0 q1 p2 q3 p4 w_icache w_lcache)), .val (.long (fj0_1 p0 q1 p2 q3 p4 w_icache w_lcache)), .second, .val (.ref b5), .val (.ref b8), .val (.int (((p4.toUInt32 >>> ((2 : Int32) &&& 31).toUInt32).toInt32) &&& (3 : Int32))), .val (.ref b8), .val (.int (fj0_2 p0 q1 p2 q3 p4 w_icache w_lcache)), .val (.int (fn6m (fn1 (1 : Int32) (p0 &&& (2147483647 : Int32)) w_icache w_lcache) (fn2 (1 : Int64) (q1 &&& (9223372036854775807 : Int64)) w_icache w_lcache) (fj0_0 p0 q1 p2 q3 p4 w_icache w_lcache) (fj0_1 p0 q1 p2 q3 p4 w_icache w_lcache) w_icache w_lcache)), .val (.int (fn6m (fn1 (1 : Int32) (p0 &&& (2147483647 : Int32)) w_icache w_lcache) (fn2 (1 : Int64) (q1 &&& (9223372036854775807 : Int64)) w_icache w_lcache) (fn1 (1 : Int32) (p0 &&& (2147483647 : Int32)) w_icache w_lcache) (fn2 (1 : Int64) (q1 &&& (9223372036854775807 : Int64)) w_icache w_lcache) w_icache w_lcache)), .val (.int (fj0_3 p0 q1 p2 q3 p4 w_icache w_lcache))] [(.int (1 : Int32))])) (fun _ k => XS.goto X'.here hx rfl (pc0 := 235) (pc' := 239) rfl (hb hby at_235) (by decide) (by decide) k) ?_
                  exact J24 _ _ X' eT N' (1 : Int32) (show (1 : Int32) = (fj0_4 p0 q1 p2 q3 p4 w_icache w_lcache) by unfold fj0_4; rw [if_pos hc25, if_neg hc26, if_neg hc27]; try rfl)
            · refine Gl.by (g' := (mkF m 238 #[.val (.int p0), .val (.long q1), .second, .val (.int p2), .val (.long q3), .second, .val (.int p4), .val (.int (fn1 (1 : Int32) (p0 &&& (2147483647 : Int32)) w_icache w_lcache)), .val (.long (fn2 (1 : Int64) (q1 &&& (9223372036854775807 : Int64)) w_icache w_lcache)), .second, .val (.int (fj0_0 p0 q1 p2 q3 p4 w_icache w_lcache)), .val (.long (fj0_1 p0 q1 p2 q3 p4 w_icache w_lcache)), .second, .val (.ref b5), .val (.ref b8), .val (.int (((p4.toUInt32 >>> ((2 : Int32) &&& 31).toUInt32).toInt32) &&& (3 : Int32))), .val (.ref b8), .val (.int (fj0_2 p0 q1 p2 q3 p4 w_icache w_lcache)), .val (.int (fn6m (fn1 (1 : Int32) (p0 &&& (2147483647 : Int32)) w_icache w_lcache) (fn2 (1 : Int64) (q1 &&& (9223372036854775807 : Int64)) w_icache w_lcache) (fj0_0 p0 q1 p2 q3 p4 w_icache w_lcache) (fj0_1 p0 q1 p2 q3 p4 w_icache w_lcache) w_icache w_lcache)), .val (.int (fn6m (fn1 (1 : Int32) (p0 &&& (2147483647 : Int32)) w_icache w_lcache) (fn2 (1 : Int64) (q1 &&& (9223372036854775807 : Int64)) w_icache w_lcache) (fn1 (1 : Int32) (p0 &&& (2147483647 : Int32)) w_icache w_lcache) (fn2 (1 : Int64) (q1 &&& (9223372036854775807 : Int64)) w_icache w_lcache) w_icache w_lcache)), .val (.int (fj0_3 p0 q1 p2 q3 p4 w_icache w_lcache))] [])) (fun _ k => XS.icmpYes X'.here hx rfl (pc0 := 221) (pc' := 238) rfl (hb hby at_221) rfl (feq hc25).2 (by decide) (by decide) k) ?_
              refine Gl.by (g' := (mkF m 239 #[.val (.int p0), .val (.long q1), .second, .val (.int p2), .val (.long q3), .second, .val (.int p4), .val (.int (fn1 (1 : Int32) (p0 &&& (2147483647 : Int32)) w_icache w_lcache)), .val (.long (fn2 (1 : Int64) (q1 &&& (9223372036854775807 : Int64)) w_icache w_lcache)), .second, .val (.int (fj0_0 p0 q1 p2 q3 p4 w_icache w_lcache)), .val (.long (fj0_1 p0 q1 p2 q3 p4 w_icache w_lcache)), .second, .val (.ref b5), .val (.ref b8), .val (.int (((p4.toUInt32 >>> ((2 : Int32) &&& 31).toUInt32).toInt32) &&& (3 : Int32))), .val (.ref b8), .val (.int (fj0_2 p0 q1 p2 q3 p4 w_icache w_lcache)), .val (.int (fn6m (fn1 (1 : Int32) (p0 &&& (2147483647 : Int32)) w_icache w_lcache) (fn2 (1 : Int64) (q1 &&& (9223372036854775807 : Int64)) w_icache w_lcache) (fj0_0 p0 q1 p2 q3 p4 w_icache w_lcache) (fj0_1 p0 q1 p2 q3 p4 w_icache w_lcache) w_icache w_lcache)), .val (.int (fn6m (fn1 (1 : Int32) (p0 &&& (2147483647 : Int32)) w_icache w_lcache) (fn2 (1 : Int64) (q1 &&& (9223372036854775807 : Int64)) w_icache w_lcache) (fn1 (1 : Int32) (p0 &&& (2147483647 : Int32)) w_icache w_lcache) (fn2 (1 : Int64) (q1 &&& (9223372036854775807 : Int64)) w_icache w_lcache) w_icache w_lcache)), .val (.int (fj0_3 p0 q1 p2 q3 p4 w_icache w_lcache))] [(.int (0 : Int32))])) (fun _ k => XS.iconst X'.here hx rfl (hb hby at_238) k) ?_
              exact J24 _ _ X' eT N' (0 : Int32) (show (0 : Int32) = (fj0_4 p0 q1 p2 q3 p4 w_icache w_lcache) by unfold fj0_4; rw [if_neg hc25]; try rfl)
          refine Gl.by (g' := (mkF m 198 #[.val (.int p0), .val (.long q1), .second, .val (.int p2), .val (.long q3), .second, .val (.int p4), .val (.int (fn1 (1 : Int32) (p0 &&& (2147483647 : Int32)) w_icache w_lcache)), .val (.long (fn2 (1 : Int64) (q1 &&& (9223372036854775807 : Int64)) w_icache w_lcache)), .second, .val (.int (fj0_0 p0 q1 p2 q3 p4 w_icache w_lcache)), .val (.long (fj0_1 p0 q1 p2 q3 p4 w_icache w_lcache)), .second, .val (.ref b5), .val (.ref b8), .val (.int (((p4.toUInt32 >>> ((2 : Int32) &&& 31).toUInt32).toInt32) &&& (3 : Int32))), .val (.ref b8), .val (.int (fj0_2 p0 q1 p2 q3 p4 w_icache w_lcache)), .val (.int (fn6m (fn1 (1 : Int32) (p0 &&& (2147483647 : Int32)) w_icache w_lcache) (fn2 (1 : Int64) (q1 &&& (9223372036854775807 : Int64)) w_icache w_lcache) (fj0_0 p0 q1 p2 q3 p4 w_icache w_lcache) (fj0_1 p0 q1 p2 q3 p4 w_icache w_lcache) w_icache w_lcache)), .val (.int (fn6m (fn1 (1 : Int32) (p0 &&& (2147483647 : Int32)) w_icache w_lcache) (fn2 (1 : Int64) (q1 &&& (9223372036854775807 : Int64)) w_icache w_lcache) (fn1 (1 : Int32) (p0 &&& (2147483647 : Int32)) w_icache w_lcache) (fn2 (1 : Int64) (q1 &&& (9223372036854775807 : Int64)) w_icache w_lcache) w_icache w_lcache)), .unset] [])) (fun _ k => XS.ifNo X22.here hx rfl (hb hby at_195) rfl ((if0 _ _).trans (teq hc14).2) k) ?_
          refine Gl.by (g' := (mkF m 200 #[.val (.int p0), .val (.long q1), .second, .val (.int p2), .val (.long q3), .second, .val (.int p4), .val (.int (fn1 (1 : Int32) (p0 &&& (2147483647 : Int32)) w_icache w_lcache)), .val (.long (fn2 (1 : Int64) (q1 &&& (9223372036854775807 : Int64)) w_icache w_lcache)), .second, .val (.int (fj0_0 p0 q1 p2 q3 p4 w_icache w_lcache)), .val (.long (fj0_1 p0 q1 p2 q3 p4 w_icache w_lcache)), .second, .val (.ref b5), .val (.ref b8), .val (.int (((p4.toUInt32 >>> ((2 : Int32) &&& 31).toUInt32).toInt32) &&& (3 : Int32))), .val (.ref b8), .val (.int (fj0_2 p0 q1 p2 q3 p4 w_icache w_lcache)), .val (.int (fn6m (fn1 (1 : Int32) (p0 &&& (2147483647 : Int32)) w_icache w_lcache) (fn2 (1 : Int64) (q1 &&& (9223372036854775807 : Int64)) w_icache w_lcache) (fj0_0 p0 q1 p2 q3 p4 w_icache w_lcache) (fj0_1 p0 q1 p2 q3 p4 w_icache w_lcache) w_icache w_lcache)), .val (.int (fn6m (fn1 (1 : Int32) (p0 &&& (2147483647 : Int32)) w_icache w_lcache) (fn2 (1 : Int64) (q1 &&& (9223372036854775807 : Int64)) w_icache w_lcache) (fn1 (1 : Int32) (p0 &&& (2147483647 : Int32)) w_icache w_lcache) (fn2 (1 : Int64) (q1 &&& (9223372036854775807 : Int64)) w_icache w_lcache) w_icache w_lcache)), .unset] [(.ref b8)])) (fun _ k => XS.aload X22.here hx rfl (hb hby at_198) rfl rfl k) ?_
          refine Gl.by (g' := (mkF m 202 #[.val (.int p0), .val (.long q1), .second, .val (.int p2), .val (.long q3), .second, .val (.int p4), .val (.int (fn1 (1 : Int32) (p0 &&& (2147483647 : Int32)) w_icache w_lcache)), .val (.long (fn2 (1 : Int64) (q1 &&& (9223372036854775807 : Int64)) w_icache w_lcache)), .second, .val (.int (fj0_0 p0 q1 p2 q3 p4 w_icache w_lcache)), .val (.long (fj0_1 p0 q1 p2 q3 p4 w_icache w_lcache)), .second, .val (.ref b5), .val (.ref b8), .val (.int (((p4.toUInt32 >>> ((2 : Int32) &&& 31).toUInt32).toInt32) &&& (3 : Int32))), .val (.ref b8), .val (.int (fj0_2 p0 q1 p2 q3 p4 w_icache w_lcache)), .val (.int (fn6m (fn1 (1 : Int32) (p0 &&& (2147483647 : Int32)) w_icache w_lcache) (fn2 (1 : Int64) (q1 &&& (9223372036854775807 : Int64)) w_icache w_lcache) (fj0_0 p0 q1 p2 q3 p4 w_icache w_lcache) (fj0_1 p0 q1 p2 q3 p4 w_icache w_lcache) w_icache w_lcache)), .val (.int (fn6m (fn1 (1 : Int32) (p0 &&& (2147483647 : Int32)) w_icache w_lcache) (fn2 (1 : Int64) (q1 &&& (9223372036854775807 : Int64)) w_icache w_lcache) (fn1 (1 : Int32) (p0 &&& (2147483647 : Int32)) w_icache w_lcache) (fn2 (1 : Int64) (q1 &&& (9223372036854775807 : Int64)) w_icache w_lcache) w_icache w_lcache)), .unset] [(.ref b5), (.ref b8)])) (fun _ k => XS.aload X22.here hx rfl (hb hby at_200) rfl rfl k) ?_
          obtain ⟨cq28, kq28, q28a, q28b, q28c⟩ := isOf hZ e22 f20
          obtain ⟨_, _, ⟨T28, L28, k28, n28⟩, -, X28, ⟨Lc28, hQ28, l28, y28, z28⟩, st28⟩ := X22.virtualBack hx (y := (⟨"com/example/libelect/libelect/Leadership", "equals", "(Ljava/lang/Object;)Z"⟩ : MethodName)) (z := (⟨"com/example/libelect/libelect/Leadership", "equals", "(Ljava/lang/Object;)Z"⟩ : MethodName)) hown (mvT hZ (hw _ (List.mem_of_getElem? (i := 26) rfl))) (mvT hZ (hw _ (List.mem_of_getElem? (i := 27) rfl))) (notFace_of_selects (args := #[]) (mvT hZ (hw _ (List.mem_of_getElem? (i := 29) rfl)))) (mvT hZ (hw _ (List.mem_of_getElem? (i := 29) rfl))) (mvT hZ (hw _ (List.mem_of_getElem? (i := 28) rfl))) (by decide) (backOf (W := 0) (rm6m l Z a0' hw [] b8 b5 (fj0_0 p0 q1 p2 q3 p4 w_icache w_lcache) (fj0_1 p0 q1 p2 q3 p4 w_icache w_lcache) (fn1 (1 : Int32) (p0 &&& (2147483647 : Int32)) w_icache w_lcache) (fn2 (1 : Int64) (q1 &&& (9223372036854775807 : Int64)) w_icache w_lcache) w_icache w_lcache T12.heap n0 O21 W f20 fc12_0 fc12_1 f17 f18 f19) hZ (hw _ (List.mem_of_getElem? (i := 30) rfl)) (hw _ (List.mem_of_getElem? (i := 11) rfl)) (by decide) (by decide)) q28a q28c (g := (mkF m 202 #[.val (.int p0), .val (.long q1), .second, .val (.int p2), .val (.long q3), .second, .val (.int p4), .val (.int (fn1 (1 : Int32) (p0 &&& (2147483647 : Int32)) w_icache w_lcache)), .val (.long (fn2 (1 : Int64) (q1 &&& (9223372036854775807 : Int64)) w_icache w_lcache)), .second, .val (.int (fj0_0 p0 q1 p2 q3 p4 w_icache w_lcache)), .val (.long (fj0_1 p0 q1 p2 q3 p4 w_icache w_lcache)), .second, .val (.ref b5), .val (.ref b8), .val (.int (((p4.toUInt32 >>> ((2 : Int32) &&& 31).toUInt32).toInt32) &&& (3 : Int32))), .val (.ref b8), .val (.int (fj0_2 p0 q1 p2 q3 p4 w_icache w_lcache)), .val (.int (fn6m (fn1 (1 : Int32) (p0 &&& (2147483647 : Int32)) w_icache w_lcache) (fn2 (1 : Int64) (q1 &&& (9223372036854775807 : Int64)) w_icache w_lcache) (fj0_0 p0 q1 p2 q3 p4 w_icache w_lcache) (fj0_1 p0 q1 p2 q3 p4 w_icache w_lcache) w_icache w_lcache)), .val (.int (fn6m (fn1 (1 : Int32) (p0 &&& (2147483647 : Int32)) w_icache w_lcache) (fn2 (1 : Int64) (q1 &&& (9223372036854775807 : Int64)) w_icache w_lcache) (fn1 (1 : Int32) (p0 &&& (2147483647 : Int32)) w_icache w_lcache) (fn2 (1 : Int64) (q1 &&& (9223372036854775807 : Int64)) w_icache w_lcache) w_icache w_lcache)), .unset] [(.ref b5), (.ref b8)])) rfl (by rw [hml]; rfl) (Steps.refl _) (argsL := [(.ref b5)]) (rest := []) (lenOf pd122 rfl) rfl (by show 2 * 0 + _ ≤ _; exact Nat.le_of_eq rfl) (hb hby at_202) (fun _ _ => ⟨rfl, e22, (by decide : 2 + 0 ≤ _), (by decide : 4 + 0 ≤ _)⟩)
          dsimp only [Pt.U, Pt.locs, Pt.cells, Pt.slots] at X28 l28 y28 z28 st28 hQ28
          subst l28 y28 z28
          obtain ⟨rfl, N28q, e28⟩ := hQ28
          have N28 := Fr.app N22 N28q
          refine Gl.by (g' := (mkF m 205 #[.val (.int p0), .val (.long q1), .second, .val (.int p2), .val (.long q3), .second, .val (.int p4), .val (.int (fn1 (1 : Int32) (p0 &&& (2147483647 : Int32)) w_icache w_lcache)), .val (.long (fn2 (1 : Int64) (q1 &&& (9223372036854775807 : Int64)) w_icache w_lcache)), .second, .val (.int (fj0_0 p0 q1 p2 q3 p4 w_icache w_lcache)), .val (.long (fj0_1 p0 q1 p2 q3 p4 w_icache w_lcache)), .second, .val (.ref b5), .val (.ref b8), .val (.int (((p4.toUInt32 >>> ((2 : Int32) &&& 31).toUInt32).toInt32) &&& (3 : Int32))), .val (.ref b8), .val (.int (fj0_2 p0 q1 p2 q3 p4 w_icache w_lcache)), .val (.int (fn6m (fn1 (1 : Int32) (p0 &&& (2147483647 : Int32)) w_icache w_lcache) (fn2 (1 : Int64) (q1 &&& (9223372036854775807 : Int64)) w_icache w_lcache) (fj0_0 p0 q1 p2 q3 p4 w_icache w_lcache) (fj0_1 p0 q1 p2 q3 p4 w_icache w_lcache) w_icache w_lcache)), .val (.int (fn6m (fn1 (1 : Int32) (p0 &&& (2147483647 : Int32)) w_icache w_lcache) (fn2 (1 : Int64) (q1 &&& (9223372036854775807 : Int64)) w_icache w_lcache) (fn1 (1 : Int32) (p0 &&& (2147483647 : Int32)) w_icache w_lcache) (fn2 (1 : Int64) (q1 &&& (9223372036854775807 : Int64)) w_icache w_lcache) w_icache w_lcache)), .unset] [(.int (fn6m (fj0_0 p0 q1 p2 q3 p4 w_icache w_lcache) (fj0_1 p0 q1 p2 q3 p4 w_icache w_lcache) (fn1 (1 : Int32) (p0 &&& (2147483647 : Int32)) w_icache w_lcache) (fn2 (1 : Int64) (q1 &&& (9223372036854775807 : Int64)) w_icache w_lcache) w_icache w_lcache))])) (fun _ k => st28.trans k) ?_
          refine Gl.by (g' := (mkF m 207 #[.val (.int p0), .val (.long q1), .second, .val (.int p2), .val (.long q3), .second, .val (.int p4), .val (.int (fn1 (1 : Int32) (p0 &&& (2147483647 : Int32)) w_icache w_lcache)), .val (.long (fn2 (1 : Int64) (q1 &&& (9223372036854775807 : Int64)) w_icache w_lcache)), .second, .val (.int (fj0_0 p0 q1 p2 q3 p4 w_icache w_lcache)), .val (.long (fj0_1 p0 q1 p2 q3 p4 w_icache w_lcache)), .second, .val (.ref b5), .val (.ref b8), .val (.int (((p4.toUInt32 >>> ((2 : Int32) &&& 31).toUInt32).toInt32) &&& (3 : Int32))), .val (.ref b8), .val (.int (fj0_2 p0 q1 p2 q3 p4 w_icache w_lcache)), .val (.int (fn6m (fn1 (1 : Int32) (p0 &&& (2147483647 : Int32)) w_icache w_lcache) (fn2 (1 : Int64) (q1 &&& (9223372036854775807 : Int64)) w_icache w_lcache) (fj0_0 p0 q1 p2 q3 p4 w_icache w_lcache) (fj0_1 p0 q1 p2 q3 p4 w_icache w_lcache) w_icache w_lcache)), .val (.int (fn6m (fn1 (1 : Int32) (p0 &&& (2147483647 : Int32)) w_icache w_lcache) (fn2 (1 : Int64) (q1 &&& (9223372036854775807 : Int64)) w_icache w_lcache) (fn1 (1 : Int32) (p0 &&& (2147483647 : Int32)) w_icache w_lcache) (fn2 (1 : Int64) (q1 &&& (9223372036854775807 : Int64)) w_icache w_lcache) w_icache w_lcache)), .unset] [(.int (fn6m (fn1 (1 : Int32) (p0 &&& (2147483647 : Int32)) w_icache w_lcache) (fn2 (1 : Int64) (q1 &&& (9223372036854775807 : Int64)) w_icache w_lcache) (fj0_0 p0 q1 p2 q3 p4 w_icache w_lcache) (fj0_1 p0 q1 p2 q3 p4 w_icache w_lcache) w_icache w_lcache)), (.int (fn6m (fj0_0 p0 q1 p2 q3 p4 w_icache w_lcache) (fj0_1 p0 q1 p2 q3 p4 w_icache w_lcache) (fn1 (1 : Int32) (p0 &&& (2147483647 : Int32)) w_icache w_lcache) (fn2 (1 : Int64) (q1 &&& (9223372036854775807 : Int64)) w_icache w_lcache) w_icache w_lcache))])) (fun _ k => XS.iload X28.here hx rfl (hb hby at_205) rfl k) ?_
          by_cases hc29 : (fn6m (fj0_0 p0 q1 p2 q3 p4 w_icache w_lcache) (fj0_1 p0 q1 p2 q3 p4 w_icache w_lcache) (fn1 (1 : Int32) (p0 &&& (2147483647 : Int32)) w_icache w_lcache) (fn2 (1 : Int64) (q1 &&& (9223372036854775807 : Int64)) w_icache w_lcache) w_icache w_lcache) = (fn6m (fn1 (1 : Int32) (p0 &&& (2147483647 : Int32)) w_icache w_lcache) (fn2 (1 : Int64) (q1 &&& (9223372036854775807 : Int64)) w_icache w_lcache) (fj0_0 p0 q1 p2 q3 p4 w_icache w_lcache) (fj0_1 p0 q1 p2 q3 p4 w_icache w_lcache) w_icache w_lcache)
          · refine Gl.by (g' := (mkF m 210 #[.val (.int p0), .val (.long q1), .second, .val (.int p2), .val (.long q3), .second, .val (.int p4), .val (.int (fn1 (1 : Int32) (p0 &&& (2147483647 : Int32)) w_icache w_lcache)), .val (.long (fn2 (1 : Int64) (q1 &&& (9223372036854775807 : Int64)) w_icache w_lcache)), .second, .val (.int (fj0_0 p0 q1 p2 q3 p4 w_icache w_lcache)), .val (.long (fj0_1 p0 q1 p2 q3 p4 w_icache w_lcache)), .second, .val (.ref b5), .val (.ref b8), .val (.int (((p4.toUInt32 >>> ((2 : Int32) &&& 31).toUInt32).toInt32) &&& (3 : Int32))), .val (.ref b8), .val (.int (fj0_2 p0 q1 p2 q3 p4 w_icache w_lcache)), .val (.int (fn6m (fn1 (1 : Int32) (p0 &&& (2147483647 : Int32)) w_icache w_lcache) (fn2 (1 : Int64) (q1 &&& (9223372036854775807 : Int64)) w_icache w_lcache) (fj0_0 p0 q1 p2 q3 p4 w_icache w_lcache) (fj0_1 p0 q1 p2 q3 p4 w_icache w_lcache) w_icache w_lcache)), .val (.int (fn6m (fn1 (1 : Int32) (p0 &&& (2147483647 : Int32)) w_icache w_lcache) (fn2 (1 : Int64) (q1 &&& (9223372036854775807 : Int64)) w_icache w_lcache) (fn1 (1 : Int32) (p0 &&& (2147483647 : Int32)) w_icache w_lcache) (fn2 (1 : Int64) (q1 &&& (9223372036854775807 : Int64)) w_icache w_lcache) w_icache w_lcache)), .unset] [])) (fun _ k => XS.icmpNo X28.here hx rfl (hb hby at_207) rfl (teq hc29).2 k) ?_
            refine Gl.by (g' := (mkF m 211 #[.val (.int p0), .val (.long q1), .second, .val (.int p2), .val (.long q3), .second, .val (.int p4), .val (.int (fn1 (1 : Int32) (p0 &&& (2147483647 : Int32)) w_icache w_lcache)), .val (.long (fn2 (1 : Int64) (q1 &&& (9223372036854775807 : Int64)) w_icache w_lcache)), .second, .val (.int (fj0_0 p0 q1 p2 q3 p4 w_icache w_lcache)), .val (.long (fj0_1 p0 q1 p2 q3 p4 w_icache w_lcache)), .second, .val (.ref b5), .val (.ref b8), .val (.int (((p4.toUInt32 >>> ((2 : Int32) &&& 31).toUInt32).toInt32) &&& (3 : Int32))), .val (.ref b8), .val (.int (fj0_2 p0 q1 p2 q3 p4 w_icache w_lcache)), .val (.int (fn6m (fn1 (1 : Int32) (p0 &&& (2147483647 : Int32)) w_icache w_lcache) (fn2 (1 : Int64) (q1 &&& (9223372036854775807 : Int64)) w_icache w_lcache) (fj0_0 p0 q1 p2 q3 p4 w_icache w_lcache) (fj0_1 p0 q1 p2 q3 p4 w_icache w_lcache) w_icache w_lcache)), .val (.int (fn6m (fn1 (1 : Int32) (p0 &&& (2147483647 : Int32)) w_icache w_lcache) (fn2 (1 : Int64) (q1 &&& (9223372036854775807 : Int64)) w_icache w_lcache) (fn1 (1 : Int32) (p0 &&& (2147483647 : Int32)) w_icache w_lcache) (fn2 (1 : Int64) (q1 &&& (9223372036854775807 : Int64)) w_icache w_lcache) w_icache w_lcache)), .unset] [(.int (1 : Int32))])) (fun _ k => XS.iconst X28.here hx rfl (hb hby at_210) k) ?_
            refine Gl.by (g' := (mkF m 215 #[.val (.int p0), .val (.long q1), .second, .val (.int p2), .val (.long q3), .second, .val (.int p4), .val (.int (fn1 (1 : Int32) (p0 &&& (2147483647 : Int32)) w_icache w_lcache)), .val (.long (fn2 (1 : Int64) (q1 &&& (9223372036854775807 : Int64)) w_icache w_lcache)), .second, .val (.int (fj0_0 p0 q1 p2 q3 p4 w_icache w_lcache)), .val (.long (fj0_1 p0 q1 p2 q3 p4 w_icache w_lcache)), .second, .val (.ref b5), .val (.ref b8), .val (.int (((p4.toUInt32 >>> ((2 : Int32) &&& 31).toUInt32).toInt32) &&& (3 : Int32))), .val (.ref b8), .val (.int (fj0_2 p0 q1 p2 q3 p4 w_icache w_lcache)), .val (.int (fn6m (fn1 (1 : Int32) (p0 &&& (2147483647 : Int32)) w_icache w_lcache) (fn2 (1 : Int64) (q1 &&& (9223372036854775807 : Int64)) w_icache w_lcache) (fj0_0 p0 q1 p2 q3 p4 w_icache w_lcache) (fj0_1 p0 q1 p2 q3 p4 w_icache w_lcache) w_icache w_lcache)), .val (.int (fn6m (fn1 (1 : Int32) (p0 &&& (2147483647 : Int32)) w_icache w_lcache) (fn2 (1 : Int64) (q1 &&& (9223372036854775807 : Int64)) w_icache w_lcache) (fn1 (1 : Int32) (p0 &&& (2147483647 : Int32)) w_icache w_lcache) (fn2 (1 : Int64) (q1 &&& (9223372036854775807 : Int64)) w_icache w_lcache) w_icache w_lcache)), .unset] [(.int (1 : Int32))])) (fun _ k => XS.goto X28.here hx rfl (pc0 := 211) (pc' := 215) rfl (hb hby at_211) (by decide) (by decide) k) ?_
            exact J23 _ _ X28 e28 N28 (1 : Int32) (show (1 : Int32) = (fj0_3 p0 q1 p2 q3 p4 w_icache w_lcache) by unfold fj0_3; rw [if_pos hc29]; try rfl)
          · refine Gl.by (g' := (mkF m 214 #[.val (.int p0), .val (.long q1), .second, .val (.int p2), .val (.long q3), .second, .val (.int p4), .val (.int (fn1 (1 : Int32) (p0 &&& (2147483647 : Int32)) w_icache w_lcache)), .val (.long (fn2 (1 : Int64) (q1 &&& (9223372036854775807 : Int64)) w_icache w_lcache)), .second, .val (.int (fj0_0 p0 q1 p2 q3 p4 w_icache w_lcache)), .val (.long (fj0_1 p0 q1 p2 q3 p4 w_icache w_lcache)), .second, .val (.ref b5), .val (.ref b8), .val (.int (((p4.toUInt32 >>> ((2 : Int32) &&& 31).toUInt32).toInt32) &&& (3 : Int32))), .val (.ref b8), .val (.int (fj0_2 p0 q1 p2 q3 p4 w_icache w_lcache)), .val (.int (fn6m (fn1 (1 : Int32) (p0 &&& (2147483647 : Int32)) w_icache w_lcache) (fn2 (1 : Int64) (q1 &&& (9223372036854775807 : Int64)) w_icache w_lcache) (fj0_0 p0 q1 p2 q3 p4 w_icache w_lcache) (fj0_1 p0 q1 p2 q3 p4 w_icache w_lcache) w_icache w_lcache)), .val (.int (fn6m (fn1 (1 : Int32) (p0 &&& (2147483647 : Int32)) w_icache w_lcache) (fn2 (1 : Int64) (q1 &&& (9223372036854775807 : Int64)) w_icache w_lcache) (fn1 (1 : Int32) (p0 &&& (2147483647 : Int32)) w_icache w_lcache) (fn2 (1 : Int64) (q1 &&& (9223372036854775807 : Int64)) w_icache w_lcache) w_icache w_lcache)), .unset] [])) (fun _ k => XS.icmpYes X28.here hx rfl (pc0 := 207) (pc' := 214) rfl (hb hby at_207) rfl (feq hc29).2 (by decide) (by decide) k) ?_
            refine Gl.by (g' := (mkF m 215 #[.val (.int p0), .val (.long q1), .second, .val (.int p2), .val (.long q3), .second, .val (.int p4), .val (.int (fn1 (1 : Int32) (p0 &&& (2147483647 : Int32)) w_icache w_lcache)), .val (.long (fn2 (1 : Int64) (q1 &&& (9223372036854775807 : Int64)) w_icache w_lcache)), .second, .val (.int (fj0_0 p0 q1 p2 q3 p4 w_icache w_lcache)), .val (.long (fj0_1 p0 q1 p2 q3 p4 w_icache w_lcache)), .second, .val (.ref b5), .val (.ref b8), .val (.int (((p4.toUInt32 >>> ((2 : Int32) &&& 31).toUInt32).toInt32) &&& (3 : Int32))), .val (.ref b8), .val (.int (fj0_2 p0 q1 p2 q3 p4 w_icache w_lcache)), .val (.int (fn6m (fn1 (1 : Int32) (p0 &&& (2147483647 : Int32)) w_icache w_lcache) (fn2 (1 : Int64) (q1 &&& (9223372036854775807 : Int64)) w_icache w_lcache) (fj0_0 p0 q1 p2 q3 p4 w_icache w_lcache) (fj0_1 p0 q1 p2 q3 p4 w_icache w_lcache) w_icache w_lcache)), .val (.int (fn6m (fn1 (1 : Int32) (p0 &&& (2147483647 : Int32)) w_icache w_lcache) (fn2 (1 : Int64) (q1 &&& (9223372036854775807 : Int64)) w_icache w_lcache) (fn1 (1 : Int32) (p0 &&& (2147483647 : Int32)) w_icache w_lcache) (fn2 (1 : Int64) (q1 &&& (9223372036854775807 : Int64)) w_icache w_lcache) w_icache w_lcache)), .unset] [(.int (0 : Int32))])) (fun _ k => XS.iconst X28.here hx rfl (hb hby at_214) k) ?_
            exact J23 _ _ X28 e28 N28 (0 : Int32) (show (0 : Int32) = (fj0_3 p0 q1 p2 q3 p4 w_icache w_lcache) by unfold fj0_3; rw [if_neg hc29]; try rfl)
        refine Gl.by (g' := (mkF m 153 #[.val (.int p0), .val (.long q1), .second, .val (.int p2), .val (.long q3), .second, .val (.int p4), .val (.int (fn1 (1 : Int32) (p0 &&& (2147483647 : Int32)) w_icache w_lcache)), .val (.long (fn2 (1 : Int64) (q1 &&& (9223372036854775807 : Int64)) w_icache w_lcache)), .second, .val (.int (fj0_0 p0 q1 p2 q3 p4 w_icache w_lcache)), .val (.long (fj0_1 p0 q1 p2 q3 p4 w_icache w_lcache)), .second, .val (.ref b5), .val (.ref b8), .val (.int (((p4.toUInt32 >>> ((2 : Int32) &&& 31).toUInt32).toInt32) &&& (3 : Int32))), .val (.ref b8), .unset, .unset, .unset, .unset] [])) (fun _ k => XS.ifNo X12.here hx rfl (hb hby at_150) rfl ((if0 _ _).trans (teq hc14).2) k) ?_
        refine Gl.by (g' := (mkF m 155 #[.val (.int p0), .val (.long q1), .second, .val (.int p2), .val (.long q3), .second, .val (.int p4), .val (.int (fn1 (1 : Int32) (p0 &&& (2147483647 : Int32)) w_icache w_lcache)), .val (.long (fn2 (1 : Int64) (q1 &&& (9223372036854775807 : Int64)) w_icache w_lcache)), .second, .val (.int (fj0_0 p0 q1 p2 q3 p4 w_icache w_lcache)), .val (.long (fj0_1 p0 q1 p2 q3 p4 w_icache w_lcache)), .second, .val (.ref b5), .val (.ref b8), .val (.int (((p4.toUInt32 >>> ((2 : Int32) &&& 31).toUInt32).toInt32) &&& (3 : Int32))), .val (.ref b8), .unset, .unset, .unset, .unset] [(.int (fn1 (1 : Int32) (p0 &&& (2147483647 : Int32)) w_icache w_lcache))])) (fun _ k => XS.iload X12.here hx rfl (hb hby at_153) rfl k) ?_
        refine Gl.by (g' := (mkF m 157 #[.val (.int p0), .val (.long q1), .second, .val (.int p2), .val (.long q3), .second, .val (.int p4), .val (.int (fn1 (1 : Int32) (p0 &&& (2147483647 : Int32)) w_icache w_lcache)), .val (.long (fn2 (1 : Int64) (q1 &&& (9223372036854775807 : Int64)) w_icache w_lcache)), .second, .val (.int (fj0_0 p0 q1 p2 q3 p4 w_icache w_lcache)), .val (.long (fj0_1 p0 q1 p2 q3 p4 w_icache w_lcache)), .second, .val (.ref b5), .val (.ref b8), .val (.int (((p4.toUInt32 >>> ((2 : Int32) &&& 31).toUInt32).toInt32) &&& (3 : Int32))), .val (.ref b8), .unset, .unset, .unset, .unset] [(.int (fj0_0 p0 q1 p2 q3 p4 w_icache w_lcache)), (.int (fn1 (1 : Int32) (p0 &&& (2147483647 : Int32)) w_icache w_lcache))])) (fun _ k => XS.iload X12.here hx rfl (hb hby at_155) rfl k) ?_
        by_cases hc30 : (fn1 (1 : Int32) (p0 &&& (2147483647 : Int32)) w_icache w_lcache) = (fj0_0 p0 q1 p2 q3 p4 w_icache w_lcache)
        · refine Gl.by (g' := (mkF m 160 #[.val (.int p0), .val (.long q1), .second, .val (.int p2), .val (.long q3), .second, .val (.int p4), .val (.int (fn1 (1 : Int32) (p0 &&& (2147483647 : Int32)) w_icache w_lcache)), .val (.long (fn2 (1 : Int64) (q1 &&& (9223372036854775807 : Int64)) w_icache w_lcache)), .second, .val (.int (fj0_0 p0 q1 p2 q3 p4 w_icache w_lcache)), .val (.long (fj0_1 p0 q1 p2 q3 p4 w_icache w_lcache)), .second, .val (.ref b5), .val (.ref b8), .val (.int (((p4.toUInt32 >>> ((2 : Int32) &&& 31).toUInt32).toInt32) &&& (3 : Int32))), .val (.ref b8), .unset, .unset, .unset, .unset] [])) (fun _ k => XS.icmpNo X12.here hx rfl (hb hby at_157) rfl (teq hc30).2 k) ?_
          refine Gl.by (g' := (mkF m 162 #[.val (.int p0), .val (.long q1), .second, .val (.int p2), .val (.long q3), .second, .val (.int p4), .val (.int (fn1 (1 : Int32) (p0 &&& (2147483647 : Int32)) w_icache w_lcache)), .val (.long (fn2 (1 : Int64) (q1 &&& (9223372036854775807 : Int64)) w_icache w_lcache)), .second, .val (.int (fj0_0 p0 q1 p2 q3 p4 w_icache w_lcache)), .val (.long (fj0_1 p0 q1 p2 q3 p4 w_icache w_lcache)), .second, .val (.ref b5), .val (.ref b8), .val (.int (((p4.toUInt32 >>> ((2 : Int32) &&& 31).toUInt32).toInt32) &&& (3 : Int32))), .val (.ref b8), .unset, .unset, .unset, .unset] [(.long (fn2 (1 : Int64) (q1 &&& (9223372036854775807 : Int64)) w_icache w_lcache))])) (fun _ k => XS.lload X12.here hx rfl (hb hby at_160) rfl k) ?_
          refine Gl.by (g' := (mkF m 164 #[.val (.int p0), .val (.long q1), .second, .val (.int p2), .val (.long q3), .second, .val (.int p4), .val (.int (fn1 (1 : Int32) (p0 &&& (2147483647 : Int32)) w_icache w_lcache)), .val (.long (fn2 (1 : Int64) (q1 &&& (9223372036854775807 : Int64)) w_icache w_lcache)), .second, .val (.int (fj0_0 p0 q1 p2 q3 p4 w_icache w_lcache)), .val (.long (fj0_1 p0 q1 p2 q3 p4 w_icache w_lcache)), .second, .val (.ref b5), .val (.ref b8), .val (.int (((p4.toUInt32 >>> ((2 : Int32) &&& 31).toUInt32).toInt32) &&& (3 : Int32))), .val (.ref b8), .unset, .unset, .unset, .unset] [(.long (fj0_1 p0 q1 p2 q3 p4 w_icache w_lcache)), (.long (fn2 (1 : Int64) (q1 &&& (9223372036854775807 : Int64)) w_icache w_lcache))])) (fun _ k => XS.lload X12.here hx rfl (hb hby at_162) rfl k) ?_
          refine Gl.by (g' := (mkF m 165 #[.val (.int p0), .val (.long q1), .second, .val (.int p2), .val (.long q3), .second, .val (.int p4), .val (.int (fn1 (1 : Int32) (p0 &&& (2147483647 : Int32)) w_icache w_lcache)), .val (.long (fn2 (1 : Int64) (q1 &&& (9223372036854775807 : Int64)) w_icache w_lcache)), .second, .val (.int (fj0_0 p0 q1 p2 q3 p4 w_icache w_lcache)), .val (.long (fj0_1 p0 q1 p2 q3 p4 w_icache w_lcache)), .second, .val (.ref b5), .val (.ref b8), .val (.int (((p4.toUInt32 >>> ((2 : Int32) &&& 31).toUInt32).toInt32) &&& (3 : Int32))), .val (.ref b8), .unset, .unset, .unset, .unset] [(.int (lcmpW (fn2 (1 : Int64) (q1 &&& (9223372036854775807 : Int64)) w_icache w_lcache) (fj0_1 p0 q1 p2 q3 p4 w_icache w_lcache)))])) (fun _ k => XS.lcmp X12.here hx rfl (hb hby at_164) rfl k) ?_
          by_cases hc31 : (fn2 (1 : Int64) (q1 &&& (9223372036854775807 : Int64)) w_icache w_lcache) = (fj0_1 p0 q1 p2 q3 p4 w_icache w_lcache)
          · refine Gl.by (g' := (mkF m 168 #[.val (.int p0), .val (.long q1), .second, .val (.int p2), .val (.long q3), .second, .val (.int p4), .val (.int (fn1 (1 : Int32) (p0 &&& (2147483647 : Int32)) w_icache w_lcache)), .val (.long (fn2 (1 : Int64) (q1 &&& (9223372036854775807 : Int64)) w_icache w_lcache)), .second, .val (.int (fj0_0 p0 q1 p2 q3 p4 w_icache w_lcache)), .val (.long (fj0_1 p0 q1 p2 q3 p4 w_icache w_lcache)), .second, .val (.ref b5), .val (.ref b8), .val (.int (((p4.toUInt32 >>> ((2 : Int32) &&& 31).toUInt32).toInt32) &&& (3 : Int32))), .val (.ref b8), .unset, .unset, .unset, .unset] [])) (fun _ k => XS.ifNo X12.here hx rfl (hb hby at_165) rfl ((if0 _ _).trans (teq ((lw_eq (fn2 (1 : Int64) (q1 &&& (9223372036854775807 : Int64)) w_icache w_lcache) (fj0_1 p0 q1 p2 q3 p4 w_icache w_lcache)).mpr hc31)).2) k) ?_
            refine Gl.by (g' := (mkF m 169 #[.val (.int p0), .val (.long q1), .second, .val (.int p2), .val (.long q3), .second, .val (.int p4), .val (.int (fn1 (1 : Int32) (p0 &&& (2147483647 : Int32)) w_icache w_lcache)), .val (.long (fn2 (1 : Int64) (q1 &&& (9223372036854775807 : Int64)) w_icache w_lcache)), .second, .val (.int (fj0_0 p0 q1 p2 q3 p4 w_icache w_lcache)), .val (.long (fj0_1 p0 q1 p2 q3 p4 w_icache w_lcache)), .second, .val (.ref b5), .val (.ref b8), .val (.int (((p4.toUInt32 >>> ((2 : Int32) &&& 31).toUInt32).toInt32) &&& (3 : Int32))), .val (.ref b8), .unset, .unset, .unset, .unset] [(.int (1 : Int32))])) (fun _ k => XS.iconst X12.here hx rfl (hb hby at_168) k) ?_
            refine Gl.by (g' := (mkF m 173 #[.val (.int p0), .val (.long q1), .second, .val (.int p2), .val (.long q3), .second, .val (.int p4), .val (.int (fn1 (1 : Int32) (p0 &&& (2147483647 : Int32)) w_icache w_lcache)), .val (.long (fn2 (1 : Int64) (q1 &&& (9223372036854775807 : Int64)) w_icache w_lcache)), .second, .val (.int (fj0_0 p0 q1 p2 q3 p4 w_icache w_lcache)), .val (.long (fj0_1 p0 q1 p2 q3 p4 w_icache w_lcache)), .second, .val (.ref b5), .val (.ref b8), .val (.int (((p4.toUInt32 >>> ((2 : Int32) &&& 31).toUInt32).toInt32) &&& (3 : Int32))), .val (.ref b8), .unset, .unset, .unset, .unset] [(.int (1 : Int32))])) (fun _ k => XS.goto X12.here hx rfl (pc0 := 169) (pc' := 173) rfl (hb hby at_169) (by decide) (by decide) k) ?_
            exact J15 _ _ X12 rfl N12 (1 : Int32) (show (1 : Int32) = (fj0_2 p0 q1 p2 q3 p4 w_icache w_lcache) by unfold fj0_2; rw [if_pos hc30, if_pos hc31]; try rfl)
          · refine Gl.by (g' := (mkF m 172 #[.val (.int p0), .val (.long q1), .second, .val (.int p2), .val (.long q3), .second, .val (.int p4), .val (.int (fn1 (1 : Int32) (p0 &&& (2147483647 : Int32)) w_icache w_lcache)), .val (.long (fn2 (1 : Int64) (q1 &&& (9223372036854775807 : Int64)) w_icache w_lcache)), .second, .val (.int (fj0_0 p0 q1 p2 q3 p4 w_icache w_lcache)), .val (.long (fj0_1 p0 q1 p2 q3 p4 w_icache w_lcache)), .second, .val (.ref b5), .val (.ref b8), .val (.int (((p4.toUInt32 >>> ((2 : Int32) &&& 31).toUInt32).toInt32) &&& (3 : Int32))), .val (.ref b8), .unset, .unset, .unset, .unset] [])) (fun _ k => XS.ifYes X12.here hx rfl (pc0 := 165) (pc' := 172) rfl (hb hby at_165) rfl ((if0 _ _).trans (feq (fun q => hc31 ((lw_eq (fn2 (1 : Int64) (q1 &&& (9223372036854775807 : Int64)) w_icache w_lcache) (fj0_1 p0 q1 p2 q3 p4 w_icache w_lcache)).mp q))).2) (by decide) (by decide) k) ?_
            refine Gl.by (g' := (mkF m 173 #[.val (.int p0), .val (.long q1), .second, .val (.int p2), .val (.long q3), .second, .val (.int p4), .val (.int (fn1 (1 : Int32) (p0 &&& (2147483647 : Int32)) w_icache w_lcache)), .val (.long (fn2 (1 : Int64) (q1 &&& (9223372036854775807 : Int64)) w_icache w_lcache)), .second, .val (.int (fj0_0 p0 q1 p2 q3 p4 w_icache w_lcache)), .val (.long (fj0_1 p0 q1 p2 q3 p4 w_icache w_lcache)), .second, .val (.ref b5), .val (.ref b8), .val (.int (((p4.toUInt32 >>> ((2 : Int32) &&& 31).toUInt32).toInt32) &&& (3 : Int32))), .val (.ref b8), .unset, .unset, .unset, .unset] [(.int (0 : Int32))])) (fun _ k => XS.iconst X12.here hx rfl (hb hby at_172) k) ?_
            exact J15 _ _ X12 rfl N12 (0 : Int32) (show (0 : Int32) = (fj0_2 p0 q1 p2 q3 p4 w_icache w_lcache) by unfold fj0_2; rw [if_pos hc30, if_neg hc31]; try rfl)
        · refine Gl.by (g' := (mkF m 172 #[.val (.int p0), .val (.long q1), .second, .val (.int p2), .val (.long q3), .second, .val (.int p4), .val (.int (fn1 (1 : Int32) (p0 &&& (2147483647 : Int32)) w_icache w_lcache)), .val (.long (fn2 (1 : Int64) (q1 &&& (9223372036854775807 : Int64)) w_icache w_lcache)), .second, .val (.int (fj0_0 p0 q1 p2 q3 p4 w_icache w_lcache)), .val (.long (fj0_1 p0 q1 p2 q3 p4 w_icache w_lcache)), .second, .val (.ref b5), .val (.ref b8), .val (.int (((p4.toUInt32 >>> ((2 : Int32) &&& 31).toUInt32).toInt32) &&& (3 : Int32))), .val (.ref b8), .unset, .unset, .unset, .unset] [])) (fun _ k => XS.icmpYes X12.here hx rfl (pc0 := 157) (pc' := 172) rfl (hb hby at_157) rfl (feq hc30).2 (by decide) (by decide) k) ?_
          refine Gl.by (g' := (mkF m 173 #[.val (.int p0), .val (.long q1), .second, .val (.int p2), .val (.long q3), .second, .val (.int p4), .val (.int (fn1 (1 : Int32) (p0 &&& (2147483647 : Int32)) w_icache w_lcache)), .val (.long (fn2 (1 : Int64) (q1 &&& (9223372036854775807 : Int64)) w_icache w_lcache)), .second, .val (.int (fj0_0 p0 q1 p2 q3 p4 w_icache w_lcache)), .val (.long (fj0_1 p0 q1 p2 q3 p4 w_icache w_lcache)), .second, .val (.ref b5), .val (.ref b8), .val (.int (((p4.toUInt32 >>> ((2 : Int32) &&& 31).toUInt32).toInt32) &&& (3 : Int32))), .val (.ref b8), .unset, .unset, .unset, .unset] [(.int (0 : Int32))])) (fun _ k => XS.iconst X12.here hx rfl (hb hby at_172) k) ?_
          exact J15 _ _ X12 rfl N12 (0 : Int32) (show (0 : Int32) = (fj0_2 p0 q1 p2 q3 p4 w_icache w_lcache) by unfold fj0_2; rw [if_neg hc30]; try rfl)
      · refine Gl.by (g' := (mkF m 113 #[.val (.int p0), .val (.long q1), .second, .val (.int p2), .val (.long q3), .second, .val (.int p4), .val (.int (fn1 (1 : Int32) (p0 &&& (2147483647 : Int32)) w_icache w_lcache)), .val (.long (fn2 (1 : Int64) (q1 &&& (9223372036854775807 : Int64)) w_icache w_lcache)), .second, .val (.int (fj0_0 p0 q1 p2 q3 p4 w_icache w_lcache)), .val (.long (fj0_1 p0 q1 p2 q3 p4 w_icache w_lcache)), .second, .val (.ref b5), .val (.ref b8), .val (.int (((p4.toUInt32 >>> ((2 : Int32) &&& 31).toUInt32).toInt32) &&& (3 : Int32))), .unset, .unset, .unset, .unset, .unset] [])) (fun _ k => XS.ifYes X12.here hx rfl (pc0 := 103) (pc' := 113) rfl (hb hby at_103) rfl ((if0 _ _).trans (feq hc14).2) (by decide) (by decide) k) ?_
        refine Gl.by (g' := (mkF m 115 #[.val (.int p0), .val (.long q1), .second, .val (.int p2), .val (.long q3), .second, .val (.int p4), .val (.int (fn1 (1 : Int32) (p0 &&& (2147483647 : Int32)) w_icache w_lcache)), .val (.long (fn2 (1 : Int64) (q1 &&& (9223372036854775807 : Int64)) w_icache w_lcache)), .second, .val (.int (fj0_0 p0 q1 p2 q3 p4 w_icache w_lcache)), .val (.long (fj0_1 p0 q1 p2 q3 p4 w_icache w_lcache)), .second, .val (.ref b5), .val (.ref b8), .val (.int (((p4.toUInt32 >>> ((2 : Int32) &&& 31).toUInt32).toInt32) &&& (3 : Int32))), .unset, .unset, .unset, .unset, .unset] [(.int (((p4.toUInt32 >>> ((2 : Int32) &&& 31).toUInt32).toInt32) &&& (3 : Int32)))])) (fun _ k => XS.iload X12.here hx rfl (hb hby at_113) rfl k) ?_
        refine Gl.by (g' := (mkF m 116 #[.val (.int p0), .val (.long q1), .second, .val (.int p2), .val (.long q3), .second, .val (.int p4), .val (.int (fn1 (1 : Int32) (p0 &&& (2147483647 : Int32)) w_icache w_lcache)), .val (.long (fn2 (1 : Int64) (q1 &&& (9223372036854775807 : Int64)) w_icache w_lcache)), .second, .val (.int (fj0_0 p0 q1 p2 q3 p4 w_icache w_lcache)), .val (.long (fj0_1 p0 q1 p2 q3 p4 w_icache w_lcache)), .second, .val (.ref b5), .val (.ref b8), .val (.int (((p4.toUInt32 >>> ((2 : Int32) &&& 31).toUInt32).toInt32) &&& (3 : Int32))), .unset, .unset, .unset, .unset, .unset] [(.int (1 : Int32)), (.int (((p4.toUInt32 >>> ((2 : Int32) &&& 31).toUInt32).toInt32) &&& (3 : Int32)))])) (fun _ k => XS.iconst X12.here hx rfl (hb hby at_115) k) ?_
        by_cases hc32 : (((p4.toUInt32 >>> ((2 : Int32) &&& 31).toUInt32).toInt32) &&& (3 : Int32)) = (1 : Int32)
        · refine Gl.by (g' := (mkF m 119 #[.val (.int p0), .val (.long q1), .second, .val (.int p2), .val (.long q3), .second, .val (.int p4), .val (.int (fn1 (1 : Int32) (p0 &&& (2147483647 : Int32)) w_icache w_lcache)), .val (.long (fn2 (1 : Int64) (q1 &&& (9223372036854775807 : Int64)) w_icache w_lcache)), .second, .val (.int (fj0_0 p0 q1 p2 q3 p4 w_icache w_lcache)), .val (.long (fj0_1 p0 q1 p2 q3 p4 w_icache w_lcache)), .second, .val (.ref b5), .val (.ref b8), .val (.int (((p4.toUInt32 >>> ((2 : Int32) &&& 31).toUInt32).toInt32) &&& (3 : Int32))), .unset, .unset, .unset, .unset, .unset] [])) (fun _ k => XS.icmpNo X12.here hx rfl (hb hby at_116) rfl (teq hc32).2 k) ?_
          refine Gl.by (g' := (mkF m 120 #[.val (.int p0), .val (.long q1), .second, .val (.int p2), .val (.long q3), .second, .val (.int p4), .val (.int (fn1 (1 : Int32) (p0 &&& (2147483647 : Int32)) w_icache w_lcache)), .val (.long (fn2 (1 : Int64) (q1 &&& (9223372036854775807 : Int64)) w_icache w_lcache)), .second, .val (.int (fj0_0 p0 q1 p2 q3 p4 w_icache w_lcache)), .val (.long (fj0_1 p0 q1 p2 q3 p4 w_icache w_lcache)), .second, .val (.ref b5), .val (.ref b8), .val (.int (((p4.toUInt32 >>> ((2 : Int32) &&& 31).toUInt32).toInt32) &&& (3 : Int32))), .unset, .unset, .unset, .unset, .unset] [.null])) (fun _ k => XS.aconstNull X12.here hx rfl (hb hby at_119) k) ?_
          refine Gl.by (g' := (mkF m 122 #[.val (.int p0), .val (.long q1), .second, .val (.int p2), .val (.long q3), .second, .val (.int p4), .val (.int (fn1 (1 : Int32) (p0 &&& (2147483647 : Int32)) w_icache w_lcache)), .val (.long (fn2 (1 : Int64) (q1 &&& (9223372036854775807 : Int64)) w_icache w_lcache)), .second, .val (.int (fj0_0 p0 q1 p2 q3 p4 w_icache w_lcache)), .val (.long (fj0_1 p0 q1 p2 q3 p4 w_icache w_lcache)), .second, .val (.ref b5), .val (.ref b8), .val (.int (((p4.toUInt32 >>> ((2 : Int32) &&& 31).toUInt32).toInt32) &&& (3 : Int32))), .val .null, .unset, .unset, .unset, .unset] [])) (fun _ k => XS.astore X12.here hx rfl (hb hby at_120) rfl rfl (l' := #[.val (.int p0), .val (.long q1), .second, .val (.int p2), .val (.long q3), .second, .val (.int p4), .val (.int (fn1 (1 : Int32) (p0 &&& (2147483647 : Int32)) w_icache w_lcache)), .val (.long (fn2 (1 : Int64) (q1 &&& (9223372036854775807 : Int64)) w_icache w_lcache)), .second, .val (.int (fj0_0 p0 q1 p2 q3 p4 w_icache w_lcache)), .val (.long (fj0_1 p0 q1 p2 q3 p4 w_icache w_lcache)), .second, .val (.ref b5), .val (.ref b8), .val (.int (((p4.toUInt32 >>> ((2 : Int32) &&& 31).toUInt32).toInt32) &&& (3 : Int32))), .val .null, .unset, .unset, .unset, .unset]) rfl k) ?_
          refine Gl.by (g' := (mkF m 148 #[.val (.int p0), .val (.long q1), .second, .val (.int p2), .val (.long q3), .second, .val (.int p4), .val (.int (fn1 (1 : Int32) (p0 &&& (2147483647 : Int32)) w_icache w_lcache)), .val (.long (fn2 (1 : Int64) (q1 &&& (9223372036854775807 : Int64)) w_icache w_lcache)), .second, .val (.int (fj0_0 p0 q1 p2 q3 p4 w_icache w_lcache)), .val (.long (fj0_1 p0 q1 p2 q3 p4 w_icache w_lcache)), .second, .val (.ref b5), .val (.ref b8), .val (.int (((p4.toUInt32 >>> ((2 : Int32) &&& 31).toUInt32).toInt32) &&& (3 : Int32))), .val .null, .unset, .unset, .unset, .unset] [])) (fun _ k => XS.goto X12.here hx rfl (pc0 := 122) (pc' := 148) rfl (hb hby at_122) (by decide) (by decide) k) ?_
          refine Gl.by (g' := (mkF m 150 #[.val (.int p0), .val (.long q1), .second, .val (.int p2), .val (.long q3), .second, .val (.int p4), .val (.int (fn1 (1 : Int32) (p0 &&& (2147483647 : Int32)) w_icache w_lcache)), .val (.long (fn2 (1 : Int64) (q1 &&& (9223372036854775807 : Int64)) w_icache w_lcache)), .second, .val (.int (fj0_0 p0 q1 p2 q3 p4 w_icache w_lcache)), .val (.long (fj0_1 p0 q1 p2 q3 p4 w_icache w_lcache)), .second, .val (.ref b5), .val (.ref b8), .val (.int (((p4.toUInt32 >>> ((2 : Int32) &&& 31).toUInt32).toInt32) &&& (3 : Int32))), .val .null, .unset, .unset, .unset, .unset] [(.int (((p4.toUInt32 >>> ((2 : Int32) &&& 31).toUInt32).toInt32) &&& (3 : Int32)))])) (fun _ k => XS.iload X12.here hx rfl (hb hby at_148) rfl k) ?_
          refine Gl.by (g' := (mkF m 172 #[.val (.int p0), .val (.long q1), .second, .val (.int p2), .val (.long q3), .second, .val (.int p4), .val (.int (fn1 (1 : Int32) (p0 &&& (2147483647 : Int32)) w_icache w_lcache)), .val (.long (fn2 (1 : Int64) (q1 &&& (9223372036854775807 : Int64)) w_icache w_lcache)), .second, .val (.int (fj0_0 p0 q1 p2 q3 p4 w_icache w_lcache)), .val (.long (fj0_1 p0 q1 p2 q3 p4 w_icache w_lcache)), .second, .val (.ref b5), .val (.ref b8), .val (.int (((p4.toUInt32 >>> ((2 : Int32) &&& 31).toUInt32).toInt32) &&& (3 : Int32))), .val .null, .unset, .unset, .unset, .unset] [])) (fun _ k => XS.ifYes X12.here hx rfl (pc0 := 150) (pc' := 172) rfl (hb hby at_150) rfl ((if0 _ _).trans (feq hc14).2) (by decide) (by decide) k) ?_
          refine Gl.by (g' := (mkF m 173 #[.val (.int p0), .val (.long q1), .second, .val (.int p2), .val (.long q3), .second, .val (.int p4), .val (.int (fn1 (1 : Int32) (p0 &&& (2147483647 : Int32)) w_icache w_lcache)), .val (.long (fn2 (1 : Int64) (q1 &&& (9223372036854775807 : Int64)) w_icache w_lcache)), .second, .val (.int (fj0_0 p0 q1 p2 q3 p4 w_icache w_lcache)), .val (.long (fj0_1 p0 q1 p2 q3 p4 w_icache w_lcache)), .second, .val (.ref b5), .val (.ref b8), .val (.int (((p4.toUInt32 >>> ((2 : Int32) &&& 31).toUInt32).toInt32) &&& (3 : Int32))), .val .null, .unset, .unset, .unset, .unset] [(.int (0 : Int32))])) (fun _ k => XS.iconst X12.here hx rfl (hb hby at_172) k) ?_
          refine Gl.by (g' := (mkF m 175 #[.val (.int p0), .val (.long q1), .second, .val (.int p2), .val (.long q3), .second, .val (.int p4), .val (.int (fn1 (1 : Int32) (p0 &&& (2147483647 : Int32)) w_icache w_lcache)), .val (.long (fn2 (1 : Int64) (q1 &&& (9223372036854775807 : Int64)) w_icache w_lcache)), .second, .val (.int (fj0_0 p0 q1 p2 q3 p4 w_icache w_lcache)), .val (.long (fj0_1 p0 q1 p2 q3 p4 w_icache w_lcache)), .second, .val (.ref b5), .val (.ref b8), .val (.int (((p4.toUInt32 >>> ((2 : Int32) &&& 31).toUInt32).toInt32) &&& (3 : Int32))), .val .null, .val (.int (0 : Int32)), .unset, .unset, .unset] [])) (fun _ k => XS.istore X12.here hx rfl (hb hby at_173) rfl (l' := #[.val (.int p0), .val (.long q1), .second, .val (.int p2), .val (.long q3), .second, .val (.int p4), .val (.int (fn1 (1 : Int32) (p0 &&& (2147483647 : Int32)) w_icache w_lcache)), .val (.long (fn2 (1 : Int64) (q1 &&& (9223372036854775807 : Int64)) w_icache w_lcache)), .second, .val (.int (fj0_0 p0 q1 p2 q3 p4 w_icache w_lcache)), .val (.long (fj0_1 p0 q1 p2 q3 p4 w_icache w_lcache)), .second, .val (.ref b5), .val (.ref b8), .val (.int (((p4.toUInt32 >>> ((2 : Int32) &&& 31).toUInt32).toInt32) &&& (3 : Int32))), .val .null, .val (.int (0 : Int32)), .unset, .unset, .unset]) rfl k) ?_
          refine Gl.by (g' := (mkF m 177 #[.val (.int p0), .val (.long q1), .second, .val (.int p2), .val (.long q3), .second, .val (.int p4), .val (.int (fn1 (1 : Int32) (p0 &&& (2147483647 : Int32)) w_icache w_lcache)), .val (.long (fn2 (1 : Int64) (q1 &&& (9223372036854775807 : Int64)) w_icache w_lcache)), .second, .val (.int (fj0_0 p0 q1 p2 q3 p4 w_icache w_lcache)), .val (.long (fj0_1 p0 q1 p2 q3 p4 w_icache w_lcache)), .second, .val (.ref b5), .val (.ref b8), .val (.int (((p4.toUInt32 >>> ((2 : Int32) &&& 31).toUInt32).toInt32) &&& (3 : Int32))), .val .null, .val (.int (0 : Int32)), .unset, .unset, .unset] [(.ref b5)])) (fun _ k => XS.aload X12.here hx rfl (hb hby at_175) rfl rfl k) ?_
          refine Gl.by (g' := (mkF m 179 #[.val (.int p0), .val (.long q1), .second, .val (.int p2), .val (.long q3), .second, .val (.int p4), .val (.int (fn1 (1 : Int32) (p0 &&& (2147483647 : Int32)) w_icache w_lcache)), .val (.long (fn2 (1 : Int64) (q1 &&& (9223372036854775807 : Int64)) w_icache w_lcache)), .second, .val (.int (fj0_0 p0 q1 p2 q3 p4 w_icache w_lcache)), .val (.long (fj0_1 p0 q1 p2 q3 p4 w_icache w_lcache)), .second, .val (.ref b5), .val (.ref b8), .val (.int (((p4.toUInt32 >>> ((2 : Int32) &&& 31).toUInt32).toInt32) &&& (3 : Int32))), .val .null, .val (.int (0 : Int32)), .unset, .unset, .unset] [.null, (.ref b5)])) (fun _ k => XS.aload X12.here hx rfl (hb hby at_177) rfl rfl k) ?_
          have f34 := (Exa.keep (Exa.ext E8 f10) Kc12)
          have O35 := (O13.keep Kc12 (allS gb8 all0))
          obtain ⟨cq33, kq33, q33a, q33b, q33c⟩ := isOf hZ rfl f34
          obtain ⟨_, _, ⟨T33, L33, k33, n33⟩, -, X33, ⟨Lc33, hQ33, l33, y33, z33⟩, st33⟩ := X12.virtualBack hx (y := (⟨"com/example/libelect/libelect/Leadership", "equals", "(Ljava/lang/Object;)Z"⟩ : MethodName)) (z := (⟨"com/example/libelect/libelect/Leadership", "equals", "(Ljava/lang/Object;)Z"⟩ : MethodName)) hown (mvT hZ (hw _ (List.mem_of_getElem? (i := 26) rfl))) (mvT hZ (hw _ (List.mem_of_getElem? (i := 27) rfl))) (notFace_of_selects (args := #[]) (mvT hZ (hw _ (List.mem_of_getElem? (i := 29) rfl)))) (mvT hZ (hw _ (List.mem_of_getElem? (i := 29) rfl))) (mvT hZ (hw _ (List.mem_of_getElem? (i := 28) rfl))) (by decide) (backOf (W := 0) (rm6n l Z a0' hw [] b5 w_icache w_lcache T12.heap n0 O35 W ) hZ (hw _ (List.mem_of_getElem? (i := 30) rfl)) (hw _ (List.mem_of_getElem? (i := 11) rfl)) (by decide) (by decide)) q33a q33c (g := (mkF m 179 #[.val (.int p0), .val (.long q1), .second, .val (.int p2), .val (.long q3), .second, .val (.int p4), .val (.int (fn1 (1 : Int32) (p0 &&& (2147483647 : Int32)) w_icache w_lcache)), .val (.long (fn2 (1 : Int64) (q1 &&& (9223372036854775807 : Int64)) w_icache w_lcache)), .second, .val (.int (fj0_0 p0 q1 p2 q3 p4 w_icache w_lcache)), .val (.long (fj0_1 p0 q1 p2 q3 p4 w_icache w_lcache)), .second, .val (.ref b5), .val (.ref b8), .val (.int (((p4.toUInt32 >>> ((2 : Int32) &&& 31).toUInt32).toInt32) &&& (3 : Int32))), .val .null, .val (.int (0 : Int32)), .unset, .unset, .unset] [.null, (.ref b5)])) rfl (by rw [hml]; rfl) (Steps.refl _) (argsL := [.null]) (rest := []) (lenOf pd122 rfl) rfl (by show 2 * 0 + _ ≤ _; exact Nat.le_of_eq rfl) (hb hby at_179) (fun _ _ => ⟨rfl, rfl, (by decide : 2 + 0 ≤ _), (by decide : 4 + 0 ≤ _)⟩)
          dsimp only [Pt.U, Pt.locs, Pt.cells, Pt.slots] at X33 l33 y33 z33 st33 hQ33
          subst l33 y33 z33
          obtain ⟨rfl, N33q, e33⟩ := hQ33
          have N33 := Fr.app N12 N33q
          refine Gl.by (g' := (mkF m 182 #[.val (.int p0), .val (.long q1), .second, .val (.int p2), .val (.long q3), .second, .val (.int p4), .val (.int (fn1 (1 : Int32) (p0 &&& (2147483647 : Int32)) w_icache w_lcache)), .val (.long (fn2 (1 : Int64) (q1 &&& (9223372036854775807 : Int64)) w_icache w_lcache)), .second, .val (.int (fj0_0 p0 q1 p2 q3 p4 w_icache w_lcache)), .val (.long (fj0_1 p0 q1 p2 q3 p4 w_icache w_lcache)), .second, .val (.ref b5), .val (.ref b8), .val (.int (((p4.toUInt32 >>> ((2 : Int32) &&& 31).toUInt32).toInt32) &&& (3 : Int32))), .val .null, .val (.int (0 : Int32)), .unset, .unset, .unset] [(.int (fn6n  w_icache w_lcache))])) (fun _ k => st33.trans k) ?_
          refine Gl.by (g' := (mkF m 184 #[.val (.int p0), .val (.long q1), .second, .val (.int p2), .val (.long q3), .second, .val (.int p4), .val (.int (fn1 (1 : Int32) (p0 &&& (2147483647 : Int32)) w_icache w_lcache)), .val (.long (fn2 (1 : Int64) (q1 &&& (9223372036854775807 : Int64)) w_icache w_lcache)), .second, .val (.int (fj0_0 p0 q1 p2 q3 p4 w_icache w_lcache)), .val (.long (fj0_1 p0 q1 p2 q3 p4 w_icache w_lcache)), .second, .val (.ref b5), .val (.ref b8), .val (.int (((p4.toUInt32 >>> ((2 : Int32) &&& 31).toUInt32).toInt32) &&& (3 : Int32))), .val .null, .val (.int (0 : Int32)), .val (.int (fn6n  w_icache w_lcache)), .unset, .unset] [])) (fun _ k => XS.istore X33.here hx rfl (hb hby at_182) rfl (l' := #[.val (.int p0), .val (.long q1), .second, .val (.int p2), .val (.long q3), .second, .val (.int p4), .val (.int (fn1 (1 : Int32) (p0 &&& (2147483647 : Int32)) w_icache w_lcache)), .val (.long (fn2 (1 : Int64) (q1 &&& (9223372036854775807 : Int64)) w_icache w_lcache)), .second, .val (.int (fj0_0 p0 q1 p2 q3 p4 w_icache w_lcache)), .val (.long (fj0_1 p0 q1 p2 q3 p4 w_icache w_lcache)), .second, .val (.ref b5), .val (.ref b8), .val (.int (((p4.toUInt32 >>> ((2 : Int32) &&& 31).toUInt32).toInt32) &&& (3 : Int32))), .val .null, .val (.int (0 : Int32)), .val (.int (fn6n  w_icache w_lcache)), .unset, .unset]) rfl k) ?_
          refine Gl.by (g' := (mkF m 186 #[.val (.int p0), .val (.long q1), .second, .val (.int p2), .val (.long q3), .second, .val (.int p4), .val (.int (fn1 (1 : Int32) (p0 &&& (2147483647 : Int32)) w_icache w_lcache)), .val (.long (fn2 (1 : Int64) (q1 &&& (9223372036854775807 : Int64)) w_icache w_lcache)), .second, .val (.int (fj0_0 p0 q1 p2 q3 p4 w_icache w_lcache)), .val (.long (fj0_1 p0 q1 p2 q3 p4 w_icache w_lcache)), .second, .val (.ref b5), .val (.ref b8), .val (.int (((p4.toUInt32 >>> ((2 : Int32) &&& 31).toUInt32).toInt32) &&& (3 : Int32))), .val .null, .val (.int (0 : Int32)), .val (.int (fn6n  w_icache w_lcache)), .unset, .unset] [(.ref b5)])) (fun _ k => XS.aload X33.here hx rfl (hb hby at_184) rfl rfl k) ?_
          refine Gl.by (g' := (mkF m 188 #[.val (.int p0), .val (.long q1), .second, .val (.int p2), .val (.long q3), .second, .val (.int p4), .val (.int (fn1 (1 : Int32) (p0 &&& (2147483647 : Int32)) w_icache w_lcache)), .val (.long (fn2 (1 : Int64) (q1 &&& (9223372036854775807 : Int64)) w_icache w_lcache)), .second, .val (.int (fj0_0 p0 q1 p2 q3 p4 w_icache w_lcache)), .val (.long (fj0_1 p0 q1 p2 q3 p4 w_icache w_lcache)), .second, .val (.ref b5), .val (.ref b8), .val (.int (((p4.toUInt32 >>> ((2 : Int32) &&& 31).toUInt32).toInt32) &&& (3 : Int32))), .val .null, .val (.int (0 : Int32)), .val (.int (fn6n  w_icache w_lcache)), .unset, .unset] [(.ref b5), (.ref b5)])) (fun _ k => XS.aload X33.here hx rfl (hb hby at_186) rfl rfl k) ?_
          have f37 := (Fld.keep (Fld.ext E8 fc6_0) Kc12 (ninS ne8_0 nin0))
          have f38 := (Fld.keep (Fld.ext E8 fc6_1) Kc12 (ninS ne8_0 nin0))
          obtain ⟨cq36, kq36, q36a, q36b, q36c⟩ := isOf hZ e33 f34
          obtain ⟨_, _, ⟨T36, L36, k36, n36⟩, -, X36, ⟨Lc36, hQ36, l36, y36, z36⟩, st36⟩ := X33.virtualBack hx (y := (⟨"com/example/libelect/libelect/Leadership", "equals", "(Ljava/lang/Object;)Z"⟩ : MethodName)) (z := (⟨"com/example/libelect/libelect/Leadership", "equals", "(Ljava/lang/Object;)Z"⟩ : MethodName)) hown (mvT hZ (hw _ (List.mem_of_getElem? (i := 26) rfl))) (mvT hZ (hw _ (List.mem_of_getElem? (i := 27) rfl))) (notFace_of_selects (args := #[]) (mvT hZ (hw _ (List.mem_of_getElem? (i := 29) rfl)))) (mvT hZ (hw _ (List.mem_of_getElem? (i := 29) rfl))) (mvT hZ (hw _ (List.mem_of_getElem? (i := 28) rfl))) (by decide) (backOf (W := 0) (rm6m l Z a0' hw [] b5 b5 (fn1 (1 : Int32) (p0 &&& (2147483647 : Int32)) w_icache w_lcache) (fn2 (1 : Int64) (q1 &&& (9223372036854775807 : Int64)) w_icache w_lcache) (fn1 (1 : Int32) (p0 &&& (2147483647 : Int32)) w_icache w_lcache) (fn2 (1 : Int64) (q1 &&& (9223372036854775807 : Int64)) w_icache w_lcache) w_icache w_lcache T12.heap n0 O35 W f34 f37 f38 f34 f37 f38) hZ (hw _ (List.mem_of_getElem? (i := 30) rfl)) (hw _ (List.mem_of_getElem? (i := 11) rfl)) (by decide) (by decide)) q36a q36c (g := (mkF m 188 #[.val (.int p0), .val (.long q1), .second, .val (.int p2), .val (.long q3), .second, .val (.int p4), .val (.int (fn1 (1 : Int32) (p0 &&& (2147483647 : Int32)) w_icache w_lcache)), .val (.long (fn2 (1 : Int64) (q1 &&& (9223372036854775807 : Int64)) w_icache w_lcache)), .second, .val (.int (fj0_0 p0 q1 p2 q3 p4 w_icache w_lcache)), .val (.long (fj0_1 p0 q1 p2 q3 p4 w_icache w_lcache)), .second, .val (.ref b5), .val (.ref b8), .val (.int (((p4.toUInt32 >>> ((2 : Int32) &&& 31).toUInt32).toInt32) &&& (3 : Int32))), .val .null, .val (.int (0 : Int32)), .val (.int (fn6n  w_icache w_lcache)), .unset, .unset] [(.ref b5), (.ref b5)])) rfl (by rw [hml]; rfl) (Steps.refl _) (argsL := [(.ref b5)]) (rest := []) (lenOf pd122 rfl) rfl (by show 2 * 0 + _ ≤ _; exact Nat.le_of_eq rfl) (hb hby at_188) (fun _ _ => ⟨rfl, e33, (by decide : 2 + 0 ≤ _), (by decide : 4 + 0 ≤ _)⟩)
          dsimp only [Pt.U, Pt.locs, Pt.cells, Pt.slots] at X36 l36 y36 z36 st36 hQ36
          subst l36 y36 z36
          obtain ⟨rfl, N36q, e36⟩ := hQ36
          have N36 := Fr.app N33 N36q
          refine Gl.by (g' := (mkF m 191 #[.val (.int p0), .val (.long q1), .second, .val (.int p2), .val (.long q3), .second, .val (.int p4), .val (.int (fn1 (1 : Int32) (p0 &&& (2147483647 : Int32)) w_icache w_lcache)), .val (.long (fn2 (1 : Int64) (q1 &&& (9223372036854775807 : Int64)) w_icache w_lcache)), .second, .val (.int (fj0_0 p0 q1 p2 q3 p4 w_icache w_lcache)), .val (.long (fj0_1 p0 q1 p2 q3 p4 w_icache w_lcache)), .second, .val (.ref b5), .val (.ref b8), .val (.int (((p4.toUInt32 >>> ((2 : Int32) &&& 31).toUInt32).toInt32) &&& (3 : Int32))), .val .null, .val (.int (0 : Int32)), .val (.int (fn6n  w_icache w_lcache)), .unset, .unset] [(.int (fn6m (fn1 (1 : Int32) (p0 &&& (2147483647 : Int32)) w_icache w_lcache) (fn2 (1 : Int64) (q1 &&& (9223372036854775807 : Int64)) w_icache w_lcache) (fn1 (1 : Int32) (p0 &&& (2147483647 : Int32)) w_icache w_lcache) (fn2 (1 : Int64) (q1 &&& (9223372036854775807 : Int64)) w_icache w_lcache) w_icache w_lcache))])) (fun _ k => st36.trans k) ?_
          refine Gl.by (g' := (mkF m 193 #[.val (.int p0), .val (.long q1), .second, .val (.int p2), .val (.long q3), .second, .val (.int p4), .val (.int (fn1 (1 : Int32) (p0 &&& (2147483647 : Int32)) w_icache w_lcache)), .val (.long (fn2 (1 : Int64) (q1 &&& (9223372036854775807 : Int64)) w_icache w_lcache)), .second, .val (.int (fj0_0 p0 q1 p2 q3 p4 w_icache w_lcache)), .val (.long (fj0_1 p0 q1 p2 q3 p4 w_icache w_lcache)), .second, .val (.ref b5), .val (.ref b8), .val (.int (((p4.toUInt32 >>> ((2 : Int32) &&& 31).toUInt32).toInt32) &&& (3 : Int32))), .val .null, .val (.int (0 : Int32)), .val (.int (fn6n  w_icache w_lcache)), .val (.int (fn6m (fn1 (1 : Int32) (p0 &&& (2147483647 : Int32)) w_icache w_lcache) (fn2 (1 : Int64) (q1 &&& (9223372036854775807 : Int64)) w_icache w_lcache) (fn1 (1 : Int32) (p0 &&& (2147483647 : Int32)) w_icache w_lcache) (fn2 (1 : Int64) (q1 &&& (9223372036854775807 : Int64)) w_icache w_lcache) w_icache w_lcache)), .unset] [])) (fun _ k => XS.istore X36.here hx rfl (hb hby at_191) rfl (l' := #[.val (.int p0), .val (.long q1), .second, .val (.int p2), .val (.long q3), .second, .val (.int p4), .val (.int (fn1 (1 : Int32) (p0 &&& (2147483647 : Int32)) w_icache w_lcache)), .val (.long (fn2 (1 : Int64) (q1 &&& (9223372036854775807 : Int64)) w_icache w_lcache)), .second, .val (.int (fj0_0 p0 q1 p2 q3 p4 w_icache w_lcache)), .val (.long (fj0_1 p0 q1 p2 q3 p4 w_icache w_lcache)), .second, .val (.ref b5), .val (.ref b8), .val (.int (((p4.toUInt32 >>> ((2 : Int32) &&& 31).toUInt32).toInt32) &&& (3 : Int32))), .val .null, .val (.int (0 : Int32)), .val (.int (fn6n  w_icache w_lcache)), .val (.int (fn6m (fn1 (1 : Int32) (p0 &&& (2147483647 : Int32)) w_icache w_lcache) (fn2 (1 : Int64) (q1 &&& (9223372036854775807 : Int64)) w_icache w_lcache) (fn1 (1 : Int32) (p0 &&& (2147483647 : Int32)) w_icache w_lcache) (fn2 (1 : Int64) (q1 &&& (9223372036854775807 : Int64)) w_icache w_lcache) w_icache w_lcache)), .unset]) rfl k) ?_
          refine Gl.by (g' := (mkF m 195 #[.val (.int p0), .val (.long q1), .second, .val (.int p2), .val (.long q3), .second, .val (.int p4), .val (.int (fn1 (1 : Int32) (p0 &&& (2147483647 : Int32)) w_icache w_lcache)), .val (.long (fn2 (1 : Int64) (q1 &&& (9223372036854775807 : Int64)) w_icache w_lcache)), .second, .val (.int (fj0_0 p0 q1 p2 q3 p4 w_icache w_lcache)), .val (.long (fj0_1 p0 q1 p2 q3 p4 w_icache w_lcache)), .second, .val (.ref b5), .val (.ref b8), .val (.int (((p4.toUInt32 >>> ((2 : Int32) &&& 31).toUInt32).toInt32) &&& (3 : Int32))), .val .null, .val (.int (0 : Int32)), .val (.int (fn6n  w_icache w_lcache)), .val (.int (fn6m (fn1 (1 : Int32) (p0 &&& (2147483647 : Int32)) w_icache w_lcache) (fn2 (1 : Int64) (q1 &&& (9223372036854775807 : Int64)) w_icache w_lcache) (fn1 (1 : Int32) (p0 &&& (2147483647 : Int32)) w_icache w_lcache) (fn2 (1 : Int64) (q1 &&& (9223372036854775807 : Int64)) w_icache w_lcache) w_icache w_lcache)), .unset] [(.int (((p4.toUInt32 >>> ((2 : Int32) &&& 31).toUInt32).toInt32) &&& (3 : Int32)))])) (fun _ k => XS.iload X36.here hx rfl (hb hby at_193) rfl k) ?_
          refine Gl.by (g' := (mkF m 210 #[.val (.int p0), .val (.long q1), .second, .val (.int p2), .val (.long q3), .second, .val (.int p4), .val (.int (fn1 (1 : Int32) (p0 &&& (2147483647 : Int32)) w_icache w_lcache)), .val (.long (fn2 (1 : Int64) (q1 &&& (9223372036854775807 : Int64)) w_icache w_lcache)), .second, .val (.int (fj0_0 p0 q1 p2 q3 p4 w_icache w_lcache)), .val (.long (fj0_1 p0 q1 p2 q3 p4 w_icache w_lcache)), .second, .val (.ref b5), .val (.ref b8), .val (.int (((p4.toUInt32 >>> ((2 : Int32) &&& 31).toUInt32).toInt32) &&& (3 : Int32))), .val .null, .val (.int (0 : Int32)), .val (.int (fn6n  w_icache w_lcache)), .val (.int (fn6m (fn1 (1 : Int32) (p0 &&& (2147483647 : Int32)) w_icache w_lcache) (fn2 (1 : Int64) (q1 &&& (9223372036854775807 : Int64)) w_icache w_lcache) (fn1 (1 : Int32) (p0 &&& (2147483647 : Int32)) w_icache w_lcache) (fn2 (1 : Int64) (q1 &&& (9223372036854775807 : Int64)) w_icache w_lcache) w_icache w_lcache)), .unset] [])) (fun _ k => XS.ifYes X36.here hx rfl (pc0 := 195) (pc' := 210) rfl (hb hby at_195) rfl ((if0 _ _).trans (feq hc14).2) (by decide) (by decide) k) ?_
          refine Gl.by (g' := (mkF m 211 #[.val (.int p0), .val (.long q1), .second, .val (.int p2), .val (.long q3), .second, .val (.int p4), .val (.int (fn1 (1 : Int32) (p0 &&& (2147483647 : Int32)) w_icache w_lcache)), .val (.long (fn2 (1 : Int64) (q1 &&& (9223372036854775807 : Int64)) w_icache w_lcache)), .second, .val (.int (fj0_0 p0 q1 p2 q3 p4 w_icache w_lcache)), .val (.long (fj0_1 p0 q1 p2 q3 p4 w_icache w_lcache)), .second, .val (.ref b5), .val (.ref b8), .val (.int (((p4.toUInt32 >>> ((2 : Int32) &&& 31).toUInt32).toInt32) &&& (3 : Int32))), .val .null, .val (.int (0 : Int32)), .val (.int (fn6n  w_icache w_lcache)), .val (.int (fn6m (fn1 (1 : Int32) (p0 &&& (2147483647 : Int32)) w_icache w_lcache) (fn2 (1 : Int64) (q1 &&& (9223372036854775807 : Int64)) w_icache w_lcache) (fn1 (1 : Int32) (p0 &&& (2147483647 : Int32)) w_icache w_lcache) (fn2 (1 : Int64) (q1 &&& (9223372036854775807 : Int64)) w_icache w_lcache) w_icache w_lcache)), .unset] [(.int (1 : Int32))])) (fun _ k => XS.iconst X36.here hx rfl (hb hby at_210) k) ?_
          refine Gl.by (g' := (mkF m 215 #[.val (.int p0), .val (.long q1), .second, .val (.int p2), .val (.long q3), .second, .val (.int p4), .val (.int (fn1 (1 : Int32) (p0 &&& (2147483647 : Int32)) w_icache w_lcache)), .val (.long (fn2 (1 : Int64) (q1 &&& (9223372036854775807 : Int64)) w_icache w_lcache)), .second, .val (.int (fj0_0 p0 q1 p2 q3 p4 w_icache w_lcache)), .val (.long (fj0_1 p0 q1 p2 q3 p4 w_icache w_lcache)), .second, .val (.ref b5), .val (.ref b8), .val (.int (((p4.toUInt32 >>> ((2 : Int32) &&& 31).toUInt32).toInt32) &&& (3 : Int32))), .val .null, .val (.int (0 : Int32)), .val (.int (fn6n  w_icache w_lcache)), .val (.int (fn6m (fn1 (1 : Int32) (p0 &&& (2147483647 : Int32)) w_icache w_lcache) (fn2 (1 : Int64) (q1 &&& (9223372036854775807 : Int64)) w_icache w_lcache) (fn1 (1 : Int32) (p0 &&& (2147483647 : Int32)) w_icache w_lcache) (fn2 (1 : Int64) (q1 &&& (9223372036854775807 : Int64)) w_icache w_lcache) w_icache w_lcache)), .unset] [(.int (1 : Int32))])) (fun _ k => XS.goto X36.here hx rfl (pc0 := 211) (pc' := 215) rfl (hb hby at_211) (by decide) (by decide) k) ?_
          refine Gl.by (g' := (mkF m 217 #[.val (.int p0), .val (.long q1), .second, .val (.int p2), .val (.long q3), .second, .val (.int p4), .val (.int (fn1 (1 : Int32) (p0 &&& (2147483647 : Int32)) w_icache w_lcache)), .val (.long (fn2 (1 : Int64) (q1 &&& (9223372036854775807 : Int64)) w_icache w_lcache)), .second, .val (.int (fj0_0 p0 q1 p2 q3 p4 w_icache w_lcache)), .val (.long (fj0_1 p0 q1 p2 q3 p4 w_icache w_lcache)), .second, .val (.ref b5), .val (.ref b8), .val (.int (((p4.toUInt32 >>> ((2 : Int32) &&& 31).toUInt32).toInt32) &&& (3 : Int32))), .val .null, .val (.int (0 : Int32)), .val (.int (fn6n  w_icache w_lcache)), .val (.int (fn6m (fn1 (1 : Int32) (p0 &&& (2147483647 : Int32)) w_icache w_lcache) (fn2 (1 : Int64) (q1 &&& (9223372036854775807 : Int64)) w_icache w_lcache) (fn1 (1 : Int32) (p0 &&& (2147483647 : Int32)) w_icache w_lcache) (fn2 (1 : Int64) (q1 &&& (9223372036854775807 : Int64)) w_icache w_lcache) w_icache w_lcache)), .val (.int (1 : Int32))] [])) (fun _ k => XS.istore X36.here hx rfl (hb hby at_215) rfl (l' := #[.val (.int p0), .val (.long q1), .second, .val (.int p2), .val (.long q3), .second, .val (.int p4), .val (.int (fn1 (1 : Int32) (p0 &&& (2147483647 : Int32)) w_icache w_lcache)), .val (.long (fn2 (1 : Int64) (q1 &&& (9223372036854775807 : Int64)) w_icache w_lcache)), .second, .val (.int (fj0_0 p0 q1 p2 q3 p4 w_icache w_lcache)), .val (.long (fj0_1 p0 q1 p2 q3 p4 w_icache w_lcache)), .second, .val (.ref b5), .val (.ref b8), .val (.int (((p4.toUInt32 >>> ((2 : Int32) &&& 31).toUInt32).toInt32) &&& (3 : Int32))), .val .null, .val (.int (0 : Int32)), .val (.int (fn6n  w_icache w_lcache)), .val (.int (fn6m (fn1 (1 : Int32) (p0 &&& (2147483647 : Int32)) w_icache w_lcache) (fn2 (1 : Int64) (q1 &&& (9223372036854775807 : Int64)) w_icache w_lcache) (fn1 (1 : Int32) (p0 &&& (2147483647 : Int32)) w_icache w_lcache) (fn2 (1 : Int64) (q1 &&& (9223372036854775807 : Int64)) w_icache w_lcache) w_icache w_lcache)), .val (.int (1 : Int32))]) rfl k) ?_
          refine Gl.by (g' := (mkF m 219 #[.val (.int p0), .val (.long q1), .second, .val (.int p2), .val (.long q3), .second, .val (.int p4), .val (.int (fn1 (1 : Int32) (p0 &&& (2147483647 : Int32)) w_icache w_lcache)), .val (.long (fn2 (1 : Int64) (q1 &&& (9223372036854775807 : Int64)) w_icache w_lcache)), .second, .val (.int (fj0_0 p0 q1 p2 q3 p4 w_icache w_lcache)), .val (.long (fj0_1 p0 q1 p2 q3 p4 w_icache w_lcache)), .second, .val (.ref b5), .val (.ref b8), .val (.int (((p4.toUInt32 >>> ((2 : Int32) &&& 31).toUInt32).toInt32) &&& (3 : Int32))), .val .null, .val (.int (0 : Int32)), .val (.int (fn6n  w_icache w_lcache)), .val (.int (fn6m (fn1 (1 : Int32) (p0 &&& (2147483647 : Int32)) w_icache w_lcache) (fn2 (1 : Int64) (q1 &&& (9223372036854775807 : Int64)) w_icache w_lcache) (fn1 (1 : Int32) (p0 &&& (2147483647 : Int32)) w_icache w_lcache) (fn2 (1 : Int64) (q1 &&& (9223372036854775807 : Int64)) w_icache w_lcache) w_icache w_lcache)), .val (.int (1 : Int32))] [(.int (fn6n  w_icache w_lcache))])) (fun _ k => XS.iload X36.here hx rfl (hb hby at_217) rfl k) ?_
          refine Gl.by (g' := (mkF m 221 #[.val (.int p0), .val (.long q1), .second, .val (.int p2), .val (.long q3), .second, .val (.int p4), .val (.int (fn1 (1 : Int32) (p0 &&& (2147483647 : Int32)) w_icache w_lcache)), .val (.long (fn2 (1 : Int64) (q1 &&& (9223372036854775807 : Int64)) w_icache w_lcache)), .second, .val (.int (fj0_0 p0 q1 p2 q3 p4 w_icache w_lcache)), .val (.long (fj0_1 p0 q1 p2 q3 p4 w_icache w_lcache)), .second, .val (.ref b5), .val (.ref b8), .val (.int (((p4.toUInt32 >>> ((2 : Int32) &&& 31).toUInt32).toInt32) &&& (3 : Int32))), .val .null, .val (.int (0 : Int32)), .val (.int (fn6n  w_icache w_lcache)), .val (.int (fn6m (fn1 (1 : Int32) (p0 &&& (2147483647 : Int32)) w_icache w_lcache) (fn2 (1 : Int64) (q1 &&& (9223372036854775807 : Int64)) w_icache w_lcache) (fn1 (1 : Int32) (p0 &&& (2147483647 : Int32)) w_icache w_lcache) (fn2 (1 : Int64) (q1 &&& (9223372036854775807 : Int64)) w_icache w_lcache) w_icache w_lcache)), .val (.int (1 : Int32))] [(.int (0 : Int32)), (.int (fn6n  w_icache w_lcache))])) (fun _ k => XS.iload X36.here hx rfl (hb hby at_219) rfl k) ?_
          have J39 : ∀ (T' : State) (lc : List Loc) (X' : Stand p l e room_1 s m #[(.int p0), (.long q1), (.int p2), (.long q3), (.int p4)] below meth c T' lc 2 4) (eT : T'.heap = T12.heap) (N' : Fr n0 lc) (zj39_0 : Int32) (hz39_0 : zj39_0 = (fj0_5 p0 q1 p2 q3 p4 w_icache w_lcache)), Gl p e below (Pos 16 128 (Q0 Z p0 q1 p2 q3 p4 w_icache w_lcache h0 n0) s) T' (mkF m 239 #[.val (.int p0), .val (.long q1), .second, .val (.int p2), .val (.long q3), .second, .val (.int p4), .val (.int (fn1 (1 : Int32) (p0 &&& (2147483647 : Int32)) w_icache w_lcache)), .val (.long (fn2 (1 : Int64) (q1 &&& (9223372036854775807 : Int64)) w_icache w_lcache)), .second, .val (.int (fj0_0 p0 q1 p2 q3 p4 w_icache w_lcache)), .val (.long (fj0_1 p0 q1 p2 q3 p4 w_icache w_lcache)), .second, .val (.ref b5), .val (.ref b8), .val (.int (((p4.toUInt32 >>> ((2 : Int32) &&& 31).toUInt32).toInt32) &&& (3 : Int32))), .val .null, .val (.int (0 : Int32)), .val (.int (fn6n  w_icache w_lcache)), .val (.int (fn6m (fn1 (1 : Int32) (p0 &&& (2147483647 : Int32)) w_icache w_lcache) (fn2 (1 : Int64) (q1 &&& (9223372036854775807 : Int64)) w_icache w_lcache) (fn1 (1 : Int32) (p0 &&& (2147483647 : Int32)) w_icache w_lcache) (fn2 (1 : Int64) (q1 &&& (9223372036854775807 : Int64)) w_icache w_lcache) w_icache w_lcache)), .val (.int (1 : Int32))] [(.int zj39_0)]) := by
            intro T' lc X' eT N' zj39_0 hz39_0
            subst hz39_0
            exact Gl.outN X' hx hk (t := .boolean) Bd.returns (by simp) (hb hby at_239) ⟨(congrArg (fun z => some (Value.int z)) (show nar .boolean (fj0_5 p0 q1 p2 q3 p4 w_icache w_lcache) = fn0 p0 q1 p2 q3 p4 w_icache w_lcache by unfold fn0; rw [if_neg hc14, if_pos hc32]; try rfl)), N'⟩ (by decide) (by decide)
          by_cases hc40 : (fn6n  w_icache w_lcache) = (0 : Int32)
          · refine Gl.by (g' := (mkF m 224 #[.val (.int p0), .val (.long q1), .second, .val (.int p2), .val (.long q3), .second, .val (.int p4), .val (.int (fn1 (1 : Int32) (p0 &&& (2147483647 : Int32)) w_icache w_lcache)), .val (.long (fn2 (1 : Int64) (q1 &&& (9223372036854775807 : Int64)) w_icache w_lcache)), .second, .val (.int (fj0_0 p0 q1 p2 q3 p4 w_icache w_lcache)), .val (.long (fj0_1 p0 q1 p2 q3 p4 w_icache w_lcache)), .second, .val (.ref b5), .val (.ref b8), .val (.int (((p4.toUInt32 >>> ((2 : Int32) &&& 31).toUInt32).toInt32) &&& (3 : Int32))), .val .null, .val (.int (0 : Int32)), .val (.int (fn6n  w_icache w_lcache)), .val (.int (fn6m (fn1 (1 : Int32) (p0 &&& (2147483647 : Int32)) w_icache w_lcache) (fn2 (1 : Int64) (q1 &&& (9223372036854775807 : Int64)) w_icache w_lcache) (fn1 (1 : Int32) (p0 &&& (2147483647 : Int32)) w_icache w_lcache) (fn2 (1 : Int64) (q1 &&& (9223372036854775807 : Int64)) w_icache w_lcache) w_icache w_lcache)), .val (.int (1 : Int32))] [])) (fun _ k => XS.icmpNo X36.here hx rfl (hb hby at_221) rfl (teq hc40).2 k) ?_
            refine Gl.by (g' := (mkF m 226 #[.val (.int p0), .val (.long q1), .second, .val (.int p2), .val (.long q3), .second, .val (.int p4), .val (.int (fn1 (1 : Int32) (p0 &&& (2147483647 : Int32)) w_icache w_lcache)), .val (.long (fn2 (1 : Int64) (q1 &&& (9223372036854775807 : Int64)) w_icache w_lcache)), .second, .val (.int (fj0_0 p0 q1 p2 q3 p4 w_icache w_lcache)), .val (.long (fj0_1 p0 q1 p2 q3 p4 w_icache w_lcache)), .second, .val (.ref b5), .val (.ref b8), .val (.int (((p4.toUInt32 >>> ((2 : Int32) &&& 31).toUInt32).toInt32) &&& (3 : Int32))), .val .null, .val (.int (0 : Int32)), .val (.int (fn6n  w_icache w_lcache)), .val (.int (fn6m (fn1 (1 : Int32) (p0 &&& (2147483647 : Int32)) w_icache w_lcache) (fn2 (1 : Int64) (q1 &&& (9223372036854775807 : Int64)) w_icache w_lcache) (fn1 (1 : Int32) (p0 &&& (2147483647 : Int32)) w_icache w_lcache) (fn2 (1 : Int64) (q1 &&& (9223372036854775807 : Int64)) w_icache w_lcache) w_icache w_lcache)), .val (.int (1 : Int32))] [(.int (fn6m (fn1 (1 : Int32) (p0 &&& (2147483647 : Int32)) w_icache w_lcache) (fn2 (1 : Int64) (q1 &&& (9223372036854775807 : Int64)) w_icache w_lcache) (fn1 (1 : Int32) (p0 &&& (2147483647 : Int32)) w_icache w_lcache) (fn2 (1 : Int64) (q1 &&& (9223372036854775807 : Int64)) w_icache w_lcache) w_icache w_lcache))])) (fun _ k => XS.iload X36.here hx rfl (hb hby at_224) rfl k) ?_
            by_cases hc41 : (fn6m (fn1 (1 : Int32) (p0 &&& (2147483647 : Int32)) w_icache w_lcache) (fn2 (1 : Int64) (q1 &&& (9223372036854775807 : Int64)) w_icache w_lcache) (fn1 (1 : Int32) (p0 &&& (2147483647 : Int32)) w_icache w_lcache) (fn2 (1 : Int64) (q1 &&& (9223372036854775807 : Int64)) w_icache w_lcache) w_icache w_lcache) = (0 : Int32)
            · refine Gl.by (g' := (mkF m 238 #[.val (.int p0), .val (.long q1), .second, .val (.int p2), .val (.long q3), .second, .val (.int p4), .val (.int (fn1 (1 : Int32) (p0 &&& (2147483647 : Int32)) w_icache w_lcache)), .val (.long (fn2 (1 : Int64) (q1 &&& (9223372036854775807 : Int64)) w_icache w_lcache)), .second, .val (.int (fj0_0 p0 q1 p2 q3 p4 w_icache w_lcache)), .val (.long (fj0_1 p0 q1 p2 q3 p4 w_icache w_lcache)), .second, .val (.ref b5), .val (.ref b8), .val (.int (((p4.toUInt32 >>> ((2 : Int32) &&& 31).toUInt32).toInt32) &&& (3 : Int32))), .val .null, .val (.int (0 : Int32)), .val (.int (fn6n  w_icache w_lcache)), .val (.int (fn6m (fn1 (1 : Int32) (p0 &&& (2147483647 : Int32)) w_icache w_lcache) (fn2 (1 : Int64) (q1 &&& (9223372036854775807 : Int64)) w_icache w_lcache) (fn1 (1 : Int32) (p0 &&& (2147483647 : Int32)) w_icache w_lcache) (fn2 (1 : Int64) (q1 &&& (9223372036854775807 : Int64)) w_icache w_lcache) w_icache w_lcache)), .val (.int (1 : Int32))] [])) (fun _ k => XS.ifYes X36.here hx rfl (pc0 := 226) (pc' := 238) rfl (hb hby at_226) rfl ((if0 _ _).trans (teq hc41).1) (by decide) (by decide) k) ?_
              refine Gl.by (g' := (mkF m 239 #[.val (.int p0), .val (.long q1), .second, .val (.int p2), .val (.long q3), .second, .val (.int p4), .val (.int (fn1 (1 : Int32) (p0 &&& (2147483647 : Int32)) w_icache w_lcache)), .val (.long (fn2 (1 : Int64) (q1 &&& (9223372036854775807 : Int64)) w_icache w_lcache)), .second, .val (.int (fj0_0 p0 q1 p2 q3 p4 w_icache w_lcache)), .val (.long (fj0_1 p0 q1 p2 q3 p4 w_icache w_lcache)), .second, .val (.ref b5), .val (.ref b8), .val (.int (((p4.toUInt32 >>> ((2 : Int32) &&& 31).toUInt32).toInt32) &&& (3 : Int32))), .val .null, .val (.int (0 : Int32)), .val (.int (fn6n  w_icache w_lcache)), .val (.int (fn6m (fn1 (1 : Int32) (p0 &&& (2147483647 : Int32)) w_icache w_lcache) (fn2 (1 : Int64) (q1 &&& (9223372036854775807 : Int64)) w_icache w_lcache) (fn1 (1 : Int32) (p0 &&& (2147483647 : Int32)) w_icache w_lcache) (fn2 (1 : Int64) (q1 &&& (9223372036854775807 : Int64)) w_icache w_lcache) w_icache w_lcache)), .val (.int (1 : Int32))] [(.int (0 : Int32))])) (fun _ k => XS.iconst X36.here hx rfl (hb hby at_238) k) ?_
              exact J39 _ _ X36 e36 N36 (0 : Int32) (show (0 : Int32) = (fj0_5 p0 q1 p2 q3 p4 w_icache w_lcache) by unfold fj0_5; rw [if_pos hc40, if_pos hc41]; try rfl)
            · refine Gl.by (g' := (mkF m 229 #[.val (.int p0), .val (.long q1), .second, .val (.int p2), .val (.long q3), .second, .val (.int p4), .val (.int (fn1 (1 : Int32) (p0 &&& (2147483647 : Int32)) w_icache w_lcache)), .val (.long (fn2 (1 : Int64) (q1 &&& (9223372036854775807 : Int64)) w_icache w_lcache)), .second, .val (.int (fj0_0 p0 q1 p2 q3 p4 w_icache w_lcache)), .val (.long (fj0_1 p0 q1 p2 q3 p4 w_icache w_lcache)), .second, .val (.ref b5), .val (.ref b8), .val (.int (((p4.toUInt32 >>> ((2 : Int32) &&& 31).toUInt32).toInt32) &&& (3 : Int32))), .val .null, .val (.int (0 : Int32)), .val (.int (fn6n  w_icache w_lcache)), .val (.int (fn6m (fn1 (1 : Int32) (p0 &&& (2147483647 : Int32)) w_icache w_lcache) (fn2 (1 : Int64) (q1 &&& (9223372036854775807 : Int64)) w_icache w_lcache) (fn1 (1 : Int32) (p0 &&& (2147483647 : Int32)) w_icache w_lcache) (fn2 (1 : Int64) (q1 &&& (9223372036854775807 : Int64)) w_icache w_lcache) w_icache w_lcache)), .val (.int (1 : Int32))] [])) (fun _ k => XS.ifNo X36.here hx rfl (hb hby at_226) rfl ((if0 _ _).trans (feq hc41).1) k) ?_
              refine Gl.by (g' := (mkF m 231 #[.val (.int p0), .val (.long q1), .second, .val (.int p2), .val (.long q3), .second, .val (.int p4), .val (.int (fn1 (1 : Int32) (p0 &&& (2147483647 : Int32)) w_icache w_lcache)), .val (.long (fn2 (1 : Int64) (q1 &&& (9223372036854775807 : Int64)) w_icache w_lcache)), .second, .val (.int (fj0_0 p0 q1 p2 q3 p4 w_icache w_lcache)), .val (.long (fj0_1 p0 q1 p2 q3 p4 w_icache w_lcache)), .second, .val (.ref b5), .val (.ref b8), .val (.int (((p4.toUInt32 >>> ((2 : Int32) &&& 31).toUInt32).toInt32) &&& (3 : Int32))), .val .null, .val (.int (0 : Int32)), .val (.int (fn6n  w_icache w_lcache)), .val (.int (fn6m (fn1 (1 : Int32) (p0 &&& (2147483647 : Int32)) w_icache w_lcache) (fn2 (1 : Int64) (q1 &&& (9223372036854775807 : Int64)) w_icache w_lcache) (fn1 (1 : Int32) (p0 &&& (2147483647 : Int32)) w_icache w_lcache) (fn2 (1 : Int64) (q1 &&& (9223372036854775807 : Int64)) w_icache w_lcache) w_icache w_lcache)), .val (.int (1 : Int32))] [(.int (1 : Int32))])) (fun _ k => XS.iload X36.here hx rfl (hb hby at_229) rfl k) ?_
              refine Gl.by (g' := (mkF m 234 #[.val (.int p0), .val (.long q1), .second, .val (.int p2), .val (.long q3), .second, .val (.int p4), .val (.int (fn1 (1 : Int32) (p0 &&& (2147483647 : Int32)) w_icache w_lcache)), .val (.long (fn2 (1 : Int64) (q1 &&& (9223372036854775807 : Int64)) w_icache w_lcache)), .second, .val (.int (fj0_0 p0 q1 p2 q3 p4 w_icache w_lcache)), .val (.long (fj0_1 p0 q1 p2 q3 p4 w_icache w_lcache)), .second, .val (.ref b5), .val (.ref b8), .val (.int (((p4.toUInt32 >>> ((2 : Int32) &&& 31).toUInt32).toInt32) &&& (3 : Int32))), .val .null, .val (.int (0 : Int32)), .val (.int (fn6n  w_icache w_lcache)), .val (.int (fn6m (fn1 (1 : Int32) (p0 &&& (2147483647 : Int32)) w_icache w_lcache) (fn2 (1 : Int64) (q1 &&& (9223372036854775807 : Int64)) w_icache w_lcache) (fn1 (1 : Int32) (p0 &&& (2147483647 : Int32)) w_icache w_lcache) (fn2 (1 : Int64) (q1 &&& (9223372036854775807 : Int64)) w_icache w_lcache) w_icache w_lcache)), .val (.int (1 : Int32))] [])) (fun _ k => XS.ifNo X36.here hx rfl (hb hby at_231) rfl ((if0 _ _).trans (feq (by decide : ¬ ((1 : Int32) = (0 : Int32)))).1) k) ?_
              refine Gl.by (g' := (mkF m 235 #[.val (.int p0), .val (.long q1), .second, .val (.int p2), .val (.long q3), .second, .val (.int p4), .val (.int (fn1 (1 : Int32) (p0 &&& (2147483647 : Int32)) w_icache w_lcache)), .val (.long (fn2 (1 : Int64) (q1 &&& (9223372036854775807 : Int64)) w_icache w_lcache)), .second, .val (.int (fj0_0 p0 q1 p2 q3 p4 w_icache w_lcache)), .val (.long (fj0_1 p0 q1 p2 q3 p4 w_icache w_lcache)), .second, .val (.ref b5), .val (.ref b8), .val (.int (((p4.toUInt32 >>> ((2 : Int32) &&& 31).toUInt32).toInt32) &&& (3 : Int32))), .val .null, .val (.int (0 : Int32)), .val (.int (fn6n  w_icache w_lcache)), .val (.int (fn6m (fn1 (1 : Int32) (p0 &&& (2147483647 : Int32)) w_icache w_lcache) (fn2 (1 : Int64) (q1 &&& (9223372036854775807 : Int64)) w_icache w_lcache) (fn1 (1 : Int32) (p0 &&& (2147483647 : Int32)) w_icache w_lcache) (fn2 (1 : Int64) (q1 &&& (9223372036854775807 : Int64)) w_icache w_lcache) w_icache w_lcache)), .val (.int (1 : Int32))] [(.int (1 : Int32))])) (fun _ k => XS.iconst X36.here hx rfl (hb hby at_234) k) ?_
              refine Gl.by (g' := (mkF m 239 #[.val (.int p0), .val (.long q1), .second, .val (.int p2), .val (.long q3), .second, .val (.int p4), .val (.int (fn1 (1 : Int32) (p0 &&& (2147483647 : Int32)) w_icache w_lcache)), .val (.long (fn2 (1 : Int64) (q1 &&& (9223372036854775807 : Int64)) w_icache w_lcache)), .second, .val (.int (fj0_0 p0 q1 p2 q3 p4 w_icache w_lcache)), .val (.long (fj0_1 p0 q1 p2 q3 p4 w_icache w_lcache)), .second, .val (.ref b5), .val (.ref b8), .val (.int (((p4.toUInt32 >>> ((2 : Int32) &&& 31).toUInt32).toInt32) &&& (3 : Int32))), .val .null, .val (.int (0 : Int32)), .val (.int (fn6n  w_icache w_lcache)), .val (.int (fn6m (fn1 (1 : Int32) (p0 &&& (2147483647 : Int32)) w_icache w_lcache) (fn2 (1 : Int64) (q1 &&& (9223372036854775807 : Int64)) w_icache w_lcache) (fn1 (1 : Int32) (p0 &&& (2147483647 : Int32)) w_icache w_lcache) (fn2 (1 : Int64) (q1 &&& (9223372036854775807 : Int64)) w_icache w_lcache) w_icache w_lcache)), .val (.int (1 : Int32))] [(.int (1 : Int32))])) (fun _ k => XS.goto X36.here hx rfl (pc0 := 235) (pc' := 239) rfl (hb hby at_235) (by decide) (by decide) k) ?_
              exact J39 _ _ X36 e36 N36 (1 : Int32) (show (1 : Int32) = (fj0_5 p0 q1 p2 q3 p4 w_icache w_lcache) by unfold fj0_5; rw [if_pos hc40, if_neg hc41]; try rfl)
          · refine Gl.by (g' := (mkF m 238 #[.val (.int p0), .val (.long q1), .second, .val (.int p2), .val (.long q3), .second, .val (.int p4), .val (.int (fn1 (1 : Int32) (p0 &&& (2147483647 : Int32)) w_icache w_lcache)), .val (.long (fn2 (1 : Int64) (q1 &&& (9223372036854775807 : Int64)) w_icache w_lcache)), .second, .val (.int (fj0_0 p0 q1 p2 q3 p4 w_icache w_lcache)), .val (.long (fj0_1 p0 q1 p2 q3 p4 w_icache w_lcache)), .second, .val (.ref b5), .val (.ref b8), .val (.int (((p4.toUInt32 >>> ((2 : Int32) &&& 31).toUInt32).toInt32) &&& (3 : Int32))), .val .null, .val (.int (0 : Int32)), .val (.int (fn6n  w_icache w_lcache)), .val (.int (fn6m (fn1 (1 : Int32) (p0 &&& (2147483647 : Int32)) w_icache w_lcache) (fn2 (1 : Int64) (q1 &&& (9223372036854775807 : Int64)) w_icache w_lcache) (fn1 (1 : Int32) (p0 &&& (2147483647 : Int32)) w_icache w_lcache) (fn2 (1 : Int64) (q1 &&& (9223372036854775807 : Int64)) w_icache w_lcache) w_icache w_lcache)), .val (.int (1 : Int32))] [])) (fun _ k => XS.icmpYes X36.here hx rfl (pc0 := 221) (pc' := 238) rfl (hb hby at_221) rfl (feq hc40).2 (by decide) (by decide) k) ?_
            refine Gl.by (g' := (mkF m 239 #[.val (.int p0), .val (.long q1), .second, .val (.int p2), .val (.long q3), .second, .val (.int p4), .val (.int (fn1 (1 : Int32) (p0 &&& (2147483647 : Int32)) w_icache w_lcache)), .val (.long (fn2 (1 : Int64) (q1 &&& (9223372036854775807 : Int64)) w_icache w_lcache)), .second, .val (.int (fj0_0 p0 q1 p2 q3 p4 w_icache w_lcache)), .val (.long (fj0_1 p0 q1 p2 q3 p4 w_icache w_lcache)), .second, .val (.ref b5), .val (.ref b8), .val (.int (((p4.toUInt32 >>> ((2 : Int32) &&& 31).toUInt32).toInt32) &&& (3 : Int32))), .val .null, .val (.int (0 : Int32)), .val (.int (fn6n  w_icache w_lcache)), .val (.int (fn6m (fn1 (1 : Int32) (p0 &&& (2147483647 : Int32)) w_icache w_lcache) (fn2 (1 : Int64) (q1 &&& (9223372036854775807 : Int64)) w_icache w_lcache) (fn1 (1 : Int32) (p0 &&& (2147483647 : Int32)) w_icache w_lcache) (fn2 (1 : Int64) (q1 &&& (9223372036854775807 : Int64)) w_icache w_lcache) w_icache w_lcache)), .val (.int (1 : Int32))] [(.int (0 : Int32))])) (fun _ k => XS.iconst X36.here hx rfl (hb hby at_238) k) ?_
            exact J39 _ _ X36 e36 N36 (0 : Int32) (show (0 : Int32) = (fj0_5 p0 q1 p2 q3 p4 w_icache w_lcache) by unfold fj0_5; rw [if_neg hc40]; try rfl)
        · refine Gl.by (g' := (mkF m 125 #[.val (.int p0), .val (.long q1), .second, .val (.int p2), .val (.long q3), .second, .val (.int p4), .val (.int (fn1 (1 : Int32) (p0 &&& (2147483647 : Int32)) w_icache w_lcache)), .val (.long (fn2 (1 : Int64) (q1 &&& (9223372036854775807 : Int64)) w_icache w_lcache)), .second, .val (.int (fj0_0 p0 q1 p2 q3 p4 w_icache w_lcache)), .val (.long (fj0_1 p0 q1 p2 q3 p4 w_icache w_lcache)), .second, .val (.ref b5), .val (.ref b8), .val (.int (((p4.toUInt32 >>> ((2 : Int32) &&& 31).toUInt32).toInt32) &&& (3 : Int32))), .unset, .unset, .unset, .unset, .unset] [])) (fun _ k => XS.icmpYes X12.here hx rfl (pc0 := 116) (pc' := 125) rfl (hb hby at_116) rfl (feq hc32).2 (by decide) (by decide) k) ?_
          refine Gl.by (g' := (mkF m 127 #[.val (.int p0), .val (.long q1), .second, .val (.int p2), .val (.long q3), .second, .val (.int p4), .val (.int (fn1 (1 : Int32) (p0 &&& (2147483647 : Int32)) w_icache w_lcache)), .val (.long (fn2 (1 : Int64) (q1 &&& (9223372036854775807 : Int64)) w_icache w_lcache)), .second, .val (.int (fj0_0 p0 q1 p2 q3 p4 w_icache w_lcache)), .val (.long (fj0_1 p0 q1 p2 q3 p4 w_icache w_lcache)), .second, .val (.ref b5), .val (.ref b8), .val (.int (((p4.toUInt32 >>> ((2 : Int32) &&& 31).toUInt32).toInt32) &&& (3 : Int32))), .unset, .unset, .unset, .unset, .unset] [(.int (((p4.toUInt32 >>> ((2 : Int32) &&& 31).toUInt32).toInt32) &&& (3 : Int32)))])) (fun _ k => XS.iload X12.here hx rfl (hb hby at_125) rfl k) ?_
          refine Gl.by (g' := (mkF m 128 #[.val (.int p0), .val (.long q1), .second, .val (.int p2), .val (.long q3), .second, .val (.int p4), .val (.int (fn1 (1 : Int32) (p0 &&& (2147483647 : Int32)) w_icache w_lcache)), .val (.long (fn2 (1 : Int64) (q1 &&& (9223372036854775807 : Int64)) w_icache w_lcache)), .second, .val (.int (fj0_0 p0 q1 p2 q3 p4 w_icache w_lcache)), .val (.long (fj0_1 p0 q1 p2 q3 p4 w_icache w_lcache)), .second, .val (.ref b5), .val (.ref b8), .val (.int (((p4.toUInt32 >>> ((2 : Int32) &&& 31).toUInt32).toInt32) &&& (3 : Int32))), .unset, .unset, .unset, .unset, .unset] [(.int (2 : Int32)), (.int (((p4.toUInt32 >>> ((2 : Int32) &&& 31).toUInt32).toInt32) &&& (3 : Int32)))])) (fun _ k => XS.iconst X12.here hx rfl (hb hby at_127) k) ?_
          by_cases hc42 : (((p4.toUInt32 >>> ((2 : Int32) &&& 31).toUInt32).toInt32) &&& (3 : Int32)) = (2 : Int32)
          · refine Gl.by (g' := (mkF m 131 #[.val (.int p0), .val (.long q1), .second, .val (.int p2), .val (.long q3), .second, .val (.int p4), .val (.int (fn1 (1 : Int32) (p0 &&& (2147483647 : Int32)) w_icache w_lcache)), .val (.long (fn2 (1 : Int64) (q1 &&& (9223372036854775807 : Int64)) w_icache w_lcache)), .second, .val (.int (fj0_0 p0 q1 p2 q3 p4 w_icache w_lcache)), .val (.long (fj0_1 p0 q1 p2 q3 p4 w_icache w_lcache)), .second, .val (.ref b5), .val (.ref b8), .val (.int (((p4.toUInt32 >>> ((2 : Int32) &&& 31).toUInt32).toInt32) &&& (3 : Int32))), .unset, .unset, .unset, .unset, .unset] [])) (fun _ k => XS.icmpNo X12.here hx rfl (hb hby at_128) rfl (teq hc42).2 k) ?_
            refine Gl.by (g' := (mkF m 133 #[.val (.int p0), .val (.long q1), .second, .val (.int p2), .val (.long q3), .second, .val (.int p4), .val (.int (fn1 (1 : Int32) (p0 &&& (2147483647 : Int32)) w_icache w_lcache)), .val (.long (fn2 (1 : Int64) (q1 &&& (9223372036854775807 : Int64)) w_icache w_lcache)), .second, .val (.int (fj0_0 p0 q1 p2 q3 p4 w_icache w_lcache)), .val (.long (fj0_1 p0 q1 p2 q3 p4 w_icache w_lcache)), .second, .val (.ref b5), .val (.ref b8), .val (.int (((p4.toUInt32 >>> ((2 : Int32) &&& 31).toUInt32).toInt32) &&& (3 : Int32))), .unset, .unset, .unset, .unset, .unset] [(.int (fn1 (1 : Int32) (p0 &&& (2147483647 : Int32)) w_icache w_lcache))])) (fun _ k => XS.iload X12.here hx rfl (hb hby at_131) rfl k) ?_
            have O44 := (O13.keep Kc12 (allS gb8 all0))
            obtain ⟨_, _, ⟨T43, L43, k43, n43⟩, -, X43, ⟨Lc43, hQ43, l43, y43, z43⟩, st43⟩ := Jvm.LawKit.callS X12 hx (y := (⟨"java/lang/Integer", "valueOf", "(I)Ljava/lang/Integer;"⟩ : MethodName)) hown (mvT hZ (hw _ (List.mem_of_getElem? (i := 33) rfl))) (mvT hZ (hw _ (List.mem_of_getElem? (i := 34) rfl))) (mvT hZ (hw _ (List.mem_of_getElem? (i := 35) rfl))) (mvT hZ (hw _ (List.mem_of_getElem? (i := 36) rfl))) (by decide) (backOf (W := 0) (rm7 l Z a0' hw [] (fn1 (1 : Int32) (p0 &&& (2147483647 : Int32)) w_icache w_lcache) w_icache w_lcache T12.heap n0 O44 W ) hZ (hw _ (List.mem_of_getElem? (i := 36) rfl)) (hw _ (List.mem_of_getElem? (i := 35) rfl)) (by decide) (by decide)) (g := (mkF m 133 #[.val (.int p0), .val (.long q1), .second, .val (.int p2), .val (.long q3), .second, .val (.int p4), .val (.int (fn1 (1 : Int32) (p0 &&& (2147483647 : Int32)) w_icache w_lcache)), .val (.long (fn2 (1 : Int64) (q1 &&& (9223372036854775807 : Int64)) w_icache w_lcache)), .second, .val (.int (fj0_0 p0 q1 p2 q3 p4 w_icache w_lcache)), .val (.long (fj0_1 p0 q1 p2 q3 p4 w_icache w_lcache)), .second, .val (.ref b5), .val (.ref b8), .val (.int (((p4.toUInt32 >>> ((2 : Int32) &&& 31).toUInt32).toInt32) &&& (3 : Int32))), .unset, .unset, .unset, .unset, .unset] [(.int (fn1 (1 : Int32) (p0 &&& (2147483647 : Int32)) w_icache w_lcache))])) rfl (by rw [hml]; rfl) (argsL := [(.int (fn1 (1 : Int32) (p0 &&& (2147483647 : Int32)) w_icache w_lcache))]) (rest := []) (lenOf pd120 rfl) rfl (by show 2 * 0 + _ ≤ _; exact Nat.le_of_eq rfl) (hb hby at_133) (fun _ _ => ⟨rfl, rfl, (by decide : 2 + 1 ≤ _), (by decide : 4 + 1 ≤ _)⟩)
            dsimp only [Pt.U, Pt.locs, Pt.cells, Pt.slots] at X43 l43 y43 z43 st43 hQ43
            subst l43 y43 z43
            obtain ⟨b_43, rfl, N43q, Kc43, fc43_0⟩ := hQ43
            have N43 := Fr.app N12 N43q
            refine Gl.by (g' := (mkF m 136 #[.val (.int p0), .val (.long q1), .second, .val (.int p2), .val (.long q3), .second, .val (.int p4), .val (.int (fn1 (1 : Int32) (p0 &&& (2147483647 : Int32)) w_icache w_lcache)), .val (.long (fn2 (1 : Int64) (q1 &&& (9223372036854775807 : Int64)) w_icache w_lcache)), .second, .val (.int (fj0_0 p0 q1 p2 q3 p4 w_icache w_lcache)), .val (.long (fj0_1 p0 q1 p2 q3 p4 w_icache w_lcache)), .second, .val (.ref b5), .val (.ref b8), .val (.int (((p4.toUInt32 >>> ((2 : Int32) &&& 31).toUInt32).toInt32) &&& (3 : Int32))), .unset, .unset, .unset, .unset, .unset] [(.ref b_43)])) st43 ?_
            refine Gl.by (g' := (mkF m 138 #[.val (.int p0), .val (.long q1), .second, .val (.int p2), .val (.long q3), .second, .val (.int p4), .val (.int (fn1 (1 : Int32) (p0 &&& (2147483647 : Int32)) w_icache w_lcache)), .val (.long (fn2 (1 : Int64) (q1 &&& (9223372036854775807 : Int64)) w_icache w_lcache)), .second, .val (.int (fj0_0 p0 q1 p2 q3 p4 w_icache w_lcache)), .val (.long (fj0_1 p0 q1 p2 q3 p4 w_icache w_lcache)), .second, .val (.ref b5), .val (.ref b8), .val (.int (((p4.toUInt32 >>> ((2 : Int32) &&& 31).toUInt32).toInt32) &&& (3 : Int32))), .val (.ref b_43), .unset, .unset, .unset, .unset] [])) (fun _ k => XS.astore X43.here hx rfl (hb hby at_136) rfl rfl (l' := #[.val (.int p0), .val (.long q1), .second, .val (.int p2), .val (.long q3), .second, .val (.int p4), .val (.int (fn1 (1 : Int32) (p0 &&& (2147483647 : Int32)) w_icache w_lcache)), .val (.long (fn2 (1 : Int64) (q1 &&& (9223372036854775807 : Int64)) w_icache w_lcache)), .second, .val (.int (fj0_0 p0 q1 p2 q3 p4 w_icache w_lcache)), .val (.long (fj0_1 p0 q1 p2 q3 p4 w_icache w_lcache)), .second, .val (.ref b5), .val (.ref b8), .val (.int (((p4.toUInt32 >>> ((2 : Int32) &&& 31).toUInt32).toInt32) &&& (3 : Int32))), .val (.ref b_43), .unset, .unset, .unset, .unset]) rfl k) ?_
            refine Gl.by (g' := (mkF m 148 #[.val (.int p0), .val (.long q1), .second, .val (.int p2), .val (.long q3), .second, .val (.int p4), .val (.int (fn1 (1 : Int32) (p0 &&& (2147483647 : Int32)) w_icache w_lcache)), .val (.long (fn2 (1 : Int64) (q1 &&& (9223372036854775807 : Int64)) w_icache w_lcache)), .second, .val (.int (fj0_0 p0 q1 p2 q3 p4 w_icache w_lcache)), .val (.long (fj0_1 p0 q1 p2 q3 p4 w_icache w_lcache)), .second, .val (.ref b5), .val (.ref b8), .val (.int (((p4.toUInt32 >>> ((2 : Int32) &&& 31).toUInt32).toInt32) &&& (3 : Int32))), .val (.ref b_43), .unset, .unset, .unset, .unset] [])) (fun _ k => XS.goto X43.here hx rfl (pc0 := 138) (pc' := 148) rfl (hb hby at_138) (by decide) (by decide) k) ?_
            refine Gl.by (g' := (mkF m 150 #[.val (.int p0), .val (.long q1), .second, .val (.int p2), .val (.long q3), .second, .val (.int p4), .val (.int (fn1 (1 : Int32) (p0 &&& (2147483647 : Int32)) w_icache w_lcache)), .val (.long (fn2 (1 : Int64) (q1 &&& (9223372036854775807 : Int64)) w_icache w_lcache)), .second, .val (.int (fj0_0 p0 q1 p2 q3 p4 w_icache w_lcache)), .val (.long (fj0_1 p0 q1 p2 q3 p4 w_icache w_lcache)), .second, .val (.ref b5), .val (.ref b8), .val (.int (((p4.toUInt32 >>> ((2 : Int32) &&& 31).toUInt32).toInt32) &&& (3 : Int32))), .val (.ref b_43), .unset, .unset, .unset, .unset] [(.int (((p4.toUInt32 >>> ((2 : Int32) &&& 31).toUInt32).toInt32) &&& (3 : Int32)))])) (fun _ k => XS.iload X43.here hx rfl (hb hby at_148) rfl k) ?_
            refine Gl.by (g' := (mkF m 172 #[.val (.int p0), .val (.long q1), .second, .val (.int p2), .val (.long q3), .second, .val (.int p4), .val (.int (fn1 (1 : Int32) (p0 &&& (2147483647 : Int32)) w_icache w_lcache)), .val (.long (fn2 (1 : Int64) (q1 &&& (9223372036854775807 : Int64)) w_icache w_lcache)), .second, .val (.int (fj0_0 p0 q1 p2 q3 p4 w_icache w_lcache)), .val (.long (fj0_1 p0 q1 p2 q3 p4 w_icache w_lcache)), .second, .val (.ref b5), .val (.ref b8), .val (.int (((p4.toUInt32 >>> ((2 : Int32) &&& 31).toUInt32).toInt32) &&& (3 : Int32))), .val (.ref b_43), .unset, .unset, .unset, .unset] [])) (fun _ k => XS.ifYes X43.here hx rfl (pc0 := 150) (pc' := 172) rfl (hb hby at_150) rfl ((if0 _ _).trans (feq hc14).2) (by decide) (by decide) k) ?_
            refine Gl.by (g' := (mkF m 173 #[.val (.int p0), .val (.long q1), .second, .val (.int p2), .val (.long q3), .second, .val (.int p4), .val (.int (fn1 (1 : Int32) (p0 &&& (2147483647 : Int32)) w_icache w_lcache)), .val (.long (fn2 (1 : Int64) (q1 &&& (9223372036854775807 : Int64)) w_icache w_lcache)), .second, .val (.int (fj0_0 p0 q1 p2 q3 p4 w_icache w_lcache)), .val (.long (fj0_1 p0 q1 p2 q3 p4 w_icache w_lcache)), .second, .val (.ref b5), .val (.ref b8), .val (.int (((p4.toUInt32 >>> ((2 : Int32) &&& 31).toUInt32).toInt32) &&& (3 : Int32))), .val (.ref b_43), .unset, .unset, .unset, .unset] [(.int (0 : Int32))])) (fun _ k => XS.iconst X43.here hx rfl (hb hby at_172) k) ?_
            refine Gl.by (g' := (mkF m 175 #[.val (.int p0), .val (.long q1), .second, .val (.int p2), .val (.long q3), .second, .val (.int p4), .val (.int (fn1 (1 : Int32) (p0 &&& (2147483647 : Int32)) w_icache w_lcache)), .val (.long (fn2 (1 : Int64) (q1 &&& (9223372036854775807 : Int64)) w_icache w_lcache)), .second, .val (.int (fj0_0 p0 q1 p2 q3 p4 w_icache w_lcache)), .val (.long (fj0_1 p0 q1 p2 q3 p4 w_icache w_lcache)), .second, .val (.ref b5), .val (.ref b8), .val (.int (((p4.toUInt32 >>> ((2 : Int32) &&& 31).toUInt32).toInt32) &&& (3 : Int32))), .val (.ref b_43), .val (.int (0 : Int32)), .unset, .unset, .unset] [])) (fun _ k => XS.istore X43.here hx rfl (hb hby at_173) rfl (l' := #[.val (.int p0), .val (.long q1), .second, .val (.int p2), .val (.long q3), .second, .val (.int p4), .val (.int (fn1 (1 : Int32) (p0 &&& (2147483647 : Int32)) w_icache w_lcache)), .val (.long (fn2 (1 : Int64) (q1 &&& (9223372036854775807 : Int64)) w_icache w_lcache)), .second, .val (.int (fj0_0 p0 q1 p2 q3 p4 w_icache w_lcache)), .val (.long (fj0_1 p0 q1 p2 q3 p4 w_icache w_lcache)), .second, .val (.ref b5), .val (.ref b8), .val (.int (((p4.toUInt32 >>> ((2 : Int32) &&& 31).toUInt32).toInt32) &&& (3 : Int32))), .val (.ref b_43), .val (.int (0 : Int32)), .unset, .unset, .unset]) rfl k) ?_
            refine Gl.by (g' := (mkF m 177 #[.val (.int p0), .val (.long q1), .second, .val (.int p2), .val (.long q3), .second, .val (.int p4), .val (.int (fn1 (1 : Int32) (p0 &&& (2147483647 : Int32)) w_icache w_lcache)), .val (.long (fn2 (1 : Int64) (q1 &&& (9223372036854775807 : Int64)) w_icache w_lcache)), .second, .val (.int (fj0_0 p0 q1 p2 q3 p4 w_icache w_lcache)), .val (.long (fj0_1 p0 q1 p2 q3 p4 w_icache w_lcache)), .second, .val (.ref b5), .val (.ref b8), .val (.int (((p4.toUInt32 >>> ((2 : Int32) &&& 31).toUInt32).toInt32) &&& (3 : Int32))), .val (.ref b_43), .val (.int (0 : Int32)), .unset, .unset, .unset] [(.ref b5)])) (fun _ k => XS.aload X43.here hx rfl (hb hby at_175) rfl rfl k) ?_
            refine Gl.by (g' := (mkF m 179 #[.val (.int p0), .val (.long q1), .second, .val (.int p2), .val (.long q3), .second, .val (.int p4), .val (.int (fn1 (1 : Int32) (p0 &&& (2147483647 : Int32)) w_icache w_lcache)), .val (.long (fn2 (1 : Int64) (q1 &&& (9223372036854775807 : Int64)) w_icache w_lcache)), .second, .val (.int (fj0_0 p0 q1 p2 q3 p4 w_icache w_lcache)), .val (.long (fj0_1 p0 q1 p2 q3 p4 w_icache w_lcache)), .second, .val (.ref b5), .val (.ref b8), .val (.int (((p4.toUInt32 >>> ((2 : Int32) &&& 31).toUInt32).toInt32) &&& (3 : Int32))), .val (.ref b_43), .val (.int (0 : Int32)), .unset, .unset, .unset] [(.ref b_43), (.ref b5)])) (fun _ k => XS.aload X43.here hx rfl (hb hby at_177) rfl rfl k) ?_
            have f46 := (Exa.keep (Exa.keep (Exa.ext E8 f10) Kc12) Kc43)
            have O47 := (O44.keep Kc43 all0)
            obtain ⟨cq45, kq45, q45a, q45b, q45c⟩ := isOf hZ rfl f46
            obtain ⟨_, _, ⟨T45, L45, k45, n45⟩, -, X45, ⟨Lc45, hQ45, l45, y45, z45⟩, st45⟩ := X43.virtualBack hx (y := (⟨"com/example/libelect/libelect/Leadership", "equals", "(Ljava/lang/Object;)Z"⟩ : MethodName)) (z := (⟨"com/example/libelect/libelect/Leadership", "equals", "(Ljava/lang/Object;)Z"⟩ : MethodName)) hown (mvT hZ (hw _ (List.mem_of_getElem? (i := 26) rfl))) (mvT hZ (hw _ (List.mem_of_getElem? (i := 27) rfl))) (notFace_of_selects (args := #[]) (mvT hZ (hw _ (List.mem_of_getElem? (i := 29) rfl)))) (mvT hZ (hw _ (List.mem_of_getElem? (i := 29) rfl))) (mvT hZ (hw _ (List.mem_of_getElem? (i := 28) rfl))) (by decide) (backOf (W := 0) (rm6i l Z a0' hw [] b5 b_43 w_icache w_lcache T43.heap n0 O47 W fc43_0) hZ (hw _ (List.mem_of_getElem? (i := 30) rfl)) (hw _ (List.mem_of_getElem? (i := 11) rfl)) (by decide) (by decide)) q45a q45c (g := (mkF m 179 #[.val (.int p0), .val (.long q1), .second, .val (.int p2), .val (.long q3), .second, .val (.int p4), .val (.int (fn1 (1 : Int32) (p0 &&& (2147483647 : Int32)) w_icache w_lcache)), .val (.long (fn2 (1 : Int64) (q1 &&& (9223372036854775807 : Int64)) w_icache w_lcache)), .second, .val (.int (fj0_0 p0 q1 p2 q3 p4 w_icache w_lcache)), .val (.long (fj0_1 p0 q1 p2 q3 p4 w_icache w_lcache)), .second, .val (.ref b5), .val (.ref b8), .val (.int (((p4.toUInt32 >>> ((2 : Int32) &&& 31).toUInt32).toInt32) &&& (3 : Int32))), .val (.ref b_43), .val (.int (0 : Int32)), .unset, .unset, .unset] [(.ref b_43), (.ref b5)])) rfl (by rw [hml]; rfl) (Steps.refl _) (argsL := [(.ref b_43)]) (rest := []) (lenOf pd122 rfl) rfl (by show 2 * 0 + _ ≤ _; exact Nat.le_of_eq rfl) (hb hby at_179) (fun _ _ => ⟨rfl, rfl, (by decide : 3 + 0 ≤ _), (by decide : 5 + 0 ≤ _)⟩)
            dsimp only [Pt.U, Pt.locs, Pt.cells, Pt.slots] at X45 l45 y45 z45 st45 hQ45
            subst l45 y45 z45
            obtain ⟨rfl, N45q, e45⟩ := hQ45
            have N45 := Fr.app N43 N45q
            refine Gl.by (g' := (mkF m 182 #[.val (.int p0), .val (.long q1), .second, .val (.int p2), .val (.long q3), .second, .val (.int p4), .val (.int (fn1 (1 : Int32) (p0 &&& (2147483647 : Int32)) w_icache w_lcache)), .val (.long (fn2 (1 : Int64) (q1 &&& (9223372036854775807 : Int64)) w_icache w_lcache)), .second, .val (.int (fj0_0 p0 q1 p2 q3 p4 w_icache w_lcache)), .val (.long (fj0_1 p0 q1 p2 q3 p4 w_icache w_lcache)), .second, .val (.ref b5), .val (.ref b8), .val (.int (((p4.toUInt32 >>> ((2 : Int32) &&& 31).toUInt32).toInt32) &&& (3 : Int32))), .val (.ref b_43), .val (.int (0 : Int32)), .unset, .unset, .unset] [(.int (fn6i  w_icache w_lcache))])) (fun _ k => st45.trans k) ?_
            refine Gl.by (g' := (mkF m 184 #[.val (.int p0), .val (.long q1), .second, .val (.int p2), .val (.long q3), .second, .val (.int p4), .val (.int (fn1 (1 : Int32) (p0 &&& (2147483647 : Int32)) w_icache w_lcache)), .val (.long (fn2 (1 : Int64) (q1 &&& (9223372036854775807 : Int64)) w_icache w_lcache)), .second, .val (.int (fj0_0 p0 q1 p2 q3 p4 w_icache w_lcache)), .val (.long (fj0_1 p0 q1 p2 q3 p4 w_icache w_lcache)), .second, .val (.ref b5), .val (.ref b8), .val (.int (((p4.toUInt32 >>> ((2 : Int32) &&& 31).toUInt32).toInt32) &&& (3 : Int32))), .val (.ref b_43), .val (.int (0 : Int32)), .val (.int (fn6i  w_icache w_lcache)), .unset, .unset] [])) (fun _ k => XS.istore X45.here hx rfl (hb hby at_182) rfl (l' := #[.val (.int p0), .val (.long q1), .second, .val (.int p2), .val (.long q3), .second, .val (.int p4), .val (.int (fn1 (1 : Int32) (p0 &&& (2147483647 : Int32)) w_icache w_lcache)), .val (.long (fn2 (1 : Int64) (q1 &&& (9223372036854775807 : Int64)) w_icache w_lcache)), .second, .val (.int (fj0_0 p0 q1 p2 q3 p4 w_icache w_lcache)), .val (.long (fj0_1 p0 q1 p2 q3 p4 w_icache w_lcache)), .second, .val (.ref b5), .val (.ref b8), .val (.int (((p4.toUInt32 >>> ((2 : Int32) &&& 31).toUInt32).toInt32) &&& (3 : Int32))), .val (.ref b_43), .val (.int (0 : Int32)), .val (.int (fn6i  w_icache w_lcache)), .unset, .unset]) rfl k) ?_
            refine Gl.by (g' := (mkF m 186 #[.val (.int p0), .val (.long q1), .second, .val (.int p2), .val (.long q3), .second, .val (.int p4), .val (.int (fn1 (1 : Int32) (p0 &&& (2147483647 : Int32)) w_icache w_lcache)), .val (.long (fn2 (1 : Int64) (q1 &&& (9223372036854775807 : Int64)) w_icache w_lcache)), .second, .val (.int (fj0_0 p0 q1 p2 q3 p4 w_icache w_lcache)), .val (.long (fj0_1 p0 q1 p2 q3 p4 w_icache w_lcache)), .second, .val (.ref b5), .val (.ref b8), .val (.int (((p4.toUInt32 >>> ((2 : Int32) &&& 31).toUInt32).toInt32) &&& (3 : Int32))), .val (.ref b_43), .val (.int (0 : Int32)), .val (.int (fn6i  w_icache w_lcache)), .unset, .unset] [(.ref b5)])) (fun _ k => XS.aload X45.here hx rfl (hb hby at_184) rfl rfl k) ?_
            refine Gl.by (g' := (mkF m 188 #[.val (.int p0), .val (.long q1), .second, .val (.int p2), .val (.long q3), .second, .val (.int p4), .val (.int (fn1 (1 : Int32) (p0 &&& (2147483647 : Int32)) w_icache w_lcache)), .val (.long (fn2 (1 : Int64) (q1 &&& (9223372036854775807 : Int64)) w_icache w_lcache)), .second, .val (.int (fj0_0 p0 q1 p2 q3 p4 w_icache w_lcache)), .val (.long (fj0_1 p0 q1 p2 q3 p4 w_icache w_lcache)), .second, .val (.ref b5), .val (.ref b8), .val (.int (((p4.toUInt32 >>> ((2 : Int32) &&& 31).toUInt32).toInt32) &&& (3 : Int32))), .val (.ref b_43), .val (.int (0 : Int32)), .val (.int (fn6i  w_icache w_lcache)), .unset, .unset] [(.ref b5), (.ref b5)])) (fun _ k => XS.aload X45.here hx rfl (hb hby at_186) rfl rfl k) ?_
            have f49 := (Fld.keep (Fld.keep (Fld.ext E8 fc6_0) Kc12 (ninS ne8_0 nin0)) Kc43 nin0)
            have f50 := (Fld.keep (Fld.keep (Fld.ext E8 fc6_1) Kc12 (ninS ne8_0 nin0)) Kc43 nin0)
            obtain ⟨cq48, kq48, q48a, q48b, q48c⟩ := isOf hZ e45 f46
            obtain ⟨_, _, ⟨T48, L48, k48, n48⟩, -, X48, ⟨Lc48, hQ48, l48, y48, z48⟩, st48⟩ := X45.virtualBack hx (y := (⟨"com/example/libelect/libelect/Leadership", "equals", "(Ljava/lang/Object;)Z"⟩ : MethodName)) (z := (⟨"com/example/libelect/libelect/Leadership", "equals", "(Ljava/lang/Object;)Z"⟩ : MethodName)) hown (mvT hZ (hw _ (List.mem_of_getElem? (i := 26) rfl))) (mvT hZ (hw _ (List.mem_of_getElem? (i := 27) rfl))) (notFace_of_selects (args := #[]) (mvT hZ (hw _ (List.mem_of_getElem? (i := 29) rfl)))) (mvT hZ (hw _ (List.mem_of_getElem? (i := 29) rfl))) (mvT hZ (hw _ (List.mem_of_getElem? (i := 28) rfl))) (by decide) (backOf (W := 0) (rm6m l Z a0' hw [] b5 b5 (fn1 (1 : Int32) (p0 &&& (2147483647 : Int32)) w_icache w_lcache) (fn2 (1 : Int64) (q1 &&& (9223372036854775807 : Int64)) w_icache w_lcache) (fn1 (1 : Int32) (p0 &&& (2147483647 : Int32)) w_icache w_lcache) (fn2 (1 : Int64) (q1 &&& (9223372036854775807 : Int64)) w_icache w_lcache) w_icache w_lcache T43.heap n0 O47 W f46 f49 f50 f46 f49 f50) hZ (hw _ (List.mem_of_getElem? (i := 30) rfl)) (hw _ (List.mem_of_getElem? (i := 11) rfl)) (by decide) (by decide)) q48a q48c (g := (mkF m 188 #[.val (.int p0), .val (.long q1), .second, .val (.int p2), .val (.long q3), .second, .val (.int p4), .val (.int (fn1 (1 : Int32) (p0 &&& (2147483647 : Int32)) w_icache w_lcache)), .val (.long (fn2 (1 : Int64) (q1 &&& (9223372036854775807 : Int64)) w_icache w_lcache)), .second, .val (.int (fj0_0 p0 q1 p2 q3 p4 w_icache w_lcache)), .val (.long (fj0_1 p0 q1 p2 q3 p4 w_icache w_lcache)), .second, .val (.ref b5), .val (.ref b8), .val (.int (((p4.toUInt32 >>> ((2 : Int32) &&& 31).toUInt32).toInt32) &&& (3 : Int32))), .val (.ref b_43), .val (.int (0 : Int32)), .val (.int (fn6i  w_icache w_lcache)), .unset, .unset] [(.ref b5), (.ref b5)])) rfl (by rw [hml]; rfl) (Steps.refl _) (argsL := [(.ref b5)]) (rest := []) (lenOf pd122 rfl) rfl (by show 2 * 0 + _ ≤ _; exact Nat.le_of_eq rfl) (hb hby at_188) (fun _ _ => ⟨rfl, e45, (by decide : 3 + 0 ≤ _), (by decide : 5 + 0 ≤ _)⟩)
            dsimp only [Pt.U, Pt.locs, Pt.cells, Pt.slots] at X48 l48 y48 z48 st48 hQ48
            subst l48 y48 z48
            obtain ⟨rfl, N48q, e48⟩ := hQ48
            have N48 := Fr.app N45 N48q
            refine Gl.by (g' := (mkF m 191 #[.val (.int p0), .val (.long q1), .second, .val (.int p2), .val (.long q3), .second, .val (.int p4), .val (.int (fn1 (1 : Int32) (p0 &&& (2147483647 : Int32)) w_icache w_lcache)), .val (.long (fn2 (1 : Int64) (q1 &&& (9223372036854775807 : Int64)) w_icache w_lcache)), .second, .val (.int (fj0_0 p0 q1 p2 q3 p4 w_icache w_lcache)), .val (.long (fj0_1 p0 q1 p2 q3 p4 w_icache w_lcache)), .second, .val (.ref b5), .val (.ref b8), .val (.int (((p4.toUInt32 >>> ((2 : Int32) &&& 31).toUInt32).toInt32) &&& (3 : Int32))), .val (.ref b_43), .val (.int (0 : Int32)), .val (.int (fn6i  w_icache w_lcache)), .unset, .unset] [(.int (fn6m (fn1 (1 : Int32) (p0 &&& (2147483647 : Int32)) w_icache w_lcache) (fn2 (1 : Int64) (q1 &&& (9223372036854775807 : Int64)) w_icache w_lcache) (fn1 (1 : Int32) (p0 &&& (2147483647 : Int32)) w_icache w_lcache) (fn2 (1 : Int64) (q1 &&& (9223372036854775807 : Int64)) w_icache w_lcache) w_icache w_lcache))])) (fun _ k => st48.trans k) ?_
            refine Gl.by (g' := (mkF m 193 #[.val (.int p0), .val (.long q1), .second, .val (.int p2), .val (.long q3), .second, .val (.int p4), .val (.int (fn1 (1 : Int32) (p0 &&& (2147483647 : Int32)) w_icache w_lcache)), .val (.long (fn2 (1 : Int64) (q1 &&& (9223372036854775807 : Int64)) w_icache w_lcache)), .second, .val (.int (fj0_0 p0 q1 p2 q3 p4 w_icache w_lcache)), .val (.long (fj0_1 p0 q1 p2 q3 p4 w_icache w_lcache)), .second, .val (.ref b5), .val (.ref b8), .val (.int (((p4.toUInt32 >>> ((2 : Int32) &&& 31).toUInt32).toInt32) &&& (3 : Int32))), .val (.ref b_43), .val (.int (0 : Int32)), .val (.int (fn6i  w_icache w_lcache)), .val (.int (fn6m (fn1 (1 : Int32) (p0 &&& (2147483647 : Int32)) w_icache w_lcache) (fn2 (1 : Int64) (q1 &&& (9223372036854775807 : Int64)) w_icache w_lcache) (fn1 (1 : Int32) (p0 &&& (2147483647 : Int32)) w_icache w_lcache) (fn2 (1 : Int64) (q1 &&& (9223372036854775807 : Int64)) w_icache w_lcache) w_icache w_lcache)), .unset] [])) (fun _ k => XS.istore X48.here hx rfl (hb hby at_191) rfl (l' := #[.val (.int p0), .val (.long q1), .second, .val (.int p2), .val (.long q3), .second, .val (.int p4), .val (.int (fn1 (1 : Int32) (p0 &&& (2147483647 : Int32)) w_icache w_lcache)), .val (.long (fn2 (1 : Int64) (q1 &&& (9223372036854775807 : Int64)) w_icache w_lcache)), .second, .val (.int (fj0_0 p0 q1 p2 q3 p4 w_icache w_lcache)), .val (.long (fj0_1 p0 q1 p2 q3 p4 w_icache w_lcache)), .second, .val (.ref b5), .val (.ref b8), .val (.int (((p4.toUInt32 >>> ((2 : Int32) &&& 31).toUInt32).toInt32) &&& (3 : Int32))), .val (.ref b_43), .val (.int (0 : Int32)), .val (.int (fn6i  w_icache w_lcache)), .val (.int (fn6m (fn1 (1 : Int32) (p0 &&& (2147483647 : Int32)) w_icache w_lcache) (fn2 (1 : Int64) (q1 &&& (9223372036854775807 : Int64)) w_icache w_lcache) (fn1 (1 : Int32) (p0 &&& (2147483647 : Int32)) w_icache w_lcache) (fn2 (1 : Int64) (q1 &&& (9223372036854775807 : Int64)) w_icache w_lcache) w_icache w_lcache)), .unset]) rfl k) ?_
            refine Gl.by (g' := (mkF m 195 #[.val (.int p0), .val (.long q1), .second, .val (.int p2), .val (.long q3), .second, .val (.int p4), .val (.int (fn1 (1 : Int32) (p0 &&& (2147483647 : Int32)) w_icache w_lcache)), .val (.long (fn2 (1 : Int64) (q1 &&& (9223372036854775807 : Int64)) w_icache w_lcache)), .second, .val (.int (fj0_0 p0 q1 p2 q3 p4 w_icache w_lcache)), .val (.long (fj0_1 p0 q1 p2 q3 p4 w_icache w_lcache)), .second, .val (.ref b5), .val (.ref b8), .val (.int (((p4.toUInt32 >>> ((2 : Int32) &&& 31).toUInt32).toInt32) &&& (3 : Int32))), .val (.ref b_43), .val (.int (0 : Int32)), .val (.int (fn6i  w_icache w_lcache)), .val (.int (fn6m (fn1 (1 : Int32) (p0 &&& (2147483647 : Int32)) w_icache w_lcache) (fn2 (1 : Int64) (q1 &&& (9223372036854775807 : Int64)) w_icache w_lcache) (fn1 (1 : Int32) (p0 &&& (2147483647 : Int32)) w_icache w_lcache) (fn2 (1 : Int64) (q1 &&& (9223372036854775807 : Int64)) w_icache w_lcache) w_icache w_lcache)), .unset] [(.int (((p4.toUInt32 >>> ((2 : Int32) &&& 31).toUInt32).toInt32) &&& (3 : Int32)))])) (fun _ k => XS.iload X48.here hx rfl (hb hby at_193) rfl k) ?_
            refine Gl.by (g' := (mkF m 210 #[.val (.int p0), .val (.long q1), .second, .val (.int p2), .val (.long q3), .second, .val (.int p4), .val (.int (fn1 (1 : Int32) (p0 &&& (2147483647 : Int32)) w_icache w_lcache)), .val (.long (fn2 (1 : Int64) (q1 &&& (9223372036854775807 : Int64)) w_icache w_lcache)), .second, .val (.int (fj0_0 p0 q1 p2 q3 p4 w_icache w_lcache)), .val (.long (fj0_1 p0 q1 p2 q3 p4 w_icache w_lcache)), .second, .val (.ref b5), .val (.ref b8), .val (.int (((p4.toUInt32 >>> ((2 : Int32) &&& 31).toUInt32).toInt32) &&& (3 : Int32))), .val (.ref b_43), .val (.int (0 : Int32)), .val (.int (fn6i  w_icache w_lcache)), .val (.int (fn6m (fn1 (1 : Int32) (p0 &&& (2147483647 : Int32)) w_icache w_lcache) (fn2 (1 : Int64) (q1 &&& (9223372036854775807 : Int64)) w_icache w_lcache) (fn1 (1 : Int32) (p0 &&& (2147483647 : Int32)) w_icache w_lcache) (fn2 (1 : Int64) (q1 &&& (9223372036854775807 : Int64)) w_icache w_lcache) w_icache w_lcache)), .unset] [])) (fun _ k => XS.ifYes X48.here hx rfl (pc0 := 195) (pc' := 210) rfl (hb hby at_195) rfl ((if0 _ _).trans (feq hc14).2) (by decide) (by decide) k) ?_
            refine Gl.by (g' := (mkF m 211 #[.val (.int p0), .val (.long q1), .second, .val (.int p2), .val (.long q3), .second, .val (.int p4), .val (.int (fn1 (1 : Int32) (p0 &&& (2147483647 : Int32)) w_icache w_lcache)), .val (.long (fn2 (1 : Int64) (q1 &&& (9223372036854775807 : Int64)) w_icache w_lcache)), .second, .val (.int (fj0_0 p0 q1 p2 q3 p4 w_icache w_lcache)), .val (.long (fj0_1 p0 q1 p2 q3 p4 w_icache w_lcache)), .second, .val (.ref b5), .val (.ref b8), .val (.int (((p4.toUInt32 >>> ((2 : Int32) &&& 31).toUInt32).toInt32) &&& (3 : Int32))), .val (.ref b_43), .val (.int (0 : Int32)), .val (.int (fn6i  w_icache w_lcache)), .val (.int (fn6m (fn1 (1 : Int32) (p0 &&& (2147483647 : Int32)) w_icache w_lcache) (fn2 (1 : Int64) (q1 &&& (9223372036854775807 : Int64)) w_icache w_lcache) (fn1 (1 : Int32) (p0 &&& (2147483647 : Int32)) w_icache w_lcache) (fn2 (1 : Int64) (q1 &&& (9223372036854775807 : Int64)) w_icache w_lcache) w_icache w_lcache)), .unset] [(.int (1 : Int32))])) (fun _ k => XS.iconst X48.here hx rfl (hb hby at_210) k) ?_
            refine Gl.by (g' := (mkF m 215 #[.val (.int p0), .val (.long q1), .second, .val (.int p2), .val (.long q3), .second, .val (.int p4), .val (.int (fn1 (1 : Int32) (p0 &&& (2147483647 : Int32)) w_icache w_lcache)), .val (.long (fn2 (1 : Int64) (q1 &&& (9223372036854775807 : Int64)) w_icache w_lcache)), .second, .val (.int (fj0_0 p0 q1 p2 q3 p4 w_icache w_lcache)), .val (.long (fj0_1 p0 q1 p2 q3 p4 w_icache w_lcache)), .second, .val (.ref b5), .val (.ref b8), .val (.int (((p4.toUInt32 >>> ((2 : Int32) &&& 31).toUInt32).toInt32) &&& (3 : Int32))), .val (.ref b_43), .val (.int (0 : Int32)), .val (.int (fn6i  w_icache w_lcache)), .val (.int (fn6m (fn1 (1 : Int32) (p0 &&& (2147483647 : Int32)) w_icache w_lcache) (fn2 (1 : Int64) (q1 &&& (9223372036854775807 : Int64)) w_icache w_lcache) (fn1 (1 : Int32) (p0 &&& (2147483647 : Int32)) w_icache w_lcache) (fn2 (1 : Int64) (q1 &&& (9223372036854775807 : Int64)) w_icache w_lcache) w_icache w_lcache)), .unset] [(.int (1 : Int32))])) (fun _ k => XS.goto X48.here hx rfl (pc0 := 211) (pc' := 215) rfl (hb hby at_211) (by decide) (by decide) k) ?_
            refine Gl.by (g' := (mkF m 217 #[.val (.int p0), .val (.long q1), .second, .val (.int p2), .val (.long q3), .second, .val (.int p4), .val (.int (fn1 (1 : Int32) (p0 &&& (2147483647 : Int32)) w_icache w_lcache)), .val (.long (fn2 (1 : Int64) (q1 &&& (9223372036854775807 : Int64)) w_icache w_lcache)), .second, .val (.int (fj0_0 p0 q1 p2 q3 p4 w_icache w_lcache)), .val (.long (fj0_1 p0 q1 p2 q3 p4 w_icache w_lcache)), .second, .val (.ref b5), .val (.ref b8), .val (.int (((p4.toUInt32 >>> ((2 : Int32) &&& 31).toUInt32).toInt32) &&& (3 : Int32))), .val (.ref b_43), .val (.int (0 : Int32)), .val (.int (fn6i  w_icache w_lcache)), .val (.int (fn6m (fn1 (1 : Int32) (p0 &&& (2147483647 : Int32)) w_icache w_lcache) (fn2 (1 : Int64) (q1 &&& (9223372036854775807 : Int64)) w_icache w_lcache) (fn1 (1 : Int32) (p0 &&& (2147483647 : Int32)) w_icache w_lcache) (fn2 (1 : Int64) (q1 &&& (9223372036854775807 : Int64)) w_icache w_lcache) w_icache w_lcache)), .val (.int (1 : Int32))] [])) (fun _ k => XS.istore X48.here hx rfl (hb hby at_215) rfl (l' := #[.val (.int p0), .val (.long q1), .second, .val (.int p2), .val (.long q3), .second, .val (.int p4), .val (.int (fn1 (1 : Int32) (p0 &&& (2147483647 : Int32)) w_icache w_lcache)), .val (.long (fn2 (1 : Int64) (q1 &&& (9223372036854775807 : Int64)) w_icache w_lcache)), .second, .val (.int (fj0_0 p0 q1 p2 q3 p4 w_icache w_lcache)), .val (.long (fj0_1 p0 q1 p2 q3 p4 w_icache w_lcache)), .second, .val (.ref b5), .val (.ref b8), .val (.int (((p4.toUInt32 >>> ((2 : Int32) &&& 31).toUInt32).toInt32) &&& (3 : Int32))), .val (.ref b_43), .val (.int (0 : Int32)), .val (.int (fn6i  w_icache w_lcache)), .val (.int (fn6m (fn1 (1 : Int32) (p0 &&& (2147483647 : Int32)) w_icache w_lcache) (fn2 (1 : Int64) (q1 &&& (9223372036854775807 : Int64)) w_icache w_lcache) (fn1 (1 : Int32) (p0 &&& (2147483647 : Int32)) w_icache w_lcache) (fn2 (1 : Int64) (q1 &&& (9223372036854775807 : Int64)) w_icache w_lcache) w_icache w_lcache)), .val (.int (1 : Int32))]) rfl k) ?_
            refine Gl.by (g' := (mkF m 219 #[.val (.int p0), .val (.long q1), .second, .val (.int p2), .val (.long q3), .second, .val (.int p4), .val (.int (fn1 (1 : Int32) (p0 &&& (2147483647 : Int32)) w_icache w_lcache)), .val (.long (fn2 (1 : Int64) (q1 &&& (9223372036854775807 : Int64)) w_icache w_lcache)), .second, .val (.int (fj0_0 p0 q1 p2 q3 p4 w_icache w_lcache)), .val (.long (fj0_1 p0 q1 p2 q3 p4 w_icache w_lcache)), .second, .val (.ref b5), .val (.ref b8), .val (.int (((p4.toUInt32 >>> ((2 : Int32) &&& 31).toUInt32).toInt32) &&& (3 : Int32))), .val (.ref b_43), .val (.int (0 : Int32)), .val (.int (fn6i  w_icache w_lcache)), .val (.int (fn6m (fn1 (1 : Int32) (p0 &&& (2147483647 : Int32)) w_icache w_lcache) (fn2 (1 : Int64) (q1 &&& (9223372036854775807 : Int64)) w_icache w_lcache) (fn1 (1 : Int32) (p0 &&& (2147483647 : Int32)) w_icache w_lcache) (fn2 (1 : Int64) (q1 &&& (9223372036854775807 : Int64)) w_icache w_lcache) w_icache w_lcache)), .val (.int (1 : Int32))] [(.int (fn6i  w_icache w_lcache))])) (fun _ k => XS.iload X48.here hx rfl (hb hby at_217) rfl k) ?_
            refine Gl.by (g' := (mkF m 221 #[.val (.int p0), .val (.long q1), .second, .val (.int p2), .val (.long q3), .second, .val (.int p4), .val (.int (fn1 (1 : Int32) (p0 &&& (2147483647 : Int32)) w_icache w_lcache)), .val (.long (fn2 (1 : Int64) (q1 &&& (9223372036854775807 : Int64)) w_icache w_lcache)), .second, .val (.int (fj0_0 p0 q1 p2 q3 p4 w_icache w_lcache)), .val (.long (fj0_1 p0 q1 p2 q3 p4 w_icache w_lcache)), .second, .val (.ref b5), .val (.ref b8), .val (.int (((p4.toUInt32 >>> ((2 : Int32) &&& 31).toUInt32).toInt32) &&& (3 : Int32))), .val (.ref b_43), .val (.int (0 : Int32)), .val (.int (fn6i  w_icache w_lcache)), .val (.int (fn6m (fn1 (1 : Int32) (p0 &&& (2147483647 : Int32)) w_icache w_lcache) (fn2 (1 : Int64) (q1 &&& (9223372036854775807 : Int64)) w_icache w_lcache) (fn1 (1 : Int32) (p0 &&& (2147483647 : Int32)) w_icache w_lcache) (fn2 (1 : Int64) (q1 &&& (9223372036854775807 : Int64)) w_icache w_lcache) w_icache w_lcache)), .val (.int (1 : Int32))] [(.int (0 : Int32)), (.int (fn6i  w_icache w_lcache))])) (fun _ k => XS.iload X48.here hx rfl (hb hby at_219) rfl k) ?_
            have J51 : ∀ (T' : State) (lc : List Loc) (X' : Stand p l e room_1 s m #[(.int p0), (.long q1), (.int p2), (.long q3), (.int p4)] below meth c T' lc 3 5) (eT : T'.heap = T43.heap) (N' : Fr n0 lc) (zj51_0 : Int32) (hz51_0 : zj51_0 = (fj0_6 p0 q1 p2 q3 p4 w_icache w_lcache)), Gl p e below (Pos 16 128 (Q0 Z p0 q1 p2 q3 p4 w_icache w_lcache h0 n0) s) T' (mkF m 239 #[.val (.int p0), .val (.long q1), .second, .val (.int p2), .val (.long q3), .second, .val (.int p4), .val (.int (fn1 (1 : Int32) (p0 &&& (2147483647 : Int32)) w_icache w_lcache)), .val (.long (fn2 (1 : Int64) (q1 &&& (9223372036854775807 : Int64)) w_icache w_lcache)), .second, .val (.int (fj0_0 p0 q1 p2 q3 p4 w_icache w_lcache)), .val (.long (fj0_1 p0 q1 p2 q3 p4 w_icache w_lcache)), .second, .val (.ref b5), .val (.ref b8), .val (.int (((p4.toUInt32 >>> ((2 : Int32) &&& 31).toUInt32).toInt32) &&& (3 : Int32))), .val (.ref b_43), .val (.int (0 : Int32)), .val (.int (fn6i  w_icache w_lcache)), .val (.int (fn6m (fn1 (1 : Int32) (p0 &&& (2147483647 : Int32)) w_icache w_lcache) (fn2 (1 : Int64) (q1 &&& (9223372036854775807 : Int64)) w_icache w_lcache) (fn1 (1 : Int32) (p0 &&& (2147483647 : Int32)) w_icache w_lcache) (fn2 (1 : Int64) (q1 &&& (9223372036854775807 : Int64)) w_icache w_lcache) w_icache w_lcache)), .val (.int (1 : Int32))] [(.int zj51_0)]) := by
              intro T' lc X' eT N' zj51_0 hz51_0
              subst hz51_0
              exact Gl.outN X' hx hk (t := .boolean) Bd.returns (by simp) (hb hby at_239) ⟨(congrArg (fun z => some (Value.int z)) (show nar .boolean (fj0_6 p0 q1 p2 q3 p4 w_icache w_lcache) = fn0 p0 q1 p2 q3 p4 w_icache w_lcache by unfold fn0; rw [if_neg hc14, if_neg hc32, if_pos hc42]; try rfl)), N'⟩ (by decide) (by decide)
            by_cases hc52 : (fn6i  w_icache w_lcache) = (0 : Int32)
            · refine Gl.by (g' := (mkF m 224 #[.val (.int p0), .val (.long q1), .second, .val (.int p2), .val (.long q3), .second, .val (.int p4), .val (.int (fn1 (1 : Int32) (p0 &&& (2147483647 : Int32)) w_icache w_lcache)), .val (.long (fn2 (1 : Int64) (q1 &&& (9223372036854775807 : Int64)) w_icache w_lcache)), .second, .val (.int (fj0_0 p0 q1 p2 q3 p4 w_icache w_lcache)), .val (.long (fj0_1 p0 q1 p2 q3 p4 w_icache w_lcache)), .second, .val (.ref b5), .val (.ref b8), .val (.int (((p4.toUInt32 >>> ((2 : Int32) &&& 31).toUInt32).toInt32) &&& (3 : Int32))), .val (.ref b_43), .val (.int (0 : Int32)), .val (.int (fn6i  w_icache w_lcache)), .val (.int (fn6m (fn1 (1 : Int32) (p0 &&& (2147483647 : Int32)) w_icache w_lcache) (fn2 (1 : Int64) (q1 &&& (9223372036854775807 : Int64)) w_icache w_lcache) (fn1 (1 : Int32) (p0 &&& (2147483647 : Int32)) w_icache w_lcache) (fn2 (1 : Int64) (q1 &&& (9223372036854775807 : Int64)) w_icache w_lcache) w_icache w_lcache)), .val (.int (1 : Int32))] [])) (fun _ k => XS.icmpNo X48.here hx rfl (hb hby at_221) rfl (teq hc52).2 k) ?_
              refine Gl.by (g' := (mkF m 226 #[.val (.int p0), .val (.long q1), .second, .val (.int p2), .val (.long q3), .second, .val (.int p4), .val (.int (fn1 (1 : Int32) (p0 &&& (2147483647 : Int32)) w_icache w_lcache)), .val (.long (fn2 (1 : Int64) (q1 &&& (9223372036854775807 : Int64)) w_icache w_lcache)), .second, .val (.int (fj0_0 p0 q1 p2 q3 p4 w_icache w_lcache)), .val (.long (fj0_1 p0 q1 p2 q3 p4 w_icache w_lcache)), .second, .val (.ref b5), .val (.ref b8), .val (.int (((p4.toUInt32 >>> ((2 : Int32) &&& 31).toUInt32).toInt32) &&& (3 : Int32))), .val (.ref b_43), .val (.int (0 : Int32)), .val (.int (fn6i  w_icache w_lcache)), .val (.int (fn6m (fn1 (1 : Int32) (p0 &&& (2147483647 : Int32)) w_icache w_lcache) (fn2 (1 : Int64) (q1 &&& (9223372036854775807 : Int64)) w_icache w_lcache) (fn1 (1 : Int32) (p0 &&& (2147483647 : Int32)) w_icache w_lcache) (fn2 (1 : Int64) (q1 &&& (9223372036854775807 : Int64)) w_icache w_lcache) w_icache w_lcache)), .val (.int (1 : Int32))] [(.int (fn6m (fn1 (1 : Int32) (p0 &&& (2147483647 : Int32)) w_icache w_lcache) (fn2 (1 : Int64) (q1 &&& (9223372036854775807 : Int64)) w_icache w_lcache) (fn1 (1 : Int32) (p0 &&& (2147483647 : Int32)) w_icache w_lcache) (fn2 (1 : Int64) (q1 &&& (9223372036854775807 : Int64)) w_icache w_lcache) w_icache w_lcache))])) (fun _ k => XS.iload X48.here hx rfl (hb hby at_224) rfl k) ?_
              by_cases hc53 : (fn6m (fn1 (1 : Int32) (p0 &&& (2147483647 : Int32)) w_icache w_lcache) (fn2 (1 : Int64) (q1 &&& (9223372036854775807 : Int64)) w_icache w_lcache) (fn1 (1 : Int32) (p0 &&& (2147483647 : Int32)) w_icache w_lcache) (fn2 (1 : Int64) (q1 &&& (9223372036854775807 : Int64)) w_icache w_lcache) w_icache w_lcache) = (0 : Int32)
              · refine Gl.by (g' := (mkF m 238 #[.val (.int p0), .val (.long q1), .second, .val (.int p2), .val (.long q3), .second, .val (.int p4), .val (.int (fn1 (1 : Int32) (p0 &&& (2147483647 : Int32)) w_icache w_lcache)), .val (.long (fn2 (1 : Int64) (q1 &&& (9223372036854775807 : Int64)) w_icache w_lcache)), .second, .val (.int (fj0_0 p0 q1 p2 q3 p4 w_icache w_lcache)), .val (.long (fj0_1 p0 q1 p2 q3 p4 w_icache w_lcache)), .second, .val (.ref b5), .val (.ref b8), .val (.int (((p4.toUInt32 >>> ((2 : Int32) &&& 31).toUInt32).toInt32) &&& (3 : Int32))), .val (.ref b_43), .val (.int (0 : Int32)), .val (.int (fn6i  w_icache w_lcache)), .val (.int (fn6m (fn1 (1 : Int32) (p0 &&& (2147483647 : Int32)) w_icache w_lcache) (fn2 (1 : Int64) (q1 &&& (9223372036854775807 : Int64)) w_icache w_lcache) (fn1 (1 : Int32) (p0 &&& (2147483647 : Int32)) w_icache w_lcache) (fn2 (1 : Int64) (q1 &&& (9223372036854775807 : Int64)) w_icache w_lcache) w_icache w_lcache)), .val (.int (1 : Int32))] [])) (fun _ k => XS.ifYes X48.here hx rfl (pc0 := 226) (pc' := 238) rfl (hb hby at_226) rfl ((if0 _ _).trans (teq hc53).1) (by decide) (by decide) k) ?_
                refine Gl.by (g' := (mkF m 239 #[.val (.int p0), .val (.long q1), .second, .val (.int p2), .val (.long q3), .second, .val (.int p4), .val (.int (fn1 (1 : Int32) (p0 &&& (2147483647 : Int32)) w_icache w_lcache)), .val (.long (fn2 (1 : Int64) (q1 &&& (9223372036854775807 : Int64)) w_icache w_lcache)), .second, .val (.int (fj0_0 p0 q1 p2 q3 p4 w_icache w_lcache)), .val (.long (fj0_1 p0 q1 p2 q3 p4 w_icache w_lcache)), .second, .val (.ref b5), .val (.ref b8), .val (.int (((p4.toUInt32 >>> ((2 : Int32) &&& 31).toUInt32).toInt32) &&& (3 : Int32))), .val (.ref b_43), .val (.int (0 : Int32)), .val (.int (fn6i  w_icache w_lcache)), .val (.int (fn6m (fn1 (1 : Int32) (p0 &&& (2147483647 : Int32)) w_icache w_lcache) (fn2 (1 : Int64) (q1 &&& (9223372036854775807 : Int64)) w_icache w_lcache) (fn1 (1 : Int32) (p0 &&& (2147483647 : Int32)) w_icache w_lcache) (fn2 (1 : Int64) (q1 &&& (9223372036854775807 : Int64)) w_icache w_lcache) w_icache w_lcache)), .val (.int (1 : Int32))] [(.int (0 : Int32))])) (fun _ k => XS.iconst X48.here hx rfl (hb hby at_238) k) ?_
                exact J51 _ _ X48 e48 N48 (0 : Int32) (show (0 : Int32) = (fj0_6 p0 q1 p2 q3 p4 w_icache w_lcache) by unfold fj0_6; rw [if_pos hc52, if_pos hc53]; try rfl)
              · refine Gl.by (g' := (mkF m 229 #[.val (.int p0), .val (.long q1), .second, .val (.int p2), .val (.long q3), .second, .val (.int p4), .val (.int (fn1 (1 : Int32) (p0 &&& (2147483647 : Int32)) w_icache w_lcache)), .val (.long (fn2 (1 : Int64) (q1 &&& (9223372036854775807 : Int64)) w_icache w_lcache)), .second, .val (.int (fj0_0 p0 q1 p2 q3 p4 w_icache w_lcache)), .val (.long (fj0_1 p0 q1 p2 q3 p4 w_icache w_lcache)), .second, .val (.ref b5), .val (.ref b8), .val (.int (((p4.toUInt32 >>> ((2 : Int32) &&& 31).toUInt32).toInt32) &&& (3 : Int32))), .val (.ref b_43), .val (.int (0 : Int32)), .val (.int (fn6i  w_icache w_lcache)), .val (.int (fn6m (fn1 (1 : Int32) (p0 &&& (2147483647 : Int32)) w_icache w_lcache) (fn2 (1 : Int64) (q1 &&& (9223372036854775807 : Int64)) w_icache w_lcache) (fn1 (1 : Int32) (p0 &&& (2147483647 : Int32)) w_icache w_lcache) (fn2 (1 : Int64) (q1 &&& (9223372036854775807 : Int64)) w_icache w_lcache) w_icache w_lcache)), .val (.int (1 : Int32))] [])) (fun _ k => XS.ifNo X48.here hx rfl (hb hby at_226) rfl ((if0 _ _).trans (feq hc53).1) k) ?_
                refine Gl.by (g' := (mkF m 231 #[.val (.int p0), .val (.long q1), .second, .val (.int p2), .val (.long q3), .second, .val (.int p4), .val (.int (fn1 (1 : Int32) (p0 &&& (2147483647 : Int32)) w_icache w_lcache)), .val (.long (fn2 (1 : Int64) (q1 &&& (9223372036854775807 : Int64)) w_icache w_lcache)), .second, .val (.int (fj0_0 p0 q1 p2 q3 p4 w_icache w_lcache)), .val (.long (fj0_1 p0 q1 p2 q3 p4 w_icache w_lcache)), .second, .val (.ref b5), .val (.ref b8), .val (.int (((p4.toUInt32 >>> ((2 : Int32) &&& 31).toUInt32).toInt32) &&& (3 : Int32))), .val (.ref b_43), .val (.int (0 : Int32)), .val (.int (fn6i  w_icache w_lcache)), .val (.int (fn6m (fn1 (1 : Int32) (p0 &&& (2147483647 : Int32)) w_icache w_lcache) (fn2 (1 : Int64) (q1 &&& (9223372036854775807 : Int64)) w_icache w_lcache) (fn1 (1 : Int32) (p0 &&& (2147483647 : Int32)) w_icache w_lcache) (fn2 (1 : Int64) (q1 &&& (9223372036854775807 : Int64)) w_icache w_lcache) w_icache w_lcache)), .val (.int (1 : Int32))] [(.int (1 : Int32))])) (fun _ k => XS.iload X48.here hx rfl (hb hby at_229) rfl k) ?_
                refine Gl.by (g' := (mkF m 234 #[.val (.int p0), .val (.long q1), .second, .val (.int p2), .val (.long q3), .second, .val (.int p4), .val (.int (fn1 (1 : Int32) (p0 &&& (2147483647 : Int32)) w_icache w_lcache)), .val (.long (fn2 (1 : Int64) (q1 &&& (9223372036854775807 : Int64)) w_icache w_lcache)), .second, .val (.int (fj0_0 p0 q1 p2 q3 p4 w_icache w_lcache)), .val (.long (fj0_1 p0 q1 p2 q3 p4 w_icache w_lcache)), .second, .val (.ref b5), .val (.ref b8), .val (.int (((p4.toUInt32 >>> ((2 : Int32) &&& 31).toUInt32).toInt32) &&& (3 : Int32))), .val (.ref b_43), .val (.int (0 : Int32)), .val (.int (fn6i  w_icache w_lcache)), .val (.int (fn6m (fn1 (1 : Int32) (p0 &&& (2147483647 : Int32)) w_icache w_lcache) (fn2 (1 : Int64) (q1 &&& (9223372036854775807 : Int64)) w_icache w_lcache) (fn1 (1 : Int32) (p0 &&& (2147483647 : Int32)) w_icache w_lcache) (fn2 (1 : Int64) (q1 &&& (9223372036854775807 : Int64)) w_icache w_lcache) w_icache w_lcache)), .val (.int (1 : Int32))] [])) (fun _ k => XS.ifNo X48.here hx rfl (hb hby at_231) rfl ((if0 _ _).trans (feq (by decide : ¬ ((1 : Int32) = (0 : Int32)))).1) k) ?_
                refine Gl.by (g' := (mkF m 235 #[.val (.int p0), .val (.long q1), .second, .val (.int p2), .val (.long q3), .second, .val (.int p4), .val (.int (fn1 (1 : Int32) (p0 &&& (2147483647 : Int32)) w_icache w_lcache)), .val (.long (fn2 (1 : Int64) (q1 &&& (9223372036854775807 : Int64)) w_icache w_lcache)), .second, .val (.int (fj0_0 p0 q1 p2 q3 p4 w_icache w_lcache)), .val (.long (fj0_1 p0 q1 p2 q3 p4 w_icache w_lcache)), .second, .val (.ref b5), .val (.ref b8), .val (.int (((p4.toUInt32 >>> ((2 : Int32) &&& 31).toUInt32).toInt32) &&& (3 : Int32))), .val (.ref b_43), .val (.int (0 : Int32)), .val (.int (fn6i  w_icache w_lcache)), .val (.int (fn6m (fn1 (1 : Int32) (p0 &&& (2147483647 : Int32)) w_icache w_lcache) (fn2 (1 : Int64) (q1 &&& (9223372036854775807 : Int64)) w_icache w_lcache) (fn1 (1 : Int32) (p0 &&& (2147483647 : Int32)) w_icache w_lcache) (fn2 (1 : Int64) (q1 &&& (9223372036854775807 : Int64)) w_icache w_lcache) w_icache w_lcache)), .val (.int (1 : Int32))] [(.int (1 : Int32))])) (fun _ k => XS.iconst X48.here hx rfl (hb hby at_234) k) ?_
                refine Gl.by (g' := (mkF m 239 #[.val (.int p0), .val (.long q1), .second, .val (.int p2), .val (.long q3), .second, .val (.int p4), .val (.int (fn1 (1 : Int32) (p0 &&& (2147483647 : Int32)) w_icache w_lcache)), .val (.long (fn2 (1 : Int64) (q1 &&& (9223372036854775807 : Int64)) w_icache w_lcache)), .second, .val (.int (fj0_0 p0 q1 p2 q3 p4 w_icache w_lcache)), .val (.long (fj0_1 p0 q1 p2 q3 p4 w_icache w_lcache)), .second, .val (.ref b5), .val (.ref b8), .val (.int (((p4.toUInt32 >>> ((2 : Int32) &&& 31).toUInt32).toInt32) &&& (3 : Int32))), .val (.ref b_43), .val (.int (0 : Int32)), .val (.int (fn6i  w_icache w_lcache)), .val (.int (fn6m (fn1 (1 : Int32) (p0 &&& (2147483647 : Int32)) w_icache w_lcache) (fn2 (1 : Int64) (q1 &&& (9223372036854775807 : Int64)) w_icache w_lcache) (fn1 (1 : Int32) (p0 &&& (2147483647 : Int32)) w_icache w_lcache) (fn2 (1 : Int64) (q1 &&& (9223372036854775807 : Int64)) w_icache w_lcache) w_icache w_lcache)), .val (.int (1 : Int32))] [(.int (1 : Int32))])) (fun _ k => XS.goto X48.here hx rfl (pc0 := 235) (pc' := 239) rfl (hb hby at_235) (by decide) (by decide) k) ?_
                exact J51 _ _ X48 e48 N48 (1 : Int32) (show (1 : Int32) = (fj0_6 p0 q1 p2 q3 p4 w_icache w_lcache) by unfold fj0_6; rw [if_pos hc52, if_neg hc53]; try rfl)
            · refine Gl.by (g' := (mkF m 238 #[.val (.int p0), .val (.long q1), .second, .val (.int p2), .val (.long q3), .second, .val (.int p4), .val (.int (fn1 (1 : Int32) (p0 &&& (2147483647 : Int32)) w_icache w_lcache)), .val (.long (fn2 (1 : Int64) (q1 &&& (9223372036854775807 : Int64)) w_icache w_lcache)), .second, .val (.int (fj0_0 p0 q1 p2 q3 p4 w_icache w_lcache)), .val (.long (fj0_1 p0 q1 p2 q3 p4 w_icache w_lcache)), .second, .val (.ref b5), .val (.ref b8), .val (.int (((p4.toUInt32 >>> ((2 : Int32) &&& 31).toUInt32).toInt32) &&& (3 : Int32))), .val (.ref b_43), .val (.int (0 : Int32)), .val (.int (fn6i  w_icache w_lcache)), .val (.int (fn6m (fn1 (1 : Int32) (p0 &&& (2147483647 : Int32)) w_icache w_lcache) (fn2 (1 : Int64) (q1 &&& (9223372036854775807 : Int64)) w_icache w_lcache) (fn1 (1 : Int32) (p0 &&& (2147483647 : Int32)) w_icache w_lcache) (fn2 (1 : Int64) (q1 &&& (9223372036854775807 : Int64)) w_icache w_lcache) w_icache w_lcache)), .val (.int (1 : Int32))] [])) (fun _ k => XS.icmpYes X48.here hx rfl (pc0 := 221) (pc' := 238) rfl (hb hby at_221) rfl (feq hc52).2 (by decide) (by decide) k) ?_
              refine Gl.by (g' := (mkF m 239 #[.val (.int p0), .val (.long q1), .second, .val (.int p2), .val (.long q3), .second, .val (.int p4), .val (.int (fn1 (1 : Int32) (p0 &&& (2147483647 : Int32)) w_icache w_lcache)), .val (.long (fn2 (1 : Int64) (q1 &&& (9223372036854775807 : Int64)) w_icache w_lcache)), .second, .val (.int (fj0_0 p0 q1 p2 q3 p4 w_icache w_lcache)), .val (.long (fj0_1 p0 q1 p2 q3 p4 w_icache w_lcache)), .second, .val (.ref b5), .val (.ref b8), .val (.int (((p4.toUInt32 >>> ((2 : Int32) &&& 31).toUInt32).toInt32) &&& (3 : Int32))), .val (.ref b_43), .val (.int (0 : Int32)), .val (.int (fn6i  w_icache w_lcache)), .val (.int (fn6m (fn1 (1 : Int32) (p0 &&& (2147483647 : Int32)) w_icache w_lcache) (fn2 (1 : Int64) (q1 &&& (9223372036854775807 : Int64)) w_icache w_lcache) (fn1 (1 : Int32) (p0 &&& (2147483647 : Int32)) w_icache w_lcache) (fn2 (1 : Int64) (q1 &&& (9223372036854775807 : Int64)) w_icache w_lcache) w_icache w_lcache)), .val (.int (1 : Int32))] [(.int (0 : Int32))])) (fun _ k => XS.iconst X48.here hx rfl (hb hby at_238) k) ?_
              exact J51 _ _ X48 e48 N48 (0 : Int32) (show (0 : Int32) = (fj0_6 p0 q1 p2 q3 p4 w_icache w_lcache) by unfold fj0_6; rw [if_neg hc52]; try rfl)
          · refine Gl.by (g' := (mkF m 141 #[.val (.int p0), .val (.long q1), .second, .val (.int p2), .val (.long q3), .second, .val (.int p4), .val (.int (fn1 (1 : Int32) (p0 &&& (2147483647 : Int32)) w_icache w_lcache)), .val (.long (fn2 (1 : Int64) (q1 &&& (9223372036854775807 : Int64)) w_icache w_lcache)), .second, .val (.int (fj0_0 p0 q1 p2 q3 p4 w_icache w_lcache)), .val (.long (fj0_1 p0 q1 p2 q3 p4 w_icache w_lcache)), .second, .val (.ref b5), .val (.ref b8), .val (.int (((p4.toUInt32 >>> ((2 : Int32) &&& 31).toUInt32).toInt32) &&& (3 : Int32))), .unset, .unset, .unset, .unset, .unset] [])) (fun _ k => XS.icmpYes X12.here hx rfl (pc0 := 128) (pc' := 141) rfl (hb hby at_128) rfl (feq hc42).2 (by decide) (by decide) k) ?_
            refine Gl.by (g' := (mkF m 143 #[.val (.int p0), .val (.long q1), .second, .val (.int p2), .val (.long q3), .second, .val (.int p4), .val (.int (fn1 (1 : Int32) (p0 &&& (2147483647 : Int32)) w_icache w_lcache)), .val (.long (fn2 (1 : Int64) (q1 &&& (9223372036854775807 : Int64)) w_icache w_lcache)), .second, .val (.int (fj0_0 p0 q1 p2 q3 p4 w_icache w_lcache)), .val (.long (fj0_1 p0 q1 p2 q3 p4 w_icache w_lcache)), .second, .val (.ref b5), .val (.ref b8), .val (.int (((p4.toUInt32 >>> ((2 : Int32) &&& 31).toUInt32).toInt32) &&& (3 : Int32))), .unset, .unset, .unset, .unset, .unset] [(.long (fn2 (1 : Int64) (q1 &&& (9223372036854775807 : Int64)) w_icache w_lcache))])) (fun _ k => XS.lload X12.here hx rfl (hb hby at_141) rfl k) ?_
            have O55 := (O13.keep Kc12 (allS gb8 all0))
            obtain ⟨_, _, ⟨T54, L54, k54, n54⟩, -, X54, ⟨Lc54, hQ54, l54, y54, z54⟩, st54⟩ := Jvm.LawKit.callS X12 hx (y := (⟨"java/lang/Long", "valueOf", "(J)Ljava/lang/Long;"⟩ : MethodName)) hown (mvT hZ (hw _ (List.mem_of_getElem? (i := 43) rfl))) (mvT hZ (hw _ (List.mem_of_getElem? (i := 44) rfl))) (mvT hZ (hw _ (List.mem_of_getElem? (i := 45) rfl))) (mvT hZ (hw _ (List.mem_of_getElem? (i := 46) rfl))) (by decide) (backOf (W := 0) (rm8 l Z a0' hw [] (fn2 (1 : Int64) (q1 &&& (9223372036854775807 : Int64)) w_icache w_lcache) w_icache w_lcache T12.heap n0 O55 W ) hZ (hw _ (List.mem_of_getElem? (i := 46) rfl)) (hw _ (List.mem_of_getElem? (i := 45) rfl)) (by decide) (by decide)) (g := (mkF m 143 #[.val (.int p0), .val (.long q1), .second, .val (.int p2), .val (.long q3), .second, .val (.int p4), .val (.int (fn1 (1 : Int32) (p0 &&& (2147483647 : Int32)) w_icache w_lcache)), .val (.long (fn2 (1 : Int64) (q1 &&& (9223372036854775807 : Int64)) w_icache w_lcache)), .second, .val (.int (fj0_0 p0 q1 p2 q3 p4 w_icache w_lcache)), .val (.long (fj0_1 p0 q1 p2 q3 p4 w_icache w_lcache)), .second, .val (.ref b5), .val (.ref b8), .val (.int (((p4.toUInt32 >>> ((2 : Int32) &&& 31).toUInt32).toInt32) &&& (3 : Int32))), .unset, .unset, .unset, .unset, .unset] [(.long (fn2 (1 : Int64) (q1 &&& (9223372036854775807 : Int64)) w_icache w_lcache))])) rfl (by rw [hml]; rfl) (argsL := [(.long (fn2 (1 : Int64) (q1 &&& (9223372036854775807 : Int64)) w_icache w_lcache))]) (rest := []) (lenOf pd121 rfl) rfl (by show 2 * 0 + _ ≤ _; exact Nat.le_of_eq rfl) (hb hby at_143) (fun _ _ => ⟨rfl, rfl, (by decide : 2 + 1 ≤ _), (by decide : 4 + 1 ≤ _)⟩)
            dsimp only [Pt.U, Pt.locs, Pt.cells, Pt.slots] at X54 l54 y54 z54 st54 hQ54
            subst l54 y54 z54
            obtain ⟨b_54, rfl, N54q, Kc54, fc54_0⟩ := hQ54
            have N54 := Fr.app N12 N54q
            refine Gl.by (g' := (mkF m 146 #[.val (.int p0), .val (.long q1), .second, .val (.int p2), .val (.long q3), .second, .val (.int p4), .val (.int (fn1 (1 : Int32) (p0 &&& (2147483647 : Int32)) w_icache w_lcache)), .val (.long (fn2 (1 : Int64) (q1 &&& (9223372036854775807 : Int64)) w_icache w_lcache)), .second, .val (.int (fj0_0 p0 q1 p2 q3 p4 w_icache w_lcache)), .val (.long (fj0_1 p0 q1 p2 q3 p4 w_icache w_lcache)), .second, .val (.ref b5), .val (.ref b8), .val (.int (((p4.toUInt32 >>> ((2 : Int32) &&& 31).toUInt32).toInt32) &&& (3 : Int32))), .unset, .unset, .unset, .unset, .unset] [(.ref b_54)])) st54 ?_
            refine Gl.by (g' := (mkF m 148 #[.val (.int p0), .val (.long q1), .second, .val (.int p2), .val (.long q3), .second, .val (.int p4), .val (.int (fn1 (1 : Int32) (p0 &&& (2147483647 : Int32)) w_icache w_lcache)), .val (.long (fn2 (1 : Int64) (q1 &&& (9223372036854775807 : Int64)) w_icache w_lcache)), .second, .val (.int (fj0_0 p0 q1 p2 q3 p4 w_icache w_lcache)), .val (.long (fj0_1 p0 q1 p2 q3 p4 w_icache w_lcache)), .second, .val (.ref b5), .val (.ref b8), .val (.int (((p4.toUInt32 >>> ((2 : Int32) &&& 31).toUInt32).toInt32) &&& (3 : Int32))), .val (.ref b_54), .unset, .unset, .unset, .unset] [])) (fun _ k => XS.astore X54.here hx rfl (hb hby at_146) rfl rfl (l' := #[.val (.int p0), .val (.long q1), .second, .val (.int p2), .val (.long q3), .second, .val (.int p4), .val (.int (fn1 (1 : Int32) (p0 &&& (2147483647 : Int32)) w_icache w_lcache)), .val (.long (fn2 (1 : Int64) (q1 &&& (9223372036854775807 : Int64)) w_icache w_lcache)), .second, .val (.int (fj0_0 p0 q1 p2 q3 p4 w_icache w_lcache)), .val (.long (fj0_1 p0 q1 p2 q3 p4 w_icache w_lcache)), .second, .val (.ref b5), .val (.ref b8), .val (.int (((p4.toUInt32 >>> ((2 : Int32) &&& 31).toUInt32).toInt32) &&& (3 : Int32))), .val (.ref b_54), .unset, .unset, .unset, .unset]) rfl k) ?_
            refine Gl.by (g' := (mkF m 150 #[.val (.int p0), .val (.long q1), .second, .val (.int p2), .val (.long q3), .second, .val (.int p4), .val (.int (fn1 (1 : Int32) (p0 &&& (2147483647 : Int32)) w_icache w_lcache)), .val (.long (fn2 (1 : Int64) (q1 &&& (9223372036854775807 : Int64)) w_icache w_lcache)), .second, .val (.int (fj0_0 p0 q1 p2 q3 p4 w_icache w_lcache)), .val (.long (fj0_1 p0 q1 p2 q3 p4 w_icache w_lcache)), .second, .val (.ref b5), .val (.ref b8), .val (.int (((p4.toUInt32 >>> ((2 : Int32) &&& 31).toUInt32).toInt32) &&& (3 : Int32))), .val (.ref b_54), .unset, .unset, .unset, .unset] [(.int (((p4.toUInt32 >>> ((2 : Int32) &&& 31).toUInt32).toInt32) &&& (3 : Int32)))])) (fun _ k => XS.iload X54.here hx rfl (hb hby at_148) rfl k) ?_
            refine Gl.by (g' := (mkF m 172 #[.val (.int p0), .val (.long q1), .second, .val (.int p2), .val (.long q3), .second, .val (.int p4), .val (.int (fn1 (1 : Int32) (p0 &&& (2147483647 : Int32)) w_icache w_lcache)), .val (.long (fn2 (1 : Int64) (q1 &&& (9223372036854775807 : Int64)) w_icache w_lcache)), .second, .val (.int (fj0_0 p0 q1 p2 q3 p4 w_icache w_lcache)), .val (.long (fj0_1 p0 q1 p2 q3 p4 w_icache w_lcache)), .second, .val (.ref b5), .val (.ref b8), .val (.int (((p4.toUInt32 >>> ((2 : Int32) &&& 31).toUInt32).toInt32) &&& (3 : Int32))), .val (.ref b_54), .unset, .unset, .unset, .unset] [])) (fun _ k => XS.ifYes X54.here hx rfl (pc0 := 150) (pc' := 172) rfl (hb hby at_150) rfl ((if0 _ _).trans (feq hc14).2) (by decide) (by decide) k) ?_
            refine Gl.by (g' := (mkF m 173 #[.val (.int p0), .val (.long q1), .second, .val (.int p2), .val (.long q3), .second, .val (.int p4), .val (.int (fn1 (1 : Int32) (p0 &&& (2147483647 : Int32)) w_icache w_lcache)), .val (.long (fn2 (1 : Int64) (q1 &&& (9223372036854775807 : Int64)) w_icache w_lcache)), .second, .val (.int (fj0_0 p0 q1 p2 q3 p4 w_icache w_lcache)), .val (.long (fj0_1 p0 q1 p2 q3 p4 w_icache w_lcache)), .second, .val (.ref b5), .val (.ref b8), .val (.int (((p4.toUInt32 >>> ((2 : Int32) &&& 31).toUInt32).toInt32) &&& (3 : Int32))), .val (.ref b_54), .unset, .unset, .unset, .unset] [(.int (0 : Int32))])) (fun _ k => XS.iconst X54.here hx rfl (hb hby at_172) k) ?_
            refine Gl.by (g' := (mkF m 175 #[.val (.int p0), .val (.long q1), .second, .val (.int p2), .val (.long q3), .second, .val (.int p4), .val (.int (fn1 (1 : Int32) (p0 &&& (2147483647 : Int32)) w_icache w_lcache)), .val (.long (fn2 (1 : Int64) (q1 &&& (9223372036854775807 : Int64)) w_icache w_lcache)), .second, .val (.int (fj0_0 p0 q1 p2 q3 p4 w_icache w_lcache)), .val (.long (fj0_1 p0 q1 p2 q3 p4 w_icache w_lcache)), .second, .val (.ref b5), .val (.ref b8), .val (.int (((p4.toUInt32 >>> ((2 : Int32) &&& 31).toUInt32).toInt32) &&& (3 : Int32))), .val (.ref b_54), .val (.int (0 : Int32)), .unset, .unset, .unset] [])) (fun _ k => XS.istore X54.here hx rfl (hb hby at_173) rfl (l' := #[.val (.int p0), .val (.long q1), .second, .val (.int p2), .val (.long q3), .second, .val (.int p4), .val (.int (fn1 (1 : Int32) (p0 &&& (2147483647 : Int32)) w_icache w_lcache)), .val (.long (fn2 (1 : Int64) (q1 &&& (9223372036854775807 : Int64)) w_icache w_lcache)), .second, .val (.int (fj0_0 p0 q1 p2 q3 p4 w_icache w_lcache)), .val (.long (fj0_1 p0 q1 p2 q3 p4 w_icache w_lcache)), .second, .val (.ref b5), .val (.ref b8), .val (.int (((p4.toUInt32 >>> ((2 : Int32) &&& 31).toUInt32).toInt32) &&& (3 : Int32))), .val (.ref b_54), .val (.int (0 : Int32)), .unset, .unset, .unset]) rfl k) ?_
            refine Gl.by (g' := (mkF m 177 #[.val (.int p0), .val (.long q1), .second, .val (.int p2), .val (.long q3), .second, .val (.int p4), .val (.int (fn1 (1 : Int32) (p0 &&& (2147483647 : Int32)) w_icache w_lcache)), .val (.long (fn2 (1 : Int64) (q1 &&& (9223372036854775807 : Int64)) w_icache w_lcache)), .second, .val (.int (fj0_0 p0 q1 p2 q3 p4 w_icache w_lcache)), .val (.long (fj0_1 p0 q1 p2 q3 p4 w_icache w_lcache)), .second, .val (.ref b5), .val (.ref b8), .val (.int (((p4.toUInt32 >>> ((2 : Int32) &&& 31).toUInt32).toInt32) &&& (3 : Int32))), .val (.ref b_54), .val (.int (0 : Int32)), .unset, .unset, .unset] [(.ref b5)])) (fun _ k => XS.aload X54.here hx rfl (hb hby at_175) rfl rfl k) ?_
            refine Gl.by (g' := (mkF m 179 #[.val (.int p0), .val (.long q1), .second, .val (.int p2), .val (.long q3), .second, .val (.int p4), .val (.int (fn1 (1 : Int32) (p0 &&& (2147483647 : Int32)) w_icache w_lcache)), .val (.long (fn2 (1 : Int64) (q1 &&& (9223372036854775807 : Int64)) w_icache w_lcache)), .second, .val (.int (fj0_0 p0 q1 p2 q3 p4 w_icache w_lcache)), .val (.long (fj0_1 p0 q1 p2 q3 p4 w_icache w_lcache)), .second, .val (.ref b5), .val (.ref b8), .val (.int (((p4.toUInt32 >>> ((2 : Int32) &&& 31).toUInt32).toInt32) &&& (3 : Int32))), .val (.ref b_54), .val (.int (0 : Int32)), .unset, .unset, .unset] [(.ref b_54), (.ref b5)])) (fun _ k => XS.aload X54.here hx rfl (hb hby at_177) rfl rfl k) ?_
            have f57 := (Exa.keep (Exa.keep (Exa.ext E8 f10) Kc12) Kc54)
            have O58 := (O55.keep Kc54 all0)
            obtain ⟨cq56, kq56, q56a, q56b, q56c⟩ := isOf hZ rfl f57
            obtain ⟨_, _, ⟨T56, L56, k56, n56⟩, -, X56, ⟨Lc56, hQ56, l56, y56, z56⟩, st56⟩ := X54.virtualBack hx (y := (⟨"com/example/libelect/libelect/Leadership", "equals", "(Ljava/lang/Object;)Z"⟩ : MethodName)) (z := (⟨"com/example/libelect/libelect/Leadership", "equals", "(Ljava/lang/Object;)Z"⟩ : MethodName)) hown (mvT hZ (hw _ (List.mem_of_getElem? (i := 26) rfl))) (mvT hZ (hw _ (List.mem_of_getElem? (i := 27) rfl))) (notFace_of_selects (args := #[]) (mvT hZ (hw _ (List.mem_of_getElem? (i := 29) rfl)))) (mvT hZ (hw _ (List.mem_of_getElem? (i := 29) rfl))) (mvT hZ (hw _ (List.mem_of_getElem? (i := 28) rfl))) (by decide) (backOf (W := 0) (rm6l l Z a0' hw [] b5 b_54 w_icache w_lcache T54.heap n0 O58 W fc54_0) hZ (hw _ (List.mem_of_getElem? (i := 30) rfl)) (hw _ (List.mem_of_getElem? (i := 11) rfl)) (by decide) (by decide)) q56a q56c (g := (mkF m 179 #[.val (.int p0), .val (.long q1), .second, .val (.int p2), .val (.long q3), .second, .val (.int p4), .val (.int (fn1 (1 : Int32) (p0 &&& (2147483647 : Int32)) w_icache w_lcache)), .val (.long (fn2 (1 : Int64) (q1 &&& (9223372036854775807 : Int64)) w_icache w_lcache)), .second, .val (.int (fj0_0 p0 q1 p2 q3 p4 w_icache w_lcache)), .val (.long (fj0_1 p0 q1 p2 q3 p4 w_icache w_lcache)), .second, .val (.ref b5), .val (.ref b8), .val (.int (((p4.toUInt32 >>> ((2 : Int32) &&& 31).toUInt32).toInt32) &&& (3 : Int32))), .val (.ref b_54), .val (.int (0 : Int32)), .unset, .unset, .unset] [(.ref b_54), (.ref b5)])) rfl (by rw [hml]; rfl) (Steps.refl _) (argsL := [(.ref b_54)]) (rest := []) (lenOf pd122 rfl) rfl (by show 2 * 0 + _ ≤ _; exact Nat.le_of_eq rfl) (hb hby at_179) (fun _ _ => ⟨rfl, rfl, (by decide : 3 + 0 ≤ _), (by decide : 5 + 0 ≤ _)⟩)
            dsimp only [Pt.U, Pt.locs, Pt.cells, Pt.slots] at X56 l56 y56 z56 st56 hQ56
            subst l56 y56 z56
            obtain ⟨rfl, N56q, e56⟩ := hQ56
            have N56 := Fr.app N54 N56q
            refine Gl.by (g' := (mkF m 182 #[.val (.int p0), .val (.long q1), .second, .val (.int p2), .val (.long q3), .second, .val (.int p4), .val (.int (fn1 (1 : Int32) (p0 &&& (2147483647 : Int32)) w_icache w_lcache)), .val (.long (fn2 (1 : Int64) (q1 &&& (9223372036854775807 : Int64)) w_icache w_lcache)), .second, .val (.int (fj0_0 p0 q1 p2 q3 p4 w_icache w_lcache)), .val (.long (fj0_1 p0 q1 p2 q3 p4 w_icache w_lcache)), .second, .val (.ref b5), .val (.ref b8), .val (.int (((p4.toUInt32 >>> ((2 : Int32) &&& 31).toUInt32).toInt32) &&& (3 : Int32))), .val (.ref b_54), .val (.int (0 : Int32)), .unset, .unset, .unset] [(.int (fn6l  w_icache w_lcache))])) (fun _ k => st56.trans k) ?_
            refine Gl.by (g' := (mkF m 184 #[.val (.int p0), .val (.long q1), .second, .val (.int p2), .val (.long q3), .second, .val (.int p4), .val (.int (fn1 (1 : Int32) (p0 &&& (2147483647 : Int32)) w_icache w_lcache)), .val (.long (fn2 (1 : Int64) (q1 &&& (9223372036854775807 : Int64)) w_icache w_lcache)), .second, .val (.int (fj0_0 p0 q1 p2 q3 p4 w_icache w_lcache)), .val (.long (fj0_1 p0 q1 p2 q3 p4 w_icache w_lcache)), .second, .val (.ref b5), .val (.ref b8), .val (.int (((p4.toUInt32 >>> ((2 : Int32) &&& 31).toUInt32).toInt32) &&& (3 : Int32))), .val (.ref b_54), .val (.int (0 : Int32)), .val (.int (fn6l  w_icache w_lcache)), .unset, .unset] [])) (fun _ k => XS.istore X56.here hx rfl (hb hby at_182) rfl (l' := #[.val (.int p0), .val (.long q1), .second, .val (.int p2), .val (.long q3), .second, .val (.int p4), .val (.int (fn1 (1 : Int32) (p0 &&& (2147483647 : Int32)) w_icache w_lcache)), .val (.long (fn2 (1 : Int64) (q1 &&& (9223372036854775807 : Int64)) w_icache w_lcache)), .second, .val (.int (fj0_0 p0 q1 p2 q3 p4 w_icache w_lcache)), .val (.long (fj0_1 p0 q1 p2 q3 p4 w_icache w_lcache)), .second, .val (.ref b5), .val (.ref b8), .val (.int (((p4.toUInt32 >>> ((2 : Int32) &&& 31).toUInt32).toInt32) &&& (3 : Int32))), .val (.ref b_54), .val (.int (0 : Int32)), .val (.int (fn6l  w_icache w_lcache)), .unset, .unset]) rfl k) ?_
            refine Gl.by (g' := (mkF m 186 #[.val (.int p0), .val (.long q1), .second, .val (.int p2), .val (.long q3), .second, .val (.int p4), .val (.int (fn1 (1 : Int32) (p0 &&& (2147483647 : Int32)) w_icache w_lcache)), .val (.long (fn2 (1 : Int64) (q1 &&& (9223372036854775807 : Int64)) w_icache w_lcache)), .second, .val (.int (fj0_0 p0 q1 p2 q3 p4 w_icache w_lcache)), .val (.long (fj0_1 p0 q1 p2 q3 p4 w_icache w_lcache)), .second, .val (.ref b5), .val (.ref b8), .val (.int (((p4.toUInt32 >>> ((2 : Int32) &&& 31).toUInt32).toInt32) &&& (3 : Int32))), .val (.ref b_54), .val (.int (0 : Int32)), .val (.int (fn6l  w_icache w_lcache)), .unset, .unset] [(.ref b5)])) (fun _ k => XS.aload X56.here hx rfl (hb hby at_184) rfl rfl k) ?_
            refine Gl.by (g' := (mkF m 188 #[.val (.int p0), .val (.long q1), .second, .val (.int p2), .val (.long q3), .second, .val (.int p4), .val (.int (fn1 (1 : Int32) (p0 &&& (2147483647 : Int32)) w_icache w_lcache)), .val (.long (fn2 (1 : Int64) (q1 &&& (9223372036854775807 : Int64)) w_icache w_lcache)), .second, .val (.int (fj0_0 p0 q1 p2 q3 p4 w_icache w_lcache)), .val (.long (fj0_1 p0 q1 p2 q3 p4 w_icache w_lcache)), .second, .val (.ref b5), .val (.ref b8), .val (.int (((p4.toUInt32 >>> ((2 : Int32) &&& 31).toUInt32).toInt32) &&& (3 : Int32))), .val (.ref b_54), .val (.int (0 : Int32)), .val (.int (fn6l  w_icache w_lcache)), .unset, .unset] [(.ref b5), (.ref b5)])) (fun _ k => XS.aload X56.here hx rfl (hb hby at_186) rfl rfl k) ?_
            have f60 := (Fld.keep (Fld.keep (Fld.ext E8 fc6_0) Kc12 (ninS ne8_0 nin0)) Kc54 nin0)
            have f61 := (Fld.keep (Fld.keep (Fld.ext E8 fc6_1) Kc12 (ninS ne8_0 nin0)) Kc54 nin0)
            obtain ⟨cq59, kq59, q59a, q59b, q59c⟩ := isOf hZ e56 f57
            obtain ⟨_, _, ⟨T59, L59, k59, n59⟩, -, X59, ⟨Lc59, hQ59, l59, y59, z59⟩, st59⟩ := X56.virtualBack hx (y := (⟨"com/example/libelect/libelect/Leadership", "equals", "(Ljava/lang/Object;)Z"⟩ : MethodName)) (z := (⟨"com/example/libelect/libelect/Leadership", "equals", "(Ljava/lang/Object;)Z"⟩ : MethodName)) hown (mvT hZ (hw _ (List.mem_of_getElem? (i := 26) rfl))) (mvT hZ (hw _ (List.mem_of_getElem? (i := 27) rfl))) (notFace_of_selects (args := #[]) (mvT hZ (hw _ (List.mem_of_getElem? (i := 29) rfl)))) (mvT hZ (hw _ (List.mem_of_getElem? (i := 29) rfl))) (mvT hZ (hw _ (List.mem_of_getElem? (i := 28) rfl))) (by decide) (backOf (W := 0) (rm6m l Z a0' hw [] b5 b5 (fn1 (1 : Int32) (p0 &&& (2147483647 : Int32)) w_icache w_lcache) (fn2 (1 : Int64) (q1 &&& (9223372036854775807 : Int64)) w_icache w_lcache) (fn1 (1 : Int32) (p0 &&& (2147483647 : Int32)) w_icache w_lcache) (fn2 (1 : Int64) (q1 &&& (9223372036854775807 : Int64)) w_icache w_lcache) w_icache w_lcache T54.heap n0 O58 W f57 f60 f61 f57 f60 f61) hZ (hw _ (List.mem_of_getElem? (i := 30) rfl)) (hw _ (List.mem_of_getElem? (i := 11) rfl)) (by decide) (by decide)) q59a q59c (g := (mkF m 188 #[.val (.int p0), .val (.long q1), .second, .val (.int p2), .val (.long q3), .second, .val (.int p4), .val (.int (fn1 (1 : Int32) (p0 &&& (2147483647 : Int32)) w_icache w_lcache)), .val (.long (fn2 (1 : Int64) (q1 &&& (9223372036854775807 : Int64)) w_icache w_lcache)), .second, .val (.int (fj0_0 p0 q1 p2 q3 p4 w_icache w_lcache)), .val (.long (fj0_1 p0 q1 p2 q3 p4 w_icache w_lcache)), .second, .val (.ref b5), .val (.ref b8), .val (.int (((p4.toUInt32 >>> ((2 : Int32) &&& 31).toUInt32).toInt32) &&& (3 : Int32))), .val (.ref b_54), .val (.int (0 : Int32)), .val (.int (fn6l  w_icache w_lcache)), .unset, .unset] [(.ref b5), (.ref b5)])) rfl (by rw [hml]; rfl) (Steps.refl _) (argsL := [(.ref b5)]) (rest := []) (lenOf pd122 rfl) rfl (by show 2 * 0 + _ ≤ _; exact Nat.le_of_eq rfl) (hb hby at_188) (fun _ _ => ⟨rfl, e56, (by decide : 3 + 0 ≤ _), (by decide : 5 + 0 ≤ _)⟩)
            dsimp only [Pt.U, Pt.locs, Pt.cells, Pt.slots] at X59 l59 y59 z59 st59 hQ59
            subst l59 y59 z59
            obtain ⟨rfl, N59q, e59⟩ := hQ59
            have N59 := Fr.app N56 N59q
            refine Gl.by (g' := (mkF m 191 #[.val (.int p0), .val (.long q1), .second, .val (.int p2), .val (.long q3), .second, .val (.int p4), .val (.int (fn1 (1 : Int32) (p0 &&& (2147483647 : Int32)) w_icache w_lcache)), .val (.long (fn2 (1 : Int64) (q1 &&& (9223372036854775807 : Int64)) w_icache w_lcache)), .second, .val (.int (fj0_0 p0 q1 p2 q3 p4 w_icache w_lcache)), .val (.long (fj0_1 p0 q1 p2 q3 p4 w_icache w_lcache)), .second, .val (.ref b5), .val (.ref b8), .val (.int (((p4.toUInt32 >>> ((2 : Int32) &&& 31).toUInt32).toInt32) &&& (3 : Int32))), .val (.ref b_54), .val (.int (0 : Int32)), .val (.int (fn6l  w_icache w_lcache)), .unset, .unset] [(.int (fn6m (fn1 (1 : Int32) (p0 &&& (2147483647 : Int32)) w_icache w_lcache) (fn2 (1 : Int64) (q1 &&& (9223372036854775807 : Int64)) w_icache w_lcache) (fn1 (1 : Int32) (p0 &&& (2147483647 : Int32)) w_icache w_lcache) (fn2 (1 : Int64) (q1 &&& (9223372036854775807 : Int64)) w_icache w_lcache) w_icache w_lcache))])) (fun _ k => st59.trans k) ?_
            refine Gl.by (g' := (mkF m 193 #[.val (.int p0), .val (.long q1), .second, .val (.int p2), .val (.long q3), .second, .val (.int p4), .val (.int (fn1 (1 : Int32) (p0 &&& (2147483647 : Int32)) w_icache w_lcache)), .val (.long (fn2 (1 : Int64) (q1 &&& (9223372036854775807 : Int64)) w_icache w_lcache)), .second, .val (.int (fj0_0 p0 q1 p2 q3 p4 w_icache w_lcache)), .val (.long (fj0_1 p0 q1 p2 q3 p4 w_icache w_lcache)), .second, .val (.ref b5), .val (.ref b8), .val (.int (((p4.toUInt32 >>> ((2 : Int32) &&& 31).toUInt32).toInt32) &&& (3 : Int32))), .val (.ref b_54), .val (.int (0 : Int32)), .val (.int (fn6l  w_icache w_lcache)), .val (.int (fn6m (fn1 (1 : Int32) (p0 &&& (2147483647 : Int32)) w_icache w_lcache) (fn2 (1 : Int64) (q1 &&& (9223372036854775807 : Int64)) w_icache w_lcache) (fn1 (1 : Int32) (p0 &&& (2147483647 : Int32)) w_icache w_lcache) (fn2 (1 : Int64) (q1 &&& (9223372036854775807 : Int64)) w_icache w_lcache) w_icache w_lcache)), .unset] [])) (fun _ k => XS.istore X59.here hx rfl (hb hby at_191) rfl (l' := #[.val (.int p0), .val (.long q1), .second, .val (.int p2), .val (.long q3), .second, .val (.int p4), .val (.int (fn1 (1 : Int32) (p0 &&& (2147483647 : Int32)) w_icache w_lcache)), .val (.long (fn2 (1 : Int64) (q1 &&& (9223372036854775807 : Int64)) w_icache w_lcache)), .second, .val (.int (fj0_0 p0 q1 p2 q3 p4 w_icache w_lcache)), .val (.long (fj0_1 p0 q1 p2 q3 p4 w_icache w_lcache)), .second, .val (.ref b5), .val (.ref b8), .val (.int (((p4.toUInt32 >>> ((2 : Int32) &&& 31).toUInt32).toInt32) &&& (3 : Int32))), .val (.ref b_54), .val (.int (0 : Int32)), .val (.int (fn6l  w_icache w_lcache)), .val (.int (fn6m (fn1 (1 : Int32) (p0 &&& (2147483647 : Int32)) w_icache w_lcache) (fn2 (1 : Int64) (q1 &&& (9223372036854775807 : Int64)) w_icache w_lcache) (fn1 (1 : Int32) (p0 &&& (2147483647 : Int32)) w_icache w_lcache) (fn2 (1 : Int64) (q1 &&& (9223372036854775807 : Int64)) w_icache w_lcache) w_icache w_lcache)), .unset]) rfl k) ?_
            refine Gl.by (g' := (mkF m 195 #[.val (.int p0), .val (.long q1), .second, .val (.int p2), .val (.long q3), .second, .val (.int p4), .val (.int (fn1 (1 : Int32) (p0 &&& (2147483647 : Int32)) w_icache w_lcache)), .val (.long (fn2 (1 : Int64) (q1 &&& (9223372036854775807 : Int64)) w_icache w_lcache)), .second, .val (.int (fj0_0 p0 q1 p2 q3 p4 w_icache w_lcache)), .val (.long (fj0_1 p0 q1 p2 q3 p4 w_icache w_lcache)), .second, .val (.ref b5), .val (.ref b8), .val (.int (((p4.toUInt32 >>> ((2 : Int32) &&& 31).toUInt32).toInt32) &&& (3 : Int32))), .val (.ref b_54), .val (.int (0 : Int32)), .val (.int (fn6l  w_icache w_lcache)), .val (.int (fn6m (fn1 (1 : Int32) (p0 &&& (2147483647 : Int32)) w_icache w_lcache) (fn2 (1 : Int64) (q1 &&& (9223372036854775807 : Int64)) w_icache w_lcache) (fn1 (1 : Int32) (p0 &&& (2147483647 : Int32)) w_icache w_lcache) (fn2 (1 : Int64) (q1 &&& (9223372036854775807 : Int64)) w_icache w_lcache) w_icache w_lcache)), .unset] [(.int (((p4.toUInt32 >>> ((2 : Int32) &&& 31).toUInt32).toInt32) &&& (3 : Int32)))])) (fun _ k => XS.iload X59.here hx rfl (hb hby at_193) rfl k) ?_
            refine Gl.by (g' := (mkF m 210 #[.val (.int p0), .val (.long q1), .second, .val (.int p2), .val (.long q3), .second, .val (.int p4), .val (.int (fn1 (1 : Int32) (p0 &&& (2147483647 : Int32)) w_icache w_lcache)), .val (.long (fn2 (1 : Int64) (q1 &&& (9223372036854775807 : Int64)) w_icache w_lcache)), .second, .val (.int (fj0_0 p0 q1 p2 q3 p4 w_icache w_lcache)), .val (.long (fj0_1 p0 q1 p2 q3 p4 w_icache w_lcache)), .second, .val (.ref b5), .val (.ref b8), .val (.int (((p4.toUInt32 >>> ((2 : Int32) &&& 31).toUInt32).toInt32) &&& (3 : Int32))), .val (.ref b_54), .val (.int (0 : Int32)), .val (.int (fn6l  w_icache w_lcache)), .val (.int (fn6m (fn1 (1 : Int32) (p0 &&& (2147483647 : Int32)) w_icache w_lcache) (fn2 (1 : Int64) (q1 &&& (9223372036854775807 : Int64)) w_icache w_lcache) (fn1 (1 : Int32) (p0 &&& (2147483647 : Int32)) w_icache w_lcache) (fn2 (1 : Int64) (q1 &&& (9223372036854775807 : Int64)) w_icache w_lcache) w_icache w_lcache)), .unset] [])) (fun _ k => XS.ifYes X59.here hx rfl (pc0 := 195) (pc' := 210) rfl (hb hby at_195) rfl ((if0 _ _).trans (feq hc14).2) (by decide) (by decide) k) ?_
            refine Gl.by (g' := (mkF m 211 #[.val (.int p0), .val (.long q1), .second, .val (.int p2), .val (.long q3), .second, .val (.int p4), .val (.int (fn1 (1 : Int32) (p0 &&& (2147483647 : Int32)) w_icache w_lcache)), .val (.long (fn2 (1 : Int64) (q1 &&& (9223372036854775807 : Int64)) w_icache w_lcache)), .second, .val (.int (fj0_0 p0 q1 p2 q3 p4 w_icache w_lcache)), .val (.long (fj0_1 p0 q1 p2 q3 p4 w_icache w_lcache)), .second, .val (.ref b5), .val (.ref b8), .val (.int (((p4.toUInt32 >>> ((2 : Int32) &&& 31).toUInt32).toInt32) &&& (3 : Int32))), .val (.ref b_54), .val (.int (0 : Int32)), .val (.int (fn6l  w_icache w_lcache)), .val (.int (fn6m (fn1 (1 : Int32) (p0 &&& (2147483647 : Int32)) w_icache w_lcache) (fn2 (1 : Int64) (q1 &&& (9223372036854775807 : Int64)) w_icache w_lcache) (fn1 (1 : Int32) (p0 &&& (2147483647 : Int32)) w_icache w_lcache) (fn2 (1 : Int64) (q1 &&& (9223372036854775807 : Int64)) w_icache w_lcache) w_icache w_lcache)), .unset] [(.int (1 : Int32))])) (fun _ k => XS.iconst X59.here hx rfl (hb hby at_210) k) ?_
            refine Gl.by (g' := (mkF m 215 #[.val (.int p0), .val (.long q1), .second, .val (.int p2), .val (.long q3), .second, .val (.int p4), .val (.int (fn1 (1 : Int32) (p0 &&& (2147483647 : Int32)) w_icache w_lcache)), .val (.long (fn2 (1 : Int64) (q1 &&& (9223372036854775807 : Int64)) w_icache w_lcache)), .second, .val (.int (fj0_0 p0 q1 p2 q3 p4 w_icache w_lcache)), .val (.long (fj0_1 p0 q1 p2 q3 p4 w_icache w_lcache)), .second, .val (.ref b5), .val (.ref b8), .val (.int (((p4.toUInt32 >>> ((2 : Int32) &&& 31).toUInt32).toInt32) &&& (3 : Int32))), .val (.ref b_54), .val (.int (0 : Int32)), .val (.int (fn6l  w_icache w_lcache)), .val (.int (fn6m (fn1 (1 : Int32) (p0 &&& (2147483647 : Int32)) w_icache w_lcache) (fn2 (1 : Int64) (q1 &&& (9223372036854775807 : Int64)) w_icache w_lcache) (fn1 (1 : Int32) (p0 &&& (2147483647 : Int32)) w_icache w_lcache) (fn2 (1 : Int64) (q1 &&& (9223372036854775807 : Int64)) w_icache w_lcache) w_icache w_lcache)), .unset] [(.int (1 : Int32))])) (fun _ k => XS.goto X59.here hx rfl (pc0 := 211) (pc' := 215) rfl (hb hby at_211) (by decide) (by decide) k) ?_
            refine Gl.by (g' := (mkF m 217 #[.val (.int p0), .val (.long q1), .second, .val (.int p2), .val (.long q3), .second, .val (.int p4), .val (.int (fn1 (1 : Int32) (p0 &&& (2147483647 : Int32)) w_icache w_lcache)), .val (.long (fn2 (1 : Int64) (q1 &&& (9223372036854775807 : Int64)) w_icache w_lcache)), .second, .val (.int (fj0_0 p0 q1 p2 q3 p4 w_icache w_lcache)), .val (.long (fj0_1 p0 q1 p2 q3 p4 w_icache w_lcache)), .second, .val (.ref b5), .val (.ref b8), .val (.int (((p4.toUInt32 >>> ((2 : Int32) &&& 31).toUInt32).toInt32) &&& (3 : Int32))), .val (.ref b_54), .val (.int (0 : Int32)), .val (.int (fn6l  w_icache w_lcache)), .val (.int (fn6m (fn1 (1 : Int32) (p0 &&& (2147483647 : Int32)) w_icache w_lcache) (fn2 (1 : Int64) (q1 &&& (9223372036854775807 : Int64)) w_icache w_lcache) (fn1 (1 : Int32) (p0 &&& (2147483647 : Int32)) w_icache w_lcache) (fn2 (1 : Int64) (q1 &&& (9223372036854775807 : Int64)) w_icache w_lcache) w_icache w_lcache)), .val (.int (1 : Int32))] [])) (fun _ k => XS.istore X59.here hx rfl (hb hby at_215) rfl (l' := #[.val (.int p0), .val (.long q1), .second, .val (.int p2), .val (.long q3), .second, .val (.int p4), .val (.int (fn1 (1 : Int32) (p0 &&& (2147483647 : Int32)) w_icache w_lcache)), .val (.long (fn2 (1 : Int64) (q1 &&& (9223372036854775807 : Int64)) w_icache w_lcache)), .second, .val (.int (fj0_0 p0 q1 p2 q3 p4 w_icache w_lcache)), .val (.long (fj0_1 p0 q1 p2 q3 p4 w_icache w_lcache)), .second, .val (.ref b5), .val (.ref b8), .val (.int (((p4.toUInt32 >>> ((2 : Int32) &&& 31).toUInt32).toInt32) &&& (3 : Int32))), .val (.ref b_54), .val (.int (0 : Int32)), .val (.int (fn6l  w_icache w_lcache)), .val (.int (fn6m (fn1 (1 : Int32) (p0 &&& (2147483647 : Int32)) w_icache w_lcache) (fn2 (1 : Int64) (q1 &&& (9223372036854775807 : Int64)) w_icache w_lcache) (fn1 (1 : Int32) (p0 &&& (2147483647 : Int32)) w_icache w_lcache) (fn2 (1 : Int64) (q1 &&& (9223372036854775807 : Int64)) w_icache w_lcache) w_icache w_lcache)), .val (.int (1 : Int32))]) rfl k) ?_
            refine Gl.by (g' := (mkF m 219 #[.val (.int p0), .val (.long q1), .second, .val (.int p2), .val (.long q3), .second, .val (.int p4), .val (.int (fn1 (1 : Int32) (p0 &&& (2147483647 : Int32)) w_icache w_lcache)), .val (.long (fn2 (1 : Int64) (q1 &&& (9223372036854775807 : Int64)) w_icache w_lcache)), .second, .val (.int (fj0_0 p0 q1 p2 q3 p4 w_icache w_lcache)), .val (.long (fj0_1 p0 q1 p2 q3 p4 w_icache w_lcache)), .second, .val (.ref b5), .val (.ref b8), .val (.int (((p4.toUInt32 >>> ((2 : Int32) &&& 31).toUInt32).toInt32) &&& (3 : Int32))), .val (.ref b_54), .val (.int (0 : Int32)), .val (.int (fn6l  w_icache w_lcache)), .val (.int (fn6m (fn1 (1 : Int32) (p0 &&& (2147483647 : Int32)) w_icache w_lcache) (fn2 (1 : Int64) (q1 &&& (9223372036854775807 : Int64)) w_icache w_lcache) (fn1 (1 : Int32) (p0 &&& (2147483647 : Int32)) w_icache w_lcache) (fn2 (1 : Int64) (q1 &&& (9223372036854775807 : Int64)) w_icache w_lcache) w_icache w_lcache)), .val (.int (1 : Int32))] [(.int (fn6l  w_icache w_lcache))])) (fun _ k => XS.iload X59.here hx rfl (hb hby at_217) rfl k) ?_
            refine Gl.by (g' := (mkF m 221 #[.val (.int p0), .val (.long q1), .second, .val (.int p2), .val (.long q3), .second, .val (.int p4), .val (.int (fn1 (1 : Int32) (p0 &&& (2147483647 : Int32)) w_icache w_lcache)), .val (.long (fn2 (1 : Int64) (q1 &&& (9223372036854775807 : Int64)) w_icache w_lcache)), .second, .val (.int (fj0_0 p0 q1 p2 q3 p4 w_icache w_lcache)), .val (.long (fj0_1 p0 q1 p2 q3 p4 w_icache w_lcache)), .second, .val (.ref b5), .val (.ref b8), .val (.int (((p4.toUInt32 >>> ((2 : Int32) &&& 31).toUInt32).toInt32) &&& (3 : Int32))), .val (.ref b_54), .val (.int (0 : Int32)), .val (.int (fn6l  w_icache w_lcache)), .val (.int (fn6m (fn1 (1 : Int32) (p0 &&& (2147483647 : Int32)) w_icache w_lcache) (fn2 (1 : Int64) (q1 &&& (9223372036854775807 : Int64)) w_icache w_lcache) (fn1 (1 : Int32) (p0 &&& (2147483647 : Int32)) w_icache w_lcache) (fn2 (1 : Int64) (q1 &&& (9223372036854775807 : Int64)) w_icache w_lcache) w_icache w_lcache)), .val (.int (1 : Int32))] [(.int (0 : Int32)), (.int (fn6l  w_icache w_lcache))])) (fun _ k => XS.iload X59.here hx rfl (hb hby at_219) rfl k) ?_
            have J62 : ∀ (T' : State) (lc : List Loc) (X' : Stand p l e room_1 s m #[(.int p0), (.long q1), (.int p2), (.long q3), (.int p4)] below meth c T' lc 3 5) (eT : T'.heap = T54.heap) (N' : Fr n0 lc) (zj62_0 : Int32) (hz62_0 : zj62_0 = (fj0_7 p0 q1 p2 q3 p4 w_icache w_lcache)), Gl p e below (Pos 16 128 (Q0 Z p0 q1 p2 q3 p4 w_icache w_lcache h0 n0) s) T' (mkF m 239 #[.val (.int p0), .val (.long q1), .second, .val (.int p2), .val (.long q3), .second, .val (.int p4), .val (.int (fn1 (1 : Int32) (p0 &&& (2147483647 : Int32)) w_icache w_lcache)), .val (.long (fn2 (1 : Int64) (q1 &&& (9223372036854775807 : Int64)) w_icache w_lcache)), .second, .val (.int (fj0_0 p0 q1 p2 q3 p4 w_icache w_lcache)), .val (.long (fj0_1 p0 q1 p2 q3 p4 w_icache w_lcache)), .second, .val (.ref b5), .val (.ref b8), .val (.int (((p4.toUInt32 >>> ((2 : Int32) &&& 31).toUInt32).toInt32) &&& (3 : Int32))), .val (.ref b_54), .val (.int (0 : Int32)), .val (.int (fn6l  w_icache w_lcache)), .val (.int (fn6m (fn1 (1 : Int32) (p0 &&& (2147483647 : Int32)) w_icache w_lcache) (fn2 (1 : Int64) (q1 &&& (9223372036854775807 : Int64)) w_icache w_lcache) (fn1 (1 : Int32) (p0 &&& (2147483647 : Int32)) w_icache w_lcache) (fn2 (1 : Int64) (q1 &&& (9223372036854775807 : Int64)) w_icache w_lcache) w_icache w_lcache)), .val (.int (1 : Int32))] [(.int zj62_0)]) := by
              intro T' lc X' eT N' zj62_0 hz62_0
              subst hz62_0
              exact Gl.outN X' hx hk (t := .boolean) Bd.returns (by simp) (hb hby at_239) ⟨(congrArg (fun z => some (Value.int z)) (show nar .boolean (fj0_7 p0 q1 p2 q3 p4 w_icache w_lcache) = fn0 p0 q1 p2 q3 p4 w_icache w_lcache by unfold fn0; rw [if_neg hc14, if_neg hc32, if_neg hc42]; try rfl)), N'⟩ (by decide) (by decide)
            by_cases hc63 : (fn6l  w_icache w_lcache) = (0 : Int32)
            · refine Gl.by (g' := (mkF m 224 #[.val (.int p0), .val (.long q1), .second, .val (.int p2), .val (.long q3), .second, .val (.int p4), .val (.int (fn1 (1 : Int32) (p0 &&& (2147483647 : Int32)) w_icache w_lcache)), .val (.long (fn2 (1 : Int64) (q1 &&& (9223372036854775807 : Int64)) w_icache w_lcache)), .second, .val (.int (fj0_0 p0 q1 p2 q3 p4 w_icache w_lcache)), .val (.long (fj0_1 p0 q1 p2 q3 p4 w_icache w_lcache)), .second, .val (.ref b5), .val (.ref b8), .val (.int (((p4.toUInt32 >>> ((2 : Int32) &&& 31).toUInt32).toInt32) &&& (3 : Int32))), .val (.ref b_54), .val (.int (0 : Int32)), .val (.int (fn6l  w_icache w_lcache)), .val (.int (fn6m (fn1 (1 : Int32) (p0 &&& (2147483647 : Int32)) w_icache w_lcache) (fn2 (1 : Int64) (q1 &&& (9223372036854775807 : Int64)) w_icache w_lcache) (fn1 (1 : Int32) (p0 &&& (2147483647 : Int32)) w_icache w_lcache) (fn2 (1 : Int64) (q1 &&& (9223372036854775807 : Int64)) w_icache w_lcache) w_icache w_lcache)), .val (.int (1 : Int32))] [])) (fun _ k => XS.icmpNo X59.here hx rfl (hb hby at_221) rfl (teq hc63).2 k) ?_
              refine Gl.by (g' := (mkF m 226 #[.val (.int p0), .val (.long q1), .second, .val (.int p2), .val (.long q3), .second, .val (.int p4), .val (.int (fn1 (1 : Int32) (p0 &&& (2147483647 : Int32)) w_icache w_lcache)), .val (.long (fn2 (1 : Int64) (q1 &&& (9223372036854775807 : Int64)) w_icache w_lcache)), .second, .val (.int (fj0_0 p0 q1 p2 q3 p4 w_icache w_lcache)), .val (.long (fj0_1 p0 q1 p2 q3 p4 w_icache w_lcache)), .second, .val (.ref b5), .val (.ref b8), .val (.int (((p4.toUInt32 >>> ((2 : Int32) &&& 31).toUInt32).toInt32) &&& (3 : Int32))), .val (.ref b_54), .val (.int (0 : Int32)), .val (.int (fn6l  w_icache w_lcache)), .val (.int (fn6m (fn1 (1 : Int32) (p0 &&& (2147483647 : Int32)) w_icache w_lcache) (fn2 (1 : Int64) (q1 &&& (9223372036854775807 : Int64)) w_icache w_lcache) (fn1 (1 : Int32) (p0 &&& (2147483647 : Int32)) w_icache w_lcache) (fn2 (1 : Int64) (q1 &&& (9223372036854775807 : Int64)) w_icache w_lcache) w_icache w_lcache)), .val (.int (1 : Int32))] [(.int (fn6m (fn1 (1 : Int32) (p0 &&& (2147483647 : Int32)) w_icache w_lcache) (fn2 (1 : Int64) (q1 &&& (9223372036854775807 : Int64)) w_icache w_lcache) (fn1 (1 : Int32) (p0 &&& (2147483647 : Int32)) w_icache w_lcache) (fn2 (1 : Int64) (q1 &&& (9223372036854775807 : Int64)) w_icache w_lcache) w_icache w_lcache))])) (fun _ k => XS.iload X59.here hx rfl (hb hby at_224) rfl k) ?_
              by_cases hc64 : (fn6m (fn1 (1 : Int32) (p0 &&& (2147483647 : Int32)) w_icache w_lcache) (fn2 (1 : Int64) (q1 &&& (9223372036854775807 : Int64)) w_icache w_lcache) (fn1 (1 : Int32) (p0 &&& (2147483647 : Int32)) w_icache w_lcache) (fn2 (1 : Int64) (q1 &&& (9223372036854775807 : Int64)) w_icache w_lcache) w_icache w_lcache) = (0 : Int32)
              · refine Gl.by (g' := (mkF m 238 #[.val (.int p0), .val (.long q1), .second, .val (.int p2), .val (.long q3), .second, .val (.int p4), .val (.int (fn1 (1 : Int32) (p0 &&& (2147483647 : Int32)) w_icache w_lcache)), .val (.long (fn2 (1 : Int64) (q1 &&& (9223372036854775807 : Int64)) w_icache w_lcache)), .second, .val (.int (fj0_0 p0 q1 p2 q3 p4 w_icache w_lcache)), .val (.long (fj0_1 p0 q1 p2 q3 p4 w_icache w_lcache)), .second, .val (.ref b5), .val (.ref b8), .val (.int (((p4.toUInt32 >>> ((2 : Int32) &&& 31).toUInt32).toInt32) &&& (3 : Int32))), .val (.ref b_54), .val (.int (0 : Int32)), .val (.int (fn6l  w_icache w_lcache)), .val (.int (fn6m (fn1 (1 : Int32) (p0 &&& (2147483647 : Int32)) w_icache w_lcache) (fn2 (1 : Int64) (q1 &&& (9223372036854775807 : Int64)) w_icache w_lcache) (fn1 (1 : Int32) (p0 &&& (2147483647 : Int32)) w_icache w_lcache) (fn2 (1 : Int64) (q1 &&& (9223372036854775807 : Int64)) w_icache w_lcache) w_icache w_lcache)), .val (.int (1 : Int32))] [])) (fun _ k => XS.ifYes X59.here hx rfl (pc0 := 226) (pc' := 238) rfl (hb hby at_226) rfl ((if0 _ _).trans (teq hc64).1) (by decide) (by decide) k) ?_
                refine Gl.by (g' := (mkF m 239 #[.val (.int p0), .val (.long q1), .second, .val (.int p2), .val (.long q3), .second, .val (.int p4), .val (.int (fn1 (1 : Int32) (p0 &&& (2147483647 : Int32)) w_icache w_lcache)), .val (.long (fn2 (1 : Int64) (q1 &&& (9223372036854775807 : Int64)) w_icache w_lcache)), .second, .val (.int (fj0_0 p0 q1 p2 q3 p4 w_icache w_lcache)), .val (.long (fj0_1 p0 q1 p2 q3 p4 w_icache w_lcache)), .second, .val (.ref b5), .val (.ref b8), .val (.int (((p4.toUInt32 >>> ((2 : Int32) &&& 31).toUInt32).toInt32) &&& (3 : Int32))), .val (.ref b_54), .val (.int (0 : Int32)), .val (.int (fn6l  w_icache w_lcache)), .val (.int (fn6m (fn1 (1 : Int32) (p0 &&& (2147483647 : Int32)) w_icache w_lcache) (fn2 (1 : Int64) (q1 &&& (9223372036854775807 : Int64)) w_icache w_lcache) (fn1 (1 : Int32) (p0 &&& (2147483647 : Int32)) w_icache w_lcache) (fn2 (1 : Int64) (q1 &&& (9223372036854775807 : Int64)) w_icache w_lcache) w_icache w_lcache)), .val (.int (1 : Int32))] [(.int (0 : Int32))])) (fun _ k => XS.iconst X59.here hx rfl (hb hby at_238) k) ?_
                exact J62 _ _ X59 e59 N59 (0 : Int32) (show (0 : Int32) = (fj0_7 p0 q1 p2 q3 p4 w_icache w_lcache) by unfold fj0_7; rw [if_pos hc63, if_pos hc64]; try rfl)
              · refine Gl.by (g' := (mkF m 229 #[.val (.int p0), .val (.long q1), .second, .val (.int p2), .val (.long q3), .second, .val (.int p4), .val (.int (fn1 (1 : Int32) (p0 &&& (2147483647 : Int32)) w_icache w_lcache)), .val (.long (fn2 (1 : Int64) (q1 &&& (9223372036854775807 : Int64)) w_icache w_lcache)), .second, .val (.int (fj0_0 p0 q1 p2 q3 p4 w_icache w_lcache)), .val (.long (fj0_1 p0 q1 p2 q3 p4 w_icache w_lcache)), .second, .val (.ref b5), .val (.ref b8), .val (.int (((p4.toUInt32 >>> ((2 : Int32) &&& 31).toUInt32).toInt32) &&& (3 : Int32))), .val (.ref b_54), .val (.int (0 : Int32)), .val (.int (fn6l  w_icache w_lcache)), .val (.int (fn6m (fn1 (1 : Int32) (p0 &&& (2147483647 : Int32)) w_icache w_lcache) (fn2 (1 : Int64) (q1 &&& (9223372036854775807 : Int64)) w_icache w_lcache) (fn1 (1 : Int32) (p0 &&& (2147483647 : Int32)) w_icache w_lcache) (fn2 (1 : Int64) (q1 &&& (9223372036854775807 : Int64)) w_icache w_lcache) w_icache w_lcache)), .val (.int (1 : Int32))] [])) (fun _ k => XS.ifNo X59.here hx rfl (hb hby at_226) rfl ((if0 _ _).trans (feq hc64).1) k) ?_
                refine Gl.by (g' := (mkF m 231 #[.val (.int p0), .val (.long q1), .second, .val (.int p2), .val (.long q3), .second, .val (.int p4), .val (.int (fn1 (1 : Int32) (p0 &&& (2147483647 : Int32)) w_icache w_lcache)), .val (.long (fn2 (1 : Int64) (q1 &&& (9223372036854775807 : Int64)) w_icache w_lcache)), .second, .val (.int (fj0_0 p0 q1 p2 q3 p4 w_icache w_lcache)), .val (.long (fj0_1 p0 q1 p2 q3 p4 w_icache w_lcache)), .second, .val (.ref b5), .val (.ref b8), .val (.int (((p4.toUInt32 >>> ((2 : Int32) &&& 31).toUInt32).toInt32) &&& (3 : Int32))), .val (.ref b_54), .val (.int (0 : Int32)), .val (.int (fn6l  w_icache w_lcache)), .val (.int (fn6m (fn1 (1 : Int32) (p0 &&& (2147483647 : Int32)) w_icache w_lcache) (fn2 (1 : Int64) (q1 &&& (9223372036854775807 : Int64)) w_icache w_lcache) (fn1 (1 : Int32) (p0 &&& (2147483647 : Int32)) w_icache w_lcache) (fn2 (1 : Int64) (q1 &&& (9223372036854775807 : Int64)) w_icache w_lcache) w_icache w_lcache)), .val (.int (1 : Int32))] [(.int (1 : Int32))])) (fun _ k => XS.iload X59.here hx rfl (hb hby at_229) rfl k) ?_
                refine Gl.by (g' := (mkF m 234 #[.val (.int p0), .val (.long q1), .second, .val (.int p2), .val (.long q3), .second, .val (.int p4), .val (.int (fn1 (1 : Int32) (p0 &&& (2147483647 : Int32)) w_icache w_lcache)), .val (.long (fn2 (1 : Int64) (q1 &&& (9223372036854775807 : Int64)) w_icache w_lcache)), .second, .val (.int (fj0_0 p0 q1 p2 q3 p4 w_icache w_lcache)), .val (.long (fj0_1 p0 q1 p2 q3 p4 w_icache w_lcache)), .second, .val (.ref b5), .val (.ref b8), .val (.int (((p4.toUInt32 >>> ((2 : Int32) &&& 31).toUInt32).toInt32) &&& (3 : Int32))), .val (.ref b_54), .val (.int (0 : Int32)), .val (.int (fn6l  w_icache w_lcache)), .val (.int (fn6m (fn1 (1 : Int32) (p0 &&& (2147483647 : Int32)) w_icache w_lcache) (fn2 (1 : Int64) (q1 &&& (9223372036854775807 : Int64)) w_icache w_lcache) (fn1 (1 : Int32) (p0 &&& (2147483647 : Int32)) w_icache w_lcache) (fn2 (1 : Int64) (q1 &&& (9223372036854775807 : Int64)) w_icache w_lcache) w_icache w_lcache)), .val (.int (1 : Int32))] [])) (fun _ k => XS.ifNo X59.here hx rfl (hb hby at_231) rfl ((if0 _ _).trans (feq (by decide : ¬ ((1 : Int32) = (0 : Int32)))).1) k) ?_
                refine Gl.by (g' := (mkF m 235 #[.val (.int p0), .val (.long q1), .second, .val (.int p2), .val (.long q3), .second, .val (.int p4), .val (.int (fn1 (1 : Int32) (p0 &&& (2147483647 : Int32)) w_icache w_lcache)), .val (.long (fn2 (1 : Int64) (q1 &&& (9223372036854775807 : Int64)) w_icache w_lcache)), .second, .val (.int (fj0_0 p0 q1 p2 q3 p4 w_icache w_lcache)), .val (.long (fj0_1 p0 q1 p2 q3 p4 w_icache w_lcache)), .second, .val (.ref b5), .val (.ref b8), .val (.int (((p4.toUInt32 >>> ((2 : Int32) &&& 31).toUInt32).toInt32) &&& (3 : Int32))), .val (.ref b_54), .val (.int (0 : Int32)), .val (.int (fn6l  w_icache w_lcache)), .val (.int (fn6m (fn1 (1 : Int32) (p0 &&& (2147483647 : Int32)) w_icache w_lcache) (fn2 (1 : Int64) (q1 &&& (9223372036854775807 : Int64)) w_icache w_lcache) (fn1 (1 : Int32) (p0 &&& (2147483647 : Int32)) w_icache w_lcache) (fn2 (1 : Int64) (q1 &&& (9223372036854775807 : Int64)) w_icache w_lcache) w_icache w_lcache)), .val (.int (1 : Int32))] [(.int (1 : Int32))])) (fun _ k => XS.iconst X59.here hx rfl (hb hby at_234) k) ?_
                refine Gl.by (g' := (mkF m 239 #[.val (.int p0), .val (.long q1), .second, .val (.int p2), .val (.long q3), .second, .val (.int p4), .val (.int (fn1 (1 : Int32) (p0 &&& (2147483647 : Int32)) w_icache w_lcache)), .val (.long (fn2 (1 : Int64) (q1 &&& (9223372036854775807 : Int64)) w_icache w_lcache)), .second, .val (.int (fj0_0 p0 q1 p2 q3 p4 w_icache w_lcache)), .val (.long (fj0_1 p0 q1 p2 q3 p4 w_icache w_lcache)), .second, .val (.ref b5), .val (.ref b8), .val (.int (((p4.toUInt32 >>> ((2 : Int32) &&& 31).toUInt32).toInt32) &&& (3 : Int32))), .val (.ref b_54), .val (.int (0 : Int32)), .val (.int (fn6l  w_icache w_lcache)), .val (.int (fn6m (fn1 (1 : Int32) (p0 &&& (2147483647 : Int32)) w_icache w_lcache) (fn2 (1 : Int64) (q1 &&& (9223372036854775807 : Int64)) w_icache w_lcache) (fn1 (1 : Int32) (p0 &&& (2147483647 : Int32)) w_icache w_lcache) (fn2 (1 : Int64) (q1 &&& (9223372036854775807 : Int64)) w_icache w_lcache) w_icache w_lcache)), .val (.int (1 : Int32))] [(.int (1 : Int32))])) (fun _ k => XS.goto X59.here hx rfl (pc0 := 235) (pc' := 239) rfl (hb hby at_235) (by decide) (by decide) k) ?_
                exact J62 _ _ X59 e59 N59 (1 : Int32) (show (1 : Int32) = (fj0_7 p0 q1 p2 q3 p4 w_icache w_lcache) by unfold fj0_7; rw [if_pos hc63, if_neg hc64]; try rfl)
            · refine Gl.by (g' := (mkF m 238 #[.val (.int p0), .val (.long q1), .second, .val (.int p2), .val (.long q3), .second, .val (.int p4), .val (.int (fn1 (1 : Int32) (p0 &&& (2147483647 : Int32)) w_icache w_lcache)), .val (.long (fn2 (1 : Int64) (q1 &&& (9223372036854775807 : Int64)) w_icache w_lcache)), .second, .val (.int (fj0_0 p0 q1 p2 q3 p4 w_icache w_lcache)), .val (.long (fj0_1 p0 q1 p2 q3 p4 w_icache w_lcache)), .second, .val (.ref b5), .val (.ref b8), .val (.int (((p4.toUInt32 >>> ((2 : Int32) &&& 31).toUInt32).toInt32) &&& (3 : Int32))), .val (.ref b_54), .val (.int (0 : Int32)), .val (.int (fn6l  w_icache w_lcache)), .val (.int (fn6m (fn1 (1 : Int32) (p0 &&& (2147483647 : Int32)) w_icache w_lcache) (fn2 (1 : Int64) (q1 &&& (9223372036854775807 : Int64)) w_icache w_lcache) (fn1 (1 : Int32) (p0 &&& (2147483647 : Int32)) w_icache w_lcache) (fn2 (1 : Int64) (q1 &&& (9223372036854775807 : Int64)) w_icache w_lcache) w_icache w_lcache)), .val (.int (1 : Int32))] [])) (fun _ k => XS.icmpYes X59.here hx rfl (pc0 := 221) (pc' := 238) rfl (hb hby at_221) rfl (feq hc63).2 (by decide) (by decide) k) ?_
              refine Gl.by (g' := (mkF m 239 #[.val (.int p0), .val (.long q1), .second, .val (.int p2), .val (.long q3), .second, .val (.int p4), .val (.int (fn1 (1 : Int32) (p0 &&& (2147483647 : Int32)) w_icache w_lcache)), .val (.long (fn2 (1 : Int64) (q1 &&& (9223372036854775807 : Int64)) w_icache w_lcache)), .second, .val (.int (fj0_0 p0 q1 p2 q3 p4 w_icache w_lcache)), .val (.long (fj0_1 p0 q1 p2 q3 p4 w_icache w_lcache)), .second, .val (.ref b5), .val (.ref b8), .val (.int (((p4.toUInt32 >>> ((2 : Int32) &&& 31).toUInt32).toInt32) &&& (3 : Int32))), .val (.ref b_54), .val (.int (0 : Int32)), .val (.int (fn6l  w_icache w_lcache)), .val (.int (fn6m (fn1 (1 : Int32) (p0 &&& (2147483647 : Int32)) w_icache w_lcache) (fn2 (1 : Int64) (q1 &&& (9223372036854775807 : Int64)) w_icache w_lcache) (fn1 (1 : Int32) (p0 &&& (2147483647 : Int32)) w_icache w_lcache) (fn2 (1 : Int64) (q1 &&& (9223372036854775807 : Int64)) w_icache w_lcache) w_icache w_lcache)), .val (.int (1 : Int32))] [(.int (0 : Int32))])) (fun _ k => XS.iconst X59.here hx rfl (hb hby at_238) k) ?_
              exact J62 _ _ X59 e59 N59 (0 : Int32) (show (0 : Int32) = (fj0_7 p0 q1 p2 q3 p4 w_icache w_lcache) by unfold fj0_7; rw [if_neg hc63]; try rfl)
    by_cases hc65 : (p4 &&& (2 : Int32)) = (0 : Int32)
    · refine Gl.by (g' := (mkF m 55 #[.val (.int p0), .val (.long q1), .second, .val (.int p2), .val (.long q3), .second, .val (.int p4), .val (.int (fn1 (1 : Int32) (p0 &&& (2147483647 : Int32)) w_icache w_lcache)), .val (.long (fn2 (1 : Int64) (q1 &&& (9223372036854775807 : Int64)) w_icache w_lcache)), .second, .val (.int (fj0_0 p0 q1 p2 q3 p4 w_icache w_lcache)), .unset, .unset, .unset, .unset, .unset, .unset, .unset, .unset, .unset, .unset] [])) (fun _ k => XS.ifYes X'.here hx rfl (pc0 := 47) (pc' := 55) rfl (hb hby at_47) rfl ((if0 _ _).trans (teq hc65).1) (by decide) (by decide) k) ?_
      refine Gl.by (g' := (mkF m 56 #[.val (.int p0), .val (.long q1), .second, .val (.int p2), .val (.long q3), .second, .val (.int p4), .val (.int (fn1 (1 : Int32) (p0 &&& (2147483647 : Int32)) w_icache w_lcache)), .val (.long (fn2 (1 : Int64) (q1 &&& (9223372036854775807 : Int64)) w_icache w_lcache)), .second, .val (.int (fj0_0 p0 q1 p2 q3 p4 w_icache w_lcache)), .unset, .unset, .unset, .unset, .unset, .unset, .unset, .unset, .unset, .unset] [(.long (1 : Int64))])) (fun _ k => XS.lconst X'.here hx rfl (hb hby at_55) k) ?_
      refine Gl.by (g' := (mkF m 58 #[.val (.int p0), .val (.long q1), .second, .val (.int p2), .val (.long q3), .second, .val (.int p4), .val (.int (fn1 (1 : Int32) (p0 &&& (2147483647 : Int32)) w_icache w_lcache)), .val (.long (fn2 (1 : Int64) (q1 &&& (9223372036854775807 : Int64)) w_icache w_lcache)), .second, .val (.int (fj0_0 p0 q1 p2 q3 p4 w_icache w_lcache)), .unset, .unset, .unset, .unset, .unset, .unset, .unset, .unset, .unset, .unset] [(.long q3), (.long (1 : Int64))])) (fun _ k => XS.lload X'.here hx rfl (hb hby at_56) rfl k) ?_
      refine Gl.by (g' := (mkF m 61 #[.val (.int p0), .val (.long q1), .second, .val (.int p2), .val (.long q3), .second, .val (.int p4), .val (.int (fn1 (1 : Int32) (p0 &&& (2147483647 : Int32)) w_icache w_lcache)), .val (.long (fn2 (1 : Int64) (q1 &&& (9223372036854775807 : Int64)) w_icache w_lcache)), .second, .val (.int (fj0_0 p0 q1 p2 q3 p4 w_icache w_lcache)), .unset, .unset, .unset, .unset, .unset, .unset, .unset, .unset, .unset, .unset] [(.long (9223372036854775807 : Int64)), (.long q3), (.long (1 : Int64))])) (X'.ldc2Long hx hown (mvT hZ (hw _ (List.mem_of_getElem? (i := 5) rfl))) (g := (mkF m 58 #[.val (.int p0), .val (.long q1), .second, .val (.int p2), .val (.long q3), .second, .val (.int p4), .val (.int (fn1 (1 : Int32) (p0 &&& (2147483647 : Int32)) w_icache w_lcache)), .val (.long (fn2 (1 : Int64) (q1 &&& (9223372036854775807 : Int64)) w_icache w_lcache)), .second, .val (.int (fj0_0 p0 q1 p2 q3 p4 w_icache w_lcache)), .unset, .unset, .unset, .unset, .unset, .unset, .unset, .unset, .unset, .unset] [(.long q3), (.long (1 : Int64))])) rfl (hb hby at_58)) ?_
      refine Gl.by (g' := (mkF m 62 #[.val (.int p0), .val (.long q1), .second, .val (.int p2), .val (.long q3), .second, .val (.int p4), .val (.int (fn1 (1 : Int32) (p0 &&& (2147483647 : Int32)) w_icache w_lcache)), .val (.long (fn2 (1 : Int64) (q1 &&& (9223372036854775807 : Int64)) w_icache w_lcache)), .second, .val (.int (fj0_0 p0 q1 p2 q3 p4 w_icache w_lcache)), .unset, .unset, .unset, .unset, .unset, .unset, .unset, .unset, .unset, .unset] [(.long (q3 &&& (9223372036854775807 : Int64))), (.long (1 : Int64))])) (fun _ k => XS.land X'.here hx rfl (hb hby at_61) rfl k) ?_
      obtain ⟨_, _, ⟨T66, L66, k66, n66⟩, -, X66, ⟨Lc66, hQ66, l66, y66, z66⟩, st66⟩ := Jvm.LawKit.callS X' hx (y := (⟨"java/lang/Math", "max", "(JJ)J"⟩ : MethodName)) hown (mvT hZ (hw _ (List.mem_of_getElem? (i := 6) rfl))) (mvT hZ (hw _ (List.mem_of_getElem? (i := 7) rfl))) (mvT hZ (hw _ (List.mem_of_getElem? (i := 3) rfl))) (mvT hZ (hw _ (List.mem_of_getElem? (i := 8) rfl))) (by decide) (backOf (W := 0) (rm2 l Z a0' hw [] (1 : Int64) (q3 &&& (9223372036854775807 : Int64)) w_icache w_lcache h0 n0 O W ) hZ (hw _ (List.mem_of_getElem? (i := 8) rfl)) (hw _ (List.mem_of_getElem? (i := 3) rfl)) (by decide) (by decide)) (g := (mkF m 62 #[.val (.int p0), .val (.long q1), .second, .val (.int p2), .val (.long q3), .second, .val (.int p4), .val (.int (fn1 (1 : Int32) (p0 &&& (2147483647 : Int32)) w_icache w_lcache)), .val (.long (fn2 (1 : Int64) (q1 &&& (9223372036854775807 : Int64)) w_icache w_lcache)), .second, .val (.int (fj0_0 p0 q1 p2 q3 p4 w_icache w_lcache)), .unset, .unset, .unset, .unset, .unset, .unset, .unset, .unset, .unset, .unset] [(.long (q3 &&& (9223372036854775807 : Int64))), (.long (1 : Int64))])) rfl (by rw [hml]; rfl) (argsL := [(.long (1 : Int64)), (.long (q3 &&& (9223372036854775807 : Int64)))]) (rest := []) (lenOf pd118 rfl) rfl (by show 2 * 0 + _ ≤ _; exact Nat.le_of_eq rfl) (hb hby at_62) (fun _ _ => ⟨rfl, eT, (by decide : 0 + 0 ≤ _), (by decide : 0 + 0 ≤ _)⟩)
      dsimp only [Pt.U, Pt.locs, Pt.cells, Pt.slots] at X66 l66 y66 z66 st66 hQ66
      subst l66 y66 z66
      obtain ⟨rfl, N66q, e66⟩ := hQ66
      have N66 := Fr.app N' N66q
      refine Gl.by (g' := (mkF m 65 #[.val (.int p0), .val (.long q1), .second, .val (.int p2), .val (.long q3), .second, .val (.int p4), .val (.int (fn1 (1 : Int32) (p0 &&& (2147483647 : Int32)) w_icache w_lcache)), .val (.long (fn2 (1 : Int64) (q1 &&& (9223372036854775807 : Int64)) w_icache w_lcache)), .second, .val (.int (fj0_0 p0 q1 p2 q3 p4 w_icache w_lcache)), .unset, .unset, .unset, .unset, .unset, .unset, .unset, .unset, .unset, .unset] [(.long (fn2 (1 : Int64) (q3 &&& (9223372036854775807 : Int64)) w_icache w_lcache))])) st66 ?_
      exact J4 _ _ X66 e66 N66 (fn2 (1 : Int64) (q3 &&& (9223372036854775807 : Int64)) w_icache w_lcache) (show (fn2 (1 : Int64) (q3 &&& (9223372036854775807 : Int64)) w_icache w_lcache) = (fj0_1 p0 q1 p2 q3 p4 w_icache w_lcache) by unfold fj0_1; rw [if_pos hc65]; try rfl)
    · refine Gl.by (g' := (mkF m 50 #[.val (.int p0), .val (.long q1), .second, .val (.int p2), .val (.long q3), .second, .val (.int p4), .val (.int (fn1 (1 : Int32) (p0 &&& (2147483647 : Int32)) w_icache w_lcache)), .val (.long (fn2 (1 : Int64) (q1 &&& (9223372036854775807 : Int64)) w_icache w_lcache)), .second, .val (.int (fj0_0 p0 q1 p2 q3 p4 w_icache w_lcache)), .unset, .unset, .unset, .unset, .unset, .unset, .unset, .unset, .unset, .unset] [])) (fun _ k => XS.ifNo X'.here hx rfl (hb hby at_47) rfl ((if0 _ _).trans (feq hc65).1) k) ?_
      refine Gl.by (g' := (mkF m 52 #[.val (.int p0), .val (.long q1), .second, .val (.int p2), .val (.long q3), .second, .val (.int p4), .val (.int (fn1 (1 : Int32) (p0 &&& (2147483647 : Int32)) w_icache w_lcache)), .val (.long (fn2 (1 : Int64) (q1 &&& (9223372036854775807 : Int64)) w_icache w_lcache)), .second, .val (.int (fj0_0 p0 q1 p2 q3 p4 w_icache w_lcache)), .unset, .unset, .unset, .unset, .unset, .unset, .unset, .unset, .unset, .unset] [(.long (fn2 (1 : Int64) (q1 &&& (9223372036854775807 : Int64)) w_icache w_lcache))])) (fun _ k => XS.lload X'.here hx rfl (hb hby at_50) rfl k) ?_
      refine Gl.by (g' := (mkF m 65 #[.val (.int p0), .val (.long q1), .second, .val (.int p2), .val (.long q3), .second, .val (.int p4), .val (.int (fn1 (1 : Int32) (p0 &&& (2147483647 : Int32)) w_icache w_lcache)), .val (.long (fn2 (1 : Int64) (q1 &&& (9223372036854775807 : Int64)) w_icache w_lcache)), .second, .val (.int (fj0_0 p0 q1 p2 q3 p4 w_icache w_lcache)), .unset, .unset, .unset, .unset, .unset, .unset, .unset, .unset, .unset, .unset] [(.long (fn2 (1 : Int64) (q1 &&& (9223372036854775807 : Int64)) w_icache w_lcache))])) (fun _ k => XS.goto X'.here hx rfl (pc0 := 52) (pc' := 65) rfl (hb hby at_52) (by decide) (by decide) k) ?_
      exact J4 _ _ X' eT N' (fn2 (1 : Int64) (q1 &&& (9223372036854775807 : Int64)) w_icache w_lcache) (show (fn2 (1 : Int64) (q1 &&& (9223372036854775807 : Int64)) w_icache w_lcache) = (fj0_1 p0 q1 p2 q3 p4 w_icache w_lcache) by unfold fj0_1; rw [if_neg hc65]; try rfl)
  by_cases hc67 : (p4 &&& (1 : Int32)) = (0 : Int32)
  · refine Gl.by (g' := (mkF m 33 #[.val (.int p0), .val (.long q1), .second, .val (.int p2), .val (.long q3), .second, .val (.int p4), .val (.int (fn1 (1 : Int32) (p0 &&& (2147483647 : Int32)) w_icache w_lcache)), .val (.long (fn2 (1 : Int64) (q1 &&& (9223372036854775807 : Int64)) w_icache w_lcache)), .second, .unset, .unset, .unset, .unset, .unset, .unset, .unset, .unset, .unset, .unset, .unset] [])) (fun _ k => XS.ifYes X2.here hx rfl (pc0 := 25) (pc' := 33) rfl (hb hby at_25) rfl ((if0 _ _).trans (teq hc67).1) (by decide) (by decide) k) ?_
    refine Gl.by (g' := (mkF m 34 #[.val (.int p0), .val (.long q1), .second, .val (.int p2), .val (.long q3), .second, .val (.int p4), .val (.int (fn1 (1 : Int32) (p0 &&& (2147483647 : Int32)) w_icache w_lcache)), .val (.long (fn2 (1 : Int64) (q1 &&& (9223372036854775807 : Int64)) w_icache w_lcache)), .second, .unset, .unset, .unset, .unset, .unset, .unset, .unset, .unset, .unset, .unset, .unset] [(.int (1 : Int32))])) (fun _ k => XS.iconst X2.here hx rfl (hb hby at_33) k) ?_
    refine Gl.by (g' := (mkF m 35 #[.val (.int p0), .val (.long q1), .second, .val (.int p2), .val (.long q3), .second, .val (.int p4), .val (.int (fn1 (1 : Int32) (p0 &&& (2147483647 : Int32)) w_icache w_lcache)), .val (.long (fn2 (1 : Int64) (q1 &&& (9223372036854775807 : Int64)) w_icache w_lcache)), .second, .unset, .unset, .unset, .unset, .unset, .unset, .unset, .unset, .unset, .unset, .unset] [(.int p2), (.int (1 : Int32))])) (fun _ k => XS.iloadN X2.here hx rfl (hb hby at_34) rfl k) ?_
    refine Gl.by (g' := (mkF m 37 #[.val (.int p0), .val (.long q1), .second, .val (.int p2), .val (.long q3), .second, .val (.int p4), .val (.int (fn1 (1 : Int32) (p0 &&& (2147483647 : Int32)) w_icache w_lcache)), .val (.long (fn2 (1 : Int64) (q1 &&& (9223372036854775807 : Int64)) w_icache w_lcache)), .second, .unset, .unset, .unset, .unset, .unset, .unset, .unset, .unset, .unset, .unset, .unset] [(.int (2147483647 : Int32)), (.int p2), (.int (1 : Int32))])) (X2.ldcInt hx hown (mvT hZ (hw _ (List.mem_of_getElem? (i := 0) rfl))) (g := (mkF m 35 #[.val (.int p0), .val (.long q1), .second, .val (.int p2), .val (.long q3), .second, .val (.int p4), .val (.int (fn1 (1 : Int32) (p0 &&& (2147483647 : Int32)) w_icache w_lcache)), .val (.long (fn2 (1 : Int64) (q1 &&& (9223372036854775807 : Int64)) w_icache w_lcache)), .second, .unset, .unset, .unset, .unset, .unset, .unset, .unset, .unset, .unset, .unset, .unset] [(.int p2), (.int (1 : Int32))])) rfl (hb hby at_35)) ?_
    refine Gl.by (g' := (mkF m 38 #[.val (.int p0), .val (.long q1), .second, .val (.int p2), .val (.long q3), .second, .val (.int p4), .val (.int (fn1 (1 : Int32) (p0 &&& (2147483647 : Int32)) w_icache w_lcache)), .val (.long (fn2 (1 : Int64) (q1 &&& (9223372036854775807 : Int64)) w_icache w_lcache)), .second, .unset, .unset, .unset, .unset, .unset, .unset, .unset, .unset, .unset, .unset, .unset] [(.int (p2 &&& (2147483647 : Int32))), (.int (1 : Int32))])) (fun _ k => XS.iand X2.here hx rfl (hb hby at_37) rfl k) ?_
    obtain ⟨_, _, ⟨T68, L68, k68, n68⟩, -, X68, ⟨Lc68, hQ68, l68, y68, z68⟩, st68⟩ := Jvm.LawKit.callS X2 hx (y := (⟨"java/lang/Math", "max", "(II)I"⟩ : MethodName)) hown (mvT hZ (hw _ (List.mem_of_getElem? (i := 1) rfl))) (mvT hZ (hw _ (List.mem_of_getElem? (i := 2) rfl))) (mvT hZ (hw _ (List.mem_of_getElem? (i := 3) rfl))) (mvT hZ (hw _ (List.mem_of_getElem? (i := 4) rfl))) (by decide) (backOf (W := 0) (rm1 l Z a0' hw [] (1 : Int32) (p2 &&& (2147483647 : Int32)) w_icache w_lcache h0 n0 O W ) hZ (hw _ (List.mem_of_getElem? (i := 4) rfl)) (hw _ (List.mem_of_getElem? (i := 3) rfl)) (by decide) (by decide)) (g := (mkF m 38 #[.val (.int p0), .val (.long q1), .second, .val (.int p2), .val (.long q3), .second, .val (.int p4), .val (.int (fn1 (1 : Int32) (p0 &&& (2147483647 : Int32)) w_icache w_lcache)), .val (.long (fn2 (1 : Int64) (q1 &&& (9223372036854775807 : Int64)) w_icache w_lcache)), .second, .unset, .unset, .unset, .unset, .unset, .unset, .unset, .unset, .unset, .unset, .unset] [(.int (p2 &&& (2147483647 : Int32))), (.int (1 : Int32))])) rfl (by rw [hml]; rfl) (argsL := [(.int (1 : Int32)), (.int (p2 &&& (2147483647 : Int32)))]) (rest := []) (lenOf pd117 rfl) rfl (by show 2 * 0 + _ ≤ _; exact Nat.le_of_eq rfl) (hb hby at_38) (fun _ _ => ⟨rfl, e2, (by decide : 0 + 0 ≤ _), (by decide : 0 + 0 ≤ _)⟩)
    dsimp only [Pt.U, Pt.locs, Pt.cells, Pt.slots] at X68 l68 y68 z68 st68 hQ68
    subst l68 y68 z68
    obtain ⟨rfl, N68q, e68⟩ := hQ68
    have N68 := Fr.app N2 N68q
    refine Gl.by (g' := (mkF m 41 #[.val (.int p0), .val (.long q1), .second, .val (.int p2), .val (.long q3), .second, .val (.int p4), .val (.int (fn1 (1 : Int32) (p0 &&& (2147483647 : Int32)) w_icache w_lcache)), .val (.long (fn2 (1 : Int64) (q1 &&& (9223372036854775807 : Int64)) w_icache w_lcache)), .second, .unset, .unset, .unset, .unset, .unset, .unset, .unset, .unset, .unset, .unset, .unset] [(.int (fn1 (1 : Int32) (p2 &&& (2147483647 : Int32)) w_icache w_lcache))])) st68 ?_
    exact J3 _ _ X68 e68 N68 (fn1 (1 : Int32) (p2 &&& (2147483647 : Int32)) w_icache w_lcache) (show (fn1 (1 : Int32) (p2 &&& (2147483647 : Int32)) w_icache w_lcache) = (fj0_0 p0 q1 p2 q3 p4 w_icache w_lcache) by unfold fj0_0; rw [if_pos hc67]; try rfl)
  · refine Gl.by (g' := (mkF m 28 #[.val (.int p0), .val (.long q1), .second, .val (.int p2), .val (.long q3), .second, .val (.int p4), .val (.int (fn1 (1 : Int32) (p0 &&& (2147483647 : Int32)) w_icache w_lcache)), .val (.long (fn2 (1 : Int64) (q1 &&& (9223372036854775807 : Int64)) w_icache w_lcache)), .second, .unset, .unset, .unset, .unset, .unset, .unset, .unset, .unset, .unset, .unset, .unset] [])) (fun _ k => XS.ifNo X2.here hx rfl (hb hby at_25) rfl ((if0 _ _).trans (feq hc67).1) k) ?_
    refine Gl.by (g' := (mkF m 30 #[.val (.int p0), .val (.long q1), .second, .val (.int p2), .val (.long q3), .second, .val (.int p4), .val (.int (fn1 (1 : Int32) (p0 &&& (2147483647 : Int32)) w_icache w_lcache)), .val (.long (fn2 (1 : Int64) (q1 &&& (9223372036854775807 : Int64)) w_icache w_lcache)), .second, .unset, .unset, .unset, .unset, .unset, .unset, .unset, .unset, .unset, .unset, .unset] [(.int (fn1 (1 : Int32) (p0 &&& (2147483647 : Int32)) w_icache w_lcache))])) (fun _ k => XS.iload X2.here hx rfl (hb hby at_28) rfl k) ?_
    refine Gl.by (g' := (mkF m 41 #[.val (.int p0), .val (.long q1), .second, .val (.int p2), .val (.long q3), .second, .val (.int p4), .val (.int (fn1 (1 : Int32) (p0 &&& (2147483647 : Int32)) w_icache w_lcache)), .val (.long (fn2 (1 : Int64) (q1 &&& (9223372036854775807 : Int64)) w_icache w_lcache)), .second, .unset, .unset, .unset, .unset, .unset, .unset, .unset, .unset, .unset, .unset, .unset] [(.int (fn1 (1 : Int32) (p0 &&& (2147483647 : Int32)) w_icache w_lcache))])) (fun _ k => XS.goto X2.here hx rfl (pc0 := 30) (pc' := 41) rfl (hb hby at_30) (by decide) (by decide) k) ?_
    exact J3 _ _ X2 e2 N2 (fn1 (1 : Int32) (p0 &&& (2147483647 : Int32)) w_icache w_lcache) (show (fn1 (1 : Int32) (p0 &&& (2147483647 : Int32)) w_icache w_lcache) = (fj0_0 p0 q1 p2 q3 p4 w_icache w_lcache) by unfold fj0_0; rw [if_neg hc67]; try rfl)
theorem plain (p0 : Int32) (q1 : Int64) (p2 : Int32) (q3 : Int64) (p4 : Int32) (w_icache w_lcache : Addr) : fn0 p0 q1 p2 q3 p4 w_icache w_lcache = 1 := by
  unfold fn0
  unfold fj0_4 fj0_5 fj0_6 fj0_7
  unfold fj0_3 fj0_2
  unfold fn6m fn6n fn6i fn6l
  generalize fn1 (1 : Int32) (p0 &&& (2147483647 : Int32)) w_icache w_lcache = l
  generalize fn2 (1 : Int64) (q1 &&& (9223372036854775807 : Int64)) w_icache w_lcache = t
  generalize fj0_0 p0 q1 p2 q3 p4 w_icache w_lcache = l'
  generalize fj0_1 p0 q1 p2 q3 p4 w_icache w_lcache = t'
  have n1 : nar .boolean (1 : Int32) = 1 := rfl
  by_cases h1 : l = l'
  · subst h1
    by_cases h2 : t = t'
    · subst h2; simp [n1]
    · have h2' : ¬ t' = t := fun h => h2 h.symm
      simp [h2, h2', n1]
  · have h1' : ¬ l' = l := fun h => h1 h.symm
    simp [h1, h1', n1]
set_option maxRecDepth 65536 in
set_option maxHeartbeats 40000000 in
theorem comes_1 {Post : Tables → Env → Array Value → State → Outcome → State → Prop} (hpost : ∀ tb e args s v u, (limb_1_1.after args s (.returned v) u = true ∧ limb_1_2.after args s (.returned v) u = true ∧ True) → FrameEnd s (.returned v) u (Jvm.fieldLocs frame_1_writes args s ++ Jvm.arrayLocs frame_1_arrays args s ++ Jvm.staticLocs frame_1_statics s) 16 128 → Post tb e args s (.returned v) u) :
    ArmFor flags0 classFile x code maxLocals ret World_1 tables_1 room_1 Calls_1 rest_1 Pre_1 Post := by
  intro l hfl _ _ p e ha hc hk s m args below hf hA hF happ hP
  obtain ⟨hcalls, hrest, hpre⟩ := hP
  obtain ⟨-, -, -, hnamed, -, -, -, hat⟩ := (Spec.applies_iff hf).mp happ
  obtain ⟨hg, hn⟩ := and_e (Cond.before_iff.mp (show (Jvm.Cond.and given_1 narrow_1).before args s = true from hpre))
  obtain ⟨ga1, gb1⟩ := and_e hg
  obtain ⟨ga2, gb2⟩ := and_e gb1
  obtain ⟨ga3, gb3⟩ := and_e gb2
  obtain ⟨ga4, gb4⟩ := and_e gb3
  obtain ⟨ga5, gb5⟩ := and_e gb4
  obtain ⟨w0, w1, w2, w3, w4, rfl⟩ : ∃ w0 w1 w2 w3 w4 : Value, args = #[w0, w1, w2, w3, w4] := by
    have hs : args.size = 5 := by simpa [Cond.value, given_1] using ga1
    obtain ⟨L⟩ := args
    match L, hs with
    | [w0, w1, w2, w3, w4], _ => exact ⟨w0, w1, w2, w3, w4, rfl⟩
  have hw := fun d (hd : d ∈ tables_1) => atoms_spec (ws := Jvm.Cond.code x code maxLocals ret :: tables_1) hat d (List.mem_cons_of_mem _ hd)
  have hfit : Fit s := fun {y c} hc i hi => by
    obtain ⟨ha, rfl⟩ := Array.getElem?_eq_some_iff.mp hc
    have q := List.all_eq_true.mp ((Array.all_eq_true_iff_forall_mem.mp hF) _ (Array.getElem_mem ha)) i (List.mem_range.mpr hi)
    simpa [Array.getElem?_eq_getElem hi] using q
  obtain ⟨i0, ei0⟩ := is_v ga2
  obtain rfl : w0 = (.int i0) := Option.some.inj ei0
  obtain ⟨i1, ei1⟩ := isL_v ga3
  obtain rfl : w1 = (.long i1) := Option.some.inj ei1
  obtain ⟨i2, ei2⟩ := is_v ga4
  obtain rfl : w2 = (.int i2) := Option.some.inj ei2
  obtain ⟨i3, ei3⟩ := isL_v ga5
  obtain rfl : w3 = (.long i3) := Option.some.inj ei3
  obtain ⟨i4, ei4⟩ := is_v gb5
  obtain rfl : w4 = (.int i4) := Option.some.inj ei4
  obtain ⟨hsets, hown0⟩ := atoms_of _ (rest_1_c_eq ▸ (show rest_1_c.before _ s = true from hrest))
  obtain ⟨w_icache, ev_w_icache⟩ := arr_v (Cond.before_iff.mp (hsets _ (List.mem_of_getElem? (i := 4) rfl)))
  have S_w_icache := Sta.start ev_w_icache (Or.inr ⟨(hw _ (List.mem_of_getElem? (i := 38) rfl)), (hsets _ (List.mem_of_getElem? (i := 2) rfl))⟩)
  have B_w_icache := box_of ev_w_icache S_w_icache (hsets _ (List.mem_of_getElem? (i := 4) rfl)) (hsets _ (List.mem_of_getElem? (i := 6) rfl)) (hsets _ (List.mem_of_getElem? (i := 7) rfl))
  have S_high := Sta.start (eqI_v (Cond.before_iff.mp (hsets _ (List.mem_of_getElem? (i := 3) rfl)))) (Or.inr ⟨(hw _ (List.mem_of_getElem? (i := 38) rfl)), (hsets _ (List.mem_of_getElem? (i := 0) rfl))⟩)
  obtain ⟨w_lcache, ev_w_lcache⟩ := arr_v (Cond.before_iff.mp (hsets _ (List.mem_of_getElem? (i := 10) rfl)))
  have S_w_lcache := Sta.start ev_w_lcache (Or.inr ⟨(hw _ (List.mem_of_getElem? (i := 76) rfl)), (hsets _ (List.mem_of_getElem? (i := 8) rfl))⟩)
  have B_w_lcache := box_of ev_w_lcache S_w_lcache (hsets _ (List.mem_of_getElem? (i := 10) rfl)) (hsets _ (List.mem_of_getElem? (i := 12) rfl)) (hsets _ (List.mem_of_getElem? (i := 13) rfl))
  have W : Wd s w_icache w_lcache := ⟨B_w_icache, S_high, B_w_lcache⟩
  have hpl : fn0 i0 i1 i2 i3 i4 w_icache w_lcache = 1 := plain i0 i1 i2 i3 i4 w_icache w_lcache
  obtain ⟨n, o, h1, h2, h3, v, L, rfl, ⟨hv, N⟩, hq⟩ := rm0 l s _ hw tables_1 i0 i1 i2 i3 i4 w_icache w_lcache s.heap s.heap.size (Old.start s) W p e ha hc hk s m _ below hf ((Spec.applies_iff_loose hf).mp happ).1 ⟨rfl, State.Warmed39.refl s, rfl⟩ trivial
  rw [hpl] at hv
  subst hv
  refine ⟨n, _, h1, h2, h3, hpost _ _ _ _ _ _ ⟨Cond.after_iff.mpr rfl, Cond.after_iff.mpr (eq_i res_at (Term.int_eval (1)) rfl), trivial⟩ ⟨hq.1, hq.2.1, (hq.2.2.sift fun y hy => Or.inr (N y hy)).mono (by decide) (by decide)⟩⟩
theorem main_1_1 : Claimed_1_1 := comes_1 fun _ _ _ _ _ _ h hF => ⟨h.1, hF⟩
theorem main_1_2 : Claimed_1_2 := comes_1 fun _ _ _ _ _ _ h hF => ⟨h.2.1, hF⟩
end Jvm.Pilot.@@N@@
/-! WITNESS -/
namespace Jvm.Pilot.@@N@@
open Jvm Jvm.ClassFile Sem Op Lib Jvm.Free Jvm.Stand Jvm.Pilot.@@N@@.Jvm.D
/-! MADE BY PROGRAM (witnessworld.py) out of the Statement's table words and the real class files: 21 classes; the members and pool entries that the words name. The judged class is class 1, her method 1. -/
namespace start1
open Jvm.ClassFile
def u (s : String) : CpInfo := .utf8 (stringToUtf16 s)
/-- a pool by its gaps: so many unusable entries, then the entry; so many at the end -/
def gap : Nat → List CpInfo → List CpInfo
  | 0, r => r
  | n + 1, r => .unusable :: gap n r
def poolList (es : List (Nat × CpInfo)) (last : Nat) : List CpInfo := es.foldr (fun e r => gap e.1 (e.2 :: r)) (gap last [])
def pool (es : List (Nat × CpInfo)) (last : Nat) : Array CpInfo := ⟨poolList es last⟩
def fileOf (pool : Array CpInfo) (this : Nat) (attrs : Array Attribute := #[]) (ms : Array MethodInfo := #[]) (fl : Nat := 33) (sup : Nat := 0) (ifs : Array Nat := #[]) (fds : Array FieldInfo := #[]) : ClassFile where
  minorVersion := 0
  majorVersion := 65
  constantPool := pool
  accessFlags := fl
  thisClass := this
  superClass := sup
  interfaces := ifs
  fields := fds
  methods := ms
  attributes := attrs
def plain (name : String) (sup : Option ClassId) : Class where
  name := name
  kind := .ordinary
  loader := none
  accessFlags := 33
  super := sup
  interfaces := #[]
  cf := none
  fields := #[]
  methods := #[]
  instanceTypes := #[]
  staticTypes := #[]
  resolved := #[]
  callSites := []
  init := .initialized
  statics := none
  mirror := none

def pool0 : Array CpInfo := pool [(5, u "<init>"), (0, u "()V"), (1, .class_ 10), (1, u "java/lang/Object")] 113

def k0c0 : Code := { maxStack := 0, maxLocals := 1, code := object_method_1_code, exceptionTable := #[], attributes := #[] }
def k0m0 : Method := { name := "<init>", desc := "()V", sig := { parameters := [], returnType := none }, accessFlags := 1, code := some k0c0 }
/-- java/lang/Object -/
def k0 : Class := { plain "java/lang/Object" none with
  accessFlags := 33
  interfaces := #[]
  cf := some (fileOf pool0 8 #[] #[{ accessFlags := 1, nameIndex := 5, descriptorIndex := 6, attributes := #[] }] 33 0 #[] #[])
  fields := #[]
  methods := #[k0m0]
  instanceTypes := #[]
  staticTypes := #[]
  resolved := Array.replicate 124 none
  statics := none }

def pool1 : Array CpInfo := pool [(2, .class_ 4), (1, u "java/lang/Object"), (0, u "<init>"), (0, u "()V"), (0, .integer 2147483647), (0, .methodref 9 10), (0, .class_ 11), (0, .nameAndType 12 13), (0, u "java/lang/Math"), (0, u "max"), (0, u "(II)I"), (0, .class_ 15), (0, u "java/lang/Long"), (0, .long 9223372036854775807), (1, .methodref 9 19), (0, .nameAndType 12 20), (0, u "(JJ)J"), (0, .class_ 22), (0, u "com/example/libelect/libelect/Leadership"), (0, .methodref 21 24), (0, .nameAndType 5 25), (0, u "(IJ)V"), (0, .methodref 27 28), (0, .class_ 29), (0, .nameAndType 30 31), (0, u "java/lang/Integer"), (0, u "valueOf"), (0, u "(I)Ljava/lang/Integer;"), (0, .methodref 14 33), (0, .nameAndType 30 34), (0, u "(J)Ljava/lang/Long;"), (0, .methodref 21 36), (0, .nameAndType 37 38), (0, u "equals"), (0, u "(Ljava/lang/Object;)Z"), (0, .class_ 40), (0, u "com/example/libelect/libelect/LeadershipEqualsPinLaw"), (2, u "law"), (0, u "(IJIJI)Z")] 3

def k1m0 : Method := { name := "<init>", desc := "()V", sig := { parameters := [], returnType := none }, accessFlags := 1, code := none }
def k1c1 : Code := { maxStack := 6, maxLocals := 21, code := code, exceptionTable := #[], attributes := #[] }
def k1m1 : Method := { name := "law", desc := "(IJIJI)Z", sig := { parameters := [.int, .long, .int, .long, .int], returnType := some .boolean }, accessFlags := 9, code := some k1c1 }
/-- com/example/libelect/libelect/LeadershipEqualsPinLaw -/
def k1 : Class := { plain "com/example/libelect/libelect/LeadershipEqualsPinLaw" (some 0) with
  accessFlags := 49
  interfaces := #[]
  cf := some (fileOf pool1 39 #[] #[{ accessFlags := 1, nameIndex := 5, descriptorIndex := 6, attributes := #[] }, { accessFlags := 9, nameIndex := 43, descriptorIndex := 44, attributes := #[] }] 49 2 #[] #[])
  fields := #[]
  methods := #[k1m0, k1m1]
  instanceTypes := #[]
  staticTypes := #[]
  resolved := Array.replicate 48 none
  statics := none }

def pool2 : Array CpInfo := pool [(1, .class_ 2), (0, u "java/lang/Math"), (1, .class_ 6), (1, u "java/lang/Object"), (0, u "<init>"), (0, u "()V"), (89, .class_ 100), (1, u "java/lang/Math$RandomNumberGeneratorHolder"), (20, u "(JJ)J"), (50, u "negativeZeroFloatBits"), (0, u "J"), (2, u "negativeZeroDoubleBits"), (21, u "max"), (46, u "$assertionsDisabled"), (0, u "Z"), (88, u "(II)I"), (2, u "twoToTheDoubleScaleDown"), (0, u "D"), (4, u "twoToTheDoubleScaleUp"), (9, u "E"), (3, u "PI"), (2, u "TAU"), (2, u "DEGREES_TO_RADIANS"), (0, u "RADIANS_TO_DEGREES")] 94

def k2m0 : Method := { name := "<init>", desc := "()V", sig := { parameters := [], returnType := none }, accessFlags := 2, code := none }
def k2c1 : Code := { maxStack := 2, maxLocals := 2, code := jdk_29_method_65_code, exceptionTable := #[], attributes := #[] }
def k2m1 : Method := { name := "max", desc := "(II)I", sig := { parameters := [.int, .int], returnType := some .int }, accessFlags := 9, code := some k2c1 }
def k2c2 : Code := { maxStack := 4, maxLocals := 4, code := jdk_29_method_66_code, exceptionTable := #[], attributes := #[] }
def k2m2 : Method := { name := "max", desc := "(JJ)J", sig := { parameters := [.long, .long], returnType := some .long }, accessFlags := 9, code := some k2c2 }
/-- java/lang/Math -/
def k2 : Class := { plain "java/lang/Math" (some 0) with
  accessFlags := 49
  interfaces := #[]
  cf := some (fileOf pool2 1 #[.nestMembers #[98]] #[{ accessFlags := 2, nameIndex := 7, descriptorIndex := 8, attributes := #[] }, { accessFlags := 9, nameIndex := 198, descriptorIndex := 335, attributes := #[] }, { accessFlags := 9, nameIndex := 198, descriptorIndex := 121, attributes := #[] }] 49 4 #[] #[{ accessFlags := 25, nameIndex := 354, descriptorIndex := 339, attributes := #[] }, { accessFlags := 25, nameIndex := 358, descriptorIndex := 339, attributes := #[] }, { accessFlags := 25, nameIndex := 361, descriptorIndex := 339, attributes := #[] }, { accessFlags := 26, nameIndex := 364, descriptorIndex := 339, attributes := #[] }, { accessFlags := 26, nameIndex := 365, descriptorIndex := 339, attributes := #[] }, { accessFlags := 26, nameIndex := 172, descriptorIndex := 173, attributes := #[] }, { accessFlags := 26, nameIndex := 176, descriptorIndex := 173, attributes := #[] }, { accessFlags := 8, nameIndex := 344, descriptorIndex := 339, attributes := #[] }, { accessFlags := 8, nameIndex := 338, descriptorIndex := 339, attributes := #[] }, { accessFlags := 4120, nameIndex := 245, descriptorIndex := 246, attributes := #[] }])
  fields := #[{ name := "E", type := .double, accessFlags := 25, slot := 0, constantValue := 0 }, { name := "PI", type := .double, accessFlags := 25, slot := 1, constantValue := 0 }, { name := "TAU", type := .double, accessFlags := 25, slot := 2, constantValue := 0 }, { name := "DEGREES_TO_RADIANS", type := .double, accessFlags := 26, slot := 3, constantValue := 0 }, { name := "RADIANS_TO_DEGREES", type := .double, accessFlags := 26, slot := 4, constantValue := 0 }, { name := "negativeZeroFloatBits", type := .long, accessFlags := 26, slot := 5, constantValue := 0 }, { name := "negativeZeroDoubleBits", type := .long, accessFlags := 26, slot := 6, constantValue := 0 }, { name := "twoToTheDoubleScaleUp", type := .double, accessFlags := 8, slot := 7, constantValue := 0 }, { name := "twoToTheDoubleScaleDown", type := .double, accessFlags := 8, slot := 8, constantValue := 0 }, { name := "$assertionsDisabled", type := .boolean, accessFlags := 4120, slot := 9, constantValue := 0 }]
  methods := #[k2m0, k2m1, k2m2]
  instanceTypes := #[]
  staticTypes := #[.double, .double, .double, .double, .double, .long, .long, .double, .double, .boolean]
  resolved := Array.replicate 460 none
  statics := none }

def pool3 : Array CpInfo := pool [(1, .methodref 2 3), (0, .class_ 4), (0, .nameAndType 5 6), (0, u "java/lang/Object"), (0, u "<init>"), (0, u "()V"), (0, .methodref 8 9), (0, .class_ 10), (0, .nameAndType 11 12), (0, u "com/example/libelect/libelect/ProcessId"), (0, u "require"), (0, u "(I)I"), (9, .fieldref 23 24), (0, .class_ 25), (0, .nameAndType 26 27), (0, u "com/example/libelect/libelect/Leadership"), (0, u "leader"), (0, u "I"), (0, .fieldref 23 29), (0, .nameAndType 30 31), (0, u "term"), (0, u "J"), (9, u "(IJ)V"), (5, u "equals"), (0, u "(Ljava/lang/Object;)Z")] 21

def k3c0 : Code := { maxStack := 4, maxLocals := 4, code := prog_13_method_1_code, exceptionTable := #[], attributes := #[] }
def k3m0 : Method := { name := "<init>", desc := "(IJ)V", sig := { parameters := [.int, .long], returnType := none }, accessFlags := 1, code := some k3c0 }
def k3c1 : Code := { maxStack := 4, maxLocals := 3, code := prog_13_method_4_code, exceptionTable := #[], attributes := #[] }
def k3m1 : Method := { name := "equals", desc := "(Ljava/lang/Object;)Z", sig := { parameters := [(.object "java/lang/Object")], returnType := some .boolean }, accessFlags := 1, code := some k3c1 }
/-- com/example/libelect/libelect/Leadership -/
def k3 : Class := { plain "com/example/libelect/libelect/Leadership" (some 0) with
  accessFlags := 49
  interfaces := #[]
  cf := some (fileOf pool3 23 #[] #[{ accessFlags := 1, nameIndex := 5, descriptorIndex := 41, attributes := #[] }, { accessFlags := 1, nameIndex := 47, descriptorIndex := 48, attributes := #[] }] 49 2 #[] #[{ accessFlags := 18, nameIndex := 26, descriptorIndex := 27, attributes := #[] }, { accessFlags := 18, nameIndex := 30, descriptorIndex := 31, attributes := #[] }])
  fields := #[{ name := "leader", type := .int, accessFlags := 18, slot := 0, constantValue := 0 }, { name := "term", type := .long, accessFlags := 18, slot := 1, constantValue := 0 }]
  methods := #[k3m0, k3m1]
  instanceTypes := #[.int, .long]
  staticTypes := #[]
  resolved := Array.replicate 70 none
  statics := none }

def pool4 : Array CpInfo := pool [(4, .class_ 6), (1, u "java/lang/Object"), (0, u "<init>"), (0, u "()V"), (8, .class_ 18), (0, u "com/example/libelect/libelect/ProcessId"), (29, u "MAX"), (0, u "I"), (5, u "require"), (0, u "(I)I")] 19

def k4m0 : Method := { name := "<init>", desc := "()V", sig := { parameters := [], returnType := none }, accessFlags := 2, code := none }
def k4c1 : Code := { maxStack := 3, maxLocals := 1, code := prog_21_method_3_code, exceptionTable := #[], attributes := #[] }
def k4m1 : Method := { name := "require", desc := "(I)I", sig := { parameters := [.int], returnType := some .int }, accessFlags := 8, code := some k4c1 }
/-- com/example/libelect/libelect/ProcessId -/
def k4 : Class := { plain "com/example/libelect/libelect/ProcessId" (some 0) with
  accessFlags := 49
  interfaces := #[]
  cf := some (fileOf pool4 17 #[] #[{ accessFlags := 2, nameIndex := 7, descriptorIndex := 8, attributes := #[] }, { accessFlags := 8, nameIndex := 55, descriptorIndex := 56, attributes := #[] }] 49 4 #[] #[{ accessFlags := 25, nameIndex := 48, descriptorIndex := 49, attributes := #[] }])
  fields := #[{ name := "MAX", type := .int, accessFlags := 25, slot := 0, constantValue := 0 }]
  methods := #[k4m0, k4m1]
  instanceTypes := #[]
  staticTypes := #[.int]
  resolved := Array.replicate 76 none
  statics := none }

def pool5 : Array CpInfo := pool [(1, .class_ 2), (0, u "java/io/Serializable"), (0, .class_ 4), (0, u "java/lang/Object")] 2

/-- java/io/Serializable -/
def k5 : Class := { plain "java/io/Serializable" (some 0) with
  accessFlags := 1537
  interfaces := #[]
  cf := some (fileOf pool5 1 #[] #[] 1537 3 #[] #[])
  fields := #[]
  methods := #[]
  instanceTypes := #[]
  staticTypes := #[]
  resolved := Array.replicate 7 none
  statics := none }

def pool6 : Array CpInfo := pool [(1, .methodref 2 3), (0, .class_ 4), (0, .nameAndType 5 6), (0, u "java/lang/Object"), (0, u "<init>"), (0, u "()V"), (1, .class_ 10), (1, u "java/lang/Number"), (2, .class_ 14), (0, u "java/io/Serializable"), (0, u "serialVersionUID"), (0, u "J")] 20

def k6c0 : Code := { maxStack := 1, maxLocals := 1, code := jdk_18_method_1_code, exceptionTable := #[], attributes := #[] }
def k6m0 : Method := { name := "<init>", desc := "()V", sig := { parameters := [], returnType := none }, accessFlags := 1, code := some k6c0 }
/-- java/lang/Number -/
def k6 : Class := { plain "java/lang/Number" (some 0) with
  accessFlags := 1057
  interfaces := #[5]
  cf := some (fileOf pool6 8 #[] #[{ accessFlags := 1, nameIndex := 5, descriptorIndex := 6, attributes := #[] }] 1057 2 #[13] #[{ accessFlags := 26, nameIndex := 15, descriptorIndex := 16, attributes := #[] }])
  fields := #[{ name := "serialVersionUID", type := .long, accessFlags := 26, slot := 0, constantValue := 0 }]
  methods := #[k6m0]
  instanceTypes := #[]
  staticTypes := #[.long]
  resolved := Array.replicate 37 none
  statics := none }

def pool7 : Array CpInfo := pool [(1, .class_ 2), (0, u "java/lang/Comparable"), (0, .class_ 4), (0, u "java/lang/Object")] 7

/-- java/lang/Comparable -/
def k7 : Class := { plain "java/lang/Comparable" (some 0) with
  accessFlags := 1537
  interfaces := #[]
  cf := some (fileOf pool7 1 #[] #[] 1537 3 #[] #[])
  fields := #[]
  methods := #[]
  instanceTypes := #[]
  staticTypes := #[]
  resolved := Array.replicate 12 none
  statics := none }

def pool8 : Array CpInfo := pool [(1, .class_ 2), (0, u "java/lang/constant/Constable"), (0, .class_ 4), (0, u "java/lang/Object")] 6

/-- java/lang/constant/Constable -/
def k8 : Class := { plain "java/lang/constant/Constable" (some 0) with
  accessFlags := 1537
  interfaces := #[]
  cf := some (fileOf pool8 1 #[] #[] 1537 3 #[] #[])
  fields := #[]
  methods := #[]
  instanceTypes := #[]
  staticTypes := #[]
  resolved := Array.replicate 11 none
  statics := none }

def pool9 : Array CpInfo := pool [(1, .class_ 2), (0, u "java/lang/constant/ConstantDesc"), (0, .class_ 4), (0, u "java/lang/Object")] 32

/-- java/lang/constant/ConstantDesc -/
def k9 : Class := { plain "java/lang/constant/ConstantDesc" (some 0) with
  accessFlags := 1537
  interfaces := #[]
  cf := some (fileOf pool9 1 #[] #[] 1537 3 #[] #[])
  fields := #[]
  methods := #[]
  instanceTypes := #[]
  staticTypes := #[]
  resolved := Array.replicate 37 none
  statics := none }

def pool10 : Array CpInfo := pool [(1, .class_ 2), (0, u "java/lang/Integer"), (16, u "digits"), (0, u "[C"), (46, u "<init>"), (17, u "DigitOnes"), (0, u "[B"), (2, u "DigitTens"), (10, .nameAndType 67 101), (0, u "()V"), (85, u "valueOf"), (0, u "(I)Ljava/lang/Integer;"), (0, .class_ 190), (0, u "java/lang/Integer$IntegerCache"), (0, .fieldref 189 192), (0, .nameAndType 193 194), (0, u "high"), (0, u "I"), (0, .fieldref 189 196), (0, .nameAndType 197 198), (0, u "cache"), (0, u "[Ljava/lang/Integer;"), (0, .methodref 1 200), (0, .nameAndType 67 201), (0, u "(I)V"), (0, .methodref 203 100), (0, .class_ 204), (0, u "java/lang/Number"), (0, .fieldref 1 206), (0, .nameAndType 207 194), (0, u "value"), (94, u "TYPE"), (0, u "Ljava/lang/Class;"), (0, .class_ 305), (0, u "java/lang/Comparable"), (0, .class_ 307), (0, u "java/lang/constant/Constable"), (0, .class_ 309), (0, u "java/lang/constant/ConstantDesc"), (0, u "MIN_VALUE"), (1, u "MAX_VALUE"), (3, u "SIZE"), (1, u "BYTES"), (1, u "serialVersionUID"), (0, u "J")] 131

def k10c0 : Code := { maxStack := 3, maxLocals := 1, code := jdk_33_method_22_code, exceptionTable := #[], attributes := #[] }
def k10m0 : Method := { name := "valueOf", desc := "(I)Ljava/lang/Integer;", sig := { parameters := [.int], returnType := some (.object "java/lang/Integer") }, accessFlags := 9, code := some k10c0 }
def k10c1 : Code := { maxStack := 2, maxLocals := 2, code := jdk_33_method_23_code, exceptionTable := #[], attributes := #[] }
def k10m1 : Method := { name := "<init>", desc := "(I)V", sig := { parameters := [.int], returnType := none }, accessFlags := 1, code := some k10c1 }
/-- java/lang/Integer -/
def k10 : Class := { plain "java/lang/Integer" (some 6) with
  accessFlags := 49
  interfaces := #[7, 8, 9]
  cf := some (fileOf pool10 1 #[.nestMembers #[189]] #[{ accessFlags := 9, nameIndex := 187, descriptorIndex := 188, attributes := #[] }, { accessFlags := 1, nameIndex := 67, descriptorIndex := 201, attributes := #[] }] 49 203 #[304, 306, 308] #[{ accessFlags := 25, nameIndex := 310, descriptorIndex := 194, attributes := #[] }, { accessFlags := 25, nameIndex := 312, descriptorIndex := 194, attributes := #[] }, { accessFlags := 25, nameIndex := 302, descriptorIndex := 303, attributes := #[] }, { accessFlags := 24, nameIndex := 19, descriptorIndex := 20, attributes := #[] }, { accessFlags := 24, nameIndex := 89, descriptorIndex := 86, attributes := #[] }, { accessFlags := 24, nameIndex := 85, descriptorIndex := 86, attributes := #[] }, { accessFlags := 18, nameIndex := 207, descriptorIndex := 194, attributes := #[] }, { accessFlags := 25, nameIndex := 316, descriptorIndex := 194, attributes := #[] }, { accessFlags := 25, nameIndex := 318, descriptorIndex := 194, attributes := #[] }, { accessFlags := 26, nameIndex := 320, descriptorIndex := 321, attributes := #[] }])
  fields := #[{ name := "MIN_VALUE", type := .int, accessFlags := 25, slot := 0, constantValue := 0 }, { name := "MAX_VALUE", type := .int, accessFlags := 25, slot := 1, constantValue := 0 }, { name := "TYPE", type := (.object "java/lang/Class"), accessFlags := 25, slot := 2, constantValue := 0 }, { name := "digits", type := (.array .char), accessFlags := 24, slot := 3, constantValue := 0 }, { name := "DigitTens", type := (.array .byte), accessFlags := 24, slot := 4, constantValue := 0 }, { name := "DigitOnes", type := (.array .byte), accessFlags := 24, slot := 5, constantValue := 0 }, { name := "value", type := .int, accessFlags := 18, slot := 0, constantValue := 0 }, { name := "SIZE", type := .int, accessFlags := 25, slot := 6, constantValue := 0 }, { name := "BYTES", type := .int, accessFlags := 25, slot := 7, constantValue := 0 }, { name := "serialVersionUID", type := .long, accessFlags := 26, slot := 8, constantValue := 0 }]
  methods := #[k10m0, k10m1]
  instanceTypes := #[.int]
  staticTypes := #[.int, .int, (.object "java/lang/Class"), (.array .char), (.array .byte), (.array .byte), .int, .int, .long]
  resolved := Array.replicate 453 none
  statics := none }

def pool11 : Array CpInfo := pool [(2, .class_ 4), (1, u "java/lang/Object"), (0, u "<init>"), (0, u "()V"), (0, .class_ 8), (0, u "java/lang/Integer"), (7, .class_ 18), (1, u "java/lang/Integer$IntegerCache"), (0, u "$assertionsDisabled"), (0, u "Z"), (26, u "high"), (0, u "I"), (8, u "archivedCache"), (0, u "[Ljava/lang/Integer;"), (12, u "cache"), (0, u "low")] 27

def k11m0 : Method := { name := "<init>", desc := "()V", sig := { parameters := [], returnType := none }, accessFlags := 2, code := none }
/-- java/lang/Integer$IntegerCache -/
def k11 : Class := { plain "java/lang/Integer$IntegerCache" (some 0) with
  accessFlags := 48
  interfaces := #[]
  cf := some (fileOf pool11 16 #[.nestHost 7] #[{ accessFlags := 2, nameIndex := 5, descriptorIndex := 6, attributes := #[] }] 48 2 #[] #[{ accessFlags := 24, nameIndex := 72, descriptorIndex := 48, attributes := #[] }, { accessFlags := 24, nameIndex := 47, descriptorIndex := 48, attributes := #[] }, { accessFlags := 24, nameIndex := 71, descriptorIndex := 58, attributes := #[] }, { accessFlags := 8, nameIndex := 57, descriptorIndex := 58, attributes := #[] }, { accessFlags := 4120, nameIndex := 19, descriptorIndex := 20, attributes := #[] }])
  fields := #[{ name := "low", type := .int, accessFlags := 24, slot := 0, constantValue := 0 }, { name := "high", type := .int, accessFlags := 24, slot := 1, constantValue := 0 }, { name := "cache", type := (.array (.object "java/lang/Integer")), accessFlags := 24, slot := 2, constantValue := 0 }, { name := "archivedCache", type := (.array (.object "java/lang/Integer")), accessFlags := 8, slot := 3, constantValue := 0 }, { name := "$assertionsDisabled", type := .boolean, accessFlags := 4120, slot := 4, constantValue := 0 }]
  methods := #[k11m0]
  instanceTypes := #[]
  staticTypes := #[.int, .int, (.array (.object "java/lang/Integer")), (.array (.object "java/lang/Integer")), .boolean]
  resolved := Array.replicate 100 none
  statics := some 0 }

def pool12 : Array CpInfo := pool [(1, .class_ 2), (0, u "java/lang/Long"), (55, .nameAndType 59 60), (0, u "<init>"), (0, u "()V"), (24, u "valueOf"), (143, u "(J)Ljava/lang/Long;"), (0, .long 18446744073709551488), (1, .long 127), (1, .fieldref 235 236), (0, .class_ 237), (0, .nameAndType 238 239), (0, u "java/lang/Long$LongCache"), (0, u "cache"), (0, u "[Ljava/lang/Long;"), (0, .methodref 1 241), (0, .nameAndType 59 242), (0, u "(J)V"), (27, .methodref 271 58), (0, .class_ 272), (0, u "java/lang/Number"), (0, .fieldref 1 274), (0, .nameAndType 275 276), (0, u "value"), (0, u "J"), (84, u "TYPE"), (0, u "Ljava/lang/Class;"), (0, .class_ 364), (0, u "java/lang/Comparable"), (0, .class_ 366), (0, u "java/lang/constant/Constable"), (0, .class_ 368), (0, u "java/lang/constant/ConstantDesc"), (0, u "MIN_VALUE"), (1, u "MAX_VALUE"), (4, u "SIZE"), (0, u "I"), (1, u "BYTES"), (1, u "serialVersionUID")] 142

def k12c0 : Code := { maxStack := 4, maxLocals := 3, code := jdk_35_method_24_code, exceptionTable := #[], attributes := #[] }
def k12m0 : Method := { name := "valueOf", desc := "(J)Ljava/lang/Long;", sig := { parameters := [.long], returnType := some (.object "java/lang/Long") }, accessFlags := 9, code := some k12c0 }
def k12c1 : Code := { maxStack := 3, maxLocals := 3, code := jdk_35_method_26_code, exceptionTable := #[], attributes := #[] }
def k12m1 : Method := { name := "<init>", desc := "(J)V", sig := { parameters := [.long], returnType := none }, accessFlags := 1, code := some k12c1 }
/-- java/lang/Long -/
def k12 : Class := { plain "java/lang/Long" (some 6) with
  accessFlags := 49
  interfaces := #[7, 8, 9]
  cf := some (fileOf pool12 1 #[.nestMembers #[235]] #[{ accessFlags := 9, nameIndex := 85, descriptorIndex := 229, attributes := #[] }, { accessFlags := 1, nameIndex := 59, descriptorIndex := 242, attributes := #[] }] 49 271 #[363, 365, 367] #[{ accessFlags := 25, nameIndex := 369, descriptorIndex := 276, attributes := #[] }, { accessFlags := 25, nameIndex := 371, descriptorIndex := 276, attributes := #[] }, { accessFlags := 25, nameIndex := 361, descriptorIndex := 362, attributes := #[] }, { accessFlags := 18, nameIndex := 275, descriptorIndex := 276, attributes := #[] }, { accessFlags := 25, nameIndex := 376, descriptorIndex := 377, attributes := #[] }, { accessFlags := 25, nameIndex := 379, descriptorIndex := 377, attributes := #[] }, { accessFlags := 26, nameIndex := 381, descriptorIndex := 276, attributes := #[] }])
  fields := #[{ name := "MIN_VALUE", type := .long, accessFlags := 25, slot := 0, constantValue := 0 }, { name := "MAX_VALUE", type := .long, accessFlags := 25, slot := 1, constantValue := 0 }, { name := "TYPE", type := (.object "java/lang/Class"), accessFlags := 25, slot := 2, constantValue := 0 }, { name := "value", type := .long, accessFlags := 18, slot := 0, constantValue := 0 }, { name := "SIZE", type := .int, accessFlags := 25, slot := 3, constantValue := 0 }, { name := "BYTES", type := .int, accessFlags := 25, slot := 4, constantValue := 0 }, { name := "serialVersionUID", type := .long, accessFlags := 26, slot := 5, constantValue := 0 }]
  methods := #[k12m0, k12m1]
  instanceTypes := #[.long]
  staticTypes := #[.long, .long, (.object "java/lang/Class"), .int, .int, .long]
  resolved := Array.replicate 524 none
  statics := none }

def pool13 : Array CpInfo := pool [(2, .class_ 4), (1, u "java/lang/Object"), (0, u "<init>"), (0, u "()V"), (0, .class_ 8), (0, u "java/lang/Long"), (7, .class_ 18), (1, u "java/lang/Long$LongCache"), (0, u "$assertionsDisabled"), (0, u "Z"), (8, u "archivedCache"), (0, u "[Ljava/lang/Long;"), (7, u "cache")] 24

def k13m0 : Method := { name := "<init>", desc := "()V", sig := { parameters := [], returnType := none }, accessFlags := 2, code := none }
/-- java/lang/Long$LongCache -/
def k13 : Class := { plain "java/lang/Long$LongCache" (some 0) with
  accessFlags := 48
  interfaces := #[]
  cf := some (fileOf pool13 16 #[.nestHost 7] #[{ accessFlags := 2, nameIndex := 5, descriptorIndex := 6, attributes := #[] }] 48 2 #[] #[{ accessFlags := 24, nameIndex := 38, descriptorIndex := 30, attributes := #[] }, { accessFlags := 8, nameIndex := 29, descriptorIndex := 30, attributes := #[] }, { accessFlags := 4120, nameIndex := 19, descriptorIndex := 20, attributes := #[] }])
  fields := #[{ name := "cache", type := (.array (.object "java/lang/Long")), accessFlags := 24, slot := 0, constantValue := 0 }, { name := "archivedCache", type := (.array (.object "java/lang/Long")), accessFlags := 8, slot := 1, constantValue := 0 }, { name := "$assertionsDisabled", type := .boolean, accessFlags := 4120, slot := 2, constantValue := 0 }]
  methods := #[k13m0]
  instanceTypes := #[]
  staticTypes := #[(.array (.object "java/lang/Long")), (.array (.object "java/lang/Long")), .boolean]
  resolved := Array.replicate 63 none
  statics := some 1 }

def pool14 : Array CpInfo := pool [(1, u "java/lang/Cloneable"), (0, .class_ 1), (0, u "java/lang/Object"), (0, .class_ 3)] 3

/-- java/lang/Cloneable -/
def k14 : Class := { plain "java/lang/Cloneable" (some 0) with
  accessFlags := 1537
  interfaces := #[]
  cf := some (fileOf pool14 2 #[] #[] 1537 4 #[] #[])
  fields := #[]
  methods := #[]
  instanceTypes := #[]
  staticTypes := #[]
  resolved := Array.replicate 8 none
  statics := none }

/-- the primitive byte -/
def k15 : Class := { plain "byte" none with kind := .primitive 'B', accessFlags := 0x411 }
/-- [B -/
def k16 : Class := { plain "[B" (some 0) with kind := .array 15 .byte, interfaces := #[14, 5], accessFlags := 1041 }

/-- the primitive int -/
def k17 : Class := { plain "int" none with kind := .primitive 'I', accessFlags := 0x411 }
/-- [I -/
def k18 : Class := { plain "[I" (some 0) with kind := .array 17 .int, interfaces := #[14, 5], accessFlags := 1041 }

/-- [Ljava/lang/Integer; -/
def k19 : Class := { plain "[Ljava/lang/Integer;" (some 0) with kind := .array 10 (.object "java/lang/Integer"), interfaces := #[14, 5], accessFlags := 1041 }

/-- [Ljava/lang/Long; -/
def k20 : Class := { plain "[Ljava/lang/Long;" (some 0) with kind := .array 12 (.object "java/lang/Long"), interfaces := #[14, 5], accessFlags := 1041 }

def heap : Heap := #[{ cls := 11, slots := #[.int 0, .int 127, .ref 2, .null, .int 0], vm := .statics 11 },
  { cls := 13, slots := #[.ref 3, .null, .int 0], vm := .statics 13 },
  { cls := 19, slots := #[.ref 4, .ref 5, .ref 6, .ref 7, .ref 8, .ref 9, .ref 10, .ref 11, .ref 12, .ref 13, .ref 14, .ref 15, .ref 16, .ref 17, .ref 18, .ref 19, .ref 20, .ref 21, .ref 22, .ref 23, .ref 24, .ref 25, .ref 26, .ref 27, .ref 28, .ref 29, .ref 30, .ref 31, .ref 32, .ref 33, .ref 34, .ref 35, .ref 36, .ref 37, .ref 38, .ref 39, .ref 40, .ref 41, .ref 42, .ref 43, .ref 44, .ref 45, .ref 46, .ref 47, .ref 48, .ref 49, .ref 50, .ref 51, .ref 52, .ref 53, .ref 54, .ref 55, .ref 56, .ref 57, .ref 58, .ref 59, .ref 60, .ref 61, .ref 62, .ref 63, .ref 64, .ref 65, .ref 66, .ref 67, .ref 68, .ref 69, .ref 70, .ref 71, .ref 72, .ref 73, .ref 74, .ref 75, .ref 76, .ref 77, .ref 78, .ref 79, .ref 80, .ref 81, .ref 82, .ref 83, .ref 84, .ref 85, .ref 86, .ref 87, .ref 88, .ref 89, .ref 90, .ref 91, .ref 92, .ref 93, .ref 94, .ref 95, .ref 96, .ref 97, .ref 98, .ref 99, .ref 100, .ref 101, .ref 102, .ref 103, .ref 104, .ref 105, .ref 106, .ref 107, .ref 108, .ref 109, .ref 110, .ref 111, .ref 112, .ref 113, .ref 114, .ref 115, .ref 116, .ref 117, .ref 118, .ref 119, .ref 120, .ref 121, .ref 122, .ref 123, .ref 124, .ref 125, .ref 126, .ref 127, .ref 128, .ref 129, .ref 130, .ref 131, .ref 132, .ref 133, .ref 134, .ref 135, .ref 136, .ref 137, .ref 138, .ref 139, .ref 140, .ref 141, .ref 142, .ref 143, .ref 144, .ref 145, .ref 146, .ref 147, .ref 148, .ref 149, .ref 150, .ref 151, .ref 152, .ref 153, .ref 154, .ref 155, .ref 156, .ref 157, .ref 158, .ref 159, .ref 160, .ref 161, .ref 162, .ref 163, .ref 164, .ref 165, .ref 166, .ref 167, .ref 168, .ref 169, .ref 170, .ref 171, .ref 172, .ref 173, .ref 174, .ref 175, .ref 176, .ref 177, .ref 178, .ref 179, .ref 180, .ref 181, .ref 182, .ref 183, .ref 184, .ref 185, .ref 186, .ref 187, .ref 188, .ref 189, .ref 190, .ref 191, .ref 192, .ref 193, .ref 194, .ref 195, .ref 196, .ref 197, .ref 198, .ref 199, .ref 200, .ref 201, .ref 202, .ref 203, .ref 204, .ref 205, .ref 206, .ref 207, .ref 208, .ref 209, .ref 210, .ref 211, .ref 212, .ref 213, .ref 214, .ref 215, .ref 216, .ref 217, .ref 218, .ref 219, .ref 220, .ref 221, .ref 222, .ref 223, .ref 224, .ref 225, .ref 226, .ref 227, .ref 228, .ref 229, .ref 230, .ref 231, .ref 232, .ref 233, .ref 234, .ref 235, .ref 236, .ref 237, .ref 238, .ref 239, .ref 240, .ref 241, .ref 242, .ref 243, .ref 244, .ref 245, .ref 246, .ref 247, .ref 248, .ref 249, .ref 250, .ref 251, .ref 252, .ref 253, .ref 254, .ref 255, .ref 256, .ref 257, .ref 258, .ref 259], vm := .none },
  { cls := 20, slots := #[.ref 260, .ref 261, .ref 262, .ref 263, .ref 264, .ref 265, .ref 266, .ref 267, .ref 268, .ref 269, .ref 270, .ref 271, .ref 272, .ref 273, .ref 274, .ref 275, .ref 276, .ref 277, .ref 278, .ref 279, .ref 280, .ref 281, .ref 282, .ref 283, .ref 284, .ref 285, .ref 286, .ref 287, .ref 288, .ref 289, .ref 290, .ref 291, .ref 292, .ref 293, .ref 294, .ref 295, .ref 296, .ref 297, .ref 298, .ref 299, .ref 300, .ref 301, .ref 302, .ref 303, .ref 304, .ref 305, .ref 306, .ref 307, .ref 308, .ref 309, .ref 310, .ref 311, .ref 312, .ref 313, .ref 314, .ref 315, .ref 316, .ref 317, .ref 318, .ref 319, .ref 320, .ref 321, .ref 322, .ref 323, .ref 324, .ref 325, .ref 326, .ref 327, .ref 328, .ref 329, .ref 330, .ref 331, .ref 332, .ref 333, .ref 334, .ref 335, .ref 336, .ref 337, .ref 338, .ref 339, .ref 340, .ref 341, .ref 342, .ref 343, .ref 344, .ref 345, .ref 346, .ref 347, .ref 348, .ref 349, .ref 350, .ref 351, .ref 352, .ref 353, .ref 354, .ref 355, .ref 356, .ref 357, .ref 358, .ref 359, .ref 360, .ref 361, .ref 362, .ref 363, .ref 364, .ref 365, .ref 366, .ref 367, .ref 368, .ref 369, .ref 370, .ref 371, .ref 372, .ref 373, .ref 374, .ref 375, .ref 376, .ref 377, .ref 378, .ref 379, .ref 380, .ref 381, .ref 382, .ref 383, .ref 384, .ref 385, .ref 386, .ref 387, .ref 388, .ref 389, .ref 390, .ref 391, .ref 392, .ref 393, .ref 394, .ref 395, .ref 396, .ref 397, .ref 398, .ref 399, .ref 400, .ref 401, .ref 402, .ref 403, .ref 404, .ref 405, .ref 406, .ref 407, .ref 408, .ref 409, .ref 410, .ref 411, .ref 412, .ref 413, .ref 414, .ref 415, .ref 416, .ref 417, .ref 418, .ref 419, .ref 420, .ref 421, .ref 422, .ref 423, .ref 424, .ref 425, .ref 426, .ref 427, .ref 428, .ref 429, .ref 430, .ref 431, .ref 432, .ref 433, .ref 434, .ref 435, .ref 436, .ref 437, .ref 438, .ref 439, .ref 440, .ref 441, .ref 442, .ref 443, .ref 444, .ref 445, .ref 446, .ref 447, .ref 448, .ref 449, .ref 450, .ref 451, .ref 452, .ref 453, .ref 454, .ref 455, .ref 456, .ref 457, .ref 458, .ref 459, .ref 460, .ref 461, .ref 462, .ref 463, .ref 464, .ref 465, .ref 466, .ref 467, .ref 468, .ref 469, .ref 470, .ref 471, .ref 472, .ref 473, .ref 474, .ref 475, .ref 476, .ref 477, .ref 478, .ref 479, .ref 480, .ref 481, .ref 482, .ref 483, .ref 484, .ref 485, .ref 486, .ref 487, .ref 488, .ref 489, .ref 490, .ref 491, .ref 492, .ref 493, .ref 494, .ref 495, .ref 496, .ref 497, .ref 498, .ref 499, .ref 500, .ref 501, .ref 502, .ref 503, .ref 504, .ref 505, .ref 506, .ref 507, .ref 508, .ref 509, .ref 510, .ref 511, .ref 512, .ref 513, .ref 514, .ref 515], vm := .none },
  { cls := 10, slots := #[.int (-128)], vm := .none },
  { cls := 10, slots := #[.int (-127)], vm := .none },
  { cls := 10, slots := #[.int (-126)], vm := .none },
  { cls := 10, slots := #[.int (-125)], vm := .none },
  { cls := 10, slots := #[.int (-124)], vm := .none },
  { cls := 10, slots := #[.int (-123)], vm := .none },
  { cls := 10, slots := #[.int (-122)], vm := .none },
  { cls := 10, slots := #[.int (-121)], vm := .none },
  { cls := 10, slots := #[.int (-120)], vm := .none },
  { cls := 10, slots := #[.int (-119)], vm := .none },
  { cls := 10, slots := #[.int (-118)], vm := .none },
  { cls := 10, slots := #[.int (-117)], vm := .none },
  { cls := 10, slots := #[.int (-116)], vm := .none },
  { cls := 10, slots := #[.int (-115)], vm := .none },
  { cls := 10, slots := #[.int (-114)], vm := .none },
  { cls := 10, slots := #[.int (-113)], vm := .none },
  { cls := 10, slots := #[.int (-112)], vm := .none },
  { cls := 10, slots := #[.int (-111)], vm := .none },
  { cls := 10, slots := #[.int (-110)], vm := .none },
  { cls := 10, slots := #[.int (-109)], vm := .none },
  { cls := 10, slots := #[.int (-108)], vm := .none },
  { cls := 10, slots := #[.int (-107)], vm := .none },
  { cls := 10, slots := #[.int (-106)], vm := .none },
  { cls := 10, slots := #[.int (-105)], vm := .none },
  { cls := 10, slots := #[.int (-104)], vm := .none },
  { cls := 10, slots := #[.int (-103)], vm := .none },
  { cls := 10, slots := #[.int (-102)], vm := .none },
  { cls := 10, slots := #[.int (-101)], vm := .none },
  { cls := 10, slots := #[.int (-100)], vm := .none },
  { cls := 10, slots := #[.int (-99)], vm := .none },
  { cls := 10, slots := #[.int (-98)], vm := .none },
  { cls := 10, slots := #[.int (-97)], vm := .none },
  { cls := 10, slots := #[.int (-96)], vm := .none },
  { cls := 10, slots := #[.int (-95)], vm := .none },
  { cls := 10, slots := #[.int (-94)], vm := .none },
  { cls := 10, slots := #[.int (-93)], vm := .none },
  { cls := 10, slots := #[.int (-92)], vm := .none },
  { cls := 10, slots := #[.int (-91)], vm := .none },
  { cls := 10, slots := #[.int (-90)], vm := .none },
  { cls := 10, slots := #[.int (-89)], vm := .none },
  { cls := 10, slots := #[.int (-88)], vm := .none },
  { cls := 10, slots := #[.int (-87)], vm := .none },
  { cls := 10, slots := #[.int (-86)], vm := .none },
  { cls := 10, slots := #[.int (-85)], vm := .none },
  { cls := 10, slots := #[.int (-84)], vm := .none },
  { cls := 10, slots := #[.int (-83)], vm := .none },
  { cls := 10, slots := #[.int (-82)], vm := .none },
  { cls := 10, slots := #[.int (-81)], vm := .none },
  { cls := 10, slots := #[.int (-80)], vm := .none },
  { cls := 10, slots := #[.int (-79)], vm := .none },
  { cls := 10, slots := #[.int (-78)], vm := .none },
  { cls := 10, slots := #[.int (-77)], vm := .none },
  { cls := 10, slots := #[.int (-76)], vm := .none },
  { cls := 10, slots := #[.int (-75)], vm := .none },
  { cls := 10, slots := #[.int (-74)], vm := .none },
  { cls := 10, slots := #[.int (-73)], vm := .none },
  { cls := 10, slots := #[.int (-72)], vm := .none },
  { cls := 10, slots := #[.int (-71)], vm := .none },
  { cls := 10, slots := #[.int (-70)], vm := .none },
  { cls := 10, slots := #[.int (-69)], vm := .none },
  { cls := 10, slots := #[.int (-68)], vm := .none },
  { cls := 10, slots := #[.int (-67)], vm := .none },
  { cls := 10, slots := #[.int (-66)], vm := .none },
  { cls := 10, slots := #[.int (-65)], vm := .none },
  { cls := 10, slots := #[.int (-64)], vm := .none },
  { cls := 10, slots := #[.int (-63)], vm := .none },
  { cls := 10, slots := #[.int (-62)], vm := .none },
  { cls := 10, slots := #[.int (-61)], vm := .none },
  { cls := 10, slots := #[.int (-60)], vm := .none },
  { cls := 10, slots := #[.int (-59)], vm := .none },
  { cls := 10, slots := #[.int (-58)], vm := .none },
  { cls := 10, slots := #[.int (-57)], vm := .none },
  { cls := 10, slots := #[.int (-56)], vm := .none },
  { cls := 10, slots := #[.int (-55)], vm := .none },
  { cls := 10, slots := #[.int (-54)], vm := .none },
  { cls := 10, slots := #[.int (-53)], vm := .none },
  { cls := 10, slots := #[.int (-52)], vm := .none },
  { cls := 10, slots := #[.int (-51)], vm := .none },
  { cls := 10, slots := #[.int (-50)], vm := .none },
  { cls := 10, slots := #[.int (-49)], vm := .none },
  { cls := 10, slots := #[.int (-48)], vm := .none },
  { cls := 10, slots := #[.int (-47)], vm := .none },
  { cls := 10, slots := #[.int (-46)], vm := .none },
  { cls := 10, slots := #[.int (-45)], vm := .none },
  { cls := 10, slots := #[.int (-44)], vm := .none },
  { cls := 10, slots := #[.int (-43)], vm := .none },
  { cls := 10, slots := #[.int (-42)], vm := .none },
  { cls := 10, slots := #[.int (-41)], vm := .none },
  { cls := 10, slots := #[.int (-40)], vm := .none },
  { cls := 10, slots := #[.int (-39)], vm := .none },
  { cls := 10, slots := #[.int (-38)], vm := .none },
  { cls := 10, slots := #[.int (-37)], vm := .none },
  { cls := 10, slots := #[.int (-36)], vm := .none },
  { cls := 10, slots := #[.int (-35)], vm := .none },
  { cls := 10, slots := #[.int (-34)], vm := .none },
  { cls := 10, slots := #[.int (-33)], vm := .none },
  { cls := 10, slots := #[.int (-32)], vm := .none },
  { cls := 10, slots := #[.int (-31)], vm := .none },
  { cls := 10, slots := #[.int (-30)], vm := .none },
  { cls := 10, slots := #[.int (-29)], vm := .none },
  { cls := 10, slots := #[.int (-28)], vm := .none },
  { cls := 10, slots := #[.int (-27)], vm := .none },
  { cls := 10, slots := #[.int (-26)], vm := .none },
  { cls := 10, slots := #[.int (-25)], vm := .none },
  { cls := 10, slots := #[.int (-24)], vm := .none },
  { cls := 10, slots := #[.int (-23)], vm := .none },
  { cls := 10, slots := #[.int (-22)], vm := .none },
  { cls := 10, slots := #[.int (-21)], vm := .none },
  { cls := 10, slots := #[.int (-20)], vm := .none },
  { cls := 10, slots := #[.int (-19)], vm := .none },
  { cls := 10, slots := #[.int (-18)], vm := .none },
  { cls := 10, slots := #[.int (-17)], vm := .none },
  { cls := 10, slots := #[.int (-16)], vm := .none },
  { cls := 10, slots := #[.int (-15)], vm := .none },
  { cls := 10, slots := #[.int (-14)], vm := .none },
  { cls := 10, slots := #[.int (-13)], vm := .none },
  { cls := 10, slots := #[.int (-12)], vm := .none },
  { cls := 10, slots := #[.int (-11)], vm := .none },
  { cls := 10, slots := #[.int (-10)], vm := .none },
  { cls := 10, slots := #[.int (-9)], vm := .none },
  { cls := 10, slots := #[.int (-8)], vm := .none },
  { cls := 10, slots := #[.int (-7)], vm := .none },
  { cls := 10, slots := #[.int (-6)], vm := .none },
  { cls := 10, slots := #[.int (-5)], vm := .none },
  { cls := 10, slots := #[.int (-4)], vm := .none },
  { cls := 10, slots := #[.int (-3)], vm := .none },
  { cls := 10, slots := #[.int (-2)], vm := .none },
  { cls := 10, slots := #[.int (-1)], vm := .none },
  { cls := 10, slots := #[.int 0], vm := .none },
  { cls := 10, slots := #[.int 1], vm := .none },
  { cls := 10, slots := #[.int 2], vm := .none },
  { cls := 10, slots := #[.int 3], vm := .none },
  { cls := 10, slots := #[.int 4], vm := .none },
  { cls := 10, slots := #[.int 5], vm := .none },
  { cls := 10, slots := #[.int 6], vm := .none },
  { cls := 10, slots := #[.int 7], vm := .none },
  { cls := 10, slots := #[.int 8], vm := .none },
  { cls := 10, slots := #[.int 9], vm := .none },
  { cls := 10, slots := #[.int 10], vm := .none },
  { cls := 10, slots := #[.int 11], vm := .none },
  { cls := 10, slots := #[.int 12], vm := .none },
  { cls := 10, slots := #[.int 13], vm := .none },
  { cls := 10, slots := #[.int 14], vm := .none },
  { cls := 10, slots := #[.int 15], vm := .none },
  { cls := 10, slots := #[.int 16], vm := .none },
  { cls := 10, slots := #[.int 17], vm := .none },
  { cls := 10, slots := #[.int 18], vm := .none },
  { cls := 10, slots := #[.int 19], vm := .none },
  { cls := 10, slots := #[.int 20], vm := .none },
  { cls := 10, slots := #[.int 21], vm := .none },
  { cls := 10, slots := #[.int 22], vm := .none },
  { cls := 10, slots := #[.int 23], vm := .none },
  { cls := 10, slots := #[.int 24], vm := .none },
  { cls := 10, slots := #[.int 25], vm := .none },
  { cls := 10, slots := #[.int 26], vm := .none },
  { cls := 10, slots := #[.int 27], vm := .none },
  { cls := 10, slots := #[.int 28], vm := .none },
  { cls := 10, slots := #[.int 29], vm := .none },
  { cls := 10, slots := #[.int 30], vm := .none },
  { cls := 10, slots := #[.int 31], vm := .none },
  { cls := 10, slots := #[.int 32], vm := .none },
  { cls := 10, slots := #[.int 33], vm := .none },
  { cls := 10, slots := #[.int 34], vm := .none },
  { cls := 10, slots := #[.int 35], vm := .none },
  { cls := 10, slots := #[.int 36], vm := .none },
  { cls := 10, slots := #[.int 37], vm := .none },
  { cls := 10, slots := #[.int 38], vm := .none },
  { cls := 10, slots := #[.int 39], vm := .none },
  { cls := 10, slots := #[.int 40], vm := .none },
  { cls := 10, slots := #[.int 41], vm := .none },
  { cls := 10, slots := #[.int 42], vm := .none },
  { cls := 10, slots := #[.int 43], vm := .none },
  { cls := 10, slots := #[.int 44], vm := .none },
  { cls := 10, slots := #[.int 45], vm := .none },
  { cls := 10, slots := #[.int 46], vm := .none },
  { cls := 10, slots := #[.int 47], vm := .none },
  { cls := 10, slots := #[.int 48], vm := .none },
  { cls := 10, slots := #[.int 49], vm := .none },
  { cls := 10, slots := #[.int 50], vm := .none },
  { cls := 10, slots := #[.int 51], vm := .none },
  { cls := 10, slots := #[.int 52], vm := .none },
  { cls := 10, slots := #[.int 53], vm := .none },
  { cls := 10, slots := #[.int 54], vm := .none },
  { cls := 10, slots := #[.int 55], vm := .none },
  { cls := 10, slots := #[.int 56], vm := .none },
  { cls := 10, slots := #[.int 57], vm := .none },
  { cls := 10, slots := #[.int 58], vm := .none },
  { cls := 10, slots := #[.int 59], vm := .none },
  { cls := 10, slots := #[.int 60], vm := .none },
  { cls := 10, slots := #[.int 61], vm := .none },
  { cls := 10, slots := #[.int 62], vm := .none },
  { cls := 10, slots := #[.int 63], vm := .none },
  { cls := 10, slots := #[.int 64], vm := .none },
  { cls := 10, slots := #[.int 65], vm := .none },
  { cls := 10, slots := #[.int 66], vm := .none },
  { cls := 10, slots := #[.int 67], vm := .none },
  { cls := 10, slots := #[.int 68], vm := .none },
  { cls := 10, slots := #[.int 69], vm := .none },
  { cls := 10, slots := #[.int 70], vm := .none },
  { cls := 10, slots := #[.int 71], vm := .none },
  { cls := 10, slots := #[.int 72], vm := .none },
  { cls := 10, slots := #[.int 73], vm := .none },
  { cls := 10, slots := #[.int 74], vm := .none },
  { cls := 10, slots := #[.int 75], vm := .none },
  { cls := 10, slots := #[.int 76], vm := .none },
  { cls := 10, slots := #[.int 77], vm := .none },
  { cls := 10, slots := #[.int 78], vm := .none },
  { cls := 10, slots := #[.int 79], vm := .none },
  { cls := 10, slots := #[.int 80], vm := .none },
  { cls := 10, slots := #[.int 81], vm := .none },
  { cls := 10, slots := #[.int 82], vm := .none },
  { cls := 10, slots := #[.int 83], vm := .none },
  { cls := 10, slots := #[.int 84], vm := .none },
  { cls := 10, slots := #[.int 85], vm := .none },
  { cls := 10, slots := #[.int 86], vm := .none },
  { cls := 10, slots := #[.int 87], vm := .none },
  { cls := 10, slots := #[.int 88], vm := .none },
  { cls := 10, slots := #[.int 89], vm := .none },
  { cls := 10, slots := #[.int 90], vm := .none },
  { cls := 10, slots := #[.int 91], vm := .none },
  { cls := 10, slots := #[.int 92], vm := .none },
  { cls := 10, slots := #[.int 93], vm := .none },
  { cls := 10, slots := #[.int 94], vm := .none },
  { cls := 10, slots := #[.int 95], vm := .none },
  { cls := 10, slots := #[.int 96], vm := .none },
  { cls := 10, slots := #[.int 97], vm := .none },
  { cls := 10, slots := #[.int 98], vm := .none },
  { cls := 10, slots := #[.int 99], vm := .none },
  { cls := 10, slots := #[.int 100], vm := .none },
  { cls := 10, slots := #[.int 101], vm := .none },
  { cls := 10, slots := #[.int 102], vm := .none },
  { cls := 10, slots := #[.int 103], vm := .none },
  { cls := 10, slots := #[.int 104], vm := .none },
  { cls := 10, slots := #[.int 105], vm := .none },
  { cls := 10, slots := #[.int 106], vm := .none },
  { cls := 10, slots := #[.int 107], vm := .none },
  { cls := 10, slots := #[.int 108], vm := .none },
  { cls := 10, slots := #[.int 109], vm := .none },
  { cls := 10, slots := #[.int 110], vm := .none },
  { cls := 10, slots := #[.int 111], vm := .none },
  { cls := 10, slots := #[.int 112], vm := .none },
  { cls := 10, slots := #[.int 113], vm := .none },
  { cls := 10, slots := #[.int 114], vm := .none },
  { cls := 10, slots := #[.int 115], vm := .none },
  { cls := 10, slots := #[.int 116], vm := .none },
  { cls := 10, slots := #[.int 117], vm := .none },
  { cls := 10, slots := #[.int 118], vm := .none },
  { cls := 10, slots := #[.int 119], vm := .none },
  { cls := 10, slots := #[.int 120], vm := .none },
  { cls := 10, slots := #[.int 121], vm := .none },
  { cls := 10, slots := #[.int 122], vm := .none },
  { cls := 10, slots := #[.int 123], vm := .none },
  { cls := 10, slots := #[.int 124], vm := .none },
  { cls := 10, slots := #[.int 125], vm := .none },
  { cls := 10, slots := #[.int 126], vm := .none },
  { cls := 10, slots := #[.int 127], vm := .none },
  { cls := 12, slots := #[.long (-128)], vm := .none },
  { cls := 12, slots := #[.long (-127)], vm := .none },
  { cls := 12, slots := #[.long (-126)], vm := .none },
  { cls := 12, slots := #[.long (-125)], vm := .none },
  { cls := 12, slots := #[.long (-124)], vm := .none },
  { cls := 12, slots := #[.long (-123)], vm := .none },
  { cls := 12, slots := #[.long (-122)], vm := .none },
  { cls := 12, slots := #[.long (-121)], vm := .none },
  { cls := 12, slots := #[.long (-120)], vm := .none },
  { cls := 12, slots := #[.long (-119)], vm := .none },
  { cls := 12, slots := #[.long (-118)], vm := .none },
  { cls := 12, slots := #[.long (-117)], vm := .none },
  { cls := 12, slots := #[.long (-116)], vm := .none },
  { cls := 12, slots := #[.long (-115)], vm := .none },
  { cls := 12, slots := #[.long (-114)], vm := .none },
  { cls := 12, slots := #[.long (-113)], vm := .none },
  { cls := 12, slots := #[.long (-112)], vm := .none },
  { cls := 12, slots := #[.long (-111)], vm := .none },
  { cls := 12, slots := #[.long (-110)], vm := .none },
  { cls := 12, slots := #[.long (-109)], vm := .none },
  { cls := 12, slots := #[.long (-108)], vm := .none },
  { cls := 12, slots := #[.long (-107)], vm := .none },
  { cls := 12, slots := #[.long (-106)], vm := .none },
  { cls := 12, slots := #[.long (-105)], vm := .none },
  { cls := 12, slots := #[.long (-104)], vm := .none },
  { cls := 12, slots := #[.long (-103)], vm := .none },
  { cls := 12, slots := #[.long (-102)], vm := .none },
  { cls := 12, slots := #[.long (-101)], vm := .none },
  { cls := 12, slots := #[.long (-100)], vm := .none },
  { cls := 12, slots := #[.long (-99)], vm := .none },
  { cls := 12, slots := #[.long (-98)], vm := .none },
  { cls := 12, slots := #[.long (-97)], vm := .none },
  { cls := 12, slots := #[.long (-96)], vm := .none },
  { cls := 12, slots := #[.long (-95)], vm := .none },
  { cls := 12, slots := #[.long (-94)], vm := .none },
  { cls := 12, slots := #[.long (-93)], vm := .none },
  { cls := 12, slots := #[.long (-92)], vm := .none },
  { cls := 12, slots := #[.long (-91)], vm := .none },
  { cls := 12, slots := #[.long (-90)], vm := .none },
  { cls := 12, slots := #[.long (-89)], vm := .none },
  { cls := 12, slots := #[.long (-88)], vm := .none },
  { cls := 12, slots := #[.long (-87)], vm := .none },
  { cls := 12, slots := #[.long (-86)], vm := .none },
  { cls := 12, slots := #[.long (-85)], vm := .none },
  { cls := 12, slots := #[.long (-84)], vm := .none },
  { cls := 12, slots := #[.long (-83)], vm := .none },
  { cls := 12, slots := #[.long (-82)], vm := .none },
  { cls := 12, slots := #[.long (-81)], vm := .none },
  { cls := 12, slots := #[.long (-80)], vm := .none },
  { cls := 12, slots := #[.long (-79)], vm := .none },
  { cls := 12, slots := #[.long (-78)], vm := .none },
  { cls := 12, slots := #[.long (-77)], vm := .none },
  { cls := 12, slots := #[.long (-76)], vm := .none },
  { cls := 12, slots := #[.long (-75)], vm := .none },
  { cls := 12, slots := #[.long (-74)], vm := .none },
  { cls := 12, slots := #[.long (-73)], vm := .none },
  { cls := 12, slots := #[.long (-72)], vm := .none },
  { cls := 12, slots := #[.long (-71)], vm := .none },
  { cls := 12, slots := #[.long (-70)], vm := .none },
  { cls := 12, slots := #[.long (-69)], vm := .none },
  { cls := 12, slots := #[.long (-68)], vm := .none },
  { cls := 12, slots := #[.long (-67)], vm := .none },
  { cls := 12, slots := #[.long (-66)], vm := .none },
  { cls := 12, slots := #[.long (-65)], vm := .none },
  { cls := 12, slots := #[.long (-64)], vm := .none },
  { cls := 12, slots := #[.long (-63)], vm := .none },
  { cls := 12, slots := #[.long (-62)], vm := .none },
  { cls := 12, slots := #[.long (-61)], vm := .none },
  { cls := 12, slots := #[.long (-60)], vm := .none },
  { cls := 12, slots := #[.long (-59)], vm := .none },
  { cls := 12, slots := #[.long (-58)], vm := .none },
  { cls := 12, slots := #[.long (-57)], vm := .none },
  { cls := 12, slots := #[.long (-56)], vm := .none },
  { cls := 12, slots := #[.long (-55)], vm := .none },
  { cls := 12, slots := #[.long (-54)], vm := .none },
  { cls := 12, slots := #[.long (-53)], vm := .none },
  { cls := 12, slots := #[.long (-52)], vm := .none },
  { cls := 12, slots := #[.long (-51)], vm := .none },
  { cls := 12, slots := #[.long (-50)], vm := .none },
  { cls := 12, slots := #[.long (-49)], vm := .none },
  { cls := 12, slots := #[.long (-48)], vm := .none },
  { cls := 12, slots := #[.long (-47)], vm := .none },
  { cls := 12, slots := #[.long (-46)], vm := .none },
  { cls := 12, slots := #[.long (-45)], vm := .none },
  { cls := 12, slots := #[.long (-44)], vm := .none },
  { cls := 12, slots := #[.long (-43)], vm := .none },
  { cls := 12, slots := #[.long (-42)], vm := .none },
  { cls := 12, slots := #[.long (-41)], vm := .none },
  { cls := 12, slots := #[.long (-40)], vm := .none },
  { cls := 12, slots := #[.long (-39)], vm := .none },
  { cls := 12, slots := #[.long (-38)], vm := .none },
  { cls := 12, slots := #[.long (-37)], vm := .none },
  { cls := 12, slots := #[.long (-36)], vm := .none },
  { cls := 12, slots := #[.long (-35)], vm := .none },
  { cls := 12, slots := #[.long (-34)], vm := .none },
  { cls := 12, slots := #[.long (-33)], vm := .none },
  { cls := 12, slots := #[.long (-32)], vm := .none },
  { cls := 12, slots := #[.long (-31)], vm := .none },
  { cls := 12, slots := #[.long (-30)], vm := .none },
  { cls := 12, slots := #[.long (-29)], vm := .none },
  { cls := 12, slots := #[.long (-28)], vm := .none },
  { cls := 12, slots := #[.long (-27)], vm := .none },
  { cls := 12, slots := #[.long (-26)], vm := .none },
  { cls := 12, slots := #[.long (-25)], vm := .none },
  { cls := 12, slots := #[.long (-24)], vm := .none },
  { cls := 12, slots := #[.long (-23)], vm := .none },
  { cls := 12, slots := #[.long (-22)], vm := .none },
  { cls := 12, slots := #[.long (-21)], vm := .none },
  { cls := 12, slots := #[.long (-20)], vm := .none },
  { cls := 12, slots := #[.long (-19)], vm := .none },
  { cls := 12, slots := #[.long (-18)], vm := .none },
  { cls := 12, slots := #[.long (-17)], vm := .none },
  { cls := 12, slots := #[.long (-16)], vm := .none },
  { cls := 12, slots := #[.long (-15)], vm := .none },
  { cls := 12, slots := #[.long (-14)], vm := .none },
  { cls := 12, slots := #[.long (-13)], vm := .none },
  { cls := 12, slots := #[.long (-12)], vm := .none },
  { cls := 12, slots := #[.long (-11)], vm := .none },
  { cls := 12, slots := #[.long (-10)], vm := .none },
  { cls := 12, slots := #[.long (-9)], vm := .none },
  { cls := 12, slots := #[.long (-8)], vm := .none },
  { cls := 12, slots := #[.long (-7)], vm := .none },
  { cls := 12, slots := #[.long (-6)], vm := .none },
  { cls := 12, slots := #[.long (-5)], vm := .none },
  { cls := 12, slots := #[.long (-4)], vm := .none },
  { cls := 12, slots := #[.long (-3)], vm := .none },
  { cls := 12, slots := #[.long (-2)], vm := .none },
  { cls := 12, slots := #[.long (-1)], vm := .none },
  { cls := 12, slots := #[.long 0], vm := .none },
  { cls := 12, slots := #[.long 1], vm := .none },
  { cls := 12, slots := #[.long 2], vm := .none },
  { cls := 12, slots := #[.long 3], vm := .none },
  { cls := 12, slots := #[.long 4], vm := .none },
  { cls := 12, slots := #[.long 5], vm := .none },
  { cls := 12, slots := #[.long 6], vm := .none },
  { cls := 12, slots := #[.long 7], vm := .none },
  { cls := 12, slots := #[.long 8], vm := .none },
  { cls := 12, slots := #[.long 9], vm := .none },
  { cls := 12, slots := #[.long 10], vm := .none },
  { cls := 12, slots := #[.long 11], vm := .none },
  { cls := 12, slots := #[.long 12], vm := .none },
  { cls := 12, slots := #[.long 13], vm := .none },
  { cls := 12, slots := #[.long 14], vm := .none },
  { cls := 12, slots := #[.long 15], vm := .none },
  { cls := 12, slots := #[.long 16], vm := .none },
  { cls := 12, slots := #[.long 17], vm := .none },
  { cls := 12, slots := #[.long 18], vm := .none },
  { cls := 12, slots := #[.long 19], vm := .none },
  { cls := 12, slots := #[.long 20], vm := .none },
  { cls := 12, slots := #[.long 21], vm := .none },
  { cls := 12, slots := #[.long 22], vm := .none },
  { cls := 12, slots := #[.long 23], vm := .none },
  { cls := 12, slots := #[.long 24], vm := .none },
  { cls := 12, slots := #[.long 25], vm := .none },
  { cls := 12, slots := #[.long 26], vm := .none },
  { cls := 12, slots := #[.long 27], vm := .none },
  { cls := 12, slots := #[.long 28], vm := .none },
  { cls := 12, slots := #[.long 29], vm := .none },
  { cls := 12, slots := #[.long 30], vm := .none },
  { cls := 12, slots := #[.long 31], vm := .none },
  { cls := 12, slots := #[.long 32], vm := .none },
  { cls := 12, slots := #[.long 33], vm := .none },
  { cls := 12, slots := #[.long 34], vm := .none },
  { cls := 12, slots := #[.long 35], vm := .none },
  { cls := 12, slots := #[.long 36], vm := .none },
  { cls := 12, slots := #[.long 37], vm := .none },
  { cls := 12, slots := #[.long 38], vm := .none },
  { cls := 12, slots := #[.long 39], vm := .none },
  { cls := 12, slots := #[.long 40], vm := .none },
  { cls := 12, slots := #[.long 41], vm := .none },
  { cls := 12, slots := #[.long 42], vm := .none },
  { cls := 12, slots := #[.long 43], vm := .none },
  { cls := 12, slots := #[.long 44], vm := .none },
  { cls := 12, slots := #[.long 45], vm := .none },
  { cls := 12, slots := #[.long 46], vm := .none },
  { cls := 12, slots := #[.long 47], vm := .none },
  { cls := 12, slots := #[.long 48], vm := .none },
  { cls := 12, slots := #[.long 49], vm := .none },
  { cls := 12, slots := #[.long 50], vm := .none },
  { cls := 12, slots := #[.long 51], vm := .none },
  { cls := 12, slots := #[.long 52], vm := .none },
  { cls := 12, slots := #[.long 53], vm := .none },
  { cls := 12, slots := #[.long 54], vm := .none },
  { cls := 12, slots := #[.long 55], vm := .none },
  { cls := 12, slots := #[.long 56], vm := .none },
  { cls := 12, slots := #[.long 57], vm := .none },
  { cls := 12, slots := #[.long 58], vm := .none },
  { cls := 12, slots := #[.long 59], vm := .none },
  { cls := 12, slots := #[.long 60], vm := .none },
  { cls := 12, slots := #[.long 61], vm := .none },
  { cls := 12, slots := #[.long 62], vm := .none },
  { cls := 12, slots := #[.long 63], vm := .none },
  { cls := 12, slots := #[.long 64], vm := .none },
  { cls := 12, slots := #[.long 65], vm := .none },
  { cls := 12, slots := #[.long 66], vm := .none },
  { cls := 12, slots := #[.long 67], vm := .none },
  { cls := 12, slots := #[.long 68], vm := .none },
  { cls := 12, slots := #[.long 69], vm := .none },
  { cls := 12, slots := #[.long 70], vm := .none },
  { cls := 12, slots := #[.long 71], vm := .none },
  { cls := 12, slots := #[.long 72], vm := .none },
  { cls := 12, slots := #[.long 73], vm := .none },
  { cls := 12, slots := #[.long 74], vm := .none },
  { cls := 12, slots := #[.long 75], vm := .none },
  { cls := 12, slots := #[.long 76], vm := .none },
  { cls := 12, slots := #[.long 77], vm := .none },
  { cls := 12, slots := #[.long 78], vm := .none },
  { cls := 12, slots := #[.long 79], vm := .none },
  { cls := 12, slots := #[.long 80], vm := .none },
  { cls := 12, slots := #[.long 81], vm := .none },
  { cls := 12, slots := #[.long 82], vm := .none },
  { cls := 12, slots := #[.long 83], vm := .none },
  { cls := 12, slots := #[.long 84], vm := .none },
  { cls := 12, slots := #[.long 85], vm := .none },
  { cls := 12, slots := #[.long 86], vm := .none },
  { cls := 12, slots := #[.long 87], vm := .none },
  { cls := 12, slots := #[.long 88], vm := .none },
  { cls := 12, slots := #[.long 89], vm := .none },
  { cls := 12, slots := #[.long 90], vm := .none },
  { cls := 12, slots := #[.long 91], vm := .none },
  { cls := 12, slots := #[.long 92], vm := .none },
  { cls := 12, slots := #[.long 93], vm := .none },
  { cls := 12, slots := #[.long 94], vm := .none },
  { cls := 12, slots := #[.long 95], vm := .none },
  { cls := 12, slots := #[.long 96], vm := .none },
  { cls := 12, slots := #[.long 97], vm := .none },
  { cls := 12, slots := #[.long 98], vm := .none },
  { cls := 12, slots := #[.long 99], vm := .none },
  { cls := 12, slots := #[.long 100], vm := .none },
  { cls := 12, slots := #[.long 101], vm := .none },
  { cls := 12, slots := #[.long 102], vm := .none },
  { cls := 12, slots := #[.long 103], vm := .none },
  { cls := 12, slots := #[.long 104], vm := .none },
  { cls := 12, slots := #[.long 105], vm := .none },
  { cls := 12, slots := #[.long 106], vm := .none },
  { cls := 12, slots := #[.long 107], vm := .none },
  { cls := 12, slots := #[.long 108], vm := .none },
  { cls := 12, slots := #[.long 109], vm := .none },
  { cls := 12, slots := #[.long 110], vm := .none },
  { cls := 12, slots := #[.long 111], vm := .none },
  { cls := 12, slots := #[.long 112], vm := .none },
  { cls := 12, slots := #[.long 113], vm := .none },
  { cls := 12, slots := #[.long 114], vm := .none },
  { cls := 12, slots := #[.long 115], vm := .none },
  { cls := 12, slots := #[.long 116], vm := .none },
  { cls := 12, slots := #[.long 117], vm := .none },
  { cls := 12, slots := #[.long 118], vm := .none },
  { cls := 12, slots := #[.long 119], vm := .none },
  { cls := 12, slots := #[.long 120], vm := .none },
  { cls := 12, slots := #[.long 121], vm := .none },
  { cls := 12, slots := #[.long 122], vm := .none },
  { cls := 12, slots := #[.long 123], vm := .none },
  { cls := 12, slots := #[.long 124], vm := .none },
  { cls := 12, slots := #[.long 125], vm := .none },
  { cls := 12, slots := #[.long 126], vm := .none },
  { cls := 12, slots := #[.long 127], vm := .none }]
def classes : Array Class := #[k0, k1, k2, k3, k4, k5, k6, k7, k8, k9, k10, k11, k12, k13, k14, k15, k16, k17, k18, k19, k20]
def interned : List (Array UInt16 × Addr) := []
def slotsUsed : Nat := 1032
def theMethod : MethodId := ⟨1, 1⟩
def args0 : Array Value := #[.int 1, .long 2, .int 3, .long 4, .int 5]
def aboutOver (below : List Frame) : State where
  vm := { classes := classes, interned := interned.toArray }
  heap := heap
  slotsUsed := slotsUsed
  threads := #[{ frames := .invoking theMethod args0 :: below }]
def below0 : List Frame := [.native { method := ⟨0, 0⟩, args := #[] }]
def about1 : State := aboutOver below0
def p0 : Program := .bare "" "" ""
def e0 : Env := launch0.env 0 0 0
theorem w_frames : about1.frames = Frame.invoking theMethod args0 :: below0 := rfl
set_option maxRecDepth 65536 in
theorem w_args : argsFit about1.vm theMethod args0 = true := by decide +kernel
set_option maxRecDepth 65536 in
theorem w_heap : heapFits about1 = true := by decide +kernel
set_option maxRecDepth 65536 in
theorem w_runnable : about1.curStatus? = some .runnable := by decide +kernel
set_option maxRecDepth 65536 in
theorem w_alone : about1.alone = true := by decide +kernel
set_option maxRecDepth 65536 in
theorem w_named : about1.methodNamed? x = some theMethod := by decide +kernel
set_option maxRecDepth 65536 in
theorem w_hears : about1.hears theMethod below0 = true := by decide +kernel
set_option maxRecDepth 65536 in
theorem w_ripe : about1.ripe theMethod args0 below0 = true := by decide +kernel
theorem w_running : about1.status = .running := rfl
set_option maxRecDepth 65536 in
theorem w_room : about1.hasRoom e0.platform room_1 = true :=
  launch0.hasRoom_least _ room_1 (by decide +kernel) (by decide +kernel) (by decide +kernel) (by decide +kernel) (by decide +kernel) (by decide +kernel)
theorem allAtoms_all (ts : List Jvm.Cond) (a : Array Jvm.Value) (st : Jvm.State) : (allAtoms ts).before a st = ts.all (fun c => c.before a st) := by
  induction ts with
  | nil => rfl
  | cons c t ih =>
    show (Jvm.Cond.and c (allAtoms t)).before a st = _
    rw [Jvm.Cond.before_and, ih, List.all_cons]
def words1 : List Jvm.Cond := Jvm.Cond.code x code maxLocals ret :: tables_1
/-- a 'code' word, met by the world's own term for the bytes: nothing is compared byte by byte -/
theorem code_word {y : MethodName} {bytes : ByteArray} {mx : Nat} {rt : Option FieldType} {a : Array Value} {s : State} {m : MethodId} {meth : Method} {c : Code} (h1 : s.methodNamed? y = some m) (h2 : s.vm.method? m = some meth) (h3 : meth.code = some c) (h4 : c.code = bytes)
    (h5 : (c.maxLocals == mx && c.exceptionTable.isEmpty && decide (c.maxStack ≤ mostOperands) && decide (meth.sig.returnType = rt) && !meth.locks && decide (parseMethodDescriptor y.desc = some meth.sig)) = true) : (Jvm.Cond.code y bytes mx rt).before a s = true := by
  simp only [Bool.and_eq_true, beq_iff_eq, Bool.not_eq_true', decide_eq_true_eq] at h5
  obtain ⟨⟨⟨⟨⟨g1, g2⟩, g3⟩, g4⟩, g5⟩, g6⟩ := h5
  simp [Cond.before, Cond.holds, Cond.value, h1, h2, h3, h4, g1, g2, g3, g4, g5, g6]
def isCode : Jvm.Cond → Bool
  | .code _ _ _ _ => true
  | _ => false
theorem all_split {L : List Jvm.Cond} {P : Jvm.Cond → Bool} (h1 : L.all (fun c => isCode c || P c) = true) (h2 : ∀ c ∈ L.filter isCode, P c = true) : L.all P = true := by
  refine List.all_eq_true.mpr fun c hc => ?_
  have h := List.all_eq_true.mp h1 c hc
  rcases Bool.eq_false_or_eq_true (isCode c) with hi | hi
  · exact h2 c (List.mem_filter.mpr ⟨hc, hi⟩)
  · simpa [hi] using h
set_option maxRecDepth 65536 in
theorem w_c0 : (Jvm.Cond.code x code maxLocals ret).before args0 about1 = true := code_word (m := ⟨1, 1⟩) (meth := k1m1) (c := k1c1) (by decide +kernel) rfl rfl rfl (by decide +kernel)
set_option maxRecDepth 65536 in
theorem w_c1 : (Jvm.Cond.code ({ cls := "java/lang/Math", name := "max", desc := "(II)I" } : Jvm.MethodName) jdk_29_method_65_code (2 : Nat) (Option.some Jvm.ClassFile.FieldType.int)).before args0 about1 = true := code_word (m := ⟨2, 1⟩) (meth := k2m1) (c := k2c1) (by decide +kernel) rfl rfl rfl (by decide +kernel)
set_option maxRecDepth 65536 in
theorem w_c2 : (Jvm.Cond.code ({ cls := "java/lang/Math", name := "max", desc := "(JJ)J" } : Jvm.MethodName) jdk_29_method_66_code (4 : Nat) (Option.some Jvm.ClassFile.FieldType.long)).before args0 about1 = true := code_word (m := ⟨2, 2⟩) (meth := k2m2) (c := k2c2) (by decide +kernel) rfl rfl rfl (by decide +kernel)
set_option maxRecDepth 65536 in
theorem w_c3 : (Jvm.Cond.code ({ cls := "com/example/libelect/libelect/Leadership", name := "<init>", desc := "(IJ)V" } : Jvm.MethodName) prog_13_method_1_code (4 : Nat) (Option.none : Option Jvm.ClassFile.FieldType)).before args0 about1 = true := code_word (m := ⟨3, 0⟩) (meth := k3m0) (c := k3c0) (by decide +kernel) rfl rfl rfl (by decide +kernel)
set_option maxRecDepth 65536 in
theorem w_c4 : (Jvm.Cond.code ({ cls := "java/lang/Object", name := "<init>", desc := "()V" } : Jvm.MethodName) object_method_1_code (1 : Nat) (Option.none : Option Jvm.ClassFile.FieldType)).before args0 about1 = true := code_word (m := ⟨0, 0⟩) (meth := k0m0) (c := k0c0) (by decide +kernel) rfl rfl rfl (by decide +kernel)
set_option maxRecDepth 65536 in
theorem w_c5 : (Jvm.Cond.code ({ cls := "com/example/libelect/libelect/ProcessId", name := "require", desc := "(I)I" } : Jvm.MethodName) prog_21_method_3_code (1 : Nat) (Option.some Jvm.ClassFile.FieldType.int)).before args0 about1 = true := code_word (m := ⟨4, 1⟩) (meth := k4m1) (c := k4c1) (by decide +kernel) rfl rfl rfl (by decide +kernel)
set_option maxRecDepth 65536 in
theorem w_c6 : (Jvm.Cond.code ({ cls := "com/example/libelect/libelect/Leadership", name := "equals", desc := "(Ljava/lang/Object;)Z" } : Jvm.MethodName) prog_13_method_4_code (3 : Nat) (Option.some Jvm.ClassFile.FieldType.boolean)).before args0 about1 = true := code_word (m := ⟨3, 1⟩) (meth := k3m1) (c := k3c1) (by decide +kernel) rfl rfl rfl (by decide +kernel)
set_option maxRecDepth 65536 in
theorem w_c7 : (Jvm.Cond.code ({ cls := "java/lang/Integer", name := "valueOf", desc := "(I)Ljava/lang/Integer;" } : Jvm.MethodName) jdk_33_method_22_code (1 : Nat) (Option.some (Jvm.ClassFile.FieldType.object "java/lang/Integer"))).before args0 about1 = true := code_word (m := ⟨10, 0⟩) (meth := k10m0) (c := k10c0) (by decide +kernel) rfl rfl rfl (by decide +kernel)
set_option maxRecDepth 65536 in
theorem w_c8 : (Jvm.Cond.code ({ cls := "java/lang/Long", name := "valueOf", desc := "(J)Ljava/lang/Long;" } : Jvm.MethodName) jdk_35_method_24_code (3 : Nat) (Option.some (Jvm.ClassFile.FieldType.object "java/lang/Long"))).before args0 about1 = true := code_word (m := ⟨12, 0⟩) (meth := k12m0) (c := k12c0) (by decide +kernel) rfl rfl rfl (by decide +kernel)
set_option maxRecDepth 65536 in
theorem w_c9 : (Jvm.Cond.code ({ cls := "java/lang/Long", name := "<init>", desc := "(J)V" } : Jvm.MethodName) jdk_35_method_26_code (3 : Nat) (Option.none : Option Jvm.ClassFile.FieldType)).before args0 about1 = true := code_word (m := ⟨12, 1⟩) (meth := k12m1) (c := k12c1) (by decide +kernel) rfl rfl rfl (by decide +kernel)
set_option maxRecDepth 65536 in
theorem w_c10 : (Jvm.Cond.code ({ cls := "java/lang/Number", name := "<init>", desc := "()V" } : Jvm.MethodName) jdk_18_method_1_code (1 : Nat) (Option.none : Option Jvm.ClassFile.FieldType)).before args0 about1 = true := code_word (m := ⟨6, 0⟩) (meth := k6m0) (c := k6c0) (by decide +kernel) rfl rfl rfl (by decide +kernel)
set_option maxRecDepth 65536 in
theorem w_c11 : (Jvm.Cond.code ({ cls := "java/lang/Integer", name := "<init>", desc := "(I)V" } : Jvm.MethodName) jdk_33_method_23_code (2 : Nat) (Option.none : Option Jvm.ClassFile.FieldType)).before args0 about1 = true := code_word (m := ⟨10, 1⟩) (meth := k10m1) (c := k10c1) (by decide +kernel) rfl rfl rfl (by decide +kernel)
def codes1 : List Jvm.Cond := [Jvm.Cond.code x code maxLocals ret, Jvm.Cond.code ({ cls := "java/lang/Math", name := "max", desc := "(II)I" } : Jvm.MethodName) jdk_29_method_65_code (2 : Nat) (Option.some Jvm.ClassFile.FieldType.int), Jvm.Cond.code ({ cls := "java/lang/Math", name := "max", desc := "(JJ)J" } : Jvm.MethodName) jdk_29_method_66_code (4 : Nat) (Option.some Jvm.ClassFile.FieldType.long), Jvm.Cond.code ({ cls := "com/example/libelect/libelect/Leadership", name := "<init>", desc := "(IJ)V" } : Jvm.MethodName) prog_13_method_1_code (4 : Nat) (Option.none : Option Jvm.ClassFile.FieldType), Jvm.Cond.code ({ cls := "java/lang/Object", name := "<init>", desc := "()V" } : Jvm.MethodName) object_method_1_code (1 : Nat) (Option.none : Option Jvm.ClassFile.FieldType), Jvm.Cond.code ({ cls := "com/example/libelect/libelect/ProcessId", name := "require", desc := "(I)I" } : Jvm.MethodName) prog_21_method_3_code (1 : Nat) (Option.some Jvm.ClassFile.FieldType.int), Jvm.Cond.code ({ cls := "com/example/libelect/libelect/Leadership", name := "equals", desc := "(Ljava/lang/Object;)Z" } : Jvm.MethodName) prog_13_method_4_code (3 : Nat) (Option.some Jvm.ClassFile.FieldType.boolean), Jvm.Cond.code ({ cls := "java/lang/Integer", name := "valueOf", desc := "(I)Ljava/lang/Integer;" } : Jvm.MethodName) jdk_33_method_22_code (1 : Nat) (Option.some (Jvm.ClassFile.FieldType.object "java/lang/Integer")), Jvm.Cond.code ({ cls := "java/lang/Long", name := "valueOf", desc := "(J)Ljava/lang/Long;" } : Jvm.MethodName) jdk_35_method_24_code (3 : Nat) (Option.some (Jvm.ClassFile.FieldType.object "java/lang/Long")), Jvm.Cond.code ({ cls := "java/lang/Long", name := "<init>", desc := "(J)V" } : Jvm.MethodName) jdk_35_method_26_code (3 : Nat) (Option.none : Option Jvm.ClassFile.FieldType), Jvm.Cond.code ({ cls := "java/lang/Number", name := "<init>", desc := "()V" } : Jvm.MethodName) jdk_18_method_1_code (1 : Nat) (Option.none : Option Jvm.ClassFile.FieldType), Jvm.Cond.code ({ cls := "java/lang/Integer", name := "<init>", desc := "(I)V" } : Jvm.MethodName) jdk_33_method_23_code (2 : Nat) (Option.none : Option Jvm.ClassFile.FieldType)]
set_option maxRecDepth 65536 in
theorem codes_eq : words1.filter isCode = codes1 := rfl
theorem w_codes : ∀ c ∈ words1.filter isCode, c.before args0 about1 = true := by
  rw [codes_eq]
  intro c hc
  simp only [codes1, List.mem_cons, List.not_mem_nil, or_false] at hc
  rcases hc with rfl | rfl | rfl | rfl | rfl | rfl | rfl | rfl | rfl | rfl | rfl | rfl
  · exact w_c0
  · exact w_c1
  · exact w_c2
  · exact w_c3
  · exact w_c4
  · exact w_c5
  · exact w_c6
  · exact w_c7
  · exact w_c8
  · exact w_c9
  · exact w_c10
  · exact w_c11
set_option maxRecDepth 65536 in
theorem w_t1 : (words1.take 24).all (fun c => isCode c || c.before args0 about1) = true := by decide +kernel
set_option maxRecDepth 65536 in
theorem w_t2 : ((words1.drop 24).take 24).all (fun c => isCode c || c.before args0 about1) = true := by decide +kernel
set_option maxRecDepth 65536 in
theorem w_t3 : (((words1.drop 24).drop 24).take 24).all (fun c => isCode c || c.before args0 about1) = true := by decide +kernel
set_option maxRecDepth 65536 in
theorem w_t4 : (((words1.drop 24).drop 24).drop 24).all (fun c => isCode c || c.before args0 about1) = true := by decide +kernel
theorem w_tables : (allAtoms (Jvm.Cond.code x code maxLocals ret :: tables_1)).before args0 about1 = true := by
  rw [allAtoms_all]
  show words1.all (fun c => c.before args0 about1) = true
  refine all_split ?_ w_codes
  rw [← List.take_append_drop 24 words1, List.all_append, w_t1, ← List.take_append_drop 24 (words1.drop 24), List.all_append, w_t2, ← List.take_append_drop 24 ((words1.drop 24).drop 24), List.all_append, w_t3, w_t4]
  rfl
set_option maxRecDepth 65536 in
theorem w_rest : rest_1_c.before args0 about1 = true := by decide +kernel
set_option maxRecDepth 65536 in
theorem w_case : (Jvm.Cond.and given_1 narrow_1).before args0 about1 = true := by decide +kernel
theorem w_applies : (headSpec (Jvm.Cond.code x code maxLocals ret :: tables_1) room_1).applies x e0.platform about1 = true :=
  (Spec.applies_iff w_frames).mpr ⟨w_running, w_runnable, w_alone, w_named, w_hears, w_ripe, w_room, w_tables⟩
theorem atStart : AtStart classFile x code maxLocals ret World_1 tables_1 room_1 Calls_1 rest_1 Pre_1 launch0 p0 e0 about1 theMethod args0 below0 :=
  ⟨lists_1, trivial, launch0.admits_env _ _ _, launch0.least_env, fairChoices_fair.cas, fairChoices_fair.clock, w_frames, w_args, w_heap, w_applies, trivial, w_rest, w_case⟩
end start1
theorem witness_1 : WitnessClaimed_1 := ⟨start1.p0, start1.e0, start1.about1, start1.theMethod, start1.args0, start1.below0, start1.atStart⟩
end Jvm.Pilot.@@N@@
