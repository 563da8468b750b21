import JvmDerived
import JvmDerived.Pilot.@@N@@Statement
import JvmDerived.Pilot.@@N@@Code
set_option linter.unusedVariables false
set_option linter.unusedSimpArgs false
@@BLOCK:NumsL.lean.txt@@
namespace Jvm.Pilot.@@N@@
open Jvm Jvm.ClassFile Sem Op Lib Jvm.Free Jvm.Stand Jvm.LawKit Jvm.RoadKit Bundle Jvm.Pilot.@@N@@.Jvm.D
section Own
variable {p : Program} {l : Launch} {e : Env} {R : Room} {s Z : State} {m : MethodId} {args : Array Value} {below : List Frame} {meth : Method} {c : Code} {T : State} {locs : List Loc} {cells slots : Nat} {q : Option Value → Heap → List Loc → Prop}
/-- from U the run ends in a return, as q says -/
def own_Fin (p : Program) (e : Env) (below : List Frame) (s : State) (R : Room) (q : Option Value → Heap → List Loc → Prop) (U : State) : Prop :=
  ∃ s₂ o, Steps p.tables e below U s₂ ∧ s₂.status = .running ∧ Ended s₂ below o ∧ ∃ v L, o = .returned v ∧ q v s₂.heap L ∧ FrameEnd s o s₂ L R.cells R.slots
theorem own_to {U U' : State} (h : ∀ t, Steps p.tables e below U' t → Steps p.tables e below U t) (k : own_Fin p e below s R q U') : own_Fin p e below s R q U := by
  obtain ⟨s₂, o, h1, r⟩ := k
  exact ⟨s₂, o, h _ h1, r⟩
theorem own_ite {C : Prop} [Decidable C] {G : Int32 → State} {U : State} {v1 v0 : Int32} (k : own_Fin p e below s R q (G (if C then v1 else v0))) (h1 : C → own_Fin p e below s R q (G v1) → own_Fin p e below s R q U) (h0 : ¬ C → own_Fin p e below s R q (G v0) → own_Fin p e below s R q U) : own_Fin p e below s R q U := by
  by_cases h : C
  · rw [if_pos h] at k; exact h1 h k
  · rw [if_neg h] at k; exact h0 h k
theorem own_cut {U V : State} (k : own_Fin p e below s R q V) (h : own_Fin p e below s R q V → own_Fin p e below s R q U) : own_Fin p e below s R q U := h k
theorem own_retN (X : Stand p l e R s m args below meth c T locs cells slots) (hx : p.tables.exec = Jvm.exec) (hlk : meth.locks = false) {pc : Nat} {Ls : Array Slot} {z : Int32} {t : FieldType} {rest : List Value} (hret : meth.sig.returnType = some t) (ht : t = .boolean ∨ t = .byte ∨ t = .char ∨ t = .short) (hd : decode c.code pc = .ok (.ireturn, 1)) (hc : cells ≤ R.cells) (hs : slots ≤ R.slots) (hq : q (some (.int (nar t z))) T.heap locs) :
    own_Fin p e below s R q (T.setTop (mkF m pc Ls (.int z :: rest))) := by
  obtain ⟨fs, hr, hrun, hended, hW, hsame⟩ := X.leave (v := some (.int (nar t z))) (fun h => by rw [hret] at h; cases h)
  exact ⟨_, _, retN X hx hret ht hd hr, hrun, hended, _, _, rfl, hq, ⟨_, rfl⟩, hW, hsame.mono hc hs⟩
theorem own_retI (X : Stand p l e R s m args below meth c T locs cells slots) (hx : p.tables.exec = Jvm.exec) (hlk : meth.locks = false) {pc : Nat} {Ls : Array Slot} {z : Int32} {rest : List Value} (hret : meth.sig.returnType = some .int) (hd : decode c.code pc = .ok (.ireturn, 1)) (hc : cells ≤ R.cells) (hs : slots ≤ R.slots) (hq : q (some (.int z)) T.heap locs) :
    own_Fin p e below s R q (T.setTop (mkF m pc Ls (.int z :: rest))) := by
  obtain ⟨fs, hr, hrun, hended, hW, hsame⟩ := X.leave (v := some (.int z)) (fun h => by rw [hret] at h; cases h)
  exact ⟨_, _, retOut X hx hret rfl (Or.inl ⟨rfl, Or.inl rfl, z, rfl⟩) hd hr, hrun, hended, _, _, rfl, hq, ⟨_, rfl⟩, hW, hsame.mono hc hs⟩
theorem own_retJ (X : Stand p l e R s m args below meth c T locs cells slots) (hx : p.tables.exec = Jvm.exec) (hlk : meth.locks = false) {pc : Nat} {Ls : Array Slot} {z : Int64} {rest : List Value} (hret : meth.sig.returnType = some .long) (hd : decode c.code pc = .ok (.lreturn, 1)) (hc : cells ≤ R.cells) (hs : slots ≤ R.slots) (hq : q (some (.long z)) T.heap locs) :
    own_Fin p e below s R q (T.setTop (mkF m pc Ls (.long z :: rest))) := by
  obtain ⟨fs, hr, hrun, hended, hW, hsame⟩ := X.leave (v := some (.long z)) (fun h => by rw [hret] at h; cases h)
  exact ⟨_, _, retOut X hx hret rfl (Or.inr (Or.inl ⟨rfl, rfl, z, rfl⟩)) hd hr, hrun, hended, _, _, rfl, hq, ⟨_, rfl⟩, hW, hsame.mono hc hs⟩
theorem own_retR (X : Stand p l e R s m args below meth c T locs cells slots) (hx : p.tables.exec = Jvm.exec) (hlk : meth.locks = false) {pc : Nat} {Ls : Array Slot} {w : Value} {t : FieldType} {rest : List Value} (hret : meth.sig.returnType = some t) (ht : t.isReference = true) (hw : w.isRef = true) (hn : narrow t w = w) (hd : decode c.code pc = .ok (.areturn, 1)) (hc : cells ≤ R.cells) (hs : slots ≤ R.slots) (hq : q (some w) T.heap locs) :
    own_Fin p e below s R q (T.setTop (mkF m pc Ls (w :: rest))) := by
  obtain ⟨fs, hr, hrun, hended, hW, hsame⟩ := X.leave (v := some w) (fun h => by rw [hret] at h; cases h)
  exact ⟨_, _, retOut X hx hret hn (Or.inr (Or.inr (Or.inr (Or.inr ⟨rfl, ht, hw⟩)))) hd hr, hrun, hended, _, _, rfl, hq, ⟨_, rfl⟩, hW, hsame.mono hc hs⟩
theorem own_retV (X : Stand p l e R s m args below meth c T locs cells slots) (hx : p.tables.exec = Jvm.exec) (hlk : meth.locks = false) {pc : Nat} {Ls : Array Slot} (hret : meth.sig.returnType = none) (hd : decode c.code pc = .ok (.return_, 1)) (hc : cells ≤ R.cells) (hs : slots ≤ R.slots) (hq : q none T.heap locs) :
    own_Fin p e below s R q (T.setTop (mkF m pc Ls [])) := by
  obtain ⟨fs, hr, hrun, hended, hW, hsame⟩ := X.leave (v := none) (fun _ => rfl)
  exact ⟨_, _, X.returnOut hx hret hd hr, hrun, hended, _, _, rfl, hq, ⟨_, rfl⟩, hW, hsame.mono hc hs⟩
/-- the contract of a body at given arguments and a given heap -/
abbrev own_Met (l : Launch) (Z : State) (y : MethodName) (bytes : ByteArray) (maxL : Nat) (ret : Option FieldType) (ws : List Jvm.Cond) (rm : Room) (as' : Array Value) (h0 : Heap) (q : Option Value → Heap → List Loc → Prop) : Prop :=
  MetFree l y (head1 (Jvm.Cond.code y bytes maxL ret :: ws) rm) (fun a U => a = as' ∧ Z.Warmed39 U.vm ∧ U.heap = h0) (fun _ _ _ _ _ => True) (fun _ U o U' => ∃ v L, o = .returned v ∧ q v U'.heap L ∧ FrameEnd U o U' L rm.cells rm.slots)
theorem own_back {a0 : Array Value} {h : Heap} {y : MethodName} {bytes : ByteArray} {maxL : Nat} {ret : Option FieldType} {rm : Room} {len W : Nat} {as' : Array Value} (hM : own_Met l Z y bytes maxL ret [] rm as' h q)
    (hZ : Z.Warmed39 s.vm) (wc : (Jvm.Cond.code y bytes maxL ret).before a0 Z = true) (wz : (Jvm.Cond.initialized y.cls).before a0 Z = true) (hf : rm.frames + 1 ≤ R.frames) (hl : W + (maxL + 11) + rm.locals ≤ R.locals) :
    Back l R p e below s args y len W (fun A a => a = as' ∧ A.U.heap = h ∧ A.cells + rm.cells ≤ R.cells ∧ A.slots + rm.slots ≤ R.slots)
      (fun A _ v B => ∃ L, q v B.U.heap L ∧ B.locs = A.locs ++ L ∧ B.cells = A.cells + rm.cells ∧ B.slots = A.slots + rm.slots) := backOf (Q := q) hM hZ wc wz hf hl
theorem own_enter {y : MethodName} {bytes : ByteArray} {maxL : Nat} {ret : Option FieldType} {ws : List Jvm.Cond} {rm : Room} {as' : Array Value} {h0 : Heap} (hpl : plainFor y = true)
    (k : ∀ (p : Program) (e : Env) (s : State) (m : MethodId) (below : List Frame) (meth : Method) (c : Code) (s₁ : State), Stand p l e rm s m as' below meth c s₁ [] 0 0 → p.tables.exec = Jvm.exec → Z.Warmed39 s.vm → c.code = bytes → c.maxLocals = maxL → s.vm.findClass y.cls = some m.cls → meth.name = y.name → meth.sig.returnType = ret → meth.locks = false → s₁.heap = h0 → own_Fin p e below s rm q (s₁.setTop (entryFrame m as' maxL))) :
    own_Met l Z y bytes maxL ret ws rm as' h0 q := by
  refine MetFree.of_bodySF hpl hisR ?_
  intro p e s m args below meth c s₁ Bd hml0 hP hK
  obtain ⟨rfl, hZ, hh⟩ := hP
  exact k p e s m below meth c s₁ (Stand.of_body Bd) Bd.exec hZ Bd.bytes hml0 (findClass_of_methodNamed Bd.named) (name_of_methodNamed Bd.named Bd.method).1 Bd.returns Bd.notSynchronized (by rw [← hh, Bd.state]; rfl)
theorem own_selP {a : Array Value} {y y' : MethodName} (w : (Jvm.Cond.selects y'.cls y' y').before a s = true) (hc : y'.cls = y.cls) (hp : s.PrivateAt y) (hi : (Jvm.Cond.instanceMethod y).before a s = true) (hy : y.cls ≠ "java/lang/invoke/MethodHandle" ∧ y.cls ≠ "java/lang/invoke/VarHandle") : (Jvm.Cond.selects y.cls y y).before a s = true := by
  obtain ⟨c, r, m, h1, -, h3, -, mk, h4, h5⟩ := Cond.selects_spec w
  exact selects_self_of_private (c := m.cls) (k := mk) (hc ▸ findClass_of_methodNamed h3) h4 h5 hp hi hy
end Own
section OwnW
variable {p : Program} {l : Launch} {e : Env} {R : Room} {s Z : State} {vm0 : Vm} {k0 : Nat} {m : MethodId} {args : Array Value} {below : List Frame} {meth : Method} {c : Code} {T : State} {locs : List Loc} {cells slots : Nat} {q : Option Value → Heap → List Loc → Prop}
/-- from U the run ends in a return, as q says; it may have interned -/
def own_FinW (p : Program) (e : Env) (below : List Frame) (s : State) (R : Room) (q : Option Value → Heap → List Loc → Prop) (U : State) : Prop :=
  ∃ s₂ o, Steps p.tables e below U s₂ ∧ s₂.status = .running ∧ Ended s₂ below o ∧ ∃ v L, o = .returned v ∧ q v s₂.heap L ∧ ReturnedEndW s o s₂ L R.cells R.slots
theorem own_toW {U U' : State} (h : ∀ t, Steps p.tables e below U' t → Steps p.tables e below U t) (k : own_FinW p e below s R q U') : own_FinW p e below s R q U := by
  obtain ⟨s₂, o, h1, r⟩ := k
  exact ⟨s₂, o, h _ h1, r⟩
theorem own_monoW {s t : State} {o : Outcome} {L : List Loc} {k k' n n' : Nat} (h : ReturnedEndW s o t L k n) (h1 : k ≤ k') (h2 : n ≤ n') : ReturnedEndW s o t L k' n' := ⟨h.1, h.2.1, h.2.2.1, h.2.2.2.mono h1 h2⟩
theorem own_retNW (X : Stand p l e R (s.setVm vm0) m args below meth c T locs cells slots) (hS : s.Since vm0 k0) (hk : k0 ≤ T.heap.size) (hx : p.tables.exec = Jvm.exec) (hlk : meth.locks = false) {pc : Nat} {Ls : Array Slot} {z : Int32} {t : FieldType} {rest : List Value} (hret : meth.sig.returnType = some t) (ht : t = .boolean ∨ t = .byte ∨ t = .char ∨ t = .short) (hd : decode c.code pc = .ok (.ireturn, 1)) (hc : cells ≤ R.cells) (hs : slots ≤ R.slots) (hq : q (some (.int (nar t z))) T.heap locs) :
    own_FinW p e below s R q (T.setTop (mkF m pc Ls (.int z :: rest))) := by
  obtain ⟨fs, hr, hrun, hended, hW⟩ := X.leaveW hS hk (v := some (.int (nar t z))) (fun h => by rw [hret] at h; cases h)
  exact ⟨_, _, retN X hx hret ht hd hr, hrun, hended, _, _, rfl, hq, own_monoW hW hc hs⟩
theorem own_retRW (X : Stand p l e R (s.setVm vm0) m args below meth c T locs cells slots) (hS : s.Since vm0 k0) (hk : k0 ≤ T.heap.size) (hx : p.tables.exec = Jvm.exec) (hlk : meth.locks = false) {pc : Nat} {Ls : Array Slot} {w : Value} {t : FieldType} {rest : List Value} (hret : meth.sig.returnType = some t) (ht : t.isReference = true) (hw : w.isRef = true) (hn : narrow t w = w) (hd : decode c.code pc = .ok (.areturn, 1)) (hc : cells ≤ R.cells) (hs : slots ≤ R.slots) (hq : q (some w) T.heap locs) :
    own_FinW p e below s R q (T.setTop (mkF m pc Ls (w :: rest))) := by
  obtain ⟨fs, hr, hrun, hended, hW⟩ := X.leaveW hS hk (v := some w) (fun h => by rw [hret] at h; cases h)
  exact ⟨_, _, retOut X hx hret hn (Or.inr (Or.inr (Or.inr (Or.inr ⟨rfl, ht, hw⟩)))) hd hr, hrun, hended, _, _, rfl, hq, own_monoW hW hc hs⟩
theorem own_retVW (X : Stand p l e R (s.setVm vm0) m args below meth c T locs cells slots) (hS : s.Since vm0 k0) (hk : k0 ≤ T.heap.size) (hx : p.tables.exec = Jvm.exec) (hlk : meth.locks = false) {pc : Nat} {Ls : Array Slot} (hret : meth.sig.returnType = none) (hd : decode c.code pc = .ok (.return_, 1)) (hc : cells ≤ R.cells) (hs : slots ≤ R.slots) (hq : q none T.heap locs) :
    own_FinW p e below s R q (T.setTop (mkF m pc Ls [])) := by
  obtain ⟨fs, hr, hrun, hended, hW⟩ := X.leaveW hS hk (v := none) (fun _ => rfl)
  exact ⟨_, _, X.returnOut hx hret hd hr, hrun, hended, _, _, rfl, hq, own_monoW hW hc hs⟩
abbrev own_MetW (l : Launch) (Z : State) (y : MethodName) (bytes : ByteArray) (maxL : Nat) (ret : Option FieldType) (ws : List Jvm.Cond) (rm : Room) (as' : Array Value) (h0 : Heap) (q : Option Value → Heap → List Loc → Prop) : Prop :=
  MetFree l y (head1 (Jvm.Cond.code y bytes maxL ret :: ws) rm) (fun a U => a = as' ∧ Z.Warmed39 U.vm ∧ U.heap = h0) (fun _ _ _ _ _ => True) (fun _ U o U' => ∃ v L, o = .returned v ∧ q v U'.heap L ∧ ReturnedEndW U o U' L rm.cells rm.slots)
theorem own_backS {a0 : Array Value} {h : Heap} {y : MethodName} {bytes : ByteArray} {maxL : Nat} {ret : Option FieldType} {rm : Room} {len W : Nat} {as' : Array Value} (hM : own_MetW l Z y bytes maxL ret [] rm as' h q)
    (hZ : Z.Warmed39 s.vm) (wc : (Jvm.Cond.code y bytes maxL ret).before a0 Z = true) (wz : (Jvm.Cond.initialized y.cls).before a0 Z = true) (hf : rm.frames + 1 ≤ R.frames) (hl : W + (maxL + 11) + rm.locals ≤ R.locals) :
    BackS l R p e below s args y len W (fun A a => a = as' ∧ A.U.heap = h ∧ A.cells + rm.cells ≤ R.cells ∧ A.slots + rm.slots ≤ R.slots)
      (fun A _ v B => ∃ L, q v B.U.heap L ∧ B.locs = A.locs ++ L ∧ B.cells = A.cells + rm.cells ∧ B.slots = A.slots + rm.slots) := backOfS (Q := q) hM hZ wc wz hf hl
theorem own_enterW {y : MethodName} {bytes : ByteArray} {maxL : Nat} {ret : Option FieldType} {ws : List Jvm.Cond} {rm : Room} {as' : Array Value} {h0 : Heap} (hpl : plainFor y = true)
    (k : ∀ (p : Program) (e : Env) (s : State) (vm0 : Vm) (m : MethodId) (below : List Frame) (meth : Method) (c : Code) (s₁ : State), Stand p l e rm (s.setVm vm0) m as' below meth c s₁ [] 0 0 → p.tables.exec = Jvm.exec → Z.Warmed39 (s.setVm vm0).vm → c.code = bytes → c.maxLocals = maxL → (s.setVm vm0).vm.findClass y.cls = some m.cls → meth.name = y.name → meth.sig.returnType = ret → meth.locks = false → s.Since vm0 0 → s₁.heap = h0 → own_FinW p e below s rm q (s₁.setTop (entryFrame m as' maxL))) :
    own_MetW l Z y bytes maxL ret ws rm as' h0 q := by
  refine MetFree.of_bodySF hpl hisR ?_
  intro p e s m args below meth c s₁ Bd hml0 hP hK
  obtain ⟨rfl, hZ, hh⟩ := hP
  have X0 : Stand p l e rm (s.setVm s.vm) m args below meth c s₁ [] 0 0 := Stand.of_body Bd
  have hS : s.Since s.vm 0 := (State.WarmedH.refl s).since 0
  exact k p e s s.vm m below meth c s₁ X0 Bd.exec hZ Bd.bytes hml0 (findClass_of_methodNamed Bd.named) (name_of_methodNamed Bd.named Bd.method).1 Bd.returns Bd.notSynchronized hS (by rw [← hh, Bd.state]; rfl)
end OwnW
section OwnH
variable {p : Program} {l : Launch} {e : Env} {R : Room} {s Z : State} {vm0 : Vm} {k0 : Nat} {m : MethodId} {args : Array Value} {below : List Frame} {meth : Method} {c : Code} {T : State} {locs : List Loc} {cells slots : Nat} {q : Option Value → Heap → List Loc → Prop} {EL : List (String × Nat)} {a0 : Array Value}
/-- from U the run ends in a return, as q says; it may have interned, and what the tables book for the entries of EL says its text -/
def own_FinH (p : Program) (e : Env) (below : List Frame) (s : State) (R : Room) (Z : State) (EL : List (String × Nat)) (q : Option Value → Heap → List Loc → Prop) (U : State) : Prop :=
  ∃ s₂ o, Steps p.tables e below U s₂ ∧ s₂.status = .running ∧ Ended s₂ below o ∧ ∃ v L, o = .returned v ∧ q v s₂.heap L ∧ CHr Z EL s.vm s.heap s₂.vm s₂.heap ∧ ReturnedEndW s o s₂ L R.cells R.slots
theorem own_toH {U U' : State} (h : ∀ t, Steps p.tables e below U' t → Steps p.tables e below U t) (k : own_FinH p e below s R Z EL q U') : own_FinH p e below s R Z EL q U := by
  obtain ⟨s₂, o, h1, r⟩ := k
  exact ⟨s₂, o, h _ h1, r⟩
theorem own_retNH (X : Stand p l e R (s.setVm vm0) m args below meth c T locs cells slots) (hS : s.Since vm0 k0) (hk : k0 ≤ T.heap.size) (hZ : Z.Warmed39 (s.setVm vm0).vm) (hEL : EW Z a0 EL) (hH : CHv Z EL vm0 T.heap) (hR : CHr Z EL s.vm s.heap vm0 T.heap) (hx : p.tables.exec = Jvm.exec) (hlk : meth.locks = false) {pc : Nat} {Ls : Array Slot} {z : Int32} {t : FieldType} {rest : List Value} (hret : meth.sig.returnType = some t) (ht : t = .boolean ∨ t = .byte ∨ t = .char ∨ t = .short) (hd : decode c.code pc = .ok (.ireturn, 1)) (hc : cells ≤ R.cells) (hs : slots ≤ R.slots) (hq : q (some (.int (nar t z))) T.heap locs) :
    own_FinH p e below s R Z EL q (T.setTop (mkF m pc Ls (.int z :: rest))) := by
  have hA : CHr Z EL s.vm s.heap T.vm T.heap := hR.trans (CHv.at X hZ hEL hH)
  obtain ⟨fs, hr, hrun, hended, hW⟩ := X.leaveW hS hk (v := some (.int (nar t z))) (fun h => by rw [hret] at h; cases h)
  exact ⟨_, _, retN X hx hret ht hd hr, hrun, hended, _, _, rfl, hq, hA, own_monoW hW hc hs⟩
theorem own_retRH (X : Stand p l e R (s.setVm vm0) m args below meth c T locs cells slots) (hS : s.Since vm0 k0) (hk : k0 ≤ T.heap.size) (hZ : Z.Warmed39 (s.setVm vm0).vm) (hEL : EW Z a0 EL) (hH : CHv Z EL vm0 T.heap) (hR : CHr Z EL s.vm s.heap vm0 T.heap) (hx : p.tables.exec = Jvm.exec) (hlk : meth.locks = false) {pc : Nat} {Ls : Array Slot} {w : Value} {t : FieldType} {rest : List Value} (hret : meth.sig.returnType = some t) (ht : t.isReference = true) (hw : w.isRef = true) (hn : narrow t w = w) (hd : decode c.code pc = .ok (.areturn, 1)) (hc : cells ≤ R.cells) (hs : slots ≤ R.slots) (hq : q (some w) T.heap locs) :
    own_FinH p e below s R Z EL q (T.setTop (mkF m pc Ls (w :: rest))) := by
  have hA : CHr Z EL s.vm s.heap T.vm T.heap := hR.trans (CHv.at X hZ hEL hH)
  obtain ⟨fs, hr, hrun, hended, hW⟩ := X.leaveW hS hk (v := some w) (fun h => by rw [hret] at h; cases h)
  exact ⟨_, _, retOut X hx hret hn (Or.inr (Or.inr (Or.inr (Or.inr ⟨rfl, ht, hw⟩)))) hd hr, hrun, hended, _, _, rfl, hq, hA, own_monoW hW hc hs⟩
theorem own_retVH (X : Stand p l e R (s.setVm vm0) m args below meth c T locs cells slots) (hS : s.Since vm0 k0) (hk : k0 ≤ T.heap.size) (hZ : Z.Warmed39 (s.setVm vm0).vm) (hEL : EW Z a0 EL) (hH : CHv Z EL vm0 T.heap) (hR : CHr Z EL s.vm s.heap vm0 T.heap) (hx : p.tables.exec = Jvm.exec) (hlk : meth.locks = false) {pc : Nat} {Ls : Array Slot} (hret : meth.sig.returnType = none) (hd : decode c.code pc = .ok (.return_, 1)) (hc : cells ≤ R.cells) (hs : slots ≤ R.slots) (hq : q none T.heap locs) :
    own_FinH p e below s R Z EL q (T.setTop (mkF m pc Ls [])) := by
  have hA : CHr Z EL s.vm s.heap T.vm T.heap := hR.trans (CHv.at X hZ hEL hH)
  obtain ⟨fs, hr, hrun, hended, hW⟩ := X.leaveW hS hk (v := none) (fun _ => rfl)
  exact ⟨_, _, X.returnOut hx hret hd hr, hrun, hended, _, _, rfl, hq, hA, own_monoW hW hc hs⟩
abbrev own_MetH (l : Launch) (Z : State) (EL : List (String × Nat)) (xs : List Addr) (y : MethodName) (bytes : ByteArray) (maxL : Nat) (ret : Option FieldType) (ws : List Jvm.Cond) (rm : Room) (as' : Array Value) (h0 : Heap) (q : Option Value → Heap → List Loc → Prop) : Prop :=
  MetFree l y (head1 (Jvm.Cond.code y bytes maxL ret :: ws) rm) (fun a U => a = as' ∧ Z.Warmed39 U.vm ∧ U.heap = h0 ∧ CHv Z EL U.vm h0 ∧ ∀ x ∈ xs, Safe Z EL U.vm h0 x) (fun _ _ _ _ _ => True) (fun _ U o U' => ∃ v L, o = .returned v ∧ q v U'.heap L ∧ CHr Z EL U.vm U.heap U'.vm U'.heap ∧ ReturnedEndW U o U' L rm.cells rm.slots)
theorem own_backH {h : Heap} {xs : List Addr} {y : MethodName} {bytes : ByteArray} {maxL : Nat} {ret : Option FieldType} {rm : Room} {len W : Nat} {as' : Array Value} (hM : own_MetH l Z EL xs y bytes maxL ret [] rm as' h q)
    (hZ : Z.Warmed39 (s.setVm vm0).vm) (wc : (Jvm.Cond.code y bytes maxL ret).before a0 Z = true) (wz : (Jvm.Cond.initialized y.cls).before a0 Z = true) (hf : rm.frames + 1 ≤ R.frames) (hl : W + (maxL + 11) + rm.locals ≤ R.locals) (hEL : EW Z a0 EL) (H : CHv Z EL vm0 h) (hxs : ∀ x ∈ xs, x < h.size ∧ Safe Z EL vm0 h x) :
    BackS l R p e below (s.setVm vm0) args y len W (fun A a => a = as' ∧ A.U.heap = h ∧ A.cells + rm.cells ≤ R.cells ∧ A.slots + rm.slots ≤ R.slots)
      (fun A _ v B => ∃ L, q v B.U.heap L ∧ B.locs = A.locs ++ L ∧ B.cells = A.cells + rm.cells ∧ B.slots = A.slots + rm.slots ∧ CHr Z EL vm0 h B.U.vm B.U.heap) :=
  BackS.of_freeW (bytes := bytes) (maxL := maxL) (ret := ret) (E := fun _ first o t L k n => k = rm.cells ∧ n = rm.slots ∧ (∃ v, o = .returned v ∧ q v t.heap L) ∧ CHr Z EL first.vm first.heap t.vm t.heap) hM hf hl
    (fun m meth c A a Y hp => have hU : Z.Warmed39 A.U.vm := wtrans (s := s.setVm vm0) hZ Y.warmed
      ⟨by show (Jvm.Cond.and _ .tt).before a A.U = true; rw [Cond.before_and, mv hU wc]; rfl, mv hU wc, mv hU wz, hp.2.2.1, hp.2.2.2⟩)
    (fun m meth c A a g mk Y hp => ⟨hp.1, wtrans (s := s.setVm vm0) hZ Y.warmed, hp.2.1, (CHv.at Y hZ hEL H).1, fun x hx => (CHv.at Y hZ hEL H).safe (hxs x hx).1 (hxs x hx).2⟩) (fun _ _ _ _ _ _ _ _ _ => trivial)
    (fun _ _ _ _ ⟨v, L, h1, h2, h3, h4⟩ => ⟨L, _, _, h4, rfl, rfl, ⟨v, h1, h2⟩, h3⟩)
    (fun m meth c A a g mk v t L k n Y hp _ _ ⟨e1, e2, ⟨v', e3, e4⟩, e5⟩ => by
      cases e3; subst e1 e2
      refine ⟨L, e4, rfl, rfl, rfl, (CHv.at Y hZ hEL H).trans ?_⟩
      rw [← hp.2.1]; exact e5)
theorem own_enterH {xs : List Addr} {y : MethodName} {bytes : ByteArray} {maxL : Nat} {ret : Option FieldType} {ws : List Jvm.Cond} {rm : Room} {as' : Array Value} {h0 : Heap} (hpl : plainFor y = true)
    (k : ∀ (p : Program) (e : Env) (s : State) (vm0 : Vm) (m : MethodId) (below : List Frame) (meth : Method) (c : Code) (s₁ : State), Stand p l e rm (s.setVm vm0) m as' below meth c s₁ [] 0 0 → p.tables.exec = Jvm.exec → Z.Warmed39 (s.setVm vm0).vm → c.code = bytes → c.maxLocals = maxL → (s.setVm vm0).vm.findClass y.cls = some m.cls → meth.name = y.name → meth.sig.returnType = ret → meth.locks = false → s.Since vm0 0 → CHv Z EL vm0 h0 → CHr Z EL s.vm s.heap vm0 h0 → (∀ x ∈ xs, Safe Z EL vm0 h0 x) → s₁.heap = h0 → own_FinH p e below s rm Z EL q (s₁.setTop (entryFrame m as' maxL))) :
    own_MetH l Z EL xs y bytes maxL ret ws rm as' h0 q := by
  refine MetFree.of_bodySF hpl hisR ?_
  intro p e s m args below meth c s₁ Bd hml0 hP hK
  obtain ⟨rfl, hZ, hh, hC, hX⟩ := hP
  have X0 : Stand p l e rm (s.setVm s.vm) m args below meth c s₁ [] 0 0 := Stand.of_body Bd
  have hS : s.Since s.vm 0 := (State.WarmedH.refl s).since 0
  exact k p e s s.vm m below meth c s₁ X0 Bd.exec hZ Bd.bytes hml0 (findClass_of_methodNamed Bd.named) (name_of_methodNamed Bd.named Bd.method).1 Bd.returns Bd.notSynchronized hS hC (by rw [hh]; exact CHr.refl hC) hX (by rw [← hh, Bd.state]; rfl)
end OwnH
def own_EL : List (String × Nat) := [("java/lang/String", 7)]
theorem own_EW {Z : State} {a0 : Array Value} (hw : ∀ d ∈ tables_1, d.before a0 Z = true) : EW Z a0 own_EL := EW.cons (text := "") (hw _ (List.mem_of_getElem? (i := 66) rfl)) (fun c hc => by cases hc) EW.nil
theorem own_idem (y : Int32) : nar .byte (y.toInt8.toInt32) = y.toInt8.toInt32 := by
  show (y.toInt8.toInt32).toInt8.toInt32 = _
  rw [Int8.toInt8_toInt32]
theorem own_nc (x : Int32) : nar .char ((x &&& (255 : Int32)).toUInt32.toUInt16.toUInt32.toInt32) = x &&& (255 : Int32) := by
  show ((x &&& (255 : Int32)).toUInt32.toUInt16.toUInt32.toInt32).toUInt32.toUInt16.toUInt32.toInt32 = _
  rw [i2c_mask, i2c_mask]
theorem own_fc (x : Int32) : fits .char (.int (x &&& (255 : Int32))) = true := by
  rw [← own_nc x]; exact fits_nar_char _
theorem own_lt32 (x y : Int32) : (x < y) = (x.toInt < y.toInt) := propext Int32.lt_iff_toInt_lt
theorem own_255 (x : Int32) : ¬ (255 : Int32) < (x &&& (255 : Int32)) := by
  have e : (x &&& (255 : Int32)).toInt = x.toInt % 2 ^ 8 := Jvm.Kit.i32_mask x 255 (k := 8) (by decide) (by decide)
  rw [own_lt32, e, show (255 : Int32).toInt = 255 from by decide]; omega
theorem own_d10_0 : decode jdk_52_method_21_code 0 = .ok (.iconst 0, 1) := by decide +kernel
theorem own_d10_1 : decode jdk_52_method_21_code 1 = .ok (.istore 5, 2) := by decide +kernel
theorem own_d10_3 : decode jdk_52_method_21_code 3 = .ok (.iload 5, 2) := by decide +kernel
theorem own_d10_5 : decode jdk_52_method_21_code 5 = .ok (.iload 4, 2) := by decide +kernel
theorem own_d10_7 : decode jdk_52_method_21_code 7 = .ok (.if_icmp .ge 37, 3) := by decide +kernel
theorem own_d10_10 : decode jdk_52_method_21_code 10 = .ok (.aload_n 0, 1) := by decide +kernel
theorem own_d10_11 : decode jdk_52_method_21_code 11 = .ok (.iload_n 1, 1) := by decide +kernel
theorem own_d10_12 : decode jdk_52_method_21_code 12 = .ok (.caload, 1) := by decide +kernel
theorem own_d10_13 : decode jdk_52_method_21_code 13 = .ok (.istore 6, 2) := by decide +kernel
theorem own_d10_15 : decode jdk_52_method_21_code 15 = .ok (.iload 6, 2) := by decide +kernel
theorem own_d10_17 : decode jdk_52_method_21_code 17 = .ok (.sipush 255, 3) := by decide +kernel
theorem own_d10_20 : decode jdk_52_method_21_code 20 = .ok (.if_icmp .le 6, 3) := by decide +kernel
theorem own_d10_23 : decode jdk_52_method_21_code 23 = .ok (.iload 5, 2) := by decide +kernel
theorem own_d10_25 : decode jdk_52_method_21_code 25 = .ok (.ireturn, 1) := by decide +kernel
theorem own_d10_26 : decode jdk_52_method_21_code 26 = .ok (.aload_n 2, 1) := by decide +kernel
theorem own_d10_27 : decode jdk_52_method_21_code 27 = .ok (.iload_n 3, 1) := by decide +kernel
theorem own_d10_28 : decode jdk_52_method_21_code 28 = .ok (.iload 6, 2) := by decide +kernel
theorem own_d10_30 : decode jdk_52_method_21_code 30 = .ok (.i2b, 1) := by decide +kernel
theorem own_d10_31 : decode jdk_52_method_21_code 31 = .ok (.bastore, 1) := by decide +kernel
theorem own_d10_32 : decode jdk_52_method_21_code 32 = .ok (.iinc 1 1, 3) := by decide +kernel
theorem own_d10_35 : decode jdk_52_method_21_code 35 = .ok (.iinc 3 1, 3) := by decide +kernel
theorem own_d10_38 : decode jdk_52_method_21_code 38 = .ok (.iinc 5 1, 3) := by decide +kernel
theorem own_d10_41 : decode jdk_52_method_21_code 41 = .ok (.goto (-38), 3) := by decide +kernel
theorem own_d10_44 : decode jdk_52_method_21_code 44 = .ok (.iload 4, 2) := by decide +kernel
theorem own_d10_46 : decode jdk_52_method_21_code 46 = .ok (.ireturn, 1) := by decide +kernel
theorem own_pn0 : plainName "java/lang/StringUTF16" = true := by first | (simp [plainName, overriddenIn]; done) | decide +kernel
theorem own_cmp2_1_ef (m : MethodId) (a2 : Addr) (a3 : Addr) : entryFrame m #[(.ref a2), (.int (0 : Int32)), (.ref a3), (.int (0 : Int32)), (.int (1 : Int32))] 7 = mkF m 0 #[.val (.ref a2), .val (.int (0 : Int32)), .val (.ref a3), .val (.int (0 : Int32)), .val (.int (1 : Int32)), .unset, .unset] [] := by first | (simp [entryFrame, mkF, argsToLocals, Value.category]; done) | rfl
set_option maxRecDepth 65536 in
set_option maxHeartbeats 40000000 in
theorem own_cmp2_1 (l : Launch) (Z : State) (a0 : Array Value) (hw : ∀ d ∈ tables_1, d.before a0 Z = true) (ws : List Jvm.Cond) (a2 : Addr) (a3 : Addr) (k2 : ClassId) (k3 : ClassId) (x0 : Int32) (h0 : Heap) (n0 : Nat) (Z0 : n0 ≤ h0.size) (V2 : Arv Z h0 a2 k2 .char (1 : Int32) [(.int x0)] (.int (0 : Int32))) (V3 : Arv Z h0 a3 k3 .byte (1 : Int32) [(.int (0 : Int32))] (.int (0 : Int32))) (g_a3 : n0 ≤ a3) (ne23 : a2 ≠ a3) (hx0 : ¬ (255 : Int32) < x0) :
    own_Met l Z (⟨"java/lang/StringUTF16", "compress", "([CI[BII)I"⟩ : MethodName) jdk_52_method_21_code 7 (some .int) ws ({ frames := 0, cells := 0, slots := 0, locals := 0 } : Room) #[(.ref a2), (.int (0 : Int32)), (.ref a3), (.int (0 : Int32)), (.int (1 : Int32))] h0 (fun v h L => v = some (.int (1 : Int32)) ∧ Fr n0 L ∧ Keep h0 h [a3] ∧ Arv Z h a3 k3 .byte (1 : Int32) [(.int (x0.toInt8.toInt32))] (.int (0 : Int32))) := by
  refine own_enter (plainFor_of_name own_pn0) ?_
  intro p e s m below meth c s₁ X0 hx hZ hby hml hown hnm hret hlk e0
  have N0 := Fr.nil n0
  rw [own_cmp2_1_ef m a2 a3]
  have KK0 : Keep h0 h0 [a3] := Keep.refl _ _
  show own_Fin _ _ _ _ _ _ (s₁.setTop (mkF m 0 #[.val (.ref a2), .val (.int (0 : Int32)), .val (.ref a3), .val (.int (0 : Int32)), .val (.int (1 : Int32)), .unset, .unset] []))
  refine own_to (fun t k => XS.iconst X0.here hx rfl (hb hby own_d10_0) k) ?_
  show own_Fin _ _ _ _ _ _ (s₁.setTop (mkF m 1 #[.val (.ref a2), .val (.int (0 : Int32)), .val (.ref a3), .val (.int (0 : Int32)), .val (.int (1 : Int32)), .unset, .unset] [(.int (0 : Int32))]))
  refine own_to (fun t k => XS.istore X0.here hx rfl (hb hby own_d10_1) rfl (l' := #[.val (.ref a2), .val (.int (0 : Int32)), .val (.ref a3), .val (.int (0 : Int32)), .val (.int (1 : Int32)), .val (.int (0 : Int32)), .unset]) rfl k) ?_
  show own_Fin _ _ _ _ _ _ (s₁.setTop (mkF m 3 #[.val (.ref a2), .val (.int (0 : Int32)), .val (.ref a3), .val (.int (0 : Int32)), .val (.int (1 : Int32)), .val (.int (0 : Int32)), .unset] []))
  refine own_to (fun t k => XS.iload X0.here hx rfl (hb hby own_d10_3) rfl k) ?_
  show own_Fin _ _ _ _ _ _ (s₁.setTop (mkF m 5 #[.val (.ref a2), .val (.int (0 : Int32)), .val (.ref a3), .val (.int (0 : Int32)), .val (.int (1 : Int32)), .val (.int (0 : Int32)), .unset] [(.int (0 : Int32))]))
  refine own_to (fun t k => XS.iload X0.here hx rfl (hb hby own_d10_5) rfl k) ?_
  show own_Fin _ _ _ _ _ _ (s₁.setTop (mkF m 7 #[.val (.ref a2), .val (.int (0 : Int32)), .val (.ref a3), .val (.int (0 : Int32)), .val (.int (1 : Int32)), .val (.int (0 : Int32)), .unset] [(.int (1 : Int32)), (.int (0 : Int32))]))
  refine own_to (fun t k => XS.icmpNo X0.here hx rfl (hb hby own_d10_7) rfl (tlt (by decide)).2.1 k) ?_
  show own_Fin _ _ _ _ _ _ (s₁.setTop (mkF m 10 #[.val (.ref a2), .val (.int (0 : Int32)), .val (.ref a3), .val (.int (0 : Int32)), .val (.int (1 : Int32)), .val (.int (0 : Int32)), .unset] []))
  refine own_to (fun t k => XS.aloadN X0.here hx rfl (hb hby own_d10_10) rfl rfl k) ?_
  show own_Fin _ _ _ _ _ _ (s₁.setTop (mkF m 11 #[.val (.ref a2), .val (.int (0 : Int32)), .val (.ref a3), .val (.int (0 : Int32)), .val (.int (1 : Int32)), .val (.int (0 : Int32)), .unset] [(.ref a2)]))
  refine own_to (fun t k => XS.iloadN X0.here hx rfl (hb hby own_d10_11) rfl k) ?_
  show own_Fin _ _ _ _ _ _ (s₁.setTop (mkF m 12 #[.val (.ref a2), .val (.int (0 : Int32)), .val (.ref a3), .val (.int (0 : Int32)), .val (.int (1 : Int32)), .val (.int (0 : Int32)), .unset] [(.int (0 : Int32)), (.ref a2)]))
  obtain ⟨cl1, Ar1, qa1, Sa1, Na1, Ha1, Ga1⟩ := id V2
  have hin2 : ¬ ((0 : Int32) < 0 ∨ cl1.slots.size ≤ ((0 : Int32)).toNatClampNeg) := inb_of Sa1 ⟨by decide, by decide⟩
  refine own_to (fun t k => X0.caload hx (j := (0 : Int32)) (v := (.int x0)) (by rw [e0]; exact Ar1.1) (State.isArrayOf_alike hZ.alike Ar1.2.1) Ar1.2.2 hin2 (Has.at Ha1 hin2 rfl) (g := (mkF m 12 #[.val (.ref a2), .val (.int (0 : Int32)), .val (.ref a3), .val (.int (0 : Int32)), .val (.int (1 : Int32)), .val (.int (0 : Int32)), .unset] [(.int (0 : Int32)), (.ref a2)])) rfl rfl (hb hby own_d10_12) _ k) ?_
  show own_Fin _ _ _ _ _ _ (s₁.setTop (mkF m 13 #[.val (.ref a2), .val (.int (0 : Int32)), .val (.ref a3), .val (.int (0 : Int32)), .val (.int (1 : Int32)), .val (.int (0 : Int32)), .unset] [(.int x0)]))
  refine own_to (fun t k => XS.istore X0.here hx rfl (hb hby own_d10_13) rfl (l' := #[.val (.ref a2), .val (.int (0 : Int32)), .val (.ref a3), .val (.int (0 : Int32)), .val (.int (1 : Int32)), .val (.int (0 : Int32)), .val (.int x0)]) rfl k) ?_
  show own_Fin _ _ _ _ _ _ (s₁.setTop (mkF m 15 #[.val (.ref a2), .val (.int (0 : Int32)), .val (.ref a3), .val (.int (0 : Int32)), .val (.int (1 : Int32)), .val (.int (0 : Int32)), .val (.int x0)] []))
  refine own_to (fun t k => XS.iload X0.here hx rfl (hb hby own_d10_15) rfl k) ?_
  show own_Fin _ _ _ _ _ _ (s₁.setTop (mkF m 17 #[.val (.ref a2), .val (.int (0 : Int32)), .val (.ref a3), .val (.int (0 : Int32)), .val (.int (1 : Int32)), .val (.int (0 : Int32)), .val (.int x0)] [(.int x0)]))
  refine own_to (fun t k => XS.sipush X0.here hx rfl (hb hby own_d10_17) k) ?_
  show own_Fin _ _ _ _ _ _ (s₁.setTop (mkF m 20 #[.val (.ref a2), .val (.int (0 : Int32)), .val (.ref a3), .val (.int (0 : Int32)), .val (.int (1 : Int32)), .val (.int (0 : Int32)), .val (.int x0)] [(.int (255 : Int32)), (.int x0)]))
  refine own_to (fun t k => XS.icmpYes X0.here hx rfl (pc0 := 20) (pc' := 26) rfl (hb hby own_d10_20) rfl (flt hx0).2.2.2 (by decide) (by decide) k) ?_
  show own_Fin _ _ _ _ _ _ (s₁.setTop (mkF m 26 #[.val (.ref a2), .val (.int (0 : Int32)), .val (.ref a3), .val (.int (0 : Int32)), .val (.int (1 : Int32)), .val (.int (0 : Int32)), .val (.int x0)] []))
  refine own_to (fun t k => XS.aloadN X0.here hx rfl (hb hby own_d10_26) rfl rfl k) ?_
  show own_Fin _ _ _ _ _ _ (s₁.setTop (mkF m 27 #[.val (.ref a2), .val (.int (0 : Int32)), .val (.ref a3), .val (.int (0 : Int32)), .val (.int (1 : Int32)), .val (.int (0 : Int32)), .val (.int x0)] [(.ref a3)]))
  refine own_to (fun t k => XS.iloadN X0.here hx rfl (hb hby own_d10_27) rfl k) ?_
  show own_Fin _ _ _ _ _ _ (s₁.setTop (mkF m 28 #[.val (.ref a2), .val (.int (0 : Int32)), .val (.ref a3), .val (.int (0 : Int32)), .val (.int (1 : Int32)), .val (.int (0 : Int32)), .val (.int x0)] [(.int (0 : Int32)), (.ref a3)]))
  refine own_to (fun t k => XS.iload X0.here hx rfl (hb hby own_d10_28) rfl k) ?_
  show own_Fin _ _ _ _ _ _ (s₁.setTop (mkF m 30 #[.val (.ref a2), .val (.int (0 : Int32)), .val (.ref a3), .val (.int (0 : Int32)), .val (.int (1 : Int32)), .val (.int (0 : Int32)), .val (.int x0)] [(.int x0), (.int (0 : Int32)), (.ref a3)]))
  refine own_to (fun t k => XS.i2b X0.here hx rfl (hb hby own_d10_30) rfl k) ?_
  show own_Fin _ _ _ _ _ _ (s₁.setTop (mkF m 31 #[.val (.ref a2), .val (.int (0 : Int32)), .val (.ref a3), .val (.int (0 : Int32)), .val (.int (1 : Int32)), .val (.int (0 : Int32)), .val (.int x0)] [(.int (x0.toInt8.toInt32)), (.int (0 : Int32)), (.ref a3)]))
  obtain ⟨cl3, Ar3, qa3, Sa3, Na3, Ha3, Ga3⟩ := id V3
  have hin4 : ¬ ((0 : Int32) < 0 ∨ cl3.slots.size ≤ ((0 : Int32)).toNatClampNeg) := inb_of Sa3 ⟨by decide, by decide⟩
  obtain ⟨T4, h4, X4, e4, W4, st4⟩ := stB X0 hx hZ e0 Ar3 (j := (0 : Int32)) hin4 (g := (mkF m 31 #[.val (.ref a2), .val (.int (0 : Int32)), .val (.ref a3), .val (.int (0 : Int32)), .val (.int (1 : Int32)), .val (.int (0 : Int32)), .val (.int x0)] [(.int (x0.toInt8.toInt32)), (.int (0 : Int32)), (.ref a3)])) rfl rfl (hb hby own_d10_31)
  rw [own_idem _] at W4
  have N4 := Fr.snoc X4 N0 g_a3
  have KK4 : Keep h0 h4 [a3] := KK0.wr W4 (Or.inl (List.mem_of_getElem? (i := 0) rfl))
  have V2_e4 := V2.other W4 ne23
  have V4 : Arv Z h4 a3 k3 .byte (1 : Int32) [(.int (x0.toInt8.toInt32))] (.int (0 : Int32)) := Arv.set Ar3 qa3 Sa3 Na3 Ha3 Ga3 (fits_nar_byte _) W4 0 rfl (Nat.le_of_ble_eq_true rfl)
  refine own_to (fun t k => st4 t k) ?_
  show own_Fin _ _ _ _ _ _ (T4.setTop (mkF m 32 #[.val (.ref a2), .val (.int (0 : Int32)), .val (.ref a3), .val (.int (0 : Int32)), .val (.int (1 : Int32)), .val (.int (0 : Int32)), .val (.int x0)] []))
  refine own_to (fun t k => XS.iinc X4.here hx rfl (hb hby own_d10_32) rfl (l' := #[.val (.ref a2), .val (.int (1 : Int32)), .val (.ref a3), .val (.int (0 : Int32)), .val (.int (1 : Int32)), .val (.int (0 : Int32)), .val (.int x0)]) rfl k) ?_
  show own_Fin _ _ _ _ _ _ (T4.setTop (mkF m 35 #[.val (.ref a2), .val (.int (1 : Int32)), .val (.ref a3), .val (.int (0 : Int32)), .val (.int (1 : Int32)), .val (.int (0 : Int32)), .val (.int x0)] []))
  refine own_to (fun t k => XS.iinc X4.here hx rfl (hb hby own_d10_35) rfl (l' := #[.val (.ref a2), .val (.int (1 : Int32)), .val (.ref a3), .val (.int (1 : Int32)), .val (.int (1 : Int32)), .val (.int (0 : Int32)), .val (.int x0)]) rfl k) ?_
  show own_Fin _ _ _ _ _ _ (T4.setTop (mkF m 38 #[.val (.ref a2), .val (.int (1 : Int32)), .val (.ref a3), .val (.int (1 : Int32)), .val (.int (1 : Int32)), .val (.int (0 : Int32)), .val (.int x0)] []))
  refine own_to (fun t k => XS.iinc X4.here hx rfl (hb hby own_d10_38) rfl (l' := #[.val (.ref a2), .val (.int (1 : Int32)), .val (.ref a3), .val (.int (1 : Int32)), .val (.int (1 : Int32)), .val (.int (1 : Int32)), .val (.int x0)]) rfl k) ?_
  show own_Fin _ _ _ _ _ _ (T4.setTop (mkF m 41 #[.val (.ref a2), .val (.int (1 : Int32)), .val (.ref a3), .val (.int (1 : Int32)), .val (.int (1 : Int32)), .val (.int (1 : Int32)), .val (.int x0)] []))
  refine own_to (fun t k => XS.goto X4.here hx rfl (pc0 := 41) (pc' := 3) rfl (hb hby own_d10_41) (by decide) (by decide) k) ?_
  show own_Fin _ _ _ _ _ _ (T4.setTop (mkF m 3 #[.val (.ref a2), .val (.int (1 : Int32)), .val (.ref a3), .val (.int (1 : Int32)), .val (.int (1 : Int32)), .val (.int (1 : Int32)), .val (.int x0)] []))
  refine own_to (fun t k => XS.iload X4.here hx rfl (hb hby own_d10_3) rfl k) ?_
  show own_Fin _ _ _ _ _ _ (T4.setTop (mkF m 5 #[.val (.ref a2), .val (.int (1 : Int32)), .val (.ref a3), .val (.int (1 : Int32)), .val (.int (1 : Int32)), .val (.int (1 : Int32)), .val (.int x0)] [(.int (1 : Int32))]))
  refine own_to (fun t k => XS.iload X4.here hx rfl (hb hby own_d10_5) rfl k) ?_
  show own_Fin _ _ _ _ _ _ (T4.setTop (mkF m 7 #[.val (.ref a2), .val (.int (1 : Int32)), .val (.ref a3), .val (.int (1 : Int32)), .val (.int (1 : Int32)), .val (.int (1 : Int32)), .val (.int x0)] [(.int (1 : Int32)), (.int (1 : Int32))]))
  refine own_to (fun t k => XS.icmpYes X4.here hx rfl (pc0 := 7) (pc' := 44) rfl (hb hby own_d10_7) rfl (flt (Int32.lt_irrefl)).2.1 (by decide) (by decide) k) ?_
  show own_Fin _ _ _ _ _ _ (T4.setTop (mkF m 44 #[.val (.ref a2), .val (.int (1 : Int32)), .val (.ref a3), .val (.int (1 : Int32)), .val (.int (1 : Int32)), .val (.int (1 : Int32)), .val (.int x0)] []))
  refine own_to (fun t k => XS.iload X4.here hx rfl (hb hby own_d10_44) rfl k) ?_
  show own_Fin _ _ _ _ _ _ (T4.setTop (mkF m 46 #[.val (.ref a2), .val (.int (1 : Int32)), .val (.ref a3), .val (.int (1 : Int32)), .val (.int (1 : Int32)), .val (.int (1 : Int32)), .val (.int x0)] [(.int (1 : Int32))]))
  refine own_retI X4 hx hlk hret (hb hby own_d10_46) (by decide) (by decide) ?_
  try rw [e4]
  exact ⟨rfl, N4, KK4, V4⟩
theorem own_d9_0 : decode jdk_52_method_16_code 0 = .ok (.iload_n 2, 1) := by decide +kernel
theorem own_d9_1 : decode jdk_52_method_16_code 1 = .ok (.newarray .byte, 2) := by decide +kernel
theorem own_d9_3 : decode jdk_52_method_16_code 3 = .ok (.astore_n 3, 1) := by decide +kernel
theorem own_d9_4 : decode jdk_52_method_16_code 4 = .ok (.aload_n 0, 1) := by decide +kernel
theorem own_d9_5 : decode jdk_52_method_16_code 5 = .ok (.iload_n 1, 1) := by decide +kernel
theorem own_d9_6 : decode jdk_52_method_16_code 6 = .ok (.aload_n 3, 1) := by decide +kernel
theorem own_d9_7 : decode jdk_52_method_16_code 7 = .ok (.iconst 0, 1) := by decide +kernel
theorem own_d9_8 : decode jdk_52_method_16_code 8 = .ok (.iload_n 2, 1) := by decide +kernel
theorem own_d9_9 : decode jdk_52_method_16_code 9 = .ok (.invokestatic 115, 3) := by decide +kernel
theorem own_d9_12 : decode jdk_52_method_16_code 12 = .ok (.istore 4, 2) := by decide +kernel
theorem own_d9_14 : decode jdk_52_method_16_code 14 = .ok (.iload 4, 2) := by decide +kernel
theorem own_d9_16 : decode jdk_52_method_16_code 16 = .ok (.iload_n 2, 1) := by decide +kernel
theorem own_d9_17 : decode jdk_52_method_16_code 17 = .ok (.if_icmp .eq 40, 3) := by decide +kernel
theorem own_d9_20 : decode jdk_52_method_16_code 20 = .ok (.aload_n 0, 1) := by decide +kernel
theorem own_d9_21 : decode jdk_52_method_16_code 21 = .ok (.iload_n 1, 1) := by decide +kernel
theorem own_d9_22 : decode jdk_52_method_16_code 22 = .ok (.iload_n 2, 1) := by decide +kernel
theorem own_d9_23 : decode jdk_52_method_16_code 23 = .ok (.invokestatic 119, 3) := by decide +kernel
theorem own_d9_26 : decode jdk_52_method_16_code 26 = .ok (.astore 5, 2) := by decide +kernel
theorem own_d9_28 : decode jdk_52_method_16_code 28 = .ok (.aload 5, 2) := by decide +kernel
theorem own_d9_30 : decode jdk_52_method_16_code 30 = .ok (.iload 4, 2) := by decide +kernel
theorem own_d9_32 : decode jdk_52_method_16_code 32 = .ok (.invokestatic 71, 3) := by decide +kernel
theorem own_d9_35 : decode jdk_52_method_16_code 35 = .ok (.sipush 255, 3) := by decide +kernel
theorem own_d9_38 : decode jdk_52_method_16_code 38 = .ok (.if_icmp .gt 16, 3) := by decide +kernel
theorem own_d9_41 : decode jdk_52_method_16_code 41 = .ok (.aload 5, 2) := by decide +kernel
theorem own_d9_43 : decode jdk_52_method_16_code 43 = .ok (.iconst 0, 1) := by decide +kernel
theorem own_d9_44 : decode jdk_52_method_16_code 44 = .ok (.aload_n 3, 1) := by decide +kernel
theorem own_d9_45 : decode jdk_52_method_16_code 45 = .ok (.iconst 0, 1) := by decide +kernel
theorem own_d9_46 : decode jdk_52_method_16_code 46 = .ok (.iload_n 2, 1) := by decide +kernel
theorem own_d9_47 : decode jdk_52_method_16_code 47 = .ok (.invokestatic 123, 3) := by decide +kernel
theorem own_d9_50 : decode jdk_52_method_16_code 50 = .ok (.iload_n 2, 1) := by decide +kernel
theorem own_d9_51 : decode jdk_52_method_16_code 51 = .ok (.if_icmp .eq 6, 3) := by decide +kernel
theorem own_d9_54 : decode jdk_52_method_16_code 54 = .ok (.aload 5, 2) := by decide +kernel
theorem own_d9_56 : decode jdk_52_method_16_code 56 = .ok (.areturn, 1) := by decide +kernel
theorem own_d9_57 : decode jdk_52_method_16_code 57 = .ok (.aload_n 3, 1) := by decide +kernel
theorem own_d9_58 : decode jdk_52_method_16_code 58 = .ok (.areturn, 1) := by decide +kernel
theorem own_pd0 : parseMethodDescriptor "([CI[BII)I" = some ⟨[(.array .char), .int, (.array .byte), .int, .int], some .int⟩ := by decide +kernel
theorem own_cmp_1_ef (m : MethodId) (a2 : Addr) : entryFrame m #[(.ref a2), (.int (0 : Int32)), (.int (1 : Int32))] 6 = mkF m 0 #[.val (.ref a2), .val (.int (0 : Int32)), .val (.int (1 : Int32)), .unset, .unset, .unset] [] := by first | (simp [entryFrame, mkF, argsToLocals, Value.category]; done) | rfl
set_option maxRecDepth 65536 in
set_option maxHeartbeats 40000000 in
theorem own_cmp_1 (l : Launch) (Z : State) (a0 : Array Value) (hw : ∀ d ∈ tables_1, d.before a0 Z = true) (ws : List Jvm.Cond) (a2 : Addr) (k2 : ClassId) (x0 : Int32) (h0 : Heap) (n0 : Nat) (Z0 : n0 ≤ h0.size) (V2 : Arv Z h0 a2 k2 .char (1 : Int32) [(.int x0)] (.int (0 : Int32))) (hx0 : ¬ (255 : Int32) < x0) :
    own_Met l Z (⟨"java/lang/StringUTF16", "compress", "([CII)[B"⟩ : MethodName) jdk_52_method_16_code 6 (some (.array .byte)) ws ({ frames := 1, cells := 1, slots := 1, locals := 24 } : Room) #[(.ref a2), (.int (0 : Int32)), (.int (1 : Int32))] h0 (fun v h L => ∃ d k3, v = some (.ref d) ∧ Fr n0 L ∧ Keep h0 h [] ∧ n0 ≤ d ∧ h0.size ≤ d ∧ Arv Z h d k3 .byte (1 : Int32) [(.int (x0.toInt8.toInt32))] (.int (0 : Int32))) := by
  refine own_enter (plainFor_of_name own_pn0) ?_
  intro p e s m below meth c s₁ X0 hx hZ hby hml hown hnm hret hlk e0
  have N0 := Fr.nil n0
  rw [own_cmp_1_ef m a2]
  have KK0 : Keep h0 h0 [] := Keep.refl _ _
  show own_Fin _ _ _ _ _ _ (s₁.setTop (mkF m 0 #[.val (.ref a2), .val (.int (0 : Int32)), .val (.int (1 : Int32)), .unset, .unset, .unset] []))
  refine own_to (fun t k => XS.iloadN X0.here hx rfl (hb hby own_d9_0) rfl k) ?_
  show own_Fin _ _ _ _ _ _ (s₁.setTop (mkF m 1 #[.val (.ref a2), .val (.int (0 : Int32)), .val (.int (1 : Int32)), .unset, .unset, .unset] [(.int (1 : Int32))]))
  obtain ⟨T5, h5, k5, X5, e5, E5, A5, A5x, st5⟩ := newPE X0 hx hZ (hw _ (List.mem_of_getElem? (i := 55) rfl)) e0 (g := (mkF m 1 #[.val (.ref a2), .val (.int (0 : Int32)), .val (.int (1 : Int32)), .unset, .unset, .unset] [(.int (1 : Int32))])) rfl (hb hby own_d9_1) rfl (by decide) (cap := 1) (by decide) (by decide) (by decide) (by decide) (ad := "[B") (by decide)
  obtain ⟨bd, q5⟩ : ∃ z, z = h0.size := ⟨_, rfl⟩
  rw [← q5] at A5 A5x st5
  have ne_a2_bd : a2 ≠ bd := Nat.ne_of_lt (Nat.lt_of_lt_of_le V2.lt (Nat.le_of_eq q5.symm))
  have g_bd : n0 ≤ bd := Nat.le_trans Z0 (Nat.le_of_eq q5.symm)
  have sz_bd : h0.size ≤ bd := Nat.le_trans KK0.1 (Nat.le_of_eq q5.symm)
  have KK5 : Keep h0 h5 [] := KK0.ext E5
  have V2_e5 := V2.ext E5
  have V5 := Arv.new A5 (by decide)
  refine own_to (fun t k => st5 t k) ?_
  show own_Fin _ _ _ _ _ _ (T5.setTop (mkF m 3 #[.val (.ref a2), .val (.int (0 : Int32)), .val (.int (1 : Int32)), .unset, .unset, .unset] [(.ref bd)]))
  refine own_to (fun t k => XS.astoreN X5.here hx rfl (hb hby own_d9_3) rfl rfl (l' := #[.val (.ref a2), .val (.int (0 : Int32)), .val (.int (1 : Int32)), .val (.ref bd), .unset, .unset]) rfl k) ?_
  show own_Fin _ _ _ _ _ _ (T5.setTop (mkF m 4 #[.val (.ref a2), .val (.int (0 : Int32)), .val (.int (1 : Int32)), .val (.ref bd), .unset, .unset] []))
  refine own_to (fun t k => XS.aloadN X5.here hx rfl (hb hby own_d9_4) rfl rfl k) ?_
  show own_Fin _ _ _ _ _ _ (T5.setTop (mkF m 5 #[.val (.ref a2), .val (.int (0 : Int32)), .val (.int (1 : Int32)), .val (.ref bd), .unset, .unset] [(.ref a2)]))
  refine own_to (fun t k => XS.iloadN X5.here hx rfl (hb hby own_d9_5) rfl k) ?_
  show own_Fin _ _ _ _ _ _ (T5.setTop (mkF m 6 #[.val (.ref a2), .val (.int (0 : Int32)), .val (.int (1 : Int32)), .val (.ref bd), .unset, .unset] [(.int (0 : Int32)), (.ref a2)]))
  refine own_to (fun t k => XS.aloadN X5.here hx rfl (hb hby own_d9_6) rfl rfl k) ?_
  show own_Fin _ _ _ _ _ _ (T5.setTop (mkF m 7 #[.val (.ref a2), .val (.int (0 : Int32)), .val (.int (1 : Int32)), .val (.ref bd), .unset, .unset] [(.ref bd), (.int (0 : Int32)), (.ref a2)]))
  refine own_to (fun t k => XS.iconst X5.here hx rfl (hb hby own_d9_7) k) ?_
  show own_Fin _ _ _ _ _ _ (T5.setTop (mkF m 8 #[.val (.ref a2), .val (.int (0 : Int32)), .val (.int (1 : Int32)), .val (.ref bd), .unset, .unset] [(.int (0 : Int32)), (.ref bd), (.int (0 : Int32)), (.ref a2)]))
  refine own_to (fun t k => XS.iloadN X5.here hx rfl (hb hby own_d9_8) rfl k) ?_
  show own_Fin _ _ _ _ _ _ (T5.setTop (mkF m 9 #[.val (.ref a2), .val (.int (0 : Int32)), .val (.int (1 : Int32)), .val (.ref bd), .unset, .unset] [(.int (1 : Int32)), (.int (0 : Int32)), (.ref bd), (.int (0 : Int32)), (.ref a2)]))
  have V6p : Arv Z h5 bd k5 .byte (1 : Int32) [(.int (0 : Int32))] (.int (0 : Int32)) := V5.pad (pad_rep [] (.int (0 : Int32)) 1)
  obtain ⟨_, _, ⟨T7, L7, k7, n7⟩, -, X7, ⟨Lc7, hQ7, l7, y7, z7⟩, st7⟩ := Jvm.LawKit.callS X5 hx (y := (⟨"java/lang/StringUTF16", "compress", "([CI[BII)I"⟩ : MethodName)) hown (mvT hZ (hw _ (List.mem_of_getElem? (i := 56) rfl))) (mvT hZ (hw _ (List.mem_of_getElem? (i := 57) rfl))) (mvT hZ (hw _ (List.mem_of_getElem? (i := 53) rfl))) (mvT hZ (hw _ (List.mem_of_getElem? (i := 58) rfl))) (by decide) (own_back (W := 0) (own_cmp2_1 l Z a0 hw [] a2 bd k2 k5 x0 h5 n0 (Nat.le_trans Z0 E5.1) V2_e5 V6p g_bd ne_a2_bd hx0) hZ (hw _ (List.mem_of_getElem? (i := 58) rfl)) (hw _ (List.mem_of_getElem? (i := 53) rfl)) (by decide) (by decide)) (g := (mkF m 9 #[.val (.ref a2), .val (.int (0 : Int32)), .val (.int (1 : Int32)), .val (.ref bd), .unset, .unset] [(.int (1 : Int32)), (.int (0 : Int32)), (.ref bd), (.int (0 : Int32)), (.ref a2)])) rfl (by rw [hml]; rfl) (argsL := [(.ref a2), (.int (0 : Int32)), (.ref bd), (.int (0 : Int32)), (.int (1 : Int32))]) (rest := []) (lenOf own_pd0 rfl) rfl (by show 2 * 0 + _ ≤ _; exact Nat.le_of_eq rfl) (hb hby own_d9_9) (fun _ _ => ⟨rfl, e5, (by decide : 1 + 0 ≤ _), (by decide : 1 + 0 ≤ _)⟩)
  dsimp only [Pt.U, Pt.locs, Pt.cells, Pt.slots] at X7 l7 y7 z7 st7 hQ7
  subst l7 y7 z7
  obtain ⟨rfl, N7q, K7, Vd7⟩ := hQ7
  have N7 := Fr.app N0 N7q
  have KK7 : Keep h0 T7.heap [] := KK5.trans K7 (allS (Or.inr sz_bd) all0)
  have V2_e7 := V2_e5.keep K7 (ninS ne_a2_bd nin0)
  have A5x_e7 := A5x.keep K7
  refine own_to (fun t k => st7 t k) ?_
  show own_Fin _ _ _ _ _ _ (T7.setTop (mkF m 12 #[.val (.ref a2), .val (.int (0 : Int32)), .val (.int (1 : Int32)), .val (.ref bd), .unset, .unset] [(.int (1 : Int32))]))
  refine own_to (fun t k => XS.istore X7.here hx rfl (hb hby own_d9_12) rfl (l' := #[.val (.ref a2), .val (.int (0 : Int32)), .val (.int (1 : Int32)), .val (.ref bd), .val (.int (1 : Int32)), .unset]) rfl k) ?_
  show own_Fin _ _ _ _ _ _ (T7.setTop (mkF m 14 #[.val (.ref a2), .val (.int (0 : Int32)), .val (.int (1 : Int32)), .val (.ref bd), .val (.int (1 : Int32)), .unset] []))
  refine own_to (fun t k => XS.iload X7.here hx rfl (hb hby own_d9_14) rfl k) ?_
  show own_Fin _ _ _ _ _ _ (T7.setTop (mkF m 16 #[.val (.ref a2), .val (.int (0 : Int32)), .val (.int (1 : Int32)), .val (.ref bd), .val (.int (1 : Int32)), .unset] [(.int (1 : Int32))]))
  refine own_to (fun t k => XS.iloadN X7.here hx rfl (hb hby own_d9_16) rfl k) ?_
  show own_Fin _ _ _ _ _ _ (T7.setTop (mkF m 17 #[.val (.ref a2), .val (.int (0 : Int32)), .val (.int (1 : Int32)), .val (.ref bd), .val (.int (1 : Int32)), .unset] [(.int (1 : Int32)), (.int (1 : Int32))]))
  refine own_to (fun t k => XS.icmpYes X7.here hx rfl (pc0 := 17) (pc' := 57) rfl (hb hby own_d9_17) rfl (teq rfl).1 (by decide) (by decide) k) ?_
  show own_Fin _ _ _ _ _ _ (T7.setTop (mkF m 57 #[.val (.ref a2), .val (.int (0 : Int32)), .val (.int (1 : Int32)), .val (.ref bd), .val (.int (1 : Int32)), .unset] []))
  refine own_to (fun t k => XS.aloadN X7.here hx rfl (hb hby own_d9_57) rfl rfl k) ?_
  show own_Fin _ _ _ _ _ _ (T7.setTop (mkF m 58 #[.val (.ref a2), .val (.int (0 : Int32)), .val (.int (1 : Int32)), .val (.ref bd), .val (.int (1 : Int32)), .unset] [(.ref bd)]))
  refine own_retR X7 hx hlk hret rfl rfl rfl (hb hby own_d9_58) (by decide) (by decide) ?_
  exact ⟨bd, k5, rfl, N7, KK7, g_bd, sz_bd, Vd7⟩
theorem own_d11_0 : decode jdk_52_method_15_code 0 = .ok (.iload_n 1, 1) := by decide +kernel
theorem own_d11_1 : decode jdk_52_method_15_code 1 = .ok (.aload_n 0, 1) := by decide +kernel
theorem own_d11_2 : decode jdk_52_method_15_code 2 = .ok (.arraylength, 1) := by decide +kernel
theorem own_d11_3 : decode jdk_52_method_15_code 3 = .ok (.isub, 1) := by decide +kernel
theorem own_d11_4 : decode jdk_52_method_15_code 4 = .ok (.bipush 31, 2) := by decide +kernel
theorem own_d11_6 : decode jdk_52_method_15_code 6 = .ok (.iushr, 1) := by decide +kernel
theorem own_d11_7 : decode jdk_52_method_15_code 7 = .ok (.i2b, 1) := by decide +kernel
theorem own_d11_8 : decode jdk_52_method_15_code 8 = .ok (.ireturn, 1) := by decide +kernel
theorem own_cod_1_ef (m : MethodId) (a2 : Addr) : entryFrame m #[(.ref a2), (.int (1 : Int32))] 2 = mkF m 0 #[.val (.ref a2), .val (.int (1 : Int32))] [] := by first | (simp [entryFrame, mkF, argsToLocals, Value.category]; done) | rfl
set_option maxRecDepth 65536 in
set_option maxHeartbeats 40000000 in
theorem own_cod_1 (l : Launch) (Z : State) (a0 : Array Value) (hw : ∀ d ∈ tables_1, d.before a0 Z = true) (ws : List Jvm.Cond) (a2 : Addr) (k3 : ClassId) (x0 : Int32) (h0 : Heap) (n0 : Nat) (Z0 : n0 ≤ h0.size) (V2 : Arv Z h0 a2 k3 .byte (1 : Int32) [(.int (x0.toInt8.toInt32))] (.int (0 : Int32))) :
    own_Met l Z (⟨"java/lang/StringUTF16", "coderFromArrayLen", "([BI)B"⟩ : MethodName) jdk_52_method_15_code 2 (some .byte) ws ({ frames := 0, cells := 0, slots := 0, locals := 0 } : Room) #[(.ref a2), (.int (1 : Int32))] h0 (fun v h L => v = some (.int (0 : Int32)) ∧ Fr n0 L ∧ h = h0) := by
  refine own_enter (plainFor_of_name own_pn0) ?_
  intro p e s m below meth c s₁ X0 hx hZ hby hml hown hnm hret hlk e0
  have N0 := Fr.nil n0
  rw [own_cod_1_ef m a2]
  show own_Fin _ _ _ _ _ _ (s₁.setTop (mkF m 0 #[.val (.ref a2), .val (.int (1 : Int32))] []))
  refine own_to (fun t k => XS.iloadN X0.here hx rfl (hb hby own_d11_0) rfl k) ?_
  show own_Fin _ _ _ _ _ _ (s₁.setTop (mkF m 1 #[.val (.ref a2), .val (.int (1 : Int32))] [(.int (1 : Int32))]))
  refine own_to (fun t k => XS.aloadN X0.here hx rfl (hb hby own_d11_1) rfl rfl k) ?_
  show own_Fin _ _ _ _ _ _ (s₁.setTop (mkF m 2 #[.val (.ref a2), .val (.int (1 : Int32))] [(.ref a2), (.int (1 : Int32))]))
  obtain ⟨cl8, Ar8, qa8, Sa8, Na8, Ha8, Ga8⟩ := id V2
  refine own_to (fun t k => X0.arraylength hx (by rw [e0]; exact Ar8.1) (State.isArrayOf_alike hZ.alike Ar8.2.1) (g := (mkF m 2 #[.val (.ref a2), .val (.int (1 : Int32))] [(.ref a2), (.int (1 : Int32))])) rfl rfl (hb hby own_d11_2) _ k) ?_
  rw [len_of Sa8 Na8]
  show own_Fin _ _ _ _ _ _ (s₁.setTop (mkF m 3 #[.val (.ref a2), .val (.int (1 : Int32))] [(.int (1 : Int32)), (.int (1 : Int32))]))
  refine own_to (fun t k => XS.isub X0.here hx rfl (hb hby own_d11_3) rfl k) ?_
  show own_Fin _ _ _ _ _ _ (s₁.setTop (mkF m 4 #[.val (.ref a2), .val (.int (1 : Int32))] [(.int (0 : Int32))]))
  refine own_to (fun t k => XS.bipush X0.here hx rfl (hb hby own_d11_4) k) ?_
  show own_Fin _ _ _ _ _ _ (s₁.setTop (mkF m 6 #[.val (.ref a2), .val (.int (1 : Int32))] [(.int (31 : Int32)), (.int (0 : Int32))]))
  refine own_to (fun t k => XS.iushr X0.here hx rfl (hb hby own_d11_6) rfl k) ?_
  show own_Fin _ _ _ _ _ _ (s₁.setTop (mkF m 7 #[.val (.ref a2), .val (.int (1 : Int32))] [(.int (0 : Int32))]))
  refine own_to (fun t k => XS.i2b X0.here hx rfl (hb hby own_d11_7) rfl k) ?_
  show own_Fin _ _ _ _ _ _ (s₁.setTop (mkF m 8 #[.val (.ref a2), .val (.int (1 : Int32))] [(.int (0 : Int32))]))
  refine own_retN X0 hx hlk (t := .byte) hret (by simp) (hb hby own_d11_8) (by decide) (by decide) ?_
  try rw [e0]
  exact ⟨rfl, N0, rfl⟩
theorem own_d8_0 : decode jdk_42_method_149_code 0 = .ok (.aload_n 0, 1) := by decide +kernel
theorem own_d8_1 : decode jdk_42_method_149_code 1 = .ok (.invokespecial 1, 3) := by decide +kernel
theorem own_d8_4 : decode jdk_42_method_149_code 4 = .ok (.iload_n 3, 1) := by decide +kernel
theorem own_d8_5 : decode jdk_42_method_149_code 5 = .ok (.ifCond .ne 22, 3) := by decide +kernel
theorem own_d8_8 : decode jdk_42_method_149_code 8 = .ok (.aload_n 0, 1) := by decide +kernel
theorem own_d8_9 : decode jdk_42_method_149_code 9 = .ok (.ldc 7, 2) := by decide +kernel
theorem own_d8_11 : decode jdk_42_method_149_code 11 = .ok (.getfield 9, 3) := by decide +kernel
theorem own_d8_14 : decode jdk_42_method_149_code 14 = .ok (.putfield 9, 3) := by decide +kernel
theorem own_d8_17 : decode jdk_42_method_149_code 17 = .ok (.aload_n 0, 1) := by decide +kernel
theorem own_d8_18 : decode jdk_42_method_149_code 18 = .ok (.ldc 7, 2) := by decide +kernel
theorem own_d8_20 : decode jdk_42_method_149_code 20 = .ok (.getfield 15, 3) := by decide +kernel
theorem own_d8_23 : decode jdk_42_method_149_code 23 = .ok (.putfield 15, 3) := by decide +kernel
theorem own_d8_26 : decode jdk_42_method_149_code 26 = .ok (.return_, 1) := by decide +kernel
theorem own_d8_27 : decode jdk_42_method_149_code 27 = .ok (.getstatic 38, 3) := by decide +kernel
theorem own_d8_30 : decode jdk_42_method_149_code 30 = .ok (.ifCond .eq 28, 3) := by decide +kernel
theorem own_d8_33 : decode jdk_42_method_149_code 33 = .ok (.aload_n 1, 1) := by decide +kernel
theorem own_d8_34 : decode jdk_42_method_149_code 34 = .ok (.iload_n 2, 1) := by decide +kernel
theorem own_d8_35 : decode jdk_42_method_149_code 35 = .ok (.iload_n 3, 1) := by decide +kernel
theorem own_d8_36 : decode jdk_42_method_149_code 36 = .ok (.invokestatic 177, 3) := by decide +kernel
theorem own_d8_39 : decode jdk_42_method_149_code 39 = .ok (.astore 5, 2) := by decide +kernel
theorem own_d8_41 : decode jdk_42_method_149_code 41 = .ok (.aload_n 0, 1) := by decide +kernel
theorem own_d8_42 : decode jdk_42_method_149_code 42 = .ok (.aload 5, 2) := by decide +kernel
theorem own_d8_44 : decode jdk_42_method_149_code 44 = .ok (.iload_n 3, 1) := by decide +kernel
theorem own_d8_45 : decode jdk_42_method_149_code 45 = .ok (.invokestatic 47, 3) := by decide +kernel
theorem own_d8_48 : decode jdk_42_method_149_code 48 = .ok (.putfield 15, 3) := by decide +kernel
theorem own_d8_51 : decode jdk_42_method_149_code 51 = .ok (.aload_n 0, 1) := by decide +kernel
theorem own_d8_52 : decode jdk_42_method_149_code 52 = .ok (.aload 5, 2) := by decide +kernel
theorem own_d8_54 : decode jdk_42_method_149_code 54 = .ok (.putfield 9, 3) := by decide +kernel
theorem own_d8_57 : decode jdk_42_method_149_code 57 = .ok (.return_, 1) := by decide +kernel
theorem own_d8_58 : decode jdk_42_method_149_code 58 = .ok (.aload_n 0, 1) := by decide +kernel
theorem own_d8_59 : decode jdk_42_method_149_code 59 = .ok (.iconst 1, 1) := by decide +kernel
theorem own_d8_60 : decode jdk_42_method_149_code 60 = .ok (.putfield 15, 3) := by decide +kernel
theorem own_d8_63 : decode jdk_42_method_149_code 63 = .ok (.aload_n 0, 1) := by decide +kernel
theorem own_d8_64 : decode jdk_42_method_149_code 64 = .ok (.aload_n 1, 1) := by decide +kernel
theorem own_d8_65 : decode jdk_42_method_149_code 65 = .ok (.iload_n 2, 1) := by decide +kernel
theorem own_d8_66 : decode jdk_42_method_149_code 66 = .ok (.iload_n 3, 1) := by decide +kernel
theorem own_d8_67 : decode jdk_42_method_149_code 67 = .ok (.invokestatic 180, 3) := by decide +kernel
theorem own_d8_70 : decode jdk_42_method_149_code 70 = .ok (.putfield 9, 3) := by decide +kernel
theorem own_d8_73 : decode jdk_42_method_149_code 73 = .ok (.return_, 1) := by decide +kernel
theorem own_pn1 : plainName "java/lang/String" = true := by first | (simp [plainName, overriddenIn]; done) | decide +kernel
theorem own_pd1 : parseMethodDescriptor "()V" = some ⟨[], none⟩ := by decide +kernel
theorem own_pd2 : parseMethodDescriptor "([CII)[B" = some ⟨[(.array .char), .int, .int], some (.array .byte)⟩ := by decide +kernel
theorem own_pd3 : parseMethodDescriptor "([BI)B" = some ⟨[(.array .byte), .int], some .byte⟩ := by decide +kernel
theorem own_initI_1_ef (m : MethodId) (a1 : Addr) (a2 : Addr) : entryFrame m #[(.ref a1), (.ref a2), (.int (0 : Int32)), (.int (1 : Int32)), .null] 6 = mkF m 0 #[.val (.ref a1), .val (.ref a2), .val (.int (0 : Int32)), .val (.int (1 : Int32)), .val .null, .unset] [] := by first | (simp [entryFrame, mkF, argsToLocals, Value.category]; done) | rfl
set_option maxRecDepth 65536 in
set_option maxHeartbeats 40000000 in
theorem own_initI_1 (l : Launch) (Z : State) (a0 : Array Value) (hw : ∀ d ∈ tables_1, d.before a0 Z = true) (ws : List Jvm.Cond) (cs : Int32) (a1 : Addr) (a2 : Addr) (k2 : ClassId) (x0 : Int32) (h0 : Heap) (n0 : Nat) (Z0 : n0 ≤ h0.size) (O0 : Old Z n0 h0) (SS : Sta Z Z.heap "java/lang/String" "COMPACT_STRINGS" "Z" (.int cs)) (hcs : ¬ cs = (0 : Int32)) (E1 : Exa Z h0 a1 "java/lang/String") (F1 : Fld Z h0 a1 "java/lang/String" "value" "[B" .null) (F2 : Fld Z h0 a1 "java/lang/String" "coder" "B" (.int (0 : Int32))) (g_a1 : n0 ≤ a1) (V2 : Arv Z h0 a2 k2 .char (1 : Int32) [(.int x0)] (.int (0 : Int32))) (ne12 : a1 ≠ a2) (hx0 : ¬ (255 : Int32) < x0) :
    own_Met l Z (⟨"java/lang/String", "<init>", "([CIILjava/lang/Void;)V"⟩ : MethodName) jdk_42_method_149_code 6 none ws ({ frames := 2, cells := 1, slots := 1, locals := 48 } : Room) #[(.ref a1), (.ref a2), (.int (0 : Int32)), (.int (1 : Int32)), .null] h0 (fun v h L => v = none ∧ Fr n0 L ∧ Keep h0 h [a1]) := by
  refine own_enter (plainFor_of_name own_pn1) ?_
  intro p e s m below meth c s₁ X0 hx hZ hby hml hown hnm hret hlk e0
  have N0 := Fr.nil n0
  rw [own_initI_1_ef m a1 a2]
  have KK0 : Keep h0 h0 [a1] := Keep.refl _ _
  show own_Fin _ _ _ _ _ _ (s₁.setTop (mkF m 0 #[.val (.ref a1), .val (.ref a2), .val (.int (0 : Int32)), .val (.int (1 : Int32)), .val .null, .unset] []))
  refine own_to (fun t k => XS.aloadN X0.here hx rfl (hb hby own_d8_0) rfl rfl k) ?_
  show own_Fin _ _ _ _ _ _ (s₁.setTop (mkF m 1 #[.val (.ref a1), .val (.ref a2), .val (.int (0 : Int32)), .val (.int (1 : Int32)), .val .null, .unset] [(.ref a1)]))
  obtain ⟨T9, X9, e9, st9⟩ := initO X0 hx hZ hown (hw _ (List.mem_of_getElem? (i := 49) rfl)) (hw _ (List.mem_of_getElem? (i := 19) rfl)) (hw _ (List.mem_of_getElem? (i := 20) rfl)) e0 (g := (mkF m 1 #[.val (.ref a1), .val (.ref a2), .val (.int (0 : Int32)), .val (.int (1 : Int32)), .val .null, .unset] [(.ref a1)])) rfl (by rw [hml]; rfl) rfl (hb hby own_d8_1) (by decide) (W := 0) (by show 2 * 0 + _ ≤ _; exact Nat.le_of_eq rfl) (by decide)
  refine own_to (fun t k => st9 t k) ?_
  show own_Fin _ _ _ _ _ _ (T9.setTop (mkF m 4 #[.val (.ref a1), .val (.ref a2), .val (.int (0 : Int32)), .val (.int (1 : Int32)), .val .null, .unset] []))
  refine own_to (fun t k => XS.iloadN X9.here hx rfl (hb hby own_d8_4) rfl k) ?_
  show own_Fin _ _ _ _ _ _ (T9.setTop (mkF m 5 #[.val (.ref a1), .val (.ref a2), .val (.int (0 : Int32)), .val (.int (1 : Int32)), .val .null, .unset] [(.int (1 : Int32))]))
  refine own_to (fun t k => XS.ifYes X9.here hx rfl (pc0 := 5) (pc' := 27) rfl (hb hby own_d8_5) rfl ((if0 _ _).trans (feq (by decide)).2) (by decide) (by decide) k) ?_
  show own_Fin _ _ _ _ _ _ (T9.setTop (mkF m 27 #[.val (.ref a1), .val (.ref a2), .val (.int (0 : Int32)), .val (.int (1 : Int32)), .val .null, .unset] []))
  obtain ⟨T10, X10, e10, st10⟩ := getS2 X9 hx hZ hown (host := "") (Or.inl (hw _ (List.mem_of_getElem? (i := 50) rfl))) Via.refl e9 (SS.ext O0.2) (g := (mkF m 27 #[.val (.ref a1), .val (.ref a2), .val (.int (0 : Int32)), .val (.int (1 : Int32)), .val .null, .unset] [])) rfl (hb hby own_d8_27)
  refine own_to (fun t k => st10 t k) ?_
  show own_Fin _ _ _ _ _ _ (T10.setTop (mkF m 30 #[.val (.ref a1), .val (.ref a2), .val (.int (0 : Int32)), .val (.int (1 : Int32)), .val .null, .unset] [(.int cs)]))
  refine own_to (fun t k => XS.ifNo X10.here hx rfl (hb hby own_d8_30) rfl ((if0 _ _).trans (feq hcs).1) k) ?_
  show own_Fin _ _ _ _ _ _ (T10.setTop (mkF m 33 #[.val (.ref a1), .val (.ref a2), .val (.int (0 : Int32)), .val (.int (1 : Int32)), .val .null, .unset] []))
  refine own_to (fun t k => XS.aloadN X10.here hx rfl (hb hby own_d8_33) rfl rfl k) ?_
  show own_Fin _ _ _ _ _ _ (T10.setTop (mkF m 34 #[.val (.ref a1), .val (.ref a2), .val (.int (0 : Int32)), .val (.int (1 : Int32)), .val .null, .unset] [(.ref a2)]))
  refine own_to (fun t k => XS.iloadN X10.here hx rfl (hb hby own_d8_34) rfl k) ?_
  show own_Fin _ _ _ _ _ _ (T10.setTop (mkF m 35 #[.val (.ref a1), .val (.ref a2), .val (.int (0 : Int32)), .val (.int (1 : Int32)), .val .null, .unset] [(.int (0 : Int32)), (.ref a2)]))
  refine own_to (fun t k => XS.iloadN X10.here hx rfl (hb hby own_d8_35) rfl k) ?_
  show own_Fin _ _ _ _ _ _ (T10.setTop (mkF m 36 #[.val (.ref a1), .val (.ref a2), .val (.int (0 : Int32)), .val (.int (1 : Int32)), .val .null, .unset] [(.int (1 : Int32)), (.int (0 : Int32)), (.ref a2)]))
  obtain ⟨_, _, ⟨T11, L11, k11, n11⟩, -, X11, ⟨Lc11, hQ11, l11, y11, z11⟩, st11⟩ := Jvm.LawKit.callS X10 hx (y := (⟨"java/lang/StringUTF16", "compress", "([CII)[B"⟩ : MethodName)) hown (mvT hZ (hw _ (List.mem_of_getElem? (i := 51) rfl))) (mvT hZ (hw _ (List.mem_of_getElem? (i := 52) rfl))) (mvT hZ (hw _ (List.mem_of_getElem? (i := 53) rfl))) (mvT hZ (hw _ (List.mem_of_getElem? (i := 54) rfl))) (by decide) (own_back (W := 0) (own_cmp_1 l Z a0 hw [] a2 k2 x0 h0 n0 Z0 V2 hx0) hZ (hw _ (List.mem_of_getElem? (i := 54) rfl)) (hw _ (List.mem_of_getElem? (i := 53) rfl)) (by decide) (by decide)) (g := (mkF m 36 #[.val (.ref a1), .val (.ref a2), .val (.int (0 : Int32)), .val (.int (1 : Int32)), .val .null, .unset] [(.int (1 : Int32)), (.int (0 : Int32)), (.ref a2)])) rfl (by rw [hml]; rfl) (argsL := [(.ref a2), (.int (0 : Int32)), (.int (1 : Int32))]) (rest := []) (lenOf own_pd2 rfl) rfl (by show 2 * 0 + _ ≤ _; exact Nat.le_of_eq rfl) (hb hby own_d8_36) (fun _ _ => ⟨rfl, e10, (by decide : 0 + 1 ≤ _), (by decide : 0 + 1 ≤ _)⟩)
  dsimp only [Pt.U, Pt.locs, Pt.cells, Pt.slots] at X11 l11 y11 z11 st11 hQ11
  subst l11 y11 z11
  obtain ⟨d, k3, rfl, N11q, K11, g_d, szd, V_d⟩ := hQ11
  have N11 := Fr.app N0 N11q
  have ne_a1_d : a1 ≠ d := Nat.ne_of_lt (Nat.lt_of_lt_of_le E1.lt szd)
  have ne_a2_d : a2 ≠ d := Nat.ne_of_lt (Nat.lt_of_lt_of_le V2.lt szd)
  have sz_d : h0.size ≤ d := Nat.le_trans KK0.1 szd
  have O11 := O0.keep K11 all0
  have KK11 : Keep h0 T11.heap [a1] := KK0.trans K11 all0
  have E1_e11 := E1.keep K11
  have F1_e11 := F1.keep K11 nin0
  have F2_e11 := F2.keep K11 nin0
  have V2_e11 := V2.keep K11 nin0
  refine own_to (fun t k => st11 t k) ?_
  show own_Fin _ _ _ _ _ _ (T11.setTop (mkF m 39 #[.val (.ref a1), .val (.ref a2), .val (.int (0 : Int32)), .val (.int (1 : Int32)), .val .null, .unset] [(.ref d)]))
  refine own_to (fun t k => XS.astore X11.here hx rfl (hb hby own_d8_39) rfl rfl (l' := #[.val (.ref a1), .val (.ref a2), .val (.int (0 : Int32)), .val (.int (1 : Int32)), .val .null, .val (.ref d)]) rfl k) ?_
  show own_Fin _ _ _ _ _ _ (T11.setTop (mkF m 41 #[.val (.ref a1), .val (.ref a2), .val (.int (0 : Int32)), .val (.int (1 : Int32)), .val .null, .val (.ref d)] []))
  refine own_to (fun t k => XS.aloadN X11.here hx rfl (hb hby own_d8_41) rfl rfl k) ?_
  show own_Fin _ _ _ _ _ _ (T11.setTop (mkF m 42 #[.val (.ref a1), .val (.ref a2), .val (.int (0 : Int32)), .val (.int (1 : Int32)), .val .null, .val (.ref d)] [(.ref a1)]))
  refine own_to (fun t k => XS.aload X11.here hx rfl (hb hby own_d8_42) rfl rfl k) ?_
  show own_Fin _ _ _ _ _ _ (T11.setTop (mkF m 44 #[.val (.ref a1), .val (.ref a2), .val (.int (0 : Int32)), .val (.int (1 : Int32)), .val .null, .val (.ref d)] [(.ref d), (.ref a1)]))
  refine own_to (fun t k => XS.iloadN X11.here hx rfl (hb hby own_d8_44) rfl k) ?_
  show own_Fin _ _ _ _ _ _ (T11.setTop (mkF m 45 #[.val (.ref a1), .val (.ref a2), .val (.int (0 : Int32)), .val (.int (1 : Int32)), .val .null, .val (.ref d)] [(.int (1 : Int32)), (.ref d), (.ref a1)]))
  obtain ⟨_, _, ⟨T12, L12, k12, n12⟩, -, X12, ⟨Lc12, hQ12, l12, y12, z12⟩, st12⟩ := Jvm.LawKit.callS X11 hx (y := (⟨"java/lang/StringUTF16", "coderFromArrayLen", "([BI)B"⟩ : MethodName)) hown (mvT hZ (hw _ (List.mem_of_getElem? (i := 59) rfl))) (mvT hZ (hw _ (List.mem_of_getElem? (i := 60) rfl))) (mvT hZ (hw _ (List.mem_of_getElem? (i := 53) rfl))) (mvT hZ (hw _ (List.mem_of_getElem? (i := 61) rfl))) (by decide) (own_back (W := 1) (own_cod_1 l Z a0 hw [] d k3 x0 T11.heap n0 (Nat.le_trans Z0 K11.1) V_d) hZ (hw _ (List.mem_of_getElem? (i := 61) rfl)) (hw _ (List.mem_of_getElem? (i := 53) rfl)) (by decide) (by decide)) (g := (mkF m 45 #[.val (.ref a1), .val (.ref a2), .val (.int (0 : Int32)), .val (.int (1 : Int32)), .val .null, .val (.ref d)] [(.int (1 : Int32)), (.ref d), (.ref a1)])) rfl (by rw [hml]; rfl) (argsL := [(.ref d), (.int (1 : Int32))]) (rest := [(.ref a1)]) (lenOf own_pd3 rfl) rfl (by show 2 * 0 + _ ≤ _; exact Nat.le_of_eq rfl) (hb hby own_d8_45) (fun _ _ => ⟨rfl, rfl, (by decide : 1 + 0 ≤ _), (by decide : 1 + 0 ≤ _)⟩)
  dsimp only [Pt.U, Pt.locs, Pt.cells, Pt.slots] at X12 l12 y12 z12 st12 hQ12
  subst l12 y12 z12
  obtain ⟨rfl, N12q, eh12⟩ := hQ12
  have N12 := Fr.app N11 N12q
  refine own_to (fun t k => st12 t k) ?_
  show own_Fin _ _ _ _ _ _ (T12.setTop (mkF m 48 #[.val (.ref a1), .val (.ref a2), .val (.int (0 : Int32)), .val (.int (1 : Int32)), .val .null, .val (.ref d)] [(.int (0 : Int32)), (.ref a1)]))
  obtain ⟨T13, h13, X13, e13, W13, st13⟩ := putFN X12 hx hZ hown (hw _ (List.mem_of_getElem? (i := 62) rfl)) Via.refl eh12 F2_e11 E1_e11 (Or.inr ⟨(hw _ (List.mem_of_getElem? (i := 63) rfl)), rfl, hnm⟩) (hw _ (List.mem_of_getElem? (i := 39) rfl)) (ty := .byte) (v' := (.int (0 : Int32))) (by decide) rfl rfl (g := (mkF m 48 #[.val (.ref a1), .val (.ref a2), .val (.int (0 : Int32)), .val (.int (1 : Int32)), .val .null, .val (.ref d)] [(.int (0 : Int32)), (.ref a1)])) rfl rfl (hb hby own_d8_48)
  have Fw13 := F2_e11.same W13
  have N13 := Fr.snoc X13 N12 g_a1
  have O13 := O11.wr W13 g_a1
  have KK13 : Keep h0 h13 [a1] := KK11.wr W13 (Or.inl (List.mem_of_getElem? (i := 0) rfl))
  have E1_e13 := E1_e11.wr W13
  have F1_e13 := F1_e11.other W13 (Or.inr (slot_ne (Or.inr (hw _ (List.mem_of_getElem? (i := 65) rfl))) (Or.inr (hw _ (List.mem_of_getElem? (i := 63) rfl))) (by decide) (t := (.array .byte)) (t' := .byte) (by decide) (by decide)))
  have V2_e13 := V2_e11.other W13 (Ne.symm ne12)
  have V_d_e13 := V_d.other W13 (Ne.symm ne_a1_d)
  refine own_to (fun t k => st13 t k) ?_
  show own_Fin _ _ _ _ _ _ (T13.setTop (mkF m 51 #[.val (.ref a1), .val (.ref a2), .val (.int (0 : Int32)), .val (.int (1 : Int32)), .val .null, .val (.ref d)] []))
  refine own_to (fun t k => XS.aloadN X13.here hx rfl (hb hby own_d8_51) rfl rfl k) ?_
  show own_Fin _ _ _ _ _ _ (T13.setTop (mkF m 52 #[.val (.ref a1), .val (.ref a2), .val (.int (0 : Int32)), .val (.int (1 : Int32)), .val .null, .val (.ref d)] [(.ref a1)]))
  refine own_to (fun t k => XS.aload X13.here hx rfl (hb hby own_d8_52) rfl rfl k) ?_
  show own_Fin _ _ _ _ _ _ (T13.setTop (mkF m 54 #[.val (.ref a1), .val (.ref a2), .val (.int (0 : Int32)), .val (.int (1 : Int32)), .val .null, .val (.ref d)] [(.ref d), (.ref a1)]))
  obtain ⟨T14, h14, X14, e14, W14, st14⟩ := putF X13 hx hZ hown (host := "") (Or.inl (hw _ (List.mem_of_getElem? (i := 64) rfl))) Via.refl e13 F1_e13 E1_e13 (Or.inr ⟨(hw _ (List.mem_of_getElem? (i := 65) rfl)), rfl, hnm⟩) (hw _ (List.mem_of_getElem? (i := 39) rfl)) (ty := (.array .byte)) (by decide) rfl rfl (g := (mkF m 54 #[.val (.ref a1), .val (.ref a2), .val (.int (0 : Int32)), .val (.int (1 : Int32)), .val .null, .val (.ref d)] [(.ref d), (.ref a1)])) rfl rfl (hb hby own_d8_54)
  have Fw14 := F1_e13.same W14
  have N14 := Fr.snoc X14 N13 g_a1
  have O14 := O13.wr W14 g_a1
  have KK14 : Keep h0 h14 [a1] := KK13.wr W14 (Or.inl (List.mem_of_getElem? (i := 0) rfl))
  have E1_e14 := E1_e13.wr W14
  have Fw13_e14 := Fw13.other W14 (Or.inr (slot_ne (Or.inr (hw _ (List.mem_of_getElem? (i := 63) rfl))) (Or.inr (hw _ (List.mem_of_getElem? (i := 65) rfl))) (by decide) (t := .byte) (t' := (.array .byte)) (by decide) (by decide)))
  have V2_e14 := V2_e13.other W14 (Ne.symm ne12)
  have V_d_e14 := V_d_e13.other W14 (Ne.symm ne_a1_d)
  refine own_to (fun t k => st14 t k) ?_
  show own_Fin _ _ _ _ _ _ (T14.setTop (mkF m 57 #[.val (.ref a1), .val (.ref a2), .val (.int (0 : Int32)), .val (.int (1 : Int32)), .val .null, .val (.ref d)] []))
  refine own_retV X14 hx hlk hret (hb hby own_d8_57) (by decide) (by decide) ?_
  try rw [e14]
  exact ⟨rfl, N14, KK14⟩
theorem own_d7_0 : decode jdk_42_method_3_code 0 = .ok (.aload_n 0, 1) := by decide +kernel
theorem own_d7_1 : decode jdk_42_method_3_code 1 = .ok (.aload_n 1, 1) := by decide +kernel
theorem own_d7_2 : decode jdk_42_method_3_code 2 = .ok (.iconst 0, 1) := by decide +kernel
theorem own_d7_3 : decode jdk_42_method_3_code 3 = .ok (.aload_n 1, 1) := by decide +kernel
theorem own_d7_4 : decode jdk_42_method_3_code 4 = .ok (.arraylength, 1) := by decide +kernel
theorem own_d7_5 : decode jdk_42_method_3_code 5 = .ok (.aconst_null, 1) := by decide +kernel
theorem own_d7_6 : decode jdk_42_method_3_code 6 = .ok (.invokespecial 27, 3) := by decide +kernel
theorem own_d7_9 : decode jdk_42_method_3_code 9 = .ok (.return_, 1) := by decide +kernel
theorem own_pd4 : parseMethodDescriptor "([CIILjava/lang/Void;)V" = some ⟨[(.array .char), .int, .int, (.object "java/lang/Void")], none⟩ := by decide +kernel
theorem own_init_1_ef (m : MethodId) (a1 : Addr) (a2 : Addr) : entryFrame m #[(.ref a1), (.ref a2)] 2 = mkF m 0 #[.val (.ref a1), .val (.ref a2)] [] := by first | (simp [entryFrame, mkF, argsToLocals, Value.category]; done) | rfl
set_option maxRecDepth 65536 in
set_option maxHeartbeats 40000000 in
theorem own_init_1 (l : Launch) (Z : State) (a0 : Array Value) (hw : ∀ d ∈ tables_1, d.before a0 Z = true) (ws : List Jvm.Cond) (cs : Int32) (a1 : Addr) (a2 : Addr) (k2 : ClassId) (x0 : Int32) (h0 : Heap) (n0 : Nat) (Z0 : n0 ≤ h0.size) (O0 : Old Z n0 h0) (SS : Sta Z Z.heap "java/lang/String" "COMPACT_STRINGS" "Z" (.int cs)) (hcs : ¬ cs = (0 : Int32)) (E1 : Exa Z h0 a1 "java/lang/String") (F1 : Fld Z h0 a1 "java/lang/String" "value" "[B" .null) (F2 : Fld Z h0 a1 "java/lang/String" "coder" "B" (.int (0 : Int32))) (g_a1 : n0 ≤ a1) (V2 : Arv Z h0 a2 k2 .char (1 : Int32) [(.int x0)] (.int (0 : Int32))) (ne12 : a1 ≠ a2) (hx0 : ¬ (255 : Int32) < x0) :
    own_Met l Z (⟨"java/lang/String", "<init>", "([C)V"⟩ : MethodName) jdk_42_method_3_code 2 none ws ({ frames := 3, cells := 1, slots := 1, locals := 72 } : Room) #[(.ref a1), (.ref a2)] h0 (fun v h L => v = none ∧ Fr n0 L ∧ Keep h0 h [a1]) := by
  refine own_enter (plainFor_of_name own_pn1) ?_
  intro p e s m below meth c s₁ X0 hx hZ hby hml hown hnm hret hlk e0
  have N0 := Fr.nil n0
  rw [own_init_1_ef m a1 a2]
  have KK0 : Keep h0 h0 [a1] := Keep.refl _ _
  show own_Fin _ _ _ _ _ _ (s₁.setTop (mkF m 0 #[.val (.ref a1), .val (.ref a2)] []))
  refine own_to (fun t k => XS.aloadN X0.here hx rfl (hb hby own_d7_0) rfl rfl k) ?_
  show own_Fin _ _ _ _ _ _ (s₁.setTop (mkF m 1 #[.val (.ref a1), .val (.ref a2)] [(.ref a1)]))
  refine own_to (fun t k => XS.aloadN X0.here hx rfl (hb hby own_d7_1) rfl rfl k) ?_
  show own_Fin _ _ _ _ _ _ (s₁.setTop (mkF m 2 #[.val (.ref a1), .val (.ref a2)] [(.ref a2), (.ref a1)]))
  refine own_to (fun t k => XS.iconst X0.here hx rfl (hb hby own_d7_2) k) ?_
  show own_Fin _ _ _ _ _ _ (s₁.setTop (mkF m 3 #[.val (.ref a1), .val (.ref a2)] [(.int (0 : Int32)), (.ref a2), (.ref a1)]))
  refine own_to (fun t k => XS.aloadN X0.here hx rfl (hb hby own_d7_3) rfl rfl k) ?_
  show own_Fin _ _ _ _ _ _ (s₁.setTop (mkF m 4 #[.val (.ref a1), .val (.ref a2)] [(.ref a2), (.int (0 : Int32)), (.ref a2), (.ref a1)]))
  obtain ⟨cl15, Ar15, qa15, Sa15, Na15, Ha15, Ga15⟩ := id V2
  refine own_to (fun t k => X0.arraylength hx (by rw [e0]; exact Ar15.1) (State.isArrayOf_alike hZ.alike Ar15.2.1) (g := (mkF m 4 #[.val (.ref a1), .val (.ref a2)] [(.ref a2), (.int (0 : Int32)), (.ref a2), (.ref a1)])) rfl rfl (hb hby own_d7_4) _ k) ?_
  rw [len_of Sa15 Na15]
  show own_Fin _ _ _ _ _ _ (s₁.setTop (mkF m 5 #[.val (.ref a1), .val (.ref a2)] [(.int (1 : Int32)), (.int (0 : Int32)), (.ref a2), (.ref a1)]))
  refine own_to (fun t k => XS.aconstNull X0.here hx rfl (hb hby own_d7_5) k) ?_
  show own_Fin _ _ _ _ _ _ (s₁.setTop (mkF m 6 #[.val (.ref a1), .val (.ref a2)] [.null, (.int (1 : Int32)), (.int (0 : Int32)), (.ref a2), (.ref a1)]))
  obtain ⟨_, _, ⟨T16, L16, k16, n16⟩, -, X16, ⟨Lc16, hQ16, l16, y16, z16⟩, st16⟩ := X0.specialBack hx (y := (⟨"java/lang/String", "<init>", "([CIILjava/lang/Void;)V"⟩ : MethodName)) rfl hown (mvT hZ (hw _ (List.mem_of_getElem? (i := 45) rfl))) (mvT hZ (hw _ (List.mem_of_getElem? (i := 46) rfl))) (mvT hZ (hw _ (List.mem_of_getElem? (i := 48) rfl))) (by decide) (own_back (W := 0) (own_initI_1 l Z a0 hw [] cs a1 a2 k2 x0 h0 n0 Z0 O0 SS hcs E1 F1 F2 g_a1 V2 ne12 hx0) hZ (hw _ (List.mem_of_getElem? (i := 48) rfl)) (hw _ (List.mem_of_getElem? (i := 40) rfl)) (by decide) (by decide)) (g := (mkF m 6 #[.val (.ref a1), .val (.ref a2)] [.null, (.int (1 : Int32)), (.int (0 : Int32)), (.ref a2), (.ref a1)])) rfl (by rw [hml]; rfl) (Steps.refl _) (a := a1) (argsL := [(.ref a2), (.int (0 : Int32)), (.int (1 : Int32)), .null]) (rest := []) (lenOf own_pd4 rfl) rfl (by show 2 * 0 + _ ≤ _; exact Nat.le_of_eq rfl) (hb hby own_d7_6) (fun _ _ => ⟨rfl, e0, (by decide : 0 + 1 ≤ _), (by decide : 0 + 1 ≤ _)⟩)
  dsimp only [Pt.U, Pt.locs, Pt.cells, Pt.slots] at X16 l16 y16 z16 st16 hQ16
  subst l16 y16 z16
  obtain ⟨rfl, N16q, K16⟩ := hQ16
  have N16 := Fr.app N0 N16q
  have O16 := O0.keep K16 (allS g_a1 all0)
  have KK16 : Keep h0 T16.heap [a1] := KK0.trans K16 (allS (Or.inl (List.mem_of_getElem? (i := 0) rfl)) all0)
  have E1_e16 := E1.keep K16
  have V2_e16 := V2.keep K16 (ninS (Ne.symm ne12) nin0)
  refine own_to (fun t k => st16.trans k) ?_
  show own_Fin _ _ _ _ _ _ (T16.setTop (mkF m 9 #[.val (.ref a1), .val (.ref a2)] []))
  refine own_retV X16 hx hlk hret (hb hby own_d7_9) (by decide) (by decide) ?_
  exact ⟨rfl, N16, KK16⟩
theorem own_cmp2_2_ef (m : MethodId) (a2 : Addr) (a3 : Addr) : entryFrame m #[(.ref a2), (.int (0 : Int32)), (.ref a3), (.int (0 : Int32)), (.int (2 : Int32))] 7 = mkF m 0 #[.val (.ref a2), .val (.int (0 : Int32)), .val (.ref a3), .val (.int (0 : Int32)), .val (.int (2 : Int32)), .unset, .unset] [] := by first | (simp [entryFrame, mkF, argsToLocals, Value.category]; done) | rfl
set_option maxRecDepth 65536 in
set_option maxHeartbeats 40000000 in
theorem own_cmp2_2 (l : Launch) (Z : State) (a0 : Array Value) (hw : ∀ d ∈ tables_1, d.before a0 Z = true) (ws : List Jvm.Cond) (a2 : Addr) (a3 : Addr) (k2 : ClassId) (k3 : ClassId) (x0 : Int32) (x1 : Int32) (h0 : Heap) (n0 : Nat) (Z0 : n0 ≤ h0.size) (V2 : Arv Z h0 a2 k2 .char (2 : Int32) [(.int x0), (.int x1)] (.int (0 : Int32))) (V3 : Arv Z h0 a3 k3 .byte (2 : Int32) [(.int (0 : Int32)), (.int (0 : Int32))] (.int (0 : Int32))) (g_a3 : n0 ≤ a3) (ne23 : a2 ≠ a3) (hx0 : ¬ (255 : Int32) < x0) (hx1 : ¬ (255 : Int32) < x1) :
    own_Met l Z (⟨"java/lang/StringUTF16", "compress", "([CI[BII)I"⟩ : MethodName) jdk_52_method_21_code 7 (some .int) ws ({ frames := 0, cells := 0, slots := 0, locals := 0 } : Room) #[(.ref a2), (.int (0 : Int32)), (.ref a3), (.int (0 : Int32)), (.int (2 : Int32))] h0 (fun v h L => v = some (.int (2 : Int32)) ∧ Fr n0 L ∧ Keep h0 h [a3] ∧ Arv Z h a3 k3 .byte (2 : Int32) [(.int (x0.toInt8.toInt32)), (.int (x1.toInt8.toInt32))] (.int (0 : Int32))) := by
  refine own_enter (plainFor_of_name own_pn0) ?_
  intro p e s m below meth c s₁ X0 hx hZ hby hml hown hnm hret hlk e0
  have N0 := Fr.nil n0
  rw [own_cmp2_2_ef m a2 a3]
  have KK0 : Keep h0 h0 [a3] := Keep.refl _ _
  show own_Fin _ _ _ _ _ _ (s₁.setTop (mkF m 0 #[.val (.ref a2), .val (.int (0 : Int32)), .val (.ref a3), .val (.int (0 : Int32)), .val (.int (2 : Int32)), .unset, .unset] []))
  refine own_to (fun t k => XS.iconst X0.here hx rfl (hb hby own_d10_0) k) ?_
  show own_Fin _ _ _ _ _ _ (s₁.setTop (mkF m 1 #[.val (.ref a2), .val (.int (0 : Int32)), .val (.ref a3), .val (.int (0 : Int32)), .val (.int (2 : Int32)), .unset, .unset] [(.int (0 : Int32))]))
  refine own_to (fun t k => XS.istore X0.here hx rfl (hb hby own_d10_1) rfl (l' := #[.val (.ref a2), .val (.int (0 : Int32)), .val (.ref a3), .val (.int (0 : Int32)), .val (.int (2 : Int32)), .val (.int (0 : Int32)), .unset]) rfl k) ?_
  show own_Fin _ _ _ _ _ _ (s₁.setTop (mkF m 3 #[.val (.ref a2), .val (.int (0 : Int32)), .val (.ref a3), .val (.int (0 : Int32)), .val (.int (2 : Int32)), .val (.int (0 : Int32)), .unset] []))
  refine own_to (fun t k => XS.iload X0.here hx rfl (hb hby own_d10_3) rfl k) ?_
  show own_Fin _ _ _ _ _ _ (s₁.setTop (mkF m 5 #[.val (.ref a2), .val (.int (0 : Int32)), .val (.ref a3), .val (.int (0 : Int32)), .val (.int (2 : Int32)), .val (.int (0 : Int32)), .unset] [(.int (0 : Int32))]))
  refine own_to (fun t k => XS.iload X0.here hx rfl (hb hby own_d10_5) rfl k) ?_
  show own_Fin _ _ _ _ _ _ (s₁.setTop (mkF m 7 #[.val (.ref a2), .val (.int (0 : Int32)), .val (.ref a3), .val (.int (0 : Int32)), .val (.int (2 : Int32)), .val (.int (0 : Int32)), .unset] [(.int (2 : Int32)), (.int (0 : Int32))]))
  refine own_to (fun t k => XS.icmpNo X0.here hx rfl (hb hby own_d10_7) rfl (tlt (by decide)).2.1 k) ?_
  show own_Fin _ _ _ _ _ _ (s₁.setTop (mkF m 10 #[.val (.ref a2), .val (.int (0 : Int32)), .val (.ref a3), .val (.int (0 : Int32)), .val (.int (2 : Int32)), .val (.int (0 : Int32)), .unset] []))
  refine own_to (fun t k => XS.aloadN X0.here hx rfl (hb hby own_d10_10) rfl rfl k) ?_
  show own_Fin _ _ _ _ _ _ (s₁.setTop (mkF m 11 #[.val (.ref a2), .val (.int (0 : Int32)), .val (.ref a3), .val (.int (0 : Int32)), .val (.int (2 : Int32)), .val (.int (0 : Int32)), .unset] [(.ref a2)]))
  refine own_to (fun t k => XS.iloadN X0.here hx rfl (hb hby own_d10_11) rfl k) ?_
  show own_Fin _ _ _ _ _ _ (s₁.setTop (mkF m 12 #[.val (.ref a2), .val (.int (0 : Int32)), .val (.ref a3), .val (.int (0 : Int32)), .val (.int (2 : Int32)), .val (.int (0 : Int32)), .unset] [(.int (0 : Int32)), (.ref a2)]))
  obtain ⟨cl17, Ar17, qa17, Sa17, Na17, Ha17, Ga17⟩ := id V2
  have hin18 : ¬ ((0 : Int32) < 0 ∨ cl17.slots.size ≤ ((0 : Int32)).toNatClampNeg) := inb_of Sa17 ⟨by decide, by decide⟩
  refine own_to (fun t k => X0.caload hx (j := (0 : Int32)) (v := (.int x0)) (by rw [e0]; exact Ar17.1) (State.isArrayOf_alike hZ.alike Ar17.2.1) Ar17.2.2 hin18 (Has.at Ha17 hin18 rfl) (g := (mkF m 12 #[.val (.ref a2), .val (.int (0 : Int32)), .val (.ref a3), .val (.int (0 : Int32)), .val (.int (2 : Int32)), .val (.int (0 : Int32)), .unset] [(.int (0 : Int32)), (.ref a2)])) rfl rfl (hb hby own_d10_12) _ k) ?_
  show own_Fin _ _ _ _ _ _ (s₁.setTop (mkF m 13 #[.val (.ref a2), .val (.int (0 : Int32)), .val (.ref a3), .val (.int (0 : Int32)), .val (.int (2 : Int32)), .val (.int (0 : Int32)), .unset] [(.int x0)]))
  refine own_to (fun t k => XS.istore X0.here hx rfl (hb hby own_d10_13) rfl (l' := #[.val (.ref a2), .val (.int (0 : Int32)), .val (.ref a3), .val (.int (0 : Int32)), .val (.int (2 : Int32)), .val (.int (0 : Int32)), .val (.int x0)]) rfl k) ?_
  show own_Fin _ _ _ _ _ _ (s₁.setTop (mkF m 15 #[.val (.ref a2), .val (.int (0 : Int32)), .val (.ref a3), .val (.int (0 : Int32)), .val (.int (2 : Int32)), .val (.int (0 : Int32)), .val (.int x0)] []))
  refine own_to (fun t k => XS.iload X0.here hx rfl (hb hby own_d10_15) rfl k) ?_
  show own_Fin _ _ _ _ _ _ (s₁.setTop (mkF m 17 #[.val (.ref a2), .val (.int (0 : Int32)), .val (.ref a3), .val (.int (0 : Int32)), .val (.int (2 : Int32)), .val (.int (0 : Int32)), .val (.int x0)] [(.int x0)]))
  refine own_to (fun t k => XS.sipush X0.here hx rfl (hb hby own_d10_17) k) ?_
  show own_Fin _ _ _ _ _ _ (s₁.setTop (mkF m 20 #[.val (.ref a2), .val (.int (0 : Int32)), .val (.ref a3), .val (.int (0 : Int32)), .val (.int (2 : Int32)), .val (.int (0 : Int32)), .val (.int x0)] [(.int (255 : Int32)), (.int x0)]))
  refine own_to (fun t k => XS.icmpYes X0.here hx rfl (pc0 := 20) (pc' := 26) rfl (hb hby own_d10_20) rfl (flt hx0).2.2.2 (by decide) (by decide) k) ?_
  show own_Fin _ _ _ _ _ _ (s₁.setTop (mkF m 26 #[.val (.ref a2), .val (.int (0 : Int32)), .val (.ref a3), .val (.int (0 : Int32)), .val (.int (2 : Int32)), .val (.int (0 : Int32)), .val (.int x0)] []))
  refine own_to (fun t k => XS.aloadN X0.here hx rfl (hb hby own_d10_26) rfl rfl k) ?_
  show own_Fin _ _ _ _ _ _ (s₁.setTop (mkF m 27 #[.val (.ref a2), .val (.int (0 : Int32)), .val (.ref a3), .val (.int (0 : Int32)), .val (.int (2 : Int32)), .val (.int (0 : Int32)), .val (.int x0)] [(.ref a3)]))
  refine own_to (fun t k => XS.iloadN X0.here hx rfl (hb hby own_d10_27) rfl k) ?_
  show own_Fin _ _ _ _ _ _ (s₁.setTop (mkF m 28 #[.val (.ref a2), .val (.int (0 : Int32)), .val (.ref a3), .val (.int (0 : Int32)), .val (.int (2 : Int32)), .val (.int (0 : Int32)), .val (.int x0)] [(.int (0 : Int32)), (.ref a3)]))
  refine own_to (fun t k => XS.iload X0.here hx rfl (hb hby own_d10_28) rfl k) ?_
  show own_Fin _ _ _ _ _ _ (s₁.setTop (mkF m 30 #[.val (.ref a2), .val (.int (0 : Int32)), .val (.ref a3), .val (.int (0 : Int32)), .val (.int (2 : Int32)), .val (.int (0 : Int32)), .val (.int x0)] [(.int x0), (.int (0 : Int32)), (.ref a3)]))
  refine own_to (fun t k => XS.i2b X0.here hx rfl (hb hby own_d10_30) rfl k) ?_
  show own_Fin _ _ _ _ _ _ (s₁.setTop (mkF m 31 #[.val (.ref a2), .val (.int (0 : Int32)), .val (.ref a3), .val (.int (0 : Int32)), .val (.int (2 : Int32)), .val (.int (0 : Int32)), .val (.int x0)] [(.int (x0.toInt8.toInt32)), (.int (0 : Int32)), (.ref a3)]))
  obtain ⟨cl19, Ar19, qa19, Sa19, Na19, Ha19, Ga19⟩ := id V3
  have hin20 : ¬ ((0 : Int32) < 0 ∨ cl19.slots.size ≤ ((0 : Int32)).toNatClampNeg) := inb_of Sa19 ⟨by decide, by decide⟩
  obtain ⟨T20, h20, X20, e20, W20, st20⟩ := stB X0 hx hZ e0 Ar19 (j := (0 : Int32)) hin20 (g := (mkF m 31 #[.val (.ref a2), .val (.int (0 : Int32)), .val (.ref a3), .val (.int (0 : Int32)), .val (.int (2 : Int32)), .val (.int (0 : Int32)), .val (.int x0)] [(.int (x0.toInt8.toInt32)), (.int (0 : Int32)), (.ref a3)])) rfl rfl (hb hby own_d10_31)
  rw [own_idem _] at W20
  have N20 := Fr.snoc X20 N0 g_a3
  have KK20 : Keep h0 h20 [a3] := KK0.wr W20 (Or.inl (List.mem_of_getElem? (i := 0) rfl))
  have V2_e20 := V2.other W20 ne23
  have V20 : Arv Z h20 a3 k3 .byte (2 : Int32) [(.int (x0.toInt8.toInt32)), (.int (0 : Int32))] (.int (0 : Int32)) := Arv.set Ar19 qa19 Sa19 Na19 Ha19 Ga19 (fits_nar_byte _) W20 0 rfl (Nat.le_of_ble_eq_true rfl)
  refine own_to (fun t k => st20 t k) ?_
  show own_Fin _ _ _ _ _ _ (T20.setTop (mkF m 32 #[.val (.ref a2), .val (.int (0 : Int32)), .val (.ref a3), .val (.int (0 : Int32)), .val (.int (2 : Int32)), .val (.int (0 : Int32)), .val (.int x0)] []))
  refine own_to (fun t k => XS.iinc X20.here hx rfl (hb hby own_d10_32) rfl (l' := #[.val (.ref a2), .val (.int (1 : Int32)), .val (.ref a3), .val (.int (0 : Int32)), .val (.int (2 : Int32)), .val (.int (0 : Int32)), .val (.int x0)]) rfl k) ?_
  show own_Fin _ _ _ _ _ _ (T20.setTop (mkF m 35 #[.val (.ref a2), .val (.int (1 : Int32)), .val (.ref a3), .val (.int (0 : Int32)), .val (.int (2 : Int32)), .val (.int (0 : Int32)), .val (.int x0)] []))
  refine own_to (fun t k => XS.iinc X20.here hx rfl (hb hby own_d10_35) rfl (l' := #[.val (.ref a2), .val (.int (1 : Int32)), .val (.ref a3), .val (.int (1 : Int32)), .val (.int (2 : Int32)), .val (.int (0 : Int32)), .val (.int x0)]) rfl k) ?_
  show own_Fin _ _ _ _ _ _ (T20.setTop (mkF m 38 #[.val (.ref a2), .val (.int (1 : Int32)), .val (.ref a3), .val (.int (1 : Int32)), .val (.int (2 : Int32)), .val (.int (0 : Int32)), .val (.int x0)] []))
  refine own_to (fun t k => XS.iinc X20.here hx rfl (hb hby own_d10_38) rfl (l' := #[.val (.ref a2), .val (.int (1 : Int32)), .val (.ref a3), .val (.int (1 : Int32)), .val (.int (2 : Int32)), .val (.int (1 : Int32)), .val (.int x0)]) rfl k) ?_
  show own_Fin _ _ _ _ _ _ (T20.setTop (mkF m 41 #[.val (.ref a2), .val (.int (1 : Int32)), .val (.ref a3), .val (.int (1 : Int32)), .val (.int (2 : Int32)), .val (.int (1 : Int32)), .val (.int x0)] []))
  refine own_to (fun t k => XS.goto X20.here hx rfl (pc0 := 41) (pc' := 3) rfl (hb hby own_d10_41) (by decide) (by decide) k) ?_
  show own_Fin _ _ _ _ _ _ (T20.setTop (mkF m 3 #[.val (.ref a2), .val (.int (1 : Int32)), .val (.ref a3), .val (.int (1 : Int32)), .val (.int (2 : Int32)), .val (.int (1 : Int32)), .val (.int x0)] []))
  refine own_to (fun t k => XS.iload X20.here hx rfl (hb hby own_d10_3) rfl k) ?_
  show own_Fin _ _ _ _ _ _ (T20.setTop (mkF m 5 #[.val (.ref a2), .val (.int (1 : Int32)), .val (.ref a3), .val (.int (1 : Int32)), .val (.int (2 : Int32)), .val (.int (1 : Int32)), .val (.int x0)] [(.int (1 : Int32))]))
  refine own_to (fun t k => XS.iload X20.here hx rfl (hb hby own_d10_5) rfl k) ?_
  show own_Fin _ _ _ _ _ _ (T20.setTop (mkF m 7 #[.val (.ref a2), .val (.int (1 : Int32)), .val (.ref a3), .val (.int (1 : Int32)), .val (.int (2 : Int32)), .val (.int (1 : Int32)), .val (.int x0)] [(.int (2 : Int32)), (.int (1 : Int32))]))
  refine own_to (fun t k => XS.icmpNo X20.here hx rfl (hb hby own_d10_7) rfl (tlt (by decide)).2.1 k) ?_
  show own_Fin _ _ _ _ _ _ (T20.setTop (mkF m 10 #[.val (.ref a2), .val (.int (1 : Int32)), .val (.ref a3), .val (.int (1 : Int32)), .val (.int (2 : Int32)), .val (.int (1 : Int32)), .val (.int x0)] []))
  refine own_to (fun t k => XS.aloadN X20.here hx rfl (hb hby own_d10_10) rfl rfl k) ?_
  show own_Fin _ _ _ _ _ _ (T20.setTop (mkF m 11 #[.val (.ref a2), .val (.int (1 : Int32)), .val (.ref a3), .val (.int (1 : Int32)), .val (.int (2 : Int32)), .val (.int (1 : Int32)), .val (.int x0)] [(.ref a2)]))
  refine own_to (fun t k => XS.iloadN X20.here hx rfl (hb hby own_d10_11) rfl k) ?_
  show own_Fin _ _ _ _ _ _ (T20.setTop (mkF m 12 #[.val (.ref a2), .val (.int (1 : Int32)), .val (.ref a3), .val (.int (1 : Int32)), .val (.int (2 : Int32)), .val (.int (1 : Int32)), .val (.int x0)] [(.int (1 : Int32)), (.ref a2)]))
  obtain ⟨cl21, Ar21, qa21, Sa21, Na21, Ha21, Ga21⟩ := id V2_e20
  have hin22 : ¬ ((1 : Int32) < 0 ∨ cl21.slots.size ≤ ((1 : Int32)).toNatClampNeg) := inb_of Sa21 ⟨by decide, by decide⟩
  refine own_to (fun t k => X20.caload hx (j := (1 : Int32)) (v := (.int x1)) (by rw [e20]; exact Ar21.1) (State.isArrayOf_alike hZ.alike Ar21.2.1) Ar21.2.2 hin22 (Has.at Ha21 hin22 rfl) (g := (mkF m 12 #[.val (.ref a2), .val (.int (1 : Int32)), .val (.ref a3), .val (.int (1 : Int32)), .val (.int (2 : Int32)), .val (.int (1 : Int32)), .val (.int x0)] [(.int (1 : Int32)), (.ref a2)])) rfl rfl (hb hby own_d10_12) _ k) ?_
  show own_Fin _ _ _ _ _ _ (T20.setTop (mkF m 13 #[.val (.ref a2), .val (.int (1 : Int32)), .val (.ref a3), .val (.int (1 : Int32)), .val (.int (2 : Int32)), .val (.int (1 : Int32)), .val (.int x0)] [(.int x1)]))
  refine own_to (fun t k => XS.istore X20.here hx rfl (hb hby own_d10_13) rfl (l' := #[.val (.ref a2), .val (.int (1 : Int32)), .val (.ref a3), .val (.int (1 : Int32)), .val (.int (2 : Int32)), .val (.int (1 : Int32)), .val (.int x1)]) rfl k) ?_
  show own_Fin _ _ _ _ _ _ (T20.setTop (mkF m 15 #[.val (.ref a2), .val (.int (1 : Int32)), .val (.ref a3), .val (.int (1 : Int32)), .val (.int (2 : Int32)), .val (.int (1 : Int32)), .val (.int x1)] []))
  refine own_to (fun t k => XS.iload X20.here hx rfl (hb hby own_d10_15) rfl k) ?_
  show own_Fin _ _ _ _ _ _ (T20.setTop (mkF m 17 #[.val (.ref a2), .val (.int (1 : Int32)), .val (.ref a3), .val (.int (1 : Int32)), .val (.int (2 : Int32)), .val (.int (1 : Int32)), .val (.int x1)] [(.int x1)]))
  refine own_to (fun t k => XS.sipush X20.here hx rfl (hb hby own_d10_17) k) ?_
  show own_Fin _ _ _ _ _ _ (T20.setTop (mkF m 20 #[.val (.ref a2), .val (.int (1 : Int32)), .val (.ref a3), .val (.int (1 : Int32)), .val (.int (2 : Int32)), .val (.int (1 : Int32)), .val (.int x1)] [(.int (255 : Int32)), (.int x1)]))
  refine own_to (fun t k => XS.icmpYes X20.here hx rfl (pc0 := 20) (pc' := 26) rfl (hb hby own_d10_20) rfl (flt hx1).2.2.2 (by decide) (by decide) k) ?_
  show own_Fin _ _ _ _ _ _ (T20.setTop (mkF m 26 #[.val (.ref a2), .val (.int (1 : Int32)), .val (.ref a3), .val (.int (1 : Int32)), .val (.int (2 : Int32)), .val (.int (1 : Int32)), .val (.int x1)] []))
  refine own_to (fun t k => XS.aloadN X20.here hx rfl (hb hby own_d10_26) rfl rfl k) ?_
  show own_Fin _ _ _ _ _ _ (T20.setTop (mkF m 27 #[.val (.ref a2), .val (.int (1 : Int32)), .val (.ref a3), .val (.int (1 : Int32)), .val (.int (2 : Int32)), .val (.int (1 : Int32)), .val (.int x1)] [(.ref a3)]))
  refine own_to (fun t k => XS.iloadN X20.here hx rfl (hb hby own_d10_27) rfl k) ?_
  show own_Fin _ _ _ _ _ _ (T20.setTop (mkF m 28 #[.val (.ref a2), .val (.int (1 : Int32)), .val (.ref a3), .val (.int (1 : Int32)), .val (.int (2 : Int32)), .val (.int (1 : Int32)), .val (.int x1)] [(.int (1 : Int32)), (.ref a3)]))
  refine own_to (fun t k => XS.iload X20.here hx rfl (hb hby own_d10_28) rfl k) ?_
  show own_Fin _ _ _ _ _ _ (T20.setTop (mkF m 30 #[.val (.ref a2), .val (.int (1 : Int32)), .val (.ref a3), .val (.int (1 : Int32)), .val (.int (2 : Int32)), .val (.int (1 : Int32)), .val (.int x1)] [(.int x1), (.int (1 : Int32)), (.ref a3)]))
  refine own_to (fun t k => XS.i2b X20.here hx rfl (hb hby own_d10_30) rfl k) ?_
  show own_Fin _ _ _ _ _ _ (T20.setTop (mkF m 31 #[.val (.ref a2), .val (.int (1 : Int32)), .val (.ref a3), .val (.int (1 : Int32)), .val (.int (2 : Int32)), .val (.int (1 : Int32)), .val (.int x1)] [(.int (x1.toInt8.toInt32)), (.int (1 : Int32)), (.ref a3)]))
  obtain ⟨cl23, Ar23, qa23, Sa23, Na23, Ha23, Ga23⟩ := id V20
  have hin24 : ¬ ((1 : Int32) < 0 ∨ cl23.slots.size ≤ ((1 : Int32)).toNatClampNeg) := inb_of Sa23 ⟨by decide, by decide⟩
  obtain ⟨T24, h24, X24, e24, W24, st24⟩ := stB X20 hx hZ e20 Ar23 (j := (1 : Int32)) hin24 (g := (mkF m 31 #[.val (.ref a2), .val (.int (1 : Int32)), .val (.ref a3), .val (.int (1 : Int32)), .val (.int (2 : Int32)), .val (.int (1 : Int32)), .val (.int x1)] [(.int (x1.toInt8.toInt32)), (.int (1 : Int32)), (.ref a3)])) rfl rfl (hb hby own_d10_31)
  rw [own_idem _] at W24
  have N24 := Fr.snoc X24 N20 g_a3
  have KK24 : Keep h0 h24 [a3] := KK20.wr W24 (Or.inl (List.mem_of_getElem? (i := 0) rfl))
  have V2_e24 := V2_e20.other W24 ne23
  have V24 : Arv Z h24 a3 k3 .byte (2 : Int32) [(.int (x0.toInt8.toInt32)), (.int (x1.toInt8.toInt32))] (.int (0 : Int32)) := Arv.set Ar23 qa23 Sa23 Na23 Ha23 Ga23 (fits_nar_byte _) W24 1 rfl (Nat.le_of_ble_eq_true rfl)
  refine own_to (fun t k => st24 t k) ?_
  show own_Fin _ _ _ _ _ _ (T24.setTop (mkF m 32 #[.val (.ref a2), .val (.int (1 : Int32)), .val (.ref a3), .val (.int (1 : Int32)), .val (.int (2 : Int32)), .val (.int (1 : Int32)), .val (.int x1)] []))
  refine own_to (fun t k => XS.iinc X24.here hx rfl (hb hby own_d10_32) rfl (l' := #[.val (.ref a2), .val (.int (2 : Int32)), .val (.ref a3), .val (.int (1 : Int32)), .val (.int (2 : Int32)), .val (.int (1 : Int32)), .val (.int x1)]) rfl k) ?_
  show own_Fin _ _ _ _ _ _ (T24.setTop (mkF m 35 #[.val (.ref a2), .val (.int (2 : Int32)), .val (.ref a3), .val (.int (1 : Int32)), .val (.int (2 : Int32)), .val (.int (1 : Int32)), .val (.int x1)] []))
  refine own_to (fun t k => XS.iinc X24.here hx rfl (hb hby own_d10_35) rfl (l' := #[.val (.ref a2), .val (.int (2 : Int32)), .val (.ref a3), .val (.int (2 : Int32)), .val (.int (2 : Int32)), .val (.int (1 : Int32)), .val (.int x1)]) rfl k) ?_
  show own_Fin _ _ _ _ _ _ (T24.setTop (mkF m 38 #[.val (.ref a2), .val (.int (2 : Int32)), .val (.ref a3), .val (.int (2 : Int32)), .val (.int (2 : Int32)), .val (.int (1 : Int32)), .val (.int x1)] []))
  refine own_to (fun t k => XS.iinc X24.here hx rfl (hb hby own_d10_38) rfl (l' := #[.val (.ref a2), .val (.int (2 : Int32)), .val (.ref a3), .val (.int (2 : Int32)), .val (.int (2 : Int32)), .val (.int (2 : Int32)), .val (.int x1)]) rfl k) ?_
  show own_Fin _ _ _ _ _ _ (T24.setTop (mkF m 41 #[.val (.ref a2), .val (.int (2 : Int32)), .val (.ref a3), .val (.int (2 : Int32)), .val (.int (2 : Int32)), .val (.int (2 : Int32)), .val (.int x1)] []))
  refine own_to (fun t k => XS.goto X24.here hx rfl (pc0 := 41) (pc' := 3) rfl (hb hby own_d10_41) (by decide) (by decide) k) ?_
  show own_Fin _ _ _ _ _ _ (T24.setTop (mkF m 3 #[.val (.ref a2), .val (.int (2 : Int32)), .val (.ref a3), .val (.int (2 : Int32)), .val (.int (2 : Int32)), .val (.int (2 : Int32)), .val (.int x1)] []))
  refine own_to (fun t k => XS.iload X24.here hx rfl (hb hby own_d10_3) rfl k) ?_
  show own_Fin _ _ _ _ _ _ (T24.setTop (mkF m 5 #[.val (.ref a2), .val (.int (2 : Int32)), .val (.ref a3), .val (.int (2 : Int32)), .val (.int (2 : Int32)), .val (.int (2 : Int32)), .val (.int x1)] [(.int (2 : Int32))]))
  refine own_to (fun t k => XS.iload X24.here hx rfl (hb hby own_d10_5) rfl k) ?_
  show own_Fin _ _ _ _ _ _ (T24.setTop (mkF m 7 #[.val (.ref a2), .val (.int (2 : Int32)), .val (.ref a3), .val (.int (2 : Int32)), .val (.int (2 : Int32)), .val (.int (2 : Int32)), .val (.int x1)] [(.int (2 : Int32)), (.int (2 : Int32))]))
  refine own_to (fun t k => XS.icmpYes X24.here hx rfl (pc0 := 7) (pc' := 44) rfl (hb hby own_d10_7) rfl (flt (Int32.lt_irrefl)).2.1 (by decide) (by decide) k) ?_
  show own_Fin _ _ _ _ _ _ (T24.setTop (mkF m 44 #[.val (.ref a2), .val (.int (2 : Int32)), .val (.ref a3), .val (.int (2 : Int32)), .val (.int (2 : Int32)), .val (.int (2 : Int32)), .val (.int x1)] []))
  refine own_to (fun t k => XS.iload X24.here hx rfl (hb hby own_d10_44) rfl k) ?_
  show own_Fin _ _ _ _ _ _ (T24.setTop (mkF m 46 #[.val (.ref a2), .val (.int (2 : Int32)), .val (.ref a3), .val (.int (2 : Int32)), .val (.int (2 : Int32)), .val (.int (2 : Int32)), .val (.int x1)] [(.int (2 : Int32))]))
  refine own_retI X24 hx hlk hret (hb hby own_d10_46) (by decide) (by decide) ?_
  try rw [e24]
  exact ⟨rfl, N24, KK24, V24⟩
theorem own_cmp_2_ef (m : MethodId) (a2 : Addr) : entryFrame m #[(.ref a2), (.int (0 : Int32)), (.int (2 : Int32))] 6 = mkF m 0 #[.val (.ref a2), .val (.int (0 : Int32)), .val (.int (2 : Int32)), .unset, .unset, .unset] [] := by first | (simp [entryFrame, mkF, argsToLocals, Value.category]; done) | rfl
set_option maxRecDepth 65536 in
set_option maxHeartbeats 40000000 in
theorem own_cmp_2 (l : Launch) (Z : State) (a0 : Array Value) (hw : ∀ d ∈ tables_1, d.before a0 Z = true) (ws : List Jvm.Cond) (a2 : Addr) (k2 : ClassId) (x0 : Int32) (x1 : Int32) (h0 : Heap) (n0 : Nat) (Z0 : n0 ≤ h0.size) (V2 : Arv Z h0 a2 k2 .char (2 : Int32) [(.int x0), (.int x1)] (.int (0 : Int32))) (hx0 : ¬ (255 : Int32) < x0) (hx1 : ¬ (255 : Int32) < x1) :
    own_Met l Z (⟨"java/lang/StringUTF16", "compress", "([CII)[B"⟩ : MethodName) jdk_52_method_16_code 6 (some (.array .byte)) ws ({ frames := 1, cells := 1, slots := 2, locals := 24 } : Room) #[(.ref a2), (.int (0 : Int32)), (.int (2 : Int32))] h0 (fun v h L => ∃ d k3, v = some (.ref d) ∧ Fr n0 L ∧ Keep h0 h [] ∧ n0 ≤ d ∧ h0.size ≤ d ∧ Arv Z h d k3 .byte (2 : Int32) [(.int (x0.toInt8.toInt32)), (.int (x1.toInt8.toInt32))] (.int (0 : Int32))) := by
  refine own_enter (plainFor_of_name own_pn0) ?_
  intro p e s m below meth c s₁ X0 hx hZ hby hml hown hnm hret hlk e0
  have N0 := Fr.nil n0
  rw [own_cmp_2_ef m a2]
  have KK0 : Keep h0 h0 [] := Keep.refl _ _
  show own_Fin _ _ _ _ _ _ (s₁.setTop (mkF m 0 #[.val (.ref a2), .val (.int (0 : Int32)), .val (.int (2 : Int32)), .unset, .unset, .unset] []))
  refine own_to (fun t k => XS.iloadN X0.here hx rfl (hb hby own_d9_0) rfl k) ?_
  show own_Fin _ _ _ _ _ _ (s₁.setTop (mkF m 1 #[.val (.ref a2), .val (.int (0 : Int32)), .val (.int (2 : Int32)), .unset, .unset, .unset] [(.int (2 : Int32))]))
  obtain ⟨T25, h25, k25, X25, e25, E25, A25, A25x, st25⟩ := newPE X0 hx hZ (hw _ (List.mem_of_getElem? (i := 55) rfl)) e0 (g := (mkF m 1 #[.val (.ref a2), .val (.int (0 : Int32)), .val (.int (2 : Int32)), .unset, .unset, .unset] [(.int (2 : Int32))])) rfl (hb hby own_d9_1) rfl (by decide) (cap := 2) (by decide) (by decide) (by decide) (by decide) (ad := "[B") (by decide)
  obtain ⟨bd, q25⟩ : ∃ z, z = h0.size := ⟨_, rfl⟩
  rw [← q25] at A25 A25x st25
  have ne_a2_bd : a2 ≠ bd := Nat.ne_of_lt (Nat.lt_of_lt_of_le V2.lt (Nat.le_of_eq q25.symm))
  have g_bd : n0 ≤ bd := Nat.le_trans Z0 (Nat.le_of_eq q25.symm)
  have sz_bd : h0.size ≤ bd := Nat.le_trans KK0.1 (Nat.le_of_eq q25.symm)
  have KK25 : Keep h0 h25 [] := KK0.ext E25
  have V2_e25 := V2.ext E25
  have V25 := Arv.new A25 (by decide)
  refine own_to (fun t k => st25 t k) ?_
  show own_Fin _ _ _ _ _ _ (T25.setTop (mkF m 3 #[.val (.ref a2), .val (.int (0 : Int32)), .val (.int (2 : Int32)), .unset, .unset, .unset] [(.ref bd)]))
  refine own_to (fun t k => XS.astoreN X25.here hx rfl (hb hby own_d9_3) rfl rfl (l' := #[.val (.ref a2), .val (.int (0 : Int32)), .val (.int (2 : Int32)), .val (.ref bd), .unset, .unset]) rfl k) ?_
  show own_Fin _ _ _ _ _ _ (T25.setTop (mkF m 4 #[.val (.ref a2), .val (.int (0 : Int32)), .val (.int (2 : Int32)), .val (.ref bd), .unset, .unset] []))
  refine own_to (fun t k => XS.aloadN X25.here hx rfl (hb hby own_d9_4) rfl rfl k) ?_
  show own_Fin _ _ _ _ _ _ (T25.setTop (mkF m 5 #[.val (.ref a2), .val (.int (0 : Int32)), .val (.int (2 : Int32)), .val (.ref bd), .unset, .unset] [(.ref a2)]))
  refine own_to (fun t k => XS.iloadN X25.here hx rfl (hb hby own_d9_5) rfl k) ?_
  show own_Fin _ _ _ _ _ _ (T25.setTop (mkF m 6 #[.val (.ref a2), .val (.int (0 : Int32)), .val (.int (2 : Int32)), .val (.ref bd), .unset, .unset] [(.int (0 : Int32)), (.ref a2)]))
  refine own_to (fun t k => XS.aloadN X25.here hx rfl (hb hby own_d9_6) rfl rfl k) ?_
  show own_Fin _ _ _ _ _ _ (T25.setTop (mkF m 7 #[.val (.ref a2), .val (.int (0 : Int32)), .val (.int (2 : Int32)), .val (.ref bd), .unset, .unset] [(.ref bd), (.int (0 : Int32)), (.ref a2)]))
  refine own_to (fun t k => XS.iconst X25.here hx rfl (hb hby own_d9_7) k) ?_
  show own_Fin _ _ _ _ _ _ (T25.setTop (mkF m 8 #[.val (.ref a2), .val (.int (0 : Int32)), .val (.int (2 : Int32)), .val (.ref bd), .unset, .unset] [(.int (0 : Int32)), (.ref bd), (.int (0 : Int32)), (.ref a2)]))
  refine own_to (fun t k => XS.iloadN X25.here hx rfl (hb hby own_d9_8) rfl k) ?_
  show own_Fin _ _ _ _ _ _ (T25.setTop (mkF m 9 #[.val (.ref a2), .val (.int (0 : Int32)), .val (.int (2 : Int32)), .val (.ref bd), .unset, .unset] [(.int (2 : Int32)), (.int (0 : Int32)), (.ref bd), (.int (0 : Int32)), (.ref a2)]))
  have V26p : Arv Z h25 bd k25 .byte (2 : Int32) [(.int (0 : Int32)), (.int (0 : Int32))] (.int (0 : Int32)) := V25.pad (pad_rep [] (.int (0 : Int32)) 2)
  obtain ⟨_, _, ⟨T27, L27, k27, n27⟩, -, X27, ⟨Lc27, hQ27, l27, y27, z27⟩, st27⟩ := Jvm.LawKit.callS X25 hx (y := (⟨"java/lang/StringUTF16", "compress", "([CI[BII)I"⟩ : MethodName)) hown (mvT hZ (hw _ (List.mem_of_getElem? (i := 56) rfl))) (mvT hZ (hw _ (List.mem_of_getElem? (i := 57) rfl))) (mvT hZ (hw _ (List.mem_of_getElem? (i := 53) rfl))) (mvT hZ (hw _ (List.mem_of_getElem? (i := 58) rfl))) (by decide) (own_back (W := 0) (own_cmp2_2 l Z a0 hw [] a2 bd k2 k25 x0 x1 h25 n0 (Nat.le_trans Z0 E25.1) V2_e25 V26p g_bd ne_a2_bd hx0 hx1) hZ (hw _ (List.mem_of_getElem? (i := 58) rfl)) (hw _ (List.mem_of_getElem? (i := 53) rfl)) (by decide) (by decide)) (g := (mkF m 9 #[.val (.ref a2), .val (.int (0 : Int32)), .val (.int (2 : Int32)), .val (.ref bd), .unset, .unset] [(.int (2 : Int32)), (.int (0 : Int32)), (.ref bd), (.int (0 : Int32)), (.ref a2)])) rfl (by rw [hml]; rfl) (argsL := [(.ref a2), (.int (0 : Int32)), (.ref bd), (.int (0 : Int32)), (.int (2 : Int32))]) (rest := []) (lenOf own_pd0 rfl) rfl (by show 2 * 0 + _ ≤ _; exact Nat.le_of_eq rfl) (hb hby own_d9_9) (fun _ _ => ⟨rfl, e25, (by decide : 1 + 0 ≤ _), (by decide : 2 + 0 ≤ _)⟩)
  dsimp only [Pt.U, Pt.locs, Pt.cells, Pt.slots] at X27 l27 y27 z27 st27 hQ27
  subst l27 y27 z27
  obtain ⟨rfl, N27q, K27, Vd27⟩ := hQ27
  have N27 := Fr.app N0 N27q
  have KK27 : Keep h0 T27.heap [] := KK25.trans K27 (allS (Or.inr sz_bd) all0)
  have V2_e27 := V2_e25.keep K27 (ninS ne_a2_bd nin0)
  have A25x_e27 := A25x.keep K27
  refine own_to (fun t k => st27 t k) ?_
  show own_Fin _ _ _ _ _ _ (T27.setTop (mkF m 12 #[.val (.ref a2), .val (.int (0 : Int32)), .val (.int (2 : Int32)), .val (.ref bd), .unset, .unset] [(.int (2 : Int32))]))
  refine own_to (fun t k => XS.istore X27.here hx rfl (hb hby own_d9_12) rfl (l' := #[.val (.ref a2), .val (.int (0 : Int32)), .val (.int (2 : Int32)), .val (.ref bd), .val (.int (2 : Int32)), .unset]) rfl k) ?_
  show own_Fin _ _ _ _ _ _ (T27.setTop (mkF m 14 #[.val (.ref a2), .val (.int (0 : Int32)), .val (.int (2 : Int32)), .val (.ref bd), .val (.int (2 : Int32)), .unset] []))
  refine own_to (fun t k => XS.iload X27.here hx rfl (hb hby own_d9_14) rfl k) ?_
  show own_Fin _ _ _ _ _ _ (T27.setTop (mkF m 16 #[.val (.ref a2), .val (.int (0 : Int32)), .val (.int (2 : Int32)), .val (.ref bd), .val (.int (2 : Int32)), .unset] [(.int (2 : Int32))]))
  refine own_to (fun t k => XS.iloadN X27.here hx rfl (hb hby own_d9_16) rfl k) ?_
  show own_Fin _ _ _ _ _ _ (T27.setTop (mkF m 17 #[.val (.ref a2), .val (.int (0 : Int32)), .val (.int (2 : Int32)), .val (.ref bd), .val (.int (2 : Int32)), .unset] [(.int (2 : Int32)), (.int (2 : Int32))]))
  refine own_to (fun t k => XS.icmpYes X27.here hx rfl (pc0 := 17) (pc' := 57) rfl (hb hby own_d9_17) rfl (teq rfl).1 (by decide) (by decide) k) ?_
  show own_Fin _ _ _ _ _ _ (T27.setTop (mkF m 57 #[.val (.ref a2), .val (.int (0 : Int32)), .val (.int (2 : Int32)), .val (.ref bd), .val (.int (2 : Int32)), .unset] []))
  refine own_to (fun t k => XS.aloadN X27.here hx rfl (hb hby own_d9_57) rfl rfl k) ?_
  show own_Fin _ _ _ _ _ _ (T27.setTop (mkF m 58 #[.val (.ref a2), .val (.int (0 : Int32)), .val (.int (2 : Int32)), .val (.ref bd), .val (.int (2 : Int32)), .unset] [(.ref bd)]))
  refine own_retR X27 hx hlk hret rfl rfl rfl (hb hby own_d9_58) (by decide) (by decide) ?_
  exact ⟨bd, k25, rfl, N27, KK27, g_bd, sz_bd, Vd27⟩
theorem own_cod_2_ef (m : MethodId) (a2 : Addr) : entryFrame m #[(.ref a2), (.int (2 : Int32))] 2 = mkF m 0 #[.val (.ref a2), .val (.int (2 : Int32))] [] := by first | (simp [entryFrame, mkF, argsToLocals, Value.category]; done) | rfl
set_option maxRecDepth 65536 in
set_option maxHeartbeats 40000000 in
theorem own_cod_2 (l : Launch) (Z : State) (a0 : Array Value) (hw : ∀ d ∈ tables_1, d.before a0 Z = true) (ws : List Jvm.Cond) (a2 : Addr) (k3 : ClassId) (x0 : Int32) (x1 : Int32) (h0 : Heap) (n0 : Nat) (Z0 : n0 ≤ h0.size) (V2 : Arv Z h0 a2 k3 .byte (2 : Int32) [(.int (x0.toInt8.toInt32)), (.int (x1.toInt8.toInt32))] (.int (0 : Int32))) :
    own_Met l Z (⟨"java/lang/StringUTF16", "coderFromArrayLen", "([BI)B"⟩ : MethodName) jdk_52_method_15_code 2 (some .byte) ws ({ frames := 0, cells := 0, slots := 0, locals := 0 } : Room) #[(.ref a2), (.int (2 : Int32))] h0 (fun v h L => v = some (.int (0 : Int32)) ∧ Fr n0 L ∧ h = h0) := by
  refine own_enter (plainFor_of_name own_pn0) ?_
  intro p e s m below meth c s₁ X0 hx hZ hby hml hown hnm hret hlk e0
  have N0 := Fr.nil n0
  rw [own_cod_2_ef m a2]
  show own_Fin _ _ _ _ _ _ (s₁.setTop (mkF m 0 #[.val (.ref a2), .val (.int (2 : Int32))] []))
  refine own_to (fun t k => XS.iloadN X0.here hx rfl (hb hby own_d11_0) rfl k) ?_
  show own_Fin _ _ _ _ _ _ (s₁.setTop (mkF m 1 #[.val (.ref a2), .val (.int (2 : Int32))] [(.int (2 : Int32))]))
  refine own_to (fun t k => XS.aloadN X0.here hx rfl (hb hby own_d11_1) rfl rfl k) ?_
  show own_Fin _ _ _ _ _ _ (s₁.setTop (mkF m 2 #[.val (.ref a2), .val (.int (2 : Int32))] [(.ref a2), (.int (2 : Int32))]))
  obtain ⟨cl28, Ar28, qa28, Sa28, Na28, Ha28, Ga28⟩ := id V2
  refine own_to (fun t k => X0.arraylength hx (by rw [e0]; exact Ar28.1) (State.isArrayOf_alike hZ.alike Ar28.2.1) (g := (mkF m 2 #[.val (.ref a2), .val (.int (2 : Int32))] [(.ref a2), (.int (2 : Int32))])) rfl rfl (hb hby own_d11_2) _ k) ?_
  rw [len_of Sa28 Na28]
  show own_Fin _ _ _ _ _ _ (s₁.setTop (mkF m 3 #[.val (.ref a2), .val (.int (2 : Int32))] [(.int (2 : Int32)), (.int (2 : Int32))]))
  refine own_to (fun t k => XS.isub X0.here hx rfl (hb hby own_d11_3) rfl k) ?_
  show own_Fin _ _ _ _ _ _ (s₁.setTop (mkF m 4 #[.val (.ref a2), .val (.int (2 : Int32))] [(.int (0 : Int32))]))
  refine own_to (fun t k => XS.bipush X0.here hx rfl (hb hby own_d11_4) k) ?_
  show own_Fin _ _ _ _ _ _ (s₁.setTop (mkF m 6 #[.val (.ref a2), .val (.int (2 : Int32))] [(.int (31 : Int32)), (.int (0 : Int32))]))
  refine own_to (fun t k => XS.iushr X0.here hx rfl (hb hby own_d11_6) rfl k) ?_
  show own_Fin _ _ _ _ _ _ (s₁.setTop (mkF m 7 #[.val (.ref a2), .val (.int (2 : Int32))] [(.int (0 : Int32))]))
  refine own_to (fun t k => XS.i2b X0.here hx rfl (hb hby own_d11_7) rfl k) ?_
  show own_Fin _ _ _ _ _ _ (s₁.setTop (mkF m 8 #[.val (.ref a2), .val (.int (2 : Int32))] [(.int (0 : Int32))]))
  refine own_retN X0 hx hlk (t := .byte) hret (by simp) (hb hby own_d11_8) (by decide) (by decide) ?_
  try rw [e0]
  exact ⟨rfl, N0, rfl⟩
theorem own_initI_2_ef (m : MethodId) (a1 : Addr) (a2 : Addr) : entryFrame m #[(.ref a1), (.ref a2), (.int (0 : Int32)), (.int (2 : Int32)), .null] 6 = mkF m 0 #[.val (.ref a1), .val (.ref a2), .val (.int (0 : Int32)), .val (.int (2 : Int32)), .val .null, .unset] [] := by first | (simp [entryFrame, mkF, argsToLocals, Value.category]; done) | rfl
set_option maxRecDepth 65536 in
set_option maxHeartbeats 40000000 in
theorem own_initI_2 (l : Launch) (Z : State) (a0 : Array Value) (hw : ∀ d ∈ tables_1, d.before a0 Z = true) (ws : List Jvm.Cond) (cs : Int32) (a1 : Addr) (a2 : Addr) (k2 : ClassId) (x0 : Int32) (x1 : Int32) (h0 : Heap) (n0 : Nat) (Z0 : n0 ≤ h0.size) (O0 : Old Z n0 h0) (SS : Sta Z Z.heap "java/lang/String" "COMPACT_STRINGS" "Z" (.int cs)) (hcs : ¬ cs = (0 : Int32)) (E1 : Exa Z h0 a1 "java/lang/String") (F1 : Fld Z h0 a1 "java/lang/String" "value" "[B" .null) (F2 : Fld Z h0 a1 "java/lang/String" "coder" "B" (.int (0 : Int32))) (g_a1 : n0 ≤ a1) (V2 : Arv Z h0 a2 k2 .char (2 : Int32) [(.int x0), (.int x1)] (.int (0 : Int32))) (ne12 : a1 ≠ a2) (hx0 : ¬ (255 : Int32) < x0) (hx1 : ¬ (255 : Int32) < x1) :
    own_Met l Z (⟨"java/lang/String", "<init>", "([CIILjava/lang/Void;)V"⟩ : MethodName) jdk_42_method_149_code 6 none ws ({ frames := 2, cells := 1, slots := 2, locals := 48 } : Room) #[(.ref a1), (.ref a2), (.int (0 : Int32)), (.int (2 : Int32)), .null] h0 (fun v h L => v = none ∧ Fr n0 L ∧ Keep h0 h [a1]) := by
  refine own_enter (plainFor_of_name own_pn1) ?_
  intro p e s m below meth c s₁ X0 hx hZ hby hml hown hnm hret hlk e0
  have N0 := Fr.nil n0
  rw [own_initI_2_ef m a1 a2]
  have KK0 : Keep h0 h0 [a1] := Keep.refl _ _
  show own_Fin _ _ _ _ _ _ (s₁.setTop (mkF m 0 #[.val (.ref a1), .val (.ref a2), .val (.int (0 : Int32)), .val (.int (2 : Int32)), .val .null, .unset] []))
  refine own_to (fun t k => XS.aloadN X0.here hx rfl (hb hby own_d8_0) rfl rfl k) ?_
  show own_Fin _ _ _ _ _ _ (s₁.setTop (mkF m 1 #[.val (.ref a1), .val (.ref a2), .val (.int (0 : Int32)), .val (.int (2 : Int32)), .val .null, .unset] [(.ref a1)]))
  obtain ⟨T29, X29, e29, st29⟩ := initO X0 hx hZ hown (hw _ (List.mem_of_getElem? (i := 49) rfl)) (hw _ (List.mem_of_getElem? (i := 19) rfl)) (hw _ (List.mem_of_getElem? (i := 20) rfl)) e0 (g := (mkF m 1 #[.val (.ref a1), .val (.ref a2), .val (.int (0 : Int32)), .val (.int (2 : Int32)), .val .null, .unset] [(.ref a1)])) rfl (by rw [hml]; rfl) rfl (hb hby own_d8_1) (by decide) (W := 0) (by show 2 * 0 + _ ≤ _; exact Nat.le_of_eq rfl) (by decide)
  refine own_to (fun t k => st29 t k) ?_
  show own_Fin _ _ _ _ _ _ (T29.setTop (mkF m 4 #[.val (.ref a1), .val (.ref a2), .val (.int (0 : Int32)), .val (.int (2 : Int32)), .val .null, .unset] []))
  refine own_to (fun t k => XS.iloadN X29.here hx rfl (hb hby own_d8_4) rfl k) ?_
  show own_Fin _ _ _ _ _ _ (T29.setTop (mkF m 5 #[.val (.ref a1), .val (.ref a2), .val (.int (0 : Int32)), .val (.int (2 : Int32)), .val .null, .unset] [(.int (2 : Int32))]))
  refine own_to (fun t k => XS.ifYes X29.here hx rfl (pc0 := 5) (pc' := 27) rfl (hb hby own_d8_5) rfl ((if0 _ _).trans (feq (by decide)).2) (by decide) (by decide) k) ?_
  show own_Fin _ _ _ _ _ _ (T29.setTop (mkF m 27 #[.val (.ref a1), .val (.ref a2), .val (.int (0 : Int32)), .val (.int (2 : Int32)), .val .null, .unset] []))
  obtain ⟨T30, X30, e30, st30⟩ := getS2 X29 hx hZ hown (host := "") (Or.inl (hw _ (List.mem_of_getElem? (i := 50) rfl))) Via.refl e29 (SS.ext O0.2) (g := (mkF m 27 #[.val (.ref a1), .val (.ref a2), .val (.int (0 : Int32)), .val (.int (2 : Int32)), .val .null, .unset] [])) rfl (hb hby own_d8_27)
  refine own_to (fun t k => st30 t k) ?_
  show own_Fin _ _ _ _ _ _ (T30.setTop (mkF m 30 #[.val (.ref a1), .val (.ref a2), .val (.int (0 : Int32)), .val (.int (2 : Int32)), .val .null, .unset] [(.int cs)]))
  refine own_to (fun t k => XS.ifNo X30.here hx rfl (hb hby own_d8_30) rfl ((if0 _ _).trans (feq hcs).1) k) ?_
  show own_Fin _ _ _ _ _ _ (T30.setTop (mkF m 33 #[.val (.ref a1), .val (.ref a2), .val (.int (0 : Int32)), .val (.int (2 : Int32)), .val .null, .unset] []))
  refine own_to (fun t k => XS.aloadN X30.here hx rfl (hb hby own_d8_33) rfl rfl k) ?_
  show own_Fin _ _ _ _ _ _ (T30.setTop (mkF m 34 #[.val (.ref a1), .val (.ref a2), .val (.int (0 : Int32)), .val (.int (2 : Int32)), .val .null, .unset] [(.ref a2)]))
  refine own_to (fun t k => XS.iloadN X30.here hx rfl (hb hby own_d8_34) rfl k) ?_
  show own_Fin _ _ _ _ _ _ (T30.setTop (mkF m 35 #[.val (.ref a1), .val (.ref a2), .val (.int (0 : Int32)), .val (.int (2 : Int32)), .val .null, .unset] [(.int (0 : Int32)), (.ref a2)]))
  refine own_to (fun t k => XS.iloadN X30.here hx rfl (hb hby own_d8_35) rfl k) ?_
  show own_Fin _ _ _ _ _ _ (T30.setTop (mkF m 36 #[.val (.ref a1), .val (.ref a2), .val (.int (0 : Int32)), .val (.int (2 : Int32)), .val .null, .unset] [(.int (2 : Int32)), (.int (0 : Int32)), (.ref a2)]))
  obtain ⟨_, _, ⟨T31, L31, k31, n31⟩, -, X31, ⟨Lc31, hQ31, l31, y31, z31⟩, st31⟩ := Jvm.LawKit.callS X30 hx (y := (⟨"java/lang/StringUTF16", "compress", "([CII)[B"⟩ : MethodName)) hown (mvT hZ (hw _ (List.mem_of_getElem? (i := 51) rfl))) (mvT hZ (hw _ (List.mem_of_getElem? (i := 52) rfl))) (mvT hZ (hw _ (List.mem_of_getElem? (i := 53) rfl))) (mvT hZ (hw _ (List.mem_of_getElem? (i := 54) rfl))) (by decide) (own_back (W := 0) (own_cmp_2 l Z a0 hw [] a2 k2 x0 x1 h0 n0 Z0 V2 hx0 hx1) hZ (hw _ (List.mem_of_getElem? (i := 54) rfl)) (hw _ (List.mem_of_getElem? (i := 53) rfl)) (by decide) (by decide)) (g := (mkF m 36 #[.val (.ref a1), .val (.ref a2), .val (.int (0 : Int32)), .val (.int (2 : Int32)), .val .null, .unset] [(.int (2 : Int32)), (.int (0 : Int32)), (.ref a2)])) rfl (by rw [hml]; rfl) (argsL := [(.ref a2), (.int (0 : Int32)), (.int (2 : Int32))]) (rest := []) (lenOf own_pd2 rfl) rfl (by show 2 * 0 + _ ≤ _; exact Nat.le_of_eq rfl) (hb hby own_d8_36) (fun _ _ => ⟨rfl, e30, (by decide : 0 + 1 ≤ _), (by decide : 0 + 2 ≤ _)⟩)
  dsimp only [Pt.U, Pt.locs, Pt.cells, Pt.slots] at X31 l31 y31 z31 st31 hQ31
  subst l31 y31 z31
  obtain ⟨d, k3, rfl, N31q, K31, g_d, szd, V_d⟩ := hQ31
  have N31 := Fr.app N0 N31q
  have ne_a1_d : a1 ≠ d := Nat.ne_of_lt (Nat.lt_of_lt_of_le E1.lt szd)
  have ne_a2_d : a2 ≠ d := Nat.ne_of_lt (Nat.lt_of_lt_of_le V2.lt szd)
  have sz_d : h0.size ≤ d := Nat.le_trans KK0.1 szd
  have O31 := O0.keep K31 all0
  have KK31 : Keep h0 T31.heap [a1] := KK0.trans K31 all0
  have E1_e31 := E1.keep K31
  have F1_e31 := F1.keep K31 nin0
  have F2_e31 := F2.keep K31 nin0
  have V2_e31 := V2.keep K31 nin0
  refine own_to (fun t k => st31 t k) ?_
  show own_Fin _ _ _ _ _ _ (T31.setTop (mkF m 39 #[.val (.ref a1), .val (.ref a2), .val (.int (0 : Int32)), .val (.int (2 : Int32)), .val .null, .unset] [(.ref d)]))
  refine own_to (fun t k => XS.astore X31.here hx rfl (hb hby own_d8_39) rfl rfl (l' := #[.val (.ref a1), .val (.ref a2), .val (.int (0 : Int32)), .val (.int (2 : Int32)), .val .null, .val (.ref d)]) rfl k) ?_
  show own_Fin _ _ _ _ _ _ (T31.setTop (mkF m 41 #[.val (.ref a1), .val (.ref a2), .val (.int (0 : Int32)), .val (.int (2 : Int32)), .val .null, .val (.ref d)] []))
  refine own_to (fun t k => XS.aloadN X31.here hx rfl (hb hby own_d8_41) rfl rfl k) ?_
  show own_Fin _ _ _ _ _ _ (T31.setTop (mkF m 42 #[.val (.ref a1), .val (.ref a2), .val (.int (0 : Int32)), .val (.int (2 : Int32)), .val .null, .val (.ref d)] [(.ref a1)]))
  refine own_to (fun t k => XS.aload X31.here hx rfl (hb hby own_d8_42) rfl rfl k) ?_
  show own_Fin _ _ _ _ _ _ (T31.setTop (mkF m 44 #[.val (.ref a1), .val (.ref a2), .val (.int (0 : Int32)), .val (.int (2 : Int32)), .val .null, .val (.ref d)] [(.ref d), (.ref a1)]))
  refine own_to (fun t k => XS.iloadN X31.here hx rfl (hb hby own_d8_44) rfl k) ?_
  show own_Fin _ _ _ _ _ _ (T31.setTop (mkF m 45 #[.val (.ref a1), .val (.ref a2), .val (.int (0 : Int32)), .val (.int (2 : Int32)), .val .null, .val (.ref d)] [(.int (2 : Int32)), (.ref d), (.ref a1)]))
  obtain ⟨_, _, ⟨T32, L32, k32, n32⟩, -, X32, ⟨Lc32, hQ32, l32, y32, z32⟩, st32⟩ := Jvm.LawKit.callS X31 hx (y := (⟨"java/lang/StringUTF16", "coderFromArrayLen", "([BI)B"⟩ : MethodName)) hown (mvT hZ (hw _ (List.mem_of_getElem? (i := 59) rfl))) (mvT hZ (hw _ (List.mem_of_getElem? (i := 60) rfl))) (mvT hZ (hw _ (List.mem_of_getElem? (i := 53) rfl))) (mvT hZ (hw _ (List.mem_of_getElem? (i := 61) rfl))) (by decide) (own_back (W := 1) (own_cod_2 l Z a0 hw [] d k3 x0 x1 T31.heap n0 (Nat.le_trans Z0 K31.1) V_d) hZ (hw _ (List.mem_of_getElem? (i := 61) rfl)) (hw _ (List.mem_of_getElem? (i := 53) rfl)) (by decide) (by decide)) (g := (mkF m 45 #[.val (.ref a1), .val (.ref a2), .val (.int (0 : Int32)), .val (.int (2 : Int32)), .val .null, .val (.ref d)] [(.int (2 : Int32)), (.ref d), (.ref a1)])) rfl (by rw [hml]; rfl) (argsL := [(.ref d), (.int (2 : Int32))]) (rest := [(.ref a1)]) (lenOf own_pd3 rfl) rfl (by show 2 * 0 + _ ≤ _; exact Nat.le_of_eq rfl) (hb hby own_d8_45) (fun _ _ => ⟨rfl, rfl, (by decide : 1 + 0 ≤ _), (by decide : 2 + 0 ≤ _)⟩)
  dsimp only [Pt.U, Pt.locs, Pt.cells, Pt.slots] at X32 l32 y32 z32 st32 hQ32
  subst l32 y32 z32
  obtain ⟨rfl, N32q, eh32⟩ := hQ32
  have N32 := Fr.app N31 N32q
  refine own_to (fun t k => st32 t k) ?_
  show own_Fin _ _ _ _ _ _ (T32.setTop (mkF m 48 #[.val (.ref a1), .val (.ref a2), .val (.int (0 : Int32)), .val (.int (2 : Int32)), .val .null, .val (.ref d)] [(.int (0 : Int32)), (.ref a1)]))
  obtain ⟨T33, h33, X33, e33, W33, st33⟩ := putFN X32 hx hZ hown (hw _ (List.mem_of_getElem? (i := 62) rfl)) Via.refl eh32 F2_e31 E1_e31 (Or.inr ⟨(hw _ (List.mem_of_getElem? (i := 63) rfl)), rfl, hnm⟩) (hw _ (List.mem_of_getElem? (i := 39) rfl)) (ty := .byte) (v' := (.int (0 : Int32))) (by decide) rfl rfl (g := (mkF m 48 #[.val (.ref a1), .val (.ref a2), .val (.int (0 : Int32)), .val (.int (2 : Int32)), .val .null, .val (.ref d)] [(.int (0 : Int32)), (.ref a1)])) rfl rfl (hb hby own_d8_48)
  have Fw33 := F2_e31.same W33
  have N33 := Fr.snoc X33 N32 g_a1
  have O33 := O31.wr W33 g_a1
  have KK33 : Keep h0 h33 [a1] := KK31.wr W33 (Or.inl (List.mem_of_getElem? (i := 0) rfl))
  have E1_e33 := E1_e31.wr W33
  have F1_e33 := F1_e31.other W33 (Or.inr (slot_ne (Or.inr (hw _ (List.mem_of_getElem? (i := 65) rfl))) (Or.inr (hw _ (List.mem_of_getElem? (i := 63) rfl))) (by decide) (t := (.array .byte)) (t' := .byte) (by decide) (by decide)))
  have V2_e33 := V2_e31.other W33 (Ne.symm ne12)
  have V_d_e33 := V_d.other W33 (Ne.symm ne_a1_d)
  refine own_to (fun t k => st33 t k) ?_
  show own_Fin _ _ _ _ _ _ (T33.setTop (mkF m 51 #[.val (.ref a1), .val (.ref a2), .val (.int (0 : Int32)), .val (.int (2 : Int32)), .val .null, .val (.ref d)] []))
  refine own_to (fun t k => XS.aloadN X33.here hx rfl (hb hby own_d8_51) rfl rfl k) ?_
  show own_Fin _ _ _ _ _ _ (T33.setTop (mkF m 52 #[.val (.ref a1), .val (.ref a2), .val (.int (0 : Int32)), .val (.int (2 : Int32)), .val .null, .val (.ref d)] [(.ref a1)]))
  refine own_to (fun t k => XS.aload X33.here hx rfl (hb hby own_d8_52) rfl rfl k) ?_
  show own_Fin _ _ _ _ _ _ (T33.setTop (mkF m 54 #[.val (.ref a1), .val (.ref a2), .val (.int (0 : Int32)), .val (.int (2 : Int32)), .val .null, .val (.ref d)] [(.ref d), (.ref a1)]))
  obtain ⟨T34, h34, X34, e34, W34, st34⟩ := putF X33 hx hZ hown (host := "") (Or.inl (hw _ (List.mem_of_getElem? (i := 64) rfl))) Via.refl e33 F1_e33 E1_e33 (Or.inr ⟨(hw _ (List.mem_of_getElem? (i := 65) rfl)), rfl, hnm⟩) (hw _ (List.mem_of_getElem? (i := 39) rfl)) (ty := (.array .byte)) (by decide) rfl rfl (g := (mkF m 54 #[.val (.ref a1), .val (.ref a2), .val (.int (0 : Int32)), .val (.int (2 : Int32)), .val .null, .val (.ref d)] [(.ref d), (.ref a1)])) rfl rfl (hb hby own_d8_54)
  have Fw34 := F1_e33.same W34
  have N34 := Fr.snoc X34 N33 g_a1
  have O34 := O33.wr W34 g_a1
  have KK34 : Keep h0 h34 [a1] := KK33.wr W34 (Or.inl (List.mem_of_getElem? (i := 0) rfl))
  have E1_e34 := E1_e33.wr W34
  have Fw33_e34 := Fw33.other W34 (Or.inr (slot_ne (Or.inr (hw _ (List.mem_of_getElem? (i := 63) rfl))) (Or.inr (hw _ (List.mem_of_getElem? (i := 65) rfl))) (by decide) (t := .byte) (t' := (.array .byte)) (by decide) (by decide)))
  have V2_e34 := V2_e33.other W34 (Ne.symm ne12)
  have V_d_e34 := V_d_e33.other W34 (Ne.symm ne_a1_d)
  refine own_to (fun t k => st34 t k) ?_
  show own_Fin _ _ _ _ _ _ (T34.setTop (mkF m 57 #[.val (.ref a1), .val (.ref a2), .val (.int (0 : Int32)), .val (.int (2 : Int32)), .val .null, .val (.ref d)] []))
  refine own_retV X34 hx hlk hret (hb hby own_d8_57) (by decide) (by decide) ?_
  try rw [e34]
  exact ⟨rfl, N34, KK34⟩
theorem own_init_2_ef (m : MethodId) (a1 : Addr) (a2 : Addr) : entryFrame m #[(.ref a1), (.ref a2)] 2 = mkF m 0 #[.val (.ref a1), .val (.ref a2)] [] := by first | (simp [entryFrame, mkF, argsToLocals, Value.category]; done) | rfl
set_option maxRecDepth 65536 in
set_option maxHeartbeats 40000000 in
theorem own_init_2 (l : Launch) (Z : State) (a0 : Array Value) (hw : ∀ d ∈ tables_1, d.before a0 Z = true) (ws : List Jvm.Cond) (cs : Int32) (a1 : Addr) (a2 : Addr) (k2 : ClassId) (x0 : Int32) (x1 : Int32) (h0 : Heap) (n0 : Nat) (Z0 : n0 ≤ h0.size) (O0 : Old Z n0 h0) (SS : Sta Z Z.heap "java/lang/String" "COMPACT_STRINGS" "Z" (.int cs)) (hcs : ¬ cs = (0 : Int32)) (E1 : Exa Z h0 a1 "java/lang/String") (F1 : Fld Z h0 a1 "java/lang/String" "value" "[B" .null) (F2 : Fld Z h0 a1 "java/lang/String" "coder" "B" (.int (0 : Int32))) (g_a1 : n0 ≤ a1) (V2 : Arv Z h0 a2 k2 .char (2 : Int32) [(.int x0), (.int x1)] (.int (0 : Int32))) (ne12 : a1 ≠ a2) (hx0 : ¬ (255 : Int32) < x0) (hx1 : ¬ (255 : Int32) < x1) :
    own_Met l Z (⟨"java/lang/String", "<init>", "([C)V"⟩ : MethodName) jdk_42_method_3_code 2 none ws ({ frames := 3, cells := 1, slots := 2, locals := 72 } : Room) #[(.ref a1), (.ref a2)] h0 (fun v h L => v = none ∧ Fr n0 L ∧ Keep h0 h [a1]) := by
  refine own_enter (plainFor_of_name own_pn1) ?_
  intro p e s m below meth c s₁ X0 hx hZ hby hml hown hnm hret hlk e0
  have N0 := Fr.nil n0
  rw [own_init_2_ef m a1 a2]
  have KK0 : Keep h0 h0 [a1] := Keep.refl _ _
  show own_Fin _ _ _ _ _ _ (s₁.setTop (mkF m 0 #[.val (.ref a1), .val (.ref a2)] []))
  refine own_to (fun t k => XS.aloadN X0.here hx rfl (hb hby own_d7_0) rfl rfl k) ?_
  show own_Fin _ _ _ _ _ _ (s₁.setTop (mkF m 1 #[.val (.ref a1), .val (.ref a2)] [(.ref a1)]))
  refine own_to (fun t k => XS.aloadN X0.here hx rfl (hb hby own_d7_1) rfl rfl k) ?_
  show own_Fin _ _ _ _ _ _ (s₁.setTop (mkF m 2 #[.val (.ref a1), .val (.ref a2)] [(.ref a2), (.ref a1)]))
  refine own_to (fun t k => XS.iconst X0.here hx rfl (hb hby own_d7_2) k) ?_
  show own_Fin _ _ _ _ _ _ (s₁.setTop (mkF m 3 #[.val (.ref a1), .val (.ref a2)] [(.int (0 : Int32)), (.ref a2), (.ref a1)]))
  refine own_to (fun t k => XS.aloadN X0.here hx rfl (hb hby own_d7_3) rfl rfl k) ?_
  show own_Fin _ _ _ _ _ _ (s₁.setTop (mkF m 4 #[.val (.ref a1), .val (.ref a2)] [(.ref a2), (.int (0 : Int32)), (.ref a2), (.ref a1)]))
  obtain ⟨cl35, Ar35, qa35, Sa35, Na35, Ha35, Ga35⟩ := id V2
  refine own_to (fun t k => X0.arraylength hx (by rw [e0]; exact Ar35.1) (State.isArrayOf_alike hZ.alike Ar35.2.1) (g := (mkF m 4 #[.val (.ref a1), .val (.ref a2)] [(.ref a2), (.int (0 : Int32)), (.ref a2), (.ref a1)])) rfl rfl (hb hby own_d7_4) _ k) ?_
  rw [len_of Sa35 Na35]
  show own_Fin _ _ _ _ _ _ (s₁.setTop (mkF m 5 #[.val (.ref a1), .val (.ref a2)] [(.int (2 : Int32)), (.int (0 : Int32)), (.ref a2), (.ref a1)]))
  refine own_to (fun t k => XS.aconstNull X0.here hx rfl (hb hby own_d7_5) k) ?_
  show own_Fin _ _ _ _ _ _ (s₁.setTop (mkF m 6 #[.val (.ref a1), .val (.ref a2)] [.null, (.int (2 : Int32)), (.int (0 : Int32)), (.ref a2), (.ref a1)]))
  obtain ⟨_, _, ⟨T36, L36, k36, n36⟩, -, X36, ⟨Lc36, hQ36, l36, y36, z36⟩, st36⟩ := X0.specialBack hx (y := (⟨"java/lang/String", "<init>", "([CIILjava/lang/Void;)V"⟩ : MethodName)) rfl hown (mvT hZ (hw _ (List.mem_of_getElem? (i := 45) rfl))) (mvT hZ (hw _ (List.mem_of_getElem? (i := 46) rfl))) (mvT hZ (hw _ (List.mem_of_getElem? (i := 48) rfl))) (by decide) (own_back (W := 0) (own_initI_2 l Z a0 hw [] cs a1 a2 k2 x0 x1 h0 n0 Z0 O0 SS hcs E1 F1 F2 g_a1 V2 ne12 hx0 hx1) hZ (hw _ (List.mem_of_getElem? (i := 48) rfl)) (hw _ (List.mem_of_getElem? (i := 40) rfl)) (by decide) (by decide)) (g := (mkF m 6 #[.val (.ref a1), .val (.ref a2)] [.null, (.int (2 : Int32)), (.int (0 : Int32)), (.ref a2), (.ref a1)])) rfl (by rw [hml]; rfl) (Steps.refl _) (a := a1) (argsL := [(.ref a2), (.int (0 : Int32)), (.int (2 : Int32)), .null]) (rest := []) (lenOf own_pd4 rfl) rfl (by show 2 * 0 + _ ≤ _; exact Nat.le_of_eq rfl) (hb hby own_d7_6) (fun _ _ => ⟨rfl, e0, (by decide : 0 + 1 ≤ _), (by decide : 0 + 2 ≤ _)⟩)
  dsimp only [Pt.U, Pt.locs, Pt.cells, Pt.slots] at X36 l36 y36 z36 st36 hQ36
  subst l36 y36 z36
  obtain ⟨rfl, N36q, K36⟩ := hQ36
  have N36 := Fr.app N0 N36q
  have O36 := O0.keep K36 (allS g_a1 all0)
  have KK36 : Keep h0 T36.heap [a1] := KK0.trans K36 (allS (Or.inl (List.mem_of_getElem? (i := 0) rfl)) all0)
  have E1_e36 := E1.keep K36
  have V2_e36 := V2.keep K36 (ninS (Ne.symm ne12) nin0)
  refine own_to (fun t k => st36.trans k) ?_
  show own_Fin _ _ _ _ _ _ (T36.setTop (mkF m 9 #[.val (.ref a1), .val (.ref a2)] []))
  refine own_retV X36 hx hlk hret (hb hby own_d7_9) (by decide) (by decide) ?_
  exact ⟨rfl, N36, KK36⟩
theorem own_initI_0_ef (m : MethodId) (a1 : Addr) (a2 : Addr) : entryFrame m #[(.ref a1), (.ref a2), (.int (0 : Int32)), (.int (0 : Int32)), .null] 6 = mkF m 0 #[.val (.ref a1), .val (.ref a2), .val (.int (0 : Int32)), .val (.int (0 : Int32)), .val .null, .unset] [] := by first | (simp [entryFrame, mkF, argsToLocals, Value.category]; done) | rfl
set_option maxRecDepth 65536 in
set_option maxHeartbeats 40000000 in
theorem own_initI_0 (l : Launch) (Z : State) (a0 : Array Value) (hw : ∀ d ∈ tables_1, d.before a0 Z = true) (ws : List Jvm.Cond) (a1 : Addr) (a2 : Addr) (h0 : Heap) (n0 : Nat) (Z0 : n0 ≤ h0.size) (E1 : Exa Z h0 a1 "java/lang/String") (F1 : Fld Z h0 a1 "java/lang/String" "value" "[B" .null) (F2 : Fld Z h0 a1 "java/lang/String" "coder" "B" (.int (0 : Int32))) (g_a1 : n0 ≤ a1) :
    own_MetH l Z own_EL [a1] (⟨"java/lang/String", "<init>", "([CIILjava/lang/Void;)V"⟩ : MethodName) jdk_42_method_149_code 6 none ws ({ frames := 1, cells := 4, slots := 8, locals := 16 } : Room) #[(.ref a1), (.ref a2), (.int (0 : Int32)), (.int (0 : Int32)), .null] h0 (fun v h L => v = none ∧ Fr n0 L ∧ Keep h0 h [a1]) := by
  refine own_enterH (plainFor_of_name own_pn1) ?_
  intro p e s vm0 m below meth c s₁ X0 hx hZ hby hml hown hnm hret hlk hS hH hR hxs e0
  have hEL := own_EW hw
  have Sf_a1 := hxs a1 (List.mem_of_getElem? (i := 0) rfl)
  have N0 := Fr.nil n0
  rw [own_initI_0_ef m a1 a2]
  have KK0 : Keep h0 h0 [a1] := Keep.refl _ _
  have own_strW : ∀ d ∈ Bundle.stringAtoms, d.before a0 Z = true := fun d hd => by
    simp only [Bundle.stringAtoms, List.mem_cons, List.not_mem_nil, or_false] at hd
    rcases hd with rfl | rfl | rfl | rfl | rfl | rfl | rfl
    · exact (hw _ (List.mem_of_getElem? (i := 40) rfl))
    · exact (hw _ (List.mem_of_getElem? (i := 39) rfl))
    · exact (hw _ (List.mem_of_getElem? (i := 55) rfl))
    · exact (hw _ (List.mem_of_getElem? (i := 65) rfl))
    · exact (hw _ (List.mem_of_getElem? (i := 63) rfl))
    · exact (hw _ (List.mem_of_getElem? (i := 67) rfl))
    · exact (hw _ (List.mem_of_getElem? (i := 68) rfl))
  show own_FinH _ _ _ _ _ _ _ _ (s₁.setTop (mkF m 0 #[.val (.ref a1), .val (.ref a2), .val (.int (0 : Int32)), .val (.int (0 : Int32)), .val .null, .unset] []))
  refine own_toH (fun t k => XS.aloadN X0.here hx rfl (hb hby own_d8_0) rfl rfl k) ?_
  show own_FinH _ _ _ _ _ _ _ _ (s₁.setTop (mkF m 1 #[.val (.ref a1), .val (.ref a2), .val (.int (0 : Int32)), .val (.int (0 : Int32)), .val .null, .unset] [(.ref a1)]))
  obtain ⟨T37, X37, e37, st37⟩ := initO X0 hx hZ hown (hw _ (List.mem_of_getElem? (i := 49) rfl)) (hw _ (List.mem_of_getElem? (i := 19) rfl)) (hw _ (List.mem_of_getElem? (i := 20) rfl)) e0 (g := (mkF m 1 #[.val (.ref a1), .val (.ref a2), .val (.int (0 : Int32)), .val (.int (0 : Int32)), .val .null, .unset] [(.ref a1)])) rfl (by rw [hml]; rfl) rfl (hb hby own_d8_1) (by decide) (W := 0) (by show 2 * 0 + _ ≤ _; exact Nat.le_of_eq rfl) (by decide)
  refine own_toH (fun t k => st37 t k) ?_
  show own_FinH _ _ _ _ _ _ _ _ (T37.setTop (mkF m 4 #[.val (.ref a1), .val (.ref a2), .val (.int (0 : Int32)), .val (.int (0 : Int32)), .val .null, .unset] []))
  refine own_toH (fun t k => XS.iloadN X37.here hx rfl (hb hby own_d8_4) rfl k) ?_
  show own_FinH _ _ _ _ _ _ _ _ (T37.setTop (mkF m 5 #[.val (.ref a1), .val (.ref a2), .val (.int (0 : Int32)), .val (.int (0 : Int32)), .val .null, .unset] [(.int (0 : Int32))]))
  refine own_toH (fun t k => XS.ifNo X37.here hx rfl (hb hby own_d8_5) rfl ((if0 _ _).trans (teq rfl).2) k) ?_
  show own_FinH _ _ _ _ _ _ _ _ (T37.setTop (mkF m 8 #[.val (.ref a1), .val (.ref a2), .val (.int (0 : Int32)), .val (.int (0 : Int32)), .val .null, .unset] []))
  refine own_toH (fun t k => XS.aloadN X37.here hx rfl (hb hby own_d8_8) rfl rfl k) ?_
  show own_FinH _ _ _ _ _ _ _ _ (T37.setTop (mkF m 9 #[.val (.ref a1), .val (.ref a2), .val (.int (0 : Int32)), .val (.int (0 : Int32)), .val .null, .unset] [(.ref a1)]))
  obtain ⟨e1, T38, h38, kk38, e1b, e1k, X38, e38, E38, hS38, hk38, hZ, hown, Ec_e1, Fc_e1, Fv_e1, Va_e1, -, -, hC38, -, hNe38, st38⟩ := ldcCH X37 hx hZ hown (hw _ (List.mem_of_getElem? (i := 66) rfl)) own_strW e37 hS (Nat.zero_le _) hEL (List.mem_of_getElem? (i := 0) rfl) hH (vs := []) (z := (0 : Int32)) (by decide) (by decide) (by decide) (g := (mkF m 9 #[.val (.ref a1), .val (.ref a2), .val (.int (0 : Int32)), .val (.int (0 : Int32)), .val .null, .unset] [(.ref a1)])) rfl (hb hby own_d8_9) (n := 0) (by decide) (by decide) (by decide) (by decide)
  have hR38 := hR.trans hC38
  have hH38 := hC38.1
  have Sf_a1_38 := hC38.safe E1.lt Sf_a1
  have KK38 : Keep h0 h38 [a1] := KK0.ext E38
  have E1_e38 := E1.ext E38
  have F1_e38 := F1.ext E38
  have F2_e38 := F2.ext E38
  have ne_a1_e1 := (hNe38 a1 Sf_a1_38).1
  refine own_toH (fun t k => st38 t k) ?_
  show own_FinH _ _ _ _ _ _ _ _ (T38.setTop (mkF m 11 #[.val (.ref a1), .val (.ref a2), .val (.int (0 : Int32)), .val (.int (0 : Int32)), .val .null, .unset] [(.ref e1), (.ref a1)]))
  obtain ⟨T39, X39, e39, st39⟩ := getF X38 hx hZ hown (host := "") (Or.inl (hw _ (List.mem_of_getElem? (i := 64) rfl))) Via.refl e38 Fv_e1 (g := (mkF m 11 #[.val (.ref a1), .val (.ref a2), .val (.int (0 : Int32)), .val (.int (0 : Int32)), .val .null, .unset] [(.ref e1), (.ref a1)])) rfl rfl (hb hby own_d8_11)
  refine own_toH (fun t k => st39 t k) ?_
  show own_FinH _ _ _ _ _ _ _ _ (T39.setTop (mkF m 14 #[.val (.ref a1), .val (.ref a2), .val (.int (0 : Int32)), .val (.int (0 : Int32)), .val .null, .unset] [(.ref e1b), (.ref a1)]))
  obtain ⟨T40, h40, X40, e40, W40, st40⟩ := putF X39 hx hZ hown (host := "") (Or.inl (hw _ (List.mem_of_getElem? (i := 64) rfl))) Via.refl e39 F1_e38 E1_e38 (Or.inr ⟨(hw _ (List.mem_of_getElem? (i := 65) rfl)), rfl, hnm⟩) (hw _ (List.mem_of_getElem? (i := 39) rfl)) (ty := (.array .byte)) (by decide) rfl rfl (g := (mkF m 14 #[.val (.ref a1), .val (.ref a2), .val (.int (0 : Int32)), .val (.int (0 : Int32)), .val .null, .unset] [(.ref e1b), (.ref a1)])) rfl rfl (hb hby own_d8_14)
  have Fw40 := F1_e38.same W40
  have N40 := Fr.snoc X40 N0 g_a1
  have hR40 := hR38.trans (CHr.wr W40 Sf_a1_38 hH38)
  have hH40 := CHv.wr W40 Sf_a1_38 hH38
  have Sf_a1_40 := Safe.wr W40 Sf_a1_38 hH38 Sf_a1_38
  have KK40 : Keep h0 h40 [a1] := KK38.wr W40 (Or.inl (List.mem_of_getElem? (i := 0) rfl))
  have E1_e40 := E1_e38.wr W40
  have F2_e40 := F2_e38.other W40 (Or.inr (slot_ne (Or.inr (hw _ (List.mem_of_getElem? (i := 63) rfl))) (Or.inr (hw _ (List.mem_of_getElem? (i := 65) rfl))) (by decide) (t := .byte) (t' := (.array .byte)) (by decide) (by decide)))
  refine own_toH (fun t k => st40 t k) ?_
  show own_FinH _ _ _ _ _ _ _ _ (T40.setTop (mkF m 17 #[.val (.ref a1), .val (.ref a2), .val (.int (0 : Int32)), .val (.int (0 : Int32)), .val .null, .unset] []))
  refine own_toH (fun t k => XS.aloadN X40.here hx rfl (hb hby own_d8_17) rfl rfl k) ?_
  show own_FinH _ _ _ _ _ _ _ _ (T40.setTop (mkF m 18 #[.val (.ref a1), .val (.ref a2), .val (.int (0 : Int32)), .val (.int (0 : Int32)), .val .null, .unset] [(.ref a1)]))
  obtain ⟨e2, T41, h41, kk41, e2b, e2k, X41, e41, E41, hS41, hk41, hZ, hown, Ec_e2, Fc_e2, Fv_e2, Va_e2, -, -, hC41, -, hNe41, st41⟩ := ldcCH X40 hx hZ hown (hw _ (List.mem_of_getElem? (i := 66) rfl)) own_strW e40 hS38 (Nat.le_trans hk38 (Keep.of_wr W40).1) hEL (List.mem_of_getElem? (i := 0) rfl) hH40 (vs := []) (z := (0 : Int32)) (by decide) (by decide) (by decide) (g := (mkF m 18 #[.val (.ref a1), .val (.ref a2), .val (.int (0 : Int32)), .val (.int (0 : Int32)), .val .null, .unset] [(.ref a1)])) rfl (hb hby own_d8_18) (n := 0) (by decide) (by decide) (by decide) (by decide)
  have hR41 := hR40.trans hC41
  have hH41 := hC41.1
  have Sf_a1_41 := hC41.safe E1_e40.lt Sf_a1_40
  have KK41 : Keep h0 h41 [a1] := KK40.ext E41
  have E1_e41 := E1_e40.ext E41
  have Fw40_e41 := Fw40.ext E41
  have F2_e41 := F2_e40.ext E41
  have ne_a1_e2 := (hNe41 a1 Sf_a1_41).1
  refine own_toH (fun t k => st41 t k) ?_
  show own_FinH _ _ _ _ _ _ _ _ (T41.setTop (mkF m 20 #[.val (.ref a1), .val (.ref a2), .val (.int (0 : Int32)), .val (.int (0 : Int32)), .val .null, .unset] [(.ref e2), (.ref a1)]))
  obtain ⟨T42, X42, e42, st42⟩ := getF X41 hx hZ hown (host := "") (Or.inl (hw _ (List.mem_of_getElem? (i := 62) rfl))) Via.refl e41 Fc_e2 (g := (mkF m 20 #[.val (.ref a1), .val (.ref a2), .val (.int (0 : Int32)), .val (.int (0 : Int32)), .val .null, .unset] [(.ref e2), (.ref a1)])) rfl rfl (hb hby own_d8_20)
  refine own_toH (fun t k => st42 t k) ?_
  show own_FinH _ _ _ _ _ _ _ _ (T42.setTop (mkF m 23 #[.val (.ref a1), .val (.ref a2), .val (.int (0 : Int32)), .val (.int (0 : Int32)), .val .null, .unset] [(.int (0 : Int32)), (.ref a1)]))
  obtain ⟨T43, h43, X43, e43, W43, st43⟩ := putFN X42 hx hZ hown (hw _ (List.mem_of_getElem? (i := 62) rfl)) Via.refl e42 F2_e41 E1_e41 (Or.inr ⟨(hw _ (List.mem_of_getElem? (i := 63) rfl)), rfl, hnm⟩) (hw _ (List.mem_of_getElem? (i := 39) rfl)) (ty := .byte) (v' := (.int (0 : Int32))) (by decide) rfl rfl (g := (mkF m 23 #[.val (.ref a1), .val (.ref a2), .val (.int (0 : Int32)), .val (.int (0 : Int32)), .val .null, .unset] [(.int (0 : Int32)), (.ref a1)])) rfl rfl (hb hby own_d8_23)
  have Fw43 := F2_e41.same W43
  have N43 := Fr.snoc X43 N40 g_a1
  have hR43 := hR41.trans (CHr.wr W43 Sf_a1_41 hH41)
  have hH43 := CHv.wr W43 Sf_a1_41 hH41
  have Sf_a1_43 := Safe.wr W43 Sf_a1_41 hH41 Sf_a1_41
  have KK43 : Keep h0 h43 [a1] := KK41.wr W43 (Or.inl (List.mem_of_getElem? (i := 0) rfl))
  have E1_e43 := E1_e41.wr W43
  have Fw40_e43 := Fw40_e41.other W43 (Or.inr (slot_ne (Or.inr (hw _ (List.mem_of_getElem? (i := 65) rfl))) (Or.inr (hw _ (List.mem_of_getElem? (i := 63) rfl))) (by decide) (t := (.array .byte)) (t' := .byte) (by decide) (by decide)))
  refine own_toH (fun t k => st43 t k) ?_
  show own_FinH _ _ _ _ _ _ _ _ (T43.setTop (mkF m 26 #[.val (.ref a1), .val (.ref a2), .val (.int (0 : Int32)), .val (.int (0 : Int32)), .val .null, .unset] []))
  refine own_retVH X43 hS41 (by rw [e43]; exact (Nat.le_trans hk41 (Keep.of_wr W43).1)) hZ hEL (by rw [e43]; exact hH43) (by rw [e43]; exact hR43) hx hlk hret (hb hby own_d8_26) (by decide) (by decide) ?_
  try rw [e43]
  exact ⟨rfl, N43, KK43⟩
theorem own_init_0_ef (m : MethodId) (a1 : Addr) (a2 : Addr) : entryFrame m #[(.ref a1), (.ref a2)] 2 = mkF m 0 #[.val (.ref a1), .val (.ref a2)] [] := by first | (simp [entryFrame, mkF, argsToLocals, Value.category]; done) | rfl
set_option maxRecDepth 65536 in
set_option maxHeartbeats 40000000 in
theorem own_init_0 (l : Launch) (Z : State) (a0 : Array Value) (hw : ∀ d ∈ tables_1, d.before a0 Z = true) (ws : List Jvm.Cond) (a1 : Addr) (a2 : Addr) (k2 : ClassId) (h0 : Heap) (n0 : Nat) (Z0 : n0 ≤ h0.size) (E1 : Exa Z h0 a1 "java/lang/String") (F1 : Fld Z h0 a1 "java/lang/String" "value" "[B" .null) (F2 : Fld Z h0 a1 "java/lang/String" "coder" "B" (.int (0 : Int32))) (g_a1 : n0 ≤ a1) (V2 : Arv Z h0 a2 k2 .char (0 : Int32) [] (.int (0 : Int32))) (ne12 : a1 ≠ a2) :
    own_MetH l Z own_EL [a1] (⟨"java/lang/String", "<init>", "([C)V"⟩ : MethodName) jdk_42_method_3_code 2 none ws ({ frames := 2, cells := 4, slots := 8, locals := 40 } : Room) #[(.ref a1), (.ref a2)] h0 (fun v h L => v = none ∧ Fr n0 L ∧ Keep h0 h [a1]) := by
  refine own_enterH (plainFor_of_name own_pn1) ?_
  intro p e s vm0 m below meth c s₁ X0 hx hZ hby hml hown hnm hret hlk hS hH hR hxs e0
  have hEL := own_EW hw
  have Sf_a1 := hxs a1 (List.mem_of_getElem? (i := 0) rfl)
  have N0 := Fr.nil n0
  rw [own_init_0_ef m a1 a2]
  have KK0 : Keep h0 h0 [a1] := Keep.refl _ _
  show own_FinH _ _ _ _ _ _ _ _ (s₁.setTop (mkF m 0 #[.val (.ref a1), .val (.ref a2)] []))
  refine own_toH (fun t k => XS.aloadN X0.here hx rfl (hb hby own_d7_0) rfl rfl k) ?_
  show own_FinH _ _ _ _ _ _ _ _ (s₁.setTop (mkF m 1 #[.val (.ref a1), .val (.ref a2)] [(.ref a1)]))
  refine own_toH (fun t k => XS.aloadN X0.here hx rfl (hb hby own_d7_1) rfl rfl k) ?_
  show own_FinH _ _ _ _ _ _ _ _ (s₁.setTop (mkF m 2 #[.val (.ref a1), .val (.ref a2)] [(.ref a2), (.ref a1)]))
  refine own_toH (fun t k => XS.iconst X0.here hx rfl (hb hby own_d7_2) k) ?_
  show own_FinH _ _ _ _ _ _ _ _ (s₁.setTop (mkF m 3 #[.val (.ref a1), .val (.ref a2)] [(.int (0 : Int32)), (.ref a2), (.ref a1)]))
  refine own_toH (fun t k => XS.aloadN X0.here hx rfl (hb hby own_d7_3) rfl rfl k) ?_
  show own_FinH _ _ _ _ _ _ _ _ (s₁.setTop (mkF m 4 #[.val (.ref a1), .val (.ref a2)] [(.ref a2), (.int (0 : Int32)), (.ref a2), (.ref a1)]))
  obtain ⟨cl44, Ar44, qa44, Sa44, Na44, Ha44, Ga44⟩ := id V2
  refine own_toH (fun t k => X0.arraylength hx (by rw [e0]; exact Ar44.1) (State.isArrayOf_alike hZ.alike Ar44.2.1) (g := (mkF m 4 #[.val (.ref a1), .val (.ref a2)] [(.ref a2), (.int (0 : Int32)), (.ref a2), (.ref a1)])) rfl rfl (hb hby own_d7_4) _ k) ?_
  rw [len_of Sa44 Na44]
  show own_FinH _ _ _ _ _ _ _ _ (s₁.setTop (mkF m 5 #[.val (.ref a1), .val (.ref a2)] [(.int (0 : Int32)), (.int (0 : Int32)), (.ref a2), (.ref a1)]))
  refine own_toH (fun t k => XS.aconstNull X0.here hx rfl (hb hby own_d7_5) k) ?_
  show own_FinH _ _ _ _ _ _ _ _ (s₁.setTop (mkF m 6 #[.val (.ref a1), .val (.ref a2)] [.null, (.int (0 : Int32)), (.int (0 : Int32)), (.ref a2), (.ref a1)]))
  obtain ⟨_, _, ⟨T45, L45, k45, n45⟩, -, X45, S45a, S45b, ⟨Lc45, hQ45, l45, y45, z45, hC45⟩, st45⟩ := X0.specialBackS hx (y := (⟨"java/lang/String", "<init>", "([CIILjava/lang/Void;)V"⟩ : MethodName)) rfl hown (mvT hZ (hw _ (List.mem_of_getElem? (i := 45) rfl))) (mvT hZ (hw _ (List.mem_of_getElem? (i := 46) rfl))) (mvT hZ (hw _ (List.mem_of_getElem? (i := 48) rfl))) (by decide) (own_backH (W := 0) (own_initI_0 l Z a0 hw [] a1 a2 h0 n0 Z0 E1 F1 F2 g_a1) hZ (hw _ (List.mem_of_getElem? (i := 48) rfl)) (hw _ (List.mem_of_getElem? (i := 40) rfl)) (by decide) (by decide) hEL hH (allS ⟨E1.lt, Sf_a1⟩ all0)) (g := (mkF m 6 #[.val (.ref a1), .val (.ref a2)] [.null, (.int (0 : Int32)), (.int (0 : Int32)), (.ref a2), (.ref a1)])) rfl (by rw [hml]; rfl) (Steps.refl _) (a := a1) (argsL := [(.ref a2), (.int (0 : Int32)), (.int (0 : Int32)), .null]) (rest := []) (lenOf own_pd4 rfl) rfl (by show 2 * 0 + _ ≤ _; exact Nat.le_of_eq rfl) (hb hby own_d7_6) (fun _ _ => ⟨rfl, e0, (by decide : 0 + 4 ≤ _), (by decide : 0 + 8 ≤ _)⟩)
  dsimp only [Pt.U, Pt.locs, Pt.cells, Pt.slots] at X45 l45 y45 z45 st45 hQ45 S45a S45b hC45
  subst l45 y45 z45
  obtain ⟨X45r, hS45, hZ, hown⟩ := rebS hS (n1 := s₁.heap.size) (by rw [e0]; exact (Nat.zero_le _)) X45 S45a S45b hZ hown
  obtain ⟨rfl, N45q, K45⟩ := hQ45
  have N45 := Fr.app N0 N45q
  have hR45 := hR.trans hC45
  have hH45 := hC45.1
  have Sf_a1_45 := hC45.safe E1.lt Sf_a1
  have KK45 : Keep h0 T45.heap [a1] := KK0.trans K45 (allS (Or.inl (List.mem_of_getElem? (i := 0) rfl)) all0)
  have E1_e45 := E1.keep K45
  have V2_e45 := V2.keep K45 (ninS (Ne.symm ne12) nin0)
  refine own_toH (fun t k => st45.trans k) ?_
  show own_FinH _ _ _ _ _ _ _ _ (T45.setTop (mkF m 9 #[.val (.ref a1), .val (.ref a2)] []))
  refine own_retVH X45r hS45 (Nat.le_refl _) hZ hEL hH45 hR45 hx hlk hret (hb hby own_d7_9) (by decide) (by decide) ?_
  exact ⟨rfl, N45, KK45⟩
theorem own_d1_0 : decode method_2_code 0 = .ok (.iload_n 0, 1) := by decide +kernel
theorem own_d1_1 : decode method_2_code 1 = .ok (.ifCond .ne 5, 3) := by decide +kernel
theorem own_d1_4 : decode method_2_code 4 = .ok (.aconst_null, 1) := by decide +kernel
theorem own_d1_5 : decode method_2_code 5 = .ok (.areturn, 1) := by decide +kernel
theorem own_d1_6 : decode method_2_code 6 = .ok (.iload_n 0, 1) := by decide +kernel
theorem own_d1_7 : decode method_2_code 7 = .ok (.iconst 1, 1) := by decide +kernel
theorem own_d1_8 : decode method_2_code 8 = .ok (.if_icmp .ne 14, 3) := by decide +kernel
theorem own_d1_11 : decode method_2_code 11 = .ok (.new 7, 3) := by decide +kernel
theorem own_d1_14 : decode method_2_code 14 = .ok (.dup, 1) := by decide +kernel
theorem own_d1_15 : decode method_2_code 15 = .ok (.iconst 0, 1) := by decide +kernel
theorem own_d1_16 : decode method_2_code 16 = .ok (.newarray .char, 2) := by decide +kernel
theorem own_d1_18 : decode method_2_code 18 = .ok (.invokespecial 9, 3) := by decide +kernel
theorem own_d1_21 : decode method_2_code 21 = .ok (.areturn, 1) := by decide +kernel
theorem own_d1_22 : decode method_2_code 22 = .ok (.iload_n 0, 1) := by decide +kernel
theorem own_d1_23 : decode method_2_code 23 = .ok (.iconst 2, 1) := by decide +kernel
theorem own_d1_24 : decode method_2_code 24 = .ok (.if_icmp .ne 23, 3) := by decide +kernel
theorem own_d1_27 : decode method_2_code 27 = .ok (.new 7, 3) := by decide +kernel
theorem own_d1_30 : decode method_2_code 30 = .ok (.dup, 1) := by decide +kernel
theorem own_d1_31 : decode method_2_code 31 = .ok (.iconst 1, 1) := by decide +kernel
theorem own_d1_32 : decode method_2_code 32 = .ok (.newarray .char, 2) := by decide +kernel
theorem own_d1_34 : decode method_2_code 34 = .ok (.dup, 1) := by decide +kernel
theorem own_d1_35 : decode method_2_code 35 = .ok (.iconst 0, 1) := by decide +kernel
theorem own_d1_36 : decode method_2_code 36 = .ok (.iload_n 1, 1) := by decide +kernel
theorem own_d1_37 : decode method_2_code 37 = .ok (.sipush 255, 3) := by decide +kernel
theorem own_d1_40 : decode method_2_code 40 = .ok (.iand, 1) := by decide +kernel
theorem own_d1_41 : decode method_2_code 41 = .ok (.i2c, 1) := by decide +kernel
theorem own_d1_42 : decode method_2_code 42 = .ok (.castore, 1) := by decide +kernel
theorem own_d1_43 : decode method_2_code 43 = .ok (.invokespecial 9, 3) := by decide +kernel
theorem own_d1_46 : decode method_2_code 46 = .ok (.areturn, 1) := by decide +kernel
theorem own_d1_47 : decode method_2_code 47 = .ok (.new 7, 3) := by decide +kernel
theorem own_d1_50 : decode method_2_code 50 = .ok (.dup, 1) := by decide +kernel
theorem own_d1_51 : decode method_2_code 51 = .ok (.iconst 2, 1) := by decide +kernel
theorem own_d1_52 : decode method_2_code 52 = .ok (.newarray .char, 2) := by decide +kernel
theorem own_d1_54 : decode method_2_code 54 = .ok (.dup, 1) := by decide +kernel
theorem own_d1_55 : decode method_2_code 55 = .ok (.iconst 0, 1) := by decide +kernel
theorem own_d1_56 : decode method_2_code 56 = .ok (.iload_n 1, 1) := by decide +kernel
theorem own_d1_57 : decode method_2_code 57 = .ok (.sipush 255, 3) := by decide +kernel
theorem own_d1_60 : decode method_2_code 60 = .ok (.iand, 1) := by decide +kernel
theorem own_d1_61 : decode method_2_code 61 = .ok (.i2c, 1) := by decide +kernel
theorem own_d1_62 : decode method_2_code 62 = .ok (.castore, 1) := by decide +kernel
theorem own_d1_63 : decode method_2_code 63 = .ok (.dup, 1) := by decide +kernel
theorem own_d1_64 : decode method_2_code 64 = .ok (.iconst 1, 1) := by decide +kernel
theorem own_d1_65 : decode method_2_code 65 = .ok (.iload_n 2, 1) := by decide +kernel
theorem own_d1_66 : decode method_2_code 66 = .ok (.sipush 255, 3) := by decide +kernel
theorem own_d1_69 : decode method_2_code 69 = .ok (.iand, 1) := by decide +kernel
theorem own_d1_70 : decode method_2_code 70 = .ok (.i2c, 1) := by decide +kernel
theorem own_d1_71 : decode method_2_code 71 = .ok (.castore, 1) := by decide +kernel
theorem own_d1_72 : decode method_2_code 72 = .ok (.invokespecial 9, 3) := by decide +kernel
theorem own_d1_75 : decode method_2_code 75 = .ok (.areturn, 1) := by decide +kernel
theorem own_pn2 : plainName "com/example/deft_lock/deftlock/service/ServerInfoTellsUptimePinLaw" = true := by first | (simp [plainName, overriddenIn]; done) | decide +kernel
theorem own_pd5 : parseMethodDescriptor "([C)V" = some ⟨[(.array .char)], none⟩ := by decide +kernel
theorem own_drN_ef (m : MethodId) (p1 : Int32) (p2 : Int32) (p3 : Int32) : entryFrame m #[(.int p1), (.int p2), (.int p3)] 3 = mkF m 0 #[.val (.int p1), .val (.int p2), .val (.int p3)] [] := by first | (simp [entryFrame, mkF, argsToLocals, Value.category]; done) | rfl
set_option maxRecDepth 65536 in
set_option maxHeartbeats 40000000 in
theorem own_drN (l : Launch) (Z : State) (a0 : Array Value) (hw : ∀ d ∈ tables_1, d.before a0 Z = true) (ws : List Jvm.Cond) (p1 : Int32) (p2 : Int32) (p3 : Int32) (h0 : Heap) (n0 : Nat) (Z0 : n0 ≤ h0.size) (hk : p1 = (0 : Int32)) :
    own_Met l Z (⟨"com/example/deft_lock/deftlock/service/ServerInfoTellsUptimePinLaw", "drawn", "(III)Ljava/lang/String;"⟩ : MethodName) method_2_code 3 (some (.object "java/lang/String")) ws ({ frames := 0, cells := 0, slots := 0, locals := 0 } : Room) #[(.int p1), (.int p2), (.int p3)] h0 (fun v h L => v = some .null ∧ Fr n0 L ∧ h = h0) := by
  refine own_enter (plainFor_of_name own_pn2) ?_
  intro p e s m below meth c s₁ X0 hx hZ hby hml hown hnm hret hlk e0
  have N0 := Fr.nil n0
  rw [own_drN_ef m p1 p2 p3]
  show own_Fin _ _ _ _ _ _ (s₁.setTop (mkF m 0 #[.val (.int p1), .val (.int p2), .val (.int p3)] []))
  refine own_to (fun t k => XS.iloadN X0.here hx rfl (hb hby own_d1_0) rfl k) ?_
  show own_Fin _ _ _ _ _ _ (s₁.setTop (mkF m 1 #[.val (.int p1), .val (.int p2), .val (.int p3)] [(.int p1)]))
  refine own_to (fun t k => XS.ifNo X0.here hx rfl (hb hby own_d1_1) rfl ((if0 _ _).trans (teq hk).2) k) ?_
  show own_Fin _ _ _ _ _ _ (s₁.setTop (mkF m 4 #[.val (.int p1), .val (.int p2), .val (.int p3)] []))
  refine own_to (fun t k => XS.aconstNull X0.here hx rfl (hb hby own_d1_4) k) ?_
  show own_Fin _ _ _ _ _ _ (s₁.setTop (mkF m 5 #[.val (.int p1), .val (.int p2), .val (.int p3)] [.null]))
  refine own_retR X0 hx hlk hret rfl rfl rfl (hb hby own_d1_5) (by decide) (by decide) ?_
  try rw [e0]
  exact ⟨rfl, N0, rfl⟩
theorem own_drR_ef (m : MethodId) (p1 : Int32) (p2 : Int32) (p3 : Int32) : entryFrame m #[(.int p1), (.int p2), (.int p3)] 3 = mkF m 0 #[.val (.int p1), .val (.int p2), .val (.int p3)] [] := by first | (simp [entryFrame, mkF, argsToLocals, Value.category]; done) | rfl
set_option maxRecDepth 65536 in
set_option maxHeartbeats 40000000 in
theorem own_drR (l : Launch) (Z : State) (a0 : Array Value) (hw : ∀ d ∈ tables_1, d.before a0 Z = true) (ws : List Jvm.Cond) (cs : Int32) (p1 : Int32) (p2 : Int32) (p3 : Int32) (h0 : Heap) (n0 : Nat) (Z0 : n0 ≤ h0.size) (O0 : Old Z n0 h0) (SS : Sta Z Z.heap "java/lang/String" "COMPACT_STRINGS" "Z" (.int cs)) (hcs : ¬ cs = (0 : Int32)) (hk : ¬ p1 = (0 : Int32)) :
    own_MetH l Z own_EL [] (⟨"com/example/deft_lock/deftlock/service/ServerInfoTellsUptimePinLaw", "drawn", "(III)Ljava/lang/String;"⟩ : MethodName) method_2_code 3 (some (.object "java/lang/String")) ws ({ frames := 4, cells := 6, slots := 12, locals := 96 } : Room) #[(.int p1), (.int p2), (.int p3)] h0 (fun v h L => ∃ b, v = some (.ref b) ∧ Fr n0 L ∧ Keep h0 h [] ∧ n0 ≤ b ∧ h0.size ≤ b ∧ Exa Z h b "java/lang/String") := by
  refine own_enterH (plainFor_of_name own_pn2) ?_
  intro p e s vm0 m below meth c s₁ X0 hx hZ hby hml hown hnm hret hlk hS hH hR hxs e0
  have hEL := own_EW hw
  have N0 := Fr.nil n0
  rw [own_drR_ef m p1 p2 p3]
  have KK0 : Keep h0 h0 [] := Keep.refl _ _
  show own_FinH _ _ _ _ _ _ _ _ (s₁.setTop (mkF m 0 #[.val (.int p1), .val (.int p2), .val (.int p3)] []))
  refine own_toH (fun t k => XS.iloadN X0.here hx rfl (hb hby own_d1_0) rfl k) ?_
  show own_FinH _ _ _ _ _ _ _ _ (s₁.setTop (mkF m 1 #[.val (.int p1), .val (.int p2), .val (.int p3)] [(.int p1)]))
  refine own_toH (fun t k => XS.ifYes X0.here hx rfl (pc0 := 1) (pc' := 6) rfl (hb hby own_d1_1) rfl ((if0 _ _).trans (feq hk).2) (by decide) (by decide) k) ?_
  show own_FinH _ _ _ _ _ _ _ _ (s₁.setTop (mkF m 6 #[.val (.int p1), .val (.int p2), .val (.int p3)] []))
  refine own_toH (fun t k => XS.iloadN X0.here hx rfl (hb hby own_d1_6) rfl k) ?_
  show own_FinH _ _ _ _ _ _ _ _ (s₁.setTop (mkF m 7 #[.val (.int p1), .val (.int p2), .val (.int p3)] [(.int p1)]))
  refine own_toH (fun t k => XS.iconst X0.here hx rfl (hb hby own_d1_7) k) ?_
  show own_FinH _ _ _ _ _ _ _ _ (s₁.setTop (mkF m 8 #[.val (.int p1), .val (.int p2), .val (.int p3)] [(.int (1 : Int32)), (.int p1)]))
  by_cases hc8_46 : p1 = (1 : Int32)
  ·
    show own_FinH _ _ _ _ _ _ _ _ (s₁.setTop (mkF m 8 #[.val (.int p1), .val (.int p2), .val (.int p3)] [(.int (1 : Int32)), (.int p1)]))
    refine own_toH (fun t k => XS.icmpNo X0.here hx rfl (hb hby own_d1_8) rfl (teq hc8_46).2 k) ?_
    show own_FinH _ _ _ _ _ _ _ _ (s₁.setTop (mkF m 11 #[.val (.int p1), .val (.int p2), .val (.int p3)] []))
    obtain ⟨T47, h47, X47, e47, E47, A47, D47, U47, st47⟩ := newO X0 hx hZ hown (hw _ (List.mem_of_getElem? (i := 38) rfl)) (hw _ (List.mem_of_getElem? (i := 39) rfl)) (hw _ (List.mem_of_getElem? (i := 40) rfl)) e0 (g := (mkF m 11 #[.val (.int p1), .val (.int p2), .val (.int p3)] [])) rfl (hb hby own_d1_11) (by decide) (by decide)
    obtain ⟨b47, q47⟩ : ∃ z, z = h0.size := ⟨_, rfl⟩
    rw [← q47] at A47 D47 U47 st47
    have g_b47 : n0 ≤ b47 := Nat.le_trans Z0 (Nat.le_of_eq q47.symm)
    have sz_b47 : h0.size ≤ b47 := Nat.le_trans KK0.1 (Nat.le_of_eq q47.symm)
    have Sn_b47 : Safe Z own_EL _ h47 b47 := Safe.ext E47 hH (Safe.new (Nat.le_of_eq q47.symm))
    have hR47 := hR.trans (CHr.ext E47 hH)
    have hH47 := hH.ext E47
    have O47 := O0.ext E47
    have KK47 : Keep h0 h47 [] := KK0.ext E47
    have Fncoder_47 : Fld Z h47 b47 "java/lang/String" "coder" "B" (.int (0 : Int32)) := D47 (Or.inr (hw _ (List.mem_of_getElem? (i := 63) rfl))) (ty := .byte) (by decide)
    have Fnvalue_47 : Fld Z h47 b47 "java/lang/String" "value" "[B" .null := D47 (Or.inr (hw _ (List.mem_of_getElem? (i := 65) rfl))) (ty := (.array .byte)) (by decide)
    refine own_toH (fun t k => st47 t k) ?_
    show own_FinH _ _ _ _ _ _ _ _ (T47.setTop (mkF m 14 #[.val (.int p1), .val (.int p2), .val (.int p3)] [(.ref b47)]))
    refine own_toH (fun t k => XS.dup X47.here hx rfl (hb hby own_d1_14) rfl rfl k) ?_
    show own_FinH _ _ _ _ _ _ _ _ (T47.setTop (mkF m 15 #[.val (.int p1), .val (.int p2), .val (.int p3)] [(.ref b47), (.ref b47)]))
    refine own_toH (fun t k => XS.iconst X47.here hx rfl (hb hby own_d1_15) k) ?_
    show own_FinH _ _ _ _ _ _ _ _ (T47.setTop (mkF m 16 #[.val (.int p1), .val (.int p2), .val (.int p3)] [(.int (0 : Int32)), (.ref b47), (.ref b47)]))
    obtain ⟨T48, h48, k48, X48, e48, E48, A48, A48x, st48⟩ := newPE X47 hx hZ (hw _ (List.mem_of_getElem? (i := 41) rfl)) e47 (g := (mkF m 16 #[.val (.int p1), .val (.int p2), .val (.int p3)] [(.int (0 : Int32)), (.ref b47), (.ref b47)])) rfl (hb hby own_d1_16) rfl (by decide) (cap := 0) (by decide) (by decide) (by decide) (by decide) (ad := "[C") (by decide)
    obtain ⟨bc, q48⟩ : ∃ z, z = h47.size := ⟨_, rfl⟩
    rw [← q48] at A48 A48x st48
    have ne_b47_bc : b47 ≠ bc := Nat.ne_of_lt (Nat.lt_of_lt_of_le A47.lt (Nat.le_of_eq q48.symm))
    have g_bc : n0 ≤ bc := Nat.le_trans (Nat.le_trans Z0 E47.1) (Nat.le_of_eq q48.symm)
    have sz_bc : h0.size ≤ bc := Nat.le_trans KK47.1 (Nat.le_of_eq q48.symm)
    have Sn_bc : Safe Z own_EL _ h48 bc := Safe.ext E48 hH47 (Safe.new (Nat.le_of_eq q48.symm))
    have hR48 := hR47.trans (CHr.ext E48 hH47)
    have hH48 := hH47.ext E48
    have Sf_b47_48 := Safe.ext E48 hH47 Sn_b47
    have O48 := O47.ext E48
    have KK48 : Keep h0 h48 [] := KK47.ext E48
    have A47_e48 := A47.ext E48
    have Fncoder_47_e48 := Fncoder_47.ext E48
    have Fnvalue_47_e48 := Fnvalue_47.ext E48
    have V48 := Arv.new A48 (by decide)
    refine own_toH (fun t k => st48 t k) ?_
    show own_FinH _ _ _ _ _ _ _ _ (T48.setTop (mkF m 18 #[.val (.int p1), .val (.int p2), .val (.int p3)] [(.ref bc), (.ref b47), (.ref b47)]))
    have V49p : Arv Z h48 bc k48 .char (0 : Int32) [] (.int (0 : Int32)) := V48.pad (pad_rep [] (.int (0 : Int32)) 0)
    obtain ⟨_, _, ⟨T50, L50, k50, n50⟩, -, X50, S50a, S50b, ⟨Lc50, hQ50, l50, y50, z50, hC50⟩, st50⟩ := X48.specialBackS hx (y := (⟨"java/lang/String", "<init>", "([C)V"⟩ : MethodName)) rfl hown (mvT hZ (hw _ (List.mem_of_getElem? (i := 42) rfl))) (mvT hZ (hw _ (List.mem_of_getElem? (i := 43) rfl))) (mvT hZ (hw _ (List.mem_of_getElem? (i := 44) rfl))) (by decide) (own_backH (W := 1) (own_init_0 l Z a0 hw [] b47 bc k48 h48 n0 (Nat.le_trans (Nat.le_trans Z0 E47.1) E48.1) A47_e48 Fnvalue_47_e48 Fncoder_47_e48 g_b47 V49p ne_b47_bc) hZ (hw _ (List.mem_of_getElem? (i := 44) rfl)) (hw _ (List.mem_of_getElem? (i := 40) rfl)) (by decide) (by decide) hEL hH48 (allS ⟨A47_e48.lt, Sf_b47_48⟩ all0)) (g := (mkF m 18 #[.val (.int p1), .val (.int p2), .val (.int p3)] [(.ref bc), (.ref b47), (.ref b47)])) rfl (by rw [hml]; rfl) (Steps.refl _) (a := b47) (argsL := [(.ref bc)]) (rest := [(.ref b47)]) (lenOf own_pd5 rfl) rfl (by show 2 * 0 + _ ≤ _; exact Nat.le_of_eq rfl) (hb hby own_d1_18) (fun _ _ => ⟨rfl, e48, (by decide : 2 + 4 ≤ _), (by decide : 4 + 8 ≤ _)⟩)
    dsimp only [Pt.U, Pt.locs, Pt.cells, Pt.slots] at X50 l50 y50 z50 st50 hQ50 S50a S50b hC50
    subst l50 y50 z50
    obtain ⟨X50r, hS50, hZ, hown⟩ := rebS hS (n1 := T48.heap.size) (by rw [e48]; exact (Nat.le_trans (Nat.le_trans (Nat.zero_le _) E47.1) E48.1)) X50 S50a S50b hZ hown
    obtain ⟨rfl, N50q, K50⟩ := hQ50
    have N50 := Fr.app N0 N50q
    have hR50 := hR48.trans hC50
    have hH50 := hC50.1
    have Sf_b47_50 := hC50.safe A47_e48.lt Sf_b47_48
    have Sf_bc_50 := hC50.safe V49p.lt Sn_bc
    have O50 := O48.keep K50 (allS g_b47 all0)
    have KK50 : Keep h0 T50.heap [] := KK48.trans K50 (allS (Or.inr sz_b47) all0)
    have A47_e50 := A47_e48.keep K50
    have V49p_e50 := V49p.keep K50 (ninS (Ne.symm ne_b47_bc) nin0)
    have A48x_e50 := A48x.keep K50
    refine own_toH (fun t k => st50.trans k) ?_
    show own_FinH _ _ _ _ _ _ _ _ (T50.setTop (mkF m 21 #[.val (.int p1), .val (.int p2), .val (.int p3)] [(.ref b47)]))
    refine own_retRH X50r hS50 (Nat.le_refl _) hZ hEL hH50 hR50 hx hlk hret rfl rfl rfl (hb hby own_d1_21) (by decide) (by decide) ?_
    exact ⟨b47, rfl, N50, KK50, g_b47, sz_b47, A47_e50⟩
  ·
    show own_FinH _ _ _ _ _ _ _ _ (s₁.setTop (mkF m 8 #[.val (.int p1), .val (.int p2), .val (.int p3)] [(.int (1 : Int32)), (.int p1)]))
    refine own_toH (fun t k => XS.icmpYes X0.here hx rfl (pc0 := 8) (pc' := 22) rfl (hb hby own_d1_8) rfl (feq hc8_46).2 (by decide) (by decide) k) ?_
    show own_FinH _ _ _ _ _ _ _ _ (s₁.setTop (mkF m 22 #[.val (.int p1), .val (.int p2), .val (.int p3)] []))
    refine own_toH (fun t k => XS.iloadN X0.here hx rfl (hb hby own_d1_22) rfl k) ?_
    show own_FinH _ _ _ _ _ _ _ _ (s₁.setTop (mkF m 23 #[.val (.int p1), .val (.int p2), .val (.int p3)] [(.int p1)]))
    refine own_toH (fun t k => XS.iconst X0.here hx rfl (hb hby own_d1_23) k) ?_
    show own_FinH _ _ _ _ _ _ _ _ (s₁.setTop (mkF m 24 #[.val (.int p1), .val (.int p2), .val (.int p3)] [(.int (2 : Int32)), (.int p1)]))
    by_cases hc24_51 : p1 = (2 : Int32)
    ·
      show own_FinH _ _ _ _ _ _ _ _ (s₁.setTop (mkF m 24 #[.val (.int p1), .val (.int p2), .val (.int p3)] [(.int (2 : Int32)), (.int p1)]))
      refine own_toH (fun t k => XS.icmpNo X0.here hx rfl (hb hby own_d1_24) rfl (teq hc24_51).2 k) ?_
      show own_FinH _ _ _ _ _ _ _ _ (s₁.setTop (mkF m 27 #[.val (.int p1), .val (.int p2), .val (.int p3)] []))
      obtain ⟨T52, h52, X52, e52, E52, A52, D52, U52, st52⟩ := newO X0 hx hZ hown (hw _ (List.mem_of_getElem? (i := 38) rfl)) (hw _ (List.mem_of_getElem? (i := 39) rfl)) (hw _ (List.mem_of_getElem? (i := 40) rfl)) e0 (g := (mkF m 27 #[.val (.int p1), .val (.int p2), .val (.int p3)] [])) rfl (hb hby own_d1_27) (by decide) (by decide)
      obtain ⟨b52, q52⟩ : ∃ z, z = h0.size := ⟨_, rfl⟩
      rw [← q52] at A52 D52 U52 st52
      have g_b52 : n0 ≤ b52 := Nat.le_trans Z0 (Nat.le_of_eq q52.symm)
      have sz_b52 : h0.size ≤ b52 := Nat.le_trans KK0.1 (Nat.le_of_eq q52.symm)
      have Sn_b52 : Safe Z own_EL _ h52 b52 := Safe.ext E52 hH (Safe.new (Nat.le_of_eq q52.symm))
      have hR52 := hR.trans (CHr.ext E52 hH)
      have hH52 := hH.ext E52
      have O52 := O0.ext E52
      have KK52 : Keep h0 h52 [] := KK0.ext E52
      have Fncoder_52 : Fld Z h52 b52 "java/lang/String" "coder" "B" (.int (0 : Int32)) := D52 (Or.inr (hw _ (List.mem_of_getElem? (i := 63) rfl))) (ty := .byte) (by decide)
      have Fnvalue_52 : Fld Z h52 b52 "java/lang/String" "value" "[B" .null := D52 (Or.inr (hw _ (List.mem_of_getElem? (i := 65) rfl))) (ty := (.array .byte)) (by decide)
      refine own_toH (fun t k => st52 t k) ?_
      show own_FinH _ _ _ _ _ _ _ _ (T52.setTop (mkF m 30 #[.val (.int p1), .val (.int p2), .val (.int p3)] [(.ref b52)]))
      refine own_toH (fun t k => XS.dup X52.here hx rfl (hb hby own_d1_30) rfl rfl k) ?_
      show own_FinH _ _ _ _ _ _ _ _ (T52.setTop (mkF m 31 #[.val (.int p1), .val (.int p2), .val (.int p3)] [(.ref b52), (.ref b52)]))
      refine own_toH (fun t k => XS.iconst X52.here hx rfl (hb hby own_d1_31) k) ?_
      show own_FinH _ _ _ _ _ _ _ _ (T52.setTop (mkF m 32 #[.val (.int p1), .val (.int p2), .val (.int p3)] [(.int (1 : Int32)), (.ref b52), (.ref b52)]))
      obtain ⟨T53, h53, k53, X53, e53, E53, A53, A53x, st53⟩ := newPE X52 hx hZ (hw _ (List.mem_of_getElem? (i := 41) rfl)) e52 (g := (mkF m 32 #[.val (.int p1), .val (.int p2), .val (.int p3)] [(.int (1 : Int32)), (.ref b52), (.ref b52)])) rfl (hb hby own_d1_32) rfl (by decide) (cap := 1) (by decide) (by decide) (by decide) (by decide) (ad := "[C") (by decide)
      obtain ⟨bc, q53⟩ : ∃ z, z = h52.size := ⟨_, rfl⟩
      rw [← q53] at A53 A53x st53
      have ne_b52_bc : b52 ≠ bc := Nat.ne_of_lt (Nat.lt_of_lt_of_le A52.lt (Nat.le_of_eq q53.symm))
      have g_bc : n0 ≤ bc := Nat.le_trans (Nat.le_trans Z0 E52.1) (Nat.le_of_eq q53.symm)
      have sz_bc : h0.size ≤ bc := Nat.le_trans KK52.1 (Nat.le_of_eq q53.symm)
      have Sn_bc : Safe Z own_EL _ h53 bc := Safe.ext E53 hH52 (Safe.new (Nat.le_of_eq q53.symm))
      have hR53 := hR52.trans (CHr.ext E53 hH52)
      have hH53 := hH52.ext E53
      have Sf_b52_53 := Safe.ext E53 hH52 Sn_b52
      have O53 := O52.ext E53
      have KK53 : Keep h0 h53 [] := KK52.ext E53
      have A52_e53 := A52.ext E53
      have Fncoder_52_e53 := Fncoder_52.ext E53
      have Fnvalue_52_e53 := Fnvalue_52.ext E53
      have V53 := Arv.new A53 (by decide)
      refine own_toH (fun t k => st53 t k) ?_
      show own_FinH _ _ _ _ _ _ _ _ (T53.setTop (mkF m 34 #[.val (.int p1), .val (.int p2), .val (.int p3)] [(.ref bc), (.ref b52), (.ref b52)]))
      have V54p : Arv Z h53 bc k53 .char (1 : Int32) [(.int (0 : Int32))] (.int (0 : Int32)) := V53.pad (pad_rep [] (.int (0 : Int32)) 1)
      refine own_toH (fun t k => XS.dup X53.here hx rfl (hb hby own_d1_34) rfl rfl k) ?_
      show own_FinH _ _ _ _ _ _ _ _ (T53.setTop (mkF m 35 #[.val (.int p1), .val (.int p2), .val (.int p3)] [(.ref bc), (.ref bc), (.ref b52), (.ref b52)]))
      refine own_toH (fun t k => XS.iconst X53.here hx rfl (hb hby own_d1_35) k) ?_
      show own_FinH _ _ _ _ _ _ _ _ (T53.setTop (mkF m 36 #[.val (.int p1), .val (.int p2), .val (.int p3)] [(.int (0 : Int32)), (.ref bc), (.ref bc), (.ref b52), (.ref b52)]))
      refine own_toH (fun t k => XS.iloadN X53.here hx rfl (hb hby own_d1_36) rfl k) ?_
      show own_FinH _ _ _ _ _ _ _ _ (T53.setTop (mkF m 37 #[.val (.int p1), .val (.int p2), .val (.int p3)] [(.int p2), (.int (0 : Int32)), (.ref bc), (.ref bc), (.ref b52), (.ref b52)]))
      refine own_toH (fun t k => XS.sipush X53.here hx rfl (hb hby own_d1_37) k) ?_
      show own_FinH _ _ _ _ _ _ _ _ (T53.setTop (mkF m 40 #[.val (.int p1), .val (.int p2), .val (.int p3)] [(.int (255 : Int32)), (.int p2), (.int (0 : Int32)), (.ref bc), (.ref bc), (.ref b52), (.ref b52)]))
      refine own_toH (fun t k => XS.iand X53.here hx rfl (hb hby own_d1_40) rfl k) ?_
      show own_FinH _ _ _ _ _ _ _ _ (T53.setTop (mkF m 41 #[.val (.int p1), .val (.int p2), .val (.int p3)] [(.int (p2 &&& (255 : Int32))), (.int (0 : Int32)), (.ref bc), (.ref bc), (.ref b52), (.ref b52)]))
      refine own_toH (fun t k => XS.i2c X53.here hx rfl (hb hby own_d1_41) rfl k) ?_
      show own_FinH _ _ _ _ _ _ _ _ (T53.setTop (mkF m 42 #[.val (.int p1), .val (.int p2), .val (.int p3)] [(.int ((p2 &&& (255 : Int32)).toUInt32.toUInt16.toUInt32.toInt32)), (.int (0 : Int32)), (.ref bc), (.ref bc), (.ref b52), (.ref b52)]))
      obtain ⟨cl55, Ar55, qa55, Sa55, Na55, Ha55, Ga55⟩ := id V54p
      have hin56 : ¬ ((0 : Int32) < 0 ∨ cl55.slots.size ≤ ((0 : Int32)).toNatClampNeg) := inb_of Sa55 ⟨by decide, by decide⟩
      obtain ⟨T56, h56, X56, e56, W56, st56⟩ := stC X53 hx hZ e53 Ar55 (j := (0 : Int32)) hin56 (g := (mkF m 42 #[.val (.int p1), .val (.int p2), .val (.int p3)] [(.int ((p2 &&& (255 : Int32)).toUInt32.toUInt16.toUInt32.toInt32)), (.int (0 : Int32)), (.ref bc), (.ref bc), (.ref b52), (.ref b52)])) rfl rfl (hb hby own_d1_42)
      rw [own_nc p2] at W56
      have N56 := Fr.snoc X56 N0 g_bc
      have hR56 := hR53.trans (CHr.wr W56 Sn_bc hH53)
      have hH56 := CHv.wr W56 Sn_bc hH53
      have Sf_b52_56 := Safe.wr W56 Sn_bc hH53 Sf_b52_53
      have Sf_bc_56 := Safe.wr W56 Sn_bc hH53 Sn_bc
      have O56 := O53.wr W56 g_bc
      have KK56 : Keep h0 h56 [] := KK53.wr W56 (Or.inr sz_bc)
      have A52_e56 := A52_e53.wr W56
      have Fncoder_52_e56 := Fncoder_52_e53.other W56 (Or.inl ne_b52_bc)
      have Fnvalue_52_e56 := Fnvalue_52_e53.other W56 (Or.inl ne_b52_bc)
      have A53x_e56 := A53x.wr W56
      have V56 : Arv Z h56 bc k53 .char (1 : Int32) [(.int (p2 &&& (255 : Int32)))] (.int (0 : Int32)) := Arv.set Ar55 qa55 Sa55 Na55 Ha55 Ga55 (own_fc p2) W56 0 rfl (Nat.le_of_ble_eq_true rfl)
      refine own_toH (fun t k => st56 t k) ?_
      show own_FinH _ _ _ _ _ _ _ _ (T56.setTop (mkF m 43 #[.val (.int p1), .val (.int p2), .val (.int p3)] [(.ref bc), (.ref b52), (.ref b52)]))
      obtain ⟨_, _, ⟨T57, L57, k57, n57⟩, -, X57, ⟨Lc57, hQ57, l57, y57, z57⟩, st57⟩ := X56.specialBack hx (y := (⟨"java/lang/String", "<init>", "([C)V"⟩ : MethodName)) rfl hown (mvT hZ (hw _ (List.mem_of_getElem? (i := 42) rfl))) (mvT hZ (hw _ (List.mem_of_getElem? (i := 43) rfl))) (mvT hZ (hw _ (List.mem_of_getElem? (i := 44) rfl))) (by decide) (own_back (W := 1) (own_init_1 l Z a0 hw [] cs b52 bc k53 (p2 &&& (255 : Int32)) h56 n0 (Nat.le_trans (Nat.le_trans (Nat.le_trans Z0 E52.1) E53.1) (Keep.of_wr W56).1) O56 SS hcs A52_e56 Fnvalue_52_e56 Fncoder_52_e56 g_b52 V56 ne_b52_bc (own_255 p2)) hZ (hw _ (List.mem_of_getElem? (i := 44) rfl)) (hw _ (List.mem_of_getElem? (i := 40) rfl)) (by decide) (by decide)) (g := (mkF m 43 #[.val (.int p1), .val (.int p2), .val (.int p3)] [(.ref bc), (.ref b52), (.ref b52)])) rfl (by rw [hml]; rfl) (Steps.refl _) (a := b52) (argsL := [(.ref bc)]) (rest := [(.ref b52)]) (lenOf own_pd5 rfl) rfl (by show 2 * 0 + _ ≤ _; exact Nat.le_of_eq rfl) (hb hby own_d1_43) (fun _ _ => ⟨rfl, e56, (by decide : 2 + 1 ≤ _), (by decide : 5 + 1 ≤ _)⟩)
      dsimp only [Pt.U, Pt.locs, Pt.cells, Pt.slots] at X57 l57 y57 z57 st57 hQ57
      subst l57 y57 z57
      obtain ⟨rfl, N57q, K57⟩ := hQ57
      have N57 := Fr.app N56 N57q
      have hR57 := hR56.trans (CHr.keep K57 (sfS Sf_b52_56 sf0) hH56)
      have hH57 := CHv.keep K57 (sfS Sf_b52_56 sf0) hH56
      have Sf_b52_57 := Safe.keep K57 (sfS Sf_b52_56 sf0) hH56 Sf_b52_56
      have Sf_bc_57 := Safe.keep K57 (sfS Sf_b52_56 sf0) hH56 Sf_bc_56
      have O57 := O56.keep K57 (allS g_b52 all0)
      have KK57 : Keep h0 T57.heap [] := KK56.trans K57 (allS (Or.inr sz_b52) all0)
      have A52_e57 := A52_e56.keep K57
      have A53x_e57 := A53x_e56.keep K57
      have V56_e57 := V56.keep K57 (ninS (Ne.symm ne_b52_bc) nin0)
      refine own_toH (fun t k => st57.trans k) ?_
      show own_FinH _ _ _ _ _ _ _ _ (T57.setTop (mkF m 46 #[.val (.int p1), .val (.int p2), .val (.int p3)] [(.ref b52)]))
      refine own_retRH X57 hS (Nat.le_trans (Nat.le_trans (Nat.le_trans (Nat.le_trans (Nat.zero_le _) E52.1) E53.1) (Keep.of_wr W56).1) K57.1) hZ hEL hH57 hR57 hx hlk hret rfl rfl rfl (hb hby own_d1_46) (by decide) (by decide) ?_
      exact ⟨b52, rfl, N57, KK57, g_b52, sz_b52, A52_e57⟩
    ·
      show own_FinH _ _ _ _ _ _ _ _ (s₁.setTop (mkF m 24 #[.val (.int p1), .val (.int p2), .val (.int p3)] [(.int (2 : Int32)), (.int p1)]))
      refine own_toH (fun t k => XS.icmpYes X0.here hx rfl (pc0 := 24) (pc' := 47) rfl (hb hby own_d1_24) rfl (feq hc24_51).2 (by decide) (by decide) k) ?_
      show own_FinH _ _ _ _ _ _ _ _ (s₁.setTop (mkF m 47 #[.val (.int p1), .val (.int p2), .val (.int p3)] []))
      obtain ⟨T58, h58, X58, e58, E58, A58, D58, U58, st58⟩ := newO X0 hx hZ hown (hw _ (List.mem_of_getElem? (i := 38) rfl)) (hw _ (List.mem_of_getElem? (i := 39) rfl)) (hw _ (List.mem_of_getElem? (i := 40) rfl)) e0 (g := (mkF m 47 #[.val (.int p1), .val (.int p2), .val (.int p3)] [])) rfl (hb hby own_d1_47) (by decide) (by decide)
      obtain ⟨b58, q58⟩ : ∃ z, z = h0.size := ⟨_, rfl⟩
      rw [← q58] at A58 D58 U58 st58
      have g_b58 : n0 ≤ b58 := Nat.le_trans Z0 (Nat.le_of_eq q58.symm)
      have sz_b58 : h0.size ≤ b58 := Nat.le_trans KK0.1 (Nat.le_of_eq q58.symm)
      have Sn_b58 : Safe Z own_EL _ h58 b58 := Safe.ext E58 hH (Safe.new (Nat.le_of_eq q58.symm))
      have hR58 := hR.trans (CHr.ext E58 hH)
      have hH58 := hH.ext E58
      have O58 := O0.ext E58
      have KK58 : Keep h0 h58 [] := KK0.ext E58
      have Fncoder_58 : Fld Z h58 b58 "java/lang/String" "coder" "B" (.int (0 : Int32)) := D58 (Or.inr (hw _ (List.mem_of_getElem? (i := 63) rfl))) (ty := .byte) (by decide)
      have Fnvalue_58 : Fld Z h58 b58 "java/lang/String" "value" "[B" .null := D58 (Or.inr (hw _ (List.mem_of_getElem? (i := 65) rfl))) (ty := (.array .byte)) (by decide)
      refine own_toH (fun t k => st58 t k) ?_
      show own_FinH _ _ _ _ _ _ _ _ (T58.setTop (mkF m 50 #[.val (.int p1), .val (.int p2), .val (.int p3)] [(.ref b58)]))
      refine own_toH (fun t k => XS.dup X58.here hx rfl (hb hby own_d1_50) rfl rfl k) ?_
      show own_FinH _ _ _ _ _ _ _ _ (T58.setTop (mkF m 51 #[.val (.int p1), .val (.int p2), .val (.int p3)] [(.ref b58), (.ref b58)]))
      refine own_toH (fun t k => XS.iconst X58.here hx rfl (hb hby own_d1_51) k) ?_
      show own_FinH _ _ _ _ _ _ _ _ (T58.setTop (mkF m 52 #[.val (.int p1), .val (.int p2), .val (.int p3)] [(.int (2 : Int32)), (.ref b58), (.ref b58)]))
      obtain ⟨T59, h59, k59, X59, e59, E59, A59, A59x, st59⟩ := newPE X58 hx hZ (hw _ (List.mem_of_getElem? (i := 41) rfl)) e58 (g := (mkF m 52 #[.val (.int p1), .val (.int p2), .val (.int p3)] [(.int (2 : Int32)), (.ref b58), (.ref b58)])) rfl (hb hby own_d1_52) rfl (by decide) (cap := 2) (by decide) (by decide) (by decide) (by decide) (ad := "[C") (by decide)
      obtain ⟨bc, q59⟩ : ∃ z, z = h58.size := ⟨_, rfl⟩
      rw [← q59] at A59 A59x st59
      have ne_b58_bc : b58 ≠ bc := Nat.ne_of_lt (Nat.lt_of_lt_of_le A58.lt (Nat.le_of_eq q59.symm))
      have g_bc : n0 ≤ bc := Nat.le_trans (Nat.le_trans Z0 E58.1) (Nat.le_of_eq q59.symm)
      have sz_bc : h0.size ≤ bc := Nat.le_trans KK58.1 (Nat.le_of_eq q59.symm)
      have Sn_bc : Safe Z own_EL _ h59 bc := Safe.ext E59 hH58 (Safe.new (Nat.le_of_eq q59.symm))
      have hR59 := hR58.trans (CHr.ext E59 hH58)
      have hH59 := hH58.ext E59
      have Sf_b58_59 := Safe.ext E59 hH58 Sn_b58
      have O59 := O58.ext E59
      have KK59 : Keep h0 h59 [] := KK58.ext E59
      have A58_e59 := A58.ext E59
      have Fncoder_58_e59 := Fncoder_58.ext E59
      have Fnvalue_58_e59 := Fnvalue_58.ext E59
      have V59 := Arv.new A59 (by decide)
      refine own_toH (fun t k => st59 t k) ?_
      show own_FinH _ _ _ _ _ _ _ _ (T59.setTop (mkF m 54 #[.val (.int p1), .val (.int p2), .val (.int p3)] [(.ref bc), (.ref b58), (.ref b58)]))
      have V60p : Arv Z h59 bc k59 .char (2 : Int32) [(.int (0 : Int32)), (.int (0 : Int32))] (.int (0 : Int32)) := V59.pad (pad_rep [] (.int (0 : Int32)) 2)
      refine own_toH (fun t k => XS.dup X59.here hx rfl (hb hby own_d1_54) rfl rfl k) ?_
      show own_FinH _ _ _ _ _ _ _ _ (T59.setTop (mkF m 55 #[.val (.int p1), .val (.int p2), .val (.int p3)] [(.ref bc), (.ref bc), (.ref b58), (.ref b58)]))
      refine own_toH (fun t k => XS.iconst X59.here hx rfl (hb hby own_d1_55) k) ?_
      show own_FinH _ _ _ _ _ _ _ _ (T59.setTop (mkF m 56 #[.val (.int p1), .val (.int p2), .val (.int p3)] [(.int (0 : Int32)), (.ref bc), (.ref bc), (.ref b58), (.ref b58)]))
      refine own_toH (fun t k => XS.iloadN X59.here hx rfl (hb hby own_d1_56) rfl k) ?_
      show own_FinH _ _ _ _ _ _ _ _ (T59.setTop (mkF m 57 #[.val (.int p1), .val (.int p2), .val (.int p3)] [(.int p2), (.int (0 : Int32)), (.ref bc), (.ref bc), (.ref b58), (.ref b58)]))
      refine own_toH (fun t k => XS.sipush X59.here hx rfl (hb hby own_d1_57) k) ?_
      show own_FinH _ _ _ _ _ _ _ _ (T59.setTop (mkF m 60 #[.val (.int p1), .val (.int p2), .val (.int p3)] [(.int (255 : Int32)), (.int p2), (.int (0 : Int32)), (.ref bc), (.ref bc), (.ref b58), (.ref b58)]))
      refine own_toH (fun t k => XS.iand X59.here hx rfl (hb hby own_d1_60) rfl k) ?_
      show own_FinH _ _ _ _ _ _ _ _ (T59.setTop (mkF m 61 #[.val (.int p1), .val (.int p2), .val (.int p3)] [(.int (p2 &&& (255 : Int32))), (.int (0 : Int32)), (.ref bc), (.ref bc), (.ref b58), (.ref b58)]))
      refine own_toH (fun t k => XS.i2c X59.here hx rfl (hb hby own_d1_61) rfl k) ?_
      show own_FinH _ _ _ _ _ _ _ _ (T59.setTop (mkF m 62 #[.val (.int p1), .val (.int p2), .val (.int p3)] [(.int ((p2 &&& (255 : Int32)).toUInt32.toUInt16.toUInt32.toInt32)), (.int (0 : Int32)), (.ref bc), (.ref bc), (.ref b58), (.ref b58)]))
      obtain ⟨cl61, Ar61, qa61, Sa61, Na61, Ha61, Ga61⟩ := id V60p
      have hin62 : ¬ ((0 : Int32) < 0 ∨ cl61.slots.size ≤ ((0 : Int32)).toNatClampNeg) := inb_of Sa61 ⟨by decide, by decide⟩
      obtain ⟨T62, h62, X62, e62, W62, st62⟩ := stC X59 hx hZ e59 Ar61 (j := (0 : Int32)) hin62 (g := (mkF m 62 #[.val (.int p1), .val (.int p2), .val (.int p3)] [(.int ((p2 &&& (255 : Int32)).toUInt32.toUInt16.toUInt32.toInt32)), (.int (0 : Int32)), (.ref bc), (.ref bc), (.ref b58), (.ref b58)])) rfl rfl (hb hby own_d1_62)
      rw [own_nc p2] at W62
      have N62 := Fr.snoc X62 N0 g_bc
      have hR62 := hR59.trans (CHr.wr W62 Sn_bc hH59)
      have hH62 := CHv.wr W62 Sn_bc hH59
      have Sf_b58_62 := Safe.wr W62 Sn_bc hH59 Sf_b58_59
      have Sf_bc_62 := Safe.wr W62 Sn_bc hH59 Sn_bc
      have O62 := O59.wr W62 g_bc
      have KK62 : Keep h0 h62 [] := KK59.wr W62 (Or.inr sz_bc)
      have A58_e62 := A58_e59.wr W62
      have Fncoder_58_e62 := Fncoder_58_e59.other W62 (Or.inl ne_b58_bc)
      have Fnvalue_58_e62 := Fnvalue_58_e59.other W62 (Or.inl ne_b58_bc)
      have A59x_e62 := A59x.wr W62
      have V62 : Arv Z h62 bc k59 .char (2 : Int32) [(.int (p2 &&& (255 : Int32))), (.int (0 : Int32))] (.int (0 : Int32)) := Arv.set Ar61 qa61 Sa61 Na61 Ha61 Ga61 (own_fc p2) W62 0 rfl (Nat.le_of_ble_eq_true rfl)
      refine own_toH (fun t k => st62 t k) ?_
      show own_FinH _ _ _ _ _ _ _ _ (T62.setTop (mkF m 63 #[.val (.int p1), .val (.int p2), .val (.int p3)] [(.ref bc), (.ref b58), (.ref b58)]))
      refine own_toH (fun t k => XS.dup X62.here hx rfl (hb hby own_d1_63) rfl rfl k) ?_
      show own_FinH _ _ _ _ _ _ _ _ (T62.setTop (mkF m 64 #[.val (.int p1), .val (.int p2), .val (.int p3)] [(.ref bc), (.ref bc), (.ref b58), (.ref b58)]))
      refine own_toH (fun t k => XS.iconst X62.here hx rfl (hb hby own_d1_64) k) ?_
      show own_FinH _ _ _ _ _ _ _ _ (T62.setTop (mkF m 65 #[.val (.int p1), .val (.int p2), .val (.int p3)] [(.int (1 : Int32)), (.ref bc), (.ref bc), (.ref b58), (.ref b58)]))
      refine own_toH (fun t k => XS.iloadN X62.here hx rfl (hb hby own_d1_65) rfl k) ?_
      show own_FinH _ _ _ _ _ _ _ _ (T62.setTop (mkF m 66 #[.val (.int p1), .val (.int p2), .val (.int p3)] [(.int p3), (.int (1 : Int32)), (.ref bc), (.ref bc), (.ref b58), (.ref b58)]))
      refine own_toH (fun t k => XS.sipush X62.here hx rfl (hb hby own_d1_66) k) ?_
      show own_FinH _ _ _ _ _ _ _ _ (T62.setTop (mkF m 69 #[.val (.int p1), .val (.int p2), .val (.int p3)] [(.int (255 : Int32)), (.int p3), (.int (1 : Int32)), (.ref bc), (.ref bc), (.ref b58), (.ref b58)]))
      refine own_toH (fun t k => XS.iand X62.here hx rfl (hb hby own_d1_69) rfl k) ?_
      show own_FinH _ _ _ _ _ _ _ _ (T62.setTop (mkF m 70 #[.val (.int p1), .val (.int p2), .val (.int p3)] [(.int (p3 &&& (255 : Int32))), (.int (1 : Int32)), (.ref bc), (.ref bc), (.ref b58), (.ref b58)]))
      refine own_toH (fun t k => XS.i2c X62.here hx rfl (hb hby own_d1_70) rfl k) ?_
      show own_FinH _ _ _ _ _ _ _ _ (T62.setTop (mkF m 71 #[.val (.int p1), .val (.int p2), .val (.int p3)] [(.int ((p3 &&& (255 : Int32)).toUInt32.toUInt16.toUInt32.toInt32)), (.int (1 : Int32)), (.ref bc), (.ref bc), (.ref b58), (.ref b58)]))
      obtain ⟨cl63, Ar63, qa63, Sa63, Na63, Ha63, Ga63⟩ := id V62
      have hin64 : ¬ ((1 : Int32) < 0 ∨ cl63.slots.size ≤ ((1 : Int32)).toNatClampNeg) := inb_of Sa63 ⟨by decide, by decide⟩
      obtain ⟨T64, h64, X64, e64, W64, st64⟩ := stC X62 hx hZ e62 Ar63 (j := (1 : Int32)) hin64 (g := (mkF m 71 #[.val (.int p1), .val (.int p2), .val (.int p3)] [(.int ((p3 &&& (255 : Int32)).toUInt32.toUInt16.toUInt32.toInt32)), (.int (1 : Int32)), (.ref bc), (.ref bc), (.ref b58), (.ref b58)])) rfl rfl (hb hby own_d1_71)
      rw [own_nc p3] at W64
      have N64 := Fr.snoc X64 N62 g_bc
      have hR64 := hR62.trans (CHr.wr W64 Sf_bc_62 hH62)
      have hH64 := CHv.wr W64 Sf_bc_62 hH62
      have Sf_b58_64 := Safe.wr W64 Sf_bc_62 hH62 Sf_b58_62
      have Sf_bc_64 := Safe.wr W64 Sf_bc_62 hH62 Sf_bc_62
      have O64 := O62.wr W64 g_bc
      have KK64 : Keep h0 h64 [] := KK62.wr W64 (Or.inr sz_bc)
      have A58_e64 := A58_e62.wr W64
      have Fncoder_58_e64 := Fncoder_58_e62.other W64 (Or.inl ne_b58_bc)
      have Fnvalue_58_e64 := Fnvalue_58_e62.other W64 (Or.inl ne_b58_bc)
      have A59x_e64 := A59x_e62.wr W64
      have V64 : Arv Z h64 bc k59 .char (2 : Int32) [(.int (p2 &&& (255 : Int32))), (.int (p3 &&& (255 : Int32)))] (.int (0 : Int32)) := Arv.set Ar63 qa63 Sa63 Na63 Ha63 Ga63 (own_fc p3) W64 1 rfl (Nat.le_of_ble_eq_true rfl)
      refine own_toH (fun t k => st64 t k) ?_
      show own_FinH _ _ _ _ _ _ _ _ (T64.setTop (mkF m 72 #[.val (.int p1), .val (.int p2), .val (.int p3)] [(.ref bc), (.ref b58), (.ref b58)]))
      obtain ⟨_, _, ⟨T65, L65, k65, n65⟩, -, X65, ⟨Lc65, hQ65, l65, y65, z65⟩, st65⟩ := X64.specialBack hx (y := (⟨"java/lang/String", "<init>", "([C)V"⟩ : MethodName)) rfl hown (mvT hZ (hw _ (List.mem_of_getElem? (i := 42) rfl))) (mvT hZ (hw _ (List.mem_of_getElem? (i := 43) rfl))) (mvT hZ (hw _ (List.mem_of_getElem? (i := 44) rfl))) (by decide) (own_back (W := 1) (own_init_2 l Z a0 hw [] cs b58 bc k59 (p2 &&& (255 : Int32)) (p3 &&& (255 : Int32)) h64 n0 (Nat.le_trans (Nat.le_trans (Nat.le_trans (Nat.le_trans Z0 E58.1) E59.1) (Keep.of_wr W62).1) (Keep.of_wr W64).1) O64 SS hcs A58_e64 Fnvalue_58_e64 Fncoder_58_e64 g_b58 V64 ne_b58_bc (own_255 p2) (own_255 p3)) hZ (hw _ (List.mem_of_getElem? (i := 44) rfl)) (hw _ (List.mem_of_getElem? (i := 40) rfl)) (by decide) (by decide)) (g := (mkF m 72 #[.val (.int p1), .val (.int p2), .val (.int p3)] [(.ref bc), (.ref b58), (.ref b58)])) rfl (by rw [hml]; rfl) (Steps.refl _) (a := b58) (argsL := [(.ref bc)]) (rest := [(.ref b58)]) (lenOf own_pd5 rfl) rfl (by show 2 * 0 + _ ≤ _; exact Nat.le_of_eq rfl) (hb hby own_d1_72) (fun _ _ => ⟨rfl, e64, (by decide : 2 + 1 ≤ _), (by decide : 6 + 2 ≤ _)⟩)
      dsimp only [Pt.U, Pt.locs, Pt.cells, Pt.slots] at X65 l65 y65 z65 st65 hQ65
      subst l65 y65 z65
      obtain ⟨rfl, N65q, K65⟩ := hQ65
      have N65 := Fr.app N64 N65q
      have hR65 := hR64.trans (CHr.keep K65 (sfS Sf_b58_64 sf0) hH64)
      have hH65 := CHv.keep K65 (sfS Sf_b58_64 sf0) hH64
      have Sf_b58_65 := Safe.keep K65 (sfS Sf_b58_64 sf0) hH64 Sf_b58_64
      have Sf_bc_65 := Safe.keep K65 (sfS Sf_b58_64 sf0) hH64 Sf_bc_64
      have O65 := O64.keep K65 (allS g_b58 all0)
      have KK65 : Keep h0 T65.heap [] := KK64.trans K65 (allS (Or.inr sz_b58) all0)
      have A58_e65 := A58_e64.keep K65
      have A59x_e65 := A59x_e64.keep K65
      have V64_e65 := V64.keep K65 (ninS (Ne.symm ne_b58_bc) nin0)
      refine own_toH (fun t k => st65.trans k) ?_
      show own_FinH _ _ _ _ _ _ _ _ (T65.setTop (mkF m 75 #[.val (.int p1), .val (.int p2), .val (.int p3)] [(.ref b58)]))
      refine own_retRH X65 hS (Nat.le_trans (Nat.le_trans (Nat.le_trans (Nat.le_trans (Nat.le_trans (Nat.zero_le _) E58.1) E59.1) (Keep.of_wr W62).1) (Keep.of_wr W64).1) K65.1) hZ hEL hH65 hR65 hx hlk hret rfl rfl rfl (hb hby own_d1_75) (by decide) (by decide) ?_
      exact ⟨b58, rfl, N65, KK65, g_b58, sz_b58, A58_e65⟩
def own_pick (p1 : Int32) (q1 : Int64) : Int64 := (if p1 = (1 : Int32) then (-1 : Int64) else (if p1 = (2 : Int32) then (0 : Int64) else (if p1 = (3 : Int32) then (-9223372036854775808 : Int64) else q1)))
theorem own_d2_0 : decode method_3_code 0 = .ok (.iload_n 0, 1) := by decide +kernel
theorem own_d2_1 : decode method_3_code 1 = .ok (.iconst 1, 1) := by decide +kernel
theorem own_d2_2 : decode method_3_code 2 = .ok (.if_icmp .ne 7, 3) := by decide +kernel
theorem own_d2_5 : decode method_3_code 5 = .ok (.ldc2_w 12, 3) := by decide +kernel
theorem own_d2_8 : decode method_3_code 8 = .ok (.lreturn, 1) := by decide +kernel
theorem own_d2_9 : decode method_3_code 9 = .ok (.iload_n 0, 1) := by decide +kernel
theorem own_d2_10 : decode method_3_code 10 = .ok (.iconst 2, 1) := by decide +kernel
theorem own_d2_11 : decode method_3_code 11 = .ok (.if_icmp .ne 5, 3) := by decide +kernel
theorem own_d2_14 : decode method_3_code 14 = .ok (.lconst 0, 1) := by decide +kernel
theorem own_d2_15 : decode method_3_code 15 = .ok (.lreturn, 1) := by decide +kernel
theorem own_d2_16 : decode method_3_code 16 = .ok (.iload_n 0, 1) := by decide +kernel
theorem own_d2_17 : decode method_3_code 17 = .ok (.iconst 3, 1) := by decide +kernel
theorem own_d2_18 : decode method_3_code 18 = .ok (.if_icmp .ne 7, 3) := by decide +kernel
theorem own_d2_21 : decode method_3_code 21 = .ok (.ldc2_w 16, 3) := by decide +kernel
theorem own_d2_24 : decode method_3_code 24 = .ok (.lreturn, 1) := by decide +kernel
theorem own_d2_25 : decode method_3_code 25 = .ok (.lload_n 1, 1) := by decide +kernel
theorem own_d2_26 : decode method_3_code 26 = .ok (.lreturn, 1) := by decide +kernel
theorem own_rm2_ef (m : MethodId) (p1 : Int32) (q1 : Int64) : entryFrame m #[(.int p1), (.long q1)] 3 = mkF m 0 #[.val (.int p1), .val (.long q1), .second] [] := by first | (simp [entryFrame, mkF, argsToLocals, Value.category]; done) | rfl
set_option maxRecDepth 65536 in
set_option maxHeartbeats 40000000 in
theorem own_rm2 (l : Launch) (Z : State) (a0 : Array Value) (hw : ∀ d ∈ tables_1, d.before a0 Z = true) (ws : List Jvm.Cond) (p1 : Int32) (q1 : Int64) (h0 : Heap) (n0 : Nat) (Z0 : n0 ≤ h0.size) :
    own_Met l Z (⟨"com/example/deft_lock/deftlock/service/ServerInfoTellsUptimePinLaw", "pickUptime", "(IJ)J"⟩ : MethodName) method_3_code 3 (some .long) ws ({ frames := 0, cells := 0, slots := 0, locals := 0 } : Room) #[(.int p1), (.long q1)] h0 (fun v h L => v = some (.long (own_pick p1 q1)) ∧ Fr n0 L ∧ h = h0) := by
  refine own_enter (plainFor_of_name own_pn2) ?_
  intro p e s m below meth c s₁ X0 hx hZ hby hml hown hnm hret hlk e0
  have N0 := Fr.nil n0
  rw [own_rm2_ef m p1 q1]
  show own_Fin _ _ _ _ _ _ (s₁.setTop (mkF m 0 #[.val (.int p1), .val (.long q1), .second] []))
  refine own_to (fun t k => XS.iloadN X0.here hx rfl (hb hby own_d2_0) rfl k) ?_
  show own_Fin _ _ _ _ _ _ (s₁.setTop (mkF m 1 #[.val (.int p1), .val (.long q1), .second] [(.int p1)]))
  refine own_to (fun t k => XS.iconst X0.here hx rfl (hb hby own_d2_1) k) ?_
  show own_Fin _ _ _ _ _ _ (s₁.setTop (mkF m 2 #[.val (.int p1), .val (.long q1), .second] [(.int (1 : Int32)), (.int p1)]))
  by_cases hc2_66 : p1 = (1 : Int32)
  ·
    show own_Fin _ _ _ _ _ _ (s₁.setTop (mkF m 2 #[.val (.int p1), .val (.long q1), .second] [(.int (1 : Int32)), (.int p1)]))
    refine own_to (fun t k => XS.icmpNo X0.here hx rfl (hb hby own_d2_2) rfl (teq hc2_66).2 k) ?_
    show own_Fin _ _ _ _ _ _ (s₁.setTop (mkF m 5 #[.val (.int p1), .val (.long q1), .second] []))
    refine own_to (fun t k => X0.ldc2Long hx hown (mvT hZ (hw _ (List.mem_of_getElem? (i := 70) rfl))) (g := (mkF m 5 #[.val (.int p1), .val (.long q1), .second] [])) rfl (hb hby own_d2_5) _ k) ?_
    show own_Fin _ _ _ _ _ _ (s₁.setTop (mkF m 8 #[.val (.int p1), .val (.long q1), .second] [(.long (-1 : Int64))]))
    refine own_retJ X0 hx hlk hret (hb hby own_d2_8) (by decide) (by decide) ?_
    try rw [e0]
    exact ⟨congrArg (fun z => some (Value.long z)) (Eq.symm (show own_pick p1 q1 = _ from ((if_pos hc2_66).trans rfl))), N0, rfl⟩
  ·
    show own_Fin _ _ _ _ _ _ (s₁.setTop (mkF m 2 #[.val (.int p1), .val (.long q1), .second] [(.int (1 : Int32)), (.int p1)]))
    refine own_to (fun t k => XS.icmpYes X0.here hx rfl (pc0 := 2) (pc' := 9) rfl (hb hby own_d2_2) rfl (feq hc2_66).2 (by decide) (by decide) k) ?_
    show own_Fin _ _ _ _ _ _ (s₁.setTop (mkF m 9 #[.val (.int p1), .val (.long q1), .second] []))
    refine own_to (fun t k => XS.iloadN X0.here hx rfl (hb hby own_d2_9) rfl k) ?_
    show own_Fin _ _ _ _ _ _ (s₁.setTop (mkF m 10 #[.val (.int p1), .val (.long q1), .second] [(.int p1)]))
    refine own_to (fun t k => XS.iconst X0.here hx rfl (hb hby own_d2_10) k) ?_
    show own_Fin _ _ _ _ _ _ (s₁.setTop (mkF m 11 #[.val (.int p1), .val (.long q1), .second] [(.int (2 : Int32)), (.int p1)]))
    by_cases hc11_67 : p1 = (2 : Int32)
    ·
      show own_Fin _ _ _ _ _ _ (s₁.setTop (mkF m 11 #[.val (.int p1), .val (.long q1), .second] [(.int (2 : Int32)), (.int p1)]))
      refine own_to (fun t k => XS.icmpNo X0.here hx rfl (hb hby own_d2_11) rfl (teq hc11_67).2 k) ?_
      show own_Fin _ _ _ _ _ _ (s₁.setTop (mkF m 14 #[.val (.int p1), .val (.long q1), .second] []))
      refine own_to (fun t k => XS.lconst X0.here hx rfl (hb hby own_d2_14) k) ?_
      show own_Fin _ _ _ _ _ _ (s₁.setTop (mkF m 15 #[.val (.int p1), .val (.long q1), .second] [(.long (0 : Int64))]))
      refine own_retJ X0 hx hlk hret (hb hby own_d2_15) (by decide) (by decide) ?_
      try rw [e0]
      exact ⟨congrArg (fun z => some (Value.long z)) (Eq.symm (show own_pick p1 q1 = _ from ((if_neg hc2_66).trans ((if_pos hc11_67).trans rfl)))), N0, rfl⟩
    ·
      show own_Fin _ _ _ _ _ _ (s₁.setTop (mkF m 11 #[.val (.int p1), .val (.long q1), .second] [(.int (2 : Int32)), (.int p1)]))
      refine own_to (fun t k => XS.icmpYes X0.here hx rfl (pc0 := 11) (pc' := 16) rfl (hb hby own_d2_11) rfl (feq hc11_67).2 (by decide) (by decide) k) ?_
      show own_Fin _ _ _ _ _ _ (s₁.setTop (mkF m 16 #[.val (.int p1), .val (.long q1), .second] []))
      refine own_to (fun t k => XS.iloadN X0.here hx rfl (hb hby own_d2_16) rfl k) ?_
      show own_Fin _ _ _ _ _ _ (s₁.setTop (mkF m 17 #[.val (.int p1), .val (.long q1), .second] [(.int p1)]))
      refine own_to (fun t k => XS.iconst X0.here hx rfl (hb hby own_d2_17) k) ?_
      show own_Fin _ _ _ _ _ _ (s₁.setTop (mkF m 18 #[.val (.int p1), .val (.long q1), .second] [(.int (3 : Int32)), (.int p1)]))
      by_cases hc18_68 : p1 = (3 : Int32)
      ·
        show own_Fin _ _ _ _ _ _ (s₁.setTop (mkF m 18 #[.val (.int p1), .val (.long q1), .second] [(.int (3 : Int32)), (.int p1)]))
        refine own_to (fun t k => XS.icmpNo X0.here hx rfl (hb hby own_d2_18) rfl (teq hc18_68).2 k) ?_
        show own_Fin _ _ _ _ _ _ (s₁.setTop (mkF m 21 #[.val (.int p1), .val (.long q1), .second] []))
        refine own_to (fun t k => X0.ldc2Long hx hown (mvT hZ (hw _ (List.mem_of_getElem? (i := 69) rfl))) (g := (mkF m 21 #[.val (.int p1), .val (.long q1), .second] [])) rfl (hb hby own_d2_21) _ k) ?_
        show own_Fin _ _ _ _ _ _ (s₁.setTop (mkF m 24 #[.val (.int p1), .val (.long q1), .second] [(.long (-9223372036854775808 : Int64))]))
        refine own_retJ X0 hx hlk hret (hb hby own_d2_24) (by decide) (by decide) ?_
        try rw [e0]
        exact ⟨congrArg (fun z => some (Value.long z)) (Eq.symm (show own_pick p1 q1 = _ from ((if_neg hc2_66).trans ((if_neg hc11_67).trans ((if_pos hc18_68).trans rfl))))), N0, rfl⟩
      ·
        show own_Fin _ _ _ _ _ _ (s₁.setTop (mkF m 18 #[.val (.int p1), .val (.long q1), .second] [(.int (3 : Int32)), (.int p1)]))
        refine own_to (fun t k => XS.icmpYes X0.here hx rfl (pc0 := 18) (pc' := 25) rfl (hb hby own_d2_18) rfl (feq hc18_68).2 (by decide) (by decide) k) ?_
        show own_Fin _ _ _ _ _ _ (s₁.setTop (mkF m 25 #[.val (.int p1), .val (.long q1), .second] []))
        refine own_to (fun t k => XS.lloadN X0.here hx rfl (hb hby own_d2_25) rfl k) ?_
        show own_Fin _ _ _ _ _ _ (s₁.setTop (mkF m 26 #[.val (.int p1), .val (.long q1), .second] [(.long q1)]))
        refine own_retJ X0 hx hlk hret (hb hby own_d2_26) (by decide) (by decide) ?_
        try rw [e0]
        exact ⟨congrArg (fun z => some (Value.long z)) (Eq.symm (show own_pick p1 q1 = _ from ((if_neg hc2_66).trans ((if_neg hc11_67).trans ((if_neg hc18_68).trans rfl))))), N0, rfl⟩
theorem own_d4_0 : decode jdk_30_method_1_code 0 = .ok (.aload_n 0, 1) := by decide +kernel
theorem own_d4_1 : decode jdk_30_method_1_code 1 = .ok (.invokespecial 1, 3) := by decide +kernel
theorem own_d4_4 : decode jdk_30_method_1_code 4 = .ok (.return_, 1) := by decide +kernel
theorem own_pn3 : plainName "java/lang/Record" = true := by first | (simp [plainName, overriddenIn]; done) | decide +kernel
theorem own_rm4_ef (m : MethodId) (a1 : Addr) : entryFrame m #[(.ref a1)] 1 = mkF m 0 #[.val (.ref a1)] [] := by first | (simp [entryFrame, mkF, argsToLocals, Value.category]; done) | rfl
set_option maxRecDepth 65536 in
set_option maxHeartbeats 40000000 in
theorem own_rm4 (l : Launch) (Z : State) (a0 : Array Value) (hw : ∀ d ∈ tables_1, d.before a0 Z = true) (ws : List Jvm.Cond) (a1 : Addr) (h0 : Heap) (n0 : Nat) (Z0 : n0 ≤ h0.size) :
    own_Met l Z (⟨"java/lang/Record", "<init>", "()V"⟩ : MethodName) jdk_30_method_1_code 1 none ws ({ frames := 1, cells := 0, slots := 0, locals := 16 } : Room) #[(.ref a1)] h0 (fun v h L => v = none ∧ Fr n0 L ∧ h = h0) := by
  refine own_enter (plainFor_of_name own_pn3) ?_
  intro p e s m below meth c s₁ X0 hx hZ hby hml hown hnm hret hlk e0
  have N0 := Fr.nil n0
  rw [own_rm4_ef m a1]
  show own_Fin _ _ _ _ _ _ (s₁.setTop (mkF m 0 #[.val (.ref a1)] []))
  refine own_to (fun t k => XS.aloadN X0.here hx rfl (hb hby own_d4_0) rfl rfl k) ?_
  show own_Fin _ _ _ _ _ _ (s₁.setTop (mkF m 1 #[.val (.ref a1)] [(.ref a1)]))
  obtain ⟨T69, X69, e69, st69⟩ := initO X0 hx hZ hown (hw _ (List.mem_of_getElem? (i := 18) rfl)) (hw _ (List.mem_of_getElem? (i := 19) rfl)) (hw _ (List.mem_of_getElem? (i := 20) rfl)) e0 (g := (mkF m 1 #[.val (.ref a1)] [(.ref a1)])) rfl (by rw [hml]; rfl) rfl (hb hby own_d4_1) (by decide) (W := 0) (by show 2 * 0 + _ ≤ _; exact Nat.le_of_eq rfl) (by decide)
  refine own_to (fun t k => st69 t k) ?_
  show own_Fin _ _ _ _ _ _ (T69.setTop (mkF m 4 #[.val (.ref a1)] []))
  refine own_retV X69 hx hlk hret (hb hby own_d4_4) (by decide) (by decide) ?_
  try rw [e69]
  exact ⟨rfl, N0, rfl⟩
theorem own_d3_0 : decode prog_7_method_1_code 0 = .ok (.aload_n 0, 1) := by decide +kernel
theorem own_d3_1 : decode prog_7_method_1_code 1 = .ok (.invokespecial 1, 3) := by decide +kernel
theorem own_d3_4 : decode prog_7_method_1_code 4 = .ok (.aload_n 0, 1) := by decide +kernel
theorem own_d3_5 : decode prog_7_method_1_code 5 = .ok (.aload_n 1, 1) := by decide +kernel
theorem own_d3_6 : decode prog_7_method_1_code 6 = .ok (.putfield 7, 3) := by decide +kernel
theorem own_d3_9 : decode prog_7_method_1_code 9 = .ok (.aload_n 0, 1) := by decide +kernel
theorem own_d3_10 : decode prog_7_method_1_code 10 = .ok (.lload_n 2, 1) := by decide +kernel
theorem own_d3_11 : decode prog_7_method_1_code 11 = .ok (.putfield 13, 3) := by decide +kernel
theorem own_d3_14 : decode prog_7_method_1_code 14 = .ok (.aload_n 0, 1) := by decide +kernel
theorem own_d3_15 : decode prog_7_method_1_code 15 = .ok (.lload 4, 2) := by decide +kernel
theorem own_d3_17 : decode prog_7_method_1_code 17 = .ok (.putfield 17, 3) := by decide +kernel
theorem own_d3_20 : decode prog_7_method_1_code 20 = .ok (.aload_n 0, 1) := by decide +kernel
theorem own_d3_21 : decode prog_7_method_1_code 21 = .ok (.aload 6, 2) := by decide +kernel
theorem own_d3_23 : decode prog_7_method_1_code 23 = .ok (.putfield 20, 3) := by decide +kernel
theorem own_d3_26 : decode prog_7_method_1_code 26 = .ok (.aload_n 0, 1) := by decide +kernel
theorem own_d3_27 : decode prog_7_method_1_code 27 = .ok (.aload 7, 2) := by decide +kernel
theorem own_d3_29 : decode prog_7_method_1_code 29 = .ok (.putfield 23, 3) := by decide +kernel
theorem own_d3_32 : decode prog_7_method_1_code 32 = .ok (.aload_n 0, 1) := by decide +kernel
theorem own_d3_33 : decode prog_7_method_1_code 33 = .ok (.lload 8, 2) := by decide +kernel
theorem own_d3_35 : decode prog_7_method_1_code 35 = .ok (.putfield 26, 3) := by decide +kernel
theorem own_d3_38 : decode prog_7_method_1_code 38 = .ok (.return_, 1) := by decide +kernel
theorem own_pn4 : plainName "com/example/deft_lock/deftlock/service/ServerInfo" = true := by first | (simp [plainName, overriddenIn]; done) | decide +kernel
theorem own_si0_ef (m : MethodId) (a1 : Addr) (q1 : Int64) (q2 : Int64) (q3 : Int64) : entryFrame m #[(.ref a1), .null, (.long q1), (.long q2), .null, .null, (.long q3)] 10 = mkF m 0 #[.val (.ref a1), .val .null, .val (.long q1), .second, .val (.long q2), .second, .val .null, .val .null, .val (.long q3), .second] [] := by first | (simp [entryFrame, mkF, argsToLocals, Value.category]; done) | rfl
set_option maxRecDepth 65536 in
set_option maxHeartbeats 40000000 in
theorem own_si0 (l : Launch) (Z : State) (a0 : Array Value) (hw : ∀ d ∈ tables_1, d.before a0 Z = true) (ws : List Jvm.Cond) (a1 : Addr) (q1 : Int64) (q2 : Int64) (q3 : Int64) (h0 : Heap) (n0 : Nat) (Z0 : n0 ≤ h0.size) (E1 : Exa Z h0 a1 "com/example/deft_lock/deftlock/service/ServerInfo") (F1 : Fld Z h0 a1 "com/example/deft_lock/deftlock/service/ServerInfo" "runId" "Ljava/lang/String;" .null) (F2 : Fld Z h0 a1 "com/example/deft_lock/deftlock/service/ServerInfo" "uptimeSeconds" "J" (.long (0 : Int64))) (F3 : Fld Z h0 a1 "com/example/deft_lock/deftlock/service/ServerInfo" "clockMicros" "J" (.long (0 : Int64))) (F4 : Fld Z h0 a1 "com/example/deft_lock/deftlock/service/ServerInfo" "role" "Ljava/lang/String;" .null) (F5 : Fld Z h0 a1 "com/example/deft_lock/deftlock/service/ServerInfo" "master" "Ljava/lang/String;" .null) (F6 : Fld Z h0 a1 "com/example/deft_lock/deftlock/service/ServerInfo" "connectedReplicas" "J" (.long (0 : Int64))) (g_a1 : n0 ≤ a1) :
    own_Met l Z (⟨"com/example/deft_lock/deftlock/service/ServerInfo", "<init>", "(Ljava/lang/String;JJLjava/lang/String;Ljava/lang/String;J)V"⟩ : MethodName) prog_7_method_1_code 10 none ws ({ frames := 2, cells := 0, slots := 0, locals := 32 } : Room) #[(.ref a1), .null, (.long q1), (.long q2), .null, .null, (.long q3)] h0 (fun v h L => v = none ∧ Fr n0 L ∧ Keep h0 h [a1] ∧ Fld Z h a1 "com/example/deft_lock/deftlock/service/ServerInfo" "runId" "Ljava/lang/String;" .null ∧ Fld Z h a1 "com/example/deft_lock/deftlock/service/ServerInfo" "uptimeSeconds" "J" (.long q1)) := by
  refine own_enter (plainFor_of_name own_pn4) ?_
  intro p e s m below meth c s₁ X0 hx hZ hby hml hown hnm hret hlk e0
  have N0 := Fr.nil n0
  rw [own_si0_ef m a1 q1 q2 q3]
  have KK0 : Keep h0 h0 [a1] := Keep.refl _ _
  show own_Fin _ _ _ _ _ _ (s₁.setTop (mkF m 0 #[.val (.ref a1), .val .null, .val (.long q1), .second, .val (.long q2), .second, .val .null, .val .null, .val (.long q3), .second] []))
  refine own_to (fun t k => XS.aloadN X0.here hx rfl (hb hby own_d3_0) rfl rfl k) ?_
  show own_Fin _ _ _ _ _ _ (s₁.setTop (mkF m 1 #[.val (.ref a1), .val .null, .val (.long q1), .second, .val (.long q2), .second, .val .null, .val .null, .val (.long q3), .second] [(.ref a1)]))
  obtain ⟨_, _, ⟨T70, L70, k70, n70⟩, -, X70, ⟨Lc70, hQ70, l70, y70, z70⟩, st70⟩ := X0.specialBack hx (y := (⟨"java/lang/Record", "<init>", "()V"⟩ : MethodName)) rfl hown (mvT hZ (hw _ (List.mem_of_getElem? (i := 13) rfl))) (mvT hZ (hw _ (List.mem_of_getElem? (i := 14) rfl))) (mvT hZ (hw _ (List.mem_of_getElem? (i := 17) rfl))) (by decide) (own_back (W := 0) (own_rm4 l Z a0 hw [] a1 h0 n0 Z0) hZ (hw _ (List.mem_of_getElem? (i := 17) rfl)) (hw _ (List.mem_of_getElem? (i := 16) rfl)) (by decide) (by decide)) (g := (mkF m 1 #[.val (.ref a1), .val .null, .val (.long q1), .second, .val (.long q2), .second, .val .null, .val .null, .val (.long q3), .second] [(.ref a1)])) rfl (by rw [hml]; rfl) (Steps.refl _) (a := a1) (argsL := []) (rest := []) (lenOf own_pd1 rfl) rfl (by show 2 * 0 + _ ≤ _; exact Nat.le_of_eq rfl) (hb hby own_d3_1) (fun _ _ => ⟨rfl, e0, (by decide : 0 + 0 ≤ _), (by decide : 0 + 0 ≤ _)⟩)
  dsimp only [Pt.U, Pt.locs, Pt.cells, Pt.slots] at X70 l70 y70 z70 st70 hQ70
  subst l70 y70 z70
  obtain ⟨rfl, N70q, eh70⟩ := hQ70
  have N70 := Fr.app N0 N70q
  refine own_to (fun t k => st70.trans k) ?_
  show own_Fin _ _ _ _ _ _ (T70.setTop (mkF m 4 #[.val (.ref a1), .val .null, .val (.long q1), .second, .val (.long q2), .second, .val .null, .val .null, .val (.long q3), .second] []))
  refine own_to (fun t k => XS.aloadN X70.here hx rfl (hb hby own_d3_4) rfl rfl k) ?_
  show own_Fin _ _ _ _ _ _ (T70.setTop (mkF m 5 #[.val (.ref a1), .val .null, .val (.long q1), .second, .val (.long q2), .second, .val .null, .val .null, .val (.long q3), .second] [(.ref a1)]))
  refine own_to (fun t k => XS.aloadN X70.here hx rfl (hb hby own_d3_5) rfl rfl k) ?_
  show own_Fin _ _ _ _ _ _ (T70.setTop (mkF m 6 #[.val (.ref a1), .val .null, .val (.long q1), .second, .val (.long q2), .second, .val .null, .val .null, .val (.long q3), .second] [.null, (.ref a1)]))
  obtain ⟨T71, h71, X71, e71, W71, st71⟩ := putF X70 hx hZ hown (host := "") (Or.inl (hw _ (List.mem_of_getElem? (i := 21) rfl))) Via.refl eh70 F1 E1 (Or.inr ⟨(hw _ (List.mem_of_getElem? (i := 22) rfl)), rfl, hnm⟩) (hw _ (List.mem_of_getElem? (i := 8) rfl)) (ty := (.object "java/lang/String")) (by decide) rfl rfl (g := (mkF m 6 #[.val (.ref a1), .val .null, .val (.long q1), .second, .val (.long q2), .second, .val .null, .val .null, .val (.long q3), .second] [.null, (.ref a1)])) rfl rfl (hb hby own_d3_6)
  have Fw71 := F1.same W71
  have N71 := Fr.snoc X71 N70 g_a1
  have KK71 : Keep h0 h71 [a1] := KK0.wr W71 (Or.inl (List.mem_of_getElem? (i := 0) rfl))
  have E1_e71 := E1.wr W71
  have F2_e71 := F2.other W71 (Or.inr (slot_ne (Or.inr (hw _ (List.mem_of_getElem? (i := 24) rfl))) (Or.inr (hw _ (List.mem_of_getElem? (i := 22) rfl))) (by decide) (t := .long) (t' := (.object "java/lang/String")) (by decide) (by decide)))
  have F3_e71 := F3.other W71 (Or.inr (slot_ne (Or.inr (hw _ (List.mem_of_getElem? (i := 26) rfl))) (Or.inr (hw _ (List.mem_of_getElem? (i := 22) rfl))) (by decide) (t := .long) (t' := (.object "java/lang/String")) (by decide) (by decide)))
  have F4_e71 := F4.other W71 (Or.inr (slot_ne (Or.inr (hw _ (List.mem_of_getElem? (i := 28) rfl))) (Or.inr (hw _ (List.mem_of_getElem? (i := 22) rfl))) (by decide) (t := (.object "java/lang/String")) (t' := (.object "java/lang/String")) (by decide) (by decide)))
  have F5_e71 := F5.other W71 (Or.inr (slot_ne (Or.inr (hw _ (List.mem_of_getElem? (i := 30) rfl))) (Or.inr (hw _ (List.mem_of_getElem? (i := 22) rfl))) (by decide) (t := (.object "java/lang/String")) (t' := (.object "java/lang/String")) (by decide) (by decide)))
  have F6_e71 := F6.other W71 (Or.inr (slot_ne (Or.inr (hw _ (List.mem_of_getElem? (i := 32) rfl))) (Or.inr (hw _ (List.mem_of_getElem? (i := 22) rfl))) (by decide) (t := .long) (t' := (.object "java/lang/String")) (by decide) (by decide)))
  refine own_to (fun t k => st71 t k) ?_
  show own_Fin _ _ _ _ _ _ (T71.setTop (mkF m 9 #[.val (.ref a1), .val .null, .val (.long q1), .second, .val (.long q2), .second, .val .null, .val .null, .val (.long q3), .second] []))
  refine own_to (fun t k => XS.aloadN X71.here hx rfl (hb hby own_d3_9) rfl rfl k) ?_
  show own_Fin _ _ _ _ _ _ (T71.setTop (mkF m 10 #[.val (.ref a1), .val .null, .val (.long q1), .second, .val (.long q2), .second, .val .null, .val .null, .val (.long q3), .second] [(.ref a1)]))
  refine own_to (fun t k => XS.lloadN X71.here hx rfl (hb hby own_d3_10) rfl k) ?_
  show own_Fin _ _ _ _ _ _ (T71.setTop (mkF m 11 #[.val (.ref a1), .val .null, .val (.long q1), .second, .val (.long q2), .second, .val .null, .val .null, .val (.long q3), .second] [(.long q1), (.ref a1)]))
  obtain ⟨T72, h72, X72, e72, W72, st72⟩ := putF X71 hx hZ hown (host := "") (Or.inl (hw _ (List.mem_of_getElem? (i := 23) rfl))) Via.refl e71 F2_e71 E1_e71 (Or.inr ⟨(hw _ (List.mem_of_getElem? (i := 24) rfl)), rfl, hnm⟩) (hw _ (List.mem_of_getElem? (i := 8) rfl)) (ty := .long) (by decide) rfl rfl (g := (mkF m 11 #[.val (.ref a1), .val .null, .val (.long q1), .second, .val (.long q2), .second, .val .null, .val .null, .val (.long q3), .second] [(.long q1), (.ref a1)])) rfl rfl (hb hby own_d3_11)
  have Fw72 := F2_e71.same W72
  have N72 := Fr.snoc X72 N71 g_a1
  have KK72 : Keep h0 h72 [a1] := KK71.wr W72 (Or.inl (List.mem_of_getElem? (i := 0) rfl))
  have E1_e72 := E1_e71.wr W72
  have Fw71_e72 := Fw71.other W72 (Or.inr (slot_ne (Or.inr (hw _ (List.mem_of_getElem? (i := 22) rfl))) (Or.inr (hw _ (List.mem_of_getElem? (i := 24) rfl))) (by decide) (t := (.object "java/lang/String")) (t' := .long) (by decide) (by decide)))
  have F3_e72 := F3_e71.other W72 (Or.inr (slot_ne (Or.inr (hw _ (List.mem_of_getElem? (i := 26) rfl))) (Or.inr (hw _ (List.mem_of_getElem? (i := 24) rfl))) (by decide) (t := .long) (t' := .long) (by decide) (by decide)))
  have F4_e72 := F4_e71.other W72 (Or.inr (slot_ne (Or.inr (hw _ (List.mem_of_getElem? (i := 28) rfl))) (Or.inr (hw _ (List.mem_of_getElem? (i := 24) rfl))) (by decide) (t := (.object "java/lang/String")) (t' := .long) (by decide) (by decide)))
  have F5_e72 := F5_e71.other W72 (Or.inr (slot_ne (Or.inr (hw _ (List.mem_of_getElem? (i := 30) rfl))) (Or.inr (hw _ (List.mem_of_getElem? (i := 24) rfl))) (by decide) (t := (.object "java/lang/String")) (t' := .long) (by decide) (by decide)))
  have F6_e72 := F6_e71.other W72 (Or.inr (slot_ne (Or.inr (hw _ (List.mem_of_getElem? (i := 32) rfl))) (Or.inr (hw _ (List.mem_of_getElem? (i := 24) rfl))) (by decide) (t := .long) (t' := .long) (by decide) (by decide)))
  refine own_to (fun t k => st72 t k) ?_
  show own_Fin _ _ _ _ _ _ (T72.setTop (mkF m 14 #[.val (.ref a1), .val .null, .val (.long q1), .second, .val (.long q2), .second, .val .null, .val .null, .val (.long q3), .second] []))
  refine own_to (fun t k => XS.aloadN X72.here hx rfl (hb hby own_d3_14) rfl rfl k) ?_
  show own_Fin _ _ _ _ _ _ (T72.setTop (mkF m 15 #[.val (.ref a1), .val .null, .val (.long q1), .second, .val (.long q2), .second, .val .null, .val .null, .val (.long q3), .second] [(.ref a1)]))
  refine own_to (fun t k => XS.lload X72.here hx rfl (hb hby own_d3_15) rfl k) ?_
  show own_Fin _ _ _ _ _ _ (T72.setTop (mkF m 17 #[.val (.ref a1), .val .null, .val (.long q1), .second, .val (.long q2), .second, .val .null, .val .null, .val (.long q3), .second] [(.long q2), (.ref a1)]))
  obtain ⟨T73, h73, X73, e73, W73, st73⟩ := putF X72 hx hZ hown (host := "") (Or.inl (hw _ (List.mem_of_getElem? (i := 25) rfl))) Via.refl e72 F3_e72 E1_e72 (Or.inr ⟨(hw _ (List.mem_of_getElem? (i := 26) rfl)), rfl, hnm⟩) (hw _ (List.mem_of_getElem? (i := 8) rfl)) (ty := .long) (by decide) rfl rfl (g := (mkF m 17 #[.val (.ref a1), .val .null, .val (.long q1), .second, .val (.long q2), .second, .val .null, .val .null, .val (.long q3), .second] [(.long q2), (.ref a1)])) rfl rfl (hb hby own_d3_17)
  have Fw73 := F3_e72.same W73
  have N73 := Fr.snoc X73 N72 g_a1
  have KK73 : Keep h0 h73 [a1] := KK72.wr W73 (Or.inl (List.mem_of_getElem? (i := 0) rfl))
  have E1_e73 := E1_e72.wr W73
  have Fw71_e73 := Fw71_e72.other W73 (Or.inr (slot_ne (Or.inr (hw _ (List.mem_of_getElem? (i := 22) rfl))) (Or.inr (hw _ (List.mem_of_getElem? (i := 26) rfl))) (by decide) (t := (.object "java/lang/String")) (t' := .long) (by decide) (by decide)))
  have Fw72_e73 := Fw72.other W73 (Or.inr (slot_ne (Or.inr (hw _ (List.mem_of_getElem? (i := 24) rfl))) (Or.inr (hw _ (List.mem_of_getElem? (i := 26) rfl))) (by decide) (t := .long) (t' := .long) (by decide) (by decide)))
  have F4_e73 := F4_e72.other W73 (Or.inr (slot_ne (Or.inr (hw _ (List.mem_of_getElem? (i := 28) rfl))) (Or.inr (hw _ (List.mem_of_getElem? (i := 26) rfl))) (by decide) (t := (.object "java/lang/String")) (t' := .long) (by decide) (by decide)))
  have F5_e73 := F5_e72.other W73 (Or.inr (slot_ne (Or.inr (hw _ (List.mem_of_getElem? (i := 30) rfl))) (Or.inr (hw _ (List.mem_of_getElem? (i := 26) rfl))) (by decide) (t := (.object "java/lang/String")) (t' := .long) (by decide) (by decide)))
  have F6_e73 := F6_e72.other W73 (Or.inr (slot_ne (Or.inr (hw _ (List.mem_of_getElem? (i := 32) rfl))) (Or.inr (hw _ (List.mem_of_getElem? (i := 26) rfl))) (by decide) (t := .long) (t' := .long) (by decide) (by decide)))
  refine own_to (fun t k => st73 t k) ?_
  show own_Fin _ _ _ _ _ _ (T73.setTop (mkF m 20 #[.val (.ref a1), .val .null, .val (.long q1), .second, .val (.long q2), .second, .val .null, .val .null, .val (.long q3), .second] []))
  refine own_to (fun t k => XS.aloadN X73.here hx rfl (hb hby own_d3_20) rfl rfl k) ?_
  show own_Fin _ _ _ _ _ _ (T73.setTop (mkF m 21 #[.val (.ref a1), .val .null, .val (.long q1), .second, .val (.long q2), .second, .val .null, .val .null, .val (.long q3), .second] [(.ref a1)]))
  refine own_to (fun t k => XS.aload X73.here hx rfl (hb hby own_d3_21) rfl rfl k) ?_
  show own_Fin _ _ _ _ _ _ (T73.setTop (mkF m 23 #[.val (.ref a1), .val .null, .val (.long q1), .second, .val (.long q2), .second, .val .null, .val .null, .val (.long q3), .second] [.null, (.ref a1)]))
  obtain ⟨T74, h74, X74, e74, W74, st74⟩ := putF X73 hx hZ hown (host := "") (Or.inl (hw _ (List.mem_of_getElem? (i := 27) rfl))) Via.refl e73 F4_e73 E1_e73 (Or.inr ⟨(hw _ (List.mem_of_getElem? (i := 28) rfl)), rfl, hnm⟩) (hw _ (List.mem_of_getElem? (i := 8) rfl)) (ty := (.object "java/lang/String")) (by decide) rfl rfl (g := (mkF m 23 #[.val (.ref a1), .val .null, .val (.long q1), .second, .val (.long q2), .second, .val .null, .val .null, .val (.long q3), .second] [.null, (.ref a1)])) rfl rfl (hb hby own_d3_23)
  have Fw74 := F4_e73.same W74
  have N74 := Fr.snoc X74 N73 g_a1
  have KK74 : Keep h0 h74 [a1] := KK73.wr W74 (Or.inl (List.mem_of_getElem? (i := 0) rfl))
  have E1_e74 := E1_e73.wr W74
  have Fw71_e74 := Fw71_e73.other W74 (Or.inr (slot_ne (Or.inr (hw _ (List.mem_of_getElem? (i := 22) rfl))) (Or.inr (hw _ (List.mem_of_getElem? (i := 28) rfl))) (by decide) (t := (.object "java/lang/String")) (t' := (.object "java/lang/String")) (by decide) (by decide)))
  have Fw72_e74 := Fw72_e73.other W74 (Or.inr (slot_ne (Or.inr (hw _ (List.mem_of_getElem? (i := 24) rfl))) (Or.inr (hw _ (List.mem_of_getElem? (i := 28) rfl))) (by decide) (t := .long) (t' := (.object "java/lang/String")) (by decide) (by decide)))
  have Fw73_e74 := Fw73.other W74 (Or.inr (slot_ne (Or.inr (hw _ (List.mem_of_getElem? (i := 26) rfl))) (Or.inr (hw _ (List.mem_of_getElem? (i := 28) rfl))) (by decide) (t := .long) (t' := (.object "java/lang/String")) (by decide) (by decide)))
  have F5_e74 := F5_e73.other W74 (Or.inr (slot_ne (Or.inr (hw _ (List.mem_of_getElem? (i := 30) rfl))) (Or.inr (hw _ (List.mem_of_getElem? (i := 28) rfl))) (by decide) (t := (.object "java/lang/String")) (t' := (.object "java/lang/String")) (by decide) (by decide)))
  have F6_e74 := F6_e73.other W74 (Or.inr (slot_ne (Or.inr (hw _ (List.mem_of_getElem? (i := 32) rfl))) (Or.inr (hw _ (List.mem_of_getElem? (i := 28) rfl))) (by decide) (t := .long) (t' := (.object "java/lang/String")) (by decide) (by decide)))
  refine own_to (fun t k => st74 t k) ?_
  show own_Fin _ _ _ _ _ _ (T74.setTop (mkF m 26 #[.val (.ref a1), .val .null, .val (.long q1), .second, .val (.long q2), .second, .val .null, .val .null, .val (.long q3), .second] []))
  refine own_to (fun t k => XS.aloadN X74.here hx rfl (hb hby own_d3_26) rfl rfl k) ?_
  show own_Fin _ _ _ _ _ _ (T74.setTop (mkF m 27 #[.val (.ref a1), .val .null, .val (.long q1), .second, .val (.long q2), .second, .val .null, .val .null, .val (.long q3), .second] [(.ref a1)]))
  refine own_to (fun t k => XS.aload X74.here hx rfl (hb hby own_d3_27) rfl rfl k) ?_
  show own_Fin _ _ _ _ _ _ (T74.setTop (mkF m 29 #[.val (.ref a1), .val .null, .val (.long q1), .second, .val (.long q2), .second, .val .null, .val .null, .val (.long q3), .second] [.null, (.ref a1)]))
  obtain ⟨T75, h75, X75, e75, W75, st75⟩ := putF X74 hx hZ hown (host := "") (Or.inl (hw _ (List.mem_of_getElem? (i := 29) rfl))) Via.refl e74 F5_e74 E1_e74 (Or.inr ⟨(hw _ (List.mem_of_getElem? (i := 30) rfl)), rfl, hnm⟩) (hw _ (List.mem_of_getElem? (i := 8) rfl)) (ty := (.object "java/lang/String")) (by decide) rfl rfl (g := (mkF m 29 #[.val (.ref a1), .val .null, .val (.long q1), .second, .val (.long q2), .second, .val .null, .val .null, .val (.long q3), .second] [.null, (.ref a1)])) rfl rfl (hb hby own_d3_29)
  have Fw75 := F5_e74.same W75
  have N75 := Fr.snoc X75 N74 g_a1
  have KK75 : Keep h0 h75 [a1] := KK74.wr W75 (Or.inl (List.mem_of_getElem? (i := 0) rfl))
  have E1_e75 := E1_e74.wr W75
  have Fw71_e75 := Fw71_e74.other W75 (Or.inr (slot_ne (Or.inr (hw _ (List.mem_of_getElem? (i := 22) rfl))) (Or.inr (hw _ (List.mem_of_getElem? (i := 30) rfl))) (by decide) (t := (.object "java/lang/String")) (t' := (.object "java/lang/String")) (by decide) (by decide)))
  have Fw72_e75 := Fw72_e74.other W75 (Or.inr (slot_ne (Or.inr (hw _ (List.mem_of_getElem? (i := 24) rfl))) (Or.inr (hw _ (List.mem_of_getElem? (i := 30) rfl))) (by decide) (t := .long) (t' := (.object "java/lang/String")) (by decide) (by decide)))
  have Fw73_e75 := Fw73_e74.other W75 (Or.inr (slot_ne (Or.inr (hw _ (List.mem_of_getElem? (i := 26) rfl))) (Or.inr (hw _ (List.mem_of_getElem? (i := 30) rfl))) (by decide) (t := .long) (t' := (.object "java/lang/String")) (by decide) (by decide)))
  have Fw74_e75 := Fw74.other W75 (Or.inr (slot_ne (Or.inr (hw _ (List.mem_of_getElem? (i := 28) rfl))) (Or.inr (hw _ (List.mem_of_getElem? (i := 30) rfl))) (by decide) (t := (.object "java/lang/String")) (t' := (.object "java/lang/String")) (by decide) (by decide)))
  have F6_e75 := F6_e74.other W75 (Or.inr (slot_ne (Or.inr (hw _ (List.mem_of_getElem? (i := 32) rfl))) (Or.inr (hw _ (List.mem_of_getElem? (i := 30) rfl))) (by decide) (t := .long) (t' := (.object "java/lang/String")) (by decide) (by decide)))
  refine own_to (fun t k => st75 t k) ?_
  show own_Fin _ _ _ _ _ _ (T75.setTop (mkF m 32 #[.val (.ref a1), .val .null, .val (.long q1), .second, .val (.long q2), .second, .val .null, .val .null, .val (.long q3), .second] []))
  refine own_to (fun t k => XS.aloadN X75.here hx rfl (hb hby own_d3_32) rfl rfl k) ?_
  show own_Fin _ _ _ _ _ _ (T75.setTop (mkF m 33 #[.val (.ref a1), .val .null, .val (.long q1), .second, .val (.long q2), .second, .val .null, .val .null, .val (.long q3), .second] [(.ref a1)]))
  refine own_to (fun t k => XS.lload X75.here hx rfl (hb hby own_d3_33) rfl k) ?_
  show own_Fin _ _ _ _ _ _ (T75.setTop (mkF m 35 #[.val (.ref a1), .val .null, .val (.long q1), .second, .val (.long q2), .second, .val .null, .val .null, .val (.long q3), .second] [(.long q3), (.ref a1)]))
  obtain ⟨T76, h76, X76, e76, W76, st76⟩ := putF X75 hx hZ hown (host := "") (Or.inl (hw _ (List.mem_of_getElem? (i := 31) rfl))) Via.refl e75 F6_e75 E1_e75 (Or.inr ⟨(hw _ (List.mem_of_getElem? (i := 32) rfl)), rfl, hnm⟩) (hw _ (List.mem_of_getElem? (i := 8) rfl)) (ty := .long) (by decide) rfl rfl (g := (mkF m 35 #[.val (.ref a1), .val .null, .val (.long q1), .second, .val (.long q2), .second, .val .null, .val .null, .val (.long q3), .second] [(.long q3), (.ref a1)])) rfl rfl (hb hby own_d3_35)
  have Fw76 := F6_e75.same W76
  have N76 := Fr.snoc X76 N75 g_a1
  have KK76 : Keep h0 h76 [a1] := KK75.wr W76 (Or.inl (List.mem_of_getElem? (i := 0) rfl))
  have E1_e76 := E1_e75.wr W76
  have Fw71_e76 := Fw71_e75.other W76 (Or.inr (slot_ne (Or.inr (hw _ (List.mem_of_getElem? (i := 22) rfl))) (Or.inr (hw _ (List.mem_of_getElem? (i := 32) rfl))) (by decide) (t := (.object "java/lang/String")) (t' := .long) (by decide) (by decide)))
  have Fw72_e76 := Fw72_e75.other W76 (Or.inr (slot_ne (Or.inr (hw _ (List.mem_of_getElem? (i := 24) rfl))) (Or.inr (hw _ (List.mem_of_getElem? (i := 32) rfl))) (by decide) (t := .long) (t' := .long) (by decide) (by decide)))
  have Fw73_e76 := Fw73_e75.other W76 (Or.inr (slot_ne (Or.inr (hw _ (List.mem_of_getElem? (i := 26) rfl))) (Or.inr (hw _ (List.mem_of_getElem? (i := 32) rfl))) (by decide) (t := .long) (t' := .long) (by decide) (by decide)))
  have Fw74_e76 := Fw74_e75.other W76 (Or.inr (slot_ne (Or.inr (hw _ (List.mem_of_getElem? (i := 28) rfl))) (Or.inr (hw _ (List.mem_of_getElem? (i := 32) rfl))) (by decide) (t := (.object "java/lang/String")) (t' := .long) (by decide) (by decide)))
  have Fw75_e76 := Fw75.other W76 (Or.inr (slot_ne (Or.inr (hw _ (List.mem_of_getElem? (i := 30) rfl))) (Or.inr (hw _ (List.mem_of_getElem? (i := 32) rfl))) (by decide) (t := (.object "java/lang/String")) (t' := .long) (by decide) (by decide)))
  refine own_to (fun t k => st76 t k) ?_
  show own_Fin _ _ _ _ _ _ (T76.setTop (mkF m 38 #[.val (.ref a1), .val .null, .val (.long q1), .second, .val (.long q2), .second, .val .null, .val .null, .val (.long q3), .second] []))
  refine own_retV X76 hx hlk hret (hb hby own_d3_38) (by decide) (by decide) ?_
  try rw [e76]
  exact ⟨rfl, N76, KK76, Fw71_e76, Fw72_e76⟩
theorem own_si1_ef (m : MethodId) (a1 : Addr) (q1 : Int64) (q2 : Int64) (q3 : Int64) (w0 : Addr) : entryFrame m #[(.ref a1), (.ref w0), (.long q1), (.long q2), .null, .null, (.long q3)] 10 = mkF m 0 #[.val (.ref a1), .val (.ref w0), .val (.long q1), .second, .val (.long q2), .second, .val .null, .val .null, .val (.long q3), .second] [] := by first | (simp [entryFrame, mkF, argsToLocals, Value.category]; done) | rfl
set_option maxRecDepth 65536 in
set_option maxHeartbeats 40000000 in
theorem own_si1 (l : Launch) (Z : State) (a0 : Array Value) (hw : ∀ d ∈ tables_1, d.before a0 Z = true) (ws : List Jvm.Cond) (a1 : Addr) (q1 : Int64) (q2 : Int64) (q3 : Int64) (w0 : Addr) (h0 : Heap) (n0 : Nat) (Z0 : n0 ≤ h0.size) (E1 : Exa Z h0 a1 "com/example/deft_lock/deftlock/service/ServerInfo") (F1 : Fld Z h0 a1 "com/example/deft_lock/deftlock/service/ServerInfo" "runId" "Ljava/lang/String;" .null) (F2 : Fld Z h0 a1 "com/example/deft_lock/deftlock/service/ServerInfo" "uptimeSeconds" "J" (.long (0 : Int64))) (F3 : Fld Z h0 a1 "com/example/deft_lock/deftlock/service/ServerInfo" "clockMicros" "J" (.long (0 : Int64))) (F4 : Fld Z h0 a1 "com/example/deft_lock/deftlock/service/ServerInfo" "role" "Ljava/lang/String;" .null) (F5 : Fld Z h0 a1 "com/example/deft_lock/deftlock/service/ServerInfo" "master" "Ljava/lang/String;" .null) (F6 : Fld Z h0 a1 "com/example/deft_lock/deftlock/service/ServerInfo" "connectedReplicas" "J" (.long (0 : Int64))) (g_a1 : n0 ≤ a1) :
    own_Met l Z (⟨"com/example/deft_lock/deftlock/service/ServerInfo", "<init>", "(Ljava/lang/String;JJLjava/lang/String;Ljava/lang/String;J)V"⟩ : MethodName) prog_7_method_1_code 10 none ws ({ frames := 2, cells := 0, slots := 0, locals := 32 } : Room) #[(.ref a1), (.ref w0), (.long q1), (.long q2), .null, .null, (.long q3)] h0 (fun v h L => v = none ∧ Fr n0 L ∧ Keep h0 h [a1] ∧ Fld Z h a1 "com/example/deft_lock/deftlock/service/ServerInfo" "runId" "Ljava/lang/String;" (.ref w0) ∧ Fld Z h a1 "com/example/deft_lock/deftlock/service/ServerInfo" "uptimeSeconds" "J" (.long q1)) := by
  refine own_enter (plainFor_of_name own_pn4) ?_
  intro p e s m below meth c s₁ X0 hx hZ hby hml hown hnm hret hlk e0
  have N0 := Fr.nil n0
  rw [own_si1_ef m a1 q1 q2 q3 w0]
  have KK0 : Keep h0 h0 [a1] := Keep.refl _ _
  show own_Fin _ _ _ _ _ _ (s₁.setTop (mkF m 0 #[.val (.ref a1), .val (.ref w0), .val (.long q1), .second, .val (.long q2), .second, .val .null, .val .null, .val (.long q3), .second] []))
  refine own_to (fun t k => XS.aloadN X0.here hx rfl (hb hby own_d3_0) rfl rfl k) ?_
  show own_Fin _ _ _ _ _ _ (s₁.setTop (mkF m 1 #[.val (.ref a1), .val (.ref w0), .val (.long q1), .second, .val (.long q2), .second, .val .null, .val .null, .val (.long q3), .second] [(.ref a1)]))
  obtain ⟨_, _, ⟨T77, L77, k77, n77⟩, -, X77, ⟨Lc77, hQ77, l77, y77, z77⟩, st77⟩ := X0.specialBack hx (y := (⟨"java/lang/Record", "<init>", "()V"⟩ : MethodName)) rfl hown (mvT hZ (hw _ (List.mem_of_getElem? (i := 13) rfl))) (mvT hZ (hw _ (List.mem_of_getElem? (i := 14) rfl))) (mvT hZ (hw _ (List.mem_of_getElem? (i := 17) rfl))) (by decide) (own_back (W := 0) (own_rm4 l Z a0 hw [] a1 h0 n0 Z0) hZ (hw _ (List.mem_of_getElem? (i := 17) rfl)) (hw _ (List.mem_of_getElem? (i := 16) rfl)) (by decide) (by decide)) (g := (mkF m 1 #[.val (.ref a1), .val (.ref w0), .val (.long q1), .second, .val (.long q2), .second, .val .null, .val .null, .val (.long q3), .second] [(.ref a1)])) rfl (by rw [hml]; rfl) (Steps.refl _) (a := a1) (argsL := []) (rest := []) (lenOf own_pd1 rfl) rfl (by show 2 * 0 + _ ≤ _; exact Nat.le_of_eq rfl) (hb hby own_d3_1) (fun _ _ => ⟨rfl, e0, (by decide : 0 + 0 ≤ _), (by decide : 0 + 0 ≤ _)⟩)
  dsimp only [Pt.U, Pt.locs, Pt.cells, Pt.slots] at X77 l77 y77 z77 st77 hQ77
  subst l77 y77 z77
  obtain ⟨rfl, N77q, eh77⟩ := hQ77
  have N77 := Fr.app N0 N77q
  refine own_to (fun t k => st77.trans k) ?_
  show own_Fin _ _ _ _ _ _ (T77.setTop (mkF m 4 #[.val (.ref a1), .val (.ref w0), .val (.long q1), .second, .val (.long q2), .second, .val .null, .val .null, .val (.long q3), .second] []))
  refine own_to (fun t k => XS.aloadN X77.here hx rfl (hb hby own_d3_4) rfl rfl k) ?_
  show own_Fin _ _ _ _ _ _ (T77.setTop (mkF m 5 #[.val (.ref a1), .val (.ref w0), .val (.long q1), .second, .val (.long q2), .second, .val .null, .val .null, .val (.long q3), .second] [(.ref a1)]))
  refine own_to (fun t k => XS.aloadN X77.here hx rfl (hb hby own_d3_5) rfl rfl k) ?_
  show own_Fin _ _ _ _ _ _ (T77.setTop (mkF m 6 #[.val (.ref a1), .val (.ref w0), .val (.long q1), .second, .val (.long q2), .second, .val .null, .val .null, .val (.long q3), .second] [(.ref w0), (.ref a1)]))
  obtain ⟨T78, h78, X78, e78, W78, st78⟩ := putF X77 hx hZ hown (host := "") (Or.inl (hw _ (List.mem_of_getElem? (i := 21) rfl))) Via.refl eh77 F1 E1 (Or.inr ⟨(hw _ (List.mem_of_getElem? (i := 22) rfl)), rfl, hnm⟩) (hw _ (List.mem_of_getElem? (i := 8) rfl)) (ty := (.object "java/lang/String")) (by decide) rfl rfl (g := (mkF m 6 #[.val (.ref a1), .val (.ref w0), .val (.long q1), .second, .val (.long q2), .second, .val .null, .val .null, .val (.long q3), .second] [(.ref w0), (.ref a1)])) rfl rfl (hb hby own_d3_6)
  have Fw78 := F1.same W78
  have N78 := Fr.snoc X78 N77 g_a1
  have KK78 : Keep h0 h78 [a1] := KK0.wr W78 (Or.inl (List.mem_of_getElem? (i := 0) rfl))
  have E1_e78 := E1.wr W78
  have F2_e78 := F2.other W78 (Or.inr (slot_ne (Or.inr (hw _ (List.mem_of_getElem? (i := 24) rfl))) (Or.inr (hw _ (List.mem_of_getElem? (i := 22) rfl))) (by decide) (t := .long) (t' := (.object "java/lang/String")) (by decide) (by decide)))
  have F3_e78 := F3.other W78 (Or.inr (slot_ne (Or.inr (hw _ (List.mem_of_getElem? (i := 26) rfl))) (Or.inr (hw _ (List.mem_of_getElem? (i := 22) rfl))) (by decide) (t := .long) (t' := (.object "java/lang/String")) (by decide) (by decide)))
  have F4_e78 := F4.other W78 (Or.inr (slot_ne (Or.inr (hw _ (List.mem_of_getElem? (i := 28) rfl))) (Or.inr (hw _ (List.mem_of_getElem? (i := 22) rfl))) (by decide) (t := (.object "java/lang/String")) (t' := (.object "java/lang/String")) (by decide) (by decide)))
  have F5_e78 := F5.other W78 (Or.inr (slot_ne (Or.inr (hw _ (List.mem_of_getElem? (i := 30) rfl))) (Or.inr (hw _ (List.mem_of_getElem? (i := 22) rfl))) (by decide) (t := (.object "java/lang/String")) (t' := (.object "java/lang/String")) (by decide) (by decide)))
  have F6_e78 := F6.other W78 (Or.inr (slot_ne (Or.inr (hw _ (List.mem_of_getElem? (i := 32) rfl))) (Or.inr (hw _ (List.mem_of_getElem? (i := 22) rfl))) (by decide) (t := .long) (t' := (.object "java/lang/String")) (by decide) (by decide)))
  refine own_to (fun t k => st78 t k) ?_
  show own_Fin _ _ _ _ _ _ (T78.setTop (mkF m 9 #[.val (.ref a1), .val (.ref w0), .val (.long q1), .second, .val (.long q2), .second, .val .null, .val .null, .val (.long q3), .second] []))
  refine own_to (fun t k => XS.aloadN X78.here hx rfl (hb hby own_d3_9) rfl rfl k) ?_
  show own_Fin _ _ _ _ _ _ (T78.setTop (mkF m 10 #[.val (.ref a1), .val (.ref w0), .val (.long q1), .second, .val (.long q2), .second, .val .null, .val .null, .val (.long q3), .second] [(.ref a1)]))
  refine own_to (fun t k => XS.lloadN X78.here hx rfl (hb hby own_d3_10) rfl k) ?_
  show own_Fin _ _ _ _ _ _ (T78.setTop (mkF m 11 #[.val (.ref a1), .val (.ref w0), .val (.long q1), .second, .val (.long q2), .second, .val .null, .val .null, .val (.long q3), .second] [(.long q1), (.ref a1)]))
  obtain ⟨T79, h79, X79, e79, W79, st79⟩ := putF X78 hx hZ hown (host := "") (Or.inl (hw _ (List.mem_of_getElem? (i := 23) rfl))) Via.refl e78 F2_e78 E1_e78 (Or.inr ⟨(hw _ (List.mem_of_getElem? (i := 24) rfl)), rfl, hnm⟩) (hw _ (List.mem_of_getElem? (i := 8) rfl)) (ty := .long) (by decide) rfl rfl (g := (mkF m 11 #[.val (.ref a1), .val (.ref w0), .val (.long q1), .second, .val (.long q2), .second, .val .null, .val .null, .val (.long q3), .second] [(.long q1), (.ref a1)])) rfl rfl (hb hby own_d3_11)
  have Fw79 := F2_e78.same W79
  have N79 := Fr.snoc X79 N78 g_a1
  have KK79 : Keep h0 h79 [a1] := KK78.wr W79 (Or.inl (List.mem_of_getElem? (i := 0) rfl))
  have E1_e79 := E1_e78.wr W79
  have Fw78_e79 := Fw78.other W79 (Or.inr (slot_ne (Or.inr (hw _ (List.mem_of_getElem? (i := 22) rfl))) (Or.inr (hw _ (List.mem_of_getElem? (i := 24) rfl))) (by decide) (t := (.object "java/lang/String")) (t' := .long) (by decide) (by decide)))
  have F3_e79 := F3_e78.other W79 (Or.inr (slot_ne (Or.inr (hw _ (List.mem_of_getElem? (i := 26) rfl))) (Or.inr (hw _ (List.mem_of_getElem? (i := 24) rfl))) (by decide) (t := .long) (t' := .long) (by decide) (by decide)))
  have F4_e79 := F4_e78.other W79 (Or.inr (slot_ne (Or.inr (hw _ (List.mem_of_getElem? (i := 28) rfl))) (Or.inr (hw _ (List.mem_of_getElem? (i := 24) rfl))) (by decide) (t := (.object "java/lang/String")) (t' := .long) (by decide) (by decide)))
  have F5_e79 := F5_e78.other W79 (Or.inr (slot_ne (Or.inr (hw _ (List.mem_of_getElem? (i := 30) rfl))) (Or.inr (hw _ (List.mem_of_getElem? (i := 24) rfl))) (by decide) (t := (.object "java/lang/String")) (t' := .long) (by decide) (by decide)))
  have F6_e79 := F6_e78.other W79 (Or.inr (slot_ne (Or.inr (hw _ (List.mem_of_getElem? (i := 32) rfl))) (Or.inr (hw _ (List.mem_of_getElem? (i := 24) rfl))) (by decide) (t := .long) (t' := .long) (by decide) (by decide)))
  refine own_to (fun t k => st79 t k) ?_
  show own_Fin _ _ _ _ _ _ (T79.setTop (mkF m 14 #[.val (.ref a1), .val (.ref w0), .val (.long q1), .second, .val (.long q2), .second, .val .null, .val .null, .val (.long q3), .second] []))
  refine own_to (fun t k => XS.aloadN X79.here hx rfl (hb hby own_d3_14) rfl rfl k) ?_
  show own_Fin _ _ _ _ _ _ (T79.setTop (mkF m 15 #[.val (.ref a1), .val (.ref w0), .val (.long q1), .second, .val (.long q2), .second, .val .null, .val .null, .val (.long q3), .second] [(.ref a1)]))
  refine own_to (fun t k => XS.lload X79.here hx rfl (hb hby own_d3_15) rfl k) ?_
  show own_Fin _ _ _ _ _ _ (T79.setTop (mkF m 17 #[.val (.ref a1), .val (.ref w0), .val (.long q1), .second, .val (.long q2), .second, .val .null, .val .null, .val (.long q3), .second] [(.long q2), (.ref a1)]))
  obtain ⟨T80, h80, X80, e80, W80, st80⟩ := putF X79 hx hZ hown (host := "") (Or.inl (hw _ (List.mem_of_getElem? (i := 25) rfl))) Via.refl e79 F3_e79 E1_e79 (Or.inr ⟨(hw _ (List.mem_of_getElem? (i := 26) rfl)), rfl, hnm⟩) (hw _ (List.mem_of_getElem? (i := 8) rfl)) (ty := .long) (by decide) rfl rfl (g := (mkF m 17 #[.val (.ref a1), .val (.ref w0), .val (.long q1), .second, .val (.long q2), .second, .val .null, .val .null, .val (.long q3), .second] [(.long q2), (.ref a1)])) rfl rfl (hb hby own_d3_17)
  have Fw80 := F3_e79.same W80
  have N80 := Fr.snoc X80 N79 g_a1
  have KK80 : Keep h0 h80 [a1] := KK79.wr W80 (Or.inl (List.mem_of_getElem? (i := 0) rfl))
  have E1_e80 := E1_e79.wr W80
  have Fw78_e80 := Fw78_e79.other W80 (Or.inr (slot_ne (Or.inr (hw _ (List.mem_of_getElem? (i := 22) rfl))) (Or.inr (hw _ (List.mem_of_getElem? (i := 26) rfl))) (by decide) (t := (.object "java/lang/String")) (t' := .long) (by decide) (by decide)))
  have Fw79_e80 := Fw79.other W80 (Or.inr (slot_ne (Or.inr (hw _ (List.mem_of_getElem? (i := 24) rfl))) (Or.inr (hw _ (List.mem_of_getElem? (i := 26) rfl))) (by decide) (t := .long) (t' := .long) (by decide) (by decide)))
  have F4_e80 := F4_e79.other W80 (Or.inr (slot_ne (Or.inr (hw _ (List.mem_of_getElem? (i := 28) rfl))) (Or.inr (hw _ (List.mem_of_getElem? (i := 26) rfl))) (by decide) (t := (.object "java/lang/String")) (t' := .long) (by decide) (by decide)))
  have F5_e80 := F5_e79.other W80 (Or.inr (slot_ne (Or.inr (hw _ (List.mem_of_getElem? (i := 30) rfl))) (Or.inr (hw _ (List.mem_of_getElem? (i := 26) rfl))) (by decide) (t := (.object "java/lang/String")) (t' := .long) (by decide) (by decide)))
  have F6_e80 := F6_e79.other W80 (Or.inr (slot_ne (Or.inr (hw _ (List.mem_of_getElem? (i := 32) rfl))) (Or.inr (hw _ (List.mem_of_getElem? (i := 26) rfl))) (by decide) (t := .long) (t' := .long) (by decide) (by decide)))
  refine own_to (fun t k => st80 t k) ?_
  show own_Fin _ _ _ _ _ _ (T80.setTop (mkF m 20 #[.val (.ref a1), .val (.ref w0), .val (.long q1), .second, .val (.long q2), .second, .val .null, .val .null, .val (.long q3), .second] []))
  refine own_to (fun t k => XS.aloadN X80.here hx rfl (hb hby own_d3_20) rfl rfl k) ?_
  show own_Fin _ _ _ _ _ _ (T80.setTop (mkF m 21 #[.val (.ref a1), .val (.ref w0), .val (.long q1), .second, .val (.long q2), .second, .val .null, .val .null, .val (.long q3), .second] [(.ref a1)]))
  refine own_to (fun t k => XS.aload X80.here hx rfl (hb hby own_d3_21) rfl rfl k) ?_
  show own_Fin _ _ _ _ _ _ (T80.setTop (mkF m 23 #[.val (.ref a1), .val (.ref w0), .val (.long q1), .second, .val (.long q2), .second, .val .null, .val .null, .val (.long q3), .second] [.null, (.ref a1)]))
  obtain ⟨T81, h81, X81, e81, W81, st81⟩ := putF X80 hx hZ hown (host := "") (Or.inl (hw _ (List.mem_of_getElem? (i := 27) rfl))) Via.refl e80 F4_e80 E1_e80 (Or.inr ⟨(hw _ (List.mem_of_getElem? (i := 28) rfl)), rfl, hnm⟩) (hw _ (List.mem_of_getElem? (i := 8) rfl)) (ty := (.object "java/lang/String")) (by decide) rfl rfl (g := (mkF m 23 #[.val (.ref a1), .val (.ref w0), .val (.long q1), .second, .val (.long q2), .second, .val .null, .val .null, .val (.long q3), .second] [.null, (.ref a1)])) rfl rfl (hb hby own_d3_23)
  have Fw81 := F4_e80.same W81
  have N81 := Fr.snoc X81 N80 g_a1
  have KK81 : Keep h0 h81 [a1] := KK80.wr W81 (Or.inl (List.mem_of_getElem? (i := 0) rfl))
  have E1_e81 := E1_e80.wr W81
  have Fw78_e81 := Fw78_e80.other W81 (Or.inr (slot_ne (Or.inr (hw _ (List.mem_of_getElem? (i := 22) rfl))) (Or.inr (hw _ (List.mem_of_getElem? (i := 28) rfl))) (by decide) (t := (.object "java/lang/String")) (t' := (.object "java/lang/String")) (by decide) (by decide)))
  have Fw79_e81 := Fw79_e80.other W81 (Or.inr (slot_ne (Or.inr (hw _ (List.mem_of_getElem? (i := 24) rfl))) (Or.inr (hw _ (List.mem_of_getElem? (i := 28) rfl))) (by decide) (t := .long) (t' := (.object "java/lang/String")) (by decide) (by decide)))
  have Fw80_e81 := Fw80.other W81 (Or.inr (slot_ne (Or.inr (hw _ (List.mem_of_getElem? (i := 26) rfl))) (Or.inr (hw _ (List.mem_of_getElem? (i := 28) rfl))) (by decide) (t := .long) (t' := (.object "java/lang/String")) (by decide) (by decide)))
  have F5_e81 := F5_e80.other W81 (Or.inr (slot_ne (Or.inr (hw _ (List.mem_of_getElem? (i := 30) rfl))) (Or.inr (hw _ (List.mem_of_getElem? (i := 28) rfl))) (by decide) (t := (.object "java/lang/String")) (t' := (.object "java/lang/String")) (by decide) (by decide)))
  have F6_e81 := F6_e80.other W81 (Or.inr (slot_ne (Or.inr (hw _ (List.mem_of_getElem? (i := 32) rfl))) (Or.inr (hw _ (List.mem_of_getElem? (i := 28) rfl))) (by decide) (t := .long) (t' := (.object "java/lang/String")) (by decide) (by decide)))
  refine own_to (fun t k => st81 t k) ?_
  show own_Fin _ _ _ _ _ _ (T81.setTop (mkF m 26 #[.val (.ref a1), .val (.ref w0), .val (.long q1), .second, .val (.long q2), .second, .val .null, .val .null, .val (.long q3), .second] []))
  refine own_to (fun t k => XS.aloadN X81.here hx rfl (hb hby own_d3_26) rfl rfl k) ?_
  show own_Fin _ _ _ _ _ _ (T81.setTop (mkF m 27 #[.val (.ref a1), .val (.ref w0), .val (.long q1), .second, .val (.long q2), .second, .val .null, .val .null, .val (.long q3), .second] [(.ref a1)]))
  refine own_to (fun t k => XS.aload X81.here hx rfl (hb hby own_d3_27) rfl rfl k) ?_
  show own_Fin _ _ _ _ _ _ (T81.setTop (mkF m 29 #[.val (.ref a1), .val (.ref w0), .val (.long q1), .second, .val (.long q2), .second, .val .null, .val .null, .val (.long q3), .second] [.null, (.ref a1)]))
  obtain ⟨T82, h82, X82, e82, W82, st82⟩ := putF X81 hx hZ hown (host := "") (Or.inl (hw _ (List.mem_of_getElem? (i := 29) rfl))) Via.refl e81 F5_e81 E1_e81 (Or.inr ⟨(hw _ (List.mem_of_getElem? (i := 30) rfl)), rfl, hnm⟩) (hw _ (List.mem_of_getElem? (i := 8) rfl)) (ty := (.object "java/lang/String")) (by decide) rfl rfl (g := (mkF m 29 #[.val (.ref a1), .val (.ref w0), .val (.long q1), .second, .val (.long q2), .second, .val .null, .val .null, .val (.long q3), .second] [.null, (.ref a1)])) rfl rfl (hb hby own_d3_29)
  have Fw82 := F5_e81.same W82
  have N82 := Fr.snoc X82 N81 g_a1
  have KK82 : Keep h0 h82 [a1] := KK81.wr W82 (Or.inl (List.mem_of_getElem? (i := 0) rfl))
  have E1_e82 := E1_e81.wr W82
  have Fw78_e82 := Fw78_e81.other W82 (Or.inr (slot_ne (Or.inr (hw _ (List.mem_of_getElem? (i := 22) rfl))) (Or.inr (hw _ (List.mem_of_getElem? (i := 30) rfl))) (by decide) (t := (.object "java/lang/String")) (t' := (.object "java/lang/String")) (by decide) (by decide)))
  have Fw79_e82 := Fw79_e81.other W82 (Or.inr (slot_ne (Or.inr (hw _ (List.mem_of_getElem? (i := 24) rfl))) (Or.inr (hw _ (List.mem_of_getElem? (i := 30) rfl))) (by decide) (t := .long) (t' := (.object "java/lang/String")) (by decide) (by decide)))
  have Fw80_e82 := Fw80_e81.other W82 (Or.inr (slot_ne (Or.inr (hw _ (List.mem_of_getElem? (i := 26) rfl))) (Or.inr (hw _ (List.mem_of_getElem? (i := 30) rfl))) (by decide) (t := .long) (t' := (.object "java/lang/String")) (by decide) (by decide)))
  have Fw81_e82 := Fw81.other W82 (Or.inr (slot_ne (Or.inr (hw _ (List.mem_of_getElem? (i := 28) rfl))) (Or.inr (hw _ (List.mem_of_getElem? (i := 30) rfl))) (by decide) (t := (.object "java/lang/String")) (t' := (.object "java/lang/String")) (by decide) (by decide)))
  have F6_e82 := F6_e81.other W82 (Or.inr (slot_ne (Or.inr (hw _ (List.mem_of_getElem? (i := 32) rfl))) (Or.inr (hw _ (List.mem_of_getElem? (i := 30) rfl))) (by decide) (t := .long) (t' := (.object "java/lang/String")) (by decide) (by decide)))
  refine own_to (fun t k => st82 t k) ?_
  show own_Fin _ _ _ _ _ _ (T82.setTop (mkF m 32 #[.val (.ref a1), .val (.ref w0), .val (.long q1), .second, .val (.long q2), .second, .val .null, .val .null, .val (.long q3), .second] []))
  refine own_to (fun t k => XS.aloadN X82.here hx rfl (hb hby own_d3_32) rfl rfl k) ?_
  show own_Fin _ _ _ _ _ _ (T82.setTop (mkF m 33 #[.val (.ref a1), .val (.ref w0), .val (.long q1), .second, .val (.long q2), .second, .val .null, .val .null, .val (.long q3), .second] [(.ref a1)]))
  refine own_to (fun t k => XS.lload X82.here hx rfl (hb hby own_d3_33) rfl k) ?_
  show own_Fin _ _ _ _ _ _ (T82.setTop (mkF m 35 #[.val (.ref a1), .val (.ref w0), .val (.long q1), .second, .val (.long q2), .second, .val .null, .val .null, .val (.long q3), .second] [(.long q3), (.ref a1)]))
  obtain ⟨T83, h83, X83, e83, W83, st83⟩ := putF X82 hx hZ hown (host := "") (Or.inl (hw _ (List.mem_of_getElem? (i := 31) rfl))) Via.refl e82 F6_e82 E1_e82 (Or.inr ⟨(hw _ (List.mem_of_getElem? (i := 32) rfl)), rfl, hnm⟩) (hw _ (List.mem_of_getElem? (i := 8) rfl)) (ty := .long) (by decide) rfl rfl (g := (mkF m 35 #[.val (.ref a1), .val (.ref w0), .val (.long q1), .second, .val (.long q2), .second, .val .null, .val .null, .val (.long q3), .second] [(.long q3), (.ref a1)])) rfl rfl (hb hby own_d3_35)
  have Fw83 := F6_e82.same W83
  have N83 := Fr.snoc X83 N82 g_a1
  have KK83 : Keep h0 h83 [a1] := KK82.wr W83 (Or.inl (List.mem_of_getElem? (i := 0) rfl))
  have E1_e83 := E1_e82.wr W83
  have Fw78_e83 := Fw78_e82.other W83 (Or.inr (slot_ne (Or.inr (hw _ (List.mem_of_getElem? (i := 22) rfl))) (Or.inr (hw _ (List.mem_of_getElem? (i := 32) rfl))) (by decide) (t := (.object "java/lang/String")) (t' := .long) (by decide) (by decide)))
  have Fw79_e83 := Fw79_e82.other W83 (Or.inr (slot_ne (Or.inr (hw _ (List.mem_of_getElem? (i := 24) rfl))) (Or.inr (hw _ (List.mem_of_getElem? (i := 32) rfl))) (by decide) (t := .long) (t' := .long) (by decide) (by decide)))
  have Fw80_e83 := Fw80_e82.other W83 (Or.inr (slot_ne (Or.inr (hw _ (List.mem_of_getElem? (i := 26) rfl))) (Or.inr (hw _ (List.mem_of_getElem? (i := 32) rfl))) (by decide) (t := .long) (t' := .long) (by decide) (by decide)))
  have Fw81_e83 := Fw81_e82.other W83 (Or.inr (slot_ne (Or.inr (hw _ (List.mem_of_getElem? (i := 28) rfl))) (Or.inr (hw _ (List.mem_of_getElem? (i := 32) rfl))) (by decide) (t := (.object "java/lang/String")) (t' := .long) (by decide) (by decide)))
  have Fw82_e83 := Fw82.other W83 (Or.inr (slot_ne (Or.inr (hw _ (List.mem_of_getElem? (i := 30) rfl))) (Or.inr (hw _ (List.mem_of_getElem? (i := 32) rfl))) (by decide) (t := (.object "java/lang/String")) (t' := .long) (by decide) (by decide)))
  refine own_to (fun t k => st83 t k) ?_
  show own_Fin _ _ _ _ _ _ (T83.setTop (mkF m 38 #[.val (.ref a1), .val (.ref w0), .val (.long q1), .second, .val (.long q2), .second, .val .null, .val .null, .val (.long q3), .second] []))
  refine own_retV X83 hx hlk hret (hb hby own_d3_38) (by decide) (by decide) ?_
  try rw [e83]
  exact ⟨rfl, N83, KK83, Fw78_e83, Fw79_e83⟩
theorem own_si2_ef (m : MethodId) (a1 : Addr) (q1 : Int64) (q2 : Int64) (q3 : Int64) (w1 : Addr) : entryFrame m #[(.ref a1), .null, (.long q1), (.long q2), (.ref w1), .null, (.long q3)] 10 = mkF m 0 #[.val (.ref a1), .val .null, .val (.long q1), .second, .val (.long q2), .second, .val (.ref w1), .val .null, .val (.long q3), .second] [] := by first | (simp [entryFrame, mkF, argsToLocals, Value.category]; done) | rfl
set_option maxRecDepth 65536 in
set_option maxHeartbeats 40000000 in
theorem own_si2 (l : Launch) (Z : State) (a0 : Array Value) (hw : ∀ d ∈ tables_1, d.before a0 Z = true) (ws : List Jvm.Cond) (a1 : Addr) (q1 : Int64) (q2 : Int64) (q3 : Int64) (w1 : Addr) (h0 : Heap) (n0 : Nat) (Z0 : n0 ≤ h0.size) (E1 : Exa Z h0 a1 "com/example/deft_lock/deftlock/service/ServerInfo") (F1 : Fld Z h0 a1 "com/example/deft_lock/deftlock/service/ServerInfo" "runId" "Ljava/lang/String;" .null) (F2 : Fld Z h0 a1 "com/example/deft_lock/deftlock/service/ServerInfo" "uptimeSeconds" "J" (.long (0 : Int64))) (F3 : Fld Z h0 a1 "com/example/deft_lock/deftlock/service/ServerInfo" "clockMicros" "J" (.long (0 : Int64))) (F4 : Fld Z h0 a1 "com/example/deft_lock/deftlock/service/ServerInfo" "role" "Ljava/lang/String;" .null) (F5 : Fld Z h0 a1 "com/example/deft_lock/deftlock/service/ServerInfo" "master" "Ljava/lang/String;" .null) (F6 : Fld Z h0 a1 "com/example/deft_lock/deftlock/service/ServerInfo" "connectedReplicas" "J" (.long (0 : Int64))) (g_a1 : n0 ≤ a1) :
    own_Met l Z (⟨"com/example/deft_lock/deftlock/service/ServerInfo", "<init>", "(Ljava/lang/String;JJLjava/lang/String;Ljava/lang/String;J)V"⟩ : MethodName) prog_7_method_1_code 10 none ws ({ frames := 2, cells := 0, slots := 0, locals := 32 } : Room) #[(.ref a1), .null, (.long q1), (.long q2), (.ref w1), .null, (.long q3)] h0 (fun v h L => v = none ∧ Fr n0 L ∧ Keep h0 h [a1] ∧ Fld Z h a1 "com/example/deft_lock/deftlock/service/ServerInfo" "runId" "Ljava/lang/String;" .null ∧ Fld Z h a1 "com/example/deft_lock/deftlock/service/ServerInfo" "uptimeSeconds" "J" (.long q1)) := by
  refine own_enter (plainFor_of_name own_pn4) ?_
  intro p e s m below meth c s₁ X0 hx hZ hby hml hown hnm hret hlk e0
  have N0 := Fr.nil n0
  rw [own_si2_ef m a1 q1 q2 q3 w1]
  have KK0 : Keep h0 h0 [a1] := Keep.refl _ _
  show own_Fin _ _ _ _ _ _ (s₁.setTop (mkF m 0 #[.val (.ref a1), .val .null, .val (.long q1), .second, .val (.long q2), .second, .val (.ref w1), .val .null, .val (.long q3), .second] []))
  refine own_to (fun t k => XS.aloadN X0.here hx rfl (hb hby own_d3_0) rfl rfl k) ?_
  show own_Fin _ _ _ _ _ _ (s₁.setTop (mkF m 1 #[.val (.ref a1), .val .null, .val (.long q1), .second, .val (.long q2), .second, .val (.ref w1), .val .null, .val (.long q3), .second] [(.ref a1)]))
  obtain ⟨_, _, ⟨T84, L84, k84, n84⟩, -, X84, ⟨Lc84, hQ84, l84, y84, z84⟩, st84⟩ := X0.specialBack hx (y := (⟨"java/lang/Record", "<init>", "()V"⟩ : MethodName)) rfl hown (mvT hZ (hw _ (List.mem_of_getElem? (i := 13) rfl))) (mvT hZ (hw _ (List.mem_of_getElem? (i := 14) rfl))) (mvT hZ (hw _ (List.mem_of_getElem? (i := 17) rfl))) (by decide) (own_back (W := 0) (own_rm4 l Z a0 hw [] a1 h0 n0 Z0) hZ (hw _ (List.mem_of_getElem? (i := 17) rfl)) (hw _ (List.mem_of_getElem? (i := 16) rfl)) (by decide) (by decide)) (g := (mkF m 1 #[.val (.ref a1), .val .null, .val (.long q1), .second, .val (.long q2), .second, .val (.ref w1), .val .null, .val (.long q3), .second] [(.ref a1)])) rfl (by rw [hml]; rfl) (Steps.refl _) (a := a1) (argsL := []) (rest := []) (lenOf own_pd1 rfl) rfl (by show 2 * 0 + _ ≤ _; exact Nat.le_of_eq rfl) (hb hby own_d3_1) (fun _ _ => ⟨rfl, e0, (by decide : 0 + 0 ≤ _), (by decide : 0 + 0 ≤ _)⟩)
  dsimp only [Pt.U, Pt.locs, Pt.cells, Pt.slots] at X84 l84 y84 z84 st84 hQ84
  subst l84 y84 z84
  obtain ⟨rfl, N84q, eh84⟩ := hQ84
  have N84 := Fr.app N0 N84q
  refine own_to (fun t k => st84.trans k) ?_
  show own_Fin _ _ _ _ _ _ (T84.setTop (mkF m 4 #[.val (.ref a1), .val .null, .val (.long q1), .second, .val (.long q2), .second, .val (.ref w1), .val .null, .val (.long q3), .second] []))
  refine own_to (fun t k => XS.aloadN X84.here hx rfl (hb hby own_d3_4) rfl rfl k) ?_
  show own_Fin _ _ _ _ _ _ (T84.setTop (mkF m 5 #[.val (.ref a1), .val .null, .val (.long q1), .second, .val (.long q2), .second, .val (.ref w1), .val .null, .val (.long q3), .second] [(.ref a1)]))
  refine own_to (fun t k => XS.aloadN X84.here hx rfl (hb hby own_d3_5) rfl rfl k) ?_
  show own_Fin _ _ _ _ _ _ (T84.setTop (mkF m 6 #[.val (.ref a1), .val .null, .val (.long q1), .second, .val (.long q2), .second, .val (.ref w1), .val .null, .val (.long q3), .second] [.null, (.ref a1)]))
  obtain ⟨T85, h85, X85, e85, W85, st85⟩ := putF X84 hx hZ hown (host := "") (Or.inl (hw _ (List.mem_of_getElem? (i := 21) rfl))) Via.refl eh84 F1 E1 (Or.inr ⟨(hw _ (List.mem_of_getElem? (i := 22) rfl)), rfl, hnm⟩) (hw _ (List.mem_of_getElem? (i := 8) rfl)) (ty := (.object "java/lang/String")) (by decide) rfl rfl (g := (mkF m 6 #[.val (.ref a1), .val .null, .val (.long q1), .second, .val (.long q2), .second, .val (.ref w1), .val .null, .val (.long q3), .second] [.null, (.ref a1)])) rfl rfl (hb hby own_d3_6)
  have Fw85 := F1.same W85
  have N85 := Fr.snoc X85 N84 g_a1
  have KK85 : Keep h0 h85 [a1] := KK0.wr W85 (Or.inl (List.mem_of_getElem? (i := 0) rfl))
  have E1_e85 := E1.wr W85
  have F2_e85 := F2.other W85 (Or.inr (slot_ne (Or.inr (hw _ (List.mem_of_getElem? (i := 24) rfl))) (Or.inr (hw _ (List.mem_of_getElem? (i := 22) rfl))) (by decide) (t := .long) (t' := (.object "java/lang/String")) (by decide) (by decide)))
  have F3_e85 := F3.other W85 (Or.inr (slot_ne (Or.inr (hw _ (List.mem_of_getElem? (i := 26) rfl))) (Or.inr (hw _ (List.mem_of_getElem? (i := 22) rfl))) (by decide) (t := .long) (t' := (.object "java/lang/String")) (by decide) (by decide)))
  have F4_e85 := F4.other W85 (Or.inr (slot_ne (Or.inr (hw _ (List.mem_of_getElem? (i := 28) rfl))) (Or.inr (hw _ (List.mem_of_getElem? (i := 22) rfl))) (by decide) (t := (.object "java/lang/String")) (t' := (.object "java/lang/String")) (by decide) (by decide)))
  have F5_e85 := F5.other W85 (Or.inr (slot_ne (Or.inr (hw _ (List.mem_of_getElem? (i := 30) rfl))) (Or.inr (hw _ (List.mem_of_getElem? (i := 22) rfl))) (by decide) (t := (.object "java/lang/String")) (t' := (.object "java/lang/String")) (by decide) (by decide)))
  have F6_e85 := F6.other W85 (Or.inr (slot_ne (Or.inr (hw _ (List.mem_of_getElem? (i := 32) rfl))) (Or.inr (hw _ (List.mem_of_getElem? (i := 22) rfl))) (by decide) (t := .long) (t' := (.object "java/lang/String")) (by decide) (by decide)))
  refine own_to (fun t k => st85 t k) ?_
  show own_Fin _ _ _ _ _ _ (T85.setTop (mkF m 9 #[.val (.ref a1), .val .null, .val (.long q1), .second, .val (.long q2), .second, .val (.ref w1), .val .null, .val (.long q3), .second] []))
  refine own_to (fun t k => XS.aloadN X85.here hx rfl (hb hby own_d3_9) rfl rfl k) ?_
  show own_Fin _ _ _ _ _ _ (T85.setTop (mkF m 10 #[.val (.ref a1), .val .null, .val (.long q1), .second, .val (.long q2), .second, .val (.ref w1), .val .null, .val (.long q3), .second] [(.ref a1)]))
  refine own_to (fun t k => XS.lloadN X85.here hx rfl (hb hby own_d3_10) rfl k) ?_
  show own_Fin _ _ _ _ _ _ (T85.setTop (mkF m 11 #[.val (.ref a1), .val .null, .val (.long q1), .second, .val (.long q2), .second, .val (.ref w1), .val .null, .val (.long q3), .second] [(.long q1), (.ref a1)]))
  obtain ⟨T86, h86, X86, e86, W86, st86⟩ := putF X85 hx hZ hown (host := "") (Or.inl (hw _ (List.mem_of_getElem? (i := 23) rfl))) Via.refl e85 F2_e85 E1_e85 (Or.inr ⟨(hw _ (List.mem_of_getElem? (i := 24) rfl)), rfl, hnm⟩) (hw _ (List.mem_of_getElem? (i := 8) rfl)) (ty := .long) (by decide) rfl rfl (g := (mkF m 11 #[.val (.ref a1), .val .null, .val (.long q1), .second, .val (.long q2), .second, .val (.ref w1), .val .null, .val (.long q3), .second] [(.long q1), (.ref a1)])) rfl rfl (hb hby own_d3_11)
  have Fw86 := F2_e85.same W86
  have N86 := Fr.snoc X86 N85 g_a1
  have KK86 : Keep h0 h86 [a1] := KK85.wr W86 (Or.inl (List.mem_of_getElem? (i := 0) rfl))
  have E1_e86 := E1_e85.wr W86
  have Fw85_e86 := Fw85.other W86 (Or.inr (slot_ne (Or.inr (hw _ (List.mem_of_getElem? (i := 22) rfl))) (Or.inr (hw _ (List.mem_of_getElem? (i := 24) rfl))) (by decide) (t := (.object "java/lang/String")) (t' := .long) (by decide) (by decide)))
  have F3_e86 := F3_e85.other W86 (Or.inr (slot_ne (Or.inr (hw _ (List.mem_of_getElem? (i := 26) rfl))) (Or.inr (hw _ (List.mem_of_getElem? (i := 24) rfl))) (by decide) (t := .long) (t' := .long) (by decide) (by decide)))
  have F4_e86 := F4_e85.other W86 (Or.inr (slot_ne (Or.inr (hw _ (List.mem_of_getElem? (i := 28) rfl))) (Or.inr (hw _ (List.mem_of_getElem? (i := 24) rfl))) (by decide) (t := (.object "java/lang/String")) (t' := .long) (by decide) (by decide)))
  have F5_e86 := F5_e85.other W86 (Or.inr (slot_ne (Or.inr (hw _ (List.mem_of_getElem? (i := 30) rfl))) (Or.inr (hw _ (List.mem_of_getElem? (i := 24) rfl))) (by decide) (t := (.object "java/lang/String")) (t' := .long) (by decide) (by decide)))
  have F6_e86 := F6_e85.other W86 (Or.inr (slot_ne (Or.inr (hw _ (List.mem_of_getElem? (i := 32) rfl))) (Or.inr (hw _ (List.mem_of_getElem? (i := 24) rfl))) (by decide) (t := .long) (t' := .long) (by decide) (by decide)))
  refine own_to (fun t k => st86 t k) ?_
  show own_Fin _ _ _ _ _ _ (T86.setTop (mkF m 14 #[.val (.ref a1), .val .null, .val (.long q1), .second, .val (.long q2), .second, .val (.ref w1), .val .null, .val (.long q3), .second] []))
  refine own_to (fun t k => XS.aloadN X86.here hx rfl (hb hby own_d3_14) rfl rfl k) ?_
  show own_Fin _ _ _ _ _ _ (T86.setTop (mkF m 15 #[.val (.ref a1), .val .null, .val (.long q1), .second, .val (.long q2), .second, .val (.ref w1), .val .null, .val (.long q3), .second] [(.ref a1)]))
  refine own_to (fun t k => XS.lload X86.here hx rfl (hb hby own_d3_15) rfl k) ?_
  show own_Fin _ _ _ _ _ _ (T86.setTop (mkF m 17 #[.val (.ref a1), .val .null, .val (.long q1), .second, .val (.long q2), .second, .val (.ref w1), .val .null, .val (.long q3), .second] [(.long q2), (.ref a1)]))
  obtain ⟨T87, h87, X87, e87, W87, st87⟩ := putF X86 hx hZ hown (host := "") (Or.inl (hw _ (List.mem_of_getElem? (i := 25) rfl))) Via.refl e86 F3_e86 E1_e86 (Or.inr ⟨(hw _ (List.mem_of_getElem? (i := 26) rfl)), rfl, hnm⟩) (hw _ (List.mem_of_getElem? (i := 8) rfl)) (ty := .long) (by decide) rfl rfl (g := (mkF m 17 #[.val (.ref a1), .val .null, .val (.long q1), .second, .val (.long q2), .second, .val (.ref w1), .val .null, .val (.long q3), .second] [(.long q2), (.ref a1)])) rfl rfl (hb hby own_d3_17)
  have Fw87 := F3_e86.same W87
  have N87 := Fr.snoc X87 N86 g_a1
  have KK87 : Keep h0 h87 [a1] := KK86.wr W87 (Or.inl (List.mem_of_getElem? (i := 0) rfl))
  have E1_e87 := E1_e86.wr W87
  have Fw85_e87 := Fw85_e86.other W87 (Or.inr (slot_ne (Or.inr (hw _ (List.mem_of_getElem? (i := 22) rfl))) (Or.inr (hw _ (List.mem_of_getElem? (i := 26) rfl))) (by decide) (t := (.object "java/lang/String")) (t' := .long) (by decide) (by decide)))
  have Fw86_e87 := Fw86.other W87 (Or.inr (slot_ne (Or.inr (hw _ (List.mem_of_getElem? (i := 24) rfl))) (Or.inr (hw _ (List.mem_of_getElem? (i := 26) rfl))) (by decide) (t := .long) (t' := .long) (by decide) (by decide)))
  have F4_e87 := F4_e86.other W87 (Or.inr (slot_ne (Or.inr (hw _ (List.mem_of_getElem? (i := 28) rfl))) (Or.inr (hw _ (List.mem_of_getElem? (i := 26) rfl))) (by decide) (t := (.object "java/lang/String")) (t' := .long) (by decide) (by decide)))
  have F5_e87 := F5_e86.other W87 (Or.inr (slot_ne (Or.inr (hw _ (List.mem_of_getElem? (i := 30) rfl))) (Or.inr (hw _ (List.mem_of_getElem? (i := 26) rfl))) (by decide) (t := (.object "java/lang/String")) (t' := .long) (by decide) (by decide)))
  have F6_e87 := F6_e86.other W87 (Or.inr (slot_ne (Or.inr (hw _ (List.mem_of_getElem? (i := 32) rfl))) (Or.inr (hw _ (List.mem_of_getElem? (i := 26) rfl))) (by decide) (t := .long) (t' := .long) (by decide) (by decide)))
  refine own_to (fun t k => st87 t k) ?_
  show own_Fin _ _ _ _ _ _ (T87.setTop (mkF m 20 #[.val (.ref a1), .val .null, .val (.long q1), .second, .val (.long q2), .second, .val (.ref w1), .val .null, .val (.long q3), .second] []))
  refine own_to (fun t k => XS.aloadN X87.here hx rfl (hb hby own_d3_20) rfl rfl k) ?_
  show own_Fin _ _ _ _ _ _ (T87.setTop (mkF m 21 #[.val (.ref a1), .val .null, .val (.long q1), .second, .val (.long q2), .second, .val (.ref w1), .val .null, .val (.long q3), .second] [(.ref a1)]))
  refine own_to (fun t k => XS.aload X87.here hx rfl (hb hby own_d3_21) rfl rfl k) ?_
  show own_Fin _ _ _ _ _ _ (T87.setTop (mkF m 23 #[.val (.ref a1), .val .null, .val (.long q1), .second, .val (.long q2), .second, .val (.ref w1), .val .null, .val (.long q3), .second] [(.ref w1), (.ref a1)]))
  obtain ⟨T88, h88, X88, e88, W88, st88⟩ := putF X87 hx hZ hown (host := "") (Or.inl (hw _ (List.mem_of_getElem? (i := 27) rfl))) Via.refl e87 F4_e87 E1_e87 (Or.inr ⟨(hw _ (List.mem_of_getElem? (i := 28) rfl)), rfl, hnm⟩) (hw _ (List.mem_of_getElem? (i := 8) rfl)) (ty := (.object "java/lang/String")) (by decide) rfl rfl (g := (mkF m 23 #[.val (.ref a1), .val .null, .val (.long q1), .second, .val (.long q2), .second, .val (.ref w1), .val .null, .val (.long q3), .second] [(.ref w1), (.ref a1)])) rfl rfl (hb hby own_d3_23)
  have Fw88 := F4_e87.same W88
  have N88 := Fr.snoc X88 N87 g_a1
  have KK88 : Keep h0 h88 [a1] := KK87.wr W88 (Or.inl (List.mem_of_getElem? (i := 0) rfl))
  have E1_e88 := E1_e87.wr W88
  have Fw85_e88 := Fw85_e87.other W88 (Or.inr (slot_ne (Or.inr (hw _ (List.mem_of_getElem? (i := 22) rfl))) (Or.inr (hw _ (List.mem_of_getElem? (i := 28) rfl))) (by decide) (t := (.object "java/lang/String")) (t' := (.object "java/lang/String")) (by decide) (by decide)))
  have Fw86_e88 := Fw86_e87.other W88 (Or.inr (slot_ne (Or.inr (hw _ (List.mem_of_getElem? (i := 24) rfl))) (Or.inr (hw _ (List.mem_of_getElem? (i := 28) rfl))) (by decide) (t := .long) (t' := (.object "java/lang/String")) (by decide) (by decide)))
  have Fw87_e88 := Fw87.other W88 (Or.inr (slot_ne (Or.inr (hw _ (List.mem_of_getElem? (i := 26) rfl))) (Or.inr (hw _ (List.mem_of_getElem? (i := 28) rfl))) (by decide) (t := .long) (t' := (.object "java/lang/String")) (by decide) (by decide)))
  have F5_e88 := F5_e87.other W88 (Or.inr (slot_ne (Or.inr (hw _ (List.mem_of_getElem? (i := 30) rfl))) (Or.inr (hw _ (List.mem_of_getElem? (i := 28) rfl))) (by decide) (t := (.object "java/lang/String")) (t' := (.object "java/lang/String")) (by decide) (by decide)))
  have F6_e88 := F6_e87.other W88 (Or.inr (slot_ne (Or.inr (hw _ (List.mem_of_getElem? (i := 32) rfl))) (Or.inr (hw _ (List.mem_of_getElem? (i := 28) rfl))) (by decide) (t := .long) (t' := (.object "java/lang/String")) (by decide) (by decide)))
  refine own_to (fun t k => st88 t k) ?_
  show own_Fin _ _ _ _ _ _ (T88.setTop (mkF m 26 #[.val (.ref a1), .val .null, .val (.long q1), .second, .val (.long q2), .second, .val (.ref w1), .val .null, .val (.long q3), .second] []))
  refine own_to (fun t k => XS.aloadN X88.here hx rfl (hb hby own_d3_26) rfl rfl k) ?_
  show own_Fin _ _ _ _ _ _ (T88.setTop (mkF m 27 #[.val (.ref a1), .val .null, .val (.long q1), .second, .val (.long q2), .second, .val (.ref w1), .val .null, .val (.long q3), .second] [(.ref a1)]))
  refine own_to (fun t k => XS.aload X88.here hx rfl (hb hby own_d3_27) rfl rfl k) ?_
  show own_Fin _ _ _ _ _ _ (T88.setTop (mkF m 29 #[.val (.ref a1), .val .null, .val (.long q1), .second, .val (.long q2), .second, .val (.ref w1), .val .null, .val (.long q3), .second] [.null, (.ref a1)]))
  obtain ⟨T89, h89, X89, e89, W89, st89⟩ := putF X88 hx hZ hown (host := "") (Or.inl (hw _ (List.mem_of_getElem? (i := 29) rfl))) Via.refl e88 F5_e88 E1_e88 (Or.inr ⟨(hw _ (List.mem_of_getElem? (i := 30) rfl)), rfl, hnm⟩) (hw _ (List.mem_of_getElem? (i := 8) rfl)) (ty := (.object "java/lang/String")) (by decide) rfl rfl (g := (mkF m 29 #[.val (.ref a1), .val .null, .val (.long q1), .second, .val (.long q2), .second, .val (.ref w1), .val .null, .val (.long q3), .second] [.null, (.ref a1)])) rfl rfl (hb hby own_d3_29)
  have Fw89 := F5_e88.same W89
  have N89 := Fr.snoc X89 N88 g_a1
  have KK89 : Keep h0 h89 [a1] := KK88.wr W89 (Or.inl (List.mem_of_getElem? (i := 0) rfl))
  have E1_e89 := E1_e88.wr W89
  have Fw85_e89 := Fw85_e88.other W89 (Or.inr (slot_ne (Or.inr (hw _ (List.mem_of_getElem? (i := 22) rfl))) (Or.inr (hw _ (List.mem_of_getElem? (i := 30) rfl))) (by decide) (t := (.object "java/lang/String")) (t' := (.object "java/lang/String")) (by decide) (by decide)))
  have Fw86_e89 := Fw86_e88.other W89 (Or.inr (slot_ne (Or.inr (hw _ (List.mem_of_getElem? (i := 24) rfl))) (Or.inr (hw _ (List.mem_of_getElem? (i := 30) rfl))) (by decide) (t := .long) (t' := (.object "java/lang/String")) (by decide) (by decide)))
  have Fw87_e89 := Fw87_e88.other W89 (Or.inr (slot_ne (Or.inr (hw _ (List.mem_of_getElem? (i := 26) rfl))) (Or.inr (hw _ (List.mem_of_getElem? (i := 30) rfl))) (by decide) (t := .long) (t' := (.object "java/lang/String")) (by decide) (by decide)))
  have Fw88_e89 := Fw88.other W89 (Or.inr (slot_ne (Or.inr (hw _ (List.mem_of_getElem? (i := 28) rfl))) (Or.inr (hw _ (List.mem_of_getElem? (i := 30) rfl))) (by decide) (t := (.object "java/lang/String")) (t' := (.object "java/lang/String")) (by decide) (by decide)))
  have F6_e89 := F6_e88.other W89 (Or.inr (slot_ne (Or.inr (hw _ (List.mem_of_getElem? (i := 32) rfl))) (Or.inr (hw _ (List.mem_of_getElem? (i := 30) rfl))) (by decide) (t := .long) (t' := (.object "java/lang/String")) (by decide) (by decide)))
  refine own_to (fun t k => st89 t k) ?_
  show own_Fin _ _ _ _ _ _ (T89.setTop (mkF m 32 #[.val (.ref a1), .val .null, .val (.long q1), .second, .val (.long q2), .second, .val (.ref w1), .val .null, .val (.long q3), .second] []))
  refine own_to (fun t k => XS.aloadN X89.here hx rfl (hb hby own_d3_32) rfl rfl k) ?_
  show own_Fin _ _ _ _ _ _ (T89.setTop (mkF m 33 #[.val (.ref a1), .val .null, .val (.long q1), .second, .val (.long q2), .second, .val (.ref w1), .val .null, .val (.long q3), .second] [(.ref a1)]))
  refine own_to (fun t k => XS.lload X89.here hx rfl (hb hby own_d3_33) rfl k) ?_
  show own_Fin _ _ _ _ _ _ (T89.setTop (mkF m 35 #[.val (.ref a1), .val .null, .val (.long q1), .second, .val (.long q2), .second, .val (.ref w1), .val .null, .val (.long q3), .second] [(.long q3), (.ref a1)]))
  obtain ⟨T90, h90, X90, e90, W90, st90⟩ := putF X89 hx hZ hown (host := "") (Or.inl (hw _ (List.mem_of_getElem? (i := 31) rfl))) Via.refl e89 F6_e89 E1_e89 (Or.inr ⟨(hw _ (List.mem_of_getElem? (i := 32) rfl)), rfl, hnm⟩) (hw _ (List.mem_of_getElem? (i := 8) rfl)) (ty := .long) (by decide) rfl rfl (g := (mkF m 35 #[.val (.ref a1), .val .null, .val (.long q1), .second, .val (.long q2), .second, .val (.ref w1), .val .null, .val (.long q3), .second] [(.long q3), (.ref a1)])) rfl rfl (hb hby own_d3_35)
  have Fw90 := F6_e89.same W90
  have N90 := Fr.snoc X90 N89 g_a1
  have KK90 : Keep h0 h90 [a1] := KK89.wr W90 (Or.inl (List.mem_of_getElem? (i := 0) rfl))
  have E1_e90 := E1_e89.wr W90
  have Fw85_e90 := Fw85_e89.other W90 (Or.inr (slot_ne (Or.inr (hw _ (List.mem_of_getElem? (i := 22) rfl))) (Or.inr (hw _ (List.mem_of_getElem? (i := 32) rfl))) (by decide) (t := (.object "java/lang/String")) (t' := .long) (by decide) (by decide)))
  have Fw86_e90 := Fw86_e89.other W90 (Or.inr (slot_ne (Or.inr (hw _ (List.mem_of_getElem? (i := 24) rfl))) (Or.inr (hw _ (List.mem_of_getElem? (i := 32) rfl))) (by decide) (t := .long) (t' := .long) (by decide) (by decide)))
  have Fw87_e90 := Fw87_e89.other W90 (Or.inr (slot_ne (Or.inr (hw _ (List.mem_of_getElem? (i := 26) rfl))) (Or.inr (hw _ (List.mem_of_getElem? (i := 32) rfl))) (by decide) (t := .long) (t' := .long) (by decide) (by decide)))
  have Fw88_e90 := Fw88_e89.other W90 (Or.inr (slot_ne (Or.inr (hw _ (List.mem_of_getElem? (i := 28) rfl))) (Or.inr (hw _ (List.mem_of_getElem? (i := 32) rfl))) (by decide) (t := (.object "java/lang/String")) (t' := .long) (by decide) (by decide)))
  have Fw89_e90 := Fw89.other W90 (Or.inr (slot_ne (Or.inr (hw _ (List.mem_of_getElem? (i := 30) rfl))) (Or.inr (hw _ (List.mem_of_getElem? (i := 32) rfl))) (by decide) (t := (.object "java/lang/String")) (t' := .long) (by decide) (by decide)))
  refine own_to (fun t k => st90 t k) ?_
  show own_Fin _ _ _ _ _ _ (T90.setTop (mkF m 38 #[.val (.ref a1), .val .null, .val (.long q1), .second, .val (.long q2), .second, .val (.ref w1), .val .null, .val (.long q3), .second] []))
  refine own_retV X90 hx hlk hret (hb hby own_d3_38) (by decide) (by decide) ?_
  try rw [e90]
  exact ⟨rfl, N90, KK90, Fw85_e90, Fw86_e90⟩
theorem own_si3_ef (m : MethodId) (a1 : Addr) (q1 : Int64) (q2 : Int64) (q3 : Int64) (w0 : Addr) (w1 : Addr) : entryFrame m #[(.ref a1), (.ref w0), (.long q1), (.long q2), (.ref w1), .null, (.long q3)] 10 = mkF m 0 #[.val (.ref a1), .val (.ref w0), .val (.long q1), .second, .val (.long q2), .second, .val (.ref w1), .val .null, .val (.long q3), .second] [] := by first | (simp [entryFrame, mkF, argsToLocals, Value.category]; done) | rfl
set_option maxRecDepth 65536 in
set_option maxHeartbeats 40000000 in
theorem own_si3 (l : Launch) (Z : State) (a0 : Array Value) (hw : ∀ d ∈ tables_1, d.before a0 Z = true) (ws : List Jvm.Cond) (a1 : Addr) (q1 : Int64) (q2 : Int64) (q3 : Int64) (w0 : Addr) (w1 : Addr) (h0 : Heap) (n0 : Nat) (Z0 : n0 ≤ h0.size) (E1 : Exa Z h0 a1 "com/example/deft_lock/deftlock/service/ServerInfo") (F1 : Fld Z h0 a1 "com/example/deft_lock/deftlock/service/ServerInfo" "runId" "Ljava/lang/String;" .null) (F2 : Fld Z h0 a1 "com/example/deft_lock/deftlock/service/ServerInfo" "uptimeSeconds" "J" (.long (0 : Int64))) (F3 : Fld Z h0 a1 "com/example/deft_lock/deftlock/service/ServerInfo" "clockMicros" "J" (.long (0 : Int64))) (F4 : Fld Z h0 a1 "com/example/deft_lock/deftlock/service/ServerInfo" "role" "Ljava/lang/String;" .null) (F5 : Fld Z h0 a1 "com/example/deft_lock/deftlock/service/ServerInfo" "master" "Ljava/lang/String;" .null) (F6 : Fld Z h0 a1 "com/example/deft_lock/deftlock/service/ServerInfo" "connectedReplicas" "J" (.long (0 : Int64))) (g_a1 : n0 ≤ a1) :
    own_Met l Z (⟨"com/example/deft_lock/deftlock/service/ServerInfo", "<init>", "(Ljava/lang/String;JJLjava/lang/String;Ljava/lang/String;J)V"⟩ : MethodName) prog_7_method_1_code 10 none ws ({ frames := 2, cells := 0, slots := 0, locals := 32 } : Room) #[(.ref a1), (.ref w0), (.long q1), (.long q2), (.ref w1), .null, (.long q3)] h0 (fun v h L => v = none ∧ Fr n0 L ∧ Keep h0 h [a1] ∧ Fld Z h a1 "com/example/deft_lock/deftlock/service/ServerInfo" "runId" "Ljava/lang/String;" (.ref w0) ∧ Fld Z h a1 "com/example/deft_lock/deftlock/service/ServerInfo" "uptimeSeconds" "J" (.long q1)) := by
  refine own_enter (plainFor_of_name own_pn4) ?_
  intro p e s m below meth c s₁ X0 hx hZ hby hml hown hnm hret hlk e0
  have N0 := Fr.nil n0
  rw [own_si3_ef m a1 q1 q2 q3 w0 w1]
  have KK0 : Keep h0 h0 [a1] := Keep.refl _ _
  show own_Fin _ _ _ _ _ _ (s₁.setTop (mkF m 0 #[.val (.ref a1), .val (.ref w0), .val (.long q1), .second, .val (.long q2), .second, .val (.ref w1), .val .null, .val (.long q3), .second] []))
  refine own_to (fun t k => XS.aloadN X0.here hx rfl (hb hby own_d3_0) rfl rfl k) ?_
  show own_Fin _ _ _ _ _ _ (s₁.setTop (mkF m 1 #[.val (.ref a1), .val (.ref w0), .val (.long q1), .second, .val (.long q2), .second, .val (.ref w1), .val .null, .val (.long q3), .second] [(.ref a1)]))
  obtain ⟨_, _, ⟨T91, L91, k91, n91⟩, -, X91, ⟨Lc91, hQ91, l91, y91, z91⟩, st91⟩ := X0.specialBack hx (y := (⟨"java/lang/Record", "<init>", "()V"⟩ : MethodName)) rfl hown (mvT hZ (hw _ (List.mem_of_getElem? (i := 13) rfl))) (mvT hZ (hw _ (List.mem_of_getElem? (i := 14) rfl))) (mvT hZ (hw _ (List.mem_of_getElem? (i := 17) rfl))) (by decide) (own_back (W := 0) (own_rm4 l Z a0 hw [] a1 h0 n0 Z0) hZ (hw _ (List.mem_of_getElem? (i := 17) rfl)) (hw _ (List.mem_of_getElem? (i := 16) rfl)) (by decide) (by decide)) (g := (mkF m 1 #[.val (.ref a1), .val (.ref w0), .val (.long q1), .second, .val (.long q2), .second, .val (.ref w1), .val .null, .val (.long q3), .second] [(.ref a1)])) rfl (by rw [hml]; rfl) (Steps.refl _) (a := a1) (argsL := []) (rest := []) (lenOf own_pd1 rfl) rfl (by show 2 * 0 + _ ≤ _; exact Nat.le_of_eq rfl) (hb hby own_d3_1) (fun _ _ => ⟨rfl, e0, (by decide : 0 + 0 ≤ _), (by decide : 0 + 0 ≤ _)⟩)
  dsimp only [Pt.U, Pt.locs, Pt.cells, Pt.slots] at X91 l91 y91 z91 st91 hQ91
  subst l91 y91 z91
  obtain ⟨rfl, N91q, eh91⟩ := hQ91
  have N91 := Fr.app N0 N91q
  refine own_to (fun t k => st91.trans k) ?_
  show own_Fin _ _ _ _ _ _ (T91.setTop (mkF m 4 #[.val (.ref a1), .val (.ref w0), .val (.long q1), .second, .val (.long q2), .second, .val (.ref w1), .val .null, .val (.long q3), .second] []))
  refine own_to (fun t k => XS.aloadN X91.here hx rfl (hb hby own_d3_4) rfl rfl k) ?_
  show own_Fin _ _ _ _ _ _ (T91.setTop (mkF m 5 #[.val (.ref a1), .val (.ref w0), .val (.long q1), .second, .val (.long q2), .second, .val (.ref w1), .val .null, .val (.long q3), .second] [(.ref a1)]))
  refine own_to (fun t k => XS.aloadN X91.here hx rfl (hb hby own_d3_5) rfl rfl k) ?_
  show own_Fin _ _ _ _ _ _ (T91.setTop (mkF m 6 #[.val (.ref a1), .val (.ref w0), .val (.long q1), .second, .val (.long q2), .second, .val (.ref w1), .val .null, .val (.long q3), .second] [(.ref w0), (.ref a1)]))
  obtain ⟨T92, h92, X92, e92, W92, st92⟩ := putF X91 hx hZ hown (host := "") (Or.inl (hw _ (List.mem_of_getElem? (i := 21) rfl))) Via.refl eh91 F1 E1 (Or.inr ⟨(hw _ (List.mem_of_getElem? (i := 22) rfl)), rfl, hnm⟩) (hw _ (List.mem_of_getElem? (i := 8) rfl)) (ty := (.object "java/lang/String")) (by decide) rfl rfl (g := (mkF m 6 #[.val (.ref a1), .val (.ref w0), .val (.long q1), .second, .val (.long q2), .second, .val (.ref w1), .val .null, .val (.long q3), .second] [(.ref w0), (.ref a1)])) rfl rfl (hb hby own_d3_6)
  have Fw92 := F1.same W92
  have N92 := Fr.snoc X92 N91 g_a1
  have KK92 : Keep h0 h92 [a1] := KK0.wr W92 (Or.inl (List.mem_of_getElem? (i := 0) rfl))
  have E1_e92 := E1.wr W92
  have F2_e92 := F2.other W92 (Or.inr (slot_ne (Or.inr (hw _ (List.mem_of_getElem? (i := 24) rfl))) (Or.inr (hw _ (List.mem_of_getElem? (i := 22) rfl))) (by decide) (t := .long) (t' := (.object "java/lang/String")) (by decide) (by decide)))
  have F3_e92 := F3.other W92 (Or.inr (slot_ne (Or.inr (hw _ (List.mem_of_getElem? (i := 26) rfl))) (Or.inr (hw _ (List.mem_of_getElem? (i := 22) rfl))) (by decide) (t := .long) (t' := (.object "java/lang/String")) (by decide) (by decide)))
  have F4_e92 := F4.other W92 (Or.inr (slot_ne (Or.inr (hw _ (List.mem_of_getElem? (i := 28) rfl))) (Or.inr (hw _ (List.mem_of_getElem? (i := 22) rfl))) (by decide) (t := (.object "java/lang/String")) (t' := (.object "java/lang/String")) (by decide) (by decide)))
  have F5_e92 := F5.other W92 (Or.inr (slot_ne (Or.inr (hw _ (List.mem_of_getElem? (i := 30) rfl))) (Or.inr (hw _ (List.mem_of_getElem? (i := 22) rfl))) (by decide) (t := (.object "java/lang/String")) (t' := (.object "java/lang/String")) (by decide) (by decide)))
  have F6_e92 := F6.other W92 (Or.inr (slot_ne (Or.inr (hw _ (List.mem_of_getElem? (i := 32) rfl))) (Or.inr (hw _ (List.mem_of_getElem? (i := 22) rfl))) (by decide) (t := .long) (t' := (.object "java/lang/String")) (by decide) (by decide)))
  refine own_to (fun t k => st92 t k) ?_
  show own_Fin _ _ _ _ _ _ (T92.setTop (mkF m 9 #[.val (.ref a1), .val (.ref w0), .val (.long q1), .second, .val (.long q2), .second, .val (.ref w1), .val .null, .val (.long q3), .second] []))
  refine own_to (fun t k => XS.aloadN X92.here hx rfl (hb hby own_d3_9) rfl rfl k) ?_
  show own_Fin _ _ _ _ _ _ (T92.setTop (mkF m 10 #[.val (.ref a1), .val (.ref w0), .val (.long q1), .second, .val (.long q2), .second, .val (.ref w1), .val .null, .val (.long q3), .second] [(.ref a1)]))
  refine own_to (fun t k => XS.lloadN X92.here hx rfl (hb hby own_d3_10) rfl k) ?_
  show own_Fin _ _ _ _ _ _ (T92.setTop (mkF m 11 #[.val (.ref a1), .val (.ref w0), .val (.long q1), .second, .val (.long q2), .second, .val (.ref w1), .val .null, .val (.long q3), .second] [(.long q1), (.ref a1)]))
  obtain ⟨T93, h93, X93, e93, W93, st93⟩ := putF X92 hx hZ hown (host := "") (Or.inl (hw _ (List.mem_of_getElem? (i := 23) rfl))) Via.refl e92 F2_e92 E1_e92 (Or.inr ⟨(hw _ (List.mem_of_getElem? (i := 24) rfl)), rfl, hnm⟩) (hw _ (List.mem_of_getElem? (i := 8) rfl)) (ty := .long) (by decide) rfl rfl (g := (mkF m 11 #[.val (.ref a1), .val (.ref w0), .val (.long q1), .second, .val (.long q2), .second, .val (.ref w1), .val .null, .val (.long q3), .second] [(.long q1), (.ref a1)])) rfl rfl (hb hby own_d3_11)
  have Fw93 := F2_e92.same W93
  have N93 := Fr.snoc X93 N92 g_a1
  have KK93 : Keep h0 h93 [a1] := KK92.wr W93 (Or.inl (List.mem_of_getElem? (i := 0) rfl))
  have E1_e93 := E1_e92.wr W93
  have Fw92_e93 := Fw92.other W93 (Or.inr (slot_ne (Or.inr (hw _ (List.mem_of_getElem? (i := 22) rfl))) (Or.inr (hw _ (List.mem_of_getElem? (i := 24) rfl))) (by decide) (t := (.object "java/lang/String")) (t' := .long) (by decide) (by decide)))
  have F3_e93 := F3_e92.other W93 (Or.inr (slot_ne (Or.inr (hw _ (List.mem_of_getElem? (i := 26) rfl))) (Or.inr (hw _ (List.mem_of_getElem? (i := 24) rfl))) (by decide) (t := .long) (t' := .long) (by decide) (by decide)))
  have F4_e93 := F4_e92.other W93 (Or.inr (slot_ne (Or.inr (hw _ (List.mem_of_getElem? (i := 28) rfl))) (Or.inr (hw _ (List.mem_of_getElem? (i := 24) rfl))) (by decide) (t := (.object "java/lang/String")) (t' := .long) (by decide) (by decide)))
  have F5_e93 := F5_e92.other W93 (Or.inr (slot_ne (Or.inr (hw _ (List.mem_of_getElem? (i := 30) rfl))) (Or.inr (hw _ (List.mem_of_getElem? (i := 24) rfl))) (by decide) (t := (.object "java/lang/String")) (t' := .long) (by decide) (by decide)))
  have F6_e93 := F6_e92.other W93 (Or.inr (slot_ne (Or.inr (hw _ (List.mem_of_getElem? (i := 32) rfl))) (Or.inr (hw _ (List.mem_of_getElem? (i := 24) rfl))) (by decide) (t := .long) (t' := .long) (by decide) (by decide)))
  refine own_to (fun t k => st93 t k) ?_
  show own_Fin _ _ _ _ _ _ (T93.setTop (mkF m 14 #[.val (.ref a1), .val (.ref w0), .val (.long q1), .second, .val (.long q2), .second, .val (.ref w1), .val .null, .val (.long q3), .second] []))
  refine own_to (fun t k => XS.aloadN X93.here hx rfl (hb hby own_d3_14) rfl rfl k) ?_
  show own_Fin _ _ _ _ _ _ (T93.setTop (mkF m 15 #[.val (.ref a1), .val (.ref w0), .val (.long q1), .second, .val (.long q2), .second, .val (.ref w1), .val .null, .val (.long q3), .second] [(.ref a1)]))
  refine own_to (fun t k => XS.lload X93.here hx rfl (hb hby own_d3_15) rfl k) ?_
  show own_Fin _ _ _ _ _ _ (T93.setTop (mkF m 17 #[.val (.ref a1), .val (.ref w0), .val (.long q1), .second, .val (.long q2), .second, .val (.ref w1), .val .null, .val (.long q3), .second] [(.long q2), (.ref a1)]))
  obtain ⟨T94, h94, X94, e94, W94, st94⟩ := putF X93 hx hZ hown (host := "") (Or.inl (hw _ (List.mem_of_getElem? (i := 25) rfl))) Via.refl e93 F3_e93 E1_e93 (Or.inr ⟨(hw _ (List.mem_of_getElem? (i := 26) rfl)), rfl, hnm⟩) (hw _ (List.mem_of_getElem? (i := 8) rfl)) (ty := .long) (by decide) rfl rfl (g := (mkF m 17 #[.val (.ref a1), .val (.ref w0), .val (.long q1), .second, .val (.long q2), .second, .val (.ref w1), .val .null, .val (.long q3), .second] [(.long q2), (.ref a1)])) rfl rfl (hb hby own_d3_17)
  have Fw94 := F3_e93.same W94
  have N94 := Fr.snoc X94 N93 g_a1
  have KK94 : Keep h0 h94 [a1] := KK93.wr W94 (Or.inl (List.mem_of_getElem? (i := 0) rfl))
  have E1_e94 := E1_e93.wr W94
  have Fw92_e94 := Fw92_e93.other W94 (Or.inr (slot_ne (Or.inr (hw _ (List.mem_of_getElem? (i := 22) rfl))) (Or.inr (hw _ (List.mem_of_getElem? (i := 26) rfl))) (by decide) (t := (.object "java/lang/String")) (t' := .long) (by decide) (by decide)))
  have Fw93_e94 := Fw93.other W94 (Or.inr (slot_ne (Or.inr (hw _ (List.mem_of_getElem? (i := 24) rfl))) (Or.inr (hw _ (List.mem_of_getElem? (i := 26) rfl))) (by decide) (t := .long) (t' := .long) (by decide) (by decide)))
  have F4_e94 := F4_e93.other W94 (Or.inr (slot_ne (Or.inr (hw _ (List.mem_of_getElem? (i := 28) rfl))) (Or.inr (hw _ (List.mem_of_getElem? (i := 26) rfl))) (by decide) (t := (.object "java/lang/String")) (t' := .long) (by decide) (by decide)))
  have F5_e94 := F5_e93.other W94 (Or.inr (slot_ne (Or.inr (hw _ (List.mem_of_getElem? (i := 30) rfl))) (Or.inr (hw _ (List.mem_of_getElem? (i := 26) rfl))) (by decide) (t := (.object "java/lang/String")) (t' := .long) (by decide) (by decide)))
  have F6_e94 := F6_e93.other W94 (Or.inr (slot_ne (Or.inr (hw _ (List.mem_of_getElem? (i := 32) rfl))) (Or.inr (hw _ (List.mem_of_getElem? (i := 26) rfl))) (by decide) (t := .long) (t' := .long) (by decide) (by decide)))
  refine own_to (fun t k => st94 t k) ?_
  show own_Fin _ _ _ _ _ _ (T94.setTop (mkF m 20 #[.val (.ref a1), .val (.ref w0), .val (.long q1), .second, .val (.long q2), .second, .val (.ref w1), .val .null, .val (.long q3), .second] []))
  refine own_to (fun t k => XS.aloadN X94.here hx rfl (hb hby own_d3_20) rfl rfl k) ?_
  show own_Fin _ _ _ _ _ _ (T94.setTop (mkF m 21 #[.val (.ref a1), .val (.ref w0), .val (.long q1), .second, .val (.long q2), .second, .val (.ref w1), .val .null, .val (.long q3), .second] [(.ref a1)]))
  refine own_to (fun t k => XS.aload X94.here hx rfl (hb hby own_d3_21) rfl rfl k) ?_
  show own_Fin _ _ _ _ _ _ (T94.setTop (mkF m 23 #[.val (.ref a1), .val (.ref w0), .val (.long q1), .second, .val (.long q2), .second, .val (.ref w1), .val .null, .val (.long q3), .second] [(.ref w1), (.ref a1)]))
  obtain ⟨T95, h95, X95, e95, W95, st95⟩ := putF X94 hx hZ hown (host := "") (Or.inl (hw _ (List.mem_of_getElem? (i := 27) rfl))) Via.refl e94 F4_e94 E1_e94 (Or.inr ⟨(hw _ (List.mem_of_getElem? (i := 28) rfl)), rfl, hnm⟩) (hw _ (List.mem_of_getElem? (i := 8) rfl)) (ty := (.object "java/lang/String")) (by decide) rfl rfl (g := (mkF m 23 #[.val (.ref a1), .val (.ref w0), .val (.long q1), .second, .val (.long q2), .second, .val (.ref w1), .val .null, .val (.long q3), .second] [(.ref w1), (.ref a1)])) rfl rfl (hb hby own_d3_23)
  have Fw95 := F4_e94.same W95
  have N95 := Fr.snoc X95 N94 g_a1
  have KK95 : Keep h0 h95 [a1] := KK94.wr W95 (Or.inl (List.mem_of_getElem? (i := 0) rfl))
  have E1_e95 := E1_e94.wr W95
  have Fw92_e95 := Fw92_e94.other W95 (Or.inr (slot_ne (Or.inr (hw _ (List.mem_of_getElem? (i := 22) rfl))) (Or.inr (hw _ (List.mem_of_getElem? (i := 28) rfl))) (by decide) (t := (.object "java/lang/String")) (t' := (.object "java/lang/String")) (by decide) (by decide)))
  have Fw93_e95 := Fw93_e94.other W95 (Or.inr (slot_ne (Or.inr (hw _ (List.mem_of_getElem? (i := 24) rfl))) (Or.inr (hw _ (List.mem_of_getElem? (i := 28) rfl))) (by decide) (t := .long) (t' := (.object "java/lang/String")) (by decide) (by decide)))
  have Fw94_e95 := Fw94.other W95 (Or.inr (slot_ne (Or.inr (hw _ (List.mem_of_getElem? (i := 26) rfl))) (Or.inr (hw _ (List.mem_of_getElem? (i := 28) rfl))) (by decide) (t := .long) (t' := (.object "java/lang/String")) (by decide) (by decide)))
  have F5_e95 := F5_e94.other W95 (Or.inr (slot_ne (Or.inr (hw _ (List.mem_of_getElem? (i := 30) rfl))) (Or.inr (hw _ (List.mem_of_getElem? (i := 28) rfl))) (by decide) (t := (.object "java/lang/String")) (t' := (.object "java/lang/String")) (by decide) (by decide)))
  have F6_e95 := F6_e94.other W95 (Or.inr (slot_ne (Or.inr (hw _ (List.mem_of_getElem? (i := 32) rfl))) (Or.inr (hw _ (List.mem_of_getElem? (i := 28) rfl))) (by decide) (t := .long) (t' := (.object "java/lang/String")) (by decide) (by decide)))
  refine own_to (fun t k => st95 t k) ?_
  show own_Fin _ _ _ _ _ _ (T95.setTop (mkF m 26 #[.val (.ref a1), .val (.ref w0), .val (.long q1), .second, .val (.long q2), .second, .val (.ref w1), .val .null, .val (.long q3), .second] []))
  refine own_to (fun t k => XS.aloadN X95.here hx rfl (hb hby own_d3_26) rfl rfl k) ?_
  show own_Fin _ _ _ _ _ _ (T95.setTop (mkF m 27 #[.val (.ref a1), .val (.ref w0), .val (.long q1), .second, .val (.long q2), .second, .val (.ref w1), .val .null, .val (.long q3), .second] [(.ref a1)]))
  refine own_to (fun t k => XS.aload X95.here hx rfl (hb hby own_d3_27) rfl rfl k) ?_
  show own_Fin _ _ _ _ _ _ (T95.setTop (mkF m 29 #[.val (.ref a1), .val (.ref w0), .val (.long q1), .second, .val (.long q2), .second, .val (.ref w1), .val .null, .val (.long q3), .second] [.null, (.ref a1)]))
  obtain ⟨T96, h96, X96, e96, W96, st96⟩ := putF X95 hx hZ hown (host := "") (Or.inl (hw _ (List.mem_of_getElem? (i := 29) rfl))) Via.refl e95 F5_e95 E1_e95 (Or.inr ⟨(hw _ (List.mem_of_getElem? (i := 30) rfl)), rfl, hnm⟩) (hw _ (List.mem_of_getElem? (i := 8) rfl)) (ty := (.object "java/lang/String")) (by decide) rfl rfl (g := (mkF m 29 #[.val (.ref a1), .val (.ref w0), .val (.long q1), .second, .val (.long q2), .second, .val (.ref w1), .val .null, .val (.long q3), .second] [.null, (.ref a1)])) rfl rfl (hb hby own_d3_29)
  have Fw96 := F5_e95.same W96
  have N96 := Fr.snoc X96 N95 g_a1
  have KK96 : Keep h0 h96 [a1] := KK95.wr W96 (Or.inl (List.mem_of_getElem? (i := 0) rfl))
  have E1_e96 := E1_e95.wr W96
  have Fw92_e96 := Fw92_e95.other W96 (Or.inr (slot_ne (Or.inr (hw _ (List.mem_of_getElem? (i := 22) rfl))) (Or.inr (hw _ (List.mem_of_getElem? (i := 30) rfl))) (by decide) (t := (.object "java/lang/String")) (t' := (.object "java/lang/String")) (by decide) (by decide)))
  have Fw93_e96 := Fw93_e95.other W96 (Or.inr (slot_ne (Or.inr (hw _ (List.mem_of_getElem? (i := 24) rfl))) (Or.inr (hw _ (List.mem_of_getElem? (i := 30) rfl))) (by decide) (t := .long) (t' := (.object "java/lang/String")) (by decide) (by decide)))
  have Fw94_e96 := Fw94_e95.other W96 (Or.inr (slot_ne (Or.inr (hw _ (List.mem_of_getElem? (i := 26) rfl))) (Or.inr (hw _ (List.mem_of_getElem? (i := 30) rfl))) (by decide) (t := .long) (t' := (.object "java/lang/String")) (by decide) (by decide)))
  have Fw95_e96 := Fw95.other W96 (Or.inr (slot_ne (Or.inr (hw _ (List.mem_of_getElem? (i := 28) rfl))) (Or.inr (hw _ (List.mem_of_getElem? (i := 30) rfl))) (by decide) (t := (.object "java/lang/String")) (t' := (.object "java/lang/String")) (by decide) (by decide)))
  have F6_e96 := F6_e95.other W96 (Or.inr (slot_ne (Or.inr (hw _ (List.mem_of_getElem? (i := 32) rfl))) (Or.inr (hw _ (List.mem_of_getElem? (i := 30) rfl))) (by decide) (t := .long) (t' := (.object "java/lang/String")) (by decide) (by decide)))
  refine own_to (fun t k => st96 t k) ?_
  show own_Fin _ _ _ _ _ _ (T96.setTop (mkF m 32 #[.val (.ref a1), .val (.ref w0), .val (.long q1), .second, .val (.long q2), .second, .val (.ref w1), .val .null, .val (.long q3), .second] []))
  refine own_to (fun t k => XS.aloadN X96.here hx rfl (hb hby own_d3_32) rfl rfl k) ?_
  show own_Fin _ _ _ _ _ _ (T96.setTop (mkF m 33 #[.val (.ref a1), .val (.ref w0), .val (.long q1), .second, .val (.long q2), .second, .val (.ref w1), .val .null, .val (.long q3), .second] [(.ref a1)]))
  refine own_to (fun t k => XS.lload X96.here hx rfl (hb hby own_d3_33) rfl k) ?_
  show own_Fin _ _ _ _ _ _ (T96.setTop (mkF m 35 #[.val (.ref a1), .val (.ref w0), .val (.long q1), .second, .val (.long q2), .second, .val (.ref w1), .val .null, .val (.long q3), .second] [(.long q3), (.ref a1)]))
  obtain ⟨T97, h97, X97, e97, W97, st97⟩ := putF X96 hx hZ hown (host := "") (Or.inl (hw _ (List.mem_of_getElem? (i := 31) rfl))) Via.refl e96 F6_e96 E1_e96 (Or.inr ⟨(hw _ (List.mem_of_getElem? (i := 32) rfl)), rfl, hnm⟩) (hw _ (List.mem_of_getElem? (i := 8) rfl)) (ty := .long) (by decide) rfl rfl (g := (mkF m 35 #[.val (.ref a1), .val (.ref w0), .val (.long q1), .second, .val (.long q2), .second, .val (.ref w1), .val .null, .val (.long q3), .second] [(.long q3), (.ref a1)])) rfl rfl (hb hby own_d3_35)
  have Fw97 := F6_e96.same W97
  have N97 := Fr.snoc X97 N96 g_a1
  have KK97 : Keep h0 h97 [a1] := KK96.wr W97 (Or.inl (List.mem_of_getElem? (i := 0) rfl))
  have E1_e97 := E1_e96.wr W97
  have Fw92_e97 := Fw92_e96.other W97 (Or.inr (slot_ne (Or.inr (hw _ (List.mem_of_getElem? (i := 22) rfl))) (Or.inr (hw _ (List.mem_of_getElem? (i := 32) rfl))) (by decide) (t := (.object "java/lang/String")) (t' := .long) (by decide) (by decide)))
  have Fw93_e97 := Fw93_e96.other W97 (Or.inr (slot_ne (Or.inr (hw _ (List.mem_of_getElem? (i := 24) rfl))) (Or.inr (hw _ (List.mem_of_getElem? (i := 32) rfl))) (by decide) (t := .long) (t' := .long) (by decide) (by decide)))
  have Fw94_e97 := Fw94_e96.other W97 (Or.inr (slot_ne (Or.inr (hw _ (List.mem_of_getElem? (i := 26) rfl))) (Or.inr (hw _ (List.mem_of_getElem? (i := 32) rfl))) (by decide) (t := .long) (t' := .long) (by decide) (by decide)))
  have Fw95_e97 := Fw95_e96.other W97 (Or.inr (slot_ne (Or.inr (hw _ (List.mem_of_getElem? (i := 28) rfl))) (Or.inr (hw _ (List.mem_of_getElem? (i := 32) rfl))) (by decide) (t := (.object "java/lang/String")) (t' := .long) (by decide) (by decide)))
  have Fw96_e97 := Fw96.other W97 (Or.inr (slot_ne (Or.inr (hw _ (List.mem_of_getElem? (i := 30) rfl))) (Or.inr (hw _ (List.mem_of_getElem? (i := 32) rfl))) (by decide) (t := (.object "java/lang/String")) (t' := .long) (by decide) (by decide)))
  refine own_to (fun t k => st97 t k) ?_
  show own_Fin _ _ _ _ _ _ (T97.setTop (mkF m 38 #[.val (.ref a1), .val (.ref w0), .val (.long q1), .second, .val (.long q2), .second, .val (.ref w1), .val .null, .val (.long q3), .second] []))
  refine own_retV X97 hx hlk hret (hb hby own_d3_38) (by decide) (by decide) ?_
  try rw [e97]
  exact ⟨rfl, N97, KK97, Fw92_e97, Fw93_e97⟩
theorem own_si4_ef (m : MethodId) (a1 : Addr) (q1 : Int64) (q2 : Int64) (q3 : Int64) (w2 : Addr) : entryFrame m #[(.ref a1), .null, (.long q1), (.long q2), .null, (.ref w2), (.long q3)] 10 = mkF m 0 #[.val (.ref a1), .val .null, .val (.long q1), .second, .val (.long q2), .second, .val .null, .val (.ref w2), .val (.long q3), .second] [] := by first | (simp [entryFrame, mkF, argsToLocals, Value.category]; done) | rfl
set_option maxRecDepth 65536 in
set_option maxHeartbeats 40000000 in
theorem own_si4 (l : Launch) (Z : State) (a0 : Array Value) (hw : ∀ d ∈ tables_1, d.before a0 Z = true) (ws : List Jvm.Cond) (a1 : Addr) (q1 : Int64) (q2 : Int64) (q3 : Int64) (w2 : Addr) (h0 : Heap) (n0 : Nat) (Z0 : n0 ≤ h0.size) (E1 : Exa Z h0 a1 "com/example/deft_lock/deftlock/service/ServerInfo") (F1 : Fld Z h0 a1 "com/example/deft_lock/deftlock/service/ServerInfo" "runId" "Ljava/lang/String;" .null) (F2 : Fld Z h0 a1 "com/example/deft_lock/deftlock/service/ServerInfo" "uptimeSeconds" "J" (.long (0 : Int64))) (F3 : Fld Z h0 a1 "com/example/deft_lock/deftlock/service/ServerInfo" "clockMicros" "J" (.long (0 : Int64))) (F4 : Fld Z h0 a1 "com/example/deft_lock/deftlock/service/ServerInfo" "role" "Ljava/lang/String;" .null) (F5 : Fld Z h0 a1 "com/example/deft_lock/deftlock/service/ServerInfo" "master" "Ljava/lang/String;" .null) (F6 : Fld Z h0 a1 "com/example/deft_lock/deftlock/service/ServerInfo" "connectedReplicas" "J" (.long (0 : Int64))) (g_a1 : n0 ≤ a1) :
    own_Met l Z (⟨"com/example/deft_lock/deftlock/service/ServerInfo", "<init>", "(Ljava/lang/String;JJLjava/lang/String;Ljava/lang/String;J)V"⟩ : MethodName) prog_7_method_1_code 10 none ws ({ frames := 2, cells := 0, slots := 0, locals := 32 } : Room) #[(.ref a1), .null, (.long q1), (.long q2), .null, (.ref w2), (.long q3)] h0 (fun v h L => v = none ∧ Fr n0 L ∧ Keep h0 h [a1] ∧ Fld Z h a1 "com/example/deft_lock/deftlock/service/ServerInfo" "runId" "Ljava/lang/String;" .null ∧ Fld Z h a1 "com/example/deft_lock/deftlock/service/ServerInfo" "uptimeSeconds" "J" (.long q1)) := by
  refine own_enter (plainFor_of_name own_pn4) ?_
  intro p e s m below meth c s₁ X0 hx hZ hby hml hown hnm hret hlk e0
  have N0 := Fr.nil n0
  rw [own_si4_ef m a1 q1 q2 q3 w2]
  have KK0 : Keep h0 h0 [a1] := Keep.refl _ _
  show own_Fin _ _ _ _ _ _ (s₁.setTop (mkF m 0 #[.val (.ref a1), .val .null, .val (.long q1), .second, .val (.long q2), .second, .val .null, .val (.ref w2), .val (.long q3), .second] []))
  refine own_to (fun t k => XS.aloadN X0.here hx rfl (hb hby own_d3_0) rfl rfl k) ?_
  show own_Fin _ _ _ _ _ _ (s₁.setTop (mkF m 1 #[.val (.ref a1), .val .null, .val (.long q1), .second, .val (.long q2), .second, .val .null, .val (.ref w2), .val (.long q3), .second] [(.ref a1)]))
  obtain ⟨_, _, ⟨T98, L98, k98, n98⟩, -, X98, ⟨Lc98, hQ98, l98, y98, z98⟩, st98⟩ := X0.specialBack hx (y := (⟨"java/lang/Record", "<init>", "()V"⟩ : MethodName)) rfl hown (mvT hZ (hw _ (List.mem_of_getElem? (i := 13) rfl))) (mvT hZ (hw _ (List.mem_of_getElem? (i := 14) rfl))) (mvT hZ (hw _ (List.mem_of_getElem? (i := 17) rfl))) (by decide) (own_back (W := 0) (own_rm4 l Z a0 hw [] a1 h0 n0 Z0) hZ (hw _ (List.mem_of_getElem? (i := 17) rfl)) (hw _ (List.mem_of_getElem? (i := 16) rfl)) (by decide) (by decide)) (g := (mkF m 1 #[.val (.ref a1), .val .null, .val (.long q1), .second, .val (.long q2), .second, .val .null, .val (.ref w2), .val (.long q3), .second] [(.ref a1)])) rfl (by rw [hml]; rfl) (Steps.refl _) (a := a1) (argsL := []) (rest := []) (lenOf own_pd1 rfl) rfl (by show 2 * 0 + _ ≤ _; exact Nat.le_of_eq rfl) (hb hby own_d3_1) (fun _ _ => ⟨rfl, e0, (by decide : 0 + 0 ≤ _), (by decide : 0 + 0 ≤ _)⟩)
  dsimp only [Pt.U, Pt.locs, Pt.cells, Pt.slots] at X98 l98 y98 z98 st98 hQ98
  subst l98 y98 z98
  obtain ⟨rfl, N98q, eh98⟩ := hQ98
  have N98 := Fr.app N0 N98q
  refine own_to (fun t k => st98.trans k) ?_
  show own_Fin _ _ _ _ _ _ (T98.setTop (mkF m 4 #[.val (.ref a1), .val .null, .val (.long q1), .second, .val (.long q2), .second, .val .null, .val (.ref w2), .val (.long q3), .second] []))
  refine own_to (fun t k => XS.aloadN X98.here hx rfl (hb hby own_d3_4) rfl rfl k) ?_
  show own_Fin _ _ _ _ _ _ (T98.setTop (mkF m 5 #[.val (.ref a1), .val .null, .val (.long q1), .second, .val (.long q2), .second, .val .null, .val (.ref w2), .val (.long q3), .second] [(.ref a1)]))
  refine own_to (fun t k => XS.aloadN X98.here hx rfl (hb hby own_d3_5) rfl rfl k) ?_
  show own_Fin _ _ _ _ _ _ (T98.setTop (mkF m 6 #[.val (.ref a1), .val .null, .val (.long q1), .second, .val (.long q2), .second, .val .null, .val (.ref w2), .val (.long q3), .second] [.null, (.ref a1)]))
  obtain ⟨T99, h99, X99, e99, W99, st99⟩ := putF X98 hx hZ hown (host := "") (Or.inl (hw _ (List.mem_of_getElem? (i := 21) rfl))) Via.refl eh98 F1 E1 (Or.inr ⟨(hw _ (List.mem_of_getElem? (i := 22) rfl)), rfl, hnm⟩) (hw _ (List.mem_of_getElem? (i := 8) rfl)) (ty := (.object "java/lang/String")) (by decide) rfl rfl (g := (mkF m 6 #[.val (.ref a1), .val .null, .val (.long q1), .second, .val (.long q2), .second, .val .null, .val (.ref w2), .val (.long q3), .second] [.null, (.ref a1)])) rfl rfl (hb hby own_d3_6)
  have Fw99 := F1.same W99
  have N99 := Fr.snoc X99 N98 g_a1
  have KK99 : Keep h0 h99 [a1] := KK0.wr W99 (Or.inl (List.mem_of_getElem? (i := 0) rfl))
  have E1_e99 := E1.wr W99
  have F2_e99 := F2.other W99 (Or.inr (slot_ne (Or.inr (hw _ (List.mem_of_getElem? (i := 24) rfl))) (Or.inr (hw _ (List.mem_of_getElem? (i := 22) rfl))) (by decide) (t := .long) (t' := (.object "java/lang/String")) (by decide) (by decide)))
  have F3_e99 := F3.other W99 (Or.inr (slot_ne (Or.inr (hw _ (List.mem_of_getElem? (i := 26) rfl))) (Or.inr (hw _ (List.mem_of_getElem? (i := 22) rfl))) (by decide) (t := .long) (t' := (.object "java/lang/String")) (by decide) (by decide)))
  have F4_e99 := F4.other W99 (Or.inr (slot_ne (Or.inr (hw _ (List.mem_of_getElem? (i := 28) rfl))) (Or.inr (hw _ (List.mem_of_getElem? (i := 22) rfl))) (by decide) (t := (.object "java/lang/String")) (t' := (.object "java/lang/String")) (by decide) (by decide)))
  have F5_e99 := F5.other W99 (Or.inr (slot_ne (Or.inr (hw _ (List.mem_of_getElem? (i := 30) rfl))) (Or.inr (hw _ (List.mem_of_getElem? (i := 22) rfl))) (by decide) (t := (.object "java/lang/String")) (t' := (.object "java/lang/String")) (by decide) (by decide)))
  have F6_e99 := F6.other W99 (Or.inr (slot_ne (Or.inr (hw _ (List.mem_of_getElem? (i := 32) rfl))) (Or.inr (hw _ (List.mem_of_getElem? (i := 22) rfl))) (by decide) (t := .long) (t' := (.object "java/lang/String")) (by decide) (by decide)))
  refine own_to (fun t k => st99 t k) ?_
  show own_Fin _ _ _ _ _ _ (T99.setTop (mkF m 9 #[.val (.ref a1), .val .null, .val (.long q1), .second, .val (.long q2), .second, .val .null, .val (.ref w2), .val (.long q3), .second] []))
  refine own_to (fun t k => XS.aloadN X99.here hx rfl (hb hby own_d3_9) rfl rfl k) ?_
  show own_Fin _ _ _ _ _ _ (T99.setTop (mkF m 10 #[.val (.ref a1), .val .null, .val (.long q1), .second, .val (.long q2), .second, .val .null, .val (.ref w2), .val (.long q3), .second] [(.ref a1)]))
  refine own_to (fun t k => XS.lloadN X99.here hx rfl (hb hby own_d3_10) rfl k) ?_
  show own_Fin _ _ _ _ _ _ (T99.setTop (mkF m 11 #[.val (.ref a1), .val .null, .val (.long q1), .second, .val (.long q2), .second, .val .null, .val (.ref w2), .val (.long q3), .second] [(.long q1), (.ref a1)]))
  obtain ⟨T100, h100, X100, e100, W100, st100⟩ := putF X99 hx hZ hown (host := "") (Or.inl (hw _ (List.mem_of_getElem? (i := 23) rfl))) Via.refl e99 F2_e99 E1_e99 (Or.inr ⟨(hw _ (List.mem_of_getElem? (i := 24) rfl)), rfl, hnm⟩) (hw _ (List.mem_of_getElem? (i := 8) rfl)) (ty := .long) (by decide) rfl rfl (g := (mkF m 11 #[.val (.ref a1), .val .null, .val (.long q1), .second, .val (.long q2), .second, .val .null, .val (.ref w2), .val (.long q3), .second] [(.long q1), (.ref a1)])) rfl rfl (hb hby own_d3_11)
  have Fw100 := F2_e99.same W100
  have N100 := Fr.snoc X100 N99 g_a1
  have KK100 : Keep h0 h100 [a1] := KK99.wr W100 (Or.inl (List.mem_of_getElem? (i := 0) rfl))
  have E1_e100 := E1_e99.wr W100
  have Fw99_e100 := Fw99.other W100 (Or.inr (slot_ne (Or.inr (hw _ (List.mem_of_getElem? (i := 22) rfl))) (Or.inr (hw _ (List.mem_of_getElem? (i := 24) rfl))) (by decide) (t := (.object "java/lang/String")) (t' := .long) (by decide) (by decide)))
  have F3_e100 := F3_e99.other W100 (Or.inr (slot_ne (Or.inr (hw _ (List.mem_of_getElem? (i := 26) rfl))) (Or.inr (hw _ (List.mem_of_getElem? (i := 24) rfl))) (by decide) (t := .long) (t' := .long) (by decide) (by decide)))
  have F4_e100 := F4_e99.other W100 (Or.inr (slot_ne (Or.inr (hw _ (List.mem_of_getElem? (i := 28) rfl))) (Or.inr (hw _ (List.mem_of_getElem? (i := 24) rfl))) (by decide) (t := (.object "java/lang/String")) (t' := .long) (by decide) (by decide)))
  have F5_e100 := F5_e99.other W100 (Or.inr (slot_ne (Or.inr (hw _ (List.mem_of_getElem? (i := 30) rfl))) (Or.inr (hw _ (List.mem_of_getElem? (i := 24) rfl))) (by decide) (t := (.object "java/lang/String")) (t' := .long) (by decide) (by decide)))
  have F6_e100 := F6_e99.other W100 (Or.inr (slot_ne (Or.inr (hw _ (List.mem_of_getElem? (i := 32) rfl))) (Or.inr (hw _ (List.mem_of_getElem? (i := 24) rfl))) (by decide) (t := .long) (t' := .long) (by decide) (by decide)))
  refine own_to (fun t k => st100 t k) ?_
  show own_Fin _ _ _ _ _ _ (T100.setTop (mkF m 14 #[.val (.ref a1), .val .null, .val (.long q1), .second, .val (.long q2), .second, .val .null, .val (.ref w2), .val (.long q3), .second] []))
  refine own_to (fun t k => XS.aloadN X100.here hx rfl (hb hby own_d3_14) rfl rfl k) ?_
  show own_Fin _ _ _ _ _ _ (T100.setTop (mkF m 15 #[.val (.ref a1), .val .null, .val (.long q1), .second, .val (.long q2), .second, .val .null, .val (.ref w2), .val (.long q3), .second] [(.ref a1)]))
  refine own_to (fun t k => XS.lload X100.here hx rfl (hb hby own_d3_15) rfl k) ?_
  show own_Fin _ _ _ _ _ _ (T100.setTop (mkF m 17 #[.val (.ref a1), .val .null, .val (.long q1), .second, .val (.long q2), .second, .val .null, .val (.ref w2), .val (.long q3), .second] [(.long q2), (.ref a1)]))
  obtain ⟨T101, h101, X101, e101, W101, st101⟩ := putF X100 hx hZ hown (host := "") (Or.inl (hw _ (List.mem_of_getElem? (i := 25) rfl))) Via.refl e100 F3_e100 E1_e100 (Or.inr ⟨(hw _ (List.mem_of_getElem? (i := 26) rfl)), rfl, hnm⟩) (hw _ (List.mem_of_getElem? (i := 8) rfl)) (ty := .long) (by decide) rfl rfl (g := (mkF m 17 #[.val (.ref a1), .val .null, .val (.long q1), .second, .val (.long q2), .second, .val .null, .val (.ref w2), .val (.long q3), .second] [(.long q2), (.ref a1)])) rfl rfl (hb hby own_d3_17)
  have Fw101 := F3_e100.same W101
  have N101 := Fr.snoc X101 N100 g_a1
  have KK101 : Keep h0 h101 [a1] := KK100.wr W101 (Or.inl (List.mem_of_getElem? (i := 0) rfl))
  have E1_e101 := E1_e100.wr W101
  have Fw99_e101 := Fw99_e100.other W101 (Or.inr (slot_ne (Or.inr (hw _ (List.mem_of_getElem? (i := 22) rfl))) (Or.inr (hw _ (List.mem_of_getElem? (i := 26) rfl))) (by decide) (t := (.object "java/lang/String")) (t' := .long) (by decide) (by decide)))
  have Fw100_e101 := Fw100.other W101 (Or.inr (slot_ne (Or.inr (hw _ (List.mem_of_getElem? (i := 24) rfl))) (Or.inr (hw _ (List.mem_of_getElem? (i := 26) rfl))) (by decide) (t := .long) (t' := .long) (by decide) (by decide)))
  have F4_e101 := F4_e100.other W101 (Or.inr (slot_ne (Or.inr (hw _ (List.mem_of_getElem? (i := 28) rfl))) (Or.inr (hw _ (List.mem_of_getElem? (i := 26) rfl))) (by decide) (t := (.object "java/lang/String")) (t' := .long) (by decide) (by decide)))
  have F5_e101 := F5_e100.other W101 (Or.inr (slot_ne (Or.inr (hw _ (List.mem_of_getElem? (i := 30) rfl))) (Or.inr (hw _ (List.mem_of_getElem? (i := 26) rfl))) (by decide) (t := (.object "java/lang/String")) (t' := .long) (by decide) (by decide)))
  have F6_e101 := F6_e100.other W101 (Or.inr (slot_ne (Or.inr (hw _ (List.mem_of_getElem? (i := 32) rfl))) (Or.inr (hw _ (List.mem_of_getElem? (i := 26) rfl))) (by decide) (t := .long) (t' := .long) (by decide) (by decide)))
  refine own_to (fun t k => st101 t k) ?_
  show own_Fin _ _ _ _ _ _ (T101.setTop (mkF m 20 #[.val (.ref a1), .val .null, .val (.long q1), .second, .val (.long q2), .second, .val .null, .val (.ref w2), .val (.long q3), .second] []))
  refine own_to (fun t k => XS.aloadN X101.here hx rfl (hb hby own_d3_20) rfl rfl k) ?_
  show own_Fin _ _ _ _ _ _ (T101.setTop (mkF m 21 #[.val (.ref a1), .val .null, .val (.long q1), .second, .val (.long q2), .second, .val .null, .val (.ref w2), .val (.long q3), .second] [(.ref a1)]))
  refine own_to (fun t k => XS.aload X101.here hx rfl (hb hby own_d3_21) rfl rfl k) ?_
  show own_Fin _ _ _ _ _ _ (T101.setTop (mkF m 23 #[.val (.ref a1), .val .null, .val (.long q1), .second, .val (.long q2), .second, .val .null, .val (.ref w2), .val (.long q3), .second] [.null, (.ref a1)]))
  obtain ⟨T102, h102, X102, e102, W102, st102⟩ := putF X101 hx hZ hown (host := "") (Or.inl (hw _ (List.mem_of_getElem? (i := 27) rfl))) Via.refl e101 F4_e101 E1_e101 (Or.inr ⟨(hw _ (List.mem_of_getElem? (i := 28) rfl)), rfl, hnm⟩) (hw _ (List.mem_of_getElem? (i := 8) rfl)) (ty := (.object "java/lang/String")) (by decide) rfl rfl (g := (mkF m 23 #[.val (.ref a1), .val .null, .val (.long q1), .second, .val (.long q2), .second, .val .null, .val (.ref w2), .val (.long q3), .second] [.null, (.ref a1)])) rfl rfl (hb hby own_d3_23)
  have Fw102 := F4_e101.same W102
  have N102 := Fr.snoc X102 N101 g_a1
  have KK102 : Keep h0 h102 [a1] := KK101.wr W102 (Or.inl (List.mem_of_getElem? (i := 0) rfl))
  have E1_e102 := E1_e101.wr W102
  have Fw99_e102 := Fw99_e101.other W102 (Or.inr (slot_ne (Or.inr (hw _ (List.mem_of_getElem? (i := 22) rfl))) (Or.inr (hw _ (List.mem_of_getElem? (i := 28) rfl))) (by decide) (t := (.object "java/lang/String")) (t' := (.object "java/lang/String")) (by decide) (by decide)))
  have Fw100_e102 := Fw100_e101.other W102 (Or.inr (slot_ne (Or.inr (hw _ (List.mem_of_getElem? (i := 24) rfl))) (Or.inr (hw _ (List.mem_of_getElem? (i := 28) rfl))) (by decide) (t := .long) (t' := (.object "java/lang/String")) (by decide) (by decide)))
  have Fw101_e102 := Fw101.other W102 (Or.inr (slot_ne (Or.inr (hw _ (List.mem_of_getElem? (i := 26) rfl))) (Or.inr (hw _ (List.mem_of_getElem? (i := 28) rfl))) (by decide) (t := .long) (t' := (.object "java/lang/String")) (by decide) (by decide)))
  have F5_e102 := F5_e101.other W102 (Or.inr (slot_ne (Or.inr (hw _ (List.mem_of_getElem? (i := 30) rfl))) (Or.inr (hw _ (List.mem_of_getElem? (i := 28) rfl))) (by decide) (t := (.object "java/lang/String")) (t' := (.object "java/lang/String")) (by decide) (by decide)))
  have F6_e102 := F6_e101.other W102 (Or.inr (slot_ne (Or.inr (hw _ (List.mem_of_getElem? (i := 32) rfl))) (Or.inr (hw _ (List.mem_of_getElem? (i := 28) rfl))) (by decide) (t := .long) (t' := (.object "java/lang/String")) (by decide) (by decide)))
  refine own_to (fun t k => st102 t k) ?_
  show own_Fin _ _ _ _ _ _ (T102.setTop (mkF m 26 #[.val (.ref a1), .val .null, .val (.long q1), .second, .val (.long q2), .second, .val .null, .val (.ref w2), .val (.long q3), .second] []))
  refine own_to (fun t k => XS.aloadN X102.here hx rfl (hb hby own_d3_26) rfl rfl k) ?_
  show own_Fin _ _ _ _ _ _ (T102.setTop (mkF m 27 #[.val (.ref a1), .val .null, .val (.long q1), .second, .val (.long q2), .second, .val .null, .val (.ref w2), .val (.long q3), .second] [(.ref a1)]))
  refine own_to (fun t k => XS.aload X102.here hx rfl (hb hby own_d3_27) rfl rfl k) ?_
  show own_Fin _ _ _ _ _ _ (T102.setTop (mkF m 29 #[.val (.ref a1), .val .null, .val (.long q1), .second, .val (.long q2), .second, .val .null, .val (.ref w2), .val (.long q3), .second] [(.ref w2), (.ref a1)]))
  obtain ⟨T103, h103, X103, e103, W103, st103⟩ := putF X102 hx hZ hown (host := "") (Or.inl (hw _ (List.mem_of_getElem? (i := 29) rfl))) Via.refl e102 F5_e102 E1_e102 (Or.inr ⟨(hw _ (List.mem_of_getElem? (i := 30) rfl)), rfl, hnm⟩) (hw _ (List.mem_of_getElem? (i := 8) rfl)) (ty := (.object "java/lang/String")) (by decide) rfl rfl (g := (mkF m 29 #[.val (.ref a1), .val .null, .val (.long q1), .second, .val (.long q2), .second, .val .null, .val (.ref w2), .val (.long q3), .second] [(.ref w2), (.ref a1)])) rfl rfl (hb hby own_d3_29)
  have Fw103 := F5_e102.same W103
  have N103 := Fr.snoc X103 N102 g_a1
  have KK103 : Keep h0 h103 [a1] := KK102.wr W103 (Or.inl (List.mem_of_getElem? (i := 0) rfl))
  have E1_e103 := E1_e102.wr W103
  have Fw99_e103 := Fw99_e102.other W103 (Or.inr (slot_ne (Or.inr (hw _ (List.mem_of_getElem? (i := 22) rfl))) (Or.inr (hw _ (List.mem_of_getElem? (i := 30) rfl))) (by decide) (t := (.object "java/lang/String")) (t' := (.object "java/lang/String")) (by decide) (by decide)))
  have Fw100_e103 := Fw100_e102.other W103 (Or.inr (slot_ne (Or.inr (hw _ (List.mem_of_getElem? (i := 24) rfl))) (Or.inr (hw _ (List.mem_of_getElem? (i := 30) rfl))) (by decide) (t := .long) (t' := (.object "java/lang/String")) (by decide) (by decide)))
  have Fw101_e103 := Fw101_e102.other W103 (Or.inr (slot_ne (Or.inr (hw _ (List.mem_of_getElem? (i := 26) rfl))) (Or.inr (hw _ (List.mem_of_getElem? (i := 30) rfl))) (by decide) (t := .long) (t' := (.object "java/lang/String")) (by decide) (by decide)))
  have Fw102_e103 := Fw102.other W103 (Or.inr (slot_ne (Or.inr (hw _ (List.mem_of_getElem? (i := 28) rfl))) (Or.inr (hw _ (List.mem_of_getElem? (i := 30) rfl))) (by decide) (t := (.object "java/lang/String")) (t' := (.object "java/lang/String")) (by decide) (by decide)))
  have F6_e103 := F6_e102.other W103 (Or.inr (slot_ne (Or.inr (hw _ (List.mem_of_getElem? (i := 32) rfl))) (Or.inr (hw _ (List.mem_of_getElem? (i := 30) rfl))) (by decide) (t := .long) (t' := (.object "java/lang/String")) (by decide) (by decide)))
  refine own_to (fun t k => st103 t k) ?_
  show own_Fin _ _ _ _ _ _ (T103.setTop (mkF m 32 #[.val (.ref a1), .val .null, .val (.long q1), .second, .val (.long q2), .second, .val .null, .val (.ref w2), .val (.long q3), .second] []))
  refine own_to (fun t k => XS.aloadN X103.here hx rfl (hb hby own_d3_32) rfl rfl k) ?_
  show own_Fin _ _ _ _ _ _ (T103.setTop (mkF m 33 #[.val (.ref a1), .val .null, .val (.long q1), .second, .val (.long q2), .second, .val .null, .val (.ref w2), .val (.long q3), .second] [(.ref a1)]))
  refine own_to (fun t k => XS.lload X103.here hx rfl (hb hby own_d3_33) rfl k) ?_
  show own_Fin _ _ _ _ _ _ (T103.setTop (mkF m 35 #[.val (.ref a1), .val .null, .val (.long q1), .second, .val (.long q2), .second, .val .null, .val (.ref w2), .val (.long q3), .second] [(.long q3), (.ref a1)]))
  obtain ⟨T104, h104, X104, e104, W104, st104⟩ := putF X103 hx hZ hown (host := "") (Or.inl (hw _ (List.mem_of_getElem? (i := 31) rfl))) Via.refl e103 F6_e103 E1_e103 (Or.inr ⟨(hw _ (List.mem_of_getElem? (i := 32) rfl)), rfl, hnm⟩) (hw _ (List.mem_of_getElem? (i := 8) rfl)) (ty := .long) (by decide) rfl rfl (g := (mkF m 35 #[.val (.ref a1), .val .null, .val (.long q1), .second, .val (.long q2), .second, .val .null, .val (.ref w2), .val (.long q3), .second] [(.long q3), (.ref a1)])) rfl rfl (hb hby own_d3_35)
  have Fw104 := F6_e103.same W104
  have N104 := Fr.snoc X104 N103 g_a1
  have KK104 : Keep h0 h104 [a1] := KK103.wr W104 (Or.inl (List.mem_of_getElem? (i := 0) rfl))
  have E1_e104 := E1_e103.wr W104
  have Fw99_e104 := Fw99_e103.other W104 (Or.inr (slot_ne (Or.inr (hw _ (List.mem_of_getElem? (i := 22) rfl))) (Or.inr (hw _ (List.mem_of_getElem? (i := 32) rfl))) (by decide) (t := (.object "java/lang/String")) (t' := .long) (by decide) (by decide)))
  have Fw100_e104 := Fw100_e103.other W104 (Or.inr (slot_ne (Or.inr (hw _ (List.mem_of_getElem? (i := 24) rfl))) (Or.inr (hw _ (List.mem_of_getElem? (i := 32) rfl))) (by decide) (t := .long) (t' := .long) (by decide) (by decide)))
  have Fw101_e104 := Fw101_e103.other W104 (Or.inr (slot_ne (Or.inr (hw _ (List.mem_of_getElem? (i := 26) rfl))) (Or.inr (hw _ (List.mem_of_getElem? (i := 32) rfl))) (by decide) (t := .long) (t' := .long) (by decide) (by decide)))
  have Fw102_e104 := Fw102_e103.other W104 (Or.inr (slot_ne (Or.inr (hw _ (List.mem_of_getElem? (i := 28) rfl))) (Or.inr (hw _ (List.mem_of_getElem? (i := 32) rfl))) (by decide) (t := (.object "java/lang/String")) (t' := .long) (by decide) (by decide)))
  have Fw103_e104 := Fw103.other W104 (Or.inr (slot_ne (Or.inr (hw _ (List.mem_of_getElem? (i := 30) rfl))) (Or.inr (hw _ (List.mem_of_getElem? (i := 32) rfl))) (by decide) (t := (.object "java/lang/String")) (t' := .long) (by decide) (by decide)))
  refine own_to (fun t k => st104 t k) ?_
  show own_Fin _ _ _ _ _ _ (T104.setTop (mkF m 38 #[.val (.ref a1), .val .null, .val (.long q1), .second, .val (.long q2), .second, .val .null, .val (.ref w2), .val (.long q3), .second] []))
  refine own_retV X104 hx hlk hret (hb hby own_d3_38) (by decide) (by decide) ?_
  try rw [e104]
  exact ⟨rfl, N104, KK104, Fw99_e104, Fw100_e104⟩
theorem own_si5_ef (m : MethodId) (a1 : Addr) (q1 : Int64) (q2 : Int64) (q3 : Int64) (w0 : Addr) (w2 : Addr) : entryFrame m #[(.ref a1), (.ref w0), (.long q1), (.long q2), .null, (.ref w2), (.long q3)] 10 = mkF m 0 #[.val (.ref a1), .val (.ref w0), .val (.long q1), .second, .val (.long q2), .second, .val .null, .val (.ref w2), .val (.long q3), .second] [] := by first | (simp [entryFrame, mkF, argsToLocals, Value.category]; done) | rfl
set_option maxRecDepth 65536 in
set_option maxHeartbeats 40000000 in
theorem own_si5 (l : Launch) (Z : State) (a0 : Array Value) (hw : ∀ d ∈ tables_1, d.before a0 Z = true) (ws : List Jvm.Cond) (a1 : Addr) (q1 : Int64) (q2 : Int64) (q3 : Int64) (w0 : Addr) (w2 : Addr) (h0 : Heap) (n0 : Nat) (Z0 : n0 ≤ h0.size) (E1 : Exa Z h0 a1 "com/example/deft_lock/deftlock/service/ServerInfo") (F1 : Fld Z h0 a1 "com/example/deft_lock/deftlock/service/ServerInfo" "runId" "Ljava/lang/String;" .null) (F2 : Fld Z h0 a1 "com/example/deft_lock/deftlock/service/ServerInfo" "uptimeSeconds" "J" (.long (0 : Int64))) (F3 : Fld Z h0 a1 "com/example/deft_lock/deftlock/service/ServerInfo" "clockMicros" "J" (.long (0 : Int64))) (F4 : Fld Z h0 a1 "com/example/deft_lock/deftlock/service/ServerInfo" "role" "Ljava/lang/String;" .null) (F5 : Fld Z h0 a1 "com/example/deft_lock/deftlock/service/ServerInfo" "master" "Ljava/lang/String;" .null) (F6 : Fld Z h0 a1 "com/example/deft_lock/deftlock/service/ServerInfo" "connectedReplicas" "J" (.long (0 : Int64))) (g_a1 : n0 ≤ a1) :
    own_Met l Z (⟨"com/example/deft_lock/deftlock/service/ServerInfo", "<init>", "(Ljava/lang/String;JJLjava/lang/String;Ljava/lang/String;J)V"⟩ : MethodName) prog_7_method_1_code 10 none ws ({ frames := 2, cells := 0, slots := 0, locals := 32 } : Room) #[(.ref a1), (.ref w0), (.long q1), (.long q2), .null, (.ref w2), (.long q3)] h0 (fun v h L => v = none ∧ Fr n0 L ∧ Keep h0 h [a1] ∧ Fld Z h a1 "com/example/deft_lock/deftlock/service/ServerInfo" "runId" "Ljava/lang/String;" (.ref w0) ∧ Fld Z h a1 "com/example/deft_lock/deftlock/service/ServerInfo" "uptimeSeconds" "J" (.long q1)) := by
  refine own_enter (plainFor_of_name own_pn4) ?_
  intro p e s m below meth c s₁ X0 hx hZ hby hml hown hnm hret hlk e0
  have N0 := Fr.nil n0
  rw [own_si5_ef m a1 q1 q2 q3 w0 w2]
  have KK0 : Keep h0 h0 [a1] := Keep.refl _ _
  show own_Fin _ _ _ _ _ _ (s₁.setTop (mkF m 0 #[.val (.ref a1), .val (.ref w0), .val (.long q1), .second, .val (.long q2), .second, .val .null, .val (.ref w2), .val (.long q3), .second] []))
  refine own_to (fun t k => XS.aloadN X0.here hx rfl (hb hby own_d3_0) rfl rfl k) ?_
  show own_Fin _ _ _ _ _ _ (s₁.setTop (mkF m 1 #[.val (.ref a1), .val (.ref w0), .val (.long q1), .second, .val (.long q2), .second, .val .null, .val (.ref w2), .val (.long q3), .second] [(.ref a1)]))
  obtain ⟨_, _, ⟨T105, L105, k105, n105⟩, -, X105, ⟨Lc105, hQ105, l105, y105, z105⟩, st105⟩ := X0.specialBack hx (y := (⟨"java/lang/Record", "<init>", "()V"⟩ : MethodName)) rfl hown (mvT hZ (hw _ (List.mem_of_getElem? (i := 13) rfl))) (mvT hZ (hw _ (List.mem_of_getElem? (i := 14) rfl))) (mvT hZ (hw _ (List.mem_of_getElem? (i := 17) rfl))) (by decide) (own_back (W := 0) (own_rm4 l Z a0 hw [] a1 h0 n0 Z0) hZ (hw _ (List.mem_of_getElem? (i := 17) rfl)) (hw _ (List.mem_of_getElem? (i := 16) rfl)) (by decide) (by decide)) (g := (mkF m 1 #[.val (.ref a1), .val (.ref w0), .val (.long q1), .second, .val (.long q2), .second, .val .null, .val (.ref w2), .val (.long q3), .second] [(.ref a1)])) rfl (by rw [hml]; rfl) (Steps.refl _) (a := a1) (argsL := []) (rest := []) (lenOf own_pd1 rfl) rfl (by show 2 * 0 + _ ≤ _; exact Nat.le_of_eq rfl) (hb hby own_d3_1) (fun _ _ => ⟨rfl, e0, (by decide : 0 + 0 ≤ _), (by decide : 0 + 0 ≤ _)⟩)
  dsimp only [Pt.U, Pt.locs, Pt.cells, Pt.slots] at X105 l105 y105 z105 st105 hQ105
  subst l105 y105 z105
  obtain ⟨rfl, N105q, eh105⟩ := hQ105
  have N105 := Fr.app N0 N105q
  refine own_to (fun t k => st105.trans k) ?_
  show own_Fin _ _ _ _ _ _ (T105.setTop (mkF m 4 #[.val (.ref a1), .val (.ref w0), .val (.long q1), .second, .val (.long q2), .second, .val .null, .val (.ref w2), .val (.long q3), .second] []))
  refine own_to (fun t k => XS.aloadN X105.here hx rfl (hb hby own_d3_4) rfl rfl k) ?_
  show own_Fin _ _ _ _ _ _ (T105.setTop (mkF m 5 #[.val (.ref a1), .val (.ref w0), .val (.long q1), .second, .val (.long q2), .second, .val .null, .val (.ref w2), .val (.long q3), .second] [(.ref a1)]))
  refine own_to (fun t k => XS.aloadN X105.here hx rfl (hb hby own_d3_5) rfl rfl k) ?_
  show own_Fin _ _ _ _ _ _ (T105.setTop (mkF m 6 #[.val (.ref a1), .val (.ref w0), .val (.long q1), .second, .val (.long q2), .second, .val .null, .val (.ref w2), .val (.long q3), .second] [(.ref w0), (.ref a1)]))
  obtain ⟨T106, h106, X106, e106, W106, st106⟩ := putF X105 hx hZ hown (host := "") (Or.inl (hw _ (List.mem_of_getElem? (i := 21) rfl))) Via.refl eh105 F1 E1 (Or.inr ⟨(hw _ (List.mem_of_getElem? (i := 22) rfl)), rfl, hnm⟩) (hw _ (List.mem_of_getElem? (i := 8) rfl)) (ty := (.object "java/lang/String")) (by decide) rfl rfl (g := (mkF m 6 #[.val (.ref a1), .val (.ref w0), .val (.long q1), .second, .val (.long q2), .second, .val .null, .val (.ref w2), .val (.long q3), .second] [(.ref w0), (.ref a1)])) rfl rfl (hb hby own_d3_6)
  have Fw106 := F1.same W106
  have N106 := Fr.snoc X106 N105 g_a1
  have KK106 : Keep h0 h106 [a1] := KK0.wr W106 (Or.inl (List.mem_of_getElem? (i := 0) rfl))
  have E1_e106 := E1.wr W106
  have F2_e106 := F2.other W106 (Or.inr (slot_ne (Or.inr (hw _ (List.mem_of_getElem? (i := 24) rfl))) (Or.inr (hw _ (List.mem_of_getElem? (i := 22) rfl))) (by decide) (t := .long) (t' := (.object "java/lang/String")) (by decide) (by decide)))
  have F3_e106 := F3.other W106 (Or.inr (slot_ne (Or.inr (hw _ (List.mem_of_getElem? (i := 26) rfl))) (Or.inr (hw _ (List.mem_of_getElem? (i := 22) rfl))) (by decide) (t := .long) (t' := (.object "java/lang/String")) (by decide) (by decide)))
  have F4_e106 := F4.other W106 (Or.inr (slot_ne (Or.inr (hw _ (List.mem_of_getElem? (i := 28) rfl))) (Or.inr (hw _ (List.mem_of_getElem? (i := 22) rfl))) (by decide) (t := (.object "java/lang/String")) (t' := (.object "java/lang/String")) (by decide) (by decide)))
  have F5_e106 := F5.other W106 (Or.inr (slot_ne (Or.inr (hw _ (List.mem_of_getElem? (i := 30) rfl))) (Or.inr (hw _ (List.mem_of_getElem? (i := 22) rfl))) (by decide) (t := (.object "java/lang/String")) (t' := (.object "java/lang/String")) (by decide) (by decide)))
  have F6_e106 := F6.other W106 (Or.inr (slot_ne (Or.inr (hw _ (List.mem_of_getElem? (i := 32) rfl))) (Or.inr (hw _ (List.mem_of_getElem? (i := 22) rfl))) (by decide) (t := .long) (t' := (.object "java/lang/String")) (by decide) (by decide)))
  refine own_to (fun t k => st106 t k) ?_
  show own_Fin _ _ _ _ _ _ (T106.setTop (mkF m 9 #[.val (.ref a1), .val (.ref w0), .val (.long q1), .second, .val (.long q2), .second, .val .null, .val (.ref w2), .val (.long q3), .second] []))
  refine own_to (fun t k => XS.aloadN X106.here hx rfl (hb hby own_d3_9) rfl rfl k) ?_
  show own_Fin _ _ _ _ _ _ (T106.setTop (mkF m 10 #[.val (.ref a1), .val (.ref w0), .val (.long q1), .second, .val (.long q2), .second, .val .null, .val (.ref w2), .val (.long q3), .second] [(.ref a1)]))
  refine own_to (fun t k => XS.lloadN X106.here hx rfl (hb hby own_d3_10) rfl k) ?_
  show own_Fin _ _ _ _ _ _ (T106.setTop (mkF m 11 #[.val (.ref a1), .val (.ref w0), .val (.long q1), .second, .val (.long q2), .second, .val .null, .val (.ref w2), .val (.long q3), .second] [(.long q1), (.ref a1)]))
  obtain ⟨T107, h107, X107, e107, W107, st107⟩ := putF X106 hx hZ hown (host := "") (Or.inl (hw _ (List.mem_of_getElem? (i := 23) rfl))) Via.refl e106 F2_e106 E1_e106 (Or.inr ⟨(hw _ (List.mem_of_getElem? (i := 24) rfl)), rfl, hnm⟩) (hw _ (List.mem_of_getElem? (i := 8) rfl)) (ty := .long) (by decide) rfl rfl (g := (mkF m 11 #[.val (.ref a1), .val (.ref w0), .val (.long q1), .second, .val (.long q2), .second, .val .null, .val (.ref w2), .val (.long q3), .second] [(.long q1), (.ref a1)])) rfl rfl (hb hby own_d3_11)
  have Fw107 := F2_e106.same W107
  have N107 := Fr.snoc X107 N106 g_a1
  have KK107 : Keep h0 h107 [a1] := KK106.wr W107 (Or.inl (List.mem_of_getElem? (i := 0) rfl))
  have E1_e107 := E1_e106.wr W107
  have Fw106_e107 := Fw106.other W107 (Or.inr (slot_ne (Or.inr (hw _ (List.mem_of_getElem? (i := 22) rfl))) (Or.inr (hw _ (List.mem_of_getElem? (i := 24) rfl))) (by decide) (t := (.object "java/lang/String")) (t' := .long) (by decide) (by decide)))
  have F3_e107 := F3_e106.other W107 (Or.inr (slot_ne (Or.inr (hw _ (List.mem_of_getElem? (i := 26) rfl))) (Or.inr (hw _ (List.mem_of_getElem? (i := 24) rfl))) (by decide) (t := .long) (t' := .long) (by decide) (by decide)))
  have F4_e107 := F4_e106.other W107 (Or.inr (slot_ne (Or.inr (hw _ (List.mem_of_getElem? (i := 28) rfl))) (Or.inr (hw _ (List.mem_of_getElem? (i := 24) rfl))) (by decide) (t := (.object "java/lang/String")) (t' := .long) (by decide) (by decide)))
  have F5_e107 := F5_e106.other W107 (Or.inr (slot_ne (Or.inr (hw _ (List.mem_of_getElem? (i := 30) rfl))) (Or.inr (hw _ (List.mem_of_getElem? (i := 24) rfl))) (by decide) (t := (.object "java/lang/String")) (t' := .long) (by decide) (by decide)))
  have F6_e107 := F6_e106.other W107 (Or.inr (slot_ne (Or.inr (hw _ (List.mem_of_getElem? (i := 32) rfl))) (Or.inr (hw _ (List.mem_of_getElem? (i := 24) rfl))) (by decide) (t := .long) (t' := .long) (by decide) (by decide)))
  refine own_to (fun t k => st107 t k) ?_
  show own_Fin _ _ _ _ _ _ (T107.setTop (mkF m 14 #[.val (.ref a1), .val (.ref w0), .val (.long q1), .second, .val (.long q2), .second, .val .null, .val (.ref w2), .val (.long q3), .second] []))
  refine own_to (fun t k => XS.aloadN X107.here hx rfl (hb hby own_d3_14) rfl rfl k) ?_
  show own_Fin _ _ _ _ _ _ (T107.setTop (mkF m 15 #[.val (.ref a1), .val (.ref w0), .val (.long q1), .second, .val (.long q2), .second, .val .null, .val (.ref w2), .val (.long q3), .second] [(.ref a1)]))
  refine own_to (fun t k => XS.lload X107.here hx rfl (hb hby own_d3_15) rfl k) ?_
  show own_Fin _ _ _ _ _ _ (T107.setTop (mkF m 17 #[.val (.ref a1), .val (.ref w0), .val (.long q1), .second, .val (.long q2), .second, .val .null, .val (.ref w2), .val (.long q3), .second] [(.long q2), (.ref a1)]))
  obtain ⟨T108, h108, X108, e108, W108, st108⟩ := putF X107 hx hZ hown (host := "") (Or.inl (hw _ (List.mem_of_getElem? (i := 25) rfl))) Via.refl e107 F3_e107 E1_e107 (Or.inr ⟨(hw _ (List.mem_of_getElem? (i := 26) rfl)), rfl, hnm⟩) (hw _ (List.mem_of_getElem? (i := 8) rfl)) (ty := .long) (by decide) rfl rfl (g := (mkF m 17 #[.val (.ref a1), .val (.ref w0), .val (.long q1), .second, .val (.long q2), .second, .val .null, .val (.ref w2), .val (.long q3), .second] [(.long q2), (.ref a1)])) rfl rfl (hb hby own_d3_17)
  have Fw108 := F3_e107.same W108
  have N108 := Fr.snoc X108 N107 g_a1
  have KK108 : Keep h0 h108 [a1] := KK107.wr W108 (Or.inl (List.mem_of_getElem? (i := 0) rfl))
  have E1_e108 := E1_e107.wr W108
  have Fw106_e108 := Fw106_e107.other W108 (Or.inr (slot_ne (Or.inr (hw _ (List.mem_of_getElem? (i := 22) rfl))) (Or.inr (hw _ (List.mem_of_getElem? (i := 26) rfl))) (by decide) (t := (.object "java/lang/String")) (t' := .long) (by decide) (by decide)))
  have Fw107_e108 := Fw107.other W108 (Or.inr (slot_ne (Or.inr (hw _ (List.mem_of_getElem? (i := 24) rfl))) (Or.inr (hw _ (List.mem_of_getElem? (i := 26) rfl))) (by decide) (t := .long) (t' := .long) (by decide) (by decide)))
  have F4_e108 := F4_e107.other W108 (Or.inr (slot_ne (Or.inr (hw _ (List.mem_of_getElem? (i := 28) rfl))) (Or.inr (hw _ (List.mem_of_getElem? (i := 26) rfl))) (by decide) (t := (.object "java/lang/String")) (t' := .long) (by decide) (by decide)))
  have F5_e108 := F5_e107.other W108 (Or.inr (slot_ne (Or.inr (hw _ (List.mem_of_getElem? (i := 30) rfl))) (Or.inr (hw _ (List.mem_of_getElem? (i := 26) rfl))) (by decide) (t := (.object "java/lang/String")) (t' := .long) (by decide) (by decide)))
  have F6_e108 := F6_e107.other W108 (Or.inr (slot_ne (Or.inr (hw _ (List.mem_of_getElem? (i := 32) rfl))) (Or.inr (hw _ (List.mem_of_getElem? (i := 26) rfl))) (by decide) (t := .long) (t' := .long) (by decide) (by decide)))
  refine own_to (fun t k => st108 t k) ?_
  show own_Fin _ _ _ _ _ _ (T108.setTop (mkF m 20 #[.val (.ref a1), .val (.ref w0), .val (.long q1), .second, .val (.long q2), .second, .val .null, .val (.ref w2), .val (.long q3), .second] []))
  refine own_to (fun t k => XS.aloadN X108.here hx rfl (hb hby own_d3_20) rfl rfl k) ?_
  show own_Fin _ _ _ _ _ _ (T108.setTop (mkF m 21 #[.val (.ref a1), .val (.ref w0), .val (.long q1), .second, .val (.long q2), .second, .val .null, .val (.ref w2), .val (.long q3), .second] [(.ref a1)]))
  refine own_to (fun t k => XS.aload X108.here hx rfl (hb hby own_d3_21) rfl rfl k) ?_
  show own_Fin _ _ _ _ _ _ (T108.setTop (mkF m 23 #[.val (.ref a1), .val (.ref w0), .val (.long q1), .second, .val (.long q2), .second, .val .null, .val (.ref w2), .val (.long q3), .second] [.null, (.ref a1)]))
  obtain ⟨T109, h109, X109, e109, W109, st109⟩ := putF X108 hx hZ hown (host := "") (Or.inl (hw _ (List.mem_of_getElem? (i := 27) rfl))) Via.refl e108 F4_e108 E1_e108 (Or.inr ⟨(hw _ (List.mem_of_getElem? (i := 28) rfl)), rfl, hnm⟩) (hw _ (List.mem_of_getElem? (i := 8) rfl)) (ty := (.object "java/lang/String")) (by decide) rfl rfl (g := (mkF m 23 #[.val (.ref a1), .val (.ref w0), .val (.long q1), .second, .val (.long q2), .second, .val .null, .val (.ref w2), .val (.long q3), .second] [.null, (.ref a1)])) rfl rfl (hb hby own_d3_23)
  have Fw109 := F4_e108.same W109
  have N109 := Fr.snoc X109 N108 g_a1
  have KK109 : Keep h0 h109 [a1] := KK108.wr W109 (Or.inl (List.mem_of_getElem? (i := 0) rfl))
  have E1_e109 := E1_e108.wr W109
  have Fw106_e109 := Fw106_e108.other W109 (Or.inr (slot_ne (Or.inr (hw _ (List.mem_of_getElem? (i := 22) rfl))) (Or.inr (hw _ (List.mem_of_getElem? (i := 28) rfl))) (by decide) (t := (.object "java/lang/String")) (t' := (.object "java/lang/String")) (by decide) (by decide)))
  have Fw107_e109 := Fw107_e108.other W109 (Or.inr (slot_ne (Or.inr (hw _ (List.mem_of_getElem? (i := 24) rfl))) (Or.inr (hw _ (List.mem_of_getElem? (i := 28) rfl))) (by decide) (t := .long) (t' := (.object "java/lang/String")) (by decide) (by decide)))
  have Fw108_e109 := Fw108.other W109 (Or.inr (slot_ne (Or.inr (hw _ (List.mem_of_getElem? (i := 26) rfl))) (Or.inr (hw _ (List.mem_of_getElem? (i := 28) rfl))) (by decide) (t := .long) (t' := (.object "java/lang/String")) (by decide) (by decide)))
  have F5_e109 := F5_e108.other W109 (Or.inr (slot_ne (Or.inr (hw _ (List.mem_of_getElem? (i := 30) rfl))) (Or.inr (hw _ (List.mem_of_getElem? (i := 28) rfl))) (by decide) (t := (.object "java/lang/String")) (t' := (.object "java/lang/String")) (by decide) (by decide)))
  have F6_e109 := F6_e108.other W109 (Or.inr (slot_ne (Or.inr (hw _ (List.mem_of_getElem? (i := 32) rfl))) (Or.inr (hw _ (List.mem_of_getElem? (i := 28) rfl))) (by decide) (t := .long) (t' := (.object "java/lang/String")) (by decide) (by decide)))
  refine own_to (fun t k => st109 t k) ?_
  show own_Fin _ _ _ _ _ _ (T109.setTop (mkF m 26 #[.val (.ref a1), .val (.ref w0), .val (.long q1), .second, .val (.long q2), .second, .val .null, .val (.ref w2), .val (.long q3), .second] []))
  refine own_to (fun t k => XS.aloadN X109.here hx rfl (hb hby own_d3_26) rfl rfl k) ?_
  show own_Fin _ _ _ _ _ _ (T109.setTop (mkF m 27 #[.val (.ref a1), .val (.ref w0), .val (.long q1), .second, .val (.long q2), .second, .val .null, .val (.ref w2), .val (.long q3), .second] [(.ref a1)]))
  refine own_to (fun t k => XS.aload X109.here hx rfl (hb hby own_d3_27) rfl rfl k) ?_
  show own_Fin _ _ _ _ _ _ (T109.setTop (mkF m 29 #[.val (.ref a1), .val (.ref w0), .val (.long q1), .second, .val (.long q2), .second, .val .null, .val (.ref w2), .val (.long q3), .second] [(.ref w2), (.ref a1)]))
  obtain ⟨T110, h110, X110, e110, W110, st110⟩ := putF X109 hx hZ hown (host := "") (Or.inl (hw _ (List.mem_of_getElem? (i := 29) rfl))) Via.refl e109 F5_e109 E1_e109 (Or.inr ⟨(hw _ (List.mem_of_getElem? (i := 30) rfl)), rfl, hnm⟩) (hw _ (List.mem_of_getElem? (i := 8) rfl)) (ty := (.object "java/lang/String")) (by decide) rfl rfl (g := (mkF m 29 #[.val (.ref a1), .val (.ref w0), .val (.long q1), .second, .val (.long q2), .second, .val .null, .val (.ref w2), .val (.long q3), .second] [(.ref w2), (.ref a1)])) rfl rfl (hb hby own_d3_29)
  have Fw110 := F5_e109.same W110
  have N110 := Fr.snoc X110 N109 g_a1
  have KK110 : Keep h0 h110 [a1] := KK109.wr W110 (Or.inl (List.mem_of_getElem? (i := 0) rfl))
  have E1_e110 := E1_e109.wr W110
  have Fw106_e110 := Fw106_e109.other W110 (Or.inr (slot_ne (Or.inr (hw _ (List.mem_of_getElem? (i := 22) rfl))) (Or.inr (hw _ (List.mem_of_getElem? (i := 30) rfl))) (by decide) (t := (.object "java/lang/String")) (t' := (.object "java/lang/String")) (by decide) (by decide)))
  have Fw107_e110 := Fw107_e109.other W110 (Or.inr (slot_ne (Or.inr (hw _ (List.mem_of_getElem? (i := 24) rfl))) (Or.inr (hw _ (List.mem_of_getElem? (i := 30) rfl))) (by decide) (t := .long) (t' := (.object "java/lang/String")) (by decide) (by decide)))
  have Fw108_e110 := Fw108_e109.other W110 (Or.inr (slot_ne (Or.inr (hw _ (List.mem_of_getElem? (i := 26) rfl))) (Or.inr (hw _ (List.mem_of_getElem? (i := 30) rfl))) (by decide) (t := .long) (t' := (.object "java/lang/String")) (by decide) (by decide)))
  have Fw109_e110 := Fw109.other W110 (Or.inr (slot_ne (Or.inr (hw _ (List.mem_of_getElem? (i := 28) rfl))) (Or.inr (hw _ (List.mem_of_getElem? (i := 30) rfl))) (by decide) (t := (.object "java/lang/String")) (t' := (.object "java/lang/String")) (by decide) (by decide)))
  have F6_e110 := F6_e109.other W110 (Or.inr (slot_ne (Or.inr (hw _ (List.mem_of_getElem? (i := 32) rfl))) (Or.inr (hw _ (List.mem_of_getElem? (i := 30) rfl))) (by decide) (t := .long) (t' := (.object "java/lang/String")) (by decide) (by decide)))
  refine own_to (fun t k => st110 t k) ?_
  show own_Fin _ _ _ _ _ _ (T110.setTop (mkF m 32 #[.val (.ref a1), .val (.ref w0), .val (.long q1), .second, .val (.long q2), .second, .val .null, .val (.ref w2), .val (.long q3), .second] []))
  refine own_to (fun t k => XS.aloadN X110.here hx rfl (hb hby own_d3_32) rfl rfl k) ?_
  show own_Fin _ _ _ _ _ _ (T110.setTop (mkF m 33 #[.val (.ref a1), .val (.ref w0), .val (.long q1), .second, .val (.long q2), .second, .val .null, .val (.ref w2), .val (.long q3), .second] [(.ref a1)]))
  refine own_to (fun t k => XS.lload X110.here hx rfl (hb hby own_d3_33) rfl k) ?_
  show own_Fin _ _ _ _ _ _ (T110.setTop (mkF m 35 #[.val (.ref a1), .val (.ref w0), .val (.long q1), .second, .val (.long q2), .second, .val .null, .val (.ref w2), .val (.long q3), .second] [(.long q3), (.ref a1)]))
  obtain ⟨T111, h111, X111, e111, W111, st111⟩ := putF X110 hx hZ hown (host := "") (Or.inl (hw _ (List.mem_of_getElem? (i := 31) rfl))) Via.refl e110 F6_e110 E1_e110 (Or.inr ⟨(hw _ (List.mem_of_getElem? (i := 32) rfl)), rfl, hnm⟩) (hw _ (List.mem_of_getElem? (i := 8) rfl)) (ty := .long) (by decide) rfl rfl (g := (mkF m 35 #[.val (.ref a1), .val (.ref w0), .val (.long q1), .second, .val (.long q2), .second, .val .null, .val (.ref w2), .val (.long q3), .second] [(.long q3), (.ref a1)])) rfl rfl (hb hby own_d3_35)
  have Fw111 := F6_e110.same W111
  have N111 := Fr.snoc X111 N110 g_a1
  have KK111 : Keep h0 h111 [a1] := KK110.wr W111 (Or.inl (List.mem_of_getElem? (i := 0) rfl))
  have E1_e111 := E1_e110.wr W111
  have Fw106_e111 := Fw106_e110.other W111 (Or.inr (slot_ne (Or.inr (hw _ (List.mem_of_getElem? (i := 22) rfl))) (Or.inr (hw _ (List.mem_of_getElem? (i := 32) rfl))) (by decide) (t := (.object "java/lang/String")) (t' := .long) (by decide) (by decide)))
  have Fw107_e111 := Fw107_e110.other W111 (Or.inr (slot_ne (Or.inr (hw _ (List.mem_of_getElem? (i := 24) rfl))) (Or.inr (hw _ (List.mem_of_getElem? (i := 32) rfl))) (by decide) (t := .long) (t' := .long) (by decide) (by decide)))
  have Fw108_e111 := Fw108_e110.other W111 (Or.inr (slot_ne (Or.inr (hw _ (List.mem_of_getElem? (i := 26) rfl))) (Or.inr (hw _ (List.mem_of_getElem? (i := 32) rfl))) (by decide) (t := .long) (t' := .long) (by decide) (by decide)))
  have Fw109_e111 := Fw109_e110.other W111 (Or.inr (slot_ne (Or.inr (hw _ (List.mem_of_getElem? (i := 28) rfl))) (Or.inr (hw _ (List.mem_of_getElem? (i := 32) rfl))) (by decide) (t := (.object "java/lang/String")) (t' := .long) (by decide) (by decide)))
  have Fw110_e111 := Fw110.other W111 (Or.inr (slot_ne (Or.inr (hw _ (List.mem_of_getElem? (i := 30) rfl))) (Or.inr (hw _ (List.mem_of_getElem? (i := 32) rfl))) (by decide) (t := (.object "java/lang/String")) (t' := .long) (by decide) (by decide)))
  refine own_to (fun t k => st111 t k) ?_
  show own_Fin _ _ _ _ _ _ (T111.setTop (mkF m 38 #[.val (.ref a1), .val (.ref w0), .val (.long q1), .second, .val (.long q2), .second, .val .null, .val (.ref w2), .val (.long q3), .second] []))
  refine own_retV X111 hx hlk hret (hb hby own_d3_38) (by decide) (by decide) ?_
  try rw [e111]
  exact ⟨rfl, N111, KK111, Fw106_e111, Fw107_e111⟩
theorem own_si6_ef (m : MethodId) (a1 : Addr) (q1 : Int64) (q2 : Int64) (q3 : Int64) (w1 : Addr) (w2 : Addr) : entryFrame m #[(.ref a1), .null, (.long q1), (.long q2), (.ref w1), (.ref w2), (.long q3)] 10 = mkF m 0 #[.val (.ref a1), .val .null, .val (.long q1), .second, .val (.long q2), .second, .val (.ref w1), .val (.ref w2), .val (.long q3), .second] [] := by first | (simp [entryFrame, mkF, argsToLocals, Value.category]; done) | rfl
set_option maxRecDepth 65536 in
set_option maxHeartbeats 40000000 in
theorem own_si6 (l : Launch) (Z : State) (a0 : Array Value) (hw : ∀ d ∈ tables_1, d.before a0 Z = true) (ws : List Jvm.Cond) (a1 : Addr) (q1 : Int64) (q2 : Int64) (q3 : Int64) (w1 : Addr) (w2 : Addr) (h0 : Heap) (n0 : Nat) (Z0 : n0 ≤ h0.size) (E1 : Exa Z h0 a1 "com/example/deft_lock/deftlock/service/ServerInfo") (F1 : Fld Z h0 a1 "com/example/deft_lock/deftlock/service/ServerInfo" "runId" "Ljava/lang/String;" .null) (F2 : Fld Z h0 a1 "com/example/deft_lock/deftlock/service/ServerInfo" "uptimeSeconds" "J" (.long (0 : Int64))) (F3 : Fld Z h0 a1 "com/example/deft_lock/deftlock/service/ServerInfo" "clockMicros" "J" (.long (0 : Int64))) (F4 : Fld Z h0 a1 "com/example/deft_lock/deftlock/service/ServerInfo" "role" "Ljava/lang/String;" .null) (F5 : Fld Z h0 a1 "com/example/deft_lock/deftlock/service/ServerInfo" "master" "Ljava/lang/String;" .null) (F6 : Fld Z h0 a1 "com/example/deft_lock/deftlock/service/ServerInfo" "connectedReplicas" "J" (.long (0 : Int64))) (g_a1 : n0 ≤ a1) :
    own_Met l Z (⟨"com/example/deft_lock/deftlock/service/ServerInfo", "<init>", "(Ljava/lang/String;JJLjava/lang/String;Ljava/lang/String;J)V"⟩ : MethodName) prog_7_method_1_code 10 none ws ({ frames := 2, cells := 0, slots := 0, locals := 32 } : Room) #[(.ref a1), .null, (.long q1), (.long q2), (.ref w1), (.ref w2), (.long q3)] h0 (fun v h L => v = none ∧ Fr n0 L ∧ Keep h0 h [a1] ∧ Fld Z h a1 "com/example/deft_lock/deftlock/service/ServerInfo" "runId" "Ljava/lang/String;" .null ∧ Fld Z h a1 "com/example/deft_lock/deftlock/service/ServerInfo" "uptimeSeconds" "J" (.long q1)) := by
  refine own_enter (plainFor_of_name own_pn4) ?_
  intro p e s m below meth c s₁ X0 hx hZ hby hml hown hnm hret hlk e0
  have N0 := Fr.nil n0
  rw [own_si6_ef m a1 q1 q2 q3 w1 w2]
  have KK0 : Keep h0 h0 [a1] := Keep.refl _ _
  show own_Fin _ _ _ _ _ _ (s₁.setTop (mkF m 0 #[.val (.ref a1), .val .null, .val (.long q1), .second, .val (.long q2), .second, .val (.ref w1), .val (.ref w2), .val (.long q3), .second] []))
  refine own_to (fun t k => XS.aloadN X0.here hx rfl (hb hby own_d3_0) rfl rfl k) ?_
  show own_Fin _ _ _ _ _ _ (s₁.setTop (mkF m 1 #[.val (.ref a1), .val .null, .val (.long q1), .second, .val (.long q2), .second, .val (.ref w1), .val (.ref w2), .val (.long q3), .second] [(.ref a1)]))
  obtain ⟨_, _, ⟨T112, L112, k112, n112⟩, -, X112, ⟨Lc112, hQ112, l112, y112, z112⟩, st112⟩ := X0.specialBack hx (y := (⟨"java/lang/Record", "<init>", "()V"⟩ : MethodName)) rfl hown (mvT hZ (hw _ (List.mem_of_getElem? (i := 13) rfl))) (mvT hZ (hw _ (List.mem_of_getElem? (i := 14) rfl))) (mvT hZ (hw _ (List.mem_of_getElem? (i := 17) rfl))) (by decide) (own_back (W := 0) (own_rm4 l Z a0 hw [] a1 h0 n0 Z0) hZ (hw _ (List.mem_of_getElem? (i := 17) rfl)) (hw _ (List.mem_of_getElem? (i := 16) rfl)) (by decide) (by decide)) (g := (mkF m 1 #[.val (.ref a1), .val .null, .val (.long q1), .second, .val (.long q2), .second, .val (.ref w1), .val (.ref w2), .val (.long q3), .second] [(.ref a1)])) rfl (by rw [hml]; rfl) (Steps.refl _) (a := a1) (argsL := []) (rest := []) (lenOf own_pd1 rfl) rfl (by show 2 * 0 + _ ≤ _; exact Nat.le_of_eq rfl) (hb hby own_d3_1) (fun _ _ => ⟨rfl, e0, (by decide : 0 + 0 ≤ _), (by decide : 0 + 0 ≤ _)⟩)
  dsimp only [Pt.U, Pt.locs, Pt.cells, Pt.slots] at X112 l112 y112 z112 st112 hQ112
  subst l112 y112 z112
  obtain ⟨rfl, N112q, eh112⟩ := hQ112
  have N112 := Fr.app N0 N112q
  refine own_to (fun t k => st112.trans k) ?_
  show own_Fin _ _ _ _ _ _ (T112.setTop (mkF m 4 #[.val (.ref a1), .val .null, .val (.long q1), .second, .val (.long q2), .second, .val (.ref w1), .val (.ref w2), .val (.long q3), .second] []))
  refine own_to (fun t k => XS.aloadN X112.here hx rfl (hb hby own_d3_4) rfl rfl k) ?_
  show own_Fin _ _ _ _ _ _ (T112.setTop (mkF m 5 #[.val (.ref a1), .val .null, .val (.long q1), .second, .val (.long q2), .second, .val (.ref w1), .val (.ref w2), .val (.long q3), .second] [(.ref a1)]))
  refine own_to (fun t k => XS.aloadN X112.here hx rfl (hb hby own_d3_5) rfl rfl k) ?_
  show own_Fin _ _ _ _ _ _ (T112.setTop (mkF m 6 #[.val (.ref a1), .val .null, .val (.long q1), .second, .val (.long q2), .second, .val (.ref w1), .val (.ref w2), .val (.long q3), .second] [.null, (.ref a1)]))
  obtain ⟨T113, h113, X113, e113, W113, st113⟩ := putF X112 hx hZ hown (host := "") (Or.inl (hw _ (List.mem_of_getElem? (i := 21) rfl))) Via.refl eh112 F1 E1 (Or.inr ⟨(hw _ (List.mem_of_getElem? (i := 22) rfl)), rfl, hnm⟩) (hw _ (List.mem_of_getElem? (i := 8) rfl)) (ty := (.object "java/lang/String")) (by decide) rfl rfl (g := (mkF m 6 #[.val (.ref a1), .val .null, .val (.long q1), .second, .val (.long q2), .second, .val (.ref w1), .val (.ref w2), .val (.long q3), .second] [.null, (.ref a1)])) rfl rfl (hb hby own_d3_6)
  have Fw113 := F1.same W113
  have N113 := Fr.snoc X113 N112 g_a1
  have KK113 : Keep h0 h113 [a1] := KK0.wr W113 (Or.inl (List.mem_of_getElem? (i := 0) rfl))
  have E1_e113 := E1.wr W113
  have F2_e113 := F2.other W113 (Or.inr (slot_ne (Or.inr (hw _ (List.mem_of_getElem? (i := 24) rfl))) (Or.inr (hw _ (List.mem_of_getElem? (i := 22) rfl))) (by decide) (t := .long) (t' := (.object "java/lang/String")) (by decide) (by decide)))
  have F3_e113 := F3.other W113 (Or.inr (slot_ne (Or.inr (hw _ (List.mem_of_getElem? (i := 26) rfl))) (Or.inr (hw _ (List.mem_of_getElem? (i := 22) rfl))) (by decide) (t := .long) (t' := (.object "java/lang/String")) (by decide) (by decide)))
  have F4_e113 := F4.other W113 (Or.inr (slot_ne (Or.inr (hw _ (List.mem_of_getElem? (i := 28) rfl))) (Or.inr (hw _ (List.mem_of_getElem? (i := 22) rfl))) (by decide) (t := (.object "java/lang/String")) (t' := (.object "java/lang/String")) (by decide) (by decide)))
  have F5_e113 := F5.other W113 (Or.inr (slot_ne (Or.inr (hw _ (List.mem_of_getElem? (i := 30) rfl))) (Or.inr (hw _ (List.mem_of_getElem? (i := 22) rfl))) (by decide) (t := (.object "java/lang/String")) (t' := (.object "java/lang/String")) (by decide) (by decide)))
  have F6_e113 := F6.other W113 (Or.inr (slot_ne (Or.inr (hw _ (List.mem_of_getElem? (i := 32) rfl))) (Or.inr (hw _ (List.mem_of_getElem? (i := 22) rfl))) (by decide) (t := .long) (t' := (.object "java/lang/String")) (by decide) (by decide)))
  refine own_to (fun t k => st113 t k) ?_
  show own_Fin _ _ _ _ _ _ (T113.setTop (mkF m 9 #[.val (.ref a1), .val .null, .val (.long q1), .second, .val (.long q2), .second, .val (.ref w1), .val (.ref w2), .val (.long q3), .second] []))
  refine own_to (fun t k => XS.aloadN X113.here hx rfl (hb hby own_d3_9) rfl rfl k) ?_
  show own_Fin _ _ _ _ _ _ (T113.setTop (mkF m 10 #[.val (.ref a1), .val .null, .val (.long q1), .second, .val (.long q2), .second, .val (.ref w1), .val (.ref w2), .val (.long q3), .second] [(.ref a1)]))
  refine own_to (fun t k => XS.lloadN X113.here hx rfl (hb hby own_d3_10) rfl k) ?_
  show own_Fin _ _ _ _ _ _ (T113.setTop (mkF m 11 #[.val (.ref a1), .val .null, .val (.long q1), .second, .val (.long q2), .second, .val (.ref w1), .val (.ref w2), .val (.long q3), .second] [(.long q1), (.ref a1)]))
  obtain ⟨T114, h114, X114, e114, W114, st114⟩ := putF X113 hx hZ hown (host := "") (Or.inl (hw _ (List.mem_of_getElem? (i := 23) rfl))) Via.refl e113 F2_e113 E1_e113 (Or.inr ⟨(hw _ (List.mem_of_getElem? (i := 24) rfl)), rfl, hnm⟩) (hw _ (List.mem_of_getElem? (i := 8) rfl)) (ty := .long) (by decide) rfl rfl (g := (mkF m 11 #[.val (.ref a1), .val .null, .val (.long q1), .second, .val (.long q2), .second, .val (.ref w1), .val (.ref w2), .val (.long q3), .second] [(.long q1), (.ref a1)])) rfl rfl (hb hby own_d3_11)
  have Fw114 := F2_e113.same W114
  have N114 := Fr.snoc X114 N113 g_a1
  have KK114 : Keep h0 h114 [a1] := KK113.wr W114 (Or.inl (List.mem_of_getElem? (i := 0) rfl))
  have E1_e114 := E1_e113.wr W114
  have Fw113_e114 := Fw113.other W114 (Or.inr (slot_ne (Or.inr (hw _ (List.mem_of_getElem? (i := 22) rfl))) (Or.inr (hw _ (List.mem_of_getElem? (i := 24) rfl))) (by decide) (t := (.object "java/lang/String")) (t' := .long) (by decide) (by decide)))
  have F3_e114 := F3_e113.other W114 (Or.inr (slot_ne (Or.inr (hw _ (List.mem_of_getElem? (i := 26) rfl))) (Or.inr (hw _ (List.mem_of_getElem? (i := 24) rfl))) (by decide) (t := .long) (t' := .long) (by decide) (by decide)))
  have F4_e114 := F4_e113.other W114 (Or.inr (slot_ne (Or.inr (hw _ (List.mem_of_getElem? (i := 28) rfl))) (Or.inr (hw _ (List.mem_of_getElem? (i := 24) rfl))) (by decide) (t := (.object "java/lang/String")) (t' := .long) (by decide) (by decide)))
  have F5_e114 := F5_e113.other W114 (Or.inr (slot_ne (Or.inr (hw _ (List.mem_of_getElem? (i := 30) rfl))) (Or.inr (hw _ (List.mem_of_getElem? (i := 24) rfl))) (by decide) (t := (.object "java/lang/String")) (t' := .long) (by decide) (by decide)))
  have F6_e114 := F6_e113.other W114 (Or.inr (slot_ne (Or.inr (hw _ (List.mem_of_getElem? (i := 32) rfl))) (Or.inr (hw _ (List.mem_of_getElem? (i := 24) rfl))) (by decide) (t := .long) (t' := .long) (by decide) (by decide)))
  refine own_to (fun t k => st114 t k) ?_
  show own_Fin _ _ _ _ _ _ (T114.setTop (mkF m 14 #[.val (.ref a1), .val .null, .val (.long q1), .second, .val (.long q2), .second, .val (.ref w1), .val (.ref w2), .val (.long q3), .second] []))
  refine own_to (fun t k => XS.aloadN X114.here hx rfl (hb hby own_d3_14) rfl rfl k) ?_
  show own_Fin _ _ _ _ _ _ (T114.setTop (mkF m 15 #[.val (.ref a1), .val .null, .val (.long q1), .second, .val (.long q2), .second, .val (.ref w1), .val (.ref w2), .val (.long q3), .second] [(.ref a1)]))
  refine own_to (fun t k => XS.lload X114.here hx rfl (hb hby own_d3_15) rfl k) ?_
  show own_Fin _ _ _ _ _ _ (T114.setTop (mkF m 17 #[.val (.ref a1), .val .null, .val (.long q1), .second, .val (.long q2), .second, .val (.ref w1), .val (.ref w2), .val (.long q3), .second] [(.long q2), (.ref a1)]))
  obtain ⟨T115, h115, X115, e115, W115, st115⟩ := putF X114 hx hZ hown (host := "") (Or.inl (hw _ (List.mem_of_getElem? (i := 25) rfl))) Via.refl e114 F3_e114 E1_e114 (Or.inr ⟨(hw _ (List.mem_of_getElem? (i := 26) rfl)), rfl, hnm⟩) (hw _ (List.mem_of_getElem? (i := 8) rfl)) (ty := .long) (by decide) rfl rfl (g := (mkF m 17 #[.val (.ref a1), .val .null, .val (.long q1), .second, .val (.long q2), .second, .val (.ref w1), .val (.ref w2), .val (.long q3), .second] [(.long q2), (.ref a1)])) rfl rfl (hb hby own_d3_17)
  have Fw115 := F3_e114.same W115
  have N115 := Fr.snoc X115 N114 g_a1
  have KK115 : Keep h0 h115 [a1] := KK114.wr W115 (Or.inl (List.mem_of_getElem? (i := 0) rfl))
  have E1_e115 := E1_e114.wr W115
  have Fw113_e115 := Fw113_e114.other W115 (Or.inr (slot_ne (Or.inr (hw _ (List.mem_of_getElem? (i := 22) rfl))) (Or.inr (hw _ (List.mem_of_getElem? (i := 26) rfl))) (by decide) (t := (.object "java/lang/String")) (t' := .long) (by decide) (by decide)))
  have Fw114_e115 := Fw114.other W115 (Or.inr (slot_ne (Or.inr (hw _ (List.mem_of_getElem? (i := 24) rfl))) (Or.inr (hw _ (List.mem_of_getElem? (i := 26) rfl))) (by decide) (t := .long) (t' := .long) (by decide) (by decide)))
  have F4_e115 := F4_e114.other W115 (Or.inr (slot_ne (Or.inr (hw _ (List.mem_of_getElem? (i := 28) rfl))) (Or.inr (hw _ (List.mem_of_getElem? (i := 26) rfl))) (by decide) (t := (.object "java/lang/String")) (t' := .long) (by decide) (by decide)))
  have F5_e115 := F5_e114.other W115 (Or.inr (slot_ne (Or.inr (hw _ (List.mem_of_getElem? (i := 30) rfl))) (Or.inr (hw _ (List.mem_of_getElem? (i := 26) rfl))) (by decide) (t := (.object "java/lang/String")) (t' := .long) (by decide) (by decide)))
  have F6_e115 := F6_e114.other W115 (Or.inr (slot_ne (Or.inr (hw _ (List.mem_of_getElem? (i := 32) rfl))) (Or.inr (hw _ (List.mem_of_getElem? (i := 26) rfl))) (by decide) (t := .long) (t' := .long) (by decide) (by decide)))
  refine own_to (fun t k => st115 t k) ?_
  show own_Fin _ _ _ _ _ _ (T115.setTop (mkF m 20 #[.val (.ref a1), .val .null, .val (.long q1), .second, .val (.long q2), .second, .val (.ref w1), .val (.ref w2), .val (.long q3), .second] []))
  refine own_to (fun t k => XS.aloadN X115.here hx rfl (hb hby own_d3_20) rfl rfl k) ?_
  show own_Fin _ _ _ _ _ _ (T115.setTop (mkF m 21 #[.val (.ref a1), .val .null, .val (.long q1), .second, .val (.long q2), .second, .val (.ref w1), .val (.ref w2), .val (.long q3), .second] [(.ref a1)]))
  refine own_to (fun t k => XS.aload X115.here hx rfl (hb hby own_d3_21) rfl rfl k) ?_
  show own_Fin _ _ _ _ _ _ (T115.setTop (mkF m 23 #[.val (.ref a1), .val .null, .val (.long q1), .second, .val (.long q2), .second, .val (.ref w1), .val (.ref w2), .val (.long q3), .second] [(.ref w1), (.ref a1)]))
  obtain ⟨T116, h116, X116, e116, W116, st116⟩ := putF X115 hx hZ hown (host := "") (Or.inl (hw _ (List.mem_of_getElem? (i := 27) rfl))) Via.refl e115 F4_e115 E1_e115 (Or.inr ⟨(hw _ (List.mem_of_getElem? (i := 28) rfl)), rfl, hnm⟩) (hw _ (List.mem_of_getElem? (i := 8) rfl)) (ty := (.object "java/lang/String")) (by decide) rfl rfl (g := (mkF m 23 #[.val (.ref a1), .val .null, .val (.long q1), .second, .val (.long q2), .second, .val (.ref w1), .val (.ref w2), .val (.long q3), .second] [(.ref w1), (.ref a1)])) rfl rfl (hb hby own_d3_23)
  have Fw116 := F4_e115.same W116
  have N116 := Fr.snoc X116 N115 g_a1
  have KK116 : Keep h0 h116 [a1] := KK115.wr W116 (Or.inl (List.mem_of_getElem? (i := 0) rfl))
  have E1_e116 := E1_e115.wr W116
  have Fw113_e116 := Fw113_e115.other W116 (Or.inr (slot_ne (Or.inr (hw _ (List.mem_of_getElem? (i := 22) rfl))) (Or.inr (hw _ (List.mem_of_getElem? (i := 28) rfl))) (by decide) (t := (.object "java/lang/String")) (t' := (.object "java/lang/String")) (by decide) (by decide)))
  have Fw114_e116 := Fw114_e115.other W116 (Or.inr (slot_ne (Or.inr (hw _ (List.mem_of_getElem? (i := 24) rfl))) (Or.inr (hw _ (List.mem_of_getElem? (i := 28) rfl))) (by decide) (t := .long) (t' := (.object "java/lang/String")) (by decide) (by decide)))
  have Fw115_e116 := Fw115.other W116 (Or.inr (slot_ne (Or.inr (hw _ (List.mem_of_getElem? (i := 26) rfl))) (Or.inr (hw _ (List.mem_of_getElem? (i := 28) rfl))) (by decide) (t := .long) (t' := (.object "java/lang/String")) (by decide) (by decide)))
  have F5_e116 := F5_e115.other W116 (Or.inr (slot_ne (Or.inr (hw _ (List.mem_of_getElem? (i := 30) rfl))) (Or.inr (hw _ (List.mem_of_getElem? (i := 28) rfl))) (by decide) (t := (.object "java/lang/String")) (t' := (.object "java/lang/String")) (by decide) (by decide)))
  have F6_e116 := F6_e115.other W116 (Or.inr (slot_ne (Or.inr (hw _ (List.mem_of_getElem? (i := 32) rfl))) (Or.inr (hw _ (List.mem_of_getElem? (i := 28) rfl))) (by decide) (t := .long) (t' := (.object "java/lang/String")) (by decide) (by decide)))
  refine own_to (fun t k => st116 t k) ?_
  show own_Fin _ _ _ _ _ _ (T116.setTop (mkF m 26 #[.val (.ref a1), .val .null, .val (.long q1), .second, .val (.long q2), .second, .val (.ref w1), .val (.ref w2), .val (.long q3), .second] []))
  refine own_to (fun t k => XS.aloadN X116.here hx rfl (hb hby own_d3_26) rfl rfl k) ?_
  show own_Fin _ _ _ _ _ _ (T116.setTop (mkF m 27 #[.val (.ref a1), .val .null, .val (.long q1), .second, .val (.long q2), .second, .val (.ref w1), .val (.ref w2), .val (.long q3), .second] [(.ref a1)]))
  refine own_to (fun t k => XS.aload X116.here hx rfl (hb hby own_d3_27) rfl rfl k) ?_
  show own_Fin _ _ _ _ _ _ (T116.setTop (mkF m 29 #[.val (.ref a1), .val .null, .val (.long q1), .second, .val (.long q2), .second, .val (.ref w1), .val (.ref w2), .val (.long q3), .second] [(.ref w2), (.ref a1)]))
  obtain ⟨T117, h117, X117, e117, W117, st117⟩ := putF X116 hx hZ hown (host := "") (Or.inl (hw _ (List.mem_of_getElem? (i := 29) rfl))) Via.refl e116 F5_e116 E1_e116 (Or.inr ⟨(hw _ (List.mem_of_getElem? (i := 30) rfl)), rfl, hnm⟩) (hw _ (List.mem_of_getElem? (i := 8) rfl)) (ty := (.object "java/lang/String")) (by decide) rfl rfl (g := (mkF m 29 #[.val (.ref a1), .val .null, .val (.long q1), .second, .val (.long q2), .second, .val (.ref w1), .val (.ref w2), .val (.long q3), .second] [(.ref w2), (.ref a1)])) rfl rfl (hb hby own_d3_29)
  have Fw117 := F5_e116.same W117
  have N117 := Fr.snoc X117 N116 g_a1
  have KK117 : Keep h0 h117 [a1] := KK116.wr W117 (Or.inl (List.mem_of_getElem? (i := 0) rfl))
  have E1_e117 := E1_e116.wr W117
  have Fw113_e117 := Fw113_e116.other W117 (Or.inr (slot_ne (Or.inr (hw _ (List.mem_of_getElem? (i := 22) rfl))) (Or.inr (hw _ (List.mem_of_getElem? (i := 30) rfl))) (by decide) (t := (.object "java/lang/String")) (t' := (.object "java/lang/String")) (by decide) (by decide)))
  have Fw114_e117 := Fw114_e116.other W117 (Or.inr (slot_ne (Or.inr (hw _ (List.mem_of_getElem? (i := 24) rfl))) (Or.inr (hw _ (List.mem_of_getElem? (i := 30) rfl))) (by decide) (t := .long) (t' := (.object "java/lang/String")) (by decide) (by decide)))
  have Fw115_e117 := Fw115_e116.other W117 (Or.inr (slot_ne (Or.inr (hw _ (List.mem_of_getElem? (i := 26) rfl))) (Or.inr (hw _ (List.mem_of_getElem? (i := 30) rfl))) (by decide) (t := .long) (t' := (.object "java/lang/String")) (by decide) (by decide)))
  have Fw116_e117 := Fw116.other W117 (Or.inr (slot_ne (Or.inr (hw _ (List.mem_of_getElem? (i := 28) rfl))) (Or.inr (hw _ (List.mem_of_getElem? (i := 30) rfl))) (by decide) (t := (.object "java/lang/String")) (t' := (.object "java/lang/String")) (by decide) (by decide)))
  have F6_e117 := F6_e116.other W117 (Or.inr (slot_ne (Or.inr (hw _ (List.mem_of_getElem? (i := 32) rfl))) (Or.inr (hw _ (List.mem_of_getElem? (i := 30) rfl))) (by decide) (t := .long) (t' := (.object "java/lang/String")) (by decide) (by decide)))
  refine own_to (fun t k => st117 t k) ?_
  show own_Fin _ _ _ _ _ _ (T117.setTop (mkF m 32 #[.val (.ref a1), .val .null, .val (.long q1), .second, .val (.long q2), .second, .val (.ref w1), .val (.ref w2), .val (.long q3), .second] []))
  refine own_to (fun t k => XS.aloadN X117.here hx rfl (hb hby own_d3_32) rfl rfl k) ?_
  show own_Fin _ _ _ _ _ _ (T117.setTop (mkF m 33 #[.val (.ref a1), .val .null, .val (.long q1), .second, .val (.long q2), .second, .val (.ref w1), .val (.ref w2), .val (.long q3), .second] [(.ref a1)]))
  refine own_to (fun t k => XS.lload X117.here hx rfl (hb hby own_d3_33) rfl k) ?_
  show own_Fin _ _ _ _ _ _ (T117.setTop (mkF m 35 #[.val (.ref a1), .val .null, .val (.long q1), .second, .val (.long q2), .second, .val (.ref w1), .val (.ref w2), .val (.long q3), .second] [(.long q3), (.ref a1)]))
  obtain ⟨T118, h118, X118, e118, W118, st118⟩ := putF X117 hx hZ hown (host := "") (Or.inl (hw _ (List.mem_of_getElem? (i := 31) rfl))) Via.refl e117 F6_e117 E1_e117 (Or.inr ⟨(hw _ (List.mem_of_getElem? (i := 32) rfl)), rfl, hnm⟩) (hw _ (List.mem_of_getElem? (i := 8) rfl)) (ty := .long) (by decide) rfl rfl (g := (mkF m 35 #[.val (.ref a1), .val .null, .val (.long q1), .second, .val (.long q2), .second, .val (.ref w1), .val (.ref w2), .val (.long q3), .second] [(.long q3), (.ref a1)])) rfl rfl (hb hby own_d3_35)
  have Fw118 := F6_e117.same W118
  have N118 := Fr.snoc X118 N117 g_a1
  have KK118 : Keep h0 h118 [a1] := KK117.wr W118 (Or.inl (List.mem_of_getElem? (i := 0) rfl))
  have E1_e118 := E1_e117.wr W118
  have Fw113_e118 := Fw113_e117.other W118 (Or.inr (slot_ne (Or.inr (hw _ (List.mem_of_getElem? (i := 22) rfl))) (Or.inr (hw _ (List.mem_of_getElem? (i := 32) rfl))) (by decide) (t := (.object "java/lang/String")) (t' := .long) (by decide) (by decide)))
  have Fw114_e118 := Fw114_e117.other W118 (Or.inr (slot_ne (Or.inr (hw _ (List.mem_of_getElem? (i := 24) rfl))) (Or.inr (hw _ (List.mem_of_getElem? (i := 32) rfl))) (by decide) (t := .long) (t' := .long) (by decide) (by decide)))
  have Fw115_e118 := Fw115_e117.other W118 (Or.inr (slot_ne (Or.inr (hw _ (List.mem_of_getElem? (i := 26) rfl))) (Or.inr (hw _ (List.mem_of_getElem? (i := 32) rfl))) (by decide) (t := .long) (t' := .long) (by decide) (by decide)))
  have Fw116_e118 := Fw116_e117.other W118 (Or.inr (slot_ne (Or.inr (hw _ (List.mem_of_getElem? (i := 28) rfl))) (Or.inr (hw _ (List.mem_of_getElem? (i := 32) rfl))) (by decide) (t := (.object "java/lang/String")) (t' := .long) (by decide) (by decide)))
  have Fw117_e118 := Fw117.other W118 (Or.inr (slot_ne (Or.inr (hw _ (List.mem_of_getElem? (i := 30) rfl))) (Or.inr (hw _ (List.mem_of_getElem? (i := 32) rfl))) (by decide) (t := (.object "java/lang/String")) (t' := .long) (by decide) (by decide)))
  refine own_to (fun t k => st118 t k) ?_
  show own_Fin _ _ _ _ _ _ (T118.setTop (mkF m 38 #[.val (.ref a1), .val .null, .val (.long q1), .second, .val (.long q2), .second, .val (.ref w1), .val (.ref w2), .val (.long q3), .second] []))
  refine own_retV X118 hx hlk hret (hb hby own_d3_38) (by decide) (by decide) ?_
  try rw [e118]
  exact ⟨rfl, N118, KK118, Fw113_e118, Fw114_e118⟩
theorem own_si7_ef (m : MethodId) (a1 : Addr) (q1 : Int64) (q2 : Int64) (q3 : Int64) (w0 : Addr) (w1 : Addr) (w2 : Addr) : entryFrame m #[(.ref a1), (.ref w0), (.long q1), (.long q2), (.ref w1), (.ref w2), (.long q3)] 10 = mkF m 0 #[.val (.ref a1), .val (.ref w0), .val (.long q1), .second, .val (.long q2), .second, .val (.ref w1), .val (.ref w2), .val (.long q3), .second] [] := by first | (simp [entryFrame, mkF, argsToLocals, Value.category]; done) | rfl
set_option maxRecDepth 65536 in
set_option maxHeartbeats 40000000 in
theorem own_si7 (l : Launch) (Z : State) (a0 : Array Value) (hw : ∀ d ∈ tables_1, d.before a0 Z = true) (ws : List Jvm.Cond) (a1 : Addr) (q1 : Int64) (q2 : Int64) (q3 : Int64) (w0 : Addr) (w1 : Addr) (w2 : Addr) (h0 : Heap) (n0 : Nat) (Z0 : n0 ≤ h0.size) (E1 : Exa Z h0 a1 "com/example/deft_lock/deftlock/service/ServerInfo") (F1 : Fld Z h0 a1 "com/example/deft_lock/deftlock/service/ServerInfo" "runId" "Ljava/lang/String;" .null) (F2 : Fld Z h0 a1 "com/example/deft_lock/deftlock/service/ServerInfo" "uptimeSeconds" "J" (.long (0 : Int64))) (F3 : Fld Z h0 a1 "com/example/deft_lock/deftlock/service/ServerInfo" "clockMicros" "J" (.long (0 : Int64))) (F4 : Fld Z h0 a1 "com/example/deft_lock/deftlock/service/ServerInfo" "role" "Ljava/lang/String;" .null) (F5 : Fld Z h0 a1 "com/example/deft_lock/deftlock/service/ServerInfo" "master" "Ljava/lang/String;" .null) (F6 : Fld Z h0 a1 "com/example/deft_lock/deftlock/service/ServerInfo" "connectedReplicas" "J" (.long (0 : Int64))) (g_a1 : n0 ≤ a1) :
    own_Met l Z (⟨"com/example/deft_lock/deftlock/service/ServerInfo", "<init>", "(Ljava/lang/String;JJLjava/lang/String;Ljava/lang/String;J)V"⟩ : MethodName) prog_7_method_1_code 10 none ws ({ frames := 2, cells := 0, slots := 0, locals := 32 } : Room) #[(.ref a1), (.ref w0), (.long q1), (.long q2), (.ref w1), (.ref w2), (.long q3)] h0 (fun v h L => v = none ∧ Fr n0 L ∧ Keep h0 h [a1] ∧ Fld Z h a1 "com/example/deft_lock/deftlock/service/ServerInfo" "runId" "Ljava/lang/String;" (.ref w0) ∧ Fld Z h a1 "com/example/deft_lock/deftlock/service/ServerInfo" "uptimeSeconds" "J" (.long q1)) := by
  refine own_enter (plainFor_of_name own_pn4) ?_
  intro p e s m below meth c s₁ X0 hx hZ hby hml hown hnm hret hlk e0
  have N0 := Fr.nil n0
  rw [own_si7_ef m a1 q1 q2 q3 w0 w1 w2]
  have KK0 : Keep h0 h0 [a1] := Keep.refl _ _
  show own_Fin _ _ _ _ _ _ (s₁.setTop (mkF m 0 #[.val (.ref a1), .val (.ref w0), .val (.long q1), .second, .val (.long q2), .second, .val (.ref w1), .val (.ref w2), .val (.long q3), .second] []))
  refine own_to (fun t k => XS.aloadN X0.here hx rfl (hb hby own_d3_0) rfl rfl k) ?_
  show own_Fin _ _ _ _ _ _ (s₁.setTop (mkF m 1 #[.val (.ref a1), .val (.ref w0), .val (.long q1), .second, .val (.long q2), .second, .val (.ref w1), .val (.ref w2), .val (.long q3), .second] [(.ref a1)]))
  obtain ⟨_, _, ⟨T119, L119, k119, n119⟩, -, X119, ⟨Lc119, hQ119, l119, y119, z119⟩, st119⟩ := X0.specialBack hx (y := (⟨"java/lang/Record", "<init>", "()V"⟩ : MethodName)) rfl hown (mvT hZ (hw _ (List.mem_of_getElem? (i := 13) rfl))) (mvT hZ (hw _ (List.mem_of_getElem? (i := 14) rfl))) (mvT hZ (hw _ (List.mem_of_getElem? (i := 17) rfl))) (by decide) (own_back (W := 0) (own_rm4 l Z a0 hw [] a1 h0 n0 Z0) hZ (hw _ (List.mem_of_getElem? (i := 17) rfl)) (hw _ (List.mem_of_getElem? (i := 16) rfl)) (by decide) (by decide)) (g := (mkF m 1 #[.val (.ref a1), .val (.ref w0), .val (.long q1), .second, .val (.long q2), .second, .val (.ref w1), .val (.ref w2), .val (.long q3), .second] [(.ref a1)])) rfl (by rw [hml]; rfl) (Steps.refl _) (a := a1) (argsL := []) (rest := []) (lenOf own_pd1 rfl) rfl (by show 2 * 0 + _ ≤ _; exact Nat.le_of_eq rfl) (hb hby own_d3_1) (fun _ _ => ⟨rfl, e0, (by decide : 0 + 0 ≤ _), (by decide : 0 + 0 ≤ _)⟩)
  dsimp only [Pt.U, Pt.locs, Pt.cells, Pt.slots] at X119 l119 y119 z119 st119 hQ119
  subst l119 y119 z119
  obtain ⟨rfl, N119q, eh119⟩ := hQ119
  have N119 := Fr.app N0 N119q
  refine own_to (fun t k => st119.trans k) ?_
  show own_Fin _ _ _ _ _ _ (T119.setTop (mkF m 4 #[.val (.ref a1), .val (.ref w0), .val (.long q1), .second, .val (.long q2), .second, .val (.ref w1), .val (.ref w2), .val (.long q3), .second] []))
  refine own_to (fun t k => XS.aloadN X119.here hx rfl (hb hby own_d3_4) rfl rfl k) ?_
  show own_Fin _ _ _ _ _ _ (T119.setTop (mkF m 5 #[.val (.ref a1), .val (.ref w0), .val (.long q1), .second, .val (.long q2), .second, .val (.ref w1), .val (.ref w2), .val (.long q3), .second] [(.ref a1)]))
  refine own_to (fun t k => XS.aloadN X119.here hx rfl (hb hby own_d3_5) rfl rfl k) ?_
  show own_Fin _ _ _ _ _ _ (T119.setTop (mkF m 6 #[.val (.ref a1), .val (.ref w0), .val (.long q1), .second, .val (.long q2), .second, .val (.ref w1), .val (.ref w2), .val (.long q3), .second] [(.ref w0), (.ref a1)]))
  obtain ⟨T120, h120, X120, e120, W120, st120⟩ := putF X119 hx hZ hown (host := "") (Or.inl (hw _ (List.mem_of_getElem? (i := 21) rfl))) Via.refl eh119 F1 E1 (Or.inr ⟨(hw _ (List.mem_of_getElem? (i := 22) rfl)), rfl, hnm⟩) (hw _ (List.mem_of_getElem? (i := 8) rfl)) (ty := (.object "java/lang/String")) (by decide) rfl rfl (g := (mkF m 6 #[.val (.ref a1), .val (.ref w0), .val (.long q1), .second, .val (.long q2), .second, .val (.ref w1), .val (.ref w2), .val (.long q3), .second] [(.ref w0), (.ref a1)])) rfl rfl (hb hby own_d3_6)
  have Fw120 := F1.same W120
  have N120 := Fr.snoc X120 N119 g_a1
  have KK120 : Keep h0 h120 [a1] := KK0.wr W120 (Or.inl (List.mem_of_getElem? (i := 0) rfl))
  have E1_e120 := E1.wr W120
  have F2_e120 := F2.other W120 (Or.inr (slot_ne (Or.inr (hw _ (List.mem_of_getElem? (i := 24) rfl))) (Or.inr (hw _ (List.mem_of_getElem? (i := 22) rfl))) (by decide) (t := .long) (t' := (.object "java/lang/String")) (by decide) (by decide)))
  have F3_e120 := F3.other W120 (Or.inr (slot_ne (Or.inr (hw _ (List.mem_of_getElem? (i := 26) rfl))) (Or.inr (hw _ (List.mem_of_getElem? (i := 22) rfl))) (by decide) (t := .long) (t' := (.object "java/lang/String")) (by decide) (by decide)))
  have F4_e120 := F4.other W120 (Or.inr (slot_ne (Or.inr (hw _ (List.mem_of_getElem? (i := 28) rfl))) (Or.inr (hw _ (List.mem_of_getElem? (i := 22) rfl))) (by decide) (t := (.object "java/lang/String")) (t' := (.object "java/lang/String")) (by decide) (by decide)))
  have F5_e120 := F5.other W120 (Or.inr (slot_ne (Or.inr (hw _ (List.mem_of_getElem? (i := 30) rfl))) (Or.inr (hw _ (List.mem_of_getElem? (i := 22) rfl))) (by decide) (t := (.object "java/lang/String")) (t' := (.object "java/lang/String")) (by decide) (by decide)))
  have F6_e120 := F6.other W120 (Or.inr (slot_ne (Or.inr (hw _ (List.mem_of_getElem? (i := 32) rfl))) (Or.inr (hw _ (List.mem_of_getElem? (i := 22) rfl))) (by decide) (t := .long) (t' := (.object "java/lang/String")) (by decide) (by decide)))
  refine own_to (fun t k => st120 t k) ?_
  show own_Fin _ _ _ _ _ _ (T120.setTop (mkF m 9 #[.val (.ref a1), .val (.ref w0), .val (.long q1), .second, .val (.long q2), .second, .val (.ref w1), .val (.ref w2), .val (.long q3), .second] []))
  refine own_to (fun t k => XS.aloadN X120.here hx rfl (hb hby own_d3_9) rfl rfl k) ?_
  show own_Fin _ _ _ _ _ _ (T120.setTop (mkF m 10 #[.val (.ref a1), .val (.ref w0), .val (.long q1), .second, .val (.long q2), .second, .val (.ref w1), .val (.ref w2), .val (.long q3), .second] [(.ref a1)]))
  refine own_to (fun t k => XS.lloadN X120.here hx rfl (hb hby own_d3_10) rfl k) ?_
  show own_Fin _ _ _ _ _ _ (T120.setTop (mkF m 11 #[.val (.ref a1), .val (.ref w0), .val (.long q1), .second, .val (.long q2), .second, .val (.ref w1), .val (.ref w2), .val (.long q3), .second] [(.long q1), (.ref a1)]))
  obtain ⟨T121, h121, X121, e121, W121, st121⟩ := putF X120 hx hZ hown (host := "") (Or.inl (hw _ (List.mem_of_getElem? (i := 23) rfl))) Via.refl e120 F2_e120 E1_e120 (Or.inr ⟨(hw _ (List.mem_of_getElem? (i := 24) rfl)), rfl, hnm⟩) (hw _ (List.mem_of_getElem? (i := 8) rfl)) (ty := .long) (by decide) rfl rfl (g := (mkF m 11 #[.val (.ref a1), .val (.ref w0), .val (.long q1), .second, .val (.long q2), .second, .val (.ref w1), .val (.ref w2), .val (.long q3), .second] [(.long q1), (.ref a1)])) rfl rfl (hb hby own_d3_11)
  have Fw121 := F2_e120.same W121
  have N121 := Fr.snoc X121 N120 g_a1
  have KK121 : Keep h0 h121 [a1] := KK120.wr W121 (Or.inl (List.mem_of_getElem? (i := 0) rfl))
  have E1_e121 := E1_e120.wr W121
  have Fw120_e121 := Fw120.other W121 (Or.inr (slot_ne (Or.inr (hw _ (List.mem_of_getElem? (i := 22) rfl))) (Or.inr (hw _ (List.mem_of_getElem? (i := 24) rfl))) (by decide) (t := (.object "java/lang/String")) (t' := .long) (by decide) (by decide)))
  have F3_e121 := F3_e120.other W121 (Or.inr (slot_ne (Or.inr (hw _ (List.mem_of_getElem? (i := 26) rfl))) (Or.inr (hw _ (List.mem_of_getElem? (i := 24) rfl))) (by decide) (t := .long) (t' := .long) (by decide) (by decide)))
  have F4_e121 := F4_e120.other W121 (Or.inr (slot_ne (Or.inr (hw _ (List.mem_of_getElem? (i := 28) rfl))) (Or.inr (hw _ (List.mem_of_getElem? (i := 24) rfl))) (by decide) (t := (.object "java/lang/String")) (t' := .long) (by decide) (by decide)))
  have F5_e121 := F5_e120.other W121 (Or.inr (slot_ne (Or.inr (hw _ (List.mem_of_getElem? (i := 30) rfl))) (Or.inr (hw _ (List.mem_of_getElem? (i := 24) rfl))) (by decide) (t := (.object "java/lang/String")) (t' := .long) (by decide) (by decide)))
  have F6_e121 := F6_e120.other W121 (Or.inr (slot_ne (Or.inr (hw _ (List.mem_of_getElem? (i := 32) rfl))) (Or.inr (hw _ (List.mem_of_getElem? (i := 24) rfl))) (by decide) (t := .long) (t' := .long) (by decide) (by decide)))
  refine own_to (fun t k => st121 t k) ?_
  show own_Fin _ _ _ _ _ _ (T121.setTop (mkF m 14 #[.val (.ref a1), .val (.ref w0), .val (.long q1), .second, .val (.long q2), .second, .val (.ref w1), .val (.ref w2), .val (.long q3), .second] []))
  refine own_to (fun t k => XS.aloadN X121.here hx rfl (hb hby own_d3_14) rfl rfl k) ?_
  show own_Fin _ _ _ _ _ _ (T121.setTop (mkF m 15 #[.val (.ref a1), .val (.ref w0), .val (.long q1), .second, .val (.long q2), .second, .val (.ref w1), .val (.ref w2), .val (.long q3), .second] [(.ref a1)]))
  refine own_to (fun t k => XS.lload X121.here hx rfl (hb hby own_d3_15) rfl k) ?_
  show own_Fin _ _ _ _ _ _ (T121.setTop (mkF m 17 #[.val (.ref a1), .val (.ref w0), .val (.long q1), .second, .val (.long q2), .second, .val (.ref w1), .val (.ref w2), .val (.long q3), .second] [(.long q2), (.ref a1)]))
  obtain ⟨T122, h122, X122, e122, W122, st122⟩ := putF X121 hx hZ hown (host := "") (Or.inl (hw _ (List.mem_of_getElem? (i := 25) rfl))) Via.refl e121 F3_e121 E1_e121 (Or.inr ⟨(hw _ (List.mem_of_getElem? (i := 26) rfl)), rfl, hnm⟩) (hw _ (List.mem_of_getElem? (i := 8) rfl)) (ty := .long) (by decide) rfl rfl (g := (mkF m 17 #[.val (.ref a1), .val (.ref w0), .val (.long q1), .second, .val (.long q2), .second, .val (.ref w1), .val (.ref w2), .val (.long q3), .second] [(.long q2), (.ref a1)])) rfl rfl (hb hby own_d3_17)
  have Fw122 := F3_e121.same W122
  have N122 := Fr.snoc X122 N121 g_a1
  have KK122 : Keep h0 h122 [a1] := KK121.wr W122 (Or.inl (List.mem_of_getElem? (i := 0) rfl))
  have E1_e122 := E1_e121.wr W122
  have Fw120_e122 := Fw120_e121.other W122 (Or.inr (slot_ne (Or.inr (hw _ (List.mem_of_getElem? (i := 22) rfl))) (Or.inr (hw _ (List.mem_of_getElem? (i := 26) rfl))) (by decide) (t := (.object "java/lang/String")) (t' := .long) (by decide) (by decide)))
  have Fw121_e122 := Fw121.other W122 (Or.inr (slot_ne (Or.inr (hw _ (List.mem_of_getElem? (i := 24) rfl))) (Or.inr (hw _ (List.mem_of_getElem? (i := 26) rfl))) (by decide) (t := .long) (t' := .long) (by decide) (by decide)))
  have F4_e122 := F4_e121.other W122 (Or.inr (slot_ne (Or.inr (hw _ (List.mem_of_getElem? (i := 28) rfl))) (Or.inr (hw _ (List.mem_of_getElem? (i := 26) rfl))) (by decide) (t := (.object "java/lang/String")) (t' := .long) (by decide) (by decide)))
  have F5_e122 := F5_e121.other W122 (Or.inr (slot_ne (Or.inr (hw _ (List.mem_of_getElem? (i := 30) rfl))) (Or.inr (hw _ (List.mem_of_getElem? (i := 26) rfl))) (by decide) (t := (.object "java/lang/String")) (t' := .long) (by decide) (by decide)))
  have F6_e122 := F6_e121.other W122 (Or.inr (slot_ne (Or.inr (hw _ (List.mem_of_getElem? (i := 32) rfl))) (Or.inr (hw _ (List.mem_of_getElem? (i := 26) rfl))) (by decide) (t := .long) (t' := .long) (by decide) (by decide)))
  refine own_to (fun t k => st122 t k) ?_
  show own_Fin _ _ _ _ _ _ (T122.setTop (mkF m 20 #[.val (.ref a1), .val (.ref w0), .val (.long q1), .second, .val (.long q2), .second, .val (.ref w1), .val (.ref w2), .val (.long q3), .second] []))
  refine own_to (fun t k => XS.aloadN X122.here hx rfl (hb hby own_d3_20) rfl rfl k) ?_
  show own_Fin _ _ _ _ _ _ (T122.setTop (mkF m 21 #[.val (.ref a1), .val (.ref w0), .val (.long q1), .second, .val (.long q2), .second, .val (.ref w1), .val (.ref w2), .val (.long q3), .second] [(.ref a1)]))
  refine own_to (fun t k => XS.aload X122.here hx rfl (hb hby own_d3_21) rfl rfl k) ?_
  show own_Fin _ _ _ _ _ _ (T122.setTop (mkF m 23 #[.val (.ref a1), .val (.ref w0), .val (.long q1), .second, .val (.long q2), .second, .val (.ref w1), .val (.ref w2), .val (.long q3), .second] [(.ref w1), (.ref a1)]))
  obtain ⟨T123, h123, X123, e123, W123, st123⟩ := putF X122 hx hZ hown (host := "") (Or.inl (hw _ (List.mem_of_getElem? (i := 27) rfl))) Via.refl e122 F4_e122 E1_e122 (Or.inr ⟨(hw _ (List.mem_of_getElem? (i := 28) rfl)), rfl, hnm⟩) (hw _ (List.mem_of_getElem? (i := 8) rfl)) (ty := (.object "java/lang/String")) (by decide) rfl rfl (g := (mkF m 23 #[.val (.ref a1), .val (.ref w0), .val (.long q1), .second, .val (.long q2), .second, .val (.ref w1), .val (.ref w2), .val (.long q3), .second] [(.ref w1), (.ref a1)])) rfl rfl (hb hby own_d3_23)
  have Fw123 := F4_e122.same W123
  have N123 := Fr.snoc X123 N122 g_a1
  have KK123 : Keep h0 h123 [a1] := KK122.wr W123 (Or.inl (List.mem_of_getElem? (i := 0) rfl))
  have E1_e123 := E1_e122.wr W123
  have Fw120_e123 := Fw120_e122.other W123 (Or.inr (slot_ne (Or.inr (hw _ (List.mem_of_getElem? (i := 22) rfl))) (Or.inr (hw _ (List.mem_of_getElem? (i := 28) rfl))) (by decide) (t := (.object "java/lang/String")) (t' := (.object "java/lang/String")) (by decide) (by decide)))
  have Fw121_e123 := Fw121_e122.other W123 (Or.inr (slot_ne (Or.inr (hw _ (List.mem_of_getElem? (i := 24) rfl))) (Or.inr (hw _ (List.mem_of_getElem? (i := 28) rfl))) (by decide) (t := .long) (t' := (.object "java/lang/String")) (by decide) (by decide)))
  have Fw122_e123 := Fw122.other W123 (Or.inr (slot_ne (Or.inr (hw _ (List.mem_of_getElem? (i := 26) rfl))) (Or.inr (hw _ (List.mem_of_getElem? (i := 28) rfl))) (by decide) (t := .long) (t' := (.object "java/lang/String")) (by decide) (by decide)))
  have F5_e123 := F5_e122.other W123 (Or.inr (slot_ne (Or.inr (hw _ (List.mem_of_getElem? (i := 30) rfl))) (Or.inr (hw _ (List.mem_of_getElem? (i := 28) rfl))) (by decide) (t := (.object "java/lang/String")) (t' := (.object "java/lang/String")) (by decide) (by decide)))
  have F6_e123 := F6_e122.other W123 (Or.inr (slot_ne (Or.inr (hw _ (List.mem_of_getElem? (i := 32) rfl))) (Or.inr (hw _ (List.mem_of_getElem? (i := 28) rfl))) (by decide) (t := .long) (t' := (.object "java/lang/String")) (by decide) (by decide)))
  refine own_to (fun t k => st123 t k) ?_
  show own_Fin _ _ _ _ _ _ (T123.setTop (mkF m 26 #[.val (.ref a1), .val (.ref w0), .val (.long q1), .second, .val (.long q2), .second, .val (.ref w1), .val (.ref w2), .val (.long q3), .second] []))
  refine own_to (fun t k => XS.aloadN X123.here hx rfl (hb hby own_d3_26) rfl rfl k) ?_
  show own_Fin _ _ _ _ _ _ (T123.setTop (mkF m 27 #[.val (.ref a1), .val (.ref w0), .val (.long q1), .second, .val (.long q2), .second, .val (.ref w1), .val (.ref w2), .val (.long q3), .second] [(.ref a1)]))
  refine own_to (fun t k => XS.aload X123.here hx rfl (hb hby own_d3_27) rfl rfl k) ?_
  show own_Fin _ _ _ _ _ _ (T123.setTop (mkF m 29 #[.val (.ref a1), .val (.ref w0), .val (.long q1), .second, .val (.long q2), .second, .val (.ref w1), .val (.ref w2), .val (.long q3), .second] [(.ref w2), (.ref a1)]))
  obtain ⟨T124, h124, X124, e124, W124, st124⟩ := putF X123 hx hZ hown (host := "") (Or.inl (hw _ (List.mem_of_getElem? (i := 29) rfl))) Via.refl e123 F5_e123 E1_e123 (Or.inr ⟨(hw _ (List.mem_of_getElem? (i := 30) rfl)), rfl, hnm⟩) (hw _ (List.mem_of_getElem? (i := 8) rfl)) (ty := (.object "java/lang/String")) (by decide) rfl rfl (g := (mkF m 29 #[.val (.ref a1), .val (.ref w0), .val (.long q1), .second, .val (.long q2), .second, .val (.ref w1), .val (.ref w2), .val (.long q3), .second] [(.ref w2), (.ref a1)])) rfl rfl (hb hby own_d3_29)
  have Fw124 := F5_e123.same W124
  have N124 := Fr.snoc X124 N123 g_a1
  have KK124 : Keep h0 h124 [a1] := KK123.wr W124 (Or.inl (List.mem_of_getElem? (i := 0) rfl))
  have E1_e124 := E1_e123.wr W124
  have Fw120_e124 := Fw120_e123.other W124 (Or.inr (slot_ne (Or.inr (hw _ (List.mem_of_getElem? (i := 22) rfl))) (Or.inr (hw _ (List.mem_of_getElem? (i := 30) rfl))) (by decide) (t := (.object "java/lang/String")) (t' := (.object "java/lang/String")) (by decide) (by decide)))
  have Fw121_e124 := Fw121_e123.other W124 (Or.inr (slot_ne (Or.inr (hw _ (List.mem_of_getElem? (i := 24) rfl))) (Or.inr (hw _ (List.mem_of_getElem? (i := 30) rfl))) (by decide) (t := .long) (t' := (.object "java/lang/String")) (by decide) (by decide)))
  have Fw122_e124 := Fw122_e123.other W124 (Or.inr (slot_ne (Or.inr (hw _ (List.mem_of_getElem? (i := 26) rfl))) (Or.inr (hw _ (List.mem_of_getElem? (i := 30) rfl))) (by decide) (t := .long) (t' := (.object "java/lang/String")) (by decide) (by decide)))
  have Fw123_e124 := Fw123.other W124 (Or.inr (slot_ne (Or.inr (hw _ (List.mem_of_getElem? (i := 28) rfl))) (Or.inr (hw _ (List.mem_of_getElem? (i := 30) rfl))) (by decide) (t := (.object "java/lang/String")) (t' := (.object "java/lang/String")) (by decide) (by decide)))
  have F6_e124 := F6_e123.other W124 (Or.inr (slot_ne (Or.inr (hw _ (List.mem_of_getElem? (i := 32) rfl))) (Or.inr (hw _ (List.mem_of_getElem? (i := 30) rfl))) (by decide) (t := .long) (t' := (.object "java/lang/String")) (by decide) (by decide)))
  refine own_to (fun t k => st124 t k) ?_
  show own_Fin _ _ _ _ _ _ (T124.setTop (mkF m 32 #[.val (.ref a1), .val (.ref w0), .val (.long q1), .second, .val (.long q2), .second, .val (.ref w1), .val (.ref w2), .val (.long q3), .second] []))
  refine own_to (fun t k => XS.aloadN X124.here hx rfl (hb hby own_d3_32) rfl rfl k) ?_
  show own_Fin _ _ _ _ _ _ (T124.setTop (mkF m 33 #[.val (.ref a1), .val (.ref w0), .val (.long q1), .second, .val (.long q2), .second, .val (.ref w1), .val (.ref w2), .val (.long q3), .second] [(.ref a1)]))
  refine own_to (fun t k => XS.lload X124.here hx rfl (hb hby own_d3_33) rfl k) ?_
  show own_Fin _ _ _ _ _ _ (T124.setTop (mkF m 35 #[.val (.ref a1), .val (.ref w0), .val (.long q1), .second, .val (.long q2), .second, .val (.ref w1), .val (.ref w2), .val (.long q3), .second] [(.long q3), (.ref a1)]))
  obtain ⟨T125, h125, X125, e125, W125, st125⟩ := putF X124 hx hZ hown (host := "") (Or.inl (hw _ (List.mem_of_getElem? (i := 31) rfl))) Via.refl e124 F6_e124 E1_e124 (Or.inr ⟨(hw _ (List.mem_of_getElem? (i := 32) rfl)), rfl, hnm⟩) (hw _ (List.mem_of_getElem? (i := 8) rfl)) (ty := .long) (by decide) rfl rfl (g := (mkF m 35 #[.val (.ref a1), .val (.ref w0), .val (.long q1), .second, .val (.long q2), .second, .val (.ref w1), .val (.ref w2), .val (.long q3), .second] [(.long q3), (.ref a1)])) rfl rfl (hb hby own_d3_35)
  have Fw125 := F6_e124.same W125
  have N125 := Fr.snoc X125 N124 g_a1
  have KK125 : Keep h0 h125 [a1] := KK124.wr W125 (Or.inl (List.mem_of_getElem? (i := 0) rfl))
  have E1_e125 := E1_e124.wr W125
  have Fw120_e125 := Fw120_e124.other W125 (Or.inr (slot_ne (Or.inr (hw _ (List.mem_of_getElem? (i := 22) rfl))) (Or.inr (hw _ (List.mem_of_getElem? (i := 32) rfl))) (by decide) (t := (.object "java/lang/String")) (t' := .long) (by decide) (by decide)))
  have Fw121_e125 := Fw121_e124.other W125 (Or.inr (slot_ne (Or.inr (hw _ (List.mem_of_getElem? (i := 24) rfl))) (Or.inr (hw _ (List.mem_of_getElem? (i := 32) rfl))) (by decide) (t := .long) (t' := .long) (by decide) (by decide)))
  have Fw122_e125 := Fw122_e124.other W125 (Or.inr (slot_ne (Or.inr (hw _ (List.mem_of_getElem? (i := 26) rfl))) (Or.inr (hw _ (List.mem_of_getElem? (i := 32) rfl))) (by decide) (t := .long) (t' := .long) (by decide) (by decide)))
  have Fw123_e125 := Fw123_e124.other W125 (Or.inr (slot_ne (Or.inr (hw _ (List.mem_of_getElem? (i := 28) rfl))) (Or.inr (hw _ (List.mem_of_getElem? (i := 32) rfl))) (by decide) (t := (.object "java/lang/String")) (t' := .long) (by decide) (by decide)))
  have Fw124_e125 := Fw124.other W125 (Or.inr (slot_ne (Or.inr (hw _ (List.mem_of_getElem? (i := 30) rfl))) (Or.inr (hw _ (List.mem_of_getElem? (i := 32) rfl))) (by decide) (t := (.object "java/lang/String")) (t' := .long) (by decide) (by decide)))
  refine own_to (fun t k => st125 t k) ?_
  show own_Fin _ _ _ _ _ _ (T125.setTop (mkF m 38 #[.val (.ref a1), .val (.ref w0), .val (.long q1), .second, .val (.long q2), .second, .val (.ref w1), .val (.ref w2), .val (.long q3), .second] []))
  refine own_retV X125 hx hlk hret (hb hby own_d3_38) (by decide) (by decide) ?_
  try rw [e125]
  exact ⟨rfl, N125, KK125, Fw120_e125, Fw121_e125⟩
theorem own_d6_0 : decode prog_7_method_4_code 0 = .ok (.aload_n 0, 1) := by decide +kernel
theorem own_d6_1 : decode prog_7_method_4_code 1 = .ok (.getfield 7, 3) := by decide +kernel
theorem own_d6_4 : decode prog_7_method_4_code 4 = .ok (.ifnull 16, 3) := by decide +kernel
theorem own_d6_7 : decode prog_7_method_4_code 7 = .ok (.aload_n 0, 1) := by decide +kernel
theorem own_d6_8 : decode prog_7_method_4_code 8 = .ok (.getfield 13, 3) := by decide +kernel
theorem own_d6_11 : decode prog_7_method_4_code 11 = .ok (.lconst 0, 1) := by decide +kernel
theorem own_d6_12 : decode prog_7_method_4_code 12 = .ok (.lcmp, 1) := by decide +kernel
theorem own_d6_13 : decode prog_7_method_4_code 13 = .ok (.ifCond .lt 7, 3) := by decide +kernel
theorem own_d6_16 : decode prog_7_method_4_code 16 = .ok (.iconst 1, 1) := by decide +kernel
theorem own_d6_17 : decode prog_7_method_4_code 17 = .ok (.goto 4, 3) := by decide +kernel
theorem own_d6_20 : decode prog_7_method_4_code 20 = .ok (.iconst 0, 1) := by decide +kernel
theorem own_d6_21 : decode prog_7_method_4_code 21 = .ok (.ireturn, 1) := by decide +kernel
theorem own_tuN_ef (m : MethodId) (a1 : Addr) : entryFrame m #[(.ref a1)] 1 = mkF m 0 #[.val (.ref a1)] [] := by first | (simp [entryFrame, mkF, argsToLocals, Value.category]; done) | rfl
set_option maxRecDepth 65536 in
set_option maxHeartbeats 40000000 in
theorem own_tuN (l : Launch) (Z : State) (a0 : Array Value) (hw : ∀ d ∈ tables_1, d.before a0 Z = true) (ws : List Jvm.Cond) (a1 : Addr) (h0 : Heap) (n0 : Nat) (Z0 : n0 ≤ h0.size) (F1 : Fld Z h0 a1 "com/example/deft_lock/deftlock/service/ServerInfo" "runId" "Ljava/lang/String;" .null) :
    own_Met l Z (⟨"com/example/deft_lock/deftlock/service/ServerInfo", "tellsUptime", "()Z"⟩ : MethodName) prog_7_method_4_code 1 (some .boolean) ws ({ frames := 0, cells := 0, slots := 0, locals := 0 } : Room) #[(.ref a1)] h0 (fun v h L => v = some (.int (0 : Int32)) ∧ Fr n0 L ∧ h = h0) := by
  refine own_enter (plainFor_of_name own_pn4) ?_
  intro p e s m below meth c s₁ X0 hx hZ hby hml hown hnm hret hlk e0
  have N0 := Fr.nil n0
  rw [own_tuN_ef m a1]
  show own_Fin _ _ _ _ _ _ (s₁.setTop (mkF m 0 #[.val (.ref a1)] []))
  refine own_to (fun t k => XS.aloadN X0.here hx rfl (hb hby own_d6_0) rfl rfl k) ?_
  show own_Fin _ _ _ _ _ _ (s₁.setTop (mkF m 1 #[.val (.ref a1)] [(.ref a1)]))
  obtain ⟨T126, X126, e126, st126⟩ := getF X0 hx hZ hown (host := "") (Or.inl (hw _ (List.mem_of_getElem? (i := 21) rfl))) Via.refl e0 F1 (g := (mkF m 1 #[.val (.ref a1)] [(.ref a1)])) rfl rfl (hb hby own_d6_1)
  refine own_to (fun t k => st126 t k) ?_
  show own_Fin _ _ _ _ _ _ (T126.setTop (mkF m 4 #[.val (.ref a1)] [.null]))
  refine own_to (fun t k => XS.ifnullYes X126.here hx rfl (pc0 := 4) (pc' := 20) rfl (hb hby own_d6_4) rfl (by decide) (by decide) k) ?_
  show own_Fin _ _ _ _ _ _ (T126.setTop (mkF m 20 #[.val (.ref a1)] []))
  refine own_to (fun t k => XS.iconst X126.here hx rfl (hb hby own_d6_20) k) ?_
  show own_Fin _ _ _ _ _ _ (T126.setTop (mkF m 21 #[.val (.ref a1)] [(.int (0 : Int32))]))
  refine own_retN X126 hx hlk (t := .boolean) hret (by simp) (hb hby own_d6_21) (by decide) (by decide) ?_
  try rw [e126]
  exact ⟨rfl, N0, rfl⟩
def own_tu (q1 : Int64) : Int32 := (if q1 < (0 : Int64) then (0 : Int32) else (1 : Int32))
theorem own_tuR_ef (m : MethodId) (a1 : Addr) : entryFrame m #[(.ref a1)] 1 = mkF m 0 #[.val (.ref a1)] [] := by first | (simp [entryFrame, mkF, argsToLocals, Value.category]; done) | rfl
set_option maxRecDepth 65536 in
set_option maxHeartbeats 40000000 in
theorem own_tuR (l : Launch) (Z : State) (a0 : Array Value) (hw : ∀ d ∈ tables_1, d.before a0 Z = true) (ws : List Jvm.Cond) (a1 : Addr) (w0 : Addr) (q1 : Int64) (h0 : Heap) (n0 : Nat) (Z0 : n0 ≤ h0.size) (F1 : Fld Z h0 a1 "com/example/deft_lock/deftlock/service/ServerInfo" "runId" "Ljava/lang/String;" (.ref w0)) (F2 : Fld Z h0 a1 "com/example/deft_lock/deftlock/service/ServerInfo" "uptimeSeconds" "J" (.long q1)) :
    own_Met l Z (⟨"com/example/deft_lock/deftlock/service/ServerInfo", "tellsUptime", "()Z"⟩ : MethodName) prog_7_method_4_code 1 (some .boolean) ws ({ frames := 0, cells := 0, slots := 0, locals := 0 } : Room) #[(.ref a1)] h0 (fun v h L => v = some (.int (own_tu q1)) ∧ Fr n0 L ∧ h = h0) := by
  refine own_enter (plainFor_of_name own_pn4) ?_
  intro p e s m below meth c s₁ X0 hx hZ hby hml hown hnm hret hlk e0
  have N0 := Fr.nil n0
  rw [own_tuR_ef m a1]
  show own_Fin _ _ _ _ _ _ (s₁.setTop (mkF m 0 #[.val (.ref a1)] []))
  refine own_to (fun t k => XS.aloadN X0.here hx rfl (hb hby own_d6_0) rfl rfl k) ?_
  show own_Fin _ _ _ _ _ _ (s₁.setTop (mkF m 1 #[.val (.ref a1)] [(.ref a1)]))
  obtain ⟨T127, X127, e127, st127⟩ := getF X0 hx hZ hown (host := "") (Or.inl (hw _ (List.mem_of_getElem? (i := 21) rfl))) Via.refl e0 F1 (g := (mkF m 1 #[.val (.ref a1)] [(.ref a1)])) rfl rfl (hb hby own_d6_1)
  refine own_to (fun t k => st127 t k) ?_
  show own_Fin _ _ _ _ _ _ (T127.setTop (mkF m 4 #[.val (.ref a1)] [(.ref w0)]))
  refine own_to (fun t k => XS.ifnullNo X127.here hx rfl (hb hby own_d6_4) rfl k) ?_
  show own_Fin _ _ _ _ _ _ (T127.setTop (mkF m 7 #[.val (.ref a1)] []))
  refine own_to (fun t k => XS.aloadN X127.here hx rfl (hb hby own_d6_7) rfl rfl k) ?_
  show own_Fin _ _ _ _ _ _ (T127.setTop (mkF m 8 #[.val (.ref a1)] [(.ref a1)]))
  obtain ⟨T128, X128, e128, st128⟩ := getF X127 hx hZ hown (host := "") (Or.inl (hw _ (List.mem_of_getElem? (i := 23) rfl))) Via.refl e127 F2 (g := (mkF m 8 #[.val (.ref a1)] [(.ref a1)])) rfl rfl (hb hby own_d6_8)
  refine own_to (fun t k => st128 t k) ?_
  show own_Fin _ _ _ _ _ _ (T128.setTop (mkF m 11 #[.val (.ref a1)] [(.long q1)]))
  refine own_to (fun t k => XS.lconst X128.here hx rfl (hb hby own_d6_11) k) ?_
  show own_Fin _ _ _ _ _ _ (T128.setTop (mkF m 12 #[.val (.ref a1)] [(.long (0 : Int64)), (.long q1)]))
  refine own_to (fun t k => XS.lcmp X128.here hx rfl (hb hby own_d6_12) rfl k) ?_
  show own_Fin _ _ _ _ _ _ (T128.setTop (mkF m 13 #[.val (.ref a1)] [(.int (lcmpW q1 (0 : Int64)))]))
  by_cases hc13_129 : q1 < (0 : Int64)
  ·
    show own_Fin _ _ _ _ _ _ (T128.setTop (mkF m 13 #[.val (.ref a1)] [(.int (lcmpW q1 (0 : Int64)))]))
    refine own_to (fun t k => XS.ifYes X128.here hx rfl (pc0 := 13) (pc' := 20) rfl (hb hby own_d6_13) rfl ((if0 _ _).trans (tlt ((lw_lt _ _).mpr hc13_129)).1) (by decide) (by decide) k) ?_
    show own_Fin _ _ _ _ _ _ (T128.setTop (mkF m 20 #[.val (.ref a1)] []))
    refine own_to (fun t k => XS.iconst X128.here hx rfl (hb hby own_d6_20) k) ?_
    show own_Fin _ _ _ _ _ _ (T128.setTop (mkF m 21 #[.val (.ref a1)] [(.int (0 : Int32))]))
    refine own_retN X128 hx hlk (t := .boolean) hret (by simp) (hb hby own_d6_21) (by decide) (by decide) ?_
    try rw [e128]
    exact ⟨congrArg (fun z => some (Value.int z)) (Eq.symm (show own_tu q1 = _ from ((if_pos hc13_129).trans rfl))), N0, rfl⟩
  ·
    show own_Fin _ _ _ _ _ _ (T128.setTop (mkF m 13 #[.val (.ref a1)] [(.int (lcmpW q1 (0 : Int64)))]))
    refine own_to (fun t k => XS.ifNo X128.here hx rfl (hb hby own_d6_13) rfl ((if0 _ _).trans (flt (fun z => hc13_129 ((lw_lt _ _).mp z))).1) k) ?_
    show own_Fin _ _ _ _ _ _ (T128.setTop (mkF m 16 #[.val (.ref a1)] []))
    refine own_to (fun t k => XS.iconst X128.here hx rfl (hb hby own_d6_16) k) ?_
    show own_Fin _ _ _ _ _ _ (T128.setTop (mkF m 17 #[.val (.ref a1)] [(.int (1 : Int32))]))
    refine own_to (fun t k => XS.goto X128.here hx rfl (pc0 := 17) (pc' := 21) rfl (hb hby own_d6_17) (by decide) (by decide) k) ?_
    show own_Fin _ _ _ _ _ _ (T128.setTop (mkF m 21 #[.val (.ref a1)] [(.int (1 : Int32))]))
    refine own_retN X128 hx hlk (t := .boolean) hret (by simp) (hb hby own_d6_21) (by decide) (by decide) ?_
    try rw [e128]
    exact ⟨congrArg (fun z => some (Value.int z)) (Eq.symm (show own_tu q1 = _ from ((if_neg hc13_129).trans rfl))), N0, rfl⟩
theorem own_neg (u : Int64) : (((u.toUInt64 >>> ((63 : Int32) &&& 0x3f).toInt64.toUInt64).toInt64) = (0 : Int64)) ↔ ¬ u < 0 := by
  have e : (((u.toUInt64 >>> ((63 : Int32) &&& 0x3f).toInt64.toUInt64).toInt64)).toBitVec = u.toBitVec >>> 63 := by
    show (u.toUInt64 >>> ((63 : Int32) &&& 0x3f).toInt64.toUInt64).toBitVec = _
    rw [UInt64.toBitVec_shiftRight, show ((63 : Int32) &&& 0x3f).toInt64.toUInt64.toBitVec % 64 = 63#64 from by decide, BitVec.ushiftRight_eq']
    rfl
  have hs : (u < 0) ↔ u.toBitVec.getLsbD 63 = true := by
    have h : u.toBitVec.msb = u.toBitVec.getLsbD 63 := BitVec.msb_eq_getLsbD_last _
    rw [← h, BitVec.msb_eq_toInt, decide_eq_true_eq, Int64.lt_iff_toInt_lt, Int64.toInt_zero]
    rfl
  rw [← Int64.toBitVec_inj, e, hs]
  constructor
  · intro h
    have h2 := congrArg (fun z => BitVec.getLsbD z 0) h
    simp only [BitVec.getLsbD_ushiftRight] at h2
    intro q
    rw [Nat.add_zero, q] at h2
    exact absurd h2 (by decide)
  · intro h
    apply BitVec.eq_of_getLsbD_eq
    intro i hi
    rw [BitVec.getLsbD_ushiftRight]
    by_cases h0 : i = 0
    · subst h0
      rw [Nat.add_zero, (Bool.not_eq_true _).mp h]
      decide
    · rw [BitVec.getLsbD_of_ge _ _ (by omega)]
      simp
theorem own_tu1 {u : Int64} (h : ¬ u < 0) : own_tu u = 1 := if_neg h
theorem own_tu0 {u : Int64} (h : ¬ ¬ u < 0) : own_tu u = 0 := if_pos (Classical.not_not.mp h)
theorem own_pd6 : parseMethodDescriptor "(III)Ljava/lang/String;" = some ⟨[.int, .int, .int], some (.object "java/lang/String")⟩ := by decide +kernel
theorem own_pd7 : parseMethodDescriptor "(IJ)J" = some ⟨[.int, .long], some .long⟩ := by decide +kernel
theorem own_pd8 : parseMethodDescriptor "(Ljava/lang/String;JJLjava/lang/String;Ljava/lang/String;J)V" = some ⟨[(.object "java/lang/String"), .long, .long, (.object "java/lang/String"), (.object "java/lang/String"), .long], none⟩ := by decide +kernel
theorem own_pd9 : parseMethodDescriptor "()Z" = some ⟨[], some .boolean⟩ := by decide +kernel
theorem own_rm0_ef (m : MethodId) (p1 : Int32) (q1 : Int64) (q2 : Int64) (q3 : Int64) (p5 : Int32) (p6 : Int32) : entryFrame m #[(.int p1), (.long q1), (.long q2), (.long q3), (.int p5), (.int p6)] maxLocals = mkF m 0 #[.val (.int p1), .val (.long q1), .second, .val (.long q2), .second, .val (.long q3), .second, .val (.int p5), .val (.int p6), .unset, .unset, .unset, .unset, .unset, .unset, .unset, .unset, .unset, .unset] [] := by first | (simp [entryFrame, mkF, argsToLocals, Value.category, maxLocals]; done) | rfl
set_option maxRecDepth 65536 in
set_option maxHeartbeats 40000000 in
theorem own_rm0 (l : Launch) (Z : State) (a0 : Array Value) (hw : ∀ d ∈ tables_1, d.before a0 Z = true) (ws : List Jvm.Cond) (cs : Int32) (p1 : Int32) (q1 : Int64) (q2 : Int64) (q3 : Int64) (p5 : Int32) (p6 : Int32) (h0 : Heap) (n0 : Nat) (Z0 : n0 ≤ h0.size) (O0 : Old Z n0 h0) (SS : Sta Z Z.heap "java/lang/String" "COMPACT_STRINGS" "Z" (.int cs)) (hcs : ¬ cs = (0 : Int32)) :
    own_MetH l Z own_EL [] x code maxLocals ret ws room_1 #[(.int p1), (.long q1), (.long q2), (.long q3), (.int p5), (.int p6)] h0 (fun v h L => v = some (.int 1) ∧ Fr n0 L) := by
  refine own_enterH (plainFor_of_name own_pn2) ?_
  intro p e s vm0 m below meth c s₁ X0 hx hZ hby hml hown hnm hret hlk hS hH hR hxs e0
  have hEL := own_EW hw
  have N0 := Fr.nil n0
  rw [own_rm0_ef m p1 q1 q2 q3 p5 p6]
  show own_FinH _ _ _ _ _ _ _ _ (s₁.setTop (mkF m 0 #[.val (.int p1), .val (.long q1), .second, .val (.long q2), .second, .val (.long q3), .second, .val (.int p5), .val (.int p6), .unset, .unset, .unset, .unset, .unset, .unset, .unset, .unset, .unset, .unset] []))
  refine own_toH (fun t k => XS.iloadN X0.here hx rfl (hb hby at_0) rfl k) ?_
  show own_FinH _ _ _ _ _ _ _ _ (s₁.setTop (mkF m 1 #[.val (.int p1), .val (.long q1), .second, .val (.long q2), .second, .val (.long q3), .second, .val (.int p5), .val (.int p6), .unset, .unset, .unset, .unset, .unset, .unset, .unset, .unset, .unset, .unset] [(.int p1)]))
  refine own_toH (fun t k => XS.iconst X0.here hx rfl (hb hby at_1) k) ?_
  show own_FinH _ _ _ _ _ _ _ _ (s₁.setTop (mkF m 2 #[.val (.int p1), .val (.long q1), .second, .val (.long q2), .second, .val (.long q3), .second, .val (.int p5), .val (.int p6), .unset, .unset, .unset, .unset, .unset, .unset, .unset, .unset, .unset, .unset] [(.int (3 : Int32)), (.int p1)]))
  refine own_toH (fun t k => XS.iand X0.here hx rfl (hb hby at_2) rfl k) ?_
  show own_FinH _ _ _ _ _ _ _ _ (s₁.setTop (mkF m 3 #[.val (.int p1), .val (.long q1), .second, .val (.long q2), .second, .val (.long q3), .second, .val (.int p5), .val (.int p6), .unset, .unset, .unset, .unset, .unset, .unset, .unset, .unset, .unset, .unset] [(.int (p1 &&& (3 : Int32)))]))
  refine own_toH (fun t k => XS.istore X0.here hx rfl (hb hby at_3) rfl (l' := #[.val (.int p1), .val (.long q1), .second, .val (.long q2), .second, .val (.long q3), .second, .val (.int p5), .val (.int p6), .val (.int (p1 &&& (3 : Int32))), .unset, .unset, .unset, .unset, .unset, .unset, .unset, .unset, .unset]) rfl k) ?_
  show own_FinH _ _ _ _ _ _ _ _ (s₁.setTop (mkF m 5 #[.val (.int p1), .val (.long q1), .second, .val (.long q2), .second, .val (.long q3), .second, .val (.int p5), .val (.int p6), .val (.int (p1 &&& (3 : Int32))), .unset, .unset, .unset, .unset, .unset, .unset, .unset, .unset, .unset] []))
  refine own_toH (fun t k => XS.iload X0.here hx rfl (hb hby at_5) rfl k) ?_
  show own_FinH _ _ _ _ _ _ _ _ (s₁.setTop (mkF m 7 #[.val (.int p1), .val (.long q1), .second, .val (.long q2), .second, .val (.long q3), .second, .val (.int p5), .val (.int p6), .val (.int (p1 &&& (3 : Int32))), .unset, .unset, .unset, .unset, .unset, .unset, .unset, .unset, .unset] [(.int (p1 &&& (3 : Int32)))]))
  refine own_toH (fun t k => XS.iload X0.here hx rfl (hb hby at_7) rfl k) ?_
  show own_FinH _ _ _ _ _ _ _ _ (s₁.setTop (mkF m 9 #[.val (.int p1), .val (.long q1), .second, .val (.long q2), .second, .val (.long q3), .second, .val (.int p5), .val (.int p6), .val (.int (p1 &&& (3 : Int32))), .unset, .unset, .unset, .unset, .unset, .unset, .unset, .unset, .unset] [(.int p5), (.int (p1 &&& (3 : Int32)))]))
  refine own_toH (fun t k => XS.iload X0.here hx rfl (hb hby at_9) rfl k) ?_
  show own_FinH _ _ _ _ _ _ _ _ (s₁.setTop (mkF m 11 #[.val (.int p1), .val (.long q1), .second, .val (.long q2), .second, .val (.long q3), .second, .val (.int p5), .val (.int p6), .val (.int (p1 &&& (3 : Int32))), .unset, .unset, .unset, .unset, .unset, .unset, .unset, .unset, .unset] [(.int p6), (.int p5), (.int (p1 &&& (3 : Int32)))]))
  by_cases hf130 : (p1 &&& (3 : Int32)) = (0 : Int32)
  ·
    show own_FinH _ _ _ _ _ _ _ _ (s₁.setTop (mkF m 11 #[.val (.int p1), .val (.long q1), .second, .val (.long q2), .second, .val (.long q3), .second, .val (.int p5), .val (.int p6), .val (.int (p1 &&& (3 : Int32))), .unset, .unset, .unset, .unset, .unset, .unset, .unset, .unset, .unset] [(.int p6), (.int p5), (.int (p1 &&& (3 : Int32)))]))
    obtain ⟨_, _, ⟨T131, L131, k131, n131⟩, -, X131, ⟨Lc131, hQ131, l131, y131, z131⟩, st131⟩ := Jvm.LawKit.callS X0 hx (y := (⟨"com/example/deft_lock/deftlock/service/ServerInfoTellsUptimePinLaw", "drawn", "(III)Ljava/lang/String;"⟩ : MethodName)) hown (mvT hZ (hw _ (List.mem_of_getElem? (i := 0) rfl))) (mvT hZ (hw _ (List.mem_of_getElem? (i := 1) rfl))) (mvT hZ (hw _ (List.mem_of_getElem? (i := 2) rfl))) (mvT hZ (hw _ (List.mem_of_getElem? (i := 3) rfl))) (by decide) (own_back (W := 0) (own_drN l Z a0 hw [] (p1 &&& (3 : Int32)) p5 p6 h0 n0 Z0 hf130) hZ (hw _ (List.mem_of_getElem? (i := 3) rfl)) (hw _ (List.mem_of_getElem? (i := 2) rfl)) (by decide) (by decide)) (g := (mkF m 11 #[.val (.int p1), .val (.long q1), .second, .val (.long q2), .second, .val (.long q3), .second, .val (.int p5), .val (.int p6), .val (.int (p1 &&& (3 : Int32))), .unset, .unset, .unset, .unset, .unset, .unset, .unset, .unset, .unset] [(.int p6), (.int p5), (.int (p1 &&& (3 : Int32)))])) rfl (by rw [hml]; rfl) (argsL := [(.int (p1 &&& (3 : Int32))), (.int p5), (.int p6)]) (rest := []) (lenOf own_pd6 rfl) rfl (by show 2 * 0 + _ ≤ _; exact Nat.le_of_eq rfl) (hb hby at_11) (fun _ _ => ⟨rfl, e0, (by decide : 0 + 0 ≤ _), (by decide : 0 + 0 ≤ _)⟩)
    dsimp only [Pt.U, Pt.locs, Pt.cells, Pt.slots] at X131 l131 y131 z131 st131 hQ131
    subst l131 y131 z131
    obtain ⟨rfl, N131q, eh131⟩ := hQ131
    have N131 := Fr.app N0 N131q
    refine own_toH (fun t k => st131 t k) ?_
    show own_FinH _ _ _ _ _ _ _ _ (T131.setTop (mkF m 14 #[.val (.int p1), .val (.long q1), .second, .val (.long q2), .second, .val (.long q3), .second, .val (.int p5), .val (.int p6), .val (.int (p1 &&& (3 : Int32))), .unset, .unset, .unset, .unset, .unset, .unset, .unset, .unset, .unset] [.null]))
    refine own_toH (fun t k => XS.astore X131.here hx rfl (hb hby at_14) rfl rfl (l' := #[.val (.int p1), .val (.long q1), .second, .val (.long q2), .second, .val (.long q3), .second, .val (.int p5), .val (.int p6), .val (.int (p1 &&& (3 : Int32))), .val .null, .unset, .unset, .unset, .unset, .unset, .unset, .unset, .unset]) rfl k) ?_
    show own_FinH _ _ _ _ _ _ _ _ (T131.setTop (mkF m 16 #[.val (.int p1), .val (.long q1), .second, .val (.long q2), .second, .val (.long q3), .second, .val (.int p5), .val (.int p6), .val (.int (p1 &&& (3 : Int32))), .val .null, .unset, .unset, .unset, .unset, .unset, .unset, .unset, .unset] []))
    refine own_toH (fun t k => XS.iloadN X131.here hx rfl (hb hby at_16) rfl k) ?_
    show own_FinH _ _ _ _ _ _ _ _ (T131.setTop (mkF m 17 #[.val (.int p1), .val (.long q1), .second, .val (.long q2), .second, .val (.long q3), .second, .val (.int p5), .val (.int p6), .val (.int (p1 &&& (3 : Int32))), .val .null, .unset, .unset, .unset, .unset, .unset, .unset, .unset, .unset] [(.int p1)]))
    refine own_toH (fun t k => XS.iconst X131.here hx rfl (hb hby at_17) k) ?_
    show own_FinH _ _ _ _ _ _ _ _ (T131.setTop (mkF m 18 #[.val (.int p1), .val (.long q1), .second, .val (.long q2), .second, .val (.long q3), .second, .val (.int p5), .val (.int p6), .val (.int (p1 &&& (3 : Int32))), .val .null, .unset, .unset, .unset, .unset, .unset, .unset, .unset, .unset] [(.int (2 : Int32)), (.int p1)]))
    refine own_toH (fun t k => XS.iushr X131.here hx rfl (hb hby at_18) rfl k) ?_
    show own_FinH _ _ _ _ _ _ _ _ (T131.setTop (mkF m 19 #[.val (.int p1), .val (.long q1), .second, .val (.long q2), .second, .val (.long q3), .second, .val (.int p5), .val (.int p6), .val (.int (p1 &&& (3 : Int32))), .val .null, .unset, .unset, .unset, .unset, .unset, .unset, .unset, .unset] [(.int ((p1.toUInt32 >>> ((2 : Int32) &&& 31).toUInt32).toInt32))]))
    refine own_toH (fun t k => XS.iconst X131.here hx rfl (hb hby at_19) k) ?_
    show own_FinH _ _ _ _ _ _ _ _ (T131.setTop (mkF m 20 #[.val (.int p1), .val (.long q1), .second, .val (.long q2), .second, .val (.long q3), .second, .val (.int p5), .val (.int p6), .val (.int (p1 &&& (3 : Int32))), .val .null, .unset, .unset, .unset, .unset, .unset, .unset, .unset, .unset] [(.int (3 : Int32)), (.int ((p1.toUInt32 >>> ((2 : Int32) &&& 31).toUInt32).toInt32))]))
    refine own_toH (fun t k => XS.iand X131.here hx rfl (hb hby at_20) rfl k) ?_
    show own_FinH _ _ _ _ _ _ _ _ (T131.setTop (mkF m 21 #[.val (.int p1), .val (.long q1), .second, .val (.long q2), .second, .val (.long q3), .second, .val (.int p5), .val (.int p6), .val (.int (p1 &&& (3 : Int32))), .val .null, .unset, .unset, .unset, .unset, .unset, .unset, .unset, .unset] [(.int (((p1.toUInt32 >>> ((2 : Int32) &&& 31).toUInt32).toInt32) &&& (3 : Int32)))]))
    refine own_toH (fun t k => XS.iload X131.here hx rfl (hb hby at_21) rfl k) ?_
    show own_FinH _ _ _ _ _ _ _ _ (T131.setTop (mkF m 23 #[.val (.int p1), .val (.long q1), .second, .val (.long q2), .second, .val (.long q3), .second, .val (.int p5), .val (.int p6), .val (.int (p1 &&& (3 : Int32))), .val .null, .unset, .unset, .unset, .unset, .unset, .unset, .unset, .unset] [(.int p6), (.int (((p1.toUInt32 >>> ((2 : Int32) &&& 31).toUInt32).toInt32) &&& (3 : Int32)))]))
    refine own_toH (fun t k => XS.iload X131.here hx rfl (hb hby at_23) rfl k) ?_
    show own_FinH _ _ _ _ _ _ _ _ (T131.setTop (mkF m 25 #[.val (.int p1), .val (.long q1), .second, .val (.long q2), .second, .val (.long q3), .second, .val (.int p5), .val (.int p6), .val (.int (p1 &&& (3 : Int32))), .val .null, .unset, .unset, .unset, .unset, .unset, .unset, .unset, .unset] [(.int p5), (.int p6), (.int (((p1.toUInt32 >>> ((2 : Int32) &&& 31).toUInt32).toInt32) &&& (3 : Int32)))]))
    by_cases hf132 : (((p1.toUInt32 >>> ((2 : Int32) &&& 31).toUInt32).toInt32) &&& (3 : Int32)) = (0 : Int32)
    ·
      show own_FinH _ _ _ _ _ _ _ _ (T131.setTop (mkF m 25 #[.val (.int p1), .val (.long q1), .second, .val (.long q2), .second, .val (.long q3), .second, .val (.int p5), .val (.int p6), .val (.int (p1 &&& (3 : Int32))), .val .null, .unset, .unset, .unset, .unset, .unset, .unset, .unset, .unset] [(.int p5), (.int p6), (.int (((p1.toUInt32 >>> ((2 : Int32) &&& 31).toUInt32).toInt32) &&& (3 : Int32)))]))
      obtain ⟨_, _, ⟨T133, L133, k133, n133⟩, -, X133, ⟨Lc133, hQ133, l133, y133, z133⟩, st133⟩ := Jvm.LawKit.callS X131 hx (y := (⟨"com/example/deft_lock/deftlock/service/ServerInfoTellsUptimePinLaw", "drawn", "(III)Ljava/lang/String;"⟩ : MethodName)) hown (mvT hZ (hw _ (List.mem_of_getElem? (i := 0) rfl))) (mvT hZ (hw _ (List.mem_of_getElem? (i := 1) rfl))) (mvT hZ (hw _ (List.mem_of_getElem? (i := 2) rfl))) (mvT hZ (hw _ (List.mem_of_getElem? (i := 3) rfl))) (by decide) (own_back (W := 0) (own_drN l Z a0 hw [] (((p1.toUInt32 >>> ((2 : Int32) &&& 31).toUInt32).toInt32) &&& (3 : Int32)) p6 p5 h0 n0 Z0 hf132) hZ (hw _ (List.mem_of_getElem? (i := 3) rfl)) (hw _ (List.mem_of_getElem? (i := 2) rfl)) (by decide) (by decide)) (g := (mkF m 25 #[.val (.int p1), .val (.long q1), .second, .val (.long q2), .second, .val (.long q3), .second, .val (.int p5), .val (.int p6), .val (.int (p1 &&& (3 : Int32))), .val .null, .unset, .unset, .unset, .unset, .unset, .unset, .unset, .unset] [(.int p5), (.int p6), (.int (((p1.toUInt32 >>> ((2 : Int32) &&& 31).toUInt32).toInt32) &&& (3 : Int32)))])) rfl (by rw [hml]; rfl) (argsL := [(.int (((p1.toUInt32 >>> ((2 : Int32) &&& 31).toUInt32).toInt32) &&& (3 : Int32))), (.int p6), (.int p5)]) (rest := []) (lenOf own_pd6 rfl) rfl (by show 2 * 0 + _ ≤ _; exact Nat.le_of_eq rfl) (hb hby at_25) (fun _ _ => ⟨rfl, eh131, (by decide : 0 + 0 ≤ _), (by decide : 0 + 0 ≤ _)⟩)
      dsimp only [Pt.U, Pt.locs, Pt.cells, Pt.slots] at X133 l133 y133 z133 st133 hQ133
      subst l133 y133 z133
      obtain ⟨rfl, N133q, eh133⟩ := hQ133
      have N133 := Fr.app N131 N133q
      refine own_toH (fun t k => st133 t k) ?_
      show own_FinH _ _ _ _ _ _ _ _ (T133.setTop (mkF m 28 #[.val (.int p1), .val (.long q1), .second, .val (.long q2), .second, .val (.long q3), .second, .val (.int p5), .val (.int p6), .val (.int (p1 &&& (3 : Int32))), .val .null, .unset, .unset, .unset, .unset, .unset, .unset, .unset, .unset] [.null]))
      refine own_toH (fun t k => XS.astore X133.here hx rfl (hb hby at_28) rfl rfl (l' := #[.val (.int p1), .val (.long q1), .second, .val (.long q2), .second, .val (.long q3), .second, .val (.int p5), .val (.int p6), .val (.int (p1 &&& (3 : Int32))), .val .null, .val .null, .unset, .unset, .unset, .unset, .unset, .unset, .unset]) rfl k) ?_
      show own_FinH _ _ _ _ _ _ _ _ (T133.setTop (mkF m 30 #[.val (.int p1), .val (.long q1), .second, .val (.long q2), .second, .val (.long q3), .second, .val (.int p5), .val (.int p6), .val (.int (p1 &&& (3 : Int32))), .val .null, .val .null, .unset, .unset, .unset, .unset, .unset, .unset, .unset] []))
      refine own_toH (fun t k => XS.iloadN X133.here hx rfl (hb hby at_30) rfl k) ?_
      show own_FinH _ _ _ _ _ _ _ _ (T133.setTop (mkF m 31 #[.val (.int p1), .val (.long q1), .second, .val (.long q2), .second, .val (.long q3), .second, .val (.int p5), .val (.int p6), .val (.int (p1 &&& (3 : Int32))), .val .null, .val .null, .unset, .unset, .unset, .unset, .unset, .unset, .unset] [(.int p1)]))
      refine own_toH (fun t k => XS.iconst X133.here hx rfl (hb hby at_31) k) ?_
      show own_FinH _ _ _ _ _ _ _ _ (T133.setTop (mkF m 32 #[.val (.int p1), .val (.long q1), .second, .val (.long q2), .second, .val (.long q3), .second, .val (.int p5), .val (.int p6), .val (.int (p1 &&& (3 : Int32))), .val .null, .val .null, .unset, .unset, .unset, .unset, .unset, .unset, .unset] [(.int (4 : Int32)), (.int p1)]))
      refine own_toH (fun t k => XS.iushr X133.here hx rfl (hb hby at_32) rfl k) ?_
      show own_FinH _ _ _ _ _ _ _ _ (T133.setTop (mkF m 33 #[.val (.int p1), .val (.long q1), .second, .val (.long q2), .second, .val (.long q3), .second, .val (.int p5), .val (.int p6), .val (.int (p1 &&& (3 : Int32))), .val .null, .val .null, .unset, .unset, .unset, .unset, .unset, .unset, .unset] [(.int ((p1.toUInt32 >>> ((4 : Int32) &&& 31).toUInt32).toInt32))]))
      refine own_toH (fun t k => XS.iconst X133.here hx rfl (hb hby at_33) k) ?_
      show own_FinH _ _ _ _ _ _ _ _ (T133.setTop (mkF m 34 #[.val (.int p1), .val (.long q1), .second, .val (.long q2), .second, .val (.long q3), .second, .val (.int p5), .val (.int p6), .val (.int (p1 &&& (3 : Int32))), .val .null, .val .null, .unset, .unset, .unset, .unset, .unset, .unset, .unset] [(.int (3 : Int32)), (.int ((p1.toUInt32 >>> ((4 : Int32) &&& 31).toUInt32).toInt32))]))
      refine own_toH (fun t k => XS.iand X133.here hx rfl (hb hby at_34) rfl k) ?_
      show own_FinH _ _ _ _ _ _ _ _ (T133.setTop (mkF m 35 #[.val (.int p1), .val (.long q1), .second, .val (.long q2), .second, .val (.long q3), .second, .val (.int p5), .val (.int p6), .val (.int (p1 &&& (3 : Int32))), .val .null, .val .null, .unset, .unset, .unset, .unset, .unset, .unset, .unset] [(.int (((p1.toUInt32 >>> ((4 : Int32) &&& 31).toUInt32).toInt32) &&& (3 : Int32)))]))
      refine own_toH (fun t k => XS.iload X133.here hx rfl (hb hby at_35) rfl k) ?_
      show own_FinH _ _ _ _ _ _ _ _ (T133.setTop (mkF m 37 #[.val (.int p1), .val (.long q1), .second, .val (.long q2), .second, .val (.long q3), .second, .val (.int p5), .val (.int p6), .val (.int (p1 &&& (3 : Int32))), .val .null, .val .null, .unset, .unset, .unset, .unset, .unset, .unset, .unset] [(.int p5), (.int (((p1.toUInt32 >>> ((4 : Int32) &&& 31).toUInt32).toInt32) &&& (3 : Int32)))]))
      refine own_toH (fun t k => XS.bipush X133.here hx rfl (hb hby at_37) k) ?_
      show own_FinH _ _ _ _ _ _ _ _ (T133.setTop (mkF m 39 #[.val (.int p1), .val (.long q1), .second, .val (.long q2), .second, .val (.long q3), .second, .val (.int p5), .val (.int p6), .val (.int (p1 &&& (3 : Int32))), .val .null, .val .null, .unset, .unset, .unset, .unset, .unset, .unset, .unset] [(.int (8 : Int32)), (.int p5), (.int (((p1.toUInt32 >>> ((4 : Int32) &&& 31).toUInt32).toInt32) &&& (3 : Int32)))]))
      refine own_toH (fun t k => XS.iushr X133.here hx rfl (hb hby at_39) rfl k) ?_
      show own_FinH _ _ _ _ _ _ _ _ (T133.setTop (mkF m 40 #[.val (.int p1), .val (.long q1), .second, .val (.long q2), .second, .val (.long q3), .second, .val (.int p5), .val (.int p6), .val (.int (p1 &&& (3 : Int32))), .val .null, .val .null, .unset, .unset, .unset, .unset, .unset, .unset, .unset] [(.int ((p5.toUInt32 >>> ((8 : Int32) &&& 31).toUInt32).toInt32)), (.int (((p1.toUInt32 >>> ((4 : Int32) &&& 31).toUInt32).toInt32) &&& (3 : Int32)))]))
      refine own_toH (fun t k => XS.iload X133.here hx rfl (hb hby at_40) rfl k) ?_
      show own_FinH _ _ _ _ _ _ _ _ (T133.setTop (mkF m 42 #[.val (.int p1), .val (.long q1), .second, .val (.long q2), .second, .val (.long q3), .second, .val (.int p5), .val (.int p6), .val (.int (p1 &&& (3 : Int32))), .val .null, .val .null, .unset, .unset, .unset, .unset, .unset, .unset, .unset] [(.int p6), (.int ((p5.toUInt32 >>> ((8 : Int32) &&& 31).toUInt32).toInt32)), (.int (((p1.toUInt32 >>> ((4 : Int32) &&& 31).toUInt32).toInt32) &&& (3 : Int32)))]))
      refine own_toH (fun t k => XS.bipush X133.here hx rfl (hb hby at_42) k) ?_
      show own_FinH _ _ _ _ _ _ _ _ (T133.setTop (mkF m 44 #[.val (.int p1), .val (.long q1), .second, .val (.long q2), .second, .val (.long q3), .second, .val (.int p5), .val (.int p6), .val (.int (p1 &&& (3 : Int32))), .val .null, .val .null, .unset, .unset, .unset, .unset, .unset, .unset, .unset] [(.int (8 : Int32)), (.int p6), (.int ((p5.toUInt32 >>> ((8 : Int32) &&& 31).toUInt32).toInt32)), (.int (((p1.toUInt32 >>> ((4 : Int32) &&& 31).toUInt32).toInt32) &&& (3 : Int32)))]))
      refine own_toH (fun t k => XS.iushr X133.here hx rfl (hb hby at_44) rfl k) ?_
      show own_FinH _ _ _ _ _ _ _ _ (T133.setTop (mkF m 45 #[.val (.int p1), .val (.long q1), .second, .val (.long q2), .second, .val (.long q3), .second, .val (.int p5), .val (.int p6), .val (.int (p1 &&& (3 : Int32))), .val .null, .val .null, .unset, .unset, .unset, .unset, .unset, .unset, .unset] [(.int ((p6.toUInt32 >>> ((8 : Int32) &&& 31).toUInt32).toInt32)), (.int ((p5.toUInt32 >>> ((8 : Int32) &&& 31).toUInt32).toInt32)), (.int (((p1.toUInt32 >>> ((4 : Int32) &&& 31).toUInt32).toInt32) &&& (3 : Int32)))]))
      by_cases hf134 : (((p1.toUInt32 >>> ((4 : Int32) &&& 31).toUInt32).toInt32) &&& (3 : Int32)) = (0 : Int32)
      ·
        show own_FinH _ _ _ _ _ _ _ _ (T133.setTop (mkF m 45 #[.val (.int p1), .val (.long q1), .second, .val (.long q2), .second, .val (.long q3), .second, .val (.int p5), .val (.int p6), .val (.int (p1 &&& (3 : Int32))), .val .null, .val .null, .unset, .unset, .unset, .unset, .unset, .unset, .unset] [(.int ((p6.toUInt32 >>> ((8 : Int32) &&& 31).toUInt32).toInt32)), (.int ((p5.toUInt32 >>> ((8 : Int32) &&& 31).toUInt32).toInt32)), (.int (((p1.toUInt32 >>> ((4 : Int32) &&& 31).toUInt32).toInt32) &&& (3 : Int32)))]))
        obtain ⟨_, _, ⟨T135, L135, k135, n135⟩, -, X135, ⟨Lc135, hQ135, l135, y135, z135⟩, st135⟩ := Jvm.LawKit.callS X133 hx (y := (⟨"com/example/deft_lock/deftlock/service/ServerInfoTellsUptimePinLaw", "drawn", "(III)Ljava/lang/String;"⟩ : MethodName)) hown (mvT hZ (hw _ (List.mem_of_getElem? (i := 0) rfl))) (mvT hZ (hw _ (List.mem_of_getElem? (i := 1) rfl))) (mvT hZ (hw _ (List.mem_of_getElem? (i := 2) rfl))) (mvT hZ (hw _ (List.mem_of_getElem? (i := 3) rfl))) (by decide) (own_back (W := 0) (own_drN l Z a0 hw [] (((p1.toUInt32 >>> ((4 : Int32) &&& 31).toUInt32).toInt32) &&& (3 : Int32)) ((p5.toUInt32 >>> ((8 : Int32) &&& 31).toUInt32).toInt32) ((p6.toUInt32 >>> ((8 : Int32) &&& 31).toUInt32).toInt32) h0 n0 Z0 hf134) hZ (hw _ (List.mem_of_getElem? (i := 3) rfl)) (hw _ (List.mem_of_getElem? (i := 2) rfl)) (by decide) (by decide)) (g := (mkF m 45 #[.val (.int p1), .val (.long q1), .second, .val (.long q2), .second, .val (.long q3), .second, .val (.int p5), .val (.int p6), .val (.int (p1 &&& (3 : Int32))), .val .null, .val .null, .unset, .unset, .unset, .unset, .unset, .unset, .unset] [(.int ((p6.toUInt32 >>> ((8 : Int32) &&& 31).toUInt32).toInt32)), (.int ((p5.toUInt32 >>> ((8 : Int32) &&& 31).toUInt32).toInt32)), (.int (((p1.toUInt32 >>> ((4 : Int32) &&& 31).toUInt32).toInt32) &&& (3 : Int32)))])) rfl (by rw [hml]; rfl) (argsL := [(.int (((p1.toUInt32 >>> ((4 : Int32) &&& 31).toUInt32).toInt32) &&& (3 : Int32))), (.int ((p5.toUInt32 >>> ((8 : Int32) &&& 31).toUInt32).toInt32)), (.int ((p6.toUInt32 >>> ((8 : Int32) &&& 31).toUInt32).toInt32))]) (rest := []) (lenOf own_pd6 rfl) rfl (by show 2 * 0 + _ ≤ _; exact Nat.le_of_eq rfl) (hb hby at_45) (fun _ _ => ⟨rfl, eh133, (by decide : 0 + 0 ≤ _), (by decide : 0 + 0 ≤ _)⟩)
        dsimp only [Pt.U, Pt.locs, Pt.cells, Pt.slots] at X135 l135 y135 z135 st135 hQ135
        subst l135 y135 z135
        obtain ⟨rfl, N135q, eh135⟩ := hQ135
        have N135 := Fr.app N133 N135q
        refine own_toH (fun t k => st135 t k) ?_
        show own_FinH _ _ _ _ _ _ _ _ (T135.setTop (mkF m 48 #[.val (.int p1), .val (.long q1), .second, .val (.long q2), .second, .val (.long q3), .second, .val (.int p5), .val (.int p6), .val (.int (p1 &&& (3 : Int32))), .val .null, .val .null, .unset, .unset, .unset, .unset, .unset, .unset, .unset] [.null]))
        refine own_toH (fun t k => XS.astore X135.here hx rfl (hb hby at_48) rfl rfl (l' := #[.val (.int p1), .val (.long q1), .second, .val (.long q2), .second, .val (.long q3), .second, .val (.int p5), .val (.int p6), .val (.int (p1 &&& (3 : Int32))), .val .null, .val .null, .val .null, .unset, .unset, .unset, .unset, .unset, .unset]) rfl k) ?_
        show own_FinH _ _ _ _ _ _ _ _ (T135.setTop (mkF m 50 #[.val (.int p1), .val (.long q1), .second, .val (.long q2), .second, .val (.long q3), .second, .val (.int p5), .val (.int p6), .val (.int (p1 &&& (3 : Int32))), .val .null, .val .null, .val .null, .unset, .unset, .unset, .unset, .unset, .unset] []))
        refine own_toH (fun t k => XS.iloadN X135.here hx rfl (hb hby at_50) rfl k) ?_
        show own_FinH _ _ _ _ _ _ _ _ (T135.setTop (mkF m 51 #[.val (.int p1), .val (.long q1), .second, .val (.long q2), .second, .val (.long q3), .second, .val (.int p5), .val (.int p6), .val (.int (p1 &&& (3 : Int32))), .val .null, .val .null, .val .null, .unset, .unset, .unset, .unset, .unset, .unset] [(.int p1)]))
        refine own_toH (fun t k => XS.bipush X135.here hx rfl (hb hby at_51) k) ?_
        show own_FinH _ _ _ _ _ _ _ _ (T135.setTop (mkF m 53 #[.val (.int p1), .val (.long q1), .second, .val (.long q2), .second, .val (.long q3), .second, .val (.int p5), .val (.int p6), .val (.int (p1 &&& (3 : Int32))), .val .null, .val .null, .val .null, .unset, .unset, .unset, .unset, .unset, .unset] [(.int (6 : Int32)), (.int p1)]))
        refine own_toH (fun t k => XS.iushr X135.here hx rfl (hb hby at_53) rfl k) ?_
        show own_FinH _ _ _ _ _ _ _ _ (T135.setTop (mkF m 54 #[.val (.int p1), .val (.long q1), .second, .val (.long q2), .second, .val (.long q3), .second, .val (.int p5), .val (.int p6), .val (.int (p1 &&& (3 : Int32))), .val .null, .val .null, .val .null, .unset, .unset, .unset, .unset, .unset, .unset] [(.int ((p1.toUInt32 >>> ((6 : Int32) &&& 31).toUInt32).toInt32))]))
        refine own_toH (fun t k => XS.iconst X135.here hx rfl (hb hby at_54) k) ?_
        show own_FinH _ _ _ _ _ _ _ _ (T135.setTop (mkF m 55 #[.val (.int p1), .val (.long q1), .second, .val (.long q2), .second, .val (.long q3), .second, .val (.int p5), .val (.int p6), .val (.int (p1 &&& (3 : Int32))), .val .null, .val .null, .val .null, .unset, .unset, .unset, .unset, .unset, .unset] [(.int (3 : Int32)), (.int ((p1.toUInt32 >>> ((6 : Int32) &&& 31).toUInt32).toInt32))]))
        refine own_toH (fun t k => XS.iand X135.here hx rfl (hb hby at_55) rfl k) ?_
        show own_FinH _ _ _ _ _ _ _ _ (T135.setTop (mkF m 56 #[.val (.int p1), .val (.long q1), .second, .val (.long q2), .second, .val (.long q3), .second, .val (.int p5), .val (.int p6), .val (.int (p1 &&& (3 : Int32))), .val .null, .val .null, .val .null, .unset, .unset, .unset, .unset, .unset, .unset] [(.int (((p1.toUInt32 >>> ((6 : Int32) &&& 31).toUInt32).toInt32) &&& (3 : Int32)))]))
        refine own_toH (fun t k => XS.lloadN X135.here hx rfl (hb hby at_56) rfl k) ?_
        show own_FinH _ _ _ _ _ _ _ _ (T135.setTop (mkF m 57 #[.val (.int p1), .val (.long q1), .second, .val (.long q2), .second, .val (.long q3), .second, .val (.int p5), .val (.int p6), .val (.int (p1 &&& (3 : Int32))), .val .null, .val .null, .val .null, .unset, .unset, .unset, .unset, .unset, .unset] [(.long q1), (.int (((p1.toUInt32 >>> ((6 : Int32) &&& 31).toUInt32).toInt32) &&& (3 : Int32)))]))
        obtain ⟨_, _, ⟨T136, L136, k136, n136⟩, -, X136, ⟨Lc136, hQ136, l136, y136, z136⟩, st136⟩ := Jvm.LawKit.callS X135 hx (y := (⟨"com/example/deft_lock/deftlock/service/ServerInfoTellsUptimePinLaw", "pickUptime", "(IJ)J"⟩ : MethodName)) hown (mvT hZ (hw _ (List.mem_of_getElem? (i := 4) rfl))) (mvT hZ (hw _ (List.mem_of_getElem? (i := 5) rfl))) (mvT hZ (hw _ (List.mem_of_getElem? (i := 2) rfl))) (mvT hZ (hw _ (List.mem_of_getElem? (i := 6) rfl))) (by decide) (own_back (W := 0) (own_rm2 l Z a0 hw [] (((p1.toUInt32 >>> ((6 : Int32) &&& 31).toUInt32).toInt32) &&& (3 : Int32)) q1 h0 n0 Z0) hZ (hw _ (List.mem_of_getElem? (i := 6) rfl)) (hw _ (List.mem_of_getElem? (i := 2) rfl)) (by decide) (by decide)) (g := (mkF m 57 #[.val (.int p1), .val (.long q1), .second, .val (.long q2), .second, .val (.long q3), .second, .val (.int p5), .val (.int p6), .val (.int (p1 &&& (3 : Int32))), .val .null, .val .null, .val .null, .unset, .unset, .unset, .unset, .unset, .unset] [(.long q1), (.int (((p1.toUInt32 >>> ((6 : Int32) &&& 31).toUInt32).toInt32) &&& (3 : Int32)))])) rfl (by rw [hml]; rfl) (argsL := [(.int (((p1.toUInt32 >>> ((6 : Int32) &&& 31).toUInt32).toInt32) &&& (3 : Int32))), (.long q1)]) (rest := []) (lenOf own_pd7 rfl) rfl (by show 2 * 0 + _ ≤ _; exact Nat.le_of_eq rfl) (hb hby at_57) (fun _ _ => ⟨rfl, eh135, (by decide : 0 + 0 ≤ _), (by decide : 0 + 0 ≤ _)⟩)
        dsimp only [Pt.U, Pt.locs, Pt.cells, Pt.slots] at X136 l136 y136 z136 st136 hQ136
        subst l136 y136 z136
        obtain ⟨rfl, N136q, eh136⟩ := hQ136
        have N136 := Fr.app N135 N136q
        refine own_toH (fun t k => st136 t k) ?_
        show own_FinH _ _ _ _ _ _ _ _ (T136.setTop (mkF m 60 #[.val (.int p1), .val (.long q1), .second, .val (.long q2), .second, .val (.long q3), .second, .val (.int p5), .val (.int p6), .val (.int (p1 &&& (3 : Int32))), .val .null, .val .null, .val .null, .unset, .unset, .unset, .unset, .unset, .unset] [(.long (own_pick (((p1.toUInt32 >>> ((6 : Int32) &&& 31).toUInt32).toInt32) &&& (3 : Int32)) q1))]))
        obtain ⟨u, eu⟩ : ∃ z, z = (own_pick (((p1.toUInt32 >>> ((6 : Int32) &&& 31).toUInt32).toInt32) &&& (3 : Int32)) q1) := ⟨_, rfl⟩
        rw [← eu]
        show own_FinH _ _ _ _ _ _ _ _ (T136.setTop (mkF m 60 #[.val (.int p1), .val (.long q1), .second, .val (.long q2), .second, .val (.long q3), .second, .val (.int p5), .val (.int p6), .val (.int (p1 &&& (3 : Int32))), .val .null, .val .null, .val .null, .unset, .unset, .unset, .unset, .unset, .unset] [(.long u)]))
        refine own_toH (fun t k => XS.lstore X136.here hx rfl (hb hby at_60) rfl (l' := #[.val (.int p1), .val (.long q1), .second, .val (.long q2), .second, .val (.long q3), .second, .val (.int p5), .val (.int p6), .val (.int (p1 &&& (3 : Int32))), .val .null, .val .null, .val .null, .val (.long u), .second, .unset, .unset, .unset, .unset]) rfl k) ?_
        show own_FinH _ _ _ _ _ _ _ _ (T136.setTop (mkF m 62 #[.val (.int p1), .val (.long q1), .second, .val (.long q2), .second, .val (.long q3), .second, .val (.int p5), .val (.int p6), .val (.int (p1 &&& (3 : Int32))), .val .null, .val .null, .val .null, .val (.long u), .second, .unset, .unset, .unset, .unset] []))
        obtain ⟨T137, h137, X137, e137, E137, A137, D137, U137, st137⟩ := newO X136 hx hZ hown (hw _ (List.mem_of_getElem? (i := 7) rfl)) (hw _ (List.mem_of_getElem? (i := 8) rfl)) (hw _ (List.mem_of_getElem? (i := 9) rfl)) eh136 (g := (mkF m 62 #[.val (.int p1), .val (.long q1), .second, .val (.long q2), .second, .val (.long q3), .second, .val (.int p5), .val (.int p6), .val (.int (p1 &&& (3 : Int32))), .val .null, .val .null, .val .null, .val (.long u), .second, .unset, .unset, .unset, .unset] [])) rfl (hb hby at_62) (by decide) (by decide)
        obtain ⟨b137, q137⟩ : ∃ z, z = h0.size := ⟨_, rfl⟩
        rw [← q137] at A137 D137 U137 st137
        have g_b137 : n0 ≤ b137 := Nat.le_trans Z0 (Nat.le_of_eq q137.symm)
        have Sn_b137 : Safe Z own_EL _ h137 b137 := Safe.ext E137 hH (Safe.new (Nat.le_of_eq q137.symm))
        have hR137 := hR.trans (CHr.ext E137 hH)
        have hH137 := hH.ext E137
        have O137 := O0.ext E137
        have FnrunId_137 : Fld Z h137 b137 "com/example/deft_lock/deftlock/service/ServerInfo" "runId" "Ljava/lang/String;" .null := D137 (Or.inr (hw _ (List.mem_of_getElem? (i := 22) rfl))) (ty := (.object "java/lang/String")) (by decide)
        have FnuptimeSeconds_137 : Fld Z h137 b137 "com/example/deft_lock/deftlock/service/ServerInfo" "uptimeSeconds" "J" (.long (0 : Int64)) := D137 (Or.inr (hw _ (List.mem_of_getElem? (i := 24) rfl))) (ty := .long) (by decide)
        have FnclockMicros_137 : Fld Z h137 b137 "com/example/deft_lock/deftlock/service/ServerInfo" "clockMicros" "J" (.long (0 : Int64)) := D137 (Or.inr (hw _ (List.mem_of_getElem? (i := 26) rfl))) (ty := .long) (by decide)
        have Fnrole_137 : Fld Z h137 b137 "com/example/deft_lock/deftlock/service/ServerInfo" "role" "Ljava/lang/String;" .null := D137 (Or.inr (hw _ (List.mem_of_getElem? (i := 28) rfl))) (ty := (.object "java/lang/String")) (by decide)
        have Fnmaster_137 : Fld Z h137 b137 "com/example/deft_lock/deftlock/service/ServerInfo" "master" "Ljava/lang/String;" .null := D137 (Or.inr (hw _ (List.mem_of_getElem? (i := 30) rfl))) (ty := (.object "java/lang/String")) (by decide)
        have FnconnectedReplicas_137 : Fld Z h137 b137 "com/example/deft_lock/deftlock/service/ServerInfo" "connectedReplicas" "J" (.long (0 : Int64)) := D137 (Or.inr (hw _ (List.mem_of_getElem? (i := 32) rfl))) (ty := .long) (by decide)
        refine own_toH (fun t k => st137 t k) ?_
        show own_FinH _ _ _ _ _ _ _ _ (T137.setTop (mkF m 65 #[.val (.int p1), .val (.long q1), .second, .val (.long q2), .second, .val (.long q3), .second, .val (.int p5), .val (.int p6), .val (.int (p1 &&& (3 : Int32))), .val .null, .val .null, .val .null, .val (.long u), .second, .unset, .unset, .unset, .unset] [(.ref b137)]))
        refine own_toH (fun t k => XS.dup X137.here hx rfl (hb hby at_65) rfl rfl k) ?_
        show own_FinH _ _ _ _ _ _ _ _ (T137.setTop (mkF m 66 #[.val (.int p1), .val (.long q1), .second, .val (.long q2), .second, .val (.long q3), .second, .val (.int p5), .val (.int p6), .val (.int (p1 &&& (3 : Int32))), .val .null, .val .null, .val .null, .val (.long u), .second, .unset, .unset, .unset, .unset] [(.ref b137), (.ref b137)]))
        refine own_toH (fun t k => XS.aload X137.here hx rfl (hb hby at_66) rfl rfl k) ?_
        show own_FinH _ _ _ _ _ _ _ _ (T137.setTop (mkF m 68 #[.val (.int p1), .val (.long q1), .second, .val (.long q2), .second, .val (.long q3), .second, .val (.int p5), .val (.int p6), .val (.int (p1 &&& (3 : Int32))), .val .null, .val .null, .val .null, .val (.long u), .second, .unset, .unset, .unset, .unset] [.null, (.ref b137), (.ref b137)]))
        refine own_toH (fun t k => XS.lload X137.here hx rfl (hb hby at_68) rfl k) ?_
        show own_FinH _ _ _ _ _ _ _ _ (T137.setTop (mkF m 70 #[.val (.int p1), .val (.long q1), .second, .val (.long q2), .second, .val (.long q3), .second, .val (.int p5), .val (.int p6), .val (.int (p1 &&& (3 : Int32))), .val .null, .val .null, .val .null, .val (.long u), .second, .unset, .unset, .unset, .unset] [(.long u), .null, (.ref b137), (.ref b137)]))
        refine own_toH (fun t k => XS.lloadN X137.here hx rfl (hb hby at_70) rfl k) ?_
        show own_FinH _ _ _ _ _ _ _ _ (T137.setTop (mkF m 71 #[.val (.int p1), .val (.long q1), .second, .val (.long q2), .second, .val (.long q3), .second, .val (.int p5), .val (.int p6), .val (.int (p1 &&& (3 : Int32))), .val .null, .val .null, .val .null, .val (.long u), .second, .unset, .unset, .unset, .unset] [(.long q2), (.long u), .null, (.ref b137), (.ref b137)]))
        refine own_toH (fun t k => XS.aload X137.here hx rfl (hb hby at_71) rfl rfl k) ?_
        show own_FinH _ _ _ _ _ _ _ _ (T137.setTop (mkF m 73 #[.val (.int p1), .val (.long q1), .second, .val (.long q2), .second, .val (.long q3), .second, .val (.int p5), .val (.int p6), .val (.int (p1 &&& (3 : Int32))), .val .null, .val .null, .val .null, .val (.long u), .second, .unset, .unset, .unset, .unset] [.null, (.long q2), (.long u), .null, (.ref b137), (.ref b137)]))
        refine own_toH (fun t k => XS.aload X137.here hx rfl (hb hby at_73) rfl rfl k) ?_
        show own_FinH _ _ _ _ _ _ _ _ (T137.setTop (mkF m 75 #[.val (.int p1), .val (.long q1), .second, .val (.long q2), .second, .val (.long q3), .second, .val (.int p5), .val (.int p6), .val (.int (p1 &&& (3 : Int32))), .val .null, .val .null, .val .null, .val (.long u), .second, .unset, .unset, .unset, .unset] [.null, .null, (.long q2), (.long u), .null, (.ref b137), (.ref b137)]))
        refine own_toH (fun t k => XS.lload X137.here hx rfl (hb hby at_75) rfl k) ?_
        show own_FinH _ _ _ _ _ _ _ _ (T137.setTop (mkF m 77 #[.val (.int p1), .val (.long q1), .second, .val (.long q2), .second, .val (.long q3), .second, .val (.int p5), .val (.int p6), .val (.int (p1 &&& (3 : Int32))), .val .null, .val .null, .val .null, .val (.long u), .second, .unset, .unset, .unset, .unset] [(.long q3), .null, .null, (.long q2), (.long u), .null, (.ref b137), (.ref b137)]))
        obtain ⟨_, _, ⟨T138, L138, k138, n138⟩, -, X138, ⟨Lc138, hQ138, l138, y138, z138⟩, st138⟩ := X137.specialBack hx (y := (⟨"com/example/deft_lock/deftlock/service/ServerInfo", "<init>", "(Ljava/lang/String;JJLjava/lang/String;Ljava/lang/String;J)V"⟩ : MethodName)) rfl hown (mvT hZ (hw _ (List.mem_of_getElem? (i := 10) rfl))) (mvT hZ (hw _ (List.mem_of_getElem? (i := 11) rfl))) (mvT hZ (hw _ (List.mem_of_getElem? (i := 12) rfl))) (by decide) (own_back (W := 1) (own_si0 l Z a0 hw [] b137 u q2 q3  h137 n0 (Nat.le_trans Z0 E137.1) A137 FnrunId_137 FnuptimeSeconds_137 FnclockMicros_137 Fnrole_137 Fnmaster_137 FnconnectedReplicas_137 g_b137) hZ (hw _ (List.mem_of_getElem? (i := 12) rfl)) (hw _ (List.mem_of_getElem? (i := 9) rfl)) (by decide) (by decide)) (g := (mkF m 77 #[.val (.int p1), .val (.long q1), .second, .val (.long q2), .second, .val (.long q3), .second, .val (.int p5), .val (.int p6), .val (.int (p1 &&& (3 : Int32))), .val .null, .val .null, .val .null, .val (.long u), .second, .unset, .unset, .unset, .unset] [(.long q3), .null, .null, (.long q2), (.long u), .null, (.ref b137), (.ref b137)])) rfl (by rw [hml]; rfl) (Steps.refl _) (a := b137) (argsL := [.null, (.long u), (.long q2), .null, .null, (.long q3)]) (rest := [(.ref b137)]) (lenOf own_pd8 rfl) rfl (by show 2 * 0 + _ ≤ _; exact Nat.le_of_eq rfl) (hb hby at_77) (fun _ _ => ⟨rfl, e137, (by decide : 1 + 0 ≤ _), (by decide : 6 + 0 ≤ _)⟩)
        dsimp only [Pt.U, Pt.locs, Pt.cells, Pt.slots] at X138 l138 y138 z138 st138 hQ138
        subst l138 y138 z138
        obtain ⟨rfl, N138q, K138, Fr1, Fu1⟩ := hQ138
        have N138 := Fr.app N136 N138q
        have hR138 := hR137.trans (CHr.keep K138 (sfS Sn_b137 sf0) hH137)
        have hH138 := CHv.keep K138 (sfS Sn_b137 sf0) hH137
        have Sf_b137_138 := Safe.keep K138 (sfS Sn_b137 sf0) hH137 Sn_b137
        have O138 := O137.keep K138 (allS g_b137 all0)
        have A137_e138 := A137.keep K138
        refine own_toH (fun t k => st138.trans k) ?_
        show own_FinH _ _ _ _ _ _ _ _ (T138.setTop (mkF m 80 #[.val (.int p1), .val (.long q1), .second, .val (.long q2), .second, .val (.long q3), .second, .val (.int p5), .val (.int p6), .val (.int (p1 &&& (3 : Int32))), .val .null, .val .null, .val .null, .val (.long u), .second, .unset, .unset, .unset, .unset] [(.ref b137)]))
        refine own_toH (fun t k => XS.astore X138.here hx rfl (hb hby at_80) rfl rfl (l' := #[.val (.int p1), .val (.long q1), .second, .val (.long q2), .second, .val (.long q3), .second, .val (.int p5), .val (.int p6), .val (.int (p1 &&& (3 : Int32))), .val .null, .val .null, .val .null, .val (.long u), .second, .val (.ref b137), .unset, .unset, .unset]) rfl k) ?_
        show own_FinH _ _ _ _ _ _ _ _ (T138.setTop (mkF m 82 #[.val (.int p1), .val (.long q1), .second, .val (.long q2), .second, .val (.long q3), .second, .val (.int p5), .val (.int p6), .val (.int (p1 &&& (3 : Int32))), .val .null, .val .null, .val .null, .val (.long u), .second, .val (.ref b137), .unset, .unset, .unset] []))
        refine own_toH (fun t k => XS.iload X138.here hx rfl (hb hby at_82) rfl k) ?_
        show own_FinH _ _ _ _ _ _ _ _ (T138.setTop (mkF m 84 #[.val (.int p1), .val (.long q1), .second, .val (.long q2), .second, .val (.long q3), .second, .val (.int p5), .val (.int p6), .val (.int (p1 &&& (3 : Int32))), .val .null, .val .null, .val .null, .val (.long u), .second, .val (.ref b137), .unset, .unset, .unset] [(.int (p1 &&& (3 : Int32)))]))
        refine own_toH (fun t k => XS.ifYes X138.here hx rfl (pc0 := 84) (pc' := 91) rfl (hb hby at_84) rfl ((if0 _ _).trans (teq hf130).1) (by decide) (by decide) k) ?_
        show own_FinH _ _ _ _ _ _ _ _ (T138.setTop (mkF m 91 #[.val (.int p1), .val (.long q1), .second, .val (.long q2), .second, .val (.long q3), .second, .val (.int p5), .val (.int p6), .val (.int (p1 &&& (3 : Int32))), .val .null, .val .null, .val .null, .val (.long u), .second, .val (.ref b137), .unset, .unset, .unset] []))
        refine own_toH (fun t k => XS.iconst X138.here hx rfl (hb hby at_91) k) ?_
        show own_FinH _ _ _ _ _ _ _ _ (T138.setTop (mkF m 92 #[.val (.int p1), .val (.long q1), .second, .val (.long q2), .second, .val (.long q3), .second, .val (.int p5), .val (.int p6), .val (.int (p1 &&& (3 : Int32))), .val .null, .val .null, .val .null, .val (.long u), .second, .val (.ref b137), .unset, .unset, .unset] [(.int (0 : Int32))]))
        refine own_toH (fun t k => XS.istore X138.here hx rfl (hb hby at_92) rfl (l' := #[.val (.int p1), .val (.long q1), .second, .val (.long q2), .second, .val (.long q3), .second, .val (.int p5), .val (.int p6), .val (.int (p1 &&& (3 : Int32))), .val .null, .val .null, .val .null, .val (.long u), .second, .val (.ref b137), .val (.int (0 : Int32)), .unset, .unset]) rfl k) ?_
        show own_FinH _ _ _ _ _ _ _ _ (T138.setTop (mkF m 94 #[.val (.int p1), .val (.long q1), .second, .val (.long q2), .second, .val (.long q3), .second, .val (.int p5), .val (.int p6), .val (.int (p1 &&& (3 : Int32))), .val .null, .val .null, .val .null, .val (.long u), .second, .val (.ref b137), .val (.int (0 : Int32)), .unset, .unset] []))
        refine own_toH (fun t k => XS.lload X138.here hx rfl (hb hby at_94) rfl k) ?_
        show own_FinH _ _ _ _ _ _ _ _ (T138.setTop (mkF m 96 #[.val (.int p1), .val (.long q1), .second, .val (.long q2), .second, .val (.long q3), .second, .val (.int p5), .val (.int p6), .val (.int (p1 &&& (3 : Int32))), .val .null, .val .null, .val .null, .val (.long u), .second, .val (.ref b137), .val (.int (0 : Int32)), .unset, .unset] [(.long u)]))
        refine own_toH (fun t k => XS.bipush X138.here hx rfl (hb hby at_96) k) ?_
        show own_FinH _ _ _ _ _ _ _ _ (T138.setTop (mkF m 98 #[.val (.int p1), .val (.long q1), .second, .val (.long q2), .second, .val (.long q3), .second, .val (.int p5), .val (.int p6), .val (.int (p1 &&& (3 : Int32))), .val .null, .val .null, .val .null, .val (.long u), .second, .val (.ref b137), .val (.int (0 : Int32)), .unset, .unset] [(.int (63 : Int32)), (.long u)]))
        refine own_toH (fun t k => XS.lushr X138.here hx rfl (hb hby at_98) rfl k) ?_
        show own_FinH _ _ _ _ _ _ _ _ (T138.setTop (mkF m 99 #[.val (.int p1), .val (.long q1), .second, .val (.long q2), .second, .val (.long q3), .second, .val (.int p5), .val (.int p6), .val (.int (p1 &&& (3 : Int32))), .val .null, .val .null, .val .null, .val (.long u), .second, .val (.ref b137), .val (.int (0 : Int32)), .unset, .unset] [(.long ((u.toUInt64 >>> ((63 : Int32) &&& 0x3f).toInt64.toUInt64).toInt64))]))
        refine own_toH (fun t k => XS.lconst X138.here hx rfl (hb hby at_99) k) ?_
        show own_FinH _ _ _ _ _ _ _ _ (T138.setTop (mkF m 100 #[.val (.int p1), .val (.long q1), .second, .val (.long q2), .second, .val (.long q3), .second, .val (.int p5), .val (.int p6), .val (.int (p1 &&& (3 : Int32))), .val .null, .val .null, .val .null, .val (.long u), .second, .val (.ref b137), .val (.int (0 : Int32)), .unset, .unset] [(.long (0 : Int64)), (.long ((u.toUInt64 >>> ((63 : Int32) &&& 0x3f).toInt64.toUInt64).toInt64))]))
        refine own_toH (fun t k => XS.lcmp X138.here hx rfl (hb hby at_100) rfl k) ?_
        show own_FinH _ _ _ _ _ _ _ _ (T138.setTop (mkF m 101 #[.val (.int p1), .val (.long q1), .second, .val (.long q2), .second, .val (.long q3), .second, .val (.int p5), .val (.int p6), .val (.int (p1 &&& (3 : Int32))), .val .null, .val .null, .val .null, .val (.long u), .second, .val (.ref b137), .val (.int (0 : Int32)), .unset, .unset] [(.int (lcmpW ((u.toUInt64 >>> ((63 : Int32) &&& 0x3f).toInt64.toUInt64).toInt64) (0 : Int64)))]))
        by_cases hc101_139 : ((u.toUInt64 >>> ((63 : Int32) &&& 0x3f).toInt64.toUInt64).toInt64) = (0 : Int64)
        ·
          show own_FinH _ _ _ _ _ _ _ _ (T138.setTop (mkF m 101 #[.val (.int p1), .val (.long q1), .second, .val (.long q2), .second, .val (.long q3), .second, .val (.int p5), .val (.int p6), .val (.int (p1 &&& (3 : Int32))), .val .null, .val .null, .val .null, .val (.long u), .second, .val (.ref b137), .val (.int (0 : Int32)), .unset, .unset] [(.int (lcmpW ((u.toUInt64 >>> ((63 : Int32) &&& 0x3f).toInt64.toUInt64).toInt64) (0 : Int64)))]))
          refine own_toH (fun t k => XS.ifNo X138.here hx rfl (hb hby at_101) rfl ((if0 _ _).trans (teq ((lw_eq _ _).mpr hc101_139)).2) k) ?_
          show own_FinH _ _ _ _ _ _ _ _ (T138.setTop (mkF m 104 #[.val (.int p1), .val (.long q1), .second, .val (.long q2), .second, .val (.long q3), .second, .val (.int p5), .val (.int p6), .val (.int (p1 &&& (3 : Int32))), .val .null, .val .null, .val .null, .val (.long u), .second, .val (.ref b137), .val (.int (0 : Int32)), .unset, .unset] []))
          refine own_toH (fun t k => XS.iconst X138.here hx rfl (hb hby at_104) k) ?_
          show own_FinH _ _ _ _ _ _ _ _ (T138.setTop (mkF m 105 #[.val (.int p1), .val (.long q1), .second, .val (.long q2), .second, .val (.long q3), .second, .val (.int p5), .val (.int p6), .val (.int (p1 &&& (3 : Int32))), .val .null, .val .null, .val .null, .val (.long u), .second, .val (.ref b137), .val (.int (0 : Int32)), .unset, .unset] [(.int (1 : Int32))]))
          refine own_toH (fun t k => XS.goto X138.here hx rfl (pc0 := 105) (pc' := 109) rfl (hb hby at_105) (by decide) (by decide) k) ?_
          show own_FinH _ _ _ _ _ _ _ _ (T138.setTop (mkF m 109 #[.val (.int p1), .val (.long q1), .second, .val (.long q2), .second, .val (.long q3), .second, .val (.int p5), .val (.int p6), .val (.int (p1 &&& (3 : Int32))), .val .null, .val .null, .val .null, .val (.long u), .second, .val (.ref b137), .val (.int (0 : Int32)), .unset, .unset] [(.int (1 : Int32))]))
          refine own_toH (fun t k => XS.istore X138.here hx rfl (hb hby at_109) rfl (l' := #[.val (.int p1), .val (.long q1), .second, .val (.long q2), .second, .val (.long q3), .second, .val (.int p5), .val (.int p6), .val (.int (p1 &&& (3 : Int32))), .val .null, .val .null, .val .null, .val (.long u), .second, .val (.ref b137), .val (.int (0 : Int32)), .val (.int (1 : Int32)), .unset]) rfl k) ?_
          show own_FinH _ _ _ _ _ _ _ _ (T138.setTop (mkF m 111 #[.val (.int p1), .val (.long q1), .second, .val (.long q2), .second, .val (.long q3), .second, .val (.int p5), .val (.int p6), .val (.int (p1 &&& (3 : Int32))), .val .null, .val .null, .val .null, .val (.long u), .second, .val (.ref b137), .val (.int (0 : Int32)), .val (.int (1 : Int32)), .unset] []))
          refine own_toH (fun t k => XS.iconst X138.here hx rfl (hb hby at_111) k) ?_
          show own_FinH _ _ _ _ _ _ _ _ (T138.setTop (mkF m 112 #[.val (.int p1), .val (.long q1), .second, .val (.long q2), .second, .val (.long q3), .second, .val (.int p5), .val (.int p6), .val (.int (p1 &&& (3 : Int32))), .val .null, .val .null, .val .null, .val (.long u), .second, .val (.ref b137), .val (.int (0 : Int32)), .val (.int (1 : Int32)), .unset] [(.int (0 : Int32))]))
          refine own_toH (fun t k => XS.istore X138.here hx rfl (hb hby at_112) rfl (l' := #[.val (.int p1), .val (.long q1), .second, .val (.long q2), .second, .val (.long q3), .second, .val (.int p5), .val (.int p6), .val (.int (p1 &&& (3 : Int32))), .val .null, .val .null, .val .null, .val (.long u), .second, .val (.ref b137), .val (.int (0 : Int32)), .val (.int (1 : Int32)), .val (.int (0 : Int32))]) rfl k) ?_
          show own_FinH _ _ _ _ _ _ _ _ (T138.setTop (mkF m 114 #[.val (.int p1), .val (.long q1), .second, .val (.long q2), .second, .val (.long q3), .second, .val (.int p5), .val (.int p6), .val (.int (p1 &&& (3 : Int32))), .val .null, .val .null, .val .null, .val (.long u), .second, .val (.ref b137), .val (.int (0 : Int32)), .val (.int (1 : Int32)), .val (.int (0 : Int32))] []))
          refine own_toH (fun t k => XS.iload X138.here hx rfl (hb hby at_114) rfl k) ?_
          show own_FinH _ _ _ _ _ _ _ _ (T138.setTop (mkF m 116 #[.val (.int p1), .val (.long q1), .second, .val (.long q2), .second, .val (.long q3), .second, .val (.int p5), .val (.int p6), .val (.int (p1 &&& (3 : Int32))), .val .null, .val .null, .val .null, .val (.long u), .second, .val (.ref b137), .val (.int (0 : Int32)), .val (.int (1 : Int32)), .val (.int (0 : Int32))] [(.int (0 : Int32))]))
          refine own_toH (fun t k => XS.ifYes X138.here hx rfl (pc0 := 116) (pc' := 127) rfl (hb hby at_116) rfl ((if0 _ _).trans (teq rfl).1) (by decide) (by decide) k) ?_
          show own_FinH _ _ _ _ _ _ _ _ (T138.setTop (mkF m 127 #[.val (.int p1), .val (.long q1), .second, .val (.long q2), .second, .val (.long q3), .second, .val (.int p5), .val (.int p6), .val (.int (p1 &&& (3 : Int32))), .val .null, .val .null, .val .null, .val (.long u), .second, .val (.ref b137), .val (.int (0 : Int32)), .val (.int (1 : Int32)), .val (.int (0 : Int32))] []))
          refine own_toH (fun t k => XS.aload X138.here hx rfl (hb hby at_127) rfl rfl k) ?_
          show own_FinH _ _ _ _ _ _ _ _ (T138.setTop (mkF m 129 #[.val (.int p1), .val (.long q1), .second, .val (.long q2), .second, .val (.long q3), .second, .val (.int p5), .val (.int p6), .val (.int (p1 &&& (3 : Int32))), .val .null, .val .null, .val .null, .val (.long u), .second, .val (.ref b137), .val (.int (0 : Int32)), .val (.int (1 : Int32)), .val (.int (0 : Int32))] [(.ref b137)]))
          obtain ⟨cq140, kq140, q140a, q140b, q140c⟩ := isOf hZ rfl A137_e138
          obtain ⟨_, _, ⟨T140, L140, k140, n140⟩, -, X140, ⟨Lc140, hQ140, l140, y140, z140⟩, st140⟩ := X138.virtualBack hx (y := (⟨"com/example/deft_lock/deftlock/service/ServerInfo", "tellsUptime", "()Z"⟩ : MethodName)) (z := (⟨"com/example/deft_lock/deftlock/service/ServerInfo", "tellsUptime", "()Z"⟩ : MethodName)) hown (mvT hZ (hw _ (List.mem_of_getElem? (i := 33) rfl))) (mvT hZ (hw _ (List.mem_of_getElem? (i := 34) rfl))) (notFace_of_selects (args := #[]) (mvT hZ (hw _ (List.mem_of_getElem? (i := 36) rfl)))) (mvT hZ (hw _ (List.mem_of_getElem? (i := 36) rfl))) (mvT hZ (hw _ (List.mem_of_getElem? (i := 35) rfl))) (by decide) (own_back (W := 0) (own_tuN l Z a0 hw [] b137 T138.heap n0 (Nat.le_trans (Nat.le_trans Z0 E137.1) K138.1) Fr1) hZ (hw _ (List.mem_of_getElem? (i := 37) rfl)) (hw _ (List.mem_of_getElem? (i := 9) rfl)) (by decide) (by decide)) q140a q140c (g := (mkF m 129 #[.val (.int p1), .val (.long q1), .second, .val (.long q2), .second, .val (.long q3), .second, .val (.int p5), .val (.int p6), .val (.int (p1 &&& (3 : Int32))), .val .null, .val .null, .val .null, .val (.long u), .second, .val (.ref b137), .val (.int (0 : Int32)), .val (.int (1 : Int32)), .val (.int (0 : Int32))] [(.ref b137)])) rfl (by rw [hml]; rfl) (Steps.refl _) (argsL := []) (rest := []) (lenOf own_pd9 rfl) rfl (by show 2 * 0 + _ ≤ _; exact Nat.le_of_eq rfl) (hb hby at_129) (fun _ _ => ⟨rfl, rfl, (by decide : 1 + 0 ≤ _), (by decide : 6 + 0 ≤ _)⟩)
          dsimp only [Pt.U, Pt.locs, Pt.cells, Pt.slots] at X140 l140 y140 z140 st140 hQ140
          subst l140 y140 z140
          obtain ⟨rfl, N140q, eh140⟩ := hQ140
          have N140 := Fr.app N138 N140q
          refine own_toH (fun t k => st140.trans k) ?_
          show own_FinH _ _ _ _ _ _ _ _ (T140.setTop (mkF m 132 #[.val (.int p1), .val (.long q1), .second, .val (.long q2), .second, .val (.long q3), .second, .val (.int p5), .val (.int p6), .val (.int (p1 &&& (3 : Int32))), .val .null, .val .null, .val .null, .val (.long u), .second, .val (.ref b137), .val (.int (0 : Int32)), .val (.int (1 : Int32)), .val (.int (0 : Int32))] [(.int (0 : Int32))]))
          refine own_toH (fun t k => XS.iload X140.here hx rfl (hb hby at_132) rfl k) ?_
          show own_FinH _ _ _ _ _ _ _ _ (T140.setTop (mkF m 134 #[.val (.int p1), .val (.long q1), .second, .val (.long q2), .second, .val (.long q3), .second, .val (.int p5), .val (.int p6), .val (.int (p1 &&& (3 : Int32))), .val .null, .val .null, .val .null, .val (.long u), .second, .val (.ref b137), .val (.int (0 : Int32)), .val (.int (1 : Int32)), .val (.int (0 : Int32))] [(.int (0 : Int32)), (.int (0 : Int32))]))
          refine own_toH (fun t k => XS.icmpNo X140.here hx rfl (hb hby at_134) rfl (teq rfl).2 k) ?_
          show own_FinH _ _ _ _ _ _ _ _ (T140.setTop (mkF m 137 #[.val (.int p1), .val (.long q1), .second, .val (.long q2), .second, .val (.long q3), .second, .val (.int p5), .val (.int p6), .val (.int (p1 &&& (3 : Int32))), .val .null, .val .null, .val .null, .val (.long u), .second, .val (.ref b137), .val (.int (0 : Int32)), .val (.int (1 : Int32)), .val (.int (0 : Int32))] []))
          refine own_toH (fun t k => XS.iconst X140.here hx rfl (hb hby at_137) k) ?_
          show own_FinH _ _ _ _ _ _ _ _ (T140.setTop (mkF m 138 #[.val (.int p1), .val (.long q1), .second, .val (.long q2), .second, .val (.long q3), .second, .val (.int p5), .val (.int p6), .val (.int (p1 &&& (3 : Int32))), .val .null, .val .null, .val .null, .val (.long u), .second, .val (.ref b137), .val (.int (0 : Int32)), .val (.int (1 : Int32)), .val (.int (0 : Int32))] [(.int (1 : Int32))]))
          refine own_toH (fun t k => XS.goto X140.here hx rfl (pc0 := 138) (pc' := 142) rfl (hb hby at_138) (by decide) (by decide) k) ?_
          show own_FinH _ _ _ _ _ _ _ _ (T140.setTop (mkF m 142 #[.val (.int p1), .val (.long q1), .second, .val (.long q2), .second, .val (.long q3), .second, .val (.int p5), .val (.int p6), .val (.int (p1 &&& (3 : Int32))), .val .null, .val .null, .val .null, .val (.long u), .second, .val (.ref b137), .val (.int (0 : Int32)), .val (.int (1 : Int32)), .val (.int (0 : Int32))] [(.int (1 : Int32))]))
          refine own_retNH X140 hS (by rw [eh140]; exact (Nat.le_trans (Nat.le_trans (Nat.zero_le _) E137.1) K138.1)) hZ hEL (by rw [eh140]; exact hH138) (by rw [eh140]; exact hR138) hx hlk (t := .boolean) hret (by simp) (hb hby at_142) (by decide) (by decide) ?_
          try rw [eh140]
          exact ⟨rfl, N140⟩
        ·
          show own_FinH _ _ _ _ _ _ _ _ (T138.setTop (mkF m 101 #[.val (.int p1), .val (.long q1), .second, .val (.long q2), .second, .val (.long q3), .second, .val (.int p5), .val (.int p6), .val (.int (p1 &&& (3 : Int32))), .val .null, .val .null, .val .null, .val (.long u), .second, .val (.ref b137), .val (.int (0 : Int32)), .unset, .unset] [(.int (lcmpW ((u.toUInt64 >>> ((63 : Int32) &&& 0x3f).toInt64.toUInt64).toInt64) (0 : Int64)))]))
          refine own_toH (fun t k => XS.ifYes X138.here hx rfl (pc0 := 101) (pc' := 108) rfl (hb hby at_101) rfl ((if0 _ _).trans (feq (fun z => hc101_139 ((lw_eq _ _).mp z))).2) (by decide) (by decide) k) ?_
          show own_FinH _ _ _ _ _ _ _ _ (T138.setTop (mkF m 108 #[.val (.int p1), .val (.long q1), .second, .val (.long q2), .second, .val (.long q3), .second, .val (.int p5), .val (.int p6), .val (.int (p1 &&& (3 : Int32))), .val .null, .val .null, .val .null, .val (.long u), .second, .val (.ref b137), .val (.int (0 : Int32)), .unset, .unset] []))
          refine own_toH (fun t k => XS.iconst X138.here hx rfl (hb hby at_108) k) ?_
          show own_FinH _ _ _ _ _ _ _ _ (T138.setTop (mkF m 109 #[.val (.int p1), .val (.long q1), .second, .val (.long q2), .second, .val (.long q3), .second, .val (.int p5), .val (.int p6), .val (.int (p1 &&& (3 : Int32))), .val .null, .val .null, .val .null, .val (.long u), .second, .val (.ref b137), .val (.int (0 : Int32)), .unset, .unset] [(.int (0 : Int32))]))
          refine own_toH (fun t k => XS.istore X138.here hx rfl (hb hby at_109) rfl (l' := #[.val (.int p1), .val (.long q1), .second, .val (.long q2), .second, .val (.long q3), .second, .val (.int p5), .val (.int p6), .val (.int (p1 &&& (3 : Int32))), .val .null, .val .null, .val .null, .val (.long u), .second, .val (.ref b137), .val (.int (0 : Int32)), .val (.int (0 : Int32)), .unset]) rfl k) ?_
          show own_FinH _ _ _ _ _ _ _ _ (T138.setTop (mkF m 111 #[.val (.int p1), .val (.long q1), .second, .val (.long q2), .second, .val (.long q3), .second, .val (.int p5), .val (.int p6), .val (.int (p1 &&& (3 : Int32))), .val .null, .val .null, .val .null, .val (.long u), .second, .val (.ref b137), .val (.int (0 : Int32)), .val (.int (0 : Int32)), .unset] []))
          refine own_toH (fun t k => XS.iconst X138.here hx rfl (hb hby at_111) k) ?_
          show own_FinH _ _ _ _ _ _ _ _ (T138.setTop (mkF m 112 #[.val (.int p1), .val (.long q1), .second, .val (.long q2), .second, .val (.long q3), .second, .val (.int p5), .val (.int p6), .val (.int (p1 &&& (3 : Int32))), .val .null, .val .null, .val .null, .val (.long u), .second, .val (.ref b137), .val (.int (0 : Int32)), .val (.int (0 : Int32)), .unset] [(.int (0 : Int32))]))
          refine own_toH (fun t k => XS.istore X138.here hx rfl (hb hby at_112) rfl (l' := #[.val (.int p1), .val (.long q1), .second, .val (.long q2), .second, .val (.long q3), .second, .val (.int p5), .val (.int p6), .val (.int (p1 &&& (3 : Int32))), .val .null, .val .null, .val .null, .val (.long u), .second, .val (.ref b137), .val (.int (0 : Int32)), .val (.int (0 : Int32)), .val (.int (0 : Int32))]) rfl k) ?_
          show own_FinH _ _ _ _ _ _ _ _ (T138.setTop (mkF m 114 #[.val (.int p1), .val (.long q1), .second, .val (.long q2), .second, .val (.long q3), .second, .val (.int p5), .val (.int p6), .val (.int (p1 &&& (3 : Int32))), .val .null, .val .null, .val .null, .val (.long u), .second, .val (.ref b137), .val (.int (0 : Int32)), .val (.int (0 : Int32)), .val (.int (0 : Int32))] []))
          refine own_toH (fun t k => XS.iload X138.here hx rfl (hb hby at_114) rfl k) ?_
          show own_FinH _ _ _ _ _ _ _ _ (T138.setTop (mkF m 116 #[.val (.int p1), .val (.long q1), .second, .val (.long q2), .second, .val (.long q3), .second, .val (.int p5), .val (.int p6), .val (.int (p1 &&& (3 : Int32))), .val .null, .val .null, .val .null, .val (.long u), .second, .val (.ref b137), .val (.int (0 : Int32)), .val (.int (0 : Int32)), .val (.int (0 : Int32))] [(.int (0 : Int32))]))
          refine own_toH (fun t k => XS.ifYes X138.here hx rfl (pc0 := 116) (pc' := 127) rfl (hb hby at_116) rfl ((if0 _ _).trans (teq rfl).1) (by decide) (by decide) k) ?_
          show own_FinH _ _ _ _ _ _ _ _ (T138.setTop (mkF m 127 #[.val (.int p1), .val (.long q1), .second, .val (.long q2), .second, .val (.long q3), .second, .val (.int p5), .val (.int p6), .val (.int (p1 &&& (3 : Int32))), .val .null, .val .null, .val .null, .val (.long u), .second, .val (.ref b137), .val (.int (0 : Int32)), .val (.int (0 : Int32)), .val (.int (0 : Int32))] []))
          refine own_toH (fun t k => XS.aload X138.here hx rfl (hb hby at_127) rfl rfl k) ?_
          show own_FinH _ _ _ _ _ _ _ _ (T138.setTop (mkF m 129 #[.val (.int p1), .val (.long q1), .second, .val (.long q2), .second, .val (.long q3), .second, .val (.int p5), .val (.int p6), .val (.int (p1 &&& (3 : Int32))), .val .null, .val .null, .val .null, .val (.long u), .second, .val (.ref b137), .val (.int (0 : Int32)), .val (.int (0 : Int32)), .val (.int (0 : Int32))] [(.ref b137)]))
          obtain ⟨cq141, kq141, q141a, q141b, q141c⟩ := isOf hZ rfl A137_e138
          obtain ⟨_, _, ⟨T141, L141, k141, n141⟩, -, X141, ⟨Lc141, hQ141, l141, y141, z141⟩, st141⟩ := X138.virtualBack hx (y := (⟨"com/example/deft_lock/deftlock/service/ServerInfo", "tellsUptime", "()Z"⟩ : MethodName)) (z := (⟨"com/example/deft_lock/deftlock/service/ServerInfo", "tellsUptime", "()Z"⟩ : MethodName)) hown (mvT hZ (hw _ (List.mem_of_getElem? (i := 33) rfl))) (mvT hZ (hw _ (List.mem_of_getElem? (i := 34) rfl))) (notFace_of_selects (args := #[]) (mvT hZ (hw _ (List.mem_of_getElem? (i := 36) rfl)))) (mvT hZ (hw _ (List.mem_of_getElem? (i := 36) rfl))) (mvT hZ (hw _ (List.mem_of_getElem? (i := 35) rfl))) (by decide) (own_back (W := 0) (own_tuN l Z a0 hw [] b137 T138.heap n0 (Nat.le_trans (Nat.le_trans Z0 E137.1) K138.1) Fr1) hZ (hw _ (List.mem_of_getElem? (i := 37) rfl)) (hw _ (List.mem_of_getElem? (i := 9) rfl)) (by decide) (by decide)) q141a q141c (g := (mkF m 129 #[.val (.int p1), .val (.long q1), .second, .val (.long q2), .second, .val (.long q3), .second, .val (.int p5), .val (.int p6), .val (.int (p1 &&& (3 : Int32))), .val .null, .val .null, .val .null, .val (.long u), .second, .val (.ref b137), .val (.int (0 : Int32)), .val (.int (0 : Int32)), .val (.int (0 : Int32))] [(.ref b137)])) rfl (by rw [hml]; rfl) (Steps.refl _) (argsL := []) (rest := []) (lenOf own_pd9 rfl) rfl (by show 2 * 0 + _ ≤ _; exact Nat.le_of_eq rfl) (hb hby at_129) (fun _ _ => ⟨rfl, rfl, (by decide : 1 + 0 ≤ _), (by decide : 6 + 0 ≤ _)⟩)
          dsimp only [Pt.U, Pt.locs, Pt.cells, Pt.slots] at X141 l141 y141 z141 st141 hQ141
          subst l141 y141 z141
          obtain ⟨rfl, N141q, eh141⟩ := hQ141
          have N141 := Fr.app N138 N141q
          refine own_toH (fun t k => st141.trans k) ?_
          show own_FinH _ _ _ _ _ _ _ _ (T141.setTop (mkF m 132 #[.val (.int p1), .val (.long q1), .second, .val (.long q2), .second, .val (.long q3), .second, .val (.int p5), .val (.int p6), .val (.int (p1 &&& (3 : Int32))), .val .null, .val .null, .val .null, .val (.long u), .second, .val (.ref b137), .val (.int (0 : Int32)), .val (.int (0 : Int32)), .val (.int (0 : Int32))] [(.int (0 : Int32))]))
          refine own_toH (fun t k => XS.iload X141.here hx rfl (hb hby at_132) rfl k) ?_
          show own_FinH _ _ _ _ _ _ _ _ (T141.setTop (mkF m 134 #[.val (.int p1), .val (.long q1), .second, .val (.long q2), .second, .val (.long q3), .second, .val (.int p5), .val (.int p6), .val (.int (p1 &&& (3 : Int32))), .val .null, .val .null, .val .null, .val (.long u), .second, .val (.ref b137), .val (.int (0 : Int32)), .val (.int (0 : Int32)), .val (.int (0 : Int32))] [(.int (0 : Int32)), (.int (0 : Int32))]))
          refine own_toH (fun t k => XS.icmpNo X141.here hx rfl (hb hby at_134) rfl (teq rfl).2 k) ?_
          show own_FinH _ _ _ _ _ _ _ _ (T141.setTop (mkF m 137 #[.val (.int p1), .val (.long q1), .second, .val (.long q2), .second, .val (.long q3), .second, .val (.int p5), .val (.int p6), .val (.int (p1 &&& (3 : Int32))), .val .null, .val .null, .val .null, .val (.long u), .second, .val (.ref b137), .val (.int (0 : Int32)), .val (.int (0 : Int32)), .val (.int (0 : Int32))] []))
          refine own_toH (fun t k => XS.iconst X141.here hx rfl (hb hby at_137) k) ?_
          show own_FinH _ _ _ _ _ _ _ _ (T141.setTop (mkF m 138 #[.val (.int p1), .val (.long q1), .second, .val (.long q2), .second, .val (.long q3), .second, .val (.int p5), .val (.int p6), .val (.int (p1 &&& (3 : Int32))), .val .null, .val .null, .val .null, .val (.long u), .second, .val (.ref b137), .val (.int (0 : Int32)), .val (.int (0 : Int32)), .val (.int (0 : Int32))] [(.int (1 : Int32))]))
          refine own_toH (fun t k => XS.goto X141.here hx rfl (pc0 := 138) (pc' := 142) rfl (hb hby at_138) (by decide) (by decide) k) ?_
          show own_FinH _ _ _ _ _ _ _ _ (T141.setTop (mkF m 142 #[.val (.int p1), .val (.long q1), .second, .val (.long q2), .second, .val (.long q3), .second, .val (.int p5), .val (.int p6), .val (.int (p1 &&& (3 : Int32))), .val .null, .val .null, .val .null, .val (.long u), .second, .val (.ref b137), .val (.int (0 : Int32)), .val (.int (0 : Int32)), .val (.int (0 : Int32))] [(.int (1 : Int32))]))
          refine own_retNH X141 hS (by rw [eh141]; exact (Nat.le_trans (Nat.le_trans (Nat.zero_le _) E137.1) K138.1)) hZ hEL (by rw [eh141]; exact hH138) (by rw [eh141]; exact hR138) hx hlk (t := .boolean) hret (by simp) (hb hby at_142) (by decide) (by decide) ?_
          try rw [eh141]
          exact ⟨rfl, N141⟩
      ·
        show own_FinH _ _ _ _ _ _ _ _ (T133.setTop (mkF m 45 #[.val (.int p1), .val (.long q1), .second, .val (.long q2), .second, .val (.long q3), .second, .val (.int p5), .val (.int p6), .val (.int (p1 &&& (3 : Int32))), .val .null, .val .null, .unset, .unset, .unset, .unset, .unset, .unset, .unset] [(.int ((p6.toUInt32 >>> ((8 : Int32) &&& 31).toUInt32).toInt32)), (.int ((p5.toUInt32 >>> ((8 : Int32) &&& 31).toUInt32).toInt32)), (.int (((p1.toUInt32 >>> ((4 : Int32) &&& 31).toUInt32).toInt32) &&& (3 : Int32)))]))
        obtain ⟨_, _, ⟨T142, L142, k142, n142⟩, -, X142, S142a, S142b, ⟨Lc142, hQ142, l142, y142, z142, hC142⟩, st142⟩ := callSS X133 hx (y := (⟨"com/example/deft_lock/deftlock/service/ServerInfoTellsUptimePinLaw", "drawn", "(III)Ljava/lang/String;"⟩ : MethodName)) hown (mvT hZ (hw _ (List.mem_of_getElem? (i := 0) rfl))) (mvT hZ (hw _ (List.mem_of_getElem? (i := 1) rfl))) (mvT hZ (hw _ (List.mem_of_getElem? (i := 2) rfl))) (mvT hZ (hw _ (List.mem_of_getElem? (i := 3) rfl))) (by decide) (own_backH (W := 0) (own_drR l Z a0 hw [] cs (((p1.toUInt32 >>> ((4 : Int32) &&& 31).toUInt32).toInt32) &&& (3 : Int32)) ((p5.toUInt32 >>> ((8 : Int32) &&& 31).toUInt32).toInt32) ((p6.toUInt32 >>> ((8 : Int32) &&& 31).toUInt32).toInt32) h0 n0 Z0 O0 SS hcs hf134) hZ (hw _ (List.mem_of_getElem? (i := 3) rfl)) (hw _ (List.mem_of_getElem? (i := 2) rfl)) (by decide) (by decide) hEL hH all0) (g := (mkF m 45 #[.val (.int p1), .val (.long q1), .second, .val (.long q2), .second, .val (.long q3), .second, .val (.int p5), .val (.int p6), .val (.int (p1 &&& (3 : Int32))), .val .null, .val .null, .unset, .unset, .unset, .unset, .unset, .unset, .unset] [(.int ((p6.toUInt32 >>> ((8 : Int32) &&& 31).toUInt32).toInt32)), (.int ((p5.toUInt32 >>> ((8 : Int32) &&& 31).toUInt32).toInt32)), (.int (((p1.toUInt32 >>> ((4 : Int32) &&& 31).toUInt32).toInt32) &&& (3 : Int32)))])) rfl (by rw [hml]; rfl) (argsL := [(.int (((p1.toUInt32 >>> ((4 : Int32) &&& 31).toUInt32).toInt32) &&& (3 : Int32))), (.int ((p5.toUInt32 >>> ((8 : Int32) &&& 31).toUInt32).toInt32)), (.int ((p6.toUInt32 >>> ((8 : Int32) &&& 31).toUInt32).toInt32))]) (rest := []) (lenOf own_pd6 rfl) rfl (by show 2 * 0 + _ ≤ _; exact Nat.le_of_eq rfl) (hb hby at_45) (fun _ _ => ⟨rfl, eh133, (by decide : 0 + 6 ≤ _), (by decide : 0 + 12 ≤ _)⟩)
        dsimp only [Pt.U, Pt.locs, Pt.cells, Pt.slots] at X142 l142 y142 z142 st142 hQ142 S142a S142b hC142
        subst l142 y142 z142
        obtain ⟨X142r, hS142, hZ, hown⟩ := rebS hS (n1 := T133.heap.size) (by rw [eh133]; exact (Nat.zero_le _)) X142 S142a S142b hZ hown
        obtain ⟨w2, rfl, N142q, K142, g_w2, szx_w2, E_w2⟩ := hQ142
        have N142 := Fr.app N133 N142q
        have hR142 := hR.trans hC142
        have hH142 := hC142.1
        have O142 := O0.keep K142 all0
        refine own_toH (fun t k => st142.trans k) ?_
        show own_FinH _ _ _ _ _ _ _ _ (T142.setTop (mkF m 48 #[.val (.int p1), .val (.long q1), .second, .val (.long q2), .second, .val (.long q3), .second, .val (.int p5), .val (.int p6), .val (.int (p1 &&& (3 : Int32))), .val .null, .val .null, .unset, .unset, .unset, .unset, .unset, .unset, .unset] [(.ref w2)]))
        refine own_toH (fun t k => XS.astore X142r.here hx rfl (hb hby at_48) rfl rfl (l' := #[.val (.int p1), .val (.long q1), .second, .val (.long q2), .second, .val (.long q3), .second, .val (.int p5), .val (.int p6), .val (.int (p1 &&& (3 : Int32))), .val .null, .val .null, .val (.ref w2), .unset, .unset, .unset, .unset, .unset, .unset]) rfl k) ?_
        show own_FinH _ _ _ _ _ _ _ _ (T142.setTop (mkF m 50 #[.val (.int p1), .val (.long q1), .second, .val (.long q2), .second, .val (.long q3), .second, .val (.int p5), .val (.int p6), .val (.int (p1 &&& (3 : Int32))), .val .null, .val .null, .val (.ref w2), .unset, .unset, .unset, .unset, .unset, .unset] []))
        refine own_toH (fun t k => XS.iloadN X142r.here hx rfl (hb hby at_50) rfl k) ?_
        show own_FinH _ _ _ _ _ _ _ _ (T142.setTop (mkF m 51 #[.val (.int p1), .val (.long q1), .second, .val (.long q2), .second, .val (.long q3), .second, .val (.int p5), .val (.int p6), .val (.int (p1 &&& (3 : Int32))), .val .null, .val .null, .val (.ref w2), .unset, .unset, .unset, .unset, .unset, .unset] [(.int p1)]))
        refine own_toH (fun t k => XS.bipush X142r.here hx rfl (hb hby at_51) k) ?_
        show own_FinH _ _ _ _ _ _ _ _ (T142.setTop (mkF m 53 #[.val (.int p1), .val (.long q1), .second, .val (.long q2), .second, .val (.long q3), .second, .val (.int p5), .val (.int p6), .val (.int (p1 &&& (3 : Int32))), .val .null, .val .null, .val (.ref w2), .unset, .unset, .unset, .unset, .unset, .unset] [(.int (6 : Int32)), (.int p1)]))
        refine own_toH (fun t k => XS.iushr X142r.here hx rfl (hb hby at_53) rfl k) ?_
        show own_FinH _ _ _ _ _ _ _ _ (T142.setTop (mkF m 54 #[.val (.int p1), .val (.long q1), .second, .val (.long q2), .second, .val (.long q3), .second, .val (.int p5), .val (.int p6), .val (.int (p1 &&& (3 : Int32))), .val .null, .val .null, .val (.ref w2), .unset, .unset, .unset, .unset, .unset, .unset] [(.int ((p1.toUInt32 >>> ((6 : Int32) &&& 31).toUInt32).toInt32))]))
        refine own_toH (fun t k => XS.iconst X142r.here hx rfl (hb hby at_54) k) ?_
        show own_FinH _ _ _ _ _ _ _ _ (T142.setTop (mkF m 55 #[.val (.int p1), .val (.long q1), .second, .val (.long q2), .second, .val (.long q3), .second, .val (.int p5), .val (.int p6), .val (.int (p1 &&& (3 : Int32))), .val .null, .val .null, .val (.ref w2), .unset, .unset, .unset, .unset, .unset, .unset] [(.int (3 : Int32)), (.int ((p1.toUInt32 >>> ((6 : Int32) &&& 31).toUInt32).toInt32))]))
        refine own_toH (fun t k => XS.iand X142r.here hx rfl (hb hby at_55) rfl k) ?_
        show own_FinH _ _ _ _ _ _ _ _ (T142.setTop (mkF m 56 #[.val (.int p1), .val (.long q1), .second, .val (.long q2), .second, .val (.long q3), .second, .val (.int p5), .val (.int p6), .val (.int (p1 &&& (3 : Int32))), .val .null, .val .null, .val (.ref w2), .unset, .unset, .unset, .unset, .unset, .unset] [(.int (((p1.toUInt32 >>> ((6 : Int32) &&& 31).toUInt32).toInt32) &&& (3 : Int32)))]))
        refine own_toH (fun t k => XS.lloadN X142r.here hx rfl (hb hby at_56) rfl k) ?_
        show own_FinH _ _ _ _ _ _ _ _ (T142.setTop (mkF m 57 #[.val (.int p1), .val (.long q1), .second, .val (.long q2), .second, .val (.long q3), .second, .val (.int p5), .val (.int p6), .val (.int (p1 &&& (3 : Int32))), .val .null, .val .null, .val (.ref w2), .unset, .unset, .unset, .unset, .unset, .unset] [(.long q1), (.int (((p1.toUInt32 >>> ((6 : Int32) &&& 31).toUInt32).toInt32) &&& (3 : Int32)))]))
        obtain ⟨_, _, ⟨T143, L143, k143, n143⟩, -, X143, ⟨Lc143, hQ143, l143, y143, z143⟩, st143⟩ := Jvm.LawKit.callS X142r hx (y := (⟨"com/example/deft_lock/deftlock/service/ServerInfoTellsUptimePinLaw", "pickUptime", "(IJ)J"⟩ : MethodName)) hown (mvT hZ (hw _ (List.mem_of_getElem? (i := 4) rfl))) (mvT hZ (hw _ (List.mem_of_getElem? (i := 5) rfl))) (mvT hZ (hw _ (List.mem_of_getElem? (i := 2) rfl))) (mvT hZ (hw _ (List.mem_of_getElem? (i := 6) rfl))) (by decide) (own_back (W := 0) (own_rm2 l Z a0 hw [] (((p1.toUInt32 >>> ((6 : Int32) &&& 31).toUInt32).toInt32) &&& (3 : Int32)) q1 T142.heap n0 (Nat.le_trans Z0 K142.1)) hZ (hw _ (List.mem_of_getElem? (i := 6) rfl)) (hw _ (List.mem_of_getElem? (i := 2) rfl)) (by decide) (by decide)) (g := (mkF m 57 #[.val (.int p1), .val (.long q1), .second, .val (.long q2), .second, .val (.long q3), .second, .val (.int p5), .val (.int p6), .val (.int (p1 &&& (3 : Int32))), .val .null, .val .null, .val (.ref w2), .unset, .unset, .unset, .unset, .unset, .unset] [(.long q1), (.int (((p1.toUInt32 >>> ((6 : Int32) &&& 31).toUInt32).toInt32) &&& (3 : Int32)))])) rfl (by rw [hml]; rfl) (argsL := [(.int (((p1.toUInt32 >>> ((6 : Int32) &&& 31).toUInt32).toInt32) &&& (3 : Int32))), (.long q1)]) (rest := []) (lenOf own_pd7 rfl) rfl (by show 2 * 0 + _ ≤ _; exact Nat.le_of_eq rfl) (hb hby at_57) (fun _ _ => ⟨rfl, rfl, (by decide : 6 + 0 ≤ _), (by decide : 12 + 0 ≤ _)⟩)
        dsimp only [Pt.U, Pt.locs, Pt.cells, Pt.slots] at X143 l143 y143 z143 st143 hQ143
        subst l143 y143 z143
        obtain ⟨rfl, N143q, eh143⟩ := hQ143
        have N143 := Fr.app N142 N143q
        refine own_toH (fun t k => st143 t k) ?_
        show own_FinH _ _ _ _ _ _ _ _ (T143.setTop (mkF m 60 #[.val (.int p1), .val (.long q1), .second, .val (.long q2), .second, .val (.long q3), .second, .val (.int p5), .val (.int p6), .val (.int (p1 &&& (3 : Int32))), .val .null, .val .null, .val (.ref w2), .unset, .unset, .unset, .unset, .unset, .unset] [(.long (own_pick (((p1.toUInt32 >>> ((6 : Int32) &&& 31).toUInt32).toInt32) &&& (3 : Int32)) q1))]))
        obtain ⟨u, eu⟩ : ∃ z, z = (own_pick (((p1.toUInt32 >>> ((6 : Int32) &&& 31).toUInt32).toInt32) &&& (3 : Int32)) q1) := ⟨_, rfl⟩
        rw [← eu]
        show own_FinH _ _ _ _ _ _ _ _ (T143.setTop (mkF m 60 #[.val (.int p1), .val (.long q1), .second, .val (.long q2), .second, .val (.long q3), .second, .val (.int p5), .val (.int p6), .val (.int (p1 &&& (3 : Int32))), .val .null, .val .null, .val (.ref w2), .unset, .unset, .unset, .unset, .unset, .unset] [(.long u)]))
        refine own_toH (fun t k => XS.lstore X143.here hx rfl (hb hby at_60) rfl (l' := #[.val (.int p1), .val (.long q1), .second, .val (.long q2), .second, .val (.long q3), .second, .val (.int p5), .val (.int p6), .val (.int (p1 &&& (3 : Int32))), .val .null, .val .null, .val (.ref w2), .val (.long u), .second, .unset, .unset, .unset, .unset]) rfl k) ?_
        show own_FinH _ _ _ _ _ _ _ _ (T143.setTop (mkF m 62 #[.val (.int p1), .val (.long q1), .second, .val (.long q2), .second, .val (.long q3), .second, .val (.int p5), .val (.int p6), .val (.int (p1 &&& (3 : Int32))), .val .null, .val .null, .val (.ref w2), .val (.long u), .second, .unset, .unset, .unset, .unset] []))
        obtain ⟨T144, h144, X144, e144, E144, A144, D144, U144, st144⟩ := newO X143 hx hZ hown (hw _ (List.mem_of_getElem? (i := 7) rfl)) (hw _ (List.mem_of_getElem? (i := 8) rfl)) (hw _ (List.mem_of_getElem? (i := 9) rfl)) eh143 (g := (mkF m 62 #[.val (.int p1), .val (.long q1), .second, .val (.long q2), .second, .val (.long q3), .second, .val (.int p5), .val (.int p6), .val (.int (p1 &&& (3 : Int32))), .val .null, .val .null, .val (.ref w2), .val (.long u), .second, .unset, .unset, .unset, .unset] [])) rfl (hb hby at_62) (by decide) (by decide)
        obtain ⟨b144, q144⟩ : ∃ z, z = T142.heap.size := ⟨_, rfl⟩
        rw [← q144] at A144 D144 U144 st144
        have ne_w2_b144 : w2 ≠ b144 := Nat.ne_of_lt (Nat.lt_of_lt_of_le E_w2.lt (Nat.le_of_eq q144.symm))
        have g_b144 : n0 ≤ b144 := Nat.le_trans (Nat.le_trans Z0 K142.1) (Nat.le_of_eq q144.symm)
        have Sn_b144 : Safe Z own_EL _ h144 b144 := Safe.ext E144 hH142 (Safe.new (Nat.le_of_eq q144.symm))
        have hR144 := hR142.trans (CHr.ext E144 hH142)
        have hH144 := hH142.ext E144
        have O144 := O142.ext E144
        have E_w2_e144 := E_w2.ext E144
        have FnrunId_144 : Fld Z h144 b144 "com/example/deft_lock/deftlock/service/ServerInfo" "runId" "Ljava/lang/String;" .null := D144 (Or.inr (hw _ (List.mem_of_getElem? (i := 22) rfl))) (ty := (.object "java/lang/String")) (by decide)
        have FnuptimeSeconds_144 : Fld Z h144 b144 "com/example/deft_lock/deftlock/service/ServerInfo" "uptimeSeconds" "J" (.long (0 : Int64)) := D144 (Or.inr (hw _ (List.mem_of_getElem? (i := 24) rfl))) (ty := .long) (by decide)
        have FnclockMicros_144 : Fld Z h144 b144 "com/example/deft_lock/deftlock/service/ServerInfo" "clockMicros" "J" (.long (0 : Int64)) := D144 (Or.inr (hw _ (List.mem_of_getElem? (i := 26) rfl))) (ty := .long) (by decide)
        have Fnrole_144 : Fld Z h144 b144 "com/example/deft_lock/deftlock/service/ServerInfo" "role" "Ljava/lang/String;" .null := D144 (Or.inr (hw _ (List.mem_of_getElem? (i := 28) rfl))) (ty := (.object "java/lang/String")) (by decide)
        have Fnmaster_144 : Fld Z h144 b144 "com/example/deft_lock/deftlock/service/ServerInfo" "master" "Ljava/lang/String;" .null := D144 (Or.inr (hw _ (List.mem_of_getElem? (i := 30) rfl))) (ty := (.object "java/lang/String")) (by decide)
        have FnconnectedReplicas_144 : Fld Z h144 b144 "com/example/deft_lock/deftlock/service/ServerInfo" "connectedReplicas" "J" (.long (0 : Int64)) := D144 (Or.inr (hw _ (List.mem_of_getElem? (i := 32) rfl))) (ty := .long) (by decide)
        refine own_toH (fun t k => st144 t k) ?_
        show own_FinH _ _ _ _ _ _ _ _ (T144.setTop (mkF m 65 #[.val (.int p1), .val (.long q1), .second, .val (.long q2), .second, .val (.long q3), .second, .val (.int p5), .val (.int p6), .val (.int (p1 &&& (3 : Int32))), .val .null, .val .null, .val (.ref w2), .val (.long u), .second, .unset, .unset, .unset, .unset] [(.ref b144)]))
        refine own_toH (fun t k => XS.dup X144.here hx rfl (hb hby at_65) rfl rfl k) ?_
        show own_FinH _ _ _ _ _ _ _ _ (T144.setTop (mkF m 66 #[.val (.int p1), .val (.long q1), .second, .val (.long q2), .second, .val (.long q3), .second, .val (.int p5), .val (.int p6), .val (.int (p1 &&& (3 : Int32))), .val .null, .val .null, .val (.ref w2), .val (.long u), .second, .unset, .unset, .unset, .unset] [(.ref b144), (.ref b144)]))
        refine own_toH (fun t k => XS.aload X144.here hx rfl (hb hby at_66) rfl rfl k) ?_
        show own_FinH _ _ _ _ _ _ _ _ (T144.setTop (mkF m 68 #[.val (.int p1), .val (.long q1), .second, .val (.long q2), .second, .val (.long q3), .second, .val (.int p5), .val (.int p6), .val (.int (p1 &&& (3 : Int32))), .val .null, .val .null, .val (.ref w2), .val (.long u), .second, .unset, .unset, .unset, .unset] [.null, (.ref b144), (.ref b144)]))
        refine own_toH (fun t k => XS.lload X144.here hx rfl (hb hby at_68) rfl k) ?_
        show own_FinH _ _ _ _ _ _ _ _ (T144.setTop (mkF m 70 #[.val (.int p1), .val (.long q1), .second, .val (.long q2), .second, .val (.long q3), .second, .val (.int p5), .val (.int p6), .val (.int (p1 &&& (3 : Int32))), .val .null, .val .null, .val (.ref w2), .val (.long u), .second, .unset, .unset, .unset, .unset] [(.long u), .null, (.ref b144), (.ref b144)]))
        refine own_toH (fun t k => XS.lloadN X144.here hx rfl (hb hby at_70) rfl k) ?_
        show own_FinH _ _ _ _ _ _ _ _ (T144.setTop (mkF m 71 #[.val (.int p1), .val (.long q1), .second, .val (.long q2), .second, .val (.long q3), .second, .val (.int p5), .val (.int p6), .val (.int (p1 &&& (3 : Int32))), .val .null, .val .null, .val (.ref w2), .val (.long u), .second, .unset, .unset, .unset, .unset] [(.long q2), (.long u), .null, (.ref b144), (.ref b144)]))
        refine own_toH (fun t k => XS.aload X144.here hx rfl (hb hby at_71) rfl rfl k) ?_
        show own_FinH _ _ _ _ _ _ _ _ (T144.setTop (mkF m 73 #[.val (.int p1), .val (.long q1), .second, .val (.long q2), .second, .val (.long q3), .second, .val (.int p5), .val (.int p6), .val (.int (p1 &&& (3 : Int32))), .val .null, .val .null, .val (.ref w2), .val (.long u), .second, .unset, .unset, .unset, .unset] [.null, (.long q2), (.long u), .null, (.ref b144), (.ref b144)]))
        refine own_toH (fun t k => XS.aload X144.here hx rfl (hb hby at_73) rfl rfl k) ?_
        show own_FinH _ _ _ _ _ _ _ _ (T144.setTop (mkF m 75 #[.val (.int p1), .val (.long q1), .second, .val (.long q2), .second, .val (.long q3), .second, .val (.int p5), .val (.int p6), .val (.int (p1 &&& (3 : Int32))), .val .null, .val .null, .val (.ref w2), .val (.long u), .second, .unset, .unset, .unset, .unset] [(.ref w2), .null, (.long q2), (.long u), .null, (.ref b144), (.ref b144)]))
        refine own_toH (fun t k => XS.lload X144.here hx rfl (hb hby at_75) rfl k) ?_
        show own_FinH _ _ _ _ _ _ _ _ (T144.setTop (mkF m 77 #[.val (.int p1), .val (.long q1), .second, .val (.long q2), .second, .val (.long q3), .second, .val (.int p5), .val (.int p6), .val (.int (p1 &&& (3 : Int32))), .val .null, .val .null, .val (.ref w2), .val (.long u), .second, .unset, .unset, .unset, .unset] [(.long q3), (.ref w2), .null, (.long q2), (.long u), .null, (.ref b144), (.ref b144)]))
        obtain ⟨_, _, ⟨T145, L145, k145, n145⟩, -, X145, ⟨Lc145, hQ145, l145, y145, z145⟩, st145⟩ := X144.specialBack hx (y := (⟨"com/example/deft_lock/deftlock/service/ServerInfo", "<init>", "(Ljava/lang/String;JJLjava/lang/String;Ljava/lang/String;J)V"⟩ : MethodName)) rfl hown (mvT hZ (hw _ (List.mem_of_getElem? (i := 10) rfl))) (mvT hZ (hw _ (List.mem_of_getElem? (i := 11) rfl))) (mvT hZ (hw _ (List.mem_of_getElem? (i := 12) rfl))) (by decide) (own_back (W := 1) (own_si4 l Z a0 hw [] b144 u q2 q3 w2 h144 n0 (Nat.le_trans (Nat.le_trans Z0 K142.1) E144.1) A144 FnrunId_144 FnuptimeSeconds_144 FnclockMicros_144 Fnrole_144 Fnmaster_144 FnconnectedReplicas_144 g_b144) hZ (hw _ (List.mem_of_getElem? (i := 12) rfl)) (hw _ (List.mem_of_getElem? (i := 9) rfl)) (by decide) (by decide)) (g := (mkF m 77 #[.val (.int p1), .val (.long q1), .second, .val (.long q2), .second, .val (.long q3), .second, .val (.int p5), .val (.int p6), .val (.int (p1 &&& (3 : Int32))), .val .null, .val .null, .val (.ref w2), .val (.long u), .second, .unset, .unset, .unset, .unset] [(.long q3), (.ref w2), .null, (.long q2), (.long u), .null, (.ref b144), (.ref b144)])) rfl (by rw [hml]; rfl) (Steps.refl _) (a := b144) (argsL := [.null, (.long u), (.long q2), .null, (.ref w2), (.long q3)]) (rest := [(.ref b144)]) (lenOf own_pd8 rfl) rfl (by show 2 * 0 + _ ≤ _; exact Nat.le_of_eq rfl) (hb hby at_77) (fun _ _ => ⟨rfl, e144, (by decide : 7 + 0 ≤ _), (by decide : 18 + 0 ≤ _)⟩)
        dsimp only [Pt.U, Pt.locs, Pt.cells, Pt.slots] at X145 l145 y145 z145 st145 hQ145
        subst l145 y145 z145
        obtain ⟨rfl, N145q, K145, Fr1, Fu1⟩ := hQ145
        have N145 := Fr.app N143 N145q
        have hR145 := hR144.trans (CHr.keep K145 (sfS Sn_b144 sf0) hH144)
        have hH145 := CHv.keep K145 (sfS Sn_b144 sf0) hH144
        have Sf_b144_145 := Safe.keep K145 (sfS Sn_b144 sf0) hH144 Sn_b144
        have O145 := O144.keep K145 (allS g_b144 all0)
        have E_w2_e145 := E_w2_e144.keep K145
        have A144_e145 := A144.keep K145
        refine own_toH (fun t k => st145.trans k) ?_
        show own_FinH _ _ _ _ _ _ _ _ (T145.setTop (mkF m 80 #[.val (.int p1), .val (.long q1), .second, .val (.long q2), .second, .val (.long q3), .second, .val (.int p5), .val (.int p6), .val (.int (p1 &&& (3 : Int32))), .val .null, .val .null, .val (.ref w2), .val (.long u), .second, .unset, .unset, .unset, .unset] [(.ref b144)]))
        refine own_toH (fun t k => XS.astore X145.here hx rfl (hb hby at_80) rfl rfl (l' := #[.val (.int p1), .val (.long q1), .second, .val (.long q2), .second, .val (.long q3), .second, .val (.int p5), .val (.int p6), .val (.int (p1 &&& (3 : Int32))), .val .null, .val .null, .val (.ref w2), .val (.long u), .second, .val (.ref b144), .unset, .unset, .unset]) rfl k) ?_
        show own_FinH _ _ _ _ _ _ _ _ (T145.setTop (mkF m 82 #[.val (.int p1), .val (.long q1), .second, .val (.long q2), .second, .val (.long q3), .second, .val (.int p5), .val (.int p6), .val (.int (p1 &&& (3 : Int32))), .val .null, .val .null, .val (.ref w2), .val (.long u), .second, .val (.ref b144), .unset, .unset, .unset] []))
        refine own_toH (fun t k => XS.iload X145.here hx rfl (hb hby at_82) rfl k) ?_
        show own_FinH _ _ _ _ _ _ _ _ (T145.setTop (mkF m 84 #[.val (.int p1), .val (.long q1), .second, .val (.long q2), .second, .val (.long q3), .second, .val (.int p5), .val (.int p6), .val (.int (p1 &&& (3 : Int32))), .val .null, .val .null, .val (.ref w2), .val (.long u), .second, .val (.ref b144), .unset, .unset, .unset] [(.int (p1 &&& (3 : Int32)))]))
        refine own_toH (fun t k => XS.ifYes X145.here hx rfl (pc0 := 84) (pc' := 91) rfl (hb hby at_84) rfl ((if0 _ _).trans (teq hf130).1) (by decide) (by decide) k) ?_
        show own_FinH _ _ _ _ _ _ _ _ (T145.setTop (mkF m 91 #[.val (.int p1), .val (.long q1), .second, .val (.long q2), .second, .val (.long q3), .second, .val (.int p5), .val (.int p6), .val (.int (p1 &&& (3 : Int32))), .val .null, .val .null, .val (.ref w2), .val (.long u), .second, .val (.ref b144), .unset, .unset, .unset] []))
        refine own_toH (fun t k => XS.iconst X145.here hx rfl (hb hby at_91) k) ?_
        show own_FinH _ _ _ _ _ _ _ _ (T145.setTop (mkF m 92 #[.val (.int p1), .val (.long q1), .second, .val (.long q2), .second, .val (.long q3), .second, .val (.int p5), .val (.int p6), .val (.int (p1 &&& (3 : Int32))), .val .null, .val .null, .val (.ref w2), .val (.long u), .second, .val (.ref b144), .unset, .unset, .unset] [(.int (0 : Int32))]))
        refine own_toH (fun t k => XS.istore X145.here hx rfl (hb hby at_92) rfl (l' := #[.val (.int p1), .val (.long q1), .second, .val (.long q2), .second, .val (.long q3), .second, .val (.int p5), .val (.int p6), .val (.int (p1 &&& (3 : Int32))), .val .null, .val .null, .val (.ref w2), .val (.long u), .second, .val (.ref b144), .val (.int (0 : Int32)), .unset, .unset]) rfl k) ?_
        show own_FinH _ _ _ _ _ _ _ _ (T145.setTop (mkF m 94 #[.val (.int p1), .val (.long q1), .second, .val (.long q2), .second, .val (.long q3), .second, .val (.int p5), .val (.int p6), .val (.int (p1 &&& (3 : Int32))), .val .null, .val .null, .val (.ref w2), .val (.long u), .second, .val (.ref b144), .val (.int (0 : Int32)), .unset, .unset] []))
        refine own_toH (fun t k => XS.lload X145.here hx rfl (hb hby at_94) rfl k) ?_
        show own_FinH _ _ _ _ _ _ _ _ (T145.setTop (mkF m 96 #[.val (.int p1), .val (.long q1), .second, .val (.long q2), .second, .val (.long q3), .second, .val (.int p5), .val (.int p6), .val (.int (p1 &&& (3 : Int32))), .val .null, .val .null, .val (.ref w2), .val (.long u), .second, .val (.ref b144), .val (.int (0 : Int32)), .unset, .unset] [(.long u)]))
        refine own_toH (fun t k => XS.bipush X145.here hx rfl (hb hby at_96) k) ?_
        show own_FinH _ _ _ _ _ _ _ _ (T145.setTop (mkF m 98 #[.val (.int p1), .val (.long q1), .second, .val (.long q2), .second, .val (.long q3), .second, .val (.int p5), .val (.int p6), .val (.int (p1 &&& (3 : Int32))), .val .null, .val .null, .val (.ref w2), .val (.long u), .second, .val (.ref b144), .val (.int (0 : Int32)), .unset, .unset] [(.int (63 : Int32)), (.long u)]))
        refine own_toH (fun t k => XS.lushr X145.here hx rfl (hb hby at_98) rfl k) ?_
        show own_FinH _ _ _ _ _ _ _ _ (T145.setTop (mkF m 99 #[.val (.int p1), .val (.long q1), .second, .val (.long q2), .second, .val (.long q3), .second, .val (.int p5), .val (.int p6), .val (.int (p1 &&& (3 : Int32))), .val .null, .val .null, .val (.ref w2), .val (.long u), .second, .val (.ref b144), .val (.int (0 : Int32)), .unset, .unset] [(.long ((u.toUInt64 >>> ((63 : Int32) &&& 0x3f).toInt64.toUInt64).toInt64))]))
        refine own_toH (fun t k => XS.lconst X145.here hx rfl (hb hby at_99) k) ?_
        show own_FinH _ _ _ _ _ _ _ _ (T145.setTop (mkF m 100 #[.val (.int p1), .val (.long q1), .second, .val (.long q2), .second, .val (.long q3), .second, .val (.int p5), .val (.int p6), .val (.int (p1 &&& (3 : Int32))), .val .null, .val .null, .val (.ref w2), .val (.long u), .second, .val (.ref b144), .val (.int (0 : Int32)), .unset, .unset] [(.long (0 : Int64)), (.long ((u.toUInt64 >>> ((63 : Int32) &&& 0x3f).toInt64.toUInt64).toInt64))]))
        refine own_toH (fun t k => XS.lcmp X145.here hx rfl (hb hby at_100) rfl k) ?_
        show own_FinH _ _ _ _ _ _ _ _ (T145.setTop (mkF m 101 #[.val (.int p1), .val (.long q1), .second, .val (.long q2), .second, .val (.long q3), .second, .val (.int p5), .val (.int p6), .val (.int (p1 &&& (3 : Int32))), .val .null, .val .null, .val (.ref w2), .val (.long u), .second, .val (.ref b144), .val (.int (0 : Int32)), .unset, .unset] [(.int (lcmpW ((u.toUInt64 >>> ((63 : Int32) &&& 0x3f).toInt64.toUInt64).toInt64) (0 : Int64)))]))
        by_cases hc101_146 : ((u.toUInt64 >>> ((63 : Int32) &&& 0x3f).toInt64.toUInt64).toInt64) = (0 : Int64)
        ·
          show own_FinH _ _ _ _ _ _ _ _ (T145.setTop (mkF m 101 #[.val (.int p1), .val (.long q1), .second, .val (.long q2), .second, .val (.long q3), .second, .val (.int p5), .val (.int p6), .val (.int (p1 &&& (3 : Int32))), .val .null, .val .null, .val (.ref w2), .val (.long u), .second, .val (.ref b144), .val (.int (0 : Int32)), .unset, .unset] [(.int (lcmpW ((u.toUInt64 >>> ((63 : Int32) &&& 0x3f).toInt64.toUInt64).toInt64) (0 : Int64)))]))
          refine own_toH (fun t k => XS.ifNo X145.here hx rfl (hb hby at_101) rfl ((if0 _ _).trans (teq ((lw_eq _ _).mpr hc101_146)).2) k) ?_
          show own_FinH _ _ _ _ _ _ _ _ (T145.setTop (mkF m 104 #[.val (.int p1), .val (.long q1), .second, .val (.long q2), .second, .val (.long q3), .second, .val (.int p5), .val (.int p6), .val (.int (p1 &&& (3 : Int32))), .val .null, .val .null, .val (.ref w2), .val (.long u), .second, .val (.ref b144), .val (.int (0 : Int32)), .unset, .unset] []))
          refine own_toH (fun t k => XS.iconst X145.here hx rfl (hb hby at_104) k) ?_
          show own_FinH _ _ _ _ _ _ _ _ (T145.setTop (mkF m 105 #[.val (.int p1), .val (.long q1), .second, .val (.long q2), .second, .val (.long q3), .second, .val (.int p5), .val (.int p6), .val (.int (p1 &&& (3 : Int32))), .val .null, .val .null, .val (.ref w2), .val (.long u), .second, .val (.ref b144), .val (.int (0 : Int32)), .unset, .unset] [(.int (1 : Int32))]))
          refine own_toH (fun t k => XS.goto X145.here hx rfl (pc0 := 105) (pc' := 109) rfl (hb hby at_105) (by decide) (by decide) k) ?_
          show own_FinH _ _ _ _ _ _ _ _ (T145.setTop (mkF m 109 #[.val (.int p1), .val (.long q1), .second, .val (.long q2), .second, .val (.long q3), .second, .val (.int p5), .val (.int p6), .val (.int (p1 &&& (3 : Int32))), .val .null, .val .null, .val (.ref w2), .val (.long u), .second, .val (.ref b144), .val (.int (0 : Int32)), .unset, .unset] [(.int (1 : Int32))]))
          refine own_toH (fun t k => XS.istore X145.here hx rfl (hb hby at_109) rfl (l' := #[.val (.int p1), .val (.long q1), .second, .val (.long q2), .second, .val (.long q3), .second, .val (.int p5), .val (.int p6), .val (.int (p1 &&& (3 : Int32))), .val .null, .val .null, .val (.ref w2), .val (.long u), .second, .val (.ref b144), .val (.int (0 : Int32)), .val (.int (1 : Int32)), .unset]) rfl k) ?_
          show own_FinH _ _ _ _ _ _ _ _ (T145.setTop (mkF m 111 #[.val (.int p1), .val (.long q1), .second, .val (.long q2), .second, .val (.long q3), .second, .val (.int p5), .val (.int p6), .val (.int (p1 &&& (3 : Int32))), .val .null, .val .null, .val (.ref w2), .val (.long u), .second, .val (.ref b144), .val (.int (0 : Int32)), .val (.int (1 : Int32)), .unset] []))
          refine own_toH (fun t k => XS.iconst X145.here hx rfl (hb hby at_111) k) ?_
          show own_FinH _ _ _ _ _ _ _ _ (T145.setTop (mkF m 112 #[.val (.int p1), .val (.long q1), .second, .val (.long q2), .second, .val (.long q3), .second, .val (.int p5), .val (.int p6), .val (.int (p1 &&& (3 : Int32))), .val .null, .val .null, .val (.ref w2), .val (.long u), .second, .val (.ref b144), .val (.int (0 : Int32)), .val (.int (1 : Int32)), .unset] [(.int (0 : Int32))]))
          refine own_toH (fun t k => XS.istore X145.here hx rfl (hb hby at_112) rfl (l' := #[.val (.int p1), .val (.long q1), .second, .val (.long q2), .second, .val (.long q3), .second, .val (.int p5), .val (.int p6), .val (.int (p1 &&& (3 : Int32))), .val .null, .val .null, .val (.ref w2), .val (.long u), .second, .val (.ref b144), .val (.int (0 : Int32)), .val (.int (1 : Int32)), .val (.int (0 : Int32))]) rfl k) ?_
          show own_FinH _ _ _ _ _ _ _ _ (T145.setTop (mkF m 114 #[.val (.int p1), .val (.long q1), .second, .val (.long q2), .second, .val (.long q3), .second, .val (.int p5), .val (.int p6), .val (.int (p1 &&& (3 : Int32))), .val .null, .val .null, .val (.ref w2), .val (.long u), .second, .val (.ref b144), .val (.int (0 : Int32)), .val (.int (1 : Int32)), .val (.int (0 : Int32))] []))
          refine own_toH (fun t k => XS.iload X145.here hx rfl (hb hby at_114) rfl k) ?_
          show own_FinH _ _ _ _ _ _ _ _ (T145.setTop (mkF m 116 #[.val (.int p1), .val (.long q1), .second, .val (.long q2), .second, .val (.long q3), .second, .val (.int p5), .val (.int p6), .val (.int (p1 &&& (3 : Int32))), .val .null, .val .null, .val (.ref w2), .val (.long u), .second, .val (.ref b144), .val (.int (0 : Int32)), .val (.int (1 : Int32)), .val (.int (0 : Int32))] [(.int (0 : Int32))]))
          refine own_toH (fun t k => XS.ifYes X145.here hx rfl (pc0 := 116) (pc' := 127) rfl (hb hby at_116) rfl ((if0 _ _).trans (teq rfl).1) (by decide) (by decide) k) ?_
          show own_FinH _ _ _ _ _ _ _ _ (T145.setTop (mkF m 127 #[.val (.int p1), .val (.long q1), .second, .val (.long q2), .second, .val (.long q3), .second, .val (.int p5), .val (.int p6), .val (.int (p1 &&& (3 : Int32))), .val .null, .val .null, .val (.ref w2), .val (.long u), .second, .val (.ref b144), .val (.int (0 : Int32)), .val (.int (1 : Int32)), .val (.int (0 : Int32))] []))
          refine own_toH (fun t k => XS.aload X145.here hx rfl (hb hby at_127) rfl rfl k) ?_
          show own_FinH _ _ _ _ _ _ _ _ (T145.setTop (mkF m 129 #[.val (.int p1), .val (.long q1), .second, .val (.long q2), .second, .val (.long q3), .second, .val (.int p5), .val (.int p6), .val (.int (p1 &&& (3 : Int32))), .val .null, .val .null, .val (.ref w2), .val (.long u), .second, .val (.ref b144), .val (.int (0 : Int32)), .val (.int (1 : Int32)), .val (.int (0 : Int32))] [(.ref b144)]))
          obtain ⟨cq147, kq147, q147a, q147b, q147c⟩ := isOf hZ rfl A144_e145
          obtain ⟨_, _, ⟨T147, L147, k147, n147⟩, -, X147, ⟨Lc147, hQ147, l147, y147, z147⟩, st147⟩ := X145.virtualBack hx (y := (⟨"com/example/deft_lock/deftlock/service/ServerInfo", "tellsUptime", "()Z"⟩ : MethodName)) (z := (⟨"com/example/deft_lock/deftlock/service/ServerInfo", "tellsUptime", "()Z"⟩ : MethodName)) hown (mvT hZ (hw _ (List.mem_of_getElem? (i := 33) rfl))) (mvT hZ (hw _ (List.mem_of_getElem? (i := 34) rfl))) (notFace_of_selects (args := #[]) (mvT hZ (hw _ (List.mem_of_getElem? (i := 36) rfl)))) (mvT hZ (hw _ (List.mem_of_getElem? (i := 36) rfl))) (mvT hZ (hw _ (List.mem_of_getElem? (i := 35) rfl))) (by decide) (own_back (W := 0) (own_tuN l Z a0 hw [] b144 T145.heap n0 (Nat.le_trans (Nat.le_trans (Nat.le_trans Z0 K142.1) E144.1) K145.1) Fr1) hZ (hw _ (List.mem_of_getElem? (i := 37) rfl)) (hw _ (List.mem_of_getElem? (i := 9) rfl)) (by decide) (by decide)) q147a q147c (g := (mkF m 129 #[.val (.int p1), .val (.long q1), .second, .val (.long q2), .second, .val (.long q3), .second, .val (.int p5), .val (.int p6), .val (.int (p1 &&& (3 : Int32))), .val .null, .val .null, .val (.ref w2), .val (.long u), .second, .val (.ref b144), .val (.int (0 : Int32)), .val (.int (1 : Int32)), .val (.int (0 : Int32))] [(.ref b144)])) rfl (by rw [hml]; rfl) (Steps.refl _) (argsL := []) (rest := []) (lenOf own_pd9 rfl) rfl (by show 2 * 0 + _ ≤ _; exact Nat.le_of_eq rfl) (hb hby at_129) (fun _ _ => ⟨rfl, rfl, (by decide : 7 + 0 ≤ _), (by decide : 18 + 0 ≤ _)⟩)
          dsimp only [Pt.U, Pt.locs, Pt.cells, Pt.slots] at X147 l147 y147 z147 st147 hQ147
          subst l147 y147 z147
          obtain ⟨rfl, N147q, eh147⟩ := hQ147
          have N147 := Fr.app N145 N147q
          refine own_toH (fun t k => st147.trans k) ?_
          show own_FinH _ _ _ _ _ _ _ _ (T147.setTop (mkF m 132 #[.val (.int p1), .val (.long q1), .second, .val (.long q2), .second, .val (.long q3), .second, .val (.int p5), .val (.int p6), .val (.int (p1 &&& (3 : Int32))), .val .null, .val .null, .val (.ref w2), .val (.long u), .second, .val (.ref b144), .val (.int (0 : Int32)), .val (.int (1 : Int32)), .val (.int (0 : Int32))] [(.int (0 : Int32))]))
          refine own_toH (fun t k => XS.iload X147.here hx rfl (hb hby at_132) rfl k) ?_
          show own_FinH _ _ _ _ _ _ _ _ (T147.setTop (mkF m 134 #[.val (.int p1), .val (.long q1), .second, .val (.long q2), .second, .val (.long q3), .second, .val (.int p5), .val (.int p6), .val (.int (p1 &&& (3 : Int32))), .val .null, .val .null, .val (.ref w2), .val (.long u), .second, .val (.ref b144), .val (.int (0 : Int32)), .val (.int (1 : Int32)), .val (.int (0 : Int32))] [(.int (0 : Int32)), (.int (0 : Int32))]))
          refine own_toH (fun t k => XS.icmpNo X147.here hx rfl (hb hby at_134) rfl (teq rfl).2 k) ?_
          show own_FinH _ _ _ _ _ _ _ _ (T147.setTop (mkF m 137 #[.val (.int p1), .val (.long q1), .second, .val (.long q2), .second, .val (.long q3), .second, .val (.int p5), .val (.int p6), .val (.int (p1 &&& (3 : Int32))), .val .null, .val .null, .val (.ref w2), .val (.long u), .second, .val (.ref b144), .val (.int (0 : Int32)), .val (.int (1 : Int32)), .val (.int (0 : Int32))] []))
          refine own_toH (fun t k => XS.iconst X147.here hx rfl (hb hby at_137) k) ?_
          show own_FinH _ _ _ _ _ _ _ _ (T147.setTop (mkF m 138 #[.val (.int p1), .val (.long q1), .second, .val (.long q2), .second, .val (.long q3), .second, .val (.int p5), .val (.int p6), .val (.int (p1 &&& (3 : Int32))), .val .null, .val .null, .val (.ref w2), .val (.long u), .second, .val (.ref b144), .val (.int (0 : Int32)), .val (.int (1 : Int32)), .val (.int (0 : Int32))] [(.int (1 : Int32))]))
          refine own_toH (fun t k => XS.goto X147.here hx rfl (pc0 := 138) (pc' := 142) rfl (hb hby at_138) (by decide) (by decide) k) ?_
          show own_FinH _ _ _ _ _ _ _ _ (T147.setTop (mkF m 142 #[.val (.int p1), .val (.long q1), .second, .val (.long q2), .second, .val (.long q3), .second, .val (.int p5), .val (.int p6), .val (.int (p1 &&& (3 : Int32))), .val .null, .val .null, .val (.ref w2), .val (.long u), .second, .val (.ref b144), .val (.int (0 : Int32)), .val (.int (1 : Int32)), .val (.int (0 : Int32))] [(.int (1 : Int32))]))
          refine own_retNH X147 hS142 (by rw [eh147]; exact (Nat.le_trans (Nat.le_trans (Nat.le_refl _) E144.1) K145.1)) hZ hEL (by rw [eh147]; exact hH145) (by rw [eh147]; exact hR145) hx hlk (t := .boolean) hret (by simp) (hb hby at_142) (by decide) (by decide) ?_
          try rw [eh147]
          exact ⟨rfl, N147⟩
        ·
          show own_FinH _ _ _ _ _ _ _ _ (T145.setTop (mkF m 101 #[.val (.int p1), .val (.long q1), .second, .val (.long q2), .second, .val (.long q3), .second, .val (.int p5), .val (.int p6), .val (.int (p1 &&& (3 : Int32))), .val .null, .val .null, .val (.ref w2), .val (.long u), .second, .val (.ref b144), .val (.int (0 : Int32)), .unset, .unset] [(.int (lcmpW ((u.toUInt64 >>> ((63 : Int32) &&& 0x3f).toInt64.toUInt64).toInt64) (0 : Int64)))]))
          refine own_toH (fun t k => XS.ifYes X145.here hx rfl (pc0 := 101) (pc' := 108) rfl (hb hby at_101) rfl ((if0 _ _).trans (feq (fun z => hc101_146 ((lw_eq _ _).mp z))).2) (by decide) (by decide) k) ?_
          show own_FinH _ _ _ _ _ _ _ _ (T145.setTop (mkF m 108 #[.val (.int p1), .val (.long q1), .second, .val (.long q2), .second, .val (.long q3), .second, .val (.int p5), .val (.int p6), .val (.int (p1 &&& (3 : Int32))), .val .null, .val .null, .val (.ref w2), .val (.long u), .second, .val (.ref b144), .val (.int (0 : Int32)), .unset, .unset] []))
          refine own_toH (fun t k => XS.iconst X145.here hx rfl (hb hby at_108) k) ?_
          show own_FinH _ _ _ _ _ _ _ _ (T145.setTop (mkF m 109 #[.val (.int p1), .val (.long q1), .second, .val (.long q2), .second, .val (.long q3), .second, .val (.int p5), .val (.int p6), .val (.int (p1 &&& (3 : Int32))), .val .null, .val .null, .val (.ref w2), .val (.long u), .second, .val (.ref b144), .val (.int (0 : Int32)), .unset, .unset] [(.int (0 : Int32))]))
          refine own_toH (fun t k => XS.istore X145.here hx rfl (hb hby at_109) rfl (l' := #[.val (.int p1), .val (.long q1), .second, .val (.long q2), .second, .val (.long q3), .second, .val (.int p5), .val (.int p6), .val (.int (p1 &&& (3 : Int32))), .val .null, .val .null, .val (.ref w2), .val (.long u), .second, .val (.ref b144), .val (.int (0 : Int32)), .val (.int (0 : Int32)), .unset]) rfl k) ?_
          show own_FinH _ _ _ _ _ _ _ _ (T145.setTop (mkF m 111 #[.val (.int p1), .val (.long q1), .second, .val (.long q2), .second, .val (.long q3), .second, .val (.int p5), .val (.int p6), .val (.int (p1 &&& (3 : Int32))), .val .null, .val .null, .val (.ref w2), .val (.long u), .second, .val (.ref b144), .val (.int (0 : Int32)), .val (.int (0 : Int32)), .unset] []))
          refine own_toH (fun t k => XS.iconst X145.here hx rfl (hb hby at_111) k) ?_
          show own_FinH _ _ _ _ _ _ _ _ (T145.setTop (mkF m 112 #[.val (.int p1), .val (.long q1), .second, .val (.long q2), .second, .val (.long q3), .second, .val (.int p5), .val (.int p6), .val (.int (p1 &&& (3 : Int32))), .val .null, .val .null, .val (.ref w2), .val (.long u), .second, .val (.ref b144), .val (.int (0 : Int32)), .val (.int (0 : Int32)), .unset] [(.int (0 : Int32))]))
          refine own_toH (fun t k => XS.istore X145.here hx rfl (hb hby at_112) rfl (l' := #[.val (.int p1), .val (.long q1), .second, .val (.long q2), .second, .val (.long q3), .second, .val (.int p5), .val (.int p6), .val (.int (p1 &&& (3 : Int32))), .val .null, .val .null, .val (.ref w2), .val (.long u), .second, .val (.ref b144), .val (.int (0 : Int32)), .val (.int (0 : Int32)), .val (.int (0 : Int32))]) rfl k) ?_
          show own_FinH _ _ _ _ _ _ _ _ (T145.setTop (mkF m 114 #[.val (.int p1), .val (.long q1), .second, .val (.long q2), .second, .val (.long q3), .second, .val (.int p5), .val (.int p6), .val (.int (p1 &&& (3 : Int32))), .val .null, .val .null, .val (.ref w2), .val (.long u), .second, .val (.ref b144), .val (.int (0 : Int32)), .val (.int (0 : Int32)), .val (.int (0 : Int32))] []))
          refine own_toH (fun t k => XS.iload X145.here hx rfl (hb hby at_114) rfl k) ?_
          show own_FinH _ _ _ _ _ _ _ _ (T145.setTop (mkF m 116 #[.val (.int p1), .val (.long q1), .second, .val (.long q2), .second, .val (.long q3), .second, .val (.int p5), .val (.int p6), .val (.int (p1 &&& (3 : Int32))), .val .null, .val .null, .val (.ref w2), .val (.long u), .second, .val (.ref b144), .val (.int (0 : Int32)), .val (.int (0 : Int32)), .val (.int (0 : Int32))] [(.int (0 : Int32))]))
          refine own_toH (fun t k => XS.ifYes X145.here hx rfl (pc0 := 116) (pc' := 127) rfl (hb hby at_116) rfl ((if0 _ _).trans (teq rfl).1) (by decide) (by decide) k) ?_
          show own_FinH _ _ _ _ _ _ _ _ (T145.setTop (mkF m 127 #[.val (.int p1), .val (.long q1), .second, .val (.long q2), .second, .val (.long q3), .second, .val (.int p5), .val (.int p6), .val (.int (p1 &&& (3 : Int32))), .val .null, .val .null, .val (.ref w2), .val (.long u), .second, .val (.ref b144), .val (.int (0 : Int32)), .val (.int (0 : Int32)), .val (.int (0 : Int32))] []))
          refine own_toH (fun t k => XS.aload X145.here hx rfl (hb hby at_127) rfl rfl k) ?_
          show own_FinH _ _ _ _ _ _ _ _ (T145.setTop (mkF m 129 #[.val (.int p1), .val (.long q1), .second, .val (.long q2), .second, .val (.long q3), .second, .val (.int p5), .val (.int p6), .val (.int (p1 &&& (3 : Int32))), .val .null, .val .null, .val (.ref w2), .val (.long u), .second, .val (.ref b144), .val (.int (0 : Int32)), .val (.int (0 : Int32)), .val (.int (0 : Int32))] [(.ref b144)]))
          obtain ⟨cq148, kq148, q148a, q148b, q148c⟩ := isOf hZ rfl A144_e145
          obtain ⟨_, _, ⟨T148, L148, k148, n148⟩, -, X148, ⟨Lc148, hQ148, l148, y148, z148⟩, st148⟩ := X145.virtualBack hx (y := (⟨"com/example/deft_lock/deftlock/service/ServerInfo", "tellsUptime", "()Z"⟩ : MethodName)) (z := (⟨"com/example/deft_lock/deftlock/service/ServerInfo", "tellsUptime", "()Z"⟩ : MethodName)) hown (mvT hZ (hw _ (List.mem_of_getElem? (i := 33) rfl))) (mvT hZ (hw _ (List.mem_of_getElem? (i := 34) rfl))) (notFace_of_selects (args := #[]) (mvT hZ (hw _ (List.mem_of_getElem? (i := 36) rfl)))) (mvT hZ (hw _ (List.mem_of_getElem? (i := 36) rfl))) (mvT hZ (hw _ (List.mem_of_getElem? (i := 35) rfl))) (by decide) (own_back (W := 0) (own_tuN l Z a0 hw [] b144 T145.heap n0 (Nat.le_trans (Nat.le_trans (Nat.le_trans Z0 K142.1) E144.1) K145.1) Fr1) hZ (hw _ (List.mem_of_getElem? (i := 37) rfl)) (hw _ (List.mem_of_getElem? (i := 9) rfl)) (by decide) (by decide)) q148a q148c (g := (mkF m 129 #[.val (.int p1), .val (.long q1), .second, .val (.long q2), .second, .val (.long q3), .second, .val (.int p5), .val (.int p6), .val (.int (p1 &&& (3 : Int32))), .val .null, .val .null, .val (.ref w2), .val (.long u), .second, .val (.ref b144), .val (.int (0 : Int32)), .val (.int (0 : Int32)), .val (.int (0 : Int32))] [(.ref b144)])) rfl (by rw [hml]; rfl) (Steps.refl _) (argsL := []) (rest := []) (lenOf own_pd9 rfl) rfl (by show 2 * 0 + _ ≤ _; exact Nat.le_of_eq rfl) (hb hby at_129) (fun _ _ => ⟨rfl, rfl, (by decide : 7 + 0 ≤ _), (by decide : 18 + 0 ≤ _)⟩)
          dsimp only [Pt.U, Pt.locs, Pt.cells, Pt.slots] at X148 l148 y148 z148 st148 hQ148
          subst l148 y148 z148
          obtain ⟨rfl, N148q, eh148⟩ := hQ148
          have N148 := Fr.app N145 N148q
          refine own_toH (fun t k => st148.trans k) ?_
          show own_FinH _ _ _ _ _ _ _ _ (T148.setTop (mkF m 132 #[.val (.int p1), .val (.long q1), .second, .val (.long q2), .second, .val (.long q3), .second, .val (.int p5), .val (.int p6), .val (.int (p1 &&& (3 : Int32))), .val .null, .val .null, .val (.ref w2), .val (.long u), .second, .val (.ref b144), .val (.int (0 : Int32)), .val (.int (0 : Int32)), .val (.int (0 : Int32))] [(.int (0 : Int32))]))
          refine own_toH (fun t k => XS.iload X148.here hx rfl (hb hby at_132) rfl k) ?_
          show own_FinH _ _ _ _ _ _ _ _ (T148.setTop (mkF m 134 #[.val (.int p1), .val (.long q1), .second, .val (.long q2), .second, .val (.long q3), .second, .val (.int p5), .val (.int p6), .val (.int (p1 &&& (3 : Int32))), .val .null, .val .null, .val (.ref w2), .val (.long u), .second, .val (.ref b144), .val (.int (0 : Int32)), .val (.int (0 : Int32)), .val (.int (0 : Int32))] [(.int (0 : Int32)), (.int (0 : Int32))]))
          refine own_toH (fun t k => XS.icmpNo X148.here hx rfl (hb hby at_134) rfl (teq rfl).2 k) ?_
          show own_FinH _ _ _ _ _ _ _ _ (T148.setTop (mkF m 137 #[.val (.int p1), .val (.long q1), .second, .val (.long q2), .second, .val (.long q3), .second, .val (.int p5), .val (.int p6), .val (.int (p1 &&& (3 : Int32))), .val .null, .val .null, .val (.ref w2), .val (.long u), .second, .val (.ref b144), .val (.int (0 : Int32)), .val (.int (0 : Int32)), .val (.int (0 : Int32))] []))
          refine own_toH (fun t k => XS.iconst X148.here hx rfl (hb hby at_137) k) ?_
          show own_FinH _ _ _ _ _ _ _ _ (T148.setTop (mkF m 138 #[.val (.int p1), .val (.long q1), .second, .val (.long q2), .second, .val (.long q3), .second, .val (.int p5), .val (.int p6), .val (.int (p1 &&& (3 : Int32))), .val .null, .val .null, .val (.ref w2), .val (.long u), .second, .val (.ref b144), .val (.int (0 : Int32)), .val (.int (0 : Int32)), .val (.int (0 : Int32))] [(.int (1 : Int32))]))
          refine own_toH (fun t k => XS.goto X148.here hx rfl (pc0 := 138) (pc' := 142) rfl (hb hby at_138) (by decide) (by decide) k) ?_
          show own_FinH _ _ _ _ _ _ _ _ (T148.setTop (mkF m 142 #[.val (.int p1), .val (.long q1), .second, .val (.long q2), .second, .val (.long q3), .second, .val (.int p5), .val (.int p6), .val (.int (p1 &&& (3 : Int32))), .val .null, .val .null, .val (.ref w2), .val (.long u), .second, .val (.ref b144), .val (.int (0 : Int32)), .val (.int (0 : Int32)), .val (.int (0 : Int32))] [(.int (1 : Int32))]))
          refine own_retNH X148 hS142 (by rw [eh148]; exact (Nat.le_trans (Nat.le_trans (Nat.le_refl _) E144.1) K145.1)) hZ hEL (by rw [eh148]; exact hH145) (by rw [eh148]; exact hR145) hx hlk (t := .boolean) hret (by simp) (hb hby at_142) (by decide) (by decide) ?_
          try rw [eh148]
          exact ⟨rfl, N148⟩
    ·
      show own_FinH _ _ _ _ _ _ _ _ (T131.setTop (mkF m 25 #[.val (.int p1), .val (.long q1), .second, .val (.long q2), .second, .val (.long q3), .second, .val (.int p5), .val (.int p6), .val (.int (p1 &&& (3 : Int32))), .val .null, .unset, .unset, .unset, .unset, .unset, .unset, .unset, .unset] [(.int p5), (.int p6), (.int (((p1.toUInt32 >>> ((2 : Int32) &&& 31).toUInt32).toInt32) &&& (3 : Int32)))]))
      obtain ⟨_, _, ⟨T149, L149, k149, n149⟩, -, X149, S149a, S149b, ⟨Lc149, hQ149, l149, y149, z149, hC149⟩, st149⟩ := callSS X131 hx (y := (⟨"com/example/deft_lock/deftlock/service/ServerInfoTellsUptimePinLaw", "drawn", "(III)Ljava/lang/String;"⟩ : MethodName)) hown (mvT hZ (hw _ (List.mem_of_getElem? (i := 0) rfl))) (mvT hZ (hw _ (List.mem_of_getElem? (i := 1) rfl))) (mvT hZ (hw _ (List.mem_of_getElem? (i := 2) rfl))) (mvT hZ (hw _ (List.mem_of_getElem? (i := 3) rfl))) (by decide) (own_backH (W := 0) (own_drR l Z a0 hw [] cs (((p1.toUInt32 >>> ((2 : Int32) &&& 31).toUInt32).toInt32) &&& (3 : Int32)) p6 p5 h0 n0 Z0 O0 SS hcs hf132) hZ (hw _ (List.mem_of_getElem? (i := 3) rfl)) (hw _ (List.mem_of_getElem? (i := 2) rfl)) (by decide) (by decide) hEL hH all0) (g := (mkF m 25 #[.val (.int p1), .val (.long q1), .second, .val (.long q2), .second, .val (.long q3), .second, .val (.int p5), .val (.int p6), .val (.int (p1 &&& (3 : Int32))), .val .null, .unset, .unset, .unset, .unset, .unset, .unset, .unset, .unset] [(.int p5), (.int p6), (.int (((p1.toUInt32 >>> ((2 : Int32) &&& 31).toUInt32).toInt32) &&& (3 : Int32)))])) rfl (by rw [hml]; rfl) (argsL := [(.int (((p1.toUInt32 >>> ((2 : Int32) &&& 31).toUInt32).toInt32) &&& (3 : Int32))), (.int p6), (.int p5)]) (rest := []) (lenOf own_pd6 rfl) rfl (by show 2 * 0 + _ ≤ _; exact Nat.le_of_eq rfl) (hb hby at_25) (fun _ _ => ⟨rfl, eh131, (by decide : 0 + 6 ≤ _), (by decide : 0 + 12 ≤ _)⟩)
      dsimp only [Pt.U, Pt.locs, Pt.cells, Pt.slots] at X149 l149 y149 z149 st149 hQ149 S149a S149b hC149
      subst l149 y149 z149
      obtain ⟨X149r, hS149, hZ, hown⟩ := rebS hS (n1 := T131.heap.size) (by rw [eh131]; exact (Nat.zero_le _)) X149 S149a S149b hZ hown
      obtain ⟨w1, rfl, N149q, K149, g_w1, szx_w1, E_w1⟩ := hQ149
      have N149 := Fr.app N131 N149q
      have hR149 := hR.trans hC149
      have hH149 := hC149.1
      have O149 := O0.keep K149 all0
      refine own_toH (fun t k => st149.trans k) ?_
      show own_FinH _ _ _ _ _ _ _ _ (T149.setTop (mkF m 28 #[.val (.int p1), .val (.long q1), .second, .val (.long q2), .second, .val (.long q3), .second, .val (.int p5), .val (.int p6), .val (.int (p1 &&& (3 : Int32))), .val .null, .unset, .unset, .unset, .unset, .unset, .unset, .unset, .unset] [(.ref w1)]))
      refine own_toH (fun t k => XS.astore X149r.here hx rfl (hb hby at_28) rfl rfl (l' := #[.val (.int p1), .val (.long q1), .second, .val (.long q2), .second, .val (.long q3), .second, .val (.int p5), .val (.int p6), .val (.int (p1 &&& (3 : Int32))), .val .null, .val (.ref w1), .unset, .unset, .unset, .unset, .unset, .unset, .unset]) rfl k) ?_
      show own_FinH _ _ _ _ _ _ _ _ (T149.setTop (mkF m 30 #[.val (.int p1), .val (.long q1), .second, .val (.long q2), .second, .val (.long q3), .second, .val (.int p5), .val (.int p6), .val (.int (p1 &&& (3 : Int32))), .val .null, .val (.ref w1), .unset, .unset, .unset, .unset, .unset, .unset, .unset] []))
      refine own_toH (fun t k => XS.iloadN X149r.here hx rfl (hb hby at_30) rfl k) ?_
      show own_FinH _ _ _ _ _ _ _ _ (T149.setTop (mkF m 31 #[.val (.int p1), .val (.long q1), .second, .val (.long q2), .second, .val (.long q3), .second, .val (.int p5), .val (.int p6), .val (.int (p1 &&& (3 : Int32))), .val .null, .val (.ref w1), .unset, .unset, .unset, .unset, .unset, .unset, .unset] [(.int p1)]))
      refine own_toH (fun t k => XS.iconst X149r.here hx rfl (hb hby at_31) k) ?_
      show own_FinH _ _ _ _ _ _ _ _ (T149.setTop (mkF m 32 #[.val (.int p1), .val (.long q1), .second, .val (.long q2), .second, .val (.long q3), .second, .val (.int p5), .val (.int p6), .val (.int (p1 &&& (3 : Int32))), .val .null, .val (.ref w1), .unset, .unset, .unset, .unset, .unset, .unset, .unset] [(.int (4 : Int32)), (.int p1)]))
      refine own_toH (fun t k => XS.iushr X149r.here hx rfl (hb hby at_32) rfl k) ?_
      show own_FinH _ _ _ _ _ _ _ _ (T149.setTop (mkF m 33 #[.val (.int p1), .val (.long q1), .second, .val (.long q2), .second, .val (.long q3), .second, .val (.int p5), .val (.int p6), .val (.int (p1 &&& (3 : Int32))), .val .null, .val (.ref w1), .unset, .unset, .unset, .unset, .unset, .unset, .unset] [(.int ((p1.toUInt32 >>> ((4 : Int32) &&& 31).toUInt32).toInt32))]))
      refine own_toH (fun t k => XS.iconst X149r.here hx rfl (hb hby at_33) k) ?_
      show own_FinH _ _ _ _ _ _ _ _ (T149.setTop (mkF m 34 #[.val (.int p1), .val (.long q1), .second, .val (.long q2), .second, .val (.long q3), .second, .val (.int p5), .val (.int p6), .val (.int (p1 &&& (3 : Int32))), .val .null, .val (.ref w1), .unset, .unset, .unset, .unset, .unset, .unset, .unset] [(.int (3 : Int32)), (.int ((p1.toUInt32 >>> ((4 : Int32) &&& 31).toUInt32).toInt32))]))
      refine own_toH (fun t k => XS.iand X149r.here hx rfl (hb hby at_34) rfl k) ?_
      show own_FinH _ _ _ _ _ _ _ _ (T149.setTop (mkF m 35 #[.val (.int p1), .val (.long q1), .second, .val (.long q2), .second, .val (.long q3), .second, .val (.int p5), .val (.int p6), .val (.int (p1 &&& (3 : Int32))), .val .null, .val (.ref w1), .unset, .unset, .unset, .unset, .unset, .unset, .unset] [(.int (((p1.toUInt32 >>> ((4 : Int32) &&& 31).toUInt32).toInt32) &&& (3 : Int32)))]))
      refine own_toH (fun t k => XS.iload X149r.here hx rfl (hb hby at_35) rfl k) ?_
      show own_FinH _ _ _ _ _ _ _ _ (T149.setTop (mkF m 37 #[.val (.int p1), .val (.long q1), .second, .val (.long q2), .second, .val (.long q3), .second, .val (.int p5), .val (.int p6), .val (.int (p1 &&& (3 : Int32))), .val .null, .val (.ref w1), .unset, .unset, .unset, .unset, .unset, .unset, .unset] [(.int p5), (.int (((p1.toUInt32 >>> ((4 : Int32) &&& 31).toUInt32).toInt32) &&& (3 : Int32)))]))
      refine own_toH (fun t k => XS.bipush X149r.here hx rfl (hb hby at_37) k) ?_
      show own_FinH _ _ _ _ _ _ _ _ (T149.setTop (mkF m 39 #[.val (.int p1), .val (.long q1), .second, .val (.long q2), .second, .val (.long q3), .second, .val (.int p5), .val (.int p6), .val (.int (p1 &&& (3 : Int32))), .val .null, .val (.ref w1), .unset, .unset, .unset, .unset, .unset, .unset, .unset] [(.int (8 : Int32)), (.int p5), (.int (((p1.toUInt32 >>> ((4 : Int32) &&& 31).toUInt32).toInt32) &&& (3 : Int32)))]))
      refine own_toH (fun t k => XS.iushr X149r.here hx rfl (hb hby at_39) rfl k) ?_
      show own_FinH _ _ _ _ _ _ _ _ (T149.setTop (mkF m 40 #[.val (.int p1), .val (.long q1), .second, .val (.long q2), .second, .val (.long q3), .second, .val (.int p5), .val (.int p6), .val (.int (p1 &&& (3 : Int32))), .val .null, .val (.ref w1), .unset, .unset, .unset, .unset, .unset, .unset, .unset] [(.int ((p5.toUInt32 >>> ((8 : Int32) &&& 31).toUInt32).toInt32)), (.int (((p1.toUInt32 >>> ((4 : Int32) &&& 31).toUInt32).toInt32) &&& (3 : Int32)))]))
      refine own_toH (fun t k => XS.iload X149r.here hx rfl (hb hby at_40) rfl k) ?_
      show own_FinH _ _ _ _ _ _ _ _ (T149.setTop (mkF m 42 #[.val (.int p1), .val (.long q1), .second, .val (.long q2), .second, .val (.long q3), .second, .val (.int p5), .val (.int p6), .val (.int (p1 &&& (3 : Int32))), .val .null, .val (.ref w1), .unset, .unset, .unset, .unset, .unset, .unset, .unset] [(.int p6), (.int ((p5.toUInt32 >>> ((8 : Int32) &&& 31).toUInt32).toInt32)), (.int (((p1.toUInt32 >>> ((4 : Int32) &&& 31).toUInt32).toInt32) &&& (3 : Int32)))]))
      refine own_toH (fun t k => XS.bipush X149r.here hx rfl (hb hby at_42) k) ?_
      show own_FinH _ _ _ _ _ _ _ _ (T149.setTop (mkF m 44 #[.val (.int p1), .val (.long q1), .second, .val (.long q2), .second, .val (.long q3), .second, .val (.int p5), .val (.int p6), .val (.int (p1 &&& (3 : Int32))), .val .null, .val (.ref w1), .unset, .unset, .unset, .unset, .unset, .unset, .unset] [(.int (8 : Int32)), (.int p6), (.int ((p5.toUInt32 >>> ((8 : Int32) &&& 31).toUInt32).toInt32)), (.int (((p1.toUInt32 >>> ((4 : Int32) &&& 31).toUInt32).toInt32) &&& (3 : Int32)))]))
      refine own_toH (fun t k => XS.iushr X149r.here hx rfl (hb hby at_44) rfl k) ?_
      show own_FinH _ _ _ _ _ _ _ _ (T149.setTop (mkF m 45 #[.val (.int p1), .val (.long q1), .second, .val (.long q2), .second, .val (.long q3), .second, .val (.int p5), .val (.int p6), .val (.int (p1 &&& (3 : Int32))), .val .null, .val (.ref w1), .unset, .unset, .unset, .unset, .unset, .unset, .unset] [(.int ((p6.toUInt32 >>> ((8 : Int32) &&& 31).toUInt32).toInt32)), (.int ((p5.toUInt32 >>> ((8 : Int32) &&& 31).toUInt32).toInt32)), (.int (((p1.toUInt32 >>> ((4 : Int32) &&& 31).toUInt32).toInt32) &&& (3 : Int32)))]))
      by_cases hf150 : (((p1.toUInt32 >>> ((4 : Int32) &&& 31).toUInt32).toInt32) &&& (3 : Int32)) = (0 : Int32)
      ·
        show own_FinH _ _ _ _ _ _ _ _ (T149.setTop (mkF m 45 #[.val (.int p1), .val (.long q1), .second, .val (.long q2), .second, .val (.long q3), .second, .val (.int p5), .val (.int p6), .val (.int (p1 &&& (3 : Int32))), .val .null, .val (.ref w1), .unset, .unset, .unset, .unset, .unset, .unset, .unset] [(.int ((p6.toUInt32 >>> ((8 : Int32) &&& 31).toUInt32).toInt32)), (.int ((p5.toUInt32 >>> ((8 : Int32) &&& 31).toUInt32).toInt32)), (.int (((p1.toUInt32 >>> ((4 : Int32) &&& 31).toUInt32).toInt32) &&& (3 : Int32)))]))
        obtain ⟨_, _, ⟨T151, L151, k151, n151⟩, -, X151, ⟨Lc151, hQ151, l151, y151, z151⟩, st151⟩ := Jvm.LawKit.callS X149r hx (y := (⟨"com/example/deft_lock/deftlock/service/ServerInfoTellsUptimePinLaw", "drawn", "(III)Ljava/lang/String;"⟩ : MethodName)) hown (mvT hZ (hw _ (List.mem_of_getElem? (i := 0) rfl))) (mvT hZ (hw _ (List.mem_of_getElem? (i := 1) rfl))) (mvT hZ (hw _ (List.mem_of_getElem? (i := 2) rfl))) (mvT hZ (hw _ (List.mem_of_getElem? (i := 3) rfl))) (by decide) (own_back (W := 0) (own_drN l Z a0 hw [] (((p1.toUInt32 >>> ((4 : Int32) &&& 31).toUInt32).toInt32) &&& (3 : Int32)) ((p5.toUInt32 >>> ((8 : Int32) &&& 31).toUInt32).toInt32) ((p6.toUInt32 >>> ((8 : Int32) &&& 31).toUInt32).toInt32) T149.heap n0 (Nat.le_trans Z0 K149.1) hf150) hZ (hw _ (List.mem_of_getElem? (i := 3) rfl)) (hw _ (List.mem_of_getElem? (i := 2) rfl)) (by decide) (by decide)) (g := (mkF m 45 #[.val (.int p1), .val (.long q1), .second, .val (.long q2), .second, .val (.long q3), .second, .val (.int p5), .val (.int p6), .val (.int (p1 &&& (3 : Int32))), .val .null, .val (.ref w1), .unset, .unset, .unset, .unset, .unset, .unset, .unset] [(.int ((p6.toUInt32 >>> ((8 : Int32) &&& 31).toUInt32).toInt32)), (.int ((p5.toUInt32 >>> ((8 : Int32) &&& 31).toUInt32).toInt32)), (.int (((p1.toUInt32 >>> ((4 : Int32) &&& 31).toUInt32).toInt32) &&& (3 : Int32)))])) rfl (by rw [hml]; rfl) (argsL := [(.int (((p1.toUInt32 >>> ((4 : Int32) &&& 31).toUInt32).toInt32) &&& (3 : Int32))), (.int ((p5.toUInt32 >>> ((8 : Int32) &&& 31).toUInt32).toInt32)), (.int ((p6.toUInt32 >>> ((8 : Int32) &&& 31).toUInt32).toInt32))]) (rest := []) (lenOf own_pd6 rfl) rfl (by show 2 * 0 + _ ≤ _; exact Nat.le_of_eq rfl) (hb hby at_45) (fun _ _ => ⟨rfl, rfl, (by decide : 6 + 0 ≤ _), (by decide : 12 + 0 ≤ _)⟩)
        dsimp only [Pt.U, Pt.locs, Pt.cells, Pt.slots] at X151 l151 y151 z151 st151 hQ151
        subst l151 y151 z151
        obtain ⟨rfl, N151q, eh151⟩ := hQ151
        have N151 := Fr.app N149 N151q
        refine own_toH (fun t k => st151 t k) ?_
        show own_FinH _ _ _ _ _ _ _ _ (T151.setTop (mkF m 48 #[.val (.int p1), .val (.long q1), .second, .val (.long q2), .second, .val (.long q3), .second, .val (.int p5), .val (.int p6), .val (.int (p1 &&& (3 : Int32))), .val .null, .val (.ref w1), .unset, .unset, .unset, .unset, .unset, .unset, .unset] [.null]))
        refine own_toH (fun t k => XS.astore X151.here hx rfl (hb hby at_48) rfl rfl (l' := #[.val (.int p1), .val (.long q1), .second, .val (.long q2), .second, .val (.long q3), .second, .val (.int p5), .val (.int p6), .val (.int (p1 &&& (3 : Int32))), .val .null, .val (.ref w1), .val .null, .unset, .unset, .unset, .unset, .unset, .unset]) rfl k) ?_
        show own_FinH _ _ _ _ _ _ _ _ (T151.setTop (mkF m 50 #[.val (.int p1), .val (.long q1), .second, .val (.long q2), .second, .val (.long q3), .second, .val (.int p5), .val (.int p6), .val (.int (p1 &&& (3 : Int32))), .val .null, .val (.ref w1), .val .null, .unset, .unset, .unset, .unset, .unset, .unset] []))
        refine own_toH (fun t k => XS.iloadN X151.here hx rfl (hb hby at_50) rfl k) ?_
        show own_FinH _ _ _ _ _ _ _ _ (T151.setTop (mkF m 51 #[.val (.int p1), .val (.long q1), .second, .val (.long q2), .second, .val (.long q3), .second, .val (.int p5), .val (.int p6), .val (.int (p1 &&& (3 : Int32))), .val .null, .val (.ref w1), .val .null, .unset, .unset, .unset, .unset, .unset, .unset] [(.int p1)]))
        refine own_toH (fun t k => XS.bipush X151.here hx rfl (hb hby at_51) k) ?_
        show own_FinH _ _ _ _ _ _ _ _ (T151.setTop (mkF m 53 #[.val (.int p1), .val (.long q1), .second, .val (.long q2), .second, .val (.long q3), .second, .val (.int p5), .val (.int p6), .val (.int (p1 &&& (3 : Int32))), .val .null, .val (.ref w1), .val .null, .unset, .unset, .unset, .unset, .unset, .unset] [(.int (6 : Int32)), (.int p1)]))
        refine own_toH (fun t k => XS.iushr X151.here hx rfl (hb hby at_53) rfl k) ?_
        show own_FinH _ _ _ _ _ _ _ _ (T151.setTop (mkF m 54 #[.val (.int p1), .val (.long q1), .second, .val (.long q2), .second, .val (.long q3), .second, .val (.int p5), .val (.int p6), .val (.int (p1 &&& (3 : Int32))), .val .null, .val (.ref w1), .val .null, .unset, .unset, .unset, .unset, .unset, .unset] [(.int ((p1.toUInt32 >>> ((6 : Int32) &&& 31).toUInt32).toInt32))]))
        refine own_toH (fun t k => XS.iconst X151.here hx rfl (hb hby at_54) k) ?_
        show own_FinH _ _ _ _ _ _ _ _ (T151.setTop (mkF m 55 #[.val (.int p1), .val (.long q1), .second, .val (.long q2), .second, .val (.long q3), .second, .val (.int p5), .val (.int p6), .val (.int (p1 &&& (3 : Int32))), .val .null, .val (.ref w1), .val .null, .unset, .unset, .unset, .unset, .unset, .unset] [(.int (3 : Int32)), (.int ((p1.toUInt32 >>> ((6 : Int32) &&& 31).toUInt32).toInt32))]))
        refine own_toH (fun t k => XS.iand X151.here hx rfl (hb hby at_55) rfl k) ?_
        show own_FinH _ _ _ _ _ _ _ _ (T151.setTop (mkF m 56 #[.val (.int p1), .val (.long q1), .second, .val (.long q2), .second, .val (.long q3), .second, .val (.int p5), .val (.int p6), .val (.int (p1 &&& (3 : Int32))), .val .null, .val (.ref w1), .val .null, .unset, .unset, .unset, .unset, .unset, .unset] [(.int (((p1.toUInt32 >>> ((6 : Int32) &&& 31).toUInt32).toInt32) &&& (3 : Int32)))]))
        refine own_toH (fun t k => XS.lloadN X151.here hx rfl (hb hby at_56) rfl k) ?_
        show own_FinH _ _ _ _ _ _ _ _ (T151.setTop (mkF m 57 #[.val (.int p1), .val (.long q1), .second, .val (.long q2), .second, .val (.long q3), .second, .val (.int p5), .val (.int p6), .val (.int (p1 &&& (3 : Int32))), .val .null, .val (.ref w1), .val .null, .unset, .unset, .unset, .unset, .unset, .unset] [(.long q1), (.int (((p1.toUInt32 >>> ((6 : Int32) &&& 31).toUInt32).toInt32) &&& (3 : Int32)))]))
        obtain ⟨_, _, ⟨T152, L152, k152, n152⟩, -, X152, ⟨Lc152, hQ152, l152, y152, z152⟩, st152⟩ := Jvm.LawKit.callS X151 hx (y := (⟨"com/example/deft_lock/deftlock/service/ServerInfoTellsUptimePinLaw", "pickUptime", "(IJ)J"⟩ : MethodName)) hown (mvT hZ (hw _ (List.mem_of_getElem? (i := 4) rfl))) (mvT hZ (hw _ (List.mem_of_getElem? (i := 5) rfl))) (mvT hZ (hw _ (List.mem_of_getElem? (i := 2) rfl))) (mvT hZ (hw _ (List.mem_of_getElem? (i := 6) rfl))) (by decide) (own_back (W := 0) (own_rm2 l Z a0 hw [] (((p1.toUInt32 >>> ((6 : Int32) &&& 31).toUInt32).toInt32) &&& (3 : Int32)) q1 T149.heap n0 (Nat.le_trans Z0 K149.1)) hZ (hw _ (List.mem_of_getElem? (i := 6) rfl)) (hw _ (List.mem_of_getElem? (i := 2) rfl)) (by decide) (by decide)) (g := (mkF m 57 #[.val (.int p1), .val (.long q1), .second, .val (.long q2), .second, .val (.long q3), .second, .val (.int p5), .val (.int p6), .val (.int (p1 &&& (3 : Int32))), .val .null, .val (.ref w1), .val .null, .unset, .unset, .unset, .unset, .unset, .unset] [(.long q1), (.int (((p1.toUInt32 >>> ((6 : Int32) &&& 31).toUInt32).toInt32) &&& (3 : Int32)))])) rfl (by rw [hml]; rfl) (argsL := [(.int (((p1.toUInt32 >>> ((6 : Int32) &&& 31).toUInt32).toInt32) &&& (3 : Int32))), (.long q1)]) (rest := []) (lenOf own_pd7 rfl) rfl (by show 2 * 0 + _ ≤ _; exact Nat.le_of_eq rfl) (hb hby at_57) (fun _ _ => ⟨rfl, eh151, (by decide : 6 + 0 ≤ _), (by decide : 12 + 0 ≤ _)⟩)
        dsimp only [Pt.U, Pt.locs, Pt.cells, Pt.slots] at X152 l152 y152 z152 st152 hQ152
        subst l152 y152 z152
        obtain ⟨rfl, N152q, eh152⟩ := hQ152
        have N152 := Fr.app N151 N152q
        refine own_toH (fun t k => st152 t k) ?_
        show own_FinH _ _ _ _ _ _ _ _ (T152.setTop (mkF m 60 #[.val (.int p1), .val (.long q1), .second, .val (.long q2), .second, .val (.long q3), .second, .val (.int p5), .val (.int p6), .val (.int (p1 &&& (3 : Int32))), .val .null, .val (.ref w1), .val .null, .unset, .unset, .unset, .unset, .unset, .unset] [(.long (own_pick (((p1.toUInt32 >>> ((6 : Int32) &&& 31).toUInt32).toInt32) &&& (3 : Int32)) q1))]))
        obtain ⟨u, eu⟩ : ∃ z, z = (own_pick (((p1.toUInt32 >>> ((6 : Int32) &&& 31).toUInt32).toInt32) &&& (3 : Int32)) q1) := ⟨_, rfl⟩
        rw [← eu]
        show own_FinH _ _ _ _ _ _ _ _ (T152.setTop (mkF m 60 #[.val (.int p1), .val (.long q1), .second, .val (.long q2), .second, .val (.long q3), .second, .val (.int p5), .val (.int p6), .val (.int (p1 &&& (3 : Int32))), .val .null, .val (.ref w1), .val .null, .unset, .unset, .unset, .unset, .unset, .unset] [(.long u)]))
        refine own_toH (fun t k => XS.lstore X152.here hx rfl (hb hby at_60) rfl (l' := #[.val (.int p1), .val (.long q1), .second, .val (.long q2), .second, .val (.long q3), .second, .val (.int p5), .val (.int p6), .val (.int (p1 &&& (3 : Int32))), .val .null, .val (.ref w1), .val .null, .val (.long u), .second, .unset, .unset, .unset, .unset]) rfl k) ?_
        show own_FinH _ _ _ _ _ _ _ _ (T152.setTop (mkF m 62 #[.val (.int p1), .val (.long q1), .second, .val (.long q2), .second, .val (.long q3), .second, .val (.int p5), .val (.int p6), .val (.int (p1 &&& (3 : Int32))), .val .null, .val (.ref w1), .val .null, .val (.long u), .second, .unset, .unset, .unset, .unset] []))
        obtain ⟨T153, h153, X153, e153, E153, A153, D153, U153, st153⟩ := newO X152 hx hZ hown (hw _ (List.mem_of_getElem? (i := 7) rfl)) (hw _ (List.mem_of_getElem? (i := 8) rfl)) (hw _ (List.mem_of_getElem? (i := 9) rfl)) eh152 (g := (mkF m 62 #[.val (.int p1), .val (.long q1), .second, .val (.long q2), .second, .val (.long q3), .second, .val (.int p5), .val (.int p6), .val (.int (p1 &&& (3 : Int32))), .val .null, .val (.ref w1), .val .null, .val (.long u), .second, .unset, .unset, .unset, .unset] [])) rfl (hb hby at_62) (by decide) (by decide)
        obtain ⟨b153, q153⟩ : ∃ z, z = T149.heap.size := ⟨_, rfl⟩
        rw [← q153] at A153 D153 U153 st153
        have ne_w1_b153 : w1 ≠ b153 := Nat.ne_of_lt (Nat.lt_of_lt_of_le E_w1.lt (Nat.le_of_eq q153.symm))
        have g_b153 : n0 ≤ b153 := Nat.le_trans (Nat.le_trans Z0 K149.1) (Nat.le_of_eq q153.symm)
        have Sn_b153 : Safe Z own_EL _ h153 b153 := Safe.ext E153 hH149 (Safe.new (Nat.le_of_eq q153.symm))
        have hR153 := hR149.trans (CHr.ext E153 hH149)
        have hH153 := hH149.ext E153
        have O153 := O149.ext E153
        have E_w1_e153 := E_w1.ext E153
        have FnrunId_153 : Fld Z h153 b153 "com/example/deft_lock/deftlock/service/ServerInfo" "runId" "Ljava/lang/String;" .null := D153 (Or.inr (hw _ (List.mem_of_getElem? (i := 22) rfl))) (ty := (.object "java/lang/String")) (by decide)
        have FnuptimeSeconds_153 : Fld Z h153 b153 "com/example/deft_lock/deftlock/service/ServerInfo" "uptimeSeconds" "J" (.long (0 : Int64)) := D153 (Or.inr (hw _ (List.mem_of_getElem? (i := 24) rfl))) (ty := .long) (by decide)
        have FnclockMicros_153 : Fld Z h153 b153 "com/example/deft_lock/deftlock/service/ServerInfo" "clockMicros" "J" (.long (0 : Int64)) := D153 (Or.inr (hw _ (List.mem_of_getElem? (i := 26) rfl))) (ty := .long) (by decide)
        have Fnrole_153 : Fld Z h153 b153 "com/example/deft_lock/deftlock/service/ServerInfo" "role" "Ljava/lang/String;" .null := D153 (Or.inr (hw _ (List.mem_of_getElem? (i := 28) rfl))) (ty := (.object "java/lang/String")) (by decide)
        have Fnmaster_153 : Fld Z h153 b153 "com/example/deft_lock/deftlock/service/ServerInfo" "master" "Ljava/lang/String;" .null := D153 (Or.inr (hw _ (List.mem_of_getElem? (i := 30) rfl))) (ty := (.object "java/lang/String")) (by decide)
        have FnconnectedReplicas_153 : Fld Z h153 b153 "com/example/deft_lock/deftlock/service/ServerInfo" "connectedReplicas" "J" (.long (0 : Int64)) := D153 (Or.inr (hw _ (List.mem_of_getElem? (i := 32) rfl))) (ty := .long) (by decide)
        refine own_toH (fun t k => st153 t k) ?_
        show own_FinH _ _ _ _ _ _ _ _ (T153.setTop (mkF m 65 #[.val (.int p1), .val (.long q1), .second, .val (.long q2), .second, .val (.long q3), .second, .val (.int p5), .val (.int p6), .val (.int (p1 &&& (3 : Int32))), .val .null, .val (.ref w1), .val .null, .val (.long u), .second, .unset, .unset, .unset, .unset] [(.ref b153)]))
        refine own_toH (fun t k => XS.dup X153.here hx rfl (hb hby at_65) rfl rfl k) ?_
        show own_FinH _ _ _ _ _ _ _ _ (T153.setTop (mkF m 66 #[.val (.int p1), .val (.long q1), .second, .val (.long q2), .second, .val (.long q3), .second, .val (.int p5), .val (.int p6), .val (.int (p1 &&& (3 : Int32))), .val .null, .val (.ref w1), .val .null, .val (.long u), .second, .unset, .unset, .unset, .unset] [(.ref b153), (.ref b153)]))
        refine own_toH (fun t k => XS.aload X153.here hx rfl (hb hby at_66) rfl rfl k) ?_
        show own_FinH _ _ _ _ _ _ _ _ (T153.setTop (mkF m 68 #[.val (.int p1), .val (.long q1), .second, .val (.long q2), .second, .val (.long q3), .second, .val (.int p5), .val (.int p6), .val (.int (p1 &&& (3 : Int32))), .val .null, .val (.ref w1), .val .null, .val (.long u), .second, .unset, .unset, .unset, .unset] [.null, (.ref b153), (.ref b153)]))
        refine own_toH (fun t k => XS.lload X153.here hx rfl (hb hby at_68) rfl k) ?_
        show own_FinH _ _ _ _ _ _ _ _ (T153.setTop (mkF m 70 #[.val (.int p1), .val (.long q1), .second, .val (.long q2), .second, .val (.long q3), .second, .val (.int p5), .val (.int p6), .val (.int (p1 &&& (3 : Int32))), .val .null, .val (.ref w1), .val .null, .val (.long u), .second, .unset, .unset, .unset, .unset] [(.long u), .null, (.ref b153), (.ref b153)]))
        refine own_toH (fun t k => XS.lloadN X153.here hx rfl (hb hby at_70) rfl k) ?_
        show own_FinH _ _ _ _ _ _ _ _ (T153.setTop (mkF m 71 #[.val (.int p1), .val (.long q1), .second, .val (.long q2), .second, .val (.long q3), .second, .val (.int p5), .val (.int p6), .val (.int (p1 &&& (3 : Int32))), .val .null, .val (.ref w1), .val .null, .val (.long u), .second, .unset, .unset, .unset, .unset] [(.long q2), (.long u), .null, (.ref b153), (.ref b153)]))
        refine own_toH (fun t k => XS.aload X153.here hx rfl (hb hby at_71) rfl rfl k) ?_
        show own_FinH _ _ _ _ _ _ _ _ (T153.setTop (mkF m 73 #[.val (.int p1), .val (.long q1), .second, .val (.long q2), .second, .val (.long q3), .second, .val (.int p5), .val (.int p6), .val (.int (p1 &&& (3 : Int32))), .val .null, .val (.ref w1), .val .null, .val (.long u), .second, .unset, .unset, .unset, .unset] [(.ref w1), (.long q2), (.long u), .null, (.ref b153), (.ref b153)]))
        refine own_toH (fun t k => XS.aload X153.here hx rfl (hb hby at_73) rfl rfl k) ?_
        show own_FinH _ _ _ _ _ _ _ _ (T153.setTop (mkF m 75 #[.val (.int p1), .val (.long q1), .second, .val (.long q2), .second, .val (.long q3), .second, .val (.int p5), .val (.int p6), .val (.int (p1 &&& (3 : Int32))), .val .null, .val (.ref w1), .val .null, .val (.long u), .second, .unset, .unset, .unset, .unset] [.null, (.ref w1), (.long q2), (.long u), .null, (.ref b153), (.ref b153)]))
        refine own_toH (fun t k => XS.lload X153.here hx rfl (hb hby at_75) rfl k) ?_
        show own_FinH _ _ _ _ _ _ _ _ (T153.setTop (mkF m 77 #[.val (.int p1), .val (.long q1), .second, .val (.long q2), .second, .val (.long q3), .second, .val (.int p5), .val (.int p6), .val (.int (p1 &&& (3 : Int32))), .val .null, .val (.ref w1), .val .null, .val (.long u), .second, .unset, .unset, .unset, .unset] [(.long q3), .null, (.ref w1), (.long q2), (.long u), .null, (.ref b153), (.ref b153)]))
        obtain ⟨_, _, ⟨T154, L154, k154, n154⟩, -, X154, ⟨Lc154, hQ154, l154, y154, z154⟩, st154⟩ := X153.specialBack hx (y := (⟨"com/example/deft_lock/deftlock/service/ServerInfo", "<init>", "(Ljava/lang/String;JJLjava/lang/String;Ljava/lang/String;J)V"⟩ : MethodName)) rfl hown (mvT hZ (hw _ (List.mem_of_getElem? (i := 10) rfl))) (mvT hZ (hw _ (List.mem_of_getElem? (i := 11) rfl))) (mvT hZ (hw _ (List.mem_of_getElem? (i := 12) rfl))) (by decide) (own_back (W := 1) (own_si2 l Z a0 hw [] b153 u q2 q3 w1 h153 n0 (Nat.le_trans (Nat.le_trans Z0 K149.1) E153.1) A153 FnrunId_153 FnuptimeSeconds_153 FnclockMicros_153 Fnrole_153 Fnmaster_153 FnconnectedReplicas_153 g_b153) hZ (hw _ (List.mem_of_getElem? (i := 12) rfl)) (hw _ (List.mem_of_getElem? (i := 9) rfl)) (by decide) (by decide)) (g := (mkF m 77 #[.val (.int p1), .val (.long q1), .second, .val (.long q2), .second, .val (.long q3), .second, .val (.int p5), .val (.int p6), .val (.int (p1 &&& (3 : Int32))), .val .null, .val (.ref w1), .val .null, .val (.long u), .second, .unset, .unset, .unset, .unset] [(.long q3), .null, (.ref w1), (.long q2), (.long u), .null, (.ref b153), (.ref b153)])) rfl (by rw [hml]; rfl) (Steps.refl _) (a := b153) (argsL := [.null, (.long u), (.long q2), (.ref w1), .null, (.long q3)]) (rest := [(.ref b153)]) (lenOf own_pd8 rfl) rfl (by show 2 * 0 + _ ≤ _; exact Nat.le_of_eq rfl) (hb hby at_77) (fun _ _ => ⟨rfl, e153, (by decide : 7 + 0 ≤ _), (by decide : 18 + 0 ≤ _)⟩)
        dsimp only [Pt.U, Pt.locs, Pt.cells, Pt.slots] at X154 l154 y154 z154 st154 hQ154
        subst l154 y154 z154
        obtain ⟨rfl, N154q, K154, Fr1, Fu1⟩ := hQ154
        have N154 := Fr.app N152 N154q
        have hR154 := hR153.trans (CHr.keep K154 (sfS Sn_b153 sf0) hH153)
        have hH154 := CHv.keep K154 (sfS Sn_b153 sf0) hH153
        have Sf_b153_154 := Safe.keep K154 (sfS Sn_b153 sf0) hH153 Sn_b153
        have O154 := O153.keep K154 (allS g_b153 all0)
        have E_w1_e154 := E_w1_e153.keep K154
        have A153_e154 := A153.keep K154
        refine own_toH (fun t k => st154.trans k) ?_
        show own_FinH _ _ _ _ _ _ _ _ (T154.setTop (mkF m 80 #[.val (.int p1), .val (.long q1), .second, .val (.long q2), .second, .val (.long q3), .second, .val (.int p5), .val (.int p6), .val (.int (p1 &&& (3 : Int32))), .val .null, .val (.ref w1), .val .null, .val (.long u), .second, .unset, .unset, .unset, .unset] [(.ref b153)]))
        refine own_toH (fun t k => XS.astore X154.here hx rfl (hb hby at_80) rfl rfl (l' := #[.val (.int p1), .val (.long q1), .second, .val (.long q2), .second, .val (.long q3), .second, .val (.int p5), .val (.int p6), .val (.int (p1 &&& (3 : Int32))), .val .null, .val (.ref w1), .val .null, .val (.long u), .second, .val (.ref b153), .unset, .unset, .unset]) rfl k) ?_
        show own_FinH _ _ _ _ _ _ _ _ (T154.setTop (mkF m 82 #[.val (.int p1), .val (.long q1), .second, .val (.long q2), .second, .val (.long q3), .second, .val (.int p5), .val (.int p6), .val (.int (p1 &&& (3 : Int32))), .val .null, .val (.ref w1), .val .null, .val (.long u), .second, .val (.ref b153), .unset, .unset, .unset] []))
        refine own_toH (fun t k => XS.iload X154.here hx rfl (hb hby at_82) rfl k) ?_
        show own_FinH _ _ _ _ _ _ _ _ (T154.setTop (mkF m 84 #[.val (.int p1), .val (.long q1), .second, .val (.long q2), .second, .val (.long q3), .second, .val (.int p5), .val (.int p6), .val (.int (p1 &&& (3 : Int32))), .val .null, .val (.ref w1), .val .null, .val (.long u), .second, .val (.ref b153), .unset, .unset, .unset] [(.int (p1 &&& (3 : Int32)))]))
        refine own_toH (fun t k => XS.ifYes X154.here hx rfl (pc0 := 84) (pc' := 91) rfl (hb hby at_84) rfl ((if0 _ _).trans (teq hf130).1) (by decide) (by decide) k) ?_
        show own_FinH _ _ _ _ _ _ _ _ (T154.setTop (mkF m 91 #[.val (.int p1), .val (.long q1), .second, .val (.long q2), .second, .val (.long q3), .second, .val (.int p5), .val (.int p6), .val (.int (p1 &&& (3 : Int32))), .val .null, .val (.ref w1), .val .null, .val (.long u), .second, .val (.ref b153), .unset, .unset, .unset] []))
        refine own_toH (fun t k => XS.iconst X154.here hx rfl (hb hby at_91) k) ?_
        show own_FinH _ _ _ _ _ _ _ _ (T154.setTop (mkF m 92 #[.val (.int p1), .val (.long q1), .second, .val (.long q2), .second, .val (.long q3), .second, .val (.int p5), .val (.int p6), .val (.int (p1 &&& (3 : Int32))), .val .null, .val (.ref w1), .val .null, .val (.long u), .second, .val (.ref b153), .unset, .unset, .unset] [(.int (0 : Int32))]))
        refine own_toH (fun t k => XS.istore X154.here hx rfl (hb hby at_92) rfl (l' := #[.val (.int p1), .val (.long q1), .second, .val (.long q2), .second, .val (.long q3), .second, .val (.int p5), .val (.int p6), .val (.int (p1 &&& (3 : Int32))), .val .null, .val (.ref w1), .val .null, .val (.long u), .second, .val (.ref b153), .val (.int (0 : Int32)), .unset, .unset]) rfl k) ?_
        show own_FinH _ _ _ _ _ _ _ _ (T154.setTop (mkF m 94 #[.val (.int p1), .val (.long q1), .second, .val (.long q2), .second, .val (.long q3), .second, .val (.int p5), .val (.int p6), .val (.int (p1 &&& (3 : Int32))), .val .null, .val (.ref w1), .val .null, .val (.long u), .second, .val (.ref b153), .val (.int (0 : Int32)), .unset, .unset] []))
        refine own_toH (fun t k => XS.lload X154.here hx rfl (hb hby at_94) rfl k) ?_
        show own_FinH _ _ _ _ _ _ _ _ (T154.setTop (mkF m 96 #[.val (.int p1), .val (.long q1), .second, .val (.long q2), .second, .val (.long q3), .second, .val (.int p5), .val (.int p6), .val (.int (p1 &&& (3 : Int32))), .val .null, .val (.ref w1), .val .null, .val (.long u), .second, .val (.ref b153), .val (.int (0 : Int32)), .unset, .unset] [(.long u)]))
        refine own_toH (fun t k => XS.bipush X154.here hx rfl (hb hby at_96) k) ?_
        show own_FinH _ _ _ _ _ _ _ _ (T154.setTop (mkF m 98 #[.val (.int p1), .val (.long q1), .second, .val (.long q2), .second, .val (.long q3), .second, .val (.int p5), .val (.int p6), .val (.int (p1 &&& (3 : Int32))), .val .null, .val (.ref w1), .val .null, .val (.long u), .second, .val (.ref b153), .val (.int (0 : Int32)), .unset, .unset] [(.int (63 : Int32)), (.long u)]))
        refine own_toH (fun t k => XS.lushr X154.here hx rfl (hb hby at_98) rfl k) ?_
        show own_FinH _ _ _ _ _ _ _ _ (T154.setTop (mkF m 99 #[.val (.int p1), .val (.long q1), .second, .val (.long q2), .second, .val (.long q3), .second, .val (.int p5), .val (.int p6), .val (.int (p1 &&& (3 : Int32))), .val .null, .val (.ref w1), .val .null, .val (.long u), .second, .val (.ref b153), .val (.int (0 : Int32)), .unset, .unset] [(.long ((u.toUInt64 >>> ((63 : Int32) &&& 0x3f).toInt64.toUInt64).toInt64))]))
        refine own_toH (fun t k => XS.lconst X154.here hx rfl (hb hby at_99) k) ?_
        show own_FinH _ _ _ _ _ _ _ _ (T154.setTop (mkF m 100 #[.val (.int p1), .val (.long q1), .second, .val (.long q2), .second, .val (.long q3), .second, .val (.int p5), .val (.int p6), .val (.int (p1 &&& (3 : Int32))), .val .null, .val (.ref w1), .val .null, .val (.long u), .second, .val (.ref b153), .val (.int (0 : Int32)), .unset, .unset] [(.long (0 : Int64)), (.long ((u.toUInt64 >>> ((63 : Int32) &&& 0x3f).toInt64.toUInt64).toInt64))]))
        refine own_toH (fun t k => XS.lcmp X154.here hx rfl (hb hby at_100) rfl k) ?_
        show own_FinH _ _ _ _ _ _ _ _ (T154.setTop (mkF m 101 #[.val (.int p1), .val (.long q1), .second, .val (.long q2), .second, .val (.long q3), .second, .val (.int p5), .val (.int p6), .val (.int (p1 &&& (3 : Int32))), .val .null, .val (.ref w1), .val .null, .val (.long u), .second, .val (.ref b153), .val (.int (0 : Int32)), .unset, .unset] [(.int (lcmpW ((u.toUInt64 >>> ((63 : Int32) &&& 0x3f).toInt64.toUInt64).toInt64) (0 : Int64)))]))
        by_cases hc101_155 : ((u.toUInt64 >>> ((63 : Int32) &&& 0x3f).toInt64.toUInt64).toInt64) = (0 : Int64)
        ·
          show own_FinH _ _ _ _ _ _ _ _ (T154.setTop (mkF m 101 #[.val (.int p1), .val (.long q1), .second, .val (.long q2), .second, .val (.long q3), .second, .val (.int p5), .val (.int p6), .val (.int (p1 &&& (3 : Int32))), .val .null, .val (.ref w1), .val .null, .val (.long u), .second, .val (.ref b153), .val (.int (0 : Int32)), .unset, .unset] [(.int (lcmpW ((u.toUInt64 >>> ((63 : Int32) &&& 0x3f).toInt64.toUInt64).toInt64) (0 : Int64)))]))
          refine own_toH (fun t k => XS.ifNo X154.here hx rfl (hb hby at_101) rfl ((if0 _ _).trans (teq ((lw_eq _ _).mpr hc101_155)).2) k) ?_
          show own_FinH _ _ _ _ _ _ _ _ (T154.setTop (mkF m 104 #[.val (.int p1), .val (.long q1), .second, .val (.long q2), .second, .val (.long q3), .second, .val (.int p5), .val (.int p6), .val (.int (p1 &&& (3 : Int32))), .val .null, .val (.ref w1), .val .null, .val (.long u), .second, .val (.ref b153), .val (.int (0 : Int32)), .unset, .unset] []))
          refine own_toH (fun t k => XS.iconst X154.here hx rfl (hb hby at_104) k) ?_
          show own_FinH _ _ _ _ _ _ _ _ (T154.setTop (mkF m 105 #[.val (.int p1), .val (.long q1), .second, .val (.long q2), .second, .val (.long q3), .second, .val (.int p5), .val (.int p6), .val (.int (p1 &&& (3 : Int32))), .val .null, .val (.ref w1), .val .null, .val (.long u), .second, .val (.ref b153), .val (.int (0 : Int32)), .unset, .unset] [(.int (1 : Int32))]))
          refine own_toH (fun t k => XS.goto X154.here hx rfl (pc0 := 105) (pc' := 109) rfl (hb hby at_105) (by decide) (by decide) k) ?_
          show own_FinH _ _ _ _ _ _ _ _ (T154.setTop (mkF m 109 #[.val (.int p1), .val (.long q1), .second, .val (.long q2), .second, .val (.long q3), .second, .val (.int p5), .val (.int p6), .val (.int (p1 &&& (3 : Int32))), .val .null, .val (.ref w1), .val .null, .val (.long u), .second, .val (.ref b153), .val (.int (0 : Int32)), .unset, .unset] [(.int (1 : Int32))]))
          refine own_toH (fun t k => XS.istore X154.here hx rfl (hb hby at_109) rfl (l' := #[.val (.int p1), .val (.long q1), .second, .val (.long q2), .second, .val (.long q3), .second, .val (.int p5), .val (.int p6), .val (.int (p1 &&& (3 : Int32))), .val .null, .val (.ref w1), .val .null, .val (.long u), .second, .val (.ref b153), .val (.int (0 : Int32)), .val (.int (1 : Int32)), .unset]) rfl k) ?_
          show own_FinH _ _ _ _ _ _ _ _ (T154.setTop (mkF m 111 #[.val (.int p1), .val (.long q1), .second, .val (.long q2), .second, .val (.long q3), .second, .val (.int p5), .val (.int p6), .val (.int (p1 &&& (3 : Int32))), .val .null, .val (.ref w1), .val .null, .val (.long u), .second, .val (.ref b153), .val (.int (0 : Int32)), .val (.int (1 : Int32)), .unset] []))
          refine own_toH (fun t k => XS.iconst X154.here hx rfl (hb hby at_111) k) ?_
          show own_FinH _ _ _ _ _ _ _ _ (T154.setTop (mkF m 112 #[.val (.int p1), .val (.long q1), .second, .val (.long q2), .second, .val (.long q3), .second, .val (.int p5), .val (.int p6), .val (.int (p1 &&& (3 : Int32))), .val .null, .val (.ref w1), .val .null, .val (.long u), .second, .val (.ref b153), .val (.int (0 : Int32)), .val (.int (1 : Int32)), .unset] [(.int (0 : Int32))]))
          refine own_toH (fun t k => XS.istore X154.here hx rfl (hb hby at_112) rfl (l' := #[.val (.int p1), .val (.long q1), .second, .val (.long q2), .second, .val (.long q3), .second, .val (.int p5), .val (.int p6), .val (.int (p1 &&& (3 : Int32))), .val .null, .val (.ref w1), .val .null, .val (.long u), .second, .val (.ref b153), .val (.int (0 : Int32)), .val (.int (1 : Int32)), .val (.int (0 : Int32))]) rfl k) ?_
          show own_FinH _ _ _ _ _ _ _ _ (T154.setTop (mkF m 114 #[.val (.int p1), .val (.long q1), .second, .val (.long q2), .second, .val (.long q3), .second, .val (.int p5), .val (.int p6), .val (.int (p1 &&& (3 : Int32))), .val .null, .val (.ref w1), .val .null, .val (.long u), .second, .val (.ref b153), .val (.int (0 : Int32)), .val (.int (1 : Int32)), .val (.int (0 : Int32))] []))
          refine own_toH (fun t k => XS.iload X154.here hx rfl (hb hby at_114) rfl k) ?_
          show own_FinH _ _ _ _ _ _ _ _ (T154.setTop (mkF m 116 #[.val (.int p1), .val (.long q1), .second, .val (.long q2), .second, .val (.long q3), .second, .val (.int p5), .val (.int p6), .val (.int (p1 &&& (3 : Int32))), .val .null, .val (.ref w1), .val .null, .val (.long u), .second, .val (.ref b153), .val (.int (0 : Int32)), .val (.int (1 : Int32)), .val (.int (0 : Int32))] [(.int (0 : Int32))]))
          refine own_toH (fun t k => XS.ifYes X154.here hx rfl (pc0 := 116) (pc' := 127) rfl (hb hby at_116) rfl ((if0 _ _).trans (teq rfl).1) (by decide) (by decide) k) ?_
          show own_FinH _ _ _ _ _ _ _ _ (T154.setTop (mkF m 127 #[.val (.int p1), .val (.long q1), .second, .val (.long q2), .second, .val (.long q3), .second, .val (.int p5), .val (.int p6), .val (.int (p1 &&& (3 : Int32))), .val .null, .val (.ref w1), .val .null, .val (.long u), .second, .val (.ref b153), .val (.int (0 : Int32)), .val (.int (1 : Int32)), .val (.int (0 : Int32))] []))
          refine own_toH (fun t k => XS.aload X154.here hx rfl (hb hby at_127) rfl rfl k) ?_
          show own_FinH _ _ _ _ _ _ _ _ (T154.setTop (mkF m 129 #[.val (.int p1), .val (.long q1), .second, .val (.long q2), .second, .val (.long q3), .second, .val (.int p5), .val (.int p6), .val (.int (p1 &&& (3 : Int32))), .val .null, .val (.ref w1), .val .null, .val (.long u), .second, .val (.ref b153), .val (.int (0 : Int32)), .val (.int (1 : Int32)), .val (.int (0 : Int32))] [(.ref b153)]))
          obtain ⟨cq156, kq156, q156a, q156b, q156c⟩ := isOf hZ rfl A153_e154
          obtain ⟨_, _, ⟨T156, L156, k156, n156⟩, -, X156, ⟨Lc156, hQ156, l156, y156, z156⟩, st156⟩ := X154.virtualBack hx (y := (⟨"com/example/deft_lock/deftlock/service/ServerInfo", "tellsUptime", "()Z"⟩ : MethodName)) (z := (⟨"com/example/deft_lock/deftlock/service/ServerInfo", "tellsUptime", "()Z"⟩ : MethodName)) hown (mvT hZ (hw _ (List.mem_of_getElem? (i := 33) rfl))) (mvT hZ (hw _ (List.mem_of_getElem? (i := 34) rfl))) (notFace_of_selects (args := #[]) (mvT hZ (hw _ (List.mem_of_getElem? (i := 36) rfl)))) (mvT hZ (hw _ (List.mem_of_getElem? (i := 36) rfl))) (mvT hZ (hw _ (List.mem_of_getElem? (i := 35) rfl))) (by decide) (own_back (W := 0) (own_tuN l Z a0 hw [] b153 T154.heap n0 (Nat.le_trans (Nat.le_trans (Nat.le_trans Z0 K149.1) E153.1) K154.1) Fr1) hZ (hw _ (List.mem_of_getElem? (i := 37) rfl)) (hw _ (List.mem_of_getElem? (i := 9) rfl)) (by decide) (by decide)) q156a q156c (g := (mkF m 129 #[.val (.int p1), .val (.long q1), .second, .val (.long q2), .second, .val (.long q3), .second, .val (.int p5), .val (.int p6), .val (.int (p1 &&& (3 : Int32))), .val .null, .val (.ref w1), .val .null, .val (.long u), .second, .val (.ref b153), .val (.int (0 : Int32)), .val (.int (1 : Int32)), .val (.int (0 : Int32))] [(.ref b153)])) rfl (by rw [hml]; rfl) (Steps.refl _) (argsL := []) (rest := []) (lenOf own_pd9 rfl) rfl (by show 2 * 0 + _ ≤ _; exact Nat.le_of_eq rfl) (hb hby at_129) (fun _ _ => ⟨rfl, rfl, (by decide : 7 + 0 ≤ _), (by decide : 18 + 0 ≤ _)⟩)
          dsimp only [Pt.U, Pt.locs, Pt.cells, Pt.slots] at X156 l156 y156 z156 st156 hQ156
          subst l156 y156 z156
          obtain ⟨rfl, N156q, eh156⟩ := hQ156
          have N156 := Fr.app N154 N156q
          refine own_toH (fun t k => st156.trans k) ?_
          show own_FinH _ _ _ _ _ _ _ _ (T156.setTop (mkF m 132 #[.val (.int p1), .val (.long q1), .second, .val (.long q2), .second, .val (.long q3), .second, .val (.int p5), .val (.int p6), .val (.int (p1 &&& (3 : Int32))), .val .null, .val (.ref w1), .val .null, .val (.long u), .second, .val (.ref b153), .val (.int (0 : Int32)), .val (.int (1 : Int32)), .val (.int (0 : Int32))] [(.int (0 : Int32))]))
          refine own_toH (fun t k => XS.iload X156.here hx rfl (hb hby at_132) rfl k) ?_
          show own_FinH _ _ _ _ _ _ _ _ (T156.setTop (mkF m 134 #[.val (.int p1), .val (.long q1), .second, .val (.long q2), .second, .val (.long q3), .second, .val (.int p5), .val (.int p6), .val (.int (p1 &&& (3 : Int32))), .val .null, .val (.ref w1), .val .null, .val (.long u), .second, .val (.ref b153), .val (.int (0 : Int32)), .val (.int (1 : Int32)), .val (.int (0 : Int32))] [(.int (0 : Int32)), (.int (0 : Int32))]))
          refine own_toH (fun t k => XS.icmpNo X156.here hx rfl (hb hby at_134) rfl (teq rfl).2 k) ?_
          show own_FinH _ _ _ _ _ _ _ _ (T156.setTop (mkF m 137 #[.val (.int p1), .val (.long q1), .second, .val (.long q2), .second, .val (.long q3), .second, .val (.int p5), .val (.int p6), .val (.int (p1 &&& (3 : Int32))), .val .null, .val (.ref w1), .val .null, .val (.long u), .second, .val (.ref b153), .val (.int (0 : Int32)), .val (.int (1 : Int32)), .val (.int (0 : Int32))] []))
          refine own_toH (fun t k => XS.iconst X156.here hx rfl (hb hby at_137) k) ?_
          show own_FinH _ _ _ _ _ _ _ _ (T156.setTop (mkF m 138 #[.val (.int p1), .val (.long q1), .second, .val (.long q2), .second, .val (.long q3), .second, .val (.int p5), .val (.int p6), .val (.int (p1 &&& (3 : Int32))), .val .null, .val (.ref w1), .val .null, .val (.long u), .second, .val (.ref b153), .val (.int (0 : Int32)), .val (.int (1 : Int32)), .val (.int (0 : Int32))] [(.int (1 : Int32))]))
          refine own_toH (fun t k => XS.goto X156.here hx rfl (pc0 := 138) (pc' := 142) rfl (hb hby at_138) (by decide) (by decide) k) ?_
          show own_FinH _ _ _ _ _ _ _ _ (T156.setTop (mkF m 142 #[.val (.int p1), .val (.long q1), .second, .val (.long q2), .second, .val (.long q3), .second, .val (.int p5), .val (.int p6), .val (.int (p1 &&& (3 : Int32))), .val .null, .val (.ref w1), .val .null, .val (.long u), .second, .val (.ref b153), .val (.int (0 : Int32)), .val (.int (1 : Int32)), .val (.int (0 : Int32))] [(.int (1 : Int32))]))
          refine own_retNH X156 hS149 (by rw [eh156]; exact (Nat.le_trans (Nat.le_trans (Nat.le_refl _) E153.1) K154.1)) hZ hEL (by rw [eh156]; exact hH154) (by rw [eh156]; exact hR154) hx hlk (t := .boolean) hret (by simp) (hb hby at_142) (by decide) (by decide) ?_
          try rw [eh156]
          exact ⟨rfl, N156⟩
        ·
          show own_FinH _ _ _ _ _ _ _ _ (T154.setTop (mkF m 101 #[.val (.int p1), .val (.long q1), .second, .val (.long q2), .second, .val (.long q3), .second, .val (.int p5), .val (.int p6), .val (.int (p1 &&& (3 : Int32))), .val .null, .val (.ref w1), .val .null, .val (.long u), .second, .val (.ref b153), .val (.int (0 : Int32)), .unset, .unset] [(.int (lcmpW ((u.toUInt64 >>> ((63 : Int32) &&& 0x3f).toInt64.toUInt64).toInt64) (0 : Int64)))]))
          refine own_toH (fun t k => XS.ifYes X154.here hx rfl (pc0 := 101) (pc' := 108) rfl (hb hby at_101) rfl ((if0 _ _).trans (feq (fun z => hc101_155 ((lw_eq _ _).mp z))).2) (by decide) (by decide) k) ?_
          show own_FinH _ _ _ _ _ _ _ _ (T154.setTop (mkF m 108 #[.val (.int p1), .val (.long q1), .second, .val (.long q2), .second, .val (.long q3), .second, .val (.int p5), .val (.int p6), .val (.int (p1 &&& (3 : Int32))), .val .null, .val (.ref w1), .val .null, .val (.long u), .second, .val (.ref b153), .val (.int (0 : Int32)), .unset, .unset] []))
          refine own_toH (fun t k => XS.iconst X154.here hx rfl (hb hby at_108) k) ?_
          show own_FinH _ _ _ _ _ _ _ _ (T154.setTop (mkF m 109 #[.val (.int p1), .val (.long q1), .second, .val (.long q2), .second, .val (.long q3), .second, .val (.int p5), .val (.int p6), .val (.int (p1 &&& (3 : Int32))), .val .null, .val (.ref w1), .val .null, .val (.long u), .second, .val (.ref b153), .val (.int (0 : Int32)), .unset, .unset] [(.int (0 : Int32))]))
          refine own_toH (fun t k => XS.istore X154.here hx rfl (hb hby at_109) rfl (l' := #[.val (.int p1), .val (.long q1), .second, .val (.long q2), .second, .val (.long q3), .second, .val (.int p5), .val (.int p6), .val (.int (p1 &&& (3 : Int32))), .val .null, .val (.ref w1), .val .null, .val (.long u), .second, .val (.ref b153), .val (.int (0 : Int32)), .val (.int (0 : Int32)), .unset]) rfl k) ?_
          show own_FinH _ _ _ _ _ _ _ _ (T154.setTop (mkF m 111 #[.val (.int p1), .val (.long q1), .second, .val (.long q2), .second, .val (.long q3), .second, .val (.int p5), .val (.int p6), .val (.int (p1 &&& (3 : Int32))), .val .null, .val (.ref w1), .val .null, .val (.long u), .second, .val (.ref b153), .val (.int (0 : Int32)), .val (.int (0 : Int32)), .unset] []))
          refine own_toH (fun t k => XS.iconst X154.here hx rfl (hb hby at_111) k) ?_
          show own_FinH _ _ _ _ _ _ _ _ (T154.setTop (mkF m 112 #[.val (.int p1), .val (.long q1), .second, .val (.long q2), .second, .val (.long q3), .second, .val (.int p5), .val (.int p6), .val (.int (p1 &&& (3 : Int32))), .val .null, .val (.ref w1), .val .null, .val (.long u), .second, .val (.ref b153), .val (.int (0 : Int32)), .val (.int (0 : Int32)), .unset] [(.int (0 : Int32))]))
          refine own_toH (fun t k => XS.istore X154.here hx rfl (hb hby at_112) rfl (l' := #[.val (.int p1), .val (.long q1), .second, .val (.long q2), .second, .val (.long q3), .second, .val (.int p5), .val (.int p6), .val (.int (p1 &&& (3 : Int32))), .val .null, .val (.ref w1), .val .null, .val (.long u), .second, .val (.ref b153), .val (.int (0 : Int32)), .val (.int (0 : Int32)), .val (.int (0 : Int32))]) rfl k) ?_
          show own_FinH _ _ _ _ _ _ _ _ (T154.setTop (mkF m 114 #[.val (.int p1), .val (.long q1), .second, .val (.long q2), .second, .val (.long q3), .second, .val (.int p5), .val (.int p6), .val (.int (p1 &&& (3 : Int32))), .val .null, .val (.ref w1), .val .null, .val (.long u), .second, .val (.ref b153), .val (.int (0 : Int32)), .val (.int (0 : Int32)), .val (.int (0 : Int32))] []))
          refine own_toH (fun t k => XS.iload X154.here hx rfl (hb hby at_114) rfl k) ?_
          show own_FinH _ _ _ _ _ _ _ _ (T154.setTop (mkF m 116 #[.val (.int p1), .val (.long q1), .second, .val (.long q2), .second, .val (.long q3), .second, .val (.int p5), .val (.int p6), .val (.int (p1 &&& (3 : Int32))), .val .null, .val (.ref w1), .val .null, .val (.long u), .second, .val (.ref b153), .val (.int (0 : Int32)), .val (.int (0 : Int32)), .val (.int (0 : Int32))] [(.int (0 : Int32))]))
          refine own_toH (fun t k => XS.ifYes X154.here hx rfl (pc0 := 116) (pc' := 127) rfl (hb hby at_116) rfl ((if0 _ _).trans (teq rfl).1) (by decide) (by decide) k) ?_
          show own_FinH _ _ _ _ _ _ _ _ (T154.setTop (mkF m 127 #[.val (.int p1), .val (.long q1), .second, .val (.long q2), .second, .val (.long q3), .second, .val (.int p5), .val (.int p6), .val (.int (p1 &&& (3 : Int32))), .val .null, .val (.ref w1), .val .null, .val (.long u), .second, .val (.ref b153), .val (.int (0 : Int32)), .val (.int (0 : Int32)), .val (.int (0 : Int32))] []))
          refine own_toH (fun t k => XS.aload X154.here hx rfl (hb hby at_127) rfl rfl k) ?_
          show own_FinH _ _ _ _ _ _ _ _ (T154.setTop (mkF m 129 #[.val (.int p1), .val (.long q1), .second, .val (.long q2), .second, .val (.long q3), .second, .val (.int p5), .val (.int p6), .val (.int (p1 &&& (3 : Int32))), .val .null, .val (.ref w1), .val .null, .val (.long u), .second, .val (.ref b153), .val (.int (0 : Int32)), .val (.int (0 : Int32)), .val (.int (0 : Int32))] [(.ref b153)]))
          obtain ⟨cq157, kq157, q157a, q157b, q157c⟩ := isOf hZ rfl A153_e154
          obtain ⟨_, _, ⟨T157, L157, k157, n157⟩, -, X157, ⟨Lc157, hQ157, l157, y157, z157⟩, st157⟩ := X154.virtualBack hx (y := (⟨"com/example/deft_lock/deftlock/service/ServerInfo", "tellsUptime", "()Z"⟩ : MethodName)) (z := (⟨"com/example/deft_lock/deftlock/service/ServerInfo", "tellsUptime", "()Z"⟩ : MethodName)) hown (mvT hZ (hw _ (List.mem_of_getElem? (i := 33) rfl))) (mvT hZ (hw _ (List.mem_of_getElem? (i := 34) rfl))) (notFace_of_selects (args := #[]) (mvT hZ (hw _ (List.mem_of_getElem? (i := 36) rfl)))) (mvT hZ (hw _ (List.mem_of_getElem? (i := 36) rfl))) (mvT hZ (hw _ (List.mem_of_getElem? (i := 35) rfl))) (by decide) (own_back (W := 0) (own_tuN l Z a0 hw [] b153 T154.heap n0 (Nat.le_trans (Nat.le_trans (Nat.le_trans Z0 K149.1) E153.1) K154.1) Fr1) hZ (hw _ (List.mem_of_getElem? (i := 37) rfl)) (hw _ (List.mem_of_getElem? (i := 9) rfl)) (by decide) (by decide)) q157a q157c (g := (mkF m 129 #[.val (.int p1), .val (.long q1), .second, .val (.long q2), .second, .val (.long q3), .second, .val (.int p5), .val (.int p6), .val (.int (p1 &&& (3 : Int32))), .val .null, .val (.ref w1), .val .null, .val (.long u), .second, .val (.ref b153), .val (.int (0 : Int32)), .val (.int (0 : Int32)), .val (.int (0 : Int32))] [(.ref b153)])) rfl (by rw [hml]; rfl) (Steps.refl _) (argsL := []) (rest := []) (lenOf own_pd9 rfl) rfl (by show 2 * 0 + _ ≤ _; exact Nat.le_of_eq rfl) (hb hby at_129) (fun _ _ => ⟨rfl, rfl, (by decide : 7 + 0 ≤ _), (by decide : 18 + 0 ≤ _)⟩)
          dsimp only [Pt.U, Pt.locs, Pt.cells, Pt.slots] at X157 l157 y157 z157 st157 hQ157
          subst l157 y157 z157
          obtain ⟨rfl, N157q, eh157⟩ := hQ157
          have N157 := Fr.app N154 N157q
          refine own_toH (fun t k => st157.trans k) ?_
          show own_FinH _ _ _ _ _ _ _ _ (T157.setTop (mkF m 132 #[.val (.int p1), .val (.long q1), .second, .val (.long q2), .second, .val (.long q3), .second, .val (.int p5), .val (.int p6), .val (.int (p1 &&& (3 : Int32))), .val .null, .val (.ref w1), .val .null, .val (.long u), .second, .val (.ref b153), .val (.int (0 : Int32)), .val (.int (0 : Int32)), .val (.int (0 : Int32))] [(.int (0 : Int32))]))
          refine own_toH (fun t k => XS.iload X157.here hx rfl (hb hby at_132) rfl k) ?_
          show own_FinH _ _ _ _ _ _ _ _ (T157.setTop (mkF m 134 #[.val (.int p1), .val (.long q1), .second, .val (.long q2), .second, .val (.long q3), .second, .val (.int p5), .val (.int p6), .val (.int (p1 &&& (3 : Int32))), .val .null, .val (.ref w1), .val .null, .val (.long u), .second, .val (.ref b153), .val (.int (0 : Int32)), .val (.int (0 : Int32)), .val (.int (0 : Int32))] [(.int (0 : Int32)), (.int (0 : Int32))]))
          refine own_toH (fun t k => XS.icmpNo X157.here hx rfl (hb hby at_134) rfl (teq rfl).2 k) ?_
          show own_FinH _ _ _ _ _ _ _ _ (T157.setTop (mkF m 137 #[.val (.int p1), .val (.long q1), .second, .val (.long q2), .second, .val (.long q3), .second, .val (.int p5), .val (.int p6), .val (.int (p1 &&& (3 : Int32))), .val .null, .val (.ref w1), .val .null, .val (.long u), .second, .val (.ref b153), .val (.int (0 : Int32)), .val (.int (0 : Int32)), .val (.int (0 : Int32))] []))
          refine own_toH (fun t k => XS.iconst X157.here hx rfl (hb hby at_137) k) ?_
          show own_FinH _ _ _ _ _ _ _ _ (T157.setTop (mkF m 138 #[.val (.int p1), .val (.long q1), .second, .val (.long q2), .second, .val (.long q3), .second, .val (.int p5), .val (.int p6), .val (.int (p1 &&& (3 : Int32))), .val .null, .val (.ref w1), .val .null, .val (.long u), .second, .val (.ref b153), .val (.int (0 : Int32)), .val (.int (0 : Int32)), .val (.int (0 : Int32))] [(.int (1 : Int32))]))
          refine own_toH (fun t k => XS.goto X157.here hx rfl (pc0 := 138) (pc' := 142) rfl (hb hby at_138) (by decide) (by decide) k) ?_
          show own_FinH _ _ _ _ _ _ _ _ (T157.setTop (mkF m 142 #[.val (.int p1), .val (.long q1), .second, .val (.long q2), .second, .val (.long q3), .second, .val (.int p5), .val (.int p6), .val (.int (p1 &&& (3 : Int32))), .val .null, .val (.ref w1), .val .null, .val (.long u), .second, .val (.ref b153), .val (.int (0 : Int32)), .val (.int (0 : Int32)), .val (.int (0 : Int32))] [(.int (1 : Int32))]))
          refine own_retNH X157 hS149 (by rw [eh157]; exact (Nat.le_trans (Nat.le_trans (Nat.le_refl _) E153.1) K154.1)) hZ hEL (by rw [eh157]; exact hH154) (by rw [eh157]; exact hR154) hx hlk (t := .boolean) hret (by simp) (hb hby at_142) (by decide) (by decide) ?_
          try rw [eh157]
          exact ⟨rfl, N157⟩
      ·
        show own_FinH _ _ _ _ _ _ _ _ (T149.setTop (mkF m 45 #[.val (.int p1), .val (.long q1), .second, .val (.long q2), .second, .val (.long q3), .second, .val (.int p5), .val (.int p6), .val (.int (p1 &&& (3 : Int32))), .val .null, .val (.ref w1), .unset, .unset, .unset, .unset, .unset, .unset, .unset] [(.int ((p6.toUInt32 >>> ((8 : Int32) &&& 31).toUInt32).toInt32)), (.int ((p5.toUInt32 >>> ((8 : Int32) &&& 31).toUInt32).toInt32)), (.int (((p1.toUInt32 >>> ((4 : Int32) &&& 31).toUInt32).toInt32) &&& (3 : Int32)))]))
        obtain ⟨_, _, ⟨T158, L158, k158, n158⟩, -, X158, S158a, S158b, ⟨Lc158, hQ158, l158, y158, z158, hC158⟩, st158⟩ := callSS X149r hx (y := (⟨"com/example/deft_lock/deftlock/service/ServerInfoTellsUptimePinLaw", "drawn", "(III)Ljava/lang/String;"⟩ : MethodName)) hown (mvT hZ (hw _ (List.mem_of_getElem? (i := 0) rfl))) (mvT hZ (hw _ (List.mem_of_getElem? (i := 1) rfl))) (mvT hZ (hw _ (List.mem_of_getElem? (i := 2) rfl))) (mvT hZ (hw _ (List.mem_of_getElem? (i := 3) rfl))) (by decide) (own_backH (W := 0) (own_drR l Z a0 hw [] cs (((p1.toUInt32 >>> ((4 : Int32) &&& 31).toUInt32).toInt32) &&& (3 : Int32)) ((p5.toUInt32 >>> ((8 : Int32) &&& 31).toUInt32).toInt32) ((p6.toUInt32 >>> ((8 : Int32) &&& 31).toUInt32).toInt32) T149.heap n0 (Nat.le_trans Z0 K149.1) O149 SS hcs hf150) hZ (hw _ (List.mem_of_getElem? (i := 3) rfl)) (hw _ (List.mem_of_getElem? (i := 2) rfl)) (by decide) (by decide) hEL hH149 all0) (g := (mkF m 45 #[.val (.int p1), .val (.long q1), .second, .val (.long q2), .second, .val (.long q3), .second, .val (.int p5), .val (.int p6), .val (.int (p1 &&& (3 : Int32))), .val .null, .val (.ref w1), .unset, .unset, .unset, .unset, .unset, .unset, .unset] [(.int ((p6.toUInt32 >>> ((8 : Int32) &&& 31).toUInt32).toInt32)), (.int ((p5.toUInt32 >>> ((8 : Int32) &&& 31).toUInt32).toInt32)), (.int (((p1.toUInt32 >>> ((4 : Int32) &&& 31).toUInt32).toInt32) &&& (3 : Int32)))])) rfl (by rw [hml]; rfl) (argsL := [(.int (((p1.toUInt32 >>> ((4 : Int32) &&& 31).toUInt32).toInt32) &&& (3 : Int32))), (.int ((p5.toUInt32 >>> ((8 : Int32) &&& 31).toUInt32).toInt32)), (.int ((p6.toUInt32 >>> ((8 : Int32) &&& 31).toUInt32).toInt32))]) (rest := []) (lenOf own_pd6 rfl) rfl (by show 2 * 0 + _ ≤ _; exact Nat.le_of_eq rfl) (hb hby at_45) (fun _ _ => ⟨rfl, rfl, (by decide : 6 + 6 ≤ _), (by decide : 12 + 12 ≤ _)⟩)
        dsimp only [Pt.U, Pt.locs, Pt.cells, Pt.slots] at X158 l158 y158 z158 st158 hQ158 S158a S158b hC158
        subst l158 y158 z158
        obtain ⟨X158r, hS158, hZ, hown⟩ := rebS hS149 (n1 := T149.heap.size) (Nat.le_refl _) X158 S158a S158b hZ hown
        obtain ⟨w2, rfl, N158q, K158, g_w2, szx_w2, E_w2⟩ := hQ158
        have N158 := Fr.app N149 N158q
        have ne_w1_w2 : w1 ≠ w2 := Nat.ne_of_lt (Nat.lt_of_lt_of_le E_w1.lt szx_w2)
        have hR158 := hR149.trans hC158
        have hH158 := hC158.1
        have O158 := O149.keep K158 all0
        have E_w1_e158 := E_w1.keep K158
        refine own_toH (fun t k => st158.trans k) ?_
        show own_FinH _ _ _ _ _ _ _ _ (T158.setTop (mkF m 48 #[.val (.int p1), .val (.long q1), .second, .val (.long q2), .second, .val (.long q3), .second, .val (.int p5), .val (.int p6), .val (.int (p1 &&& (3 : Int32))), .val .null, .val (.ref w1), .unset, .unset, .unset, .unset, .unset, .unset, .unset] [(.ref w2)]))
        refine own_toH (fun t k => XS.astore X158r.here hx rfl (hb hby at_48) rfl rfl (l' := #[.val (.int p1), .val (.long q1), .second, .val (.long q2), .second, .val (.long q3), .second, .val (.int p5), .val (.int p6), .val (.int (p1 &&& (3 : Int32))), .val .null, .val (.ref w1), .val (.ref w2), .unset, .unset, .unset, .unset, .unset, .unset]) rfl k) ?_
        show own_FinH _ _ _ _ _ _ _ _ (T158.setTop (mkF m 50 #[.val (.int p1), .val (.long q1), .second, .val (.long q2), .second, .val (.long q3), .second, .val (.int p5), .val (.int p6), .val (.int (p1 &&& (3 : Int32))), .val .null, .val (.ref w1), .val (.ref w2), .unset, .unset, .unset, .unset, .unset, .unset] []))
        refine own_toH (fun t k => XS.iloadN X158r.here hx rfl (hb hby at_50) rfl k) ?_
        show own_FinH _ _ _ _ _ _ _ _ (T158.setTop (mkF m 51 #[.val (.int p1), .val (.long q1), .second, .val (.long q2), .second, .val (.long q3), .second, .val (.int p5), .val (.int p6), .val (.int (p1 &&& (3 : Int32))), .val .null, .val (.ref w1), .val (.ref w2), .unset, .unset, .unset, .unset, .unset, .unset] [(.int p1)]))
        refine own_toH (fun t k => XS.bipush X158r.here hx rfl (hb hby at_51) k) ?_
        show own_FinH _ _ _ _ _ _ _ _ (T158.setTop (mkF m 53 #[.val (.int p1), .val (.long q1), .second, .val (.long q2), .second, .val (.long q3), .second, .val (.int p5), .val (.int p6), .val (.int (p1 &&& (3 : Int32))), .val .null, .val (.ref w1), .val (.ref w2), .unset, .unset, .unset, .unset, .unset, .unset] [(.int (6 : Int32)), (.int p1)]))
        refine own_toH (fun t k => XS.iushr X158r.here hx rfl (hb hby at_53) rfl k) ?_
        show own_FinH _ _ _ _ _ _ _ _ (T158.setTop (mkF m 54 #[.val (.int p1), .val (.long q1), .second, .val (.long q2), .second, .val (.long q3), .second, .val (.int p5), .val (.int p6), .val (.int (p1 &&& (3 : Int32))), .val .null, .val (.ref w1), .val (.ref w2), .unset, .unset, .unset, .unset, .unset, .unset] [(.int ((p1.toUInt32 >>> ((6 : Int32) &&& 31).toUInt32).toInt32))]))
        refine own_toH (fun t k => XS.iconst X158r.here hx rfl (hb hby at_54) k) ?_
        show own_FinH _ _ _ _ _ _ _ _ (T158.setTop (mkF m 55 #[.val (.int p1), .val (.long q1), .second, .val (.long q2), .second, .val (.long q3), .second, .val (.int p5), .val (.int p6), .val (.int (p1 &&& (3 : Int32))), .val .null, .val (.ref w1), .val (.ref w2), .unset, .unset, .unset, .unset, .unset, .unset] [(.int (3 : Int32)), (.int ((p1.toUInt32 >>> ((6 : Int32) &&& 31).toUInt32).toInt32))]))
        refine own_toH (fun t k => XS.iand X158r.here hx rfl (hb hby at_55) rfl k) ?_
        show own_FinH _ _ _ _ _ _ _ _ (T158.setTop (mkF m 56 #[.val (.int p1), .val (.long q1), .second, .val (.long q2), .second, .val (.long q3), .second, .val (.int p5), .val (.int p6), .val (.int (p1 &&& (3 : Int32))), .val .null, .val (.ref w1), .val (.ref w2), .unset, .unset, .unset, .unset, .unset, .unset] [(.int (((p1.toUInt32 >>> ((6 : Int32) &&& 31).toUInt32).toInt32) &&& (3 : Int32)))]))
        refine own_toH (fun t k => XS.lloadN X158r.here hx rfl (hb hby at_56) rfl k) ?_
        show own_FinH _ _ _ _ _ _ _ _ (T158.setTop (mkF m 57 #[.val (.int p1), .val (.long q1), .second, .val (.long q2), .second, .val (.long q3), .second, .val (.int p5), .val (.int p6), .val (.int (p1 &&& (3 : Int32))), .val .null, .val (.ref w1), .val (.ref w2), .unset, .unset, .unset, .unset, .unset, .unset] [(.long q1), (.int (((p1.toUInt32 >>> ((6 : Int32) &&& 31).toUInt32).toInt32) &&& (3 : Int32)))]))
        obtain ⟨_, _, ⟨T159, L159, k159, n159⟩, -, X159, ⟨Lc159, hQ159, l159, y159, z159⟩, st159⟩ := Jvm.LawKit.callS X158r hx (y := (⟨"com/example/deft_lock/deftlock/service/ServerInfoTellsUptimePinLaw", "pickUptime", "(IJ)J"⟩ : MethodName)) hown (mvT hZ (hw _ (List.mem_of_getElem? (i := 4) rfl))) (mvT hZ (hw _ (List.mem_of_getElem? (i := 5) rfl))) (mvT hZ (hw _ (List.mem_of_getElem? (i := 2) rfl))) (mvT hZ (hw _ (List.mem_of_getElem? (i := 6) rfl))) (by decide) (own_back (W := 0) (own_rm2 l Z a0 hw [] (((p1.toUInt32 >>> ((6 : Int32) &&& 31).toUInt32).toInt32) &&& (3 : Int32)) q1 T158.heap n0 (Nat.le_trans (Nat.le_trans Z0 K149.1) K158.1)) hZ (hw _ (List.mem_of_getElem? (i := 6) rfl)) (hw _ (List.mem_of_getElem? (i := 2) rfl)) (by decide) (by decide)) (g := (mkF m 57 #[.val (.int p1), .val (.long q1), .second, .val (.long q2), .second, .val (.long q3), .second, .val (.int p5), .val (.int p6), .val (.int (p1 &&& (3 : Int32))), .val .null, .val (.ref w1), .val (.ref w2), .unset, .unset, .unset, .unset, .unset, .unset] [(.long q1), (.int (((p1.toUInt32 >>> ((6 : Int32) &&& 31).toUInt32).toInt32) &&& (3 : Int32)))])) rfl (by rw [hml]; rfl) (argsL := [(.int (((p1.toUInt32 >>> ((6 : Int32) &&& 31).toUInt32).toInt32) &&& (3 : Int32))), (.long q1)]) (rest := []) (lenOf own_pd7 rfl) rfl (by show 2 * 0 + _ ≤ _; exact Nat.le_of_eq rfl) (hb hby at_57) (fun _ _ => ⟨rfl, rfl, (by decide : 12 + 0 ≤ _), (by decide : 24 + 0 ≤ _)⟩)
        dsimp only [Pt.U, Pt.locs, Pt.cells, Pt.slots] at X159 l159 y159 z159 st159 hQ159
        subst l159 y159 z159
        obtain ⟨rfl, N159q, eh159⟩ := hQ159
        have N159 := Fr.app N158 N159q
        refine own_toH (fun t k => st159 t k) ?_
        show own_FinH _ _ _ _ _ _ _ _ (T159.setTop (mkF m 60 #[.val (.int p1), .val (.long q1), .second, .val (.long q2), .second, .val (.long q3), .second, .val (.int p5), .val (.int p6), .val (.int (p1 &&& (3 : Int32))), .val .null, .val (.ref w1), .val (.ref w2), .unset, .unset, .unset, .unset, .unset, .unset] [(.long (own_pick (((p1.toUInt32 >>> ((6 : Int32) &&& 31).toUInt32).toInt32) &&& (3 : Int32)) q1))]))
        obtain ⟨u, eu⟩ : ∃ z, z = (own_pick (((p1.toUInt32 >>> ((6 : Int32) &&& 31).toUInt32).toInt32) &&& (3 : Int32)) q1) := ⟨_, rfl⟩
        rw [← eu]
        show own_FinH _ _ _ _ _ _ _ _ (T159.setTop (mkF m 60 #[.val (.int p1), .val (.long q1), .second, .val (.long q2), .second, .val (.long q3), .second, .val (.int p5), .val (.int p6), .val (.int (p1 &&& (3 : Int32))), .val .null, .val (.ref w1), .val (.ref w2), .unset, .unset, .unset, .unset, .unset, .unset] [(.long u)]))
        refine own_toH (fun t k => XS.lstore X159.here hx rfl (hb hby at_60) rfl (l' := #[.val (.int p1), .val (.long q1), .second, .val (.long q2), .second, .val (.long q3), .second, .val (.int p5), .val (.int p6), .val (.int (p1 &&& (3 : Int32))), .val .null, .val (.ref w1), .val (.ref w2), .val (.long u), .second, .unset, .unset, .unset, .unset]) rfl k) ?_
        show own_FinH _ _ _ _ _ _ _ _ (T159.setTop (mkF m 62 #[.val (.int p1), .val (.long q1), .second, .val (.long q2), .second, .val (.long q3), .second, .val (.int p5), .val (.int p6), .val (.int (p1 &&& (3 : Int32))), .val .null, .val (.ref w1), .val (.ref w2), .val (.long u), .second, .unset, .unset, .unset, .unset] []))
        obtain ⟨T160, h160, X160, e160, E160, A160, D160, U160, st160⟩ := newO X159 hx hZ hown (hw _ (List.mem_of_getElem? (i := 7) rfl)) (hw _ (List.mem_of_getElem? (i := 8) rfl)) (hw _ (List.mem_of_getElem? (i := 9) rfl)) eh159 (g := (mkF m 62 #[.val (.int p1), .val (.long q1), .second, .val (.long q2), .second, .val (.long q3), .second, .val (.int p5), .val (.int p6), .val (.int (p1 &&& (3 : Int32))), .val .null, .val (.ref w1), .val (.ref w2), .val (.long u), .second, .unset, .unset, .unset, .unset] [])) rfl (hb hby at_62) (by decide) (by decide)
        obtain ⟨b160, q160⟩ : ∃ z, z = T158.heap.size := ⟨_, rfl⟩
        rw [← q160] at A160 D160 U160 st160
        have ne_w1_b160 : w1 ≠ b160 := Nat.ne_of_lt (Nat.lt_of_lt_of_le E_w1_e158.lt (Nat.le_of_eq q160.symm))
        have ne_w2_b160 : w2 ≠ b160 := Nat.ne_of_lt (Nat.lt_of_lt_of_le E_w2.lt (Nat.le_of_eq q160.symm))
        have g_b160 : n0 ≤ b160 := Nat.le_trans (Nat.le_trans (Nat.le_trans Z0 K149.1) K158.1) (Nat.le_of_eq q160.symm)
        have Sn_b160 : Safe Z own_EL _ h160 b160 := Safe.ext E160 hH158 (Safe.new (Nat.le_of_eq q160.symm))
        have hR160 := hR158.trans (CHr.ext E160 hH158)
        have hH160 := hH158.ext E160
        have O160 := O158.ext E160
        have E_w1_e160 := E_w1_e158.ext E160
        have E_w2_e160 := E_w2.ext E160
        have FnrunId_160 : Fld Z h160 b160 "com/example/deft_lock/deftlock/service/ServerInfo" "runId" "Ljava/lang/String;" .null := D160 (Or.inr (hw _ (List.mem_of_getElem? (i := 22) rfl))) (ty := (.object "java/lang/String")) (by decide)
        have FnuptimeSeconds_160 : Fld Z h160 b160 "com/example/deft_lock/deftlock/service/ServerInfo" "uptimeSeconds" "J" (.long (0 : Int64)) := D160 (Or.inr (hw _ (List.mem_of_getElem? (i := 24) rfl))) (ty := .long) (by decide)
        have FnclockMicros_160 : Fld Z h160 b160 "com/example/deft_lock/deftlock/service/ServerInfo" "clockMicros" "J" (.long (0 : Int64)) := D160 (Or.inr (hw _ (List.mem_of_getElem? (i := 26) rfl))) (ty := .long) (by decide)
        have Fnrole_160 : Fld Z h160 b160 "com/example/deft_lock/deftlock/service/ServerInfo" "role" "Ljava/lang/String;" .null := D160 (Or.inr (hw _ (List.mem_of_getElem? (i := 28) rfl))) (ty := (.object "java/lang/String")) (by decide)
        have Fnmaster_160 : Fld Z h160 b160 "com/example/deft_lock/deftlock/service/ServerInfo" "master" "Ljava/lang/String;" .null := D160 (Or.inr (hw _ (List.mem_of_getElem? (i := 30) rfl))) (ty := (.object "java/lang/String")) (by decide)
        have FnconnectedReplicas_160 : Fld Z h160 b160 "com/example/deft_lock/deftlock/service/ServerInfo" "connectedReplicas" "J" (.long (0 : Int64)) := D160 (Or.inr (hw _ (List.mem_of_getElem? (i := 32) rfl))) (ty := .long) (by decide)
        refine own_toH (fun t k => st160 t k) ?_
        show own_FinH _ _ _ _ _ _ _ _ (T160.setTop (mkF m 65 #[.val (.int p1), .val (.long q1), .second, .val (.long q2), .second, .val (.long q3), .second, .val (.int p5), .val (.int p6), .val (.int (p1 &&& (3 : Int32))), .val .null, .val (.ref w1), .val (.ref w2), .val (.long u), .second, .unset, .unset, .unset, .unset] [(.ref b160)]))
        refine own_toH (fun t k => XS.dup X160.here hx rfl (hb hby at_65) rfl rfl k) ?_
        show own_FinH _ _ _ _ _ _ _ _ (T160.setTop (mkF m 66 #[.val (.int p1), .val (.long q1), .second, .val (.long q2), .second, .val (.long q3), .second, .val (.int p5), .val (.int p6), .val (.int (p1 &&& (3 : Int32))), .val .null, .val (.ref w1), .val (.ref w2), .val (.long u), .second, .unset, .unset, .unset, .unset] [(.ref b160), (.ref b160)]))
        refine own_toH (fun t k => XS.aload X160.here hx rfl (hb hby at_66) rfl rfl k) ?_
        show own_FinH _ _ _ _ _ _ _ _ (T160.setTop (mkF m 68 #[.val (.int p1), .val (.long q1), .second, .val (.long q2), .second, .val (.long q3), .second, .val (.int p5), .val (.int p6), .val (.int (p1 &&& (3 : Int32))), .val .null, .val (.ref w1), .val (.ref w2), .val (.long u), .second, .unset, .unset, .unset, .unset] [.null, (.ref b160), (.ref b160)]))
        refine own_toH (fun t k => XS.lload X160.here hx rfl (hb hby at_68) rfl k) ?_
        show own_FinH _ _ _ _ _ _ _ _ (T160.setTop (mkF m 70 #[.val (.int p1), .val (.long q1), .second, .val (.long q2), .second, .val (.long q3), .second, .val (.int p5), .val (.int p6), .val (.int (p1 &&& (3 : Int32))), .val .null, .val (.ref w1), .val (.ref w2), .val (.long u), .second, .unset, .unset, .unset, .unset] [(.long u), .null, (.ref b160), (.ref b160)]))
        refine own_toH (fun t k => XS.lloadN X160.here hx rfl (hb hby at_70) rfl k) ?_
        show own_FinH _ _ _ _ _ _ _ _ (T160.setTop (mkF m 71 #[.val (.int p1), .val (.long q1), .second, .val (.long q2), .second, .val (.long q3), .second, .val (.int p5), .val (.int p6), .val (.int (p1 &&& (3 : Int32))), .val .null, .val (.ref w1), .val (.ref w2), .val (.long u), .second, .unset, .unset, .unset, .unset] [(.long q2), (.long u), .null, (.ref b160), (.ref b160)]))
        refine own_toH (fun t k => XS.aload X160.here hx rfl (hb hby at_71) rfl rfl k) ?_
        show own_FinH _ _ _ _ _ _ _ _ (T160.setTop (mkF m 73 #[.val (.int p1), .val (.long q1), .second, .val (.long q2), .second, .val (.long q3), .second, .val (.int p5), .val (.int p6), .val (.int (p1 &&& (3 : Int32))), .val .null, .val (.ref w1), .val (.ref w2), .val (.long u), .second, .unset, .unset, .unset, .unset] [(.ref w1), (.long q2), (.long u), .null, (.ref b160), (.ref b160)]))
        refine own_toH (fun t k => XS.aload X160.here hx rfl (hb hby at_73) rfl rfl k) ?_
        show own_FinH _ _ _ _ _ _ _ _ (T160.setTop (mkF m 75 #[.val (.int p1), .val (.long q1), .second, .val (.long q2), .second, .val (.long q3), .second, .val (.int p5), .val (.int p6), .val (.int (p1 &&& (3 : Int32))), .val .null, .val (.ref w1), .val (.ref w2), .val (.long u), .second, .unset, .unset, .unset, .unset] [(.ref w2), (.ref w1), (.long q2), (.long u), .null, (.ref b160), (.ref b160)]))
        refine own_toH (fun t k => XS.lload X160.here hx rfl (hb hby at_75) rfl k) ?_
        show own_FinH _ _ _ _ _ _ _ _ (T160.setTop (mkF m 77 #[.val (.int p1), .val (.long q1), .second, .val (.long q2), .second, .val (.long q3), .second, .val (.int p5), .val (.int p6), .val (.int (p1 &&& (3 : Int32))), .val .null, .val (.ref w1), .val (.ref w2), .val (.long u), .second, .unset, .unset, .unset, .unset] [(.long q3), (.ref w2), (.ref w1), (.long q2), (.long u), .null, (.ref b160), (.ref b160)]))
        obtain ⟨_, _, ⟨T161, L161, k161, n161⟩, -, X161, ⟨Lc161, hQ161, l161, y161, z161⟩, st161⟩ := X160.specialBack hx (y := (⟨"com/example/deft_lock/deftlock/service/ServerInfo", "<init>", "(Ljava/lang/String;JJLjava/lang/String;Ljava/lang/String;J)V"⟩ : MethodName)) rfl hown (mvT hZ (hw _ (List.mem_of_getElem? (i := 10) rfl))) (mvT hZ (hw _ (List.mem_of_getElem? (i := 11) rfl))) (mvT hZ (hw _ (List.mem_of_getElem? (i := 12) rfl))) (by decide) (own_back (W := 1) (own_si6 l Z a0 hw [] b160 u q2 q3 w1 w2 h160 n0 (Nat.le_trans (Nat.le_trans (Nat.le_trans Z0 K149.1) K158.1) E160.1) A160 FnrunId_160 FnuptimeSeconds_160 FnclockMicros_160 Fnrole_160 Fnmaster_160 FnconnectedReplicas_160 g_b160) hZ (hw _ (List.mem_of_getElem? (i := 12) rfl)) (hw _ (List.mem_of_getElem? (i := 9) rfl)) (by decide) (by decide)) (g := (mkF m 77 #[.val (.int p1), .val (.long q1), .second, .val (.long q2), .second, .val (.long q3), .second, .val (.int p5), .val (.int p6), .val (.int (p1 &&& (3 : Int32))), .val .null, .val (.ref w1), .val (.ref w2), .val (.long u), .second, .unset, .unset, .unset, .unset] [(.long q3), (.ref w2), (.ref w1), (.long q2), (.long u), .null, (.ref b160), (.ref b160)])) rfl (by rw [hml]; rfl) (Steps.refl _) (a := b160) (argsL := [.null, (.long u), (.long q2), (.ref w1), (.ref w2), (.long q3)]) (rest := [(.ref b160)]) (lenOf own_pd8 rfl) rfl (by show 2 * 0 + _ ≤ _; exact Nat.le_of_eq rfl) (hb hby at_77) (fun _ _ => ⟨rfl, e160, (by decide : 13 + 0 ≤ _), (by decide : 30 + 0 ≤ _)⟩)
        dsimp only [Pt.U, Pt.locs, Pt.cells, Pt.slots] at X161 l161 y161 z161 st161 hQ161
        subst l161 y161 z161
        obtain ⟨rfl, N161q, K161, Fr1, Fu1⟩ := hQ161
        have N161 := Fr.app N159 N161q
        have hR161 := hR160.trans (CHr.keep K161 (sfS Sn_b160 sf0) hH160)
        have hH161 := CHv.keep K161 (sfS Sn_b160 sf0) hH160
        have Sf_b160_161 := Safe.keep K161 (sfS Sn_b160 sf0) hH160 Sn_b160
        have O161 := O160.keep K161 (allS g_b160 all0)
        have E_w1_e161 := E_w1_e160.keep K161
        have E_w2_e161 := E_w2_e160.keep K161
        have A160_e161 := A160.keep K161
        refine own_toH (fun t k => st161.trans k) ?_
        show own_FinH _ _ _ _ _ _ _ _ (T161.setTop (mkF m 80 #[.val (.int p1), .val (.long q1), .second, .val (.long q2), .second, .val (.long q3), .second, .val (.int p5), .val (.int p6), .val (.int (p1 &&& (3 : Int32))), .val .null, .val (.ref w1), .val (.ref w2), .val (.long u), .second, .unset, .unset, .unset, .unset] [(.ref b160)]))
        refine own_toH (fun t k => XS.astore X161.here hx rfl (hb hby at_80) rfl rfl (l' := #[.val (.int p1), .val (.long q1), .second, .val (.long q2), .second, .val (.long q3), .second, .val (.int p5), .val (.int p6), .val (.int (p1 &&& (3 : Int32))), .val .null, .val (.ref w1), .val (.ref w2), .val (.long u), .second, .val (.ref b160), .unset, .unset, .unset]) rfl k) ?_
        show own_FinH _ _ _ _ _ _ _ _ (T161.setTop (mkF m 82 #[.val (.int p1), .val (.long q1), .second, .val (.long q2), .second, .val (.long q3), .second, .val (.int p5), .val (.int p6), .val (.int (p1 &&& (3 : Int32))), .val .null, .val (.ref w1), .val (.ref w2), .val (.long u), .second, .val (.ref b160), .unset, .unset, .unset] []))
        refine own_toH (fun t k => XS.iload X161.here hx rfl (hb hby at_82) rfl k) ?_
        show own_FinH _ _ _ _ _ _ _ _ (T161.setTop (mkF m 84 #[.val (.int p1), .val (.long q1), .second, .val (.long q2), .second, .val (.long q3), .second, .val (.int p5), .val (.int p6), .val (.int (p1 &&& (3 : Int32))), .val .null, .val (.ref w1), .val (.ref w2), .val (.long u), .second, .val (.ref b160), .unset, .unset, .unset] [(.int (p1 &&& (3 : Int32)))]))
        refine own_toH (fun t k => XS.ifYes X161.here hx rfl (pc0 := 84) (pc' := 91) rfl (hb hby at_84) rfl ((if0 _ _).trans (teq hf130).1) (by decide) (by decide) k) ?_
        show own_FinH _ _ _ _ _ _ _ _ (T161.setTop (mkF m 91 #[.val (.int p1), .val (.long q1), .second, .val (.long q2), .second, .val (.long q3), .second, .val (.int p5), .val (.int p6), .val (.int (p1 &&& (3 : Int32))), .val .null, .val (.ref w1), .val (.ref w2), .val (.long u), .second, .val (.ref b160), .unset, .unset, .unset] []))
        refine own_toH (fun t k => XS.iconst X161.here hx rfl (hb hby at_91) k) ?_
        show own_FinH _ _ _ _ _ _ _ _ (T161.setTop (mkF m 92 #[.val (.int p1), .val (.long q1), .second, .val (.long q2), .second, .val (.long q3), .second, .val (.int p5), .val (.int p6), .val (.int (p1 &&& (3 : Int32))), .val .null, .val (.ref w1), .val (.ref w2), .val (.long u), .second, .val (.ref b160), .unset, .unset, .unset] [(.int (0 : Int32))]))
        refine own_toH (fun t k => XS.istore X161.here hx rfl (hb hby at_92) rfl (l' := #[.val (.int p1), .val (.long q1), .second, .val (.long q2), .second, .val (.long q3), .second, .val (.int p5), .val (.int p6), .val (.int (p1 &&& (3 : Int32))), .val .null, .val (.ref w1), .val (.ref w2), .val (.long u), .second, .val (.ref b160), .val (.int (0 : Int32)), .unset, .unset]) rfl k) ?_
        show own_FinH _ _ _ _ _ _ _ _ (T161.setTop (mkF m 94 #[.val (.int p1), .val (.long q1), .second, .val (.long q2), .second, .val (.long q3), .second, .val (.int p5), .val (.int p6), .val (.int (p1 &&& (3 : Int32))), .val .null, .val (.ref w1), .val (.ref w2), .val (.long u), .second, .val (.ref b160), .val (.int (0 : Int32)), .unset, .unset] []))
        refine own_toH (fun t k => XS.lload X161.here hx rfl (hb hby at_94) rfl k) ?_
        show own_FinH _ _ _ _ _ _ _ _ (T161.setTop (mkF m 96 #[.val (.int p1), .val (.long q1), .second, .val (.long q2), .second, .val (.long q3), .second, .val (.int p5), .val (.int p6), .val (.int (p1 &&& (3 : Int32))), .val .null, .val (.ref w1), .val (.ref w2), .val (.long u), .second, .val (.ref b160), .val (.int (0 : Int32)), .unset, .unset] [(.long u)]))
        refine own_toH (fun t k => XS.bipush X161.here hx rfl (hb hby at_96) k) ?_
        show own_FinH _ _ _ _ _ _ _ _ (T161.setTop (mkF m 98 #[.val (.int p1), .val (.long q1), .second, .val (.long q2), .second, .val (.long q3), .second, .val (.int p5), .val (.int p6), .val (.int (p1 &&& (3 : Int32))), .val .null, .val (.ref w1), .val (.ref w2), .val (.long u), .second, .val (.ref b160), .val (.int (0 : Int32)), .unset, .unset] [(.int (63 : Int32)), (.long u)]))
        refine own_toH (fun t k => XS.lushr X161.here hx rfl (hb hby at_98) rfl k) ?_
        show own_FinH _ _ _ _ _ _ _ _ (T161.setTop (mkF m 99 #[.val (.int p1), .val (.long q1), .second, .val (.long q2), .second, .val (.long q3), .second, .val (.int p5), .val (.int p6), .val (.int (p1 &&& (3 : Int32))), .val .null, .val (.ref w1), .val (.ref w2), .val (.long u), .second, .val (.ref b160), .val (.int (0 : Int32)), .unset, .unset] [(.long ((u.toUInt64 >>> ((63 : Int32) &&& 0x3f).toInt64.toUInt64).toInt64))]))
        refine own_toH (fun t k => XS.lconst X161.here hx rfl (hb hby at_99) k) ?_
        show own_FinH _ _ _ _ _ _ _ _ (T161.setTop (mkF m 100 #[.val (.int p1), .val (.long q1), .second, .val (.long q2), .second, .val (.long q3), .second, .val (.int p5), .val (.int p6), .val (.int (p1 &&& (3 : Int32))), .val .null, .val (.ref w1), .val (.ref w2), .val (.long u), .second, .val (.ref b160), .val (.int (0 : Int32)), .unset, .unset] [(.long (0 : Int64)), (.long ((u.toUInt64 >>> ((63 : Int32) &&& 0x3f).toInt64.toUInt64).toInt64))]))
        refine own_toH (fun t k => XS.lcmp X161.here hx rfl (hb hby at_100) rfl k) ?_
        show own_FinH _ _ _ _ _ _ _ _ (T161.setTop (mkF m 101 #[.val (.int p1), .val (.long q1), .second, .val (.long q2), .second, .val (.long q3), .second, .val (.int p5), .val (.int p6), .val (.int (p1 &&& (3 : Int32))), .val .null, .val (.ref w1), .val (.ref w2), .val (.long u), .second, .val (.ref b160), .val (.int (0 : Int32)), .unset, .unset] [(.int (lcmpW ((u.toUInt64 >>> ((63 : Int32) &&& 0x3f).toInt64.toUInt64).toInt64) (0 : Int64)))]))
        by_cases hc101_162 : ((u.toUInt64 >>> ((63 : Int32) &&& 0x3f).toInt64.toUInt64).toInt64) = (0 : Int64)
        ·
          show own_FinH _ _ _ _ _ _ _ _ (T161.setTop (mkF m 101 #[.val (.int p1), .val (.long q1), .second, .val (.long q2), .second, .val (.long q3), .second, .val (.int p5), .val (.int p6), .val (.int (p1 &&& (3 : Int32))), .val .null, .val (.ref w1), .val (.ref w2), .val (.long u), .second, .val (.ref b160), .val (.int (0 : Int32)), .unset, .unset] [(.int (lcmpW ((u.toUInt64 >>> ((63 : Int32) &&& 0x3f).toInt64.toUInt64).toInt64) (0 : Int64)))]))
          refine own_toH (fun t k => XS.ifNo X161.here hx rfl (hb hby at_101) rfl ((if0 _ _).trans (teq ((lw_eq _ _).mpr hc101_162)).2) k) ?_
          show own_FinH _ _ _ _ _ _ _ _ (T161.setTop (mkF m 104 #[.val (.int p1), .val (.long q1), .second, .val (.long q2), .second, .val (.long q3), .second, .val (.int p5), .val (.int p6), .val (.int (p1 &&& (3 : Int32))), .val .null, .val (.ref w1), .val (.ref w2), .val (.long u), .second, .val (.ref b160), .val (.int (0 : Int32)), .unset, .unset] []))
          refine own_toH (fun t k => XS.iconst X161.here hx rfl (hb hby at_104) k) ?_
          show own_FinH _ _ _ _ _ _ _ _ (T161.setTop (mkF m 105 #[.val (.int p1), .val (.long q1), .second, .val (.long q2), .second, .val (.long q3), .second, .val (.int p5), .val (.int p6), .val (.int (p1 &&& (3 : Int32))), .val .null, .val (.ref w1), .val (.ref w2), .val (.long u), .second, .val (.ref b160), .val (.int (0 : Int32)), .unset, .unset] [(.int (1 : Int32))]))
          refine own_toH (fun t k => XS.goto X161.here hx rfl (pc0 := 105) (pc' := 109) rfl (hb hby at_105) (by decide) (by decide) k) ?_
          show own_FinH _ _ _ _ _ _ _ _ (T161.setTop (mkF m 109 #[.val (.int p1), .val (.long q1), .second, .val (.long q2), .second, .val (.long q3), .second, .val (.int p5), .val (.int p6), .val (.int (p1 &&& (3 : Int32))), .val .null, .val (.ref w1), .val (.ref w2), .val (.long u), .second, .val (.ref b160), .val (.int (0 : Int32)), .unset, .unset] [(.int (1 : Int32))]))
          refine own_toH (fun t k => XS.istore X161.here hx rfl (hb hby at_109) rfl (l' := #[.val (.int p1), .val (.long q1), .second, .val (.long q2), .second, .val (.long q3), .second, .val (.int p5), .val (.int p6), .val (.int (p1 &&& (3 : Int32))), .val .null, .val (.ref w1), .val (.ref w2), .val (.long u), .second, .val (.ref b160), .val (.int (0 : Int32)), .val (.int (1 : Int32)), .unset]) rfl k) ?_
          show own_FinH _ _ _ _ _ _ _ _ (T161.setTop (mkF m 111 #[.val (.int p1), .val (.long q1), .second, .val (.long q2), .second, .val (.long q3), .second, .val (.int p5), .val (.int p6), .val (.int (p1 &&& (3 : Int32))), .val .null, .val (.ref w1), .val (.ref w2), .val (.long u), .second, .val (.ref b160), .val (.int (0 : Int32)), .val (.int (1 : Int32)), .unset] []))
          refine own_toH (fun t k => XS.iconst X161.here hx rfl (hb hby at_111) k) ?_
          show own_FinH _ _ _ _ _ _ _ _ (T161.setTop (mkF m 112 #[.val (.int p1), .val (.long q1), .second, .val (.long q2), .second, .val (.long q3), .second, .val (.int p5), .val (.int p6), .val (.int (p1 &&& (3 : Int32))), .val .null, .val (.ref w1), .val (.ref w2), .val (.long u), .second, .val (.ref b160), .val (.int (0 : Int32)), .val (.int (1 : Int32)), .unset] [(.int (0 : Int32))]))
          refine own_toH (fun t k => XS.istore X161.here hx rfl (hb hby at_112) rfl (l' := #[.val (.int p1), .val (.long q1), .second, .val (.long q2), .second, .val (.long q3), .second, .val (.int p5), .val (.int p6), .val (.int (p1 &&& (3 : Int32))), .val .null, .val (.ref w1), .val (.ref w2), .val (.long u), .second, .val (.ref b160), .val (.int (0 : Int32)), .val (.int (1 : Int32)), .val (.int (0 : Int32))]) rfl k) ?_
          show own_FinH _ _ _ _ _ _ _ _ (T161.setTop (mkF m 114 #[.val (.int p1), .val (.long q1), .second, .val (.long q2), .second, .val (.long q3), .second, .val (.int p5), .val (.int p6), .val (.int (p1 &&& (3 : Int32))), .val .null, .val (.ref w1), .val (.ref w2), .val (.long u), .second, .val (.ref b160), .val (.int (0 : Int32)), .val (.int (1 : Int32)), .val (.int (0 : Int32))] []))
          refine own_toH (fun t k => XS.iload X161.here hx rfl (hb hby at_114) rfl k) ?_
          show own_FinH _ _ _ _ _ _ _ _ (T161.setTop (mkF m 116 #[.val (.int p1), .val (.long q1), .second, .val (.long q2), .second, .val (.long q3), .second, .val (.int p5), .val (.int p6), .val (.int (p1 &&& (3 : Int32))), .val .null, .val (.ref w1), .val (.ref w2), .val (.long u), .second, .val (.ref b160), .val (.int (0 : Int32)), .val (.int (1 : Int32)), .val (.int (0 : Int32))] [(.int (0 : Int32))]))
          refine own_toH (fun t k => XS.ifYes X161.here hx rfl (pc0 := 116) (pc' := 127) rfl (hb hby at_116) rfl ((if0 _ _).trans (teq rfl).1) (by decide) (by decide) k) ?_
          show own_FinH _ _ _ _ _ _ _ _ (T161.setTop (mkF m 127 #[.val (.int p1), .val (.long q1), .second, .val (.long q2), .second, .val (.long q3), .second, .val (.int p5), .val (.int p6), .val (.int (p1 &&& (3 : Int32))), .val .null, .val (.ref w1), .val (.ref w2), .val (.long u), .second, .val (.ref b160), .val (.int (0 : Int32)), .val (.int (1 : Int32)), .val (.int (0 : Int32))] []))
          refine own_toH (fun t k => XS.aload X161.here hx rfl (hb hby at_127) rfl rfl k) ?_
          show own_FinH _ _ _ _ _ _ _ _ (T161.setTop (mkF m 129 #[.val (.int p1), .val (.long q1), .second, .val (.long q2), .second, .val (.long q3), .second, .val (.int p5), .val (.int p6), .val (.int (p1 &&& (3 : Int32))), .val .null, .val (.ref w1), .val (.ref w2), .val (.long u), .second, .val (.ref b160), .val (.int (0 : Int32)), .val (.int (1 : Int32)), .val (.int (0 : Int32))] [(.ref b160)]))
          obtain ⟨cq163, kq163, q163a, q163b, q163c⟩ := isOf hZ rfl A160_e161
          obtain ⟨_, _, ⟨T163, L163, k163, n163⟩, -, X163, ⟨Lc163, hQ163, l163, y163, z163⟩, st163⟩ := X161.virtualBack hx (y := (⟨"com/example/deft_lock/deftlock/service/ServerInfo", "tellsUptime", "()Z"⟩ : MethodName)) (z := (⟨"com/example/deft_lock/deftlock/service/ServerInfo", "tellsUptime", "()Z"⟩ : MethodName)) hown (mvT hZ (hw _ (List.mem_of_getElem? (i := 33) rfl))) (mvT hZ (hw _ (List.mem_of_getElem? (i := 34) rfl))) (notFace_of_selects (args := #[]) (mvT hZ (hw _ (List.mem_of_getElem? (i := 36) rfl)))) (mvT hZ (hw _ (List.mem_of_getElem? (i := 36) rfl))) (mvT hZ (hw _ (List.mem_of_getElem? (i := 35) rfl))) (by decide) (own_back (W := 0) (own_tuN l Z a0 hw [] b160 T161.heap n0 (Nat.le_trans (Nat.le_trans (Nat.le_trans (Nat.le_trans Z0 K149.1) K158.1) E160.1) K161.1) Fr1) hZ (hw _ (List.mem_of_getElem? (i := 37) rfl)) (hw _ (List.mem_of_getElem? (i := 9) rfl)) (by decide) (by decide)) q163a q163c (g := (mkF m 129 #[.val (.int p1), .val (.long q1), .second, .val (.long q2), .second, .val (.long q3), .second, .val (.int p5), .val (.int p6), .val (.int (p1 &&& (3 : Int32))), .val .null, .val (.ref w1), .val (.ref w2), .val (.long u), .second, .val (.ref b160), .val (.int (0 : Int32)), .val (.int (1 : Int32)), .val (.int (0 : Int32))] [(.ref b160)])) rfl (by rw [hml]; rfl) (Steps.refl _) (argsL := []) (rest := []) (lenOf own_pd9 rfl) rfl (by show 2 * 0 + _ ≤ _; exact Nat.le_of_eq rfl) (hb hby at_129) (fun _ _ => ⟨rfl, rfl, (by decide : 13 + 0 ≤ _), (by decide : 30 + 0 ≤ _)⟩)
          dsimp only [Pt.U, Pt.locs, Pt.cells, Pt.slots] at X163 l163 y163 z163 st163 hQ163
          subst l163 y163 z163
          obtain ⟨rfl, N163q, eh163⟩ := hQ163
          have N163 := Fr.app N161 N163q
          refine own_toH (fun t k => st163.trans k) ?_
          show own_FinH _ _ _ _ _ _ _ _ (T163.setTop (mkF m 132 #[.val (.int p1), .val (.long q1), .second, .val (.long q2), .second, .val (.long q3), .second, .val (.int p5), .val (.int p6), .val (.int (p1 &&& (3 : Int32))), .val .null, .val (.ref w1), .val (.ref w2), .val (.long u), .second, .val (.ref b160), .val (.int (0 : Int32)), .val (.int (1 : Int32)), .val (.int (0 : Int32))] [(.int (0 : Int32))]))
          refine own_toH (fun t k => XS.iload X163.here hx rfl (hb hby at_132) rfl k) ?_
          show own_FinH _ _ _ _ _ _ _ _ (T163.setTop (mkF m 134 #[.val (.int p1), .val (.long q1), .second, .val (.long q2), .second, .val (.long q3), .second, .val (.int p5), .val (.int p6), .val (.int (p1 &&& (3 : Int32))), .val .null, .val (.ref w1), .val (.ref w2), .val (.long u), .second, .val (.ref b160), .val (.int (0 : Int32)), .val (.int (1 : Int32)), .val (.int (0 : Int32))] [(.int (0 : Int32)), (.int (0 : Int32))]))
          refine own_toH (fun t k => XS.icmpNo X163.here hx rfl (hb hby at_134) rfl (teq rfl).2 k) ?_
          show own_FinH _ _ _ _ _ _ _ _ (T163.setTop (mkF m 137 #[.val (.int p1), .val (.long q1), .second, .val (.long q2), .second, .val (.long q3), .second, .val (.int p5), .val (.int p6), .val (.int (p1 &&& (3 : Int32))), .val .null, .val (.ref w1), .val (.ref w2), .val (.long u), .second, .val (.ref b160), .val (.int (0 : Int32)), .val (.int (1 : Int32)), .val (.int (0 : Int32))] []))
          refine own_toH (fun t k => XS.iconst X163.here hx rfl (hb hby at_137) k) ?_
          show own_FinH _ _ _ _ _ _ _ _ (T163.setTop (mkF m 138 #[.val (.int p1), .val (.long q1), .second, .val (.long q2), .second, .val (.long q3), .second, .val (.int p5), .val (.int p6), .val (.int (p1 &&& (3 : Int32))), .val .null, .val (.ref w1), .val (.ref w2), .val (.long u), .second, .val (.ref b160), .val (.int (0 : Int32)), .val (.int (1 : Int32)), .val (.int (0 : Int32))] [(.int (1 : Int32))]))
          refine own_toH (fun t k => XS.goto X163.here hx rfl (pc0 := 138) (pc' := 142) rfl (hb hby at_138) (by decide) (by decide) k) ?_
          show own_FinH _ _ _ _ _ _ _ _ (T163.setTop (mkF m 142 #[.val (.int p1), .val (.long q1), .second, .val (.long q2), .second, .val (.long q3), .second, .val (.int p5), .val (.int p6), .val (.int (p1 &&& (3 : Int32))), .val .null, .val (.ref w1), .val (.ref w2), .val (.long u), .second, .val (.ref b160), .val (.int (0 : Int32)), .val (.int (1 : Int32)), .val (.int (0 : Int32))] [(.int (1 : Int32))]))
          refine own_retNH X163 hS158 (by rw [eh163]; exact (Nat.le_trans (Nat.le_trans (Nat.le_refl _) E160.1) K161.1)) hZ hEL (by rw [eh163]; exact hH161) (by rw [eh163]; exact hR161) hx hlk (t := .boolean) hret (by simp) (hb hby at_142) (by decide) (by decide) ?_
          try rw [eh163]
          exact ⟨rfl, N163⟩
        ·
          show own_FinH _ _ _ _ _ _ _ _ (T161.setTop (mkF m 101 #[.val (.int p1), .val (.long q1), .second, .val (.long q2), .second, .val (.long q3), .second, .val (.int p5), .val (.int p6), .val (.int (p1 &&& (3 : Int32))), .val .null, .val (.ref w1), .val (.ref w2), .val (.long u), .second, .val (.ref b160), .val (.int (0 : Int32)), .unset, .unset] [(.int (lcmpW ((u.toUInt64 >>> ((63 : Int32) &&& 0x3f).toInt64.toUInt64).toInt64) (0 : Int64)))]))
          refine own_toH (fun t k => XS.ifYes X161.here hx rfl (pc0 := 101) (pc' := 108) rfl (hb hby at_101) rfl ((if0 _ _).trans (feq (fun z => hc101_162 ((lw_eq _ _).mp z))).2) (by decide) (by decide) k) ?_
          show own_FinH _ _ _ _ _ _ _ _ (T161.setTop (mkF m 108 #[.val (.int p1), .val (.long q1), .second, .val (.long q2), .second, .val (.long q3), .second, .val (.int p5), .val (.int p6), .val (.int (p1 &&& (3 : Int32))), .val .null, .val (.ref w1), .val (.ref w2), .val (.long u), .second, .val (.ref b160), .val (.int (0 : Int32)), .unset, .unset] []))
          refine own_toH (fun t k => XS.iconst X161.here hx rfl (hb hby at_108) k) ?_
          show own_FinH _ _ _ _ _ _ _ _ (T161.setTop (mkF m 109 #[.val (.int p1), .val (.long q1), .second, .val (.long q2), .second, .val (.long q3), .second, .val (.int p5), .val (.int p6), .val (.int (p1 &&& (3 : Int32))), .val .null, .val (.ref w1), .val (.ref w2), .val (.long u), .second, .val (.ref b160), .val (.int (0 : Int32)), .unset, .unset] [(.int (0 : Int32))]))
          refine own_toH (fun t k => XS.istore X161.here hx rfl (hb hby at_109) rfl (l' := #[.val (.int p1), .val (.long q1), .second, .val (.long q2), .second, .val (.long q3), .second, .val (.int p5), .val (.int p6), .val (.int (p1 &&& (3 : Int32))), .val .null, .val (.ref w1), .val (.ref w2), .val (.long u), .second, .val (.ref b160), .val (.int (0 : Int32)), .val (.int (0 : Int32)), .unset]) rfl k) ?_
          show own_FinH _ _ _ _ _ _ _ _ (T161.setTop (mkF m 111 #[.val (.int p1), .val (.long q1), .second, .val (.long q2), .second, .val (.long q3), .second, .val (.int p5), .val (.int p6), .val (.int (p1 &&& (3 : Int32))), .val .null, .val (.ref w1), .val (.ref w2), .val (.long u), .second, .val (.ref b160), .val (.int (0 : Int32)), .val (.int (0 : Int32)), .unset] []))
          refine own_toH (fun t k => XS.iconst X161.here hx rfl (hb hby at_111) k) ?_
          show own_FinH _ _ _ _ _ _ _ _ (T161.setTop (mkF m 112 #[.val (.int p1), .val (.long q1), .second, .val (.long q2), .second, .val (.long q3), .second, .val (.int p5), .val (.int p6), .val (.int (p1 &&& (3 : Int32))), .val .null, .val (.ref w1), .val (.ref w2), .val (.long u), .second, .val (.ref b160), .val (.int (0 : Int32)), .val (.int (0 : Int32)), .unset] [(.int (0 : Int32))]))
          refine own_toH (fun t k => XS.istore X161.here hx rfl (hb hby at_112) rfl (l' := #[.val (.int p1), .val (.long q1), .second, .val (.long q2), .second, .val (.long q3), .second, .val (.int p5), .val (.int p6), .val (.int (p1 &&& (3 : Int32))), .val .null, .val (.ref w1), .val (.ref w2), .val (.long u), .second, .val (.ref b160), .val (.int (0 : Int32)), .val (.int (0 : Int32)), .val (.int (0 : Int32))]) rfl k) ?_
          show own_FinH _ _ _ _ _ _ _ _ (T161.setTop (mkF m 114 #[.val (.int p1), .val (.long q1), .second, .val (.long q2), .second, .val (.long q3), .second, .val (.int p5), .val (.int p6), .val (.int (p1 &&& (3 : Int32))), .val .null, .val (.ref w1), .val (.ref w2), .val (.long u), .second, .val (.ref b160), .val (.int (0 : Int32)), .val (.int (0 : Int32)), .val (.int (0 : Int32))] []))
          refine own_toH (fun t k => XS.iload X161.here hx rfl (hb hby at_114) rfl k) ?_
          show own_FinH _ _ _ _ _ _ _ _ (T161.setTop (mkF m 116 #[.val (.int p1), .val (.long q1), .second, .val (.long q2), .second, .val (.long q3), .second, .val (.int p5), .val (.int p6), .val (.int (p1 &&& (3 : Int32))), .val .null, .val (.ref w1), .val (.ref w2), .val (.long u), .second, .val (.ref b160), .val (.int (0 : Int32)), .val (.int (0 : Int32)), .val (.int (0 : Int32))] [(.int (0 : Int32))]))
          refine own_toH (fun t k => XS.ifYes X161.here hx rfl (pc0 := 116) (pc' := 127) rfl (hb hby at_116) rfl ((if0 _ _).trans (teq rfl).1) (by decide) (by decide) k) ?_
          show own_FinH _ _ _ _ _ _ _ _ (T161.setTop (mkF m 127 #[.val (.int p1), .val (.long q1), .second, .val (.long q2), .second, .val (.long q3), .second, .val (.int p5), .val (.int p6), .val (.int (p1 &&& (3 : Int32))), .val .null, .val (.ref w1), .val (.ref w2), .val (.long u), .second, .val (.ref b160), .val (.int (0 : Int32)), .val (.int (0 : Int32)), .val (.int (0 : Int32))] []))
          refine own_toH (fun t k => XS.aload X161.here hx rfl (hb hby at_127) rfl rfl k) ?_
          show own_FinH _ _ _ _ _ _ _ _ (T161.setTop (mkF m 129 #[.val (.int p1), .val (.long q1), .second, .val (.long q2), .second, .val (.long q3), .second, .val (.int p5), .val (.int p6), .val (.int (p1 &&& (3 : Int32))), .val .null, .val (.ref w1), .val (.ref w2), .val (.long u), .second, .val (.ref b160), .val (.int (0 : Int32)), .val (.int (0 : Int32)), .val (.int (0 : Int32))] [(.ref b160)]))
          obtain ⟨cq164, kq164, q164a, q164b, q164c⟩ := isOf hZ rfl A160_e161
          obtain ⟨_, _, ⟨T164, L164, k164, n164⟩, -, X164, ⟨Lc164, hQ164, l164, y164, z164⟩, st164⟩ := X161.virtualBack hx (y := (⟨"com/example/deft_lock/deftlock/service/ServerInfo", "tellsUptime", "()Z"⟩ : MethodName)) (z := (⟨"com/example/deft_lock/deftlock/service/ServerInfo", "tellsUptime", "()Z"⟩ : MethodName)) hown (mvT hZ (hw _ (List.mem_of_getElem? (i := 33) rfl))) (mvT hZ (hw _ (List.mem_of_getElem? (i := 34) rfl))) (notFace_of_selects (args := #[]) (mvT hZ (hw _ (List.mem_of_getElem? (i := 36) rfl)))) (mvT hZ (hw _ (List.mem_of_getElem? (i := 36) rfl))) (mvT hZ (hw _ (List.mem_of_getElem? (i := 35) rfl))) (by decide) (own_back (W := 0) (own_tuN l Z a0 hw [] b160 T161.heap n0 (Nat.le_trans (Nat.le_trans (Nat.le_trans (Nat.le_trans Z0 K149.1) K158.1) E160.1) K161.1) Fr1) hZ (hw _ (List.mem_of_getElem? (i := 37) rfl)) (hw _ (List.mem_of_getElem? (i := 9) rfl)) (by decide) (by decide)) q164a q164c (g := (mkF m 129 #[.val (.int p1), .val (.long q1), .second, .val (.long q2), .second, .val (.long q3), .second, .val (.int p5), .val (.int p6), .val (.int (p1 &&& (3 : Int32))), .val .null, .val (.ref w1), .val (.ref w2), .val (.long u), .second, .val (.ref b160), .val (.int (0 : Int32)), .val (.int (0 : Int32)), .val (.int (0 : Int32))] [(.ref b160)])) rfl (by rw [hml]; rfl) (Steps.refl _) (argsL := []) (rest := []) (lenOf own_pd9 rfl) rfl (by show 2 * 0 + _ ≤ _; exact Nat.le_of_eq rfl) (hb hby at_129) (fun _ _ => ⟨rfl, rfl, (by decide : 13 + 0 ≤ _), (by decide : 30 + 0 ≤ _)⟩)
          dsimp only [Pt.U, Pt.locs, Pt.cells, Pt.slots] at X164 l164 y164 z164 st164 hQ164
          subst l164 y164 z164
          obtain ⟨rfl, N164q, eh164⟩ := hQ164
          have N164 := Fr.app N161 N164q
          refine own_toH (fun t k => st164.trans k) ?_
          show own_FinH _ _ _ _ _ _ _ _ (T164.setTop (mkF m 132 #[.val (.int p1), .val (.long q1), .second, .val (.long q2), .second, .val (.long q3), .second, .val (.int p5), .val (.int p6), .val (.int (p1 &&& (3 : Int32))), .val .null, .val (.ref w1), .val (.ref w2), .val (.long u), .second, .val (.ref b160), .val (.int (0 : Int32)), .val (.int (0 : Int32)), .val (.int (0 : Int32))] [(.int (0 : Int32))]))
          refine own_toH (fun t k => XS.iload X164.here hx rfl (hb hby at_132) rfl k) ?_
          show own_FinH _ _ _ _ _ _ _ _ (T164.setTop (mkF m 134 #[.val (.int p1), .val (.long q1), .second, .val (.long q2), .second, .val (.long q3), .second, .val (.int p5), .val (.int p6), .val (.int (p1 &&& (3 : Int32))), .val .null, .val (.ref w1), .val (.ref w2), .val (.long u), .second, .val (.ref b160), .val (.int (0 : Int32)), .val (.int (0 : Int32)), .val (.int (0 : Int32))] [(.int (0 : Int32)), (.int (0 : Int32))]))
          refine own_toH (fun t k => XS.icmpNo X164.here hx rfl (hb hby at_134) rfl (teq rfl).2 k) ?_
          show own_FinH _ _ _ _ _ _ _ _ (T164.setTop (mkF m 137 #[.val (.int p1), .val (.long q1), .second, .val (.long q2), .second, .val (.long q3), .second, .val (.int p5), .val (.int p6), .val (.int (p1 &&& (3 : Int32))), .val .null, .val (.ref w1), .val (.ref w2), .val (.long u), .second, .val (.ref b160), .val (.int (0 : Int32)), .val (.int (0 : Int32)), .val (.int (0 : Int32))] []))
          refine own_toH (fun t k => XS.iconst X164.here hx rfl (hb hby at_137) k) ?_
          show own_FinH _ _ _ _ _ _ _ _ (T164.setTop (mkF m 138 #[.val (.int p1), .val (.long q1), .second, .val (.long q2), .second, .val (.long q3), .second, .val (.int p5), .val (.int p6), .val (.int (p1 &&& (3 : Int32))), .val .null, .val (.ref w1), .val (.ref w2), .val (.long u), .second, .val (.ref b160), .val (.int (0 : Int32)), .val (.int (0 : Int32)), .val (.int (0 : Int32))] [(.int (1 : Int32))]))
          refine own_toH (fun t k => XS.goto X164.here hx rfl (pc0 := 138) (pc' := 142) rfl (hb hby at_138) (by decide) (by decide) k) ?_
          show own_FinH _ _ _ _ _ _ _ _ (T164.setTop (mkF m 142 #[.val (.int p1), .val (.long q1), .second, .val (.long q2), .second, .val (.long q3), .second, .val (.int p5), .val (.int p6), .val (.int (p1 &&& (3 : Int32))), .val .null, .val (.ref w1), .val (.ref w2), .val (.long u), .second, .val (.ref b160), .val (.int (0 : Int32)), .val (.int (0 : Int32)), .val (.int (0 : Int32))] [(.int (1 : Int32))]))
          refine own_retNH X164 hS158 (by rw [eh164]; exact (Nat.le_trans (Nat.le_trans (Nat.le_refl _) E160.1) K161.1)) hZ hEL (by rw [eh164]; exact hH161) (by rw [eh164]; exact hR161) hx hlk (t := .boolean) hret (by simp) (hb hby at_142) (by decide) (by decide) ?_
          try rw [eh164]
          exact ⟨rfl, N164⟩
  ·
    show own_FinH _ _ _ _ _ _ _ _ (s₁.setTop (mkF m 11 #[.val (.int p1), .val (.long q1), .second, .val (.long q2), .second, .val (.long q3), .second, .val (.int p5), .val (.int p6), .val (.int (p1 &&& (3 : Int32))), .unset, .unset, .unset, .unset, .unset, .unset, .unset, .unset, .unset] [(.int p6), (.int p5), (.int (p1 &&& (3 : Int32)))]))
    obtain ⟨_, _, ⟨T165, L165, k165, n165⟩, -, X165, S165a, S165b, ⟨Lc165, hQ165, l165, y165, z165, hC165⟩, st165⟩ := callSS X0 hx (y := (⟨"com/example/deft_lock/deftlock/service/ServerInfoTellsUptimePinLaw", "drawn", "(III)Ljava/lang/String;"⟩ : MethodName)) hown (mvT hZ (hw _ (List.mem_of_getElem? (i := 0) rfl))) (mvT hZ (hw _ (List.mem_of_getElem? (i := 1) rfl))) (mvT hZ (hw _ (List.mem_of_getElem? (i := 2) rfl))) (mvT hZ (hw _ (List.mem_of_getElem? (i := 3) rfl))) (by decide) (own_backH (W := 0) (own_drR l Z a0 hw [] cs (p1 &&& (3 : Int32)) p5 p6 h0 n0 Z0 O0 SS hcs hf130) hZ (hw _ (List.mem_of_getElem? (i := 3) rfl)) (hw _ (List.mem_of_getElem? (i := 2) rfl)) (by decide) (by decide) hEL hH all0) (g := (mkF m 11 #[.val (.int p1), .val (.long q1), .second, .val (.long q2), .second, .val (.long q3), .second, .val (.int p5), .val (.int p6), .val (.int (p1 &&& (3 : Int32))), .unset, .unset, .unset, .unset, .unset, .unset, .unset, .unset, .unset] [(.int p6), (.int p5), (.int (p1 &&& (3 : Int32)))])) rfl (by rw [hml]; rfl) (argsL := [(.int (p1 &&& (3 : Int32))), (.int p5), (.int p6)]) (rest := []) (lenOf own_pd6 rfl) rfl (by show 2 * 0 + _ ≤ _; exact Nat.le_of_eq rfl) (hb hby at_11) (fun _ _ => ⟨rfl, e0, (by decide : 0 + 6 ≤ _), (by decide : 0 + 12 ≤ _)⟩)
    dsimp only [Pt.U, Pt.locs, Pt.cells, Pt.slots] at X165 l165 y165 z165 st165 hQ165 S165a S165b hC165
    subst l165 y165 z165
    obtain ⟨X165r, hS165, hZ, hown⟩ := rebS hS (n1 := s₁.heap.size) (by rw [e0]; exact (Nat.zero_le _)) X165 S165a S165b hZ hown
    obtain ⟨w0, rfl, N165q, K165, g_w0, szx_w0, E_w0⟩ := hQ165
    have N165 := Fr.app N0 N165q
    have hR165 := hR.trans hC165
    have hH165 := hC165.1
    have O165 := O0.keep K165 all0
    refine own_toH (fun t k => st165.trans k) ?_
    show own_FinH _ _ _ _ _ _ _ _ (T165.setTop (mkF m 14 #[.val (.int p1), .val (.long q1), .second, .val (.long q2), .second, .val (.long q3), .second, .val (.int p5), .val (.int p6), .val (.int (p1 &&& (3 : Int32))), .unset, .unset, .unset, .unset, .unset, .unset, .unset, .unset, .unset] [(.ref w0)]))
    refine own_toH (fun t k => XS.astore X165r.here hx rfl (hb hby at_14) rfl rfl (l' := #[.val (.int p1), .val (.long q1), .second, .val (.long q2), .second, .val (.long q3), .second, .val (.int p5), .val (.int p6), .val (.int (p1 &&& (3 : Int32))), .val (.ref w0), .unset, .unset, .unset, .unset, .unset, .unset, .unset, .unset]) rfl k) ?_
    show own_FinH _ _ _ _ _ _ _ _ (T165.setTop (mkF m 16 #[.val (.int p1), .val (.long q1), .second, .val (.long q2), .second, .val (.long q3), .second, .val (.int p5), .val (.int p6), .val (.int (p1 &&& (3 : Int32))), .val (.ref w0), .unset, .unset, .unset, .unset, .unset, .unset, .unset, .unset] []))
    refine own_toH (fun t k => XS.iloadN X165r.here hx rfl (hb hby at_16) rfl k) ?_
    show own_FinH _ _ _ _ _ _ _ _ (T165.setTop (mkF m 17 #[.val (.int p1), .val (.long q1), .second, .val (.long q2), .second, .val (.long q3), .second, .val (.int p5), .val (.int p6), .val (.int (p1 &&& (3 : Int32))), .val (.ref w0), .unset, .unset, .unset, .unset, .unset, .unset, .unset, .unset] [(.int p1)]))
    refine own_toH (fun t k => XS.iconst X165r.here hx rfl (hb hby at_17) k) ?_
    show own_FinH _ _ _ _ _ _ _ _ (T165.setTop (mkF m 18 #[.val (.int p1), .val (.long q1), .second, .val (.long q2), .second, .val (.long q3), .second, .val (.int p5), .val (.int p6), .val (.int (p1 &&& (3 : Int32))), .val (.ref w0), .unset, .unset, .unset, .unset, .unset, .unset, .unset, .unset] [(.int (2 : Int32)), (.int p1)]))
    refine own_toH (fun t k => XS.iushr X165r.here hx rfl (hb hby at_18) rfl k) ?_
    show own_FinH _ _ _ _ _ _ _ _ (T165.setTop (mkF m 19 #[.val (.int p1), .val (.long q1), .second, .val (.long q2), .second, .val (.long q3), .second, .val (.int p5), .val (.int p6), .val (.int (p1 &&& (3 : Int32))), .val (.ref w0), .unset, .unset, .unset, .unset, .unset, .unset, .unset, .unset] [(.int ((p1.toUInt32 >>> ((2 : Int32) &&& 31).toUInt32).toInt32))]))
    refine own_toH (fun t k => XS.iconst X165r.here hx rfl (hb hby at_19) k) ?_
    show own_FinH _ _ _ _ _ _ _ _ (T165.setTop (mkF m 20 #[.val (.int p1), .val (.long q1), .second, .val (.long q2), .second, .val (.long q3), .second, .val (.int p5), .val (.int p6), .val (.int (p1 &&& (3 : Int32))), .val (.ref w0), .unset, .unset, .unset, .unset, .unset, .unset, .unset, .unset] [(.int (3 : Int32)), (.int ((p1.toUInt32 >>> ((2 : Int32) &&& 31).toUInt32).toInt32))]))
    refine own_toH (fun t k => XS.iand X165r.here hx rfl (hb hby at_20) rfl k) ?_
    show own_FinH _ _ _ _ _ _ _ _ (T165.setTop (mkF m 21 #[.val (.int p1), .val (.long q1), .second, .val (.long q2), .second, .val (.long q3), .second, .val (.int p5), .val (.int p6), .val (.int (p1 &&& (3 : Int32))), .val (.ref w0), .unset, .unset, .unset, .unset, .unset, .unset, .unset, .unset] [(.int (((p1.toUInt32 >>> ((2 : Int32) &&& 31).toUInt32).toInt32) &&& (3 : Int32)))]))
    refine own_toH (fun t k => XS.iload X165r.here hx rfl (hb hby at_21) rfl k) ?_
    show own_FinH _ _ _ _ _ _ _ _ (T165.setTop (mkF m 23 #[.val (.int p1), .val (.long q1), .second, .val (.long q2), .second, .val (.long q3), .second, .val (.int p5), .val (.int p6), .val (.int (p1 &&& (3 : Int32))), .val (.ref w0), .unset, .unset, .unset, .unset, .unset, .unset, .unset, .unset] [(.int p6), (.int (((p1.toUInt32 >>> ((2 : Int32) &&& 31).toUInt32).toInt32) &&& (3 : Int32)))]))
    refine own_toH (fun t k => XS.iload X165r.here hx rfl (hb hby at_23) rfl k) ?_
    show own_FinH _ _ _ _ _ _ _ _ (T165.setTop (mkF m 25 #[.val (.int p1), .val (.long q1), .second, .val (.long q2), .second, .val (.long q3), .second, .val (.int p5), .val (.int p6), .val (.int (p1 &&& (3 : Int32))), .val (.ref w0), .unset, .unset, .unset, .unset, .unset, .unset, .unset, .unset] [(.int p5), (.int p6), (.int (((p1.toUInt32 >>> ((2 : Int32) &&& 31).toUInt32).toInt32) &&& (3 : Int32)))]))
    by_cases hf166 : (((p1.toUInt32 >>> ((2 : Int32) &&& 31).toUInt32).toInt32) &&& (3 : Int32)) = (0 : Int32)
    ·
      show own_FinH _ _ _ _ _ _ _ _ (T165.setTop (mkF m 25 #[.val (.int p1), .val (.long q1), .second, .val (.long q2), .second, .val (.long q3), .second, .val (.int p5), .val (.int p6), .val (.int (p1 &&& (3 : Int32))), .val (.ref w0), .unset, .unset, .unset, .unset, .unset, .unset, .unset, .unset] [(.int p5), (.int p6), (.int (((p1.toUInt32 >>> ((2 : Int32) &&& 31).toUInt32).toInt32) &&& (3 : Int32)))]))
      obtain ⟨_, _, ⟨T167, L167, k167, n167⟩, -, X167, ⟨Lc167, hQ167, l167, y167, z167⟩, st167⟩ := Jvm.LawKit.callS X165r hx (y := (⟨"com/example/deft_lock/deftlock/service/ServerInfoTellsUptimePinLaw", "drawn", "(III)Ljava/lang/String;"⟩ : MethodName)) hown (mvT hZ (hw _ (List.mem_of_getElem? (i := 0) rfl))) (mvT hZ (hw _ (List.mem_of_getElem? (i := 1) rfl))) (mvT hZ (hw _ (List.mem_of_getElem? (i := 2) rfl))) (mvT hZ (hw _ (List.mem_of_getElem? (i := 3) rfl))) (by decide) (own_back (W := 0) (own_drN l Z a0 hw [] (((p1.toUInt32 >>> ((2 : Int32) &&& 31).toUInt32).toInt32) &&& (3 : Int32)) p6 p5 T165.heap n0 (Nat.le_trans Z0 K165.1) hf166) hZ (hw _ (List.mem_of_getElem? (i := 3) rfl)) (hw _ (List.mem_of_getElem? (i := 2) rfl)) (by decide) (by decide)) (g := (mkF m 25 #[.val (.int p1), .val (.long q1), .second, .val (.long q2), .second, .val (.long q3), .second, .val (.int p5), .val (.int p6), .val (.int (p1 &&& (3 : Int32))), .val (.ref w0), .unset, .unset, .unset, .unset, .unset, .unset, .unset, .unset] [(.int p5), (.int p6), (.int (((p1.toUInt32 >>> ((2 : Int32) &&& 31).toUInt32).toInt32) &&& (3 : Int32)))])) rfl (by rw [hml]; rfl) (argsL := [(.int (((p1.toUInt32 >>> ((2 : Int32) &&& 31).toUInt32).toInt32) &&& (3 : Int32))), (.int p6), (.int p5)]) (rest := []) (lenOf own_pd6 rfl) rfl (by show 2 * 0 + _ ≤ _; exact Nat.le_of_eq rfl) (hb hby at_25) (fun _ _ => ⟨rfl, rfl, (by decide : 6 + 0 ≤ _), (by decide : 12 + 0 ≤ _)⟩)
      dsimp only [Pt.U, Pt.locs, Pt.cells, Pt.slots] at X167 l167 y167 z167 st167 hQ167
      subst l167 y167 z167
      obtain ⟨rfl, N167q, eh167⟩ := hQ167
      have N167 := Fr.app N165 N167q
      refine own_toH (fun t k => st167 t k) ?_
      show own_FinH _ _ _ _ _ _ _ _ (T167.setTop (mkF m 28 #[.val (.int p1), .val (.long q1), .second, .val (.long q2), .second, .val (.long q3), .second, .val (.int p5), .val (.int p6), .val (.int (p1 &&& (3 : Int32))), .val (.ref w0), .unset, .unset, .unset, .unset, .unset, .unset, .unset, .unset] [.null]))
      refine own_toH (fun t k => XS.astore X167.here hx rfl (hb hby at_28) rfl rfl (l' := #[.val (.int p1), .val (.long q1), .second, .val (.long q2), .second, .val (.long q3), .second, .val (.int p5), .val (.int p6), .val (.int (p1 &&& (3 : Int32))), .val (.ref w0), .val .null, .unset, .unset, .unset, .unset, .unset, .unset, .unset]) rfl k) ?_
      show own_FinH _ _ _ _ _ _ _ _ (T167.setTop (mkF m 30 #[.val (.int p1), .val (.long q1), .second, .val (.long q2), .second, .val (.long q3), .second, .val (.int p5), .val (.int p6), .val (.int (p1 &&& (3 : Int32))), .val (.ref w0), .val .null, .unset, .unset, .unset, .unset, .unset, .unset, .unset] []))
      refine own_toH (fun t k => XS.iloadN X167.here hx rfl (hb hby at_30) rfl k) ?_
      show own_FinH _ _ _ _ _ _ _ _ (T167.setTop (mkF m 31 #[.val (.int p1), .val (.long q1), .second, .val (.long q2), .second, .val (.long q3), .second, .val (.int p5), .val (.int p6), .val (.int (p1 &&& (3 : Int32))), .val (.ref w0), .val .null, .unset, .unset, .unset, .unset, .unset, .unset, .unset] [(.int p1)]))
      refine own_toH (fun t k => XS.iconst X167.here hx rfl (hb hby at_31) k) ?_
      show own_FinH _ _ _ _ _ _ _ _ (T167.setTop (mkF m 32 #[.val (.int p1), .val (.long q1), .second, .val (.long q2), .second, .val (.long q3), .second, .val (.int p5), .val (.int p6), .val (.int (p1 &&& (3 : Int32))), .val (.ref w0), .val .null, .unset, .unset, .unset, .unset, .unset, .unset, .unset] [(.int (4 : Int32)), (.int p1)]))
      refine own_toH (fun t k => XS.iushr X167.here hx rfl (hb hby at_32) rfl k) ?_
      show own_FinH _ _ _ _ _ _ _ _ (T167.setTop (mkF m 33 #[.val (.int p1), .val (.long q1), .second, .val (.long q2), .second, .val (.long q3), .second, .val (.int p5), .val (.int p6), .val (.int (p1 &&& (3 : Int32))), .val (.ref w0), .val .null, .unset, .unset, .unset, .unset, .unset, .unset, .unset] [(.int ((p1.toUInt32 >>> ((4 : Int32) &&& 31).toUInt32).toInt32))]))
      refine own_toH (fun t k => XS.iconst X167.here hx rfl (hb hby at_33) k) ?_
      show own_FinH _ _ _ _ _ _ _ _ (T167.setTop (mkF m 34 #[.val (.int p1), .val (.long q1), .second, .val (.long q2), .second, .val (.long q3), .second, .val (.int p5), .val (.int p6), .val (.int (p1 &&& (3 : Int32))), .val (.ref w0), .val .null, .unset, .unset, .unset, .unset, .unset, .unset, .unset] [(.int (3 : Int32)), (.int ((p1.toUInt32 >>> ((4 : Int32) &&& 31).toUInt32).toInt32))]))
      refine own_toH (fun t k => XS.iand X167.here hx rfl (hb hby at_34) rfl k) ?_
      show own_FinH _ _ _ _ _ _ _ _ (T167.setTop (mkF m 35 #[.val (.int p1), .val (.long q1), .second, .val (.long q2), .second, .val (.long q3), .second, .val (.int p5), .val (.int p6), .val (.int (p1 &&& (3 : Int32))), .val (.ref w0), .val .null, .unset, .unset, .unset, .unset, .unset, .unset, .unset] [(.int (((p1.toUInt32 >>> ((4 : Int32) &&& 31).toUInt32).toInt32) &&& (3 : Int32)))]))
      refine own_toH (fun t k => XS.iload X167.here hx rfl (hb hby at_35) rfl k) ?_
      show own_FinH _ _ _ _ _ _ _ _ (T167.setTop (mkF m 37 #[.val (.int p1), .val (.long q1), .second, .val (.long q2), .second, .val (.long q3), .second, .val (.int p5), .val (.int p6), .val (.int (p1 &&& (3 : Int32))), .val (.ref w0), .val .null, .unset, .unset, .unset, .unset, .unset, .unset, .unset] [(.int p5), (.int (((p1.toUInt32 >>> ((4 : Int32) &&& 31).toUInt32).toInt32) &&& (3 : Int32)))]))
      refine own_toH (fun t k => XS.bipush X167.here hx rfl (hb hby at_37) k) ?_
      show own_FinH _ _ _ _ _ _ _ _ (T167.setTop (mkF m 39 #[.val (.int p1), .val (.long q1), .second, .val (.long q2), .second, .val (.long q3), .second, .val (.int p5), .val (.int p6), .val (.int (p1 &&& (3 : Int32))), .val (.ref w0), .val .null, .unset, .unset, .unset, .unset, .unset, .unset, .unset] [(.int (8 : Int32)), (.int p5), (.int (((p1.toUInt32 >>> ((4 : Int32) &&& 31).toUInt32).toInt32) &&& (3 : Int32)))]))
      refine own_toH (fun t k => XS.iushr X167.here hx rfl (hb hby at_39) rfl k) ?_
      show own_FinH _ _ _ _ _ _ _ _ (T167.setTop (mkF m 40 #[.val (.int p1), .val (.long q1), .second, .val (.long q2), .second, .val (.long q3), .second, .val (.int p5), .val (.int p6), .val (.int (p1 &&& (3 : Int32))), .val (.ref w0), .val .null, .unset, .unset, .unset, .unset, .unset, .unset, .unset] [(.int ((p5.toUInt32 >>> ((8 : Int32) &&& 31).toUInt32).toInt32)), (.int (((p1.toUInt32 >>> ((4 : Int32) &&& 31).toUInt32).toInt32) &&& (3 : Int32)))]))
      refine own_toH (fun t k => XS.iload X167.here hx rfl (hb hby at_40) rfl k) ?_
      show own_FinH _ _ _ _ _ _ _ _ (T167.setTop (mkF m 42 #[.val (.int p1), .val (.long q1), .second, .val (.long q2), .second, .val (.long q3), .second, .val (.int p5), .val (.int p6), .val (.int (p1 &&& (3 : Int32))), .val (.ref w0), .val .null, .unset, .unset, .unset, .unset, .unset, .unset, .unset] [(.int p6), (.int ((p5.toUInt32 >>> ((8 : Int32) &&& 31).toUInt32).toInt32)), (.int (((p1.toUInt32 >>> ((4 : Int32) &&& 31).toUInt32).toInt32) &&& (3 : Int32)))]))
      refine own_toH (fun t k => XS.bipush X167.here hx rfl (hb hby at_42) k) ?_
      show own_FinH _ _ _ _ _ _ _ _ (T167.setTop (mkF m 44 #[.val (.int p1), .val (.long q1), .second, .val (.long q2), .second, .val (.long q3), .second, .val (.int p5), .val (.int p6), .val (.int (p1 &&& (3 : Int32))), .val (.ref w0), .val .null, .unset, .unset, .unset, .unset, .unset, .unset, .unset] [(.int (8 : Int32)), (.int p6), (.int ((p5.toUInt32 >>> ((8 : Int32) &&& 31).toUInt32).toInt32)), (.int (((p1.toUInt32 >>> ((4 : Int32) &&& 31).toUInt32).toInt32) &&& (3 : Int32)))]))
      refine own_toH (fun t k => XS.iushr X167.here hx rfl (hb hby at_44) rfl k) ?_
      show own_FinH _ _ _ _ _ _ _ _ (T167.setTop (mkF m 45 #[.val (.int p1), .val (.long q1), .second, .val (.long q2), .second, .val (.long q3), .second, .val (.int p5), .val (.int p6), .val (.int (p1 &&& (3 : Int32))), .val (.ref w0), .val .null, .unset, .unset, .unset, .unset, .unset, .unset, .unset] [(.int ((p6.toUInt32 >>> ((8 : Int32) &&& 31).toUInt32).toInt32)), (.int ((p5.toUInt32 >>> ((8 : Int32) &&& 31).toUInt32).toInt32)), (.int (((p1.toUInt32 >>> ((4 : Int32) &&& 31).toUInt32).toInt32) &&& (3 : Int32)))]))
      by_cases hf168 : (((p1.toUInt32 >>> ((4 : Int32) &&& 31).toUInt32).toInt32) &&& (3 : Int32)) = (0 : Int32)
      ·
        show own_FinH _ _ _ _ _ _ _ _ (T167.setTop (mkF m 45 #[.val (.int p1), .val (.long q1), .second, .val (.long q2), .second, .val (.long q3), .second, .val (.int p5), .val (.int p6), .val (.int (p1 &&& (3 : Int32))), .val (.ref w0), .val .null, .unset, .unset, .unset, .unset, .unset, .unset, .unset] [(.int ((p6.toUInt32 >>> ((8 : Int32) &&& 31).toUInt32).toInt32)), (.int ((p5.toUInt32 >>> ((8 : Int32) &&& 31).toUInt32).toInt32)), (.int (((p1.toUInt32 >>> ((4 : Int32) &&& 31).toUInt32).toInt32) &&& (3 : Int32)))]))
        obtain ⟨_, _, ⟨T169, L169, k169, n169⟩, -, X169, ⟨Lc169, hQ169, l169, y169, z169⟩, st169⟩ := Jvm.LawKit.callS X167 hx (y := (⟨"com/example/deft_lock/deftlock/service/ServerInfoTellsUptimePinLaw", "drawn", "(III)Ljava/lang/String;"⟩ : MethodName)) hown (mvT hZ (hw _ (List.mem_of_getElem? (i := 0) rfl))) (mvT hZ (hw _ (List.mem_of_getElem? (i := 1) rfl))) (mvT hZ (hw _ (List.mem_of_getElem? (i := 2) rfl))) (mvT hZ (hw _ (List.mem_of_getElem? (i := 3) rfl))) (by decide) (own_back (W := 0) (own_drN l Z a0 hw [] (((p1.toUInt32 >>> ((4 : Int32) &&& 31).toUInt32).toInt32) &&& (3 : Int32)) ((p5.toUInt32 >>> ((8 : Int32) &&& 31).toUInt32).toInt32) ((p6.toUInt32 >>> ((8 : Int32) &&& 31).toUInt32).toInt32) T165.heap n0 (Nat.le_trans Z0 K165.1) hf168) hZ (hw _ (List.mem_of_getElem? (i := 3) rfl)) (hw _ (List.mem_of_getElem? (i := 2) rfl)) (by decide) (by decide)) (g := (mkF m 45 #[.val (.int p1), .val (.long q1), .second, .val (.long q2), .second, .val (.long q3), .second, .val (.int p5), .val (.int p6), .val (.int (p1 &&& (3 : Int32))), .val (.ref w0), .val .null, .unset, .unset, .unset, .unset, .unset, .unset, .unset] [(.int ((p6.toUInt32 >>> ((8 : Int32) &&& 31).toUInt32).toInt32)), (.int ((p5.toUInt32 >>> ((8 : Int32) &&& 31).toUInt32).toInt32)), (.int (((p1.toUInt32 >>> ((4 : Int32) &&& 31).toUInt32).toInt32) &&& (3 : Int32)))])) rfl (by rw [hml]; rfl) (argsL := [(.int (((p1.toUInt32 >>> ((4 : Int32) &&& 31).toUInt32).toInt32) &&& (3 : Int32))), (.int ((p5.toUInt32 >>> ((8 : Int32) &&& 31).toUInt32).toInt32)), (.int ((p6.toUInt32 >>> ((8 : Int32) &&& 31).toUInt32).toInt32))]) (rest := []) (lenOf own_pd6 rfl) rfl (by show 2 * 0 + _ ≤ _; exact Nat.le_of_eq rfl) (hb hby at_45) (fun _ _ => ⟨rfl, eh167, (by decide : 6 + 0 ≤ _), (by decide : 12 + 0 ≤ _)⟩)
        dsimp only [Pt.U, Pt.locs, Pt.cells, Pt.slots] at X169 l169 y169 z169 st169 hQ169
        subst l169 y169 z169
        obtain ⟨rfl, N169q, eh169⟩ := hQ169
        have N169 := Fr.app N167 N169q
        refine own_toH (fun t k => st169 t k) ?_
        show own_FinH _ _ _ _ _ _ _ _ (T169.setTop (mkF m 48 #[.val (.int p1), .val (.long q1), .second, .val (.long q2), .second, .val (.long q3), .second, .val (.int p5), .val (.int p6), .val (.int (p1 &&& (3 : Int32))), .val (.ref w0), .val .null, .unset, .unset, .unset, .unset, .unset, .unset, .unset] [.null]))
        refine own_toH (fun t k => XS.astore X169.here hx rfl (hb hby at_48) rfl rfl (l' := #[.val (.int p1), .val (.long q1), .second, .val (.long q2), .second, .val (.long q3), .second, .val (.int p5), .val (.int p6), .val (.int (p1 &&& (3 : Int32))), .val (.ref w0), .val .null, .val .null, .unset, .unset, .unset, .unset, .unset, .unset]) rfl k) ?_
        show own_FinH _ _ _ _ _ _ _ _ (T169.setTop (mkF m 50 #[.val (.int p1), .val (.long q1), .second, .val (.long q2), .second, .val (.long q3), .second, .val (.int p5), .val (.int p6), .val (.int (p1 &&& (3 : Int32))), .val (.ref w0), .val .null, .val .null, .unset, .unset, .unset, .unset, .unset, .unset] []))
        refine own_toH (fun t k => XS.iloadN X169.here hx rfl (hb hby at_50) rfl k) ?_
        show own_FinH _ _ _ _ _ _ _ _ (T169.setTop (mkF m 51 #[.val (.int p1), .val (.long q1), .second, .val (.long q2), .second, .val (.long q3), .second, .val (.int p5), .val (.int p6), .val (.int (p1 &&& (3 : Int32))), .val (.ref w0), .val .null, .val .null, .unset, .unset, .unset, .unset, .unset, .unset] [(.int p1)]))
        refine own_toH (fun t k => XS.bipush X169.here hx rfl (hb hby at_51) k) ?_
        show own_FinH _ _ _ _ _ _ _ _ (T169.setTop (mkF m 53 #[.val (.int p1), .val (.long q1), .second, .val (.long q2), .second, .val (.long q3), .second, .val (.int p5), .val (.int p6), .val (.int (p1 &&& (3 : Int32))), .val (.ref w0), .val .null, .val .null, .unset, .unset, .unset, .unset, .unset, .unset] [(.int (6 : Int32)), (.int p1)]))
        refine own_toH (fun t k => XS.iushr X169.here hx rfl (hb hby at_53) rfl k) ?_
        show own_FinH _ _ _ _ _ _ _ _ (T169.setTop (mkF m 54 #[.val (.int p1), .val (.long q1), .second, .val (.long q2), .second, .val (.long q3), .second, .val (.int p5), .val (.int p6), .val (.int (p1 &&& (3 : Int32))), .val (.ref w0), .val .null, .val .null, .unset, .unset, .unset, .unset, .unset, .unset] [(.int ((p1.toUInt32 >>> ((6 : Int32) &&& 31).toUInt32).toInt32))]))
        refine own_toH (fun t k => XS.iconst X169.here hx rfl (hb hby at_54) k) ?_
        show own_FinH _ _ _ _ _ _ _ _ (T169.setTop (mkF m 55 #[.val (.int p1), .val (.long q1), .second, .val (.long q2), .second, .val (.long q3), .second, .val (.int p5), .val (.int p6), .val (.int (p1 &&& (3 : Int32))), .val (.ref w0), .val .null, .val .null, .unset, .unset, .unset, .unset, .unset, .unset] [(.int (3 : Int32)), (.int ((p1.toUInt32 >>> ((6 : Int32) &&& 31).toUInt32).toInt32))]))
        refine own_toH (fun t k => XS.iand X169.here hx rfl (hb hby at_55) rfl k) ?_
        show own_FinH _ _ _ _ _ _ _ _ (T169.setTop (mkF m 56 #[.val (.int p1), .val (.long q1), .second, .val (.long q2), .second, .val (.long q3), .second, .val (.int p5), .val (.int p6), .val (.int (p1 &&& (3 : Int32))), .val (.ref w0), .val .null, .val .null, .unset, .unset, .unset, .unset, .unset, .unset] [(.int (((p1.toUInt32 >>> ((6 : Int32) &&& 31).toUInt32).toInt32) &&& (3 : Int32)))]))
        refine own_toH (fun t k => XS.lloadN X169.here hx rfl (hb hby at_56) rfl k) ?_
        show own_FinH _ _ _ _ _ _ _ _ (T169.setTop (mkF m 57 #[.val (.int p1), .val (.long q1), .second, .val (.long q2), .second, .val (.long q3), .second, .val (.int p5), .val (.int p6), .val (.int (p1 &&& (3 : Int32))), .val (.ref w0), .val .null, .val .null, .unset, .unset, .unset, .unset, .unset, .unset] [(.long q1), (.int (((p1.toUInt32 >>> ((6 : Int32) &&& 31).toUInt32).toInt32) &&& (3 : Int32)))]))
        obtain ⟨_, _, ⟨T170, L170, k170, n170⟩, -, X170, ⟨Lc170, hQ170, l170, y170, z170⟩, st170⟩ := Jvm.LawKit.callS X169 hx (y := (⟨"com/example/deft_lock/deftlock/service/ServerInfoTellsUptimePinLaw", "pickUptime", "(IJ)J"⟩ : MethodName)) hown (mvT hZ (hw _ (List.mem_of_getElem? (i := 4) rfl))) (mvT hZ (hw _ (List.mem_of_getElem? (i := 5) rfl))) (mvT hZ (hw _ (List.mem_of_getElem? (i := 2) rfl))) (mvT hZ (hw _ (List.mem_of_getElem? (i := 6) rfl))) (by decide) (own_back (W := 0) (own_rm2 l Z a0 hw [] (((p1.toUInt32 >>> ((6 : Int32) &&& 31).toUInt32).toInt32) &&& (3 : Int32)) q1 T165.heap n0 (Nat.le_trans Z0 K165.1)) hZ (hw _ (List.mem_of_getElem? (i := 6) rfl)) (hw _ (List.mem_of_getElem? (i := 2) rfl)) (by decide) (by decide)) (g := (mkF m 57 #[.val (.int p1), .val (.long q1), .second, .val (.long q2), .second, .val (.long q3), .second, .val (.int p5), .val (.int p6), .val (.int (p1 &&& (3 : Int32))), .val (.ref w0), .val .null, .val .null, .unset, .unset, .unset, .unset, .unset, .unset] [(.long q1), (.int (((p1.toUInt32 >>> ((6 : Int32) &&& 31).toUInt32).toInt32) &&& (3 : Int32)))])) rfl (by rw [hml]; rfl) (argsL := [(.int (((p1.toUInt32 >>> ((6 : Int32) &&& 31).toUInt32).toInt32) &&& (3 : Int32))), (.long q1)]) (rest := []) (lenOf own_pd7 rfl) rfl (by show 2 * 0 + _ ≤ _; exact Nat.le_of_eq rfl) (hb hby at_57) (fun _ _ => ⟨rfl, eh169, (by decide : 6 + 0 ≤ _), (by decide : 12 + 0 ≤ _)⟩)
        dsimp only [Pt.U, Pt.locs, Pt.cells, Pt.slots] at X170 l170 y170 z170 st170 hQ170
        subst l170 y170 z170
        obtain ⟨rfl, N170q, eh170⟩ := hQ170
        have N170 := Fr.app N169 N170q
        refine own_toH (fun t k => st170 t k) ?_
        show own_FinH _ _ _ _ _ _ _ _ (T170.setTop (mkF m 60 #[.val (.int p1), .val (.long q1), .second, .val (.long q2), .second, .val (.long q3), .second, .val (.int p5), .val (.int p6), .val (.int (p1 &&& (3 : Int32))), .val (.ref w0), .val .null, .val .null, .unset, .unset, .unset, .unset, .unset, .unset] [(.long (own_pick (((p1.toUInt32 >>> ((6 : Int32) &&& 31).toUInt32).toInt32) &&& (3 : Int32)) q1))]))
        obtain ⟨u, eu⟩ : ∃ z, z = (own_pick (((p1.toUInt32 >>> ((6 : Int32) &&& 31).toUInt32).toInt32) &&& (3 : Int32)) q1) := ⟨_, rfl⟩
        rw [← eu]
        show own_FinH _ _ _ _ _ _ _ _ (T170.setTop (mkF m 60 #[.val (.int p1), .val (.long q1), .second, .val (.long q2), .second, .val (.long q3), .second, .val (.int p5), .val (.int p6), .val (.int (p1 &&& (3 : Int32))), .val (.ref w0), .val .null, .val .null, .unset, .unset, .unset, .unset, .unset, .unset] [(.long u)]))
        refine own_toH (fun t k => XS.lstore X170.here hx rfl (hb hby at_60) rfl (l' := #[.val (.int p1), .val (.long q1), .second, .val (.long q2), .second, .val (.long q3), .second, .val (.int p5), .val (.int p6), .val (.int (p1 &&& (3 : Int32))), .val (.ref w0), .val .null, .val .null, .val (.long u), .second, .unset, .unset, .unset, .unset]) rfl k) ?_
        show own_FinH _ _ _ _ _ _ _ _ (T170.setTop (mkF m 62 #[.val (.int p1), .val (.long q1), .second, .val (.long q2), .second, .val (.long q3), .second, .val (.int p5), .val (.int p6), .val (.int (p1 &&& (3 : Int32))), .val (.ref w0), .val .null, .val .null, .val (.long u), .second, .unset, .unset, .unset, .unset] []))
        obtain ⟨T171, h171, X171, e171, E171, A171, D171, U171, st171⟩ := newO X170 hx hZ hown (hw _ (List.mem_of_getElem? (i := 7) rfl)) (hw _ (List.mem_of_getElem? (i := 8) rfl)) (hw _ (List.mem_of_getElem? (i := 9) rfl)) eh170 (g := (mkF m 62 #[.val (.int p1), .val (.long q1), .second, .val (.long q2), .second, .val (.long q3), .second, .val (.int p5), .val (.int p6), .val (.int (p1 &&& (3 : Int32))), .val (.ref w0), .val .null, .val .null, .val (.long u), .second, .unset, .unset, .unset, .unset] [])) rfl (hb hby at_62) (by decide) (by decide)
        obtain ⟨b171, q171⟩ : ∃ z, z = T165.heap.size := ⟨_, rfl⟩
        rw [← q171] at A171 D171 U171 st171
        have ne_w0_b171 : w0 ≠ b171 := Nat.ne_of_lt (Nat.lt_of_lt_of_le E_w0.lt (Nat.le_of_eq q171.symm))
        have g_b171 : n0 ≤ b171 := Nat.le_trans (Nat.le_trans Z0 K165.1) (Nat.le_of_eq q171.symm)
        have Sn_b171 : Safe Z own_EL _ h171 b171 := Safe.ext E171 hH165 (Safe.new (Nat.le_of_eq q171.symm))
        have hR171 := hR165.trans (CHr.ext E171 hH165)
        have hH171 := hH165.ext E171
        have O171 := O165.ext E171
        have E_w0_e171 := E_w0.ext E171
        have FnrunId_171 : Fld Z h171 b171 "com/example/deft_lock/deftlock/service/ServerInfo" "runId" "Ljava/lang/String;" .null := D171 (Or.inr (hw _ (List.mem_of_getElem? (i := 22) rfl))) (ty := (.object "java/lang/String")) (by decide)
        have FnuptimeSeconds_171 : Fld Z h171 b171 "com/example/deft_lock/deftlock/service/ServerInfo" "uptimeSeconds" "J" (.long (0 : Int64)) := D171 (Or.inr (hw _ (List.mem_of_getElem? (i := 24) rfl))) (ty := .long) (by decide)
        have FnclockMicros_171 : Fld Z h171 b171 "com/example/deft_lock/deftlock/service/ServerInfo" "clockMicros" "J" (.long (0 : Int64)) := D171 (Or.inr (hw _ (List.mem_of_getElem? (i := 26) rfl))) (ty := .long) (by decide)
        have Fnrole_171 : Fld Z h171 b171 "com/example/deft_lock/deftlock/service/ServerInfo" "role" "Ljava/lang/String;" .null := D171 (Or.inr (hw _ (List.mem_of_getElem? (i := 28) rfl))) (ty := (.object "java/lang/String")) (by decide)
        have Fnmaster_171 : Fld Z h171 b171 "com/example/deft_lock/deftlock/service/ServerInfo" "master" "Ljava/lang/String;" .null := D171 (Or.inr (hw _ (List.mem_of_getElem? (i := 30) rfl))) (ty := (.object "java/lang/String")) (by decide)
        have FnconnectedReplicas_171 : Fld Z h171 b171 "com/example/deft_lock/deftlock/service/ServerInfo" "connectedReplicas" "J" (.long (0 : Int64)) := D171 (Or.inr (hw _ (List.mem_of_getElem? (i := 32) rfl))) (ty := .long) (by decide)
        refine own_toH (fun t k => st171 t k) ?_
        show own_FinH _ _ _ _ _ _ _ _ (T171.setTop (mkF m 65 #[.val (.int p1), .val (.long q1), .second, .val (.long q2), .second, .val (.long q3), .second, .val (.int p5), .val (.int p6), .val (.int (p1 &&& (3 : Int32))), .val (.ref w0), .val .null, .val .null, .val (.long u), .second, .unset, .unset, .unset, .unset] [(.ref b171)]))
        refine own_toH (fun t k => XS.dup X171.here hx rfl (hb hby at_65) rfl rfl k) ?_
        show own_FinH _ _ _ _ _ _ _ _ (T171.setTop (mkF m 66 #[.val (.int p1), .val (.long q1), .second, .val (.long q2), .second, .val (.long q3), .second, .val (.int p5), .val (.int p6), .val (.int (p1 &&& (3 : Int32))), .val (.ref w0), .val .null, .val .null, .val (.long u), .second, .unset, .unset, .unset, .unset] [(.ref b171), (.ref b171)]))
        refine own_toH (fun t k => XS.aload X171.here hx rfl (hb hby at_66) rfl rfl k) ?_
        show own_FinH _ _ _ _ _ _ _ _ (T171.setTop (mkF m 68 #[.val (.int p1), .val (.long q1), .second, .val (.long q2), .second, .val (.long q3), .second, .val (.int p5), .val (.int p6), .val (.int (p1 &&& (3 : Int32))), .val (.ref w0), .val .null, .val .null, .val (.long u), .second, .unset, .unset, .unset, .unset] [(.ref w0), (.ref b171), (.ref b171)]))
        refine own_toH (fun t k => XS.lload X171.here hx rfl (hb hby at_68) rfl k) ?_
        show own_FinH _ _ _ _ _ _ _ _ (T171.setTop (mkF m 70 #[.val (.int p1), .val (.long q1), .second, .val (.long q2), .second, .val (.long q3), .second, .val (.int p5), .val (.int p6), .val (.int (p1 &&& (3 : Int32))), .val (.ref w0), .val .null, .val .null, .val (.long u), .second, .unset, .unset, .unset, .unset] [(.long u), (.ref w0), (.ref b171), (.ref b171)]))
        refine own_toH (fun t k => XS.lloadN X171.here hx rfl (hb hby at_70) rfl k) ?_
        show own_FinH _ _ _ _ _ _ _ _ (T171.setTop (mkF m 71 #[.val (.int p1), .val (.long q1), .second, .val (.long q2), .second, .val (.long q3), .second, .val (.int p5), .val (.int p6), .val (.int (p1 &&& (3 : Int32))), .val (.ref w0), .val .null, .val .null, .val (.long u), .second, .unset, .unset, .unset, .unset] [(.long q2), (.long u), (.ref w0), (.ref b171), (.ref b171)]))
        refine own_toH (fun t k => XS.aload X171.here hx rfl (hb hby at_71) rfl rfl k) ?_
        show own_FinH _ _ _ _ _ _ _ _ (T171.setTop (mkF m 73 #[.val (.int p1), .val (.long q1), .second, .val (.long q2), .second, .val (.long q3), .second, .val (.int p5), .val (.int p6), .val (.int (p1 &&& (3 : Int32))), .val (.ref w0), .val .null, .val .null, .val (.long u), .second, .unset, .unset, .unset, .unset] [.null, (.long q2), (.long u), (.ref w0), (.ref b171), (.ref b171)]))
        refine own_toH (fun t k => XS.aload X171.here hx rfl (hb hby at_73) rfl rfl k) ?_
        show own_FinH _ _ _ _ _ _ _ _ (T171.setTop (mkF m 75 #[.val (.int p1), .val (.long q1), .second, .val (.long q2), .second, .val (.long q3), .second, .val (.int p5), .val (.int p6), .val (.int (p1 &&& (3 : Int32))), .val (.ref w0), .val .null, .val .null, .val (.long u), .second, .unset, .unset, .unset, .unset] [.null, .null, (.long q2), (.long u), (.ref w0), (.ref b171), (.ref b171)]))
        refine own_toH (fun t k => XS.lload X171.here hx rfl (hb hby at_75) rfl k) ?_
        show own_FinH _ _ _ _ _ _ _ _ (T171.setTop (mkF m 77 #[.val (.int p1), .val (.long q1), .second, .val (.long q2), .second, .val (.long q3), .second, .val (.int p5), .val (.int p6), .val (.int (p1 &&& (3 : Int32))), .val (.ref w0), .val .null, .val .null, .val (.long u), .second, .unset, .unset, .unset, .unset] [(.long q3), .null, .null, (.long q2), (.long u), (.ref w0), (.ref b171), (.ref b171)]))
        obtain ⟨_, _, ⟨T172, L172, k172, n172⟩, -, X172, ⟨Lc172, hQ172, l172, y172, z172⟩, st172⟩ := X171.specialBack hx (y := (⟨"com/example/deft_lock/deftlock/service/ServerInfo", "<init>", "(Ljava/lang/String;JJLjava/lang/String;Ljava/lang/String;J)V"⟩ : MethodName)) rfl hown (mvT hZ (hw _ (List.mem_of_getElem? (i := 10) rfl))) (mvT hZ (hw _ (List.mem_of_getElem? (i := 11) rfl))) (mvT hZ (hw _ (List.mem_of_getElem? (i := 12) rfl))) (by decide) (own_back (W := 1) (own_si1 l Z a0 hw [] b171 u q2 q3 w0 h171 n0 (Nat.le_trans (Nat.le_trans Z0 K165.1) E171.1) A171 FnrunId_171 FnuptimeSeconds_171 FnclockMicros_171 Fnrole_171 Fnmaster_171 FnconnectedReplicas_171 g_b171) hZ (hw _ (List.mem_of_getElem? (i := 12) rfl)) (hw _ (List.mem_of_getElem? (i := 9) rfl)) (by decide) (by decide)) (g := (mkF m 77 #[.val (.int p1), .val (.long q1), .second, .val (.long q2), .second, .val (.long q3), .second, .val (.int p5), .val (.int p6), .val (.int (p1 &&& (3 : Int32))), .val (.ref w0), .val .null, .val .null, .val (.long u), .second, .unset, .unset, .unset, .unset] [(.long q3), .null, .null, (.long q2), (.long u), (.ref w0), (.ref b171), (.ref b171)])) rfl (by rw [hml]; rfl) (Steps.refl _) (a := b171) (argsL := [(.ref w0), (.long u), (.long q2), .null, .null, (.long q3)]) (rest := [(.ref b171)]) (lenOf own_pd8 rfl) rfl (by show 2 * 0 + _ ≤ _; exact Nat.le_of_eq rfl) (hb hby at_77) (fun _ _ => ⟨rfl, e171, (by decide : 7 + 0 ≤ _), (by decide : 18 + 0 ≤ _)⟩)
        dsimp only [Pt.U, Pt.locs, Pt.cells, Pt.slots] at X172 l172 y172 z172 st172 hQ172
        subst l172 y172 z172
        obtain ⟨rfl, N172q, K172, Fr1, Fu1⟩ := hQ172
        have N172 := Fr.app N170 N172q
        have hR172 := hR171.trans (CHr.keep K172 (sfS Sn_b171 sf0) hH171)
        have hH172 := CHv.keep K172 (sfS Sn_b171 sf0) hH171
        have Sf_b171_172 := Safe.keep K172 (sfS Sn_b171 sf0) hH171 Sn_b171
        have O172 := O171.keep K172 (allS g_b171 all0)
        have E_w0_e172 := E_w0_e171.keep K172
        have A171_e172 := A171.keep K172
        refine own_toH (fun t k => st172.trans k) ?_
        show own_FinH _ _ _ _ _ _ _ _ (T172.setTop (mkF m 80 #[.val (.int p1), .val (.long q1), .second, .val (.long q2), .second, .val (.long q3), .second, .val (.int p5), .val (.int p6), .val (.int (p1 &&& (3 : Int32))), .val (.ref w0), .val .null, .val .null, .val (.long u), .second, .unset, .unset, .unset, .unset] [(.ref b171)]))
        refine own_toH (fun t k => XS.astore X172.here hx rfl (hb hby at_80) rfl rfl (l' := #[.val (.int p1), .val (.long q1), .second, .val (.long q2), .second, .val (.long q3), .second, .val (.int p5), .val (.int p6), .val (.int (p1 &&& (3 : Int32))), .val (.ref w0), .val .null, .val .null, .val (.long u), .second, .val (.ref b171), .unset, .unset, .unset]) rfl k) ?_
        show own_FinH _ _ _ _ _ _ _ _ (T172.setTop (mkF m 82 #[.val (.int p1), .val (.long q1), .second, .val (.long q2), .second, .val (.long q3), .second, .val (.int p5), .val (.int p6), .val (.int (p1 &&& (3 : Int32))), .val (.ref w0), .val .null, .val .null, .val (.long u), .second, .val (.ref b171), .unset, .unset, .unset] []))
        refine own_toH (fun t k => XS.iload X172.here hx rfl (hb hby at_82) rfl k) ?_
        show own_FinH _ _ _ _ _ _ _ _ (T172.setTop (mkF m 84 #[.val (.int p1), .val (.long q1), .second, .val (.long q2), .second, .val (.long q3), .second, .val (.int p5), .val (.int p6), .val (.int (p1 &&& (3 : Int32))), .val (.ref w0), .val .null, .val .null, .val (.long u), .second, .val (.ref b171), .unset, .unset, .unset] [(.int (p1 &&& (3 : Int32)))]))
        refine own_toH (fun t k => XS.ifNo X172.here hx rfl (hb hby at_84) rfl ((if0 _ _).trans (feq hf130).1) k) ?_
        show own_FinH _ _ _ _ _ _ _ _ (T172.setTop (mkF m 87 #[.val (.int p1), .val (.long q1), .second, .val (.long q2), .second, .val (.long q3), .second, .val (.int p5), .val (.int p6), .val (.int (p1 &&& (3 : Int32))), .val (.ref w0), .val .null, .val .null, .val (.long u), .second, .val (.ref b171), .unset, .unset, .unset] []))
        refine own_toH (fun t k => XS.iconst X172.here hx rfl (hb hby at_87) k) ?_
        show own_FinH _ _ _ _ _ _ _ _ (T172.setTop (mkF m 88 #[.val (.int p1), .val (.long q1), .second, .val (.long q2), .second, .val (.long q3), .second, .val (.int p5), .val (.int p6), .val (.int (p1 &&& (3 : Int32))), .val (.ref w0), .val .null, .val .null, .val (.long u), .second, .val (.ref b171), .unset, .unset, .unset] [(.int (1 : Int32))]))
        refine own_toH (fun t k => XS.goto X172.here hx rfl (pc0 := 88) (pc' := 92) rfl (hb hby at_88) (by decide) (by decide) k) ?_
        show own_FinH _ _ _ _ _ _ _ _ (T172.setTop (mkF m 92 #[.val (.int p1), .val (.long q1), .second, .val (.long q2), .second, .val (.long q3), .second, .val (.int p5), .val (.int p6), .val (.int (p1 &&& (3 : Int32))), .val (.ref w0), .val .null, .val .null, .val (.long u), .second, .val (.ref b171), .unset, .unset, .unset] [(.int (1 : Int32))]))
        refine own_toH (fun t k => XS.istore X172.here hx rfl (hb hby at_92) rfl (l' := #[.val (.int p1), .val (.long q1), .second, .val (.long q2), .second, .val (.long q3), .second, .val (.int p5), .val (.int p6), .val (.int (p1 &&& (3 : Int32))), .val (.ref w0), .val .null, .val .null, .val (.long u), .second, .val (.ref b171), .val (.int (1 : Int32)), .unset, .unset]) rfl k) ?_
        show own_FinH _ _ _ _ _ _ _ _ (T172.setTop (mkF m 94 #[.val (.int p1), .val (.long q1), .second, .val (.long q2), .second, .val (.long q3), .second, .val (.int p5), .val (.int p6), .val (.int (p1 &&& (3 : Int32))), .val (.ref w0), .val .null, .val .null, .val (.long u), .second, .val (.ref b171), .val (.int (1 : Int32)), .unset, .unset] []))
        refine own_toH (fun t k => XS.lload X172.here hx rfl (hb hby at_94) rfl k) ?_
        show own_FinH _ _ _ _ _ _ _ _ (T172.setTop (mkF m 96 #[.val (.int p1), .val (.long q1), .second, .val (.long q2), .second, .val (.long q3), .second, .val (.int p5), .val (.int p6), .val (.int (p1 &&& (3 : Int32))), .val (.ref w0), .val .null, .val .null, .val (.long u), .second, .val (.ref b171), .val (.int (1 : Int32)), .unset, .unset] [(.long u)]))
        refine own_toH (fun t k => XS.bipush X172.here hx rfl (hb hby at_96) k) ?_
        show own_FinH _ _ _ _ _ _ _ _ (T172.setTop (mkF m 98 #[.val (.int p1), .val (.long q1), .second, .val (.long q2), .second, .val (.long q3), .second, .val (.int p5), .val (.int p6), .val (.int (p1 &&& (3 : Int32))), .val (.ref w0), .val .null, .val .null, .val (.long u), .second, .val (.ref b171), .val (.int (1 : Int32)), .unset, .unset] [(.int (63 : Int32)), (.long u)]))
        refine own_toH (fun t k => XS.lushr X172.here hx rfl (hb hby at_98) rfl k) ?_
        show own_FinH _ _ _ _ _ _ _ _ (T172.setTop (mkF m 99 #[.val (.int p1), .val (.long q1), .second, .val (.long q2), .second, .val (.long q3), .second, .val (.int p5), .val (.int p6), .val (.int (p1 &&& (3 : Int32))), .val (.ref w0), .val .null, .val .null, .val (.long u), .second, .val (.ref b171), .val (.int (1 : Int32)), .unset, .unset] [(.long ((u.toUInt64 >>> ((63 : Int32) &&& 0x3f).toInt64.toUInt64).toInt64))]))
        refine own_toH (fun t k => XS.lconst X172.here hx rfl (hb hby at_99) k) ?_
        show own_FinH _ _ _ _ _ _ _ _ (T172.setTop (mkF m 100 #[.val (.int p1), .val (.long q1), .second, .val (.long q2), .second, .val (.long q3), .second, .val (.int p5), .val (.int p6), .val (.int (p1 &&& (3 : Int32))), .val (.ref w0), .val .null, .val .null, .val (.long u), .second, .val (.ref b171), .val (.int (1 : Int32)), .unset, .unset] [(.long (0 : Int64)), (.long ((u.toUInt64 >>> ((63 : Int32) &&& 0x3f).toInt64.toUInt64).toInt64))]))
        refine own_toH (fun t k => XS.lcmp X172.here hx rfl (hb hby at_100) rfl k) ?_
        show own_FinH _ _ _ _ _ _ _ _ (T172.setTop (mkF m 101 #[.val (.int p1), .val (.long q1), .second, .val (.long q2), .second, .val (.long q3), .second, .val (.int p5), .val (.int p6), .val (.int (p1 &&& (3 : Int32))), .val (.ref w0), .val .null, .val .null, .val (.long u), .second, .val (.ref b171), .val (.int (1 : Int32)), .unset, .unset] [(.int (lcmpW ((u.toUInt64 >>> ((63 : Int32) &&& 0x3f).toInt64.toUInt64).toInt64) (0 : Int64)))]))
        by_cases hc101_173 : ((u.toUInt64 >>> ((63 : Int32) &&& 0x3f).toInt64.toUInt64).toInt64) = (0 : Int64)
        ·
          show own_FinH _ _ _ _ _ _ _ _ (T172.setTop (mkF m 101 #[.val (.int p1), .val (.long q1), .second, .val (.long q2), .second, .val (.long q3), .second, .val (.int p5), .val (.int p6), .val (.int (p1 &&& (3 : Int32))), .val (.ref w0), .val .null, .val .null, .val (.long u), .second, .val (.ref b171), .val (.int (1 : Int32)), .unset, .unset] [(.int (lcmpW ((u.toUInt64 >>> ((63 : Int32) &&& 0x3f).toInt64.toUInt64).toInt64) (0 : Int64)))]))
          refine own_toH (fun t k => XS.ifNo X172.here hx rfl (hb hby at_101) rfl ((if0 _ _).trans (teq ((lw_eq _ _).mpr hc101_173)).2) k) ?_
          show own_FinH _ _ _ _ _ _ _ _ (T172.setTop (mkF m 104 #[.val (.int p1), .val (.long q1), .second, .val (.long q2), .second, .val (.long q3), .second, .val (.int p5), .val (.int p6), .val (.int (p1 &&& (3 : Int32))), .val (.ref w0), .val .null, .val .null, .val (.long u), .second, .val (.ref b171), .val (.int (1 : Int32)), .unset, .unset] []))
          refine own_toH (fun t k => XS.iconst X172.here hx rfl (hb hby at_104) k) ?_
          show own_FinH _ _ _ _ _ _ _ _ (T172.setTop (mkF m 105 #[.val (.int p1), .val (.long q1), .second, .val (.long q2), .second, .val (.long q3), .second, .val (.int p5), .val (.int p6), .val (.int (p1 &&& (3 : Int32))), .val (.ref w0), .val .null, .val .null, .val (.long u), .second, .val (.ref b171), .val (.int (1 : Int32)), .unset, .unset] [(.int (1 : Int32))]))
          refine own_toH (fun t k => XS.goto X172.here hx rfl (pc0 := 105) (pc' := 109) rfl (hb hby at_105) (by decide) (by decide) k) ?_
          show own_FinH _ _ _ _ _ _ _ _ (T172.setTop (mkF m 109 #[.val (.int p1), .val (.long q1), .second, .val (.long q2), .second, .val (.long q3), .second, .val (.int p5), .val (.int p6), .val (.int (p1 &&& (3 : Int32))), .val (.ref w0), .val .null, .val .null, .val (.long u), .second, .val (.ref b171), .val (.int (1 : Int32)), .unset, .unset] [(.int (1 : Int32))]))
          refine own_toH (fun t k => XS.istore X172.here hx rfl (hb hby at_109) rfl (l' := #[.val (.int p1), .val (.long q1), .second, .val (.long q2), .second, .val (.long q3), .second, .val (.int p5), .val (.int p6), .val (.int (p1 &&& (3 : Int32))), .val (.ref w0), .val .null, .val .null, .val (.long u), .second, .val (.ref b171), .val (.int (1 : Int32)), .val (.int (1 : Int32)), .unset]) rfl k) ?_
          show own_FinH _ _ _ _ _ _ _ _ (T172.setTop (mkF m 111 #[.val (.int p1), .val (.long q1), .second, .val (.long q2), .second, .val (.long q3), .second, .val (.int p5), .val (.int p6), .val (.int (p1 &&& (3 : Int32))), .val (.ref w0), .val .null, .val .null, .val (.long u), .second, .val (.ref b171), .val (.int (1 : Int32)), .val (.int (1 : Int32)), .unset] []))
          refine own_toH (fun t k => XS.iconst X172.here hx rfl (hb hby at_111) k) ?_
          show own_FinH _ _ _ _ _ _ _ _ (T172.setTop (mkF m 112 #[.val (.int p1), .val (.long q1), .second, .val (.long q2), .second, .val (.long q3), .second, .val (.int p5), .val (.int p6), .val (.int (p1 &&& (3 : Int32))), .val (.ref w0), .val .null, .val .null, .val (.long u), .second, .val (.ref b171), .val (.int (1 : Int32)), .val (.int (1 : Int32)), .unset] [(.int (0 : Int32))]))
          refine own_toH (fun t k => XS.istore X172.here hx rfl (hb hby at_112) rfl (l' := #[.val (.int p1), .val (.long q1), .second, .val (.long q2), .second, .val (.long q3), .second, .val (.int p5), .val (.int p6), .val (.int (p1 &&& (3 : Int32))), .val (.ref w0), .val .null, .val .null, .val (.long u), .second, .val (.ref b171), .val (.int (1 : Int32)), .val (.int (1 : Int32)), .val (.int (0 : Int32))]) rfl k) ?_
          show own_FinH _ _ _ _ _ _ _ _ (T172.setTop (mkF m 114 #[.val (.int p1), .val (.long q1), .second, .val (.long q2), .second, .val (.long q3), .second, .val (.int p5), .val (.int p6), .val (.int (p1 &&& (3 : Int32))), .val (.ref w0), .val .null, .val .null, .val (.long u), .second, .val (.ref b171), .val (.int (1 : Int32)), .val (.int (1 : Int32)), .val (.int (0 : Int32))] []))
          refine own_toH (fun t k => XS.iload X172.here hx rfl (hb hby at_114) rfl k) ?_
          show own_FinH _ _ _ _ _ _ _ _ (T172.setTop (mkF m 116 #[.val (.int p1), .val (.long q1), .second, .val (.long q2), .second, .val (.long q3), .second, .val (.int p5), .val (.int p6), .val (.int (p1 &&& (3 : Int32))), .val (.ref w0), .val .null, .val .null, .val (.long u), .second, .val (.ref b171), .val (.int (1 : Int32)), .val (.int (1 : Int32)), .val (.int (0 : Int32))] [(.int (1 : Int32))]))
          refine own_toH (fun t k => XS.ifNo X172.here hx rfl (hb hby at_116) rfl ((if0 _ _).trans (feq (by decide)).1) k) ?_
          show own_FinH _ _ _ _ _ _ _ _ (T172.setTop (mkF m 119 #[.val (.int p1), .val (.long q1), .second, .val (.long q2), .second, .val (.long q3), .second, .val (.int p5), .val (.int p6), .val (.int (p1 &&& (3 : Int32))), .val (.ref w0), .val .null, .val .null, .val (.long u), .second, .val (.ref b171), .val (.int (1 : Int32)), .val (.int (1 : Int32)), .val (.int (0 : Int32))] []))
          refine own_toH (fun t k => XS.iload X172.here hx rfl (hb hby at_119) rfl k) ?_
          show own_FinH _ _ _ _ _ _ _ _ (T172.setTop (mkF m 121 #[.val (.int p1), .val (.long q1), .second, .val (.long q2), .second, .val (.long q3), .second, .val (.int p5), .val (.int p6), .val (.int (p1 &&& (3 : Int32))), .val (.ref w0), .val .null, .val .null, .val (.long u), .second, .val (.ref b171), .val (.int (1 : Int32)), .val (.int (1 : Int32)), .val (.int (0 : Int32))] [(.int (1 : Int32))]))
          refine own_toH (fun t k => XS.ifNo X172.here hx rfl (hb hby at_121) rfl ((if0 _ _).trans (feq (by decide)).1) k) ?_
          show own_FinH _ _ _ _ _ _ _ _ (T172.setTop (mkF m 124 #[.val (.int p1), .val (.long q1), .second, .val (.long q2), .second, .val (.long q3), .second, .val (.int p5), .val (.int p6), .val (.int (p1 &&& (3 : Int32))), .val (.ref w0), .val .null, .val .null, .val (.long u), .second, .val (.ref b171), .val (.int (1 : Int32)), .val (.int (1 : Int32)), .val (.int (0 : Int32))] []))
          refine own_toH (fun t k => XS.iconst X172.here hx rfl (hb hby at_124) k) ?_
          show own_FinH _ _ _ _ _ _ _ _ (T172.setTop (mkF m 125 #[.val (.int p1), .val (.long q1), .second, .val (.long q2), .second, .val (.long q3), .second, .val (.int p5), .val (.int p6), .val (.int (p1 &&& (3 : Int32))), .val (.ref w0), .val .null, .val .null, .val (.long u), .second, .val (.ref b171), .val (.int (1 : Int32)), .val (.int (1 : Int32)), .val (.int (0 : Int32))] [(.int (1 : Int32))]))
          refine own_toH (fun t k => XS.istore X172.here hx rfl (hb hby at_125) rfl (l' := #[.val (.int p1), .val (.long q1), .second, .val (.long q2), .second, .val (.long q3), .second, .val (.int p5), .val (.int p6), .val (.int (p1 &&& (3 : Int32))), .val (.ref w0), .val .null, .val .null, .val (.long u), .second, .val (.ref b171), .val (.int (1 : Int32)), .val (.int (1 : Int32)), .val (.int (1 : Int32))]) rfl k) ?_
          show own_FinH _ _ _ _ _ _ _ _ (T172.setTop (mkF m 127 #[.val (.int p1), .val (.long q1), .second, .val (.long q2), .second, .val (.long q3), .second, .val (.int p5), .val (.int p6), .val (.int (p1 &&& (3 : Int32))), .val (.ref w0), .val .null, .val .null, .val (.long u), .second, .val (.ref b171), .val (.int (1 : Int32)), .val (.int (1 : Int32)), .val (.int (1 : Int32))] []))
          refine own_toH (fun t k => XS.aload X172.here hx rfl (hb hby at_127) rfl rfl k) ?_
          show own_FinH _ _ _ _ _ _ _ _ (T172.setTop (mkF m 129 #[.val (.int p1), .val (.long q1), .second, .val (.long q2), .second, .val (.long q3), .second, .val (.int p5), .val (.int p6), .val (.int (p1 &&& (3 : Int32))), .val (.ref w0), .val .null, .val .null, .val (.long u), .second, .val (.ref b171), .val (.int (1 : Int32)), .val (.int (1 : Int32)), .val (.int (1 : Int32))] [(.ref b171)]))
          have htu : own_tu u = 1 := own_tu1 ((own_neg u).mp hc101_173)
          obtain ⟨cq174, kq174, q174a, q174b, q174c⟩ := isOf hZ rfl A171_e172
          obtain ⟨_, _, ⟨T174, L174, k174, n174⟩, -, X174, ⟨Lc174, hQ174, l174, y174, z174⟩, st174⟩ := X172.virtualBack hx (y := (⟨"com/example/deft_lock/deftlock/service/ServerInfo", "tellsUptime", "()Z"⟩ : MethodName)) (z := (⟨"com/example/deft_lock/deftlock/service/ServerInfo", "tellsUptime", "()Z"⟩ : MethodName)) hown (mvT hZ (hw _ (List.mem_of_getElem? (i := 33) rfl))) (mvT hZ (hw _ (List.mem_of_getElem? (i := 34) rfl))) (notFace_of_selects (args := #[]) (mvT hZ (hw _ (List.mem_of_getElem? (i := 36) rfl)))) (mvT hZ (hw _ (List.mem_of_getElem? (i := 36) rfl))) (mvT hZ (hw _ (List.mem_of_getElem? (i := 35) rfl))) (by decide) (own_back (W := 0) (own_tuR l Z a0 hw [] b171 w0 u T172.heap n0 (Nat.le_trans (Nat.le_trans (Nat.le_trans Z0 K165.1) E171.1) K172.1) Fr1 Fu1) hZ (hw _ (List.mem_of_getElem? (i := 37) rfl)) (hw _ (List.mem_of_getElem? (i := 9) rfl)) (by decide) (by decide)) q174a q174c (g := (mkF m 129 #[.val (.int p1), .val (.long q1), .second, .val (.long q2), .second, .val (.long q3), .second, .val (.int p5), .val (.int p6), .val (.int (p1 &&& (3 : Int32))), .val (.ref w0), .val .null, .val .null, .val (.long u), .second, .val (.ref b171), .val (.int (1 : Int32)), .val (.int (1 : Int32)), .val (.int (1 : Int32))] [(.ref b171)])) rfl (by rw [hml]; rfl) (Steps.refl _) (argsL := []) (rest := []) (lenOf own_pd9 rfl) rfl (by show 2 * 0 + _ ≤ _; exact Nat.le_of_eq rfl) (hb hby at_129) (fun _ _ => ⟨rfl, rfl, (by decide : 7 + 0 ≤ _), (by decide : 18 + 0 ≤ _)⟩)
          dsimp only [Pt.U, Pt.locs, Pt.cells, Pt.slots] at X174 l174 y174 z174 st174 hQ174
          subst l174 y174 z174
          obtain ⟨rfl, N174q, eh174⟩ := hQ174
          have N174 := Fr.app N172 N174q
          refine own_toH (fun t k => st174.trans k) ?_
          show own_FinH _ _ _ _ _ _ _ _ (T174.setTop (mkF m 132 #[.val (.int p1), .val (.long q1), .second, .val (.long q2), .second, .val (.long q3), .second, .val (.int p5), .val (.int p6), .val (.int (p1 &&& (3 : Int32))), .val (.ref w0), .val .null, .val .null, .val (.long u), .second, .val (.ref b171), .val (.int (1 : Int32)), .val (.int (1 : Int32)), .val (.int (1 : Int32))] [(.int (own_tu u))]))
          refine own_toH (fun t k => XS.iload X174.here hx rfl (hb hby at_132) rfl k) ?_
          show own_FinH _ _ _ _ _ _ _ _ (T174.setTop (mkF m 134 #[.val (.int p1), .val (.long q1), .second, .val (.long q2), .second, .val (.long q3), .second, .val (.int p5), .val (.int p6), .val (.int (p1 &&& (3 : Int32))), .val (.ref w0), .val .null, .val .null, .val (.long u), .second, .val (.ref b171), .val (.int (1 : Int32)), .val (.int (1 : Int32)), .val (.int (1 : Int32))] [(.int (1 : Int32)), (.int (own_tu u))]))
          refine own_toH (fun t k => XS.icmpNo X174.here hx rfl (hb hby at_134) rfl (teq htu).2 k) ?_
          show own_FinH _ _ _ _ _ _ _ _ (T174.setTop (mkF m 137 #[.val (.int p1), .val (.long q1), .second, .val (.long q2), .second, .val (.long q3), .second, .val (.int p5), .val (.int p6), .val (.int (p1 &&& (3 : Int32))), .val (.ref w0), .val .null, .val .null, .val (.long u), .second, .val (.ref b171), .val (.int (1 : Int32)), .val (.int (1 : Int32)), .val (.int (1 : Int32))] []))
          refine own_toH (fun t k => XS.iconst X174.here hx rfl (hb hby at_137) k) ?_
          show own_FinH _ _ _ _ _ _ _ _ (T174.setTop (mkF m 138 #[.val (.int p1), .val (.long q1), .second, .val (.long q2), .second, .val (.long q3), .second, .val (.int p5), .val (.int p6), .val (.int (p1 &&& (3 : Int32))), .val (.ref w0), .val .null, .val .null, .val (.long u), .second, .val (.ref b171), .val (.int (1 : Int32)), .val (.int (1 : Int32)), .val (.int (1 : Int32))] [(.int (1 : Int32))]))
          refine own_toH (fun t k => XS.goto X174.here hx rfl (pc0 := 138) (pc' := 142) rfl (hb hby at_138) (by decide) (by decide) k) ?_
          show own_FinH _ _ _ _ _ _ _ _ (T174.setTop (mkF m 142 #[.val (.int p1), .val (.long q1), .second, .val (.long q2), .second, .val (.long q3), .second, .val (.int p5), .val (.int p6), .val (.int (p1 &&& (3 : Int32))), .val (.ref w0), .val .null, .val .null, .val (.long u), .second, .val (.ref b171), .val (.int (1 : Int32)), .val (.int (1 : Int32)), .val (.int (1 : Int32))] [(.int (1 : Int32))]))
          refine own_retNH X174 hS165 (by rw [eh174]; exact (Nat.le_trans (Nat.le_trans (Nat.le_refl _) E171.1) K172.1)) hZ hEL (by rw [eh174]; exact hH172) (by rw [eh174]; exact hR172) hx hlk (t := .boolean) hret (by simp) (hb hby at_142) (by decide) (by decide) ?_
          try rw [eh174]
          exact ⟨rfl, N174⟩
        ·
          show own_FinH _ _ _ _ _ _ _ _ (T172.setTop (mkF m 101 #[.val (.int p1), .val (.long q1), .second, .val (.long q2), .second, .val (.long q3), .second, .val (.int p5), .val (.int p6), .val (.int (p1 &&& (3 : Int32))), .val (.ref w0), .val .null, .val .null, .val (.long u), .second, .val (.ref b171), .val (.int (1 : Int32)), .unset, .unset] [(.int (lcmpW ((u.toUInt64 >>> ((63 : Int32) &&& 0x3f).toInt64.toUInt64).toInt64) (0 : Int64)))]))
          refine own_toH (fun t k => XS.ifYes X172.here hx rfl (pc0 := 101) (pc' := 108) rfl (hb hby at_101) rfl ((if0 _ _).trans (feq (fun z => hc101_173 ((lw_eq _ _).mp z))).2) (by decide) (by decide) k) ?_
          show own_FinH _ _ _ _ _ _ _ _ (T172.setTop (mkF m 108 #[.val (.int p1), .val (.long q1), .second, .val (.long q2), .second, .val (.long q3), .second, .val (.int p5), .val (.int p6), .val (.int (p1 &&& (3 : Int32))), .val (.ref w0), .val .null, .val .null, .val (.long u), .second, .val (.ref b171), .val (.int (1 : Int32)), .unset, .unset] []))
          refine own_toH (fun t k => XS.iconst X172.here hx rfl (hb hby at_108) k) ?_
          show own_FinH _ _ _ _ _ _ _ _ (T172.setTop (mkF m 109 #[.val (.int p1), .val (.long q1), .second, .val (.long q2), .second, .val (.long q3), .second, .val (.int p5), .val (.int p6), .val (.int (p1 &&& (3 : Int32))), .val (.ref w0), .val .null, .val .null, .val (.long u), .second, .val (.ref b171), .val (.int (1 : Int32)), .unset, .unset] [(.int (0 : Int32))]))
          refine own_toH (fun t k => XS.istore X172.here hx rfl (hb hby at_109) rfl (l' := #[.val (.int p1), .val (.long q1), .second, .val (.long q2), .second, .val (.long q3), .second, .val (.int p5), .val (.int p6), .val (.int (p1 &&& (3 : Int32))), .val (.ref w0), .val .null, .val .null, .val (.long u), .second, .val (.ref b171), .val (.int (1 : Int32)), .val (.int (0 : Int32)), .unset]) rfl k) ?_
          show own_FinH _ _ _ _ _ _ _ _ (T172.setTop (mkF m 111 #[.val (.int p1), .val (.long q1), .second, .val (.long q2), .second, .val (.long q3), .second, .val (.int p5), .val (.int p6), .val (.int (p1 &&& (3 : Int32))), .val (.ref w0), .val .null, .val .null, .val (.long u), .second, .val (.ref b171), .val (.int (1 : Int32)), .val (.int (0 : Int32)), .unset] []))
          refine own_toH (fun t k => XS.iconst X172.here hx rfl (hb hby at_111) k) ?_
          show own_FinH _ _ _ _ _ _ _ _ (T172.setTop (mkF m 112 #[.val (.int p1), .val (.long q1), .second, .val (.long q2), .second, .val (.long q3), .second, .val (.int p5), .val (.int p6), .val (.int (p1 &&& (3 : Int32))), .val (.ref w0), .val .null, .val .null, .val (.long u), .second, .val (.ref b171), .val (.int (1 : Int32)), .val (.int (0 : Int32)), .unset] [(.int (0 : Int32))]))
          refine own_toH (fun t k => XS.istore X172.here hx rfl (hb hby at_112) rfl (l' := #[.val (.int p1), .val (.long q1), .second, .val (.long q2), .second, .val (.long q3), .second, .val (.int p5), .val (.int p6), .val (.int (p1 &&& (3 : Int32))), .val (.ref w0), .val .null, .val .null, .val (.long u), .second, .val (.ref b171), .val (.int (1 : Int32)), .val (.int (0 : Int32)), .val (.int (0 : Int32))]) rfl k) ?_
          show own_FinH _ _ _ _ _ _ _ _ (T172.setTop (mkF m 114 #[.val (.int p1), .val (.long q1), .second, .val (.long q2), .second, .val (.long q3), .second, .val (.int p5), .val (.int p6), .val (.int (p1 &&& (3 : Int32))), .val (.ref w0), .val .null, .val .null, .val (.long u), .second, .val (.ref b171), .val (.int (1 : Int32)), .val (.int (0 : Int32)), .val (.int (0 : Int32))] []))
          refine own_toH (fun t k => XS.iload X172.here hx rfl (hb hby at_114) rfl k) ?_
          show own_FinH _ _ _ _ _ _ _ _ (T172.setTop (mkF m 116 #[.val (.int p1), .val (.long q1), .second, .val (.long q2), .second, .val (.long q3), .second, .val (.int p5), .val (.int p6), .val (.int (p1 &&& (3 : Int32))), .val (.ref w0), .val .null, .val .null, .val (.long u), .second, .val (.ref b171), .val (.int (1 : Int32)), .val (.int (0 : Int32)), .val (.int (0 : Int32))] [(.int (1 : Int32))]))
          refine own_toH (fun t k => XS.ifNo X172.here hx rfl (hb hby at_116) rfl ((if0 _ _).trans (feq (by decide)).1) k) ?_
          show own_FinH _ _ _ _ _ _ _ _ (T172.setTop (mkF m 119 #[.val (.int p1), .val (.long q1), .second, .val (.long q2), .second, .val (.long q3), .second, .val (.int p5), .val (.int p6), .val (.int (p1 &&& (3 : Int32))), .val (.ref w0), .val .null, .val .null, .val (.long u), .second, .val (.ref b171), .val (.int (1 : Int32)), .val (.int (0 : Int32)), .val (.int (0 : Int32))] []))
          refine own_toH (fun t k => XS.iload X172.here hx rfl (hb hby at_119) rfl k) ?_
          show own_FinH _ _ _ _ _ _ _ _ (T172.setTop (mkF m 121 #[.val (.int p1), .val (.long q1), .second, .val (.long q2), .second, .val (.long q3), .second, .val (.int p5), .val (.int p6), .val (.int (p1 &&& (3 : Int32))), .val (.ref w0), .val .null, .val .null, .val (.long u), .second, .val (.ref b171), .val (.int (1 : Int32)), .val (.int (0 : Int32)), .val (.int (0 : Int32))] [(.int (0 : Int32))]))
          refine own_toH (fun t k => XS.ifYes X172.here hx rfl (pc0 := 121) (pc' := 127) rfl (hb hby at_121) rfl ((if0 _ _).trans (teq rfl).1) (by decide) (by decide) k) ?_
          show own_FinH _ _ _ _ _ _ _ _ (T172.setTop (mkF m 127 #[.val (.int p1), .val (.long q1), .second, .val (.long q2), .second, .val (.long q3), .second, .val (.int p5), .val (.int p6), .val (.int (p1 &&& (3 : Int32))), .val (.ref w0), .val .null, .val .null, .val (.long u), .second, .val (.ref b171), .val (.int (1 : Int32)), .val (.int (0 : Int32)), .val (.int (0 : Int32))] []))
          refine own_toH (fun t k => XS.aload X172.here hx rfl (hb hby at_127) rfl rfl k) ?_
          show own_FinH _ _ _ _ _ _ _ _ (T172.setTop (mkF m 129 #[.val (.int p1), .val (.long q1), .second, .val (.long q2), .second, .val (.long q3), .second, .val (.int p5), .val (.int p6), .val (.int (p1 &&& (3 : Int32))), .val (.ref w0), .val .null, .val .null, .val (.long u), .second, .val (.ref b171), .val (.int (1 : Int32)), .val (.int (0 : Int32)), .val (.int (0 : Int32))] [(.ref b171)]))
          have htu : own_tu u = 0 := own_tu0 (fun q => hc101_173 ((own_neg u).mpr q))
          obtain ⟨cq175, kq175, q175a, q175b, q175c⟩ := isOf hZ rfl A171_e172
          obtain ⟨_, _, ⟨T175, L175, k175, n175⟩, -, X175, ⟨Lc175, hQ175, l175, y175, z175⟩, st175⟩ := X172.virtualBack hx (y := (⟨"com/example/deft_lock/deftlock/service/ServerInfo", "tellsUptime", "()Z"⟩ : MethodName)) (z := (⟨"com/example/deft_lock/deftlock/service/ServerInfo", "tellsUptime", "()Z"⟩ : MethodName)) hown (mvT hZ (hw _ (List.mem_of_getElem? (i := 33) rfl))) (mvT hZ (hw _ (List.mem_of_getElem? (i := 34) rfl))) (notFace_of_selects (args := #[]) (mvT hZ (hw _ (List.mem_of_getElem? (i := 36) rfl)))) (mvT hZ (hw _ (List.mem_of_getElem? (i := 36) rfl))) (mvT hZ (hw _ (List.mem_of_getElem? (i := 35) rfl))) (by decide) (own_back (W := 0) (own_tuR l Z a0 hw [] b171 w0 u T172.heap n0 (Nat.le_trans (Nat.le_trans (Nat.le_trans Z0 K165.1) E171.1) K172.1) Fr1 Fu1) hZ (hw _ (List.mem_of_getElem? (i := 37) rfl)) (hw _ (List.mem_of_getElem? (i := 9) rfl)) (by decide) (by decide)) q175a q175c (g := (mkF m 129 #[.val (.int p1), .val (.long q1), .second, .val (.long q2), .second, .val (.long q3), .second, .val (.int p5), .val (.int p6), .val (.int (p1 &&& (3 : Int32))), .val (.ref w0), .val .null, .val .null, .val (.long u), .second, .val (.ref b171), .val (.int (1 : Int32)), .val (.int (0 : Int32)), .val (.int (0 : Int32))] [(.ref b171)])) rfl (by rw [hml]; rfl) (Steps.refl _) (argsL := []) (rest := []) (lenOf own_pd9 rfl) rfl (by show 2 * 0 + _ ≤ _; exact Nat.le_of_eq rfl) (hb hby at_129) (fun _ _ => ⟨rfl, rfl, (by decide : 7 + 0 ≤ _), (by decide : 18 + 0 ≤ _)⟩)
          dsimp only [Pt.U, Pt.locs, Pt.cells, Pt.slots] at X175 l175 y175 z175 st175 hQ175
          subst l175 y175 z175
          obtain ⟨rfl, N175q, eh175⟩ := hQ175
          have N175 := Fr.app N172 N175q
          refine own_toH (fun t k => st175.trans k) ?_
          show own_FinH _ _ _ _ _ _ _ _ (T175.setTop (mkF m 132 #[.val (.int p1), .val (.long q1), .second, .val (.long q2), .second, .val (.long q3), .second, .val (.int p5), .val (.int p6), .val (.int (p1 &&& (3 : Int32))), .val (.ref w0), .val .null, .val .null, .val (.long u), .second, .val (.ref b171), .val (.int (1 : Int32)), .val (.int (0 : Int32)), .val (.int (0 : Int32))] [(.int (own_tu u))]))
          refine own_toH (fun t k => XS.iload X175.here hx rfl (hb hby at_132) rfl k) ?_
          show own_FinH _ _ _ _ _ _ _ _ (T175.setTop (mkF m 134 #[.val (.int p1), .val (.long q1), .second, .val (.long q2), .second, .val (.long q3), .second, .val (.int p5), .val (.int p6), .val (.int (p1 &&& (3 : Int32))), .val (.ref w0), .val .null, .val .null, .val (.long u), .second, .val (.ref b171), .val (.int (1 : Int32)), .val (.int (0 : Int32)), .val (.int (0 : Int32))] [(.int (0 : Int32)), (.int (own_tu u))]))
          refine own_toH (fun t k => XS.icmpNo X175.here hx rfl (hb hby at_134) rfl (teq htu).2 k) ?_
          show own_FinH _ _ _ _ _ _ _ _ (T175.setTop (mkF m 137 #[.val (.int p1), .val (.long q1), .second, .val (.long q2), .second, .val (.long q3), .second, .val (.int p5), .val (.int p6), .val (.int (p1 &&& (3 : Int32))), .val (.ref w0), .val .null, .val .null, .val (.long u), .second, .val (.ref b171), .val (.int (1 : Int32)), .val (.int (0 : Int32)), .val (.int (0 : Int32))] []))
          refine own_toH (fun t k => XS.iconst X175.here hx rfl (hb hby at_137) k) ?_
          show own_FinH _ _ _ _ _ _ _ _ (T175.setTop (mkF m 138 #[.val (.int p1), .val (.long q1), .second, .val (.long q2), .second, .val (.long q3), .second, .val (.int p5), .val (.int p6), .val (.int (p1 &&& (3 : Int32))), .val (.ref w0), .val .null, .val .null, .val (.long u), .second, .val (.ref b171), .val (.int (1 : Int32)), .val (.int (0 : Int32)), .val (.int (0 : Int32))] [(.int (1 : Int32))]))
          refine own_toH (fun t k => XS.goto X175.here hx rfl (pc0 := 138) (pc' := 142) rfl (hb hby at_138) (by decide) (by decide) k) ?_
          show own_FinH _ _ _ _ _ _ _ _ (T175.setTop (mkF m 142 #[.val (.int p1), .val (.long q1), .second, .val (.long q2), .second, .val (.long q3), .second, .val (.int p5), .val (.int p6), .val (.int (p1 &&& (3 : Int32))), .val (.ref w0), .val .null, .val .null, .val (.long u), .second, .val (.ref b171), .val (.int (1 : Int32)), .val (.int (0 : Int32)), .val (.int (0 : Int32))] [(.int (1 : Int32))]))
          refine own_retNH X175 hS165 (by rw [eh175]; exact (Nat.le_trans (Nat.le_trans (Nat.le_refl _) E171.1) K172.1)) hZ hEL (by rw [eh175]; exact hH172) (by rw [eh175]; exact hR172) hx hlk (t := .boolean) hret (by simp) (hb hby at_142) (by decide) (by decide) ?_
          try rw [eh175]
          exact ⟨rfl, N175⟩
      ·
        show own_FinH _ _ _ _ _ _ _ _ (T167.setTop (mkF m 45 #[.val (.int p1), .val (.long q1), .second, .val (.long q2), .second, .val (.long q3), .second, .val (.int p5), .val (.int p6), .val (.int (p1 &&& (3 : Int32))), .val (.ref w0), .val .null, .unset, .unset, .unset, .unset, .unset, .unset, .unset] [(.int ((p6.toUInt32 >>> ((8 : Int32) &&& 31).toUInt32).toInt32)), (.int ((p5.toUInt32 >>> ((8 : Int32) &&& 31).toUInt32).toInt32)), (.int (((p1.toUInt32 >>> ((4 : Int32) &&& 31).toUInt32).toInt32) &&& (3 : Int32)))]))
        obtain ⟨_, _, ⟨T176, L176, k176, n176⟩, -, X176, S176a, S176b, ⟨Lc176, hQ176, l176, y176, z176, hC176⟩, st176⟩ := callSS X167 hx (y := (⟨"com/example/deft_lock/deftlock/service/ServerInfoTellsUptimePinLaw", "drawn", "(III)Ljava/lang/String;"⟩ : MethodName)) hown (mvT hZ (hw _ (List.mem_of_getElem? (i := 0) rfl))) (mvT hZ (hw _ (List.mem_of_getElem? (i := 1) rfl))) (mvT hZ (hw _ (List.mem_of_getElem? (i := 2) rfl))) (mvT hZ (hw _ (List.mem_of_getElem? (i := 3) rfl))) (by decide) (own_backH (W := 0) (own_drR l Z a0 hw [] cs (((p1.toUInt32 >>> ((4 : Int32) &&& 31).toUInt32).toInt32) &&& (3 : Int32)) ((p5.toUInt32 >>> ((8 : Int32) &&& 31).toUInt32).toInt32) ((p6.toUInt32 >>> ((8 : Int32) &&& 31).toUInt32).toInt32) T165.heap n0 (Nat.le_trans Z0 K165.1) O165 SS hcs hf168) hZ (hw _ (List.mem_of_getElem? (i := 3) rfl)) (hw _ (List.mem_of_getElem? (i := 2) rfl)) (by decide) (by decide) hEL hH165 all0) (g := (mkF m 45 #[.val (.int p1), .val (.long q1), .second, .val (.long q2), .second, .val (.long q3), .second, .val (.int p5), .val (.int p6), .val (.int (p1 &&& (3 : Int32))), .val (.ref w0), .val .null, .unset, .unset, .unset, .unset, .unset, .unset, .unset] [(.int ((p6.toUInt32 >>> ((8 : Int32) &&& 31).toUInt32).toInt32)), (.int ((p5.toUInt32 >>> ((8 : Int32) &&& 31).toUInt32).toInt32)), (.int (((p1.toUInt32 >>> ((4 : Int32) &&& 31).toUInt32).toInt32) &&& (3 : Int32)))])) rfl (by rw [hml]; rfl) (argsL := [(.int (((p1.toUInt32 >>> ((4 : Int32) &&& 31).toUInt32).toInt32) &&& (3 : Int32))), (.int ((p5.toUInt32 >>> ((8 : Int32) &&& 31).toUInt32).toInt32)), (.int ((p6.toUInt32 >>> ((8 : Int32) &&& 31).toUInt32).toInt32))]) (rest := []) (lenOf own_pd6 rfl) rfl (by show 2 * 0 + _ ≤ _; exact Nat.le_of_eq rfl) (hb hby at_45) (fun _ _ => ⟨rfl, eh167, (by decide : 6 + 6 ≤ _), (by decide : 12 + 12 ≤ _)⟩)
        dsimp only [Pt.U, Pt.locs, Pt.cells, Pt.slots] at X176 l176 y176 z176 st176 hQ176 S176a S176b hC176
        subst l176 y176 z176
        obtain ⟨X176r, hS176, hZ, hown⟩ := rebS hS165 (n1 := T167.heap.size) (by rw [eh167]; exact (Nat.le_refl _)) X176 S176a S176b hZ hown
        obtain ⟨w2, rfl, N176q, K176, g_w2, szx_w2, E_w2⟩ := hQ176
        have N176 := Fr.app N167 N176q
        have ne_w0_w2 : w0 ≠ w2 := Nat.ne_of_lt (Nat.lt_of_lt_of_le E_w0.lt szx_w2)
        have hR176 := hR165.trans hC176
        have hH176 := hC176.1
        have O176 := O165.keep K176 all0
        have E_w0_e176 := E_w0.keep K176
        refine own_toH (fun t k => st176.trans k) ?_
        show own_FinH _ _ _ _ _ _ _ _ (T176.setTop (mkF m 48 #[.val (.int p1), .val (.long q1), .second, .val (.long q2), .second, .val (.long q3), .second, .val (.int p5), .val (.int p6), .val (.int (p1 &&& (3 : Int32))), .val (.ref w0), .val .null, .unset, .unset, .unset, .unset, .unset, .unset, .unset] [(.ref w2)]))
        refine own_toH (fun t k => XS.astore X176r.here hx rfl (hb hby at_48) rfl rfl (l' := #[.val (.int p1), .val (.long q1), .second, .val (.long q2), .second, .val (.long q3), .second, .val (.int p5), .val (.int p6), .val (.int (p1 &&& (3 : Int32))), .val (.ref w0), .val .null, .val (.ref w2), .unset, .unset, .unset, .unset, .unset, .unset]) rfl k) ?_
        show own_FinH _ _ _ _ _ _ _ _ (T176.setTop (mkF m 50 #[.val (.int p1), .val (.long q1), .second, .val (.long q2), .second, .val (.long q3), .second, .val (.int p5), .val (.int p6), .val (.int (p1 &&& (3 : Int32))), .val (.ref w0), .val .null, .val (.ref w2), .unset, .unset, .unset, .unset, .unset, .unset] []))
        refine own_toH (fun t k => XS.iloadN X176r.here hx rfl (hb hby at_50) rfl k) ?_
        show own_FinH _ _ _ _ _ _ _ _ (T176.setTop (mkF m 51 #[.val (.int p1), .val (.long q1), .second, .val (.long q2), .second, .val (.long q3), .second, .val (.int p5), .val (.int p6), .val (.int (p1 &&& (3 : Int32))), .val (.ref w0), .val .null, .val (.ref w2), .unset, .unset, .unset, .unset, .unset, .unset] [(.int p1)]))
        refine own_toH (fun t k => XS.bipush X176r.here hx rfl (hb hby at_51) k) ?_
        show own_FinH _ _ _ _ _ _ _ _ (T176.setTop (mkF m 53 #[.val (.int p1), .val (.long q1), .second, .val (.long q2), .second, .val (.long q3), .second, .val (.int p5), .val (.int p6), .val (.int (p1 &&& (3 : Int32))), .val (.ref w0), .val .null, .val (.ref w2), .unset, .unset, .unset, .unset, .unset, .unset] [(.int (6 : Int32)), (.int p1)]))
        refine own_toH (fun t k => XS.iushr X176r.here hx rfl (hb hby at_53) rfl k) ?_
        show own_FinH _ _ _ _ _ _ _ _ (T176.setTop (mkF m 54 #[.val (.int p1), .val (.long q1), .second, .val (.long q2), .second, .val (.long q3), .second, .val (.int p5), .val (.int p6), .val (.int (p1 &&& (3 : Int32))), .val (.ref w0), .val .null, .val (.ref w2), .unset, .unset, .unset, .unset, .unset, .unset] [(.int ((p1.toUInt32 >>> ((6 : Int32) &&& 31).toUInt32).toInt32))]))
        refine own_toH (fun t k => XS.iconst X176r.here hx rfl (hb hby at_54) k) ?_
        show own_FinH _ _ _ _ _ _ _ _ (T176.setTop (mkF m 55 #[.val (.int p1), .val (.long q1), .second, .val (.long q2), .second, .val (.long q3), .second, .val (.int p5), .val (.int p6), .val (.int (p1 &&& (3 : Int32))), .val (.ref w0), .val .null, .val (.ref w2), .unset, .unset, .unset, .unset, .unset, .unset] [(.int (3 : Int32)), (.int ((p1.toUInt32 >>> ((6 : Int32) &&& 31).toUInt32).toInt32))]))
        refine own_toH (fun t k => XS.iand X176r.here hx rfl (hb hby at_55) rfl k) ?_
        show own_FinH _ _ _ _ _ _ _ _ (T176.setTop (mkF m 56 #[.val (.int p1), .val (.long q1), .second, .val (.long q2), .second, .val (.long q3), .second, .val (.int p5), .val (.int p6), .val (.int (p1 &&& (3 : Int32))), .val (.ref w0), .val .null, .val (.ref w2), .unset, .unset, .unset, .unset, .unset, .unset] [(.int (((p1.toUInt32 >>> ((6 : Int32) &&& 31).toUInt32).toInt32) &&& (3 : Int32)))]))
        refine own_toH (fun t k => XS.lloadN X176r.here hx rfl (hb hby at_56) rfl k) ?_
        show own_FinH _ _ _ _ _ _ _ _ (T176.setTop (mkF m 57 #[.val (.int p1), .val (.long q1), .second, .val (.long q2), .second, .val (.long q3), .second, .val (.int p5), .val (.int p6), .val (.int (p1 &&& (3 : Int32))), .val (.ref w0), .val .null, .val (.ref w2), .unset, .unset, .unset, .unset, .unset, .unset] [(.long q1), (.int (((p1.toUInt32 >>> ((6 : Int32) &&& 31).toUInt32).toInt32) &&& (3 : Int32)))]))
        obtain ⟨_, _, ⟨T177, L177, k177, n177⟩, -, X177, ⟨Lc177, hQ177, l177, y177, z177⟩, st177⟩ := Jvm.LawKit.callS X176r hx (y := (⟨"com/example/deft_lock/deftlock/service/ServerInfoTellsUptimePinLaw", "pickUptime", "(IJ)J"⟩ : MethodName)) hown (mvT hZ (hw _ (List.mem_of_getElem? (i := 4) rfl))) (mvT hZ (hw _ (List.mem_of_getElem? (i := 5) rfl))) (mvT hZ (hw _ (List.mem_of_getElem? (i := 2) rfl))) (mvT hZ (hw _ (List.mem_of_getElem? (i := 6) rfl))) (by decide) (own_back (W := 0) (own_rm2 l Z a0 hw [] (((p1.toUInt32 >>> ((6 : Int32) &&& 31).toUInt32).toInt32) &&& (3 : Int32)) q1 T176.heap n0 (Nat.le_trans (Nat.le_trans Z0 K165.1) K176.1)) hZ (hw _ (List.mem_of_getElem? (i := 6) rfl)) (hw _ (List.mem_of_getElem? (i := 2) rfl)) (by decide) (by decide)) (g := (mkF m 57 #[.val (.int p1), .val (.long q1), .second, .val (.long q2), .second, .val (.long q3), .second, .val (.int p5), .val (.int p6), .val (.int (p1 &&& (3 : Int32))), .val (.ref w0), .val .null, .val (.ref w2), .unset, .unset, .unset, .unset, .unset, .unset] [(.long q1), (.int (((p1.toUInt32 >>> ((6 : Int32) &&& 31).toUInt32).toInt32) &&& (3 : Int32)))])) rfl (by rw [hml]; rfl) (argsL := [(.int (((p1.toUInt32 >>> ((6 : Int32) &&& 31).toUInt32).toInt32) &&& (3 : Int32))), (.long q1)]) (rest := []) (lenOf own_pd7 rfl) rfl (by show 2 * 0 + _ ≤ _; exact Nat.le_of_eq rfl) (hb hby at_57) (fun _ _ => ⟨rfl, rfl, (by decide : 12 + 0 ≤ _), (by decide : 24 + 0 ≤ _)⟩)
        dsimp only [Pt.U, Pt.locs, Pt.cells, Pt.slots] at X177 l177 y177 z177 st177 hQ177
        subst l177 y177 z177
        obtain ⟨rfl, N177q, eh177⟩ := hQ177
        have N177 := Fr.app N176 N177q
        refine own_toH (fun t k => st177 t k) ?_
        show own_FinH _ _ _ _ _ _ _ _ (T177.setTop (mkF m 60 #[.val (.int p1), .val (.long q1), .second, .val (.long q2), .second, .val (.long q3), .second, .val (.int p5), .val (.int p6), .val (.int (p1 &&& (3 : Int32))), .val (.ref w0), .val .null, .val (.ref w2), .unset, .unset, .unset, .unset, .unset, .unset] [(.long (own_pick (((p1.toUInt32 >>> ((6 : Int32) &&& 31).toUInt32).toInt32) &&& (3 : Int32)) q1))]))
        obtain ⟨u, eu⟩ : ∃ z, z = (own_pick (((p1.toUInt32 >>> ((6 : Int32) &&& 31).toUInt32).toInt32) &&& (3 : Int32)) q1) := ⟨_, rfl⟩
        rw [← eu]
        show own_FinH _ _ _ _ _ _ _ _ (T177.setTop (mkF m 60 #[.val (.int p1), .val (.long q1), .second, .val (.long q2), .second, .val (.long q3), .second, .val (.int p5), .val (.int p6), .val (.int (p1 &&& (3 : Int32))), .val (.ref w0), .val .null, .val (.ref w2), .unset, .unset, .unset, .unset, .unset, .unset] [(.long u)]))
        refine own_toH (fun t k => XS.lstore X177.here hx rfl (hb hby at_60) rfl (l' := #[.val (.int p1), .val (.long q1), .second, .val (.long q2), .second, .val (.long q3), .second, .val (.int p5), .val (.int p6), .val (.int (p1 &&& (3 : Int32))), .val (.ref w0), .val .null, .val (.ref w2), .val (.long u), .second, .unset, .unset, .unset, .unset]) rfl k) ?_
        show own_FinH _ _ _ _ _ _ _ _ (T177.setTop (mkF m 62 #[.val (.int p1), .val (.long q1), .second, .val (.long q2), .second, .val (.long q3), .second, .val (.int p5), .val (.int p6), .val (.int (p1 &&& (3 : Int32))), .val (.ref w0), .val .null, .val (.ref w2), .val (.long u), .second, .unset, .unset, .unset, .unset] []))
        obtain ⟨T178, h178, X178, e178, E178, A178, D178, U178, st178⟩ := newO X177 hx hZ hown (hw _ (List.mem_of_getElem? (i := 7) rfl)) (hw _ (List.mem_of_getElem? (i := 8) rfl)) (hw _ (List.mem_of_getElem? (i := 9) rfl)) eh177 (g := (mkF m 62 #[.val (.int p1), .val (.long q1), .second, .val (.long q2), .second, .val (.long q3), .second, .val (.int p5), .val (.int p6), .val (.int (p1 &&& (3 : Int32))), .val (.ref w0), .val .null, .val (.ref w2), .val (.long u), .second, .unset, .unset, .unset, .unset] [])) rfl (hb hby at_62) (by decide) (by decide)
        obtain ⟨b178, q178⟩ : ∃ z, z = T176.heap.size := ⟨_, rfl⟩
        rw [← q178] at A178 D178 U178 st178
        have ne_w0_b178 : w0 ≠ b178 := Nat.ne_of_lt (Nat.lt_of_lt_of_le E_w0_e176.lt (Nat.le_of_eq q178.symm))
        have ne_w2_b178 : w2 ≠ b178 := Nat.ne_of_lt (Nat.lt_of_lt_of_le E_w2.lt (Nat.le_of_eq q178.symm))
        have g_b178 : n0 ≤ b178 := Nat.le_trans (Nat.le_trans (Nat.le_trans Z0 K165.1) K176.1) (Nat.le_of_eq q178.symm)
        have Sn_b178 : Safe Z own_EL _ h178 b178 := Safe.ext E178 hH176 (Safe.new (Nat.le_of_eq q178.symm))
        have hR178 := hR176.trans (CHr.ext E178 hH176)
        have hH178 := hH176.ext E178
        have O178 := O176.ext E178
        have E_w0_e178 := E_w0_e176.ext E178
        have E_w2_e178 := E_w2.ext E178
        have FnrunId_178 : Fld Z h178 b178 "com/example/deft_lock/deftlock/service/ServerInfo" "runId" "Ljava/lang/String;" .null := D178 (Or.inr (hw _ (List.mem_of_getElem? (i := 22) rfl))) (ty := (.object "java/lang/String")) (by decide)
        have FnuptimeSeconds_178 : Fld Z h178 b178 "com/example/deft_lock/deftlock/service/ServerInfo" "uptimeSeconds" "J" (.long (0 : Int64)) := D178 (Or.inr (hw _ (List.mem_of_getElem? (i := 24) rfl))) (ty := .long) (by decide)
        have FnclockMicros_178 : Fld Z h178 b178 "com/example/deft_lock/deftlock/service/ServerInfo" "clockMicros" "J" (.long (0 : Int64)) := D178 (Or.inr (hw _ (List.mem_of_getElem? (i := 26) rfl))) (ty := .long) (by decide)
        have Fnrole_178 : Fld Z h178 b178 "com/example/deft_lock/deftlock/service/ServerInfo" "role" "Ljava/lang/String;" .null := D178 (Or.inr (hw _ (List.mem_of_getElem? (i := 28) rfl))) (ty := (.object "java/lang/String")) (by decide)
        have Fnmaster_178 : Fld Z h178 b178 "com/example/deft_lock/deftlock/service/ServerInfo" "master" "Ljava/lang/String;" .null := D178 (Or.inr (hw _ (List.mem_of_getElem? (i := 30) rfl))) (ty := (.object "java/lang/String")) (by decide)
        have FnconnectedReplicas_178 : Fld Z h178 b178 "com/example/deft_lock/deftlock/service/ServerInfo" "connectedReplicas" "J" (.long (0 : Int64)) := D178 (Or.inr (hw _ (List.mem_of_getElem? (i := 32) rfl))) (ty := .long) (by decide)
        refine own_toH (fun t k => st178 t k) ?_
        show own_FinH _ _ _ _ _ _ _ _ (T178.setTop (mkF m 65 #[.val (.int p1), .val (.long q1), .second, .val (.long q2), .second, .val (.long q3), .second, .val (.int p5), .val (.int p6), .val (.int (p1 &&& (3 : Int32))), .val (.ref w0), .val .null, .val (.ref w2), .val (.long u), .second, .unset, .unset, .unset, .unset] [(.ref b178)]))
        refine own_toH (fun t k => XS.dup X178.here hx rfl (hb hby at_65) rfl rfl k) ?_
        show own_FinH _ _ _ _ _ _ _ _ (T178.setTop (mkF m 66 #[.val (.int p1), .val (.long q1), .second, .val (.long q2), .second, .val (.long q3), .second, .val (.int p5), .val (.int p6), .val (.int (p1 &&& (3 : Int32))), .val (.ref w0), .val .null, .val (.ref w2), .val (.long u), .second, .unset, .unset, .unset, .unset] [(.ref b178), (.ref b178)]))
        refine own_toH (fun t k => XS.aload X178.here hx rfl (hb hby at_66) rfl rfl k) ?_
        show own_FinH _ _ _ _ _ _ _ _ (T178.setTop (mkF m 68 #[.val (.int p1), .val (.long q1), .second, .val (.long q2), .second, .val (.long q3), .second, .val (.int p5), .val (.int p6), .val (.int (p1 &&& (3 : Int32))), .val (.ref w0), .val .null, .val (.ref w2), .val (.long u), .second, .unset, .unset, .unset, .unset] [(.ref w0), (.ref b178), (.ref b178)]))
        refine own_toH (fun t k => XS.lload X178.here hx rfl (hb hby at_68) rfl k) ?_
        show own_FinH _ _ _ _ _ _ _ _ (T178.setTop (mkF m 70 #[.val (.int p1), .val (.long q1), .second, .val (.long q2), .second, .val (.long q3), .second, .val (.int p5), .val (.int p6), .val (.int (p1 &&& (3 : Int32))), .val (.ref w0), .val .null, .val (.ref w2), .val (.long u), .second, .unset, .unset, .unset, .unset] [(.long u), (.ref w0), (.ref b178), (.ref b178)]))
        refine own_toH (fun t k => XS.lloadN X178.here hx rfl (hb hby at_70) rfl k) ?_
        show own_FinH _ _ _ _ _ _ _ _ (T178.setTop (mkF m 71 #[.val (.int p1), .val (.long q1), .second, .val (.long q2), .second, .val (.long q3), .second, .val (.int p5), .val (.int p6), .val (.int (p1 &&& (3 : Int32))), .val (.ref w0), .val .null, .val (.ref w2), .val (.long u), .second, .unset, .unset, .unset, .unset] [(.long q2), (.long u), (.ref w0), (.ref b178), (.ref b178)]))
        refine own_toH (fun t k => XS.aload X178.here hx rfl (hb hby at_71) rfl rfl k) ?_
        show own_FinH _ _ _ _ _ _ _ _ (T178.setTop (mkF m 73 #[.val (.int p1), .val (.long q1), .second, .val (.long q2), .second, .val (.long q3), .second, .val (.int p5), .val (.int p6), .val (.int (p1 &&& (3 : Int32))), .val (.ref w0), .val .null, .val (.ref w2), .val (.long u), .second, .unset, .unset, .unset, .unset] [.null, (.long q2), (.long u), (.ref w0), (.ref b178), (.ref b178)]))
        refine own_toH (fun t k => XS.aload X178.here hx rfl (hb hby at_73) rfl rfl k) ?_
        show own_FinH _ _ _ _ _ _ _ _ (T178.setTop (mkF m 75 #[.val (.int p1), .val (.long q1), .second, .val (.long q2), .second, .val (.long q3), .second, .val (.int p5), .val (.int p6), .val (.int (p1 &&& (3 : Int32))), .val (.ref w0), .val .null, .val (.ref w2), .val (.long u), .second, .unset, .unset, .unset, .unset] [(.ref w2), .null, (.long q2), (.long u), (.ref w0), (.ref b178), (.ref b178)]))
        refine own_toH (fun t k => XS.lload X178.here hx rfl (hb hby at_75) rfl k) ?_
        show own_FinH _ _ _ _ _ _ _ _ (T178.setTop (mkF m 77 #[.val (.int p1), .val (.long q1), .second, .val (.long q2), .second, .val (.long q3), .second, .val (.int p5), .val (.int p6), .val (.int (p1 &&& (3 : Int32))), .val (.ref w0), .val .null, .val (.ref w2), .val (.long u), .second, .unset, .unset, .unset, .unset] [(.long q3), (.ref w2), .null, (.long q2), (.long u), (.ref w0), (.ref b178), (.ref b178)]))
        obtain ⟨_, _, ⟨T179, L179, k179, n179⟩, -, X179, ⟨Lc179, hQ179, l179, y179, z179⟩, st179⟩ := X178.specialBack hx (y := (⟨"com/example/deft_lock/deftlock/service/ServerInfo", "<init>", "(Ljava/lang/String;JJLjava/lang/String;Ljava/lang/String;J)V"⟩ : MethodName)) rfl hown (mvT hZ (hw _ (List.mem_of_getElem? (i := 10) rfl))) (mvT hZ (hw _ (List.mem_of_getElem? (i := 11) rfl))) (mvT hZ (hw _ (List.mem_of_getElem? (i := 12) rfl))) (by decide) (own_back (W := 1) (own_si5 l Z a0 hw [] b178 u q2 q3 w0 w2 h178 n0 (Nat.le_trans (Nat.le_trans (Nat.le_trans Z0 K165.1) K176.1) E178.1) A178 FnrunId_178 FnuptimeSeconds_178 FnclockMicros_178 Fnrole_178 Fnmaster_178 FnconnectedReplicas_178 g_b178) hZ (hw _ (List.mem_of_getElem? (i := 12) rfl)) (hw _ (List.mem_of_getElem? (i := 9) rfl)) (by decide) (by decide)) (g := (mkF m 77 #[.val (.int p1), .val (.long q1), .second, .val (.long q2), .second, .val (.long q3), .second, .val (.int p5), .val (.int p6), .val (.int (p1 &&& (3 : Int32))), .val (.ref w0), .val .null, .val (.ref w2), .val (.long u), .second, .unset, .unset, .unset, .unset] [(.long q3), (.ref w2), .null, (.long q2), (.long u), (.ref w0), (.ref b178), (.ref b178)])) rfl (by rw [hml]; rfl) (Steps.refl _) (a := b178) (argsL := [(.ref w0), (.long u), (.long q2), .null, (.ref w2), (.long q3)]) (rest := [(.ref b178)]) (lenOf own_pd8 rfl) rfl (by show 2 * 0 + _ ≤ _; exact Nat.le_of_eq rfl) (hb hby at_77) (fun _ _ => ⟨rfl, e178, (by decide : 13 + 0 ≤ _), (by decide : 30 + 0 ≤ _)⟩)
        dsimp only [Pt.U, Pt.locs, Pt.cells, Pt.slots] at X179 l179 y179 z179 st179 hQ179
        subst l179 y179 z179
        obtain ⟨rfl, N179q, K179, Fr1, Fu1⟩ := hQ179
        have N179 := Fr.app N177 N179q
        have hR179 := hR178.trans (CHr.keep K179 (sfS Sn_b178 sf0) hH178)
        have hH179 := CHv.keep K179 (sfS Sn_b178 sf0) hH178
        have Sf_b178_179 := Safe.keep K179 (sfS Sn_b178 sf0) hH178 Sn_b178
        have O179 := O178.keep K179 (allS g_b178 all0)
        have E_w0_e179 := E_w0_e178.keep K179
        have E_w2_e179 := E_w2_e178.keep K179
        have A178_e179 := A178.keep K179
        refine own_toH (fun t k => st179.trans k) ?_
        show own_FinH _ _ _ _ _ _ _ _ (T179.setTop (mkF m 80 #[.val (.int p1), .val (.long q1), .second, .val (.long q2), .second, .val (.long q3), .second, .val (.int p5), .val (.int p6), .val (.int (p1 &&& (3 : Int32))), .val (.ref w0), .val .null, .val (.ref w2), .val (.long u), .second, .unset, .unset, .unset, .unset] [(.ref b178)]))
        refine own_toH (fun t k => XS.astore X179.here hx rfl (hb hby at_80) rfl rfl (l' := #[.val (.int p1), .val (.long q1), .second, .val (.long q2), .second, .val (.long q3), .second, .val (.int p5), .val (.int p6), .val (.int (p1 &&& (3 : Int32))), .val (.ref w0), .val .null, .val (.ref w2), .val (.long u), .second, .val (.ref b178), .unset, .unset, .unset]) rfl k) ?_
        show own_FinH _ _ _ _ _ _ _ _ (T179.setTop (mkF m 82 #[.val (.int p1), .val (.long q1), .second, .val (.long q2), .second, .val (.long q3), .second, .val (.int p5), .val (.int p6), .val (.int (p1 &&& (3 : Int32))), .val (.ref w0), .val .null, .val (.ref w2), .val (.long u), .second, .val (.ref b178), .unset, .unset, .unset] []))
        refine own_toH (fun t k => XS.iload X179.here hx rfl (hb hby at_82) rfl k) ?_
        show own_FinH _ _ _ _ _ _ _ _ (T179.setTop (mkF m 84 #[.val (.int p1), .val (.long q1), .second, .val (.long q2), .second, .val (.long q3), .second, .val (.int p5), .val (.int p6), .val (.int (p1 &&& (3 : Int32))), .val (.ref w0), .val .null, .val (.ref w2), .val (.long u), .second, .val (.ref b178), .unset, .unset, .unset] [(.int (p1 &&& (3 : Int32)))]))
        refine own_toH (fun t k => XS.ifNo X179.here hx rfl (hb hby at_84) rfl ((if0 _ _).trans (feq hf130).1) k) ?_
        show own_FinH _ _ _ _ _ _ _ _ (T179.setTop (mkF m 87 #[.val (.int p1), .val (.long q1), .second, .val (.long q2), .second, .val (.long q3), .second, .val (.int p5), .val (.int p6), .val (.int (p1 &&& (3 : Int32))), .val (.ref w0), .val .null, .val (.ref w2), .val (.long u), .second, .val (.ref b178), .unset, .unset, .unset] []))
        refine own_toH (fun t k => XS.iconst X179.here hx rfl (hb hby at_87) k) ?_
        show own_FinH _ _ _ _ _ _ _ _ (T179.setTop (mkF m 88 #[.val (.int p1), .val (.long q1), .second, .val (.long q2), .second, .val (.long q3), .second, .val (.int p5), .val (.int p6), .val (.int (p1 &&& (3 : Int32))), .val (.ref w0), .val .null, .val (.ref w2), .val (.long u), .second, .val (.ref b178), .unset, .unset, .unset] [(.int (1 : Int32))]))
        refine own_toH (fun t k => XS.goto X179.here hx rfl (pc0 := 88) (pc' := 92) rfl (hb hby at_88) (by decide) (by decide) k) ?_
        show own_FinH _ _ _ _ _ _ _ _ (T179.setTop (mkF m 92 #[.val (.int p1), .val (.long q1), .second, .val (.long q2), .second, .val (.long q3), .second, .val (.int p5), .val (.int p6), .val (.int (p1 &&& (3 : Int32))), .val (.ref w0), .val .null, .val (.ref w2), .val (.long u), .second, .val (.ref b178), .unset, .unset, .unset] [(.int (1 : Int32))]))
        refine own_toH (fun t k => XS.istore X179.here hx rfl (hb hby at_92) rfl (l' := #[.val (.int p1), .val (.long q1), .second, .val (.long q2), .second, .val (.long q3), .second, .val (.int p5), .val (.int p6), .val (.int (p1 &&& (3 : Int32))), .val (.ref w0), .val .null, .val (.ref w2), .val (.long u), .second, .val (.ref b178), .val (.int (1 : Int32)), .unset, .unset]) rfl k) ?_
        show own_FinH _ _ _ _ _ _ _ _ (T179.setTop (mkF m 94 #[.val (.int p1), .val (.long q1), .second, .val (.long q2), .second, .val (.long q3), .second, .val (.int p5), .val (.int p6), .val (.int (p1 &&& (3 : Int32))), .val (.ref w0), .val .null, .val (.ref w2), .val (.long u), .second, .val (.ref b178), .val (.int (1 : Int32)), .unset, .unset] []))
        refine own_toH (fun t k => XS.lload X179.here hx rfl (hb hby at_94) rfl k) ?_
        show own_FinH _ _ _ _ _ _ _ _ (T179.setTop (mkF m 96 #[.val (.int p1), .val (.long q1), .second, .val (.long q2), .second, .val (.long q3), .second, .val (.int p5), .val (.int p6), .val (.int (p1 &&& (3 : Int32))), .val (.ref w0), .val .null, .val (.ref w2), .val (.long u), .second, .val (.ref b178), .val (.int (1 : Int32)), .unset, .unset] [(.long u)]))
        refine own_toH (fun t k => XS.bipush X179.here hx rfl (hb hby at_96) k) ?_
        show own_FinH _ _ _ _ _ _ _ _ (T179.setTop (mkF m 98 #[.val (.int p1), .val (.long q1), .second, .val (.long q2), .second, .val (.long q3), .second, .val (.int p5), .val (.int p6), .val (.int (p1 &&& (3 : Int32))), .val (.ref w0), .val .null, .val (.ref w2), .val (.long u), .second, .val (.ref b178), .val (.int (1 : Int32)), .unset, .unset] [(.int (63 : Int32)), (.long u)]))
        refine own_toH (fun t k => XS.lushr X179.here hx rfl (hb hby at_98) rfl k) ?_
        show own_FinH _ _ _ _ _ _ _ _ (T179.setTop (mkF m 99 #[.val (.int p1), .val (.long q1), .second, .val (.long q2), .second, .val (.long q3), .second, .val (.int p5), .val (.int p6), .val (.int (p1 &&& (3 : Int32))), .val (.ref w0), .val .null, .val (.ref w2), .val (.long u), .second, .val (.ref b178), .val (.int (1 : Int32)), .unset, .unset] [(.long ((u.toUInt64 >>> ((63 : Int32) &&& 0x3f).toInt64.toUInt64).toInt64))]))
        refine own_toH (fun t k => XS.lconst X179.here hx rfl (hb hby at_99) k) ?_
        show own_FinH _ _ _ _ _ _ _ _ (T179.setTop (mkF m 100 #[.val (.int p1), .val (.long q1), .second, .val (.long q2), .second, .val (.long q3), .second, .val (.int p5), .val (.int p6), .val (.int (p1 &&& (3 : Int32))), .val (.ref w0), .val .null, .val (.ref w2), .val (.long u), .second, .val (.ref b178), .val (.int (1 : Int32)), .unset, .unset] [(.long (0 : Int64)), (.long ((u.toUInt64 >>> ((63 : Int32) &&& 0x3f).toInt64.toUInt64).toInt64))]))
        refine own_toH (fun t k => XS.lcmp X179.here hx rfl (hb hby at_100) rfl k) ?_
        show own_FinH _ _ _ _ _ _ _ _ (T179.setTop (mkF m 101 #[.val (.int p1), .val (.long q1), .second, .val (.long q2), .second, .val (.long q3), .second, .val (.int p5), .val (.int p6), .val (.int (p1 &&& (3 : Int32))), .val (.ref w0), .val .null, .val (.ref w2), .val (.long u), .second, .val (.ref b178), .val (.int (1 : Int32)), .unset, .unset] [(.int (lcmpW ((u.toUInt64 >>> ((63 : Int32) &&& 0x3f).toInt64.toUInt64).toInt64) (0 : Int64)))]))
        by_cases hc101_180 : ((u.toUInt64 >>> ((63 : Int32) &&& 0x3f).toInt64.toUInt64).toInt64) = (0 : Int64)
        ·
          show own_FinH _ _ _ _ _ _ _ _ (T179.setTop (mkF m 101 #[.val (.int p1), .val (.long q1), .second, .val (.long q2), .second, .val (.long q3), .second, .val (.int p5), .val (.int p6), .val (.int (p1 &&& (3 : Int32))), .val (.ref w0), .val .null, .val (.ref w2), .val (.long u), .second, .val (.ref b178), .val (.int (1 : Int32)), .unset, .unset] [(.int (lcmpW ((u.toUInt64 >>> ((63 : Int32) &&& 0x3f).toInt64.toUInt64).toInt64) (0 : Int64)))]))
          refine own_toH (fun t k => XS.ifNo X179.here hx rfl (hb hby at_101) rfl ((if0 _ _).trans (teq ((lw_eq _ _).mpr hc101_180)).2) k) ?_
          show own_FinH _ _ _ _ _ _ _ _ (T179.setTop (mkF m 104 #[.val (.int p1), .val (.long q1), .second, .val (.long q2), .second, .val (.long q3), .second, .val (.int p5), .val (.int p6), .val (.int (p1 &&& (3 : Int32))), .val (.ref w0), .val .null, .val (.ref w2), .val (.long u), .second, .val (.ref b178), .val (.int (1 : Int32)), .unset, .unset] []))
          refine own_toH (fun t k => XS.iconst X179.here hx rfl (hb hby at_104) k) ?_
          show own_FinH _ _ _ _ _ _ _ _ (T179.setTop (mkF m 105 #[.val (.int p1), .val (.long q1), .second, .val (.long q2), .second, .val (.long q3), .second, .val (.int p5), .val (.int p6), .val (.int (p1 &&& (3 : Int32))), .val (.ref w0), .val .null, .val (.ref w2), .val (.long u), .second, .val (.ref b178), .val (.int (1 : Int32)), .unset, .unset] [(.int (1 : Int32))]))
          refine own_toH (fun t k => XS.goto X179.here hx rfl (pc0 := 105) (pc' := 109) rfl (hb hby at_105) (by decide) (by decide) k) ?_
          show own_FinH _ _ _ _ _ _ _ _ (T179.setTop (mkF m 109 #[.val (.int p1), .val (.long q1), .second, .val (.long q2), .second, .val (.long q3), .second, .val (.int p5), .val (.int p6), .val (.int (p1 &&& (3 : Int32))), .val (.ref w0), .val .null, .val (.ref w2), .val (.long u), .second, .val (.ref b178), .val (.int (1 : Int32)), .unset, .unset] [(.int (1 : Int32))]))
          refine own_toH (fun t k => XS.istore X179.here hx rfl (hb hby at_109) rfl (l' := #[.val (.int p1), .val (.long q1), .second, .val (.long q2), .second, .val (.long q3), .second, .val (.int p5), .val (.int p6), .val (.int (p1 &&& (3 : Int32))), .val (.ref w0), .val .null, .val (.ref w2), .val (.long u), .second, .val (.ref b178), .val (.int (1 : Int32)), .val (.int (1 : Int32)), .unset]) rfl k) ?_
          show own_FinH _ _ _ _ _ _ _ _ (T179.setTop (mkF m 111 #[.val (.int p1), .val (.long q1), .second, .val (.long q2), .second, .val (.long q3), .second, .val (.int p5), .val (.int p6), .val (.int (p1 &&& (3 : Int32))), .val (.ref w0), .val .null, .val (.ref w2), .val (.long u), .second, .val (.ref b178), .val (.int (1 : Int32)), .val (.int (1 : Int32)), .unset] []))
          refine own_toH (fun t k => XS.iconst X179.here hx rfl (hb hby at_111) k) ?_
          show own_FinH _ _ _ _ _ _ _ _ (T179.setTop (mkF m 112 #[.val (.int p1), .val (.long q1), .second, .val (.long q2), .second, .val (.long q3), .second, .val (.int p5), .val (.int p6), .val (.int (p1 &&& (3 : Int32))), .val (.ref w0), .val .null, .val (.ref w2), .val (.long u), .second, .val (.ref b178), .val (.int (1 : Int32)), .val (.int (1 : Int32)), .unset] [(.int (0 : Int32))]))
          refine own_toH (fun t k => XS.istore X179.here hx rfl (hb hby at_112) rfl (l' := #[.val (.int p1), .val (.long q1), .second, .val (.long q2), .second, .val (.long q3), .second, .val (.int p5), .val (.int p6), .val (.int (p1 &&& (3 : Int32))), .val (.ref w0), .val .null, .val (.ref w2), .val (.long u), .second, .val (.ref b178), .val (.int (1 : Int32)), .val (.int (1 : Int32)), .val (.int (0 : Int32))]) rfl k) ?_
          show own_FinH _ _ _ _ _ _ _ _ (T179.setTop (mkF m 114 #[.val (.int p1), .val (.long q1), .second, .val (.long q2), .second, .val (.long q3), .second, .val (.int p5), .val (.int p6), .val (.int (p1 &&& (3 : Int32))), .val (.ref w0), .val .null, .val (.ref w2), .val (.long u), .second, .val (.ref b178), .val (.int (1 : Int32)), .val (.int (1 : Int32)), .val (.int (0 : Int32))] []))
          refine own_toH (fun t k => XS.iload X179.here hx rfl (hb hby at_114) rfl k) ?_
          show own_FinH _ _ _ _ _ _ _ _ (T179.setTop (mkF m 116 #[.val (.int p1), .val (.long q1), .second, .val (.long q2), .second, .val (.long q3), .second, .val (.int p5), .val (.int p6), .val (.int (p1 &&& (3 : Int32))), .val (.ref w0), .val .null, .val (.ref w2), .val (.long u), .second, .val (.ref b178), .val (.int (1 : Int32)), .val (.int (1 : Int32)), .val (.int (0 : Int32))] [(.int (1 : Int32))]))
          refine own_toH (fun t k => XS.ifNo X179.here hx rfl (hb hby at_116) rfl ((if0 _ _).trans (feq (by decide)).1) k) ?_
          show own_FinH _ _ _ _ _ _ _ _ (T179.setTop (mkF m 119 #[.val (.int p1), .val (.long q1), .second, .val (.long q2), .second, .val (.long q3), .second, .val (.int p5), .val (.int p6), .val (.int (p1 &&& (3 : Int32))), .val (.ref w0), .val .null, .val (.ref w2), .val (.long u), .second, .val (.ref b178), .val (.int (1 : Int32)), .val (.int (1 : Int32)), .val (.int (0 : Int32))] []))
          refine own_toH (fun t k => XS.iload X179.here hx rfl (hb hby at_119) rfl k) ?_
          show own_FinH _ _ _ _ _ _ _ _ (T179.setTop (mkF m 121 #[.val (.int p1), .val (.long q1), .second, .val (.long q2), .second, .val (.long q3), .second, .val (.int p5), .val (.int p6), .val (.int (p1 &&& (3 : Int32))), .val (.ref w0), .val .null, .val (.ref w2), .val (.long u), .second, .val (.ref b178), .val (.int (1 : Int32)), .val (.int (1 : Int32)), .val (.int (0 : Int32))] [(.int (1 : Int32))]))
          refine own_toH (fun t k => XS.ifNo X179.here hx rfl (hb hby at_121) rfl ((if0 _ _).trans (feq (by decide)).1) k) ?_
          show own_FinH _ _ _ _ _ _ _ _ (T179.setTop (mkF m 124 #[.val (.int p1), .val (.long q1), .second, .val (.long q2), .second, .val (.long q3), .second, .val (.int p5), .val (.int p6), .val (.int (p1 &&& (3 : Int32))), .val (.ref w0), .val .null, .val (.ref w2), .val (.long u), .second, .val (.ref b178), .val (.int (1 : Int32)), .val (.int (1 : Int32)), .val (.int (0 : Int32))] []))
          refine own_toH (fun t k => XS.iconst X179.here hx rfl (hb hby at_124) k) ?_
          show own_FinH _ _ _ _ _ _ _ _ (T179.setTop (mkF m 125 #[.val (.int p1), .val (.long q1), .second, .val (.long q2), .second, .val (.long q3), .second, .val (.int p5), .val (.int p6), .val (.int (p1 &&& (3 : Int32))), .val (.ref w0), .val .null, .val (.ref w2), .val (.long u), .second, .val (.ref b178), .val (.int (1 : Int32)), .val (.int (1 : Int32)), .val (.int (0 : Int32))] [(.int (1 : Int32))]))
          refine own_toH (fun t k => XS.istore X179.here hx rfl (hb hby at_125) rfl (l' := #[.val (.int p1), .val (.long q1), .second, .val (.long q2), .second, .val (.long q3), .second, .val (.int p5), .val (.int p6), .val (.int (p1 &&& (3 : Int32))), .val (.ref w0), .val .null, .val (.ref w2), .val (.long u), .second, .val (.ref b178), .val (.int (1 : Int32)), .val (.int (1 : Int32)), .val (.int (1 : Int32))]) rfl k) ?_
          show own_FinH _ _ _ _ _ _ _ _ (T179.setTop (mkF m 127 #[.val (.int p1), .val (.long q1), .second, .val (.long q2), .second, .val (.long q3), .second, .val (.int p5), .val (.int p6), .val (.int (p1 &&& (3 : Int32))), .val (.ref w0), .val .null, .val (.ref w2), .val (.long u), .second, .val (.ref b178), .val (.int (1 : Int32)), .val (.int (1 : Int32)), .val (.int (1 : Int32))] []))
          refine own_toH (fun t k => XS.aload X179.here hx rfl (hb hby at_127) rfl rfl k) ?_
          show own_FinH _ _ _ _ _ _ _ _ (T179.setTop (mkF m 129 #[.val (.int p1), .val (.long q1), .second, .val (.long q2), .second, .val (.long q3), .second, .val (.int p5), .val (.int p6), .val (.int (p1 &&& (3 : Int32))), .val (.ref w0), .val .null, .val (.ref w2), .val (.long u), .second, .val (.ref b178), .val (.int (1 : Int32)), .val (.int (1 : Int32)), .val (.int (1 : Int32))] [(.ref b178)]))
          have htu : own_tu u = 1 := own_tu1 ((own_neg u).mp hc101_180)
          obtain ⟨cq181, kq181, q181a, q181b, q181c⟩ := isOf hZ rfl A178_e179
          obtain ⟨_, _, ⟨T181, L181, k181, n181⟩, -, X181, ⟨Lc181, hQ181, l181, y181, z181⟩, st181⟩ := X179.virtualBack hx (y := (⟨"com/example/deft_lock/deftlock/service/ServerInfo", "tellsUptime", "()Z"⟩ : MethodName)) (z := (⟨"com/example/deft_lock/deftlock/service/ServerInfo", "tellsUptime", "()Z"⟩ : MethodName)) hown (mvT hZ (hw _ (List.mem_of_getElem? (i := 33) rfl))) (mvT hZ (hw _ (List.mem_of_getElem? (i := 34) rfl))) (notFace_of_selects (args := #[]) (mvT hZ (hw _ (List.mem_of_getElem? (i := 36) rfl)))) (mvT hZ (hw _ (List.mem_of_getElem? (i := 36) rfl))) (mvT hZ (hw _ (List.mem_of_getElem? (i := 35) rfl))) (by decide) (own_back (W := 0) (own_tuR l Z a0 hw [] b178 w0 u T179.heap n0 (Nat.le_trans (Nat.le_trans (Nat.le_trans (Nat.le_trans Z0 K165.1) K176.1) E178.1) K179.1) Fr1 Fu1) hZ (hw _ (List.mem_of_getElem? (i := 37) rfl)) (hw _ (List.mem_of_getElem? (i := 9) rfl)) (by decide) (by decide)) q181a q181c (g := (mkF m 129 #[.val (.int p1), .val (.long q1), .second, .val (.long q2), .second, .val (.long q3), .second, .val (.int p5), .val (.int p6), .val (.int (p1 &&& (3 : Int32))), .val (.ref w0), .val .null, .val (.ref w2), .val (.long u), .second, .val (.ref b178), .val (.int (1 : Int32)), .val (.int (1 : Int32)), .val (.int (1 : Int32))] [(.ref b178)])) rfl (by rw [hml]; rfl) (Steps.refl _) (argsL := []) (rest := []) (lenOf own_pd9 rfl) rfl (by show 2 * 0 + _ ≤ _; exact Nat.le_of_eq rfl) (hb hby at_129) (fun _ _ => ⟨rfl, rfl, (by decide : 13 + 0 ≤ _), (by decide : 30 + 0 ≤ _)⟩)
          dsimp only [Pt.U, Pt.locs, Pt.cells, Pt.slots] at X181 l181 y181 z181 st181 hQ181
          subst l181 y181 z181
          obtain ⟨rfl, N181q, eh181⟩ := hQ181
          have N181 := Fr.app N179 N181q
          refine own_toH (fun t k => st181.trans k) ?_
          show own_FinH _ _ _ _ _ _ _ _ (T181.setTop (mkF m 132 #[.val (.int p1), .val (.long q1), .second, .val (.long q2), .second, .val (.long q3), .second, .val (.int p5), .val (.int p6), .val (.int (p1 &&& (3 : Int32))), .val (.ref w0), .val .null, .val (.ref w2), .val (.long u), .second, .val (.ref b178), .val (.int (1 : Int32)), .val (.int (1 : Int32)), .val (.int (1 : Int32))] [(.int (own_tu u))]))
          refine own_toH (fun t k => XS.iload X181.here hx rfl (hb hby at_132) rfl k) ?_
          show own_FinH _ _ _ _ _ _ _ _ (T181.setTop (mkF m 134 #[.val (.int p1), .val (.long q1), .second, .val (.long q2), .second, .val (.long q3), .second, .val (.int p5), .val (.int p6), .val (.int (p1 &&& (3 : Int32))), .val (.ref w0), .val .null, .val (.ref w2), .val (.long u), .second, .val (.ref b178), .val (.int (1 : Int32)), .val (.int (1 : Int32)), .val (.int (1 : Int32))] [(.int (1 : Int32)), (.int (own_tu u))]))
          refine own_toH (fun t k => XS.icmpNo X181.here hx rfl (hb hby at_134) rfl (teq htu).2 k) ?_
          show own_FinH _ _ _ _ _ _ _ _ (T181.setTop (mkF m 137 #[.val (.int p1), .val (.long q1), .second, .val (.long q2), .second, .val (.long q3), .second, .val (.int p5), .val (.int p6), .val (.int (p1 &&& (3 : Int32))), .val (.ref w0), .val .null, .val (.ref w2), .val (.long u), .second, .val (.ref b178), .val (.int (1 : Int32)), .val (.int (1 : Int32)), .val (.int (1 : Int32))] []))
          refine own_toH (fun t k => XS.iconst X181.here hx rfl (hb hby at_137) k) ?_
          show own_FinH _ _ _ _ _ _ _ _ (T181.setTop (mkF m 138 #[.val (.int p1), .val (.long q1), .second, .val (.long q2), .second, .val (.long q3), .second, .val (.int p5), .val (.int p6), .val (.int (p1 &&& (3 : Int32))), .val (.ref w0), .val .null, .val (.ref w2), .val (.long u), .second, .val (.ref b178), .val (.int (1 : Int32)), .val (.int (1 : Int32)), .val (.int (1 : Int32))] [(.int (1 : Int32))]))
          refine own_toH (fun t k => XS.goto X181.here hx rfl (pc0 := 138) (pc' := 142) rfl (hb hby at_138) (by decide) (by decide) k) ?_
          show own_FinH _ _ _ _ _ _ _ _ (T181.setTop (mkF m 142 #[.val (.int p1), .val (.long q1), .second, .val (.long q2), .second, .val (.long q3), .second, .val (.int p5), .val (.int p6), .val (.int (p1 &&& (3 : Int32))), .val (.ref w0), .val .null, .val (.ref w2), .val (.long u), .second, .val (.ref b178), .val (.int (1 : Int32)), .val (.int (1 : Int32)), .val (.int (1 : Int32))] [(.int (1 : Int32))]))
          refine own_retNH X181 hS176 (by rw [eh181]; exact (Nat.le_trans (Nat.le_trans (Nat.le_refl _) E178.1) K179.1)) hZ hEL (by rw [eh181]; exact hH179) (by rw [eh181]; exact hR179) hx hlk (t := .boolean) hret (by simp) (hb hby at_142) (by decide) (by decide) ?_
          try rw [eh181]
          exact ⟨rfl, N181⟩
        ·
          show own_FinH _ _ _ _ _ _ _ _ (T179.setTop (mkF m 101 #[.val (.int p1), .val (.long q1), .second, .val (.long q2), .second, .val (.long q3), .second, .val (.int p5), .val (.int p6), .val (.int (p1 &&& (3 : Int32))), .val (.ref w0), .val .null, .val (.ref w2), .val (.long u), .second, .val (.ref b178), .val (.int (1 : Int32)), .unset, .unset] [(.int (lcmpW ((u.toUInt64 >>> ((63 : Int32) &&& 0x3f).toInt64.toUInt64).toInt64) (0 : Int64)))]))
          refine own_toH (fun t k => XS.ifYes X179.here hx rfl (pc0 := 101) (pc' := 108) rfl (hb hby at_101) rfl ((if0 _ _).trans (feq (fun z => hc101_180 ((lw_eq _ _).mp z))).2) (by decide) (by decide) k) ?_
          show own_FinH _ _ _ _ _ _ _ _ (T179.setTop (mkF m 108 #[.val (.int p1), .val (.long q1), .second, .val (.long q2), .second, .val (.long q3), .second, .val (.int p5), .val (.int p6), .val (.int (p1 &&& (3 : Int32))), .val (.ref w0), .val .null, .val (.ref w2), .val (.long u), .second, .val (.ref b178), .val (.int (1 : Int32)), .unset, .unset] []))
          refine own_toH (fun t k => XS.iconst X179.here hx rfl (hb hby at_108) k) ?_
          show own_FinH _ _ _ _ _ _ _ _ (T179.setTop (mkF m 109 #[.val (.int p1), .val (.long q1), .second, .val (.long q2), .second, .val (.long q3), .second, .val (.int p5), .val (.int p6), .val (.int (p1 &&& (3 : Int32))), .val (.ref w0), .val .null, .val (.ref w2), .val (.long u), .second, .val (.ref b178), .val (.int (1 : Int32)), .unset, .unset] [(.int (0 : Int32))]))
          refine own_toH (fun t k => XS.istore X179.here hx rfl (hb hby at_109) rfl (l' := #[.val (.int p1), .val (.long q1), .second, .val (.long q2), .second, .val (.long q3), .second, .val (.int p5), .val (.int p6), .val (.int (p1 &&& (3 : Int32))), .val (.ref w0), .val .null, .val (.ref w2), .val (.long u), .second, .val (.ref b178), .val (.int (1 : Int32)), .val (.int (0 : Int32)), .unset]) rfl k) ?_
          show own_FinH _ _ _ _ _ _ _ _ (T179.setTop (mkF m 111 #[.val (.int p1), .val (.long q1), .second, .val (.long q2), .second, .val (.long q3), .second, .val (.int p5), .val (.int p6), .val (.int (p1 &&& (3 : Int32))), .val (.ref w0), .val .null, .val (.ref w2), .val (.long u), .second, .val (.ref b178), .val (.int (1 : Int32)), .val (.int (0 : Int32)), .unset] []))
          refine own_toH (fun t k => XS.iconst X179.here hx rfl (hb hby at_111) k) ?_
          show own_FinH _ _ _ _ _ _ _ _ (T179.setTop (mkF m 112 #[.val (.int p1), .val (.long q1), .second, .val (.long q2), .second, .val (.long q3), .second, .val (.int p5), .val (.int p6), .val (.int (p1 &&& (3 : Int32))), .val (.ref w0), .val .null, .val (.ref w2), .val (.long u), .second, .val (.ref b178), .val (.int (1 : Int32)), .val (.int (0 : Int32)), .unset] [(.int (0 : Int32))]))
          refine own_toH (fun t k => XS.istore X179.here hx rfl (hb hby at_112) rfl (l' := #[.val (.int p1), .val (.long q1), .second, .val (.long q2), .second, .val (.long q3), .second, .val (.int p5), .val (.int p6), .val (.int (p1 &&& (3 : Int32))), .val (.ref w0), .val .null, .val (.ref w2), .val (.long u), .second, .val (.ref b178), .val (.int (1 : Int32)), .val (.int (0 : Int32)), .val (.int (0 : Int32))]) rfl k) ?_
          show own_FinH _ _ _ _ _ _ _ _ (T179.setTop (mkF m 114 #[.val (.int p1), .val (.long q1), .second, .val (.long q2), .second, .val (.long q3), .second, .val (.int p5), .val (.int p6), .val (.int (p1 &&& (3 : Int32))), .val (.ref w0), .val .null, .val (.ref w2), .val (.long u), .second, .val (.ref b178), .val (.int (1 : Int32)), .val (.int (0 : Int32)), .val (.int (0 : Int32))] []))
          refine own_toH (fun t k => XS.iload X179.here hx rfl (hb hby at_114) rfl k) ?_
          show own_FinH _ _ _ _ _ _ _ _ (T179.setTop (mkF m 116 #[.val (.int p1), .val (.long q1), .second, .val (.long q2), .second, .val (.long q3), .second, .val (.int p5), .val (.int p6), .val (.int (p1 &&& (3 : Int32))), .val (.ref w0), .val .null, .val (.ref w2), .val (.long u), .second, .val (.ref b178), .val (.int (1 : Int32)), .val (.int (0 : Int32)), .val (.int (0 : Int32))] [(.int (1 : Int32))]))
          refine own_toH (fun t k => XS.ifNo X179.here hx rfl (hb hby at_116) rfl ((if0 _ _).trans (feq (by decide)).1) k) ?_
          show own_FinH _ _ _ _ _ _ _ _ (T179.setTop (mkF m 119 #[.val (.int p1), .val (.long q1), .second, .val (.long q2), .second, .val (.long q3), .second, .val (.int p5), .val (.int p6), .val (.int (p1 &&& (3 : Int32))), .val (.ref w0), .val .null, .val (.ref w2), .val (.long u), .second, .val (.ref b178), .val (.int (1 : Int32)), .val (.int (0 : Int32)), .val (.int (0 : Int32))] []))
          refine own_toH (fun t k => XS.iload X179.here hx rfl (hb hby at_119) rfl k) ?_
          show own_FinH _ _ _ _ _ _ _ _ (T179.setTop (mkF m 121 #[.val (.int p1), .val (.long q1), .second, .val (.long q2), .second, .val (.long q3), .second, .val (.int p5), .val (.int p6), .val (.int (p1 &&& (3 : Int32))), .val (.ref w0), .val .null, .val (.ref w2), .val (.long u), .second, .val (.ref b178), .val (.int (1 : Int32)), .val (.int (0 : Int32)), .val (.int (0 : Int32))] [(.int (0 : Int32))]))
          refine own_toH (fun t k => XS.ifYes X179.here hx rfl (pc0 := 121) (pc' := 127) rfl (hb hby at_121) rfl ((if0 _ _).trans (teq rfl).1) (by decide) (by decide) k) ?_
          show own_FinH _ _ _ _ _ _ _ _ (T179.setTop (mkF m 127 #[.val (.int p1), .val (.long q1), .second, .val (.long q2), .second, .val (.long q3), .second, .val (.int p5), .val (.int p6), .val (.int (p1 &&& (3 : Int32))), .val (.ref w0), .val .null, .val (.ref w2), .val (.long u), .second, .val (.ref b178), .val (.int (1 : Int32)), .val (.int (0 : Int32)), .val (.int (0 : Int32))] []))
          refine own_toH (fun t k => XS.aload X179.here hx rfl (hb hby at_127) rfl rfl k) ?_
          show own_FinH _ _ _ _ _ _ _ _ (T179.setTop (mkF m 129 #[.val (.int p1), .val (.long q1), .second, .val (.long q2), .second, .val (.long q3), .second, .val (.int p5), .val (.int p6), .val (.int (p1 &&& (3 : Int32))), .val (.ref w0), .val .null, .val (.ref w2), .val (.long u), .second, .val (.ref b178), .val (.int (1 : Int32)), .val (.int (0 : Int32)), .val (.int (0 : Int32))] [(.ref b178)]))
          have htu : own_tu u = 0 := own_tu0 (fun q => hc101_180 ((own_neg u).mpr q))
          obtain ⟨cq182, kq182, q182a, q182b, q182c⟩ := isOf hZ rfl A178_e179
          obtain ⟨_, _, ⟨T182, L182, k182, n182⟩, -, X182, ⟨Lc182, hQ182, l182, y182, z182⟩, st182⟩ := X179.virtualBack hx (y := (⟨"com/example/deft_lock/deftlock/service/ServerInfo", "tellsUptime", "()Z"⟩ : MethodName)) (z := (⟨"com/example/deft_lock/deftlock/service/ServerInfo", "tellsUptime", "()Z"⟩ : MethodName)) hown (mvT hZ (hw _ (List.mem_of_getElem? (i := 33) rfl))) (mvT hZ (hw _ (List.mem_of_getElem? (i := 34) rfl))) (notFace_of_selects (args := #[]) (mvT hZ (hw _ (List.mem_of_getElem? (i := 36) rfl)))) (mvT hZ (hw _ (List.mem_of_getElem? (i := 36) rfl))) (mvT hZ (hw _ (List.mem_of_getElem? (i := 35) rfl))) (by decide) (own_back (W := 0) (own_tuR l Z a0 hw [] b178 w0 u T179.heap n0 (Nat.le_trans (Nat.le_trans (Nat.le_trans (Nat.le_trans Z0 K165.1) K176.1) E178.1) K179.1) Fr1 Fu1) hZ (hw _ (List.mem_of_getElem? (i := 37) rfl)) (hw _ (List.mem_of_getElem? (i := 9) rfl)) (by decide) (by decide)) q182a q182c (g := (mkF m 129 #[.val (.int p1), .val (.long q1), .second, .val (.long q2), .second, .val (.long q3), .second, .val (.int p5), .val (.int p6), .val (.int (p1 &&& (3 : Int32))), .val (.ref w0), .val .null, .val (.ref w2), .val (.long u), .second, .val (.ref b178), .val (.int (1 : Int32)), .val (.int (0 : Int32)), .val (.int (0 : Int32))] [(.ref b178)])) rfl (by rw [hml]; rfl) (Steps.refl _) (argsL := []) (rest := []) (lenOf own_pd9 rfl) rfl (by show 2 * 0 + _ ≤ _; exact Nat.le_of_eq rfl) (hb hby at_129) (fun _ _ => ⟨rfl, rfl, (by decide : 13 + 0 ≤ _), (by decide : 30 + 0 ≤ _)⟩)
          dsimp only [Pt.U, Pt.locs, Pt.cells, Pt.slots] at X182 l182 y182 z182 st182 hQ182
          subst l182 y182 z182
          obtain ⟨rfl, N182q, eh182⟩ := hQ182
          have N182 := Fr.app N179 N182q
          refine own_toH (fun t k => st182.trans k) ?_
          show own_FinH _ _ _ _ _ _ _ _ (T182.setTop (mkF m 132 #[.val (.int p1), .val (.long q1), .second, .val (.long q2), .second, .val (.long q3), .second, .val (.int p5), .val (.int p6), .val (.int (p1 &&& (3 : Int32))), .val (.ref w0), .val .null, .val (.ref w2), .val (.long u), .second, .val (.ref b178), .val (.int (1 : Int32)), .val (.int (0 : Int32)), .val (.int (0 : Int32))] [(.int (own_tu u))]))
          refine own_toH (fun t k => XS.iload X182.here hx rfl (hb hby at_132) rfl k) ?_
          show own_FinH _ _ _ _ _ _ _ _ (T182.setTop (mkF m 134 #[.val (.int p1), .val (.long q1), .second, .val (.long q2), .second, .val (.long q3), .second, .val (.int p5), .val (.int p6), .val (.int (p1 &&& (3 : Int32))), .val (.ref w0), .val .null, .val (.ref w2), .val (.long u), .second, .val (.ref b178), .val (.int (1 : Int32)), .val (.int (0 : Int32)), .val (.int (0 : Int32))] [(.int (0 : Int32)), (.int (own_tu u))]))
          refine own_toH (fun t k => XS.icmpNo X182.here hx rfl (hb hby at_134) rfl (teq htu).2 k) ?_
          show own_FinH _ _ _ _ _ _ _ _ (T182.setTop (mkF m 137 #[.val (.int p1), .val (.long q1), .second, .val (.long q2), .second, .val (.long q3), .second, .val (.int p5), .val (.int p6), .val (.int (p1 &&& (3 : Int32))), .val (.ref w0), .val .null, .val (.ref w2), .val (.long u), .second, .val (.ref b178), .val (.int (1 : Int32)), .val (.int (0 : Int32)), .val (.int (0 : Int32))] []))
          refine own_toH (fun t k => XS.iconst X182.here hx rfl (hb hby at_137) k) ?_
          show own_FinH _ _ _ _ _ _ _ _ (T182.setTop (mkF m 138 #[.val (.int p1), .val (.long q1), .second, .val (.long q2), .second, .val (.long q3), .second, .val (.int p5), .val (.int p6), .val (.int (p1 &&& (3 : Int32))), .val (.ref w0), .val .null, .val (.ref w2), .val (.long u), .second, .val (.ref b178), .val (.int (1 : Int32)), .val (.int (0 : Int32)), .val (.int (0 : Int32))] [(.int (1 : Int32))]))
          refine own_toH (fun t k => XS.goto X182.here hx rfl (pc0 := 138) (pc' := 142) rfl (hb hby at_138) (by decide) (by decide) k) ?_
          show own_FinH _ _ _ _ _ _ _ _ (T182.setTop (mkF m 142 #[.val (.int p1), .val (.long q1), .second, .val (.long q2), .second, .val (.long q3), .second, .val (.int p5), .val (.int p6), .val (.int (p1 &&& (3 : Int32))), .val (.ref w0), .val .null, .val (.ref w2), .val (.long u), .second, .val (.ref b178), .val (.int (1 : Int32)), .val (.int (0 : Int32)), .val (.int (0 : Int32))] [(.int (1 : Int32))]))
          refine own_retNH X182 hS176 (by rw [eh182]; exact (Nat.le_trans (Nat.le_trans (Nat.le_refl _) E178.1) K179.1)) hZ hEL (by rw [eh182]; exact hH179) (by rw [eh182]; exact hR179) hx hlk (t := .boolean) hret (by simp) (hb hby at_142) (by decide) (by decide) ?_
          try rw [eh182]
          exact ⟨rfl, N182⟩
    ·
      show own_FinH _ _ _ _ _ _ _ _ (T165.setTop (mkF m 25 #[.val (.int p1), .val (.long q1), .second, .val (.long q2), .second, .val (.long q3), .second, .val (.int p5), .val (.int p6), .val (.int (p1 &&& (3 : Int32))), .val (.ref w0), .unset, .unset, .unset, .unset, .unset, .unset, .unset, .unset] [(.int p5), (.int p6), (.int (((p1.toUInt32 >>> ((2 : Int32) &&& 31).toUInt32).toInt32) &&& (3 : Int32)))]))
      obtain ⟨_, _, ⟨T183, L183, k183, n183⟩, -, X183, S183a, S183b, ⟨Lc183, hQ183, l183, y183, z183, hC183⟩, st183⟩ := callSS X165r hx (y := (⟨"com/example/deft_lock/deftlock/service/ServerInfoTellsUptimePinLaw", "drawn", "(III)Ljava/lang/String;"⟩ : MethodName)) hown (mvT hZ (hw _ (List.mem_of_getElem? (i := 0) rfl))) (mvT hZ (hw _ (List.mem_of_getElem? (i := 1) rfl))) (mvT hZ (hw _ (List.mem_of_getElem? (i := 2) rfl))) (mvT hZ (hw _ (List.mem_of_getElem? (i := 3) rfl))) (by decide) (own_backH (W := 0) (own_drR l Z a0 hw [] cs (((p1.toUInt32 >>> ((2 : Int32) &&& 31).toUInt32).toInt32) &&& (3 : Int32)) p6 p5 T165.heap n0 (Nat.le_trans Z0 K165.1) O165 SS hcs hf166) hZ (hw _ (List.mem_of_getElem? (i := 3) rfl)) (hw _ (List.mem_of_getElem? (i := 2) rfl)) (by decide) (by decide) hEL hH165 all0) (g := (mkF m 25 #[.val (.int p1), .val (.long q1), .second, .val (.long q2), .second, .val (.long q3), .second, .val (.int p5), .val (.int p6), .val (.int (p1 &&& (3 : Int32))), .val (.ref w0), .unset, .unset, .unset, .unset, .unset, .unset, .unset, .unset] [(.int p5), (.int p6), (.int (((p1.toUInt32 >>> ((2 : Int32) &&& 31).toUInt32).toInt32) &&& (3 : Int32)))])) rfl (by rw [hml]; rfl) (argsL := [(.int (((p1.toUInt32 >>> ((2 : Int32) &&& 31).toUInt32).toInt32) &&& (3 : Int32))), (.int p6), (.int p5)]) (rest := []) (lenOf own_pd6 rfl) rfl (by show 2 * 0 + _ ≤ _; exact Nat.le_of_eq rfl) (hb hby at_25) (fun _ _ => ⟨rfl, rfl, (by decide : 6 + 6 ≤ _), (by decide : 12 + 12 ≤ _)⟩)
      dsimp only [Pt.U, Pt.locs, Pt.cells, Pt.slots] at X183 l183 y183 z183 st183 hQ183 S183a S183b hC183
      subst l183 y183 z183
      obtain ⟨X183r, hS183, hZ, hown⟩ := rebS hS165 (n1 := T165.heap.size) (Nat.le_refl _) X183 S183a S183b hZ hown
      obtain ⟨w1, rfl, N183q, K183, g_w1, szx_w1, E_w1⟩ := hQ183
      have N183 := Fr.app N165 N183q
      have ne_w0_w1 : w0 ≠ w1 := Nat.ne_of_lt (Nat.lt_of_lt_of_le E_w0.lt szx_w1)
      have hR183 := hR165.trans hC183
      have hH183 := hC183.1
      have O183 := O165.keep K183 all0
      have E_w0_e183 := E_w0.keep K183
      refine own_toH (fun t k => st183.trans k) ?_
      show own_FinH _ _ _ _ _ _ _ _ (T183.setTop (mkF m 28 #[.val (.int p1), .val (.long q1), .second, .val (.long q2), .second, .val (.long q3), .second, .val (.int p5), .val (.int p6), .val (.int (p1 &&& (3 : Int32))), .val (.ref w0), .unset, .unset, .unset, .unset, .unset, .unset, .unset, .unset] [(.ref w1)]))
      refine own_toH (fun t k => XS.astore X183r.here hx rfl (hb hby at_28) rfl rfl (l' := #[.val (.int p1), .val (.long q1), .second, .val (.long q2), .second, .val (.long q3), .second, .val (.int p5), .val (.int p6), .val (.int (p1 &&& (3 : Int32))), .val (.ref w0), .val (.ref w1), .unset, .unset, .unset, .unset, .unset, .unset, .unset]) rfl k) ?_
      show own_FinH _ _ _ _ _ _ _ _ (T183.setTop (mkF m 30 #[.val (.int p1), .val (.long q1), .second, .val (.long q2), .second, .val (.long q3), .second, .val (.int p5), .val (.int p6), .val (.int (p1 &&& (3 : Int32))), .val (.ref w0), .val (.ref w1), .unset, .unset, .unset, .unset, .unset, .unset, .unset] []))
      refine own_toH (fun t k => XS.iloadN X183r.here hx rfl (hb hby at_30) rfl k) ?_
      show own_FinH _ _ _ _ _ _ _ _ (T183.setTop (mkF m 31 #[.val (.int p1), .val (.long q1), .second, .val (.long q2), .second, .val (.long q3), .second, .val (.int p5), .val (.int p6), .val (.int (p1 &&& (3 : Int32))), .val (.ref w0), .val (.ref w1), .unset, .unset, .unset, .unset, .unset, .unset, .unset] [(.int p1)]))
      refine own_toH (fun t k => XS.iconst X183r.here hx rfl (hb hby at_31) k) ?_
      show own_FinH _ _ _ _ _ _ _ _ (T183.setTop (mkF m 32 #[.val (.int p1), .val (.long q1), .second, .val (.long q2), .second, .val (.long q3), .second, .val (.int p5), .val (.int p6), .val (.int (p1 &&& (3 : Int32))), .val (.ref w0), .val (.ref w1), .unset, .unset, .unset, .unset, .unset, .unset, .unset] [(.int (4 : Int32)), (.int p1)]))
      refine own_toH (fun t k => XS.iushr X183r.here hx rfl (hb hby at_32) rfl k) ?_
      show own_FinH _ _ _ _ _ _ _ _ (T183.setTop (mkF m 33 #[.val (.int p1), .val (.long q1), .second, .val (.long q2), .second, .val (.long q3), .second, .val (.int p5), .val (.int p6), .val (.int (p1 &&& (3 : Int32))), .val (.ref w0), .val (.ref w1), .unset, .unset, .unset, .unset, .unset, .unset, .unset] [(.int ((p1.toUInt32 >>> ((4 : Int32) &&& 31).toUInt32).toInt32))]))
      refine own_toH (fun t k => XS.iconst X183r.here hx rfl (hb hby at_33) k) ?_
      show own_FinH _ _ _ _ _ _ _ _ (T183.setTop (mkF m 34 #[.val (.int p1), .val (.long q1), .second, .val (.long q2), .second, .val (.long q3), .second, .val (.int p5), .val (.int p6), .val (.int (p1 &&& (3 : Int32))), .val (.ref w0), .val (.ref w1), .unset, .unset, .unset, .unset, .unset, .unset, .unset] [(.int (3 : Int32)), (.int ((p1.toUInt32 >>> ((4 : Int32) &&& 31).toUInt32).toInt32))]))
      refine own_toH (fun t k => XS.iand X183r.here hx rfl (hb hby at_34) rfl k) ?_
      show own_FinH _ _ _ _ _ _ _ _ (T183.setTop (mkF m 35 #[.val (.int p1), .val (.long q1), .second, .val (.long q2), .second, .val (.long q3), .second, .val (.int p5), .val (.int p6), .val (.int (p1 &&& (3 : Int32))), .val (.ref w0), .val (.ref w1), .unset, .unset, .unset, .unset, .unset, .unset, .unset] [(.int (((p1.toUInt32 >>> ((4 : Int32) &&& 31).toUInt32).toInt32) &&& (3 : Int32)))]))
      refine own_toH (fun t k => XS.iload X183r.here hx rfl (hb hby at_35) rfl k) ?_
      show own_FinH _ _ _ _ _ _ _ _ (T183.setTop (mkF m 37 #[.val (.int p1), .val (.long q1), .second, .val (.long q2), .second, .val (.long q3), .second, .val (.int p5), .val (.int p6), .val (.int (p1 &&& (3 : Int32))), .val (.ref w0), .val (.ref w1), .unset, .unset, .unset, .unset, .unset, .unset, .unset] [(.int p5), (.int (((p1.toUInt32 >>> ((4 : Int32) &&& 31).toUInt32).toInt32) &&& (3 : Int32)))]))
      refine own_toH (fun t k => XS.bipush X183r.here hx rfl (hb hby at_37) k) ?_
      show own_FinH _ _ _ _ _ _ _ _ (T183.setTop (mkF m 39 #[.val (.int p1), .val (.long q1), .second, .val (.long q2), .second, .val (.long q3), .second, .val (.int p5), .val (.int p6), .val (.int (p1 &&& (3 : Int32))), .val (.ref w0), .val (.ref w1), .unset, .unset, .unset, .unset, .unset, .unset, .unset] [(.int (8 : Int32)), (.int p5), (.int (((p1.toUInt32 >>> ((4 : Int32) &&& 31).toUInt32).toInt32) &&& (3 : Int32)))]))
      refine own_toH (fun t k => XS.iushr X183r.here hx rfl (hb hby at_39) rfl k) ?_
      show own_FinH _ _ _ _ _ _ _ _ (T183.setTop (mkF m 40 #[.val (.int p1), .val (.long q1), .second, .val (.long q2), .second, .val (.long q3), .second, .val (.int p5), .val (.int p6), .val (.int (p1 &&& (3 : Int32))), .val (.ref w0), .val (.ref w1), .unset, .unset, .unset, .unset, .unset, .unset, .unset] [(.int ((p5.toUInt32 >>> ((8 : Int32) &&& 31).toUInt32).toInt32)), (.int (((p1.toUInt32 >>> ((4 : Int32) &&& 31).toUInt32).toInt32) &&& (3 : Int32)))]))
      refine own_toH (fun t k => XS.iload X183r.here hx rfl (hb hby at_40) rfl k) ?_
      show own_FinH _ _ _ _ _ _ _ _ (T183.setTop (mkF m 42 #[.val (.int p1), .val (.long q1), .second, .val (.long q2), .second, .val (.long q3), .second, .val (.int p5), .val (.int p6), .val (.int (p1 &&& (3 : Int32))), .val (.ref w0), .val (.ref w1), .unset, .unset, .unset, .unset, .unset, .unset, .unset] [(.int p6), (.int ((p5.toUInt32 >>> ((8 : Int32) &&& 31).toUInt32).toInt32)), (.int (((p1.toUInt32 >>> ((4 : Int32) &&& 31).toUInt32).toInt32) &&& (3 : Int32)))]))
      refine own_toH (fun t k => XS.bipush X183r.here hx rfl (hb hby at_42) k) ?_
      show own_FinH _ _ _ _ _ _ _ _ (T183.setTop (mkF m 44 #[.val (.int p1), .val (.long q1), .second, .val (.long q2), .second, .val (.long q3), .second, .val (.int p5), .val (.int p6), .val (.int (p1 &&& (3 : Int32))), .val (.ref w0), .val (.ref w1), .unset, .unset, .unset, .unset, .unset, .unset, .unset] [(.int (8 : Int32)), (.int p6), (.int ((p5.toUInt32 >>> ((8 : Int32) &&& 31).toUInt32).toInt32)), (.int (((p1.toUInt32 >>> ((4 : Int32) &&& 31).toUInt32).toInt32) &&& (3 : Int32)))]))
      refine own_toH (fun t k => XS.iushr X183r.here hx rfl (hb hby at_44) rfl k) ?_
      show own_FinH _ _ _ _ _ _ _ _ (T183.setTop (mkF m 45 #[.val (.int p1), .val (.long q1), .second, .val (.long q2), .second, .val (.long q3), .second, .val (.int p5), .val (.int p6), .val (.int (p1 &&& (3 : Int32))), .val (.ref w0), .val (.ref w1), .unset, .unset, .unset, .unset, .unset, .unset, .unset] [(.int ((p6.toUInt32 >>> ((8 : Int32) &&& 31).toUInt32).toInt32)), (.int ((p5.toUInt32 >>> ((8 : Int32) &&& 31).toUInt32).toInt32)), (.int (((p1.toUInt32 >>> ((4 : Int32) &&& 31).toUInt32).toInt32) &&& (3 : Int32)))]))
      by_cases hf184 : (((p1.toUInt32 >>> ((4 : Int32) &&& 31).toUInt32).toInt32) &&& (3 : Int32)) = (0 : Int32)
      ·
        show own_FinH _ _ _ _ _ _ _ _ (T183.setTop (mkF m 45 #[.val (.int p1), .val (.long q1), .second, .val (.long q2), .second, .val (.long q3), .second, .val (.int p5), .val (.int p6), .val (.int (p1 &&& (3 : Int32))), .val (.ref w0), .val (.ref w1), .unset, .unset, .unset, .unset, .unset, .unset, .unset] [(.int ((p6.toUInt32 >>> ((8 : Int32) &&& 31).toUInt32).toInt32)), (.int ((p5.toUInt32 >>> ((8 : Int32) &&& 31).toUInt32).toInt32)), (.int (((p1.toUInt32 >>> ((4 : Int32) &&& 31).toUInt32).toInt32) &&& (3 : Int32)))]))
        obtain ⟨_, _, ⟨T185, L185, k185, n185⟩, -, X185, ⟨Lc185, hQ185, l185, y185, z185⟩, st185⟩ := Jvm.LawKit.callS X183r hx (y := (⟨"com/example/deft_lock/deftlock/service/ServerInfoTellsUptimePinLaw", "drawn", "(III)Ljava/lang/String;"⟩ : MethodName)) hown (mvT hZ (hw _ (List.mem_of_getElem? (i := 0) rfl))) (mvT hZ (hw _ (List.mem_of_getElem? (i := 1) rfl))) (mvT hZ (hw _ (List.mem_of_getElem? (i := 2) rfl))) (mvT hZ (hw _ (List.mem_of_getElem? (i := 3) rfl))) (by decide) (own_back (W := 0) (own_drN l Z a0 hw [] (((p1.toUInt32 >>> ((4 : Int32) &&& 31).toUInt32).toInt32) &&& (3 : Int32)) ((p5.toUInt32 >>> ((8 : Int32) &&& 31).toUInt32).toInt32) ((p6.toUInt32 >>> ((8 : Int32) &&& 31).toUInt32).toInt32) T183.heap n0 (Nat.le_trans (Nat.le_trans Z0 K165.1) K183.1) hf184) hZ (hw _ (List.mem_of_getElem? (i := 3) rfl)) (hw _ (List.mem_of_getElem? (i := 2) rfl)) (by decide) (by decide)) (g := (mkF m 45 #[.val (.int p1), .val (.long q1), .second, .val (.long q2), .second, .val (.long q3), .second, .val (.int p5), .val (.int p6), .val (.int (p1 &&& (3 : Int32))), .val (.ref w0), .val (.ref w1), .unset, .unset, .unset, .unset, .unset, .unset, .unset] [(.int ((p6.toUInt32 >>> ((8 : Int32) &&& 31).toUInt32).toInt32)), (.int ((p5.toUInt32 >>> ((8 : Int32) &&& 31).toUInt32).toInt32)), (.int (((p1.toUInt32 >>> ((4 : Int32) &&& 31).toUInt32).toInt32) &&& (3 : Int32)))])) rfl (by rw [hml]; rfl) (argsL := [(.int (((p1.toUInt32 >>> ((4 : Int32) &&& 31).toUInt32).toInt32) &&& (3 : Int32))), (.int ((p5.toUInt32 >>> ((8 : Int32) &&& 31).toUInt32).toInt32)), (.int ((p6.toUInt32 >>> ((8 : Int32) &&& 31).toUInt32).toInt32))]) (rest := []) (lenOf own_pd6 rfl) rfl (by show 2 * 0 + _ ≤ _; exact Nat.le_of_eq rfl) (hb hby at_45) (fun _ _ => ⟨rfl, rfl, (by decide : 12 + 0 ≤ _), (by decide : 24 + 0 ≤ _)⟩)
        dsimp only [Pt.U, Pt.locs, Pt.cells, Pt.slots] at X185 l185 y185 z185 st185 hQ185
        subst l185 y185 z185
        obtain ⟨rfl, N185q, eh185⟩ := hQ185
        have N185 := Fr.app N183 N185q
        refine own_toH (fun t k => st185 t k) ?_
        show own_FinH _ _ _ _ _ _ _ _ (T185.setTop (mkF m 48 #[.val (.int p1), .val (.long q1), .second, .val (.long q2), .second, .val (.long q3), .second, .val (.int p5), .val (.int p6), .val (.int (p1 &&& (3 : Int32))), .val (.ref w0), .val (.ref w1), .unset, .unset, .unset, .unset, .unset, .unset, .unset] [.null]))
        refine own_toH (fun t k => XS.astore X185.here hx rfl (hb hby at_48) rfl rfl (l' := #[.val (.int p1), .val (.long q1), .second, .val (.long q2), .second, .val (.long q3), .second, .val (.int p5), .val (.int p6), .val (.int (p1 &&& (3 : Int32))), .val (.ref w0), .val (.ref w1), .val .null, .unset, .unset, .unset, .unset, .unset, .unset]) rfl k) ?_
        show own_FinH _ _ _ _ _ _ _ _ (T185.setTop (mkF m 50 #[.val (.int p1), .val (.long q1), .second, .val (.long q2), .second, .val (.long q3), .second, .val (.int p5), .val (.int p6), .val (.int (p1 &&& (3 : Int32))), .val (.ref w0), .val (.ref w1), .val .null, .unset, .unset, .unset, .unset, .unset, .unset] []))
        refine own_toH (fun t k => XS.iloadN X185.here hx rfl (hb hby at_50) rfl k) ?_
        show own_FinH _ _ _ _ _ _ _ _ (T185.setTop (mkF m 51 #[.val (.int p1), .val (.long q1), .second, .val (.long q2), .second, .val (.long q3), .second, .val (.int p5), .val (.int p6), .val (.int (p1 &&& (3 : Int32))), .val (.ref w0), .val (.ref w1), .val .null, .unset, .unset, .unset, .unset, .unset, .unset] [(.int p1)]))
        refine own_toH (fun t k => XS.bipush X185.here hx rfl (hb hby at_51) k) ?_
        show own_FinH _ _ _ _ _ _ _ _ (T185.setTop (mkF m 53 #[.val (.int p1), .val (.long q1), .second, .val (.long q2), .second, .val (.long q3), .second, .val (.int p5), .val (.int p6), .val (.int (p1 &&& (3 : Int32))), .val (.ref w0), .val (.ref w1), .val .null, .unset, .unset, .unset, .unset, .unset, .unset] [(.int (6 : Int32)), (.int p1)]))
        refine own_toH (fun t k => XS.iushr X185.here hx rfl (hb hby at_53) rfl k) ?_
        show own_FinH _ _ _ _ _ _ _ _ (T185.setTop (mkF m 54 #[.val (.int p1), .val (.long q1), .second, .val (.long q2), .second, .val (.long q3), .second, .val (.int p5), .val (.int p6), .val (.int (p1 &&& (3 : Int32))), .val (.ref w0), .val (.ref w1), .val .null, .unset, .unset, .unset, .unset, .unset, .unset] [(.int ((p1.toUInt32 >>> ((6 : Int32) &&& 31).toUInt32).toInt32))]))
        refine own_toH (fun t k => XS.iconst X185.here hx rfl (hb hby at_54) k) ?_
        show own_FinH _ _ _ _ _ _ _ _ (T185.setTop (mkF m 55 #[.val (.int p1), .val (.long q1), .second, .val (.long q2), .second, .val (.long q3), .second, .val (.int p5), .val (.int p6), .val (.int (p1 &&& (3 : Int32))), .val (.ref w0), .val (.ref w1), .val .null, .unset, .unset, .unset, .unset, .unset, .unset] [(.int (3 : Int32)), (.int ((p1.toUInt32 >>> ((6 : Int32) &&& 31).toUInt32).toInt32))]))
        refine own_toH (fun t k => XS.iand X185.here hx rfl (hb hby at_55) rfl k) ?_
        show own_FinH _ _ _ _ _ _ _ _ (T185.setTop (mkF m 56 #[.val (.int p1), .val (.long q1), .second, .val (.long q2), .second, .val (.long q3), .second, .val (.int p5), .val (.int p6), .val (.int (p1 &&& (3 : Int32))), .val (.ref w0), .val (.ref w1), .val .null, .unset, .unset, .unset, .unset, .unset, .unset] [(.int (((p1.toUInt32 >>> ((6 : Int32) &&& 31).toUInt32).toInt32) &&& (3 : Int32)))]))
        refine own_toH (fun t k => XS.lloadN X185.here hx rfl (hb hby at_56) rfl k) ?_
        show own_FinH _ _ _ _ _ _ _ _ (T185.setTop (mkF m 57 #[.val (.int p1), .val (.long q1), .second, .val (.long q2), .second, .val (.long q3), .second, .val (.int p5), .val (.int p6), .val (.int (p1 &&& (3 : Int32))), .val (.ref w0), .val (.ref w1), .val .null, .unset, .unset, .unset, .unset, .unset, .unset] [(.long q1), (.int (((p1.toUInt32 >>> ((6 : Int32) &&& 31).toUInt32).toInt32) &&& (3 : Int32)))]))
        obtain ⟨_, _, ⟨T186, L186, k186, n186⟩, -, X186, ⟨Lc186, hQ186, l186, y186, z186⟩, st186⟩ := Jvm.LawKit.callS X185 hx (y := (⟨"com/example/deft_lock/deftlock/service/ServerInfoTellsUptimePinLaw", "pickUptime", "(IJ)J"⟩ : MethodName)) hown (mvT hZ (hw _ (List.mem_of_getElem? (i := 4) rfl))) (mvT hZ (hw _ (List.mem_of_getElem? (i := 5) rfl))) (mvT hZ (hw _ (List.mem_of_getElem? (i := 2) rfl))) (mvT hZ (hw _ (List.mem_of_getElem? (i := 6) rfl))) (by decide) (own_back (W := 0) (own_rm2 l Z a0 hw [] (((p1.toUInt32 >>> ((6 : Int32) &&& 31).toUInt32).toInt32) &&& (3 : Int32)) q1 T183.heap n0 (Nat.le_trans (Nat.le_trans Z0 K165.1) K183.1)) hZ (hw _ (List.mem_of_getElem? (i := 6) rfl)) (hw _ (List.mem_of_getElem? (i := 2) rfl)) (by decide) (by decide)) (g := (mkF m 57 #[.val (.int p1), .val (.long q1), .second, .val (.long q2), .second, .val (.long q3), .second, .val (.int p5), .val (.int p6), .val (.int (p1 &&& (3 : Int32))), .val (.ref w0), .val (.ref w1), .val .null, .unset, .unset, .unset, .unset, .unset, .unset] [(.long q1), (.int (((p1.toUInt32 >>> ((6 : Int32) &&& 31).toUInt32).toInt32) &&& (3 : Int32)))])) rfl (by rw [hml]; rfl) (argsL := [(.int (((p1.toUInt32 >>> ((6 : Int32) &&& 31).toUInt32).toInt32) &&& (3 : Int32))), (.long q1)]) (rest := []) (lenOf own_pd7 rfl) rfl (by show 2 * 0 + _ ≤ _; exact Nat.le_of_eq rfl) (hb hby at_57) (fun _ _ => ⟨rfl, eh185, (by decide : 12 + 0 ≤ _), (by decide : 24 + 0 ≤ _)⟩)
        dsimp only [Pt.U, Pt.locs, Pt.cells, Pt.slots] at X186 l186 y186 z186 st186 hQ186
        subst l186 y186 z186
        obtain ⟨rfl, N186q, eh186⟩ := hQ186
        have N186 := Fr.app N185 N186q
        refine own_toH (fun t k => st186 t k) ?_
        show own_FinH _ _ _ _ _ _ _ _ (T186.setTop (mkF m 60 #[.val (.int p1), .val (.long q1), .second, .val (.long q2), .second, .val (.long q3), .second, .val (.int p5), .val (.int p6), .val (.int (p1 &&& (3 : Int32))), .val (.ref w0), .val (.ref w1), .val .null, .unset, .unset, .unset, .unset, .unset, .unset] [(.long (own_pick (((p1.toUInt32 >>> ((6 : Int32) &&& 31).toUInt32).toInt32) &&& (3 : Int32)) q1))]))
        obtain ⟨u, eu⟩ : ∃ z, z = (own_pick (((p1.toUInt32 >>> ((6 : Int32) &&& 31).toUInt32).toInt32) &&& (3 : Int32)) q1) := ⟨_, rfl⟩
        rw [← eu]
        show own_FinH _ _ _ _ _ _ _ _ (T186.setTop (mkF m 60 #[.val (.int p1), .val (.long q1), .second, .val (.long q2), .second, .val (.long q3), .second, .val (.int p5), .val (.int p6), .val (.int (p1 &&& (3 : Int32))), .val (.ref w0), .val (.ref w1), .val .null, .unset, .unset, .unset, .unset, .unset, .unset] [(.long u)]))
        refine own_toH (fun t k => XS.lstore X186.here hx rfl (hb hby at_60) rfl (l' := #[.val (.int p1), .val (.long q1), .second, .val (.long q2), .second, .val (.long q3), .second, .val (.int p5), .val (.int p6), .val (.int (p1 &&& (3 : Int32))), .val (.ref w0), .val (.ref w1), .val .null, .val (.long u), .second, .unset, .unset, .unset, .unset]) rfl k) ?_
        show own_FinH _ _ _ _ _ _ _ _ (T186.setTop (mkF m 62 #[.val (.int p1), .val (.long q1), .second, .val (.long q2), .second, .val (.long q3), .second, .val (.int p5), .val (.int p6), .val (.int (p1 &&& (3 : Int32))), .val (.ref w0), .val (.ref w1), .val .null, .val (.long u), .second, .unset, .unset, .unset, .unset] []))
        obtain ⟨T187, h187, X187, e187, E187, A187, D187, U187, st187⟩ := newO X186 hx hZ hown (hw _ (List.mem_of_getElem? (i := 7) rfl)) (hw _ (List.mem_of_getElem? (i := 8) rfl)) (hw _ (List.mem_of_getElem? (i := 9) rfl)) eh186 (g := (mkF m 62 #[.val (.int p1), .val (.long q1), .second, .val (.long q2), .second, .val (.long q3), .second, .val (.int p5), .val (.int p6), .val (.int (p1 &&& (3 : Int32))), .val (.ref w0), .val (.ref w1), .val .null, .val (.long u), .second, .unset, .unset, .unset, .unset] [])) rfl (hb hby at_62) (by decide) (by decide)
        obtain ⟨b187, q187⟩ : ∃ z, z = T183.heap.size := ⟨_, rfl⟩
        rw [← q187] at A187 D187 U187 st187
        have ne_w0_b187 : w0 ≠ b187 := Nat.ne_of_lt (Nat.lt_of_lt_of_le E_w0_e183.lt (Nat.le_of_eq q187.symm))
        have ne_w1_b187 : w1 ≠ b187 := Nat.ne_of_lt (Nat.lt_of_lt_of_le E_w1.lt (Nat.le_of_eq q187.symm))
        have g_b187 : n0 ≤ b187 := Nat.le_trans (Nat.le_trans (Nat.le_trans Z0 K165.1) K183.1) (Nat.le_of_eq q187.symm)
        have Sn_b187 : Safe Z own_EL _ h187 b187 := Safe.ext E187 hH183 (Safe.new (Nat.le_of_eq q187.symm))
        have hR187 := hR183.trans (CHr.ext E187 hH183)
        have hH187 := hH183.ext E187
        have O187 := O183.ext E187
        have E_w0_e187 := E_w0_e183.ext E187
        have E_w1_e187 := E_w1.ext E187
        have FnrunId_187 : Fld Z h187 b187 "com/example/deft_lock/deftlock/service/ServerInfo" "runId" "Ljava/lang/String;" .null := D187 (Or.inr (hw _ (List.mem_of_getElem? (i := 22) rfl))) (ty := (.object "java/lang/String")) (by decide)
        have FnuptimeSeconds_187 : Fld Z h187 b187 "com/example/deft_lock/deftlock/service/ServerInfo" "uptimeSeconds" "J" (.long (0 : Int64)) := D187 (Or.inr (hw _ (List.mem_of_getElem? (i := 24) rfl))) (ty := .long) (by decide)
        have FnclockMicros_187 : Fld Z h187 b187 "com/example/deft_lock/deftlock/service/ServerInfo" "clockMicros" "J" (.long (0 : Int64)) := D187 (Or.inr (hw _ (List.mem_of_getElem? (i := 26) rfl))) (ty := .long) (by decide)
        have Fnrole_187 : Fld Z h187 b187 "com/example/deft_lock/deftlock/service/ServerInfo" "role" "Ljava/lang/String;" .null := D187 (Or.inr (hw _ (List.mem_of_getElem? (i := 28) rfl))) (ty := (.object "java/lang/String")) (by decide)
        have Fnmaster_187 : Fld Z h187 b187 "com/example/deft_lock/deftlock/service/ServerInfo" "master" "Ljava/lang/String;" .null := D187 (Or.inr (hw _ (List.mem_of_getElem? (i := 30) rfl))) (ty := (.object "java/lang/String")) (by decide)
        have FnconnectedReplicas_187 : Fld Z h187 b187 "com/example/deft_lock/deftlock/service/ServerInfo" "connectedReplicas" "J" (.long (0 : Int64)) := D187 (Or.inr (hw _ (List.mem_of_getElem? (i := 32) rfl))) (ty := .long) (by decide)
        refine own_toH (fun t k => st187 t k) ?_
        show own_FinH _ _ _ _ _ _ _ _ (T187.setTop (mkF m 65 #[.val (.int p1), .val (.long q1), .second, .val (.long q2), .second, .val (.long q3), .second, .val (.int p5), .val (.int p6), .val (.int (p1 &&& (3 : Int32))), .val (.ref w0), .val (.ref w1), .val .null, .val (.long u), .second, .unset, .unset, .unset, .unset] [(.ref b187)]))
        refine own_toH (fun t k => XS.dup X187.here hx rfl (hb hby at_65) rfl rfl k) ?_
        show own_FinH _ _ _ _ _ _ _ _ (T187.setTop (mkF m 66 #[.val (.int p1), .val (.long q1), .second, .val (.long q2), .second, .val (.long q3), .second, .val (.int p5), .val (.int p6), .val (.int (p1 &&& (3 : Int32))), .val (.ref w0), .val (.ref w1), .val .null, .val (.long u), .second, .unset, .unset, .unset, .unset] [(.ref b187), (.ref b187)]))
        refine own_toH (fun t k => XS.aload X187.here hx rfl (hb hby at_66) rfl rfl k) ?_
        show own_FinH _ _ _ _ _ _ _ _ (T187.setTop (mkF m 68 #[.val (.int p1), .val (.long q1), .second, .val (.long q2), .second, .val (.long q3), .second, .val (.int p5), .val (.int p6), .val (.int (p1 &&& (3 : Int32))), .val (.ref w0), .val (.ref w1), .val .null, .val (.long u), .second, .unset, .unset, .unset, .unset] [(.ref w0), (.ref b187), (.ref b187)]))
        refine own_toH (fun t k => XS.lload X187.here hx rfl (hb hby at_68) rfl k) ?_
        show own_FinH _ _ _ _ _ _ _ _ (T187.setTop (mkF m 70 #[.val (.int p1), .val (.long q1), .second, .val (.long q2), .second, .val (.long q3), .second, .val (.int p5), .val (.int p6), .val (.int (p1 &&& (3 : Int32))), .val (.ref w0), .val (.ref w1), .val .null, .val (.long u), .second, .unset, .unset, .unset, .unset] [(.long u), (.ref w0), (.ref b187), (.ref b187)]))
        refine own_toH (fun t k => XS.lloadN X187.here hx rfl (hb hby at_70) rfl k) ?_
        show own_FinH _ _ _ _ _ _ _ _ (T187.setTop (mkF m 71 #[.val (.int p1), .val (.long q1), .second, .val (.long q2), .second, .val (.long q3), .second, .val (.int p5), .val (.int p6), .val (.int (p1 &&& (3 : Int32))), .val (.ref w0), .val (.ref w1), .val .null, .val (.long u), .second, .unset, .unset, .unset, .unset] [(.long q2), (.long u), (.ref w0), (.ref b187), (.ref b187)]))
        refine own_toH (fun t k => XS.aload X187.here hx rfl (hb hby at_71) rfl rfl k) ?_
        show own_FinH _ _ _ _ _ _ _ _ (T187.setTop (mkF m 73 #[.val (.int p1), .val (.long q1), .second, .val (.long q2), .second, .val (.long q3), .second, .val (.int p5), .val (.int p6), .val (.int (p1 &&& (3 : Int32))), .val (.ref w0), .val (.ref w1), .val .null, .val (.long u), .second, .unset, .unset, .unset, .unset] [(.ref w1), (.long q2), (.long u), (.ref w0), (.ref b187), (.ref b187)]))
        refine own_toH (fun t k => XS.aload X187.here hx rfl (hb hby at_73) rfl rfl k) ?_
        show own_FinH _ _ _ _ _ _ _ _ (T187.setTop (mkF m 75 #[.val (.int p1), .val (.long q1), .second, .val (.long q2), .second, .val (.long q3), .second, .val (.int p5), .val (.int p6), .val (.int (p1 &&& (3 : Int32))), .val (.ref w0), .val (.ref w1), .val .null, .val (.long u), .second, .unset, .unset, .unset, .unset] [.null, (.ref w1), (.long q2), (.long u), (.ref w0), (.ref b187), (.ref b187)]))
        refine own_toH (fun t k => XS.lload X187.here hx rfl (hb hby at_75) rfl k) ?_
        show own_FinH _ _ _ _ _ _ _ _ (T187.setTop (mkF m 77 #[.val (.int p1), .val (.long q1), .second, .val (.long q2), .second, .val (.long q3), .second, .val (.int p5), .val (.int p6), .val (.int (p1 &&& (3 : Int32))), .val (.ref w0), .val (.ref w1), .val .null, .val (.long u), .second, .unset, .unset, .unset, .unset] [(.long q3), .null, (.ref w1), (.long q2), (.long u), (.ref w0), (.ref b187), (.ref b187)]))
        obtain ⟨_, _, ⟨T188, L188, k188, n188⟩, -, X188, ⟨Lc188, hQ188, l188, y188, z188⟩, st188⟩ := X187.specialBack hx (y := (⟨"com/example/deft_lock/deftlock/service/ServerInfo", "<init>", "(Ljava/lang/String;JJLjava/lang/String;Ljava/lang/String;J)V"⟩ : MethodName)) rfl hown (mvT hZ (hw _ (List.mem_of_getElem? (i := 10) rfl))) (mvT hZ (hw _ (List.mem_of_getElem? (i := 11) rfl))) (mvT hZ (hw _ (List.mem_of_getElem? (i := 12) rfl))) (by decide) (own_back (W := 1) (own_si3 l Z a0 hw [] b187 u q2 q3 w0 w1 h187 n0 (Nat.le_trans (Nat.le_trans (Nat.le_trans Z0 K165.1) K183.1) E187.1) A187 FnrunId_187 FnuptimeSeconds_187 FnclockMicros_187 Fnrole_187 Fnmaster_187 FnconnectedReplicas_187 g_b187) hZ (hw _ (List.mem_of_getElem? (i := 12) rfl)) (hw _ (List.mem_of_getElem? (i := 9) rfl)) (by decide) (by decide)) (g := (mkF m 77 #[.val (.int p1), .val (.long q1), .second, .val (.long q2), .second, .val (.long q3), .second, .val (.int p5), .val (.int p6), .val (.int (p1 &&& (3 : Int32))), .val (.ref w0), .val (.ref w1), .val .null, .val (.long u), .second, .unset, .unset, .unset, .unset] [(.long q3), .null, (.ref w1), (.long q2), (.long u), (.ref w0), (.ref b187), (.ref b187)])) rfl (by rw [hml]; rfl) (Steps.refl _) (a := b187) (argsL := [(.ref w0), (.long u), (.long q2), (.ref w1), .null, (.long q3)]) (rest := [(.ref b187)]) (lenOf own_pd8 rfl) rfl (by show 2 * 0 + _ ≤ _; exact Nat.le_of_eq rfl) (hb hby at_77) (fun _ _ => ⟨rfl, e187, (by decide : 13 + 0 ≤ _), (by decide : 30 + 0 ≤ _)⟩)
        dsimp only [Pt.U, Pt.locs, Pt.cells, Pt.slots] at X188 l188 y188 z188 st188 hQ188
        subst l188 y188 z188
        obtain ⟨rfl, N188q, K188, Fr1, Fu1⟩ := hQ188
        have N188 := Fr.app N186 N188q
        have hR188 := hR187.trans (CHr.keep K188 (sfS Sn_b187 sf0) hH187)
        have hH188 := CHv.keep K188 (sfS Sn_b187 sf0) hH187
        have Sf_b187_188 := Safe.keep K188 (sfS Sn_b187 sf0) hH187 Sn_b187
        have O188 := O187.keep K188 (allS g_b187 all0)
        have E_w0_e188 := E_w0_e187.keep K188
        have E_w1_e188 := E_w1_e187.keep K188
        have A187_e188 := A187.keep K188
        refine own_toH (fun t k => st188.trans k) ?_
        show own_FinH _ _ _ _ _ _ _ _ (T188.setTop (mkF m 80 #[.val (.int p1), .val (.long q1), .second, .val (.long q2), .second, .val (.long q3), .second, .val (.int p5), .val (.int p6), .val (.int (p1 &&& (3 : Int32))), .val (.ref w0), .val (.ref w1), .val .null, .val (.long u), .second, .unset, .unset, .unset, .unset] [(.ref b187)]))
        refine own_toH (fun t k => XS.astore X188.here hx rfl (hb hby at_80) rfl rfl (l' := #[.val (.int p1), .val (.long q1), .second, .val (.long q2), .second, .val (.long q3), .second, .val (.int p5), .val (.int p6), .val (.int (p1 &&& (3 : Int32))), .val (.ref w0), .val (.ref w1), .val .null, .val (.long u), .second, .val (.ref b187), .unset, .unset, .unset]) rfl k) ?_
        show own_FinH _ _ _ _ _ _ _ _ (T188.setTop (mkF m 82 #[.val (.int p1), .val (.long q1), .second, .val (.long q2), .second, .val (.long q3), .second, .val (.int p5), .val (.int p6), .val (.int (p1 &&& (3 : Int32))), .val (.ref w0), .val (.ref w1), .val .null, .val (.long u), .second, .val (.ref b187), .unset, .unset, .unset] []))
        refine own_toH (fun t k => XS.iload X188.here hx rfl (hb hby at_82) rfl k) ?_
        show own_FinH _ _ _ _ _ _ _ _ (T188.setTop (mkF m 84 #[.val (.int p1), .val (.long q1), .second, .val (.long q2), .second, .val (.long q3), .second, .val (.int p5), .val (.int p6), .val (.int (p1 &&& (3 : Int32))), .val (.ref w0), .val (.ref w1), .val .null, .val (.long u), .second, .val (.ref b187), .unset, .unset, .unset] [(.int (p1 &&& (3 : Int32)))]))
        refine own_toH (fun t k => XS.ifNo X188.here hx rfl (hb hby at_84) rfl ((if0 _ _).trans (feq hf130).1) k) ?_
        show own_FinH _ _ _ _ _ _ _ _ (T188.setTop (mkF m 87 #[.val (.int p1), .val (.long q1), .second, .val (.long q2), .second, .val (.long q3), .second, .val (.int p5), .val (.int p6), .val (.int (p1 &&& (3 : Int32))), .val (.ref w0), .val (.ref w1), .val .null, .val (.long u), .second, .val (.ref b187), .unset, .unset, .unset] []))
        refine own_toH (fun t k => XS.iconst X188.here hx rfl (hb hby at_87) k) ?_
        show own_FinH _ _ _ _ _ _ _ _ (T188.setTop (mkF m 88 #[.val (.int p1), .val (.long q1), .second, .val (.long q2), .second, .val (.long q3), .second, .val (.int p5), .val (.int p6), .val (.int (p1 &&& (3 : Int32))), .val (.ref w0), .val (.ref w1), .val .null, .val (.long u), .second, .val (.ref b187), .unset, .unset, .unset] [(.int (1 : Int32))]))
        refine own_toH (fun t k => XS.goto X188.here hx rfl (pc0 := 88) (pc' := 92) rfl (hb hby at_88) (by decide) (by decide) k) ?_
        show own_FinH _ _ _ _ _ _ _ _ (T188.setTop (mkF m 92 #[.val (.int p1), .val (.long q1), .second, .val (.long q2), .second, .val (.long q3), .second, .val (.int p5), .val (.int p6), .val (.int (p1 &&& (3 : Int32))), .val (.ref w0), .val (.ref w1), .val .null, .val (.long u), .second, .val (.ref b187), .unset, .unset, .unset] [(.int (1 : Int32))]))
        refine own_toH (fun t k => XS.istore X188.here hx rfl (hb hby at_92) rfl (l' := #[.val (.int p1), .val (.long q1), .second, .val (.long q2), .second, .val (.long q3), .second, .val (.int p5), .val (.int p6), .val (.int (p1 &&& (3 : Int32))), .val (.ref w0), .val (.ref w1), .val .null, .val (.long u), .second, .val (.ref b187), .val (.int (1 : Int32)), .unset, .unset]) rfl k) ?_
        show own_FinH _ _ _ _ _ _ _ _ (T188.setTop (mkF m 94 #[.val (.int p1), .val (.long q1), .second, .val (.long q2), .second, .val (.long q3), .second, .val (.int p5), .val (.int p6), .val (.int (p1 &&& (3 : Int32))), .val (.ref w0), .val (.ref w1), .val .null, .val (.long u), .second, .val (.ref b187), .val (.int (1 : Int32)), .unset, .unset] []))
        refine own_toH (fun t k => XS.lload X188.here hx rfl (hb hby at_94) rfl k) ?_
        show own_FinH _ _ _ _ _ _ _ _ (T188.setTop (mkF m 96 #[.val (.int p1), .val (.long q1), .second, .val (.long q2), .second, .val (.long q3), .second, .val (.int p5), .val (.int p6), .val (.int (p1 &&& (3 : Int32))), .val (.ref w0), .val (.ref w1), .val .null, .val (.long u), .second, .val (.ref b187), .val (.int (1 : Int32)), .unset, .unset] [(.long u)]))
        refine own_toH (fun t k => XS.bipush X188.here hx rfl (hb hby at_96) k) ?_
        show own_FinH _ _ _ _ _ _ _ _ (T188.setTop (mkF m 98 #[.val (.int p1), .val (.long q1), .second, .val (.long q2), .second, .val (.long q3), .second, .val (.int p5), .val (.int p6), .val (.int (p1 &&& (3 : Int32))), .val (.ref w0), .val (.ref w1), .val .null, .val (.long u), .second, .val (.ref b187), .val (.int (1 : Int32)), .unset, .unset] [(.int (63 : Int32)), (.long u)]))
        refine own_toH (fun t k => XS.lushr X188.here hx rfl (hb hby at_98) rfl k) ?_
        show own_FinH _ _ _ _ _ _ _ _ (T188.setTop (mkF m 99 #[.val (.int p1), .val (.long q1), .second, .val (.long q2), .second, .val (.long q3), .second, .val (.int p5), .val (.int p6), .val (.int (p1 &&& (3 : Int32))), .val (.ref w0), .val (.ref w1), .val .null, .val (.long u), .second, .val (.ref b187), .val (.int (1 : Int32)), .unset, .unset] [(.long ((u.toUInt64 >>> ((63 : Int32) &&& 0x3f).toInt64.toUInt64).toInt64))]))
        refine own_toH (fun t k => XS.lconst X188.here hx rfl (hb hby at_99) k) ?_
        show own_FinH _ _ _ _ _ _ _ _ (T188.setTop (mkF m 100 #[.val (.int p1), .val (.long q1), .second, .val (.long q2), .second, .val (.long q3), .second, .val (.int p5), .val (.int p6), .val (.int (p1 &&& (3 : Int32))), .val (.ref w0), .val (.ref w1), .val .null, .val (.long u), .second, .val (.ref b187), .val (.int (1 : Int32)), .unset, .unset] [(.long (0 : Int64)), (.long ((u.toUInt64 >>> ((63 : Int32) &&& 0x3f).toInt64.toUInt64).toInt64))]))
        refine own_toH (fun t k => XS.lcmp X188.here hx rfl (hb hby at_100) rfl k) ?_
        show own_FinH _ _ _ _ _ _ _ _ (T188.setTop (mkF m 101 #[.val (.int p1), .val (.long q1), .second, .val (.long q2), .second, .val (.long q3), .second, .val (.int p5), .val (.int p6), .val (.int (p1 &&& (3 : Int32))), .val (.ref w0), .val (.ref w1), .val .null, .val (.long u), .second, .val (.ref b187), .val (.int (1 : Int32)), .unset, .unset] [(.int (lcmpW ((u.toUInt64 >>> ((63 : Int32) &&& 0x3f).toInt64.toUInt64).toInt64) (0 : Int64)))]))
        by_cases hc101_189 : ((u.toUInt64 >>> ((63 : Int32) &&& 0x3f).toInt64.toUInt64).toInt64) = (0 : Int64)
        ·
          show own_FinH _ _ _ _ _ _ _ _ (T188.setTop (mkF m 101 #[.val (.int p1), .val (.long q1), .second, .val (.long q2), .second, .val (.long q3), .second, .val (.int p5), .val (.int p6), .val (.int (p1 &&& (3 : Int32))), .val (.ref w0), .val (.ref w1), .val .null, .val (.long u), .second, .val (.ref b187), .val (.int (1 : Int32)), .unset, .unset] [(.int (lcmpW ((u.toUInt64 >>> ((63 : Int32) &&& 0x3f).toInt64.toUInt64).toInt64) (0 : Int64)))]))
          refine own_toH (fun t k => XS.ifNo X188.here hx rfl (hb hby at_101) rfl ((if0 _ _).trans (teq ((lw_eq _ _).mpr hc101_189)).2) k) ?_
          show own_FinH _ _ _ _ _ _ _ _ (T188.setTop (mkF m 104 #[.val (.int p1), .val (.long q1), .second, .val (.long q2), .second, .val (.long q3), .second, .val (.int p5), .val (.int p6), .val (.int (p1 &&& (3 : Int32))), .val (.ref w0), .val (.ref w1), .val .null, .val (.long u), .second, .val (.ref b187), .val (.int (1 : Int32)), .unset, .unset] []))
          refine own_toH (fun t k => XS.iconst X188.here hx rfl (hb hby at_104) k) ?_
          show own_FinH _ _ _ _ _ _ _ _ (T188.setTop (mkF m 105 #[.val (.int p1), .val (.long q1), .second, .val (.long q2), .second, .val (.long q3), .second, .val (.int p5), .val (.int p6), .val (.int (p1 &&& (3 : Int32))), .val (.ref w0), .val (.ref w1), .val .null, .val (.long u), .second, .val (.ref b187), .val (.int (1 : Int32)), .unset, .unset] [(.int (1 : Int32))]))
          refine own_toH (fun t k => XS.goto X188.here hx rfl (pc0 := 105) (pc' := 109) rfl (hb hby at_105) (by decide) (by decide) k) ?_
          show own_FinH _ _ _ _ _ _ _ _ (T188.setTop (mkF m 109 #[.val (.int p1), .val (.long q1), .second, .val (.long q2), .second, .val (.long q3), .second, .val (.int p5), .val (.int p6), .val (.int (p1 &&& (3 : Int32))), .val (.ref w0), .val (.ref w1), .val .null, .val (.long u), .second, .val (.ref b187), .val (.int (1 : Int32)), .unset, .unset] [(.int (1 : Int32))]))
          refine own_toH (fun t k => XS.istore X188.here hx rfl (hb hby at_109) rfl (l' := #[.val (.int p1), .val (.long q1), .second, .val (.long q2), .second, .val (.long q3), .second, .val (.int p5), .val (.int p6), .val (.int (p1 &&& (3 : Int32))), .val (.ref w0), .val (.ref w1), .val .null, .val (.long u), .second, .val (.ref b187), .val (.int (1 : Int32)), .val (.int (1 : Int32)), .unset]) rfl k) ?_
          show own_FinH _ _ _ _ _ _ _ _ (T188.setTop (mkF m 111 #[.val (.int p1), .val (.long q1), .second, .val (.long q2), .second, .val (.long q3), .second, .val (.int p5), .val (.int p6), .val (.int (p1 &&& (3 : Int32))), .val (.ref w0), .val (.ref w1), .val .null, .val (.long u), .second, .val (.ref b187), .val (.int (1 : Int32)), .val (.int (1 : Int32)), .unset] []))
          refine own_toH (fun t k => XS.iconst X188.here hx rfl (hb hby at_111) k) ?_
          show own_FinH _ _ _ _ _ _ _ _ (T188.setTop (mkF m 112 #[.val (.int p1), .val (.long q1), .second, .val (.long q2), .second, .val (.long q3), .second, .val (.int p5), .val (.int p6), .val (.int (p1 &&& (3 : Int32))), .val (.ref w0), .val (.ref w1), .val .null, .val (.long u), .second, .val (.ref b187), .val (.int (1 : Int32)), .val (.int (1 : Int32)), .unset] [(.int (0 : Int32))]))
          refine own_toH (fun t k => XS.istore X188.here hx rfl (hb hby at_112) rfl (l' := #[.val (.int p1), .val (.long q1), .second, .val (.long q2), .second, .val (.long q3), .second, .val (.int p5), .val (.int p6), .val (.int (p1 &&& (3 : Int32))), .val (.ref w0), .val (.ref w1), .val .null, .val (.long u), .second, .val (.ref b187), .val (.int (1 : Int32)), .val (.int (1 : Int32)), .val (.int (0 : Int32))]) rfl k) ?_
          show own_FinH _ _ _ _ _ _ _ _ (T188.setTop (mkF m 114 #[.val (.int p1), .val (.long q1), .second, .val (.long q2), .second, .val (.long q3), .second, .val (.int p5), .val (.int p6), .val (.int (p1 &&& (3 : Int32))), .val (.ref w0), .val (.ref w1), .val .null, .val (.long u), .second, .val (.ref b187), .val (.int (1 : Int32)), .val (.int (1 : Int32)), .val (.int (0 : Int32))] []))
          refine own_toH (fun t k => XS.iload X188.here hx rfl (hb hby at_114) rfl k) ?_
          show own_FinH _ _ _ _ _ _ _ _ (T188.setTop (mkF m 116 #[.val (.int p1), .val (.long q1), .second, .val (.long q2), .second, .val (.long q3), .second, .val (.int p5), .val (.int p6), .val (.int (p1 &&& (3 : Int32))), .val (.ref w0), .val (.ref w1), .val .null, .val (.long u), .second, .val (.ref b187), .val (.int (1 : Int32)), .val (.int (1 : Int32)), .val (.int (0 : Int32))] [(.int (1 : Int32))]))
          refine own_toH (fun t k => XS.ifNo X188.here hx rfl (hb hby at_116) rfl ((if0 _ _).trans (feq (by decide)).1) k) ?_
          show own_FinH _ _ _ _ _ _ _ _ (T188.setTop (mkF m 119 #[.val (.int p1), .val (.long q1), .second, .val (.long q2), .second, .val (.long q3), .second, .val (.int p5), .val (.int p6), .val (.int (p1 &&& (3 : Int32))), .val (.ref w0), .val (.ref w1), .val .null, .val (.long u), .second, .val (.ref b187), .val (.int (1 : Int32)), .val (.int (1 : Int32)), .val (.int (0 : Int32))] []))
          refine own_toH (fun t k => XS.iload X188.here hx rfl (hb hby at_119) rfl k) ?_
          show own_FinH _ _ _ _ _ _ _ _ (T188.setTop (mkF m 121 #[.val (.int p1), .val (.long q1), .second, .val (.long q2), .second, .val (.long q3), .second, .val (.int p5), .val (.int p6), .val (.int (p1 &&& (3 : Int32))), .val (.ref w0), .val (.ref w1), .val .null, .val (.long u), .second, .val (.ref b187), .val (.int (1 : Int32)), .val (.int (1 : Int32)), .val (.int (0 : Int32))] [(.int (1 : Int32))]))
          refine own_toH (fun t k => XS.ifNo X188.here hx rfl (hb hby at_121) rfl ((if0 _ _).trans (feq (by decide)).1) k) ?_
          show own_FinH _ _ _ _ _ _ _ _ (T188.setTop (mkF m 124 #[.val (.int p1), .val (.long q1), .second, .val (.long q2), .second, .val (.long q3), .second, .val (.int p5), .val (.int p6), .val (.int (p1 &&& (3 : Int32))), .val (.ref w0), .val (.ref w1), .val .null, .val (.long u), .second, .val (.ref b187), .val (.int (1 : Int32)), .val (.int (1 : Int32)), .val (.int (0 : Int32))] []))
          refine own_toH (fun t k => XS.iconst X188.here hx rfl (hb hby at_124) k) ?_
          show own_FinH _ _ _ _ _ _ _ _ (T188.setTop (mkF m 125 #[.val (.int p1), .val (.long q1), .second, .val (.long q2), .second, .val (.long q3), .second, .val (.int p5), .val (.int p6), .val (.int (p1 &&& (3 : Int32))), .val (.ref w0), .val (.ref w1), .val .null, .val (.long u), .second, .val (.ref b187), .val (.int (1 : Int32)), .val (.int (1 : Int32)), .val (.int (0 : Int32))] [(.int (1 : Int32))]))
          refine own_toH (fun t k => XS.istore X188.here hx rfl (hb hby at_125) rfl (l' := #[.val (.int p1), .val (.long q1), .second, .val (.long q2), .second, .val (.long q3), .second, .val (.int p5), .val (.int p6), .val (.int (p1 &&& (3 : Int32))), .val (.ref w0), .val (.ref w1), .val .null, .val (.long u), .second, .val (.ref b187), .val (.int (1 : Int32)), .val (.int (1 : Int32)), .val (.int (1 : Int32))]) rfl k) ?_
          show own_FinH _ _ _ _ _ _ _ _ (T188.setTop (mkF m 127 #[.val (.int p1), .val (.long q1), .second, .val (.long q2), .second, .val (.long q3), .second, .val (.int p5), .val (.int p6), .val (.int (p1 &&& (3 : Int32))), .val (.ref w0), .val (.ref w1), .val .null, .val (.long u), .second, .val (.ref b187), .val (.int (1 : Int32)), .val (.int (1 : Int32)), .val (.int (1 : Int32))] []))
          refine own_toH (fun t k => XS.aload X188.here hx rfl (hb hby at_127) rfl rfl k) ?_
          show own_FinH _ _ _ _ _ _ _ _ (T188.setTop (mkF m 129 #[.val (.int p1), .val (.long q1), .second, .val (.long q2), .second, .val (.long q3), .second, .val (.int p5), .val (.int p6), .val (.int (p1 &&& (3 : Int32))), .val (.ref w0), .val (.ref w1), .val .null, .val (.long u), .second, .val (.ref b187), .val (.int (1 : Int32)), .val (.int (1 : Int32)), .val (.int (1 : Int32))] [(.ref b187)]))
          have htu : own_tu u = 1 := own_tu1 ((own_neg u).mp hc101_189)
          obtain ⟨cq190, kq190, q190a, q190b, q190c⟩ := isOf hZ rfl A187_e188
          obtain ⟨_, _, ⟨T190, L190, k190, n190⟩, -, X190, ⟨Lc190, hQ190, l190, y190, z190⟩, st190⟩ := X188.virtualBack hx (y := (⟨"com/example/deft_lock/deftlock/service/ServerInfo", "tellsUptime", "()Z"⟩ : MethodName)) (z := (⟨"com/example/deft_lock/deftlock/service/ServerInfo", "tellsUptime", "()Z"⟩ : MethodName)) hown (mvT hZ (hw _ (List.mem_of_getElem? (i := 33) rfl))) (mvT hZ (hw _ (List.mem_of_getElem? (i := 34) rfl))) (notFace_of_selects (args := #[]) (mvT hZ (hw _ (List.mem_of_getElem? (i := 36) rfl)))) (mvT hZ (hw _ (List.mem_of_getElem? (i := 36) rfl))) (mvT hZ (hw _ (List.mem_of_getElem? (i := 35) rfl))) (by decide) (own_back (W := 0) (own_tuR l Z a0 hw [] b187 w0 u T188.heap n0 (Nat.le_trans (Nat.le_trans (Nat.le_trans (Nat.le_trans Z0 K165.1) K183.1) E187.1) K188.1) Fr1 Fu1) hZ (hw _ (List.mem_of_getElem? (i := 37) rfl)) (hw _ (List.mem_of_getElem? (i := 9) rfl)) (by decide) (by decide)) q190a q190c (g := (mkF m 129 #[.val (.int p1), .val (.long q1), .second, .val (.long q2), .second, .val (.long q3), .second, .val (.int p5), .val (.int p6), .val (.int (p1 &&& (3 : Int32))), .val (.ref w0), .val (.ref w1), .val .null, .val (.long u), .second, .val (.ref b187), .val (.int (1 : Int32)), .val (.int (1 : Int32)), .val (.int (1 : Int32))] [(.ref b187)])) rfl (by rw [hml]; rfl) (Steps.refl _) (argsL := []) (rest := []) (lenOf own_pd9 rfl) rfl (by show 2 * 0 + _ ≤ _; exact Nat.le_of_eq rfl) (hb hby at_129) (fun _ _ => ⟨rfl, rfl, (by decide : 13 + 0 ≤ _), (by decide : 30 + 0 ≤ _)⟩)
          dsimp only [Pt.U, Pt.locs, Pt.cells, Pt.slots] at X190 l190 y190 z190 st190 hQ190
          subst l190 y190 z190
          obtain ⟨rfl, N190q, eh190⟩ := hQ190
          have N190 := Fr.app N188 N190q
          refine own_toH (fun t k => st190.trans k) ?_
          show own_FinH _ _ _ _ _ _ _ _ (T190.setTop (mkF m 132 #[.val (.int p1), .val (.long q1), .second, .val (.long q2), .second, .val (.long q3), .second, .val (.int p5), .val (.int p6), .val (.int (p1 &&& (3 : Int32))), .val (.ref w0), .val (.ref w1), .val .null, .val (.long u), .second, .val (.ref b187), .val (.int (1 : Int32)), .val (.int (1 : Int32)), .val (.int (1 : Int32))] [(.int (own_tu u))]))
          refine own_toH (fun t k => XS.iload X190.here hx rfl (hb hby at_132) rfl k) ?_
          show own_FinH _ _ _ _ _ _ _ _ (T190.setTop (mkF m 134 #[.val (.int p1), .val (.long q1), .second, .val (.long q2), .second, .val (.long q3), .second, .val (.int p5), .val (.int p6), .val (.int (p1 &&& (3 : Int32))), .val (.ref w0), .val (.ref w1), .val .null, .val (.long u), .second, .val (.ref b187), .val (.int (1 : Int32)), .val (.int (1 : Int32)), .val (.int (1 : Int32))] [(.int (1 : Int32)), (.int (own_tu u))]))
          refine own_toH (fun t k => XS.icmpNo X190.here hx rfl (hb hby at_134) rfl (teq htu).2 k) ?_
          show own_FinH _ _ _ _ _ _ _ _ (T190.setTop (mkF m 137 #[.val (.int p1), .val (.long q1), .second, .val (.long q2), .second, .val (.long q3), .second, .val (.int p5), .val (.int p6), .val (.int (p1 &&& (3 : Int32))), .val (.ref w0), .val (.ref w1), .val .null, .val (.long u), .second, .val (.ref b187), .val (.int (1 : Int32)), .val (.int (1 : Int32)), .val (.int (1 : Int32))] []))
          refine own_toH (fun t k => XS.iconst X190.here hx rfl (hb hby at_137) k) ?_
          show own_FinH _ _ _ _ _ _ _ _ (T190.setTop (mkF m 138 #[.val (.int p1), .val (.long q1), .second, .val (.long q2), .second, .val (.long q3), .second, .val (.int p5), .val (.int p6), .val (.int (p1 &&& (3 : Int32))), .val (.ref w0), .val (.ref w1), .val .null, .val (.long u), .second, .val (.ref b187), .val (.int (1 : Int32)), .val (.int (1 : Int32)), .val (.int (1 : Int32))] [(.int (1 : Int32))]))
          refine own_toH (fun t k => XS.goto X190.here hx rfl (pc0 := 138) (pc' := 142) rfl (hb hby at_138) (by decide) (by decide) k) ?_
          show own_FinH _ _ _ _ _ _ _ _ (T190.setTop (mkF m 142 #[.val (.int p1), .val (.long q1), .second, .val (.long q2), .second, .val (.long q3), .second, .val (.int p5), .val (.int p6), .val (.int (p1 &&& (3 : Int32))), .val (.ref w0), .val (.ref w1), .val .null, .val (.long u), .second, .val (.ref b187), .val (.int (1 : Int32)), .val (.int (1 : Int32)), .val (.int (1 : Int32))] [(.int (1 : Int32))]))
          refine own_retNH X190 hS183 (by rw [eh190]; exact (Nat.le_trans (Nat.le_trans (Nat.le_refl _) E187.1) K188.1)) hZ hEL (by rw [eh190]; exact hH188) (by rw [eh190]; exact hR188) hx hlk (t := .boolean) hret (by simp) (hb hby at_142) (by decide) (by decide) ?_
          try rw [eh190]
          exact ⟨rfl, N190⟩
        ·
          show own_FinH _ _ _ _ _ _ _ _ (T188.setTop (mkF m 101 #[.val (.int p1), .val (.long q1), .second, .val (.long q2), .second, .val (.long q3), .second, .val (.int p5), .val (.int p6), .val (.int (p1 &&& (3 : Int32))), .val (.ref w0), .val (.ref w1), .val .null, .val (.long u), .second, .val (.ref b187), .val (.int (1 : Int32)), .unset, .unset] [(.int (lcmpW ((u.toUInt64 >>> ((63 : Int32) &&& 0x3f).toInt64.toUInt64).toInt64) (0 : Int64)))]))
          refine own_toH (fun t k => XS.ifYes X188.here hx rfl (pc0 := 101) (pc' := 108) rfl (hb hby at_101) rfl ((if0 _ _).trans (feq (fun z => hc101_189 ((lw_eq _ _).mp z))).2) (by decide) (by decide) k) ?_
          show own_FinH _ _ _ _ _ _ _ _ (T188.setTop (mkF m 108 #[.val (.int p1), .val (.long q1), .second, .val (.long q2), .second, .val (.long q3), .second, .val (.int p5), .val (.int p6), .val (.int (p1 &&& (3 : Int32))), .val (.ref w0), .val (.ref w1), .val .null, .val (.long u), .second, .val (.ref b187), .val (.int (1 : Int32)), .unset, .unset] []))
          refine own_toH (fun t k => XS.iconst X188.here hx rfl (hb hby at_108) k) ?_
          show own_FinH _ _ _ _ _ _ _ _ (T188.setTop (mkF m 109 #[.val (.int p1), .val (.long q1), .second, .val (.long q2), .second, .val (.long q3), .second, .val (.int p5), .val (.int p6), .val (.int (p1 &&& (3 : Int32))), .val (.ref w0), .val (.ref w1), .val .null, .val (.long u), .second, .val (.ref b187), .val (.int (1 : Int32)), .unset, .unset] [(.int (0 : Int32))]))
          refine own_toH (fun t k => XS.istore X188.here hx rfl (hb hby at_109) rfl (l' := #[.val (.int p1), .val (.long q1), .second, .val (.long q2), .second, .val (.long q3), .second, .val (.int p5), .val (.int p6), .val (.int (p1 &&& (3 : Int32))), .val (.ref w0), .val (.ref w1), .val .null, .val (.long u), .second, .val (.ref b187), .val (.int (1 : Int32)), .val (.int (0 : Int32)), .unset]) rfl k) ?_
          show own_FinH _ _ _ _ _ _ _ _ (T188.setTop (mkF m 111 #[.val (.int p1), .val (.long q1), .second, .val (.long q2), .second, .val (.long q3), .second, .val (.int p5), .val (.int p6), .val (.int (p1 &&& (3 : Int32))), .val (.ref w0), .val (.ref w1), .val .null, .val (.long u), .second, .val (.ref b187), .val (.int (1 : Int32)), .val (.int (0 : Int32)), .unset] []))
          refine own_toH (fun t k => XS.iconst X188.here hx rfl (hb hby at_111) k) ?_
          show own_FinH _ _ _ _ _ _ _ _ (T188.setTop (mkF m 112 #[.val (.int p1), .val (.long q1), .second, .val (.long q2), .second, .val (.long q3), .second, .val (.int p5), .val (.int p6), .val (.int (p1 &&& (3 : Int32))), .val (.ref w0), .val (.ref w1), .val .null, .val (.long u), .second, .val (.ref b187), .val (.int (1 : Int32)), .val (.int (0 : Int32)), .unset] [(.int (0 : Int32))]))
          refine own_toH (fun t k => XS.istore X188.here hx rfl (hb hby at_112) rfl (l' := #[.val (.int p1), .val (.long q1), .second, .val (.long q2), .second, .val (.long q3), .second, .val (.int p5), .val (.int p6), .val (.int (p1 &&& (3 : Int32))), .val (.ref w0), .val (.ref w1), .val .null, .val (.long u), .second, .val (.ref b187), .val (.int (1 : Int32)), .val (.int (0 : Int32)), .val (.int (0 : Int32))]) rfl k) ?_
          show own_FinH _ _ _ _ _ _ _ _ (T188.setTop (mkF m 114 #[.val (.int p1), .val (.long q1), .second, .val (.long q2), .second, .val (.long q3), .second, .val (.int p5), .val (.int p6), .val (.int (p1 &&& (3 : Int32))), .val (.ref w0), .val (.ref w1), .val .null, .val (.long u), .second, .val (.ref b187), .val (.int (1 : Int32)), .val (.int (0 : Int32)), .val (.int (0 : Int32))] []))
          refine own_toH (fun t k => XS.iload X188.here hx rfl (hb hby at_114) rfl k) ?_
          show own_FinH _ _ _ _ _ _ _ _ (T188.setTop (mkF m 116 #[.val (.int p1), .val (.long q1), .second, .val (.long q2), .second, .val (.long q3), .second, .val (.int p5), .val (.int p6), .val (.int (p1 &&& (3 : Int32))), .val (.ref w0), .val (.ref w1), .val .null, .val (.long u), .second, .val (.ref b187), .val (.int (1 : Int32)), .val (.int (0 : Int32)), .val (.int (0 : Int32))] [(.int (1 : Int32))]))
          refine own_toH (fun t k => XS.ifNo X188.here hx rfl (hb hby at_116) rfl ((if0 _ _).trans (feq (by decide)).1) k) ?_
          show own_FinH _ _ _ _ _ _ _ _ (T188.setTop (mkF m 119 #[.val (.int p1), .val (.long q1), .second, .val (.long q2), .second, .val (.long q3), .second, .val (.int p5), .val (.int p6), .val (.int (p1 &&& (3 : Int32))), .val (.ref w0), .val (.ref w1), .val .null, .val (.long u), .second, .val (.ref b187), .val (.int (1 : Int32)), .val (.int (0 : Int32)), .val (.int (0 : Int32))] []))
          refine own_toH (fun t k => XS.iload X188.here hx rfl (hb hby at_119) rfl k) ?_
          show own_FinH _ _ _ _ _ _ _ _ (T188.setTop (mkF m 121 #[.val (.int p1), .val (.long q1), .second, .val (.long q2), .second, .val (.long q3), .second, .val (.int p5), .val (.int p6), .val (.int (p1 &&& (3 : Int32))), .val (.ref w0), .val (.ref w1), .val .null, .val (.long u), .second, .val (.ref b187), .val (.int (1 : Int32)), .val (.int (0 : Int32)), .val (.int (0 : Int32))] [(.int (0 : Int32))]))
          refine own_toH (fun t k => XS.ifYes X188.here hx rfl (pc0 := 121) (pc' := 127) rfl (hb hby at_121) rfl ((if0 _ _).trans (teq rfl).1) (by decide) (by decide) k) ?_
          show own_FinH _ _ _ _ _ _ _ _ (T188.setTop (mkF m 127 #[.val (.int p1), .val (.long q1), .second, .val (.long q2), .second, .val (.long q3), .second, .val (.int p5), .val (.int p6), .val (.int (p1 &&& (3 : Int32))), .val (.ref w0), .val (.ref w1), .val .null, .val (.long u), .second, .val (.ref b187), .val (.int (1 : Int32)), .val (.int (0 : Int32)), .val (.int (0 : Int32))] []))
          refine own_toH (fun t k => XS.aload X188.here hx rfl (hb hby at_127) rfl rfl k) ?_
          show own_FinH _ _ _ _ _ _ _ _ (T188.setTop (mkF m 129 #[.val (.int p1), .val (.long q1), .second, .val (.long q2), .second, .val (.long q3), .second, .val (.int p5), .val (.int p6), .val (.int (p1 &&& (3 : Int32))), .val (.ref w0), .val (.ref w1), .val .null, .val (.long u), .second, .val (.ref b187), .val (.int (1 : Int32)), .val (.int (0 : Int32)), .val (.int (0 : Int32))] [(.ref b187)]))
          have htu : own_tu u = 0 := own_tu0 (fun q => hc101_189 ((own_neg u).mpr q))
          obtain ⟨cq191, kq191, q191a, q191b, q191c⟩ := isOf hZ rfl A187_e188
          obtain ⟨_, _, ⟨T191, L191, k191, n191⟩, -, X191, ⟨Lc191, hQ191, l191, y191, z191⟩, st191⟩ := X188.virtualBack hx (y := (⟨"com/example/deft_lock/deftlock/service/ServerInfo", "tellsUptime", "()Z"⟩ : MethodName)) (z := (⟨"com/example/deft_lock/deftlock/service/ServerInfo", "tellsUptime", "()Z"⟩ : MethodName)) hown (mvT hZ (hw _ (List.mem_of_getElem? (i := 33) rfl))) (mvT hZ (hw _ (List.mem_of_getElem? (i := 34) rfl))) (notFace_of_selects (args := #[]) (mvT hZ (hw _ (List.mem_of_getElem? (i := 36) rfl)))) (mvT hZ (hw _ (List.mem_of_getElem? (i := 36) rfl))) (mvT hZ (hw _ (List.mem_of_getElem? (i := 35) rfl))) (by decide) (own_back (W := 0) (own_tuR l Z a0 hw [] b187 w0 u T188.heap n0 (Nat.le_trans (Nat.le_trans (Nat.le_trans (Nat.le_trans Z0 K165.1) K183.1) E187.1) K188.1) Fr1 Fu1) hZ (hw _ (List.mem_of_getElem? (i := 37) rfl)) (hw _ (List.mem_of_getElem? (i := 9) rfl)) (by decide) (by decide)) q191a q191c (g := (mkF m 129 #[.val (.int p1), .val (.long q1), .second, .val (.long q2), .second, .val (.long q3), .second, .val (.int p5), .val (.int p6), .val (.int (p1 &&& (3 : Int32))), .val (.ref w0), .val (.ref w1), .val .null, .val (.long u), .second, .val (.ref b187), .val (.int (1 : Int32)), .val (.int (0 : Int32)), .val (.int (0 : Int32))] [(.ref b187)])) rfl (by rw [hml]; rfl) (Steps.refl _) (argsL := []) (rest := []) (lenOf own_pd9 rfl) rfl (by show 2 * 0 + _ ≤ _; exact Nat.le_of_eq rfl) (hb hby at_129) (fun _ _ => ⟨rfl, rfl, (by decide : 13 + 0 ≤ _), (by decide : 30 + 0 ≤ _)⟩)
          dsimp only [Pt.U, Pt.locs, Pt.cells, Pt.slots] at X191 l191 y191 z191 st191 hQ191
          subst l191 y191 z191
          obtain ⟨rfl, N191q, eh191⟩ := hQ191
          have N191 := Fr.app N188 N191q
          refine own_toH (fun t k => st191.trans k) ?_
          show own_FinH _ _ _ _ _ _ _ _ (T191.setTop (mkF m 132 #[.val (.int p1), .val (.long q1), .second, .val (.long q2), .second, .val (.long q3), .second, .val (.int p5), .val (.int p6), .val (.int (p1 &&& (3 : Int32))), .val (.ref w0), .val (.ref w1), .val .null, .val (.long u), .second, .val (.ref b187), .val (.int (1 : Int32)), .val (.int (0 : Int32)), .val (.int (0 : Int32))] [(.int (own_tu u))]))
          refine own_toH (fun t k => XS.iload X191.here hx rfl (hb hby at_132) rfl k) ?_
          show own_FinH _ _ _ _ _ _ _ _ (T191.setTop (mkF m 134 #[.val (.int p1), .val (.long q1), .second, .val (.long q2), .second, .val (.long q3), .second, .val (.int p5), .val (.int p6), .val (.int (p1 &&& (3 : Int32))), .val (.ref w0), .val (.ref w1), .val .null, .val (.long u), .second, .val (.ref b187), .val (.int (1 : Int32)), .val (.int (0 : Int32)), .val (.int (0 : Int32))] [(.int (0 : Int32)), (.int (own_tu u))]))
          refine own_toH (fun t k => XS.icmpNo X191.here hx rfl (hb hby at_134) rfl (teq htu).2 k) ?_
          show own_FinH _ _ _ _ _ _ _ _ (T191.setTop (mkF m 137 #[.val (.int p1), .val (.long q1), .second, .val (.long q2), .second, .val (.long q3), .second, .val (.int p5), .val (.int p6), .val (.int (p1 &&& (3 : Int32))), .val (.ref w0), .val (.ref w1), .val .null, .val (.long u), .second, .val (.ref b187), .val (.int (1 : Int32)), .val (.int (0 : Int32)), .val (.int (0 : Int32))] []))
          refine own_toH (fun t k => XS.iconst X191.here hx rfl (hb hby at_137) k) ?_
          show own_FinH _ _ _ _ _ _ _ _ (T191.setTop (mkF m 138 #[.val (.int p1), .val (.long q1), .second, .val (.long q2), .second, .val (.long q3), .second, .val (.int p5), .val (.int p6), .val (.int (p1 &&& (3 : Int32))), .val (.ref w0), .val (.ref w1), .val .null, .val (.long u), .second, .val (.ref b187), .val (.int (1 : Int32)), .val (.int (0 : Int32)), .val (.int (0 : Int32))] [(.int (1 : Int32))]))
          refine own_toH (fun t k => XS.goto X191.here hx rfl (pc0 := 138) (pc' := 142) rfl (hb hby at_138) (by decide) (by decide) k) ?_
          show own_FinH _ _ _ _ _ _ _ _ (T191.setTop (mkF m 142 #[.val (.int p1), .val (.long q1), .second, .val (.long q2), .second, .val (.long q3), .second, .val (.int p5), .val (.int p6), .val (.int (p1 &&& (3 : Int32))), .val (.ref w0), .val (.ref w1), .val .null, .val (.long u), .second, .val (.ref b187), .val (.int (1 : Int32)), .val (.int (0 : Int32)), .val (.int (0 : Int32))] [(.int (1 : Int32))]))
          refine own_retNH X191 hS183 (by rw [eh191]; exact (Nat.le_trans (Nat.le_trans (Nat.le_refl _) E187.1) K188.1)) hZ hEL (by rw [eh191]; exact hH188) (by rw [eh191]; exact hR188) hx hlk (t := .boolean) hret (by simp) (hb hby at_142) (by decide) (by decide) ?_
          try rw [eh191]
          exact ⟨rfl, N191⟩
      ·
        show own_FinH _ _ _ _ _ _ _ _ (T183.setTop (mkF m 45 #[.val (.int p1), .val (.long q1), .second, .val (.long q2), .second, .val (.long q3), .second, .val (.int p5), .val (.int p6), .val (.int (p1 &&& (3 : Int32))), .val (.ref w0), .val (.ref w1), .unset, .unset, .unset, .unset, .unset, .unset, .unset] [(.int ((p6.toUInt32 >>> ((8 : Int32) &&& 31).toUInt32).toInt32)), (.int ((p5.toUInt32 >>> ((8 : Int32) &&& 31).toUInt32).toInt32)), (.int (((p1.toUInt32 >>> ((4 : Int32) &&& 31).toUInt32).toInt32) &&& (3 : Int32)))]))
        obtain ⟨_, _, ⟨T192, L192, k192, n192⟩, -, X192, S192a, S192b, ⟨Lc192, hQ192, l192, y192, z192, hC192⟩, st192⟩ := callSS X183r hx (y := (⟨"com/example/deft_lock/deftlock/service/ServerInfoTellsUptimePinLaw", "drawn", "(III)Ljava/lang/String;"⟩ : MethodName)) hown (mvT hZ (hw _ (List.mem_of_getElem? (i := 0) rfl))) (mvT hZ (hw _ (List.mem_of_getElem? (i := 1) rfl))) (mvT hZ (hw _ (List.mem_of_getElem? (i := 2) rfl))) (mvT hZ (hw _ (List.mem_of_getElem? (i := 3) rfl))) (by decide) (own_backH (W := 0) (own_drR l Z a0 hw [] cs (((p1.toUInt32 >>> ((4 : Int32) &&& 31).toUInt32).toInt32) &&& (3 : Int32)) ((p5.toUInt32 >>> ((8 : Int32) &&& 31).toUInt32).toInt32) ((p6.toUInt32 >>> ((8 : Int32) &&& 31).toUInt32).toInt32) T183.heap n0 (Nat.le_trans (Nat.le_trans Z0 K165.1) K183.1) O183 SS hcs hf184) hZ (hw _ (List.mem_of_getElem? (i := 3) rfl)) (hw _ (List.mem_of_getElem? (i := 2) rfl)) (by decide) (by decide) hEL hH183 all0) (g := (mkF m 45 #[.val (.int p1), .val (.long q1), .second, .val (.long q2), .second, .val (.long q3), .second, .val (.int p5), .val (.int p6), .val (.int (p1 &&& (3 : Int32))), .val (.ref w0), .val (.ref w1), .unset, .unset, .unset, .unset, .unset, .unset, .unset] [(.int ((p6.toUInt32 >>> ((8 : Int32) &&& 31).toUInt32).toInt32)), (.int ((p5.toUInt32 >>> ((8 : Int32) &&& 31).toUInt32).toInt32)), (.int (((p1.toUInt32 >>> ((4 : Int32) &&& 31).toUInt32).toInt32) &&& (3 : Int32)))])) rfl (by rw [hml]; rfl) (argsL := [(.int (((p1.toUInt32 >>> ((4 : Int32) &&& 31).toUInt32).toInt32) &&& (3 : Int32))), (.int ((p5.toUInt32 >>> ((8 : Int32) &&& 31).toUInt32).toInt32)), (.int ((p6.toUInt32 >>> ((8 : Int32) &&& 31).toUInt32).toInt32))]) (rest := []) (lenOf own_pd6 rfl) rfl (by show 2 * 0 + _ ≤ _; exact Nat.le_of_eq rfl) (hb hby at_45) (fun _ _ => ⟨rfl, rfl, (by decide : 12 + 6 ≤ _), (by decide : 24 + 12 ≤ _)⟩)
        dsimp only [Pt.U, Pt.locs, Pt.cells, Pt.slots] at X192 l192 y192 z192 st192 hQ192 S192a S192b hC192
        subst l192 y192 z192
        obtain ⟨X192r, hS192, hZ, hown⟩ := rebS hS183 (n1 := T183.heap.size) (Nat.le_refl _) X192 S192a S192b hZ hown
        obtain ⟨w2, rfl, N192q, K192, g_w2, szx_w2, E_w2⟩ := hQ192
        have N192 := Fr.app N183 N192q
        have ne_w0_w2 : w0 ≠ w2 := Nat.ne_of_lt (Nat.lt_of_lt_of_le E_w0_e183.lt szx_w2)
        have ne_w1_w2 : w1 ≠ w2 := Nat.ne_of_lt (Nat.lt_of_lt_of_le E_w1.lt szx_w2)
        have hR192 := hR183.trans hC192
        have hH192 := hC192.1
        have O192 := O183.keep K192 all0
        have E_w0_e192 := E_w0_e183.keep K192
        have E_w1_e192 := E_w1.keep K192
        refine own_toH (fun t k => st192.trans k) ?_
        show own_FinH _ _ _ _ _ _ _ _ (T192.setTop (mkF m 48 #[.val (.int p1), .val (.long q1), .second, .val (.long q2), .second, .val (.long q3), .second, .val (.int p5), .val (.int p6), .val (.int (p1 &&& (3 : Int32))), .val (.ref w0), .val (.ref w1), .unset, .unset, .unset, .unset, .unset, .unset, .unset] [(.ref w2)]))
        refine own_toH (fun t k => XS.astore X192r.here hx rfl (hb hby at_48) rfl rfl (l' := #[.val (.int p1), .val (.long q1), .second, .val (.long q2), .second, .val (.long q3), .second, .val (.int p5), .val (.int p6), .val (.int (p1 &&& (3 : Int32))), .val (.ref w0), .val (.ref w1), .val (.ref w2), .unset, .unset, .unset, .unset, .unset, .unset]) rfl k) ?_
        show own_FinH _ _ _ _ _ _ _ _ (T192.setTop (mkF m 50 #[.val (.int p1), .val (.long q1), .second, .val (.long q2), .second, .val (.long q3), .second, .val (.int p5), .val (.int p6), .val (.int (p1 &&& (3 : Int32))), .val (.ref w0), .val (.ref w1), .val (.ref w2), .unset, .unset, .unset, .unset, .unset, .unset] []))
        refine own_toH (fun t k => XS.iloadN X192r.here hx rfl (hb hby at_50) rfl k) ?_
        show own_FinH _ _ _ _ _ _ _ _ (T192.setTop (mkF m 51 #[.val (.int p1), .val (.long q1), .second, .val (.long q2), .second, .val (.long q3), .second, .val (.int p5), .val (.int p6), .val (.int (p1 &&& (3 : Int32))), .val (.ref w0), .val (.ref w1), .val (.ref w2), .unset, .unset, .unset, .unset, .unset, .unset] [(.int p1)]))
        refine own_toH (fun t k => XS.bipush X192r.here hx rfl (hb hby at_51) k) ?_
        show own_FinH _ _ _ _ _ _ _ _ (T192.setTop (mkF m 53 #[.val (.int p1), .val (.long q1), .second, .val (.long q2), .second, .val (.long q3), .second, .val (.int p5), .val (.int p6), .val (.int (p1 &&& (3 : Int32))), .val (.ref w0), .val (.ref w1), .val (.ref w2), .unset, .unset, .unset, .unset, .unset, .unset] [(.int (6 : Int32)), (.int p1)]))
        refine own_toH (fun t k => XS.iushr X192r.here hx rfl (hb hby at_53) rfl k) ?_
        show own_FinH _ _ _ _ _ _ _ _ (T192.setTop (mkF m 54 #[.val (.int p1), .val (.long q1), .second, .val (.long q2), .second, .val (.long q3), .second, .val (.int p5), .val (.int p6), .val (.int (p1 &&& (3 : Int32))), .val (.ref w0), .val (.ref w1), .val (.ref w2), .unset, .unset, .unset, .unset, .unset, .unset] [(.int ((p1.toUInt32 >>> ((6 : Int32) &&& 31).toUInt32).toInt32))]))
        refine own_toH (fun t k => XS.iconst X192r.here hx rfl (hb hby at_54) k) ?_
        show own_FinH _ _ _ _ _ _ _ _ (T192.setTop (mkF m 55 #[.val (.int p1), .val (.long q1), .second, .val (.long q2), .second, .val (.long q3), .second, .val (.int p5), .val (.int p6), .val (.int (p1 &&& (3 : Int32))), .val (.ref w0), .val (.ref w1), .val (.ref w2), .unset, .unset, .unset, .unset, .unset, .unset] [(.int (3 : Int32)), (.int ((p1.toUInt32 >>> ((6 : Int32) &&& 31).toUInt32).toInt32))]))
        refine own_toH (fun t k => XS.iand X192r.here hx rfl (hb hby at_55) rfl k) ?_
        show own_FinH _ _ _ _ _ _ _ _ (T192.setTop (mkF m 56 #[.val (.int p1), .val (.long q1), .second, .val (.long q2), .second, .val (.long q3), .second, .val (.int p5), .val (.int p6), .val (.int (p1 &&& (3 : Int32))), .val (.ref w0), .val (.ref w1), .val (.ref w2), .unset, .unset, .unset, .unset, .unset, .unset] [(.int (((p1.toUInt32 >>> ((6 : Int32) &&& 31).toUInt32).toInt32) &&& (3 : Int32)))]))
        refine own_toH (fun t k => XS.lloadN X192r.here hx rfl (hb hby at_56) rfl k) ?_
        show own_FinH _ _ _ _ _ _ _ _ (T192.setTop (mkF m 57 #[.val (.int p1), .val (.long q1), .second, .val (.long q2), .second, .val (.long q3), .second, .val (.int p5), .val (.int p6), .val (.int (p1 &&& (3 : Int32))), .val (.ref w0), .val (.ref w1), .val (.ref w2), .unset, .unset, .unset, .unset, .unset, .unset] [(.long q1), (.int (((p1.toUInt32 >>> ((6 : Int32) &&& 31).toUInt32).toInt32) &&& (3 : Int32)))]))
        obtain ⟨_, _, ⟨T193, L193, k193, n193⟩, -, X193, ⟨Lc193, hQ193, l193, y193, z193⟩, st193⟩ := Jvm.LawKit.callS X192r hx (y := (⟨"com/example/deft_lock/deftlock/service/ServerInfoTellsUptimePinLaw", "pickUptime", "(IJ)J"⟩ : MethodName)) hown (mvT hZ (hw _ (List.mem_of_getElem? (i := 4) rfl))) (mvT hZ (hw _ (List.mem_of_getElem? (i := 5) rfl))) (mvT hZ (hw _ (List.mem_of_getElem? (i := 2) rfl))) (mvT hZ (hw _ (List.mem_of_getElem? (i := 6) rfl))) (by decide) (own_back (W := 0) (own_rm2 l Z a0 hw [] (((p1.toUInt32 >>> ((6 : Int32) &&& 31).toUInt32).toInt32) &&& (3 : Int32)) q1 T192.heap n0 (Nat.le_trans (Nat.le_trans (Nat.le_trans Z0 K165.1) K183.1) K192.1)) hZ (hw _ (List.mem_of_getElem? (i := 6) rfl)) (hw _ (List.mem_of_getElem? (i := 2) rfl)) (by decide) (by decide)) (g := (mkF m 57 #[.val (.int p1), .val (.long q1), .second, .val (.long q2), .second, .val (.long q3), .second, .val (.int p5), .val (.int p6), .val (.int (p1 &&& (3 : Int32))), .val (.ref w0), .val (.ref w1), .val (.ref w2), .unset, .unset, .unset, .unset, .unset, .unset] [(.long q1), (.int (((p1.toUInt32 >>> ((6 : Int32) &&& 31).toUInt32).toInt32) &&& (3 : Int32)))])) rfl (by rw [hml]; rfl) (argsL := [(.int (((p1.toUInt32 >>> ((6 : Int32) &&& 31).toUInt32).toInt32) &&& (3 : Int32))), (.long q1)]) (rest := []) (lenOf own_pd7 rfl) rfl (by show 2 * 0 + _ ≤ _; exact Nat.le_of_eq rfl) (hb hby at_57) (fun _ _ => ⟨rfl, rfl, (by decide : 18 + 0 ≤ _), (by decide : 36 + 0 ≤ _)⟩)
        dsimp only [Pt.U, Pt.locs, Pt.cells, Pt.slots] at X193 l193 y193 z193 st193 hQ193
        subst l193 y193 z193
        obtain ⟨rfl, N193q, eh193⟩ := hQ193
        have N193 := Fr.app N192 N193q
        refine own_toH (fun t k => st193 t k) ?_
        show own_FinH _ _ _ _ _ _ _ _ (T193.setTop (mkF m 60 #[.val (.int p1), .val (.long q1), .second, .val (.long q2), .second, .val (.long q3), .second, .val (.int p5), .val (.int p6), .val (.int (p1 &&& (3 : Int32))), .val (.ref w0), .val (.ref w1), .val (.ref w2), .unset, .unset, .unset, .unset, .unset, .unset] [(.long (own_pick (((p1.toUInt32 >>> ((6 : Int32) &&& 31).toUInt32).toInt32) &&& (3 : Int32)) q1))]))
        obtain ⟨u, eu⟩ : ∃ z, z = (own_pick (((p1.toUInt32 >>> ((6 : Int32) &&& 31).toUInt32).toInt32) &&& (3 : Int32)) q1) := ⟨_, rfl⟩
        rw [← eu]
        show own_FinH _ _ _ _ _ _ _ _ (T193.setTop (mkF m 60 #[.val (.int p1), .val (.long q1), .second, .val (.long q2), .second, .val (.long q3), .second, .val (.int p5), .val (.int p6), .val (.int (p1 &&& (3 : Int32))), .val (.ref w0), .val (.ref w1), .val (.ref w2), .unset, .unset, .unset, .unset, .unset, .unset] [(.long u)]))
        refine own_toH (fun t k => XS.lstore X193.here hx rfl (hb hby at_60) rfl (l' := #[.val (.int p1), .val (.long q1), .second, .val (.long q2), .second, .val (.long q3), .second, .val (.int p5), .val (.int p6), .val (.int (p1 &&& (3 : Int32))), .val (.ref w0), .val (.ref w1), .val (.ref w2), .val (.long u), .second, .unset, .unset, .unset, .unset]) rfl k) ?_
        show own_FinH _ _ _ _ _ _ _ _ (T193.setTop (mkF m 62 #[.val (.int p1), .val (.long q1), .second, .val (.long q2), .second, .val (.long q3), .second, .val (.int p5), .val (.int p6), .val (.int (p1 &&& (3 : Int32))), .val (.ref w0), .val (.ref w1), .val (.ref w2), .val (.long u), .second, .unset, .unset, .unset, .unset] []))
        obtain ⟨T194, h194, X194, e194, E194, A194, D194, U194, st194⟩ := newO X193 hx hZ hown (hw _ (List.mem_of_getElem? (i := 7) rfl)) (hw _ (List.mem_of_getElem? (i := 8) rfl)) (hw _ (List.mem_of_getElem? (i := 9) rfl)) eh193 (g := (mkF m 62 #[.val (.int p1), .val (.long q1), .second, .val (.long q2), .second, .val (.long q3), .second, .val (.int p5), .val (.int p6), .val (.int (p1 &&& (3 : Int32))), .val (.ref w0), .val (.ref w1), .val (.ref w2), .val (.long u), .second, .unset, .unset, .unset, .unset] [])) rfl (hb hby at_62) (by decide) (by decide)
        obtain ⟨b194, q194⟩ : ∃ z, z = T192.heap.size := ⟨_, rfl⟩
        rw [← q194] at A194 D194 U194 st194
        have ne_w0_b194 : w0 ≠ b194 := Nat.ne_of_lt (Nat.lt_of_lt_of_le E_w0_e192.lt (Nat.le_of_eq q194.symm))
        have ne_w1_b194 : w1 ≠ b194 := Nat.ne_of_lt (Nat.lt_of_lt_of_le E_w1_e192.lt (Nat.le_of_eq q194.symm))
        have ne_w2_b194 : w2 ≠ b194 := Nat.ne_of_lt (Nat.lt_of_lt_of_le E_w2.lt (Nat.le_of_eq q194.symm))
        have g_b194 : n0 ≤ b194 := Nat.le_trans (Nat.le_trans (Nat.le_trans (Nat.le_trans Z0 K165.1) K183.1) K192.1) (Nat.le_of_eq q194.symm)
        have Sn_b194 : Safe Z own_EL _ h194 b194 := Safe.ext E194 hH192 (Safe.new (Nat.le_of_eq q194.symm))
        have hR194 := hR192.trans (CHr.ext E194 hH192)
        have hH194 := hH192.ext E194
        have O194 := O192.ext E194
        have E_w0_e194 := E_w0_e192.ext E194
        have E_w1_e194 := E_w1_e192.ext E194
        have E_w2_e194 := E_w2.ext E194
        have FnrunId_194 : Fld Z h194 b194 "com/example/deft_lock/deftlock/service/ServerInfo" "runId" "Ljava/lang/String;" .null := D194 (Or.inr (hw _ (List.mem_of_getElem? (i := 22) rfl))) (ty := (.object "java/lang/String")) (by decide)
        have FnuptimeSeconds_194 : Fld Z h194 b194 "com/example/deft_lock/deftlock/service/ServerInfo" "uptimeSeconds" "J" (.long (0 : Int64)) := D194 (Or.inr (hw _ (List.mem_of_getElem? (i := 24) rfl))) (ty := .long) (by decide)
        have FnclockMicros_194 : Fld Z h194 b194 "com/example/deft_lock/deftlock/service/ServerInfo" "clockMicros" "J" (.long (0 : Int64)) := D194 (Or.inr (hw _ (List.mem_of_getElem? (i := 26) rfl))) (ty := .long) (by decide)
        have Fnrole_194 : Fld Z h194 b194 "com/example/deft_lock/deftlock/service/ServerInfo" "role" "Ljava/lang/String;" .null := D194 (Or.inr (hw _ (List.mem_of_getElem? (i := 28) rfl))) (ty := (.object "java/lang/String")) (by decide)
        have Fnmaster_194 : Fld Z h194 b194 "com/example/deft_lock/deftlock/service/ServerInfo" "master" "Ljava/lang/String;" .null := D194 (Or.inr (hw _ (List.mem_of_getElem? (i := 30) rfl))) (ty := (.object "java/lang/String")) (by decide)
        have FnconnectedReplicas_194 : Fld Z h194 b194 "com/example/deft_lock/deftlock/service/ServerInfo" "connectedReplicas" "J" (.long (0 : Int64)) := D194 (Or.inr (hw _ (List.mem_of_getElem? (i := 32) rfl))) (ty := .long) (by decide)
        refine own_toH (fun t k => st194 t k) ?_
        show own_FinH _ _ _ _ _ _ _ _ (T194.setTop (mkF m 65 #[.val (.int p1), .val (.long q1), .second, .val (.long q2), .second, .val (.long q3), .second, .val (.int p5), .val (.int p6), .val (.int (p1 &&& (3 : Int32))), .val (.ref w0), .val (.ref w1), .val (.ref w2), .val (.long u), .second, .unset, .unset, .unset, .unset] [(.ref b194)]))
        refine own_toH (fun t k => XS.dup X194.here hx rfl (hb hby at_65) rfl rfl k) ?_
        show own_FinH _ _ _ _ _ _ _ _ (T194.setTop (mkF m 66 #[.val (.int p1), .val (.long q1), .second, .val (.long q2), .second, .val (.long q3), .second, .val (.int p5), .val (.int p6), .val (.int (p1 &&& (3 : Int32))), .val (.ref w0), .val (.ref w1), .val (.ref w2), .val (.long u), .second, .unset, .unset, .unset, .unset] [(.ref b194), (.ref b194)]))
        refine own_toH (fun t k => XS.aload X194.here hx rfl (hb hby at_66) rfl rfl k) ?_
        show own_FinH _ _ _ _ _ _ _ _ (T194.setTop (mkF m 68 #[.val (.int p1), .val (.long q1), .second, .val (.long q2), .second, .val (.long q3), .second, .val (.int p5), .val (.int p6), .val (.int (p1 &&& (3 : Int32))), .val (.ref w0), .val (.ref w1), .val (.ref w2), .val (.long u), .second, .unset, .unset, .unset, .unset] [(.ref w0), (.ref b194), (.ref b194)]))
        refine own_toH (fun t k => XS.lload X194.here hx rfl (hb hby at_68) rfl k) ?_
        show own_FinH _ _ _ _ _ _ _ _ (T194.setTop (mkF m 70 #[.val (.int p1), .val (.long q1), .second, .val (.long q2), .second, .val (.long q3), .second, .val (.int p5), .val (.int p6), .val (.int (p1 &&& (3 : Int32))), .val (.ref w0), .val (.ref w1), .val (.ref w2), .val (.long u), .second, .unset, .unset, .unset, .unset] [(.long u), (.ref w0), (.ref b194), (.ref b194)]))
        refine own_toH (fun t k => XS.lloadN X194.here hx rfl (hb hby at_70) rfl k) ?_
        show own_FinH _ _ _ _ _ _ _ _ (T194.setTop (mkF m 71 #[.val (.int p1), .val (.long q1), .second, .val (.long q2), .second, .val (.long q3), .second, .val (.int p5), .val (.int p6), .val (.int (p1 &&& (3 : Int32))), .val (.ref w0), .val (.ref w1), .val (.ref w2), .val (.long u), .second, .unset, .unset, .unset, .unset] [(.long q2), (.long u), (.ref w0), (.ref b194), (.ref b194)]))
        refine own_toH (fun t k => XS.aload X194.here hx rfl (hb hby at_71) rfl rfl k) ?_
        show own_FinH _ _ _ _ _ _ _ _ (T194.setTop (mkF m 73 #[.val (.int p1), .val (.long q1), .second, .val (.long q2), .second, .val (.long q3), .second, .val (.int p5), .val (.int p6), .val (.int (p1 &&& (3 : Int32))), .val (.ref w0), .val (.ref w1), .val (.ref w2), .val (.long u), .second, .unset, .unset, .unset, .unset] [(.ref w1), (.long q2), (.long u), (.ref w0), (.ref b194), (.ref b194)]))
        refine own_toH (fun t k => XS.aload X194.here hx rfl (hb hby at_73) rfl rfl k) ?_
        show own_FinH _ _ _ _ _ _ _ _ (T194.setTop (mkF m 75 #[.val (.int p1), .val (.long q1), .second, .val (.long q2), .second, .val (.long q3), .second, .val (.int p5), .val (.int p6), .val (.int (p1 &&& (3 : Int32))), .val (.ref w0), .val (.ref w1), .val (.ref w2), .val (.long u), .second, .unset, .unset, .unset, .unset] [(.ref w2), (.ref w1), (.long q2), (.long u), (.ref w0), (.ref b194), (.ref b194)]))
        refine own_toH (fun t k => XS.lload X194.here hx rfl (hb hby at_75) rfl k) ?_
        show own_FinH _ _ _ _ _ _ _ _ (T194.setTop (mkF m 77 #[.val (.int p1), .val (.long q1), .second, .val (.long q2), .second, .val (.long q3), .second, .val (.int p5), .val (.int p6), .val (.int (p1 &&& (3 : Int32))), .val (.ref w0), .val (.ref w1), .val (.ref w2), .val (.long u), .second, .unset, .unset, .unset, .unset] [(.long q3), (.ref w2), (.ref w1), (.long q2), (.long u), (.ref w0), (.ref b194), (.ref b194)]))
        obtain ⟨_, _, ⟨T195, L195, k195, n195⟩, -, X195, ⟨Lc195, hQ195, l195, y195, z195⟩, st195⟩ := X194.specialBack hx (y := (⟨"com/example/deft_lock/deftlock/service/ServerInfo", "<init>", "(Ljava/lang/String;JJLjava/lang/String;Ljava/lang/String;J)V"⟩ : MethodName)) rfl hown (mvT hZ (hw _ (List.mem_of_getElem? (i := 10) rfl))) (mvT hZ (hw _ (List.mem_of_getElem? (i := 11) rfl))) (mvT hZ (hw _ (List.mem_of_getElem? (i := 12) rfl))) (by decide) (own_back (W := 1) (own_si7 l Z a0 hw [] b194 u q2 q3 w0 w1 w2 h194 n0 (Nat.le_trans (Nat.le_trans (Nat.le_trans (Nat.le_trans Z0 K165.1) K183.1) K192.1) E194.1) A194 FnrunId_194 FnuptimeSeconds_194 FnclockMicros_194 Fnrole_194 Fnmaster_194 FnconnectedReplicas_194 g_b194) hZ (hw _ (List.mem_of_getElem? (i := 12) rfl)) (hw _ (List.mem_of_getElem? (i := 9) rfl)) (by decide) (by decide)) (g := (mkF m 77 #[.val (.int p1), .val (.long q1), .second, .val (.long q2), .second, .val (.long q3), .second, .val (.int p5), .val (.int p6), .val (.int (p1 &&& (3 : Int32))), .val (.ref w0), .val (.ref w1), .val (.ref w2), .val (.long u), .second, .unset, .unset, .unset, .unset] [(.long q3), (.ref w2), (.ref w1), (.long q2), (.long u), (.ref w0), (.ref b194), (.ref b194)])) rfl (by rw [hml]; rfl) (Steps.refl _) (a := b194) (argsL := [(.ref w0), (.long u), (.long q2), (.ref w1), (.ref w2), (.long q3)]) (rest := [(.ref b194)]) (lenOf own_pd8 rfl) rfl (by show 2 * 0 + _ ≤ _; exact Nat.le_of_eq rfl) (hb hby at_77) (fun _ _ => ⟨rfl, e194, (by decide : 19 + 0 ≤ _), (by decide : 42 + 0 ≤ _)⟩)
        dsimp only [Pt.U, Pt.locs, Pt.cells, Pt.slots] at X195 l195 y195 z195 st195 hQ195
        subst l195 y195 z195
        obtain ⟨rfl, N195q, K195, Fr1, Fu1⟩ := hQ195
        have N195 := Fr.app N193 N195q
        have hR195 := hR194.trans (CHr.keep K195 (sfS Sn_b194 sf0) hH194)
        have hH195 := CHv.keep K195 (sfS Sn_b194 sf0) hH194
        have Sf_b194_195 := Safe.keep K195 (sfS Sn_b194 sf0) hH194 Sn_b194
        have O195 := O194.keep K195 (allS g_b194 all0)
        have E_w0_e195 := E_w0_e194.keep K195
        have E_w1_e195 := E_w1_e194.keep K195
        have E_w2_e195 := E_w2_e194.keep K195
        have A194_e195 := A194.keep K195
        refine own_toH (fun t k => st195.trans k) ?_
        show own_FinH _ _ _ _ _ _ _ _ (T195.setTop (mkF m 80 #[.val (.int p1), .val (.long q1), .second, .val (.long q2), .second, .val (.long q3), .second, .val (.int p5), .val (.int p6), .val (.int (p1 &&& (3 : Int32))), .val (.ref w0), .val (.ref w1), .val (.ref w2), .val (.long u), .second, .unset, .unset, .unset, .unset] [(.ref b194)]))
        refine own_toH (fun t k => XS.astore X195.here hx rfl (hb hby at_80) rfl rfl (l' := #[.val (.int p1), .val (.long q1), .second, .val (.long q2), .second, .val (.long q3), .second, .val (.int p5), .val (.int p6), .val (.int (p1 &&& (3 : Int32))), .val (.ref w0), .val (.ref w1), .val (.ref w2), .val (.long u), .second, .val (.ref b194), .unset, .unset, .unset]) rfl k) ?_
        show own_FinH _ _ _ _ _ _ _ _ (T195.setTop (mkF m 82 #[.val (.int p1), .val (.long q1), .second, .val (.long q2), .second, .val (.long q3), .second, .val (.int p5), .val (.int p6), .val (.int (p1 &&& (3 : Int32))), .val (.ref w0), .val (.ref w1), .val (.ref w2), .val (.long u), .second, .val (.ref b194), .unset, .unset, .unset] []))
        refine own_toH (fun t k => XS.iload X195.here hx rfl (hb hby at_82) rfl k) ?_
        show own_FinH _ _ _ _ _ _ _ _ (T195.setTop (mkF m 84 #[.val (.int p1), .val (.long q1), .second, .val (.long q2), .second, .val (.long q3), .second, .val (.int p5), .val (.int p6), .val (.int (p1 &&& (3 : Int32))), .val (.ref w0), .val (.ref w1), .val (.ref w2), .val (.long u), .second, .val (.ref b194), .unset, .unset, .unset] [(.int (p1 &&& (3 : Int32)))]))
        refine own_toH (fun t k => XS.ifNo X195.here hx rfl (hb hby at_84) rfl ((if0 _ _).trans (feq hf130).1) k) ?_
        show own_FinH _ _ _ _ _ _ _ _ (T195.setTop (mkF m 87 #[.val (.int p1), .val (.long q1), .second, .val (.long q2), .second, .val (.long q3), .second, .val (.int p5), .val (.int p6), .val (.int (p1 &&& (3 : Int32))), .val (.ref w0), .val (.ref w1), .val (.ref w2), .val (.long u), .second, .val (.ref b194), .unset, .unset, .unset] []))
        refine own_toH (fun t k => XS.iconst X195.here hx rfl (hb hby at_87) k) ?_
        show own_FinH _ _ _ _ _ _ _ _ (T195.setTop (mkF m 88 #[.val (.int p1), .val (.long q1), .second, .val (.long q2), .second, .val (.long q3), .second, .val (.int p5), .val (.int p6), .val (.int (p1 &&& (3 : Int32))), .val (.ref w0), .val (.ref w1), .val (.ref w2), .val (.long u), .second, .val (.ref b194), .unset, .unset, .unset] [(.int (1 : Int32))]))
        refine own_toH (fun t k => XS.goto X195.here hx rfl (pc0 := 88) (pc' := 92) rfl (hb hby at_88) (by decide) (by decide) k) ?_
        show own_FinH _ _ _ _ _ _ _ _ (T195.setTop (mkF m 92 #[.val (.int p1), .val (.long q1), .second, .val (.long q2), .second, .val (.long q3), .second, .val (.int p5), .val (.int p6), .val (.int (p1 &&& (3 : Int32))), .val (.ref w0), .val (.ref w1), .val (.ref w2), .val (.long u), .second, .val (.ref b194), .unset, .unset, .unset] [(.int (1 : Int32))]))
        refine own_toH (fun t k => XS.istore X195.here hx rfl (hb hby at_92) rfl (l' := #[.val (.int p1), .val (.long q1), .second, .val (.long q2), .second, .val (.long q3), .second, .val (.int p5), .val (.int p6), .val (.int (p1 &&& (3 : Int32))), .val (.ref w0), .val (.ref w1), .val (.ref w2), .val (.long u), .second, .val (.ref b194), .val (.int (1 : Int32)), .unset, .unset]) rfl k) ?_
        show own_FinH _ _ _ _ _ _ _ _ (T195.setTop (mkF m 94 #[.val (.int p1), .val (.long q1), .second, .val (.long q2), .second, .val (.long q3), .second, .val (.int p5), .val (.int p6), .val (.int (p1 &&& (3 : Int32))), .val (.ref w0), .val (.ref w1), .val (.ref w2), .val (.long u), .second, .val (.ref b194), .val (.int (1 : Int32)), .unset, .unset] []))
        refine own_toH (fun t k => XS.lload X195.here hx rfl (hb hby at_94) rfl k) ?_
        show own_FinH _ _ _ _ _ _ _ _ (T195.setTop (mkF m 96 #[.val (.int p1), .val (.long q1), .second, .val (.long q2), .second, .val (.long q3), .second, .val (.int p5), .val (.int p6), .val (.int (p1 &&& (3 : Int32))), .val (.ref w0), .val (.ref w1), .val (.ref w2), .val (.long u), .second, .val (.ref b194), .val (.int (1 : Int32)), .unset, .unset] [(.long u)]))
        refine own_toH (fun t k => XS.bipush X195.here hx rfl (hb hby at_96) k) ?_
        show own_FinH _ _ _ _ _ _ _ _ (T195.setTop (mkF m 98 #[.val (.int p1), .val (.long q1), .second, .val (.long q2), .second, .val (.long q3), .second, .val (.int p5), .val (.int p6), .val (.int (p1 &&& (3 : Int32))), .val (.ref w0), .val (.ref w1), .val (.ref w2), .val (.long u), .second, .val (.ref b194), .val (.int (1 : Int32)), .unset, .unset] [(.int (63 : Int32)), (.long u)]))
        refine own_toH (fun t k => XS.lushr X195.here hx rfl (hb hby at_98) rfl k) ?_
        show own_FinH _ _ _ _ _ _ _ _ (T195.setTop (mkF m 99 #[.val (.int p1), .val (.long q1), .second, .val (.long q2), .second, .val (.long q3), .second, .val (.int p5), .val (.int p6), .val (.int (p1 &&& (3 : Int32))), .val (.ref w0), .val (.ref w1), .val (.ref w2), .val (.long u), .second, .val (.ref b194), .val (.int (1 : Int32)), .unset, .unset] [(.long ((u.toUInt64 >>> ((63 : Int32) &&& 0x3f).toInt64.toUInt64).toInt64))]))
        refine own_toH (fun t k => XS.lconst X195.here hx rfl (hb hby at_99) k) ?_
        show own_FinH _ _ _ _ _ _ _ _ (T195.setTop (mkF m 100 #[.val (.int p1), .val (.long q1), .second, .val (.long q2), .second, .val (.long q3), .second, .val (.int p5), .val (.int p6), .val (.int (p1 &&& (3 : Int32))), .val (.ref w0), .val (.ref w1), .val (.ref w2), .val (.long u), .second, .val (.ref b194), .val (.int (1 : Int32)), .unset, .unset] [(.long (0 : Int64)), (.long ((u.toUInt64 >>> ((63 : Int32) &&& 0x3f).toInt64.toUInt64).toInt64))]))
        refine own_toH (fun t k => XS.lcmp X195.here hx rfl (hb hby at_100) rfl k) ?_
        show own_FinH _ _ _ _ _ _ _ _ (T195.setTop (mkF m 101 #[.val (.int p1), .val (.long q1), .second, .val (.long q2), .second, .val (.long q3), .second, .val (.int p5), .val (.int p6), .val (.int (p1 &&& (3 : Int32))), .val (.ref w0), .val (.ref w1), .val (.ref w2), .val (.long u), .second, .val (.ref b194), .val (.int (1 : Int32)), .unset, .unset] [(.int (lcmpW ((u.toUInt64 >>> ((63 : Int32) &&& 0x3f).toInt64.toUInt64).toInt64) (0 : Int64)))]))
        by_cases hc101_196 : ((u.toUInt64 >>> ((63 : Int32) &&& 0x3f).toInt64.toUInt64).toInt64) = (0 : Int64)
        ·
          show own_FinH _ _ _ _ _ _ _ _ (T195.setTop (mkF m 101 #[.val (.int p1), .val (.long q1), .second, .val (.long q2), .second, .val (.long q3), .second, .val (.int p5), .val (.int p6), .val (.int (p1 &&& (3 : Int32))), .val (.ref w0), .val (.ref w1), .val (.ref w2), .val (.long u), .second, .val (.ref b194), .val (.int (1 : Int32)), .unset, .unset] [(.int (lcmpW ((u.toUInt64 >>> ((63 : Int32) &&& 0x3f).toInt64.toUInt64).toInt64) (0 : Int64)))]))
          refine own_toH (fun t k => XS.ifNo X195.here hx rfl (hb hby at_101) rfl ((if0 _ _).trans (teq ((lw_eq _ _).mpr hc101_196)).2) k) ?_
          show own_FinH _ _ _ _ _ _ _ _ (T195.setTop (mkF m 104 #[.val (.int p1), .val (.long q1), .second, .val (.long q2), .second, .val (.long q3), .second, .val (.int p5), .val (.int p6), .val (.int (p1 &&& (3 : Int32))), .val (.ref w0), .val (.ref w1), .val (.ref w2), .val (.long u), .second, .val (.ref b194), .val (.int (1 : Int32)), .unset, .unset] []))
          refine own_toH (fun t k => XS.iconst X195.here hx rfl (hb hby at_104) k) ?_
          show own_FinH _ _ _ _ _ _ _ _ (T195.setTop (mkF m 105 #[.val (.int p1), .val (.long q1), .second, .val (.long q2), .second, .val (.long q3), .second, .val (.int p5), .val (.int p6), .val (.int (p1 &&& (3 : Int32))), .val (.ref w0), .val (.ref w1), .val (.ref w2), .val (.long u), .second, .val (.ref b194), .val (.int (1 : Int32)), .unset, .unset] [(.int (1 : Int32))]))
          refine own_toH (fun t k => XS.goto X195.here hx rfl (pc0 := 105) (pc' := 109) rfl (hb hby at_105) (by decide) (by decide) k) ?_
          show own_FinH _ _ _ _ _ _ _ _ (T195.setTop (mkF m 109 #[.val (.int p1), .val (.long q1), .second, .val (.long q2), .second, .val (.long q3), .second, .val (.int p5), .val (.int p6), .val (.int (p1 &&& (3 : Int32))), .val (.ref w0), .val (.ref w1), .val (.ref w2), .val (.long u), .second, .val (.ref b194), .val (.int (1 : Int32)), .unset, .unset] [(.int (1 : Int32))]))
          refine own_toH (fun t k => XS.istore X195.here hx rfl (hb hby at_109) rfl (l' := #[.val (.int p1), .val (.long q1), .second, .val (.long q2), .second, .val (.long q3), .second, .val (.int p5), .val (.int p6), .val (.int (p1 &&& (3 : Int32))), .val (.ref w0), .val (.ref w1), .val (.ref w2), .val (.long u), .second, .val (.ref b194), .val (.int (1 : Int32)), .val (.int (1 : Int32)), .unset]) rfl k) ?_
          show own_FinH _ _ _ _ _ _ _ _ (T195.setTop (mkF m 111 #[.val (.int p1), .val (.long q1), .second, .val (.long q2), .second, .val (.long q3), .second, .val (.int p5), .val (.int p6), .val (.int (p1 &&& (3 : Int32))), .val (.ref w0), .val (.ref w1), .val (.ref w2), .val (.long u), .second, .val (.ref b194), .val (.int (1 : Int32)), .val (.int (1 : Int32)), .unset] []))
          refine own_toH (fun t k => XS.iconst X195.here hx rfl (hb hby at_111) k) ?_
          show own_FinH _ _ _ _ _ _ _ _ (T195.setTop (mkF m 112 #[.val (.int p1), .val (.long q1), .second, .val (.long q2), .second, .val (.long q3), .second, .val (.int p5), .val (.int p6), .val (.int (p1 &&& (3 : Int32))), .val (.ref w0), .val (.ref w1), .val (.ref w2), .val (.long u), .second, .val (.ref b194), .val (.int (1 : Int32)), .val (.int (1 : Int32)), .unset] [(.int (0 : Int32))]))
          refine own_toH (fun t k => XS.istore X195.here hx rfl (hb hby at_112) rfl (l' := #[.val (.int p1), .val (.long q1), .second, .val (.long q2), .second, .val (.long q3), .second, .val (.int p5), .val (.int p6), .val (.int (p1 &&& (3 : Int32))), .val (.ref w0), .val (.ref w1), .val (.ref w2), .val (.long u), .second, .val (.ref b194), .val (.int (1 : Int32)), .val (.int (1 : Int32)), .val (.int (0 : Int32))]) rfl k) ?_
          show own_FinH _ _ _ _ _ _ _ _ (T195.setTop (mkF m 114 #[.val (.int p1), .val (.long q1), .second, .val (.long q2), .second, .val (.long q3), .second, .val (.int p5), .val (.int p6), .val (.int (p1 &&& (3 : Int32))), .val (.ref w0), .val (.ref w1), .val (.ref w2), .val (.long u), .second, .val (.ref b194), .val (.int (1 : Int32)), .val (.int (1 : Int32)), .val (.int (0 : Int32))] []))
          refine own_toH (fun t k => XS.iload X195.here hx rfl (hb hby at_114) rfl k) ?_
          show own_FinH _ _ _ _ _ _ _ _ (T195.setTop (mkF m 116 #[.val (.int p1), .val (.long q1), .second, .val (.long q2), .second, .val (.long q3), .second, .val (.int p5), .val (.int p6), .val (.int (p1 &&& (3 : Int32))), .val (.ref w0), .val (.ref w1), .val (.ref w2), .val (.long u), .second, .val (.ref b194), .val (.int (1 : Int32)), .val (.int (1 : Int32)), .val (.int (0 : Int32))] [(.int (1 : Int32))]))
          refine own_toH (fun t k => XS.ifNo X195.here hx rfl (hb hby at_116) rfl ((if0 _ _).trans (feq (by decide)).1) k) ?_
          show own_FinH _ _ _ _ _ _ _ _ (T195.setTop (mkF m 119 #[.val (.int p1), .val (.long q1), .second, .val (.long q2), .second, .val (.long q3), .second, .val (.int p5), .val (.int p6), .val (.int (p1 &&& (3 : Int32))), .val (.ref w0), .val (.ref w1), .val (.ref w2), .val (.long u), .second, .val (.ref b194), .val (.int (1 : Int32)), .val (.int (1 : Int32)), .val (.int (0 : Int32))] []))
          refine own_toH (fun t k => XS.iload X195.here hx rfl (hb hby at_119) rfl k) ?_
          show own_FinH _ _ _ _ _ _ _ _ (T195.setTop (mkF m 121 #[.val (.int p1), .val (.long q1), .second, .val (.long q2), .second, .val (.long q3), .second, .val (.int p5), .val (.int p6), .val (.int (p1 &&& (3 : Int32))), .val (.ref w0), .val (.ref w1), .val (.ref w2), .val (.long u), .second, .val (.ref b194), .val (.int (1 : Int32)), .val (.int (1 : Int32)), .val (.int (0 : Int32))] [(.int (1 : Int32))]))
          refine own_toH (fun t k => XS.ifNo X195.here hx rfl (hb hby at_121) rfl ((if0 _ _).trans (feq (by decide)).1) k) ?_
          show own_FinH _ _ _ _ _ _ _ _ (T195.setTop (mkF m 124 #[.val (.int p1), .val (.long q1), .second, .val (.long q2), .second, .val (.long q3), .second, .val (.int p5), .val (.int p6), .val (.int (p1 &&& (3 : Int32))), .val (.ref w0), .val (.ref w1), .val (.ref w2), .val (.long u), .second, .val (.ref b194), .val (.int (1 : Int32)), .val (.int (1 : Int32)), .val (.int (0 : Int32))] []))
          refine own_toH (fun t k => XS.iconst X195.here hx rfl (hb hby at_124) k) ?_
          show own_FinH _ _ _ _ _ _ _ _ (T195.setTop (mkF m 125 #[.val (.int p1), .val (.long q1), .second, .val (.long q2), .second, .val (.long q3), .second, .val (.int p5), .val (.int p6), .val (.int (p1 &&& (3 : Int32))), .val (.ref w0), .val (.ref w1), .val (.ref w2), .val (.long u), .second, .val (.ref b194), .val (.int (1 : Int32)), .val (.int (1 : Int32)), .val (.int (0 : Int32))] [(.int (1 : Int32))]))
          refine own_toH (fun t k => XS.istore X195.here hx rfl (hb hby at_125) rfl (l' := #[.val (.int p1), .val (.long q1), .second, .val (.long q2), .second, .val (.long q3), .second, .val (.int p5), .val (.int p6), .val (.int (p1 &&& (3 : Int32))), .val (.ref w0), .val (.ref w1), .val (.ref w2), .val (.long u), .second, .val (.ref b194), .val (.int (1 : Int32)), .val (.int (1 : Int32)), .val (.int (1 : Int32))]) rfl k) ?_
          show own_FinH _ _ _ _ _ _ _ _ (T195.setTop (mkF m 127 #[.val (.int p1), .val (.long q1), .second, .val (.long q2), .second, .val (.long q3), .second, .val (.int p5), .val (.int p6), .val (.int (p1 &&& (3 : Int32))), .val (.ref w0), .val (.ref w1), .val (.ref w2), .val (.long u), .second, .val (.ref b194), .val (.int (1 : Int32)), .val (.int (1 : Int32)), .val (.int (1 : Int32))] []))
          refine own_toH (fun t k => XS.aload X195.here hx rfl (hb hby at_127) rfl rfl k) ?_
          show own_FinH _ _ _ _ _ _ _ _ (T195.setTop (mkF m 129 #[.val (.int p1), .val (.long q1), .second, .val (.long q2), .second, .val (.long q3), .second, .val (.int p5), .val (.int p6), .val (.int (p1 &&& (3 : Int32))), .val (.ref w0), .val (.ref w1), .val (.ref w2), .val (.long u), .second, .val (.ref b194), .val (.int (1 : Int32)), .val (.int (1 : Int32)), .val (.int (1 : Int32))] [(.ref b194)]))
          have htu : own_tu u = 1 := own_tu1 ((own_neg u).mp hc101_196)
          obtain ⟨cq197, kq197, q197a, q197b, q197c⟩ := isOf hZ rfl A194_e195
          obtain ⟨_, _, ⟨T197, L197, k197, n197⟩, -, X197, ⟨Lc197, hQ197, l197, y197, z197⟩, st197⟩ := X195.virtualBack hx (y := (⟨"com/example/deft_lock/deftlock/service/ServerInfo", "tellsUptime", "()Z"⟩ : MethodName)) (z := (⟨"com/example/deft_lock/deftlock/service/ServerInfo", "tellsUptime", "()Z"⟩ : MethodName)) hown (mvT hZ (hw _ (List.mem_of_getElem? (i := 33) rfl))) (mvT hZ (hw _ (List.mem_of_getElem? (i := 34) rfl))) (notFace_of_selects (args := #[]) (mvT hZ (hw _ (List.mem_of_getElem? (i := 36) rfl)))) (mvT hZ (hw _ (List.mem_of_getElem? (i := 36) rfl))) (mvT hZ (hw _ (List.mem_of_getElem? (i := 35) rfl))) (by decide) (own_back (W := 0) (own_tuR l Z a0 hw [] b194 w0 u T195.heap n0 (Nat.le_trans (Nat.le_trans (Nat.le_trans (Nat.le_trans (Nat.le_trans Z0 K165.1) K183.1) K192.1) E194.1) K195.1) Fr1 Fu1) hZ (hw _ (List.mem_of_getElem? (i := 37) rfl)) (hw _ (List.mem_of_getElem? (i := 9) rfl)) (by decide) (by decide)) q197a q197c (g := (mkF m 129 #[.val (.int p1), .val (.long q1), .second, .val (.long q2), .second, .val (.long q3), .second, .val (.int p5), .val (.int p6), .val (.int (p1 &&& (3 : Int32))), .val (.ref w0), .val (.ref w1), .val (.ref w2), .val (.long u), .second, .val (.ref b194), .val (.int (1 : Int32)), .val (.int (1 : Int32)), .val (.int (1 : Int32))] [(.ref b194)])) rfl (by rw [hml]; rfl) (Steps.refl _) (argsL := []) (rest := []) (lenOf own_pd9 rfl) rfl (by show 2 * 0 + _ ≤ _; exact Nat.le_of_eq rfl) (hb hby at_129) (fun _ _ => ⟨rfl, rfl, (by decide : 19 + 0 ≤ _), (by decide : 42 + 0 ≤ _)⟩)
          dsimp only [Pt.U, Pt.locs, Pt.cells, Pt.slots] at X197 l197 y197 z197 st197 hQ197
          subst l197 y197 z197
          obtain ⟨rfl, N197q, eh197⟩ := hQ197
          have N197 := Fr.app N195 N197q
          refine own_toH (fun t k => st197.trans k) ?_
          show own_FinH _ _ _ _ _ _ _ _ (T197.setTop (mkF m 132 #[.val (.int p1), .val (.long q1), .second, .val (.long q2), .second, .val (.long q3), .second, .val (.int p5), .val (.int p6), .val (.int (p1 &&& (3 : Int32))), .val (.ref w0), .val (.ref w1), .val (.ref w2), .val (.long u), .second, .val (.ref b194), .val (.int (1 : Int32)), .val (.int (1 : Int32)), .val (.int (1 : Int32))] [(.int (own_tu u))]))
          refine own_toH (fun t k => XS.iload X197.here hx rfl (hb hby at_132) rfl k) ?_
          show own_FinH _ _ _ _ _ _ _ _ (T197.setTop (mkF m 134 #[.val (.int p1), .val (.long q1), .second, .val (.long q2), .second, .val (.long q3), .second, .val (.int p5), .val (.int p6), .val (.int (p1 &&& (3 : Int32))), .val (.ref w0), .val (.ref w1), .val (.ref w2), .val (.long u), .second, .val (.ref b194), .val (.int (1 : Int32)), .val (.int (1 : Int32)), .val (.int (1 : Int32))] [(.int (1 : Int32)), (.int (own_tu u))]))
          refine own_toH (fun t k => XS.icmpNo X197.here hx rfl (hb hby at_134) rfl (teq htu).2 k) ?_
          show own_FinH _ _ _ _ _ _ _ _ (T197.setTop (mkF m 137 #[.val (.int p1), .val (.long q1), .second, .val (.long q2), .second, .val (.long q3), .second, .val (.int p5), .val (.int p6), .val (.int (p1 &&& (3 : Int32))), .val (.ref w0), .val (.ref w1), .val (.ref w2), .val (.long u), .second, .val (.ref b194), .val (.int (1 : Int32)), .val (.int (1 : Int32)), .val (.int (1 : Int32))] []))
          refine own_toH (fun t k => XS.iconst X197.here hx rfl (hb hby at_137) k) ?_
          show own_FinH _ _ _ _ _ _ _ _ (T197.setTop (mkF m 138 #[.val (.int p1), .val (.long q1), .second, .val (.long q2), .second, .val (.long q3), .second, .val (.int p5), .val (.int p6), .val (.int (p1 &&& (3 : Int32))), .val (.ref w0), .val (.ref w1), .val (.ref w2), .val (.long u), .second, .val (.ref b194), .val (.int (1 : Int32)), .val (.int (1 : Int32)), .val (.int (1 : Int32))] [(.int (1 : Int32))]))
          refine own_toH (fun t k => XS.goto X197.here hx rfl (pc0 := 138) (pc' := 142) rfl (hb hby at_138) (by decide) (by decide) k) ?_
          show own_FinH _ _ _ _ _ _ _ _ (T197.setTop (mkF m 142 #[.val (.int p1), .val (.long q1), .second, .val (.long q2), .second, .val (.long q3), .second, .val (.int p5), .val (.int p6), .val (.int (p1 &&& (3 : Int32))), .val (.ref w0), .val (.ref w1), .val (.ref w2), .val (.long u), .second, .val (.ref b194), .val (.int (1 : Int32)), .val (.int (1 : Int32)), .val (.int (1 : Int32))] [(.int (1 : Int32))]))
          refine own_retNH X197 hS192 (by rw [eh197]; exact (Nat.le_trans (Nat.le_trans (Nat.le_refl _) E194.1) K195.1)) hZ hEL (by rw [eh197]; exact hH195) (by rw [eh197]; exact hR195) hx hlk (t := .boolean) hret (by simp) (hb hby at_142) (by decide) (by decide) ?_
          try rw [eh197]
          exact ⟨rfl, N197⟩
        ·
          show own_FinH _ _ _ _ _ _ _ _ (T195.setTop (mkF m 101 #[.val (.int p1), .val (.long q1), .second, .val (.long q2), .second, .val (.long q3), .second, .val (.int p5), .val (.int p6), .val (.int (p1 &&& (3 : Int32))), .val (.ref w0), .val (.ref w1), .val (.ref w2), .val (.long u), .second, .val (.ref b194), .val (.int (1 : Int32)), .unset, .unset] [(.int (lcmpW ((u.toUInt64 >>> ((63 : Int32) &&& 0x3f).toInt64.toUInt64).toInt64) (0 : Int64)))]))
          refine own_toH (fun t k => XS.ifYes X195.here hx rfl (pc0 := 101) (pc' := 108) rfl (hb hby at_101) rfl ((if0 _ _).trans (feq (fun z => hc101_196 ((lw_eq _ _).mp z))).2) (by decide) (by decide) k) ?_
          show own_FinH _ _ _ _ _ _ _ _ (T195.setTop (mkF m 108 #[.val (.int p1), .val (.long q1), .second, .val (.long q2), .second, .val (.long q3), .second, .val (.int p5), .val (.int p6), .val (.int (p1 &&& (3 : Int32))), .val (.ref w0), .val (.ref w1), .val (.ref w2), .val (.long u), .second, .val (.ref b194), .val (.int (1 : Int32)), .unset, .unset] []))
          refine own_toH (fun t k => XS.iconst X195.here hx rfl (hb hby at_108) k) ?_
          show own_FinH _ _ _ _ _ _ _ _ (T195.setTop (mkF m 109 #[.val (.int p1), .val (.long q1), .second, .val (.long q2), .second, .val (.long q3), .second, .val (.int p5), .val (.int p6), .val (.int (p1 &&& (3 : Int32))), .val (.ref w0), .val (.ref w1), .val (.ref w2), .val (.long u), .second, .val (.ref b194), .val (.int (1 : Int32)), .unset, .unset] [(.int (0 : Int32))]))
          refine own_toH (fun t k => XS.istore X195.here hx rfl (hb hby at_109) rfl (l' := #[.val (.int p1), .val (.long q1), .second, .val (.long q2), .second, .val (.long q3), .second, .val (.int p5), .val (.int p6), .val (.int (p1 &&& (3 : Int32))), .val (.ref w0), .val (.ref w1), .val (.ref w2), .val (.long u), .second, .val (.ref b194), .val (.int (1 : Int32)), .val (.int (0 : Int32)), .unset]) rfl k) ?_
          show own_FinH _ _ _ _ _ _ _ _ (T195.setTop (mkF m 111 #[.val (.int p1), .val (.long q1), .second, .val (.long q2), .second, .val (.long q3), .second, .val (.int p5), .val (.int p6), .val (.int (p1 &&& (3 : Int32))), .val (.ref w0), .val (.ref w1), .val (.ref w2), .val (.long u), .second, .val (.ref b194), .val (.int (1 : Int32)), .val (.int (0 : Int32)), .unset] []))
          refine own_toH (fun t k => XS.iconst X195.here hx rfl (hb hby at_111) k) ?_
          show own_FinH _ _ _ _ _ _ _ _ (T195.setTop (mkF m 112 #[.val (.int p1), .val (.long q1), .second, .val (.long q2), .second, .val (.long q3), .second, .val (.int p5), .val (.int p6), .val (.int (p1 &&& (3 : Int32))), .val (.ref w0), .val (.ref w1), .val (.ref w2), .val (.long u), .second, .val (.ref b194), .val (.int (1 : Int32)), .val (.int (0 : Int32)), .unset] [(.int (0 : Int32))]))
          refine own_toH (fun t k => XS.istore X195.here hx rfl (hb hby at_112) rfl (l' := #[.val (.int p1), .val (.long q1), .second, .val (.long q2), .second, .val (.long q3), .second, .val (.int p5), .val (.int p6), .val (.int (p1 &&& (3 : Int32))), .val (.ref w0), .val (.ref w1), .val (.ref w2), .val (.long u), .second, .val (.ref b194), .val (.int (1 : Int32)), .val (.int (0 : Int32)), .val (.int (0 : Int32))]) rfl k) ?_
          show own_FinH _ _ _ _ _ _ _ _ (T195.setTop (mkF m 114 #[.val (.int p1), .val (.long q1), .second, .val (.long q2), .second, .val (.long q3), .second, .val (.int p5), .val (.int p6), .val (.int (p1 &&& (3 : Int32))), .val (.ref w0), .val (.ref w1), .val (.ref w2), .val (.long u), .second, .val (.ref b194), .val (.int (1 : Int32)), .val (.int (0 : Int32)), .val (.int (0 : Int32))] []))
          refine own_toH (fun t k => XS.iload X195.here hx rfl (hb hby at_114) rfl k) ?_
          show own_FinH _ _ _ _ _ _ _ _ (T195.setTop (mkF m 116 #[.val (.int p1), .val (.long q1), .second, .val (.long q2), .second, .val (.long q3), .second, .val (.int p5), .val (.int p6), .val (.int (p1 &&& (3 : Int32))), .val (.ref w0), .val (.ref w1), .val (.ref w2), .val (.long u), .second, .val (.ref b194), .val (.int (1 : Int32)), .val (.int (0 : Int32)), .val (.int (0 : Int32))] [(.int (1 : Int32))]))
          refine own_toH (fun t k => XS.ifNo X195.here hx rfl (hb hby at_116) rfl ((if0 _ _).trans (feq (by decide)).1) k) ?_
          show own_FinH _ _ _ _ _ _ _ _ (T195.setTop (mkF m 119 #[.val (.int p1), .val (.long q1), .second, .val (.long q2), .second, .val (.long q3), .second, .val (.int p5), .val (.int p6), .val (.int (p1 &&& (3 : Int32))), .val (.ref w0), .val (.ref w1), .val (.ref w2), .val (.long u), .second, .val (.ref b194), .val (.int (1 : Int32)), .val (.int (0 : Int32)), .val (.int (0 : Int32))] []))
          refine own_toH (fun t k => XS.iload X195.here hx rfl (hb hby at_119) rfl k) ?_
          show own_FinH _ _ _ _ _ _ _ _ (T195.setTop (mkF m 121 #[.val (.int p1), .val (.long q1), .second, .val (.long q2), .second, .val (.long q3), .second, .val (.int p5), .val (.int p6), .val (.int (p1 &&& (3 : Int32))), .val (.ref w0), .val (.ref w1), .val (.ref w2), .val (.long u), .second, .val (.ref b194), .val (.int (1 : Int32)), .val (.int (0 : Int32)), .val (.int (0 : Int32))] [(.int (0 : Int32))]))
          refine own_toH (fun t k => XS.ifYes X195.here hx rfl (pc0 := 121) (pc' := 127) rfl (hb hby at_121) rfl ((if0 _ _).trans (teq rfl).1) (by decide) (by decide) k) ?_
          show own_FinH _ _ _ _ _ _ _ _ (T195.setTop (mkF m 127 #[.val (.int p1), .val (.long q1), .second, .val (.long q2), .second, .val (.long q3), .second, .val (.int p5), .val (.int p6), .val (.int (p1 &&& (3 : Int32))), .val (.ref w0), .val (.ref w1), .val (.ref w2), .val (.long u), .second, .val (.ref b194), .val (.int (1 : Int32)), .val (.int (0 : Int32)), .val (.int (0 : Int32))] []))
          refine own_toH (fun t k => XS.aload X195.here hx rfl (hb hby at_127) rfl rfl k) ?_
          show own_FinH _ _ _ _ _ _ _ _ (T195.setTop (mkF m 129 #[.val (.int p1), .val (.long q1), .second, .val (.long q2), .second, .val (.long q3), .second, .val (.int p5), .val (.int p6), .val (.int (p1 &&& (3 : Int32))), .val (.ref w0), .val (.ref w1), .val (.ref w2), .val (.long u), .second, .val (.ref b194), .val (.int (1 : Int32)), .val (.int (0 : Int32)), .val (.int (0 : Int32))] [(.ref b194)]))
          have htu : own_tu u = 0 := own_tu0 (fun q => hc101_196 ((own_neg u).mpr q))
          obtain ⟨cq198, kq198, q198a, q198b, q198c⟩ := isOf hZ rfl A194_e195
          obtain ⟨_, _, ⟨T198, L198, k198, n198⟩, -, X198, ⟨Lc198, hQ198, l198, y198, z198⟩, st198⟩ := X195.virtualBack hx (y := (⟨"com/example/deft_lock/deftlock/service/ServerInfo", "tellsUptime", "()Z"⟩ : MethodName)) (z := (⟨"com/example/deft_lock/deftlock/service/ServerInfo", "tellsUptime", "()Z"⟩ : MethodName)) hown (mvT hZ (hw _ (List.mem_of_getElem? (i := 33) rfl))) (mvT hZ (hw _ (List.mem_of_getElem? (i := 34) rfl))) (notFace_of_selects (args := #[]) (mvT hZ (hw _ (List.mem_of_getElem? (i := 36) rfl)))) (mvT hZ (hw _ (List.mem_of_getElem? (i := 36) rfl))) (mvT hZ (hw _ (List.mem_of_getElem? (i := 35) rfl))) (by decide) (own_back (W := 0) (own_tuR l Z a0 hw [] b194 w0 u T195.heap n0 (Nat.le_trans (Nat.le_trans (Nat.le_trans (Nat.le_trans (Nat.le_trans Z0 K165.1) K183.1) K192.1) E194.1) K195.1) Fr1 Fu1) hZ (hw _ (List.mem_of_getElem? (i := 37) rfl)) (hw _ (List.mem_of_getElem? (i := 9) rfl)) (by decide) (by decide)) q198a q198c (g := (mkF m 129 #[.val (.int p1), .val (.long q1), .second, .val (.long q2), .second, .val (.long q3), .second, .val (.int p5), .val (.int p6), .val (.int (p1 &&& (3 : Int32))), .val (.ref w0), .val (.ref w1), .val (.ref w2), .val (.long u), .second, .val (.ref b194), .val (.int (1 : Int32)), .val (.int (0 : Int32)), .val (.int (0 : Int32))] [(.ref b194)])) rfl (by rw [hml]; rfl) (Steps.refl _) (argsL := []) (rest := []) (lenOf own_pd9 rfl) rfl (by show 2 * 0 + _ ≤ _; exact Nat.le_of_eq rfl) (hb hby at_129) (fun _ _ => ⟨rfl, rfl, (by decide : 19 + 0 ≤ _), (by decide : 42 + 0 ≤ _)⟩)
          dsimp only [Pt.U, Pt.locs, Pt.cells, Pt.slots] at X198 l198 y198 z198 st198 hQ198
          subst l198 y198 z198
          obtain ⟨rfl, N198q, eh198⟩ := hQ198
          have N198 := Fr.app N195 N198q
          refine own_toH (fun t k => st198.trans k) ?_
          show own_FinH _ _ _ _ _ _ _ _ (T198.setTop (mkF m 132 #[.val (.int p1), .val (.long q1), .second, .val (.long q2), .second, .val (.long q3), .second, .val (.int p5), .val (.int p6), .val (.int (p1 &&& (3 : Int32))), .val (.ref w0), .val (.ref w1), .val (.ref w2), .val (.long u), .second, .val (.ref b194), .val (.int (1 : Int32)), .val (.int (0 : Int32)), .val (.int (0 : Int32))] [(.int (own_tu u))]))
          refine own_toH (fun t k => XS.iload X198.here hx rfl (hb hby at_132) rfl k) ?_
          show own_FinH _ _ _ _ _ _ _ _ (T198.setTop (mkF m 134 #[.val (.int p1), .val (.long q1), .second, .val (.long q2), .second, .val (.long q3), .second, .val (.int p5), .val (.int p6), .val (.int (p1 &&& (3 : Int32))), .val (.ref w0), .val (.ref w1), .val (.ref w2), .val (.long u), .second, .val (.ref b194), .val (.int (1 : Int32)), .val (.int (0 : Int32)), .val (.int (0 : Int32))] [(.int (0 : Int32)), (.int (own_tu u))]))
          refine own_toH (fun t k => XS.icmpNo X198.here hx rfl (hb hby at_134) rfl (teq htu).2 k) ?_
          show own_FinH _ _ _ _ _ _ _ _ (T198.setTop (mkF m 137 #[.val (.int p1), .val (.long q1), .second, .val (.long q2), .second, .val (.long q3), .second, .val (.int p5), .val (.int p6), .val (.int (p1 &&& (3 : Int32))), .val (.ref w0), .val (.ref w1), .val (.ref w2), .val (.long u), .second, .val (.ref b194), .val (.int (1 : Int32)), .val (.int (0 : Int32)), .val (.int (0 : Int32))] []))
          refine own_toH (fun t k => XS.iconst X198.here hx rfl (hb hby at_137) k) ?_
          show own_FinH _ _ _ _ _ _ _ _ (T198.setTop (mkF m 138 #[.val (.int p1), .val (.long q1), .second, .val (.long q2), .second, .val (.long q3), .second, .val (.int p5), .val (.int p6), .val (.int (p1 &&& (3 : Int32))), .val (.ref w0), .val (.ref w1), .val (.ref w2), .val (.long u), .second, .val (.ref b194), .val (.int (1 : Int32)), .val (.int (0 : Int32)), .val (.int (0 : Int32))] [(.int (1 : Int32))]))
          refine own_toH (fun t k => XS.goto X198.here hx rfl (pc0 := 138) (pc' := 142) rfl (hb hby at_138) (by decide) (by decide) k) ?_
          show own_FinH _ _ _ _ _ _ _ _ (T198.setTop (mkF m 142 #[.val (.int p1), .val (.long q1), .second, .val (.long q2), .second, .val (.long q3), .second, .val (.int p5), .val (.int p6), .val (.int (p1 &&& (3 : Int32))), .val (.ref w0), .val (.ref w1), .val (.ref w2), .val (.long u), .second, .val (.ref b194), .val (.int (1 : Int32)), .val (.int (0 : Int32)), .val (.int (0 : Int32))] [(.int (1 : Int32))]))
          refine own_retNH X198 hS192 (by rw [eh198]; exact (Nat.le_trans (Nat.le_trans (Nat.le_refl _) E194.1) K195.1)) hZ hEL (by rw [eh198]; exact hH195) (by rw [eh198]; exact hR195) hx hlk (t := .boolean) hret (by simp) (hb hby at_142) (by decide) (by decide) ?_
          try rw [eh198]
          exact ⟨rfl, N198⟩
set_option maxRecDepth 65536 in
set_option maxHeartbeats 40000000 in
theorem comes_1 {Post : Tables → Env → Array Value → State → Outcome → State → Prop} (hpost : ∀ tb e args s v u, (limb_1_1.after args s (.returned v) u = true ∧ limb_1_2.after args s (.returned v) u = true ∧ True) → ReturnedEndW s (.returned v) u (Jvm.fieldLocs frame_1_writes args s ++ Jvm.arrayLocs frame_1_arrays args s ++ Jvm.staticLocs frame_1_statics s) 32 1152 → Post tb e args s (.returned v) u) :
    ArmFor flags0 classFile x code maxLocals ret World_1 tables_1 room_1 Calls_1 rest_1 Pre_1 Post := by
  intro l hfl _ _ p e ha hc hk s m args below hf hA hF happ hP
  obtain ⟨hcalls, hrest, hpre⟩ := hP
  obtain ⟨-, -, -, hnamed, -, -, -, hat⟩ := (Spec.applies_iff hf).mp happ
  obtain ⟨hg, hn⟩ := and_e (Cond.before_iff.mp (show (Jvm.Cond.and given_1 narrow_1).before args s = true from hpre))
  obtain ⟨g1, g2⟩ := and_e hg
  obtain ⟨g3, g4⟩ := and_e g2
  obtain ⟨g5, g6⟩ := and_e g4
  obtain ⟨g7, g8⟩ := and_e g6
  obtain ⟨g9, g10⟩ := and_e g8
  obtain ⟨g11, g12⟩ := and_e g10
  obtain ⟨w0, w1, w2, w3, w4, w5, rfl⟩ : ∃ w0 w1 w2 w3 w4 w5 : Value, args = #[w0, w1, w2, w3, w4, w5] := by
    have hs : args.size = 6 := by simpa [Cond.value, given_1] using g1
    obtain ⟨L⟩ := args
    match L, hs with
    | [w0, w1, w2, w3, w4, w5], _ => exact ⟨w0, w1, w2, w3, w4, w5, rfl⟩
  have hw := fun d (hd : d ∈ tables_1) => atoms_spec (ws := Jvm.Cond.code x code maxLocals ret :: tables_1) hat d (List.mem_cons_of_mem _ hd)
  have hfit : Fit s := fun {y c} hc i hi => by
    obtain ⟨ha, rfl⟩ := Array.getElem?_eq_some_iff.mp hc
    have q := List.all_eq_true.mp ((Array.all_eq_true_iff_forall_mem.mp hF) _ (Array.getElem_mem ha)) i (List.mem_range.mpr hi)
    simpa [Array.getElem?_eq_getElem hi] using q
  obtain ⟨hsets, hown0⟩ := atoms_of _ (rest_1_c_eq ▸ (show rest_1_c.before _ s = true from hrest))
  have hr0 := Cond.before_iff.mp hown0
  obtain ⟨i0, ei0⟩ := is_v g3
  obtain rfl : w0 = (.int i0) := Option.some.inj ei0
  obtain ⟨i1, ei1⟩ := isL_v g5
  obtain rfl : w1 = (.long i1) := Option.some.inj ei1
  obtain ⟨i2, ei2⟩ := isL_v g7
  obtain rfl : w2 = (.long i2) := Option.some.inj ei2
  obtain ⟨i3, ei3⟩ := isL_v g9
  obtain rfl : w3 = (.long i3) := Option.some.inj ei3
  obtain ⟨i4, ei4⟩ := is_v g11
  obtain rfl : w4 = (.int i4) := Option.some.inj ei4
  obtain ⟨i5, ei5⟩ := is_v g12
  obtain rfl : w5 = (.int i5) := Option.some.inj ei5
  obtain ⟨cs, ecs⟩ := is_v (Cond.before_iff.mp (hsets _ (List.mem_of_getElem? (i := 1) rfl)))
  have hcs : ¬ cs = (0 : Int32) := fun q => by
    have h2 := not_v (Cond.before_iff.mp (hsets _ (List.mem_of_getElem? (i := 2) rfl)))
    subst q
    rw [eq_i ecs (Term.int_eval 0) rfl] at h2
    exact absurd h2 (by decide)
  have hCH : CHv s own_EL s.vm s.heap := CHv.start (own_EW hw) (fun q hq => hcalls.1 q hq) (show Jvm.Lit.compactW.before _ s = true from (hsets _ (List.mem_of_getElem? (i := 2) rfl))) (hw _ (List.mem_of_getElem? (i := 55) rfl)) (hw _ (List.mem_of_getElem? (i := 39) rfl))
  obtain ⟨n, o, h1, h2, h3, _, L, rfl, ⟨rfl, N⟩, -, hq⟩ := own_rm0 l s _ hw tables_1 cs i0 i1 i2 i3 i4 i5 s.heap s.heap.size (Nat.le_refl _) (Old.start s) (Sta.start ecs (Or.inl (hsets _ (List.mem_of_getElem? (i := 0) rfl)))) hcs p e ha hc hk s m _ below hf ((Spec.applies_iff_loose hf).mp happ).1 ⟨rfl, State.Warmed39.refl s, rfl, hCH, all0⟩ trivial
  refine ⟨n, _, h1, h2, h3, hpost _ _ _ _ _ _ ⟨Cond.after_iff.mpr rfl, Cond.after_iff.mpr (eq_i res_at (Term.int_eval (1)) rfl), trivial⟩ ⟨hq.1, hq.2.1, hq.2.2.1, (hq.2.2.2.sift fun y hy => Or.inr (N y hy)).mono (by decide) (by decide)⟩⟩
theorem main_1_1 : Claimed_1_1 := comes_1 fun _ _ _ _ _ _ h hF => ⟨h.1, hF⟩
theorem main_1_2 : Claimed_1_2 := comes_1 fun _ _ _ _ _ _ h hF => ⟨h.2.1, hF⟩
end Jvm.Pilot.@@N@@
namespace Jvm.Pilot.@@N@@
open Jvm Jvm.ClassFile Sem Op Lib Jvm.Free Jvm.Stand Jvm.Pilot.@@N@@.Jvm.D
/-! MADE BY PROGRAM (witnessworld.py) out of the Statement's table words and the real class files: 21 classes; the members and pool entries that the words name. The judged class is class 1, her method 3. -/
namespace start1
open Jvm.ClassFile
def u (s : String) : CpInfo := .utf8 (stringToUtf16 s)
/-- a pool by its gaps: so many unusable entries, then the entry; so many at the end -/
def gap : Nat → List CpInfo → List CpInfo
  | 0, r => r
  | n + 1, r => .unusable :: gap n r
def poolList (es : List (Nat × CpInfo)) (last : Nat) : List CpInfo := es.foldr (fun e r => gap e.1 (e.2 :: r)) (gap last [])
def pool (es : List (Nat × CpInfo)) (last : Nat) : Array CpInfo := ⟨poolList es last⟩
def fileOf (pool : Array CpInfo) (this : Nat) (attrs : Array Attribute := #[]) (ms : Array MethodInfo := #[]) (fl : Nat := 33) (sup : Nat := 0) (ifs : Array Nat := #[]) (fds : Array FieldInfo := #[]) : ClassFile where
  minorVersion := 0
  majorVersion := 65
  constantPool := pool
  accessFlags := fl
  thisClass := this
  superClass := sup
  interfaces := ifs
  fields := fds
  methods := ms
  attributes := attrs
def plain (name : String) (sup : Option ClassId) : Class where
  name := name
  kind := .ordinary
  loader := none
  accessFlags := 33
  super := sup
  interfaces := #[]
  cf := none
  fields := #[]
  methods := #[]
  instanceTypes := #[]
  staticTypes := #[]
  resolved := #[]
  callSites := []
  init := .initialized
  statics := none
  mirror := none

def pool0 : Array CpInfo := pool [(5, u "<init>"), (0, u "()V"), (1, .class_ 10), (1, u "java/lang/Object")] 113

def k0c0 : Code := { maxStack := 0, maxLocals := 1, code := object_method_1_code, exceptionTable := #[], attributes := #[] }
def k0m0 : Method := { name := "<init>", desc := "()V", sig := { parameters := [], returnType := none }, accessFlags := 1, code := some k0c0 }
/-- java/lang/Object -/
def k0 : Class := { plain "java/lang/Object" none with
  accessFlags := 33
  interfaces := #[]
  cf := some (fileOf pool0 8 #[] #[{ accessFlags := 1, nameIndex := 5, descriptorIndex := 6, attributes := #[] }] 33 0 #[] #[])
  fields := #[]
  methods := #[k0m0]
  instanceTypes := #[]
  staticTypes := #[]
  resolved := Array.replicate 124 none
  statics := none }

def pool1 : Array CpInfo := pool [(2, .class_ 4), (1, u "java/lang/Object"), (0, u "<init>"), (0, u "()V"), (0, .class_ 8), (0, u "java/lang/String"), (0, .methodref 7 10), (0, .nameAndType 5 11), (0, u "([C)V"), (0, .long 18446744073709551615), (3, .long 9223372036854775808), (1, .methodref 19 20), (0, .class_ 21), (0, .nameAndType 22 23), (0, u "com/example/deft_lock/deftlock/service/ServerInfoTellsUptimePinLaw"), (0, u "drawn"), (0, u "(III)Ljava/lang/String;"), (0, .methodref 19 25), (0, .nameAndType 26 27), (0, u "pickUptime"), (0, u "(IJ)J"), (0, .class_ 29), (0, u "com/example/deft_lock/deftlock/service/ServerInfo"), (0, .methodref 28 31), (0, .nameAndType 5 32), (0, u "(Ljava/lang/String;JJLjava/lang/String;Ljava/lang/String;J)V"), (0, .methodref 28 34), (0, .nameAndType 35 36), (0, u "tellsUptime"), (0, u "()Z"), (3, u "law"), (0, u "(IJJJII)Z")] 2

def k1m0 : Method := { name := "<init>", desc := "()V", sig := { parameters := [], returnType := none }, accessFlags := 1, code := none }
def k1c1 : Code := { maxStack := 7, maxLocals := 3, code := method_2_code, exceptionTable := #[], attributes := #[] }
def k1m1 : Method := { name := "drawn", desc := "(III)Ljava/lang/String;", sig := { parameters := [.int, .int, .int], returnType := some (.object "java/lang/String") }, accessFlags := 10, code := some k1c1 }
def k1c2 : Code := { maxStack := 2, maxLocals := 3, code := method_3_code, exceptionTable := #[], attributes := #[] }
def k1m2 : Method := { name := "pickUptime", desc := "(IJ)J", sig := { parameters := [.int, .long], returnType := some .long }, accessFlags := 10, code := some k1c2 }
def k1c3 : Code := { maxStack := 11, maxLocals := 19, code := code, exceptionTable := #[], attributes := #[] }
def k1m3 : Method := { name := "law", desc := "(IJJJII)Z", sig := { parameters := [.int, .long, .long, .long, .int, .int], returnType := some .boolean }, accessFlags := 9, code := some k1c3 }
/-- com/example/deft_lock/deftlock/service/ServerInfoTellsUptimePinLaw -/
def k1 : Class := { plain "com/example/deft_lock/deftlock/service/ServerInfoTellsUptimePinLaw" (some 0) with
  accessFlags := 49
  interfaces := #[]
  cf := some (fileOf pool1 19 #[] #[{ accessFlags := 1, nameIndex := 5, descriptorIndex := 6, attributes := #[] }, { accessFlags := 10, nameIndex := 22, descriptorIndex := 23, attributes := #[] }, { accessFlags := 10, nameIndex := 26, descriptorIndex := 27, attributes := #[] }, { accessFlags := 9, nameIndex := 40, descriptorIndex := 41, attributes := #[] }] 49 2 #[] #[])
  fields := #[]
  methods := #[k1m0, k1m1, k1m2, k1m3]
  instanceTypes := #[]
  staticTypes := #[]
  resolved := Array.replicate 44 none
  statics := none }

def pool2 : Array CpInfo := pool [(1, .methodref 2 3), (0, .class_ 4), (0, .nameAndType 5 6), (0, u "java/lang/Object"), (0, u "<init>"), (0, u "()V"), (0, .class_ 8), (0, u "java/lang/Record")] 13

def k2c0 : Code := { maxStack := 1, maxLocals := 1, code := jdk_30_method_1_code, exceptionTable := #[], attributes := #[] }
def k2m0 : Method := { name := "<init>", desc := "()V", sig := { parameters := [], returnType := none }, accessFlags := 4, code := some k2c0 }
/-- java/lang/Record -/
def k2 : Class := { plain "java/lang/Record" (some 0) with
  accessFlags := 1057
  interfaces := #[]
  cf := some (fileOf pool2 7 #[] #[{ accessFlags := 4, nameIndex := 5, descriptorIndex := 6, attributes := #[] }] 1057 2 #[] #[])
  fields := #[]
  methods := #[k2m0]
  instanceTypes := #[]
  staticTypes := #[]
  resolved := Array.replicate 22 none
  statics := none }

def pool3 : Array CpInfo := pool [(1, .methodref 2 3), (0, .class_ 4), (0, .nameAndType 5 6), (0, u "java/lang/Record"), (0, u "<init>"), (0, u "()V"), (0, .fieldref 8 9), (0, .class_ 10), (0, .nameAndType 11 12), (0, u "com/example/deft_lock/deftlock/service/ServerInfo"), (0, u "runId"), (0, u "Ljava/lang/String;"), (0, .fieldref 8 14), (0, .nameAndType 15 16), (0, u "uptimeSeconds"), (0, u "J"), (0, .fieldref 8 18), (0, .nameAndType 19 16), (0, u "clockMicros"), (0, .fieldref 8 21), (0, .nameAndType 22 12), (0, u "role"), (0, .fieldref 8 24), (0, .nameAndType 25 12), (0, u "master"), (0, .fieldref 8 27), (0, .nameAndType 28 16), (0, u "connectedReplicas"), (64, u "()Z"), (10, u "(Ljava/lang/String;JJLjava/lang/String;Ljava/lang/String;J)V"), (19, u "NO_CLOCK"), (1, u "MICROS_PER_SECOND"), (12, u "tellsUptime")] 36

def k3c0 : Code := { maxStack := 3, maxLocals := 10, code := prog_7_method_1_code, exceptionTable := #[], attributes := #[] }
def k3m0 : Method := { name := "<init>", desc := "(Ljava/lang/String;JJLjava/lang/String;Ljava/lang/String;J)V", sig := { parameters := [(.object "java/lang/String"), .long, .long, (.object "java/lang/String"), (.object "java/lang/String"), .long], returnType := none }, accessFlags := 0, code := some k3c0 }
def k3c1 : Code := { maxStack := 4, maxLocals := 1, code := prog_7_method_4_code, exceptionTable := #[], attributes := #[] }
def k3m1 : Method := { name := "tellsUptime", desc := "()Z", sig := { parameters := [], returnType := some .boolean }, accessFlags := 0, code := some k3c1 }
/-- com/example/deft_lock/deftlock/service/ServerInfo -/
def k3 : Class := { plain "com/example/deft_lock/deftlock/service/ServerInfo" (some 2) with
  accessFlags := 48
  interfaces := #[]
  cf := some (fileOf pool3 8 #[] #[{ accessFlags := 0, nameIndex := 5, descriptorIndex := 104, attributes := #[] }, { accessFlags := 0, nameIndex := 139, descriptorIndex := 93, attributes := #[] }] 48 2 #[] #[{ accessFlags := 18, nameIndex := 11, descriptorIndex := 12, attributes := #[] }, { accessFlags := 18, nameIndex := 15, descriptorIndex := 16, attributes := #[] }, { accessFlags := 18, nameIndex := 19, descriptorIndex := 16, attributes := #[] }, { accessFlags := 18, nameIndex := 22, descriptorIndex := 12, attributes := #[] }, { accessFlags := 18, nameIndex := 25, descriptorIndex := 12, attributes := #[] }, { accessFlags := 18, nameIndex := 28, descriptorIndex := 16, attributes := #[] }, { accessFlags := 24, nameIndex := 124, descriptorIndex := 16, attributes := #[] }, { accessFlags := 26, nameIndex := 126, descriptorIndex := 16, attributes := #[] }])
  fields := #[{ name := "runId", type := (.object "java/lang/String"), accessFlags := 18, slot := 0, constantValue := 0 }, { name := "uptimeSeconds", type := .long, accessFlags := 18, slot := 1, constantValue := 0 }, { name := "clockMicros", type := .long, accessFlags := 18, slot := 2, constantValue := 0 }, { name := "role", type := (.object "java/lang/String"), accessFlags := 18, slot := 3, constantValue := 0 }, { name := "master", type := (.object "java/lang/String"), accessFlags := 18, slot := 4, constantValue := 0 }, { name := "connectedReplicas", type := .long, accessFlags := 18, slot := 5, constantValue := 0 }, { name := "NO_CLOCK", type := .long, accessFlags := 24, slot := 0, constantValue := 0 }, { name := "MICROS_PER_SECOND", type := .long, accessFlags := 26, slot := 1, constantValue := 0 }]
  methods := #[k3m0, k3m1]
  instanceTypes := #[(.object "java/lang/String"), .long, .long, (.object "java/lang/String"), (.object "java/lang/String"), .long]
  staticTypes := #[.long, .long]
  resolved := Array.replicate 176 none
  statics := none }

def pool4 : Array CpInfo := pool [(1, .class_ 2), (0, u "java/io/Serializable"), (0, .class_ 4), (0, u "java/lang/Object")] 2

/-- java/io/Serializable -/
def k4 : Class := { plain "java/io/Serializable" (some 0) with
  accessFlags := 1537
  interfaces := #[]
  cf := some (fileOf pool4 1 #[] #[] 1537 3 #[] #[])
  fields := #[]
  methods := #[]
  instanceTypes := #[]
  staticTypes := #[]
  resolved := Array.replicate 7 none
  statics := none }

def pool5 : Array CpInfo := pool [(1, .class_ 2), (0, u "java/lang/Comparable"), (0, .class_ 4), (0, u "java/lang/Object")] 7

/-- java/lang/Comparable -/
def k5 : Class := { plain "java/lang/Comparable" (some 0) with
  accessFlags := 1537
  interfaces := #[]
  cf := some (fileOf pool5 1 #[] #[] 1537 3 #[] #[])
  fields := #[]
  methods := #[]
  instanceTypes := #[]
  staticTypes := #[]
  resolved := Array.replicate 12 none
  statics := none }

def pool6 : Array CpInfo := pool [(2, .class_ 4), (1, u "java/lang/CharSequence"), (42, .class_ 48), (0, u "java/lang/CharSequence$1CodePointIterator"), (10, .class_ 60), (0, u "java/lang/CharSequence$1CharIterator"), (5, .class_ 67), (0, u "java/lang/Object")] 63

/-- java/lang/CharSequence -/
def k6 : Class := { plain "java/lang/CharSequence" (some 0) with
  accessFlags := 1537
  interfaces := #[]
  cf := some (fileOf pool6 2 #[.nestMembers #[47, 59]] #[] 1537 66 #[] #[])
  fields := #[]
  methods := #[]
  instanceTypes := #[]
  staticTypes := #[]
  resolved := Array.replicate 131 none
  statics := none }

def pool7 : Array CpInfo := pool [(1, .class_ 2), (0, u "java/lang/constant/Constable"), (0, .class_ 4), (0, u "java/lang/Object")] 6

/-- java/lang/constant/Constable -/
def k7 : Class := { plain "java/lang/constant/Constable" (some 0) with
  accessFlags := 1537
  interfaces := #[]
  cf := some (fileOf pool7 1 #[] #[] 1537 3 #[] #[])
  fields := #[]
  methods := #[]
  instanceTypes := #[]
  staticTypes := #[]
  resolved := Array.replicate 11 none
  statics := none }

def pool8 : Array CpInfo := pool [(1, .class_ 2), (0, u "java/lang/constant/ConstantDesc"), (0, .class_ 4), (0, u "java/lang/Object")] 32

/-- java/lang/constant/ConstantDesc -/
def k8 : Class := { plain "java/lang/constant/ConstantDesc" (some 0) with
  accessFlags := 1537
  interfaces := #[]
  cf := some (fileOf pool8 1 #[] #[] 1537 3 #[] #[])
  fields := #[]
  methods := #[]
  instanceTypes := #[]
  staticTypes := #[]
  resolved := Array.replicate 37 none
  statics := none }

def pool9 : Array CpInfo := pool [(1, .methodref 2 3), (0, .class_ 4), (0, .nameAndType 5 6), (0, u "java/lang/Object"), (0, u "<init>"), (0, u "()V"), (0, .string 8), (0, u ""), (0, .fieldref 10 11), (0, .class_ 12), (0, .nameAndType 13 14), (0, u "java/lang/String"), (0, u "value"), (0, u "[B"), (0, .fieldref 10 16), (0, .nameAndType 17 18), (0, u "coder"), (0, u "B"), (2, u "hash"), (0, u "I"), (2, u "hashIsZero"), (0, u "Z"), (0, .methodref 10 28), (0, .nameAndType 5 29), (0, u "([CIILjava/lang/Void;)V"), (8, .fieldref 10 39), (0, .nameAndType 40 26), (0, u "COMPACT_STRINGS"), (1, .class_ 44), (1, u "java/lang/StringUTF16"), (0, u "compress"), (1, .methodref 42 48), (0, .nameAndType 49 50), (0, u "coderFromArrayLen"), (0, u "([BI)B"), (126, .methodref 42 178), (0, .nameAndType 45 179), (0, u "([CII)[B"), (395, .class_ 576), (0, u "java/lang/CharSequence"), (22, u "CASE_INSENSITIVE_ORDER"), (0, u "Ljava/util/Comparator;"), (409, u "([C)V"), (90, u "serialPersistentFields"), (0, u "[Ljava/io/ObjectStreamField;"), (0, .class_ 1104), (0, u "java/lang/String$CaseInsensitiveComparator"), (1, .class_ 1107), (0, u "java/io/Serializable"), (0, .class_ 1109), (0, u "java/lang/Comparable"), (0, .class_ 1111), (0, u "java/lang/constant/Constable"), (0, .class_ 1113), (0, u "java/lang/constant/ConstantDesc"), (2, u "serialVersionUID"), (0, u "J"), (3, u "REPL"), (0, u "C"), (2, u "LATIN1"), (1, u "UTF16")] 323

def k9m0 : Method := { name := "<init>", desc := "()V", sig := { parameters := [], returnType := none }, accessFlags := 1, code := none }
def k9c1 : Code := { maxStack := 5, maxLocals := 2, code := jdk_42_method_3_code, exceptionTable := #[], attributes := #[] }
def k9m1 : Method := { name := "<init>", desc := "([C)V", sig := { parameters := [(.array .char)], returnType := none }, accessFlags := 1, code := some k9c1 }
def k9c2 : Code := { maxStack := 4, maxLocals := 6, code := jdk_42_method_149_code, exceptionTable := #[], attributes := #[] }
def k9m2 : Method := { name := "<init>", desc := "([CIILjava/lang/Void;)V", sig := { parameters := [(.array .char), .int, .int, (.object "java/lang/Void")], returnType := none }, accessFlags := 2, code := some k9c2 }
/-- java/lang/String -/
def k9 : Class := { plain "java/lang/String" (some 0) with
  accessFlags := 49
  interfaces := #[4, 5, 6, 7, 8]
  cf := some (fileOf pool9 10 #[.nestMembers #[1103]] #[{ accessFlags := 1, nameIndex := 5, descriptorIndex := 6, attributes := #[] }, { accessFlags := 1, nameIndex := 5, descriptorIndex := 1010, attributes := #[] }, { accessFlags := 2, nameIndex := 5, descriptorIndex := 29, attributes := #[] }] 49 2 #[1106, 1108, 575, 1110, 1112] #[{ accessFlags := 18, nameIndex := 13, descriptorIndex := 14, attributes := #[] }, { accessFlags := 18, nameIndex := 17, descriptorIndex := 18, attributes := #[] }, { accessFlags := 2, nameIndex := 21, descriptorIndex := 22, attributes := #[] }, { accessFlags := 2, nameIndex := 25, descriptorIndex := 26, attributes := #[] }, { accessFlags := 26, nameIndex := 1116, descriptorIndex := 1117, attributes := #[] }, { accessFlags := 24, nameIndex := 40, descriptorIndex := 26, attributes := #[] }, { accessFlags := 26, nameIndex := 1101, descriptorIndex := 1102, attributes := #[] }, { accessFlags := 26, nameIndex := 1121, descriptorIndex := 1122, attributes := #[] }, { accessFlags := 25, nameIndex := 599, descriptorIndex := 600, attributes := #[] }, { accessFlags := 24, nameIndex := 1125, descriptorIndex := 18, attributes := #[] }, { accessFlags := 24, nameIndex := 1127, descriptorIndex := 18, attributes := #[] }])
  fields := #[{ name := "value", type := (.array .byte), accessFlags := 18, slot := 0, constantValue := 0 }, { name := "coder", type := .byte, accessFlags := 18, slot := 1, constantValue := 0 }, { name := "hash", type := .int, accessFlags := 2, slot := 2, constantValue := 0 }, { name := "hashIsZero", type := .boolean, accessFlags := 2, slot := 3, constantValue := 0 }, { name := "serialVersionUID", type := .long, accessFlags := 26, slot := 0, constantValue := 0 }, { name := "COMPACT_STRINGS", type := .boolean, accessFlags := 24, slot := 1, constantValue := 0 }, { name := "serialPersistentFields", type := (.array (.object "java/io/ObjectStreamField")), accessFlags := 26, slot := 2, constantValue := 0 }, { name := "REPL", type := .char, accessFlags := 26, slot := 3, constantValue := 0 }, { name := "CASE_INSENSITIVE_ORDER", type := (.object "java/util/Comparator"), accessFlags := 25, slot := 4, constantValue := 0 }, { name := "LATIN1", type := .byte, accessFlags := 24, slot := 5, constantValue := 0 }, { name := "UTF16", type := .byte, accessFlags := 24, slot := 6, constantValue := 0 }]
  methods := #[k9m0, k9m1, k9m2]
  instanceTypes := #[(.array .byte), .byte, .int, .boolean]
  staticTypes := #[.long, .boolean, (.array (.object "java/io/ObjectStreamField")), .char, (.object "java/util/Comparator"), .byte, .byte]
  resolved := Array.replicate 1451 none
  statics := some 0 }

def pool10 : Array CpInfo := pool [(6, .class_ 8), (1, u "java/lang/Object"), (0, u "<init>"), (0, u "()V"), (1, .class_ 14), (1, u "java/lang/StringUTF16"), (31, u "$assertionsDisabled"), (0, u "Z"), (13, u "HI_BYTE_SHIFT"), (0, u "I"), (2, u "LO_BYTE_SHIFT"), (49, .methodref 12 116), (0, .nameAndType 117 118), (0, u "compress"), (0, u "([CI[BII)I"), (3, u "([CII)[B"), (138, u "coderFromArrayLen"), (0, u "([BI)B"), (106, .class_ 371), (1, u "java/lang/StringUTF16$LinesSpliterator"), (58, u "MAX_LENGTH"), (196, .class_ 628), (0, u "java/lang/StringUTF16$CodePointsSpliterator"), (0, .class_ 630), (0, u "java/lang/StringUTF16$CharsSpliterator")] 4

def k10m0 : Method := { name := "<init>", desc := "()V", sig := { parameters := [], returnType := none }, accessFlags := 0, code := none }
def k10c1 : Code := { maxStack := 2, maxLocals := 2, code := jdk_52_method_15_code, exceptionTable := #[], attributes := #[] }
def k10m1 : Method := { name := "coderFromArrayLen", desc := "([BI)B", sig := { parameters := [(.array .byte), .int], returnType := some .byte }, accessFlags := 8, code := some k10c1 }
def k10c2 : Code := { maxStack := 5, maxLocals := 6, code := jdk_52_method_16_code, exceptionTable := #[], attributes := #[] }
def k10m2 : Method := { name := "compress", desc := "([CII)[B", sig := { parameters := [(.array .char), .int, .int], returnType := some (.array .byte) }, accessFlags := 9, code := some k10c2 }
def k10c3 : Code := { maxStack := 3, maxLocals := 7, code := jdk_52_method_21_code, exceptionTable := #[], attributes := #[] }
def k10m3 : Method := { name := "compress", desc := "([CI[BII)I", sig := { parameters := [(.array .char), .int, (.array .byte), .int, .int], returnType := some .int }, accessFlags := 9, code := some k10c3 }
/-- java/lang/StringUTF16 -/
def k10 : Class := { plain "java/lang/StringUTF16" (some 0) with
  accessFlags := 48
  interfaces := #[]
  cf := some (fileOf pool10 12 #[.nestMembers #[627, 629, 369]] #[{ accessFlags := 0, nameIndex := 9, descriptorIndex := 10, attributes := #[] }, { accessFlags := 8, nameIndex := 261, descriptorIndex := 262, attributes := #[] }, { accessFlags := 9, nameIndex := 117, descriptorIndex := 122, attributes := #[] }, { accessFlags := 9, nameIndex := 117, descriptorIndex := 118, attributes := #[] }] 48 6 #[] #[{ accessFlags := 26, nameIndex := 61, descriptorIndex := 62, attributes := #[] }, { accessFlags := 26, nameIndex := 65, descriptorIndex := 62, attributes := #[] }, { accessFlags := 24, nameIndex := 430, descriptorIndex := 62, attributes := #[] }, { accessFlags := 4120, nameIndex := 46, descriptorIndex := 47, attributes := #[] }])
  fields := #[{ name := "HI_BYTE_SHIFT", type := .int, accessFlags := 26, slot := 0, constantValue := 0 }, { name := "LO_BYTE_SHIFT", type := .int, accessFlags := 26, slot := 1, constantValue := 0 }, { name := "MAX_LENGTH", type := .int, accessFlags := 24, slot := 2, constantValue := 0 }, { name := "$assertionsDisabled", type := .boolean, accessFlags := 4120, slot := 3, constantValue := 0 }]
  methods := #[k10m0, k10m1, k10m2, k10m3]
  instanceTypes := #[]
  staticTypes := #[.int, .int, .int, .boolean]
  resolved := Array.replicate 635 none
  statics := none }

def pool11 : Array CpInfo := pool [(4, .class_ 6), (1, u "java/lang/Object"), (0, u "<init>"), (0, u "()V"), (5, .class_ 16), (1, u "java/lang/StringLatin1"), (104, u "$assertionsDisabled"), (0, u "Z"), (98, .class_ 223), (1, u "java/lang/StringLatin1$LinesSpliterator"), (166, .class_ 391), (0, u "java/lang/StringLatin1$CharsSpliterator")] 3

def k11m0 : Method := { name := "<init>", desc := "()V", sig := { parameters := [], returnType := none }, accessFlags := 0, code := none }
/-- java/lang/StringLatin1 -/
def k11 : Class := { plain "java/lang/StringLatin1" (some 0) with
  accessFlags := 48
  interfaces := #[]
  cf := some (fileOf pool11 14 #[.nestMembers #[390, 221]] #[{ accessFlags := 0, nameIndex := 7, descriptorIndex := 8, attributes := #[] }] 48 4 #[] #[{ accessFlags := 4120, nameIndex := 121, descriptorIndex := 122, attributes := #[] }])
  fields := #[{ name := "$assertionsDisabled", type := .boolean, accessFlags := 4120, slot := 0, constantValue := 0 }]
  methods := #[k11m0]
  instanceTypes := #[]
  staticTypes := #[.boolean]
  resolved := Array.replicate 395 none
  statics := none }

def pool12 : Array CpInfo := pool [(2, .class_ 4), (1, u "java/lang/Object"), (0, u "<init>"), (0, u "()V"), (17, .class_ 26), (1, u "jdk/internal/util/Preconditions"), (28, .class_ 56), (0, u "jdk/internal/util/Preconditions$4"), (57, .class_ 115), (0, u "jdk/internal/util/Preconditions$1"), (7, u "SIOOBE_FORMATTER"), (0, u "Ljava/util/function/BiFunction;"), (0, .class_ 126), (0, u "jdk/internal/util/Preconditions$2"), (3, u "AIOOBE_FORMATTER"), (0, .class_ 132), (0, u "jdk/internal/util/Preconditions$3"), (3, u "IOOBE_FORMATTER")] 57

def k12m0 : Method := { name := "<init>", desc := "()V", sig := { parameters := [], returnType := none }, accessFlags := 1, code := none }
/-- jdk/internal/util/Preconditions -/
def k12 : Class := { plain "jdk/internal/util/Preconditions" (some 0) with
  accessFlags := 33
  interfaces := #[]
  cf := some (fileOf pool12 24 #[.nestMembers #[55, 131, 125, 114]] #[{ accessFlags := 1, nameIndex := 5, descriptorIndex := 6, attributes := #[] }] 33 2 #[] #[{ accessFlags := 25, nameIndex := 123, descriptorIndex := 124, attributes := #[] }, { accessFlags := 25, nameIndex := 130, descriptorIndex := 124, attributes := #[] }, { accessFlags := 25, nameIndex := 136, descriptorIndex := 124, attributes := #[] }])
  fields := #[{ name := "SIOOBE_FORMATTER", type := (.object "java/util/function/BiFunction"), accessFlags := 25, slot := 0, constantValue := 0 }, { name := "AIOOBE_FORMATTER", type := (.object "java/util/function/BiFunction"), accessFlags := 25, slot := 1, constantValue := 0 }, { name := "IOOBE_FORMATTER", type := (.object "java/util/function/BiFunction"), accessFlags := 25, slot := 2, constantValue := 0 }]
  methods := #[k12m0]
  instanceTypes := #[]
  staticTypes := #[(.object "java/util/function/BiFunction"), (.object "java/util/function/BiFunction"), (.object "java/util/function/BiFunction")]
  resolved := Array.replicate 194 none
  statics := some 1 }

def pool13 : Array CpInfo := pool [(9, u "<init>"), (6, .class_ 18), (1, u "java/lang/Object"), (0, u "()V"), (1, .class_ 23), (1, u "jdk/internal/util/ArraysSupport"), (0, u "LOG2_ARRAY_LONG_INDEX_SCALE"), (0, u "I"), (2, u "U"), (0, u "Ljdk/internal/misc/Unsafe;"), (8, u "BIG_ENDIAN"), (0, u "Z"), (8, u "LOG2_BYTE_BIT_SIZE"), (4, u "LOG2_ARRAY_INT_INDEX_SCALE"), (54, u "JLA"), (0, u "Ljdk/internal/access/JavaLangAccess;"), (11, u "LOG2_ARRAY_BOOLEAN_INDEX_SCALE"), (9, u "LOG2_ARRAY_BYTE_INDEX_SCALE"), (5, u "LOG2_ARRAY_CHAR_INDEX_SCALE"), (5, u "LOG2_ARRAY_SHORT_INDEX_SCALE"), (18, u "LOG2_ARRAY_FLOAT_INDEX_SCALE"), (24, u "LOG2_ARRAY_DOUBLE_INDEX_SCALE"), (89, u "T_BOOLEAN"), (2, u "T_CHAR"), (1, u "T_FLOAT"), (1, u "T_DOUBLE"), (1, u "T_BYTE"), (1, u "T_SHORT"), (1, u "T_INT"), (1, u "T_LONG"), (1, u "SOFT_MAX_ARRAY_LENGTH")] 83

def k13m0 : Method := { name := "<init>", desc := "()V", sig := { parameters := [], returnType := none }, accessFlags := 2, code := none }
/-- jdk/internal/util/ArraysSupport -/
def k13 : Class := { plain "jdk/internal/util/ArraysSupport" (some 0) with
  accessFlags := 33
  interfaces := #[]
  cf := some (fileOf pool13 21 #[] #[{ accessFlags := 2, nameIndex := 9, descriptorIndex := 19, attributes := #[] }] 33 16 #[] #[{ accessFlags := 24, nameIndex := 28, descriptorIndex := 29, attributes := #[] }, { accessFlags := 26, nameIndex := 38, descriptorIndex := 39, attributes := #[] }, { accessFlags := 25, nameIndex := 121, descriptorIndex := 25, attributes := #[] }, { accessFlags := 25, nameIndex := 131, descriptorIndex := 25, attributes := #[] }, { accessFlags := 25, nameIndex := 137, descriptorIndex := 25, attributes := #[] }, { accessFlags := 25, nameIndex := 143, descriptorIndex := 25, attributes := #[] }, { accessFlags := 25, nameIndex := 53, descriptorIndex := 25, attributes := #[] }, { accessFlags := 25, nameIndex := 24, descriptorIndex := 25, attributes := #[] }, { accessFlags := 25, nameIndex := 162, descriptorIndex := 25, attributes := #[] }, { accessFlags := 25, nameIndex := 187, descriptorIndex := 25, attributes := #[] }, { accessFlags := 26, nameIndex := 48, descriptorIndex := 25, attributes := #[] }, { accessFlags := 25, nameIndex := 277, descriptorIndex := 25, attributes := #[] }, { accessFlags := 25, nameIndex := 280, descriptorIndex := 25, attributes := #[] }, { accessFlags := 25, nameIndex := 282, descriptorIndex := 25, attributes := #[] }, { accessFlags := 25, nameIndex := 284, descriptorIndex := 25, attributes := #[] }, { accessFlags := 25, nameIndex := 286, descriptorIndex := 25, attributes := #[] }, { accessFlags := 25, nameIndex := 288, descriptorIndex := 25, attributes := #[] }, { accessFlags := 25, nameIndex := 290, descriptorIndex := 25, attributes := #[] }, { accessFlags := 25, nameIndex := 292, descriptorIndex := 25, attributes := #[] }, { accessFlags := 26, nameIndex := 108, descriptorIndex := 109, attributes := #[] }, { accessFlags := 25, nameIndex := 294, descriptorIndex := 25, attributes := #[] }])
  fields := #[{ name := "U", type := (.object "jdk/internal/misc/Unsafe"), accessFlags := 24, slot := 0, constantValue := 0 }, { name := "BIG_ENDIAN", type := .boolean, accessFlags := 26, slot := 1, constantValue := 0 }, { name := "LOG2_ARRAY_BOOLEAN_INDEX_SCALE", type := .int, accessFlags := 25, slot := 2, constantValue := 0 }, { name := "LOG2_ARRAY_BYTE_INDEX_SCALE", type := .int, accessFlags := 25, slot := 3, constantValue := 0 }, { name := "LOG2_ARRAY_CHAR_INDEX_SCALE", type := .int, accessFlags := 25, slot := 4, constantValue := 0 }, { name := "LOG2_ARRAY_SHORT_INDEX_SCALE", type := .int, accessFlags := 25, slot := 5, constantValue := 0 }, { name := "LOG2_ARRAY_INT_INDEX_SCALE", type := .int, accessFlags := 25, slot := 6, constantValue := 0 }, { name := "LOG2_ARRAY_LONG_INDEX_SCALE", type := .int, accessFlags := 25, slot := 7, constantValue := 0 }, { name := "LOG2_ARRAY_FLOAT_INDEX_SCALE", type := .int, accessFlags := 25, slot := 8, constantValue := 0 }, { name := "LOG2_ARRAY_DOUBLE_INDEX_SCALE", type := .int, accessFlags := 25, slot := 9, constantValue := 0 }, { name := "LOG2_BYTE_BIT_SIZE", type := .int, accessFlags := 26, slot := 10, constantValue := 0 }, { name := "T_BOOLEAN", type := .int, accessFlags := 25, slot := 11, constantValue := 0 }, { name := "T_CHAR", type := .int, accessFlags := 25, slot := 12, constantValue := 0 }, { name := "T_FLOAT", type := .int, accessFlags := 25, slot := 13, constantValue := 0 }, { name := "T_DOUBLE", type := .int, accessFlags := 25, slot := 14, constantValue := 0 }, { name := "T_BYTE", type := .int, accessFlags := 25, slot := 15, constantValue := 0 }, { name := "T_SHORT", type := .int, accessFlags := 25, slot := 16, constantValue := 0 }, { name := "T_INT", type := .int, accessFlags := 25, slot := 17, constantValue := 0 }, { name := "T_LONG", type := .int, accessFlags := 25, slot := 18, constantValue := 0 }, { name := "JLA", type := (.object "jdk/internal/access/JavaLangAccess"), accessFlags := 26, slot := 19, constantValue := 0 }, { name := "SOFT_MAX_ARRAY_LENGTH", type := .int, accessFlags := 25, slot := 20, constantValue := 0 }]
  methods := #[k13m0]
  instanceTypes := #[]
  staticTypes := #[(.object "jdk/internal/misc/Unsafe"), .boolean, .int, .int, .int, .int, .int, .int, .int, .int, .int, .int, .int, .int, .int, .int, .int, .int, .int, (.object "jdk/internal/access/JavaLangAccess"), .int]
  resolved := Array.replicate 378 none
  statics := none }

def pool14 : Array CpInfo := pool [(1, u "java/lang/Cloneable"), (0, .class_ 1), (0, u "java/lang/Object"), (0, .class_ 3)] 3

/-- java/lang/Cloneable -/
def k14 : Class := { plain "java/lang/Cloneable" (some 0) with
  accessFlags := 1537
  interfaces := #[]
  cf := some (fileOf pool14 2 #[] #[] 1537 4 #[] #[])
  fields := #[]
  methods := #[]
  instanceTypes := #[]
  staticTypes := #[]
  resolved := Array.replicate 8 none
  statics := none }

/-- the primitive byte -/
def k15 : Class := { plain "byte" none with kind := .primitive 'B', accessFlags := 0x411 }
/-- [B -/
def k16 : Class := { plain "[B" (some 0) with kind := .array 15 .byte, interfaces := #[14, 4], accessFlags := 1041 }

/-- the primitive char -/
def k17 : Class := { plain "char" none with kind := .primitive 'C', accessFlags := 0x411 }
/-- [C -/
def k18 : Class := { plain "[C" (some 0) with kind := .array 17 .char, interfaces := #[14, 4], accessFlags := 1041 }

/-- the primitive int -/
def k19 : Class := { plain "int" none with kind := .primitive 'I', accessFlags := 0x411 }
/-- [I -/
def k20 : Class := { plain "[I" (some 0) with kind := .array 19 .int, interfaces := #[14, 4], accessFlags := 1041 }

def heap : Heap := #[{ cls := 9, slots := #[.long 0, .int 1, .null, .int 0, .null, .int 0, .int 0], vm := .statics 9 },
  { cls := 12, slots := #[.null, .null, .null], vm := .statics 12 }]
def classes : Array Class := #[k0, k1, k2, k3, k4, k5, k6, k7, k8, k9, k10, k11, k12, k13, k14, k15, k16, k17, k18, k19, k20]
def interned : List (Array UInt16 × Addr) := []
def slotsUsed : Nat := 10
def theMethod : MethodId := ⟨1, 3⟩
def args0 : Array Value := #[.int 5, .long 7, .long 9, .long 3, .int 3, .int 4]
def aboutOver (below : List Frame) : State where
  vm := { classes := classes, interned := interned.toArray }
  heap := heap
  slotsUsed := slotsUsed
  threads := #[{ frames := .invoking theMethod args0 :: below }]
def below0 : List Frame := [.native { method := ⟨0, 0⟩, args := #[] }]
def about1 : State := aboutOver below0
def p0 : Program := .bare "" "" ""
def e0 : Env := launch0.env 0 0 0
theorem w_frames : about1.frames = Frame.invoking theMethod args0 :: below0 := rfl
set_option maxRecDepth 65536 in
theorem w_args : argsFit about1.vm theMethod args0 = true := by decide +kernel
set_option maxRecDepth 65536 in
theorem w_heap : heapFits about1 = true := by decide +kernel
set_option maxRecDepth 65536 in
theorem w_runnable : about1.curStatus? = some .runnable := by decide +kernel
set_option maxRecDepth 65536 in
theorem w_alone : about1.alone = true := by decide +kernel
set_option maxRecDepth 65536 in
theorem w_named : about1.methodNamed? x = some theMethod := by decide +kernel
set_option maxRecDepth 65536 in
theorem w_hears : about1.hears theMethod below0 = true := by decide +kernel
set_option maxRecDepth 65536 in
theorem w_ripe : about1.ripe theMethod args0 below0 = true := by decide +kernel
theorem w_running : about1.status = .running := rfl
set_option maxRecDepth 65536 in
theorem w_room : about1.hasRoom e0.platform room_1 = true :=
  launch0.hasRoom_least _ room_1 (by decide +kernel) (by decide +kernel) (by decide +kernel) (by decide +kernel) (by decide +kernel) (by decide +kernel)
theorem allAtoms_all (ts : List Jvm.Cond) (a : Array Jvm.Value) (st : Jvm.State) : (allAtoms ts).before a st = ts.all (fun c => c.before a st) := by
  induction ts with
  | nil => rfl
  | cons c t ih =>
    show (Jvm.Cond.and c (allAtoms t)).before a st = _
    rw [Jvm.Cond.before_and, ih, List.all_cons]
def words1 : List Jvm.Cond := Jvm.Cond.code x code maxLocals ret :: tables_1
/-- a 'code' word, met by the world's own term for the bytes: nothing is compared byte by byte -/
theorem code_word {y : MethodName} {bytes : ByteArray} {mx : Nat} {rt : Option FieldType} {a : Array Value} {s : State} {m : MethodId} {meth : Method} {c : Code} (h1 : s.methodNamed? y = some m) (h2 : s.vm.method? m = some meth) (h3 : meth.code = some c) (h4 : c.code = bytes)
    (h5 : (c.maxLocals == mx && c.exceptionTable.isEmpty && decide (c.maxStack ≤ mostOperands) && decide (meth.sig.returnType = rt) && !meth.locks && decide (parseMethodDescriptor y.desc = some meth.sig)) = true) : (Jvm.Cond.code y bytes mx rt).before a s = true := by
  simp only [Bool.and_eq_true, beq_iff_eq, Bool.not_eq_true', decide_eq_true_eq] at h5
  obtain ⟨⟨⟨⟨⟨g1, g2⟩, g3⟩, g4⟩, g5⟩, g6⟩ := h5
  simp [Cond.before, Cond.holds, Cond.value, h1, h2, h3, h4, g1, g2, g3, g4, g5, g6]
def isCode : Jvm.Cond → Bool
  | .code _ _ _ _ => true
  | _ => false
theorem all_split {L : List Jvm.Cond} {P : Jvm.Cond → Bool} (h1 : L.all (fun c => isCode c || P c) = true) (h2 : ∀ c ∈ L.filter isCode, P c = true) : L.all P = true := by
  refine List.all_eq_true.mpr fun c hc => ?_
  have h := List.all_eq_true.mp h1 c hc
  rcases Bool.eq_false_or_eq_true (isCode c) with hi | hi
  · exact h2 c (List.mem_filter.mpr ⟨hc, hi⟩)
  · simpa [hi] using h
set_option maxRecDepth 65536 in
theorem w_c0 : (Jvm.Cond.code x code maxLocals ret).before args0 about1 = true := code_word (m := ⟨1, 3⟩) (meth := k1m3) (c := k1c3) (by decide +kernel) rfl rfl rfl (by decide +kernel)
set_option maxRecDepth 65536 in
theorem w_c1 : (Jvm.Cond.code ({ cls := "com/example/deft_lock/deftlock/service/ServerInfoTellsUptimePinLaw", name := "drawn", desc := "(III)Ljava/lang/String;" } : Jvm.MethodName) method_2_code (3 : Nat) (Option.some (Jvm.ClassFile.FieldType.object "java/lang/String"))).before args0 about1 = true := code_word (m := ⟨1, 1⟩) (meth := k1m1) (c := k1c1) (by decide +kernel) rfl rfl rfl (by decide +kernel)
set_option maxRecDepth 65536 in
theorem w_c2 : (Jvm.Cond.code ({ cls := "com/example/deft_lock/deftlock/service/ServerInfoTellsUptimePinLaw", name := "pickUptime", desc := "(IJ)J" } : Jvm.MethodName) method_3_code (3 : Nat) (Option.some Jvm.ClassFile.FieldType.long)).before args0 about1 = true := code_word (m := ⟨1, 2⟩) (meth := k1m2) (c := k1c2) (by decide +kernel) rfl rfl rfl (by decide +kernel)
set_option maxRecDepth 65536 in
theorem w_c3 : (Jvm.Cond.code ({ cls := "com/example/deft_lock/deftlock/service/ServerInfo", name := "<init>", desc := "(Ljava/lang/String;JJLjava/lang/String;Ljava/lang/String;J)V" } : Jvm.MethodName) prog_7_method_1_code (10 : Nat) (Option.none : Option Jvm.ClassFile.FieldType)).before args0 about1 = true := code_word (m := ⟨3, 0⟩) (meth := k3m0) (c := k3c0) (by decide +kernel) rfl rfl rfl (by decide +kernel)
set_option maxRecDepth 65536 in
theorem w_c4 : (Jvm.Cond.code ({ cls := "java/lang/Record", name := "<init>", desc := "()V" } : Jvm.MethodName) jdk_30_method_1_code (1 : Nat) (Option.none : Option Jvm.ClassFile.FieldType)).before args0 about1 = true := code_word (m := ⟨2, 0⟩) (meth := k2m0) (c := k2c0) (by decide +kernel) rfl rfl rfl (by decide +kernel)
set_option maxRecDepth 65536 in
theorem w_c5 : (Jvm.Cond.code ({ cls := "java/lang/Object", name := "<init>", desc := "()V" } : Jvm.MethodName) object_method_1_code (1 : Nat) (Option.none : Option Jvm.ClassFile.FieldType)).before args0 about1 = true := code_word (m := ⟨0, 0⟩) (meth := k0m0) (c := k0c0) (by decide +kernel) rfl rfl rfl (by decide +kernel)
set_option maxRecDepth 65536 in
theorem w_c6 : (Jvm.Cond.code ({ cls := "com/example/deft_lock/deftlock/service/ServerInfo", name := "tellsUptime", desc := "()Z" } : Jvm.MethodName) prog_7_method_4_code (1 : Nat) (Option.some Jvm.ClassFile.FieldType.boolean)).before args0 about1 = true := code_word (m := ⟨3, 1⟩) (meth := k3m1) (c := k3c1) (by decide +kernel) rfl rfl rfl (by decide +kernel)
set_option maxRecDepth 65536 in
theorem w_c7 : (Jvm.Cond.code ({ cls := "java/lang/String", name := "<init>", desc := "([C)V" } : Jvm.MethodName) jdk_42_method_3_code (2 : Nat) (Option.none : Option Jvm.ClassFile.FieldType)).before args0 about1 = true := code_word (m := ⟨9, 1⟩) (meth := k9m1) (c := k9c1) (by decide +kernel) rfl rfl rfl (by decide +kernel)
set_option maxRecDepth 65536 in
theorem w_c8 : (Jvm.Cond.code ({ cls := "java/lang/String", name := "<init>", desc := "([CIILjava/lang/Void;)V" } : Jvm.MethodName) jdk_42_method_149_code (6 : Nat) (Option.none : Option Jvm.ClassFile.FieldType)).before args0 about1 = true := code_word (m := ⟨9, 2⟩) (meth := k9m2) (c := k9c2) (by decide +kernel) rfl rfl rfl (by decide +kernel)
set_option maxRecDepth 65536 in
theorem w_c9 : (Jvm.Cond.code ({ cls := "java/lang/StringUTF16", name := "compress", desc := "([CII)[B" } : Jvm.MethodName) jdk_52_method_16_code (6 : Nat) (Option.some (Jvm.ClassFile.FieldType.array Jvm.ClassFile.FieldType.byte))).before args0 about1 = true := code_word (m := ⟨10, 2⟩) (meth := k10m2) (c := k10c2) (by decide +kernel) rfl rfl rfl (by decide +kernel)
set_option maxRecDepth 65536 in
theorem w_c10 : (Jvm.Cond.code ({ cls := "java/lang/StringUTF16", name := "compress", desc := "([CI[BII)I" } : Jvm.MethodName) jdk_52_method_21_code (7 : Nat) (Option.some Jvm.ClassFile.FieldType.int)).before args0 about1 = true := code_word (m := ⟨10, 3⟩) (meth := k10m3) (c := k10c3) (by decide +kernel) rfl rfl rfl (by decide +kernel)
set_option maxRecDepth 65536 in
theorem w_c11 : (Jvm.Cond.code ({ cls := "java/lang/StringUTF16", name := "coderFromArrayLen", desc := "([BI)B" } : Jvm.MethodName) jdk_52_method_15_code (2 : Nat) (Option.some Jvm.ClassFile.FieldType.byte)).before args0 about1 = true := code_word (m := ⟨10, 1⟩) (meth := k10m1) (c := k10c1) (by decide +kernel) rfl rfl rfl (by decide +kernel)
def codes1 : List Jvm.Cond := [Jvm.Cond.code x code maxLocals ret, Jvm.Cond.code ({ cls := "com/example/deft_lock/deftlock/service/ServerInfoTellsUptimePinLaw", name := "drawn", desc := "(III)Ljava/lang/String;" } : Jvm.MethodName) method_2_code (3 : Nat) (Option.some (Jvm.ClassFile.FieldType.object "java/lang/String")), Jvm.Cond.code ({ cls := "com/example/deft_lock/deftlock/service/ServerInfoTellsUptimePinLaw", name := "pickUptime", desc := "(IJ)J" } : Jvm.MethodName) method_3_code (3 : Nat) (Option.some Jvm.ClassFile.FieldType.long), Jvm.Cond.code ({ cls := "com/example/deft_lock/deftlock/service/ServerInfo", name := "<init>", desc := "(Ljava/lang/String;JJLjava/lang/String;Ljava/lang/String;J)V" } : Jvm.MethodName) prog_7_method_1_code (10 : Nat) (Option.none : Option Jvm.ClassFile.FieldType), Jvm.Cond.code ({ cls := "java/lang/Record", name := "<init>", desc := "()V" } : Jvm.MethodName) jdk_30_method_1_code (1 : Nat) (Option.none : Option Jvm.ClassFile.FieldType), Jvm.Cond.code ({ cls := "java/lang/Object", name := "<init>", desc := "()V" } : Jvm.MethodName) object_method_1_code (1 : Nat) (Option.none : Option Jvm.ClassFile.FieldType), Jvm.Cond.code ({ cls := "com/example/deft_lock/deftlock/service/ServerInfo", name := "tellsUptime", desc := "()Z" } : Jvm.MethodName) prog_7_method_4_code (1 : Nat) (Option.some Jvm.ClassFile.FieldType.boolean), Jvm.Cond.code ({ cls := "java/lang/String", name := "<init>", desc := "([C)V" } : Jvm.MethodName) jdk_42_method_3_code (2 : Nat) (Option.none : Option Jvm.ClassFile.FieldType), Jvm.Cond.code ({ cls := "java/lang/String", name := "<init>", desc := "([CIILjava/lang/Void;)V" } : Jvm.MethodName) jdk_42_method_149_code (6 : Nat) (Option.none : Option Jvm.ClassFile.FieldType), Jvm.Cond.code ({ cls := "java/lang/StringUTF16", name := "compress", desc := "([CII)[B" } : Jvm.MethodName) jdk_52_method_16_code (6 : Nat) (Option.some (Jvm.ClassFile.FieldType.array Jvm.ClassFile.FieldType.byte)), Jvm.Cond.code ({ cls := "java/lang/StringUTF16", name := "compress", desc := "([CI[BII)I" } : Jvm.MethodName) jdk_52_method_21_code (7 : Nat) (Option.some Jvm.ClassFile.FieldType.int), Jvm.Cond.code ({ cls := "java/lang/StringUTF16", name := "coderFromArrayLen", desc := "([BI)B" } : Jvm.MethodName) jdk_52_method_15_code (2 : Nat) (Option.some Jvm.ClassFile.FieldType.byte)]
set_option maxRecDepth 65536 in
theorem codes_eq : words1.filter isCode = codes1 := rfl
theorem w_codes : ∀ c ∈ words1.filter isCode, c.before args0 about1 = true := by
  rw [codes_eq]
  intro c hc
  simp only [codes1, List.mem_cons, List.not_mem_nil, or_false] at hc
  rcases hc with rfl | rfl | rfl | rfl | rfl | rfl | rfl | rfl | rfl | rfl | rfl | rfl
  · exact w_c0
  · exact w_c1
  · exact w_c2
  · exact w_c3
  · exact w_c4
  · exact w_c5
  · exact w_c6
  · exact w_c7
  · exact w_c8
  · exact w_c9
  · exact w_c10
  · exact w_c11
set_option maxRecDepth 65536 in
theorem w_t1 : (words1.take 24).all (fun c => isCode c || c.before args0 about1) = true := by decide +kernel
set_option maxRecDepth 65536 in
theorem w_t2 : ((words1.drop 24).take 24).all (fun c => isCode c || c.before args0 about1) = true := by decide +kernel
set_option maxRecDepth 65536 in
theorem w_t3 : ((words1.drop 24).drop 24).all (fun c => isCode c || c.before args0 about1) = true := by decide +kernel
theorem w_tables : (allAtoms (Jvm.Cond.code x code maxLocals ret :: tables_1)).before args0 about1 = true := by
  rw [allAtoms_all]
  show words1.all (fun c => c.before args0 about1) = true
  refine all_split ?_ w_codes
  rw [← List.take_append_drop 24 words1, List.all_append, w_t1, ← List.take_append_drop 24 (words1.drop 24), List.all_append, w_t2, w_t3]
  rfl
set_option maxRecDepth 65536 in
theorem w_rest : rest_1_c.before args0 about1 = true := by decide +kernel
set_option maxRecDepth 65536 in
theorem w_case : (Jvm.Cond.and given_1 narrow_1).before args0 about1 = true := by decide +kernel
set_option maxRecDepth 65536 in
theorem w_consts : constsHeld consts_1 about1 := Jvm.Lit.constsHeldB_iff.mp (by decide +kernel)
theorem w_applies : (headSpec (Jvm.Cond.code x code maxLocals ret :: tables_1) room_1).applies x e0.platform about1 = true :=
  (Spec.applies_iff w_frames).mpr ⟨w_running, w_runnable, w_alone, w_named, w_hears, w_ripe, w_room, w_tables⟩
theorem atStart : AtStart classFile x code maxLocals ret World_1 tables_1 room_1 Calls_1 rest_1 Pre_1 launch0 p0 e0 about1 theMethod args0 below0 :=
  ⟨lists_1, trivial, launch0.admits_env _ _ _, launch0.least_env, fairChoices_fair.cas, fairChoices_fair.clock, w_frames, w_args, w_heap, w_applies, ⟨w_consts, trivial⟩, w_rest, w_case⟩
end start1
theorem witness_1 : WitnessClaimed_1 := ⟨start1.p0, start1.e0, start1.about1, start1.theMethod, start1.args0, start1.below0, start1.atStart⟩
end Jvm.Pilot.@@N@@
