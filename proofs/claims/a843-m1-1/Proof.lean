import JvmDerived
import JvmDerived.Pilot.@@N@@Statement
import JvmDerived.Pilot.@@N@@Code
set_option linter.unusedVariables false
set_option linter.unusedSimpArgs false
@@BLOCK:NumsL.lean.txt@@
namespace Jvm.Pilot.@@N@@
open Jvm Jvm.ClassFile Sem Op Lib Jvm.Free Jvm.Stand Jvm.LawKit Jvm.RoadKit Bundle Jvm.Pilot.@@N@@.Jvm.D
section Own
variable {p : Program} {l : Launch} {e : Env} {R : Room} {s Z : State} {m : MethodId} {args : Array Value} {below : List Frame} {meth : Method} {c : Code} {T : State} {locs : List Loc} {cells slots : Nat} {q : Option Value → Heap → List Loc → Prop}
/-- from U the run ends in a return, as q says -/
def own_Fin (p : Program) (e : Env) (below : List Frame) (s : State) (R : Room) (q : Option Value → Heap → List Loc → Prop) (U : State) : Prop :=
  ∃ s₂ o, Steps p.tables e below U s₂ ∧ s₂.status = .running ∧ Ended s₂ below o ∧ ∃ v L, o = .returned v ∧ q v s₂.heap L ∧ FrameEnd s o s₂ L R.cells R.slots
theorem own_to {U U' : State} (h : ∀ t, Steps p.tables e below U' t → Steps p.tables e below U t) (k : own_Fin p e below s R q U') : own_Fin p e below s R q U := by
  obtain ⟨s₂, o, h1, r⟩ := k
  exact ⟨s₂, o, h _ h1, r⟩
theorem own_ite {C : Prop} [Decidable C] {G : Int32 → State} {U : State} {v1 v0 : Int32} (k : own_Fin p e below s R q (G (if C then v1 else v0))) (h1 : C → own_Fin p e below s R q (G v1) → own_Fin p e below s R q U) (h0 : ¬ C → own_Fin p e below s R q (G v0) → own_Fin p e below s R q U) : own_Fin p e below s R q U := by
  by_cases h : C
  · rw [if_pos h] at k; exact h1 h k
  · rw [if_neg h] at k; exact h0 h k
theorem own_cut {U V : State} (k : own_Fin p e below s R q V) (h : own_Fin p e below s R q V → own_Fin p e below s R q U) : own_Fin p e below s R q U := h k
theorem own_retN (X : Stand p l e R s m args below meth c T locs cells slots) (hx : p.tables.exec = Jvm.exec) (hlk : meth.locks = false) {pc : Nat} {Ls : Array Slot} {z : Int32} {t : FieldType} {rest : List Value} (hret : meth.sig.returnType = some t) (ht : t = .boolean ∨ t = .byte ∨ t = .char ∨ t = .short) (hd : decode c.code pc = .ok (.ireturn, 1)) (hc : cells ≤ R.cells) (hs : slots ≤ R.slots) (hq : q (some (.int (nar t z))) T.heap locs) :
    own_Fin p e below s R q (T.setTop (mkF m pc Ls (.int z :: rest))) := by
  obtain ⟨fs, hr, hrun, hended, hW, hsame⟩ := X.leave (v := some (.int (nar t z))) (fun h => by rw [hret] at h; cases h)
  exact ⟨_, _, retN X hx hret ht hd hr, hrun, hended, _, _, rfl, hq, ⟨_, rfl⟩, hW, hsame.mono hc hs⟩
theorem own_retI (X : Stand p l e R s m args below meth c T locs cells slots) (hx : p.tables.exec = Jvm.exec) (hlk : meth.locks = false) {pc : Nat} {Ls : Array Slot} {z : Int32} {rest : List Value} (hret : meth.sig.returnType = some .int) (hd : decode c.code pc = .ok (.ireturn, 1)) (hc : cells ≤ R.cells) (hs : slots ≤ R.slots) (hq : q (some (.int z)) T.heap locs) :
    own_Fin p e below s R q (T.setTop (mkF m pc Ls (.int z :: rest))) := by
  obtain ⟨fs, hr, hrun, hended, hW, hsame⟩ := X.leave (v := some (.int z)) (fun h => by rw [hret] at h; cases h)
  exact ⟨_, _, retOut X hx hret rfl (Or.inl ⟨rfl, Or.inl rfl, z, rfl⟩) hd hr, hrun, hended, _, _, rfl, hq, ⟨_, rfl⟩, hW, hsame.mono hc hs⟩
theorem own_retJ (X : Stand p l e R s m args below meth c T locs cells slots) (hx : p.tables.exec = Jvm.exec) (hlk : meth.locks = false) {pc : Nat} {Ls : Array Slot} {z : Int64} {rest : List Value} (hret : meth.sig.returnType = some .long) (hd : decode c.code pc = .ok (.lreturn, 1)) (hc : cells ≤ R.cells) (hs : slots ≤ R.slots) (hq : q (some (.long z)) T.heap locs) :
    own_Fin p e below s R q (T.setTop (mkF m pc Ls (.long z :: rest))) := by
  obtain ⟨fs, hr, hrun, hended, hW, hsame⟩ := X.leave (v := some (.long z)) (fun h => by rw [hret] at h; cases h)
  exact ⟨_, _, retOut X hx hret rfl (Or.inr (Or.inl ⟨rfl, rfl, z, rfl⟩)) hd hr, hrun, hended, _, _, rfl, hq, ⟨_, rfl⟩, hW, hsame.mono hc hs⟩
theorem own_retR (X : Stand p l e R s m args below meth c T locs cells slots) (hx : p.tables.exec = Jvm.exec) (hlk : meth.locks = false) {pc : Nat} {Ls : Array Slot} {w : Value} {t : FieldType} {rest : List Value} (hret : meth.sig.returnType = some t) (ht : t.isReference = true) (hw : w.isRef = true) (hn : narrow t w = w) (hd : decode c.code pc = .ok (.areturn, 1)) (hc : cells ≤ R.cells) (hs : slots ≤ R.slots) (hq : q (some w) T.heap locs) :
    own_Fin p e below s R q (T.setTop (mkF m pc Ls (w :: rest))) := by
  obtain ⟨fs, hr, hrun, hended, hW, hsame⟩ := X.leave (v := some w) (fun h => by rw [hret] at h; cases h)
  exact ⟨_, _, retOut X hx hret hn (Or.inr (Or.inr (Or.inr (Or.inr ⟨rfl, ht, hw⟩)))) hd hr, hrun, hended, _, _, rfl, hq, ⟨_, rfl⟩, hW, hsame.mono hc hs⟩
theorem own_retV (X : Stand p l e R s m args below meth c T locs cells slots) (hx : p.tables.exec = Jvm.exec) (hlk : meth.locks = false) {pc : Nat} {Ls : Array Slot} (hret : meth.sig.returnType = none) (hd : decode c.code pc = .ok (.return_, 1)) (hc : cells ≤ R.cells) (hs : slots ≤ R.slots) (hq : q none T.heap locs) :
    own_Fin p e below s R q (T.setTop (mkF m pc Ls [])) := by
  obtain ⟨fs, hr, hrun, hended, hW, hsame⟩ := X.leave (v := none) (fun _ => rfl)
  exact ⟨_, _, X.returnOut hx hret hd hr, hrun, hended, _, _, rfl, hq, ⟨_, rfl⟩, hW, hsame.mono hc hs⟩
/-- the contract of a body at given arguments and a given heap -/
abbrev own_Met (l : Launch) (Z : State) (y : MethodName) (bytes : ByteArray) (maxL : Nat) (ret : Option FieldType) (ws : List Jvm.Cond) (rm : Room) (as' : Array Value) (h0 : Heap) (q : Option Value → Heap → List Loc → Prop) : Prop :=
  MetFree l y (head1 (Jvm.Cond.code y bytes maxL ret :: ws) rm) (fun a U => a = as' ∧ Z.Warmed39 U.vm ∧ U.heap = h0) (fun _ _ _ _ _ => True) (fun _ U o U' => ∃ v L, o = .returned v ∧ q v U'.heap L ∧ FrameEnd U o U' L rm.cells rm.slots)
theorem own_back {a0 : Array Value} {h : Heap} {y : MethodName} {bytes : ByteArray} {maxL : Nat} {ret : Option FieldType} {rm : Room} {len W : Nat} {as' : Array Value} (hM : own_Met l Z y bytes maxL ret [] rm as' h q)
    (hZ : Z.Warmed39 s.vm) (wc : (Jvm.Cond.code y bytes maxL ret).before a0 Z = true) (wz : (Jvm.Cond.initialized y.cls).before a0 Z = true) (hf : rm.frames + 1 ≤ R.frames) (hl : W + (maxL + 11) + rm.locals ≤ R.locals) :
    Back l R p e below s args y len W (fun A a => a = as' ∧ A.U.heap = h ∧ A.cells + rm.cells ≤ R.cells ∧ A.slots + rm.slots ≤ R.slots)
      (fun A _ v B => ∃ L, q v B.U.heap L ∧ B.locs = A.locs ++ L ∧ B.cells = A.cells + rm.cells ∧ B.slots = A.slots + rm.slots) := backOf (Q := q) hM hZ wc wz hf hl
theorem own_enter {y : MethodName} {bytes : ByteArray} {maxL : Nat} {ret : Option FieldType} {ws : List Jvm.Cond} {rm : Room} {as' : Array Value} {h0 : Heap} (hpl : plainFor y = true)
    (k : ∀ (p : Program) (e : Env) (s : State) (m : MethodId) (below : List Frame) (meth : Method) (c : Code) (s₁ : State), Stand p l e rm s m as' below meth c s₁ [] 0 0 → p.tables.exec = Jvm.exec → Z.Warmed39 s.vm → c.code = bytes → c.maxLocals = maxL → s.vm.findClass y.cls = some m.cls → meth.name = y.name → meth.sig.returnType = ret → meth.locks = false → s₁.heap = h0 → own_Fin p e below s rm q (s₁.setTop (entryFrame m as' maxL))) :
    own_Met l Z y bytes maxL ret ws rm as' h0 q := by
  refine MetFree.of_bodySF hpl hisR ?_
  intro p e s m args below meth c s₁ Bd hml0 hP hK
  obtain ⟨rfl, hZ, hh⟩ := hP
  exact k p e s m below meth c s₁ (Stand.of_body Bd) Bd.exec hZ Bd.bytes hml0 (findClass_of_methodNamed Bd.named) (name_of_methodNamed Bd.named Bd.method).1 Bd.returns Bd.notSynchronized (by rw [← hh, Bd.state]; rfl)
theorem own_selP {a : Array Value} {y y' : MethodName} (w : (Jvm.Cond.selects y'.cls y' y').before a s = true) (hc : y'.cls = y.cls) (hp : s.PrivateAt y) (hi : (Jvm.Cond.instanceMethod y).before a s = true) (hy : y.cls ≠ "java/lang/invoke/MethodHandle" ∧ y.cls ≠ "java/lang/invoke/VarHandle") : (Jvm.Cond.selects y.cls y y).before a s = true := by
  obtain ⟨c, r, m, h1, -, h3, -, mk, h4, h5⟩ := Cond.selects_spec w
  exact selects_self_of_private (c := m.cls) (k := mk) (hc ▸ findClass_of_methodNamed h3) h4 h5 hp hi hy
end Own
section OwnW
variable {p : Program} {l : Launch} {e : Env} {R : Room} {s Z : State} {vm0 : Vm} {k0 : Nat} {m : MethodId} {args : Array Value} {below : List Frame} {meth : Method} {c : Code} {T : State} {locs : List Loc} {cells slots : Nat} {q : Option Value → Heap → List Loc → Prop}
/-- from U the run ends in a return, as q says; it may have interned -/
def own_FinW (p : Program) (e : Env) (below : List Frame) (s : State) (R : Room) (q : Option Value → Heap → List Loc → Prop) (U : State) : Prop :=
  ∃ s₂ o, Steps p.tables e below U s₂ ∧ s₂.status = .running ∧ Ended s₂ below o ∧ ∃ v L, o = .returned v ∧ q v s₂.heap L ∧ ReturnedEndW s o s₂ L R.cells R.slots
theorem own_toW {U U' : State} (h : ∀ t, Steps p.tables e below U' t → Steps p.tables e below U t) (k : own_FinW p e below s R q U') : own_FinW p e below s R q U := by
  obtain ⟨s₂, o, h1, r⟩ := k
  exact ⟨s₂, o, h _ h1, r⟩
theorem own_monoW {s t : State} {o : Outcome} {L : List Loc} {k k' n n' : Nat} (h : ReturnedEndW s o t L k n) (h1 : k ≤ k') (h2 : n ≤ n') : ReturnedEndW s o t L k' n' := ⟨h.1, h.2.1, h.2.2.1, h.2.2.2.mono h1 h2⟩
theorem own_retNW (X : Stand p l e R (s.setVm vm0) m args below meth c T locs cells slots) (hS : s.Since vm0 k0) (hk : k0 ≤ T.heap.size) (hx : p.tables.exec = Jvm.exec) (hlk : meth.locks = false) {pc : Nat} {Ls : Array Slot} {z : Int32} {t : FieldType} {rest : List Value} (hret : meth.sig.returnType = some t) (ht : t = .boolean ∨ t = .byte ∨ t = .char ∨ t = .short) (hd : decode c.code pc = .ok (.ireturn, 1)) (hc : cells ≤ R.cells) (hs : slots ≤ R.slots) (hq : q (some (.int (nar t z))) T.heap locs) :
    own_FinW p e below s R q (T.setTop (mkF m pc Ls (.int z :: rest))) := by
  obtain ⟨fs, hr, hrun, hended, hW⟩ := X.leaveW hS hk (v := some (.int (nar t z))) (fun h => by rw [hret] at h; cases h)
  exact ⟨_, _, retN X hx hret ht hd hr, hrun, hended, _, _, rfl, hq, own_monoW hW hc hs⟩
theorem own_retRW (X : Stand p l e R (s.setVm vm0) m args below meth c T locs cells slots) (hS : s.Since vm0 k0) (hk : k0 ≤ T.heap.size) (hx : p.tables.exec = Jvm.exec) (hlk : meth.locks = false) {pc : Nat} {Ls : Array Slot} {w : Value} {t : FieldType} {rest : List Value} (hret : meth.sig.returnType = some t) (ht : t.isReference = true) (hw : w.isRef = true) (hn : narrow t w = w) (hd : decode c.code pc = .ok (.areturn, 1)) (hc : cells ≤ R.cells) (hs : slots ≤ R.slots) (hq : q (some w) T.heap locs) :
    own_FinW p e below s R q (T.setTop (mkF m pc Ls (w :: rest))) := by
  obtain ⟨fs, hr, hrun, hended, hW⟩ := X.leaveW hS hk (v := some w) (fun h => by rw [hret] at h; cases h)
  exact ⟨_, _, retOut X hx hret hn (Or.inr (Or.inr (Or.inr (Or.inr ⟨rfl, ht, hw⟩)))) hd hr, hrun, hended, _, _, rfl, hq, own_monoW hW hc hs⟩
theorem own_retVW (X : Stand p l e R (s.setVm vm0) m args below meth c T locs cells slots) (hS : s.Since vm0 k0) (hk : k0 ≤ T.heap.size) (hx : p.tables.exec = Jvm.exec) (hlk : meth.locks = false) {pc : Nat} {Ls : Array Slot} (hret : meth.sig.returnType = none) (hd : decode c.code pc = .ok (.return_, 1)) (hc : cells ≤ R.cells) (hs : slots ≤ R.slots) (hq : q none T.heap locs) :
    own_FinW p e below s R q (T.setTop (mkF m pc Ls [])) := by
  obtain ⟨fs, hr, hrun, hended, hW⟩ := X.leaveW hS hk (v := none) (fun _ => rfl)
  exact ⟨_, _, X.returnOut hx hret hd hr, hrun, hended, _, _, rfl, hq, own_monoW hW hc hs⟩
abbrev own_MetW (l : Launch) (Z : State) (y : MethodName) (bytes : ByteArray) (maxL : Nat) (ret : Option FieldType) (ws : List Jvm.Cond) (rm : Room) (as' : Array Value) (h0 : Heap) (q : Option Value → Heap → List Loc → Prop) : Prop :=
  MetFree l y (head1 (Jvm.Cond.code y bytes maxL ret :: ws) rm) (fun a U => a = as' ∧ Z.Warmed39 U.vm ∧ U.heap = h0) (fun _ _ _ _ _ => True) (fun _ U o U' => ∃ v L, o = .returned v ∧ q v U'.heap L ∧ ReturnedEndW U o U' L rm.cells rm.slots)
theorem own_backS {a0 : Array Value} {h : Heap} {y : MethodName} {bytes : ByteArray} {maxL : Nat} {ret : Option FieldType} {rm : Room} {len W : Nat} {as' : Array Value} (hM : own_MetW l Z y bytes maxL ret [] rm as' h q)
    (hZ : Z.Warmed39 s.vm) (wc : (Jvm.Cond.code y bytes maxL ret).before a0 Z = true) (wz : (Jvm.Cond.initialized y.cls).before a0 Z = true) (hf : rm.frames + 1 ≤ R.frames) (hl : W + (maxL + 11) + rm.locals ≤ R.locals) :
    BackS l R p e below s args y len W (fun A a => a = as' ∧ A.U.heap = h ∧ A.cells + rm.cells ≤ R.cells ∧ A.slots + rm.slots ≤ R.slots)
      (fun A _ v B => ∃ L, q v B.U.heap L ∧ B.locs = A.locs ++ L ∧ B.cells = A.cells + rm.cells ∧ B.slots = A.slots + rm.slots) := backOfS (Q := q) hM hZ wc wz hf hl
theorem own_enterW {y : MethodName} {bytes : ByteArray} {maxL : Nat} {ret : Option FieldType} {ws : List Jvm.Cond} {rm : Room} {as' : Array Value} {h0 : Heap} (hpl : plainFor y = true)
    (k : ∀ (p : Program) (e : Env) (s : State) (vm0 : Vm) (m : MethodId) (below : List Frame) (meth : Method) (c : Code) (s₁ : State), Stand p l e rm (s.setVm vm0) m as' below meth c s₁ [] 0 0 → p.tables.exec = Jvm.exec → Z.Warmed39 (s.setVm vm0).vm → c.code = bytes → c.maxLocals = maxL → (s.setVm vm0).vm.findClass y.cls = some m.cls → meth.name = y.name → meth.sig.returnType = ret → meth.locks = false → s.Since vm0 0 → s₁.heap = h0 → own_FinW p e below s rm q (s₁.setTop (entryFrame m as' maxL))) :
    own_MetW l Z y bytes maxL ret ws rm as' h0 q := by
  refine MetFree.of_bodySF hpl hisR ?_
  intro p e s m args below meth c s₁ Bd hml0 hP hK
  obtain ⟨rfl, hZ, hh⟩ := hP
  have X0 : Stand p l e rm (s.setVm s.vm) m args below meth c s₁ [] 0 0 := Stand.of_body Bd
  have hS : s.Since s.vm 0 := (State.WarmedH.refl s).since 0
  exact k p e s s.vm m below meth c s₁ X0 Bd.exec hZ Bd.bytes hml0 (findClass_of_methodNamed Bd.named) (name_of_methodNamed Bd.named Bd.method).1 Bd.returns Bd.notSynchronized hS (by rw [← hh, Bd.state]; rfl)
end OwnW
theorem own_idem (y : Int32) : nar .byte (y.toInt8.toInt32) = y.toInt8.toInt32 := by
  show (y.toInt8.toInt32).toInt8.toInt32 = _
  rw [Int8.toInt8_toInt32]
theorem own_lt32 (x y : Int32) : (x < y) = (x.toInt < y.toInt) := propext Int32.lt_iff_toInt_lt
theorem own_in (p : Int32) : ¬ (p &&& (31 : Int32)) < 0 ∧ (p &&& (31 : Int32)) < (32 : Int32) := by
  have e : (p &&& 31).toInt = p.toInt % 2 ^ 5 := Jvm.Kit.i32_mask p 31 (k := 5) (by decide) (by decide)
  rw [own_lt32, own_lt32, e, Int32.toInt_zero, show (32 : Int32).toInt = 32 from by decide]
  omega
theorem own_fit {v : Value} (h : fits .byte v = true) : ∃ x : Int32, v = .int x := by
  cases v <;> first | exact ⟨_, rfl⟩ | (simp [fits] at h)
def own_b (q1 : Int64) : Nat → Int32
  | 0 => ((q1.toInt32).toInt8.toInt32)
  | 1 => ((((q1.toUInt64 >>> ((8 : Int32) &&& 0x3f).toInt64.toUInt64).toInt64).toInt32).toInt8.toInt32)
  | 2 => ((((q1.toUInt64 >>> ((16 : Int32) &&& 0x3f).toInt64.toUInt64).toInt64).toInt32).toInt8.toInt32)
  | 3 => ((((q1.toUInt64 >>> ((24 : Int32) &&& 0x3f).toInt64.toUInt64).toInt64).toInt32).toInt8.toInt32)
  | 4 => ((((q1.toUInt64 >>> ((32 : Int32) &&& 0x3f).toInt64.toUInt64).toInt64).toInt32).toInt8.toInt32)
  | 5 => ((((q1.toUInt64 >>> ((40 : Int32) &&& 0x3f).toInt64.toUInt64).toInt64).toInt32).toInt8.toInt32)
  | 6 => ((((q1.toUInt64 >>> ((48 : Int32) &&& 0x3f).toInt64.toUInt64).toInt64).toInt32).toInt8.toInt32)
  | _ => ((((q1.toUInt64 >>> ((56 : Int32) &&& 0x3f).toInt64.toUInt64).toInt64).toInt32).toInt8.toInt32)
def own_put (vs : List Value) (o : Nat) (q : Int64) : List Value := ((((((((vs.set (o + 0) (.int (own_b q 0))).set (o + 1) (.int (own_b q 1))).set (o + 2) (.int (own_b q 2))).set (o + 3) (.int (own_b q 3))).set (o + 4) (.int (own_b q 4))).set (o + 5) (.int (own_b q 5))).set (o + 6) (.int (own_b q 6))).set (o + 7) (.int (own_b q 7)))
theorem own_put_len (vs : List Value) (o : Nat) (q : Int64) : (own_put vs o q).length = vs.length := by simp [own_put]
theorem own_miss (vs : List Value) (o : Nat) (q : Int64) (j : Nat) (d : Value) (h : j < o ∨ o + 8 ≤ j) : (own_put vs o q).getD j d = vs.getD j d := by
  unfold own_put
  rw [List.getD_eq_getElem?_getD, List.getD_eq_getElem?_getD, List.getElem?_set_ne (by omega), List.getElem?_set_ne (by omega), List.getElem?_set_ne (by omega), List.getElem?_set_ne (by omega), List.getElem?_set_ne (by omega), List.getElem?_set_ne (by omega), List.getElem?_set_ne (by omega), List.getElem?_set_ne (by omega)]
theorem own_hit0 (vs : List Value) (o : Nat) (q : Int64) (d : Value) (h : o + 8 ≤ vs.length) : (own_put vs o q).getD (o + 0) d = .int (own_b q 0) := by
  unfold own_put
  rw [List.getD_eq_getElem?_getD, List.getElem?_set_ne (by omega), List.getElem?_set_ne (by omega), List.getElem?_set_ne (by omega), List.getElem?_set_ne (by omega), List.getElem?_set_ne (by omega), List.getElem?_set_ne (by omega), List.getElem?_set_ne (by omega), List.getElem?_set_self (by first | omega | (simp only [List.length_set]; omega))]
  rfl
theorem own_hit1 (vs : List Value) (o : Nat) (q : Int64) (d : Value) (h : o + 8 ≤ vs.length) : (own_put vs o q).getD (o + 1) d = .int (own_b q 1) := by
  unfold own_put
  rw [List.getD_eq_getElem?_getD, List.getElem?_set_ne (by omega), List.getElem?_set_ne (by omega), List.getElem?_set_ne (by omega), List.getElem?_set_ne (by omega), List.getElem?_set_ne (by omega), List.getElem?_set_ne (by omega), List.getElem?_set_self (by first | omega | (simp only [List.length_set]; omega))]
  rfl
theorem own_hit2 (vs : List Value) (o : Nat) (q : Int64) (d : Value) (h : o + 8 ≤ vs.length) : (own_put vs o q).getD (o + 2) d = .int (own_b q 2) := by
  unfold own_put
  rw [List.getD_eq_getElem?_getD, List.getElem?_set_ne (by omega), List.getElem?_set_ne (by omega), List.getElem?_set_ne (by omega), List.getElem?_set_ne (by omega), List.getElem?_set_ne (by omega), List.getElem?_set_self (by first | omega | (simp only [List.length_set]; omega))]
  rfl
theorem own_hit3 (vs : List Value) (o : Nat) (q : Int64) (d : Value) (h : o + 8 ≤ vs.length) : (own_put vs o q).getD (o + 3) d = .int (own_b q 3) := by
  unfold own_put
  rw [List.getD_eq_getElem?_getD, List.getElem?_set_ne (by omega), List.getElem?_set_ne (by omega), List.getElem?_set_ne (by omega), List.getElem?_set_ne (by omega), List.getElem?_set_self (by first | omega | (simp only [List.length_set]; omega))]
  rfl
theorem own_hit4 (vs : List Value) (o : Nat) (q : Int64) (d : Value) (h : o + 8 ≤ vs.length) : (own_put vs o q).getD (o + 4) d = .int (own_b q 4) := by
  unfold own_put
  rw [List.getD_eq_getElem?_getD, List.getElem?_set_ne (by omega), List.getElem?_set_ne (by omega), List.getElem?_set_ne (by omega), List.getElem?_set_self (by first | omega | (simp only [List.length_set]; omega))]
  rfl
theorem own_hit5 (vs : List Value) (o : Nat) (q : Int64) (d : Value) (h : o + 8 ≤ vs.length) : (own_put vs o q).getD (o + 5) d = .int (own_b q 5) := by
  unfold own_put
  rw [List.getD_eq_getElem?_getD, List.getElem?_set_ne (by omega), List.getElem?_set_ne (by omega), List.getElem?_set_self (by first | omega | (simp only [List.length_set]; omega))]
  rfl
theorem own_hit6 (vs : List Value) (o : Nat) (q : Int64) (d : Value) (h : o + 8 ≤ vs.length) : (own_put vs o q).getD (o + 6) d = .int (own_b q 6) := by
  unfold own_put
  rw [List.getD_eq_getElem?_getD, List.getElem?_set_ne (by omega), List.getElem?_set_self (by first | omega | (simp only [List.length_set]; omega))]
  rfl
theorem own_hit7 (vs : List Value) (o : Nat) (q : Int64) (d : Value) (h : o + 8 ≤ vs.length) : (own_put vs o q).getD (o + 7) d = .int (own_b q 7) := by
  unfold own_put
  rw [List.getD_eq_getElem?_getD, List.getElem?_set_self (by first | omega | (simp only [List.length_set]; omega))]
  rfl
theorem own_d1_0 : decode method_2_code 0 = .ok (.aload_n 0, 1) := by decide +kernel
theorem own_d1_1 : decode method_2_code 1 = .ok (.iload_n 1, 1) := by decide +kernel
theorem own_d1_2 : decode method_2_code 2 = .ok (.lload_n 2, 1) := by decide +kernel
theorem own_d1_3 : decode method_2_code 3 = .ok (.l2i, 1) := by decide +kernel
theorem own_d1_4 : decode method_2_code 4 = .ok (.i2b, 1) := by decide +kernel
theorem own_d1_5 : decode method_2_code 5 = .ok (.bastore, 1) := by decide +kernel
theorem own_d1_6 : decode method_2_code 6 = .ok (.aload_n 0, 1) := by decide +kernel
theorem own_d1_7 : decode method_2_code 7 = .ok (.iload_n 1, 1) := by decide +kernel
theorem own_d1_8 : decode method_2_code 8 = .ok (.iconst 1, 1) := by decide +kernel
theorem own_d1_9 : decode method_2_code 9 = .ok (.iadd, 1) := by decide +kernel
theorem own_d1_10 : decode method_2_code 10 = .ok (.lload_n 2, 1) := by decide +kernel
theorem own_d1_11 : decode method_2_code 11 = .ok (.bipush 8, 2) := by decide +kernel
theorem own_d1_13 : decode method_2_code 13 = .ok (.lushr, 1) := by decide +kernel
theorem own_d1_14 : decode method_2_code 14 = .ok (.l2i, 1) := by decide +kernel
theorem own_d1_15 : decode method_2_code 15 = .ok (.i2b, 1) := by decide +kernel
theorem own_d1_16 : decode method_2_code 16 = .ok (.bastore, 1) := by decide +kernel
theorem own_d1_17 : decode method_2_code 17 = .ok (.aload_n 0, 1) := by decide +kernel
theorem own_d1_18 : decode method_2_code 18 = .ok (.iload_n 1, 1) := by decide +kernel
theorem own_d1_19 : decode method_2_code 19 = .ok (.iconst 2, 1) := by decide +kernel
theorem own_d1_20 : decode method_2_code 20 = .ok (.iadd, 1) := by decide +kernel
theorem own_d1_21 : decode method_2_code 21 = .ok (.lload_n 2, 1) := by decide +kernel
theorem own_d1_22 : decode method_2_code 22 = .ok (.bipush 16, 2) := by decide +kernel
theorem own_d1_24 : decode method_2_code 24 = .ok (.lushr, 1) := by decide +kernel
theorem own_d1_25 : decode method_2_code 25 = .ok (.l2i, 1) := by decide +kernel
theorem own_d1_26 : decode method_2_code 26 = .ok (.i2b, 1) := by decide +kernel
theorem own_d1_27 : decode method_2_code 27 = .ok (.bastore, 1) := by decide +kernel
theorem own_d1_28 : decode method_2_code 28 = .ok (.aload_n 0, 1) := by decide +kernel
theorem own_d1_29 : decode method_2_code 29 = .ok (.iload_n 1, 1) := by decide +kernel
theorem own_d1_30 : decode method_2_code 30 = .ok (.iconst 3, 1) := by decide +kernel
theorem own_d1_31 : decode method_2_code 31 = .ok (.iadd, 1) := by decide +kernel
theorem own_d1_32 : decode method_2_code 32 = .ok (.lload_n 2, 1) := by decide +kernel
theorem own_d1_33 : decode method_2_code 33 = .ok (.bipush 24, 2) := by decide +kernel
theorem own_d1_35 : decode method_2_code 35 = .ok (.lushr, 1) := by decide +kernel
theorem own_d1_36 : decode method_2_code 36 = .ok (.l2i, 1) := by decide +kernel
theorem own_d1_37 : decode method_2_code 37 = .ok (.i2b, 1) := by decide +kernel
theorem own_d1_38 : decode method_2_code 38 = .ok (.bastore, 1) := by decide +kernel
theorem own_d1_39 : decode method_2_code 39 = .ok (.aload_n 0, 1) := by decide +kernel
theorem own_d1_40 : decode method_2_code 40 = .ok (.iload_n 1, 1) := by decide +kernel
theorem own_d1_41 : decode method_2_code 41 = .ok (.iconst 4, 1) := by decide +kernel
theorem own_d1_42 : decode method_2_code 42 = .ok (.iadd, 1) := by decide +kernel
theorem own_d1_43 : decode method_2_code 43 = .ok (.lload_n 2, 1) := by decide +kernel
theorem own_d1_44 : decode method_2_code 44 = .ok (.bipush 32, 2) := by decide +kernel
theorem own_d1_46 : decode method_2_code 46 = .ok (.lushr, 1) := by decide +kernel
theorem own_d1_47 : decode method_2_code 47 = .ok (.l2i, 1) := by decide +kernel
theorem own_d1_48 : decode method_2_code 48 = .ok (.i2b, 1) := by decide +kernel
theorem own_d1_49 : decode method_2_code 49 = .ok (.bastore, 1) := by decide +kernel
theorem own_d1_50 : decode method_2_code 50 = .ok (.aload_n 0, 1) := by decide +kernel
theorem own_d1_51 : decode method_2_code 51 = .ok (.iload_n 1, 1) := by decide +kernel
theorem own_d1_52 : decode method_2_code 52 = .ok (.iconst 5, 1) := by decide +kernel
theorem own_d1_53 : decode method_2_code 53 = .ok (.iadd, 1) := by decide +kernel
theorem own_d1_54 : decode method_2_code 54 = .ok (.lload_n 2, 1) := by decide +kernel
theorem own_d1_55 : decode method_2_code 55 = .ok (.bipush 40, 2) := by decide +kernel
theorem own_d1_57 : decode method_2_code 57 = .ok (.lushr, 1) := by decide +kernel
theorem own_d1_58 : decode method_2_code 58 = .ok (.l2i, 1) := by decide +kernel
theorem own_d1_59 : decode method_2_code 59 = .ok (.i2b, 1) := by decide +kernel
theorem own_d1_60 : decode method_2_code 60 = .ok (.bastore, 1) := by decide +kernel
theorem own_d1_61 : decode method_2_code 61 = .ok (.aload_n 0, 1) := by decide +kernel
theorem own_d1_62 : decode method_2_code 62 = .ok (.iload_n 1, 1) := by decide +kernel
theorem own_d1_63 : decode method_2_code 63 = .ok (.bipush 6, 2) := by decide +kernel
theorem own_d1_65 : decode method_2_code 65 = .ok (.iadd, 1) := by decide +kernel
theorem own_d1_66 : decode method_2_code 66 = .ok (.lload_n 2, 1) := by decide +kernel
theorem own_d1_67 : decode method_2_code 67 = .ok (.bipush 48, 2) := by decide +kernel
theorem own_d1_69 : decode method_2_code 69 = .ok (.lushr, 1) := by decide +kernel
theorem own_d1_70 : decode method_2_code 70 = .ok (.l2i, 1) := by decide +kernel
theorem own_d1_71 : decode method_2_code 71 = .ok (.i2b, 1) := by decide +kernel
theorem own_d1_72 : decode method_2_code 72 = .ok (.bastore, 1) := by decide +kernel
theorem own_d1_73 : decode method_2_code 73 = .ok (.aload_n 0, 1) := by decide +kernel
theorem own_d1_74 : decode method_2_code 74 = .ok (.iload_n 1, 1) := by decide +kernel
theorem own_d1_75 : decode method_2_code 75 = .ok (.bipush 7, 2) := by decide +kernel
theorem own_d1_77 : decode method_2_code 77 = .ok (.iadd, 1) := by decide +kernel
theorem own_d1_78 : decode method_2_code 78 = .ok (.lload_n 2, 1) := by decide +kernel
theorem own_d1_79 : decode method_2_code 79 = .ok (.bipush 56, 2) := by decide +kernel
theorem own_d1_81 : decode method_2_code 81 = .ok (.lushr, 1) := by decide +kernel
theorem own_d1_82 : decode method_2_code 82 = .ok (.l2i, 1) := by decide +kernel
theorem own_d1_83 : decode method_2_code 83 = .ok (.i2b, 1) := by decide +kernel
theorem own_d1_84 : decode method_2_code 84 = .ok (.bastore, 1) := by decide +kernel
theorem own_d1_85 : decode method_2_code 85 = .ok (.return_, 1) := by decide +kernel
theorem own_pn0 : plainName "com/example/nuthatch/nuthatch/engine/Sha256RequireDigestPinLaw" = true := by first | (simp [plainName, overriddenIn]; done) | decide +kernel
theorem own_put0_ef (m : MethodId) (a1 : Addr) (q1 : Int64) : entryFrame m #[(.ref a1), (.int (0 : Int32)), (.long q1)] 4 = mkF m 0 #[.val (.ref a1), .val (.int (0 : Int32)), .val (.long q1), .second] [] := by first | (simp [entryFrame, mkF, argsToLocals, Value.category]; done) | rfl
set_option maxRecDepth 65536 in
set_option maxHeartbeats 40000000 in
theorem own_put0 (l : Launch) (Z : State) (a0 : Array Value) (hw : ∀ d ∈ tables_1, d.before a0 Z = true) (ws : List Jvm.Cond) (a1 : Addr) (q1 : Int64) (k : ClassId) (vs : List Value) (h0 : Heap) (n0 : Nat) (Z0 : n0 ≤ h0.size) (V1 : Arv Z h0 a1 k .byte (32 : Int32) vs (.int (0 : Int32))) (hl : vs.length = 32) (g_a1 : n0 ≤ a1) :
    own_Met l Z (⟨"com/example/nuthatch/nuthatch/engine/Sha256RequireDigestPinLaw", "put", "([BIJ)V"⟩ : MethodName) method_2_code 4 none ws ({ frames := 0, cells := 0, slots := 0, locals := 0 } : Room) #[(.ref a1), (.int (0 : Int32)), (.long q1)] h0 (fun v h L => v = none ∧ Fr n0 L ∧ Keep h0 h [a1] ∧ Arv Z h a1 k .byte (32 : Int32) (own_put vs 0 q1) (.int (0 : Int32))) := by
  refine own_enter (plainFor_of_name own_pn0) ?_
  intro p e s m below meth c s₁ X0 hx hZ hby hml hown hnm hret hlk e0
  have N0 := Fr.nil n0
  rw [own_put0_ef m a1 q1]
  have KK0 : Keep h0 h0 [a1] := Keep.refl _ _
  show own_Fin _ _ _ _ _ _ (s₁.setTop (mkF m 0 #[.val (.ref a1), .val (.int (0 : Int32)), .val (.long q1), .second] []))
  refine own_to (fun t k => XS.aloadN X0.here hx rfl (hb hby own_d1_0) rfl rfl k) ?_
  show own_Fin _ _ _ _ _ _ (s₁.setTop (mkF m 1 #[.val (.ref a1), .val (.int (0 : Int32)), .val (.long q1), .second] [(.ref a1)]))
  refine own_to (fun t k => XS.iloadN X0.here hx rfl (hb hby own_d1_1) rfl k) ?_
  show own_Fin _ _ _ _ _ _ (s₁.setTop (mkF m 2 #[.val (.ref a1), .val (.int (0 : Int32)), .val (.long q1), .second] [(.int (0 : Int32)), (.ref a1)]))
  refine own_to (fun t k => XS.lloadN X0.here hx rfl (hb hby own_d1_2) rfl k) ?_
  show own_Fin _ _ _ _ _ _ (s₁.setTop (mkF m 3 #[.val (.ref a1), .val (.int (0 : Int32)), .val (.long q1), .second] [(.long q1), (.int (0 : Int32)), (.ref a1)]))
  refine own_to (fun t k => XS.l2i X0.here hx rfl (hb hby own_d1_3) rfl k) ?_
  show own_Fin _ _ _ _ _ _ (s₁.setTop (mkF m 4 #[.val (.ref a1), .val (.int (0 : Int32)), .val (.long q1), .second] [(.int (q1.toInt32)), (.int (0 : Int32)), (.ref a1)]))
  refine own_to (fun t k => XS.i2b X0.here hx rfl (hb hby own_d1_4) rfl k) ?_
  show own_Fin _ _ _ _ _ _ (s₁.setTop (mkF m 5 #[.val (.ref a1), .val (.int (0 : Int32)), .val (.long q1), .second] [(.int ((q1.toInt32).toInt8.toInt32)), (.int (0 : Int32)), (.ref a1)]))
  obtain ⟨cl1, Ar1, qa1, Sa1, Na1, Ha1, Ga1⟩ := id V1
  have hin2 : ¬ ((0 : Int32) < 0 ∨ cl1.slots.size ≤ ((0 : Int32)).toNatClampNeg) := inb_of Sa1 ⟨by decide, by decide⟩
  obtain ⟨T2, h2, X2, e2, W2, st2⟩ := stB X0 hx hZ e0 Ar1 (j := (0 : Int32)) hin2 (g := (mkF m 5 #[.val (.ref a1), .val (.int (0 : Int32)), .val (.long q1), .second] [(.int ((q1.toInt32).toInt8.toInt32)), (.int (0 : Int32)), (.ref a1)])) rfl rfl (hb hby own_d1_5)
  rw [own_idem _] at W2
  have N2 := Fr.snoc X2 N0 g_a1
  have KK2 : Keep h0 h2 [a1] := KK0.wr W2 (Or.inl (List.mem_of_getElem? (i := 0) rfl))
  have V2 : Arv Z h2 a1 k .byte (32 : Int32) (vs.set (0 + 0) (.int ((q1.toInt32).toInt8.toInt32))) (.int (0 : Int32)) := Arv.set Ar1 qa1 Sa1 Na1 Ha1 Ga1 (fits_nar_byte _) W2 (0 + 0) rfl (by simp [hl])
  refine own_to (fun t k => st2 t k) ?_
  show own_Fin _ _ _ _ _ _ (T2.setTop (mkF m 6 #[.val (.ref a1), .val (.int (0 : Int32)), .val (.long q1), .second] []))
  have Vb3 : Arv Z h2 a1 k .byte (32 : Int32) (vs.set (0 + 0) (.int (own_b q1 0))) (.int (0 : Int32)) := V2
  refine own_to (fun t k => XS.aloadN X2.here hx rfl (hb hby own_d1_6) rfl rfl k) ?_
  show own_Fin _ _ _ _ _ _ (T2.setTop (mkF m 7 #[.val (.ref a1), .val (.int (0 : Int32)), .val (.long q1), .second] [(.ref a1)]))
  refine own_to (fun t k => XS.iloadN X2.here hx rfl (hb hby own_d1_7) rfl k) ?_
  show own_Fin _ _ _ _ _ _ (T2.setTop (mkF m 8 #[.val (.ref a1), .val (.int (0 : Int32)), .val (.long q1), .second] [(.int (0 : Int32)), (.ref a1)]))
  refine own_to (fun t k => XS.iconst X2.here hx rfl (hb hby own_d1_8) k) ?_
  show own_Fin _ _ _ _ _ _ (T2.setTop (mkF m 9 #[.val (.ref a1), .val (.int (0 : Int32)), .val (.long q1), .second] [(.int (1 : Int32)), (.int (0 : Int32)), (.ref a1)]))
  refine own_to (fun t k => XS.iadd X2.here hx rfl (hb hby own_d1_9) rfl k) ?_
  show own_Fin _ _ _ _ _ _ (T2.setTop (mkF m 10 #[.val (.ref a1), .val (.int (0 : Int32)), .val (.long q1), .second] [(.int (1 : Int32)), (.ref a1)]))
  refine own_to (fun t k => XS.lloadN X2.here hx rfl (hb hby own_d1_10) rfl k) ?_
  show own_Fin _ _ _ _ _ _ (T2.setTop (mkF m 11 #[.val (.ref a1), .val (.int (0 : Int32)), .val (.long q1), .second] [(.long q1), (.int (1 : Int32)), (.ref a1)]))
  refine own_to (fun t k => XS.bipush X2.here hx rfl (hb hby own_d1_11) k) ?_
  show own_Fin _ _ _ _ _ _ (T2.setTop (mkF m 13 #[.val (.ref a1), .val (.int (0 : Int32)), .val (.long q1), .second] [(.int (8 : Int32)), (.long q1), (.int (1 : Int32)), (.ref a1)]))
  refine own_to (fun t k => XS.lushr X2.here hx rfl (hb hby own_d1_13) rfl k) ?_
  show own_Fin _ _ _ _ _ _ (T2.setTop (mkF m 14 #[.val (.ref a1), .val (.int (0 : Int32)), .val (.long q1), .second] [(.long ((q1.toUInt64 >>> ((8 : Int32) &&& 0x3f).toInt64.toUInt64).toInt64)), (.int (1 : Int32)), (.ref a1)]))
  refine own_to (fun t k => XS.l2i X2.here hx rfl (hb hby own_d1_14) rfl k) ?_
  show own_Fin _ _ _ _ _ _ (T2.setTop (mkF m 15 #[.val (.ref a1), .val (.int (0 : Int32)), .val (.long q1), .second] [(.int (((q1.toUInt64 >>> ((8 : Int32) &&& 0x3f).toInt64.toUInt64).toInt64).toInt32)), (.int (1 : Int32)), (.ref a1)]))
  refine own_to (fun t k => XS.i2b X2.here hx rfl (hb hby own_d1_15) rfl k) ?_
  show own_Fin _ _ _ _ _ _ (T2.setTop (mkF m 16 #[.val (.ref a1), .val (.int (0 : Int32)), .val (.long q1), .second] [(.int ((((q1.toUInt64 >>> ((8 : Int32) &&& 0x3f).toInt64.toUInt64).toInt64).toInt32).toInt8.toInt32)), (.int (1 : Int32)), (.ref a1)]))
  obtain ⟨cl4, Ar4, qa4, Sa4, Na4, Ha4, Ga4⟩ := id Vb3
  have hin5 : ¬ ((1 : Int32) < 0 ∨ cl4.slots.size ≤ ((1 : Int32)).toNatClampNeg) := inb_of Sa4 ⟨by decide, by decide⟩
  obtain ⟨T5, h5, X5, e5, W5, st5⟩ := stB X2 hx hZ e2 Ar4 (j := (1 : Int32)) hin5 (g := (mkF m 16 #[.val (.ref a1), .val (.int (0 : Int32)), .val (.long q1), .second] [(.int ((((q1.toUInt64 >>> ((8 : Int32) &&& 0x3f).toInt64.toUInt64).toInt64).toInt32).toInt8.toInt32)), (.int (1 : Int32)), (.ref a1)])) rfl rfl (hb hby own_d1_16)
  rw [own_idem _] at W5
  have N5 := Fr.snoc X5 N2 g_a1
  have KK5 : Keep h0 h5 [a1] := KK2.wr W5 (Or.inl (List.mem_of_getElem? (i := 0) rfl))
  have V5 : Arv Z h5 a1 k .byte (32 : Int32) ((vs.set (0 + 0) (.int (own_b q1 0))).set (0 + 1) (.int ((((q1.toUInt64 >>> ((8 : Int32) &&& 0x3f).toInt64.toUInt64).toInt64).toInt32).toInt8.toInt32))) (.int (0 : Int32)) := Arv.set Ar4 qa4 Sa4 Na4 Ha4 Ga4 (fits_nar_byte _) W5 (0 + 1) rfl (by simp [hl])
  refine own_to (fun t k => st5 t k) ?_
  show own_Fin _ _ _ _ _ _ (T5.setTop (mkF m 17 #[.val (.ref a1), .val (.int (0 : Int32)), .val (.long q1), .second] []))
  have Vb6 : Arv Z h5 a1 k .byte (32 : Int32) ((vs.set (0 + 0) (.int (own_b q1 0))).set (0 + 1) (.int (own_b q1 1))) (.int (0 : Int32)) := V5
  refine own_to (fun t k => XS.aloadN X5.here hx rfl (hb hby own_d1_17) rfl rfl k) ?_
  show own_Fin _ _ _ _ _ _ (T5.setTop (mkF m 18 #[.val (.ref a1), .val (.int (0 : Int32)), .val (.long q1), .second] [(.ref a1)]))
  refine own_to (fun t k => XS.iloadN X5.here hx rfl (hb hby own_d1_18) rfl k) ?_
  show own_Fin _ _ _ _ _ _ (T5.setTop (mkF m 19 #[.val (.ref a1), .val (.int (0 : Int32)), .val (.long q1), .second] [(.int (0 : Int32)), (.ref a1)]))
  refine own_to (fun t k => XS.iconst X5.here hx rfl (hb hby own_d1_19) k) ?_
  show own_Fin _ _ _ _ _ _ (T5.setTop (mkF m 20 #[.val (.ref a1), .val (.int (0 : Int32)), .val (.long q1), .second] [(.int (2 : Int32)), (.int (0 : Int32)), (.ref a1)]))
  refine own_to (fun t k => XS.iadd X5.here hx rfl (hb hby own_d1_20) rfl k) ?_
  show own_Fin _ _ _ _ _ _ (T5.setTop (mkF m 21 #[.val (.ref a1), .val (.int (0 : Int32)), .val (.long q1), .second] [(.int (2 : Int32)), (.ref a1)]))
  refine own_to (fun t k => XS.lloadN X5.here hx rfl (hb hby own_d1_21) rfl k) ?_
  show own_Fin _ _ _ _ _ _ (T5.setTop (mkF m 22 #[.val (.ref a1), .val (.int (0 : Int32)), .val (.long q1), .second] [(.long q1), (.int (2 : Int32)), (.ref a1)]))
  refine own_to (fun t k => XS.bipush X5.here hx rfl (hb hby own_d1_22) k) ?_
  show own_Fin _ _ _ _ _ _ (T5.setTop (mkF m 24 #[.val (.ref a1), .val (.int (0 : Int32)), .val (.long q1), .second] [(.int (16 : Int32)), (.long q1), (.int (2 : Int32)), (.ref a1)]))
  refine own_to (fun t k => XS.lushr X5.here hx rfl (hb hby own_d1_24) rfl k) ?_
  show own_Fin _ _ _ _ _ _ (T5.setTop (mkF m 25 #[.val (.ref a1), .val (.int (0 : Int32)), .val (.long q1), .second] [(.long ((q1.toUInt64 >>> ((16 : Int32) &&& 0x3f).toInt64.toUInt64).toInt64)), (.int (2 : Int32)), (.ref a1)]))
  refine own_to (fun t k => XS.l2i X5.here hx rfl (hb hby own_d1_25) rfl k) ?_
  show own_Fin _ _ _ _ _ _ (T5.setTop (mkF m 26 #[.val (.ref a1), .val (.int (0 : Int32)), .val (.long q1), .second] [(.int (((q1.toUInt64 >>> ((16 : Int32) &&& 0x3f).toInt64.toUInt64).toInt64).toInt32)), (.int (2 : Int32)), (.ref a1)]))
  refine own_to (fun t k => XS.i2b X5.here hx rfl (hb hby own_d1_26) rfl k) ?_
  show own_Fin _ _ _ _ _ _ (T5.setTop (mkF m 27 #[.val (.ref a1), .val (.int (0 : Int32)), .val (.long q1), .second] [(.int ((((q1.toUInt64 >>> ((16 : Int32) &&& 0x3f).toInt64.toUInt64).toInt64).toInt32).toInt8.toInt32)), (.int (2 : Int32)), (.ref a1)]))
  obtain ⟨cl7, Ar7, qa7, Sa7, Na7, Ha7, Ga7⟩ := id Vb6
  have hin8 : ¬ ((2 : Int32) < 0 ∨ cl7.slots.size ≤ ((2 : Int32)).toNatClampNeg) := inb_of Sa7 ⟨by decide, by decide⟩
  obtain ⟨T8, h8, X8, e8, W8, st8⟩ := stB X5 hx hZ e5 Ar7 (j := (2 : Int32)) hin8 (g := (mkF m 27 #[.val (.ref a1), .val (.int (0 : Int32)), .val (.long q1), .second] [(.int ((((q1.toUInt64 >>> ((16 : Int32) &&& 0x3f).toInt64.toUInt64).toInt64).toInt32).toInt8.toInt32)), (.int (2 : Int32)), (.ref a1)])) rfl rfl (hb hby own_d1_27)
  rw [own_idem _] at W8
  have N8 := Fr.snoc X8 N5 g_a1
  have KK8 : Keep h0 h8 [a1] := KK5.wr W8 (Or.inl (List.mem_of_getElem? (i := 0) rfl))
  have V8 : Arv Z h8 a1 k .byte (32 : Int32) (((vs.set (0 + 0) (.int (own_b q1 0))).set (0 + 1) (.int (own_b q1 1))).set (0 + 2) (.int ((((q1.toUInt64 >>> ((16 : Int32) &&& 0x3f).toInt64.toUInt64).toInt64).toInt32).toInt8.toInt32))) (.int (0 : Int32)) := Arv.set Ar7 qa7 Sa7 Na7 Ha7 Ga7 (fits_nar_byte _) W8 (0 + 2) rfl (by simp [hl])
  refine own_to (fun t k => st8 t k) ?_
  show own_Fin _ _ _ _ _ _ (T8.setTop (mkF m 28 #[.val (.ref a1), .val (.int (0 : Int32)), .val (.long q1), .second] []))
  have Vb9 : Arv Z h8 a1 k .byte (32 : Int32) (((vs.set (0 + 0) (.int (own_b q1 0))).set (0 + 1) (.int (own_b q1 1))).set (0 + 2) (.int (own_b q1 2))) (.int (0 : Int32)) := V8
  refine own_to (fun t k => XS.aloadN X8.here hx rfl (hb hby own_d1_28) rfl rfl k) ?_
  show own_Fin _ _ _ _ _ _ (T8.setTop (mkF m 29 #[.val (.ref a1), .val (.int (0 : Int32)), .val (.long q1), .second] [(.ref a1)]))
  refine own_to (fun t k => XS.iloadN X8.here hx rfl (hb hby own_d1_29) rfl k) ?_
  show own_Fin _ _ _ _ _ _ (T8.setTop (mkF m 30 #[.val (.ref a1), .val (.int (0 : Int32)), .val (.long q1), .second] [(.int (0 : Int32)), (.ref a1)]))
  refine own_to (fun t k => XS.iconst X8.here hx rfl (hb hby own_d1_30) k) ?_
  show own_Fin _ _ _ _ _ _ (T8.setTop (mkF m 31 #[.val (.ref a1), .val (.int (0 : Int32)), .val (.long q1), .second] [(.int (3 : Int32)), (.int (0 : Int32)), (.ref a1)]))
  refine own_to (fun t k => XS.iadd X8.here hx rfl (hb hby own_d1_31) rfl k) ?_
  show own_Fin _ _ _ _ _ _ (T8.setTop (mkF m 32 #[.val (.ref a1), .val (.int (0 : Int32)), .val (.long q1), .second] [(.int (3 : Int32)), (.ref a1)]))
  refine own_to (fun t k => XS.lloadN X8.here hx rfl (hb hby own_d1_32) rfl k) ?_
  show own_Fin _ _ _ _ _ _ (T8.setTop (mkF m 33 #[.val (.ref a1), .val (.int (0 : Int32)), .val (.long q1), .second] [(.long q1), (.int (3 : Int32)), (.ref a1)]))
  refine own_to (fun t k => XS.bipush X8.here hx rfl (hb hby own_d1_33) k) ?_
  show own_Fin _ _ _ _ _ _ (T8.setTop (mkF m 35 #[.val (.ref a1), .val (.int (0 : Int32)), .val (.long q1), .second] [(.int (24 : Int32)), (.long q1), (.int (3 : Int32)), (.ref a1)]))
  refine own_to (fun t k => XS.lushr X8.here hx rfl (hb hby own_d1_35) rfl k) ?_
  show own_Fin _ _ _ _ _ _ (T8.setTop (mkF m 36 #[.val (.ref a1), .val (.int (0 : Int32)), .val (.long q1), .second] [(.long ((q1.toUInt64 >>> ((24 : Int32) &&& 0x3f).toInt64.toUInt64).toInt64)), (.int (3 : Int32)), (.ref a1)]))
  refine own_to (fun t k => XS.l2i X8.here hx rfl (hb hby own_d1_36) rfl k) ?_
  show own_Fin _ _ _ _ _ _ (T8.setTop (mkF m 37 #[.val (.ref a1), .val (.int (0 : Int32)), .val (.long q1), .second] [(.int (((q1.toUInt64 >>> ((24 : Int32) &&& 0x3f).toInt64.toUInt64).toInt64).toInt32)), (.int (3 : Int32)), (.ref a1)]))
  refine own_to (fun t k => XS.i2b X8.here hx rfl (hb hby own_d1_37) rfl k) ?_
  show own_Fin _ _ _ _ _ _ (T8.setTop (mkF m 38 #[.val (.ref a1), .val (.int (0 : Int32)), .val (.long q1), .second] [(.int ((((q1.toUInt64 >>> ((24 : Int32) &&& 0x3f).toInt64.toUInt64).toInt64).toInt32).toInt8.toInt32)), (.int (3 : Int32)), (.ref a1)]))
  obtain ⟨cl10, Ar10, qa10, Sa10, Na10, Ha10, Ga10⟩ := id Vb9
  have hin11 : ¬ ((3 : Int32) < 0 ∨ cl10.slots.size ≤ ((3 : Int32)).toNatClampNeg) := inb_of Sa10 ⟨by decide, by decide⟩
  obtain ⟨T11, h11, X11, e11, W11, st11⟩ := stB X8 hx hZ e8 Ar10 (j := (3 : Int32)) hin11 (g := (mkF m 38 #[.val (.ref a1), .val (.int (0 : Int32)), .val (.long q1), .second] [(.int ((((q1.toUInt64 >>> ((24 : Int32) &&& 0x3f).toInt64.toUInt64).toInt64).toInt32).toInt8.toInt32)), (.int (3 : Int32)), (.ref a1)])) rfl rfl (hb hby own_d1_38)
  rw [own_idem _] at W11
  have N11 := Fr.snoc X11 N8 g_a1
  have KK11 : Keep h0 h11 [a1] := KK8.wr W11 (Or.inl (List.mem_of_getElem? (i := 0) rfl))
  have V11 : Arv Z h11 a1 k .byte (32 : Int32) ((((vs.set (0 + 0) (.int (own_b q1 0))).set (0 + 1) (.int (own_b q1 1))).set (0 + 2) (.int (own_b q1 2))).set (0 + 3) (.int ((((q1.toUInt64 >>> ((24 : Int32) &&& 0x3f).toInt64.toUInt64).toInt64).toInt32).toInt8.toInt32))) (.int (0 : Int32)) := Arv.set Ar10 qa10 Sa10 Na10 Ha10 Ga10 (fits_nar_byte _) W11 (0 + 3) rfl (by simp [hl])
  refine own_to (fun t k => st11 t k) ?_
  show own_Fin _ _ _ _ _ _ (T11.setTop (mkF m 39 #[.val (.ref a1), .val (.int (0 : Int32)), .val (.long q1), .second] []))
  have Vb12 : Arv Z h11 a1 k .byte (32 : Int32) ((((vs.set (0 + 0) (.int (own_b q1 0))).set (0 + 1) (.int (own_b q1 1))).set (0 + 2) (.int (own_b q1 2))).set (0 + 3) (.int (own_b q1 3))) (.int (0 : Int32)) := V11
  refine own_to (fun t k => XS.aloadN X11.here hx rfl (hb hby own_d1_39) rfl rfl k) ?_
  show own_Fin _ _ _ _ _ _ (T11.setTop (mkF m 40 #[.val (.ref a1), .val (.int (0 : Int32)), .val (.long q1), .second] [(.ref a1)]))
  refine own_to (fun t k => XS.iloadN X11.here hx rfl (hb hby own_d1_40) rfl k) ?_
  show own_Fin _ _ _ _ _ _ (T11.setTop (mkF m 41 #[.val (.ref a1), .val (.int (0 : Int32)), .val (.long q1), .second] [(.int (0 : Int32)), (.ref a1)]))
  refine own_to (fun t k => XS.iconst X11.here hx rfl (hb hby own_d1_41) k) ?_
  show own_Fin _ _ _ _ _ _ (T11.setTop (mkF m 42 #[.val (.ref a1), .val (.int (0 : Int32)), .val (.long q1), .second] [(.int (4 : Int32)), (.int (0 : Int32)), (.ref a1)]))
  refine own_to (fun t k => XS.iadd X11.here hx rfl (hb hby own_d1_42) rfl k) ?_
  show own_Fin _ _ _ _ _ _ (T11.setTop (mkF m 43 #[.val (.ref a1), .val (.int (0 : Int32)), .val (.long q1), .second] [(.int (4 : Int32)), (.ref a1)]))
  refine own_to (fun t k => XS.lloadN X11.here hx rfl (hb hby own_d1_43) rfl k) ?_
  show own_Fin _ _ _ _ _ _ (T11.setTop (mkF m 44 #[.val (.ref a1), .val (.int (0 : Int32)), .val (.long q1), .second] [(.long q1), (.int (4 : Int32)), (.ref a1)]))
  refine own_to (fun t k => XS.bipush X11.here hx rfl (hb hby own_d1_44) k) ?_
  show own_Fin _ _ _ _ _ _ (T11.setTop (mkF m 46 #[.val (.ref a1), .val (.int (0 : Int32)), .val (.long q1), .second] [(.int (32 : Int32)), (.long q1), (.int (4 : Int32)), (.ref a1)]))
  refine own_to (fun t k => XS.lushr X11.here hx rfl (hb hby own_d1_46) rfl k) ?_
  show own_Fin _ _ _ _ _ _ (T11.setTop (mkF m 47 #[.val (.ref a1), .val (.int (0 : Int32)), .val (.long q1), .second] [(.long ((q1.toUInt64 >>> ((32 : Int32) &&& 0x3f).toInt64.toUInt64).toInt64)), (.int (4 : Int32)), (.ref a1)]))
  refine own_to (fun t k => XS.l2i X11.here hx rfl (hb hby own_d1_47) rfl k) ?_
  show own_Fin _ _ _ _ _ _ (T11.setTop (mkF m 48 #[.val (.ref a1), .val (.int (0 : Int32)), .val (.long q1), .second] [(.int (((q1.toUInt64 >>> ((32 : Int32) &&& 0x3f).toInt64.toUInt64).toInt64).toInt32)), (.int (4 : Int32)), (.ref a1)]))
  refine own_to (fun t k => XS.i2b X11.here hx rfl (hb hby own_d1_48) rfl k) ?_
  show own_Fin _ _ _ _ _ _ (T11.setTop (mkF m 49 #[.val (.ref a1), .val (.int (0 : Int32)), .val (.long q1), .second] [(.int ((((q1.toUInt64 >>> ((32 : Int32) &&& 0x3f).toInt64.toUInt64).toInt64).toInt32).toInt8.toInt32)), (.int (4 : Int32)), (.ref a1)]))
  obtain ⟨cl13, Ar13, qa13, Sa13, Na13, Ha13, Ga13⟩ := id Vb12
  have hin14 : ¬ ((4 : Int32) < 0 ∨ cl13.slots.size ≤ ((4 : Int32)).toNatClampNeg) := inb_of Sa13 ⟨by decide, by decide⟩
  obtain ⟨T14, h14, X14, e14, W14, st14⟩ := stB X11 hx hZ e11 Ar13 (j := (4 : Int32)) hin14 (g := (mkF m 49 #[.val (.ref a1), .val (.int (0 : Int32)), .val (.long q1), .second] [(.int ((((q1.toUInt64 >>> ((32 : Int32) &&& 0x3f).toInt64.toUInt64).toInt64).toInt32).toInt8.toInt32)), (.int (4 : Int32)), (.ref a1)])) rfl rfl (hb hby own_d1_49)
  rw [own_idem _] at W14
  have N14 := Fr.snoc X14 N11 g_a1
  have KK14 : Keep h0 h14 [a1] := KK11.wr W14 (Or.inl (List.mem_of_getElem? (i := 0) rfl))
  have V14 : Arv Z h14 a1 k .byte (32 : Int32) (((((vs.set (0 + 0) (.int (own_b q1 0))).set (0 + 1) (.int (own_b q1 1))).set (0 + 2) (.int (own_b q1 2))).set (0 + 3) (.int (own_b q1 3))).set (0 + 4) (.int ((((q1.toUInt64 >>> ((32 : Int32) &&& 0x3f).toInt64.toUInt64).toInt64).toInt32).toInt8.toInt32))) (.int (0 : Int32)) := Arv.set Ar13 qa13 Sa13 Na13 Ha13 Ga13 (fits_nar_byte _) W14 (0 + 4) rfl (by simp [hl])
  refine own_to (fun t k => st14 t k) ?_
  show own_Fin _ _ _ _ _ _ (T14.setTop (mkF m 50 #[.val (.ref a1), .val (.int (0 : Int32)), .val (.long q1), .second] []))
  have Vb15 : Arv Z h14 a1 k .byte (32 : Int32) (((((vs.set (0 + 0) (.int (own_b q1 0))).set (0 + 1) (.int (own_b q1 1))).set (0 + 2) (.int (own_b q1 2))).set (0 + 3) (.int (own_b q1 3))).set (0 + 4) (.int (own_b q1 4))) (.int (0 : Int32)) := V14
  refine own_to (fun t k => XS.aloadN X14.here hx rfl (hb hby own_d1_50) rfl rfl k) ?_
  show own_Fin _ _ _ _ _ _ (T14.setTop (mkF m 51 #[.val (.ref a1), .val (.int (0 : Int32)), .val (.long q1), .second] [(.ref a1)]))
  refine own_to (fun t k => XS.iloadN X14.here hx rfl (hb hby own_d1_51) rfl k) ?_
  show own_Fin _ _ _ _ _ _ (T14.setTop (mkF m 52 #[.val (.ref a1), .val (.int (0 : Int32)), .val (.long q1), .second] [(.int (0 : Int32)), (.ref a1)]))
  refine own_to (fun t k => XS.iconst X14.here hx rfl (hb hby own_d1_52) k) ?_
  show own_Fin _ _ _ _ _ _ (T14.setTop (mkF m 53 #[.val (.ref a1), .val (.int (0 : Int32)), .val (.long q1), .second] [(.int (5 : Int32)), (.int (0 : Int32)), (.ref a1)]))
  refine own_to (fun t k => XS.iadd X14.here hx rfl (hb hby own_d1_53) rfl k) ?_
  show own_Fin _ _ _ _ _ _ (T14.setTop (mkF m 54 #[.val (.ref a1), .val (.int (0 : Int32)), .val (.long q1), .second] [(.int (5 : Int32)), (.ref a1)]))
  refine own_to (fun t k => XS.lloadN X14.here hx rfl (hb hby own_d1_54) rfl k) ?_
  show own_Fin _ _ _ _ _ _ (T14.setTop (mkF m 55 #[.val (.ref a1), .val (.int (0 : Int32)), .val (.long q1), .second] [(.long q1), (.int (5 : Int32)), (.ref a1)]))
  refine own_to (fun t k => XS.bipush X14.here hx rfl (hb hby own_d1_55) k) ?_
  show own_Fin _ _ _ _ _ _ (T14.setTop (mkF m 57 #[.val (.ref a1), .val (.int (0 : Int32)), .val (.long q1), .second] [(.int (40 : Int32)), (.long q1), (.int (5 : Int32)), (.ref a1)]))
  refine own_to (fun t k => XS.lushr X14.here hx rfl (hb hby own_d1_57) rfl k) ?_
  show own_Fin _ _ _ _ _ _ (T14.setTop (mkF m 58 #[.val (.ref a1), .val (.int (0 : Int32)), .val (.long q1), .second] [(.long ((q1.toUInt64 >>> ((40 : Int32) &&& 0x3f).toInt64.toUInt64).toInt64)), (.int (5 : Int32)), (.ref a1)]))
  refine own_to (fun t k => XS.l2i X14.here hx rfl (hb hby own_d1_58) rfl k) ?_
  show own_Fin _ _ _ _ _ _ (T14.setTop (mkF m 59 #[.val (.ref a1), .val (.int (0 : Int32)), .val (.long q1), .second] [(.int (((q1.toUInt64 >>> ((40 : Int32) &&& 0x3f).toInt64.toUInt64).toInt64).toInt32)), (.int (5 : Int32)), (.ref a1)]))
  refine own_to (fun t k => XS.i2b X14.here hx rfl (hb hby own_d1_59) rfl k) ?_
  show own_Fin _ _ _ _ _ _ (T14.setTop (mkF m 60 #[.val (.ref a1), .val (.int (0 : Int32)), .val (.long q1), .second] [(.int ((((q1.toUInt64 >>> ((40 : Int32) &&& 0x3f).toInt64.toUInt64).toInt64).toInt32).toInt8.toInt32)), (.int (5 : Int32)), (.ref a1)]))
  obtain ⟨cl16, Ar16, qa16, Sa16, Na16, Ha16, Ga16⟩ := id Vb15
  have hin17 : ¬ ((5 : Int32) < 0 ∨ cl16.slots.size ≤ ((5 : Int32)).toNatClampNeg) := inb_of Sa16 ⟨by decide, by decide⟩
  obtain ⟨T17, h17, X17, e17, W17, st17⟩ := stB X14 hx hZ e14 Ar16 (j := (5 : Int32)) hin17 (g := (mkF m 60 #[.val (.ref a1), .val (.int (0 : Int32)), .val (.long q1), .second] [(.int ((((q1.toUInt64 >>> ((40 : Int32) &&& 0x3f).toInt64.toUInt64).toInt64).toInt32).toInt8.toInt32)), (.int (5 : Int32)), (.ref a1)])) rfl rfl (hb hby own_d1_60)
  rw [own_idem _] at W17
  have N17 := Fr.snoc X17 N14 g_a1
  have KK17 : Keep h0 h17 [a1] := KK14.wr W17 (Or.inl (List.mem_of_getElem? (i := 0) rfl))
  have V17 : Arv Z h17 a1 k .byte (32 : Int32) ((((((vs.set (0 + 0) (.int (own_b q1 0))).set (0 + 1) (.int (own_b q1 1))).set (0 + 2) (.int (own_b q1 2))).set (0 + 3) (.int (own_b q1 3))).set (0 + 4) (.int (own_b q1 4))).set (0 + 5) (.int ((((q1.toUInt64 >>> ((40 : Int32) &&& 0x3f).toInt64.toUInt64).toInt64).toInt32).toInt8.toInt32))) (.int (0 : Int32)) := Arv.set Ar16 qa16 Sa16 Na16 Ha16 Ga16 (fits_nar_byte _) W17 (0 + 5) rfl (by simp [hl])
  refine own_to (fun t k => st17 t k) ?_
  show own_Fin _ _ _ _ _ _ (T17.setTop (mkF m 61 #[.val (.ref a1), .val (.int (0 : Int32)), .val (.long q1), .second] []))
  have Vb18 : Arv Z h17 a1 k .byte (32 : Int32) ((((((vs.set (0 + 0) (.int (own_b q1 0))).set (0 + 1) (.int (own_b q1 1))).set (0 + 2) (.int (own_b q1 2))).set (0 + 3) (.int (own_b q1 3))).set (0 + 4) (.int (own_b q1 4))).set (0 + 5) (.int (own_b q1 5))) (.int (0 : Int32)) := V17
  refine own_to (fun t k => XS.aloadN X17.here hx rfl (hb hby own_d1_61) rfl rfl k) ?_
  show own_Fin _ _ _ _ _ _ (T17.setTop (mkF m 62 #[.val (.ref a1), .val (.int (0 : Int32)), .val (.long q1), .second] [(.ref a1)]))
  refine own_to (fun t k => XS.iloadN X17.here hx rfl (hb hby own_d1_62) rfl k) ?_
  show own_Fin _ _ _ _ _ _ (T17.setTop (mkF m 63 #[.val (.ref a1), .val (.int (0 : Int32)), .val (.long q1), .second] [(.int (0 : Int32)), (.ref a1)]))
  refine own_to (fun t k => XS.bipush X17.here hx rfl (hb hby own_d1_63) k) ?_
  show own_Fin _ _ _ _ _ _ (T17.setTop (mkF m 65 #[.val (.ref a1), .val (.int (0 : Int32)), .val (.long q1), .second] [(.int (6 : Int32)), (.int (0 : Int32)), (.ref a1)]))
  refine own_to (fun t k => XS.iadd X17.here hx rfl (hb hby own_d1_65) rfl k) ?_
  show own_Fin _ _ _ _ _ _ (T17.setTop (mkF m 66 #[.val (.ref a1), .val (.int (0 : Int32)), .val (.long q1), .second] [(.int (6 : Int32)), (.ref a1)]))
  refine own_to (fun t k => XS.lloadN X17.here hx rfl (hb hby own_d1_66) rfl k) ?_
  show own_Fin _ _ _ _ _ _ (T17.setTop (mkF m 67 #[.val (.ref a1), .val (.int (0 : Int32)), .val (.long q1), .second] [(.long q1), (.int (6 : Int32)), (.ref a1)]))
  refine own_to (fun t k => XS.bipush X17.here hx rfl (hb hby own_d1_67) k) ?_
  show own_Fin _ _ _ _ _ _ (T17.setTop (mkF m 69 #[.val (.ref a1), .val (.int (0 : Int32)), .val (.long q1), .second] [(.int (48 : Int32)), (.long q1), (.int (6 : Int32)), (.ref a1)]))
  refine own_to (fun t k => XS.lushr X17.here hx rfl (hb hby own_d1_69) rfl k) ?_
  show own_Fin _ _ _ _ _ _ (T17.setTop (mkF m 70 #[.val (.ref a1), .val (.int (0 : Int32)), .val (.long q1), .second] [(.long ((q1.toUInt64 >>> ((48 : Int32) &&& 0x3f).toInt64.toUInt64).toInt64)), (.int (6 : Int32)), (.ref a1)]))
  refine own_to (fun t k => XS.l2i X17.here hx rfl (hb hby own_d1_70) rfl k) ?_
  show own_Fin _ _ _ _ _ _ (T17.setTop (mkF m 71 #[.val (.ref a1), .val (.int (0 : Int32)), .val (.long q1), .second] [(.int (((q1.toUInt64 >>> ((48 : Int32) &&& 0x3f).toInt64.toUInt64).toInt64).toInt32)), (.int (6 : Int32)), (.ref a1)]))
  refine own_to (fun t k => XS.i2b X17.here hx rfl (hb hby own_d1_71) rfl k) ?_
  show own_Fin _ _ _ _ _ _ (T17.setTop (mkF m 72 #[.val (.ref a1), .val (.int (0 : Int32)), .val (.long q1), .second] [(.int ((((q1.toUInt64 >>> ((48 : Int32) &&& 0x3f).toInt64.toUInt64).toInt64).toInt32).toInt8.toInt32)), (.int (6 : Int32)), (.ref a1)]))
  obtain ⟨cl19, Ar19, qa19, Sa19, Na19, Ha19, Ga19⟩ := id Vb18
  have hin20 : ¬ ((6 : Int32) < 0 ∨ cl19.slots.size ≤ ((6 : Int32)).toNatClampNeg) := inb_of Sa19 ⟨by decide, by decide⟩
  obtain ⟨T20, h20, X20, e20, W20, st20⟩ := stB X17 hx hZ e17 Ar19 (j := (6 : Int32)) hin20 (g := (mkF m 72 #[.val (.ref a1), .val (.int (0 : Int32)), .val (.long q1), .second] [(.int ((((q1.toUInt64 >>> ((48 : Int32) &&& 0x3f).toInt64.toUInt64).toInt64).toInt32).toInt8.toInt32)), (.int (6 : Int32)), (.ref a1)])) rfl rfl (hb hby own_d1_72)
  rw [own_idem _] at W20
  have N20 := Fr.snoc X20 N17 g_a1
  have KK20 : Keep h0 h20 [a1] := KK17.wr W20 (Or.inl (List.mem_of_getElem? (i := 0) rfl))
  have V20 : Arv Z h20 a1 k .byte (32 : Int32) (((((((vs.set (0 + 0) (.int (own_b q1 0))).set (0 + 1) (.int (own_b q1 1))).set (0 + 2) (.int (own_b q1 2))).set (0 + 3) (.int (own_b q1 3))).set (0 + 4) (.int (own_b q1 4))).set (0 + 5) (.int (own_b q1 5))).set (0 + 6) (.int ((((q1.toUInt64 >>> ((48 : Int32) &&& 0x3f).toInt64.toUInt64).toInt64).toInt32).toInt8.toInt32))) (.int (0 : Int32)) := Arv.set Ar19 qa19 Sa19 Na19 Ha19 Ga19 (fits_nar_byte _) W20 (0 + 6) rfl (by simp [hl])
  refine own_to (fun t k => st20 t k) ?_
  show own_Fin _ _ _ _ _ _ (T20.setTop (mkF m 73 #[.val (.ref a1), .val (.int (0 : Int32)), .val (.long q1), .second] []))
  have Vb21 : Arv Z h20 a1 k .byte (32 : Int32) (((((((vs.set (0 + 0) (.int (own_b q1 0))).set (0 + 1) (.int (own_b q1 1))).set (0 + 2) (.int (own_b q1 2))).set (0 + 3) (.int (own_b q1 3))).set (0 + 4) (.int (own_b q1 4))).set (0 + 5) (.int (own_b q1 5))).set (0 + 6) (.int (own_b q1 6))) (.int (0 : Int32)) := V20
  refine own_to (fun t k => XS.aloadN X20.here hx rfl (hb hby own_d1_73) rfl rfl k) ?_
  show own_Fin _ _ _ _ _ _ (T20.setTop (mkF m 74 #[.val (.ref a1), .val (.int (0 : Int32)), .val (.long q1), .second] [(.ref a1)]))
  refine own_to (fun t k => XS.iloadN X20.here hx rfl (hb hby own_d1_74) rfl k) ?_
  show own_Fin _ _ _ _ _ _ (T20.setTop (mkF m 75 #[.val (.ref a1), .val (.int (0 : Int32)), .val (.long q1), .second] [(.int (0 : Int32)), (.ref a1)]))
  refine own_to (fun t k => XS.bipush X20.here hx rfl (hb hby own_d1_75) k) ?_
  show own_Fin _ _ _ _ _ _ (T20.setTop (mkF m 77 #[.val (.ref a1), .val (.int (0 : Int32)), .val (.long q1), .second] [(.int (7 : Int32)), (.int (0 : Int32)), (.ref a1)]))
  refine own_to (fun t k => XS.iadd X20.here hx rfl (hb hby own_d1_77) rfl k) ?_
  show own_Fin _ _ _ _ _ _ (T20.setTop (mkF m 78 #[.val (.ref a1), .val (.int (0 : Int32)), .val (.long q1), .second] [(.int (7 : Int32)), (.ref a1)]))
  refine own_to (fun t k => XS.lloadN X20.here hx rfl (hb hby own_d1_78) rfl k) ?_
  show own_Fin _ _ _ _ _ _ (T20.setTop (mkF m 79 #[.val (.ref a1), .val (.int (0 : Int32)), .val (.long q1), .second] [(.long q1), (.int (7 : Int32)), (.ref a1)]))
  refine own_to (fun t k => XS.bipush X20.here hx rfl (hb hby own_d1_79) k) ?_
  show own_Fin _ _ _ _ _ _ (T20.setTop (mkF m 81 #[.val (.ref a1), .val (.int (0 : Int32)), .val (.long q1), .second] [(.int (56 : Int32)), (.long q1), (.int (7 : Int32)), (.ref a1)]))
  refine own_to (fun t k => XS.lushr X20.here hx rfl (hb hby own_d1_81) rfl k) ?_
  show own_Fin _ _ _ _ _ _ (T20.setTop (mkF m 82 #[.val (.ref a1), .val (.int (0 : Int32)), .val (.long q1), .second] [(.long ((q1.toUInt64 >>> ((56 : Int32) &&& 0x3f).toInt64.toUInt64).toInt64)), (.int (7 : Int32)), (.ref a1)]))
  refine own_to (fun t k => XS.l2i X20.here hx rfl (hb hby own_d1_82) rfl k) ?_
  show own_Fin _ _ _ _ _ _ (T20.setTop (mkF m 83 #[.val (.ref a1), .val (.int (0 : Int32)), .val (.long q1), .second] [(.int (((q1.toUInt64 >>> ((56 : Int32) &&& 0x3f).toInt64.toUInt64).toInt64).toInt32)), (.int (7 : Int32)), (.ref a1)]))
  refine own_to (fun t k => XS.i2b X20.here hx rfl (hb hby own_d1_83) rfl k) ?_
  show own_Fin _ _ _ _ _ _ (T20.setTop (mkF m 84 #[.val (.ref a1), .val (.int (0 : Int32)), .val (.long q1), .second] [(.int ((((q1.toUInt64 >>> ((56 : Int32) &&& 0x3f).toInt64.toUInt64).toInt64).toInt32).toInt8.toInt32)), (.int (7 : Int32)), (.ref a1)]))
  obtain ⟨cl22, Ar22, qa22, Sa22, Na22, Ha22, Ga22⟩ := id Vb21
  have hin23 : ¬ ((7 : Int32) < 0 ∨ cl22.slots.size ≤ ((7 : Int32)).toNatClampNeg) := inb_of Sa22 ⟨by decide, by decide⟩
  obtain ⟨T23, h23, X23, e23, W23, st23⟩ := stB X20 hx hZ e20 Ar22 (j := (7 : Int32)) hin23 (g := (mkF m 84 #[.val (.ref a1), .val (.int (0 : Int32)), .val (.long q1), .second] [(.int ((((q1.toUInt64 >>> ((56 : Int32) &&& 0x3f).toInt64.toUInt64).toInt64).toInt32).toInt8.toInt32)), (.int (7 : Int32)), (.ref a1)])) rfl rfl (hb hby own_d1_84)
  rw [own_idem _] at W23
  have N23 := Fr.snoc X23 N20 g_a1
  have KK23 : Keep h0 h23 [a1] := KK20.wr W23 (Or.inl (List.mem_of_getElem? (i := 0) rfl))
  have V23 : Arv Z h23 a1 k .byte (32 : Int32) ((((((((vs.set (0 + 0) (.int (own_b q1 0))).set (0 + 1) (.int (own_b q1 1))).set (0 + 2) (.int (own_b q1 2))).set (0 + 3) (.int (own_b q1 3))).set (0 + 4) (.int (own_b q1 4))).set (0 + 5) (.int (own_b q1 5))).set (0 + 6) (.int (own_b q1 6))).set (0 + 7) (.int ((((q1.toUInt64 >>> ((56 : Int32) &&& 0x3f).toInt64.toUInt64).toInt64).toInt32).toInt8.toInt32))) (.int (0 : Int32)) := Arv.set Ar22 qa22 Sa22 Na22 Ha22 Ga22 (fits_nar_byte _) W23 (0 + 7) rfl (by simp [hl])
  refine own_to (fun t k => st23 t k) ?_
  show own_Fin _ _ _ _ _ _ (T23.setTop (mkF m 85 #[.val (.ref a1), .val (.int (0 : Int32)), .val (.long q1), .second] []))
  have Vb24 : Arv Z h23 a1 k .byte (32 : Int32) ((((((((vs.set (0 + 0) (.int (own_b q1 0))).set (0 + 1) (.int (own_b q1 1))).set (0 + 2) (.int (own_b q1 2))).set (0 + 3) (.int (own_b q1 3))).set (0 + 4) (.int (own_b q1 4))).set (0 + 5) (.int (own_b q1 5))).set (0 + 6) (.int (own_b q1 6))).set (0 + 7) (.int (own_b q1 7))) (.int (0 : Int32)) := V23
  refine own_retV X23 hx hlk hret (hb hby own_d1_85) (by decide) (by decide) ?_
  try rw [e23]
  exact ⟨rfl, N23, KK23, Vb24⟩
theorem own_d4_0 : decode method_3_code 0 = .ok (.aload_n 0, 1) := by decide +kernel
theorem own_d4_1 : decode method_3_code 1 = .ok (.iload_n 1, 1) := by decide +kernel
theorem own_d4_2 : decode method_3_code 2 = .ok (.baload, 1) := by decide +kernel
theorem own_d4_3 : decode method_3_code 3 = .ok (.lload_n 2, 1) := by decide +kernel
theorem own_d4_4 : decode method_3_code 4 = .ok (.l2i, 1) := by decide +kernel
theorem own_d4_5 : decode method_3_code 5 = .ok (.i2b, 1) := by decide +kernel
theorem own_d4_6 : decode method_3_code 6 = .ok (.if_icmp .ne 107, 3) := by decide +kernel
theorem own_d4_9 : decode method_3_code 9 = .ok (.aload_n 0, 1) := by decide +kernel
theorem own_d4_10 : decode method_3_code 10 = .ok (.iload_n 1, 1) := by decide +kernel
theorem own_d4_11 : decode method_3_code 11 = .ok (.iconst 1, 1) := by decide +kernel
theorem own_d4_12 : decode method_3_code 12 = .ok (.iadd, 1) := by decide +kernel
theorem own_d4_13 : decode method_3_code 13 = .ok (.baload, 1) := by decide +kernel
theorem own_d4_14 : decode method_3_code 14 = .ok (.lload_n 2, 1) := by decide +kernel
theorem own_d4_15 : decode method_3_code 15 = .ok (.bipush 8, 2) := by decide +kernel
theorem own_d4_17 : decode method_3_code 17 = .ok (.lushr, 1) := by decide +kernel
theorem own_d4_18 : decode method_3_code 18 = .ok (.l2i, 1) := by decide +kernel
theorem own_d4_19 : decode method_3_code 19 = .ok (.i2b, 1) := by decide +kernel
theorem own_d4_20 : decode method_3_code 20 = .ok (.if_icmp .ne 93, 3) := by decide +kernel
theorem own_d4_23 : decode method_3_code 23 = .ok (.aload_n 0, 1) := by decide +kernel
theorem own_d4_24 : decode method_3_code 24 = .ok (.iload_n 1, 1) := by decide +kernel
theorem own_d4_25 : decode method_3_code 25 = .ok (.iconst 2, 1) := by decide +kernel
theorem own_d4_26 : decode method_3_code 26 = .ok (.iadd, 1) := by decide +kernel
theorem own_d4_27 : decode method_3_code 27 = .ok (.baload, 1) := by decide +kernel
theorem own_d4_28 : decode method_3_code 28 = .ok (.lload_n 2, 1) := by decide +kernel
theorem own_d4_29 : decode method_3_code 29 = .ok (.bipush 16, 2) := by decide +kernel
theorem own_d4_31 : decode method_3_code 31 = .ok (.lushr, 1) := by decide +kernel
theorem own_d4_32 : decode method_3_code 32 = .ok (.l2i, 1) := by decide +kernel
theorem own_d4_33 : decode method_3_code 33 = .ok (.i2b, 1) := by decide +kernel
theorem own_d4_34 : decode method_3_code 34 = .ok (.if_icmp .ne 79, 3) := by decide +kernel
theorem own_d4_37 : decode method_3_code 37 = .ok (.aload_n 0, 1) := by decide +kernel
theorem own_d4_38 : decode method_3_code 38 = .ok (.iload_n 1, 1) := by decide +kernel
theorem own_d4_39 : decode method_3_code 39 = .ok (.iconst 3, 1) := by decide +kernel
theorem own_d4_40 : decode method_3_code 40 = .ok (.iadd, 1) := by decide +kernel
theorem own_d4_41 : decode method_3_code 41 = .ok (.baload, 1) := by decide +kernel
theorem own_d4_42 : decode method_3_code 42 = .ok (.lload_n 2, 1) := by decide +kernel
theorem own_d4_43 : decode method_3_code 43 = .ok (.bipush 24, 2) := by decide +kernel
theorem own_d4_45 : decode method_3_code 45 = .ok (.lushr, 1) := by decide +kernel
theorem own_d4_46 : decode method_3_code 46 = .ok (.l2i, 1) := by decide +kernel
theorem own_d4_47 : decode method_3_code 47 = .ok (.i2b, 1) := by decide +kernel
theorem own_d4_48 : decode method_3_code 48 = .ok (.if_icmp .ne 65, 3) := by decide +kernel
theorem own_d4_51 : decode method_3_code 51 = .ok (.aload_n 0, 1) := by decide +kernel
theorem own_d4_52 : decode method_3_code 52 = .ok (.iload_n 1, 1) := by decide +kernel
theorem own_d4_53 : decode method_3_code 53 = .ok (.iconst 4, 1) := by decide +kernel
theorem own_d4_54 : decode method_3_code 54 = .ok (.iadd, 1) := by decide +kernel
theorem own_d4_55 : decode method_3_code 55 = .ok (.baload, 1) := by decide +kernel
theorem own_d4_56 : decode method_3_code 56 = .ok (.lload_n 2, 1) := by decide +kernel
theorem own_d4_57 : decode method_3_code 57 = .ok (.bipush 32, 2) := by decide +kernel
theorem own_d4_59 : decode method_3_code 59 = .ok (.lushr, 1) := by decide +kernel
theorem own_d4_60 : decode method_3_code 60 = .ok (.l2i, 1) := by decide +kernel
theorem own_d4_61 : decode method_3_code 61 = .ok (.i2b, 1) := by decide +kernel
theorem own_d4_62 : decode method_3_code 62 = .ok (.if_icmp .ne 51, 3) := by decide +kernel
theorem own_d4_65 : decode method_3_code 65 = .ok (.aload_n 0, 1) := by decide +kernel
theorem own_d4_66 : decode method_3_code 66 = .ok (.iload_n 1, 1) := by decide +kernel
theorem own_d4_67 : decode method_3_code 67 = .ok (.iconst 5, 1) := by decide +kernel
theorem own_d4_68 : decode method_3_code 68 = .ok (.iadd, 1) := by decide +kernel
theorem own_d4_69 : decode method_3_code 69 = .ok (.baload, 1) := by decide +kernel
theorem own_d4_70 : decode method_3_code 70 = .ok (.lload_n 2, 1) := by decide +kernel
theorem own_d4_71 : decode method_3_code 71 = .ok (.bipush 40, 2) := by decide +kernel
theorem own_d4_73 : decode method_3_code 73 = .ok (.lushr, 1) := by decide +kernel
theorem own_d4_74 : decode method_3_code 74 = .ok (.l2i, 1) := by decide +kernel
theorem own_d4_75 : decode method_3_code 75 = .ok (.i2b, 1) := by decide +kernel
theorem own_d4_76 : decode method_3_code 76 = .ok (.if_icmp .ne 37, 3) := by decide +kernel
theorem own_d4_79 : decode method_3_code 79 = .ok (.aload_n 0, 1) := by decide +kernel
theorem own_d4_80 : decode method_3_code 80 = .ok (.iload_n 1, 1) := by decide +kernel
theorem own_d4_81 : decode method_3_code 81 = .ok (.bipush 6, 2) := by decide +kernel
theorem own_d4_83 : decode method_3_code 83 = .ok (.iadd, 1) := by decide +kernel
theorem own_d4_84 : decode method_3_code 84 = .ok (.baload, 1) := by decide +kernel
theorem own_d4_85 : decode method_3_code 85 = .ok (.lload_n 2, 1) := by decide +kernel
theorem own_d4_86 : decode method_3_code 86 = .ok (.bipush 48, 2) := by decide +kernel
theorem own_d4_88 : decode method_3_code 88 = .ok (.lushr, 1) := by decide +kernel
theorem own_d4_89 : decode method_3_code 89 = .ok (.l2i, 1) := by decide +kernel
theorem own_d4_90 : decode method_3_code 90 = .ok (.i2b, 1) := by decide +kernel
theorem own_d4_91 : decode method_3_code 91 = .ok (.if_icmp .ne 22, 3) := by decide +kernel
theorem own_d4_94 : decode method_3_code 94 = .ok (.aload_n 0, 1) := by decide +kernel
theorem own_d4_95 : decode method_3_code 95 = .ok (.iload_n 1, 1) := by decide +kernel
theorem own_d4_96 : decode method_3_code 96 = .ok (.bipush 7, 2) := by decide +kernel
theorem own_d4_98 : decode method_3_code 98 = .ok (.iadd, 1) := by decide +kernel
theorem own_d4_99 : decode method_3_code 99 = .ok (.baload, 1) := by decide +kernel
theorem own_d4_100 : decode method_3_code 100 = .ok (.lload_n 2, 1) := by decide +kernel
theorem own_d4_101 : decode method_3_code 101 = .ok (.bipush 56, 2) := by decide +kernel
theorem own_d4_103 : decode method_3_code 103 = .ok (.lushr, 1) := by decide +kernel
theorem own_d4_104 : decode method_3_code 104 = .ok (.l2i, 1) := by decide +kernel
theorem own_d4_105 : decode method_3_code 105 = .ok (.i2b, 1) := by decide +kernel
theorem own_d4_106 : decode method_3_code 106 = .ok (.if_icmp .ne 7, 3) := by decide +kernel
theorem own_d4_109 : decode method_3_code 109 = .ok (.iconst 1, 1) := by decide +kernel
theorem own_d4_110 : decode method_3_code 110 = .ok (.goto 4, 3) := by decide +kernel
theorem own_d4_113 : decode method_3_code 113 = .ok (.iconst 0, 1) := by decide +kernel
theorem own_d4_114 : decode method_3_code 114 = .ok (.ireturn, 1) := by decide +kernel
theorem own_same0_ef (m : MethodId) (a1 : Addr) (q1 : Int64) : entryFrame m #[(.ref a1), (.int (0 : Int32)), (.long q1)] 4 = mkF m 0 #[.val (.ref a1), .val (.int (0 : Int32)), .val (.long q1), .second] [] := by first | (simp [entryFrame, mkF, argsToLocals, Value.category]; done) | rfl
set_option maxRecDepth 65536 in
set_option maxHeartbeats 40000000 in
theorem own_same0 (l : Launch) (Z : State) (a0 : Array Value) (hw : ∀ d ∈ tables_1, d.before a0 Z = true) (ws : List Jvm.Cond) (a1 : Addr) (q1 : Int64) (k : ClassId) (vs : List Value) (h0 : Heap) (n0 : Nat) (Z0 : n0 ≤ h0.size) (V1 : Arv Z h0 a1 k .byte (32 : Int32) vs (.int (0 : Int32))) (hv0 : vs.getD 0 (.int (0 : Int32)) = .int (own_b q1 0)) (hv1 : vs.getD 1 (.int (0 : Int32)) = .int (own_b q1 1)) (hv2 : vs.getD 2 (.int (0 : Int32)) = .int (own_b q1 2)) (hv3 : vs.getD 3 (.int (0 : Int32)) = .int (own_b q1 3)) (hv4 : vs.getD 4 (.int (0 : Int32)) = .int (own_b q1 4)) (hv5 : vs.getD 5 (.int (0 : Int32)) = .int (own_b q1 5)) (hv6 : vs.getD 6 (.int (0 : Int32)) = .int (own_b q1 6)) (hv7 : vs.getD 7 (.int (0 : Int32)) = .int (own_b q1 7)) :
    own_Met l Z (⟨"com/example/nuthatch/nuthatch/engine/Sha256RequireDigestPinLaw", "same", "([BIJ)Z"⟩ : MethodName) method_3_code 4 (some .boolean) ws ({ frames := 0, cells := 0, slots := 0, locals := 0 } : Room) #[(.ref a1), (.int (0 : Int32)), (.long q1)] h0 (fun v h L => v = some (.int 1) ∧ Fr n0 L ∧ h = h0) := by
  refine own_enter (plainFor_of_name own_pn0) ?_
  intro p e s m below meth c s₁ X0 hx hZ hby hml hown hnm hret hlk e0
  have N0 := Fr.nil n0
  rw [own_same0_ef m a1 q1]
  show own_Fin _ _ _ _ _ _ (s₁.setTop (mkF m 0 #[.val (.ref a1), .val (.int (0 : Int32)), .val (.long q1), .second] []))
  refine own_to (fun t k => XS.aloadN X0.here hx rfl (hb hby own_d4_0) rfl rfl k) ?_
  show own_Fin _ _ _ _ _ _ (s₁.setTop (mkF m 1 #[.val (.ref a1), .val (.int (0 : Int32)), .val (.long q1), .second] [(.ref a1)]))
  refine own_to (fun t k => XS.iloadN X0.here hx rfl (hb hby own_d4_1) rfl k) ?_
  show own_Fin _ _ _ _ _ _ (s₁.setTop (mkF m 2 #[.val (.ref a1), .val (.int (0 : Int32)), .val (.long q1), .second] [(.int (0 : Int32)), (.ref a1)]))
  obtain ⟨cl25, Ar25, qa25, Sa25, Na25, Ha25, Ga25⟩ := id V1
  have hin26 : ¬ ((0 : Int32) < 0 ∨ cl25.slots.size ≤ ((0 : Int32)).toNatClampNeg) := inb_of Sa25 ⟨by decide, by decide⟩
  refine own_to (fun t k => X0.baloadBytes hx (j := (0 : Int32)) (v := (.int ((q1.toInt32).toInt8.toInt32))) (by rw [e0]; exact Ar25.1) (State.isArrayOf_alike hZ.alike Ar25.2.1) Ar25.2.2 hin26 (Has.at Ha25 hin26 hv0) (g := (mkF m 2 #[.val (.ref a1), .val (.int (0 : Int32)), .val (.long q1), .second] [(.int (0 : Int32)), (.ref a1)])) rfl rfl (hb hby own_d4_2) _ k) ?_
  show own_Fin _ _ _ _ _ _ (s₁.setTop (mkF m 3 #[.val (.ref a1), .val (.int (0 : Int32)), .val (.long q1), .second] [(.int ((q1.toInt32).toInt8.toInt32))]))
  refine own_to (fun t k => XS.lloadN X0.here hx rfl (hb hby own_d4_3) rfl k) ?_
  show own_Fin _ _ _ _ _ _ (s₁.setTop (mkF m 4 #[.val (.ref a1), .val (.int (0 : Int32)), .val (.long q1), .second] [(.long q1), (.int ((q1.toInt32).toInt8.toInt32))]))
  refine own_to (fun t k => XS.l2i X0.here hx rfl (hb hby own_d4_4) rfl k) ?_
  show own_Fin _ _ _ _ _ _ (s₁.setTop (mkF m 5 #[.val (.ref a1), .val (.int (0 : Int32)), .val (.long q1), .second] [(.int (q1.toInt32)), (.int ((q1.toInt32).toInt8.toInt32))]))
  refine own_to (fun t k => XS.i2b X0.here hx rfl (hb hby own_d4_5) rfl k) ?_
  show own_Fin _ _ _ _ _ _ (s₁.setTop (mkF m 6 #[.val (.ref a1), .val (.int (0 : Int32)), .val (.long q1), .second] [(.int ((q1.toInt32).toInt8.toInt32)), (.int ((q1.toInt32).toInt8.toInt32))]))
  refine own_to (fun t k => XS.icmpNo X0.here hx rfl (hb hby own_d4_6) rfl (teq rfl).2 k) ?_
  show own_Fin _ _ _ _ _ _ (s₁.setTop (mkF m 9 #[.val (.ref a1), .val (.int (0 : Int32)), .val (.long q1), .second] []))
  refine own_to (fun t k => XS.aloadN X0.here hx rfl (hb hby own_d4_9) rfl rfl k) ?_
  show own_Fin _ _ _ _ _ _ (s₁.setTop (mkF m 10 #[.val (.ref a1), .val (.int (0 : Int32)), .val (.long q1), .second] [(.ref a1)]))
  refine own_to (fun t k => XS.iloadN X0.here hx rfl (hb hby own_d4_10) rfl k) ?_
  show own_Fin _ _ _ _ _ _ (s₁.setTop (mkF m 11 #[.val (.ref a1), .val (.int (0 : Int32)), .val (.long q1), .second] [(.int (0 : Int32)), (.ref a1)]))
  refine own_to (fun t k => XS.iconst X0.here hx rfl (hb hby own_d4_11) k) ?_
  show own_Fin _ _ _ _ _ _ (s₁.setTop (mkF m 12 #[.val (.ref a1), .val (.int (0 : Int32)), .val (.long q1), .second] [(.int (1 : Int32)), (.int (0 : Int32)), (.ref a1)]))
  refine own_to (fun t k => XS.iadd X0.here hx rfl (hb hby own_d4_12) rfl k) ?_
  show own_Fin _ _ _ _ _ _ (s₁.setTop (mkF m 13 #[.val (.ref a1), .val (.int (0 : Int32)), .val (.long q1), .second] [(.int (1 : Int32)), (.ref a1)]))
  obtain ⟨cl27, Ar27, qa27, Sa27, Na27, Ha27, Ga27⟩ := id V1
  have hin28 : ¬ ((1 : Int32) < 0 ∨ cl27.slots.size ≤ ((1 : Int32)).toNatClampNeg) := inb_of Sa27 ⟨by decide, by decide⟩
  refine own_to (fun t k => X0.baloadBytes hx (j := (1 : Int32)) (v := (.int ((((q1.toUInt64 >>> ((8 : Int32) &&& 0x3f).toInt64.toUInt64).toInt64).toInt32).toInt8.toInt32))) (by rw [e0]; exact Ar27.1) (State.isArrayOf_alike hZ.alike Ar27.2.1) Ar27.2.2 hin28 (Has.at Ha27 hin28 hv1) (g := (mkF m 13 #[.val (.ref a1), .val (.int (0 : Int32)), .val (.long q1), .second] [(.int (1 : Int32)), (.ref a1)])) rfl rfl (hb hby own_d4_13) _ k) ?_
  show own_Fin _ _ _ _ _ _ (s₁.setTop (mkF m 14 #[.val (.ref a1), .val (.int (0 : Int32)), .val (.long q1), .second] [(.int ((((q1.toUInt64 >>> ((8 : Int32) &&& 0x3f).toInt64.toUInt64).toInt64).toInt32).toInt8.toInt32))]))
  refine own_to (fun t k => XS.lloadN X0.here hx rfl (hb hby own_d4_14) rfl k) ?_
  show own_Fin _ _ _ _ _ _ (s₁.setTop (mkF m 15 #[.val (.ref a1), .val (.int (0 : Int32)), .val (.long q1), .second] [(.long q1), (.int ((((q1.toUInt64 >>> ((8 : Int32) &&& 0x3f).toInt64.toUInt64).toInt64).toInt32).toInt8.toInt32))]))
  refine own_to (fun t k => XS.bipush X0.here hx rfl (hb hby own_d4_15) k) ?_
  show own_Fin _ _ _ _ _ _ (s₁.setTop (mkF m 17 #[.val (.ref a1), .val (.int (0 : Int32)), .val (.long q1), .second] [(.int (8 : Int32)), (.long q1), (.int ((((q1.toUInt64 >>> ((8 : Int32) &&& 0x3f).toInt64.toUInt64).toInt64).toInt32).toInt8.toInt32))]))
  refine own_to (fun t k => XS.lushr X0.here hx rfl (hb hby own_d4_17) rfl k) ?_
  show own_Fin _ _ _ _ _ _ (s₁.setTop (mkF m 18 #[.val (.ref a1), .val (.int (0 : Int32)), .val (.long q1), .second] [(.long ((q1.toUInt64 >>> ((8 : Int32) &&& 0x3f).toInt64.toUInt64).toInt64)), (.int ((((q1.toUInt64 >>> ((8 : Int32) &&& 0x3f).toInt64.toUInt64).toInt64).toInt32).toInt8.toInt32))]))
  refine own_to (fun t k => XS.l2i X0.here hx rfl (hb hby own_d4_18) rfl k) ?_
  show own_Fin _ _ _ _ _ _ (s₁.setTop (mkF m 19 #[.val (.ref a1), .val (.int (0 : Int32)), .val (.long q1), .second] [(.int (((q1.toUInt64 >>> ((8 : Int32) &&& 0x3f).toInt64.toUInt64).toInt64).toInt32)), (.int ((((q1.toUInt64 >>> ((8 : Int32) &&& 0x3f).toInt64.toUInt64).toInt64).toInt32).toInt8.toInt32))]))
  refine own_to (fun t k => XS.i2b X0.here hx rfl (hb hby own_d4_19) rfl k) ?_
  show own_Fin _ _ _ _ _ _ (s₁.setTop (mkF m 20 #[.val (.ref a1), .val (.int (0 : Int32)), .val (.long q1), .second] [(.int ((((q1.toUInt64 >>> ((8 : Int32) &&& 0x3f).toInt64.toUInt64).toInt64).toInt32).toInt8.toInt32)), (.int ((((q1.toUInt64 >>> ((8 : Int32) &&& 0x3f).toInt64.toUInt64).toInt64).toInt32).toInt8.toInt32))]))
  refine own_to (fun t k => XS.icmpNo X0.here hx rfl (hb hby own_d4_20) rfl (teq rfl).2 k) ?_
  show own_Fin _ _ _ _ _ _ (s₁.setTop (mkF m 23 #[.val (.ref a1), .val (.int (0 : Int32)), .val (.long q1), .second] []))
  refine own_to (fun t k => XS.aloadN X0.here hx rfl (hb hby own_d4_23) rfl rfl k) ?_
  show own_Fin _ _ _ _ _ _ (s₁.setTop (mkF m 24 #[.val (.ref a1), .val (.int (0 : Int32)), .val (.long q1), .second] [(.ref a1)]))
  refine own_to (fun t k => XS.iloadN X0.here hx rfl (hb hby own_d4_24) rfl k) ?_
  show own_Fin _ _ _ _ _ _ (s₁.setTop (mkF m 25 #[.val (.ref a1), .val (.int (0 : Int32)), .val (.long q1), .second] [(.int (0 : Int32)), (.ref a1)]))
  refine own_to (fun t k => XS.iconst X0.here hx rfl (hb hby own_d4_25) k) ?_
  show own_Fin _ _ _ _ _ _ (s₁.setTop (mkF m 26 #[.val (.ref a1), .val (.int (0 : Int32)), .val (.long q1), .second] [(.int (2 : Int32)), (.int (0 : Int32)), (.ref a1)]))
  refine own_to (fun t k => XS.iadd X0.here hx rfl (hb hby own_d4_26) rfl k) ?_
  show own_Fin _ _ _ _ _ _ (s₁.setTop (mkF m 27 #[.val (.ref a1), .val (.int (0 : Int32)), .val (.long q1), .second] [(.int (2 : Int32)), (.ref a1)]))
  obtain ⟨cl29, Ar29, qa29, Sa29, Na29, Ha29, Ga29⟩ := id V1
  have hin30 : ¬ ((2 : Int32) < 0 ∨ cl29.slots.size ≤ ((2 : Int32)).toNatClampNeg) := inb_of Sa29 ⟨by decide, by decide⟩
  refine own_to (fun t k => X0.baloadBytes hx (j := (2 : Int32)) (v := (.int ((((q1.toUInt64 >>> ((16 : Int32) &&& 0x3f).toInt64.toUInt64).toInt64).toInt32).toInt8.toInt32))) (by rw [e0]; exact Ar29.1) (State.isArrayOf_alike hZ.alike Ar29.2.1) Ar29.2.2 hin30 (Has.at Ha29 hin30 hv2) (g := (mkF m 27 #[.val (.ref a1), .val (.int (0 : Int32)), .val (.long q1), .second] [(.int (2 : Int32)), (.ref a1)])) rfl rfl (hb hby own_d4_27) _ k) ?_
  show own_Fin _ _ _ _ _ _ (s₁.setTop (mkF m 28 #[.val (.ref a1), .val (.int (0 : Int32)), .val (.long q1), .second] [(.int ((((q1.toUInt64 >>> ((16 : Int32) &&& 0x3f).toInt64.toUInt64).toInt64).toInt32).toInt8.toInt32))]))
  refine own_to (fun t k => XS.lloadN X0.here hx rfl (hb hby own_d4_28) rfl k) ?_
  show own_Fin _ _ _ _ _ _ (s₁.setTop (mkF m 29 #[.val (.ref a1), .val (.int (0 : Int32)), .val (.long q1), .second] [(.long q1), (.int ((((q1.toUInt64 >>> ((16 : Int32) &&& 0x3f).toInt64.toUInt64).toInt64).toInt32).toInt8.toInt32))]))
  refine own_to (fun t k => XS.bipush X0.here hx rfl (hb hby own_d4_29) k) ?_
  show own_Fin _ _ _ _ _ _ (s₁.setTop (mkF m 31 #[.val (.ref a1), .val (.int (0 : Int32)), .val (.long q1), .second] [(.int (16 : Int32)), (.long q1), (.int ((((q1.toUInt64 >>> ((16 : Int32) &&& 0x3f).toInt64.toUInt64).toInt64).toInt32).toInt8.toInt32))]))
  refine own_to (fun t k => XS.lushr X0.here hx rfl (hb hby own_d4_31) rfl k) ?_
  show own_Fin _ _ _ _ _ _ (s₁.setTop (mkF m 32 #[.val (.ref a1), .val (.int (0 : Int32)), .val (.long q1), .second] [(.long ((q1.toUInt64 >>> ((16 : Int32) &&& 0x3f).toInt64.toUInt64).toInt64)), (.int ((((q1.toUInt64 >>> ((16 : Int32) &&& 0x3f).toInt64.toUInt64).toInt64).toInt32).toInt8.toInt32))]))
  refine own_to (fun t k => XS.l2i X0.here hx rfl (hb hby own_d4_32) rfl k) ?_
  show own_Fin _ _ _ _ _ _ (s₁.setTop (mkF m 33 #[.val (.ref a1), .val (.int (0 : Int32)), .val (.long q1), .second] [(.int (((q1.toUInt64 >>> ((16 : Int32) &&& 0x3f).toInt64.toUInt64).toInt64).toInt32)), (.int ((((q1.toUInt64 >>> ((16 : Int32) &&& 0x3f).toInt64.toUInt64).toInt64).toInt32).toInt8.toInt32))]))
  refine own_to (fun t k => XS.i2b X0.here hx rfl (hb hby own_d4_33) rfl k) ?_
  show own_Fin _ _ _ _ _ _ (s₁.setTop (mkF m 34 #[.val (.ref a1), .val (.int (0 : Int32)), .val (.long q1), .second] [(.int ((((q1.toUInt64 >>> ((16 : Int32) &&& 0x3f).toInt64.toUInt64).toInt64).toInt32).toInt8.toInt32)), (.int ((((q1.toUInt64 >>> ((16 : Int32) &&& 0x3f).toInt64.toUInt64).toInt64).toInt32).toInt8.toInt32))]))
  refine own_to (fun t k => XS.icmpNo X0.here hx rfl (hb hby own_d4_34) rfl (teq rfl).2 k) ?_
  show own_Fin _ _ _ _ _ _ (s₁.setTop (mkF m 37 #[.val (.ref a1), .val (.int (0 : Int32)), .val (.long q1), .second] []))
  refine own_to (fun t k => XS.aloadN X0.here hx rfl (hb hby own_d4_37) rfl rfl k) ?_
  show own_Fin _ _ _ _ _ _ (s₁.setTop (mkF m 38 #[.val (.ref a1), .val (.int (0 : Int32)), .val (.long q1), .second] [(.ref a1)]))
  refine own_to (fun t k => XS.iloadN X0.here hx rfl (hb hby own_d4_38) rfl k) ?_
  show own_Fin _ _ _ _ _ _ (s₁.setTop (mkF m 39 #[.val (.ref a1), .val (.int (0 : Int32)), .val (.long q1), .second] [(.int (0 : Int32)), (.ref a1)]))
  refine own_to (fun t k => XS.iconst X0.here hx rfl (hb hby own_d4_39) k) ?_
  show own_Fin _ _ _ _ _ _ (s₁.setTop (mkF m 40 #[.val (.ref a1), .val (.int (0 : Int32)), .val (.long q1), .second] [(.int (3 : Int32)), (.int (0 : Int32)), (.ref a1)]))
  refine own_to (fun t k => XS.iadd X0.here hx rfl (hb hby own_d4_40) rfl k) ?_
  show own_Fin _ _ _ _ _ _ (s₁.setTop (mkF m 41 #[.val (.ref a1), .val (.int (0 : Int32)), .val (.long q1), .second] [(.int (3 : Int32)), (.ref a1)]))
  obtain ⟨cl31, Ar31, qa31, Sa31, Na31, Ha31, Ga31⟩ := id V1
  have hin32 : ¬ ((3 : Int32) < 0 ∨ cl31.slots.size ≤ ((3 : Int32)).toNatClampNeg) := inb_of Sa31 ⟨by decide, by decide⟩
  refine own_to (fun t k => X0.baloadBytes hx (j := (3 : Int32)) (v := (.int ((((q1.toUInt64 >>> ((24 : Int32) &&& 0x3f).toInt64.toUInt64).toInt64).toInt32).toInt8.toInt32))) (by rw [e0]; exact Ar31.1) (State.isArrayOf_alike hZ.alike Ar31.2.1) Ar31.2.2 hin32 (Has.at Ha31 hin32 hv3) (g := (mkF m 41 #[.val (.ref a1), .val (.int (0 : Int32)), .val (.long q1), .second] [(.int (3 : Int32)), (.ref a1)])) rfl rfl (hb hby own_d4_41) _ k) ?_
  show own_Fin _ _ _ _ _ _ (s₁.setTop (mkF m 42 #[.val (.ref a1), .val (.int (0 : Int32)), .val (.long q1), .second] [(.int ((((q1.toUInt64 >>> ((24 : Int32) &&& 0x3f).toInt64.toUInt64).toInt64).toInt32).toInt8.toInt32))]))
  refine own_to (fun t k => XS.lloadN X0.here hx rfl (hb hby own_d4_42) rfl k) ?_
  show own_Fin _ _ _ _ _ _ (s₁.setTop (mkF m 43 #[.val (.ref a1), .val (.int (0 : Int32)), .val (.long q1), .second] [(.long q1), (.int ((((q1.toUInt64 >>> ((24 : Int32) &&& 0x3f).toInt64.toUInt64).toInt64).toInt32).toInt8.toInt32))]))
  refine own_to (fun t k => XS.bipush X0.here hx rfl (hb hby own_d4_43) k) ?_
  show own_Fin _ _ _ _ _ _ (s₁.setTop (mkF m 45 #[.val (.ref a1), .val (.int (0 : Int32)), .val (.long q1), .second] [(.int (24 : Int32)), (.long q1), (.int ((((q1.toUInt64 >>> ((24 : Int32) &&& 0x3f).toInt64.toUInt64).toInt64).toInt32).toInt8.toInt32))]))
  refine own_to (fun t k => XS.lushr X0.here hx rfl (hb hby own_d4_45) rfl k) ?_
  show own_Fin _ _ _ _ _ _ (s₁.setTop (mkF m 46 #[.val (.ref a1), .val (.int (0 : Int32)), .val (.long q1), .second] [(.long ((q1.toUInt64 >>> ((24 : Int32) &&& 0x3f).toInt64.toUInt64).toInt64)), (.int ((((q1.toUInt64 >>> ((24 : Int32) &&& 0x3f).toInt64.toUInt64).toInt64).toInt32).toInt8.toInt32))]))
  refine own_to (fun t k => XS.l2i X0.here hx rfl (hb hby own_d4_46) rfl k) ?_
  show own_Fin _ _ _ _ _ _ (s₁.setTop (mkF m 47 #[.val (.ref a1), .val (.int (0 : Int32)), .val (.long q1), .second] [(.int (((q1.toUInt64 >>> ((24 : Int32) &&& 0x3f).toInt64.toUInt64).toInt64).toInt32)), (.int ((((q1.toUInt64 >>> ((24 : Int32) &&& 0x3f).toInt64.toUInt64).toInt64).toInt32).toInt8.toInt32))]))
  refine own_to (fun t k => XS.i2b X0.here hx rfl (hb hby own_d4_47) rfl k) ?_
  show own_Fin _ _ _ _ _ _ (s₁.setTop (mkF m 48 #[.val (.ref a1), .val (.int (0 : Int32)), .val (.long q1), .second] [(.int ((((q1.toUInt64 >>> ((24 : Int32) &&& 0x3f).toInt64.toUInt64).toInt64).toInt32).toInt8.toInt32)), (.int ((((q1.toUInt64 >>> ((24 : Int32) &&& 0x3f).toInt64.toUInt64).toInt64).toInt32).toInt8.toInt32))]))
  refine own_to (fun t k => XS.icmpNo X0.here hx rfl (hb hby own_d4_48) rfl (teq rfl).2 k) ?_
  show own_Fin _ _ _ _ _ _ (s₁.setTop (mkF m 51 #[.val (.ref a1), .val (.int (0 : Int32)), .val (.long q1), .second] []))
  refine own_to (fun t k => XS.aloadN X0.here hx rfl (hb hby own_d4_51) rfl rfl k) ?_
  show own_Fin _ _ _ _ _ _ (s₁.setTop (mkF m 52 #[.val (.ref a1), .val (.int (0 : Int32)), .val (.long q1), .second] [(.ref a1)]))
  refine own_to (fun t k => XS.iloadN X0.here hx rfl (hb hby own_d4_52) rfl k) ?_
  show own_Fin _ _ _ _ _ _ (s₁.setTop (mkF m 53 #[.val (.ref a1), .val (.int (0 : Int32)), .val (.long q1), .second] [(.int (0 : Int32)), (.ref a1)]))
  refine own_to (fun t k => XS.iconst X0.here hx rfl (hb hby own_d4_53) k) ?_
  show own_Fin _ _ _ _ _ _ (s₁.setTop (mkF m 54 #[.val (.ref a1), .val (.int (0 : Int32)), .val (.long q1), .second] [(.int (4 : Int32)), (.int (0 : Int32)), (.ref a1)]))
  refine own_to (fun t k => XS.iadd X0.here hx rfl (hb hby own_d4_54) rfl k) ?_
  show own_Fin _ _ _ _ _ _ (s₁.setTop (mkF m 55 #[.val (.ref a1), .val (.int (0 : Int32)), .val (.long q1), .second] [(.int (4 : Int32)), (.ref a1)]))
  obtain ⟨cl33, Ar33, qa33, Sa33, Na33, Ha33, Ga33⟩ := id V1
  have hin34 : ¬ ((4 : Int32) < 0 ∨ cl33.slots.size ≤ ((4 : Int32)).toNatClampNeg) := inb_of Sa33 ⟨by decide, by decide⟩
  refine own_to (fun t k => X0.baloadBytes hx (j := (4 : Int32)) (v := (.int ((((q1.toUInt64 >>> ((32 : Int32) &&& 0x3f).toInt64.toUInt64).toInt64).toInt32).toInt8.toInt32))) (by rw [e0]; exact Ar33.1) (State.isArrayOf_alike hZ.alike Ar33.2.1) Ar33.2.2 hin34 (Has.at Ha33 hin34 hv4) (g := (mkF m 55 #[.val (.ref a1), .val (.int (0 : Int32)), .val (.long q1), .second] [(.int (4 : Int32)), (.ref a1)])) rfl rfl (hb hby own_d4_55) _ k) ?_
  show own_Fin _ _ _ _ _ _ (s₁.setTop (mkF m 56 #[.val (.ref a1), .val (.int (0 : Int32)), .val (.long q1), .second] [(.int ((((q1.toUInt64 >>> ((32 : Int32) &&& 0x3f).toInt64.toUInt64).toInt64).toInt32).toInt8.toInt32))]))
  refine own_to (fun t k => XS.lloadN X0.here hx rfl (hb hby own_d4_56) rfl k) ?_
  show own_Fin _ _ _ _ _ _ (s₁.setTop (mkF m 57 #[.val (.ref a1), .val (.int (0 : Int32)), .val (.long q1), .second] [(.long q1), (.int ((((q1.toUInt64 >>> ((32 : Int32) &&& 0x3f).toInt64.toUInt64).toInt64).toInt32).toInt8.toInt32))]))
  refine own_to (fun t k => XS.bipush X0.here hx rfl (hb hby own_d4_57) k) ?_
  show own_Fin _ _ _ _ _ _ (s₁.setTop (mkF m 59 #[.val (.ref a1), .val (.int (0 : Int32)), .val (.long q1), .second] [(.int (32 : Int32)), (.long q1), (.int ((((q1.toUInt64 >>> ((32 : Int32) &&& 0x3f).toInt64.toUInt64).toInt64).toInt32).toInt8.toInt32))]))
  refine own_to (fun t k => XS.lushr X0.here hx rfl (hb hby own_d4_59) rfl k) ?_
  show own_Fin _ _ _ _ _ _ (s₁.setTop (mkF m 60 #[.val (.ref a1), .val (.int (0 : Int32)), .val (.long q1), .second] [(.long ((q1.toUInt64 >>> ((32 : Int32) &&& 0x3f).toInt64.toUInt64).toInt64)), (.int ((((q1.toUInt64 >>> ((32 : Int32) &&& 0x3f).toInt64.toUInt64).toInt64).toInt32).toInt8.toInt32))]))
  refine own_to (fun t k => XS.l2i X0.here hx rfl (hb hby own_d4_60) rfl k) ?_
  show own_Fin _ _ _ _ _ _ (s₁.setTop (mkF m 61 #[.val (.ref a1), .val (.int (0 : Int32)), .val (.long q1), .second] [(.int (((q1.toUInt64 >>> ((32 : Int32) &&& 0x3f).toInt64.toUInt64).toInt64).toInt32)), (.int ((((q1.toUInt64 >>> ((32 : Int32) &&& 0x3f).toInt64.toUInt64).toInt64).toInt32).toInt8.toInt32))]))
  refine own_to (fun t k => XS.i2b X0.here hx rfl (hb hby own_d4_61) rfl k) ?_
  show own_Fin _ _ _ _ _ _ (s₁.setTop (mkF m 62 #[.val (.ref a1), .val (.int (0 : Int32)), .val (.long q1), .second] [(.int ((((q1.toUInt64 >>> ((32 : Int32) &&& 0x3f).toInt64.toUInt64).toInt64).toInt32).toInt8.toInt32)), (.int ((((q1.toUInt64 >>> ((32 : Int32) &&& 0x3f).toInt64.toUInt64).toInt64).toInt32).toInt8.toInt32))]))
  refine own_to (fun t k => XS.icmpNo X0.here hx rfl (hb hby own_d4_62) rfl (teq rfl).2 k) ?_
  show own_Fin _ _ _ _ _ _ (s₁.setTop (mkF m 65 #[.val (.ref a1), .val (.int (0 : Int32)), .val (.long q1), .second] []))
  refine own_to (fun t k => XS.aloadN X0.here hx rfl (hb hby own_d4_65) rfl rfl k) ?_
  show own_Fin _ _ _ _ _ _ (s₁.setTop (mkF m 66 #[.val (.ref a1), .val (.int (0 : Int32)), .val (.long q1), .second] [(.ref a1)]))
  refine own_to (fun t k => XS.iloadN X0.here hx rfl (hb hby own_d4_66) rfl k) ?_
  show own_Fin _ _ _ _ _ _ (s₁.setTop (mkF m 67 #[.val (.ref a1), .val (.int (0 : Int32)), .val (.long q1), .second] [(.int (0 : Int32)), (.ref a1)]))
  refine own_to (fun t k => XS.iconst X0.here hx rfl (hb hby own_d4_67) k) ?_
  show own_Fin _ _ _ _ _ _ (s₁.setTop (mkF m 68 #[.val (.ref a1), .val (.int (0 : Int32)), .val (.long q1), .second] [(.int (5 : Int32)), (.int (0 : Int32)), (.ref a1)]))
  refine own_to (fun t k => XS.iadd X0.here hx rfl (hb hby own_d4_68) rfl k) ?_
  show own_Fin _ _ _ _ _ _ (s₁.setTop (mkF m 69 #[.val (.ref a1), .val (.int (0 : Int32)), .val (.long q1), .second] [(.int (5 : Int32)), (.ref a1)]))
  obtain ⟨cl35, Ar35, qa35, Sa35, Na35, Ha35, Ga35⟩ := id V1
  have hin36 : ¬ ((5 : Int32) < 0 ∨ cl35.slots.size ≤ ((5 : Int32)).toNatClampNeg) := inb_of Sa35 ⟨by decide, by decide⟩
  refine own_to (fun t k => X0.baloadBytes hx (j := (5 : Int32)) (v := (.int ((((q1.toUInt64 >>> ((40 : Int32) &&& 0x3f).toInt64.toUInt64).toInt64).toInt32).toInt8.toInt32))) (by rw [e0]; exact Ar35.1) (State.isArrayOf_alike hZ.alike Ar35.2.1) Ar35.2.2 hin36 (Has.at Ha35 hin36 hv5) (g := (mkF m 69 #[.val (.ref a1), .val (.int (0 : Int32)), .val (.long q1), .second] [(.int (5 : Int32)), (.ref a1)])) rfl rfl (hb hby own_d4_69) _ k) ?_
  show own_Fin _ _ _ _ _ _ (s₁.setTop (mkF m 70 #[.val (.ref a1), .val (.int (0 : Int32)), .val (.long q1), .second] [(.int ((((q1.toUInt64 >>> ((40 : Int32) &&& 0x3f).toInt64.toUInt64).toInt64).toInt32).toInt8.toInt32))]))
  refine own_to (fun t k => XS.lloadN X0.here hx rfl (hb hby own_d4_70) rfl k) ?_
  show own_Fin _ _ _ _ _ _ (s₁.setTop (mkF m 71 #[.val (.ref a1), .val (.int (0 : Int32)), .val (.long q1), .second] [(.long q1), (.int ((((q1.toUInt64 >>> ((40 : Int32) &&& 0x3f).toInt64.toUInt64).toInt64).toInt32).toInt8.toInt32))]))
  refine own_to (fun t k => XS.bipush X0.here hx rfl (hb hby own_d4_71) k) ?_
  show own_Fin _ _ _ _ _ _ (s₁.setTop (mkF m 73 #[.val (.ref a1), .val (.int (0 : Int32)), .val (.long q1), .second] [(.int (40 : Int32)), (.long q1), (.int ((((q1.toUInt64 >>> ((40 : Int32) &&& 0x3f).toInt64.toUInt64).toInt64).toInt32).toInt8.toInt32))]))
  refine own_to (fun t k => XS.lushr X0.here hx rfl (hb hby own_d4_73) rfl k) ?_
  show own_Fin _ _ _ _ _ _ (s₁.setTop (mkF m 74 #[.val (.ref a1), .val (.int (0 : Int32)), .val (.long q1), .second] [(.long ((q1.toUInt64 >>> ((40 : Int32) &&& 0x3f).toInt64.toUInt64).toInt64)), (.int ((((q1.toUInt64 >>> ((40 : Int32) &&& 0x3f).toInt64.toUInt64).toInt64).toInt32).toInt8.toInt32))]))
  refine own_to (fun t k => XS.l2i X0.here hx rfl (hb hby own_d4_74) rfl k) ?_
  show own_Fin _ _ _ _ _ _ (s₁.setTop (mkF m 75 #[.val (.ref a1), .val (.int (0 : Int32)), .val (.long q1), .second] [(.int (((q1.toUInt64 >>> ((40 : Int32) &&& 0x3f).toInt64.toUInt64).toInt64).toInt32)), (.int ((((q1.toUInt64 >>> ((40 : Int32) &&& 0x3f).toInt64.toUInt64).toInt64).toInt32).toInt8.toInt32))]))
  refine own_to (fun t k => XS.i2b X0.here hx rfl (hb hby own_d4_75) rfl k) ?_
  show own_Fin _ _ _ _ _ _ (s₁.setTop (mkF m 76 #[.val (.ref a1), .val (.int (0 : Int32)), .val (.long q1), .second] [(.int ((((q1.toUInt64 >>> ((40 : Int32) &&& 0x3f).toInt64.toUInt64).toInt64).toInt32).toInt8.toInt32)), (.int ((((q1.toUInt64 >>> ((40 : Int32) &&& 0x3f).toInt64.toUInt64).toInt64).toInt32).toInt8.toInt32))]))
  refine own_to (fun t k => XS.icmpNo X0.here hx rfl (hb hby own_d4_76) rfl (teq rfl).2 k) ?_
  show own_Fin _ _ _ _ _ _ (s₁.setTop (mkF m 79 #[.val (.ref a1), .val (.int (0 : Int32)), .val (.long q1), .second] []))
  refine own_to (fun t k => XS.aloadN X0.here hx rfl (hb hby own_d4_79) rfl rfl k) ?_
  show own_Fin _ _ _ _ _ _ (s₁.setTop (mkF m 80 #[.val (.ref a1), .val (.int (0 : Int32)), .val (.long q1), .second] [(.ref a1)]))
  refine own_to (fun t k => XS.iloadN X0.here hx rfl (hb hby own_d4_80) rfl k) ?_
  show own_Fin _ _ _ _ _ _ (s₁.setTop (mkF m 81 #[.val (.ref a1), .val (.int (0 : Int32)), .val (.long q1), .second] [(.int (0 : Int32)), (.ref a1)]))
  refine own_to (fun t k => XS.bipush X0.here hx rfl (hb hby own_d4_81) k) ?_
  show own_Fin _ _ _ _ _ _ (s₁.setTop (mkF m 83 #[.val (.ref a1), .val (.int (0 : Int32)), .val (.long q1), .second] [(.int (6 : Int32)), (.int (0 : Int32)), (.ref a1)]))
  refine own_to (fun t k => XS.iadd X0.here hx rfl (hb hby own_d4_83) rfl k) ?_
  show own_Fin _ _ _ _ _ _ (s₁.setTop (mkF m 84 #[.val (.ref a1), .val (.int (0 : Int32)), .val (.long q1), .second] [(.int (6 : Int32)), (.ref a1)]))
  obtain ⟨cl37, Ar37, qa37, Sa37, Na37, Ha37, Ga37⟩ := id V1
  have hin38 : ¬ ((6 : Int32) < 0 ∨ cl37.slots.size ≤ ((6 : Int32)).toNatClampNeg) := inb_of Sa37 ⟨by decide, by decide⟩
  refine own_to (fun t k => X0.baloadBytes hx (j := (6 : Int32)) (v := (.int ((((q1.toUInt64 >>> ((48 : Int32) &&& 0x3f).toInt64.toUInt64).toInt64).toInt32).toInt8.toInt32))) (by rw [e0]; exact Ar37.1) (State.isArrayOf_alike hZ.alike Ar37.2.1) Ar37.2.2 hin38 (Has.at Ha37 hin38 hv6) (g := (mkF m 84 #[.val (.ref a1), .val (.int (0 : Int32)), .val (.long q1), .second] [(.int (6 : Int32)), (.ref a1)])) rfl rfl (hb hby own_d4_84) _ k) ?_
  show own_Fin _ _ _ _ _ _ (s₁.setTop (mkF m 85 #[.val (.ref a1), .val (.int (0 : Int32)), .val (.long q1), .second] [(.int ((((q1.toUInt64 >>> ((48 : Int32) &&& 0x3f).toInt64.toUInt64).toInt64).toInt32).toInt8.toInt32))]))
  refine own_to (fun t k => XS.lloadN X0.here hx rfl (hb hby own_d4_85) rfl k) ?_
  show own_Fin _ _ _ _ _ _ (s₁.setTop (mkF m 86 #[.val (.ref a1), .val (.int (0 : Int32)), .val (.long q1), .second] [(.long q1), (.int ((((q1.toUInt64 >>> ((48 : Int32) &&& 0x3f).toInt64.toUInt64).toInt64).toInt32).toInt8.toInt32))]))
  refine own_to (fun t k => XS.bipush X0.here hx rfl (hb hby own_d4_86) k) ?_
  show own_Fin _ _ _ _ _ _ (s₁.setTop (mkF m 88 #[.val (.ref a1), .val (.int (0 : Int32)), .val (.long q1), .second] [(.int (48 : Int32)), (.long q1), (.int ((((q1.toUInt64 >>> ((48 : Int32) &&& 0x3f).toInt64.toUInt64).toInt64).toInt32).toInt8.toInt32))]))
  refine own_to (fun t k => XS.lushr X0.here hx rfl (hb hby own_d4_88) rfl k) ?_
  show own_Fin _ _ _ _ _ _ (s₁.setTop (mkF m 89 #[.val (.ref a1), .val (.int (0 : Int32)), .val (.long q1), .second] [(.long ((q1.toUInt64 >>> ((48 : Int32) &&& 0x3f).toInt64.toUInt64).toInt64)), (.int ((((q1.toUInt64 >>> ((48 : Int32) &&& 0x3f).toInt64.toUInt64).toInt64).toInt32).toInt8.toInt32))]))
  refine own_to (fun t k => XS.l2i X0.here hx rfl (hb hby own_d4_89) rfl k) ?_
  show own_Fin _ _ _ _ _ _ (s₁.setTop (mkF m 90 #[.val (.ref a1), .val (.int (0 : Int32)), .val (.long q1), .second] [(.int (((q1.toUInt64 >>> ((48 : Int32) &&& 0x3f).toInt64.toUInt64).toInt64).toInt32)), (.int ((((q1.toUInt64 >>> ((48 : Int32) &&& 0x3f).toInt64.toUInt64).toInt64).toInt32).toInt8.toInt32))]))
  refine own_to (fun t k => XS.i2b X0.here hx rfl (hb hby own_d4_90) rfl k) ?_
  show own_Fin _ _ _ _ _ _ (s₁.setTop (mkF m 91 #[.val (.ref a1), .val (.int (0 : Int32)), .val (.long q1), .second] [(.int ((((q1.toUInt64 >>> ((48 : Int32) &&& 0x3f).toInt64.toUInt64).toInt64).toInt32).toInt8.toInt32)), (.int ((((q1.toUInt64 >>> ((48 : Int32) &&& 0x3f).toInt64.toUInt64).toInt64).toInt32).toInt8.toInt32))]))
  refine own_to (fun t k => XS.icmpNo X0.here hx rfl (hb hby own_d4_91) rfl (teq rfl).2 k) ?_
  show own_Fin _ _ _ _ _ _ (s₁.setTop (mkF m 94 #[.val (.ref a1), .val (.int (0 : Int32)), .val (.long q1), .second] []))
  refine own_to (fun t k => XS.aloadN X0.here hx rfl (hb hby own_d4_94) rfl rfl k) ?_
  show own_Fin _ _ _ _ _ _ (s₁.setTop (mkF m 95 #[.val (.ref a1), .val (.int (0 : Int32)), .val (.long q1), .second] [(.ref a1)]))
  refine own_to (fun t k => XS.iloadN X0.here hx rfl (hb hby own_d4_95) rfl k) ?_
  show own_Fin _ _ _ _ _ _ (s₁.setTop (mkF m 96 #[.val (.ref a1), .val (.int (0 : Int32)), .val (.long q1), .second] [(.int (0 : Int32)), (.ref a1)]))
  refine own_to (fun t k => XS.bipush X0.here hx rfl (hb hby own_d4_96) k) ?_
  show own_Fin _ _ _ _ _ _ (s₁.setTop (mkF m 98 #[.val (.ref a1), .val (.int (0 : Int32)), .val (.long q1), .second] [(.int (7 : Int32)), (.int (0 : Int32)), (.ref a1)]))
  refine own_to (fun t k => XS.iadd X0.here hx rfl (hb hby own_d4_98) rfl k) ?_
  show own_Fin _ _ _ _ _ _ (s₁.setTop (mkF m 99 #[.val (.ref a1), .val (.int (0 : Int32)), .val (.long q1), .second] [(.int (7 : Int32)), (.ref a1)]))
  obtain ⟨cl39, Ar39, qa39, Sa39, Na39, Ha39, Ga39⟩ := id V1
  have hin40 : ¬ ((7 : Int32) < 0 ∨ cl39.slots.size ≤ ((7 : Int32)).toNatClampNeg) := inb_of Sa39 ⟨by decide, by decide⟩
  refine own_to (fun t k => X0.baloadBytes hx (j := (7 : Int32)) (v := (.int ((((q1.toUInt64 >>> ((56 : Int32) &&& 0x3f).toInt64.toUInt64).toInt64).toInt32).toInt8.toInt32))) (by rw [e0]; exact Ar39.1) (State.isArrayOf_alike hZ.alike Ar39.2.1) Ar39.2.2 hin40 (Has.at Ha39 hin40 hv7) (g := (mkF m 99 #[.val (.ref a1), .val (.int (0 : Int32)), .val (.long q1), .second] [(.int (7 : Int32)), (.ref a1)])) rfl rfl (hb hby own_d4_99) _ k) ?_
  show own_Fin _ _ _ _ _ _ (s₁.setTop (mkF m 100 #[.val (.ref a1), .val (.int (0 : Int32)), .val (.long q1), .second] [(.int ((((q1.toUInt64 >>> ((56 : Int32) &&& 0x3f).toInt64.toUInt64).toInt64).toInt32).toInt8.toInt32))]))
  refine own_to (fun t k => XS.lloadN X0.here hx rfl (hb hby own_d4_100) rfl k) ?_
  show own_Fin _ _ _ _ _ _ (s₁.setTop (mkF m 101 #[.val (.ref a1), .val (.int (0 : Int32)), .val (.long q1), .second] [(.long q1), (.int ((((q1.toUInt64 >>> ((56 : Int32) &&& 0x3f).toInt64.toUInt64).toInt64).toInt32).toInt8.toInt32))]))
  refine own_to (fun t k => XS.bipush X0.here hx rfl (hb hby own_d4_101) k) ?_
  show own_Fin _ _ _ _ _ _ (s₁.setTop (mkF m 103 #[.val (.ref a1), .val (.int (0 : Int32)), .val (.long q1), .second] [(.int (56 : Int32)), (.long q1), (.int ((((q1.toUInt64 >>> ((56 : Int32) &&& 0x3f).toInt64.toUInt64).toInt64).toInt32).toInt8.toInt32))]))
  refine own_to (fun t k => XS.lushr X0.here hx rfl (hb hby own_d4_103) rfl k) ?_
  show own_Fin _ _ _ _ _ _ (s₁.setTop (mkF m 104 #[.val (.ref a1), .val (.int (0 : Int32)), .val (.long q1), .second] [(.long ((q1.toUInt64 >>> ((56 : Int32) &&& 0x3f).toInt64.toUInt64).toInt64)), (.int ((((q1.toUInt64 >>> ((56 : Int32) &&& 0x3f).toInt64.toUInt64).toInt64).toInt32).toInt8.toInt32))]))
  refine own_to (fun t k => XS.l2i X0.here hx rfl (hb hby own_d4_104) rfl k) ?_
  show own_Fin _ _ _ _ _ _ (s₁.setTop (mkF m 105 #[.val (.ref a1), .val (.int (0 : Int32)), .val (.long q1), .second] [(.int (((q1.toUInt64 >>> ((56 : Int32) &&& 0x3f).toInt64.toUInt64).toInt64).toInt32)), (.int ((((q1.toUInt64 >>> ((56 : Int32) &&& 0x3f).toInt64.toUInt64).toInt64).toInt32).toInt8.toInt32))]))
  refine own_to (fun t k => XS.i2b X0.here hx rfl (hb hby own_d4_105) rfl k) ?_
  show own_Fin _ _ _ _ _ _ (s₁.setTop (mkF m 106 #[.val (.ref a1), .val (.int (0 : Int32)), .val (.long q1), .second] [(.int ((((q1.toUInt64 >>> ((56 : Int32) &&& 0x3f).toInt64.toUInt64).toInt64).toInt32).toInt8.toInt32)), (.int ((((q1.toUInt64 >>> ((56 : Int32) &&& 0x3f).toInt64.toUInt64).toInt64).toInt32).toInt8.toInt32))]))
  refine own_to (fun t k => XS.icmpNo X0.here hx rfl (hb hby own_d4_106) rfl (teq rfl).2 k) ?_
  show own_Fin _ _ _ _ _ _ (s₁.setTop (mkF m 109 #[.val (.ref a1), .val (.int (0 : Int32)), .val (.long q1), .second] []))
  refine own_to (fun t k => XS.iconst X0.here hx rfl (hb hby own_d4_109) k) ?_
  show own_Fin _ _ _ _ _ _ (s₁.setTop (mkF m 110 #[.val (.ref a1), .val (.int (0 : Int32)), .val (.long q1), .second] [(.int (1 : Int32))]))
  refine own_to (fun t k => XS.goto X0.here hx rfl (pc0 := 110) (pc' := 114) rfl (hb hby own_d4_110) (by decide) (by decide) k) ?_
  show own_Fin _ _ _ _ _ _ (s₁.setTop (mkF m 114 #[.val (.ref a1), .val (.int (0 : Int32)), .val (.long q1), .second] [(.int (1 : Int32))]))
  refine own_retN X0 hx hlk (t := .boolean) hret (by simp) (hb hby own_d4_114) (by decide) (by decide) ?_
  try rw [e0]
  exact ⟨rfl, N0, rfl⟩
theorem own_put8_ef (m : MethodId) (a1 : Addr) (q1 : Int64) : entryFrame m #[(.ref a1), (.int (8 : Int32)), (.long q1)] 4 = mkF m 0 #[.val (.ref a1), .val (.int (8 : Int32)), .val (.long q1), .second] [] := by first | (simp [entryFrame, mkF, argsToLocals, Value.category]; done) | rfl
set_option maxRecDepth 65536 in
set_option maxHeartbeats 40000000 in
theorem own_put8 (l : Launch) (Z : State) (a0 : Array Value) (hw : ∀ d ∈ tables_1, d.before a0 Z = true) (ws : List Jvm.Cond) (a1 : Addr) (q1 : Int64) (k : ClassId) (vs : List Value) (h0 : Heap) (n0 : Nat) (Z0 : n0 ≤ h0.size) (V1 : Arv Z h0 a1 k .byte (32 : Int32) vs (.int (0 : Int32))) (hl : vs.length = 32) (g_a1 : n0 ≤ a1) :
    own_Met l Z (⟨"com/example/nuthatch/nuthatch/engine/Sha256RequireDigestPinLaw", "put", "([BIJ)V"⟩ : MethodName) method_2_code 4 none ws ({ frames := 0, cells := 0, slots := 0, locals := 0 } : Room) #[(.ref a1), (.int (8 : Int32)), (.long q1)] h0 (fun v h L => v = none ∧ Fr n0 L ∧ Keep h0 h [a1] ∧ Arv Z h a1 k .byte (32 : Int32) (own_put vs 8 q1) (.int (0 : Int32))) := by
  refine own_enter (plainFor_of_name own_pn0) ?_
  intro p e s m below meth c s₁ X0 hx hZ hby hml hown hnm hret hlk e0
  have N0 := Fr.nil n0
  rw [own_put8_ef m a1 q1]
  have KK0 : Keep h0 h0 [a1] := Keep.refl _ _
  show own_Fin _ _ _ _ _ _ (s₁.setTop (mkF m 0 #[.val (.ref a1), .val (.int (8 : Int32)), .val (.long q1), .second] []))
  refine own_to (fun t k => XS.aloadN X0.here hx rfl (hb hby own_d1_0) rfl rfl k) ?_
  show own_Fin _ _ _ _ _ _ (s₁.setTop (mkF m 1 #[.val (.ref a1), .val (.int (8 : Int32)), .val (.long q1), .second] [(.ref a1)]))
  refine own_to (fun t k => XS.iloadN X0.here hx rfl (hb hby own_d1_1) rfl k) ?_
  show own_Fin _ _ _ _ _ _ (s₁.setTop (mkF m 2 #[.val (.ref a1), .val (.int (8 : Int32)), .val (.long q1), .second] [(.int (8 : Int32)), (.ref a1)]))
  refine own_to (fun t k => XS.lloadN X0.here hx rfl (hb hby own_d1_2) rfl k) ?_
  show own_Fin _ _ _ _ _ _ (s₁.setTop (mkF m 3 #[.val (.ref a1), .val (.int (8 : Int32)), .val (.long q1), .second] [(.long q1), (.int (8 : Int32)), (.ref a1)]))
  refine own_to (fun t k => XS.l2i X0.here hx rfl (hb hby own_d1_3) rfl k) ?_
  show own_Fin _ _ _ _ _ _ (s₁.setTop (mkF m 4 #[.val (.ref a1), .val (.int (8 : Int32)), .val (.long q1), .second] [(.int (q1.toInt32)), (.int (8 : Int32)), (.ref a1)]))
  refine own_to (fun t k => XS.i2b X0.here hx rfl (hb hby own_d1_4) rfl k) ?_
  show own_Fin _ _ _ _ _ _ (s₁.setTop (mkF m 5 #[.val (.ref a1), .val (.int (8 : Int32)), .val (.long q1), .second] [(.int ((q1.toInt32).toInt8.toInt32)), (.int (8 : Int32)), (.ref a1)]))
  obtain ⟨cl41, Ar41, qa41, Sa41, Na41, Ha41, Ga41⟩ := id V1
  have hin42 : ¬ ((8 : Int32) < 0 ∨ cl41.slots.size ≤ ((8 : Int32)).toNatClampNeg) := inb_of Sa41 ⟨by decide, by decide⟩
  obtain ⟨T42, h42, X42, e42, W42, st42⟩ := stB X0 hx hZ e0 Ar41 (j := (8 : Int32)) hin42 (g := (mkF m 5 #[.val (.ref a1), .val (.int (8 : Int32)), .val (.long q1), .second] [(.int ((q1.toInt32).toInt8.toInt32)), (.int (8 : Int32)), (.ref a1)])) rfl rfl (hb hby own_d1_5)
  rw [own_idem _] at W42
  have N42 := Fr.snoc X42 N0 g_a1
  have KK42 : Keep h0 h42 [a1] := KK0.wr W42 (Or.inl (List.mem_of_getElem? (i := 0) rfl))
  have V42 : Arv Z h42 a1 k .byte (32 : Int32) (vs.set (8 + 0) (.int ((q1.toInt32).toInt8.toInt32))) (.int (0 : Int32)) := Arv.set Ar41 qa41 Sa41 Na41 Ha41 Ga41 (fits_nar_byte _) W42 (8 + 0) rfl (by simp [hl])
  refine own_to (fun t k => st42 t k) ?_
  show own_Fin _ _ _ _ _ _ (T42.setTop (mkF m 6 #[.val (.ref a1), .val (.int (8 : Int32)), .val (.long q1), .second] []))
  have Vb43 : Arv Z h42 a1 k .byte (32 : Int32) (vs.set (8 + 0) (.int (own_b q1 0))) (.int (0 : Int32)) := V42
  refine own_to (fun t k => XS.aloadN X42.here hx rfl (hb hby own_d1_6) rfl rfl k) ?_
  show own_Fin _ _ _ _ _ _ (T42.setTop (mkF m 7 #[.val (.ref a1), .val (.int (8 : Int32)), .val (.long q1), .second] [(.ref a1)]))
  refine own_to (fun t k => XS.iloadN X42.here hx rfl (hb hby own_d1_7) rfl k) ?_
  show own_Fin _ _ _ _ _ _ (T42.setTop (mkF m 8 #[.val (.ref a1), .val (.int (8 : Int32)), .val (.long q1), .second] [(.int (8 : Int32)), (.ref a1)]))
  refine own_to (fun t k => XS.iconst X42.here hx rfl (hb hby own_d1_8) k) ?_
  show own_Fin _ _ _ _ _ _ (T42.setTop (mkF m 9 #[.val (.ref a1), .val (.int (8 : Int32)), .val (.long q1), .second] [(.int (1 : Int32)), (.int (8 : Int32)), (.ref a1)]))
  refine own_to (fun t k => XS.iadd X42.here hx rfl (hb hby own_d1_9) rfl k) ?_
  show own_Fin _ _ _ _ _ _ (T42.setTop (mkF m 10 #[.val (.ref a1), .val (.int (8 : Int32)), .val (.long q1), .second] [(.int (9 : Int32)), (.ref a1)]))
  refine own_to (fun t k => XS.lloadN X42.here hx rfl (hb hby own_d1_10) rfl k) ?_
  show own_Fin _ _ _ _ _ _ (T42.setTop (mkF m 11 #[.val (.ref a1), .val (.int (8 : Int32)), .val (.long q1), .second] [(.long q1), (.int (9 : Int32)), (.ref a1)]))
  refine own_to (fun t k => XS.bipush X42.here hx rfl (hb hby own_d1_11) k) ?_
  show own_Fin _ _ _ _ _ _ (T42.setTop (mkF m 13 #[.val (.ref a1), .val (.int (8 : Int32)), .val (.long q1), .second] [(.int (8 : Int32)), (.long q1), (.int (9 : Int32)), (.ref a1)]))
  refine own_to (fun t k => XS.lushr X42.here hx rfl (hb hby own_d1_13) rfl k) ?_
  show own_Fin _ _ _ _ _ _ (T42.setTop (mkF m 14 #[.val (.ref a1), .val (.int (8 : Int32)), .val (.long q1), .second] [(.long ((q1.toUInt64 >>> ((8 : Int32) &&& 0x3f).toInt64.toUInt64).toInt64)), (.int (9 : Int32)), (.ref a1)]))
  refine own_to (fun t k => XS.l2i X42.here hx rfl (hb hby own_d1_14) rfl k) ?_
  show own_Fin _ _ _ _ _ _ (T42.setTop (mkF m 15 #[.val (.ref a1), .val (.int (8 : Int32)), .val (.long q1), .second] [(.int (((q1.toUInt64 >>> ((8 : Int32) &&& 0x3f).toInt64.toUInt64).toInt64).toInt32)), (.int (9 : Int32)), (.ref a1)]))
  refine own_to (fun t k => XS.i2b X42.here hx rfl (hb hby own_d1_15) rfl k) ?_
  show own_Fin _ _ _ _ _ _ (T42.setTop (mkF m 16 #[.val (.ref a1), .val (.int (8 : Int32)), .val (.long q1), .second] [(.int ((((q1.toUInt64 >>> ((8 : Int32) &&& 0x3f).toInt64.toUInt64).toInt64).toInt32).toInt8.toInt32)), (.int (9 : Int32)), (.ref a1)]))
  obtain ⟨cl44, Ar44, qa44, Sa44, Na44, Ha44, Ga44⟩ := id Vb43
  have hin45 : ¬ ((9 : Int32) < 0 ∨ cl44.slots.size ≤ ((9 : Int32)).toNatClampNeg) := inb_of Sa44 ⟨by decide, by decide⟩
  obtain ⟨T45, h45, X45, e45, W45, st45⟩ := stB X42 hx hZ e42 Ar44 (j := (9 : Int32)) hin45 (g := (mkF m 16 #[.val (.ref a1), .val (.int (8 : Int32)), .val (.long q1), .second] [(.int ((((q1.toUInt64 >>> ((8 : Int32) &&& 0x3f).toInt64.toUInt64).toInt64).toInt32).toInt8.toInt32)), (.int (9 : Int32)), (.ref a1)])) rfl rfl (hb hby own_d1_16)
  rw [own_idem _] at W45
  have N45 := Fr.snoc X45 N42 g_a1
  have KK45 : Keep h0 h45 [a1] := KK42.wr W45 (Or.inl (List.mem_of_getElem? (i := 0) rfl))
  have V45 : Arv Z h45 a1 k .byte (32 : Int32) ((vs.set (8 + 0) (.int (own_b q1 0))).set (8 + 1) (.int ((((q1.toUInt64 >>> ((8 : Int32) &&& 0x3f).toInt64.toUInt64).toInt64).toInt32).toInt8.toInt32))) (.int (0 : Int32)) := Arv.set Ar44 qa44 Sa44 Na44 Ha44 Ga44 (fits_nar_byte _) W45 (8 + 1) rfl (by simp [hl])
  refine own_to (fun t k => st45 t k) ?_
  show own_Fin _ _ _ _ _ _ (T45.setTop (mkF m 17 #[.val (.ref a1), .val (.int (8 : Int32)), .val (.long q1), .second] []))
  have Vb46 : Arv Z h45 a1 k .byte (32 : Int32) ((vs.set (8 + 0) (.int (own_b q1 0))).set (8 + 1) (.int (own_b q1 1))) (.int (0 : Int32)) := V45
  refine own_to (fun t k => XS.aloadN X45.here hx rfl (hb hby own_d1_17) rfl rfl k) ?_
  show own_Fin _ _ _ _ _ _ (T45.setTop (mkF m 18 #[.val (.ref a1), .val (.int (8 : Int32)), .val (.long q1), .second] [(.ref a1)]))
  refine own_to (fun t k => XS.iloadN X45.here hx rfl (hb hby own_d1_18) rfl k) ?_
  show own_Fin _ _ _ _ _ _ (T45.setTop (mkF m 19 #[.val (.ref a1), .val (.int (8 : Int32)), .val (.long q1), .second] [(.int (8 : Int32)), (.ref a1)]))
  refine own_to (fun t k => XS.iconst X45.here hx rfl (hb hby own_d1_19) k) ?_
  show own_Fin _ _ _ _ _ _ (T45.setTop (mkF m 20 #[.val (.ref a1), .val (.int (8 : Int32)), .val (.long q1), .second] [(.int (2 : Int32)), (.int (8 : Int32)), (.ref a1)]))
  refine own_to (fun t k => XS.iadd X45.here hx rfl (hb hby own_d1_20) rfl k) ?_
  show own_Fin _ _ _ _ _ _ (T45.setTop (mkF m 21 #[.val (.ref a1), .val (.int (8 : Int32)), .val (.long q1), .second] [(.int (10 : Int32)), (.ref a1)]))
  refine own_to (fun t k => XS.lloadN X45.here hx rfl (hb hby own_d1_21) rfl k) ?_
  show own_Fin _ _ _ _ _ _ (T45.setTop (mkF m 22 #[.val (.ref a1), .val (.int (8 : Int32)), .val (.long q1), .second] [(.long q1), (.int (10 : Int32)), (.ref a1)]))
  refine own_to (fun t k => XS.bipush X45.here hx rfl (hb hby own_d1_22) k) ?_
  show own_Fin _ _ _ _ _ _ (T45.setTop (mkF m 24 #[.val (.ref a1), .val (.int (8 : Int32)), .val (.long q1), .second] [(.int (16 : Int32)), (.long q1), (.int (10 : Int32)), (.ref a1)]))
  refine own_to (fun t k => XS.lushr X45.here hx rfl (hb hby own_d1_24) rfl k) ?_
  show own_Fin _ _ _ _ _ _ (T45.setTop (mkF m 25 #[.val (.ref a1), .val (.int (8 : Int32)), .val (.long q1), .second] [(.long ((q1.toUInt64 >>> ((16 : Int32) &&& 0x3f).toInt64.toUInt64).toInt64)), (.int (10 : Int32)), (.ref a1)]))
  refine own_to (fun t k => XS.l2i X45.here hx rfl (hb hby own_d1_25) rfl k) ?_
  show own_Fin _ _ _ _ _ _ (T45.setTop (mkF m 26 #[.val (.ref a1), .val (.int (8 : Int32)), .val (.long q1), .second] [(.int (((q1.toUInt64 >>> ((16 : Int32) &&& 0x3f).toInt64.toUInt64).toInt64).toInt32)), (.int (10 : Int32)), (.ref a1)]))
  refine own_to (fun t k => XS.i2b X45.here hx rfl (hb hby own_d1_26) rfl k) ?_
  show own_Fin _ _ _ _ _ _ (T45.setTop (mkF m 27 #[.val (.ref a1), .val (.int (8 : Int32)), .val (.long q1), .second] [(.int ((((q1.toUInt64 >>> ((16 : Int32) &&& 0x3f).toInt64.toUInt64).toInt64).toInt32).toInt8.toInt32)), (.int (10 : Int32)), (.ref a1)]))
  obtain ⟨cl47, Ar47, qa47, Sa47, Na47, Ha47, Ga47⟩ := id Vb46
  have hin48 : ¬ ((10 : Int32) < 0 ∨ cl47.slots.size ≤ ((10 : Int32)).toNatClampNeg) := inb_of Sa47 ⟨by decide, by decide⟩
  obtain ⟨T48, h48, X48, e48, W48, st48⟩ := stB X45 hx hZ e45 Ar47 (j := (10 : Int32)) hin48 (g := (mkF m 27 #[.val (.ref a1), .val (.int (8 : Int32)), .val (.long q1), .second] [(.int ((((q1.toUInt64 >>> ((16 : Int32) &&& 0x3f).toInt64.toUInt64).toInt64).toInt32).toInt8.toInt32)), (.int (10 : Int32)), (.ref a1)])) rfl rfl (hb hby own_d1_27)
  rw [own_idem _] at W48
  have N48 := Fr.snoc X48 N45 g_a1
  have KK48 : Keep h0 h48 [a1] := KK45.wr W48 (Or.inl (List.mem_of_getElem? (i := 0) rfl))
  have V48 : Arv Z h48 a1 k .byte (32 : Int32) (((vs.set (8 + 0) (.int (own_b q1 0))).set (8 + 1) (.int (own_b q1 1))).set (8 + 2) (.int ((((q1.toUInt64 >>> ((16 : Int32) &&& 0x3f).toInt64.toUInt64).toInt64).toInt32).toInt8.toInt32))) (.int (0 : Int32)) := Arv.set Ar47 qa47 Sa47 Na47 Ha47 Ga47 (fits_nar_byte _) W48 (8 + 2) rfl (by simp [hl])
  refine own_to (fun t k => st48 t k) ?_
  show own_Fin _ _ _ _ _ _ (T48.setTop (mkF m 28 #[.val (.ref a1), .val (.int (8 : Int32)), .val (.long q1), .second] []))
  have Vb49 : Arv Z h48 a1 k .byte (32 : Int32) (((vs.set (8 + 0) (.int (own_b q1 0))).set (8 + 1) (.int (own_b q1 1))).set (8 + 2) (.int (own_b q1 2))) (.int (0 : Int32)) := V48
  refine own_to (fun t k => XS.aloadN X48.here hx rfl (hb hby own_d1_28) rfl rfl k) ?_
  show own_Fin _ _ _ _ _ _ (T48.setTop (mkF m 29 #[.val (.ref a1), .val (.int (8 : Int32)), .val (.long q1), .second] [(.ref a1)]))
  refine own_to (fun t k => XS.iloadN X48.here hx rfl (hb hby own_d1_29) rfl k) ?_
  show own_Fin _ _ _ _ _ _ (T48.setTop (mkF m 30 #[.val (.ref a1), .val (.int (8 : Int32)), .val (.long q1), .second] [(.int (8 : Int32)), (.ref a1)]))
  refine own_to (fun t k => XS.iconst X48.here hx rfl (hb hby own_d1_30) k) ?_
  show own_Fin _ _ _ _ _ _ (T48.setTop (mkF m 31 #[.val (.ref a1), .val (.int (8 : Int32)), .val (.long q1), .second] [(.int (3 : Int32)), (.int (8 : Int32)), (.ref a1)]))
  refine own_to (fun t k => XS.iadd X48.here hx rfl (hb hby own_d1_31) rfl k) ?_
  show own_Fin _ _ _ _ _ _ (T48.setTop (mkF m 32 #[.val (.ref a1), .val (.int (8 : Int32)), .val (.long q1), .second] [(.int (11 : Int32)), (.ref a1)]))
  refine own_to (fun t k => XS.lloadN X48.here hx rfl (hb hby own_d1_32) rfl k) ?_
  show own_Fin _ _ _ _ _ _ (T48.setTop (mkF m 33 #[.val (.ref a1), .val (.int (8 : Int32)), .val (.long q1), .second] [(.long q1), (.int (11 : Int32)), (.ref a1)]))
  refine own_to (fun t k => XS.bipush X48.here hx rfl (hb hby own_d1_33) k) ?_
  show own_Fin _ _ _ _ _ _ (T48.setTop (mkF m 35 #[.val (.ref a1), .val (.int (8 : Int32)), .val (.long q1), .second] [(.int (24 : Int32)), (.long q1), (.int (11 : Int32)), (.ref a1)]))
  refine own_to (fun t k => XS.lushr X48.here hx rfl (hb hby own_d1_35) rfl k) ?_
  show own_Fin _ _ _ _ _ _ (T48.setTop (mkF m 36 #[.val (.ref a1), .val (.int (8 : Int32)), .val (.long q1), .second] [(.long ((q1.toUInt64 >>> ((24 : Int32) &&& 0x3f).toInt64.toUInt64).toInt64)), (.int (11 : Int32)), (.ref a1)]))
  refine own_to (fun t k => XS.l2i X48.here hx rfl (hb hby own_d1_36) rfl k) ?_
  show own_Fin _ _ _ _ _ _ (T48.setTop (mkF m 37 #[.val (.ref a1), .val (.int (8 : Int32)), .val (.long q1), .second] [(.int (((q1.toUInt64 >>> ((24 : Int32) &&& 0x3f).toInt64.toUInt64).toInt64).toInt32)), (.int (11 : Int32)), (.ref a1)]))
  refine own_to (fun t k => XS.i2b X48.here hx rfl (hb hby own_d1_37) rfl k) ?_
  show own_Fin _ _ _ _ _ _ (T48.setTop (mkF m 38 #[.val (.ref a1), .val (.int (8 : Int32)), .val (.long q1), .second] [(.int ((((q1.toUInt64 >>> ((24 : Int32) &&& 0x3f).toInt64.toUInt64).toInt64).toInt32).toInt8.toInt32)), (.int (11 : Int32)), (.ref a1)]))
  obtain ⟨cl50, Ar50, qa50, Sa50, Na50, Ha50, Ga50⟩ := id Vb49
  have hin51 : ¬ ((11 : Int32) < 0 ∨ cl50.slots.size ≤ ((11 : Int32)).toNatClampNeg) := inb_of Sa50 ⟨by decide, by decide⟩
  obtain ⟨T51, h51, X51, e51, W51, st51⟩ := stB X48 hx hZ e48 Ar50 (j := (11 : Int32)) hin51 (g := (mkF m 38 #[.val (.ref a1), .val (.int (8 : Int32)), .val (.long q1), .second] [(.int ((((q1.toUInt64 >>> ((24 : Int32) &&& 0x3f).toInt64.toUInt64).toInt64).toInt32).toInt8.toInt32)), (.int (11 : Int32)), (.ref a1)])) rfl rfl (hb hby own_d1_38)
  rw [own_idem _] at W51
  have N51 := Fr.snoc X51 N48 g_a1
  have KK51 : Keep h0 h51 [a1] := KK48.wr W51 (Or.inl (List.mem_of_getElem? (i := 0) rfl))
  have V51 : Arv Z h51 a1 k .byte (32 : Int32) ((((vs.set (8 + 0) (.int (own_b q1 0))).set (8 + 1) (.int (own_b q1 1))).set (8 + 2) (.int (own_b q1 2))).set (8 + 3) (.int ((((q1.toUInt64 >>> ((24 : Int32) &&& 0x3f).toInt64.toUInt64).toInt64).toInt32).toInt8.toInt32))) (.int (0 : Int32)) := Arv.set Ar50 qa50 Sa50 Na50 Ha50 Ga50 (fits_nar_byte _) W51 (8 + 3) rfl (by simp [hl])
  refine own_to (fun t k => st51 t k) ?_
  show own_Fin _ _ _ _ _ _ (T51.setTop (mkF m 39 #[.val (.ref a1), .val (.int (8 : Int32)), .val (.long q1), .second] []))
  have Vb52 : Arv Z h51 a1 k .byte (32 : Int32) ((((vs.set (8 + 0) (.int (own_b q1 0))).set (8 + 1) (.int (own_b q1 1))).set (8 + 2) (.int (own_b q1 2))).set (8 + 3) (.int (own_b q1 3))) (.int (0 : Int32)) := V51
  refine own_to (fun t k => XS.aloadN X51.here hx rfl (hb hby own_d1_39) rfl rfl k) ?_
  show own_Fin _ _ _ _ _ _ (T51.setTop (mkF m 40 #[.val (.ref a1), .val (.int (8 : Int32)), .val (.long q1), .second] [(.ref a1)]))
  refine own_to (fun t k => XS.iloadN X51.here hx rfl (hb hby own_d1_40) rfl k) ?_
  show own_Fin _ _ _ _ _ _ (T51.setTop (mkF m 41 #[.val (.ref a1), .val (.int (8 : Int32)), .val (.long q1), .second] [(.int (8 : Int32)), (.ref a1)]))
  refine own_to (fun t k => XS.iconst X51.here hx rfl (hb hby own_d1_41) k) ?_
  show own_Fin _ _ _ _ _ _ (T51.setTop (mkF m 42 #[.val (.ref a1), .val (.int (8 : Int32)), .val (.long q1), .second] [(.int (4 : Int32)), (.int (8 : Int32)), (.ref a1)]))
  refine own_to (fun t k => XS.iadd X51.here hx rfl (hb hby own_d1_42) rfl k) ?_
  show own_Fin _ _ _ _ _ _ (T51.setTop (mkF m 43 #[.val (.ref a1), .val (.int (8 : Int32)), .val (.long q1), .second] [(.int (12 : Int32)), (.ref a1)]))
  refine own_to (fun t k => XS.lloadN X51.here hx rfl (hb hby own_d1_43) rfl k) ?_
  show own_Fin _ _ _ _ _ _ (T51.setTop (mkF m 44 #[.val (.ref a1), .val (.int (8 : Int32)), .val (.long q1), .second] [(.long q1), (.int (12 : Int32)), (.ref a1)]))
  refine own_to (fun t k => XS.bipush X51.here hx rfl (hb hby own_d1_44) k) ?_
  show own_Fin _ _ _ _ _ _ (T51.setTop (mkF m 46 #[.val (.ref a1), .val (.int (8 : Int32)), .val (.long q1), .second] [(.int (32 : Int32)), (.long q1), (.int (12 : Int32)), (.ref a1)]))
  refine own_to (fun t k => XS.lushr X51.here hx rfl (hb hby own_d1_46) rfl k) ?_
  show own_Fin _ _ _ _ _ _ (T51.setTop (mkF m 47 #[.val (.ref a1), .val (.int (8 : Int32)), .val (.long q1), .second] [(.long ((q1.toUInt64 >>> ((32 : Int32) &&& 0x3f).toInt64.toUInt64).toInt64)), (.int (12 : Int32)), (.ref a1)]))
  refine own_to (fun t k => XS.l2i X51.here hx rfl (hb hby own_d1_47) rfl k) ?_
  show own_Fin _ _ _ _ _ _ (T51.setTop (mkF m 48 #[.val (.ref a1), .val (.int (8 : Int32)), .val (.long q1), .second] [(.int (((q1.toUInt64 >>> ((32 : Int32) &&& 0x3f).toInt64.toUInt64).toInt64).toInt32)), (.int (12 : Int32)), (.ref a1)]))
  refine own_to (fun t k => XS.i2b X51.here hx rfl (hb hby own_d1_48) rfl k) ?_
  show own_Fin _ _ _ _ _ _ (T51.setTop (mkF m 49 #[.val (.ref a1), .val (.int (8 : Int32)), .val (.long q1), .second] [(.int ((((q1.toUInt64 >>> ((32 : Int32) &&& 0x3f).toInt64.toUInt64).toInt64).toInt32).toInt8.toInt32)), (.int (12 : Int32)), (.ref a1)]))
  obtain ⟨cl53, Ar53, qa53, Sa53, Na53, Ha53, Ga53⟩ := id Vb52
  have hin54 : ¬ ((12 : Int32) < 0 ∨ cl53.slots.size ≤ ((12 : Int32)).toNatClampNeg) := inb_of Sa53 ⟨by decide, by decide⟩
  obtain ⟨T54, h54, X54, e54, W54, st54⟩ := stB X51 hx hZ e51 Ar53 (j := (12 : Int32)) hin54 (g := (mkF m 49 #[.val (.ref a1), .val (.int (8 : Int32)), .val (.long q1), .second] [(.int ((((q1.toUInt64 >>> ((32 : Int32) &&& 0x3f).toInt64.toUInt64).toInt64).toInt32).toInt8.toInt32)), (.int (12 : Int32)), (.ref a1)])) rfl rfl (hb hby own_d1_49)
  rw [own_idem _] at W54
  have N54 := Fr.snoc X54 N51 g_a1
  have KK54 : Keep h0 h54 [a1] := KK51.wr W54 (Or.inl (List.mem_of_getElem? (i := 0) rfl))
  have V54 : Arv Z h54 a1 k .byte (32 : Int32) (((((vs.set (8 + 0) (.int (own_b q1 0))).set (8 + 1) (.int (own_b q1 1))).set (8 + 2) (.int (own_b q1 2))).set (8 + 3) (.int (own_b q1 3))).set (8 + 4) (.int ((((q1.toUInt64 >>> ((32 : Int32) &&& 0x3f).toInt64.toUInt64).toInt64).toInt32).toInt8.toInt32))) (.int (0 : Int32)) := Arv.set Ar53 qa53 Sa53 Na53 Ha53 Ga53 (fits_nar_byte _) W54 (8 + 4) rfl (by simp [hl])
  refine own_to (fun t k => st54 t k) ?_
  show own_Fin _ _ _ _ _ _ (T54.setTop (mkF m 50 #[.val (.ref a1), .val (.int (8 : Int32)), .val (.long q1), .second] []))
  have Vb55 : Arv Z h54 a1 k .byte (32 : Int32) (((((vs.set (8 + 0) (.int (own_b q1 0))).set (8 + 1) (.int (own_b q1 1))).set (8 + 2) (.int (own_b q1 2))).set (8 + 3) (.int (own_b q1 3))).set (8 + 4) (.int (own_b q1 4))) (.int (0 : Int32)) := V54
  refine own_to (fun t k => XS.aloadN X54.here hx rfl (hb hby own_d1_50) rfl rfl k) ?_
  show own_Fin _ _ _ _ _ _ (T54.setTop (mkF m 51 #[.val (.ref a1), .val (.int (8 : Int32)), .val (.long q1), .second] [(.ref a1)]))
  refine own_to (fun t k => XS.iloadN X54.here hx rfl (hb hby own_d1_51) rfl k) ?_
  show own_Fin _ _ _ _ _ _ (T54.setTop (mkF m 52 #[.val (.ref a1), .val (.int (8 : Int32)), .val (.long q1), .second] [(.int (8 : Int32)), (.ref a1)]))
  refine own_to (fun t k => XS.iconst X54.here hx rfl (hb hby own_d1_52) k) ?_
  show own_Fin _ _ _ _ _ _ (T54.setTop (mkF m 53 #[.val (.ref a1), .val (.int (8 : Int32)), .val (.long q1), .second] [(.int (5 : Int32)), (.int (8 : Int32)), (.ref a1)]))
  refine own_to (fun t k => XS.iadd X54.here hx rfl (hb hby own_d1_53) rfl k) ?_
  show own_Fin _ _ _ _ _ _ (T54.setTop (mkF m 54 #[.val (.ref a1), .val (.int (8 : Int32)), .val (.long q1), .second] [(.int (13 : Int32)), (.ref a1)]))
  refine own_to (fun t k => XS.lloadN X54.here hx rfl (hb hby own_d1_54) rfl k) ?_
  show own_Fin _ _ _ _ _ _ (T54.setTop (mkF m 55 #[.val (.ref a1), .val (.int (8 : Int32)), .val (.long q1), .second] [(.long q1), (.int (13 : Int32)), (.ref a1)]))
  refine own_to (fun t k => XS.bipush X54.here hx rfl (hb hby own_d1_55) k) ?_
  show own_Fin _ _ _ _ _ _ (T54.setTop (mkF m 57 #[.val (.ref a1), .val (.int (8 : Int32)), .val (.long q1), .second] [(.int (40 : Int32)), (.long q1), (.int (13 : Int32)), (.ref a1)]))
  refine own_to (fun t k => XS.lushr X54.here hx rfl (hb hby own_d1_57) rfl k) ?_
  show own_Fin _ _ _ _ _ _ (T54.setTop (mkF m 58 #[.val (.ref a1), .val (.int (8 : Int32)), .val (.long q1), .second] [(.long ((q1.toUInt64 >>> ((40 : Int32) &&& 0x3f).toInt64.toUInt64).toInt64)), (.int (13 : Int32)), (.ref a1)]))
  refine own_to (fun t k => XS.l2i X54.here hx rfl (hb hby own_d1_58) rfl k) ?_
  show own_Fin _ _ _ _ _ _ (T54.setTop (mkF m 59 #[.val (.ref a1), .val (.int (8 : Int32)), .val (.long q1), .second] [(.int (((q1.toUInt64 >>> ((40 : Int32) &&& 0x3f).toInt64.toUInt64).toInt64).toInt32)), (.int (13 : Int32)), (.ref a1)]))
  refine own_to (fun t k => XS.i2b X54.here hx rfl (hb hby own_d1_59) rfl k) ?_
  show own_Fin _ _ _ _ _ _ (T54.setTop (mkF m 60 #[.val (.ref a1), .val (.int (8 : Int32)), .val (.long q1), .second] [(.int ((((q1.toUInt64 >>> ((40 : Int32) &&& 0x3f).toInt64.toUInt64).toInt64).toInt32).toInt8.toInt32)), (.int (13 : Int32)), (.ref a1)]))
  obtain ⟨cl56, Ar56, qa56, Sa56, Na56, Ha56, Ga56⟩ := id Vb55
  have hin57 : ¬ ((13 : Int32) < 0 ∨ cl56.slots.size ≤ ((13 : Int32)).toNatClampNeg) := inb_of Sa56 ⟨by decide, by decide⟩
  obtain ⟨T57, h57, X57, e57, W57, st57⟩ := stB X54 hx hZ e54 Ar56 (j := (13 : Int32)) hin57 (g := (mkF m 60 #[.val (.ref a1), .val (.int (8 : Int32)), .val (.long q1), .second] [(.int ((((q1.toUInt64 >>> ((40 : Int32) &&& 0x3f).toInt64.toUInt64).toInt64).toInt32).toInt8.toInt32)), (.int (13 : Int32)), (.ref a1)])) rfl rfl (hb hby own_d1_60)
  rw [own_idem _] at W57
  have N57 := Fr.snoc X57 N54 g_a1
  have KK57 : Keep h0 h57 [a1] := KK54.wr W57 (Or.inl (List.mem_of_getElem? (i := 0) rfl))
  have V57 : Arv Z h57 a1 k .byte (32 : Int32) ((((((vs.set (8 + 0) (.int (own_b q1 0))).set (8 + 1) (.int (own_b q1 1))).set (8 + 2) (.int (own_b q1 2))).set (8 + 3) (.int (own_b q1 3))).set (8 + 4) (.int (own_b q1 4))).set (8 + 5) (.int ((((q1.toUInt64 >>> ((40 : Int32) &&& 0x3f).toInt64.toUInt64).toInt64).toInt32).toInt8.toInt32))) (.int (0 : Int32)) := Arv.set Ar56 qa56 Sa56 Na56 Ha56 Ga56 (fits_nar_byte _) W57 (8 + 5) rfl (by simp [hl])
  refine own_to (fun t k => st57 t k) ?_
  show own_Fin _ _ _ _ _ _ (T57.setTop (mkF m 61 #[.val (.ref a1), .val (.int (8 : Int32)), .val (.long q1), .second] []))
  have Vb58 : Arv Z h57 a1 k .byte (32 : Int32) ((((((vs.set (8 + 0) (.int (own_b q1 0))).set (8 + 1) (.int (own_b q1 1))).set (8 + 2) (.int (own_b q1 2))).set (8 + 3) (.int (own_b q1 3))).set (8 + 4) (.int (own_b q1 4))).set (8 + 5) (.int (own_b q1 5))) (.int (0 : Int32)) := V57
  refine own_to (fun t k => XS.aloadN X57.here hx rfl (hb hby own_d1_61) rfl rfl k) ?_
  show own_Fin _ _ _ _ _ _ (T57.setTop (mkF m 62 #[.val (.ref a1), .val (.int (8 : Int32)), .val (.long q1), .second] [(.ref a1)]))
  refine own_to (fun t k => XS.iloadN X57.here hx rfl (hb hby own_d1_62) rfl k) ?_
  show own_Fin _ _ _ _ _ _ (T57.setTop (mkF m 63 #[.val (.ref a1), .val (.int (8 : Int32)), .val (.long q1), .second] [(.int (8 : Int32)), (.ref a1)]))
  refine own_to (fun t k => XS.bipush X57.here hx rfl (hb hby own_d1_63) k) ?_
  show own_Fin _ _ _ _ _ _ (T57.setTop (mkF m 65 #[.val (.ref a1), .val (.int (8 : Int32)), .val (.long q1), .second] [(.int (6 : Int32)), (.int (8 : Int32)), (.ref a1)]))
  refine own_to (fun t k => XS.iadd X57.here hx rfl (hb hby own_d1_65) rfl k) ?_
  show own_Fin _ _ _ _ _ _ (T57.setTop (mkF m 66 #[.val (.ref a1), .val (.int (8 : Int32)), .val (.long q1), .second] [(.int (14 : Int32)), (.ref a1)]))
  refine own_to (fun t k => XS.lloadN X57.here hx rfl (hb hby own_d1_66) rfl k) ?_
  show own_Fin _ _ _ _ _ _ (T57.setTop (mkF m 67 #[.val (.ref a1), .val (.int (8 : Int32)), .val (.long q1), .second] [(.long q1), (.int (14 : Int32)), (.ref a1)]))
  refine own_to (fun t k => XS.bipush X57.here hx rfl (hb hby own_d1_67) k) ?_
  show own_Fin _ _ _ _ _ _ (T57.setTop (mkF m 69 #[.val (.ref a1), .val (.int (8 : Int32)), .val (.long q1), .second] [(.int (48 : Int32)), (.long q1), (.int (14 : Int32)), (.ref a1)]))
  refine own_to (fun t k => XS.lushr X57.here hx rfl (hb hby own_d1_69) rfl k) ?_
  show own_Fin _ _ _ _ _ _ (T57.setTop (mkF m 70 #[.val (.ref a1), .val (.int (8 : Int32)), .val (.long q1), .second] [(.long ((q1.toUInt64 >>> ((48 : Int32) &&& 0x3f).toInt64.toUInt64).toInt64)), (.int (14 : Int32)), (.ref a1)]))
  refine own_to (fun t k => XS.l2i X57.here hx rfl (hb hby own_d1_70) rfl k) ?_
  show own_Fin _ _ _ _ _ _ (T57.setTop (mkF m 71 #[.val (.ref a1), .val (.int (8 : Int32)), .val (.long q1), .second] [(.int (((q1.toUInt64 >>> ((48 : Int32) &&& 0x3f).toInt64.toUInt64).toInt64).toInt32)), (.int (14 : Int32)), (.ref a1)]))
  refine own_to (fun t k => XS.i2b X57.here hx rfl (hb hby own_d1_71) rfl k) ?_
  show own_Fin _ _ _ _ _ _ (T57.setTop (mkF m 72 #[.val (.ref a1), .val (.int (8 : Int32)), .val (.long q1), .second] [(.int ((((q1.toUInt64 >>> ((48 : Int32) &&& 0x3f).toInt64.toUInt64).toInt64).toInt32).toInt8.toInt32)), (.int (14 : Int32)), (.ref a1)]))
  obtain ⟨cl59, Ar59, qa59, Sa59, Na59, Ha59, Ga59⟩ := id Vb58
  have hin60 : ¬ ((14 : Int32) < 0 ∨ cl59.slots.size ≤ ((14 : Int32)).toNatClampNeg) := inb_of Sa59 ⟨by decide, by decide⟩
  obtain ⟨T60, h60, X60, e60, W60, st60⟩ := stB X57 hx hZ e57 Ar59 (j := (14 : Int32)) hin60 (g := (mkF m 72 #[.val (.ref a1), .val (.int (8 : Int32)), .val (.long q1), .second] [(.int ((((q1.toUInt64 >>> ((48 : Int32) &&& 0x3f).toInt64.toUInt64).toInt64).toInt32).toInt8.toInt32)), (.int (14 : Int32)), (.ref a1)])) rfl rfl (hb hby own_d1_72)
  rw [own_idem _] at W60
  have N60 := Fr.snoc X60 N57 g_a1
  have KK60 : Keep h0 h60 [a1] := KK57.wr W60 (Or.inl (List.mem_of_getElem? (i := 0) rfl))
  have V60 : Arv Z h60 a1 k .byte (32 : Int32) (((((((vs.set (8 + 0) (.int (own_b q1 0))).set (8 + 1) (.int (own_b q1 1))).set (8 + 2) (.int (own_b q1 2))).set (8 + 3) (.int (own_b q1 3))).set (8 + 4) (.int (own_b q1 4))).set (8 + 5) (.int (own_b q1 5))).set (8 + 6) (.int ((((q1.toUInt64 >>> ((48 : Int32) &&& 0x3f).toInt64.toUInt64).toInt64).toInt32).toInt8.toInt32))) (.int (0 : Int32)) := Arv.set Ar59 qa59 Sa59 Na59 Ha59 Ga59 (fits_nar_byte _) W60 (8 + 6) rfl (by simp [hl])
  refine own_to (fun t k => st60 t k) ?_
  show own_Fin _ _ _ _ _ _ (T60.setTop (mkF m 73 #[.val (.ref a1), .val (.int (8 : Int32)), .val (.long q1), .second] []))
  have Vb61 : Arv Z h60 a1 k .byte (32 : Int32) (((((((vs.set (8 + 0) (.int (own_b q1 0))).set (8 + 1) (.int (own_b q1 1))).set (8 + 2) (.int (own_b q1 2))).set (8 + 3) (.int (own_b q1 3))).set (8 + 4) (.int (own_b q1 4))).set (8 + 5) (.int (own_b q1 5))).set (8 + 6) (.int (own_b q1 6))) (.int (0 : Int32)) := V60
  refine own_to (fun t k => XS.aloadN X60.here hx rfl (hb hby own_d1_73) rfl rfl k) ?_
  show own_Fin _ _ _ _ _ _ (T60.setTop (mkF m 74 #[.val (.ref a1), .val (.int (8 : Int32)), .val (.long q1), .second] [(.ref a1)]))
  refine own_to (fun t k => XS.iloadN X60.here hx rfl (hb hby own_d1_74) rfl k) ?_
  show own_Fin _ _ _ _ _ _ (T60.setTop (mkF m 75 #[.val (.ref a1), .val (.int (8 : Int32)), .val (.long q1), .second] [(.int (8 : Int32)), (.ref a1)]))
  refine own_to (fun t k => XS.bipush X60.here hx rfl (hb hby own_d1_75) k) ?_
  show own_Fin _ _ _ _ _ _ (T60.setTop (mkF m 77 #[.val (.ref a1), .val (.int (8 : Int32)), .val (.long q1), .second] [(.int (7 : Int32)), (.int (8 : Int32)), (.ref a1)]))
  refine own_to (fun t k => XS.iadd X60.here hx rfl (hb hby own_d1_77) rfl k) ?_
  show own_Fin _ _ _ _ _ _ (T60.setTop (mkF m 78 #[.val (.ref a1), .val (.int (8 : Int32)), .val (.long q1), .second] [(.int (15 : Int32)), (.ref a1)]))
  refine own_to (fun t k => XS.lloadN X60.here hx rfl (hb hby own_d1_78) rfl k) ?_
  show own_Fin _ _ _ _ _ _ (T60.setTop (mkF m 79 #[.val (.ref a1), .val (.int (8 : Int32)), .val (.long q1), .second] [(.long q1), (.int (15 : Int32)), (.ref a1)]))
  refine own_to (fun t k => XS.bipush X60.here hx rfl (hb hby own_d1_79) k) ?_
  show own_Fin _ _ _ _ _ _ (T60.setTop (mkF m 81 #[.val (.ref a1), .val (.int (8 : Int32)), .val (.long q1), .second] [(.int (56 : Int32)), (.long q1), (.int (15 : Int32)), (.ref a1)]))
  refine own_to (fun t k => XS.lushr X60.here hx rfl (hb hby own_d1_81) rfl k) ?_
  show own_Fin _ _ _ _ _ _ (T60.setTop (mkF m 82 #[.val (.ref a1), .val (.int (8 : Int32)), .val (.long q1), .second] [(.long ((q1.toUInt64 >>> ((56 : Int32) &&& 0x3f).toInt64.toUInt64).toInt64)), (.int (15 : Int32)), (.ref a1)]))
  refine own_to (fun t k => XS.l2i X60.here hx rfl (hb hby own_d1_82) rfl k) ?_
  show own_Fin _ _ _ _ _ _ (T60.setTop (mkF m 83 #[.val (.ref a1), .val (.int (8 : Int32)), .val (.long q1), .second] [(.int (((q1.toUInt64 >>> ((56 : Int32) &&& 0x3f).toInt64.toUInt64).toInt64).toInt32)), (.int (15 : Int32)), (.ref a1)]))
  refine own_to (fun t k => XS.i2b X60.here hx rfl (hb hby own_d1_83) rfl k) ?_
  show own_Fin _ _ _ _ _ _ (T60.setTop (mkF m 84 #[.val (.ref a1), .val (.int (8 : Int32)), .val (.long q1), .second] [(.int ((((q1.toUInt64 >>> ((56 : Int32) &&& 0x3f).toInt64.toUInt64).toInt64).toInt32).toInt8.toInt32)), (.int (15 : Int32)), (.ref a1)]))
  obtain ⟨cl62, Ar62, qa62, Sa62, Na62, Ha62, Ga62⟩ := id Vb61
  have hin63 : ¬ ((15 : Int32) < 0 ∨ cl62.slots.size ≤ ((15 : Int32)).toNatClampNeg) := inb_of Sa62 ⟨by decide, by decide⟩
  obtain ⟨T63, h63, X63, e63, W63, st63⟩ := stB X60 hx hZ e60 Ar62 (j := (15 : Int32)) hin63 (g := (mkF m 84 #[.val (.ref a1), .val (.int (8 : Int32)), .val (.long q1), .second] [(.int ((((q1.toUInt64 >>> ((56 : Int32) &&& 0x3f).toInt64.toUInt64).toInt64).toInt32).toInt8.toInt32)), (.int (15 : Int32)), (.ref a1)])) rfl rfl (hb hby own_d1_84)
  rw [own_idem _] at W63
  have N63 := Fr.snoc X63 N60 g_a1
  have KK63 : Keep h0 h63 [a1] := KK60.wr W63 (Or.inl (List.mem_of_getElem? (i := 0) rfl))
  have V63 : Arv Z h63 a1 k .byte (32 : Int32) ((((((((vs.set (8 + 0) (.int (own_b q1 0))).set (8 + 1) (.int (own_b q1 1))).set (8 + 2) (.int (own_b q1 2))).set (8 + 3) (.int (own_b q1 3))).set (8 + 4) (.int (own_b q1 4))).set (8 + 5) (.int (own_b q1 5))).set (8 + 6) (.int (own_b q1 6))).set (8 + 7) (.int ((((q1.toUInt64 >>> ((56 : Int32) &&& 0x3f).toInt64.toUInt64).toInt64).toInt32).toInt8.toInt32))) (.int (0 : Int32)) := Arv.set Ar62 qa62 Sa62 Na62 Ha62 Ga62 (fits_nar_byte _) W63 (8 + 7) rfl (by simp [hl])
  refine own_to (fun t k => st63 t k) ?_
  show own_Fin _ _ _ _ _ _ (T63.setTop (mkF m 85 #[.val (.ref a1), .val (.int (8 : Int32)), .val (.long q1), .second] []))
  have Vb64 : Arv Z h63 a1 k .byte (32 : Int32) ((((((((vs.set (8 + 0) (.int (own_b q1 0))).set (8 + 1) (.int (own_b q1 1))).set (8 + 2) (.int (own_b q1 2))).set (8 + 3) (.int (own_b q1 3))).set (8 + 4) (.int (own_b q1 4))).set (8 + 5) (.int (own_b q1 5))).set (8 + 6) (.int (own_b q1 6))).set (8 + 7) (.int (own_b q1 7))) (.int (0 : Int32)) := V63
  refine own_retV X63 hx hlk hret (hb hby own_d1_85) (by decide) (by decide) ?_
  try rw [e63]
  exact ⟨rfl, N63, KK63, Vb64⟩
theorem own_same8_ef (m : MethodId) (a1 : Addr) (q1 : Int64) : entryFrame m #[(.ref a1), (.int (8 : Int32)), (.long q1)] 4 = mkF m 0 #[.val (.ref a1), .val (.int (8 : Int32)), .val (.long q1), .second] [] := by first | (simp [entryFrame, mkF, argsToLocals, Value.category]; done) | rfl
set_option maxRecDepth 65536 in
set_option maxHeartbeats 40000000 in
theorem own_same8 (l : Launch) (Z : State) (a0 : Array Value) (hw : ∀ d ∈ tables_1, d.before a0 Z = true) (ws : List Jvm.Cond) (a1 : Addr) (q1 : Int64) (k : ClassId) (vs : List Value) (h0 : Heap) (n0 : Nat) (Z0 : n0 ≤ h0.size) (V1 : Arv Z h0 a1 k .byte (32 : Int32) vs (.int (0 : Int32))) (hv0 : vs.getD 8 (.int (0 : Int32)) = .int (own_b q1 0)) (hv1 : vs.getD 9 (.int (0 : Int32)) = .int (own_b q1 1)) (hv2 : vs.getD 10 (.int (0 : Int32)) = .int (own_b q1 2)) (hv3 : vs.getD 11 (.int (0 : Int32)) = .int (own_b q1 3)) (hv4 : vs.getD 12 (.int (0 : Int32)) = .int (own_b q1 4)) (hv5 : vs.getD 13 (.int (0 : Int32)) = .int (own_b q1 5)) (hv6 : vs.getD 14 (.int (0 : Int32)) = .int (own_b q1 6)) (hv7 : vs.getD 15 (.int (0 : Int32)) = .int (own_b q1 7)) :
    own_Met l Z (⟨"com/example/nuthatch/nuthatch/engine/Sha256RequireDigestPinLaw", "same", "([BIJ)Z"⟩ : MethodName) method_3_code 4 (some .boolean) ws ({ frames := 0, cells := 0, slots := 0, locals := 0 } : Room) #[(.ref a1), (.int (8 : Int32)), (.long q1)] h0 (fun v h L => v = some (.int 1) ∧ Fr n0 L ∧ h = h0) := by
  refine own_enter (plainFor_of_name own_pn0) ?_
  intro p e s m below meth c s₁ X0 hx hZ hby hml hown hnm hret hlk e0
  have N0 := Fr.nil n0
  rw [own_same8_ef m a1 q1]
  show own_Fin _ _ _ _ _ _ (s₁.setTop (mkF m 0 #[.val (.ref a1), .val (.int (8 : Int32)), .val (.long q1), .second] []))
  refine own_to (fun t k => XS.aloadN X0.here hx rfl (hb hby own_d4_0) rfl rfl k) ?_
  show own_Fin _ _ _ _ _ _ (s₁.setTop (mkF m 1 #[.val (.ref a1), .val (.int (8 : Int32)), .val (.long q1), .second] [(.ref a1)]))
  refine own_to (fun t k => XS.iloadN X0.here hx rfl (hb hby own_d4_1) rfl k) ?_
  show own_Fin _ _ _ _ _ _ (s₁.setTop (mkF m 2 #[.val (.ref a1), .val (.int (8 : Int32)), .val (.long q1), .second] [(.int (8 : Int32)), (.ref a1)]))
  obtain ⟨cl65, Ar65, qa65, Sa65, Na65, Ha65, Ga65⟩ := id V1
  have hin66 : ¬ ((8 : Int32) < 0 ∨ cl65.slots.size ≤ ((8 : Int32)).toNatClampNeg) := inb_of Sa65 ⟨by decide, by decide⟩
  refine own_to (fun t k => X0.baloadBytes hx (j := (8 : Int32)) (v := (.int ((q1.toInt32).toInt8.toInt32))) (by rw [e0]; exact Ar65.1) (State.isArrayOf_alike hZ.alike Ar65.2.1) Ar65.2.2 hin66 (Has.at Ha65 hin66 hv0) (g := (mkF m 2 #[.val (.ref a1), .val (.int (8 : Int32)), .val (.long q1), .second] [(.int (8 : Int32)), (.ref a1)])) rfl rfl (hb hby own_d4_2) _ k) ?_
  show own_Fin _ _ _ _ _ _ (s₁.setTop (mkF m 3 #[.val (.ref a1), .val (.int (8 : Int32)), .val (.long q1), .second] [(.int ((q1.toInt32).toInt8.toInt32))]))
  refine own_to (fun t k => XS.lloadN X0.here hx rfl (hb hby own_d4_3) rfl k) ?_
  show own_Fin _ _ _ _ _ _ (s₁.setTop (mkF m 4 #[.val (.ref a1), .val (.int (8 : Int32)), .val (.long q1), .second] [(.long q1), (.int ((q1.toInt32).toInt8.toInt32))]))
  refine own_to (fun t k => XS.l2i X0.here hx rfl (hb hby own_d4_4) rfl k) ?_
  show own_Fin _ _ _ _ _ _ (s₁.setTop (mkF m 5 #[.val (.ref a1), .val (.int (8 : Int32)), .val (.long q1), .second] [(.int (q1.toInt32)), (.int ((q1.toInt32).toInt8.toInt32))]))
  refine own_to (fun t k => XS.i2b X0.here hx rfl (hb hby own_d4_5) rfl k) ?_
  show own_Fin _ _ _ _ _ _ (s₁.setTop (mkF m 6 #[.val (.ref a1), .val (.int (8 : Int32)), .val (.long q1), .second] [(.int ((q1.toInt32).toInt8.toInt32)), (.int ((q1.toInt32).toInt8.toInt32))]))
  refine own_to (fun t k => XS.icmpNo X0.here hx rfl (hb hby own_d4_6) rfl (teq rfl).2 k) ?_
  show own_Fin _ _ _ _ _ _ (s₁.setTop (mkF m 9 #[.val (.ref a1), .val (.int (8 : Int32)), .val (.long q1), .second] []))
  refine own_to (fun t k => XS.aloadN X0.here hx rfl (hb hby own_d4_9) rfl rfl k) ?_
  show own_Fin _ _ _ _ _ _ (s₁.setTop (mkF m 10 #[.val (.ref a1), .val (.int (8 : Int32)), .val (.long q1), .second] [(.ref a1)]))
  refine own_to (fun t k => XS.iloadN X0.here hx rfl (hb hby own_d4_10) rfl k) ?_
  show own_Fin _ _ _ _ _ _ (s₁.setTop (mkF m 11 #[.val (.ref a1), .val (.int (8 : Int32)), .val (.long q1), .second] [(.int (8 : Int32)), (.ref a1)]))
  refine own_to (fun t k => XS.iconst X0.here hx rfl (hb hby own_d4_11) k) ?_
  show own_Fin _ _ _ _ _ _ (s₁.setTop (mkF m 12 #[.val (.ref a1), .val (.int (8 : Int32)), .val (.long q1), .second] [(.int (1 : Int32)), (.int (8 : Int32)), (.ref a1)]))
  refine own_to (fun t k => XS.iadd X0.here hx rfl (hb hby own_d4_12) rfl k) ?_
  show own_Fin _ _ _ _ _ _ (s₁.setTop (mkF m 13 #[.val (.ref a1), .val (.int (8 : Int32)), .val (.long q1), .second] [(.int (9 : Int32)), (.ref a1)]))
  obtain ⟨cl67, Ar67, qa67, Sa67, Na67, Ha67, Ga67⟩ := id V1
  have hin68 : ¬ ((9 : Int32) < 0 ∨ cl67.slots.size ≤ ((9 : Int32)).toNatClampNeg) := inb_of Sa67 ⟨by decide, by decide⟩
  refine own_to (fun t k => X0.baloadBytes hx (j := (9 : Int32)) (v := (.int ((((q1.toUInt64 >>> ((8 : Int32) &&& 0x3f).toInt64.toUInt64).toInt64).toInt32).toInt8.toInt32))) (by rw [e0]; exact Ar67.1) (State.isArrayOf_alike hZ.alike Ar67.2.1) Ar67.2.2 hin68 (Has.at Ha67 hin68 hv1) (g := (mkF m 13 #[.val (.ref a1), .val (.int (8 : Int32)), .val (.long q1), .second] [(.int (9 : Int32)), (.ref a1)])) rfl rfl (hb hby own_d4_13) _ k) ?_
  show own_Fin _ _ _ _ _ _ (s₁.setTop (mkF m 14 #[.val (.ref a1), .val (.int (8 : Int32)), .val (.long q1), .second] [(.int ((((q1.toUInt64 >>> ((8 : Int32) &&& 0x3f).toInt64.toUInt64).toInt64).toInt32).toInt8.toInt32))]))
  refine own_to (fun t k => XS.lloadN X0.here hx rfl (hb hby own_d4_14) rfl k) ?_
  show own_Fin _ _ _ _ _ _ (s₁.setTop (mkF m 15 #[.val (.ref a1), .val (.int (8 : Int32)), .val (.long q1), .second] [(.long q1), (.int ((((q1.toUInt64 >>> ((8 : Int32) &&& 0x3f).toInt64.toUInt64).toInt64).toInt32).toInt8.toInt32))]))
  refine own_to (fun t k => XS.bipush X0.here hx rfl (hb hby own_d4_15) k) ?_
  show own_Fin _ _ _ _ _ _ (s₁.setTop (mkF m 17 #[.val (.ref a1), .val (.int (8 : Int32)), .val (.long q1), .second] [(.int (8 : Int32)), (.long q1), (.int ((((q1.toUInt64 >>> ((8 : Int32) &&& 0x3f).toInt64.toUInt64).toInt64).toInt32).toInt8.toInt32))]))
  refine own_to (fun t k => XS.lushr X0.here hx rfl (hb hby own_d4_17) rfl k) ?_
  show own_Fin _ _ _ _ _ _ (s₁.setTop (mkF m 18 #[.val (.ref a1), .val (.int (8 : Int32)), .val (.long q1), .second] [(.long ((q1.toUInt64 >>> ((8 : Int32) &&& 0x3f).toInt64.toUInt64).toInt64)), (.int ((((q1.toUInt64 >>> ((8 : Int32) &&& 0x3f).toInt64.toUInt64).toInt64).toInt32).toInt8.toInt32))]))
  refine own_to (fun t k => XS.l2i X0.here hx rfl (hb hby own_d4_18) rfl k) ?_
  show own_Fin _ _ _ _ _ _ (s₁.setTop (mkF m 19 #[.val (.ref a1), .val (.int (8 : Int32)), .val (.long q1), .second] [(.int (((q1.toUInt64 >>> ((8 : Int32) &&& 0x3f).toInt64.toUInt64).toInt64).toInt32)), (.int ((((q1.toUInt64 >>> ((8 : Int32) &&& 0x3f).toInt64.toUInt64).toInt64).toInt32).toInt8.toInt32))]))
  refine own_to (fun t k => XS.i2b X0.here hx rfl (hb hby own_d4_19) rfl k) ?_
  show own_Fin _ _ _ _ _ _ (s₁.setTop (mkF m 20 #[.val (.ref a1), .val (.int (8 : Int32)), .val (.long q1), .second] [(.int ((((q1.toUInt64 >>> ((8 : Int32) &&& 0x3f).toInt64.toUInt64).toInt64).toInt32).toInt8.toInt32)), (.int ((((q1.toUInt64 >>> ((8 : Int32) &&& 0x3f).toInt64.toUInt64).toInt64).toInt32).toInt8.toInt32))]))
  refine own_to (fun t k => XS.icmpNo X0.here hx rfl (hb hby own_d4_20) rfl (teq rfl).2 k) ?_
  show own_Fin _ _ _ _ _ _ (s₁.setTop (mkF m 23 #[.val (.ref a1), .val (.int (8 : Int32)), .val (.long q1), .second] []))
  refine own_to (fun t k => XS.aloadN X0.here hx rfl (hb hby own_d4_23) rfl rfl k) ?_
  show own_Fin _ _ _ _ _ _ (s₁.setTop (mkF m 24 #[.val (.ref a1), .val (.int (8 : Int32)), .val (.long q1), .second] [(.ref a1)]))
  refine own_to (fun t k => XS.iloadN X0.here hx rfl (hb hby own_d4_24) rfl k) ?_
  show own_Fin _ _ _ _ _ _ (s₁.setTop (mkF m 25 #[.val (.ref a1), .val (.int (8 : Int32)), .val (.long q1), .second] [(.int (8 : Int32)), (.ref a1)]))
  refine own_to (fun t k => XS.iconst X0.here hx rfl (hb hby own_d4_25) k) ?_
  show own_Fin _ _ _ _ _ _ (s₁.setTop (mkF m 26 #[.val (.ref a1), .val (.int (8 : Int32)), .val (.long q1), .second] [(.int (2 : Int32)), (.int (8 : Int32)), (.ref a1)]))
  refine own_to (fun t k => XS.iadd X0.here hx rfl (hb hby own_d4_26) rfl k) ?_
  show own_Fin _ _ _ _ _ _ (s₁.setTop (mkF m 27 #[.val (.ref a1), .val (.int (8 : Int32)), .val (.long q1), .second] [(.int (10 : Int32)), (.ref a1)]))
  obtain ⟨cl69, Ar69, qa69, Sa69, Na69, Ha69, Ga69⟩ := id V1
  have hin70 : ¬ ((10 : Int32) < 0 ∨ cl69.slots.size ≤ ((10 : Int32)).toNatClampNeg) := inb_of Sa69 ⟨by decide, by decide⟩
  refine own_to (fun t k => X0.baloadBytes hx (j := (10 : Int32)) (v := (.int ((((q1.toUInt64 >>> ((16 : Int32) &&& 0x3f).toInt64.toUInt64).toInt64).toInt32).toInt8.toInt32))) (by rw [e0]; exact Ar69.1) (State.isArrayOf_alike hZ.alike Ar69.2.1) Ar69.2.2 hin70 (Has.at Ha69 hin70 hv2) (g := (mkF m 27 #[.val (.ref a1), .val (.int (8 : Int32)), .val (.long q1), .second] [(.int (10 : Int32)), (.ref a1)])) rfl rfl (hb hby own_d4_27) _ k) ?_
  show own_Fin _ _ _ _ _ _ (s₁.setTop (mkF m 28 #[.val (.ref a1), .val (.int (8 : Int32)), .val (.long q1), .second] [(.int ((((q1.toUInt64 >>> ((16 : Int32) &&& 0x3f).toInt64.toUInt64).toInt64).toInt32).toInt8.toInt32))]))
  refine own_to (fun t k => XS.lloadN X0.here hx rfl (hb hby own_d4_28) rfl k) ?_
  show own_Fin _ _ _ _ _ _ (s₁.setTop (mkF m 29 #[.val (.ref a1), .val (.int (8 : Int32)), .val (.long q1), .second] [(.long q1), (.int ((((q1.toUInt64 >>> ((16 : Int32) &&& 0x3f).toInt64.toUInt64).toInt64).toInt32).toInt8.toInt32))]))
  refine own_to (fun t k => XS.bipush X0.here hx rfl (hb hby own_d4_29) k) ?_
  show own_Fin _ _ _ _ _ _ (s₁.setTop (mkF m 31 #[.val (.ref a1), .val (.int (8 : Int32)), .val (.long q1), .second] [(.int (16 : Int32)), (.long q1), (.int ((((q1.toUInt64 >>> ((16 : Int32) &&& 0x3f).toInt64.toUInt64).toInt64).toInt32).toInt8.toInt32))]))
  refine own_to (fun t k => XS.lushr X0.here hx rfl (hb hby own_d4_31) rfl k) ?_
  show own_Fin _ _ _ _ _ _ (s₁.setTop (mkF m 32 #[.val (.ref a1), .val (.int (8 : Int32)), .val (.long q1), .second] [(.long ((q1.toUInt64 >>> ((16 : Int32) &&& 0x3f).toInt64.toUInt64).toInt64)), (.int ((((q1.toUInt64 >>> ((16 : Int32) &&& 0x3f).toInt64.toUInt64).toInt64).toInt32).toInt8.toInt32))]))
  refine own_to (fun t k => XS.l2i X0.here hx rfl (hb hby own_d4_32) rfl k) ?_
  show own_Fin _ _ _ _ _ _ (s₁.setTop (mkF m 33 #[.val (.ref a1), .val (.int (8 : Int32)), .val (.long q1), .second] [(.int (((q1.toUInt64 >>> ((16 : Int32) &&& 0x3f).toInt64.toUInt64).toInt64).toInt32)), (.int ((((q1.toUInt64 >>> ((16 : Int32) &&& 0x3f).toInt64.toUInt64).toInt64).toInt32).toInt8.toInt32))]))
  refine own_to (fun t k => XS.i2b X0.here hx rfl (hb hby own_d4_33) rfl k) ?_
  show own_Fin _ _ _ _ _ _ (s₁.setTop (mkF m 34 #[.val (.ref a1), .val (.int (8 : Int32)), .val (.long q1), .second] [(.int ((((q1.toUInt64 >>> ((16 : Int32) &&& 0x3f).toInt64.toUInt64).toInt64).toInt32).toInt8.toInt32)), (.int ((((q1.toUInt64 >>> ((16 : Int32) &&& 0x3f).toInt64.toUInt64).toInt64).toInt32).toInt8.toInt32))]))
  refine own_to (fun t k => XS.icmpNo X0.here hx rfl (hb hby own_d4_34) rfl (teq rfl).2 k) ?_
  show own_Fin _ _ _ _ _ _ (s₁.setTop (mkF m 37 #[.val (.ref a1), .val (.int (8 : Int32)), .val (.long q1), .second] []))
  refine own_to (fun t k => XS.aloadN X0.here hx rfl (hb hby own_d4_37) rfl rfl k) ?_
  show own_Fin _ _ _ _ _ _ (s₁.setTop (mkF m 38 #[.val (.ref a1), .val (.int (8 : Int32)), .val (.long q1), .second] [(.ref a1)]))
  refine own_to (fun t k => XS.iloadN X0.here hx rfl (hb hby own_d4_38) rfl k) ?_
  show own_Fin _ _ _ _ _ _ (s₁.setTop (mkF m 39 #[.val (.ref a1), .val (.int (8 : Int32)), .val (.long q1), .second] [(.int (8 : Int32)), (.ref a1)]))
  refine own_to (fun t k => XS.iconst X0.here hx rfl (hb hby own_d4_39) k) ?_
  show own_Fin _ _ _ _ _ _ (s₁.setTop (mkF m 40 #[.val (.ref a1), .val (.int (8 : Int32)), .val (.long q1), .second] [(.int (3 : Int32)), (.int (8 : Int32)), (.ref a1)]))
  refine own_to (fun t k => XS.iadd X0.here hx rfl (hb hby own_d4_40) rfl k) ?_
  show own_Fin _ _ _ _ _ _ (s₁.setTop (mkF m 41 #[.val (.ref a1), .val (.int (8 : Int32)), .val (.long q1), .second] [(.int (11 : Int32)), (.ref a1)]))
  obtain ⟨cl71, Ar71, qa71, Sa71, Na71, Ha71, Ga71⟩ := id V1
  have hin72 : ¬ ((11 : Int32) < 0 ∨ cl71.slots.size ≤ ((11 : Int32)).toNatClampNeg) := inb_of Sa71 ⟨by decide, by decide⟩
  refine own_to (fun t k => X0.baloadBytes hx (j := (11 : Int32)) (v := (.int ((((q1.toUInt64 >>> ((24 : Int32) &&& 0x3f).toInt64.toUInt64).toInt64).toInt32).toInt8.toInt32))) (by rw [e0]; exact Ar71.1) (State.isArrayOf_alike hZ.alike Ar71.2.1) Ar71.2.2 hin72 (Has.at Ha71 hin72 hv3) (g := (mkF m 41 #[.val (.ref a1), .val (.int (8 : Int32)), .val (.long q1), .second] [(.int (11 : Int32)), (.ref a1)])) rfl rfl (hb hby own_d4_41) _ k) ?_
  show own_Fin _ _ _ _ _ _ (s₁.setTop (mkF m 42 #[.val (.ref a1), .val (.int (8 : Int32)), .val (.long q1), .second] [(.int ((((q1.toUInt64 >>> ((24 : Int32) &&& 0x3f).toInt64.toUInt64).toInt64).toInt32).toInt8.toInt32))]))
  refine own_to (fun t k => XS.lloadN X0.here hx rfl (hb hby own_d4_42) rfl k) ?_
  show own_Fin _ _ _ _ _ _ (s₁.setTop (mkF m 43 #[.val (.ref a1), .val (.int (8 : Int32)), .val (.long q1), .second] [(.long q1), (.int ((((q1.toUInt64 >>> ((24 : Int32) &&& 0x3f).toInt64.toUInt64).toInt64).toInt32).toInt8.toInt32))]))
  refine own_to (fun t k => XS.bipush X0.here hx rfl (hb hby own_d4_43) k) ?_
  show own_Fin _ _ _ _ _ _ (s₁.setTop (mkF m 45 #[.val (.ref a1), .val (.int (8 : Int32)), .val (.long q1), .second] [(.int (24 : Int32)), (.long q1), (.int ((((q1.toUInt64 >>> ((24 : Int32) &&& 0x3f).toInt64.toUInt64).toInt64).toInt32).toInt8.toInt32))]))
  refine own_to (fun t k => XS.lushr X0.here hx rfl (hb hby own_d4_45) rfl k) ?_
  show own_Fin _ _ _ _ _ _ (s₁.setTop (mkF m 46 #[.val (.ref a1), .val (.int (8 : Int32)), .val (.long q1), .second] [(.long ((q1.toUInt64 >>> ((24 : Int32) &&& 0x3f).toInt64.toUInt64).toInt64)), (.int ((((q1.toUInt64 >>> ((24 : Int32) &&& 0x3f).toInt64.toUInt64).toInt64).toInt32).toInt8.toInt32))]))
  refine own_to (fun t k => XS.l2i X0.here hx rfl (hb hby own_d4_46) rfl k) ?_
  show own_Fin _ _ _ _ _ _ (s₁.setTop (mkF m 47 #[.val (.ref a1), .val (.int (8 : Int32)), .val (.long q1), .second] [(.int (((q1.toUInt64 >>> ((24 : Int32) &&& 0x3f).toInt64.toUInt64).toInt64).toInt32)), (.int ((((q1.toUInt64 >>> ((24 : Int32) &&& 0x3f).toInt64.toUInt64).toInt64).toInt32).toInt8.toInt32))]))
  refine own_to (fun t k => XS.i2b X0.here hx rfl (hb hby own_d4_47) rfl k) ?_
  show own_Fin _ _ _ _ _ _ (s₁.setTop (mkF m 48 #[.val (.ref a1), .val (.int (8 : Int32)), .val (.long q1), .second] [(.int ((((q1.toUInt64 >>> ((24 : Int32) &&& 0x3f).toInt64.toUInt64).toInt64).toInt32).toInt8.toInt32)), (.int ((((q1.toUInt64 >>> ((24 : Int32) &&& 0x3f).toInt64.toUInt64).toInt64).toInt32).toInt8.toInt32))]))
  refine own_to (fun t k => XS.icmpNo X0.here hx rfl (hb hby own_d4_48) rfl (teq rfl).2 k) ?_
  show own_Fin _ _ _ _ _ _ (s₁.setTop (mkF m 51 #[.val (.ref a1), .val (.int (8 : Int32)), .val (.long q1), .second] []))
  refine own_to (fun t k => XS.aloadN X0.here hx rfl (hb hby own_d4_51) rfl rfl k) ?_
  show own_Fin _ _ _ _ _ _ (s₁.setTop (mkF m 52 #[.val (.ref a1), .val (.int (8 : Int32)), .val (.long q1), .second] [(.ref a1)]))
  refine own_to (fun t k => XS.iloadN X0.here hx rfl (hb hby own_d4_52) rfl k) ?_
  show own_Fin _ _ _ _ _ _ (s₁.setTop (mkF m 53 #[.val (.ref a1), .val (.int (8 : Int32)), .val (.long q1), .second] [(.int (8 : Int32)), (.ref a1)]))
  refine own_to (fun t k => XS.iconst X0.here hx rfl (hb hby own_d4_53) k) ?_
  show own_Fin _ _ _ _ _ _ (s₁.setTop (mkF m 54 #[.val (.ref a1), .val (.int (8 : Int32)), .val (.long q1), .second] [(.int (4 : Int32)), (.int (8 : Int32)), (.ref a1)]))
  refine own_to (fun t k => XS.iadd X0.here hx rfl (hb hby own_d4_54) rfl k) ?_
  show own_Fin _ _ _ _ _ _ (s₁.setTop (mkF m 55 #[.val (.ref a1), .val (.int (8 : Int32)), .val (.long q1), .second] [(.int (12 : Int32)), (.ref a1)]))
  obtain ⟨cl73, Ar73, qa73, Sa73, Na73, Ha73, Ga73⟩ := id V1
  have hin74 : ¬ ((12 : Int32) < 0 ∨ cl73.slots.size ≤ ((12 : Int32)).toNatClampNeg) := inb_of Sa73 ⟨by decide, by decide⟩
  refine own_to (fun t k => X0.baloadBytes hx (j := (12 : Int32)) (v := (.int ((((q1.toUInt64 >>> ((32 : Int32) &&& 0x3f).toInt64.toUInt64).toInt64).toInt32).toInt8.toInt32))) (by rw [e0]; exact Ar73.1) (State.isArrayOf_alike hZ.alike Ar73.2.1) Ar73.2.2 hin74 (Has.at Ha73 hin74 hv4) (g := (mkF m 55 #[.val (.ref a1), .val (.int (8 : Int32)), .val (.long q1), .second] [(.int (12 : Int32)), (.ref a1)])) rfl rfl (hb hby own_d4_55) _ k) ?_
  show own_Fin _ _ _ _ _ _ (s₁.setTop (mkF m 56 #[.val (.ref a1), .val (.int (8 : Int32)), .val (.long q1), .second] [(.int ((((q1.toUInt64 >>> ((32 : Int32) &&& 0x3f).toInt64.toUInt64).toInt64).toInt32).toInt8.toInt32))]))
  refine own_to (fun t k => XS.lloadN X0.here hx rfl (hb hby own_d4_56) rfl k) ?_
  show own_Fin _ _ _ _ _ _ (s₁.setTop (mkF m 57 #[.val (.ref a1), .val (.int (8 : Int32)), .val (.long q1), .second] [(.long q1), (.int ((((q1.toUInt64 >>> ((32 : Int32) &&& 0x3f).toInt64.toUInt64).toInt64).toInt32).toInt8.toInt32))]))
  refine own_to (fun t k => XS.bipush X0.here hx rfl (hb hby own_d4_57) k) ?_
  show own_Fin _ _ _ _ _ _ (s₁.setTop (mkF m 59 #[.val (.ref a1), .val (.int (8 : Int32)), .val (.long q1), .second] [(.int (32 : Int32)), (.long q1), (.int ((((q1.toUInt64 >>> ((32 : Int32) &&& 0x3f).toInt64.toUInt64).toInt64).toInt32).toInt8.toInt32))]))
  refine own_to (fun t k => XS.lushr X0.here hx rfl (hb hby own_d4_59) rfl k) ?_
  show own_Fin _ _ _ _ _ _ (s₁.setTop (mkF m 60 #[.val (.ref a1), .val (.int (8 : Int32)), .val (.long q1), .second] [(.long ((q1.toUInt64 >>> ((32 : Int32) &&& 0x3f).toInt64.toUInt64).toInt64)), (.int ((((q1.toUInt64 >>> ((32 : Int32) &&& 0x3f).toInt64.toUInt64).toInt64).toInt32).toInt8.toInt32))]))
  refine own_to (fun t k => XS.l2i X0.here hx rfl (hb hby own_d4_60) rfl k) ?_
  show own_Fin _ _ _ _ _ _ (s₁.setTop (mkF m 61 #[.val (.ref a1), .val (.int (8 : Int32)), .val (.long q1), .second] [(.int (((q1.toUInt64 >>> ((32 : Int32) &&& 0x3f).toInt64.toUInt64).toInt64).toInt32)), (.int ((((q1.toUInt64 >>> ((32 : Int32) &&& 0x3f).toInt64.toUInt64).toInt64).toInt32).toInt8.toInt32))]))
  refine own_to (fun t k => XS.i2b X0.here hx rfl (hb hby own_d4_61) rfl k) ?_
  show own_Fin _ _ _ _ _ _ (s₁.setTop (mkF m 62 #[.val (.ref a1), .val (.int (8 : Int32)), .val (.long q1), .second] [(.int ((((q1.toUInt64 >>> ((32 : Int32) &&& 0x3f).toInt64.toUInt64).toInt64).toInt32).toInt8.toInt32)), (.int ((((q1.toUInt64 >>> ((32 : Int32) &&& 0x3f).toInt64.toUInt64).toInt64).toInt32).toInt8.toInt32))]))
  refine own_to (fun t k => XS.icmpNo X0.here hx rfl (hb hby own_d4_62) rfl (teq rfl).2 k) ?_
  show own_Fin _ _ _ _ _ _ (s₁.setTop (mkF m 65 #[.val (.ref a1), .val (.int (8 : Int32)), .val (.long q1), .second] []))
  refine own_to (fun t k => XS.aloadN X0.here hx rfl (hb hby own_d4_65) rfl rfl k) ?_
  show own_Fin _ _ _ _ _ _ (s₁.setTop (mkF m 66 #[.val (.ref a1), .val (.int (8 : Int32)), .val (.long q1), .second] [(.ref a1)]))
  refine own_to (fun t k => XS.iloadN X0.here hx rfl (hb hby own_d4_66) rfl k) ?_
  show own_Fin _ _ _ _ _ _ (s₁.setTop (mkF m 67 #[.val (.ref a1), .val (.int (8 : Int32)), .val (.long q1), .second] [(.int (8 : Int32)), (.ref a1)]))
  refine own_to (fun t k => XS.iconst X0.here hx rfl (hb hby own_d4_67) k) ?_
  show own_Fin _ _ _ _ _ _ (s₁.setTop (mkF m 68 #[.val (.ref a1), .val (.int (8 : Int32)), .val (.long q1), .second] [(.int (5 : Int32)), (.int (8 : Int32)), (.ref a1)]))
  refine own_to (fun t k => XS.iadd X0.here hx rfl (hb hby own_d4_68) rfl k) ?_
  show own_Fin _ _ _ _ _ _ (s₁.setTop (mkF m 69 #[.val (.ref a1), .val (.int (8 : Int32)), .val (.long q1), .second] [(.int (13 : Int32)), (.ref a1)]))
  obtain ⟨cl75, Ar75, qa75, Sa75, Na75, Ha75, Ga75⟩ := id V1
  have hin76 : ¬ ((13 : Int32) < 0 ∨ cl75.slots.size ≤ ((13 : Int32)).toNatClampNeg) := inb_of Sa75 ⟨by decide, by decide⟩
  refine own_to (fun t k => X0.baloadBytes hx (j := (13 : Int32)) (v := (.int ((((q1.toUInt64 >>> ((40 : Int32) &&& 0x3f).toInt64.toUInt64).toInt64).toInt32).toInt8.toInt32))) (by rw [e0]; exact Ar75.1) (State.isArrayOf_alike hZ.alike Ar75.2.1) Ar75.2.2 hin76 (Has.at Ha75 hin76 hv5) (g := (mkF m 69 #[.val (.ref a1), .val (.int (8 : Int32)), .val (.long q1), .second] [(.int (13 : Int32)), (.ref a1)])) rfl rfl (hb hby own_d4_69) _ k) ?_
  show own_Fin _ _ _ _ _ _ (s₁.setTop (mkF m 70 #[.val (.ref a1), .val (.int (8 : Int32)), .val (.long q1), .second] [(.int ((((q1.toUInt64 >>> ((40 : Int32) &&& 0x3f).toInt64.toUInt64).toInt64).toInt32).toInt8.toInt32))]))
  refine own_to (fun t k => XS.lloadN X0.here hx rfl (hb hby own_d4_70) rfl k) ?_
  show own_Fin _ _ _ _ _ _ (s₁.setTop (mkF m 71 #[.val (.ref a1), .val (.int (8 : Int32)), .val (.long q1), .second] [(.long q1), (.int ((((q1.toUInt64 >>> ((40 : Int32) &&& 0x3f).toInt64.toUInt64).toInt64).toInt32).toInt8.toInt32))]))
  refine own_to (fun t k => XS.bipush X0.here hx rfl (hb hby own_d4_71) k) ?_
  show own_Fin _ _ _ _ _ _ (s₁.setTop (mkF m 73 #[.val (.ref a1), .val (.int (8 : Int32)), .val (.long q1), .second] [(.int (40 : Int32)), (.long q1), (.int ((((q1.toUInt64 >>> ((40 : Int32) &&& 0x3f).toInt64.toUInt64).toInt64).toInt32).toInt8.toInt32))]))
  refine own_to (fun t k => XS.lushr X0.here hx rfl (hb hby own_d4_73) rfl k) ?_
  show own_Fin _ _ _ _ _ _ (s₁.setTop (mkF m 74 #[.val (.ref a1), .val (.int (8 : Int32)), .val (.long q1), .second] [(.long ((q1.toUInt64 >>> ((40 : Int32) &&& 0x3f).toInt64.toUInt64).toInt64)), (.int ((((q1.toUInt64 >>> ((40 : Int32) &&& 0x3f).toInt64.toUInt64).toInt64).toInt32).toInt8.toInt32))]))
  refine own_to (fun t k => XS.l2i X0.here hx rfl (hb hby own_d4_74) rfl k) ?_
  show own_Fin _ _ _ _ _ _ (s₁.setTop (mkF m 75 #[.val (.ref a1), .val (.int (8 : Int32)), .val (.long q1), .second] [(.int (((q1.toUInt64 >>> ((40 : Int32) &&& 0x3f).toInt64.toUInt64).toInt64).toInt32)), (.int ((((q1.toUInt64 >>> ((40 : Int32) &&& 0x3f).toInt64.toUInt64).toInt64).toInt32).toInt8.toInt32))]))
  refine own_to (fun t k => XS.i2b X0.here hx rfl (hb hby own_d4_75) rfl k) ?_
  show own_Fin _ _ _ _ _ _ (s₁.setTop (mkF m 76 #[.val (.ref a1), .val (.int (8 : Int32)), .val (.long q1), .second] [(.int ((((q1.toUInt64 >>> ((40 : Int32) &&& 0x3f).toInt64.toUInt64).toInt64).toInt32).toInt8.toInt32)), (.int ((((q1.toUInt64 >>> ((40 : Int32) &&& 0x3f).toInt64.toUInt64).toInt64).toInt32).toInt8.toInt32))]))
  refine own_to (fun t k => XS.icmpNo X0.here hx rfl (hb hby own_d4_76) rfl (teq rfl).2 k) ?_
  show own_Fin _ _ _ _ _ _ (s₁.setTop (mkF m 79 #[.val (.ref a1), .val (.int (8 : Int32)), .val (.long q1), .second] []))
  refine own_to (fun t k => XS.aloadN X0.here hx rfl (hb hby own_d4_79) rfl rfl k) ?_
  show own_Fin _ _ _ _ _ _ (s₁.setTop (mkF m 80 #[.val (.ref a1), .val (.int (8 : Int32)), .val (.long q1), .second] [(.ref a1)]))
  refine own_to (fun t k => XS.iloadN X0.here hx rfl (hb hby own_d4_80) rfl k) ?_
  show own_Fin _ _ _ _ _ _ (s₁.setTop (mkF m 81 #[.val (.ref a1), .val (.int (8 : Int32)), .val (.long q1), .second] [(.int (8 : Int32)), (.ref a1)]))
  refine own_to (fun t k => XS.bipush X0.here hx rfl (hb hby own_d4_81) k) ?_
  show own_Fin _ _ _ _ _ _ (s₁.setTop (mkF m 83 #[.val (.ref a1), .val (.int (8 : Int32)), .val (.long q1), .second] [(.int (6 : Int32)), (.int (8 : Int32)), (.ref a1)]))
  refine own_to (fun t k => XS.iadd X0.here hx rfl (hb hby own_d4_83) rfl k) ?_
  show own_Fin _ _ _ _ _ _ (s₁.setTop (mkF m 84 #[.val (.ref a1), .val (.int (8 : Int32)), .val (.long q1), .second] [(.int (14 : Int32)), (.ref a1)]))
  obtain ⟨cl77, Ar77, qa77, Sa77, Na77, Ha77, Ga77⟩ := id V1
  have hin78 : ¬ ((14 : Int32) < 0 ∨ cl77.slots.size ≤ ((14 : Int32)).toNatClampNeg) := inb_of Sa77 ⟨by decide, by decide⟩
  refine own_to (fun t k => X0.baloadBytes hx (j := (14 : Int32)) (v := (.int ((((q1.toUInt64 >>> ((48 : Int32) &&& 0x3f).toInt64.toUInt64).toInt64).toInt32).toInt8.toInt32))) (by rw [e0]; exact Ar77.1) (State.isArrayOf_alike hZ.alike Ar77.2.1) Ar77.2.2 hin78 (Has.at Ha77 hin78 hv6) (g := (mkF m 84 #[.val (.ref a1), .val (.int (8 : Int32)), .val (.long q1), .second] [(.int (14 : Int32)), (.ref a1)])) rfl rfl (hb hby own_d4_84) _ k) ?_
  show own_Fin _ _ _ _ _ _ (s₁.setTop (mkF m 85 #[.val (.ref a1), .val (.int (8 : Int32)), .val (.long q1), .second] [(.int ((((q1.toUInt64 >>> ((48 : Int32) &&& 0x3f).toInt64.toUInt64).toInt64).toInt32).toInt8.toInt32))]))
  refine own_to (fun t k => XS.lloadN X0.here hx rfl (hb hby own_d4_85) rfl k) ?_
  show own_Fin _ _ _ _ _ _ (s₁.setTop (mkF m 86 #[.val (.ref a1), .val (.int (8 : Int32)), .val (.long q1), .second] [(.long q1), (.int ((((q1.toUInt64 >>> ((48 : Int32) &&& 0x3f).toInt64.toUInt64).toInt64).toInt32).toInt8.toInt32))]))
  refine own_to (fun t k => XS.bipush X0.here hx rfl (hb hby own_d4_86) k) ?_
  show own_Fin _ _ _ _ _ _ (s₁.setTop (mkF m 88 #[.val (.ref a1), .val (.int (8 : Int32)), .val (.long q1), .second] [(.int (48 : Int32)), (.long q1), (.int ((((q1.toUInt64 >>> ((48 : Int32) &&& 0x3f).toInt64.toUInt64).toInt64).toInt32).toInt8.toInt32))]))
  refine own_to (fun t k => XS.lushr X0.here hx rfl (hb hby own_d4_88) rfl k) ?_
  show own_Fin _ _ _ _ _ _ (s₁.setTop (mkF m 89 #[.val (.ref a1), .val (.int (8 : Int32)), .val (.long q1), .second] [(.long ((q1.toUInt64 >>> ((48 : Int32) &&& 0x3f).toInt64.toUInt64).toInt64)), (.int ((((q1.toUInt64 >>> ((48 : Int32) &&& 0x3f).toInt64.toUInt64).toInt64).toInt32).toInt8.toInt32))]))
  refine own_to (fun t k => XS.l2i X0.here hx rfl (hb hby own_d4_89) rfl k) ?_
  show own_Fin _ _ _ _ _ _ (s₁.setTop (mkF m 90 #[.val (.ref a1), .val (.int (8 : Int32)), .val (.long q1), .second] [(.int (((q1.toUInt64 >>> ((48 : Int32) &&& 0x3f).toInt64.toUInt64).toInt64).toInt32)), (.int ((((q1.toUInt64 >>> ((48 : Int32) &&& 0x3f).toInt64.toUInt64).toInt64).toInt32).toInt8.toInt32))]))
  refine own_to (fun t k => XS.i2b X0.here hx rfl (hb hby own_d4_90) rfl k) ?_
  show own_Fin _ _ _ _ _ _ (s₁.setTop (mkF m 91 #[.val (.ref a1), .val (.int (8 : Int32)), .val (.long q1), .second] [(.int ((((q1.toUInt64 >>> ((48 : Int32) &&& 0x3f).toInt64.toUInt64).toInt64).toInt32).toInt8.toInt32)), (.int ((((q1.toUInt64 >>> ((48 : Int32) &&& 0x3f).toInt64.toUInt64).toInt64).toInt32).toInt8.toInt32))]))
  refine own_to (fun t k => XS.icmpNo X0.here hx rfl (hb hby own_d4_91) rfl (teq rfl).2 k) ?_
  show own_Fin _ _ _ _ _ _ (s₁.setTop (mkF m 94 #[.val (.ref a1), .val (.int (8 : Int32)), .val (.long q1), .second] []))
  refine own_to (fun t k => XS.aloadN X0.here hx rfl (hb hby own_d4_94) rfl rfl k) ?_
  show own_Fin _ _ _ _ _ _ (s₁.setTop (mkF m 95 #[.val (.ref a1), .val (.int (8 : Int32)), .val (.long q1), .second] [(.ref a1)]))
  refine own_to (fun t k => XS.iloadN X0.here hx rfl (hb hby own_d4_95) rfl k) ?_
  show own_Fin _ _ _ _ _ _ (s₁.setTop (mkF m 96 #[.val (.ref a1), .val (.int (8 : Int32)), .val (.long q1), .second] [(.int (8 : Int32)), (.ref a1)]))
  refine own_to (fun t k => XS.bipush X0.here hx rfl (hb hby own_d4_96) k) ?_
  show own_Fin _ _ _ _ _ _ (s₁.setTop (mkF m 98 #[.val (.ref a1), .val (.int (8 : Int32)), .val (.long q1), .second] [(.int (7 : Int32)), (.int (8 : Int32)), (.ref a1)]))
  refine own_to (fun t k => XS.iadd X0.here hx rfl (hb hby own_d4_98) rfl k) ?_
  show own_Fin _ _ _ _ _ _ (s₁.setTop (mkF m 99 #[.val (.ref a1), .val (.int (8 : Int32)), .val (.long q1), .second] [(.int (15 : Int32)), (.ref a1)]))
  obtain ⟨cl79, Ar79, qa79, Sa79, Na79, Ha79, Ga79⟩ := id V1
  have hin80 : ¬ ((15 : Int32) < 0 ∨ cl79.slots.size ≤ ((15 : Int32)).toNatClampNeg) := inb_of Sa79 ⟨by decide, by decide⟩
  refine own_to (fun t k => X0.baloadBytes hx (j := (15 : Int32)) (v := (.int ((((q1.toUInt64 >>> ((56 : Int32) &&& 0x3f).toInt64.toUInt64).toInt64).toInt32).toInt8.toInt32))) (by rw [e0]; exact Ar79.1) (State.isArrayOf_alike hZ.alike Ar79.2.1) Ar79.2.2 hin80 (Has.at Ha79 hin80 hv7) (g := (mkF m 99 #[.val (.ref a1), .val (.int (8 : Int32)), .val (.long q1), .second] [(.int (15 : Int32)), (.ref a1)])) rfl rfl (hb hby own_d4_99) _ k) ?_
  show own_Fin _ _ _ _ _ _ (s₁.setTop (mkF m 100 #[.val (.ref a1), .val (.int (8 : Int32)), .val (.long q1), .second] [(.int ((((q1.toUInt64 >>> ((56 : Int32) &&& 0x3f).toInt64.toUInt64).toInt64).toInt32).toInt8.toInt32))]))
  refine own_to (fun t k => XS.lloadN X0.here hx rfl (hb hby own_d4_100) rfl k) ?_
  show own_Fin _ _ _ _ _ _ (s₁.setTop (mkF m 101 #[.val (.ref a1), .val (.int (8 : Int32)), .val (.long q1), .second] [(.long q1), (.int ((((q1.toUInt64 >>> ((56 : Int32) &&& 0x3f).toInt64.toUInt64).toInt64).toInt32).toInt8.toInt32))]))
  refine own_to (fun t k => XS.bipush X0.here hx rfl (hb hby own_d4_101) k) ?_
  show own_Fin _ _ _ _ _ _ (s₁.setTop (mkF m 103 #[.val (.ref a1), .val (.int (8 : Int32)), .val (.long q1), .second] [(.int (56 : Int32)), (.long q1), (.int ((((q1.toUInt64 >>> ((56 : Int32) &&& 0x3f).toInt64.toUInt64).toInt64).toInt32).toInt8.toInt32))]))
  refine own_to (fun t k => XS.lushr X0.here hx rfl (hb hby own_d4_103) rfl k) ?_
  show own_Fin _ _ _ _ _ _ (s₁.setTop (mkF m 104 #[.val (.ref a1), .val (.int (8 : Int32)), .val (.long q1), .second] [(.long ((q1.toUInt64 >>> ((56 : Int32) &&& 0x3f).toInt64.toUInt64).toInt64)), (.int ((((q1.toUInt64 >>> ((56 : Int32) &&& 0x3f).toInt64.toUInt64).toInt64).toInt32).toInt8.toInt32))]))
  refine own_to (fun t k => XS.l2i X0.here hx rfl (hb hby own_d4_104) rfl k) ?_
  show own_Fin _ _ _ _ _ _ (s₁.setTop (mkF m 105 #[.val (.ref a1), .val (.int (8 : Int32)), .val (.long q1), .second] [(.int (((q1.toUInt64 >>> ((56 : Int32) &&& 0x3f).toInt64.toUInt64).toInt64).toInt32)), (.int ((((q1.toUInt64 >>> ((56 : Int32) &&& 0x3f).toInt64.toUInt64).toInt64).toInt32).toInt8.toInt32))]))
  refine own_to (fun t k => XS.i2b X0.here hx rfl (hb hby own_d4_105) rfl k) ?_
  show own_Fin _ _ _ _ _ _ (s₁.setTop (mkF m 106 #[.val (.ref a1), .val (.int (8 : Int32)), .val (.long q1), .second] [(.int ((((q1.toUInt64 >>> ((56 : Int32) &&& 0x3f).toInt64.toUInt64).toInt64).toInt32).toInt8.toInt32)), (.int ((((q1.toUInt64 >>> ((56 : Int32) &&& 0x3f).toInt64.toUInt64).toInt64).toInt32).toInt8.toInt32))]))
  refine own_to (fun t k => XS.icmpNo X0.here hx rfl (hb hby own_d4_106) rfl (teq rfl).2 k) ?_
  show own_Fin _ _ _ _ _ _ (s₁.setTop (mkF m 109 #[.val (.ref a1), .val (.int (8 : Int32)), .val (.long q1), .second] []))
  refine own_to (fun t k => XS.iconst X0.here hx rfl (hb hby own_d4_109) k) ?_
  show own_Fin _ _ _ _ _ _ (s₁.setTop (mkF m 110 #[.val (.ref a1), .val (.int (8 : Int32)), .val (.long q1), .second] [(.int (1 : Int32))]))
  refine own_to (fun t k => XS.goto X0.here hx rfl (pc0 := 110) (pc' := 114) rfl (hb hby own_d4_110) (by decide) (by decide) k) ?_
  show own_Fin _ _ _ _ _ _ (s₁.setTop (mkF m 114 #[.val (.ref a1), .val (.int (8 : Int32)), .val (.long q1), .second] [(.int (1 : Int32))]))
  refine own_retN X0 hx hlk (t := .boolean) hret (by simp) (hb hby own_d4_114) (by decide) (by decide) ?_
  try rw [e0]
  exact ⟨rfl, N0, rfl⟩
theorem own_put16_ef (m : MethodId) (a1 : Addr) (q1 : Int64) : entryFrame m #[(.ref a1), (.int (16 : Int32)), (.long q1)] 4 = mkF m 0 #[.val (.ref a1), .val (.int (16 : Int32)), .val (.long q1), .second] [] := by first | (simp [entryFrame, mkF, argsToLocals, Value.category]; done) | rfl
set_option maxRecDepth 65536 in
set_option maxHeartbeats 40000000 in
theorem own_put16 (l : Launch) (Z : State) (a0 : Array Value) (hw : ∀ d ∈ tables_1, d.before a0 Z = true) (ws : List Jvm.Cond) (a1 : Addr) (q1 : Int64) (k : ClassId) (vs : List Value) (h0 : Heap) (n0 : Nat) (Z0 : n0 ≤ h0.size) (V1 : Arv Z h0 a1 k .byte (32 : Int32) vs (.int (0 : Int32))) (hl : vs.length = 32) (g_a1 : n0 ≤ a1) :
    own_Met l Z (⟨"com/example/nuthatch/nuthatch/engine/Sha256RequireDigestPinLaw", "put", "([BIJ)V"⟩ : MethodName) method_2_code 4 none ws ({ frames := 0, cells := 0, slots := 0, locals := 0 } : Room) #[(.ref a1), (.int (16 : Int32)), (.long q1)] h0 (fun v h L => v = none ∧ Fr n0 L ∧ Keep h0 h [a1] ∧ Arv Z h a1 k .byte (32 : Int32) (own_put vs 16 q1) (.int (0 : Int32))) := by
  refine own_enter (plainFor_of_name own_pn0) ?_
  intro p e s m below meth c s₁ X0 hx hZ hby hml hown hnm hret hlk e0
  have N0 := Fr.nil n0
  rw [own_put16_ef m a1 q1]
  have KK0 : Keep h0 h0 [a1] := Keep.refl _ _
  show own_Fin _ _ _ _ _ _ (s₁.setTop (mkF m 0 #[.val (.ref a1), .val (.int (16 : Int32)), .val (.long q1), .second] []))
  refine own_to (fun t k => XS.aloadN X0.here hx rfl (hb hby own_d1_0) rfl rfl k) ?_
  show own_Fin _ _ _ _ _ _ (s₁.setTop (mkF m 1 #[.val (.ref a1), .val (.int (16 : Int32)), .val (.long q1), .second] [(.ref a1)]))
  refine own_to (fun t k => XS.iloadN X0.here hx rfl (hb hby own_d1_1) rfl k) ?_
  show own_Fin _ _ _ _ _ _ (s₁.setTop (mkF m 2 #[.val (.ref a1), .val (.int (16 : Int32)), .val (.long q1), .second] [(.int (16 : Int32)), (.ref a1)]))
  refine own_to (fun t k => XS.lloadN X0.here hx rfl (hb hby own_d1_2) rfl k) ?_
  show own_Fin _ _ _ _ _ _ (s₁.setTop (mkF m 3 #[.val (.ref a1), .val (.int (16 : Int32)), .val (.long q1), .second] [(.long q1), (.int (16 : Int32)), (.ref a1)]))
  refine own_to (fun t k => XS.l2i X0.here hx rfl (hb hby own_d1_3) rfl k) ?_
  show own_Fin _ _ _ _ _ _ (s₁.setTop (mkF m 4 #[.val (.ref a1), .val (.int (16 : Int32)), .val (.long q1), .second] [(.int (q1.toInt32)), (.int (16 : Int32)), (.ref a1)]))
  refine own_to (fun t k => XS.i2b X0.here hx rfl (hb hby own_d1_4) rfl k) ?_
  show own_Fin _ _ _ _ _ _ (s₁.setTop (mkF m 5 #[.val (.ref a1), .val (.int (16 : Int32)), .val (.long q1), .second] [(.int ((q1.toInt32).toInt8.toInt32)), (.int (16 : Int32)), (.ref a1)]))
  obtain ⟨cl81, Ar81, qa81, Sa81, Na81, Ha81, Ga81⟩ := id V1
  have hin82 : ¬ ((16 : Int32) < 0 ∨ cl81.slots.size ≤ ((16 : Int32)).toNatClampNeg) := inb_of Sa81 ⟨by decide, by decide⟩
  obtain ⟨T82, h82, X82, e82, W82, st82⟩ := stB X0 hx hZ e0 Ar81 (j := (16 : Int32)) hin82 (g := (mkF m 5 #[.val (.ref a1), .val (.int (16 : Int32)), .val (.long q1), .second] [(.int ((q1.toInt32).toInt8.toInt32)), (.int (16 : Int32)), (.ref a1)])) rfl rfl (hb hby own_d1_5)
  rw [own_idem _] at W82
  have N82 := Fr.snoc X82 N0 g_a1
  have KK82 : Keep h0 h82 [a1] := KK0.wr W82 (Or.inl (List.mem_of_getElem? (i := 0) rfl))
  have V82 : Arv Z h82 a1 k .byte (32 : Int32) (vs.set (16 + 0) (.int ((q1.toInt32).toInt8.toInt32))) (.int (0 : Int32)) := Arv.set Ar81 qa81 Sa81 Na81 Ha81 Ga81 (fits_nar_byte _) W82 (16 + 0) rfl (by simp [hl])
  refine own_to (fun t k => st82 t k) ?_
  show own_Fin _ _ _ _ _ _ (T82.setTop (mkF m 6 #[.val (.ref a1), .val (.int (16 : Int32)), .val (.long q1), .second] []))
  have Vb83 : Arv Z h82 a1 k .byte (32 : Int32) (vs.set (16 + 0) (.int (own_b q1 0))) (.int (0 : Int32)) := V82
  refine own_to (fun t k => XS.aloadN X82.here hx rfl (hb hby own_d1_6) rfl rfl k) ?_
  show own_Fin _ _ _ _ _ _ (T82.setTop (mkF m 7 #[.val (.ref a1), .val (.int (16 : Int32)), .val (.long q1), .second] [(.ref a1)]))
  refine own_to (fun t k => XS.iloadN X82.here hx rfl (hb hby own_d1_7) rfl k) ?_
  show own_Fin _ _ _ _ _ _ (T82.setTop (mkF m 8 #[.val (.ref a1), .val (.int (16 : Int32)), .val (.long q1), .second] [(.int (16 : Int32)), (.ref a1)]))
  refine own_to (fun t k => XS.iconst X82.here hx rfl (hb hby own_d1_8) k) ?_
  show own_Fin _ _ _ _ _ _ (T82.setTop (mkF m 9 #[.val (.ref a1), .val (.int (16 : Int32)), .val (.long q1), .second] [(.int (1 : Int32)), (.int (16 : Int32)), (.ref a1)]))
  refine own_to (fun t k => XS.iadd X82.here hx rfl (hb hby own_d1_9) rfl k) ?_
  show own_Fin _ _ _ _ _ _ (T82.setTop (mkF m 10 #[.val (.ref a1), .val (.int (16 : Int32)), .val (.long q1), .second] [(.int (17 : Int32)), (.ref a1)]))
  refine own_to (fun t k => XS.lloadN X82.here hx rfl (hb hby own_d1_10) rfl k) ?_
  show own_Fin _ _ _ _ _ _ (T82.setTop (mkF m 11 #[.val (.ref a1), .val (.int (16 : Int32)), .val (.long q1), .second] [(.long q1), (.int (17 : Int32)), (.ref a1)]))
  refine own_to (fun t k => XS.bipush X82.here hx rfl (hb hby own_d1_11) k) ?_
  show own_Fin _ _ _ _ _ _ (T82.setTop (mkF m 13 #[.val (.ref a1), .val (.int (16 : Int32)), .val (.long q1), .second] [(.int (8 : Int32)), (.long q1), (.int (17 : Int32)), (.ref a1)]))
  refine own_to (fun t k => XS.lushr X82.here hx rfl (hb hby own_d1_13) rfl k) ?_
  show own_Fin _ _ _ _ _ _ (T82.setTop (mkF m 14 #[.val (.ref a1), .val (.int (16 : Int32)), .val (.long q1), .second] [(.long ((q1.toUInt64 >>> ((8 : Int32) &&& 0x3f).toInt64.toUInt64).toInt64)), (.int (17 : Int32)), (.ref a1)]))
  refine own_to (fun t k => XS.l2i X82.here hx rfl (hb hby own_d1_14) rfl k) ?_
  show own_Fin _ _ _ _ _ _ (T82.setTop (mkF m 15 #[.val (.ref a1), .val (.int (16 : Int32)), .val (.long q1), .second] [(.int (((q1.toUInt64 >>> ((8 : Int32) &&& 0x3f).toInt64.toUInt64).toInt64).toInt32)), (.int (17 : Int32)), (.ref a1)]))
  refine own_to (fun t k => XS.i2b X82.here hx rfl (hb hby own_d1_15) rfl k) ?_
  show own_Fin _ _ _ _ _ _ (T82.setTop (mkF m 16 #[.val (.ref a1), .val (.int (16 : Int32)), .val (.long q1), .second] [(.int ((((q1.toUInt64 >>> ((8 : Int32) &&& 0x3f).toInt64.toUInt64).toInt64).toInt32).toInt8.toInt32)), (.int (17 : Int32)), (.ref a1)]))
  obtain ⟨cl84, Ar84, qa84, Sa84, Na84, Ha84, Ga84⟩ := id Vb83
  have hin85 : ¬ ((17 : Int32) < 0 ∨ cl84.slots.size ≤ ((17 : Int32)).toNatClampNeg) := inb_of Sa84 ⟨by decide, by decide⟩
  obtain ⟨T85, h85, X85, e85, W85, st85⟩ := stB X82 hx hZ e82 Ar84 (j := (17 : Int32)) hin85 (g := (mkF m 16 #[.val (.ref a1), .val (.int (16 : Int32)), .val (.long q1), .second] [(.int ((((q1.toUInt64 >>> ((8 : Int32) &&& 0x3f).toInt64.toUInt64).toInt64).toInt32).toInt8.toInt32)), (.int (17 : Int32)), (.ref a1)])) rfl rfl (hb hby own_d1_16)
  rw [own_idem _] at W85
  have N85 := Fr.snoc X85 N82 g_a1
  have KK85 : Keep h0 h85 [a1] := KK82.wr W85 (Or.inl (List.mem_of_getElem? (i := 0) rfl))
  have V85 : Arv Z h85 a1 k .byte (32 : Int32) ((vs.set (16 + 0) (.int (own_b q1 0))).set (16 + 1) (.int ((((q1.toUInt64 >>> ((8 : Int32) &&& 0x3f).toInt64.toUInt64).toInt64).toInt32).toInt8.toInt32))) (.int (0 : Int32)) := Arv.set Ar84 qa84 Sa84 Na84 Ha84 Ga84 (fits_nar_byte _) W85 (16 + 1) rfl (by simp [hl])
  refine own_to (fun t k => st85 t k) ?_
  show own_Fin _ _ _ _ _ _ (T85.setTop (mkF m 17 #[.val (.ref a1), .val (.int (16 : Int32)), .val (.long q1), .second] []))
  have Vb86 : Arv Z h85 a1 k .byte (32 : Int32) ((vs.set (16 + 0) (.int (own_b q1 0))).set (16 + 1) (.int (own_b q1 1))) (.int (0 : Int32)) := V85
  refine own_to (fun t k => XS.aloadN X85.here hx rfl (hb hby own_d1_17) rfl rfl k) ?_
  show own_Fin _ _ _ _ _ _ (T85.setTop (mkF m 18 #[.val (.ref a1), .val (.int (16 : Int32)), .val (.long q1), .second] [(.ref a1)]))
  refine own_to (fun t k => XS.iloadN X85.here hx rfl (hb hby own_d1_18) rfl k) ?_
  show own_Fin _ _ _ _ _ _ (T85.setTop (mkF m 19 #[.val (.ref a1), .val (.int (16 : Int32)), .val (.long q1), .second] [(.int (16 : Int32)), (.ref a1)]))
  refine own_to (fun t k => XS.iconst X85.here hx rfl (hb hby own_d1_19) k) ?_
  show own_Fin _ _ _ _ _ _ (T85.setTop (mkF m 20 #[.val (.ref a1), .val (.int (16 : Int32)), .val (.long q1), .second] [(.int (2 : Int32)), (.int (16 : Int32)), (.ref a1)]))
  refine own_to (fun t k => XS.iadd X85.here hx rfl (hb hby own_d1_20) rfl k) ?_
  show own_Fin _ _ _ _ _ _ (T85.setTop (mkF m 21 #[.val (.ref a1), .val (.int (16 : Int32)), .val (.long q1), .second] [(.int (18 : Int32)), (.ref a1)]))
  refine own_to (fun t k => XS.lloadN X85.here hx rfl (hb hby own_d1_21) rfl k) ?_
  show own_Fin _ _ _ _ _ _ (T85.setTop (mkF m 22 #[.val (.ref a1), .val (.int (16 : Int32)), .val (.long q1), .second] [(.long q1), (.int (18 : Int32)), (.ref a1)]))
  refine own_to (fun t k => XS.bipush X85.here hx rfl (hb hby own_d1_22) k) ?_
  show own_Fin _ _ _ _ _ _ (T85.setTop (mkF m 24 #[.val (.ref a1), .val (.int (16 : Int32)), .val (.long q1), .second] [(.int (16 : Int32)), (.long q1), (.int (18 : Int32)), (.ref a1)]))
  refine own_to (fun t k => XS.lushr X85.here hx rfl (hb hby own_d1_24) rfl k) ?_
  show own_Fin _ _ _ _ _ _ (T85.setTop (mkF m 25 #[.val (.ref a1), .val (.int (16 : Int32)), .val (.long q1), .second] [(.long ((q1.toUInt64 >>> ((16 : Int32) &&& 0x3f).toInt64.toUInt64).toInt64)), (.int (18 : Int32)), (.ref a1)]))
  refine own_to (fun t k => XS.l2i X85.here hx rfl (hb hby own_d1_25) rfl k) ?_
  show own_Fin _ _ _ _ _ _ (T85.setTop (mkF m 26 #[.val (.ref a1), .val (.int (16 : Int32)), .val (.long q1), .second] [(.int (((q1.toUInt64 >>> ((16 : Int32) &&& 0x3f).toInt64.toUInt64).toInt64).toInt32)), (.int (18 : Int32)), (.ref a1)]))
  refine own_to (fun t k => XS.i2b X85.here hx rfl (hb hby own_d1_26) rfl k) ?_
  show own_Fin _ _ _ _ _ _ (T85.setTop (mkF m 27 #[.val (.ref a1), .val (.int (16 : Int32)), .val (.long q1), .second] [(.int ((((q1.toUInt64 >>> ((16 : Int32) &&& 0x3f).toInt64.toUInt64).toInt64).toInt32).toInt8.toInt32)), (.int (18 : Int32)), (.ref a1)]))
  obtain ⟨cl87, Ar87, qa87, Sa87, Na87, Ha87, Ga87⟩ := id Vb86
  have hin88 : ¬ ((18 : Int32) < 0 ∨ cl87.slots.size ≤ ((18 : Int32)).toNatClampNeg) := inb_of Sa87 ⟨by decide, by decide⟩
  obtain ⟨T88, h88, X88, e88, W88, st88⟩ := stB X85 hx hZ e85 Ar87 (j := (18 : Int32)) hin88 (g := (mkF m 27 #[.val (.ref a1), .val (.int (16 : Int32)), .val (.long q1), .second] [(.int ((((q1.toUInt64 >>> ((16 : Int32) &&& 0x3f).toInt64.toUInt64).toInt64).toInt32).toInt8.toInt32)), (.int (18 : Int32)), (.ref a1)])) rfl rfl (hb hby own_d1_27)
  rw [own_idem _] at W88
  have N88 := Fr.snoc X88 N85 g_a1
  have KK88 : Keep h0 h88 [a1] := KK85.wr W88 (Or.inl (List.mem_of_getElem? (i := 0) rfl))
  have V88 : Arv Z h88 a1 k .byte (32 : Int32) (((vs.set (16 + 0) (.int (own_b q1 0))).set (16 + 1) (.int (own_b q1 1))).set (16 + 2) (.int ((((q1.toUInt64 >>> ((16 : Int32) &&& 0x3f).toInt64.toUInt64).toInt64).toInt32).toInt8.toInt32))) (.int (0 : Int32)) := Arv.set Ar87 qa87 Sa87 Na87 Ha87 Ga87 (fits_nar_byte _) W88 (16 + 2) rfl (by simp [hl])
  refine own_to (fun t k => st88 t k) ?_
  show own_Fin _ _ _ _ _ _ (T88.setTop (mkF m 28 #[.val (.ref a1), .val (.int (16 : Int32)), .val (.long q1), .second] []))
  have Vb89 : Arv Z h88 a1 k .byte (32 : Int32) (((vs.set (16 + 0) (.int (own_b q1 0))).set (16 + 1) (.int (own_b q1 1))).set (16 + 2) (.int (own_b q1 2))) (.int (0 : Int32)) := V88
  refine own_to (fun t k => XS.aloadN X88.here hx rfl (hb hby own_d1_28) rfl rfl k) ?_
  show own_Fin _ _ _ _ _ _ (T88.setTop (mkF m 29 #[.val (.ref a1), .val (.int (16 : Int32)), .val (.long q1), .second] [(.ref a1)]))
  refine own_to (fun t k => XS.iloadN X88.here hx rfl (hb hby own_d1_29) rfl k) ?_
  show own_Fin _ _ _ _ _ _ (T88.setTop (mkF m 30 #[.val (.ref a1), .val (.int (16 : Int32)), .val (.long q1), .second] [(.int (16 : Int32)), (.ref a1)]))
  refine own_to (fun t k => XS.iconst X88.here hx rfl (hb hby own_d1_30) k) ?_
  show own_Fin _ _ _ _ _ _ (T88.setTop (mkF m 31 #[.val (.ref a1), .val (.int (16 : Int32)), .val (.long q1), .second] [(.int (3 : Int32)), (.int (16 : Int32)), (.ref a1)]))
  refine own_to (fun t k => XS.iadd X88.here hx rfl (hb hby own_d1_31) rfl k) ?_
  show own_Fin _ _ _ _ _ _ (T88.setTop (mkF m 32 #[.val (.ref a1), .val (.int (16 : Int32)), .val (.long q1), .second] [(.int (19 : Int32)), (.ref a1)]))
  refine own_to (fun t k => XS.lloadN X88.here hx rfl (hb hby own_d1_32) rfl k) ?_
  show own_Fin _ _ _ _ _ _ (T88.setTop (mkF m 33 #[.val (.ref a1), .val (.int (16 : Int32)), .val (.long q1), .second] [(.long q1), (.int (19 : Int32)), (.ref a1)]))
  refine own_to (fun t k => XS.bipush X88.here hx rfl (hb hby own_d1_33) k) ?_
  show own_Fin _ _ _ _ _ _ (T88.setTop (mkF m 35 #[.val (.ref a1), .val (.int (16 : Int32)), .val (.long q1), .second] [(.int (24 : Int32)), (.long q1), (.int (19 : Int32)), (.ref a1)]))
  refine own_to (fun t k => XS.lushr X88.here hx rfl (hb hby own_d1_35) rfl k) ?_
  show own_Fin _ _ _ _ _ _ (T88.setTop (mkF m 36 #[.val (.ref a1), .val (.int (16 : Int32)), .val (.long q1), .second] [(.long ((q1.toUInt64 >>> ((24 : Int32) &&& 0x3f).toInt64.toUInt64).toInt64)), (.int (19 : Int32)), (.ref a1)]))
  refine own_to (fun t k => XS.l2i X88.here hx rfl (hb hby own_d1_36) rfl k) ?_
  show own_Fin _ _ _ _ _ _ (T88.setTop (mkF m 37 #[.val (.ref a1), .val (.int (16 : Int32)), .val (.long q1), .second] [(.int (((q1.toUInt64 >>> ((24 : Int32) &&& 0x3f).toInt64.toUInt64).toInt64).toInt32)), (.int (19 : Int32)), (.ref a1)]))
  refine own_to (fun t k => XS.i2b X88.here hx rfl (hb hby own_d1_37) rfl k) ?_
  show own_Fin _ _ _ _ _ _ (T88.setTop (mkF m 38 #[.val (.ref a1), .val (.int (16 : Int32)), .val (.long q1), .second] [(.int ((((q1.toUInt64 >>> ((24 : Int32) &&& 0x3f).toInt64.toUInt64).toInt64).toInt32).toInt8.toInt32)), (.int (19 : Int32)), (.ref a1)]))
  obtain ⟨cl90, Ar90, qa90, Sa90, Na90, Ha90, Ga90⟩ := id Vb89
  have hin91 : ¬ ((19 : Int32) < 0 ∨ cl90.slots.size ≤ ((19 : Int32)).toNatClampNeg) := inb_of Sa90 ⟨by decide, by decide⟩
  obtain ⟨T91, h91, X91, e91, W91, st91⟩ := stB X88 hx hZ e88 Ar90 (j := (19 : Int32)) hin91 (g := (mkF m 38 #[.val (.ref a1), .val (.int (16 : Int32)), .val (.long q1), .second] [(.int ((((q1.toUInt64 >>> ((24 : Int32) &&& 0x3f).toInt64.toUInt64).toInt64).toInt32).toInt8.toInt32)), (.int (19 : Int32)), (.ref a1)])) rfl rfl (hb hby own_d1_38)
  rw [own_idem _] at W91
  have N91 := Fr.snoc X91 N88 g_a1
  have KK91 : Keep h0 h91 [a1] := KK88.wr W91 (Or.inl (List.mem_of_getElem? (i := 0) rfl))
  have V91 : Arv Z h91 a1 k .byte (32 : Int32) ((((vs.set (16 + 0) (.int (own_b q1 0))).set (16 + 1) (.int (own_b q1 1))).set (16 + 2) (.int (own_b q1 2))).set (16 + 3) (.int ((((q1.toUInt64 >>> ((24 : Int32) &&& 0x3f).toInt64.toUInt64).toInt64).toInt32).toInt8.toInt32))) (.int (0 : Int32)) := Arv.set Ar90 qa90 Sa90 Na90 Ha90 Ga90 (fits_nar_byte _) W91 (16 + 3) rfl (by simp [hl])
  refine own_to (fun t k => st91 t k) ?_
  show own_Fin _ _ _ _ _ _ (T91.setTop (mkF m 39 #[.val (.ref a1), .val (.int (16 : Int32)), .val (.long q1), .second] []))
  have Vb92 : Arv Z h91 a1 k .byte (32 : Int32) ((((vs.set (16 + 0) (.int (own_b q1 0))).set (16 + 1) (.int (own_b q1 1))).set (16 + 2) (.int (own_b q1 2))).set (16 + 3) (.int (own_b q1 3))) (.int (0 : Int32)) := V91
  refine own_to (fun t k => XS.aloadN X91.here hx rfl (hb hby own_d1_39) rfl rfl k) ?_
  show own_Fin _ _ _ _ _ _ (T91.setTop (mkF m 40 #[.val (.ref a1), .val (.int (16 : Int32)), .val (.long q1), .second] [(.ref a1)]))
  refine own_to (fun t k => XS.iloadN X91.here hx rfl (hb hby own_d1_40) rfl k) ?_
  show own_Fin _ _ _ _ _ _ (T91.setTop (mkF m 41 #[.val (.ref a1), .val (.int (16 : Int32)), .val (.long q1), .second] [(.int (16 : Int32)), (.ref a1)]))
  refine own_to (fun t k => XS.iconst X91.here hx rfl (hb hby own_d1_41) k) ?_
  show own_Fin _ _ _ _ _ _ (T91.setTop (mkF m 42 #[.val (.ref a1), .val (.int (16 : Int32)), .val (.long q1), .second] [(.int (4 : Int32)), (.int (16 : Int32)), (.ref a1)]))
  refine own_to (fun t k => XS.iadd X91.here hx rfl (hb hby own_d1_42) rfl k) ?_
  show own_Fin _ _ _ _ _ _ (T91.setTop (mkF m 43 #[.val (.ref a1), .val (.int (16 : Int32)), .val (.long q1), .second] [(.int (20 : Int32)), (.ref a1)]))
  refine own_to (fun t k => XS.lloadN X91.here hx rfl (hb hby own_d1_43) rfl k) ?_
  show own_Fin _ _ _ _ _ _ (T91.setTop (mkF m 44 #[.val (.ref a1), .val (.int (16 : Int32)), .val (.long q1), .second] [(.long q1), (.int (20 : Int32)), (.ref a1)]))
  refine own_to (fun t k => XS.bipush X91.here hx rfl (hb hby own_d1_44) k) ?_
  show own_Fin _ _ _ _ _ _ (T91.setTop (mkF m 46 #[.val (.ref a1), .val (.int (16 : Int32)), .val (.long q1), .second] [(.int (32 : Int32)), (.long q1), (.int (20 : Int32)), (.ref a1)]))
  refine own_to (fun t k => XS.lushr X91.here hx rfl (hb hby own_d1_46) rfl k) ?_
  show own_Fin _ _ _ _ _ _ (T91.setTop (mkF m 47 #[.val (.ref a1), .val (.int (16 : Int32)), .val (.long q1), .second] [(.long ((q1.toUInt64 >>> ((32 : Int32) &&& 0x3f).toInt64.toUInt64).toInt64)), (.int (20 : Int32)), (.ref a1)]))
  refine own_to (fun t k => XS.l2i X91.here hx rfl (hb hby own_d1_47) rfl k) ?_
  show own_Fin _ _ _ _ _ _ (T91.setTop (mkF m 48 #[.val (.ref a1), .val (.int (16 : Int32)), .val (.long q1), .second] [(.int (((q1.toUInt64 >>> ((32 : Int32) &&& 0x3f).toInt64.toUInt64).toInt64).toInt32)), (.int (20 : Int32)), (.ref a1)]))
  refine own_to (fun t k => XS.i2b X91.here hx rfl (hb hby own_d1_48) rfl k) ?_
  show own_Fin _ _ _ _ _ _ (T91.setTop (mkF m 49 #[.val (.ref a1), .val (.int (16 : Int32)), .val (.long q1), .second] [(.int ((((q1.toUInt64 >>> ((32 : Int32) &&& 0x3f).toInt64.toUInt64).toInt64).toInt32).toInt8.toInt32)), (.int (20 : Int32)), (.ref a1)]))
  obtain ⟨cl93, Ar93, qa93, Sa93, Na93, Ha93, Ga93⟩ := id Vb92
  have hin94 : ¬ ((20 : Int32) < 0 ∨ cl93.slots.size ≤ ((20 : Int32)).toNatClampNeg) := inb_of Sa93 ⟨by decide, by decide⟩
  obtain ⟨T94, h94, X94, e94, W94, st94⟩ := stB X91 hx hZ e91 Ar93 (j := (20 : Int32)) hin94 (g := (mkF m 49 #[.val (.ref a1), .val (.int (16 : Int32)), .val (.long q1), .second] [(.int ((((q1.toUInt64 >>> ((32 : Int32) &&& 0x3f).toInt64.toUInt64).toInt64).toInt32).toInt8.toInt32)), (.int (20 : Int32)), (.ref a1)])) rfl rfl (hb hby own_d1_49)
  rw [own_idem _] at W94
  have N94 := Fr.snoc X94 N91 g_a1
  have KK94 : Keep h0 h94 [a1] := KK91.wr W94 (Or.inl (List.mem_of_getElem? (i := 0) rfl))
  have V94 : Arv Z h94 a1 k .byte (32 : Int32) (((((vs.set (16 + 0) (.int (own_b q1 0))).set (16 + 1) (.int (own_b q1 1))).set (16 + 2) (.int (own_b q1 2))).set (16 + 3) (.int (own_b q1 3))).set (16 + 4) (.int ((((q1.toUInt64 >>> ((32 : Int32) &&& 0x3f).toInt64.toUInt64).toInt64).toInt32).toInt8.toInt32))) (.int (0 : Int32)) := Arv.set Ar93 qa93 Sa93 Na93 Ha93 Ga93 (fits_nar_byte _) W94 (16 + 4) rfl (by simp [hl])
  refine own_to (fun t k => st94 t k) ?_
  show own_Fin _ _ _ _ _ _ (T94.setTop (mkF m 50 #[.val (.ref a1), .val (.int (16 : Int32)), .val (.long q1), .second] []))
  have Vb95 : Arv Z h94 a1 k .byte (32 : Int32) (((((vs.set (16 + 0) (.int (own_b q1 0))).set (16 + 1) (.int (own_b q1 1))).set (16 + 2) (.int (own_b q1 2))).set (16 + 3) (.int (own_b q1 3))).set (16 + 4) (.int (own_b q1 4))) (.int (0 : Int32)) := V94
  refine own_to (fun t k => XS.aloadN X94.here hx rfl (hb hby own_d1_50) rfl rfl k) ?_
  show own_Fin _ _ _ _ _ _ (T94.setTop (mkF m 51 #[.val (.ref a1), .val (.int (16 : Int32)), .val (.long q1), .second] [(.ref a1)]))
  refine own_to (fun t k => XS.iloadN X94.here hx rfl (hb hby own_d1_51) rfl k) ?_
  show own_Fin _ _ _ _ _ _ (T94.setTop (mkF m 52 #[.val (.ref a1), .val (.int (16 : Int32)), .val (.long q1), .second] [(.int (16 : Int32)), (.ref a1)]))
  refine own_to (fun t k => XS.iconst X94.here hx rfl (hb hby own_d1_52) k) ?_
  show own_Fin _ _ _ _ _ _ (T94.setTop (mkF m 53 #[.val (.ref a1), .val (.int (16 : Int32)), .val (.long q1), .second] [(.int (5 : Int32)), (.int (16 : Int32)), (.ref a1)]))
  refine own_to (fun t k => XS.iadd X94.here hx rfl (hb hby own_d1_53) rfl k) ?_
  show own_Fin _ _ _ _ _ _ (T94.setTop (mkF m 54 #[.val (.ref a1), .val (.int (16 : Int32)), .val (.long q1), .second] [(.int (21 : Int32)), (.ref a1)]))
  refine own_to (fun t k => XS.lloadN X94.here hx rfl (hb hby own_d1_54) rfl k) ?_
  show own_Fin _ _ _ _ _ _ (T94.setTop (mkF m 55 #[.val (.ref a1), .val (.int (16 : Int32)), .val (.long q1), .second] [(.long q1), (.int (21 : Int32)), (.ref a1)]))
  refine own_to (fun t k => XS.bipush X94.here hx rfl (hb hby own_d1_55) k) ?_
  show own_Fin _ _ _ _ _ _ (T94.setTop (mkF m 57 #[.val (.ref a1), .val (.int (16 : Int32)), .val (.long q1), .second] [(.int (40 : Int32)), (.long q1), (.int (21 : Int32)), (.ref a1)]))
  refine own_to (fun t k => XS.lushr X94.here hx rfl (hb hby own_d1_57) rfl k) ?_
  show own_Fin _ _ _ _ _ _ (T94.setTop (mkF m 58 #[.val (.ref a1), .val (.int (16 : Int32)), .val (.long q1), .second] [(.long ((q1.toUInt64 >>> ((40 : Int32) &&& 0x3f).toInt64.toUInt64).toInt64)), (.int (21 : Int32)), (.ref a1)]))
  refine own_to (fun t k => XS.l2i X94.here hx rfl (hb hby own_d1_58) rfl k) ?_
  show own_Fin _ _ _ _ _ _ (T94.setTop (mkF m 59 #[.val (.ref a1), .val (.int (16 : Int32)), .val (.long q1), .second] [(.int (((q1.toUInt64 >>> ((40 : Int32) &&& 0x3f).toInt64.toUInt64).toInt64).toInt32)), (.int (21 : Int32)), (.ref a1)]))
  refine own_to (fun t k => XS.i2b X94.here hx rfl (hb hby own_d1_59) rfl k) ?_
  show own_Fin _ _ _ _ _ _ (T94.setTop (mkF m 60 #[.val (.ref a1), .val (.int (16 : Int32)), .val (.long q1), .second] [(.int ((((q1.toUInt64 >>> ((40 : Int32) &&& 0x3f).toInt64.toUInt64).toInt64).toInt32).toInt8.toInt32)), (.int (21 : Int32)), (.ref a1)]))
  obtain ⟨cl96, Ar96, qa96, Sa96, Na96, Ha96, Ga96⟩ := id Vb95
  have hin97 : ¬ ((21 : Int32) < 0 ∨ cl96.slots.size ≤ ((21 : Int32)).toNatClampNeg) := inb_of Sa96 ⟨by decide, by decide⟩
  obtain ⟨T97, h97, X97, e97, W97, st97⟩ := stB X94 hx hZ e94 Ar96 (j := (21 : Int32)) hin97 (g := (mkF m 60 #[.val (.ref a1), .val (.int (16 : Int32)), .val (.long q1), .second] [(.int ((((q1.toUInt64 >>> ((40 : Int32) &&& 0x3f).toInt64.toUInt64).toInt64).toInt32).toInt8.toInt32)), (.int (21 : Int32)), (.ref a1)])) rfl rfl (hb hby own_d1_60)
  rw [own_idem _] at W97
  have N97 := Fr.snoc X97 N94 g_a1
  have KK97 : Keep h0 h97 [a1] := KK94.wr W97 (Or.inl (List.mem_of_getElem? (i := 0) rfl))
  have V97 : Arv Z h97 a1 k .byte (32 : Int32) ((((((vs.set (16 + 0) (.int (own_b q1 0))).set (16 + 1) (.int (own_b q1 1))).set (16 + 2) (.int (own_b q1 2))).set (16 + 3) (.int (own_b q1 3))).set (16 + 4) (.int (own_b q1 4))).set (16 + 5) (.int ((((q1.toUInt64 >>> ((40 : Int32) &&& 0x3f).toInt64.toUInt64).toInt64).toInt32).toInt8.toInt32))) (.int (0 : Int32)) := Arv.set Ar96 qa96 Sa96 Na96 Ha96 Ga96 (fits_nar_byte _) W97 (16 + 5) rfl (by simp [hl])
  refine own_to (fun t k => st97 t k) ?_
  show own_Fin _ _ _ _ _ _ (T97.setTop (mkF m 61 #[.val (.ref a1), .val (.int (16 : Int32)), .val (.long q1), .second] []))
  have Vb98 : Arv Z h97 a1 k .byte (32 : Int32) ((((((vs.set (16 + 0) (.int (own_b q1 0))).set (16 + 1) (.int (own_b q1 1))).set (16 + 2) (.int (own_b q1 2))).set (16 + 3) (.int (own_b q1 3))).set (16 + 4) (.int (own_b q1 4))).set (16 + 5) (.int (own_b q1 5))) (.int (0 : Int32)) := V97
  refine own_to (fun t k => XS.aloadN X97.here hx rfl (hb hby own_d1_61) rfl rfl k) ?_
  show own_Fin _ _ _ _ _ _ (T97.setTop (mkF m 62 #[.val (.ref a1), .val (.int (16 : Int32)), .val (.long q1), .second] [(.ref a1)]))
  refine own_to (fun t k => XS.iloadN X97.here hx rfl (hb hby own_d1_62) rfl k) ?_
  show own_Fin _ _ _ _ _ _ (T97.setTop (mkF m 63 #[.val (.ref a1), .val (.int (16 : Int32)), .val (.long q1), .second] [(.int (16 : Int32)), (.ref a1)]))
  refine own_to (fun t k => XS.bipush X97.here hx rfl (hb hby own_d1_63) k) ?_
  show own_Fin _ _ _ _ _ _ (T97.setTop (mkF m 65 #[.val (.ref a1), .val (.int (16 : Int32)), .val (.long q1), .second] [(.int (6 : Int32)), (.int (16 : Int32)), (.ref a1)]))
  refine own_to (fun t k => XS.iadd X97.here hx rfl (hb hby own_d1_65) rfl k) ?_
  show own_Fin _ _ _ _ _ _ (T97.setTop (mkF m 66 #[.val (.ref a1), .val (.int (16 : Int32)), .val (.long q1), .second] [(.int (22 : Int32)), (.ref a1)]))
  refine own_to (fun t k => XS.lloadN X97.here hx rfl (hb hby own_d1_66) rfl k) ?_
  show own_Fin _ _ _ _ _ _ (T97.setTop (mkF m 67 #[.val (.ref a1), .val (.int (16 : Int32)), .val (.long q1), .second] [(.long q1), (.int (22 : Int32)), (.ref a1)]))
  refine own_to (fun t k => XS.bipush X97.here hx rfl (hb hby own_d1_67) k) ?_
  show own_Fin _ _ _ _ _ _ (T97.setTop (mkF m 69 #[.val (.ref a1), .val (.int (16 : Int32)), .val (.long q1), .second] [(.int (48 : Int32)), (.long q1), (.int (22 : Int32)), (.ref a1)]))
  refine own_to (fun t k => XS.lushr X97.here hx rfl (hb hby own_d1_69) rfl k) ?_
  show own_Fin _ _ _ _ _ _ (T97.setTop (mkF m 70 #[.val (.ref a1), .val (.int (16 : Int32)), .val (.long q1), .second] [(.long ((q1.toUInt64 >>> ((48 : Int32) &&& 0x3f).toInt64.toUInt64).toInt64)), (.int (22 : Int32)), (.ref a1)]))
  refine own_to (fun t k => XS.l2i X97.here hx rfl (hb hby own_d1_70) rfl k) ?_
  show own_Fin _ _ _ _ _ _ (T97.setTop (mkF m 71 #[.val (.ref a1), .val (.int (16 : Int32)), .val (.long q1), .second] [(.int (((q1.toUInt64 >>> ((48 : Int32) &&& 0x3f).toInt64.toUInt64).toInt64).toInt32)), (.int (22 : Int32)), (.ref a1)]))
  refine own_to (fun t k => XS.i2b X97.here hx rfl (hb hby own_d1_71) rfl k) ?_
  show own_Fin _ _ _ _ _ _ (T97.setTop (mkF m 72 #[.val (.ref a1), .val (.int (16 : Int32)), .val (.long q1), .second] [(.int ((((q1.toUInt64 >>> ((48 : Int32) &&& 0x3f).toInt64.toUInt64).toInt64).toInt32).toInt8.toInt32)), (.int (22 : Int32)), (.ref a1)]))
  obtain ⟨cl99, Ar99, qa99, Sa99, Na99, Ha99, Ga99⟩ := id Vb98
  have hin100 : ¬ ((22 : Int32) < 0 ∨ cl99.slots.size ≤ ((22 : Int32)).toNatClampNeg) := inb_of Sa99 ⟨by decide, by decide⟩
  obtain ⟨T100, h100, X100, e100, W100, st100⟩ := stB X97 hx hZ e97 Ar99 (j := (22 : Int32)) hin100 (g := (mkF m 72 #[.val (.ref a1), .val (.int (16 : Int32)), .val (.long q1), .second] [(.int ((((q1.toUInt64 >>> ((48 : Int32) &&& 0x3f).toInt64.toUInt64).toInt64).toInt32).toInt8.toInt32)), (.int (22 : Int32)), (.ref a1)])) rfl rfl (hb hby own_d1_72)
  rw [own_idem _] at W100
  have N100 := Fr.snoc X100 N97 g_a1
  have KK100 : Keep h0 h100 [a1] := KK97.wr W100 (Or.inl (List.mem_of_getElem? (i := 0) rfl))
  have V100 : Arv Z h100 a1 k .byte (32 : Int32) (((((((vs.set (16 + 0) (.int (own_b q1 0))).set (16 + 1) (.int (own_b q1 1))).set (16 + 2) (.int (own_b q1 2))).set (16 + 3) (.int (own_b q1 3))).set (16 + 4) (.int (own_b q1 4))).set (16 + 5) (.int (own_b q1 5))).set (16 + 6) (.int ((((q1.toUInt64 >>> ((48 : Int32) &&& 0x3f).toInt64.toUInt64).toInt64).toInt32).toInt8.toInt32))) (.int (0 : Int32)) := Arv.set Ar99 qa99 Sa99 Na99 Ha99 Ga99 (fits_nar_byte _) W100 (16 + 6) rfl (by simp [hl])
  refine own_to (fun t k => st100 t k) ?_
  show own_Fin _ _ _ _ _ _ (T100.setTop (mkF m 73 #[.val (.ref a1), .val (.int (16 : Int32)), .val (.long q1), .second] []))
  have Vb101 : Arv Z h100 a1 k .byte (32 : Int32) (((((((vs.set (16 + 0) (.int (own_b q1 0))).set (16 + 1) (.int (own_b q1 1))).set (16 + 2) (.int (own_b q1 2))).set (16 + 3) (.int (own_b q1 3))).set (16 + 4) (.int (own_b q1 4))).set (16 + 5) (.int (own_b q1 5))).set (16 + 6) (.int (own_b q1 6))) (.int (0 : Int32)) := V100
  refine own_to (fun t k => XS.aloadN X100.here hx rfl (hb hby own_d1_73) rfl rfl k) ?_
  show own_Fin _ _ _ _ _ _ (T100.setTop (mkF m 74 #[.val (.ref a1), .val (.int (16 : Int32)), .val (.long q1), .second] [(.ref a1)]))
  refine own_to (fun t k => XS.iloadN X100.here hx rfl (hb hby own_d1_74) rfl k) ?_
  show own_Fin _ _ _ _ _ _ (T100.setTop (mkF m 75 #[.val (.ref a1), .val (.int (16 : Int32)), .val (.long q1), .second] [(.int (16 : Int32)), (.ref a1)]))
  refine own_to (fun t k => XS.bipush X100.here hx rfl (hb hby own_d1_75) k) ?_
  show own_Fin _ _ _ _ _ _ (T100.setTop (mkF m 77 #[.val (.ref a1), .val (.int (16 : Int32)), .val (.long q1), .second] [(.int (7 : Int32)), (.int (16 : Int32)), (.ref a1)]))
  refine own_to (fun t k => XS.iadd X100.here hx rfl (hb hby own_d1_77) rfl k) ?_
  show own_Fin _ _ _ _ _ _ (T100.setTop (mkF m 78 #[.val (.ref a1), .val (.int (16 : Int32)), .val (.long q1), .second] [(.int (23 : Int32)), (.ref a1)]))
  refine own_to (fun t k => XS.lloadN X100.here hx rfl (hb hby own_d1_78) rfl k) ?_
  show own_Fin _ _ _ _ _ _ (T100.setTop (mkF m 79 #[.val (.ref a1), .val (.int (16 : Int32)), .val (.long q1), .second] [(.long q1), (.int (23 : Int32)), (.ref a1)]))
  refine own_to (fun t k => XS.bipush X100.here hx rfl (hb hby own_d1_79) k) ?_
  show own_Fin _ _ _ _ _ _ (T100.setTop (mkF m 81 #[.val (.ref a1), .val (.int (16 : Int32)), .val (.long q1), .second] [(.int (56 : Int32)), (.long q1), (.int (23 : Int32)), (.ref a1)]))
  refine own_to (fun t k => XS.lushr X100.here hx rfl (hb hby own_d1_81) rfl k) ?_
  show own_Fin _ _ _ _ _ _ (T100.setTop (mkF m 82 #[.val (.ref a1), .val (.int (16 : Int32)), .val (.long q1), .second] [(.long ((q1.toUInt64 >>> ((56 : Int32) &&& 0x3f).toInt64.toUInt64).toInt64)), (.int (23 : Int32)), (.ref a1)]))
  refine own_to (fun t k => XS.l2i X100.here hx rfl (hb hby own_d1_82) rfl k) ?_
  show own_Fin _ _ _ _ _ _ (T100.setTop (mkF m 83 #[.val (.ref a1), .val (.int (16 : Int32)), .val (.long q1), .second] [(.int (((q1.toUInt64 >>> ((56 : Int32) &&& 0x3f).toInt64.toUInt64).toInt64).toInt32)), (.int (23 : Int32)), (.ref a1)]))
  refine own_to (fun t k => XS.i2b X100.here hx rfl (hb hby own_d1_83) rfl k) ?_
  show own_Fin _ _ _ _ _ _ (T100.setTop (mkF m 84 #[.val (.ref a1), .val (.int (16 : Int32)), .val (.long q1), .second] [(.int ((((q1.toUInt64 >>> ((56 : Int32) &&& 0x3f).toInt64.toUInt64).toInt64).toInt32).toInt8.toInt32)), (.int (23 : Int32)), (.ref a1)]))
  obtain ⟨cl102, Ar102, qa102, Sa102, Na102, Ha102, Ga102⟩ := id Vb101
  have hin103 : ¬ ((23 : Int32) < 0 ∨ cl102.slots.size ≤ ((23 : Int32)).toNatClampNeg) := inb_of Sa102 ⟨by decide, by decide⟩
  obtain ⟨T103, h103, X103, e103, W103, st103⟩ := stB X100 hx hZ e100 Ar102 (j := (23 : Int32)) hin103 (g := (mkF m 84 #[.val (.ref a1), .val (.int (16 : Int32)), .val (.long q1), .second] [(.int ((((q1.toUInt64 >>> ((56 : Int32) &&& 0x3f).toInt64.toUInt64).toInt64).toInt32).toInt8.toInt32)), (.int (23 : Int32)), (.ref a1)])) rfl rfl (hb hby own_d1_84)
  rw [own_idem _] at W103
  have N103 := Fr.snoc X103 N100 g_a1
  have KK103 : Keep h0 h103 [a1] := KK100.wr W103 (Or.inl (List.mem_of_getElem? (i := 0) rfl))
  have V103 : Arv Z h103 a1 k .byte (32 : Int32) ((((((((vs.set (16 + 0) (.int (own_b q1 0))).set (16 + 1) (.int (own_b q1 1))).set (16 + 2) (.int (own_b q1 2))).set (16 + 3) (.int (own_b q1 3))).set (16 + 4) (.int (own_b q1 4))).set (16 + 5) (.int (own_b q1 5))).set (16 + 6) (.int (own_b q1 6))).set (16 + 7) (.int ((((q1.toUInt64 >>> ((56 : Int32) &&& 0x3f).toInt64.toUInt64).toInt64).toInt32).toInt8.toInt32))) (.int (0 : Int32)) := Arv.set Ar102 qa102 Sa102 Na102 Ha102 Ga102 (fits_nar_byte _) W103 (16 + 7) rfl (by simp [hl])
  refine own_to (fun t k => st103 t k) ?_
  show own_Fin _ _ _ _ _ _ (T103.setTop (mkF m 85 #[.val (.ref a1), .val (.int (16 : Int32)), .val (.long q1), .second] []))
  have Vb104 : Arv Z h103 a1 k .byte (32 : Int32) ((((((((vs.set (16 + 0) (.int (own_b q1 0))).set (16 + 1) (.int (own_b q1 1))).set (16 + 2) (.int (own_b q1 2))).set (16 + 3) (.int (own_b q1 3))).set (16 + 4) (.int (own_b q1 4))).set (16 + 5) (.int (own_b q1 5))).set (16 + 6) (.int (own_b q1 6))).set (16 + 7) (.int (own_b q1 7))) (.int (0 : Int32)) := V103
  refine own_retV X103 hx hlk hret (hb hby own_d1_85) (by decide) (by decide) ?_
  try rw [e103]
  exact ⟨rfl, N103, KK103, Vb104⟩
theorem own_same16_ef (m : MethodId) (a1 : Addr) (q1 : Int64) : entryFrame m #[(.ref a1), (.int (16 : Int32)), (.long q1)] 4 = mkF m 0 #[.val (.ref a1), .val (.int (16 : Int32)), .val (.long q1), .second] [] := by first | (simp [entryFrame, mkF, argsToLocals, Value.category]; done) | rfl
set_option maxRecDepth 65536 in
set_option maxHeartbeats 40000000 in
theorem own_same16 (l : Launch) (Z : State) (a0 : Array Value) (hw : ∀ d ∈ tables_1, d.before a0 Z = true) (ws : List Jvm.Cond) (a1 : Addr) (q1 : Int64) (k : ClassId) (vs : List Value) (h0 : Heap) (n0 : Nat) (Z0 : n0 ≤ h0.size) (V1 : Arv Z h0 a1 k .byte (32 : Int32) vs (.int (0 : Int32))) (hv0 : vs.getD 16 (.int (0 : Int32)) = .int (own_b q1 0)) (hv1 : vs.getD 17 (.int (0 : Int32)) = .int (own_b q1 1)) (hv2 : vs.getD 18 (.int (0 : Int32)) = .int (own_b q1 2)) (hv3 : vs.getD 19 (.int (0 : Int32)) = .int (own_b q1 3)) (hv4 : vs.getD 20 (.int (0 : Int32)) = .int (own_b q1 4)) (hv5 : vs.getD 21 (.int (0 : Int32)) = .int (own_b q1 5)) (hv6 : vs.getD 22 (.int (0 : Int32)) = .int (own_b q1 6)) (hv7 : vs.getD 23 (.int (0 : Int32)) = .int (own_b q1 7)) :
    own_Met l Z (⟨"com/example/nuthatch/nuthatch/engine/Sha256RequireDigestPinLaw", "same", "([BIJ)Z"⟩ : MethodName) method_3_code 4 (some .boolean) ws ({ frames := 0, cells := 0, slots := 0, locals := 0 } : Room) #[(.ref a1), (.int (16 : Int32)), (.long q1)] h0 (fun v h L => v = some (.int 1) ∧ Fr n0 L ∧ h = h0) := by
  refine own_enter (plainFor_of_name own_pn0) ?_
  intro p e s m below meth c s₁ X0 hx hZ hby hml hown hnm hret hlk e0
  have N0 := Fr.nil n0
  rw [own_same16_ef m a1 q1]
  show own_Fin _ _ _ _ _ _ (s₁.setTop (mkF m 0 #[.val (.ref a1), .val (.int (16 : Int32)), .val (.long q1), .second] []))
  refine own_to (fun t k => XS.aloadN X0.here hx rfl (hb hby own_d4_0) rfl rfl k) ?_
  show own_Fin _ _ _ _ _ _ (s₁.setTop (mkF m 1 #[.val (.ref a1), .val (.int (16 : Int32)), .val (.long q1), .second] [(.ref a1)]))
  refine own_to (fun t k => XS.iloadN X0.here hx rfl (hb hby own_d4_1) rfl k) ?_
  show own_Fin _ _ _ _ _ _ (s₁.setTop (mkF m 2 #[.val (.ref a1), .val (.int (16 : Int32)), .val (.long q1), .second] [(.int (16 : Int32)), (.ref a1)]))
  obtain ⟨cl105, Ar105, qa105, Sa105, Na105, Ha105, Ga105⟩ := id V1
  have hin106 : ¬ ((16 : Int32) < 0 ∨ cl105.slots.size ≤ ((16 : Int32)).toNatClampNeg) := inb_of Sa105 ⟨by decide, by decide⟩
  refine own_to (fun t k => X0.baloadBytes hx (j := (16 : Int32)) (v := (.int ((q1.toInt32).toInt8.toInt32))) (by rw [e0]; exact Ar105.1) (State.isArrayOf_alike hZ.alike Ar105.2.1) Ar105.2.2 hin106 (Has.at Ha105 hin106 hv0) (g := (mkF m 2 #[.val (.ref a1), .val (.int (16 : Int32)), .val (.long q1), .second] [(.int (16 : Int32)), (.ref a1)])) rfl rfl (hb hby own_d4_2) _ k) ?_
  show own_Fin _ _ _ _ _ _ (s₁.setTop (mkF m 3 #[.val (.ref a1), .val (.int (16 : Int32)), .val (.long q1), .second] [(.int ((q1.toInt32).toInt8.toInt32))]))
  refine own_to (fun t k => XS.lloadN X0.here hx rfl (hb hby own_d4_3) rfl k) ?_
  show own_Fin _ _ _ _ _ _ (s₁.setTop (mkF m 4 #[.val (.ref a1), .val (.int (16 : Int32)), .val (.long q1), .second] [(.long q1), (.int ((q1.toInt32).toInt8.toInt32))]))
  refine own_to (fun t k => XS.l2i X0.here hx rfl (hb hby own_d4_4) rfl k) ?_
  show own_Fin _ _ _ _ _ _ (s₁.setTop (mkF m 5 #[.val (.ref a1), .val (.int (16 : Int32)), .val (.long q1), .second] [(.int (q1.toInt32)), (.int ((q1.toInt32).toInt8.toInt32))]))
  refine own_to (fun t k => XS.i2b X0.here hx rfl (hb hby own_d4_5) rfl k) ?_
  show own_Fin _ _ _ _ _ _ (s₁.setTop (mkF m 6 #[.val (.ref a1), .val (.int (16 : Int32)), .val (.long q1), .second] [(.int ((q1.toInt32).toInt8.toInt32)), (.int ((q1.toInt32).toInt8.toInt32))]))
  refine own_to (fun t k => XS.icmpNo X0.here hx rfl (hb hby own_d4_6) rfl (teq rfl).2 k) ?_
  show own_Fin _ _ _ _ _ _ (s₁.setTop (mkF m 9 #[.val (.ref a1), .val (.int (16 : Int32)), .val (.long q1), .second] []))
  refine own_to (fun t k => XS.aloadN X0.here hx rfl (hb hby own_d4_9) rfl rfl k) ?_
  show own_Fin _ _ _ _ _ _ (s₁.setTop (mkF m 10 #[.val (.ref a1), .val (.int (16 : Int32)), .val (.long q1), .second] [(.ref a1)]))
  refine own_to (fun t k => XS.iloadN X0.here hx rfl (hb hby own_d4_10) rfl k) ?_
  show own_Fin _ _ _ _ _ _ (s₁.setTop (mkF m 11 #[.val (.ref a1), .val (.int (16 : Int32)), .val (.long q1), .second] [(.int (16 : Int32)), (.ref a1)]))
  refine own_to (fun t k => XS.iconst X0.here hx rfl (hb hby own_d4_11) k) ?_
  show own_Fin _ _ _ _ _ _ (s₁.setTop (mkF m 12 #[.val (.ref a1), .val (.int (16 : Int32)), .val (.long q1), .second] [(.int (1 : Int32)), (.int (16 : Int32)), (.ref a1)]))
  refine own_to (fun t k => XS.iadd X0.here hx rfl (hb hby own_d4_12) rfl k) ?_
  show own_Fin _ _ _ _ _ _ (s₁.setTop (mkF m 13 #[.val (.ref a1), .val (.int (16 : Int32)), .val (.long q1), .second] [(.int (17 : Int32)), (.ref a1)]))
  obtain ⟨cl107, Ar107, qa107, Sa107, Na107, Ha107, Ga107⟩ := id V1
  have hin108 : ¬ ((17 : Int32) < 0 ∨ cl107.slots.size ≤ ((17 : Int32)).toNatClampNeg) := inb_of Sa107 ⟨by decide, by decide⟩
  refine own_to (fun t k => X0.baloadBytes hx (j := (17 : Int32)) (v := (.int ((((q1.toUInt64 >>> ((8 : Int32) &&& 0x3f).toInt64.toUInt64).toInt64).toInt32).toInt8.toInt32))) (by rw [e0]; exact Ar107.1) (State.isArrayOf_alike hZ.alike Ar107.2.1) Ar107.2.2 hin108 (Has.at Ha107 hin108 hv1) (g := (mkF m 13 #[.val (.ref a1), .val (.int (16 : Int32)), .val (.long q1), .second] [(.int (17 : Int32)), (.ref a1)])) rfl rfl (hb hby own_d4_13) _ k) ?_
  show own_Fin _ _ _ _ _ _ (s₁.setTop (mkF m 14 #[.val (.ref a1), .val (.int (16 : Int32)), .val (.long q1), .second] [(.int ((((q1.toUInt64 >>> ((8 : Int32) &&& 0x3f).toInt64.toUInt64).toInt64).toInt32).toInt8.toInt32))]))
  refine own_to (fun t k => XS.lloadN X0.here hx rfl (hb hby own_d4_14) rfl k) ?_
  show own_Fin _ _ _ _ _ _ (s₁.setTop (mkF m 15 #[.val (.ref a1), .val (.int (16 : Int32)), .val (.long q1), .second] [(.long q1), (.int ((((q1.toUInt64 >>> ((8 : Int32) &&& 0x3f).toInt64.toUInt64).toInt64).toInt32).toInt8.toInt32))]))
  refine own_to (fun t k => XS.bipush X0.here hx rfl (hb hby own_d4_15) k) ?_
  show own_Fin _ _ _ _ _ _ (s₁.setTop (mkF m 17 #[.val (.ref a1), .val (.int (16 : Int32)), .val (.long q1), .second] [(.int (8 : Int32)), (.long q1), (.int ((((q1.toUInt64 >>> ((8 : Int32) &&& 0x3f).toInt64.toUInt64).toInt64).toInt32).toInt8.toInt32))]))
  refine own_to (fun t k => XS.lushr X0.here hx rfl (hb hby own_d4_17) rfl k) ?_
  show own_Fin _ _ _ _ _ _ (s₁.setTop (mkF m 18 #[.val (.ref a1), .val (.int (16 : Int32)), .val (.long q1), .second] [(.long ((q1.toUInt64 >>> ((8 : Int32) &&& 0x3f).toInt64.toUInt64).toInt64)), (.int ((((q1.toUInt64 >>> ((8 : Int32) &&& 0x3f).toInt64.toUInt64).toInt64).toInt32).toInt8.toInt32))]))
  refine own_to (fun t k => XS.l2i X0.here hx rfl (hb hby own_d4_18) rfl k) ?_
  show own_Fin _ _ _ _ _ _ (s₁.setTop (mkF m 19 #[.val (.ref a1), .val (.int (16 : Int32)), .val (.long q1), .second] [(.int (((q1.toUInt64 >>> ((8 : Int32) &&& 0x3f).toInt64.toUInt64).toInt64).toInt32)), (.int ((((q1.toUInt64 >>> ((8 : Int32) &&& 0x3f).toInt64.toUInt64).toInt64).toInt32).toInt8.toInt32))]))
  refine own_to (fun t k => XS.i2b X0.here hx rfl (hb hby own_d4_19) rfl k) ?_
  show own_Fin _ _ _ _ _ _ (s₁.setTop (mkF m 20 #[.val (.ref a1), .val (.int (16 : Int32)), .val (.long q1), .second] [(.int ((((q1.toUInt64 >>> ((8 : Int32) &&& 0x3f).toInt64.toUInt64).toInt64).toInt32).toInt8.toInt32)), (.int ((((q1.toUInt64 >>> ((8 : Int32) &&& 0x3f).toInt64.toUInt64).toInt64).toInt32).toInt8.toInt32))]))
  refine own_to (fun t k => XS.icmpNo X0.here hx rfl (hb hby own_d4_20) rfl (teq rfl).2 k) ?_
  show own_Fin _ _ _ _ _ _ (s₁.setTop (mkF m 23 #[.val (.ref a1), .val (.int (16 : Int32)), .val (.long q1), .second] []))
  refine own_to (fun t k => XS.aloadN X0.here hx rfl (hb hby own_d4_23) rfl rfl k) ?_
  show own_Fin _ _ _ _ _ _ (s₁.setTop (mkF m 24 #[.val (.ref a1), .val (.int (16 : Int32)), .val (.long q1), .second] [(.ref a1)]))
  refine own_to (fun t k => XS.iloadN X0.here hx rfl (hb hby own_d4_24) rfl k) ?_
  show own_Fin _ _ _ _ _ _ (s₁.setTop (mkF m 25 #[.val (.ref a1), .val (.int (16 : Int32)), .val (.long q1), .second] [(.int (16 : Int32)), (.ref a1)]))
  refine own_to (fun t k => XS.iconst X0.here hx rfl (hb hby own_d4_25) k) ?_
  show own_Fin _ _ _ _ _ _ (s₁.setTop (mkF m 26 #[.val (.ref a1), .val (.int (16 : Int32)), .val (.long q1), .second] [(.int (2 : Int32)), (.int (16 : Int32)), (.ref a1)]))
  refine own_to (fun t k => XS.iadd X0.here hx rfl (hb hby own_d4_26) rfl k) ?_
  show own_Fin _ _ _ _ _ _ (s₁.setTop (mkF m 27 #[.val (.ref a1), .val (.int (16 : Int32)), .val (.long q1), .second] [(.int (18 : Int32)), (.ref a1)]))
  obtain ⟨cl109, Ar109, qa109, Sa109, Na109, Ha109, Ga109⟩ := id V1
  have hin110 : ¬ ((18 : Int32) < 0 ∨ cl109.slots.size ≤ ((18 : Int32)).toNatClampNeg) := inb_of Sa109 ⟨by decide, by decide⟩
  refine own_to (fun t k => X0.baloadBytes hx (j := (18 : Int32)) (v := (.int ((((q1.toUInt64 >>> ((16 : Int32) &&& 0x3f).toInt64.toUInt64).toInt64).toInt32).toInt8.toInt32))) (by rw [e0]; exact Ar109.1) (State.isArrayOf_alike hZ.alike Ar109.2.1) Ar109.2.2 hin110 (Has.at Ha109 hin110 hv2) (g := (mkF m 27 #[.val (.ref a1), .val (.int (16 : Int32)), .val (.long q1), .second] [(.int (18 : Int32)), (.ref a1)])) rfl rfl (hb hby own_d4_27) _ k) ?_
  show own_Fin _ _ _ _ _ _ (s₁.setTop (mkF m 28 #[.val (.ref a1), .val (.int (16 : Int32)), .val (.long q1), .second] [(.int ((((q1.toUInt64 >>> ((16 : Int32) &&& 0x3f).toInt64.toUInt64).toInt64).toInt32).toInt8.toInt32))]))
  refine own_to (fun t k => XS.lloadN X0.here hx rfl (hb hby own_d4_28) rfl k) ?_
  show own_Fin _ _ _ _ _ _ (s₁.setTop (mkF m 29 #[.val (.ref a1), .val (.int (16 : Int32)), .val (.long q1), .second] [(.long q1), (.int ((((q1.toUInt64 >>> ((16 : Int32) &&& 0x3f).toInt64.toUInt64).toInt64).toInt32).toInt8.toInt32))]))
  refine own_to (fun t k => XS.bipush X0.here hx rfl (hb hby own_d4_29) k) ?_
  show own_Fin _ _ _ _ _ _ (s₁.setTop (mkF m 31 #[.val (.ref a1), .val (.int (16 : Int32)), .val (.long q1), .second] [(.int (16 : Int32)), (.long q1), (.int ((((q1.toUInt64 >>> ((16 : Int32) &&& 0x3f).toInt64.toUInt64).toInt64).toInt32).toInt8.toInt32))]))
  refine own_to (fun t k => XS.lushr X0.here hx rfl (hb hby own_d4_31) rfl k) ?_
  show own_Fin _ _ _ _ _ _ (s₁.setTop (mkF m 32 #[.val (.ref a1), .val (.int (16 : Int32)), .val (.long q1), .second] [(.long ((q1.toUInt64 >>> ((16 : Int32) &&& 0x3f).toInt64.toUInt64).toInt64)), (.int ((((q1.toUInt64 >>> ((16 : Int32) &&& 0x3f).toInt64.toUInt64).toInt64).toInt32).toInt8.toInt32))]))
  refine own_to (fun t k => XS.l2i X0.here hx rfl (hb hby own_d4_32) rfl k) ?_
  show own_Fin _ _ _ _ _ _ (s₁.setTop (mkF m 33 #[.val (.ref a1), .val (.int (16 : Int32)), .val (.long q1), .second] [(.int (((q1.toUInt64 >>> ((16 : Int32) &&& 0x3f).toInt64.toUInt64).toInt64).toInt32)), (.int ((((q1.toUInt64 >>> ((16 : Int32) &&& 0x3f).toInt64.toUInt64).toInt64).toInt32).toInt8.toInt32))]))
  refine own_to (fun t k => XS.i2b X0.here hx rfl (hb hby own_d4_33) rfl k) ?_
  show own_Fin _ _ _ _ _ _ (s₁.setTop (mkF m 34 #[.val (.ref a1), .val (.int (16 : Int32)), .val (.long q1), .second] [(.int ((((q1.toUInt64 >>> ((16 : Int32) &&& 0x3f).toInt64.toUInt64).toInt64).toInt32).toInt8.toInt32)), (.int ((((q1.toUInt64 >>> ((16 : Int32) &&& 0x3f).toInt64.toUInt64).toInt64).toInt32).toInt8.toInt32))]))
  refine own_to (fun t k => XS.icmpNo X0.here hx rfl (hb hby own_d4_34) rfl (teq rfl).2 k) ?_
  show own_Fin _ _ _ _ _ _ (s₁.setTop (mkF m 37 #[.val (.ref a1), .val (.int (16 : Int32)), .val (.long q1), .second] []))
  refine own_to (fun t k => XS.aloadN X0.here hx rfl (hb hby own_d4_37) rfl rfl k) ?_
  show own_Fin _ _ _ _ _ _ (s₁.setTop (mkF m 38 #[.val (.ref a1), .val (.int (16 : Int32)), .val (.long q1), .second] [(.ref a1)]))
  refine own_to (fun t k => XS.iloadN X0.here hx rfl (hb hby own_d4_38) rfl k) ?_
  show own_Fin _ _ _ _ _ _ (s₁.setTop (mkF m 39 #[.val (.ref a1), .val (.int (16 : Int32)), .val (.long q1), .second] [(.int (16 : Int32)), (.ref a1)]))
  refine own_to (fun t k => XS.iconst X0.here hx rfl (hb hby own_d4_39) k) ?_
  show own_Fin _ _ _ _ _ _ (s₁.setTop (mkF m 40 #[.val (.ref a1), .val (.int (16 : Int32)), .val (.long q1), .second] [(.int (3 : Int32)), (.int (16 : Int32)), (.ref a1)]))
  refine own_to (fun t k => XS.iadd X0.here hx rfl (hb hby own_d4_40) rfl k) ?_
  show own_Fin _ _ _ _ _ _ (s₁.setTop (mkF m 41 #[.val (.ref a1), .val (.int (16 : Int32)), .val (.long q1), .second] [(.int (19 : Int32)), (.ref a1)]))
  obtain ⟨cl111, Ar111, qa111, Sa111, Na111, Ha111, Ga111⟩ := id V1
  have hin112 : ¬ ((19 : Int32) < 0 ∨ cl111.slots.size ≤ ((19 : Int32)).toNatClampNeg) := inb_of Sa111 ⟨by decide, by decide⟩
  refine own_to (fun t k => X0.baloadBytes hx (j := (19 : Int32)) (v := (.int ((((q1.toUInt64 >>> ((24 : Int32) &&& 0x3f).toInt64.toUInt64).toInt64).toInt32).toInt8.toInt32))) (by rw [e0]; exact Ar111.1) (State.isArrayOf_alike hZ.alike Ar111.2.1) Ar111.2.2 hin112 (Has.at Ha111 hin112 hv3) (g := (mkF m 41 #[.val (.ref a1), .val (.int (16 : Int32)), .val (.long q1), .second] [(.int (19 : Int32)), (.ref a1)])) rfl rfl (hb hby own_d4_41) _ k) ?_
  show own_Fin _ _ _ _ _ _ (s₁.setTop (mkF m 42 #[.val (.ref a1), .val (.int (16 : Int32)), .val (.long q1), .second] [(.int ((((q1.toUInt64 >>> ((24 : Int32) &&& 0x3f).toInt64.toUInt64).toInt64).toInt32).toInt8.toInt32))]))
  refine own_to (fun t k => XS.lloadN X0.here hx rfl (hb hby own_d4_42) rfl k) ?_
  show own_Fin _ _ _ _ _ _ (s₁.setTop (mkF m 43 #[.val (.ref a1), .val (.int (16 : Int32)), .val (.long q1), .second] [(.long q1), (.int ((((q1.toUInt64 >>> ((24 : Int32) &&& 0x3f).toInt64.toUInt64).toInt64).toInt32).toInt8.toInt32))]))
  refine own_to (fun t k => XS.bipush X0.here hx rfl (hb hby own_d4_43) k) ?_
  show own_Fin _ _ _ _ _ _ (s₁.setTop (mkF m 45 #[.val (.ref a1), .val (.int (16 : Int32)), .val (.long q1), .second] [(.int (24 : Int32)), (.long q1), (.int ((((q1.toUInt64 >>> ((24 : Int32) &&& 0x3f).toInt64.toUInt64).toInt64).toInt32).toInt8.toInt32))]))
  refine own_to (fun t k => XS.lushr X0.here hx rfl (hb hby own_d4_45) rfl k) ?_
  show own_Fin _ _ _ _ _ _ (s₁.setTop (mkF m 46 #[.val (.ref a1), .val (.int (16 : Int32)), .val (.long q1), .second] [(.long ((q1.toUInt64 >>> ((24 : Int32) &&& 0x3f).toInt64.toUInt64).toInt64)), (.int ((((q1.toUInt64 >>> ((24 : Int32) &&& 0x3f).toInt64.toUInt64).toInt64).toInt32).toInt8.toInt32))]))
  refine own_to (fun t k => XS.l2i X0.here hx rfl (hb hby own_d4_46) rfl k) ?_
  show own_Fin _ _ _ _ _ _ (s₁.setTop (mkF m 47 #[.val (.ref a1), .val (.int (16 : Int32)), .val (.long q1), .second] [(.int (((q1.toUInt64 >>> ((24 : Int32) &&& 0x3f).toInt64.toUInt64).toInt64).toInt32)), (.int ((((q1.toUInt64 >>> ((24 : Int32) &&& 0x3f).toInt64.toUInt64).toInt64).toInt32).toInt8.toInt32))]))
  refine own_to (fun t k => XS.i2b X0.here hx rfl (hb hby own_d4_47) rfl k) ?_
  show own_Fin _ _ _ _ _ _ (s₁.setTop (mkF m 48 #[.val (.ref a1), .val (.int (16 : Int32)), .val (.long q1), .second] [(.int ((((q1.toUInt64 >>> ((24 : Int32) &&& 0x3f).toInt64.toUInt64).toInt64).toInt32).toInt8.toInt32)), (.int ((((q1.toUInt64 >>> ((24 : Int32) &&& 0x3f).toInt64.toUInt64).toInt64).toInt32).toInt8.toInt32))]))
  refine own_to (fun t k => XS.icmpNo X0.here hx rfl (hb hby own_d4_48) rfl (teq rfl).2 k) ?_
  show own_Fin _ _ _ _ _ _ (s₁.setTop (mkF m 51 #[.val (.ref a1), .val (.int (16 : Int32)), .val (.long q1), .second] []))
  refine own_to (fun t k => XS.aloadN X0.here hx rfl (hb hby own_d4_51) rfl rfl k) ?_
  show own_Fin _ _ _ _ _ _ (s₁.setTop (mkF m 52 #[.val (.ref a1), .val (.int (16 : Int32)), .val (.long q1), .second] [(.ref a1)]))
  refine own_to (fun t k => XS.iloadN X0.here hx rfl (hb hby own_d4_52) rfl k) ?_
  show own_Fin _ _ _ _ _ _ (s₁.setTop (mkF m 53 #[.val (.ref a1), .val (.int (16 : Int32)), .val (.long q1), .second] [(.int (16 : Int32)), (.ref a1)]))
  refine own_to (fun t k => XS.iconst X0.here hx rfl (hb hby own_d4_53) k) ?_
  show own_Fin _ _ _ _ _ _ (s₁.setTop (mkF m 54 #[.val (.ref a1), .val (.int (16 : Int32)), .val (.long q1), .second] [(.int (4 : Int32)), (.int (16 : Int32)), (.ref a1)]))
  refine own_to (fun t k => XS.iadd X0.here hx rfl (hb hby own_d4_54) rfl k) ?_
  show own_Fin _ _ _ _ _ _ (s₁.setTop (mkF m 55 #[.val (.ref a1), .val (.int (16 : Int32)), .val (.long q1), .second] [(.int (20 : Int32)), (.ref a1)]))
  obtain ⟨cl113, Ar113, qa113, Sa113, Na113, Ha113, Ga113⟩ := id V1
  have hin114 : ¬ ((20 : Int32) < 0 ∨ cl113.slots.size ≤ ((20 : Int32)).toNatClampNeg) := inb_of Sa113 ⟨by decide, by decide⟩
  refine own_to (fun t k => X0.baloadBytes hx (j := (20 : Int32)) (v := (.int ((((q1.toUInt64 >>> ((32 : Int32) &&& 0x3f).toInt64.toUInt64).toInt64).toInt32).toInt8.toInt32))) (by rw [e0]; exact Ar113.1) (State.isArrayOf_alike hZ.alike Ar113.2.1) Ar113.2.2 hin114 (Has.at Ha113 hin114 hv4) (g := (mkF m 55 #[.val (.ref a1), .val (.int (16 : Int32)), .val (.long q1), .second] [(.int (20 : Int32)), (.ref a1)])) rfl rfl (hb hby own_d4_55) _ k) ?_
  show own_Fin _ _ _ _ _ _ (s₁.setTop (mkF m 56 #[.val (.ref a1), .val (.int (16 : Int32)), .val (.long q1), .second] [(.int ((((q1.toUInt64 >>> ((32 : Int32) &&& 0x3f).toInt64.toUInt64).toInt64).toInt32).toInt8.toInt32))]))
  refine own_to (fun t k => XS.lloadN X0.here hx rfl (hb hby own_d4_56) rfl k) ?_
  show own_Fin _ _ _ _ _ _ (s₁.setTop (mkF m 57 #[.val (.ref a1), .val (.int (16 : Int32)), .val (.long q1), .second] [(.long q1), (.int ((((q1.toUInt64 >>> ((32 : Int32) &&& 0x3f).toInt64.toUInt64).toInt64).toInt32).toInt8.toInt32))]))
  refine own_to (fun t k => XS.bipush X0.here hx rfl (hb hby own_d4_57) k) ?_
  show own_Fin _ _ _ _ _ _ (s₁.setTop (mkF m 59 #[.val (.ref a1), .val (.int (16 : Int32)), .val (.long q1), .second] [(.int (32 : Int32)), (.long q1), (.int ((((q1.toUInt64 >>> ((32 : Int32) &&& 0x3f).toInt64.toUInt64).toInt64).toInt32).toInt8.toInt32))]))
  refine own_to (fun t k => XS.lushr X0.here hx rfl (hb hby own_d4_59) rfl k) ?_
  show own_Fin _ _ _ _ _ _ (s₁.setTop (mkF m 60 #[.val (.ref a1), .val (.int (16 : Int32)), .val (.long q1), .second] [(.long ((q1.toUInt64 >>> ((32 : Int32) &&& 0x3f).toInt64.toUInt64).toInt64)), (.int ((((q1.toUInt64 >>> ((32 : Int32) &&& 0x3f).toInt64.toUInt64).toInt64).toInt32).toInt8.toInt32))]))
  refine own_to (fun t k => XS.l2i X0.here hx rfl (hb hby own_d4_60) rfl k) ?_
  show own_Fin _ _ _ _ _ _ (s₁.setTop (mkF m 61 #[.val (.ref a1), .val (.int (16 : Int32)), .val (.long q1), .second] [(.int (((q1.toUInt64 >>> ((32 : Int32) &&& 0x3f).toInt64.toUInt64).toInt64).toInt32)), (.int ((((q1.toUInt64 >>> ((32 : Int32) &&& 0x3f).toInt64.toUInt64).toInt64).toInt32).toInt8.toInt32))]))
  refine own_to (fun t k => XS.i2b X0.here hx rfl (hb hby own_d4_61) rfl k) ?_
  show own_Fin _ _ _ _ _ _ (s₁.setTop (mkF m 62 #[.val (.ref a1), .val (.int (16 : Int32)), .val (.long q1), .second] [(.int ((((q1.toUInt64 >>> ((32 : Int32) &&& 0x3f).toInt64.toUInt64).toInt64).toInt32).toInt8.toInt32)), (.int ((((q1.toUInt64 >>> ((32 : Int32) &&& 0x3f).toInt64.toUInt64).toInt64).toInt32).toInt8.toInt32))]))
  refine own_to (fun t k => XS.icmpNo X0.here hx rfl (hb hby own_d4_62) rfl (teq rfl).2 k) ?_
  show own_Fin _ _ _ _ _ _ (s₁.setTop (mkF m 65 #[.val (.ref a1), .val (.int (16 : Int32)), .val (.long q1), .second] []))
  refine own_to (fun t k => XS.aloadN X0.here hx rfl (hb hby own_d4_65) rfl rfl k) ?_
  show own_Fin _ _ _ _ _ _ (s₁.setTop (mkF m 66 #[.val (.ref a1), .val (.int (16 : Int32)), .val (.long q1), .second] [(.ref a1)]))
  refine own_to (fun t k => XS.iloadN X0.here hx rfl (hb hby own_d4_66) rfl k) ?_
  show own_Fin _ _ _ _ _ _ (s₁.setTop (mkF m 67 #[.val (.ref a1), .val (.int (16 : Int32)), .val (.long q1), .second] [(.int (16 : Int32)), (.ref a1)]))
  refine own_to (fun t k => XS.iconst X0.here hx rfl (hb hby own_d4_67) k) ?_
  show own_Fin _ _ _ _ _ _ (s₁.setTop (mkF m 68 #[.val (.ref a1), .val (.int (16 : Int32)), .val (.long q1), .second] [(.int (5 : Int32)), (.int (16 : Int32)), (.ref a1)]))
  refine own_to (fun t k => XS.iadd X0.here hx rfl (hb hby own_d4_68) rfl k) ?_
  show own_Fin _ _ _ _ _ _ (s₁.setTop (mkF m 69 #[.val (.ref a1), .val (.int (16 : Int32)), .val (.long q1), .second] [(.int (21 : Int32)), (.ref a1)]))
  obtain ⟨cl115, Ar115, qa115, Sa115, Na115, Ha115, Ga115⟩ := id V1
  have hin116 : ¬ ((21 : Int32) < 0 ∨ cl115.slots.size ≤ ((21 : Int32)).toNatClampNeg) := inb_of Sa115 ⟨by decide, by decide⟩
  refine own_to (fun t k => X0.baloadBytes hx (j := (21 : Int32)) (v := (.int ((((q1.toUInt64 >>> ((40 : Int32) &&& 0x3f).toInt64.toUInt64).toInt64).toInt32).toInt8.toInt32))) (by rw [e0]; exact Ar115.1) (State.isArrayOf_alike hZ.alike Ar115.2.1) Ar115.2.2 hin116 (Has.at Ha115 hin116 hv5) (g := (mkF m 69 #[.val (.ref a1), .val (.int (16 : Int32)), .val (.long q1), .second] [(.int (21 : Int32)), (.ref a1)])) rfl rfl (hb hby own_d4_69) _ k) ?_
  show own_Fin _ _ _ _ _ _ (s₁.setTop (mkF m 70 #[.val (.ref a1), .val (.int (16 : Int32)), .val (.long q1), .second] [(.int ((((q1.toUInt64 >>> ((40 : Int32) &&& 0x3f).toInt64.toUInt64).toInt64).toInt32).toInt8.toInt32))]))
  refine own_to (fun t k => XS.lloadN X0.here hx rfl (hb hby own_d4_70) rfl k) ?_
  show own_Fin _ _ _ _ _ _ (s₁.setTop (mkF m 71 #[.val (.ref a1), .val (.int (16 : Int32)), .val (.long q1), .second] [(.long q1), (.int ((((q1.toUInt64 >>> ((40 : Int32) &&& 0x3f).toInt64.toUInt64).toInt64).toInt32).toInt8.toInt32))]))
  refine own_to (fun t k => XS.bipush X0.here hx rfl (hb hby own_d4_71) k) ?_
  show own_Fin _ _ _ _ _ _ (s₁.setTop (mkF m 73 #[.val (.ref a1), .val (.int (16 : Int32)), .val (.long q1), .second] [(.int (40 : Int32)), (.long q1), (.int ((((q1.toUInt64 >>> ((40 : Int32) &&& 0x3f).toInt64.toUInt64).toInt64).toInt32).toInt8.toInt32))]))
  refine own_to (fun t k => XS.lushr X0.here hx rfl (hb hby own_d4_73) rfl k) ?_
  show own_Fin _ _ _ _ _ _ (s₁.setTop (mkF m 74 #[.val (.ref a1), .val (.int (16 : Int32)), .val (.long q1), .second] [(.long ((q1.toUInt64 >>> ((40 : Int32) &&& 0x3f).toInt64.toUInt64).toInt64)), (.int ((((q1.toUInt64 >>> ((40 : Int32) &&& 0x3f).toInt64.toUInt64).toInt64).toInt32).toInt8.toInt32))]))
  refine own_to (fun t k => XS.l2i X0.here hx rfl (hb hby own_d4_74) rfl k) ?_
  show own_Fin _ _ _ _ _ _ (s₁.setTop (mkF m 75 #[.val (.ref a1), .val (.int (16 : Int32)), .val (.long q1), .second] [(.int (((q1.toUInt64 >>> ((40 : Int32) &&& 0x3f).toInt64.toUInt64).toInt64).toInt32)), (.int ((((q1.toUInt64 >>> ((40 : Int32) &&& 0x3f).toInt64.toUInt64).toInt64).toInt32).toInt8.toInt32))]))
  refine own_to (fun t k => XS.i2b X0.here hx rfl (hb hby own_d4_75) rfl k) ?_
  show own_Fin _ _ _ _ _ _ (s₁.setTop (mkF m 76 #[.val (.ref a1), .val (.int (16 : Int32)), .val (.long q1), .second] [(.int ((((q1.toUInt64 >>> ((40 : Int32) &&& 0x3f).toInt64.toUInt64).toInt64).toInt32).toInt8.toInt32)), (.int ((((q1.toUInt64 >>> ((40 : Int32) &&& 0x3f).toInt64.toUInt64).toInt64).toInt32).toInt8.toInt32))]))
  refine own_to (fun t k => XS.icmpNo X0.here hx rfl (hb hby own_d4_76) rfl (teq rfl).2 k) ?_
  show own_Fin _ _ _ _ _ _ (s₁.setTop (mkF m 79 #[.val (.ref a1), .val (.int (16 : Int32)), .val (.long q1), .second] []))
  refine own_to (fun t k => XS.aloadN X0.here hx rfl (hb hby own_d4_79) rfl rfl k) ?_
  show own_Fin _ _ _ _ _ _ (s₁.setTop (mkF m 80 #[.val (.ref a1), .val (.int (16 : Int32)), .val (.long q1), .second] [(.ref a1)]))
  refine own_to (fun t k => XS.iloadN X0.here hx rfl (hb hby own_d4_80) rfl k) ?_
  show own_Fin _ _ _ _ _ _ (s₁.setTop (mkF m 81 #[.val (.ref a1), .val (.int (16 : Int32)), .val (.long q1), .second] [(.int (16 : Int32)), (.ref a1)]))
  refine own_to (fun t k => XS.bipush X0.here hx rfl (hb hby own_d4_81) k) ?_
  show own_Fin _ _ _ _ _ _ (s₁.setTop (mkF m 83 #[.val (.ref a1), .val (.int (16 : Int32)), .val (.long q1), .second] [(.int (6 : Int32)), (.int (16 : Int32)), (.ref a1)]))
  refine own_to (fun t k => XS.iadd X0.here hx rfl (hb hby own_d4_83) rfl k) ?_
  show own_Fin _ _ _ _ _ _ (s₁.setTop (mkF m 84 #[.val (.ref a1), .val (.int (16 : Int32)), .val (.long q1), .second] [(.int (22 : Int32)), (.ref a1)]))
  obtain ⟨cl117, Ar117, qa117, Sa117, Na117, Ha117, Ga117⟩ := id V1
  have hin118 : ¬ ((22 : Int32) < 0 ∨ cl117.slots.size ≤ ((22 : Int32)).toNatClampNeg) := inb_of Sa117 ⟨by decide, by decide⟩
  refine own_to (fun t k => X0.baloadBytes hx (j := (22 : Int32)) (v := (.int ((((q1.toUInt64 >>> ((48 : Int32) &&& 0x3f).toInt64.toUInt64).toInt64).toInt32).toInt8.toInt32))) (by rw [e0]; exact Ar117.1) (State.isArrayOf_alike hZ.alike Ar117.2.1) Ar117.2.2 hin118 (Has.at Ha117 hin118 hv6) (g := (mkF m 84 #[.val (.ref a1), .val (.int (16 : Int32)), .val (.long q1), .second] [(.int (22 : Int32)), (.ref a1)])) rfl rfl (hb hby own_d4_84) _ k) ?_
  show own_Fin _ _ _ _ _ _ (s₁.setTop (mkF m 85 #[.val (.ref a1), .val (.int (16 : Int32)), .val (.long q1), .second] [(.int ((((q1.toUInt64 >>> ((48 : Int32) &&& 0x3f).toInt64.toUInt64).toInt64).toInt32).toInt8.toInt32))]))
  refine own_to (fun t k => XS.lloadN X0.here hx rfl (hb hby own_d4_85) rfl k) ?_
  show own_Fin _ _ _ _ _ _ (s₁.setTop (mkF m 86 #[.val (.ref a1), .val (.int (16 : Int32)), .val (.long q1), .second] [(.long q1), (.int ((((q1.toUInt64 >>> ((48 : Int32) &&& 0x3f).toInt64.toUInt64).toInt64).toInt32).toInt8.toInt32))]))
  refine own_to (fun t k => XS.bipush X0.here hx rfl (hb hby own_d4_86) k) ?_
  show own_Fin _ _ _ _ _ _ (s₁.setTop (mkF m 88 #[.val (.ref a1), .val (.int (16 : Int32)), .val (.long q1), .second] [(.int (48 : Int32)), (.long q1), (.int ((((q1.toUInt64 >>> ((48 : Int32) &&& 0x3f).toInt64.toUInt64).toInt64).toInt32).toInt8.toInt32))]))
  refine own_to (fun t k => XS.lushr X0.here hx rfl (hb hby own_d4_88) rfl k) ?_
  show own_Fin _ _ _ _ _ _ (s₁.setTop (mkF m 89 #[.val (.ref a1), .val (.int (16 : Int32)), .val (.long q1), .second] [(.long ((q1.toUInt64 >>> ((48 : Int32) &&& 0x3f).toInt64.toUInt64).toInt64)), (.int ((((q1.toUInt64 >>> ((48 : Int32) &&& 0x3f).toInt64.toUInt64).toInt64).toInt32).toInt8.toInt32))]))
  refine own_to (fun t k => XS.l2i X0.here hx rfl (hb hby own_d4_89) rfl k) ?_
  show own_Fin _ _ _ _ _ _ (s₁.setTop (mkF m 90 #[.val (.ref a1), .val (.int (16 : Int32)), .val (.long q1), .second] [(.int (((q1.toUInt64 >>> ((48 : Int32) &&& 0x3f).toInt64.toUInt64).toInt64).toInt32)), (.int ((((q1.toUInt64 >>> ((48 : Int32) &&& 0x3f).toInt64.toUInt64).toInt64).toInt32).toInt8.toInt32))]))
  refine own_to (fun t k => XS.i2b X0.here hx rfl (hb hby own_d4_90) rfl k) ?_
  show own_Fin _ _ _ _ _ _ (s₁.setTop (mkF m 91 #[.val (.ref a1), .val (.int (16 : Int32)), .val (.long q1), .second] [(.int ((((q1.toUInt64 >>> ((48 : Int32) &&& 0x3f).toInt64.toUInt64).toInt64).toInt32).toInt8.toInt32)), (.int ((((q1.toUInt64 >>> ((48 : Int32) &&& 0x3f).toInt64.toUInt64).toInt64).toInt32).toInt8.toInt32))]))
  refine own_to (fun t k => XS.icmpNo X0.here hx rfl (hb hby own_d4_91) rfl (teq rfl).2 k) ?_
  show own_Fin _ _ _ _ _ _ (s₁.setTop (mkF m 94 #[.val (.ref a1), .val (.int (16 : Int32)), .val (.long q1), .second] []))
  refine own_to (fun t k => XS.aloadN X0.here hx rfl (hb hby own_d4_94) rfl rfl k) ?_
  show own_Fin _ _ _ _ _ _ (s₁.setTop (mkF m 95 #[.val (.ref a1), .val (.int (16 : Int32)), .val (.long q1), .second] [(.ref a1)]))
  refine own_to (fun t k => XS.iloadN X0.here hx rfl (hb hby own_d4_95) rfl k) ?_
  show own_Fin _ _ _ _ _ _ (s₁.setTop (mkF m 96 #[.val (.ref a1), .val (.int (16 : Int32)), .val (.long q1), .second] [(.int (16 : Int32)), (.ref a1)]))
  refine own_to (fun t k => XS.bipush X0.here hx rfl (hb hby own_d4_96) k) ?_
  show own_Fin _ _ _ _ _ _ (s₁.setTop (mkF m 98 #[.val (.ref a1), .val (.int (16 : Int32)), .val (.long q1), .second] [(.int (7 : Int32)), (.int (16 : Int32)), (.ref a1)]))
  refine own_to (fun t k => XS.iadd X0.here hx rfl (hb hby own_d4_98) rfl k) ?_
  show own_Fin _ _ _ _ _ _ (s₁.setTop (mkF m 99 #[.val (.ref a1), .val (.int (16 : Int32)), .val (.long q1), .second] [(.int (23 : Int32)), (.ref a1)]))
  obtain ⟨cl119, Ar119, qa119, Sa119, Na119, Ha119, Ga119⟩ := id V1
  have hin120 : ¬ ((23 : Int32) < 0 ∨ cl119.slots.size ≤ ((23 : Int32)).toNatClampNeg) := inb_of Sa119 ⟨by decide, by decide⟩
  refine own_to (fun t k => X0.baloadBytes hx (j := (23 : Int32)) (v := (.int ((((q1.toUInt64 >>> ((56 : Int32) &&& 0x3f).toInt64.toUInt64).toInt64).toInt32).toInt8.toInt32))) (by rw [e0]; exact Ar119.1) (State.isArrayOf_alike hZ.alike Ar119.2.1) Ar119.2.2 hin120 (Has.at Ha119 hin120 hv7) (g := (mkF m 99 #[.val (.ref a1), .val (.int (16 : Int32)), .val (.long q1), .second] [(.int (23 : Int32)), (.ref a1)])) rfl rfl (hb hby own_d4_99) _ k) ?_
  show own_Fin _ _ _ _ _ _ (s₁.setTop (mkF m 100 #[.val (.ref a1), .val (.int (16 : Int32)), .val (.long q1), .second] [(.int ((((q1.toUInt64 >>> ((56 : Int32) &&& 0x3f).toInt64.toUInt64).toInt64).toInt32).toInt8.toInt32))]))
  refine own_to (fun t k => XS.lloadN X0.here hx rfl (hb hby own_d4_100) rfl k) ?_
  show own_Fin _ _ _ _ _ _ (s₁.setTop (mkF m 101 #[.val (.ref a1), .val (.int (16 : Int32)), .val (.long q1), .second] [(.long q1), (.int ((((q1.toUInt64 >>> ((56 : Int32) &&& 0x3f).toInt64.toUInt64).toInt64).toInt32).toInt8.toInt32))]))
  refine own_to (fun t k => XS.bipush X0.here hx rfl (hb hby own_d4_101) k) ?_
  show own_Fin _ _ _ _ _ _ (s₁.setTop (mkF m 103 #[.val (.ref a1), .val (.int (16 : Int32)), .val (.long q1), .second] [(.int (56 : Int32)), (.long q1), (.int ((((q1.toUInt64 >>> ((56 : Int32) &&& 0x3f).toInt64.toUInt64).toInt64).toInt32).toInt8.toInt32))]))
  refine own_to (fun t k => XS.lushr X0.here hx rfl (hb hby own_d4_103) rfl k) ?_
  show own_Fin _ _ _ _ _ _ (s₁.setTop (mkF m 104 #[.val (.ref a1), .val (.int (16 : Int32)), .val (.long q1), .second] [(.long ((q1.toUInt64 >>> ((56 : Int32) &&& 0x3f).toInt64.toUInt64).toInt64)), (.int ((((q1.toUInt64 >>> ((56 : Int32) &&& 0x3f).toInt64.toUInt64).toInt64).toInt32).toInt8.toInt32))]))
  refine own_to (fun t k => XS.l2i X0.here hx rfl (hb hby own_d4_104) rfl k) ?_
  show own_Fin _ _ _ _ _ _ (s₁.setTop (mkF m 105 #[.val (.ref a1), .val (.int (16 : Int32)), .val (.long q1), .second] [(.int (((q1.toUInt64 >>> ((56 : Int32) &&& 0x3f).toInt64.toUInt64).toInt64).toInt32)), (.int ((((q1.toUInt64 >>> ((56 : Int32) &&& 0x3f).toInt64.toUInt64).toInt64).toInt32).toInt8.toInt32))]))
  refine own_to (fun t k => XS.i2b X0.here hx rfl (hb hby own_d4_105) rfl k) ?_
  show own_Fin _ _ _ _ _ _ (s₁.setTop (mkF m 106 #[.val (.ref a1), .val (.int (16 : Int32)), .val (.long q1), .second] [(.int ((((q1.toUInt64 >>> ((56 : Int32) &&& 0x3f).toInt64.toUInt64).toInt64).toInt32).toInt8.toInt32)), (.int ((((q1.toUInt64 >>> ((56 : Int32) &&& 0x3f).toInt64.toUInt64).toInt64).toInt32).toInt8.toInt32))]))
  refine own_to (fun t k => XS.icmpNo X0.here hx rfl (hb hby own_d4_106) rfl (teq rfl).2 k) ?_
  show own_Fin _ _ _ _ _ _ (s₁.setTop (mkF m 109 #[.val (.ref a1), .val (.int (16 : Int32)), .val (.long q1), .second] []))
  refine own_to (fun t k => XS.iconst X0.here hx rfl (hb hby own_d4_109) k) ?_
  show own_Fin _ _ _ _ _ _ (s₁.setTop (mkF m 110 #[.val (.ref a1), .val (.int (16 : Int32)), .val (.long q1), .second] [(.int (1 : Int32))]))
  refine own_to (fun t k => XS.goto X0.here hx rfl (pc0 := 110) (pc' := 114) rfl (hb hby own_d4_110) (by decide) (by decide) k) ?_
  show own_Fin _ _ _ _ _ _ (s₁.setTop (mkF m 114 #[.val (.ref a1), .val (.int (16 : Int32)), .val (.long q1), .second] [(.int (1 : Int32))]))
  refine own_retN X0 hx hlk (t := .boolean) hret (by simp) (hb hby own_d4_114) (by decide) (by decide) ?_
  try rw [e0]
  exact ⟨rfl, N0, rfl⟩
theorem own_put24_ef (m : MethodId) (a1 : Addr) (q1 : Int64) : entryFrame m #[(.ref a1), (.int (24 : Int32)), (.long q1)] 4 = mkF m 0 #[.val (.ref a1), .val (.int (24 : Int32)), .val (.long q1), .second] [] := by first | (simp [entryFrame, mkF, argsToLocals, Value.category]; done) | rfl
set_option maxRecDepth 65536 in
set_option maxHeartbeats 40000000 in
theorem own_put24 (l : Launch) (Z : State) (a0 : Array Value) (hw : ∀ d ∈ tables_1, d.before a0 Z = true) (ws : List Jvm.Cond) (a1 : Addr) (q1 : Int64) (k : ClassId) (vs : List Value) (h0 : Heap) (n0 : Nat) (Z0 : n0 ≤ h0.size) (V1 : Arv Z h0 a1 k .byte (32 : Int32) vs (.int (0 : Int32))) (hl : vs.length = 32) (g_a1 : n0 ≤ a1) :
    own_Met l Z (⟨"com/example/nuthatch/nuthatch/engine/Sha256RequireDigestPinLaw", "put", "([BIJ)V"⟩ : MethodName) method_2_code 4 none ws ({ frames := 0, cells := 0, slots := 0, locals := 0 } : Room) #[(.ref a1), (.int (24 : Int32)), (.long q1)] h0 (fun v h L => v = none ∧ Fr n0 L ∧ Keep h0 h [a1] ∧ Arv Z h a1 k .byte (32 : Int32) (own_put vs 24 q1) (.int (0 : Int32))) := by
  refine own_enter (plainFor_of_name own_pn0) ?_
  intro p e s m below meth c s₁ X0 hx hZ hby hml hown hnm hret hlk e0
  have N0 := Fr.nil n0
  rw [own_put24_ef m a1 q1]
  have KK0 : Keep h0 h0 [a1] := Keep.refl _ _
  show own_Fin _ _ _ _ _ _ (s₁.setTop (mkF m 0 #[.val (.ref a1), .val (.int (24 : Int32)), .val (.long q1), .second] []))
  refine own_to (fun t k => XS.aloadN X0.here hx rfl (hb hby own_d1_0) rfl rfl k) ?_
  show own_Fin _ _ _ _ _ _ (s₁.setTop (mkF m 1 #[.val (.ref a1), .val (.int (24 : Int32)), .val (.long q1), .second] [(.ref a1)]))
  refine own_to (fun t k => XS.iloadN X0.here hx rfl (hb hby own_d1_1) rfl k) ?_
  show own_Fin _ _ _ _ _ _ (s₁.setTop (mkF m 2 #[.val (.ref a1), .val (.int (24 : Int32)), .val (.long q1), .second] [(.int (24 : Int32)), (.ref a1)]))
  refine own_to (fun t k => XS.lloadN X0.here hx rfl (hb hby own_d1_2) rfl k) ?_
  show own_Fin _ _ _ _ _ _ (s₁.setTop (mkF m 3 #[.val (.ref a1), .val (.int (24 : Int32)), .val (.long q1), .second] [(.long q1), (.int (24 : Int32)), (.ref a1)]))
  refine own_to (fun t k => XS.l2i X0.here hx rfl (hb hby own_d1_3) rfl k) ?_
  show own_Fin _ _ _ _ _ _ (s₁.setTop (mkF m 4 #[.val (.ref a1), .val (.int (24 : Int32)), .val (.long q1), .second] [(.int (q1.toInt32)), (.int (24 : Int32)), (.ref a1)]))
  refine own_to (fun t k => XS.i2b X0.here hx rfl (hb hby own_d1_4) rfl k) ?_
  show own_Fin _ _ _ _ _ _ (s₁.setTop (mkF m 5 #[.val (.ref a1), .val (.int (24 : Int32)), .val (.long q1), .second] [(.int ((q1.toInt32).toInt8.toInt32)), (.int (24 : Int32)), (.ref a1)]))
  obtain ⟨cl121, Ar121, qa121, Sa121, Na121, Ha121, Ga121⟩ := id V1
  have hin122 : ¬ ((24 : Int32) < 0 ∨ cl121.slots.size ≤ ((24 : Int32)).toNatClampNeg) := inb_of Sa121 ⟨by decide, by decide⟩
  obtain ⟨T122, h122, X122, e122, W122, st122⟩ := stB X0 hx hZ e0 Ar121 (j := (24 : Int32)) hin122 (g := (mkF m 5 #[.val (.ref a1), .val (.int (24 : Int32)), .val (.long q1), .second] [(.int ((q1.toInt32).toInt8.toInt32)), (.int (24 : Int32)), (.ref a1)])) rfl rfl (hb hby own_d1_5)
  rw [own_idem _] at W122
  have N122 := Fr.snoc X122 N0 g_a1
  have KK122 : Keep h0 h122 [a1] := KK0.wr W122 (Or.inl (List.mem_of_getElem? (i := 0) rfl))
  have V122 : Arv Z h122 a1 k .byte (32 : Int32) (vs.set (24 + 0) (.int ((q1.toInt32).toInt8.toInt32))) (.int (0 : Int32)) := Arv.set Ar121 qa121 Sa121 Na121 Ha121 Ga121 (fits_nar_byte _) W122 (24 + 0) rfl (by simp [hl])
  refine own_to (fun t k => st122 t k) ?_
  show own_Fin _ _ _ _ _ _ (T122.setTop (mkF m 6 #[.val (.ref a1), .val (.int (24 : Int32)), .val (.long q1), .second] []))
  have Vb123 : Arv Z h122 a1 k .byte (32 : Int32) (vs.set (24 + 0) (.int (own_b q1 0))) (.int (0 : Int32)) := V122
  refine own_to (fun t k => XS.aloadN X122.here hx rfl (hb hby own_d1_6) rfl rfl k) ?_
  show own_Fin _ _ _ _ _ _ (T122.setTop (mkF m 7 #[.val (.ref a1), .val (.int (24 : Int32)), .val (.long q1), .second] [(.ref a1)]))
  refine own_to (fun t k => XS.iloadN X122.here hx rfl (hb hby own_d1_7) rfl k) ?_
  show own_Fin _ _ _ _ _ _ (T122.setTop (mkF m 8 #[.val (.ref a1), .val (.int (24 : Int32)), .val (.long q1), .second] [(.int (24 : Int32)), (.ref a1)]))
  refine own_to (fun t k => XS.iconst X122.here hx rfl (hb hby own_d1_8) k) ?_
  show own_Fin _ _ _ _ _ _ (T122.setTop (mkF m 9 #[.val (.ref a1), .val (.int (24 : Int32)), .val (.long q1), .second] [(.int (1 : Int32)), (.int (24 : Int32)), (.ref a1)]))
  refine own_to (fun t k => XS.iadd X122.here hx rfl (hb hby own_d1_9) rfl k) ?_
  show own_Fin _ _ _ _ _ _ (T122.setTop (mkF m 10 #[.val (.ref a1), .val (.int (24 : Int32)), .val (.long q1), .second] [(.int (25 : Int32)), (.ref a1)]))
  refine own_to (fun t k => XS.lloadN X122.here hx rfl (hb hby own_d1_10) rfl k) ?_
  show own_Fin _ _ _ _ _ _ (T122.setTop (mkF m 11 #[.val (.ref a1), .val (.int (24 : Int32)), .val (.long q1), .second] [(.long q1), (.int (25 : Int32)), (.ref a1)]))
  refine own_to (fun t k => XS.bipush X122.here hx rfl (hb hby own_d1_11) k) ?_
  show own_Fin _ _ _ _ _ _ (T122.setTop (mkF m 13 #[.val (.ref a1), .val (.int (24 : Int32)), .val (.long q1), .second] [(.int (8 : Int32)), (.long q1), (.int (25 : Int32)), (.ref a1)]))
  refine own_to (fun t k => XS.lushr X122.here hx rfl (hb hby own_d1_13) rfl k) ?_
  show own_Fin _ _ _ _ _ _ (T122.setTop (mkF m 14 #[.val (.ref a1), .val (.int (24 : Int32)), .val (.long q1), .second] [(.long ((q1.toUInt64 >>> ((8 : Int32) &&& 0x3f).toInt64.toUInt64).toInt64)), (.int (25 : Int32)), (.ref a1)]))
  refine own_to (fun t k => XS.l2i X122.here hx rfl (hb hby own_d1_14) rfl k) ?_
  show own_Fin _ _ _ _ _ _ (T122.setTop (mkF m 15 #[.val (.ref a1), .val (.int (24 : Int32)), .val (.long q1), .second] [(.int (((q1.toUInt64 >>> ((8 : Int32) &&& 0x3f).toInt64.toUInt64).toInt64).toInt32)), (.int (25 : Int32)), (.ref a1)]))
  refine own_to (fun t k => XS.i2b X122.here hx rfl (hb hby own_d1_15) rfl k) ?_
  show own_Fin _ _ _ _ _ _ (T122.setTop (mkF m 16 #[.val (.ref a1), .val (.int (24 : Int32)), .val (.long q1), .second] [(.int ((((q1.toUInt64 >>> ((8 : Int32) &&& 0x3f).toInt64.toUInt64).toInt64).toInt32).toInt8.toInt32)), (.int (25 : Int32)), (.ref a1)]))
  obtain ⟨cl124, Ar124, qa124, Sa124, Na124, Ha124, Ga124⟩ := id Vb123
  have hin125 : ¬ ((25 : Int32) < 0 ∨ cl124.slots.size ≤ ((25 : Int32)).toNatClampNeg) := inb_of Sa124 ⟨by decide, by decide⟩
  obtain ⟨T125, h125, X125, e125, W125, st125⟩ := stB X122 hx hZ e122 Ar124 (j := (25 : Int32)) hin125 (g := (mkF m 16 #[.val (.ref a1), .val (.int (24 : Int32)), .val (.long q1), .second] [(.int ((((q1.toUInt64 >>> ((8 : Int32) &&& 0x3f).toInt64.toUInt64).toInt64).toInt32).toInt8.toInt32)), (.int (25 : Int32)), (.ref a1)])) rfl rfl (hb hby own_d1_16)
  rw [own_idem _] at W125
  have N125 := Fr.snoc X125 N122 g_a1
  have KK125 : Keep h0 h125 [a1] := KK122.wr W125 (Or.inl (List.mem_of_getElem? (i := 0) rfl))
  have V125 : Arv Z h125 a1 k .byte (32 : Int32) ((vs.set (24 + 0) (.int (own_b q1 0))).set (24 + 1) (.int ((((q1.toUInt64 >>> ((8 : Int32) &&& 0x3f).toInt64.toUInt64).toInt64).toInt32).toInt8.toInt32))) (.int (0 : Int32)) := Arv.set Ar124 qa124 Sa124 Na124 Ha124 Ga124 (fits_nar_byte _) W125 (24 + 1) rfl (by simp [hl])
  refine own_to (fun t k => st125 t k) ?_
  show own_Fin _ _ _ _ _ _ (T125.setTop (mkF m 17 #[.val (.ref a1), .val (.int (24 : Int32)), .val (.long q1), .second] []))
  have Vb126 : Arv Z h125 a1 k .byte (32 : Int32) ((vs.set (24 + 0) (.int (own_b q1 0))).set (24 + 1) (.int (own_b q1 1))) (.int (0 : Int32)) := V125
  refine own_to (fun t k => XS.aloadN X125.here hx rfl (hb hby own_d1_17) rfl rfl k) ?_
  show own_Fin _ _ _ _ _ _ (T125.setTop (mkF m 18 #[.val (.ref a1), .val (.int (24 : Int32)), .val (.long q1), .second] [(.ref a1)]))
  refine own_to (fun t k => XS.iloadN X125.here hx rfl (hb hby own_d1_18) rfl k) ?_
  show own_Fin _ _ _ _ _ _ (T125.setTop (mkF m 19 #[.val (.ref a1), .val (.int (24 : Int32)), .val (.long q1), .second] [(.int (24 : Int32)), (.ref a1)]))
  refine own_to (fun t k => XS.iconst X125.here hx rfl (hb hby own_d1_19) k) ?_
  show own_Fin _ _ _ _ _ _ (T125.setTop (mkF m 20 #[.val (.ref a1), .val (.int (24 : Int32)), .val (.long q1), .second] [(.int (2 : Int32)), (.int (24 : Int32)), (.ref a1)]))
  refine own_to (fun t k => XS.iadd X125.here hx rfl (hb hby own_d1_20) rfl k) ?_
  show own_Fin _ _ _ _ _ _ (T125.setTop (mkF m 21 #[.val (.ref a1), .val (.int (24 : Int32)), .val (.long q1), .second] [(.int (26 : Int32)), (.ref a1)]))
  refine own_to (fun t k => XS.lloadN X125.here hx rfl (hb hby own_d1_21) rfl k) ?_
  show own_Fin _ _ _ _ _ _ (T125.setTop (mkF m 22 #[.val (.ref a1), .val (.int (24 : Int32)), .val (.long q1), .second] [(.long q1), (.int (26 : Int32)), (.ref a1)]))
  refine own_to (fun t k => XS.bipush X125.here hx rfl (hb hby own_d1_22) k) ?_
  show own_Fin _ _ _ _ _ _ (T125.setTop (mkF m 24 #[.val (.ref a1), .val (.int (24 : Int32)), .val (.long q1), .second] [(.int (16 : Int32)), (.long q1), (.int (26 : Int32)), (.ref a1)]))
  refine own_to (fun t k => XS.lushr X125.here hx rfl (hb hby own_d1_24) rfl k) ?_
  show own_Fin _ _ _ _ _ _ (T125.setTop (mkF m 25 #[.val (.ref a1), .val (.int (24 : Int32)), .val (.long q1), .second] [(.long ((q1.toUInt64 >>> ((16 : Int32) &&& 0x3f).toInt64.toUInt64).toInt64)), (.int (26 : Int32)), (.ref a1)]))
  refine own_to (fun t k => XS.l2i X125.here hx rfl (hb hby own_d1_25) rfl k) ?_
  show own_Fin _ _ _ _ _ _ (T125.setTop (mkF m 26 #[.val (.ref a1), .val (.int (24 : Int32)), .val (.long q1), .second] [(.int (((q1.toUInt64 >>> ((16 : Int32) &&& 0x3f).toInt64.toUInt64).toInt64).toInt32)), (.int (26 : Int32)), (.ref a1)]))
  refine own_to (fun t k => XS.i2b X125.here hx rfl (hb hby own_d1_26) rfl k) ?_
  show own_Fin _ _ _ _ _ _ (T125.setTop (mkF m 27 #[.val (.ref a1), .val (.int (24 : Int32)), .val (.long q1), .second] [(.int ((((q1.toUInt64 >>> ((16 : Int32) &&& 0x3f).toInt64.toUInt64).toInt64).toInt32).toInt8.toInt32)), (.int (26 : Int32)), (.ref a1)]))
  obtain ⟨cl127, Ar127, qa127, Sa127, Na127, Ha127, Ga127⟩ := id Vb126
  have hin128 : ¬ ((26 : Int32) < 0 ∨ cl127.slots.size ≤ ((26 : Int32)).toNatClampNeg) := inb_of Sa127 ⟨by decide, by decide⟩
  obtain ⟨T128, h128, X128, e128, W128, st128⟩ := stB X125 hx hZ e125 Ar127 (j := (26 : Int32)) hin128 (g := (mkF m 27 #[.val (.ref a1), .val (.int (24 : Int32)), .val (.long q1), .second] [(.int ((((q1.toUInt64 >>> ((16 : Int32) &&& 0x3f).toInt64.toUInt64).toInt64).toInt32).toInt8.toInt32)), (.int (26 : Int32)), (.ref a1)])) rfl rfl (hb hby own_d1_27)
  rw [own_idem _] at W128
  have N128 := Fr.snoc X128 N125 g_a1
  have KK128 : Keep h0 h128 [a1] := KK125.wr W128 (Or.inl (List.mem_of_getElem? (i := 0) rfl))
  have V128 : Arv Z h128 a1 k .byte (32 : Int32) (((vs.set (24 + 0) (.int (own_b q1 0))).set (24 + 1) (.int (own_b q1 1))).set (24 + 2) (.int ((((q1.toUInt64 >>> ((16 : Int32) &&& 0x3f).toInt64.toUInt64).toInt64).toInt32).toInt8.toInt32))) (.int (0 : Int32)) := Arv.set Ar127 qa127 Sa127 Na127 Ha127 Ga127 (fits_nar_byte _) W128 (24 + 2) rfl (by simp [hl])
  refine own_to (fun t k => st128 t k) ?_
  show own_Fin _ _ _ _ _ _ (T128.setTop (mkF m 28 #[.val (.ref a1), .val (.int (24 : Int32)), .val (.long q1), .second] []))
  have Vb129 : Arv Z h128 a1 k .byte (32 : Int32) (((vs.set (24 + 0) (.int (own_b q1 0))).set (24 + 1) (.int (own_b q1 1))).set (24 + 2) (.int (own_b q1 2))) (.int (0 : Int32)) := V128
  refine own_to (fun t k => XS.aloadN X128.here hx rfl (hb hby own_d1_28) rfl rfl k) ?_
  show own_Fin _ _ _ _ _ _ (T128.setTop (mkF m 29 #[.val (.ref a1), .val (.int (24 : Int32)), .val (.long q1), .second] [(.ref a1)]))
  refine own_to (fun t k => XS.iloadN X128.here hx rfl (hb hby own_d1_29) rfl k) ?_
  show own_Fin _ _ _ _ _ _ (T128.setTop (mkF m 30 #[.val (.ref a1), .val (.int (24 : Int32)), .val (.long q1), .second] [(.int (24 : Int32)), (.ref a1)]))
  refine own_to (fun t k => XS.iconst X128.here hx rfl (hb hby own_d1_30) k) ?_
  show own_Fin _ _ _ _ _ _ (T128.setTop (mkF m 31 #[.val (.ref a1), .val (.int (24 : Int32)), .val (.long q1), .second] [(.int (3 : Int32)), (.int (24 : Int32)), (.ref a1)]))
  refine own_to (fun t k => XS.iadd X128.here hx rfl (hb hby own_d1_31) rfl k) ?_
  show own_Fin _ _ _ _ _ _ (T128.setTop (mkF m 32 #[.val (.ref a1), .val (.int (24 : Int32)), .val (.long q1), .second] [(.int (27 : Int32)), (.ref a1)]))
  refine own_to (fun t k => XS.lloadN X128.here hx rfl (hb hby own_d1_32) rfl k) ?_
  show own_Fin _ _ _ _ _ _ (T128.setTop (mkF m 33 #[.val (.ref a1), .val (.int (24 : Int32)), .val (.long q1), .second] [(.long q1), (.int (27 : Int32)), (.ref a1)]))
  refine own_to (fun t k => XS.bipush X128.here hx rfl (hb hby own_d1_33) k) ?_
  show own_Fin _ _ _ _ _ _ (T128.setTop (mkF m 35 #[.val (.ref a1), .val (.int (24 : Int32)), .val (.long q1), .second] [(.int (24 : Int32)), (.long q1), (.int (27 : Int32)), (.ref a1)]))
  refine own_to (fun t k => XS.lushr X128.here hx rfl (hb hby own_d1_35) rfl k) ?_
  show own_Fin _ _ _ _ _ _ (T128.setTop (mkF m 36 #[.val (.ref a1), .val (.int (24 : Int32)), .val (.long q1), .second] [(.long ((q1.toUInt64 >>> ((24 : Int32) &&& 0x3f).toInt64.toUInt64).toInt64)), (.int (27 : Int32)), (.ref a1)]))
  refine own_to (fun t k => XS.l2i X128.here hx rfl (hb hby own_d1_36) rfl k) ?_
  show own_Fin _ _ _ _ _ _ (T128.setTop (mkF m 37 #[.val (.ref a1), .val (.int (24 : Int32)), .val (.long q1), .second] [(.int (((q1.toUInt64 >>> ((24 : Int32) &&& 0x3f).toInt64.toUInt64).toInt64).toInt32)), (.int (27 : Int32)), (.ref a1)]))
  refine own_to (fun t k => XS.i2b X128.here hx rfl (hb hby own_d1_37) rfl k) ?_
  show own_Fin _ _ _ _ _ _ (T128.setTop (mkF m 38 #[.val (.ref a1), .val (.int (24 : Int32)), .val (.long q1), .second] [(.int ((((q1.toUInt64 >>> ((24 : Int32) &&& 0x3f).toInt64.toUInt64).toInt64).toInt32).toInt8.toInt32)), (.int (27 : Int32)), (.ref a1)]))
  obtain ⟨cl130, Ar130, qa130, Sa130, Na130, Ha130, Ga130⟩ := id Vb129
  have hin131 : ¬ ((27 : Int32) < 0 ∨ cl130.slots.size ≤ ((27 : Int32)).toNatClampNeg) := inb_of Sa130 ⟨by decide, by decide⟩
  obtain ⟨T131, h131, X131, e131, W131, st131⟩ := stB X128 hx hZ e128 Ar130 (j := (27 : Int32)) hin131 (g := (mkF m 38 #[.val (.ref a1), .val (.int (24 : Int32)), .val (.long q1), .second] [(.int ((((q1.toUInt64 >>> ((24 : Int32) &&& 0x3f).toInt64.toUInt64).toInt64).toInt32).toInt8.toInt32)), (.int (27 : Int32)), (.ref a1)])) rfl rfl (hb hby own_d1_38)
  rw [own_idem _] at W131
  have N131 := Fr.snoc X131 N128 g_a1
  have KK131 : Keep h0 h131 [a1] := KK128.wr W131 (Or.inl (List.mem_of_getElem? (i := 0) rfl))
  have V131 : Arv Z h131 a1 k .byte (32 : Int32) ((((vs.set (24 + 0) (.int (own_b q1 0))).set (24 + 1) (.int (own_b q1 1))).set (24 + 2) (.int (own_b q1 2))).set (24 + 3) (.int ((((q1.toUInt64 >>> ((24 : Int32) &&& 0x3f).toInt64.toUInt64).toInt64).toInt32).toInt8.toInt32))) (.int (0 : Int32)) := Arv.set Ar130 qa130 Sa130 Na130 Ha130 Ga130 (fits_nar_byte _) W131 (24 + 3) rfl (by simp [hl])
  refine own_to (fun t k => st131 t k) ?_
  show own_Fin _ _ _ _ _ _ (T131.setTop (mkF m 39 #[.val (.ref a1), .val (.int (24 : Int32)), .val (.long q1), .second] []))
  have Vb132 : Arv Z h131 a1 k .byte (32 : Int32) ((((vs.set (24 + 0) (.int (own_b q1 0))).set (24 + 1) (.int (own_b q1 1))).set (24 + 2) (.int (own_b q1 2))).set (24 + 3) (.int (own_b q1 3))) (.int (0 : Int32)) := V131
  refine own_to (fun t k => XS.aloadN X131.here hx rfl (hb hby own_d1_39) rfl rfl k) ?_
  show own_Fin _ _ _ _ _ _ (T131.setTop (mkF m 40 #[.val (.ref a1), .val (.int (24 : Int32)), .val (.long q1), .second] [(.ref a1)]))
  refine own_to (fun t k => XS.iloadN X131.here hx rfl (hb hby own_d1_40) rfl k) ?_
  show own_Fin _ _ _ _ _ _ (T131.setTop (mkF m 41 #[.val (.ref a1), .val (.int (24 : Int32)), .val (.long q1), .second] [(.int (24 : Int32)), (.ref a1)]))
  refine own_to (fun t k => XS.iconst X131.here hx rfl (hb hby own_d1_41) k) ?_
  show own_Fin _ _ _ _ _ _ (T131.setTop (mkF m 42 #[.val (.ref a1), .val (.int (24 : Int32)), .val (.long q1), .second] [(.int (4 : Int32)), (.int (24 : Int32)), (.ref a1)]))
  refine own_to (fun t k => XS.iadd X131.here hx rfl (hb hby own_d1_42) rfl k) ?_
  show own_Fin _ _ _ _ _ _ (T131.setTop (mkF m 43 #[.val (.ref a1), .val (.int (24 : Int32)), .val (.long q1), .second] [(.int (28 : Int32)), (.ref a1)]))
  refine own_to (fun t k => XS.lloadN X131.here hx rfl (hb hby own_d1_43) rfl k) ?_
  show own_Fin _ _ _ _ _ _ (T131.setTop (mkF m 44 #[.val (.ref a1), .val (.int (24 : Int32)), .val (.long q1), .second] [(.long q1), (.int (28 : Int32)), (.ref a1)]))
  refine own_to (fun t k => XS.bipush X131.here hx rfl (hb hby own_d1_44) k) ?_
  show own_Fin _ _ _ _ _ _ (T131.setTop (mkF m 46 #[.val (.ref a1), .val (.int (24 : Int32)), .val (.long q1), .second] [(.int (32 : Int32)), (.long q1), (.int (28 : Int32)), (.ref a1)]))
  refine own_to (fun t k => XS.lushr X131.here hx rfl (hb hby own_d1_46) rfl k) ?_
  show own_Fin _ _ _ _ _ _ (T131.setTop (mkF m 47 #[.val (.ref a1), .val (.int (24 : Int32)), .val (.long q1), .second] [(.long ((q1.toUInt64 >>> ((32 : Int32) &&& 0x3f).toInt64.toUInt64).toInt64)), (.int (28 : Int32)), (.ref a1)]))
  refine own_to (fun t k => XS.l2i X131.here hx rfl (hb hby own_d1_47) rfl k) ?_
  show own_Fin _ _ _ _ _ _ (T131.setTop (mkF m 48 #[.val (.ref a1), .val (.int (24 : Int32)), .val (.long q1), .second] [(.int (((q1.toUInt64 >>> ((32 : Int32) &&& 0x3f).toInt64.toUInt64).toInt64).toInt32)), (.int (28 : Int32)), (.ref a1)]))
  refine own_to (fun t k => XS.i2b X131.here hx rfl (hb hby own_d1_48) rfl k) ?_
  show own_Fin _ _ _ _ _ _ (T131.setTop (mkF m 49 #[.val (.ref a1), .val (.int (24 : Int32)), .val (.long q1), .second] [(.int ((((q1.toUInt64 >>> ((32 : Int32) &&& 0x3f).toInt64.toUInt64).toInt64).toInt32).toInt8.toInt32)), (.int (28 : Int32)), (.ref a1)]))
  obtain ⟨cl133, Ar133, qa133, Sa133, Na133, Ha133, Ga133⟩ := id Vb132
  have hin134 : ¬ ((28 : Int32) < 0 ∨ cl133.slots.size ≤ ((28 : Int32)).toNatClampNeg) := inb_of Sa133 ⟨by decide, by decide⟩
  obtain ⟨T134, h134, X134, e134, W134, st134⟩ := stB X131 hx hZ e131 Ar133 (j := (28 : Int32)) hin134 (g := (mkF m 49 #[.val (.ref a1), .val (.int (24 : Int32)), .val (.long q1), .second] [(.int ((((q1.toUInt64 >>> ((32 : Int32) &&& 0x3f).toInt64.toUInt64).toInt64).toInt32).toInt8.toInt32)), (.int (28 : Int32)), (.ref a1)])) rfl rfl (hb hby own_d1_49)
  rw [own_idem _] at W134
  have N134 := Fr.snoc X134 N131 g_a1
  have KK134 : Keep h0 h134 [a1] := KK131.wr W134 (Or.inl (List.mem_of_getElem? (i := 0) rfl))
  have V134 : Arv Z h134 a1 k .byte (32 : Int32) (((((vs.set (24 + 0) (.int (own_b q1 0))).set (24 + 1) (.int (own_b q1 1))).set (24 + 2) (.int (own_b q1 2))).set (24 + 3) (.int (own_b q1 3))).set (24 + 4) (.int ((((q1.toUInt64 >>> ((32 : Int32) &&& 0x3f).toInt64.toUInt64).toInt64).toInt32).toInt8.toInt32))) (.int (0 : Int32)) := Arv.set Ar133 qa133 Sa133 Na133 Ha133 Ga133 (fits_nar_byte _) W134 (24 + 4) rfl (by simp [hl])
  refine own_to (fun t k => st134 t k) ?_
  show own_Fin _ _ _ _ _ _ (T134.setTop (mkF m 50 #[.val (.ref a1), .val (.int (24 : Int32)), .val (.long q1), .second] []))
  have Vb135 : Arv Z h134 a1 k .byte (32 : Int32) (((((vs.set (24 + 0) (.int (own_b q1 0))).set (24 + 1) (.int (own_b q1 1))).set (24 + 2) (.int (own_b q1 2))).set (24 + 3) (.int (own_b q1 3))).set (24 + 4) (.int (own_b q1 4))) (.int (0 : Int32)) := V134
  refine own_to (fun t k => XS.aloadN X134.here hx rfl (hb hby own_d1_50) rfl rfl k) ?_
  show own_Fin _ _ _ _ _ _ (T134.setTop (mkF m 51 #[.val (.ref a1), .val (.int (24 : Int32)), .val (.long q1), .second] [(.ref a1)]))
  refine own_to (fun t k => XS.iloadN X134.here hx rfl (hb hby own_d1_51) rfl k) ?_
  show own_Fin _ _ _ _ _ _ (T134.setTop (mkF m 52 #[.val (.ref a1), .val (.int (24 : Int32)), .val (.long q1), .second] [(.int (24 : Int32)), (.ref a1)]))
  refine own_to (fun t k => XS.iconst X134.here hx rfl (hb hby own_d1_52) k) ?_
  show own_Fin _ _ _ _ _ _ (T134.setTop (mkF m 53 #[.val (.ref a1), .val (.int (24 : Int32)), .val (.long q1), .second] [(.int (5 : Int32)), (.int (24 : Int32)), (.ref a1)]))
  refine own_to (fun t k => XS.iadd X134.here hx rfl (hb hby own_d1_53) rfl k) ?_
  show own_Fin _ _ _ _ _ _ (T134.setTop (mkF m 54 #[.val (.ref a1), .val (.int (24 : Int32)), .val (.long q1), .second] [(.int (29 : Int32)), (.ref a1)]))
  refine own_to (fun t k => XS.lloadN X134.here hx rfl (hb hby own_d1_54) rfl k) ?_
  show own_Fin _ _ _ _ _ _ (T134.setTop (mkF m 55 #[.val (.ref a1), .val (.int (24 : Int32)), .val (.long q1), .second] [(.long q1), (.int (29 : Int32)), (.ref a1)]))
  refine own_to (fun t k => XS.bipush X134.here hx rfl (hb hby own_d1_55) k) ?_
  show own_Fin _ _ _ _ _ _ (T134.setTop (mkF m 57 #[.val (.ref a1), .val (.int (24 : Int32)), .val (.long q1), .second] [(.int (40 : Int32)), (.long q1), (.int (29 : Int32)), (.ref a1)]))
  refine own_to (fun t k => XS.lushr X134.here hx rfl (hb hby own_d1_57) rfl k) ?_
  show own_Fin _ _ _ _ _ _ (T134.setTop (mkF m 58 #[.val (.ref a1), .val (.int (24 : Int32)), .val (.long q1), .second] [(.long ((q1.toUInt64 >>> ((40 : Int32) &&& 0x3f).toInt64.toUInt64).toInt64)), (.int (29 : Int32)), (.ref a1)]))
  refine own_to (fun t k => XS.l2i X134.here hx rfl (hb hby own_d1_58) rfl k) ?_
  show own_Fin _ _ _ _ _ _ (T134.setTop (mkF m 59 #[.val (.ref a1), .val (.int (24 : Int32)), .val (.long q1), .second] [(.int (((q1.toUInt64 >>> ((40 : Int32) &&& 0x3f).toInt64.toUInt64).toInt64).toInt32)), (.int (29 : Int32)), (.ref a1)]))
  refine own_to (fun t k => XS.i2b X134.here hx rfl (hb hby own_d1_59) rfl k) ?_
  show own_Fin _ _ _ _ _ _ (T134.setTop (mkF m 60 #[.val (.ref a1), .val (.int (24 : Int32)), .val (.long q1), .second] [(.int ((((q1.toUInt64 >>> ((40 : Int32) &&& 0x3f).toInt64.toUInt64).toInt64).toInt32).toInt8.toInt32)), (.int (29 : Int32)), (.ref a1)]))
  obtain ⟨cl136, Ar136, qa136, Sa136, Na136, Ha136, Ga136⟩ := id Vb135
  have hin137 : ¬ ((29 : Int32) < 0 ∨ cl136.slots.size ≤ ((29 : Int32)).toNatClampNeg) := inb_of Sa136 ⟨by decide, by decide⟩
  obtain ⟨T137, h137, X137, e137, W137, st137⟩ := stB X134 hx hZ e134 Ar136 (j := (29 : Int32)) hin137 (g := (mkF m 60 #[.val (.ref a1), .val (.int (24 : Int32)), .val (.long q1), .second] [(.int ((((q1.toUInt64 >>> ((40 : Int32) &&& 0x3f).toInt64.toUInt64).toInt64).toInt32).toInt8.toInt32)), (.int (29 : Int32)), (.ref a1)])) rfl rfl (hb hby own_d1_60)
  rw [own_idem _] at W137
  have N137 := Fr.snoc X137 N134 g_a1
  have KK137 : Keep h0 h137 [a1] := KK134.wr W137 (Or.inl (List.mem_of_getElem? (i := 0) rfl))
  have V137 : Arv Z h137 a1 k .byte (32 : Int32) ((((((vs.set (24 + 0) (.int (own_b q1 0))).set (24 + 1) (.int (own_b q1 1))).set (24 + 2) (.int (own_b q1 2))).set (24 + 3) (.int (own_b q1 3))).set (24 + 4) (.int (own_b q1 4))).set (24 + 5) (.int ((((q1.toUInt64 >>> ((40 : Int32) &&& 0x3f).toInt64.toUInt64).toInt64).toInt32).toInt8.toInt32))) (.int (0 : Int32)) := Arv.set Ar136 qa136 Sa136 Na136 Ha136 Ga136 (fits_nar_byte _) W137 (24 + 5) rfl (by simp [hl])
  refine own_to (fun t k => st137 t k) ?_
  show own_Fin _ _ _ _ _ _ (T137.setTop (mkF m 61 #[.val (.ref a1), .val (.int (24 : Int32)), .val (.long q1), .second] []))
  have Vb138 : Arv Z h137 a1 k .byte (32 : Int32) ((((((vs.set (24 + 0) (.int (own_b q1 0))).set (24 + 1) (.int (own_b q1 1))).set (24 + 2) (.int (own_b q1 2))).set (24 + 3) (.int (own_b q1 3))).set (24 + 4) (.int (own_b q1 4))).set (24 + 5) (.int (own_b q1 5))) (.int (0 : Int32)) := V137
  refine own_to (fun t k => XS.aloadN X137.here hx rfl (hb hby own_d1_61) rfl rfl k) ?_
  show own_Fin _ _ _ _ _ _ (T137.setTop (mkF m 62 #[.val (.ref a1), .val (.int (24 : Int32)), .val (.long q1), .second] [(.ref a1)]))
  refine own_to (fun t k => XS.iloadN X137.here hx rfl (hb hby own_d1_62) rfl k) ?_
  show own_Fin _ _ _ _ _ _ (T137.setTop (mkF m 63 #[.val (.ref a1), .val (.int (24 : Int32)), .val (.long q1), .second] [(.int (24 : Int32)), (.ref a1)]))
  refine own_to (fun t k => XS.bipush X137.here hx rfl (hb hby own_d1_63) k) ?_
  show own_Fin _ _ _ _ _ _ (T137.setTop (mkF m 65 #[.val (.ref a1), .val (.int (24 : Int32)), .val (.long q1), .second] [(.int (6 : Int32)), (.int (24 : Int32)), (.ref a1)]))
  refine own_to (fun t k => XS.iadd X137.here hx rfl (hb hby own_d1_65) rfl k) ?_
  show own_Fin _ _ _ _ _ _ (T137.setTop (mkF m 66 #[.val (.ref a1), .val (.int (24 : Int32)), .val (.long q1), .second] [(.int (30 : Int32)), (.ref a1)]))
  refine own_to (fun t k => XS.lloadN X137.here hx rfl (hb hby own_d1_66) rfl k) ?_
  show own_Fin _ _ _ _ _ _ (T137.setTop (mkF m 67 #[.val (.ref a1), .val (.int (24 : Int32)), .val (.long q1), .second] [(.long q1), (.int (30 : Int32)), (.ref a1)]))
  refine own_to (fun t k => XS.bipush X137.here hx rfl (hb hby own_d1_67) k) ?_
  show own_Fin _ _ _ _ _ _ (T137.setTop (mkF m 69 #[.val (.ref a1), .val (.int (24 : Int32)), .val (.long q1), .second] [(.int (48 : Int32)), (.long q1), (.int (30 : Int32)), (.ref a1)]))
  refine own_to (fun t k => XS.lushr X137.here hx rfl (hb hby own_d1_69) rfl k) ?_
  show own_Fin _ _ _ _ _ _ (T137.setTop (mkF m 70 #[.val (.ref a1), .val (.int (24 : Int32)), .val (.long q1), .second] [(.long ((q1.toUInt64 >>> ((48 : Int32) &&& 0x3f).toInt64.toUInt64).toInt64)), (.int (30 : Int32)), (.ref a1)]))
  refine own_to (fun t k => XS.l2i X137.here hx rfl (hb hby own_d1_70) rfl k) ?_
  show own_Fin _ _ _ _ _ _ (T137.setTop (mkF m 71 #[.val (.ref a1), .val (.int (24 : Int32)), .val (.long q1), .second] [(.int (((q1.toUInt64 >>> ((48 : Int32) &&& 0x3f).toInt64.toUInt64).toInt64).toInt32)), (.int (30 : Int32)), (.ref a1)]))
  refine own_to (fun t k => XS.i2b X137.here hx rfl (hb hby own_d1_71) rfl k) ?_
  show own_Fin _ _ _ _ _ _ (T137.setTop (mkF m 72 #[.val (.ref a1), .val (.int (24 : Int32)), .val (.long q1), .second] [(.int ((((q1.toUInt64 >>> ((48 : Int32) &&& 0x3f).toInt64.toUInt64).toInt64).toInt32).toInt8.toInt32)), (.int (30 : Int32)), (.ref a1)]))
  obtain ⟨cl139, Ar139, qa139, Sa139, Na139, Ha139, Ga139⟩ := id Vb138
  have hin140 : ¬ ((30 : Int32) < 0 ∨ cl139.slots.size ≤ ((30 : Int32)).toNatClampNeg) := inb_of Sa139 ⟨by decide, by decide⟩
  obtain ⟨T140, h140, X140, e140, W140, st140⟩ := stB X137 hx hZ e137 Ar139 (j := (30 : Int32)) hin140 (g := (mkF m 72 #[.val (.ref a1), .val (.int (24 : Int32)), .val (.long q1), .second] [(.int ((((q1.toUInt64 >>> ((48 : Int32) &&& 0x3f).toInt64.toUInt64).toInt64).toInt32).toInt8.toInt32)), (.int (30 : Int32)), (.ref a1)])) rfl rfl (hb hby own_d1_72)
  rw [own_idem _] at W140
  have N140 := Fr.snoc X140 N137 g_a1
  have KK140 : Keep h0 h140 [a1] := KK137.wr W140 (Or.inl (List.mem_of_getElem? (i := 0) rfl))
  have V140 : Arv Z h140 a1 k .byte (32 : Int32) (((((((vs.set (24 + 0) (.int (own_b q1 0))).set (24 + 1) (.int (own_b q1 1))).set (24 + 2) (.int (own_b q1 2))).set (24 + 3) (.int (own_b q1 3))).set (24 + 4) (.int (own_b q1 4))).set (24 + 5) (.int (own_b q1 5))).set (24 + 6) (.int ((((q1.toUInt64 >>> ((48 : Int32) &&& 0x3f).toInt64.toUInt64).toInt64).toInt32).toInt8.toInt32))) (.int (0 : Int32)) := Arv.set Ar139 qa139 Sa139 Na139 Ha139 Ga139 (fits_nar_byte _) W140 (24 + 6) rfl (by simp [hl])
  refine own_to (fun t k => st140 t k) ?_
  show own_Fin _ _ _ _ _ _ (T140.setTop (mkF m 73 #[.val (.ref a1), .val (.int (24 : Int32)), .val (.long q1), .second] []))
  have Vb141 : Arv Z h140 a1 k .byte (32 : Int32) (((((((vs.set (24 + 0) (.int (own_b q1 0))).set (24 + 1) (.int (own_b q1 1))).set (24 + 2) (.int (own_b q1 2))).set (24 + 3) (.int (own_b q1 3))).set (24 + 4) (.int (own_b q1 4))).set (24 + 5) (.int (own_b q1 5))).set (24 + 6) (.int (own_b q1 6))) (.int (0 : Int32)) := V140
  refine own_to (fun t k => XS.aloadN X140.here hx rfl (hb hby own_d1_73) rfl rfl k) ?_
  show own_Fin _ _ _ _ _ _ (T140.setTop (mkF m 74 #[.val (.ref a1), .val (.int (24 : Int32)), .val (.long q1), .second] [(.ref a1)]))
  refine own_to (fun t k => XS.iloadN X140.here hx rfl (hb hby own_d1_74) rfl k) ?_
  show own_Fin _ _ _ _ _ _ (T140.setTop (mkF m 75 #[.val (.ref a1), .val (.int (24 : Int32)), .val (.long q1), .second] [(.int (24 : Int32)), (.ref a1)]))
  refine own_to (fun t k => XS.bipush X140.here hx rfl (hb hby own_d1_75) k) ?_
  show own_Fin _ _ _ _ _ _ (T140.setTop (mkF m 77 #[.val (.ref a1), .val (.int (24 : Int32)), .val (.long q1), .second] [(.int (7 : Int32)), (.int (24 : Int32)), (.ref a1)]))
  refine own_to (fun t k => XS.iadd X140.here hx rfl (hb hby own_d1_77) rfl k) ?_
  show own_Fin _ _ _ _ _ _ (T140.setTop (mkF m 78 #[.val (.ref a1), .val (.int (24 : Int32)), .val (.long q1), .second] [(.int (31 : Int32)), (.ref a1)]))
  refine own_to (fun t k => XS.lloadN X140.here hx rfl (hb hby own_d1_78) rfl k) ?_
  show own_Fin _ _ _ _ _ _ (T140.setTop (mkF m 79 #[.val (.ref a1), .val (.int (24 : Int32)), .val (.long q1), .second] [(.long q1), (.int (31 : Int32)), (.ref a1)]))
  refine own_to (fun t k => XS.bipush X140.here hx rfl (hb hby own_d1_79) k) ?_
  show own_Fin _ _ _ _ _ _ (T140.setTop (mkF m 81 #[.val (.ref a1), .val (.int (24 : Int32)), .val (.long q1), .second] [(.int (56 : Int32)), (.long q1), (.int (31 : Int32)), (.ref a1)]))
  refine own_to (fun t k => XS.lushr X140.here hx rfl (hb hby own_d1_81) rfl k) ?_
  show own_Fin _ _ _ _ _ _ (T140.setTop (mkF m 82 #[.val (.ref a1), .val (.int (24 : Int32)), .val (.long q1), .second] [(.long ((q1.toUInt64 >>> ((56 : Int32) &&& 0x3f).toInt64.toUInt64).toInt64)), (.int (31 : Int32)), (.ref a1)]))
  refine own_to (fun t k => XS.l2i X140.here hx rfl (hb hby own_d1_82) rfl k) ?_
  show own_Fin _ _ _ _ _ _ (T140.setTop (mkF m 83 #[.val (.ref a1), .val (.int (24 : Int32)), .val (.long q1), .second] [(.int (((q1.toUInt64 >>> ((56 : Int32) &&& 0x3f).toInt64.toUInt64).toInt64).toInt32)), (.int (31 : Int32)), (.ref a1)]))
  refine own_to (fun t k => XS.i2b X140.here hx rfl (hb hby own_d1_83) rfl k) ?_
  show own_Fin _ _ _ _ _ _ (T140.setTop (mkF m 84 #[.val (.ref a1), .val (.int (24 : Int32)), .val (.long q1), .second] [(.int ((((q1.toUInt64 >>> ((56 : Int32) &&& 0x3f).toInt64.toUInt64).toInt64).toInt32).toInt8.toInt32)), (.int (31 : Int32)), (.ref a1)]))
  obtain ⟨cl142, Ar142, qa142, Sa142, Na142, Ha142, Ga142⟩ := id Vb141
  have hin143 : ¬ ((31 : Int32) < 0 ∨ cl142.slots.size ≤ ((31 : Int32)).toNatClampNeg) := inb_of Sa142 ⟨by decide, by decide⟩
  obtain ⟨T143, h143, X143, e143, W143, st143⟩ := stB X140 hx hZ e140 Ar142 (j := (31 : Int32)) hin143 (g := (mkF m 84 #[.val (.ref a1), .val (.int (24 : Int32)), .val (.long q1), .second] [(.int ((((q1.toUInt64 >>> ((56 : Int32) &&& 0x3f).toInt64.toUInt64).toInt64).toInt32).toInt8.toInt32)), (.int (31 : Int32)), (.ref a1)])) rfl rfl (hb hby own_d1_84)
  rw [own_idem _] at W143
  have N143 := Fr.snoc X143 N140 g_a1
  have KK143 : Keep h0 h143 [a1] := KK140.wr W143 (Or.inl (List.mem_of_getElem? (i := 0) rfl))
  have V143 : Arv Z h143 a1 k .byte (32 : Int32) ((((((((vs.set (24 + 0) (.int (own_b q1 0))).set (24 + 1) (.int (own_b q1 1))).set (24 + 2) (.int (own_b q1 2))).set (24 + 3) (.int (own_b q1 3))).set (24 + 4) (.int (own_b q1 4))).set (24 + 5) (.int (own_b q1 5))).set (24 + 6) (.int (own_b q1 6))).set (24 + 7) (.int ((((q1.toUInt64 >>> ((56 : Int32) &&& 0x3f).toInt64.toUInt64).toInt64).toInt32).toInt8.toInt32))) (.int (0 : Int32)) := Arv.set Ar142 qa142 Sa142 Na142 Ha142 Ga142 (fits_nar_byte _) W143 (24 + 7) rfl (by simp [hl])
  refine own_to (fun t k => st143 t k) ?_
  show own_Fin _ _ _ _ _ _ (T143.setTop (mkF m 85 #[.val (.ref a1), .val (.int (24 : Int32)), .val (.long q1), .second] []))
  have Vb144 : Arv Z h143 a1 k .byte (32 : Int32) ((((((((vs.set (24 + 0) (.int (own_b q1 0))).set (24 + 1) (.int (own_b q1 1))).set (24 + 2) (.int (own_b q1 2))).set (24 + 3) (.int (own_b q1 3))).set (24 + 4) (.int (own_b q1 4))).set (24 + 5) (.int (own_b q1 5))).set (24 + 6) (.int (own_b q1 6))).set (24 + 7) (.int (own_b q1 7))) (.int (0 : Int32)) := V143
  refine own_retV X143 hx hlk hret (hb hby own_d1_85) (by decide) (by decide) ?_
  try rw [e143]
  exact ⟨rfl, N143, KK143, Vb144⟩
theorem own_same24_ef (m : MethodId) (a1 : Addr) (q1 : Int64) : entryFrame m #[(.ref a1), (.int (24 : Int32)), (.long q1)] 4 = mkF m 0 #[.val (.ref a1), .val (.int (24 : Int32)), .val (.long q1), .second] [] := by first | (simp [entryFrame, mkF, argsToLocals, Value.category]; done) | rfl
set_option maxRecDepth 65536 in
set_option maxHeartbeats 40000000 in
theorem own_same24 (l : Launch) (Z : State) (a0 : Array Value) (hw : ∀ d ∈ tables_1, d.before a0 Z = true) (ws : List Jvm.Cond) (a1 : Addr) (q1 : Int64) (k : ClassId) (vs : List Value) (h0 : Heap) (n0 : Nat) (Z0 : n0 ≤ h0.size) (V1 : Arv Z h0 a1 k .byte (32 : Int32) vs (.int (0 : Int32))) (hv0 : vs.getD 24 (.int (0 : Int32)) = .int (own_b q1 0)) (hv1 : vs.getD 25 (.int (0 : Int32)) = .int (own_b q1 1)) (hv2 : vs.getD 26 (.int (0 : Int32)) = .int (own_b q1 2)) (hv3 : vs.getD 27 (.int (0 : Int32)) = .int (own_b q1 3)) (hv4 : vs.getD 28 (.int (0 : Int32)) = .int (own_b q1 4)) (hv5 : vs.getD 29 (.int (0 : Int32)) = .int (own_b q1 5)) (hv6 : vs.getD 30 (.int (0 : Int32)) = .int (own_b q1 6)) (hv7 : vs.getD 31 (.int (0 : Int32)) = .int (own_b q1 7)) :
    own_Met l Z (⟨"com/example/nuthatch/nuthatch/engine/Sha256RequireDigestPinLaw", "same", "([BIJ)Z"⟩ : MethodName) method_3_code 4 (some .boolean) ws ({ frames := 0, cells := 0, slots := 0, locals := 0 } : Room) #[(.ref a1), (.int (24 : Int32)), (.long q1)] h0 (fun v h L => v = some (.int 1) ∧ Fr n0 L ∧ h = h0) := by
  refine own_enter (plainFor_of_name own_pn0) ?_
  intro p e s m below meth c s₁ X0 hx hZ hby hml hown hnm hret hlk e0
  have N0 := Fr.nil n0
  rw [own_same24_ef m a1 q1]
  show own_Fin _ _ _ _ _ _ (s₁.setTop (mkF m 0 #[.val (.ref a1), .val (.int (24 : Int32)), .val (.long q1), .second] []))
  refine own_to (fun t k => XS.aloadN X0.here hx rfl (hb hby own_d4_0) rfl rfl k) ?_
  show own_Fin _ _ _ _ _ _ (s₁.setTop (mkF m 1 #[.val (.ref a1), .val (.int (24 : Int32)), .val (.long q1), .second] [(.ref a1)]))
  refine own_to (fun t k => XS.iloadN X0.here hx rfl (hb hby own_d4_1) rfl k) ?_
  show own_Fin _ _ _ _ _ _ (s₁.setTop (mkF m 2 #[.val (.ref a1), .val (.int (24 : Int32)), .val (.long q1), .second] [(.int (24 : Int32)), (.ref a1)]))
  obtain ⟨cl145, Ar145, qa145, Sa145, Na145, Ha145, Ga145⟩ := id V1
  have hin146 : ¬ ((24 : Int32) < 0 ∨ cl145.slots.size ≤ ((24 : Int32)).toNatClampNeg) := inb_of Sa145 ⟨by decide, by decide⟩
  refine own_to (fun t k => X0.baloadBytes hx (j := (24 : Int32)) (v := (.int ((q1.toInt32).toInt8.toInt32))) (by rw [e0]; exact Ar145.1) (State.isArrayOf_alike hZ.alike Ar145.2.1) Ar145.2.2 hin146 (Has.at Ha145 hin146 hv0) (g := (mkF m 2 #[.val (.ref a1), .val (.int (24 : Int32)), .val (.long q1), .second] [(.int (24 : Int32)), (.ref a1)])) rfl rfl (hb hby own_d4_2) _ k) ?_
  show own_Fin _ _ _ _ _ _ (s₁.setTop (mkF m 3 #[.val (.ref a1), .val (.int (24 : Int32)), .val (.long q1), .second] [(.int ((q1.toInt32).toInt8.toInt32))]))
  refine own_to (fun t k => XS.lloadN X0.here hx rfl (hb hby own_d4_3) rfl k) ?_
  show own_Fin _ _ _ _ _ _ (s₁.setTop (mkF m 4 #[.val (.ref a1), .val (.int (24 : Int32)), .val (.long q1), .second] [(.long q1), (.int ((q1.toInt32).toInt8.toInt32))]))
  refine own_to (fun t k => XS.l2i X0.here hx rfl (hb hby own_d4_4) rfl k) ?_
  show own_Fin _ _ _ _ _ _ (s₁.setTop (mkF m 5 #[.val (.ref a1), .val (.int (24 : Int32)), .val (.long q1), .second] [(.int (q1.toInt32)), (.int ((q1.toInt32).toInt8.toInt32))]))
  refine own_to (fun t k => XS.i2b X0.here hx rfl (hb hby own_d4_5) rfl k) ?_
  show own_Fin _ _ _ _ _ _ (s₁.setTop (mkF m 6 #[.val (.ref a1), .val (.int (24 : Int32)), .val (.long q1), .second] [(.int ((q1.toInt32).toInt8.toInt32)), (.int ((q1.toInt32).toInt8.toInt32))]))
  refine own_to (fun t k => XS.icmpNo X0.here hx rfl (hb hby own_d4_6) rfl (teq rfl).2 k) ?_
  show own_Fin _ _ _ _ _ _ (s₁.setTop (mkF m 9 #[.val (.ref a1), .val (.int (24 : Int32)), .val (.long q1), .second] []))
  refine own_to (fun t k => XS.aloadN X0.here hx rfl (hb hby own_d4_9) rfl rfl k) ?_
  show own_Fin _ _ _ _ _ _ (s₁.setTop (mkF m 10 #[.val (.ref a1), .val (.int (24 : Int32)), .val (.long q1), .second] [(.ref a1)]))
  refine own_to (fun t k => XS.iloadN X0.here hx rfl (hb hby own_d4_10) rfl k) ?_
  show own_Fin _ _ _ _ _ _ (s₁.setTop (mkF m 11 #[.val (.ref a1), .val (.int (24 : Int32)), .val (.long q1), .second] [(.int (24 : Int32)), (.ref a1)]))
  refine own_to (fun t k => XS.iconst X0.here hx rfl (hb hby own_d4_11) k) ?_
  show own_Fin _ _ _ _ _ _ (s₁.setTop (mkF m 12 #[.val (.ref a1), .val (.int (24 : Int32)), .val (.long q1), .second] [(.int (1 : Int32)), (.int (24 : Int32)), (.ref a1)]))
  refine own_to (fun t k => XS.iadd X0.here hx rfl (hb hby own_d4_12) rfl k) ?_
  show own_Fin _ _ _ _ _ _ (s₁.setTop (mkF m 13 #[.val (.ref a1), .val (.int (24 : Int32)), .val (.long q1), .second] [(.int (25 : Int32)), (.ref a1)]))
  obtain ⟨cl147, Ar147, qa147, Sa147, Na147, Ha147, Ga147⟩ := id V1
  have hin148 : ¬ ((25 : Int32) < 0 ∨ cl147.slots.size ≤ ((25 : Int32)).toNatClampNeg) := inb_of Sa147 ⟨by decide, by decide⟩
  refine own_to (fun t k => X0.baloadBytes hx (j := (25 : Int32)) (v := (.int ((((q1.toUInt64 >>> ((8 : Int32) &&& 0x3f).toInt64.toUInt64).toInt64).toInt32).toInt8.toInt32))) (by rw [e0]; exact Ar147.1) (State.isArrayOf_alike hZ.alike Ar147.2.1) Ar147.2.2 hin148 (Has.at Ha147 hin148 hv1) (g := (mkF m 13 #[.val (.ref a1), .val (.int (24 : Int32)), .val (.long q1), .second] [(.int (25 : Int32)), (.ref a1)])) rfl rfl (hb hby own_d4_13) _ k) ?_
  show own_Fin _ _ _ _ _ _ (s₁.setTop (mkF m 14 #[.val (.ref a1), .val (.int (24 : Int32)), .val (.long q1), .second] [(.int ((((q1.toUInt64 >>> ((8 : Int32) &&& 0x3f).toInt64.toUInt64).toInt64).toInt32).toInt8.toInt32))]))
  refine own_to (fun t k => XS.lloadN X0.here hx rfl (hb hby own_d4_14) rfl k) ?_
  show own_Fin _ _ _ _ _ _ (s₁.setTop (mkF m 15 #[.val (.ref a1), .val (.int (24 : Int32)), .val (.long q1), .second] [(.long q1), (.int ((((q1.toUInt64 >>> ((8 : Int32) &&& 0x3f).toInt64.toUInt64).toInt64).toInt32).toInt8.toInt32))]))
  refine own_to (fun t k => XS.bipush X0.here hx rfl (hb hby own_d4_15) k) ?_
  show own_Fin _ _ _ _ _ _ (s₁.setTop (mkF m 17 #[.val (.ref a1), .val (.int (24 : Int32)), .val (.long q1), .second] [(.int (8 : Int32)), (.long q1), (.int ((((q1.toUInt64 >>> ((8 : Int32) &&& 0x3f).toInt64.toUInt64).toInt64).toInt32).toInt8.toInt32))]))
  refine own_to (fun t k => XS.lushr X0.here hx rfl (hb hby own_d4_17) rfl k) ?_
  show own_Fin _ _ _ _ _ _ (s₁.setTop (mkF m 18 #[.val (.ref a1), .val (.int (24 : Int32)), .val (.long q1), .second] [(.long ((q1.toUInt64 >>> ((8 : Int32) &&& 0x3f).toInt64.toUInt64).toInt64)), (.int ((((q1.toUInt64 >>> ((8 : Int32) &&& 0x3f).toInt64.toUInt64).toInt64).toInt32).toInt8.toInt32))]))
  refine own_to (fun t k => XS.l2i X0.here hx rfl (hb hby own_d4_18) rfl k) ?_
  show own_Fin _ _ _ _ _ _ (s₁.setTop (mkF m 19 #[.val (.ref a1), .val (.int (24 : Int32)), .val (.long q1), .second] [(.int (((q1.toUInt64 >>> ((8 : Int32) &&& 0x3f).toInt64.toUInt64).toInt64).toInt32)), (.int ((((q1.toUInt64 >>> ((8 : Int32) &&& 0x3f).toInt64.toUInt64).toInt64).toInt32).toInt8.toInt32))]))
  refine own_to (fun t k => XS.i2b X0.here hx rfl (hb hby own_d4_19) rfl k) ?_
  show own_Fin _ _ _ _ _ _ (s₁.setTop (mkF m 20 #[.val (.ref a1), .val (.int (24 : Int32)), .val (.long q1), .second] [(.int ((((q1.toUInt64 >>> ((8 : Int32) &&& 0x3f).toInt64.toUInt64).toInt64).toInt32).toInt8.toInt32)), (.int ((((q1.toUInt64 >>> ((8 : Int32) &&& 0x3f).toInt64.toUInt64).toInt64).toInt32).toInt8.toInt32))]))
  refine own_to (fun t k => XS.icmpNo X0.here hx rfl (hb hby own_d4_20) rfl (teq rfl).2 k) ?_
  show own_Fin _ _ _ _ _ _ (s₁.setTop (mkF m 23 #[.val (.ref a1), .val (.int (24 : Int32)), .val (.long q1), .second] []))
  refine own_to (fun t k => XS.aloadN X0.here hx rfl (hb hby own_d4_23) rfl rfl k) ?_
  show own_Fin _ _ _ _ _ _ (s₁.setTop (mkF m 24 #[.val (.ref a1), .val (.int (24 : Int32)), .val (.long q1), .second] [(.ref a1)]))
  refine own_to (fun t k => XS.iloadN X0.here hx rfl (hb hby own_d4_24) rfl k) ?_
  show own_Fin _ _ _ _ _ _ (s₁.setTop (mkF m 25 #[.val (.ref a1), .val (.int (24 : Int32)), .val (.long q1), .second] [(.int (24 : Int32)), (.ref a1)]))
  refine own_to (fun t k => XS.iconst X0.here hx rfl (hb hby own_d4_25) k) ?_
  show own_Fin _ _ _ _ _ _ (s₁.setTop (mkF m 26 #[.val (.ref a1), .val (.int (24 : Int32)), .val (.long q1), .second] [(.int (2 : Int32)), (.int (24 : Int32)), (.ref a1)]))
  refine own_to (fun t k => XS.iadd X0.here hx rfl (hb hby own_d4_26) rfl k) ?_
  show own_Fin _ _ _ _ _ _ (s₁.setTop (mkF m 27 #[.val (.ref a1), .val (.int (24 : Int32)), .val (.long q1), .second] [(.int (26 : Int32)), (.ref a1)]))
  obtain ⟨cl149, Ar149, qa149, Sa149, Na149, Ha149, Ga149⟩ := id V1
  have hin150 : ¬ ((26 : Int32) < 0 ∨ cl149.slots.size ≤ ((26 : Int32)).toNatClampNeg) := inb_of Sa149 ⟨by decide, by decide⟩
  refine own_to (fun t k => X0.baloadBytes hx (j := (26 : Int32)) (v := (.int ((((q1.toUInt64 >>> ((16 : Int32) &&& 0x3f).toInt64.toUInt64).toInt64).toInt32).toInt8.toInt32))) (by rw [e0]; exact Ar149.1) (State.isArrayOf_alike hZ.alike Ar149.2.1) Ar149.2.2 hin150 (Has.at Ha149 hin150 hv2) (g := (mkF m 27 #[.val (.ref a1), .val (.int (24 : Int32)), .val (.long q1), .second] [(.int (26 : Int32)), (.ref a1)])) rfl rfl (hb hby own_d4_27) _ k) ?_
  show own_Fin _ _ _ _ _ _ (s₁.setTop (mkF m 28 #[.val (.ref a1), .val (.int (24 : Int32)), .val (.long q1), .second] [(.int ((((q1.toUInt64 >>> ((16 : Int32) &&& 0x3f).toInt64.toUInt64).toInt64).toInt32).toInt8.toInt32))]))
  refine own_to (fun t k => XS.lloadN X0.here hx rfl (hb hby own_d4_28) rfl k) ?_
  show own_Fin _ _ _ _ _ _ (s₁.setTop (mkF m 29 #[.val (.ref a1), .val (.int (24 : Int32)), .val (.long q1), .second] [(.long q1), (.int ((((q1.toUInt64 >>> ((16 : Int32) &&& 0x3f).toInt64.toUInt64).toInt64).toInt32).toInt8.toInt32))]))
  refine own_to (fun t k => XS.bipush X0.here hx rfl (hb hby own_d4_29) k) ?_
  show own_Fin _ _ _ _ _ _ (s₁.setTop (mkF m 31 #[.val (.ref a1), .val (.int (24 : Int32)), .val (.long q1), .second] [(.int (16 : Int32)), (.long q1), (.int ((((q1.toUInt64 >>> ((16 : Int32) &&& 0x3f).toInt64.toUInt64).toInt64).toInt32).toInt8.toInt32))]))
  refine own_to (fun t k => XS.lushr X0.here hx rfl (hb hby own_d4_31) rfl k) ?_
  show own_Fin _ _ _ _ _ _ (s₁.setTop (mkF m 32 #[.val (.ref a1), .val (.int (24 : Int32)), .val (.long q1), .second] [(.long ((q1.toUInt64 >>> ((16 : Int32) &&& 0x3f).toInt64.toUInt64).toInt64)), (.int ((((q1.toUInt64 >>> ((16 : Int32) &&& 0x3f).toInt64.toUInt64).toInt64).toInt32).toInt8.toInt32))]))
  refine own_to (fun t k => XS.l2i X0.here hx rfl (hb hby own_d4_32) rfl k) ?_
  show own_Fin _ _ _ _ _ _ (s₁.setTop (mkF m 33 #[.val (.ref a1), .val (.int (24 : Int32)), .val (.long q1), .second] [(.int (((q1.toUInt64 >>> ((16 : Int32) &&& 0x3f).toInt64.toUInt64).toInt64).toInt32)), (.int ((((q1.toUInt64 >>> ((16 : Int32) &&& 0x3f).toInt64.toUInt64).toInt64).toInt32).toInt8.toInt32))]))
  refine own_to (fun t k => XS.i2b X0.here hx rfl (hb hby own_d4_33) rfl k) ?_
  show own_Fin _ _ _ _ _ _ (s₁.setTop (mkF m 34 #[.val (.ref a1), .val (.int (24 : Int32)), .val (.long q1), .second] [(.int ((((q1.toUInt64 >>> ((16 : Int32) &&& 0x3f).toInt64.toUInt64).toInt64).toInt32).toInt8.toInt32)), (.int ((((q1.toUInt64 >>> ((16 : Int32) &&& 0x3f).toInt64.toUInt64).toInt64).toInt32).toInt8.toInt32))]))
  refine own_to (fun t k => XS.icmpNo X0.here hx rfl (hb hby own_d4_34) rfl (teq rfl).2 k) ?_
  show own_Fin _ _ _ _ _ _ (s₁.setTop (mkF m 37 #[.val (.ref a1), .val (.int (24 : Int32)), .val (.long q1), .second] []))
  refine own_to (fun t k => XS.aloadN X0.here hx rfl (hb hby own_d4_37) rfl rfl k) ?_
  show own_Fin _ _ _ _ _ _ (s₁.setTop (mkF m 38 #[.val (.ref a1), .val (.int (24 : Int32)), .val (.long q1), .second] [(.ref a1)]))
  refine own_to (fun t k => XS.iloadN X0.here hx rfl (hb hby own_d4_38) rfl k) ?_
  show own_Fin _ _ _ _ _ _ (s₁.setTop (mkF m 39 #[.val (.ref a1), .val (.int (24 : Int32)), .val (.long q1), .second] [(.int (24 : Int32)), (.ref a1)]))
  refine own_to (fun t k => XS.iconst X0.here hx rfl (hb hby own_d4_39) k) ?_
  show own_Fin _ _ _ _ _ _ (s₁.setTop (mkF m 40 #[.val (.ref a1), .val (.int (24 : Int32)), .val (.long q1), .second] [(.int (3 : Int32)), (.int (24 : Int32)), (.ref a1)]))
  refine own_to (fun t k => XS.iadd X0.here hx rfl (hb hby own_d4_40) rfl k) ?_
  show own_Fin _ _ _ _ _ _ (s₁.setTop (mkF m 41 #[.val (.ref a1), .val (.int (24 : Int32)), .val (.long q1), .second] [(.int (27 : Int32)), (.ref a1)]))
  obtain ⟨cl151, Ar151, qa151, Sa151, Na151, Ha151, Ga151⟩ := id V1
  have hin152 : ¬ ((27 : Int32) < 0 ∨ cl151.slots.size ≤ ((27 : Int32)).toNatClampNeg) := inb_of Sa151 ⟨by decide, by decide⟩
  refine own_to (fun t k => X0.baloadBytes hx (j := (27 : Int32)) (v := (.int ((((q1.toUInt64 >>> ((24 : Int32) &&& 0x3f).toInt64.toUInt64).toInt64).toInt32).toInt8.toInt32))) (by rw [e0]; exact Ar151.1) (State.isArrayOf_alike hZ.alike Ar151.2.1) Ar151.2.2 hin152 (Has.at Ha151 hin152 hv3) (g := (mkF m 41 #[.val (.ref a1), .val (.int (24 : Int32)), .val (.long q1), .second] [(.int (27 : Int32)), (.ref a1)])) rfl rfl (hb hby own_d4_41) _ k) ?_
  show own_Fin _ _ _ _ _ _ (s₁.setTop (mkF m 42 #[.val (.ref a1), .val (.int (24 : Int32)), .val (.long q1), .second] [(.int ((((q1.toUInt64 >>> ((24 : Int32) &&& 0x3f).toInt64.toUInt64).toInt64).toInt32).toInt8.toInt32))]))
  refine own_to (fun t k => XS.lloadN X0.here hx rfl (hb hby own_d4_42) rfl k) ?_
  show own_Fin _ _ _ _ _ _ (s₁.setTop (mkF m 43 #[.val (.ref a1), .val (.int (24 : Int32)), .val (.long q1), .second] [(.long q1), (.int ((((q1.toUInt64 >>> ((24 : Int32) &&& 0x3f).toInt64.toUInt64).toInt64).toInt32).toInt8.toInt32))]))
  refine own_to (fun t k => XS.bipush X0.here hx rfl (hb hby own_d4_43) k) ?_
  show own_Fin _ _ _ _ _ _ (s₁.setTop (mkF m 45 #[.val (.ref a1), .val (.int (24 : Int32)), .val (.long q1), .second] [(.int (24 : Int32)), (.long q1), (.int ((((q1.toUInt64 >>> ((24 : Int32) &&& 0x3f).toInt64.toUInt64).toInt64).toInt32).toInt8.toInt32))]))
  refine own_to (fun t k => XS.lushr X0.here hx rfl (hb hby own_d4_45) rfl k) ?_
  show own_Fin _ _ _ _ _ _ (s₁.setTop (mkF m 46 #[.val (.ref a1), .val (.int (24 : Int32)), .val (.long q1), .second] [(.long ((q1.toUInt64 >>> ((24 : Int32) &&& 0x3f).toInt64.toUInt64).toInt64)), (.int ((((q1.toUInt64 >>> ((24 : Int32) &&& 0x3f).toInt64.toUInt64).toInt64).toInt32).toInt8.toInt32))]))
  refine own_to (fun t k => XS.l2i X0.here hx rfl (hb hby own_d4_46) rfl k) ?_
  show own_Fin _ _ _ _ _ _ (s₁.setTop (mkF m 47 #[.val (.ref a1), .val (.int (24 : Int32)), .val (.long q1), .second] [(.int (((q1.toUInt64 >>> ((24 : Int32) &&& 0x3f).toInt64.toUInt64).toInt64).toInt32)), (.int ((((q1.toUInt64 >>> ((24 : Int32) &&& 0x3f).toInt64.toUInt64).toInt64).toInt32).toInt8.toInt32))]))
  refine own_to (fun t k => XS.i2b X0.here hx rfl (hb hby own_d4_47) rfl k) ?_
  show own_Fin _ _ _ _ _ _ (s₁.setTop (mkF m 48 #[.val (.ref a1), .val (.int (24 : Int32)), .val (.long q1), .second] [(.int ((((q1.toUInt64 >>> ((24 : Int32) &&& 0x3f).toInt64.toUInt64).toInt64).toInt32).toInt8.toInt32)), (.int ((((q1.toUInt64 >>> ((24 : Int32) &&& 0x3f).toInt64.toUInt64).toInt64).toInt32).toInt8.toInt32))]))
  refine own_to (fun t k => XS.icmpNo X0.here hx rfl (hb hby own_d4_48) rfl (teq rfl).2 k) ?_
  show own_Fin _ _ _ _ _ _ (s₁.setTop (mkF m 51 #[.val (.ref a1), .val (.int (24 : Int32)), .val (.long q1), .second] []))
  refine own_to (fun t k => XS.aloadN X0.here hx rfl (hb hby own_d4_51) rfl rfl k) ?_
  show own_Fin _ _ _ _ _ _ (s₁.setTop (mkF m 52 #[.val (.ref a1), .val (.int (24 : Int32)), .val (.long q1), .second] [(.ref a1)]))
  refine own_to (fun t k => XS.iloadN X0.here hx rfl (hb hby own_d4_52) rfl k) ?_
  show own_Fin _ _ _ _ _ _ (s₁.setTop (mkF m 53 #[.val (.ref a1), .val (.int (24 : Int32)), .val (.long q1), .second] [(.int (24 : Int32)), (.ref a1)]))
  refine own_to (fun t k => XS.iconst X0.here hx rfl (hb hby own_d4_53) k) ?_
  show own_Fin _ _ _ _ _ _ (s₁.setTop (mkF m 54 #[.val (.ref a1), .val (.int (24 : Int32)), .val (.long q1), .second] [(.int (4 : Int32)), (.int (24 : Int32)), (.ref a1)]))
  refine own_to (fun t k => XS.iadd X0.here hx rfl (hb hby own_d4_54) rfl k) ?_
  show own_Fin _ _ _ _ _ _ (s₁.setTop (mkF m 55 #[.val (.ref a1), .val (.int (24 : Int32)), .val (.long q1), .second] [(.int (28 : Int32)), (.ref a1)]))
  obtain ⟨cl153, Ar153, qa153, Sa153, Na153, Ha153, Ga153⟩ := id V1
  have hin154 : ¬ ((28 : Int32) < 0 ∨ cl153.slots.size ≤ ((28 : Int32)).toNatClampNeg) := inb_of Sa153 ⟨by decide, by decide⟩
  refine own_to (fun t k => X0.baloadBytes hx (j := (28 : Int32)) (v := (.int ((((q1.toUInt64 >>> ((32 : Int32) &&& 0x3f).toInt64.toUInt64).toInt64).toInt32).toInt8.toInt32))) (by rw [e0]; exact Ar153.1) (State.isArrayOf_alike hZ.alike Ar153.2.1) Ar153.2.2 hin154 (Has.at Ha153 hin154 hv4) (g := (mkF m 55 #[.val (.ref a1), .val (.int (24 : Int32)), .val (.long q1), .second] [(.int (28 : Int32)), (.ref a1)])) rfl rfl (hb hby own_d4_55) _ k) ?_
  show own_Fin _ _ _ _ _ _ (s₁.setTop (mkF m 56 #[.val (.ref a1), .val (.int (24 : Int32)), .val (.long q1), .second] [(.int ((((q1.toUInt64 >>> ((32 : Int32) &&& 0x3f).toInt64.toUInt64).toInt64).toInt32).toInt8.toInt32))]))
  refine own_to (fun t k => XS.lloadN X0.here hx rfl (hb hby own_d4_56) rfl k) ?_
  show own_Fin _ _ _ _ _ _ (s₁.setTop (mkF m 57 #[.val (.ref a1), .val (.int (24 : Int32)), .val (.long q1), .second] [(.long q1), (.int ((((q1.toUInt64 >>> ((32 : Int32) &&& 0x3f).toInt64.toUInt64).toInt64).toInt32).toInt8.toInt32))]))
  refine own_to (fun t k => XS.bipush X0.here hx rfl (hb hby own_d4_57) k) ?_
  show own_Fin _ _ _ _ _ _ (s₁.setTop (mkF m 59 #[.val (.ref a1), .val (.int (24 : Int32)), .val (.long q1), .second] [(.int (32 : Int32)), (.long q1), (.int ((((q1.toUInt64 >>> ((32 : Int32) &&& 0x3f).toInt64.toUInt64).toInt64).toInt32).toInt8.toInt32))]))
  refine own_to (fun t k => XS.lushr X0.here hx rfl (hb hby own_d4_59) rfl k) ?_
  show own_Fin _ _ _ _ _ _ (s₁.setTop (mkF m 60 #[.val (.ref a1), .val (.int (24 : Int32)), .val (.long q1), .second] [(.long ((q1.toUInt64 >>> ((32 : Int32) &&& 0x3f).toInt64.toUInt64).toInt64)), (.int ((((q1.toUInt64 >>> ((32 : Int32) &&& 0x3f).toInt64.toUInt64).toInt64).toInt32).toInt8.toInt32))]))
  refine own_to (fun t k => XS.l2i X0.here hx rfl (hb hby own_d4_60) rfl k) ?_
  show own_Fin _ _ _ _ _ _ (s₁.setTop (mkF m 61 #[.val (.ref a1), .val (.int (24 : Int32)), .val (.long q1), .second] [(.int (((q1.toUInt64 >>> ((32 : Int32) &&& 0x3f).toInt64.toUInt64).toInt64).toInt32)), (.int ((((q1.toUInt64 >>> ((32 : Int32) &&& 0x3f).toInt64.toUInt64).toInt64).toInt32).toInt8.toInt32))]))
  refine own_to (fun t k => XS.i2b X0.here hx rfl (hb hby own_d4_61) rfl k) ?_
  show own_Fin _ _ _ _ _ _ (s₁.setTop (mkF m 62 #[.val (.ref a1), .val (.int (24 : Int32)), .val (.long q1), .second] [(.int ((((q1.toUInt64 >>> ((32 : Int32) &&& 0x3f).toInt64.toUInt64).toInt64).toInt32).toInt8.toInt32)), (.int ((((q1.toUInt64 >>> ((32 : Int32) &&& 0x3f).toInt64.toUInt64).toInt64).toInt32).toInt8.toInt32))]))
  refine own_to (fun t k => XS.icmpNo X0.here hx rfl (hb hby own_d4_62) rfl (teq rfl).2 k) ?_
  show own_Fin _ _ _ _ _ _ (s₁.setTop (mkF m 65 #[.val (.ref a1), .val (.int (24 : Int32)), .val (.long q1), .second] []))
  refine own_to (fun t k => XS.aloadN X0.here hx rfl (hb hby own_d4_65) rfl rfl k) ?_
  show own_Fin _ _ _ _ _ _ (s₁.setTop (mkF m 66 #[.val (.ref a1), .val (.int (24 : Int32)), .val (.long q1), .second] [(.ref a1)]))
  refine own_to (fun t k => XS.iloadN X0.here hx rfl (hb hby own_d4_66) rfl k) ?_
  show own_Fin _ _ _ _ _ _ (s₁.setTop (mkF m 67 #[.val (.ref a1), .val (.int (24 : Int32)), .val (.long q1), .second] [(.int (24 : Int32)), (.ref a1)]))
  refine own_to (fun t k => XS.iconst X0.here hx rfl (hb hby own_d4_67) k) ?_
  show own_Fin _ _ _ _ _ _ (s₁.setTop (mkF m 68 #[.val (.ref a1), .val (.int (24 : Int32)), .val (.long q1), .second] [(.int (5 : Int32)), (.int (24 : Int32)), (.ref a1)]))
  refine own_to (fun t k => XS.iadd X0.here hx rfl (hb hby own_d4_68) rfl k) ?_
  show own_Fin _ _ _ _ _ _ (s₁.setTop (mkF m 69 #[.val (.ref a1), .val (.int (24 : Int32)), .val (.long q1), .second] [(.int (29 : Int32)), (.ref a1)]))
  obtain ⟨cl155, Ar155, qa155, Sa155, Na155, Ha155, Ga155⟩ := id V1
  have hin156 : ¬ ((29 : Int32) < 0 ∨ cl155.slots.size ≤ ((29 : Int32)).toNatClampNeg) := inb_of Sa155 ⟨by decide, by decide⟩
  refine own_to (fun t k => X0.baloadBytes hx (j := (29 : Int32)) (v := (.int ((((q1.toUInt64 >>> ((40 : Int32) &&& 0x3f).toInt64.toUInt64).toInt64).toInt32).toInt8.toInt32))) (by rw [e0]; exact Ar155.1) (State.isArrayOf_alike hZ.alike Ar155.2.1) Ar155.2.2 hin156 (Has.at Ha155 hin156 hv5) (g := (mkF m 69 #[.val (.ref a1), .val (.int (24 : Int32)), .val (.long q1), .second] [(.int (29 : Int32)), (.ref a1)])) rfl rfl (hb hby own_d4_69) _ k) ?_
  show own_Fin _ _ _ _ _ _ (s₁.setTop (mkF m 70 #[.val (.ref a1), .val (.int (24 : Int32)), .val (.long q1), .second] [(.int ((((q1.toUInt64 >>> ((40 : Int32) &&& 0x3f).toInt64.toUInt64).toInt64).toInt32).toInt8.toInt32))]))
  refine own_to (fun t k => XS.lloadN X0.here hx rfl (hb hby own_d4_70) rfl k) ?_
  show own_Fin _ _ _ _ _ _ (s₁.setTop (mkF m 71 #[.val (.ref a1), .val (.int (24 : Int32)), .val (.long q1), .second] [(.long q1), (.int ((((q1.toUInt64 >>> ((40 : Int32) &&& 0x3f).toInt64.toUInt64).toInt64).toInt32).toInt8.toInt32))]))
  refine own_to (fun t k => XS.bipush X0.here hx rfl (hb hby own_d4_71) k) ?_
  show own_Fin _ _ _ _ _ _ (s₁.setTop (mkF m 73 #[.val (.ref a1), .val (.int (24 : Int32)), .val (.long q1), .second] [(.int (40 : Int32)), (.long q1), (.int ((((q1.toUInt64 >>> ((40 : Int32) &&& 0x3f).toInt64.toUInt64).toInt64).toInt32).toInt8.toInt32))]))
  refine own_to (fun t k => XS.lushr X0.here hx rfl (hb hby own_d4_73) rfl k) ?_
  show own_Fin _ _ _ _ _ _ (s₁.setTop (mkF m 74 #[.val (.ref a1), .val (.int (24 : Int32)), .val (.long q1), .second] [(.long ((q1.toUInt64 >>> ((40 : Int32) &&& 0x3f).toInt64.toUInt64).toInt64)), (.int ((((q1.toUInt64 >>> ((40 : Int32) &&& 0x3f).toInt64.toUInt64).toInt64).toInt32).toInt8.toInt32))]))
  refine own_to (fun t k => XS.l2i X0.here hx rfl (hb hby own_d4_74) rfl k) ?_
  show own_Fin _ _ _ _ _ _ (s₁.setTop (mkF m 75 #[.val (.ref a1), .val (.int (24 : Int32)), .val (.long q1), .second] [(.int (((q1.toUInt64 >>> ((40 : Int32) &&& 0x3f).toInt64.toUInt64).toInt64).toInt32)), (.int ((((q1.toUInt64 >>> ((40 : Int32) &&& 0x3f).toInt64.toUInt64).toInt64).toInt32).toInt8.toInt32))]))
  refine own_to (fun t k => XS.i2b X0.here hx rfl (hb hby own_d4_75) rfl k) ?_
  show own_Fin _ _ _ _ _ _ (s₁.setTop (mkF m 76 #[.val (.ref a1), .val (.int (24 : Int32)), .val (.long q1), .second] [(.int ((((q1.toUInt64 >>> ((40 : Int32) &&& 0x3f).toInt64.toUInt64).toInt64).toInt32).toInt8.toInt32)), (.int ((((q1.toUInt64 >>> ((40 : Int32) &&& 0x3f).toInt64.toUInt64).toInt64).toInt32).toInt8.toInt32))]))
  refine own_to (fun t k => XS.icmpNo X0.here hx rfl (hb hby own_d4_76) rfl (teq rfl).2 k) ?_
  show own_Fin _ _ _ _ _ _ (s₁.setTop (mkF m 79 #[.val (.ref a1), .val (.int (24 : Int32)), .val (.long q1), .second] []))
  refine own_to (fun t k => XS.aloadN X0.here hx rfl (hb hby own_d4_79) rfl rfl k) ?_
  show own_Fin _ _ _ _ _ _ (s₁.setTop (mkF m 80 #[.val (.ref a1), .val (.int (24 : Int32)), .val (.long q1), .second] [(.ref a1)]))
  refine own_to (fun t k => XS.iloadN X0.here hx rfl (hb hby own_d4_80) rfl k) ?_
  show own_Fin _ _ _ _ _ _ (s₁.setTop (mkF m 81 #[.val (.ref a1), .val (.int (24 : Int32)), .val (.long q1), .second] [(.int (24 : Int32)), (.ref a1)]))
  refine own_to (fun t k => XS.bipush X0.here hx rfl (hb hby own_d4_81) k) ?_
  show own_Fin _ _ _ _ _ _ (s₁.setTop (mkF m 83 #[.val (.ref a1), .val (.int (24 : Int32)), .val (.long q1), .second] [(.int (6 : Int32)), (.int (24 : Int32)), (.ref a1)]))
  refine own_to (fun t k => XS.iadd X0.here hx rfl (hb hby own_d4_83) rfl k) ?_
  show own_Fin _ _ _ _ _ _ (s₁.setTop (mkF m 84 #[.val (.ref a1), .val (.int (24 : Int32)), .val (.long q1), .second] [(.int (30 : Int32)), (.ref a1)]))
  obtain ⟨cl157, Ar157, qa157, Sa157, Na157, Ha157, Ga157⟩ := id V1
  have hin158 : ¬ ((30 : Int32) < 0 ∨ cl157.slots.size ≤ ((30 : Int32)).toNatClampNeg) := inb_of Sa157 ⟨by decide, by decide⟩
  refine own_to (fun t k => X0.baloadBytes hx (j := (30 : Int32)) (v := (.int ((((q1.toUInt64 >>> ((48 : Int32) &&& 0x3f).toInt64.toUInt64).toInt64).toInt32).toInt8.toInt32))) (by rw [e0]; exact Ar157.1) (State.isArrayOf_alike hZ.alike Ar157.2.1) Ar157.2.2 hin158 (Has.at Ha157 hin158 hv6) (g := (mkF m 84 #[.val (.ref a1), .val (.int (24 : Int32)), .val (.long q1), .second] [(.int (30 : Int32)), (.ref a1)])) rfl rfl (hb hby own_d4_84) _ k) ?_
  show own_Fin _ _ _ _ _ _ (s₁.setTop (mkF m 85 #[.val (.ref a1), .val (.int (24 : Int32)), .val (.long q1), .second] [(.int ((((q1.toUInt64 >>> ((48 : Int32) &&& 0x3f).toInt64.toUInt64).toInt64).toInt32).toInt8.toInt32))]))
  refine own_to (fun t k => XS.lloadN X0.here hx rfl (hb hby own_d4_85) rfl k) ?_
  show own_Fin _ _ _ _ _ _ (s₁.setTop (mkF m 86 #[.val (.ref a1), .val (.int (24 : Int32)), .val (.long q1), .second] [(.long q1), (.int ((((q1.toUInt64 >>> ((48 : Int32) &&& 0x3f).toInt64.toUInt64).toInt64).toInt32).toInt8.toInt32))]))
  refine own_to (fun t k => XS.bipush X0.here hx rfl (hb hby own_d4_86) k) ?_
  show own_Fin _ _ _ _ _ _ (s₁.setTop (mkF m 88 #[.val (.ref a1), .val (.int (24 : Int32)), .val (.long q1), .second] [(.int (48 : Int32)), (.long q1), (.int ((((q1.toUInt64 >>> ((48 : Int32) &&& 0x3f).toInt64.toUInt64).toInt64).toInt32).toInt8.toInt32))]))
  refine own_to (fun t k => XS.lushr X0.here hx rfl (hb hby own_d4_88) rfl k) ?_
  show own_Fin _ _ _ _ _ _ (s₁.setTop (mkF m 89 #[.val (.ref a1), .val (.int (24 : Int32)), .val (.long q1), .second] [(.long ((q1.toUInt64 >>> ((48 : Int32) &&& 0x3f).toInt64.toUInt64).toInt64)), (.int ((((q1.toUInt64 >>> ((48 : Int32) &&& 0x3f).toInt64.toUInt64).toInt64).toInt32).toInt8.toInt32))]))
  refine own_to (fun t k => XS.l2i X0.here hx rfl (hb hby own_d4_89) rfl k) ?_
  show own_Fin _ _ _ _ _ _ (s₁.setTop (mkF m 90 #[.val (.ref a1), .val (.int (24 : Int32)), .val (.long q1), .second] [(.int (((q1.toUInt64 >>> ((48 : Int32) &&& 0x3f).toInt64.toUInt64).toInt64).toInt32)), (.int ((((q1.toUInt64 >>> ((48 : Int32) &&& 0x3f).toInt64.toUInt64).toInt64).toInt32).toInt8.toInt32))]))
  refine own_to (fun t k => XS.i2b X0.here hx rfl (hb hby own_d4_90) rfl k) ?_
  show own_Fin _ _ _ _ _ _ (s₁.setTop (mkF m 91 #[.val (.ref a1), .val (.int (24 : Int32)), .val (.long q1), .second] [(.int ((((q1.toUInt64 >>> ((48 : Int32) &&& 0x3f).toInt64.toUInt64).toInt64).toInt32).toInt8.toInt32)), (.int ((((q1.toUInt64 >>> ((48 : Int32) &&& 0x3f).toInt64.toUInt64).toInt64).toInt32).toInt8.toInt32))]))
  refine own_to (fun t k => XS.icmpNo X0.here hx rfl (hb hby own_d4_91) rfl (teq rfl).2 k) ?_
  show own_Fin _ _ _ _ _ _ (s₁.setTop (mkF m 94 #[.val (.ref a1), .val (.int (24 : Int32)), .val (.long q1), .second] []))
  refine own_to (fun t k => XS.aloadN X0.here hx rfl (hb hby own_d4_94) rfl rfl k) ?_
  show own_Fin _ _ _ _ _ _ (s₁.setTop (mkF m 95 #[.val (.ref a1), .val (.int (24 : Int32)), .val (.long q1), .second] [(.ref a1)]))
  refine own_to (fun t k => XS.iloadN X0.here hx rfl (hb hby own_d4_95) rfl k) ?_
  show own_Fin _ _ _ _ _ _ (s₁.setTop (mkF m 96 #[.val (.ref a1), .val (.int (24 : Int32)), .val (.long q1), .second] [(.int (24 : Int32)), (.ref a1)]))
  refine own_to (fun t k => XS.bipush X0.here hx rfl (hb hby own_d4_96) k) ?_
  show own_Fin _ _ _ _ _ _ (s₁.setTop (mkF m 98 #[.val (.ref a1), .val (.int (24 : Int32)), .val (.long q1), .second] [(.int (7 : Int32)), (.int (24 : Int32)), (.ref a1)]))
  refine own_to (fun t k => XS.iadd X0.here hx rfl (hb hby own_d4_98) rfl k) ?_
  show own_Fin _ _ _ _ _ _ (s₁.setTop (mkF m 99 #[.val (.ref a1), .val (.int (24 : Int32)), .val (.long q1), .second] [(.int (31 : Int32)), (.ref a1)]))
  obtain ⟨cl159, Ar159, qa159, Sa159, Na159, Ha159, Ga159⟩ := id V1
  have hin160 : ¬ ((31 : Int32) < 0 ∨ cl159.slots.size ≤ ((31 : Int32)).toNatClampNeg) := inb_of Sa159 ⟨by decide, by decide⟩
  refine own_to (fun t k => X0.baloadBytes hx (j := (31 : Int32)) (v := (.int ((((q1.toUInt64 >>> ((56 : Int32) &&& 0x3f).toInt64.toUInt64).toInt64).toInt32).toInt8.toInt32))) (by rw [e0]; exact Ar159.1) (State.isArrayOf_alike hZ.alike Ar159.2.1) Ar159.2.2 hin160 (Has.at Ha159 hin160 hv7) (g := (mkF m 99 #[.val (.ref a1), .val (.int (24 : Int32)), .val (.long q1), .second] [(.int (31 : Int32)), (.ref a1)])) rfl rfl (hb hby own_d4_99) _ k) ?_
  show own_Fin _ _ _ _ _ _ (s₁.setTop (mkF m 100 #[.val (.ref a1), .val (.int (24 : Int32)), .val (.long q1), .second] [(.int ((((q1.toUInt64 >>> ((56 : Int32) &&& 0x3f).toInt64.toUInt64).toInt64).toInt32).toInt8.toInt32))]))
  refine own_to (fun t k => XS.lloadN X0.here hx rfl (hb hby own_d4_100) rfl k) ?_
  show own_Fin _ _ _ _ _ _ (s₁.setTop (mkF m 101 #[.val (.ref a1), .val (.int (24 : Int32)), .val (.long q1), .second] [(.long q1), (.int ((((q1.toUInt64 >>> ((56 : Int32) &&& 0x3f).toInt64.toUInt64).toInt64).toInt32).toInt8.toInt32))]))
  refine own_to (fun t k => XS.bipush X0.here hx rfl (hb hby own_d4_101) k) ?_
  show own_Fin _ _ _ _ _ _ (s₁.setTop (mkF m 103 #[.val (.ref a1), .val (.int (24 : Int32)), .val (.long q1), .second] [(.int (56 : Int32)), (.long q1), (.int ((((q1.toUInt64 >>> ((56 : Int32) &&& 0x3f).toInt64.toUInt64).toInt64).toInt32).toInt8.toInt32))]))
  refine own_to (fun t k => XS.lushr X0.here hx rfl (hb hby own_d4_103) rfl k) ?_
  show own_Fin _ _ _ _ _ _ (s₁.setTop (mkF m 104 #[.val (.ref a1), .val (.int (24 : Int32)), .val (.long q1), .second] [(.long ((q1.toUInt64 >>> ((56 : Int32) &&& 0x3f).toInt64.toUInt64).toInt64)), (.int ((((q1.toUInt64 >>> ((56 : Int32) &&& 0x3f).toInt64.toUInt64).toInt64).toInt32).toInt8.toInt32))]))
  refine own_to (fun t k => XS.l2i X0.here hx rfl (hb hby own_d4_104) rfl k) ?_
  show own_Fin _ _ _ _ _ _ (s₁.setTop (mkF m 105 #[.val (.ref a1), .val (.int (24 : Int32)), .val (.long q1), .second] [(.int (((q1.toUInt64 >>> ((56 : Int32) &&& 0x3f).toInt64.toUInt64).toInt64).toInt32)), (.int ((((q1.toUInt64 >>> ((56 : Int32) &&& 0x3f).toInt64.toUInt64).toInt64).toInt32).toInt8.toInt32))]))
  refine own_to (fun t k => XS.i2b X0.here hx rfl (hb hby own_d4_105) rfl k) ?_
  show own_Fin _ _ _ _ _ _ (s₁.setTop (mkF m 106 #[.val (.ref a1), .val (.int (24 : Int32)), .val (.long q1), .second] [(.int ((((q1.toUInt64 >>> ((56 : Int32) &&& 0x3f).toInt64.toUInt64).toInt64).toInt32).toInt8.toInt32)), (.int ((((q1.toUInt64 >>> ((56 : Int32) &&& 0x3f).toInt64.toUInt64).toInt64).toInt32).toInt8.toInt32))]))
  refine own_to (fun t k => XS.icmpNo X0.here hx rfl (hb hby own_d4_106) rfl (teq rfl).2 k) ?_
  show own_Fin _ _ _ _ _ _ (s₁.setTop (mkF m 109 #[.val (.ref a1), .val (.int (24 : Int32)), .val (.long q1), .second] []))
  refine own_to (fun t k => XS.iconst X0.here hx rfl (hb hby own_d4_109) k) ?_
  show own_Fin _ _ _ _ _ _ (s₁.setTop (mkF m 110 #[.val (.ref a1), .val (.int (24 : Int32)), .val (.long q1), .second] [(.int (1 : Int32))]))
  refine own_to (fun t k => XS.goto X0.here hx rfl (pc0 := 110) (pc' := 114) rfl (hb hby own_d4_110) (by decide) (by decide) k) ?_
  show own_Fin _ _ _ _ _ _ (s₁.setTop (mkF m 114 #[.val (.ref a1), .val (.int (24 : Int32)), .val (.long q1), .second] [(.int (1 : Int32))]))
  refine own_retN X0 hx hlk (t := .boolean) hret (by simp) (hb hby own_d4_114) (by decide) (by decide) ?_
  try rw [e0]
  exact ⟨rfl, N0, rfl⟩
theorem own_d3_0 : decode jdk_31_method_11_code 0 = .ok (.aload_n 0, 1) := by decide +kernel
theorem own_d3_1 : decode jdk_31_method_11_code 1 = .ok (.ifnonnull 12, 3) := by decide +kernel
theorem own_d3_4 : decode jdk_31_method_11_code 4 = .ok (.new 84, 3) := by decide +kernel
theorem own_d3_7 : decode jdk_31_method_11_code 7 = .ok (.dup, 1) := by decide +kernel
theorem own_d3_8 : decode jdk_31_method_11_code 8 = .ok (.aload_n 1, 1) := by decide +kernel
theorem own_d3_9 : decode jdk_31_method_11_code 9 = .ok (.invokespecial 87, 3) := by decide +kernel
theorem own_d3_12 : decode jdk_31_method_11_code 12 = .ok (.athrow, 1) := by decide +kernel
theorem own_d3_13 : decode jdk_31_method_11_code 13 = .ok (.aload_n 0, 1) := by decide +kernel
theorem own_d3_14 : decode jdk_31_method_11_code 14 = .ok (.areturn, 1) := by decide +kernel
theorem own_pn1 : plainName "java/util/Objects" = true := by first | (simp [plainName, overriddenIn]; done) | decide +kernel
theorem own_rm3_ef (m : MethodId) (a1 : Addr) (a2 : Addr) : entryFrame m #[(.ref a1), (.ref a2)] 2 = mkF m 0 #[.val (.ref a1), .val (.ref a2)] [] := by first | (simp [entryFrame, mkF, argsToLocals, Value.category]; done) | rfl
set_option maxRecDepth 65536 in
set_option maxHeartbeats 40000000 in
theorem own_rm3 (l : Launch) (Z : State) (a0 : Array Value) (hw : ∀ d ∈ tables_1, d.before a0 Z = true) (ws : List Jvm.Cond) (a1 : Addr) (a2 : Addr) (h0 : Heap) (n0 : Nat) (Z0 : n0 ≤ h0.size) :
    own_Met l Z (⟨"java/util/Objects", "requireNonNull", "(Ljava/lang/Object;Ljava/lang/String;)Ljava/lang/Object;"⟩ : MethodName) jdk_31_method_11_code 2 (some (.object "java/lang/Object")) ws ({ frames := 0, cells := 0, slots := 0, locals := 0 } : Room) #[(.ref a1), (.ref a2)] h0 (fun v h L => v = some (.ref a1) ∧ Fr n0 L ∧ h = h0) := by
  refine own_enter (plainFor_of_name own_pn1) ?_
  intro p e s m below meth c s₁ X0 hx hZ hby hml hown hnm hret hlk e0
  have N0 := Fr.nil n0
  rw [own_rm3_ef m a1 a2]
  show own_Fin _ _ _ _ _ _ (s₁.setTop (mkF m 0 #[.val (.ref a1), .val (.ref a2)] []))
  refine own_to (fun t k => XS.aloadN X0.here hx rfl (hb hby own_d3_0) rfl rfl k) ?_
  show own_Fin _ _ _ _ _ _ (s₁.setTop (mkF m 1 #[.val (.ref a1), .val (.ref a2)] [(.ref a1)]))
  refine own_to (fun t k => XS.ifnonnullYes X0.here hx rfl (pc0 := 1) (pc' := 13) rfl (hb hby own_d3_1) rfl (by decide) (by decide) k) ?_
  show own_Fin _ _ _ _ _ _ (s₁.setTop (mkF m 13 #[.val (.ref a1), .val (.ref a2)] []))
  refine own_to (fun t k => XS.aloadN X0.here hx rfl (hb hby own_d3_13) rfl rfl k) ?_
  show own_Fin _ _ _ _ _ _ (s₁.setTop (mkF m 14 #[.val (.ref a1), .val (.ref a2)] [(.ref a1)]))
  refine own_retR X0 hx hlk hret rfl rfl rfl (hb hby own_d3_14) (by decide) (by decide) ?_
  try rw [e0]
  exact ⟨rfl, N0, rfl⟩
theorem own_d2_0 : decode prog_17_method_3_code 0 = .ok (.aload_n 0, 1) := by decide +kernel
theorem own_d2_1 : decode prog_17_method_3_code 1 = .ok (.ldc 25, 2) := by decide +kernel
theorem own_d2_3 : decode prog_17_method_3_code 3 = .ok (.invokestatic 26, 3) := by decide +kernel
theorem own_d2_6 : decode prog_17_method_3_code 6 = .ok (.pop, 1) := by decide +kernel
theorem own_d2_7 : decode prog_17_method_3_code 7 = .ok (.aload_n 0, 1) := by decide +kernel
theorem own_d2_8 : decode prog_17_method_3_code 8 = .ok (.arraylength, 1) := by decide +kernel
theorem own_d2_9 : decode prog_17_method_3_code 9 = .ok (.bipush 32, 2) := by decide +kernel
theorem own_d2_11 : decode prog_17_method_3_code 11 = .ok (.if_icmp .eq 18, 3) := by decide +kernel
theorem own_d2_14 : decode prog_17_method_3_code 14 = .ok (.new 32, 3) := by decide +kernel
theorem own_d2_17 : decode prog_17_method_3_code 17 = .ok (.dup, 1) := by decide +kernel
theorem own_d2_18 : decode prog_17_method_3_code 18 = .ok (.aload_n 0, 1) := by decide +kernel
theorem own_d2_19 : decode prog_17_method_3_code 19 = .ok (.arraylength, 1) := by decide +kernel
theorem own_d2_25 : decode prog_17_method_3_code 25 = .ok (.invokespecial 38, 3) := by decide +kernel
theorem own_d2_28 : decode prog_17_method_3_code 28 = .ok (.athrow, 1) := by decide +kernel
theorem own_d2_29 : decode prog_17_method_3_code 29 = .ok (.aload_n 0, 1) := by decide +kernel
theorem own_d2_30 : decode prog_17_method_3_code 30 = .ok (.invokevirtual 41, 3) := by decide +kernel
theorem own_d2_33 : decode prog_17_method_3_code 33 = .ok (.checkcast 42, 3) := by decide +kernel
theorem own_d2_36 : decode prog_17_method_3_code 36 = .ok (.areturn, 1) := by decide +kernel
theorem own_pn2 : plainName "com/example/nuthatch/nuthatch/engine/Sha256" = true := by first | (simp [plainName, overriddenIn]; done) | decide +kernel
theorem own_pd0 : parseMethodDescriptor "(Ljava/lang/Object;Ljava/lang/String;)Ljava/lang/Object;" = some ⟨[(.object "java/lang/Object"), (.object "java/lang/String")], some (.object "java/lang/Object")⟩ := by decide +kernel
theorem own_pd1 : parseMethodDescriptor "()Ljava/lang/Object;" = some ⟨[], some (.object "java/lang/Object")⟩ := by decide +kernel
theorem own_rm2_ef (m : MethodId) (a1 : Addr) : entryFrame m #[(.ref a1)] 1 = mkF m 0 #[.val (.ref a1)] [] := by first | (simp [entryFrame, mkF, argsToLocals, Value.category]; done) | rfl
set_option maxRecDepth 65536 in
set_option maxHeartbeats 40000000 in
theorem own_rm2 (l : Launch) (Z : State) (a0 : Array Value) (hw : ∀ d ∈ tables_1, d.before a0 Z = true) (ws : List Jvm.Cond) (a1 : Addr) (k : ClassId) (vs : List Value) (h0 : Heap) (n0 : Nat) (Z0 : n0 ≤ h0.size) (V1 : Arv Z h0 a1 k .byte (32 : Int32) vs (.int (0 : Int32))) (E1 : Exa Z h0 a1 "[B") :
    own_MetW l Z (⟨"com/example/nuthatch/nuthatch/engine/Sha256", "requireDigest", "([B)[B"⟩ : MethodName) prog_17_method_3_code 1 (some (.array .byte)) ws ({ frames := 2, cells := 3, slots := 60, locals := 48 } : Room) #[(.ref a1)] h0 (fun v h L => ∃ d, v = some (.ref d) ∧ Fr n0 L ∧ Keep h0 h [] ∧ n0 ≤ d ∧ h0.size ≤ d ∧ Arv Z h d k .byte (32 : Int32) vs (.int (0 : Int32))) := by
  refine own_enterW (plainFor_of_name own_pn2) ?_
  intro p e s vm0 m below meth c s₁ X0 hx hZ hby hml hown hnm hret hlk hS e0
  have N0 := Fr.nil n0
  rw [own_rm2_ef m a1]
  have KK0 : Keep h0 h0 [] := Keep.refl _ _
  have own_strW : ∀ d ∈ Bundle.stringAtoms, d.before a0 Z = true := fun d hd => by
    simp only [Bundle.stringAtoms, List.mem_cons, List.not_mem_nil, or_false] at hd
    rcases hd with rfl | rfl | rfl | rfl | rfl | rfl | rfl
    · exact (hw _ (List.mem_of_getElem? (i := 10) rfl))
    · exact (hw _ (List.mem_of_getElem? (i := 11) rfl))
    · exact (hw _ (List.mem_of_getElem? (i := 0) rfl))
    · exact (hw _ (List.mem_of_getElem? (i := 12) rfl))
    · exact (hw _ (List.mem_of_getElem? (i := 13) rfl))
    · exact (hw _ (List.mem_of_getElem? (i := 14) rfl))
    · exact (hw _ (List.mem_of_getElem? (i := 15) rfl))
  show own_FinW _ _ _ _ _ _ (s₁.setTop (mkF m 0 #[.val (.ref a1)] []))
  refine own_toW (fun t k => XS.aloadN X0.here hx rfl (hb hby own_d2_0) rfl rfl k) ?_
  show own_FinW _ _ _ _ _ _ (s₁.setTop (mkF m 1 #[.val (.ref a1)] [(.ref a1)]))
  obtain ⟨sd, T161, h161, kk161, X161, e161, E161, hS161, hk161, hZ, hown, st161⟩ := ldcS X0 hx hZ hown (hw _ (List.mem_of_getElem? (i := 9) rfl)) own_strW e0 hS (Nat.zero_le _) (g := (mkF m 1 #[.val (.ref a1)] [(.ref a1)])) rfl (hb hby own_d2_1) (n := 24) (by decide) (by decide) (by decide) (by decide)
  have KK161 : Keep h0 h161 [] := KK0.ext E161
  have V1_e161 := V1.ext E161
  have E1_e161 := E1.ext E161
  refine own_toW (fun t k => st161 t k) ?_
  show own_FinW _ _ _ _ _ _ (T161.setTop (mkF m 3 #[.val (.ref a1)] [(.ref sd), (.ref a1)]))
  obtain ⟨_, _, ⟨T162, L162, k162, n162⟩, -, X162, ⟨Lc162, hQ162, l162, y162, z162⟩, st162⟩ := Jvm.LawKit.callS X161 hx (y := (⟨"java/util/Objects", "requireNonNull", "(Ljava/lang/Object;Ljava/lang/String;)Ljava/lang/Object;"⟩ : MethodName)) hown (mvT hZ (hw _ (List.mem_of_getElem? (i := 16) rfl))) (mvT hZ (hw _ (List.mem_of_getElem? (i := 17) rfl))) (mvT hZ (hw _ (List.mem_of_getElem? (i := 18) rfl))) (mvT hZ (hw _ (List.mem_of_getElem? (i := 19) rfl))) (by decide) (own_back (W := 0) (own_rm3 l Z a0 hw [] a1 sd h161 n0 (Nat.le_trans Z0 E161.1)) hZ (hw _ (List.mem_of_getElem? (i := 19) rfl)) (hw _ (List.mem_of_getElem? (i := 18) rfl)) (by decide) (by decide)) (g := (mkF m 3 #[.val (.ref a1)] [(.ref sd), (.ref a1)])) rfl (by rw [hml]; rfl) (argsL := [(.ref a1), (.ref sd)]) (rest := []) (lenOf own_pd0 rfl) rfl (by show 2 * 0 + _ ≤ _; exact Nat.le_of_eq rfl) (hb hby own_d2_3) (fun _ _ => ⟨rfl, e161, (by decide : 2 + 0 ≤ _), (by decide : 28 + 0 ≤ _)⟩)
  dsimp only [Pt.U, Pt.locs, Pt.cells, Pt.slots] at X162 l162 y162 z162 st162 hQ162
  subst l162 y162 z162
  obtain ⟨rfl, N162q, eh162⟩ := hQ162
  have N162 := Fr.app N0 N162q
  refine own_toW (fun t k => st162 t k) ?_
  show own_FinW _ _ _ _ _ _ (T162.setTop (mkF m 6 #[.val (.ref a1)] [(.ref a1)]))
  refine own_toW (fun t k => XS.pop X162.here hx rfl (hb hby own_d2_6) rfl rfl k) ?_
  show own_FinW _ _ _ _ _ _ (T162.setTop (mkF m 7 #[.val (.ref a1)] []))
  refine own_toW (fun t k => XS.aloadN X162.here hx rfl (hb hby own_d2_7) rfl rfl k) ?_
  show own_FinW _ _ _ _ _ _ (T162.setTop (mkF m 8 #[.val (.ref a1)] [(.ref a1)]))
  obtain ⟨cl163, Ar163, qa163, Sa163, Na163, Ha163, Ga163⟩ := id V1_e161
  refine own_toW (fun t k => X162.arraylength hx (by rw [eh162]; exact Ar163.1) (State.isArrayOf_alike hZ.alike Ar163.2.1) (g := (mkF m 8 #[.val (.ref a1)] [(.ref a1)])) rfl rfl (hb hby own_d2_8) _ k) ?_
  rw [len_of Sa163 Na163]
  show own_FinW _ _ _ _ _ _ (T162.setTop (mkF m 9 #[.val (.ref a1)] [(.int (32 : Int32))]))
  refine own_toW (fun t k => XS.bipush X162.here hx rfl (hb hby own_d2_9) k) ?_
  show own_FinW _ _ _ _ _ _ (T162.setTop (mkF m 11 #[.val (.ref a1)] [(.int (32 : Int32)), (.int (32 : Int32))]))
  refine own_toW (fun t k => XS.icmpYes X162.here hx rfl (pc0 := 11) (pc' := 29) rfl (hb hby own_d2_11) rfl (teq rfl).1 (by decide) (by decide) k) ?_
  show own_FinW _ _ _ _ _ _ (T162.setTop (mkF m 29 #[.val (.ref a1)] []))
  refine own_toW (fun t k => XS.aloadN X162.here hx rfl (hb hby own_d2_29) rfl rfl k) ?_
  show own_FinW _ _ _ _ _ _ (T162.setTop (mkF m 30 #[.val (.ref a1)] [(.ref a1)]))
  obtain ⟨T164, h164, X164, e164, E164, V164, A164x, st164⟩ := cloneH X162 hx hZ hown (hw _ (List.mem_of_getElem? (i := 20) rfl)) (hw _ (List.mem_of_getElem? (i := 21) rfl)) (hw _ (List.mem_of_getElem? (i := 25) rfl)) (hw _ (List.mem_of_getElem? (i := 23) rfl)) (hw _ (List.mem_of_getElem? (i := 24) rfl)) (hw _ (List.mem_of_getElem? (i := 26) rfl)) eh162 V1_e161.arh E1_e161 (g := (mkF m 30 #[.val (.ref a1)] [(.ref a1)])) rfl (by rw [hml]; rfl) rfl (hb hby own_d2_30) (by decide) (W := 0) (cap := 32) (by show 2 * 0 + _ ≤ _; exact Nat.le_of_eq rfl) (by decide) (by decide) (by decide) (by decide)
  obtain ⟨bd, q164⟩ : ∃ z, z = h161.size := ⟨_, rfl⟩
  rw [← q164] at V164 A164x st164
  have ne_a1_bd : a1 ≠ bd := Nat.ne_of_lt (Nat.lt_of_lt_of_le V1_e161.lt (Nat.le_of_eq q164.symm))
  have g_bd : n0 ≤ bd := Nat.le_trans (Nat.le_trans Z0 E161.1) (Nat.le_of_eq q164.symm)
  have sz_bd : h0.size ≤ bd := Nat.le_trans KK161.1 (Nat.le_of_eq q164.symm)
  have KK164 : Keep h0 h164 [] := KK161.ext E164
  have V1_e164 := V1_e161.ext E164
  have E1_e164 := E1_e161.ext E164
  have V164v : Arv Z h164 bd k .byte (32 : Int32) vs (.int (0 : Int32)) := V164
  refine own_toW (fun t k => st164 t k) ?_
  show own_FinW _ _ _ _ _ _ (T164.setTop (mkF m 33 #[.val (.ref a1)] [(.ref bd)]))
  obtain ⟨T165, X165, e165, st165⟩ := castY X164 hx hZ hown (hw _ (List.mem_of_getElem? (i := 27) rfl)) e164 (Ins.self A164x) (g := (mkF m 33 #[.val (.ref a1)] [(.ref bd)])) rfl rfl (hb hby own_d2_33)
  refine own_toW (fun t k => st165 t k) ?_
  show own_FinW _ _ _ _ _ _ (T165.setTop (mkF m 36 #[.val (.ref a1)] [(.ref bd)]))
  refine own_retRW X165 hS161 (by rw [e165]; exact (Nat.le_trans hk161 E164.1)) hx hlk hret rfl rfl rfl (hb hby own_d2_36) (by decide) (by decide) ?_
  try rw [e165]
  exact ⟨bd, rfl, N162, KK164, g_bd, sz_bd, V164v⟩
theorem own_pd2 : parseMethodDescriptor "([BIJ)V" = some ⟨[(.array .byte), .int, .long], none⟩ := by decide +kernel
theorem own_pd3 : parseMethodDescriptor "([B)[B" = some ⟨[(.array .byte)], some (.array .byte)⟩ := by decide +kernel
theorem own_pd4 : parseMethodDescriptor "([BIJ)Z" = some ⟨[(.array .byte), .int, .long], some .boolean⟩ := by decide +kernel
theorem own_rm0_ef (m : MethodId) (q1 : Int64) (q2 : Int64) (q3 : Int64) (q4 : Int64) (p1 : Int32) (p2 : Int32) : entryFrame m #[(.long q1), (.long q2), (.long q3), (.long q4), (.int p1), (.int p2)] maxLocals = mkF m 0 #[.val (.long q1), .second, .val (.long q2), .second, .val (.long q3), .second, .val (.long q4), .second, .val (.int p1), .val (.int p2), .unset, .unset, .unset, .unset] [] := by first | (simp [entryFrame, mkF, argsToLocals, Value.category, maxLocals]; done) | rfl
set_option maxRecDepth 65536 in
set_option maxHeartbeats 40000000 in
theorem own_rm0 (l : Launch) (Z : State) (a0 : Array Value) (hw : ∀ d ∈ tables_1, d.before a0 Z = true) (ws : List Jvm.Cond) (q1 : Int64) (q2 : Int64) (q3 : Int64) (q4 : Int64) (p1 : Int32) (p2 : Int32) (h0 : Heap) (n0 : Nat) (Z0 : n0 ≤ h0.size) :
    own_MetW l Z x code maxLocals ret ws room_1 #[(.long q1), (.long q2), (.long q3), (.long q4), (.int p1), (.int p2)] h0 (fun v h L => v = some (.int 1) ∧ Fr n0 L) := by
  refine own_enterW (plainFor_of_name own_pn0) ?_
  intro p e s vm0 m below meth c s₁ X0 hx hZ hby hml hown hnm hret hlk hS e0
  have N0 := Fr.nil n0
  rw [own_rm0_ef m q1 q2 q3 q4 p1 p2]
  show own_FinW _ _ _ _ _ _ (s₁.setTop (mkF m 0 #[.val (.long q1), .second, .val (.long q2), .second, .val (.long q3), .second, .val (.long q4), .second, .val (.int p1), .val (.int p2), .unset, .unset, .unset, .unset] []))
  refine own_toW (fun t k => XS.bipush X0.here hx rfl (hb hby at_0) k) ?_
  show own_FinW _ _ _ _ _ _ (s₁.setTop (mkF m 2 #[.val (.long q1), .second, .val (.long q2), .second, .val (.long q3), .second, .val (.long q4), .second, .val (.int p1), .val (.int p2), .unset, .unset, .unset, .unset] [(.int (32 : Int32))]))
  obtain ⟨T166, h166, k166, X166, e166, E166, A166, A166x, st166⟩ := newPE X0 hx hZ (hw _ (List.mem_of_getElem? (i := 0) rfl)) e0 (g := (mkF m 2 #[.val (.long q1), .second, .val (.long q2), .second, .val (.long q3), .second, .val (.long q4), .second, .val (.int p1), .val (.int p2), .unset, .unset, .unset, .unset] [(.int (32 : Int32))])) rfl (hb hby at_2) rfl (by decide) (cap := 32) (by decide) (by decide) (by decide) (by decide) (ad := "[B") (by decide)
  obtain ⟨b, q166⟩ : ∃ z, z = h0.size := ⟨_, rfl⟩
  rw [← q166] at A166 A166x st166
  have g_b : n0 ≤ b := Nat.le_trans Z0 (Nat.le_of_eq q166.symm)
  have V166 := Arv.new A166 (by decide)
  refine own_toW (fun t k => st166 t k) ?_
  show own_FinW _ _ _ _ _ _ (T166.setTop (mkF m 4 #[.val (.long q1), .second, .val (.long q2), .second, .val (.long q3), .second, .val (.long q4), .second, .val (.int p1), .val (.int p2), .unset, .unset, .unset, .unset] [(.ref b)]))
  have V167p : Arv Z h166 b k166 .byte (32 : Int32) [(.int (0 : Int32)), (.int (0 : Int32)), (.int (0 : Int32)), (.int (0 : Int32)), (.int (0 : Int32)), (.int (0 : Int32)), (.int (0 : Int32)), (.int (0 : Int32)), (.int (0 : Int32)), (.int (0 : Int32)), (.int (0 : Int32)), (.int (0 : Int32)), (.int (0 : Int32)), (.int (0 : Int32)), (.int (0 : Int32)), (.int (0 : Int32)), (.int (0 : Int32)), (.int (0 : Int32)), (.int (0 : Int32)), (.int (0 : Int32)), (.int (0 : Int32)), (.int (0 : Int32)), (.int (0 : Int32)), (.int (0 : Int32)), (.int (0 : Int32)), (.int (0 : Int32)), (.int (0 : Int32)), (.int (0 : Int32)), (.int (0 : Int32)), (.int (0 : Int32)), (.int (0 : Int32)), (.int (0 : Int32))] (.int (0 : Int32)) := V166.pad (pad_rep [] (.int (0 : Int32)) 32)
  have hl0 : ([(.int (0 : Int32)), (.int (0 : Int32)), (.int (0 : Int32)), (.int (0 : Int32)), (.int (0 : Int32)), (.int (0 : Int32)), (.int (0 : Int32)), (.int (0 : Int32)), (.int (0 : Int32)), (.int (0 : Int32)), (.int (0 : Int32)), (.int (0 : Int32)), (.int (0 : Int32)), (.int (0 : Int32)), (.int (0 : Int32)), (.int (0 : Int32)), (.int (0 : Int32)), (.int (0 : Int32)), (.int (0 : Int32)), (.int (0 : Int32)), (.int (0 : Int32)), (.int (0 : Int32)), (.int (0 : Int32)), (.int (0 : Int32)), (.int (0 : Int32)), (.int (0 : Int32)), (.int (0 : Int32)), (.int (0 : Int32)), (.int (0 : Int32)), (.int (0 : Int32)), (.int (0 : Int32)), (.int (0 : Int32))] : List Value).length = 32 := rfl
  refine own_toW (fun t k => XS.astore X166.here hx rfl (hb hby at_4) rfl rfl (l' := #[.val (.long q1), .second, .val (.long q2), .second, .val (.long q3), .second, .val (.long q4), .second, .val (.int p1), .val (.int p2), .val (.ref b), .unset, .unset, .unset]) rfl k) ?_
  show own_FinW _ _ _ _ _ _ (T166.setTop (mkF m 6 #[.val (.long q1), .second, .val (.long q2), .second, .val (.long q3), .second, .val (.long q4), .second, .val (.int p1), .val (.int p2), .val (.ref b), .unset, .unset, .unset] []))
  refine own_toW (fun t k => XS.aload X166.here hx rfl (hb hby at_6) rfl rfl k) ?_
  show own_FinW _ _ _ _ _ _ (T166.setTop (mkF m 8 #[.val (.long q1), .second, .val (.long q2), .second, .val (.long q3), .second, .val (.long q4), .second, .val (.int p1), .val (.int p2), .val (.ref b), .unset, .unset, .unset] [(.ref b)]))
  refine own_toW (fun t k => XS.iconst X166.here hx rfl (hb hby at_8) k) ?_
  show own_FinW _ _ _ _ _ _ (T166.setTop (mkF m 9 #[.val (.long q1), .second, .val (.long q2), .second, .val (.long q3), .second, .val (.long q4), .second, .val (.int p1), .val (.int p2), .val (.ref b), .unset, .unset, .unset] [(.int (0 : Int32)), (.ref b)]))
  refine own_toW (fun t k => XS.lloadN X166.here hx rfl (hb hby at_9) rfl k) ?_
  show own_FinW _ _ _ _ _ _ (T166.setTop (mkF m 10 #[.val (.long q1), .second, .val (.long q2), .second, .val (.long q3), .second, .val (.long q4), .second, .val (.int p1), .val (.int p2), .val (.ref b), .unset, .unset, .unset] [(.long q1), (.int (0 : Int32)), (.ref b)]))
  obtain ⟨_, _, ⟨T168, L168, k168, n168⟩, -, X168, ⟨Lc168, hQ168, l168, y168, z168⟩, st168⟩ := Jvm.LawKit.callS X166 hx (y := (⟨"com/example/nuthatch/nuthatch/engine/Sha256RequireDigestPinLaw", "put", "([BIJ)V"⟩ : MethodName)) hown (mvT hZ (hw _ (List.mem_of_getElem? (i := 1) rfl))) (mvT hZ (hw _ (List.mem_of_getElem? (i := 2) rfl))) (mvT hZ (hw _ (List.mem_of_getElem? (i := 3) rfl))) (mvT hZ (hw _ (List.mem_of_getElem? (i := 4) rfl))) (by decide) (own_back (W := 0) (own_put0 l Z a0 hw [] b q1 k166 [(.int (0 : Int32)), (.int (0 : Int32)), (.int (0 : Int32)), (.int (0 : Int32)), (.int (0 : Int32)), (.int (0 : Int32)), (.int (0 : Int32)), (.int (0 : Int32)), (.int (0 : Int32)), (.int (0 : Int32)), (.int (0 : Int32)), (.int (0 : Int32)), (.int (0 : Int32)), (.int (0 : Int32)), (.int (0 : Int32)), (.int (0 : Int32)), (.int (0 : Int32)), (.int (0 : Int32)), (.int (0 : Int32)), (.int (0 : Int32)), (.int (0 : Int32)), (.int (0 : Int32)), (.int (0 : Int32)), (.int (0 : Int32)), (.int (0 : Int32)), (.int (0 : Int32)), (.int (0 : Int32)), (.int (0 : Int32)), (.int (0 : Int32)), (.int (0 : Int32)), (.int (0 : Int32)), (.int (0 : Int32))] h166 n0 (Nat.le_trans Z0 E166.1) V167p hl0 g_b) hZ (hw _ (List.mem_of_getElem? (i := 4) rfl)) (hw _ (List.mem_of_getElem? (i := 3) rfl)) (by decide) (by decide)) (g := (mkF m 10 #[.val (.long q1), .second, .val (.long q2), .second, .val (.long q3), .second, .val (.long q4), .second, .val (.int p1), .val (.int p2), .val (.ref b), .unset, .unset, .unset] [(.long q1), (.int (0 : Int32)), (.ref b)])) rfl (by rw [hml]; rfl) (argsL := [(.ref b), (.int (0 : Int32)), (.long q1)]) (rest := []) (lenOf own_pd2 rfl) rfl (by show 2 * 0 + _ ≤ _; exact Nat.le_of_eq rfl) (hb hby at_10) (fun _ _ => ⟨rfl, e166, (by decide : 1 + 0 ≤ _), (by decide : 32 + 0 ≤ _)⟩)
  dsimp only [Pt.U, Pt.locs, Pt.cells, Pt.slots] at X168 l168 y168 z168 st168 hQ168
  subst l168 y168 z168
  obtain ⟨rfl, N168q, K168, Vq168⟩ := hQ168
  have N168 := Fr.app N0 N168q
  have A166x_e168 := A166x.keep K168
  refine own_toW (fun t k => st168 t k) ?_
  show own_FinW _ _ _ _ _ _ (T168.setTop (mkF m 13 #[.val (.long q1), .second, .val (.long q2), .second, .val (.long q3), .second, .val (.long q4), .second, .val (.int p1), .val (.int p2), .val (.ref b), .unset, .unset, .unset] []))
  have hl168 : (own_put [(.int (0 : Int32)), (.int (0 : Int32)), (.int (0 : Int32)), (.int (0 : Int32)), (.int (0 : Int32)), (.int (0 : Int32)), (.int (0 : Int32)), (.int (0 : Int32)), (.int (0 : Int32)), (.int (0 : Int32)), (.int (0 : Int32)), (.int (0 : Int32)), (.int (0 : Int32)), (.int (0 : Int32)), (.int (0 : Int32)), (.int (0 : Int32)), (.int (0 : Int32)), (.int (0 : Int32)), (.int (0 : Int32)), (.int (0 : Int32)), (.int (0 : Int32)), (.int (0 : Int32)), (.int (0 : Int32)), (.int (0 : Int32)), (.int (0 : Int32)), (.int (0 : Int32)), (.int (0 : Int32)), (.int (0 : Int32)), (.int (0 : Int32)), (.int (0 : Int32)), (.int (0 : Int32)), (.int (0 : Int32))] 0 q1).length = 32 := (own_put_len _ _ _).trans hl0
  refine own_toW (fun t k => XS.aload X168.here hx rfl (hb hby at_13) rfl rfl k) ?_
  show own_FinW _ _ _ _ _ _ (T168.setTop (mkF m 15 #[.val (.long q1), .second, .val (.long q2), .second, .val (.long q3), .second, .val (.long q4), .second, .val (.int p1), .val (.int p2), .val (.ref b), .unset, .unset, .unset] [(.ref b)]))
  refine own_toW (fun t k => XS.bipush X168.here hx rfl (hb hby at_15) k) ?_
  show own_FinW _ _ _ _ _ _ (T168.setTop (mkF m 17 #[.val (.long q1), .second, .val (.long q2), .second, .val (.long q3), .second, .val (.long q4), .second, .val (.int p1), .val (.int p2), .val (.ref b), .unset, .unset, .unset] [(.int (8 : Int32)), (.ref b)]))
  refine own_toW (fun t k => XS.lloadN X168.here hx rfl (hb hby at_17) rfl k) ?_
  show own_FinW _ _ _ _ _ _ (T168.setTop (mkF m 18 #[.val (.long q1), .second, .val (.long q2), .second, .val (.long q3), .second, .val (.long q4), .second, .val (.int p1), .val (.int p2), .val (.ref b), .unset, .unset, .unset] [(.long q2), (.int (8 : Int32)), (.ref b)]))
  obtain ⟨_, _, ⟨T169, L169, k169, n169⟩, -, X169, ⟨Lc169, hQ169, l169, y169, z169⟩, st169⟩ := Jvm.LawKit.callS X168 hx (y := (⟨"com/example/nuthatch/nuthatch/engine/Sha256RequireDigestPinLaw", "put", "([BIJ)V"⟩ : MethodName)) hown (mvT hZ (hw _ (List.mem_of_getElem? (i := 1) rfl))) (mvT hZ (hw _ (List.mem_of_getElem? (i := 2) rfl))) (mvT hZ (hw _ (List.mem_of_getElem? (i := 3) rfl))) (mvT hZ (hw _ (List.mem_of_getElem? (i := 4) rfl))) (by decide) (own_back (W := 0) (own_put8 l Z a0 hw [] b q2 k166 (own_put [(.int (0 : Int32)), (.int (0 : Int32)), (.int (0 : Int32)), (.int (0 : Int32)), (.int (0 : Int32)), (.int (0 : Int32)), (.int (0 : Int32)), (.int (0 : Int32)), (.int (0 : Int32)), (.int (0 : Int32)), (.int (0 : Int32)), (.int (0 : Int32)), (.int (0 : Int32)), (.int (0 : Int32)), (.int (0 : Int32)), (.int (0 : Int32)), (.int (0 : Int32)), (.int (0 : Int32)), (.int (0 : Int32)), (.int (0 : Int32)), (.int (0 : Int32)), (.int (0 : Int32)), (.int (0 : Int32)), (.int (0 : Int32)), (.int (0 : Int32)), (.int (0 : Int32)), (.int (0 : Int32)), (.int (0 : Int32)), (.int (0 : Int32)), (.int (0 : Int32)), (.int (0 : Int32)), (.int (0 : Int32))] 0 q1) T168.heap n0 (Nat.le_trans (Nat.le_trans Z0 E166.1) K168.1) Vq168 hl168 g_b) hZ (hw _ (List.mem_of_getElem? (i := 4) rfl)) (hw _ (List.mem_of_getElem? (i := 3) rfl)) (by decide) (by decide)) (g := (mkF m 18 #[.val (.long q1), .second, .val (.long q2), .second, .val (.long q3), .second, .val (.long q4), .second, .val (.int p1), .val (.int p2), .val (.ref b), .unset, .unset, .unset] [(.long q2), (.int (8 : Int32)), (.ref b)])) rfl (by rw [hml]; rfl) (argsL := [(.ref b), (.int (8 : Int32)), (.long q2)]) (rest := []) (lenOf own_pd2 rfl) rfl (by show 2 * 0 + _ ≤ _; exact Nat.le_of_eq rfl) (hb hby at_18) (fun _ _ => ⟨rfl, rfl, (by decide : 1 + 0 ≤ _), (by decide : 32 + 0 ≤ _)⟩)
  dsimp only [Pt.U, Pt.locs, Pt.cells, Pt.slots] at X169 l169 y169 z169 st169 hQ169
  subst l169 y169 z169
  obtain ⟨rfl, N169q, K169, Vq169⟩ := hQ169
  have N169 := Fr.app N168 N169q
  have A166x_e169 := A166x_e168.keep K169
  refine own_toW (fun t k => st169 t k) ?_
  show own_FinW _ _ _ _ _ _ (T169.setTop (mkF m 21 #[.val (.long q1), .second, .val (.long q2), .second, .val (.long q3), .second, .val (.long q4), .second, .val (.int p1), .val (.int p2), .val (.ref b), .unset, .unset, .unset] []))
  have hl169 : (own_put (own_put [(.int (0 : Int32)), (.int (0 : Int32)), (.int (0 : Int32)), (.int (0 : Int32)), (.int (0 : Int32)), (.int (0 : Int32)), (.int (0 : Int32)), (.int (0 : Int32)), (.int (0 : Int32)), (.int (0 : Int32)), (.int (0 : Int32)), (.int (0 : Int32)), (.int (0 : Int32)), (.int (0 : Int32)), (.int (0 : Int32)), (.int (0 : Int32)), (.int (0 : Int32)), (.int (0 : Int32)), (.int (0 : Int32)), (.int (0 : Int32)), (.int (0 : Int32)), (.int (0 : Int32)), (.int (0 : Int32)), (.int (0 : Int32)), (.int (0 : Int32)), (.int (0 : Int32)), (.int (0 : Int32)), (.int (0 : Int32)), (.int (0 : Int32)), (.int (0 : Int32)), (.int (0 : Int32)), (.int (0 : Int32))] 0 q1) 8 q2).length = 32 := (own_put_len _ _ _).trans hl168
  refine own_toW (fun t k => XS.aload X169.here hx rfl (hb hby at_21) rfl rfl k) ?_
  show own_FinW _ _ _ _ _ _ (T169.setTop (mkF m 23 #[.val (.long q1), .second, .val (.long q2), .second, .val (.long q3), .second, .val (.long q4), .second, .val (.int p1), .val (.int p2), .val (.ref b), .unset, .unset, .unset] [(.ref b)]))
  refine own_toW (fun t k => XS.bipush X169.here hx rfl (hb hby at_23) k) ?_
  show own_FinW _ _ _ _ _ _ (T169.setTop (mkF m 25 #[.val (.long q1), .second, .val (.long q2), .second, .val (.long q3), .second, .val (.long q4), .second, .val (.int p1), .val (.int p2), .val (.ref b), .unset, .unset, .unset] [(.int (16 : Int32)), (.ref b)]))
  refine own_toW (fun t k => XS.lload X169.here hx rfl (hb hby at_25) rfl k) ?_
  show own_FinW _ _ _ _ _ _ (T169.setTop (mkF m 27 #[.val (.long q1), .second, .val (.long q2), .second, .val (.long q3), .second, .val (.long q4), .second, .val (.int p1), .val (.int p2), .val (.ref b), .unset, .unset, .unset] [(.long q3), (.int (16 : Int32)), (.ref b)]))
  obtain ⟨_, _, ⟨T170, L170, k170, n170⟩, -, X170, ⟨Lc170, hQ170, l170, y170, z170⟩, st170⟩ := Jvm.LawKit.callS X169 hx (y := (⟨"com/example/nuthatch/nuthatch/engine/Sha256RequireDigestPinLaw", "put", "([BIJ)V"⟩ : MethodName)) hown (mvT hZ (hw _ (List.mem_of_getElem? (i := 1) rfl))) (mvT hZ (hw _ (List.mem_of_getElem? (i := 2) rfl))) (mvT hZ (hw _ (List.mem_of_getElem? (i := 3) rfl))) (mvT hZ (hw _ (List.mem_of_getElem? (i := 4) rfl))) (by decide) (own_back (W := 0) (own_put16 l Z a0 hw [] b q3 k166 (own_put (own_put [(.int (0 : Int32)), (.int (0 : Int32)), (.int (0 : Int32)), (.int (0 : Int32)), (.int (0 : Int32)), (.int (0 : Int32)), (.int (0 : Int32)), (.int (0 : Int32)), (.int (0 : Int32)), (.int (0 : Int32)), (.int (0 : Int32)), (.int (0 : Int32)), (.int (0 : Int32)), (.int (0 : Int32)), (.int (0 : Int32)), (.int (0 : Int32)), (.int (0 : Int32)), (.int (0 : Int32)), (.int (0 : Int32)), (.int (0 : Int32)), (.int (0 : Int32)), (.int (0 : Int32)), (.int (0 : Int32)), (.int (0 : Int32)), (.int (0 : Int32)), (.int (0 : Int32)), (.int (0 : Int32)), (.int (0 : Int32)), (.int (0 : Int32)), (.int (0 : Int32)), (.int (0 : Int32)), (.int (0 : Int32))] 0 q1) 8 q2) T169.heap n0 (Nat.le_trans (Nat.le_trans (Nat.le_trans Z0 E166.1) K168.1) K169.1) Vq169 hl169 g_b) hZ (hw _ (List.mem_of_getElem? (i := 4) rfl)) (hw _ (List.mem_of_getElem? (i := 3) rfl)) (by decide) (by decide)) (g := (mkF m 27 #[.val (.long q1), .second, .val (.long q2), .second, .val (.long q3), .second, .val (.long q4), .second, .val (.int p1), .val (.int p2), .val (.ref b), .unset, .unset, .unset] [(.long q3), (.int (16 : Int32)), (.ref b)])) rfl (by rw [hml]; rfl) (argsL := [(.ref b), (.int (16 : Int32)), (.long q3)]) (rest := []) (lenOf own_pd2 rfl) rfl (by show 2 * 0 + _ ≤ _; exact Nat.le_of_eq rfl) (hb hby at_27) (fun _ _ => ⟨rfl, rfl, (by decide : 1 + 0 ≤ _), (by decide : 32 + 0 ≤ _)⟩)
  dsimp only [Pt.U, Pt.locs, Pt.cells, Pt.slots] at X170 l170 y170 z170 st170 hQ170
  subst l170 y170 z170
  obtain ⟨rfl, N170q, K170, Vq170⟩ := hQ170
  have N170 := Fr.app N169 N170q
  have A166x_e170 := A166x_e169.keep K170
  refine own_toW (fun t k => st170 t k) ?_
  show own_FinW _ _ _ _ _ _ (T170.setTop (mkF m 30 #[.val (.long q1), .second, .val (.long q2), .second, .val (.long q3), .second, .val (.long q4), .second, .val (.int p1), .val (.int p2), .val (.ref b), .unset, .unset, .unset] []))
  have hl170 : (own_put (own_put (own_put [(.int (0 : Int32)), (.int (0 : Int32)), (.int (0 : Int32)), (.int (0 : Int32)), (.int (0 : Int32)), (.int (0 : Int32)), (.int (0 : Int32)), (.int (0 : Int32)), (.int (0 : Int32)), (.int (0 : Int32)), (.int (0 : Int32)), (.int (0 : Int32)), (.int (0 : Int32)), (.int (0 : Int32)), (.int (0 : Int32)), (.int (0 : Int32)), (.int (0 : Int32)), (.int (0 : Int32)), (.int (0 : Int32)), (.int (0 : Int32)), (.int (0 : Int32)), (.int (0 : Int32)), (.int (0 : Int32)), (.int (0 : Int32)), (.int (0 : Int32)), (.int (0 : Int32)), (.int (0 : Int32)), (.int (0 : Int32)), (.int (0 : Int32)), (.int (0 : Int32)), (.int (0 : Int32)), (.int (0 : Int32))] 0 q1) 8 q2) 16 q3).length = 32 := (own_put_len _ _ _).trans hl169
  refine own_toW (fun t k => XS.aload X170.here hx rfl (hb hby at_30) rfl rfl k) ?_
  show own_FinW _ _ _ _ _ _ (T170.setTop (mkF m 32 #[.val (.long q1), .second, .val (.long q2), .second, .val (.long q3), .second, .val (.long q4), .second, .val (.int p1), .val (.int p2), .val (.ref b), .unset, .unset, .unset] [(.ref b)]))
  refine own_toW (fun t k => XS.bipush X170.here hx rfl (hb hby at_32) k) ?_
  show own_FinW _ _ _ _ _ _ (T170.setTop (mkF m 34 #[.val (.long q1), .second, .val (.long q2), .second, .val (.long q3), .second, .val (.long q4), .second, .val (.int p1), .val (.int p2), .val (.ref b), .unset, .unset, .unset] [(.int (24 : Int32)), (.ref b)]))
  refine own_toW (fun t k => XS.lload X170.here hx rfl (hb hby at_34) rfl k) ?_
  show own_FinW _ _ _ _ _ _ (T170.setTop (mkF m 36 #[.val (.long q1), .second, .val (.long q2), .second, .val (.long q3), .second, .val (.long q4), .second, .val (.int p1), .val (.int p2), .val (.ref b), .unset, .unset, .unset] [(.long q4), (.int (24 : Int32)), (.ref b)]))
  obtain ⟨_, _, ⟨T171, L171, k171, n171⟩, -, X171, ⟨Lc171, hQ171, l171, y171, z171⟩, st171⟩ := Jvm.LawKit.callS X170 hx (y := (⟨"com/example/nuthatch/nuthatch/engine/Sha256RequireDigestPinLaw", "put", "([BIJ)V"⟩ : MethodName)) hown (mvT hZ (hw _ (List.mem_of_getElem? (i := 1) rfl))) (mvT hZ (hw _ (List.mem_of_getElem? (i := 2) rfl))) (mvT hZ (hw _ (List.mem_of_getElem? (i := 3) rfl))) (mvT hZ (hw _ (List.mem_of_getElem? (i := 4) rfl))) (by decide) (own_back (W := 0) (own_put24 l Z a0 hw [] b q4 k166 (own_put (own_put (own_put [(.int (0 : Int32)), (.int (0 : Int32)), (.int (0 : Int32)), (.int (0 : Int32)), (.int (0 : Int32)), (.int (0 : Int32)), (.int (0 : Int32)), (.int (0 : Int32)), (.int (0 : Int32)), (.int (0 : Int32)), (.int (0 : Int32)), (.int (0 : Int32)), (.int (0 : Int32)), (.int (0 : Int32)), (.int (0 : Int32)), (.int (0 : Int32)), (.int (0 : Int32)), (.int (0 : Int32)), (.int (0 : Int32)), (.int (0 : Int32)), (.int (0 : Int32)), (.int (0 : Int32)), (.int (0 : Int32)), (.int (0 : Int32)), (.int (0 : Int32)), (.int (0 : Int32)), (.int (0 : Int32)), (.int (0 : Int32)), (.int (0 : Int32)), (.int (0 : Int32)), (.int (0 : Int32)), (.int (0 : Int32))] 0 q1) 8 q2) 16 q3) T170.heap n0 (Nat.le_trans (Nat.le_trans (Nat.le_trans (Nat.le_trans Z0 E166.1) K168.1) K169.1) K170.1) Vq170 hl170 g_b) hZ (hw _ (List.mem_of_getElem? (i := 4) rfl)) (hw _ (List.mem_of_getElem? (i := 3) rfl)) (by decide) (by decide)) (g := (mkF m 36 #[.val (.long q1), .second, .val (.long q2), .second, .val (.long q3), .second, .val (.long q4), .second, .val (.int p1), .val (.int p2), .val (.ref b), .unset, .unset, .unset] [(.long q4), (.int (24 : Int32)), (.ref b)])) rfl (by rw [hml]; rfl) (argsL := [(.ref b), (.int (24 : Int32)), (.long q4)]) (rest := []) (lenOf own_pd2 rfl) rfl (by show 2 * 0 + _ ≤ _; exact Nat.le_of_eq rfl) (hb hby at_36) (fun _ _ => ⟨rfl, rfl, (by decide : 1 + 0 ≤ _), (by decide : 32 + 0 ≤ _)⟩)
  dsimp only [Pt.U, Pt.locs, Pt.cells, Pt.slots] at X171 l171 y171 z171 st171 hQ171
  subst l171 y171 z171
  obtain ⟨rfl, N171q, K171, Vq171⟩ := hQ171
  have N171 := Fr.app N170 N171q
  have A166x_e171 := A166x_e170.keep K171
  refine own_toW (fun t k => st171 t k) ?_
  show own_FinW _ _ _ _ _ _ (T171.setTop (mkF m 39 #[.val (.long q1), .second, .val (.long q2), .second, .val (.long q3), .second, .val (.long q4), .second, .val (.int p1), .val (.int p2), .val (.ref b), .unset, .unset, .unset] []))
  have hl171 : (own_put (own_put (own_put (own_put [(.int (0 : Int32)), (.int (0 : Int32)), (.int (0 : Int32)), (.int (0 : Int32)), (.int (0 : Int32)), (.int (0 : Int32)), (.int (0 : Int32)), (.int (0 : Int32)), (.int (0 : Int32)), (.int (0 : Int32)), (.int (0 : Int32)), (.int (0 : Int32)), (.int (0 : Int32)), (.int (0 : Int32)), (.int (0 : Int32)), (.int (0 : Int32)), (.int (0 : Int32)), (.int (0 : Int32)), (.int (0 : Int32)), (.int (0 : Int32)), (.int (0 : Int32)), (.int (0 : Int32)), (.int (0 : Int32)), (.int (0 : Int32)), (.int (0 : Int32)), (.int (0 : Int32)), (.int (0 : Int32)), (.int (0 : Int32)), (.int (0 : Int32)), (.int (0 : Int32)), (.int (0 : Int32)), (.int (0 : Int32))] 0 q1) 8 q2) 16 q3) 24 q4).length = 32 := (own_put_len _ _ _).trans hl170
  refine own_toW (fun t k => XS.aload X171.here hx rfl (hb hby at_39) rfl rfl k) ?_
  show own_FinW _ _ _ _ _ _ (T171.setTop (mkF m 41 #[.val (.long q1), .second, .val (.long q2), .second, .val (.long q3), .second, .val (.long q4), .second, .val (.int p1), .val (.int p2), .val (.ref b), .unset, .unset, .unset] [(.ref b)]))
  obtain ⟨vv, evv⟩ : ∃ z, z = (own_put (own_put (own_put (own_put [(.int (0 : Int32)), (.int (0 : Int32)), (.int (0 : Int32)), (.int (0 : Int32)), (.int (0 : Int32)), (.int (0 : Int32)), (.int (0 : Int32)), (.int (0 : Int32)), (.int (0 : Int32)), (.int (0 : Int32)), (.int (0 : Int32)), (.int (0 : Int32)), (.int (0 : Int32)), (.int (0 : Int32)), (.int (0 : Int32)), (.int (0 : Int32)), (.int (0 : Int32)), (.int (0 : Int32)), (.int (0 : Int32)), (.int (0 : Int32)), (.int (0 : Int32)), (.int (0 : Int32)), (.int (0 : Int32)), (.int (0 : Int32)), (.int (0 : Int32)), (.int (0 : Int32)), (.int (0 : Int32)), (.int (0 : Int32)), (.int (0 : Int32)), (.int (0 : Int32)), (.int (0 : Int32)), (.int (0 : Int32))] 0 q1) 8 q2) 16 q3) 24 q4) := ⟨_, rfl⟩
  rw [← evv] at Vq171
  obtain ⟨_, _, ⟨T172, L172, k172, n172⟩, -, X172, S172a, S172b, ⟨Lc172, hQ172, l172, y172, z172⟩, st172⟩ := callSS X171 hx (y := (⟨"com/example/nuthatch/nuthatch/engine/Sha256", "requireDigest", "([B)[B"⟩ : MethodName)) hown (mvT hZ (hw _ (List.mem_of_getElem? (i := 5) rfl))) (mvT hZ (hw _ (List.mem_of_getElem? (i := 6) rfl))) (mvT hZ (hw _ (List.mem_of_getElem? (i := 7) rfl))) (mvT hZ (hw _ (List.mem_of_getElem? (i := 8) rfl))) (by decide) (own_backS (W := 0) (own_rm2 l Z a0 hw [] b k166 vv T171.heap n0 (Nat.le_trans (Nat.le_trans (Nat.le_trans (Nat.le_trans (Nat.le_trans Z0 E166.1) K168.1) K169.1) K170.1) K171.1) Vq171 A166x_e171) hZ (hw _ (List.mem_of_getElem? (i := 8) rfl)) (hw _ (List.mem_of_getElem? (i := 7) rfl)) (by decide) (by decide)) (g := (mkF m 41 #[.val (.long q1), .second, .val (.long q2), .second, .val (.long q3), .second, .val (.long q4), .second, .val (.int p1), .val (.int p2), .val (.ref b), .unset, .unset, .unset] [(.ref b)])) rfl (by rw [hml]; rfl) (argsL := [(.ref b)]) (rest := []) (lenOf own_pd3 rfl) rfl (by show 2 * 0 + _ ≤ _; exact Nat.le_of_eq rfl) (hb hby at_41) (fun _ _ => ⟨rfl, rfl, (by decide : 1 + 3 ≤ _), (by decide : 32 + 60 ≤ _)⟩)
  dsimp only [Pt.U, Pt.locs, Pt.cells, Pt.slots] at X172 l172 y172 z172 st172 hQ172 S172a S172b
  subst l172 y172 z172
  obtain ⟨X172r, hS172, hZ, hown⟩ := rebS hS (n1 := T171.heap.size) (Nat.le_trans (Nat.le_trans (Nat.le_trans (Nat.le_trans (Nat.le_trans (Nat.zero_le _) E166.1) K168.1) K169.1) K170.1) K171.1) X172 S172a S172b hZ hown
  obtain ⟨d, rfl, N172q, K172, g_d, szd, V_d⟩ := hQ172
  have N172 := Fr.app N171 N172q
  have ne_b_d : b ≠ d := Nat.ne_of_lt (Nat.lt_of_lt_of_le A166x_e171.lt szd)
  have A166x_e172 := A166x_e171.keep K172
  have Vq171_e172 := Vq171.keep K172 nin0
  refine own_toW (fun t k => st172.trans k) ?_
  show own_FinW _ _ _ _ _ _ (T172.setTop (mkF m 44 #[.val (.long q1), .second, .val (.long q2), .second, .val (.long q3), .second, .val (.long q4), .second, .val (.int p1), .val (.int p2), .val (.ref b), .unset, .unset, .unset] [(.ref d)]))
  refine own_toW (fun t k => XS.astore X172r.here hx rfl (hb hby at_44) rfl rfl (l' := #[.val (.long q1), .second, .val (.long q2), .second, .val (.long q3), .second, .val (.long q4), .second, .val (.int p1), .val (.int p2), .val (.ref b), .val (.ref d), .unset, .unset]) rfl k) ?_
  show own_FinW _ _ _ _ _ _ (T172.setTop (mkF m 46 #[.val (.long q1), .second, .val (.long q2), .second, .val (.long q3), .second, .val (.long q4), .second, .val (.int p1), .val (.int p2), .val (.ref b), .val (.ref d), .unset, .unset] []))
  refine own_toW (fun t k => XS.aload X172r.here hx rfl (hb hby at_46) rfl rfl k) ?_
  show own_FinW _ _ _ _ _ _ (T172.setTop (mkF m 48 #[.val (.long q1), .second, .val (.long q2), .second, .val (.long q3), .second, .val (.long q4), .second, .val (.int p1), .val (.int p2), .val (.ref b), .val (.ref d), .unset, .unset] [(.ref d)]))
  refine own_toW (fun t k => XS.ifnullNo X172r.here hx rfl (hb hby at_48) rfl k) ?_
  show own_FinW _ _ _ _ _ _ (T172.setTop (mkF m 51 #[.val (.long q1), .second, .val (.long q2), .second, .val (.long q3), .second, .val (.long q4), .second, .val (.int p1), .val (.int p2), .val (.ref b), .val (.ref d), .unset, .unset] []))
  refine own_toW (fun t k => XS.aload X172r.here hx rfl (hb hby at_51) rfl rfl k) ?_
  show own_FinW _ _ _ _ _ _ (T172.setTop (mkF m 53 #[.val (.long q1), .second, .val (.long q2), .second, .val (.long q3), .second, .val (.long q4), .second, .val (.int p1), .val (.int p2), .val (.ref b), .val (.ref d), .unset, .unset] [(.ref d)]))
  refine own_toW (fun t k => XS.aload X172r.here hx rfl (hb hby at_53) rfl rfl k) ?_
  show own_FinW _ _ _ _ _ _ (T172.setTop (mkF m 55 #[.val (.long q1), .second, .val (.long q2), .second, .val (.long q3), .second, .val (.long q4), .second, .val (.int p1), .val (.int p2), .val (.ref b), .val (.ref d), .unset, .unset] [(.ref b), (.ref d)]))
  refine own_toW (fun t k => Jvm.RoadKit.acmp (g := (mkF m 55 #[.val (.long q1), .second, .val (.long q2), .second, .val (.long q3), .second, .val (.long q4), .second, .val (.int p1), .val (.int p2), .val (.ref b), .val (.ref d), .unset, .unset] [(.ref b), (.ref d)])) X172r hx rfl rfl rfl (pc0 := 55) (pc' := 60) (same := false) rfl (hb hby at_55) rfl (decide_eq_false fun q => (Ne.symm ne_b_d) (Value.ref.inj q)) (by decide) (by decide) k) ?_
  show own_FinW _ _ _ _ _ _ (T172.setTop (mkF m 60 #[.val (.long q1), .second, .val (.long q2), .second, .val (.long q3), .second, .val (.long q4), .second, .val (.int p1), .val (.int p2), .val (.ref b), .val (.ref d), .unset, .unset] []))
  refine own_toW (fun t k => XS.aload X172r.here hx rfl (hb hby at_60) rfl rfl k) ?_
  show own_FinW _ _ _ _ _ _ (T172.setTop (mkF m 62 #[.val (.long q1), .second, .val (.long q2), .second, .val (.long q3), .second, .val (.long q4), .second, .val (.int p1), .val (.int p2), .val (.ref b), .val (.ref d), .unset, .unset] [(.ref d)]))
  obtain ⟨cl173, Ar173, qa173, Sa173, Na173, Ha173, Ga173⟩ := id V_d
  refine own_toW (fun t k => X172r.arraylength hx Ar173.1 (State.isArrayOf_alike hZ.alike Ar173.2.1) (g := (mkF m 62 #[.val (.long q1), .second, .val (.long q2), .second, .val (.long q3), .second, .val (.long q4), .second, .val (.int p1), .val (.int p2), .val (.ref b), .val (.ref d), .unset, .unset] [(.ref d)])) rfl rfl (hb hby at_62) _ k) ?_
  rw [len_of Sa173 Na173]
  show own_FinW _ _ _ _ _ _ (T172.setTop (mkF m 63 #[.val (.long q1), .second, .val (.long q2), .second, .val (.long q3), .second, .val (.long q4), .second, .val (.int p1), .val (.int p2), .val (.ref b), .val (.ref d), .unset, .unset] [(.int (32 : Int32))]))
  refine own_toW (fun t k => XS.bipush X172r.here hx rfl (hb hby at_63) k) ?_
  show own_FinW _ _ _ _ _ _ (T172.setTop (mkF m 65 #[.val (.long q1), .second, .val (.long q2), .second, .val (.long q3), .second, .val (.long q4), .second, .val (.int p1), .val (.int p2), .val (.ref b), .val (.ref d), .unset, .unset] [(.int (32 : Int32)), (.int (32 : Int32))]))
  refine own_toW (fun t k => XS.icmpYes X172r.here hx rfl (pc0 := 65) (pc' := 70) rfl (hb hby at_65) rfl (teq rfl).1 (by decide) (by decide) k) ?_
  show own_FinW _ _ _ _ _ _ (T172.setTop (mkF m 70 #[.val (.long q1), .second, .val (.long q2), .second, .val (.long q3), .second, .val (.long q4), .second, .val (.int p1), .val (.int p2), .val (.ref b), .val (.ref d), .unset, .unset] []))
  refine own_toW (fun t k => XS.iload X172r.here hx rfl (hb hby at_70) rfl k) ?_
  show own_FinW _ _ _ _ _ _ (T172.setTop (mkF m 72 #[.val (.long q1), .second, .val (.long q2), .second, .val (.long q3), .second, .val (.long q4), .second, .val (.int p1), .val (.int p2), .val (.ref b), .val (.ref d), .unset, .unset] [(.int p1)]))
  refine own_toW (fun t k => XS.bipush X172r.here hx rfl (hb hby at_72) k) ?_
  show own_FinW _ _ _ _ _ _ (T172.setTop (mkF m 74 #[.val (.long q1), .second, .val (.long q2), .second, .val (.long q3), .second, .val (.long q4), .second, .val (.int p1), .val (.int p2), .val (.ref b), .val (.ref d), .unset, .unset] [(.int (31 : Int32)), (.int p1)]))
  refine own_toW (fun t k => XS.iand X172r.here hx rfl (hb hby at_74) rfl k) ?_
  show own_FinW _ _ _ _ _ _ (T172.setTop (mkF m 75 #[.val (.long q1), .second, .val (.long q2), .second, .val (.long q3), .second, .val (.long q4), .second, .val (.int p1), .val (.int p2), .val (.ref b), .val (.ref d), .unset, .unset] [(.int (p1 &&& (31 : Int32)))]))
  refine own_toW (fun t k => XS.istore X172r.here hx rfl (hb hby at_75) rfl (l' := #[.val (.long q1), .second, .val (.long q2), .second, .val (.long q3), .second, .val (.long q4), .second, .val (.int p1), .val (.int p2), .val (.ref b), .val (.ref d), .val (.int (p1 &&& (31 : Int32))), .unset]) rfl k) ?_
  show own_FinW _ _ _ _ _ _ (T172.setTop (mkF m 77 #[.val (.long q1), .second, .val (.long q2), .second, .val (.long q3), .second, .val (.long q4), .second, .val (.int p1), .val (.int p2), .val (.ref b), .val (.ref d), .val (.int (p1 &&& (31 : Int32))), .unset] []))
  refine own_toW (fun t k => XS.aload X172r.here hx rfl (hb hby at_77) rfl rfl k) ?_
  show own_FinW _ _ _ _ _ _ (T172.setTop (mkF m 79 #[.val (.long q1), .second, .val (.long q2), .second, .val (.long q3), .second, .val (.long q4), .second, .val (.int p1), .val (.int p2), .val (.ref b), .val (.ref d), .val (.int (p1 &&& (31 : Int32))), .unset] [(.ref b)]))
  refine own_toW (fun t k => XS.iload X172r.here hx rfl (hb hby at_79) rfl k) ?_
  show own_FinW _ _ _ _ _ _ (T172.setTop (mkF m 81 #[.val (.long q1), .second, .val (.long q2), .second, .val (.long q3), .second, .val (.long q4), .second, .val (.int p1), .val (.int p2), .val (.ref b), .val (.ref d), .val (.int (p1 &&& (31 : Int32))), .unset] [(.int (p1 &&& (31 : Int32))), (.ref b)]))
  obtain ⟨cl174, Ar174, qa174, Sa174, Na174, Ha174, Ga174⟩ := id Vq171_e172
  have hio := inb_of (j := (p1 &&& (31 : Int32))) Sa174 (own_in p1)
  obtain ⟨xo, exo⟩ := own_fit (Ga174 ((p1 &&& (31 : Int32))).toNatClampNeg (Nat.lt_of_not_le fun y => hio (Or.inr y)))
  obtain ⟨cl175, Ar175, qa175, Sa175, Na175, Ha175, Ga175⟩ := id Vq171_e172
  have hin176 : ¬ ((p1 &&& (31 : Int32)) < 0 ∨ cl175.slots.size ≤ ((p1 &&& (31 : Int32))).toNatClampNeg) := inb_of Sa175 (own_in p1)
  refine own_toW (fun t k => X172r.baloadBytes hx (j := (p1 &&& (31 : Int32))) (v := (.int xo)) Ar175.1 (State.isArrayOf_alike hZ.alike Ar175.2.1) Ar175.2.2 hin176 (Has.at Ha175 hin176 exo) (g := (mkF m 81 #[.val (.long q1), .second, .val (.long q2), .second, .val (.long q3), .second, .val (.long q4), .second, .val (.int p1), .val (.int p2), .val (.ref b), .val (.ref d), .val (.int (p1 &&& (31 : Int32))), .unset] [(.int (p1 &&& (31 : Int32))), (.ref b)])) rfl rfl (hb hby at_81) _ k) ?_
  show own_FinW _ _ _ _ _ _ (T172.setTop (mkF m 82 #[.val (.long q1), .second, .val (.long q2), .second, .val (.long q3), .second, .val (.long q4), .second, .val (.int p1), .val (.int p2), .val (.ref b), .val (.ref d), .val (.int (p1 &&& (31 : Int32))), .unset] [(.int xo)]))
  refine own_toW (fun t k => XS.istore X172r.here hx rfl (hb hby at_82) rfl (l' := #[.val (.long q1), .second, .val (.long q2), .second, .val (.long q3), .second, .val (.long q4), .second, .val (.int p1), .val (.int p2), .val (.ref b), .val (.ref d), .val (.int (p1 &&& (31 : Int32))), .val (.int xo)]) rfl k) ?_
  show own_FinW _ _ _ _ _ _ (T172.setTop (mkF m 84 #[.val (.long q1), .second, .val (.long q2), .second, .val (.long q3), .second, .val (.long q4), .second, .val (.int p1), .val (.int p2), .val (.ref b), .val (.ref d), .val (.int (p1 &&& (31 : Int32))), .val (.int xo)] []))
  refine own_toW (fun t k => XS.aload X172r.here hx rfl (hb hby at_84) rfl rfl k) ?_
  show own_FinW _ _ _ _ _ _ (T172.setTop (mkF m 86 #[.val (.long q1), .second, .val (.long q2), .second, .val (.long q3), .second, .val (.long q4), .second, .val (.int p1), .val (.int p2), .val (.ref b), .val (.ref d), .val (.int (p1 &&& (31 : Int32))), .val (.int xo)] [(.ref b)]))
  refine own_toW (fun t k => XS.iload X172r.here hx rfl (hb hby at_86) rfl k) ?_
  show own_FinW _ _ _ _ _ _ (T172.setTop (mkF m 88 #[.val (.long q1), .second, .val (.long q2), .second, .val (.long q3), .second, .val (.long q4), .second, .val (.int p1), .val (.int p2), .val (.ref b), .val (.ref d), .val (.int (p1 &&& (31 : Int32))), .val (.int xo)] [(.int (p1 &&& (31 : Int32))), (.ref b)]))
  refine own_toW (fun t k => XS.iload X172r.here hx rfl (hb hby at_88) rfl k) ?_
  show own_FinW _ _ _ _ _ _ (T172.setTop (mkF m 90 #[.val (.long q1), .second, .val (.long q2), .second, .val (.long q3), .second, .val (.long q4), .second, .val (.int p1), .val (.int p2), .val (.ref b), .val (.ref d), .val (.int (p1 &&& (31 : Int32))), .val (.int xo)] [(.int xo), (.int (p1 &&& (31 : Int32))), (.ref b)]))
  refine own_toW (fun t k => XS.iload X172r.here hx rfl (hb hby at_90) rfl k) ?_
  show own_FinW _ _ _ _ _ _ (T172.setTop (mkF m 92 #[.val (.long q1), .second, .val (.long q2), .second, .val (.long q3), .second, .val (.long q4), .second, .val (.int p1), .val (.int p2), .val (.ref b), .val (.ref d), .val (.int (p1 &&& (31 : Int32))), .val (.int xo)] [(.int p2), (.int xo), (.int (p1 &&& (31 : Int32))), (.ref b)]))
  refine own_toW (fun t k => XS.iconst X172r.here hx rfl (hb hby at_92) k) ?_
  show own_FinW _ _ _ _ _ _ (T172.setTop (mkF m 93 #[.val (.long q1), .second, .val (.long q2), .second, .val (.long q3), .second, .val (.long q4), .second, .val (.int p1), .val (.int p2), .val (.ref b), .val (.ref d), .val (.int (p1 &&& (31 : Int32))), .val (.int xo)] [(.int (1 : Int32)), (.int p2), (.int xo), (.int (p1 &&& (31 : Int32))), (.ref b)]))
  refine own_toW (fun t k => XS.ior X172r.here hx rfl (hb hby at_93) rfl k) ?_
  show own_FinW _ _ _ _ _ _ (T172.setTop (mkF m 94 #[.val (.long q1), .second, .val (.long q2), .second, .val (.long q3), .second, .val (.long q4), .second, .val (.int p1), .val (.int p2), .val (.ref b), .val (.ref d), .val (.int (p1 &&& (31 : Int32))), .val (.int xo)] [(.int (p2 ||| (1 : Int32))), (.int xo), (.int (p1 &&& (31 : Int32))), (.ref b)]))
  refine own_toW (fun t k => XS.ixor X172r.here hx rfl (hb hby at_94) rfl k) ?_
  show own_FinW _ _ _ _ _ _ (T172.setTop (mkF m 95 #[.val (.long q1), .second, .val (.long q2), .second, .val (.long q3), .second, .val (.long q4), .second, .val (.int p1), .val (.int p2), .val (.ref b), .val (.ref d), .val (.int (p1 &&& (31 : Int32))), .val (.int xo)] [(.int (xo ^^^ (p2 ||| (1 : Int32)))), (.int (p1 &&& (31 : Int32))), (.ref b)]))
  refine own_toW (fun t k => XS.i2b X172r.here hx rfl (hb hby at_95) rfl k) ?_
  show own_FinW _ _ _ _ _ _ (T172.setTop (mkF m 96 #[.val (.long q1), .second, .val (.long q2), .second, .val (.long q3), .second, .val (.long q4), .second, .val (.int p1), .val (.int p2), .val (.ref b), .val (.ref d), .val (.int (p1 &&& (31 : Int32))), .val (.int xo)] [(.int ((xo ^^^ (p2 ||| (1 : Int32))).toInt8.toInt32)), (.int (p1 &&& (31 : Int32))), (.ref b)]))
  obtain ⟨cl177, Ar177, qa177, Sa177, Na177, Ha177, Ga177⟩ := id Vq171_e172
  have hin178 : ¬ ((p1 &&& (31 : Int32)) < 0 ∨ cl177.slots.size ≤ ((p1 &&& (31 : Int32))).toNatClampNeg) := inb_of Sa177 (own_in p1)
  obtain ⟨T178, h178, X178, e178, W178, st178⟩ := stB X172r hx hZ rfl Ar177 (j := (p1 &&& (31 : Int32))) hin178 (g := (mkF m 96 #[.val (.long q1), .second, .val (.long q2), .second, .val (.long q3), .second, .val (.long q4), .second, .val (.int p1), .val (.int p2), .val (.ref b), .val (.ref d), .val (.int (p1 &&& (31 : Int32))), .val (.int xo)] [(.int ((xo ^^^ (p2 ||| (1 : Int32))).toInt8.toInt32)), (.int (p1 &&& (31 : Int32))), (.ref b)])) rfl rfl (hb hby at_96)
  have N178 := Fr.snoc X178 N172 g_b
  have A166x_e178 := A166x_e172.wr W178
  have V_d_e178 := V_d.other W178 (Ne.symm ne_b_d)
  refine own_toW (fun t k => st178 t k) ?_
  show own_FinW _ _ _ _ _ _ (T178.setTop (mkF m 97 #[.val (.long q1), .second, .val (.long q2), .second, .val (.long q3), .second, .val (.long q4), .second, .val (.int p1), .val (.int p2), .val (.ref b), .val (.ref d), .val (.int (p1 &&& (31 : Int32))), .val (.int xo)] []))
  refine own_toW (fun t k => XS.aload X178.here hx rfl (hb hby at_97) rfl rfl k) ?_
  show own_FinW _ _ _ _ _ _ (T178.setTop (mkF m 99 #[.val (.long q1), .second, .val (.long q2), .second, .val (.long q3), .second, .val (.long q4), .second, .val (.int p1), .val (.int p2), .val (.ref b), .val (.ref d), .val (.int (p1 &&& (31 : Int32))), .val (.int xo)] [(.ref d)]))
  refine own_toW (fun t k => XS.iconst X178.here hx rfl (hb hby at_99) k) ?_
  show own_FinW _ _ _ _ _ _ (T178.setTop (mkF m 100 #[.val (.long q1), .second, .val (.long q2), .second, .val (.long q3), .second, .val (.long q4), .second, .val (.int p1), .val (.int p2), .val (.ref b), .val (.ref d), .val (.int (p1 &&& (31 : Int32))), .val (.int xo)] [(.int (0 : Int32)), (.ref d)]))
  refine own_toW (fun t k => XS.lloadN X178.here hx rfl (hb hby at_100) rfl k) ?_
  show own_FinW _ _ _ _ _ _ (T178.setTop (mkF m 101 #[.val (.long q1), .second, .val (.long q2), .second, .val (.long q3), .second, .val (.long q4), .second, .val (.int p1), .val (.int p2), .val (.ref b), .val (.ref d), .val (.int (p1 &&& (31 : Int32))), .val (.int xo)] [(.long q1), (.int (0 : Int32)), (.ref d)]))
  obtain ⟨_, _, ⟨T179, L179, k179, n179⟩, -, X179, ⟨Lc179, hQ179, l179, y179, z179⟩, st179⟩ := Jvm.LawKit.callS X178 hx (y := (⟨"com/example/nuthatch/nuthatch/engine/Sha256RequireDigestPinLaw", "same", "([BIJ)Z"⟩ : MethodName)) hown (mvT hZ (hw _ (List.mem_of_getElem? (i := 29) rfl))) (mvT hZ (hw _ (List.mem_of_getElem? (i := 30) rfl))) (mvT hZ (hw _ (List.mem_of_getElem? (i := 3) rfl))) (mvT hZ (hw _ (List.mem_of_getElem? (i := 31) rfl))) (by decide) (own_back (W := 0) (own_same0 l Z a0 hw [] d q1 k166 vv h178 n0 (Nat.le_trans (Nat.le_trans (Nat.le_trans (Nat.le_trans (Nat.le_trans (Nat.le_trans (Nat.le_trans Z0 E166.1) K168.1) K169.1) K170.1) K171.1) K172.1) (Keep.of_wr W178).1) V_d_e178 (by rw [evv, own_miss _ 24 _ _ _ (by decide), own_miss _ 16 _ _ _ (by decide), own_miss _ 8 _ _ _ (by decide)]; exact own_hit0 _ 0 _ _ (by first | (simp only [own_put_len]; exact Nat.le_of_ble_eq_true rfl) | exact Nat.le_of_ble_eq_true rfl)) (by rw [evv, own_miss _ 24 _ _ _ (by decide), own_miss _ 16 _ _ _ (by decide), own_miss _ 8 _ _ _ (by decide)]; exact own_hit1 _ 0 _ _ (by first | (simp only [own_put_len]; exact Nat.le_of_ble_eq_true rfl) | exact Nat.le_of_ble_eq_true rfl)) (by rw [evv, own_miss _ 24 _ _ _ (by decide), own_miss _ 16 _ _ _ (by decide), own_miss _ 8 _ _ _ (by decide)]; exact own_hit2 _ 0 _ _ (by first | (simp only [own_put_len]; exact Nat.le_of_ble_eq_true rfl) | exact Nat.le_of_ble_eq_true rfl)) (by rw [evv, own_miss _ 24 _ _ _ (by decide), own_miss _ 16 _ _ _ (by decide), own_miss _ 8 _ _ _ (by decide)]; exact own_hit3 _ 0 _ _ (by first | (simp only [own_put_len]; exact Nat.le_of_ble_eq_true rfl) | exact Nat.le_of_ble_eq_true rfl)) (by rw [evv, own_miss _ 24 _ _ _ (by decide), own_miss _ 16 _ _ _ (by decide), own_miss _ 8 _ _ _ (by decide)]; exact own_hit4 _ 0 _ _ (by first | (simp only [own_put_len]; exact Nat.le_of_ble_eq_true rfl) | exact Nat.le_of_ble_eq_true rfl)) (by rw [evv, own_miss _ 24 _ _ _ (by decide), own_miss _ 16 _ _ _ (by decide), own_miss _ 8 _ _ _ (by decide)]; exact own_hit5 _ 0 _ _ (by first | (simp only [own_put_len]; exact Nat.le_of_ble_eq_true rfl) | exact Nat.le_of_ble_eq_true rfl)) (by rw [evv, own_miss _ 24 _ _ _ (by decide), own_miss _ 16 _ _ _ (by decide), own_miss _ 8 _ _ _ (by decide)]; exact own_hit6 _ 0 _ _ (by first | (simp only [own_put_len]; exact Nat.le_of_ble_eq_true rfl) | exact Nat.le_of_ble_eq_true rfl)) (by rw [evv, own_miss _ 24 _ _ _ (by decide), own_miss _ 16 _ _ _ (by decide), own_miss _ 8 _ _ _ (by decide)]; exact own_hit7 _ 0 _ _ (by first | (simp only [own_put_len]; exact Nat.le_of_ble_eq_true rfl) | exact Nat.le_of_ble_eq_true rfl))) hZ (hw _ (List.mem_of_getElem? (i := 31) rfl)) (hw _ (List.mem_of_getElem? (i := 3) rfl)) (by decide) (by decide)) (g := (mkF m 101 #[.val (.long q1), .second, .val (.long q2), .second, .val (.long q3), .second, .val (.long q4), .second, .val (.int p1), .val (.int p2), .val (.ref b), .val (.ref d), .val (.int (p1 &&& (31 : Int32))), .val (.int xo)] [(.long q1), (.int (0 : Int32)), (.ref d)])) rfl (by rw [hml]; rfl) (argsL := [(.ref d), (.int (0 : Int32)), (.long q1)]) (rest := []) (lenOf own_pd4 rfl) rfl (by show 2 * 0 + _ ≤ _; exact Nat.le_of_eq rfl) (hb hby at_101) (fun _ _ => ⟨rfl, e178, (by decide : 4 + 0 ≤ _), (by decide : 92 + 0 ≤ _)⟩)
  dsimp only [Pt.U, Pt.locs, Pt.cells, Pt.slots] at X179 l179 y179 z179 st179 hQ179
  subst l179 y179 z179
  obtain ⟨rfl, N179q, eh179⟩ := hQ179
  have N179 := Fr.app N178 N179q
  refine own_toW (fun t k => st179 t k) ?_
  show own_FinW _ _ _ _ _ _ (T179.setTop (mkF m 104 #[.val (.long q1), .second, .val (.long q2), .second, .val (.long q3), .second, .val (.long q4), .second, .val (.int p1), .val (.int p2), .val (.ref b), .val (.ref d), .val (.int (p1 &&& (31 : Int32))), .val (.int xo)] [(.int (1 : Int32))]))
  refine own_toW (fun t k => XS.ifNo X179.here hx rfl (hb hby at_104) rfl ((if0 _ _).trans (feq (by decide)).1) k) ?_
  show own_FinW _ _ _ _ _ _ (T179.setTop (mkF m 107 #[.val (.long q1), .second, .val (.long q2), .second, .val (.long q3), .second, .val (.long q4), .second, .val (.int p1), .val (.int p2), .val (.ref b), .val (.ref d), .val (.int (p1 &&& (31 : Int32))), .val (.int xo)] []))
  refine own_toW (fun t k => XS.aload X179.here hx rfl (hb hby at_107) rfl rfl k) ?_
  show own_FinW _ _ _ _ _ _ (T179.setTop (mkF m 109 #[.val (.long q1), .second, .val (.long q2), .second, .val (.long q3), .second, .val (.long q4), .second, .val (.int p1), .val (.int p2), .val (.ref b), .val (.ref d), .val (.int (p1 &&& (31 : Int32))), .val (.int xo)] [(.ref d)]))
  refine own_toW (fun t k => XS.bipush X179.here hx rfl (hb hby at_109) k) ?_
  show own_FinW _ _ _ _ _ _ (T179.setTop (mkF m 111 #[.val (.long q1), .second, .val (.long q2), .second, .val (.long q3), .second, .val (.long q4), .second, .val (.int p1), .val (.int p2), .val (.ref b), .val (.ref d), .val (.int (p1 &&& (31 : Int32))), .val (.int xo)] [(.int (8 : Int32)), (.ref d)]))
  refine own_toW (fun t k => XS.lloadN X179.here hx rfl (hb hby at_111) rfl k) ?_
  show own_FinW _ _ _ _ _ _ (T179.setTop (mkF m 112 #[.val (.long q1), .second, .val (.long q2), .second, .val (.long q3), .second, .val (.long q4), .second, .val (.int p1), .val (.int p2), .val (.ref b), .val (.ref d), .val (.int (p1 &&& (31 : Int32))), .val (.int xo)] [(.long q2), (.int (8 : Int32)), (.ref d)]))
  obtain ⟨_, _, ⟨T180, L180, k180, n180⟩, -, X180, ⟨Lc180, hQ180, l180, y180, z180⟩, st180⟩ := Jvm.LawKit.callS X179 hx (y := (⟨"com/example/nuthatch/nuthatch/engine/Sha256RequireDigestPinLaw", "same", "([BIJ)Z"⟩ : MethodName)) hown (mvT hZ (hw _ (List.mem_of_getElem? (i := 29) rfl))) (mvT hZ (hw _ (List.mem_of_getElem? (i := 30) rfl))) (mvT hZ (hw _ (List.mem_of_getElem? (i := 3) rfl))) (mvT hZ (hw _ (List.mem_of_getElem? (i := 31) rfl))) (by decide) (own_back (W := 0) (own_same8 l Z a0 hw [] d q2 k166 vv h178 n0 (Nat.le_trans (Nat.le_trans (Nat.le_trans (Nat.le_trans (Nat.le_trans (Nat.le_trans (Nat.le_trans Z0 E166.1) K168.1) K169.1) K170.1) K171.1) K172.1) (Keep.of_wr W178).1) V_d_e178 (by rw [evv, own_miss _ 24 _ _ _ (by decide), own_miss _ 16 _ _ _ (by decide)]; exact own_hit0 _ 8 _ _ (by first | (simp only [own_put_len]; exact Nat.le_of_ble_eq_true rfl) | exact Nat.le_of_ble_eq_true rfl)) (by rw [evv, own_miss _ 24 _ _ _ (by decide), own_miss _ 16 _ _ _ (by decide)]; exact own_hit1 _ 8 _ _ (by first | (simp only [own_put_len]; exact Nat.le_of_ble_eq_true rfl) | exact Nat.le_of_ble_eq_true rfl)) (by rw [evv, own_miss _ 24 _ _ _ (by decide), own_miss _ 16 _ _ _ (by decide)]; exact own_hit2 _ 8 _ _ (by first | (simp only [own_put_len]; exact Nat.le_of_ble_eq_true rfl) | exact Nat.le_of_ble_eq_true rfl)) (by rw [evv, own_miss _ 24 _ _ _ (by decide), own_miss _ 16 _ _ _ (by decide)]; exact own_hit3 _ 8 _ _ (by first | (simp only [own_put_len]; exact Nat.le_of_ble_eq_true rfl) | exact Nat.le_of_ble_eq_true rfl)) (by rw [evv, own_miss _ 24 _ _ _ (by decide), own_miss _ 16 _ _ _ (by decide)]; exact own_hit4 _ 8 _ _ (by first | (simp only [own_put_len]; exact Nat.le_of_ble_eq_true rfl) | exact Nat.le_of_ble_eq_true rfl)) (by rw [evv, own_miss _ 24 _ _ _ (by decide), own_miss _ 16 _ _ _ (by decide)]; exact own_hit5 _ 8 _ _ (by first | (simp only [own_put_len]; exact Nat.le_of_ble_eq_true rfl) | exact Nat.le_of_ble_eq_true rfl)) (by rw [evv, own_miss _ 24 _ _ _ (by decide), own_miss _ 16 _ _ _ (by decide)]; exact own_hit6 _ 8 _ _ (by first | (simp only [own_put_len]; exact Nat.le_of_ble_eq_true rfl) | exact Nat.le_of_ble_eq_true rfl)) (by rw [evv, own_miss _ 24 _ _ _ (by decide), own_miss _ 16 _ _ _ (by decide)]; exact own_hit7 _ 8 _ _ (by first | (simp only [own_put_len]; exact Nat.le_of_ble_eq_true rfl) | exact Nat.le_of_ble_eq_true rfl))) hZ (hw _ (List.mem_of_getElem? (i := 31) rfl)) (hw _ (List.mem_of_getElem? (i := 3) rfl)) (by decide) (by decide)) (g := (mkF m 112 #[.val (.long q1), .second, .val (.long q2), .second, .val (.long q3), .second, .val (.long q4), .second, .val (.int p1), .val (.int p2), .val (.ref b), .val (.ref d), .val (.int (p1 &&& (31 : Int32))), .val (.int xo)] [(.long q2), (.int (8 : Int32)), (.ref d)])) rfl (by rw [hml]; rfl) (argsL := [(.ref d), (.int (8 : Int32)), (.long q2)]) (rest := []) (lenOf own_pd4 rfl) rfl (by show 2 * 0 + _ ≤ _; exact Nat.le_of_eq rfl) (hb hby at_112) (fun _ _ => ⟨rfl, eh179, (by decide : 4 + 0 ≤ _), (by decide : 92 + 0 ≤ _)⟩)
  dsimp only [Pt.U, Pt.locs, Pt.cells, Pt.slots] at X180 l180 y180 z180 st180 hQ180
  subst l180 y180 z180
  obtain ⟨rfl, N180q, eh180⟩ := hQ180
  have N180 := Fr.app N179 N180q
  refine own_toW (fun t k => st180 t k) ?_
  show own_FinW _ _ _ _ _ _ (T180.setTop (mkF m 115 #[.val (.long q1), .second, .val (.long q2), .second, .val (.long q3), .second, .val (.long q4), .second, .val (.int p1), .val (.int p2), .val (.ref b), .val (.ref d), .val (.int (p1 &&& (31 : Int32))), .val (.int xo)] [(.int (1 : Int32))]))
  refine own_toW (fun t k => XS.ifNo X180.here hx rfl (hb hby at_115) rfl ((if0 _ _).trans (feq (by decide)).1) k) ?_
  show own_FinW _ _ _ _ _ _ (T180.setTop (mkF m 118 #[.val (.long q1), .second, .val (.long q2), .second, .val (.long q3), .second, .val (.long q4), .second, .val (.int p1), .val (.int p2), .val (.ref b), .val (.ref d), .val (.int (p1 &&& (31 : Int32))), .val (.int xo)] []))
  refine own_toW (fun t k => XS.aload X180.here hx rfl (hb hby at_118) rfl rfl k) ?_
  show own_FinW _ _ _ _ _ _ (T180.setTop (mkF m 120 #[.val (.long q1), .second, .val (.long q2), .second, .val (.long q3), .second, .val (.long q4), .second, .val (.int p1), .val (.int p2), .val (.ref b), .val (.ref d), .val (.int (p1 &&& (31 : Int32))), .val (.int xo)] [(.ref d)]))
  refine own_toW (fun t k => XS.bipush X180.here hx rfl (hb hby at_120) k) ?_
  show own_FinW _ _ _ _ _ _ (T180.setTop (mkF m 122 #[.val (.long q1), .second, .val (.long q2), .second, .val (.long q3), .second, .val (.long q4), .second, .val (.int p1), .val (.int p2), .val (.ref b), .val (.ref d), .val (.int (p1 &&& (31 : Int32))), .val (.int xo)] [(.int (16 : Int32)), (.ref d)]))
  refine own_toW (fun t k => XS.lload X180.here hx rfl (hb hby at_122) rfl k) ?_
  show own_FinW _ _ _ _ _ _ (T180.setTop (mkF m 124 #[.val (.long q1), .second, .val (.long q2), .second, .val (.long q3), .second, .val (.long q4), .second, .val (.int p1), .val (.int p2), .val (.ref b), .val (.ref d), .val (.int (p1 &&& (31 : Int32))), .val (.int xo)] [(.long q3), (.int (16 : Int32)), (.ref d)]))
  obtain ⟨_, _, ⟨T181, L181, k181, n181⟩, -, X181, ⟨Lc181, hQ181, l181, y181, z181⟩, st181⟩ := Jvm.LawKit.callS X180 hx (y := (⟨"com/example/nuthatch/nuthatch/engine/Sha256RequireDigestPinLaw", "same", "([BIJ)Z"⟩ : MethodName)) hown (mvT hZ (hw _ (List.mem_of_getElem? (i := 29) rfl))) (mvT hZ (hw _ (List.mem_of_getElem? (i := 30) rfl))) (mvT hZ (hw _ (List.mem_of_getElem? (i := 3) rfl))) (mvT hZ (hw _ (List.mem_of_getElem? (i := 31) rfl))) (by decide) (own_back (W := 0) (own_same16 l Z a0 hw [] d q3 k166 vv h178 n0 (Nat.le_trans (Nat.le_trans (Nat.le_trans (Nat.le_trans (Nat.le_trans (Nat.le_trans (Nat.le_trans Z0 E166.1) K168.1) K169.1) K170.1) K171.1) K172.1) (Keep.of_wr W178).1) V_d_e178 (by rw [evv, own_miss _ 24 _ _ _ (by decide)]; exact own_hit0 _ 16 _ _ (by first | (simp only [own_put_len]; exact Nat.le_of_ble_eq_true rfl) | exact Nat.le_of_ble_eq_true rfl)) (by rw [evv, own_miss _ 24 _ _ _ (by decide)]; exact own_hit1 _ 16 _ _ (by first | (simp only [own_put_len]; exact Nat.le_of_ble_eq_true rfl) | exact Nat.le_of_ble_eq_true rfl)) (by rw [evv, own_miss _ 24 _ _ _ (by decide)]; exact own_hit2 _ 16 _ _ (by first | (simp only [own_put_len]; exact Nat.le_of_ble_eq_true rfl) | exact Nat.le_of_ble_eq_true rfl)) (by rw [evv, own_miss _ 24 _ _ _ (by decide)]; exact own_hit3 _ 16 _ _ (by first | (simp only [own_put_len]; exact Nat.le_of_ble_eq_true rfl) | exact Nat.le_of_ble_eq_true rfl)) (by rw [evv, own_miss _ 24 _ _ _ (by decide)]; exact own_hit4 _ 16 _ _ (by first | (simp only [own_put_len]; exact Nat.le_of_ble_eq_true rfl) | exact Nat.le_of_ble_eq_true rfl)) (by rw [evv, own_miss _ 24 _ _ _ (by decide)]; exact own_hit5 _ 16 _ _ (by first | (simp only [own_put_len]; exact Nat.le_of_ble_eq_true rfl) | exact Nat.le_of_ble_eq_true rfl)) (by rw [evv, own_miss _ 24 _ _ _ (by decide)]; exact own_hit6 _ 16 _ _ (by first | (simp only [own_put_len]; exact Nat.le_of_ble_eq_true rfl) | exact Nat.le_of_ble_eq_true rfl)) (by rw [evv, own_miss _ 24 _ _ _ (by decide)]; exact own_hit7 _ 16 _ _ (by first | (simp only [own_put_len]; exact Nat.le_of_ble_eq_true rfl) | exact Nat.le_of_ble_eq_true rfl))) hZ (hw _ (List.mem_of_getElem? (i := 31) rfl)) (hw _ (List.mem_of_getElem? (i := 3) rfl)) (by decide) (by decide)) (g := (mkF m 124 #[.val (.long q1), .second, .val (.long q2), .second, .val (.long q3), .second, .val (.long q4), .second, .val (.int p1), .val (.int p2), .val (.ref b), .val (.ref d), .val (.int (p1 &&& (31 : Int32))), .val (.int xo)] [(.long q3), (.int (16 : Int32)), (.ref d)])) rfl (by rw [hml]; rfl) (argsL := [(.ref d), (.int (16 : Int32)), (.long q3)]) (rest := []) (lenOf own_pd4 rfl) rfl (by show 2 * 0 + _ ≤ _; exact Nat.le_of_eq rfl) (hb hby at_124) (fun _ _ => ⟨rfl, eh180, (by decide : 4 + 0 ≤ _), (by decide : 92 + 0 ≤ _)⟩)
  dsimp only [Pt.U, Pt.locs, Pt.cells, Pt.slots] at X181 l181 y181 z181 st181 hQ181
  subst l181 y181 z181
  obtain ⟨rfl, N181q, eh181⟩ := hQ181
  have N181 := Fr.app N180 N181q
  refine own_toW (fun t k => st181 t k) ?_
  show own_FinW _ _ _ _ _ _ (T181.setTop (mkF m 127 #[.val (.long q1), .second, .val (.long q2), .second, .val (.long q3), .second, .val (.long q4), .second, .val (.int p1), .val (.int p2), .val (.ref b), .val (.ref d), .val (.int (p1 &&& (31 : Int32))), .val (.int xo)] [(.int (1 : Int32))]))
  refine own_toW (fun t k => XS.ifNo X181.here hx rfl (hb hby at_127) rfl ((if0 _ _).trans (feq (by decide)).1) k) ?_
  show own_FinW _ _ _ _ _ _ (T181.setTop (mkF m 130 #[.val (.long q1), .second, .val (.long q2), .second, .val (.long q3), .second, .val (.long q4), .second, .val (.int p1), .val (.int p2), .val (.ref b), .val (.ref d), .val (.int (p1 &&& (31 : Int32))), .val (.int xo)] []))
  refine own_toW (fun t k => XS.aload X181.here hx rfl (hb hby at_130) rfl rfl k) ?_
  show own_FinW _ _ _ _ _ _ (T181.setTop (mkF m 132 #[.val (.long q1), .second, .val (.long q2), .second, .val (.long q3), .second, .val (.long q4), .second, .val (.int p1), .val (.int p2), .val (.ref b), .val (.ref d), .val (.int (p1 &&& (31 : Int32))), .val (.int xo)] [(.ref d)]))
  refine own_toW (fun t k => XS.bipush X181.here hx rfl (hb hby at_132) k) ?_
  show own_FinW _ _ _ _ _ _ (T181.setTop (mkF m 134 #[.val (.long q1), .second, .val (.long q2), .second, .val (.long q3), .second, .val (.long q4), .second, .val (.int p1), .val (.int p2), .val (.ref b), .val (.ref d), .val (.int (p1 &&& (31 : Int32))), .val (.int xo)] [(.int (24 : Int32)), (.ref d)]))
  refine own_toW (fun t k => XS.lload X181.here hx rfl (hb hby at_134) rfl k) ?_
  show own_FinW _ _ _ _ _ _ (T181.setTop (mkF m 136 #[.val (.long q1), .second, .val (.long q2), .second, .val (.long q3), .second, .val (.long q4), .second, .val (.int p1), .val (.int p2), .val (.ref b), .val (.ref d), .val (.int (p1 &&& (31 : Int32))), .val (.int xo)] [(.long q4), (.int (24 : Int32)), (.ref d)]))
  obtain ⟨_, _, ⟨T182, L182, k182, n182⟩, -, X182, ⟨Lc182, hQ182, l182, y182, z182⟩, st182⟩ := Jvm.LawKit.callS X181 hx (y := (⟨"com/example/nuthatch/nuthatch/engine/Sha256RequireDigestPinLaw", "same", "([BIJ)Z"⟩ : MethodName)) hown (mvT hZ (hw _ (List.mem_of_getElem? (i := 29) rfl))) (mvT hZ (hw _ (List.mem_of_getElem? (i := 30) rfl))) (mvT hZ (hw _ (List.mem_of_getElem? (i := 3) rfl))) (mvT hZ (hw _ (List.mem_of_getElem? (i := 31) rfl))) (by decide) (own_back (W := 0) (own_same24 l Z a0 hw [] d q4 k166 vv h178 n0 (Nat.le_trans (Nat.le_trans (Nat.le_trans (Nat.le_trans (Nat.le_trans (Nat.le_trans (Nat.le_trans Z0 E166.1) K168.1) K169.1) K170.1) K171.1) K172.1) (Keep.of_wr W178).1) V_d_e178 (by rw [evv]; exact own_hit0 _ 24 _ _ (by first | (simp only [own_put_len]; exact Nat.le_of_ble_eq_true rfl) | exact Nat.le_of_ble_eq_true rfl)) (by rw [evv]; exact own_hit1 _ 24 _ _ (by first | (simp only [own_put_len]; exact Nat.le_of_ble_eq_true rfl) | exact Nat.le_of_ble_eq_true rfl)) (by rw [evv]; exact own_hit2 _ 24 _ _ (by first | (simp only [own_put_len]; exact Nat.le_of_ble_eq_true rfl) | exact Nat.le_of_ble_eq_true rfl)) (by rw [evv]; exact own_hit3 _ 24 _ _ (by first | (simp only [own_put_len]; exact Nat.le_of_ble_eq_true rfl) | exact Nat.le_of_ble_eq_true rfl)) (by rw [evv]; exact own_hit4 _ 24 _ _ (by first | (simp only [own_put_len]; exact Nat.le_of_ble_eq_true rfl) | exact Nat.le_of_ble_eq_true rfl)) (by rw [evv]; exact own_hit5 _ 24 _ _ (by first | (simp only [own_put_len]; exact Nat.le_of_ble_eq_true rfl) | exact Nat.le_of_ble_eq_true rfl)) (by rw [evv]; exact own_hit6 _ 24 _ _ (by first | (simp only [own_put_len]; exact Nat.le_of_ble_eq_true rfl) | exact Nat.le_of_ble_eq_true rfl)) (by rw [evv]; exact own_hit7 _ 24 _ _ (by first | (simp only [own_put_len]; exact Nat.le_of_ble_eq_true rfl) | exact Nat.le_of_ble_eq_true rfl))) hZ (hw _ (List.mem_of_getElem? (i := 31) rfl)) (hw _ (List.mem_of_getElem? (i := 3) rfl)) (by decide) (by decide)) (g := (mkF m 136 #[.val (.long q1), .second, .val (.long q2), .second, .val (.long q3), .second, .val (.long q4), .second, .val (.int p1), .val (.int p2), .val (.ref b), .val (.ref d), .val (.int (p1 &&& (31 : Int32))), .val (.int xo)] [(.long q4), (.int (24 : Int32)), (.ref d)])) rfl (by rw [hml]; rfl) (argsL := [(.ref d), (.int (24 : Int32)), (.long q4)]) (rest := []) (lenOf own_pd4 rfl) rfl (by show 2 * 0 + _ ≤ _; exact Nat.le_of_eq rfl) (hb hby at_136) (fun _ _ => ⟨rfl, eh181, (by decide : 4 + 0 ≤ _), (by decide : 92 + 0 ≤ _)⟩)
  dsimp only [Pt.U, Pt.locs, Pt.cells, Pt.slots] at X182 l182 y182 z182 st182 hQ182
  subst l182 y182 z182
  obtain ⟨rfl, N182q, eh182⟩ := hQ182
  have N182 := Fr.app N181 N182q
  refine own_toW (fun t k => st182 t k) ?_
  show own_FinW _ _ _ _ _ _ (T182.setTop (mkF m 139 #[.val (.long q1), .second, .val (.long q2), .second, .val (.long q3), .second, .val (.long q4), .second, .val (.int p1), .val (.int p2), .val (.ref b), .val (.ref d), .val (.int (p1 &&& (31 : Int32))), .val (.int xo)] [(.int (1 : Int32))]))
  refine own_toW (fun t k => XS.ifNo X182.here hx rfl (hb hby at_139) rfl ((if0 _ _).trans (feq (by decide)).1) k) ?_
  show own_FinW _ _ _ _ _ _ (T182.setTop (mkF m 142 #[.val (.long q1), .second, .val (.long q2), .second, .val (.long q3), .second, .val (.long q4), .second, .val (.int p1), .val (.int p2), .val (.ref b), .val (.ref d), .val (.int (p1 &&& (31 : Int32))), .val (.int xo)] []))
  refine own_toW (fun t k => XS.iconst X182.here hx rfl (hb hby at_142) k) ?_
  show own_FinW _ _ _ _ _ _ (T182.setTop (mkF m 143 #[.val (.long q1), .second, .val (.long q2), .second, .val (.long q3), .second, .val (.long q4), .second, .val (.int p1), .val (.int p2), .val (.ref b), .val (.ref d), .val (.int (p1 &&& (31 : Int32))), .val (.int xo)] [(.int (1 : Int32))]))
  refine own_toW (fun t k => XS.goto X182.here hx rfl (pc0 := 143) (pc' := 147) rfl (hb hby at_143) (by decide) (by decide) k) ?_
  show own_FinW _ _ _ _ _ _ (T182.setTop (mkF m 147 #[.val (.long q1), .second, .val (.long q2), .second, .val (.long q3), .second, .val (.long q4), .second, .val (.int p1), .val (.int p2), .val (.ref b), .val (.ref d), .val (.int (p1 &&& (31 : Int32))), .val (.int xo)] [(.int (1 : Int32))]))
  refine own_retNW X182 hS172 (by rw [eh182]; exact (Nat.le_trans (Nat.le_refl _) (Keep.of_wr W178).1)) hx hlk (t := .boolean) hret (by simp) (hb hby at_147) (by decide) (by decide) ?_
  try rw [eh182]
  exact ⟨rfl, N182⟩
set_option maxRecDepth 65536 in
set_option maxHeartbeats 40000000 in
theorem comes_1 {Post : Tables → Env → Array Value → State → Outcome → State → Prop} (hpost : ∀ tb e args s v u, (limb_1_1.after args s (.returned v) u = true ∧ limb_1_2.after args s (.returned v) u = true ∧ True) → ReturnedEndW s (.returned v) u (Jvm.fieldLocs frame_1_writes args s ++ Jvm.arrayLocs frame_1_arrays args s ++ Jvm.staticLocs frame_1_statics s) 16 1280 → Post tb e args s (.returned v) u) :
    ArmFor flags0 classFile x code maxLocals ret World_1 tables_1 room_1 Calls_1 rest_1 Pre_1 Post := by
  intro l hfl _ _ p e ha hc hk s m args below hf hA hF happ hP
  obtain ⟨hcalls, hrest, hpre⟩ := hP
  obtain ⟨-, -, -, hnamed, -, -, -, hat⟩ := (Spec.applies_iff hf).mp happ
  obtain ⟨hg, hn⟩ := and_e (Cond.before_iff.mp (show (Jvm.Cond.and given_1 narrow_1).before args s = true from hpre))
  obtain ⟨g1, g2⟩ := and_e hg
  obtain ⟨g3, g4⟩ := and_e g2
  obtain ⟨g5, g6⟩ := and_e g4
  obtain ⟨g7, g8⟩ := and_e g6
  obtain ⟨g9, g10⟩ := and_e g8
  obtain ⟨g11, g12⟩ := and_e g10
  obtain ⟨w0, w1, w2, w3, w4, w5, rfl⟩ : ∃ w0 w1 w2 w3 w4 w5 : Value, args = #[w0, w1, w2, w3, w4, w5] := by
    have hs : args.size = 6 := by simpa [Cond.value, given_1] using g1
    obtain ⟨L⟩ := args
    match L, hs with
    | [w0, w1, w2, w3, w4, w5], _ => exact ⟨w0, w1, w2, w3, w4, w5, rfl⟩
  have hw := fun d (hd : d ∈ tables_1) => atoms_spec (ws := Jvm.Cond.code x code maxLocals ret :: tables_1) hat d (List.mem_cons_of_mem _ hd)
  have hfit : Fit s := fun {y c} hc i hi => by
    obtain ⟨ha, rfl⟩ := Array.getElem?_eq_some_iff.mp hc
    have q := List.all_eq_true.mp ((Array.all_eq_true_iff_forall_mem.mp hF) _ (Array.getElem_mem ha)) i (List.mem_range.mpr hi)
    simpa [Array.getElem?_eq_getElem hi] using q
  obtain ⟨i0, ei0⟩ := isL_v g3
  obtain rfl : w0 = (.long i0) := Option.some.inj ei0
  obtain ⟨i1, ei1⟩ := isL_v g5
  obtain rfl : w1 = (.long i1) := Option.some.inj ei1
  obtain ⟨i2, ei2⟩ := isL_v g7
  obtain rfl : w2 = (.long i2) := Option.some.inj ei2
  obtain ⟨i3, ei3⟩ := isL_v g9
  obtain rfl : w3 = (.long i3) := Option.some.inj ei3
  obtain ⟨i4, ei4⟩ := is_v g11
  obtain rfl : w4 = (.int i4) := Option.some.inj ei4
  obtain ⟨i5, ei5⟩ := is_v g12
  obtain rfl : w5 = (.int i5) := Option.some.inj ei5
  obtain ⟨n, o, h1, h2, h3, _, L, rfl, ⟨rfl, N⟩, hq⟩ := own_rm0 l s _ hw tables_1 i0 i1 i2 i3 i4 i5 s.heap s.heap.size (Nat.le_refl _) p e ha hc hk s m _ below hf ((Spec.applies_iff_loose hf).mp happ).1 ⟨rfl, State.Warmed39.refl s, rfl⟩ trivial
  refine ⟨n, _, h1, h2, h3, hpost _ _ _ _ _ _ ⟨Cond.after_iff.mpr rfl, Cond.after_iff.mpr (eq_i res_at (Term.int_eval (1)) rfl), trivial⟩ ⟨hq.1, hq.2.1, hq.2.2.1, (hq.2.2.2.sift fun y hy => Or.inr (N y hy)).mono (by decide) (by decide)⟩⟩
theorem main_1_1 : Claimed_1_1 := comes_1 fun _ _ _ _ _ _ h hF => ⟨h.1, hF⟩
theorem main_1_2 : Claimed_1_2 := comes_1 fun _ _ _ _ _ _ h hF => ⟨h.2.1, hF⟩
end Jvm.Pilot.@@N@@
namespace Jvm.Pilot.@@N@@
open Jvm Jvm.ClassFile Sem Op Lib Jvm.Free Jvm.Stand Jvm.Pilot.@@N@@.Jvm.D
/-! MADE BY PROGRAM (witnessworld.py) out of the Statement's table words and the real class files: 15 classes; the members and pool entries that the words name. The judged class is class 1, her method 3. -/
namespace start1
open Jvm.ClassFile
def u (s : String) : CpInfo := .utf8 (stringToUtf16 s)
/-- a pool by its gaps: so many unusable entries, then the entry; so many at the end -/
def gap : Nat → List CpInfo → List CpInfo
  | 0, r => r
  | n + 1, r => .unusable :: gap n r
def poolList (es : List (Nat × CpInfo)) (last : Nat) : List CpInfo := es.foldr (fun e r => gap e.1 (e.2 :: r)) (gap last [])
def pool (es : List (Nat × CpInfo)) (last : Nat) : Array CpInfo := ⟨poolList es last⟩
def fileOf (pool : Array CpInfo) (this : Nat) (attrs : Array Attribute := #[]) (ms : Array MethodInfo := #[]) (fl : Nat := 33) (sup : Nat := 0) (ifs : Array Nat := #[]) (fds : Array FieldInfo := #[]) : ClassFile where
  minorVersion := 0
  majorVersion := 65
  constantPool := pool
  accessFlags := fl
  thisClass := this
  superClass := sup
  interfaces := ifs
  fields := fds
  methods := ms
  attributes := attrs
def plain (name : String) (sup : Option ClassId) : Class where
  name := name
  kind := .ordinary
  loader := none
  accessFlags := 33
  super := sup
  interfaces := #[]
  cf := none
  fields := #[]
  methods := #[]
  instanceTypes := #[]
  staticTypes := #[]
  resolved := #[]
  callSites := []
  init := .initialized
  statics := none
  mirror := none

def pool0 : Array CpInfo := pool [(5, u "<init>"), (0, u "()V"), (1, .class_ 10), (1, u "java/lang/Object"), (85, u "clone"), (0, u "()Ljava/lang/Object;")] 26

def k0m0 : Method := { name := "<init>", desc := "()V", sig := { parameters := [], returnType := none }, accessFlags := 1, code := none }
def k0m1 : Method := { name := "clone", desc := "()Ljava/lang/Object;", sig := { parameters := [], returnType := some (.object "java/lang/Object") }, accessFlags := 260, code := none }
/-- java/lang/Object -/
def k0 : Class := { plain "java/lang/Object" none with
  accessFlags := 33
  interfaces := #[]
  cf := some (fileOf pool0 8 #[] #[{ accessFlags := 1, nameIndex := 5, descriptorIndex := 6, attributes := #[] }, { accessFlags := 260, nameIndex := 96, descriptorIndex := 97, attributes := #[] }] 33 0 #[] #[])
  fields := #[]
  methods := #[k0m0, k0m1]
  instanceTypes := #[]
  staticTypes := #[]
  resolved := Array.replicate 124 none
  statics := none }

def pool1 : Array CpInfo := pool [(2, .class_ 4), (1, u "java/lang/Object"), (0, u "<init>"), (0, u "()V"), (0, .methodref 8 9), (0, .class_ 10), (0, .nameAndType 11 12), (0, u "com/example/nuthatch/nuthatch/engine/Sha256RequireDigestPinLaw"), (0, u "put"), (0, u "([BIJ)V"), (0, .methodref 14 15), (0, .class_ 16), (0, .nameAndType 17 18), (0, u "com/example/nuthatch/nuthatch/engine/Sha256"), (0, u "requireDigest"), (0, u "([B)[B"), (0, .methodref 8 20), (0, .nameAndType 21 22), (0, u "same"), (0, u "([BIJ)Z"), (3, u "law"), (0, u "(JJJJII)Z")] 4

def k1m0 : Method := { name := "<init>", desc := "()V", sig := { parameters := [], returnType := none }, accessFlags := 2, code := none }
def k1c1 : Code := { maxStack := 5, maxLocals := 4, code := method_2_code, exceptionTable := #[], attributes := #[] }
def k1m1 : Method := { name := "put", desc := "([BIJ)V", sig := { parameters := [(.array .byte), .int, .long], returnType := none }, accessFlags := 10, code := some k1c1 }
def k1c2 : Code := { maxStack := 4, maxLocals := 4, code := method_3_code, exceptionTable := #[], attributes := #[] }
def k1m2 : Method := { name := "same", desc := "([BIJ)Z", sig := { parameters := [(.array .byte), .int, .long], returnType := some .boolean }, accessFlags := 10, code := some k1c2 }
def k1c3 : Code := { maxStack := 5, maxLocals := 14, code := code, exceptionTable := #[], attributes := #[] }
def k1m3 : Method := { name := "law", desc := "(JJJJII)Z", sig := { parameters := [.long, .long, .long, .long, .int, .int], returnType := some .boolean }, accessFlags := 9, code := some k1c3 }
/-- com/example/nuthatch/nuthatch/engine/Sha256RequireDigestPinLaw -/
def k1 : Class := { plain "com/example/nuthatch/nuthatch/engine/Sha256RequireDigestPinLaw" (some 0) with
  accessFlags := 49
  interfaces := #[]
  cf := some (fileOf pool1 8 #[] #[{ accessFlags := 2, nameIndex := 5, descriptorIndex := 6, attributes := #[] }, { accessFlags := 10, nameIndex := 11, descriptorIndex := 12, attributes := #[] }, { accessFlags := 10, nameIndex := 21, descriptorIndex := 22, attributes := #[] }, { accessFlags := 9, nameIndex := 26, descriptorIndex := 27, attributes := #[] }] 49 2 #[] #[])
  fields := #[]
  methods := #[k1m0, k1m1, k1m2, k1m3]
  instanceTypes := #[]
  staticTypes := #[]
  resolved := Array.replicate 32 none
  statics := none }

def pool2 : Array CpInfo := pool [(2, .class_ 4), (1, u "java/lang/Object"), (0, u "<init>"), (0, u "()V"), (1, .class_ 10), (1, u "com/example/nuthatch/nuthatch/engine/Sha256"), (0, u "DIGESTS"), (0, u "Ljava/lang/ThreadLocal;"), (5, u "()Ljava/lang/Object;"), (4, u "digest"), (0, u "([B)[B"), (0, .string 23), (0, .methodref 27 28), (0, .class_ 29), (0, .nameAndType 30 31), (0, u "java/util/Objects"), (0, u "requireNonNull"), (0, u "(Ljava/lang/Object;Ljava/lang/String;)Ljava/lang/Object;"), (9, .methodref 42 43), (0, .class_ 44), (0, .nameAndType 45 18), (0, u "[B"), (0, u "clone"), (22, u "LENGTH"), (0, u "I"), (2, u "ALGORITHM"), (0, u "Ljava/lang/String;"), (4, u "requireDigest")] 33

def k2m0 : Method := { name := "<init>", desc := "()V", sig := { parameters := [], returnType := none }, accessFlags := 2, code := none }
def k2c1 : Code := { maxStack := 3, maxLocals := 1, code := prog_17_method_3_code, exceptionTable := #[], attributes := #[] }
def k2m1 : Method := { name := "requireDigest", desc := "([B)[B", sig := { parameters := [(.array .byte)], returnType := some (.array .byte) }, accessFlags := 8, code := some k2c1 }
/-- com/example/nuthatch/nuthatch/engine/Sha256 -/
def k2 : Class := { plain "com/example/nuthatch/nuthatch/engine/Sha256" (some 0) with
  accessFlags := 32
  interfaces := #[]
  cf := some (fileOf pool2 8 #[] #[{ accessFlags := 2, nameIndex := 5, descriptorIndex := 6, attributes := #[] }, { accessFlags := 8, nameIndex := 78, descriptorIndex := 24, attributes := #[] }] 32 2 #[] #[{ accessFlags := 24, nameIndex := 68, descriptorIndex := 69, attributes := #[] }, { accessFlags := 26, nameIndex := 72, descriptorIndex := 73, attributes := #[] }, { accessFlags := 26, nameIndex := 11, descriptorIndex := 12, attributes := #[] }])
  fields := #[{ name := "LENGTH", type := .int, accessFlags := 24, slot := 0, constantValue := 0 }, { name := "ALGORITHM", type := (.object "java/lang/String"), accessFlags := 26, slot := 1, constantValue := 0 }, { name := "DIGESTS", type := (.object "java/lang/ThreadLocal"), accessFlags := 26, slot := 2, constantValue := 0 }]
  methods := #[k2m0, k2m1]
  instanceTypes := #[]
  staticTypes := #[.int, (.object "java/lang/String"), (.object "java/lang/ThreadLocal")]
  resolved := Array.replicate 112 none
  statics := none }

def pool3 : Array CpInfo := pool [(1, .class_ 2), (0, u "java/io/Serializable"), (0, .class_ 4), (0, u "java/lang/Object")] 2

/-- java/io/Serializable -/
def k3 : Class := { plain "java/io/Serializable" (some 0) with
  accessFlags := 1537
  interfaces := #[]
  cf := some (fileOf pool3 1 #[] #[] 1537 3 #[] #[])
  fields := #[]
  methods := #[]
  instanceTypes := #[]
  staticTypes := #[]
  resolved := Array.replicate 7 none
  statics := none }

def pool4 : Array CpInfo := pool [(1, .class_ 2), (0, u "java/lang/Comparable"), (0, .class_ 4), (0, u "java/lang/Object")] 7

/-- java/lang/Comparable -/
def k4 : Class := { plain "java/lang/Comparable" (some 0) with
  accessFlags := 1537
  interfaces := #[]
  cf := some (fileOf pool4 1 #[] #[] 1537 3 #[] #[])
  fields := #[]
  methods := #[]
  instanceTypes := #[]
  staticTypes := #[]
  resolved := Array.replicate 12 none
  statics := none }

def pool5 : Array CpInfo := pool [(2, .class_ 4), (1, u "java/lang/CharSequence"), (42, .class_ 48), (0, u "java/lang/CharSequence$1CodePointIterator"), (10, .class_ 60), (0, u "java/lang/CharSequence$1CharIterator"), (5, .class_ 67), (0, u "java/lang/Object")] 63

/-- java/lang/CharSequence -/
def k5 : Class := { plain "java/lang/CharSequence" (some 0) with
  accessFlags := 1537
  interfaces := #[]
  cf := some (fileOf pool5 2 #[.nestMembers #[47, 59]] #[] 1537 66 #[] #[])
  fields := #[]
  methods := #[]
  instanceTypes := #[]
  staticTypes := #[]
  resolved := Array.replicate 131 none
  statics := none }

def pool6 : Array CpInfo := pool [(1, .class_ 2), (0, u "java/lang/constant/Constable"), (0, .class_ 4), (0, u "java/lang/Object")] 6

/-- java/lang/constant/Constable -/
def k6 : Class := { plain "java/lang/constant/Constable" (some 0) with
  accessFlags := 1537
  interfaces := #[]
  cf := some (fileOf pool6 1 #[] #[] 1537 3 #[] #[])
  fields := #[]
  methods := #[]
  instanceTypes := #[]
  staticTypes := #[]
  resolved := Array.replicate 11 none
  statics := none }

def pool7 : Array CpInfo := pool [(1, .class_ 2), (0, u "java/lang/constant/ConstantDesc"), (0, .class_ 4), (0, u "java/lang/Object")] 32

/-- java/lang/constant/ConstantDesc -/
def k7 : Class := { plain "java/lang/constant/ConstantDesc" (some 0) with
  accessFlags := 1537
  interfaces := #[]
  cf := some (fileOf pool7 1 #[] #[] 1537 3 #[] #[])
  fields := #[]
  methods := #[]
  instanceTypes := #[]
  staticTypes := #[]
  resolved := Array.replicate 37 none
  statics := none }

def pool8 : Array CpInfo := pool [(2, .class_ 4), (1, u "java/lang/Object"), (0, u "<init>"), (0, u "()V"), (3, .class_ 12), (1, u "java/lang/String"), (0, u "value"), (0, u "[B"), (2, u "coder"), (0, u "B"), (2, u "hash"), (0, u "I"), (2, u "hashIsZero"), (0, u "Z"), (13, u "COMPACT_STRINGS"), (534, .class_ 576), (0, u "java/lang/CharSequence"), (22, u "CASE_INSENSITIVE_ORDER"), (0, u "Ljava/util/Comparator;"), (500, u "serialPersistentFields"), (0, u "[Ljava/io/ObjectStreamField;"), (0, .class_ 1104), (0, u "java/lang/String$CaseInsensitiveComparator"), (1, .class_ 1107), (0, u "java/io/Serializable"), (0, .class_ 1109), (0, u "java/lang/Comparable"), (0, .class_ 1111), (0, u "java/lang/constant/Constable"), (0, .class_ 1113), (0, u "java/lang/constant/ConstantDesc"), (2, u "serialVersionUID"), (0, u "J"), (3, u "REPL"), (0, u "C"), (2, u "LATIN1"), (1, u "UTF16")] 323

def k8m0 : Method := { name := "<init>", desc := "()V", sig := { parameters := [], returnType := none }, accessFlags := 1, code := none }
/-- java/lang/String -/
def k8 : Class := { plain "java/lang/String" (some 0) with
  accessFlags := 49
  interfaces := #[3, 4, 5, 6, 7]
  cf := some (fileOf pool8 10 #[.nestMembers #[1103]] #[{ accessFlags := 1, nameIndex := 5, descriptorIndex := 6, attributes := #[] }] 49 2 #[1106, 1108, 575, 1110, 1112] #[{ accessFlags := 18, nameIndex := 13, descriptorIndex := 14, attributes := #[] }, { accessFlags := 18, nameIndex := 17, descriptorIndex := 18, attributes := #[] }, { accessFlags := 2, nameIndex := 21, descriptorIndex := 22, attributes := #[] }, { accessFlags := 2, nameIndex := 25, descriptorIndex := 26, attributes := #[] }, { accessFlags := 26, nameIndex := 1116, descriptorIndex := 1117, attributes := #[] }, { accessFlags := 24, nameIndex := 40, descriptorIndex := 26, attributes := #[] }, { accessFlags := 26, nameIndex := 1101, descriptorIndex := 1102, attributes := #[] }, { accessFlags := 26, nameIndex := 1121, descriptorIndex := 1122, attributes := #[] }, { accessFlags := 25, nameIndex := 599, descriptorIndex := 600, attributes := #[] }, { accessFlags := 24, nameIndex := 1125, descriptorIndex := 18, attributes := #[] }, { accessFlags := 24, nameIndex := 1127, descriptorIndex := 18, attributes := #[] }])
  fields := #[{ name := "value", type := (.array .byte), accessFlags := 18, slot := 0, constantValue := 0 }, { name := "coder", type := .byte, accessFlags := 18, slot := 1, constantValue := 0 }, { name := "hash", type := .int, accessFlags := 2, slot := 2, constantValue := 0 }, { name := "hashIsZero", type := .boolean, accessFlags := 2, slot := 3, constantValue := 0 }, { name := "serialVersionUID", type := .long, accessFlags := 26, slot := 0, constantValue := 0 }, { name := "COMPACT_STRINGS", type := .boolean, accessFlags := 24, slot := 1, constantValue := 0 }, { name := "serialPersistentFields", type := (.array (.object "java/io/ObjectStreamField")), accessFlags := 26, slot := 2, constantValue := 0 }, { name := "REPL", type := .char, accessFlags := 26, slot := 3, constantValue := 0 }, { name := "CASE_INSENSITIVE_ORDER", type := (.object "java/util/Comparator"), accessFlags := 25, slot := 4, constantValue := 0 }, { name := "LATIN1", type := .byte, accessFlags := 24, slot := 5, constantValue := 0 }, { name := "UTF16", type := .byte, accessFlags := 24, slot := 6, constantValue := 0 }]
  methods := #[k8m0]
  instanceTypes := #[(.array .byte), .byte, .int, .boolean]
  staticTypes := #[.long, .boolean, (.array (.object "java/io/ObjectStreamField")), .char, (.object "java/util/Comparator"), .byte, .byte]
  resolved := Array.replicate 1451 none
  statics := none }

def pool9 : Array CpInfo := pool [(2, .class_ 4), (1, u "java/lang/Object"), (0, u "<init>"), (0, u "()V"), (35, .class_ 44), (1, u "java/util/Objects"), (0, u "requireNonNull"), (48, u "(Ljava/lang/Object;Ljava/lang/String;)Ljava/lang/Object;")] 89

def k9m0 : Method := { name := "<init>", desc := "()V", sig := { parameters := [], returnType := none }, accessFlags := 2, code := none }
def k9c1 : Code := { maxStack := 3, maxLocals := 2, code := jdk_31_method_11_code, exceptionTable := #[], attributes := #[] }
def k9m1 : Method := { name := "requireNonNull", desc := "(Ljava/lang/Object;Ljava/lang/String;)Ljava/lang/Object;", sig := { parameters := [(.object "java/lang/Object"), (.object "java/lang/String")], returnType := some (.object "java/lang/Object") }, accessFlags := 9, code := some k9c1 }
/-- java/util/Objects -/
def k9 : Class := { plain "java/util/Objects" (some 0) with
  accessFlags := 49
  interfaces := #[]
  cf := some (fileOf pool9 42 #[] #[{ accessFlags := 2, nameIndex := 5, descriptorIndex := 6, attributes := #[] }, { accessFlags := 9, nameIndex := 45, descriptorIndex := 94, attributes := #[] }] 49 2 #[] #[])
  fields := #[]
  methods := #[k9m0, k9m1]
  instanceTypes := #[]
  staticTypes := #[]
  resolved := Array.replicate 184 none
  statics := none }

def pool10 : Array CpInfo := pool [(1, .class_ 2), (0, u "java/lang/Cloneable"), (0, .class_ 4), (0, u "java/lang/Object")] 2

/-- java/lang/Cloneable -/
def k10 : Class := { plain "java/lang/Cloneable" (some 0) with
  accessFlags := 1537
  interfaces := #[]
  cf := some (fileOf pool10 1 #[] #[] 1537 3 #[] #[])
  fields := #[]
  methods := #[]
  instanceTypes := #[]
  staticTypes := #[]
  resolved := Array.replicate 7 none
  statics := none }

/-- the primitive byte -/
def k11 : Class := { plain "byte" none with kind := .primitive 'B', accessFlags := 0x411 }
/-- [B -/
def k12 : Class := { plain "[B" (some 0) with kind := .array 11 .byte, interfaces := #[10, 3], accessFlags := 1041 }

/-- the primitive int -/
def k13 : Class := { plain "int" none with kind := .primitive 'I', accessFlags := 0x411 }
/-- [I -/
def k14 : Class := { plain "[I" (some 0) with kind := .array 13 .int, interfaces := #[10, 3], accessFlags := 1041 }

def heap : Heap := #[]
def classes : Array Class := #[k0, k1, k2, k3, k4, k5, k6, k7, k8, k9, k10, k11, k12, k13, k14]
def interned : List (Array UInt16 × Addr) := []
def slotsUsed : Nat := 0
def theMethod : MethodId := ⟨1, 3⟩
def args0 : Array Value := #[.long 5, .long 7, .long 9, .long 3, .int 3, .int 4]
def aboutOver (below : List Frame) : State where
  vm := { classes := classes, interned := interned.toArray }
  heap := heap
  slotsUsed := slotsUsed
  threads := #[{ frames := .invoking theMethod args0 :: below }]
def below0 : List Frame := [.native { method := ⟨0, 0⟩, args := #[] }]
def about1 : State := aboutOver below0
def p0 : Program := .bare "" "" ""
def e0 : Env := launch0.env 0 0 0
theorem w_frames : about1.frames = Frame.invoking theMethod args0 :: below0 := rfl
set_option maxRecDepth 65536 in
theorem w_args : argsFit about1.vm theMethod args0 = true := by decide +kernel
set_option maxRecDepth 65536 in
theorem w_heap : heapFits about1 = true := by decide +kernel
set_option maxRecDepth 65536 in
theorem w_runnable : about1.curStatus? = some .runnable := by decide +kernel
set_option maxRecDepth 65536 in
theorem w_alone : about1.alone = true := by decide +kernel
set_option maxRecDepth 65536 in
theorem w_named : about1.methodNamed? x = some theMethod := by decide +kernel
set_option maxRecDepth 65536 in
theorem w_hears : about1.hears theMethod below0 = true := by decide +kernel
set_option maxRecDepth 65536 in
theorem w_ripe : about1.ripe theMethod args0 below0 = true := by decide +kernel
theorem w_running : about1.status = .running := rfl
set_option maxRecDepth 65536 in
theorem w_room : about1.hasRoom e0.platform room_1 = true :=
  launch0.hasRoom_least _ room_1 (by decide +kernel) (by decide +kernel) (by decide +kernel) (by decide +kernel) (by decide +kernel) (by decide +kernel)
theorem allAtoms_all (ts : List Jvm.Cond) (a : Array Jvm.Value) (st : Jvm.State) : (allAtoms ts).before a st = ts.all (fun c => c.before a st) := by
  induction ts with
  | nil => rfl
  | cons c t ih =>
    show (Jvm.Cond.and c (allAtoms t)).before a st = _
    rw [Jvm.Cond.before_and, ih, List.all_cons]
def words1 : List Jvm.Cond := Jvm.Cond.code x code maxLocals ret :: tables_1
/-- a 'code' word, met by the world's own term for the bytes: nothing is compared byte by byte -/
theorem code_word {y : MethodName} {bytes : ByteArray} {mx : Nat} {rt : Option FieldType} {a : Array Value} {s : State} {m : MethodId} {meth : Method} {c : Code} (h1 : s.methodNamed? y = some m) (h2 : s.vm.method? m = some meth) (h3 : meth.code = some c) (h4 : c.code = bytes)
    (h5 : (c.maxLocals == mx && c.exceptionTable.isEmpty && decide (c.maxStack ≤ mostOperands) && decide (meth.sig.returnType = rt) && !meth.locks && decide (parseMethodDescriptor y.desc = some meth.sig)) = true) : (Jvm.Cond.code y bytes mx rt).before a s = true := by
  simp only [Bool.and_eq_true, beq_iff_eq, Bool.not_eq_true', decide_eq_true_eq] at h5
  obtain ⟨⟨⟨⟨⟨g1, g2⟩, g3⟩, g4⟩, g5⟩, g6⟩ := h5
  simp [Cond.before, Cond.holds, Cond.value, h1, h2, h3, h4, g1, g2, g3, g4, g5, g6]
def isCode : Jvm.Cond → Bool
  | .code _ _ _ _ => true
  | _ => false
theorem all_split {L : List Jvm.Cond} {P : Jvm.Cond → Bool} (h1 : L.all (fun c => isCode c || P c) = true) (h2 : ∀ c ∈ L.filter isCode, P c = true) : L.all P = true := by
  refine List.all_eq_true.mpr fun c hc => ?_
  have h := List.all_eq_true.mp h1 c hc
  rcases Bool.eq_false_or_eq_true (isCode c) with hi | hi
  · exact h2 c (List.mem_filter.mpr ⟨hc, hi⟩)
  · simpa [hi] using h
set_option maxRecDepth 65536 in
theorem w_c0 : (Jvm.Cond.code x code maxLocals ret).before args0 about1 = true := code_word (m := ⟨1, 3⟩) (meth := k1m3) (c := k1c3) (by decide +kernel) rfl rfl rfl (by decide +kernel)
set_option maxRecDepth 65536 in
theorem w_c1 : (Jvm.Cond.code ({ cls := "com/example/nuthatch/nuthatch/engine/Sha256RequireDigestPinLaw", name := "put", desc := "([BIJ)V" } : Jvm.MethodName) method_2_code (4 : Nat) (Option.none : Option Jvm.ClassFile.FieldType)).before args0 about1 = true := code_word (m := ⟨1, 1⟩) (meth := k1m1) (c := k1c1) (by decide +kernel) rfl rfl rfl (by decide +kernel)
set_option maxRecDepth 65536 in
theorem w_c2 : (Jvm.Cond.code ({ cls := "com/example/nuthatch/nuthatch/engine/Sha256", name := "requireDigest", desc := "([B)[B" } : Jvm.MethodName) prog_17_method_3_code (1 : Nat) (Option.some (Jvm.ClassFile.FieldType.array Jvm.ClassFile.FieldType.byte))).before args0 about1 = true := code_word (m := ⟨2, 1⟩) (meth := k2m1) (c := k2c1) (by decide +kernel) rfl rfl rfl (by decide +kernel)
set_option maxRecDepth 65536 in
theorem w_c3 : (Jvm.Cond.code ({ cls := "java/util/Objects", name := "requireNonNull", desc := "(Ljava/lang/Object;Ljava/lang/String;)Ljava/lang/Object;" } : Jvm.MethodName) jdk_31_method_11_code (2 : Nat) (Option.some (Jvm.ClassFile.FieldType.object "java/lang/Object"))).before args0 about1 = true := code_word (m := ⟨9, 1⟩) (meth := k9m1) (c := k9c1) (by decide +kernel) rfl rfl rfl (by decide +kernel)
set_option maxRecDepth 65536 in
theorem w_c4 : (Jvm.Cond.code ({ cls := "com/example/nuthatch/nuthatch/engine/Sha256RequireDigestPinLaw", name := "same", desc := "([BIJ)Z" } : Jvm.MethodName) method_3_code (4 : Nat) (Option.some Jvm.ClassFile.FieldType.boolean)).before args0 about1 = true := code_word (m := ⟨1, 2⟩) (meth := k1m2) (c := k1c2) (by decide +kernel) rfl rfl rfl (by decide +kernel)
def codes1 : List Jvm.Cond := [Jvm.Cond.code x code maxLocals ret, Jvm.Cond.code ({ cls := "com/example/nuthatch/nuthatch/engine/Sha256RequireDigestPinLaw", name := "put", desc := "([BIJ)V" } : Jvm.MethodName) method_2_code (4 : Nat) (Option.none : Option Jvm.ClassFile.FieldType), Jvm.Cond.code ({ cls := "com/example/nuthatch/nuthatch/engine/Sha256", name := "requireDigest", desc := "([B)[B" } : Jvm.MethodName) prog_17_method_3_code (1 : Nat) (Option.some (Jvm.ClassFile.FieldType.array Jvm.ClassFile.FieldType.byte)), Jvm.Cond.code ({ cls := "java/util/Objects", name := "requireNonNull", desc := "(Ljava/lang/Object;Ljava/lang/String;)Ljava/lang/Object;" } : Jvm.MethodName) jdk_31_method_11_code (2 : Nat) (Option.some (Jvm.ClassFile.FieldType.object "java/lang/Object")), Jvm.Cond.code ({ cls := "com/example/nuthatch/nuthatch/engine/Sha256RequireDigestPinLaw", name := "same", desc := "([BIJ)Z" } : Jvm.MethodName) method_3_code (4 : Nat) (Option.some Jvm.ClassFile.FieldType.boolean)]
set_option maxRecDepth 65536 in
theorem codes_eq : words1.filter isCode = codes1 := rfl
theorem w_codes : ∀ c ∈ words1.filter isCode, c.before args0 about1 = true := by
  rw [codes_eq]
  intro c hc
  simp only [codes1, List.mem_cons, List.not_mem_nil, or_false] at hc
  rcases hc with rfl | rfl | rfl | rfl | rfl
  · exact w_c0
  · exact w_c1
  · exact w_c2
  · exact w_c3
  · exact w_c4
set_option maxRecDepth 65536 in
theorem w_t1 : (words1.take 24).all (fun c => isCode c || c.before args0 about1) = true := by decide +kernel
set_option maxRecDepth 65536 in
theorem w_t2 : (words1.drop 24).all (fun c => isCode c || c.before args0 about1) = true := by decide +kernel
theorem w_tables : (allAtoms (Jvm.Cond.code x code maxLocals ret :: tables_1)).before args0 about1 = true := by
  rw [allAtoms_all]
  show words1.all (fun c => c.before args0 about1) = true
  refine all_split ?_ w_codes
  rw [← List.take_append_drop 24 words1, List.all_append, w_t1, w_t2]
  rfl
set_option maxRecDepth 65536 in
theorem w_case : (Jvm.Cond.and given_1 narrow_1).before args0 about1 = true := by decide +kernel
theorem w_applies : (headSpec (Jvm.Cond.code x code maxLocals ret :: tables_1) room_1).applies x e0.platform about1 = true :=
  (Spec.applies_iff w_frames).mpr ⟨w_running, w_runnable, w_alone, w_named, w_hears, w_ripe, w_room, w_tables⟩
theorem atStart : AtStart classFile x code maxLocals ret World_1 tables_1 room_1 Calls_1 rest_1 Pre_1 launch0 p0 e0 about1 theMethod args0 below0 :=
  ⟨lists_1, trivial, launch0.admits_env _ _ _, launch0.least_env, fairChoices_fair.cas, fairChoices_fair.clock, w_frames, w_args, w_heap, w_applies, trivial, trivial, w_case⟩
end start1
theorem witness_1 : WitnessClaimed_1 := ⟨start1.p0, start1.e0, start1.about1, start1.theMethod, start1.args0, start1.below0, start1.atStart⟩
end Jvm.Pilot.@@N@@
