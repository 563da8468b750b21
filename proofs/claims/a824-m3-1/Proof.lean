import JvmDerived
import JvmDerived.Pilot.@@N@@Statement
import JvmDerived.Pilot.@@N@@Code
set_option linter.unusedVariables false
set_option linter.unusedSimpArgs false
@@BLOCK:NumsL.lean.txt@@
namespace Jvm.Pilot.@@N@@
open Jvm Jvm.ClassFile Sem Op Lib Jvm.Free Jvm.Stand Jvm.LawKit Jvm.RoadKit Bundle Jvm.Pilot.@@N@@.Jvm.D
section Own
variable {p : Program} {l : Launch} {e : Env} {R : Room} {s Z : State} {m : MethodId} {args : Array Value} {below : List Frame} {meth : Method} {c : Code} {T : State} {locs : List Loc} {cells slots : Nat} {q : Option Value → Heap → List Loc → Prop}
/-- from U the run ends in a return, as q says -/
def own_Fin (p : Program) (e : Env) (below : List Frame) (s : State) (R : Room) (q : Option Value → Heap → List Loc → Prop) (U : State) : Prop :=
  ∃ s₂ o, Steps p.tables e below U s₂ ∧ s₂.status = .running ∧ Ended s₂ below o ∧ ∃ v L, o = .returned v ∧ q v s₂.heap L ∧ FrameEnd s o s₂ L R.cells R.slots
theorem own_to {U U' : State} (h : ∀ t, Steps p.tables e below U' t → Steps p.tables e below U t) (k : own_Fin p e below s R q U') : own_Fin p e below s R q U := by
  obtain ⟨s₂, o, h1, r⟩ := k
  exact ⟨s₂, o, h _ h1, r⟩
theorem own_ite {C : Prop} [Decidable C] {G : Int32 → State} {U : State} {v1 v0 : Int32} (k : own_Fin p e below s R q (G (if C then v1 else v0))) (h1 : C → own_Fin p e below s R q (G v1) → own_Fin p e below s R q U) (h0 : ¬ C → own_Fin p e below s R q (G v0) → own_Fin p e below s R q U) : own_Fin p e below s R q U := by
  by_cases h : C
  · rw [if_pos h] at k; exact h1 h k
  · rw [if_neg h] at k; exact h0 h k
theorem own_cut {U V : State} (k : own_Fin p e below s R q V) (h : own_Fin p e below s R q V → own_Fin p e below s R q U) : own_Fin p e below s R q U := h k
theorem own_retN (X : Stand p l e R s m args below meth c T locs cells slots) (hx : p.tables.exec = Jvm.exec) (hlk : meth.locks = false) {pc : Nat} {Ls : Array Slot} {z : Int32} {t : FieldType} {rest : List Value} (hret : meth.sig.returnType = some t) (ht : t = .boolean ∨ t = .byte ∨ t = .char ∨ t = .short) (hd : decode c.code pc = .ok (.ireturn, 1)) (hc : cells ≤ R.cells) (hs : slots ≤ R.slots) (hq : q (some (.int (nar t z))) T.heap locs) :
    own_Fin p e below s R q (T.setTop (mkF m pc Ls (.int z :: rest))) := by
  obtain ⟨fs, hr, hrun, hended, hW, hsame⟩ := X.leave (v := some (.int (nar t z))) (fun h => by rw [hret] at h; cases h)
  exact ⟨_, _, retN X hx hret ht hd hr, hrun, hended, _, _, rfl, hq, ⟨_, rfl⟩, hW, hsame.mono hc hs⟩
theorem own_retI (X : Stand p l e R s m args below meth c T locs cells slots) (hx : p.tables.exec = Jvm.exec) (hlk : meth.locks = false) {pc : Nat} {Ls : Array Slot} {z : Int32} {rest : List Value} (hret : meth.sig.returnType = some .int) (hd : decode c.code pc = .ok (.ireturn, 1)) (hc : cells ≤ R.cells) (hs : slots ≤ R.slots) (hq : q (some (.int z)) T.heap locs) :
    own_Fin p e below s R q (T.setTop (mkF m pc Ls (.int z :: rest))) := by
  obtain ⟨fs, hr, hrun, hended, hW, hsame⟩ := X.leave (v := some (.int z)) (fun h => by rw [hret] at h; cases h)
  exact ⟨_, _, retOut X hx hret rfl (Or.inl ⟨rfl, Or.inl rfl, z, rfl⟩) hd hr, hrun, hended, _, _, rfl, hq, ⟨_, rfl⟩, hW, hsame.mono hc hs⟩
theorem own_retJ (X : Stand p l e R s m args below meth c T locs cells slots) (hx : p.tables.exec = Jvm.exec) (hlk : meth.locks = false) {pc : Nat} {Ls : Array Slot} {z : Int64} {rest : List Value} (hret : meth.sig.returnType = some .long) (hd : decode c.code pc = .ok (.lreturn, 1)) (hc : cells ≤ R.cells) (hs : slots ≤ R.slots) (hq : q (some (.long z)) T.heap locs) :
    own_Fin p e below s R q (T.setTop (mkF m pc Ls (.long z :: rest))) := by
  obtain ⟨fs, hr, hrun, hended, hW, hsame⟩ := X.leave (v := some (.long z)) (fun h => by rw [hret] at h; cases h)
  exact ⟨_, _, retOut X hx hret rfl (Or.inr (Or.inl ⟨rfl, rfl, z, rfl⟩)) hd hr, hrun, hended, _, _, rfl, hq, ⟨_, rfl⟩, hW, hsame.mono hc hs⟩
theorem own_retR (X : Stand p l e R s m args below meth c T locs cells slots) (hx : p.tables.exec = Jvm.exec) (hlk : meth.locks = false) {pc : Nat} {Ls : Array Slot} {w : Value} {t : FieldType} {rest : List Value} (hret : meth.sig.returnType = some t) (ht : t.isReference = true) (hw : w.isRef = true) (hn : narrow t w = w) (hd : decode c.code pc = .ok (.areturn, 1)) (hc : cells ≤ R.cells) (hs : slots ≤ R.slots) (hq : q (some w) T.heap locs) :
    own_Fin p e below s R q (T.setTop (mkF m pc Ls (w :: rest))) := by
  obtain ⟨fs, hr, hrun, hended, hW, hsame⟩ := X.leave (v := some w) (fun h => by rw [hret] at h; cases h)
  exact ⟨_, _, retOut X hx hret hn (Or.inr (Or.inr (Or.inr (Or.inr ⟨rfl, ht, hw⟩)))) hd hr, hrun, hended, _, _, rfl, hq, ⟨_, rfl⟩, hW, hsame.mono hc hs⟩
theorem own_retV (X : Stand p l e R s m args below meth c T locs cells slots) (hx : p.tables.exec = Jvm.exec) (hlk : meth.locks = false) {pc : Nat} {Ls : Array Slot} (hret : meth.sig.returnType = none) (hd : decode c.code pc = .ok (.return_, 1)) (hc : cells ≤ R.cells) (hs : slots ≤ R.slots) (hq : q none T.heap locs) :
    own_Fin p e below s R q (T.setTop (mkF m pc Ls [])) := by
  obtain ⟨fs, hr, hrun, hended, hW, hsame⟩ := X.leave (v := none) (fun _ => rfl)
  exact ⟨_, _, X.returnOut hx hret hd hr, hrun, hended, _, _, rfl, hq, ⟨_, rfl⟩, hW, hsame.mono hc hs⟩
/-- the contract of a body at given arguments and a given heap -/
abbrev own_Met (l : Launch) (Z : State) (y : MethodName) (bytes : ByteArray) (maxL : Nat) (ret : Option FieldType) (ws : List Jvm.Cond) (rm : Room) (as' : Array Value) (h0 : Heap) (q : Option Value → Heap → List Loc → Prop) : Prop :=
  MetFree l y (head1 (Jvm.Cond.code y bytes maxL ret :: ws) rm) (fun a U => a = as' ∧ Z.Warmed39 U.vm ∧ U.heap = h0) (fun _ _ _ _ _ => True) (fun _ U o U' => ∃ v L, o = .returned v ∧ q v U'.heap L ∧ FrameEnd U o U' L rm.cells rm.slots)
theorem own_back {a0 : Array Value} {h : Heap} {y : MethodName} {bytes : ByteArray} {maxL : Nat} {ret : Option FieldType} {rm : Room} {len W : Nat} {as' : Array Value} (hM : own_Met l Z y bytes maxL ret [] rm as' h q)
    (hZ : Z.Warmed39 s.vm) (wc : (Jvm.Cond.code y bytes maxL ret).before a0 Z = true) (wz : (Jvm.Cond.initialized y.cls).before a0 Z = true) (hf : rm.frames + 1 ≤ R.frames) (hl : W + (maxL + 11) + rm.locals ≤ R.locals) :
    Back l R p e below s args y len W (fun A a => a = as' ∧ A.U.heap = h ∧ A.cells + rm.cells ≤ R.cells ∧ A.slots + rm.slots ≤ R.slots)
      (fun A _ v B => ∃ L, q v B.U.heap L ∧ B.locs = A.locs ++ L ∧ B.cells = A.cells + rm.cells ∧ B.slots = A.slots + rm.slots) := backOf (Q := q) hM hZ wc wz hf hl
theorem own_enter {y : MethodName} {bytes : ByteArray} {maxL : Nat} {ret : Option FieldType} {ws : List Jvm.Cond} {rm : Room} {as' : Array Value} {h0 : Heap} (hpl : plainFor y = true)
    (k : ∀ (p : Program) (e : Env) (s : State) (m : MethodId) (below : List Frame) (meth : Method) (c : Code) (s₁ : State), Stand p l e rm s m as' below meth c s₁ [] 0 0 → p.tables.exec = Jvm.exec → Z.Warmed39 s.vm → c.code = bytes → c.maxLocals = maxL → s.vm.findClass y.cls = some m.cls → meth.name = y.name → meth.sig.returnType = ret → meth.locks = false → s₁.heap = h0 → own_Fin p e below s rm q (s₁.setTop (entryFrame m as' maxL))) :
    own_Met l Z y bytes maxL ret ws rm as' h0 q := by
  refine MetFree.of_bodySF hpl hisR ?_
  intro p e s m args below meth c s₁ Bd hml0 hP hK
  obtain ⟨rfl, hZ, hh⟩ := hP
  exact k p e s m below meth c s₁ (Stand.of_body Bd) Bd.exec hZ Bd.bytes hml0 (findClass_of_methodNamed Bd.named) (name_of_methodNamed Bd.named Bd.method).1 Bd.returns Bd.notSynchronized (by rw [← hh, Bd.state]; rfl)
theorem own_selP {a : Array Value} {y y' : MethodName} (w : (Jvm.Cond.selects y'.cls y' y').before a s = true) (hc : y'.cls = y.cls) (hp : s.PrivateAt y) (hi : (Jvm.Cond.instanceMethod y).before a s = true) (hy : y.cls ≠ "java/lang/invoke/MethodHandle" ∧ y.cls ≠ "java/lang/invoke/VarHandle") : (Jvm.Cond.selects y.cls y y).before a s = true := by
  obtain ⟨c, r, m, h1, -, h3, -, mk, h4, h5⟩ := Cond.selects_spec w
  exact selects_self_of_private (c := m.cls) (k := mk) (hc ▸ findClass_of_methodNamed h3) h4 h5 hp hi hy
end Own
def own_nlz (p1 : Int32) : Int32 := (if (0 : Int32) < p1 then (if p1 < (65536 : Int32) then (if p1 < (256 : Int32) then (if p1 < (16 : Int32) then (if p1 < (4 : Int32) then ((31 : Int32) - ((p1.toUInt32 >>> ((1 : Int32) &&& 31).toUInt32).toInt32)) else (((31 : Int32) + (-2 : Int32)) - ((((p1.toUInt32 >>> ((2 : Int32) &&& 31).toUInt32).toInt32).toUInt32 >>> ((1 : Int32) &&& 31).toUInt32).toInt32))) else (if ((p1.toUInt32 >>> ((4 : Int32) &&& 31).toUInt32).toInt32) < (4 : Int32) then (((31 : Int32) + (-4 : Int32)) - ((((p1.toUInt32 >>> ((4 : Int32) &&& 31).toUInt32).toInt32).toUInt32 >>> ((1 : Int32) &&& 31).toUInt32).toInt32)) else ((((31 : Int32) + (-4 : Int32)) + (-2 : Int32)) - ((((((p1.toUInt32 >>> ((4 : Int32) &&& 31).toUInt32).toInt32).toUInt32 >>> ((2 : Int32) &&& 31).toUInt32).toInt32).toUInt32 >>> ((1 : Int32) &&& 31).toUInt32).toInt32)))) else (if ((p1.toUInt32 >>> ((8 : Int32) &&& 31).toUInt32).toInt32) < (16 : Int32) then (if ((p1.toUInt32 >>> ((8 : Int32) &&& 31).toUInt32).toInt32) < (4 : Int32) then (((31 : Int32) + (-8 : Int32)) - ((((p1.toUInt32 >>> ((8 : Int32) &&& 31).toUInt32).toInt32).toUInt32 >>> ((1 : Int32) &&& 31).toUInt32).toInt32)) else ((((31 : Int32) + (-8 : Int32)) + (-2 : Int32)) - ((((((p1.toUInt32 >>> ((8 : Int32) &&& 31).toUInt32).toInt32).toUInt32 >>> ((2 : Int32) &&& 31).toUInt32).toInt32).toUInt32 >>> ((1 : Int32) &&& 31).toUInt32).toInt32))) else (if ((((p1.toUInt32 >>> ((8 : Int32) &&& 31).toUInt32).toInt32).toUInt32 >>> ((4 : Int32) &&& 31).toUInt32).toInt32) < (4 : Int32) then ((((31 : Int32) + (-8 : Int32)) + (-4 : Int32)) - ((((((p1.toUInt32 >>> ((8 : Int32) &&& 31).toUInt32).toInt32).toUInt32 >>> ((4 : Int32) &&& 31).toUInt32).toInt32).toUInt32 >>> ((1 : Int32) &&& 31).toUInt32).toInt32)) else (((((31 : Int32) + (-8 : Int32)) + (-4 : Int32)) + (-2 : Int32)) - ((((((((p1.toUInt32 >>> ((8 : Int32) &&& 31).toUInt32).toInt32).toUInt32 >>> ((4 : Int32) &&& 31).toUInt32).toInt32).toUInt32 >>> ((2 : Int32) &&& 31).toUInt32).toInt32).toUInt32 >>> ((1 : Int32) &&& 31).toUInt32).toInt32))))) else (if ((p1.toUInt32 >>> ((16 : Int32) &&& 31).toUInt32).toInt32) < (256 : Int32) then (if ((p1.toUInt32 >>> ((16 : Int32) &&& 31).toUInt32).toInt32) < (16 : Int32) then (if ((p1.toUInt32 >>> ((16 : Int32) &&& 31).toUInt32).toInt32) < (4 : Int32) then (((31 : Int32) + (-16 : Int32)) - ((((p1.toUInt32 >>> ((16 : Int32) &&& 31).toUInt32).toInt32).toUInt32 >>> ((1 : Int32) &&& 31).toUInt32).toInt32)) else ((((31 : Int32) + (-16 : Int32)) + (-2 : Int32)) - ((((((p1.toUInt32 >>> ((16 : Int32) &&& 31).toUInt32).toInt32).toUInt32 >>> ((2 : Int32) &&& 31).toUInt32).toInt32).toUInt32 >>> ((1 : Int32) &&& 31).toUInt32).toInt32))) else (if ((((p1.toUInt32 >>> ((16 : Int32) &&& 31).toUInt32).toInt32).toUInt32 >>> ((4 : Int32) &&& 31).toUInt32).toInt32) < (4 : Int32) then ((((31 : Int32) + (-16 : Int32)) + (-4 : Int32)) - ((((((p1.toUInt32 >>> ((16 : Int32) &&& 31).toUInt32).toInt32).toUInt32 >>> ((4 : Int32) &&& 31).toUInt32).toInt32).toUInt32 >>> ((1 : Int32) &&& 31).toUInt32).toInt32)) else (((((31 : Int32) + (-16 : Int32)) + (-4 : Int32)) + (-2 : Int32)) - ((((((((p1.toUInt32 >>> ((16 : Int32) &&& 31).toUInt32).toInt32).toUInt32 >>> ((4 : Int32) &&& 31).toUInt32).toInt32).toUInt32 >>> ((2 : Int32) &&& 31).toUInt32).toInt32).toUInt32 >>> ((1 : Int32) &&& 31).toUInt32).toInt32)))) else (if ((((p1.toUInt32 >>> ((16 : Int32) &&& 31).toUInt32).toInt32).toUInt32 >>> ((8 : Int32) &&& 31).toUInt32).toInt32) < (16 : Int32) then (if ((((p1.toUInt32 >>> ((16 : Int32) &&& 31).toUInt32).toInt32).toUInt32 >>> ((8 : Int32) &&& 31).toUInt32).toInt32) < (4 : Int32) then ((((31 : Int32) + (-16 : Int32)) + (-8 : Int32)) - ((((((p1.toUInt32 >>> ((16 : Int32) &&& 31).toUInt32).toInt32).toUInt32 >>> ((8 : Int32) &&& 31).toUInt32).toInt32).toUInt32 >>> ((1 : Int32) &&& 31).toUInt32).toInt32)) else (((((31 : Int32) + (-16 : Int32)) + (-8 : Int32)) + (-2 : Int32)) - ((((((((p1.toUInt32 >>> ((16 : Int32) &&& 31).toUInt32).toInt32).toUInt32 >>> ((8 : Int32) &&& 31).toUInt32).toInt32).toUInt32 >>> ((2 : Int32) &&& 31).toUInt32).toInt32).toUInt32 >>> ((1 : Int32) &&& 31).toUInt32).toInt32))) else (if ((((((p1.toUInt32 >>> ((16 : Int32) &&& 31).toUInt32).toInt32).toUInt32 >>> ((8 : Int32) &&& 31).toUInt32).toInt32).toUInt32 >>> ((4 : Int32) &&& 31).toUInt32).toInt32) < (4 : Int32) then (((((31 : Int32) + (-16 : Int32)) + (-8 : Int32)) + (-4 : Int32)) - ((((((((p1.toUInt32 >>> ((16 : Int32) &&& 31).toUInt32).toInt32).toUInt32 >>> ((8 : Int32) &&& 31).toUInt32).toInt32).toUInt32 >>> ((4 : Int32) &&& 31).toUInt32).toInt32).toUInt32 >>> ((1 : Int32) &&& 31).toUInt32).toInt32)) else ((((((31 : Int32) + (-16 : Int32)) + (-8 : Int32)) + (-4 : Int32)) + (-2 : Int32)) - ((((((((((p1.toUInt32 >>> ((16 : Int32) &&& 31).toUInt32).toInt32).toUInt32 >>> ((8 : Int32) &&& 31).toUInt32).toInt32).toUInt32 >>> ((4 : Int32) &&& 31).toUInt32).toInt32).toUInt32 >>> ((2 : Int32) &&& 31).toUInt32).toInt32).toUInt32 >>> ((1 : Int32) &&& 31).toUInt32).toInt32)))))) else (if p1 = (0 : Int32) then (32 : Int32) else (0 : Int32)))
theorem own_d3_0 : decode jdk_33_method_47_code 0 = .ok (.iload_n 0, 1) := by decide +kernel
theorem own_d3_1 : decode jdk_33_method_47_code 1 = .ok (.ifCond .gt 14, 3) := by decide +kernel
theorem own_d3_4 : decode jdk_33_method_47_code 4 = .ok (.iload_n 0, 1) := by decide +kernel
theorem own_d3_5 : decode jdk_33_method_47_code 5 = .ok (.ifCond .ne 8, 3) := by decide +kernel
theorem own_d3_8 : decode jdk_33_method_47_code 8 = .ok (.bipush 32, 2) := by decide +kernel
theorem own_d3_10 : decode jdk_33_method_47_code 10 = .ok (.goto 4, 3) := by decide +kernel
theorem own_d3_13 : decode jdk_33_method_47_code 13 = .ok (.iconst 0, 1) := by decide +kernel
theorem own_d3_14 : decode jdk_33_method_47_code 14 = .ok (.ireturn, 1) := by decide +kernel
theorem own_d3_15 : decode jdk_33_method_47_code 15 = .ok (.bipush 31, 2) := by decide +kernel
theorem own_d3_17 : decode jdk_33_method_47_code 17 = .ok (.istore_n 1, 1) := by decide +kernel
theorem own_d3_18 : decode jdk_33_method_47_code 18 = .ok (.iload_n 0, 1) := by decide +kernel
theorem own_d3_19 : decode jdk_33_method_47_code 19 = .ok (.ldc_w 264, 3) := by decide +kernel
theorem own_d3_22 : decode jdk_33_method_47_code 22 = .ok (.if_icmp .lt 11, 3) := by decide +kernel
theorem own_d3_25 : decode jdk_33_method_47_code 25 = .ok (.iinc 1 (-16), 3) := by decide +kernel
theorem own_d3_28 : decode jdk_33_method_47_code 28 = .ok (.iload_n 0, 1) := by decide +kernel
theorem own_d3_29 : decode jdk_33_method_47_code 29 = .ok (.bipush 16, 2) := by decide +kernel
theorem own_d3_31 : decode jdk_33_method_47_code 31 = .ok (.iushr, 1) := by decide +kernel
theorem own_d3_32 : decode jdk_33_method_47_code 32 = .ok (.istore_n 0, 1) := by decide +kernel
theorem own_d3_33 : decode jdk_33_method_47_code 33 = .ok (.iload_n 0, 1) := by decide +kernel
theorem own_d3_34 : decode jdk_33_method_47_code 34 = .ok (.sipush 256, 3) := by decide +kernel
theorem own_d3_37 : decode jdk_33_method_47_code 37 = .ok (.if_icmp .lt 11, 3) := by decide +kernel
theorem own_d3_40 : decode jdk_33_method_47_code 40 = .ok (.iinc 1 (-8), 3) := by decide +kernel
theorem own_d3_43 : decode jdk_33_method_47_code 43 = .ok (.iload_n 0, 1) := by decide +kernel
theorem own_d3_44 : decode jdk_33_method_47_code 44 = .ok (.bipush 8, 2) := by decide +kernel
theorem own_d3_46 : decode jdk_33_method_47_code 46 = .ok (.iushr, 1) := by decide +kernel
theorem own_d3_47 : decode jdk_33_method_47_code 47 = .ok (.istore_n 0, 1) := by decide +kernel
theorem own_d3_48 : decode jdk_33_method_47_code 48 = .ok (.iload_n 0, 1) := by decide +kernel
theorem own_d3_49 : decode jdk_33_method_47_code 49 = .ok (.bipush 16, 2) := by decide +kernel
theorem own_d3_51 : decode jdk_33_method_47_code 51 = .ok (.if_icmp .lt 10, 3) := by decide +kernel
theorem own_d3_54 : decode jdk_33_method_47_code 54 = .ok (.iinc 1 (-4), 3) := by decide +kernel
theorem own_d3_57 : decode jdk_33_method_47_code 57 = .ok (.iload_n 0, 1) := by decide +kernel
theorem own_d3_58 : decode jdk_33_method_47_code 58 = .ok (.iconst 4, 1) := by decide +kernel
theorem own_d3_59 : decode jdk_33_method_47_code 59 = .ok (.iushr, 1) := by decide +kernel
theorem own_d3_60 : decode jdk_33_method_47_code 60 = .ok (.istore_n 0, 1) := by decide +kernel
theorem own_d3_61 : decode jdk_33_method_47_code 61 = .ok (.iload_n 0, 1) := by decide +kernel
theorem own_d3_62 : decode jdk_33_method_47_code 62 = .ok (.iconst 4, 1) := by decide +kernel
theorem own_d3_63 : decode jdk_33_method_47_code 63 = .ok (.if_icmp .lt 10, 3) := by decide +kernel
theorem own_d3_66 : decode jdk_33_method_47_code 66 = .ok (.iinc 1 (-2), 3) := by decide +kernel
theorem own_d3_69 : decode jdk_33_method_47_code 69 = .ok (.iload_n 0, 1) := by decide +kernel
theorem own_d3_70 : decode jdk_33_method_47_code 70 = .ok (.iconst 2, 1) := by decide +kernel
theorem own_d3_71 : decode jdk_33_method_47_code 71 = .ok (.iushr, 1) := by decide +kernel
theorem own_d3_72 : decode jdk_33_method_47_code 72 = .ok (.istore_n 0, 1) := by decide +kernel
theorem own_d3_73 : decode jdk_33_method_47_code 73 = .ok (.iload_n 1, 1) := by decide +kernel
theorem own_d3_74 : decode jdk_33_method_47_code 74 = .ok (.iload_n 0, 1) := by decide +kernel
theorem own_d3_75 : decode jdk_33_method_47_code 75 = .ok (.iconst 1, 1) := by decide +kernel
theorem own_d3_76 : decode jdk_33_method_47_code 76 = .ok (.iushr, 1) := by decide +kernel
theorem own_d3_77 : decode jdk_33_method_47_code 77 = .ok (.isub, 1) := by decide +kernel
theorem own_d3_78 : decode jdk_33_method_47_code 78 = .ok (.ireturn, 1) := by decide +kernel
theorem own_pn0 : plainName "java/lang/Integer" = true := by first | (simp [plainName, overriddenIn]; done) | decide +kernel
theorem own_rm3_ef (m : MethodId) (p1 : Int32) : entryFrame m #[(.int p1)] 2 = mkF m 0 #[.val (.int p1), .unset] [] := by first | (simp [entryFrame, mkF, argsToLocals, Value.category]; done) | rfl
set_option maxRecDepth 65536 in
set_option maxHeartbeats 40000000 in
theorem own_rm3 (l : Launch) (Z : State) (a0 : Array Value) (hw : ∀ d ∈ tables_1, d.before a0 Z = true) (ws : List Jvm.Cond) (p1 : Int32) (h0 : Heap) (n0 : Nat) (Z0 : n0 ≤ h0.size) :
    own_Met l Z (⟨"java/lang/Integer", "numberOfLeadingZeros", "(I)I"⟩ : MethodName) jdk_33_method_47_code 2 (some .int) ws ({ frames := 0, cells := 0, slots := 0, locals := 0 } : Room) #[(.int p1)] h0 (fun v h L => v = some (.int (own_nlz p1)) ∧ Fr n0 L ∧ h = h0) := by
  refine own_enter (plainFor_of_name own_pn0) ?_
  intro p e s m below meth c s₁ X0 hx hZ hby hml hown hnm hret hlk e0
  have N0 := Fr.nil n0
  rw [own_rm3_ef m p1]
  show own_Fin _ _ _ _ _ _ (s₁.setTop (mkF m 0 #[.val (.int p1), .unset] []))
  refine own_to (fun t k => XS.iloadN X0.here hx rfl (hb hby own_d3_0) rfl k) ?_
  show own_Fin _ _ _ _ _ _ (s₁.setTop (mkF m 1 #[.val (.int p1), .unset] [(.int p1)]))
  by_cases hc1_1 : (0 : Int32) < p1
  ·
    show own_Fin _ _ _ _ _ _ (s₁.setTop (mkF m 1 #[.val (.int p1), .unset] [(.int p1)]))
    refine own_to (fun t k => XS.ifYes X0.here hx rfl (pc0 := 1) (pc' := 15) rfl (hb hby own_d3_1) rfl ((if0 _ _).trans (tlt hc1_1).2.2.1) (by decide) (by decide) k) ?_
    show own_Fin _ _ _ _ _ _ (s₁.setTop (mkF m 15 #[.val (.int p1), .unset] []))
    refine own_to (fun t k => XS.bipush X0.here hx rfl (hb hby own_d3_15) k) ?_
    show own_Fin _ _ _ _ _ _ (s₁.setTop (mkF m 17 #[.val (.int p1), .unset] [(.int (31 : Int32))]))
    refine own_to (fun t k => XS.istoreN X0.here hx rfl (hb hby own_d3_17) rfl (l' := #[.val (.int p1), .val (.int (31 : Int32))]) rfl k) ?_
    show own_Fin _ _ _ _ _ _ (s₁.setTop (mkF m 18 #[.val (.int p1), .val (.int (31 : Int32))] []))
    refine own_to (fun t k => XS.iloadN X0.here hx rfl (hb hby own_d3_18) rfl k) ?_
    show own_Fin _ _ _ _ _ _ (s₁.setTop (mkF m 19 #[.val (.int p1), .val (.int (31 : Int32))] [(.int p1)]))
    refine own_to (fun t k => X0.ldcwInt hx hown (mvT hZ (hw _ (List.mem_of_getElem? (i := 13) rfl))) (g := (mkF m 19 #[.val (.int p1), .val (.int (31 : Int32))] [(.int p1)])) rfl (hb hby own_d3_19) _ k) ?_
    show own_Fin _ _ _ _ _ _ (s₁.setTop (mkF m 22 #[.val (.int p1), .val (.int (31 : Int32))] [(.int (65536 : Int32)), (.int p1)]))
    by_cases hc22_2 : p1 < (65536 : Int32)
    ·
      show own_Fin _ _ _ _ _ _ (s₁.setTop (mkF m 22 #[.val (.int p1), .val (.int (31 : Int32))] [(.int (65536 : Int32)), (.int p1)]))
      refine own_to (fun t k => XS.icmpYes X0.here hx rfl (pc0 := 22) (pc' := 33) rfl (hb hby own_d3_22) rfl (tlt hc22_2).1 (by decide) (by decide) k) ?_
      show own_Fin _ _ _ _ _ _ (s₁.setTop (mkF m 33 #[.val (.int p1), .val (.int (31 : Int32))] []))
      refine own_to (fun t k => XS.iloadN X0.here hx rfl (hb hby own_d3_33) rfl k) ?_
      show own_Fin _ _ _ _ _ _ (s₁.setTop (mkF m 34 #[.val (.int p1), .val (.int (31 : Int32))] [(.int p1)]))
      refine own_to (fun t k => XS.sipush X0.here hx rfl (hb hby own_d3_34) k) ?_
      show own_Fin _ _ _ _ _ _ (s₁.setTop (mkF m 37 #[.val (.int p1), .val (.int (31 : Int32))] [(.int (256 : Int32)), (.int p1)]))
      by_cases hc37_3 : p1 < (256 : Int32)
      ·
        show own_Fin _ _ _ _ _ _ (s₁.setTop (mkF m 37 #[.val (.int p1), .val (.int (31 : Int32))] [(.int (256 : Int32)), (.int p1)]))
        refine own_to (fun t k => XS.icmpYes X0.here hx rfl (pc0 := 37) (pc' := 48) rfl (hb hby own_d3_37) rfl (tlt hc37_3).1 (by decide) (by decide) k) ?_
        show own_Fin _ _ _ _ _ _ (s₁.setTop (mkF m 48 #[.val (.int p1), .val (.int (31 : Int32))] []))
        refine own_to (fun t k => XS.iloadN X0.here hx rfl (hb hby own_d3_48) rfl k) ?_
        show own_Fin _ _ _ _ _ _ (s₁.setTop (mkF m 49 #[.val (.int p1), .val (.int (31 : Int32))] [(.int p1)]))
        refine own_to (fun t k => XS.bipush X0.here hx rfl (hb hby own_d3_49) k) ?_
        show own_Fin _ _ _ _ _ _ (s₁.setTop (mkF m 51 #[.val (.int p1), .val (.int (31 : Int32))] [(.int (16 : Int32)), (.int p1)]))
        by_cases hc51_4 : p1 < (16 : Int32)
        ·
          show own_Fin _ _ _ _ _ _ (s₁.setTop (mkF m 51 #[.val (.int p1), .val (.int (31 : Int32))] [(.int (16 : Int32)), (.int p1)]))
          refine own_to (fun t k => XS.icmpYes X0.here hx rfl (pc0 := 51) (pc' := 61) rfl (hb hby own_d3_51) rfl (tlt hc51_4).1 (by decide) (by decide) k) ?_
          show own_Fin _ _ _ _ _ _ (s₁.setTop (mkF m 61 #[.val (.int p1), .val (.int (31 : Int32))] []))
          refine own_to (fun t k => XS.iloadN X0.here hx rfl (hb hby own_d3_61) rfl k) ?_
          show own_Fin _ _ _ _ _ _ (s₁.setTop (mkF m 62 #[.val (.int p1), .val (.int (31 : Int32))] [(.int p1)]))
          refine own_to (fun t k => XS.iconst X0.here hx rfl (hb hby own_d3_62) k) ?_
          show own_Fin _ _ _ _ _ _ (s₁.setTop (mkF m 63 #[.val (.int p1), .val (.int (31 : Int32))] [(.int (4 : Int32)), (.int p1)]))
          by_cases hc63_5 : p1 < (4 : Int32)
          ·
            show own_Fin _ _ _ _ _ _ (s₁.setTop (mkF m 63 #[.val (.int p1), .val (.int (31 : Int32))] [(.int (4 : Int32)), (.int p1)]))
            refine own_to (fun t k => XS.icmpYes X0.here hx rfl (pc0 := 63) (pc' := 73) rfl (hb hby own_d3_63) rfl (tlt hc63_5).1 (by decide) (by decide) k) ?_
            show own_Fin _ _ _ _ _ _ (s₁.setTop (mkF m 73 #[.val (.int p1), .val (.int (31 : Int32))] []))
            refine own_to (fun t k => XS.iloadN X0.here hx rfl (hb hby own_d3_73) rfl k) ?_
            show own_Fin _ _ _ _ _ _ (s₁.setTop (mkF m 74 #[.val (.int p1), .val (.int (31 : Int32))] [(.int (31 : Int32))]))
            refine own_to (fun t k => XS.iloadN X0.here hx rfl (hb hby own_d3_74) rfl k) ?_
            show own_Fin _ _ _ _ _ _ (s₁.setTop (mkF m 75 #[.val (.int p1), .val (.int (31 : Int32))] [(.int p1), (.int (31 : Int32))]))
            refine own_to (fun t k => XS.iconst X0.here hx rfl (hb hby own_d3_75) k) ?_
            show own_Fin _ _ _ _ _ _ (s₁.setTop (mkF m 76 #[.val (.int p1), .val (.int (31 : Int32))] [(.int (1 : Int32)), (.int p1), (.int (31 : Int32))]))
            refine own_to (fun t k => XS.iushr X0.here hx rfl (hb hby own_d3_76) rfl k) ?_
            show own_Fin _ _ _ _ _ _ (s₁.setTop (mkF m 77 #[.val (.int p1), .val (.int (31 : Int32))] [(.int ((p1.toUInt32 >>> ((1 : Int32) &&& 31).toUInt32).toInt32)), (.int (31 : Int32))]))
            refine own_to (fun t k => XS.isub X0.here hx rfl (hb hby own_d3_77) rfl k) ?_
            show own_Fin _ _ _ _ _ _ (s₁.setTop (mkF m 78 #[.val (.int p1), .val (.int (31 : Int32))] [(.int ((31 : Int32) - ((p1.toUInt32 >>> ((1 : Int32) &&& 31).toUInt32).toInt32)))]))
            refine own_retI X0 hx hlk hret (hb hby own_d3_78) (by decide) (by decide) ?_
            try rw [e0]
            exact ⟨congrArg (fun z => some (Value.int z)) (Eq.symm (show own_nlz p1 = _ from ((if_pos hc1_1).trans ((if_pos hc22_2).trans ((if_pos hc37_3).trans ((if_pos hc51_4).trans ((if_pos hc63_5).trans rfl))))))), N0, rfl⟩
          ·
            show own_Fin _ _ _ _ _ _ (s₁.setTop (mkF m 63 #[.val (.int p1), .val (.int (31 : Int32))] [(.int (4 : Int32)), (.int p1)]))
            refine own_to (fun t k => XS.icmpNo X0.here hx rfl (hb hby own_d3_63) rfl (flt hc63_5).1 k) ?_
            show own_Fin _ _ _ _ _ _ (s₁.setTop (mkF m 66 #[.val (.int p1), .val (.int (31 : Int32))] []))
            refine own_to (fun t k => XS.iinc X0.here hx rfl (hb hby own_d3_66) rfl (l' := #[.val (.int p1), .val (.int ((31 : Int32) + (-2 : Int32)))]) rfl k) ?_
            show own_Fin _ _ _ _ _ _ (s₁.setTop (mkF m 69 #[.val (.int p1), .val (.int ((31 : Int32) + (-2 : Int32)))] []))
            refine own_to (fun t k => XS.iloadN X0.here hx rfl (hb hby own_d3_69) rfl k) ?_
            show own_Fin _ _ _ _ _ _ (s₁.setTop (mkF m 70 #[.val (.int p1), .val (.int ((31 : Int32) + (-2 : Int32)))] [(.int p1)]))
            refine own_to (fun t k => XS.iconst X0.here hx rfl (hb hby own_d3_70) k) ?_
            show own_Fin _ _ _ _ _ _ (s₁.setTop (mkF m 71 #[.val (.int p1), .val (.int ((31 : Int32) + (-2 : Int32)))] [(.int (2 : Int32)), (.int p1)]))
            refine own_to (fun t k => XS.iushr X0.here hx rfl (hb hby own_d3_71) rfl k) ?_
            show own_Fin _ _ _ _ _ _ (s₁.setTop (mkF m 72 #[.val (.int p1), .val (.int ((31 : Int32) + (-2 : Int32)))] [(.int ((p1.toUInt32 >>> ((2 : Int32) &&& 31).toUInt32).toInt32))]))
            refine own_to (fun t k => XS.istoreN X0.here hx rfl (hb hby own_d3_72) rfl (l' := #[.val (.int ((p1.toUInt32 >>> ((2 : Int32) &&& 31).toUInt32).toInt32)), .val (.int ((31 : Int32) + (-2 : Int32)))]) rfl k) ?_
            show own_Fin _ _ _ _ _ _ (s₁.setTop (mkF m 73 #[.val (.int ((p1.toUInt32 >>> ((2 : Int32) &&& 31).toUInt32).toInt32)), .val (.int ((31 : Int32) + (-2 : Int32)))] []))
            refine own_to (fun t k => XS.iloadN X0.here hx rfl (hb hby own_d3_73) rfl k) ?_
            show own_Fin _ _ _ _ _ _ (s₁.setTop (mkF m 74 #[.val (.int ((p1.toUInt32 >>> ((2 : Int32) &&& 31).toUInt32).toInt32)), .val (.int ((31 : Int32) + (-2 : Int32)))] [(.int ((31 : Int32) + (-2 : Int32)))]))
            refine own_to (fun t k => XS.iloadN X0.here hx rfl (hb hby own_d3_74) rfl k) ?_
            show own_Fin _ _ _ _ _ _ (s₁.setTop (mkF m 75 #[.val (.int ((p1.toUInt32 >>> ((2 : Int32) &&& 31).toUInt32).toInt32)), .val (.int ((31 : Int32) + (-2 : Int32)))] [(.int ((p1.toUInt32 >>> ((2 : Int32) &&& 31).toUInt32).toInt32)), (.int ((31 : Int32) + (-2 : Int32)))]))
            refine own_to (fun t k => XS.iconst X0.here hx rfl (hb hby own_d3_75) k) ?_
            show own_Fin _ _ _ _ _ _ (s₁.setTop (mkF m 76 #[.val (.int ((p1.toUInt32 >>> ((2 : Int32) &&& 31).toUInt32).toInt32)), .val (.int ((31 : Int32) + (-2 : Int32)))] [(.int (1 : Int32)), (.int ((p1.toUInt32 >>> ((2 : Int32) &&& 31).toUInt32).toInt32)), (.int ((31 : Int32) + (-2 : Int32)))]))
            refine own_to (fun t k => XS.iushr X0.here hx rfl (hb hby own_d3_76) rfl k) ?_
            show own_Fin _ _ _ _ _ _ (s₁.setTop (mkF m 77 #[.val (.int ((p1.toUInt32 >>> ((2 : Int32) &&& 31).toUInt32).toInt32)), .val (.int ((31 : Int32) + (-2 : Int32)))] [(.int ((((p1.toUInt32 >>> ((2 : Int32) &&& 31).toUInt32).toInt32).toUInt32 >>> ((1 : Int32) &&& 31).toUInt32).toInt32)), (.int ((31 : Int32) + (-2 : Int32)))]))
            refine own_to (fun t k => XS.isub X0.here hx rfl (hb hby own_d3_77) rfl k) ?_
            show own_Fin _ _ _ _ _ _ (s₁.setTop (mkF m 78 #[.val (.int ((p1.toUInt32 >>> ((2 : Int32) &&& 31).toUInt32).toInt32)), .val (.int ((31 : Int32) + (-2 : Int32)))] [(.int (((31 : Int32) + (-2 : Int32)) - ((((p1.toUInt32 >>> ((2 : Int32) &&& 31).toUInt32).toInt32).toUInt32 >>> ((1 : Int32) &&& 31).toUInt32).toInt32)))]))
            refine own_retI X0 hx hlk hret (hb hby own_d3_78) (by decide) (by decide) ?_
            try rw [e0]
            exact ⟨congrArg (fun z => some (Value.int z)) (Eq.symm (show own_nlz p1 = _ from ((if_pos hc1_1).trans ((if_pos hc22_2).trans ((if_pos hc37_3).trans ((if_pos hc51_4).trans ((if_neg hc63_5).trans rfl))))))), N0, rfl⟩
        ·
          show own_Fin _ _ _ _ _ _ (s₁.setTop (mkF m 51 #[.val (.int p1), .val (.int (31 : Int32))] [(.int (16 : Int32)), (.int p1)]))
          refine own_to (fun t k => XS.icmpNo X0.here hx rfl (hb hby own_d3_51) rfl (flt hc51_4).1 k) ?_
          show own_Fin _ _ _ _ _ _ (s₁.setTop (mkF m 54 #[.val (.int p1), .val (.int (31 : Int32))] []))
          refine own_to (fun t k => XS.iinc X0.here hx rfl (hb hby own_d3_54) rfl (l' := #[.val (.int p1), .val (.int ((31 : Int32) + (-4 : Int32)))]) rfl k) ?_
          show own_Fin _ _ _ _ _ _ (s₁.setTop (mkF m 57 #[.val (.int p1), .val (.int ((31 : Int32) + (-4 : Int32)))] []))
          refine own_to (fun t k => XS.iloadN X0.here hx rfl (hb hby own_d3_57) rfl k) ?_
          show own_Fin _ _ _ _ _ _ (s₁.setTop (mkF m 58 #[.val (.int p1), .val (.int ((31 : Int32) + (-4 : Int32)))] [(.int p1)]))
          refine own_to (fun t k => XS.iconst X0.here hx rfl (hb hby own_d3_58) k) ?_
          show own_Fin _ _ _ _ _ _ (s₁.setTop (mkF m 59 #[.val (.int p1), .val (.int ((31 : Int32) + (-4 : Int32)))] [(.int (4 : Int32)), (.int p1)]))
          refine own_to (fun t k => XS.iushr X0.here hx rfl (hb hby own_d3_59) rfl k) ?_
          show own_Fin _ _ _ _ _ _ (s₁.setTop (mkF m 60 #[.val (.int p1), .val (.int ((31 : Int32) + (-4 : Int32)))] [(.int ((p1.toUInt32 >>> ((4 : Int32) &&& 31).toUInt32).toInt32))]))
          refine own_to (fun t k => XS.istoreN X0.here hx rfl (hb hby own_d3_60) rfl (l' := #[.val (.int ((p1.toUInt32 >>> ((4 : Int32) &&& 31).toUInt32).toInt32)), .val (.int ((31 : Int32) + (-4 : Int32)))]) rfl k) ?_
          show own_Fin _ _ _ _ _ _ (s₁.setTop (mkF m 61 #[.val (.int ((p1.toUInt32 >>> ((4 : Int32) &&& 31).toUInt32).toInt32)), .val (.int ((31 : Int32) + (-4 : Int32)))] []))
          refine own_to (fun t k => XS.iloadN X0.here hx rfl (hb hby own_d3_61) rfl k) ?_
          show own_Fin _ _ _ _ _ _ (s₁.setTop (mkF m 62 #[.val (.int ((p1.toUInt32 >>> ((4 : Int32) &&& 31).toUInt32).toInt32)), .val (.int ((31 : Int32) + (-4 : Int32)))] [(.int ((p1.toUInt32 >>> ((4 : Int32) &&& 31).toUInt32).toInt32))]))
          refine own_to (fun t k => XS.iconst X0.here hx rfl (hb hby own_d3_62) k) ?_
          show own_Fin _ _ _ _ _ _ (s₁.setTop (mkF m 63 #[.val (.int ((p1.toUInt32 >>> ((4 : Int32) &&& 31).toUInt32).toInt32)), .val (.int ((31 : Int32) + (-4 : Int32)))] [(.int (4 : Int32)), (.int ((p1.toUInt32 >>> ((4 : Int32) &&& 31).toUInt32).toInt32))]))
          by_cases hc63_6 : ((p1.toUInt32 >>> ((4 : Int32) &&& 31).toUInt32).toInt32) < (4 : Int32)
          ·
            show own_Fin _ _ _ _ _ _ (s₁.setTop (mkF m 63 #[.val (.int ((p1.toUInt32 >>> ((4 : Int32) &&& 31).toUInt32).toInt32)), .val (.int ((31 : Int32) + (-4 : Int32)))] [(.int (4 : Int32)), (.int ((p1.toUInt32 >>> ((4 : Int32) &&& 31).toUInt32).toInt32))]))
            refine own_to (fun t k => XS.icmpYes X0.here hx rfl (pc0 := 63) (pc' := 73) rfl (hb hby own_d3_63) rfl (tlt hc63_6).1 (by decide) (by decide) k) ?_
            show own_Fin _ _ _ _ _ _ (s₁.setTop (mkF m 73 #[.val (.int ((p1.toUInt32 >>> ((4 : Int32) &&& 31).toUInt32).toInt32)), .val (.int ((31 : Int32) + (-4 : Int32)))] []))
            refine own_to (fun t k => XS.iloadN X0.here hx rfl (hb hby own_d3_73) rfl k) ?_
            show own_Fin _ _ _ _ _ _ (s₁.setTop (mkF m 74 #[.val (.int ((p1.toUInt32 >>> ((4 : Int32) &&& 31).toUInt32).toInt32)), .val (.int ((31 : Int32) + (-4 : Int32)))] [(.int ((31 : Int32) + (-4 : Int32)))]))
            refine own_to (fun t k => XS.iloadN X0.here hx rfl (hb hby own_d3_74) rfl k) ?_
            show own_Fin _ _ _ _ _ _ (s₁.setTop (mkF m 75 #[.val (.int ((p1.toUInt32 >>> ((4 : Int32) &&& 31).toUInt32).toInt32)), .val (.int ((31 : Int32) + (-4 : Int32)))] [(.int ((p1.toUInt32 >>> ((4 : Int32) &&& 31).toUInt32).toInt32)), (.int ((31 : Int32) + (-4 : Int32)))]))
            refine own_to (fun t k => XS.iconst X0.here hx rfl (hb hby own_d3_75) k) ?_
            show own_Fin _ _ _ _ _ _ (s₁.setTop (mkF m 76 #[.val (.int ((p1.toUInt32 >>> ((4 : Int32) &&& 31).toUInt32).toInt32)), .val (.int ((31 : Int32) + (-4 : Int32)))] [(.int (1 : Int32)), (.int ((p1.toUInt32 >>> ((4 : Int32) &&& 31).toUInt32).toInt32)), (.int ((31 : Int32) + (-4 : Int32)))]))
            refine own_to (fun t k => XS.iushr X0.here hx rfl (hb hby own_d3_76) rfl k) ?_
            show own_Fin _ _ _ _ _ _ (s₁.setTop (mkF m 77 #[.val (.int ((p1.toUInt32 >>> ((4 : Int32) &&& 31).toUInt32).toInt32)), .val (.int ((31 : Int32) + (-4 : Int32)))] [(.int ((((p1.toUInt32 >>> ((4 : Int32) &&& 31).toUInt32).toInt32).toUInt32 >>> ((1 : Int32) &&& 31).toUInt32).toInt32)), (.int ((31 : Int32) + (-4 : Int32)))]))
            refine own_to (fun t k => XS.isub X0.here hx rfl (hb hby own_d3_77) rfl k) ?_
            show own_Fin _ _ _ _ _ _ (s₁.setTop (mkF m 78 #[.val (.int ((p1.toUInt32 >>> ((4 : Int32) &&& 31).toUInt32).toInt32)), .val (.int ((31 : Int32) + (-4 : Int32)))] [(.int (((31 : Int32) + (-4 : Int32)) - ((((p1.toUInt32 >>> ((4 : Int32) &&& 31).toUInt32).toInt32).toUInt32 >>> ((1 : Int32) &&& 31).toUInt32).toInt32)))]))
            refine own_retI X0 hx hlk hret (hb hby own_d3_78) (by decide) (by decide) ?_
            try rw [e0]
            exact ⟨congrArg (fun z => some (Value.int z)) (Eq.symm (show own_nlz p1 = _ from ((if_pos hc1_1).trans ((if_pos hc22_2).trans ((if_pos hc37_3).trans ((if_neg hc51_4).trans ((if_pos hc63_6).trans rfl))))))), N0, rfl⟩
          ·
            show own_Fin _ _ _ _ _ _ (s₁.setTop (mkF m 63 #[.val (.int ((p1.toUInt32 >>> ((4 : Int32) &&& 31).toUInt32).toInt32)), .val (.int ((31 : Int32) + (-4 : Int32)))] [(.int (4 : Int32)), (.int ((p1.toUInt32 >>> ((4 : Int32) &&& 31).toUInt32).toInt32))]))
            refine own_to (fun t k => XS.icmpNo X0.here hx rfl (hb hby own_d3_63) rfl (flt hc63_6).1 k) ?_
            show own_Fin _ _ _ _ _ _ (s₁.setTop (mkF m 66 #[.val (.int ((p1.toUInt32 >>> ((4 : Int32) &&& 31).toUInt32).toInt32)), .val (.int ((31 : Int32) + (-4 : Int32)))] []))
            refine own_to (fun t k => XS.iinc X0.here hx rfl (hb hby own_d3_66) rfl (l' := #[.val (.int ((p1.toUInt32 >>> ((4 : Int32) &&& 31).toUInt32).toInt32)), .val (.int (((31 : Int32) + (-4 : Int32)) + (-2 : Int32)))]) rfl k) ?_
            show own_Fin _ _ _ _ _ _ (s₁.setTop (mkF m 69 #[.val (.int ((p1.toUInt32 >>> ((4 : Int32) &&& 31).toUInt32).toInt32)), .val (.int (((31 : Int32) + (-4 : Int32)) + (-2 : Int32)))] []))
            refine own_to (fun t k => XS.iloadN X0.here hx rfl (hb hby own_d3_69) rfl k) ?_
            show own_Fin _ _ _ _ _ _ (s₁.setTop (mkF m 70 #[.val (.int ((p1.toUInt32 >>> ((4 : Int32) &&& 31).toUInt32).toInt32)), .val (.int (((31 : Int32) + (-4 : Int32)) + (-2 : Int32)))] [(.int ((p1.toUInt32 >>> ((4 : Int32) &&& 31).toUInt32).toInt32))]))
            refine own_to (fun t k => XS.iconst X0.here hx rfl (hb hby own_d3_70) k) ?_
            show own_Fin _ _ _ _ _ _ (s₁.setTop (mkF m 71 #[.val (.int ((p1.toUInt32 >>> ((4 : Int32) &&& 31).toUInt32).toInt32)), .val (.int (((31 : Int32) + (-4 : Int32)) + (-2 : Int32)))] [(.int (2 : Int32)), (.int ((p1.toUInt32 >>> ((4 : Int32) &&& 31).toUInt32).toInt32))]))
            refine own_to (fun t k => XS.iushr X0.here hx rfl (hb hby own_d3_71) rfl k) ?_
            show own_Fin _ _ _ _ _ _ (s₁.setTop (mkF m 72 #[.val (.int ((p1.toUInt32 >>> ((4 : Int32) &&& 31).toUInt32).toInt32)), .val (.int (((31 : Int32) + (-4 : Int32)) + (-2 : Int32)))] [(.int ((((p1.toUInt32 >>> ((4 : Int32) &&& 31).toUInt32).toInt32).toUInt32 >>> ((2 : Int32) &&& 31).toUInt32).toInt32))]))
            refine own_to (fun t k => XS.istoreN X0.here hx rfl (hb hby own_d3_72) rfl (l' := #[.val (.int ((((p1.toUInt32 >>> ((4 : Int32) &&& 31).toUInt32).toInt32).toUInt32 >>> ((2 : Int32) &&& 31).toUInt32).toInt32)), .val (.int (((31 : Int32) + (-4 : Int32)) + (-2 : Int32)))]) rfl k) ?_
            show own_Fin _ _ _ _ _ _ (s₁.setTop (mkF m 73 #[.val (.int ((((p1.toUInt32 >>> ((4 : Int32) &&& 31).toUInt32).toInt32).toUInt32 >>> ((2 : Int32) &&& 31).toUInt32).toInt32)), .val (.int (((31 : Int32) + (-4 : Int32)) + (-2 : Int32)))] []))
            refine own_to (fun t k => XS.iloadN X0.here hx rfl (hb hby own_d3_73) rfl k) ?_
            show own_Fin _ _ _ _ _ _ (s₁.setTop (mkF m 74 #[.val (.int ((((p1.toUInt32 >>> ((4 : Int32) &&& 31).toUInt32).toInt32).toUInt32 >>> ((2 : Int32) &&& 31).toUInt32).toInt32)), .val (.int (((31 : Int32) + (-4 : Int32)) + (-2 : Int32)))] [(.int (((31 : Int32) + (-4 : Int32)) + (-2 : Int32)))]))
            refine own_to (fun t k => XS.iloadN X0.here hx rfl (hb hby own_d3_74) rfl k) ?_
            show own_Fin _ _ _ _ _ _ (s₁.setTop (mkF m 75 #[.val (.int ((((p1.toUInt32 >>> ((4 : Int32) &&& 31).toUInt32).toInt32).toUInt32 >>> ((2 : Int32) &&& 31).toUInt32).toInt32)), .val (.int (((31 : Int32) + (-4 : Int32)) + (-2 : Int32)))] [(.int ((((p1.toUInt32 >>> ((4 : Int32) &&& 31).toUInt32).toInt32).toUInt32 >>> ((2 : Int32) &&& 31).toUInt32).toInt32)), (.int (((31 : Int32) + (-4 : Int32)) + (-2 : Int32)))]))
            refine own_to (fun t k => XS.iconst X0.here hx rfl (hb hby own_d3_75) k) ?_
            show own_Fin _ _ _ _ _ _ (s₁.setTop (mkF m 76 #[.val (.int ((((p1.toUInt32 >>> ((4 : Int32) &&& 31).toUInt32).toInt32).toUInt32 >>> ((2 : Int32) &&& 31).toUInt32).toInt32)), .val (.int (((31 : Int32) + (-4 : Int32)) + (-2 : Int32)))] [(.int (1 : Int32)), (.int ((((p1.toUInt32 >>> ((4 : Int32) &&& 31).toUInt32).toInt32).toUInt32 >>> ((2 : Int32) &&& 31).toUInt32).toInt32)), (.int (((31 : Int32) + (-4 : Int32)) + (-2 : Int32)))]))
            refine own_to (fun t k => XS.iushr X0.here hx rfl (hb hby own_d3_76) rfl k) ?_
            show own_Fin _ _ _ _ _ _ (s₁.setTop (mkF m 77 #[.val (.int ((((p1.toUInt32 >>> ((4 : Int32) &&& 31).toUInt32).toInt32).toUInt32 >>> ((2 : Int32) &&& 31).toUInt32).toInt32)), .val (.int (((31 : Int32) + (-4 : Int32)) + (-2 : Int32)))] [(.int ((((((p1.toUInt32 >>> ((4 : Int32) &&& 31).toUInt32).toInt32).toUInt32 >>> ((2 : Int32) &&& 31).toUInt32).toInt32).toUInt32 >>> ((1 : Int32) &&& 31).toUInt32).toInt32)), (.int (((31 : Int32) + (-4 : Int32)) + (-2 : Int32)))]))
            refine own_to (fun t k => XS.isub X0.here hx rfl (hb hby own_d3_77) rfl k) ?_
            show own_Fin _ _ _ _ _ _ (s₁.setTop (mkF m 78 #[.val (.int ((((p1.toUInt32 >>> ((4 : Int32) &&& 31).toUInt32).toInt32).toUInt32 >>> ((2 : Int32) &&& 31).toUInt32).toInt32)), .val (.int (((31 : Int32) + (-4 : Int32)) + (-2 : Int32)))] [(.int ((((31 : Int32) + (-4 : Int32)) + (-2 : Int32)) - ((((((p1.toUInt32 >>> ((4 : Int32) &&& 31).toUInt32).toInt32).toUInt32 >>> ((2 : Int32) &&& 31).toUInt32).toInt32).toUInt32 >>> ((1 : Int32) &&& 31).toUInt32).toInt32)))]))
            refine own_retI X0 hx hlk hret (hb hby own_d3_78) (by decide) (by decide) ?_
            try rw [e0]
            exact ⟨congrArg (fun z => some (Value.int z)) (Eq.symm (show own_nlz p1 = _ from ((if_pos hc1_1).trans ((if_pos hc22_2).trans ((if_pos hc37_3).trans ((if_neg hc51_4).trans ((if_neg hc63_6).trans rfl))))))), N0, rfl⟩
      ·
        show own_Fin _ _ _ _ _ _ (s₁.setTop (mkF m 37 #[.val (.int p1), .val (.int (31 : Int32))] [(.int (256 : Int32)), (.int p1)]))
        refine own_to (fun t k => XS.icmpNo X0.here hx rfl (hb hby own_d3_37) rfl (flt hc37_3).1 k) ?_
        show own_Fin _ _ _ _ _ _ (s₁.setTop (mkF m 40 #[.val (.int p1), .val (.int (31 : Int32))] []))
        refine own_to (fun t k => XS.iinc X0.here hx rfl (hb hby own_d3_40) rfl (l' := #[.val (.int p1), .val (.int ((31 : Int32) + (-8 : Int32)))]) rfl k) ?_
        show own_Fin _ _ _ _ _ _ (s₁.setTop (mkF m 43 #[.val (.int p1), .val (.int ((31 : Int32) + (-8 : Int32)))] []))
        refine own_to (fun t k => XS.iloadN X0.here hx rfl (hb hby own_d3_43) rfl k) ?_
        show own_Fin _ _ _ _ _ _ (s₁.setTop (mkF m 44 #[.val (.int p1), .val (.int ((31 : Int32) + (-8 : Int32)))] [(.int p1)]))
        refine own_to (fun t k => XS.bipush X0.here hx rfl (hb hby own_d3_44) k) ?_
        show own_Fin _ _ _ _ _ _ (s₁.setTop (mkF m 46 #[.val (.int p1), .val (.int ((31 : Int32) + (-8 : Int32)))] [(.int (8 : Int32)), (.int p1)]))
        refine own_to (fun t k => XS.iushr X0.here hx rfl (hb hby own_d3_46) rfl k) ?_
        show own_Fin _ _ _ _ _ _ (s₁.setTop (mkF m 47 #[.val (.int p1), .val (.int ((31 : Int32) + (-8 : Int32)))] [(.int ((p1.toUInt32 >>> ((8 : Int32) &&& 31).toUInt32).toInt32))]))
        refine own_to (fun t k => XS.istoreN X0.here hx rfl (hb hby own_d3_47) rfl (l' := #[.val (.int ((p1.toUInt32 >>> ((8 : Int32) &&& 31).toUInt32).toInt32)), .val (.int ((31 : Int32) + (-8 : Int32)))]) rfl k) ?_
        show own_Fin _ _ _ _ _ _ (s₁.setTop (mkF m 48 #[.val (.int ((p1.toUInt32 >>> ((8 : Int32) &&& 31).toUInt32).toInt32)), .val (.int ((31 : Int32) + (-8 : Int32)))] []))
        refine own_to (fun t k => XS.iloadN X0.here hx rfl (hb hby own_d3_48) rfl k) ?_
        show own_Fin _ _ _ _ _ _ (s₁.setTop (mkF m 49 #[.val (.int ((p1.toUInt32 >>> ((8 : Int32) &&& 31).toUInt32).toInt32)), .val (.int ((31 : Int32) + (-8 : Int32)))] [(.int ((p1.toUInt32 >>> ((8 : Int32) &&& 31).toUInt32).toInt32))]))
        refine own_to (fun t k => XS.bipush X0.here hx rfl (hb hby own_d3_49) k) ?_
        show own_Fin _ _ _ _ _ _ (s₁.setTop (mkF m 51 #[.val (.int ((p1.toUInt32 >>> ((8 : Int32) &&& 31).toUInt32).toInt32)), .val (.int ((31 : Int32) + (-8 : Int32)))] [(.int (16 : Int32)), (.int ((p1.toUInt32 >>> ((8 : Int32) &&& 31).toUInt32).toInt32))]))
        by_cases hc51_7 : ((p1.toUInt32 >>> ((8 : Int32) &&& 31).toUInt32).toInt32) < (16 : Int32)
        ·
          show own_Fin _ _ _ _ _ _ (s₁.setTop (mkF m 51 #[.val (.int ((p1.toUInt32 >>> ((8 : Int32) &&& 31).toUInt32).toInt32)), .val (.int ((31 : Int32) + (-8 : Int32)))] [(.int (16 : Int32)), (.int ((p1.toUInt32 >>> ((8 : Int32) &&& 31).toUInt32).toInt32))]))
          refine own_to (fun t k => XS.icmpYes X0.here hx rfl (pc0 := 51) (pc' := 61) rfl (hb hby own_d3_51) rfl (tlt hc51_7).1 (by decide) (by decide) k) ?_
          show own_Fin _ _ _ _ _ _ (s₁.setTop (mkF m 61 #[.val (.int ((p1.toUInt32 >>> ((8 : Int32) &&& 31).toUInt32).toInt32)), .val (.int ((31 : Int32) + (-8 : Int32)))] []))
          refine own_to (fun t k => XS.iloadN X0.here hx rfl (hb hby own_d3_61) rfl k) ?_
          show own_Fin _ _ _ _ _ _ (s₁.setTop (mkF m 62 #[.val (.int ((p1.toUInt32 >>> ((8 : Int32) &&& 31).toUInt32).toInt32)), .val (.int ((31 : Int32) + (-8 : Int32)))] [(.int ((p1.toUInt32 >>> ((8 : Int32) &&& 31).toUInt32).toInt32))]))
          refine own_to (fun t k => XS.iconst X0.here hx rfl (hb hby own_d3_62) k) ?_
          show own_Fin _ _ _ _ _ _ (s₁.setTop (mkF m 63 #[.val (.int ((p1.toUInt32 >>> ((8 : Int32) &&& 31).toUInt32).toInt32)), .val (.int ((31 : Int32) + (-8 : Int32)))] [(.int (4 : Int32)), (.int ((p1.toUInt32 >>> ((8 : Int32) &&& 31).toUInt32).toInt32))]))
          by_cases hc63_8 : ((p1.toUInt32 >>> ((8 : Int32) &&& 31).toUInt32).toInt32) < (4 : Int32)
          ·
            show own_Fin _ _ _ _ _ _ (s₁.setTop (mkF m 63 #[.val (.int ((p1.toUInt32 >>> ((8 : Int32) &&& 31).toUInt32).toInt32)), .val (.int ((31 : Int32) + (-8 : Int32)))] [(.int (4 : Int32)), (.int ((p1.toUInt32 >>> ((8 : Int32) &&& 31).toUInt32).toInt32))]))
            refine own_to (fun t k => XS.icmpYes X0.here hx rfl (pc0 := 63) (pc' := 73) rfl (hb hby own_d3_63) rfl (tlt hc63_8).1 (by decide) (by decide) k) ?_
            show own_Fin _ _ _ _ _ _ (s₁.setTop (mkF m 73 #[.val (.int ((p1.toUInt32 >>> ((8 : Int32) &&& 31).toUInt32).toInt32)), .val (.int ((31 : Int32) + (-8 : Int32)))] []))
            refine own_to (fun t k => XS.iloadN X0.here hx rfl (hb hby own_d3_73) rfl k) ?_
            show own_Fin _ _ _ _ _ _ (s₁.setTop (mkF m 74 #[.val (.int ((p1.toUInt32 >>> ((8 : Int32) &&& 31).toUInt32).toInt32)), .val (.int ((31 : Int32) + (-8 : Int32)))] [(.int ((31 : Int32) + (-8 : Int32)))]))
            refine own_to (fun t k => XS.iloadN X0.here hx rfl (hb hby own_d3_74) rfl k) ?_
            show own_Fin _ _ _ _ _ _ (s₁.setTop (mkF m 75 #[.val (.int ((p1.toUInt32 >>> ((8 : Int32) &&& 31).toUInt32).toInt32)), .val (.int ((31 : Int32) + (-8 : Int32)))] [(.int ((p1.toUInt32 >>> ((8 : Int32) &&& 31).toUInt32).toInt32)), (.int ((31 : Int32) + (-8 : Int32)))]))
            refine own_to (fun t k => XS.iconst X0.here hx rfl (hb hby own_d3_75) k) ?_
            show own_Fin _ _ _ _ _ _ (s₁.setTop (mkF m 76 #[.val (.int ((p1.toUInt32 >>> ((8 : Int32) &&& 31).toUInt32).toInt32)), .val (.int ((31 : Int32) + (-8 : Int32)))] [(.int (1 : Int32)), (.int ((p1.toUInt32 >>> ((8 : Int32) &&& 31).toUInt32).toInt32)), (.int ((31 : Int32) + (-8 : Int32)))]))
            refine own_to (fun t k => XS.iushr X0.here hx rfl (hb hby own_d3_76) rfl k) ?_
            show own_Fin _ _ _ _ _ _ (s₁.setTop (mkF m 77 #[.val (.int ((p1.toUInt32 >>> ((8 : Int32) &&& 31).toUInt32).toInt32)), .val (.int ((31 : Int32) + (-8 : Int32)))] [(.int ((((p1.toUInt32 >>> ((8 : Int32) &&& 31).toUInt32).toInt32).toUInt32 >>> ((1 : Int32) &&& 31).toUInt32).toInt32)), (.int ((31 : Int32) + (-8 : Int32)))]))
            refine own_to (fun t k => XS.isub X0.here hx rfl (hb hby own_d3_77) rfl k) ?_
            show own_Fin _ _ _ _ _ _ (s₁.setTop (mkF m 78 #[.val (.int ((p1.toUInt32 >>> ((8 : Int32) &&& 31).toUInt32).toInt32)), .val (.int ((31 : Int32) + (-8 : Int32)))] [(.int (((31 : Int32) + (-8 : Int32)) - ((((p1.toUInt32 >>> ((8 : Int32) &&& 31).toUInt32).toInt32).toUInt32 >>> ((1 : Int32) &&& 31).toUInt32).toInt32)))]))
            refine own_retI X0 hx hlk hret (hb hby own_d3_78) (by decide) (by decide) ?_
            try rw [e0]
            exact ⟨congrArg (fun z => some (Value.int z)) (Eq.symm (show own_nlz p1 = _ from ((if_pos hc1_1).trans ((if_pos hc22_2).trans ((if_neg hc37_3).trans ((if_pos hc51_7).trans ((if_pos hc63_8).trans rfl))))))), N0, rfl⟩
          ·
            show own_Fin _ _ _ _ _ _ (s₁.setTop (mkF m 63 #[.val (.int ((p1.toUInt32 >>> ((8 : Int32) &&& 31).toUInt32).toInt32)), .val (.int ((31 : Int32) + (-8 : Int32)))] [(.int (4 : Int32)), (.int ((p1.toUInt32 >>> ((8 : Int32) &&& 31).toUInt32).toInt32))]))
            refine own_to (fun t k => XS.icmpNo X0.here hx rfl (hb hby own_d3_63) rfl (flt hc63_8).1 k) ?_
            show own_Fin _ _ _ _ _ _ (s₁.setTop (mkF m 66 #[.val (.int ((p1.toUInt32 >>> ((8 : Int32) &&& 31).toUInt32).toInt32)), .val (.int ((31 : Int32) + (-8 : Int32)))] []))
            refine own_to (fun t k => XS.iinc X0.here hx rfl (hb hby own_d3_66) rfl (l' := #[.val (.int ((p1.toUInt32 >>> ((8 : Int32) &&& 31).toUInt32).toInt32)), .val (.int (((31 : Int32) + (-8 : Int32)) + (-2 : Int32)))]) rfl k) ?_
            show own_Fin _ _ _ _ _ _ (s₁.setTop (mkF m 69 #[.val (.int ((p1.toUInt32 >>> ((8 : Int32) &&& 31).toUInt32).toInt32)), .val (.int (((31 : Int32) + (-8 : Int32)) + (-2 : Int32)))] []))
            refine own_to (fun t k => XS.iloadN X0.here hx rfl (hb hby own_d3_69) rfl k) ?_
            show own_Fin _ _ _ _ _ _ (s₁.setTop (mkF m 70 #[.val (.int ((p1.toUInt32 >>> ((8 : Int32) &&& 31).toUInt32).toInt32)), .val (.int (((31 : Int32) + (-8 : Int32)) + (-2 : Int32)))] [(.int ((p1.toUInt32 >>> ((8 : Int32) &&& 31).toUInt32).toInt32))]))
            refine own_to (fun t k => XS.iconst X0.here hx rfl (hb hby own_d3_70) k) ?_
            show own_Fin _ _ _ _ _ _ (s₁.setTop (mkF m 71 #[.val (.int ((p1.toUInt32 >>> ((8 : Int32) &&& 31).toUInt32).toInt32)), .val (.int (((31 : Int32) + (-8 : Int32)) + (-2 : Int32)))] [(.int (2 : Int32)), (.int ((p1.toUInt32 >>> ((8 : Int32) &&& 31).toUInt32).toInt32))]))
            refine own_to (fun t k => XS.iushr X0.here hx rfl (hb hby own_d3_71) rfl k) ?_
            show own_Fin _ _ _ _ _ _ (s₁.setTop (mkF m 72 #[.val (.int ((p1.toUInt32 >>> ((8 : Int32) &&& 31).toUInt32).toInt32)), .val (.int (((31 : Int32) + (-8 : Int32)) + (-2 : Int32)))] [(.int ((((p1.toUInt32 >>> ((8 : Int32) &&& 31).toUInt32).toInt32).toUInt32 >>> ((2 : Int32) &&& 31).toUInt32).toInt32))]))
            refine own_to (fun t k => XS.istoreN X0.here hx rfl (hb hby own_d3_72) rfl (l' := #[.val (.int ((((p1.toUInt32 >>> ((8 : Int32) &&& 31).toUInt32).toInt32).toUInt32 >>> ((2 : Int32) &&& 31).toUInt32).toInt32)), .val (.int (((31 : Int32) + (-8 : Int32)) + (-2 : Int32)))]) rfl k) ?_
            show own_Fin _ _ _ _ _ _ (s₁.setTop (mkF m 73 #[.val (.int ((((p1.toUInt32 >>> ((8 : Int32) &&& 31).toUInt32).toInt32).toUInt32 >>> ((2 : Int32) &&& 31).toUInt32).toInt32)), .val (.int (((31 : Int32) + (-8 : Int32)) + (-2 : Int32)))] []))
            refine own_to (fun t k => XS.iloadN X0.here hx rfl (hb hby own_d3_73) rfl k) ?_
            show own_Fin _ _ _ _ _ _ (s₁.setTop (mkF m 74 #[.val (.int ((((p1.toUInt32 >>> ((8 : Int32) &&& 31).toUInt32).toInt32).toUInt32 >>> ((2 : Int32) &&& 31).toUInt32).toInt32)), .val (.int (((31 : Int32) + (-8 : Int32)) + (-2 : Int32)))] [(.int (((31 : Int32) + (-8 : Int32)) + (-2 : Int32)))]))
            refine own_to (fun t k => XS.iloadN X0.here hx rfl (hb hby own_d3_74) rfl k) ?_
            show own_Fin _ _ _ _ _ _ (s₁.setTop (mkF m 75 #[.val (.int ((((p1.toUInt32 >>> ((8 : Int32) &&& 31).toUInt32).toInt32).toUInt32 >>> ((2 : Int32) &&& 31).toUInt32).toInt32)), .val (.int (((31 : Int32) + (-8 : Int32)) + (-2 : Int32)))] [(.int ((((p1.toUInt32 >>> ((8 : Int32) &&& 31).toUInt32).toInt32).toUInt32 >>> ((2 : Int32) &&& 31).toUInt32).toInt32)), (.int (((31 : Int32) + (-8 : Int32)) + (-2 : Int32)))]))
            refine own_to (fun t k => XS.iconst X0.here hx rfl (hb hby own_d3_75) k) ?_
            show own_Fin _ _ _ _ _ _ (s₁.setTop (mkF m 76 #[.val (.int ((((p1.toUInt32 >>> ((8 : Int32) &&& 31).toUInt32).toInt32).toUInt32 >>> ((2 : Int32) &&& 31).toUInt32).toInt32)), .val (.int (((31 : Int32) + (-8 : Int32)) + (-2 : Int32)))] [(.int (1 : Int32)), (.int ((((p1.toUInt32 >>> ((8 : Int32) &&& 31).toUInt32).toInt32).toUInt32 >>> ((2 : Int32) &&& 31).toUInt32).toInt32)), (.int (((31 : Int32) + (-8 : Int32)) + (-2 : Int32)))]))
            refine own_to (fun t k => XS.iushr X0.here hx rfl (hb hby own_d3_76) rfl k) ?_
            show own_Fin _ _ _ _ _ _ (s₁.setTop (mkF m 77 #[.val (.int ((((p1.toUInt32 >>> ((8 : Int32) &&& 31).toUInt32).toInt32).toUInt32 >>> ((2 : Int32) &&& 31).toUInt32).toInt32)), .val (.int (((31 : Int32) + (-8 : Int32)) + (-2 : Int32)))] [(.int ((((((p1.toUInt32 >>> ((8 : Int32) &&& 31).toUInt32).toInt32).toUInt32 >>> ((2 : Int32) &&& 31).toUInt32).toInt32).toUInt32 >>> ((1 : Int32) &&& 31).toUInt32).toInt32)), (.int (((31 : Int32) + (-8 : Int32)) + (-2 : Int32)))]))
            refine own_to (fun t k => XS.isub X0.here hx rfl (hb hby own_d3_77) rfl k) ?_
            show own_Fin _ _ _ _ _ _ (s₁.setTop (mkF m 78 #[.val (.int ((((p1.toUInt32 >>> ((8 : Int32) &&& 31).toUInt32).toInt32).toUInt32 >>> ((2 : Int32) &&& 31).toUInt32).toInt32)), .val (.int (((31 : Int32) + (-8 : Int32)) + (-2 : Int32)))] [(.int ((((31 : Int32) + (-8 : Int32)) + (-2 : Int32)) - ((((((p1.toUInt32 >>> ((8 : Int32) &&& 31).toUInt32).toInt32).toUInt32 >>> ((2 : Int32) &&& 31).toUInt32).toInt32).toUInt32 >>> ((1 : Int32) &&& 31).toUInt32).toInt32)))]))
            refine own_retI X0 hx hlk hret (hb hby own_d3_78) (by decide) (by decide) ?_
            try rw [e0]
            exact ⟨congrArg (fun z => some (Value.int z)) (Eq.symm (show own_nlz p1 = _ from ((if_pos hc1_1).trans ((if_pos hc22_2).trans ((if_neg hc37_3).trans ((if_pos hc51_7).trans ((if_neg hc63_8).trans rfl))))))), N0, rfl⟩
        ·
          show own_Fin _ _ _ _ _ _ (s₁.setTop (mkF m 51 #[.val (.int ((p1.toUInt32 >>> ((8 : Int32) &&& 31).toUInt32).toInt32)), .val (.int ((31 : Int32) + (-8 : Int32)))] [(.int (16 : Int32)), (.int ((p1.toUInt32 >>> ((8 : Int32) &&& 31).toUInt32).toInt32))]))
          refine own_to (fun t k => XS.icmpNo X0.here hx rfl (hb hby own_d3_51) rfl (flt hc51_7).1 k) ?_
          show own_Fin _ _ _ _ _ _ (s₁.setTop (mkF m 54 #[.val (.int ((p1.toUInt32 >>> ((8 : Int32) &&& 31).toUInt32).toInt32)), .val (.int ((31 : Int32) + (-8 : Int32)))] []))
          refine own_to (fun t k => XS.iinc X0.here hx rfl (hb hby own_d3_54) rfl (l' := #[.val (.int ((p1.toUInt32 >>> ((8 : Int32) &&& 31).toUInt32).toInt32)), .val (.int (((31 : Int32) + (-8 : Int32)) + (-4 : Int32)))]) rfl k) ?_
          show own_Fin _ _ _ _ _ _ (s₁.setTop (mkF m 57 #[.val (.int ((p1.toUInt32 >>> ((8 : Int32) &&& 31).toUInt32).toInt32)), .val (.int (((31 : Int32) + (-8 : Int32)) + (-4 : Int32)))] []))
          refine own_to (fun t k => XS.iloadN X0.here hx rfl (hb hby own_d3_57) rfl k) ?_
          show own_Fin _ _ _ _ _ _ (s₁.setTop (mkF m 58 #[.val (.int ((p1.toUInt32 >>> ((8 : Int32) &&& 31).toUInt32).toInt32)), .val (.int (((31 : Int32) + (-8 : Int32)) + (-4 : Int32)))] [(.int ((p1.toUInt32 >>> ((8 : Int32) &&& 31).toUInt32).toInt32))]))
          refine own_to (fun t k => XS.iconst X0.here hx rfl (hb hby own_d3_58) k) ?_
          show own_Fin _ _ _ _ _ _ (s₁.setTop (mkF m 59 #[.val (.int ((p1.toUInt32 >>> ((8 : Int32) &&& 31).toUInt32).toInt32)), .val (.int (((31 : Int32) + (-8 : Int32)) + (-4 : Int32)))] [(.int (4 : Int32)), (.int ((p1.toUInt32 >>> ((8 : Int32) &&& 31).toUInt32).toInt32))]))
          refine own_to (fun t k => XS.iushr X0.here hx rfl (hb hby own_d3_59) rfl k) ?_
          show own_Fin _ _ _ _ _ _ (s₁.setTop (mkF m 60 #[.val (.int ((p1.toUInt32 >>> ((8 : Int32) &&& 31).toUInt32).toInt32)), .val (.int (((31 : Int32) + (-8 : Int32)) + (-4 : Int32)))] [(.int ((((p1.toUInt32 >>> ((8 : Int32) &&& 31).toUInt32).toInt32).toUInt32 >>> ((4 : Int32) &&& 31).toUInt32).toInt32))]))
          refine own_to (fun t k => XS.istoreN X0.here hx rfl (hb hby own_d3_60) rfl (l' := #[.val (.int ((((p1.toUInt32 >>> ((8 : Int32) &&& 31).toUInt32).toInt32).toUInt32 >>> ((4 : Int32) &&& 31).toUInt32).toInt32)), .val (.int (((31 : Int32) + (-8 : Int32)) + (-4 : Int32)))]) rfl k) ?_
          show own_Fin _ _ _ _ _ _ (s₁.setTop (mkF m 61 #[.val (.int ((((p1.toUInt32 >>> ((8 : Int32) &&& 31).toUInt32).toInt32).toUInt32 >>> ((4 : Int32) &&& 31).toUInt32).toInt32)), .val (.int (((31 : Int32) + (-8 : Int32)) + (-4 : Int32)))] []))
          refine own_to (fun t k => XS.iloadN X0.here hx rfl (hb hby own_d3_61) rfl k) ?_
          show own_Fin _ _ _ _ _ _ (s₁.setTop (mkF m 62 #[.val (.int ((((p1.toUInt32 >>> ((8 : Int32) &&& 31).toUInt32).toInt32).toUInt32 >>> ((4 : Int32) &&& 31).toUInt32).toInt32)), .val (.int (((31 : Int32) + (-8 : Int32)) + (-4 : Int32)))] [(.int ((((p1.toUInt32 >>> ((8 : Int32) &&& 31).toUInt32).toInt32).toUInt32 >>> ((4 : Int32) &&& 31).toUInt32).toInt32))]))
          refine own_to (fun t k => XS.iconst X0.here hx rfl (hb hby own_d3_62) k) ?_
          show own_Fin _ _ _ _ _ _ (s₁.setTop (mkF m 63 #[.val (.int ((((p1.toUInt32 >>> ((8 : Int32) &&& 31).toUInt32).toInt32).toUInt32 >>> ((4 : Int32) &&& 31).toUInt32).toInt32)), .val (.int (((31 : Int32) + (-8 : Int32)) + (-4 : Int32)))] [(.int (4 : Int32)), (.int ((((p1.toUInt32 >>> ((8 : Int32) &&& 31).toUInt32).toInt32).toUInt32 >>> ((4 : Int32) &&& 31).toUInt32).toInt32))]))
          by_cases hc63_9 : ((((p1.toUInt32 >>> ((8 : Int32) &&& 31).toUInt32).toInt32).toUInt32 >>> ((4 : Int32) &&& 31).toUInt32).toInt32) < (4 : Int32)
          ·
            show own_Fin _ _ _ _ _ _ (s₁.setTop (mkF m 63 #[.val (.int ((((p1.toUInt32 >>> ((8 : Int32) &&& 31).toUInt32).toInt32).toUInt32 >>> ((4 : Int32) &&& 31).toUInt32).toInt32)), .val (.int (((31 : Int32) + (-8 : Int32)) + (-4 : Int32)))] [(.int (4 : Int32)), (.int ((((p1.toUInt32 >>> ((8 : Int32) &&& 31).toUInt32).toInt32).toUInt32 >>> ((4 : Int32) &&& 31).toUInt32).toInt32))]))
            refine own_to (fun t k => XS.icmpYes X0.here hx rfl (pc0 := 63) (pc' := 73) rfl (hb hby own_d3_63) rfl (tlt hc63_9).1 (by decide) (by decide) k) ?_
            show own_Fin _ _ _ _ _ _ (s₁.setTop (mkF m 73 #[.val (.int ((((p1.toUInt32 >>> ((8 : Int32) &&& 31).toUInt32).toInt32).toUInt32 >>> ((4 : Int32) &&& 31).toUInt32).toInt32)), .val (.int (((31 : Int32) + (-8 : Int32)) + (-4 : Int32)))] []))
            refine own_to (fun t k => XS.iloadN X0.here hx rfl (hb hby own_d3_73) rfl k) ?_
            show own_Fin _ _ _ _ _ _ (s₁.setTop (mkF m 74 #[.val (.int ((((p1.toUInt32 >>> ((8 : Int32) &&& 31).toUInt32).toInt32).toUInt32 >>> ((4 : Int32) &&& 31).toUInt32).toInt32)), .val (.int (((31 : Int32) + (-8 : Int32)) + (-4 : Int32)))] [(.int (((31 : Int32) + (-8 : Int32)) + (-4 : Int32)))]))
            refine own_to (fun t k => XS.iloadN X0.here hx rfl (hb hby own_d3_74) rfl k) ?_
            show own_Fin _ _ _ _ _ _ (s₁.setTop (mkF m 75 #[.val (.int ((((p1.toUInt32 >>> ((8 : Int32) &&& 31).toUInt32).toInt32).toUInt32 >>> ((4 : Int32) &&& 31).toUInt32).toInt32)), .val (.int (((31 : Int32) + (-8 : Int32)) + (-4 : Int32)))] [(.int ((((p1.toUInt32 >>> ((8 : Int32) &&& 31).toUInt32).toInt32).toUInt32 >>> ((4 : Int32) &&& 31).toUInt32).toInt32)), (.int (((31 : Int32) + (-8 : Int32)) + (-4 : Int32)))]))
            refine own_to (fun t k => XS.iconst X0.here hx rfl (hb hby own_d3_75) k) ?_
            show own_Fin _ _ _ _ _ _ (s₁.setTop (mkF m 76 #[.val (.int ((((p1.toUInt32 >>> ((8 : Int32) &&& 31).toUInt32).toInt32).toUInt32 >>> ((4 : Int32) &&& 31).toUInt32).toInt32)), .val (.int (((31 : Int32) + (-8 : Int32)) + (-4 : Int32)))] [(.int (1 : Int32)), (.int ((((p1.toUInt32 >>> ((8 : Int32) &&& 31).toUInt32).toInt32).toUInt32 >>> ((4 : Int32) &&& 31).toUInt32).toInt32)), (.int (((31 : Int32) + (-8 : Int32)) + (-4 : Int32)))]))
            refine own_to (fun t k => XS.iushr X0.here hx rfl (hb hby own_d3_76) rfl k) ?_
            show own_Fin _ _ _ _ _ _ (s₁.setTop (mkF m 77 #[.val (.int ((((p1.toUInt32 >>> ((8 : Int32) &&& 31).toUInt32).toInt32).toUInt32 >>> ((4 : Int32) &&& 31).toUInt32).toInt32)), .val (.int (((31 : Int32) + (-8 : Int32)) + (-4 : Int32)))] [(.int ((((((p1.toUInt32 >>> ((8 : Int32) &&& 31).toUInt32).toInt32).toUInt32 >>> ((4 : Int32) &&& 31).toUInt32).toInt32).toUInt32 >>> ((1 : Int32) &&& 31).toUInt32).toInt32)), (.int (((31 : Int32) + (-8 : Int32)) + (-4 : Int32)))]))
            refine own_to (fun t k => XS.isub X0.here hx rfl (hb hby own_d3_77) rfl k) ?_
            show own_Fin _ _ _ _ _ _ (s₁.setTop (mkF m 78 #[.val (.int ((((p1.toUInt32 >>> ((8 : Int32) &&& 31).toUInt32).toInt32).toUInt32 >>> ((4 : Int32) &&& 31).toUInt32).toInt32)), .val (.int (((31 : Int32) + (-8 : Int32)) + (-4 : Int32)))] [(.int ((((31 : Int32) + (-8 : Int32)) + (-4 : Int32)) - ((((((p1.toUInt32 >>> ((8 : Int32) &&& 31).toUInt32).toInt32).toUInt32 >>> ((4 : Int32) &&& 31).toUInt32).toInt32).toUInt32 >>> ((1 : Int32) &&& 31).toUInt32).toInt32)))]))
            refine own_retI X0 hx hlk hret (hb hby own_d3_78) (by decide) (by decide) ?_
            try rw [e0]
            exact ⟨congrArg (fun z => some (Value.int z)) (Eq.symm (show own_nlz p1 = _ from ((if_pos hc1_1).trans ((if_pos hc22_2).trans ((if_neg hc37_3).trans ((if_neg hc51_7).trans ((if_pos hc63_9).trans rfl))))))), N0, rfl⟩
          ·
            show own_Fin _ _ _ _ _ _ (s₁.setTop (mkF m 63 #[.val (.int ((((p1.toUInt32 >>> ((8 : Int32) &&& 31).toUInt32).toInt32).toUInt32 >>> ((4 : Int32) &&& 31).toUInt32).toInt32)), .val (.int (((31 : Int32) + (-8 : Int32)) + (-4 : Int32)))] [(.int (4 : Int32)), (.int ((((p1.toUInt32 >>> ((8 : Int32) &&& 31).toUInt32).toInt32).toUInt32 >>> ((4 : Int32) &&& 31).toUInt32).toInt32))]))
            refine own_to (fun t k => XS.icmpNo X0.here hx rfl (hb hby own_d3_63) rfl (flt hc63_9).1 k) ?_
            show own_Fin _ _ _ _ _ _ (s₁.setTop (mkF m 66 #[.val (.int ((((p1.toUInt32 >>> ((8 : Int32) &&& 31).toUInt32).toInt32).toUInt32 >>> ((4 : Int32) &&& 31).toUInt32).toInt32)), .val (.int (((31 : Int32) + (-8 : Int32)) + (-4 : Int32)))] []))
            refine own_to (fun t k => XS.iinc X0.here hx rfl (hb hby own_d3_66) rfl (l' := #[.val (.int ((((p1.toUInt32 >>> ((8 : Int32) &&& 31).toUInt32).toInt32).toUInt32 >>> ((4 : Int32) &&& 31).toUInt32).toInt32)), .val (.int ((((31 : Int32) + (-8 : Int32)) + (-4 : Int32)) + (-2 : Int32)))]) rfl k) ?_
            show own_Fin _ _ _ _ _ _ (s₁.setTop (mkF m 69 #[.val (.int ((((p1.toUInt32 >>> ((8 : Int32) &&& 31).toUInt32).toInt32).toUInt32 >>> ((4 : Int32) &&& 31).toUInt32).toInt32)), .val (.int ((((31 : Int32) + (-8 : Int32)) + (-4 : Int32)) + (-2 : Int32)))] []))
            refine own_to (fun t k => XS.iloadN X0.here hx rfl (hb hby own_d3_69) rfl k) ?_
            show own_Fin _ _ _ _ _ _ (s₁.setTop (mkF m 70 #[.val (.int ((((p1.toUInt32 >>> ((8 : Int32) &&& 31).toUInt32).toInt32).toUInt32 >>> ((4 : Int32) &&& 31).toUInt32).toInt32)), .val (.int ((((31 : Int32) + (-8 : Int32)) + (-4 : Int32)) + (-2 : Int32)))] [(.int ((((p1.toUInt32 >>> ((8 : Int32) &&& 31).toUInt32).toInt32).toUInt32 >>> ((4 : Int32) &&& 31).toUInt32).toInt32))]))
            refine own_to (fun t k => XS.iconst X0.here hx rfl (hb hby own_d3_70) k) ?_
            show own_Fin _ _ _ _ _ _ (s₁.setTop (mkF m 71 #[.val (.int ((((p1.toUInt32 >>> ((8 : Int32) &&& 31).toUInt32).toInt32).toUInt32 >>> ((4 : Int32) &&& 31).toUInt32).toInt32)), .val (.int ((((31 : Int32) + (-8 : Int32)) + (-4 : Int32)) + (-2 : Int32)))] [(.int (2 : Int32)), (.int ((((p1.toUInt32 >>> ((8 : Int32) &&& 31).toUInt32).toInt32).toUInt32 >>> ((4 : Int32) &&& 31).toUInt32).toInt32))]))
            refine own_to (fun t k => XS.iushr X0.here hx rfl (hb hby own_d3_71) rfl k) ?_
            show own_Fin _ _ _ _ _ _ (s₁.setTop (mkF m 72 #[.val (.int ((((p1.toUInt32 >>> ((8 : Int32) &&& 31).toUInt32).toInt32).toUInt32 >>> ((4 : Int32) &&& 31).toUInt32).toInt32)), .val (.int ((((31 : Int32) + (-8 : Int32)) + (-4 : Int32)) + (-2 : Int32)))] [(.int ((((((p1.toUInt32 >>> ((8 : Int32) &&& 31).toUInt32).toInt32).toUInt32 >>> ((4 : Int32) &&& 31).toUInt32).toInt32).toUInt32 >>> ((2 : Int32) &&& 31).toUInt32).toInt32))]))
            refine own_to (fun t k => XS.istoreN X0.here hx rfl (hb hby own_d3_72) rfl (l' := #[.val (.int ((((((p1.toUInt32 >>> ((8 : Int32) &&& 31).toUInt32).toInt32).toUInt32 >>> ((4 : Int32) &&& 31).toUInt32).toInt32).toUInt32 >>> ((2 : Int32) &&& 31).toUInt32).toInt32)), .val (.int ((((31 : Int32) + (-8 : Int32)) + (-4 : Int32)) + (-2 : Int32)))]) rfl k) ?_
            show own_Fin _ _ _ _ _ _ (s₁.setTop (mkF m 73 #[.val (.int ((((((p1.toUInt32 >>> ((8 : Int32) &&& 31).toUInt32).toInt32).toUInt32 >>> ((4 : Int32) &&& 31).toUInt32).toInt32).toUInt32 >>> ((2 : Int32) &&& 31).toUInt32).toInt32)), .val (.int ((((31 : Int32) + (-8 : Int32)) + (-4 : Int32)) + (-2 : Int32)))] []))
            refine own_to (fun t k => XS.iloadN X0.here hx rfl (hb hby own_d3_73) rfl k) ?_
            show own_Fin _ _ _ _ _ _ (s₁.setTop (mkF m 74 #[.val (.int ((((((p1.toUInt32 >>> ((8 : Int32) &&& 31).toUInt32).toInt32).toUInt32 >>> ((4 : Int32) &&& 31).toUInt32).toInt32).toUInt32 >>> ((2 : Int32) &&& 31).toUInt32).toInt32)), .val (.int ((((31 : Int32) + (-8 : Int32)) + (-4 : Int32)) + (-2 : Int32)))] [(.int ((((31 : Int32) + (-8 : Int32)) + (-4 : Int32)) + (-2 : Int32)))]))
            refine own_to (fun t k => XS.iloadN X0.here hx rfl (hb hby own_d3_74) rfl k) ?_
            show own_Fin _ _ _ _ _ _ (s₁.setTop (mkF m 75 #[.val (.int ((((((p1.toUInt32 >>> ((8 : Int32) &&& 31).toUInt32).toInt32).toUInt32 >>> ((4 : Int32) &&& 31).toUInt32).toInt32).toUInt32 >>> ((2 : Int32) &&& 31).toUInt32).toInt32)), .val (.int ((((31 : Int32) + (-8 : Int32)) + (-4 : Int32)) + (-2 : Int32)))] [(.int ((((((p1.toUInt32 >>> ((8 : Int32) &&& 31).toUInt32).toInt32).toUInt32 >>> ((4 : Int32) &&& 31).toUInt32).toInt32).toUInt32 >>> ((2 : Int32) &&& 31).toUInt32).toInt32)), (.int ((((31 : Int32) + (-8 : Int32)) + (-4 : Int32)) + (-2 : Int32)))]))
            refine own_to (fun t k => XS.iconst X0.here hx rfl (hb hby own_d3_75) k) ?_
            show own_Fin _ _ _ _ _ _ (s₁.setTop (mkF m 76 #[.val (.int ((((((p1.toUInt32 >>> ((8 : Int32) &&& 31).toUInt32).toInt32).toUInt32 >>> ((4 : Int32) &&& 31).toUInt32).toInt32).toUInt32 >>> ((2 : Int32) &&& 31).toUInt32).toInt32)), .val (.int ((((31 : Int32) + (-8 : Int32)) + (-4 : Int32)) + (-2 : Int32)))] [(.int (1 : Int32)), (.int ((((((p1.toUInt32 >>> ((8 : Int32) &&& 31).toUInt32).toInt32).toUInt32 >>> ((4 : Int32) &&& 31).toUInt32).toInt32).toUInt32 >>> ((2 : Int32) &&& 31).toUInt32).toInt32)), (.int ((((31 : Int32) + (-8 : Int32)) + (-4 : Int32)) + (-2 : Int32)))]))
            refine own_to (fun t k => XS.iushr X0.here hx rfl (hb hby own_d3_76) rfl k) ?_
            show own_Fin _ _ _ _ _ _ (s₁.setTop (mkF m 77 #[.val (.int ((((((p1.toUInt32 >>> ((8 : Int32) &&& 31).toUInt32).toInt32).toUInt32 >>> ((4 : Int32) &&& 31).toUInt32).toInt32).toUInt32 >>> ((2 : Int32) &&& 31).toUInt32).toInt32)), .val (.int ((((31 : Int32) + (-8 : Int32)) + (-4 : Int32)) + (-2 : Int32)))] [(.int ((((((((p1.toUInt32 >>> ((8 : Int32) &&& 31).toUInt32).toInt32).toUInt32 >>> ((4 : Int32) &&& 31).toUInt32).toInt32).toUInt32 >>> ((2 : Int32) &&& 31).toUInt32).toInt32).toUInt32 >>> ((1 : Int32) &&& 31).toUInt32).toInt32)), (.int ((((31 : Int32) + (-8 : Int32)) + (-4 : Int32)) + (-2 : Int32)))]))
            refine own_to (fun t k => XS.isub X0.here hx rfl (hb hby own_d3_77) rfl k) ?_
            show own_Fin _ _ _ _ _ _ (s₁.setTop (mkF m 78 #[.val (.int ((((((p1.toUInt32 >>> ((8 : Int32) &&& 31).toUInt32).toInt32).toUInt32 >>> ((4 : Int32) &&& 31).toUInt32).toInt32).toUInt32 >>> ((2 : Int32) &&& 31).toUInt32).toInt32)), .val (.int ((((31 : Int32) + (-8 : Int32)) + (-4 : Int32)) + (-2 : Int32)))] [(.int (((((31 : Int32) + (-8 : Int32)) + (-4 : Int32)) + (-2 : Int32)) - ((((((((p1.toUInt32 >>> ((8 : Int32) &&& 31).toUInt32).toInt32).toUInt32 >>> ((4 : Int32) &&& 31).toUInt32).toInt32).toUInt32 >>> ((2 : Int32) &&& 31).toUInt32).toInt32).toUInt32 >>> ((1 : Int32) &&& 31).toUInt32).toInt32)))]))
            refine own_retI X0 hx hlk hret (hb hby own_d3_78) (by decide) (by decide) ?_
            try rw [e0]
            exact ⟨congrArg (fun z => some (Value.int z)) (Eq.symm (show own_nlz p1 = _ from ((if_pos hc1_1).trans ((if_pos hc22_2).trans ((if_neg hc37_3).trans ((if_neg hc51_7).trans ((if_neg hc63_9).trans rfl))))))), N0, rfl⟩
    ·
      show own_Fin _ _ _ _ _ _ (s₁.setTop (mkF m 22 #[.val (.int p1), .val (.int (31 : Int32))] [(.int (65536 : Int32)), (.int p1)]))
      refine own_to (fun t k => XS.icmpNo X0.here hx rfl (hb hby own_d3_22) rfl (flt hc22_2).1 k) ?_
      show own_Fin _ _ _ _ _ _ (s₁.setTop (mkF m 25 #[.val (.int p1), .val (.int (31 : Int32))] []))
      refine own_to (fun t k => XS.iinc X0.here hx rfl (hb hby own_d3_25) rfl (l' := #[.val (.int p1), .val (.int ((31 : Int32) + (-16 : Int32)))]) rfl k) ?_
      show own_Fin _ _ _ _ _ _ (s₁.setTop (mkF m 28 #[.val (.int p1), .val (.int ((31 : Int32) + (-16 : Int32)))] []))
      refine own_to (fun t k => XS.iloadN X0.here hx rfl (hb hby own_d3_28) rfl k) ?_
      show own_Fin _ _ _ _ _ _ (s₁.setTop (mkF m 29 #[.val (.int p1), .val (.int ((31 : Int32) + (-16 : Int32)))] [(.int p1)]))
      refine own_to (fun t k => XS.bipush X0.here hx rfl (hb hby own_d3_29) k) ?_
      show own_Fin _ _ _ _ _ _ (s₁.setTop (mkF m 31 #[.val (.int p1), .val (.int ((31 : Int32) + (-16 : Int32)))] [(.int (16 : Int32)), (.int p1)]))
      refine own_to (fun t k => XS.iushr X0.here hx rfl (hb hby own_d3_31) rfl k) ?_
      show own_Fin _ _ _ _ _ _ (s₁.setTop (mkF m 32 #[.val (.int p1), .val (.int ((31 : Int32) + (-16 : Int32)))] [(.int ((p1.toUInt32 >>> ((16 : Int32) &&& 31).toUInt32).toInt32))]))
      refine own_to (fun t k => XS.istoreN X0.here hx rfl (hb hby own_d3_32) rfl (l' := #[.val (.int ((p1.toUInt32 >>> ((16 : Int32) &&& 31).toUInt32).toInt32)), .val (.int ((31 : Int32) + (-16 : Int32)))]) rfl k) ?_
      show own_Fin _ _ _ _ _ _ (s₁.setTop (mkF m 33 #[.val (.int ((p1.toUInt32 >>> ((16 : Int32) &&& 31).toUInt32).toInt32)), .val (.int ((31 : Int32) + (-16 : Int32)))] []))
      refine own_to (fun t k => XS.iloadN X0.here hx rfl (hb hby own_d3_33) rfl k) ?_
      show own_Fin _ _ _ _ _ _ (s₁.setTop (mkF m 34 #[.val (.int ((p1.toUInt32 >>> ((16 : Int32) &&& 31).toUInt32).toInt32)), .val (.int ((31 : Int32) + (-16 : Int32)))] [(.int ((p1.toUInt32 >>> ((16 : Int32) &&& 31).toUInt32).toInt32))]))
      refine own_to (fun t k => XS.sipush X0.here hx rfl (hb hby own_d3_34) k) ?_
      show own_Fin _ _ _ _ _ _ (s₁.setTop (mkF m 37 #[.val (.int ((p1.toUInt32 >>> ((16 : Int32) &&& 31).toUInt32).toInt32)), .val (.int ((31 : Int32) + (-16 : Int32)))] [(.int (256 : Int32)), (.int ((p1.toUInt32 >>> ((16 : Int32) &&& 31).toUInt32).toInt32))]))
      by_cases hc37_10 : ((p1.toUInt32 >>> ((16 : Int32) &&& 31).toUInt32).toInt32) < (256 : Int32)
      ·
        show own_Fin _ _ _ _ _ _ (s₁.setTop (mkF m 37 #[.val (.int ((p1.toUInt32 >>> ((16 : Int32) &&& 31).toUInt32).toInt32)), .val (.int ((31 : Int32) + (-16 : Int32)))] [(.int (256 : Int32)), (.int ((p1.toUInt32 >>> ((16 : Int32) &&& 31).toUInt32).toInt32))]))
        refine own_to (fun t k => XS.icmpYes X0.here hx rfl (pc0 := 37) (pc' := 48) rfl (hb hby own_d3_37) rfl (tlt hc37_10).1 (by decide) (by decide) k) ?_
        show own_Fin _ _ _ _ _ _ (s₁.setTop (mkF m 48 #[.val (.int ((p1.toUInt32 >>> ((16 : Int32) &&& 31).toUInt32).toInt32)), .val (.int ((31 : Int32) + (-16 : Int32)))] []))
        refine own_to (fun t k => XS.iloadN X0.here hx rfl (hb hby own_d3_48) rfl k) ?_
        show own_Fin _ _ _ _ _ _ (s₁.setTop (mkF m 49 #[.val (.int ((p1.toUInt32 >>> ((16 : Int32) &&& 31).toUInt32).toInt32)), .val (.int ((31 : Int32) + (-16 : Int32)))] [(.int ((p1.toUInt32 >>> ((16 : Int32) &&& 31).toUInt32).toInt32))]))
        refine own_to (fun t k => XS.bipush X0.here hx rfl (hb hby own_d3_49) k) ?_
        show own_Fin _ _ _ _ _ _ (s₁.setTop (mkF m 51 #[.val (.int ((p1.toUInt32 >>> ((16 : Int32) &&& 31).toUInt32).toInt32)), .val (.int ((31 : Int32) + (-16 : Int32)))] [(.int (16 : Int32)), (.int ((p1.toUInt32 >>> ((16 : Int32) &&& 31).toUInt32).toInt32))]))
        by_cases hc51_11 : ((p1.toUInt32 >>> ((16 : Int32) &&& 31).toUInt32).toInt32) < (16 : Int32)
        ·
          show own_Fin _ _ _ _ _ _ (s₁.setTop (mkF m 51 #[.val (.int ((p1.toUInt32 >>> ((16 : Int32) &&& 31).toUInt32).toInt32)), .val (.int ((31 : Int32) + (-16 : Int32)))] [(.int (16 : Int32)), (.int ((p1.toUInt32 >>> ((16 : Int32) &&& 31).toUInt32).toInt32))]))
          refine own_to (fun t k => XS.icmpYes X0.here hx rfl (pc0 := 51) (pc' := 61) rfl (hb hby own_d3_51) rfl (tlt hc51_11).1 (by decide) (by decide) k) ?_
          show own_Fin _ _ _ _ _ _ (s₁.setTop (mkF m 61 #[.val (.int ((p1.toUInt32 >>> ((16 : Int32) &&& 31).toUInt32).toInt32)), .val (.int ((31 : Int32) + (-16 : Int32)))] []))
          refine own_to (fun t k => XS.iloadN X0.here hx rfl (hb hby own_d3_61) rfl k) ?_
          show own_Fin _ _ _ _ _ _ (s₁.setTop (mkF m 62 #[.val (.int ((p1.toUInt32 >>> ((16 : Int32) &&& 31).toUInt32).toInt32)), .val (.int ((31 : Int32) + (-16 : Int32)))] [(.int ((p1.toUInt32 >>> ((16 : Int32) &&& 31).toUInt32).toInt32))]))
          refine own_to (fun t k => XS.iconst X0.here hx rfl (hb hby own_d3_62) k) ?_
          show own_Fin _ _ _ _ _ _ (s₁.setTop (mkF m 63 #[.val (.int ((p1.toUInt32 >>> ((16 : Int32) &&& 31).toUInt32).toInt32)), .val (.int ((31 : Int32) + (-16 : Int32)))] [(.int (4 : Int32)), (.int ((p1.toUInt32 >>> ((16 : Int32) &&& 31).toUInt32).toInt32))]))
          by_cases hc63_12 : ((p1.toUInt32 >>> ((16 : Int32) &&& 31).toUInt32).toInt32) < (4 : Int32)
          ·
            show own_Fin _ _ _ _ _ _ (s₁.setTop (mkF m 63 #[.val (.int ((p1.toUInt32 >>> ((16 : Int32) &&& 31).toUInt32).toInt32)), .val (.int ((31 : Int32) + (-16 : Int32)))] [(.int (4 : Int32)), (.int ((p1.toUInt32 >>> ((16 : Int32) &&& 31).toUInt32).toInt32))]))
            refine own_to (fun t k => XS.icmpYes X0.here hx rfl (pc0 := 63) (pc' := 73) rfl (hb hby own_d3_63) rfl (tlt hc63_12).1 (by decide) (by decide) k) ?_
            show own_Fin _ _ _ _ _ _ (s₁.setTop (mkF m 73 #[.val (.int ((p1.toUInt32 >>> ((16 : Int32) &&& 31).toUInt32).toInt32)), .val (.int ((31 : Int32) + (-16 : Int32)))] []))
            refine own_to (fun t k => XS.iloadN X0.here hx rfl (hb hby own_d3_73) rfl k) ?_
            show own_Fin _ _ _ _ _ _ (s₁.setTop (mkF m 74 #[.val (.int ((p1.toUInt32 >>> ((16 : Int32) &&& 31).toUInt32).toInt32)), .val (.int ((31 : Int32) + (-16 : Int32)))] [(.int ((31 : Int32) + (-16 : Int32)))]))
            refine own_to (fun t k => XS.iloadN X0.here hx rfl (hb hby own_d3_74) rfl k) ?_
            show own_Fin _ _ _ _ _ _ (s₁.setTop (mkF m 75 #[.val (.int ((p1.toUInt32 >>> ((16 : Int32) &&& 31).toUInt32).toInt32)), .val (.int ((31 : Int32) + (-16 : Int32)))] [(.int ((p1.toUInt32 >>> ((16 : Int32) &&& 31).toUInt32).toInt32)), (.int ((31 : Int32) + (-16 : Int32)))]))
            refine own_to (fun t k => XS.iconst X0.here hx rfl (hb hby own_d3_75) k) ?_
            show own_Fin _ _ _ _ _ _ (s₁.setTop (mkF m 76 #[.val (.int ((p1.toUInt32 >>> ((16 : Int32) &&& 31).toUInt32).toInt32)), .val (.int ((31 : Int32) + (-16 : Int32)))] [(.int (1 : Int32)), (.int ((p1.toUInt32 >>> ((16 : Int32) &&& 31).toUInt32).toInt32)), (.int ((31 : Int32) + (-16 : Int32)))]))
            refine own_to (fun t k => XS.iushr X0.here hx rfl (hb hby own_d3_76) rfl k) ?_
            show own_Fin _ _ _ _ _ _ (s₁.setTop (mkF m 77 #[.val (.int ((p1.toUInt32 >>> ((16 : Int32) &&& 31).toUInt32).toInt32)), .val (.int ((31 : Int32) + (-16 : Int32)))] [(.int ((((p1.toUInt32 >>> ((16 : Int32) &&& 31).toUInt32).toInt32).toUInt32 >>> ((1 : Int32) &&& 31).toUInt32).toInt32)), (.int ((31 : Int32) + (-16 : Int32)))]))
            refine own_to (fun t k => XS.isub X0.here hx rfl (hb hby own_d3_77) rfl k) ?_
            show own_Fin _ _ _ _ _ _ (s₁.setTop (mkF m 78 #[.val (.int ((p1.toUInt32 >>> ((16 : Int32) &&& 31).toUInt32).toInt32)), .val (.int ((31 : Int32) + (-16 : Int32)))] [(.int (((31 : Int32) + (-16 : Int32)) - ((((p1.toUInt32 >>> ((16 : Int32) &&& 31).toUInt32).toInt32).toUInt32 >>> ((1 : Int32) &&& 31).toUInt32).toInt32)))]))
            refine own_retI X0 hx hlk hret (hb hby own_d3_78) (by decide) (by decide) ?_
            try rw [e0]
            exact ⟨congrArg (fun z => some (Value.int z)) (Eq.symm (show own_nlz p1 = _ from ((if_pos hc1_1).trans ((if_neg hc22_2).trans ((if_pos hc37_10).trans ((if_pos hc51_11).trans ((if_pos hc63_12).trans rfl))))))), N0, rfl⟩
          ·
            show own_Fin _ _ _ _ _ _ (s₁.setTop (mkF m 63 #[.val (.int ((p1.toUInt32 >>> ((16 : Int32) &&& 31).toUInt32).toInt32)), .val (.int ((31 : Int32) + (-16 : Int32)))] [(.int (4 : Int32)), (.int ((p1.toUInt32 >>> ((16 : Int32) &&& 31).toUInt32).toInt32))]))
            refine own_to (fun t k => XS.icmpNo X0.here hx rfl (hb hby own_d3_63) rfl (flt hc63_12).1 k) ?_
            show own_Fin _ _ _ _ _ _ (s₁.setTop (mkF m 66 #[.val (.int ((p1.toUInt32 >>> ((16 : Int32) &&& 31).toUInt32).toInt32)), .val (.int ((31 : Int32) + (-16 : Int32)))] []))
            refine own_to (fun t k => XS.iinc X0.here hx rfl (hb hby own_d3_66) rfl (l' := #[.val (.int ((p1.toUInt32 >>> ((16 : Int32) &&& 31).toUInt32).toInt32)), .val (.int (((31 : Int32) + (-16 : Int32)) + (-2 : Int32)))]) rfl k) ?_
            show own_Fin _ _ _ _ _ _ (s₁.setTop (mkF m 69 #[.val (.int ((p1.toUInt32 >>> ((16 : Int32) &&& 31).toUInt32).toInt32)), .val (.int (((31 : Int32) + (-16 : Int32)) + (-2 : Int32)))] []))
            refine own_to (fun t k => XS.iloadN X0.here hx rfl (hb hby own_d3_69) rfl k) ?_
            show own_Fin _ _ _ _ _ _ (s₁.setTop (mkF m 70 #[.val (.int ((p1.toUInt32 >>> ((16 : Int32) &&& 31).toUInt32).toInt32)), .val (.int (((31 : Int32) + (-16 : Int32)) + (-2 : Int32)))] [(.int ((p1.toUInt32 >>> ((16 : Int32) &&& 31).toUInt32).toInt32))]))
            refine own_to (fun t k => XS.iconst X0.here hx rfl (hb hby own_d3_70) k) ?_
            show own_Fin _ _ _ _ _ _ (s₁.setTop (mkF m 71 #[.val (.int ((p1.toUInt32 >>> ((16 : Int32) &&& 31).toUInt32).toInt32)), .val (.int (((31 : Int32) + (-16 : Int32)) + (-2 : Int32)))] [(.int (2 : Int32)), (.int ((p1.toUInt32 >>> ((16 : Int32) &&& 31).toUInt32).toInt32))]))
            refine own_to (fun t k => XS.iushr X0.here hx rfl (hb hby own_d3_71) rfl k) ?_
            show own_Fin _ _ _ _ _ _ (s₁.setTop (mkF m 72 #[.val (.int ((p1.toUInt32 >>> ((16 : Int32) &&& 31).toUInt32).toInt32)), .val (.int (((31 : Int32) + (-16 : Int32)) + (-2 : Int32)))] [(.int ((((p1.toUInt32 >>> ((16 : Int32) &&& 31).toUInt32).toInt32).toUInt32 >>> ((2 : Int32) &&& 31).toUInt32).toInt32))]))
            refine own_to (fun t k => XS.istoreN X0.here hx rfl (hb hby own_d3_72) rfl (l' := #[.val (.int ((((p1.toUInt32 >>> ((16 : Int32) &&& 31).toUInt32).toInt32).toUInt32 >>> ((2 : Int32) &&& 31).toUInt32).toInt32)), .val (.int (((31 : Int32) + (-16 : Int32)) + (-2 : Int32)))]) rfl k) ?_
            show own_Fin _ _ _ _ _ _ (s₁.setTop (mkF m 73 #[.val (.int ((((p1.toUInt32 >>> ((16 : Int32) &&& 31).toUInt32).toInt32).toUInt32 >>> ((2 : Int32) &&& 31).toUInt32).toInt32)), .val (.int (((31 : Int32) + (-16 : Int32)) + (-2 : Int32)))] []))
            refine own_to (fun t k => XS.iloadN X0.here hx rfl (hb hby own_d3_73) rfl k) ?_
            show own_Fin _ _ _ _ _ _ (s₁.setTop (mkF m 74 #[.val (.int ((((p1.toUInt32 >>> ((16 : Int32) &&& 31).toUInt32).toInt32).toUInt32 >>> ((2 : Int32) &&& 31).toUInt32).toInt32)), .val (.int (((31 : Int32) + (-16 : Int32)) + (-2 : Int32)))] [(.int (((31 : Int32) + (-16 : Int32)) + (-2 : Int32)))]))
            refine own_to (fun t k => XS.iloadN X0.here hx rfl (hb hby own_d3_74) rfl k) ?_
            show own_Fin _ _ _ _ _ _ (s₁.setTop (mkF m 75 #[.val (.int ((((p1.toUInt32 >>> ((16 : Int32) &&& 31).toUInt32).toInt32).toUInt32 >>> ((2 : Int32) &&& 31).toUInt32).toInt32)), .val (.int (((31 : Int32) + (-16 : Int32)) + (-2 : Int32)))] [(.int ((((p1.toUInt32 >>> ((16 : Int32) &&& 31).toUInt32).toInt32).toUInt32 >>> ((2 : Int32) &&& 31).toUInt32).toInt32)), (.int (((31 : Int32) + (-16 : Int32)) + (-2 : Int32)))]))
            refine own_to (fun t k => XS.iconst X0.here hx rfl (hb hby own_d3_75) k) ?_
            show own_Fin _ _ _ _ _ _ (s₁.setTop (mkF m 76 #[.val (.int ((((p1.toUInt32 >>> ((16 : Int32) &&& 31).toUInt32).toInt32).toUInt32 >>> ((2 : Int32) &&& 31).toUInt32).toInt32)), .val (.int (((31 : Int32) + (-16 : Int32)) + (-2 : Int32)))] [(.int (1 : Int32)), (.int ((((p1.toUInt32 >>> ((16 : Int32) &&& 31).toUInt32).toInt32).toUInt32 >>> ((2 : Int32) &&& 31).toUInt32).toInt32)), (.int (((31 : Int32) + (-16 : Int32)) + (-2 : Int32)))]))
            refine own_to (fun t k => XS.iushr X0.here hx rfl (hb hby own_d3_76) rfl k) ?_
            show own_Fin _ _ _ _ _ _ (s₁.setTop (mkF m 77 #[.val (.int ((((p1.toUInt32 >>> ((16 : Int32) &&& 31).toUInt32).toInt32).toUInt32 >>> ((2 : Int32) &&& 31).toUInt32).toInt32)), .val (.int (((31 : Int32) + (-16 : Int32)) + (-2 : Int32)))] [(.int ((((((p1.toUInt32 >>> ((16 : Int32) &&& 31).toUInt32).toInt32).toUInt32 >>> ((2 : Int32) &&& 31).toUInt32).toInt32).toUInt32 >>> ((1 : Int32) &&& 31).toUInt32).toInt32)), (.int (((31 : Int32) + (-16 : Int32)) + (-2 : Int32)))]))
            refine own_to (fun t k => XS.isub X0.here hx rfl (hb hby own_d3_77) rfl k) ?_
            show own_Fin _ _ _ _ _ _ (s₁.setTop (mkF m 78 #[.val (.int ((((p1.toUInt32 >>> ((16 : Int32) &&& 31).toUInt32).toInt32).toUInt32 >>> ((2 : Int32) &&& 31).toUInt32).toInt32)), .val (.int (((31 : Int32) + (-16 : Int32)) + (-2 : Int32)))] [(.int ((((31 : Int32) + (-16 : Int32)) + (-2 : Int32)) - ((((((p1.toUInt32 >>> ((16 : Int32) &&& 31).toUInt32).toInt32).toUInt32 >>> ((2 : Int32) &&& 31).toUInt32).toInt32).toUInt32 >>> ((1 : Int32) &&& 31).toUInt32).toInt32)))]))
            refine own_retI X0 hx hlk hret (hb hby own_d3_78) (by decide) (by decide) ?_
            try rw [e0]
            exact ⟨congrArg (fun z => some (Value.int z)) (Eq.symm (show own_nlz p1 = _ from ((if_pos hc1_1).trans ((if_neg hc22_2).trans ((if_pos hc37_10).trans ((if_pos hc51_11).trans ((if_neg hc63_12).trans rfl))))))), N0, rfl⟩
        ·
          show own_Fin _ _ _ _ _ _ (s₁.setTop (mkF m 51 #[.val (.int ((p1.toUInt32 >>> ((16 : Int32) &&& 31).toUInt32).toInt32)), .val (.int ((31 : Int32) + (-16 : Int32)))] [(.int (16 : Int32)), (.int ((p1.toUInt32 >>> ((16 : Int32) &&& 31).toUInt32).toInt32))]))
          refine own_to (fun t k => XS.icmpNo X0.here hx rfl (hb hby own_d3_51) rfl (flt hc51_11).1 k) ?_
          show own_Fin _ _ _ _ _ _ (s₁.setTop (mkF m 54 #[.val (.int ((p1.toUInt32 >>> ((16 : Int32) &&& 31).toUInt32).toInt32)), .val (.int ((31 : Int32) + (-16 : Int32)))] []))
          refine own_to (fun t k => XS.iinc X0.here hx rfl (hb hby own_d3_54) rfl (l' := #[.val (.int ((p1.toUInt32 >>> ((16 : Int32) &&& 31).toUInt32).toInt32)), .val (.int (((31 : Int32) + (-16 : Int32)) + (-4 : Int32)))]) rfl k) ?_
          show own_Fin _ _ _ _ _ _ (s₁.setTop (mkF m 57 #[.val (.int ((p1.toUInt32 >>> ((16 : Int32) &&& 31).toUInt32).toInt32)), .val (.int (((31 : Int32) + (-16 : Int32)) + (-4 : Int32)))] []))
          refine own_to (fun t k => XS.iloadN X0.here hx rfl (hb hby own_d3_57) rfl k) ?_
          show own_Fin _ _ _ _ _ _ (s₁.setTop (mkF m 58 #[.val (.int ((p1.toUInt32 >>> ((16 : Int32) &&& 31).toUInt32).toInt32)), .val (.int (((31 : Int32) + (-16 : Int32)) + (-4 : Int32)))] [(.int ((p1.toUInt32 >>> ((16 : Int32) &&& 31).toUInt32).toInt32))]))
          refine own_to (fun t k => XS.iconst X0.here hx rfl (hb hby own_d3_58) k) ?_
          show own_Fin _ _ _ _ _ _ (s₁.setTop (mkF m 59 #[.val (.int ((p1.toUInt32 >>> ((16 : Int32) &&& 31).toUInt32).toInt32)), .val (.int (((31 : Int32) + (-16 : Int32)) + (-4 : Int32)))] [(.int (4 : Int32)), (.int ((p1.toUInt32 >>> ((16 : Int32) &&& 31).toUInt32).toInt32))]))
          refine own_to (fun t k => XS.iushr X0.here hx rfl (hb hby own_d3_59) rfl k) ?_
          show own_Fin _ _ _ _ _ _ (s₁.setTop (mkF m 60 #[.val (.int ((p1.toUInt32 >>> ((16 : Int32) &&& 31).toUInt32).toInt32)), .val (.int (((31 : Int32) + (-16 : Int32)) + (-4 : Int32)))] [(.int ((((p1.toUInt32 >>> ((16 : Int32) &&& 31).toUInt32).toInt32).toUInt32 >>> ((4 : Int32) &&& 31).toUInt32).toInt32))]))
          refine own_to (fun t k => XS.istoreN X0.here hx rfl (hb hby own_d3_60) rfl (l' := #[.val (.int ((((p1.toUInt32 >>> ((16 : Int32) &&& 31).toUInt32).toInt32).toUInt32 >>> ((4 : Int32) &&& 31).toUInt32).toInt32)), .val (.int (((31 : Int32) + (-16 : Int32)) + (-4 : Int32)))]) rfl k) ?_
          show own_Fin _ _ _ _ _ _ (s₁.setTop (mkF m 61 #[.val (.int ((((p1.toUInt32 >>> ((16 : Int32) &&& 31).toUInt32).toInt32).toUInt32 >>> ((4 : Int32) &&& 31).toUInt32).toInt32)), .val (.int (((31 : Int32) + (-16 : Int32)) + (-4 : Int32)))] []))
          refine own_to (fun t k => XS.iloadN X0.here hx rfl (hb hby own_d3_61) rfl k) ?_
          show own_Fin _ _ _ _ _ _ (s₁.setTop (mkF m 62 #[.val (.int ((((p1.toUInt32 >>> ((16 : Int32) &&& 31).toUInt32).toInt32).toUInt32 >>> ((4 : Int32) &&& 31).toUInt32).toInt32)), .val (.int (((31 : Int32) + (-16 : Int32)) + (-4 : Int32)))] [(.int ((((p1.toUInt32 >>> ((16 : Int32) &&& 31).toUInt32).toInt32).toUInt32 >>> ((4 : Int32) &&& 31).toUInt32).toInt32))]))
          refine own_to (fun t k => XS.iconst X0.here hx rfl (hb hby own_d3_62) k) ?_
          show own_Fin _ _ _ _ _ _ (s₁.setTop (mkF m 63 #[.val (.int ((((p1.toUInt32 >>> ((16 : Int32) &&& 31).toUInt32).toInt32).toUInt32 >>> ((4 : Int32) &&& 31).toUInt32).toInt32)), .val (.int (((31 : Int32) + (-16 : Int32)) + (-4 : Int32)))] [(.int (4 : Int32)), (.int ((((p1.toUInt32 >>> ((16 : Int32) &&& 31).toUInt32).toInt32).toUInt32 >>> ((4 : Int32) &&& 31).toUInt32).toInt32))]))
          by_cases hc63_13 : ((((p1.toUInt32 >>> ((16 : Int32) &&& 31).toUInt32).toInt32).toUInt32 >>> ((4 : Int32) &&& 31).toUInt32).toInt32) < (4 : Int32)
          ·
            show own_Fin _ _ _ _ _ _ (s₁.setTop (mkF m 63 #[.val (.int ((((p1.toUInt32 >>> ((16 : Int32) &&& 31).toUInt32).toInt32).toUInt32 >>> ((4 : Int32) &&& 31).toUInt32).toInt32)), .val (.int (((31 : Int32) + (-16 : Int32)) + (-4 : Int32)))] [(.int (4 : Int32)), (.int ((((p1.toUInt32 >>> ((16 : Int32) &&& 31).toUInt32).toInt32).toUInt32 >>> ((4 : Int32) &&& 31).toUInt32).toInt32))]))
            refine own_to (fun t k => XS.icmpYes X0.here hx rfl (pc0 := 63) (pc' := 73) rfl (hb hby own_d3_63) rfl (tlt hc63_13).1 (by decide) (by decide) k) ?_
            show own_Fin _ _ _ _ _ _ (s₁.setTop (mkF m 73 #[.val (.int ((((p1.toUInt32 >>> ((16 : Int32) &&& 31).toUInt32).toInt32).toUInt32 >>> ((4 : Int32) &&& 31).toUInt32).toInt32)), .val (.int (((31 : Int32) + (-16 : Int32)) + (-4 : Int32)))] []))
            refine own_to (fun t k => XS.iloadN X0.here hx rfl (hb hby own_d3_73) rfl k) ?_
            show own_Fin _ _ _ _ _ _ (s₁.setTop (mkF m 74 #[.val (.int ((((p1.toUInt32 >>> ((16 : Int32) &&& 31).toUInt32).toInt32).toUInt32 >>> ((4 : Int32) &&& 31).toUInt32).toInt32)), .val (.int (((31 : Int32) + (-16 : Int32)) + (-4 : Int32)))] [(.int (((31 : Int32) + (-16 : Int32)) + (-4 : Int32)))]))
            refine own_to (fun t k => XS.iloadN X0.here hx rfl (hb hby own_d3_74) rfl k) ?_
            show own_Fin _ _ _ _ _ _ (s₁.setTop (mkF m 75 #[.val (.int ((((p1.toUInt32 >>> ((16 : Int32) &&& 31).toUInt32).toInt32).toUInt32 >>> ((4 : Int32) &&& 31).toUInt32).toInt32)), .val (.int (((31 : Int32) + (-16 : Int32)) + (-4 : Int32)))] [(.int ((((p1.toUInt32 >>> ((16 : Int32) &&& 31).toUInt32).toInt32).toUInt32 >>> ((4 : Int32) &&& 31).toUInt32).toInt32)), (.int (((31 : Int32) + (-16 : Int32)) + (-4 : Int32)))]))
            refine own_to (fun t k => XS.iconst X0.here hx rfl (hb hby own_d3_75) k) ?_
            show own_Fin _ _ _ _ _ _ (s₁.setTop (mkF m 76 #[.val (.int ((((p1.toUInt32 >>> ((16 : Int32) &&& 31).toUInt32).toInt32).toUInt32 >>> ((4 : Int32) &&& 31).toUInt32).toInt32)), .val (.int (((31 : Int32) + (-16 : Int32)) + (-4 : Int32)))] [(.int (1 : Int32)), (.int ((((p1.toUInt32 >>> ((16 : Int32) &&& 31).toUInt32).toInt32).toUInt32 >>> ((4 : Int32) &&& 31).toUInt32).toInt32)), (.int (((31 : Int32) + (-16 : Int32)) + (-4 : Int32)))]))
            refine own_to (fun t k => XS.iushr X0.here hx rfl (hb hby own_d3_76) rfl k) ?_
            show own_Fin _ _ _ _ _ _ (s₁.setTop (mkF m 77 #[.val (.int ((((p1.toUInt32 >>> ((16 : Int32) &&& 31).toUInt32).toInt32).toUInt32 >>> ((4 : Int32) &&& 31).toUInt32).toInt32)), .val (.int (((31 : Int32) + (-16 : Int32)) + (-4 : Int32)))] [(.int ((((((p1.toUInt32 >>> ((16 : Int32) &&& 31).toUInt32).toInt32).toUInt32 >>> ((4 : Int32) &&& 31).toUInt32).toInt32).toUInt32 >>> ((1 : Int32) &&& 31).toUInt32).toInt32)), (.int (((31 : Int32) + (-16 : Int32)) + (-4 : Int32)))]))
            refine own_to (fun t k => XS.isub X0.here hx rfl (hb hby own_d3_77) rfl k) ?_
            show own_Fin _ _ _ _ _ _ (s₁.setTop (mkF m 78 #[.val (.int ((((p1.toUInt32 >>> ((16 : Int32) &&& 31).toUInt32).toInt32).toUInt32 >>> ((4 : Int32) &&& 31).toUInt32).toInt32)), .val (.int (((31 : Int32) + (-16 : Int32)) + (-4 : Int32)))] [(.int ((((31 : Int32) + (-16 : Int32)) + (-4 : Int32)) - ((((((p1.toUInt32 >>> ((16 : Int32) &&& 31).toUInt32).toInt32).toUInt32 >>> ((4 : Int32) &&& 31).toUInt32).toInt32).toUInt32 >>> ((1 : Int32) &&& 31).toUInt32).toInt32)))]))
            refine own_retI X0 hx hlk hret (hb hby own_d3_78) (by decide) (by decide) ?_
            try rw [e0]
            exact ⟨congrArg (fun z => some (Value.int z)) (Eq.symm (show own_nlz p1 = _ from ((if_pos hc1_1).trans ((if_neg hc22_2).trans ((if_pos hc37_10).trans ((if_neg hc51_11).trans ((if_pos hc63_13).trans rfl))))))), N0, rfl⟩
          ·
            show own_Fin _ _ _ _ _ _ (s₁.setTop (mkF m 63 #[.val (.int ((((p1.toUInt32 >>> ((16 : Int32) &&& 31).toUInt32).toInt32).toUInt32 >>> ((4 : Int32) &&& 31).toUInt32).toInt32)), .val (.int (((31 : Int32) + (-16 : Int32)) + (-4 : Int32)))] [(.int (4 : Int32)), (.int ((((p1.toUInt32 >>> ((16 : Int32) &&& 31).toUInt32).toInt32).toUInt32 >>> ((4 : Int32) &&& 31).toUInt32).toInt32))]))
            refine own_to (fun t k => XS.icmpNo X0.here hx rfl (hb hby own_d3_63) rfl (flt hc63_13).1 k) ?_
            show own_Fin _ _ _ _ _ _ (s₁.setTop (mkF m 66 #[.val (.int ((((p1.toUInt32 >>> ((16 : Int32) &&& 31).toUInt32).toInt32).toUInt32 >>> ((4 : Int32) &&& 31).toUInt32).toInt32)), .val (.int (((31 : Int32) + (-16 : Int32)) + (-4 : Int32)))] []))
            refine own_to (fun t k => XS.iinc X0.here hx rfl (hb hby own_d3_66) rfl (l' := #[.val (.int ((((p1.toUInt32 >>> ((16 : Int32) &&& 31).toUInt32).toInt32).toUInt32 >>> ((4 : Int32) &&& 31).toUInt32).toInt32)), .val (.int ((((31 : Int32) + (-16 : Int32)) + (-4 : Int32)) + (-2 : Int32)))]) rfl k) ?_
            show own_Fin _ _ _ _ _ _ (s₁.setTop (mkF m 69 #[.val (.int ((((p1.toUInt32 >>> ((16 : Int32) &&& 31).toUInt32).toInt32).toUInt32 >>> ((4 : Int32) &&& 31).toUInt32).toInt32)), .val (.int ((((31 : Int32) + (-16 : Int32)) + (-4 : Int32)) + (-2 : Int32)))] []))
            refine own_to (fun t k => XS.iloadN X0.here hx rfl (hb hby own_d3_69) rfl k) ?_
            show own_Fin _ _ _ _ _ _ (s₁.setTop (mkF m 70 #[.val (.int ((((p1.toUInt32 >>> ((16 : Int32) &&& 31).toUInt32).toInt32).toUInt32 >>> ((4 : Int32) &&& 31).toUInt32).toInt32)), .val (.int ((((31 : Int32) + (-16 : Int32)) + (-4 : Int32)) + (-2 : Int32)))] [(.int ((((p1.toUInt32 >>> ((16 : Int32) &&& 31).toUInt32).toInt32).toUInt32 >>> ((4 : Int32) &&& 31).toUInt32).toInt32))]))
            refine own_to (fun t k => XS.iconst X0.here hx rfl (hb hby own_d3_70) k) ?_
            show own_Fin _ _ _ _ _ _ (s₁.setTop (mkF m 71 #[.val (.int ((((p1.toUInt32 >>> ((16 : Int32) &&& 31).toUInt32).toInt32).toUInt32 >>> ((4 : Int32) &&& 31).toUInt32).toInt32)), .val (.int ((((31 : Int32) + (-16 : Int32)) + (-4 : Int32)) + (-2 : Int32)))] [(.int (2 : Int32)), (.int ((((p1.toUInt32 >>> ((16 : Int32) &&& 31).toUInt32).toInt32).toUInt32 >>> ((4 : Int32) &&& 31).toUInt32).toInt32))]))
            refine own_to (fun t k => XS.iushr X0.here hx rfl (hb hby own_d3_71) rfl k) ?_
            show own_Fin _ _ _ _ _ _ (s₁.setTop (mkF m 72 #[.val (.int ((((p1.toUInt32 >>> ((16 : Int32) &&& 31).toUInt32).toInt32).toUInt32 >>> ((4 : Int32) &&& 31).toUInt32).toInt32)), .val (.int ((((31 : Int32) + (-16 : Int32)) + (-4 : Int32)) + (-2 : Int32)))] [(.int ((((((p1.toUInt32 >>> ((16 : Int32) &&& 31).toUInt32).toInt32).toUInt32 >>> ((4 : Int32) &&& 31).toUInt32).toInt32).toUInt32 >>> ((2 : Int32) &&& 31).toUInt32).toInt32))]))
            refine own_to (fun t k => XS.istoreN X0.here hx rfl (hb hby own_d3_72) rfl (l' := #[.val (.int ((((((p1.toUInt32 >>> ((16 : Int32) &&& 31).toUInt32).toInt32).toUInt32 >>> ((4 : Int32) &&& 31).toUInt32).toInt32).toUInt32 >>> ((2 : Int32) &&& 31).toUInt32).toInt32)), .val (.int ((((31 : Int32) + (-16 : Int32)) + (-4 : Int32)) + (-2 : Int32)))]) rfl k) ?_
            show own_Fin _ _ _ _ _ _ (s₁.setTop (mkF m 73 #[.val (.int ((((((p1.toUInt32 >>> ((16 : Int32) &&& 31).toUInt32).toInt32).toUInt32 >>> ((4 : Int32) &&& 31).toUInt32).toInt32).toUInt32 >>> ((2 : Int32) &&& 31).toUInt32).toInt32)), .val (.int ((((31 : Int32) + (-16 : Int32)) + (-4 : Int32)) + (-2 : Int32)))] []))
            refine own_to (fun t k => XS.iloadN X0.here hx rfl (hb hby own_d3_73) rfl k) ?_
            show own_Fin _ _ _ _ _ _ (s₁.setTop (mkF m 74 #[.val (.int ((((((p1.toUInt32 >>> ((16 : Int32) &&& 31).toUInt32).toInt32).toUInt32 >>> ((4 : Int32) &&& 31).toUInt32).toInt32).toUInt32 >>> ((2 : Int32) &&& 31).toUInt32).toInt32)), .val (.int ((((31 : Int32) + (-16 : Int32)) + (-4 : Int32)) + (-2 : Int32)))] [(.int ((((31 : Int32) + (-16 : Int32)) + (-4 : Int32)) + (-2 : Int32)))]))
            refine own_to (fun t k => XS.iloadN X0.here hx rfl (hb hby own_d3_74) rfl k) ?_
            show own_Fin _ _ _ _ _ _ (s₁.setTop (mkF m 75 #[.val (.int ((((((p1.toUInt32 >>> ((16 : Int32) &&& 31).toUInt32).toInt32).toUInt32 >>> ((4 : Int32) &&& 31).toUInt32).toInt32).toUInt32 >>> ((2 : Int32) &&& 31).toUInt32).toInt32)), .val (.int ((((31 : Int32) + (-16 : Int32)) + (-4 : Int32)) + (-2 : Int32)))] [(.int ((((((p1.toUInt32 >>> ((16 : Int32) &&& 31).toUInt32).toInt32).toUInt32 >>> ((4 : Int32) &&& 31).toUInt32).toInt32).toUInt32 >>> ((2 : Int32) &&& 31).toUInt32).toInt32)), (.int ((((31 : Int32) + (-16 : Int32)) + (-4 : Int32)) + (-2 : Int32)))]))
            refine own_to (fun t k => XS.iconst X0.here hx rfl (hb hby own_d3_75) k) ?_
            show own_Fin _ _ _ _ _ _ (s₁.setTop (mkF m 76 #[.val (.int ((((((p1.toUInt32 >>> ((16 : Int32) &&& 31).toUInt32).toInt32).toUInt32 >>> ((4 : Int32) &&& 31).toUInt32).toInt32).toUInt32 >>> ((2 : Int32) &&& 31).toUInt32).toInt32)), .val (.int ((((31 : Int32) + (-16 : Int32)) + (-4 : Int32)) + (-2 : Int32)))] [(.int (1 : Int32)), (.int ((((((p1.toUInt32 >>> ((16 : Int32) &&& 31).toUInt32).toInt32).toUInt32 >>> ((4 : Int32) &&& 31).toUInt32).toInt32).toUInt32 >>> ((2 : Int32) &&& 31).toUInt32).toInt32)), (.int ((((31 : Int32) + (-16 : Int32)) + (-4 : Int32)) + (-2 : Int32)))]))
            refine own_to (fun t k => XS.iushr X0.here hx rfl (hb hby own_d3_76) rfl k) ?_
            show own_Fin _ _ _ _ _ _ (s₁.setTop (mkF m 77 #[.val (.int ((((((p1.toUInt32 >>> ((16 : Int32) &&& 31).toUInt32).toInt32).toUInt32 >>> ((4 : Int32) &&& 31).toUInt32).toInt32).toUInt32 >>> ((2 : Int32) &&& 31).toUInt32).toInt32)), .val (.int ((((31 : Int32) + (-16 : Int32)) + (-4 : Int32)) + (-2 : Int32)))] [(.int ((((((((p1.toUInt32 >>> ((16 : Int32) &&& 31).toUInt32).toInt32).toUInt32 >>> ((4 : Int32) &&& 31).toUInt32).toInt32).toUInt32 >>> ((2 : Int32) &&& 31).toUInt32).toInt32).toUInt32 >>> ((1 : Int32) &&& 31).toUInt32).toInt32)), (.int ((((31 : Int32) + (-16 : Int32)) + (-4 : Int32)) + (-2 : Int32)))]))
            refine own_to (fun t k => XS.isub X0.here hx rfl (hb hby own_d3_77) rfl k) ?_
            show own_Fin _ _ _ _ _ _ (s₁.setTop (mkF m 78 #[.val (.int ((((((p1.toUInt32 >>> ((16 : Int32) &&& 31).toUInt32).toInt32).toUInt32 >>> ((4 : Int32) &&& 31).toUInt32).toInt32).toUInt32 >>> ((2 : Int32) &&& 31).toUInt32).toInt32)), .val (.int ((((31 : Int32) + (-16 : Int32)) + (-4 : Int32)) + (-2 : Int32)))] [(.int (((((31 : Int32) + (-16 : Int32)) + (-4 : Int32)) + (-2 : Int32)) - ((((((((p1.toUInt32 >>> ((16 : Int32) &&& 31).toUInt32).toInt32).toUInt32 >>> ((4 : Int32) &&& 31).toUInt32).toInt32).toUInt32 >>> ((2 : Int32) &&& 31).toUInt32).toInt32).toUInt32 >>> ((1 : Int32) &&& 31).toUInt32).toInt32)))]))
            refine own_retI X0 hx hlk hret (hb hby own_d3_78) (by decide) (by decide) ?_
            try rw [e0]
            exact ⟨congrArg (fun z => some (Value.int z)) (Eq.symm (show own_nlz p1 = _ from ((if_pos hc1_1).trans ((if_neg hc22_2).trans ((if_pos hc37_10).trans ((if_neg hc51_11).trans ((if_neg hc63_13).trans rfl))))))), N0, rfl⟩
      ·
        show own_Fin _ _ _ _ _ _ (s₁.setTop (mkF m 37 #[.val (.int ((p1.toUInt32 >>> ((16 : Int32) &&& 31).toUInt32).toInt32)), .val (.int ((31 : Int32) + (-16 : Int32)))] [(.int (256 : Int32)), (.int ((p1.toUInt32 >>> ((16 : Int32) &&& 31).toUInt32).toInt32))]))
        refine own_to (fun t k => XS.icmpNo X0.here hx rfl (hb hby own_d3_37) rfl (flt hc37_10).1 k) ?_
        show own_Fin _ _ _ _ _ _ (s₁.setTop (mkF m 40 #[.val (.int ((p1.toUInt32 >>> ((16 : Int32) &&& 31).toUInt32).toInt32)), .val (.int ((31 : Int32) + (-16 : Int32)))] []))
        refine own_to (fun t k => XS.iinc X0.here hx rfl (hb hby own_d3_40) rfl (l' := #[.val (.int ((p1.toUInt32 >>> ((16 : Int32) &&& 31).toUInt32).toInt32)), .val (.int (((31 : Int32) + (-16 : Int32)) + (-8 : Int32)))]) rfl k) ?_
        show own_Fin _ _ _ _ _ _ (s₁.setTop (mkF m 43 #[.val (.int ((p1.toUInt32 >>> ((16 : Int32) &&& 31).toUInt32).toInt32)), .val (.int (((31 : Int32) + (-16 : Int32)) + (-8 : Int32)))] []))
        refine own_to (fun t k => XS.iloadN X0.here hx rfl (hb hby own_d3_43) rfl k) ?_
        show own_Fin _ _ _ _ _ _ (s₁.setTop (mkF m 44 #[.val (.int ((p1.toUInt32 >>> ((16 : Int32) &&& 31).toUInt32).toInt32)), .val (.int (((31 : Int32) + (-16 : Int32)) + (-8 : Int32)))] [(.int ((p1.toUInt32 >>> ((16 : Int32) &&& 31).toUInt32).toInt32))]))
        refine own_to (fun t k => XS.bipush X0.here hx rfl (hb hby own_d3_44) k) ?_
        show own_Fin _ _ _ _ _ _ (s₁.setTop (mkF m 46 #[.val (.int ((p1.toUInt32 >>> ((16 : Int32) &&& 31).toUInt32).toInt32)), .val (.int (((31 : Int32) + (-16 : Int32)) + (-8 : Int32)))] [(.int (8 : Int32)), (.int ((p1.toUInt32 >>> ((16 : Int32) &&& 31).toUInt32).toInt32))]))
        refine own_to (fun t k => XS.iushr X0.here hx rfl (hb hby own_d3_46) rfl k) ?_
        show own_Fin _ _ _ _ _ _ (s₁.setTop (mkF m 47 #[.val (.int ((p1.toUInt32 >>> ((16 : Int32) &&& 31).toUInt32).toInt32)), .val (.int (((31 : Int32) + (-16 : Int32)) + (-8 : Int32)))] [(.int ((((p1.toUInt32 >>> ((16 : Int32) &&& 31).toUInt32).toInt32).toUInt32 >>> ((8 : Int32) &&& 31).toUInt32).toInt32))]))
        refine own_to (fun t k => XS.istoreN X0.here hx rfl (hb hby own_d3_47) rfl (l' := #[.val (.int ((((p1.toUInt32 >>> ((16 : Int32) &&& 31).toUInt32).toInt32).toUInt32 >>> ((8 : Int32) &&& 31).toUInt32).toInt32)), .val (.int (((31 : Int32) + (-16 : Int32)) + (-8 : Int32)))]) rfl k) ?_
        show own_Fin _ _ _ _ _ _ (s₁.setTop (mkF m 48 #[.val (.int ((((p1.toUInt32 >>> ((16 : Int32) &&& 31).toUInt32).toInt32).toUInt32 >>> ((8 : Int32) &&& 31).toUInt32).toInt32)), .val (.int (((31 : Int32) + (-16 : Int32)) + (-8 : Int32)))] []))
        refine own_to (fun t k => XS.iloadN X0.here hx rfl (hb hby own_d3_48) rfl k) ?_
        show own_Fin _ _ _ _ _ _ (s₁.setTop (mkF m 49 #[.val (.int ((((p1.toUInt32 >>> ((16 : Int32) &&& 31).toUInt32).toInt32).toUInt32 >>> ((8 : Int32) &&& 31).toUInt32).toInt32)), .val (.int (((31 : Int32) + (-16 : Int32)) + (-8 : Int32)))] [(.int ((((p1.toUInt32 >>> ((16 : Int32) &&& 31).toUInt32).toInt32).toUInt32 >>> ((8 : Int32) &&& 31).toUInt32).toInt32))]))
        refine own_to (fun t k => XS.bipush X0.here hx rfl (hb hby own_d3_49) k) ?_
        show own_Fin _ _ _ _ _ _ (s₁.setTop (mkF m 51 #[.val (.int ((((p1.toUInt32 >>> ((16 : Int32) &&& 31).toUInt32).toInt32).toUInt32 >>> ((8 : Int32) &&& 31).toUInt32).toInt32)), .val (.int (((31 : Int32) + (-16 : Int32)) + (-8 : Int32)))] [(.int (16 : Int32)), (.int ((((p1.toUInt32 >>> ((16 : Int32) &&& 31).toUInt32).toInt32).toUInt32 >>> ((8 : Int32) &&& 31).toUInt32).toInt32))]))
        by_cases hc51_14 : ((((p1.toUInt32 >>> ((16 : Int32) &&& 31).toUInt32).toInt32).toUInt32 >>> ((8 : Int32) &&& 31).toUInt32).toInt32) < (16 : Int32)
        ·
          show own_Fin _ _ _ _ _ _ (s₁.setTop (mkF m 51 #[.val (.int ((((p1.toUInt32 >>> ((16 : Int32) &&& 31).toUInt32).toInt32).toUInt32 >>> ((8 : Int32) &&& 31).toUInt32).toInt32)), .val (.int (((31 : Int32) + (-16 : Int32)) + (-8 : Int32)))] [(.int (16 : Int32)), (.int ((((p1.toUInt32 >>> ((16 : Int32) &&& 31).toUInt32).toInt32).toUInt32 >>> ((8 : Int32) &&& 31).toUInt32).toInt32))]))
          refine own_to (fun t k => XS.icmpYes X0.here hx rfl (pc0 := 51) (pc' := 61) rfl (hb hby own_d3_51) rfl (tlt hc51_14).1 (by decide) (by decide) k) ?_
          show own_Fin _ _ _ _ _ _ (s₁.setTop (mkF m 61 #[.val (.int ((((p1.toUInt32 >>> ((16 : Int32) &&& 31).toUInt32).toInt32).toUInt32 >>> ((8 : Int32) &&& 31).toUInt32).toInt32)), .val (.int (((31 : Int32) + (-16 : Int32)) + (-8 : Int32)))] []))
          refine own_to (fun t k => XS.iloadN X0.here hx rfl (hb hby own_d3_61) rfl k) ?_
          show own_Fin _ _ _ _ _ _ (s₁.setTop (mkF m 62 #[.val (.int ((((p1.toUInt32 >>> ((16 : Int32) &&& 31).toUInt32).toInt32).toUInt32 >>> ((8 : Int32) &&& 31).toUInt32).toInt32)), .val (.int (((31 : Int32) + (-16 : Int32)) + (-8 : Int32)))] [(.int ((((p1.toUInt32 >>> ((16 : Int32) &&& 31).toUInt32).toInt32).toUInt32 >>> ((8 : Int32) &&& 31).toUInt32).toInt32))]))
          refine own_to (fun t k => XS.iconst X0.here hx rfl (hb hby own_d3_62) k) ?_
          show own_Fin _ _ _ _ _ _ (s₁.setTop (mkF m 63 #[.val (.int ((((p1.toUInt32 >>> ((16 : Int32) &&& 31).toUInt32).toInt32).toUInt32 >>> ((8 : Int32) &&& 31).toUInt32).toInt32)), .val (.int (((31 : Int32) + (-16 : Int32)) + (-8 : Int32)))] [(.int (4 : Int32)), (.int ((((p1.toUInt32 >>> ((16 : Int32) &&& 31).toUInt32).toInt32).toUInt32 >>> ((8 : Int32) &&& 31).toUInt32).toInt32))]))
          by_cases hc63_15 : ((((p1.toUInt32 >>> ((16 : Int32) &&& 31).toUInt32).toInt32).toUInt32 >>> ((8 : Int32) &&& 31).toUInt32).toInt32) < (4 : Int32)
          ·
            show own_Fin _ _ _ _ _ _ (s₁.setTop (mkF m 63 #[.val (.int ((((p1.toUInt32 >>> ((16 : Int32) &&& 31).toUInt32).toInt32).toUInt32 >>> ((8 : Int32) &&& 31).toUInt32).toInt32)), .val (.int (((31 : Int32) + (-16 : Int32)) + (-8 : Int32)))] [(.int (4 : Int32)), (.int ((((p1.toUInt32 >>> ((16 : Int32) &&& 31).toUInt32).toInt32).toUInt32 >>> ((8 : Int32) &&& 31).toUInt32).toInt32))]))
            refine own_to (fun t k => XS.icmpYes X0.here hx rfl (pc0 := 63) (pc' := 73) rfl (hb hby own_d3_63) rfl (tlt hc63_15).1 (by decide) (by decide) k) ?_
            show own_Fin _ _ _ _ _ _ (s₁.setTop (mkF m 73 #[.val (.int ((((p1.toUInt32 >>> ((16 : Int32) &&& 31).toUInt32).toInt32).toUInt32 >>> ((8 : Int32) &&& 31).toUInt32).toInt32)), .val (.int (((31 : Int32) + (-16 : Int32)) + (-8 : Int32)))] []))
            refine own_to (fun t k => XS.iloadN X0.here hx rfl (hb hby own_d3_73) rfl k) ?_
            show own_Fin _ _ _ _ _ _ (s₁.setTop (mkF m 74 #[.val (.int ((((p1.toUInt32 >>> ((16 : Int32) &&& 31).toUInt32).toInt32).toUInt32 >>> ((8 : Int32) &&& 31).toUInt32).toInt32)), .val (.int (((31 : Int32) + (-16 : Int32)) + (-8 : Int32)))] [(.int (((31 : Int32) + (-16 : Int32)) + (-8 : Int32)))]))
            refine own_to (fun t k => XS.iloadN X0.here hx rfl (hb hby own_d3_74) rfl k) ?_
            show own_Fin _ _ _ _ _ _ (s₁.setTop (mkF m 75 #[.val (.int ((((p1.toUInt32 >>> ((16 : Int32) &&& 31).toUInt32).toInt32).toUInt32 >>> ((8 : Int32) &&& 31).toUInt32).toInt32)), .val (.int (((31 : Int32) + (-16 : Int32)) + (-8 : Int32)))] [(.int ((((p1.toUInt32 >>> ((16 : Int32) &&& 31).toUInt32).toInt32).toUInt32 >>> ((8 : Int32) &&& 31).toUInt32).toInt32)), (.int (((31 : Int32) + (-16 : Int32)) + (-8 : Int32)))]))
            refine own_to (fun t k => XS.iconst X0.here hx rfl (hb hby own_d3_75) k) ?_
            show own_Fin _ _ _ _ _ _ (s₁.setTop (mkF m 76 #[.val (.int ((((p1.toUInt32 >>> ((16 : Int32) &&& 31).toUInt32).toInt32).toUInt32 >>> ((8 : Int32) &&& 31).toUInt32).toInt32)), .val (.int (((31 : Int32) + (-16 : Int32)) + (-8 : Int32)))] [(.int (1 : Int32)), (.int ((((p1.toUInt32 >>> ((16 : Int32) &&& 31).toUInt32).toInt32).toUInt32 >>> ((8 : Int32) &&& 31).toUInt32).toInt32)), (.int (((31 : Int32) + (-16 : Int32)) + (-8 : Int32)))]))
            refine own_to (fun t k => XS.iushr X0.here hx rfl (hb hby own_d3_76) rfl k) ?_
            show own_Fin _ _ _ _ _ _ (s₁.setTop (mkF m 77 #[.val (.int ((((p1.toUInt32 >>> ((16 : Int32) &&& 31).toUInt32).toInt32).toUInt32 >>> ((8 : Int32) &&& 31).toUInt32).toInt32)), .val (.int (((31 : Int32) + (-16 : Int32)) + (-8 : Int32)))] [(.int ((((((p1.toUInt32 >>> ((16 : Int32) &&& 31).toUInt32).toInt32).toUInt32 >>> ((8 : Int32) &&& 31).toUInt32).toInt32).toUInt32 >>> ((1 : Int32) &&& 31).toUInt32).toInt32)), (.int (((31 : Int32) + (-16 : Int32)) + (-8 : Int32)))]))
            refine own_to (fun t k => XS.isub X0.here hx rfl (hb hby own_d3_77) rfl k) ?_
            show own_Fin _ _ _ _ _ _ (s₁.setTop (mkF m 78 #[.val (.int ((((p1.toUInt32 >>> ((16 : Int32) &&& 31).toUInt32).toInt32).toUInt32 >>> ((8 : Int32) &&& 31).toUInt32).toInt32)), .val (.int (((31 : Int32) + (-16 : Int32)) + (-8 : Int32)))] [(.int ((((31 : Int32) + (-16 : Int32)) + (-8 : Int32)) - ((((((p1.toUInt32 >>> ((16 : Int32) &&& 31).toUInt32).toInt32).toUInt32 >>> ((8 : Int32) &&& 31).toUInt32).toInt32).toUInt32 >>> ((1 : Int32) &&& 31).toUInt32).toInt32)))]))
            refine own_retI X0 hx hlk hret (hb hby own_d3_78) (by decide) (by decide) ?_
            try rw [e0]
            exact ⟨congrArg (fun z => some (Value.int z)) (Eq.symm (show own_nlz p1 = _ from ((if_pos hc1_1).trans ((if_neg hc22_2).trans ((if_neg hc37_10).trans ((if_pos hc51_14).trans ((if_pos hc63_15).trans rfl))))))), N0, rfl⟩
          ·
            show own_Fin _ _ _ _ _ _ (s₁.setTop (mkF m 63 #[.val (.int ((((p1.toUInt32 >>> ((16 : Int32) &&& 31).toUInt32).toInt32).toUInt32 >>> ((8 : Int32) &&& 31).toUInt32).toInt32)), .val (.int (((31 : Int32) + (-16 : Int32)) + (-8 : Int32)))] [(.int (4 : Int32)), (.int ((((p1.toUInt32 >>> ((16 : Int32) &&& 31).toUInt32).toInt32).toUInt32 >>> ((8 : Int32) &&& 31).toUInt32).toInt32))]))
            refine own_to (fun t k => XS.icmpNo X0.here hx rfl (hb hby own_d3_63) rfl (flt hc63_15).1 k) ?_
            show own_Fin _ _ _ _ _ _ (s₁.setTop (mkF m 66 #[.val (.int ((((p1.toUInt32 >>> ((16 : Int32) &&& 31).toUInt32).toInt32).toUInt32 >>> ((8 : Int32) &&& 31).toUInt32).toInt32)), .val (.int (((31 : Int32) + (-16 : Int32)) + (-8 : Int32)))] []))
            refine own_to (fun t k => XS.iinc X0.here hx rfl (hb hby own_d3_66) rfl (l' := #[.val (.int ((((p1.toUInt32 >>> ((16 : Int32) &&& 31).toUInt32).toInt32).toUInt32 >>> ((8 : Int32) &&& 31).toUInt32).toInt32)), .val (.int ((((31 : Int32) + (-16 : Int32)) + (-8 : Int32)) + (-2 : Int32)))]) rfl k) ?_
            show own_Fin _ _ _ _ _ _ (s₁.setTop (mkF m 69 #[.val (.int ((((p1.toUInt32 >>> ((16 : Int32) &&& 31).toUInt32).toInt32).toUInt32 >>> ((8 : Int32) &&& 31).toUInt32).toInt32)), .val (.int ((((31 : Int32) + (-16 : Int32)) + (-8 : Int32)) + (-2 : Int32)))] []))
            refine own_to (fun t k => XS.iloadN X0.here hx rfl (hb hby own_d3_69) rfl k) ?_
            show own_Fin _ _ _ _ _ _ (s₁.setTop (mkF m 70 #[.val (.int ((((p1.toUInt32 >>> ((16 : Int32) &&& 31).toUInt32).toInt32).toUInt32 >>> ((8 : Int32) &&& 31).toUInt32).toInt32)), .val (.int ((((31 : Int32) + (-16 : Int32)) + (-8 : Int32)) + (-2 : Int32)))] [(.int ((((p1.toUInt32 >>> ((16 : Int32) &&& 31).toUInt32).toInt32).toUInt32 >>> ((8 : Int32) &&& 31).toUInt32).toInt32))]))
            refine own_to (fun t k => XS.iconst X0.here hx rfl (hb hby own_d3_70) k) ?_
            show own_Fin _ _ _ _ _ _ (s₁.setTop (mkF m 71 #[.val (.int ((((p1.toUInt32 >>> ((16 : Int32) &&& 31).toUInt32).toInt32).toUInt32 >>> ((8 : Int32) &&& 31).toUInt32).toInt32)), .val (.int ((((31 : Int32) + (-16 : Int32)) + (-8 : Int32)) + (-2 : Int32)))] [(.int (2 : Int32)), (.int ((((p1.toUInt32 >>> ((16 : Int32) &&& 31).toUInt32).toInt32).toUInt32 >>> ((8 : Int32) &&& 31).toUInt32).toInt32))]))
            refine own_to (fun t k => XS.iushr X0.here hx rfl (hb hby own_d3_71) rfl k) ?_
            show own_Fin _ _ _ _ _ _ (s₁.setTop (mkF m 72 #[.val (.int ((((p1.toUInt32 >>> ((16 : Int32) &&& 31).toUInt32).toInt32).toUInt32 >>> ((8 : Int32) &&& 31).toUInt32).toInt32)), .val (.int ((((31 : Int32) + (-16 : Int32)) + (-8 : Int32)) + (-2 : Int32)))] [(.int ((((((p1.toUInt32 >>> ((16 : Int32) &&& 31).toUInt32).toInt32).toUInt32 >>> ((8 : Int32) &&& 31).toUInt32).toInt32).toUInt32 >>> ((2 : Int32) &&& 31).toUInt32).toInt32))]))
            refine own_to (fun t k => XS.istoreN X0.here hx rfl (hb hby own_d3_72) rfl (l' := #[.val (.int ((((((p1.toUInt32 >>> ((16 : Int32) &&& 31).toUInt32).toInt32).toUInt32 >>> ((8 : Int32) &&& 31).toUInt32).toInt32).toUInt32 >>> ((2 : Int32) &&& 31).toUInt32).toInt32)), .val (.int ((((31 : Int32) + (-16 : Int32)) + (-8 : Int32)) + (-2 : Int32)))]) rfl k) ?_
            show own_Fin _ _ _ _ _ _ (s₁.setTop (mkF m 73 #[.val (.int ((((((p1.toUInt32 >>> ((16 : Int32) &&& 31).toUInt32).toInt32).toUInt32 >>> ((8 : Int32) &&& 31).toUInt32).toInt32).toUInt32 >>> ((2 : Int32) &&& 31).toUInt32).toInt32)), .val (.int ((((31 : Int32) + (-16 : Int32)) + (-8 : Int32)) + (-2 : Int32)))] []))
            refine own_to (fun t k => XS.iloadN X0.here hx rfl (hb hby own_d3_73) rfl k) ?_
            show own_Fin _ _ _ _ _ _ (s₁.setTop (mkF m 74 #[.val (.int ((((((p1.toUInt32 >>> ((16 : Int32) &&& 31).toUInt32).toInt32).toUInt32 >>> ((8 : Int32) &&& 31).toUInt32).toInt32).toUInt32 >>> ((2 : Int32) &&& 31).toUInt32).toInt32)), .val (.int ((((31 : Int32) + (-16 : Int32)) + (-8 : Int32)) + (-2 : Int32)))] [(.int ((((31 : Int32) + (-16 : Int32)) + (-8 : Int32)) + (-2 : Int32)))]))
            refine own_to (fun t k => XS.iloadN X0.here hx rfl (hb hby own_d3_74) rfl k) ?_
            show own_Fin _ _ _ _ _ _ (s₁.setTop (mkF m 75 #[.val (.int ((((((p1.toUInt32 >>> ((16 : Int32) &&& 31).toUInt32).toInt32).toUInt32 >>> ((8 : Int32) &&& 31).toUInt32).toInt32).toUInt32 >>> ((2 : Int32) &&& 31).toUInt32).toInt32)), .val (.int ((((31 : Int32) + (-16 : Int32)) + (-8 : Int32)) + (-2 : Int32)))] [(.int ((((((p1.toUInt32 >>> ((16 : Int32) &&& 31).toUInt32).toInt32).toUInt32 >>> ((8 : Int32) &&& 31).toUInt32).toInt32).toUInt32 >>> ((2 : Int32) &&& 31).toUInt32).toInt32)), (.int ((((31 : Int32) + (-16 : Int32)) + (-8 : Int32)) + (-2 : Int32)))]))
            refine own_to (fun t k => XS.iconst X0.here hx rfl (hb hby own_d3_75) k) ?_
            show own_Fin _ _ _ _ _ _ (s₁.setTop (mkF m 76 #[.val (.int ((((((p1.toUInt32 >>> ((16 : Int32) &&& 31).toUInt32).toInt32).toUInt32 >>> ((8 : Int32) &&& 31).toUInt32).toInt32).toUInt32 >>> ((2 : Int32) &&& 31).toUInt32).toInt32)), .val (.int ((((31 : Int32) + (-16 : Int32)) + (-8 : Int32)) + (-2 : Int32)))] [(.int (1 : Int32)), (.int ((((((p1.toUInt32 >>> ((16 : Int32) &&& 31).toUInt32).toInt32).toUInt32 >>> ((8 : Int32) &&& 31).toUInt32).toInt32).toUInt32 >>> ((2 : Int32) &&& 31).toUInt32).toInt32)), (.int ((((31 : Int32) + (-16 : Int32)) + (-8 : Int32)) + (-2 : Int32)))]))
            refine own_to (fun t k => XS.iushr X0.here hx rfl (hb hby own_d3_76) rfl k) ?_
            show own_Fin _ _ _ _ _ _ (s₁.setTop (mkF m 77 #[.val (.int ((((((p1.toUInt32 >>> ((16 : Int32) &&& 31).toUInt32).toInt32).toUInt32 >>> ((8 : Int32) &&& 31).toUInt32).toInt32).toUInt32 >>> ((2 : Int32) &&& 31).toUInt32).toInt32)), .val (.int ((((31 : Int32) + (-16 : Int32)) + (-8 : Int32)) + (-2 : Int32)))] [(.int ((((((((p1.toUInt32 >>> ((16 : Int32) &&& 31).toUInt32).toInt32).toUInt32 >>> ((8 : Int32) &&& 31).toUInt32).toInt32).toUInt32 >>> ((2 : Int32) &&& 31).toUInt32).toInt32).toUInt32 >>> ((1 : Int32) &&& 31).toUInt32).toInt32)), (.int ((((31 : Int32) + (-16 : Int32)) + (-8 : Int32)) + (-2 : Int32)))]))
            refine own_to (fun t k => XS.isub X0.here hx rfl (hb hby own_d3_77) rfl k) ?_
            show own_Fin _ _ _ _ _ _ (s₁.setTop (mkF m 78 #[.val (.int ((((((p1.toUInt32 >>> ((16 : Int32) &&& 31).toUInt32).toInt32).toUInt32 >>> ((8 : Int32) &&& 31).toUInt32).toInt32).toUInt32 >>> ((2 : Int32) &&& 31).toUInt32).toInt32)), .val (.int ((((31 : Int32) + (-16 : Int32)) + (-8 : Int32)) + (-2 : Int32)))] [(.int (((((31 : Int32) + (-16 : Int32)) + (-8 : Int32)) + (-2 : Int32)) - ((((((((p1.toUInt32 >>> ((16 : Int32) &&& 31).toUInt32).toInt32).toUInt32 >>> ((8 : Int32) &&& 31).toUInt32).toInt32).toUInt32 >>> ((2 : Int32) &&& 31).toUInt32).toInt32).toUInt32 >>> ((1 : Int32) &&& 31).toUInt32).toInt32)))]))
            refine own_retI X0 hx hlk hret (hb hby own_d3_78) (by decide) (by decide) ?_
            try rw [e0]
            exact ⟨congrArg (fun z => some (Value.int z)) (Eq.symm (show own_nlz p1 = _ from ((if_pos hc1_1).trans ((if_neg hc22_2).trans ((if_neg hc37_10).trans ((if_pos hc51_14).trans ((if_neg hc63_15).trans rfl))))))), N0, rfl⟩
        ·
          show own_Fin _ _ _ _ _ _ (s₁.setTop (mkF m 51 #[.val (.int ((((p1.toUInt32 >>> ((16 : Int32) &&& 31).toUInt32).toInt32).toUInt32 >>> ((8 : Int32) &&& 31).toUInt32).toInt32)), .val (.int (((31 : Int32) + (-16 : Int32)) + (-8 : Int32)))] [(.int (16 : Int32)), (.int ((((p1.toUInt32 >>> ((16 : Int32) &&& 31).toUInt32).toInt32).toUInt32 >>> ((8 : Int32) &&& 31).toUInt32).toInt32))]))
          refine own_to (fun t k => XS.icmpNo X0.here hx rfl (hb hby own_d3_51) rfl (flt hc51_14).1 k) ?_
          show own_Fin _ _ _ _ _ _ (s₁.setTop (mkF m 54 #[.val (.int ((((p1.toUInt32 >>> ((16 : Int32) &&& 31).toUInt32).toInt32).toUInt32 >>> ((8 : Int32) &&& 31).toUInt32).toInt32)), .val (.int (((31 : Int32) + (-16 : Int32)) + (-8 : Int32)))] []))
          refine own_to (fun t k => XS.iinc X0.here hx rfl (hb hby own_d3_54) rfl (l' := #[.val (.int ((((p1.toUInt32 >>> ((16 : Int32) &&& 31).toUInt32).toInt32).toUInt32 >>> ((8 : Int32) &&& 31).toUInt32).toInt32)), .val (.int ((((31 : Int32) + (-16 : Int32)) + (-8 : Int32)) + (-4 : Int32)))]) rfl k) ?_
          show own_Fin _ _ _ _ _ _ (s₁.setTop (mkF m 57 #[.val (.int ((((p1.toUInt32 >>> ((16 : Int32) &&& 31).toUInt32).toInt32).toUInt32 >>> ((8 : Int32) &&& 31).toUInt32).toInt32)), .val (.int ((((31 : Int32) + (-16 : Int32)) + (-8 : Int32)) + (-4 : Int32)))] []))
          refine own_to (fun t k => XS.iloadN X0.here hx rfl (hb hby own_d3_57) rfl k) ?_
          show own_Fin _ _ _ _ _ _ (s₁.setTop (mkF m 58 #[.val (.int ((((p1.toUInt32 >>> ((16 : Int32) &&& 31).toUInt32).toInt32).toUInt32 >>> ((8 : Int32) &&& 31).toUInt32).toInt32)), .val (.int ((((31 : Int32) + (-16 : Int32)) + (-8 : Int32)) + (-4 : Int32)))] [(.int ((((p1.toUInt32 >>> ((16 : Int32) &&& 31).toUInt32).toInt32).toUInt32 >>> ((8 : Int32) &&& 31).toUInt32).toInt32))]))
          refine own_to (fun t k => XS.iconst X0.here hx rfl (hb hby own_d3_58) k) ?_
          show own_Fin _ _ _ _ _ _ (s₁.setTop (mkF m 59 #[.val (.int ((((p1.toUInt32 >>> ((16 : Int32) &&& 31).toUInt32).toInt32).toUInt32 >>> ((8 : Int32) &&& 31).toUInt32).toInt32)), .val (.int ((((31 : Int32) + (-16 : Int32)) + (-8 : Int32)) + (-4 : Int32)))] [(.int (4 : Int32)), (.int ((((p1.toUInt32 >>> ((16 : Int32) &&& 31).toUInt32).toInt32).toUInt32 >>> ((8 : Int32) &&& 31).toUInt32).toInt32))]))
          refine own_to (fun t k => XS.iushr X0.here hx rfl (hb hby own_d3_59) rfl k) ?_
          show own_Fin _ _ _ _ _ _ (s₁.setTop (mkF m 60 #[.val (.int ((((p1.toUInt32 >>> ((16 : Int32) &&& 31).toUInt32).toInt32).toUInt32 >>> ((8 : Int32) &&& 31).toUInt32).toInt32)), .val (.int ((((31 : Int32) + (-16 : Int32)) + (-8 : Int32)) + (-4 : Int32)))] [(.int ((((((p1.toUInt32 >>> ((16 : Int32) &&& 31).toUInt32).toInt32).toUInt32 >>> ((8 : Int32) &&& 31).toUInt32).toInt32).toUInt32 >>> ((4 : Int32) &&& 31).toUInt32).toInt32))]))
          refine own_to (fun t k => XS.istoreN X0.here hx rfl (hb hby own_d3_60) rfl (l' := #[.val (.int ((((((p1.toUInt32 >>> ((16 : Int32) &&& 31).toUInt32).toInt32).toUInt32 >>> ((8 : Int32) &&& 31).toUInt32).toInt32).toUInt32 >>> ((4 : Int32) &&& 31).toUInt32).toInt32)), .val (.int ((((31 : Int32) + (-16 : Int32)) + (-8 : Int32)) + (-4 : Int32)))]) rfl k) ?_
          show own_Fin _ _ _ _ _ _ (s₁.setTop (mkF m 61 #[.val (.int ((((((p1.toUInt32 >>> ((16 : Int32) &&& 31).toUInt32).toInt32).toUInt32 >>> ((8 : Int32) &&& 31).toUInt32).toInt32).toUInt32 >>> ((4 : Int32) &&& 31).toUInt32).toInt32)), .val (.int ((((31 : Int32) + (-16 : Int32)) + (-8 : Int32)) + (-4 : Int32)))] []))
          refine own_to (fun t k => XS.iloadN X0.here hx rfl (hb hby own_d3_61) rfl k) ?_
          show own_Fin _ _ _ _ _ _ (s₁.setTop (mkF m 62 #[.val (.int ((((((p1.toUInt32 >>> ((16 : Int32) &&& 31).toUInt32).toInt32).toUInt32 >>> ((8 : Int32) &&& 31).toUInt32).toInt32).toUInt32 >>> ((4 : Int32) &&& 31).toUInt32).toInt32)), .val (.int ((((31 : Int32) + (-16 : Int32)) + (-8 : Int32)) + (-4 : Int32)))] [(.int ((((((p1.toUInt32 >>> ((16 : Int32) &&& 31).toUInt32).toInt32).toUInt32 >>> ((8 : Int32) &&& 31).toUInt32).toInt32).toUInt32 >>> ((4 : Int32) &&& 31).toUInt32).toInt32))]))
          refine own_to (fun t k => XS.iconst X0.here hx rfl (hb hby own_d3_62) k) ?_
          show own_Fin _ _ _ _ _ _ (s₁.setTop (mkF m 63 #[.val (.int ((((((p1.toUInt32 >>> ((16 : Int32) &&& 31).toUInt32).toInt32).toUInt32 >>> ((8 : Int32) &&& 31).toUInt32).toInt32).toUInt32 >>> ((4 : Int32) &&& 31).toUInt32).toInt32)), .val (.int ((((31 : Int32) + (-16 : Int32)) + (-8 : Int32)) + (-4 : Int32)))] [(.int (4 : Int32)), (.int ((((((p1.toUInt32 >>> ((16 : Int32) &&& 31).toUInt32).toInt32).toUInt32 >>> ((8 : Int32) &&& 31).toUInt32).toInt32).toUInt32 >>> ((4 : Int32) &&& 31).toUInt32).toInt32))]))
          by_cases hc63_16 : ((((((p1.toUInt32 >>> ((16 : Int32) &&& 31).toUInt32).toInt32).toUInt32 >>> ((8 : Int32) &&& 31).toUInt32).toInt32).toUInt32 >>> ((4 : Int32) &&& 31).toUInt32).toInt32) < (4 : Int32)
          ·
            show own_Fin _ _ _ _ _ _ (s₁.setTop (mkF m 63 #[.val (.int ((((((p1.toUInt32 >>> ((16 : Int32) &&& 31).toUInt32).toInt32).toUInt32 >>> ((8 : Int32) &&& 31).toUInt32).toInt32).toUInt32 >>> ((4 : Int32) &&& 31).toUInt32).toInt32)), .val (.int ((((31 : Int32) + (-16 : Int32)) + (-8 : Int32)) + (-4 : Int32)))] [(.int (4 : Int32)), (.int ((((((p1.toUInt32 >>> ((16 : Int32) &&& 31).toUInt32).toInt32).toUInt32 >>> ((8 : Int32) &&& 31).toUInt32).toInt32).toUInt32 >>> ((4 : Int32) &&& 31).toUInt32).toInt32))]))
            refine own_to (fun t k => XS.icmpYes X0.here hx rfl (pc0 := 63) (pc' := 73) rfl (hb hby own_d3_63) rfl (tlt hc63_16).1 (by decide) (by decide) k) ?_
            show own_Fin _ _ _ _ _ _ (s₁.setTop (mkF m 73 #[.val (.int ((((((p1.toUInt32 >>> ((16 : Int32) &&& 31).toUInt32).toInt32).toUInt32 >>> ((8 : Int32) &&& 31).toUInt32).toInt32).toUInt32 >>> ((4 : Int32) &&& 31).toUInt32).toInt32)), .val (.int ((((31 : Int32) + (-16 : Int32)) + (-8 : Int32)) + (-4 : Int32)))] []))
            refine own_to (fun t k => XS.iloadN X0.here hx rfl (hb hby own_d3_73) rfl k) ?_
            show own_Fin _ _ _ _ _ _ (s₁.setTop (mkF m 74 #[.val (.int ((((((p1.toUInt32 >>> ((16 : Int32) &&& 31).toUInt32).toInt32).toUInt32 >>> ((8 : Int32) &&& 31).toUInt32).toInt32).toUInt32 >>> ((4 : Int32) &&& 31).toUInt32).toInt32)), .val (.int ((((31 : Int32) + (-16 : Int32)) + (-8 : Int32)) + (-4 : Int32)))] [(.int ((((31 : Int32) + (-16 : Int32)) + (-8 : Int32)) + (-4 : Int32)))]))
            refine own_to (fun t k => XS.iloadN X0.here hx rfl (hb hby own_d3_74) rfl k) ?_
            show own_Fin _ _ _ _ _ _ (s₁.setTop (mkF m 75 #[.val (.int ((((((p1.toUInt32 >>> ((16 : Int32) &&& 31).toUInt32).toInt32).toUInt32 >>> ((8 : Int32) &&& 31).toUInt32).toInt32).toUInt32 >>> ((4 : Int32) &&& 31).toUInt32).toInt32)), .val (.int ((((31 : Int32) + (-16 : Int32)) + (-8 : Int32)) + (-4 : Int32)))] [(.int ((((((p1.toUInt32 >>> ((16 : Int32) &&& 31).toUInt32).toInt32).toUInt32 >>> ((8 : Int32) &&& 31).toUInt32).toInt32).toUInt32 >>> ((4 : Int32) &&& 31).toUInt32).toInt32)), (.int ((((31 : Int32) + (-16 : Int32)) + (-8 : Int32)) + (-4 : Int32)))]))
            refine own_to (fun t k => XS.iconst X0.here hx rfl (hb hby own_d3_75) k) ?_
            show own_Fin _ _ _ _ _ _ (s₁.setTop (mkF m 76 #[.val (.int ((((((p1.toUInt32 >>> ((16 : Int32) &&& 31).toUInt32).toInt32).toUInt32 >>> ((8 : Int32) &&& 31).toUInt32).toInt32).toUInt32 >>> ((4 : Int32) &&& 31).toUInt32).toInt32)), .val (.int ((((31 : Int32) + (-16 : Int32)) + (-8 : Int32)) + (-4 : Int32)))] [(.int (1 : Int32)), (.int ((((((p1.toUInt32 >>> ((16 : Int32) &&& 31).toUInt32).toInt32).toUInt32 >>> ((8 : Int32) &&& 31).toUInt32).toInt32).toUInt32 >>> ((4 : Int32) &&& 31).toUInt32).toInt32)), (.int ((((31 : Int32) + (-16 : Int32)) + (-8 : Int32)) + (-4 : Int32)))]))
            refine own_to (fun t k => XS.iushr X0.here hx rfl (hb hby own_d3_76) rfl k) ?_
            show own_Fin _ _ _ _ _ _ (s₁.setTop (mkF m 77 #[.val (.int ((((((p1.toUInt32 >>> ((16 : Int32) &&& 31).toUInt32).toInt32).toUInt32 >>> ((8 : Int32) &&& 31).toUInt32).toInt32).toUInt32 >>> ((4 : Int32) &&& 31).toUInt32).toInt32)), .val (.int ((((31 : Int32) + (-16 : Int32)) + (-8 : Int32)) + (-4 : Int32)))] [(.int ((((((((p1.toUInt32 >>> ((16 : Int32) &&& 31).toUInt32).toInt32).toUInt32 >>> ((8 : Int32) &&& 31).toUInt32).toInt32).toUInt32 >>> ((4 : Int32) &&& 31).toUInt32).toInt32).toUInt32 >>> ((1 : Int32) &&& 31).toUInt32).toInt32)), (.int ((((31 : Int32) + (-16 : Int32)) + (-8 : Int32)) + (-4 : Int32)))]))
            refine own_to (fun t k => XS.isub X0.here hx rfl (hb hby own_d3_77) rfl k) ?_
            show own_Fin _ _ _ _ _ _ (s₁.setTop (mkF m 78 #[.val (.int ((((((p1.toUInt32 >>> ((16 : Int32) &&& 31).toUInt32).toInt32).toUInt32 >>> ((8 : Int32) &&& 31).toUInt32).toInt32).toUInt32 >>> ((4 : Int32) &&& 31).toUInt32).toInt32)), .val (.int ((((31 : Int32) + (-16 : Int32)) + (-8 : Int32)) + (-4 : Int32)))] [(.int (((((31 : Int32) + (-16 : Int32)) + (-8 : Int32)) + (-4 : Int32)) - ((((((((p1.toUInt32 >>> ((16 : Int32) &&& 31).toUInt32).toInt32).toUInt32 >>> ((8 : Int32) &&& 31).toUInt32).toInt32).toUInt32 >>> ((4 : Int32) &&& 31).toUInt32).toInt32).toUInt32 >>> ((1 : Int32) &&& 31).toUInt32).toInt32)))]))
            refine own_retI X0 hx hlk hret (hb hby own_d3_78) (by decide) (by decide) ?_
            try rw [e0]
            exact ⟨congrArg (fun z => some (Value.int z)) (Eq.symm (show own_nlz p1 = _ from ((if_pos hc1_1).trans ((if_neg hc22_2).trans ((if_neg hc37_10).trans ((if_neg hc51_14).trans ((if_pos hc63_16).trans rfl))))))), N0, rfl⟩
          ·
            show own_Fin _ _ _ _ _ _ (s₁.setTop (mkF m 63 #[.val (.int ((((((p1.toUInt32 >>> ((16 : Int32) &&& 31).toUInt32).toInt32).toUInt32 >>> ((8 : Int32) &&& 31).toUInt32).toInt32).toUInt32 >>> ((4 : Int32) &&& 31).toUInt32).toInt32)), .val (.int ((((31 : Int32) + (-16 : Int32)) + (-8 : Int32)) + (-4 : Int32)))] [(.int (4 : Int32)), (.int ((((((p1.toUInt32 >>> ((16 : Int32) &&& 31).toUInt32).toInt32).toUInt32 >>> ((8 : Int32) &&& 31).toUInt32).toInt32).toUInt32 >>> ((4 : Int32) &&& 31).toUInt32).toInt32))]))
            refine own_to (fun t k => XS.icmpNo X0.here hx rfl (hb hby own_d3_63) rfl (flt hc63_16).1 k) ?_
            show own_Fin _ _ _ _ _ _ (s₁.setTop (mkF m 66 #[.val (.int ((((((p1.toUInt32 >>> ((16 : Int32) &&& 31).toUInt32).toInt32).toUInt32 >>> ((8 : Int32) &&& 31).toUInt32).toInt32).toUInt32 >>> ((4 : Int32) &&& 31).toUInt32).toInt32)), .val (.int ((((31 : Int32) + (-16 : Int32)) + (-8 : Int32)) + (-4 : Int32)))] []))
            refine own_to (fun t k => XS.iinc X0.here hx rfl (hb hby own_d3_66) rfl (l' := #[.val (.int ((((((p1.toUInt32 >>> ((16 : Int32) &&& 31).toUInt32).toInt32).toUInt32 >>> ((8 : Int32) &&& 31).toUInt32).toInt32).toUInt32 >>> ((4 : Int32) &&& 31).toUInt32).toInt32)), .val (.int (((((31 : Int32) + (-16 : Int32)) + (-8 : Int32)) + (-4 : Int32)) + (-2 : Int32)))]) rfl k) ?_
            show own_Fin _ _ _ _ _ _ (s₁.setTop (mkF m 69 #[.val (.int ((((((p1.toUInt32 >>> ((16 : Int32) &&& 31).toUInt32).toInt32).toUInt32 >>> ((8 : Int32) &&& 31).toUInt32).toInt32).toUInt32 >>> ((4 : Int32) &&& 31).toUInt32).toInt32)), .val (.int (((((31 : Int32) + (-16 : Int32)) + (-8 : Int32)) + (-4 : Int32)) + (-2 : Int32)))] []))
            refine own_to (fun t k => XS.iloadN X0.here hx rfl (hb hby own_d3_69) rfl k) ?_
            show own_Fin _ _ _ _ _ _ (s₁.setTop (mkF m 70 #[.val (.int ((((((p1.toUInt32 >>> ((16 : Int32) &&& 31).toUInt32).toInt32).toUInt32 >>> ((8 : Int32) &&& 31).toUInt32).toInt32).toUInt32 >>> ((4 : Int32) &&& 31).toUInt32).toInt32)), .val (.int (((((31 : Int32) + (-16 : Int32)) + (-8 : Int32)) + (-4 : Int32)) + (-2 : Int32)))] [(.int ((((((p1.toUInt32 >>> ((16 : Int32) &&& 31).toUInt32).toInt32).toUInt32 >>> ((8 : Int32) &&& 31).toUInt32).toInt32).toUInt32 >>> ((4 : Int32) &&& 31).toUInt32).toInt32))]))
            refine own_to (fun t k => XS.iconst X0.here hx rfl (hb hby own_d3_70) k) ?_
            show own_Fin _ _ _ _ _ _ (s₁.setTop (mkF m 71 #[.val (.int ((((((p1.toUInt32 >>> ((16 : Int32) &&& 31).toUInt32).toInt32).toUInt32 >>> ((8 : Int32) &&& 31).toUInt32).toInt32).toUInt32 >>> ((4 : Int32) &&& 31).toUInt32).toInt32)), .val (.int (((((31 : Int32) + (-16 : Int32)) + (-8 : Int32)) + (-4 : Int32)) + (-2 : Int32)))] [(.int (2 : Int32)), (.int ((((((p1.toUInt32 >>> ((16 : Int32) &&& 31).toUInt32).toInt32).toUInt32 >>> ((8 : Int32) &&& 31).toUInt32).toInt32).toUInt32 >>> ((4 : Int32) &&& 31).toUInt32).toInt32))]))
            refine own_to (fun t k => XS.iushr X0.here hx rfl (hb hby own_d3_71) rfl k) ?_
            show own_Fin _ _ _ _ _ _ (s₁.setTop (mkF m 72 #[.val (.int ((((((p1.toUInt32 >>> ((16 : Int32) &&& 31).toUInt32).toInt32).toUInt32 >>> ((8 : Int32) &&& 31).toUInt32).toInt32).toUInt32 >>> ((4 : Int32) &&& 31).toUInt32).toInt32)), .val (.int (((((31 : Int32) + (-16 : Int32)) + (-8 : Int32)) + (-4 : Int32)) + (-2 : Int32)))] [(.int ((((((((p1.toUInt32 >>> ((16 : Int32) &&& 31).toUInt32).toInt32).toUInt32 >>> ((8 : Int32) &&& 31).toUInt32).toInt32).toUInt32 >>> ((4 : Int32) &&& 31).toUInt32).toInt32).toUInt32 >>> ((2 : Int32) &&& 31).toUInt32).toInt32))]))
            refine own_to (fun t k => XS.istoreN X0.here hx rfl (hb hby own_d3_72) rfl (l' := #[.val (.int ((((((((p1.toUInt32 >>> ((16 : Int32) &&& 31).toUInt32).toInt32).toUInt32 >>> ((8 : Int32) &&& 31).toUInt32).toInt32).toUInt32 >>> ((4 : Int32) &&& 31).toUInt32).toInt32).toUInt32 >>> ((2 : Int32) &&& 31).toUInt32).toInt32)), .val (.int (((((31 : Int32) + (-16 : Int32)) + (-8 : Int32)) + (-4 : Int32)) + (-2 : Int32)))]) rfl k) ?_
            show own_Fin _ _ _ _ _ _ (s₁.setTop (mkF m 73 #[.val (.int ((((((((p1.toUInt32 >>> ((16 : Int32) &&& 31).toUInt32).toInt32).toUInt32 >>> ((8 : Int32) &&& 31).toUInt32).toInt32).toUInt32 >>> ((4 : Int32) &&& 31).toUInt32).toInt32).toUInt32 >>> ((2 : Int32) &&& 31).toUInt32).toInt32)), .val (.int (((((31 : Int32) + (-16 : Int32)) + (-8 : Int32)) + (-4 : Int32)) + (-2 : Int32)))] []))
            refine own_to (fun t k => XS.iloadN X0.here hx rfl (hb hby own_d3_73) rfl k) ?_
            show own_Fin _ _ _ _ _ _ (s₁.setTop (mkF m 74 #[.val (.int ((((((((p1.toUInt32 >>> ((16 : Int32) &&& 31).toUInt32).toInt32).toUInt32 >>> ((8 : Int32) &&& 31).toUInt32).toInt32).toUInt32 >>> ((4 : Int32) &&& 31).toUInt32).toInt32).toUInt32 >>> ((2 : Int32) &&& 31).toUInt32).toInt32)), .val (.int (((((31 : Int32) + (-16 : Int32)) + (-8 : Int32)) + (-4 : Int32)) + (-2 : Int32)))] [(.int (((((31 : Int32) + (-16 : Int32)) + (-8 : Int32)) + (-4 : Int32)) + (-2 : Int32)))]))
            refine own_to (fun t k => XS.iloadN X0.here hx rfl (hb hby own_d3_74) rfl k) ?_
            show own_Fin _ _ _ _ _ _ (s₁.setTop (mkF m 75 #[.val (.int ((((((((p1.toUInt32 >>> ((16 : Int32) &&& 31).toUInt32).toInt32).toUInt32 >>> ((8 : Int32) &&& 31).toUInt32).toInt32).toUInt32 >>> ((4 : Int32) &&& 31).toUInt32).toInt32).toUInt32 >>> ((2 : Int32) &&& 31).toUInt32).toInt32)), .val (.int (((((31 : Int32) + (-16 : Int32)) + (-8 : Int32)) + (-4 : Int32)) + (-2 : Int32)))] [(.int ((((((((p1.toUInt32 >>> ((16 : Int32) &&& 31).toUInt32).toInt32).toUInt32 >>> ((8 : Int32) &&& 31).toUInt32).toInt32).toUInt32 >>> ((4 : Int32) &&& 31).toUInt32).toInt32).toUInt32 >>> ((2 : Int32) &&& 31).toUInt32).toInt32)), (.int (((((31 : Int32) + (-16 : Int32)) + (-8 : Int32)) + (-4 : Int32)) + (-2 : Int32)))]))
            refine own_to (fun t k => XS.iconst X0.here hx rfl (hb hby own_d3_75) k) ?_
            show own_Fin _ _ _ _ _ _ (s₁.setTop (mkF m 76 #[.val (.int ((((((((p1.toUInt32 >>> ((16 : Int32) &&& 31).toUInt32).toInt32).toUInt32 >>> ((8 : Int32) &&& 31).toUInt32).toInt32).toUInt32 >>> ((4 : Int32) &&& 31).toUInt32).toInt32).toUInt32 >>> ((2 : Int32) &&& 31).toUInt32).toInt32)), .val (.int (((((31 : Int32) + (-16 : Int32)) + (-8 : Int32)) + (-4 : Int32)) + (-2 : Int32)))] [(.int (1 : Int32)), (.int ((((((((p1.toUInt32 >>> ((16 : Int32) &&& 31).toUInt32).toInt32).toUInt32 >>> ((8 : Int32) &&& 31).toUInt32).toInt32).toUInt32 >>> ((4 : Int32) &&& 31).toUInt32).toInt32).toUInt32 >>> ((2 : Int32) &&& 31).toUInt32).toInt32)), (.int (((((31 : Int32) + (-16 : Int32)) + (-8 : Int32)) + (-4 : Int32)) + (-2 : Int32)))]))
            refine own_to (fun t k => XS.iushr X0.here hx rfl (hb hby own_d3_76) rfl k) ?_
            show own_Fin _ _ _ _ _ _ (s₁.setTop (mkF m 77 #[.val (.int ((((((((p1.toUInt32 >>> ((16 : Int32) &&& 31).toUInt32).toInt32).toUInt32 >>> ((8 : Int32) &&& 31).toUInt32).toInt32).toUInt32 >>> ((4 : Int32) &&& 31).toUInt32).toInt32).toUInt32 >>> ((2 : Int32) &&& 31).toUInt32).toInt32)), .val (.int (((((31 : Int32) + (-16 : Int32)) + (-8 : Int32)) + (-4 : Int32)) + (-2 : Int32)))] [(.int ((((((((((p1.toUInt32 >>> ((16 : Int32) &&& 31).toUInt32).toInt32).toUInt32 >>> ((8 : Int32) &&& 31).toUInt32).toInt32).toUInt32 >>> ((4 : Int32) &&& 31).toUInt32).toInt32).toUInt32 >>> ((2 : Int32) &&& 31).toUInt32).toInt32).toUInt32 >>> ((1 : Int32) &&& 31).toUInt32).toInt32)), (.int (((((31 : Int32) + (-16 : Int32)) + (-8 : Int32)) + (-4 : Int32)) + (-2 : Int32)))]))
            refine own_to (fun t k => XS.isub X0.here hx rfl (hb hby own_d3_77) rfl k) ?_
            show own_Fin _ _ _ _ _ _ (s₁.setTop (mkF m 78 #[.val (.int ((((((((p1.toUInt32 >>> ((16 : Int32) &&& 31).toUInt32).toInt32).toUInt32 >>> ((8 : Int32) &&& 31).toUInt32).toInt32).toUInt32 >>> ((4 : Int32) &&& 31).toUInt32).toInt32).toUInt32 >>> ((2 : Int32) &&& 31).toUInt32).toInt32)), .val (.int (((((31 : Int32) + (-16 : Int32)) + (-8 : Int32)) + (-4 : Int32)) + (-2 : Int32)))] [(.int ((((((31 : Int32) + (-16 : Int32)) + (-8 : Int32)) + (-4 : Int32)) + (-2 : Int32)) - ((((((((((p1.toUInt32 >>> ((16 : Int32) &&& 31).toUInt32).toInt32).toUInt32 >>> ((8 : Int32) &&& 31).toUInt32).toInt32).toUInt32 >>> ((4 : Int32) &&& 31).toUInt32).toInt32).toUInt32 >>> ((2 : Int32) &&& 31).toUInt32).toInt32).toUInt32 >>> ((1 : Int32) &&& 31).toUInt32).toInt32)))]))
            refine own_retI X0 hx hlk hret (hb hby own_d3_78) (by decide) (by decide) ?_
            try rw [e0]
            exact ⟨congrArg (fun z => some (Value.int z)) (Eq.symm (show own_nlz p1 = _ from ((if_pos hc1_1).trans ((if_neg hc22_2).trans ((if_neg hc37_10).trans ((if_neg hc51_14).trans ((if_neg hc63_16).trans rfl))))))), N0, rfl⟩
  ·
    show own_Fin _ _ _ _ _ _ (s₁.setTop (mkF m 1 #[.val (.int p1), .unset] [(.int p1)]))
    refine own_to (fun t k => XS.ifNo X0.here hx rfl (hb hby own_d3_1) rfl ((if0 _ _).trans (flt hc1_1).2.2.1) k) ?_
    show own_Fin _ _ _ _ _ _ (s₁.setTop (mkF m 4 #[.val (.int p1), .unset] []))
    refine own_to (fun t k => XS.iloadN X0.here hx rfl (hb hby own_d3_4) rfl k) ?_
    show own_Fin _ _ _ _ _ _ (s₁.setTop (mkF m 5 #[.val (.int p1), .unset] [(.int p1)]))
    by_cases hc5_17 : p1 = (0 : Int32)
    ·
      show own_Fin _ _ _ _ _ _ (s₁.setTop (mkF m 5 #[.val (.int p1), .unset] [(.int p1)]))
      refine own_to (fun t k => XS.ifNo X0.here hx rfl (hb hby own_d3_5) rfl ((if0 _ _).trans (teq hc5_17).2) k) ?_
      show own_Fin _ _ _ _ _ _ (s₁.setTop (mkF m 8 #[.val (.int p1), .unset] []))
      refine own_to (fun t k => XS.bipush X0.here hx rfl (hb hby own_d3_8) k) ?_
      show own_Fin _ _ _ _ _ _ (s₁.setTop (mkF m 10 #[.val (.int p1), .unset] [(.int (32 : Int32))]))
      refine own_to (fun t k => XS.goto X0.here hx rfl (pc0 := 10) (pc' := 14) rfl (hb hby own_d3_10) (by decide) (by decide) k) ?_
      show own_Fin _ _ _ _ _ _ (s₁.setTop (mkF m 14 #[.val (.int p1), .unset] [(.int (32 : Int32))]))
      refine own_retI X0 hx hlk hret (hb hby own_d3_14) (by decide) (by decide) ?_
      try rw [e0]
      exact ⟨congrArg (fun z => some (Value.int z)) (Eq.symm (show own_nlz p1 = _ from ((if_neg hc1_1).trans ((if_pos hc5_17).trans rfl)))), N0, rfl⟩
    ·
      show own_Fin _ _ _ _ _ _ (s₁.setTop (mkF m 5 #[.val (.int p1), .unset] [(.int p1)]))
      refine own_to (fun t k => XS.ifYes X0.here hx rfl (pc0 := 5) (pc' := 13) rfl (hb hby own_d3_5) rfl ((if0 _ _).trans (feq hc5_17).2) (by decide) (by decide) k) ?_
      show own_Fin _ _ _ _ _ _ (s₁.setTop (mkF m 13 #[.val (.int p1), .unset] []))
      refine own_to (fun t k => XS.iconst X0.here hx rfl (hb hby own_d3_13) k) ?_
      show own_Fin _ _ _ _ _ _ (s₁.setTop (mkF m 14 #[.val (.int p1), .unset] [(.int (0 : Int32))]))
      refine own_retI X0 hx hlk hret (hb hby own_d3_14) (by decide) (by decide) ?_
      try rw [e0]
      exact ⟨congrArg (fun z => some (Value.int z)) (Eq.symm (show own_nlz p1 = _ from ((if_neg hc1_1).trans ((if_neg hc5_17).trans rfl)))), N0, rfl⟩
def own_hob (p1 : Int32) : Int32 := (p1 &&& (((-2147483648 : Int32).toUInt32 >>> ((own_nlz p1) &&& 31).toUInt32).toInt32))
theorem own_d2_0 : decode jdk_33_method_45_code 0 = .ok (.iload_n 0, 1) := by decide +kernel
theorem own_d2_1 : decode jdk_33_method_45_code 1 = .ok (.ldc 127, 2) := by decide +kernel
theorem own_d2_3 : decode jdk_33_method_45_code 3 = .ok (.iload_n 0, 1) := by decide +kernel
theorem own_d2_4 : decode jdk_33_method_45_code 4 = .ok (.invokestatic 51, 3) := by decide +kernel
theorem own_d2_7 : decode jdk_33_method_45_code 7 = .ok (.iushr, 1) := by decide +kernel
theorem own_d2_8 : decode jdk_33_method_45_code 8 = .ok (.iand, 1) := by decide +kernel
theorem own_d2_9 : decode jdk_33_method_45_code 9 = .ok (.ireturn, 1) := by decide +kernel
theorem own_pd0 : parseMethodDescriptor "(I)I" = some ⟨[.int], some .int⟩ := by decide +kernel
theorem own_rm2_ef (m : MethodId) (p1 : Int32) : entryFrame m #[(.int p1)] 1 = mkF m 0 #[.val (.int p1)] [] := by first | (simp [entryFrame, mkF, argsToLocals, Value.category]; done) | rfl
set_option maxRecDepth 65536 in
set_option maxHeartbeats 40000000 in
theorem own_rm2 (l : Launch) (Z : State) (a0 : Array Value) (hw : ∀ d ∈ tables_1, d.before a0 Z = true) (ws : List Jvm.Cond) (p1 : Int32) (h0 : Heap) (n0 : Nat) (Z0 : n0 ≤ h0.size) :
    own_Met l Z (⟨"java/lang/Integer", "highestOneBit", "(I)I"⟩ : MethodName) jdk_33_method_45_code 1 (some .int) ws ({ frames := 1, cells := 0, slots := 0, locals := 16 } : Room) #[(.int p1)] h0 (fun v h L => v = some (.int (own_hob p1)) ∧ Fr n0 L ∧ h = h0) := by
  refine own_enter (plainFor_of_name own_pn0) ?_
  intro p e s m below meth c s₁ X0 hx hZ hby hml hown hnm hret hlk e0
  have N0 := Fr.nil n0
  rw [own_rm2_ef m p1]
  show own_Fin _ _ _ _ _ _ (s₁.setTop (mkF m 0 #[.val (.int p1)] []))
  refine own_to (fun t k => XS.iloadN X0.here hx rfl (hb hby own_d2_0) rfl k) ?_
  show own_Fin _ _ _ _ _ _ (s₁.setTop (mkF m 1 #[.val (.int p1)] [(.int p1)]))
  refine own_to (fun t k => X0.ldcInt hx hown (mvT hZ (hw _ (List.mem_of_getElem? (i := 9) rfl))) (g := (mkF m 1 #[.val (.int p1)] [(.int p1)])) rfl (hb hby own_d2_1) _ k) ?_
  show own_Fin _ _ _ _ _ _ (s₁.setTop (mkF m 3 #[.val (.int p1)] [(.int (-2147483648 : Int32)), (.int p1)]))
  refine own_to (fun t k => XS.iloadN X0.here hx rfl (hb hby own_d2_3) rfl k) ?_
  show own_Fin _ _ _ _ _ _ (s₁.setTop (mkF m 4 #[.val (.int p1)] [(.int p1), (.int (-2147483648 : Int32)), (.int p1)]))
  obtain ⟨_, _, ⟨T18, L18, k18, n18⟩, -, X18, ⟨Lc18, hQ18, l18, y18, z18⟩, st18⟩ := Jvm.LawKit.callS X0 hx (y := (⟨"java/lang/Integer", "numberOfLeadingZeros", "(I)I"⟩ : MethodName)) hown (mvT hZ (hw _ (List.mem_of_getElem? (i := 10) rfl))) (mvT hZ (hw _ (List.mem_of_getElem? (i := 11) rfl))) (mvT hZ (hw _ (List.mem_of_getElem? (i := 7) rfl))) (mvT hZ (hw _ (List.mem_of_getElem? (i := 12) rfl))) (by decide) (own_back (W := 2) (own_rm3 l Z a0 hw [] p1 h0 n0 Z0) hZ (hw _ (List.mem_of_getElem? (i := 12) rfl)) (hw _ (List.mem_of_getElem? (i := 7) rfl)) (by decide) (by decide)) (g := (mkF m 4 #[.val (.int p1)] [(.int p1), (.int (-2147483648 : Int32)), (.int p1)])) rfl (by rw [hml]; rfl) (argsL := [(.int p1)]) (rest := [(.int (-2147483648 : Int32)), (.int p1)]) (lenOf own_pd0 rfl) rfl (by show 2 * 0 + _ ≤ _; exact Nat.le_of_eq rfl) (hb hby own_d2_4) (fun _ _ => ⟨rfl, e0, (by decide : 0 + 0 ≤ _), (by decide : 0 + 0 ≤ _)⟩)
  dsimp only [Pt.U, Pt.locs, Pt.cells, Pt.slots] at X18 l18 y18 z18 st18 hQ18
  subst l18 y18 z18
  obtain ⟨rfl, N18q, eh18⟩ := hQ18
  have N18 := Fr.app N0 N18q
  refine own_to (fun t k => st18 t k) ?_
  show own_Fin _ _ _ _ _ _ (T18.setTop (mkF m 7 #[.val (.int p1)] [(.int (own_nlz p1)), (.int (-2147483648 : Int32)), (.int p1)]))
  refine own_to (fun t k => XS.iushr X18.here hx rfl (hb hby own_d2_7) rfl k) ?_
  show own_Fin _ _ _ _ _ _ (T18.setTop (mkF m 8 #[.val (.int p1)] [(.int (((-2147483648 : Int32).toUInt32 >>> ((own_nlz p1) &&& 31).toUInt32).toInt32)), (.int p1)]))
  refine own_to (fun t k => XS.iand X18.here hx rfl (hb hby own_d2_8) rfl k) ?_
  show own_Fin _ _ _ _ _ _ (T18.setTop (mkF m 9 #[.val (.int p1)] [(.int (p1 &&& (((-2147483648 : Int32).toUInt32 >>> ((own_nlz p1) &&& 31).toUInt32).toInt32)))]))
  refine own_retI X18 hx hlk hret (hb hby own_d2_9) (by decide) (by decide) ?_
  try rw [eh18]
  exact ⟨congrArg (fun z => some (Value.int z)) (Eq.symm (show own_hob p1 = _ from rfl)), N18, rfl⟩
def own_sc (p1 : Int32) : Int32 := (if p1 < (65536 : Int32) then (if (1 : Int32) < p1 then ((own_hob (p1 - (1 : Int32))) <<< ((1 : Int32) &&& 31)) else (1 : Int32)) else (65536 : Int32))
theorem own_d1_0 : decode prog_6_method_4_code 0 = .ok (.iload_n 0, 1) := by decide +kernel
theorem own_d1_1 : decode prog_6_method_4_code 1 = .ok (.ldc 27, 2) := by decide +kernel
theorem own_d1_3 : decode prog_6_method_4_code 3 = .ok (.if_icmp .lt 6, 3) := by decide +kernel
theorem own_d1_6 : decode prog_6_method_4_code 6 = .ok (.ldc 27, 2) := by decide +kernel
theorem own_d1_8 : decode prog_6_method_4_code 8 = .ok (.ireturn, 1) := by decide +kernel
theorem own_d1_9 : decode prog_6_method_4_code 9 = .ok (.iload_n 0, 1) := by decide +kernel
theorem own_d1_10 : decode prog_6_method_4_code 10 = .ok (.iconst 1, 1) := by decide +kernel
theorem own_d1_11 : decode prog_6_method_4_code 11 = .ok (.if_icmp .gt 7, 3) := by decide +kernel
theorem own_d1_14 : decode prog_6_method_4_code 14 = .ok (.iconst 1, 1) := by decide +kernel
theorem own_d1_15 : decode prog_6_method_4_code 15 = .ok (.goto 11, 3) := by decide +kernel
theorem own_d1_18 : decode prog_6_method_4_code 18 = .ok (.iload_n 0, 1) := by decide +kernel
theorem own_d1_19 : decode prog_6_method_4_code 19 = .ok (.iconst 1, 1) := by decide +kernel
theorem own_d1_20 : decode prog_6_method_4_code 20 = .ok (.isub, 1) := by decide +kernel
theorem own_d1_21 : decode prog_6_method_4_code 21 = .ok (.invokestatic 28, 3) := by decide +kernel
theorem own_d1_24 : decode prog_6_method_4_code 24 = .ok (.iconst 1, 1) := by decide +kernel
theorem own_d1_25 : decode prog_6_method_4_code 25 = .ok (.ishl, 1) := by decide +kernel
theorem own_d1_26 : decode prog_6_method_4_code 26 = .ok (.ireturn, 1) := by decide +kernel
theorem own_pn1 : plainName "com/example/stripeline/stripeline/Sizing" = true := by first | (simp [plainName, overriddenIn]; done) | decide +kernel
theorem own_rm1_ef (m : MethodId) (p1 : Int32) : entryFrame m #[(.int p1)] 1 = mkF m 0 #[.val (.int p1)] [] := by first | (simp [entryFrame, mkF, argsToLocals, Value.category]; done) | rfl
set_option maxRecDepth 65536 in
set_option maxHeartbeats 40000000 in
theorem own_rm1 (l : Launch) (Z : State) (a0 : Array Value) (hw : ∀ d ∈ tables_1, d.before a0 Z = true) (ws : List Jvm.Cond) (p1 : Int32) (h0 : Heap) (n0 : Nat) (Z0 : n0 ≤ h0.size) :
    own_Met l Z (⟨"com/example/stripeline/stripeline/Sizing", "stripeCount", "(I)I"⟩ : MethodName) prog_6_method_4_code 1 (some .int) ws ({ frames := 2, cells := 0, slots := 0, locals := 40 } : Room) #[(.int p1)] h0 (fun v h L => v = some (.int (own_sc p1)) ∧ Fr n0 L ∧ h = h0) := by
  refine own_enter (plainFor_of_name own_pn1) ?_
  intro p e s m below meth c s₁ X0 hx hZ hby hml hown hnm hret hlk e0
  have N0 := Fr.nil n0
  rw [own_rm1_ef m p1]
  show own_Fin _ _ _ _ _ _ (s₁.setTop (mkF m 0 #[.val (.int p1)] []))
  refine own_to (fun t k => XS.iloadN X0.here hx rfl (hb hby own_d1_0) rfl k) ?_
  show own_Fin _ _ _ _ _ _ (s₁.setTop (mkF m 1 #[.val (.int p1)] [(.int p1)]))
  refine own_to (fun t k => X0.ldcInt hx hown (mvT hZ (hw _ (List.mem_of_getElem? (i := 4) rfl))) (g := (mkF m 1 #[.val (.int p1)] [(.int p1)])) rfl (hb hby own_d1_1) _ k) ?_
  show own_Fin _ _ _ _ _ _ (s₁.setTop (mkF m 3 #[.val (.int p1)] [(.int (65536 : Int32)), (.int p1)]))
  by_cases hc3_19 : p1 < (65536 : Int32)
  ·
    show own_Fin _ _ _ _ _ _ (s₁.setTop (mkF m 3 #[.val (.int p1)] [(.int (65536 : Int32)), (.int p1)]))
    refine own_to (fun t k => XS.icmpYes X0.here hx rfl (pc0 := 3) (pc' := 9) rfl (hb hby own_d1_3) rfl (tlt hc3_19).1 (by decide) (by decide) k) ?_
    show own_Fin _ _ _ _ _ _ (s₁.setTop (mkF m 9 #[.val (.int p1)] []))
    refine own_to (fun t k => XS.iloadN X0.here hx rfl (hb hby own_d1_9) rfl k) ?_
    show own_Fin _ _ _ _ _ _ (s₁.setTop (mkF m 10 #[.val (.int p1)] [(.int p1)]))
    refine own_to (fun t k => XS.iconst X0.here hx rfl (hb hby own_d1_10) k) ?_
    show own_Fin _ _ _ _ _ _ (s₁.setTop (mkF m 11 #[.val (.int p1)] [(.int (1 : Int32)), (.int p1)]))
    by_cases hc11_20 : (1 : Int32) < p1
    ·
      show own_Fin _ _ _ _ _ _ (s₁.setTop (mkF m 11 #[.val (.int p1)] [(.int (1 : Int32)), (.int p1)]))
      refine own_to (fun t k => XS.icmpYes X0.here hx rfl (pc0 := 11) (pc' := 18) rfl (hb hby own_d1_11) rfl (tlt hc11_20).2.2.1 (by decide) (by decide) k) ?_
      show own_Fin _ _ _ _ _ _ (s₁.setTop (mkF m 18 #[.val (.int p1)] []))
      refine own_to (fun t k => XS.iloadN X0.here hx rfl (hb hby own_d1_18) rfl k) ?_
      show own_Fin _ _ _ _ _ _ (s₁.setTop (mkF m 19 #[.val (.int p1)] [(.int p1)]))
      refine own_to (fun t k => XS.iconst X0.here hx rfl (hb hby own_d1_19) k) ?_
      show own_Fin _ _ _ _ _ _ (s₁.setTop (mkF m 20 #[.val (.int p1)] [(.int (1 : Int32)), (.int p1)]))
      refine own_to (fun t k => XS.isub X0.here hx rfl (hb hby own_d1_20) rfl k) ?_
      show own_Fin _ _ _ _ _ _ (s₁.setTop (mkF m 21 #[.val (.int p1)] [(.int (p1 - (1 : Int32)))]))
      obtain ⟨_, _, ⟨T21, L21, k21, n21⟩, -, X21, ⟨Lc21, hQ21, l21, y21, z21⟩, st21⟩ := Jvm.LawKit.callS X0 hx (y := (⟨"java/lang/Integer", "highestOneBit", "(I)I"⟩ : MethodName)) hown (mvT hZ (hw _ (List.mem_of_getElem? (i := 5) rfl))) (mvT hZ (hw _ (List.mem_of_getElem? (i := 6) rfl))) (mvT hZ (hw _ (List.mem_of_getElem? (i := 7) rfl))) (mvT hZ (hw _ (List.mem_of_getElem? (i := 8) rfl))) (by decide) (own_back (W := 0) (own_rm2 l Z a0 hw [] (p1 - (1 : Int32)) h0 n0 Z0) hZ (hw _ (List.mem_of_getElem? (i := 8) rfl)) (hw _ (List.mem_of_getElem? (i := 7) rfl)) (by decide) (by decide)) (g := (mkF m 21 #[.val (.int p1)] [(.int (p1 - (1 : Int32)))])) rfl (by rw [hml]; rfl) (argsL := [(.int (p1 - (1 : Int32)))]) (rest := []) (lenOf own_pd0 rfl) rfl (by show 2 * 0 + _ ≤ _; exact Nat.le_of_eq rfl) (hb hby own_d1_21) (fun _ _ => ⟨rfl, e0, (by decide : 0 + 0 ≤ _), (by decide : 0 + 0 ≤ _)⟩)
      dsimp only [Pt.U, Pt.locs, Pt.cells, Pt.slots] at X21 l21 y21 z21 st21 hQ21
      subst l21 y21 z21
      obtain ⟨rfl, N21q, eh21⟩ := hQ21
      have N21 := Fr.app N0 N21q
      refine own_to (fun t k => st21 t k) ?_
      show own_Fin _ _ _ _ _ _ (T21.setTop (mkF m 24 #[.val (.int p1)] [(.int (own_hob (p1 - (1 : Int32))))]))
      refine own_to (fun t k => XS.iconst X21.here hx rfl (hb hby own_d1_24) k) ?_
      show own_Fin _ _ _ _ _ _ (T21.setTop (mkF m 25 #[.val (.int p1)] [(.int (1 : Int32)), (.int (own_hob (p1 - (1 : Int32))))]))
      refine own_to (fun t k => XS.ishl X21.here hx rfl (hb hby own_d1_25) rfl k) ?_
      show own_Fin _ _ _ _ _ _ (T21.setTop (mkF m 26 #[.val (.int p1)] [(.int ((own_hob (p1 - (1 : Int32))) <<< ((1 : Int32) &&& 31)))]))
      refine own_retI X21 hx hlk hret (hb hby own_d1_26) (by decide) (by decide) ?_
      try rw [eh21]
      exact ⟨congrArg (fun z => some (Value.int z)) (Eq.symm (show own_sc p1 = _ from ((if_pos hc3_19).trans ((if_pos hc11_20).trans rfl)))), N21, rfl⟩
    ·
      show own_Fin _ _ _ _ _ _ (s₁.setTop (mkF m 11 #[.val (.int p1)] [(.int (1 : Int32)), (.int p1)]))
      refine own_to (fun t k => XS.icmpNo X0.here hx rfl (hb hby own_d1_11) rfl (flt hc11_20).2.2.1 k) ?_
      show own_Fin _ _ _ _ _ _ (s₁.setTop (mkF m 14 #[.val (.int p1)] []))
      refine own_to (fun t k => XS.iconst X0.here hx rfl (hb hby own_d1_14) k) ?_
      show own_Fin _ _ _ _ _ _ (s₁.setTop (mkF m 15 #[.val (.int p1)] [(.int (1 : Int32))]))
      refine own_to (fun t k => XS.goto X0.here hx rfl (pc0 := 15) (pc' := 26) rfl (hb hby own_d1_15) (by decide) (by decide) k) ?_
      show own_Fin _ _ _ _ _ _ (s₁.setTop (mkF m 26 #[.val (.int p1)] [(.int (1 : Int32))]))
      refine own_retI X0 hx hlk hret (hb hby own_d1_26) (by decide) (by decide) ?_
      try rw [e0]
      exact ⟨congrArg (fun z => some (Value.int z)) (Eq.symm (show own_sc p1 = _ from ((if_pos hc3_19).trans ((if_neg hc11_20).trans rfl)))), N0, rfl⟩
  ·
    show own_Fin _ _ _ _ _ _ (s₁.setTop (mkF m 3 #[.val (.int p1)] [(.int (65536 : Int32)), (.int p1)]))
    refine own_to (fun t k => XS.icmpNo X0.here hx rfl (hb hby own_d1_3) rfl (flt hc3_19).1 k) ?_
    show own_Fin _ _ _ _ _ _ (s₁.setTop (mkF m 6 #[.val (.int p1)] []))
    refine own_to (fun t k => X0.ldcInt hx hown (mvT hZ (hw _ (List.mem_of_getElem? (i := 4) rfl))) (g := (mkF m 6 #[.val (.int p1)] [])) rfl (hb hby own_d1_6) _ k) ?_
    show own_Fin _ _ _ _ _ _ (s₁.setTop (mkF m 8 #[.val (.int p1)] [(.int (65536 : Int32))]))
    refine own_retI X0 hx hlk hret (hb hby own_d1_8) (by decide) (by decide) ?_
    try rw [e0]
    exact ⟨congrArg (fun z => some (Value.int z)) (Eq.symm (show own_sc p1 = _ from ((if_neg hc3_19).trans rfl))), N0, rfl⟩
def own_law (p1 : Int32) : Int32 := (if (0 : Int32) < (own_sc p1) then (if ((own_sc p1) &&& ((own_sc p1) - (1 : Int32))) = (0 : Int32) then (if (1 : Int32) < p1 then (if p1 < (65536 : Int32) then (if (own_sc p1) < p1 then (0 : Int32) else (if ((own_sc p1) >>> ((1 : Int32) &&& 31)) < p1 then (1 : Int32) else (0 : Int32))) else (if (own_sc p1) = (65536 : Int32) then (1 : Int32) else (0 : Int32))) else (if (own_sc p1) = (1 : Int32) then (1 : Int32) else (0 : Int32))) else (0 : Int32)) else (0 : Int32))
theorem own_pn2 : plainName "com/example/stripeline/stripeline/SizingStripeCountPinLaw" = true := by first | (simp [plainName, overriddenIn]; done) | decide +kernel
theorem own_rm0x_ef (m : MethodId) (p1 : Int32) : entryFrame m #[(.int p1)] maxLocals = mkF m 0 #[.val (.int p1), .unset, .unset] [] := by first | (simp [entryFrame, mkF, argsToLocals, Value.category, maxLocals]; done) | rfl
set_option maxRecDepth 65536 in
set_option maxHeartbeats 40000000 in
theorem own_rm0x (l : Launch) (Z : State) (a0 : Array Value) (hw : ∀ d ∈ tables_1, d.before a0 Z = true) (ws : List Jvm.Cond) (p1 : Int32) (h0 : Heap) (n0 : Nat) (Z0 : n0 ≤ h0.size) :
    own_Met l Z x code maxLocals ret ws room_1 #[(.int p1)] h0 (fun v h L => v = some (.int (own_law p1)) ∧ Fr n0 L) := by
  refine own_enter (plainFor_of_name own_pn2) ?_
  intro p e s m below meth c s₁ X0 hx hZ hby hml hown hnm hret hlk e0
  have N0 := Fr.nil n0
  rw [own_rm0x_ef m p1]
  show own_Fin _ _ _ _ _ _ (s₁.setTop (mkF m 0 #[.val (.int p1), .unset, .unset] []))
  refine own_to (fun t k => XS.iloadN X0.here hx rfl (hb hby at_0) rfl k) ?_
  show own_Fin _ _ _ _ _ _ (s₁.setTop (mkF m 1 #[.val (.int p1), .unset, .unset] [(.int p1)]))
  obtain ⟨_, _, ⟨T22, L22, k22, n22⟩, -, X22, ⟨Lc22, hQ22, l22, y22, z22⟩, st22⟩ := Jvm.LawKit.callS X0 hx (y := (⟨"com/example/stripeline/stripeline/Sizing", "stripeCount", "(I)I"⟩ : MethodName)) hown (mvT hZ (hw _ (List.mem_of_getElem? (i := 0) rfl))) (mvT hZ (hw _ (List.mem_of_getElem? (i := 1) rfl))) (mvT hZ (hw _ (List.mem_of_getElem? (i := 2) rfl))) (mvT hZ (hw _ (List.mem_of_getElem? (i := 3) rfl))) (by decide) (own_back (W := 0) (own_rm1 l Z a0 hw [] p1 h0 n0 Z0) hZ (hw _ (List.mem_of_getElem? (i := 3) rfl)) (hw _ (List.mem_of_getElem? (i := 2) rfl)) (by decide) (by decide)) (g := (mkF m 1 #[.val (.int p1), .unset, .unset] [(.int p1)])) rfl (by rw [hml]; rfl) (argsL := [(.int p1)]) (rest := []) (lenOf own_pd0 rfl) rfl (by show 2 * 0 + _ ≤ _; exact Nat.le_of_eq rfl) (hb hby at_1) (fun _ _ => ⟨rfl, e0, (by decide : 0 + 0 ≤ _), (by decide : 0 + 0 ≤ _)⟩)
  dsimp only [Pt.U, Pt.locs, Pt.cells, Pt.slots] at X22 l22 y22 z22 st22 hQ22
  subst l22 y22 z22
  obtain ⟨rfl, N22q, eh22⟩ := hQ22
  have N22 := Fr.app N0 N22q
  refine own_to (fun t k => st22 t k) ?_
  show own_Fin _ _ _ _ _ _ (T22.setTop (mkF m 4 #[.val (.int p1), .unset, .unset] [(.int (own_sc p1))]))
  refine own_to (fun t k => XS.istoreN X22.here hx rfl (hb hby at_4) rfl (l' := #[.val (.int p1), .val (.int (own_sc p1)), .unset]) rfl k) ?_
  show own_Fin _ _ _ _ _ _ (T22.setTop (mkF m 5 #[.val (.int p1), .val (.int (own_sc p1)), .unset] []))
  refine own_to (fun t k => XS.iloadN X22.here hx rfl (hb hby at_5) rfl k) ?_
  show own_Fin _ _ _ _ _ _ (T22.setTop (mkF m 6 #[.val (.int p1), .val (.int (own_sc p1)), .unset] [(.int (own_sc p1))]))
  by_cases hc6_23 : (0 : Int32) < (own_sc p1)
  ·
    show own_Fin _ _ _ _ _ _ (T22.setTop (mkF m 6 #[.val (.int p1), .val (.int (own_sc p1)), .unset] [(.int (own_sc p1))]))
    refine own_to (fun t k => XS.ifNo X22.here hx rfl (hb hby at_6) rfl ((if0 _ _).trans (tlt hc6_23).2.2.2) k) ?_
    show own_Fin _ _ _ _ _ _ (T22.setTop (mkF m 9 #[.val (.int p1), .val (.int (own_sc p1)), .unset] []))
    refine own_to (fun t k => XS.iloadN X22.here hx rfl (hb hby at_9) rfl k) ?_
    show own_Fin _ _ _ _ _ _ (T22.setTop (mkF m 10 #[.val (.int p1), .val (.int (own_sc p1)), .unset] [(.int (own_sc p1))]))
    refine own_to (fun t k => XS.iloadN X22.here hx rfl (hb hby at_10) rfl k) ?_
    show own_Fin _ _ _ _ _ _ (T22.setTop (mkF m 11 #[.val (.int p1), .val (.int (own_sc p1)), .unset] [(.int (own_sc p1)), (.int (own_sc p1))]))
    refine own_to (fun t k => XS.iconst X22.here hx rfl (hb hby at_11) k) ?_
    show own_Fin _ _ _ _ _ _ (T22.setTop (mkF m 12 #[.val (.int p1), .val (.int (own_sc p1)), .unset] [(.int (1 : Int32)), (.int (own_sc p1)), (.int (own_sc p1))]))
    refine own_to (fun t k => XS.isub X22.here hx rfl (hb hby at_12) rfl k) ?_
    show own_Fin _ _ _ _ _ _ (T22.setTop (mkF m 13 #[.val (.int p1), .val (.int (own_sc p1)), .unset] [(.int ((own_sc p1) - (1 : Int32))), (.int (own_sc p1))]))
    refine own_to (fun t k => XS.iand X22.here hx rfl (hb hby at_13) rfl k) ?_
    show own_Fin _ _ _ _ _ _ (T22.setTop (mkF m 14 #[.val (.int p1), .val (.int (own_sc p1)), .unset] [(.int ((own_sc p1) &&& ((own_sc p1) - (1 : Int32))))]))
    by_cases hc14_24 : ((own_sc p1) &&& ((own_sc p1) - (1 : Int32))) = (0 : Int32)
    ·
      show own_Fin _ _ _ _ _ _ (T22.setTop (mkF m 14 #[.val (.int p1), .val (.int (own_sc p1)), .unset] [(.int ((own_sc p1) &&& ((own_sc p1) - (1 : Int32))))]))
      refine own_to (fun t k => XS.ifNo X22.here hx rfl (hb hby at_14) rfl ((if0 _ _).trans (teq hc14_24).2) k) ?_
      show own_Fin _ _ _ _ _ _ (T22.setTop (mkF m 17 #[.val (.int p1), .val (.int (own_sc p1)), .unset] []))
      refine own_to (fun t k => XS.iconst X22.here hx rfl (hb hby at_17) k) ?_
      show own_Fin _ _ _ _ _ _ (T22.setTop (mkF m 18 #[.val (.int p1), .val (.int (own_sc p1)), .unset] [(.int (1 : Int32))]))
      refine own_to (fun t k => XS.goto X22.here hx rfl (pc0 := 18) (pc' := 22) rfl (hb hby at_18) (by decide) (by decide) k) ?_
      show own_Fin _ _ _ _ _ _ (T22.setTop (mkF m 22 #[.val (.int p1), .val (.int (own_sc p1)), .unset] [(.int (1 : Int32))]))
      refine own_to (fun t k => XS.istoreN X22.here hx rfl (hb hby at_22) rfl (l' := #[.val (.int p1), .val (.int (own_sc p1)), .val (.int (1 : Int32))]) rfl k) ?_
      show own_Fin _ _ _ _ _ _ (T22.setTop (mkF m 23 #[.val (.int p1), .val (.int (own_sc p1)), .val (.int (1 : Int32))] []))
      refine own_to (fun t k => XS.iloadN X22.here hx rfl (hb hby at_23) rfl k) ?_
      show own_Fin _ _ _ _ _ _ (T22.setTop (mkF m 24 #[.val (.int p1), .val (.int (own_sc p1)), .val (.int (1 : Int32))] [(.int (1 : Int32))]))
      refine own_to (fun t k => XS.ifYes X22.here hx rfl (pc0 := 24) (pc' := 29) rfl (hb hby at_24) rfl ((if0 _ _).trans (feq (by decide)).2) (by decide) (by decide) k) ?_
      show own_Fin _ _ _ _ _ _ (T22.setTop (mkF m 29 #[.val (.int p1), .val (.int (own_sc p1)), .val (.int (1 : Int32))] []))
      refine own_to (fun t k => XS.iloadN X22.here hx rfl (hb hby at_29) rfl k) ?_
      show own_Fin _ _ _ _ _ _ (T22.setTop (mkF m 30 #[.val (.int p1), .val (.int (own_sc p1)), .val (.int (1 : Int32))] [(.int p1)]))
      refine own_to (fun t k => XS.iconst X22.here hx rfl (hb hby at_30) k) ?_
      show own_Fin _ _ _ _ _ _ (T22.setTop (mkF m 31 #[.val (.int p1), .val (.int (own_sc p1)), .val (.int (1 : Int32))] [(.int (1 : Int32)), (.int p1)]))
      by_cases hc31_25 : (1 : Int32) < p1
      ·
        show own_Fin _ _ _ _ _ _ (T22.setTop (mkF m 31 #[.val (.int p1), .val (.int (own_sc p1)), .val (.int (1 : Int32))] [(.int (1 : Int32)), (.int p1)]))
        refine own_to (fun t k => XS.icmpYes X22.here hx rfl (pc0 := 31) (pc' := 45) rfl (hb hby at_31) rfl (tlt hc31_25).2.2.1 (by decide) (by decide) k) ?_
        show own_Fin _ _ _ _ _ _ (T22.setTop (mkF m 45 #[.val (.int p1), .val (.int (own_sc p1)), .val (.int (1 : Int32))] []))
        refine own_to (fun t k => XS.iloadN X22.here hx rfl (hb hby at_45) rfl k) ?_
        show own_Fin _ _ _ _ _ _ (T22.setTop (mkF m 46 #[.val (.int p1), .val (.int (own_sc p1)), .val (.int (1 : Int32))] [(.int p1)]))
        refine own_to (fun t k => X22.ldcInt hx hown (mvT hZ (hw _ (List.mem_of_getElem? (i := 14) rfl))) (g := (mkF m 46 #[.val (.int p1), .val (.int (own_sc p1)), .val (.int (1 : Int32))] [(.int p1)])) rfl (hb hby at_46) _ k) ?_
        show own_Fin _ _ _ _ _ _ (T22.setTop (mkF m 48 #[.val (.int p1), .val (.int (own_sc p1)), .val (.int (1 : Int32))] [(.int (65536 : Int32)), (.int p1)]))
        by_cases hc48_26 : p1 < (65536 : Int32)
        ·
          show own_Fin _ _ _ _ _ _ (T22.setTop (mkF m 48 #[.val (.int p1), .val (.int (own_sc p1)), .val (.int (1 : Int32))] [(.int (65536 : Int32)), (.int p1)]))
          refine own_to (fun t k => XS.icmpYes X22.here hx rfl (pc0 := 48) (pc' := 63) rfl (hb hby at_48) rfl (tlt hc48_26).1 (by decide) (by decide) k) ?_
          show own_Fin _ _ _ _ _ _ (T22.setTop (mkF m 63 #[.val (.int p1), .val (.int (own_sc p1)), .val (.int (1 : Int32))] []))
          refine own_to (fun t k => XS.iloadN X22.here hx rfl (hb hby at_63) rfl k) ?_
          show own_Fin _ _ _ _ _ _ (T22.setTop (mkF m 64 #[.val (.int p1), .val (.int (own_sc p1)), .val (.int (1 : Int32))] [(.int (own_sc p1))]))
          refine own_to (fun t k => XS.iloadN X22.here hx rfl (hb hby at_64) rfl k) ?_
          show own_Fin _ _ _ _ _ _ (T22.setTop (mkF m 65 #[.val (.int p1), .val (.int (own_sc p1)), .val (.int (1 : Int32))] [(.int p1), (.int (own_sc p1))]))
          by_cases hc65_27 : (own_sc p1) < p1
          ·
            show own_Fin _ _ _ _ _ _ (T22.setTop (mkF m 65 #[.val (.int p1), .val (.int (own_sc p1)), .val (.int (1 : Int32))] [(.int p1), (.int (own_sc p1))]))
            refine own_to (fun t k => XS.icmpYes X22.here hx rfl (pc0 := 65) (pc' := 79) rfl (hb hby at_65) rfl (tlt hc65_27).1 (by decide) (by decide) k) ?_
            show own_Fin _ _ _ _ _ _ (T22.setTop (mkF m 79 #[.val (.int p1), .val (.int (own_sc p1)), .val (.int (1 : Int32))] []))
            refine own_to (fun t k => XS.iconst X22.here hx rfl (hb hby at_79) k) ?_
            show own_Fin _ _ _ _ _ _ (T22.setTop (mkF m 80 #[.val (.int p1), .val (.int (own_sc p1)), .val (.int (1 : Int32))] [(.int (0 : Int32))]))
            refine own_retN X22 hx hlk (t := .boolean) hret (by simp) (hb hby at_80) (by decide) (by decide) ?_
            try rw [eh22]
            exact ⟨congrArg (fun z => some (Value.int z)) (Eq.symm (show own_law p1 = _ from ((if_pos hc6_23).trans ((if_pos hc14_24).trans ((if_pos hc31_25).trans ((if_pos hc48_26).trans ((if_pos hc65_27).trans rfl))))))), N22⟩
          ·
            show own_Fin _ _ _ _ _ _ (T22.setTop (mkF m 65 #[.val (.int p1), .val (.int (own_sc p1)), .val (.int (1 : Int32))] [(.int p1), (.int (own_sc p1))]))
            refine own_to (fun t k => XS.icmpNo X22.here hx rfl (hb hby at_65) rfl (flt hc65_27).1 k) ?_
            show own_Fin _ _ _ _ _ _ (T22.setTop (mkF m 68 #[.val (.int p1), .val (.int (own_sc p1)), .val (.int (1 : Int32))] []))
            refine own_to (fun t k => XS.iloadN X22.here hx rfl (hb hby at_68) rfl k) ?_
            show own_Fin _ _ _ _ _ _ (T22.setTop (mkF m 69 #[.val (.int p1), .val (.int (own_sc p1)), .val (.int (1 : Int32))] [(.int (own_sc p1))]))
            refine own_to (fun t k => XS.iconst X22.here hx rfl (hb hby at_69) k) ?_
            show own_Fin _ _ _ _ _ _ (T22.setTop (mkF m 70 #[.val (.int p1), .val (.int (own_sc p1)), .val (.int (1 : Int32))] [(.int (1 : Int32)), (.int (own_sc p1))]))
            refine own_to (fun t k => XS.ishr X22.here hx rfl (hb hby at_70) rfl k) ?_
            show own_Fin _ _ _ _ _ _ (T22.setTop (mkF m 71 #[.val (.int p1), .val (.int (own_sc p1)), .val (.int (1 : Int32))] [(.int ((own_sc p1) >>> ((1 : Int32) &&& 31)))]))
            refine own_to (fun t k => XS.iloadN X22.here hx rfl (hb hby at_71) rfl k) ?_
            show own_Fin _ _ _ _ _ _ (T22.setTop (mkF m 72 #[.val (.int p1), .val (.int (own_sc p1)), .val (.int (1 : Int32))] [(.int p1), (.int ((own_sc p1) >>> ((1 : Int32) &&& 31)))]))
            by_cases hc72_28 : ((own_sc p1) >>> ((1 : Int32) &&& 31)) < p1
            ·
              show own_Fin _ _ _ _ _ _ (T22.setTop (mkF m 72 #[.val (.int p1), .val (.int (own_sc p1)), .val (.int (1 : Int32))] [(.int p1), (.int ((own_sc p1) >>> ((1 : Int32) &&& 31)))]))
              refine own_to (fun t k => XS.icmpNo X22.here hx rfl (hb hby at_72) rfl (tlt hc72_28).2.1 k) ?_
              show own_Fin _ _ _ _ _ _ (T22.setTop (mkF m 75 #[.val (.int p1), .val (.int (own_sc p1)), .val (.int (1 : Int32))] []))
              refine own_to (fun t k => XS.iconst X22.here hx rfl (hb hby at_75) k) ?_
              show own_Fin _ _ _ _ _ _ (T22.setTop (mkF m 76 #[.val (.int p1), .val (.int (own_sc p1)), .val (.int (1 : Int32))] [(.int (1 : Int32))]))
              refine own_to (fun t k => XS.goto X22.here hx rfl (pc0 := 76) (pc' := 80) rfl (hb hby at_76) (by decide) (by decide) k) ?_
              show own_Fin _ _ _ _ _ _ (T22.setTop (mkF m 80 #[.val (.int p1), .val (.int (own_sc p1)), .val (.int (1 : Int32))] [(.int (1 : Int32))]))
              refine own_retN X22 hx hlk (t := .boolean) hret (by simp) (hb hby at_80) (by decide) (by decide) ?_
              try rw [eh22]
              exact ⟨congrArg (fun z => some (Value.int z)) (Eq.symm (show own_law p1 = _ from ((if_pos hc6_23).trans ((if_pos hc14_24).trans ((if_pos hc31_25).trans ((if_pos hc48_26).trans ((if_neg hc65_27).trans ((if_pos hc72_28).trans rfl)))))))), N22⟩
            ·
              show own_Fin _ _ _ _ _ _ (T22.setTop (mkF m 72 #[.val (.int p1), .val (.int (own_sc p1)), .val (.int (1 : Int32))] [(.int p1), (.int ((own_sc p1) >>> ((1 : Int32) &&& 31)))]))
              refine own_to (fun t k => XS.icmpYes X22.here hx rfl (pc0 := 72) (pc' := 79) rfl (hb hby at_72) rfl (flt hc72_28).2.1 (by decide) (by decide) k) ?_
              show own_Fin _ _ _ _ _ _ (T22.setTop (mkF m 79 #[.val (.int p1), .val (.int (own_sc p1)), .val (.int (1 : Int32))] []))
              refine own_to (fun t k => XS.iconst X22.here hx rfl (hb hby at_79) k) ?_
              show own_Fin _ _ _ _ _ _ (T22.setTop (mkF m 80 #[.val (.int p1), .val (.int (own_sc p1)), .val (.int (1 : Int32))] [(.int (0 : Int32))]))
              refine own_retN X22 hx hlk (t := .boolean) hret (by simp) (hb hby at_80) (by decide) (by decide) ?_
              try rw [eh22]
              exact ⟨congrArg (fun z => some (Value.int z)) (Eq.symm (show own_law p1 = _ from ((if_pos hc6_23).trans ((if_pos hc14_24).trans ((if_pos hc31_25).trans ((if_pos hc48_26).trans ((if_neg hc65_27).trans ((if_neg hc72_28).trans rfl)))))))), N22⟩
        ·
          show own_Fin _ _ _ _ _ _ (T22.setTop (mkF m 48 #[.val (.int p1), .val (.int (own_sc p1)), .val (.int (1 : Int32))] [(.int (65536 : Int32)), (.int p1)]))
          refine own_to (fun t k => XS.icmpNo X22.here hx rfl (hb hby at_48) rfl (flt hc48_26).1 k) ?_
          show own_Fin _ _ _ _ _ _ (T22.setTop (mkF m 51 #[.val (.int p1), .val (.int (own_sc p1)), .val (.int (1 : Int32))] []))
          refine own_to (fun t k => XS.iloadN X22.here hx rfl (hb hby at_51) rfl k) ?_
          show own_Fin _ _ _ _ _ _ (T22.setTop (mkF m 52 #[.val (.int p1), .val (.int (own_sc p1)), .val (.int (1 : Int32))] [(.int (own_sc p1))]))
          refine own_to (fun t k => X22.ldcInt hx hown (mvT hZ (hw _ (List.mem_of_getElem? (i := 14) rfl))) (g := (mkF m 52 #[.val (.int p1), .val (.int (own_sc p1)), .val (.int (1 : Int32))] [(.int (own_sc p1))])) rfl (hb hby at_52) _ k) ?_
          show own_Fin _ _ _ _ _ _ (T22.setTop (mkF m 54 #[.val (.int p1), .val (.int (own_sc p1)), .val (.int (1 : Int32))] [(.int (65536 : Int32)), (.int (own_sc p1))]))
          by_cases hc54_29 : (own_sc p1) = (65536 : Int32)
          ·
            show own_Fin _ _ _ _ _ _ (T22.setTop (mkF m 54 #[.val (.int p1), .val (.int (own_sc p1)), .val (.int (1 : Int32))] [(.int (65536 : Int32)), (.int (own_sc p1))]))
            refine own_to (fun t k => XS.icmpNo X22.here hx rfl (hb hby at_54) rfl (teq hc54_29).2 k) ?_
            show own_Fin _ _ _ _ _ _ (T22.setTop (mkF m 57 #[.val (.int p1), .val (.int (own_sc p1)), .val (.int (1 : Int32))] []))
            refine own_to (fun t k => XS.iconst X22.here hx rfl (hb hby at_57) k) ?_
            show own_Fin _ _ _ _ _ _ (T22.setTop (mkF m 58 #[.val (.int p1), .val (.int (own_sc p1)), .val (.int (1 : Int32))] [(.int (1 : Int32))]))
            refine own_to (fun t k => XS.goto X22.here hx rfl (pc0 := 58) (pc' := 62) rfl (hb hby at_58) (by decide) (by decide) k) ?_
            show own_Fin _ _ _ _ _ _ (T22.setTop (mkF m 62 #[.val (.int p1), .val (.int (own_sc p1)), .val (.int (1 : Int32))] [(.int (1 : Int32))]))
            refine own_retN X22 hx hlk (t := .boolean) hret (by simp) (hb hby at_62) (by decide) (by decide) ?_
            try rw [eh22]
            exact ⟨congrArg (fun z => some (Value.int z)) (Eq.symm (show own_law p1 = _ from ((if_pos hc6_23).trans ((if_pos hc14_24).trans ((if_pos hc31_25).trans ((if_neg hc48_26).trans ((if_pos hc54_29).trans rfl))))))), N22⟩
          ·
            show own_Fin _ _ _ _ _ _ (T22.setTop (mkF m 54 #[.val (.int p1), .val (.int (own_sc p1)), .val (.int (1 : Int32))] [(.int (65536 : Int32)), (.int (own_sc p1))]))
            refine own_to (fun t k => XS.icmpYes X22.here hx rfl (pc0 := 54) (pc' := 61) rfl (hb hby at_54) rfl (feq hc54_29).2 (by decide) (by decide) k) ?_
            show own_Fin _ _ _ _ _ _ (T22.setTop (mkF m 61 #[.val (.int p1), .val (.int (own_sc p1)), .val (.int (1 : Int32))] []))
            refine own_to (fun t k => XS.iconst X22.here hx rfl (hb hby at_61) k) ?_
            show own_Fin _ _ _ _ _ _ (T22.setTop (mkF m 62 #[.val (.int p1), .val (.int (own_sc p1)), .val (.int (1 : Int32))] [(.int (0 : Int32))]))
            refine own_retN X22 hx hlk (t := .boolean) hret (by simp) (hb hby at_62) (by decide) (by decide) ?_
            try rw [eh22]
            exact ⟨congrArg (fun z => some (Value.int z)) (Eq.symm (show own_law p1 = _ from ((if_pos hc6_23).trans ((if_pos hc14_24).trans ((if_pos hc31_25).trans ((if_neg hc48_26).trans ((if_neg hc54_29).trans rfl))))))), N22⟩
      ·
        show own_Fin _ _ _ _ _ _ (T22.setTop (mkF m 31 #[.val (.int p1), .val (.int (own_sc p1)), .val (.int (1 : Int32))] [(.int (1 : Int32)), (.int p1)]))
        refine own_to (fun t k => XS.icmpNo X22.here hx rfl (hb hby at_31) rfl (flt hc31_25).2.2.1 k) ?_
        show own_Fin _ _ _ _ _ _ (T22.setTop (mkF m 34 #[.val (.int p1), .val (.int (own_sc p1)), .val (.int (1 : Int32))] []))
        refine own_to (fun t k => XS.iloadN X22.here hx rfl (hb hby at_34) rfl k) ?_
        show own_Fin _ _ _ _ _ _ (T22.setTop (mkF m 35 #[.val (.int p1), .val (.int (own_sc p1)), .val (.int (1 : Int32))] [(.int (own_sc p1))]))
        refine own_to (fun t k => XS.iconst X22.here hx rfl (hb hby at_35) k) ?_
        show own_Fin _ _ _ _ _ _ (T22.setTop (mkF m 36 #[.val (.int p1), .val (.int (own_sc p1)), .val (.int (1 : Int32))] [(.int (1 : Int32)), (.int (own_sc p1))]))
        by_cases hc36_30 : (own_sc p1) = (1 : Int32)
        ·
          show own_Fin _ _ _ _ _ _ (T22.setTop (mkF m 36 #[.val (.int p1), .val (.int (own_sc p1)), .val (.int (1 : Int32))] [(.int (1 : Int32)), (.int (own_sc p1))]))
          refine own_to (fun t k => XS.icmpNo X22.here hx rfl (hb hby at_36) rfl (teq hc36_30).2 k) ?_
          show own_Fin _ _ _ _ _ _ (T22.setTop (mkF m 39 #[.val (.int p1), .val (.int (own_sc p1)), .val (.int (1 : Int32))] []))
          refine own_to (fun t k => XS.iconst X22.here hx rfl (hb hby at_39) k) ?_
          show own_Fin _ _ _ _ _ _ (T22.setTop (mkF m 40 #[.val (.int p1), .val (.int (own_sc p1)), .val (.int (1 : Int32))] [(.int (1 : Int32))]))
          refine own_to (fun t k => XS.goto X22.here hx rfl (pc0 := 40) (pc' := 44) rfl (hb hby at_40) (by decide) (by decide) k) ?_
          show own_Fin _ _ _ _ _ _ (T22.setTop (mkF m 44 #[.val (.int p1), .val (.int (own_sc p1)), .val (.int (1 : Int32))] [(.int (1 : Int32))]))
          refine own_retN X22 hx hlk (t := .boolean) hret (by simp) (hb hby at_44) (by decide) (by decide) ?_
          try rw [eh22]
          exact ⟨congrArg (fun z => some (Value.int z)) (Eq.symm (show own_law p1 = _ from ((if_pos hc6_23).trans ((if_pos hc14_24).trans ((if_neg hc31_25).trans ((if_pos hc36_30).trans rfl)))))), N22⟩
        ·
          show own_Fin _ _ _ _ _ _ (T22.setTop (mkF m 36 #[.val (.int p1), .val (.int (own_sc p1)), .val (.int (1 : Int32))] [(.int (1 : Int32)), (.int (own_sc p1))]))
          refine own_to (fun t k => XS.icmpYes X22.here hx rfl (pc0 := 36) (pc' := 43) rfl (hb hby at_36) rfl (feq hc36_30).2 (by decide) (by decide) k) ?_
          show own_Fin _ _ _ _ _ _ (T22.setTop (mkF m 43 #[.val (.int p1), .val (.int (own_sc p1)), .val (.int (1 : Int32))] []))
          refine own_to (fun t k => XS.iconst X22.here hx rfl (hb hby at_43) k) ?_
          show own_Fin _ _ _ _ _ _ (T22.setTop (mkF m 44 #[.val (.int p1), .val (.int (own_sc p1)), .val (.int (1 : Int32))] [(.int (0 : Int32))]))
          refine own_retN X22 hx hlk (t := .boolean) hret (by simp) (hb hby at_44) (by decide) (by decide) ?_
          try rw [eh22]
          exact ⟨congrArg (fun z => some (Value.int z)) (Eq.symm (show own_law p1 = _ from ((if_pos hc6_23).trans ((if_pos hc14_24).trans ((if_neg hc31_25).trans ((if_neg hc36_30).trans rfl)))))), N22⟩
    ·
      show own_Fin _ _ _ _ _ _ (T22.setTop (mkF m 14 #[.val (.int p1), .val (.int (own_sc p1)), .unset] [(.int ((own_sc p1) &&& ((own_sc p1) - (1 : Int32))))]))
      refine own_to (fun t k => XS.ifYes X22.here hx rfl (pc0 := 14) (pc' := 21) rfl (hb hby at_14) rfl ((if0 _ _).trans (feq hc14_24).2) (by decide) (by decide) k) ?_
      show own_Fin _ _ _ _ _ _ (T22.setTop (mkF m 21 #[.val (.int p1), .val (.int (own_sc p1)), .unset] []))
      refine own_to (fun t k => XS.iconst X22.here hx rfl (hb hby at_21) k) ?_
      show own_Fin _ _ _ _ _ _ (T22.setTop (mkF m 22 #[.val (.int p1), .val (.int (own_sc p1)), .unset] [(.int (0 : Int32))]))
      refine own_to (fun t k => XS.istoreN X22.here hx rfl (hb hby at_22) rfl (l' := #[.val (.int p1), .val (.int (own_sc p1)), .val (.int (0 : Int32))]) rfl k) ?_
      show own_Fin _ _ _ _ _ _ (T22.setTop (mkF m 23 #[.val (.int p1), .val (.int (own_sc p1)), .val (.int (0 : Int32))] []))
      refine own_to (fun t k => XS.iloadN X22.here hx rfl (hb hby at_23) rfl k) ?_
      show own_Fin _ _ _ _ _ _ (T22.setTop (mkF m 24 #[.val (.int p1), .val (.int (own_sc p1)), .val (.int (0 : Int32))] [(.int (0 : Int32))]))
      refine own_to (fun t k => XS.ifNo X22.here hx rfl (hb hby at_24) rfl ((if0 _ _).trans (teq rfl).2) k) ?_
      show own_Fin _ _ _ _ _ _ (T22.setTop (mkF m 27 #[.val (.int p1), .val (.int (own_sc p1)), .val (.int (0 : Int32))] []))
      refine own_to (fun t k => XS.iconst X22.here hx rfl (hb hby at_27) k) ?_
      show own_Fin _ _ _ _ _ _ (T22.setTop (mkF m 28 #[.val (.int p1), .val (.int (own_sc p1)), .val (.int (0 : Int32))] [(.int (0 : Int32))]))
      refine own_retN X22 hx hlk (t := .boolean) hret (by simp) (hb hby at_28) (by decide) (by decide) ?_
      try rw [eh22]
      exact ⟨congrArg (fun z => some (Value.int z)) (Eq.symm (show own_law p1 = _ from ((if_pos hc6_23).trans ((if_neg hc14_24).trans rfl)))), N22⟩
  ·
    show own_Fin _ _ _ _ _ _ (T22.setTop (mkF m 6 #[.val (.int p1), .val (.int (own_sc p1)), .unset] [(.int (own_sc p1))]))
    refine own_to (fun t k => XS.ifYes X22.here hx rfl (pc0 := 6) (pc' := 21) rfl (hb hby at_6) rfl ((if0 _ _).trans (flt hc6_23).2.2.2) (by decide) (by decide) k) ?_
    show own_Fin _ _ _ _ _ _ (T22.setTop (mkF m 21 #[.val (.int p1), .val (.int (own_sc p1)), .unset] []))
    refine own_to (fun t k => XS.iconst X22.here hx rfl (hb hby at_21) k) ?_
    show own_Fin _ _ _ _ _ _ (T22.setTop (mkF m 22 #[.val (.int p1), .val (.int (own_sc p1)), .unset] [(.int (0 : Int32))]))
    refine own_to (fun t k => XS.istoreN X22.here hx rfl (hb hby at_22) rfl (l' := #[.val (.int p1), .val (.int (own_sc p1)), .val (.int (0 : Int32))]) rfl k) ?_
    show own_Fin _ _ _ _ _ _ (T22.setTop (mkF m 23 #[.val (.int p1), .val (.int (own_sc p1)), .val (.int (0 : Int32))] []))
    refine own_to (fun t k => XS.iloadN X22.here hx rfl (hb hby at_23) rfl k) ?_
    show own_Fin _ _ _ _ _ _ (T22.setTop (mkF m 24 #[.val (.int p1), .val (.int (own_sc p1)), .val (.int (0 : Int32))] [(.int (0 : Int32))]))
    refine own_to (fun t k => XS.ifNo X22.here hx rfl (hb hby at_24) rfl ((if0 _ _).trans (teq rfl).2) k) ?_
    show own_Fin _ _ _ _ _ _ (T22.setTop (mkF m 27 #[.val (.int p1), .val (.int (own_sc p1)), .val (.int (0 : Int32))] []))
    refine own_to (fun t k => XS.iconst X22.here hx rfl (hb hby at_27) k) ?_
    show own_Fin _ _ _ _ _ _ (T22.setTop (mkF m 28 #[.val (.int p1), .val (.int (own_sc p1)), .val (.int (0 : Int32))] [(.int (0 : Int32))]))
    refine own_retN X22 hx hlk (t := .boolean) hret (by simp) (hb hby at_28) (by decide) (by decide) ?_
    try rw [eh22]
    exact ⟨congrArg (fun z => some (Value.int z)) (Eq.symm (show own_law p1 = _ from ((if_neg hc6_23).trans rfl))), N22⟩
theorem own_ush (x : Int32) (k : Nat) (kk : Int32) (h0 : 0 ≤ x.toInt) (hk : (kk &&& 31).toUInt32.toNat = k) (hk2 : k < 32) : ((x.toUInt32 >>> (kk &&& 31).toUInt32).toInt32).toInt = x.toInt / 2 ^ k := by
  have := Jvm.Kit.i32_iushr (x := x) (k := k) (by rw [Jvm.Kit.i32_nonneg]; exact h0) (n := (kk &&& 31).toUInt32) hk hk2
  exact this
theorem own_lt32 (x y : Int32) : (x < y) = (x.toInt < y.toInt) := propext Int32.lt_iff_toInt_lt
theorem own_nlz_at (p : Int32) (h1 : 0 < p.toInt) (h2 : p.toInt < 65536) : ∃ k : Nat, k ≤ 15 ∧ (2 : Int) ^ k ≤ p.toInt ∧ p.toInt < 2 ^ (k + 1) ∧ (own_nlz p).toInt = 31 - k := by
  have e1 := own_ush p 1 1 (by omega) (by decide) (by decide)
  have e2 := own_ush p 2 2 (by omega) (by decide) (by decide)
  have e4 := own_ush p 4 4 (by omega) (by decide) (by decide)
  have e8 := own_ush p 8 8 (by omega) (by decide) (by decide)
  have e21 := own_ush _ 1 1 (by rw [e2]; omega) (by decide) (by decide)
  have e41 := own_ush _ 1 1 (by rw [e4]; omega) (by decide) (by decide)
  have e81 := own_ush _ 1 1 (by rw [e8]; omega) (by decide) (by decide)
  have e42 := own_ush _ 2 2 (by rw [e4]; omega) (by decide) (by decide)
  have e82 := own_ush _ 2 2 (by rw [e8]; omega) (by decide) (by decide)
  have e84 := own_ush _ 4 4 (by rw [e8]; omega) (by decide) (by decide)
  have e421 := own_ush _ 1 1 (by rw [e42, e4]; omega) (by decide) (by decide)
  have e821 := own_ush _ 1 1 (by rw [e82, e8]; omega) (by decide) (by decide)
  have e841 := own_ush _ 1 1 (by rw [e84, e8]; omega) (by decide) (by decide)
  have e842 := own_ush _ 2 2 (by rw [e84, e8]; omega) (by decide) (by decide)
  have e8421 := own_ush _ 1 1 (by rw [e842, e84, e8]; omega) (by decide) (by decide)
  have c0 : (0 : Int32) < p := by rw [own_lt32]; exact h1
  have c1 : p < (65536 : Int32) := by rw [own_lt32, show (65536 : Int32).toInt = 65536 from by decide]; exact h2
  unfold own_nlz
  rw [if_pos c0, if_pos c1]
  simp only [own_lt32, show (256 : Int32).toInt = 256 from by decide, show (16 : Int32).toInt = 16 from by decide, show (4 : Int32).toInt = 4 from by decide, e4, e8, e84]
  have own_sub : ∀ (a : Int32) (t : Int32), a.toInt ≤ 31 → 10 ≤ a.toInt → 0 ≤ t.toInt → t.toInt ≤ 1 → (a - t).toInt = a.toInt - t.toInt := fun a t q1 q2 q3 q4 => Jvm.Kit.i32_sub (by omega) (by omega)
  have fin : ∀ (a t : Int32) (j : Nat) (z : Int), j ≤ 14 → a.toInt = 31 - j → t.toInt = z → 0 ≤ z → z ≤ 1 → (z = 0 → (2 : Int) ^ j ≤ p.toInt ∧ p.toInt < 2 ^ (j + 1)) → (z = 1 → (2 : Int) ^ (j + 1) ≤ p.toInt ∧ p.toInt < 2 ^ (j + 2)) → ∃ k : Nat, k ≤ 15 ∧ (2 : Int) ^ k ≤ p.toInt ∧ p.toInt < 2 ^ (k + 1) ∧ (a - t).toInt = 31 - k := by
    intro a t j z hj ha ht z0 z1 hz0 hz1
    have es := own_sub a t (by omega) (by omega) (by omega) (by omega)
    by_cases hz : z = 0
    · exact ⟨j, by omega, (hz0 hz).1, (hz0 hz).2, by omega⟩
    · have hz' : z = 1 := by omega
      exact ⟨j + 1, by omega, (hz1 hz').1, (hz1 hz').2, by omega⟩
  split
  · split
    · split
      · exact fin _ _ 0 _ (by decide) (by decide) e1 (by omega) (by omega) (by omega) (by omega)
      · exact fin _ _ 2 _ (by decide) (by decide) (e21.trans (by rw [e2])) (by omega) (by omega) (by omega) (by omega)
    · split
      · exact fin _ _ 4 _ (by decide) (by decide) (e41.trans (by rw [e4])) (by omega) (by omega) (by omega) (by omega)
      · exact fin _ _ 6 _ (by decide) (by decide) (e421.trans (by rw [e42, e4])) (by omega) (by omega) (by omega) (by omega)
  · split
    · split
      · exact fin _ _ 8 _ (by decide) (by decide) (e81.trans (by rw [e8])) (by omega) (by omega) (by omega) (by omega)
      · exact fin _ _ 10 _ (by decide) (by decide) (e821.trans (by rw [e82, e8])) (by omega) (by omega) (by omega) (by omega)
    · split
      · exact fin _ _ 12 _ (by decide) (by decide) (e841.trans (by rw [e84, e8])) (by omega) (by omega) (by omega) (by omega)
      · exact fin _ _ 14 _ (by decide) (by decide) (e8421.trans (by rw [e842, e84, e8])) (by omega) (by omega) (by omega) (by omega)
theorem own_bit (p : Int32) (k : Nat) (hk : k ≤ 15) (h1 : (2 : Int) ^ k ≤ p.toInt) (h2 : p.toInt < 2 ^ (k + 1)) (c : Int32) (hc : c.toBitVec.toNat = 2 ^ k) : p &&& c = c := by
  apply Int32.toBitVec_inj.mp
  apply BitVec.eq_of_toNat_eq
  have hp : (p.toBitVec.toNat : Int) = p.toInt := by
    have a := Int32.toInt_toBitVec p
    have b : 0 ≤ p.toInt := by have := Int.pow_pos (n := 2) (m := k) (by decide); omega
    rw [← a, BitVec.toInt_eq_toNat_cond] at b ⊢
    split at b <;> split <;> omega
  have e1 : 2 ^ k ≤ p.toBitVec.toNat := by
    have : ((2 ^ k : Nat) : Int) = (2 : Int) ^ k := by rw [Int.natCast_pow]; rfl
    omega
  have e2 : p.toBitVec.toNat < 2 ^ (k + 1) := by
    have : ((2 ^ (k + 1) : Nat) : Int) = (2 : Int) ^ (k + 1) := by rw [Int.natCast_pow]; rfl
    omega
  rw [Int32.toBitVec_and, BitVec.toNat_and, hc]
  have e3 : p.toBitVec.toNat / 2 ^ k = 1 := by
    rw [Nat.pow_succ] at e2
    exact Nat.div_eq_of_lt_le (by omega) (by omega)
  have e4 : p.toBitVec.toNat.testBit k = true := by rw [Nat.testBit_eq_decide_div_mod_eq, e3]; decide
  apply Nat.eq_of_testBit_eq
  intro i
  rw [Nat.testBit_and, Nat.testBit_two_pow]
  by_cases hi : k = i
  · subst hi; rw [e4]; simp
  · simp [hi]
theorem own_true (p : Int32) : own_law p = 1 := by
  by_cases a : (1 : Int32) < p
  · by_cases b : p < (65536 : Int32)
    · have a' : 1 < p.toInt := by rw [own_lt32] at a; exact a
      have b' : p.toInt < 65536 := by rw [own_lt32] at b; exact b
      have es : (p - 1).toInt = p.toInt - 1 := Jvm.Kit.i32_sub (q := 1) (by rw [show (1 : Int32).toInt = 1 from by decide]; omega) (by rw [show (1 : Int32).toInt = 1 from by decide]; omega)
      obtain ⟨k, hk, h1, h2, h3⟩ := own_nlz_at (p - 1) (by omega) (by omega)
      have key : ∀ (n c : Int32), n.toInt = 31 - k → ((-2147483648 : Int32).toUInt32 >>> (n &&& 31).toUInt32).toInt32 = c → c.toBitVec.toNat = 2 ^ k → own_nlz (p - 1) = n → own_sc p = c <<< ((1 : Int32) &&& 31) := by
        intro n c _ e1 e2 e3
        unfold own_sc
        rw [if_pos b, if_pos a]
        unfold own_hob
        rw [e3, e1, own_bit (p - 1) k hk h1 h2 c e2]
      have fin : ∀ (c r d : Int32), own_sc p = c <<< ((1 : Int32) &&& 31) → c <<< ((1 : Int32) &&& 31) = r → (0 : Int32) < r → r &&& (r - 1) = 0 → r >>> ((1 : Int32) &&& 31) = c → r.toInt = 2 ^ (k + 1) → c.toInt = 2 ^ k → own_law p = 1 := by
        intro c r d e1 e2 e3 e4 e5 e6 e7
        rw [e2] at e1
        unfold own_law
        rw [e1, if_pos e3, if_pos e4, if_pos a, if_pos b, if_neg (by rw [own_lt32]; omega), e5, if_pos (by rw [own_lt32]; omega)]
      have hn : ∀ n : Int32, n.toInt = 31 - k → own_nlz (p - 1) = n := fun n hn => Int32.toInt_inj.mp (by omega)
      obtain rfl | rfl | rfl | rfl | rfl | rfl | rfl | rfl | rfl | rfl | rfl | rfl | rfl | rfl | rfl | rfl : k = 0 ∨ k = 1 ∨ k = 2 ∨ k = 3 ∨ k = 4 ∨ k = 5 ∨ k = 6 ∨ k = 7 ∨ k = 8 ∨ k = 9 ∨ k = 10 ∨ k = 11 ∨ k = 12 ∨ k = 13 ∨ k = 14 ∨ k = 15 := by omega
      · exact fin 1 2 0 (key 31 1 (by decide) (by decide) (by decide) (hn _ (by decide))) (by decide) (by decide) (by decide) (by decide) (by decide) (by decide)
      · exact fin 2 4 0 (key 30 2 (by decide) (by decide) (by decide) (hn _ (by decide))) (by decide) (by decide) (by decide) (by decide) (by decide) (by decide)
      · exact fin 4 8 0 (key 29 4 (by decide) (by decide) (by decide) (hn _ (by decide))) (by decide) (by decide) (by decide) (by decide) (by decide) (by decide)
      · exact fin 8 16 0 (key 28 8 (by decide) (by decide) (by decide) (hn _ (by decide))) (by decide) (by decide) (by decide) (by decide) (by decide) (by decide)
      · exact fin 16 32 0 (key 27 16 (by decide) (by decide) (by decide) (hn _ (by decide))) (by decide) (by decide) (by decide) (by decide) (by decide) (by decide)
      · exact fin 32 64 0 (key 26 32 (by decide) (by decide) (by decide) (hn _ (by decide))) (by decide) (by decide) (by decide) (by decide) (by decide) (by decide)
      · exact fin 64 128 0 (key 25 64 (by decide) (by decide) (by decide) (hn _ (by decide))) (by decide) (by decide) (by decide) (by decide) (by decide) (by decide)
      · exact fin 128 256 0 (key 24 128 (by decide) (by decide) (by decide) (hn _ (by decide))) (by decide) (by decide) (by decide) (by decide) (by decide) (by decide)
      · exact fin 256 512 0 (key 23 256 (by decide) (by decide) (by decide) (hn _ (by decide))) (by decide) (by decide) (by decide) (by decide) (by decide) (by decide)
      · exact fin 512 1024 0 (key 22 512 (by decide) (by decide) (by decide) (hn _ (by decide))) (by decide) (by decide) (by decide) (by decide) (by decide) (by decide)
      · exact fin 1024 2048 0 (key 21 1024 (by decide) (by decide) (by decide) (hn _ (by decide))) (by decide) (by decide) (by decide) (by decide) (by decide) (by decide)
      · exact fin 2048 4096 0 (key 20 2048 (by decide) (by decide) (by decide) (hn _ (by decide))) (by decide) (by decide) (by decide) (by decide) (by decide) (by decide)
      · exact fin 4096 8192 0 (key 19 4096 (by decide) (by decide) (by decide) (hn _ (by decide))) (by decide) (by decide) (by decide) (by decide) (by decide) (by decide)
      · exact fin 8192 16384 0 (key 18 8192 (by decide) (by decide) (by decide) (hn _ (by decide))) (by decide) (by decide) (by decide) (by decide) (by decide) (by decide)
      · exact fin 16384 32768 0 (key 17 16384 (by decide) (by decide) (by decide) (hn _ (by decide))) (by decide) (by decide) (by decide) (by decide) (by decide) (by decide)
      · exact fin 32768 65536 0 (key 16 32768 (by decide) (by decide) (by decide) (hn _ (by decide))) (by decide) (by decide) (by decide) (by decide) (by decide) (by decide)
    · have e : own_sc p = 65536 := by unfold own_sc; rw [if_neg b]
      unfold own_law
      rw [e, if_pos (by decide), if_pos (by decide), if_pos a, if_neg b, if_pos rfl]
  · have b : p < (65536 : Int32) := by
      rw [own_lt32] at a ⊢
      rw [show (65536 : Int32).toInt = 65536 from by decide]; rw [show (1 : Int32).toInt = 1 from by decide] at a; omega
    have e : own_sc p = 1 := by unfold own_sc; rw [if_pos b, if_neg a]
    unfold own_law
    rw [e, if_pos (by decide), if_pos (by decide), if_neg a, if_pos rfl]
theorem own_rm0 (l : Launch) (Z : State) (a0 : Array Value) (hw : ∀ d ∈ tables_1, d.before a0 Z = true) (ws : List Jvm.Cond) (p1 : Int32) (h0 : Heap) (n0 : Nat) (Z0 : n0 ≤ h0.size) :
    own_Met l Z x code maxLocals ret ws room_1 #[(.int p1)] h0 (fun v h L => v = some (.int 1) ∧ Fr n0 L) := by
  have k := own_rm0x l Z a0 hw ws p1 h0 n0 Z0
  rw [own_true p1] at k
  exact k
set_option maxRecDepth 65536 in
set_option maxHeartbeats 40000000 in
theorem comes_1 {Post : Tables → Env → Array Value → State → Outcome → State → Prop} (hpost : ∀ tb e args s v u, (limb_1_1.after args s (.returned v) u = true ∧ limb_1_2.after args s (.returned v) u = true ∧ True) → FrameEnd s (.returned v) u (Jvm.fieldLocs frame_1_writes args s ++ Jvm.arrayLocs frame_1_arrays args s ++ Jvm.staticLocs frame_1_statics s) 0 0 → Post tb e args s (.returned v) u) :
    ArmFor flags0 classFile x code maxLocals ret World_1 tables_1 room_1 Calls_1 rest_1 Pre_1 Post := by
  intro l hfl _ _ p e ha hc hk s m args below hf hA hF happ hP
  obtain ⟨hcalls, hrest, hpre⟩ := hP
  obtain ⟨-, -, -, hnamed, -, -, -, hat⟩ := (Spec.applies_iff hf).mp happ
  obtain ⟨hg, hn⟩ := and_e (Cond.before_iff.mp (show (Jvm.Cond.and given_1 narrow_1).before args s = true from hpre))
  obtain ⟨g1, g2⟩ := and_e hg
  obtain ⟨w0, rfl⟩ : ∃ w0 : Value, args = #[w0] := by
    have hs : args.size = 1 := by simpa [Cond.value, given_1] using g1
    obtain ⟨L⟩ := args
    match L, hs with
    | [w0], _ => exact ⟨w0, rfl⟩
  have hw := fun d (hd : d ∈ tables_1) => atoms_spec (ws := Jvm.Cond.code x code maxLocals ret :: tables_1) hat d (List.mem_cons_of_mem _ hd)
  have hfit : Fit s := fun {y c} hc i hi => by
    obtain ⟨ha, rfl⟩ := Array.getElem?_eq_some_iff.mp hc
    have q := List.all_eq_true.mp ((Array.all_eq_true_iff_forall_mem.mp hF) _ (Array.getElem_mem ha)) i (List.mem_range.mpr hi)
    simpa [Array.getElem?_eq_getElem hi] using q
  obtain ⟨i0, ei0⟩ := is_v g2
  obtain rfl : w0 = (.int i0) := Option.some.inj ei0
  obtain ⟨n, o, h1, h2, h3, _, L, rfl, ⟨rfl, N⟩, hq⟩ := own_rm0 l s _ hw tables_1 i0 s.heap s.heap.size (Nat.le_refl _) p e ha hc hk s m _ below hf ((Spec.applies_iff_loose hf).mp happ).1 ⟨rfl, State.Warmed39.refl s, rfl⟩ trivial
  refine ⟨n, _, h1, h2, h3, hpost _ _ _ _ _ _ ⟨Cond.after_iff.mpr rfl, Cond.after_iff.mpr (eq_i res_at (Term.int_eval (1)) rfl), trivial⟩ ⟨hq.1, hq.2.1, (hq.2.2.sift fun y hy => Or.inr (N y hy)).mono (by decide) (by decide)⟩⟩
theorem main_1_1 : Claimed_1_1 := comes_1 fun _ _ _ _ _ _ h hF => ⟨h.1, hF⟩
theorem main_1_2 : Claimed_1_2 := comes_1 fun _ _ _ _ _ _ h hF => ⟨h.2.1, hF⟩
end Jvm.Pilot.@@N@@
namespace Jvm.Pilot.@@N@@
open Jvm Jvm.ClassFile Sem Op Lib Jvm.Free Jvm.Stand Jvm.Pilot.@@N@@.Jvm.D
/-! MADE BY PROGRAM (witnessworld.py) out of the Statement's table words and the real class files: 14 classes; the members and pool entries that the words name. The judged class is class 1, her method 1. -/
namespace start1
open Jvm.ClassFile
def u (s : String) : CpInfo := .utf8 (stringToUtf16 s)
/-- a pool by its gaps: so many unusable entries, then the entry; so many at the end -/
def gap : Nat → List CpInfo → List CpInfo
  | 0, r => r
  | n + 1, r => .unusable :: gap n r
def poolList (es : List (Nat × CpInfo)) (last : Nat) : List CpInfo := es.foldr (fun e r => gap e.1 (e.2 :: r)) (gap last [])
def pool (es : List (Nat × CpInfo)) (last : Nat) : Array CpInfo := ⟨poolList es last⟩
def fileOf (pool : Array CpInfo) (this : Nat) (attrs : Array Attribute := #[]) (ms : Array MethodInfo := #[]) (fl : Nat := 33) (sup : Nat := 0) (ifs : Array Nat := #[]) (fds : Array FieldInfo := #[]) : ClassFile where
  minorVersion := 0
  majorVersion := 65
  constantPool := pool
  accessFlags := fl
  thisClass := this
  superClass := sup
  interfaces := ifs
  fields := fds
  methods := ms
  attributes := attrs
def plain (name : String) (sup : Option ClassId) : Class where
  name := name
  kind := .ordinary
  loader := none
  accessFlags := 33
  super := sup
  interfaces := #[]
  cf := none
  fields := #[]
  methods := #[]
  instanceTypes := #[]
  staticTypes := #[]
  resolved := #[]
  callSites := []
  init := .initialized
  statics := none
  mirror := none

def pool0 : Array CpInfo := pool [(5, u "<init>"), (0, u "()V"), (1, .class_ 10), (1, u "java/lang/Object")] 113

def k0m0 : Method := { name := "<init>", desc := "()V", sig := { parameters := [], returnType := none }, accessFlags := 1, code := none }
/-- java/lang/Object -/
def k0 : Class := { plain "java/lang/Object" none with
  accessFlags := 33
  interfaces := #[]
  cf := some (fileOf pool0 8 #[] #[{ accessFlags := 1, nameIndex := 5, descriptorIndex := 6, attributes := #[] }] 33 0 #[] #[])
  fields := #[]
  methods := #[k0m0]
  instanceTypes := #[]
  staticTypes := #[]
  resolved := Array.replicate 124 none
  statics := none }

def pool1 : Array CpInfo := pool [(2, .class_ 4), (1, u "java/lang/Object"), (0, u "<init>"), (0, u "()V"), (0, .methodref 8 9), (0, .class_ 10), (0, .nameAndType 11 12), (0, u "com/example/stripeline/stripeline/Sizing"), (0, u "stripeCount"), (0, u "(I)I"), (0, .integer 65536), (0, .class_ 15), (0, u "com/example/stripeline/stripeline/SizingStripeCountPinLaw"), (2, u "law"), (0, u "(I)Z")] 3

def k1m0 : Method := { name := "<init>", desc := "()V", sig := { parameters := [], returnType := none }, accessFlags := 2, code := none }
def k1c1 : Code := { maxStack := 3, maxLocals := 3, code := code, exceptionTable := #[], attributes := #[] }
def k1m1 : Method := { name := "law", desc := "(I)Z", sig := { parameters := [.int], returnType := some .boolean }, accessFlags := 9, code := some k1c1 }
/-- com/example/stripeline/stripeline/SizingStripeCountPinLaw -/
def k1 : Class := { plain "com/example/stripeline/stripeline/SizingStripeCountPinLaw" (some 0) with
  accessFlags := 49
  interfaces := #[]
  cf := some (fileOf pool1 14 #[] #[{ accessFlags := 2, nameIndex := 5, descriptorIndex := 6, attributes := #[] }, { accessFlags := 9, nameIndex := 18, descriptorIndex := 19, attributes := #[] }] 49 2 #[] #[])
  fields := #[]
  methods := #[k1m0, k1m1]
  instanceTypes := #[]
  staticTypes := #[]
  resolved := Array.replicate 23 none
  statics := none }

def pool2 : Array CpInfo := pool [(2, .class_ 4), (1, u "java/lang/Object"), (0, u "<init>"), (0, u "()V"), (12, .class_ 20), (0, u "com/example/stripeline/stripeline/Sizing"), (6, .integer 65536), (0, .methodref 29 30), (0, .class_ 31), (0, .nameAndType 32 33), (0, u "java/lang/Integer"), (0, u "highestOneBit"), (0, u "(I)I"), (0, u "MAX_TABLE_LENGTH"), (0, u "I"), (1, u "MIN_TABLE_LENGTH"), (1, u "MAX_STRIPES"), (4, u "stripeCount")] 21

def k2m0 : Method := { name := "<init>", desc := "()V", sig := { parameters := [], returnType := none }, accessFlags := 2, code := none }
def k2c1 : Code := { maxStack := 2, maxLocals := 1, code := prog_6_method_4_code, exceptionTable := #[], attributes := #[] }
def k2m1 : Method := { name := "stripeCount", desc := "(I)I", sig := { parameters := [.int], returnType := some .int }, accessFlags := 8, code := some k2c1 }
/-- com/example/stripeline/stripeline/Sizing -/
def k2 : Class := { plain "com/example/stripeline/stripeline/Sizing" (some 0) with
  accessFlags := 48
  interfaces := #[]
  cf := some (fileOf pool2 19 #[] #[{ accessFlags := 2, nameIndex := 5, descriptorIndex := 6, attributes := #[] }, { accessFlags := 8, nameIndex := 44, descriptorIndex := 33, attributes := #[] }] 48 2 #[] #[{ accessFlags := 24, nameIndex := 34, descriptorIndex := 35, attributes := #[] }, { accessFlags := 24, nameIndex := 37, descriptorIndex := 35, attributes := #[] }, { accessFlags := 24, nameIndex := 39, descriptorIndex := 35, attributes := #[] }])
  fields := #[{ name := "MAX_TABLE_LENGTH", type := .int, accessFlags := 24, slot := 0, constantValue := 0 }, { name := "MIN_TABLE_LENGTH", type := .int, accessFlags := 24, slot := 1, constantValue := 0 }, { name := "MAX_STRIPES", type := .int, accessFlags := 24, slot := 2, constantValue := 0 }]
  methods := #[k2m0, k2m1]
  instanceTypes := #[]
  staticTypes := #[.int, .int, .int]
  resolved := Array.replicate 66 none
  statics := none }

def pool3 : Array CpInfo := pool [(1, .class_ 2), (0, u "java/io/Serializable"), (0, .class_ 4), (0, u "java/lang/Object")] 2

/-- java/io/Serializable -/
def k3 : Class := { plain "java/io/Serializable" (some 0) with
  accessFlags := 1537
  interfaces := #[]
  cf := some (fileOf pool3 1 #[] #[] 1537 3 #[] #[])
  fields := #[]
  methods := #[]
  instanceTypes := #[]
  staticTypes := #[]
  resolved := Array.replicate 7 none
  statics := none }

def pool4 : Array CpInfo := pool [(2, .class_ 4), (1, u "java/lang/Object"), (0, u "<init>"), (0, u "()V"), (1, .class_ 10), (1, u "java/lang/Number"), (2, .class_ 14), (0, u "java/io/Serializable"), (0, u "serialVersionUID"), (0, u "J")] 20

def k4m0 : Method := { name := "<init>", desc := "()V", sig := { parameters := [], returnType := none }, accessFlags := 1, code := none }
/-- java/lang/Number -/
def k4 : Class := { plain "java/lang/Number" (some 0) with
  accessFlags := 1057
  interfaces := #[3]
  cf := some (fileOf pool4 8 #[] #[{ accessFlags := 1, nameIndex := 5, descriptorIndex := 6, attributes := #[] }] 1057 2 #[13] #[{ accessFlags := 26, nameIndex := 15, descriptorIndex := 16, attributes := #[] }])
  fields := #[{ name := "serialVersionUID", type := .long, accessFlags := 26, slot := 0, constantValue := 0 }]
  methods := #[k4m0]
  instanceTypes := #[]
  staticTypes := #[.long]
  resolved := Array.replicate 37 none
  statics := none }

def pool5 : Array CpInfo := pool [(1, .class_ 2), (0, u "java/lang/Comparable"), (0, .class_ 4), (0, u "java/lang/Object")] 7

/-- java/lang/Comparable -/
def k5 : Class := { plain "java/lang/Comparable" (some 0) with
  accessFlags := 1537
  interfaces := #[]
  cf := some (fileOf pool5 1 #[] #[] 1537 3 #[] #[])
  fields := #[]
  methods := #[]
  instanceTypes := #[]
  staticTypes := #[]
  resolved := Array.replicate 12 none
  statics := none }

def pool6 : Array CpInfo := pool [(1, .class_ 2), (0, u "java/lang/constant/Constable"), (0, .class_ 4), (0, u "java/lang/Object")] 6

/-- java/lang/constant/Constable -/
def k6 : Class := { plain "java/lang/constant/Constable" (some 0) with
  accessFlags := 1537
  interfaces := #[]
  cf := some (fileOf pool6 1 #[] #[] 1537 3 #[] #[])
  fields := #[]
  methods := #[]
  instanceTypes := #[]
  staticTypes := #[]
  resolved := Array.replicate 11 none
  statics := none }

def pool7 : Array CpInfo := pool [(1, .class_ 2), (0, u "java/lang/constant/ConstantDesc"), (0, .class_ 4), (0, u "java/lang/Object")] 32

/-- java/lang/constant/ConstantDesc -/
def k7 : Class := { plain "java/lang/constant/ConstantDesc" (some 0) with
  accessFlags := 1537
  interfaces := #[]
  cf := some (fileOf pool7 1 #[] #[] 1537 3 #[] #[])
  fields := #[]
  methods := #[]
  instanceTypes := #[]
  staticTypes := #[]
  resolved := Array.replicate 37 none
  statics := none }

def pool8 : Array CpInfo := pool [(1, .class_ 2), (0, u "java/lang/Integer"), (16, u "digits"), (0, u "[C"), (30, .methodref 1 52), (0, .nameAndType 53 54), (0, u "numberOfLeadingZeros"), (0, u "(I)I"), (30, u "DigitOnes"), (0, u "[B"), (2, u "DigitTens"), (37, .integer 2147483648), (61, .class_ 190), (0, u "java/lang/Integer$IntegerCache"), (3, u "I"), (8, .class_ 204), (0, u "java/lang/Number"), (2, u "value"), (56, .integer 65536), (37, u "TYPE"), (0, u "Ljava/lang/Class;"), (0, .class_ 305), (0, u "java/lang/Comparable"), (0, .class_ 307), (0, u "java/lang/constant/Constable"), (0, .class_ 309), (0, u "java/lang/constant/ConstantDesc"), (0, u "MIN_VALUE"), (1, u "MAX_VALUE"), (3, u "SIZE"), (1, u "BYTES"), (1, u "serialVersionUID"), (0, u "J"), (81, u "highestOneBit")] 49

def k8c0 : Code := { maxStack := 3, maxLocals := 1, code := jdk_33_method_45_code, exceptionTable := #[], attributes := #[] }
def k8m0 : Method := { name := "highestOneBit", desc := "(I)I", sig := { parameters := [.int], returnType := some .int }, accessFlags := 9, code := some k8c0 }
def k8c1 : Code := { maxStack := 3, maxLocals := 2, code := jdk_33_method_47_code, exceptionTable := #[], attributes := #[] }
def k8m1 : Method := { name := "numberOfLeadingZeros", desc := "(I)I", sig := { parameters := [.int], returnType := some .int }, accessFlags := 9, code := some k8c1 }
/-- java/lang/Integer -/
def k8 : Class := { plain "java/lang/Integer" (some 4) with
  accessFlags := 49
  interfaces := #[5, 6, 7]
  cf := some (fileOf pool8 1 #[.nestMembers #[189]] #[{ accessFlags := 9, nameIndex := 403, descriptorIndex := 54, attributes := #[] }, { accessFlags := 9, nameIndex := 53, descriptorIndex := 54, attributes := #[] }] 49 203 #[304, 306, 308] #[{ accessFlags := 25, nameIndex := 310, descriptorIndex := 194, attributes := #[] }, { accessFlags := 25, nameIndex := 312, descriptorIndex := 194, attributes := #[] }, { accessFlags := 25, nameIndex := 302, descriptorIndex := 303, attributes := #[] }, { accessFlags := 24, nameIndex := 19, descriptorIndex := 20, attributes := #[] }, { accessFlags := 24, nameIndex := 89, descriptorIndex := 86, attributes := #[] }, { accessFlags := 24, nameIndex := 85, descriptorIndex := 86, attributes := #[] }, { accessFlags := 18, nameIndex := 207, descriptorIndex := 194, attributes := #[] }, { accessFlags := 25, nameIndex := 316, descriptorIndex := 194, attributes := #[] }, { accessFlags := 25, nameIndex := 318, descriptorIndex := 194, attributes := #[] }, { accessFlags := 26, nameIndex := 320, descriptorIndex := 321, attributes := #[] }])
  fields := #[{ name := "MIN_VALUE", type := .int, accessFlags := 25, slot := 0, constantValue := 0 }, { name := "MAX_VALUE", type := .int, accessFlags := 25, slot := 1, constantValue := 0 }, { name := "TYPE", type := (.object "java/lang/Class"), accessFlags := 25, slot := 2, constantValue := 0 }, { name := "digits", type := (.array .char), accessFlags := 24, slot := 3, constantValue := 0 }, { name := "DigitTens", type := (.array .byte), accessFlags := 24, slot := 4, constantValue := 0 }, { name := "DigitOnes", type := (.array .byte), accessFlags := 24, slot := 5, constantValue := 0 }, { name := "value", type := .int, accessFlags := 18, slot := 0, constantValue := 0 }, { name := "SIZE", type := .int, accessFlags := 25, slot := 6, constantValue := 0 }, { name := "BYTES", type := .int, accessFlags := 25, slot := 7, constantValue := 0 }, { name := "serialVersionUID", type := .long, accessFlags := 26, slot := 8, constantValue := 0 }]
  methods := #[k8m0, k8m1]
  instanceTypes := #[.int]
  staticTypes := #[.int, .int, (.object "java/lang/Class"), (.array .char), (.array .byte), (.array .byte), .int, .int, .long]
  resolved := Array.replicate 453 none
  statics := none }

def pool9 : Array CpInfo := pool [(1, u "java/lang/Cloneable"), (0, .class_ 1), (0, u "java/lang/Object"), (0, .class_ 3)] 3

/-- java/lang/Cloneable -/
def k9 : Class := { plain "java/lang/Cloneable" (some 0) with
  accessFlags := 1537
  interfaces := #[]
  cf := some (fileOf pool9 2 #[] #[] 1537 4 #[] #[])
  fields := #[]
  methods := #[]
  instanceTypes := #[]
  staticTypes := #[]
  resolved := Array.replicate 8 none
  statics := none }

/-- the primitive byte -/
def k10 : Class := { plain "byte" none with kind := .primitive 'B', accessFlags := 0x411 }
/-- [B -/
def k11 : Class := { plain "[B" (some 0) with kind := .array 10 .byte, interfaces := #[9, 3], accessFlags := 1041 }

/-- the primitive int -/
def k12 : Class := { plain "int" none with kind := .primitive 'I', accessFlags := 0x411 }
/-- [I -/
def k13 : Class := { plain "[I" (some 0) with kind := .array 12 .int, interfaces := #[9, 3], accessFlags := 1041 }

def heap : Heap := #[]
def classes : Array Class := #[k0, k1, k2, k3, k4, k5, k6, k7, k8, k9, k10, k11, k12, k13]
def interned : List (Array UInt16 × Addr) := []
def slotsUsed : Nat := 0
def theMethod : MethodId := ⟨1, 1⟩
def args0 : Array Value := #[.int 5]
def aboutOver (below : List Frame) : State where
  vm := { classes := classes, interned := interned.toArray }
  heap := heap
  slotsUsed := slotsUsed
  threads := #[{ frames := .invoking theMethod args0 :: below }]
def below0 : List Frame := [.native { method := ⟨0, 0⟩, args := #[] }]
def about1 : State := aboutOver below0
def p0 : Program := .bare "" "" ""
def e0 : Env := launch0.env 0 0 0
theorem w_frames : about1.frames = Frame.invoking theMethod args0 :: below0 := rfl
set_option maxRecDepth 65536 in
theorem w_args : argsFit about1.vm theMethod args0 = true := by decide +kernel
set_option maxRecDepth 65536 in
theorem w_heap : heapFits about1 = true := by decide +kernel
set_option maxRecDepth 65536 in
theorem w_runnable : about1.curStatus? = some .runnable := by decide +kernel
set_option maxRecDepth 65536 in
theorem w_alone : about1.alone = true := by decide +kernel
set_option maxRecDepth 65536 in
theorem w_named : about1.methodNamed? x = some theMethod := by decide +kernel
set_option maxRecDepth 65536 in
theorem w_hears : about1.hears theMethod below0 = true := by decide +kernel
set_option maxRecDepth 65536 in
theorem w_ripe : about1.ripe theMethod args0 below0 = true := by decide +kernel
theorem w_running : about1.status = .running := rfl
set_option maxRecDepth 65536 in
theorem w_room : about1.hasRoom e0.platform room_1 = true :=
  launch0.hasRoom_least _ room_1 (by decide +kernel) (by decide +kernel) (by decide +kernel) (by decide +kernel) (by decide +kernel) (by decide +kernel)
theorem allAtoms_all (ts : List Jvm.Cond) (a : Array Jvm.Value) (st : Jvm.State) : (allAtoms ts).before a st = ts.all (fun c => c.before a st) := by
  induction ts with
  | nil => rfl
  | cons c t ih =>
    show (Jvm.Cond.and c (allAtoms t)).before a st = _
    rw [Jvm.Cond.before_and, ih, List.all_cons]
def words1 : List Jvm.Cond := Jvm.Cond.code x code maxLocals ret :: tables_1
/-- a 'code' word, met by the world's own term for the bytes: nothing is compared byte by byte -/
theorem code_word {y : MethodName} {bytes : ByteArray} {mx : Nat} {rt : Option FieldType} {a : Array Value} {s : State} {m : MethodId} {meth : Method} {c : Code} (h1 : s.methodNamed? y = some m) (h2 : s.vm.method? m = some meth) (h3 : meth.code = some c) (h4 : c.code = bytes)
    (h5 : (c.maxLocals == mx && c.exceptionTable.isEmpty && decide (c.maxStack ≤ mostOperands) && decide (meth.sig.returnType = rt) && !meth.locks && decide (parseMethodDescriptor y.desc = some meth.sig)) = true) : (Jvm.Cond.code y bytes mx rt).before a s = true := by
  simp only [Bool.and_eq_true, beq_iff_eq, Bool.not_eq_true', decide_eq_true_eq] at h5
  obtain ⟨⟨⟨⟨⟨g1, g2⟩, g3⟩, g4⟩, g5⟩, g6⟩ := h5
  simp [Cond.before, Cond.holds, Cond.value, h1, h2, h3, h4, g1, g2, g3, g4, g5, g6]
def isCode : Jvm.Cond → Bool
  | .code _ _ _ _ => true
  | _ => false
theorem all_split {L : List Jvm.Cond} {P : Jvm.Cond → Bool} (h1 : L.all (fun c => isCode c || P c) = true) (h2 : ∀ c ∈ L.filter isCode, P c = true) : L.all P = true := by
  refine List.all_eq_true.mpr fun c hc => ?_
  have h := List.all_eq_true.mp h1 c hc
  rcases Bool.eq_false_or_eq_true (isCode c) with hi | hi
  · exact h2 c (List.mem_filter.mpr ⟨hc, hi⟩)
  · simpa [hi] using h
set_option maxRecDepth 65536 in
theorem w_c0 : (Jvm.Cond.code x code maxLocals ret).before args0 about1 = true := code_word (m := ⟨1, 1⟩) (meth := k1m1) (c := k1c1) (by decide +kernel) rfl rfl rfl (by decide +kernel)
set_option maxRecDepth 65536 in
theorem w_c1 : (Jvm.Cond.code ({ cls := "com/example/stripeline/stripeline/Sizing", name := "stripeCount", desc := "(I)I" } : Jvm.MethodName) prog_6_method_4_code (1 : Nat) (Option.some Jvm.ClassFile.FieldType.int)).before args0 about1 = true := code_word (m := ⟨2, 1⟩) (meth := k2m1) (c := k2c1) (by decide +kernel) rfl rfl rfl (by decide +kernel)
set_option maxRecDepth 65536 in
theorem w_c2 : (Jvm.Cond.code ({ cls := "java/lang/Integer", name := "highestOneBit", desc := "(I)I" } : Jvm.MethodName) jdk_33_method_45_code (1 : Nat) (Option.some Jvm.ClassFile.FieldType.int)).before args0 about1 = true := code_word (m := ⟨8, 0⟩) (meth := k8m0) (c := k8c0) (by decide +kernel) rfl rfl rfl (by decide +kernel)
set_option maxRecDepth 65536 in
theorem w_c3 : (Jvm.Cond.code ({ cls := "java/lang/Integer", name := "numberOfLeadingZeros", desc := "(I)I" } : Jvm.MethodName) jdk_33_method_47_code (2 : Nat) (Option.some Jvm.ClassFile.FieldType.int)).before args0 about1 = true := code_word (m := ⟨8, 1⟩) (meth := k8m1) (c := k8c1) (by decide +kernel) rfl rfl rfl (by decide +kernel)
def codes1 : List Jvm.Cond := [Jvm.Cond.code x code maxLocals ret, Jvm.Cond.code ({ cls := "com/example/stripeline/stripeline/Sizing", name := "stripeCount", desc := "(I)I" } : Jvm.MethodName) prog_6_method_4_code (1 : Nat) (Option.some Jvm.ClassFile.FieldType.int), Jvm.Cond.code ({ cls := "java/lang/Integer", name := "highestOneBit", desc := "(I)I" } : Jvm.MethodName) jdk_33_method_45_code (1 : Nat) (Option.some Jvm.ClassFile.FieldType.int), Jvm.Cond.code ({ cls := "java/lang/Integer", name := "numberOfLeadingZeros", desc := "(I)I" } : Jvm.MethodName) jdk_33_method_47_code (2 : Nat) (Option.some Jvm.ClassFile.FieldType.int)]
set_option maxRecDepth 65536 in
theorem codes_eq : words1.filter isCode = codes1 := rfl
theorem w_codes : ∀ c ∈ words1.filter isCode, c.before args0 about1 = true := by
  rw [codes_eq]
  intro c hc
  simp only [codes1, List.mem_cons, List.not_mem_nil, or_false] at hc
  rcases hc with rfl | rfl | rfl | rfl
  · exact w_c0
  · exact w_c1
  · exact w_c2
  · exact w_c3
set_option maxRecDepth 65536 in
theorem w_t1 : words1.all (fun c => isCode c || c.before args0 about1) = true := by decide +kernel
theorem w_tables : (allAtoms (Jvm.Cond.code x code maxLocals ret :: tables_1)).before args0 about1 = true := by
  rw [allAtoms_all]
  show words1.all (fun c => c.before args0 about1) = true
  refine all_split ?_ w_codes
  rw [w_t1]
set_option maxRecDepth 65536 in
theorem w_case : (Jvm.Cond.and given_1 narrow_1).before args0 about1 = true := by decide +kernel
theorem w_applies : (headSpec (Jvm.Cond.code x code maxLocals ret :: tables_1) room_1).applies x e0.platform about1 = true :=
  (Spec.applies_iff w_frames).mpr ⟨w_running, w_runnable, w_alone, w_named, w_hears, w_ripe, w_room, w_tables⟩
theorem atStart : AtStart classFile x code maxLocals ret World_1 tables_1 room_1 Calls_1 rest_1 Pre_1 launch0 p0 e0 about1 theMethod args0 below0 :=
  ⟨lists_1, trivial, launch0.admits_env _ _ _, launch0.least_env, fairChoices_fair.cas, fairChoices_fair.clock, w_frames, w_args, w_heap, w_applies, trivial, trivial, w_case⟩
end start1
theorem witness_1 : WitnessClaimed_1 := ⟨start1.p0, start1.e0, start1.about1, start1.theMethod, start1.args0, start1.below0, start1.atStart⟩
end Jvm.Pilot.@@N@@
