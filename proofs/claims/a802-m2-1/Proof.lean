import JvmDerived
import JvmDerived.Pilot.@@N@@Statement
import JvmDerived.Pilot.@@N@@Code
set_option linter.unusedVariables false
set_option linter.unusedSimpArgs false
@@BLOCK:NumsL.lean.txt@@
namespace Jvm.Pilot.@@N@@
open Jvm Jvm.ClassFile Sem Op Lib Jvm.Free Jvm.Stand Jvm.LawKit Jvm.RoadKit Bundle Jvm.Pilot.@@N@@.Jvm.D
section Own
variable {p : Program} {l : Launch} {e : Env} {R : Room} {s Z : State} {m : MethodId} {args : Array Value} {below : List Frame} {meth : Method} {c : Code} {T : State} {locs : List Loc} {cells slots : Nat} {q : Option Value → Heap → List Loc → Prop}
/-- from U the run ends in a return, as q says -/
def own_Fin (p : Program) (e : Env) (below : List Frame) (s : State) (R : Room) (q : Option Value → Heap → List Loc → Prop) (U : State) : Prop :=
  ∃ s₂ o, Steps p.tables e below U s₂ ∧ s₂.status = .running ∧ Ended s₂ below o ∧ ∃ v L, o = .returned v ∧ q v s₂.heap L ∧ FrameEnd s o s₂ L R.cells R.slots
theorem own_to {U U' : State} (h : ∀ t, Steps p.tables e below U' t → Steps p.tables e below U t) (k : own_Fin p e below s R q U') : own_Fin p e below s R q U := by
  obtain ⟨s₂, o, h1, r⟩ := k
  exact ⟨s₂, o, h _ h1, r⟩
theorem own_ite {C : Prop} [Decidable C] {G : Int32 → State} {U : State} {v1 v0 : Int32} (k : own_Fin p e below s R q (G (if C then v1 else v0))) (h1 : C → own_Fin p e below s R q (G v1) → own_Fin p e below s R q U) (h0 : ¬ C → own_Fin p e below s R q (G v0) → own_Fin p e below s R q U) : own_Fin p e below s R q U := by
  by_cases h : C
  · rw [if_pos h] at k; exact h1 h k
  · rw [if_neg h] at k; exact h0 h k
theorem own_cut {U V : State} (k : own_Fin p e below s R q V) (h : own_Fin p e below s R q V → own_Fin p e below s R q U) : own_Fin p e below s R q U := h k
theorem own_retN (X : Stand p l e R s m args below meth c T locs cells slots) (hx : p.tables.exec = Jvm.exec) (hlk : meth.locks = false) {pc : Nat} {Ls : Array Slot} {z : Int32} {t : FieldType} {rest : List Value} (hret : meth.sig.returnType = some t) (ht : t = .boolean ∨ t = .byte ∨ t = .char ∨ t = .short) (hd : decode c.code pc = .ok (.ireturn, 1)) (hc : cells ≤ R.cells) (hs : slots ≤ R.slots) (hq : q (some (.int (nar t z))) T.heap locs) :
    own_Fin p e below s R q (T.setTop (mkF m pc Ls (.int z :: rest))) := by
  obtain ⟨fs, hr, hrun, hended, hW, hsame⟩ := X.leave (v := some (.int (nar t z))) (fun h => by rw [hret] at h; cases h)
  exact ⟨_, _, retN X hx hret ht hd hr, hrun, hended, _, _, rfl, hq, ⟨_, rfl⟩, hW, hsame.mono hc hs⟩
theorem own_retI (X : Stand p l e R s m args below meth c T locs cells slots) (hx : p.tables.exec = Jvm.exec) (hlk : meth.locks = false) {pc : Nat} {Ls : Array Slot} {z : Int32} {rest : List Value} (hret : meth.sig.returnType = some .int) (hd : decode c.code pc = .ok (.ireturn, 1)) (hc : cells ≤ R.cells) (hs : slots ≤ R.slots) (hq : q (some (.int z)) T.heap locs) :
    own_Fin p e below s R q (T.setTop (mkF m pc Ls (.int z :: rest))) := by
  obtain ⟨fs, hr, hrun, hended, hW, hsame⟩ := X.leave (v := some (.int z)) (fun h => by rw [hret] at h; cases h)
  exact ⟨_, _, retOut X hx hret rfl (Or.inl ⟨rfl, Or.inl rfl, z, rfl⟩) hd hr, hrun, hended, _, _, rfl, hq, ⟨_, rfl⟩, hW, hsame.mono hc hs⟩
theorem own_retJ (X : Stand p l e R s m args below meth c T locs cells slots) (hx : p.tables.exec = Jvm.exec) (hlk : meth.locks = false) {pc : Nat} {Ls : Array Slot} {z : Int64} {rest : List Value} (hret : meth.sig.returnType = some .long) (hd : decode c.code pc = .ok (.lreturn, 1)) (hc : cells ≤ R.cells) (hs : slots ≤ R.slots) (hq : q (some (.long z)) T.heap locs) :
    own_Fin p e below s R q (T.setTop (mkF m pc Ls (.long z :: rest))) := by
  obtain ⟨fs, hr, hrun, hended, hW, hsame⟩ := X.leave (v := some (.long z)) (fun h => by rw [hret] at h; cases h)
  exact ⟨_, _, retOut X hx hret rfl (Or.inr (Or.inl ⟨rfl, rfl, z, rfl⟩)) hd hr, hrun, hended, _, _, rfl, hq, ⟨_, rfl⟩, hW, hsame.mono hc hs⟩
theorem own_retR (X : Stand p l e R s m args below meth c T locs cells slots) (hx : p.tables.exec = Jvm.exec) (hlk : meth.locks = false) {pc : Nat} {Ls : Array Slot} {w : Value} {t : FieldType} {rest : List Value} (hret : meth.sig.returnType = some t) (ht : t.isReference = true) (hw : w.isRef = true) (hn : narrow t w = w) (hd : decode c.code pc = .ok (.areturn, 1)) (hc : cells ≤ R.cells) (hs : slots ≤ R.slots) (hq : q (some w) T.heap locs) :
    own_Fin p e below s R q (T.setTop (mkF m pc Ls (w :: rest))) := by
  obtain ⟨fs, hr, hrun, hended, hW, hsame⟩ := X.leave (v := some w) (fun h => by rw [hret] at h; cases h)
  exact ⟨_, _, retOut X hx hret hn (Or.inr (Or.inr (Or.inr (Or.inr ⟨rfl, ht, hw⟩)))) hd hr, hrun, hended, _, _, rfl, hq, ⟨_, rfl⟩, hW, hsame.mono hc hs⟩
theorem own_retV (X : Stand p l e R s m args below meth c T locs cells slots) (hx : p.tables.exec = Jvm.exec) (hlk : meth.locks = false) {pc : Nat} {Ls : Array Slot} (hret : meth.sig.returnType = none) (hd : decode c.code pc = .ok (.return_, 1)) (hc : cells ≤ R.cells) (hs : slots ≤ R.slots) (hq : q none T.heap locs) :
    own_Fin p e below s R q (T.setTop (mkF m pc Ls [])) := by
  obtain ⟨fs, hr, hrun, hended, hW, hsame⟩ := X.leave (v := none) (fun _ => rfl)
  exact ⟨_, _, X.returnOut hx hret hd hr, hrun, hended, _, _, rfl, hq, ⟨_, rfl⟩, hW, hsame.mono hc hs⟩
/-- the contract of a body at given arguments and a given heap -/
abbrev own_Met (l : Launch) (Z : State) (y : MethodName) (bytes : ByteArray) (maxL : Nat) (ret : Option FieldType) (ws : List Jvm.Cond) (rm : Room) (as' : Array Value) (h0 : Heap) (q : Option Value → Heap → List Loc → Prop) : Prop :=
  MetFree l y (head1 (Jvm.Cond.code y bytes maxL ret :: ws) rm) (fun a U => a = as' ∧ Z.Warmed39 U.vm ∧ U.heap = h0) (fun _ _ _ _ _ => True) (fun _ U o U' => ∃ v L, o = .returned v ∧ q v U'.heap L ∧ FrameEnd U o U' L rm.cells rm.slots)
theorem own_back {a0 : Array Value} {h : Heap} {y : MethodName} {bytes : ByteArray} {maxL : Nat} {ret : Option FieldType} {rm : Room} {len W : Nat} {as' : Array Value} (hM : own_Met l Z y bytes maxL ret [] rm as' h q)
    (hZ : Z.Warmed39 s.vm) (wc : (Jvm.Cond.code y bytes maxL ret).before a0 Z = true) (wz : (Jvm.Cond.initialized y.cls).before a0 Z = true) (hf : rm.frames + 1 ≤ R.frames) (hl : W + (maxL + 11) + rm.locals ≤ R.locals) :
    Back l R p e below s args y len W (fun A a => a = as' ∧ A.U.heap = h ∧ A.cells + rm.cells ≤ R.cells ∧ A.slots + rm.slots ≤ R.slots)
      (fun A _ v B => ∃ L, q v B.U.heap L ∧ B.locs = A.locs ++ L ∧ B.cells = A.cells + rm.cells ∧ B.slots = A.slots + rm.slots) := backOf (Q := q) hM hZ wc wz hf hl
theorem own_enter {y : MethodName} {bytes : ByteArray} {maxL : Nat} {ret : Option FieldType} {ws : List Jvm.Cond} {rm : Room} {as' : Array Value} {h0 : Heap} (hpl : plainFor y = true)
    (k : ∀ (p : Program) (e : Env) (s : State) (m : MethodId) (below : List Frame) (meth : Method) (c : Code) (s₁ : State), Stand p l e rm s m as' below meth c s₁ [] 0 0 → p.tables.exec = Jvm.exec → Z.Warmed39 s.vm → c.code = bytes → c.maxLocals = maxL → s.vm.findClass y.cls = some m.cls → meth.name = y.name → meth.sig.returnType = ret → meth.locks = false → s₁.heap = h0 → own_Fin p e below s rm q (s₁.setTop (entryFrame m as' maxL))) :
    own_Met l Z y bytes maxL ret ws rm as' h0 q := by
  refine MetFree.of_bodySF hpl hisR ?_
  intro p e s m args below meth c s₁ Bd hml0 hP hK
  obtain ⟨rfl, hZ, hh⟩ := hP
  exact k p e s m below meth c s₁ (Stand.of_body Bd) Bd.exec hZ Bd.bytes hml0 (findClass_of_methodNamed Bd.named) (name_of_methodNamed Bd.named Bd.method).1 Bd.returns Bd.notSynchronized (by rw [← hh, Bd.state]; rfl)
theorem own_selP {a : Array Value} {y y' : MethodName} (w : (Jvm.Cond.selects y'.cls y' y').before a s = true) (hc : y'.cls = y.cls) (hp : s.PrivateAt y) (hi : (Jvm.Cond.instanceMethod y).before a s = true) (hy : y.cls ≠ "java/lang/invoke/MethodHandle" ∧ y.cls ≠ "java/lang/invoke/VarHandle") : (Jvm.Cond.selects y.cls y y).before a s = true := by
  obtain ⟨c, r, m, h1, -, h3, -, mk, h4, h5⟩ := Cond.selects_spec w
  exact selects_self_of_private (c := m.cls) (k := mk) (hc ▸ findClass_of_methodNamed h3) h4 h5 hp hi hy
end Own
def own_is (p1 : Int32) : Int32 := (if p1 = (9 : Int32) then (1 : Int32) else (if p1 = (10 : Int32) then (1 : Int32) else (if p1 = (13 : Int32) then (1 : Int32) else (if p1 < (32 : Int32) then (if p1 < (57344 : Int32) then (if p1 < (65536 : Int32) then (0 : Int32) else (if (1114111 : Int32) < p1 then (0 : Int32) else (1 : Int32))) else (if (65533 : Int32) < p1 then (if p1 < (65536 : Int32) then (0 : Int32) else (if (1114111 : Int32) < p1 then (0 : Int32) else (1 : Int32))) else (1 : Int32))) else (if (55295 : Int32) < p1 then (if p1 < (57344 : Int32) then (if p1 < (65536 : Int32) then (0 : Int32) else (if (1114111 : Int32) < p1 then (0 : Int32) else (1 : Int32))) else (if (65533 : Int32) < p1 then (if p1 < (65536 : Int32) then (0 : Int32) else (if (1114111 : Int32) < p1 then (0 : Int32) else (1 : Int32))) else (1 : Int32))) else (1 : Int32))))))
theorem own_d1_0 : decode prog_146_method_16_code 0 = .ok (.iload_n 0, 1) := by decide +kernel
theorem own_d1_1 : decode prog_146_method_16_code 1 = .ok (.bipush 9, 2) := by decide +kernel
theorem own_d1_3 : decode prog_146_method_16_code 3 = .ok (.if_icmp .eq 51, 3) := by decide +kernel
theorem own_d1_6 : decode prog_146_method_16_code 6 = .ok (.iload_n 0, 1) := by decide +kernel
theorem own_d1_7 : decode prog_146_method_16_code 7 = .ok (.bipush 10, 2) := by decide +kernel
theorem own_d1_9 : decode prog_146_method_16_code 9 = .ok (.if_icmp .eq 45, 3) := by decide +kernel
theorem own_d1_12 : decode prog_146_method_16_code 12 = .ok (.iload_n 0, 1) := by decide +kernel
theorem own_d1_13 : decode prog_146_method_16_code 13 = .ok (.bipush 13, 2) := by decide +kernel
theorem own_d1_15 : decode prog_146_method_16_code 15 = .ok (.if_icmp .eq 39, 3) := by decide +kernel
theorem own_d1_18 : decode prog_146_method_16_code 18 = .ok (.iload_n 0, 1) := by decide +kernel
theorem own_d1_19 : decode prog_146_method_16_code 19 = .ok (.bipush 32, 2) := by decide +kernel
theorem own_d1_21 : decode prog_146_method_16_code 21 = .ok (.if_icmp .lt 9, 3) := by decide +kernel
theorem own_d1_24 : decode prog_146_method_16_code 24 = .ok (.iload_n 0, 1) := by decide +kernel
theorem own_d1_25 : decode prog_146_method_16_code 25 = .ok (.ldc 63, 2) := by decide +kernel
theorem own_d1_27 : decode prog_146_method_16_code 27 = .ok (.if_icmp .le 27, 3) := by decide +kernel
theorem own_d1_30 : decode prog_146_method_16_code 30 = .ok (.iload_n 0, 1) := by decide +kernel
theorem own_d1_31 : decode prog_146_method_16_code 31 = .ok (.ldc 96, 2) := by decide +kernel
theorem own_d1_33 : decode prog_146_method_16_code 33 = .ok (.if_icmp .lt 9, 3) := by decide +kernel
theorem own_d1_36 : decode prog_146_method_16_code 36 = .ok (.iload_n 0, 1) := by decide +kernel
theorem own_d1_37 : decode prog_146_method_16_code 37 = .ok (.ldc 67, 2) := by decide +kernel
theorem own_d1_39 : decode prog_146_method_16_code 39 = .ok (.if_icmp .le 15, 3) := by decide +kernel
theorem own_d1_42 : decode prog_146_method_16_code 42 = .ok (.iload_n 0, 1) := by decide +kernel
theorem own_d1_43 : decode prog_146_method_16_code 43 = .ok (.ldc 68, 2) := by decide +kernel
theorem own_d1_45 : decode prog_146_method_16_code 45 = .ok (.if_icmp .lt 13, 3) := by decide +kernel
theorem own_d1_48 : decode prog_146_method_16_code 48 = .ok (.iload_n 0, 1) := by decide +kernel
theorem own_d1_49 : decode prog_146_method_16_code 49 = .ok (.ldc 97, 2) := by decide +kernel
theorem own_d1_51 : decode prog_146_method_16_code 51 = .ok (.if_icmp .gt 7, 3) := by decide +kernel
theorem own_d1_54 : decode prog_146_method_16_code 54 = .ok (.iconst 1, 1) := by decide +kernel
theorem own_d1_55 : decode prog_146_method_16_code 55 = .ok (.goto 4, 3) := by decide +kernel
theorem own_d1_58 : decode prog_146_method_16_code 58 = .ok (.iconst 0, 1) := by decide +kernel
theorem own_d1_59 : decode prog_146_method_16_code 59 = .ok (.ireturn, 1) := by decide +kernel
theorem own_pn0 : plainName "com/example/libxqtype/libxqtype/XmlCharacters" = true := by first | (simp [plainName, overriddenIn]; done) | decide +kernel
theorem own_rm1_ef (m : MethodId) (p1 : Int32) : entryFrame m #[(.int p1)] 1 = mkF m 0 #[.val (.int p1)] [] := by first | (simp [entryFrame, mkF, argsToLocals, Value.category]; done) | rfl
set_option maxRecDepth 65536 in
set_option maxHeartbeats 40000000 in
theorem own_rm1 (l : Launch) (Z : State) (a0 : Array Value) (hw : ∀ d ∈ tables_1, d.before a0 Z = true) (ws : List Jvm.Cond) (p1 : Int32) (h0 : Heap) (n0 : Nat) (Z0 : n0 ≤ h0.size) :
    own_Met l Z (⟨"com/example/libxqtype/libxqtype/XmlCharacters", "isChar", "(I)Z"⟩ : MethodName) prog_146_method_16_code 1 (some .boolean) ws ({ frames := 0, cells := 0, slots := 0, locals := 0 } : Room) #[(.int p1)] h0 (fun v h L => v = some (.int (own_is p1)) ∧ Fr n0 L ∧ h = h0) := by
  refine own_enter (plainFor_of_name own_pn0) ?_
  intro p e s m below meth c s₁ X0 hx hZ hby hml hown hnm hret hlk e0
  have N0 := Fr.nil n0
  rw [own_rm1_ef m p1]
  show own_Fin _ _ _ _ _ _ (s₁.setTop (mkF m 0 #[.val (.int p1)] []))
  refine own_to (fun t k => XS.iloadN X0.here hx rfl (hb hby own_d1_0) rfl k) ?_
  show own_Fin _ _ _ _ _ _ (s₁.setTop (mkF m 1 #[.val (.int p1)] [(.int p1)]))
  refine own_to (fun t k => XS.bipush X0.here hx rfl (hb hby own_d1_1) k) ?_
  show own_Fin _ _ _ _ _ _ (s₁.setTop (mkF m 3 #[.val (.int p1)] [(.int (9 : Int32)), (.int p1)]))
  by_cases hc3_1 : p1 = (9 : Int32)
  ·
    show own_Fin _ _ _ _ _ _ (s₁.setTop (mkF m 3 #[.val (.int p1)] [(.int (9 : Int32)), (.int p1)]))
    refine own_to (fun t k => XS.icmpYes X0.here hx rfl (pc0 := 3) (pc' := 54) rfl (hb hby own_d1_3) rfl (teq hc3_1).1 (by decide) (by decide) k) ?_
    show own_Fin _ _ _ _ _ _ (s₁.setTop (mkF m 54 #[.val (.int p1)] []))
    refine own_to (fun t k => XS.iconst X0.here hx rfl (hb hby own_d1_54) k) ?_
    show own_Fin _ _ _ _ _ _ (s₁.setTop (mkF m 55 #[.val (.int p1)] [(.int (1 : Int32))]))
    refine own_to (fun t k => XS.goto X0.here hx rfl (pc0 := 55) (pc' := 59) rfl (hb hby own_d1_55) (by decide) (by decide) k) ?_
    show own_Fin _ _ _ _ _ _ (s₁.setTop (mkF m 59 #[.val (.int p1)] [(.int (1 : Int32))]))
    refine own_retN X0 hx hlk (t := .boolean) hret (by simp) (hb hby own_d1_59) (by decide) (by decide) ?_
    try rw [e0]
    exact ⟨congrArg (fun z => some (Value.int z)) (Eq.symm (show own_is p1 = _ from ((if_pos hc3_1).trans rfl))), N0, rfl⟩
  ·
    show own_Fin _ _ _ _ _ _ (s₁.setTop (mkF m 3 #[.val (.int p1)] [(.int (9 : Int32)), (.int p1)]))
    refine own_to (fun t k => XS.icmpNo X0.here hx rfl (hb hby own_d1_3) rfl (feq hc3_1).1 k) ?_
    show own_Fin _ _ _ _ _ _ (s₁.setTop (mkF m 6 #[.val (.int p1)] []))
    refine own_to (fun t k => XS.iloadN X0.here hx rfl (hb hby own_d1_6) rfl k) ?_
    show own_Fin _ _ _ _ _ _ (s₁.setTop (mkF m 7 #[.val (.int p1)] [(.int p1)]))
    refine own_to (fun t k => XS.bipush X0.here hx rfl (hb hby own_d1_7) k) ?_
    show own_Fin _ _ _ _ _ _ (s₁.setTop (mkF m 9 #[.val (.int p1)] [(.int (10 : Int32)), (.int p1)]))
    by_cases hc9_2 : p1 = (10 : Int32)
    ·
      show own_Fin _ _ _ _ _ _ (s₁.setTop (mkF m 9 #[.val (.int p1)] [(.int (10 : Int32)), (.int p1)]))
      refine own_to (fun t k => XS.icmpYes X0.here hx rfl (pc0 := 9) (pc' := 54) rfl (hb hby own_d1_9) rfl (teq hc9_2).1 (by decide) (by decide) k) ?_
      show own_Fin _ _ _ _ _ _ (s₁.setTop (mkF m 54 #[.val (.int p1)] []))
      refine own_to (fun t k => XS.iconst X0.here hx rfl (hb hby own_d1_54) k) ?_
      show own_Fin _ _ _ _ _ _ (s₁.setTop (mkF m 55 #[.val (.int p1)] [(.int (1 : Int32))]))
      refine own_to (fun t k => XS.goto X0.here hx rfl (pc0 := 55) (pc' := 59) rfl (hb hby own_d1_55) (by decide) (by decide) k) ?_
      show own_Fin _ _ _ _ _ _ (s₁.setTop (mkF m 59 #[.val (.int p1)] [(.int (1 : Int32))]))
      refine own_retN X0 hx hlk (t := .boolean) hret (by simp) (hb hby own_d1_59) (by decide) (by decide) ?_
      try rw [e0]
      exact ⟨congrArg (fun z => some (Value.int z)) (Eq.symm (show own_is p1 = _ from ((if_neg hc3_1).trans ((if_pos hc9_2).trans rfl)))), N0, rfl⟩
    ·
      show own_Fin _ _ _ _ _ _ (s₁.setTop (mkF m 9 #[.val (.int p1)] [(.int (10 : Int32)), (.int p1)]))
      refine own_to (fun t k => XS.icmpNo X0.here hx rfl (hb hby own_d1_9) rfl (feq hc9_2).1 k) ?_
      show own_Fin _ _ _ _ _ _ (s₁.setTop (mkF m 12 #[.val (.int p1)] []))
      refine own_to (fun t k => XS.iloadN X0.here hx rfl (hb hby own_d1_12) rfl k) ?_
      show own_Fin _ _ _ _ _ _ (s₁.setTop (mkF m 13 #[.val (.int p1)] [(.int p1)]))
      refine own_to (fun t k => XS.bipush X0.here hx rfl (hb hby own_d1_13) k) ?_
      show own_Fin _ _ _ _ _ _ (s₁.setTop (mkF m 15 #[.val (.int p1)] [(.int (13 : Int32)), (.int p1)]))
      by_cases hc15_3 : p1 = (13 : Int32)
      ·
        show own_Fin _ _ _ _ _ _ (s₁.setTop (mkF m 15 #[.val (.int p1)] [(.int (13 : Int32)), (.int p1)]))
        refine own_to (fun t k => XS.icmpYes X0.here hx rfl (pc0 := 15) (pc' := 54) rfl (hb hby own_d1_15) rfl (teq hc15_3).1 (by decide) (by decide) k) ?_
        show own_Fin _ _ _ _ _ _ (s₁.setTop (mkF m 54 #[.val (.int p1)] []))
        refine own_to (fun t k => XS.iconst X0.here hx rfl (hb hby own_d1_54) k) ?_
        show own_Fin _ _ _ _ _ _ (s₁.setTop (mkF m 55 #[.val (.int p1)] [(.int (1 : Int32))]))
        refine own_to (fun t k => XS.goto X0.here hx rfl (pc0 := 55) (pc' := 59) rfl (hb hby own_d1_55) (by decide) (by decide) k) ?_
        show own_Fin _ _ _ _ _ _ (s₁.setTop (mkF m 59 #[.val (.int p1)] [(.int (1 : Int32))]))
        refine own_retN X0 hx hlk (t := .boolean) hret (by simp) (hb hby own_d1_59) (by decide) (by decide) ?_
        try rw [e0]
        exact ⟨congrArg (fun z => some (Value.int z)) (Eq.symm (show own_is p1 = _ from ((if_neg hc3_1).trans ((if_neg hc9_2).trans ((if_pos hc15_3).trans rfl))))), N0, rfl⟩
      ·
        show own_Fin _ _ _ _ _ _ (s₁.setTop (mkF m 15 #[.val (.int p1)] [(.int (13 : Int32)), (.int p1)]))
        refine own_to (fun t k => XS.icmpNo X0.here hx rfl (hb hby own_d1_15) rfl (feq hc15_3).1 k) ?_
        show own_Fin _ _ _ _ _ _ (s₁.setTop (mkF m 18 #[.val (.int p1)] []))
        refine own_to (fun t k => XS.iloadN X0.here hx rfl (hb hby own_d1_18) rfl k) ?_
        show own_Fin _ _ _ _ _ _ (s₁.setTop (mkF m 19 #[.val (.int p1)] [(.int p1)]))
        refine own_to (fun t k => XS.bipush X0.here hx rfl (hb hby own_d1_19) k) ?_
        show own_Fin _ _ _ _ _ _ (s₁.setTop (mkF m 21 #[.val (.int p1)] [(.int (32 : Int32)), (.int p1)]))
        by_cases hc21_4 : p1 < (32 : Int32)
        ·
          show own_Fin _ _ _ _ _ _ (s₁.setTop (mkF m 21 #[.val (.int p1)] [(.int (32 : Int32)), (.int p1)]))
          refine own_to (fun t k => XS.icmpYes X0.here hx rfl (pc0 := 21) (pc' := 30) rfl (hb hby own_d1_21) rfl (tlt hc21_4).1 (by decide) (by decide) k) ?_
          show own_Fin _ _ _ _ _ _ (s₁.setTop (mkF m 30 #[.val (.int p1)] []))
          refine own_to (fun t k => XS.iloadN X0.here hx rfl (hb hby own_d1_30) rfl k) ?_
          show own_Fin _ _ _ _ _ _ (s₁.setTop (mkF m 31 #[.val (.int p1)] [(.int p1)]))
          refine own_to (fun t k => X0.ldcInt hx hown (mvT hZ (hw _ (List.mem_of_getElem? (i := 11) rfl))) (g := (mkF m 31 #[.val (.int p1)] [(.int p1)])) rfl (hb hby own_d1_31) _ k) ?_
          show own_Fin _ _ _ _ _ _ (s₁.setTop (mkF m 33 #[.val (.int p1)] [(.int (57344 : Int32)), (.int p1)]))
          by_cases hc33_5 : p1 < (57344 : Int32)
          ·
            show own_Fin _ _ _ _ _ _ (s₁.setTop (mkF m 33 #[.val (.int p1)] [(.int (57344 : Int32)), (.int p1)]))
            refine own_to (fun t k => XS.icmpYes X0.here hx rfl (pc0 := 33) (pc' := 42) rfl (hb hby own_d1_33) rfl (tlt hc33_5).1 (by decide) (by decide) k) ?_
            show own_Fin _ _ _ _ _ _ (s₁.setTop (mkF m 42 #[.val (.int p1)] []))
            refine own_to (fun t k => XS.iloadN X0.here hx rfl (hb hby own_d1_42) rfl k) ?_
            show own_Fin _ _ _ _ _ _ (s₁.setTop (mkF m 43 #[.val (.int p1)] [(.int p1)]))
            refine own_to (fun t k => X0.ldcInt hx hown (mvT hZ (hw _ (List.mem_of_getElem? (i := 12) rfl))) (g := (mkF m 43 #[.val (.int p1)] [(.int p1)])) rfl (hb hby own_d1_43) _ k) ?_
            show own_Fin _ _ _ _ _ _ (s₁.setTop (mkF m 45 #[.val (.int p1)] [(.int (65536 : Int32)), (.int p1)]))
            by_cases hc45_6 : p1 < (65536 : Int32)
            ·
              show own_Fin _ _ _ _ _ _ (s₁.setTop (mkF m 45 #[.val (.int p1)] [(.int (65536 : Int32)), (.int p1)]))
              refine own_to (fun t k => XS.icmpYes X0.here hx rfl (pc0 := 45) (pc' := 58) rfl (hb hby own_d1_45) rfl (tlt hc45_6).1 (by decide) (by decide) k) ?_
              show own_Fin _ _ _ _ _ _ (s₁.setTop (mkF m 58 #[.val (.int p1)] []))
              refine own_to (fun t k => XS.iconst X0.here hx rfl (hb hby own_d1_58) k) ?_
              show own_Fin _ _ _ _ _ _ (s₁.setTop (mkF m 59 #[.val (.int p1)] [(.int (0 : Int32))]))
              refine own_retN X0 hx hlk (t := .boolean) hret (by simp) (hb hby own_d1_59) (by decide) (by decide) ?_
              try rw [e0]
              exact ⟨congrArg (fun z => some (Value.int z)) (Eq.symm (show own_is p1 = _ from ((if_neg hc3_1).trans ((if_neg hc9_2).trans ((if_neg hc15_3).trans ((if_pos hc21_4).trans ((if_pos hc33_5).trans ((if_pos hc45_6).trans rfl)))))))), N0, rfl⟩
            ·
              show own_Fin _ _ _ _ _ _ (s₁.setTop (mkF m 45 #[.val (.int p1)] [(.int (65536 : Int32)), (.int p1)]))
              refine own_to (fun t k => XS.icmpNo X0.here hx rfl (hb hby own_d1_45) rfl (flt hc45_6).1 k) ?_
              show own_Fin _ _ _ _ _ _ (s₁.setTop (mkF m 48 #[.val (.int p1)] []))
              refine own_to (fun t k => XS.iloadN X0.here hx rfl (hb hby own_d1_48) rfl k) ?_
              show own_Fin _ _ _ _ _ _ (s₁.setTop (mkF m 49 #[.val (.int p1)] [(.int p1)]))
              refine own_to (fun t k => X0.ldcInt hx hown (mvT hZ (hw _ (List.mem_of_getElem? (i := 19) rfl))) (g := (mkF m 49 #[.val (.int p1)] [(.int p1)])) rfl (hb hby own_d1_49) _ k) ?_
              show own_Fin _ _ _ _ _ _ (s₁.setTop (mkF m 51 #[.val (.int p1)] [(.int (1114111 : Int32)), (.int p1)]))
              by_cases hc51_7 : (1114111 : Int32) < p1
              ·
                show own_Fin _ _ _ _ _ _ (s₁.setTop (mkF m 51 #[.val (.int p1)] [(.int (1114111 : Int32)), (.int p1)]))
                refine own_to (fun t k => XS.icmpYes X0.here hx rfl (pc0 := 51) (pc' := 58) rfl (hb hby own_d1_51) rfl (tlt hc51_7).2.2.1 (by decide) (by decide) k) ?_
                show own_Fin _ _ _ _ _ _ (s₁.setTop (mkF m 58 #[.val (.int p1)] []))
                refine own_to (fun t k => XS.iconst X0.here hx rfl (hb hby own_d1_58) k) ?_
                show own_Fin _ _ _ _ _ _ (s₁.setTop (mkF m 59 #[.val (.int p1)] [(.int (0 : Int32))]))
                refine own_retN X0 hx hlk (t := .boolean) hret (by simp) (hb hby own_d1_59) (by decide) (by decide) ?_
                try rw [e0]
                exact ⟨congrArg (fun z => some (Value.int z)) (Eq.symm (show own_is p1 = _ from ((if_neg hc3_1).trans ((if_neg hc9_2).trans ((if_neg hc15_3).trans ((if_pos hc21_4).trans ((if_pos hc33_5).trans ((if_neg hc45_6).trans ((if_pos hc51_7).trans rfl))))))))), N0, rfl⟩
              ·
                show own_Fin _ _ _ _ _ _ (s₁.setTop (mkF m 51 #[.val (.int p1)] [(.int (1114111 : Int32)), (.int p1)]))
                refine own_to (fun t k => XS.icmpNo X0.here hx rfl (hb hby own_d1_51) rfl (flt hc51_7).2.2.1 k) ?_
                show own_Fin _ _ _ _ _ _ (s₁.setTop (mkF m 54 #[.val (.int p1)] []))
                refine own_to (fun t k => XS.iconst X0.here hx rfl (hb hby own_d1_54) k) ?_
                show own_Fin _ _ _ _ _ _ (s₁.setTop (mkF m 55 #[.val (.int p1)] [(.int (1 : Int32))]))
                refine own_to (fun t k => XS.goto X0.here hx rfl (pc0 := 55) (pc' := 59) rfl (hb hby own_d1_55) (by decide) (by decide) k) ?_
                show own_Fin _ _ _ _ _ _ (s₁.setTop (mkF m 59 #[.val (.int p1)] [(.int (1 : Int32))]))
                refine own_retN X0 hx hlk (t := .boolean) hret (by simp) (hb hby own_d1_59) (by decide) (by decide) ?_
                try rw [e0]
                exact ⟨congrArg (fun z => some (Value.int z)) (Eq.symm (show own_is p1 = _ from ((if_neg hc3_1).trans ((if_neg hc9_2).trans ((if_neg hc15_3).trans ((if_pos hc21_4).trans ((if_pos hc33_5).trans ((if_neg hc45_6).trans ((if_neg hc51_7).trans rfl))))))))), N0, rfl⟩
          ·
            show own_Fin _ _ _ _ _ _ (s₁.setTop (mkF m 33 #[.val (.int p1)] [(.int (57344 : Int32)), (.int p1)]))
            refine own_to (fun t k => XS.icmpNo X0.here hx rfl (hb hby own_d1_33) rfl (flt hc33_5).1 k) ?_
            show own_Fin _ _ _ _ _ _ (s₁.setTop (mkF m 36 #[.val (.int p1)] []))
            refine own_to (fun t k => XS.iloadN X0.here hx rfl (hb hby own_d1_36) rfl k) ?_
            show own_Fin _ _ _ _ _ _ (s₁.setTop (mkF m 37 #[.val (.int p1)] [(.int p1)]))
            refine own_to (fun t k => X0.ldcInt hx hown (mvT hZ (hw _ (List.mem_of_getElem? (i := 18) rfl))) (g := (mkF m 37 #[.val (.int p1)] [(.int p1)])) rfl (hb hby own_d1_37) _ k) ?_
            show own_Fin _ _ _ _ _ _ (s₁.setTop (mkF m 39 #[.val (.int p1)] [(.int (65533 : Int32)), (.int p1)]))
            by_cases hc39_8 : (65533 : Int32) < p1
            ·
              show own_Fin _ _ _ _ _ _ (s₁.setTop (mkF m 39 #[.val (.int p1)] [(.int (65533 : Int32)), (.int p1)]))
              refine own_to (fun t k => XS.icmpNo X0.here hx rfl (hb hby own_d1_39) rfl (tlt hc39_8).2.2.2 k) ?_
              show own_Fin _ _ _ _ _ _ (s₁.setTop (mkF m 42 #[.val (.int p1)] []))
              refine own_to (fun t k => XS.iloadN X0.here hx rfl (hb hby own_d1_42) rfl k) ?_
              show own_Fin _ _ _ _ _ _ (s₁.setTop (mkF m 43 #[.val (.int p1)] [(.int p1)]))
              refine own_to (fun t k => X0.ldcInt hx hown (mvT hZ (hw _ (List.mem_of_getElem? (i := 12) rfl))) (g := (mkF m 43 #[.val (.int p1)] [(.int p1)])) rfl (hb hby own_d1_43) _ k) ?_
              show own_Fin _ _ _ _ _ _ (s₁.setTop (mkF m 45 #[.val (.int p1)] [(.int (65536 : Int32)), (.int p1)]))
              by_cases hc45_9 : p1 < (65536 : Int32)
              ·
                show own_Fin _ _ _ _ _ _ (s₁.setTop (mkF m 45 #[.val (.int p1)] [(.int (65536 : Int32)), (.int p1)]))
                refine own_to (fun t k => XS.icmpYes X0.here hx rfl (pc0 := 45) (pc' := 58) rfl (hb hby own_d1_45) rfl (tlt hc45_9).1 (by decide) (by decide) k) ?_
                show own_Fin _ _ _ _ _ _ (s₁.setTop (mkF m 58 #[.val (.int p1)] []))
                refine own_to (fun t k => XS.iconst X0.here hx rfl (hb hby own_d1_58) k) ?_
                show own_Fin _ _ _ _ _ _ (s₁.setTop (mkF m 59 #[.val (.int p1)] [(.int (0 : Int32))]))
                refine own_retN X0 hx hlk (t := .boolean) hret (by simp) (hb hby own_d1_59) (by decide) (by decide) ?_
                try rw [e0]
                exact ⟨congrArg (fun z => some (Value.int z)) (Eq.symm (show own_is p1 = _ from ((if_neg hc3_1).trans ((if_neg hc9_2).trans ((if_neg hc15_3).trans ((if_pos hc21_4).trans ((if_neg hc33_5).trans ((if_pos hc39_8).trans ((if_pos hc45_9).trans rfl))))))))), N0, rfl⟩
              ·
                show own_Fin _ _ _ _ _ _ (s₁.setTop (mkF m 45 #[.val (.int p1)] [(.int (65536 : Int32)), (.int p1)]))
                refine own_to (fun t k => XS.icmpNo X0.here hx rfl (hb hby own_d1_45) rfl (flt hc45_9).1 k) ?_
                show own_Fin _ _ _ _ _ _ (s₁.setTop (mkF m 48 #[.val (.int p1)] []))
                refine own_to (fun t k => XS.iloadN X0.here hx rfl (hb hby own_d1_48) rfl k) ?_
                show own_Fin _ _ _ _ _ _ (s₁.setTop (mkF m 49 #[.val (.int p1)] [(.int p1)]))
                refine own_to (fun t k => X0.ldcInt hx hown (mvT hZ (hw _ (List.mem_of_getElem? (i := 19) rfl))) (g := (mkF m 49 #[.val (.int p1)] [(.int p1)])) rfl (hb hby own_d1_49) _ k) ?_
                show own_Fin _ _ _ _ _ _ (s₁.setTop (mkF m 51 #[.val (.int p1)] [(.int (1114111 : Int32)), (.int p1)]))
                by_cases hc51_10 : (1114111 : Int32) < p1
                ·
                  show own_Fin _ _ _ _ _ _ (s₁.setTop (mkF m 51 #[.val (.int p1)] [(.int (1114111 : Int32)), (.int p1)]))
                  refine own_to (fun t k => XS.icmpYes X0.here hx rfl (pc0 := 51) (pc' := 58) rfl (hb hby own_d1_51) rfl (tlt hc51_10).2.2.1 (by decide) (by decide) k) ?_
                  show own_Fin _ _ _ _ _ _ (s₁.setTop (mkF m 58 #[.val (.int p1)] []))
                  refine own_to (fun t k => XS.iconst X0.here hx rfl (hb hby own_d1_58) k) ?_
                  show own_Fin _ _ _ _ _ _ (s₁.setTop (mkF m 59 #[.val (.int p1)] [(.int (0 : Int32))]))
                  refine own_retN X0 hx hlk (t := .boolean) hret (by simp) (hb hby own_d1_59) (by decide) (by decide) ?_
                  try rw [e0]
                  exact ⟨congrArg (fun z => some (Value.int z)) (Eq.symm (show own_is p1 = _ from ((if_neg hc3_1).trans ((if_neg hc9_2).trans ((if_neg hc15_3).trans ((if_pos hc21_4).trans ((if_neg hc33_5).trans ((if_pos hc39_8).trans ((if_neg hc45_9).trans ((if_pos hc51_10).trans rfl)))))))))), N0, rfl⟩
                ·
                  show own_Fin _ _ _ _ _ _ (s₁.setTop (mkF m 51 #[.val (.int p1)] [(.int (1114111 : Int32)), (.int p1)]))
                  refine own_to (fun t k => XS.icmpNo X0.here hx rfl (hb hby own_d1_51) rfl (flt hc51_10).2.2.1 k) ?_
                  show own_Fin _ _ _ _ _ _ (s₁.setTop (mkF m 54 #[.val (.int p1)] []))
                  refine own_to (fun t k => XS.iconst X0.here hx rfl (hb hby own_d1_54) k) ?_
                  show own_Fin _ _ _ _ _ _ (s₁.setTop (mkF m 55 #[.val (.int p1)] [(.int (1 : Int32))]))
                  refine own_to (fun t k => XS.goto X0.here hx rfl (pc0 := 55) (pc' := 59) rfl (hb hby own_d1_55) (by decide) (by decide) k) ?_
                  show own_Fin _ _ _ _ _ _ (s₁.setTop (mkF m 59 #[.val (.int p1)] [(.int (1 : Int32))]))
                  refine own_retN X0 hx hlk (t := .boolean) hret (by simp) (hb hby own_d1_59) (by decide) (by decide) ?_
                  try rw [e0]
                  exact ⟨congrArg (fun z => some (Value.int z)) (Eq.symm (show own_is p1 = _ from ((if_neg hc3_1).trans ((if_neg hc9_2).trans ((if_neg hc15_3).trans ((if_pos hc21_4).trans ((if_neg hc33_5).trans ((if_pos hc39_8).trans ((if_neg hc45_9).trans ((if_neg hc51_10).trans rfl)))))))))), N0, rfl⟩
            ·
              show own_Fin _ _ _ _ _ _ (s₁.setTop (mkF m 39 #[.val (.int p1)] [(.int (65533 : Int32)), (.int p1)]))
              refine own_to (fun t k => XS.icmpYes X0.here hx rfl (pc0 := 39) (pc' := 54) rfl (hb hby own_d1_39) rfl (flt hc39_8).2.2.2 (by decide) (by decide) k) ?_
              show own_Fin _ _ _ _ _ _ (s₁.setTop (mkF m 54 #[.val (.int p1)] []))
              refine own_to (fun t k => XS.iconst X0.here hx rfl (hb hby own_d1_54) k) ?_
              show own_Fin _ _ _ _ _ _ (s₁.setTop (mkF m 55 #[.val (.int p1)] [(.int (1 : Int32))]))
              refine own_to (fun t k => XS.goto X0.here hx rfl (pc0 := 55) (pc' := 59) rfl (hb hby own_d1_55) (by decide) (by decide) k) ?_
              show own_Fin _ _ _ _ _ _ (s₁.setTop (mkF m 59 #[.val (.int p1)] [(.int (1 : Int32))]))
              refine own_retN X0 hx hlk (t := .boolean) hret (by simp) (hb hby own_d1_59) (by decide) (by decide) ?_
              try rw [e0]
              exact ⟨congrArg (fun z => some (Value.int z)) (Eq.symm (show own_is p1 = _ from ((if_neg hc3_1).trans ((if_neg hc9_2).trans ((if_neg hc15_3).trans ((if_pos hc21_4).trans ((if_neg hc33_5).trans ((if_neg hc39_8).trans rfl)))))))), N0, rfl⟩
        ·
          show own_Fin _ _ _ _ _ _ (s₁.setTop (mkF m 21 #[.val (.int p1)] [(.int (32 : Int32)), (.int p1)]))
          refine own_to (fun t k => XS.icmpNo X0.here hx rfl (hb hby own_d1_21) rfl (flt hc21_4).1 k) ?_
          show own_Fin _ _ _ _ _ _ (s₁.setTop (mkF m 24 #[.val (.int p1)] []))
          refine own_to (fun t k => XS.iloadN X0.here hx rfl (hb hby own_d1_24) rfl k) ?_
          show own_Fin _ _ _ _ _ _ (s₁.setTop (mkF m 25 #[.val (.int p1)] [(.int p1)]))
          refine own_to (fun t k => X0.ldcInt hx hown (mvT hZ (hw _ (List.mem_of_getElem? (i := 17) rfl))) (g := (mkF m 25 #[.val (.int p1)] [(.int p1)])) rfl (hb hby own_d1_25) _ k) ?_
          show own_Fin _ _ _ _ _ _ (s₁.setTop (mkF m 27 #[.val (.int p1)] [(.int (55295 : Int32)), (.int p1)]))
          by_cases hc27_11 : (55295 : Int32) < p1
          ·
            show own_Fin _ _ _ _ _ _ (s₁.setTop (mkF m 27 #[.val (.int p1)] [(.int (55295 : Int32)), (.int p1)]))
            refine own_to (fun t k => XS.icmpNo X0.here hx rfl (hb hby own_d1_27) rfl (tlt hc27_11).2.2.2 k) ?_
            show own_Fin _ _ _ _ _ _ (s₁.setTop (mkF m 30 #[.val (.int p1)] []))
            refine own_to (fun t k => XS.iloadN X0.here hx rfl (hb hby own_d1_30) rfl k) ?_
            show own_Fin _ _ _ _ _ _ (s₁.setTop (mkF m 31 #[.val (.int p1)] [(.int p1)]))
            refine own_to (fun t k => X0.ldcInt hx hown (mvT hZ (hw _ (List.mem_of_getElem? (i := 11) rfl))) (g := (mkF m 31 #[.val (.int p1)] [(.int p1)])) rfl (hb hby own_d1_31) _ k) ?_
            show own_Fin _ _ _ _ _ _ (s₁.setTop (mkF m 33 #[.val (.int p1)] [(.int (57344 : Int32)), (.int p1)]))
            by_cases hc33_12 : p1 < (57344 : Int32)
            ·
              show own_Fin _ _ _ _ _ _ (s₁.setTop (mkF m 33 #[.val (.int p1)] [(.int (57344 : Int32)), (.int p1)]))
              refine own_to (fun t k => XS.icmpYes X0.here hx rfl (pc0 := 33) (pc' := 42) rfl (hb hby own_d1_33) rfl (tlt hc33_12).1 (by decide) (by decide) k) ?_
              show own_Fin _ _ _ _ _ _ (s₁.setTop (mkF m 42 #[.val (.int p1)] []))
              refine own_to (fun t k => XS.iloadN X0.here hx rfl (hb hby own_d1_42) rfl k) ?_
              show own_Fin _ _ _ _ _ _ (s₁.setTop (mkF m 43 #[.val (.int p1)] [(.int p1)]))
              refine own_to (fun t k => X0.ldcInt hx hown (mvT hZ (hw _ (List.mem_of_getElem? (i := 12) rfl))) (g := (mkF m 43 #[.val (.int p1)] [(.int p1)])) rfl (hb hby own_d1_43) _ k) ?_
              show own_Fin _ _ _ _ _ _ (s₁.setTop (mkF m 45 #[.val (.int p1)] [(.int (65536 : Int32)), (.int p1)]))
              by_cases hc45_13 : p1 < (65536 : Int32)
              ·
                show own_Fin _ _ _ _ _ _ (s₁.setTop (mkF m 45 #[.val (.int p1)] [(.int (65536 : Int32)), (.int p1)]))
                refine own_to (fun t k => XS.icmpYes X0.here hx rfl (pc0 := 45) (pc' := 58) rfl (hb hby own_d1_45) rfl (tlt hc45_13).1 (by decide) (by decide) k) ?_
                show own_Fin _ _ _ _ _ _ (s₁.setTop (mkF m 58 #[.val (.int p1)] []))
                refine own_to (fun t k => XS.iconst X0.here hx rfl (hb hby own_d1_58) k) ?_
                show own_Fin _ _ _ _ _ _ (s₁.setTop (mkF m 59 #[.val (.int p1)] [(.int (0 : Int32))]))
                refine own_retN X0 hx hlk (t := .boolean) hret (by simp) (hb hby own_d1_59) (by decide) (by decide) ?_
                try rw [e0]
                exact ⟨congrArg (fun z => some (Value.int z)) (Eq.symm (show own_is p1 = _ from ((if_neg hc3_1).trans ((if_neg hc9_2).trans ((if_neg hc15_3).trans ((if_neg hc21_4).trans ((if_pos hc27_11).trans ((if_pos hc33_12).trans ((if_pos hc45_13).trans rfl))))))))), N0, rfl⟩
              ·
                show own_Fin _ _ _ _ _ _ (s₁.setTop (mkF m 45 #[.val (.int p1)] [(.int (65536 : Int32)), (.int p1)]))
                refine own_to (fun t k => XS.icmpNo X0.here hx rfl (hb hby own_d1_45) rfl (flt hc45_13).1 k) ?_
                show own_Fin _ _ _ _ _ _ (s₁.setTop (mkF m 48 #[.val (.int p1)] []))
                refine own_to (fun t k => XS.iloadN X0.here hx rfl (hb hby own_d1_48) rfl k) ?_
                show own_Fin _ _ _ _ _ _ (s₁.setTop (mkF m 49 #[.val (.int p1)] [(.int p1)]))
                refine own_to (fun t k => X0.ldcInt hx hown (mvT hZ (hw _ (List.mem_of_getElem? (i := 19) rfl))) (g := (mkF m 49 #[.val (.int p1)] [(.int p1)])) rfl (hb hby own_d1_49) _ k) ?_
                show own_Fin _ _ _ _ _ _ (s₁.setTop (mkF m 51 #[.val (.int p1)] [(.int (1114111 : Int32)), (.int p1)]))
                by_cases hc51_14 : (1114111 : Int32) < p1
                ·
                  show own_Fin _ _ _ _ _ _ (s₁.setTop (mkF m 51 #[.val (.int p1)] [(.int (1114111 : Int32)), (.int p1)]))
                  refine own_to (fun t k => XS.icmpYes X0.here hx rfl (pc0 := 51) (pc' := 58) rfl (hb hby own_d1_51) rfl (tlt hc51_14).2.2.1 (by decide) (by decide) k) ?_
                  show own_Fin _ _ _ _ _ _ (s₁.setTop (mkF m 58 #[.val (.int p1)] []))
                  refine own_to (fun t k => XS.iconst X0.here hx rfl (hb hby own_d1_58) k) ?_
                  show own_Fin _ _ _ _ _ _ (s₁.setTop (mkF m 59 #[.val (.int p1)] [(.int (0 : Int32))]))
                  refine own_retN X0 hx hlk (t := .boolean) hret (by simp) (hb hby own_d1_59) (by decide) (by decide) ?_
                  try rw [e0]
                  exact ⟨congrArg (fun z => some (Value.int z)) (Eq.symm (show own_is p1 = _ from ((if_neg hc3_1).trans ((if_neg hc9_2).trans ((if_neg hc15_3).trans ((if_neg hc21_4).trans ((if_pos hc27_11).trans ((if_pos hc33_12).trans ((if_neg hc45_13).trans ((if_pos hc51_14).trans rfl)))))))))), N0, rfl⟩
                ·
                  show own_Fin _ _ _ _ _ _ (s₁.setTop (mkF m 51 #[.val (.int p1)] [(.int (1114111 : Int32)), (.int p1)]))
                  refine own_to (fun t k => XS.icmpNo X0.here hx rfl (hb hby own_d1_51) rfl (flt hc51_14).2.2.1 k) ?_
                  show own_Fin _ _ _ _ _ _ (s₁.setTop (mkF m 54 #[.val (.int p1)] []))
                  refine own_to (fun t k => XS.iconst X0.here hx rfl (hb hby own_d1_54) k) ?_
                  show own_Fin _ _ _ _ _ _ (s₁.setTop (mkF m 55 #[.val (.int p1)] [(.int (1 : Int32))]))
                  refine own_to (fun t k => XS.goto X0.here hx rfl (pc0 := 55) (pc' := 59) rfl (hb hby own_d1_55) (by decide) (by decide) k) ?_
                  show own_Fin _ _ _ _ _ _ (s₁.setTop (mkF m 59 #[.val (.int p1)] [(.int (1 : Int32))]))
                  refine own_retN X0 hx hlk (t := .boolean) hret (by simp) (hb hby own_d1_59) (by decide) (by decide) ?_
                  try rw [e0]
                  exact ⟨congrArg (fun z => some (Value.int z)) (Eq.symm (show own_is p1 = _ from ((if_neg hc3_1).trans ((if_neg hc9_2).trans ((if_neg hc15_3).trans ((if_neg hc21_4).trans ((if_pos hc27_11).trans ((if_pos hc33_12).trans ((if_neg hc45_13).trans ((if_neg hc51_14).trans rfl)))))))))), N0, rfl⟩
            ·
              show own_Fin _ _ _ _ _ _ (s₁.setTop (mkF m 33 #[.val (.int p1)] [(.int (57344 : Int32)), (.int p1)]))
              refine own_to (fun t k => XS.icmpNo X0.here hx rfl (hb hby own_d1_33) rfl (flt hc33_12).1 k) ?_
              show own_Fin _ _ _ _ _ _ (s₁.setTop (mkF m 36 #[.val (.int p1)] []))
              refine own_to (fun t k => XS.iloadN X0.here hx rfl (hb hby own_d1_36) rfl k) ?_
              show own_Fin _ _ _ _ _ _ (s₁.setTop (mkF m 37 #[.val (.int p1)] [(.int p1)]))
              refine own_to (fun t k => X0.ldcInt hx hown (mvT hZ (hw _ (List.mem_of_getElem? (i := 18) rfl))) (g := (mkF m 37 #[.val (.int p1)] [(.int p1)])) rfl (hb hby own_d1_37) _ k) ?_
              show own_Fin _ _ _ _ _ _ (s₁.setTop (mkF m 39 #[.val (.int p1)] [(.int (65533 : Int32)), (.int p1)]))
              by_cases hc39_15 : (65533 : Int32) < p1
              ·
                show own_Fin _ _ _ _ _ _ (s₁.setTop (mkF m 39 #[.val (.int p1)] [(.int (65533 : Int32)), (.int p1)]))
                refine own_to (fun t k => XS.icmpNo X0.here hx rfl (hb hby own_d1_39) rfl (tlt hc39_15).2.2.2 k) ?_
                show own_Fin _ _ _ _ _ _ (s₁.setTop (mkF m 42 #[.val (.int p1)] []))
                refine own_to (fun t k => XS.iloadN X0.here hx rfl (hb hby own_d1_42) rfl k) ?_
                show own_Fin _ _ _ _ _ _ (s₁.setTop (mkF m 43 #[.val (.int p1)] [(.int p1)]))
                refine own_to (fun t k => X0.ldcInt hx hown (mvT hZ (hw _ (List.mem_of_getElem? (i := 12) rfl))) (g := (mkF m 43 #[.val (.int p1)] [(.int p1)])) rfl (hb hby own_d1_43) _ k) ?_
                show own_Fin _ _ _ _ _ _ (s₁.setTop (mkF m 45 #[.val (.int p1)] [(.int (65536 : Int32)), (.int p1)]))
                by_cases hc45_16 : p1 < (65536 : Int32)
                ·
                  show own_Fin _ _ _ _ _ _ (s₁.setTop (mkF m 45 #[.val (.int p1)] [(.int (65536 : Int32)), (.int p1)]))
                  refine own_to (fun t k => XS.icmpYes X0.here hx rfl (pc0 := 45) (pc' := 58) rfl (hb hby own_d1_45) rfl (tlt hc45_16).1 (by decide) (by decide) k) ?_
                  show own_Fin _ _ _ _ _ _ (s₁.setTop (mkF m 58 #[.val (.int p1)] []))
                  refine own_to (fun t k => XS.iconst X0.here hx rfl (hb hby own_d1_58) k) ?_
                  show own_Fin _ _ _ _ _ _ (s₁.setTop (mkF m 59 #[.val (.int p1)] [(.int (0 : Int32))]))
                  refine own_retN X0 hx hlk (t := .boolean) hret (by simp) (hb hby own_d1_59) (by decide) (by decide) ?_
                  try rw [e0]
                  exact ⟨congrArg (fun z => some (Value.int z)) (Eq.symm (show own_is p1 = _ from ((if_neg hc3_1).trans ((if_neg hc9_2).trans ((if_neg hc15_3).trans ((if_neg hc21_4).trans ((if_pos hc27_11).trans ((if_neg hc33_12).trans ((if_pos hc39_15).trans ((if_pos hc45_16).trans rfl)))))))))), N0, rfl⟩
                ·
                  show own_Fin _ _ _ _ _ _ (s₁.setTop (mkF m 45 #[.val (.int p1)] [(.int (65536 : Int32)), (.int p1)]))
                  refine own_to (fun t k => XS.icmpNo X0.here hx rfl (hb hby own_d1_45) rfl (flt hc45_16).1 k) ?_
                  show own_Fin _ _ _ _ _ _ (s₁.setTop (mkF m 48 #[.val (.int p1)] []))
                  refine own_to (fun t k => XS.iloadN X0.here hx rfl (hb hby own_d1_48) rfl k) ?_
                  show own_Fin _ _ _ _ _ _ (s₁.setTop (mkF m 49 #[.val (.int p1)] [(.int p1)]))
                  refine own_to (fun t k => X0.ldcInt hx hown (mvT hZ (hw _ (List.mem_of_getElem? (i := 19) rfl))) (g := (mkF m 49 #[.val (.int p1)] [(.int p1)])) rfl (hb hby own_d1_49) _ k) ?_
                  show own_Fin _ _ _ _ _ _ (s₁.setTop (mkF m 51 #[.val (.int p1)] [(.int (1114111 : Int32)), (.int p1)]))
                  by_cases hc51_17 : (1114111 : Int32) < p1
                  ·
                    show own_Fin _ _ _ _ _ _ (s₁.setTop (mkF m 51 #[.val (.int p1)] [(.int (1114111 : Int32)), (.int p1)]))
                    refine own_to (fun t k => XS.icmpYes X0.here hx rfl (pc0 := 51) (pc' := 58) rfl (hb hby own_d1_51) rfl (tlt hc51_17).2.2.1 (by decide) (by decide) k) ?_
                    show own_Fin _ _ _ _ _ _ (s₁.setTop (mkF m 58 #[.val (.int p1)] []))
                    refine own_to (fun t k => XS.iconst X0.here hx rfl (hb hby own_d1_58) k) ?_
                    show own_Fin _ _ _ _ _ _ (s₁.setTop (mkF m 59 #[.val (.int p1)] [(.int (0 : Int32))]))
                    refine own_retN X0 hx hlk (t := .boolean) hret (by simp) (hb hby own_d1_59) (by decide) (by decide) ?_
                    try rw [e0]
                    exact ⟨congrArg (fun z => some (Value.int z)) (Eq.symm (show own_is p1 = _ from ((if_neg hc3_1).trans ((if_neg hc9_2).trans ((if_neg hc15_3).trans ((if_neg hc21_4).trans ((if_pos hc27_11).trans ((if_neg hc33_12).trans ((if_pos hc39_15).trans ((if_neg hc45_16).trans ((if_pos hc51_17).trans rfl))))))))))), N0, rfl⟩
                  ·
                    show own_Fin _ _ _ _ _ _ (s₁.setTop (mkF m 51 #[.val (.int p1)] [(.int (1114111 : Int32)), (.int p1)]))
                    refine own_to (fun t k => XS.icmpNo X0.here hx rfl (hb hby own_d1_51) rfl (flt hc51_17).2.2.1 k) ?_
                    show own_Fin _ _ _ _ _ _ (s₁.setTop (mkF m 54 #[.val (.int p1)] []))
                    refine own_to (fun t k => XS.iconst X0.here hx rfl (hb hby own_d1_54) k) ?_
                    show own_Fin _ _ _ _ _ _ (s₁.setTop (mkF m 55 #[.val (.int p1)] [(.int (1 : Int32))]))
                    refine own_to (fun t k => XS.goto X0.here hx rfl (pc0 := 55) (pc' := 59) rfl (hb hby own_d1_55) (by decide) (by decide) k) ?_
                    show own_Fin _ _ _ _ _ _ (s₁.setTop (mkF m 59 #[.val (.int p1)] [(.int (1 : Int32))]))
                    refine own_retN X0 hx hlk (t := .boolean) hret (by simp) (hb hby own_d1_59) (by decide) (by decide) ?_
                    try rw [e0]
                    exact ⟨congrArg (fun z => some (Value.int z)) (Eq.symm (show own_is p1 = _ from ((if_neg hc3_1).trans ((if_neg hc9_2).trans ((if_neg hc15_3).trans ((if_neg hc21_4).trans ((if_pos hc27_11).trans ((if_neg hc33_12).trans ((if_pos hc39_15).trans ((if_neg hc45_16).trans ((if_neg hc51_17).trans rfl))))))))))), N0, rfl⟩
              ·
                show own_Fin _ _ _ _ _ _ (s₁.setTop (mkF m 39 #[.val (.int p1)] [(.int (65533 : Int32)), (.int p1)]))
                refine own_to (fun t k => XS.icmpYes X0.here hx rfl (pc0 := 39) (pc' := 54) rfl (hb hby own_d1_39) rfl (flt hc39_15).2.2.2 (by decide) (by decide) k) ?_
                show own_Fin _ _ _ _ _ _ (s₁.setTop (mkF m 54 #[.val (.int p1)] []))
                refine own_to (fun t k => XS.iconst X0.here hx rfl (hb hby own_d1_54) k) ?_
                show own_Fin _ _ _ _ _ _ (s₁.setTop (mkF m 55 #[.val (.int p1)] [(.int (1 : Int32))]))
                refine own_to (fun t k => XS.goto X0.here hx rfl (pc0 := 55) (pc' := 59) rfl (hb hby own_d1_55) (by decide) (by decide) k) ?_
                show own_Fin _ _ _ _ _ _ (s₁.setTop (mkF m 59 #[.val (.int p1)] [(.int (1 : Int32))]))
                refine own_retN X0 hx hlk (t := .boolean) hret (by simp) (hb hby own_d1_59) (by decide) (by decide) ?_
                try rw [e0]
                exact ⟨congrArg (fun z => some (Value.int z)) (Eq.symm (show own_is p1 = _ from ((if_neg hc3_1).trans ((if_neg hc9_2).trans ((if_neg hc15_3).trans ((if_neg hc21_4).trans ((if_pos hc27_11).trans ((if_neg hc33_12).trans ((if_neg hc39_15).trans rfl))))))))), N0, rfl⟩
          ·
            show own_Fin _ _ _ _ _ _ (s₁.setTop (mkF m 27 #[.val (.int p1)] [(.int (55295 : Int32)), (.int p1)]))
            refine own_to (fun t k => XS.icmpYes X0.here hx rfl (pc0 := 27) (pc' := 54) rfl (hb hby own_d1_27) rfl (flt hc27_11).2.2.2 (by decide) (by decide) k) ?_
            show own_Fin _ _ _ _ _ _ (s₁.setTop (mkF m 54 #[.val (.int p1)] []))
            refine own_to (fun t k => XS.iconst X0.here hx rfl (hb hby own_d1_54) k) ?_
            show own_Fin _ _ _ _ _ _ (s₁.setTop (mkF m 55 #[.val (.int p1)] [(.int (1 : Int32))]))
            refine own_to (fun t k => XS.goto X0.here hx rfl (pc0 := 55) (pc' := 59) rfl (hb hby own_d1_55) (by decide) (by decide) k) ?_
            show own_Fin _ _ _ _ _ _ (s₁.setTop (mkF m 59 #[.val (.int p1)] [(.int (1 : Int32))]))
            refine own_retN X0 hx hlk (t := .boolean) hret (by simp) (hb hby own_d1_59) (by decide) (by decide) ?_
            try rw [e0]
            exact ⟨congrArg (fun z => some (Value.int z)) (Eq.symm (show own_is p1 = _ from ((if_neg hc3_1).trans ((if_neg hc9_2).trans ((if_neg hc15_3).trans ((if_neg hc21_4).trans ((if_neg hc27_11).trans rfl))))))), N0, rfl⟩
def own_ex (p1 : Int32) : Int32 := (if p1 < (0 : Int32) then (1 : Int32) else (if (1114111 : Int32) < p1 then (1 : Int32) else (if p1 < (32 : Int32) then (if p1 = (9 : Int32) then (0 : Int32) else (if p1 = (10 : Int32) then (0 : Int32) else (if p1 = (13 : Int32) then (0 : Int32) else (1 : Int32)))) else (if p1 < (55296 : Int32) then (if p1 = (65534 : Int32) then (1 : Int32) else (if p1 = (65535 : Int32) then (1 : Int32) else (0 : Int32))) else (if (57343 : Int32) < p1 then (if p1 = (65534 : Int32) then (1 : Int32) else (if p1 = (65535 : Int32) then (1 : Int32) else (0 : Int32))) else (1 : Int32))))))
theorem own_d2_0 : decode method_2_code 0 = .ok (.iload_n 0, 1) := by decide +kernel
theorem own_d2_1 : decode method_2_code 1 = .ok (.ifCond .lt 9, 3) := by decide +kernel
theorem own_d2_4 : decode method_2_code 4 = .ok (.iload_n 0, 1) := by decide +kernel
theorem own_d2_5 : decode method_2_code 5 = .ok (.ldc 7, 2) := by decide +kernel
theorem own_d2_7 : decode method_2_code 7 = .ok (.if_icmp .le 5, 3) := by decide +kernel
theorem own_d2_10 : decode method_2_code 10 = .ok (.iconst 1, 1) := by decide +kernel
theorem own_d2_11 : decode method_2_code 11 = .ok (.ireturn, 1) := by decide +kernel
theorem own_d2_12 : decode method_2_code 12 = .ok (.iload_n 0, 1) := by decide +kernel
theorem own_d2_13 : decode method_2_code 13 = .ok (.bipush 32, 2) := by decide +kernel
theorem own_d2_15 : decode method_2_code 15 = .ok (.if_icmp .ge 27, 3) := by decide +kernel
theorem own_d2_18 : decode method_2_code 18 = .ok (.iload_n 0, 1) := by decide +kernel
theorem own_d2_19 : decode method_2_code 19 = .ok (.bipush 9, 2) := by decide +kernel
theorem own_d2_21 : decode method_2_code 21 = .ok (.if_icmp .eq 19, 3) := by decide +kernel
theorem own_d2_24 : decode method_2_code 24 = .ok (.iload_n 0, 1) := by decide +kernel
theorem own_d2_25 : decode method_2_code 25 = .ok (.bipush 10, 2) := by decide +kernel
theorem own_d2_27 : decode method_2_code 27 = .ok (.if_icmp .eq 13, 3) := by decide +kernel
theorem own_d2_30 : decode method_2_code 30 = .ok (.iload_n 0, 1) := by decide +kernel
theorem own_d2_31 : decode method_2_code 31 = .ok (.bipush 13, 2) := by decide +kernel
theorem own_d2_33 : decode method_2_code 33 = .ok (.if_icmp .eq 7, 3) := by decide +kernel
theorem own_d2_36 : decode method_2_code 36 = .ok (.iconst 1, 1) := by decide +kernel
theorem own_d2_37 : decode method_2_code 37 = .ok (.goto 4, 3) := by decide +kernel
theorem own_d2_40 : decode method_2_code 40 = .ok (.iconst 0, 1) := by decide +kernel
theorem own_d2_41 : decode method_2_code 41 = .ok (.ireturn, 1) := by decide +kernel
theorem own_d2_42 : decode method_2_code 42 = .ok (.iload_n 0, 1) := by decide +kernel
theorem own_d2_43 : decode method_2_code 43 = .ok (.ldc 8, 2) := by decide +kernel
theorem own_d2_45 : decode method_2_code 45 = .ok (.if_icmp .lt 11, 3) := by decide +kernel
theorem own_d2_48 : decode method_2_code 48 = .ok (.iload_n 0, 1) := by decide +kernel
theorem own_d2_49 : decode method_2_code 49 = .ok (.ldc 9, 2) := by decide +kernel
theorem own_d2_51 : decode method_2_code 51 = .ok (.if_icmp .gt 5, 3) := by decide +kernel
theorem own_d2_54 : decode method_2_code 54 = .ok (.iconst 1, 1) := by decide +kernel
theorem own_d2_55 : decode method_2_code 55 = .ok (.ireturn, 1) := by decide +kernel
theorem own_d2_56 : decode method_2_code 56 = .ok (.iload_n 0, 1) := by decide +kernel
theorem own_d2_57 : decode method_2_code 57 = .ok (.ldc 10, 2) := by decide +kernel
theorem own_d2_59 : decode method_2_code 59 = .ok (.if_icmp .eq 9, 3) := by decide +kernel
theorem own_d2_62 : decode method_2_code 62 = .ok (.iload_n 0, 1) := by decide +kernel
theorem own_d2_63 : decode method_2_code 63 = .ok (.ldc 11, 2) := by decide +kernel
theorem own_d2_65 : decode method_2_code 65 = .ok (.if_icmp .ne 5, 3) := by decide +kernel
theorem own_d2_68 : decode method_2_code 68 = .ok (.iconst 1, 1) := by decide +kernel
theorem own_d2_69 : decode method_2_code 69 = .ok (.ireturn, 1) := by decide +kernel
theorem own_d2_70 : decode method_2_code 70 = .ok (.iconst 0, 1) := by decide +kernel
theorem own_d2_71 : decode method_2_code 71 = .ok (.ireturn, 1) := by decide +kernel
theorem own_pn1 : plainName "com/example/libxqtype/libxqtype/XmlCharactersIsCharPinLaw" = true := by first | (simp [plainName, overriddenIn]; done) | decide +kernel
theorem own_rm2_ef (m : MethodId) (p1 : Int32) : entryFrame m #[(.int p1)] 1 = mkF m 0 #[.val (.int p1)] [] := by first | (simp [entryFrame, mkF, argsToLocals, Value.category]; done) | rfl
set_option maxRecDepth 65536 in
set_option maxHeartbeats 40000000 in
theorem own_rm2 (l : Launch) (Z : State) (a0 : Array Value) (hw : ∀ d ∈ tables_1, d.before a0 Z = true) (ws : List Jvm.Cond) (p1 : Int32) (h0 : Heap) (n0 : Nat) (Z0 : n0 ≤ h0.size) :
    own_Met l Z (⟨"com/example/libxqtype/libxqtype/XmlCharactersIsCharPinLaw", "excluded", "(I)Z"⟩ : MethodName) method_2_code 1 (some .boolean) ws ({ frames := 0, cells := 0, slots := 0, locals := 0 } : Room) #[(.int p1)] h0 (fun v h L => v = some (.int (own_ex p1)) ∧ Fr n0 L ∧ h = h0) := by
  refine own_enter (plainFor_of_name own_pn1) ?_
  intro p e s m below meth c s₁ X0 hx hZ hby hml hown hnm hret hlk e0
  have N0 := Fr.nil n0
  rw [own_rm2_ef m p1]
  show own_Fin _ _ _ _ _ _ (s₁.setTop (mkF m 0 #[.val (.int p1)] []))
  refine own_to (fun t k => XS.iloadN X0.here hx rfl (hb hby own_d2_0) rfl k) ?_
  show own_Fin _ _ _ _ _ _ (s₁.setTop (mkF m 1 #[.val (.int p1)] [(.int p1)]))
  by_cases hc1_18 : p1 < (0 : Int32)
  ·
    show own_Fin _ _ _ _ _ _ (s₁.setTop (mkF m 1 #[.val (.int p1)] [(.int p1)]))
    refine own_to (fun t k => XS.ifYes X0.here hx rfl (pc0 := 1) (pc' := 10) rfl (hb hby own_d2_1) rfl ((if0 _ _).trans (tlt hc1_18).1) (by decide) (by decide) k) ?_
    show own_Fin _ _ _ _ _ _ (s₁.setTop (mkF m 10 #[.val (.int p1)] []))
    refine own_to (fun t k => XS.iconst X0.here hx rfl (hb hby own_d2_10) k) ?_
    show own_Fin _ _ _ _ _ _ (s₁.setTop (mkF m 11 #[.val (.int p1)] [(.int (1 : Int32))]))
    refine own_retN X0 hx hlk (t := .boolean) hret (by simp) (hb hby own_d2_11) (by decide) (by decide) ?_
    try rw [e0]
    exact ⟨congrArg (fun z => some (Value.int z)) (Eq.symm (show own_ex p1 = _ from ((if_pos hc1_18).trans rfl))), N0, rfl⟩
  ·
    show own_Fin _ _ _ _ _ _ (s₁.setTop (mkF m 1 #[.val (.int p1)] [(.int p1)]))
    refine own_to (fun t k => XS.ifNo X0.here hx rfl (hb hby own_d2_1) rfl ((if0 _ _).trans (flt hc1_18).1) k) ?_
    show own_Fin _ _ _ _ _ _ (s₁.setTop (mkF m 4 #[.val (.int p1)] []))
    refine own_to (fun t k => XS.iloadN X0.here hx rfl (hb hby own_d2_4) rfl k) ?_
    show own_Fin _ _ _ _ _ _ (s₁.setTop (mkF m 5 #[.val (.int p1)] [(.int p1)]))
    refine own_to (fun t k => X0.ldcInt hx hown (mvT hZ (hw _ (List.mem_of_getElem? (i := 6) rfl))) (g := (mkF m 5 #[.val (.int p1)] [(.int p1)])) rfl (hb hby own_d2_5) _ k) ?_
    show own_Fin _ _ _ _ _ _ (s₁.setTop (mkF m 7 #[.val (.int p1)] [(.int (1114111 : Int32)), (.int p1)]))
    by_cases hc7_19 : (1114111 : Int32) < p1
    ·
      show own_Fin _ _ _ _ _ _ (s₁.setTop (mkF m 7 #[.val (.int p1)] [(.int (1114111 : Int32)), (.int p1)]))
      refine own_to (fun t k => XS.icmpNo X0.here hx rfl (hb hby own_d2_7) rfl (tlt hc7_19).2.2.2 k) ?_
      show own_Fin _ _ _ _ _ _ (s₁.setTop (mkF m 10 #[.val (.int p1)] []))
      refine own_to (fun t k => XS.iconst X0.here hx rfl (hb hby own_d2_10) k) ?_
      show own_Fin _ _ _ _ _ _ (s₁.setTop (mkF m 11 #[.val (.int p1)] [(.int (1 : Int32))]))
      refine own_retN X0 hx hlk (t := .boolean) hret (by simp) (hb hby own_d2_11) (by decide) (by decide) ?_
      try rw [e0]
      exact ⟨congrArg (fun z => some (Value.int z)) (Eq.symm (show own_ex p1 = _ from ((if_neg hc1_18).trans ((if_pos hc7_19).trans rfl)))), N0, rfl⟩
    ·
      show own_Fin _ _ _ _ _ _ (s₁.setTop (mkF m 7 #[.val (.int p1)] [(.int (1114111 : Int32)), (.int p1)]))
      refine own_to (fun t k => XS.icmpYes X0.here hx rfl (pc0 := 7) (pc' := 12) rfl (hb hby own_d2_7) rfl (flt hc7_19).2.2.2 (by decide) (by decide) k) ?_
      show own_Fin _ _ _ _ _ _ (s₁.setTop (mkF m 12 #[.val (.int p1)] []))
      refine own_to (fun t k => XS.iloadN X0.here hx rfl (hb hby own_d2_12) rfl k) ?_
      show own_Fin _ _ _ _ _ _ (s₁.setTop (mkF m 13 #[.val (.int p1)] [(.int p1)]))
      refine own_to (fun t k => XS.bipush X0.here hx rfl (hb hby own_d2_13) k) ?_
      show own_Fin _ _ _ _ _ _ (s₁.setTop (mkF m 15 #[.val (.int p1)] [(.int (32 : Int32)), (.int p1)]))
      by_cases hc15_20 : p1 < (32 : Int32)
      ·
        show own_Fin _ _ _ _ _ _ (s₁.setTop (mkF m 15 #[.val (.int p1)] [(.int (32 : Int32)), (.int p1)]))
        refine own_to (fun t k => XS.icmpNo X0.here hx rfl (hb hby own_d2_15) rfl (tlt hc15_20).2.1 k) ?_
        show own_Fin _ _ _ _ _ _ (s₁.setTop (mkF m 18 #[.val (.int p1)] []))
        refine own_to (fun t k => XS.iloadN X0.here hx rfl (hb hby own_d2_18) rfl k) ?_
        show own_Fin _ _ _ _ _ _ (s₁.setTop (mkF m 19 #[.val (.int p1)] [(.int p1)]))
        refine own_to (fun t k => XS.bipush X0.here hx rfl (hb hby own_d2_19) k) ?_
        show own_Fin _ _ _ _ _ _ (s₁.setTop (mkF m 21 #[.val (.int p1)] [(.int (9 : Int32)), (.int p1)]))
        by_cases hc21_21 : p1 = (9 : Int32)
        ·
          show own_Fin _ _ _ _ _ _ (s₁.setTop (mkF m 21 #[.val (.int p1)] [(.int (9 : Int32)), (.int p1)]))
          refine own_to (fun t k => XS.icmpYes X0.here hx rfl (pc0 := 21) (pc' := 40) rfl (hb hby own_d2_21) rfl (teq hc21_21).1 (by decide) (by decide) k) ?_
          show own_Fin _ _ _ _ _ _ (s₁.setTop (mkF m 40 #[.val (.int p1)] []))
          refine own_to (fun t k => XS.iconst X0.here hx rfl (hb hby own_d2_40) k) ?_
          show own_Fin _ _ _ _ _ _ (s₁.setTop (mkF m 41 #[.val (.int p1)] [(.int (0 : Int32))]))
          refine own_retN X0 hx hlk (t := .boolean) hret (by simp) (hb hby own_d2_41) (by decide) (by decide) ?_
          try rw [e0]
          exact ⟨congrArg (fun z => some (Value.int z)) (Eq.symm (show own_ex p1 = _ from ((if_neg hc1_18).trans ((if_neg hc7_19).trans ((if_pos hc15_20).trans ((if_pos hc21_21).trans rfl)))))), N0, rfl⟩
        ·
          show own_Fin _ _ _ _ _ _ (s₁.setTop (mkF m 21 #[.val (.int p1)] [(.int (9 : Int32)), (.int p1)]))
          refine own_to (fun t k => XS.icmpNo X0.here hx rfl (hb hby own_d2_21) rfl (feq hc21_21).1 k) ?_
          show own_Fin _ _ _ _ _ _ (s₁.setTop (mkF m 24 #[.val (.int p1)] []))
          refine own_to (fun t k => XS.iloadN X0.here hx rfl (hb hby own_d2_24) rfl k) ?_
          show own_Fin _ _ _ _ _ _ (s₁.setTop (mkF m 25 #[.val (.int p1)] [(.int p1)]))
          refine own_to (fun t k => XS.bipush X0.here hx rfl (hb hby own_d2_25) k) ?_
          show own_Fin _ _ _ _ _ _ (s₁.setTop (mkF m 27 #[.val (.int p1)] [(.int (10 : Int32)), (.int p1)]))
          by_cases hc27_22 : p1 = (10 : Int32)
          ·
            show own_Fin _ _ _ _ _ _ (s₁.setTop (mkF m 27 #[.val (.int p1)] [(.int (10 : Int32)), (.int p1)]))
            refine own_to (fun t k => XS.icmpYes X0.here hx rfl (pc0 := 27) (pc' := 40) rfl (hb hby own_d2_27) rfl (teq hc27_22).1 (by decide) (by decide) k) ?_
            show own_Fin _ _ _ _ _ _ (s₁.setTop (mkF m 40 #[.val (.int p1)] []))
            refine own_to (fun t k => XS.iconst X0.here hx rfl (hb hby own_d2_40) k) ?_
            show own_Fin _ _ _ _ _ _ (s₁.setTop (mkF m 41 #[.val (.int p1)] [(.int (0 : Int32))]))
            refine own_retN X0 hx hlk (t := .boolean) hret (by simp) (hb hby own_d2_41) (by decide) (by decide) ?_
            try rw [e0]
            exact ⟨congrArg (fun z => some (Value.int z)) (Eq.symm (show own_ex p1 = _ from ((if_neg hc1_18).trans ((if_neg hc7_19).trans ((if_pos hc15_20).trans ((if_neg hc21_21).trans ((if_pos hc27_22).trans rfl))))))), N0, rfl⟩
          ·
            show own_Fin _ _ _ _ _ _ (s₁.setTop (mkF m 27 #[.val (.int p1)] [(.int (10 : Int32)), (.int p1)]))
            refine own_to (fun t k => XS.icmpNo X0.here hx rfl (hb hby own_d2_27) rfl (feq hc27_22).1 k) ?_
            show own_Fin _ _ _ _ _ _ (s₁.setTop (mkF m 30 #[.val (.int p1)] []))
            refine own_to (fun t k => XS.iloadN X0.here hx rfl (hb hby own_d2_30) rfl k) ?_
            show own_Fin _ _ _ _ _ _ (s₁.setTop (mkF m 31 #[.val (.int p1)] [(.int p1)]))
            refine own_to (fun t k => XS.bipush X0.here hx rfl (hb hby own_d2_31) k) ?_
            show own_Fin _ _ _ _ _ _ (s₁.setTop (mkF m 33 #[.val (.int p1)] [(.int (13 : Int32)), (.int p1)]))
            by_cases hc33_23 : p1 = (13 : Int32)
            ·
              show own_Fin _ _ _ _ _ _ (s₁.setTop (mkF m 33 #[.val (.int p1)] [(.int (13 : Int32)), (.int p1)]))
              refine own_to (fun t k => XS.icmpYes X0.here hx rfl (pc0 := 33) (pc' := 40) rfl (hb hby own_d2_33) rfl (teq hc33_23).1 (by decide) (by decide) k) ?_
              show own_Fin _ _ _ _ _ _ (s₁.setTop (mkF m 40 #[.val (.int p1)] []))
              refine own_to (fun t k => XS.iconst X0.here hx rfl (hb hby own_d2_40) k) ?_
              show own_Fin _ _ _ _ _ _ (s₁.setTop (mkF m 41 #[.val (.int p1)] [(.int (0 : Int32))]))
              refine own_retN X0 hx hlk (t := .boolean) hret (by simp) (hb hby own_d2_41) (by decide) (by decide) ?_
              try rw [e0]
              exact ⟨congrArg (fun z => some (Value.int z)) (Eq.symm (show own_ex p1 = _ from ((if_neg hc1_18).trans ((if_neg hc7_19).trans ((if_pos hc15_20).trans ((if_neg hc21_21).trans ((if_neg hc27_22).trans ((if_pos hc33_23).trans rfl)))))))), N0, rfl⟩
            ·
              show own_Fin _ _ _ _ _ _ (s₁.setTop (mkF m 33 #[.val (.int p1)] [(.int (13 : Int32)), (.int p1)]))
              refine own_to (fun t k => XS.icmpNo X0.here hx rfl (hb hby own_d2_33) rfl (feq hc33_23).1 k) ?_
              show own_Fin _ _ _ _ _ _ (s₁.setTop (mkF m 36 #[.val (.int p1)] []))
              refine own_to (fun t k => XS.iconst X0.here hx rfl (hb hby own_d2_36) k) ?_
              show own_Fin _ _ _ _ _ _ (s₁.setTop (mkF m 37 #[.val (.int p1)] [(.int (1 : Int32))]))
              refine own_to (fun t k => XS.goto X0.here hx rfl (pc0 := 37) (pc' := 41) rfl (hb hby own_d2_37) (by decide) (by decide) k) ?_
              show own_Fin _ _ _ _ _ _ (s₁.setTop (mkF m 41 #[.val (.int p1)] [(.int (1 : Int32))]))
              refine own_retN X0 hx hlk (t := .boolean) hret (by simp) (hb hby own_d2_41) (by decide) (by decide) ?_
              try rw [e0]
              exact ⟨congrArg (fun z => some (Value.int z)) (Eq.symm (show own_ex p1 = _ from ((if_neg hc1_18).trans ((if_neg hc7_19).trans ((if_pos hc15_20).trans ((if_neg hc21_21).trans ((if_neg hc27_22).trans ((if_neg hc33_23).trans rfl)))))))), N0, rfl⟩
      ·
        show own_Fin _ _ _ _ _ _ (s₁.setTop (mkF m 15 #[.val (.int p1)] [(.int (32 : Int32)), (.int p1)]))
        refine own_to (fun t k => XS.icmpYes X0.here hx rfl (pc0 := 15) (pc' := 42) rfl (hb hby own_d2_15) rfl (flt hc15_20).2.1 (by decide) (by decide) k) ?_
        show own_Fin _ _ _ _ _ _ (s₁.setTop (mkF m 42 #[.val (.int p1)] []))
        refine own_to (fun t k => XS.iloadN X0.here hx rfl (hb hby own_d2_42) rfl k) ?_
        show own_Fin _ _ _ _ _ _ (s₁.setTop (mkF m 43 #[.val (.int p1)] [(.int p1)]))
        refine own_to (fun t k => X0.ldcInt hx hown (mvT hZ (hw _ (List.mem_of_getElem? (i := 20) rfl))) (g := (mkF m 43 #[.val (.int p1)] [(.int p1)])) rfl (hb hby own_d2_43) _ k) ?_
        show own_Fin _ _ _ _ _ _ (s₁.setTop (mkF m 45 #[.val (.int p1)] [(.int (55296 : Int32)), (.int p1)]))
        by_cases hc45_24 : p1 < (55296 : Int32)
        ·
          show own_Fin _ _ _ _ _ _ (s₁.setTop (mkF m 45 #[.val (.int p1)] [(.int (55296 : Int32)), (.int p1)]))
          refine own_to (fun t k => XS.icmpYes X0.here hx rfl (pc0 := 45) (pc' := 56) rfl (hb hby own_d2_45) rfl (tlt hc45_24).1 (by decide) (by decide) k) ?_
          show own_Fin _ _ _ _ _ _ (s₁.setTop (mkF m 56 #[.val (.int p1)] []))
          refine own_to (fun t k => XS.iloadN X0.here hx rfl (hb hby own_d2_56) rfl k) ?_
          show own_Fin _ _ _ _ _ _ (s₁.setTop (mkF m 57 #[.val (.int p1)] [(.int p1)]))
          refine own_to (fun t k => X0.ldcInt hx hown (mvT hZ (hw _ (List.mem_of_getElem? (i := 22) rfl))) (g := (mkF m 57 #[.val (.int p1)] [(.int p1)])) rfl (hb hby own_d2_57) _ k) ?_
          show own_Fin _ _ _ _ _ _ (s₁.setTop (mkF m 59 #[.val (.int p1)] [(.int (65534 : Int32)), (.int p1)]))
          by_cases hc59_25 : p1 = (65534 : Int32)
          ·
            show own_Fin _ _ _ _ _ _ (s₁.setTop (mkF m 59 #[.val (.int p1)] [(.int (65534 : Int32)), (.int p1)]))
            refine own_to (fun t k => XS.icmpYes X0.here hx rfl (pc0 := 59) (pc' := 68) rfl (hb hby own_d2_59) rfl (teq hc59_25).1 (by decide) (by decide) k) ?_
            show own_Fin _ _ _ _ _ _ (s₁.setTop (mkF m 68 #[.val (.int p1)] []))
            refine own_to (fun t k => XS.iconst X0.here hx rfl (hb hby own_d2_68) k) ?_
            show own_Fin _ _ _ _ _ _ (s₁.setTop (mkF m 69 #[.val (.int p1)] [(.int (1 : Int32))]))
            refine own_retN X0 hx hlk (t := .boolean) hret (by simp) (hb hby own_d2_69) (by decide) (by decide) ?_
            try rw [e0]
            exact ⟨congrArg (fun z => some (Value.int z)) (Eq.symm (show own_ex p1 = _ from ((if_neg hc1_18).trans ((if_neg hc7_19).trans ((if_neg hc15_20).trans ((if_pos hc45_24).trans ((if_pos hc59_25).trans rfl))))))), N0, rfl⟩
          ·
            show own_Fin _ _ _ _ _ _ (s₁.setTop (mkF m 59 #[.val (.int p1)] [(.int (65534 : Int32)), (.int p1)]))
            refine own_to (fun t k => XS.icmpNo X0.here hx rfl (hb hby own_d2_59) rfl (feq hc59_25).1 k) ?_
            show own_Fin _ _ _ _ _ _ (s₁.setTop (mkF m 62 #[.val (.int p1)] []))
            refine own_to (fun t k => XS.iloadN X0.here hx rfl (hb hby own_d2_62) rfl k) ?_
            show own_Fin _ _ _ _ _ _ (s₁.setTop (mkF m 63 #[.val (.int p1)] [(.int p1)]))
            refine own_to (fun t k => X0.ldcInt hx hown (mvT hZ (hw _ (List.mem_of_getElem? (i := 4) rfl))) (g := (mkF m 63 #[.val (.int p1)] [(.int p1)])) rfl (hb hby own_d2_63) _ k) ?_
            show own_Fin _ _ _ _ _ _ (s₁.setTop (mkF m 65 #[.val (.int p1)] [(.int (65535 : Int32)), (.int p1)]))
            by_cases hc65_26 : p1 = (65535 : Int32)
            ·
              show own_Fin _ _ _ _ _ _ (s₁.setTop (mkF m 65 #[.val (.int p1)] [(.int (65535 : Int32)), (.int p1)]))
              refine own_to (fun t k => XS.icmpNo X0.here hx rfl (hb hby own_d2_65) rfl (teq hc65_26).2 k) ?_
              show own_Fin _ _ _ _ _ _ (s₁.setTop (mkF m 68 #[.val (.int p1)] []))
              refine own_to (fun t k => XS.iconst X0.here hx rfl (hb hby own_d2_68) k) ?_
              show own_Fin _ _ _ _ _ _ (s₁.setTop (mkF m 69 #[.val (.int p1)] [(.int (1 : Int32))]))
              refine own_retN X0 hx hlk (t := .boolean) hret (by simp) (hb hby own_d2_69) (by decide) (by decide) ?_
              try rw [e0]
              exact ⟨congrArg (fun z => some (Value.int z)) (Eq.symm (show own_ex p1 = _ from ((if_neg hc1_18).trans ((if_neg hc7_19).trans ((if_neg hc15_20).trans ((if_pos hc45_24).trans ((if_neg hc59_25).trans ((if_pos hc65_26).trans rfl)))))))), N0, rfl⟩
            ·
              show own_Fin _ _ _ _ _ _ (s₁.setTop (mkF m 65 #[.val (.int p1)] [(.int (65535 : Int32)), (.int p1)]))
              refine own_to (fun t k => XS.icmpYes X0.here hx rfl (pc0 := 65) (pc' := 70) rfl (hb hby own_d2_65) rfl (feq hc65_26).2 (by decide) (by decide) k) ?_
              show own_Fin _ _ _ _ _ _ (s₁.setTop (mkF m 70 #[.val (.int p1)] []))
              refine own_to (fun t k => XS.iconst X0.here hx rfl (hb hby own_d2_70) k) ?_
              show own_Fin _ _ _ _ _ _ (s₁.setTop (mkF m 71 #[.val (.int p1)] [(.int (0 : Int32))]))
              refine own_retN X0 hx hlk (t := .boolean) hret (by simp) (hb hby own_d2_71) (by decide) (by decide) ?_
              try rw [e0]
              exact ⟨congrArg (fun z => some (Value.int z)) (Eq.symm (show own_ex p1 = _ from ((if_neg hc1_18).trans ((if_neg hc7_19).trans ((if_neg hc15_20).trans ((if_pos hc45_24).trans ((if_neg hc59_25).trans ((if_neg hc65_26).trans rfl)))))))), N0, rfl⟩
        ·
          show own_Fin _ _ _ _ _ _ (s₁.setTop (mkF m 45 #[.val (.int p1)] [(.int (55296 : Int32)), (.int p1)]))
          refine own_to (fun t k => XS.icmpNo X0.here hx rfl (hb hby own_d2_45) rfl (flt hc45_24).1 k) ?_
          show own_Fin _ _ _ _ _ _ (s₁.setTop (mkF m 48 #[.val (.int p1)] []))
          refine own_to (fun t k => XS.iloadN X0.here hx rfl (hb hby own_d2_48) rfl k) ?_
          show own_Fin _ _ _ _ _ _ (s₁.setTop (mkF m 49 #[.val (.int p1)] [(.int p1)]))
          refine own_to (fun t k => X0.ldcInt hx hown (mvT hZ (hw _ (List.mem_of_getElem? (i := 21) rfl))) (g := (mkF m 49 #[.val (.int p1)] [(.int p1)])) rfl (hb hby own_d2_49) _ k) ?_
          show own_Fin _ _ _ _ _ _ (s₁.setTop (mkF m 51 #[.val (.int p1)] [(.int (57343 : Int32)), (.int p1)]))
          by_cases hc51_27 : (57343 : Int32) < p1
          ·
            show own_Fin _ _ _ _ _ _ (s₁.setTop (mkF m 51 #[.val (.int p1)] [(.int (57343 : Int32)), (.int p1)]))
            refine own_to (fun t k => XS.icmpYes X0.here hx rfl (pc0 := 51) (pc' := 56) rfl (hb hby own_d2_51) rfl (tlt hc51_27).2.2.1 (by decide) (by decide) k) ?_
            show own_Fin _ _ _ _ _ _ (s₁.setTop (mkF m 56 #[.val (.int p1)] []))
            refine own_to (fun t k => XS.iloadN X0.here hx rfl (hb hby own_d2_56) rfl k) ?_
            show own_Fin _ _ _ _ _ _ (s₁.setTop (mkF m 57 #[.val (.int p1)] [(.int p1)]))
            refine own_to (fun t k => X0.ldcInt hx hown (mvT hZ (hw _ (List.mem_of_getElem? (i := 22) rfl))) (g := (mkF m 57 #[.val (.int p1)] [(.int p1)])) rfl (hb hby own_d2_57) _ k) ?_
            show own_Fin _ _ _ _ _ _ (s₁.setTop (mkF m 59 #[.val (.int p1)] [(.int (65534 : Int32)), (.int p1)]))
            by_cases hc59_28 : p1 = (65534 : Int32)
            ·
              show own_Fin _ _ _ _ _ _ (s₁.setTop (mkF m 59 #[.val (.int p1)] [(.int (65534 : Int32)), (.int p1)]))
              refine own_to (fun t k => XS.icmpYes X0.here hx rfl (pc0 := 59) (pc' := 68) rfl (hb hby own_d2_59) rfl (teq hc59_28).1 (by decide) (by decide) k) ?_
              show own_Fin _ _ _ _ _ _ (s₁.setTop (mkF m 68 #[.val (.int p1)] []))
              refine own_to (fun t k => XS.iconst X0.here hx rfl (hb hby own_d2_68) k) ?_
              show own_Fin _ _ _ _ _ _ (s₁.setTop (mkF m 69 #[.val (.int p1)] [(.int (1 : Int32))]))
              refine own_retN X0 hx hlk (t := .boolean) hret (by simp) (hb hby own_d2_69) (by decide) (by decide) ?_
              try rw [e0]
              exact ⟨congrArg (fun z => some (Value.int z)) (Eq.symm (show own_ex p1 = _ from ((if_neg hc1_18).trans ((if_neg hc7_19).trans ((if_neg hc15_20).trans ((if_neg hc45_24).trans ((if_pos hc51_27).trans ((if_pos hc59_28).trans rfl)))))))), N0, rfl⟩
            ·
              show own_Fin _ _ _ _ _ _ (s₁.setTop (mkF m 59 #[.val (.int p1)] [(.int (65534 : Int32)), (.int p1)]))
              refine own_to (fun t k => XS.icmpNo X0.here hx rfl (hb hby own_d2_59) rfl (feq hc59_28).1 k) ?_
              show own_Fin _ _ _ _ _ _ (s₁.setTop (mkF m 62 #[.val (.int p1)] []))
              refine own_to (fun t k => XS.iloadN X0.here hx rfl (hb hby own_d2_62) rfl k) ?_
              show own_Fin _ _ _ _ _ _ (s₁.setTop (mkF m 63 #[.val (.int p1)] [(.int p1)]))
              refine own_to (fun t k => X0.ldcInt hx hown (mvT hZ (hw _ (List.mem_of_getElem? (i := 4) rfl))) (g := (mkF m 63 #[.val (.int p1)] [(.int p1)])) rfl (hb hby own_d2_63) _ k) ?_
              show own_Fin _ _ _ _ _ _ (s₁.setTop (mkF m 65 #[.val (.int p1)] [(.int (65535 : Int32)), (.int p1)]))
              by_cases hc65_29 : p1 = (65535 : Int32)
              ·
                show own_Fin _ _ _ _ _ _ (s₁.setTop (mkF m 65 #[.val (.int p1)] [(.int (65535 : Int32)), (.int p1)]))
                refine own_to (fun t k => XS.icmpNo X0.here hx rfl (hb hby own_d2_65) rfl (teq hc65_29).2 k) ?_
                show own_Fin _ _ _ _ _ _ (s₁.setTop (mkF m 68 #[.val (.int p1)] []))
                refine own_to (fun t k => XS.iconst X0.here hx rfl (hb hby own_d2_68) k) ?_
                show own_Fin _ _ _ _ _ _ (s₁.setTop (mkF m 69 #[.val (.int p1)] [(.int (1 : Int32))]))
                refine own_retN X0 hx hlk (t := .boolean) hret (by simp) (hb hby own_d2_69) (by decide) (by decide) ?_
                try rw [e0]
                exact ⟨congrArg (fun z => some (Value.int z)) (Eq.symm (show own_ex p1 = _ from ((if_neg hc1_18).trans ((if_neg hc7_19).trans ((if_neg hc15_20).trans ((if_neg hc45_24).trans ((if_pos hc51_27).trans ((if_neg hc59_28).trans ((if_pos hc65_29).trans rfl))))))))), N0, rfl⟩
              ·
                show own_Fin _ _ _ _ _ _ (s₁.setTop (mkF m 65 #[.val (.int p1)] [(.int (65535 : Int32)), (.int p1)]))
                refine own_to (fun t k => XS.icmpYes X0.here hx rfl (pc0 := 65) (pc' := 70) rfl (hb hby own_d2_65) rfl (feq hc65_29).2 (by decide) (by decide) k) ?_
                show own_Fin _ _ _ _ _ _ (s₁.setTop (mkF m 70 #[.val (.int p1)] []))
                refine own_to (fun t k => XS.iconst X0.here hx rfl (hb hby own_d2_70) k) ?_
                show own_Fin _ _ _ _ _ _ (s₁.setTop (mkF m 71 #[.val (.int p1)] [(.int (0 : Int32))]))
                refine own_retN X0 hx hlk (t := .boolean) hret (by simp) (hb hby own_d2_71) (by decide) (by decide) ?_
                try rw [e0]
                exact ⟨congrArg (fun z => some (Value.int z)) (Eq.symm (show own_ex p1 = _ from ((if_neg hc1_18).trans ((if_neg hc7_19).trans ((if_neg hc15_20).trans ((if_neg hc45_24).trans ((if_pos hc51_27).trans ((if_neg hc59_28).trans ((if_neg hc65_29).trans rfl))))))))), N0, rfl⟩
          ·
            show own_Fin _ _ _ _ _ _ (s₁.setTop (mkF m 51 #[.val (.int p1)] [(.int (57343 : Int32)), (.int p1)]))
            refine own_to (fun t k => XS.icmpNo X0.here hx rfl (hb hby own_d2_51) rfl (flt hc51_27).2.2.1 k) ?_
            show own_Fin _ _ _ _ _ _ (s₁.setTop (mkF m 54 #[.val (.int p1)] []))
            refine own_to (fun t k => XS.iconst X0.here hx rfl (hb hby own_d2_54) k) ?_
            show own_Fin _ _ _ _ _ _ (s₁.setTop (mkF m 55 #[.val (.int p1)] [(.int (1 : Int32))]))
            refine own_retN X0 hx hlk (t := .boolean) hret (by simp) (hb hby own_d2_55) (by decide) (by decide) ?_
            try rw [e0]
            exact ⟨congrArg (fun z => some (Value.int z)) (Eq.symm (show own_ex p1 = _ from ((if_neg hc1_18).trans ((if_neg hc7_19).trans ((if_neg hc15_20).trans ((if_neg hc45_24).trans ((if_neg hc51_27).trans rfl))))))), N0, rfl⟩
def own_isI (n : Int) : Int32 := (if n = 9 then (1 : Int32) else (if n = 10 then (1 : Int32) else (if n = 13 then (1 : Int32) else (if n < 32 then (if n < 57344 then (if n < 65536 then (0 : Int32) else (if 1114111 < n then (0 : Int32) else (1 : Int32))) else (if 65533 < n then (if n < 65536 then (0 : Int32) else (if 1114111 < n then (0 : Int32) else (1 : Int32))) else (1 : Int32))) else (if 55295 < n then (if n < 57344 then (if n < 65536 then (0 : Int32) else (if 1114111 < n then (0 : Int32) else (1 : Int32))) else (if 65533 < n then (if n < 65536 then (0 : Int32) else (if 1114111 < n then (0 : Int32) else (1 : Int32))) else (1 : Int32))) else (1 : Int32))))))
def own_exI (n : Int) : Int32 := (if n < 0 then (1 : Int32) else (if 1114111 < n then (1 : Int32) else (if n < 32 then (if n = 9 then (0 : Int32) else (if n = 10 then (0 : Int32) else (if n = 13 then (0 : Int32) else (1 : Int32)))) else (if n < 55296 then (if n = 65534 then (1 : Int32) else (if n = 65535 then (1 : Int32) else (0 : Int32))) else (if 57343 < n then (if n = 65534 then (1 : Int32) else (if n = 65535 then (1 : Int32) else (0 : Int32))) else (1 : Int32))))))
theorem own_lt32 (x y : Int32) : (x < y) = (x.toInt < y.toInt) := propext Int32.lt_iff_toInt_lt
def own_E : List Int32 := [(0 : Int32), (8 : Int32), (9 : Int32), (10 : Int32), (11 : Int32), (13 : Int32), (14 : Int32), (32 : Int32), (55295 : Int32), (57344 : Int32), (65533 : Int32), (65535 : Int32), (65536 : Int32), (1114111 : Int32), (31 : Int32), (12 : Int32)]
def own_edge (j : Int32) : Int32 := own_E.getD j.toNatClampNeg 0
theorem own_getD (L : List Int32) (n : Nat) : (L.map Value.int).getD n (.int (0 : Int32)) = Value.int (L.getD n 0) := by
  simp only [List.getD_eq_getElem?_getD, List.getElem?_map]
  cases L[n]? <;> rfl
theorem own_in (p : Int32) : ¬ (p &&& (15 : Int32)) < 0 ∧ (p &&& (15 : Int32)) < (16 : Int32) := by
  have e : (p &&& 15).toInt = p.toInt % 2 ^ 4 := Jvm.Kit.i32_mask p 15 (k := 4) (by decide) (by decide)
  rw [own_lt32, own_lt32, e, Int32.toInt_zero, show (16 : Int32).toInt = 16 from by decide]
  omega
theorem own_eq32 (x y : Int32) : (x = y) = (x.toInt = y.toInt) := propext Int32.toInt_inj.symm
theorem own_isI_eq (c : Int32) : own_is c = own_isI c.toInt := by
  unfold own_is own_isI
  simp only [own_lt32, own_eq32, show (0 : Int32).toInt = 0 from by decide, show (9 : Int32).toInt = 9 from by decide, show (10 : Int32).toInt = 10 from by decide, show (13 : Int32).toInt = 13 from by decide, show (32 : Int32).toInt = 32 from by decide, show (55295 : Int32).toInt = 55295 from by decide, show (55296 : Int32).toInt = 55296 from by decide, show (57343 : Int32).toInt = 57343 from by decide, show (57344 : Int32).toInt = 57344 from by decide, show (65533 : Int32).toInt = 65533 from by decide, show (65534 : Int32).toInt = 65534 from by decide, show (65535 : Int32).toInt = 65535 from by decide, show (65536 : Int32).toInt = 65536 from by decide, show (1114111 : Int32).toInt = 1114111 from by decide]
theorem own_exI_eq (c : Int32) : own_ex c = own_exI c.toInt := by
  unfold own_ex own_exI
  simp only [own_lt32, own_eq32, show (0 : Int32).toInt = 0 from by decide, show (9 : Int32).toInt = 9 from by decide, show (10 : Int32).toInt = 10 from by decide, show (13 : Int32).toInt = 13 from by decide, show (32 : Int32).toInt = 32 from by decide, show (55295 : Int32).toInt = 55295 from by decide, show (55296 : Int32).toInt = 55296 from by decide, show (57343 : Int32).toInt = 57343 from by decide, show (57344 : Int32).toInt = 57344 from by decide, show (65533 : Int32).toInt = 65533 from by decide, show (65534 : Int32).toInt = 65534 from by decide, show (65535 : Int32).toInt = 65535 from by decide, show (65536 : Int32).toInt = 65536 from by decide, show (1114111 : Int32).toInt = 1114111 from by decide]
set_option maxHeartbeats 4000000 in
theorem own_bothI (n : Int) : (own_exI n = 0 → own_isI n = 1) ∧ (¬ own_exI n = 0 → own_isI n = 0) := by
  unfold own_exI own_isI
  repeat' split
  all_goals first | omega | exact ⟨fun _ => rfl, fun h => absurd rfl h⟩ | exact ⟨fun h => absurd h (by decide), fun _ => rfl⟩
theorem own_both (c : Int32) : (own_ex c = 0 → own_is c = 1) ∧ (¬ own_ex c = 0 → own_is c = 0) := by
  rw [own_isI_eq, own_exI_eq]; exact own_bothI c.toInt
theorem own_pd0 : parseMethodDescriptor "(I)Z" = some ⟨[.int], some .boolean⟩ := by decide +kernel
theorem own_rm0_ef (m : MethodId) (p1 : Int32) (p2 : Int32) (p3 : Int32) : entryFrame m #[(.int p1), (.int p2), (.int p3)] maxLocals = mkF m 0 #[.val (.int p1), .val (.int p2), .val (.int p3), .unset, .unset, .unset, .unset] [] := by first | (simp [entryFrame, mkF, argsToLocals, Value.category, maxLocals]; done) | rfl
set_option maxRecDepth 65536 in
set_option maxHeartbeats 40000000 in
theorem own_rm0 (l : Launch) (Z : State) (a0 : Array Value) (hw : ∀ d ∈ tables_1, d.before a0 Z = true) (ws : List Jvm.Cond) (p1 : Int32) (p2 : Int32) (p3 : Int32) (h0 : Heap) (n0 : Nat) (Z0 : n0 ≤ h0.size) :
    own_Met l Z x code maxLocals ret ws room_1 #[(.int p1), (.int p2), (.int p3)] h0 (fun v h L => v = some (.int 1) ∧ Fr n0 L) := by
  refine own_enter (plainFor_of_name own_pn1) ?_
  intro p e s m below meth c s₁ X0 hx hZ hby hml hown hnm hret hlk e0
  have N0 := Fr.nil n0
  rw [own_rm0_ef m p1 p2 p3]
  show own_Fin _ _ _ _ _ _ (s₁.setTop (mkF m 0 #[.val (.int p1), .val (.int p2), .val (.int p3), .unset, .unset, .unset, .unset] []))
  refine own_to (fun t k => XS.bipush X0.here hx rfl (hb hby at_0) k) ?_
  show own_Fin _ _ _ _ _ _ (s₁.setTop (mkF m 2 #[.val (.int p1), .val (.int p2), .val (.int p3), .unset, .unset, .unset, .unset] [(.int (16 : Int32))]))
  obtain ⟨T30, h30, k30, X30, e30, E30, A30, A30x, st30⟩ := newPE X0 hx hZ (hw _ (List.mem_of_getElem? (i := 0) rfl)) e0 (g := (mkF m 2 #[.val (.int p1), .val (.int p2), .val (.int p3), .unset, .unset, .unset, .unset] [(.int (16 : Int32))])) rfl (hb hby at_2) rfl (by decide) (cap := 16) (by decide) (by decide) (by decide) (by decide) (ad := "[I") (by decide)
  obtain ⟨b, q30⟩ : ∃ z, z = h0.size := ⟨_, rfl⟩
  rw [← q30] at A30 A30x st30
  have g_b : n0 ≤ b := Nat.le_trans Z0 (Nat.le_of_eq q30.symm)
  have V30 := Arv.new A30 (by decide)
  refine own_to (fun t k => st30 t k) ?_
  show own_Fin _ _ _ _ _ _ (T30.setTop (mkF m 4 #[.val (.int p1), .val (.int p2), .val (.int p3), .unset, .unset, .unset, .unset] [(.ref b)]))
  have V31p : Arv Z h30 b k30 .int (16 : Int32) [(.int (0 : Int32)), (.int (0 : Int32)), (.int (0 : Int32)), (.int (0 : Int32)), (.int (0 : Int32)), (.int (0 : Int32)), (.int (0 : Int32)), (.int (0 : Int32)), (.int (0 : Int32)), (.int (0 : Int32)), (.int (0 : Int32)), (.int (0 : Int32)), (.int (0 : Int32)), (.int (0 : Int32)), (.int (0 : Int32)), (.int (0 : Int32))] (.int (0 : Int32)) := V30.pad (pad_rep [] (.int (0 : Int32)) 16)
  refine own_to (fun t k => XS.dup X30.here hx rfl (hb hby at_4) rfl rfl k) ?_
  show own_Fin _ _ _ _ _ _ (T30.setTop (mkF m 5 #[.val (.int p1), .val (.int p2), .val (.int p3), .unset, .unset, .unset, .unset] [(.ref b), (.ref b)]))
  refine own_to (fun t k => XS.iconst X30.here hx rfl (hb hby at_5) k) ?_
  show own_Fin _ _ _ _ _ _ (T30.setTop (mkF m 6 #[.val (.int p1), .val (.int p2), .val (.int p3), .unset, .unset, .unset, .unset] [(.int (0 : Int32)), (.ref b), (.ref b)]))
  refine own_to (fun t k => XS.iconst X30.here hx rfl (hb hby at_6) k) ?_
  show own_Fin _ _ _ _ _ _ (T30.setTop (mkF m 7 #[.val (.int p1), .val (.int p2), .val (.int p3), .unset, .unset, .unset, .unset] [(.int (0 : Int32)), (.int (0 : Int32)), (.ref b), (.ref b)]))
  obtain ⟨cl32, Ar32, qa32, Sa32, Na32, Ha32, Ga32⟩ := id V31p
  have hin33 : ¬ ((0 : Int32) < 0 ∨ cl32.slots.size ≤ ((0 : Int32)).toNatClampNeg) := inb_of Sa32 ⟨by decide, by decide⟩
  obtain ⟨T33, h33, X33, e33, W33, st33⟩ := stI X30 hx hZ e30 Ar32 (j := (0 : Int32)) hin33 (g := (mkF m 7 #[.val (.int p1), .val (.int p2), .val (.int p3), .unset, .unset, .unset, .unset] [(.int (0 : Int32)), (.int (0 : Int32)), (.ref b), (.ref b)])) rfl rfl (hb hby at_7)
  have N33 := Fr.snoc X33 N0 g_b
  have A30x_e33 := A30x.wr W33
  have V33 : Arv Z h33 b k30 .int (16 : Int32) [(.int (0 : Int32)), (.int (0 : Int32)), (.int (0 : Int32)), (.int (0 : Int32)), (.int (0 : Int32)), (.int (0 : Int32)), (.int (0 : Int32)), (.int (0 : Int32)), (.int (0 : Int32)), (.int (0 : Int32)), (.int (0 : Int32)), (.int (0 : Int32)), (.int (0 : Int32)), (.int (0 : Int32)), (.int (0 : Int32)), (.int (0 : Int32))] (.int (0 : Int32)) := Arv.set Ar32 qa32 Sa32 Na32 Ha32 Ga32 rfl W33 0 rfl (Nat.le_of_ble_eq_true rfl)
  refine own_to (fun t k => st33 t k) ?_
  show own_Fin _ _ _ _ _ _ (T33.setTop (mkF m 8 #[.val (.int p1), .val (.int p2), .val (.int p3), .unset, .unset, .unset, .unset] [(.ref b)]))
  refine own_to (fun t k => XS.dup X33.here hx rfl (hb hby at_8) rfl rfl k) ?_
  show own_Fin _ _ _ _ _ _ (T33.setTop (mkF m 9 #[.val (.int p1), .val (.int p2), .val (.int p3), .unset, .unset, .unset, .unset] [(.ref b), (.ref b)]))
  refine own_to (fun t k => XS.iconst X33.here hx rfl (hb hby at_9) k) ?_
  show own_Fin _ _ _ _ _ _ (T33.setTop (mkF m 10 #[.val (.int p1), .val (.int p2), .val (.int p3), .unset, .unset, .unset, .unset] [(.int (1 : Int32)), (.ref b), (.ref b)]))
  refine own_to (fun t k => XS.bipush X33.here hx rfl (hb hby at_10) k) ?_
  show own_Fin _ _ _ _ _ _ (T33.setTop (mkF m 12 #[.val (.int p1), .val (.int p2), .val (.int p3), .unset, .unset, .unset, .unset] [(.int (8 : Int32)), (.int (1 : Int32)), (.ref b), (.ref b)]))
  obtain ⟨cl34, Ar34, qa34, Sa34, Na34, Ha34, Ga34⟩ := id V33
  have hin35 : ¬ ((1 : Int32) < 0 ∨ cl34.slots.size ≤ ((1 : Int32)).toNatClampNeg) := inb_of Sa34 ⟨by decide, by decide⟩
  obtain ⟨T35, h35, X35, e35, W35, st35⟩ := stI X33 hx hZ e33 Ar34 (j := (1 : Int32)) hin35 (g := (mkF m 12 #[.val (.int p1), .val (.int p2), .val (.int p3), .unset, .unset, .unset, .unset] [(.int (8 : Int32)), (.int (1 : Int32)), (.ref b), (.ref b)])) rfl rfl (hb hby at_12)
  have N35 := Fr.snoc X35 N33 g_b
  have A30x_e35 := A30x_e33.wr W35
  have V35 : Arv Z h35 b k30 .int (16 : Int32) [(.int (0 : Int32)), (.int (8 : Int32)), (.int (0 : Int32)), (.int (0 : Int32)), (.int (0 : Int32)), (.int (0 : Int32)), (.int (0 : Int32)), (.int (0 : Int32)), (.int (0 : Int32)), (.int (0 : Int32)), (.int (0 : Int32)), (.int (0 : Int32)), (.int (0 : Int32)), (.int (0 : Int32)), (.int (0 : Int32)), (.int (0 : Int32))] (.int (0 : Int32)) := Arv.set Ar34 qa34 Sa34 Na34 Ha34 Ga34 rfl W35 1 rfl (Nat.le_of_ble_eq_true rfl)
  refine own_to (fun t k => st35 t k) ?_
  show own_Fin _ _ _ _ _ _ (T35.setTop (mkF m 13 #[.val (.int p1), .val (.int p2), .val (.int p3), .unset, .unset, .unset, .unset] [(.ref b)]))
  refine own_to (fun t k => XS.dup X35.here hx rfl (hb hby at_13) rfl rfl k) ?_
  show own_Fin _ _ _ _ _ _ (T35.setTop (mkF m 14 #[.val (.int p1), .val (.int p2), .val (.int p3), .unset, .unset, .unset, .unset] [(.ref b), (.ref b)]))
  refine own_to (fun t k => XS.iconst X35.here hx rfl (hb hby at_14) k) ?_
  show own_Fin _ _ _ _ _ _ (T35.setTop (mkF m 15 #[.val (.int p1), .val (.int p2), .val (.int p3), .unset, .unset, .unset, .unset] [(.int (2 : Int32)), (.ref b), (.ref b)]))
  refine own_to (fun t k => XS.bipush X35.here hx rfl (hb hby at_15) k) ?_
  show own_Fin _ _ _ _ _ _ (T35.setTop (mkF m 17 #[.val (.int p1), .val (.int p2), .val (.int p3), .unset, .unset, .unset, .unset] [(.int (9 : Int32)), (.int (2 : Int32)), (.ref b), (.ref b)]))
  obtain ⟨cl36, Ar36, qa36, Sa36, Na36, Ha36, Ga36⟩ := id V35
  have hin37 : ¬ ((2 : Int32) < 0 ∨ cl36.slots.size ≤ ((2 : Int32)).toNatClampNeg) := inb_of Sa36 ⟨by decide, by decide⟩
  obtain ⟨T37, h37, X37, e37, W37, st37⟩ := stI X35 hx hZ e35 Ar36 (j := (2 : Int32)) hin37 (g := (mkF m 17 #[.val (.int p1), .val (.int p2), .val (.int p3), .unset, .unset, .unset, .unset] [(.int (9 : Int32)), (.int (2 : Int32)), (.ref b), (.ref b)])) rfl rfl (hb hby at_17)
  have N37 := Fr.snoc X37 N35 g_b
  have A30x_e37 := A30x_e35.wr W37
  have V37 : Arv Z h37 b k30 .int (16 : Int32) [(.int (0 : Int32)), (.int (8 : Int32)), (.int (9 : Int32)), (.int (0 : Int32)), (.int (0 : Int32)), (.int (0 : Int32)), (.int (0 : Int32)), (.int (0 : Int32)), (.int (0 : Int32)), (.int (0 : Int32)), (.int (0 : Int32)), (.int (0 : Int32)), (.int (0 : Int32)), (.int (0 : Int32)), (.int (0 : Int32)), (.int (0 : Int32))] (.int (0 : Int32)) := Arv.set Ar36 qa36 Sa36 Na36 Ha36 Ga36 rfl W37 2 rfl (Nat.le_of_ble_eq_true rfl)
  refine own_to (fun t k => st37 t k) ?_
  show own_Fin _ _ _ _ _ _ (T37.setTop (mkF m 18 #[.val (.int p1), .val (.int p2), .val (.int p3), .unset, .unset, .unset, .unset] [(.ref b)]))
  refine own_to (fun t k => XS.dup X37.here hx rfl (hb hby at_18) rfl rfl k) ?_
  show own_Fin _ _ _ _ _ _ (T37.setTop (mkF m 19 #[.val (.int p1), .val (.int p2), .val (.int p3), .unset, .unset, .unset, .unset] [(.ref b), (.ref b)]))
  refine own_to (fun t k => XS.iconst X37.here hx rfl (hb hby at_19) k) ?_
  show own_Fin _ _ _ _ _ _ (T37.setTop (mkF m 20 #[.val (.int p1), .val (.int p2), .val (.int p3), .unset, .unset, .unset, .unset] [(.int (3 : Int32)), (.ref b), (.ref b)]))
  refine own_to (fun t k => XS.bipush X37.here hx rfl (hb hby at_20) k) ?_
  show own_Fin _ _ _ _ _ _ (T37.setTop (mkF m 22 #[.val (.int p1), .val (.int p2), .val (.int p3), .unset, .unset, .unset, .unset] [(.int (10 : Int32)), (.int (3 : Int32)), (.ref b), (.ref b)]))
  obtain ⟨cl38, Ar38, qa38, Sa38, Na38, Ha38, Ga38⟩ := id V37
  have hin39 : ¬ ((3 : Int32) < 0 ∨ cl38.slots.size ≤ ((3 : Int32)).toNatClampNeg) := inb_of Sa38 ⟨by decide, by decide⟩
  obtain ⟨T39, h39, X39, e39, W39, st39⟩ := stI X37 hx hZ e37 Ar38 (j := (3 : Int32)) hin39 (g := (mkF m 22 #[.val (.int p1), .val (.int p2), .val (.int p3), .unset, .unset, .unset, .unset] [(.int (10 : Int32)), (.int (3 : Int32)), (.ref b), (.ref b)])) rfl rfl (hb hby at_22)
  have N39 := Fr.snoc X39 N37 g_b
  have A30x_e39 := A30x_e37.wr W39
  have V39 : Arv Z h39 b k30 .int (16 : Int32) [(.int (0 : Int32)), (.int (8 : Int32)), (.int (9 : Int32)), (.int (10 : Int32)), (.int (0 : Int32)), (.int (0 : Int32)), (.int (0 : Int32)), (.int (0 : Int32)), (.int (0 : Int32)), (.int (0 : Int32)), (.int (0 : Int32)), (.int (0 : Int32)), (.int (0 : Int32)), (.int (0 : Int32)), (.int (0 : Int32)), (.int (0 : Int32))] (.int (0 : Int32)) := Arv.set Ar38 qa38 Sa38 Na38 Ha38 Ga38 rfl W39 3 rfl (Nat.le_of_ble_eq_true rfl)
  refine own_to (fun t k => st39 t k) ?_
  show own_Fin _ _ _ _ _ _ (T39.setTop (mkF m 23 #[.val (.int p1), .val (.int p2), .val (.int p3), .unset, .unset, .unset, .unset] [(.ref b)]))
  refine own_to (fun t k => XS.dup X39.here hx rfl (hb hby at_23) rfl rfl k) ?_
  show own_Fin _ _ _ _ _ _ (T39.setTop (mkF m 24 #[.val (.int p1), .val (.int p2), .val (.int p3), .unset, .unset, .unset, .unset] [(.ref b), (.ref b)]))
  refine own_to (fun t k => XS.iconst X39.here hx rfl (hb hby at_24) k) ?_
  show own_Fin _ _ _ _ _ _ (T39.setTop (mkF m 25 #[.val (.int p1), .val (.int p2), .val (.int p3), .unset, .unset, .unset, .unset] [(.int (4 : Int32)), (.ref b), (.ref b)]))
  refine own_to (fun t k => XS.bipush X39.here hx rfl (hb hby at_25) k) ?_
  show own_Fin _ _ _ _ _ _ (T39.setTop (mkF m 27 #[.val (.int p1), .val (.int p2), .val (.int p3), .unset, .unset, .unset, .unset] [(.int (11 : Int32)), (.int (4 : Int32)), (.ref b), (.ref b)]))
  obtain ⟨cl40, Ar40, qa40, Sa40, Na40, Ha40, Ga40⟩ := id V39
  have hin41 : ¬ ((4 : Int32) < 0 ∨ cl40.slots.size ≤ ((4 : Int32)).toNatClampNeg) := inb_of Sa40 ⟨by decide, by decide⟩
  obtain ⟨T41, h41, X41, e41, W41, st41⟩ := stI X39 hx hZ e39 Ar40 (j := (4 : Int32)) hin41 (g := (mkF m 27 #[.val (.int p1), .val (.int p2), .val (.int p3), .unset, .unset, .unset, .unset] [(.int (11 : Int32)), (.int (4 : Int32)), (.ref b), (.ref b)])) rfl rfl (hb hby at_27)
  have N41 := Fr.snoc X41 N39 g_b
  have A30x_e41 := A30x_e39.wr W41
  have V41 : Arv Z h41 b k30 .int (16 : Int32) [(.int (0 : Int32)), (.int (8 : Int32)), (.int (9 : Int32)), (.int (10 : Int32)), (.int (11 : Int32)), (.int (0 : Int32)), (.int (0 : Int32)), (.int (0 : Int32)), (.int (0 : Int32)), (.int (0 : Int32)), (.int (0 : Int32)), (.int (0 : Int32)), (.int (0 : Int32)), (.int (0 : Int32)), (.int (0 : Int32)), (.int (0 : Int32))] (.int (0 : Int32)) := Arv.set Ar40 qa40 Sa40 Na40 Ha40 Ga40 rfl W41 4 rfl (Nat.le_of_ble_eq_true rfl)
  refine own_to (fun t k => st41 t k) ?_
  show own_Fin _ _ _ _ _ _ (T41.setTop (mkF m 28 #[.val (.int p1), .val (.int p2), .val (.int p3), .unset, .unset, .unset, .unset] [(.ref b)]))
  refine own_to (fun t k => XS.dup X41.here hx rfl (hb hby at_28) rfl rfl k) ?_
  show own_Fin _ _ _ _ _ _ (T41.setTop (mkF m 29 #[.val (.int p1), .val (.int p2), .val (.int p3), .unset, .unset, .unset, .unset] [(.ref b), (.ref b)]))
  refine own_to (fun t k => XS.iconst X41.here hx rfl (hb hby at_29) k) ?_
  show own_Fin _ _ _ _ _ _ (T41.setTop (mkF m 30 #[.val (.int p1), .val (.int p2), .val (.int p3), .unset, .unset, .unset, .unset] [(.int (5 : Int32)), (.ref b), (.ref b)]))
  refine own_to (fun t k => XS.bipush X41.here hx rfl (hb hby at_30) k) ?_
  show own_Fin _ _ _ _ _ _ (T41.setTop (mkF m 32 #[.val (.int p1), .val (.int p2), .val (.int p3), .unset, .unset, .unset, .unset] [(.int (13 : Int32)), (.int (5 : Int32)), (.ref b), (.ref b)]))
  obtain ⟨cl42, Ar42, qa42, Sa42, Na42, Ha42, Ga42⟩ := id V41
  have hin43 : ¬ ((5 : Int32) < 0 ∨ cl42.slots.size ≤ ((5 : Int32)).toNatClampNeg) := inb_of Sa42 ⟨by decide, by decide⟩
  obtain ⟨T43, h43, X43, e43, W43, st43⟩ := stI X41 hx hZ e41 Ar42 (j := (5 : Int32)) hin43 (g := (mkF m 32 #[.val (.int p1), .val (.int p2), .val (.int p3), .unset, .unset, .unset, .unset] [(.int (13 : Int32)), (.int (5 : Int32)), (.ref b), (.ref b)])) rfl rfl (hb hby at_32)
  have N43 := Fr.snoc X43 N41 g_b
  have A30x_e43 := A30x_e41.wr W43
  have V43 : Arv Z h43 b k30 .int (16 : Int32) [(.int (0 : Int32)), (.int (8 : Int32)), (.int (9 : Int32)), (.int (10 : Int32)), (.int (11 : Int32)), (.int (13 : Int32)), (.int (0 : Int32)), (.int (0 : Int32)), (.int (0 : Int32)), (.int (0 : Int32)), (.int (0 : Int32)), (.int (0 : Int32)), (.int (0 : Int32)), (.int (0 : Int32)), (.int (0 : Int32)), (.int (0 : Int32))] (.int (0 : Int32)) := Arv.set Ar42 qa42 Sa42 Na42 Ha42 Ga42 rfl W43 5 rfl (Nat.le_of_ble_eq_true rfl)
  refine own_to (fun t k => st43 t k) ?_
  show own_Fin _ _ _ _ _ _ (T43.setTop (mkF m 33 #[.val (.int p1), .val (.int p2), .val (.int p3), .unset, .unset, .unset, .unset] [(.ref b)]))
  refine own_to (fun t k => XS.dup X43.here hx rfl (hb hby at_33) rfl rfl k) ?_
  show own_Fin _ _ _ _ _ _ (T43.setTop (mkF m 34 #[.val (.int p1), .val (.int p2), .val (.int p3), .unset, .unset, .unset, .unset] [(.ref b), (.ref b)]))
  refine own_to (fun t k => XS.bipush X43.here hx rfl (hb hby at_34) k) ?_
  show own_Fin _ _ _ _ _ _ (T43.setTop (mkF m 36 #[.val (.int p1), .val (.int p2), .val (.int p3), .unset, .unset, .unset, .unset] [(.int (6 : Int32)), (.ref b), (.ref b)]))
  refine own_to (fun t k => XS.bipush X43.here hx rfl (hb hby at_36) k) ?_
  show own_Fin _ _ _ _ _ _ (T43.setTop (mkF m 38 #[.val (.int p1), .val (.int p2), .val (.int p3), .unset, .unset, .unset, .unset] [(.int (14 : Int32)), (.int (6 : Int32)), (.ref b), (.ref b)]))
  obtain ⟨cl44, Ar44, qa44, Sa44, Na44, Ha44, Ga44⟩ := id V43
  have hin45 : ¬ ((6 : Int32) < 0 ∨ cl44.slots.size ≤ ((6 : Int32)).toNatClampNeg) := inb_of Sa44 ⟨by decide, by decide⟩
  obtain ⟨T45, h45, X45, e45, W45, st45⟩ := stI X43 hx hZ e43 Ar44 (j := (6 : Int32)) hin45 (g := (mkF m 38 #[.val (.int p1), .val (.int p2), .val (.int p3), .unset, .unset, .unset, .unset] [(.int (14 : Int32)), (.int (6 : Int32)), (.ref b), (.ref b)])) rfl rfl (hb hby at_38)
  have N45 := Fr.snoc X45 N43 g_b
  have A30x_e45 := A30x_e43.wr W45
  have V45 : Arv Z h45 b k30 .int (16 : Int32) [(.int (0 : Int32)), (.int (8 : Int32)), (.int (9 : Int32)), (.int (10 : Int32)), (.int (11 : Int32)), (.int (13 : Int32)), (.int (14 : Int32)), (.int (0 : Int32)), (.int (0 : Int32)), (.int (0 : Int32)), (.int (0 : Int32)), (.int (0 : Int32)), (.int (0 : Int32)), (.int (0 : Int32)), (.int (0 : Int32)), (.int (0 : Int32))] (.int (0 : Int32)) := Arv.set Ar44 qa44 Sa44 Na44 Ha44 Ga44 rfl W45 6 rfl (Nat.le_of_ble_eq_true rfl)
  refine own_to (fun t k => st45 t k) ?_
  show own_Fin _ _ _ _ _ _ (T45.setTop (mkF m 39 #[.val (.int p1), .val (.int p2), .val (.int p3), .unset, .unset, .unset, .unset] [(.ref b)]))
  refine own_to (fun t k => XS.dup X45.here hx rfl (hb hby at_39) rfl rfl k) ?_
  show own_Fin _ _ _ _ _ _ (T45.setTop (mkF m 40 #[.val (.int p1), .val (.int p2), .val (.int p3), .unset, .unset, .unset, .unset] [(.ref b), (.ref b)]))
  refine own_to (fun t k => XS.bipush X45.here hx rfl (hb hby at_40) k) ?_
  show own_Fin _ _ _ _ _ _ (T45.setTop (mkF m 42 #[.val (.int p1), .val (.int p2), .val (.int p3), .unset, .unset, .unset, .unset] [(.int (7 : Int32)), (.ref b), (.ref b)]))
  refine own_to (fun t k => XS.bipush X45.here hx rfl (hb hby at_42) k) ?_
  show own_Fin _ _ _ _ _ _ (T45.setTop (mkF m 44 #[.val (.int p1), .val (.int p2), .val (.int p3), .unset, .unset, .unset, .unset] [(.int (32 : Int32)), (.int (7 : Int32)), (.ref b), (.ref b)]))
  obtain ⟨cl46, Ar46, qa46, Sa46, Na46, Ha46, Ga46⟩ := id V45
  have hin47 : ¬ ((7 : Int32) < 0 ∨ cl46.slots.size ≤ ((7 : Int32)).toNatClampNeg) := inb_of Sa46 ⟨by decide, by decide⟩
  obtain ⟨T47, h47, X47, e47, W47, st47⟩ := stI X45 hx hZ e45 Ar46 (j := (7 : Int32)) hin47 (g := (mkF m 44 #[.val (.int p1), .val (.int p2), .val (.int p3), .unset, .unset, .unset, .unset] [(.int (32 : Int32)), (.int (7 : Int32)), (.ref b), (.ref b)])) rfl rfl (hb hby at_44)
  have N47 := Fr.snoc X47 N45 g_b
  have A30x_e47 := A30x_e45.wr W47
  have V47 : Arv Z h47 b k30 .int (16 : Int32) [(.int (0 : Int32)), (.int (8 : Int32)), (.int (9 : Int32)), (.int (10 : Int32)), (.int (11 : Int32)), (.int (13 : Int32)), (.int (14 : Int32)), (.int (32 : Int32)), (.int (0 : Int32)), (.int (0 : Int32)), (.int (0 : Int32)), (.int (0 : Int32)), (.int (0 : Int32)), (.int (0 : Int32)), (.int (0 : Int32)), (.int (0 : Int32))] (.int (0 : Int32)) := Arv.set Ar46 qa46 Sa46 Na46 Ha46 Ga46 rfl W47 7 rfl (Nat.le_of_ble_eq_true rfl)
  refine own_to (fun t k => st47 t k) ?_
  show own_Fin _ _ _ _ _ _ (T47.setTop (mkF m 45 #[.val (.int p1), .val (.int p2), .val (.int p3), .unset, .unset, .unset, .unset] [(.ref b)]))
  refine own_to (fun t k => XS.dup X47.here hx rfl (hb hby at_45) rfl rfl k) ?_
  show own_Fin _ _ _ _ _ _ (T47.setTop (mkF m 46 #[.val (.int p1), .val (.int p2), .val (.int p3), .unset, .unset, .unset, .unset] [(.ref b), (.ref b)]))
  refine own_to (fun t k => XS.bipush X47.here hx rfl (hb hby at_46) k) ?_
  show own_Fin _ _ _ _ _ _ (T47.setTop (mkF m 48 #[.val (.int p1), .val (.int p2), .val (.int p3), .unset, .unset, .unset, .unset] [(.int (8 : Int32)), (.ref b), (.ref b)]))
  refine own_to (fun t k => X47.ldcInt hx hown (mvT hZ (hw _ (List.mem_of_getElem? (i := 1) rfl))) (g := (mkF m 48 #[.val (.int p1), .val (.int p2), .val (.int p3), .unset, .unset, .unset, .unset] [(.int (8 : Int32)), (.ref b), (.ref b)])) rfl (hb hby at_48) _ k) ?_
  show own_Fin _ _ _ _ _ _ (T47.setTop (mkF m 50 #[.val (.int p1), .val (.int p2), .val (.int p3), .unset, .unset, .unset, .unset] [(.int (55295 : Int32)), (.int (8 : Int32)), (.ref b), (.ref b)]))
  obtain ⟨cl48, Ar48, qa48, Sa48, Na48, Ha48, Ga48⟩ := id V47
  have hin49 : ¬ ((8 : Int32) < 0 ∨ cl48.slots.size ≤ ((8 : Int32)).toNatClampNeg) := inb_of Sa48 ⟨by decide, by decide⟩
  obtain ⟨T49, h49, X49, e49, W49, st49⟩ := stI X47 hx hZ e47 Ar48 (j := (8 : Int32)) hin49 (g := (mkF m 50 #[.val (.int p1), .val (.int p2), .val (.int p3), .unset, .unset, .unset, .unset] [(.int (55295 : Int32)), (.int (8 : Int32)), (.ref b), (.ref b)])) rfl rfl (hb hby at_50)
  have N49 := Fr.snoc X49 N47 g_b
  have A30x_e49 := A30x_e47.wr W49
  have V49 : Arv Z h49 b k30 .int (16 : Int32) [(.int (0 : Int32)), (.int (8 : Int32)), (.int (9 : Int32)), (.int (10 : Int32)), (.int (11 : Int32)), (.int (13 : Int32)), (.int (14 : Int32)), (.int (32 : Int32)), (.int (55295 : Int32)), (.int (0 : Int32)), (.int (0 : Int32)), (.int (0 : Int32)), (.int (0 : Int32)), (.int (0 : Int32)), (.int (0 : Int32)), (.int (0 : Int32))] (.int (0 : Int32)) := Arv.set Ar48 qa48 Sa48 Na48 Ha48 Ga48 rfl W49 8 rfl (Nat.le_of_ble_eq_true rfl)
  refine own_to (fun t k => st49 t k) ?_
  show own_Fin _ _ _ _ _ _ (T49.setTop (mkF m 51 #[.val (.int p1), .val (.int p2), .val (.int p3), .unset, .unset, .unset, .unset] [(.ref b)]))
  refine own_to (fun t k => XS.dup X49.here hx rfl (hb hby at_51) rfl rfl k) ?_
  show own_Fin _ _ _ _ _ _ (T49.setTop (mkF m 52 #[.val (.int p1), .val (.int p2), .val (.int p3), .unset, .unset, .unset, .unset] [(.ref b), (.ref b)]))
  refine own_to (fun t k => XS.bipush X49.here hx rfl (hb hby at_52) k) ?_
  show own_Fin _ _ _ _ _ _ (T49.setTop (mkF m 54 #[.val (.int p1), .val (.int p2), .val (.int p3), .unset, .unset, .unset, .unset] [(.int (9 : Int32)), (.ref b), (.ref b)]))
  refine own_to (fun t k => X49.ldcInt hx hown (mvT hZ (hw _ (List.mem_of_getElem? (i := 2) rfl))) (g := (mkF m 54 #[.val (.int p1), .val (.int p2), .val (.int p3), .unset, .unset, .unset, .unset] [(.int (9 : Int32)), (.ref b), (.ref b)])) rfl (hb hby at_54) _ k) ?_
  show own_Fin _ _ _ _ _ _ (T49.setTop (mkF m 56 #[.val (.int p1), .val (.int p2), .val (.int p3), .unset, .unset, .unset, .unset] [(.int (57344 : Int32)), (.int (9 : Int32)), (.ref b), (.ref b)]))
  obtain ⟨cl50, Ar50, qa50, Sa50, Na50, Ha50, Ga50⟩ := id V49
  have hin51 : ¬ ((9 : Int32) < 0 ∨ cl50.slots.size ≤ ((9 : Int32)).toNatClampNeg) := inb_of Sa50 ⟨by decide, by decide⟩
  obtain ⟨T51, h51, X51, e51, W51, st51⟩ := stI X49 hx hZ e49 Ar50 (j := (9 : Int32)) hin51 (g := (mkF m 56 #[.val (.int p1), .val (.int p2), .val (.int p3), .unset, .unset, .unset, .unset] [(.int (57344 : Int32)), (.int (9 : Int32)), (.ref b), (.ref b)])) rfl rfl (hb hby at_56)
  have N51 := Fr.snoc X51 N49 g_b
  have A30x_e51 := A30x_e49.wr W51
  have V51 : Arv Z h51 b k30 .int (16 : Int32) [(.int (0 : Int32)), (.int (8 : Int32)), (.int (9 : Int32)), (.int (10 : Int32)), (.int (11 : Int32)), (.int (13 : Int32)), (.int (14 : Int32)), (.int (32 : Int32)), (.int (55295 : Int32)), (.int (57344 : Int32)), (.int (0 : Int32)), (.int (0 : Int32)), (.int (0 : Int32)), (.int (0 : Int32)), (.int (0 : Int32)), (.int (0 : Int32))] (.int (0 : Int32)) := Arv.set Ar50 qa50 Sa50 Na50 Ha50 Ga50 rfl W51 9 rfl (Nat.le_of_ble_eq_true rfl)
  refine own_to (fun t k => st51 t k) ?_
  show own_Fin _ _ _ _ _ _ (T51.setTop (mkF m 57 #[.val (.int p1), .val (.int p2), .val (.int p3), .unset, .unset, .unset, .unset] [(.ref b)]))
  refine own_to (fun t k => XS.dup X51.here hx rfl (hb hby at_57) rfl rfl k) ?_
  show own_Fin _ _ _ _ _ _ (T51.setTop (mkF m 58 #[.val (.int p1), .val (.int p2), .val (.int p3), .unset, .unset, .unset, .unset] [(.ref b), (.ref b)]))
  refine own_to (fun t k => XS.bipush X51.here hx rfl (hb hby at_58) k) ?_
  show own_Fin _ _ _ _ _ _ (T51.setTop (mkF m 60 #[.val (.int p1), .val (.int p2), .val (.int p3), .unset, .unset, .unset, .unset] [(.int (10 : Int32)), (.ref b), (.ref b)]))
  refine own_to (fun t k => X51.ldcInt hx hown (mvT hZ (hw _ (List.mem_of_getElem? (i := 3) rfl))) (g := (mkF m 60 #[.val (.int p1), .val (.int p2), .val (.int p3), .unset, .unset, .unset, .unset] [(.int (10 : Int32)), (.ref b), (.ref b)])) rfl (hb hby at_60) _ k) ?_
  show own_Fin _ _ _ _ _ _ (T51.setTop (mkF m 62 #[.val (.int p1), .val (.int p2), .val (.int p3), .unset, .unset, .unset, .unset] [(.int (65533 : Int32)), (.int (10 : Int32)), (.ref b), (.ref b)]))
  obtain ⟨cl52, Ar52, qa52, Sa52, Na52, Ha52, Ga52⟩ := id V51
  have hin53 : ¬ ((10 : Int32) < 0 ∨ cl52.slots.size ≤ ((10 : Int32)).toNatClampNeg) := inb_of Sa52 ⟨by decide, by decide⟩
  obtain ⟨T53, h53, X53, e53, W53, st53⟩ := stI X51 hx hZ e51 Ar52 (j := (10 : Int32)) hin53 (g := (mkF m 62 #[.val (.int p1), .val (.int p2), .val (.int p3), .unset, .unset, .unset, .unset] [(.int (65533 : Int32)), (.int (10 : Int32)), (.ref b), (.ref b)])) rfl rfl (hb hby at_62)
  have N53 := Fr.snoc X53 N51 g_b
  have A30x_e53 := A30x_e51.wr W53
  have V53 : Arv Z h53 b k30 .int (16 : Int32) [(.int (0 : Int32)), (.int (8 : Int32)), (.int (9 : Int32)), (.int (10 : Int32)), (.int (11 : Int32)), (.int (13 : Int32)), (.int (14 : Int32)), (.int (32 : Int32)), (.int (55295 : Int32)), (.int (57344 : Int32)), (.int (65533 : Int32)), (.int (0 : Int32)), (.int (0 : Int32)), (.int (0 : Int32)), (.int (0 : Int32)), (.int (0 : Int32))] (.int (0 : Int32)) := Arv.set Ar52 qa52 Sa52 Na52 Ha52 Ga52 rfl W53 10 rfl (Nat.le_of_ble_eq_true rfl)
  refine own_to (fun t k => st53 t k) ?_
  show own_Fin _ _ _ _ _ _ (T53.setTop (mkF m 63 #[.val (.int p1), .val (.int p2), .val (.int p3), .unset, .unset, .unset, .unset] [(.ref b)]))
  refine own_to (fun t k => XS.dup X53.here hx rfl (hb hby at_63) rfl rfl k) ?_
  show own_Fin _ _ _ _ _ _ (T53.setTop (mkF m 64 #[.val (.int p1), .val (.int p2), .val (.int p3), .unset, .unset, .unset, .unset] [(.ref b), (.ref b)]))
  refine own_to (fun t k => XS.bipush X53.here hx rfl (hb hby at_64) k) ?_
  show own_Fin _ _ _ _ _ _ (T53.setTop (mkF m 66 #[.val (.int p1), .val (.int p2), .val (.int p3), .unset, .unset, .unset, .unset] [(.int (11 : Int32)), (.ref b), (.ref b)]))
  refine own_to (fun t k => X53.ldcInt hx hown (mvT hZ (hw _ (List.mem_of_getElem? (i := 4) rfl))) (g := (mkF m 66 #[.val (.int p1), .val (.int p2), .val (.int p3), .unset, .unset, .unset, .unset] [(.int (11 : Int32)), (.ref b), (.ref b)])) rfl (hb hby at_66) _ k) ?_
  show own_Fin _ _ _ _ _ _ (T53.setTop (mkF m 68 #[.val (.int p1), .val (.int p2), .val (.int p3), .unset, .unset, .unset, .unset] [(.int (65535 : Int32)), (.int (11 : Int32)), (.ref b), (.ref b)]))
  obtain ⟨cl54, Ar54, qa54, Sa54, Na54, Ha54, Ga54⟩ := id V53
  have hin55 : ¬ ((11 : Int32) < 0 ∨ cl54.slots.size ≤ ((11 : Int32)).toNatClampNeg) := inb_of Sa54 ⟨by decide, by decide⟩
  obtain ⟨T55, h55, X55, e55, W55, st55⟩ := stI X53 hx hZ e53 Ar54 (j := (11 : Int32)) hin55 (g := (mkF m 68 #[.val (.int p1), .val (.int p2), .val (.int p3), .unset, .unset, .unset, .unset] [(.int (65535 : Int32)), (.int (11 : Int32)), (.ref b), (.ref b)])) rfl rfl (hb hby at_68)
  have N55 := Fr.snoc X55 N53 g_b
  have A30x_e55 := A30x_e53.wr W55
  have V55 : Arv Z h55 b k30 .int (16 : Int32) [(.int (0 : Int32)), (.int (8 : Int32)), (.int (9 : Int32)), (.int (10 : Int32)), (.int (11 : Int32)), (.int (13 : Int32)), (.int (14 : Int32)), (.int (32 : Int32)), (.int (55295 : Int32)), (.int (57344 : Int32)), (.int (65533 : Int32)), (.int (65535 : Int32)), (.int (0 : Int32)), (.int (0 : Int32)), (.int (0 : Int32)), (.int (0 : Int32))] (.int (0 : Int32)) := Arv.set Ar54 qa54 Sa54 Na54 Ha54 Ga54 rfl W55 11 rfl (Nat.le_of_ble_eq_true rfl)
  refine own_to (fun t k => st55 t k) ?_
  show own_Fin _ _ _ _ _ _ (T55.setTop (mkF m 69 #[.val (.int p1), .val (.int p2), .val (.int p3), .unset, .unset, .unset, .unset] [(.ref b)]))
  refine own_to (fun t k => XS.dup X55.here hx rfl (hb hby at_69) rfl rfl k) ?_
  show own_Fin _ _ _ _ _ _ (T55.setTop (mkF m 70 #[.val (.int p1), .val (.int p2), .val (.int p3), .unset, .unset, .unset, .unset] [(.ref b), (.ref b)]))
  refine own_to (fun t k => XS.bipush X55.here hx rfl (hb hby at_70) k) ?_
  show own_Fin _ _ _ _ _ _ (T55.setTop (mkF m 72 #[.val (.int p1), .val (.int p2), .val (.int p3), .unset, .unset, .unset, .unset] [(.int (12 : Int32)), (.ref b), (.ref b)]))
  refine own_to (fun t k => X55.ldcInt hx hown (mvT hZ (hw _ (List.mem_of_getElem? (i := 5) rfl))) (g := (mkF m 72 #[.val (.int p1), .val (.int p2), .val (.int p3), .unset, .unset, .unset, .unset] [(.int (12 : Int32)), (.ref b), (.ref b)])) rfl (hb hby at_72) _ k) ?_
  show own_Fin _ _ _ _ _ _ (T55.setTop (mkF m 74 #[.val (.int p1), .val (.int p2), .val (.int p3), .unset, .unset, .unset, .unset] [(.int (65536 : Int32)), (.int (12 : Int32)), (.ref b), (.ref b)]))
  obtain ⟨cl56, Ar56, qa56, Sa56, Na56, Ha56, Ga56⟩ := id V55
  have hin57 : ¬ ((12 : Int32) < 0 ∨ cl56.slots.size ≤ ((12 : Int32)).toNatClampNeg) := inb_of Sa56 ⟨by decide, by decide⟩
  obtain ⟨T57, h57, X57, e57, W57, st57⟩ := stI X55 hx hZ e55 Ar56 (j := (12 : Int32)) hin57 (g := (mkF m 74 #[.val (.int p1), .val (.int p2), .val (.int p3), .unset, .unset, .unset, .unset] [(.int (65536 : Int32)), (.int (12 : Int32)), (.ref b), (.ref b)])) rfl rfl (hb hby at_74)
  have N57 := Fr.snoc X57 N55 g_b
  have A30x_e57 := A30x_e55.wr W57
  have V57 : Arv Z h57 b k30 .int (16 : Int32) [(.int (0 : Int32)), (.int (8 : Int32)), (.int (9 : Int32)), (.int (10 : Int32)), (.int (11 : Int32)), (.int (13 : Int32)), (.int (14 : Int32)), (.int (32 : Int32)), (.int (55295 : Int32)), (.int (57344 : Int32)), (.int (65533 : Int32)), (.int (65535 : Int32)), (.int (65536 : Int32)), (.int (0 : Int32)), (.int (0 : Int32)), (.int (0 : Int32))] (.int (0 : Int32)) := Arv.set Ar56 qa56 Sa56 Na56 Ha56 Ga56 rfl W57 12 rfl (Nat.le_of_ble_eq_true rfl)
  refine own_to (fun t k => st57 t k) ?_
  show own_Fin _ _ _ _ _ _ (T57.setTop (mkF m 75 #[.val (.int p1), .val (.int p2), .val (.int p3), .unset, .unset, .unset, .unset] [(.ref b)]))
  refine own_to (fun t k => XS.dup X57.here hx rfl (hb hby at_75) rfl rfl k) ?_
  show own_Fin _ _ _ _ _ _ (T57.setTop (mkF m 76 #[.val (.int p1), .val (.int p2), .val (.int p3), .unset, .unset, .unset, .unset] [(.ref b), (.ref b)]))
  refine own_to (fun t k => XS.bipush X57.here hx rfl (hb hby at_76) k) ?_
  show own_Fin _ _ _ _ _ _ (T57.setTop (mkF m 78 #[.val (.int p1), .val (.int p2), .val (.int p3), .unset, .unset, .unset, .unset] [(.int (13 : Int32)), (.ref b), (.ref b)]))
  refine own_to (fun t k => X57.ldcInt hx hown (mvT hZ (hw _ (List.mem_of_getElem? (i := 6) rfl))) (g := (mkF m 78 #[.val (.int p1), .val (.int p2), .val (.int p3), .unset, .unset, .unset, .unset] [(.int (13 : Int32)), (.ref b), (.ref b)])) rfl (hb hby at_78) _ k) ?_
  show own_Fin _ _ _ _ _ _ (T57.setTop (mkF m 80 #[.val (.int p1), .val (.int p2), .val (.int p3), .unset, .unset, .unset, .unset] [(.int (1114111 : Int32)), (.int (13 : Int32)), (.ref b), (.ref b)]))
  obtain ⟨cl58, Ar58, qa58, Sa58, Na58, Ha58, Ga58⟩ := id V57
  have hin59 : ¬ ((13 : Int32) < 0 ∨ cl58.slots.size ≤ ((13 : Int32)).toNatClampNeg) := inb_of Sa58 ⟨by decide, by decide⟩
  obtain ⟨T59, h59, X59, e59, W59, st59⟩ := stI X57 hx hZ e57 Ar58 (j := (13 : Int32)) hin59 (g := (mkF m 80 #[.val (.int p1), .val (.int p2), .val (.int p3), .unset, .unset, .unset, .unset] [(.int (1114111 : Int32)), (.int (13 : Int32)), (.ref b), (.ref b)])) rfl rfl (hb hby at_80)
  have N59 := Fr.snoc X59 N57 g_b
  have A30x_e59 := A30x_e57.wr W59
  have V59 : Arv Z h59 b k30 .int (16 : Int32) [(.int (0 : Int32)), (.int (8 : Int32)), (.int (9 : Int32)), (.int (10 : Int32)), (.int (11 : Int32)), (.int (13 : Int32)), (.int (14 : Int32)), (.int (32 : Int32)), (.int (55295 : Int32)), (.int (57344 : Int32)), (.int (65533 : Int32)), (.int (65535 : Int32)), (.int (65536 : Int32)), (.int (1114111 : Int32)), (.int (0 : Int32)), (.int (0 : Int32))] (.int (0 : Int32)) := Arv.set Ar58 qa58 Sa58 Na58 Ha58 Ga58 rfl W59 13 rfl (Nat.le_of_ble_eq_true rfl)
  refine own_to (fun t k => st59 t k) ?_
  show own_Fin _ _ _ _ _ _ (T59.setTop (mkF m 81 #[.val (.int p1), .val (.int p2), .val (.int p3), .unset, .unset, .unset, .unset] [(.ref b)]))
  refine own_to (fun t k => XS.dup X59.here hx rfl (hb hby at_81) rfl rfl k) ?_
  show own_Fin _ _ _ _ _ _ (T59.setTop (mkF m 82 #[.val (.int p1), .val (.int p2), .val (.int p3), .unset, .unset, .unset, .unset] [(.ref b), (.ref b)]))
  refine own_to (fun t k => XS.bipush X59.here hx rfl (hb hby at_82) k) ?_
  show own_Fin _ _ _ _ _ _ (T59.setTop (mkF m 84 #[.val (.int p1), .val (.int p2), .val (.int p3), .unset, .unset, .unset, .unset] [(.int (14 : Int32)), (.ref b), (.ref b)]))
  refine own_to (fun t k => XS.bipush X59.here hx rfl (hb hby at_84) k) ?_
  show own_Fin _ _ _ _ _ _ (T59.setTop (mkF m 86 #[.val (.int p1), .val (.int p2), .val (.int p3), .unset, .unset, .unset, .unset] [(.int (31 : Int32)), (.int (14 : Int32)), (.ref b), (.ref b)]))
  obtain ⟨cl60, Ar60, qa60, Sa60, Na60, Ha60, Ga60⟩ := id V59
  have hin61 : ¬ ((14 : Int32) < 0 ∨ cl60.slots.size ≤ ((14 : Int32)).toNatClampNeg) := inb_of Sa60 ⟨by decide, by decide⟩
  obtain ⟨T61, h61, X61, e61, W61, st61⟩ := stI X59 hx hZ e59 Ar60 (j := (14 : Int32)) hin61 (g := (mkF m 86 #[.val (.int p1), .val (.int p2), .val (.int p3), .unset, .unset, .unset, .unset] [(.int (31 : Int32)), (.int (14 : Int32)), (.ref b), (.ref b)])) rfl rfl (hb hby at_86)
  have N61 := Fr.snoc X61 N59 g_b
  have A30x_e61 := A30x_e59.wr W61
  have V61 : Arv Z h61 b k30 .int (16 : Int32) [(.int (0 : Int32)), (.int (8 : Int32)), (.int (9 : Int32)), (.int (10 : Int32)), (.int (11 : Int32)), (.int (13 : Int32)), (.int (14 : Int32)), (.int (32 : Int32)), (.int (55295 : Int32)), (.int (57344 : Int32)), (.int (65533 : Int32)), (.int (65535 : Int32)), (.int (65536 : Int32)), (.int (1114111 : Int32)), (.int (31 : Int32)), (.int (0 : Int32))] (.int (0 : Int32)) := Arv.set Ar60 qa60 Sa60 Na60 Ha60 Ga60 rfl W61 14 rfl (Nat.le_of_ble_eq_true rfl)
  refine own_to (fun t k => st61 t k) ?_
  show own_Fin _ _ _ _ _ _ (T61.setTop (mkF m 87 #[.val (.int p1), .val (.int p2), .val (.int p3), .unset, .unset, .unset, .unset] [(.ref b)]))
  refine own_to (fun t k => XS.dup X61.here hx rfl (hb hby at_87) rfl rfl k) ?_
  show own_Fin _ _ _ _ _ _ (T61.setTop (mkF m 88 #[.val (.int p1), .val (.int p2), .val (.int p3), .unset, .unset, .unset, .unset] [(.ref b), (.ref b)]))
  refine own_to (fun t k => XS.bipush X61.here hx rfl (hb hby at_88) k) ?_
  show own_Fin _ _ _ _ _ _ (T61.setTop (mkF m 90 #[.val (.int p1), .val (.int p2), .val (.int p3), .unset, .unset, .unset, .unset] [(.int (15 : Int32)), (.ref b), (.ref b)]))
  refine own_to (fun t k => XS.bipush X61.here hx rfl (hb hby at_90) k) ?_
  show own_Fin _ _ _ _ _ _ (T61.setTop (mkF m 92 #[.val (.int p1), .val (.int p2), .val (.int p3), .unset, .unset, .unset, .unset] [(.int (12 : Int32)), (.int (15 : Int32)), (.ref b), (.ref b)]))
  obtain ⟨cl62, Ar62, qa62, Sa62, Na62, Ha62, Ga62⟩ := id V61
  have hin63 : ¬ ((15 : Int32) < 0 ∨ cl62.slots.size ≤ ((15 : Int32)).toNatClampNeg) := inb_of Sa62 ⟨by decide, by decide⟩
  obtain ⟨T63, h63, X63, e63, W63, st63⟩ := stI X61 hx hZ e61 Ar62 (j := (15 : Int32)) hin63 (g := (mkF m 92 #[.val (.int p1), .val (.int p2), .val (.int p3), .unset, .unset, .unset, .unset] [(.int (12 : Int32)), (.int (15 : Int32)), (.ref b), (.ref b)])) rfl rfl (hb hby at_92)
  have N63 := Fr.snoc X63 N61 g_b
  have A30x_e63 := A30x_e61.wr W63
  have V63 : Arv Z h63 b k30 .int (16 : Int32) [(.int (0 : Int32)), (.int (8 : Int32)), (.int (9 : Int32)), (.int (10 : Int32)), (.int (11 : Int32)), (.int (13 : Int32)), (.int (14 : Int32)), (.int (32 : Int32)), (.int (55295 : Int32)), (.int (57344 : Int32)), (.int (65533 : Int32)), (.int (65535 : Int32)), (.int (65536 : Int32)), (.int (1114111 : Int32)), (.int (31 : Int32)), (.int (12 : Int32))] (.int (0 : Int32)) := Arv.set Ar62 qa62 Sa62 Na62 Ha62 Ga62 rfl W63 15 rfl (Nat.le_of_ble_eq_true rfl)
  refine own_to (fun t k => st63 t k) ?_
  show own_Fin _ _ _ _ _ _ (T63.setTop (mkF m 93 #[.val (.int p1), .val (.int p2), .val (.int p3), .unset, .unset, .unset, .unset] [(.ref b)]))
  refine own_to (fun t k => XS.astoreN X63.here hx rfl (hb hby at_93) rfl rfl (l' := #[.val (.int p1), .val (.int p2), .val (.int p3), .val (.ref b), .unset, .unset, .unset]) rfl k) ?_
  show own_Fin _ _ _ _ _ _ (T63.setTop (mkF m 94 #[.val (.int p1), .val (.int p2), .val (.int p3), .val (.ref b), .unset, .unset, .unset] []))
  refine own_to (fun t k => XS.aloadN X63.here hx rfl (hb hby at_94) rfl rfl k) ?_
  show own_Fin _ _ _ _ _ _ (T63.setTop (mkF m 95 #[.val (.int p1), .val (.int p2), .val (.int p3), .val (.ref b), .unset, .unset, .unset] [(.ref b)]))
  refine own_to (fun t k => XS.iloadN X63.here hx rfl (hb hby at_95) rfl k) ?_
  show own_Fin _ _ _ _ _ _ (T63.setTop (mkF m 96 #[.val (.int p1), .val (.int p2), .val (.int p3), .val (.ref b), .unset, .unset, .unset] [(.int p2), (.ref b)]))
  refine own_to (fun t k => XS.bipush X63.here hx rfl (hb hby at_96) k) ?_
  show own_Fin _ _ _ _ _ _ (T63.setTop (mkF m 98 #[.val (.int p1), .val (.int p2), .val (.int p3), .val (.ref b), .unset, .unset, .unset] [(.int (15 : Int32)), (.int p2), (.ref b)]))
  refine own_to (fun t k => XS.iand X63.here hx rfl (hb hby at_98) rfl k) ?_
  show own_Fin _ _ _ _ _ _ (T63.setTop (mkF m 99 #[.val (.int p1), .val (.int p2), .val (.int p3), .val (.ref b), .unset, .unset, .unset] [(.int (p2 &&& (15 : Int32))), (.ref b)]))
  obtain ⟨cl64, Ar64, qa64, Sa64, Na64, Ha64, Ga64⟩ := id V63
  have hin65 : ¬ ((p2 &&& (15 : Int32)) < 0 ∨ cl64.slots.size ≤ ((p2 &&& (15 : Int32))).toNatClampNeg) := inb_of Sa64 (own_in p2)
  refine own_to (fun t k => X63.iaload hx (j := (p2 &&& (15 : Int32))) (v := (.int (own_edge (p2 &&& (15 : Int32))))) (by rw [e63]; exact Ar64.1) (State.isArrayOf_alike hZ.alike Ar64.2.1) Ar64.2.2 hin65 (Has.at Ha64 hin65 (own_getD own_E _)) (g := (mkF m 99 #[.val (.int p1), .val (.int p2), .val (.int p3), .val (.ref b), .unset, .unset, .unset] [(.int (p2 &&& (15 : Int32))), (.ref b)])) rfl rfl (hb hby at_99) _ k) ?_
  show own_Fin _ _ _ _ _ _ (T63.setTop (mkF m 100 #[.val (.int p1), .val (.int p2), .val (.int p3), .val (.ref b), .unset, .unset, .unset] [(.int (own_edge (p2 &&& (15 : Int32))))]))
  refine own_to (fun t k => XS.iloadN X63.here hx rfl (hb hby at_100) rfl k) ?_
  show own_Fin _ _ _ _ _ _ (T63.setTop (mkF m 101 #[.val (.int p1), .val (.int p2), .val (.int p3), .val (.ref b), .unset, .unset, .unset] [(.int p3), (.int (own_edge (p2 &&& (15 : Int32))))]))
  refine own_to (fun t k => XS.iconst X63.here hx rfl (hb hby at_101) k) ?_
  show own_Fin _ _ _ _ _ _ (T63.setTop (mkF m 102 #[.val (.int p1), .val (.int p2), .val (.int p3), .val (.ref b), .unset, .unset, .unset] [(.int (3 : Int32)), (.int p3), (.int (own_edge (p2 &&& (15 : Int32))))]))
  refine own_to (fun t k => XS.iand X63.here hx rfl (hb hby at_102) rfl k) ?_
  show own_Fin _ _ _ _ _ _ (T63.setTop (mkF m 103 #[.val (.int p1), .val (.int p2), .val (.int p3), .val (.ref b), .unset, .unset, .unset] [(.int (p3 &&& (3 : Int32))), (.int (own_edge (p2 &&& (15 : Int32))))]))
  refine own_to (fun t k => XS.iconst X63.here hx rfl (hb hby at_103) k) ?_
  show own_Fin _ _ _ _ _ _ (T63.setTop (mkF m 104 #[.val (.int p1), .val (.int p2), .val (.int p3), .val (.ref b), .unset, .unset, .unset] [(.int (1 : Int32)), (.int (p3 &&& (3 : Int32))), (.int (own_edge (p2 &&& (15 : Int32))))]))
  refine own_to (fun t k => XS.isub X63.here hx rfl (hb hby at_104) rfl k) ?_
  show own_Fin _ _ _ _ _ _ (T63.setTop (mkF m 105 #[.val (.int p1), .val (.int p2), .val (.int p3), .val (.ref b), .unset, .unset, .unset] [(.int ((p3 &&& (3 : Int32)) - (1 : Int32))), (.int (own_edge (p2 &&& (15 : Int32))))]))
  refine own_to (fun t k => XS.iadd X63.here hx rfl (hb hby at_105) rfl k) ?_
  show own_Fin _ _ _ _ _ _ (T63.setTop (mkF m 106 #[.val (.int p1), .val (.int p2), .val (.int p3), .val (.ref b), .unset, .unset, .unset] [(.int ((own_edge (p2 &&& (15 : Int32))) + ((p3 &&& (3 : Int32)) - (1 : Int32))))]))
  refine own_to (fun t k => XS.istore X63.here hx rfl (hb hby at_106) rfl (l' := #[.val (.int p1), .val (.int p2), .val (.int p3), .val (.ref b), .val (.int ((own_edge (p2 &&& (15 : Int32))) + ((p3 &&& (3 : Int32)) - (1 : Int32)))), .unset, .unset]) rfl k) ?_
  show own_Fin _ _ _ _ _ _ (T63.setTop (mkF m 108 #[.val (.int p1), .val (.int p2), .val (.int p3), .val (.ref b), .val (.int ((own_edge (p2 &&& (15 : Int32))) + ((p3 &&& (3 : Int32)) - (1 : Int32)))), .unset, .unset] []))
  refine own_to (fun t k => XS.iloadN X63.here hx rfl (hb hby at_108) rfl k) ?_
  show own_Fin _ _ _ _ _ _ (T63.setTop (mkF m 109 #[.val (.int p1), .val (.int p2), .val (.int p3), .val (.ref b), .val (.int ((own_edge (p2 &&& (15 : Int32))) + ((p3 &&& (3 : Int32)) - (1 : Int32)))), .unset, .unset] [(.int p1)]))
  obtain ⟨_, _, ⟨T66, L66, k66, n66⟩, -, X66, ⟨Lc66, hQ66, l66, y66, z66⟩, st66⟩ := Jvm.LawKit.callS X63 hx (y := (⟨"com/example/libxqtype/libxqtype/XmlCharacters", "isChar", "(I)Z"⟩ : MethodName)) hown (mvT hZ (hw _ (List.mem_of_getElem? (i := 7) rfl))) (mvT hZ (hw _ (List.mem_of_getElem? (i := 8) rfl))) (mvT hZ (hw _ (List.mem_of_getElem? (i := 9) rfl))) (mvT hZ (hw _ (List.mem_of_getElem? (i := 10) rfl))) (by decide) (own_back (W := 0) (own_rm1 l Z a0 hw [] p1 h63 n0 (Nat.le_trans (Nat.le_trans (Nat.le_trans (Nat.le_trans (Nat.le_trans (Nat.le_trans (Nat.le_trans (Nat.le_trans (Nat.le_trans (Nat.le_trans (Nat.le_trans (Nat.le_trans (Nat.le_trans (Nat.le_trans (Nat.le_trans (Nat.le_trans (Nat.le_trans Z0 E30.1) (Keep.of_wr W33).1) (Keep.of_wr W35).1) (Keep.of_wr W37).1) (Keep.of_wr W39).1) (Keep.of_wr W41).1) (Keep.of_wr W43).1) (Keep.of_wr W45).1) (Keep.of_wr W47).1) (Keep.of_wr W49).1) (Keep.of_wr W51).1) (Keep.of_wr W53).1) (Keep.of_wr W55).1) (Keep.of_wr W57).1) (Keep.of_wr W59).1) (Keep.of_wr W61).1) (Keep.of_wr W63).1)) hZ (hw _ (List.mem_of_getElem? (i := 10) rfl)) (hw _ (List.mem_of_getElem? (i := 9) rfl)) (by decide) (by decide)) (g := (mkF m 109 #[.val (.int p1), .val (.int p2), .val (.int p3), .val (.ref b), .val (.int ((own_edge (p2 &&& (15 : Int32))) + ((p3 &&& (3 : Int32)) - (1 : Int32)))), .unset, .unset] [(.int p1)])) rfl (by rw [hml]; rfl) (argsL := [(.int p1)]) (rest := []) (lenOf own_pd0 rfl) rfl (by show 2 * 0 + _ ≤ _; exact Nat.le_of_eq rfl) (hb hby at_109) (fun _ _ => ⟨rfl, e63, (by decide : 1 + 0 ≤ _), (by decide : 16 + 0 ≤ _)⟩)
  dsimp only [Pt.U, Pt.locs, Pt.cells, Pt.slots] at X66 l66 y66 z66 st66 hQ66
  subst l66 y66 z66
  obtain ⟨rfl, N66q, eh66⟩ := hQ66
  have N66 := Fr.app N63 N66q
  refine own_to (fun t k => st66 t k) ?_
  show own_Fin _ _ _ _ _ _ (T66.setTop (mkF m 112 #[.val (.int p1), .val (.int p2), .val (.int p3), .val (.ref b), .val (.int ((own_edge (p2 &&& (15 : Int32))) + ((p3 &&& (3 : Int32)) - (1 : Int32)))), .unset, .unset] [(.int (own_is p1))]))
  refine own_to (fun t k => XS.iloadN X66.here hx rfl (hb hby at_112) rfl k) ?_
  show own_Fin _ _ _ _ _ _ (T66.setTop (mkF m 113 #[.val (.int p1), .val (.int p2), .val (.int p3), .val (.ref b), .val (.int ((own_edge (p2 &&& (15 : Int32))) + ((p3 &&& (3 : Int32)) - (1 : Int32)))), .unset, .unset] [(.int p1), (.int (own_is p1))]))
  obtain ⟨_, _, ⟨T67, L67, k67, n67⟩, -, X67, ⟨Lc67, hQ67, l67, y67, z67⟩, st67⟩ := Jvm.LawKit.callS X66 hx (y := (⟨"com/example/libxqtype/libxqtype/XmlCharactersIsCharPinLaw", "excluded", "(I)Z"⟩ : MethodName)) hown (mvT hZ (hw _ (List.mem_of_getElem? (i := 13) rfl))) (mvT hZ (hw _ (List.mem_of_getElem? (i := 14) rfl))) (mvT hZ (hw _ (List.mem_of_getElem? (i := 15) rfl))) (mvT hZ (hw _ (List.mem_of_getElem? (i := 16) rfl))) (by decide) (own_back (W := 1) (own_rm2 l Z a0 hw [] p1 h63 n0 (Nat.le_trans (Nat.le_trans (Nat.le_trans (Nat.le_trans (Nat.le_trans (Nat.le_trans (Nat.le_trans (Nat.le_trans (Nat.le_trans (Nat.le_trans (Nat.le_trans (Nat.le_trans (Nat.le_trans (Nat.le_trans (Nat.le_trans (Nat.le_trans (Nat.le_trans Z0 E30.1) (Keep.of_wr W33).1) (Keep.of_wr W35).1) (Keep.of_wr W37).1) (Keep.of_wr W39).1) (Keep.of_wr W41).1) (Keep.of_wr W43).1) (Keep.of_wr W45).1) (Keep.of_wr W47).1) (Keep.of_wr W49).1) (Keep.of_wr W51).1) (Keep.of_wr W53).1) (Keep.of_wr W55).1) (Keep.of_wr W57).1) (Keep.of_wr W59).1) (Keep.of_wr W61).1) (Keep.of_wr W63).1)) hZ (hw _ (List.mem_of_getElem? (i := 16) rfl)) (hw _ (List.mem_of_getElem? (i := 15) rfl)) (by decide) (by decide)) (g := (mkF m 113 #[.val (.int p1), .val (.int p2), .val (.int p3), .val (.ref b), .val (.int ((own_edge (p2 &&& (15 : Int32))) + ((p3 &&& (3 : Int32)) - (1 : Int32)))), .unset, .unset] [(.int p1), (.int (own_is p1))])) rfl (by rw [hml]; rfl) (argsL := [(.int p1)]) (rest := [(.int (own_is p1))]) (lenOf own_pd0 rfl) rfl (by show 2 * 0 + _ ≤ _; exact Nat.le_of_eq rfl) (hb hby at_113) (fun _ _ => ⟨rfl, eh66, (by decide : 1 + 0 ≤ _), (by decide : 16 + 0 ≤ _)⟩)
  dsimp only [Pt.U, Pt.locs, Pt.cells, Pt.slots] at X67 l67 y67 z67 st67 hQ67
  subst l67 y67 z67
  obtain ⟨rfl, N67q, eh67⟩ := hQ67
  have N67 := Fr.app N66 N67q
  refine own_to (fun t k => st67 t k) ?_
  show own_Fin _ _ _ _ _ _ (T67.setTop (mkF m 116 #[.val (.int p1), .val (.int p2), .val (.int p3), .val (.ref b), .val (.int ((own_edge (p2 &&& (15 : Int32))) + ((p3 &&& (3 : Int32)) - (1 : Int32)))), .unset, .unset] [(.int (own_ex p1)), (.int (own_is p1))]))
  have hi68 := own_both p1
  by_cases hf69 : (own_ex p1) = (0 : Int32)
  ·
    show own_Fin _ _ _ _ _ _ (T67.setTop (mkF m 116 #[.val (.int p1), .val (.int p2), .val (.int p3), .val (.ref b), .val (.int ((own_edge (p2 &&& (15 : Int32))) + ((p3 &&& (3 : Int32)) - (1 : Int32)))), .unset, .unset] [(.int (own_ex p1)), (.int (own_is p1))]))
    have hj68 : own_is p1 = 1 := hi68.1 hf69
    refine own_to (fun t k => XS.ifNo X67.here hx rfl (hb hby at_116) rfl ((if0 _ _).trans (teq hf69).2) k) ?_
    show own_Fin _ _ _ _ _ _ (T67.setTop (mkF m 119 #[.val (.int p1), .val (.int p2), .val (.int p3), .val (.ref b), .val (.int ((own_edge (p2 &&& (15 : Int32))) + ((p3 &&& (3 : Int32)) - (1 : Int32)))), .unset, .unset] [(.int (own_is p1))]))
    refine own_to (fun t k => XS.iconst X67.here hx rfl (hb hby at_119) k) ?_
    show own_Fin _ _ _ _ _ _ (T67.setTop (mkF m 120 #[.val (.int p1), .val (.int p2), .val (.int p3), .val (.ref b), .val (.int ((own_edge (p2 &&& (15 : Int32))) + ((p3 &&& (3 : Int32)) - (1 : Int32)))), .unset, .unset] [(.int (1 : Int32)), (.int (own_is p1))]))
    refine own_to (fun t k => XS.goto X67.here hx rfl (pc0 := 120) (pc' := 124) rfl (hb hby at_120) (by decide) (by decide) k) ?_
    show own_Fin _ _ _ _ _ _ (T67.setTop (mkF m 124 #[.val (.int p1), .val (.int p2), .val (.int p3), .val (.ref b), .val (.int ((own_edge (p2 &&& (15 : Int32))) + ((p3 &&& (3 : Int32)) - (1 : Int32)))), .unset, .unset] [(.int (1 : Int32)), (.int (own_is p1))]))
    refine own_to (fun t k => XS.icmpNo X67.here hx rfl (hb hby at_124) rfl (teq hj68).2 k) ?_
    show own_Fin _ _ _ _ _ _ (T67.setTop (mkF m 127 #[.val (.int p1), .val (.int p2), .val (.int p3), .val (.ref b), .val (.int ((own_edge (p2 &&& (15 : Int32))) + ((p3 &&& (3 : Int32)) - (1 : Int32)))), .unset, .unset] []))
    refine own_to (fun t k => XS.iconst X67.here hx rfl (hb hby at_127) k) ?_
    show own_Fin _ _ _ _ _ _ (T67.setTop (mkF m 128 #[.val (.int p1), .val (.int p2), .val (.int p3), .val (.ref b), .val (.int ((own_edge (p2 &&& (15 : Int32))) + ((p3 &&& (3 : Int32)) - (1 : Int32)))), .unset, .unset] [(.int (1 : Int32))]))
    refine own_to (fun t k => XS.goto X67.here hx rfl (pc0 := 128) (pc' := 132) rfl (hb hby at_128) (by decide) (by decide) k) ?_
    show own_Fin _ _ _ _ _ _ (T67.setTop (mkF m 132 #[.val (.int p1), .val (.int p2), .val (.int p3), .val (.ref b), .val (.int ((own_edge (p2 &&& (15 : Int32))) + ((p3 &&& (3 : Int32)) - (1 : Int32)))), .unset, .unset] [(.int (1 : Int32))]))
    refine own_to (fun t k => XS.istore X67.here hx rfl (hb hby at_132) rfl (l' := #[.val (.int p1), .val (.int p2), .val (.int p3), .val (.ref b), .val (.int ((own_edge (p2 &&& (15 : Int32))) + ((p3 &&& (3 : Int32)) - (1 : Int32)))), .val (.int (1 : Int32)), .unset]) rfl k) ?_
    show own_Fin _ _ _ _ _ _ (T67.setTop (mkF m 134 #[.val (.int p1), .val (.int p2), .val (.int p3), .val (.ref b), .val (.int ((own_edge (p2 &&& (15 : Int32))) + ((p3 &&& (3 : Int32)) - (1 : Int32)))), .val (.int (1 : Int32)), .unset] []))
    refine own_to (fun t k => XS.iload X67.here hx rfl (hb hby at_134) rfl k) ?_
    show own_Fin _ _ _ _ _ _ (T67.setTop (mkF m 136 #[.val (.int p1), .val (.int p2), .val (.int p3), .val (.ref b), .val (.int ((own_edge (p2 &&& (15 : Int32))) + ((p3 &&& (3 : Int32)) - (1 : Int32)))), .val (.int (1 : Int32)), .unset] [(.int ((own_edge (p2 &&& (15 : Int32))) + ((p3 &&& (3 : Int32)) - (1 : Int32))))]))
    obtain ⟨_, _, ⟨T70, L70, k70, n70⟩, -, X70, ⟨Lc70, hQ70, l70, y70, z70⟩, st70⟩ := Jvm.LawKit.callS X67 hx (y := (⟨"com/example/libxqtype/libxqtype/XmlCharacters", "isChar", "(I)Z"⟩ : MethodName)) hown (mvT hZ (hw _ (List.mem_of_getElem? (i := 7) rfl))) (mvT hZ (hw _ (List.mem_of_getElem? (i := 8) rfl))) (mvT hZ (hw _ (List.mem_of_getElem? (i := 9) rfl))) (mvT hZ (hw _ (List.mem_of_getElem? (i := 10) rfl))) (by decide) (own_back (W := 0) (own_rm1 l Z a0 hw [] ((own_edge (p2 &&& (15 : Int32))) + ((p3 &&& (3 : Int32)) - (1 : Int32))) h63 n0 (Nat.le_trans (Nat.le_trans (Nat.le_trans (Nat.le_trans (Nat.le_trans (Nat.le_trans (Nat.le_trans (Nat.le_trans (Nat.le_trans (Nat.le_trans (Nat.le_trans (Nat.le_trans (Nat.le_trans (Nat.le_trans (Nat.le_trans (Nat.le_trans (Nat.le_trans Z0 E30.1) (Keep.of_wr W33).1) (Keep.of_wr W35).1) (Keep.of_wr W37).1) (Keep.of_wr W39).1) (Keep.of_wr W41).1) (Keep.of_wr W43).1) (Keep.of_wr W45).1) (Keep.of_wr W47).1) (Keep.of_wr W49).1) (Keep.of_wr W51).1) (Keep.of_wr W53).1) (Keep.of_wr W55).1) (Keep.of_wr W57).1) (Keep.of_wr W59).1) (Keep.of_wr W61).1) (Keep.of_wr W63).1)) hZ (hw _ (List.mem_of_getElem? (i := 10) rfl)) (hw _ (List.mem_of_getElem? (i := 9) rfl)) (by decide) (by decide)) (g := (mkF m 136 #[.val (.int p1), .val (.int p2), .val (.int p3), .val (.ref b), .val (.int ((own_edge (p2 &&& (15 : Int32))) + ((p3 &&& (3 : Int32)) - (1 : Int32)))), .val (.int (1 : Int32)), .unset] [(.int ((own_edge (p2 &&& (15 : Int32))) + ((p3 &&& (3 : Int32)) - (1 : Int32))))])) rfl (by rw [hml]; rfl) (argsL := [(.int ((own_edge (p2 &&& (15 : Int32))) + ((p3 &&& (3 : Int32)) - (1 : Int32))))]) (rest := []) (lenOf own_pd0 rfl) rfl (by show 2 * 0 + _ ≤ _; exact Nat.le_of_eq rfl) (hb hby at_136) (fun _ _ => ⟨rfl, eh67, (by decide : 1 + 0 ≤ _), (by decide : 16 + 0 ≤ _)⟩)
    dsimp only [Pt.U, Pt.locs, Pt.cells, Pt.slots] at X70 l70 y70 z70 st70 hQ70
    subst l70 y70 z70
    obtain ⟨rfl, N70q, eh70⟩ := hQ70
    have N70 := Fr.app N67 N70q
    refine own_to (fun t k => st70 t k) ?_
    show own_Fin _ _ _ _ _ _ (T70.setTop (mkF m 139 #[.val (.int p1), .val (.int p2), .val (.int p3), .val (.ref b), .val (.int ((own_edge (p2 &&& (15 : Int32))) + ((p3 &&& (3 : Int32)) - (1 : Int32)))), .val (.int (1 : Int32)), .unset] [(.int (own_is ((own_edge (p2 &&& (15 : Int32))) + ((p3 &&& (3 : Int32)) - (1 : Int32)))))]))
    refine own_to (fun t k => XS.iload X70.here hx rfl (hb hby at_139) rfl k) ?_
    show own_Fin _ _ _ _ _ _ (T70.setTop (mkF m 141 #[.val (.int p1), .val (.int p2), .val (.int p3), .val (.ref b), .val (.int ((own_edge (p2 &&& (15 : Int32))) + ((p3 &&& (3 : Int32)) - (1 : Int32)))), .val (.int (1 : Int32)), .unset] [(.int ((own_edge (p2 &&& (15 : Int32))) + ((p3 &&& (3 : Int32)) - (1 : Int32)))), (.int (own_is ((own_edge (p2 &&& (15 : Int32))) + ((p3 &&& (3 : Int32)) - (1 : Int32)))))]))
    obtain ⟨_, _, ⟨T71, L71, k71, n71⟩, -, X71, ⟨Lc71, hQ71, l71, y71, z71⟩, st71⟩ := Jvm.LawKit.callS X70 hx (y := (⟨"com/example/libxqtype/libxqtype/XmlCharactersIsCharPinLaw", "excluded", "(I)Z"⟩ : MethodName)) hown (mvT hZ (hw _ (List.mem_of_getElem? (i := 13) rfl))) (mvT hZ (hw _ (List.mem_of_getElem? (i := 14) rfl))) (mvT hZ (hw _ (List.mem_of_getElem? (i := 15) rfl))) (mvT hZ (hw _ (List.mem_of_getElem? (i := 16) rfl))) (by decide) (own_back (W := 1) (own_rm2 l Z a0 hw [] ((own_edge (p2 &&& (15 : Int32))) + ((p3 &&& (3 : Int32)) - (1 : Int32))) h63 n0 (Nat.le_trans (Nat.le_trans (Nat.le_trans (Nat.le_trans (Nat.le_trans (Nat.le_trans (Nat.le_trans (Nat.le_trans (Nat.le_trans (Nat.le_trans (Nat.le_trans (Nat.le_trans (Nat.le_trans (Nat.le_trans (Nat.le_trans (Nat.le_trans (Nat.le_trans Z0 E30.1) (Keep.of_wr W33).1) (Keep.of_wr W35).1) (Keep.of_wr W37).1) (Keep.of_wr W39).1) (Keep.of_wr W41).1) (Keep.of_wr W43).1) (Keep.of_wr W45).1) (Keep.of_wr W47).1) (Keep.of_wr W49).1) (Keep.of_wr W51).1) (Keep.of_wr W53).1) (Keep.of_wr W55).1) (Keep.of_wr W57).1) (Keep.of_wr W59).1) (Keep.of_wr W61).1) (Keep.of_wr W63).1)) hZ (hw _ (List.mem_of_getElem? (i := 16) rfl)) (hw _ (List.mem_of_getElem? (i := 15) rfl)) (by decide) (by decide)) (g := (mkF m 141 #[.val (.int p1), .val (.int p2), .val (.int p3), .val (.ref b), .val (.int ((own_edge (p2 &&& (15 : Int32))) + ((p3 &&& (3 : Int32)) - (1 : Int32)))), .val (.int (1 : Int32)), .unset] [(.int ((own_edge (p2 &&& (15 : Int32))) + ((p3 &&& (3 : Int32)) - (1 : Int32)))), (.int (own_is ((own_edge (p2 &&& (15 : Int32))) + ((p3 &&& (3 : Int32)) - (1 : Int32)))))])) rfl (by rw [hml]; rfl) (argsL := [(.int ((own_edge (p2 &&& (15 : Int32))) + ((p3 &&& (3 : Int32)) - (1 : Int32))))]) (rest := [(.int (own_is ((own_edge (p2 &&& (15 : Int32))) + ((p3 &&& (3 : Int32)) - (1 : Int32)))))]) (lenOf own_pd0 rfl) rfl (by show 2 * 0 + _ ≤ _; exact Nat.le_of_eq rfl) (hb hby at_141) (fun _ _ => ⟨rfl, eh70, (by decide : 1 + 0 ≤ _), (by decide : 16 + 0 ≤ _)⟩)
    dsimp only [Pt.U, Pt.locs, Pt.cells, Pt.slots] at X71 l71 y71 z71 st71 hQ71
    subst l71 y71 z71
    obtain ⟨rfl, N71q, eh71⟩ := hQ71
    have N71 := Fr.app N70 N71q
    refine own_to (fun t k => st71 t k) ?_
    show own_Fin _ _ _ _ _ _ (T71.setTop (mkF m 144 #[.val (.int p1), .val (.int p2), .val (.int p3), .val (.ref b), .val (.int ((own_edge (p2 &&& (15 : Int32))) + ((p3 &&& (3 : Int32)) - (1 : Int32)))), .val (.int (1 : Int32)), .unset] [(.int (own_ex ((own_edge (p2 &&& (15 : Int32))) + ((p3 &&& (3 : Int32)) - (1 : Int32))))), (.int (own_is ((own_edge (p2 &&& (15 : Int32))) + ((p3 &&& (3 : Int32)) - (1 : Int32)))))]))
    have hi72 := own_both ((own_edge (p2 &&& (15 : Int32))) + ((p3 &&& (3 : Int32)) - (1 : Int32)))
    by_cases hf73 : (own_ex ((own_edge (p2 &&& (15 : Int32))) + ((p3 &&& (3 : Int32)) - (1 : Int32)))) = (0 : Int32)
    ·
      show own_Fin _ _ _ _ _ _ (T71.setTop (mkF m 144 #[.val (.int p1), .val (.int p2), .val (.int p3), .val (.ref b), .val (.int ((own_edge (p2 &&& (15 : Int32))) + ((p3 &&& (3 : Int32)) - (1 : Int32)))), .val (.int (1 : Int32)), .unset] [(.int (own_ex ((own_edge (p2 &&& (15 : Int32))) + ((p3 &&& (3 : Int32)) - (1 : Int32))))), (.int (own_is ((own_edge (p2 &&& (15 : Int32))) + ((p3 &&& (3 : Int32)) - (1 : Int32)))))]))
      have hj72 : own_is ((own_edge (p2 &&& (15 : Int32))) + ((p3 &&& (3 : Int32)) - (1 : Int32))) = 1 := hi72.1 hf73
      refine own_to (fun t k => XS.ifNo X71.here hx rfl (hb hby at_144) rfl ((if0 _ _).trans (teq hf73).2) k) ?_
      show own_Fin _ _ _ _ _ _ (T71.setTop (mkF m 147 #[.val (.int p1), .val (.int p2), .val (.int p3), .val (.ref b), .val (.int ((own_edge (p2 &&& (15 : Int32))) + ((p3 &&& (3 : Int32)) - (1 : Int32)))), .val (.int (1 : Int32)), .unset] [(.int (own_is ((own_edge (p2 &&& (15 : Int32))) + ((p3 &&& (3 : Int32)) - (1 : Int32)))))]))
      refine own_to (fun t k => XS.iconst X71.here hx rfl (hb hby at_147) k) ?_
      show own_Fin _ _ _ _ _ _ (T71.setTop (mkF m 148 #[.val (.int p1), .val (.int p2), .val (.int p3), .val (.ref b), .val (.int ((own_edge (p2 &&& (15 : Int32))) + ((p3 &&& (3 : Int32)) - (1 : Int32)))), .val (.int (1 : Int32)), .unset] [(.int (1 : Int32)), (.int (own_is ((own_edge (p2 &&& (15 : Int32))) + ((p3 &&& (3 : Int32)) - (1 : Int32)))))]))
      refine own_to (fun t k => XS.goto X71.here hx rfl (pc0 := 148) (pc' := 152) rfl (hb hby at_148) (by decide) (by decide) k) ?_
      show own_Fin _ _ _ _ _ _ (T71.setTop (mkF m 152 #[.val (.int p1), .val (.int p2), .val (.int p3), .val (.ref b), .val (.int ((own_edge (p2 &&& (15 : Int32))) + ((p3 &&& (3 : Int32)) - (1 : Int32)))), .val (.int (1 : Int32)), .unset] [(.int (1 : Int32)), (.int (own_is ((own_edge (p2 &&& (15 : Int32))) + ((p3 &&& (3 : Int32)) - (1 : Int32)))))]))
      refine own_to (fun t k => XS.icmpNo X71.here hx rfl (hb hby at_152) rfl (teq hj72).2 k) ?_
      show own_Fin _ _ _ _ _ _ (T71.setTop (mkF m 155 #[.val (.int p1), .val (.int p2), .val (.int p3), .val (.ref b), .val (.int ((own_edge (p2 &&& (15 : Int32))) + ((p3 &&& (3 : Int32)) - (1 : Int32)))), .val (.int (1 : Int32)), .unset] []))
      refine own_to (fun t k => XS.iconst X71.here hx rfl (hb hby at_155) k) ?_
      show own_Fin _ _ _ _ _ _ (T71.setTop (mkF m 156 #[.val (.int p1), .val (.int p2), .val (.int p3), .val (.ref b), .val (.int ((own_edge (p2 &&& (15 : Int32))) + ((p3 &&& (3 : Int32)) - (1 : Int32)))), .val (.int (1 : Int32)), .unset] [(.int (1 : Int32))]))
      refine own_to (fun t k => XS.goto X71.here hx rfl (pc0 := 156) (pc' := 160) rfl (hb hby at_156) (by decide) (by decide) k) ?_
      show own_Fin _ _ _ _ _ _ (T71.setTop (mkF m 160 #[.val (.int p1), .val (.int p2), .val (.int p3), .val (.ref b), .val (.int ((own_edge (p2 &&& (15 : Int32))) + ((p3 &&& (3 : Int32)) - (1 : Int32)))), .val (.int (1 : Int32)), .unset] [(.int (1 : Int32))]))
      refine own_to (fun t k => XS.istore X71.here hx rfl (hb hby at_160) rfl (l' := #[.val (.int p1), .val (.int p2), .val (.int p3), .val (.ref b), .val (.int ((own_edge (p2 &&& (15 : Int32))) + ((p3 &&& (3 : Int32)) - (1 : Int32)))), .val (.int (1 : Int32)), .val (.int (1 : Int32))]) rfl k) ?_
      show own_Fin _ _ _ _ _ _ (T71.setTop (mkF m 162 #[.val (.int p1), .val (.int p2), .val (.int p3), .val (.ref b), .val (.int ((own_edge (p2 &&& (15 : Int32))) + ((p3 &&& (3 : Int32)) - (1 : Int32)))), .val (.int (1 : Int32)), .val (.int (1 : Int32))] []))
      refine own_to (fun t k => XS.iload X71.here hx rfl (hb hby at_162) rfl k) ?_
      show own_Fin _ _ _ _ _ _ (T71.setTop (mkF m 164 #[.val (.int p1), .val (.int p2), .val (.int p3), .val (.ref b), .val (.int ((own_edge (p2 &&& (15 : Int32))) + ((p3 &&& (3 : Int32)) - (1 : Int32)))), .val (.int (1 : Int32)), .val (.int (1 : Int32))] [(.int (1 : Int32))]))
      refine own_to (fun t k => XS.ifNo X71.here hx rfl (hb hby at_164) rfl ((if0 _ _).trans (feq (by decide)).1) k) ?_
      show own_Fin _ _ _ _ _ _ (T71.setTop (mkF m 167 #[.val (.int p1), .val (.int p2), .val (.int p3), .val (.ref b), .val (.int ((own_edge (p2 &&& (15 : Int32))) + ((p3 &&& (3 : Int32)) - (1 : Int32)))), .val (.int (1 : Int32)), .val (.int (1 : Int32))] []))
      refine own_to (fun t k => XS.iload X71.here hx rfl (hb hby at_167) rfl k) ?_
      show own_Fin _ _ _ _ _ _ (T71.setTop (mkF m 169 #[.val (.int p1), .val (.int p2), .val (.int p3), .val (.ref b), .val (.int ((own_edge (p2 &&& (15 : Int32))) + ((p3 &&& (3 : Int32)) - (1 : Int32)))), .val (.int (1 : Int32)), .val (.int (1 : Int32))] [(.int (1 : Int32))]))
      refine own_to (fun t k => XS.ifNo X71.here hx rfl (hb hby at_169) rfl ((if0 _ _).trans (feq (by decide)).1) k) ?_
      show own_Fin _ _ _ _ _ _ (T71.setTop (mkF m 172 #[.val (.int p1), .val (.int p2), .val (.int p3), .val (.ref b), .val (.int ((own_edge (p2 &&& (15 : Int32))) + ((p3 &&& (3 : Int32)) - (1 : Int32)))), .val (.int (1 : Int32)), .val (.int (1 : Int32))] []))
      refine own_to (fun t k => XS.iconst X71.here hx rfl (hb hby at_172) k) ?_
      show own_Fin _ _ _ _ _ _ (T71.setTop (mkF m 173 #[.val (.int p1), .val (.int p2), .val (.int p3), .val (.ref b), .val (.int ((own_edge (p2 &&& (15 : Int32))) + ((p3 &&& (3 : Int32)) - (1 : Int32)))), .val (.int (1 : Int32)), .val (.int (1 : Int32))] [(.int (1 : Int32))]))
      refine own_to (fun t k => XS.goto X71.here hx rfl (pc0 := 173) (pc' := 177) rfl (hb hby at_173) (by decide) (by decide) k) ?_
      show own_Fin _ _ _ _ _ _ (T71.setTop (mkF m 177 #[.val (.int p1), .val (.int p2), .val (.int p3), .val (.ref b), .val (.int ((own_edge (p2 &&& (15 : Int32))) + ((p3 &&& (3 : Int32)) - (1 : Int32)))), .val (.int (1 : Int32)), .val (.int (1 : Int32))] [(.int (1 : Int32))]))
      refine own_retN X71 hx hlk (t := .boolean) hret (by simp) (hb hby at_177) (by decide) (by decide) ?_
      try rw [eh71]
      exact ⟨rfl, N71⟩
    ·
      show own_Fin _ _ _ _ _ _ (T71.setTop (mkF m 144 #[.val (.int p1), .val (.int p2), .val (.int p3), .val (.ref b), .val (.int ((own_edge (p2 &&& (15 : Int32))) + ((p3 &&& (3 : Int32)) - (1 : Int32)))), .val (.int (1 : Int32)), .unset] [(.int (own_ex ((own_edge (p2 &&& (15 : Int32))) + ((p3 &&& (3 : Int32)) - (1 : Int32))))), (.int (own_is ((own_edge (p2 &&& (15 : Int32))) + ((p3 &&& (3 : Int32)) - (1 : Int32)))))]))
      have hj72 : own_is ((own_edge (p2 &&& (15 : Int32))) + ((p3 &&& (3 : Int32)) - (1 : Int32))) = 0 := hi72.2 hf73
      refine own_to (fun t k => XS.ifYes X71.here hx rfl (pc0 := 144) (pc' := 151) rfl (hb hby at_144) rfl ((if0 _ _).trans (feq hf73).2) (by decide) (by decide) k) ?_
      show own_Fin _ _ _ _ _ _ (T71.setTop (mkF m 151 #[.val (.int p1), .val (.int p2), .val (.int p3), .val (.ref b), .val (.int ((own_edge (p2 &&& (15 : Int32))) + ((p3 &&& (3 : Int32)) - (1 : Int32)))), .val (.int (1 : Int32)), .unset] [(.int (own_is ((own_edge (p2 &&& (15 : Int32))) + ((p3 &&& (3 : Int32)) - (1 : Int32)))))]))
      refine own_to (fun t k => XS.iconst X71.here hx rfl (hb hby at_151) k) ?_
      show own_Fin _ _ _ _ _ _ (T71.setTop (mkF m 152 #[.val (.int p1), .val (.int p2), .val (.int p3), .val (.ref b), .val (.int ((own_edge (p2 &&& (15 : Int32))) + ((p3 &&& (3 : Int32)) - (1 : Int32)))), .val (.int (1 : Int32)), .unset] [(.int (0 : Int32)), (.int (own_is ((own_edge (p2 &&& (15 : Int32))) + ((p3 &&& (3 : Int32)) - (1 : Int32)))))]))
      refine own_to (fun t k => XS.icmpNo X71.here hx rfl (hb hby at_152) rfl (teq hj72).2 k) ?_
      show own_Fin _ _ _ _ _ _ (T71.setTop (mkF m 155 #[.val (.int p1), .val (.int p2), .val (.int p3), .val (.ref b), .val (.int ((own_edge (p2 &&& (15 : Int32))) + ((p3 &&& (3 : Int32)) - (1 : Int32)))), .val (.int (1 : Int32)), .unset] []))
      refine own_to (fun t k => XS.iconst X71.here hx rfl (hb hby at_155) k) ?_
      show own_Fin _ _ _ _ _ _ (T71.setTop (mkF m 156 #[.val (.int p1), .val (.int p2), .val (.int p3), .val (.ref b), .val (.int ((own_edge (p2 &&& (15 : Int32))) + ((p3 &&& (3 : Int32)) - (1 : Int32)))), .val (.int (1 : Int32)), .unset] [(.int (1 : Int32))]))
      refine own_to (fun t k => XS.goto X71.here hx rfl (pc0 := 156) (pc' := 160) rfl (hb hby at_156) (by decide) (by decide) k) ?_
      show own_Fin _ _ _ _ _ _ (T71.setTop (mkF m 160 #[.val (.int p1), .val (.int p2), .val (.int p3), .val (.ref b), .val (.int ((own_edge (p2 &&& (15 : Int32))) + ((p3 &&& (3 : Int32)) - (1 : Int32)))), .val (.int (1 : Int32)), .unset] [(.int (1 : Int32))]))
      refine own_to (fun t k => XS.istore X71.here hx rfl (hb hby at_160) rfl (l' := #[.val (.int p1), .val (.int p2), .val (.int p3), .val (.ref b), .val (.int ((own_edge (p2 &&& (15 : Int32))) + ((p3 &&& (3 : Int32)) - (1 : Int32)))), .val (.int (1 : Int32)), .val (.int (1 : Int32))]) rfl k) ?_
      show own_Fin _ _ _ _ _ _ (T71.setTop (mkF m 162 #[.val (.int p1), .val (.int p2), .val (.int p3), .val (.ref b), .val (.int ((own_edge (p2 &&& (15 : Int32))) + ((p3 &&& (3 : Int32)) - (1 : Int32)))), .val (.int (1 : Int32)), .val (.int (1 : Int32))] []))
      refine own_to (fun t k => XS.iload X71.here hx rfl (hb hby at_162) rfl k) ?_
      show own_Fin _ _ _ _ _ _ (T71.setTop (mkF m 164 #[.val (.int p1), .val (.int p2), .val (.int p3), .val (.ref b), .val (.int ((own_edge (p2 &&& (15 : Int32))) + ((p3 &&& (3 : Int32)) - (1 : Int32)))), .val (.int (1 : Int32)), .val (.int (1 : Int32))] [(.int (1 : Int32))]))
      refine own_to (fun t k => XS.ifNo X71.here hx rfl (hb hby at_164) rfl ((if0 _ _).trans (feq (by decide)).1) k) ?_
      show own_Fin _ _ _ _ _ _ (T71.setTop (mkF m 167 #[.val (.int p1), .val (.int p2), .val (.int p3), .val (.ref b), .val (.int ((own_edge (p2 &&& (15 : Int32))) + ((p3 &&& (3 : Int32)) - (1 : Int32)))), .val (.int (1 : Int32)), .val (.int (1 : Int32))] []))
      refine own_to (fun t k => XS.iload X71.here hx rfl (hb hby at_167) rfl k) ?_
      show own_Fin _ _ _ _ _ _ (T71.setTop (mkF m 169 #[.val (.int p1), .val (.int p2), .val (.int p3), .val (.ref b), .val (.int ((own_edge (p2 &&& (15 : Int32))) + ((p3 &&& (3 : Int32)) - (1 : Int32)))), .val (.int (1 : Int32)), .val (.int (1 : Int32))] [(.int (1 : Int32))]))
      refine own_to (fun t k => XS.ifNo X71.here hx rfl (hb hby at_169) rfl ((if0 _ _).trans (feq (by decide)).1) k) ?_
      show own_Fin _ _ _ _ _ _ (T71.setTop (mkF m 172 #[.val (.int p1), .val (.int p2), .val (.int p3), .val (.ref b), .val (.int ((own_edge (p2 &&& (15 : Int32))) + ((p3 &&& (3 : Int32)) - (1 : Int32)))), .val (.int (1 : Int32)), .val (.int (1 : Int32))] []))
      refine own_to (fun t k => XS.iconst X71.here hx rfl (hb hby at_172) k) ?_
      show own_Fin _ _ _ _ _ _ (T71.setTop (mkF m 173 #[.val (.int p1), .val (.int p2), .val (.int p3), .val (.ref b), .val (.int ((own_edge (p2 &&& (15 : Int32))) + ((p3 &&& (3 : Int32)) - (1 : Int32)))), .val (.int (1 : Int32)), .val (.int (1 : Int32))] [(.int (1 : Int32))]))
      refine own_to (fun t k => XS.goto X71.here hx rfl (pc0 := 173) (pc' := 177) rfl (hb hby at_173) (by decide) (by decide) k) ?_
      show own_Fin _ _ _ _ _ _ (T71.setTop (mkF m 177 #[.val (.int p1), .val (.int p2), .val (.int p3), .val (.ref b), .val (.int ((own_edge (p2 &&& (15 : Int32))) + ((p3 &&& (3 : Int32)) - (1 : Int32)))), .val (.int (1 : Int32)), .val (.int (1 : Int32))] [(.int (1 : Int32))]))
      refine own_retN X71 hx hlk (t := .boolean) hret (by simp) (hb hby at_177) (by decide) (by decide) ?_
      try rw [eh71]
      exact ⟨rfl, N71⟩
  ·
    show own_Fin _ _ _ _ _ _ (T67.setTop (mkF m 116 #[.val (.int p1), .val (.int p2), .val (.int p3), .val (.ref b), .val (.int ((own_edge (p2 &&& (15 : Int32))) + ((p3 &&& (3 : Int32)) - (1 : Int32)))), .unset, .unset] [(.int (own_ex p1)), (.int (own_is p1))]))
    have hj68 : own_is p1 = 0 := hi68.2 hf69
    refine own_to (fun t k => XS.ifYes X67.here hx rfl (pc0 := 116) (pc' := 123) rfl (hb hby at_116) rfl ((if0 _ _).trans (feq hf69).2) (by decide) (by decide) k) ?_
    show own_Fin _ _ _ _ _ _ (T67.setTop (mkF m 123 #[.val (.int p1), .val (.int p2), .val (.int p3), .val (.ref b), .val (.int ((own_edge (p2 &&& (15 : Int32))) + ((p3 &&& (3 : Int32)) - (1 : Int32)))), .unset, .unset] [(.int (own_is p1))]))
    refine own_to (fun t k => XS.iconst X67.here hx rfl (hb hby at_123) k) ?_
    show own_Fin _ _ _ _ _ _ (T67.setTop (mkF m 124 #[.val (.int p1), .val (.int p2), .val (.int p3), .val (.ref b), .val (.int ((own_edge (p2 &&& (15 : Int32))) + ((p3 &&& (3 : Int32)) - (1 : Int32)))), .unset, .unset] [(.int (0 : Int32)), (.int (own_is p1))]))
    refine own_to (fun t k => XS.icmpNo X67.here hx rfl (hb hby at_124) rfl (teq hj68).2 k) ?_
    show own_Fin _ _ _ _ _ _ (T67.setTop (mkF m 127 #[.val (.int p1), .val (.int p2), .val (.int p3), .val (.ref b), .val (.int ((own_edge (p2 &&& (15 : Int32))) + ((p3 &&& (3 : Int32)) - (1 : Int32)))), .unset, .unset] []))
    refine own_to (fun t k => XS.iconst X67.here hx rfl (hb hby at_127) k) ?_
    show own_Fin _ _ _ _ _ _ (T67.setTop (mkF m 128 #[.val (.int p1), .val (.int p2), .val (.int p3), .val (.ref b), .val (.int ((own_edge (p2 &&& (15 : Int32))) + ((p3 &&& (3 : Int32)) - (1 : Int32)))), .unset, .unset] [(.int (1 : Int32))]))
    refine own_to (fun t k => XS.goto X67.here hx rfl (pc0 := 128) (pc' := 132) rfl (hb hby at_128) (by decide) (by decide) k) ?_
    show own_Fin _ _ _ _ _ _ (T67.setTop (mkF m 132 #[.val (.int p1), .val (.int p2), .val (.int p3), .val (.ref b), .val (.int ((own_edge (p2 &&& (15 : Int32))) + ((p3 &&& (3 : Int32)) - (1 : Int32)))), .unset, .unset] [(.int (1 : Int32))]))
    refine own_to (fun t k => XS.istore X67.here hx rfl (hb hby at_132) rfl (l' := #[.val (.int p1), .val (.int p2), .val (.int p3), .val (.ref b), .val (.int ((own_edge (p2 &&& (15 : Int32))) + ((p3 &&& (3 : Int32)) - (1 : Int32)))), .val (.int (1 : Int32)), .unset]) rfl k) ?_
    show own_Fin _ _ _ _ _ _ (T67.setTop (mkF m 134 #[.val (.int p1), .val (.int p2), .val (.int p3), .val (.ref b), .val (.int ((own_edge (p2 &&& (15 : Int32))) + ((p3 &&& (3 : Int32)) - (1 : Int32)))), .val (.int (1 : Int32)), .unset] []))
    refine own_to (fun t k => XS.iload X67.here hx rfl (hb hby at_134) rfl k) ?_
    show own_Fin _ _ _ _ _ _ (T67.setTop (mkF m 136 #[.val (.int p1), .val (.int p2), .val (.int p3), .val (.ref b), .val (.int ((own_edge (p2 &&& (15 : Int32))) + ((p3 &&& (3 : Int32)) - (1 : Int32)))), .val (.int (1 : Int32)), .unset] [(.int ((own_edge (p2 &&& (15 : Int32))) + ((p3 &&& (3 : Int32)) - (1 : Int32))))]))
    obtain ⟨_, _, ⟨T74, L74, k74, n74⟩, -, X74, ⟨Lc74, hQ74, l74, y74, z74⟩, st74⟩ := Jvm.LawKit.callS X67 hx (y := (⟨"com/example/libxqtype/libxqtype/XmlCharacters", "isChar", "(I)Z"⟩ : MethodName)) hown (mvT hZ (hw _ (List.mem_of_getElem? (i := 7) rfl))) (mvT hZ (hw _ (List.mem_of_getElem? (i := 8) rfl))) (mvT hZ (hw _ (List.mem_of_getElem? (i := 9) rfl))) (mvT hZ (hw _ (List.mem_of_getElem? (i := 10) rfl))) (by decide) (own_back (W := 0) (own_rm1 l Z a0 hw [] ((own_edge (p2 &&& (15 : Int32))) + ((p3 &&& (3 : Int32)) - (1 : Int32))) h63 n0 (Nat.le_trans (Nat.le_trans (Nat.le_trans (Nat.le_trans (Nat.le_trans (Nat.le_trans (Nat.le_trans (Nat.le_trans (Nat.le_trans (Nat.le_trans (Nat.le_trans (Nat.le_trans (Nat.le_trans (Nat.le_trans (Nat.le_trans (Nat.le_trans (Nat.le_trans Z0 E30.1) (Keep.of_wr W33).1) (Keep.of_wr W35).1) (Keep.of_wr W37).1) (Keep.of_wr W39).1) (Keep.of_wr W41).1) (Keep.of_wr W43).1) (Keep.of_wr W45).1) (Keep.of_wr W47).1) (Keep.of_wr W49).1) (Keep.of_wr W51).1) (Keep.of_wr W53).1) (Keep.of_wr W55).1) (Keep.of_wr W57).1) (Keep.of_wr W59).1) (Keep.of_wr W61).1) (Keep.of_wr W63).1)) hZ (hw _ (List.mem_of_getElem? (i := 10) rfl)) (hw _ (List.mem_of_getElem? (i := 9) rfl)) (by decide) (by decide)) (g := (mkF m 136 #[.val (.int p1), .val (.int p2), .val (.int p3), .val (.ref b), .val (.int ((own_edge (p2 &&& (15 : Int32))) + ((p3 &&& (3 : Int32)) - (1 : Int32)))), .val (.int (1 : Int32)), .unset] [(.int ((own_edge (p2 &&& (15 : Int32))) + ((p3 &&& (3 : Int32)) - (1 : Int32))))])) rfl (by rw [hml]; rfl) (argsL := [(.int ((own_edge (p2 &&& (15 : Int32))) + ((p3 &&& (3 : Int32)) - (1 : Int32))))]) (rest := []) (lenOf own_pd0 rfl) rfl (by show 2 * 0 + _ ≤ _; exact Nat.le_of_eq rfl) (hb hby at_136) (fun _ _ => ⟨rfl, eh67, (by decide : 1 + 0 ≤ _), (by decide : 16 + 0 ≤ _)⟩)
    dsimp only [Pt.U, Pt.locs, Pt.cells, Pt.slots] at X74 l74 y74 z74 st74 hQ74
    subst l74 y74 z74
    obtain ⟨rfl, N74q, eh74⟩ := hQ74
    have N74 := Fr.app N67 N74q
    refine own_to (fun t k => st74 t k) ?_
    show own_Fin _ _ _ _ _ _ (T74.setTop (mkF m 139 #[.val (.int p1), .val (.int p2), .val (.int p3), .val (.ref b), .val (.int ((own_edge (p2 &&& (15 : Int32))) + ((p3 &&& (3 : Int32)) - (1 : Int32)))), .val (.int (1 : Int32)), .unset] [(.int (own_is ((own_edge (p2 &&& (15 : Int32))) + ((p3 &&& (3 : Int32)) - (1 : Int32)))))]))
    refine own_to (fun t k => XS.iload X74.here hx rfl (hb hby at_139) rfl k) ?_
    show own_Fin _ _ _ _ _ _ (T74.setTop (mkF m 141 #[.val (.int p1), .val (.int p2), .val (.int p3), .val (.ref b), .val (.int ((own_edge (p2 &&& (15 : Int32))) + ((p3 &&& (3 : Int32)) - (1 : Int32)))), .val (.int (1 : Int32)), .unset] [(.int ((own_edge (p2 &&& (15 : Int32))) + ((p3 &&& (3 : Int32)) - (1 : Int32)))), (.int (own_is ((own_edge (p2 &&& (15 : Int32))) + ((p3 &&& (3 : Int32)) - (1 : Int32)))))]))
    obtain ⟨_, _, ⟨T75, L75, k75, n75⟩, -, X75, ⟨Lc75, hQ75, l75, y75, z75⟩, st75⟩ := Jvm.LawKit.callS X74 hx (y := (⟨"com/example/libxqtype/libxqtype/XmlCharactersIsCharPinLaw", "excluded", "(I)Z"⟩ : MethodName)) hown (mvT hZ (hw _ (List.mem_of_getElem? (i := 13) rfl))) (mvT hZ (hw _ (List.mem_of_getElem? (i := 14) rfl))) (mvT hZ (hw _ (List.mem_of_getElem? (i := 15) rfl))) (mvT hZ (hw _ (List.mem_of_getElem? (i := 16) rfl))) (by decide) (own_back (W := 1) (own_rm2 l Z a0 hw [] ((own_edge (p2 &&& (15 : Int32))) + ((p3 &&& (3 : Int32)) - (1 : Int32))) h63 n0 (Nat.le_trans (Nat.le_trans (Nat.le_trans (Nat.le_trans (Nat.le_trans (Nat.le_trans (Nat.le_trans (Nat.le_trans (Nat.le_trans (Nat.le_trans (Nat.le_trans (Nat.le_trans (Nat.le_trans (Nat.le_trans (Nat.le_trans (Nat.le_trans (Nat.le_trans Z0 E30.1) (Keep.of_wr W33).1) (Keep.of_wr W35).1) (Keep.of_wr W37).1) (Keep.of_wr W39).1) (Keep.of_wr W41).1) (Keep.of_wr W43).1) (Keep.of_wr W45).1) (Keep.of_wr W47).1) (Keep.of_wr W49).1) (Keep.of_wr W51).1) (Keep.of_wr W53).1) (Keep.of_wr W55).1) (Keep.of_wr W57).1) (Keep.of_wr W59).1) (Keep.of_wr W61).1) (Keep.of_wr W63).1)) hZ (hw _ (List.mem_of_getElem? (i := 16) rfl)) (hw _ (List.mem_of_getElem? (i := 15) rfl)) (by decide) (by decide)) (g := (mkF m 141 #[.val (.int p1), .val (.int p2), .val (.int p3), .val (.ref b), .val (.int ((own_edge (p2 &&& (15 : Int32))) + ((p3 &&& (3 : Int32)) - (1 : Int32)))), .val (.int (1 : Int32)), .unset] [(.int ((own_edge (p2 &&& (15 : Int32))) + ((p3 &&& (3 : Int32)) - (1 : Int32)))), (.int (own_is ((own_edge (p2 &&& (15 : Int32))) + ((p3 &&& (3 : Int32)) - (1 : Int32)))))])) rfl (by rw [hml]; rfl) (argsL := [(.int ((own_edge (p2 &&& (15 : Int32))) + ((p3 &&& (3 : Int32)) - (1 : Int32))))]) (rest := [(.int (own_is ((own_edge (p2 &&& (15 : Int32))) + ((p3 &&& (3 : Int32)) - (1 : Int32)))))]) (lenOf own_pd0 rfl) rfl (by show 2 * 0 + _ ≤ _; exact Nat.le_of_eq rfl) (hb hby at_141) (fun _ _ => ⟨rfl, eh74, (by decide : 1 + 0 ≤ _), (by decide : 16 + 0 ≤ _)⟩)
    dsimp only [Pt.U, Pt.locs, Pt.cells, Pt.slots] at X75 l75 y75 z75 st75 hQ75
    subst l75 y75 z75
    obtain ⟨rfl, N75q, eh75⟩ := hQ75
    have N75 := Fr.app N74 N75q
    refine own_to (fun t k => st75 t k) ?_
    show own_Fin _ _ _ _ _ _ (T75.setTop (mkF m 144 #[.val (.int p1), .val (.int p2), .val (.int p3), .val (.ref b), .val (.int ((own_edge (p2 &&& (15 : Int32))) + ((p3 &&& (3 : Int32)) - (1 : Int32)))), .val (.int (1 : Int32)), .unset] [(.int (own_ex ((own_edge (p2 &&& (15 : Int32))) + ((p3 &&& (3 : Int32)) - (1 : Int32))))), (.int (own_is ((own_edge (p2 &&& (15 : Int32))) + ((p3 &&& (3 : Int32)) - (1 : Int32)))))]))
    have hi76 := own_both ((own_edge (p2 &&& (15 : Int32))) + ((p3 &&& (3 : Int32)) - (1 : Int32)))
    by_cases hf77 : (own_ex ((own_edge (p2 &&& (15 : Int32))) + ((p3 &&& (3 : Int32)) - (1 : Int32)))) = (0 : Int32)
    ·
      show own_Fin _ _ _ _ _ _ (T75.setTop (mkF m 144 #[.val (.int p1), .val (.int p2), .val (.int p3), .val (.ref b), .val (.int ((own_edge (p2 &&& (15 : Int32))) + ((p3 &&& (3 : Int32)) - (1 : Int32)))), .val (.int (1 : Int32)), .unset] [(.int (own_ex ((own_edge (p2 &&& (15 : Int32))) + ((p3 &&& (3 : Int32)) - (1 : Int32))))), (.int (own_is ((own_edge (p2 &&& (15 : Int32))) + ((p3 &&& (3 : Int32)) - (1 : Int32)))))]))
      have hj76 : own_is ((own_edge (p2 &&& (15 : Int32))) + ((p3 &&& (3 : Int32)) - (1 : Int32))) = 1 := hi76.1 hf77
      refine own_to (fun t k => XS.ifNo X75.here hx rfl (hb hby at_144) rfl ((if0 _ _).trans (teq hf77).2) k) ?_
      show own_Fin _ _ _ _ _ _ (T75.setTop (mkF m 147 #[.val (.int p1), .val (.int p2), .val (.int p3), .val (.ref b), .val (.int ((own_edge (p2 &&& (15 : Int32))) + ((p3 &&& (3 : Int32)) - (1 : Int32)))), .val (.int (1 : Int32)), .unset] [(.int (own_is ((own_edge (p2 &&& (15 : Int32))) + ((p3 &&& (3 : Int32)) - (1 : Int32)))))]))
      refine own_to (fun t k => XS.iconst X75.here hx rfl (hb hby at_147) k) ?_
      show own_Fin _ _ _ _ _ _ (T75.setTop (mkF m 148 #[.val (.int p1), .val (.int p2), .val (.int p3), .val (.ref b), .val (.int ((own_edge (p2 &&& (15 : Int32))) + ((p3 &&& (3 : Int32)) - (1 : Int32)))), .val (.int (1 : Int32)), .unset] [(.int (1 : Int32)), (.int (own_is ((own_edge (p2 &&& (15 : Int32))) + ((p3 &&& (3 : Int32)) - (1 : Int32)))))]))
      refine own_to (fun t k => XS.goto X75.here hx rfl (pc0 := 148) (pc' := 152) rfl (hb hby at_148) (by decide) (by decide) k) ?_
      show own_Fin _ _ _ _ _ _ (T75.setTop (mkF m 152 #[.val (.int p1), .val (.int p2), .val (.int p3), .val (.ref b), .val (.int ((own_edge (p2 &&& (15 : Int32))) + ((p3 &&& (3 : Int32)) - (1 : Int32)))), .val (.int (1 : Int32)), .unset] [(.int (1 : Int32)), (.int (own_is ((own_edge (p2 &&& (15 : Int32))) + ((p3 &&& (3 : Int32)) - (1 : Int32)))))]))
      refine own_to (fun t k => XS.icmpNo X75.here hx rfl (hb hby at_152) rfl (teq hj76).2 k) ?_
      show own_Fin _ _ _ _ _ _ (T75.setTop (mkF m 155 #[.val (.int p1), .val (.int p2), .val (.int p3), .val (.ref b), .val (.int ((own_edge (p2 &&& (15 : Int32))) + ((p3 &&& (3 : Int32)) - (1 : Int32)))), .val (.int (1 : Int32)), .unset] []))
      refine own_to (fun t k => XS.iconst X75.here hx rfl (hb hby at_155) k) ?_
      show own_Fin _ _ _ _ _ _ (T75.setTop (mkF m 156 #[.val (.int p1), .val (.int p2), .val (.int p3), .val (.ref b), .val (.int ((own_edge (p2 &&& (15 : Int32))) + ((p3 &&& (3 : Int32)) - (1 : Int32)))), .val (.int (1 : Int32)), .unset] [(.int (1 : Int32))]))
      refine own_to (fun t k => XS.goto X75.here hx rfl (pc0 := 156) (pc' := 160) rfl (hb hby at_156) (by decide) (by decide) k) ?_
      show own_Fin _ _ _ _ _ _ (T75.setTop (mkF m 160 #[.val (.int p1), .val (.int p2), .val (.int p3), .val (.ref b), .val (.int ((own_edge (p2 &&& (15 : Int32))) + ((p3 &&& (3 : Int32)) - (1 : Int32)))), .val (.int (1 : Int32)), .unset] [(.int (1 : Int32))]))
      refine own_to (fun t k => XS.istore X75.here hx rfl (hb hby at_160) rfl (l' := #[.val (.int p1), .val (.int p2), .val (.int p3), .val (.ref b), .val (.int ((own_edge (p2 &&& (15 : Int32))) + ((p3 &&& (3 : Int32)) - (1 : Int32)))), .val (.int (1 : Int32)), .val (.int (1 : Int32))]) rfl k) ?_
      show own_Fin _ _ _ _ _ _ (T75.setTop (mkF m 162 #[.val (.int p1), .val (.int p2), .val (.int p3), .val (.ref b), .val (.int ((own_edge (p2 &&& (15 : Int32))) + ((p3 &&& (3 : Int32)) - (1 : Int32)))), .val (.int (1 : Int32)), .val (.int (1 : Int32))] []))
      refine own_to (fun t k => XS.iload X75.here hx rfl (hb hby at_162) rfl k) ?_
      show own_Fin _ _ _ _ _ _ (T75.setTop (mkF m 164 #[.val (.int p1), .val (.int p2), .val (.int p3), .val (.ref b), .val (.int ((own_edge (p2 &&& (15 : Int32))) + ((p3 &&& (3 : Int32)) - (1 : Int32)))), .val (.int (1 : Int32)), .val (.int (1 : Int32))] [(.int (1 : Int32))]))
      refine own_to (fun t k => XS.ifNo X75.here hx rfl (hb hby at_164) rfl ((if0 _ _).trans (feq (by decide)).1) k) ?_
      show own_Fin _ _ _ _ _ _ (T75.setTop (mkF m 167 #[.val (.int p1), .val (.int p2), .val (.int p3), .val (.ref b), .val (.int ((own_edge (p2 &&& (15 : Int32))) + ((p3 &&& (3 : Int32)) - (1 : Int32)))), .val (.int (1 : Int32)), .val (.int (1 : Int32))] []))
      refine own_to (fun t k => XS.iload X75.here hx rfl (hb hby at_167) rfl k) ?_
      show own_Fin _ _ _ _ _ _ (T75.setTop (mkF m 169 #[.val (.int p1), .val (.int p2), .val (.int p3), .val (.ref b), .val (.int ((own_edge (p2 &&& (15 : Int32))) + ((p3 &&& (3 : Int32)) - (1 : Int32)))), .val (.int (1 : Int32)), .val (.int (1 : Int32))] [(.int (1 : Int32))]))
      refine own_to (fun t k => XS.ifNo X75.here hx rfl (hb hby at_169) rfl ((if0 _ _).trans (feq (by decide)).1) k) ?_
      show own_Fin _ _ _ _ _ _ (T75.setTop (mkF m 172 #[.val (.int p1), .val (.int p2), .val (.int p3), .val (.ref b), .val (.int ((own_edge (p2 &&& (15 : Int32))) + ((p3 &&& (3 : Int32)) - (1 : Int32)))), .val (.int (1 : Int32)), .val (.int (1 : Int32))] []))
      refine own_to (fun t k => XS.iconst X75.here hx rfl (hb hby at_172) k) ?_
      show own_Fin _ _ _ _ _ _ (T75.setTop (mkF m 173 #[.val (.int p1), .val (.int p2), .val (.int p3), .val (.ref b), .val (.int ((own_edge (p2 &&& (15 : Int32))) + ((p3 &&& (3 : Int32)) - (1 : Int32)))), .val (.int (1 : Int32)), .val (.int (1 : Int32))] [(.int (1 : Int32))]))
      refine own_to (fun t k => XS.goto X75.here hx rfl (pc0 := 173) (pc' := 177) rfl (hb hby at_173) (by decide) (by decide) k) ?_
      show own_Fin _ _ _ _ _ _ (T75.setTop (mkF m 177 #[.val (.int p1), .val (.int p2), .val (.int p3), .val (.ref b), .val (.int ((own_edge (p2 &&& (15 : Int32))) + ((p3 &&& (3 : Int32)) - (1 : Int32)))), .val (.int (1 : Int32)), .val (.int (1 : Int32))] [(.int (1 : Int32))]))
      refine own_retN X75 hx hlk (t := .boolean) hret (by simp) (hb hby at_177) (by decide) (by decide) ?_
      try rw [eh75]
      exact ⟨rfl, N75⟩
    ·
      show own_Fin _ _ _ _ _ _ (T75.setTop (mkF m 144 #[.val (.int p1), .val (.int p2), .val (.int p3), .val (.ref b), .val (.int ((own_edge (p2 &&& (15 : Int32))) + ((p3 &&& (3 : Int32)) - (1 : Int32)))), .val (.int (1 : Int32)), .unset] [(.int (own_ex ((own_edge (p2 &&& (15 : Int32))) + ((p3 &&& (3 : Int32)) - (1 : Int32))))), (.int (own_is ((own_edge (p2 &&& (15 : Int32))) + ((p3 &&& (3 : Int32)) - (1 : Int32)))))]))
      have hj76 : own_is ((own_edge (p2 &&& (15 : Int32))) + ((p3 &&& (3 : Int32)) - (1 : Int32))) = 0 := hi76.2 hf77
      refine own_to (fun t k => XS.ifYes X75.here hx rfl (pc0 := 144) (pc' := 151) rfl (hb hby at_144) rfl ((if0 _ _).trans (feq hf77).2) (by decide) (by decide) k) ?_
      show own_Fin _ _ _ _ _ _ (T75.setTop (mkF m 151 #[.val (.int p1), .val (.int p2), .val (.int p3), .val (.ref b), .val (.int ((own_edge (p2 &&& (15 : Int32))) + ((p3 &&& (3 : Int32)) - (1 : Int32)))), .val (.int (1 : Int32)), .unset] [(.int (own_is ((own_edge (p2 &&& (15 : Int32))) + ((p3 &&& (3 : Int32)) - (1 : Int32)))))]))
      refine own_to (fun t k => XS.iconst X75.here hx rfl (hb hby at_151) k) ?_
      show own_Fin _ _ _ _ _ _ (T75.setTop (mkF m 152 #[.val (.int p1), .val (.int p2), .val (.int p3), .val (.ref b), .val (.int ((own_edge (p2 &&& (15 : Int32))) + ((p3 &&& (3 : Int32)) - (1 : Int32)))), .val (.int (1 : Int32)), .unset] [(.int (0 : Int32)), (.int (own_is ((own_edge (p2 &&& (15 : Int32))) + ((p3 &&& (3 : Int32)) - (1 : Int32)))))]))
      refine own_to (fun t k => XS.icmpNo X75.here hx rfl (hb hby at_152) rfl (teq hj76).2 k) ?_
      show own_Fin _ _ _ _ _ _ (T75.setTop (mkF m 155 #[.val (.int p1), .val (.int p2), .val (.int p3), .val (.ref b), .val (.int ((own_edge (p2 &&& (15 : Int32))) + ((p3 &&& (3 : Int32)) - (1 : Int32)))), .val (.int (1 : Int32)), .unset] []))
      refine own_to (fun t k => XS.iconst X75.here hx rfl (hb hby at_155) k) ?_
      show own_Fin _ _ _ _ _ _ (T75.setTop (mkF m 156 #[.val (.int p1), .val (.int p2), .val (.int p3), .val (.ref b), .val (.int ((own_edge (p2 &&& (15 : Int32))) + ((p3 &&& (3 : Int32)) - (1 : Int32)))), .val (.int (1 : Int32)), .unset] [(.int (1 : Int32))]))
      refine own_to (fun t k => XS.goto X75.here hx rfl (pc0 := 156) (pc' := 160) rfl (hb hby at_156) (by decide) (by decide) k) ?_
      show own_Fin _ _ _ _ _ _ (T75.setTop (mkF m 160 #[.val (.int p1), .val (.int p2), .val (.int p3), .val (.ref b), .val (.int ((own_edge (p2 &&& (15 : Int32))) + ((p3 &&& (3 : Int32)) - (1 : Int32)))), .val (.int (1 : Int32)), .unset] [(.int (1 : Int32))]))
      refine own_to (fun t k => XS.istore X75.here hx rfl (hb hby at_160) rfl (l' := #[.val (.int p1), .val (.int p2), .val (.int p3), .val (.ref b), .val (.int ((own_edge (p2 &&& (15 : Int32))) + ((p3 &&& (3 : Int32)) - (1 : Int32)))), .val (.int (1 : Int32)), .val (.int (1 : Int32))]) rfl k) ?_
      show own_Fin _ _ _ _ _ _ (T75.setTop (mkF m 162 #[.val (.int p1), .val (.int p2), .val (.int p3), .val (.ref b), .val (.int ((own_edge (p2 &&& (15 : Int32))) + ((p3 &&& (3 : Int32)) - (1 : Int32)))), .val (.int (1 : Int32)), .val (.int (1 : Int32))] []))
      refine own_to (fun t k => XS.iload X75.here hx rfl (hb hby at_162) rfl k) ?_
      show own_Fin _ _ _ _ _ _ (T75.setTop (mkF m 164 #[.val (.int p1), .val (.int p2), .val (.int p3), .val (.ref b), .val (.int ((own_edge (p2 &&& (15 : Int32))) + ((p3 &&& (3 : Int32)) - (1 : Int32)))), .val (.int (1 : Int32)), .val (.int (1 : Int32))] [(.int (1 : Int32))]))
      refine own_to (fun t k => XS.ifNo X75.here hx rfl (hb hby at_164) rfl ((if0 _ _).trans (feq (by decide)).1) k) ?_
      show own_Fin _ _ _ _ _ _ (T75.setTop (mkF m 167 #[.val (.int p1), .val (.int p2), .val (.int p3), .val (.ref b), .val (.int ((own_edge (p2 &&& (15 : Int32))) + ((p3 &&& (3 : Int32)) - (1 : Int32)))), .val (.int (1 : Int32)), .val (.int (1 : Int32))] []))
      refine own_to (fun t k => XS.iload X75.here hx rfl (hb hby at_167) rfl k) ?_
      show own_Fin _ _ _ _ _ _ (T75.setTop (mkF m 169 #[.val (.int p1), .val (.int p2), .val (.int p3), .val (.ref b), .val (.int ((own_edge (p2 &&& (15 : Int32))) + ((p3 &&& (3 : Int32)) - (1 : Int32)))), .val (.int (1 : Int32)), .val (.int (1 : Int32))] [(.int (1 : Int32))]))
      refine own_to (fun t k => XS.ifNo X75.here hx rfl (hb hby at_169) rfl ((if0 _ _).trans (feq (by decide)).1) k) ?_
      show own_Fin _ _ _ _ _ _ (T75.setTop (mkF m 172 #[.val (.int p1), .val (.int p2), .val (.int p3), .val (.ref b), .val (.int ((own_edge (p2 &&& (15 : Int32))) + ((p3 &&& (3 : Int32)) - (1 : Int32)))), .val (.int (1 : Int32)), .val (.int (1 : Int32))] []))
      refine own_to (fun t k => XS.iconst X75.here hx rfl (hb hby at_172) k) ?_
      show own_Fin _ _ _ _ _ _ (T75.setTop (mkF m 173 #[.val (.int p1), .val (.int p2), .val (.int p3), .val (.ref b), .val (.int ((own_edge (p2 &&& (15 : Int32))) + ((p3 &&& (3 : Int32)) - (1 : Int32)))), .val (.int (1 : Int32)), .val (.int (1 : Int32))] [(.int (1 : Int32))]))
      refine own_to (fun t k => XS.goto X75.here hx rfl (pc0 := 173) (pc' := 177) rfl (hb hby at_173) (by decide) (by decide) k) ?_
      show own_Fin _ _ _ _ _ _ (T75.setTop (mkF m 177 #[.val (.int p1), .val (.int p2), .val (.int p3), .val (.ref b), .val (.int ((own_edge (p2 &&& (15 : Int32))) + ((p3 &&& (3 : Int32)) - (1 : Int32)))), .val (.int (1 : Int32)), .val (.int (1 : Int32))] [(.int (1 : Int32))]))
      refine own_retN X75 hx hlk (t := .boolean) hret (by simp) (hb hby at_177) (by decide) (by decide) ?_
      try rw [eh75]
      exact ⟨rfl, N75⟩
set_option maxRecDepth 65536 in
set_option maxHeartbeats 40000000 in
theorem comes_1 {Post : Tables → Env → Array Value → State → Outcome → State → Prop} (hpost : ∀ tb e args s v u, (limb_1_1.after args s (.returned v) u = true ∧ limb_1_2.after args s (.returned v) u = true ∧ True) → FrameEnd s (.returned v) u (Jvm.fieldLocs frame_1_writes args s ++ Jvm.arrayLocs frame_1_arrays args s ++ Jvm.staticLocs frame_1_statics s) 16 128 → Post tb e args s (.returned v) u) :
    ArmFor flags0 classFile x code maxLocals ret World_1 tables_1 room_1 Calls_1 rest_1 Pre_1 Post := by
  intro l hfl _ _ p e ha hc hk s m args below hf hA hF happ hP
  obtain ⟨hcalls, hrest, hpre⟩ := hP
  obtain ⟨-, -, -, hnamed, -, -, -, hat⟩ := (Spec.applies_iff hf).mp happ
  obtain ⟨hg, hn⟩ := and_e (Cond.before_iff.mp (show (Jvm.Cond.and given_1 narrow_1).before args s = true from hpre))
  obtain ⟨g1, g2⟩ := and_e hg
  obtain ⟨g3, g4⟩ := and_e g2
  obtain ⟨g5, g6⟩ := and_e g4
  obtain ⟨w0, w1, w2, rfl⟩ : ∃ w0 w1 w2 : Value, args = #[w0, w1, w2] := by
    have hs : args.size = 3 := by simpa [Cond.value, given_1] using g1
    obtain ⟨L⟩ := args
    match L, hs with
    | [w0, w1, w2], _ => exact ⟨w0, w1, w2, rfl⟩
  have hw := fun d (hd : d ∈ tables_1) => atoms_spec (ws := Jvm.Cond.code x code maxLocals ret :: tables_1) hat d (List.mem_cons_of_mem _ hd)
  have hfit : Fit s := fun {y c} hc i hi => by
    obtain ⟨ha, rfl⟩ := Array.getElem?_eq_some_iff.mp hc
    have q := List.all_eq_true.mp ((Array.all_eq_true_iff_forall_mem.mp hF) _ (Array.getElem_mem ha)) i (List.mem_range.mpr hi)
    simpa [Array.getElem?_eq_getElem hi] using q
  obtain ⟨i0, ei0⟩ := is_v g3
  obtain rfl : w0 = (.int i0) := Option.some.inj ei0
  obtain ⟨i1, ei1⟩ := is_v g5
  obtain rfl : w1 = (.int i1) := Option.some.inj ei1
  obtain ⟨i2, ei2⟩ := is_v g6
  obtain rfl : w2 = (.int i2) := Option.some.inj ei2
  obtain ⟨n, o, h1, h2, h3, _, L, rfl, ⟨rfl, N⟩, hq⟩ := own_rm0 l s _ hw tables_1 i0 i1 i2 s.heap s.heap.size (Nat.le_refl _) p e ha hc hk s m _ below hf ((Spec.applies_iff_loose hf).mp happ).1 ⟨rfl, State.Warmed39.refl s, rfl⟩ trivial
  refine ⟨n, _, h1, h2, h3, hpost _ _ _ _ _ _ ⟨Cond.after_iff.mpr rfl, Cond.after_iff.mpr (eq_i res_at (Term.int_eval (1)) rfl), trivial⟩ ⟨hq.1, hq.2.1, (hq.2.2.sift fun y hy => Or.inr (N y hy)).mono (by decide) (by decide)⟩⟩
theorem main_1_1 : Claimed_1_1 := comes_1 fun _ _ _ _ _ _ h hF => ⟨h.1, hF⟩
theorem main_1_2 : Claimed_1_2 := comes_1 fun _ _ _ _ _ _ h hF => ⟨h.2.1, hF⟩
end Jvm.Pilot.@@N@@
namespace Jvm.Pilot.@@N@@
open Jvm Jvm.ClassFile Sem Op Lib Jvm.Free Jvm.Stand Jvm.Pilot.@@N@@.Jvm.D
/-! MADE BY PROGRAM (witnessworld.py) out of the Statement's table words and the real class files: 9 classes; the members and pool entries that the words name. The judged class is class 1, her method 2. -/
namespace start1
open Jvm.ClassFile
def u (s : String) : CpInfo := .utf8 (stringToUtf16 s)
/-- a pool by its gaps: so many unusable entries, then the entry; so many at the end -/
def gap : Nat → List CpInfo → List CpInfo
  | 0, r => r
  | n + 1, r => .unusable :: gap n r
def poolList (es : List (Nat × CpInfo)) (last : Nat) : List CpInfo := es.foldr (fun e r => gap e.1 (e.2 :: r)) (gap last [])
def pool (es : List (Nat × CpInfo)) (last : Nat) : Array CpInfo := ⟨poolList es last⟩
def fileOf (pool : Array CpInfo) (this : Nat) (attrs : Array Attribute := #[]) (ms : Array MethodInfo := #[]) (fl : Nat := 33) (sup : Nat := 0) (ifs : Array Nat := #[]) (fds : Array FieldInfo := #[]) : ClassFile where
  minorVersion := 0
  majorVersion := 65
  constantPool := pool
  accessFlags := fl
  thisClass := this
  superClass := sup
  interfaces := ifs
  fields := fds
  methods := ms
  attributes := attrs
def plain (name : String) (sup : Option ClassId) : Class where
  name := name
  kind := .ordinary
  loader := none
  accessFlags := 33
  super := sup
  interfaces := #[]
  cf := none
  fields := #[]
  methods := #[]
  instanceTypes := #[]
  staticTypes := #[]
  resolved := #[]
  callSites := []
  init := .initialized
  statics := none
  mirror := none

def pool0 : Array CpInfo := pool [(5, u "<init>"), (0, u "()V"), (1, .class_ 10), (1, u "java/lang/Object")] 113

def k0m0 : Method := { name := "<init>", desc := "()V", sig := { parameters := [], returnType := none }, accessFlags := 1, code := none }
/-- java/lang/Object -/
def k0 : Class := { plain "java/lang/Object" none with
  accessFlags := 33
  interfaces := #[]
  cf := some (fileOf pool0 8 #[] #[{ accessFlags := 1, nameIndex := 5, descriptorIndex := 6, attributes := #[] }] 33 0 #[] #[])
  fields := #[]
  methods := #[k0m0]
  instanceTypes := #[]
  staticTypes := #[]
  resolved := Array.replicate 124 none
  statics := none }

def pool1 : Array CpInfo := pool [(2, .class_ 4), (1, u "java/lang/Object"), (0, u "<init>"), (0, u "()V"), (0, .integer 1114111), (0, .integer 55296), (0, .integer 57343), (0, .integer 65534), (0, .integer 65535), (0, .integer 55295), (0, .integer 57344), (0, .integer 65533), (0, .integer 65536), (0, .methodref 17 18), (0, .class_ 19), (0, .nameAndType 20 21), (0, u "com/example/libxqtype/libxqtype/XmlCharacters"), (0, u "isChar"), (0, u "(I)Z"), (0, .methodref 23 24), (0, .class_ 25), (0, .nameAndType 26 21), (0, u "com/example/libxqtype/libxqtype/XmlCharactersIsCharPinLaw"), (0, u "excluded"), (3, u "law"), (0, u "(III)Z")] 4

def k1m0 : Method := { name := "<init>", desc := "()V", sig := { parameters := [], returnType := none }, accessFlags := 2, code := none }
def k1c1 : Code := { maxStack := 2, maxLocals := 1, code := method_2_code, exceptionTable := #[], attributes := #[] }
def k1m1 : Method := { name := "excluded", desc := "(I)Z", sig := { parameters := [.int], returnType := some .boolean }, accessFlags := 10, code := some k1c1 }
def k1c2 : Code := { maxStack := 4, maxLocals := 7, code := code, exceptionTable := #[], attributes := #[] }
def k1m2 : Method := { name := "law", desc := "(III)Z", sig := { parameters := [.int, .int, .int], returnType := some .boolean }, accessFlags := 9, code := some k1c2 }
/-- com/example/libxqtype/libxqtype/XmlCharactersIsCharPinLaw -/
def k1 : Class := { plain "com/example/libxqtype/libxqtype/XmlCharactersIsCharPinLaw" (some 0) with
  accessFlags := 49
  interfaces := #[]
  cf := some (fileOf pool1 23 #[] #[{ accessFlags := 2, nameIndex := 5, descriptorIndex := 6, attributes := #[] }, { accessFlags := 10, nameIndex := 26, descriptorIndex := 21, attributes := #[] }, { accessFlags := 9, nameIndex := 30, descriptorIndex := 31, attributes := #[] }] 49 2 #[] #[])
  fields := #[]
  methods := #[k1m0, k1m1, k1m2]
  instanceTypes := #[]
  staticTypes := #[]
  resolved := Array.replicate 36 none
  statics := none }

def pool2 : Array CpInfo := pool [(2, .class_ 4), (1, u "java/lang/Object"), (0, u "<init>"), (0, u "()V"), (1, .class_ 10), (1, u "com/example/libxqtype/libxqtype/XmlCharacters"), (43, u "ASCII_NAME_CHARACTERS"), (0, u "[B"), (3, u "(I)Z"), (3, .integer 55295), (3, .integer 65533), (0, .integer 65536), (27, .integer 57344), (0, .integer 1114111), (0, u "NAME"), (0, u "B"), (2, u "NAME_START"), (14, u "isChar")] 3

def k2m0 : Method := { name := "<init>", desc := "()V", sig := { parameters := [], returnType := none }, accessFlags := 2, code := none }
def k2c1 : Code := { maxStack := 2, maxLocals := 1, code := prog_146_method_16_code, exceptionTable := #[], attributes := #[] }
def k2m1 : Method := { name := "isChar", desc := "(I)Z", sig := { parameters := [.int], returnType := some .boolean }, accessFlags := 8, code := some k2c1 }
/-- com/example/libxqtype/libxqtype/XmlCharacters -/
def k2 : Class := { plain "com/example/libxqtype/libxqtype/XmlCharacters" (some 0) with
  accessFlags := 48
  interfaces := #[]
  cf := some (fileOf pool2 8 #[] #[{ accessFlags := 2, nameIndex := 5, descriptorIndex := 6, attributes := #[] }, { accessFlags := 8, nameIndex := 117, descriptorIndex := 59, attributes := #[] }] 48 2 #[] #[{ accessFlags := 26, nameIndex := 98, descriptorIndex := 99, attributes := #[] }, { accessFlags := 26, nameIndex := 102, descriptorIndex := 99, attributes := #[] }, { accessFlags := 26, nameIndex := 54, descriptorIndex := 55, attributes := #[] }])
  fields := #[{ name := "NAME", type := .byte, accessFlags := 26, slot := 0, constantValue := 0 }, { name := "NAME_START", type := .byte, accessFlags := 26, slot := 1, constantValue := 0 }, { name := "ASCII_NAME_CHARACTERS", type := (.array .byte), accessFlags := 26, slot := 2, constantValue := 0 }]
  methods := #[k2m0, k2m1]
  instanceTypes := #[]
  staticTypes := #[.byte, .byte, (.array .byte)]
  resolved := Array.replicate 121 none
  statics := none }

def pool3 : Array CpInfo := pool [(1, u "java/lang/Cloneable"), (0, .class_ 1), (0, u "java/lang/Object"), (0, .class_ 3)] 3

/-- java/lang/Cloneable -/
def k3 : Class := { plain "java/lang/Cloneable" (some 0) with
  accessFlags := 1537
  interfaces := #[]
  cf := some (fileOf pool3 2 #[] #[] 1537 4 #[] #[])
  fields := #[]
  methods := #[]
  instanceTypes := #[]
  staticTypes := #[]
  resolved := Array.replicate 8 none
  statics := none }

def pool4 : Array CpInfo := pool [(1, u "java/io/Serializable"), (0, .class_ 1), (0, u "java/lang/Object"), (0, .class_ 3)] 3

/-- java/io/Serializable -/
def k4 : Class := { plain "java/io/Serializable" (some 0) with
  accessFlags := 1537
  interfaces := #[]
  cf := some (fileOf pool4 2 #[] #[] 1537 4 #[] #[])
  fields := #[]
  methods := #[]
  instanceTypes := #[]
  staticTypes := #[]
  resolved := Array.replicate 8 none
  statics := none }

/-- the primitive byte -/
def k5 : Class := { plain "byte" none with kind := .primitive 'B', accessFlags := 0x411 }
/-- [B -/
def k6 : Class := { plain "[B" (some 0) with kind := .array 5 .byte, interfaces := #[3, 4], accessFlags := 1041 }

/-- the primitive int -/
def k7 : Class := { plain "int" none with kind := .primitive 'I', accessFlags := 0x411 }
/-- [I -/
def k8 : Class := { plain "[I" (some 0) with kind := .array 7 .int, interfaces := #[3, 4], accessFlags := 1041 }

def heap : Heap := #[]
def classes : Array Class := #[k0, k1, k2, k3, k4, k5, k6, k7, k8]
def interned : List (Array UInt16 × Addr) := []
def slotsUsed : Nat := 0
def theMethod : MethodId := ⟨1, 2⟩
def args0 : Array Value := #[.int 5, .int 7, .int 9]
def aboutOver (below : List Frame) : State where
  vm := { classes := classes, interned := interned.toArray }
  heap := heap
  slotsUsed := slotsUsed
  threads := #[{ frames := .invoking theMethod args0 :: below }]
def below0 : List Frame := [.native { method := ⟨0, 0⟩, args := #[] }]
def about1 : State := aboutOver below0
def p0 : Program := .bare "" "" ""
def e0 : Env := launch0.env 0 0 0
theorem w_frames : about1.frames = Frame.invoking theMethod args0 :: below0 := rfl
set_option maxRecDepth 65536 in
theorem w_args : argsFit about1.vm theMethod args0 = true := by decide +kernel
set_option maxRecDepth 65536 in
theorem w_heap : heapFits about1 = true := by decide +kernel
set_option maxRecDepth 65536 in
theorem w_runnable : about1.curStatus? = some .runnable := by decide +kernel
set_option maxRecDepth 65536 in
theorem w_alone : about1.alone = true := by decide +kernel
set_option maxRecDepth 65536 in
theorem w_named : about1.methodNamed? x = some theMethod := by decide +kernel
set_option maxRecDepth 65536 in
theorem w_hears : about1.hears theMethod below0 = true := by decide +kernel
set_option maxRecDepth 65536 in
theorem w_ripe : about1.ripe theMethod args0 below0 = true := by decide +kernel
theorem w_running : about1.status = .running := rfl
set_option maxRecDepth 65536 in
theorem w_room : about1.hasRoom e0.platform room_1 = true :=
  launch0.hasRoom_least _ room_1 (by decide +kernel) (by decide +kernel) (by decide +kernel) (by decide +kernel) (by decide +kernel) (by decide +kernel)
theorem allAtoms_all (ts : List Jvm.Cond) (a : Array Jvm.Value) (st : Jvm.State) : (allAtoms ts).before a st = ts.all (fun c => c.before a st) := by
  induction ts with
  | nil => rfl
  | cons c t ih =>
    show (Jvm.Cond.and c (allAtoms t)).before a st = _
    rw [Jvm.Cond.before_and, ih, List.all_cons]
def words1 : List Jvm.Cond := Jvm.Cond.code x code maxLocals ret :: tables_1
/-- a 'code' word, met by the world's own term for the bytes: nothing is compared byte by byte -/
theorem code_word {y : MethodName} {bytes : ByteArray} {mx : Nat} {rt : Option FieldType} {a : Array Value} {s : State} {m : MethodId} {meth : Method} {c : Code} (h1 : s.methodNamed? y = some m) (h2 : s.vm.method? m = some meth) (h3 : meth.code = some c) (h4 : c.code = bytes)
    (h5 : (c.maxLocals == mx && c.exceptionTable.isEmpty && decide (c.maxStack ≤ mostOperands) && decide (meth.sig.returnType = rt) && !meth.locks && decide (parseMethodDescriptor y.desc = some meth.sig)) = true) : (Jvm.Cond.code y bytes mx rt).before a s = true := by
  simp only [Bool.and_eq_true, beq_iff_eq, Bool.not_eq_true', decide_eq_true_eq] at h5
  obtain ⟨⟨⟨⟨⟨g1, g2⟩, g3⟩, g4⟩, g5⟩, g6⟩ := h5
  simp [Cond.before, Cond.holds, Cond.value, h1, h2, h3, h4, g1, g2, g3, g4, g5, g6]
def isCode : Jvm.Cond → Bool
  | .code _ _ _ _ => true
  | _ => false
theorem all_split {L : List Jvm.Cond} {P : Jvm.Cond → Bool} (h1 : L.all (fun c => isCode c || P c) = true) (h2 : ∀ c ∈ L.filter isCode, P c = true) : L.all P = true := by
  refine List.all_eq_true.mpr fun c hc => ?_
  have h := List.all_eq_true.mp h1 c hc
  rcases Bool.eq_false_or_eq_true (isCode c) with hi | hi
  · exact h2 c (List.mem_filter.mpr ⟨hc, hi⟩)
  · simpa [hi] using h
set_option maxRecDepth 65536 in
theorem w_c0 : (Jvm.Cond.code x code maxLocals ret).before args0 about1 = true := code_word (m := ⟨1, 2⟩) (meth := k1m2) (c := k1c2) (by decide +kernel) rfl rfl rfl (by decide +kernel)
set_option maxRecDepth 65536 in
theorem w_c1 : (Jvm.Cond.code ({ cls := "com/example/libxqtype/libxqtype/XmlCharacters", name := "isChar", desc := "(I)Z" } : Jvm.MethodName) prog_146_method_16_code (1 : Nat) (Option.some Jvm.ClassFile.FieldType.boolean)).before args0 about1 = true := code_word (m := ⟨2, 1⟩) (meth := k2m1) (c := k2c1) (by decide +kernel) rfl rfl rfl (by decide +kernel)
set_option maxRecDepth 65536 in
theorem w_c2 : (Jvm.Cond.code ({ cls := "com/example/libxqtype/libxqtype/XmlCharactersIsCharPinLaw", name := "excluded", desc := "(I)Z" } : Jvm.MethodName) method_2_code (1 : Nat) (Option.some Jvm.ClassFile.FieldType.boolean)).before args0 about1 = true := code_word (m := ⟨1, 1⟩) (meth := k1m1) (c := k1c1) (by decide +kernel) rfl rfl rfl (by decide +kernel)
def codes1 : List Jvm.Cond := [Jvm.Cond.code x code maxLocals ret, Jvm.Cond.code ({ cls := "com/example/libxqtype/libxqtype/XmlCharacters", name := "isChar", desc := "(I)Z" } : Jvm.MethodName) prog_146_method_16_code (1 : Nat) (Option.some Jvm.ClassFile.FieldType.boolean), Jvm.Cond.code ({ cls := "com/example/libxqtype/libxqtype/XmlCharactersIsCharPinLaw", name := "excluded", desc := "(I)Z" } : Jvm.MethodName) method_2_code (1 : Nat) (Option.some Jvm.ClassFile.FieldType.boolean)]
set_option maxRecDepth 65536 in
theorem codes_eq : words1.filter isCode = codes1 := rfl
theorem w_codes : ∀ c ∈ words1.filter isCode, c.before args0 about1 = true := by
  rw [codes_eq]
  intro c hc
  simp only [codes1, List.mem_cons, List.not_mem_nil, or_false] at hc
  rcases hc with rfl | rfl | rfl
  · exact w_c0
  · exact w_c1
  · exact w_c2
set_option maxRecDepth 65536 in
theorem w_t1 : words1.all (fun c => isCode c || c.before args0 about1) = true := by decide +kernel
theorem w_tables : (allAtoms (Jvm.Cond.code x code maxLocals ret :: tables_1)).before args0 about1 = true := by
  rw [allAtoms_all]
  show words1.all (fun c => c.before args0 about1) = true
  refine all_split ?_ w_codes
  rw [w_t1]
set_option maxRecDepth 65536 in
theorem w_case : (Jvm.Cond.and given_1 narrow_1).before args0 about1 = true := by decide +kernel
theorem w_applies : (headSpec (Jvm.Cond.code x code maxLocals ret :: tables_1) room_1).applies x e0.platform about1 = true :=
  (Spec.applies_iff w_frames).mpr ⟨w_running, w_runnable, w_alone, w_named, w_hears, w_ripe, w_room, w_tables⟩
theorem atStart : AtStart classFile x code maxLocals ret World_1 tables_1 room_1 Calls_1 rest_1 Pre_1 launch0 p0 e0 about1 theMethod args0 below0 :=
  ⟨lists_1, trivial, launch0.admits_env _ _ _, launch0.least_env, fairChoices_fair.cas, fairChoices_fair.clock, w_frames, w_args, w_heap, w_applies, trivial, trivial, w_case⟩
end start1
theorem witness_1 : WitnessClaimed_1 := ⟨start1.p0, start1.e0, start1.about1, start1.theMethod, start1.args0, start1.below0, start1.atStart⟩
end Jvm.Pilot.@@N@@
