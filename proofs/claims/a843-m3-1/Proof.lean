import JvmDerived
import JvmDerived.Pilot.@@N@@Statement
import JvmDerived.Pilot.@@N@@Code
set_option linter.unusedVariables false
set_option linter.unusedSimpArgs false
namespace Jvm.Pilot.@@N@@
open Jvm Jvm.ClassFile Sem Op Lib Jvm.Free Jvm.Stand Jvm.LawKit Jvm.RoadKit Bundle Jvm.Pilot.@@N@@.Jvm.D
section Own
variable {p : Program} {l : Launch} {e : Env} {R : Room} {s Z : State} {m : MethodId} {args : Array Value} {below : List Frame} {meth : Method} {c : Code} {T : State} {locs : List Loc} {cells slots : Nat} {q : Option Value → Heap → List Loc → Prop}
/-- from U the run ends in a return, as q says -/
def own_Fin (p : Program) (e : Env) (below : List Frame) (s : State) (R : Room) (q : Option Value → Heap → List Loc → Prop) (U : State) : Prop :=
  ∃ s₂ o, Steps p.tables e below U s₂ ∧ s₂.status = .running ∧ Ended s₂ below o ∧ ∃ v L, o = .returned v ∧ q v s₂.heap L ∧ FrameEnd s o s₂ L R.cells R.slots
theorem own_to {U U' : State} (h : ∀ t, Steps p.tables e below U' t → Steps p.tables e below U t) (k : own_Fin p e below s R q U') : own_Fin p e below s R q U := by
  obtain ⟨s₂, o, h1, r⟩ := k
  exact ⟨s₂, o, h _ h1, r⟩
theorem own_ite {C : Prop} [Decidable C] {G : Int32 → State} {U : State} {v1 v0 : Int32} (k : own_Fin p e below s R q (G (if C then v1 else v0))) (h1 : C → own_Fin p e below s R q (G v1) → own_Fin p e below s R q U) (h0 : ¬ C → own_Fin p e below s R q (G v0) → own_Fin p e below s R q U) : own_Fin p e below s R q U := by
  by_cases h : C
  · rw [if_pos h] at k; exact h1 h k
  · rw [if_neg h] at k; exact h0 h k
theorem own_cut {U V : State} (k : own_Fin p e below s R q V) (h : own_Fin p e below s R q V → own_Fin p e below s R q U) : own_Fin p e below s R q U := h k
theorem own_retN (X : Stand p l e R s m args below meth c T locs cells slots) (hx : p.tables.exec = Jvm.exec) (hlk : meth.locks = false) {pc : Nat} {Ls : Array Slot} {z : Int32} {t : FieldType} {rest : List Value} (hret : meth.sig.returnType = some t) (ht : t = .boolean ∨ t = .byte ∨ t = .char ∨ t = .short) (hd : decode c.code pc = .ok (.ireturn, 1)) (hc : cells ≤ R.cells) (hs : slots ≤ R.slots) (hq : q (some (.int (nar t z))) T.heap locs) :
    own_Fin p e below s R q (T.setTop (mkF m pc Ls (.int z :: rest))) := by
  obtain ⟨fs, hr, hrun, hended, hW, hsame⟩ := X.leave (v := some (.int (nar t z))) (fun h => by rw [hret] at h; cases h)
  exact ⟨_, _, retN X hx hret ht hd hr, hrun, hended, _, _, rfl, hq, ⟨_, rfl⟩, hW, hsame.mono hc hs⟩
theorem own_retI (X : Stand p l e R s m args below meth c T locs cells slots) (hx : p.tables.exec = Jvm.exec) (hlk : meth.locks = false) {pc : Nat} {Ls : Array Slot} {z : Int32} {rest : List Value} (hret : meth.sig.returnType = some .int) (hd : decode c.code pc = .ok (.ireturn, 1)) (hc : cells ≤ R.cells) (hs : slots ≤ R.slots) (hq : q (some (.int z)) T.heap locs) :
    own_Fin p e below s R q (T.setTop (mkF m pc Ls (.int z :: rest))) := by
  obtain ⟨fs, hr, hrun, hended, hW, hsame⟩ := X.leave (v := some (.int z)) (fun h => by rw [hret] at h; cases h)
  exact ⟨_, _, retOut X hx hret rfl (Or.inl ⟨rfl, Or.inl rfl, z, rfl⟩) hd hr, hrun, hended, _, _, rfl, hq, ⟨_, rfl⟩, hW, hsame.mono hc hs⟩
theorem own_retJ (X : Stand p l e R s m args below meth c T locs cells slots) (hx : p.tables.exec = Jvm.exec) (hlk : meth.locks = false) {pc : Nat} {Ls : Array Slot} {z : Int64} {rest : List Value} (hret : meth.sig.returnType = some .long) (hd : decode c.code pc = .ok (.lreturn, 1)) (hc : cells ≤ R.cells) (hs : slots ≤ R.slots) (hq : q (some (.long z)) T.heap locs) :
    own_Fin p e below s R q (T.setTop (mkF m pc Ls (.long z :: rest))) := by
  obtain ⟨fs, hr, hrun, hended, hW, hsame⟩ := X.leave (v := some (.long z)) (fun h => by rw [hret] at h; cases h)
  exact ⟨_, _, retOut X hx hret rfl (Or.inr (Or.inl ⟨rfl, rfl, z, rfl⟩)) hd hr, hrun, hended, _, _, rfl, hq, ⟨_, rfl⟩, hW, hsame.mono hc hs⟩
theorem own_retR (X : Stand p l e R s m args below meth c T locs cells slots) (hx : p.tables.exec = Jvm.exec) (hlk : meth.locks = false) {pc : Nat} {Ls : Array Slot} {w : Value} {t : FieldType} {rest : List Value} (hret : meth.sig.returnType = some t) (ht : t.isReference = true) (hw : w.isRef = true) (hn : narrow t w = w) (hd : decode c.code pc = .ok (.areturn, 1)) (hc : cells ≤ R.cells) (hs : slots ≤ R.slots) (hq : q (some w) T.heap locs) :
    own_Fin p e below s R q (T.setTop (mkF m pc Ls (w :: rest))) := by
  obtain ⟨fs, hr, hrun, hended, hW, hsame⟩ := X.leave (v := some w) (fun h => by rw [hret] at h; cases h)
  exact ⟨_, _, retOut X hx hret hn (Or.inr (Or.inr (Or.inr (Or.inr ⟨rfl, ht, hw⟩)))) hd hr, hrun, hended, _, _, rfl, hq, ⟨_, rfl⟩, hW, hsame.mono hc hs⟩
theorem own_retV (X : Stand p l e R s m args below meth c T locs cells slots) (hx : p.tables.exec = Jvm.exec) (hlk : meth.locks = false) {pc : Nat} {Ls : Array Slot} (hret : meth.sig.returnType = none) (hd : decode c.code pc = .ok (.return_, 1)) (hc : cells ≤ R.cells) (hs : slots ≤ R.slots) (hq : q none T.heap locs) :
    own_Fin p e below s R q (T.setTop (mkF m pc Ls [])) := by
  obtain ⟨fs, hr, hrun, hended, hW, hsame⟩ := X.leave (v := none) (fun _ => rfl)
  exact ⟨_, _, X.returnOut hx hret hd hr, hrun, hended, _, _, rfl, hq, ⟨_, rfl⟩, hW, hsame.mono hc hs⟩
/-- the contract of a body at given arguments and a given heap -/
abbrev own_Met (l : Launch) (Z : State) (y : MethodName) (bytes : ByteArray) (maxL : Nat) (ret : Option FieldType) (ws : List Jvm.Cond) (rm : Room) (as' : Array Value) (h0 : Heap) (q : Option Value → Heap → List Loc → Prop) : Prop :=
  MetFree l y (head1 (Jvm.Cond.code y bytes maxL ret :: ws) rm) (fun a U => a = as' ∧ Z.Warmed39 U.vm ∧ U.heap = h0) (fun _ _ _ _ _ => True) (fun _ U o U' => ∃ v L, o = .returned v ∧ q v U'.heap L ∧ FrameEnd U o U' L rm.cells rm.slots)
theorem own_back {a0 : Array Value} {h : Heap} {y : MethodName} {bytes : ByteArray} {maxL : Nat} {ret : Option FieldType} {rm : Room} {len W : Nat} {as' : Array Value} (hM : own_Met l Z y bytes maxL ret [] rm as' h q)
    (hZ : Z.Warmed39 s.vm) (wc : (Jvm.Cond.code y bytes maxL ret).before a0 Z = true) (wz : (Jvm.Cond.initialized y.cls).before a0 Z = true) (hf : rm.frames + 1 ≤ R.frames) (hl : W + (maxL + 11) + rm.locals ≤ R.locals) :
    Back l R p e below s args y len W (fun A a => a = as' ∧ A.U.heap = h ∧ A.cells + rm.cells ≤ R.cells ∧ A.slots + rm.slots ≤ R.slots)
      (fun A _ v B => ∃ L, q v B.U.heap L ∧ B.locs = A.locs ++ L ∧ B.cells = A.cells + rm.cells ∧ B.slots = A.slots + rm.slots) := backOf (Q := q) hM hZ wc wz hf hl
theorem own_enter {y : MethodName} {bytes : ByteArray} {maxL : Nat} {ret : Option FieldType} {ws : List Jvm.Cond} {rm : Room} {as' : Array Value} {h0 : Heap} (hpl : plainFor y = true)
    (k : ∀ (p : Program) (e : Env) (s : State) (m : MethodId) (below : List Frame) (meth : Method) (c : Code) (s₁ : State), Stand p l e rm s m as' below meth c s₁ [] 0 0 → p.tables.exec = Jvm.exec → Z.Warmed39 s.vm → c.code = bytes → c.maxLocals = maxL → s.vm.findClass y.cls = some m.cls → meth.name = y.name → meth.sig.returnType = ret → meth.locks = false → s₁.heap = h0 → own_Fin p e below s rm q (s₁.setTop (entryFrame m as' maxL))) :
    own_Met l Z y bytes maxL ret ws rm as' h0 q := by
  refine MetFree.of_bodySF hpl hisR ?_
  intro p e s m args below meth c s₁ Bd hml0 hP hK
  obtain ⟨rfl, hZ, hh⟩ := hP
  exact k p e s m below meth c s₁ (Stand.of_body Bd) Bd.exec hZ Bd.bytes hml0 (findClass_of_methodNamed Bd.named) (name_of_methodNamed Bd.named Bd.method).1 Bd.returns Bd.notSynchronized (by rw [← hh, Bd.state]; rfl)
theorem own_selP {a : Array Value} {y y' : MethodName} (w : (Jvm.Cond.selects y'.cls y' y').before a s = true) (hc : y'.cls = y.cls) (hp : s.PrivateAt y) (hi : (Jvm.Cond.instanceMethod y).before a s = true) (hy : y.cls ≠ "java/lang/invoke/MethodHandle" ∧ y.cls ≠ "java/lang/invoke/VarHandle") : (Jvm.Cond.selects y.cls y y).before a s = true := by
  obtain ⟨c, r, m, h1, -, h3, -, mk, h4, h5⟩ := Cond.selects_spec w
  exact selects_self_of_private (c := m.cls) (k := mk) (hc ▸ findClass_of_methodNamed h3) h4 h5 hp hi hy
end Own
theorem own_d2_0 : decode prog_14_method_1_code 0 = .ok (.aload_n 0, 1) := by decide +kernel
theorem own_d2_1 : decode prog_14_method_1_code 1 = .ok (.invokespecial 1, 3) := by decide +kernel
theorem own_d2_4 : decode prog_14_method_1_code 4 = .ok (.aload_n 0, 1) := by decide +kernel
theorem own_d2_5 : decode prog_14_method_1_code 5 = .ok (.aload_n 1, 1) := by decide +kernel
theorem own_d2_6 : decode prog_14_method_1_code 6 = .ok (.putfield 7, 3) := by decide +kernel
theorem own_d2_9 : decode prog_14_method_1_code 9 = .ok (.aload_n 0, 1) := by decide +kernel
theorem own_d2_10 : decode prog_14_method_1_code 10 = .ok (.aload_n 2, 1) := by decide +kernel
theorem own_d2_11 : decode prog_14_method_1_code 11 = .ok (.ifnonnull 7, 3) := by decide +kernel
theorem own_d2_14 : decode prog_14_method_1_code 14 = .ok (.aconst_null, 1) := by decide +kernel
theorem own_d2_15 : decode prog_14_method_1_code 15 = .ok (.goto 10, 3) := by decide +kernel
theorem own_d2_18 : decode prog_14_method_1_code 18 = .ok (.aload_n 2, 1) := by decide +kernel
theorem own_d2_19 : decode prog_14_method_1_code 19 = .ok (.invokevirtual 13, 3) := by decide +kernel
theorem own_d2_22 : decode prog_14_method_1_code 22 = .ok (.checkcast 14, 3) := by decide +kernel
theorem own_d2_25 : decode prog_14_method_1_code 25 = .ok (.putfield 19, 3) := by decide +kernel
theorem own_d2_28 : decode prog_14_method_1_code 28 = .ok (.return_, 1) := by decide +kernel
theorem own_pn0 : plainName "com/example/nuthatch/nuthatch/engine/Outcome" = true := by first | (simp [plainName, overriddenIn]; done) | decide +kernel
theorem own_pd0 : parseMethodDescriptor "()V" = some ⟨[], none⟩ := by decide +kernel
theorem own_rm2_ef (m : MethodId) (a1 : Addr) (wS : Addr) : entryFrame m #[(.ref a1), (.ref wS), .null] 3 = mkF m 0 #[.val (.ref a1), .val (.ref wS), .val .null] [] := by first | (simp [entryFrame, mkF, argsToLocals, Value.category]; done) | rfl
set_option maxRecDepth 65536 in
set_option maxHeartbeats 40000000 in
theorem own_rm2 (l : Launch) (Z : State) (a0 : Array Value) (hw : ∀ d ∈ tables_1, d.before a0 Z = true) (ws : List Jvm.Cond) (a1 : Addr) (wS : Addr) (h0 : Heap) (n0 : Nat) (Z0 : n0 ≤ h0.size) (E1 : Exa Z h0 a1 "com/example/nuthatch/nuthatch/engine/Outcome") (F1 : Fld Z h0 a1 "com/example/nuthatch/nuthatch/engine/Outcome" "status" "Lcom/example/nuthatch/nuthatch/engine/Status;" .null) (F2 : Fld Z h0 a1 "com/example/nuthatch/nuthatch/engine/Outcome" "response" "[B" .null) (g_a1 : n0 ≤ a1) :
    own_Met l Z (⟨"com/example/nuthatch/nuthatch/engine/Outcome", "<init>", "(Lcom/example/nuthatch/nuthatch/engine/Status;[B)V"⟩ : MethodName) prog_14_method_1_code 3 none ws ({ frames := 1, cells := 0, slots := 0, locals := 16 } : Room) #[(.ref a1), (.ref wS), .null] h0 (fun v h L => v = none ∧ Fr n0 L ∧ Keep h0 h [a1] ∧ Fld Z h a1 "com/example/nuthatch/nuthatch/engine/Outcome" "status" "Lcom/example/nuthatch/nuthatch/engine/Status;" (.ref wS) ∧ Fld Z h a1 "com/example/nuthatch/nuthatch/engine/Outcome" "response" "[B" .null) := by
  refine own_enter (plainFor_of_name own_pn0) ?_
  intro p e s m below meth c s₁ X0 hx hZ hby hml hown hnm hret hlk e0
  have N0 := Fr.nil n0
  rw [own_rm2_ef m a1 wS]
  have KK0 : Keep h0 h0 [a1] := Keep.refl _ _
  show own_Fin _ _ _ _ _ _ (s₁.setTop (mkF m 0 #[.val (.ref a1), .val (.ref wS), .val .null] []))
  refine own_to (fun t k => XS.aloadN X0.here hx rfl (hb hby own_d2_0) rfl rfl k) ?_
  show own_Fin _ _ _ _ _ _ (s₁.setTop (mkF m 1 #[.val (.ref a1), .val (.ref wS), .val .null] [(.ref a1)]))
  obtain ⟨T1, X1, e1, st1⟩ := initO X0 hx hZ hown (hw _ (List.mem_of_getElem? (i := 12) rfl)) (hw _ (List.mem_of_getElem? (i := 13) rfl)) (hw _ (List.mem_of_getElem? (i := 14) rfl)) e0 (g := (mkF m 1 #[.val (.ref a1), .val (.ref wS), .val .null] [(.ref a1)])) rfl (by rw [hml]; rfl) rfl (hb hby own_d2_1) (by decide) (W := 0) (by show 2 * 0 + _ ≤ _; exact Nat.le_of_eq rfl) (by decide)
  refine own_to (fun t k => st1 t k) ?_
  show own_Fin _ _ _ _ _ _ (T1.setTop (mkF m 4 #[.val (.ref a1), .val (.ref wS), .val .null] []))
  refine own_to (fun t k => XS.aloadN X1.here hx rfl (hb hby own_d2_4) rfl rfl k) ?_
  show own_Fin _ _ _ _ _ _ (T1.setTop (mkF m 5 #[.val (.ref a1), .val (.ref wS), .val .null] [(.ref a1)]))
  refine own_to (fun t k => XS.aloadN X1.here hx rfl (hb hby own_d2_5) rfl rfl k) ?_
  show own_Fin _ _ _ _ _ _ (T1.setTop (mkF m 6 #[.val (.ref a1), .val (.ref wS), .val .null] [(.ref wS), (.ref a1)]))
  obtain ⟨T2, h2, X2, e2, W2, st2⟩ := putF X1 hx hZ hown (host := "") (Or.inl (hw _ (List.mem_of_getElem? (i := 15) rfl))) Via.refl e1 F1 E1 (Or.inr ⟨(hw _ (List.mem_of_getElem? (i := 16) rfl)), rfl, hnm⟩) (hw _ (List.mem_of_getElem? (i := 5) rfl)) (ty := (.object "com/example/nuthatch/nuthatch/engine/Status")) (by decide) rfl rfl (g := (mkF m 6 #[.val (.ref a1), .val (.ref wS), .val .null] [(.ref wS), (.ref a1)])) rfl rfl (hb hby own_d2_6)
  have Fw2 := F1.same W2
  have N2 := Fr.snoc X2 N0 g_a1
  have KK2 : Keep h0 h2 [a1] := KK0.wr W2 (Or.inl (List.mem_of_getElem? (i := 0) rfl))
  have E1_e2 := E1.wr W2
  have F2_e2 := F2.other W2 (Or.inr (slot_ne (Or.inr (hw _ (List.mem_of_getElem? (i := 18) rfl))) (Or.inr (hw _ (List.mem_of_getElem? (i := 16) rfl))) (by decide) (t := (.array .byte)) (t' := (.object "com/example/nuthatch/nuthatch/engine/Status")) (by decide) (by decide)))
  refine own_to (fun t k => st2 t k) ?_
  show own_Fin _ _ _ _ _ _ (T2.setTop (mkF m 9 #[.val (.ref a1), .val (.ref wS), .val .null] []))
  refine own_to (fun t k => XS.aloadN X2.here hx rfl (hb hby own_d2_9) rfl rfl k) ?_
  show own_Fin _ _ _ _ _ _ (T2.setTop (mkF m 10 #[.val (.ref a1), .val (.ref wS), .val .null] [(.ref a1)]))
  refine own_to (fun t k => XS.aloadN X2.here hx rfl (hb hby own_d2_10) rfl rfl k) ?_
  show own_Fin _ _ _ _ _ _ (T2.setTop (mkF m 11 #[.val (.ref a1), .val (.ref wS), .val .null] [.null, (.ref a1)]))
  refine own_to (fun t k => XS.ifnonnullNo X2.here hx rfl (hb hby own_d2_11) rfl k) ?_
  show own_Fin _ _ _ _ _ _ (T2.setTop (mkF m 14 #[.val (.ref a1), .val (.ref wS), .val .null] [(.ref a1)]))
  refine own_to (fun t k => XS.aconstNull X2.here hx rfl (hb hby own_d2_14) k) ?_
  show own_Fin _ _ _ _ _ _ (T2.setTop (mkF m 15 #[.val (.ref a1), .val (.ref wS), .val .null] [.null, (.ref a1)]))
  refine own_to (fun t k => XS.goto X2.here hx rfl (pc0 := 15) (pc' := 25) rfl (hb hby own_d2_15) (by decide) (by decide) k) ?_
  show own_Fin _ _ _ _ _ _ (T2.setTop (mkF m 25 #[.val (.ref a1), .val (.ref wS), .val .null] [.null, (.ref a1)]))
  obtain ⟨T3, h3, X3, e3, W3, st3⟩ := putF X2 hx hZ hown (host := "") (Or.inl (hw _ (List.mem_of_getElem? (i := 17) rfl))) Via.refl e2 F2_e2 E1_e2 (Or.inr ⟨(hw _ (List.mem_of_getElem? (i := 18) rfl)), rfl, hnm⟩) (hw _ (List.mem_of_getElem? (i := 5) rfl)) (ty := (.array .byte)) (by decide) rfl rfl (g := (mkF m 25 #[.val (.ref a1), .val (.ref wS), .val .null] [.null, (.ref a1)])) rfl rfl (hb hby own_d2_25)
  have Fw3 := F2_e2.same W3
  have N3 := Fr.snoc X3 N2 g_a1
  have KK3 : Keep h0 h3 [a1] := KK2.wr W3 (Or.inl (List.mem_of_getElem? (i := 0) rfl))
  have E1_e3 := E1_e2.wr W3
  have Fw2_e3 := Fw2.other W3 (Or.inr (slot_ne (Or.inr (hw _ (List.mem_of_getElem? (i := 16) rfl))) (Or.inr (hw _ (List.mem_of_getElem? (i := 18) rfl))) (by decide) (t := (.object "com/example/nuthatch/nuthatch/engine/Status")) (t' := (.array .byte)) (by decide) (by decide)))
  refine own_to (fun t k => st3 t k) ?_
  show own_Fin _ _ _ _ _ _ (T3.setTop (mkF m 28 #[.val (.ref a1), .val (.ref wS), .val .null] []))
  refine own_retV X3 hx hlk hret (hb hby own_d2_28) (by decide) (by decide) ?_
  try rw [e3]
  exact ⟨rfl, N3, KK3, Fw2_e3, Fw3⟩
theorem own_d1_0 : decode prog_14_method_4_code 0 = .ok (.new 8, 3) := by decide +kernel
theorem own_d1_3 : decode prog_14_method_4_code 3 = .ok (.dup, 1) := by decide +kernel
theorem own_d1_4 : decode prog_14_method_4_code 4 = .ok (.getstatic 33, 3) := by decide +kernel
theorem own_d1_7 : decode prog_14_method_4_code 7 = .ok (.aconst_null, 1) := by decide +kernel
theorem own_d1_8 : decode prog_14_method_4_code 8 = .ok (.invokespecial 27, 3) := by decide +kernel
theorem own_d1_11 : decode prog_14_method_4_code 11 = .ok (.areturn, 1) := by decide +kernel
theorem own_pd1 : parseMethodDescriptor "(Lcom/example/nuthatch/nuthatch/engine/Status;[B)V" = some ⟨[(.object "com/example/nuthatch/nuthatch/engine/Status"), (.array .byte)], none⟩ := by decide +kernel
theorem own_rm1_ef (m : MethodId) : entryFrame m #[] 0 = mkF m 0 #[] [] := by first | (simp [entryFrame, mkF, argsToLocals, Value.category]; done) | rfl
set_option maxRecDepth 65536 in
set_option maxHeartbeats 40000000 in
theorem own_rm1 (l : Launch) (Z : State) (a0 : Array Value) (hw : ∀ d ∈ tables_1, d.before a0 Z = true) (ws : List Jvm.Cond) (wS : Addr) (h0 : Heap) (n0 : Nat) (Z0 : n0 ≤ h0.size) (O0 : Old Z n0 h0) (SS : Sta Z Z.heap "com/example/nuthatch/nuthatch/engine/Status" "IN_FLIGHT" "Lcom/example/nuthatch/nuthatch/engine/Status;" (.ref wS)) :
    own_Met l Z (⟨"com/example/nuthatch/nuthatch/engine/Outcome", "inFlight", "()Lcom/example/nuthatch/nuthatch/engine/Outcome;"⟩ : MethodName) prog_14_method_4_code 0 (some (.object "com/example/nuthatch/nuthatch/engine/Outcome")) ws ({ frames := 2, cells := 1, slots := 2, locals := 40 } : Room) #[] h0 (fun v h L => ∃ b, v = some (.ref b) ∧ Fr n0 L ∧ Keep h0 h [] ∧ n0 ≤ b ∧ h0.size ≤ b ∧ Exa Z h b "com/example/nuthatch/nuthatch/engine/Outcome" ∧ Fld Z h b "com/example/nuthatch/nuthatch/engine/Outcome" "status" "Lcom/example/nuthatch/nuthatch/engine/Status;" (.ref wS) ∧ Fld Z h b "com/example/nuthatch/nuthatch/engine/Outcome" "response" "[B" .null) := by
  refine own_enter (plainFor_of_name own_pn0) ?_
  intro p e s m below meth c s₁ X0 hx hZ hby hml hown hnm hret hlk e0
  have N0 := Fr.nil n0
  rw [own_rm1_ef m]
  have KK0 : Keep h0 h0 [] := Keep.refl _ _
  show own_Fin _ _ _ _ _ _ (s₁.setTop (mkF m 0 #[] []))
  obtain ⟨T4, h4, X4, e4, E4, A4, D4, U4, st4⟩ := newO X0 hx hZ hown (hw _ (List.mem_of_getElem? (i := 4) rfl)) (hw _ (List.mem_of_getElem? (i := 5) rfl)) (hw _ (List.mem_of_getElem? (i := 2) rfl)) e0 (g := (mkF m 0 #[] [])) rfl (hb hby own_d1_0) (by decide) (by decide)
  obtain ⟨b4, q4⟩ : ∃ z, z = h0.size := ⟨_, rfl⟩
  rw [← q4] at A4 D4 U4 st4
  have g_b4 : n0 ≤ b4 := Nat.le_trans Z0 (Nat.le_of_eq q4.symm)
  have sz_b4 : h0.size ≤ b4 := Nat.le_trans KK0.1 (Nat.le_of_eq q4.symm)
  have O4 := O0.ext E4
  have KK4 : Keep h0 h4 [] := KK0.ext E4
  have Fnstatus_4 : Fld Z h4 b4 "com/example/nuthatch/nuthatch/engine/Outcome" "status" "Lcom/example/nuthatch/nuthatch/engine/Status;" .null := D4 (Or.inr (hw _ (List.mem_of_getElem? (i := 16) rfl))) (ty := (.object "com/example/nuthatch/nuthatch/engine/Status")) (by decide)
  have Fnresponse_4 : Fld Z h4 b4 "com/example/nuthatch/nuthatch/engine/Outcome" "response" "[B" .null := D4 (Or.inr (hw _ (List.mem_of_getElem? (i := 18) rfl))) (ty := (.array .byte)) (by decide)
  refine own_to (fun t k => st4 t k) ?_
  show own_Fin _ _ _ _ _ _ (T4.setTop (mkF m 3 #[] [(.ref b4)]))
  refine own_to (fun t k => XS.dup X4.here hx rfl (hb hby own_d1_3) rfl rfl k) ?_
  show own_Fin _ _ _ _ _ _ (T4.setTop (mkF m 4 #[] [(.ref b4), (.ref b4)]))
  obtain ⟨T5, X5, e5, st5⟩ := getS2 X4 hx hZ hown (host := "") (Or.inl (hw _ (List.mem_of_getElem? (i := 6) rfl))) Via.refl e4 (SS.ext O4.2) (g := (mkF m 4 #[] [(.ref b4), (.ref b4)])) rfl (hb hby own_d1_4)
  refine own_to (fun t k => st5 t k) ?_
  show own_Fin _ _ _ _ _ _ (T5.setTop (mkF m 7 #[] [(.ref wS), (.ref b4), (.ref b4)]))
  refine own_to (fun t k => XS.aconstNull X5.here hx rfl (hb hby own_d1_7) k) ?_
  show own_Fin _ _ _ _ _ _ (T5.setTop (mkF m 8 #[] [.null, (.ref wS), (.ref b4), (.ref b4)]))
  obtain ⟨_, _, ⟨T6, L6, k6, n6⟩, -, X6, ⟨Lc6, hQ6, l6, y6, z6⟩, st6⟩ := X5.specialBack hx (y := (⟨"com/example/nuthatch/nuthatch/engine/Outcome", "<init>", "(Lcom/example/nuthatch/nuthatch/engine/Status;[B)V"⟩ : MethodName)) rfl hown (mvT hZ (hw _ (List.mem_of_getElem? (i := 9) rfl))) (mvT hZ (hw _ (List.mem_of_getElem? (i := 10) rfl))) (mvT hZ (hw _ (List.mem_of_getElem? (i := 11) rfl))) (by decide) (own_back (W := 1) (own_rm2 l Z a0 hw [] b4 wS h4 n0 (Nat.le_trans Z0 E4.1) A4 Fnstatus_4 Fnresponse_4 g_b4) hZ (hw _ (List.mem_of_getElem? (i := 11) rfl)) (hw _ (List.mem_of_getElem? (i := 2) rfl)) (by decide) (by decide)) (g := (mkF m 8 #[] [.null, (.ref wS), (.ref b4), (.ref b4)])) rfl (by rw [hml]; rfl) (Steps.refl _) (a := b4) (argsL := [(.ref wS), .null]) (rest := [(.ref b4)]) (lenOf own_pd1 rfl) rfl (by show 2 * 0 + _ ≤ _; exact Nat.le_of_eq rfl) (hb hby own_d1_8) (fun _ _ => ⟨rfl, e5, (by decide : 1 + 0 ≤ _), (by decide : 2 + 0 ≤ _)⟩)
  dsimp only [Pt.U, Pt.locs, Pt.cells, Pt.slots] at X6 l6 y6 z6 st6 hQ6
  subst l6 y6 z6
  obtain ⟨rfl, N6q, K6, Fs, Fre⟩ := hQ6
  have N6 := Fr.app N0 N6q
  have O6 := O4.keep K6 (allS g_b4 all0)
  have KK6 : Keep h0 T6.heap [] := KK4.trans K6 (allS (Or.inr sz_b4) all0)
  have A4_e6 := A4.keep K6
  refine own_to (fun t k => st6.trans k) ?_
  show own_Fin _ _ _ _ _ _ (T6.setTop (mkF m 11 #[] [(.ref b4)]))
  refine own_retR X6 hx hlk hret rfl rfl rfl (hb hby own_d1_11) (by decide) (by decide) ?_
  exact ⟨b4, rfl, N6, KK6, g_b4, sz_b4, A4_e6, Fs, Fre⟩
theorem own_d4_0 : decode prog_14_method_7_code 0 = .ok (.aload_n 0, 1) := by decide +kernel
theorem own_d4_1 : decode prog_14_method_7_code 1 = .ok (.getfield 7, 3) := by decide +kernel
theorem own_d4_4 : decode prog_14_method_7_code 4 = .ok (.areturn, 1) := by decide +kernel
theorem own_rm4_ef (m : MethodId) (a1 : Addr) : entryFrame m #[(.ref a1)] 1 = mkF m 0 #[.val (.ref a1)] [] := by first | (simp [entryFrame, mkF, argsToLocals, Value.category]; done) | rfl
set_option maxRecDepth 65536 in
set_option maxHeartbeats 40000000 in
theorem own_rm4 (l : Launch) (Z : State) (a0 : Array Value) (hw : ∀ d ∈ tables_1, d.before a0 Z = true) (ws : List Jvm.Cond) (a1 : Addr) (wS : Addr) (h0 : Heap) (n0 : Nat) (Z0 : n0 ≤ h0.size) (F1 : Fld Z h0 a1 "com/example/nuthatch/nuthatch/engine/Outcome" "status" "Lcom/example/nuthatch/nuthatch/engine/Status;" (.ref wS)) :
    own_Met l Z (⟨"com/example/nuthatch/nuthatch/engine/Outcome", "status", "()Lcom/example/nuthatch/nuthatch/engine/Status;"⟩ : MethodName) prog_14_method_7_code 1 (some (.object "com/example/nuthatch/nuthatch/engine/Status")) ws ({ frames := 0, cells := 0, slots := 0, locals := 0 } : Room) #[(.ref a1)] h0 (fun v h L => v = some (.ref wS) ∧ Fr n0 L ∧ h = h0) := by
  refine own_enter (plainFor_of_name own_pn0) ?_
  intro p e s m below meth c s₁ X0 hx hZ hby hml hown hnm hret hlk e0
  have N0 := Fr.nil n0
  rw [own_rm4_ef m a1]
  show own_Fin _ _ _ _ _ _ (s₁.setTop (mkF m 0 #[.val (.ref a1)] []))
  refine own_to (fun t k => XS.aloadN X0.here hx rfl (hb hby own_d4_0) rfl rfl k) ?_
  show own_Fin _ _ _ _ _ _ (s₁.setTop (mkF m 1 #[.val (.ref a1)] [(.ref a1)]))
  obtain ⟨T7, X7, e7, st7⟩ := getF X0 hx hZ hown (host := "") (Or.inl (hw _ (List.mem_of_getElem? (i := 15) rfl))) Via.refl e0 F1 (g := (mkF m 1 #[.val (.ref a1)] [(.ref a1)])) rfl rfl (hb hby own_d4_1)
  refine own_to (fun t k => st7 t k) ?_
  show own_Fin _ _ _ _ _ _ (T7.setTop (mkF m 4 #[.val (.ref a1)] [(.ref wS)]))
  refine own_retR X7 hx hlk hret rfl rfl rfl (hb hby own_d4_4) (by decide) (by decide) ?_
  try rw [e7]
  exact ⟨rfl, N0, rfl⟩
theorem own_d5_0 : decode prog_14_method_8_code 0 = .ok (.aload_n 0, 1) := by decide +kernel
theorem own_d5_1 : decode prog_14_method_8_code 1 = .ok (.getfield 19, 3) := by decide +kernel
theorem own_d5_4 : decode prog_14_method_8_code 4 = .ok (.ifnonnull 7, 3) := by decide +kernel
theorem own_d5_7 : decode prog_14_method_8_code 7 = .ok (.aconst_null, 1) := by decide +kernel
theorem own_d5_8 : decode prog_14_method_8_code 8 = .ok (.goto 13, 3) := by decide +kernel
theorem own_d5_11 : decode prog_14_method_8_code 11 = .ok (.aload_n 0, 1) := by decide +kernel
theorem own_d5_12 : decode prog_14_method_8_code 12 = .ok (.getfield 19, 3) := by decide +kernel
theorem own_d5_15 : decode prog_14_method_8_code 15 = .ok (.invokevirtual 13, 3) := by decide +kernel
theorem own_d5_18 : decode prog_14_method_8_code 18 = .ok (.checkcast 14, 3) := by decide +kernel
theorem own_d5_21 : decode prog_14_method_8_code 21 = .ok (.areturn, 1) := by decide +kernel
theorem own_rm5_ef (m : MethodId) (a1 : Addr) : entryFrame m #[(.ref a1)] 1 = mkF m 0 #[.val (.ref a1)] [] := by first | (simp [entryFrame, mkF, argsToLocals, Value.category]; done) | rfl
set_option maxRecDepth 65536 in
set_option maxHeartbeats 40000000 in
theorem own_rm5 (l : Launch) (Z : State) (a0 : Array Value) (hw : ∀ d ∈ tables_1, d.before a0 Z = true) (ws : List Jvm.Cond) (a1 : Addr) (h0 : Heap) (n0 : Nat) (Z0 : n0 ≤ h0.size) (F1 : Fld Z h0 a1 "com/example/nuthatch/nuthatch/engine/Outcome" "response" "[B" .null) :
    own_Met l Z (⟨"com/example/nuthatch/nuthatch/engine/Outcome", "response", "()[B"⟩ : MethodName) prog_14_method_8_code 1 (some (.array .byte)) ws ({ frames := 0, cells := 0, slots := 0, locals := 0 } : Room) #[(.ref a1)] h0 (fun v h L => v = some .null ∧ Fr n0 L ∧ h = h0) := by
  refine own_enter (plainFor_of_name own_pn0) ?_
  intro p e s m below meth c s₁ X0 hx hZ hby hml hown hnm hret hlk e0
  have N0 := Fr.nil n0
  rw [own_rm5_ef m a1]
  show own_Fin _ _ _ _ _ _ (s₁.setTop (mkF m 0 #[.val (.ref a1)] []))
  refine own_to (fun t k => XS.aloadN X0.here hx rfl (hb hby own_d5_0) rfl rfl k) ?_
  show own_Fin _ _ _ _ _ _ (s₁.setTop (mkF m 1 #[.val (.ref a1)] [(.ref a1)]))
  obtain ⟨T8, X8, e8, st8⟩ := getF X0 hx hZ hown (host := "") (Or.inl (hw _ (List.mem_of_getElem? (i := 17) rfl))) Via.refl e0 F1 (g := (mkF m 1 #[.val (.ref a1)] [(.ref a1)])) rfl rfl (hb hby own_d5_1)
  refine own_to (fun t k => st8 t k) ?_
  show own_Fin _ _ _ _ _ _ (T8.setTop (mkF m 4 #[.val (.ref a1)] [.null]))
  refine own_to (fun t k => XS.ifnonnullNo X8.here hx rfl (hb hby own_d5_4) rfl k) ?_
  show own_Fin _ _ _ _ _ _ (T8.setTop (mkF m 7 #[.val (.ref a1)] []))
  refine own_to (fun t k => XS.aconstNull X8.here hx rfl (hb hby own_d5_7) k) ?_
  show own_Fin _ _ _ _ _ _ (T8.setTop (mkF m 8 #[.val (.ref a1)] [.null]))
  refine own_to (fun t k => XS.goto X8.here hx rfl (pc0 := 8) (pc' := 21) rfl (hb hby own_d5_8) (by decide) (by decide) k) ?_
  show own_Fin _ _ _ _ _ _ (T8.setTop (mkF m 21 #[.val (.ref a1)] [.null]))
  refine own_retR X8 hx hlk hret rfl rfl rfl (hb hby own_d5_21) (by decide) (by decide) ?_
  try rw [e8]
  exact ⟨rfl, N0, rfl⟩
theorem own_pn1 : plainName "com/example/nuthatch/nuthatch/engine/OutcomeInFlightPinLaw" = true := by first | (simp [plainName, overriddenIn]; done) | decide +kernel
theorem own_pd2 : parseMethodDescriptor "()Lcom/example/nuthatch/nuthatch/engine/Outcome;" = some ⟨[], some (.object "com/example/nuthatch/nuthatch/engine/Outcome")⟩ := by decide +kernel
theorem own_pd3 : parseMethodDescriptor "()Lcom/example/nuthatch/nuthatch/engine/Status;" = some ⟨[], some (.object "com/example/nuthatch/nuthatch/engine/Status")⟩ := by decide +kernel
theorem own_pd4 : parseMethodDescriptor "()[B" = some ⟨[], some (.array .byte)⟩ := by decide +kernel
theorem own_rm0_ef (m : MethodId) (p1 : Int32) : entryFrame m #[(.int p1)] maxLocals = mkF m 0 #[.val (.int p1), .unset] [] := by first | (simp [entryFrame, mkF, argsToLocals, Value.category, maxLocals]; done) | rfl
set_option maxRecDepth 65536 in
set_option maxHeartbeats 40000000 in
theorem own_rm0 (l : Launch) (Z : State) (a0 : Array Value) (hw : ∀ d ∈ tables_1, d.before a0 Z = true) (ws : List Jvm.Cond) (wS : Addr) (p1 : Int32) (h0 : Heap) (n0 : Nat) (Z0 : n0 ≤ h0.size) (O0 : Old Z n0 h0) (SS : Sta Z Z.heap "com/example/nuthatch/nuthatch/engine/Status" "IN_FLIGHT" "Lcom/example/nuthatch/nuthatch/engine/Status;" (.ref wS)) :
    own_Met l Z x code maxLocals ret ws room_1 #[(.int p1)] h0 (fun v h L => v = some (.int 1) ∧ Fr n0 L) := by
  refine own_enter (plainFor_of_name own_pn1) ?_
  intro p e s m below meth c s₁ X0 hx hZ hby hml hown hnm hret hlk e0
  have N0 := Fr.nil n0
  rw [own_rm0_ef m p1]
  show own_Fin _ _ _ _ _ _ (s₁.setTop (mkF m 0 #[.val (.int p1), .unset] []))
  obtain ⟨_, _, ⟨T9, L9, k9, n9⟩, -, X9, ⟨Lc9, hQ9, l9, y9, z9⟩, st9⟩ := Jvm.LawKit.callS X0 hx (y := (⟨"com/example/nuthatch/nuthatch/engine/Outcome", "inFlight", "()Lcom/example/nuthatch/nuthatch/engine/Outcome;"⟩ : MethodName)) hown (mvT hZ (hw _ (List.mem_of_getElem? (i := 0) rfl))) (mvT hZ (hw _ (List.mem_of_getElem? (i := 1) rfl))) (mvT hZ (hw _ (List.mem_of_getElem? (i := 2) rfl))) (mvT hZ (hw _ (List.mem_of_getElem? (i := 3) rfl))) (by decide) (own_back (W := 0) (own_rm1 l Z a0 hw [] wS h0 n0 Z0 O0 SS) hZ (hw _ (List.mem_of_getElem? (i := 3) rfl)) (hw _ (List.mem_of_getElem? (i := 2) rfl)) (by decide) (by decide)) (g := (mkF m 0 #[.val (.int p1), .unset] [])) rfl (by rw [hml]; rfl) (argsL := []) (rest := []) (lenOf own_pd2 rfl) rfl (by show 2 * 0 + _ ≤ _; exact Nat.le_of_eq rfl) (hb hby at_0) (fun _ _ => ⟨rfl, e0, (by decide : 0 + 1 ≤ _), (by decide : 0 + 2 ≤ _)⟩)
  dsimp only [Pt.U, Pt.locs, Pt.cells, Pt.slots] at X9 l9 y9 z9 st9 hQ9
  subst l9 y9 z9
  obtain ⟨b, rfl, N9q, K9, g_b, szb, Eb, Fs, Fre⟩ := hQ9
  have N9 := Fr.app N0 N9q
  have O9 := O0.keep K9 all0
  refine own_to (fun t k => st9 t k) ?_
  show own_Fin _ _ _ _ _ _ (T9.setTop (mkF m 3 #[.val (.int p1), .unset] [(.ref b)]))
  refine own_to (fun t k => XS.astoreN X9.here hx rfl (hb hby at_3) rfl rfl (l' := #[.val (.int p1), .val (.ref b)]) rfl k) ?_
  show own_Fin _ _ _ _ _ _ (T9.setTop (mkF m 4 #[.val (.int p1), .val (.ref b)] []))
  refine own_to (fun t k => XS.aloadN X9.here hx rfl (hb hby at_4) rfl rfl k) ?_
  show own_Fin _ _ _ _ _ _ (T9.setTop (mkF m 5 #[.val (.int p1), .val (.ref b)] [(.ref b)]))
  refine own_to (fun t k => XS.ifnonnullYes X9.here hx rfl (pc0 := 5) (pc' := 10) rfl (hb hby at_5) rfl (by decide) (by decide) k) ?_
  show own_Fin _ _ _ _ _ _ (T9.setTop (mkF m 10 #[.val (.int p1), .val (.ref b)] []))
  refine own_to (fun t k => XS.aloadN X9.here hx rfl (hb hby at_10) rfl rfl k) ?_
  show own_Fin _ _ _ _ _ _ (T9.setTop (mkF m 11 #[.val (.int p1), .val (.ref b)] [(.ref b)]))
  obtain ⟨cq10, kq10, q10a, q10b, q10c⟩ := isOf hZ rfl Eb
  obtain ⟨_, _, ⟨T10, L10, k10, n10⟩, -, X10, ⟨Lc10, hQ10, l10, y10, z10⟩, st10⟩ := X9.virtualBack hx (y := (⟨"com/example/nuthatch/nuthatch/engine/Outcome", "status", "()Lcom/example/nuthatch/nuthatch/engine/Status;"⟩ : MethodName)) (z := (⟨"com/example/nuthatch/nuthatch/engine/Outcome", "status", "()Lcom/example/nuthatch/nuthatch/engine/Status;"⟩ : MethodName)) hown (mvT hZ (hw _ (List.mem_of_getElem? (i := 19) rfl))) (mvT hZ (hw _ (List.mem_of_getElem? (i := 20) rfl))) (notFace_of_selects (args := #[]) (mvT hZ (hw _ (List.mem_of_getElem? (i := 22) rfl)))) (mvT hZ (hw _ (List.mem_of_getElem? (i := 22) rfl))) (mvT hZ (hw _ (List.mem_of_getElem? (i := 21) rfl))) (by decide) (own_back (W := 0) (own_rm4 l Z a0 hw [] b wS T9.heap n0 (Nat.le_trans Z0 K9.1) Fs) hZ (hw _ (List.mem_of_getElem? (i := 23) rfl)) (hw _ (List.mem_of_getElem? (i := 2) rfl)) (by decide) (by decide)) q10a q10c (g := (mkF m 11 #[.val (.int p1), .val (.ref b)] [(.ref b)])) rfl (by rw [hml]; rfl) (Steps.refl _) (argsL := []) (rest := []) (lenOf own_pd3 rfl) rfl (by show 2 * 0 + _ ≤ _; exact Nat.le_of_eq rfl) (hb hby at_11) (fun _ _ => ⟨rfl, rfl, (by decide : 1 + 0 ≤ _), (by decide : 2 + 0 ≤ _)⟩)
  dsimp only [Pt.U, Pt.locs, Pt.cells, Pt.slots] at X10 l10 y10 z10 st10 hQ10
  subst l10 y10 z10
  obtain ⟨rfl, N10q, eh10⟩ := hQ10
  have N10 := Fr.app N9 N10q
  refine own_to (fun t k => st10.trans k) ?_
  show own_Fin _ _ _ _ _ _ (T10.setTop (mkF m 14 #[.val (.int p1), .val (.ref b)] [(.ref wS)]))
  obtain ⟨T11, X11, e11, st11⟩ := getS2 X10 hx hZ hown (host := "") (Or.inl (hw _ (List.mem_of_getElem? (i := 24) rfl))) Via.refl eh10 (SS.ext O9.2) (g := (mkF m 14 #[.val (.int p1), .val (.ref b)] [(.ref wS)])) rfl (hb hby at_14)
  refine own_to (fun t k => st11 t k) ?_
  show own_Fin _ _ _ _ _ _ (T11.setTop (mkF m 17 #[.val (.int p1), .val (.ref b)] [(.ref wS), (.ref wS)]))
  refine own_to (fun t k => Jvm.RoadKit.acmp (g := (mkF m 17 #[.val (.int p1), .val (.ref b)] [(.ref wS), (.ref wS)])) X11 hx rfl rfl rfl (pc0 := 17) (pc' := 22) (same := true) rfl (hb hby at_17) rfl (decide_eq_true rfl) (by decide) (by decide) k) ?_
  show own_Fin _ _ _ _ _ _ (T11.setTop (mkF m 22 #[.val (.int p1), .val (.ref b)] []))
  refine own_to (fun t k => XS.aloadN X11.here hx rfl (hb hby at_22) rfl rfl k) ?_
  show own_Fin _ _ _ _ _ _ (T11.setTop (mkF m 23 #[.val (.int p1), .val (.ref b)] [(.ref b)]))
  obtain ⟨cq12, kq12, q12a, q12b, q12c⟩ := isOf hZ e11 Eb
  obtain ⟨_, _, ⟨T12, L12, k12, n12⟩, -, X12, ⟨Lc12, hQ12, l12, y12, z12⟩, st12⟩ := X11.virtualBack hx (y := (⟨"com/example/nuthatch/nuthatch/engine/Outcome", "response", "()[B"⟩ : MethodName)) (z := (⟨"com/example/nuthatch/nuthatch/engine/Outcome", "response", "()[B"⟩ : MethodName)) hown (mvT hZ (hw _ (List.mem_of_getElem? (i := 25) rfl))) (mvT hZ (hw _ (List.mem_of_getElem? (i := 26) rfl))) (notFace_of_selects (args := #[]) (mvT hZ (hw _ (List.mem_of_getElem? (i := 28) rfl)))) (mvT hZ (hw _ (List.mem_of_getElem? (i := 28) rfl))) (mvT hZ (hw _ (List.mem_of_getElem? (i := 27) rfl))) (by decide) (own_back (W := 0) (own_rm5 l Z a0 hw [] b T9.heap n0 (Nat.le_trans Z0 K9.1) Fre) hZ (hw _ (List.mem_of_getElem? (i := 29) rfl)) (hw _ (List.mem_of_getElem? (i := 2) rfl)) (by decide) (by decide)) q12a q12c (g := (mkF m 23 #[.val (.int p1), .val (.ref b)] [(.ref b)])) rfl (by rw [hml]; rfl) (Steps.refl _) (argsL := []) (rest := []) (lenOf own_pd4 rfl) rfl (by show 2 * 0 + _ ≤ _; exact Nat.le_of_eq rfl) (hb hby at_23) (fun _ _ => ⟨rfl, e11, (by decide : 1 + 0 ≤ _), (by decide : 2 + 0 ≤ _)⟩)
  dsimp only [Pt.U, Pt.locs, Pt.cells, Pt.slots] at X12 l12 y12 z12 st12 hQ12
  subst l12 y12 z12
  obtain ⟨rfl, N12q, eh12⟩ := hQ12
  have N12 := Fr.app N10 N12q
  refine own_to (fun t k => st12.trans k) ?_
  show own_Fin _ _ _ _ _ _ (T12.setTop (mkF m 26 #[.val (.int p1), .val (.ref b)] [.null]))
  refine own_to (fun t k => XS.ifnullYes X12.here hx rfl (pc0 := 26) (pc' := 31) rfl (hb hby at_26) rfl (by decide) (by decide) k) ?_
  show own_Fin _ _ _ _ _ _ (T12.setTop (mkF m 31 #[.val (.int p1), .val (.ref b)] []))
  refine own_to (fun t k => XS.iconst X12.here hx rfl (hb hby at_31) k) ?_
  show own_Fin _ _ _ _ _ _ (T12.setTop (mkF m 32 #[.val (.int p1), .val (.ref b)] [(.int (1 : Int32))]))
  refine own_retN X12 hx hlk (t := .boolean) hret (by simp) (hb hby at_32) (by decide) (by decide) ?_
  try rw [eh12]
  exact ⟨rfl, N12⟩
set_option maxRecDepth 65536 in
set_option maxHeartbeats 40000000 in
theorem comes_1 {Post : Tables → Env → Array Value → State → Outcome → State → Prop} (hpost : ∀ tb e args s v u, (limb_1_1.after args s (.returned v) u = true ∧ limb_1_2.after args s (.returned v) u = true ∧ True) → FrameEnd s (.returned v) u (Jvm.fieldLocs frame_1_writes args s ++ Jvm.arrayLocs frame_1_arrays args s ++ Jvm.staticLocs frame_1_statics s) 16 128 → Post tb e args s (.returned v) u) :
    ArmFor flags0 classFile x code maxLocals ret World_1 tables_1 room_1 Calls_1 rest_1 Pre_1 Post := by
  intro l hfl _ _ p e ha hc hk s m args below hf hA hF happ hP
  obtain ⟨hcalls, hrest, hpre⟩ := hP
  obtain ⟨-, -, -, hnamed, -, -, -, hat⟩ := (Spec.applies_iff hf).mp happ
  obtain ⟨hg, hn⟩ := and_e (Cond.before_iff.mp (show (Jvm.Cond.and given_1 narrow_1).before args s = true from hpre))
  obtain ⟨g1, g2⟩ := and_e hg
  obtain ⟨w0, rfl⟩ : ∃ w0 : Value, args = #[w0] := by
    have hs : args.size = 1 := by simpa [Cond.value, given_1] using g1
    obtain ⟨L⟩ := args
    match L, hs with
    | [w0], _ => exact ⟨w0, rfl⟩
  have hw := fun d (hd : d ∈ tables_1) => atoms_spec (ws := Jvm.Cond.code x code maxLocals ret :: tables_1) hat d (List.mem_cons_of_mem _ hd)
  have hfit : Fit s := fun {y c} hc i hi => by
    obtain ⟨ha, rfl⟩ := Array.getElem?_eq_some_iff.mp hc
    have q := List.all_eq_true.mp ((Array.all_eq_true_iff_forall_mem.mp hF) _ (Array.getElem_mem ha)) i (List.mem_range.mpr hi)
    simpa [Array.getElem?_eq_getElem hi] using q
  obtain ⟨i0, ei0⟩ := is_v g2
  obtain rfl : w0 = (.int i0) := Option.some.inj ei0
  obtain ⟨wS, eS⟩ := exa_v (show (narrow_1).value _ s none s [] = some true from hn)
  obtain ⟨n, o, h1, h2, h3, _, L, rfl, ⟨rfl, N⟩, hq⟩ := own_rm0 l s _ hw tables_1 wS i0 s.heap s.heap.size (Nat.le_refl _) (Old.start s) (Sta.start eS (Or.inr ⟨(hw _ (List.mem_of_getElem? (i := 7) rfl)), (hw _ (List.mem_of_getElem? (i := 8) rfl))⟩)) p e ha hc hk s m _ below hf ((Spec.applies_iff_loose hf).mp happ).1 ⟨rfl, State.Warmed39.refl s, rfl⟩ trivial
  refine ⟨n, _, h1, h2, h3, hpost _ _ _ _ _ _ ⟨Cond.after_iff.mpr rfl, Cond.after_iff.mpr (eq_i res_at (Term.int_eval (1)) rfl), trivial⟩ ⟨hq.1, hq.2.1, (hq.2.2.sift fun y hy => Or.inr (N y hy)).mono (by decide) (by decide)⟩⟩
theorem main_1_1 : Claimed_1_1 := comes_1 fun _ _ _ _ _ _ h hF => ⟨h.1, hF⟩
theorem main_1_2 : Claimed_1_2 := comes_1 fun _ _ _ _ _ _ h hF => ⟨h.2.1, hF⟩
end Jvm.Pilot.@@N@@
namespace Jvm.Pilot.@@N@@
open Jvm Jvm.ClassFile Sem Op Lib Jvm.Free Jvm.Stand Jvm.Pilot.@@N@@.Jvm.D
/-! MADE BY PROGRAM (witnessworld.py) out of the Statement's table words and the real class files: 13 classes; the members and pool entries that the words name. The judged class is class 1, her method 1. -/
namespace start1
open Jvm.ClassFile
def u (s : String) : CpInfo := .utf8 (stringToUtf16 s)
/-- a pool by its gaps: so many unusable entries, then the entry; so many at the end -/
def gap : Nat → List CpInfo → List CpInfo
  | 0, r => r
  | n + 1, r => .unusable :: gap n r
def poolList (es : List (Nat × CpInfo)) (last : Nat) : List CpInfo := es.foldr (fun e r => gap e.1 (e.2 :: r)) (gap last [])
def pool (es : List (Nat × CpInfo)) (last : Nat) : Array CpInfo := ⟨poolList es last⟩
def fileOf (pool : Array CpInfo) (this : Nat) (attrs : Array Attribute := #[]) (ms : Array MethodInfo := #[]) (fl : Nat := 33) (sup : Nat := 0) (ifs : Array Nat := #[]) (fds : Array FieldInfo := #[]) : ClassFile where
  minorVersion := 0
  majorVersion := 65
  constantPool := pool
  accessFlags := fl
  thisClass := this
  superClass := sup
  interfaces := ifs
  fields := fds
  methods := ms
  attributes := attrs
def plain (name : String) (sup : Option ClassId) : Class where
  name := name
  kind := .ordinary
  loader := none
  accessFlags := 33
  super := sup
  interfaces := #[]
  cf := none
  fields := #[]
  methods := #[]
  instanceTypes := #[]
  staticTypes := #[]
  resolved := #[]
  callSites := []
  init := .initialized
  statics := none
  mirror := none

def pool0 : Array CpInfo := pool [(5, u "<init>"), (0, u "()V"), (1, .class_ 10), (1, u "java/lang/Object")] 113

def k0c0 : Code := { maxStack := 0, maxLocals := 1, code := object_method_1_code, exceptionTable := #[], attributes := #[] }
def k0m0 : Method := { name := "<init>", desc := "()V", sig := { parameters := [], returnType := none }, accessFlags := 1, code := some k0c0 }
/-- java/lang/Object -/
def k0 : Class := { plain "java/lang/Object" none with
  accessFlags := 33
  interfaces := #[]
  cf := some (fileOf pool0 8 #[] #[{ accessFlags := 1, nameIndex := 5, descriptorIndex := 6, attributes := #[] }] 33 0 #[] #[])
  fields := #[]
  methods := #[k0m0]
  instanceTypes := #[]
  staticTypes := #[]
  resolved := Array.replicate 124 none
  statics := none }

def pool1 : Array CpInfo := pool [(2, .class_ 4), (1, u "java/lang/Object"), (0, u "<init>"), (0, u "()V"), (0, .methodref 8 9), (0, .class_ 10), (0, .nameAndType 11 12), (0, u "com/example/nuthatch/nuthatch/engine/Outcome"), (0, u "inFlight"), (0, u "()Lcom/example/nuthatch/nuthatch/engine/Outcome;"), (0, .methodref 8 14), (0, .nameAndType 15 16), (0, u "status"), (0, u "()Lcom/example/nuthatch/nuthatch/engine/Status;"), (0, .fieldref 18 19), (0, .class_ 20), (0, .nameAndType 21 22), (0, u "com/example/nuthatch/nuthatch/engine/Status"), (0, u "IN_FLIGHT"), (0, u "Lcom/example/nuthatch/nuthatch/engine/Status;"), (0, .methodref 8 24), (0, .nameAndType 25 26), (0, u "response"), (0, u "()[B"), (0, .class_ 28), (0, u "com/example/nuthatch/nuthatch/engine/OutcomeInFlightPinLaw"), (2, u "law"), (0, u "(I)Z")] 3

def k1m0 : Method := { name := "<init>", desc := "()V", sig := { parameters := [], returnType := none }, accessFlags := 1, code := none }
def k1c1 : Code := { maxStack := 2, maxLocals := 2, code := code, exceptionTable := #[], attributes := #[] }
def k1m1 : Method := { name := "law", desc := "(I)Z", sig := { parameters := [.int], returnType := some .boolean }, accessFlags := 9, code := some k1c1 }
/-- com/example/nuthatch/nuthatch/engine/OutcomeInFlightPinLaw -/
def k1 : Class := { plain "com/example/nuthatch/nuthatch/engine/OutcomeInFlightPinLaw" (some 0) with
  accessFlags := 49
  interfaces := #[]
  cf := some (fileOf pool1 27 #[] #[{ accessFlags := 1, nameIndex := 5, descriptorIndex := 6, attributes := #[] }, { accessFlags := 9, nameIndex := 31, descriptorIndex := 32, attributes := #[] }] 49 2 #[] #[])
  fields := #[]
  methods := #[k1m0, k1m1]
  instanceTypes := #[]
  staticTypes := #[]
  resolved := Array.replicate 36 none
  statics := none }

def pool2 : Array CpInfo := pool [(1, .methodref 2 3), (0, .class_ 4), (0, .nameAndType 5 6), (0, u "java/lang/Object"), (0, u "<init>"), (0, u "()V"), (0, .fieldref 8 9), (0, .class_ 10), (0, .nameAndType 11 12), (0, u "com/example/nuthatch/nuthatch/engine/Outcome"), (0, u "status"), (0, u "Lcom/example/nuthatch/nuthatch/engine/Status;"), (3, u "[B"), (2, .fieldref 8 20), (0, .nameAndType 21 16), (0, u "response"), (1, .class_ 25), (1, u "com/example/nuthatch/nuthatch/engine/Status"), (1, .methodref 8 28), (0, .nameAndType 5 29), (0, u "(Lcom/example/nuthatch/nuthatch/engine/Status;[B)V"), (3, .fieldref 23 34), (0, .nameAndType 35 12), (0, u "IN_FLIGHT"), (12, u "inFlight"), (0, u "()Lcom/example/nuthatch/nuthatch/engine/Outcome;"), (2, u "()Lcom/example/nuthatch/nuthatch/engine/Status;"), (0, u "()[B")] 2

def k2c0 : Code := { maxStack := 2, maxLocals := 3, code := prog_14_method_1_code, exceptionTable := #[], attributes := #[] }
def k2m0 : Method := { name := "<init>", desc := "(Lcom/example/nuthatch/nuthatch/engine/Status;[B)V", sig := { parameters := [(.object "com/example/nuthatch/nuthatch/engine/Status"), (.array .byte)], returnType := none }, accessFlags := 2, code := some k2c0 }
def k2c1 : Code := { maxStack := 4, maxLocals := 0, code := prog_14_method_4_code, exceptionTable := #[], attributes := #[] }
def k2m1 : Method := { name := "inFlight", desc := "()Lcom/example/nuthatch/nuthatch/engine/Outcome;", sig := { parameters := [], returnType := some (.object "com/example/nuthatch/nuthatch/engine/Outcome") }, accessFlags := 8, code := some k2c1 }
def k2c2 : Code := { maxStack := 1, maxLocals := 1, code := prog_14_method_7_code, exceptionTable := #[], attributes := #[] }
def k2m2 : Method := { name := "status", desc := "()Lcom/example/nuthatch/nuthatch/engine/Status;", sig := { parameters := [], returnType := some (.object "com/example/nuthatch/nuthatch/engine/Status") }, accessFlags := 1, code := some k2c2 }
def k2c3 : Code := { maxStack := 1, maxLocals := 1, code := prog_14_method_8_code, exceptionTable := #[], attributes := #[] }
def k2m3 : Method := { name := "response", desc := "()[B", sig := { parameters := [], returnType := some (.array .byte) }, accessFlags := 1, code := some k2c3 }
/-- com/example/nuthatch/nuthatch/engine/Outcome -/
def k2 : Class := { plain "com/example/nuthatch/nuthatch/engine/Outcome" (some 0) with
  accessFlags := 33
  interfaces := #[]
  cf := some (fileOf pool2 8 #[] #[{ accessFlags := 2, nameIndex := 5, descriptorIndex := 29, attributes := #[] }, { accessFlags := 8, nameIndex := 48, descriptorIndex := 49, attributes := #[] }, { accessFlags := 1, nameIndex := 11, descriptorIndex := 52, attributes := #[] }, { accessFlags := 1, nameIndex := 21, descriptorIndex := 53, attributes := #[] }] 33 2 #[] #[{ accessFlags := 18, nameIndex := 11, descriptorIndex := 12, attributes := #[] }, { accessFlags := 18, nameIndex := 21, descriptorIndex := 16, attributes := #[] }])
  fields := #[{ name := "status", type := (.object "com/example/nuthatch/nuthatch/engine/Status"), accessFlags := 18, slot := 0, constantValue := 0 }, { name := "response", type := (.array .byte), accessFlags := 18, slot := 1, constantValue := 0 }]
  methods := #[k2m0, k2m1, k2m2, k2m3]
  instanceTypes := #[(.object "com/example/nuthatch/nuthatch/engine/Status"), (.array .byte)]
  staticTypes := #[]
  resolved := Array.replicate 56 none
  statics := none }

def pool3 : Array CpInfo := pool [(1, .class_ 2), (0, u "java/lang/constant/Constable"), (0, .class_ 4), (0, u "java/lang/Object")] 6

/-- java/lang/constant/Constable -/
def k3 : Class := { plain "java/lang/constant/Constable" (some 0) with
  accessFlags := 1537
  interfaces := #[]
  cf := some (fileOf pool3 1 #[] #[] 1537 3 #[] #[])
  fields := #[]
  methods := #[]
  instanceTypes := #[]
  staticTypes := #[]
  resolved := Array.replicate 11 none
  statics := none }

def pool4 : Array CpInfo := pool [(1, .class_ 2), (0, u "java/lang/Comparable"), (0, .class_ 4), (0, u "java/lang/Object")] 7

/-- java/lang/Comparable -/
def k4 : Class := { plain "java/lang/Comparable" (some 0) with
  accessFlags := 1537
  interfaces := #[]
  cf := some (fileOf pool4 1 #[] #[] 1537 3 #[] #[])
  fields := #[]
  methods := #[]
  instanceTypes := #[]
  staticTypes := #[]
  resolved := Array.replicate 12 none
  statics := none }

def pool5 : Array CpInfo := pool [(1, .class_ 2), (0, u "java/io/Serializable"), (0, .class_ 4), (0, u "java/lang/Object")] 2

/-- java/io/Serializable -/
def k5 : Class := { plain "java/io/Serializable" (some 0) with
  accessFlags := 1537
  interfaces := #[]
  cf := some (fileOf pool5 1 #[] #[] 1537 3 #[] #[])
  fields := #[]
  methods := #[]
  instanceTypes := #[]
  staticTypes := #[]
  resolved := Array.replicate 7 none
  statics := none }

def pool6 : Array CpInfo := pool [(2, .class_ 4), (1, u "java/lang/Enum"), (0, u "name"), (0, u "Ljava/lang/String;"), (2, u "ordinal"), (0, u "I"), (1, .class_ 14), (1, u "java/lang/Object"), (4, u "hash"), (86, .class_ 108), (1, u "java/lang/Enum$EnumDesc"), (2, .class_ 112), (0, u "java/lang/constant/Constable"), (0, .class_ 114), (0, u "java/lang/Comparable"), (0, .class_ 116), (0, u "java/io/Serializable")] 87

/-- java/lang/Enum -/
def k6 : Class := { plain "java/lang/Enum" (some 0) with
  accessFlags := 1057
  interfaces := #[3, 4, 5]
  cf := some (fileOf pool6 2 #[.nestMembers #[106]] #[] 1057 12 #[111, 113, 115] #[{ accessFlags := 18, nameIndex := 5, descriptorIndex := 6, attributes := #[] }, { accessFlags := 18, nameIndex := 9, descriptorIndex := 10, attributes := #[] }, { accessFlags := 2, nameIndex := 19, descriptorIndex := 10, attributes := #[] }])
  fields := #[{ name := "name", type := (.object "java/lang/String"), accessFlags := 18, slot := 0, constantValue := 0 }, { name := "ordinal", type := .int, accessFlags := 18, slot := 1, constantValue := 0 }, { name := "hash", type := .int, accessFlags := 2, slot := 2, constantValue := 0 }]
  methods := #[]
  instanceTypes := #[(.object "java/lang/String"), .int, .int]
  staticTypes := #[]
  resolved := Array.replicate 204 none
  statics := none }

def pool7 : Array CpInfo := pool [(1, .class_ 2), (0, u "com/example/nuthatch/nuthatch/engine/Status"), (2, u "EXECUTED"), (0, u "Lcom/example/nuthatch/nuthatch/engine/Status;"), (2, u "REPLAYED"), (2, u "IN_FLIGHT"), (2, u "MISMATCH"), (2, u "STALE"), (2, u "$VALUES"), (0, u "[Lcom/example/nuthatch/nuthatch/engine/Status;"), (6, .class_ 31), (1, u "java/lang/Enum")] 27

/-- com/example/nuthatch/nuthatch/engine/Status -/
def k7 : Class := { plain "com/example/nuthatch/nuthatch/engine/Status" (some 6) with
  accessFlags := 16433
  interfaces := #[]
  cf := some (fileOf pool7 1 #[] #[] 16433 29 #[] #[{ accessFlags := 16409, nameIndex := 5, descriptorIndex := 6, attributes := #[] }, { accessFlags := 16409, nameIndex := 9, descriptorIndex := 6, attributes := #[] }, { accessFlags := 16409, nameIndex := 12, descriptorIndex := 6, attributes := #[] }, { accessFlags := 16409, nameIndex := 15, descriptorIndex := 6, attributes := #[] }, { accessFlags := 16409, nameIndex := 18, descriptorIndex := 6, attributes := #[] }, { accessFlags := 4122, nameIndex := 21, descriptorIndex := 22, attributes := #[] }])
  fields := #[{ name := "EXECUTED", type := (.object "com/example/nuthatch/nuthatch/engine/Status"), accessFlags := 16409, slot := 0, constantValue := 0 }, { name := "REPLAYED", type := (.object "com/example/nuthatch/nuthatch/engine/Status"), accessFlags := 16409, slot := 1, constantValue := 0 }, { name := "IN_FLIGHT", type := (.object "com/example/nuthatch/nuthatch/engine/Status"), accessFlags := 16409, slot := 2, constantValue := 0 }, { name := "MISMATCH", type := (.object "com/example/nuthatch/nuthatch/engine/Status"), accessFlags := 16409, slot := 3, constantValue := 0 }, { name := "STALE", type := (.object "com/example/nuthatch/nuthatch/engine/Status"), accessFlags := 16409, slot := 4, constantValue := 0 }, { name := "$VALUES", type := (.array (.object "com/example/nuthatch/nuthatch/engine/Status")), accessFlags := 4122, slot := 5, constantValue := 0 }]
  methods := #[]
  instanceTypes := #[(.object "java/lang/String"), .int, .int]
  staticTypes := #[(.object "com/example/nuthatch/nuthatch/engine/Status"), (.object "com/example/nuthatch/nuthatch/engine/Status"), (.object "com/example/nuthatch/nuthatch/engine/Status"), (.object "com/example/nuthatch/nuthatch/engine/Status"), (.object "com/example/nuthatch/nuthatch/engine/Status"), (.array (.object "com/example/nuthatch/nuthatch/engine/Status"))]
  resolved := Array.replicate 59 none
  statics := some 0 }

def pool8 : Array CpInfo := pool [(1, u "java/lang/Cloneable"), (0, .class_ 1), (0, u "java/lang/Object"), (0, .class_ 3)] 3

/-- java/lang/Cloneable -/
def k8 : Class := { plain "java/lang/Cloneable" (some 0) with
  accessFlags := 1537
  interfaces := #[]
  cf := some (fileOf pool8 2 #[] #[] 1537 4 #[] #[])
  fields := #[]
  methods := #[]
  instanceTypes := #[]
  staticTypes := #[]
  resolved := Array.replicate 8 none
  statics := none }

/-- the primitive byte -/
def k9 : Class := { plain "byte" none with kind := .primitive 'B', accessFlags := 0x411 }
/-- [B -/
def k10 : Class := { plain "[B" (some 0) with kind := .array 9 .byte, interfaces := #[8, 5], accessFlags := 1041 }

/-- the primitive int -/
def k11 : Class := { plain "int" none with kind := .primitive 'I', accessFlags := 0x411 }
/-- [I -/
def k12 : Class := { plain "[I" (some 0) with kind := .array 11 .int, interfaces := #[8, 5], accessFlags := 1041 }

def heap : Heap := #[{ cls := 7, slots := #[.null, .null, .ref 1, .null, .null, .null], vm := .statics 7 },
  { cls := 7, slots := #[.null, .int 0, .int 0], vm := .none }]
def classes : Array Class := #[k0, k1, k2, k3, k4, k5, k6, k7, k8, k9, k10, k11, k12]
def interned : List (Array UInt16 × Addr) := []
def slotsUsed : Nat := 9
def theMethod : MethodId := ⟨1, 1⟩
def args0 : Array Value := #[.int 5]
def aboutOver (below : List Frame) : State where
  vm := { classes := classes, interned := interned.toArray }
  heap := heap
  slotsUsed := slotsUsed
  threads := #[{ frames := .invoking theMethod args0 :: below }]
def below0 : List Frame := [.native { method := ⟨0, 0⟩, args := #[] }]
def about1 : State := aboutOver below0
def p0 : Program := .bare "" "" ""
def e0 : Env := launch0.env 0 0 0
theorem w_frames : about1.frames = Frame.invoking theMethod args0 :: below0 := rfl
set_option maxRecDepth 65536 in
theorem w_args : argsFit about1.vm theMethod args0 = true := by decide +kernel
set_option maxRecDepth 65536 in
theorem w_heap : heapFits about1 = true := by decide +kernel
set_option maxRecDepth 65536 in
theorem w_runnable : about1.curStatus? = some .runnable := by decide +kernel
set_option maxRecDepth 65536 in
theorem w_alone : about1.alone = true := by decide +kernel
set_option maxRecDepth 65536 in
theorem w_named : about1.methodNamed? x = some theMethod := by decide +kernel
set_option maxRecDepth 65536 in
theorem w_hears : about1.hears theMethod below0 = true := by decide +kernel
set_option maxRecDepth 65536 in
theorem w_ripe : about1.ripe theMethod args0 below0 = true := by decide +kernel
theorem w_running : about1.status = .running := rfl
set_option maxRecDepth 65536 in
theorem w_room : about1.hasRoom e0.platform room_1 = true :=
  launch0.hasRoom_least _ room_1 (by decide +kernel) (by decide +kernel) (by decide +kernel) (by decide +kernel) (by decide +kernel) (by decide +kernel)
theorem allAtoms_all (ts : List Jvm.Cond) (a : Array Jvm.Value) (st : Jvm.State) : (allAtoms ts).before a st = ts.all (fun c => c.before a st) := by
  induction ts with
  | nil => rfl
  | cons c t ih =>
    show (Jvm.Cond.and c (allAtoms t)).before a st = _
    rw [Jvm.Cond.before_and, ih, List.all_cons]
def words1 : List Jvm.Cond := Jvm.Cond.code x code maxLocals ret :: tables_1
/-- a 'code' word, met by the world's own term for the bytes: nothing is compared byte by byte -/
theorem code_word {y : MethodName} {bytes : ByteArray} {mx : Nat} {rt : Option FieldType} {a : Array Value} {s : State} {m : MethodId} {meth : Method} {c : Code} (h1 : s.methodNamed? y = some m) (h2 : s.vm.method? m = some meth) (h3 : meth.code = some c) (h4 : c.code = bytes)
    (h5 : (c.maxLocals == mx && c.exceptionTable.isEmpty && decide (c.maxStack ≤ mostOperands) && decide (meth.sig.returnType = rt) && !meth.locks && decide (parseMethodDescriptor y.desc = some meth.sig)) = true) : (Jvm.Cond.code y bytes mx rt).before a s = true := by
  simp only [Bool.and_eq_true, beq_iff_eq, Bool.not_eq_true', decide_eq_true_eq] at h5
  obtain ⟨⟨⟨⟨⟨g1, g2⟩, g3⟩, g4⟩, g5⟩, g6⟩ := h5
  simp [Cond.before, Cond.holds, Cond.value, h1, h2, h3, h4, g1, g2, g3, g4, g5, g6]
def isCode : Jvm.Cond → Bool
  | .code _ _ _ _ => true
  | _ => false
theorem all_split {L : List Jvm.Cond} {P : Jvm.Cond → Bool} (h1 : L.all (fun c => isCode c || P c) = true) (h2 : ∀ c ∈ L.filter isCode, P c = true) : L.all P = true := by
  refine List.all_eq_true.mpr fun c hc => ?_
  have h := List.all_eq_true.mp h1 c hc
  rcases Bool.eq_false_or_eq_true (isCode c) with hi | hi
  · exact h2 c (List.mem_filter.mpr ⟨hc, hi⟩)
  · simpa [hi] using h
set_option maxRecDepth 65536 in
theorem w_c0 : (Jvm.Cond.code x code maxLocals ret).before args0 about1 = true := code_word (m := ⟨1, 1⟩) (meth := k1m1) (c := k1c1) (by decide +kernel) rfl rfl rfl (by decide +kernel)
set_option maxRecDepth 65536 in
theorem w_c1 : (Jvm.Cond.code ({ cls := "com/example/nuthatch/nuthatch/engine/Outcome", name := "inFlight", desc := "()Lcom/example/nuthatch/nuthatch/engine/Outcome;" } : Jvm.MethodName) prog_14_method_4_code (0 : Nat) (Option.some (Jvm.ClassFile.FieldType.object "com/example/nuthatch/nuthatch/engine/Outcome"))).before args0 about1 = true := code_word (m := ⟨2, 1⟩) (meth := k2m1) (c := k2c1) (by decide +kernel) rfl rfl rfl (by decide +kernel)
set_option maxRecDepth 65536 in
theorem w_c2 : (Jvm.Cond.code ({ cls := "com/example/nuthatch/nuthatch/engine/Outcome", name := "<init>", desc := "(Lcom/example/nuthatch/nuthatch/engine/Status;[B)V" } : Jvm.MethodName) prog_14_method_1_code (3 : Nat) (Option.none : Option Jvm.ClassFile.FieldType)).before args0 about1 = true := code_word (m := ⟨2, 0⟩) (meth := k2m0) (c := k2c0) (by decide +kernel) rfl rfl rfl (by decide +kernel)
set_option maxRecDepth 65536 in
theorem w_c3 : (Jvm.Cond.code ({ cls := "java/lang/Object", name := "<init>", desc := "()V" } : Jvm.MethodName) object_method_1_code (1 : Nat) (Option.none : Option Jvm.ClassFile.FieldType)).before args0 about1 = true := code_word (m := ⟨0, 0⟩) (meth := k0m0) (c := k0c0) (by decide +kernel) rfl rfl rfl (by decide +kernel)
set_option maxRecDepth 65536 in
theorem w_c4 : (Jvm.Cond.code ({ cls := "com/example/nuthatch/nuthatch/engine/Outcome", name := "status", desc := "()Lcom/example/nuthatch/nuthatch/engine/Status;" } : Jvm.MethodName) prog_14_method_7_code (1 : Nat) (Option.some (Jvm.ClassFile.FieldType.object "com/example/nuthatch/nuthatch/engine/Status"))).before args0 about1 = true := code_word (m := ⟨2, 2⟩) (meth := k2m2) (c := k2c2) (by decide +kernel) rfl rfl rfl (by decide +kernel)
set_option maxRecDepth 65536 in
theorem w_c5 : (Jvm.Cond.code ({ cls := "com/example/nuthatch/nuthatch/engine/Outcome", name := "response", desc := "()[B" } : Jvm.MethodName) prog_14_method_8_code (1 : Nat) (Option.some (Jvm.ClassFile.FieldType.array Jvm.ClassFile.FieldType.byte))).before args0 about1 = true := code_word (m := ⟨2, 3⟩) (meth := k2m3) (c := k2c3) (by decide +kernel) rfl rfl rfl (by decide +kernel)
def codes1 : List Jvm.Cond := [Jvm.Cond.code x code maxLocals ret, Jvm.Cond.code ({ cls := "com/example/nuthatch/nuthatch/engine/Outcome", name := "inFlight", desc := "()Lcom/example/nuthatch/nuthatch/engine/Outcome;" } : Jvm.MethodName) prog_14_method_4_code (0 : Nat) (Option.some (Jvm.ClassFile.FieldType.object "com/example/nuthatch/nuthatch/engine/Outcome")), Jvm.Cond.code ({ cls := "com/example/nuthatch/nuthatch/engine/Outcome", name := "<init>", desc := "(Lcom/example/nuthatch/nuthatch/engine/Status;[B)V" } : Jvm.MethodName) prog_14_method_1_code (3 : Nat) (Option.none : Option Jvm.ClassFile.FieldType), Jvm.Cond.code ({ cls := "java/lang/Object", name := "<init>", desc := "()V" } : Jvm.MethodName) object_method_1_code (1 : Nat) (Option.none : Option Jvm.ClassFile.FieldType), Jvm.Cond.code ({ cls := "com/example/nuthatch/nuthatch/engine/Outcome", name := "status", desc := "()Lcom/example/nuthatch/nuthatch/engine/Status;" } : Jvm.MethodName) prog_14_method_7_code (1 : Nat) (Option.some (Jvm.ClassFile.FieldType.object "com/example/nuthatch/nuthatch/engine/Status")), Jvm.Cond.code ({ cls := "com/example/nuthatch/nuthatch/engine/Outcome", name := "response", desc := "()[B" } : Jvm.MethodName) prog_14_method_8_code (1 : Nat) (Option.some (Jvm.ClassFile.FieldType.array Jvm.ClassFile.FieldType.byte))]
set_option maxRecDepth 65536 in
theorem codes_eq : words1.filter isCode = codes1 := rfl
theorem w_codes : ∀ c ∈ words1.filter isCode, c.before args0 about1 = true := by
  rw [codes_eq]
  intro c hc
  simp only [codes1, List.mem_cons, List.not_mem_nil, or_false] at hc
  rcases hc with rfl | rfl | rfl | rfl | rfl | rfl
  · exact w_c0
  · exact w_c1
  · exact w_c2
  · exact w_c3
  · exact w_c4
  · exact w_c5
set_option maxRecDepth 65536 in
theorem w_t1 : (words1.take 24).all (fun c => isCode c || c.before args0 about1) = true := by decide +kernel
set_option maxRecDepth 65536 in
theorem w_t2 : (words1.drop 24).all (fun c => isCode c || c.before args0 about1) = true := by decide +kernel
theorem w_tables : (allAtoms (Jvm.Cond.code x code maxLocals ret :: tables_1)).before args0 about1 = true := by
  rw [allAtoms_all]
  show words1.all (fun c => c.before args0 about1) = true
  refine all_split ?_ w_codes
  rw [← List.take_append_drop 24 words1, List.all_append, w_t1, w_t2]
  rfl
set_option maxRecDepth 65536 in
theorem w_case : (Jvm.Cond.and given_1 narrow_1).before args0 about1 = true := by decide +kernel
theorem w_applies : (headSpec (Jvm.Cond.code x code maxLocals ret :: tables_1) room_1).applies x e0.platform about1 = true :=
  (Spec.applies_iff w_frames).mpr ⟨w_running, w_runnable, w_alone, w_named, w_hears, w_ripe, w_room, w_tables⟩
theorem atStart : AtStart classFile x code maxLocals ret World_1 tables_1 room_1 Calls_1 rest_1 Pre_1 launch0 p0 e0 about1 theMethod args0 below0 :=
  ⟨lists_1, trivial, launch0.admits_env _ _ _, launch0.least_env, fairChoices_fair.cas, fairChoices_fair.clock, w_frames, w_args, w_heap, w_applies, trivial, trivial, w_case⟩
end start1
theorem witness_1 : WitnessClaimed_1 := ⟨start1.p0, start1.e0, start1.about1, start1.theMethod, start1.args0, start1.below0, start1.atStart⟩
end Jvm.Pilot.@@N@@
