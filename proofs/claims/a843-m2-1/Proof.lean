import JvmDerived
import JvmDerived.Pilot.@@N@@Statement
import JvmDerived.Pilot.@@N@@Code
set_option linter.unusedVariables false
set_option linter.unusedSimpArgs false
@@BLOCK:NumsL.lean.txt@@
namespace Jvm.Pilot.@@N@@
open Jvm Jvm.ClassFile Sem Op Lib Jvm.Free Jvm.Stand Jvm.LawKit Jvm.RoadKit Bundle Jvm.Pilot.@@N@@.Jvm.D
section Own
variable {p : Program} {l : Launch} {e : Env} {R : Room} {s Z : State} {m : MethodId} {args : Array Value} {below : List Frame} {meth : Method} {c : Code} {T : State} {locs : List Loc} {cells slots : Nat} {q : Option Value → Heap → List Loc → Prop}
/-- from U the run ends in a return, as q says -/
def own_Fin (p : Program) (e : Env) (below : List Frame) (s : State) (R : Room) (q : Option Value → Heap → List Loc → Prop) (U : State) : Prop :=
  ∃ s₂ o, Steps p.tables e below U s₂ ∧ s₂.status = .running ∧ Ended s₂ below o ∧ ∃ v L, o = .returned v ∧ q v s₂.heap L ∧ FrameEnd s o s₂ L R.cells R.slots
theorem own_to {U U' : State} (h : ∀ t, Steps p.tables e below U' t → Steps p.tables e below U t) (k : own_Fin p e below s R q U') : own_Fin p e below s R q U := by
  obtain ⟨s₂, o, h1, r⟩ := k
  exact ⟨s₂, o, h _ h1, r⟩
theorem own_ite {C : Prop} [Decidable C] {G : Int32 → State} {U : State} {v1 v0 : Int32} (k : own_Fin p e below s R q (G (if C then v1 else v0))) (h1 : C → own_Fin p e below s R q (G v1) → own_Fin p e below s R q U) (h0 : ¬ C → own_Fin p e below s R q (G v0) → own_Fin p e below s R q U) : own_Fin p e below s R q U := by
  by_cases h : C
  · rw [if_pos h] at k; exact h1 h k
  · rw [if_neg h] at k; exact h0 h k
theorem own_cut {U V : State} (k : own_Fin p e below s R q V) (h : own_Fin p e below s R q V → own_Fin p e below s R q U) : own_Fin p e below s R q U := h k
theorem own_retN (X : Stand p l e R s m args below meth c T locs cells slots) (hx : p.tables.exec = Jvm.exec) (hlk : meth.locks = false) {pc : Nat} {Ls : Array Slot} {z : Int32} {t : FieldType} {rest : List Value} (hret : meth.sig.returnType = some t) (ht : t = .boolean ∨ t = .byte ∨ t = .char ∨ t = .short) (hd : decode c.code pc = .ok (.ireturn, 1)) (hc : cells ≤ R.cells) (hs : slots ≤ R.slots) (hq : q (some (.int (nar t z))) T.heap locs) :
    own_Fin p e below s R q (T.setTop (mkF m pc Ls (.int z :: rest))) := by
  obtain ⟨fs, hr, hrun, hended, hW, hsame⟩ := X.leave (v := some (.int (nar t z))) (fun h => by rw [hret] at h; cases h)
  exact ⟨_, _, retN X hx hret ht hd hr, hrun, hended, _, _, rfl, hq, ⟨_, rfl⟩, hW, hsame.mono hc hs⟩
theorem own_retI (X : Stand p l e R s m args below meth c T locs cells slots) (hx : p.tables.exec = Jvm.exec) (hlk : meth.locks = false) {pc : Nat} {Ls : Array Slot} {z : Int32} {rest : List Value} (hret : meth.sig.returnType = some .int) (hd : decode c.code pc = .ok (.ireturn, 1)) (hc : cells ≤ R.cells) (hs : slots ≤ R.slots) (hq : q (some (.int z)) T.heap locs) :
    own_Fin p e below s R q (T.setTop (mkF m pc Ls (.int z :: rest))) := by
  obtain ⟨fs, hr, hrun, hended, hW, hsame⟩ := X.leave (v := some (.int z)) (fun h => by rw [hret] at h; cases h)
  exact ⟨_, _, retOut X hx hret rfl (Or.inl ⟨rfl, Or.inl rfl, z, rfl⟩) hd hr, hrun, hended, _, _, rfl, hq, ⟨_, rfl⟩, hW, hsame.mono hc hs⟩
theorem own_retJ (X : Stand p l e R s m args below meth c T locs cells slots) (hx : p.tables.exec = Jvm.exec) (hlk : meth.locks = false) {pc : Nat} {Ls : Array Slot} {z : Int64} {rest : List Value} (hret : meth.sig.returnType = some .long) (hd : decode c.code pc = .ok (.lreturn, 1)) (hc : cells ≤ R.cells) (hs : slots ≤ R.slots) (hq : q (some (.long z)) T.heap locs) :
    own_Fin p e below s R q (T.setTop (mkF m pc Ls (.long z :: rest))) := by
  obtain ⟨fs, hr, hrun, hended, hW, hsame⟩ := X.leave (v := some (.long z)) (fun h => by rw [hret] at h; cases h)
  exact ⟨_, _, retOut X hx hret rfl (Or.inr (Or.inl ⟨rfl, rfl, z, rfl⟩)) hd hr, hrun, hended, _, _, rfl, hq, ⟨_, rfl⟩, hW, hsame.mono hc hs⟩
theorem own_retR (X : Stand p l e R s m args below meth c T locs cells slots) (hx : p.tables.exec = Jvm.exec) (hlk : meth.locks = false) {pc : Nat} {Ls : Array Slot} {w : Value} {t : FieldType} {rest : List Value} (hret : meth.sig.returnType = some t) (ht : t.isReference = true) (hw : w.isRef = true) (hn : narrow t w = w) (hd : decode c.code pc = .ok (.areturn, 1)) (hc : cells ≤ R.cells) (hs : slots ≤ R.slots) (hq : q (some w) T.heap locs) :
    own_Fin p e below s R q (T.setTop (mkF m pc Ls (w :: rest))) := by
  obtain ⟨fs, hr, hrun, hended, hW, hsame⟩ := X.leave (v := some w) (fun h => by rw [hret] at h; cases h)
  exact ⟨_, _, retOut X hx hret hn (Or.inr (Or.inr (Or.inr (Or.inr ⟨rfl, ht, hw⟩)))) hd hr, hrun, hended, _, _, rfl, hq, ⟨_, rfl⟩, hW, hsame.mono hc hs⟩
theorem own_retV (X : Stand p l e R s m args below meth c T locs cells slots) (hx : p.tables.exec = Jvm.exec) (hlk : meth.locks = false) {pc : Nat} {Ls : Array Slot} (hret : meth.sig.returnType = none) (hd : decode c.code pc = .ok (.return_, 1)) (hc : cells ≤ R.cells) (hs : slots ≤ R.slots) (hq : q none T.heap locs) :
    own_Fin p e below s R q (T.setTop (mkF m pc Ls [])) := by
  obtain ⟨fs, hr, hrun, hended, hW, hsame⟩ := X.leave (v := none) (fun _ => rfl)
  exact ⟨_, _, X.returnOut hx hret hd hr, hrun, hended, _, _, rfl, hq, ⟨_, rfl⟩, hW, hsame.mono hc hs⟩
/-- the contract of a body at given arguments and a given heap -/
abbrev own_Met (l : Launch) (Z : State) (y : MethodName) (bytes : ByteArray) (maxL : Nat) (ret : Option FieldType) (ws : List Jvm.Cond) (rm : Room) (as' : Array Value) (h0 : Heap) (q : Option Value → Heap → List Loc → Prop) : Prop :=
  MetFree l y (head1 (Jvm.Cond.code y bytes maxL ret :: ws) rm) (fun a U => a = as' ∧ Z.Warmed39 U.vm ∧ U.heap = h0) (fun _ _ _ _ _ => True) (fun _ U o U' => ∃ v L, o = .returned v ∧ q v U'.heap L ∧ FrameEnd U o U' L rm.cells rm.slots)
theorem own_back {a0 : Array Value} {h : Heap} {y : MethodName} {bytes : ByteArray} {maxL : Nat} {ret : Option FieldType} {rm : Room} {len W : Nat} {as' : Array Value} (hM : own_Met l Z y bytes maxL ret [] rm as' h q)
    (hZ : Z.Warmed39 s.vm) (wc : (Jvm.Cond.code y bytes maxL ret).before a0 Z = true) (wz : (Jvm.Cond.initialized y.cls).before a0 Z = true) (hf : rm.frames + 1 ≤ R.frames) (hl : W + (maxL + 11) + rm.locals ≤ R.locals) :
    Back l R p e below s args y len W (fun A a => a = as' ∧ A.U.heap = h ∧ A.cells + rm.cells ≤ R.cells ∧ A.slots + rm.slots ≤ R.slots)
      (fun A _ v B => ∃ L, q v B.U.heap L ∧ B.locs = A.locs ++ L ∧ B.cells = A.cells + rm.cells ∧ B.slots = A.slots + rm.slots) := backOf (Q := q) hM hZ wc wz hf hl
theorem own_enter {y : MethodName} {bytes : ByteArray} {maxL : Nat} {ret : Option FieldType} {ws : List Jvm.Cond} {rm : Room} {as' : Array Value} {h0 : Heap} (hpl : plainFor y = true)
    (k : ∀ (p : Program) (e : Env) (s : State) (m : MethodId) (below : List Frame) (meth : Method) (c : Code) (s₁ : State), Stand p l e rm s m as' below meth c s₁ [] 0 0 → p.tables.exec = Jvm.exec → Z.Warmed39 s.vm → c.code = bytes → c.maxLocals = maxL → s.vm.findClass y.cls = some m.cls → meth.name = y.name → meth.sig.returnType = ret → meth.locks = false → s₁.heap = h0 → own_Fin p e below s rm q (s₁.setTop (entryFrame m as' maxL))) :
    own_Met l Z y bytes maxL ret ws rm as' h0 q := by
  refine MetFree.of_bodySF hpl hisR ?_
  intro p e s m args below meth c s₁ Bd hml0 hP hK
  obtain ⟨rfl, hZ, hh⟩ := hP
  exact k p e s m below meth c s₁ (Stand.of_body Bd) Bd.exec hZ Bd.bytes hml0 (findClass_of_methodNamed Bd.named) (name_of_methodNamed Bd.named Bd.method).1 Bd.returns Bd.notSynchronized (by rw [← hh, Bd.state]; rfl)
theorem own_selP {a : Array Value} {y y' : MethodName} (w : (Jvm.Cond.selects y'.cls y' y').before a s = true) (hc : y'.cls = y.cls) (hp : s.PrivateAt y) (hi : (Jvm.Cond.instanceMethod y).before a s = true) (hy : y.cls ≠ "java/lang/invoke/MethodHandle" ∧ y.cls ≠ "java/lang/invoke/VarHandle") : (Jvm.Cond.selects y.cls y y).before a s = true := by
  obtain ⟨c, r, m, h1, -, h3, -, mk, h4, h5⟩ := Cond.selects_spec w
  exact selects_self_of_private (c := m.cls) (k := mk) (hc ▸ findClass_of_methodNamed h3) h4 h5 hp hi hy
end Own
theorem own_lt32 (x y : Int32) : (x < y) = (x.toInt < y.toInt) := propext Int32.lt_iff_toInt_lt
theorem own_in0 {z : Int32} (h : ¬ z < (2 : Int32)) : (0 : Int32) < z := by
  rw [own_lt32, show (2 : Int32).toInt = 2 from by decide] at h; rw [own_lt32, Int32.toInt_zero]; omega
theorem own_in1 {z : Int32} (h : ¬ z < (2 : Int32)) : (1 : Int32) < z := by
  rw [own_lt32, show (2 : Int32).toInt = 2 from by decide] at h; rw [own_lt32, show (1 : Int32).toInt = 1 from by decide]; omega
theorem own_four (p : Int32) : (p &&& (3 : Int32)) = (0 : Int32) ∨ (p &&& (3 : Int32)) = (1 : Int32) ∨ (p &&& (3 : Int32)) = (2 : Int32) ∨ (p &&& (3 : Int32)) = (3 : Int32) := by
  have e : (p &&& 3).toInt = p.toInt % 2 ^ 2 := Jvm.Kit.i32_mask p 3 (k := 2) (by decide) (by decide)
  have h : p.toInt % 2 ^ 2 = 0 ∨ p.toInt % 2 ^ 2 = 1 ∨ p.toInt % 2 ^ 2 = 2 ∨ p.toInt % 2 ^ 2 = 3 := by omega
  rcases h with h | h | h | h
  · exact Or.inl (Int32.toInt_inj.mp (e.trans h))
  · exact Or.inr (Or.inl (Int32.toInt_inj.mp (e.trans h)))
  · exact Or.inr (Or.inr (Or.inl (Int32.toInt_inj.mp (e.trans h))))
  · exact Or.inr (Or.inr (Or.inr (Int32.toInt_inj.mp (e.trans h))))
theorem own_idem (y : Int32) : nar .byte (y.toInt8.toInt32) = y.toInt8.toInt32 := by
  show (y.toInt8.toInt32).toInt8.toInt32 = _
  rw [Int8.toInt8_toInt32]
theorem own_d2_0 : decode prog_14_method_1_code 0 = .ok (.aload_n 0, 1) := by decide +kernel
theorem own_d2_1 : decode prog_14_method_1_code 1 = .ok (.invokespecial 1, 3) := by decide +kernel
theorem own_d2_4 : decode prog_14_method_1_code 4 = .ok (.aload_n 0, 1) := by decide +kernel
theorem own_d2_5 : decode prog_14_method_1_code 5 = .ok (.aload_n 1, 1) := by decide +kernel
theorem own_d2_6 : decode prog_14_method_1_code 6 = .ok (.putfield 7, 3) := by decide +kernel
theorem own_d2_9 : decode prog_14_method_1_code 9 = .ok (.aload_n 0, 1) := by decide +kernel
theorem own_d2_10 : decode prog_14_method_1_code 10 = .ok (.aload_n 2, 1) := by decide +kernel
theorem own_d2_11 : decode prog_14_method_1_code 11 = .ok (.ifnonnull 7, 3) := by decide +kernel
theorem own_d2_14 : decode prog_14_method_1_code 14 = .ok (.aconst_null, 1) := by decide +kernel
theorem own_d2_15 : decode prog_14_method_1_code 15 = .ok (.goto 10, 3) := by decide +kernel
theorem own_d2_18 : decode prog_14_method_1_code 18 = .ok (.aload_n 2, 1) := by decide +kernel
theorem own_d2_19 : decode prog_14_method_1_code 19 = .ok (.invokevirtual 13, 3) := by decide +kernel
theorem own_d2_22 : decode prog_14_method_1_code 22 = .ok (.checkcast 14, 3) := by decide +kernel
theorem own_d2_25 : decode prog_14_method_1_code 25 = .ok (.putfield 19, 3) := by decide +kernel
theorem own_d2_28 : decode prog_14_method_1_code 28 = .ok (.return_, 1) := by decide +kernel
theorem own_pn0 : plainName "com/example/nuthatch/nuthatch/engine/Outcome" = true := by first | (simp [plainName, overriddenIn]; done) | decide +kernel
theorem own_pd0 : parseMethodDescriptor "()V" = some ⟨[], none⟩ := by decide +kernel
theorem own_pd1 : parseMethodDescriptor "()Ljava/lang/Object;" = some ⟨[], some (.object "java/lang/Object")⟩ := by decide +kernel
theorem own_initN_ef (m : MethodId) (a1 : Addr) (wS : Addr) : entryFrame m #[(.ref a1), (.ref wS), .null] 3 = mkF m 0 #[.val (.ref a1), .val (.ref wS), .val .null] [] := by first | (simp [entryFrame, mkF, argsToLocals, Value.category]; done) | rfl
set_option maxRecDepth 65536 in
set_option maxHeartbeats 40000000 in
theorem own_initN (l : Launch) (Z : State) (a0 : Array Value) (hw : ∀ d ∈ tables_1, d.before a0 Z = true) (ws : List Jvm.Cond) (a1 : Addr) (wS : Addr) (h0 : Heap) (n0 : Nat) (Z0 : n0 ≤ h0.size) (E1 : Exa Z h0 a1 "com/example/nuthatch/nuthatch/engine/Outcome") (F1 : Fld Z h0 a1 "com/example/nuthatch/nuthatch/engine/Outcome" "status" "Lcom/example/nuthatch/nuthatch/engine/Status;" .null) (F2 : Fld Z h0 a1 "com/example/nuthatch/nuthatch/engine/Outcome" "response" "[B" .null) (g_a1 : n0 ≤ a1) :
    own_Met l Z (⟨"com/example/nuthatch/nuthatch/engine/Outcome", "<init>", "(Lcom/example/nuthatch/nuthatch/engine/Status;[B)V"⟩ : MethodName) prog_14_method_1_code 3 none ws ({ frames := 1, cells := 0, slots := 0, locals := 16 } : Room) #[(.ref a1), (.ref wS), .null] h0 (fun v h L => v = none ∧ Fr n0 L ∧ Keep h0 h [a1] ∧ Fld Z h a1 "com/example/nuthatch/nuthatch/engine/Outcome" "status" "Lcom/example/nuthatch/nuthatch/engine/Status;" (.ref wS) ∧ Fld Z h a1 "com/example/nuthatch/nuthatch/engine/Outcome" "response" "[B" .null) := by
  refine own_enter (plainFor_of_name own_pn0) ?_
  intro p e s m below meth c s₁ X0 hx hZ hby hml hown hnm hret hlk e0
  have N0 := Fr.nil n0
  rw [own_initN_ef m a1 wS]
  have KK0 : Keep h0 h0 [a1] := Keep.refl _ _
  show own_Fin _ _ _ _ _ _ (s₁.setTop (mkF m 0 #[.val (.ref a1), .val (.ref wS), .val .null] []))
  refine own_to (fun t k => XS.aloadN X0.here hx rfl (hb hby own_d2_0) rfl rfl k) ?_
  show own_Fin _ _ _ _ _ _ (s₁.setTop (mkF m 1 #[.val (.ref a1), .val (.ref wS), .val .null] [(.ref a1)]))
  obtain ⟨T1, X1, e1, st1⟩ := initO X0 hx hZ hown (hw _ (List.mem_of_getElem? (i := 13) rfl)) (hw _ (List.mem_of_getElem? (i := 14) rfl)) (hw _ (List.mem_of_getElem? (i := 15) rfl)) e0 (g := (mkF m 1 #[.val (.ref a1), .val (.ref wS), .val .null] [(.ref a1)])) rfl (by rw [hml]; rfl) rfl (hb hby own_d2_1) (by decide) (W := 0) (by show 2 * 0 + _ ≤ _; exact Nat.le_of_eq rfl) (by decide)
  refine own_to (fun t k => st1 t k) ?_
  show own_Fin _ _ _ _ _ _ (T1.setTop (mkF m 4 #[.val (.ref a1), .val (.ref wS), .val .null] []))
  refine own_to (fun t k => XS.aloadN X1.here hx rfl (hb hby own_d2_4) rfl rfl k) ?_
  show own_Fin _ _ _ _ _ _ (T1.setTop (mkF m 5 #[.val (.ref a1), .val (.ref wS), .val .null] [(.ref a1)]))
  refine own_to (fun t k => XS.aloadN X1.here hx rfl (hb hby own_d2_5) rfl rfl k) ?_
  show own_Fin _ _ _ _ _ _ (T1.setTop (mkF m 6 #[.val (.ref a1), .val (.ref wS), .val .null] [(.ref wS), (.ref a1)]))
  obtain ⟨T2, h2, X2, e2, W2, st2⟩ := putF X1 hx hZ hown (host := "") (Or.inl (hw _ (List.mem_of_getElem? (i := 16) rfl))) Via.refl e1 F1 E1 (Or.inr ⟨(hw _ (List.mem_of_getElem? (i := 17) rfl)), rfl, hnm⟩) (hw _ (List.mem_of_getElem? (i := 6) rfl)) (ty := (.object "com/example/nuthatch/nuthatch/engine/Status")) (by decide) rfl rfl (g := (mkF m 6 #[.val (.ref a1), .val (.ref wS), .val .null] [(.ref wS), (.ref a1)])) rfl rfl (hb hby own_d2_6)
  have Fw2 := F1.same W2
  have N2 := Fr.snoc X2 N0 g_a1
  have KK2 : Keep h0 h2 [a1] := KK0.wr W2 (Or.inl (List.mem_of_getElem? (i := 0) rfl))
  have E1_e2 := E1.wr W2
  have F2_e2 := F2.other W2 (Or.inr (slot_ne (Or.inr (hw _ (List.mem_of_getElem? (i := 28) rfl))) (Or.inr (hw _ (List.mem_of_getElem? (i := 17) rfl))) (by decide) (t := (.array .byte)) (t' := (.object "com/example/nuthatch/nuthatch/engine/Status")) (by decide) (by decide)))
  refine own_to (fun t k => st2 t k) ?_
  show own_Fin _ _ _ _ _ _ (T2.setTop (mkF m 9 #[.val (.ref a1), .val (.ref wS), .val .null] []))
  refine own_to (fun t k => XS.aloadN X2.here hx rfl (hb hby own_d2_9) rfl rfl k) ?_
  show own_Fin _ _ _ _ _ _ (T2.setTop (mkF m 10 #[.val (.ref a1), .val (.ref wS), .val .null] [(.ref a1)]))
  refine own_to (fun t k => XS.aloadN X2.here hx rfl (hb hby own_d2_10) rfl rfl k) ?_
  show own_Fin _ _ _ _ _ _ (T2.setTop (mkF m 11 #[.val (.ref a1), .val (.ref wS), .val .null] [.null, (.ref a1)]))
  refine own_to (fun t k => XS.ifnonnullNo X2.here hx rfl (hb hby own_d2_11) rfl k) ?_
  show own_Fin _ _ _ _ _ _ (T2.setTop (mkF m 14 #[.val (.ref a1), .val (.ref wS), .val .null] [(.ref a1)]))
  refine own_to (fun t k => XS.aconstNull X2.here hx rfl (hb hby own_d2_14) k) ?_
  show own_Fin _ _ _ _ _ _ (T2.setTop (mkF m 15 #[.val (.ref a1), .val (.ref wS), .val .null] [.null, (.ref a1)]))
  refine own_to (fun t k => XS.goto X2.here hx rfl (pc0 := 15) (pc' := 25) rfl (hb hby own_d2_15) (by decide) (by decide) k) ?_
  show own_Fin _ _ _ _ _ _ (T2.setTop (mkF m 25 #[.val (.ref a1), .val (.ref wS), .val .null] [.null, (.ref a1)]))
  obtain ⟨T3, h3, X3, e3, W3, st3⟩ := putF X2 hx hZ hown (host := "") (Or.inl (hw _ (List.mem_of_getElem? (i := 27) rfl))) Via.refl e2 F2_e2 E1_e2 (Or.inr ⟨(hw _ (List.mem_of_getElem? (i := 28) rfl)), rfl, hnm⟩) (hw _ (List.mem_of_getElem? (i := 6) rfl)) (ty := (.array .byte)) (by decide) rfl rfl (g := (mkF m 25 #[.val (.ref a1), .val (.ref wS), .val .null] [.null, (.ref a1)])) rfl rfl (hb hby own_d2_25)
  have Fw3 := F2_e2.same W3
  have N3 := Fr.snoc X3 N2 g_a1
  have KK3 : Keep h0 h3 [a1] := KK2.wr W3 (Or.inl (List.mem_of_getElem? (i := 0) rfl))
  have E1_e3 := E1_e2.wr W3
  have Fw2_e3 := Fw2.other W3 (Or.inr (slot_ne (Or.inr (hw _ (List.mem_of_getElem? (i := 17) rfl))) (Or.inr (hw _ (List.mem_of_getElem? (i := 28) rfl))) (by decide) (t := (.object "com/example/nuthatch/nuthatch/engine/Status")) (t' := (.array .byte)) (by decide) (by decide)))
  refine own_to (fun t k => st3 t k) ?_
  show own_Fin _ _ _ _ _ _ (T3.setTop (mkF m 28 #[.val (.ref a1), .val (.ref wS), .val .null] []))
  refine own_retV X3 hx hlk hret (hb hby own_d2_28) (by decide) (by decide) ?_
  try rw [e3]
  exact ⟨rfl, N3, KK3, Fw2_e3, Fw3⟩
theorem own_initA_ef (m : MethodId) (a1 : Addr) (wS : Addr) (a3 : Addr) : entryFrame m #[(.ref a1), (.ref wS), (.ref a3)] 3 = mkF m 0 #[.val (.ref a1), .val (.ref wS), .val (.ref a3)] [] := by first | (simp [entryFrame, mkF, argsToLocals, Value.category]; done) | rfl
set_option maxRecDepth 65536 in
set_option maxHeartbeats 40000000 in
theorem own_initA (l : Launch) (Z : State) (a0 : Array Value) (hw : ∀ d ∈ tables_1, d.before a0 Z = true) (ws : List Jvm.Cond) (a1 : Addr) (wS : Addr) (a3 : Addr) (k : ClassId) (z : Int32) (vs : List Value) (h0 : Heap) (n0 : Nat) (Z0 : n0 ≤ h0.size) (E1 : Exa Z h0 a1 "com/example/nuthatch/nuthatch/engine/Outcome") (F1 : Fld Z h0 a1 "com/example/nuthatch/nuthatch/engine/Outcome" "status" "Lcom/example/nuthatch/nuthatch/engine/Status;" .null) (F2 : Fld Z h0 a1 "com/example/nuthatch/nuthatch/engine/Outcome" "response" "[B" .null) (g_a1 : n0 ≤ a1) (V3 : Arv Z h0 a3 k .byte z vs (.int (0 : Int32))) (E3 : Exa Z h0 a3 "[B") (ne13 : a1 ≠ a3) (hz : z.toNatClampNeg ≤ 3) :
    own_Met l Z (⟨"com/example/nuthatch/nuthatch/engine/Outcome", "<init>", "(Lcom/example/nuthatch/nuthatch/engine/Status;[B)V"⟩ : MethodName) prog_14_method_1_code 3 none ws ({ frames := 1, cells := 1, slots := 3, locals := 16 } : Room) #[(.ref a1), (.ref wS), (.ref a3)] h0 (fun v h L => ∃ c, v = none ∧ Fr n0 L ∧ Keep h0 h [a1] ∧ n0 ≤ c ∧ h0.size ≤ c ∧ Fld Z h a1 "com/example/nuthatch/nuthatch/engine/Outcome" "status" "Lcom/example/nuthatch/nuthatch/engine/Status;" (.ref wS) ∧ Fld Z h a1 "com/example/nuthatch/nuthatch/engine/Outcome" "response" "[B" (.ref c) ∧ Arv Z h c k .byte z vs (.int (0 : Int32)) ∧ Exa Z h c "[B") := by
  refine own_enter (plainFor_of_name own_pn0) ?_
  intro p e s m below meth c s₁ X0 hx hZ hby hml hown hnm hret hlk e0
  have N0 := Fr.nil n0
  rw [own_initA_ef m a1 wS a3]
  have KK0 : Keep h0 h0 [a1] := Keep.refl _ _
  show own_Fin _ _ _ _ _ _ (s₁.setTop (mkF m 0 #[.val (.ref a1), .val (.ref wS), .val (.ref a3)] []))
  refine own_to (fun t k => XS.aloadN X0.here hx rfl (hb hby own_d2_0) rfl rfl k) ?_
  show own_Fin _ _ _ _ _ _ (s₁.setTop (mkF m 1 #[.val (.ref a1), .val (.ref wS), .val (.ref a3)] [(.ref a1)]))
  obtain ⟨T4, X4, e4, st4⟩ := initO X0 hx hZ hown (hw _ (List.mem_of_getElem? (i := 13) rfl)) (hw _ (List.mem_of_getElem? (i := 14) rfl)) (hw _ (List.mem_of_getElem? (i := 15) rfl)) e0 (g := (mkF m 1 #[.val (.ref a1), .val (.ref wS), .val (.ref a3)] [(.ref a1)])) rfl (by rw [hml]; rfl) rfl (hb hby own_d2_1) (by decide) (W := 0) (by show 2 * 0 + _ ≤ _; exact Nat.le_of_eq rfl) (by decide)
  refine own_to (fun t k => st4 t k) ?_
  show own_Fin _ _ _ _ _ _ (T4.setTop (mkF m 4 #[.val (.ref a1), .val (.ref wS), .val (.ref a3)] []))
  refine own_to (fun t k => XS.aloadN X4.here hx rfl (hb hby own_d2_4) rfl rfl k) ?_
  show own_Fin _ _ _ _ _ _ (T4.setTop (mkF m 5 #[.val (.ref a1), .val (.ref wS), .val (.ref a3)] [(.ref a1)]))
  refine own_to (fun t k => XS.aloadN X4.here hx rfl (hb hby own_d2_5) rfl rfl k) ?_
  show own_Fin _ _ _ _ _ _ (T4.setTop (mkF m 6 #[.val (.ref a1), .val (.ref wS), .val (.ref a3)] [(.ref wS), (.ref a1)]))
  obtain ⟨T5, h5, X5, e5, W5, st5⟩ := putF X4 hx hZ hown (host := "") (Or.inl (hw _ (List.mem_of_getElem? (i := 16) rfl))) Via.refl e4 F1 E1 (Or.inr ⟨(hw _ (List.mem_of_getElem? (i := 17) rfl)), rfl, hnm⟩) (hw _ (List.mem_of_getElem? (i := 6) rfl)) (ty := (.object "com/example/nuthatch/nuthatch/engine/Status")) (by decide) rfl rfl (g := (mkF m 6 #[.val (.ref a1), .val (.ref wS), .val (.ref a3)] [(.ref wS), (.ref a1)])) rfl rfl (hb hby own_d2_6)
  have Fw5 := F1.same W5
  have N5 := Fr.snoc X5 N0 g_a1
  have KK5 : Keep h0 h5 [a1] := KK0.wr W5 (Or.inl (List.mem_of_getElem? (i := 0) rfl))
  have E1_e5 := E1.wr W5
  have F2_e5 := F2.other W5 (Or.inr (slot_ne (Or.inr (hw _ (List.mem_of_getElem? (i := 28) rfl))) (Or.inr (hw _ (List.mem_of_getElem? (i := 17) rfl))) (by decide) (t := (.array .byte)) (t' := (.object "com/example/nuthatch/nuthatch/engine/Status")) (by decide) (by decide)))
  have V3_e5 := V3.other W5 (Ne.symm ne13)
  have E3_e5 := E3.wr W5
  refine own_to (fun t k => st5 t k) ?_
  show own_Fin _ _ _ _ _ _ (T5.setTop (mkF m 9 #[.val (.ref a1), .val (.ref wS), .val (.ref a3)] []))
  refine own_to (fun t k => XS.aloadN X5.here hx rfl (hb hby own_d2_9) rfl rfl k) ?_
  show own_Fin _ _ _ _ _ _ (T5.setTop (mkF m 10 #[.val (.ref a1), .val (.ref wS), .val (.ref a3)] [(.ref a1)]))
  refine own_to (fun t k => XS.aloadN X5.here hx rfl (hb hby own_d2_10) rfl rfl k) ?_
  show own_Fin _ _ _ _ _ _ (T5.setTop (mkF m 11 #[.val (.ref a1), .val (.ref wS), .val (.ref a3)] [(.ref a3), (.ref a1)]))
  refine own_to (fun t k => XS.ifnonnullYes X5.here hx rfl (pc0 := 11) (pc' := 18) rfl (hb hby own_d2_11) rfl (by decide) (by decide) k) ?_
  show own_Fin _ _ _ _ _ _ (T5.setTop (mkF m 18 #[.val (.ref a1), .val (.ref wS), .val (.ref a3)] [(.ref a1)]))
  refine own_to (fun t k => XS.aloadN X5.here hx rfl (hb hby own_d2_18) rfl rfl k) ?_
  show own_Fin _ _ _ _ _ _ (T5.setTop (mkF m 19 #[.val (.ref a1), .val (.ref wS), .val (.ref a3)] [(.ref a3), (.ref a1)]))
  obtain ⟨T6, h6, X6, e6, E6, V6, A6x, st6⟩ := cloneH X5 hx hZ hown (hw _ (List.mem_of_getElem? (i := 18) rfl)) (hw _ (List.mem_of_getElem? (i := 19) rfl)) (hw _ (List.mem_of_getElem? (i := 23) rfl)) (hw _ (List.mem_of_getElem? (i := 21) rfl)) (hw _ (List.mem_of_getElem? (i := 22) rfl)) (hw _ (List.mem_of_getElem? (i := 24) rfl)) e5 V3_e5.arh E3_e5 (g := (mkF m 19 #[.val (.ref a1), .val (.ref wS), .val (.ref a3)] [(.ref a3), (.ref a1)])) rfl (by rw [hml]; rfl) rfl (hb hby own_d2_19) (by decide) (W := 1) (cap := 3) (by show 2 * 0 + _ ≤ _; exact Nat.le_of_eq rfl) (by decide) hz (by decide) (by decide)
  obtain ⟨bc, q6⟩ : ∃ z, z = h5.size := ⟨_, rfl⟩
  rw [← q6] at V6 A6x st6
  have ne_a1_bc : a1 ≠ bc := Nat.ne_of_lt (Nat.lt_of_lt_of_le E1_e5.lt (Nat.le_of_eq q6.symm))
  have ne_a3_bc : a3 ≠ bc := Nat.ne_of_lt (Nat.lt_of_lt_of_le V3_e5.lt (Nat.le_of_eq q6.symm))
  have g_bc : n0 ≤ bc := Nat.le_trans (Nat.le_trans Z0 (Keep.of_wr W5).1) (Nat.le_of_eq q6.symm)
  have sz_bc : h0.size ≤ bc := Nat.le_trans KK5.1 (Nat.le_of_eq q6.symm)
  have KK6 : Keep h0 h6 [a1] := KK5.ext E6
  have E1_e6 := E1_e5.ext E6
  have Fw5_e6 := Fw5.ext E6
  have F2_e6 := F2_e5.ext E6
  have V3_e6 := V3_e5.ext E6
  have E3_e6 := E3_e5.ext E6
  have V6v : Arv Z h6 bc k .byte z vs (.int (0 : Int32)) := V6
  refine own_to (fun t k => st6 t k) ?_
  show own_Fin _ _ _ _ _ _ (T6.setTop (mkF m 22 #[.val (.ref a1), .val (.ref wS), .val (.ref a3)] [(.ref bc), (.ref a1)]))
  obtain ⟨T7, X7, e7, st7⟩ := castY X6 hx hZ hown (hw _ (List.mem_of_getElem? (i := 25) rfl)) e6 (Ins.self A6x) (g := (mkF m 22 #[.val (.ref a1), .val (.ref wS), .val (.ref a3)] [(.ref bc), (.ref a1)])) rfl rfl (hb hby own_d2_22)
  refine own_to (fun t k => st7 t k) ?_
  show own_Fin _ _ _ _ _ _ (T7.setTop (mkF m 25 #[.val (.ref a1), .val (.ref wS), .val (.ref a3)] [(.ref bc), (.ref a1)]))
  obtain ⟨T8, h8, X8, e8, W8, st8⟩ := putF X7 hx hZ hown (host := "") (Or.inl (hw _ (List.mem_of_getElem? (i := 27) rfl))) Via.refl e7 F2_e6 E1_e6 (Or.inr ⟨(hw _ (List.mem_of_getElem? (i := 28) rfl)), rfl, hnm⟩) (hw _ (List.mem_of_getElem? (i := 6) rfl)) (ty := (.array .byte)) (by decide) rfl rfl (g := (mkF m 25 #[.val (.ref a1), .val (.ref wS), .val (.ref a3)] [(.ref bc), (.ref a1)])) rfl rfl (hb hby own_d2_25)
  have Fw8 := F2_e6.same W8
  have N8 := Fr.snoc X8 N5 g_a1
  have KK8 : Keep h0 h8 [a1] := KK6.wr W8 (Or.inl (List.mem_of_getElem? (i := 0) rfl))
  have E1_e8 := E1_e6.wr W8
  have Fw5_e8 := Fw5_e6.other W8 (Or.inr (slot_ne (Or.inr (hw _ (List.mem_of_getElem? (i := 17) rfl))) (Or.inr (hw _ (List.mem_of_getElem? (i := 28) rfl))) (by decide) (t := (.object "com/example/nuthatch/nuthatch/engine/Status")) (t' := (.array .byte)) (by decide) (by decide)))
  have V3_e8 := V3_e6.other W8 (Ne.symm ne13)
  have E3_e8 := E3_e6.wr W8
  have V6v_e8 := V6v.other W8 (Ne.symm ne_a1_bc)
  have A6x_e8 := A6x.wr W8
  refine own_to (fun t k => st8 t k) ?_
  show own_Fin _ _ _ _ _ _ (T8.setTop (mkF m 28 #[.val (.ref a1), .val (.ref wS), .val (.ref a3)] []))
  refine own_retV X8 hx hlk hret (hb hby own_d2_28) (by decide) (by decide) ?_
  try rw [e8]
  exact ⟨bc, rfl, N8, KK8, g_bc, sz_bc, Fw5_e8, Fw8, V6v_e8, A6x_e8⟩
theorem own_d1_0 : decode prog_14_method_2_code 0 = .ok (.new 8, 3) := by decide +kernel
theorem own_d1_3 : decode prog_14_method_2_code 3 = .ok (.dup, 1) := by decide +kernel
theorem own_d1_4 : decode prog_14_method_2_code 4 = .ok (.getstatic 22, 3) := by decide +kernel
theorem own_d1_7 : decode prog_14_method_2_code 7 = .ok (.aload_n 0, 1) := by decide +kernel
theorem own_d1_8 : decode prog_14_method_2_code 8 = .ok (.invokespecial 27, 3) := by decide +kernel
theorem own_d1_11 : decode prog_14_method_2_code 11 = .ok (.areturn, 1) := by decide +kernel
theorem own_pd2 : parseMethodDescriptor "(Lcom/example/nuthatch/nuthatch/engine/Status;[B)V" = some ⟨[(.object "com/example/nuthatch/nuthatch/engine/Status"), (.array .byte)], none⟩ := by decide +kernel
theorem own_exeN_ef (m : MethodId) : entryFrame m #[.null] 1 = mkF m 0 #[.val .null] [] := by first | (simp [entryFrame, mkF, argsToLocals, Value.category]; done) | rfl
set_option maxRecDepth 65536 in
set_option maxHeartbeats 40000000 in
theorem own_exeN (l : Launch) (Z : State) (a0 : Array Value) (hw : ∀ d ∈ tables_1, d.before a0 Z = true) (ws : List Jvm.Cond) (wS : Addr) (h0 : Heap) (n0 : Nat) (Z0 : n0 ≤ h0.size) (O0 : Old Z n0 h0) (SS : Sta Z Z.heap "com/example/nuthatch/nuthatch/engine/Status" "EXECUTED" "Lcom/example/nuthatch/nuthatch/engine/Status;" (.ref wS)) :
    own_Met l Z (⟨"com/example/nuthatch/nuthatch/engine/Outcome", "executed", "([B)Lcom/example/nuthatch/nuthatch/engine/Outcome;"⟩ : MethodName) prog_14_method_2_code 1 (some (.object "com/example/nuthatch/nuthatch/engine/Outcome")) ws ({ frames := 2, cells := 1, slots := 2, locals := 40 } : Room) #[.null] h0 (fun v h L => ∃ b, v = some (.ref b) ∧ Fr n0 L ∧ Keep h0 h [] ∧ n0 ≤ b ∧ h0.size ≤ b ∧ Exa Z h b "com/example/nuthatch/nuthatch/engine/Outcome" ∧ Fld Z h b "com/example/nuthatch/nuthatch/engine/Outcome" "status" "Lcom/example/nuthatch/nuthatch/engine/Status;" (.ref wS) ∧ Fld Z h b "com/example/nuthatch/nuthatch/engine/Outcome" "response" "[B" .null) := by
  refine own_enter (plainFor_of_name own_pn0) ?_
  intro p e s m below meth c s₁ X0 hx hZ hby hml hown hnm hret hlk e0
  have N0 := Fr.nil n0
  rw [own_exeN_ef m]
  have KK0 : Keep h0 h0 [] := Keep.refl _ _
  show own_Fin _ _ _ _ _ _ (s₁.setTop (mkF m 0 #[.val .null] []))
  obtain ⟨T9, h9, X9, e9, E9, A9, D9, U9, st9⟩ := newO X0 hx hZ hown (hw _ (List.mem_of_getElem? (i := 5) rfl)) (hw _ (List.mem_of_getElem? (i := 6) rfl)) (hw _ (List.mem_of_getElem? (i := 3) rfl)) e0 (g := (mkF m 0 #[.val .null] [])) rfl (hb hby own_d1_0) (by decide) (by decide)
  obtain ⟨b9, q9⟩ : ∃ z, z = h0.size := ⟨_, rfl⟩
  rw [← q9] at A9 D9 U9 st9
  have g_b9 : n0 ≤ b9 := Nat.le_trans Z0 (Nat.le_of_eq q9.symm)
  have sz_b9 : h0.size ≤ b9 := Nat.le_trans KK0.1 (Nat.le_of_eq q9.symm)
  have O9 := O0.ext E9
  have KK9 : Keep h0 h9 [] := KK0.ext E9
  have Fnstatus_9 : Fld Z h9 b9 "com/example/nuthatch/nuthatch/engine/Outcome" "status" "Lcom/example/nuthatch/nuthatch/engine/Status;" .null := D9 (Or.inr (hw _ (List.mem_of_getElem? (i := 17) rfl))) (ty := (.object "com/example/nuthatch/nuthatch/engine/Status")) (by decide)
  have Fnresponse_9 : Fld Z h9 b9 "com/example/nuthatch/nuthatch/engine/Outcome" "response" "[B" .null := D9 (Or.inr (hw _ (List.mem_of_getElem? (i := 28) rfl))) (ty := (.array .byte)) (by decide)
  refine own_to (fun t k => st9 t k) ?_
  show own_Fin _ _ _ _ _ _ (T9.setTop (mkF m 3 #[.val .null] [(.ref b9)]))
  refine own_to (fun t k => XS.dup X9.here hx rfl (hb hby own_d1_3) rfl rfl k) ?_
  show own_Fin _ _ _ _ _ _ (T9.setTop (mkF m 4 #[.val .null] [(.ref b9), (.ref b9)]))
  obtain ⟨T10, X10, e10, st10⟩ := getS2 X9 hx hZ hown (host := "") (Or.inl (hw _ (List.mem_of_getElem? (i := 7) rfl))) Via.refl e9 (SS.ext O9.2) (g := (mkF m 4 #[.val .null] [(.ref b9), (.ref b9)])) rfl (hb hby own_d1_4)
  refine own_to (fun t k => st10 t k) ?_
  show own_Fin _ _ _ _ _ _ (T10.setTop (mkF m 7 #[.val .null] [(.ref wS), (.ref b9), (.ref b9)]))
  refine own_to (fun t k => XS.aloadN X10.here hx rfl (hb hby own_d1_7) rfl rfl k) ?_
  show own_Fin _ _ _ _ _ _ (T10.setTop (mkF m 8 #[.val .null] [.null, (.ref wS), (.ref b9), (.ref b9)]))
  obtain ⟨_, _, ⟨T11, L11, k11, n11⟩, -, X11, ⟨Lc11, hQ11, l11, y11, z11⟩, st11⟩ := X10.specialBack hx (y := (⟨"com/example/nuthatch/nuthatch/engine/Outcome", "<init>", "(Lcom/example/nuthatch/nuthatch/engine/Status;[B)V"⟩ : MethodName)) rfl hown (mvT hZ (hw _ (List.mem_of_getElem? (i := 10) rfl))) (mvT hZ (hw _ (List.mem_of_getElem? (i := 11) rfl))) (mvT hZ (hw _ (List.mem_of_getElem? (i := 12) rfl))) (by decide) (own_back (W := 1) (own_initN l Z a0 hw [] b9 wS h9 n0 (Nat.le_trans Z0 E9.1) A9 Fnstatus_9 Fnresponse_9 g_b9) hZ (hw _ (List.mem_of_getElem? (i := 12) rfl)) (hw _ (List.mem_of_getElem? (i := 3) rfl)) (by decide) (by decide)) (g := (mkF m 8 #[.val .null] [.null, (.ref wS), (.ref b9), (.ref b9)])) rfl (by rw [hml]; rfl) (Steps.refl _) (a := b9) (argsL := [(.ref wS), .null]) (rest := [(.ref b9)]) (lenOf own_pd2 rfl) rfl (by show 2 * 0 + _ ≤ _; exact Nat.le_of_eq rfl) (hb hby own_d1_8) (fun _ _ => ⟨rfl, e10, (by decide : 1 + 0 ≤ _), (by decide : 2 + 0 ≤ _)⟩)
  dsimp only [Pt.U, Pt.locs, Pt.cells, Pt.slots] at X11 l11 y11 z11 st11 hQ11
  subst l11 y11 z11
  obtain ⟨rfl, N11q, K11, Fs, Fre⟩ := hQ11
  have N11 := Fr.app N0 N11q
  have O11 := O9.keep K11 (allS g_b9 all0)
  have KK11 : Keep h0 T11.heap [] := KK9.trans K11 (allS (Or.inr sz_b9) all0)
  have A9_e11 := A9.keep K11
  refine own_to (fun t k => st11.trans k) ?_
  show own_Fin _ _ _ _ _ _ (T11.setTop (mkF m 11 #[.val .null] [(.ref b9)]))
  refine own_retR X11 hx hlk hret rfl rfl rfl (hb hby own_d1_11) (by decide) (by decide) ?_
  exact ⟨b9, rfl, N11, KK11, g_b9, sz_b9, A9_e11, Fs, Fre⟩
theorem own_exeA_ef (m : MethodId) (a3 : Addr) : entryFrame m #[(.ref a3)] 1 = mkF m 0 #[.val (.ref a3)] [] := by first | (simp [entryFrame, mkF, argsToLocals, Value.category]; done) | rfl
set_option maxRecDepth 65536 in
set_option maxHeartbeats 40000000 in
theorem own_exeA (l : Launch) (Z : State) (a0 : Array Value) (hw : ∀ d ∈ tables_1, d.before a0 Z = true) (ws : List Jvm.Cond) (wS : Addr) (a3 : Addr) (k : ClassId) (z : Int32) (vs : List Value) (h0 : Heap) (n0 : Nat) (Z0 : n0 ≤ h0.size) (O0 : Old Z n0 h0) (SS : Sta Z Z.heap "com/example/nuthatch/nuthatch/engine/Status" "EXECUTED" "Lcom/example/nuthatch/nuthatch/engine/Status;" (.ref wS)) (V3 : Arv Z h0 a3 k .byte z vs (.int (0 : Int32))) (E3 : Exa Z h0 a3 "[B") (hz : z.toNatClampNeg ≤ 3) :
    own_Met l Z (⟨"com/example/nuthatch/nuthatch/engine/Outcome", "executed", "([B)Lcom/example/nuthatch/nuthatch/engine/Outcome;"⟩ : MethodName) prog_14_method_2_code 1 (some (.object "com/example/nuthatch/nuthatch/engine/Outcome")) ws ({ frames := 2, cells := 2, slots := 5, locals := 48 } : Room) #[(.ref a3)] h0 (fun v h L => ∃ b c, v = some (.ref b) ∧ Fr n0 L ∧ Keep h0 h [] ∧ n0 ≤ b ∧ h0.size ≤ b ∧ n0 ≤ c ∧ h0.size ≤ c ∧ Exa Z h b "com/example/nuthatch/nuthatch/engine/Outcome" ∧ Fld Z h b "com/example/nuthatch/nuthatch/engine/Outcome" "status" "Lcom/example/nuthatch/nuthatch/engine/Status;" (.ref wS) ∧ Fld Z h b "com/example/nuthatch/nuthatch/engine/Outcome" "response" "[B" (.ref c) ∧ Arv Z h c k .byte z vs (.int (0 : Int32)) ∧ Exa Z h c "[B") := by
  refine own_enter (plainFor_of_name own_pn0) ?_
  intro p e s m below meth c s₁ X0 hx hZ hby hml hown hnm hret hlk e0
  have N0 := Fr.nil n0
  rw [own_exeA_ef m a3]
  have KK0 : Keep h0 h0 [] := Keep.refl _ _
  show own_Fin _ _ _ _ _ _ (s₁.setTop (mkF m 0 #[.val (.ref a3)] []))
  obtain ⟨T12, h12, X12, e12, E12, A12, D12, U12, st12⟩ := newO X0 hx hZ hown (hw _ (List.mem_of_getElem? (i := 5) rfl)) (hw _ (List.mem_of_getElem? (i := 6) rfl)) (hw _ (List.mem_of_getElem? (i := 3) rfl)) e0 (g := (mkF m 0 #[.val (.ref a3)] [])) rfl (hb hby own_d1_0) (by decide) (by decide)
  obtain ⟨b12, q12⟩ : ∃ z, z = h0.size := ⟨_, rfl⟩
  rw [← q12] at A12 D12 U12 st12
  have ne_a3_b12 : a3 ≠ b12 := Nat.ne_of_lt (Nat.lt_of_lt_of_le V3.lt (Nat.le_of_eq q12.symm))
  have g_b12 : n0 ≤ b12 := Nat.le_trans Z0 (Nat.le_of_eq q12.symm)
  have sz_b12 : h0.size ≤ b12 := Nat.le_trans KK0.1 (Nat.le_of_eq q12.symm)
  have O12 := O0.ext E12
  have KK12 : Keep h0 h12 [] := KK0.ext E12
  have V3_e12 := V3.ext E12
  have E3_e12 := E3.ext E12
  have Fnstatus_12 : Fld Z h12 b12 "com/example/nuthatch/nuthatch/engine/Outcome" "status" "Lcom/example/nuthatch/nuthatch/engine/Status;" .null := D12 (Or.inr (hw _ (List.mem_of_getElem? (i := 17) rfl))) (ty := (.object "com/example/nuthatch/nuthatch/engine/Status")) (by decide)
  have Fnresponse_12 : Fld Z h12 b12 "com/example/nuthatch/nuthatch/engine/Outcome" "response" "[B" .null := D12 (Or.inr (hw _ (List.mem_of_getElem? (i := 28) rfl))) (ty := (.array .byte)) (by decide)
  refine own_to (fun t k => st12 t k) ?_
  show own_Fin _ _ _ _ _ _ (T12.setTop (mkF m 3 #[.val (.ref a3)] [(.ref b12)]))
  refine own_to (fun t k => XS.dup X12.here hx rfl (hb hby own_d1_3) rfl rfl k) ?_
  show own_Fin _ _ _ _ _ _ (T12.setTop (mkF m 4 #[.val (.ref a3)] [(.ref b12), (.ref b12)]))
  obtain ⟨T13, X13, e13, st13⟩ := getS2 X12 hx hZ hown (host := "") (Or.inl (hw _ (List.mem_of_getElem? (i := 7) rfl))) Via.refl e12 (SS.ext O12.2) (g := (mkF m 4 #[.val (.ref a3)] [(.ref b12), (.ref b12)])) rfl (hb hby own_d1_4)
  refine own_to (fun t k => st13 t k) ?_
  show own_Fin _ _ _ _ _ _ (T13.setTop (mkF m 7 #[.val (.ref a3)] [(.ref wS), (.ref b12), (.ref b12)]))
  refine own_to (fun t k => XS.aloadN X13.here hx rfl (hb hby own_d1_7) rfl rfl k) ?_
  show own_Fin _ _ _ _ _ _ (T13.setTop (mkF m 8 #[.val (.ref a3)] [(.ref a3), (.ref wS), (.ref b12), (.ref b12)]))
  obtain ⟨_, _, ⟨T14, L14, k14, n14⟩, -, X14, ⟨Lc14, hQ14, l14, y14, z14⟩, st14⟩ := X13.specialBack hx (y := (⟨"com/example/nuthatch/nuthatch/engine/Outcome", "<init>", "(Lcom/example/nuthatch/nuthatch/engine/Status;[B)V"⟩ : MethodName)) rfl hown (mvT hZ (hw _ (List.mem_of_getElem? (i := 10) rfl))) (mvT hZ (hw _ (List.mem_of_getElem? (i := 11) rfl))) (mvT hZ (hw _ (List.mem_of_getElem? (i := 12) rfl))) (by decide) (own_back (W := 1) (own_initA l Z a0 hw [] b12 wS a3 k z vs h12 n0 (Nat.le_trans Z0 E12.1) A12 Fnstatus_12 Fnresponse_12 g_b12 V3_e12 E3_e12 (Ne.symm ne_a3_b12) hz) hZ (hw _ (List.mem_of_getElem? (i := 12) rfl)) (hw _ (List.mem_of_getElem? (i := 3) rfl)) (by decide) (by decide)) (g := (mkF m 8 #[.val (.ref a3)] [(.ref a3), (.ref wS), (.ref b12), (.ref b12)])) rfl (by rw [hml]; rfl) (Steps.refl _) (a := b12) (argsL := [(.ref wS), (.ref a3)]) (rest := [(.ref b12)]) (lenOf own_pd2 rfl) rfl (by show 2 * 0 + _ ≤ _; exact Nat.le_of_eq rfl) (hb hby own_d1_8) (fun _ _ => ⟨rfl, e13, (by decide : 1 + 1 ≤ _), (by decide : 2 + 3 ≤ _)⟩)
  dsimp only [Pt.U, Pt.locs, Pt.cells, Pt.slots] at X14 l14 y14 z14 st14 hQ14
  subst l14 y14 z14
  obtain ⟨bc, rfl, N14q, K14, g_bc, szx_bc, Fs, Fre, V_bc, E_bc⟩ := hQ14
  have N14 := Fr.app N0 N14q
  have ne_a3_bc : a3 ≠ bc := Nat.ne_of_lt (Nat.lt_of_lt_of_le V3_e12.lt szx_bc)
  have ne_b12_bc : b12 ≠ bc := Nat.ne_of_lt (Nat.lt_of_lt_of_le A12.lt szx_bc)
  have sz_bc : h0.size ≤ bc := Nat.le_trans KK12.1 szx_bc
  have O14 := O12.keep K14 (allS g_b12 all0)
  have KK14 : Keep h0 T14.heap [] := KK12.trans K14 (allS (Or.inr sz_b12) all0)
  have V3_e14 := V3_e12.keep K14 (ninS ne_a3_b12 nin0)
  have E3_e14 := E3_e12.keep K14
  have A12_e14 := A12.keep K14
  refine own_to (fun t k => st14.trans k) ?_
  show own_Fin _ _ _ _ _ _ (T14.setTop (mkF m 11 #[.val (.ref a3)] [(.ref b12)]))
  refine own_retR X14 hx hlk hret rfl rfl rfl (hb hby own_d1_11) (by decide) (by decide) ?_
  exact ⟨b12, bc, rfl, N14, KK14, g_b12, sz_b12, g_bc, sz_bc, A12_e14, Fs, Fre, V_bc, E_bc⟩
theorem own_d4_0 : decode prog_14_method_7_code 0 = .ok (.aload_n 0, 1) := by decide +kernel
theorem own_d4_1 : decode prog_14_method_7_code 1 = .ok (.getfield 7, 3) := by decide +kernel
theorem own_d4_4 : decode prog_14_method_7_code 4 = .ok (.areturn, 1) := by decide +kernel
theorem own_rm4_ef (m : MethodId) (a1 : Addr) : entryFrame m #[(.ref a1)] 1 = mkF m 0 #[.val (.ref a1)] [] := by first | (simp [entryFrame, mkF, argsToLocals, Value.category]; done) | rfl
set_option maxRecDepth 65536 in
set_option maxHeartbeats 40000000 in
theorem own_rm4 (l : Launch) (Z : State) (a0 : Array Value) (hw : ∀ d ∈ tables_1, d.before a0 Z = true) (ws : List Jvm.Cond) (a1 : Addr) (wS : Addr) (h0 : Heap) (n0 : Nat) (Z0 : n0 ≤ h0.size) (F1 : Fld Z h0 a1 "com/example/nuthatch/nuthatch/engine/Outcome" "status" "Lcom/example/nuthatch/nuthatch/engine/Status;" (.ref wS)) :
    own_Met l Z (⟨"com/example/nuthatch/nuthatch/engine/Outcome", "status", "()Lcom/example/nuthatch/nuthatch/engine/Status;"⟩ : MethodName) prog_14_method_7_code 1 (some (.object "com/example/nuthatch/nuthatch/engine/Status")) ws ({ frames := 0, cells := 0, slots := 0, locals := 0 } : Room) #[(.ref a1)] h0 (fun v h L => v = some (.ref wS) ∧ Fr n0 L ∧ h = h0) := by
  refine own_enter (plainFor_of_name own_pn0) ?_
  intro p e s m below meth c s₁ X0 hx hZ hby hml hown hnm hret hlk e0
  have N0 := Fr.nil n0
  rw [own_rm4_ef m a1]
  show own_Fin _ _ _ _ _ _ (s₁.setTop (mkF m 0 #[.val (.ref a1)] []))
  refine own_to (fun t k => XS.aloadN X0.here hx rfl (hb hby own_d4_0) rfl rfl k) ?_
  show own_Fin _ _ _ _ _ _ (s₁.setTop (mkF m 1 #[.val (.ref a1)] [(.ref a1)]))
  obtain ⟨T15, X15, e15, st15⟩ := getF X0 hx hZ hown (host := "") (Or.inl (hw _ (List.mem_of_getElem? (i := 16) rfl))) Via.refl e0 F1 (g := (mkF m 1 #[.val (.ref a1)] [(.ref a1)])) rfl rfl (hb hby own_d4_1)
  refine own_to (fun t k => st15 t k) ?_
  show own_Fin _ _ _ _ _ _ (T15.setTop (mkF m 4 #[.val (.ref a1)] [(.ref wS)]))
  refine own_retR X15 hx hlk hret rfl rfl rfl (hb hby own_d4_4) (by decide) (by decide) ?_
  try rw [e15]
  exact ⟨rfl, N0, rfl⟩
theorem own_d5_0 : decode prog_14_method_8_code 0 = .ok (.aload_n 0, 1) := by decide +kernel
theorem own_d5_1 : decode prog_14_method_8_code 1 = .ok (.getfield 19, 3) := by decide +kernel
theorem own_d5_4 : decode prog_14_method_8_code 4 = .ok (.ifnonnull 7, 3) := by decide +kernel
theorem own_d5_7 : decode prog_14_method_8_code 7 = .ok (.aconst_null, 1) := by decide +kernel
theorem own_d5_8 : decode prog_14_method_8_code 8 = .ok (.goto 13, 3) := by decide +kernel
theorem own_d5_11 : decode prog_14_method_8_code 11 = .ok (.aload_n 0, 1) := by decide +kernel
theorem own_d5_12 : decode prog_14_method_8_code 12 = .ok (.getfield 19, 3) := by decide +kernel
theorem own_d5_15 : decode prog_14_method_8_code 15 = .ok (.invokevirtual 13, 3) := by decide +kernel
theorem own_d5_18 : decode prog_14_method_8_code 18 = .ok (.checkcast 14, 3) := by decide +kernel
theorem own_d5_21 : decode prog_14_method_8_code 21 = .ok (.areturn, 1) := by decide +kernel
theorem own_resN_ef (m : MethodId) (a1 : Addr) : entryFrame m #[(.ref a1)] 1 = mkF m 0 #[.val (.ref a1)] [] := by first | (simp [entryFrame, mkF, argsToLocals, Value.category]; done) | rfl
set_option maxRecDepth 65536 in
set_option maxHeartbeats 40000000 in
theorem own_resN (l : Launch) (Z : State) (a0 : Array Value) (hw : ∀ d ∈ tables_1, d.before a0 Z = true) (ws : List Jvm.Cond) (a1 : Addr) (h0 : Heap) (n0 : Nat) (Z0 : n0 ≤ h0.size) (F1 : Fld Z h0 a1 "com/example/nuthatch/nuthatch/engine/Outcome" "response" "[B" .null) :
    own_Met l Z (⟨"com/example/nuthatch/nuthatch/engine/Outcome", "response", "()[B"⟩ : MethodName) prog_14_method_8_code 1 (some (.array .byte)) ws ({ frames := 0, cells := 0, slots := 0, locals := 0 } : Room) #[(.ref a1)] h0 (fun v h L => v = some .null ∧ Fr n0 L ∧ h = h0) := by
  refine own_enter (plainFor_of_name own_pn0) ?_
  intro p e s m below meth c s₁ X0 hx hZ hby hml hown hnm hret hlk e0
  have N0 := Fr.nil n0
  rw [own_resN_ef m a1]
  show own_Fin _ _ _ _ _ _ (s₁.setTop (mkF m 0 #[.val (.ref a1)] []))
  refine own_to (fun t k => XS.aloadN X0.here hx rfl (hb hby own_d5_0) rfl rfl k) ?_
  show own_Fin _ _ _ _ _ _ (s₁.setTop (mkF m 1 #[.val (.ref a1)] [(.ref a1)]))
  obtain ⟨T16, X16, e16, st16⟩ := getF X0 hx hZ hown (host := "") (Or.inl (hw _ (List.mem_of_getElem? (i := 27) rfl))) Via.refl e0 F1 (g := (mkF m 1 #[.val (.ref a1)] [(.ref a1)])) rfl rfl (hb hby own_d5_1)
  refine own_to (fun t k => st16 t k) ?_
  show own_Fin _ _ _ _ _ _ (T16.setTop (mkF m 4 #[.val (.ref a1)] [.null]))
  refine own_to (fun t k => XS.ifnonnullNo X16.here hx rfl (hb hby own_d5_4) rfl k) ?_
  show own_Fin _ _ _ _ _ _ (T16.setTop (mkF m 7 #[.val (.ref a1)] []))
  refine own_to (fun t k => XS.aconstNull X16.here hx rfl (hb hby own_d5_7) k) ?_
  show own_Fin _ _ _ _ _ _ (T16.setTop (mkF m 8 #[.val (.ref a1)] [.null]))
  refine own_to (fun t k => XS.goto X16.here hx rfl (pc0 := 8) (pc' := 21) rfl (hb hby own_d5_8) (by decide) (by decide) k) ?_
  show own_Fin _ _ _ _ _ _ (T16.setTop (mkF m 21 #[.val (.ref a1)] [.null]))
  refine own_retR X16 hx hlk hret rfl rfl rfl (hb hby own_d5_21) (by decide) (by decide) ?_
  try rw [e16]
  exact ⟨rfl, N0, rfl⟩
theorem own_resA_ef (m : MethodId) (a1 : Addr) : entryFrame m #[(.ref a1)] 1 = mkF m 0 #[.val (.ref a1)] [] := by first | (simp [entryFrame, mkF, argsToLocals, Value.category]; done) | rfl
set_option maxRecDepth 65536 in
set_option maxHeartbeats 40000000 in
theorem own_resA (l : Launch) (Z : State) (a0 : Array Value) (hw : ∀ d ∈ tables_1, d.before a0 Z = true) (ws : List Jvm.Cond) (a1 : Addr) (a3 : Addr) (k : ClassId) (z : Int32) (vs : List Value) (h0 : Heap) (n0 : Nat) (Z0 : n0 ≤ h0.size) (F1 : Fld Z h0 a1 "com/example/nuthatch/nuthatch/engine/Outcome" "response" "[B" (.ref a3)) (V3 : Arv Z h0 a3 k .byte z vs (.int (0 : Int32))) (E3 : Exa Z h0 a3 "[B") (hz : z.toNatClampNeg ≤ 3) :
    own_Met l Z (⟨"com/example/nuthatch/nuthatch/engine/Outcome", "response", "()[B"⟩ : MethodName) prog_14_method_8_code 1 (some (.array .byte)) ws ({ frames := 1, cells := 1, slots := 3, locals := 16 } : Room) #[(.ref a1)] h0 (fun v h L => ∃ d, v = some (.ref d) ∧ Fr n0 L ∧ Keep h0 h [] ∧ n0 ≤ d ∧ h0.size ≤ d ∧ Arv Z h d k .byte z vs (.int (0 : Int32)) ∧ Exa Z h d "[B") := by
  refine own_enter (plainFor_of_name own_pn0) ?_
  intro p e s m below meth c s₁ X0 hx hZ hby hml hown hnm hret hlk e0
  have N0 := Fr.nil n0
  rw [own_resA_ef m a1]
  have KK0 : Keep h0 h0 [] := Keep.refl _ _
  show own_Fin _ _ _ _ _ _ (s₁.setTop (mkF m 0 #[.val (.ref a1)] []))
  refine own_to (fun t k => XS.aloadN X0.here hx rfl (hb hby own_d5_0) rfl rfl k) ?_
  show own_Fin _ _ _ _ _ _ (s₁.setTop (mkF m 1 #[.val (.ref a1)] [(.ref a1)]))
  obtain ⟨T17, X17, e17, st17⟩ := getF X0 hx hZ hown (host := "") (Or.inl (hw _ (List.mem_of_getElem? (i := 27) rfl))) Via.refl e0 F1 (g := (mkF m 1 #[.val (.ref a1)] [(.ref a1)])) rfl rfl (hb hby own_d5_1)
  refine own_to (fun t k => st17 t k) ?_
  show own_Fin _ _ _ _ _ _ (T17.setTop (mkF m 4 #[.val (.ref a1)] [(.ref a3)]))
  refine own_to (fun t k => XS.ifnonnullYes X17.here hx rfl (pc0 := 4) (pc' := 11) rfl (hb hby own_d5_4) rfl (by decide) (by decide) k) ?_
  show own_Fin _ _ _ _ _ _ (T17.setTop (mkF m 11 #[.val (.ref a1)] []))
  refine own_to (fun t k => XS.aloadN X17.here hx rfl (hb hby own_d5_11) rfl rfl k) ?_
  show own_Fin _ _ _ _ _ _ (T17.setTop (mkF m 12 #[.val (.ref a1)] [(.ref a1)]))
  obtain ⟨T18, X18, e18, st18⟩ := getF X17 hx hZ hown (host := "") (Or.inl (hw _ (List.mem_of_getElem? (i := 27) rfl))) Via.refl e17 F1 (g := (mkF m 12 #[.val (.ref a1)] [(.ref a1)])) rfl rfl (hb hby own_d5_12)
  refine own_to (fun t k => st18 t k) ?_
  show own_Fin _ _ _ _ _ _ (T18.setTop (mkF m 15 #[.val (.ref a1)] [(.ref a3)]))
  obtain ⟨T19, h19, X19, e19, E19, V19, A19x, st19⟩ := cloneH X18 hx hZ hown (hw _ (List.mem_of_getElem? (i := 18) rfl)) (hw _ (List.mem_of_getElem? (i := 19) rfl)) (hw _ (List.mem_of_getElem? (i := 23) rfl)) (hw _ (List.mem_of_getElem? (i := 21) rfl)) (hw _ (List.mem_of_getElem? (i := 22) rfl)) (hw _ (List.mem_of_getElem? (i := 24) rfl)) e18 V3.arh E3 (g := (mkF m 15 #[.val (.ref a1)] [(.ref a3)])) rfl (by rw [hml]; rfl) rfl (hb hby own_d5_15) (by decide) (W := 0) (cap := 3) (by show 2 * 0 + _ ≤ _; exact Nat.le_of_eq rfl) (by decide) hz (by decide) (by decide)
  obtain ⟨bd, q19⟩ : ∃ z, z = h0.size := ⟨_, rfl⟩
  rw [← q19] at V19 A19x st19
  have ne_a1_bd : a1 ≠ bd := Nat.ne_of_lt (Nat.lt_of_lt_of_le F1.lt (Nat.le_of_eq q19.symm))
  have ne_a3_bd : a3 ≠ bd := Nat.ne_of_lt (Nat.lt_of_lt_of_le V3.lt (Nat.le_of_eq q19.symm))
  have g_bd : n0 ≤ bd := Nat.le_trans Z0 (Nat.le_of_eq q19.symm)
  have sz_bd : h0.size ≤ bd := Nat.le_trans KK0.1 (Nat.le_of_eq q19.symm)
  have KK19 : Keep h0 h19 [] := KK0.ext E19
  have F1_e19 := F1.ext E19
  have V3_e19 := V3.ext E19
  have E3_e19 := E3.ext E19
  have V19v : Arv Z h19 bd k .byte z vs (.int (0 : Int32)) := V19
  refine own_to (fun t k => st19 t k) ?_
  show own_Fin _ _ _ _ _ _ (T19.setTop (mkF m 18 #[.val (.ref a1)] [(.ref bd)]))
  obtain ⟨T20, X20, e20, st20⟩ := castY X19 hx hZ hown (hw _ (List.mem_of_getElem? (i := 25) rfl)) e19 (Ins.self A19x) (g := (mkF m 18 #[.val (.ref a1)] [(.ref bd)])) rfl rfl (hb hby own_d5_18)
  refine own_to (fun t k => st20 t k) ?_
  show own_Fin _ _ _ _ _ _ (T20.setTop (mkF m 21 #[.val (.ref a1)] [(.ref bd)]))
  refine own_retR X20 hx hlk hret rfl rfl rfl (hb hby own_d5_21) (by decide) (by decide) ?_
  try rw [e20]
  exact ⟨bd, rfl, N0, KK19, g_bd, sz_bd, V19v, A19x⟩
theorem own_d6_0 : decode method_2_code 0 = .ok (.aload_n 0, 1) := by decide +kernel
theorem own_d6_1 : decode method_2_code 1 = .ok (.ifnonnull 5, 3) := by decide +kernel
theorem own_d6_4 : decode method_2_code 4 = .ok (.iconst 0, 1) := by decide +kernel
theorem own_d6_5 : decode method_2_code 5 = .ok (.ireturn, 1) := by decide +kernel
theorem own_d6_6 : decode method_2_code 6 = .ok (.aload_n 0, 1) := by decide +kernel
theorem own_d6_7 : decode method_2_code 7 = .ok (.arraylength, 1) := by decide +kernel
theorem own_d6_8 : decode method_2_code 8 = .ok (.iload_n 1, 1) := by decide +kernel
theorem own_d6_9 : decode method_2_code 9 = .ok (.if_icmp .eq 5, 3) := by decide +kernel
theorem own_d6_12 : decode method_2_code 12 = .ok (.iconst 0, 1) := by decide +kernel
theorem own_d6_13 : decode method_2_code 13 = .ok (.ireturn, 1) := by decide +kernel
theorem own_d6_14 : decode method_2_code 14 = .ok (.iload_n 1, 1) := by decide +kernel
theorem own_d6_15 : decode method_2_code 15 = .ok (.ifCond .le 13, 3) := by decide +kernel
theorem own_d6_18 : decode method_2_code 18 = .ok (.aload_n 0, 1) := by decide +kernel
theorem own_d6_19 : decode method_2_code 19 = .ok (.iconst 0, 1) := by decide +kernel
theorem own_d6_20 : decode method_2_code 20 = .ok (.baload, 1) := by decide +kernel
theorem own_d6_21 : decode method_2_code 21 = .ok (.iload_n 2, 1) := by decide +kernel
theorem own_d6_22 : decode method_2_code 22 = .ok (.i2b, 1) := by decide +kernel
theorem own_d6_23 : decode method_2_code 23 = .ok (.if_icmp .eq 5, 3) := by decide +kernel
theorem own_d6_26 : decode method_2_code 26 = .ok (.iconst 0, 1) := by decide +kernel
theorem own_d6_27 : decode method_2_code 27 = .ok (.ireturn, 1) := by decide +kernel
theorem own_d6_28 : decode method_2_code 28 = .ok (.iload_n 1, 1) := by decide +kernel
theorem own_d6_29 : decode method_2_code 29 = .ok (.iconst 1, 1) := by decide +kernel
theorem own_d6_30 : decode method_2_code 30 = .ok (.if_icmp .le 13, 3) := by decide +kernel
theorem own_d6_33 : decode method_2_code 33 = .ok (.aload_n 0, 1) := by decide +kernel
theorem own_d6_34 : decode method_2_code 34 = .ok (.iconst 1, 1) := by decide +kernel
theorem own_d6_35 : decode method_2_code 35 = .ok (.baload, 1) := by decide +kernel
theorem own_d6_36 : decode method_2_code 36 = .ok (.iload_n 3, 1) := by decide +kernel
theorem own_d6_37 : decode method_2_code 37 = .ok (.i2b, 1) := by decide +kernel
theorem own_d6_38 : decode method_2_code 38 = .ok (.if_icmp .eq 5, 3) := by decide +kernel
theorem own_d6_41 : decode method_2_code 41 = .ok (.iconst 0, 1) := by decide +kernel
theorem own_d6_42 : decode method_2_code 42 = .ok (.ireturn, 1) := by decide +kernel
theorem own_d6_43 : decode method_2_code 43 = .ok (.iload_n 1, 1) := by decide +kernel
theorem own_d6_44 : decode method_2_code 44 = .ok (.iconst 2, 1) := by decide +kernel
theorem own_d6_45 : decode method_2_code 45 = .ok (.if_icmp .le 14, 3) := by decide +kernel
theorem own_d6_48 : decode method_2_code 48 = .ok (.aload_n 0, 1) := by decide +kernel
theorem own_d6_49 : decode method_2_code 49 = .ok (.iconst 2, 1) := by decide +kernel
theorem own_d6_50 : decode method_2_code 50 = .ok (.baload, 1) := by decide +kernel
theorem own_d6_51 : decode method_2_code 51 = .ok (.iload 4, 2) := by decide +kernel
theorem own_d6_53 : decode method_2_code 53 = .ok (.i2b, 1) := by decide +kernel
theorem own_d6_54 : decode method_2_code 54 = .ok (.if_icmp .eq 5, 3) := by decide +kernel
theorem own_d6_57 : decode method_2_code 57 = .ok (.iconst 0, 1) := by decide +kernel
theorem own_d6_58 : decode method_2_code 58 = .ok (.ireturn, 1) := by decide +kernel
theorem own_d6_59 : decode method_2_code 59 = .ok (.iconst 1, 1) := by decide +kernel
theorem own_d6_60 : decode method_2_code 60 = .ok (.ireturn, 1) := by decide +kernel
theorem own_pn1 : plainName "com/example/nuthatch/nuthatch/engine/OutcomeExecutedPinLaw" = true := by first | (simp [plainName, overriddenIn]; done) | decide +kernel
theorem own_holds0_ef (m : MethodId) (a1 : Addr) (p2 : Int32) (p3 : Int32) (p4 : Int32) : entryFrame m #[(.ref a1), (.int (0 : Int32)), (.int p2), (.int p3), (.int p4)] 5 = mkF m 0 #[.val (.ref a1), .val (.int (0 : Int32)), .val (.int p2), .val (.int p3), .val (.int p4)] [] := by first | (simp [entryFrame, mkF, argsToLocals, Value.category]; done) | rfl
set_option maxRecDepth 65536 in
set_option maxHeartbeats 40000000 in
theorem own_holds0 (l : Launch) (Z : State) (a0 : Array Value) (hw : ∀ d ∈ tables_1, d.before a0 Z = true) (ws : List Jvm.Cond) (a1 : Addr) (p2 : Int32) (p3 : Int32) (p4 : Int32) (k : ClassId) (h0 : Heap) (n0 : Nat) (Z0 : n0 ≤ h0.size) (V3 : Arv Z h0 a1 k .byte (0 : Int32) [] (.int (0 : Int32))) :
    own_Met l Z (⟨"com/example/nuthatch/nuthatch/engine/OutcomeExecutedPinLaw", "holds", "([BIIII)Z"⟩ : MethodName) method_2_code 5 (some .boolean) ws ({ frames := 0, cells := 0, slots := 0, locals := 0 } : Room) #[(.ref a1), (.int (0 : Int32)), (.int p2), (.int p3), (.int p4)] h0 (fun v h L => v = some (.int 1) ∧ Fr n0 L ∧ h = h0) := by
  refine own_enter (plainFor_of_name own_pn1) ?_
  intro p e s m below meth c s₁ X0 hx hZ hby hml hown hnm hret hlk e0
  have N0 := Fr.nil n0
  rw [own_holds0_ef m a1 p2 p3 p4]
  show own_Fin _ _ _ _ _ _ (s₁.setTop (mkF m 0 #[.val (.ref a1), .val (.int (0 : Int32)), .val (.int p2), .val (.int p3), .val (.int p4)] []))
  refine own_to (fun t k => XS.aloadN X0.here hx rfl (hb hby own_d6_0) rfl rfl k) ?_
  show own_Fin _ _ _ _ _ _ (s₁.setTop (mkF m 1 #[.val (.ref a1), .val (.int (0 : Int32)), .val (.int p2), .val (.int p3), .val (.int p4)] [(.ref a1)]))
  refine own_to (fun t k => XS.ifnonnullYes X0.here hx rfl (pc0 := 1) (pc' := 6) rfl (hb hby own_d6_1) rfl (by decide) (by decide) k) ?_
  show own_Fin _ _ _ _ _ _ (s₁.setTop (mkF m 6 #[.val (.ref a1), .val (.int (0 : Int32)), .val (.int p2), .val (.int p3), .val (.int p4)] []))
  refine own_to (fun t k => XS.aloadN X0.here hx rfl (hb hby own_d6_6) rfl rfl k) ?_
  show own_Fin _ _ _ _ _ _ (s₁.setTop (mkF m 7 #[.val (.ref a1), .val (.int (0 : Int32)), .val (.int p2), .val (.int p3), .val (.int p4)] [(.ref a1)]))
  obtain ⟨cl21, Ar21, qa21, Sa21, Na21, Ha21, Ga21⟩ := id V3
  refine own_to (fun t k => X0.arraylength hx (by rw [e0]; exact Ar21.1) (State.isArrayOf_alike hZ.alike Ar21.2.1) (g := (mkF m 7 #[.val (.ref a1), .val (.int (0 : Int32)), .val (.int p2), .val (.int p3), .val (.int p4)] [(.ref a1)])) rfl rfl (hb hby own_d6_7) _ k) ?_
  rw [len_of Sa21 Na21]
  show own_Fin _ _ _ _ _ _ (s₁.setTop (mkF m 8 #[.val (.ref a1), .val (.int (0 : Int32)), .val (.int p2), .val (.int p3), .val (.int p4)] [(.int (0 : Int32))]))
  refine own_to (fun t k => XS.iloadN X0.here hx rfl (hb hby own_d6_8) rfl k) ?_
  show own_Fin _ _ _ _ _ _ (s₁.setTop (mkF m 9 #[.val (.ref a1), .val (.int (0 : Int32)), .val (.int p2), .val (.int p3), .val (.int p4)] [(.int (0 : Int32)), (.int (0 : Int32))]))
  refine own_to (fun t k => XS.icmpYes X0.here hx rfl (pc0 := 9) (pc' := 14) rfl (hb hby own_d6_9) rfl (teq rfl).1 (by decide) (by decide) k) ?_
  show own_Fin _ _ _ _ _ _ (s₁.setTop (mkF m 14 #[.val (.ref a1), .val (.int (0 : Int32)), .val (.int p2), .val (.int p3), .val (.int p4)] []))
  refine own_to (fun t k => XS.iloadN X0.here hx rfl (hb hby own_d6_14) rfl k) ?_
  show own_Fin _ _ _ _ _ _ (s₁.setTop (mkF m 15 #[.val (.ref a1), .val (.int (0 : Int32)), .val (.int p2), .val (.int p3), .val (.int p4)] [(.int (0 : Int32))]))
  refine own_to (fun t k => XS.ifYes X0.here hx rfl (pc0 := 15) (pc' := 28) rfl (hb hby own_d6_15) rfl ((if0 _ _).trans (flt (Int32.lt_irrefl)).2.2.2) (by decide) (by decide) k) ?_
  show own_Fin _ _ _ _ _ _ (s₁.setTop (mkF m 28 #[.val (.ref a1), .val (.int (0 : Int32)), .val (.int p2), .val (.int p3), .val (.int p4)] []))
  refine own_to (fun t k => XS.iloadN X0.here hx rfl (hb hby own_d6_28) rfl k) ?_
  show own_Fin _ _ _ _ _ _ (s₁.setTop (mkF m 29 #[.val (.ref a1), .val (.int (0 : Int32)), .val (.int p2), .val (.int p3), .val (.int p4)] [(.int (0 : Int32))]))
  refine own_to (fun t k => XS.iconst X0.here hx rfl (hb hby own_d6_29) k) ?_
  show own_Fin _ _ _ _ _ _ (s₁.setTop (mkF m 30 #[.val (.ref a1), .val (.int (0 : Int32)), .val (.int p2), .val (.int p3), .val (.int p4)] [(.int (1 : Int32)), (.int (0 : Int32))]))
  refine own_to (fun t k => XS.icmpYes X0.here hx rfl (pc0 := 30) (pc' := 43) rfl (hb hby own_d6_30) rfl (flt (by decide)).2.2.2 (by decide) (by decide) k) ?_
  show own_Fin _ _ _ _ _ _ (s₁.setTop (mkF m 43 #[.val (.ref a1), .val (.int (0 : Int32)), .val (.int p2), .val (.int p3), .val (.int p4)] []))
  refine own_to (fun t k => XS.iloadN X0.here hx rfl (hb hby own_d6_43) rfl k) ?_
  show own_Fin _ _ _ _ _ _ (s₁.setTop (mkF m 44 #[.val (.ref a1), .val (.int (0 : Int32)), .val (.int p2), .val (.int p3), .val (.int p4)] [(.int (0 : Int32))]))
  refine own_to (fun t k => XS.iconst X0.here hx rfl (hb hby own_d6_44) k) ?_
  show own_Fin _ _ _ _ _ _ (s₁.setTop (mkF m 45 #[.val (.ref a1), .val (.int (0 : Int32)), .val (.int p2), .val (.int p3), .val (.int p4)] [(.int (2 : Int32)), (.int (0 : Int32))]))
  refine own_to (fun t k => XS.icmpYes X0.here hx rfl (pc0 := 45) (pc' := 59) rfl (hb hby own_d6_45) rfl (flt (by decide)).2.2.2 (by decide) (by decide) k) ?_
  show own_Fin _ _ _ _ _ _ (s₁.setTop (mkF m 59 #[.val (.ref a1), .val (.int (0 : Int32)), .val (.int p2), .val (.int p3), .val (.int p4)] []))
  refine own_to (fun t k => XS.iconst X0.here hx rfl (hb hby own_d6_59) k) ?_
  show own_Fin _ _ _ _ _ _ (s₁.setTop (mkF m 60 #[.val (.ref a1), .val (.int (0 : Int32)), .val (.int p2), .val (.int p3), .val (.int p4)] [(.int (1 : Int32))]))
  refine own_retN X0 hx hlk (t := .boolean) hret (by simp) (hb hby own_d6_60) (by decide) (by decide) ?_
  try rw [e0]
  exact ⟨rfl, N0, rfl⟩
theorem own_holds1_ef (m : MethodId) (a1 : Addr) (p2 : Int32) (p3 : Int32) (p4 : Int32) : entryFrame m #[(.ref a1), (.int (1 : Int32)), (.int p2), (.int p3), (.int p4)] 5 = mkF m 0 #[.val (.ref a1), .val (.int (1 : Int32)), .val (.int p2), .val (.int p3), .val (.int p4)] [] := by first | (simp [entryFrame, mkF, argsToLocals, Value.category]; done) | rfl
set_option maxRecDepth 65536 in
set_option maxHeartbeats 40000000 in
theorem own_holds1 (l : Launch) (Z : State) (a0 : Array Value) (hw : ∀ d ∈ tables_1, d.before a0 Z = true) (ws : List Jvm.Cond) (a1 : Addr) (p2 : Int32) (p3 : Int32) (p4 : Int32) (k : ClassId) (h0 : Heap) (n0 : Nat) (Z0 : n0 ≤ h0.size) (V3 : Arv Z h0 a1 k .byte (1 : Int32) [(.int (p2.toInt8.toInt32))] (.int (0 : Int32))) :
    own_Met l Z (⟨"com/example/nuthatch/nuthatch/engine/OutcomeExecutedPinLaw", "holds", "([BIIII)Z"⟩ : MethodName) method_2_code 5 (some .boolean) ws ({ frames := 0, cells := 0, slots := 0, locals := 0 } : Room) #[(.ref a1), (.int (1 : Int32)), (.int p2), (.int p3), (.int p4)] h0 (fun v h L => v = some (.int 1) ∧ Fr n0 L ∧ h = h0) := by
  refine own_enter (plainFor_of_name own_pn1) ?_
  intro p e s m below meth c s₁ X0 hx hZ hby hml hown hnm hret hlk e0
  have N0 := Fr.nil n0
  rw [own_holds1_ef m a1 p2 p3 p4]
  show own_Fin _ _ _ _ _ _ (s₁.setTop (mkF m 0 #[.val (.ref a1), .val (.int (1 : Int32)), .val (.int p2), .val (.int p3), .val (.int p4)] []))
  refine own_to (fun t k => XS.aloadN X0.here hx rfl (hb hby own_d6_0) rfl rfl k) ?_
  show own_Fin _ _ _ _ _ _ (s₁.setTop (mkF m 1 #[.val (.ref a1), .val (.int (1 : Int32)), .val (.int p2), .val (.int p3), .val (.int p4)] [(.ref a1)]))
  refine own_to (fun t k => XS.ifnonnullYes X0.here hx rfl (pc0 := 1) (pc' := 6) rfl (hb hby own_d6_1) rfl (by decide) (by decide) k) ?_
  show own_Fin _ _ _ _ _ _ (s₁.setTop (mkF m 6 #[.val (.ref a1), .val (.int (1 : Int32)), .val (.int p2), .val (.int p3), .val (.int p4)] []))
  refine own_to (fun t k => XS.aloadN X0.here hx rfl (hb hby own_d6_6) rfl rfl k) ?_
  show own_Fin _ _ _ _ _ _ (s₁.setTop (mkF m 7 #[.val (.ref a1), .val (.int (1 : Int32)), .val (.int p2), .val (.int p3), .val (.int p4)] [(.ref a1)]))
  obtain ⟨cl22, Ar22, qa22, Sa22, Na22, Ha22, Ga22⟩ := id V3
  refine own_to (fun t k => X0.arraylength hx (by rw [e0]; exact Ar22.1) (State.isArrayOf_alike hZ.alike Ar22.2.1) (g := (mkF m 7 #[.val (.ref a1), .val (.int (1 : Int32)), .val (.int p2), .val (.int p3), .val (.int p4)] [(.ref a1)])) rfl rfl (hb hby own_d6_7) _ k) ?_
  rw [len_of Sa22 Na22]
  show own_Fin _ _ _ _ _ _ (s₁.setTop (mkF m 8 #[.val (.ref a1), .val (.int (1 : Int32)), .val (.int p2), .val (.int p3), .val (.int p4)] [(.int (1 : Int32))]))
  refine own_to (fun t k => XS.iloadN X0.here hx rfl (hb hby own_d6_8) rfl k) ?_
  show own_Fin _ _ _ _ _ _ (s₁.setTop (mkF m 9 #[.val (.ref a1), .val (.int (1 : Int32)), .val (.int p2), .val (.int p3), .val (.int p4)] [(.int (1 : Int32)), (.int (1 : Int32))]))
  refine own_to (fun t k => XS.icmpYes X0.here hx rfl (pc0 := 9) (pc' := 14) rfl (hb hby own_d6_9) rfl (teq rfl).1 (by decide) (by decide) k) ?_
  show own_Fin _ _ _ _ _ _ (s₁.setTop (mkF m 14 #[.val (.ref a1), .val (.int (1 : Int32)), .val (.int p2), .val (.int p3), .val (.int p4)] []))
  refine own_to (fun t k => XS.iloadN X0.here hx rfl (hb hby own_d6_14) rfl k) ?_
  show own_Fin _ _ _ _ _ _ (s₁.setTop (mkF m 15 #[.val (.ref a1), .val (.int (1 : Int32)), .val (.int p2), .val (.int p3), .val (.int p4)] [(.int (1 : Int32))]))
  refine own_to (fun t k => XS.ifNo X0.here hx rfl (hb hby own_d6_15) rfl ((if0 _ _).trans (tlt (by decide)).2.2.2) k) ?_
  show own_Fin _ _ _ _ _ _ (s₁.setTop (mkF m 18 #[.val (.ref a1), .val (.int (1 : Int32)), .val (.int p2), .val (.int p3), .val (.int p4)] []))
  refine own_to (fun t k => XS.aloadN X0.here hx rfl (hb hby own_d6_18) rfl rfl k) ?_
  show own_Fin _ _ _ _ _ _ (s₁.setTop (mkF m 19 #[.val (.ref a1), .val (.int (1 : Int32)), .val (.int p2), .val (.int p3), .val (.int p4)] [(.ref a1)]))
  refine own_to (fun t k => XS.iconst X0.here hx rfl (hb hby own_d6_19) k) ?_
  show own_Fin _ _ _ _ _ _ (s₁.setTop (mkF m 20 #[.val (.ref a1), .val (.int (1 : Int32)), .val (.int p2), .val (.int p3), .val (.int p4)] [(.int (0 : Int32)), (.ref a1)]))
  obtain ⟨cl23, Ar23, qa23, Sa23, Na23, Ha23, Ga23⟩ := id V3
  have hin24 : ¬ ((0 : Int32) < 0 ∨ cl23.slots.size ≤ ((0 : Int32)).toNatClampNeg) := inb_of Sa23 ⟨by decide, by decide⟩
  refine own_to (fun t k => X0.baloadBytes hx (j := (0 : Int32)) (v := (.int (p2.toInt8.toInt32))) (by rw [e0]; exact Ar23.1) (State.isArrayOf_alike hZ.alike Ar23.2.1) Ar23.2.2 hin24 (Has.at Ha23 hin24 rfl) (g := (mkF m 20 #[.val (.ref a1), .val (.int (1 : Int32)), .val (.int p2), .val (.int p3), .val (.int p4)] [(.int (0 : Int32)), (.ref a1)])) rfl rfl (hb hby own_d6_20) _ k) ?_
  show own_Fin _ _ _ _ _ _ (s₁.setTop (mkF m 21 #[.val (.ref a1), .val (.int (1 : Int32)), .val (.int p2), .val (.int p3), .val (.int p4)] [(.int (p2.toInt8.toInt32))]))
  refine own_to (fun t k => XS.iloadN X0.here hx rfl (hb hby own_d6_21) rfl k) ?_
  show own_Fin _ _ _ _ _ _ (s₁.setTop (mkF m 22 #[.val (.ref a1), .val (.int (1 : Int32)), .val (.int p2), .val (.int p3), .val (.int p4)] [(.int p2), (.int (p2.toInt8.toInt32))]))
  refine own_to (fun t k => XS.i2b X0.here hx rfl (hb hby own_d6_22) rfl k) ?_
  show own_Fin _ _ _ _ _ _ (s₁.setTop (mkF m 23 #[.val (.ref a1), .val (.int (1 : Int32)), .val (.int p2), .val (.int p3), .val (.int p4)] [(.int (p2.toInt8.toInt32)), (.int (p2.toInt8.toInt32))]))
  refine own_to (fun t k => XS.icmpYes X0.here hx rfl (pc0 := 23) (pc' := 28) rfl (hb hby own_d6_23) rfl (teq rfl).1 (by decide) (by decide) k) ?_
  show own_Fin _ _ _ _ _ _ (s₁.setTop (mkF m 28 #[.val (.ref a1), .val (.int (1 : Int32)), .val (.int p2), .val (.int p3), .val (.int p4)] []))
  refine own_to (fun t k => XS.iloadN X0.here hx rfl (hb hby own_d6_28) rfl k) ?_
  show own_Fin _ _ _ _ _ _ (s₁.setTop (mkF m 29 #[.val (.ref a1), .val (.int (1 : Int32)), .val (.int p2), .val (.int p3), .val (.int p4)] [(.int (1 : Int32))]))
  refine own_to (fun t k => XS.iconst X0.here hx rfl (hb hby own_d6_29) k) ?_
  show own_Fin _ _ _ _ _ _ (s₁.setTop (mkF m 30 #[.val (.ref a1), .val (.int (1 : Int32)), .val (.int p2), .val (.int p3), .val (.int p4)] [(.int (1 : Int32)), (.int (1 : Int32))]))
  refine own_to (fun t k => XS.icmpYes X0.here hx rfl (pc0 := 30) (pc' := 43) rfl (hb hby own_d6_30) rfl (flt (Int32.lt_irrefl)).2.2.2 (by decide) (by decide) k) ?_
  show own_Fin _ _ _ _ _ _ (s₁.setTop (mkF m 43 #[.val (.ref a1), .val (.int (1 : Int32)), .val (.int p2), .val (.int p3), .val (.int p4)] []))
  refine own_to (fun t k => XS.iloadN X0.here hx rfl (hb hby own_d6_43) rfl k) ?_
  show own_Fin _ _ _ _ _ _ (s₁.setTop (mkF m 44 #[.val (.ref a1), .val (.int (1 : Int32)), .val (.int p2), .val (.int p3), .val (.int p4)] [(.int (1 : Int32))]))
  refine own_to (fun t k => XS.iconst X0.here hx rfl (hb hby own_d6_44) k) ?_
  show own_Fin _ _ _ _ _ _ (s₁.setTop (mkF m 45 #[.val (.ref a1), .val (.int (1 : Int32)), .val (.int p2), .val (.int p3), .val (.int p4)] [(.int (2 : Int32)), (.int (1 : Int32))]))
  refine own_to (fun t k => XS.icmpYes X0.here hx rfl (pc0 := 45) (pc' := 59) rfl (hb hby own_d6_45) rfl (flt (by decide)).2.2.2 (by decide) (by decide) k) ?_
  show own_Fin _ _ _ _ _ _ (s₁.setTop (mkF m 59 #[.val (.ref a1), .val (.int (1 : Int32)), .val (.int p2), .val (.int p3), .val (.int p4)] []))
  refine own_to (fun t k => XS.iconst X0.here hx rfl (hb hby own_d6_59) k) ?_
  show own_Fin _ _ _ _ _ _ (s₁.setTop (mkF m 60 #[.val (.ref a1), .val (.int (1 : Int32)), .val (.int p2), .val (.int p3), .val (.int p4)] [(.int (1 : Int32))]))
  refine own_retN X0 hx hlk (t := .boolean) hret (by simp) (hb hby own_d6_60) (by decide) (by decide) ?_
  try rw [e0]
  exact ⟨rfl, N0, rfl⟩
theorem own_holds2_ef (m : MethodId) (a1 : Addr) (p2 : Int32) (p3 : Int32) (p4 : Int32) : entryFrame m #[(.ref a1), (.int (2 : Int32)), (.int p2), (.int p3), (.int p4)] 5 = mkF m 0 #[.val (.ref a1), .val (.int (2 : Int32)), .val (.int p2), .val (.int p3), .val (.int p4)] [] := by first | (simp [entryFrame, mkF, argsToLocals, Value.category]; done) | rfl
set_option maxRecDepth 65536 in
set_option maxHeartbeats 40000000 in
theorem own_holds2 (l : Launch) (Z : State) (a0 : Array Value) (hw : ∀ d ∈ tables_1, d.before a0 Z = true) (ws : List Jvm.Cond) (a1 : Addr) (p2 : Int32) (p3 : Int32) (p4 : Int32) (k : ClassId) (h0 : Heap) (n0 : Nat) (Z0 : n0 ≤ h0.size) (V3 : Arv Z h0 a1 k .byte (2 : Int32) [(.int (p2.toInt8.toInt32)), (.int (p3.toInt8.toInt32))] (.int (0 : Int32))) :
    own_Met l Z (⟨"com/example/nuthatch/nuthatch/engine/OutcomeExecutedPinLaw", "holds", "([BIIII)Z"⟩ : MethodName) method_2_code 5 (some .boolean) ws ({ frames := 0, cells := 0, slots := 0, locals := 0 } : Room) #[(.ref a1), (.int (2 : Int32)), (.int p2), (.int p3), (.int p4)] h0 (fun v h L => v = some (.int 1) ∧ Fr n0 L ∧ h = h0) := by
  refine own_enter (plainFor_of_name own_pn1) ?_
  intro p e s m below meth c s₁ X0 hx hZ hby hml hown hnm hret hlk e0
  have N0 := Fr.nil n0
  rw [own_holds2_ef m a1 p2 p3 p4]
  show own_Fin _ _ _ _ _ _ (s₁.setTop (mkF m 0 #[.val (.ref a1), .val (.int (2 : Int32)), .val (.int p2), .val (.int p3), .val (.int p4)] []))
  refine own_to (fun t k => XS.aloadN X0.here hx rfl (hb hby own_d6_0) rfl rfl k) ?_
  show own_Fin _ _ _ _ _ _ (s₁.setTop (mkF m 1 #[.val (.ref a1), .val (.int (2 : Int32)), .val (.int p2), .val (.int p3), .val (.int p4)] [(.ref a1)]))
  refine own_to (fun t k => XS.ifnonnullYes X0.here hx rfl (pc0 := 1) (pc' := 6) rfl (hb hby own_d6_1) rfl (by decide) (by decide) k) ?_
  show own_Fin _ _ _ _ _ _ (s₁.setTop (mkF m 6 #[.val (.ref a1), .val (.int (2 : Int32)), .val (.int p2), .val (.int p3), .val (.int p4)] []))
  refine own_to (fun t k => XS.aloadN X0.here hx rfl (hb hby own_d6_6) rfl rfl k) ?_
  show own_Fin _ _ _ _ _ _ (s₁.setTop (mkF m 7 #[.val (.ref a1), .val (.int (2 : Int32)), .val (.int p2), .val (.int p3), .val (.int p4)] [(.ref a1)]))
  obtain ⟨cl25, Ar25, qa25, Sa25, Na25, Ha25, Ga25⟩ := id V3
  refine own_to (fun t k => X0.arraylength hx (by rw [e0]; exact Ar25.1) (State.isArrayOf_alike hZ.alike Ar25.2.1) (g := (mkF m 7 #[.val (.ref a1), .val (.int (2 : Int32)), .val (.int p2), .val (.int p3), .val (.int p4)] [(.ref a1)])) rfl rfl (hb hby own_d6_7) _ k) ?_
  rw [len_of Sa25 Na25]
  show own_Fin _ _ _ _ _ _ (s₁.setTop (mkF m 8 #[.val (.ref a1), .val (.int (2 : Int32)), .val (.int p2), .val (.int p3), .val (.int p4)] [(.int (2 : Int32))]))
  refine own_to (fun t k => XS.iloadN X0.here hx rfl (hb hby own_d6_8) rfl k) ?_
  show own_Fin _ _ _ _ _ _ (s₁.setTop (mkF m 9 #[.val (.ref a1), .val (.int (2 : Int32)), .val (.int p2), .val (.int p3), .val (.int p4)] [(.int (2 : Int32)), (.int (2 : Int32))]))
  refine own_to (fun t k => XS.icmpYes X0.here hx rfl (pc0 := 9) (pc' := 14) rfl (hb hby own_d6_9) rfl (teq rfl).1 (by decide) (by decide) k) ?_
  show own_Fin _ _ _ _ _ _ (s₁.setTop (mkF m 14 #[.val (.ref a1), .val (.int (2 : Int32)), .val (.int p2), .val (.int p3), .val (.int p4)] []))
  refine own_to (fun t k => XS.iloadN X0.here hx rfl (hb hby own_d6_14) rfl k) ?_
  show own_Fin _ _ _ _ _ _ (s₁.setTop (mkF m 15 #[.val (.ref a1), .val (.int (2 : Int32)), .val (.int p2), .val (.int p3), .val (.int p4)] [(.int (2 : Int32))]))
  refine own_to (fun t k => XS.ifNo X0.here hx rfl (hb hby own_d6_15) rfl ((if0 _ _).trans (tlt (by decide)).2.2.2) k) ?_
  show own_Fin _ _ _ _ _ _ (s₁.setTop (mkF m 18 #[.val (.ref a1), .val (.int (2 : Int32)), .val (.int p2), .val (.int p3), .val (.int p4)] []))
  refine own_to (fun t k => XS.aloadN X0.here hx rfl (hb hby own_d6_18) rfl rfl k) ?_
  show own_Fin _ _ _ _ _ _ (s₁.setTop (mkF m 19 #[.val (.ref a1), .val (.int (2 : Int32)), .val (.int p2), .val (.int p3), .val (.int p4)] [(.ref a1)]))
  refine own_to (fun t k => XS.iconst X0.here hx rfl (hb hby own_d6_19) k) ?_
  show own_Fin _ _ _ _ _ _ (s₁.setTop (mkF m 20 #[.val (.ref a1), .val (.int (2 : Int32)), .val (.int p2), .val (.int p3), .val (.int p4)] [(.int (0 : Int32)), (.ref a1)]))
  obtain ⟨cl26, Ar26, qa26, Sa26, Na26, Ha26, Ga26⟩ := id V3
  have hin27 : ¬ ((0 : Int32) < 0 ∨ cl26.slots.size ≤ ((0 : Int32)).toNatClampNeg) := inb_of Sa26 ⟨by decide, by decide⟩
  refine own_to (fun t k => X0.baloadBytes hx (j := (0 : Int32)) (v := (.int (p2.toInt8.toInt32))) (by rw [e0]; exact Ar26.1) (State.isArrayOf_alike hZ.alike Ar26.2.1) Ar26.2.2 hin27 (Has.at Ha26 hin27 rfl) (g := (mkF m 20 #[.val (.ref a1), .val (.int (2 : Int32)), .val (.int p2), .val (.int p3), .val (.int p4)] [(.int (0 : Int32)), (.ref a1)])) rfl rfl (hb hby own_d6_20) _ k) ?_
  show own_Fin _ _ _ _ _ _ (s₁.setTop (mkF m 21 #[.val (.ref a1), .val (.int (2 : Int32)), .val (.int p2), .val (.int p3), .val (.int p4)] [(.int (p2.toInt8.toInt32))]))
  refine own_to (fun t k => XS.iloadN X0.here hx rfl (hb hby own_d6_21) rfl k) ?_
  show own_Fin _ _ _ _ _ _ (s₁.setTop (mkF m 22 #[.val (.ref a1), .val (.int (2 : Int32)), .val (.int p2), .val (.int p3), .val (.int p4)] [(.int p2), (.int (p2.toInt8.toInt32))]))
  refine own_to (fun t k => XS.i2b X0.here hx rfl (hb hby own_d6_22) rfl k) ?_
  show own_Fin _ _ _ _ _ _ (s₁.setTop (mkF m 23 #[.val (.ref a1), .val (.int (2 : Int32)), .val (.int p2), .val (.int p3), .val (.int p4)] [(.int (p2.toInt8.toInt32)), (.int (p2.toInt8.toInt32))]))
  refine own_to (fun t k => XS.icmpYes X0.here hx rfl (pc0 := 23) (pc' := 28) rfl (hb hby own_d6_23) rfl (teq rfl).1 (by decide) (by decide) k) ?_
  show own_Fin _ _ _ _ _ _ (s₁.setTop (mkF m 28 #[.val (.ref a1), .val (.int (2 : Int32)), .val (.int p2), .val (.int p3), .val (.int p4)] []))
  refine own_to (fun t k => XS.iloadN X0.here hx rfl (hb hby own_d6_28) rfl k) ?_
  show own_Fin _ _ _ _ _ _ (s₁.setTop (mkF m 29 #[.val (.ref a1), .val (.int (2 : Int32)), .val (.int p2), .val (.int p3), .val (.int p4)] [(.int (2 : Int32))]))
  refine own_to (fun t k => XS.iconst X0.here hx rfl (hb hby own_d6_29) k) ?_
  show own_Fin _ _ _ _ _ _ (s₁.setTop (mkF m 30 #[.val (.ref a1), .val (.int (2 : Int32)), .val (.int p2), .val (.int p3), .val (.int p4)] [(.int (1 : Int32)), (.int (2 : Int32))]))
  refine own_to (fun t k => XS.icmpNo X0.here hx rfl (hb hby own_d6_30) rfl (tlt (by decide)).2.2.2 k) ?_
  show own_Fin _ _ _ _ _ _ (s₁.setTop (mkF m 33 #[.val (.ref a1), .val (.int (2 : Int32)), .val (.int p2), .val (.int p3), .val (.int p4)] []))
  refine own_to (fun t k => XS.aloadN X0.here hx rfl (hb hby own_d6_33) rfl rfl k) ?_
  show own_Fin _ _ _ _ _ _ (s₁.setTop (mkF m 34 #[.val (.ref a1), .val (.int (2 : Int32)), .val (.int p2), .val (.int p3), .val (.int p4)] [(.ref a1)]))
  refine own_to (fun t k => XS.iconst X0.here hx rfl (hb hby own_d6_34) k) ?_
  show own_Fin _ _ _ _ _ _ (s₁.setTop (mkF m 35 #[.val (.ref a1), .val (.int (2 : Int32)), .val (.int p2), .val (.int p3), .val (.int p4)] [(.int (1 : Int32)), (.ref a1)]))
  obtain ⟨cl28, Ar28, qa28, Sa28, Na28, Ha28, Ga28⟩ := id V3
  have hin29 : ¬ ((1 : Int32) < 0 ∨ cl28.slots.size ≤ ((1 : Int32)).toNatClampNeg) := inb_of Sa28 ⟨by decide, by decide⟩
  refine own_to (fun t k => X0.baloadBytes hx (j := (1 : Int32)) (v := (.int (p3.toInt8.toInt32))) (by rw [e0]; exact Ar28.1) (State.isArrayOf_alike hZ.alike Ar28.2.1) Ar28.2.2 hin29 (Has.at Ha28 hin29 rfl) (g := (mkF m 35 #[.val (.ref a1), .val (.int (2 : Int32)), .val (.int p2), .val (.int p3), .val (.int p4)] [(.int (1 : Int32)), (.ref a1)])) rfl rfl (hb hby own_d6_35) _ k) ?_
  show own_Fin _ _ _ _ _ _ (s₁.setTop (mkF m 36 #[.val (.ref a1), .val (.int (2 : Int32)), .val (.int p2), .val (.int p3), .val (.int p4)] [(.int (p3.toInt8.toInt32))]))
  refine own_to (fun t k => XS.iloadN X0.here hx rfl (hb hby own_d6_36) rfl k) ?_
  show own_Fin _ _ _ _ _ _ (s₁.setTop (mkF m 37 #[.val (.ref a1), .val (.int (2 : Int32)), .val (.int p2), .val (.int p3), .val (.int p4)] [(.int p3), (.int (p3.toInt8.toInt32))]))
  refine own_to (fun t k => XS.i2b X0.here hx rfl (hb hby own_d6_37) rfl k) ?_
  show own_Fin _ _ _ _ _ _ (s₁.setTop (mkF m 38 #[.val (.ref a1), .val (.int (2 : Int32)), .val (.int p2), .val (.int p3), .val (.int p4)] [(.int (p3.toInt8.toInt32)), (.int (p3.toInt8.toInt32))]))
  refine own_to (fun t k => XS.icmpYes X0.here hx rfl (pc0 := 38) (pc' := 43) rfl (hb hby own_d6_38) rfl (teq rfl).1 (by decide) (by decide) k) ?_
  show own_Fin _ _ _ _ _ _ (s₁.setTop (mkF m 43 #[.val (.ref a1), .val (.int (2 : Int32)), .val (.int p2), .val (.int p3), .val (.int p4)] []))
  refine own_to (fun t k => XS.iloadN X0.here hx rfl (hb hby own_d6_43) rfl k) ?_
  show own_Fin _ _ _ _ _ _ (s₁.setTop (mkF m 44 #[.val (.ref a1), .val (.int (2 : Int32)), .val (.int p2), .val (.int p3), .val (.int p4)] [(.int (2 : Int32))]))
  refine own_to (fun t k => XS.iconst X0.here hx rfl (hb hby own_d6_44) k) ?_
  show own_Fin _ _ _ _ _ _ (s₁.setTop (mkF m 45 #[.val (.ref a1), .val (.int (2 : Int32)), .val (.int p2), .val (.int p3), .val (.int p4)] [(.int (2 : Int32)), (.int (2 : Int32))]))
  refine own_to (fun t k => XS.icmpYes X0.here hx rfl (pc0 := 45) (pc' := 59) rfl (hb hby own_d6_45) rfl (flt (Int32.lt_irrefl)).2.2.2 (by decide) (by decide) k) ?_
  show own_Fin _ _ _ _ _ _ (s₁.setTop (mkF m 59 #[.val (.ref a1), .val (.int (2 : Int32)), .val (.int p2), .val (.int p3), .val (.int p4)] []))
  refine own_to (fun t k => XS.iconst X0.here hx rfl (hb hby own_d6_59) k) ?_
  show own_Fin _ _ _ _ _ _ (s₁.setTop (mkF m 60 #[.val (.ref a1), .val (.int (2 : Int32)), .val (.int p2), .val (.int p3), .val (.int p4)] [(.int (1 : Int32))]))
  refine own_retN X0 hx hlk (t := .boolean) hret (by simp) (hb hby own_d6_60) (by decide) (by decide) ?_
  try rw [e0]
  exact ⟨rfl, N0, rfl⟩
theorem own_holds3_ef (m : MethodId) (a1 : Addr) (p2 : Int32) (p3 : Int32) (p4 : Int32) : entryFrame m #[(.ref a1), (.int (3 : Int32)), (.int p2), (.int p3), (.int p4)] 5 = mkF m 0 #[.val (.ref a1), .val (.int (3 : Int32)), .val (.int p2), .val (.int p3), .val (.int p4)] [] := by first | (simp [entryFrame, mkF, argsToLocals, Value.category]; done) | rfl
set_option maxRecDepth 65536 in
set_option maxHeartbeats 40000000 in
theorem own_holds3 (l : Launch) (Z : State) (a0 : Array Value) (hw : ∀ d ∈ tables_1, d.before a0 Z = true) (ws : List Jvm.Cond) (a1 : Addr) (p2 : Int32) (p3 : Int32) (p4 : Int32) (k : ClassId) (h0 : Heap) (n0 : Nat) (Z0 : n0 ≤ h0.size) (V3 : Arv Z h0 a1 k .byte (3 : Int32) [(.int (p2.toInt8.toInt32)), (.int (p3.toInt8.toInt32)), (.int (p4.toInt8.toInt32))] (.int (0 : Int32))) :
    own_Met l Z (⟨"com/example/nuthatch/nuthatch/engine/OutcomeExecutedPinLaw", "holds", "([BIIII)Z"⟩ : MethodName) method_2_code 5 (some .boolean) ws ({ frames := 0, cells := 0, slots := 0, locals := 0 } : Room) #[(.ref a1), (.int (3 : Int32)), (.int p2), (.int p3), (.int p4)] h0 (fun v h L => v = some (.int 1) ∧ Fr n0 L ∧ h = h0) := by
  refine own_enter (plainFor_of_name own_pn1) ?_
  intro p e s m below meth c s₁ X0 hx hZ hby hml hown hnm hret hlk e0
  have N0 := Fr.nil n0
  rw [own_holds3_ef m a1 p2 p3 p4]
  show own_Fin _ _ _ _ _ _ (s₁.setTop (mkF m 0 #[.val (.ref a1), .val (.int (3 : Int32)), .val (.int p2), .val (.int p3), .val (.int p4)] []))
  refine own_to (fun t k => XS.aloadN X0.here hx rfl (hb hby own_d6_0) rfl rfl k) ?_
  show own_Fin _ _ _ _ _ _ (s₁.setTop (mkF m 1 #[.val (.ref a1), .val (.int (3 : Int32)), .val (.int p2), .val (.int p3), .val (.int p4)] [(.ref a1)]))
  refine own_to (fun t k => XS.ifnonnullYes X0.here hx rfl (pc0 := 1) (pc' := 6) rfl (hb hby own_d6_1) rfl (by decide) (by decide) k) ?_
  show own_Fin _ _ _ _ _ _ (s₁.setTop (mkF m 6 #[.val (.ref a1), .val (.int (3 : Int32)), .val (.int p2), .val (.int p3), .val (.int p4)] []))
  refine own_to (fun t k => XS.aloadN X0.here hx rfl (hb hby own_d6_6) rfl rfl k) ?_
  show own_Fin _ _ _ _ _ _ (s₁.setTop (mkF m 7 #[.val (.ref a1), .val (.int (3 : Int32)), .val (.int p2), .val (.int p3), .val (.int p4)] [(.ref a1)]))
  obtain ⟨cl30, Ar30, qa30, Sa30, Na30, Ha30, Ga30⟩ := id V3
  refine own_to (fun t k => X0.arraylength hx (by rw [e0]; exact Ar30.1) (State.isArrayOf_alike hZ.alike Ar30.2.1) (g := (mkF m 7 #[.val (.ref a1), .val (.int (3 : Int32)), .val (.int p2), .val (.int p3), .val (.int p4)] [(.ref a1)])) rfl rfl (hb hby own_d6_7) _ k) ?_
  rw [len_of Sa30 Na30]
  show own_Fin _ _ _ _ _ _ (s₁.setTop (mkF m 8 #[.val (.ref a1), .val (.int (3 : Int32)), .val (.int p2), .val (.int p3), .val (.int p4)] [(.int (3 : Int32))]))
  refine own_to (fun t k => XS.iloadN X0.here hx rfl (hb hby own_d6_8) rfl k) ?_
  show own_Fin _ _ _ _ _ _ (s₁.setTop (mkF m 9 #[.val (.ref a1), .val (.int (3 : Int32)), .val (.int p2), .val (.int p3), .val (.int p4)] [(.int (3 : Int32)), (.int (3 : Int32))]))
  refine own_to (fun t k => XS.icmpYes X0.here hx rfl (pc0 := 9) (pc' := 14) rfl (hb hby own_d6_9) rfl (teq rfl).1 (by decide) (by decide) k) ?_
  show own_Fin _ _ _ _ _ _ (s₁.setTop (mkF m 14 #[.val (.ref a1), .val (.int (3 : Int32)), .val (.int p2), .val (.int p3), .val (.int p4)] []))
  refine own_to (fun t k => XS.iloadN X0.here hx rfl (hb hby own_d6_14) rfl k) ?_
  show own_Fin _ _ _ _ _ _ (s₁.setTop (mkF m 15 #[.val (.ref a1), .val (.int (3 : Int32)), .val (.int p2), .val (.int p3), .val (.int p4)] [(.int (3 : Int32))]))
  refine own_to (fun t k => XS.ifNo X0.here hx rfl (hb hby own_d6_15) rfl ((if0 _ _).trans (tlt (by decide)).2.2.2) k) ?_
  show own_Fin _ _ _ _ _ _ (s₁.setTop (mkF m 18 #[.val (.ref a1), .val (.int (3 : Int32)), .val (.int p2), .val (.int p3), .val (.int p4)] []))
  refine own_to (fun t k => XS.aloadN X0.here hx rfl (hb hby own_d6_18) rfl rfl k) ?_
  show own_Fin _ _ _ _ _ _ (s₁.setTop (mkF m 19 #[.val (.ref a1), .val (.int (3 : Int32)), .val (.int p2), .val (.int p3), .val (.int p4)] [(.ref a1)]))
  refine own_to (fun t k => XS.iconst X0.here hx rfl (hb hby own_d6_19) k) ?_
  show own_Fin _ _ _ _ _ _ (s₁.setTop (mkF m 20 #[.val (.ref a1), .val (.int (3 : Int32)), .val (.int p2), .val (.int p3), .val (.int p4)] [(.int (0 : Int32)), (.ref a1)]))
  obtain ⟨cl31, Ar31, qa31, Sa31, Na31, Ha31, Ga31⟩ := id V3
  have hin32 : ¬ ((0 : Int32) < 0 ∨ cl31.slots.size ≤ ((0 : Int32)).toNatClampNeg) := inb_of Sa31 ⟨by decide, by decide⟩
  refine own_to (fun t k => X0.baloadBytes hx (j := (0 : Int32)) (v := (.int (p2.toInt8.toInt32))) (by rw [e0]; exact Ar31.1) (State.isArrayOf_alike hZ.alike Ar31.2.1) Ar31.2.2 hin32 (Has.at Ha31 hin32 rfl) (g := (mkF m 20 #[.val (.ref a1), .val (.int (3 : Int32)), .val (.int p2), .val (.int p3), .val (.int p4)] [(.int (0 : Int32)), (.ref a1)])) rfl rfl (hb hby own_d6_20) _ k) ?_
  show own_Fin _ _ _ _ _ _ (s₁.setTop (mkF m 21 #[.val (.ref a1), .val (.int (3 : Int32)), .val (.int p2), .val (.int p3), .val (.int p4)] [(.int (p2.toInt8.toInt32))]))
  refine own_to (fun t k => XS.iloadN X0.here hx rfl (hb hby own_d6_21) rfl k) ?_
  show own_Fin _ _ _ _ _ _ (s₁.setTop (mkF m 22 #[.val (.ref a1), .val (.int (3 : Int32)), .val (.int p2), .val (.int p3), .val (.int p4)] [(.int p2), (.int (p2.toInt8.toInt32))]))
  refine own_to (fun t k => XS.i2b X0.here hx rfl (hb hby own_d6_22) rfl k) ?_
  show own_Fin _ _ _ _ _ _ (s₁.setTop (mkF m 23 #[.val (.ref a1), .val (.int (3 : Int32)), .val (.int p2), .val (.int p3), .val (.int p4)] [(.int (p2.toInt8.toInt32)), (.int (p2.toInt8.toInt32))]))
  refine own_to (fun t k => XS.icmpYes X0.here hx rfl (pc0 := 23) (pc' := 28) rfl (hb hby own_d6_23) rfl (teq rfl).1 (by decide) (by decide) k) ?_
  show own_Fin _ _ _ _ _ _ (s₁.setTop (mkF m 28 #[.val (.ref a1), .val (.int (3 : Int32)), .val (.int p2), .val (.int p3), .val (.int p4)] []))
  refine own_to (fun t k => XS.iloadN X0.here hx rfl (hb hby own_d6_28) rfl k) ?_
  show own_Fin _ _ _ _ _ _ (s₁.setTop (mkF m 29 #[.val (.ref a1), .val (.int (3 : Int32)), .val (.int p2), .val (.int p3), .val (.int p4)] [(.int (3 : Int32))]))
  refine own_to (fun t k => XS.iconst X0.here hx rfl (hb hby own_d6_29) k) ?_
  show own_Fin _ _ _ _ _ _ (s₁.setTop (mkF m 30 #[.val (.ref a1), .val (.int (3 : Int32)), .val (.int p2), .val (.int p3), .val (.int p4)] [(.int (1 : Int32)), (.int (3 : Int32))]))
  refine own_to (fun t k => XS.icmpNo X0.here hx rfl (hb hby own_d6_30) rfl (tlt (by decide)).2.2.2 k) ?_
  show own_Fin _ _ _ _ _ _ (s₁.setTop (mkF m 33 #[.val (.ref a1), .val (.int (3 : Int32)), .val (.int p2), .val (.int p3), .val (.int p4)] []))
  refine own_to (fun t k => XS.aloadN X0.here hx rfl (hb hby own_d6_33) rfl rfl k) ?_
  show own_Fin _ _ _ _ _ _ (s₁.setTop (mkF m 34 #[.val (.ref a1), .val (.int (3 : Int32)), .val (.int p2), .val (.int p3), .val (.int p4)] [(.ref a1)]))
  refine own_to (fun t k => XS.iconst X0.here hx rfl (hb hby own_d6_34) k) ?_
  show own_Fin _ _ _ _ _ _ (s₁.setTop (mkF m 35 #[.val (.ref a1), .val (.int (3 : Int32)), .val (.int p2), .val (.int p3), .val (.int p4)] [(.int (1 : Int32)), (.ref a1)]))
  obtain ⟨cl33, Ar33, qa33, Sa33, Na33, Ha33, Ga33⟩ := id V3
  have hin34 : ¬ ((1 : Int32) < 0 ∨ cl33.slots.size ≤ ((1 : Int32)).toNatClampNeg) := inb_of Sa33 ⟨by decide, by decide⟩
  refine own_to (fun t k => X0.baloadBytes hx (j := (1 : Int32)) (v := (.int (p3.toInt8.toInt32))) (by rw [e0]; exact Ar33.1) (State.isArrayOf_alike hZ.alike Ar33.2.1) Ar33.2.2 hin34 (Has.at Ha33 hin34 rfl) (g := (mkF m 35 #[.val (.ref a1), .val (.int (3 : Int32)), .val (.int p2), .val (.int p3), .val (.int p4)] [(.int (1 : Int32)), (.ref a1)])) rfl rfl (hb hby own_d6_35) _ k) ?_
  show own_Fin _ _ _ _ _ _ (s₁.setTop (mkF m 36 #[.val (.ref a1), .val (.int (3 : Int32)), .val (.int p2), .val (.int p3), .val (.int p4)] [(.int (p3.toInt8.toInt32))]))
  refine own_to (fun t k => XS.iloadN X0.here hx rfl (hb hby own_d6_36) rfl k) ?_
  show own_Fin _ _ _ _ _ _ (s₁.setTop (mkF m 37 #[.val (.ref a1), .val (.int (3 : Int32)), .val (.int p2), .val (.int p3), .val (.int p4)] [(.int p3), (.int (p3.toInt8.toInt32))]))
  refine own_to (fun t k => XS.i2b X0.here hx rfl (hb hby own_d6_37) rfl k) ?_
  show own_Fin _ _ _ _ _ _ (s₁.setTop (mkF m 38 #[.val (.ref a1), .val (.int (3 : Int32)), .val (.int p2), .val (.int p3), .val (.int p4)] [(.int (p3.toInt8.toInt32)), (.int (p3.toInt8.toInt32))]))
  refine own_to (fun t k => XS.icmpYes X0.here hx rfl (pc0 := 38) (pc' := 43) rfl (hb hby own_d6_38) rfl (teq rfl).1 (by decide) (by decide) k) ?_
  show own_Fin _ _ _ _ _ _ (s₁.setTop (mkF m 43 #[.val (.ref a1), .val (.int (3 : Int32)), .val (.int p2), .val (.int p3), .val (.int p4)] []))
  refine own_to (fun t k => XS.iloadN X0.here hx rfl (hb hby own_d6_43) rfl k) ?_
  show own_Fin _ _ _ _ _ _ (s₁.setTop (mkF m 44 #[.val (.ref a1), .val (.int (3 : Int32)), .val (.int p2), .val (.int p3), .val (.int p4)] [(.int (3 : Int32))]))
  refine own_to (fun t k => XS.iconst X0.here hx rfl (hb hby own_d6_44) k) ?_
  show own_Fin _ _ _ _ _ _ (s₁.setTop (mkF m 45 #[.val (.ref a1), .val (.int (3 : Int32)), .val (.int p2), .val (.int p3), .val (.int p4)] [(.int (2 : Int32)), (.int (3 : Int32))]))
  refine own_to (fun t k => XS.icmpNo X0.here hx rfl (hb hby own_d6_45) rfl (tlt (by decide)).2.2.2 k) ?_
  show own_Fin _ _ _ _ _ _ (s₁.setTop (mkF m 48 #[.val (.ref a1), .val (.int (3 : Int32)), .val (.int p2), .val (.int p3), .val (.int p4)] []))
  refine own_to (fun t k => XS.aloadN X0.here hx rfl (hb hby own_d6_48) rfl rfl k) ?_
  show own_Fin _ _ _ _ _ _ (s₁.setTop (mkF m 49 #[.val (.ref a1), .val (.int (3 : Int32)), .val (.int p2), .val (.int p3), .val (.int p4)] [(.ref a1)]))
  refine own_to (fun t k => XS.iconst X0.here hx rfl (hb hby own_d6_49) k) ?_
  show own_Fin _ _ _ _ _ _ (s₁.setTop (mkF m 50 #[.val (.ref a1), .val (.int (3 : Int32)), .val (.int p2), .val (.int p3), .val (.int p4)] [(.int (2 : Int32)), (.ref a1)]))
  obtain ⟨cl35, Ar35, qa35, Sa35, Na35, Ha35, Ga35⟩ := id V3
  have hin36 : ¬ ((2 : Int32) < 0 ∨ cl35.slots.size ≤ ((2 : Int32)).toNatClampNeg) := inb_of Sa35 ⟨by decide, by decide⟩
  refine own_to (fun t k => X0.baloadBytes hx (j := (2 : Int32)) (v := (.int (p4.toInt8.toInt32))) (by rw [e0]; exact Ar35.1) (State.isArrayOf_alike hZ.alike Ar35.2.1) Ar35.2.2 hin36 (Has.at Ha35 hin36 rfl) (g := (mkF m 50 #[.val (.ref a1), .val (.int (3 : Int32)), .val (.int p2), .val (.int p3), .val (.int p4)] [(.int (2 : Int32)), (.ref a1)])) rfl rfl (hb hby own_d6_50) _ k) ?_
  show own_Fin _ _ _ _ _ _ (s₁.setTop (mkF m 51 #[.val (.ref a1), .val (.int (3 : Int32)), .val (.int p2), .val (.int p3), .val (.int p4)] [(.int (p4.toInt8.toInt32))]))
  refine own_to (fun t k => XS.iload X0.here hx rfl (hb hby own_d6_51) rfl k) ?_
  show own_Fin _ _ _ _ _ _ (s₁.setTop (mkF m 53 #[.val (.ref a1), .val (.int (3 : Int32)), .val (.int p2), .val (.int p3), .val (.int p4)] [(.int p4), (.int (p4.toInt8.toInt32))]))
  refine own_to (fun t k => XS.i2b X0.here hx rfl (hb hby own_d6_53) rfl k) ?_
  show own_Fin _ _ _ _ _ _ (s₁.setTop (mkF m 54 #[.val (.ref a1), .val (.int (3 : Int32)), .val (.int p2), .val (.int p3), .val (.int p4)] [(.int (p4.toInt8.toInt32)), (.int (p4.toInt8.toInt32))]))
  refine own_to (fun t k => XS.icmpYes X0.here hx rfl (pc0 := 54) (pc' := 59) rfl (hb hby own_d6_54) rfl (teq rfl).1 (by decide) (by decide) k) ?_
  show own_Fin _ _ _ _ _ _ (s₁.setTop (mkF m 59 #[.val (.ref a1), .val (.int (3 : Int32)), .val (.int p2), .val (.int p3), .val (.int p4)] []))
  refine own_to (fun t k => XS.iconst X0.here hx rfl (hb hby own_d6_59) k) ?_
  show own_Fin _ _ _ _ _ _ (s₁.setTop (mkF m 60 #[.val (.ref a1), .val (.int (3 : Int32)), .val (.int p2), .val (.int p3), .val (.int p4)] [(.int (1 : Int32))]))
  refine own_retN X0 hx hlk (t := .boolean) hret (by simp) (hb hby own_d6_60) (by decide) (by decide) ?_
  try rw [e0]
  exact ⟨rfl, N0, rfl⟩
theorem own_pd3 : parseMethodDescriptor "([B)Lcom/example/nuthatch/nuthatch/engine/Outcome;" = some ⟨[(.array .byte)], some (.object "com/example/nuthatch/nuthatch/engine/Outcome")⟩ := by decide +kernel
theorem own_pd4 : parseMethodDescriptor "()Lcom/example/nuthatch/nuthatch/engine/Status;" = some ⟨[], some (.object "com/example/nuthatch/nuthatch/engine/Status")⟩ := by decide +kernel
theorem own_pd5 : parseMethodDescriptor "()[B" = some ⟨[], some (.array .byte)⟩ := by decide +kernel
theorem own_pd6 : parseMethodDescriptor "([BIIII)Z" = some ⟨[(.array .byte), .int, .int, .int, .int], some .boolean⟩ := by decide +kernel
theorem own_rm0_ef (m : MethodId) (p1 : Int32) (p2 : Int32) (p3 : Int32) (p4 : Int32) : entryFrame m #[(.int p1), (.int p2), (.int p3), (.int p4)] maxLocals = mkF m 0 #[.val (.int p1), .val (.int p2), .val (.int p3), .val (.int p4), .unset, .unset, .unset, .unset, .unset, .unset] [] := by first | (simp [entryFrame, mkF, argsToLocals, Value.category, maxLocals]; done) | rfl
set_option maxRecDepth 65536 in
set_option maxHeartbeats 40000000 in
theorem own_rm0 (l : Launch) (Z : State) (a0 : Array Value) (hw : ∀ d ∈ tables_1, d.before a0 Z = true) (ws : List Jvm.Cond) (wS : Addr) (p1 : Int32) (p2 : Int32) (p3 : Int32) (p4 : Int32) (h0 : Heap) (n0 : Nat) (Z0 : n0 ≤ h0.size) (O0 : Old Z n0 h0) (SS : Sta Z Z.heap "com/example/nuthatch/nuthatch/engine/Status" "EXECUTED" "Lcom/example/nuthatch/nuthatch/engine/Status;" (.ref wS)) :
    own_Met l Z x code maxLocals ret ws room_1 #[(.int p1), (.int p2), (.int p3), (.int p4)] h0 (fun v h L => v = some (.int 1) ∧ Fr n0 L) := by
  refine own_enter (plainFor_of_name own_pn1) ?_
  intro p e s m below meth c s₁ X0 hx hZ hby hml hown hnm hret hlk e0
  have N0 := Fr.nil n0
  rw [own_rm0_ef m p1 p2 p3 p4]
  show own_Fin _ _ _ _ _ _ (s₁.setTop (mkF m 0 #[.val (.int p1), .val (.int p2), .val (.int p3), .val (.int p4), .unset, .unset, .unset, .unset, .unset, .unset] []))
  refine own_to (fun t k => XS.iloadN X0.here hx rfl (hb hby at_0) rfl k) ?_
  show own_Fin _ _ _ _ _ _ (s₁.setTop (mkF m 1 #[.val (.int p1), .val (.int p2), .val (.int p3), .val (.int p4), .unset, .unset, .unset, .unset, .unset, .unset] [(.int p1)]))
  refine own_to (fun t k => XS.iconst X0.here hx rfl (hb hby at_1) k) ?_
  show own_Fin _ _ _ _ _ _ (s₁.setTop (mkF m 2 #[.val (.int p1), .val (.int p2), .val (.int p3), .val (.int p4), .unset, .unset, .unset, .unset, .unset, .unset] [(.int (4 : Int32)), (.int p1)]))
  refine own_to (fun t k => XS.iand X0.here hx rfl (hb hby at_2) rfl k) ?_
  show own_Fin _ _ _ _ _ _ (s₁.setTop (mkF m 3 #[.val (.int p1), .val (.int p2), .val (.int p3), .val (.int p4), .unset, .unset, .unset, .unset, .unset, .unset] [(.int (p1 &&& (4 : Int32)))]))
  by_cases hc3_37 : (p1 &&& (4 : Int32)) = (0 : Int32)
  ·
    show own_Fin _ _ _ _ _ _ (s₁.setTop (mkF m 3 #[.val (.int p1), .val (.int p2), .val (.int p3), .val (.int p4), .unset, .unset, .unset, .unset, .unset, .unset] [(.int (p1 &&& (4 : Int32)))]))
    refine own_to (fun t k => XS.ifYes X0.here hx rfl (pc0 := 3) (pc' := 10) rfl (hb hby at_3) rfl ((if0 _ _).trans (teq hc3_37).1) (by decide) (by decide) k) ?_
    show own_Fin _ _ _ _ _ _ (s₁.setTop (mkF m 10 #[.val (.int p1), .val (.int p2), .val (.int p3), .val (.int p4), .unset, .unset, .unset, .unset, .unset, .unset] []))
    refine own_to (fun t k => XS.iconst X0.here hx rfl (hb hby at_10) k) ?_
    show own_Fin _ _ _ _ _ _ (s₁.setTop (mkF m 11 #[.val (.int p1), .val (.int p2), .val (.int p3), .val (.int p4), .unset, .unset, .unset, .unset, .unset, .unset] [(.int (0 : Int32))]))
    refine own_to (fun t k => XS.istore X0.here hx rfl (hb hby at_11) rfl (l' := #[.val (.int p1), .val (.int p2), .val (.int p3), .val (.int p4), .val (.int (0 : Int32)), .unset, .unset, .unset, .unset, .unset]) rfl k) ?_
    show own_Fin _ _ _ _ _ _ (s₁.setTop (mkF m 13 #[.val (.int p1), .val (.int p2), .val (.int p3), .val (.int p4), .val (.int (0 : Int32)), .unset, .unset, .unset, .unset, .unset] []))
    refine own_to (fun t k => XS.iloadN X0.here hx rfl (hb hby at_13) rfl k) ?_
    show own_Fin _ _ _ _ _ _ (s₁.setTop (mkF m 14 #[.val (.int p1), .val (.int p2), .val (.int p3), .val (.int p4), .val (.int (0 : Int32)), .unset, .unset, .unset, .unset, .unset] [(.int p1)]))
    refine own_to (fun t k => XS.iconst X0.here hx rfl (hb hby at_14) k) ?_
    show own_Fin _ _ _ _ _ _ (s₁.setTop (mkF m 15 #[.val (.int p1), .val (.int p2), .val (.int p3), .val (.int p4), .val (.int (0 : Int32)), .unset, .unset, .unset, .unset, .unset] [(.int (3 : Int32)), (.int p1)]))
    refine own_to (fun t k => XS.iand X0.here hx rfl (hb hby at_15) rfl k) ?_
    show own_Fin _ _ _ _ _ _ (s₁.setTop (mkF m 16 #[.val (.int p1), .val (.int p2), .val (.int p3), .val (.int p4), .val (.int (0 : Int32)), .unset, .unset, .unset, .unset, .unset] [(.int (p1 &&& (3 : Int32)))]))
    refine own_to (fun t k => XS.istore X0.here hx rfl (hb hby at_16) rfl (l' := #[.val (.int p1), .val (.int p2), .val (.int p3), .val (.int p4), .val (.int (0 : Int32)), .val (.int (p1 &&& (3 : Int32))), .unset, .unset, .unset, .unset]) rfl k) ?_
    show own_Fin _ _ _ _ _ _ (s₁.setTop (mkF m 18 #[.val (.int p1), .val (.int p2), .val (.int p3), .val (.int p4), .val (.int (0 : Int32)), .val (.int (p1 &&& (3 : Int32))), .unset, .unset, .unset, .unset] []))
    refine own_to (fun t k => XS.aconstNull X0.here hx rfl (hb hby at_18) k) ?_
    show own_Fin _ _ _ _ _ _ (s₁.setTop (mkF m 19 #[.val (.int p1), .val (.int p2), .val (.int p3), .val (.int p4), .val (.int (0 : Int32)), .val (.int (p1 &&& (3 : Int32))), .unset, .unset, .unset, .unset] [.null]))
    refine own_to (fun t k => XS.astore X0.here hx rfl (hb hby at_19) rfl rfl (l' := #[.val (.int p1), .val (.int p2), .val (.int p3), .val (.int p4), .val (.int (0 : Int32)), .val (.int (p1 &&& (3 : Int32))), .val .null, .unset, .unset, .unset]) rfl k) ?_
    show own_Fin _ _ _ _ _ _ (s₁.setTop (mkF m 21 #[.val (.int p1), .val (.int p2), .val (.int p3), .val (.int p4), .val (.int (0 : Int32)), .val (.int (p1 &&& (3 : Int32))), .val .null, .unset, .unset, .unset] []))
    refine own_to (fun t k => XS.iload X0.here hx rfl (hb hby at_21) rfl k) ?_
    show own_Fin _ _ _ _ _ _ (s₁.setTop (mkF m 23 #[.val (.int p1), .val (.int p2), .val (.int p3), .val (.int p4), .val (.int (0 : Int32)), .val (.int (p1 &&& (3 : Int32))), .val .null, .unset, .unset, .unset] [(.int (0 : Int32))]))
    refine own_to (fun t k => XS.ifNo X0.here hx rfl (hb hby at_23) rfl ((if0 _ _).trans (teq rfl).2) k) ?_
    show own_Fin _ _ _ _ _ _ (s₁.setTop (mkF m 26 #[.val (.int p1), .val (.int p2), .val (.int p3), .val (.int p4), .val (.int (0 : Int32)), .val (.int (p1 &&& (3 : Int32))), .val .null, .unset, .unset, .unset] []))
    refine own_to (fun t k => XS.iload X0.here hx rfl (hb hby at_26) rfl k) ?_
    show own_Fin _ _ _ _ _ _ (s₁.setTop (mkF m 28 #[.val (.int p1), .val (.int p2), .val (.int p3), .val (.int p4), .val (.int (0 : Int32)), .val (.int (p1 &&& (3 : Int32))), .val .null, .unset, .unset, .unset] [(.int (p1 &&& (3 : Int32)))]))
    rcases own_four p1 with hl | hl | hl | hl
    ·
      rw [hl]
      show own_Fin _ _ _ _ _ _ (s₁.setTop (mkF m 28 #[.val (.int p1), .val (.int p2), .val (.int p3), .val (.int p4), .val (.int (0 : Int32)), .val (.int (0 : Int32)), .val .null, .unset, .unset, .unset] [(.int (0 : Int32))]))
      obtain ⟨T38, h38, k38, X38, e38, E38, A38, A38x, st38⟩ := newPE X0 hx hZ (hw _ (List.mem_of_getElem? (i := 0) rfl)) e0 (g := (mkF m 28 #[.val (.int p1), .val (.int p2), .val (.int p3), .val (.int p4), .val (.int (0 : Int32)), .val (.int (0 : Int32)), .val .null, .unset, .unset, .unset] [(.int (0 : Int32))])) rfl (hb hby at_28) rfl (by decide) (cap := 0) (by decide) (by decide) (by decide) (by decide) (ad := "[B") (by decide)
      obtain ⟨b, q38⟩ : ∃ z, z = h0.size := ⟨_, rfl⟩
      rw [← q38] at A38 A38x st38
      have g_b : n0 ≤ b := Nat.le_trans Z0 (Nat.le_of_eq q38.symm)
      have O38 := O0.ext E38
      have V38 := Arv.new A38 (by decide)
      refine own_to (fun t k => st38 t k) ?_
      show own_Fin _ _ _ _ _ _ (T38.setTop (mkF m 30 #[.val (.int p1), .val (.int p2), .val (.int p3), .val (.int p4), .val (.int (0 : Int32)), .val (.int (0 : Int32)), .val .null, .unset, .unset, .unset] [(.ref b)]))
      have V39p : Arv Z h38 b k38 .byte (0 : Int32) [] (.int (0 : Int32)) := V38.pad (pad_rep [] (.int (0 : Int32)) 0)
      refine own_to (fun t k => XS.astore X38.here hx rfl (hb hby at_30) rfl rfl (l' := #[.val (.int p1), .val (.int p2), .val (.int p3), .val (.int p4), .val (.int (0 : Int32)), .val (.int (0 : Int32)), .val (.ref b), .unset, .unset, .unset]) rfl k) ?_
      show own_Fin _ _ _ _ _ _ (T38.setTop (mkF m 32 #[.val (.int p1), .val (.int p2), .val (.int p3), .val (.int p4), .val (.int (0 : Int32)), .val (.int (0 : Int32)), .val (.ref b), .unset, .unset, .unset] []))
      refine own_to (fun t k => XS.iload X38.here hx rfl (hb hby at_32) rfl k) ?_
      show own_Fin _ _ _ _ _ _ (T38.setTop (mkF m 34 #[.val (.int p1), .val (.int p2), .val (.int p3), .val (.int p4), .val (.int (0 : Int32)), .val (.int (0 : Int32)), .val (.ref b), .unset, .unset, .unset] [(.int (0 : Int32))]))
      refine own_to (fun t k => XS.ifYes X38.here hx rfl (pc0 := 34) (pc' := 43) rfl (hb hby at_34) rfl ((if0 _ _).trans (flt (Int32.lt_irrefl)).2.2.2) (by decide) (by decide) k) ?_
      show own_Fin _ _ _ _ _ _ (T38.setTop (mkF m 43 #[.val (.int p1), .val (.int p2), .val (.int p3), .val (.int p4), .val (.int (0 : Int32)), .val (.int (0 : Int32)), .val (.ref b), .unset, .unset, .unset] []))
      refine own_to (fun t k => XS.iload X38.here hx rfl (hb hby at_43) rfl k) ?_
      show own_Fin _ _ _ _ _ _ (T38.setTop (mkF m 45 #[.val (.int p1), .val (.int p2), .val (.int p3), .val (.int p4), .val (.int (0 : Int32)), .val (.int (0 : Int32)), .val (.ref b), .unset, .unset, .unset] [(.int (0 : Int32))]))
      refine own_to (fun t k => XS.iconst X38.here hx rfl (hb hby at_45) k) ?_
      show own_Fin _ _ _ _ _ _ (T38.setTop (mkF m 46 #[.val (.int p1), .val (.int p2), .val (.int p3), .val (.int p4), .val (.int (0 : Int32)), .val (.int (0 : Int32)), .val (.ref b), .unset, .unset, .unset] [(.int (1 : Int32)), (.int (0 : Int32))]))
      refine own_to (fun t k => XS.icmpYes X38.here hx rfl (pc0 := 46) (pc' := 55) rfl (hb hby at_46) rfl (flt (by decide)).2.2.2 (by decide) (by decide) k) ?_
      show own_Fin _ _ _ _ _ _ (T38.setTop (mkF m 55 #[.val (.int p1), .val (.int p2), .val (.int p3), .val (.int p4), .val (.int (0 : Int32)), .val (.int (0 : Int32)), .val (.ref b), .unset, .unset, .unset] []))
      refine own_to (fun t k => XS.iload X38.here hx rfl (hb hby at_55) rfl k) ?_
      show own_Fin _ _ _ _ _ _ (T38.setTop (mkF m 57 #[.val (.int p1), .val (.int p2), .val (.int p3), .val (.int p4), .val (.int (0 : Int32)), .val (.int (0 : Int32)), .val (.ref b), .unset, .unset, .unset] [(.int (0 : Int32))]))
      refine own_to (fun t k => XS.iconst X38.here hx rfl (hb hby at_57) k) ?_
      show own_Fin _ _ _ _ _ _ (T38.setTop (mkF m 58 #[.val (.int p1), .val (.int p2), .val (.int p3), .val (.int p4), .val (.int (0 : Int32)), .val (.int (0 : Int32)), .val (.ref b), .unset, .unset, .unset] [(.int (2 : Int32)), (.int (0 : Int32))]))
      refine own_to (fun t k => XS.icmpYes X38.here hx rfl (pc0 := 58) (pc' := 67) rfl (hb hby at_58) rfl (flt (by decide)).2.2.2 (by decide) (by decide) k) ?_
      show own_Fin _ _ _ _ _ _ (T38.setTop (mkF m 67 #[.val (.int p1), .val (.int p2), .val (.int p3), .val (.int p4), .val (.int (0 : Int32)), .val (.int (0 : Int32)), .val (.ref b), .unset, .unset, .unset] []))
      refine own_to (fun t k => XS.aload X38.here hx rfl (hb hby at_67) rfl rfl k) ?_
      show own_Fin _ _ _ _ _ _ (T38.setTop (mkF m 69 #[.val (.int p1), .val (.int p2), .val (.int p3), .val (.int p4), .val (.int (0 : Int32)), .val (.int (0 : Int32)), .val (.ref b), .unset, .unset, .unset] [(.ref b)]))
      have Vn40 : Arv Z h38 b k38 .byte (0 : Int32) [] (.int (0 : Int32)) := V39p
      obtain ⟨_, _, ⟨T41, L41, k41, n41⟩, -, X41, ⟨Lc41, hQ41, l41, y41, z41⟩, st41⟩ := Jvm.LawKit.callS X38 hx (y := (⟨"com/example/nuthatch/nuthatch/engine/Outcome", "executed", "([B)Lcom/example/nuthatch/nuthatch/engine/Outcome;"⟩ : MethodName)) hown (mvT hZ (hw _ (List.mem_of_getElem? (i := 1) rfl))) (mvT hZ (hw _ (List.mem_of_getElem? (i := 2) rfl))) (mvT hZ (hw _ (List.mem_of_getElem? (i := 3) rfl))) (mvT hZ (hw _ (List.mem_of_getElem? (i := 4) rfl))) (by decide) (own_back (W := 0) (own_exeA l Z a0 hw [] wS b k38 (0 : Int32) [] h38 n0 (Nat.le_trans Z0 E38.1) O38 SS Vn40 A38x (by decide)) hZ (hw _ (List.mem_of_getElem? (i := 4) rfl)) (hw _ (List.mem_of_getElem? (i := 3) rfl)) (by decide) (by decide)) (g := (mkF m 69 #[.val (.int p1), .val (.int p2), .val (.int p3), .val (.int p4), .val (.int (0 : Int32)), .val (.int (0 : Int32)), .val (.ref b), .unset, .unset, .unset] [(.ref b)])) rfl (by rw [hml]; rfl) (argsL := [(.ref b)]) (rest := []) (lenOf own_pd3 rfl) rfl (by show 2 * 0 + _ ≤ _; exact Nat.le_of_eq rfl) (hb hby at_69) (fun _ _ => ⟨rfl, e38, (by decide : 1 + 2 ≤ _), (by decide : 0 + 5 ≤ _)⟩)
      dsimp only [Pt.U, Pt.locs, Pt.cells, Pt.slots] at X41 l41 y41 z41 st41 hQ41
      subst l41 y41 z41
      obtain ⟨o, c, rfl, N41q, K41, g_o, szo, g_c, szc, E_o, Fs, Fre, V_c, E_c⟩ := hQ41
      have N41 := Fr.app N0 N41q
      have ne_b_o : b ≠ o := Nat.ne_of_lt (Nat.lt_of_lt_of_le Vn40.lt szo)
      have ne_b_c : b ≠ c := Nat.ne_of_lt (Nat.lt_of_lt_of_le Vn40.lt szc)
      have O41 := O38.keep K41 all0
      have Vn40_e41 := Vn40.keep K41 nin0
      have A38x_e41 := A38x.keep K41
      refine own_to (fun t k => st41 t k) ?_
      show own_Fin _ _ _ _ _ _ (T41.setTop (mkF m 72 #[.val (.int p1), .val (.int p2), .val (.int p3), .val (.int p4), .val (.int (0 : Int32)), .val (.int (0 : Int32)), .val (.ref b), .unset, .unset, .unset] [(.ref o)]))
      refine own_to (fun t k => XS.astore X41.here hx rfl (hb hby at_72) rfl rfl (l' := #[.val (.int p1), .val (.int p2), .val (.int p3), .val (.int p4), .val (.int (0 : Int32)), .val (.int (0 : Int32)), .val (.ref b), .val (.ref o), .unset, .unset]) rfl k) ?_
      show own_Fin _ _ _ _ _ _ (T41.setTop (mkF m 74 #[.val (.int p1), .val (.int p2), .val (.int p3), .val (.int p4), .val (.int (0 : Int32)), .val (.int (0 : Int32)), .val (.ref b), .val (.ref o), .unset, .unset] []))
      refine own_to (fun t k => XS.aload X41.here hx rfl (hb hby at_74) rfl rfl k) ?_
      show own_Fin _ _ _ _ _ _ (T41.setTop (mkF m 76 #[.val (.int p1), .val (.int p2), .val (.int p3), .val (.int p4), .val (.int (0 : Int32)), .val (.int (0 : Int32)), .val (.ref b), .val (.ref o), .unset, .unset] [(.ref o)]))
      obtain ⟨cq42, kq42, q42a, q42b, q42c⟩ := isOf hZ rfl E_o
      obtain ⟨_, _, ⟨T42, L42, k42, n42⟩, -, X42, ⟨Lc42, hQ42, l42, y42, z42⟩, st42⟩ := X41.virtualBack hx (y := (⟨"com/example/nuthatch/nuthatch/engine/Outcome", "status", "()Lcom/example/nuthatch/nuthatch/engine/Status;"⟩ : MethodName)) (z := (⟨"com/example/nuthatch/nuthatch/engine/Outcome", "status", "()Lcom/example/nuthatch/nuthatch/engine/Status;"⟩ : MethodName)) hown (mvT hZ (hw _ (List.mem_of_getElem? (i := 29) rfl))) (mvT hZ (hw _ (List.mem_of_getElem? (i := 30) rfl))) (notFace_of_selects (args := #[]) (mvT hZ (hw _ (List.mem_of_getElem? (i := 32) rfl)))) (mvT hZ (hw _ (List.mem_of_getElem? (i := 32) rfl))) (mvT hZ (hw _ (List.mem_of_getElem? (i := 31) rfl))) (by decide) (own_back (W := 0) (own_rm4 l Z a0 hw [] o wS T41.heap n0 (Nat.le_trans (Nat.le_trans Z0 E38.1) K41.1) Fs) hZ (hw _ (List.mem_of_getElem? (i := 33) rfl)) (hw _ (List.mem_of_getElem? (i := 3) rfl)) (by decide) (by decide)) q42a q42c (g := (mkF m 76 #[.val (.int p1), .val (.int p2), .val (.int p3), .val (.int p4), .val (.int (0 : Int32)), .val (.int (0 : Int32)), .val (.ref b), .val (.ref o), .unset, .unset] [(.ref o)])) rfl (by rw [hml]; rfl) (Steps.refl _) (argsL := []) (rest := []) (lenOf own_pd4 rfl) rfl (by show 2 * 0 + _ ≤ _; exact Nat.le_of_eq rfl) (hb hby at_76) (fun _ _ => ⟨rfl, rfl, (by decide : 3 + 0 ≤ _), (by decide : 5 + 0 ≤ _)⟩)
      dsimp only [Pt.U, Pt.locs, Pt.cells, Pt.slots] at X42 l42 y42 z42 st42 hQ42
      subst l42 y42 z42
      obtain ⟨rfl, N42q, eh42⟩ := hQ42
      have N42 := Fr.app N41 N42q
      refine own_to (fun t k => st42.trans k) ?_
      show own_Fin _ _ _ _ _ _ (T42.setTop (mkF m 79 #[.val (.int p1), .val (.int p2), .val (.int p3), .val (.int p4), .val (.int (0 : Int32)), .val (.int (0 : Int32)), .val (.ref b), .val (.ref o), .unset, .unset] [(.ref wS)]))
      obtain ⟨T43, X43, e43, st43⟩ := getS2 X42 hx hZ hown (host := "") (Or.inl (hw _ (List.mem_of_getElem? (i := 34) rfl))) Via.refl eh42 (SS.ext O41.2) (g := (mkF m 79 #[.val (.int p1), .val (.int p2), .val (.int p3), .val (.int p4), .val (.int (0 : Int32)), .val (.int (0 : Int32)), .val (.ref b), .val (.ref o), .unset, .unset] [(.ref wS)])) rfl (hb hby at_79)
      refine own_to (fun t k => st43 t k) ?_
      show own_Fin _ _ _ _ _ _ (T43.setTop (mkF m 82 #[.val (.int p1), .val (.int p2), .val (.int p3), .val (.int p4), .val (.int (0 : Int32)), .val (.int (0 : Int32)), .val (.ref b), .val (.ref o), .unset, .unset] [(.ref wS), (.ref wS)]))
      refine own_to (fun t k => Jvm.RoadKit.acmp (g := (mkF m 82 #[.val (.int p1), .val (.int p2), .val (.int p3), .val (.int p4), .val (.int (0 : Int32)), .val (.int (0 : Int32)), .val (.ref b), .val (.ref o), .unset, .unset] [(.ref wS), (.ref wS)])) X43 hx rfl rfl rfl (pc0 := 82) (pc' := 87) (same := true) rfl (hb hby at_82) rfl (decide_eq_true rfl) (by decide) (by decide) k) ?_
      show own_Fin _ _ _ _ _ _ (T43.setTop (mkF m 87 #[.val (.int p1), .val (.int p2), .val (.int p3), .val (.int p4), .val (.int (0 : Int32)), .val (.int (0 : Int32)), .val (.ref b), .val (.ref o), .unset, .unset] []))
      refine own_to (fun t k => XS.aload X43.here hx rfl (hb hby at_87) rfl rfl k) ?_
      show own_Fin _ _ _ _ _ _ (T43.setTop (mkF m 89 #[.val (.int p1), .val (.int p2), .val (.int p3), .val (.int p4), .val (.int (0 : Int32)), .val (.int (0 : Int32)), .val (.ref b), .val (.ref o), .unset, .unset] [(.ref b)]))
      refine own_to (fun t k => XS.ifnullNo X43.here hx rfl (hb hby at_89) rfl k) ?_
      show own_Fin _ _ _ _ _ _ (T43.setTop (mkF m 92 #[.val (.int p1), .val (.int p2), .val (.int p3), .val (.int p4), .val (.int (0 : Int32)), .val (.int (0 : Int32)), .val (.ref b), .val (.ref o), .unset, .unset] []))
      refine own_to (fun t k => XS.iload X43.here hx rfl (hb hby at_92) rfl k) ?_
      show own_Fin _ _ _ _ _ _ (T43.setTop (mkF m 94 #[.val (.int p1), .val (.int p2), .val (.int p3), .val (.int p4), .val (.int (0 : Int32)), .val (.int (0 : Int32)), .val (.ref b), .val (.ref o), .unset, .unset] [(.int (0 : Int32))]))
      refine own_to (fun t k => XS.ifYes X43.here hx rfl (pc0 := 94) (pc' := 105) rfl (hb hby at_94) rfl ((if0 _ _).trans (flt (Int32.lt_irrefl)).2.2.2) (by decide) (by decide) k) ?_
      show own_Fin _ _ _ _ _ _ (T43.setTop (mkF m 105 #[.val (.int p1), .val (.int p2), .val (.int p3), .val (.int p4), .val (.int (0 : Int32)), .val (.int (0 : Int32)), .val (.ref b), .val (.ref o), .unset, .unset] []))
      refine own_to (fun t k => XS.aload X43.here hx rfl (hb hby at_105) rfl rfl k) ?_
      show own_Fin _ _ _ _ _ _ (T43.setTop (mkF m 107 #[.val (.int p1), .val (.int p2), .val (.int p3), .val (.int p4), .val (.int (0 : Int32)), .val (.int (0 : Int32)), .val (.ref b), .val (.ref o), .unset, .unset] [(.ref o)]))
      obtain ⟨cq44, kq44, q44a, q44b, q44c⟩ := isOf hZ e43 E_o
      obtain ⟨_, _, ⟨T44, L44, k44, n44⟩, -, X44, ⟨Lc44, hQ44, l44, y44, z44⟩, st44⟩ := X43.virtualBack hx (y := (⟨"com/example/nuthatch/nuthatch/engine/Outcome", "response", "()[B"⟩ : MethodName)) (z := (⟨"com/example/nuthatch/nuthatch/engine/Outcome", "response", "()[B"⟩ : MethodName)) hown (mvT hZ (hw _ (List.mem_of_getElem? (i := 35) rfl))) (mvT hZ (hw _ (List.mem_of_getElem? (i := 36) rfl))) (notFace_of_selects (args := #[]) (mvT hZ (hw _ (List.mem_of_getElem? (i := 38) rfl)))) (mvT hZ (hw _ (List.mem_of_getElem? (i := 38) rfl))) (mvT hZ (hw _ (List.mem_of_getElem? (i := 37) rfl))) (by decide) (own_back (W := 0) (own_resA l Z a0 hw [] o c k38 (0 : Int32) [] T41.heap n0 (Nat.le_trans (Nat.le_trans Z0 E38.1) K41.1) Fre V_c E_c (by decide)) hZ (hw _ (List.mem_of_getElem? (i := 39) rfl)) (hw _ (List.mem_of_getElem? (i := 3) rfl)) (by decide) (by decide)) q44a q44c (g := (mkF m 107 #[.val (.int p1), .val (.int p2), .val (.int p3), .val (.int p4), .val (.int (0 : Int32)), .val (.int (0 : Int32)), .val (.ref b), .val (.ref o), .unset, .unset] [(.ref o)])) rfl (by rw [hml]; rfl) (Steps.refl _) (argsL := []) (rest := []) (lenOf own_pd5 rfl) rfl (by show 2 * 0 + _ ≤ _; exact Nat.le_of_eq rfl) (hb hby at_107) (fun _ _ => ⟨rfl, e43, (by decide : 3 + 1 ≤ _), (by decide : 5 + 3 ≤ _)⟩)
      dsimp only [Pt.U, Pt.locs, Pt.cells, Pt.slots] at X44 l44 y44 z44 st44 hQ44
      subst l44 y44 z44
      obtain ⟨d, rfl, N44q, K44, g_d, szd, V_d, E_d⟩ := hQ44
      have N44 := Fr.app N42 N44q
      have ne_b_d : b ≠ d := Nat.ne_of_lt (Nat.lt_of_lt_of_le Vn40_e41.lt szd)
      have ne_o_d : o ≠ d := Nat.ne_of_lt (Nat.lt_of_lt_of_le E_o.lt szd)
      have ne_c_d : c ≠ d := Nat.ne_of_lt (Nat.lt_of_lt_of_le V_c.lt szd)
      have O44 := O41.keep K44 all0
      have Vn40_e44 := Vn40_e41.keep K44 nin0
      have A38x_e44 := A38x_e41.keep K44
      have E_o_e44 := E_o.keep K44
      have Fs_e44 := Fs.keep K44 nin0
      have Fre_e44 := Fre.keep K44 nin0
      have V_c_e44 := V_c.keep K44 nin0
      have E_c_e44 := E_c.keep K44
      refine own_to (fun t k => st44.trans k) ?_
      show own_Fin _ _ _ _ _ _ (T44.setTop (mkF m 110 #[.val (.int p1), .val (.int p2), .val (.int p3), .val (.int p4), .val (.int (0 : Int32)), .val (.int (0 : Int32)), .val (.ref b), .val (.ref o), .unset, .unset] [(.ref d)]))
      refine own_to (fun t k => XS.astore X44.here hx rfl (hb hby at_110) rfl rfl (l' := #[.val (.int p1), .val (.int p2), .val (.int p3), .val (.int p4), .val (.int (0 : Int32)), .val (.int (0 : Int32)), .val (.ref b), .val (.ref o), .val (.ref d), .unset]) rfl k) ?_
      show own_Fin _ _ _ _ _ _ (T44.setTop (mkF m 112 #[.val (.int p1), .val (.int p2), .val (.int p3), .val (.int p4), .val (.int (0 : Int32)), .val (.int (0 : Int32)), .val (.ref b), .val (.ref o), .val (.ref d), .unset] []))
      refine own_to (fun t k => XS.iload X44.here hx rfl (hb hby at_112) rfl k) ?_
      show own_Fin _ _ _ _ _ _ (T44.setTop (mkF m 114 #[.val (.int p1), .val (.int p2), .val (.int p3), .val (.int p4), .val (.int (0 : Int32)), .val (.int (0 : Int32)), .val (.ref b), .val (.ref o), .val (.ref d), .unset] [(.int (0 : Int32))]))
      refine own_to (fun t k => XS.ifYes X44.here hx rfl (pc0 := 114) (pc' := 128) rfl (hb hby at_114) rfl ((if0 _ _).trans (teq rfl).1) (by decide) (by decide) k) ?_
      show own_Fin _ _ _ _ _ _ (T44.setTop (mkF m 128 #[.val (.int p1), .val (.int p2), .val (.int p3), .val (.int p4), .val (.int (0 : Int32)), .val (.int (0 : Int32)), .val (.ref b), .val (.ref o), .val (.ref d), .unset] []))
      refine own_to (fun t k => XS.aload X44.here hx rfl (hb hby at_128) rfl rfl k) ?_
      show own_Fin _ _ _ _ _ _ (T44.setTop (mkF m 130 #[.val (.int p1), .val (.int p2), .val (.int p3), .val (.int p4), .val (.int (0 : Int32)), .val (.int (0 : Int32)), .val (.ref b), .val (.ref o), .val (.ref d), .unset] [(.ref d)]))
      refine own_to (fun t k => XS.iload X44.here hx rfl (hb hby at_130) rfl k) ?_
      show own_Fin _ _ _ _ _ _ (T44.setTop (mkF m 132 #[.val (.int p1), .val (.int p2), .val (.int p3), .val (.int p4), .val (.int (0 : Int32)), .val (.int (0 : Int32)), .val (.ref b), .val (.ref o), .val (.ref d), .unset] [(.int (0 : Int32)), (.ref d)]))
      refine own_to (fun t k => XS.iloadN X44.here hx rfl (hb hby at_132) rfl k) ?_
      show own_Fin _ _ _ _ _ _ (T44.setTop (mkF m 133 #[.val (.int p1), .val (.int p2), .val (.int p3), .val (.int p4), .val (.int (0 : Int32)), .val (.int (0 : Int32)), .val (.ref b), .val (.ref o), .val (.ref d), .unset] [(.int p2), (.int (0 : Int32)), (.ref d)]))
      refine own_to (fun t k => XS.iloadN X44.here hx rfl (hb hby at_133) rfl k) ?_
      show own_Fin _ _ _ _ _ _ (T44.setTop (mkF m 134 #[.val (.int p1), .val (.int p2), .val (.int p3), .val (.int p4), .val (.int (0 : Int32)), .val (.int (0 : Int32)), .val (.ref b), .val (.ref o), .val (.ref d), .unset] [(.int p3), (.int p2), (.int (0 : Int32)), (.ref d)]))
      refine own_to (fun t k => XS.iloadN X44.here hx rfl (hb hby at_134) rfl k) ?_
      show own_Fin _ _ _ _ _ _ (T44.setTop (mkF m 135 #[.val (.int p1), .val (.int p2), .val (.int p3), .val (.int p4), .val (.int (0 : Int32)), .val (.int (0 : Int32)), .val (.ref b), .val (.ref o), .val (.ref d), .unset] [(.int p4), (.int p3), (.int p2), (.int (0 : Int32)), (.ref d)]))
      obtain ⟨_, _, ⟨T45, L45, k45, n45⟩, -, X45, ⟨Lc45, hQ45, l45, y45, z45⟩, st45⟩ := Jvm.LawKit.callS X44 hx (y := (⟨"com/example/nuthatch/nuthatch/engine/OutcomeExecutedPinLaw", "holds", "([BIIII)Z"⟩ : MethodName)) hown (mvT hZ (hw _ (List.mem_of_getElem? (i := 40) rfl))) (mvT hZ (hw _ (List.mem_of_getElem? (i := 41) rfl))) (mvT hZ (hw _ (List.mem_of_getElem? (i := 42) rfl))) (mvT hZ (hw _ (List.mem_of_getElem? (i := 43) rfl))) (by decide) (own_back (W := 0) (own_holds0 l Z a0 hw [] d p2 p3 p4 k38 T44.heap n0 (Nat.le_trans (Nat.le_trans (Nat.le_trans Z0 E38.1) K41.1) K44.1) V_d) hZ (hw _ (List.mem_of_getElem? (i := 43) rfl)) (hw _ (List.mem_of_getElem? (i := 42) rfl)) (by decide) (by decide)) (g := (mkF m 135 #[.val (.int p1), .val (.int p2), .val (.int p3), .val (.int p4), .val (.int (0 : Int32)), .val (.int (0 : Int32)), .val (.ref b), .val (.ref o), .val (.ref d), .unset] [(.int p4), (.int p3), (.int p2), (.int (0 : Int32)), (.ref d)])) rfl (by rw [hml]; rfl) (argsL := [(.ref d), (.int (0 : Int32)), (.int p2), (.int p3), (.int p4)]) (rest := []) (lenOf own_pd6 rfl) rfl (by show 2 * 0 + _ ≤ _; exact Nat.le_of_eq rfl) (hb hby at_135) (fun _ _ => ⟨rfl, rfl, (by decide : 4 + 0 ≤ _), (by decide : 8 + 0 ≤ _)⟩)
      dsimp only [Pt.U, Pt.locs, Pt.cells, Pt.slots] at X45 l45 y45 z45 st45 hQ45
      subst l45 y45 z45
      obtain ⟨rfl, N45q, eh45⟩ := hQ45
      have N45 := Fr.app N44 N45q
      refine own_to (fun t k => st45 t k) ?_
      show own_Fin _ _ _ _ _ _ (T45.setTop (mkF m 138 #[.val (.int p1), .val (.int p2), .val (.int p3), .val (.int p4), .val (.int (0 : Int32)), .val (.int (0 : Int32)), .val (.ref b), .val (.ref o), .val (.ref d), .unset] [(.int (1 : Int32))]))
      refine own_to (fun t k => XS.ifYes X45.here hx rfl (pc0 := 138) (pc' := 143) rfl (hb hby at_138) rfl ((if0 _ _).trans (feq (by decide)).2) (by decide) (by decide) k) ?_
      show own_Fin _ _ _ _ _ _ (T45.setTop (mkF m 143 #[.val (.int p1), .val (.int p2), .val (.int p3), .val (.int p4), .val (.int (0 : Int32)), .val (.int (0 : Int32)), .val (.ref b), .val (.ref o), .val (.ref d), .unset] []))
      refine own_to (fun t k => XS.iload X45.here hx rfl (hb hby at_143) rfl k) ?_
      show own_Fin _ _ _ _ _ _ (T45.setTop (mkF m 145 #[.val (.int p1), .val (.int p2), .val (.int p3), .val (.int p4), .val (.int (0 : Int32)), .val (.int (0 : Int32)), .val (.ref b), .val (.ref o), .val (.ref d), .unset] [(.int (0 : Int32))]))
      refine own_to (fun t k => XS.ifYes X45.here hx rfl (pc0 := 145) (pc' := 156) rfl (hb hby at_145) rfl ((if0 _ _).trans (flt (Int32.lt_irrefl)).2.2.2) (by decide) (by decide) k) ?_
      show own_Fin _ _ _ _ _ _ (T45.setTop (mkF m 156 #[.val (.int p1), .val (.int p2), .val (.int p3), .val (.int p4), .val (.int (0 : Int32)), .val (.int (0 : Int32)), .val (.ref b), .val (.ref o), .val (.ref d), .unset] []))
      refine own_to (fun t k => XS.aload X45.here hx rfl (hb hby at_156) rfl rfl k) ?_
      show own_Fin _ _ _ _ _ _ (T45.setTop (mkF m 158 #[.val (.int p1), .val (.int p2), .val (.int p3), .val (.int p4), .val (.int (0 : Int32)), .val (.int (0 : Int32)), .val (.ref b), .val (.ref o), .val (.ref d), .unset] [(.ref o)]))
      obtain ⟨cq46, kq46, q46a, q46b, q46c⟩ := isOf hZ eh45 E_o_e44
      obtain ⟨_, _, ⟨T46, L46, k46, n46⟩, -, X46, ⟨Lc46, hQ46, l46, y46, z46⟩, st46⟩ := X45.virtualBack hx (y := (⟨"com/example/nuthatch/nuthatch/engine/Outcome", "response", "()[B"⟩ : MethodName)) (z := (⟨"com/example/nuthatch/nuthatch/engine/Outcome", "response", "()[B"⟩ : MethodName)) hown (mvT hZ (hw _ (List.mem_of_getElem? (i := 35) rfl))) (mvT hZ (hw _ (List.mem_of_getElem? (i := 36) rfl))) (notFace_of_selects (args := #[]) (mvT hZ (hw _ (List.mem_of_getElem? (i := 38) rfl)))) (mvT hZ (hw _ (List.mem_of_getElem? (i := 38) rfl))) (mvT hZ (hw _ (List.mem_of_getElem? (i := 37) rfl))) (by decide) (own_back (W := 0) (own_resA l Z a0 hw [] o c k38 (0 : Int32) [] T44.heap n0 (Nat.le_trans (Nat.le_trans (Nat.le_trans Z0 E38.1) K41.1) K44.1) Fre_e44 V_c_e44 E_c_e44 (by decide)) hZ (hw _ (List.mem_of_getElem? (i := 39) rfl)) (hw _ (List.mem_of_getElem? (i := 3) rfl)) (by decide) (by decide)) q46a q46c (g := (mkF m 158 #[.val (.int p1), .val (.int p2), .val (.int p3), .val (.int p4), .val (.int (0 : Int32)), .val (.int (0 : Int32)), .val (.ref b), .val (.ref o), .val (.ref d), .unset] [(.ref o)])) rfl (by rw [hml]; rfl) (Steps.refl _) (argsL := []) (rest := []) (lenOf own_pd5 rfl) rfl (by show 2 * 0 + _ ≤ _; exact Nat.le_of_eq rfl) (hb hby at_158) (fun _ _ => ⟨rfl, eh45, (by decide : 4 + 1 ≤ _), (by decide : 8 + 3 ≤ _)⟩)
      dsimp only [Pt.U, Pt.locs, Pt.cells, Pt.slots] at X46 l46 y46 z46 st46 hQ46
      subst l46 y46 z46
      obtain ⟨e2, rfl, N46q, K46, g_e2, sze2, V_e2, E_e2⟩ := hQ46
      have N46 := Fr.app N45 N46q
      have ne_b_e2 : b ≠ e2 := Nat.ne_of_lt (Nat.lt_of_lt_of_le Vn40_e44.lt sze2)
      have ne_o_e2 : o ≠ e2 := Nat.ne_of_lt (Nat.lt_of_lt_of_le E_o_e44.lt sze2)
      have ne_c_e2 : c ≠ e2 := Nat.ne_of_lt (Nat.lt_of_lt_of_le V_c_e44.lt sze2)
      have ne_d_e2 : d ≠ e2 := Nat.ne_of_lt (Nat.lt_of_lt_of_le V_d.lt sze2)
      have O46 := O44.keep K46 all0
      have Vn40_e46 := Vn40_e44.keep K46 nin0
      have A38x_e46 := A38x_e44.keep K46
      have E_o_e46 := E_o_e44.keep K46
      have Fs_e46 := Fs_e44.keep K46 nin0
      have Fre_e46 := Fre_e44.keep K46 nin0
      have V_c_e46 := V_c_e44.keep K46 nin0
      have E_c_e46 := E_c_e44.keep K46
      have V_d_e46 := V_d.keep K46 nin0
      have E_d_e46 := E_d.keep K46
      refine own_to (fun t k => st46.trans k) ?_
      show own_Fin _ _ _ _ _ _ (T46.setTop (mkF m 161 #[.val (.int p1), .val (.int p2), .val (.int p3), .val (.int p4), .val (.int (0 : Int32)), .val (.int (0 : Int32)), .val (.ref b), .val (.ref o), .val (.ref d), .unset] [(.ref e2)]))
      refine own_to (fun t k => XS.astore X46.here hx rfl (hb hby at_161) rfl rfl (l' := #[.val (.int p1), .val (.int p2), .val (.int p3), .val (.int p4), .val (.int (0 : Int32)), .val (.int (0 : Int32)), .val (.ref b), .val (.ref o), .val (.ref d), .val (.ref e2)]) rfl k) ?_
      show own_Fin _ _ _ _ _ _ (T46.setTop (mkF m 163 #[.val (.int p1), .val (.int p2), .val (.int p3), .val (.int p4), .val (.int (0 : Int32)), .val (.int (0 : Int32)), .val (.ref b), .val (.ref o), .val (.ref d), .val (.ref e2)] []))
      refine own_to (fun t k => XS.aload X46.here hx rfl (hb hby at_163) rfl rfl k) ?_
      show own_Fin _ _ _ _ _ _ (T46.setTop (mkF m 165 #[.val (.int p1), .val (.int p2), .val (.int p3), .val (.int p4), .val (.int (0 : Int32)), .val (.int (0 : Int32)), .val (.ref b), .val (.ref o), .val (.ref d), .val (.ref e2)] [(.ref e2)]))
      refine own_to (fun t k => XS.iload X46.here hx rfl (hb hby at_165) rfl k) ?_
      show own_Fin _ _ _ _ _ _ (T46.setTop (mkF m 167 #[.val (.int p1), .val (.int p2), .val (.int p3), .val (.int p4), .val (.int (0 : Int32)), .val (.int (0 : Int32)), .val (.ref b), .val (.ref o), .val (.ref d), .val (.ref e2)] [(.int (0 : Int32)), (.ref e2)]))
      refine own_to (fun t k => XS.iloadN X46.here hx rfl (hb hby at_167) rfl k) ?_
      show own_Fin _ _ _ _ _ _ (T46.setTop (mkF m 168 #[.val (.int p1), .val (.int p2), .val (.int p3), .val (.int p4), .val (.int (0 : Int32)), .val (.int (0 : Int32)), .val (.ref b), .val (.ref o), .val (.ref d), .val (.ref e2)] [(.int p2), (.int (0 : Int32)), (.ref e2)]))
      refine own_to (fun t k => XS.iloadN X46.here hx rfl (hb hby at_168) rfl k) ?_
      show own_Fin _ _ _ _ _ _ (T46.setTop (mkF m 169 #[.val (.int p1), .val (.int p2), .val (.int p3), .val (.int p4), .val (.int (0 : Int32)), .val (.int (0 : Int32)), .val (.ref b), .val (.ref o), .val (.ref d), .val (.ref e2)] [(.int p3), (.int p2), (.int (0 : Int32)), (.ref e2)]))
      refine own_to (fun t k => XS.iloadN X46.here hx rfl (hb hby at_169) rfl k) ?_
      show own_Fin _ _ _ _ _ _ (T46.setTop (mkF m 170 #[.val (.int p1), .val (.int p2), .val (.int p3), .val (.int p4), .val (.int (0 : Int32)), .val (.int (0 : Int32)), .val (.ref b), .val (.ref o), .val (.ref d), .val (.ref e2)] [(.int p4), (.int p3), (.int p2), (.int (0 : Int32)), (.ref e2)]))
      obtain ⟨_, _, ⟨T47, L47, k47, n47⟩, -, X47, ⟨Lc47, hQ47, l47, y47, z47⟩, st47⟩ := Jvm.LawKit.callS X46 hx (y := (⟨"com/example/nuthatch/nuthatch/engine/OutcomeExecutedPinLaw", "holds", "([BIIII)Z"⟩ : MethodName)) hown (mvT hZ (hw _ (List.mem_of_getElem? (i := 40) rfl))) (mvT hZ (hw _ (List.mem_of_getElem? (i := 41) rfl))) (mvT hZ (hw _ (List.mem_of_getElem? (i := 42) rfl))) (mvT hZ (hw _ (List.mem_of_getElem? (i := 43) rfl))) (by decide) (own_back (W := 0) (own_holds0 l Z a0 hw [] e2 p2 p3 p4 k38 T46.heap n0 (Nat.le_trans (Nat.le_trans (Nat.le_trans (Nat.le_trans Z0 E38.1) K41.1) K44.1) K46.1) V_e2) hZ (hw _ (List.mem_of_getElem? (i := 43) rfl)) (hw _ (List.mem_of_getElem? (i := 42) rfl)) (by decide) (by decide)) (g := (mkF m 170 #[.val (.int p1), .val (.int p2), .val (.int p3), .val (.int p4), .val (.int (0 : Int32)), .val (.int (0 : Int32)), .val (.ref b), .val (.ref o), .val (.ref d), .val (.ref e2)] [(.int p4), (.int p3), (.int p2), (.int (0 : Int32)), (.ref e2)])) rfl (by rw [hml]; rfl) (argsL := [(.ref e2), (.int (0 : Int32)), (.int p2), (.int p3), (.int p4)]) (rest := []) (lenOf own_pd6 rfl) rfl (by show 2 * 0 + _ ≤ _; exact Nat.le_of_eq rfl) (hb hby at_170) (fun _ _ => ⟨rfl, rfl, (by decide : 5 + 0 ≤ _), (by decide : 11 + 0 ≤ _)⟩)
      dsimp only [Pt.U, Pt.locs, Pt.cells, Pt.slots] at X47 l47 y47 z47 st47 hQ47
      subst l47 y47 z47
      obtain ⟨rfl, N47q, eh47⟩ := hQ47
      have N47 := Fr.app N46 N47q
      refine own_to (fun t k => st47 t k) ?_
      show own_Fin _ _ _ _ _ _ (T47.setTop (mkF m 173 #[.val (.int p1), .val (.int p2), .val (.int p3), .val (.int p4), .val (.int (0 : Int32)), .val (.int (0 : Int32)), .val (.ref b), .val (.ref o), .val (.ref d), .val (.ref e2)] [(.int (1 : Int32))]))
      refine own_retN X47 hx hlk (t := .boolean) hret (by simp) (hb hby at_173) (by decide) (by decide) ?_
      try rw [eh47]
      exact ⟨rfl, N47⟩
    ·
      rw [hl]
      show own_Fin _ _ _ _ _ _ (s₁.setTop (mkF m 28 #[.val (.int p1), .val (.int p2), .val (.int p3), .val (.int p4), .val (.int (0 : Int32)), .val (.int (1 : Int32)), .val .null, .unset, .unset, .unset] [(.int (1 : Int32))]))
      obtain ⟨T48, h48, k48, X48, e48, E48, A48, A48x, st48⟩ := newPE X0 hx hZ (hw _ (List.mem_of_getElem? (i := 0) rfl)) e0 (g := (mkF m 28 #[.val (.int p1), .val (.int p2), .val (.int p3), .val (.int p4), .val (.int (0 : Int32)), .val (.int (1 : Int32)), .val .null, .unset, .unset, .unset] [(.int (1 : Int32))])) rfl (hb hby at_28) rfl (by decide) (cap := 1) (by decide) (by decide) (by decide) (by decide) (ad := "[B") (by decide)
      obtain ⟨b, q48⟩ : ∃ z, z = h0.size := ⟨_, rfl⟩
      rw [← q48] at A48 A48x st48
      have g_b : n0 ≤ b := Nat.le_trans Z0 (Nat.le_of_eq q48.symm)
      have O48 := O0.ext E48
      have V48 := Arv.new A48 (by decide)
      refine own_to (fun t k => st48 t k) ?_
      show own_Fin _ _ _ _ _ _ (T48.setTop (mkF m 30 #[.val (.int p1), .val (.int p2), .val (.int p3), .val (.int p4), .val (.int (0 : Int32)), .val (.int (1 : Int32)), .val .null, .unset, .unset, .unset] [(.ref b)]))
      have V49p : Arv Z h48 b k48 .byte (1 : Int32) [(.int (0 : Int32))] (.int (0 : Int32)) := V48.pad (pad_rep [] (.int (0 : Int32)) 1)
      refine own_to (fun t k => XS.astore X48.here hx rfl (hb hby at_30) rfl rfl (l' := #[.val (.int p1), .val (.int p2), .val (.int p3), .val (.int p4), .val (.int (0 : Int32)), .val (.int (1 : Int32)), .val (.ref b), .unset, .unset, .unset]) rfl k) ?_
      show own_Fin _ _ _ _ _ _ (T48.setTop (mkF m 32 #[.val (.int p1), .val (.int p2), .val (.int p3), .val (.int p4), .val (.int (0 : Int32)), .val (.int (1 : Int32)), .val (.ref b), .unset, .unset, .unset] []))
      refine own_to (fun t k => XS.iload X48.here hx rfl (hb hby at_32) rfl k) ?_
      show own_Fin _ _ _ _ _ _ (T48.setTop (mkF m 34 #[.val (.int p1), .val (.int p2), .val (.int p3), .val (.int p4), .val (.int (0 : Int32)), .val (.int (1 : Int32)), .val (.ref b), .unset, .unset, .unset] [(.int (1 : Int32))]))
      refine own_to (fun t k => XS.ifNo X48.here hx rfl (hb hby at_34) rfl ((if0 _ _).trans (tlt (by decide)).2.2.2) k) ?_
      show own_Fin _ _ _ _ _ _ (T48.setTop (mkF m 37 #[.val (.int p1), .val (.int p2), .val (.int p3), .val (.int p4), .val (.int (0 : Int32)), .val (.int (1 : Int32)), .val (.ref b), .unset, .unset, .unset] []))
      refine own_to (fun t k => XS.aload X48.here hx rfl (hb hby at_37) rfl rfl k) ?_
      show own_Fin _ _ _ _ _ _ (T48.setTop (mkF m 39 #[.val (.int p1), .val (.int p2), .val (.int p3), .val (.int p4), .val (.int (0 : Int32)), .val (.int (1 : Int32)), .val (.ref b), .unset, .unset, .unset] [(.ref b)]))
      refine own_to (fun t k => XS.iconst X48.here hx rfl (hb hby at_39) k) ?_
      show own_Fin _ _ _ _ _ _ (T48.setTop (mkF m 40 #[.val (.int p1), .val (.int p2), .val (.int p3), .val (.int p4), .val (.int (0 : Int32)), .val (.int (1 : Int32)), .val (.ref b), .unset, .unset, .unset] [(.int (0 : Int32)), (.ref b)]))
      refine own_to (fun t k => XS.iloadN X48.here hx rfl (hb hby at_40) rfl k) ?_
      show own_Fin _ _ _ _ _ _ (T48.setTop (mkF m 41 #[.val (.int p1), .val (.int p2), .val (.int p3), .val (.int p4), .val (.int (0 : Int32)), .val (.int (1 : Int32)), .val (.ref b), .unset, .unset, .unset] [(.int p2), (.int (0 : Int32)), (.ref b)]))
      refine own_to (fun t k => XS.i2b X48.here hx rfl (hb hby at_41) rfl k) ?_
      show own_Fin _ _ _ _ _ _ (T48.setTop (mkF m 42 #[.val (.int p1), .val (.int p2), .val (.int p3), .val (.int p4), .val (.int (0 : Int32)), .val (.int (1 : Int32)), .val (.ref b), .unset, .unset, .unset] [(.int (p2.toInt8.toInt32)), (.int (0 : Int32)), (.ref b)]))
      obtain ⟨cl50, Ar50, qa50, Sa50, Na50, Ha50, Ga50⟩ := id V49p
      have hin51 : ¬ ((0 : Int32) < 0 ∨ cl50.slots.size ≤ ((0 : Int32)).toNatClampNeg) := inb_of Sa50 ⟨by decide, by decide⟩
      obtain ⟨T51, h51, X51, e51, W51, st51⟩ := stB X48 hx hZ e48 Ar50 (j := (0 : Int32)) hin51 (g := (mkF m 42 #[.val (.int p1), .val (.int p2), .val (.int p3), .val (.int p4), .val (.int (0 : Int32)), .val (.int (1 : Int32)), .val (.ref b), .unset, .unset, .unset] [(.int (p2.toInt8.toInt32)), (.int (0 : Int32)), (.ref b)])) rfl rfl (hb hby at_42)
      have N51 := Fr.snoc X51 N0 g_b
      have O51 := O48.wr W51 g_b
      have A48x_e51 := A48x.wr W51
      have V51 : Arv Z h51 b k48 .byte (1 : Int32) [(.int (nar .byte (p2.toInt8.toInt32)))] (.int (0 : Int32)) := Arv.set Ar50 qa50 Sa50 Na50 Ha50 Ga50 (fits_nar_byte _) W51 0 rfl (Nat.le_of_ble_eq_true rfl)
      refine own_to (fun t k => st51 t k) ?_
      show own_Fin _ _ _ _ _ _ (T51.setTop (mkF m 43 #[.val (.int p1), .val (.int p2), .val (.int p3), .val (.int p4), .val (.int (0 : Int32)), .val (.int (1 : Int32)), .val (.ref b), .unset, .unset, .unset] []))
      refine own_to (fun t k => XS.iload X51.here hx rfl (hb hby at_43) rfl k) ?_
      show own_Fin _ _ _ _ _ _ (T51.setTop (mkF m 45 #[.val (.int p1), .val (.int p2), .val (.int p3), .val (.int p4), .val (.int (0 : Int32)), .val (.int (1 : Int32)), .val (.ref b), .unset, .unset, .unset] [(.int (1 : Int32))]))
      refine own_to (fun t k => XS.iconst X51.here hx rfl (hb hby at_45) k) ?_
      show own_Fin _ _ _ _ _ _ (T51.setTop (mkF m 46 #[.val (.int p1), .val (.int p2), .val (.int p3), .val (.int p4), .val (.int (0 : Int32)), .val (.int (1 : Int32)), .val (.ref b), .unset, .unset, .unset] [(.int (1 : Int32)), (.int (1 : Int32))]))
      refine own_to (fun t k => XS.icmpYes X51.here hx rfl (pc0 := 46) (pc' := 55) rfl (hb hby at_46) rfl (flt (Int32.lt_irrefl)).2.2.2 (by decide) (by decide) k) ?_
      show own_Fin _ _ _ _ _ _ (T51.setTop (mkF m 55 #[.val (.int p1), .val (.int p2), .val (.int p3), .val (.int p4), .val (.int (0 : Int32)), .val (.int (1 : Int32)), .val (.ref b), .unset, .unset, .unset] []))
      refine own_to (fun t k => XS.iload X51.here hx rfl (hb hby at_55) rfl k) ?_
      show own_Fin _ _ _ _ _ _ (T51.setTop (mkF m 57 #[.val (.int p1), .val (.int p2), .val (.int p3), .val (.int p4), .val (.int (0 : Int32)), .val (.int (1 : Int32)), .val (.ref b), .unset, .unset, .unset] [(.int (1 : Int32))]))
      refine own_to (fun t k => XS.iconst X51.here hx rfl (hb hby at_57) k) ?_
      show own_Fin _ _ _ _ _ _ (T51.setTop (mkF m 58 #[.val (.int p1), .val (.int p2), .val (.int p3), .val (.int p4), .val (.int (0 : Int32)), .val (.int (1 : Int32)), .val (.ref b), .unset, .unset, .unset] [(.int (2 : Int32)), (.int (1 : Int32))]))
      refine own_to (fun t k => XS.icmpYes X51.here hx rfl (pc0 := 58) (pc' := 67) rfl (hb hby at_58) rfl (flt (by decide)).2.2.2 (by decide) (by decide) k) ?_
      show own_Fin _ _ _ _ _ _ (T51.setTop (mkF m 67 #[.val (.int p1), .val (.int p2), .val (.int p3), .val (.int p4), .val (.int (0 : Int32)), .val (.int (1 : Int32)), .val (.ref b), .unset, .unset, .unset] []))
      refine own_to (fun t k => XS.aload X51.here hx rfl (hb hby at_67) rfl rfl k) ?_
      show own_Fin _ _ _ _ _ _ (T51.setTop (mkF m 69 #[.val (.int p1), .val (.int p2), .val (.int p3), .val (.int p4), .val (.int (0 : Int32)), .val (.int (1 : Int32)), .val (.ref b), .unset, .unset, .unset] [(.ref b)]))
      have Vn52 : Arv Z h51 b k48 .byte (1 : Int32) [(.int (p2.toInt8.toInt32))] (.int (0 : Int32)) := by rw [own_idem p2] at V51; exact V51
      obtain ⟨_, _, ⟨T53, L53, k53, n53⟩, -, X53, ⟨Lc53, hQ53, l53, y53, z53⟩, st53⟩ := Jvm.LawKit.callS X51 hx (y := (⟨"com/example/nuthatch/nuthatch/engine/Outcome", "executed", "([B)Lcom/example/nuthatch/nuthatch/engine/Outcome;"⟩ : MethodName)) hown (mvT hZ (hw _ (List.mem_of_getElem? (i := 1) rfl))) (mvT hZ (hw _ (List.mem_of_getElem? (i := 2) rfl))) (mvT hZ (hw _ (List.mem_of_getElem? (i := 3) rfl))) (mvT hZ (hw _ (List.mem_of_getElem? (i := 4) rfl))) (by decide) (own_back (W := 0) (own_exeA l Z a0 hw [] wS b k48 (1 : Int32) [(.int (p2.toInt8.toInt32))] h51 n0 (Nat.le_trans (Nat.le_trans Z0 E48.1) (Keep.of_wr W51).1) O51 SS Vn52 A48x_e51 (by decide)) hZ (hw _ (List.mem_of_getElem? (i := 4) rfl)) (hw _ (List.mem_of_getElem? (i := 3) rfl)) (by decide) (by decide)) (g := (mkF m 69 #[.val (.int p1), .val (.int p2), .val (.int p3), .val (.int p4), .val (.int (0 : Int32)), .val (.int (1 : Int32)), .val (.ref b), .unset, .unset, .unset] [(.ref b)])) rfl (by rw [hml]; rfl) (argsL := [(.ref b)]) (rest := []) (lenOf own_pd3 rfl) rfl (by show 2 * 0 + _ ≤ _; exact Nat.le_of_eq rfl) (hb hby at_69) (fun _ _ => ⟨rfl, e51, (by decide : 1 + 2 ≤ _), (by decide : 1 + 5 ≤ _)⟩)
      dsimp only [Pt.U, Pt.locs, Pt.cells, Pt.slots] at X53 l53 y53 z53 st53 hQ53
      subst l53 y53 z53
      obtain ⟨o, c, rfl, N53q, K53, g_o, szo, g_c, szc, E_o, Fs, Fre, V_c, E_c⟩ := hQ53
      have N53 := Fr.app N51 N53q
      have ne_b_o : b ≠ o := Nat.ne_of_lt (Nat.lt_of_lt_of_le A48x_e51.lt szo)
      have ne_b_c : b ≠ c := Nat.ne_of_lt (Nat.lt_of_lt_of_le A48x_e51.lt szc)
      have O53 := O51.keep K53 all0
      have A48x_e53 := A48x_e51.keep K53
      have Vn52_e53 := Vn52.keep K53 nin0
      refine own_to (fun t k => st53 t k) ?_
      show own_Fin _ _ _ _ _ _ (T53.setTop (mkF m 72 #[.val (.int p1), .val (.int p2), .val (.int p3), .val (.int p4), .val (.int (0 : Int32)), .val (.int (1 : Int32)), .val (.ref b), .unset, .unset, .unset] [(.ref o)]))
      refine own_to (fun t k => XS.astore X53.here hx rfl (hb hby at_72) rfl rfl (l' := #[.val (.int p1), .val (.int p2), .val (.int p3), .val (.int p4), .val (.int (0 : Int32)), .val (.int (1 : Int32)), .val (.ref b), .val (.ref o), .unset, .unset]) rfl k) ?_
      show own_Fin _ _ _ _ _ _ (T53.setTop (mkF m 74 #[.val (.int p1), .val (.int p2), .val (.int p3), .val (.int p4), .val (.int (0 : Int32)), .val (.int (1 : Int32)), .val (.ref b), .val (.ref o), .unset, .unset] []))
      refine own_to (fun t k => XS.aload X53.here hx rfl (hb hby at_74) rfl rfl k) ?_
      show own_Fin _ _ _ _ _ _ (T53.setTop (mkF m 76 #[.val (.int p1), .val (.int p2), .val (.int p3), .val (.int p4), .val (.int (0 : Int32)), .val (.int (1 : Int32)), .val (.ref b), .val (.ref o), .unset, .unset] [(.ref o)]))
      obtain ⟨cq54, kq54, q54a, q54b, q54c⟩ := isOf hZ rfl E_o
      obtain ⟨_, _, ⟨T54, L54, k54, n54⟩, -, X54, ⟨Lc54, hQ54, l54, y54, z54⟩, st54⟩ := X53.virtualBack hx (y := (⟨"com/example/nuthatch/nuthatch/engine/Outcome", "status", "()Lcom/example/nuthatch/nuthatch/engine/Status;"⟩ : MethodName)) (z := (⟨"com/example/nuthatch/nuthatch/engine/Outcome", "status", "()Lcom/example/nuthatch/nuthatch/engine/Status;"⟩ : MethodName)) hown (mvT hZ (hw _ (List.mem_of_getElem? (i := 29) rfl))) (mvT hZ (hw _ (List.mem_of_getElem? (i := 30) rfl))) (notFace_of_selects (args := #[]) (mvT hZ (hw _ (List.mem_of_getElem? (i := 32) rfl)))) (mvT hZ (hw _ (List.mem_of_getElem? (i := 32) rfl))) (mvT hZ (hw _ (List.mem_of_getElem? (i := 31) rfl))) (by decide) (own_back (W := 0) (own_rm4 l Z a0 hw [] o wS T53.heap n0 (Nat.le_trans (Nat.le_trans (Nat.le_trans Z0 E48.1) (Keep.of_wr W51).1) K53.1) Fs) hZ (hw _ (List.mem_of_getElem? (i := 33) rfl)) (hw _ (List.mem_of_getElem? (i := 3) rfl)) (by decide) (by decide)) q54a q54c (g := (mkF m 76 #[.val (.int p1), .val (.int p2), .val (.int p3), .val (.int p4), .val (.int (0 : Int32)), .val (.int (1 : Int32)), .val (.ref b), .val (.ref o), .unset, .unset] [(.ref o)])) rfl (by rw [hml]; rfl) (Steps.refl _) (argsL := []) (rest := []) (lenOf own_pd4 rfl) rfl (by show 2 * 0 + _ ≤ _; exact Nat.le_of_eq rfl) (hb hby at_76) (fun _ _ => ⟨rfl, rfl, (by decide : 3 + 0 ≤ _), (by decide : 6 + 0 ≤ _)⟩)
      dsimp only [Pt.U, Pt.locs, Pt.cells, Pt.slots] at X54 l54 y54 z54 st54 hQ54
      subst l54 y54 z54
      obtain ⟨rfl, N54q, eh54⟩ := hQ54
      have N54 := Fr.app N53 N54q
      refine own_to (fun t k => st54.trans k) ?_
      show own_Fin _ _ _ _ _ _ (T54.setTop (mkF m 79 #[.val (.int p1), .val (.int p2), .val (.int p3), .val (.int p4), .val (.int (0 : Int32)), .val (.int (1 : Int32)), .val (.ref b), .val (.ref o), .unset, .unset] [(.ref wS)]))
      obtain ⟨T55, X55, e55, st55⟩ := getS2 X54 hx hZ hown (host := "") (Or.inl (hw _ (List.mem_of_getElem? (i := 34) rfl))) Via.refl eh54 (SS.ext O53.2) (g := (mkF m 79 #[.val (.int p1), .val (.int p2), .val (.int p3), .val (.int p4), .val (.int (0 : Int32)), .val (.int (1 : Int32)), .val (.ref b), .val (.ref o), .unset, .unset] [(.ref wS)])) rfl (hb hby at_79)
      refine own_to (fun t k => st55 t k) ?_
      show own_Fin _ _ _ _ _ _ (T55.setTop (mkF m 82 #[.val (.int p1), .val (.int p2), .val (.int p3), .val (.int p4), .val (.int (0 : Int32)), .val (.int (1 : Int32)), .val (.ref b), .val (.ref o), .unset, .unset] [(.ref wS), (.ref wS)]))
      refine own_to (fun t k => Jvm.RoadKit.acmp (g := (mkF m 82 #[.val (.int p1), .val (.int p2), .val (.int p3), .val (.int p4), .val (.int (0 : Int32)), .val (.int (1 : Int32)), .val (.ref b), .val (.ref o), .unset, .unset] [(.ref wS), (.ref wS)])) X55 hx rfl rfl rfl (pc0 := 82) (pc' := 87) (same := true) rfl (hb hby at_82) rfl (decide_eq_true rfl) (by decide) (by decide) k) ?_
      show own_Fin _ _ _ _ _ _ (T55.setTop (mkF m 87 #[.val (.int p1), .val (.int p2), .val (.int p3), .val (.int p4), .val (.int (0 : Int32)), .val (.int (1 : Int32)), .val (.ref b), .val (.ref o), .unset, .unset] []))
      refine own_to (fun t k => XS.aload X55.here hx rfl (hb hby at_87) rfl rfl k) ?_
      show own_Fin _ _ _ _ _ _ (T55.setTop (mkF m 89 #[.val (.int p1), .val (.int p2), .val (.int p3), .val (.int p4), .val (.int (0 : Int32)), .val (.int (1 : Int32)), .val (.ref b), .val (.ref o), .unset, .unset] [(.ref b)]))
      refine own_to (fun t k => XS.ifnullNo X55.here hx rfl (hb hby at_89) rfl k) ?_
      show own_Fin _ _ _ _ _ _ (T55.setTop (mkF m 92 #[.val (.int p1), .val (.int p2), .val (.int p3), .val (.int p4), .val (.int (0 : Int32)), .val (.int (1 : Int32)), .val (.ref b), .val (.ref o), .unset, .unset] []))
      refine own_to (fun t k => XS.iload X55.here hx rfl (hb hby at_92) rfl k) ?_
      show own_Fin _ _ _ _ _ _ (T55.setTop (mkF m 94 #[.val (.int p1), .val (.int p2), .val (.int p3), .val (.int p4), .val (.int (0 : Int32)), .val (.int (1 : Int32)), .val (.ref b), .val (.ref o), .unset, .unset] [(.int (1 : Int32))]))
      refine own_to (fun t k => XS.ifNo X55.here hx rfl (hb hby at_94) rfl ((if0 _ _).trans (tlt (by decide)).2.2.2) k) ?_
      show own_Fin _ _ _ _ _ _ (T55.setTop (mkF m 97 #[.val (.int p1), .val (.int p2), .val (.int p3), .val (.int p4), .val (.int (0 : Int32)), .val (.int (1 : Int32)), .val (.ref b), .val (.ref o), .unset, .unset] []))
      refine own_to (fun t k => XS.aload X55.here hx rfl (hb hby at_97) rfl rfl k) ?_
      show own_Fin _ _ _ _ _ _ (T55.setTop (mkF m 99 #[.val (.int p1), .val (.int p2), .val (.int p3), .val (.int p4), .val (.int (0 : Int32)), .val (.int (1 : Int32)), .val (.ref b), .val (.ref o), .unset, .unset] [(.ref b)]))
      refine own_to (fun t k => XS.iconst X55.here hx rfl (hb hby at_99) k) ?_
      show own_Fin _ _ _ _ _ _ (T55.setTop (mkF m 100 #[.val (.int p1), .val (.int p2), .val (.int p3), .val (.int p4), .val (.int (0 : Int32)), .val (.int (1 : Int32)), .val (.ref b), .val (.ref o), .unset, .unset] [(.int (0 : Int32)), (.ref b)]))
      refine own_to (fun t k => XS.iloadN X55.here hx rfl (hb hby at_100) rfl k) ?_
      show own_Fin _ _ _ _ _ _ (T55.setTop (mkF m 101 #[.val (.int p1), .val (.int p2), .val (.int p3), .val (.int p4), .val (.int (0 : Int32)), .val (.int (1 : Int32)), .val (.ref b), .val (.ref o), .unset, .unset] [(.int p2), (.int (0 : Int32)), (.ref b)]))
      refine own_to (fun t k => XS.iconst X55.here hx rfl (hb hby at_101) k) ?_
      show own_Fin _ _ _ _ _ _ (T55.setTop (mkF m 102 #[.val (.int p1), .val (.int p2), .val (.int p3), .val (.int p4), .val (.int (0 : Int32)), .val (.int (1 : Int32)), .val (.ref b), .val (.ref o), .unset, .unset] [(.int (-1 : Int32)), (.int p2), (.int (0 : Int32)), (.ref b)]))
      refine own_to (fun t k => XS.ixor X55.here hx rfl (hb hby at_102) rfl k) ?_
      show own_Fin _ _ _ _ _ _ (T55.setTop (mkF m 103 #[.val (.int p1), .val (.int p2), .val (.int p3), .val (.int p4), .val (.int (0 : Int32)), .val (.int (1 : Int32)), .val (.ref b), .val (.ref o), .unset, .unset] [(.int (p2 ^^^ (-1 : Int32))), (.int (0 : Int32)), (.ref b)]))
      refine own_to (fun t k => XS.i2b X55.here hx rfl (hb hby at_103) rfl k) ?_
      show own_Fin _ _ _ _ _ _ (T55.setTop (mkF m 104 #[.val (.int p1), .val (.int p2), .val (.int p3), .val (.int p4), .val (.int (0 : Int32)), .val (.int (1 : Int32)), .val (.ref b), .val (.ref o), .unset, .unset] [(.int ((p2 ^^^ (-1 : Int32)).toInt8.toInt32)), (.int (0 : Int32)), (.ref b)]))
      obtain ⟨cl56, Ar56, qa56, Sa56, Na56, Ha56, Ga56⟩ := id Vn52_e53
      have hin57 : ¬ ((0 : Int32) < 0 ∨ cl56.slots.size ≤ ((0 : Int32)).toNatClampNeg) := inb_of Sa56 ⟨by decide, by decide⟩
      obtain ⟨T57, h57, X57, e57, W57, st57⟩ := stB X55 hx hZ e55 Ar56 (j := (0 : Int32)) hin57 (g := (mkF m 104 #[.val (.int p1), .val (.int p2), .val (.int p3), .val (.int p4), .val (.int (0 : Int32)), .val (.int (1 : Int32)), .val (.ref b), .val (.ref o), .unset, .unset] [(.int ((p2 ^^^ (-1 : Int32)).toInt8.toInt32)), (.int (0 : Int32)), (.ref b)])) rfl rfl (hb hby at_104)
      have N57 := Fr.snoc X57 N54 g_b
      have O57 := O53.wr W57 g_b
      have A48x_e57 := A48x_e53.wr W57
      have E_o_e57 := E_o.wr W57
      have Fs_e57 := Fs.other W57 (Or.inl (Ne.symm ne_b_o))
      have Fre_e57 := Fre.other W57 (Or.inl (Ne.symm ne_b_o))
      have V_c_e57 := V_c.other W57 (Ne.symm ne_b_c)
      have E_c_e57 := E_c.wr W57
      have V57 : Arv Z h57 b k48 .byte (1 : Int32) [(.int (nar .byte ((p2 ^^^ (-1 : Int32)).toInt8.toInt32)))] (.int (0 : Int32)) := Arv.set Ar56 qa56 Sa56 Na56 Ha56 Ga56 (fits_nar_byte _) W57 0 rfl (Nat.le_of_ble_eq_true rfl)
      refine own_to (fun t k => st57 t k) ?_
      show own_Fin _ _ _ _ _ _ (T57.setTop (mkF m 105 #[.val (.int p1), .val (.int p2), .val (.int p3), .val (.int p4), .val (.int (0 : Int32)), .val (.int (1 : Int32)), .val (.ref b), .val (.ref o), .unset, .unset] []))
      refine own_to (fun t k => XS.aload X57.here hx rfl (hb hby at_105) rfl rfl k) ?_
      show own_Fin _ _ _ _ _ _ (T57.setTop (mkF m 107 #[.val (.int p1), .val (.int p2), .val (.int p3), .val (.int p4), .val (.int (0 : Int32)), .val (.int (1 : Int32)), .val (.ref b), .val (.ref o), .unset, .unset] [(.ref o)]))
      obtain ⟨cq58, kq58, q58a, q58b, q58c⟩ := isOf hZ e57 E_o_e57
      obtain ⟨_, _, ⟨T58, L58, k58, n58⟩, -, X58, ⟨Lc58, hQ58, l58, y58, z58⟩, st58⟩ := X57.virtualBack hx (y := (⟨"com/example/nuthatch/nuthatch/engine/Outcome", "response", "()[B"⟩ : MethodName)) (z := (⟨"com/example/nuthatch/nuthatch/engine/Outcome", "response", "()[B"⟩ : MethodName)) hown (mvT hZ (hw _ (List.mem_of_getElem? (i := 35) rfl))) (mvT hZ (hw _ (List.mem_of_getElem? (i := 36) rfl))) (notFace_of_selects (args := #[]) (mvT hZ (hw _ (List.mem_of_getElem? (i := 38) rfl)))) (mvT hZ (hw _ (List.mem_of_getElem? (i := 38) rfl))) (mvT hZ (hw _ (List.mem_of_getElem? (i := 37) rfl))) (by decide) (own_back (W := 0) (own_resA l Z a0 hw [] o c k48 (1 : Int32) [(.int (p2.toInt8.toInt32))] h57 n0 (Nat.le_trans (Nat.le_trans (Nat.le_trans (Nat.le_trans Z0 E48.1) (Keep.of_wr W51).1) K53.1) (Keep.of_wr W57).1) Fre_e57 V_c_e57 E_c_e57 (by decide)) hZ (hw _ (List.mem_of_getElem? (i := 39) rfl)) (hw _ (List.mem_of_getElem? (i := 3) rfl)) (by decide) (by decide)) q58a q58c (g := (mkF m 107 #[.val (.int p1), .val (.int p2), .val (.int p3), .val (.int p4), .val (.int (0 : Int32)), .val (.int (1 : Int32)), .val (.ref b), .val (.ref o), .unset, .unset] [(.ref o)])) rfl (by rw [hml]; rfl) (Steps.refl _) (argsL := []) (rest := []) (lenOf own_pd5 rfl) rfl (by show 2 * 0 + _ ≤ _; exact Nat.le_of_eq rfl) (hb hby at_107) (fun _ _ => ⟨rfl, e57, (by decide : 3 + 1 ≤ _), (by decide : 6 + 3 ≤ _)⟩)
      dsimp only [Pt.U, Pt.locs, Pt.cells, Pt.slots] at X58 l58 y58 z58 st58 hQ58
      subst l58 y58 z58
      obtain ⟨d, rfl, N58q, K58, g_d, szd, V_d, E_d⟩ := hQ58
      have N58 := Fr.app N57 N58q
      have ne_b_d : b ≠ d := Nat.ne_of_lt (Nat.lt_of_lt_of_le A48x_e57.lt szd)
      have ne_o_d : o ≠ d := Nat.ne_of_lt (Nat.lt_of_lt_of_le E_o_e57.lt szd)
      have ne_c_d : c ≠ d := Nat.ne_of_lt (Nat.lt_of_lt_of_le V_c_e57.lt szd)
      have O58 := O57.keep K58 all0
      have A48x_e58 := A48x_e57.keep K58
      have E_o_e58 := E_o_e57.keep K58
      have Fs_e58 := Fs_e57.keep K58 nin0
      have Fre_e58 := Fre_e57.keep K58 nin0
      have V_c_e58 := V_c_e57.keep K58 nin0
      have E_c_e58 := E_c_e57.keep K58
      have V57_e58 := V57.keep K58 nin0
      refine own_to (fun t k => st58.trans k) ?_
      show own_Fin _ _ _ _ _ _ (T58.setTop (mkF m 110 #[.val (.int p1), .val (.int p2), .val (.int p3), .val (.int p4), .val (.int (0 : Int32)), .val (.int (1 : Int32)), .val (.ref b), .val (.ref o), .unset, .unset] [(.ref d)]))
      refine own_to (fun t k => XS.astore X58.here hx rfl (hb hby at_110) rfl rfl (l' := #[.val (.int p1), .val (.int p2), .val (.int p3), .val (.int p4), .val (.int (0 : Int32)), .val (.int (1 : Int32)), .val (.ref b), .val (.ref o), .val (.ref d), .unset]) rfl k) ?_
      show own_Fin _ _ _ _ _ _ (T58.setTop (mkF m 112 #[.val (.int p1), .val (.int p2), .val (.int p3), .val (.int p4), .val (.int (0 : Int32)), .val (.int (1 : Int32)), .val (.ref b), .val (.ref o), .val (.ref d), .unset] []))
      refine own_to (fun t k => XS.iload X58.here hx rfl (hb hby at_112) rfl k) ?_
      show own_Fin _ _ _ _ _ _ (T58.setTop (mkF m 114 #[.val (.int p1), .val (.int p2), .val (.int p3), .val (.int p4), .val (.int (0 : Int32)), .val (.int (1 : Int32)), .val (.ref b), .val (.ref o), .val (.ref d), .unset] [(.int (0 : Int32))]))
      refine own_to (fun t k => XS.ifYes X58.here hx rfl (pc0 := 114) (pc' := 128) rfl (hb hby at_114) rfl ((if0 _ _).trans (teq rfl).1) (by decide) (by decide) k) ?_
      show own_Fin _ _ _ _ _ _ (T58.setTop (mkF m 128 #[.val (.int p1), .val (.int p2), .val (.int p3), .val (.int p4), .val (.int (0 : Int32)), .val (.int (1 : Int32)), .val (.ref b), .val (.ref o), .val (.ref d), .unset] []))
      refine own_to (fun t k => XS.aload X58.here hx rfl (hb hby at_128) rfl rfl k) ?_
      show own_Fin _ _ _ _ _ _ (T58.setTop (mkF m 130 #[.val (.int p1), .val (.int p2), .val (.int p3), .val (.int p4), .val (.int (0 : Int32)), .val (.int (1 : Int32)), .val (.ref b), .val (.ref o), .val (.ref d), .unset] [(.ref d)]))
      refine own_to (fun t k => XS.iload X58.here hx rfl (hb hby at_130) rfl k) ?_
      show own_Fin _ _ _ _ _ _ (T58.setTop (mkF m 132 #[.val (.int p1), .val (.int p2), .val (.int p3), .val (.int p4), .val (.int (0 : Int32)), .val (.int (1 : Int32)), .val (.ref b), .val (.ref o), .val (.ref d), .unset] [(.int (1 : Int32)), (.ref d)]))
      refine own_to (fun t k => XS.iloadN X58.here hx rfl (hb hby at_132) rfl k) ?_
      show own_Fin _ _ _ _ _ _ (T58.setTop (mkF m 133 #[.val (.int p1), .val (.int p2), .val (.int p3), .val (.int p4), .val (.int (0 : Int32)), .val (.int (1 : Int32)), .val (.ref b), .val (.ref o), .val (.ref d), .unset] [(.int p2), (.int (1 : Int32)), (.ref d)]))
      refine own_to (fun t k => XS.iloadN X58.here hx rfl (hb hby at_133) rfl k) ?_
      show own_Fin _ _ _ _ _ _ (T58.setTop (mkF m 134 #[.val (.int p1), .val (.int p2), .val (.int p3), .val (.int p4), .val (.int (0 : Int32)), .val (.int (1 : Int32)), .val (.ref b), .val (.ref o), .val (.ref d), .unset] [(.int p3), (.int p2), (.int (1 : Int32)), (.ref d)]))
      refine own_to (fun t k => XS.iloadN X58.here hx rfl (hb hby at_134) rfl k) ?_
      show own_Fin _ _ _ _ _ _ (T58.setTop (mkF m 135 #[.val (.int p1), .val (.int p2), .val (.int p3), .val (.int p4), .val (.int (0 : Int32)), .val (.int (1 : Int32)), .val (.ref b), .val (.ref o), .val (.ref d), .unset] [(.int p4), (.int p3), (.int p2), (.int (1 : Int32)), (.ref d)]))
      obtain ⟨_, _, ⟨T59, L59, k59, n59⟩, -, X59, ⟨Lc59, hQ59, l59, y59, z59⟩, st59⟩ := Jvm.LawKit.callS X58 hx (y := (⟨"com/example/nuthatch/nuthatch/engine/OutcomeExecutedPinLaw", "holds", "([BIIII)Z"⟩ : MethodName)) hown (mvT hZ (hw _ (List.mem_of_getElem? (i := 40) rfl))) (mvT hZ (hw _ (List.mem_of_getElem? (i := 41) rfl))) (mvT hZ (hw _ (List.mem_of_getElem? (i := 42) rfl))) (mvT hZ (hw _ (List.mem_of_getElem? (i := 43) rfl))) (by decide) (own_back (W := 0) (own_holds1 l Z a0 hw [] d p2 p3 p4 k48 T58.heap n0 (Nat.le_trans (Nat.le_trans (Nat.le_trans (Nat.le_trans (Nat.le_trans Z0 E48.1) (Keep.of_wr W51).1) K53.1) (Keep.of_wr W57).1) K58.1) V_d) hZ (hw _ (List.mem_of_getElem? (i := 43) rfl)) (hw _ (List.mem_of_getElem? (i := 42) rfl)) (by decide) (by decide)) (g := (mkF m 135 #[.val (.int p1), .val (.int p2), .val (.int p3), .val (.int p4), .val (.int (0 : Int32)), .val (.int (1 : Int32)), .val (.ref b), .val (.ref o), .val (.ref d), .unset] [(.int p4), (.int p3), (.int p2), (.int (1 : Int32)), (.ref d)])) rfl (by rw [hml]; rfl) (argsL := [(.ref d), (.int (1 : Int32)), (.int p2), (.int p3), (.int p4)]) (rest := []) (lenOf own_pd6 rfl) rfl (by show 2 * 0 + _ ≤ _; exact Nat.le_of_eq rfl) (hb hby at_135) (fun _ _ => ⟨rfl, rfl, (by decide : 4 + 0 ≤ _), (by decide : 9 + 0 ≤ _)⟩)
      dsimp only [Pt.U, Pt.locs, Pt.cells, Pt.slots] at X59 l59 y59 z59 st59 hQ59
      subst l59 y59 z59
      obtain ⟨rfl, N59q, eh59⟩ := hQ59
      have N59 := Fr.app N58 N59q
      refine own_to (fun t k => st59 t k) ?_
      show own_Fin _ _ _ _ _ _ (T59.setTop (mkF m 138 #[.val (.int p1), .val (.int p2), .val (.int p3), .val (.int p4), .val (.int (0 : Int32)), .val (.int (1 : Int32)), .val (.ref b), .val (.ref o), .val (.ref d), .unset] [(.int (1 : Int32))]))
      refine own_to (fun t k => XS.ifYes X59.here hx rfl (pc0 := 138) (pc' := 143) rfl (hb hby at_138) rfl ((if0 _ _).trans (feq (by decide)).2) (by decide) (by decide) k) ?_
      show own_Fin _ _ _ _ _ _ (T59.setTop (mkF m 143 #[.val (.int p1), .val (.int p2), .val (.int p3), .val (.int p4), .val (.int (0 : Int32)), .val (.int (1 : Int32)), .val (.ref b), .val (.ref o), .val (.ref d), .unset] []))
      refine own_to (fun t k => XS.iload X59.here hx rfl (hb hby at_143) rfl k) ?_
      show own_Fin _ _ _ _ _ _ (T59.setTop (mkF m 145 #[.val (.int p1), .val (.int p2), .val (.int p3), .val (.int p4), .val (.int (0 : Int32)), .val (.int (1 : Int32)), .val (.ref b), .val (.ref o), .val (.ref d), .unset] [(.int (1 : Int32))]))
      refine own_to (fun t k => XS.ifNo X59.here hx rfl (hb hby at_145) rfl ((if0 _ _).trans (tlt (by decide)).2.2.2) k) ?_
      show own_Fin _ _ _ _ _ _ (T59.setTop (mkF m 148 #[.val (.int p1), .val (.int p2), .val (.int p3), .val (.int p4), .val (.int (0 : Int32)), .val (.int (1 : Int32)), .val (.ref b), .val (.ref o), .val (.ref d), .unset] []))
      refine own_to (fun t k => XS.aload X59.here hx rfl (hb hby at_148) rfl rfl k) ?_
      show own_Fin _ _ _ _ _ _ (T59.setTop (mkF m 150 #[.val (.int p1), .val (.int p2), .val (.int p3), .val (.int p4), .val (.int (0 : Int32)), .val (.int (1 : Int32)), .val (.ref b), .val (.ref o), .val (.ref d), .unset] [(.ref d)]))
      refine own_to (fun t k => XS.iconst X59.here hx rfl (hb hby at_150) k) ?_
      show own_Fin _ _ _ _ _ _ (T59.setTop (mkF m 151 #[.val (.int p1), .val (.int p2), .val (.int p3), .val (.int p4), .val (.int (0 : Int32)), .val (.int (1 : Int32)), .val (.ref b), .val (.ref o), .val (.ref d), .unset] [(.int (0 : Int32)), (.ref d)]))
      refine own_to (fun t k => XS.iloadN X59.here hx rfl (hb hby at_151) rfl k) ?_
      show own_Fin _ _ _ _ _ _ (T59.setTop (mkF m 152 #[.val (.int p1), .val (.int p2), .val (.int p3), .val (.int p4), .val (.int (0 : Int32)), .val (.int (1 : Int32)), .val (.ref b), .val (.ref o), .val (.ref d), .unset] [(.int p2), (.int (0 : Int32)), (.ref d)]))
      refine own_to (fun t k => XS.iconst X59.here hx rfl (hb hby at_152) k) ?_
      show own_Fin _ _ _ _ _ _ (T59.setTop (mkF m 153 #[.val (.int p1), .val (.int p2), .val (.int p3), .val (.int p4), .val (.int (0 : Int32)), .val (.int (1 : Int32)), .val (.ref b), .val (.ref o), .val (.ref d), .unset] [(.int (-1 : Int32)), (.int p2), (.int (0 : Int32)), (.ref d)]))
      refine own_to (fun t k => XS.ixor X59.here hx rfl (hb hby at_153) rfl k) ?_
      show own_Fin _ _ _ _ _ _ (T59.setTop (mkF m 154 #[.val (.int p1), .val (.int p2), .val (.int p3), .val (.int p4), .val (.int (0 : Int32)), .val (.int (1 : Int32)), .val (.ref b), .val (.ref o), .val (.ref d), .unset] [(.int (p2 ^^^ (-1 : Int32))), (.int (0 : Int32)), (.ref d)]))
      refine own_to (fun t k => XS.i2b X59.here hx rfl (hb hby at_154) rfl k) ?_
      show own_Fin _ _ _ _ _ _ (T59.setTop (mkF m 155 #[.val (.int p1), .val (.int p2), .val (.int p3), .val (.int p4), .val (.int (0 : Int32)), .val (.int (1 : Int32)), .val (.ref b), .val (.ref o), .val (.ref d), .unset] [(.int ((p2 ^^^ (-1 : Int32)).toInt8.toInt32)), (.int (0 : Int32)), (.ref d)]))
      obtain ⟨cl60, Ar60, qa60, Sa60, Na60, Ha60, Ga60⟩ := id V_d
      have hin61 : ¬ ((0 : Int32) < 0 ∨ cl60.slots.size ≤ ((0 : Int32)).toNatClampNeg) := inb_of Sa60 ⟨by decide, by decide⟩
      obtain ⟨T61, h61, X61, e61, W61, st61⟩ := stB X59 hx hZ eh59 Ar60 (j := (0 : Int32)) hin61 (g := (mkF m 155 #[.val (.int p1), .val (.int p2), .val (.int p3), .val (.int p4), .val (.int (0 : Int32)), .val (.int (1 : Int32)), .val (.ref b), .val (.ref o), .val (.ref d), .unset] [(.int ((p2 ^^^ (-1 : Int32)).toInt8.toInt32)), (.int (0 : Int32)), (.ref d)])) rfl rfl (hb hby at_155)
      have N61 := Fr.snoc X61 N59 g_d
      have O61 := O58.wr W61 g_d
      have A48x_e61 := A48x_e58.wr W61
      have E_o_e61 := E_o_e58.wr W61
      have Fs_e61 := Fs_e58.other W61 (Or.inl ne_o_d)
      have Fre_e61 := Fre_e58.other W61 (Or.inl ne_o_d)
      have V_c_e61 := V_c_e58.other W61 ne_c_d
      have E_c_e61 := E_c_e58.wr W61
      have V57_e61 := V57_e58.other W61 ne_b_d
      have E_d_e61 := E_d.wr W61
      have V61 : Arv Z h61 d k48 .byte (1 : Int32) [(.int (nar .byte ((p2 ^^^ (-1 : Int32)).toInt8.toInt32)))] (.int (0 : Int32)) := Arv.set Ar60 qa60 Sa60 Na60 Ha60 Ga60 (fits_nar_byte _) W61 0 rfl (Nat.le_of_ble_eq_true rfl)
      refine own_to (fun t k => st61 t k) ?_
      show own_Fin _ _ _ _ _ _ (T61.setTop (mkF m 156 #[.val (.int p1), .val (.int p2), .val (.int p3), .val (.int p4), .val (.int (0 : Int32)), .val (.int (1 : Int32)), .val (.ref b), .val (.ref o), .val (.ref d), .unset] []))
      refine own_to (fun t k => XS.aload X61.here hx rfl (hb hby at_156) rfl rfl k) ?_
      show own_Fin _ _ _ _ _ _ (T61.setTop (mkF m 158 #[.val (.int p1), .val (.int p2), .val (.int p3), .val (.int p4), .val (.int (0 : Int32)), .val (.int (1 : Int32)), .val (.ref b), .val (.ref o), .val (.ref d), .unset] [(.ref o)]))
      obtain ⟨cq62, kq62, q62a, q62b, q62c⟩ := isOf hZ e61 E_o_e61
      obtain ⟨_, _, ⟨T62, L62, k62, n62⟩, -, X62, ⟨Lc62, hQ62, l62, y62, z62⟩, st62⟩ := X61.virtualBack hx (y := (⟨"com/example/nuthatch/nuthatch/engine/Outcome", "response", "()[B"⟩ : MethodName)) (z := (⟨"com/example/nuthatch/nuthatch/engine/Outcome", "response", "()[B"⟩ : MethodName)) hown (mvT hZ (hw _ (List.mem_of_getElem? (i := 35) rfl))) (mvT hZ (hw _ (List.mem_of_getElem? (i := 36) rfl))) (notFace_of_selects (args := #[]) (mvT hZ (hw _ (List.mem_of_getElem? (i := 38) rfl)))) (mvT hZ (hw _ (List.mem_of_getElem? (i := 38) rfl))) (mvT hZ (hw _ (List.mem_of_getElem? (i := 37) rfl))) (by decide) (own_back (W := 0) (own_resA l Z a0 hw [] o c k48 (1 : Int32) [(.int (p2.toInt8.toInt32))] h61 n0 (Nat.le_trans (Nat.le_trans (Nat.le_trans (Nat.le_trans (Nat.le_trans (Nat.le_trans Z0 E48.1) (Keep.of_wr W51).1) K53.1) (Keep.of_wr W57).1) K58.1) (Keep.of_wr W61).1) Fre_e61 V_c_e61 E_c_e61 (by decide)) hZ (hw _ (List.mem_of_getElem? (i := 39) rfl)) (hw _ (List.mem_of_getElem? (i := 3) rfl)) (by decide) (by decide)) q62a q62c (g := (mkF m 158 #[.val (.int p1), .val (.int p2), .val (.int p3), .val (.int p4), .val (.int (0 : Int32)), .val (.int (1 : Int32)), .val (.ref b), .val (.ref o), .val (.ref d), .unset] [(.ref o)])) rfl (by rw [hml]; rfl) (Steps.refl _) (argsL := []) (rest := []) (lenOf own_pd5 rfl) rfl (by show 2 * 0 + _ ≤ _; exact Nat.le_of_eq rfl) (hb hby at_158) (fun _ _ => ⟨rfl, e61, (by decide : 4 + 1 ≤ _), (by decide : 9 + 3 ≤ _)⟩)
      dsimp only [Pt.U, Pt.locs, Pt.cells, Pt.slots] at X62 l62 y62 z62 st62 hQ62
      subst l62 y62 z62
      obtain ⟨e2, rfl, N62q, K62, g_e2, sze2, V_e2, E_e2⟩ := hQ62
      have N62 := Fr.app N61 N62q
      have ne_b_e2 : b ≠ e2 := Nat.ne_of_lt (Nat.lt_of_lt_of_le A48x_e61.lt sze2)
      have ne_o_e2 : o ≠ e2 := Nat.ne_of_lt (Nat.lt_of_lt_of_le E_o_e61.lt sze2)
      have ne_c_e2 : c ≠ e2 := Nat.ne_of_lt (Nat.lt_of_lt_of_le V_c_e61.lt sze2)
      have ne_d_e2 : d ≠ e2 := Nat.ne_of_lt (Nat.lt_of_lt_of_le E_d_e61.lt sze2)
      have O62 := O61.keep K62 all0
      have A48x_e62 := A48x_e61.keep K62
      have E_o_e62 := E_o_e61.keep K62
      have Fs_e62 := Fs_e61.keep K62 nin0
      have Fre_e62 := Fre_e61.keep K62 nin0
      have V_c_e62 := V_c_e61.keep K62 nin0
      have E_c_e62 := E_c_e61.keep K62
      have V57_e62 := V57_e61.keep K62 nin0
      have E_d_e62 := E_d_e61.keep K62
      have V61_e62 := V61.keep K62 nin0
      refine own_to (fun t k => st62.trans k) ?_
      show own_Fin _ _ _ _ _ _ (T62.setTop (mkF m 161 #[.val (.int p1), .val (.int p2), .val (.int p3), .val (.int p4), .val (.int (0 : Int32)), .val (.int (1 : Int32)), .val (.ref b), .val (.ref o), .val (.ref d), .unset] [(.ref e2)]))
      refine own_to (fun t k => XS.astore X62.here hx rfl (hb hby at_161) rfl rfl (l' := #[.val (.int p1), .val (.int p2), .val (.int p3), .val (.int p4), .val (.int (0 : Int32)), .val (.int (1 : Int32)), .val (.ref b), .val (.ref o), .val (.ref d), .val (.ref e2)]) rfl k) ?_
      show own_Fin _ _ _ _ _ _ (T62.setTop (mkF m 163 #[.val (.int p1), .val (.int p2), .val (.int p3), .val (.int p4), .val (.int (0 : Int32)), .val (.int (1 : Int32)), .val (.ref b), .val (.ref o), .val (.ref d), .val (.ref e2)] []))
      refine own_to (fun t k => XS.aload X62.here hx rfl (hb hby at_163) rfl rfl k) ?_
      show own_Fin _ _ _ _ _ _ (T62.setTop (mkF m 165 #[.val (.int p1), .val (.int p2), .val (.int p3), .val (.int p4), .val (.int (0 : Int32)), .val (.int (1 : Int32)), .val (.ref b), .val (.ref o), .val (.ref d), .val (.ref e2)] [(.ref e2)]))
      refine own_to (fun t k => XS.iload X62.here hx rfl (hb hby at_165) rfl k) ?_
      show own_Fin _ _ _ _ _ _ (T62.setTop (mkF m 167 #[.val (.int p1), .val (.int p2), .val (.int p3), .val (.int p4), .val (.int (0 : Int32)), .val (.int (1 : Int32)), .val (.ref b), .val (.ref o), .val (.ref d), .val (.ref e2)] [(.int (1 : Int32)), (.ref e2)]))
      refine own_to (fun t k => XS.iloadN X62.here hx rfl (hb hby at_167) rfl k) ?_
      show own_Fin _ _ _ _ _ _ (T62.setTop (mkF m 168 #[.val (.int p1), .val (.int p2), .val (.int p3), .val (.int p4), .val (.int (0 : Int32)), .val (.int (1 : Int32)), .val (.ref b), .val (.ref o), .val (.ref d), .val (.ref e2)] [(.int p2), (.int (1 : Int32)), (.ref e2)]))
      refine own_to (fun t k => XS.iloadN X62.here hx rfl (hb hby at_168) rfl k) ?_
      show own_Fin _ _ _ _ _ _ (T62.setTop (mkF m 169 #[.val (.int p1), .val (.int p2), .val (.int p3), .val (.int p4), .val (.int (0 : Int32)), .val (.int (1 : Int32)), .val (.ref b), .val (.ref o), .val (.ref d), .val (.ref e2)] [(.int p3), (.int p2), (.int (1 : Int32)), (.ref e2)]))
      refine own_to (fun t k => XS.iloadN X62.here hx rfl (hb hby at_169) rfl k) ?_
      show own_Fin _ _ _ _ _ _ (T62.setTop (mkF m 170 #[.val (.int p1), .val (.int p2), .val (.int p3), .val (.int p4), .val (.int (0 : Int32)), .val (.int (1 : Int32)), .val (.ref b), .val (.ref o), .val (.ref d), .val (.ref e2)] [(.int p4), (.int p3), (.int p2), (.int (1 : Int32)), (.ref e2)]))
      obtain ⟨_, _, ⟨T63, L63, k63, n63⟩, -, X63, ⟨Lc63, hQ63, l63, y63, z63⟩, st63⟩ := Jvm.LawKit.callS X62 hx (y := (⟨"com/example/nuthatch/nuthatch/engine/OutcomeExecutedPinLaw", "holds", "([BIIII)Z"⟩ : MethodName)) hown (mvT hZ (hw _ (List.mem_of_getElem? (i := 40) rfl))) (mvT hZ (hw _ (List.mem_of_getElem? (i := 41) rfl))) (mvT hZ (hw _ (List.mem_of_getElem? (i := 42) rfl))) (mvT hZ (hw _ (List.mem_of_getElem? (i := 43) rfl))) (by decide) (own_back (W := 0) (own_holds1 l Z a0 hw [] e2 p2 p3 p4 k48 T62.heap n0 (Nat.le_trans (Nat.le_trans (Nat.le_trans (Nat.le_trans (Nat.le_trans (Nat.le_trans (Nat.le_trans Z0 E48.1) (Keep.of_wr W51).1) K53.1) (Keep.of_wr W57).1) K58.1) (Keep.of_wr W61).1) K62.1) V_e2) hZ (hw _ (List.mem_of_getElem? (i := 43) rfl)) (hw _ (List.mem_of_getElem? (i := 42) rfl)) (by decide) (by decide)) (g := (mkF m 170 #[.val (.int p1), .val (.int p2), .val (.int p3), .val (.int p4), .val (.int (0 : Int32)), .val (.int (1 : Int32)), .val (.ref b), .val (.ref o), .val (.ref d), .val (.ref e2)] [(.int p4), (.int p3), (.int p2), (.int (1 : Int32)), (.ref e2)])) rfl (by rw [hml]; rfl) (argsL := [(.ref e2), (.int (1 : Int32)), (.int p2), (.int p3), (.int p4)]) (rest := []) (lenOf own_pd6 rfl) rfl (by show 2 * 0 + _ ≤ _; exact Nat.le_of_eq rfl) (hb hby at_170) (fun _ _ => ⟨rfl, rfl, (by decide : 5 + 0 ≤ _), (by decide : 12 + 0 ≤ _)⟩)
      dsimp only [Pt.U, Pt.locs, Pt.cells, Pt.slots] at X63 l63 y63 z63 st63 hQ63
      subst l63 y63 z63
      obtain ⟨rfl, N63q, eh63⟩ := hQ63
      have N63 := Fr.app N62 N63q
      refine own_to (fun t k => st63 t k) ?_
      show own_Fin _ _ _ _ _ _ (T63.setTop (mkF m 173 #[.val (.int p1), .val (.int p2), .val (.int p3), .val (.int p4), .val (.int (0 : Int32)), .val (.int (1 : Int32)), .val (.ref b), .val (.ref o), .val (.ref d), .val (.ref e2)] [(.int (1 : Int32))]))
      refine own_retN X63 hx hlk (t := .boolean) hret (by simp) (hb hby at_173) (by decide) (by decide) ?_
      try rw [eh63]
      exact ⟨rfl, N63⟩
    ·
      rw [hl]
      show own_Fin _ _ _ _ _ _ (s₁.setTop (mkF m 28 #[.val (.int p1), .val (.int p2), .val (.int p3), .val (.int p4), .val (.int (0 : Int32)), .val (.int (2 : Int32)), .val .null, .unset, .unset, .unset] [(.int (2 : Int32))]))
      obtain ⟨T64, h64, k64, X64, e64, E64, A64, A64x, st64⟩ := newPE X0 hx hZ (hw _ (List.mem_of_getElem? (i := 0) rfl)) e0 (g := (mkF m 28 #[.val (.int p1), .val (.int p2), .val (.int p3), .val (.int p4), .val (.int (0 : Int32)), .val (.int (2 : Int32)), .val .null, .unset, .unset, .unset] [(.int (2 : Int32))])) rfl (hb hby at_28) rfl (by decide) (cap := 2) (by decide) (by decide) (by decide) (by decide) (ad := "[B") (by decide)
      obtain ⟨b, q64⟩ : ∃ z, z = h0.size := ⟨_, rfl⟩
      rw [← q64] at A64 A64x st64
      have g_b : n0 ≤ b := Nat.le_trans Z0 (Nat.le_of_eq q64.symm)
      have O64 := O0.ext E64
      have V64 := Arv.new A64 (by decide)
      refine own_to (fun t k => st64 t k) ?_
      show own_Fin _ _ _ _ _ _ (T64.setTop (mkF m 30 #[.val (.int p1), .val (.int p2), .val (.int p3), .val (.int p4), .val (.int (0 : Int32)), .val (.int (2 : Int32)), .val .null, .unset, .unset, .unset] [(.ref b)]))
      have V65p : Arv Z h64 b k64 .byte (2 : Int32) [(.int (0 : Int32)), (.int (0 : Int32))] (.int (0 : Int32)) := V64.pad (pad_rep [] (.int (0 : Int32)) 2)
      refine own_to (fun t k => XS.astore X64.here hx rfl (hb hby at_30) rfl rfl (l' := #[.val (.int p1), .val (.int p2), .val (.int p3), .val (.int p4), .val (.int (0 : Int32)), .val (.int (2 : Int32)), .val (.ref b), .unset, .unset, .unset]) rfl k) ?_
      show own_Fin _ _ _ _ _ _ (T64.setTop (mkF m 32 #[.val (.int p1), .val (.int p2), .val (.int p3), .val (.int p4), .val (.int (0 : Int32)), .val (.int (2 : Int32)), .val (.ref b), .unset, .unset, .unset] []))
      refine own_to (fun t k => XS.iload X64.here hx rfl (hb hby at_32) rfl k) ?_
      show own_Fin _ _ _ _ _ _ (T64.setTop (mkF m 34 #[.val (.int p1), .val (.int p2), .val (.int p3), .val (.int p4), .val (.int (0 : Int32)), .val (.int (2 : Int32)), .val (.ref b), .unset, .unset, .unset] [(.int (2 : Int32))]))
      refine own_to (fun t k => XS.ifNo X64.here hx rfl (hb hby at_34) rfl ((if0 _ _).trans (tlt (by decide)).2.2.2) k) ?_
      show own_Fin _ _ _ _ _ _ (T64.setTop (mkF m 37 #[.val (.int p1), .val (.int p2), .val (.int p3), .val (.int p4), .val (.int (0 : Int32)), .val (.int (2 : Int32)), .val (.ref b), .unset, .unset, .unset] []))
      refine own_to (fun t k => XS.aload X64.here hx rfl (hb hby at_37) rfl rfl k) ?_
      show own_Fin _ _ _ _ _ _ (T64.setTop (mkF m 39 #[.val (.int p1), .val (.int p2), .val (.int p3), .val (.int p4), .val (.int (0 : Int32)), .val (.int (2 : Int32)), .val (.ref b), .unset, .unset, .unset] [(.ref b)]))
      refine own_to (fun t k => XS.iconst X64.here hx rfl (hb hby at_39) k) ?_
      show own_Fin _ _ _ _ _ _ (T64.setTop (mkF m 40 #[.val (.int p1), .val (.int p2), .val (.int p3), .val (.int p4), .val (.int (0 : Int32)), .val (.int (2 : Int32)), .val (.ref b), .unset, .unset, .unset] [(.int (0 : Int32)), (.ref b)]))
      refine own_to (fun t k => XS.iloadN X64.here hx rfl (hb hby at_40) rfl k) ?_
      show own_Fin _ _ _ _ _ _ (T64.setTop (mkF m 41 #[.val (.int p1), .val (.int p2), .val (.int p3), .val (.int p4), .val (.int (0 : Int32)), .val (.int (2 : Int32)), .val (.ref b), .unset, .unset, .unset] [(.int p2), (.int (0 : Int32)), (.ref b)]))
      refine own_to (fun t k => XS.i2b X64.here hx rfl (hb hby at_41) rfl k) ?_
      show own_Fin _ _ _ _ _ _ (T64.setTop (mkF m 42 #[.val (.int p1), .val (.int p2), .val (.int p3), .val (.int p4), .val (.int (0 : Int32)), .val (.int (2 : Int32)), .val (.ref b), .unset, .unset, .unset] [(.int (p2.toInt8.toInt32)), (.int (0 : Int32)), (.ref b)]))
      obtain ⟨cl66, Ar66, qa66, Sa66, Na66, Ha66, Ga66⟩ := id V65p
      have hin67 : ¬ ((0 : Int32) < 0 ∨ cl66.slots.size ≤ ((0 : Int32)).toNatClampNeg) := inb_of Sa66 ⟨by decide, by decide⟩
      obtain ⟨T67, h67, X67, e67, W67, st67⟩ := stB X64 hx hZ e64 Ar66 (j := (0 : Int32)) hin67 (g := (mkF m 42 #[.val (.int p1), .val (.int p2), .val (.int p3), .val (.int p4), .val (.int (0 : Int32)), .val (.int (2 : Int32)), .val (.ref b), .unset, .unset, .unset] [(.int (p2.toInt8.toInt32)), (.int (0 : Int32)), (.ref b)])) rfl rfl (hb hby at_42)
      have N67 := Fr.snoc X67 N0 g_b
      have O67 := O64.wr W67 g_b
      have A64x_e67 := A64x.wr W67
      have V67 : Arv Z h67 b k64 .byte (2 : Int32) [(.int (nar .byte (p2.toInt8.toInt32))), (.int (0 : Int32))] (.int (0 : Int32)) := Arv.set Ar66 qa66 Sa66 Na66 Ha66 Ga66 (fits_nar_byte _) W67 0 rfl (Nat.le_of_ble_eq_true rfl)
      refine own_to (fun t k => st67 t k) ?_
      show own_Fin _ _ _ _ _ _ (T67.setTop (mkF m 43 #[.val (.int p1), .val (.int p2), .val (.int p3), .val (.int p4), .val (.int (0 : Int32)), .val (.int (2 : Int32)), .val (.ref b), .unset, .unset, .unset] []))
      refine own_to (fun t k => XS.iload X67.here hx rfl (hb hby at_43) rfl k) ?_
      show own_Fin _ _ _ _ _ _ (T67.setTop (mkF m 45 #[.val (.int p1), .val (.int p2), .val (.int p3), .val (.int p4), .val (.int (0 : Int32)), .val (.int (2 : Int32)), .val (.ref b), .unset, .unset, .unset] [(.int (2 : Int32))]))
      refine own_to (fun t k => XS.iconst X67.here hx rfl (hb hby at_45) k) ?_
      show own_Fin _ _ _ _ _ _ (T67.setTop (mkF m 46 #[.val (.int p1), .val (.int p2), .val (.int p3), .val (.int p4), .val (.int (0 : Int32)), .val (.int (2 : Int32)), .val (.ref b), .unset, .unset, .unset] [(.int (1 : Int32)), (.int (2 : Int32))]))
      refine own_to (fun t k => XS.icmpNo X67.here hx rfl (hb hby at_46) rfl (tlt (by decide)).2.2.2 k) ?_
      show own_Fin _ _ _ _ _ _ (T67.setTop (mkF m 49 #[.val (.int p1), .val (.int p2), .val (.int p3), .val (.int p4), .val (.int (0 : Int32)), .val (.int (2 : Int32)), .val (.ref b), .unset, .unset, .unset] []))
      refine own_to (fun t k => XS.aload X67.here hx rfl (hb hby at_49) rfl rfl k) ?_
      show own_Fin _ _ _ _ _ _ (T67.setTop (mkF m 51 #[.val (.int p1), .val (.int p2), .val (.int p3), .val (.int p4), .val (.int (0 : Int32)), .val (.int (2 : Int32)), .val (.ref b), .unset, .unset, .unset] [(.ref b)]))
      refine own_to (fun t k => XS.iconst X67.here hx rfl (hb hby at_51) k) ?_
      show own_Fin _ _ _ _ _ _ (T67.setTop (mkF m 52 #[.val (.int p1), .val (.int p2), .val (.int p3), .val (.int p4), .val (.int (0 : Int32)), .val (.int (2 : Int32)), .val (.ref b), .unset, .unset, .unset] [(.int (1 : Int32)), (.ref b)]))
      refine own_to (fun t k => XS.iloadN X67.here hx rfl (hb hby at_52) rfl k) ?_
      show own_Fin _ _ _ _ _ _ (T67.setTop (mkF m 53 #[.val (.int p1), .val (.int p2), .val (.int p3), .val (.int p4), .val (.int (0 : Int32)), .val (.int (2 : Int32)), .val (.ref b), .unset, .unset, .unset] [(.int p3), (.int (1 : Int32)), (.ref b)]))
      refine own_to (fun t k => XS.i2b X67.here hx rfl (hb hby at_53) rfl k) ?_
      show own_Fin _ _ _ _ _ _ (T67.setTop (mkF m 54 #[.val (.int p1), .val (.int p2), .val (.int p3), .val (.int p4), .val (.int (0 : Int32)), .val (.int (2 : Int32)), .val (.ref b), .unset, .unset, .unset] [(.int (p3.toInt8.toInt32)), (.int (1 : Int32)), (.ref b)]))
      obtain ⟨cl68, Ar68, qa68, Sa68, Na68, Ha68, Ga68⟩ := id V67
      have hin69 : ¬ ((1 : Int32) < 0 ∨ cl68.slots.size ≤ ((1 : Int32)).toNatClampNeg) := inb_of Sa68 ⟨by decide, by decide⟩
      obtain ⟨T69, h69, X69, e69, W69, st69⟩ := stB X67 hx hZ e67 Ar68 (j := (1 : Int32)) hin69 (g := (mkF m 54 #[.val (.int p1), .val (.int p2), .val (.int p3), .val (.int p4), .val (.int (0 : Int32)), .val (.int (2 : Int32)), .val (.ref b), .unset, .unset, .unset] [(.int (p3.toInt8.toInt32)), (.int (1 : Int32)), (.ref b)])) rfl rfl (hb hby at_54)
      have N69 := Fr.snoc X69 N67 g_b
      have O69 := O67.wr W69 g_b
      have A64x_e69 := A64x_e67.wr W69
      have V69 : Arv Z h69 b k64 .byte (2 : Int32) [(.int (nar .byte (p2.toInt8.toInt32))), (.int (nar .byte (p3.toInt8.toInt32)))] (.int (0 : Int32)) := Arv.set Ar68 qa68 Sa68 Na68 Ha68 Ga68 (fits_nar_byte _) W69 1 rfl (Nat.le_of_ble_eq_true rfl)
      refine own_to (fun t k => st69 t k) ?_
      show own_Fin _ _ _ _ _ _ (T69.setTop (mkF m 55 #[.val (.int p1), .val (.int p2), .val (.int p3), .val (.int p4), .val (.int (0 : Int32)), .val (.int (2 : Int32)), .val (.ref b), .unset, .unset, .unset] []))
      refine own_to (fun t k => XS.iload X69.here hx rfl (hb hby at_55) rfl k) ?_
      show own_Fin _ _ _ _ _ _ (T69.setTop (mkF m 57 #[.val (.int p1), .val (.int p2), .val (.int p3), .val (.int p4), .val (.int (0 : Int32)), .val (.int (2 : Int32)), .val (.ref b), .unset, .unset, .unset] [(.int (2 : Int32))]))
      refine own_to (fun t k => XS.iconst X69.here hx rfl (hb hby at_57) k) ?_
      show own_Fin _ _ _ _ _ _ (T69.setTop (mkF m 58 #[.val (.int p1), .val (.int p2), .val (.int p3), .val (.int p4), .val (.int (0 : Int32)), .val (.int (2 : Int32)), .val (.ref b), .unset, .unset, .unset] [(.int (2 : Int32)), (.int (2 : Int32))]))
      refine own_to (fun t k => XS.icmpYes X69.here hx rfl (pc0 := 58) (pc' := 67) rfl (hb hby at_58) rfl (flt (Int32.lt_irrefl)).2.2.2 (by decide) (by decide) k) ?_
      show own_Fin _ _ _ _ _ _ (T69.setTop (mkF m 67 #[.val (.int p1), .val (.int p2), .val (.int p3), .val (.int p4), .val (.int (0 : Int32)), .val (.int (2 : Int32)), .val (.ref b), .unset, .unset, .unset] []))
      refine own_to (fun t k => XS.aload X69.here hx rfl (hb hby at_67) rfl rfl k) ?_
      show own_Fin _ _ _ _ _ _ (T69.setTop (mkF m 69 #[.val (.int p1), .val (.int p2), .val (.int p3), .val (.int p4), .val (.int (0 : Int32)), .val (.int (2 : Int32)), .val (.ref b), .unset, .unset, .unset] [(.ref b)]))
      have Vn70 : Arv Z h69 b k64 .byte (2 : Int32) [(.int (p2.toInt8.toInt32)), (.int (p3.toInt8.toInt32))] (.int (0 : Int32)) := by rw [own_idem p2, own_idem p3] at V69; exact V69
      obtain ⟨_, _, ⟨T71, L71, k71, n71⟩, -, X71, ⟨Lc71, hQ71, l71, y71, z71⟩, st71⟩ := Jvm.LawKit.callS X69 hx (y := (⟨"com/example/nuthatch/nuthatch/engine/Outcome", "executed", "([B)Lcom/example/nuthatch/nuthatch/engine/Outcome;"⟩ : MethodName)) hown (mvT hZ (hw _ (List.mem_of_getElem? (i := 1) rfl))) (mvT hZ (hw _ (List.mem_of_getElem? (i := 2) rfl))) (mvT hZ (hw _ (List.mem_of_getElem? (i := 3) rfl))) (mvT hZ (hw _ (List.mem_of_getElem? (i := 4) rfl))) (by decide) (own_back (W := 0) (own_exeA l Z a0 hw [] wS b k64 (2 : Int32) [(.int (p2.toInt8.toInt32)), (.int (p3.toInt8.toInt32))] h69 n0 (Nat.le_trans (Nat.le_trans (Nat.le_trans Z0 E64.1) (Keep.of_wr W67).1) (Keep.of_wr W69).1) O69 SS Vn70 A64x_e69 (by decide)) hZ (hw _ (List.mem_of_getElem? (i := 4) rfl)) (hw _ (List.mem_of_getElem? (i := 3) rfl)) (by decide) (by decide)) (g := (mkF m 69 #[.val (.int p1), .val (.int p2), .val (.int p3), .val (.int p4), .val (.int (0 : Int32)), .val (.int (2 : Int32)), .val (.ref b), .unset, .unset, .unset] [(.ref b)])) rfl (by rw [hml]; rfl) (argsL := [(.ref b)]) (rest := []) (lenOf own_pd3 rfl) rfl (by show 2 * 0 + _ ≤ _; exact Nat.le_of_eq rfl) (hb hby at_69) (fun _ _ => ⟨rfl, e69, (by decide : 1 + 2 ≤ _), (by decide : 2 + 5 ≤ _)⟩)
      dsimp only [Pt.U, Pt.locs, Pt.cells, Pt.slots] at X71 l71 y71 z71 st71 hQ71
      subst l71 y71 z71
      obtain ⟨o, c, rfl, N71q, K71, g_o, szo, g_c, szc, E_o, Fs, Fre, V_c, E_c⟩ := hQ71
      have N71 := Fr.app N69 N71q
      have ne_b_o : b ≠ o := Nat.ne_of_lt (Nat.lt_of_lt_of_le A64x_e69.lt szo)
      have ne_b_c : b ≠ c := Nat.ne_of_lt (Nat.lt_of_lt_of_le A64x_e69.lt szc)
      have O71 := O69.keep K71 all0
      have A64x_e71 := A64x_e69.keep K71
      have Vn70_e71 := Vn70.keep K71 nin0
      refine own_to (fun t k => st71 t k) ?_
      show own_Fin _ _ _ _ _ _ (T71.setTop (mkF m 72 #[.val (.int p1), .val (.int p2), .val (.int p3), .val (.int p4), .val (.int (0 : Int32)), .val (.int (2 : Int32)), .val (.ref b), .unset, .unset, .unset] [(.ref o)]))
      refine own_to (fun t k => XS.astore X71.here hx rfl (hb hby at_72) rfl rfl (l' := #[.val (.int p1), .val (.int p2), .val (.int p3), .val (.int p4), .val (.int (0 : Int32)), .val (.int (2 : Int32)), .val (.ref b), .val (.ref o), .unset, .unset]) rfl k) ?_
      show own_Fin _ _ _ _ _ _ (T71.setTop (mkF m 74 #[.val (.int p1), .val (.int p2), .val (.int p3), .val (.int p4), .val (.int (0 : Int32)), .val (.int (2 : Int32)), .val (.ref b), .val (.ref o), .unset, .unset] []))
      refine own_to (fun t k => XS.aload X71.here hx rfl (hb hby at_74) rfl rfl k) ?_
      show own_Fin _ _ _ _ _ _ (T71.setTop (mkF m 76 #[.val (.int p1), .val (.int p2), .val (.int p3), .val (.int p4), .val (.int (0 : Int32)), .val (.int (2 : Int32)), .val (.ref b), .val (.ref o), .unset, .unset] [(.ref o)]))
      obtain ⟨cq72, kq72, q72a, q72b, q72c⟩ := isOf hZ rfl E_o
      obtain ⟨_, _, ⟨T72, L72, k72, n72⟩, -, X72, ⟨Lc72, hQ72, l72, y72, z72⟩, st72⟩ := X71.virtualBack hx (y := (⟨"com/example/nuthatch/nuthatch/engine/Outcome", "status", "()Lcom/example/nuthatch/nuthatch/engine/Status;"⟩ : MethodName)) (z := (⟨"com/example/nuthatch/nuthatch/engine/Outcome", "status", "()Lcom/example/nuthatch/nuthatch/engine/Status;"⟩ : MethodName)) hown (mvT hZ (hw _ (List.mem_of_getElem? (i := 29) rfl))) (mvT hZ (hw _ (List.mem_of_getElem? (i := 30) rfl))) (notFace_of_selects (args := #[]) (mvT hZ (hw _ (List.mem_of_getElem? (i := 32) rfl)))) (mvT hZ (hw _ (List.mem_of_getElem? (i := 32) rfl))) (mvT hZ (hw _ (List.mem_of_getElem? (i := 31) rfl))) (by decide) (own_back (W := 0) (own_rm4 l Z a0 hw [] o wS T71.heap n0 (Nat.le_trans (Nat.le_trans (Nat.le_trans (Nat.le_trans Z0 E64.1) (Keep.of_wr W67).1) (Keep.of_wr W69).1) K71.1) Fs) hZ (hw _ (List.mem_of_getElem? (i := 33) rfl)) (hw _ (List.mem_of_getElem? (i := 3) rfl)) (by decide) (by decide)) q72a q72c (g := (mkF m 76 #[.val (.int p1), .val (.int p2), .val (.int p3), .val (.int p4), .val (.int (0 : Int32)), .val (.int (2 : Int32)), .val (.ref b), .val (.ref o), .unset, .unset] [(.ref o)])) rfl (by rw [hml]; rfl) (Steps.refl _) (argsL := []) (rest := []) (lenOf own_pd4 rfl) rfl (by show 2 * 0 + _ ≤ _; exact Nat.le_of_eq rfl) (hb hby at_76) (fun _ _ => ⟨rfl, rfl, (by decide : 3 + 0 ≤ _), (by decide : 7 + 0 ≤ _)⟩)
      dsimp only [Pt.U, Pt.locs, Pt.cells, Pt.slots] at X72 l72 y72 z72 st72 hQ72
      subst l72 y72 z72
      obtain ⟨rfl, N72q, eh72⟩ := hQ72
      have N72 := Fr.app N71 N72q
      refine own_to (fun t k => st72.trans k) ?_
      show own_Fin _ _ _ _ _ _ (T72.setTop (mkF m 79 #[.val (.int p1), .val (.int p2), .val (.int p3), .val (.int p4), .val (.int (0 : Int32)), .val (.int (2 : Int32)), .val (.ref b), .val (.ref o), .unset, .unset] [(.ref wS)]))
      obtain ⟨T73, X73, e73, st73⟩ := getS2 X72 hx hZ hown (host := "") (Or.inl (hw _ (List.mem_of_getElem? (i := 34) rfl))) Via.refl eh72 (SS.ext O71.2) (g := (mkF m 79 #[.val (.int p1), .val (.int p2), .val (.int p3), .val (.int p4), .val (.int (0 : Int32)), .val (.int (2 : Int32)), .val (.ref b), .val (.ref o), .unset, .unset] [(.ref wS)])) rfl (hb hby at_79)
      refine own_to (fun t k => st73 t k) ?_
      show own_Fin _ _ _ _ _ _ (T73.setTop (mkF m 82 #[.val (.int p1), .val (.int p2), .val (.int p3), .val (.int p4), .val (.int (0 : Int32)), .val (.int (2 : Int32)), .val (.ref b), .val (.ref o), .unset, .unset] [(.ref wS), (.ref wS)]))
      refine own_to (fun t k => Jvm.RoadKit.acmp (g := (mkF m 82 #[.val (.int p1), .val (.int p2), .val (.int p3), .val (.int p4), .val (.int (0 : Int32)), .val (.int (2 : Int32)), .val (.ref b), .val (.ref o), .unset, .unset] [(.ref wS), (.ref wS)])) X73 hx rfl rfl rfl (pc0 := 82) (pc' := 87) (same := true) rfl (hb hby at_82) rfl (decide_eq_true rfl) (by decide) (by decide) k) ?_
      show own_Fin _ _ _ _ _ _ (T73.setTop (mkF m 87 #[.val (.int p1), .val (.int p2), .val (.int p3), .val (.int p4), .val (.int (0 : Int32)), .val (.int (2 : Int32)), .val (.ref b), .val (.ref o), .unset, .unset] []))
      refine own_to (fun t k => XS.aload X73.here hx rfl (hb hby at_87) rfl rfl k) ?_
      show own_Fin _ _ _ _ _ _ (T73.setTop (mkF m 89 #[.val (.int p1), .val (.int p2), .val (.int p3), .val (.int p4), .val (.int (0 : Int32)), .val (.int (2 : Int32)), .val (.ref b), .val (.ref o), .unset, .unset] [(.ref b)]))
      refine own_to (fun t k => XS.ifnullNo X73.here hx rfl (hb hby at_89) rfl k) ?_
      show own_Fin _ _ _ _ _ _ (T73.setTop (mkF m 92 #[.val (.int p1), .val (.int p2), .val (.int p3), .val (.int p4), .val (.int (0 : Int32)), .val (.int (2 : Int32)), .val (.ref b), .val (.ref o), .unset, .unset] []))
      refine own_to (fun t k => XS.iload X73.here hx rfl (hb hby at_92) rfl k) ?_
      show own_Fin _ _ _ _ _ _ (T73.setTop (mkF m 94 #[.val (.int p1), .val (.int p2), .val (.int p3), .val (.int p4), .val (.int (0 : Int32)), .val (.int (2 : Int32)), .val (.ref b), .val (.ref o), .unset, .unset] [(.int (2 : Int32))]))
      refine own_to (fun t k => XS.ifNo X73.here hx rfl (hb hby at_94) rfl ((if0 _ _).trans (tlt (by decide)).2.2.2) k) ?_
      show own_Fin _ _ _ _ _ _ (T73.setTop (mkF m 97 #[.val (.int p1), .val (.int p2), .val (.int p3), .val (.int p4), .val (.int (0 : Int32)), .val (.int (2 : Int32)), .val (.ref b), .val (.ref o), .unset, .unset] []))
      refine own_to (fun t k => XS.aload X73.here hx rfl (hb hby at_97) rfl rfl k) ?_
      show own_Fin _ _ _ _ _ _ (T73.setTop (mkF m 99 #[.val (.int p1), .val (.int p2), .val (.int p3), .val (.int p4), .val (.int (0 : Int32)), .val (.int (2 : Int32)), .val (.ref b), .val (.ref o), .unset, .unset] [(.ref b)]))
      refine own_to (fun t k => XS.iconst X73.here hx rfl (hb hby at_99) k) ?_
      show own_Fin _ _ _ _ _ _ (T73.setTop (mkF m 100 #[.val (.int p1), .val (.int p2), .val (.int p3), .val (.int p4), .val (.int (0 : Int32)), .val (.int (2 : Int32)), .val (.ref b), .val (.ref o), .unset, .unset] [(.int (0 : Int32)), (.ref b)]))
      refine own_to (fun t k => XS.iloadN X73.here hx rfl (hb hby at_100) rfl k) ?_
      show own_Fin _ _ _ _ _ _ (T73.setTop (mkF m 101 #[.val (.int p1), .val (.int p2), .val (.int p3), .val (.int p4), .val (.int (0 : Int32)), .val (.int (2 : Int32)), .val (.ref b), .val (.ref o), .unset, .unset] [(.int p2), (.int (0 : Int32)), (.ref b)]))
      refine own_to (fun t k => XS.iconst X73.here hx rfl (hb hby at_101) k) ?_
      show own_Fin _ _ _ _ _ _ (T73.setTop (mkF m 102 #[.val (.int p1), .val (.int p2), .val (.int p3), .val (.int p4), .val (.int (0 : Int32)), .val (.int (2 : Int32)), .val (.ref b), .val (.ref o), .unset, .unset] [(.int (-1 : Int32)), (.int p2), (.int (0 : Int32)), (.ref b)]))
      refine own_to (fun t k => XS.ixor X73.here hx rfl (hb hby at_102) rfl k) ?_
      show own_Fin _ _ _ _ _ _ (T73.setTop (mkF m 103 #[.val (.int p1), .val (.int p2), .val (.int p3), .val (.int p4), .val (.int (0 : Int32)), .val (.int (2 : Int32)), .val (.ref b), .val (.ref o), .unset, .unset] [(.int (p2 ^^^ (-1 : Int32))), (.int (0 : Int32)), (.ref b)]))
      refine own_to (fun t k => XS.i2b X73.here hx rfl (hb hby at_103) rfl k) ?_
      show own_Fin _ _ _ _ _ _ (T73.setTop (mkF m 104 #[.val (.int p1), .val (.int p2), .val (.int p3), .val (.int p4), .val (.int (0 : Int32)), .val (.int (2 : Int32)), .val (.ref b), .val (.ref o), .unset, .unset] [(.int ((p2 ^^^ (-1 : Int32)).toInt8.toInt32)), (.int (0 : Int32)), (.ref b)]))
      obtain ⟨cl74, Ar74, qa74, Sa74, Na74, Ha74, Ga74⟩ := id Vn70_e71
      have hin75 : ¬ ((0 : Int32) < 0 ∨ cl74.slots.size ≤ ((0 : Int32)).toNatClampNeg) := inb_of Sa74 ⟨by decide, by decide⟩
      obtain ⟨T75, h75, X75, e75, W75, st75⟩ := stB X73 hx hZ e73 Ar74 (j := (0 : Int32)) hin75 (g := (mkF m 104 #[.val (.int p1), .val (.int p2), .val (.int p3), .val (.int p4), .val (.int (0 : Int32)), .val (.int (2 : Int32)), .val (.ref b), .val (.ref o), .unset, .unset] [(.int ((p2 ^^^ (-1 : Int32)).toInt8.toInt32)), (.int (0 : Int32)), (.ref b)])) rfl rfl (hb hby at_104)
      have N75 := Fr.snoc X75 N72 g_b
      have O75 := O71.wr W75 g_b
      have A64x_e75 := A64x_e71.wr W75
      have E_o_e75 := E_o.wr W75
      have Fs_e75 := Fs.other W75 (Or.inl (Ne.symm ne_b_o))
      have Fre_e75 := Fre.other W75 (Or.inl (Ne.symm ne_b_o))
      have V_c_e75 := V_c.other W75 (Ne.symm ne_b_c)
      have E_c_e75 := E_c.wr W75
      have V75 : Arv Z h75 b k64 .byte (2 : Int32) [(.int (nar .byte ((p2 ^^^ (-1 : Int32)).toInt8.toInt32))), (.int (p3.toInt8.toInt32))] (.int (0 : Int32)) := Arv.set Ar74 qa74 Sa74 Na74 Ha74 Ga74 (fits_nar_byte _) W75 0 rfl (Nat.le_of_ble_eq_true rfl)
      refine own_to (fun t k => st75 t k) ?_
      show own_Fin _ _ _ _ _ _ (T75.setTop (mkF m 105 #[.val (.int p1), .val (.int p2), .val (.int p3), .val (.int p4), .val (.int (0 : Int32)), .val (.int (2 : Int32)), .val (.ref b), .val (.ref o), .unset, .unset] []))
      refine own_to (fun t k => XS.aload X75.here hx rfl (hb hby at_105) rfl rfl k) ?_
      show own_Fin _ _ _ _ _ _ (T75.setTop (mkF m 107 #[.val (.int p1), .val (.int p2), .val (.int p3), .val (.int p4), .val (.int (0 : Int32)), .val (.int (2 : Int32)), .val (.ref b), .val (.ref o), .unset, .unset] [(.ref o)]))
      obtain ⟨cq76, kq76, q76a, q76b, q76c⟩ := isOf hZ e75 E_o_e75
      obtain ⟨_, _, ⟨T76, L76, k76, n76⟩, -, X76, ⟨Lc76, hQ76, l76, y76, z76⟩, st76⟩ := X75.virtualBack hx (y := (⟨"com/example/nuthatch/nuthatch/engine/Outcome", "response", "()[B"⟩ : MethodName)) (z := (⟨"com/example/nuthatch/nuthatch/engine/Outcome", "response", "()[B"⟩ : MethodName)) hown (mvT hZ (hw _ (List.mem_of_getElem? (i := 35) rfl))) (mvT hZ (hw _ (List.mem_of_getElem? (i := 36) rfl))) (notFace_of_selects (args := #[]) (mvT hZ (hw _ (List.mem_of_getElem? (i := 38) rfl)))) (mvT hZ (hw _ (List.mem_of_getElem? (i := 38) rfl))) (mvT hZ (hw _ (List.mem_of_getElem? (i := 37) rfl))) (by decide) (own_back (W := 0) (own_resA l Z a0 hw [] o c k64 (2 : Int32) [(.int (p2.toInt8.toInt32)), (.int (p3.toInt8.toInt32))] h75 n0 (Nat.le_trans (Nat.le_trans (Nat.le_trans (Nat.le_trans (Nat.le_trans Z0 E64.1) (Keep.of_wr W67).1) (Keep.of_wr W69).1) K71.1) (Keep.of_wr W75).1) Fre_e75 V_c_e75 E_c_e75 (by decide)) hZ (hw _ (List.mem_of_getElem? (i := 39) rfl)) (hw _ (List.mem_of_getElem? (i := 3) rfl)) (by decide) (by decide)) q76a q76c (g := (mkF m 107 #[.val (.int p1), .val (.int p2), .val (.int p3), .val (.int p4), .val (.int (0 : Int32)), .val (.int (2 : Int32)), .val (.ref b), .val (.ref o), .unset, .unset] [(.ref o)])) rfl (by rw [hml]; rfl) (Steps.refl _) (argsL := []) (rest := []) (lenOf own_pd5 rfl) rfl (by show 2 * 0 + _ ≤ _; exact Nat.le_of_eq rfl) (hb hby at_107) (fun _ _ => ⟨rfl, e75, (by decide : 3 + 1 ≤ _), (by decide : 7 + 3 ≤ _)⟩)
      dsimp only [Pt.U, Pt.locs, Pt.cells, Pt.slots] at X76 l76 y76 z76 st76 hQ76
      subst l76 y76 z76
      obtain ⟨d, rfl, N76q, K76, g_d, szd, V_d, E_d⟩ := hQ76
      have N76 := Fr.app N75 N76q
      have ne_b_d : b ≠ d := Nat.ne_of_lt (Nat.lt_of_lt_of_le A64x_e75.lt szd)
      have ne_o_d : o ≠ d := Nat.ne_of_lt (Nat.lt_of_lt_of_le E_o_e75.lt szd)
      have ne_c_d : c ≠ d := Nat.ne_of_lt (Nat.lt_of_lt_of_le V_c_e75.lt szd)
      have O76 := O75.keep K76 all0
      have A64x_e76 := A64x_e75.keep K76
      have E_o_e76 := E_o_e75.keep K76
      have Fs_e76 := Fs_e75.keep K76 nin0
      have Fre_e76 := Fre_e75.keep K76 nin0
      have V_c_e76 := V_c_e75.keep K76 nin0
      have E_c_e76 := E_c_e75.keep K76
      have V75_e76 := V75.keep K76 nin0
      refine own_to (fun t k => st76.trans k) ?_
      show own_Fin _ _ _ _ _ _ (T76.setTop (mkF m 110 #[.val (.int p1), .val (.int p2), .val (.int p3), .val (.int p4), .val (.int (0 : Int32)), .val (.int (2 : Int32)), .val (.ref b), .val (.ref o), .unset, .unset] [(.ref d)]))
      refine own_to (fun t k => XS.astore X76.here hx rfl (hb hby at_110) rfl rfl (l' := #[.val (.int p1), .val (.int p2), .val (.int p3), .val (.int p4), .val (.int (0 : Int32)), .val (.int (2 : Int32)), .val (.ref b), .val (.ref o), .val (.ref d), .unset]) rfl k) ?_
      show own_Fin _ _ _ _ _ _ (T76.setTop (mkF m 112 #[.val (.int p1), .val (.int p2), .val (.int p3), .val (.int p4), .val (.int (0 : Int32)), .val (.int (2 : Int32)), .val (.ref b), .val (.ref o), .val (.ref d), .unset] []))
      refine own_to (fun t k => XS.iload X76.here hx rfl (hb hby at_112) rfl k) ?_
      show own_Fin _ _ _ _ _ _ (T76.setTop (mkF m 114 #[.val (.int p1), .val (.int p2), .val (.int p3), .val (.int p4), .val (.int (0 : Int32)), .val (.int (2 : Int32)), .val (.ref b), .val (.ref o), .val (.ref d), .unset] [(.int (0 : Int32))]))
      refine own_to (fun t k => XS.ifYes X76.here hx rfl (pc0 := 114) (pc' := 128) rfl (hb hby at_114) rfl ((if0 _ _).trans (teq rfl).1) (by decide) (by decide) k) ?_
      show own_Fin _ _ _ _ _ _ (T76.setTop (mkF m 128 #[.val (.int p1), .val (.int p2), .val (.int p3), .val (.int p4), .val (.int (0 : Int32)), .val (.int (2 : Int32)), .val (.ref b), .val (.ref o), .val (.ref d), .unset] []))
      refine own_to (fun t k => XS.aload X76.here hx rfl (hb hby at_128) rfl rfl k) ?_
      show own_Fin _ _ _ _ _ _ (T76.setTop (mkF m 130 #[.val (.int p1), .val (.int p2), .val (.int p3), .val (.int p4), .val (.int (0 : Int32)), .val (.int (2 : Int32)), .val (.ref b), .val (.ref o), .val (.ref d), .unset] [(.ref d)]))
      refine own_to (fun t k => XS.iload X76.here hx rfl (hb hby at_130) rfl k) ?_
      show own_Fin _ _ _ _ _ _ (T76.setTop (mkF m 132 #[.val (.int p1), .val (.int p2), .val (.int p3), .val (.int p4), .val (.int (0 : Int32)), .val (.int (2 : Int32)), .val (.ref b), .val (.ref o), .val (.ref d), .unset] [(.int (2 : Int32)), (.ref d)]))
      refine own_to (fun t k => XS.iloadN X76.here hx rfl (hb hby at_132) rfl k) ?_
      show own_Fin _ _ _ _ _ _ (T76.setTop (mkF m 133 #[.val (.int p1), .val (.int p2), .val (.int p3), .val (.int p4), .val (.int (0 : Int32)), .val (.int (2 : Int32)), .val (.ref b), .val (.ref o), .val (.ref d), .unset] [(.int p2), (.int (2 : Int32)), (.ref d)]))
      refine own_to (fun t k => XS.iloadN X76.here hx rfl (hb hby at_133) rfl k) ?_
      show own_Fin _ _ _ _ _ _ (T76.setTop (mkF m 134 #[.val (.int p1), .val (.int p2), .val (.int p3), .val (.int p4), .val (.int (0 : Int32)), .val (.int (2 : Int32)), .val (.ref b), .val (.ref o), .val (.ref d), .unset] [(.int p3), (.int p2), (.int (2 : Int32)), (.ref d)]))
      refine own_to (fun t k => XS.iloadN X76.here hx rfl (hb hby at_134) rfl k) ?_
      show own_Fin _ _ _ _ _ _ (T76.setTop (mkF m 135 #[.val (.int p1), .val (.int p2), .val (.int p3), .val (.int p4), .val (.int (0 : Int32)), .val (.int (2 : Int32)), .val (.ref b), .val (.ref o), .val (.ref d), .unset] [(.int p4), (.int p3), (.int p2), (.int (2 : Int32)), (.ref d)]))
      obtain ⟨_, _, ⟨T77, L77, k77, n77⟩, -, X77, ⟨Lc77, hQ77, l77, y77, z77⟩, st77⟩ := Jvm.LawKit.callS X76 hx (y := (⟨"com/example/nuthatch/nuthatch/engine/OutcomeExecutedPinLaw", "holds", "([BIIII)Z"⟩ : MethodName)) hown (mvT hZ (hw _ (List.mem_of_getElem? (i := 40) rfl))) (mvT hZ (hw _ (List.mem_of_getElem? (i := 41) rfl))) (mvT hZ (hw _ (List.mem_of_getElem? (i := 42) rfl))) (mvT hZ (hw _ (List.mem_of_getElem? (i := 43) rfl))) (by decide) (own_back (W := 0) (own_holds2 l Z a0 hw [] d p2 p3 p4 k64 T76.heap n0 (Nat.le_trans (Nat.le_trans (Nat.le_trans (Nat.le_trans (Nat.le_trans (Nat.le_trans Z0 E64.1) (Keep.of_wr W67).1) (Keep.of_wr W69).1) K71.1) (Keep.of_wr W75).1) K76.1) V_d) hZ (hw _ (List.mem_of_getElem? (i := 43) rfl)) (hw _ (List.mem_of_getElem? (i := 42) rfl)) (by decide) (by decide)) (g := (mkF m 135 #[.val (.int p1), .val (.int p2), .val (.int p3), .val (.int p4), .val (.int (0 : Int32)), .val (.int (2 : Int32)), .val (.ref b), .val (.ref o), .val (.ref d), .unset] [(.int p4), (.int p3), (.int p2), (.int (2 : Int32)), (.ref d)])) rfl (by rw [hml]; rfl) (argsL := [(.ref d), (.int (2 : Int32)), (.int p2), (.int p3), (.int p4)]) (rest := []) (lenOf own_pd6 rfl) rfl (by show 2 * 0 + _ ≤ _; exact Nat.le_of_eq rfl) (hb hby at_135) (fun _ _ => ⟨rfl, rfl, (by decide : 4 + 0 ≤ _), (by decide : 10 + 0 ≤ _)⟩)
      dsimp only [Pt.U, Pt.locs, Pt.cells, Pt.slots] at X77 l77 y77 z77 st77 hQ77
      subst l77 y77 z77
      obtain ⟨rfl, N77q, eh77⟩ := hQ77
      have N77 := Fr.app N76 N77q
      refine own_to (fun t k => st77 t k) ?_
      show own_Fin _ _ _ _ _ _ (T77.setTop (mkF m 138 #[.val (.int p1), .val (.int p2), .val (.int p3), .val (.int p4), .val (.int (0 : Int32)), .val (.int (2 : Int32)), .val (.ref b), .val (.ref o), .val (.ref d), .unset] [(.int (1 : Int32))]))
      refine own_to (fun t k => XS.ifYes X77.here hx rfl (pc0 := 138) (pc' := 143) rfl (hb hby at_138) rfl ((if0 _ _).trans (feq (by decide)).2) (by decide) (by decide) k) ?_
      show own_Fin _ _ _ _ _ _ (T77.setTop (mkF m 143 #[.val (.int p1), .val (.int p2), .val (.int p3), .val (.int p4), .val (.int (0 : Int32)), .val (.int (2 : Int32)), .val (.ref b), .val (.ref o), .val (.ref d), .unset] []))
      refine own_to (fun t k => XS.iload X77.here hx rfl (hb hby at_143) rfl k) ?_
      show own_Fin _ _ _ _ _ _ (T77.setTop (mkF m 145 #[.val (.int p1), .val (.int p2), .val (.int p3), .val (.int p4), .val (.int (0 : Int32)), .val (.int (2 : Int32)), .val (.ref b), .val (.ref o), .val (.ref d), .unset] [(.int (2 : Int32))]))
      refine own_to (fun t k => XS.ifNo X77.here hx rfl (hb hby at_145) rfl ((if0 _ _).trans (tlt (by decide)).2.2.2) k) ?_
      show own_Fin _ _ _ _ _ _ (T77.setTop (mkF m 148 #[.val (.int p1), .val (.int p2), .val (.int p3), .val (.int p4), .val (.int (0 : Int32)), .val (.int (2 : Int32)), .val (.ref b), .val (.ref o), .val (.ref d), .unset] []))
      refine own_to (fun t k => XS.aload X77.here hx rfl (hb hby at_148) rfl rfl k) ?_
      show own_Fin _ _ _ _ _ _ (T77.setTop (mkF m 150 #[.val (.int p1), .val (.int p2), .val (.int p3), .val (.int p4), .val (.int (0 : Int32)), .val (.int (2 : Int32)), .val (.ref b), .val (.ref o), .val (.ref d), .unset] [(.ref d)]))
      refine own_to (fun t k => XS.iconst X77.here hx rfl (hb hby at_150) k) ?_
      show own_Fin _ _ _ _ _ _ (T77.setTop (mkF m 151 #[.val (.int p1), .val (.int p2), .val (.int p3), .val (.int p4), .val (.int (0 : Int32)), .val (.int (2 : Int32)), .val (.ref b), .val (.ref o), .val (.ref d), .unset] [(.int (0 : Int32)), (.ref d)]))
      refine own_to (fun t k => XS.iloadN X77.here hx rfl (hb hby at_151) rfl k) ?_
      show own_Fin _ _ _ _ _ _ (T77.setTop (mkF m 152 #[.val (.int p1), .val (.int p2), .val (.int p3), .val (.int p4), .val (.int (0 : Int32)), .val (.int (2 : Int32)), .val (.ref b), .val (.ref o), .val (.ref d), .unset] [(.int p2), (.int (0 : Int32)), (.ref d)]))
      refine own_to (fun t k => XS.iconst X77.here hx rfl (hb hby at_152) k) ?_
      show own_Fin _ _ _ _ _ _ (T77.setTop (mkF m 153 #[.val (.int p1), .val (.int p2), .val (.int p3), .val (.int p4), .val (.int (0 : Int32)), .val (.int (2 : Int32)), .val (.ref b), .val (.ref o), .val (.ref d), .unset] [(.int (-1 : Int32)), (.int p2), (.int (0 : Int32)), (.ref d)]))
      refine own_to (fun t k => XS.ixor X77.here hx rfl (hb hby at_153) rfl k) ?_
      show own_Fin _ _ _ _ _ _ (T77.setTop (mkF m 154 #[.val (.int p1), .val (.int p2), .val (.int p3), .val (.int p4), .val (.int (0 : Int32)), .val (.int (2 : Int32)), .val (.ref b), .val (.ref o), .val (.ref d), .unset] [(.int (p2 ^^^ (-1 : Int32))), (.int (0 : Int32)), (.ref d)]))
      refine own_to (fun t k => XS.i2b X77.here hx rfl (hb hby at_154) rfl k) ?_
      show own_Fin _ _ _ _ _ _ (T77.setTop (mkF m 155 #[.val (.int p1), .val (.int p2), .val (.int p3), .val (.int p4), .val (.int (0 : Int32)), .val (.int (2 : Int32)), .val (.ref b), .val (.ref o), .val (.ref d), .unset] [(.int ((p2 ^^^ (-1 : Int32)).toInt8.toInt32)), (.int (0 : Int32)), (.ref d)]))
      obtain ⟨cl78, Ar78, qa78, Sa78, Na78, Ha78, Ga78⟩ := id V_d
      have hin79 : ¬ ((0 : Int32) < 0 ∨ cl78.slots.size ≤ ((0 : Int32)).toNatClampNeg) := inb_of Sa78 ⟨by decide, by decide⟩
      obtain ⟨T79, h79, X79, e79, W79, st79⟩ := stB X77 hx hZ eh77 Ar78 (j := (0 : Int32)) hin79 (g := (mkF m 155 #[.val (.int p1), .val (.int p2), .val (.int p3), .val (.int p4), .val (.int (0 : Int32)), .val (.int (2 : Int32)), .val (.ref b), .val (.ref o), .val (.ref d), .unset] [(.int ((p2 ^^^ (-1 : Int32)).toInt8.toInt32)), (.int (0 : Int32)), (.ref d)])) rfl rfl (hb hby at_155)
      have N79 := Fr.snoc X79 N77 g_d
      have O79 := O76.wr W79 g_d
      have A64x_e79 := A64x_e76.wr W79
      have E_o_e79 := E_o_e76.wr W79
      have Fs_e79 := Fs_e76.other W79 (Or.inl ne_o_d)
      have Fre_e79 := Fre_e76.other W79 (Or.inl ne_o_d)
      have V_c_e79 := V_c_e76.other W79 ne_c_d
      have E_c_e79 := E_c_e76.wr W79
      have V75_e79 := V75_e76.other W79 ne_b_d
      have E_d_e79 := E_d.wr W79
      have V79 : Arv Z h79 d k64 .byte (2 : Int32) [(.int (nar .byte ((p2 ^^^ (-1 : Int32)).toInt8.toInt32))), (.int (p3.toInt8.toInt32))] (.int (0 : Int32)) := Arv.set Ar78 qa78 Sa78 Na78 Ha78 Ga78 (fits_nar_byte _) W79 0 rfl (Nat.le_of_ble_eq_true rfl)
      refine own_to (fun t k => st79 t k) ?_
      show own_Fin _ _ _ _ _ _ (T79.setTop (mkF m 156 #[.val (.int p1), .val (.int p2), .val (.int p3), .val (.int p4), .val (.int (0 : Int32)), .val (.int (2 : Int32)), .val (.ref b), .val (.ref o), .val (.ref d), .unset] []))
      refine own_to (fun t k => XS.aload X79.here hx rfl (hb hby at_156) rfl rfl k) ?_
      show own_Fin _ _ _ _ _ _ (T79.setTop (mkF m 158 #[.val (.int p1), .val (.int p2), .val (.int p3), .val (.int p4), .val (.int (0 : Int32)), .val (.int (2 : Int32)), .val (.ref b), .val (.ref o), .val (.ref d), .unset] [(.ref o)]))
      obtain ⟨cq80, kq80, q80a, q80b, q80c⟩ := isOf hZ e79 E_o_e79
      obtain ⟨_, _, ⟨T80, L80, k80, n80⟩, -, X80, ⟨Lc80, hQ80, l80, y80, z80⟩, st80⟩ := X79.virtualBack hx (y := (⟨"com/example/nuthatch/nuthatch/engine/Outcome", "response", "()[B"⟩ : MethodName)) (z := (⟨"com/example/nuthatch/nuthatch/engine/Outcome", "response", "()[B"⟩ : MethodName)) hown (mvT hZ (hw _ (List.mem_of_getElem? (i := 35) rfl))) (mvT hZ (hw _ (List.mem_of_getElem? (i := 36) rfl))) (notFace_of_selects (args := #[]) (mvT hZ (hw _ (List.mem_of_getElem? (i := 38) rfl)))) (mvT hZ (hw _ (List.mem_of_getElem? (i := 38) rfl))) (mvT hZ (hw _ (List.mem_of_getElem? (i := 37) rfl))) (by decide) (own_back (W := 0) (own_resA l Z a0 hw [] o c k64 (2 : Int32) [(.int (p2.toInt8.toInt32)), (.int (p3.toInt8.toInt32))] h79 n0 (Nat.le_trans (Nat.le_trans (Nat.le_trans (Nat.le_trans (Nat.le_trans (Nat.le_trans (Nat.le_trans Z0 E64.1) (Keep.of_wr W67).1) (Keep.of_wr W69).1) K71.1) (Keep.of_wr W75).1) K76.1) (Keep.of_wr W79).1) Fre_e79 V_c_e79 E_c_e79 (by decide)) hZ (hw _ (List.mem_of_getElem? (i := 39) rfl)) (hw _ (List.mem_of_getElem? (i := 3) rfl)) (by decide) (by decide)) q80a q80c (g := (mkF m 158 #[.val (.int p1), .val (.int p2), .val (.int p3), .val (.int p4), .val (.int (0 : Int32)), .val (.int (2 : Int32)), .val (.ref b), .val (.ref o), .val (.ref d), .unset] [(.ref o)])) rfl (by rw [hml]; rfl) (Steps.refl _) (argsL := []) (rest := []) (lenOf own_pd5 rfl) rfl (by show 2 * 0 + _ ≤ _; exact Nat.le_of_eq rfl) (hb hby at_158) (fun _ _ => ⟨rfl, e79, (by decide : 4 + 1 ≤ _), (by decide : 10 + 3 ≤ _)⟩)
      dsimp only [Pt.U, Pt.locs, Pt.cells, Pt.slots] at X80 l80 y80 z80 st80 hQ80
      subst l80 y80 z80
      obtain ⟨e2, rfl, N80q, K80, g_e2, sze2, V_e2, E_e2⟩ := hQ80
      have N80 := Fr.app N79 N80q
      have ne_b_e2 : b ≠ e2 := Nat.ne_of_lt (Nat.lt_of_lt_of_le A64x_e79.lt sze2)
      have ne_o_e2 : o ≠ e2 := Nat.ne_of_lt (Nat.lt_of_lt_of_le E_o_e79.lt sze2)
      have ne_c_e2 : c ≠ e2 := Nat.ne_of_lt (Nat.lt_of_lt_of_le V_c_e79.lt sze2)
      have ne_d_e2 : d ≠ e2 := Nat.ne_of_lt (Nat.lt_of_lt_of_le E_d_e79.lt sze2)
      have O80 := O79.keep K80 all0
      have A64x_e80 := A64x_e79.keep K80
      have E_o_e80 := E_o_e79.keep K80
      have Fs_e80 := Fs_e79.keep K80 nin0
      have Fre_e80 := Fre_e79.keep K80 nin0
      have V_c_e80 := V_c_e79.keep K80 nin0
      have E_c_e80 := E_c_e79.keep K80
      have V75_e80 := V75_e79.keep K80 nin0
      have E_d_e80 := E_d_e79.keep K80
      have V79_e80 := V79.keep K80 nin0
      refine own_to (fun t k => st80.trans k) ?_
      show own_Fin _ _ _ _ _ _ (T80.setTop (mkF m 161 #[.val (.int p1), .val (.int p2), .val (.int p3), .val (.int p4), .val (.int (0 : Int32)), .val (.int (2 : Int32)), .val (.ref b), .val (.ref o), .val (.ref d), .unset] [(.ref e2)]))
      refine own_to (fun t k => XS.astore X80.here hx rfl (hb hby at_161) rfl rfl (l' := #[.val (.int p1), .val (.int p2), .val (.int p3), .val (.int p4), .val (.int (0 : Int32)), .val (.int (2 : Int32)), .val (.ref b), .val (.ref o), .val (.ref d), .val (.ref e2)]) rfl k) ?_
      show own_Fin _ _ _ _ _ _ (T80.setTop (mkF m 163 #[.val (.int p1), .val (.int p2), .val (.int p3), .val (.int p4), .val (.int (0 : Int32)), .val (.int (2 : Int32)), .val (.ref b), .val (.ref o), .val (.ref d), .val (.ref e2)] []))
      refine own_to (fun t k => XS.aload X80.here hx rfl (hb hby at_163) rfl rfl k) ?_
      show own_Fin _ _ _ _ _ _ (T80.setTop (mkF m 165 #[.val (.int p1), .val (.int p2), .val (.int p3), .val (.int p4), .val (.int (0 : Int32)), .val (.int (2 : Int32)), .val (.ref b), .val (.ref o), .val (.ref d), .val (.ref e2)] [(.ref e2)]))
      refine own_to (fun t k => XS.iload X80.here hx rfl (hb hby at_165) rfl k) ?_
      show own_Fin _ _ _ _ _ _ (T80.setTop (mkF m 167 #[.val (.int p1), .val (.int p2), .val (.int p3), .val (.int p4), .val (.int (0 : Int32)), .val (.int (2 : Int32)), .val (.ref b), .val (.ref o), .val (.ref d), .val (.ref e2)] [(.int (2 : Int32)), (.ref e2)]))
      refine own_to (fun t k => XS.iloadN X80.here hx rfl (hb hby at_167) rfl k) ?_
      show own_Fin _ _ _ _ _ _ (T80.setTop (mkF m 168 #[.val (.int p1), .val (.int p2), .val (.int p3), .val (.int p4), .val (.int (0 : Int32)), .val (.int (2 : Int32)), .val (.ref b), .val (.ref o), .val (.ref d), .val (.ref e2)] [(.int p2), (.int (2 : Int32)), (.ref e2)]))
      refine own_to (fun t k => XS.iloadN X80.here hx rfl (hb hby at_168) rfl k) ?_
      show own_Fin _ _ _ _ _ _ (T80.setTop (mkF m 169 #[.val (.int p1), .val (.int p2), .val (.int p3), .val (.int p4), .val (.int (0 : Int32)), .val (.int (2 : Int32)), .val (.ref b), .val (.ref o), .val (.ref d), .val (.ref e2)] [(.int p3), (.int p2), (.int (2 : Int32)), (.ref e2)]))
      refine own_to (fun t k => XS.iloadN X80.here hx rfl (hb hby at_169) rfl k) ?_
      show own_Fin _ _ _ _ _ _ (T80.setTop (mkF m 170 #[.val (.int p1), .val (.int p2), .val (.int p3), .val (.int p4), .val (.int (0 : Int32)), .val (.int (2 : Int32)), .val (.ref b), .val (.ref o), .val (.ref d), .val (.ref e2)] [(.int p4), (.int p3), (.int p2), (.int (2 : Int32)), (.ref e2)]))
      obtain ⟨_, _, ⟨T81, L81, k81, n81⟩, -, X81, ⟨Lc81, hQ81, l81, y81, z81⟩, st81⟩ := Jvm.LawKit.callS X80 hx (y := (⟨"com/example/nuthatch/nuthatch/engine/OutcomeExecutedPinLaw", "holds", "([BIIII)Z"⟩ : MethodName)) hown (mvT hZ (hw _ (List.mem_of_getElem? (i := 40) rfl))) (mvT hZ (hw _ (List.mem_of_getElem? (i := 41) rfl))) (mvT hZ (hw _ (List.mem_of_getElem? (i := 42) rfl))) (mvT hZ (hw _ (List.mem_of_getElem? (i := 43) rfl))) (by decide) (own_back (W := 0) (own_holds2 l Z a0 hw [] e2 p2 p3 p4 k64 T80.heap n0 (Nat.le_trans (Nat.le_trans (Nat.le_trans (Nat.le_trans (Nat.le_trans (Nat.le_trans (Nat.le_trans (Nat.le_trans Z0 E64.1) (Keep.of_wr W67).1) (Keep.of_wr W69).1) K71.1) (Keep.of_wr W75).1) K76.1) (Keep.of_wr W79).1) K80.1) V_e2) hZ (hw _ (List.mem_of_getElem? (i := 43) rfl)) (hw _ (List.mem_of_getElem? (i := 42) rfl)) (by decide) (by decide)) (g := (mkF m 170 #[.val (.int p1), .val (.int p2), .val (.int p3), .val (.int p4), .val (.int (0 : Int32)), .val (.int (2 : Int32)), .val (.ref b), .val (.ref o), .val (.ref d), .val (.ref e2)] [(.int p4), (.int p3), (.int p2), (.int (2 : Int32)), (.ref e2)])) rfl (by rw [hml]; rfl) (argsL := [(.ref e2), (.int (2 : Int32)), (.int p2), (.int p3), (.int p4)]) (rest := []) (lenOf own_pd6 rfl) rfl (by show 2 * 0 + _ ≤ _; exact Nat.le_of_eq rfl) (hb hby at_170) (fun _ _ => ⟨rfl, rfl, (by decide : 5 + 0 ≤ _), (by decide : 13 + 0 ≤ _)⟩)
      dsimp only [Pt.U, Pt.locs, Pt.cells, Pt.slots] at X81 l81 y81 z81 st81 hQ81
      subst l81 y81 z81
      obtain ⟨rfl, N81q, eh81⟩ := hQ81
      have N81 := Fr.app N80 N81q
      refine own_to (fun t k => st81 t k) ?_
      show own_Fin _ _ _ _ _ _ (T81.setTop (mkF m 173 #[.val (.int p1), .val (.int p2), .val (.int p3), .val (.int p4), .val (.int (0 : Int32)), .val (.int (2 : Int32)), .val (.ref b), .val (.ref o), .val (.ref d), .val (.ref e2)] [(.int (1 : Int32))]))
      refine own_retN X81 hx hlk (t := .boolean) hret (by simp) (hb hby at_173) (by decide) (by decide) ?_
      try rw [eh81]
      exact ⟨rfl, N81⟩
    ·
      rw [hl]
      show own_Fin _ _ _ _ _ _ (s₁.setTop (mkF m 28 #[.val (.int p1), .val (.int p2), .val (.int p3), .val (.int p4), .val (.int (0 : Int32)), .val (.int (3 : Int32)), .val .null, .unset, .unset, .unset] [(.int (3 : Int32))]))
      obtain ⟨T82, h82, k82, X82, e82, E82, A82, A82x, st82⟩ := newPE X0 hx hZ (hw _ (List.mem_of_getElem? (i := 0) rfl)) e0 (g := (mkF m 28 #[.val (.int p1), .val (.int p2), .val (.int p3), .val (.int p4), .val (.int (0 : Int32)), .val (.int (3 : Int32)), .val .null, .unset, .unset, .unset] [(.int (3 : Int32))])) rfl (hb hby at_28) rfl (by decide) (cap := 3) (by decide) (by decide) (by decide) (by decide) (ad := "[B") (by decide)
      obtain ⟨b, q82⟩ : ∃ z, z = h0.size := ⟨_, rfl⟩
      rw [← q82] at A82 A82x st82
      have g_b : n0 ≤ b := Nat.le_trans Z0 (Nat.le_of_eq q82.symm)
      have O82 := O0.ext E82
      have V82 := Arv.new A82 (by decide)
      refine own_to (fun t k => st82 t k) ?_
      show own_Fin _ _ _ _ _ _ (T82.setTop (mkF m 30 #[.val (.int p1), .val (.int p2), .val (.int p3), .val (.int p4), .val (.int (0 : Int32)), .val (.int (3 : Int32)), .val .null, .unset, .unset, .unset] [(.ref b)]))
      have V83p : Arv Z h82 b k82 .byte (3 : Int32) [(.int (0 : Int32)), (.int (0 : Int32)), (.int (0 : Int32))] (.int (0 : Int32)) := V82.pad (pad_rep [] (.int (0 : Int32)) 3)
      refine own_to (fun t k => XS.astore X82.here hx rfl (hb hby at_30) rfl rfl (l' := #[.val (.int p1), .val (.int p2), .val (.int p3), .val (.int p4), .val (.int (0 : Int32)), .val (.int (3 : Int32)), .val (.ref b), .unset, .unset, .unset]) rfl k) ?_
      show own_Fin _ _ _ _ _ _ (T82.setTop (mkF m 32 #[.val (.int p1), .val (.int p2), .val (.int p3), .val (.int p4), .val (.int (0 : Int32)), .val (.int (3 : Int32)), .val (.ref b), .unset, .unset, .unset] []))
      refine own_to (fun t k => XS.iload X82.here hx rfl (hb hby at_32) rfl k) ?_
      show own_Fin _ _ _ _ _ _ (T82.setTop (mkF m 34 #[.val (.int p1), .val (.int p2), .val (.int p3), .val (.int p4), .val (.int (0 : Int32)), .val (.int (3 : Int32)), .val (.ref b), .unset, .unset, .unset] [(.int (3 : Int32))]))
      refine own_to (fun t k => XS.ifNo X82.here hx rfl (hb hby at_34) rfl ((if0 _ _).trans (tlt (by decide)).2.2.2) k) ?_
      show own_Fin _ _ _ _ _ _ (T82.setTop (mkF m 37 #[.val (.int p1), .val (.int p2), .val (.int p3), .val (.int p4), .val (.int (0 : Int32)), .val (.int (3 : Int32)), .val (.ref b), .unset, .unset, .unset] []))
      refine own_to (fun t k => XS.aload X82.here hx rfl (hb hby at_37) rfl rfl k) ?_
      show own_Fin _ _ _ _ _ _ (T82.setTop (mkF m 39 #[.val (.int p1), .val (.int p2), .val (.int p3), .val (.int p4), .val (.int (0 : Int32)), .val (.int (3 : Int32)), .val (.ref b), .unset, .unset, .unset] [(.ref b)]))
      refine own_to (fun t k => XS.iconst X82.here hx rfl (hb hby at_39) k) ?_
      show own_Fin _ _ _ _ _ _ (T82.setTop (mkF m 40 #[.val (.int p1), .val (.int p2), .val (.int p3), .val (.int p4), .val (.int (0 : Int32)), .val (.int (3 : Int32)), .val (.ref b), .unset, .unset, .unset] [(.int (0 : Int32)), (.ref b)]))
      refine own_to (fun t k => XS.iloadN X82.here hx rfl (hb hby at_40) rfl k) ?_
      show own_Fin _ _ _ _ _ _ (T82.setTop (mkF m 41 #[.val (.int p1), .val (.int p2), .val (.int p3), .val (.int p4), .val (.int (0 : Int32)), .val (.int (3 : Int32)), .val (.ref b), .unset, .unset, .unset] [(.int p2), (.int (0 : Int32)), (.ref b)]))
      refine own_to (fun t k => XS.i2b X82.here hx rfl (hb hby at_41) rfl k) ?_
      show own_Fin _ _ _ _ _ _ (T82.setTop (mkF m 42 #[.val (.int p1), .val (.int p2), .val (.int p3), .val (.int p4), .val (.int (0 : Int32)), .val (.int (3 : Int32)), .val (.ref b), .unset, .unset, .unset] [(.int (p2.toInt8.toInt32)), (.int (0 : Int32)), (.ref b)]))
      obtain ⟨cl84, Ar84, qa84, Sa84, Na84, Ha84, Ga84⟩ := id V83p
      have hin85 : ¬ ((0 : Int32) < 0 ∨ cl84.slots.size ≤ ((0 : Int32)).toNatClampNeg) := inb_of Sa84 ⟨by decide, by decide⟩
      obtain ⟨T85, h85, X85, e85, W85, st85⟩ := stB X82 hx hZ e82 Ar84 (j := (0 : Int32)) hin85 (g := (mkF m 42 #[.val (.int p1), .val (.int p2), .val (.int p3), .val (.int p4), .val (.int (0 : Int32)), .val (.int (3 : Int32)), .val (.ref b), .unset, .unset, .unset] [(.int (p2.toInt8.toInt32)), (.int (0 : Int32)), (.ref b)])) rfl rfl (hb hby at_42)
      have N85 := Fr.snoc X85 N0 g_b
      have O85 := O82.wr W85 g_b
      have A82x_e85 := A82x.wr W85
      have V85 : Arv Z h85 b k82 .byte (3 : Int32) [(.int (nar .byte (p2.toInt8.toInt32))), (.int (0 : Int32)), (.int (0 : Int32))] (.int (0 : Int32)) := Arv.set Ar84 qa84 Sa84 Na84 Ha84 Ga84 (fits_nar_byte _) W85 0 rfl (Nat.le_of_ble_eq_true rfl)
      refine own_to (fun t k => st85 t k) ?_
      show own_Fin _ _ _ _ _ _ (T85.setTop (mkF m 43 #[.val (.int p1), .val (.int p2), .val (.int p3), .val (.int p4), .val (.int (0 : Int32)), .val (.int (3 : Int32)), .val (.ref b), .unset, .unset, .unset] []))
      refine own_to (fun t k => XS.iload X85.here hx rfl (hb hby at_43) rfl k) ?_
      show own_Fin _ _ _ _ _ _ (T85.setTop (mkF m 45 #[.val (.int p1), .val (.int p2), .val (.int p3), .val (.int p4), .val (.int (0 : Int32)), .val (.int (3 : Int32)), .val (.ref b), .unset, .unset, .unset] [(.int (3 : Int32))]))
      refine own_to (fun t k => XS.iconst X85.here hx rfl (hb hby at_45) k) ?_
      show own_Fin _ _ _ _ _ _ (T85.setTop (mkF m 46 #[.val (.int p1), .val (.int p2), .val (.int p3), .val (.int p4), .val (.int (0 : Int32)), .val (.int (3 : Int32)), .val (.ref b), .unset, .unset, .unset] [(.int (1 : Int32)), (.int (3 : Int32))]))
      refine own_to (fun t k => XS.icmpNo X85.here hx rfl (hb hby at_46) rfl (tlt (by decide)).2.2.2 k) ?_
      show own_Fin _ _ _ _ _ _ (T85.setTop (mkF m 49 #[.val (.int p1), .val (.int p2), .val (.int p3), .val (.int p4), .val (.int (0 : Int32)), .val (.int (3 : Int32)), .val (.ref b), .unset, .unset, .unset] []))
      refine own_to (fun t k => XS.aload X85.here hx rfl (hb hby at_49) rfl rfl k) ?_
      show own_Fin _ _ _ _ _ _ (T85.setTop (mkF m 51 #[.val (.int p1), .val (.int p2), .val (.int p3), .val (.int p4), .val (.int (0 : Int32)), .val (.int (3 : Int32)), .val (.ref b), .unset, .unset, .unset] [(.ref b)]))
      refine own_to (fun t k => XS.iconst X85.here hx rfl (hb hby at_51) k) ?_
      show own_Fin _ _ _ _ _ _ (T85.setTop (mkF m 52 #[.val (.int p1), .val (.int p2), .val (.int p3), .val (.int p4), .val (.int (0 : Int32)), .val (.int (3 : Int32)), .val (.ref b), .unset, .unset, .unset] [(.int (1 : Int32)), (.ref b)]))
      refine own_to (fun t k => XS.iloadN X85.here hx rfl (hb hby at_52) rfl k) ?_
      show own_Fin _ _ _ _ _ _ (T85.setTop (mkF m 53 #[.val (.int p1), .val (.int p2), .val (.int p3), .val (.int p4), .val (.int (0 : Int32)), .val (.int (3 : Int32)), .val (.ref b), .unset, .unset, .unset] [(.int p3), (.int (1 : Int32)), (.ref b)]))
      refine own_to (fun t k => XS.i2b X85.here hx rfl (hb hby at_53) rfl k) ?_
      show own_Fin _ _ _ _ _ _ (T85.setTop (mkF m 54 #[.val (.int p1), .val (.int p2), .val (.int p3), .val (.int p4), .val (.int (0 : Int32)), .val (.int (3 : Int32)), .val (.ref b), .unset, .unset, .unset] [(.int (p3.toInt8.toInt32)), (.int (1 : Int32)), (.ref b)]))
      obtain ⟨cl86, Ar86, qa86, Sa86, Na86, Ha86, Ga86⟩ := id V85
      have hin87 : ¬ ((1 : Int32) < 0 ∨ cl86.slots.size ≤ ((1 : Int32)).toNatClampNeg) := inb_of Sa86 ⟨by decide, by decide⟩
      obtain ⟨T87, h87, X87, e87, W87, st87⟩ := stB X85 hx hZ e85 Ar86 (j := (1 : Int32)) hin87 (g := (mkF m 54 #[.val (.int p1), .val (.int p2), .val (.int p3), .val (.int p4), .val (.int (0 : Int32)), .val (.int (3 : Int32)), .val (.ref b), .unset, .unset, .unset] [(.int (p3.toInt8.toInt32)), (.int (1 : Int32)), (.ref b)])) rfl rfl (hb hby at_54)
      have N87 := Fr.snoc X87 N85 g_b
      have O87 := O85.wr W87 g_b
      have A82x_e87 := A82x_e85.wr W87
      have V87 : Arv Z h87 b k82 .byte (3 : Int32) [(.int (nar .byte (p2.toInt8.toInt32))), (.int (nar .byte (p3.toInt8.toInt32))), (.int (0 : Int32))] (.int (0 : Int32)) := Arv.set Ar86 qa86 Sa86 Na86 Ha86 Ga86 (fits_nar_byte _) W87 1 rfl (Nat.le_of_ble_eq_true rfl)
      refine own_to (fun t k => st87 t k) ?_
      show own_Fin _ _ _ _ _ _ (T87.setTop (mkF m 55 #[.val (.int p1), .val (.int p2), .val (.int p3), .val (.int p4), .val (.int (0 : Int32)), .val (.int (3 : Int32)), .val (.ref b), .unset, .unset, .unset] []))
      refine own_to (fun t k => XS.iload X87.here hx rfl (hb hby at_55) rfl k) ?_
      show own_Fin _ _ _ _ _ _ (T87.setTop (mkF m 57 #[.val (.int p1), .val (.int p2), .val (.int p3), .val (.int p4), .val (.int (0 : Int32)), .val (.int (3 : Int32)), .val (.ref b), .unset, .unset, .unset] [(.int (3 : Int32))]))
      refine own_to (fun t k => XS.iconst X87.here hx rfl (hb hby at_57) k) ?_
      show own_Fin _ _ _ _ _ _ (T87.setTop (mkF m 58 #[.val (.int p1), .val (.int p2), .val (.int p3), .val (.int p4), .val (.int (0 : Int32)), .val (.int (3 : Int32)), .val (.ref b), .unset, .unset, .unset] [(.int (2 : Int32)), (.int (3 : Int32))]))
      refine own_to (fun t k => XS.icmpNo X87.here hx rfl (hb hby at_58) rfl (tlt (by decide)).2.2.2 k) ?_
      show own_Fin _ _ _ _ _ _ (T87.setTop (mkF m 61 #[.val (.int p1), .val (.int p2), .val (.int p3), .val (.int p4), .val (.int (0 : Int32)), .val (.int (3 : Int32)), .val (.ref b), .unset, .unset, .unset] []))
      refine own_to (fun t k => XS.aload X87.here hx rfl (hb hby at_61) rfl rfl k) ?_
      show own_Fin _ _ _ _ _ _ (T87.setTop (mkF m 63 #[.val (.int p1), .val (.int p2), .val (.int p3), .val (.int p4), .val (.int (0 : Int32)), .val (.int (3 : Int32)), .val (.ref b), .unset, .unset, .unset] [(.ref b)]))
      refine own_to (fun t k => XS.iconst X87.here hx rfl (hb hby at_63) k) ?_
      show own_Fin _ _ _ _ _ _ (T87.setTop (mkF m 64 #[.val (.int p1), .val (.int p2), .val (.int p3), .val (.int p4), .val (.int (0 : Int32)), .val (.int (3 : Int32)), .val (.ref b), .unset, .unset, .unset] [(.int (2 : Int32)), (.ref b)]))
      refine own_to (fun t k => XS.iloadN X87.here hx rfl (hb hby at_64) rfl k) ?_
      show own_Fin _ _ _ _ _ _ (T87.setTop (mkF m 65 #[.val (.int p1), .val (.int p2), .val (.int p3), .val (.int p4), .val (.int (0 : Int32)), .val (.int (3 : Int32)), .val (.ref b), .unset, .unset, .unset] [(.int p4), (.int (2 : Int32)), (.ref b)]))
      refine own_to (fun t k => XS.i2b X87.here hx rfl (hb hby at_65) rfl k) ?_
      show own_Fin _ _ _ _ _ _ (T87.setTop (mkF m 66 #[.val (.int p1), .val (.int p2), .val (.int p3), .val (.int p4), .val (.int (0 : Int32)), .val (.int (3 : Int32)), .val (.ref b), .unset, .unset, .unset] [(.int (p4.toInt8.toInt32)), (.int (2 : Int32)), (.ref b)]))
      obtain ⟨cl88, Ar88, qa88, Sa88, Na88, Ha88, Ga88⟩ := id V87
      have hin89 : ¬ ((2 : Int32) < 0 ∨ cl88.slots.size ≤ ((2 : Int32)).toNatClampNeg) := inb_of Sa88 ⟨by decide, by decide⟩
      obtain ⟨T89, h89, X89, e89, W89, st89⟩ := stB X87 hx hZ e87 Ar88 (j := (2 : Int32)) hin89 (g := (mkF m 66 #[.val (.int p1), .val (.int p2), .val (.int p3), .val (.int p4), .val (.int (0 : Int32)), .val (.int (3 : Int32)), .val (.ref b), .unset, .unset, .unset] [(.int (p4.toInt8.toInt32)), (.int (2 : Int32)), (.ref b)])) rfl rfl (hb hby at_66)
      have N89 := Fr.snoc X89 N87 g_b
      have O89 := O87.wr W89 g_b
      have A82x_e89 := A82x_e87.wr W89
      have V89 : Arv Z h89 b k82 .byte (3 : Int32) [(.int (nar .byte (p2.toInt8.toInt32))), (.int (nar .byte (p3.toInt8.toInt32))), (.int (nar .byte (p4.toInt8.toInt32)))] (.int (0 : Int32)) := Arv.set Ar88 qa88 Sa88 Na88 Ha88 Ga88 (fits_nar_byte _) W89 2 rfl (Nat.le_of_ble_eq_true rfl)
      refine own_to (fun t k => st89 t k) ?_
      show own_Fin _ _ _ _ _ _ (T89.setTop (mkF m 67 #[.val (.int p1), .val (.int p2), .val (.int p3), .val (.int p4), .val (.int (0 : Int32)), .val (.int (3 : Int32)), .val (.ref b), .unset, .unset, .unset] []))
      refine own_to (fun t k => XS.aload X89.here hx rfl (hb hby at_67) rfl rfl k) ?_
      show own_Fin _ _ _ _ _ _ (T89.setTop (mkF m 69 #[.val (.int p1), .val (.int p2), .val (.int p3), .val (.int p4), .val (.int (0 : Int32)), .val (.int (3 : Int32)), .val (.ref b), .unset, .unset, .unset] [(.ref b)]))
      have Vn90 : Arv Z h89 b k82 .byte (3 : Int32) [(.int (p2.toInt8.toInt32)), (.int (p3.toInt8.toInt32)), (.int (p4.toInt8.toInt32))] (.int (0 : Int32)) := by rw [own_idem p2, own_idem p3, own_idem p4] at V89; exact V89
      obtain ⟨_, _, ⟨T91, L91, k91, n91⟩, -, X91, ⟨Lc91, hQ91, l91, y91, z91⟩, st91⟩ := Jvm.LawKit.callS X89 hx (y := (⟨"com/example/nuthatch/nuthatch/engine/Outcome", "executed", "([B)Lcom/example/nuthatch/nuthatch/engine/Outcome;"⟩ : MethodName)) hown (mvT hZ (hw _ (List.mem_of_getElem? (i := 1) rfl))) (mvT hZ (hw _ (List.mem_of_getElem? (i := 2) rfl))) (mvT hZ (hw _ (List.mem_of_getElem? (i := 3) rfl))) (mvT hZ (hw _ (List.mem_of_getElem? (i := 4) rfl))) (by decide) (own_back (W := 0) (own_exeA l Z a0 hw [] wS b k82 (3 : Int32) [(.int (p2.toInt8.toInt32)), (.int (p3.toInt8.toInt32)), (.int (p4.toInt8.toInt32))] h89 n0 (Nat.le_trans (Nat.le_trans (Nat.le_trans (Nat.le_trans Z0 E82.1) (Keep.of_wr W85).1) (Keep.of_wr W87).1) (Keep.of_wr W89).1) O89 SS Vn90 A82x_e89 (by decide)) hZ (hw _ (List.mem_of_getElem? (i := 4) rfl)) (hw _ (List.mem_of_getElem? (i := 3) rfl)) (by decide) (by decide)) (g := (mkF m 69 #[.val (.int p1), .val (.int p2), .val (.int p3), .val (.int p4), .val (.int (0 : Int32)), .val (.int (3 : Int32)), .val (.ref b), .unset, .unset, .unset] [(.ref b)])) rfl (by rw [hml]; rfl) (argsL := [(.ref b)]) (rest := []) (lenOf own_pd3 rfl) rfl (by show 2 * 0 + _ ≤ _; exact Nat.le_of_eq rfl) (hb hby at_69) (fun _ _ => ⟨rfl, e89, (by decide : 1 + 2 ≤ _), (by decide : 3 + 5 ≤ _)⟩)
      dsimp only [Pt.U, Pt.locs, Pt.cells, Pt.slots] at X91 l91 y91 z91 st91 hQ91
      subst l91 y91 z91
      obtain ⟨o, c, rfl, N91q, K91, g_o, szo, g_c, szc, E_o, Fs, Fre, V_c, E_c⟩ := hQ91
      have N91 := Fr.app N89 N91q
      have ne_b_o : b ≠ o := Nat.ne_of_lt (Nat.lt_of_lt_of_le A82x_e89.lt szo)
      have ne_b_c : b ≠ c := Nat.ne_of_lt (Nat.lt_of_lt_of_le A82x_e89.lt szc)
      have O91 := O89.keep K91 all0
      have A82x_e91 := A82x_e89.keep K91
      have Vn90_e91 := Vn90.keep K91 nin0
      refine own_to (fun t k => st91 t k) ?_
      show own_Fin _ _ _ _ _ _ (T91.setTop (mkF m 72 #[.val (.int p1), .val (.int p2), .val (.int p3), .val (.int p4), .val (.int (0 : Int32)), .val (.int (3 : Int32)), .val (.ref b), .unset, .unset, .unset] [(.ref o)]))
      refine own_to (fun t k => XS.astore X91.here hx rfl (hb hby at_72) rfl rfl (l' := #[.val (.int p1), .val (.int p2), .val (.int p3), .val (.int p4), .val (.int (0 : Int32)), .val (.int (3 : Int32)), .val (.ref b), .val (.ref o), .unset, .unset]) rfl k) ?_
      show own_Fin _ _ _ _ _ _ (T91.setTop (mkF m 74 #[.val (.int p1), .val (.int p2), .val (.int p3), .val (.int p4), .val (.int (0 : Int32)), .val (.int (3 : Int32)), .val (.ref b), .val (.ref o), .unset, .unset] []))
      refine own_to (fun t k => XS.aload X91.here hx rfl (hb hby at_74) rfl rfl k) ?_
      show own_Fin _ _ _ _ _ _ (T91.setTop (mkF m 76 #[.val (.int p1), .val (.int p2), .val (.int p3), .val (.int p4), .val (.int (0 : Int32)), .val (.int (3 : Int32)), .val (.ref b), .val (.ref o), .unset, .unset] [(.ref o)]))
      obtain ⟨cq92, kq92, q92a, q92b, q92c⟩ := isOf hZ rfl E_o
      obtain ⟨_, _, ⟨T92, L92, k92, n92⟩, -, X92, ⟨Lc92, hQ92, l92, y92, z92⟩, st92⟩ := X91.virtualBack hx (y := (⟨"com/example/nuthatch/nuthatch/engine/Outcome", "status", "()Lcom/example/nuthatch/nuthatch/engine/Status;"⟩ : MethodName)) (z := (⟨"com/example/nuthatch/nuthatch/engine/Outcome", "status", "()Lcom/example/nuthatch/nuthatch/engine/Status;"⟩ : MethodName)) hown (mvT hZ (hw _ (List.mem_of_getElem? (i := 29) rfl))) (mvT hZ (hw _ (List.mem_of_getElem? (i := 30) rfl))) (notFace_of_selects (args := #[]) (mvT hZ (hw _ (List.mem_of_getElem? (i := 32) rfl)))) (mvT hZ (hw _ (List.mem_of_getElem? (i := 32) rfl))) (mvT hZ (hw _ (List.mem_of_getElem? (i := 31) rfl))) (by decide) (own_back (W := 0) (own_rm4 l Z a0 hw [] o wS T91.heap n0 (Nat.le_trans (Nat.le_trans (Nat.le_trans (Nat.le_trans (Nat.le_trans Z0 E82.1) (Keep.of_wr W85).1) (Keep.of_wr W87).1) (Keep.of_wr W89).1) K91.1) Fs) hZ (hw _ (List.mem_of_getElem? (i := 33) rfl)) (hw _ (List.mem_of_getElem? (i := 3) rfl)) (by decide) (by decide)) q92a q92c (g := (mkF m 76 #[.val (.int p1), .val (.int p2), .val (.int p3), .val (.int p4), .val (.int (0 : Int32)), .val (.int (3 : Int32)), .val (.ref b), .val (.ref o), .unset, .unset] [(.ref o)])) rfl (by rw [hml]; rfl) (Steps.refl _) (argsL := []) (rest := []) (lenOf own_pd4 rfl) rfl (by show 2 * 0 + _ ≤ _; exact Nat.le_of_eq rfl) (hb hby at_76) (fun _ _ => ⟨rfl, rfl, (by decide : 3 + 0 ≤ _), (by decide : 8 + 0 ≤ _)⟩)
      dsimp only [Pt.U, Pt.locs, Pt.cells, Pt.slots] at X92 l92 y92 z92 st92 hQ92
      subst l92 y92 z92
      obtain ⟨rfl, N92q, eh92⟩ := hQ92
      have N92 := Fr.app N91 N92q
      refine own_to (fun t k => st92.trans k) ?_
      show own_Fin _ _ _ _ _ _ (T92.setTop (mkF m 79 #[.val (.int p1), .val (.int p2), .val (.int p3), .val (.int p4), .val (.int (0 : Int32)), .val (.int (3 : Int32)), .val (.ref b), .val (.ref o), .unset, .unset] [(.ref wS)]))
      obtain ⟨T93, X93, e93, st93⟩ := getS2 X92 hx hZ hown (host := "") (Or.inl (hw _ (List.mem_of_getElem? (i := 34) rfl))) Via.refl eh92 (SS.ext O91.2) (g := (mkF m 79 #[.val (.int p1), .val (.int p2), .val (.int p3), .val (.int p4), .val (.int (0 : Int32)), .val (.int (3 : Int32)), .val (.ref b), .val (.ref o), .unset, .unset] [(.ref wS)])) rfl (hb hby at_79)
      refine own_to (fun t k => st93 t k) ?_
      show own_Fin _ _ _ _ _ _ (T93.setTop (mkF m 82 #[.val (.int p1), .val (.int p2), .val (.int p3), .val (.int p4), .val (.int (0 : Int32)), .val (.int (3 : Int32)), .val (.ref b), .val (.ref o), .unset, .unset] [(.ref wS), (.ref wS)]))
      refine own_to (fun t k => Jvm.RoadKit.acmp (g := (mkF m 82 #[.val (.int p1), .val (.int p2), .val (.int p3), .val (.int p4), .val (.int (0 : Int32)), .val (.int (3 : Int32)), .val (.ref b), .val (.ref o), .unset, .unset] [(.ref wS), (.ref wS)])) X93 hx rfl rfl rfl (pc0 := 82) (pc' := 87) (same := true) rfl (hb hby at_82) rfl (decide_eq_true rfl) (by decide) (by decide) k) ?_
      show own_Fin _ _ _ _ _ _ (T93.setTop (mkF m 87 #[.val (.int p1), .val (.int p2), .val (.int p3), .val (.int p4), .val (.int (0 : Int32)), .val (.int (3 : Int32)), .val (.ref b), .val (.ref o), .unset, .unset] []))
      refine own_to (fun t k => XS.aload X93.here hx rfl (hb hby at_87) rfl rfl k) ?_
      show own_Fin _ _ _ _ _ _ (T93.setTop (mkF m 89 #[.val (.int p1), .val (.int p2), .val (.int p3), .val (.int p4), .val (.int (0 : Int32)), .val (.int (3 : Int32)), .val (.ref b), .val (.ref o), .unset, .unset] [(.ref b)]))
      refine own_to (fun t k => XS.ifnullNo X93.here hx rfl (hb hby at_89) rfl k) ?_
      show own_Fin _ _ _ _ _ _ (T93.setTop (mkF m 92 #[.val (.int p1), .val (.int p2), .val (.int p3), .val (.int p4), .val (.int (0 : Int32)), .val (.int (3 : Int32)), .val (.ref b), .val (.ref o), .unset, .unset] []))
      refine own_to (fun t k => XS.iload X93.here hx rfl (hb hby at_92) rfl k) ?_
      show own_Fin _ _ _ _ _ _ (T93.setTop (mkF m 94 #[.val (.int p1), .val (.int p2), .val (.int p3), .val (.int p4), .val (.int (0 : Int32)), .val (.int (3 : Int32)), .val (.ref b), .val (.ref o), .unset, .unset] [(.int (3 : Int32))]))
      refine own_to (fun t k => XS.ifNo X93.here hx rfl (hb hby at_94) rfl ((if0 _ _).trans (tlt (by decide)).2.2.2) k) ?_
      show own_Fin _ _ _ _ _ _ (T93.setTop (mkF m 97 #[.val (.int p1), .val (.int p2), .val (.int p3), .val (.int p4), .val (.int (0 : Int32)), .val (.int (3 : Int32)), .val (.ref b), .val (.ref o), .unset, .unset] []))
      refine own_to (fun t k => XS.aload X93.here hx rfl (hb hby at_97) rfl rfl k) ?_
      show own_Fin _ _ _ _ _ _ (T93.setTop (mkF m 99 #[.val (.int p1), .val (.int p2), .val (.int p3), .val (.int p4), .val (.int (0 : Int32)), .val (.int (3 : Int32)), .val (.ref b), .val (.ref o), .unset, .unset] [(.ref b)]))
      refine own_to (fun t k => XS.iconst X93.here hx rfl (hb hby at_99) k) ?_
      show own_Fin _ _ _ _ _ _ (T93.setTop (mkF m 100 #[.val (.int p1), .val (.int p2), .val (.int p3), .val (.int p4), .val (.int (0 : Int32)), .val (.int (3 : Int32)), .val (.ref b), .val (.ref o), .unset, .unset] [(.int (0 : Int32)), (.ref b)]))
      refine own_to (fun t k => XS.iloadN X93.here hx rfl (hb hby at_100) rfl k) ?_
      show own_Fin _ _ _ _ _ _ (T93.setTop (mkF m 101 #[.val (.int p1), .val (.int p2), .val (.int p3), .val (.int p4), .val (.int (0 : Int32)), .val (.int (3 : Int32)), .val (.ref b), .val (.ref o), .unset, .unset] [(.int p2), (.int (0 : Int32)), (.ref b)]))
      refine own_to (fun t k => XS.iconst X93.here hx rfl (hb hby at_101) k) ?_
      show own_Fin _ _ _ _ _ _ (T93.setTop (mkF m 102 #[.val (.int p1), .val (.int p2), .val (.int p3), .val (.int p4), .val (.int (0 : Int32)), .val (.int (3 : Int32)), .val (.ref b), .val (.ref o), .unset, .unset] [(.int (-1 : Int32)), (.int p2), (.int (0 : Int32)), (.ref b)]))
      refine own_to (fun t k => XS.ixor X93.here hx rfl (hb hby at_102) rfl k) ?_
      show own_Fin _ _ _ _ _ _ (T93.setTop (mkF m 103 #[.val (.int p1), .val (.int p2), .val (.int p3), .val (.int p4), .val (.int (0 : Int32)), .val (.int (3 : Int32)), .val (.ref b), .val (.ref o), .unset, .unset] [(.int (p2 ^^^ (-1 : Int32))), (.int (0 : Int32)), (.ref b)]))
      refine own_to (fun t k => XS.i2b X93.here hx rfl (hb hby at_103) rfl k) ?_
      show own_Fin _ _ _ _ _ _ (T93.setTop (mkF m 104 #[.val (.int p1), .val (.int p2), .val (.int p3), .val (.int p4), .val (.int (0 : Int32)), .val (.int (3 : Int32)), .val (.ref b), .val (.ref o), .unset, .unset] [(.int ((p2 ^^^ (-1 : Int32)).toInt8.toInt32)), (.int (0 : Int32)), (.ref b)]))
      obtain ⟨cl94, Ar94, qa94, Sa94, Na94, Ha94, Ga94⟩ := id Vn90_e91
      have hin95 : ¬ ((0 : Int32) < 0 ∨ cl94.slots.size ≤ ((0 : Int32)).toNatClampNeg) := inb_of Sa94 ⟨by decide, by decide⟩
      obtain ⟨T95, h95, X95, e95, W95, st95⟩ := stB X93 hx hZ e93 Ar94 (j := (0 : Int32)) hin95 (g := (mkF m 104 #[.val (.int p1), .val (.int p2), .val (.int p3), .val (.int p4), .val (.int (0 : Int32)), .val (.int (3 : Int32)), .val (.ref b), .val (.ref o), .unset, .unset] [(.int ((p2 ^^^ (-1 : Int32)).toInt8.toInt32)), (.int (0 : Int32)), (.ref b)])) rfl rfl (hb hby at_104)
      have N95 := Fr.snoc X95 N92 g_b
      have O95 := O91.wr W95 g_b
      have A82x_e95 := A82x_e91.wr W95
      have E_o_e95 := E_o.wr W95
      have Fs_e95 := Fs.other W95 (Or.inl (Ne.symm ne_b_o))
      have Fre_e95 := Fre.other W95 (Or.inl (Ne.symm ne_b_o))
      have V_c_e95 := V_c.other W95 (Ne.symm ne_b_c)
      have E_c_e95 := E_c.wr W95
      have V95 : Arv Z h95 b k82 .byte (3 : Int32) [(.int (nar .byte ((p2 ^^^ (-1 : Int32)).toInt8.toInt32))), (.int (p3.toInt8.toInt32)), (.int (p4.toInt8.toInt32))] (.int (0 : Int32)) := Arv.set Ar94 qa94 Sa94 Na94 Ha94 Ga94 (fits_nar_byte _) W95 0 rfl (Nat.le_of_ble_eq_true rfl)
      refine own_to (fun t k => st95 t k) ?_
      show own_Fin _ _ _ _ _ _ (T95.setTop (mkF m 105 #[.val (.int p1), .val (.int p2), .val (.int p3), .val (.int p4), .val (.int (0 : Int32)), .val (.int (3 : Int32)), .val (.ref b), .val (.ref o), .unset, .unset] []))
      refine own_to (fun t k => XS.aload X95.here hx rfl (hb hby at_105) rfl rfl k) ?_
      show own_Fin _ _ _ _ _ _ (T95.setTop (mkF m 107 #[.val (.int p1), .val (.int p2), .val (.int p3), .val (.int p4), .val (.int (0 : Int32)), .val (.int (3 : Int32)), .val (.ref b), .val (.ref o), .unset, .unset] [(.ref o)]))
      obtain ⟨cq96, kq96, q96a, q96b, q96c⟩ := isOf hZ e95 E_o_e95
      obtain ⟨_, _, ⟨T96, L96, k96, n96⟩, -, X96, ⟨Lc96, hQ96, l96, y96, z96⟩, st96⟩ := X95.virtualBack hx (y := (⟨"com/example/nuthatch/nuthatch/engine/Outcome", "response", "()[B"⟩ : MethodName)) (z := (⟨"com/example/nuthatch/nuthatch/engine/Outcome", "response", "()[B"⟩ : MethodName)) hown (mvT hZ (hw _ (List.mem_of_getElem? (i := 35) rfl))) (mvT hZ (hw _ (List.mem_of_getElem? (i := 36) rfl))) (notFace_of_selects (args := #[]) (mvT hZ (hw _ (List.mem_of_getElem? (i := 38) rfl)))) (mvT hZ (hw _ (List.mem_of_getElem? (i := 38) rfl))) (mvT hZ (hw _ (List.mem_of_getElem? (i := 37) rfl))) (by decide) (own_back (W := 0) (own_resA l Z a0 hw [] o c k82 (3 : Int32) [(.int (p2.toInt8.toInt32)), (.int (p3.toInt8.toInt32)), (.int (p4.toInt8.toInt32))] h95 n0 (Nat.le_trans (Nat.le_trans (Nat.le_trans (Nat.le_trans (Nat.le_trans (Nat.le_trans Z0 E82.1) (Keep.of_wr W85).1) (Keep.of_wr W87).1) (Keep.of_wr W89).1) K91.1) (Keep.of_wr W95).1) Fre_e95 V_c_e95 E_c_e95 (by decide)) hZ (hw _ (List.mem_of_getElem? (i := 39) rfl)) (hw _ (List.mem_of_getElem? (i := 3) rfl)) (by decide) (by decide)) q96a q96c (g := (mkF m 107 #[.val (.int p1), .val (.int p2), .val (.int p3), .val (.int p4), .val (.int (0 : Int32)), .val (.int (3 : Int32)), .val (.ref b), .val (.ref o), .unset, .unset] [(.ref o)])) rfl (by rw [hml]; rfl) (Steps.refl _) (argsL := []) (rest := []) (lenOf own_pd5 rfl) rfl (by show 2 * 0 + _ ≤ _; exact Nat.le_of_eq rfl) (hb hby at_107) (fun _ _ => ⟨rfl, e95, (by decide : 3 + 1 ≤ _), (by decide : 8 + 3 ≤ _)⟩)
      dsimp only [Pt.U, Pt.locs, Pt.cells, Pt.slots] at X96 l96 y96 z96 st96 hQ96
      subst l96 y96 z96
      obtain ⟨d, rfl, N96q, K96, g_d, szd, V_d, E_d⟩ := hQ96
      have N96 := Fr.app N95 N96q
      have ne_b_d : b ≠ d := Nat.ne_of_lt (Nat.lt_of_lt_of_le A82x_e95.lt szd)
      have ne_o_d : o ≠ d := Nat.ne_of_lt (Nat.lt_of_lt_of_le E_o_e95.lt szd)
      have ne_c_d : c ≠ d := Nat.ne_of_lt (Nat.lt_of_lt_of_le V_c_e95.lt szd)
      have O96 := O95.keep K96 all0
      have A82x_e96 := A82x_e95.keep K96
      have E_o_e96 := E_o_e95.keep K96
      have Fs_e96 := Fs_e95.keep K96 nin0
      have Fre_e96 := Fre_e95.keep K96 nin0
      have V_c_e96 := V_c_e95.keep K96 nin0
      have E_c_e96 := E_c_e95.keep K96
      have V95_e96 := V95.keep K96 nin0
      refine own_to (fun t k => st96.trans k) ?_
      show own_Fin _ _ _ _ _ _ (T96.setTop (mkF m 110 #[.val (.int p1), .val (.int p2), .val (.int p3), .val (.int p4), .val (.int (0 : Int32)), .val (.int (3 : Int32)), .val (.ref b), .val (.ref o), .unset, .unset] [(.ref d)]))
      refine own_to (fun t k => XS.astore X96.here hx rfl (hb hby at_110) rfl rfl (l' := #[.val (.int p1), .val (.int p2), .val (.int p3), .val (.int p4), .val (.int (0 : Int32)), .val (.int (3 : Int32)), .val (.ref b), .val (.ref o), .val (.ref d), .unset]) rfl k) ?_
      show own_Fin _ _ _ _ _ _ (T96.setTop (mkF m 112 #[.val (.int p1), .val (.int p2), .val (.int p3), .val (.int p4), .val (.int (0 : Int32)), .val (.int (3 : Int32)), .val (.ref b), .val (.ref o), .val (.ref d), .unset] []))
      refine own_to (fun t k => XS.iload X96.here hx rfl (hb hby at_112) rfl k) ?_
      show own_Fin _ _ _ _ _ _ (T96.setTop (mkF m 114 #[.val (.int p1), .val (.int p2), .val (.int p3), .val (.int p4), .val (.int (0 : Int32)), .val (.int (3 : Int32)), .val (.ref b), .val (.ref o), .val (.ref d), .unset] [(.int (0 : Int32))]))
      refine own_to (fun t k => XS.ifYes X96.here hx rfl (pc0 := 114) (pc' := 128) rfl (hb hby at_114) rfl ((if0 _ _).trans (teq rfl).1) (by decide) (by decide) k) ?_
      show own_Fin _ _ _ _ _ _ (T96.setTop (mkF m 128 #[.val (.int p1), .val (.int p2), .val (.int p3), .val (.int p4), .val (.int (0 : Int32)), .val (.int (3 : Int32)), .val (.ref b), .val (.ref o), .val (.ref d), .unset] []))
      refine own_to (fun t k => XS.aload X96.here hx rfl (hb hby at_128) rfl rfl k) ?_
      show own_Fin _ _ _ _ _ _ (T96.setTop (mkF m 130 #[.val (.int p1), .val (.int p2), .val (.int p3), .val (.int p4), .val (.int (0 : Int32)), .val (.int (3 : Int32)), .val (.ref b), .val (.ref o), .val (.ref d), .unset] [(.ref d)]))
      refine own_to (fun t k => XS.iload X96.here hx rfl (hb hby at_130) rfl k) ?_
      show own_Fin _ _ _ _ _ _ (T96.setTop (mkF m 132 #[.val (.int p1), .val (.int p2), .val (.int p3), .val (.int p4), .val (.int (0 : Int32)), .val (.int (3 : Int32)), .val (.ref b), .val (.ref o), .val (.ref d), .unset] [(.int (3 : Int32)), (.ref d)]))
      refine own_to (fun t k => XS.iloadN X96.here hx rfl (hb hby at_132) rfl k) ?_
      show own_Fin _ _ _ _ _ _ (T96.setTop (mkF m 133 #[.val (.int p1), .val (.int p2), .val (.int p3), .val (.int p4), .val (.int (0 : Int32)), .val (.int (3 : Int32)), .val (.ref b), .val (.ref o), .val (.ref d), .unset] [(.int p2), (.int (3 : Int32)), (.ref d)]))
      refine own_to (fun t k => XS.iloadN X96.here hx rfl (hb hby at_133) rfl k) ?_
      show own_Fin _ _ _ _ _ _ (T96.setTop (mkF m 134 #[.val (.int p1), .val (.int p2), .val (.int p3), .val (.int p4), .val (.int (0 : Int32)), .val (.int (3 : Int32)), .val (.ref b), .val (.ref o), .val (.ref d), .unset] [(.int p3), (.int p2), (.int (3 : Int32)), (.ref d)]))
      refine own_to (fun t k => XS.iloadN X96.here hx rfl (hb hby at_134) rfl k) ?_
      show own_Fin _ _ _ _ _ _ (T96.setTop (mkF m 135 #[.val (.int p1), .val (.int p2), .val (.int p3), .val (.int p4), .val (.int (0 : Int32)), .val (.int (3 : Int32)), .val (.ref b), .val (.ref o), .val (.ref d), .unset] [(.int p4), (.int p3), (.int p2), (.int (3 : Int32)), (.ref d)]))
      obtain ⟨_, _, ⟨T97, L97, k97, n97⟩, -, X97, ⟨Lc97, hQ97, l97, y97, z97⟩, st97⟩ := Jvm.LawKit.callS X96 hx (y := (⟨"com/example/nuthatch/nuthatch/engine/OutcomeExecutedPinLaw", "holds", "([BIIII)Z"⟩ : MethodName)) hown (mvT hZ (hw _ (List.mem_of_getElem? (i := 40) rfl))) (mvT hZ (hw _ (List.mem_of_getElem? (i := 41) rfl))) (mvT hZ (hw _ (List.mem_of_getElem? (i := 42) rfl))) (mvT hZ (hw _ (List.mem_of_getElem? (i := 43) rfl))) (by decide) (own_back (W := 0) (own_holds3 l Z a0 hw [] d p2 p3 p4 k82 T96.heap n0 (Nat.le_trans (Nat.le_trans (Nat.le_trans (Nat.le_trans (Nat.le_trans (Nat.le_trans (Nat.le_trans Z0 E82.1) (Keep.of_wr W85).1) (Keep.of_wr W87).1) (Keep.of_wr W89).1) K91.1) (Keep.of_wr W95).1) K96.1) V_d) hZ (hw _ (List.mem_of_getElem? (i := 43) rfl)) (hw _ (List.mem_of_getElem? (i := 42) rfl)) (by decide) (by decide)) (g := (mkF m 135 #[.val (.int p1), .val (.int p2), .val (.int p3), .val (.int p4), .val (.int (0 : Int32)), .val (.int (3 : Int32)), .val (.ref b), .val (.ref o), .val (.ref d), .unset] [(.int p4), (.int p3), (.int p2), (.int (3 : Int32)), (.ref d)])) rfl (by rw [hml]; rfl) (argsL := [(.ref d), (.int (3 : Int32)), (.int p2), (.int p3), (.int p4)]) (rest := []) (lenOf own_pd6 rfl) rfl (by show 2 * 0 + _ ≤ _; exact Nat.le_of_eq rfl) (hb hby at_135) (fun _ _ => ⟨rfl, rfl, (by decide : 4 + 0 ≤ _), (by decide : 11 + 0 ≤ _)⟩)
      dsimp only [Pt.U, Pt.locs, Pt.cells, Pt.slots] at X97 l97 y97 z97 st97 hQ97
      subst l97 y97 z97
      obtain ⟨rfl, N97q, eh97⟩ := hQ97
      have N97 := Fr.app N96 N97q
      refine own_to (fun t k => st97 t k) ?_
      show own_Fin _ _ _ _ _ _ (T97.setTop (mkF m 138 #[.val (.int p1), .val (.int p2), .val (.int p3), .val (.int p4), .val (.int (0 : Int32)), .val (.int (3 : Int32)), .val (.ref b), .val (.ref o), .val (.ref d), .unset] [(.int (1 : Int32))]))
      refine own_to (fun t k => XS.ifYes X97.here hx rfl (pc0 := 138) (pc' := 143) rfl (hb hby at_138) rfl ((if0 _ _).trans (feq (by decide)).2) (by decide) (by decide) k) ?_
      show own_Fin _ _ _ _ _ _ (T97.setTop (mkF m 143 #[.val (.int p1), .val (.int p2), .val (.int p3), .val (.int p4), .val (.int (0 : Int32)), .val (.int (3 : Int32)), .val (.ref b), .val (.ref o), .val (.ref d), .unset] []))
      refine own_to (fun t k => XS.iload X97.here hx rfl (hb hby at_143) rfl k) ?_
      show own_Fin _ _ _ _ _ _ (T97.setTop (mkF m 145 #[.val (.int p1), .val (.int p2), .val (.int p3), .val (.int p4), .val (.int (0 : Int32)), .val (.int (3 : Int32)), .val (.ref b), .val (.ref o), .val (.ref d), .unset] [(.int (3 : Int32))]))
      refine own_to (fun t k => XS.ifNo X97.here hx rfl (hb hby at_145) rfl ((if0 _ _).trans (tlt (by decide)).2.2.2) k) ?_
      show own_Fin _ _ _ _ _ _ (T97.setTop (mkF m 148 #[.val (.int p1), .val (.int p2), .val (.int p3), .val (.int p4), .val (.int (0 : Int32)), .val (.int (3 : Int32)), .val (.ref b), .val (.ref o), .val (.ref d), .unset] []))
      refine own_to (fun t k => XS.aload X97.here hx rfl (hb hby at_148) rfl rfl k) ?_
      show own_Fin _ _ _ _ _ _ (T97.setTop (mkF m 150 #[.val (.int p1), .val (.int p2), .val (.int p3), .val (.int p4), .val (.int (0 : Int32)), .val (.int (3 : Int32)), .val (.ref b), .val (.ref o), .val (.ref d), .unset] [(.ref d)]))
      refine own_to (fun t k => XS.iconst X97.here hx rfl (hb hby at_150) k) ?_
      show own_Fin _ _ _ _ _ _ (T97.setTop (mkF m 151 #[.val (.int p1), .val (.int p2), .val (.int p3), .val (.int p4), .val (.int (0 : Int32)), .val (.int (3 : Int32)), .val (.ref b), .val (.ref o), .val (.ref d), .unset] [(.int (0 : Int32)), (.ref d)]))
      refine own_to (fun t k => XS.iloadN X97.here hx rfl (hb hby at_151) rfl k) ?_
      show own_Fin _ _ _ _ _ _ (T97.setTop (mkF m 152 #[.val (.int p1), .val (.int p2), .val (.int p3), .val (.int p4), .val (.int (0 : Int32)), .val (.int (3 : Int32)), .val (.ref b), .val (.ref o), .val (.ref d), .unset] [(.int p2), (.int (0 : Int32)), (.ref d)]))
      refine own_to (fun t k => XS.iconst X97.here hx rfl (hb hby at_152) k) ?_
      show own_Fin _ _ _ _ _ _ (T97.setTop (mkF m 153 #[.val (.int p1), .val (.int p2), .val (.int p3), .val (.int p4), .val (.int (0 : Int32)), .val (.int (3 : Int32)), .val (.ref b), .val (.ref o), .val (.ref d), .unset] [(.int (-1 : Int32)), (.int p2), (.int (0 : Int32)), (.ref d)]))
      refine own_to (fun t k => XS.ixor X97.here hx rfl (hb hby at_153) rfl k) ?_
      show own_Fin _ _ _ _ _ _ (T97.setTop (mkF m 154 #[.val (.int p1), .val (.int p2), .val (.int p3), .val (.int p4), .val (.int (0 : Int32)), .val (.int (3 : Int32)), .val (.ref b), .val (.ref o), .val (.ref d), .unset] [(.int (p2 ^^^ (-1 : Int32))), (.int (0 : Int32)), (.ref d)]))
      refine own_to (fun t k => XS.i2b X97.here hx rfl (hb hby at_154) rfl k) ?_
      show own_Fin _ _ _ _ _ _ (T97.setTop (mkF m 155 #[.val (.int p1), .val (.int p2), .val (.int p3), .val (.int p4), .val (.int (0 : Int32)), .val (.int (3 : Int32)), .val (.ref b), .val (.ref o), .val (.ref d), .unset] [(.int ((p2 ^^^ (-1 : Int32)).toInt8.toInt32)), (.int (0 : Int32)), (.ref d)]))
      obtain ⟨cl98, Ar98, qa98, Sa98, Na98, Ha98, Ga98⟩ := id V_d
      have hin99 : ¬ ((0 : Int32) < 0 ∨ cl98.slots.size ≤ ((0 : Int32)).toNatClampNeg) := inb_of Sa98 ⟨by decide, by decide⟩
      obtain ⟨T99, h99, X99, e99, W99, st99⟩ := stB X97 hx hZ eh97 Ar98 (j := (0 : Int32)) hin99 (g := (mkF m 155 #[.val (.int p1), .val (.int p2), .val (.int p3), .val (.int p4), .val (.int (0 : Int32)), .val (.int (3 : Int32)), .val (.ref b), .val (.ref o), .val (.ref d), .unset] [(.int ((p2 ^^^ (-1 : Int32)).toInt8.toInt32)), (.int (0 : Int32)), (.ref d)])) rfl rfl (hb hby at_155)
      have N99 := Fr.snoc X99 N97 g_d
      have O99 := O96.wr W99 g_d
      have A82x_e99 := A82x_e96.wr W99
      have E_o_e99 := E_o_e96.wr W99
      have Fs_e99 := Fs_e96.other W99 (Or.inl ne_o_d)
      have Fre_e99 := Fre_e96.other W99 (Or.inl ne_o_d)
      have V_c_e99 := V_c_e96.other W99 ne_c_d
      have E_c_e99 := E_c_e96.wr W99
      have V95_e99 := V95_e96.other W99 ne_b_d
      have E_d_e99 := E_d.wr W99
      have V99 : Arv Z h99 d k82 .byte (3 : Int32) [(.int (nar .byte ((p2 ^^^ (-1 : Int32)).toInt8.toInt32))), (.int (p3.toInt8.toInt32)), (.int (p4.toInt8.toInt32))] (.int (0 : Int32)) := Arv.set Ar98 qa98 Sa98 Na98 Ha98 Ga98 (fits_nar_byte _) W99 0 rfl (Nat.le_of_ble_eq_true rfl)
      refine own_to (fun t k => st99 t k) ?_
      show own_Fin _ _ _ _ _ _ (T99.setTop (mkF m 156 #[.val (.int p1), .val (.int p2), .val (.int p3), .val (.int p4), .val (.int (0 : Int32)), .val (.int (3 : Int32)), .val (.ref b), .val (.ref o), .val (.ref d), .unset] []))
      refine own_to (fun t k => XS.aload X99.here hx rfl (hb hby at_156) rfl rfl k) ?_
      show own_Fin _ _ _ _ _ _ (T99.setTop (mkF m 158 #[.val (.int p1), .val (.int p2), .val (.int p3), .val (.int p4), .val (.int (0 : Int32)), .val (.int (3 : Int32)), .val (.ref b), .val (.ref o), .val (.ref d), .unset] [(.ref o)]))
      obtain ⟨cq100, kq100, q100a, q100b, q100c⟩ := isOf hZ e99 E_o_e99
      obtain ⟨_, _, ⟨T100, L100, k100, n100⟩, -, X100, ⟨Lc100, hQ100, l100, y100, z100⟩, st100⟩ := X99.virtualBack hx (y := (⟨"com/example/nuthatch/nuthatch/engine/Outcome", "response", "()[B"⟩ : MethodName)) (z := (⟨"com/example/nuthatch/nuthatch/engine/Outcome", "response", "()[B"⟩ : MethodName)) hown (mvT hZ (hw _ (List.mem_of_getElem? (i := 35) rfl))) (mvT hZ (hw _ (List.mem_of_getElem? (i := 36) rfl))) (notFace_of_selects (args := #[]) (mvT hZ (hw _ (List.mem_of_getElem? (i := 38) rfl)))) (mvT hZ (hw _ (List.mem_of_getElem? (i := 38) rfl))) (mvT hZ (hw _ (List.mem_of_getElem? (i := 37) rfl))) (by decide) (own_back (W := 0) (own_resA l Z a0 hw [] o c k82 (3 : Int32) [(.int (p2.toInt8.toInt32)), (.int (p3.toInt8.toInt32)), (.int (p4.toInt8.toInt32))] h99 n0 (Nat.le_trans (Nat.le_trans (Nat.le_trans (Nat.le_trans (Nat.le_trans (Nat.le_trans (Nat.le_trans (Nat.le_trans Z0 E82.1) (Keep.of_wr W85).1) (Keep.of_wr W87).1) (Keep.of_wr W89).1) K91.1) (Keep.of_wr W95).1) K96.1) (Keep.of_wr W99).1) Fre_e99 V_c_e99 E_c_e99 (by decide)) hZ (hw _ (List.mem_of_getElem? (i := 39) rfl)) (hw _ (List.mem_of_getElem? (i := 3) rfl)) (by decide) (by decide)) q100a q100c (g := (mkF m 158 #[.val (.int p1), .val (.int p2), .val (.int p3), .val (.int p4), .val (.int (0 : Int32)), .val (.int (3 : Int32)), .val (.ref b), .val (.ref o), .val (.ref d), .unset] [(.ref o)])) rfl (by rw [hml]; rfl) (Steps.refl _) (argsL := []) (rest := []) (lenOf own_pd5 rfl) rfl (by show 2 * 0 + _ ≤ _; exact Nat.le_of_eq rfl) (hb hby at_158) (fun _ _ => ⟨rfl, e99, (by decide : 4 + 1 ≤ _), (by decide : 11 + 3 ≤ _)⟩)
      dsimp only [Pt.U, Pt.locs, Pt.cells, Pt.slots] at X100 l100 y100 z100 st100 hQ100
      subst l100 y100 z100
      obtain ⟨e2, rfl, N100q, K100, g_e2, sze2, V_e2, E_e2⟩ := hQ100
      have N100 := Fr.app N99 N100q
      have ne_b_e2 : b ≠ e2 := Nat.ne_of_lt (Nat.lt_of_lt_of_le A82x_e99.lt sze2)
      have ne_o_e2 : o ≠ e2 := Nat.ne_of_lt (Nat.lt_of_lt_of_le E_o_e99.lt sze2)
      have ne_c_e2 : c ≠ e2 := Nat.ne_of_lt (Nat.lt_of_lt_of_le V_c_e99.lt sze2)
      have ne_d_e2 : d ≠ e2 := Nat.ne_of_lt (Nat.lt_of_lt_of_le E_d_e99.lt sze2)
      have O100 := O99.keep K100 all0
      have A82x_e100 := A82x_e99.keep K100
      have E_o_e100 := E_o_e99.keep K100
      have Fs_e100 := Fs_e99.keep K100 nin0
      have Fre_e100 := Fre_e99.keep K100 nin0
      have V_c_e100 := V_c_e99.keep K100 nin0
      have E_c_e100 := E_c_e99.keep K100
      have V95_e100 := V95_e99.keep K100 nin0
      have E_d_e100 := E_d_e99.keep K100
      have V99_e100 := V99.keep K100 nin0
      refine own_to (fun t k => st100.trans k) ?_
      show own_Fin _ _ _ _ _ _ (T100.setTop (mkF m 161 #[.val (.int p1), .val (.int p2), .val (.int p3), .val (.int p4), .val (.int (0 : Int32)), .val (.int (3 : Int32)), .val (.ref b), .val (.ref o), .val (.ref d), .unset] [(.ref e2)]))
      refine own_to (fun t k => XS.astore X100.here hx rfl (hb hby at_161) rfl rfl (l' := #[.val (.int p1), .val (.int p2), .val (.int p3), .val (.int p4), .val (.int (0 : Int32)), .val (.int (3 : Int32)), .val (.ref b), .val (.ref o), .val (.ref d), .val (.ref e2)]) rfl k) ?_
      show own_Fin _ _ _ _ _ _ (T100.setTop (mkF m 163 #[.val (.int p1), .val (.int p2), .val (.int p3), .val (.int p4), .val (.int (0 : Int32)), .val (.int (3 : Int32)), .val (.ref b), .val (.ref o), .val (.ref d), .val (.ref e2)] []))
      refine own_to (fun t k => XS.aload X100.here hx rfl (hb hby at_163) rfl rfl k) ?_
      show own_Fin _ _ _ _ _ _ (T100.setTop (mkF m 165 #[.val (.int p1), .val (.int p2), .val (.int p3), .val (.int p4), .val (.int (0 : Int32)), .val (.int (3 : Int32)), .val (.ref b), .val (.ref o), .val (.ref d), .val (.ref e2)] [(.ref e2)]))
      refine own_to (fun t k => XS.iload X100.here hx rfl (hb hby at_165) rfl k) ?_
      show own_Fin _ _ _ _ _ _ (T100.setTop (mkF m 167 #[.val (.int p1), .val (.int p2), .val (.int p3), .val (.int p4), .val (.int (0 : Int32)), .val (.int (3 : Int32)), .val (.ref b), .val (.ref o), .val (.ref d), .val (.ref e2)] [(.int (3 : Int32)), (.ref e2)]))
      refine own_to (fun t k => XS.iloadN X100.here hx rfl (hb hby at_167) rfl k) ?_
      show own_Fin _ _ _ _ _ _ (T100.setTop (mkF m 168 #[.val (.int p1), .val (.int p2), .val (.int p3), .val (.int p4), .val (.int (0 : Int32)), .val (.int (3 : Int32)), .val (.ref b), .val (.ref o), .val (.ref d), .val (.ref e2)] [(.int p2), (.int (3 : Int32)), (.ref e2)]))
      refine own_to (fun t k => XS.iloadN X100.here hx rfl (hb hby at_168) rfl k) ?_
      show own_Fin _ _ _ _ _ _ (T100.setTop (mkF m 169 #[.val (.int p1), .val (.int p2), .val (.int p3), .val (.int p4), .val (.int (0 : Int32)), .val (.int (3 : Int32)), .val (.ref b), .val (.ref o), .val (.ref d), .val (.ref e2)] [(.int p3), (.int p2), (.int (3 : Int32)), (.ref e2)]))
      refine own_to (fun t k => XS.iloadN X100.here hx rfl (hb hby at_169) rfl k) ?_
      show own_Fin _ _ _ _ _ _ (T100.setTop (mkF m 170 #[.val (.int p1), .val (.int p2), .val (.int p3), .val (.int p4), .val (.int (0 : Int32)), .val (.int (3 : Int32)), .val (.ref b), .val (.ref o), .val (.ref d), .val (.ref e2)] [(.int p4), (.int p3), (.int p2), (.int (3 : Int32)), (.ref e2)]))
      obtain ⟨_, _, ⟨T101, L101, k101, n101⟩, -, X101, ⟨Lc101, hQ101, l101, y101, z101⟩, st101⟩ := Jvm.LawKit.callS X100 hx (y := (⟨"com/example/nuthatch/nuthatch/engine/OutcomeExecutedPinLaw", "holds", "([BIIII)Z"⟩ : MethodName)) hown (mvT hZ (hw _ (List.mem_of_getElem? (i := 40) rfl))) (mvT hZ (hw _ (List.mem_of_getElem? (i := 41) rfl))) (mvT hZ (hw _ (List.mem_of_getElem? (i := 42) rfl))) (mvT hZ (hw _ (List.mem_of_getElem? (i := 43) rfl))) (by decide) (own_back (W := 0) (own_holds3 l Z a0 hw [] e2 p2 p3 p4 k82 T100.heap n0 (Nat.le_trans (Nat.le_trans (Nat.le_trans (Nat.le_trans (Nat.le_trans (Nat.le_trans (Nat.le_trans (Nat.le_trans (Nat.le_trans Z0 E82.1) (Keep.of_wr W85).1) (Keep.of_wr W87).1) (Keep.of_wr W89).1) K91.1) (Keep.of_wr W95).1) K96.1) (Keep.of_wr W99).1) K100.1) V_e2) hZ (hw _ (List.mem_of_getElem? (i := 43) rfl)) (hw _ (List.mem_of_getElem? (i := 42) rfl)) (by decide) (by decide)) (g := (mkF m 170 #[.val (.int p1), .val (.int p2), .val (.int p3), .val (.int p4), .val (.int (0 : Int32)), .val (.int (3 : Int32)), .val (.ref b), .val (.ref o), .val (.ref d), .val (.ref e2)] [(.int p4), (.int p3), (.int p2), (.int (3 : Int32)), (.ref e2)])) rfl (by rw [hml]; rfl) (argsL := [(.ref e2), (.int (3 : Int32)), (.int p2), (.int p3), (.int p4)]) (rest := []) (lenOf own_pd6 rfl) rfl (by show 2 * 0 + _ ≤ _; exact Nat.le_of_eq rfl) (hb hby at_170) (fun _ _ => ⟨rfl, rfl, (by decide : 5 + 0 ≤ _), (by decide : 14 + 0 ≤ _)⟩)
      dsimp only [Pt.U, Pt.locs, Pt.cells, Pt.slots] at X101 l101 y101 z101 st101 hQ101
      subst l101 y101 z101
      obtain ⟨rfl, N101q, eh101⟩ := hQ101
      have N101 := Fr.app N100 N101q
      refine own_to (fun t k => st101 t k) ?_
      show own_Fin _ _ _ _ _ _ (T101.setTop (mkF m 173 #[.val (.int p1), .val (.int p2), .val (.int p3), .val (.int p4), .val (.int (0 : Int32)), .val (.int (3 : Int32)), .val (.ref b), .val (.ref o), .val (.ref d), .val (.ref e2)] [(.int (1 : Int32))]))
      refine own_retN X101 hx hlk (t := .boolean) hret (by simp) (hb hby at_173) (by decide) (by decide) ?_
      try rw [eh101]
      exact ⟨rfl, N101⟩
  ·
    show own_Fin _ _ _ _ _ _ (s₁.setTop (mkF m 3 #[.val (.int p1), .val (.int p2), .val (.int p3), .val (.int p4), .unset, .unset, .unset, .unset, .unset, .unset] [(.int (p1 &&& (4 : Int32)))]))
    refine own_to (fun t k => XS.ifNo X0.here hx rfl (hb hby at_3) rfl ((if0 _ _).trans (feq hc3_37).1) k) ?_
    show own_Fin _ _ _ _ _ _ (s₁.setTop (mkF m 6 #[.val (.int p1), .val (.int p2), .val (.int p3), .val (.int p4), .unset, .unset, .unset, .unset, .unset, .unset] []))
    refine own_to (fun t k => XS.iconst X0.here hx rfl (hb hby at_6) k) ?_
    show own_Fin _ _ _ _ _ _ (s₁.setTop (mkF m 7 #[.val (.int p1), .val (.int p2), .val (.int p3), .val (.int p4), .unset, .unset, .unset, .unset, .unset, .unset] [(.int (1 : Int32))]))
    refine own_to (fun t k => XS.goto X0.here hx rfl (pc0 := 7) (pc' := 11) rfl (hb hby at_7) (by decide) (by decide) k) ?_
    show own_Fin _ _ _ _ _ _ (s₁.setTop (mkF m 11 #[.val (.int p1), .val (.int p2), .val (.int p3), .val (.int p4), .unset, .unset, .unset, .unset, .unset, .unset] [(.int (1 : Int32))]))
    refine own_to (fun t k => XS.istore X0.here hx rfl (hb hby at_11) rfl (l' := #[.val (.int p1), .val (.int p2), .val (.int p3), .val (.int p4), .val (.int (1 : Int32)), .unset, .unset, .unset, .unset, .unset]) rfl k) ?_
    show own_Fin _ _ _ _ _ _ (s₁.setTop (mkF m 13 #[.val (.int p1), .val (.int p2), .val (.int p3), .val (.int p4), .val (.int (1 : Int32)), .unset, .unset, .unset, .unset, .unset] []))
    refine own_to (fun t k => XS.iloadN X0.here hx rfl (hb hby at_13) rfl k) ?_
    show own_Fin _ _ _ _ _ _ (s₁.setTop (mkF m 14 #[.val (.int p1), .val (.int p2), .val (.int p3), .val (.int p4), .val (.int (1 : Int32)), .unset, .unset, .unset, .unset, .unset] [(.int p1)]))
    refine own_to (fun t k => XS.iconst X0.here hx rfl (hb hby at_14) k) ?_
    show own_Fin _ _ _ _ _ _ (s₁.setTop (mkF m 15 #[.val (.int p1), .val (.int p2), .val (.int p3), .val (.int p4), .val (.int (1 : Int32)), .unset, .unset, .unset, .unset, .unset] [(.int (3 : Int32)), (.int p1)]))
    refine own_to (fun t k => XS.iand X0.here hx rfl (hb hby at_15) rfl k) ?_
    show own_Fin _ _ _ _ _ _ (s₁.setTop (mkF m 16 #[.val (.int p1), .val (.int p2), .val (.int p3), .val (.int p4), .val (.int (1 : Int32)), .unset, .unset, .unset, .unset, .unset] [(.int (p1 &&& (3 : Int32)))]))
    refine own_to (fun t k => XS.istore X0.here hx rfl (hb hby at_16) rfl (l' := #[.val (.int p1), .val (.int p2), .val (.int p3), .val (.int p4), .val (.int (1 : Int32)), .val (.int (p1 &&& (3 : Int32))), .unset, .unset, .unset, .unset]) rfl k) ?_
    show own_Fin _ _ _ _ _ _ (s₁.setTop (mkF m 18 #[.val (.int p1), .val (.int p2), .val (.int p3), .val (.int p4), .val (.int (1 : Int32)), .val (.int (p1 &&& (3 : Int32))), .unset, .unset, .unset, .unset] []))
    refine own_to (fun t k => XS.aconstNull X0.here hx rfl (hb hby at_18) k) ?_
    show own_Fin _ _ _ _ _ _ (s₁.setTop (mkF m 19 #[.val (.int p1), .val (.int p2), .val (.int p3), .val (.int p4), .val (.int (1 : Int32)), .val (.int (p1 &&& (3 : Int32))), .unset, .unset, .unset, .unset] [.null]))
    refine own_to (fun t k => XS.astore X0.here hx rfl (hb hby at_19) rfl rfl (l' := #[.val (.int p1), .val (.int p2), .val (.int p3), .val (.int p4), .val (.int (1 : Int32)), .val (.int (p1 &&& (3 : Int32))), .val .null, .unset, .unset, .unset]) rfl k) ?_
    show own_Fin _ _ _ _ _ _ (s₁.setTop (mkF m 21 #[.val (.int p1), .val (.int p2), .val (.int p3), .val (.int p4), .val (.int (1 : Int32)), .val (.int (p1 &&& (3 : Int32))), .val .null, .unset, .unset, .unset] []))
    refine own_to (fun t k => XS.iload X0.here hx rfl (hb hby at_21) rfl k) ?_
    show own_Fin _ _ _ _ _ _ (s₁.setTop (mkF m 23 #[.val (.int p1), .val (.int p2), .val (.int p3), .val (.int p4), .val (.int (1 : Int32)), .val (.int (p1 &&& (3 : Int32))), .val .null, .unset, .unset, .unset] [(.int (1 : Int32))]))
    refine own_to (fun t k => XS.ifYes X0.here hx rfl (pc0 := 23) (pc' := 67) rfl (hb hby at_23) rfl ((if0 _ _).trans (feq (by decide)).2) (by decide) (by decide) k) ?_
    show own_Fin _ _ _ _ _ _ (s₁.setTop (mkF m 67 #[.val (.int p1), .val (.int p2), .val (.int p3), .val (.int p4), .val (.int (1 : Int32)), .val (.int (p1 &&& (3 : Int32))), .val .null, .unset, .unset, .unset] []))
    refine own_to (fun t k => XS.aload X0.here hx rfl (hb hby at_67) rfl rfl k) ?_
    show own_Fin _ _ _ _ _ _ (s₁.setTop (mkF m 69 #[.val (.int p1), .val (.int p2), .val (.int p3), .val (.int p4), .val (.int (1 : Int32)), .val (.int (p1 &&& (3 : Int32))), .val .null, .unset, .unset, .unset] [.null]))
    obtain ⟨_, _, ⟨T102, L102, k102, n102⟩, -, X102, ⟨Lc102, hQ102, l102, y102, z102⟩, st102⟩ := Jvm.LawKit.callS X0 hx (y := (⟨"com/example/nuthatch/nuthatch/engine/Outcome", "executed", "([B)Lcom/example/nuthatch/nuthatch/engine/Outcome;"⟩ : MethodName)) hown (mvT hZ (hw _ (List.mem_of_getElem? (i := 1) rfl))) (mvT hZ (hw _ (List.mem_of_getElem? (i := 2) rfl))) (mvT hZ (hw _ (List.mem_of_getElem? (i := 3) rfl))) (mvT hZ (hw _ (List.mem_of_getElem? (i := 4) rfl))) (by decide) (own_back (W := 0) (own_exeN l Z a0 hw [] wS h0 n0 Z0 O0 SS) hZ (hw _ (List.mem_of_getElem? (i := 4) rfl)) (hw _ (List.mem_of_getElem? (i := 3) rfl)) (by decide) (by decide)) (g := (mkF m 69 #[.val (.int p1), .val (.int p2), .val (.int p3), .val (.int p4), .val (.int (1 : Int32)), .val (.int (p1 &&& (3 : Int32))), .val .null, .unset, .unset, .unset] [.null])) rfl (by rw [hml]; rfl) (argsL := [.null]) (rest := []) (lenOf own_pd3 rfl) rfl (by show 2 * 0 + _ ≤ _; exact Nat.le_of_eq rfl) (hb hby at_69) (fun _ _ => ⟨rfl, e0, (by decide : 0 + 1 ≤ _), (by decide : 0 + 2 ≤ _)⟩)
    dsimp only [Pt.U, Pt.locs, Pt.cells, Pt.slots] at X102 l102 y102 z102 st102 hQ102
    subst l102 y102 z102
    obtain ⟨o, rfl, N102q, K102, g_o, szo, E_o, Fs, Fre⟩ := hQ102
    have N102 := Fr.app N0 N102q
    have O102 := O0.keep K102 all0
    refine own_to (fun t k => st102 t k) ?_
    show own_Fin _ _ _ _ _ _ (T102.setTop (mkF m 72 #[.val (.int p1), .val (.int p2), .val (.int p3), .val (.int p4), .val (.int (1 : Int32)), .val (.int (p1 &&& (3 : Int32))), .val .null, .unset, .unset, .unset] [(.ref o)]))
    refine own_to (fun t k => XS.astore X102.here hx rfl (hb hby at_72) rfl rfl (l' := #[.val (.int p1), .val (.int p2), .val (.int p3), .val (.int p4), .val (.int (1 : Int32)), .val (.int (p1 &&& (3 : Int32))), .val .null, .val (.ref o), .unset, .unset]) rfl k) ?_
    show own_Fin _ _ _ _ _ _ (T102.setTop (mkF m 74 #[.val (.int p1), .val (.int p2), .val (.int p3), .val (.int p4), .val (.int (1 : Int32)), .val (.int (p1 &&& (3 : Int32))), .val .null, .val (.ref o), .unset, .unset] []))
    refine own_to (fun t k => XS.aload X102.here hx rfl (hb hby at_74) rfl rfl k) ?_
    show own_Fin _ _ _ _ _ _ (T102.setTop (mkF m 76 #[.val (.int p1), .val (.int p2), .val (.int p3), .val (.int p4), .val (.int (1 : Int32)), .val (.int (p1 &&& (3 : Int32))), .val .null, .val (.ref o), .unset, .unset] [(.ref o)]))
    obtain ⟨cq103, kq103, q103a, q103b, q103c⟩ := isOf hZ rfl E_o
    obtain ⟨_, _, ⟨T103, L103, k103, n103⟩, -, X103, ⟨Lc103, hQ103, l103, y103, z103⟩, st103⟩ := X102.virtualBack hx (y := (⟨"com/example/nuthatch/nuthatch/engine/Outcome", "status", "()Lcom/example/nuthatch/nuthatch/engine/Status;"⟩ : MethodName)) (z := (⟨"com/example/nuthatch/nuthatch/engine/Outcome", "status", "()Lcom/example/nuthatch/nuthatch/engine/Status;"⟩ : MethodName)) hown (mvT hZ (hw _ (List.mem_of_getElem? (i := 29) rfl))) (mvT hZ (hw _ (List.mem_of_getElem? (i := 30) rfl))) (notFace_of_selects (args := #[]) (mvT hZ (hw _ (List.mem_of_getElem? (i := 32) rfl)))) (mvT hZ (hw _ (List.mem_of_getElem? (i := 32) rfl))) (mvT hZ (hw _ (List.mem_of_getElem? (i := 31) rfl))) (by decide) (own_back (W := 0) (own_rm4 l Z a0 hw [] o wS T102.heap n0 (Nat.le_trans Z0 K102.1) Fs) hZ (hw _ (List.mem_of_getElem? (i := 33) rfl)) (hw _ (List.mem_of_getElem? (i := 3) rfl)) (by decide) (by decide)) q103a q103c (g := (mkF m 76 #[.val (.int p1), .val (.int p2), .val (.int p3), .val (.int p4), .val (.int (1 : Int32)), .val (.int (p1 &&& (3 : Int32))), .val .null, .val (.ref o), .unset, .unset] [(.ref o)])) rfl (by rw [hml]; rfl) (Steps.refl _) (argsL := []) (rest := []) (lenOf own_pd4 rfl) rfl (by show 2 * 0 + _ ≤ _; exact Nat.le_of_eq rfl) (hb hby at_76) (fun _ _ => ⟨rfl, rfl, (by decide : 1 + 0 ≤ _), (by decide : 2 + 0 ≤ _)⟩)
    dsimp only [Pt.U, Pt.locs, Pt.cells, Pt.slots] at X103 l103 y103 z103 st103 hQ103
    subst l103 y103 z103
    obtain ⟨rfl, N103q, eh103⟩ := hQ103
    have N103 := Fr.app N102 N103q
    refine own_to (fun t k => st103.trans k) ?_
    show own_Fin _ _ _ _ _ _ (T103.setTop (mkF m 79 #[.val (.int p1), .val (.int p2), .val (.int p3), .val (.int p4), .val (.int (1 : Int32)), .val (.int (p1 &&& (3 : Int32))), .val .null, .val (.ref o), .unset, .unset] [(.ref wS)]))
    obtain ⟨T104, X104, e104, st104⟩ := getS2 X103 hx hZ hown (host := "") (Or.inl (hw _ (List.mem_of_getElem? (i := 34) rfl))) Via.refl eh103 (SS.ext O102.2) (g := (mkF m 79 #[.val (.int p1), .val (.int p2), .val (.int p3), .val (.int p4), .val (.int (1 : Int32)), .val (.int (p1 &&& (3 : Int32))), .val .null, .val (.ref o), .unset, .unset] [(.ref wS)])) rfl (hb hby at_79)
    refine own_to (fun t k => st104 t k) ?_
    show own_Fin _ _ _ _ _ _ (T104.setTop (mkF m 82 #[.val (.int p1), .val (.int p2), .val (.int p3), .val (.int p4), .val (.int (1 : Int32)), .val (.int (p1 &&& (3 : Int32))), .val .null, .val (.ref o), .unset, .unset] [(.ref wS), (.ref wS)]))
    refine own_to (fun t k => Jvm.RoadKit.acmp (g := (mkF m 82 #[.val (.int p1), .val (.int p2), .val (.int p3), .val (.int p4), .val (.int (1 : Int32)), .val (.int (p1 &&& (3 : Int32))), .val .null, .val (.ref o), .unset, .unset] [(.ref wS), (.ref wS)])) X104 hx rfl rfl rfl (pc0 := 82) (pc' := 87) (same := true) rfl (hb hby at_82) rfl (decide_eq_true rfl) (by decide) (by decide) k) ?_
    show own_Fin _ _ _ _ _ _ (T104.setTop (mkF m 87 #[.val (.int p1), .val (.int p2), .val (.int p3), .val (.int p4), .val (.int (1 : Int32)), .val (.int (p1 &&& (3 : Int32))), .val .null, .val (.ref o), .unset, .unset] []))
    refine own_to (fun t k => XS.aload X104.here hx rfl (hb hby at_87) rfl rfl k) ?_
    show own_Fin _ _ _ _ _ _ (T104.setTop (mkF m 89 #[.val (.int p1), .val (.int p2), .val (.int p3), .val (.int p4), .val (.int (1 : Int32)), .val (.int (p1 &&& (3 : Int32))), .val .null, .val (.ref o), .unset, .unset] [.null]))
    refine own_to (fun t k => XS.ifnullYes X104.here hx rfl (pc0 := 89) (pc' := 105) rfl (hb hby at_89) rfl (by decide) (by decide) k) ?_
    show own_Fin _ _ _ _ _ _ (T104.setTop (mkF m 105 #[.val (.int p1), .val (.int p2), .val (.int p3), .val (.int p4), .val (.int (1 : Int32)), .val (.int (p1 &&& (3 : Int32))), .val .null, .val (.ref o), .unset, .unset] []))
    refine own_to (fun t k => XS.aload X104.here hx rfl (hb hby at_105) rfl rfl k) ?_
    show own_Fin _ _ _ _ _ _ (T104.setTop (mkF m 107 #[.val (.int p1), .val (.int p2), .val (.int p3), .val (.int p4), .val (.int (1 : Int32)), .val (.int (p1 &&& (3 : Int32))), .val .null, .val (.ref o), .unset, .unset] [(.ref o)]))
    obtain ⟨cq105, kq105, q105a, q105b, q105c⟩ := isOf hZ e104 E_o
    obtain ⟨_, _, ⟨T105, L105, k105, n105⟩, -, X105, ⟨Lc105, hQ105, l105, y105, z105⟩, st105⟩ := X104.virtualBack hx (y := (⟨"com/example/nuthatch/nuthatch/engine/Outcome", "response", "()[B"⟩ : MethodName)) (z := (⟨"com/example/nuthatch/nuthatch/engine/Outcome", "response", "()[B"⟩ : MethodName)) hown (mvT hZ (hw _ (List.mem_of_getElem? (i := 35) rfl))) (mvT hZ (hw _ (List.mem_of_getElem? (i := 36) rfl))) (notFace_of_selects (args := #[]) (mvT hZ (hw _ (List.mem_of_getElem? (i := 38) rfl)))) (mvT hZ (hw _ (List.mem_of_getElem? (i := 38) rfl))) (mvT hZ (hw _ (List.mem_of_getElem? (i := 37) rfl))) (by decide) (own_back (W := 0) (own_resN l Z a0 hw [] o T102.heap n0 (Nat.le_trans Z0 K102.1) Fre) hZ (hw _ (List.mem_of_getElem? (i := 39) rfl)) (hw _ (List.mem_of_getElem? (i := 3) rfl)) (by decide) (by decide)) q105a q105c (g := (mkF m 107 #[.val (.int p1), .val (.int p2), .val (.int p3), .val (.int p4), .val (.int (1 : Int32)), .val (.int (p1 &&& (3 : Int32))), .val .null, .val (.ref o), .unset, .unset] [(.ref o)])) rfl (by rw [hml]; rfl) (Steps.refl _) (argsL := []) (rest := []) (lenOf own_pd5 rfl) rfl (by show 2 * 0 + _ ≤ _; exact Nat.le_of_eq rfl) (hb hby at_107) (fun _ _ => ⟨rfl, e104, (by decide : 1 + 0 ≤ _), (by decide : 2 + 0 ≤ _)⟩)
    dsimp only [Pt.U, Pt.locs, Pt.cells, Pt.slots] at X105 l105 y105 z105 st105 hQ105
    subst l105 y105 z105
    obtain ⟨rfl, N105q, eh105⟩ := hQ105
    have N105 := Fr.app N103 N105q
    refine own_to (fun t k => st105.trans k) ?_
    show own_Fin _ _ _ _ _ _ (T105.setTop (mkF m 110 #[.val (.int p1), .val (.int p2), .val (.int p3), .val (.int p4), .val (.int (1 : Int32)), .val (.int (p1 &&& (3 : Int32))), .val .null, .val (.ref o), .unset, .unset] [.null]))
    refine own_to (fun t k => XS.astore X105.here hx rfl (hb hby at_110) rfl rfl (l' := #[.val (.int p1), .val (.int p2), .val (.int p3), .val (.int p4), .val (.int (1 : Int32)), .val (.int (p1 &&& (3 : Int32))), .val .null, .val (.ref o), .val .null, .unset]) rfl k) ?_
    show own_Fin _ _ _ _ _ _ (T105.setTop (mkF m 112 #[.val (.int p1), .val (.int p2), .val (.int p3), .val (.int p4), .val (.int (1 : Int32)), .val (.int (p1 &&& (3 : Int32))), .val .null, .val (.ref o), .val .null, .unset] []))
    refine own_to (fun t k => XS.iload X105.here hx rfl (hb hby at_112) rfl k) ?_
    show own_Fin _ _ _ _ _ _ (T105.setTop (mkF m 114 #[.val (.int p1), .val (.int p2), .val (.int p3), .val (.int p4), .val (.int (1 : Int32)), .val (.int (p1 &&& (3 : Int32))), .val .null, .val (.ref o), .val .null, .unset] [(.int (1 : Int32))]))
    refine own_to (fun t k => XS.ifNo X105.here hx rfl (hb hby at_114) rfl ((if0 _ _).trans (feq (by decide)).1) k) ?_
    show own_Fin _ _ _ _ _ _ (T105.setTop (mkF m 117 #[.val (.int p1), .val (.int p2), .val (.int p3), .val (.int p4), .val (.int (1 : Int32)), .val (.int (p1 &&& (3 : Int32))), .val .null, .val (.ref o), .val .null, .unset] []))
    refine own_to (fun t k => XS.aload X105.here hx rfl (hb hby at_117) rfl rfl k) ?_
    show own_Fin _ _ _ _ _ _ (T105.setTop (mkF m 119 #[.val (.int p1), .val (.int p2), .val (.int p3), .val (.int p4), .val (.int (1 : Int32)), .val (.int (p1 &&& (3 : Int32))), .val .null, .val (.ref o), .val .null, .unset] [.null]))
    refine own_to (fun t k => XS.ifnonnullNo X105.here hx rfl (hb hby at_119) rfl k) ?_
    show own_Fin _ _ _ _ _ _ (T105.setTop (mkF m 122 #[.val (.int p1), .val (.int p2), .val (.int p3), .val (.int p4), .val (.int (1 : Int32)), .val (.int (p1 &&& (3 : Int32))), .val .null, .val (.ref o), .val .null, .unset] []))
    refine own_to (fun t k => XS.iconst X105.here hx rfl (hb hby at_122) k) ?_
    show own_Fin _ _ _ _ _ _ (T105.setTop (mkF m 123 #[.val (.int p1), .val (.int p2), .val (.int p3), .val (.int p4), .val (.int (1 : Int32)), .val (.int (p1 &&& (3 : Int32))), .val .null, .val (.ref o), .val .null, .unset] [(.int (1 : Int32))]))
    refine own_to (fun t k => XS.goto X105.here hx rfl (pc0 := 123) (pc' := 127) rfl (hb hby at_123) (by decide) (by decide) k) ?_
    show own_Fin _ _ _ _ _ _ (T105.setTop (mkF m 127 #[.val (.int p1), .val (.int p2), .val (.int p3), .val (.int p4), .val (.int (1 : Int32)), .val (.int (p1 &&& (3 : Int32))), .val .null, .val (.ref o), .val .null, .unset] [(.int (1 : Int32))]))
    refine own_retN X105 hx hlk (t := .boolean) hret (by simp) (hb hby at_127) (by decide) (by decide) ?_
    try rw [eh105]
    exact ⟨rfl, N105⟩
set_option maxRecDepth 65536 in
set_option maxHeartbeats 40000000 in
theorem comes_1 {Post : Tables → Env → Array Value → State → Outcome → State → Prop} (hpost : ∀ tb e args s v u, (limb_1_1.after args s (.returned v) u = true ∧ limb_1_2.after args s (.returned v) u = true ∧ True) → FrameEnd s (.returned v) u (Jvm.fieldLocs frame_1_writes args s ++ Jvm.arrayLocs frame_1_arrays args s ++ Jvm.staticLocs frame_1_statics s) 24 128 → Post tb e args s (.returned v) u) :
    ArmFor flags0 classFile x code maxLocals ret World_1 tables_1 room_1 Calls_1 rest_1 Pre_1 Post := by
  intro l hfl _ _ p e ha hc hk s m args below hf hA hF happ hP
  obtain ⟨hcalls, hrest, hpre⟩ := hP
  obtain ⟨-, -, -, hnamed, -, -, -, hat⟩ := (Spec.applies_iff hf).mp happ
  obtain ⟨hg, hn⟩ := and_e (Cond.before_iff.mp (show (Jvm.Cond.and given_1 narrow_1).before args s = true from hpre))
  obtain ⟨g1, g2⟩ := and_e hg
  obtain ⟨g3, g4⟩ := and_e g2
  obtain ⟨g5, g6⟩ := and_e g4
  obtain ⟨g7, g8⟩ := and_e g6
  obtain ⟨w0, w1, w2, w3, rfl⟩ : ∃ w0 w1 w2 w3 : Value, args = #[w0, w1, w2, w3] := by
    have hs : args.size = 4 := by simpa [Cond.value, given_1] using g1
    obtain ⟨L⟩ := args
    match L, hs with
    | [w0, w1, w2, w3], _ => exact ⟨w0, w1, w2, w3, rfl⟩
  have hw := fun d (hd : d ∈ tables_1) => atoms_spec (ws := Jvm.Cond.code x code maxLocals ret :: tables_1) hat d (List.mem_cons_of_mem _ hd)
  have hfit : Fit s := fun {y c} hc i hi => by
    obtain ⟨ha, rfl⟩ := Array.getElem?_eq_some_iff.mp hc
    have q := List.all_eq_true.mp ((Array.all_eq_true_iff_forall_mem.mp hF) _ (Array.getElem_mem ha)) i (List.mem_range.mpr hi)
    simpa [Array.getElem?_eq_getElem hi] using q
  obtain ⟨i0, ei0⟩ := is_v g3
  obtain rfl : w0 = (.int i0) := Option.some.inj ei0
  obtain ⟨i1, ei1⟩ := is_v g5
  obtain rfl : w1 = (.int i1) := Option.some.inj ei1
  obtain ⟨i2, ei2⟩ := is_v g7
  obtain rfl : w2 = (.int i2) := Option.some.inj ei2
  obtain ⟨i3, ei3⟩ := is_v g8
  obtain rfl : w3 = (.int i3) := Option.some.inj ei3
  obtain ⟨wS, eS⟩ := exa_v (show (narrow_1).value _ s none s [] = some true from hn)
  obtain ⟨n, o, h1, h2, h3, _, L, rfl, ⟨rfl, N⟩, hq⟩ := own_rm0 l s _ hw tables_1 wS i0 i1 i2 i3 s.heap s.heap.size (Nat.le_refl _) (Old.start s) (Sta.start eS (Or.inr ⟨(hw _ (List.mem_of_getElem? (i := 8) rfl)), (hw _ (List.mem_of_getElem? (i := 9) rfl))⟩)) p e ha hc hk s m _ below hf ((Spec.applies_iff_loose hf).mp happ).1 ⟨rfl, State.Warmed39.refl s, rfl⟩ trivial
  refine ⟨n, _, h1, h2, h3, hpost _ _ _ _ _ _ ⟨Cond.after_iff.mpr rfl, Cond.after_iff.mpr (eq_i res_at (Term.int_eval (1)) rfl), trivial⟩ ⟨hq.1, hq.2.1, (hq.2.2.sift fun y hy => Or.inr (N y hy)).mono (by decide) (by decide)⟩⟩
theorem main_1_1 : Claimed_1_1 := comes_1 fun _ _ _ _ _ _ h hF => ⟨h.1, hF⟩
theorem main_1_2 : Claimed_1_2 := comes_1 fun _ _ _ _ _ _ h hF => ⟨h.2.1, hF⟩
end Jvm.Pilot.@@N@@
namespace Jvm.Pilot.@@N@@
open Jvm Jvm.ClassFile Sem Op Lib Jvm.Free Jvm.Stand Jvm.Pilot.@@N@@.Jvm.D
/-! MADE BY PROGRAM (witnessworld.py) out of the Statement's table words and the real class files: 13 classes; the members and pool entries that the words name. The judged class is class 1, her method 2. -/
namespace start1
open Jvm.ClassFile
def u (s : String) : CpInfo := .utf8 (stringToUtf16 s)
/-- a pool by its gaps: so many unusable entries, then the entry; so many at the end -/
def gap : Nat → List CpInfo → List CpInfo
  | 0, r => r
  | n + 1, r => .unusable :: gap n r
def poolList (es : List (Nat × CpInfo)) (last : Nat) : List CpInfo := es.foldr (fun e r => gap e.1 (e.2 :: r)) (gap last [])
def pool (es : List (Nat × CpInfo)) (last : Nat) : Array CpInfo := ⟨poolList es last⟩
def fileOf (pool : Array CpInfo) (this : Nat) (attrs : Array Attribute := #[]) (ms : Array MethodInfo := #[]) (fl : Nat := 33) (sup : Nat := 0) (ifs : Array Nat := #[]) (fds : Array FieldInfo := #[]) : ClassFile where
  minorVersion := 0
  majorVersion := 65
  constantPool := pool
  accessFlags := fl
  thisClass := this
  superClass := sup
  interfaces := ifs
  fields := fds
  methods := ms
  attributes := attrs
def plain (name : String) (sup : Option ClassId) : Class where
  name := name
  kind := .ordinary
  loader := none
  accessFlags := 33
  super := sup
  interfaces := #[]
  cf := none
  fields := #[]
  methods := #[]
  instanceTypes := #[]
  staticTypes := #[]
  resolved := #[]
  callSites := []
  init := .initialized
  statics := none
  mirror := none

def pool0 : Array CpInfo := pool [(5, u "<init>"), (0, u "()V"), (1, .class_ 10), (1, u "java/lang/Object"), (85, u "clone"), (0, u "()Ljava/lang/Object;")] 26

def k0c0 : Code := { maxStack := 0, maxLocals := 1, code := object_method_1_code, exceptionTable := #[], attributes := #[] }
def k0m0 : Method := { name := "<init>", desc := "()V", sig := { parameters := [], returnType := none }, accessFlags := 1, code := some k0c0 }
def k0m1 : Method := { name := "clone", desc := "()Ljava/lang/Object;", sig := { parameters := [], returnType := some (.object "java/lang/Object") }, accessFlags := 260, code := none }
/-- java/lang/Object -/
def k0 : Class := { plain "java/lang/Object" none with
  accessFlags := 33
  interfaces := #[]
  cf := some (fileOf pool0 8 #[] #[{ accessFlags := 1, nameIndex := 5, descriptorIndex := 6, attributes := #[] }, { accessFlags := 260, nameIndex := 96, descriptorIndex := 97, attributes := #[] }] 33 0 #[] #[])
  fields := #[]
  methods := #[k0m0, k0m1]
  instanceTypes := #[]
  staticTypes := #[]
  resolved := Array.replicate 124 none
  statics := none }

def pool1 : Array CpInfo := pool [(2, .class_ 4), (1, u "java/lang/Object"), (0, u "<init>"), (0, u "()V"), (0, .methodref 8 9), (0, .class_ 10), (0, .nameAndType 11 12), (0, u "com/example/nuthatch/nuthatch/engine/Outcome"), (0, u "executed"), (0, u "([B)Lcom/example/nuthatch/nuthatch/engine/Outcome;"), (0, .methodref 8 14), (0, .nameAndType 15 16), (0, u "status"), (0, u "()Lcom/example/nuthatch/nuthatch/engine/Status;"), (0, .fieldref 18 19), (0, .class_ 20), (0, .nameAndType 21 22), (0, u "com/example/nuthatch/nuthatch/engine/Status"), (0, u "EXECUTED"), (0, u "Lcom/example/nuthatch/nuthatch/engine/Status;"), (0, .methodref 8 24), (0, .nameAndType 25 26), (0, u "response"), (0, u "()[B"), (0, .methodref 28 29), (0, .class_ 30), (0, .nameAndType 31 32), (0, u "com/example/nuthatch/nuthatch/engine/OutcomeExecutedPinLaw"), (0, u "holds"), (0, u "([BIIII)Z"), (3, u "law"), (0, u "(IIII)Z")] 4

def k1m0 : Method := { name := "<init>", desc := "()V", sig := { parameters := [], returnType := none }, accessFlags := 1, code := none }
def k1c1 : Code := { maxStack := 2, maxLocals := 5, code := method_2_code, exceptionTable := #[], attributes := #[] }
def k1m1 : Method := { name := "holds", desc := "([BIIII)Z", sig := { parameters := [(.array .byte), .int, .int, .int, .int], returnType := some .boolean }, accessFlags := 10, code := some k1c1 }
def k1c2 : Code := { maxStack := 5, maxLocals := 10, code := code, exceptionTable := #[], attributes := #[] }
def k1m2 : Method := { name := "law", desc := "(IIII)Z", sig := { parameters := [.int, .int, .int, .int], returnType := some .boolean }, accessFlags := 9, code := some k1c2 }
/-- com/example/nuthatch/nuthatch/engine/OutcomeExecutedPinLaw -/
def k1 : Class := { plain "com/example/nuthatch/nuthatch/engine/OutcomeExecutedPinLaw" (some 0) with
  accessFlags := 49
  interfaces := #[]
  cf := some (fileOf pool1 28 #[] #[{ accessFlags := 1, nameIndex := 5, descriptorIndex := 6, attributes := #[] }, { accessFlags := 10, nameIndex := 31, descriptorIndex := 32, attributes := #[] }, { accessFlags := 9, nameIndex := 36, descriptorIndex := 37, attributes := #[] }] 49 2 #[] #[])
  fields := #[]
  methods := #[k1m0, k1m1, k1m2]
  instanceTypes := #[]
  staticTypes := #[]
  resolved := Array.replicate 42 none
  statics := none }

def pool2 : Array CpInfo := pool [(1, .methodref 2 3), (0, .class_ 4), (0, .nameAndType 5 6), (0, u "java/lang/Object"), (0, u "<init>"), (0, u "()V"), (0, .fieldref 8 9), (0, .class_ 10), (0, .nameAndType 11 12), (0, u "com/example/nuthatch/nuthatch/engine/Outcome"), (0, u "status"), (0, u "Lcom/example/nuthatch/nuthatch/engine/Status;"), (0, .methodref 14 15), (0, .class_ 16), (0, .nameAndType 17 18), (0, u "[B"), (0, u "clone"), (0, u "()Ljava/lang/Object;"), (0, .fieldref 8 20), (0, .nameAndType 21 16), (0, u "response"), (0, .fieldref 23 24), (0, .class_ 25), (0, .nameAndType 26 12), (0, u "com/example/nuthatch/nuthatch/engine/Status"), (0, u "EXECUTED"), (0, .methodref 8 28), (0, .nameAndType 5 29), (0, u "(Lcom/example/nuthatch/nuthatch/engine/Status;[B)V"), (15, u "executed"), (0, u "([B)Lcom/example/nuthatch/nuthatch/engine/Outcome;"), (5, u "()Lcom/example/nuthatch/nuthatch/engine/Status;"), (0, u "()[B")] 2

def k2c0 : Code := { maxStack := 2, maxLocals := 3, code := prog_14_method_1_code, exceptionTable := #[], attributes := #[] }
def k2m0 : Method := { name := "<init>", desc := "(Lcom/example/nuthatch/nuthatch/engine/Status;[B)V", sig := { parameters := [(.object "com/example/nuthatch/nuthatch/engine/Status"), (.array .byte)], returnType := none }, accessFlags := 2, code := some k2c0 }
def k2c1 : Code := { maxStack := 4, maxLocals := 1, code := prog_14_method_2_code, exceptionTable := #[], attributes := #[] }
def k2m1 : Method := { name := "executed", desc := "([B)Lcom/example/nuthatch/nuthatch/engine/Outcome;", sig := { parameters := [(.array .byte)], returnType := some (.object "com/example/nuthatch/nuthatch/engine/Outcome") }, accessFlags := 8, code := some k2c1 }
def k2c2 : Code := { maxStack := 1, maxLocals := 1, code := prog_14_method_7_code, exceptionTable := #[], attributes := #[] }
def k2m2 : Method := { name := "status", desc := "()Lcom/example/nuthatch/nuthatch/engine/Status;", sig := { parameters := [], returnType := some (.object "com/example/nuthatch/nuthatch/engine/Status") }, accessFlags := 1, code := some k2c2 }
def k2c3 : Code := { maxStack := 1, maxLocals := 1, code := prog_14_method_8_code, exceptionTable := #[], attributes := #[] }
def k2m3 : Method := { name := "response", desc := "()[B", sig := { parameters := [], returnType := some (.array .byte) }, accessFlags := 1, code := some k2c3 }
/-- com/example/nuthatch/nuthatch/engine/Outcome -/
def k2 : Class := { plain "com/example/nuthatch/nuthatch/engine/Outcome" (some 0) with
  accessFlags := 33
  interfaces := #[]
  cf := some (fileOf pool2 8 #[] #[{ accessFlags := 2, nameIndex := 5, descriptorIndex := 29, attributes := #[] }, { accessFlags := 8, nameIndex := 45, descriptorIndex := 46, attributes := #[] }, { accessFlags := 1, nameIndex := 11, descriptorIndex := 52, attributes := #[] }, { accessFlags := 1, nameIndex := 21, descriptorIndex := 53, attributes := #[] }] 33 2 #[] #[{ accessFlags := 18, nameIndex := 11, descriptorIndex := 12, attributes := #[] }, { accessFlags := 18, nameIndex := 21, descriptorIndex := 16, attributes := #[] }])
  fields := #[{ name := "status", type := (.object "com/example/nuthatch/nuthatch/engine/Status"), accessFlags := 18, slot := 0, constantValue := 0 }, { name := "response", type := (.array .byte), accessFlags := 18, slot := 1, constantValue := 0 }]
  methods := #[k2m0, k2m1, k2m2, k2m3]
  instanceTypes := #[(.object "com/example/nuthatch/nuthatch/engine/Status"), (.array .byte)]
  staticTypes := #[]
  resolved := Array.replicate 56 none
  statics := none }

def pool3 : Array CpInfo := pool [(1, .class_ 2), (0, u "java/lang/constant/Constable"), (0, .class_ 4), (0, u "java/lang/Object")] 6

/-- java/lang/constant/Constable -/
def k3 : Class := { plain "java/lang/constant/Constable" (some 0) with
  accessFlags := 1537
  interfaces := #[]
  cf := some (fileOf pool3 1 #[] #[] 1537 3 #[] #[])
  fields := #[]
  methods := #[]
  instanceTypes := #[]
  staticTypes := #[]
  resolved := Array.replicate 11 none
  statics := none }

def pool4 : Array CpInfo := pool [(1, .class_ 2), (0, u "java/lang/Comparable"), (0, .class_ 4), (0, u "java/lang/Object")] 7

/-- java/lang/Comparable -/
def k4 : Class := { plain "java/lang/Comparable" (some 0) with
  accessFlags := 1537
  interfaces := #[]
  cf := some (fileOf pool4 1 #[] #[] 1537 3 #[] #[])
  fields := #[]
  methods := #[]
  instanceTypes := #[]
  staticTypes := #[]
  resolved := Array.replicate 12 none
  statics := none }

def pool5 : Array CpInfo := pool [(1, .class_ 2), (0, u "java/io/Serializable"), (0, .class_ 4), (0, u "java/lang/Object")] 2

/-- java/io/Serializable -/
def k5 : Class := { plain "java/io/Serializable" (some 0) with
  accessFlags := 1537
  interfaces := #[]
  cf := some (fileOf pool5 1 #[] #[] 1537 3 #[] #[])
  fields := #[]
  methods := #[]
  instanceTypes := #[]
  staticTypes := #[]
  resolved := Array.replicate 7 none
  statics := none }

def pool6 : Array CpInfo := pool [(2, .class_ 4), (1, u "java/lang/Enum"), (0, u "name"), (0, u "Ljava/lang/String;"), (2, u "ordinal"), (0, u "I"), (1, .class_ 14), (1, u "java/lang/Object"), (4, u "hash"), (86, .class_ 108), (1, u "java/lang/Enum$EnumDesc"), (2, .class_ 112), (0, u "java/lang/constant/Constable"), (0, .class_ 114), (0, u "java/lang/Comparable"), (0, .class_ 116), (0, u "java/io/Serializable")] 87

/-- java/lang/Enum -/
def k6 : Class := { plain "java/lang/Enum" (some 0) with
  accessFlags := 1057
  interfaces := #[3, 4, 5]
  cf := some (fileOf pool6 2 #[.nestMembers #[106]] #[] 1057 12 #[111, 113, 115] #[{ accessFlags := 18, nameIndex := 5, descriptorIndex := 6, attributes := #[] }, { accessFlags := 18, nameIndex := 9, descriptorIndex := 10, attributes := #[] }, { accessFlags := 2, nameIndex := 19, descriptorIndex := 10, attributes := #[] }])
  fields := #[{ name := "name", type := (.object "java/lang/String"), accessFlags := 18, slot := 0, constantValue := 0 }, { name := "ordinal", type := .int, accessFlags := 18, slot := 1, constantValue := 0 }, { name := "hash", type := .int, accessFlags := 2, slot := 2, constantValue := 0 }]
  methods := #[]
  instanceTypes := #[(.object "java/lang/String"), .int, .int]
  staticTypes := #[]
  resolved := Array.replicate 204 none
  statics := none }

def pool7 : Array CpInfo := pool [(1, .class_ 2), (0, u "com/example/nuthatch/nuthatch/engine/Status"), (2, u "EXECUTED"), (0, u "Lcom/example/nuthatch/nuthatch/engine/Status;"), (2, u "REPLAYED"), (2, u "IN_FLIGHT"), (2, u "MISMATCH"), (2, u "STALE"), (2, u "$VALUES"), (0, u "[Lcom/example/nuthatch/nuthatch/engine/Status;"), (6, .class_ 31), (1, u "java/lang/Enum")] 27

/-- com/example/nuthatch/nuthatch/engine/Status -/
def k7 : Class := { plain "com/example/nuthatch/nuthatch/engine/Status" (some 6) with
  accessFlags := 16433
  interfaces := #[]
  cf := some (fileOf pool7 1 #[] #[] 16433 29 #[] #[{ accessFlags := 16409, nameIndex := 5, descriptorIndex := 6, attributes := #[] }, { accessFlags := 16409, nameIndex := 9, descriptorIndex := 6, attributes := #[] }, { accessFlags := 16409, nameIndex := 12, descriptorIndex := 6, attributes := #[] }, { accessFlags := 16409, nameIndex := 15, descriptorIndex := 6, attributes := #[] }, { accessFlags := 16409, nameIndex := 18, descriptorIndex := 6, attributes := #[] }, { accessFlags := 4122, nameIndex := 21, descriptorIndex := 22, attributes := #[] }])
  fields := #[{ name := "EXECUTED", type := (.object "com/example/nuthatch/nuthatch/engine/Status"), accessFlags := 16409, slot := 0, constantValue := 0 }, { name := "REPLAYED", type := (.object "com/example/nuthatch/nuthatch/engine/Status"), accessFlags := 16409, slot := 1, constantValue := 0 }, { name := "IN_FLIGHT", type := (.object "com/example/nuthatch/nuthatch/engine/Status"), accessFlags := 16409, slot := 2, constantValue := 0 }, { name := "MISMATCH", type := (.object "com/example/nuthatch/nuthatch/engine/Status"), accessFlags := 16409, slot := 3, constantValue := 0 }, { name := "STALE", type := (.object "com/example/nuthatch/nuthatch/engine/Status"), accessFlags := 16409, slot := 4, constantValue := 0 }, { name := "$VALUES", type := (.array (.object "com/example/nuthatch/nuthatch/engine/Status")), accessFlags := 4122, slot := 5, constantValue := 0 }]
  methods := #[]
  instanceTypes := #[(.object "java/lang/String"), .int, .int]
  staticTypes := #[(.object "com/example/nuthatch/nuthatch/engine/Status"), (.object "com/example/nuthatch/nuthatch/engine/Status"), (.object "com/example/nuthatch/nuthatch/engine/Status"), (.object "com/example/nuthatch/nuthatch/engine/Status"), (.object "com/example/nuthatch/nuthatch/engine/Status"), (.array (.object "com/example/nuthatch/nuthatch/engine/Status"))]
  resolved := Array.replicate 59 none
  statics := some 0 }

def pool8 : Array CpInfo := pool [(1, .class_ 2), (0, u "java/lang/Cloneable"), (0, .class_ 4), (0, u "java/lang/Object")] 2

/-- java/lang/Cloneable -/
def k8 : Class := { plain "java/lang/Cloneable" (some 0) with
  accessFlags := 1537
  interfaces := #[]
  cf := some (fileOf pool8 1 #[] #[] 1537 3 #[] #[])
  fields := #[]
  methods := #[]
  instanceTypes := #[]
  staticTypes := #[]
  resolved := Array.replicate 7 none
  statics := none }

/-- the primitive byte -/
def k9 : Class := { plain "byte" none with kind := .primitive 'B', accessFlags := 0x411 }
/-- [B -/
def k10 : Class := { plain "[B" (some 0) with kind := .array 9 .byte, interfaces := #[8, 5], accessFlags := 1041 }

/-- the primitive int -/
def k11 : Class := { plain "int" none with kind := .primitive 'I', accessFlags := 0x411 }
/-- [I -/
def k12 : Class := { plain "[I" (some 0) with kind := .array 11 .int, interfaces := #[8, 5], accessFlags := 1041 }

def heap : Heap := #[{ cls := 7, slots := #[.ref 1, .null, .null, .null, .null, .null], vm := .statics 7 },
  { cls := 7, slots := #[.null, .int 0, .int 0], vm := .none }]
def classes : Array Class := #[k0, k1, k2, k3, k4, k5, k6, k7, k8, k9, k10, k11, k12]
def interned : List (Array UInt16 × Addr) := []
def slotsUsed : Nat := 9
def theMethod : MethodId := ⟨1, 2⟩
def args0 : Array Value := #[.int 5, .int 7, .int 9, .int 3]
def aboutOver (below : List Frame) : State where
  vm := { classes := classes, interned := interned.toArray }
  heap := heap
  slotsUsed := slotsUsed
  threads := #[{ frames := .invoking theMethod args0 :: below }]
def below0 : List Frame := [.native { method := ⟨0, 0⟩, args := #[] }]
def about1 : State := aboutOver below0
def p0 : Program := .bare "" "" ""
def e0 : Env := launch0.env 0 0 0
theorem w_frames : about1.frames = Frame.invoking theMethod args0 :: below0 := rfl
set_option maxRecDepth 65536 in
theorem w_args : argsFit about1.vm theMethod args0 = true := by decide +kernel
set_option maxRecDepth 65536 in
theorem w_heap : heapFits about1 = true := by decide +kernel
set_option maxRecDepth 65536 in
theorem w_runnable : about1.curStatus? = some .runnable := by decide +kernel
set_option maxRecDepth 65536 in
theorem w_alone : about1.alone = true := by decide +kernel
set_option maxRecDepth 65536 in
theorem w_named : about1.methodNamed? x = some theMethod := by decide +kernel
set_option maxRecDepth 65536 in
theorem w_hears : about1.hears theMethod below0 = true := by decide +kernel
set_option maxRecDepth 65536 in
theorem w_ripe : about1.ripe theMethod args0 below0 = true := by decide +kernel
theorem w_running : about1.status = .running := rfl
set_option maxRecDepth 65536 in
theorem w_room : about1.hasRoom e0.platform room_1 = true :=
  launch0.hasRoom_least _ room_1 (by decide +kernel) (by decide +kernel) (by decide +kernel) (by decide +kernel) (by decide +kernel) (by decide +kernel)
theorem allAtoms_all (ts : List Jvm.Cond) (a : Array Jvm.Value) (st : Jvm.State) : (allAtoms ts).before a st = ts.all (fun c => c.before a st) := by
  induction ts with
  | nil => rfl
  | cons c t ih =>
    show (Jvm.Cond.and c (allAtoms t)).before a st = _
    rw [Jvm.Cond.before_and, ih, List.all_cons]
def words1 : List Jvm.Cond := Jvm.Cond.code x code maxLocals ret :: tables_1
/-- a 'code' word, met by the world's own term for the bytes: nothing is compared byte by byte -/
theorem code_word {y : MethodName} {bytes : ByteArray} {mx : Nat} {rt : Option FieldType} {a : Array Value} {s : State} {m : MethodId} {meth : Method} {c : Code} (h1 : s.methodNamed? y = some m) (h2 : s.vm.method? m = some meth) (h3 : meth.code = some c) (h4 : c.code = bytes)
    (h5 : (c.maxLocals == mx && c.exceptionTable.isEmpty && decide (c.maxStack ≤ mostOperands) && decide (meth.sig.returnType = rt) && !meth.locks && decide (parseMethodDescriptor y.desc = some meth.sig)) = true) : (Jvm.Cond.code y bytes mx rt).before a s = true := by
  simp only [Bool.and_eq_true, beq_iff_eq, Bool.not_eq_true', decide_eq_true_eq] at h5
  obtain ⟨⟨⟨⟨⟨g1, g2⟩, g3⟩, g4⟩, g5⟩, g6⟩ := h5
  simp [Cond.before, Cond.holds, Cond.value, h1, h2, h3, h4, g1, g2, g3, g4, g5, g6]
def isCode : Jvm.Cond → Bool
  | .code _ _ _ _ => true
  | _ => false
theorem all_split {L : List Jvm.Cond} {P : Jvm.Cond → Bool} (h1 : L.all (fun c => isCode c || P c) = true) (h2 : ∀ c ∈ L.filter isCode, P c = true) : L.all P = true := by
  refine List.all_eq_true.mpr fun c hc => ?_
  have h := List.all_eq_true.mp h1 c hc
  rcases Bool.eq_false_or_eq_true (isCode c) with hi | hi
  · exact h2 c (List.mem_filter.mpr ⟨hc, hi⟩)
  · simpa [hi] using h
set_option maxRecDepth 65536 in
theorem w_c0 : (Jvm.Cond.code x code maxLocals ret).before args0 about1 = true := code_word (m := ⟨1, 2⟩) (meth := k1m2) (c := k1c2) (by decide +kernel) rfl rfl rfl (by decide +kernel)
set_option maxRecDepth 65536 in
theorem w_c1 : (Jvm.Cond.code ({ cls := "com/example/nuthatch/nuthatch/engine/Outcome", name := "executed", desc := "([B)Lcom/example/nuthatch/nuthatch/engine/Outcome;" } : Jvm.MethodName) prog_14_method_2_code (1 : Nat) (Option.some (Jvm.ClassFile.FieldType.object "com/example/nuthatch/nuthatch/engine/Outcome"))).before args0 about1 = true := code_word (m := ⟨2, 1⟩) (meth := k2m1) (c := k2c1) (by decide +kernel) rfl rfl rfl (by decide +kernel)
set_option maxRecDepth 65536 in
theorem w_c2 : (Jvm.Cond.code ({ cls := "com/example/nuthatch/nuthatch/engine/Outcome", name := "<init>", desc := "(Lcom/example/nuthatch/nuthatch/engine/Status;[B)V" } : Jvm.MethodName) prog_14_method_1_code (3 : Nat) (Option.none : Option Jvm.ClassFile.FieldType)).before args0 about1 = true := code_word (m := ⟨2, 0⟩) (meth := k2m0) (c := k2c0) (by decide +kernel) rfl rfl rfl (by decide +kernel)
set_option maxRecDepth 65536 in
theorem w_c3 : (Jvm.Cond.code ({ cls := "java/lang/Object", name := "<init>", desc := "()V" } : Jvm.MethodName) object_method_1_code (1 : Nat) (Option.none : Option Jvm.ClassFile.FieldType)).before args0 about1 = true := code_word (m := ⟨0, 0⟩) (meth := k0m0) (c := k0c0) (by decide +kernel) rfl rfl rfl (by decide +kernel)
set_option maxRecDepth 65536 in
theorem w_c4 : (Jvm.Cond.code ({ cls := "com/example/nuthatch/nuthatch/engine/Outcome", name := "status", desc := "()Lcom/example/nuthatch/nuthatch/engine/Status;" } : Jvm.MethodName) prog_14_method_7_code (1 : Nat) (Option.some (Jvm.ClassFile.FieldType.object "com/example/nuthatch/nuthatch/engine/Status"))).before args0 about1 = true := code_word (m := ⟨2, 2⟩) (meth := k2m2) (c := k2c2) (by decide +kernel) rfl rfl rfl (by decide +kernel)
set_option maxRecDepth 65536 in
theorem w_c5 : (Jvm.Cond.code ({ cls := "com/example/nuthatch/nuthatch/engine/Outcome", name := "response", desc := "()[B" } : Jvm.MethodName) prog_14_method_8_code (1 : Nat) (Option.some (Jvm.ClassFile.FieldType.array Jvm.ClassFile.FieldType.byte))).before args0 about1 = true := code_word (m := ⟨2, 3⟩) (meth := k2m3) (c := k2c3) (by decide +kernel) rfl rfl rfl (by decide +kernel)
set_option maxRecDepth 65536 in
theorem w_c6 : (Jvm.Cond.code ({ cls := "com/example/nuthatch/nuthatch/engine/OutcomeExecutedPinLaw", name := "holds", desc := "([BIIII)Z" } : Jvm.MethodName) method_2_code (5 : Nat) (Option.some Jvm.ClassFile.FieldType.boolean)).before args0 about1 = true := code_word (m := ⟨1, 1⟩) (meth := k1m1) (c := k1c1) (by decide +kernel) rfl rfl rfl (by decide +kernel)
def codes1 : List Jvm.Cond := [Jvm.Cond.code x code maxLocals ret, Jvm.Cond.code ({ cls := "com/example/nuthatch/nuthatch/engine/Outcome", name := "executed", desc := "([B)Lcom/example/nuthatch/nuthatch/engine/Outcome;" } : Jvm.MethodName) prog_14_method_2_code (1 : Nat) (Option.some (Jvm.ClassFile.FieldType.object "com/example/nuthatch/nuthatch/engine/Outcome")), Jvm.Cond.code ({ cls := "com/example/nuthatch/nuthatch/engine/Outcome", name := "<init>", desc := "(Lcom/example/nuthatch/nuthatch/engine/Status;[B)V" } : Jvm.MethodName) prog_14_method_1_code (3 : Nat) (Option.none : Option Jvm.ClassFile.FieldType), Jvm.Cond.code ({ cls := "java/lang/Object", name := "<init>", desc := "()V" } : Jvm.MethodName) object_method_1_code (1 : Nat) (Option.none : Option Jvm.ClassFile.FieldType), Jvm.Cond.code ({ cls := "com/example/nuthatch/nuthatch/engine/Outcome", name := "status", desc := "()Lcom/example/nuthatch/nuthatch/engine/Status;" } : Jvm.MethodName) prog_14_method_7_code (1 : Nat) (Option.some (Jvm.ClassFile.FieldType.object "com/example/nuthatch/nuthatch/engine/Status")), Jvm.Cond.code ({ cls := "com/example/nuthatch/nuthatch/engine/Outcome", name := "response", desc := "()[B" } : Jvm.MethodName) prog_14_method_8_code (1 : Nat) (Option.some (Jvm.ClassFile.FieldType.array Jvm.ClassFile.FieldType.byte)), Jvm.Cond.code ({ cls := "com/example/nuthatch/nuthatch/engine/OutcomeExecutedPinLaw", name := "holds", desc := "([BIIII)Z" } : Jvm.MethodName) method_2_code (5 : Nat) (Option.some Jvm.ClassFile.FieldType.boolean)]
set_option maxRecDepth 65536 in
theorem codes_eq : words1.filter isCode = codes1 := rfl
theorem w_codes : ∀ c ∈ words1.filter isCode, c.before args0 about1 = true := by
  rw [codes_eq]
  intro c hc
  simp only [codes1, List.mem_cons, List.not_mem_nil, or_false] at hc
  rcases hc with rfl | rfl | rfl | rfl | rfl | rfl | rfl
  · exact w_c0
  · exact w_c1
  · exact w_c2
  · exact w_c3
  · exact w_c4
  · exact w_c5
  · exact w_c6
set_option maxRecDepth 65536 in
theorem w_t1 : (words1.take 24).all (fun c => isCode c || c.before args0 about1) = true := by decide +kernel
set_option maxRecDepth 65536 in
theorem w_t2 : (words1.drop 24).all (fun c => isCode c || c.before args0 about1) = true := by decide +kernel
theorem w_tables : (allAtoms (Jvm.Cond.code x code maxLocals ret :: tables_1)).before args0 about1 = true := by
  rw [allAtoms_all]
  show words1.all (fun c => c.before args0 about1) = true
  refine all_split ?_ w_codes
  rw [← List.take_append_drop 24 words1, List.all_append, w_t1, w_t2]
  rfl
set_option maxRecDepth 65536 in
theorem w_case : (Jvm.Cond.and given_1 narrow_1).before args0 about1 = true := by decide +kernel
theorem w_applies : (headSpec (Jvm.Cond.code x code maxLocals ret :: tables_1) room_1).applies x e0.platform about1 = true :=
  (Spec.applies_iff w_frames).mpr ⟨w_running, w_runnable, w_alone, w_named, w_hears, w_ripe, w_room, w_tables⟩
theorem atStart : AtStart classFile x code maxLocals ret World_1 tables_1 room_1 Calls_1 rest_1 Pre_1 launch0 p0 e0 about1 theMethod args0 below0 :=
  ⟨lists_1, trivial, launch0.admits_env _ _ _, launch0.least_env, fairChoices_fair.cas, fairChoices_fair.clock, w_frames, w_args, w_heap, w_applies, trivial, trivial, w_case⟩
end start1
theorem witness_1 : WitnessClaimed_1 := ⟨start1.p0, start1.e0, start1.about1, start1.theMethod, start1.args0, start1.below0, start1.atStart⟩
end Jvm.Pilot.@@N@@
