import JvmDerived
import JvmDerived.Pilot.@@N@@Statement
import JvmDerived.Pilot.@@N@@Code
set_option linter.unusedVariables false
set_option linter.unusedSimpArgs false
@@BLOCK:NumsL.lean.txt@@
namespace Jvm.Pilot.@@N@@
open Jvm Jvm.ClassFile Sem Op Lib Jvm.Free Jvm.Stand Jvm.LawKit Jvm.RoadKit Bundle Jvm.Pilot.@@N@@.Jvm.D
section Own
variable {p : Program} {l : Launch} {e : Env} {R : Room} {s Z : State} {m : MethodId} {args : Array Value} {below : List Frame} {meth : Method} {c : Code} {T : State} {locs : List Loc} {cells slots : Nat} {q : Option Value → Heap → List Loc → Prop}
/-- from U the run ends in a return, as q says -/
def own_Fin (p : Program) (e : Env) (below : List Frame) (s : State) (R : Room) (q : Option Value → Heap → List Loc → Prop) (U : State) : Prop :=
  ∃ s₂ o, Steps p.tables e below U s₂ ∧ s₂.status = .running ∧ Ended s₂ below o ∧ ∃ v L, o = .returned v ∧ q v s₂.heap L ∧ FrameEnd s o s₂ L R.cells R.slots
theorem own_to {U U' : State} (h : ∀ t, Steps p.tables e below U' t → Steps p.tables e below U t) (k : own_Fin p e below s R q U') : own_Fin p e below s R q U := by
  obtain ⟨s₂, o, h1, r⟩ := k
  exact ⟨s₂, o, h _ h1, r⟩
theorem own_ite {C : Prop} [Decidable C] {G : Int32 → State} {U : State} {v1 v0 : Int32} (k : own_Fin p e below s R q (G (if C then v1 else v0))) (h1 : C → own_Fin p e below s R q (G v1) → own_Fin p e below s R q U) (h0 : ¬ C → own_Fin p e below s R q (G v0) → own_Fin p e below s R q U) : own_Fin p e below s R q U := by
  by_cases h : C
  · rw [if_pos h] at k; exact h1 h k
  · rw [if_neg h] at k; exact h0 h k
theorem own_cut {U V : State} (k : own_Fin p e below s R q V) (h : own_Fin p e below s R q V → own_Fin p e below s R q U) : own_Fin p e below s R q U := h k
theorem own_retN (X : Stand p l e R s m args below meth c T locs cells slots) (hx : p.tables.exec = Jvm.exec) (hlk : meth.locks = false) {pc : Nat} {Ls : Array Slot} {z : Int32} {t : FieldType} {rest : List Value} (hret : meth.sig.returnType = some t) (ht : t = .boolean ∨ t = .byte ∨ t = .char ∨ t = .short) (hd : decode c.code pc = .ok (.ireturn, 1)) (hc : cells ≤ R.cells) (hs : slots ≤ R.slots) (hq : q (some (.int (nar t z))) T.heap locs) :
    own_Fin p e below s R q (T.setTop (mkF m pc Ls (.int z :: rest))) := by
  obtain ⟨fs, hr, hrun, hended, hW, hsame⟩ := X.leave (v := some (.int (nar t z))) (fun h => by rw [hret] at h; cases h)
  exact ⟨_, _, retN X hx hret ht hd hr, hrun, hended, _, _, rfl, hq, ⟨_, rfl⟩, hW, hsame.mono hc hs⟩
theorem own_retI (X : Stand p l e R s m args below meth c T locs cells slots) (hx : p.tables.exec = Jvm.exec) (hlk : meth.locks = false) {pc : Nat} {Ls : Array Slot} {z : Int32} {rest : List Value} (hret : meth.sig.returnType = some .int) (hd : decode c.code pc = .ok (.ireturn, 1)) (hc : cells ≤ R.cells) (hs : slots ≤ R.slots) (hq : q (some (.int z)) T.heap locs) :
    own_Fin p e below s R q (T.setTop (mkF m pc Ls (.int z :: rest))) := by
  obtain ⟨fs, hr, hrun, hended, hW, hsame⟩ := X.leave (v := some (.int z)) (fun h => by rw [hret] at h; cases h)
  exact ⟨_, _, retOut X hx hret rfl (Or.inl ⟨rfl, Or.inl rfl, z, rfl⟩) hd hr, hrun, hended, _, _, rfl, hq, ⟨_, rfl⟩, hW, hsame.mono hc hs⟩
theorem own_retJ (X : Stand p l e R s m args below meth c T locs cells slots) (hx : p.tables.exec = Jvm.exec) (hlk : meth.locks = false) {pc : Nat} {Ls : Array Slot} {z : Int64} {rest : List Value} (hret : meth.sig.returnType = some .long) (hd : decode c.code pc = .ok (.lreturn, 1)) (hc : cells ≤ R.cells) (hs : slots ≤ R.slots) (hq : q (some (.long z)) T.heap locs) :
    own_Fin p e below s R q (T.setTop (mkF m pc Ls (.long z :: rest))) := by
  obtain ⟨fs, hr, hrun, hended, hW, hsame⟩ := X.leave (v := some (.long z)) (fun h => by rw [hret] at h; cases h)
  exact ⟨_, _, retOut X hx hret rfl (Or.inr (Or.inl ⟨rfl, rfl, z, rfl⟩)) hd hr, hrun, hended, _, _, rfl, hq, ⟨_, rfl⟩, hW, hsame.mono hc hs⟩
theorem own_retR (X : Stand p l e R s m args below meth c T locs cells slots) (hx : p.tables.exec = Jvm.exec) (hlk : meth.locks = false) {pc : Nat} {Ls : Array Slot} {w : Value} {t : FieldType} {rest : List Value} (hret : meth.sig.returnType = some t) (ht : t.isReference = true) (hw : w.isRef = true) (hn : narrow t w = w) (hd : decode c.code pc = .ok (.areturn, 1)) (hc : cells ≤ R.cells) (hs : slots ≤ R.slots) (hq : q (some w) T.heap locs) :
    own_Fin p e below s R q (T.setTop (mkF m pc Ls (w :: rest))) := by
  obtain ⟨fs, hr, hrun, hended, hW, hsame⟩ := X.leave (v := some w) (fun h => by rw [hret] at h; cases h)
  exact ⟨_, _, retOut X hx hret hn (Or.inr (Or.inr (Or.inr (Or.inr ⟨rfl, ht, hw⟩)))) hd hr, hrun, hended, _, _, rfl, hq, ⟨_, rfl⟩, hW, hsame.mono hc hs⟩
theorem own_retV (X : Stand p l e R s m args below meth c T locs cells slots) (hx : p.tables.exec = Jvm.exec) (hlk : meth.locks = false) {pc : Nat} {Ls : Array Slot} (hret : meth.sig.returnType = none) (hd : decode c.code pc = .ok (.return_, 1)) (hc : cells ≤ R.cells) (hs : slots ≤ R.slots) (hq : q none T.heap locs) :
    own_Fin p e below s R q (T.setTop (mkF m pc Ls [])) := by
  obtain ⟨fs, hr, hrun, hended, hW, hsame⟩ := X.leave (v := none) (fun _ => rfl)
  exact ⟨_, _, X.returnOut hx hret hd hr, hrun, hended, _, _, rfl, hq, ⟨_, rfl⟩, hW, hsame.mono hc hs⟩
/-- the contract of a body at given arguments and a given heap -/
abbrev own_Met (l : Launch) (Z : State) (y : MethodName) (bytes : ByteArray) (maxL : Nat) (ret : Option FieldType) (ws : List Jvm.Cond) (rm : Room) (as' : Array Value) (h0 : Heap) (q : Option Value → Heap → List Loc → Prop) : Prop :=
  MetFree l y (head1 (Jvm.Cond.code y bytes maxL ret :: ws) rm) (fun a U => a = as' ∧ Z.Warmed39 U.vm ∧ U.heap = h0) (fun _ _ _ _ _ => True) (fun _ U o U' => ∃ v L, o = .returned v ∧ q v U'.heap L ∧ FrameEnd U o U' L rm.cells rm.slots)
theorem own_back {a0 : Array Value} {h : Heap} {y : MethodName} {bytes : ByteArray} {maxL : Nat} {ret : Option FieldType} {rm : Room} {len W : Nat} {as' : Array Value} (hM : own_Met l Z y bytes maxL ret [] rm as' h q)
    (hZ : Z.Warmed39 s.vm) (wc : (Jvm.Cond.code y bytes maxL ret).before a0 Z = true) (wz : (Jvm.Cond.initialized y.cls).before a0 Z = true) (hf : rm.frames + 1 ≤ R.frames) (hl : W + (maxL + 11) + rm.locals ≤ R.locals) :
    Back l R p e below s args y len W (fun A a => a = as' ∧ A.U.heap = h ∧ A.cells + rm.cells ≤ R.cells ∧ A.slots + rm.slots ≤ R.slots)
      (fun A _ v B => ∃ L, q v B.U.heap L ∧ B.locs = A.locs ++ L ∧ B.cells = A.cells + rm.cells ∧ B.slots = A.slots + rm.slots) := backOf (Q := q) hM hZ wc wz hf hl
theorem own_enter {y : MethodName} {bytes : ByteArray} {maxL : Nat} {ret : Option FieldType} {ws : List Jvm.Cond} {rm : Room} {as' : Array Value} {h0 : Heap} (hpl : plainFor y = true)
    (k : ∀ (p : Program) (e : Env) (s : State) (m : MethodId) (below : List Frame) (meth : Method) (c : Code) (s₁ : State), Stand p l e rm s m as' below meth c s₁ [] 0 0 → p.tables.exec = Jvm.exec → Z.Warmed39 s.vm → c.code = bytes → c.maxLocals = maxL → s.vm.findClass y.cls = some m.cls → meth.name = y.name → meth.sig.returnType = ret → meth.locks = false → s₁.heap = h0 → own_Fin p e below s rm q (s₁.setTop (entryFrame m as' maxL))) :
    own_Met l Z y bytes maxL ret ws rm as' h0 q := by
  refine MetFree.of_bodySF hpl hisR ?_
  intro p e s m args below meth c s₁ Bd hml0 hP hK
  obtain ⟨rfl, hZ, hh⟩ := hP
  exact k p e s m below meth c s₁ (Stand.of_body Bd) Bd.exec hZ Bd.bytes hml0 (findClass_of_methodNamed Bd.named) (name_of_methodNamed Bd.named Bd.method).1 Bd.returns Bd.notSynchronized (by rw [← hh, Bd.state]; rfl)
theorem own_selP {a : Array Value} {y y' : MethodName} (w : (Jvm.Cond.selects y'.cls y' y').before a s = true) (hc : y'.cls = y.cls) (hp : s.PrivateAt y) (hi : (Jvm.Cond.instanceMethod y).before a s = true) (hy : y.cls ≠ "java/lang/invoke/MethodHandle" ∧ y.cls ≠ "java/lang/invoke/VarHandle") : (Jvm.Cond.selects y.cls y y).before a s = true := by
  obtain ⟨c, r, m, h1, -, h3, -, mk, h4, h5⟩ := Cond.selects_spec w
  exact selects_self_of_private (c := m.cls) (k := mk) (hc ▸ findClass_of_methodNamed h3) h4 h5 hp hi hy
end Own
theorem own_d2_0 : decode prog_40_method_1_code 0 = .ok (.aload_n 0, 1) := by decide +kernel
theorem own_d2_1 : decode prog_40_method_1_code 1 = .ok (.invokespecial 1, 3) := by decide +kernel
theorem own_d2_4 : decode prog_40_method_1_code 4 = .ok (.aload_n 0, 1) := by decide +kernel
theorem own_d2_5 : decode prog_40_method_1_code 5 = .ok (.iload_n 1, 1) := by decide +kernel
theorem own_d2_6 : decode prog_40_method_1_code 6 = .ok (.putfield 7, 3) := by decide +kernel
theorem own_d2_9 : decode prog_40_method_1_code 9 = .ok (.return_, 1) := by decide +kernel
theorem own_pn0 : plainName "com/example/inner_gate/innergate/PrivacySet" = true := by first | (simp [plainName, overriddenIn]; done) | decide +kernel
theorem own_pd0 : parseMethodDescriptor "()V" = some ⟨[], none⟩ := by decide +kernel
theorem own_rm2_ef (m : MethodId) (a1 : Addr) (p1 : Int32) : entryFrame m #[(.ref a1), (.int p1)] 2 = mkF m 0 #[.val (.ref a1), .val (.int p1)] [] := by first | (simp [entryFrame, mkF, argsToLocals, Value.category]; done) | rfl
set_option maxRecDepth 65536 in
set_option maxHeartbeats 40000000 in
theorem own_rm2 (l : Launch) (Z : State) (a0 : Array Value) (hw : ∀ d ∈ tables_1, d.before a0 Z = true) (ws : List Jvm.Cond) (a1 : Addr) (p1 : Int32) (h0 : Heap) (n0 : Nat) (Z0 : n0 ≤ h0.size) (E1 : Exa Z h0 a1 "com/example/inner_gate/innergate/PrivacySet") (F1 : Fld Z h0 a1 "com/example/inner_gate/innergate/PrivacySet" "mask" "I" (.int (0 : Int32))) (g_a1 : n0 ≤ a1) :
    own_Met l Z (⟨"com/example/inner_gate/innergate/PrivacySet", "<init>", "(I)V"⟩ : MethodName) prog_40_method_1_code 2 none ws ({ frames := 1, cells := 0, slots := 0, locals := 16 } : Room) #[(.ref a1), (.int p1)] h0 (fun v h L => v = none ∧ Fr n0 L ∧ Keep h0 h [a1] ∧ Fld Z h a1 "com/example/inner_gate/innergate/PrivacySet" "mask" "I" (.int p1)) := by
  refine own_enter (plainFor_of_name own_pn0) ?_
  intro p e s m below meth c s₁ X0 hx hZ hby hml hown hnm hret hlk e0
  have N0 := Fr.nil n0
  rw [own_rm2_ef m a1 p1]
  have KK0 : Keep h0 h0 [a1] := Keep.refl _ _
  show own_Fin _ _ _ _ _ _ (s₁.setTop (mkF m 0 #[.val (.ref a1), .val (.int p1)] []))
  refine own_to (fun t k => XS.aloadN X0.here hx rfl (hb hby own_d2_0) rfl rfl k) ?_
  show own_Fin _ _ _ _ _ _ (s₁.setTop (mkF m 1 #[.val (.ref a1), .val (.int p1)] [(.ref a1)]))
  obtain ⟨T1, X1, e1, st1⟩ := initO X0 hx hZ hown (hw _ (List.mem_of_getElem? (i := 12) rfl)) (hw _ (List.mem_of_getElem? (i := 13) rfl)) (hw _ (List.mem_of_getElem? (i := 14) rfl)) e0 (g := (mkF m 1 #[.val (.ref a1), .val (.int p1)] [(.ref a1)])) rfl (by rw [hml]; rfl) rfl (hb hby own_d2_1) (by decide) (W := 0) (by show 2 * 0 + _ ≤ _; exact Nat.le_of_eq rfl) (by decide)
  refine own_to (fun t k => st1 t k) ?_
  show own_Fin _ _ _ _ _ _ (T1.setTop (mkF m 4 #[.val (.ref a1), .val (.int p1)] []))
  refine own_to (fun t k => XS.aloadN X1.here hx rfl (hb hby own_d2_4) rfl rfl k) ?_
  show own_Fin _ _ _ _ _ _ (T1.setTop (mkF m 5 #[.val (.ref a1), .val (.int p1)] [(.ref a1)]))
  refine own_to (fun t k => XS.iloadN X1.here hx rfl (hb hby own_d2_5) rfl k) ?_
  show own_Fin _ _ _ _ _ _ (T1.setTop (mkF m 6 #[.val (.ref a1), .val (.int p1)] [(.int p1), (.ref a1)]))
  obtain ⟨T2, h2, X2, e2, W2, st2⟩ := putF X1 hx hZ hown (host := "") (Or.inl (hw _ (List.mem_of_getElem? (i := 15) rfl))) Via.refl e1 F1 E1 (Or.inr ⟨(hw _ (List.mem_of_getElem? (i := 16) rfl)), rfl, hnm⟩) (hw _ (List.mem_of_getElem? (i := 6) rfl)) (ty := .int) (by decide) rfl rfl (g := (mkF m 6 #[.val (.ref a1), .val (.int p1)] [(.int p1), (.ref a1)])) rfl rfl (hb hby own_d2_6)
  have Fw2 := F1.same W2
  have N2 := Fr.snoc X2 N0 g_a1
  have KK2 : Keep h0 h2 [a1] := KK0.wr W2 (Or.inl (List.mem_of_getElem? (i := 0) rfl))
  have E1_e2 := E1.wr W2
  refine own_to (fun t k => st2 t k) ?_
  show own_Fin _ _ _ _ _ _ (T2.setTop (mkF m 9 #[.val (.ref a1), .val (.int p1)] []))
  refine own_retV X2 hx hlk hret (hb hby own_d2_9) (by decide) (by decide) ?_
  try rw [e2]
  exact ⟨rfl, N2, KK2, Fw2⟩
theorem own_d1_0 : decode prog_40_method_3_code 0 = .ok (.new 8, 3) := by decide +kernel
theorem own_d1_3 : decode prog_40_method_3_code 3 = .ok (.dup, 1) := by decide +kernel
theorem own_d1_4 : decode prog_40_method_3_code 4 = .ok (.iload_n 0, 1) := by decide +kernel
theorem own_d1_5 : decode prog_40_method_3_code 5 = .ok (.getstatic 48, 3) := by decide +kernel
theorem own_d1_8 : decode prog_40_method_3_code 8 = .ok (.iand, 1) := by decide +kernel
theorem own_d1_9 : decode prog_40_method_3_code 9 = .ok (.invokespecial 45, 3) := by decide +kernel
theorem own_d1_12 : decode prog_40_method_3_code 12 = .ok (.areturn, 1) := by decide +kernel
theorem own_pd1 : parseMethodDescriptor "(I)V" = some ⟨[.int], none⟩ := by decide +kernel
theorem own_rm1_ef (m : MethodId) (p1 : Int32) : entryFrame m #[(.int p1)] 1 = mkF m 0 #[.val (.int p1)] [] := by first | (simp [entryFrame, mkF, argsToLocals, Value.category]; done) | rfl
set_option maxRecDepth 65536 in
set_option maxHeartbeats 40000000 in
theorem own_rm1 (l : Launch) (Z : State) (a0 : Array Value) (hw : ∀ d ∈ tables_1, d.before a0 Z = true) (ws : List Jvm.Cond) (p1 : Int32) (h0 : Heap) (n0 : Nat) (Z0 : n0 ≤ h0.size) (O0 : Old Z n0 h0) (SS : Sta Z Z.heap "com/example/inner_gate/innergate/PrivacySet" "CATALOGUE_BITS" "I" (.int (16777215 : Int32))) :
    own_Met l Z (⟨"com/example/inner_gate/innergate/PrivacySet", "fromMask", "(I)Lcom/example/inner_gate/innergate/PrivacySet;"⟩ : MethodName) prog_40_method_3_code 1 (some (.object "com/example/inner_gate/innergate/PrivacySet")) ws ({ frames := 2, cells := 1, slots := 1, locals := 40 } : Room) #[(.int p1)] h0 (fun v h L => ∃ b, v = some (.ref b) ∧ Fr n0 L ∧ Keep h0 h [] ∧ n0 ≤ b ∧ h0.size ≤ b ∧ Exa Z h b "com/example/inner_gate/innergate/PrivacySet" ∧ Fld Z h b "com/example/inner_gate/innergate/PrivacySet" "mask" "I" (.int (p1 &&& (16777215 : Int32)))) := by
  refine own_enter (plainFor_of_name own_pn0) ?_
  intro p e s m below meth c s₁ X0 hx hZ hby hml hown hnm hret hlk e0
  have N0 := Fr.nil n0
  rw [own_rm1_ef m p1]
  have KK0 : Keep h0 h0 [] := Keep.refl _ _
  show own_Fin _ _ _ _ _ _ (s₁.setTop (mkF m 0 #[.val (.int p1)] []))
  obtain ⟨T3, h3, X3, e3, E3, A3, D3, U3, st3⟩ := newO X0 hx hZ hown (hw _ (List.mem_of_getElem? (i := 5) rfl)) (hw _ (List.mem_of_getElem? (i := 6) rfl)) (hw _ (List.mem_of_getElem? (i := 3) rfl)) e0 (g := (mkF m 0 #[.val (.int p1)] [])) rfl (hb hby own_d1_0) (by decide) (by decide)
  obtain ⟨b3, q3⟩ : ∃ z, z = h0.size := ⟨_, rfl⟩
  rw [← q3] at A3 D3 U3 st3
  have g_b3 : n0 ≤ b3 := Nat.le_trans Z0 (Nat.le_of_eq q3.symm)
  have sz_b3 : h0.size ≤ b3 := Nat.le_trans KK0.1 (Nat.le_of_eq q3.symm)
  have O3 := O0.ext E3
  have KK3 : Keep h0 h3 [] := KK0.ext E3
  have Fnmask_3 : Fld Z h3 b3 "com/example/inner_gate/innergate/PrivacySet" "mask" "I" (.int (0 : Int32)) := D3 (Or.inr (hw _ (List.mem_of_getElem? (i := 16) rfl))) (ty := .int) (by decide)
  refine own_to (fun t k => st3 t k) ?_
  show own_Fin _ _ _ _ _ _ (T3.setTop (mkF m 3 #[.val (.int p1)] [(.ref b3)]))
  refine own_to (fun t k => XS.dup X3.here hx rfl (hb hby own_d1_3) rfl rfl k) ?_
  show own_Fin _ _ _ _ _ _ (T3.setTop (mkF m 4 #[.val (.int p1)] [(.ref b3), (.ref b3)]))
  refine own_to (fun t k => XS.iloadN X3.here hx rfl (hb hby own_d1_4) rfl k) ?_
  show own_Fin _ _ _ _ _ _ (T3.setTop (mkF m 5 #[.val (.int p1)] [(.int p1), (.ref b3), (.ref b3)]))
  obtain ⟨T4, X4, e4, st4⟩ := getS2 X3 hx hZ hown (host := "") (Or.inl (hw _ (List.mem_of_getElem? (i := 7) rfl))) Via.refl e3 (SS.ext O3.2) (g := (mkF m 5 #[.val (.int p1)] [(.int p1), (.ref b3), (.ref b3)])) rfl (hb hby own_d1_5)
  refine own_to (fun t k => st4 t k) ?_
  show own_Fin _ _ _ _ _ _ (T4.setTop (mkF m 8 #[.val (.int p1)] [(.int (16777215 : Int32)), (.int p1), (.ref b3), (.ref b3)]))
  refine own_to (fun t k => XS.iand X4.here hx rfl (hb hby own_d1_8) rfl k) ?_
  show own_Fin _ _ _ _ _ _ (T4.setTop (mkF m 9 #[.val (.int p1)] [(.int (p1 &&& (16777215 : Int32))), (.ref b3), (.ref b3)]))
  obtain ⟨_, _, ⟨T5, L5, k5, n5⟩, -, X5, ⟨Lc5, hQ5, l5, y5, z5⟩, st5⟩ := X4.specialBack hx (y := (⟨"com/example/inner_gate/innergate/PrivacySet", "<init>", "(I)V"⟩ : MethodName)) rfl hown (mvT hZ (hw _ (List.mem_of_getElem? (i := 9) rfl))) (mvT hZ (hw _ (List.mem_of_getElem? (i := 10) rfl))) (mvT hZ (hw _ (List.mem_of_getElem? (i := 11) rfl))) (by decide) (own_back (W := 1) (own_rm2 l Z a0 hw [] b3 (p1 &&& (16777215 : Int32)) h3 n0 (Nat.le_trans Z0 E3.1) A3 Fnmask_3 g_b3) hZ (hw _ (List.mem_of_getElem? (i := 11) rfl)) (hw _ (List.mem_of_getElem? (i := 3) rfl)) (by decide) (by decide)) (g := (mkF m 9 #[.val (.int p1)] [(.int (p1 &&& (16777215 : Int32))), (.ref b3), (.ref b3)])) rfl (by rw [hml]; rfl) (Steps.refl _) (a := b3) (argsL := [(.int (p1 &&& (16777215 : Int32)))]) (rest := [(.ref b3)]) (lenOf own_pd1 rfl) rfl (by show 2 * 0 + _ ≤ _; exact Nat.le_of_eq rfl) (hb hby own_d1_9) (fun _ _ => ⟨rfl, e4, (by decide : 1 + 0 ≤ _), (by decide : 1 + 0 ≤ _)⟩)
  dsimp only [Pt.U, Pt.locs, Pt.cells, Pt.slots] at X5 l5 y5 z5 st5 hQ5
  subst l5 y5 z5
  obtain ⟨rfl, N5q, K5, Fs⟩ := hQ5
  have N5 := Fr.app N0 N5q
  have O5 := O3.keep K5 (allS g_b3 all0)
  have KK5 : Keep h0 T5.heap [] := KK3.trans K5 (allS (Or.inr sz_b3) all0)
  have A3_e5 := A3.keep K5
  refine own_to (fun t k => st5.trans k) ?_
  show own_Fin _ _ _ _ _ _ (T5.setTop (mkF m 12 #[.val (.int p1)] [(.ref b3)]))
  refine own_retR X5 hx hlk hret rfl rfl rfl (hb hby own_d1_12) (by decide) (by decide) ?_
  exact ⟨b3, rfl, N5, KK5, g_b3, sz_b3, A3_e5, Fs⟩
theorem own_d4_0 : decode prog_40_method_7_code 0 = .ok (.aload_n 0, 1) := by decide +kernel
theorem own_d4_1 : decode prog_40_method_7_code 1 = .ok (.getfield 7, 3) := by decide +kernel
theorem own_d4_4 : decode prog_40_method_7_code 4 = .ok (.ireturn, 1) := by decide +kernel
theorem own_rm4_ef (m : MethodId) (a1 : Addr) : entryFrame m #[(.ref a1)] 1 = mkF m 0 #[.val (.ref a1)] [] := by first | (simp [entryFrame, mkF, argsToLocals, Value.category]; done) | rfl
set_option maxRecDepth 65536 in
set_option maxHeartbeats 40000000 in
theorem own_rm4 (l : Launch) (Z : State) (a0 : Array Value) (hw : ∀ d ∈ tables_1, d.before a0 Z = true) (ws : List Jvm.Cond) (a1 : Addr) (x1 : Int32) (h0 : Heap) (n0 : Nat) (Z0 : n0 ≤ h0.size) (F1 : Fld Z h0 a1 "com/example/inner_gate/innergate/PrivacySet" "mask" "I" (.int x1)) :
    own_Met l Z (⟨"com/example/inner_gate/innergate/PrivacySet", "mask", "()I"⟩ : MethodName) prog_40_method_7_code 1 (some .int) ws ({ frames := 0, cells := 0, slots := 0, locals := 0 } : Room) #[(.ref a1)] h0 (fun v h L => v = some (.int x1) ∧ Fr n0 L ∧ h = h0) := by
  refine own_enter (plainFor_of_name own_pn0) ?_
  intro p e s m below meth c s₁ X0 hx hZ hby hml hown hnm hret hlk e0
  have N0 := Fr.nil n0
  rw [own_rm4_ef m a1]
  show own_Fin _ _ _ _ _ _ (s₁.setTop (mkF m 0 #[.val (.ref a1)] []))
  refine own_to (fun t k => XS.aloadN X0.here hx rfl (hb hby own_d4_0) rfl rfl k) ?_
  show own_Fin _ _ _ _ _ _ (s₁.setTop (mkF m 1 #[.val (.ref a1)] [(.ref a1)]))
  obtain ⟨T6, X6, e6, st6⟩ := getF X0 hx hZ hown (host := "") (Or.inl (hw _ (List.mem_of_getElem? (i := 15) rfl))) Via.refl e0 F1 (g := (mkF m 1 #[.val (.ref a1)] [(.ref a1)])) rfl rfl (hb hby own_d4_1)
  refine own_to (fun t k => st6 t k) ?_
  show own_Fin _ _ _ _ _ _ (T6.setTop (mkF m 4 #[.val (.ref a1)] [(.int x1)]))
  refine own_retI X6 hx hlk hret (hb hby own_d4_4) (by decide) (by decide) ?_
  try rw [e6]
  exact ⟨rfl, N0, rfl⟩
def own_empty (x1 : Int32) : Int32 := (if x1 = (0 : Int32) then (1 : Int32) else (0 : Int32))
theorem own_d5_0 : decode prog_40_method_8_code 0 = .ok (.aload_n 0, 1) := by decide +kernel
theorem own_d5_1 : decode prog_40_method_8_code 1 = .ok (.getfield 7, 3) := by decide +kernel
theorem own_d5_4 : decode prog_40_method_8_code 4 = .ok (.ifCond .ne 7, 3) := by decide +kernel
theorem own_d5_7 : decode prog_40_method_8_code 7 = .ok (.iconst 1, 1) := by decide +kernel
theorem own_d5_8 : decode prog_40_method_8_code 8 = .ok (.goto 4, 3) := by decide +kernel
theorem own_d5_11 : decode prog_40_method_8_code 11 = .ok (.iconst 0, 1) := by decide +kernel
theorem own_d5_12 : decode prog_40_method_8_code 12 = .ok (.ireturn, 1) := by decide +kernel
theorem own_rm5_ef (m : MethodId) (a1 : Addr) : entryFrame m #[(.ref a1)] 1 = mkF m 0 #[.val (.ref a1)] [] := by first | (simp [entryFrame, mkF, argsToLocals, Value.category]; done) | rfl
set_option maxRecDepth 65536 in
set_option maxHeartbeats 40000000 in
theorem own_rm5 (l : Launch) (Z : State) (a0 : Array Value) (hw : ∀ d ∈ tables_1, d.before a0 Z = true) (ws : List Jvm.Cond) (a1 : Addr) (x1 : Int32) (h0 : Heap) (n0 : Nat) (Z0 : n0 ≤ h0.size) (F1 : Fld Z h0 a1 "com/example/inner_gate/innergate/PrivacySet" "mask" "I" (.int x1)) :
    own_Met l Z (⟨"com/example/inner_gate/innergate/PrivacySet", "isEmpty", "()Z"⟩ : MethodName) prog_40_method_8_code 1 (some .boolean) ws ({ frames := 0, cells := 0, slots := 0, locals := 0 } : Room) #[(.ref a1)] h0 (fun v h L => v = some (.int (own_empty x1)) ∧ Fr n0 L ∧ h = h0) := by
  refine own_enter (plainFor_of_name own_pn0) ?_
  intro p e s m below meth c s₁ X0 hx hZ hby hml hown hnm hret hlk e0
  have N0 := Fr.nil n0
  rw [own_rm5_ef m a1]
  show own_Fin _ _ _ _ _ _ (s₁.setTop (mkF m 0 #[.val (.ref a1)] []))
  refine own_to (fun t k => XS.aloadN X0.here hx rfl (hb hby own_d5_0) rfl rfl k) ?_
  show own_Fin _ _ _ _ _ _ (s₁.setTop (mkF m 1 #[.val (.ref a1)] [(.ref a1)]))
  obtain ⟨T7, X7, e7, st7⟩ := getF X0 hx hZ hown (host := "") (Or.inl (hw _ (List.mem_of_getElem? (i := 15) rfl))) Via.refl e0 F1 (g := (mkF m 1 #[.val (.ref a1)] [(.ref a1)])) rfl rfl (hb hby own_d5_1)
  refine own_to (fun t k => st7 t k) ?_
  show own_Fin _ _ _ _ _ _ (T7.setTop (mkF m 4 #[.val (.ref a1)] [(.int x1)]))
  by_cases hc4_8 : x1 = (0 : Int32)
  ·
    show own_Fin _ _ _ _ _ _ (T7.setTop (mkF m 4 #[.val (.ref a1)] [(.int x1)]))
    refine own_to (fun t k => XS.ifNo X7.here hx rfl (hb hby own_d5_4) rfl ((if0 _ _).trans (teq hc4_8).2) k) ?_
    show own_Fin _ _ _ _ _ _ (T7.setTop (mkF m 7 #[.val (.ref a1)] []))
    refine own_to (fun t k => XS.iconst X7.here hx rfl (hb hby own_d5_7) k) ?_
    show own_Fin _ _ _ _ _ _ (T7.setTop (mkF m 8 #[.val (.ref a1)] [(.int (1 : Int32))]))
    refine own_to (fun t k => XS.goto X7.here hx rfl (pc0 := 8) (pc' := 12) rfl (hb hby own_d5_8) (by decide) (by decide) k) ?_
    show own_Fin _ _ _ _ _ _ (T7.setTop (mkF m 12 #[.val (.ref a1)] [(.int (1 : Int32))]))
    refine own_retN X7 hx hlk (t := .boolean) hret (by simp) (hb hby own_d5_12) (by decide) (by decide) ?_
    try rw [e7]
    exact ⟨congrArg (fun z => some (Value.int z)) (Eq.symm (show own_empty x1 = _ from ((if_pos hc4_8).trans rfl))), N0, rfl⟩
  ·
    show own_Fin _ _ _ _ _ _ (T7.setTop (mkF m 4 #[.val (.ref a1)] [(.int x1)]))
    refine own_to (fun t k => XS.ifYes X7.here hx rfl (pc0 := 4) (pc' := 11) rfl (hb hby own_d5_4) rfl ((if0 _ _).trans (feq hc4_8).2) (by decide) (by decide) k) ?_
    show own_Fin _ _ _ _ _ _ (T7.setTop (mkF m 11 #[.val (.ref a1)] []))
    refine own_to (fun t k => XS.iconst X7.here hx rfl (hb hby own_d5_11) k) ?_
    show own_Fin _ _ _ _ _ _ (T7.setTop (mkF m 12 #[.val (.ref a1)] [(.int (0 : Int32))]))
    refine own_retN X7 hx hlk (t := .boolean) hret (by simp) (hb hby own_d5_12) (by decide) (by decide) ?_
    try rw [e7]
    exact ⟨congrArg (fun z => some (Value.int z)) (Eq.symm (show own_empty x1 = _ from ((if_neg hc4_8).trans rfl))), N0, rfl⟩
def own_equals (x1 : Int32) (x2 : Int32) : Int32 := (if x2 = x1 then (1 : Int32) else (0 : Int32))
theorem own_d6_0 : decode prog_40_method_10_code 0 = .ok (.aload_n 1, 1) := by decide +kernel
theorem own_d6_1 : decode prog_40_method_10_code 1 = .ok (.instanceof 8, 3) := by decide +kernel
theorem own_d6_4 : decode prog_40_method_10_code 4 = .ok (.ifCond .eq 21, 3) := by decide +kernel
theorem own_d6_7 : decode prog_40_method_10_code 7 = .ok (.aload_n 1, 1) := by decide +kernel
theorem own_d6_8 : decode prog_40_method_10_code 8 = .ok (.checkcast 8, 3) := by decide +kernel
theorem own_d6_11 : decode prog_40_method_10_code 11 = .ok (.getfield 7, 3) := by decide +kernel
theorem own_d6_14 : decode prog_40_method_10_code 14 = .ok (.aload_n 0, 1) := by decide +kernel
theorem own_d6_15 : decode prog_40_method_10_code 15 = .ok (.getfield 7, 3) := by decide +kernel
theorem own_d6_18 : decode prog_40_method_10_code 18 = .ok (.if_icmp .ne 7, 3) := by decide +kernel
theorem own_d6_21 : decode prog_40_method_10_code 21 = .ok (.iconst 1, 1) := by decide +kernel
theorem own_d6_22 : decode prog_40_method_10_code 22 = .ok (.goto 4, 3) := by decide +kernel
theorem own_d6_25 : decode prog_40_method_10_code 25 = .ok (.iconst 0, 1) := by decide +kernel
theorem own_d6_26 : decode prog_40_method_10_code 26 = .ok (.ireturn, 1) := by decide +kernel
theorem own_rm6_ef (m : MethodId) (a1 : Addr) (a2 : Addr) : entryFrame m #[(.ref a1), (.ref a2)] 2 = mkF m 0 #[.val (.ref a1), .val (.ref a2)] [] := by first | (simp [entryFrame, mkF, argsToLocals, Value.category]; done) | rfl
set_option maxRecDepth 65536 in
set_option maxHeartbeats 40000000 in
theorem own_rm6 (l : Launch) (Z : State) (a0 : Array Value) (hw : ∀ d ∈ tables_1, d.before a0 Z = true) (ws : List Jvm.Cond) (a1 : Addr) (a2 : Addr) (x1 : Int32) (x2 : Int32) (h0 : Heap) (n0 : Nat) (Z0 : n0 ≤ h0.size) (F1 : Fld Z h0 a1 "com/example/inner_gate/innergate/PrivacySet" "mask" "I" (.int x1)) (F2 : Fld Z h0 a2 "com/example/inner_gate/innergate/PrivacySet" "mask" "I" (.int x2)) (E2 : Exa Z h0 a2 "com/example/inner_gate/innergate/PrivacySet") :
    own_Met l Z (⟨"com/example/inner_gate/innergate/PrivacySet", "equals", "(Ljava/lang/Object;)Z"⟩ : MethodName) prog_40_method_10_code 2 (some .boolean) ws ({ frames := 0, cells := 0, slots := 0, locals := 0 } : Room) #[(.ref a1), (.ref a2)] h0 (fun v h L => v = some (.int (own_equals x1 x2)) ∧ Fr n0 L ∧ h = h0) := by
  refine own_enter (plainFor_of_name own_pn0) ?_
  intro p e s m below meth c s₁ X0 hx hZ hby hml hown hnm hret hlk e0
  have N0 := Fr.nil n0
  rw [own_rm6_ef m a1 a2]
  show own_Fin _ _ _ _ _ _ (s₁.setTop (mkF m 0 #[.val (.ref a1), .val (.ref a2)] []))
  refine own_to (fun t k => XS.aloadN X0.here hx rfl (hb hby own_d6_0) rfl rfl k) ?_
  show own_Fin _ _ _ _ _ _ (s₁.setTop (mkF m 1 #[.val (.ref a1), .val (.ref a2)] [(.ref a2)]))
  obtain ⟨T9, X9, e9, st9⟩ := instY X0 hx hZ hown (hw _ (List.mem_of_getElem? (i := 5) rfl)) e0 (Ins.self E2) (g := (mkF m 1 #[.val (.ref a1), .val (.ref a2)] [(.ref a2)])) rfl rfl (hb hby own_d6_1)
  refine own_to (fun t k => st9 t k) ?_
  show own_Fin _ _ _ _ _ _ (T9.setTop (mkF m 4 #[.val (.ref a1), .val (.ref a2)] [(.int (1 : Int32))]))
  refine own_to (fun t k => XS.ifNo X9.here hx rfl (hb hby own_d6_4) rfl ((if0 _ _).trans (feq (by decide)).1) k) ?_
  show own_Fin _ _ _ _ _ _ (T9.setTop (mkF m 7 #[.val (.ref a1), .val (.ref a2)] []))
  refine own_to (fun t k => XS.aloadN X9.here hx rfl (hb hby own_d6_7) rfl rfl k) ?_
  show own_Fin _ _ _ _ _ _ (T9.setTop (mkF m 8 #[.val (.ref a1), .val (.ref a2)] [(.ref a2)]))
  obtain ⟨T10, X10, e10, st10⟩ := castY X9 hx hZ hown (hw _ (List.mem_of_getElem? (i := 5) rfl)) e9 (Ins.self E2) (g := (mkF m 8 #[.val (.ref a1), .val (.ref a2)] [(.ref a2)])) rfl rfl (hb hby own_d6_8)
  refine own_to (fun t k => st10 t k) ?_
  show own_Fin _ _ _ _ _ _ (T10.setTop (mkF m 11 #[.val (.ref a1), .val (.ref a2)] [(.ref a2)]))
  obtain ⟨T11, X11, e11, st11⟩ := getF X10 hx hZ hown (host := "") (Or.inl (hw _ (List.mem_of_getElem? (i := 15) rfl))) Via.refl e10 F2 (g := (mkF m 11 #[.val (.ref a1), .val (.ref a2)] [(.ref a2)])) rfl rfl (hb hby own_d6_11)
  refine own_to (fun t k => st11 t k) ?_
  show own_Fin _ _ _ _ _ _ (T11.setTop (mkF m 14 #[.val (.ref a1), .val (.ref a2)] [(.int x2)]))
  refine own_to (fun t k => XS.aloadN X11.here hx rfl (hb hby own_d6_14) rfl rfl k) ?_
  show own_Fin _ _ _ _ _ _ (T11.setTop (mkF m 15 #[.val (.ref a1), .val (.ref a2)] [(.ref a1), (.int x2)]))
  obtain ⟨T12, X12, e12, st12⟩ := getF X11 hx hZ hown (host := "") (Or.inl (hw _ (List.mem_of_getElem? (i := 15) rfl))) Via.refl e11 F1 (g := (mkF m 15 #[.val (.ref a1), .val (.ref a2)] [(.ref a1), (.int x2)])) rfl rfl (hb hby own_d6_15)
  refine own_to (fun t k => st12 t k) ?_
  show own_Fin _ _ _ _ _ _ (T12.setTop (mkF m 18 #[.val (.ref a1), .val (.ref a2)] [(.int x1), (.int x2)]))
  by_cases hc18_13 : x2 = x1
  ·
    show own_Fin _ _ _ _ _ _ (T12.setTop (mkF m 18 #[.val (.ref a1), .val (.ref a2)] [(.int x1), (.int x2)]))
    refine own_to (fun t k => XS.icmpNo X12.here hx rfl (hb hby own_d6_18) rfl (teq hc18_13).2 k) ?_
    show own_Fin _ _ _ _ _ _ (T12.setTop (mkF m 21 #[.val (.ref a1), .val (.ref a2)] []))
    refine own_to (fun t k => XS.iconst X12.here hx rfl (hb hby own_d6_21) k) ?_
    show own_Fin _ _ _ _ _ _ (T12.setTop (mkF m 22 #[.val (.ref a1), .val (.ref a2)] [(.int (1 : Int32))]))
    refine own_to (fun t k => XS.goto X12.here hx rfl (pc0 := 22) (pc' := 26) rfl (hb hby own_d6_22) (by decide) (by decide) k) ?_
    show own_Fin _ _ _ _ _ _ (T12.setTop (mkF m 26 #[.val (.ref a1), .val (.ref a2)] [(.int (1 : Int32))]))
    refine own_retN X12 hx hlk (t := .boolean) hret (by simp) (hb hby own_d6_26) (by decide) (by decide) ?_
    try rw [e12]
    exact ⟨congrArg (fun z => some (Value.int z)) (Eq.symm (show own_equals x1 x2 = _ from ((if_pos hc18_13).trans rfl))), N0, rfl⟩
  ·
    show own_Fin _ _ _ _ _ _ (T12.setTop (mkF m 18 #[.val (.ref a1), .val (.ref a2)] [(.int x1), (.int x2)]))
    refine own_to (fun t k => XS.icmpYes X12.here hx rfl (pc0 := 18) (pc' := 25) rfl (hb hby own_d6_18) rfl (feq hc18_13).2 (by decide) (by decide) k) ?_
    show own_Fin _ _ _ _ _ _ (T12.setTop (mkF m 25 #[.val (.ref a1), .val (.ref a2)] []))
    refine own_to (fun t k => XS.iconst X12.here hx rfl (hb hby own_d6_25) k) ?_
    show own_Fin _ _ _ _ _ _ (T12.setTop (mkF m 26 #[.val (.ref a1), .val (.ref a2)] [(.int (0 : Int32))]))
    refine own_retN X12 hx hlk (t := .boolean) hret (by simp) (hb hby own_d6_26) (by decide) (by decide) ?_
    try rw [e12]
    exact ⟨congrArg (fun z => some (Value.int z)) (Eq.symm (show own_equals x1 x2 = _ from ((if_neg hc18_13).trans rfl))), N0, rfl⟩
def own_law (p1 : Int32) (p2 : Int32) : Int32 := (if (p1 &&& (16777215 : Int32)) = (0 : Int32) then (if (own_empty (p1 &&& (16777215 : Int32))) = (1 : Int32) then (if (own_equals (p1 &&& (16777215 : Int32)) (((p1 &&& (16777215 : Int32)) ||| (p2 <<< ((24 : Int32) &&& 31))) &&& (16777215 : Int32))) = (0 : Int32) then (0 : Int32) else (if (((p1 &&& (16777215 : Int32)) ||| (p2 <<< ((24 : Int32) &&& 31))) &&& (16777215 : Int32)) = (p1 &&& (16777215 : Int32)) then (1 : Int32) else (0 : Int32))) else (if (own_equals (p1 &&& (16777215 : Int32)) (((p1 &&& (16777215 : Int32)) ||| (p2 <<< ((24 : Int32) &&& 31))) &&& (16777215 : Int32))) = (0 : Int32) then (0 : Int32) else (if (((p1 &&& (16777215 : Int32)) ||| (p2 <<< ((24 : Int32) &&& 31))) &&& (16777215 : Int32)) = (p1 &&& (16777215 : Int32)) then (0 : Int32) else (0 : Int32)))) else (if (own_empty (p1 &&& (16777215 : Int32))) = (0 : Int32) then (if (own_equals (p1 &&& (16777215 : Int32)) (((p1 &&& (16777215 : Int32)) ||| (p2 <<< ((24 : Int32) &&& 31))) &&& (16777215 : Int32))) = (0 : Int32) then (0 : Int32) else (if (((p1 &&& (16777215 : Int32)) ||| (p2 <<< ((24 : Int32) &&& 31))) &&& (16777215 : Int32)) = (p1 &&& (16777215 : Int32)) then (1 : Int32) else (0 : Int32))) else (if (own_equals (p1 &&& (16777215 : Int32)) (((p1 &&& (16777215 : Int32)) ||| (p2 <<< ((24 : Int32) &&& 31))) &&& (16777215 : Int32))) = (0 : Int32) then (0 : Int32) else (if (((p1 &&& (16777215 : Int32)) ||| (p2 <<< ((24 : Int32) &&& 31))) &&& (16777215 : Int32)) = (p1 &&& (16777215 : Int32)) then (0 : Int32) else (0 : Int32)))))
theorem own_pn1 : plainName "com/example/inner_gate/innergate/PrivacySetFromMaskPinLaw" = true := by first | (simp [plainName, overriddenIn]; done) | decide +kernel
theorem own_pd2 : parseMethodDescriptor "(I)Lcom/example/inner_gate/innergate/PrivacySet;" = some ⟨[.int], some (.object "com/example/inner_gate/innergate/PrivacySet")⟩ := by decide +kernel
theorem own_pd3 : parseMethodDescriptor "()I" = some ⟨[], some .int⟩ := by decide +kernel
theorem own_pd4 : parseMethodDescriptor "()Z" = some ⟨[], some .boolean⟩ := by decide +kernel
theorem own_pd5 : parseMethodDescriptor "(Ljava/lang/Object;)Z" = some ⟨[(.object "java/lang/Object")], some .boolean⟩ := by decide +kernel
theorem own_rm0x_ef (m : MethodId) (p1 : Int32) (p2 : Int32) : entryFrame m #[(.int p1), (.int p2)] maxLocals = mkF m 0 #[.val (.int p1), .val (.int p2), .unset, .unset, .unset, .unset, .unset, .unset] [] := by first | (simp [entryFrame, mkF, argsToLocals, Value.category, maxLocals]; done) | rfl
set_option maxRecDepth 65536 in
set_option maxHeartbeats 40000000 in
theorem own_rm0x (l : Launch) (Z : State) (a0 : Array Value) (hw : ∀ d ∈ tables_1, d.before a0 Z = true) (ws : List Jvm.Cond) (p1 : Int32) (p2 : Int32) (h0 : Heap) (n0 : Nat) (Z0 : n0 ≤ h0.size) (O0 : Old Z n0 h0) (SS : Sta Z Z.heap "com/example/inner_gate/innergate/PrivacySet" "CATALOGUE_BITS" "I" (.int (16777215 : Int32))) :
    own_Met l Z x code maxLocals ret ws room_1 #[(.int p1), (.int p2)] h0 (fun v h L => v = some (.int (own_law p1 p2)) ∧ Fr n0 L) := by
  refine own_enter (plainFor_of_name own_pn1) ?_
  intro p e s m below meth c s₁ X0 hx hZ hby hml hown hnm hret hlk e0
  have N0 := Fr.nil n0
  rw [own_rm0x_ef m p1 p2]
  show own_Fin _ _ _ _ _ _ (s₁.setTop (mkF m 0 #[.val (.int p1), .val (.int p2), .unset, .unset, .unset, .unset, .unset, .unset] []))
  refine own_to (fun t k => XS.iloadN X0.here hx rfl (hb hby at_0) rfl k) ?_
  show own_Fin _ _ _ _ _ _ (s₁.setTop (mkF m 1 #[.val (.int p1), .val (.int p2), .unset, .unset, .unset, .unset, .unset, .unset] [(.int p1)]))
  refine own_to (fun t k => X0.ldcInt hx hown (mvT hZ (hw _ (List.mem_of_getElem? (i := 0) rfl))) (g := (mkF m 1 #[.val (.int p1), .val (.int p2), .unset, .unset, .unset, .unset, .unset, .unset] [(.int p1)])) rfl (hb hby at_1) _ k) ?_
  show own_Fin _ _ _ _ _ _ (s₁.setTop (mkF m 3 #[.val (.int p1), .val (.int p2), .unset, .unset, .unset, .unset, .unset, .unset] [(.int (16777215 : Int32)), (.int p1)]))
  refine own_to (fun t k => XS.iand X0.here hx rfl (hb hby at_3) rfl k) ?_
  show own_Fin _ _ _ _ _ _ (s₁.setTop (mkF m 4 #[.val (.int p1), .val (.int p2), .unset, .unset, .unset, .unset, .unset, .unset] [(.int (p1 &&& (16777215 : Int32)))]))
  refine own_to (fun t k => XS.istoreN X0.here hx rfl (hb hby at_4) rfl (l' := #[.val (.int p1), .val (.int p2), .val (.int (p1 &&& (16777215 : Int32))), .unset, .unset, .unset, .unset, .unset]) rfl k) ?_
  show own_Fin _ _ _ _ _ _ (s₁.setTop (mkF m 5 #[.val (.int p1), .val (.int p2), .val (.int (p1 &&& (16777215 : Int32))), .unset, .unset, .unset, .unset, .unset] []))
  refine own_to (fun t k => XS.iloadN X0.here hx rfl (hb hby at_5) rfl k) ?_
  show own_Fin _ _ _ _ _ _ (s₁.setTop (mkF m 6 #[.val (.int p1), .val (.int p2), .val (.int (p1 &&& (16777215 : Int32))), .unset, .unset, .unset, .unset, .unset] [(.int p1)]))
  obtain ⟨_, _, ⟨T14, L14, k14, n14⟩, -, X14, ⟨Lc14, hQ14, l14, y14, z14⟩, st14⟩ := Jvm.LawKit.callS X0 hx (y := (⟨"com/example/inner_gate/innergate/PrivacySet", "fromMask", "(I)Lcom/example/inner_gate/innergate/PrivacySet;"⟩ : MethodName)) hown (mvT hZ (hw _ (List.mem_of_getElem? (i := 1) rfl))) (mvT hZ (hw _ (List.mem_of_getElem? (i := 2) rfl))) (mvT hZ (hw _ (List.mem_of_getElem? (i := 3) rfl))) (mvT hZ (hw _ (List.mem_of_getElem? (i := 4) rfl))) (by decide) (own_back (W := 0) (own_rm1 l Z a0 hw [] p1 h0 n0 Z0 O0 SS) hZ (hw _ (List.mem_of_getElem? (i := 4) rfl)) (hw _ (List.mem_of_getElem? (i := 3) rfl)) (by decide) (by decide)) (g := (mkF m 6 #[.val (.int p1), .val (.int p2), .val (.int (p1 &&& (16777215 : Int32))), .unset, .unset, .unset, .unset, .unset] [(.int p1)])) rfl (by rw [hml]; rfl) (argsL := [(.int p1)]) (rest := []) (lenOf own_pd2 rfl) rfl (by show 2 * 0 + _ ≤ _; exact Nat.le_of_eq rfl) (hb hby at_6) (fun _ _ => ⟨rfl, e0, (by decide : 0 + 1 ≤ _), (by decide : 0 + 1 ≤ _)⟩)
  dsimp only [Pt.U, Pt.locs, Pt.cells, Pt.slots] at X14 l14 y14 z14 st14 hQ14
  subst l14 y14 z14
  obtain ⟨ba, rfl, N14q, K14, g_ba, szx_ba, E_ba, F_ba⟩ := hQ14
  have N14 := Fr.app N0 N14q
  have O14 := O0.keep K14 all0
  refine own_to (fun t k => st14 t k) ?_
  show own_Fin _ _ _ _ _ _ (T14.setTop (mkF m 9 #[.val (.int p1), .val (.int p2), .val (.int (p1 &&& (16777215 : Int32))), .unset, .unset, .unset, .unset, .unset] [(.ref ba)]))
  refine own_to (fun t k => XS.astoreN X14.here hx rfl (hb hby at_9) rfl rfl (l' := #[.val (.int p1), .val (.int p2), .val (.int (p1 &&& (16777215 : Int32))), .val (.ref ba), .unset, .unset, .unset, .unset]) rfl k) ?_
  show own_Fin _ _ _ _ _ _ (T14.setTop (mkF m 10 #[.val (.int p1), .val (.int p2), .val (.int (p1 &&& (16777215 : Int32))), .val (.ref ba), .unset, .unset, .unset, .unset] []))
  refine own_to (fun t k => XS.iloadN X14.here hx rfl (hb hby at_10) rfl k) ?_
  show own_Fin _ _ _ _ _ _ (T14.setTop (mkF m 11 #[.val (.int p1), .val (.int p2), .val (.int (p1 &&& (16777215 : Int32))), .val (.ref ba), .unset, .unset, .unset, .unset] [(.int (p1 &&& (16777215 : Int32)))]))
  refine own_to (fun t k => XS.iloadN X14.here hx rfl (hb hby at_11) rfl k) ?_
  show own_Fin _ _ _ _ _ _ (T14.setTop (mkF m 12 #[.val (.int p1), .val (.int p2), .val (.int (p1 &&& (16777215 : Int32))), .val (.ref ba), .unset, .unset, .unset, .unset] [(.int p2), (.int (p1 &&& (16777215 : Int32)))]))
  refine own_to (fun t k => XS.bipush X14.here hx rfl (hb hby at_12) k) ?_
  show own_Fin _ _ _ _ _ _ (T14.setTop (mkF m 14 #[.val (.int p1), .val (.int p2), .val (.int (p1 &&& (16777215 : Int32))), .val (.ref ba), .unset, .unset, .unset, .unset] [(.int (24 : Int32)), (.int p2), (.int (p1 &&& (16777215 : Int32)))]))
  refine own_to (fun t k => XS.ishl X14.here hx rfl (hb hby at_14) rfl k) ?_
  show own_Fin _ _ _ _ _ _ (T14.setTop (mkF m 15 #[.val (.int p1), .val (.int p2), .val (.int (p1 &&& (16777215 : Int32))), .val (.ref ba), .unset, .unset, .unset, .unset] [(.int (p2 <<< ((24 : Int32) &&& 31))), (.int (p1 &&& (16777215 : Int32)))]))
  refine own_to (fun t k => XS.ior X14.here hx rfl (hb hby at_15) rfl k) ?_
  show own_Fin _ _ _ _ _ _ (T14.setTop (mkF m 16 #[.val (.int p1), .val (.int p2), .val (.int (p1 &&& (16777215 : Int32))), .val (.ref ba), .unset, .unset, .unset, .unset] [(.int ((p1 &&& (16777215 : Int32)) ||| (p2 <<< ((24 : Int32) &&& 31))))]))
  obtain ⟨_, _, ⟨T15, L15, k15, n15⟩, -, X15, ⟨Lc15, hQ15, l15, y15, z15⟩, st15⟩ := Jvm.LawKit.callS X14 hx (y := (⟨"com/example/inner_gate/innergate/PrivacySet", "fromMask", "(I)Lcom/example/inner_gate/innergate/PrivacySet;"⟩ : MethodName)) hown (mvT hZ (hw _ (List.mem_of_getElem? (i := 1) rfl))) (mvT hZ (hw _ (List.mem_of_getElem? (i := 2) rfl))) (mvT hZ (hw _ (List.mem_of_getElem? (i := 3) rfl))) (mvT hZ (hw _ (List.mem_of_getElem? (i := 4) rfl))) (by decide) (own_back (W := 0) (own_rm1 l Z a0 hw [] ((p1 &&& (16777215 : Int32)) ||| (p2 <<< ((24 : Int32) &&& 31))) T14.heap n0 (Nat.le_trans Z0 K14.1) O14 SS) hZ (hw _ (List.mem_of_getElem? (i := 4) rfl)) (hw _ (List.mem_of_getElem? (i := 3) rfl)) (by decide) (by decide)) (g := (mkF m 16 #[.val (.int p1), .val (.int p2), .val (.int (p1 &&& (16777215 : Int32))), .val (.ref ba), .unset, .unset, .unset, .unset] [(.int ((p1 &&& (16777215 : Int32)) ||| (p2 <<< ((24 : Int32) &&& 31))))])) rfl (by rw [hml]; rfl) (argsL := [(.int ((p1 &&& (16777215 : Int32)) ||| (p2 <<< ((24 : Int32) &&& 31))))]) (rest := []) (lenOf own_pd2 rfl) rfl (by show 2 * 0 + _ ≤ _; exact Nat.le_of_eq rfl) (hb hby at_16) (fun _ _ => ⟨rfl, rfl, (by decide : 1 + 1 ≤ _), (by decide : 1 + 1 ≤ _)⟩)
  dsimp only [Pt.U, Pt.locs, Pt.cells, Pt.slots] at X15 l15 y15 z15 st15 hQ15
  subst l15 y15 z15
  obtain ⟨bb, rfl, N15q, K15, g_bb, szx_bb, E_bb, F_bb⟩ := hQ15
  have N15 := Fr.app N14 N15q
  have ne_ba_bb : ba ≠ bb := Nat.ne_of_lt (Nat.lt_of_lt_of_le E_ba.lt szx_bb)
  have O15 := O14.keep K15 all0
  have E_ba_e15 := E_ba.keep K15
  have F_ba_e15 := F_ba.keep K15 nin0
  refine own_to (fun t k => st15 t k) ?_
  show own_Fin _ _ _ _ _ _ (T15.setTop (mkF m 19 #[.val (.int p1), .val (.int p2), .val (.int (p1 &&& (16777215 : Int32))), .val (.ref ba), .unset, .unset, .unset, .unset] [(.ref bb)]))
  refine own_to (fun t k => XS.astore X15.here hx rfl (hb hby at_19) rfl rfl (l' := #[.val (.int p1), .val (.int p2), .val (.int (p1 &&& (16777215 : Int32))), .val (.ref ba), .val (.ref bb), .unset, .unset, .unset]) rfl k) ?_
  show own_Fin _ _ _ _ _ _ (T15.setTop (mkF m 21 #[.val (.int p1), .val (.int p2), .val (.int (p1 &&& (16777215 : Int32))), .val (.ref ba), .val (.ref bb), .unset, .unset, .unset] []))
  refine own_to (fun t k => XS.aloadN X15.here hx rfl (hb hby at_21) rfl rfl k) ?_
  show own_Fin _ _ _ _ _ _ (T15.setTop (mkF m 22 #[.val (.int p1), .val (.int p2), .val (.int (p1 &&& (16777215 : Int32))), .val (.ref ba), .val (.ref bb), .unset, .unset, .unset] [(.ref ba)]))
  obtain ⟨cq16, kq16, q16a, q16b, q16c⟩ := isOf hZ rfl E_ba_e15
  obtain ⟨_, _, ⟨T16, L16, k16, n16⟩, -, X16, ⟨Lc16, hQ16, l16, y16, z16⟩, st16⟩ := X15.virtualBack hx (y := (⟨"com/example/inner_gate/innergate/PrivacySet", "mask", "()I"⟩ : MethodName)) (z := (⟨"com/example/inner_gate/innergate/PrivacySet", "mask", "()I"⟩ : MethodName)) hown (mvT hZ (hw _ (List.mem_of_getElem? (i := 17) rfl))) (mvT hZ (hw _ (List.mem_of_getElem? (i := 18) rfl))) (notFace_of_selects (args := #[]) (mvT hZ (hw _ (List.mem_of_getElem? (i := 20) rfl)))) (mvT hZ (hw _ (List.mem_of_getElem? (i := 20) rfl))) (mvT hZ (hw _ (List.mem_of_getElem? (i := 19) rfl))) (by decide) (own_back (W := 0) (own_rm4 l Z a0 hw [] ba (p1 &&& (16777215 : Int32)) T15.heap n0 (Nat.le_trans (Nat.le_trans Z0 K14.1) K15.1) F_ba_e15) hZ (hw _ (List.mem_of_getElem? (i := 21) rfl)) (hw _ (List.mem_of_getElem? (i := 3) rfl)) (by decide) (by decide)) q16a q16c (g := (mkF m 22 #[.val (.int p1), .val (.int p2), .val (.int (p1 &&& (16777215 : Int32))), .val (.ref ba), .val (.ref bb), .unset, .unset, .unset] [(.ref ba)])) rfl (by rw [hml]; rfl) (Steps.refl _) (argsL := []) (rest := []) (lenOf own_pd3 rfl) rfl (by show 2 * 0 + _ ≤ _; exact Nat.le_of_eq rfl) (hb hby at_22) (fun _ _ => ⟨rfl, rfl, (by decide : 2 + 0 ≤ _), (by decide : 2 + 0 ≤ _)⟩)
  dsimp only [Pt.U, Pt.locs, Pt.cells, Pt.slots] at X16 l16 y16 z16 st16 hQ16
  subst l16 y16 z16
  obtain ⟨rfl, N16q, eh16⟩ := hQ16
  have N16 := Fr.app N15 N16q
  refine own_to (fun t k => st16.trans k) ?_
  show own_Fin _ _ _ _ _ _ (T16.setTop (mkF m 25 #[.val (.int p1), .val (.int p2), .val (.int (p1 &&& (16777215 : Int32))), .val (.ref ba), .val (.ref bb), .unset, .unset, .unset] [(.int (p1 &&& (16777215 : Int32)))]))
  refine own_to (fun t k => XS.iloadN X16.here hx rfl (hb hby at_25) rfl k) ?_
  show own_Fin _ _ _ _ _ _ (T16.setTop (mkF m 26 #[.val (.int p1), .val (.int p2), .val (.int (p1 &&& (16777215 : Int32))), .val (.ref ba), .val (.ref bb), .unset, .unset, .unset] [(.int (p1 &&& (16777215 : Int32))), (.int (p1 &&& (16777215 : Int32)))]))
  refine own_to (fun t k => XS.icmpNo X16.here hx rfl (hb hby at_26) rfl (teq rfl).2 k) ?_
  show own_Fin _ _ _ _ _ _ (T16.setTop (mkF m 29 #[.val (.int p1), .val (.int p2), .val (.int (p1 &&& (16777215 : Int32))), .val (.ref ba), .val (.ref bb), .unset, .unset, .unset] []))
  refine own_to (fun t k => XS.iconst X16.here hx rfl (hb hby at_29) k) ?_
  show own_Fin _ _ _ _ _ _ (T16.setTop (mkF m 30 #[.val (.int p1), .val (.int p2), .val (.int (p1 &&& (16777215 : Int32))), .val (.ref ba), .val (.ref bb), .unset, .unset, .unset] [(.int (1 : Int32))]))
  refine own_to (fun t k => XS.goto X16.here hx rfl (pc0 := 30) (pc' := 34) rfl (hb hby at_30) (by decide) (by decide) k) ?_
  show own_Fin _ _ _ _ _ _ (T16.setTop (mkF m 34 #[.val (.int p1), .val (.int p2), .val (.int (p1 &&& (16777215 : Int32))), .val (.ref ba), .val (.ref bb), .unset, .unset, .unset] [(.int (1 : Int32))]))
  refine own_to (fun t k => XS.istore X16.here hx rfl (hb hby at_34) rfl (l' := #[.val (.int p1), .val (.int p2), .val (.int (p1 &&& (16777215 : Int32))), .val (.ref ba), .val (.ref bb), .val (.int (1 : Int32)), .unset, .unset]) rfl k) ?_
  show own_Fin _ _ _ _ _ _ (T16.setTop (mkF m 36 #[.val (.int p1), .val (.int p2), .val (.int (p1 &&& (16777215 : Int32))), .val (.ref ba), .val (.ref bb), .val (.int (1 : Int32)), .unset, .unset] []))
  refine own_to (fun t k => XS.aloadN X16.here hx rfl (hb hby at_36) rfl rfl k) ?_
  show own_Fin _ _ _ _ _ _ (T16.setTop (mkF m 37 #[.val (.int p1), .val (.int p2), .val (.int (p1 &&& (16777215 : Int32))), .val (.ref ba), .val (.ref bb), .val (.int (1 : Int32)), .unset, .unset] [(.ref ba)]))
  obtain ⟨cq17, kq17, q17a, q17b, q17c⟩ := isOf hZ eh16 E_ba_e15
  obtain ⟨_, _, ⟨T17, L17, k17, n17⟩, -, X17, ⟨Lc17, hQ17, l17, y17, z17⟩, st17⟩ := X16.virtualBack hx (y := (⟨"com/example/inner_gate/innergate/PrivacySet", "isEmpty", "()Z"⟩ : MethodName)) (z := (⟨"com/example/inner_gate/innergate/PrivacySet", "isEmpty", "()Z"⟩ : MethodName)) hown (mvT hZ (hw _ (List.mem_of_getElem? (i := 22) rfl))) (mvT hZ (hw _ (List.mem_of_getElem? (i := 23) rfl))) (notFace_of_selects (args := #[]) (mvT hZ (hw _ (List.mem_of_getElem? (i := 25) rfl)))) (mvT hZ (hw _ (List.mem_of_getElem? (i := 25) rfl))) (mvT hZ (hw _ (List.mem_of_getElem? (i := 24) rfl))) (by decide) (own_back (W := 0) (own_rm5 l Z a0 hw [] ba (p1 &&& (16777215 : Int32)) T15.heap n0 (Nat.le_trans (Nat.le_trans Z0 K14.1) K15.1) F_ba_e15) hZ (hw _ (List.mem_of_getElem? (i := 26) rfl)) (hw _ (List.mem_of_getElem? (i := 3) rfl)) (by decide) (by decide)) q17a q17c (g := (mkF m 37 #[.val (.int p1), .val (.int p2), .val (.int (p1 &&& (16777215 : Int32))), .val (.ref ba), .val (.ref bb), .val (.int (1 : Int32)), .unset, .unset] [(.ref ba)])) rfl (by rw [hml]; rfl) (Steps.refl _) (argsL := []) (rest := []) (lenOf own_pd4 rfl) rfl (by show 2 * 0 + _ ≤ _; exact Nat.le_of_eq rfl) (hb hby at_37) (fun _ _ => ⟨rfl, eh16, (by decide : 2 + 0 ≤ _), (by decide : 2 + 0 ≤ _)⟩)
  dsimp only [Pt.U, Pt.locs, Pt.cells, Pt.slots] at X17 l17 y17 z17 st17 hQ17
  subst l17 y17 z17
  obtain ⟨rfl, N17q, eh17⟩ := hQ17
  have N17 := Fr.app N16 N17q
  refine own_to (fun t k => st17.trans k) ?_
  show own_Fin _ _ _ _ _ _ (T17.setTop (mkF m 40 #[.val (.int p1), .val (.int p2), .val (.int (p1 &&& (16777215 : Int32))), .val (.ref ba), .val (.ref bb), .val (.int (1 : Int32)), .unset, .unset] [(.int (own_empty (p1 &&& (16777215 : Int32))))]))
  refine own_to (fun t k => XS.iloadN X17.here hx rfl (hb hby at_40) rfl k) ?_
  show own_Fin _ _ _ _ _ _ (T17.setTop (mkF m 41 #[.val (.int p1), .val (.int p2), .val (.int (p1 &&& (16777215 : Int32))), .val (.ref ba), .val (.ref bb), .val (.int (1 : Int32)), .unset, .unset] [(.int (p1 &&& (16777215 : Int32))), (.int (own_empty (p1 &&& (16777215 : Int32))))]))
  by_cases hc41_18 : (p1 &&& (16777215 : Int32)) = (0 : Int32)
  ·
    show own_Fin _ _ _ _ _ _ (T17.setTop (mkF m 41 #[.val (.int p1), .val (.int p2), .val (.int (p1 &&& (16777215 : Int32))), .val (.ref ba), .val (.ref bb), .val (.int (1 : Int32)), .unset, .unset] [(.int (p1 &&& (16777215 : Int32))), (.int (own_empty (p1 &&& (16777215 : Int32))))]))
    refine own_to (fun t k => XS.ifNo X17.here hx rfl (hb hby at_41) rfl ((if0 _ _).trans (teq hc41_18).2) k) ?_
    show own_Fin _ _ _ _ _ _ (T17.setTop (mkF m 44 #[.val (.int p1), .val (.int p2), .val (.int (p1 &&& (16777215 : Int32))), .val (.ref ba), .val (.ref bb), .val (.int (1 : Int32)), .unset, .unset] [(.int (own_empty (p1 &&& (16777215 : Int32))))]))
    refine own_to (fun t k => XS.iconst X17.here hx rfl (hb hby at_44) k) ?_
    show own_Fin _ _ _ _ _ _ (T17.setTop (mkF m 45 #[.val (.int p1), .val (.int p2), .val (.int (p1 &&& (16777215 : Int32))), .val (.ref ba), .val (.ref bb), .val (.int (1 : Int32)), .unset, .unset] [(.int (1 : Int32)), (.int (own_empty (p1 &&& (16777215 : Int32))))]))
    refine own_to (fun t k => XS.goto X17.here hx rfl (pc0 := 45) (pc' := 49) rfl (hb hby at_45) (by decide) (by decide) k) ?_
    show own_Fin _ _ _ _ _ _ (T17.setTop (mkF m 49 #[.val (.int p1), .val (.int p2), .val (.int (p1 &&& (16777215 : Int32))), .val (.ref ba), .val (.ref bb), .val (.int (1 : Int32)), .unset, .unset] [(.int (1 : Int32)), (.int (own_empty (p1 &&& (16777215 : Int32))))]))
    by_cases hc49_19 : (own_empty (p1 &&& (16777215 : Int32))) = (1 : Int32)
    ·
      show own_Fin _ _ _ _ _ _ (T17.setTop (mkF m 49 #[.val (.int p1), .val (.int p2), .val (.int (p1 &&& (16777215 : Int32))), .val (.ref ba), .val (.ref bb), .val (.int (1 : Int32)), .unset, .unset] [(.int (1 : Int32)), (.int (own_empty (p1 &&& (16777215 : Int32))))]))
      refine own_to (fun t k => XS.icmpNo X17.here hx rfl (hb hby at_49) rfl (teq hc49_19).2 k) ?_
      show own_Fin _ _ _ _ _ _ (T17.setTop (mkF m 52 #[.val (.int p1), .val (.int p2), .val (.int (p1 &&& (16777215 : Int32))), .val (.ref ba), .val (.ref bb), .val (.int (1 : Int32)), .unset, .unset] []))
      refine own_to (fun t k => XS.iconst X17.here hx rfl (hb hby at_52) k) ?_
      show own_Fin _ _ _ _ _ _ (T17.setTop (mkF m 53 #[.val (.int p1), .val (.int p2), .val (.int (p1 &&& (16777215 : Int32))), .val (.ref ba), .val (.ref bb), .val (.int (1 : Int32)), .unset, .unset] [(.int (1 : Int32))]))
      refine own_to (fun t k => XS.goto X17.here hx rfl (pc0 := 53) (pc' := 57) rfl (hb hby at_53) (by decide) (by decide) k) ?_
      show own_Fin _ _ _ _ _ _ (T17.setTop (mkF m 57 #[.val (.int p1), .val (.int p2), .val (.int (p1 &&& (16777215 : Int32))), .val (.ref ba), .val (.ref bb), .val (.int (1 : Int32)), .unset, .unset] [(.int (1 : Int32))]))
      refine own_to (fun t k => XS.istore X17.here hx rfl (hb hby at_57) rfl (l' := #[.val (.int p1), .val (.int p2), .val (.int (p1 &&& (16777215 : Int32))), .val (.ref ba), .val (.ref bb), .val (.int (1 : Int32)), .val (.int (1 : Int32)), .unset]) rfl k) ?_
      show own_Fin _ _ _ _ _ _ (T17.setTop (mkF m 59 #[.val (.int p1), .val (.int p2), .val (.int (p1 &&& (16777215 : Int32))), .val (.ref ba), .val (.ref bb), .val (.int (1 : Int32)), .val (.int (1 : Int32)), .unset] []))
      refine own_to (fun t k => XS.aloadN X17.here hx rfl (hb hby at_59) rfl rfl k) ?_
      show own_Fin _ _ _ _ _ _ (T17.setTop (mkF m 60 #[.val (.int p1), .val (.int p2), .val (.int (p1 &&& (16777215 : Int32))), .val (.ref ba), .val (.ref bb), .val (.int (1 : Int32)), .val (.int (1 : Int32)), .unset] [(.ref ba)]))
      refine own_to (fun t k => XS.aload X17.here hx rfl (hb hby at_60) rfl rfl k) ?_
      show own_Fin _ _ _ _ _ _ (T17.setTop (mkF m 62 #[.val (.int p1), .val (.int p2), .val (.int (p1 &&& (16777215 : Int32))), .val (.ref ba), .val (.ref bb), .val (.int (1 : Int32)), .val (.int (1 : Int32)), .unset] [(.ref bb), (.ref ba)]))
      obtain ⟨cq20, kq20, q20a, q20b, q20c⟩ := isOf hZ eh17 E_ba_e15
      obtain ⟨_, _, ⟨T20, L20, k20, n20⟩, -, X20, ⟨Lc20, hQ20, l20, y20, z20⟩, st20⟩ := X17.virtualBack hx (y := (⟨"com/example/inner_gate/innergate/PrivacySet", "equals", "(Ljava/lang/Object;)Z"⟩ : MethodName)) (z := (⟨"com/example/inner_gate/innergate/PrivacySet", "equals", "(Ljava/lang/Object;)Z"⟩ : MethodName)) hown (mvT hZ (hw _ (List.mem_of_getElem? (i := 27) rfl))) (mvT hZ (hw _ (List.mem_of_getElem? (i := 28) rfl))) (notFace_of_selects (args := #[]) (mvT hZ (hw _ (List.mem_of_getElem? (i := 30) rfl)))) (mvT hZ (hw _ (List.mem_of_getElem? (i := 30) rfl))) (mvT hZ (hw _ (List.mem_of_getElem? (i := 29) rfl))) (by decide) (own_back (W := 0) (own_rm6 l Z a0 hw [] ba bb (p1 &&& (16777215 : Int32)) (((p1 &&& (16777215 : Int32)) ||| (p2 <<< ((24 : Int32) &&& 31))) &&& (16777215 : Int32)) T15.heap n0 (Nat.le_trans (Nat.le_trans Z0 K14.1) K15.1) F_ba_e15 F_bb E_bb) hZ (hw _ (List.mem_of_getElem? (i := 31) rfl)) (hw _ (List.mem_of_getElem? (i := 3) rfl)) (by decide) (by decide)) q20a q20c (g := (mkF m 62 #[.val (.int p1), .val (.int p2), .val (.int (p1 &&& (16777215 : Int32))), .val (.ref ba), .val (.ref bb), .val (.int (1 : Int32)), .val (.int (1 : Int32)), .unset] [(.ref bb), (.ref ba)])) rfl (by rw [hml]; rfl) (Steps.refl _) (argsL := [(.ref bb)]) (rest := []) (lenOf own_pd5 rfl) rfl (by show 2 * 0 + _ ≤ _; exact Nat.le_of_eq rfl) (hb hby at_62) (fun _ _ => ⟨rfl, eh17, (by decide : 2 + 0 ≤ _), (by decide : 2 + 0 ≤ _)⟩)
      dsimp only [Pt.U, Pt.locs, Pt.cells, Pt.slots] at X20 l20 y20 z20 st20 hQ20
      subst l20 y20 z20
      obtain ⟨rfl, N20q, eh20⟩ := hQ20
      have N20 := Fr.app N17 N20q
      refine own_to (fun t k => st20.trans k) ?_
      show own_Fin _ _ _ _ _ _ (T20.setTop (mkF m 65 #[.val (.int p1), .val (.int p2), .val (.int (p1 &&& (16777215 : Int32))), .val (.ref ba), .val (.ref bb), .val (.int (1 : Int32)), .val (.int (1 : Int32)), .unset] [(.int (own_equals (p1 &&& (16777215 : Int32)) (((p1 &&& (16777215 : Int32)) ||| (p2 <<< ((24 : Int32) &&& 31))) &&& (16777215 : Int32))))]))
      by_cases hc65_21 : (own_equals (p1 &&& (16777215 : Int32)) (((p1 &&& (16777215 : Int32)) ||| (p2 <<< ((24 : Int32) &&& 31))) &&& (16777215 : Int32))) = (0 : Int32)
      ·
        show own_Fin _ _ _ _ _ _ (T20.setTop (mkF m 65 #[.val (.int p1), .val (.int p2), .val (.int (p1 &&& (16777215 : Int32))), .val (.ref ba), .val (.ref bb), .val (.int (1 : Int32)), .val (.int (1 : Int32)), .unset] [(.int (own_equals (p1 &&& (16777215 : Int32)) (((p1 &&& (16777215 : Int32)) ||| (p2 <<< ((24 : Int32) &&& 31))) &&& (16777215 : Int32))))]))
        refine own_to (fun t k => XS.ifYes X20.here hx rfl (pc0 := 65) (pc' := 81) rfl (hb hby at_65) rfl ((if0 _ _).trans (teq hc65_21).1) (by decide) (by decide) k) ?_
        show own_Fin _ _ _ _ _ _ (T20.setTop (mkF m 81 #[.val (.int p1), .val (.int p2), .val (.int (p1 &&& (16777215 : Int32))), .val (.ref ba), .val (.ref bb), .val (.int (1 : Int32)), .val (.int (1 : Int32)), .unset] []))
        refine own_to (fun t k => XS.iconst X20.here hx rfl (hb hby at_81) k) ?_
        show own_Fin _ _ _ _ _ _ (T20.setTop (mkF m 82 #[.val (.int p1), .val (.int p2), .val (.int (p1 &&& (16777215 : Int32))), .val (.ref ba), .val (.ref bb), .val (.int (1 : Int32)), .val (.int (1 : Int32)), .unset] [(.int (0 : Int32))]))
        refine own_to (fun t k => XS.istore X20.here hx rfl (hb hby at_82) rfl (l' := #[.val (.int p1), .val (.int p2), .val (.int (p1 &&& (16777215 : Int32))), .val (.ref ba), .val (.ref bb), .val (.int (1 : Int32)), .val (.int (1 : Int32)), .val (.int (0 : Int32))]) rfl k) ?_
        show own_Fin _ _ _ _ _ _ (T20.setTop (mkF m 84 #[.val (.int p1), .val (.int p2), .val (.int (p1 &&& (16777215 : Int32))), .val (.ref ba), .val (.ref bb), .val (.int (1 : Int32)), .val (.int (1 : Int32)), .val (.int (0 : Int32))] []))
        refine own_to (fun t k => XS.iload X20.here hx rfl (hb hby at_84) rfl k) ?_
        show own_Fin _ _ _ _ _ _ (T20.setTop (mkF m 86 #[.val (.int p1), .val (.int p2), .val (.int (p1 &&& (16777215 : Int32))), .val (.ref ba), .val (.ref bb), .val (.int (1 : Int32)), .val (.int (1 : Int32)), .val (.int (0 : Int32))] [(.int (1 : Int32))]))
        refine own_to (fun t k => XS.ifNo X20.here hx rfl (hb hby at_86) rfl ((if0 _ _).trans (feq (by decide)).1) k) ?_
        show own_Fin _ _ _ _ _ _ (T20.setTop (mkF m 89 #[.val (.int p1), .val (.int p2), .val (.int (p1 &&& (16777215 : Int32))), .val (.ref ba), .val (.ref bb), .val (.int (1 : Int32)), .val (.int (1 : Int32)), .val (.int (0 : Int32))] []))
        refine own_to (fun t k => XS.iload X20.here hx rfl (hb hby at_89) rfl k) ?_
        show own_Fin _ _ _ _ _ _ (T20.setTop (mkF m 91 #[.val (.int p1), .val (.int p2), .val (.int (p1 &&& (16777215 : Int32))), .val (.ref ba), .val (.ref bb), .val (.int (1 : Int32)), .val (.int (1 : Int32)), .val (.int (0 : Int32))] [(.int (1 : Int32))]))
        refine own_to (fun t k => XS.ifNo X20.here hx rfl (hb hby at_91) rfl ((if0 _ _).trans (feq (by decide)).1) k) ?_
        show own_Fin _ _ _ _ _ _ (T20.setTop (mkF m 94 #[.val (.int p1), .val (.int p2), .val (.int (p1 &&& (16777215 : Int32))), .val (.ref ba), .val (.ref bb), .val (.int (1 : Int32)), .val (.int (1 : Int32)), .val (.int (0 : Int32))] []))
        refine own_to (fun t k => XS.iload X20.here hx rfl (hb hby at_94) rfl k) ?_
        show own_Fin _ _ _ _ _ _ (T20.setTop (mkF m 96 #[.val (.int p1), .val (.int p2), .val (.int (p1 &&& (16777215 : Int32))), .val (.ref ba), .val (.ref bb), .val (.int (1 : Int32)), .val (.int (1 : Int32)), .val (.int (0 : Int32))] [(.int (0 : Int32))]))
        refine own_to (fun t k => XS.ifYes X20.here hx rfl (pc0 := 96) (pc' := 103) rfl (hb hby at_96) rfl ((if0 _ _).trans (teq rfl).1) (by decide) (by decide) k) ?_
        show own_Fin _ _ _ _ _ _ (T20.setTop (mkF m 103 #[.val (.int p1), .val (.int p2), .val (.int (p1 &&& (16777215 : Int32))), .val (.ref ba), .val (.ref bb), .val (.int (1 : Int32)), .val (.int (1 : Int32)), .val (.int (0 : Int32))] []))
        refine own_to (fun t k => XS.iconst X20.here hx rfl (hb hby at_103) k) ?_
        show own_Fin _ _ _ _ _ _ (T20.setTop (mkF m 104 #[.val (.int p1), .val (.int p2), .val (.int (p1 &&& (16777215 : Int32))), .val (.ref ba), .val (.ref bb), .val (.int (1 : Int32)), .val (.int (1 : Int32)), .val (.int (0 : Int32))] [(.int (0 : Int32))]))
        refine own_retN X20 hx hlk (t := .boolean) hret (by simp) (hb hby at_104) (by decide) (by decide) ?_
        try rw [eh20]
        exact ⟨congrArg (fun z => some (Value.int z)) (Eq.symm (show own_law p1 p2 = _ from ((if_pos hc41_18).trans ((if_pos hc49_19).trans ((if_pos hc65_21).trans rfl))))), N20⟩
      ·
        show own_Fin _ _ _ _ _ _ (T20.setTop (mkF m 65 #[.val (.int p1), .val (.int p2), .val (.int (p1 &&& (16777215 : Int32))), .val (.ref ba), .val (.ref bb), .val (.int (1 : Int32)), .val (.int (1 : Int32)), .unset] [(.int (own_equals (p1 &&& (16777215 : Int32)) (((p1 &&& (16777215 : Int32)) ||| (p2 <<< ((24 : Int32) &&& 31))) &&& (16777215 : Int32))))]))
        refine own_to (fun t k => XS.ifNo X20.here hx rfl (hb hby at_65) rfl ((if0 _ _).trans (feq hc65_21).1) k) ?_
        show own_Fin _ _ _ _ _ _ (T20.setTop (mkF m 68 #[.val (.int p1), .val (.int p2), .val (.int (p1 &&& (16777215 : Int32))), .val (.ref ba), .val (.ref bb), .val (.int (1 : Int32)), .val (.int (1 : Int32)), .unset] []))
        refine own_to (fun t k => XS.aload X20.here hx rfl (hb hby at_68) rfl rfl k) ?_
        show own_Fin _ _ _ _ _ _ (T20.setTop (mkF m 70 #[.val (.int p1), .val (.int p2), .val (.int (p1 &&& (16777215 : Int32))), .val (.ref ba), .val (.ref bb), .val (.int (1 : Int32)), .val (.int (1 : Int32)), .unset] [(.ref bb)]))
        obtain ⟨cq22, kq22, q22a, q22b, q22c⟩ := isOf hZ eh20 E_bb
        obtain ⟨_, _, ⟨T22, L22, k22, n22⟩, -, X22, ⟨Lc22, hQ22, l22, y22, z22⟩, st22⟩ := X20.virtualBack hx (y := (⟨"com/example/inner_gate/innergate/PrivacySet", "mask", "()I"⟩ : MethodName)) (z := (⟨"com/example/inner_gate/innergate/PrivacySet", "mask", "()I"⟩ : MethodName)) hown (mvT hZ (hw _ (List.mem_of_getElem? (i := 17) rfl))) (mvT hZ (hw _ (List.mem_of_getElem? (i := 18) rfl))) (notFace_of_selects (args := #[]) (mvT hZ (hw _ (List.mem_of_getElem? (i := 20) rfl)))) (mvT hZ (hw _ (List.mem_of_getElem? (i := 20) rfl))) (mvT hZ (hw _ (List.mem_of_getElem? (i := 19) rfl))) (by decide) (own_back (W := 0) (own_rm4 l Z a0 hw [] bb (((p1 &&& (16777215 : Int32)) ||| (p2 <<< ((24 : Int32) &&& 31))) &&& (16777215 : Int32)) T15.heap n0 (Nat.le_trans (Nat.le_trans Z0 K14.1) K15.1) F_bb) hZ (hw _ (List.mem_of_getElem? (i := 21) rfl)) (hw _ (List.mem_of_getElem? (i := 3) rfl)) (by decide) (by decide)) q22a q22c (g := (mkF m 70 #[.val (.int p1), .val (.int p2), .val (.int (p1 &&& (16777215 : Int32))), .val (.ref ba), .val (.ref bb), .val (.int (1 : Int32)), .val (.int (1 : Int32)), .unset] [(.ref bb)])) rfl (by rw [hml]; rfl) (Steps.refl _) (argsL := []) (rest := []) (lenOf own_pd3 rfl) rfl (by show 2 * 0 + _ ≤ _; exact Nat.le_of_eq rfl) (hb hby at_70) (fun _ _ => ⟨rfl, eh20, (by decide : 2 + 0 ≤ _), (by decide : 2 + 0 ≤ _)⟩)
        dsimp only [Pt.U, Pt.locs, Pt.cells, Pt.slots] at X22 l22 y22 z22 st22 hQ22
        subst l22 y22 z22
        obtain ⟨rfl, N22q, eh22⟩ := hQ22
        have N22 := Fr.app N20 N22q
        refine own_to (fun t k => st22.trans k) ?_
        show own_Fin _ _ _ _ _ _ (T22.setTop (mkF m 73 #[.val (.int p1), .val (.int p2), .val (.int (p1 &&& (16777215 : Int32))), .val (.ref ba), .val (.ref bb), .val (.int (1 : Int32)), .val (.int (1 : Int32)), .unset] [(.int (((p1 &&& (16777215 : Int32)) ||| (p2 <<< ((24 : Int32) &&& 31))) &&& (16777215 : Int32)))]))
        refine own_to (fun t k => XS.iloadN X22.here hx rfl (hb hby at_73) rfl k) ?_
        show own_Fin _ _ _ _ _ _ (T22.setTop (mkF m 74 #[.val (.int p1), .val (.int p2), .val (.int (p1 &&& (16777215 : Int32))), .val (.ref ba), .val (.ref bb), .val (.int (1 : Int32)), .val (.int (1 : Int32)), .unset] [(.int (p1 &&& (16777215 : Int32))), (.int (((p1 &&& (16777215 : Int32)) ||| (p2 <<< ((24 : Int32) &&& 31))) &&& (16777215 : Int32)))]))
        by_cases hc74_23 : (((p1 &&& (16777215 : Int32)) ||| (p2 <<< ((24 : Int32) &&& 31))) &&& (16777215 : Int32)) = (p1 &&& (16777215 : Int32))
        ·
          show own_Fin _ _ _ _ _ _ (T22.setTop (mkF m 74 #[.val (.int p1), .val (.int p2), .val (.int (p1 &&& (16777215 : Int32))), .val (.ref ba), .val (.ref bb), .val (.int (1 : Int32)), .val (.int (1 : Int32)), .unset] [(.int (p1 &&& (16777215 : Int32))), (.int (((p1 &&& (16777215 : Int32)) ||| (p2 <<< ((24 : Int32) &&& 31))) &&& (16777215 : Int32)))]))
          refine own_to (fun t k => XS.icmpNo X22.here hx rfl (hb hby at_74) rfl (teq hc74_23).2 k) ?_
          show own_Fin _ _ _ _ _ _ (T22.setTop (mkF m 77 #[.val (.int p1), .val (.int p2), .val (.int (p1 &&& (16777215 : Int32))), .val (.ref ba), .val (.ref bb), .val (.int (1 : Int32)), .val (.int (1 : Int32)), .unset] []))
          refine own_to (fun t k => XS.iconst X22.here hx rfl (hb hby at_77) k) ?_
          show own_Fin _ _ _ _ _ _ (T22.setTop (mkF m 78 #[.val (.int p1), .val (.int p2), .val (.int (p1 &&& (16777215 : Int32))), .val (.ref ba), .val (.ref bb), .val (.int (1 : Int32)), .val (.int (1 : Int32)), .unset] [(.int (1 : Int32))]))
          refine own_to (fun t k => XS.goto X22.here hx rfl (pc0 := 78) (pc' := 82) rfl (hb hby at_78) (by decide) (by decide) k) ?_
          show own_Fin _ _ _ _ _ _ (T22.setTop (mkF m 82 #[.val (.int p1), .val (.int p2), .val (.int (p1 &&& (16777215 : Int32))), .val (.ref ba), .val (.ref bb), .val (.int (1 : Int32)), .val (.int (1 : Int32)), .unset] [(.int (1 : Int32))]))
          refine own_to (fun t k => XS.istore X22.here hx rfl (hb hby at_82) rfl (l' := #[.val (.int p1), .val (.int p2), .val (.int (p1 &&& (16777215 : Int32))), .val (.ref ba), .val (.ref bb), .val (.int (1 : Int32)), .val (.int (1 : Int32)), .val (.int (1 : Int32))]) rfl k) ?_
          show own_Fin _ _ _ _ _ _ (T22.setTop (mkF m 84 #[.val (.int p1), .val (.int p2), .val (.int (p1 &&& (16777215 : Int32))), .val (.ref ba), .val (.ref bb), .val (.int (1 : Int32)), .val (.int (1 : Int32)), .val (.int (1 : Int32))] []))
          refine own_to (fun t k => XS.iload X22.here hx rfl (hb hby at_84) rfl k) ?_
          show own_Fin _ _ _ _ _ _ (T22.setTop (mkF m 86 #[.val (.int p1), .val (.int p2), .val (.int (p1 &&& (16777215 : Int32))), .val (.ref ba), .val (.ref bb), .val (.int (1 : Int32)), .val (.int (1 : Int32)), .val (.int (1 : Int32))] [(.int (1 : Int32))]))
          refine own_to (fun t k => XS.ifNo X22.here hx rfl (hb hby at_86) rfl ((if0 _ _).trans (feq (by decide)).1) k) ?_
          show own_Fin _ _ _ _ _ _ (T22.setTop (mkF m 89 #[.val (.int p1), .val (.int p2), .val (.int (p1 &&& (16777215 : Int32))), .val (.ref ba), .val (.ref bb), .val (.int (1 : Int32)), .val (.int (1 : Int32)), .val (.int (1 : Int32))] []))
          refine own_to (fun t k => XS.iload X22.here hx rfl (hb hby at_89) rfl k) ?_
          show own_Fin _ _ _ _ _ _ (T22.setTop (mkF m 91 #[.val (.int p1), .val (.int p2), .val (.int (p1 &&& (16777215 : Int32))), .val (.ref ba), .val (.ref bb), .val (.int (1 : Int32)), .val (.int (1 : Int32)), .val (.int (1 : Int32))] [(.int (1 : Int32))]))
          refine own_to (fun t k => XS.ifNo X22.here hx rfl (hb hby at_91) rfl ((if0 _ _).trans (feq (by decide)).1) k) ?_
          show own_Fin _ _ _ _ _ _ (T22.setTop (mkF m 94 #[.val (.int p1), .val (.int p2), .val (.int (p1 &&& (16777215 : Int32))), .val (.ref ba), .val (.ref bb), .val (.int (1 : Int32)), .val (.int (1 : Int32)), .val (.int (1 : Int32))] []))
          refine own_to (fun t k => XS.iload X22.here hx rfl (hb hby at_94) rfl k) ?_
          show own_Fin _ _ _ _ _ _ (T22.setTop (mkF m 96 #[.val (.int p1), .val (.int p2), .val (.int (p1 &&& (16777215 : Int32))), .val (.ref ba), .val (.ref bb), .val (.int (1 : Int32)), .val (.int (1 : Int32)), .val (.int (1 : Int32))] [(.int (1 : Int32))]))
          refine own_to (fun t k => XS.ifNo X22.here hx rfl (hb hby at_96) rfl ((if0 _ _).trans (feq (by decide)).1) k) ?_
          show own_Fin _ _ _ _ _ _ (T22.setTop (mkF m 99 #[.val (.int p1), .val (.int p2), .val (.int (p1 &&& (16777215 : Int32))), .val (.ref ba), .val (.ref bb), .val (.int (1 : Int32)), .val (.int (1 : Int32)), .val (.int (1 : Int32))] []))
          refine own_to (fun t k => XS.iconst X22.here hx rfl (hb hby at_99) k) ?_
          show own_Fin _ _ _ _ _ _ (T22.setTop (mkF m 100 #[.val (.int p1), .val (.int p2), .val (.int (p1 &&& (16777215 : Int32))), .val (.ref ba), .val (.ref bb), .val (.int (1 : Int32)), .val (.int (1 : Int32)), .val (.int (1 : Int32))] [(.int (1 : Int32))]))
          refine own_to (fun t k => XS.goto X22.here hx rfl (pc0 := 100) (pc' := 104) rfl (hb hby at_100) (by decide) (by decide) k) ?_
          show own_Fin _ _ _ _ _ _ (T22.setTop (mkF m 104 #[.val (.int p1), .val (.int p2), .val (.int (p1 &&& (16777215 : Int32))), .val (.ref ba), .val (.ref bb), .val (.int (1 : Int32)), .val (.int (1 : Int32)), .val (.int (1 : Int32))] [(.int (1 : Int32))]))
          refine own_retN X22 hx hlk (t := .boolean) hret (by simp) (hb hby at_104) (by decide) (by decide) ?_
          try rw [eh22]
          exact ⟨congrArg (fun z => some (Value.int z)) (Eq.symm (show own_law p1 p2 = _ from ((if_pos hc41_18).trans ((if_pos hc49_19).trans ((if_neg hc65_21).trans ((if_pos hc74_23).trans rfl)))))), N22⟩
        ·
          show own_Fin _ _ _ _ _ _ (T22.setTop (mkF m 74 #[.val (.int p1), .val (.int p2), .val (.int (p1 &&& (16777215 : Int32))), .val (.ref ba), .val (.ref bb), .val (.int (1 : Int32)), .val (.int (1 : Int32)), .unset] [(.int (p1 &&& (16777215 : Int32))), (.int (((p1 &&& (16777215 : Int32)) ||| (p2 <<< ((24 : Int32) &&& 31))) &&& (16777215 : Int32)))]))
          refine own_to (fun t k => XS.icmpYes X22.here hx rfl (pc0 := 74) (pc' := 81) rfl (hb hby at_74) rfl (feq hc74_23).2 (by decide) (by decide) k) ?_
          show own_Fin _ _ _ _ _ _ (T22.setTop (mkF m 81 #[.val (.int p1), .val (.int p2), .val (.int (p1 &&& (16777215 : Int32))), .val (.ref ba), .val (.ref bb), .val (.int (1 : Int32)), .val (.int (1 : Int32)), .unset] []))
          refine own_to (fun t k => XS.iconst X22.here hx rfl (hb hby at_81) k) ?_
          show own_Fin _ _ _ _ _ _ (T22.setTop (mkF m 82 #[.val (.int p1), .val (.int p2), .val (.int (p1 &&& (16777215 : Int32))), .val (.ref ba), .val (.ref bb), .val (.int (1 : Int32)), .val (.int (1 : Int32)), .unset] [(.int (0 : Int32))]))
          refine own_to (fun t k => XS.istore X22.here hx rfl (hb hby at_82) rfl (l' := #[.val (.int p1), .val (.int p2), .val (.int (p1 &&& (16777215 : Int32))), .val (.ref ba), .val (.ref bb), .val (.int (1 : Int32)), .val (.int (1 : Int32)), .val (.int (0 : Int32))]) rfl k) ?_
          show own_Fin _ _ _ _ _ _ (T22.setTop (mkF m 84 #[.val (.int p1), .val (.int p2), .val (.int (p1 &&& (16777215 : Int32))), .val (.ref ba), .val (.ref bb), .val (.int (1 : Int32)), .val (.int (1 : Int32)), .val (.int (0 : Int32))] []))
          refine own_to (fun t k => XS.iload X22.here hx rfl (hb hby at_84) rfl k) ?_
          show own_Fin _ _ _ _ _ _ (T22.setTop (mkF m 86 #[.val (.int p1), .val (.int p2), .val (.int (p1 &&& (16777215 : Int32))), .val (.ref ba), .val (.ref bb), .val (.int (1 : Int32)), .val (.int (1 : Int32)), .val (.int (0 : Int32))] [(.int (1 : Int32))]))
          refine own_to (fun t k => XS.ifNo X22.here hx rfl (hb hby at_86) rfl ((if0 _ _).trans (feq (by decide)).1) k) ?_
          show own_Fin _ _ _ _ _ _ (T22.setTop (mkF m 89 #[.val (.int p1), .val (.int p2), .val (.int (p1 &&& (16777215 : Int32))), .val (.ref ba), .val (.ref bb), .val (.int (1 : Int32)), .val (.int (1 : Int32)), .val (.int (0 : Int32))] []))
          refine own_to (fun t k => XS.iload X22.here hx rfl (hb hby at_89) rfl k) ?_
          show own_Fin _ _ _ _ _ _ (T22.setTop (mkF m 91 #[.val (.int p1), .val (.int p2), .val (.int (p1 &&& (16777215 : Int32))), .val (.ref ba), .val (.ref bb), .val (.int (1 : Int32)), .val (.int (1 : Int32)), .val (.int (0 : Int32))] [(.int (1 : Int32))]))
          refine own_to (fun t k => XS.ifNo X22.here hx rfl (hb hby at_91) rfl ((if0 _ _).trans (feq (by decide)).1) k) ?_
          show own_Fin _ _ _ _ _ _ (T22.setTop (mkF m 94 #[.val (.int p1), .val (.int p2), .val (.int (p1 &&& (16777215 : Int32))), .val (.ref ba), .val (.ref bb), .val (.int (1 : Int32)), .val (.int (1 : Int32)), .val (.int (0 : Int32))] []))
          refine own_to (fun t k => XS.iload X22.here hx rfl (hb hby at_94) rfl k) ?_
          show own_Fin _ _ _ _ _ _ (T22.setTop (mkF m 96 #[.val (.int p1), .val (.int p2), .val (.int (p1 &&& (16777215 : Int32))), .val (.ref ba), .val (.ref bb), .val (.int (1 : Int32)), .val (.int (1 : Int32)), .val (.int (0 : Int32))] [(.int (0 : Int32))]))
          refine own_to (fun t k => XS.ifYes X22.here hx rfl (pc0 := 96) (pc' := 103) rfl (hb hby at_96) rfl ((if0 _ _).trans (teq rfl).1) (by decide) (by decide) k) ?_
          show own_Fin _ _ _ _ _ _ (T22.setTop (mkF m 103 #[.val (.int p1), .val (.int p2), .val (.int (p1 &&& (16777215 : Int32))), .val (.ref ba), .val (.ref bb), .val (.int (1 : Int32)), .val (.int (1 : Int32)), .val (.int (0 : Int32))] []))
          refine own_to (fun t k => XS.iconst X22.here hx rfl (hb hby at_103) k) ?_
          show own_Fin _ _ _ _ _ _ (T22.setTop (mkF m 104 #[.val (.int p1), .val (.int p2), .val (.int (p1 &&& (16777215 : Int32))), .val (.ref ba), .val (.ref bb), .val (.int (1 : Int32)), .val (.int (1 : Int32)), .val (.int (0 : Int32))] [(.int (0 : Int32))]))
          refine own_retN X22 hx hlk (t := .boolean) hret (by simp) (hb hby at_104) (by decide) (by decide) ?_
          try rw [eh22]
          exact ⟨congrArg (fun z => some (Value.int z)) (Eq.symm (show own_law p1 p2 = _ from ((if_pos hc41_18).trans ((if_pos hc49_19).trans ((if_neg hc65_21).trans ((if_neg hc74_23).trans rfl)))))), N22⟩
    ·
      show own_Fin _ _ _ _ _ _ (T17.setTop (mkF m 49 #[.val (.int p1), .val (.int p2), .val (.int (p1 &&& (16777215 : Int32))), .val (.ref ba), .val (.ref bb), .val (.int (1 : Int32)), .unset, .unset] [(.int (1 : Int32)), (.int (own_empty (p1 &&& (16777215 : Int32))))]))
      refine own_to (fun t k => XS.icmpYes X17.here hx rfl (pc0 := 49) (pc' := 56) rfl (hb hby at_49) rfl (feq hc49_19).2 (by decide) (by decide) k) ?_
      show own_Fin _ _ _ _ _ _ (T17.setTop (mkF m 56 #[.val (.int p1), .val (.int p2), .val (.int (p1 &&& (16777215 : Int32))), .val (.ref ba), .val (.ref bb), .val (.int (1 : Int32)), .unset, .unset] []))
      refine own_to (fun t k => XS.iconst X17.here hx rfl (hb hby at_56) k) ?_
      show own_Fin _ _ _ _ _ _ (T17.setTop (mkF m 57 #[.val (.int p1), .val (.int p2), .val (.int (p1 &&& (16777215 : Int32))), .val (.ref ba), .val (.ref bb), .val (.int (1 : Int32)), .unset, .unset] [(.int (0 : Int32))]))
      refine own_to (fun t k => XS.istore X17.here hx rfl (hb hby at_57) rfl (l' := #[.val (.int p1), .val (.int p2), .val (.int (p1 &&& (16777215 : Int32))), .val (.ref ba), .val (.ref bb), .val (.int (1 : Int32)), .val (.int (0 : Int32)), .unset]) rfl k) ?_
      show own_Fin _ _ _ _ _ _ (T17.setTop (mkF m 59 #[.val (.int p1), .val (.int p2), .val (.int (p1 &&& (16777215 : Int32))), .val (.ref ba), .val (.ref bb), .val (.int (1 : Int32)), .val (.int (0 : Int32)), .unset] []))
      refine own_to (fun t k => XS.aloadN X17.here hx rfl (hb hby at_59) rfl rfl k) ?_
      show own_Fin _ _ _ _ _ _ (T17.setTop (mkF m 60 #[.val (.int p1), .val (.int p2), .val (.int (p1 &&& (16777215 : Int32))), .val (.ref ba), .val (.ref bb), .val (.int (1 : Int32)), .val (.int (0 : Int32)), .unset] [(.ref ba)]))
      refine own_to (fun t k => XS.aload X17.here hx rfl (hb hby at_60) rfl rfl k) ?_
      show own_Fin _ _ _ _ _ _ (T17.setTop (mkF m 62 #[.val (.int p1), .val (.int p2), .val (.int (p1 &&& (16777215 : Int32))), .val (.ref ba), .val (.ref bb), .val (.int (1 : Int32)), .val (.int (0 : Int32)), .unset] [(.ref bb), (.ref ba)]))
      obtain ⟨cq24, kq24, q24a, q24b, q24c⟩ := isOf hZ eh17 E_ba_e15
      obtain ⟨_, _, ⟨T24, L24, k24, n24⟩, -, X24, ⟨Lc24, hQ24, l24, y24, z24⟩, st24⟩ := X17.virtualBack hx (y := (⟨"com/example/inner_gate/innergate/PrivacySet", "equals", "(Ljava/lang/Object;)Z"⟩ : MethodName)) (z := (⟨"com/example/inner_gate/innergate/PrivacySet", "equals", "(Ljava/lang/Object;)Z"⟩ : MethodName)) hown (mvT hZ (hw _ (List.mem_of_getElem? (i := 27) rfl))) (mvT hZ (hw _ (List.mem_of_getElem? (i := 28) rfl))) (notFace_of_selects (args := #[]) (mvT hZ (hw _ (List.mem_of_getElem? (i := 30) rfl)))) (mvT hZ (hw _ (List.mem_of_getElem? (i := 30) rfl))) (mvT hZ (hw _ (List.mem_of_getElem? (i := 29) rfl))) (by decide) (own_back (W := 0) (own_rm6 l Z a0 hw [] ba bb (p1 &&& (16777215 : Int32)) (((p1 &&& (16777215 : Int32)) ||| (p2 <<< ((24 : Int32) &&& 31))) &&& (16777215 : Int32)) T15.heap n0 (Nat.le_trans (Nat.le_trans Z0 K14.1) K15.1) F_ba_e15 F_bb E_bb) hZ (hw _ (List.mem_of_getElem? (i := 31) rfl)) (hw _ (List.mem_of_getElem? (i := 3) rfl)) (by decide) (by decide)) q24a q24c (g := (mkF m 62 #[.val (.int p1), .val (.int p2), .val (.int (p1 &&& (16777215 : Int32))), .val (.ref ba), .val (.ref bb), .val (.int (1 : Int32)), .val (.int (0 : Int32)), .unset] [(.ref bb), (.ref ba)])) rfl (by rw [hml]; rfl) (Steps.refl _) (argsL := [(.ref bb)]) (rest := []) (lenOf own_pd5 rfl) rfl (by show 2 * 0 + _ ≤ _; exact Nat.le_of_eq rfl) (hb hby at_62) (fun _ _ => ⟨rfl, eh17, (by decide : 2 + 0 ≤ _), (by decide : 2 + 0 ≤ _)⟩)
      dsimp only [Pt.U, Pt.locs, Pt.cells, Pt.slots] at X24 l24 y24 z24 st24 hQ24
      subst l24 y24 z24
      obtain ⟨rfl, N24q, eh24⟩ := hQ24
      have N24 := Fr.app N17 N24q
      refine own_to (fun t k => st24.trans k) ?_
      show own_Fin _ _ _ _ _ _ (T24.setTop (mkF m 65 #[.val (.int p1), .val (.int p2), .val (.int (p1 &&& (16777215 : Int32))), .val (.ref ba), .val (.ref bb), .val (.int (1 : Int32)), .val (.int (0 : Int32)), .unset] [(.int (own_equals (p1 &&& (16777215 : Int32)) (((p1 &&& (16777215 : Int32)) ||| (p2 <<< ((24 : Int32) &&& 31))) &&& (16777215 : Int32))))]))
      by_cases hc65_25 : (own_equals (p1 &&& (16777215 : Int32)) (((p1 &&& (16777215 : Int32)) ||| (p2 <<< ((24 : Int32) &&& 31))) &&& (16777215 : Int32))) = (0 : Int32)
      ·
        show own_Fin _ _ _ _ _ _ (T24.setTop (mkF m 65 #[.val (.int p1), .val (.int p2), .val (.int (p1 &&& (16777215 : Int32))), .val (.ref ba), .val (.ref bb), .val (.int (1 : Int32)), .val (.int (0 : Int32)), .unset] [(.int (own_equals (p1 &&& (16777215 : Int32)) (((p1 &&& (16777215 : Int32)) ||| (p2 <<< ((24 : Int32) &&& 31))) &&& (16777215 : Int32))))]))
        refine own_to (fun t k => XS.ifYes X24.here hx rfl (pc0 := 65) (pc' := 81) rfl (hb hby at_65) rfl ((if0 _ _).trans (teq hc65_25).1) (by decide) (by decide) k) ?_
        show own_Fin _ _ _ _ _ _ (T24.setTop (mkF m 81 #[.val (.int p1), .val (.int p2), .val (.int (p1 &&& (16777215 : Int32))), .val (.ref ba), .val (.ref bb), .val (.int (1 : Int32)), .val (.int (0 : Int32)), .unset] []))
        refine own_to (fun t k => XS.iconst X24.here hx rfl (hb hby at_81) k) ?_
        show own_Fin _ _ _ _ _ _ (T24.setTop (mkF m 82 #[.val (.int p1), .val (.int p2), .val (.int (p1 &&& (16777215 : Int32))), .val (.ref ba), .val (.ref bb), .val (.int (1 : Int32)), .val (.int (0 : Int32)), .unset] [(.int (0 : Int32))]))
        refine own_to (fun t k => XS.istore X24.here hx rfl (hb hby at_82) rfl (l' := #[.val (.int p1), .val (.int p2), .val (.int (p1 &&& (16777215 : Int32))), .val (.ref ba), .val (.ref bb), .val (.int (1 : Int32)), .val (.int (0 : Int32)), .val (.int (0 : Int32))]) rfl k) ?_
        show own_Fin _ _ _ _ _ _ (T24.setTop (mkF m 84 #[.val (.int p1), .val (.int p2), .val (.int (p1 &&& (16777215 : Int32))), .val (.ref ba), .val (.ref bb), .val (.int (1 : Int32)), .val (.int (0 : Int32)), .val (.int (0 : Int32))] []))
        refine own_to (fun t k => XS.iload X24.here hx rfl (hb hby at_84) rfl k) ?_
        show own_Fin _ _ _ _ _ _ (T24.setTop (mkF m 86 #[.val (.int p1), .val (.int p2), .val (.int (p1 &&& (16777215 : Int32))), .val (.ref ba), .val (.ref bb), .val (.int (1 : Int32)), .val (.int (0 : Int32)), .val (.int (0 : Int32))] [(.int (1 : Int32))]))
        refine own_to (fun t k => XS.ifNo X24.here hx rfl (hb hby at_86) rfl ((if0 _ _).trans (feq (by decide)).1) k) ?_
        show own_Fin _ _ _ _ _ _ (T24.setTop (mkF m 89 #[.val (.int p1), .val (.int p2), .val (.int (p1 &&& (16777215 : Int32))), .val (.ref ba), .val (.ref bb), .val (.int (1 : Int32)), .val (.int (0 : Int32)), .val (.int (0 : Int32))] []))
        refine own_to (fun t k => XS.iload X24.here hx rfl (hb hby at_89) rfl k) ?_
        show own_Fin _ _ _ _ _ _ (T24.setTop (mkF m 91 #[.val (.int p1), .val (.int p2), .val (.int (p1 &&& (16777215 : Int32))), .val (.ref ba), .val (.ref bb), .val (.int (1 : Int32)), .val (.int (0 : Int32)), .val (.int (0 : Int32))] [(.int (0 : Int32))]))
        refine own_to (fun t k => XS.ifYes X24.here hx rfl (pc0 := 91) (pc' := 103) rfl (hb hby at_91) rfl ((if0 _ _).trans (teq rfl).1) (by decide) (by decide) k) ?_
        show own_Fin _ _ _ _ _ _ (T24.setTop (mkF m 103 #[.val (.int p1), .val (.int p2), .val (.int (p1 &&& (16777215 : Int32))), .val (.ref ba), .val (.ref bb), .val (.int (1 : Int32)), .val (.int (0 : Int32)), .val (.int (0 : Int32))] []))
        refine own_to (fun t k => XS.iconst X24.here hx rfl (hb hby at_103) k) ?_
        show own_Fin _ _ _ _ _ _ (T24.setTop (mkF m 104 #[.val (.int p1), .val (.int p2), .val (.int (p1 &&& (16777215 : Int32))), .val (.ref ba), .val (.ref bb), .val (.int (1 : Int32)), .val (.int (0 : Int32)), .val (.int (0 : Int32))] [(.int (0 : Int32))]))
        refine own_retN X24 hx hlk (t := .boolean) hret (by simp) (hb hby at_104) (by decide) (by decide) ?_
        try rw [eh24]
        exact ⟨congrArg (fun z => some (Value.int z)) (Eq.symm (show own_law p1 p2 = _ from ((if_pos hc41_18).trans ((if_neg hc49_19).trans ((if_pos hc65_25).trans rfl))))), N24⟩
      ·
        show own_Fin _ _ _ _ _ _ (T24.setTop (mkF m 65 #[.val (.int p1), .val (.int p2), .val (.int (p1 &&& (16777215 : Int32))), .val (.ref ba), .val (.ref bb), .val (.int (1 : Int32)), .val (.int (0 : Int32)), .unset] [(.int (own_equals (p1 &&& (16777215 : Int32)) (((p1 &&& (16777215 : Int32)) ||| (p2 <<< ((24 : Int32) &&& 31))) &&& (16777215 : Int32))))]))
        refine own_to (fun t k => XS.ifNo X24.here hx rfl (hb hby at_65) rfl ((if0 _ _).trans (feq hc65_25).1) k) ?_
        show own_Fin _ _ _ _ _ _ (T24.setTop (mkF m 68 #[.val (.int p1), .val (.int p2), .val (.int (p1 &&& (16777215 : Int32))), .val (.ref ba), .val (.ref bb), .val (.int (1 : Int32)), .val (.int (0 : Int32)), .unset] []))
        refine own_to (fun t k => XS.aload X24.here hx rfl (hb hby at_68) rfl rfl k) ?_
        show own_Fin _ _ _ _ _ _ (T24.setTop (mkF m 70 #[.val (.int p1), .val (.int p2), .val (.int (p1 &&& (16777215 : Int32))), .val (.ref ba), .val (.ref bb), .val (.int (1 : Int32)), .val (.int (0 : Int32)), .unset] [(.ref bb)]))
        obtain ⟨cq26, kq26, q26a, q26b, q26c⟩ := isOf hZ eh24 E_bb
        obtain ⟨_, _, ⟨T26, L26, k26, n26⟩, -, X26, ⟨Lc26, hQ26, l26, y26, z26⟩, st26⟩ := X24.virtualBack hx (y := (⟨"com/example/inner_gate/innergate/PrivacySet", "mask", "()I"⟩ : MethodName)) (z := (⟨"com/example/inner_gate/innergate/PrivacySet", "mask", "()I"⟩ : MethodName)) hown (mvT hZ (hw _ (List.mem_of_getElem? (i := 17) rfl))) (mvT hZ (hw _ (List.mem_of_getElem? (i := 18) rfl))) (notFace_of_selects (args := #[]) (mvT hZ (hw _ (List.mem_of_getElem? (i := 20) rfl)))) (mvT hZ (hw _ (List.mem_of_getElem? (i := 20) rfl))) (mvT hZ (hw _ (List.mem_of_getElem? (i := 19) rfl))) (by decide) (own_back (W := 0) (own_rm4 l Z a0 hw [] bb (((p1 &&& (16777215 : Int32)) ||| (p2 <<< ((24 : Int32) &&& 31))) &&& (16777215 : Int32)) T15.heap n0 (Nat.le_trans (Nat.le_trans Z0 K14.1) K15.1) F_bb) hZ (hw _ (List.mem_of_getElem? (i := 21) rfl)) (hw _ (List.mem_of_getElem? (i := 3) rfl)) (by decide) (by decide)) q26a q26c (g := (mkF m 70 #[.val (.int p1), .val (.int p2), .val (.int (p1 &&& (16777215 : Int32))), .val (.ref ba), .val (.ref bb), .val (.int (1 : Int32)), .val (.int (0 : Int32)), .unset] [(.ref bb)])) rfl (by rw [hml]; rfl) (Steps.refl _) (argsL := []) (rest := []) (lenOf own_pd3 rfl) rfl (by show 2 * 0 + _ ≤ _; exact Nat.le_of_eq rfl) (hb hby at_70) (fun _ _ => ⟨rfl, eh24, (by decide : 2 + 0 ≤ _), (by decide : 2 + 0 ≤ _)⟩)
        dsimp only [Pt.U, Pt.locs, Pt.cells, Pt.slots] at X26 l26 y26 z26 st26 hQ26
        subst l26 y26 z26
        obtain ⟨rfl, N26q, eh26⟩ := hQ26
        have N26 := Fr.app N24 N26q
        refine own_to (fun t k => st26.trans k) ?_
        show own_Fin _ _ _ _ _ _ (T26.setTop (mkF m 73 #[.val (.int p1), .val (.int p2), .val (.int (p1 &&& (16777215 : Int32))), .val (.ref ba), .val (.ref bb), .val (.int (1 : Int32)), .val (.int (0 : Int32)), .unset] [(.int (((p1 &&& (16777215 : Int32)) ||| (p2 <<< ((24 : Int32) &&& 31))) &&& (16777215 : Int32)))]))
        refine own_to (fun t k => XS.iloadN X26.here hx rfl (hb hby at_73) rfl k) ?_
        show own_Fin _ _ _ _ _ _ (T26.setTop (mkF m 74 #[.val (.int p1), .val (.int p2), .val (.int (p1 &&& (16777215 : Int32))), .val (.ref ba), .val (.ref bb), .val (.int (1 : Int32)), .val (.int (0 : Int32)), .unset] [(.int (p1 &&& (16777215 : Int32))), (.int (((p1 &&& (16777215 : Int32)) ||| (p2 <<< ((24 : Int32) &&& 31))) &&& (16777215 : Int32)))]))
        by_cases hc74_27 : (((p1 &&& (16777215 : Int32)) ||| (p2 <<< ((24 : Int32) &&& 31))) &&& (16777215 : Int32)) = (p1 &&& (16777215 : Int32))
        ·
          show own_Fin _ _ _ _ _ _ (T26.setTop (mkF m 74 #[.val (.int p1), .val (.int p2), .val (.int (p1 &&& (16777215 : Int32))), .val (.ref ba), .val (.ref bb), .val (.int (1 : Int32)), .val (.int (0 : Int32)), .unset] [(.int (p1 &&& (16777215 : Int32))), (.int (((p1 &&& (16777215 : Int32)) ||| (p2 <<< ((24 : Int32) &&& 31))) &&& (16777215 : Int32)))]))
          refine own_to (fun t k => XS.icmpNo X26.here hx rfl (hb hby at_74) rfl (teq hc74_27).2 k) ?_
          show own_Fin _ _ _ _ _ _ (T26.setTop (mkF m 77 #[.val (.int p1), .val (.int p2), .val (.int (p1 &&& (16777215 : Int32))), .val (.ref ba), .val (.ref bb), .val (.int (1 : Int32)), .val (.int (0 : Int32)), .unset] []))
          refine own_to (fun t k => XS.iconst X26.here hx rfl (hb hby at_77) k) ?_
          show own_Fin _ _ _ _ _ _ (T26.setTop (mkF m 78 #[.val (.int p1), .val (.int p2), .val (.int (p1 &&& (16777215 : Int32))), .val (.ref ba), .val (.ref bb), .val (.int (1 : Int32)), .val (.int (0 : Int32)), .unset] [(.int (1 : Int32))]))
          refine own_to (fun t k => XS.goto X26.here hx rfl (pc0 := 78) (pc' := 82) rfl (hb hby at_78) (by decide) (by decide) k) ?_
          show own_Fin _ _ _ _ _ _ (T26.setTop (mkF m 82 #[.val (.int p1), .val (.int p2), .val (.int (p1 &&& (16777215 : Int32))), .val (.ref ba), .val (.ref bb), .val (.int (1 : Int32)), .val (.int (0 : Int32)), .unset] [(.int (1 : Int32))]))
          refine own_to (fun t k => XS.istore X26.here hx rfl (hb hby at_82) rfl (l' := #[.val (.int p1), .val (.int p2), .val (.int (p1 &&& (16777215 : Int32))), .val (.ref ba), .val (.ref bb), .val (.int (1 : Int32)), .val (.int (0 : Int32)), .val (.int (1 : Int32))]) rfl k) ?_
          show own_Fin _ _ _ _ _ _ (T26.setTop (mkF m 84 #[.val (.int p1), .val (.int p2), .val (.int (p1 &&& (16777215 : Int32))), .val (.ref ba), .val (.ref bb), .val (.int (1 : Int32)), .val (.int (0 : Int32)), .val (.int (1 : Int32))] []))
          refine own_to (fun t k => XS.iload X26.here hx rfl (hb hby at_84) rfl k) ?_
          show own_Fin _ _ _ _ _ _ (T26.setTop (mkF m 86 #[.val (.int p1), .val (.int p2), .val (.int (p1 &&& (16777215 : Int32))), .val (.ref ba), .val (.ref bb), .val (.int (1 : Int32)), .val (.int (0 : Int32)), .val (.int (1 : Int32))] [(.int (1 : Int32))]))
          refine own_to (fun t k => XS.ifNo X26.here hx rfl (hb hby at_86) rfl ((if0 _ _).trans (feq (by decide)).1) k) ?_
          show own_Fin _ _ _ _ _ _ (T26.setTop (mkF m 89 #[.val (.int p1), .val (.int p2), .val (.int (p1 &&& (16777215 : Int32))), .val (.ref ba), .val (.ref bb), .val (.int (1 : Int32)), .val (.int (0 : Int32)), .val (.int (1 : Int32))] []))
          refine own_to (fun t k => XS.iload X26.here hx rfl (hb hby at_89) rfl k) ?_
          show own_Fin _ _ _ _ _ _ (T26.setTop (mkF m 91 #[.val (.int p1), .val (.int p2), .val (.int (p1 &&& (16777215 : Int32))), .val (.ref ba), .val (.ref bb), .val (.int (1 : Int32)), .val (.int (0 : Int32)), .val (.int (1 : Int32))] [(.int (0 : Int32))]))
          refine own_to (fun t k => XS.ifYes X26.here hx rfl (pc0 := 91) (pc' := 103) rfl (hb hby at_91) rfl ((if0 _ _).trans (teq rfl).1) (by decide) (by decide) k) ?_
          show own_Fin _ _ _ _ _ _ (T26.setTop (mkF m 103 #[.val (.int p1), .val (.int p2), .val (.int (p1 &&& (16777215 : Int32))), .val (.ref ba), .val (.ref bb), .val (.int (1 : Int32)), .val (.int (0 : Int32)), .val (.int (1 : Int32))] []))
          refine own_to (fun t k => XS.iconst X26.here hx rfl (hb hby at_103) k) ?_
          show own_Fin _ _ _ _ _ _ (T26.setTop (mkF m 104 #[.val (.int p1), .val (.int p2), .val (.int (p1 &&& (16777215 : Int32))), .val (.ref ba), .val (.ref bb), .val (.int (1 : Int32)), .val (.int (0 : Int32)), .val (.int (1 : Int32))] [(.int (0 : Int32))]))
          refine own_retN X26 hx hlk (t := .boolean) hret (by simp) (hb hby at_104) (by decide) (by decide) ?_
          try rw [eh26]
          exact ⟨congrArg (fun z => some (Value.int z)) (Eq.symm (show own_law p1 p2 = _ from ((if_pos hc41_18).trans ((if_neg hc49_19).trans ((if_neg hc65_25).trans ((if_pos hc74_27).trans rfl)))))), N26⟩
        ·
          show own_Fin _ _ _ _ _ _ (T26.setTop (mkF m 74 #[.val (.int p1), .val (.int p2), .val (.int (p1 &&& (16777215 : Int32))), .val (.ref ba), .val (.ref bb), .val (.int (1 : Int32)), .val (.int (0 : Int32)), .unset] [(.int (p1 &&& (16777215 : Int32))), (.int (((p1 &&& (16777215 : Int32)) ||| (p2 <<< ((24 : Int32) &&& 31))) &&& (16777215 : Int32)))]))
          refine own_to (fun t k => XS.icmpYes X26.here hx rfl (pc0 := 74) (pc' := 81) rfl (hb hby at_74) rfl (feq hc74_27).2 (by decide) (by decide) k) ?_
          show own_Fin _ _ _ _ _ _ (T26.setTop (mkF m 81 #[.val (.int p1), .val (.int p2), .val (.int (p1 &&& (16777215 : Int32))), .val (.ref ba), .val (.ref bb), .val (.int (1 : Int32)), .val (.int (0 : Int32)), .unset] []))
          refine own_to (fun t k => XS.iconst X26.here hx rfl (hb hby at_81) k) ?_
          show own_Fin _ _ _ _ _ _ (T26.setTop (mkF m 82 #[.val (.int p1), .val (.int p2), .val (.int (p1 &&& (16777215 : Int32))), .val (.ref ba), .val (.ref bb), .val (.int (1 : Int32)), .val (.int (0 : Int32)), .unset] [(.int (0 : Int32))]))
          refine own_to (fun t k => XS.istore X26.here hx rfl (hb hby at_82) rfl (l' := #[.val (.int p1), .val (.int p2), .val (.int (p1 &&& (16777215 : Int32))), .val (.ref ba), .val (.ref bb), .val (.int (1 : Int32)), .val (.int (0 : Int32)), .val (.int (0 : Int32))]) rfl k) ?_
          show own_Fin _ _ _ _ _ _ (T26.setTop (mkF m 84 #[.val (.int p1), .val (.int p2), .val (.int (p1 &&& (16777215 : Int32))), .val (.ref ba), .val (.ref bb), .val (.int (1 : Int32)), .val (.int (0 : Int32)), .val (.int (0 : Int32))] []))
          refine own_to (fun t k => XS.iload X26.here hx rfl (hb hby at_84) rfl k) ?_
          show own_Fin _ _ _ _ _ _ (T26.setTop (mkF m 86 #[.val (.int p1), .val (.int p2), .val (.int (p1 &&& (16777215 : Int32))), .val (.ref ba), .val (.ref bb), .val (.int (1 : Int32)), .val (.int (0 : Int32)), .val (.int (0 : Int32))] [(.int (1 : Int32))]))
          refine own_to (fun t k => XS.ifNo X26.here hx rfl (hb hby at_86) rfl ((if0 _ _).trans (feq (by decide)).1) k) ?_
          show own_Fin _ _ _ _ _ _ (T26.setTop (mkF m 89 #[.val (.int p1), .val (.int p2), .val (.int (p1 &&& (16777215 : Int32))), .val (.ref ba), .val (.ref bb), .val (.int (1 : Int32)), .val (.int (0 : Int32)), .val (.int (0 : Int32))] []))
          refine own_to (fun t k => XS.iload X26.here hx rfl (hb hby at_89) rfl k) ?_
          show own_Fin _ _ _ _ _ _ (T26.setTop (mkF m 91 #[.val (.int p1), .val (.int p2), .val (.int (p1 &&& (16777215 : Int32))), .val (.ref ba), .val (.ref bb), .val (.int (1 : Int32)), .val (.int (0 : Int32)), .val (.int (0 : Int32))] [(.int (0 : Int32))]))
          refine own_to (fun t k => XS.ifYes X26.here hx rfl (pc0 := 91) (pc' := 103) rfl (hb hby at_91) rfl ((if0 _ _).trans (teq rfl).1) (by decide) (by decide) k) ?_
          show own_Fin _ _ _ _ _ _ (T26.setTop (mkF m 103 #[.val (.int p1), .val (.int p2), .val (.int (p1 &&& (16777215 : Int32))), .val (.ref ba), .val (.ref bb), .val (.int (1 : Int32)), .val (.int (0 : Int32)), .val (.int (0 : Int32))] []))
          refine own_to (fun t k => XS.iconst X26.here hx rfl (hb hby at_103) k) ?_
          show own_Fin _ _ _ _ _ _ (T26.setTop (mkF m 104 #[.val (.int p1), .val (.int p2), .val (.int (p1 &&& (16777215 : Int32))), .val (.ref ba), .val (.ref bb), .val (.int (1 : Int32)), .val (.int (0 : Int32)), .val (.int (0 : Int32))] [(.int (0 : Int32))]))
          refine own_retN X26 hx hlk (t := .boolean) hret (by simp) (hb hby at_104) (by decide) (by decide) ?_
          try rw [eh26]
          exact ⟨congrArg (fun z => some (Value.int z)) (Eq.symm (show own_law p1 p2 = _ from ((if_pos hc41_18).trans ((if_neg hc49_19).trans ((if_neg hc65_25).trans ((if_neg hc74_27).trans rfl)))))), N26⟩
  ·
    show own_Fin _ _ _ _ _ _ (T17.setTop (mkF m 41 #[.val (.int p1), .val (.int p2), .val (.int (p1 &&& (16777215 : Int32))), .val (.ref ba), .val (.ref bb), .val (.int (1 : Int32)), .unset, .unset] [(.int (p1 &&& (16777215 : Int32))), (.int (own_empty (p1 &&& (16777215 : Int32))))]))
    refine own_to (fun t k => XS.ifYes X17.here hx rfl (pc0 := 41) (pc' := 48) rfl (hb hby at_41) rfl ((if0 _ _).trans (feq hc41_18).2) (by decide) (by decide) k) ?_
    show own_Fin _ _ _ _ _ _ (T17.setTop (mkF m 48 #[.val (.int p1), .val (.int p2), .val (.int (p1 &&& (16777215 : Int32))), .val (.ref ba), .val (.ref bb), .val (.int (1 : Int32)), .unset, .unset] [(.int (own_empty (p1 &&& (16777215 : Int32))))]))
    refine own_to (fun t k => XS.iconst X17.here hx rfl (hb hby at_48) k) ?_
    show own_Fin _ _ _ _ _ _ (T17.setTop (mkF m 49 #[.val (.int p1), .val (.int p2), .val (.int (p1 &&& (16777215 : Int32))), .val (.ref ba), .val (.ref bb), .val (.int (1 : Int32)), .unset, .unset] [(.int (0 : Int32)), (.int (own_empty (p1 &&& (16777215 : Int32))))]))
    by_cases hc49_28 : (own_empty (p1 &&& (16777215 : Int32))) = (0 : Int32)
    ·
      show own_Fin _ _ _ _ _ _ (T17.setTop (mkF m 49 #[.val (.int p1), .val (.int p2), .val (.int (p1 &&& (16777215 : Int32))), .val (.ref ba), .val (.ref bb), .val (.int (1 : Int32)), .unset, .unset] [(.int (0 : Int32)), (.int (own_empty (p1 &&& (16777215 : Int32))))]))
      refine own_to (fun t k => XS.icmpNo X17.here hx rfl (hb hby at_49) rfl (teq hc49_28).2 k) ?_
      show own_Fin _ _ _ _ _ _ (T17.setTop (mkF m 52 #[.val (.int p1), .val (.int p2), .val (.int (p1 &&& (16777215 : Int32))), .val (.ref ba), .val (.ref bb), .val (.int (1 : Int32)), .unset, .unset] []))
      refine own_to (fun t k => XS.iconst X17.here hx rfl (hb hby at_52) k) ?_
      show own_Fin _ _ _ _ _ _ (T17.setTop (mkF m 53 #[.val (.int p1), .val (.int p2), .val (.int (p1 &&& (16777215 : Int32))), .val (.ref ba), .val (.ref bb), .val (.int (1 : Int32)), .unset, .unset] [(.int (1 : Int32))]))
      refine own_to (fun t k => XS.goto X17.here hx rfl (pc0 := 53) (pc' := 57) rfl (hb hby at_53) (by decide) (by decide) k) ?_
      show own_Fin _ _ _ _ _ _ (T17.setTop (mkF m 57 #[.val (.int p1), .val (.int p2), .val (.int (p1 &&& (16777215 : Int32))), .val (.ref ba), .val (.ref bb), .val (.int (1 : Int32)), .unset, .unset] [(.int (1 : Int32))]))
      refine own_to (fun t k => XS.istore X17.here hx rfl (hb hby at_57) rfl (l' := #[.val (.int p1), .val (.int p2), .val (.int (p1 &&& (16777215 : Int32))), .val (.ref ba), .val (.ref bb), .val (.int (1 : Int32)), .val (.int (1 : Int32)), .unset]) rfl k) ?_
      show own_Fin _ _ _ _ _ _ (T17.setTop (mkF m 59 #[.val (.int p1), .val (.int p2), .val (.int (p1 &&& (16777215 : Int32))), .val (.ref ba), .val (.ref bb), .val (.int (1 : Int32)), .val (.int (1 : Int32)), .unset] []))
      refine own_to (fun t k => XS.aloadN X17.here hx rfl (hb hby at_59) rfl rfl k) ?_
      show own_Fin _ _ _ _ _ _ (T17.setTop (mkF m 60 #[.val (.int p1), .val (.int p2), .val (.int (p1 &&& (16777215 : Int32))), .val (.ref ba), .val (.ref bb), .val (.int (1 : Int32)), .val (.int (1 : Int32)), .unset] [(.ref ba)]))
      refine own_to (fun t k => XS.aload X17.here hx rfl (hb hby at_60) rfl rfl k) ?_
      show own_Fin _ _ _ _ _ _ (T17.setTop (mkF m 62 #[.val (.int p1), .val (.int p2), .val (.int (p1 &&& (16777215 : Int32))), .val (.ref ba), .val (.ref bb), .val (.int (1 : Int32)), .val (.int (1 : Int32)), .unset] [(.ref bb), (.ref ba)]))
      obtain ⟨cq29, kq29, q29a, q29b, q29c⟩ := isOf hZ eh17 E_ba_e15
      obtain ⟨_, _, ⟨T29, L29, k29, n29⟩, -, X29, ⟨Lc29, hQ29, l29, y29, z29⟩, st29⟩ := X17.virtualBack hx (y := (⟨"com/example/inner_gate/innergate/PrivacySet", "equals", "(Ljava/lang/Object;)Z"⟩ : MethodName)) (z := (⟨"com/example/inner_gate/innergate/PrivacySet", "equals", "(Ljava/lang/Object;)Z"⟩ : MethodName)) hown (mvT hZ (hw _ (List.mem_of_getElem? (i := 27) rfl))) (mvT hZ (hw _ (List.mem_of_getElem? (i := 28) rfl))) (notFace_of_selects (args := #[]) (mvT hZ (hw _ (List.mem_of_getElem? (i := 30) rfl)))) (mvT hZ (hw _ (List.mem_of_getElem? (i := 30) rfl))) (mvT hZ (hw _ (List.mem_of_getElem? (i := 29) rfl))) (by decide) (own_back (W := 0) (own_rm6 l Z a0 hw [] ba bb (p1 &&& (16777215 : Int32)) (((p1 &&& (16777215 : Int32)) ||| (p2 <<< ((24 : Int32) &&& 31))) &&& (16777215 : Int32)) T15.heap n0 (Nat.le_trans (Nat.le_trans Z0 K14.1) K15.1) F_ba_e15 F_bb E_bb) hZ (hw _ (List.mem_of_getElem? (i := 31) rfl)) (hw _ (List.mem_of_getElem? (i := 3) rfl)) (by decide) (by decide)) q29a q29c (g := (mkF m 62 #[.val (.int p1), .val (.int p2), .val (.int (p1 &&& (16777215 : Int32))), .val (.ref ba), .val (.ref bb), .val (.int (1 : Int32)), .val (.int (1 : Int32)), .unset] [(.ref bb), (.ref ba)])) rfl (by rw [hml]; rfl) (Steps.refl _) (argsL := [(.ref bb)]) (rest := []) (lenOf own_pd5 rfl) rfl (by show 2 * 0 + _ ≤ _; exact Nat.le_of_eq rfl) (hb hby at_62) (fun _ _ => ⟨rfl, eh17, (by decide : 2 + 0 ≤ _), (by decide : 2 + 0 ≤ _)⟩)
      dsimp only [Pt.U, Pt.locs, Pt.cells, Pt.slots] at X29 l29 y29 z29 st29 hQ29
      subst l29 y29 z29
      obtain ⟨rfl, N29q, eh29⟩ := hQ29
      have N29 := Fr.app N17 N29q
      refine own_to (fun t k => st29.trans k) ?_
      show own_Fin _ _ _ _ _ _ (T29.setTop (mkF m 65 #[.val (.int p1), .val (.int p2), .val (.int (p1 &&& (16777215 : Int32))), .val (.ref ba), .val (.ref bb), .val (.int (1 : Int32)), .val (.int (1 : Int32)), .unset] [(.int (own_equals (p1 &&& (16777215 : Int32)) (((p1 &&& (16777215 : Int32)) ||| (p2 <<< ((24 : Int32) &&& 31))) &&& (16777215 : Int32))))]))
      by_cases hc65_30 : (own_equals (p1 &&& (16777215 : Int32)) (((p1 &&& (16777215 : Int32)) ||| (p2 <<< ((24 : Int32) &&& 31))) &&& (16777215 : Int32))) = (0 : Int32)
      ·
        show own_Fin _ _ _ _ _ _ (T29.setTop (mkF m 65 #[.val (.int p1), .val (.int p2), .val (.int (p1 &&& (16777215 : Int32))), .val (.ref ba), .val (.ref bb), .val (.int (1 : Int32)), .val (.int (1 : Int32)), .unset] [(.int (own_equals (p1 &&& (16777215 : Int32)) (((p1 &&& (16777215 : Int32)) ||| (p2 <<< ((24 : Int32) &&& 31))) &&& (16777215 : Int32))))]))
        refine own_to (fun t k => XS.ifYes X29.here hx rfl (pc0 := 65) (pc' := 81) rfl (hb hby at_65) rfl ((if0 _ _).trans (teq hc65_30).1) (by decide) (by decide) k) ?_
        show own_Fin _ _ _ _ _ _ (T29.setTop (mkF m 81 #[.val (.int p1), .val (.int p2), .val (.int (p1 &&& (16777215 : Int32))), .val (.ref ba), .val (.ref bb), .val (.int (1 : Int32)), .val (.int (1 : Int32)), .unset] []))
        refine own_to (fun t k => XS.iconst X29.here hx rfl (hb hby at_81) k) ?_
        show own_Fin _ _ _ _ _ _ (T29.setTop (mkF m 82 #[.val (.int p1), .val (.int p2), .val (.int (p1 &&& (16777215 : Int32))), .val (.ref ba), .val (.ref bb), .val (.int (1 : Int32)), .val (.int (1 : Int32)), .unset] [(.int (0 : Int32))]))
        refine own_to (fun t k => XS.istore X29.here hx rfl (hb hby at_82) rfl (l' := #[.val (.int p1), .val (.int p2), .val (.int (p1 &&& (16777215 : Int32))), .val (.ref ba), .val (.ref bb), .val (.int (1 : Int32)), .val (.int (1 : Int32)), .val (.int (0 : Int32))]) rfl k) ?_
        show own_Fin _ _ _ _ _ _ (T29.setTop (mkF m 84 #[.val (.int p1), .val (.int p2), .val (.int (p1 &&& (16777215 : Int32))), .val (.ref ba), .val (.ref bb), .val (.int (1 : Int32)), .val (.int (1 : Int32)), .val (.int (0 : Int32))] []))
        refine own_to (fun t k => XS.iload X29.here hx rfl (hb hby at_84) rfl k) ?_
        show own_Fin _ _ _ _ _ _ (T29.setTop (mkF m 86 #[.val (.int p1), .val (.int p2), .val (.int (p1 &&& (16777215 : Int32))), .val (.ref ba), .val (.ref bb), .val (.int (1 : Int32)), .val (.int (1 : Int32)), .val (.int (0 : Int32))] [(.int (1 : Int32))]))
        refine own_to (fun t k => XS.ifNo X29.here hx rfl (hb hby at_86) rfl ((if0 _ _).trans (feq (by decide)).1) k) ?_
        show own_Fin _ _ _ _ _ _ (T29.setTop (mkF m 89 #[.val (.int p1), .val (.int p2), .val (.int (p1 &&& (16777215 : Int32))), .val (.ref ba), .val (.ref bb), .val (.int (1 : Int32)), .val (.int (1 : Int32)), .val (.int (0 : Int32))] []))
        refine own_to (fun t k => XS.iload X29.here hx rfl (hb hby at_89) rfl k) ?_
        show own_Fin _ _ _ _ _ _ (T29.setTop (mkF m 91 #[.val (.int p1), .val (.int p2), .val (.int (p1 &&& (16777215 : Int32))), .val (.ref ba), .val (.ref bb), .val (.int (1 : Int32)), .val (.int (1 : Int32)), .val (.int (0 : Int32))] [(.int (1 : Int32))]))
        refine own_to (fun t k => XS.ifNo X29.here hx rfl (hb hby at_91) rfl ((if0 _ _).trans (feq (by decide)).1) k) ?_
        show own_Fin _ _ _ _ _ _ (T29.setTop (mkF m 94 #[.val (.int p1), .val (.int p2), .val (.int (p1 &&& (16777215 : Int32))), .val (.ref ba), .val (.ref bb), .val (.int (1 : Int32)), .val (.int (1 : Int32)), .val (.int (0 : Int32))] []))
        refine own_to (fun t k => XS.iload X29.here hx rfl (hb hby at_94) rfl k) ?_
        show own_Fin _ _ _ _ _ _ (T29.setTop (mkF m 96 #[.val (.int p1), .val (.int p2), .val (.int (p1 &&& (16777215 : Int32))), .val (.ref ba), .val (.ref bb), .val (.int (1 : Int32)), .val (.int (1 : Int32)), .val (.int (0 : Int32))] [(.int (0 : Int32))]))
        refine own_to (fun t k => XS.ifYes X29.here hx rfl (pc0 := 96) (pc' := 103) rfl (hb hby at_96) rfl ((if0 _ _).trans (teq rfl).1) (by decide) (by decide) k) ?_
        show own_Fin _ _ _ _ _ _ (T29.setTop (mkF m 103 #[.val (.int p1), .val (.int p2), .val (.int (p1 &&& (16777215 : Int32))), .val (.ref ba), .val (.ref bb), .val (.int (1 : Int32)), .val (.int (1 : Int32)), .val (.int (0 : Int32))] []))
        refine own_to (fun t k => XS.iconst X29.here hx rfl (hb hby at_103) k) ?_
        show own_Fin _ _ _ _ _ _ (T29.setTop (mkF m 104 #[.val (.int p1), .val (.int p2), .val (.int (p1 &&& (16777215 : Int32))), .val (.ref ba), .val (.ref bb), .val (.int (1 : Int32)), .val (.int (1 : Int32)), .val (.int (0 : Int32))] [(.int (0 : Int32))]))
        refine own_retN X29 hx hlk (t := .boolean) hret (by simp) (hb hby at_104) (by decide) (by decide) ?_
        try rw [eh29]
        exact ⟨congrArg (fun z => some (Value.int z)) (Eq.symm (show own_law p1 p2 = _ from ((if_neg hc41_18).trans ((if_pos hc49_28).trans ((if_pos hc65_30).trans rfl))))), N29⟩
      ·
        show own_Fin _ _ _ _ _ _ (T29.setTop (mkF m 65 #[.val (.int p1), .val (.int p2), .val (.int (p1 &&& (16777215 : Int32))), .val (.ref ba), .val (.ref bb), .val (.int (1 : Int32)), .val (.int (1 : Int32)), .unset] [(.int (own_equals (p1 &&& (16777215 : Int32)) (((p1 &&& (16777215 : Int32)) ||| (p2 <<< ((24 : Int32) &&& 31))) &&& (16777215 : Int32))))]))
        refine own_to (fun t k => XS.ifNo X29.here hx rfl (hb hby at_65) rfl ((if0 _ _).trans (feq hc65_30).1) k) ?_
        show own_Fin _ _ _ _ _ _ (T29.setTop (mkF m 68 #[.val (.int p1), .val (.int p2), .val (.int (p1 &&& (16777215 : Int32))), .val (.ref ba), .val (.ref bb), .val (.int (1 : Int32)), .val (.int (1 : Int32)), .unset] []))
        refine own_to (fun t k => XS.aload X29.here hx rfl (hb hby at_68) rfl rfl k) ?_
        show own_Fin _ _ _ _ _ _ (T29.setTop (mkF m 70 #[.val (.int p1), .val (.int p2), .val (.int (p1 &&& (16777215 : Int32))), .val (.ref ba), .val (.ref bb), .val (.int (1 : Int32)), .val (.int (1 : Int32)), .unset] [(.ref bb)]))
        obtain ⟨cq31, kq31, q31a, q31b, q31c⟩ := isOf hZ eh29 E_bb
        obtain ⟨_, _, ⟨T31, L31, k31, n31⟩, -, X31, ⟨Lc31, hQ31, l31, y31, z31⟩, st31⟩ := X29.virtualBack hx (y := (⟨"com/example/inner_gate/innergate/PrivacySet", "mask", "()I"⟩ : MethodName)) (z := (⟨"com/example/inner_gate/innergate/PrivacySet", "mask", "()I"⟩ : MethodName)) hown (mvT hZ (hw _ (List.mem_of_getElem? (i := 17) rfl))) (mvT hZ (hw _ (List.mem_of_getElem? (i := 18) rfl))) (notFace_of_selects (args := #[]) (mvT hZ (hw _ (List.mem_of_getElem? (i := 20) rfl)))) (mvT hZ (hw _ (List.mem_of_getElem? (i := 20) rfl))) (mvT hZ (hw _ (List.mem_of_getElem? (i := 19) rfl))) (by decide) (own_back (W := 0) (own_rm4 l Z a0 hw [] bb (((p1 &&& (16777215 : Int32)) ||| (p2 <<< ((24 : Int32) &&& 31))) &&& (16777215 : Int32)) T15.heap n0 (Nat.le_trans (Nat.le_trans Z0 K14.1) K15.1) F_bb) hZ (hw _ (List.mem_of_getElem? (i := 21) rfl)) (hw _ (List.mem_of_getElem? (i := 3) rfl)) (by decide) (by decide)) q31a q31c (g := (mkF m 70 #[.val (.int p1), .val (.int p2), .val (.int (p1 &&& (16777215 : Int32))), .val (.ref ba), .val (.ref bb), .val (.int (1 : Int32)), .val (.int (1 : Int32)), .unset] [(.ref bb)])) rfl (by rw [hml]; rfl) (Steps.refl _) (argsL := []) (rest := []) (lenOf own_pd3 rfl) rfl (by show 2 * 0 + _ ≤ _; exact Nat.le_of_eq rfl) (hb hby at_70) (fun _ _ => ⟨rfl, eh29, (by decide : 2 + 0 ≤ _), (by decide : 2 + 0 ≤ _)⟩)
        dsimp only [Pt.U, Pt.locs, Pt.cells, Pt.slots] at X31 l31 y31 z31 st31 hQ31
        subst l31 y31 z31
        obtain ⟨rfl, N31q, eh31⟩ := hQ31
        have N31 := Fr.app N29 N31q
        refine own_to (fun t k => st31.trans k) ?_
        show own_Fin _ _ _ _ _ _ (T31.setTop (mkF m 73 #[.val (.int p1), .val (.int p2), .val (.int (p1 &&& (16777215 : Int32))), .val (.ref ba), .val (.ref bb), .val (.int (1 : Int32)), .val (.int (1 : Int32)), .unset] [(.int (((p1 &&& (16777215 : Int32)) ||| (p2 <<< ((24 : Int32) &&& 31))) &&& (16777215 : Int32)))]))
        refine own_to (fun t k => XS.iloadN X31.here hx rfl (hb hby at_73) rfl k) ?_
        show own_Fin _ _ _ _ _ _ (T31.setTop (mkF m 74 #[.val (.int p1), .val (.int p2), .val (.int (p1 &&& (16777215 : Int32))), .val (.ref ba), .val (.ref bb), .val (.int (1 : Int32)), .val (.int (1 : Int32)), .unset] [(.int (p1 &&& (16777215 : Int32))), (.int (((p1 &&& (16777215 : Int32)) ||| (p2 <<< ((24 : Int32) &&& 31))) &&& (16777215 : Int32)))]))
        by_cases hc74_32 : (((p1 &&& (16777215 : Int32)) ||| (p2 <<< ((24 : Int32) &&& 31))) &&& (16777215 : Int32)) = (p1 &&& (16777215 : Int32))
        ·
          show own_Fin _ _ _ _ _ _ (T31.setTop (mkF m 74 #[.val (.int p1), .val (.int p2), .val (.int (p1 &&& (16777215 : Int32))), .val (.ref ba), .val (.ref bb), .val (.int (1 : Int32)), .val (.int (1 : Int32)), .unset] [(.int (p1 &&& (16777215 : Int32))), (.int (((p1 &&& (16777215 : Int32)) ||| (p2 <<< ((24 : Int32) &&& 31))) &&& (16777215 : Int32)))]))
          refine own_to (fun t k => XS.icmpNo X31.here hx rfl (hb hby at_74) rfl (teq hc74_32).2 k) ?_
          show own_Fin _ _ _ _ _ _ (T31.setTop (mkF m 77 #[.val (.int p1), .val (.int p2), .val (.int (p1 &&& (16777215 : Int32))), .val (.ref ba), .val (.ref bb), .val (.int (1 : Int32)), .val (.int (1 : Int32)), .unset] []))
          refine own_to (fun t k => XS.iconst X31.here hx rfl (hb hby at_77) k) ?_
          show own_Fin _ _ _ _ _ _ (T31.setTop (mkF m 78 #[.val (.int p1), .val (.int p2), .val (.int (p1 &&& (16777215 : Int32))), .val (.ref ba), .val (.ref bb), .val (.int (1 : Int32)), .val (.int (1 : Int32)), .unset] [(.int (1 : Int32))]))
          refine own_to (fun t k => XS.goto X31.here hx rfl (pc0 := 78) (pc' := 82) rfl (hb hby at_78) (by decide) (by decide) k) ?_
          show own_Fin _ _ _ _ _ _ (T31.setTop (mkF m 82 #[.val (.int p1), .val (.int p2), .val (.int (p1 &&& (16777215 : Int32))), .val (.ref ba), .val (.ref bb), .val (.int (1 : Int32)), .val (.int (1 : Int32)), .unset] [(.int (1 : Int32))]))
          refine own_to (fun t k => XS.istore X31.here hx rfl (hb hby at_82) rfl (l' := #[.val (.int p1), .val (.int p2), .val (.int (p1 &&& (16777215 : Int32))), .val (.ref ba), .val (.ref bb), .val (.int (1 : Int32)), .val (.int (1 : Int32)), .val (.int (1 : Int32))]) rfl k) ?_
          show own_Fin _ _ _ _ _ _ (T31.setTop (mkF m 84 #[.val (.int p1), .val (.int p2), .val (.int (p1 &&& (16777215 : Int32))), .val (.ref ba), .val (.ref bb), .val (.int (1 : Int32)), .val (.int (1 : Int32)), .val (.int (1 : Int32))] []))
          refine own_to (fun t k => XS.iload X31.here hx rfl (hb hby at_84) rfl k) ?_
          show own_Fin _ _ _ _ _ _ (T31.setTop (mkF m 86 #[.val (.int p1), .val (.int p2), .val (.int (p1 &&& (16777215 : Int32))), .val (.ref ba), .val (.ref bb), .val (.int (1 : Int32)), .val (.int (1 : Int32)), .val (.int (1 : Int32))] [(.int (1 : Int32))]))
          refine own_to (fun t k => XS.ifNo X31.here hx rfl (hb hby at_86) rfl ((if0 _ _).trans (feq (by decide)).1) k) ?_
          show own_Fin _ _ _ _ _ _ (T31.setTop (mkF m 89 #[.val (.int p1), .val (.int p2), .val (.int (p1 &&& (16777215 : Int32))), .val (.ref ba), .val (.ref bb), .val (.int (1 : Int32)), .val (.int (1 : Int32)), .val (.int (1 : Int32))] []))
          refine own_to (fun t k => XS.iload X31.here hx rfl (hb hby at_89) rfl k) ?_
          show own_Fin _ _ _ _ _ _ (T31.setTop (mkF m 91 #[.val (.int p1), .val (.int p2), .val (.int (p1 &&& (16777215 : Int32))), .val (.ref ba), .val (.ref bb), .val (.int (1 : Int32)), .val (.int (1 : Int32)), .val (.int (1 : Int32))] [(.int (1 : Int32))]))
          refine own_to (fun t k => XS.ifNo X31.here hx rfl (hb hby at_91) rfl ((if0 _ _).trans (feq (by decide)).1) k) ?_
          show own_Fin _ _ _ _ _ _ (T31.setTop (mkF m 94 #[.val (.int p1), .val (.int p2), .val (.int (p1 &&& (16777215 : Int32))), .val (.ref ba), .val (.ref bb), .val (.int (1 : Int32)), .val (.int (1 : Int32)), .val (.int (1 : Int32))] []))
          refine own_to (fun t k => XS.iload X31.here hx rfl (hb hby at_94) rfl k) ?_
          show own_Fin _ _ _ _ _ _ (T31.setTop (mkF m 96 #[.val (.int p1), .val (.int p2), .val (.int (p1 &&& (16777215 : Int32))), .val (.ref ba), .val (.ref bb), .val (.int (1 : Int32)), .val (.int (1 : Int32)), .val (.int (1 : Int32))] [(.int (1 : Int32))]))
          refine own_to (fun t k => XS.ifNo X31.here hx rfl (hb hby at_96) rfl ((if0 _ _).trans (feq (by decide)).1) k) ?_
          show own_Fin _ _ _ _ _ _ (T31.setTop (mkF m 99 #[.val (.int p1), .val (.int p2), .val (.int (p1 &&& (16777215 : Int32))), .val (.ref ba), .val (.ref bb), .val (.int (1 : Int32)), .val (.int (1 : Int32)), .val (.int (1 : Int32))] []))
          refine own_to (fun t k => XS.iconst X31.here hx rfl (hb hby at_99) k) ?_
          show own_Fin _ _ _ _ _ _ (T31.setTop (mkF m 100 #[.val (.int p1), .val (.int p2), .val (.int (p1 &&& (16777215 : Int32))), .val (.ref ba), .val (.ref bb), .val (.int (1 : Int32)), .val (.int (1 : Int32)), .val (.int (1 : Int32))] [(.int (1 : Int32))]))
          refine own_to (fun t k => XS.goto X31.here hx rfl (pc0 := 100) (pc' := 104) rfl (hb hby at_100) (by decide) (by decide) k) ?_
          show own_Fin _ _ _ _ _ _ (T31.setTop (mkF m 104 #[.val (.int p1), .val (.int p2), .val (.int (p1 &&& (16777215 : Int32))), .val (.ref ba), .val (.ref bb), .val (.int (1 : Int32)), .val (.int (1 : Int32)), .val (.int (1 : Int32))] [(.int (1 : Int32))]))
          refine own_retN X31 hx hlk (t := .boolean) hret (by simp) (hb hby at_104) (by decide) (by decide) ?_
          try rw [eh31]
          exact ⟨congrArg (fun z => some (Value.int z)) (Eq.symm (show own_law p1 p2 = _ from ((if_neg hc41_18).trans ((if_pos hc49_28).trans ((if_neg hc65_30).trans ((if_pos hc74_32).trans rfl)))))), N31⟩
        ·
          show own_Fin _ _ _ _ _ _ (T31.setTop (mkF m 74 #[.val (.int p1), .val (.int p2), .val (.int (p1 &&& (16777215 : Int32))), .val (.ref ba), .val (.ref bb), .val (.int (1 : Int32)), .val (.int (1 : Int32)), .unset] [(.int (p1 &&& (16777215 : Int32))), (.int (((p1 &&& (16777215 : Int32)) ||| (p2 <<< ((24 : Int32) &&& 31))) &&& (16777215 : Int32)))]))
          refine own_to (fun t k => XS.icmpYes X31.here hx rfl (pc0 := 74) (pc' := 81) rfl (hb hby at_74) rfl (feq hc74_32).2 (by decide) (by decide) k) ?_
          show own_Fin _ _ _ _ _ _ (T31.setTop (mkF m 81 #[.val (.int p1), .val (.int p2), .val (.int (p1 &&& (16777215 : Int32))), .val (.ref ba), .val (.ref bb), .val (.int (1 : Int32)), .val (.int (1 : Int32)), .unset] []))
          refine own_to (fun t k => XS.iconst X31.here hx rfl (hb hby at_81) k) ?_
          show own_Fin _ _ _ _ _ _ (T31.setTop (mkF m 82 #[.val (.int p1), .val (.int p2), .val (.int (p1 &&& (16777215 : Int32))), .val (.ref ba), .val (.ref bb), .val (.int (1 : Int32)), .val (.int (1 : Int32)), .unset] [(.int (0 : Int32))]))
          refine own_to (fun t k => XS.istore X31.here hx rfl (hb hby at_82) rfl (l' := #[.val (.int p1), .val (.int p2), .val (.int (p1 &&& (16777215 : Int32))), .val (.ref ba), .val (.ref bb), .val (.int (1 : Int32)), .val (.int (1 : Int32)), .val (.int (0 : Int32))]) rfl k) ?_
          show own_Fin _ _ _ _ _ _ (T31.setTop (mkF m 84 #[.val (.int p1), .val (.int p2), .val (.int (p1 &&& (16777215 : Int32))), .val (.ref ba), .val (.ref bb), .val (.int (1 : Int32)), .val (.int (1 : Int32)), .val (.int (0 : Int32))] []))
          refine own_to (fun t k => XS.iload X31.here hx rfl (hb hby at_84) rfl k) ?_
          show own_Fin _ _ _ _ _ _ (T31.setTop (mkF m 86 #[.val (.int p1), .val (.int p2), .val (.int (p1 &&& (16777215 : Int32))), .val (.ref ba), .val (.ref bb), .val (.int (1 : Int32)), .val (.int (1 : Int32)), .val (.int (0 : Int32))] [(.int (1 : Int32))]))
          refine own_to (fun t k => XS.ifNo X31.here hx rfl (hb hby at_86) rfl ((if0 _ _).trans (feq (by decide)).1) k) ?_
          show own_Fin _ _ _ _ _ _ (T31.setTop (mkF m 89 #[.val (.int p1), .val (.int p2), .val (.int (p1 &&& (16777215 : Int32))), .val (.ref ba), .val (.ref bb), .val (.int (1 : Int32)), .val (.int (1 : Int32)), .val (.int (0 : Int32))] []))
          refine own_to (fun t k => XS.iload X31.here hx rfl (hb hby at_89) rfl k) ?_
          show own_Fin _ _ _ _ _ _ (T31.setTop (mkF m 91 #[.val (.int p1), .val (.int p2), .val (.int (p1 &&& (16777215 : Int32))), .val (.ref ba), .val (.ref bb), .val (.int (1 : Int32)), .val (.int (1 : Int32)), .val (.int (0 : Int32))] [(.int (1 : Int32))]))
          refine own_to (fun t k => XS.ifNo X31.here hx rfl (hb hby at_91) rfl ((if0 _ _).trans (feq (by decide)).1) k) ?_
          show own_Fin _ _ _ _ _ _ (T31.setTop (mkF m 94 #[.val (.int p1), .val (.int p2), .val (.int (p1 &&& (16777215 : Int32))), .val (.ref ba), .val (.ref bb), .val (.int (1 : Int32)), .val (.int (1 : Int32)), .val (.int (0 : Int32))] []))
          refine own_to (fun t k => XS.iload X31.here hx rfl (hb hby at_94) rfl k) ?_
          show own_Fin _ _ _ _ _ _ (T31.setTop (mkF m 96 #[.val (.int p1), .val (.int p2), .val (.int (p1 &&& (16777215 : Int32))), .val (.ref ba), .val (.ref bb), .val (.int (1 : Int32)), .val (.int (1 : Int32)), .val (.int (0 : Int32))] [(.int (0 : Int32))]))
          refine own_to (fun t k => XS.ifYes X31.here hx rfl (pc0 := 96) (pc' := 103) rfl (hb hby at_96) rfl ((if0 _ _).trans (teq rfl).1) (by decide) (by decide) k) ?_
          show own_Fin _ _ _ _ _ _ (T31.setTop (mkF m 103 #[.val (.int p1), .val (.int p2), .val (.int (p1 &&& (16777215 : Int32))), .val (.ref ba), .val (.ref bb), .val (.int (1 : Int32)), .val (.int (1 : Int32)), .val (.int (0 : Int32))] []))
          refine own_to (fun t k => XS.iconst X31.here hx rfl (hb hby at_103) k) ?_
          show own_Fin _ _ _ _ _ _ (T31.setTop (mkF m 104 #[.val (.int p1), .val (.int p2), .val (.int (p1 &&& (16777215 : Int32))), .val (.ref ba), .val (.ref bb), .val (.int (1 : Int32)), .val (.int (1 : Int32)), .val (.int (0 : Int32))] [(.int (0 : Int32))]))
          refine own_retN X31 hx hlk (t := .boolean) hret (by simp) (hb hby at_104) (by decide) (by decide) ?_
          try rw [eh31]
          exact ⟨congrArg (fun z => some (Value.int z)) (Eq.symm (show own_law p1 p2 = _ from ((if_neg hc41_18).trans ((if_pos hc49_28).trans ((if_neg hc65_30).trans ((if_neg hc74_32).trans rfl)))))), N31⟩
    ·
      show own_Fin _ _ _ _ _ _ (T17.setTop (mkF m 49 #[.val (.int p1), .val (.int p2), .val (.int (p1 &&& (16777215 : Int32))), .val (.ref ba), .val (.ref bb), .val (.int (1 : Int32)), .unset, .unset] [(.int (0 : Int32)), (.int (own_empty (p1 &&& (16777215 : Int32))))]))
      refine own_to (fun t k => XS.icmpYes X17.here hx rfl (pc0 := 49) (pc' := 56) rfl (hb hby at_49) rfl (feq hc49_28).2 (by decide) (by decide) k) ?_
      show own_Fin _ _ _ _ _ _ (T17.setTop (mkF m 56 #[.val (.int p1), .val (.int p2), .val (.int (p1 &&& (16777215 : Int32))), .val (.ref ba), .val (.ref bb), .val (.int (1 : Int32)), .unset, .unset] []))
      refine own_to (fun t k => XS.iconst X17.here hx rfl (hb hby at_56) k) ?_
      show own_Fin _ _ _ _ _ _ (T17.setTop (mkF m 57 #[.val (.int p1), .val (.int p2), .val (.int (p1 &&& (16777215 : Int32))), .val (.ref ba), .val (.ref bb), .val (.int (1 : Int32)), .unset, .unset] [(.int (0 : Int32))]))
      refine own_to (fun t k => XS.istore X17.here hx rfl (hb hby at_57) rfl (l' := #[.val (.int p1), .val (.int p2), .val (.int (p1 &&& (16777215 : Int32))), .val (.ref ba), .val (.ref bb), .val (.int (1 : Int32)), .val (.int (0 : Int32)), .unset]) rfl k) ?_
      show own_Fin _ _ _ _ _ _ (T17.setTop (mkF m 59 #[.val (.int p1), .val (.int p2), .val (.int (p1 &&& (16777215 : Int32))), .val (.ref ba), .val (.ref bb), .val (.int (1 : Int32)), .val (.int (0 : Int32)), .unset] []))
      refine own_to (fun t k => XS.aloadN X17.here hx rfl (hb hby at_59) rfl rfl k) ?_
      show own_Fin _ _ _ _ _ _ (T17.setTop (mkF m 60 #[.val (.int p1), .val (.int p2), .val (.int (p1 &&& (16777215 : Int32))), .val (.ref ba), .val (.ref bb), .val (.int (1 : Int32)), .val (.int (0 : Int32)), .unset] [(.ref ba)]))
      refine own_to (fun t k => XS.aload X17.here hx rfl (hb hby at_60) rfl rfl k) ?_
      show own_Fin _ _ _ _ _ _ (T17.setTop (mkF m 62 #[.val (.int p1), .val (.int p2), .val (.int (p1 &&& (16777215 : Int32))), .val (.ref ba), .val (.ref bb), .val (.int (1 : Int32)), .val (.int (0 : Int32)), .unset] [(.ref bb), (.ref ba)]))
      obtain ⟨cq33, kq33, q33a, q33b, q33c⟩ := isOf hZ eh17 E_ba_e15
      obtain ⟨_, _, ⟨T33, L33, k33, n33⟩, -, X33, ⟨Lc33, hQ33, l33, y33, z33⟩, st33⟩ := X17.virtualBack hx (y := (⟨"com/example/inner_gate/innergate/PrivacySet", "equals", "(Ljava/lang/Object;)Z"⟩ : MethodName)) (z := (⟨"com/example/inner_gate/innergate/PrivacySet", "equals", "(Ljava/lang/Object;)Z"⟩ : MethodName)) hown (mvT hZ (hw _ (List.mem_of_getElem? (i := 27) rfl))) (mvT hZ (hw _ (List.mem_of_getElem? (i := 28) rfl))) (notFace_of_selects (args := #[]) (mvT hZ (hw _ (List.mem_of_getElem? (i := 30) rfl)))) (mvT hZ (hw _ (List.mem_of_getElem? (i := 30) rfl))) (mvT hZ (hw _ (List.mem_of_getElem? (i := 29) rfl))) (by decide) (own_back (W := 0) (own_rm6 l Z a0 hw [] ba bb (p1 &&& (16777215 : Int32)) (((p1 &&& (16777215 : Int32)) ||| (p2 <<< ((24 : Int32) &&& 31))) &&& (16777215 : Int32)) T15.heap n0 (Nat.le_trans (Nat.le_trans Z0 K14.1) K15.1) F_ba_e15 F_bb E_bb) hZ (hw _ (List.mem_of_getElem? (i := 31) rfl)) (hw _ (List.mem_of_getElem? (i := 3) rfl)) (by decide) (by decide)) q33a q33c (g := (mkF m 62 #[.val (.int p1), .val (.int p2), .val (.int (p1 &&& (16777215 : Int32))), .val (.ref ba), .val (.ref bb), .val (.int (1 : Int32)), .val (.int (0 : Int32)), .unset] [(.ref bb), (.ref ba)])) rfl (by rw [hml]; rfl) (Steps.refl _) (argsL := [(.ref bb)]) (rest := []) (lenOf own_pd5 rfl) rfl (by show 2 * 0 + _ ≤ _; exact Nat.le_of_eq rfl) (hb hby at_62) (fun _ _ => ⟨rfl, eh17, (by decide : 2 + 0 ≤ _), (by decide : 2 + 0 ≤ _)⟩)
      dsimp only [Pt.U, Pt.locs, Pt.cells, Pt.slots] at X33 l33 y33 z33 st33 hQ33
      subst l33 y33 z33
      obtain ⟨rfl, N33q, eh33⟩ := hQ33
      have N33 := Fr.app N17 N33q
      refine own_to (fun t k => st33.trans k) ?_
      show own_Fin _ _ _ _ _ _ (T33.setTop (mkF m 65 #[.val (.int p1), .val (.int p2), .val (.int (p1 &&& (16777215 : Int32))), .val (.ref ba), .val (.ref bb), .val (.int (1 : Int32)), .val (.int (0 : Int32)), .unset] [(.int (own_equals (p1 &&& (16777215 : Int32)) (((p1 &&& (16777215 : Int32)) ||| (p2 <<< ((24 : Int32) &&& 31))) &&& (16777215 : Int32))))]))
      by_cases hc65_34 : (own_equals (p1 &&& (16777215 : Int32)) (((p1 &&& (16777215 : Int32)) ||| (p2 <<< ((24 : Int32) &&& 31))) &&& (16777215 : Int32))) = (0 : Int32)
      ·
        show own_Fin _ _ _ _ _ _ (T33.setTop (mkF m 65 #[.val (.int p1), .val (.int p2), .val (.int (p1 &&& (16777215 : Int32))), .val (.ref ba), .val (.ref bb), .val (.int (1 : Int32)), .val (.int (0 : Int32)), .unset] [(.int (own_equals (p1 &&& (16777215 : Int32)) (((p1 &&& (16777215 : Int32)) ||| (p2 <<< ((24 : Int32) &&& 31))) &&& (16777215 : Int32))))]))
        refine own_to (fun t k => XS.ifYes X33.here hx rfl (pc0 := 65) (pc' := 81) rfl (hb hby at_65) rfl ((if0 _ _).trans (teq hc65_34).1) (by decide) (by decide) k) ?_
        show own_Fin _ _ _ _ _ _ (T33.setTop (mkF m 81 #[.val (.int p1), .val (.int p2), .val (.int (p1 &&& (16777215 : Int32))), .val (.ref ba), .val (.ref bb), .val (.int (1 : Int32)), .val (.int (0 : Int32)), .unset] []))
        refine own_to (fun t k => XS.iconst X33.here hx rfl (hb hby at_81) k) ?_
        show own_Fin _ _ _ _ _ _ (T33.setTop (mkF m 82 #[.val (.int p1), .val (.int p2), .val (.int (p1 &&& (16777215 : Int32))), .val (.ref ba), .val (.ref bb), .val (.int (1 : Int32)), .val (.int (0 : Int32)), .unset] [(.int (0 : Int32))]))
        refine own_to (fun t k => XS.istore X33.here hx rfl (hb hby at_82) rfl (l' := #[.val (.int p1), .val (.int p2), .val (.int (p1 &&& (16777215 : Int32))), .val (.ref ba), .val (.ref bb), .val (.int (1 : Int32)), .val (.int (0 : Int32)), .val (.int (0 : Int32))]) rfl k) ?_
        show own_Fin _ _ _ _ _ _ (T33.setTop (mkF m 84 #[.val (.int p1), .val (.int p2), .val (.int (p1 &&& (16777215 : Int32))), .val (.ref ba), .val (.ref bb), .val (.int (1 : Int32)), .val (.int (0 : Int32)), .val (.int (0 : Int32))] []))
        refine own_to (fun t k => XS.iload X33.here hx rfl (hb hby at_84) rfl k) ?_
        show own_Fin _ _ _ _ _ _ (T33.setTop (mkF m 86 #[.val (.int p1), .val (.int p2), .val (.int (p1 &&& (16777215 : Int32))), .val (.ref ba), .val (.ref bb), .val (.int (1 : Int32)), .val (.int (0 : Int32)), .val (.int (0 : Int32))] [(.int (1 : Int32))]))
        refine own_to (fun t k => XS.ifNo X33.here hx rfl (hb hby at_86) rfl ((if0 _ _).trans (feq (by decide)).1) k) ?_
        show own_Fin _ _ _ _ _ _ (T33.setTop (mkF m 89 #[.val (.int p1), .val (.int p2), .val (.int (p1 &&& (16777215 : Int32))), .val (.ref ba), .val (.ref bb), .val (.int (1 : Int32)), .val (.int (0 : Int32)), .val (.int (0 : Int32))] []))
        refine own_to (fun t k => XS.iload X33.here hx rfl (hb hby at_89) rfl k) ?_
        show own_Fin _ _ _ _ _ _ (T33.setTop (mkF m 91 #[.val (.int p1), .val (.int p2), .val (.int (p1 &&& (16777215 : Int32))), .val (.ref ba), .val (.ref bb), .val (.int (1 : Int32)), .val (.int (0 : Int32)), .val (.int (0 : Int32))] [(.int (0 : Int32))]))
        refine own_to (fun t k => XS.ifYes X33.here hx rfl (pc0 := 91) (pc' := 103) rfl (hb hby at_91) rfl ((if0 _ _).trans (teq rfl).1) (by decide) (by decide) k) ?_
        show own_Fin _ _ _ _ _ _ (T33.setTop (mkF m 103 #[.val (.int p1), .val (.int p2), .val (.int (p1 &&& (16777215 : Int32))), .val (.ref ba), .val (.ref bb), .val (.int (1 : Int32)), .val (.int (0 : Int32)), .val (.int (0 : Int32))] []))
        refine own_to (fun t k => XS.iconst X33.here hx rfl (hb hby at_103) k) ?_
        show own_Fin _ _ _ _ _ _ (T33.setTop (mkF m 104 #[.val (.int p1), .val (.int p2), .val (.int (p1 &&& (16777215 : Int32))), .val (.ref ba), .val (.ref bb), .val (.int (1 : Int32)), .val (.int (0 : Int32)), .val (.int (0 : Int32))] [(.int (0 : Int32))]))
        refine own_retN X33 hx hlk (t := .boolean) hret (by simp) (hb hby at_104) (by decide) (by decide) ?_
        try rw [eh33]
        exact ⟨congrArg (fun z => some (Value.int z)) (Eq.symm (show own_law p1 p2 = _ from ((if_neg hc41_18).trans ((if_neg hc49_28).trans ((if_pos hc65_34).trans rfl))))), N33⟩
      ·
        show own_Fin _ _ _ _ _ _ (T33.setTop (mkF m 65 #[.val (.int p1), .val (.int p2), .val (.int (p1 &&& (16777215 : Int32))), .val (.ref ba), .val (.ref bb), .val (.int (1 : Int32)), .val (.int (0 : Int32)), .unset] [(.int (own_equals (p1 &&& (16777215 : Int32)) (((p1 &&& (16777215 : Int32)) ||| (p2 <<< ((24 : Int32) &&& 31))) &&& (16777215 : Int32))))]))
        refine own_to (fun t k => XS.ifNo X33.here hx rfl (hb hby at_65) rfl ((if0 _ _).trans (feq hc65_34).1) k) ?_
        show own_Fin _ _ _ _ _ _ (T33.setTop (mkF m 68 #[.val (.int p1), .val (.int p2), .val (.int (p1 &&& (16777215 : Int32))), .val (.ref ba), .val (.ref bb), .val (.int (1 : Int32)), .val (.int (0 : Int32)), .unset] []))
        refine own_to (fun t k => XS.aload X33.here hx rfl (hb hby at_68) rfl rfl k) ?_
        show own_Fin _ _ _ _ _ _ (T33.setTop (mkF m 70 #[.val (.int p1), .val (.int p2), .val (.int (p1 &&& (16777215 : Int32))), .val (.ref ba), .val (.ref bb), .val (.int (1 : Int32)), .val (.int (0 : Int32)), .unset] [(.ref bb)]))
        obtain ⟨cq35, kq35, q35a, q35b, q35c⟩ := isOf hZ eh33 E_bb
        obtain ⟨_, _, ⟨T35, L35, k35, n35⟩, -, X35, ⟨Lc35, hQ35, l35, y35, z35⟩, st35⟩ := X33.virtualBack hx (y := (⟨"com/example/inner_gate/innergate/PrivacySet", "mask", "()I"⟩ : MethodName)) (z := (⟨"com/example/inner_gate/innergate/PrivacySet", "mask", "()I"⟩ : MethodName)) hown (mvT hZ (hw _ (List.mem_of_getElem? (i := 17) rfl))) (mvT hZ (hw _ (List.mem_of_getElem? (i := 18) rfl))) (notFace_of_selects (args := #[]) (mvT hZ (hw _ (List.mem_of_getElem? (i := 20) rfl)))) (mvT hZ (hw _ (List.mem_of_getElem? (i := 20) rfl))) (mvT hZ (hw _ (List.mem_of_getElem? (i := 19) rfl))) (by decide) (own_back (W := 0) (own_rm4 l Z a0 hw [] bb (((p1 &&& (16777215 : Int32)) ||| (p2 <<< ((24 : Int32) &&& 31))) &&& (16777215 : Int32)) T15.heap n0 (Nat.le_trans (Nat.le_trans Z0 K14.1) K15.1) F_bb) hZ (hw _ (List.mem_of_getElem? (i := 21) rfl)) (hw _ (List.mem_of_getElem? (i := 3) rfl)) (by decide) (by decide)) q35a q35c (g := (mkF m 70 #[.val (.int p1), .val (.int p2), .val (.int (p1 &&& (16777215 : Int32))), .val (.ref ba), .val (.ref bb), .val (.int (1 : Int32)), .val (.int (0 : Int32)), .unset] [(.ref bb)])) rfl (by rw [hml]; rfl) (Steps.refl _) (argsL := []) (rest := []) (lenOf own_pd3 rfl) rfl (by show 2 * 0 + _ ≤ _; exact Nat.le_of_eq rfl) (hb hby at_70) (fun _ _ => ⟨rfl, eh33, (by decide : 2 + 0 ≤ _), (by decide : 2 + 0 ≤ _)⟩)
        dsimp only [Pt.U, Pt.locs, Pt.cells, Pt.slots] at X35 l35 y35 z35 st35 hQ35
        subst l35 y35 z35
        obtain ⟨rfl, N35q, eh35⟩ := hQ35
        have N35 := Fr.app N33 N35q
        refine own_to (fun t k => st35.trans k) ?_
        show own_Fin _ _ _ _ _ _ (T35.setTop (mkF m 73 #[.val (.int p1), .val (.int p2), .val (.int (p1 &&& (16777215 : Int32))), .val (.ref ba), .val (.ref bb), .val (.int (1 : Int32)), .val (.int (0 : Int32)), .unset] [(.int (((p1 &&& (16777215 : Int32)) ||| (p2 <<< ((24 : Int32) &&& 31))) &&& (16777215 : Int32)))]))
        refine own_to (fun t k => XS.iloadN X35.here hx rfl (hb hby at_73) rfl k) ?_
        show own_Fin _ _ _ _ _ _ (T35.setTop (mkF m 74 #[.val (.int p1), .val (.int p2), .val (.int (p1 &&& (16777215 : Int32))), .val (.ref ba), .val (.ref bb), .val (.int (1 : Int32)), .val (.int (0 : Int32)), .unset] [(.int (p1 &&& (16777215 : Int32))), (.int (((p1 &&& (16777215 : Int32)) ||| (p2 <<< ((24 : Int32) &&& 31))) &&& (16777215 : Int32)))]))
        by_cases hc74_36 : (((p1 &&& (16777215 : Int32)) ||| (p2 <<< ((24 : Int32) &&& 31))) &&& (16777215 : Int32)) = (p1 &&& (16777215 : Int32))
        ·
          show own_Fin _ _ _ _ _ _ (T35.setTop (mkF m 74 #[.val (.int p1), .val (.int p2), .val (.int (p1 &&& (16777215 : Int32))), .val (.ref ba), .val (.ref bb), .val (.int (1 : Int32)), .val (.int (0 : Int32)), .unset] [(.int (p1 &&& (16777215 : Int32))), (.int (((p1 &&& (16777215 : Int32)) ||| (p2 <<< ((24 : Int32) &&& 31))) &&& (16777215 : Int32)))]))
          refine own_to (fun t k => XS.icmpNo X35.here hx rfl (hb hby at_74) rfl (teq hc74_36).2 k) ?_
          show own_Fin _ _ _ _ _ _ (T35.setTop (mkF m 77 #[.val (.int p1), .val (.int p2), .val (.int (p1 &&& (16777215 : Int32))), .val (.ref ba), .val (.ref bb), .val (.int (1 : Int32)), .val (.int (0 : Int32)), .unset] []))
          refine own_to (fun t k => XS.iconst X35.here hx rfl (hb hby at_77) k) ?_
          show own_Fin _ _ _ _ _ _ (T35.setTop (mkF m 78 #[.val (.int p1), .val (.int p2), .val (.int (p1 &&& (16777215 : Int32))), .val (.ref ba), .val (.ref bb), .val (.int (1 : Int32)), .val (.int (0 : Int32)), .unset] [(.int (1 : Int32))]))
          refine own_to (fun t k => XS.goto X35.here hx rfl (pc0 := 78) (pc' := 82) rfl (hb hby at_78) (by decide) (by decide) k) ?_
          show own_Fin _ _ _ _ _ _ (T35.setTop (mkF m 82 #[.val (.int p1), .val (.int p2), .val (.int (p1 &&& (16777215 : Int32))), .val (.ref ba), .val (.ref bb), .val (.int (1 : Int32)), .val (.int (0 : Int32)), .unset] [(.int (1 : Int32))]))
          refine own_to (fun t k => XS.istore X35.here hx rfl (hb hby at_82) rfl (l' := #[.val (.int p1), .val (.int p2), .val (.int (p1 &&& (16777215 : Int32))), .val (.ref ba), .val (.ref bb), .val (.int (1 : Int32)), .val (.int (0 : Int32)), .val (.int (1 : Int32))]) rfl k) ?_
          show own_Fin _ _ _ _ _ _ (T35.setTop (mkF m 84 #[.val (.int p1), .val (.int p2), .val (.int (p1 &&& (16777215 : Int32))), .val (.ref ba), .val (.ref bb), .val (.int (1 : Int32)), .val (.int (0 : Int32)), .val (.int (1 : Int32))] []))
          refine own_to (fun t k => XS.iload X35.here hx rfl (hb hby at_84) rfl k) ?_
          show own_Fin _ _ _ _ _ _ (T35.setTop (mkF m 86 #[.val (.int p1), .val (.int p2), .val (.int (p1 &&& (16777215 : Int32))), .val (.ref ba), .val (.ref bb), .val (.int (1 : Int32)), .val (.int (0 : Int32)), .val (.int (1 : Int32))] [(.int (1 : Int32))]))
          refine own_to (fun t k => XS.ifNo X35.here hx rfl (hb hby at_86) rfl ((if0 _ _).trans (feq (by decide)).1) k) ?_
          show own_Fin _ _ _ _ _ _ (T35.setTop (mkF m 89 #[.val (.int p1), .val (.int p2), .val (.int (p1 &&& (16777215 : Int32))), .val (.ref ba), .val (.ref bb), .val (.int (1 : Int32)), .val (.int (0 : Int32)), .val (.int (1 : Int32))] []))
          refine own_to (fun t k => XS.iload X35.here hx rfl (hb hby at_89) rfl k) ?_
          show own_Fin _ _ _ _ _ _ (T35.setTop (mkF m 91 #[.val (.int p1), .val (.int p2), .val (.int (p1 &&& (16777215 : Int32))), .val (.ref ba), .val (.ref bb), .val (.int (1 : Int32)), .val (.int (0 : Int32)), .val (.int (1 : Int32))] [(.int (0 : Int32))]))
          refine own_to (fun t k => XS.ifYes X35.here hx rfl (pc0 := 91) (pc' := 103) rfl (hb hby at_91) rfl ((if0 _ _).trans (teq rfl).1) (by decide) (by decide) k) ?_
          show own_Fin _ _ _ _ _ _ (T35.setTop (mkF m 103 #[.val (.int p1), .val (.int p2), .val (.int (p1 &&& (16777215 : Int32))), .val (.ref ba), .val (.ref bb), .val (.int (1 : Int32)), .val (.int (0 : Int32)), .val (.int (1 : Int32))] []))
          refine own_to (fun t k => XS.iconst X35.here hx rfl (hb hby at_103) k) ?_
          show own_Fin _ _ _ _ _ _ (T35.setTop (mkF m 104 #[.val (.int p1), .val (.int p2), .val (.int (p1 &&& (16777215 : Int32))), .val (.ref ba), .val (.ref bb), .val (.int (1 : Int32)), .val (.int (0 : Int32)), .val (.int (1 : Int32))] [(.int (0 : Int32))]))
          refine own_retN X35 hx hlk (t := .boolean) hret (by simp) (hb hby at_104) (by decide) (by decide) ?_
          try rw [eh35]
          exact ⟨congrArg (fun z => some (Value.int z)) (Eq.symm (show own_law p1 p2 = _ from ((if_neg hc41_18).trans ((if_neg hc49_28).trans ((if_neg hc65_34).trans ((if_pos hc74_36).trans rfl)))))), N35⟩
        ·
          show own_Fin _ _ _ _ _ _ (T35.setTop (mkF m 74 #[.val (.int p1), .val (.int p2), .val (.int (p1 &&& (16777215 : Int32))), .val (.ref ba), .val (.ref bb), .val (.int (1 : Int32)), .val (.int (0 : Int32)), .unset] [(.int (p1 &&& (16777215 : Int32))), (.int (((p1 &&& (16777215 : Int32)) ||| (p2 <<< ((24 : Int32) &&& 31))) &&& (16777215 : Int32)))]))
          refine own_to (fun t k => XS.icmpYes X35.here hx rfl (pc0 := 74) (pc' := 81) rfl (hb hby at_74) rfl (feq hc74_36).2 (by decide) (by decide) k) ?_
          show own_Fin _ _ _ _ _ _ (T35.setTop (mkF m 81 #[.val (.int p1), .val (.int p2), .val (.int (p1 &&& (16777215 : Int32))), .val (.ref ba), .val (.ref bb), .val (.int (1 : Int32)), .val (.int (0 : Int32)), .unset] []))
          refine own_to (fun t k => XS.iconst X35.here hx rfl (hb hby at_81) k) ?_
          show own_Fin _ _ _ _ _ _ (T35.setTop (mkF m 82 #[.val (.int p1), .val (.int p2), .val (.int (p1 &&& (16777215 : Int32))), .val (.ref ba), .val (.ref bb), .val (.int (1 : Int32)), .val (.int (0 : Int32)), .unset] [(.int (0 : Int32))]))
          refine own_to (fun t k => XS.istore X35.here hx rfl (hb hby at_82) rfl (l' := #[.val (.int p1), .val (.int p2), .val (.int (p1 &&& (16777215 : Int32))), .val (.ref ba), .val (.ref bb), .val (.int (1 : Int32)), .val (.int (0 : Int32)), .val (.int (0 : Int32))]) rfl k) ?_
          show own_Fin _ _ _ _ _ _ (T35.setTop (mkF m 84 #[.val (.int p1), .val (.int p2), .val (.int (p1 &&& (16777215 : Int32))), .val (.ref ba), .val (.ref bb), .val (.int (1 : Int32)), .val (.int (0 : Int32)), .val (.int (0 : Int32))] []))
          refine own_to (fun t k => XS.iload X35.here hx rfl (hb hby at_84) rfl k) ?_
          show own_Fin _ _ _ _ _ _ (T35.setTop (mkF m 86 #[.val (.int p1), .val (.int p2), .val (.int (p1 &&& (16777215 : Int32))), .val (.ref ba), .val (.ref bb), .val (.int (1 : Int32)), .val (.int (0 : Int32)), .val (.int (0 : Int32))] [(.int (1 : Int32))]))
          refine own_to (fun t k => XS.ifNo X35.here hx rfl (hb hby at_86) rfl ((if0 _ _).trans (feq (by decide)).1) k) ?_
          show own_Fin _ _ _ _ _ _ (T35.setTop (mkF m 89 #[.val (.int p1), .val (.int p2), .val (.int (p1 &&& (16777215 : Int32))), .val (.ref ba), .val (.ref bb), .val (.int (1 : Int32)), .val (.int (0 : Int32)), .val (.int (0 : Int32))] []))
          refine own_to (fun t k => XS.iload X35.here hx rfl (hb hby at_89) rfl k) ?_
          show own_Fin _ _ _ _ _ _ (T35.setTop (mkF m 91 #[.val (.int p1), .val (.int p2), .val (.int (p1 &&& (16777215 : Int32))), .val (.ref ba), .val (.ref bb), .val (.int (1 : Int32)), .val (.int (0 : Int32)), .val (.int (0 : Int32))] [(.int (0 : Int32))]))
          refine own_to (fun t k => XS.ifYes X35.here hx rfl (pc0 := 91) (pc' := 103) rfl (hb hby at_91) rfl ((if0 _ _).trans (teq rfl).1) (by decide) (by decide) k) ?_
          show own_Fin _ _ _ _ _ _ (T35.setTop (mkF m 103 #[.val (.int p1), .val (.int p2), .val (.int (p1 &&& (16777215 : Int32))), .val (.ref ba), .val (.ref bb), .val (.int (1 : Int32)), .val (.int (0 : Int32)), .val (.int (0 : Int32))] []))
          refine own_to (fun t k => XS.iconst X35.here hx rfl (hb hby at_103) k) ?_
          show own_Fin _ _ _ _ _ _ (T35.setTop (mkF m 104 #[.val (.int p1), .val (.int p2), .val (.int (p1 &&& (16777215 : Int32))), .val (.ref ba), .val (.ref bb), .val (.int (1 : Int32)), .val (.int (0 : Int32)), .val (.int (0 : Int32))] [(.int (0 : Int32))]))
          refine own_retN X35 hx hlk (t := .boolean) hret (by simp) (hb hby at_104) (by decide) (by decide) ?_
          try rw [eh35]
          exact ⟨congrArg (fun z => some (Value.int z)) (Eq.symm (show own_law p1 p2 = _ from ((if_neg hc41_18).trans ((if_neg hc49_28).trans ((if_neg hc65_34).trans ((if_neg hc74_36).trans rfl)))))), N35⟩
theorem own_hi (x : Int32) : (x <<< ((24 : Int32) &&& 31)) &&& (16777215 : Int32) = 0 := by
  apply Int32.toBitVec_inj.mp
  rw [Int32.toBitVec_and, Int32.toBitVec_shiftLeft]
  have e : ((24 : Int32) &&& 31).toBitVec.smod 32 = 24#32 := by decide
  rw [e]
  apply BitVec.eq_of_getLsbD_eq
  intro i hi
  rw [BitVec.getLsbD_and, BitVec.shiftLeft_eq', BitVec.getLsbD_shiftLeft]
  have e2 : (16777215 : Int32).toBitVec = (BitVec.allOnes 24).setWidth 32 := by decide
  rw [e2, BitVec.getLsbD_setWidth, BitVec.getLsbD_allOnes]
  have e3 : (24#32).toNat = 24 := by decide
  rw [e3]
  by_cases h : i < 24
  · simp [h]
  · simp [h]
theorem own_e (p q : Int32) : ((p &&& (16777215 : Int32)) ||| (q <<< ((24 : Int32) &&& 31))) &&& (16777215 : Int32) = p &&& (16777215 : Int32) := by
  have d : ∀ a b c : Int32, (a ||| b) &&& c = (a &&& c) ||| (b &&& c) := fun a b c => by
    apply Int32.toBitVec_inj.mp
    simp only [Int32.toBitVec_or, Int32.toBitVec_and]
    ext i hi
    simp
    cases a.toBitVec[i] <;> cases b.toBitVec[i] <;> cases c.toBitVec[i] <;> rfl
  rw [d, own_hi, Int32.or_zero, Int32.and_assoc, Int32.and_self]
theorem own_true (p q : Int32) : own_law p q = 1 := by
  unfold own_law
  simp only [own_e]
  unfold own_empty own_equals
  by_cases h : p &&& (16777215 : Int32) = 0
  · simp [h]
  · simp [h]
theorem own_rm0 (l : Launch) (Z : State) (a0 : Array Value) (hw : ∀ d ∈ tables_1, d.before a0 Z = true) (ws : List Jvm.Cond) (p1 p2 : Int32) (h0 : Heap) (n0 : Nat) (Z0 : n0 ≤ h0.size) (O0 : Old Z n0 h0) (SS : Sta Z Z.heap "com/example/inner_gate/innergate/PrivacySet" "CATALOGUE_BITS" "I" (.int (16777215 : Int32))) :
    own_Met l Z x code maxLocals ret ws room_1 #[(.int p1), (.int p2)] h0 (fun v h L => v = some (.int 1) ∧ Fr n0 L) := by
  have k := own_rm0x l Z a0 hw ws p1 p2 h0 n0 Z0 O0 SS
  rw [own_true p1 p2] at k
  exact k
set_option maxRecDepth 65536 in
set_option maxHeartbeats 40000000 in
theorem comes_1 {Post : Tables → Env → Array Value → State → Outcome → State → Prop} (hpost : ∀ tb e args s v u, (limb_1_1.after args s (.returned v) u = true ∧ limb_1_2.after args s (.returned v) u = true ∧ True) → FrameEnd s (.returned v) u (Jvm.fieldLocs frame_1_writes args s ++ Jvm.arrayLocs frame_1_arrays args s ++ Jvm.staticLocs frame_1_statics s) 16 128 → Post tb e args s (.returned v) u) :
    ArmFor flags0 classFile x code maxLocals ret World_1 tables_1 room_1 Calls_1 rest_1 Pre_1 Post := by
  intro l hfl _ _ p e ha hc hk s m args below hf hA hF happ hP
  obtain ⟨hcalls, hrest, hpre⟩ := hP
  obtain ⟨-, -, -, hnamed, -, -, -, hat⟩ := (Spec.applies_iff hf).mp happ
  obtain ⟨hg, hn⟩ := and_e (Cond.before_iff.mp (show (Jvm.Cond.and given_1 narrow_1).before args s = true from hpre))
  obtain ⟨g1, g2⟩ := and_e hg
  obtain ⟨g3, g4⟩ := and_e g2
  obtain ⟨w0, w1, rfl⟩ : ∃ w0 w1 : Value, args = #[w0, w1] := by
    have hs : args.size = 2 := by simpa [Cond.value, given_1] using g1
    obtain ⟨L⟩ := args
    match L, hs with
    | [w0, w1], _ => exact ⟨w0, w1, rfl⟩
  have hw := fun d (hd : d ∈ tables_1) => atoms_spec (ws := Jvm.Cond.code x code maxLocals ret :: tables_1) hat d (List.mem_cons_of_mem _ hd)
  have hfit : Fit s := fun {y c} hc i hi => by
    obtain ⟨ha, rfl⟩ := Array.getElem?_eq_some_iff.mp hc
    have q := List.all_eq_true.mp ((Array.all_eq_true_iff_forall_mem.mp hF) _ (Array.getElem_mem ha)) i (List.mem_range.mpr hi)
    simpa [Array.getElem?_eq_getElem hi] using q
  obtain ⟨i0, ei0⟩ := is_v g3
  obtain rfl : w0 = (.int i0) := Option.some.inj ei0
  obtain ⟨i1, ei1⟩ := is_v g4
  obtain rfl : w1 = (.int i1) := Option.some.inj ei1
  have eS := eqv_i (Term.int_eval 16777215) (show (narrow_1).value _ s none s [] = some true from hn)
  obtain ⟨n, o, h1, h2, h3, _, L, rfl, ⟨rfl, N⟩, hq⟩ := own_rm0 l s _ hw tables_1 i0 i1 s.heap s.heap.size (Nat.le_refl _) (Old.start s) (Sta.start eS (Or.inr ⟨(hw _ (List.mem_of_getElem? (i := 3) rfl)), (hw _ (List.mem_of_getElem? (i := 8) rfl))⟩)) p e ha hc hk s m _ below hf ((Spec.applies_iff_loose hf).mp happ).1 ⟨rfl, State.Warmed39.refl s, rfl⟩ trivial
  refine ⟨n, _, h1, h2, h3, hpost _ _ _ _ _ _ ⟨Cond.after_iff.mpr rfl, Cond.after_iff.mpr (eq_i res_at (Term.int_eval (1)) rfl), trivial⟩ ⟨hq.1, hq.2.1, (hq.2.2.sift fun y hy => Or.inr (N y hy)).mono (by decide) (by decide)⟩⟩
theorem main_1_1 : Claimed_1_1 := comes_1 fun _ _ _ _ _ _ h hF => ⟨h.1, hF⟩
theorem main_1_2 : Claimed_1_2 := comes_1 fun _ _ _ _ _ _ h hF => ⟨h.2.1, hF⟩
end Jvm.Pilot.@@N@@
namespace Jvm.Pilot.@@N@@
open Jvm Jvm.ClassFile Sem Op Lib Jvm.Free Jvm.Stand Jvm.Pilot.@@N@@.Jvm.D
/-! MADE BY PROGRAM (witnessworld.py) out of the Statement's table words and the real class files: 9 classes; the members and pool entries that the words name. The judged class is class 1, her method 1. -/
namespace start1
open Jvm.ClassFile
def u (s : String) : CpInfo := .utf8 (stringToUtf16 s)
/-- a pool by its gaps: so many unusable entries, then the entry; so many at the end -/
def gap : Nat → List CpInfo → List CpInfo
  | 0, r => r
  | n + 1, r => .unusable :: gap n r
def poolList (es : List (Nat × CpInfo)) (last : Nat) : List CpInfo := es.foldr (fun e r => gap e.1 (e.2 :: r)) (gap last [])
def pool (es : List (Nat × CpInfo)) (last : Nat) : Array CpInfo := ⟨poolList es last⟩
def fileOf (pool : Array CpInfo) (this : Nat) (attrs : Array Attribute := #[]) (ms : Array MethodInfo := #[]) (fl : Nat := 33) (sup : Nat := 0) (ifs : Array Nat := #[]) (fds : Array FieldInfo := #[]) : ClassFile where
  minorVersion := 0
  majorVersion := 65
  constantPool := pool
  accessFlags := fl
  thisClass := this
  superClass := sup
  interfaces := ifs
  fields := fds
  methods := ms
  attributes := attrs
def plain (name : String) (sup : Option ClassId) : Class where
  name := name
  kind := .ordinary
  loader := none
  accessFlags := 33
  super := sup
  interfaces := #[]
  cf := none
  fields := #[]
  methods := #[]
  instanceTypes := #[]
  staticTypes := #[]
  resolved := #[]
  callSites := []
  init := .initialized
  statics := none
  mirror := none

def pool0 : Array CpInfo := pool [(5, u "<init>"), (0, u "()V"), (1, .class_ 10), (1, u "java/lang/Object")] 113

def k0c0 : Code := { maxStack := 0, maxLocals := 1, code := object_method_1_code, exceptionTable := #[], attributes := #[] }
def k0m0 : Method := { name := "<init>", desc := "()V", sig := { parameters := [], returnType := none }, accessFlags := 1, code := some k0c0 }
/-- java/lang/Object -/
def k0 : Class := { plain "java/lang/Object" none with
  accessFlags := 33
  interfaces := #[]
  cf := some (fileOf pool0 8 #[] #[{ accessFlags := 1, nameIndex := 5, descriptorIndex := 6, attributes := #[] }] 33 0 #[] #[])
  fields := #[]
  methods := #[k0m0]
  instanceTypes := #[]
  staticTypes := #[]
  resolved := Array.replicate 124 none
  statics := none }

def pool1 : Array CpInfo := pool [(2, .class_ 4), (1, u "java/lang/Object"), (0, u "<init>"), (0, u "()V"), (0, .integer 16777215), (0, .methodref 9 10), (0, .class_ 11), (0, .nameAndType 12 13), (0, u "com/example/inner_gate/innergate/PrivacySet"), (0, u "fromMask"), (0, u "(I)Lcom/example/inner_gate/innergate/PrivacySet;"), (0, .methodref 9 15), (0, .nameAndType 16 17), (0, u "mask"), (0, u "()I"), (0, .methodref 9 19), (0, .nameAndType 20 21), (0, u "isEmpty"), (0, u "()Z"), (0, .methodref 9 23), (0, .nameAndType 24 25), (0, u "equals"), (0, u "(Ljava/lang/Object;)Z"), (0, .class_ 27), (0, u "com/example/inner_gate/innergate/PrivacySetFromMaskPinLaw"), (2, u "law"), (0, u "(II)Z")] 3

def k1m0 : Method := { name := "<init>", desc := "()V", sig := { parameters := [], returnType := none }, accessFlags := 2, code := none }
def k1c1 : Code := { maxStack := 3, maxLocals := 8, code := code, exceptionTable := #[], attributes := #[] }
def k1m1 : Method := { name := "law", desc := "(II)Z", sig := { parameters := [.int, .int], returnType := some .boolean }, accessFlags := 9, code := some k1c1 }
/-- com/example/inner_gate/innergate/PrivacySetFromMaskPinLaw -/
def k1 : Class := { plain "com/example/inner_gate/innergate/PrivacySetFromMaskPinLaw" (some 0) with
  accessFlags := 49
  interfaces := #[]
  cf := some (fileOf pool1 26 #[] #[{ accessFlags := 2, nameIndex := 5, descriptorIndex := 6, attributes := #[] }, { accessFlags := 9, nameIndex := 30, descriptorIndex := 31, attributes := #[] }] 49 2 #[] #[])
  fields := #[]
  methods := #[k1m0, k1m1]
  instanceTypes := #[]
  staticTypes := #[]
  resolved := Array.replicate 35 none
  statics := none }

def pool2 : Array CpInfo := pool [(1, .methodref 2 3), (0, .class_ 4), (0, .nameAndType 5 6), (0, u "java/lang/Object"), (0, u "<init>"), (0, u "()V"), (0, .fieldref 8 9), (0, .class_ 10), (0, .nameAndType 11 12), (0, u "com/example/inner_gate/innergate/PrivacySet"), (0, u "mask"), (0, u "I"), (11, u "()Z"), (20, .methodref 8 46), (0, .nameAndType 5 47), (0, u "(I)V"), (0, .fieldref 8 49), (0, .nameAndType 50 12), (0, u "CATALOGUE_BITS"), (12, u "equals"), (0, u "(Ljava/lang/Object;)Z"), (2, u "EMPTY"), (0, u "Lcom/example/inner_gate/innergate/PrivacySet;"), (5, u "()I"), (10, u "fromMask"), (0, u "(I)Lcom/example/inner_gate/innergate/PrivacySet;"), (17, u "isEmpty"), (87, u "NONE"), (0, u "Ljava/lang/String;"), (1, u "MASK_PREFIX"), (0, u "MASK_DIGITS")] 55

def k2c0 : Code := { maxStack := 2, maxLocals := 2, code := prog_40_method_1_code, exceptionTable := #[], attributes := #[] }
def k2m0 : Method := { name := "<init>", desc := "(I)V", sig := { parameters := [.int], returnType := none }, accessFlags := 2, code := some k2c0 }
def k2c1 : Code := { maxStack := 4, maxLocals := 1, code := prog_40_method_3_code, exceptionTable := #[], attributes := #[] }
def k2m1 : Method := { name := "fromMask", desc := "(I)Lcom/example/inner_gate/innergate/PrivacySet;", sig := { parameters := [.int], returnType := some (.object "com/example/inner_gate/innergate/PrivacySet") }, accessFlags := 9, code := some k2c1 }
def k2c2 : Code := { maxStack := 1, maxLocals := 1, code := prog_40_method_7_code, exceptionTable := #[], attributes := #[] }
def k2m2 : Method := { name := "mask", desc := "()I", sig := { parameters := [], returnType := some .int }, accessFlags := 1, code := some k2c2 }
def k2c3 : Code := { maxStack := 1, maxLocals := 1, code := prog_40_method_8_code, exceptionTable := #[], attributes := #[] }
def k2m3 : Method := { name := "isEmpty", desc := "()Z", sig := { parameters := [], returnType := some .boolean }, accessFlags := 1, code := some k2c3 }
def k2c4 : Code := { maxStack := 2, maxLocals := 2, code := prog_40_method_10_code, exceptionTable := #[], attributes := #[] }
def k2m4 : Method := { name := "equals", desc := "(Ljava/lang/Object;)Z", sig := { parameters := [(.object "java/lang/Object")], returnType := some .boolean }, accessFlags := 1, code := some k2c4 }
/-- com/example/inner_gate/innergate/PrivacySet -/
def k2 : Class := { plain "com/example/inner_gate/innergate/PrivacySet" (some 0) with
  accessFlags := 49
  interfaces := #[]
  cf := some (fileOf pool2 8 #[] #[{ accessFlags := 2, nameIndex := 5, descriptorIndex := 47, attributes := #[] }, { accessFlags := 9, nameIndex := 85, descriptorIndex := 86, attributes := #[] }, { accessFlags := 1, nameIndex := 11, descriptorIndex := 74, attributes := #[] }, { accessFlags := 1, nameIndex := 104, descriptorIndex := 24, attributes := #[] }, { accessFlags := 1, nameIndex := 63, descriptorIndex := 64, attributes := #[] }] 49 2 #[] #[{ accessFlags := 26, nameIndex := 50, descriptorIndex := 12, attributes := #[] }, { accessFlags := 25, nameIndex := 67, descriptorIndex := 68, attributes := #[] }, { accessFlags := 26, nameIndex := 192, descriptorIndex := 193, attributes := #[] }, { accessFlags := 26, nameIndex := 195, descriptorIndex := 193, attributes := #[] }, { accessFlags := 26, nameIndex := 196, descriptorIndex := 12, attributes := #[] }, { accessFlags := 18, nameIndex := 11, descriptorIndex := 12, attributes := #[] }])
  fields := #[{ name := "CATALOGUE_BITS", type := .int, accessFlags := 26, slot := 0, constantValue := 0 }, { name := "EMPTY", type := (.object "com/example/inner_gate/innergate/PrivacySet"), accessFlags := 25, slot := 1, constantValue := 0 }, { name := "NONE", type := (.object "java/lang/String"), accessFlags := 26, slot := 2, constantValue := 0 }, { name := "MASK_PREFIX", type := (.object "java/lang/String"), accessFlags := 26, slot := 3, constantValue := 0 }, { name := "MASK_DIGITS", type := .int, accessFlags := 26, slot := 4, constantValue := 0 }, { name := "mask", type := .int, accessFlags := 18, slot := 0, constantValue := 0 }]
  methods := #[k2m0, k2m1, k2m2, k2m3, k2m4]
  instanceTypes := #[.int]
  staticTypes := #[.int, (.object "com/example/inner_gate/innergate/PrivacySet"), (.object "java/lang/String"), (.object "java/lang/String"), .int]
  resolved := Array.replicate 252 none
  statics := some 0 }

def pool3 : Array CpInfo := pool [(1, u "java/lang/Cloneable"), (0, .class_ 1), (0, u "java/lang/Object"), (0, .class_ 3)] 3

/-- java/lang/Cloneable -/
def k3 : Class := { plain "java/lang/Cloneable" (some 0) with
  accessFlags := 1537
  interfaces := #[]
  cf := some (fileOf pool3 2 #[] #[] 1537 4 #[] #[])
  fields := #[]
  methods := #[]
  instanceTypes := #[]
  staticTypes := #[]
  resolved := Array.replicate 8 none
  statics := none }

def pool4 : Array CpInfo := pool [(1, u "java/io/Serializable"), (0, .class_ 1), (0, u "java/lang/Object"), (0, .class_ 3)] 3

/-- java/io/Serializable -/
def k4 : Class := { plain "java/io/Serializable" (some 0) with
  accessFlags := 1537
  interfaces := #[]
  cf := some (fileOf pool4 2 #[] #[] 1537 4 #[] #[])
  fields := #[]
  methods := #[]
  instanceTypes := #[]
  staticTypes := #[]
  resolved := Array.replicate 8 none
  statics := none }

/-- the primitive byte -/
def k5 : Class := { plain "byte" none with kind := .primitive 'B', accessFlags := 0x411 }
/-- [B -/
def k6 : Class := { plain "[B" (some 0) with kind := .array 5 .byte, interfaces := #[3, 4], accessFlags := 1041 }

/-- the primitive int -/
def k7 : Class := { plain "int" none with kind := .primitive 'I', accessFlags := 0x411 }
/-- [I -/
def k8 : Class := { plain "[I" (some 0) with kind := .array 7 .int, interfaces := #[3, 4], accessFlags := 1041 }

def heap : Heap := #[{ cls := 2, slots := #[.int 16777215, .null, .null, .null, .int 0], vm := .statics 2 }]
def classes : Array Class := #[k0, k1, k2, k3, k4, k5, k6, k7, k8]
def interned : List (Array UInt16 × Addr) := []
def slotsUsed : Nat := 5
def theMethod : MethodId := ⟨1, 1⟩
def args0 : Array Value := #[.int 5, .int 7]
def aboutOver (below : List Frame) : State where
  vm := { classes := classes, interned := interned.toArray }
  heap := heap
  slotsUsed := slotsUsed
  threads := #[{ frames := .invoking theMethod args0 :: below }]
def below0 : List Frame := [.native { method := ⟨0, 0⟩, args := #[] }]
def about1 : State := aboutOver below0
def p0 : Program := .bare "" "" ""
def e0 : Env := launch0.env 0 0 0
theorem w_frames : about1.frames = Frame.invoking theMethod args0 :: below0 := rfl
set_option maxRecDepth 65536 in
theorem w_args : argsFit about1.vm theMethod args0 = true := by decide +kernel
set_option maxRecDepth 65536 in
theorem w_heap : heapFits about1 = true := by decide +kernel
set_option maxRecDepth 65536 in
theorem w_runnable : about1.curStatus? = some .runnable := by decide +kernel
set_option maxRecDepth 65536 in
theorem w_alone : about1.alone = true := by decide +kernel
set_option maxRecDepth 65536 in
theorem w_named : about1.methodNamed? x = some theMethod := by decide +kernel
set_option maxRecDepth 65536 in
theorem w_hears : about1.hears theMethod below0 = true := by decide +kernel
set_option maxRecDepth 65536 in
theorem w_ripe : about1.ripe theMethod args0 below0 = true := by decide +kernel
theorem w_running : about1.status = .running := rfl
set_option maxRecDepth 65536 in
theorem w_room : about1.hasRoom e0.platform room_1 = true :=
  launch0.hasRoom_least _ room_1 (by decide +kernel) (by decide +kernel) (by decide +kernel) (by decide +kernel) (by decide +kernel) (by decide +kernel)
theorem allAtoms_all (ts : List Jvm.Cond) (a : Array Jvm.Value) (st : Jvm.State) : (allAtoms ts).before a st = ts.all (fun c => c.before a st) := by
  induction ts with
  | nil => rfl
  | cons c t ih =>
    show (Jvm.Cond.and c (allAtoms t)).before a st = _
    rw [Jvm.Cond.before_and, ih, List.all_cons]
def words1 : List Jvm.Cond := Jvm.Cond.code x code maxLocals ret :: tables_1
/-- a 'code' word, met by the world's own term for the bytes: nothing is compared byte by byte -/
theorem code_word {y : MethodName} {bytes : ByteArray} {mx : Nat} {rt : Option FieldType} {a : Array Value} {s : State} {m : MethodId} {meth : Method} {c : Code} (h1 : s.methodNamed? y = some m) (h2 : s.vm.method? m = some meth) (h3 : meth.code = some c) (h4 : c.code = bytes)
    (h5 : (c.maxLocals == mx && c.exceptionTable.isEmpty && decide (c.maxStack ≤ mostOperands) && decide (meth.sig.returnType = rt) && !meth.locks && decide (parseMethodDescriptor y.desc = some meth.sig)) = true) : (Jvm.Cond.code y bytes mx rt).before a s = true := by
  simp only [Bool.and_eq_true, beq_iff_eq, Bool.not_eq_true', decide_eq_true_eq] at h5
  obtain ⟨⟨⟨⟨⟨g1, g2⟩, g3⟩, g4⟩, g5⟩, g6⟩ := h5
  simp [Cond.before, Cond.holds, Cond.value, h1, h2, h3, h4, g1, g2, g3, g4, g5, g6]
def isCode : Jvm.Cond → Bool
  | .code _ _ _ _ => true
  | _ => false
theorem all_split {L : List Jvm.Cond} {P : Jvm.Cond → Bool} (h1 : L.all (fun c => isCode c || P c) = true) (h2 : ∀ c ∈ L.filter isCode, P c = true) : L.all P = true := by
  refine List.all_eq_true.mpr fun c hc => ?_
  have h := List.all_eq_true.mp h1 c hc
  rcases Bool.eq_false_or_eq_true (isCode c) with hi | hi
  · exact h2 c (List.mem_filter.mpr ⟨hc, hi⟩)
  · simpa [hi] using h
set_option maxRecDepth 65536 in
theorem w_c0 : (Jvm.Cond.code x code maxLocals ret).before args0 about1 = true := code_word (m := ⟨1, 1⟩) (meth := k1m1) (c := k1c1) (by decide +kernel) rfl rfl rfl (by decide +kernel)
set_option maxRecDepth 65536 in
theorem w_c1 : (Jvm.Cond.code ({ cls := "com/example/inner_gate/innergate/PrivacySet", name := "fromMask", desc := "(I)Lcom/example/inner_gate/innergate/PrivacySet;" } : Jvm.MethodName) prog_40_method_3_code (1 : Nat) (Option.some (Jvm.ClassFile.FieldType.object "com/example/inner_gate/innergate/PrivacySet"))).before args0 about1 = true := code_word (m := ⟨2, 1⟩) (meth := k2m1) (c := k2c1) (by decide +kernel) rfl rfl rfl (by decide +kernel)
set_option maxRecDepth 65536 in
theorem w_c2 : (Jvm.Cond.code ({ cls := "com/example/inner_gate/innergate/PrivacySet", name := "<init>", desc := "(I)V" } : Jvm.MethodName) prog_40_method_1_code (2 : Nat) (Option.none : Option Jvm.ClassFile.FieldType)).before args0 about1 = true := code_word (m := ⟨2, 0⟩) (meth := k2m0) (c := k2c0) (by decide +kernel) rfl rfl rfl (by decide +kernel)
set_option maxRecDepth 65536 in
theorem w_c3 : (Jvm.Cond.code ({ cls := "java/lang/Object", name := "<init>", desc := "()V" } : Jvm.MethodName) object_method_1_code (1 : Nat) (Option.none : Option Jvm.ClassFile.FieldType)).before args0 about1 = true := code_word (m := ⟨0, 0⟩) (meth := k0m0) (c := k0c0) (by decide +kernel) rfl rfl rfl (by decide +kernel)
set_option maxRecDepth 65536 in
theorem w_c4 : (Jvm.Cond.code ({ cls := "com/example/inner_gate/innergate/PrivacySet", name := "mask", desc := "()I" } : Jvm.MethodName) prog_40_method_7_code (1 : Nat) (Option.some Jvm.ClassFile.FieldType.int)).before args0 about1 = true := code_word (m := ⟨2, 2⟩) (meth := k2m2) (c := k2c2) (by decide +kernel) rfl rfl rfl (by decide +kernel)
set_option maxRecDepth 65536 in
theorem w_c5 : (Jvm.Cond.code ({ cls := "com/example/inner_gate/innergate/PrivacySet", name := "isEmpty", desc := "()Z" } : Jvm.MethodName) prog_40_method_8_code (1 : Nat) (Option.some Jvm.ClassFile.FieldType.boolean)).before args0 about1 = true := code_word (m := ⟨2, 3⟩) (meth := k2m3) (c := k2c3) (by decide +kernel) rfl rfl rfl (by decide +kernel)
set_option maxRecDepth 65536 in
theorem w_c6 : (Jvm.Cond.code ({ cls := "com/example/inner_gate/innergate/PrivacySet", name := "equals", desc := "(Ljava/lang/Object;)Z" } : Jvm.MethodName) prog_40_method_10_code (2 : Nat) (Option.some Jvm.ClassFile.FieldType.boolean)).before args0 about1 = true := code_word (m := ⟨2, 4⟩) (meth := k2m4) (c := k2c4) (by decide +kernel) rfl rfl rfl (by decide +kernel)
def codes1 : List Jvm.Cond := [Jvm.Cond.code x code maxLocals ret, Jvm.Cond.code ({ cls := "com/example/inner_gate/innergate/PrivacySet", name := "fromMask", desc := "(I)Lcom/example/inner_gate/innergate/PrivacySet;" } : Jvm.MethodName) prog_40_method_3_code (1 : Nat) (Option.some (Jvm.ClassFile.FieldType.object "com/example/inner_gate/innergate/PrivacySet")), Jvm.Cond.code ({ cls := "com/example/inner_gate/innergate/PrivacySet", name := "<init>", desc := "(I)V" } : Jvm.MethodName) prog_40_method_1_code (2 : Nat) (Option.none : Option Jvm.ClassFile.FieldType), Jvm.Cond.code ({ cls := "java/lang/Object", name := "<init>", desc := "()V" } : Jvm.MethodName) object_method_1_code (1 : Nat) (Option.none : Option Jvm.ClassFile.FieldType), Jvm.Cond.code ({ cls := "com/example/inner_gate/innergate/PrivacySet", name := "mask", desc := "()I" } : Jvm.MethodName) prog_40_method_7_code (1 : Nat) (Option.some Jvm.ClassFile.FieldType.int), Jvm.Cond.code ({ cls := "com/example/inner_gate/innergate/PrivacySet", name := "isEmpty", desc := "()Z" } : Jvm.MethodName) prog_40_method_8_code (1 : Nat) (Option.some Jvm.ClassFile.FieldType.boolean), Jvm.Cond.code ({ cls := "com/example/inner_gate/innergate/PrivacySet", name := "equals", desc := "(Ljava/lang/Object;)Z" } : Jvm.MethodName) prog_40_method_10_code (2 : Nat) (Option.some Jvm.ClassFile.FieldType.boolean)]
set_option maxRecDepth 65536 in
theorem codes_eq : words1.filter isCode = codes1 := rfl
theorem w_codes : ∀ c ∈ words1.filter isCode, c.before args0 about1 = true := by
  rw [codes_eq]
  intro c hc
  simp only [codes1, List.mem_cons, List.not_mem_nil, or_false] at hc
  rcases hc with rfl | rfl | rfl | rfl | rfl | rfl | rfl
  · exact w_c0
  · exact w_c1
  · exact w_c2
  · exact w_c3
  · exact w_c4
  · exact w_c5
  · exact w_c6
set_option maxRecDepth 65536 in
theorem w_t1 : (words1.take 24).all (fun c => isCode c || c.before args0 about1) = true := by decide +kernel
set_option maxRecDepth 65536 in
theorem w_t2 : (words1.drop 24).all (fun c => isCode c || c.before args0 about1) = true := by decide +kernel
theorem w_tables : (allAtoms (Jvm.Cond.code x code maxLocals ret :: tables_1)).before args0 about1 = true := by
  rw [allAtoms_all]
  show words1.all (fun c => c.before args0 about1) = true
  refine all_split ?_ w_codes
  rw [← List.take_append_drop 24 words1, List.all_append, w_t1, w_t2]
  rfl
set_option maxRecDepth 65536 in
theorem w_case : (Jvm.Cond.and given_1 narrow_1).before args0 about1 = true := by decide +kernel
theorem w_applies : (headSpec (Jvm.Cond.code x code maxLocals ret :: tables_1) room_1).applies x e0.platform about1 = true :=
  (Spec.applies_iff w_frames).mpr ⟨w_running, w_runnable, w_alone, w_named, w_hears, w_ripe, w_room, w_tables⟩
theorem atStart : AtStart classFile x code maxLocals ret World_1 tables_1 room_1 Calls_1 rest_1 Pre_1 launch0 p0 e0 about1 theMethod args0 below0 :=
  ⟨lists_1, trivial, launch0.admits_env _ _ _, launch0.least_env, fairChoices_fair.cas, fairChoices_fair.clock, w_frames, w_args, w_heap, w_applies, trivial, trivial, w_case⟩
end start1
theorem witness_1 : WitnessClaimed_1 := ⟨start1.p0, start1.e0, start1.about1, start1.theMethod, start1.args0, start1.below0, start1.atStart⟩
end Jvm.Pilot.@@N@@
