import JvmDerived
import JvmDerived.Pilot.@@N@@Statement
import JvmDerived.Pilot.@@N@@Code
set_option linter.unusedVariables false
set_option linter.unusedSimpArgs false
namespace Jvm.Pilot.@@N@@
open Jvm Jvm.ClassFile Sem Op Lib Jvm.Free Jvm.Stand Jvm.LawKit Jvm.RoadKit Bundle Jvm.Pilot.@@N@@.Jvm.D
section Own
variable {p : Program} {l : Launch} {e : Env} {R : Room} {s Z : State} {m : MethodId} {args : Array Value} {below : List Frame} {meth : Method} {c : Code} {T : State} {locs : List Loc} {cells slots : Nat} {q : Option Value → Heap → List Loc → Prop}
/-- from U the run ends in a return, as q says -/
def own_Fin (p : Program) (e : Env) (below : List Frame) (s : State) (R : Room) (q : Option Value → Heap → List Loc → Prop) (U : State) : Prop :=
  ∃ s₂ o, Steps p.tables e below U s₂ ∧ s₂.status = .running ∧ Ended s₂ below o ∧ ∃ v L, o = .returned v ∧ q v s₂.heap L ∧ FrameEnd s o s₂ L R.cells R.slots
theorem own_to {U U' : State} (h : ∀ t, Steps p.tables e below U' t → Steps p.tables e below U t) (k : own_Fin p e below s R q U') : own_Fin p e below s R q U := by
  obtain ⟨s₂, o, h1, r⟩ := k
  exact ⟨s₂, o, h _ h1, r⟩
theorem own_ite {C : Prop} [Decidable C] {G : Int32 → State} {U : State} {v1 v0 : Int32} (k : own_Fin p e below s R q (G (if C then v1 else v0))) (h1 : C → own_Fin p e below s R q (G v1) → own_Fin p e below s R q U) (h0 : ¬ C → own_Fin p e below s R q (G v0) → own_Fin p e below s R q U) : own_Fin p e below s R q U := by
  by_cases h : C
  · rw [if_pos h] at k; exact h1 h k
  · rw [if_neg h] at k; exact h0 h k
theorem own_cut {U V : State} (k : own_Fin p e below s R q V) (h : own_Fin p e below s R q V → own_Fin p e below s R q U) : own_Fin p e below s R q U := h k
theorem own_retN (X : Stand p l e R s m args below meth c T locs cells slots) (hx : p.tables.exec = Jvm.exec) (hlk : meth.locks = false) {pc : Nat} {Ls : Array Slot} {z : Int32} {t : FieldType} {rest : List Value} (hret : meth.sig.returnType = some t) (ht : t = .boolean ∨ t = .byte ∨ t = .char ∨ t = .short) (hd : decode c.code pc = .ok (.ireturn, 1)) (hc : cells ≤ R.cells) (hs : slots ≤ R.slots) (hq : q (some (.int (nar t z))) T.heap locs) :
    own_Fin p e below s R q (T.setTop (mkF m pc Ls (.int z :: rest))) := by
  obtain ⟨fs, hr, hrun, hended, hW, hsame⟩ := X.leave (v := some (.int (nar t z))) (fun h => by rw [hret] at h; cases h)
  exact ⟨_, _, retN X hx hret ht hd hr, hrun, hended, _, _, rfl, hq, ⟨_, rfl⟩, hW, hsame.mono hc hs⟩
theorem own_retI (X : Stand p l e R s m args below meth c T locs cells slots) (hx : p.tables.exec = Jvm.exec) (hlk : meth.locks = false) {pc : Nat} {Ls : Array Slot} {z : Int32} {rest : List Value} (hret : meth.sig.returnType = some .int) (hd : decode c.code pc = .ok (.ireturn, 1)) (hc : cells ≤ R.cells) (hs : slots ≤ R.slots) (hq : q (some (.int z)) T.heap locs) :
    own_Fin p e below s R q (T.setTop (mkF m pc Ls (.int z :: rest))) := by
  obtain ⟨fs, hr, hrun, hended, hW, hsame⟩ := X.leave (v := some (.int z)) (fun h => by rw [hret] at h; cases h)
  exact ⟨_, _, retOut X hx hret rfl (Or.inl ⟨rfl, Or.inl rfl, z, rfl⟩) hd hr, hrun, hended, _, _, rfl, hq, ⟨_, rfl⟩, hW, hsame.mono hc hs⟩
theorem own_retJ (X : Stand p l e R s m args below meth c T locs cells slots) (hx : p.tables.exec = Jvm.exec) (hlk : meth.locks = false) {pc : Nat} {Ls : Array Slot} {z : Int64} {rest : List Value} (hret : meth.sig.returnType = some .long) (hd : decode c.code pc = .ok (.lreturn, 1)) (hc : cells ≤ R.cells) (hs : slots ≤ R.slots) (hq : q (some (.long z)) T.heap locs) :
    own_Fin p e below s R q (T.setTop (mkF m pc Ls (.long z :: rest))) := by
  obtain ⟨fs, hr, hrun, hended, hW, hsame⟩ := X.leave (v := some (.long z)) (fun h => by rw [hret] at h; cases h)
  exact ⟨_, _, retOut X hx hret rfl (Or.inr (Or.inl ⟨rfl, rfl, z, rfl⟩)) hd hr, hrun, hended, _, _, rfl, hq, ⟨_, rfl⟩, hW, hsame.mono hc hs⟩
theorem own_retR (X : Stand p l e R s m args below meth c T locs cells slots) (hx : p.tables.exec = Jvm.exec) (hlk : meth.locks = false) {pc : Nat} {Ls : Array Slot} {w : Value} {t : FieldType} {rest : List Value} (hret : meth.sig.returnType = some t) (ht : t.isReference = true) (hw : w.isRef = true) (hn : narrow t w = w) (hd : decode c.code pc = .ok (.areturn, 1)) (hc : cells ≤ R.cells) (hs : slots ≤ R.slots) (hq : q (some w) T.heap locs) :
    own_Fin p e below s R q (T.setTop (mkF m pc Ls (w :: rest))) := by
  obtain ⟨fs, hr, hrun, hended, hW, hsame⟩ := X.leave (v := some w) (fun h => by rw [hret] at h; cases h)
  exact ⟨_, _, retOut X hx hret hn (Or.inr (Or.inr (Or.inr (Or.inr ⟨rfl, ht, hw⟩)))) hd hr, hrun, hended, _, _, rfl, hq, ⟨_, rfl⟩, hW, hsame.mono hc hs⟩
theorem own_retV (X : Stand p l e R s m args below meth c T locs cells slots) (hx : p.tables.exec = Jvm.exec) (hlk : meth.locks = false) {pc : Nat} {Ls : Array Slot} (hret : meth.sig.returnType = none) (hd : decode c.code pc = .ok (.return_, 1)) (hc : cells ≤ R.cells) (hs : slots ≤ R.slots) (hq : q none T.heap locs) :
    own_Fin p e below s R q (T.setTop (mkF m pc Ls [])) := by
  obtain ⟨fs, hr, hrun, hended, hW, hsame⟩ := X.leave (v := none) (fun _ => rfl)
  exact ⟨_, _, X.returnOut hx hret hd hr, hrun, hended, _, _, rfl, hq, ⟨_, rfl⟩, hW, hsame.mono hc hs⟩
/-- the contract of a body at given arguments and a given heap -/
abbrev own_Met (l : Launch) (Z : State) (y : MethodName) (bytes : ByteArray) (maxL : Nat) (ret : Option FieldType) (ws : List Jvm.Cond) (rm : Room) (as' : Array Value) (h0 : Heap) (q : Option Value → Heap → List Loc → Prop) : Prop :=
  MetFree l y (head1 (Jvm.Cond.code y bytes maxL ret :: ws) rm) (fun a U => a = as' ∧ Z.Warmed39 U.vm ∧ U.heap = h0) (fun _ _ _ _ _ => True) (fun _ U o U' => ∃ v L, o = .returned v ∧ q v U'.heap L ∧ FrameEnd U o U' L rm.cells rm.slots)
theorem own_back {a0 : Array Value} {h : Heap} {y : MethodName} {bytes : ByteArray} {maxL : Nat} {ret : Option FieldType} {rm : Room} {len W : Nat} {as' : Array Value} (hM : own_Met l Z y bytes maxL ret [] rm as' h q)
    (hZ : Z.Warmed39 s.vm) (wc : (Jvm.Cond.code y bytes maxL ret).before a0 Z = true) (wz : (Jvm.Cond.initialized y.cls).before a0 Z = true) (hf : rm.frames + 1 ≤ R.frames) (hl : W + (maxL + 11) + rm.locals ≤ R.locals) :
    Back l R p e below s args y len W (fun A a => a = as' ∧ A.U.heap = h ∧ A.cells + rm.cells ≤ R.cells ∧ A.slots + rm.slots ≤ R.slots)
      (fun A _ v B => ∃ L, q v B.U.heap L ∧ B.locs = A.locs ++ L ∧ B.cells = A.cells + rm.cells ∧ B.slots = A.slots + rm.slots) := backOf (Q := q) hM hZ wc wz hf hl
theorem own_enter {y : MethodName} {bytes : ByteArray} {maxL : Nat} {ret : Option FieldType} {ws : List Jvm.Cond} {rm : Room} {as' : Array Value} {h0 : Heap} (hpl : plainFor y = true)
    (k : ∀ (p : Program) (e : Env) (s : State) (m : MethodId) (below : List Frame) (meth : Method) (c : Code) (s₁ : State), Stand p l e rm s m as' below meth c s₁ [] 0 0 → p.tables.exec = Jvm.exec → Z.Warmed39 s.vm → c.code = bytes → c.maxLocals = maxL → s.vm.findClass y.cls = some m.cls → meth.name = y.name → meth.sig.returnType = ret → meth.locks = false → s₁.heap = h0 → own_Fin p e below s rm q (s₁.setTop (entryFrame m as' maxL))) :
    own_Met l Z y bytes maxL ret ws rm as' h0 q := by
  refine MetFree.of_bodySF hpl hisR ?_
  intro p e s m args below meth c s₁ Bd hml0 hP hK
  obtain ⟨rfl, hZ, hh⟩ := hP
  exact k p e s m below meth c s₁ (Stand.of_body Bd) Bd.exec hZ Bd.bytes hml0 (findClass_of_methodNamed Bd.named) (name_of_methodNamed Bd.named Bd.method).1 Bd.returns Bd.notSynchronized (by rw [← hh, Bd.state]; rfl)
theorem own_selP {a : Array Value} {y y' : MethodName} (w : (Jvm.Cond.selects y'.cls y' y').before a s = true) (hc : y'.cls = y.cls) (hp : s.PrivateAt y) (hi : (Jvm.Cond.instanceMethod y).before a s = true) (hy : y.cls ≠ "java/lang/invoke/MethodHandle" ∧ y.cls ≠ "java/lang/invoke/VarHandle") : (Jvm.Cond.selects y.cls y y).before a s = true := by
  obtain ⟨c, r, m, h1, -, h3, -, mk, h4, h5⟩ := Cond.selects_spec w
  exact selects_self_of_private (c := m.cls) (k := mk) (hc ▸ findClass_of_methodNamed h3) h4 h5 hp hi hy
end Own
theorem own_d2_0 : decode prog_5_method_1_code 0 = .ok (.aload_n 0, 1) := by decide +kernel
theorem own_d2_1 : decode prog_5_method_1_code 1 = .ok (.invokespecial 1, 3) := by decide +kernel
theorem own_d2_4 : decode prog_5_method_1_code 4 = .ok (.aload_n 0, 1) := by decide +kernel
theorem own_d2_5 : decode prog_5_method_1_code 5 = .ok (.sipush 1024, 3) := by decide +kernel
theorem own_d2_8 : decode prog_5_method_1_code 8 = .ok (.newarray .long, 2) := by decide +kernel
theorem own_d2_10 : decode prog_5_method_1_code 10 = .ok (.putfield 7, 3) := by decide +kernel
theorem own_d2_13 : decode prog_5_method_1_code 13 = .ok (.return_, 1) := by decide +kernel
theorem own_pn0 : plainName "com/example/debit/debit/bench/Tally" = true := by first | (simp [plainName, overriddenIn]; done) | decide +kernel
theorem own_pd0 : parseMethodDescriptor "()V" = some ⟨[], none⟩ := by decide +kernel
theorem own_rm2_ef (m : MethodId) (a1 : Addr) : entryFrame m #[(.ref a1)] 1 = mkF m 0 #[.val (.ref a1)] [] := by first | (simp [entryFrame, mkF, argsToLocals, Value.category]; done) | rfl
set_option maxRecDepth 65536 in
set_option maxHeartbeats 40000000 in
theorem own_rm2 (l : Launch) (Z : State) (a0 : Array Value) (hw : ∀ d ∈ tables_1, d.before a0 Z = true) (ws : List Jvm.Cond) (a1 : Addr) (h0 : Heap) (n0 : Nat) (Z0 : n0 ≤ h0.size) (E1 : Exa Z h0 a1 "com/example/debit/debit/bench/Tally") (F1 : Fld Z h0 a1 "com/example/debit/debit/bench/Tally" "latencies" "[J" .null) (F2 : Fld Z h0 a1 "com/example/debit/debit/bench/Tally" "failed" "J" (.long (0 : Int64))) (g_a1 : n0 ≤ a1) :
    own_Met l Z (⟨"com/example/debit/debit/bench/Tally", "<init>", "()V"⟩ : MethodName) prog_5_method_1_code 1 none ws ({ frames := 1, cells := 1, slots := 1024, locals := 16 } : Room) #[(.ref a1)] h0 (fun v h L => v = none ∧ Fr n0 L ∧ Keep h0 h [a1] ∧ Fld Z h a1 "com/example/debit/debit/bench/Tally" "failed" "J" (.long (0 : Int64))) := by
  refine own_enter (plainFor_of_name own_pn0) ?_
  intro p e s m below meth c s₁ X0 hx hZ hby hml hown hnm hret hlk e0
  have N0 := Fr.nil n0
  rw [own_rm2_ef m a1]
  have KK0 : Keep h0 h0 [a1] := Keep.refl _ _
  show own_Fin _ _ _ _ _ _ (s₁.setTop (mkF m 0 #[.val (.ref a1)] []))
  refine own_to (fun t k => XS.aloadN X0.here hx rfl (hb hby own_d2_0) rfl rfl k) ?_
  show own_Fin _ _ _ _ _ _ (s₁.setTop (mkF m 1 #[.val (.ref a1)] [(.ref a1)]))
  obtain ⟨T1, X1, e1, st1⟩ := initO X0 hx hZ hown (hw _ (List.mem_of_getElem? (i := 9) rfl)) (hw _ (List.mem_of_getElem? (i := 10) rfl)) (hw _ (List.mem_of_getElem? (i := 11) rfl)) e0 (g := (mkF m 1 #[.val (.ref a1)] [(.ref a1)])) rfl (by rw [hml]; rfl) rfl (hb hby own_d2_1) (by decide) (W := 0) (by show 2 * 0 + _ ≤ _; exact Nat.le_of_eq rfl) (by decide)
  refine own_to (fun t k => st1 t k) ?_
  show own_Fin _ _ _ _ _ _ (T1.setTop (mkF m 4 #[.val (.ref a1)] []))
  refine own_to (fun t k => XS.aloadN X1.here hx rfl (hb hby own_d2_4) rfl rfl k) ?_
  show own_Fin _ _ _ _ _ _ (T1.setTop (mkF m 5 #[.val (.ref a1)] [(.ref a1)]))
  refine own_to (fun t k => XS.sipush X1.here hx rfl (hb hby own_d2_5) k) ?_
  show own_Fin _ _ _ _ _ _ (T1.setTop (mkF m 8 #[.val (.ref a1)] [(.int (1024 : Int32)), (.ref a1)]))
  obtain ⟨T2, h2, k2, X2, e2, E2, A2, A2x, st2⟩ := newPE X1 hx hZ (hw _ (List.mem_of_getElem? (i := 12) rfl)) e1 (g := (mkF m 8 #[.val (.ref a1)] [(.int (1024 : Int32)), (.ref a1)])) rfl (hb hby own_d2_8) rfl (by decide) (cap := 1024) (by decide) (by decide) (by decide) (by decide) (ad := "[J") (by decide)
  obtain ⟨bl, q2⟩ : ∃ z, z = h0.size := ⟨_, rfl⟩
  rw [← q2] at A2 A2x st2
  have ne_a1_bl : a1 ≠ bl := Nat.ne_of_lt (Nat.lt_of_lt_of_le E1.lt (Nat.le_of_eq q2.symm))
  have g_bl : n0 ≤ bl := Nat.le_trans Z0 (Nat.le_of_eq q2.symm)
  have sz_bl : h0.size ≤ bl := Nat.le_trans KK0.1 (Nat.le_of_eq q2.symm)
  have KK2 : Keep h0 h2 [a1] := KK0.ext E2
  have E1_e2 := E1.ext E2
  have F1_e2 := F1.ext E2
  have F2_e2 := F2.ext E2
  have V2 := Arv.new A2 (by decide)
  refine own_to (fun t k => st2 t k) ?_
  show own_Fin _ _ _ _ _ _ (T2.setTop (mkF m 10 #[.val (.ref a1)] [(.ref bl), (.ref a1)]))
  obtain ⟨T3, h3, X3, e3, W3, st3⟩ := putF X2 hx hZ hown (host := "") (Or.inl (hw _ (List.mem_of_getElem? (i := 13) rfl))) Via.refl e2 F1_e2 E1_e2 (Or.inl (hw _ (List.mem_of_getElem? (i := 14) rfl))) (hw _ (List.mem_of_getElem? (i := 5) rfl)) (ty := (.array .long)) (by decide) rfl rfl (g := (mkF m 10 #[.val (.ref a1)] [(.ref bl), (.ref a1)])) rfl rfl (hb hby own_d2_10)
  have Fw3 := F1_e2.same W3
  have N3 := Fr.snoc X3 N0 g_a1
  have KK3 : Keep h0 h3 [a1] := KK2.wr W3 (Or.inl (List.mem_of_getElem? (i := 0) rfl))
  have E1_e3 := E1_e2.wr W3
  have F2_e3 := F2_e2.other W3 (Or.inr (slot_ne (Or.inl (hw _ (List.mem_of_getElem? (i := 16) rfl))) (Or.inl (hw _ (List.mem_of_getElem? (i := 14) rfl))) (by decide) (t := .long) (t' := (.array .long)) (by decide) (by decide)))
  have V2_e3 := V2.other W3 (Ne.symm ne_a1_bl)
  have A2x_e3 := A2x.wr W3
  refine own_to (fun t k => st3 t k) ?_
  show own_Fin _ _ _ _ _ _ (T3.setTop (mkF m 13 #[.val (.ref a1)] []))
  refine own_retV X3 hx hlk hret (hb hby own_d2_13) (by decide) (by decide) ?_
  try rw [e3]
  exact ⟨rfl, N3, KK3, F2_e3⟩
theorem own_d1_0 : decode prog_5_method_2_code 0 = .ok (.new 8, 3) := by decide +kernel
theorem own_d1_3 : decode prog_5_method_2_code 3 = .ok (.dup, 1) := by decide +kernel
theorem own_d1_4 : decode prog_5_method_2_code 4 = .ok (.invokespecial 13, 3) := by decide +kernel
theorem own_d1_7 : decode prog_5_method_2_code 7 = .ok (.astore_n 1, 1) := by decide +kernel
theorem own_d1_8 : decode prog_5_method_2_code 8 = .ok (.aload_n 1, 1) := by decide +kernel
theorem own_d1_9 : decode prog_5_method_2_code 9 = .ok (.iload_n 0, 1) := by decide +kernel
theorem own_d1_10 : decode prog_5_method_2_code 10 = .ok (.i2l, 1) := by decide +kernel
theorem own_d1_11 : decode prog_5_method_2_code 11 = .ok (.putfield 14, 3) := by decide +kernel
theorem own_d1_14 : decode prog_5_method_2_code 14 = .ok (.aload_n 1, 1) := by decide +kernel
theorem own_d1_15 : decode prog_5_method_2_code 15 = .ok (.areturn, 1) := by decide +kernel
theorem own_rm1_ef (m : MethodId) (p1 : Int32) : entryFrame m #[(.int p1)] 2 = mkF m 0 #[.val (.int p1), .unset] [] := by first | (simp [entryFrame, mkF, argsToLocals, Value.category]; done) | rfl
set_option maxRecDepth 65536 in
set_option maxHeartbeats 40000000 in
theorem own_rm1 (l : Launch) (Z : State) (a0 : Array Value) (hw : ∀ d ∈ tables_1, d.before a0 Z = true) (ws : List Jvm.Cond) (p1 : Int32) (h0 : Heap) (n0 : Nat) (Z0 : n0 ≤ h0.size) :
    own_Met l Z (⟨"com/example/debit/debit/bench/Tally", "failed", "(I)Lcom/example/debit/debit/bench/Tally;"⟩ : MethodName) prog_5_method_2_code 2 (some (.object "com/example/debit/debit/bench/Tally")) ws ({ frames := 2, cells := 2, slots := 1029, locals := 48 } : Room) #[(.int p1)] h0 (fun v h L => ∃ b, v = some (.ref b) ∧ Fr n0 L ∧ Keep h0 h [] ∧ n0 ≤ b ∧ h0.size ≤ b ∧ Exa Z h b "com/example/debit/debit/bench/Tally" ∧ Fld Z h b "com/example/debit/debit/bench/Tally" "failed" "J" (.long (p1.toInt64))) := by
  refine own_enter (plainFor_of_name own_pn0) ?_
  intro p e s m below meth c s₁ X0 hx hZ hby hml hown hnm hret hlk e0
  have N0 := Fr.nil n0
  rw [own_rm1_ef m p1]
  have KK0 : Keep h0 h0 [] := Keep.refl _ _
  show own_Fin _ _ _ _ _ _ (s₁.setTop (mkF m 0 #[.val (.int p1), .unset] []))
  obtain ⟨T4, h4, X4, e4, E4, A4, D4, U4, st4⟩ := newO X0 hx hZ hown (hw _ (List.mem_of_getElem? (i := 4) rfl)) (hw _ (List.mem_of_getElem? (i := 5) rfl)) (hw _ (List.mem_of_getElem? (i := 2) rfl)) e0 (g := (mkF m 0 #[.val (.int p1), .unset] [])) rfl (hb hby own_d1_0) (by decide) (by decide)
  obtain ⟨b4, q4⟩ : ∃ z, z = h0.size := ⟨_, rfl⟩
  rw [← q4] at A4 D4 U4 st4
  have g_b4 : n0 ≤ b4 := Nat.le_trans Z0 (Nat.le_of_eq q4.symm)
  have sz_b4 : h0.size ≤ b4 := Nat.le_trans KK0.1 (Nat.le_of_eq q4.symm)
  have KK4 : Keep h0 h4 [] := KK0.ext E4
  have Fnlatencies_4 : Fld Z h4 b4 "com/example/debit/debit/bench/Tally" "latencies" "[J" .null := D4 (Or.inl (hw _ (List.mem_of_getElem? (i := 14) rfl))) (ty := (.array .long)) (by decide)
  have Fnfailed_4 : Fld Z h4 b4 "com/example/debit/debit/bench/Tally" "failed" "J" (.long (0 : Int64)) := D4 (Or.inl (hw _ (List.mem_of_getElem? (i := 16) rfl))) (ty := .long) (by decide)
  refine own_to (fun t k => st4 t k) ?_
  show own_Fin _ _ _ _ _ _ (T4.setTop (mkF m 3 #[.val (.int p1), .unset] [(.ref b4)]))
  refine own_to (fun t k => XS.dup X4.here hx rfl (hb hby own_d1_3) rfl rfl k) ?_
  show own_Fin _ _ _ _ _ _ (T4.setTop (mkF m 4 #[.val (.int p1), .unset] [(.ref b4), (.ref b4)]))
  obtain ⟨_, _, ⟨T5, L5, k5, n5⟩, -, X5, ⟨Lc5, hQ5, l5, y5, z5⟩, st5⟩ := X4.specialBack hx (y := (⟨"com/example/debit/debit/bench/Tally", "<init>", "()V"⟩ : MethodName)) rfl hown (mvT hZ (hw _ (List.mem_of_getElem? (i := 6) rfl))) (mvT hZ (hw _ (List.mem_of_getElem? (i := 7) rfl))) (mvT hZ (hw _ (List.mem_of_getElem? (i := 8) rfl))) (by decide) (own_back (W := 1) (own_rm2 l Z a0 hw [] b4 h4 n0 (Nat.le_trans Z0 E4.1) A4 Fnlatencies_4 Fnfailed_4 g_b4) hZ (hw _ (List.mem_of_getElem? (i := 8) rfl)) (hw _ (List.mem_of_getElem? (i := 2) rfl)) (by decide) (by decide)) (g := (mkF m 4 #[.val (.int p1), .unset] [(.ref b4), (.ref b4)])) rfl (by rw [hml]; rfl) (Steps.refl _) (a := b4) (argsL := []) (rest := [(.ref b4)]) (lenOf own_pd0 rfl) rfl (by show 2 * 0 + _ ≤ _; exact Nat.le_of_eq rfl) (hb hby own_d1_4) (fun _ _ => ⟨rfl, e4, (by decide : 1 + 1 ≤ _), (by decide : 5 + 1024 ≤ _)⟩)
  dsimp only [Pt.U, Pt.locs, Pt.cells, Pt.slots] at X5 l5 y5 z5 st5 hQ5
  subst l5 y5 z5
  obtain ⟨rfl, N5q, K5, Fs⟩ := hQ5
  have N5 := Fr.app N0 N5q
  have KK5 : Keep h0 T5.heap [] := KK4.trans K5 (allS (Or.inr sz_b4) all0)
  have A4_e5 := A4.keep K5
  refine own_to (fun t k => st5.trans k) ?_
  show own_Fin _ _ _ _ _ _ (T5.setTop (mkF m 7 #[.val (.int p1), .unset] [(.ref b4)]))
  refine own_to (fun t k => XS.astoreN X5.here hx rfl (hb hby own_d1_7) rfl rfl (l' := #[.val (.int p1), .val (.ref b4)]) rfl k) ?_
  show own_Fin _ _ _ _ _ _ (T5.setTop (mkF m 8 #[.val (.int p1), .val (.ref b4)] []))
  refine own_to (fun t k => XS.aloadN X5.here hx rfl (hb hby own_d1_8) rfl rfl k) ?_
  show own_Fin _ _ _ _ _ _ (T5.setTop (mkF m 9 #[.val (.int p1), .val (.ref b4)] [(.ref b4)]))
  refine own_to (fun t k => XS.iloadN X5.here hx rfl (hb hby own_d1_9) rfl k) ?_
  show own_Fin _ _ _ _ _ _ (T5.setTop (mkF m 10 #[.val (.int p1), .val (.ref b4)] [(.int p1), (.ref b4)]))
  refine own_to (fun t k => XS.i2l X5.here hx rfl (hb hby own_d1_10) rfl k) ?_
  show own_Fin _ _ _ _ _ _ (T5.setTop (mkF m 11 #[.val (.int p1), .val (.ref b4)] [(.long (p1.toInt64)), (.ref b4)]))
  obtain ⟨T6, h6, X6, e6, W6, st6⟩ := putF X5 hx hZ hown (host := "") (Or.inl (hw _ (List.mem_of_getElem? (i := 15) rfl))) Via.refl rfl Fs A4_e5 (Or.inl (hw _ (List.mem_of_getElem? (i := 16) rfl))) (hw _ (List.mem_of_getElem? (i := 5) rfl)) (ty := .long) (by decide) rfl rfl (g := (mkF m 11 #[.val (.int p1), .val (.ref b4)] [(.long (p1.toInt64)), (.ref b4)])) rfl rfl (hb hby own_d1_11)
  have Fw6 := Fs.same W6
  have N6 := Fr.snoc X6 N5 g_b4
  have KK6 : Keep h0 h6 [] := KK5.wr W6 (Or.inr sz_b4)
  have A4_e6 := A4_e5.wr W6
  refine own_to (fun t k => st6 t k) ?_
  show own_Fin _ _ _ _ _ _ (T6.setTop (mkF m 14 #[.val (.int p1), .val (.ref b4)] []))
  refine own_to (fun t k => XS.aloadN X6.here hx rfl (hb hby own_d1_14) rfl rfl k) ?_
  show own_Fin _ _ _ _ _ _ (T6.setTop (mkF m 15 #[.val (.int p1), .val (.ref b4)] [(.ref b4)]))
  refine own_retR X6 hx hlk hret rfl rfl rfl (hb hby own_d1_15) (by decide) (by decide) ?_
  try rw [e6]
  exact ⟨b4, rfl, N6, KK6, g_b4, sz_b4, A4_e6, Fw6⟩
theorem own_d4_0 : decode prog_5_method_5_code 0 = .ok (.aload_n 0, 1) := by decide +kernel
theorem own_d4_1 : decode prog_5_method_5_code 1 = .ok (.dup, 1) := by decide +kernel
theorem own_d4_2 : decode prog_5_method_5_code 2 = .ok (.getfield 14, 3) := by decide +kernel
theorem own_d4_5 : decode prog_5_method_5_code 5 = .ok (.iload_n 1, 1) := by decide +kernel
theorem own_d4_6 : decode prog_5_method_5_code 6 = .ok (.i2l, 1) := by decide +kernel
theorem own_d4_7 : decode prog_5_method_5_code 7 = .ok (.ladd, 1) := by decide +kernel
theorem own_d4_8 : decode prog_5_method_5_code 8 = .ok (.putfield 14, 3) := by decide +kernel
theorem own_d4_11 : decode prog_5_method_5_code 11 = .ok (.return_, 1) := by decide +kernel
theorem own_rm4_ef (m : MethodId) (a1 : Addr) (p1 : Int32) : entryFrame m #[(.ref a1), (.int p1)] 2 = mkF m 0 #[.val (.ref a1), .val (.int p1)] [] := by first | (simp [entryFrame, mkF, argsToLocals, Value.category]; done) | rfl
set_option maxRecDepth 65536 in
set_option maxHeartbeats 40000000 in
theorem own_rm4 (l : Launch) (Z : State) (a0 : Array Value) (hw : ∀ d ∈ tables_1, d.before a0 Z = true) (ws : List Jvm.Cond) (a1 : Addr) (p1 : Int32) (q1 : Int64) (h0 : Heap) (n0 : Nat) (Z0 : n0 ≤ h0.size) (E1 : Exa Z h0 a1 "com/example/debit/debit/bench/Tally") (F2 : Fld Z h0 a1 "com/example/debit/debit/bench/Tally" "failed" "J" (.long q1)) (g_a1 : n0 ≤ a1) :
    own_Met l Z (⟨"com/example/debit/debit/bench/Tally", "unanswered", "(I)V"⟩ : MethodName) prog_5_method_5_code 2 none ws ({ frames := 0, cells := 0, slots := 0, locals := 0 } : Room) #[(.ref a1), (.int p1)] h0 (fun v h L => v = none ∧ Fr n0 L ∧ Keep h0 h [a1] ∧ Fld Z h a1 "com/example/debit/debit/bench/Tally" "failed" "J" (.long (q1 + (p1.toInt64)))) := by
  refine own_enter (plainFor_of_name own_pn0) ?_
  intro p e s m below meth c s₁ X0 hx hZ hby hml hown hnm hret hlk e0
  have N0 := Fr.nil n0
  rw [own_rm4_ef m a1 p1]
  have KK0 : Keep h0 h0 [a1] := Keep.refl _ _
  show own_Fin _ _ _ _ _ _ (s₁.setTop (mkF m 0 #[.val (.ref a1), .val (.int p1)] []))
  refine own_to (fun t k => XS.aloadN X0.here hx rfl (hb hby own_d4_0) rfl rfl k) ?_
  show own_Fin _ _ _ _ _ _ (s₁.setTop (mkF m 1 #[.val (.ref a1), .val (.int p1)] [(.ref a1)]))
  refine own_to (fun t k => XS.dup X0.here hx rfl (hb hby own_d4_1) rfl rfl k) ?_
  show own_Fin _ _ _ _ _ _ (s₁.setTop (mkF m 2 #[.val (.ref a1), .val (.int p1)] [(.ref a1), (.ref a1)]))
  obtain ⟨T7, X7, e7, st7⟩ := getF X0 hx hZ hown (host := "") (Or.inl (hw _ (List.mem_of_getElem? (i := 15) rfl))) Via.refl e0 F2 (g := (mkF m 2 #[.val (.ref a1), .val (.int p1)] [(.ref a1), (.ref a1)])) rfl rfl (hb hby own_d4_2)
  refine own_to (fun t k => st7 t k) ?_
  show own_Fin _ _ _ _ _ _ (T7.setTop (mkF m 5 #[.val (.ref a1), .val (.int p1)] [(.long q1), (.ref a1)]))
  refine own_to (fun t k => XS.iloadN X7.here hx rfl (hb hby own_d4_5) rfl k) ?_
  show own_Fin _ _ _ _ _ _ (T7.setTop (mkF m 6 #[.val (.ref a1), .val (.int p1)] [(.int p1), (.long q1), (.ref a1)]))
  refine own_to (fun t k => XS.i2l X7.here hx rfl (hb hby own_d4_6) rfl k) ?_
  show own_Fin _ _ _ _ _ _ (T7.setTop (mkF m 7 #[.val (.ref a1), .val (.int p1)] [(.long (p1.toInt64)), (.long q1), (.ref a1)]))
  refine own_to (fun t k => XS.ladd X7.here hx rfl (hb hby own_d4_7) rfl k) ?_
  show own_Fin _ _ _ _ _ _ (T7.setTop (mkF m 8 #[.val (.ref a1), .val (.int p1)] [(.long (q1 + (p1.toInt64))), (.ref a1)]))
  obtain ⟨T8, h8, X8, e8, W8, st8⟩ := putF X7 hx hZ hown (host := "") (Or.inl (hw _ (List.mem_of_getElem? (i := 15) rfl))) Via.refl e7 F2 E1 (Or.inl (hw _ (List.mem_of_getElem? (i := 16) rfl))) (hw _ (List.mem_of_getElem? (i := 5) rfl)) (ty := .long) (by decide) rfl rfl (g := (mkF m 8 #[.val (.ref a1), .val (.int p1)] [(.long (q1 + (p1.toInt64))), (.ref a1)])) rfl rfl (hb hby own_d4_8)
  have Fw8 := F2.same W8
  have N8 := Fr.snoc X8 N0 g_a1
  have KK8 : Keep h0 h8 [a1] := KK0.wr W8 (Or.inl (List.mem_of_getElem? (i := 0) rfl))
  have E1_e8 := E1.wr W8
  refine own_to (fun t k => st8 t k) ?_
  show own_Fin _ _ _ _ _ _ (T8.setTop (mkF m 11 #[.val (.ref a1), .val (.int p1)] []))
  refine own_retV X8 hx hlk hret (hb hby own_d4_11) (by decide) (by decide) ?_
  try rw [e8]
  exact ⟨rfl, N8, KK8, Fw8⟩
theorem own_d5_0 : decode prog_5_method_6_code 0 = .ok (.aload_n 0, 1) := by decide +kernel
theorem own_d5_1 : decode prog_5_method_6_code 1 = .ok (.getfield 14, 3) := by decide +kernel
theorem own_d5_4 : decode prog_5_method_6_code 4 = .ok (.lreturn, 1) := by decide +kernel
theorem own_rm5_ef (m : MethodId) (a1 : Addr) : entryFrame m #[(.ref a1)] 1 = mkF m 0 #[.val (.ref a1)] [] := by first | (simp [entryFrame, mkF, argsToLocals, Value.category]; done) | rfl
set_option maxRecDepth 65536 in
set_option maxHeartbeats 40000000 in
theorem own_rm5 (l : Launch) (Z : State) (a0 : Array Value) (hw : ∀ d ∈ tables_1, d.before a0 Z = true) (ws : List Jvm.Cond) (a1 : Addr) (q1 : Int64) (h0 : Heap) (n0 : Nat) (Z0 : n0 ≤ h0.size) (F2 : Fld Z h0 a1 "com/example/debit/debit/bench/Tally" "failed" "J" (.long q1)) :
    own_Met l Z (⟨"com/example/debit/debit/bench/Tally", "failures", "()J"⟩ : MethodName) prog_5_method_6_code 1 (some .long) ws ({ frames := 0, cells := 0, slots := 0, locals := 0 } : Room) #[(.ref a1)] h0 (fun v h L => v = some (.long q1) ∧ Fr n0 L ∧ h = h0) := by
  refine own_enter (plainFor_of_name own_pn0) ?_
  intro p e s m below meth c s₁ X0 hx hZ hby hml hown hnm hret hlk e0
  have N0 := Fr.nil n0
  rw [own_rm5_ef m a1]
  show own_Fin _ _ _ _ _ _ (s₁.setTop (mkF m 0 #[.val (.ref a1)] []))
  refine own_to (fun t k => XS.aloadN X0.here hx rfl (hb hby own_d5_0) rfl rfl k) ?_
  show own_Fin _ _ _ _ _ _ (s₁.setTop (mkF m 1 #[.val (.ref a1)] [(.ref a1)]))
  obtain ⟨T9, X9, e9, st9⟩ := getF X0 hx hZ hown (host := "") (Or.inl (hw _ (List.mem_of_getElem? (i := 15) rfl))) Via.refl e0 F2 (g := (mkF m 1 #[.val (.ref a1)] [(.ref a1)])) rfl rfl (hb hby own_d5_1)
  refine own_to (fun t k => st9 t k) ?_
  show own_Fin _ _ _ _ _ _ (T9.setTop (mkF m 4 #[.val (.ref a1)] [(.long q1)]))
  refine own_retJ X9 hx hlk hret (hb hby own_d5_4) (by decide) (by decide) ?_
  try rw [e9]
  exact ⟨rfl, N0, rfl⟩
theorem own_pn1 : plainName "com/example/debit/debit/bench/TallyUnansweredPinLaw" = true := by first | (simp [plainName, overriddenIn]; done) | decide +kernel
theorem own_pd1 : parseMethodDescriptor "(I)Lcom/example/debit/debit/bench/Tally;" = some ⟨[.int], some (.object "com/example/debit/debit/bench/Tally")⟩ := by decide +kernel
theorem own_pd2 : parseMethodDescriptor "(I)V" = some ⟨[.int], none⟩ := by decide +kernel
theorem own_pd3 : parseMethodDescriptor "()J" = some ⟨[], some .long⟩ := by decide +kernel
theorem own_rm0_ef (m : MethodId) (p1 : Int32) (p2 : Int32) (p3 : Int32) : entryFrame m #[(.int p1), (.int p2), (.int p3)] maxLocals = mkF m 0 #[.val (.int p1), .val (.int p2), .val (.int p3), .unset, .unset, .unset, .unset, .unset, .unset, .unset, .unset, .unset, .unset, .unset, .unset, .unset, .unset, .unset] [] := by first | (simp [entryFrame, mkF, argsToLocals, Value.category, maxLocals]; done) | rfl
set_option maxRecDepth 65536 in
set_option maxHeartbeats 40000000 in
theorem own_rm0 (l : Launch) (Z : State) (a0 : Array Value) (hw : ∀ d ∈ tables_1, d.before a0 Z = true) (ws : List Jvm.Cond) (p1 : Int32) (p2 : Int32) (p3 : Int32) (h0 : Heap) (n0 : Nat) (Z0 : n0 ≤ h0.size) :
    own_Met l Z x code maxLocals ret ws room_1 #[(.int p1), (.int p2), (.int p3)] h0 (fun v h L => v = some (.int 1) ∧ Fr n0 L) := by
  refine own_enter (plainFor_of_name own_pn1) ?_
  intro p e s m below meth c s₁ X0 hx hZ hby hml hown hnm hret hlk e0
  have N0 := Fr.nil n0
  rw [own_rm0_ef m p1 p2 p3]
  show own_Fin _ _ _ _ _ _ (s₁.setTop (mkF m 0 #[.val (.int p1), .val (.int p2), .val (.int p3), .unset, .unset, .unset, .unset, .unset, .unset, .unset, .unset, .unset, .unset, .unset, .unset, .unset, .unset, .unset] []))
  refine own_to (fun t k => XS.iloadN X0.here hx rfl (hb hby at_0) rfl k) ?_
  show own_Fin _ _ _ _ _ _ (s₁.setTop (mkF m 1 #[.val (.int p1), .val (.int p2), .val (.int p3), .unset, .unset, .unset, .unset, .unset, .unset, .unset, .unset, .unset, .unset, .unset, .unset, .unset, .unset, .unset] [(.int p1)]))
  obtain ⟨_, _, ⟨T10, L10, k10, n10⟩, -, X10, ⟨Lc10, hQ10, l10, y10, z10⟩, st10⟩ := Jvm.LawKit.callS X0 hx (y := (⟨"com/example/debit/debit/bench/Tally", "failed", "(I)Lcom/example/debit/debit/bench/Tally;"⟩ : MethodName)) hown (mvT hZ (hw _ (List.mem_of_getElem? (i := 0) rfl))) (mvT hZ (hw _ (List.mem_of_getElem? (i := 1) rfl))) (mvT hZ (hw _ (List.mem_of_getElem? (i := 2) rfl))) (mvT hZ (hw _ (List.mem_of_getElem? (i := 3) rfl))) (by decide) (own_back (W := 0) (own_rm1 l Z a0 hw [] p1 h0 n0 Z0) hZ (hw _ (List.mem_of_getElem? (i := 3) rfl)) (hw _ (List.mem_of_getElem? (i := 2) rfl)) (by decide) (by decide)) (g := (mkF m 1 #[.val (.int p1), .val (.int p2), .val (.int p3), .unset, .unset, .unset, .unset, .unset, .unset, .unset, .unset, .unset, .unset, .unset, .unset, .unset, .unset, .unset] [(.int p1)])) rfl (by rw [hml]; rfl) (argsL := [(.int p1)]) (rest := []) (lenOf own_pd1 rfl) rfl (by show 2 * 0 + _ ≤ _; exact Nat.le_of_eq rfl) (hb hby at_1) (fun _ _ => ⟨rfl, e0, (by decide : 0 + 2 ≤ _), (by decide : 0 + 1029 ≤ _)⟩)
  dsimp only [Pt.U, Pt.locs, Pt.cells, Pt.slots] at X10 l10 y10 z10 st10 hQ10
  subst l10 y10 z10
  obtain ⟨b, rfl, N10q, K10, g_b, szx_b, E_b, F_b⟩ := hQ10
  have N10 := Fr.app N0 N10q
  refine own_to (fun t k => st10 t k) ?_
  show own_Fin _ _ _ _ _ _ (T10.setTop (mkF m 4 #[.val (.int p1), .val (.int p2), .val (.int p3), .unset, .unset, .unset, .unset, .unset, .unset, .unset, .unset, .unset, .unset, .unset, .unset, .unset, .unset, .unset] [(.ref b)]))
  refine own_to (fun t k => XS.astoreN X10.here hx rfl (hb hby at_4) rfl rfl (l' := #[.val (.int p1), .val (.int p2), .val (.int p3), .val (.ref b), .unset, .unset, .unset, .unset, .unset, .unset, .unset, .unset, .unset, .unset, .unset, .unset, .unset, .unset]) rfl k) ?_
  show own_Fin _ _ _ _ _ _ (T10.setTop (mkF m 5 #[.val (.int p1), .val (.int p2), .val (.int p3), .val (.ref b), .unset, .unset, .unset, .unset, .unset, .unset, .unset, .unset, .unset, .unset, .unset, .unset, .unset, .unset] []))
  refine own_to (fun t k => XS.iloadN X10.here hx rfl (hb hby at_5) rfl k) ?_
  show own_Fin _ _ _ _ _ _ (T10.setTop (mkF m 6 #[.val (.int p1), .val (.int p2), .val (.int p3), .val (.ref b), .unset, .unset, .unset, .unset, .unset, .unset, .unset, .unset, .unset, .unset, .unset, .unset, .unset, .unset] [(.int p1)]))
  refine own_to (fun t k => XS.i2l X10.here hx rfl (hb hby at_6) rfl k) ?_
  show own_Fin _ _ _ _ _ _ (T10.setTop (mkF m 7 #[.val (.int p1), .val (.int p2), .val (.int p3), .val (.ref b), .unset, .unset, .unset, .unset, .unset, .unset, .unset, .unset, .unset, .unset, .unset, .unset, .unset, .unset] [(.long (p1.toInt64))]))
  refine own_to (fun t k => XS.lstore X10.here hx rfl (hb hby at_7) rfl (l' := #[.val (.int p1), .val (.int p2), .val (.int p3), .val (.ref b), .val (.long (p1.toInt64)), .second, .unset, .unset, .unset, .unset, .unset, .unset, .unset, .unset, .unset, .unset, .unset, .unset]) rfl k) ?_
  show own_Fin _ _ _ _ _ _ (T10.setTop (mkF m 9 #[.val (.int p1), .val (.int p2), .val (.int p3), .val (.ref b), .val (.long (p1.toInt64)), .second, .unset, .unset, .unset, .unset, .unset, .unset, .unset, .unset, .unset, .unset, .unset, .unset] []))
  refine own_to (fun t k => XS.aloadN X10.here hx rfl (hb hby at_9) rfl rfl k) ?_
  show own_Fin _ _ _ _ _ _ (T10.setTop (mkF m 10 #[.val (.int p1), .val (.int p2), .val (.int p3), .val (.ref b), .val (.long (p1.toInt64)), .second, .unset, .unset, .unset, .unset, .unset, .unset, .unset, .unset, .unset, .unset, .unset, .unset] [(.ref b)]))
  refine own_to (fun t k => XS.iloadN X10.here hx rfl (hb hby at_10) rfl k) ?_
  show own_Fin _ _ _ _ _ _ (T10.setTop (mkF m 11 #[.val (.int p1), .val (.int p2), .val (.int p3), .val (.ref b), .val (.long (p1.toInt64)), .second, .unset, .unset, .unset, .unset, .unset, .unset, .unset, .unset, .unset, .unset, .unset, .unset] [(.int p2), (.ref b)]))
  obtain ⟨cq11, kq11, q11a, q11b, q11c⟩ := isOf hZ rfl E_b
  obtain ⟨_, _, ⟨T11, L11, k11, n11⟩, -, X11, ⟨Lc11, hQ11, l11, y11, z11⟩, st11⟩ := X10.virtualBack hx (y := (⟨"com/example/debit/debit/bench/Tally", "unanswered", "(I)V"⟩ : MethodName)) (z := (⟨"com/example/debit/debit/bench/Tally", "unanswered", "(I)V"⟩ : MethodName)) hown (mvT hZ (hw _ (List.mem_of_getElem? (i := 17) rfl))) (mvT hZ (hw _ (List.mem_of_getElem? (i := 18) rfl))) (notFace_of_selects (args := #[]) (mvT hZ (hw _ (List.mem_of_getElem? (i := 20) rfl)))) (mvT hZ (hw _ (List.mem_of_getElem? (i := 20) rfl))) (mvT hZ (hw _ (List.mem_of_getElem? (i := 19) rfl))) (by decide) (own_back (W := 0) (own_rm4 l Z a0 hw [] b p2 (p1.toInt64) T10.heap n0 (Nat.le_trans Z0 K10.1) E_b F_b g_b) hZ (hw _ (List.mem_of_getElem? (i := 21) rfl)) (hw _ (List.mem_of_getElem? (i := 2) rfl)) (by decide) (by decide)) q11a q11c (g := (mkF m 11 #[.val (.int p1), .val (.int p2), .val (.int p3), .val (.ref b), .val (.long (p1.toInt64)), .second, .unset, .unset, .unset, .unset, .unset, .unset, .unset, .unset, .unset, .unset, .unset, .unset] [(.int p2), (.ref b)])) rfl (by rw [hml]; rfl) (Steps.refl _) (argsL := [(.int p2)]) (rest := []) (lenOf own_pd2 rfl) rfl (by show 2 * 0 + _ ≤ _; exact Nat.le_of_eq rfl) (hb hby at_11) (fun _ _ => ⟨rfl, rfl, (by decide : 2 + 0 ≤ _), (by decide : 1029 + 0 ≤ _)⟩)
  dsimp only [Pt.U, Pt.locs, Pt.cells, Pt.slots] at X11 l11 y11 z11 st11 hQ11
  subst l11 y11 z11
  obtain ⟨rfl, N11q, K11, Fu11⟩ := hQ11
  have N11 := Fr.app N10 N11q
  have E_b_e11 := E_b.keep K11
  refine own_to (fun t k => st11.trans k) ?_
  show own_Fin _ _ _ _ _ _ (T11.setTop (mkF m 14 #[.val (.int p1), .val (.int p2), .val (.int p3), .val (.ref b), .val (.long (p1.toInt64)), .second, .unset, .unset, .unset, .unset, .unset, .unset, .unset, .unset, .unset, .unset, .unset, .unset] []))
  refine own_to (fun t k => XS.aloadN X11.here hx rfl (hb hby at_14) rfl rfl k) ?_
  show own_Fin _ _ _ _ _ _ (T11.setTop (mkF m 15 #[.val (.int p1), .val (.int p2), .val (.int p3), .val (.ref b), .val (.long (p1.toInt64)), .second, .unset, .unset, .unset, .unset, .unset, .unset, .unset, .unset, .unset, .unset, .unset, .unset] [(.ref b)]))
  obtain ⟨cq12, kq12, q12a, q12b, q12c⟩ := isOf hZ rfl E_b_e11
  obtain ⟨_, _, ⟨T12, L12, k12, n12⟩, -, X12, ⟨Lc12, hQ12, l12, y12, z12⟩, st12⟩ := X11.virtualBack hx (y := (⟨"com/example/debit/debit/bench/Tally", "failures", "()J"⟩ : MethodName)) (z := (⟨"com/example/debit/debit/bench/Tally", "failures", "()J"⟩ : MethodName)) hown (mvT hZ (hw _ (List.mem_of_getElem? (i := 22) rfl))) (mvT hZ (hw _ (List.mem_of_getElem? (i := 23) rfl))) (notFace_of_selects (args := #[]) (mvT hZ (hw _ (List.mem_of_getElem? (i := 25) rfl)))) (mvT hZ (hw _ (List.mem_of_getElem? (i := 25) rfl))) (mvT hZ (hw _ (List.mem_of_getElem? (i := 24) rfl))) (by decide) (own_back (W := 0) (own_rm5 l Z a0 hw [] b ((p1.toInt64) + (p2.toInt64)) T11.heap n0 (Nat.le_trans (Nat.le_trans Z0 K10.1) K11.1) Fu11) hZ (hw _ (List.mem_of_getElem? (i := 26) rfl)) (hw _ (List.mem_of_getElem? (i := 2) rfl)) (by decide) (by decide)) q12a q12c (g := (mkF m 15 #[.val (.int p1), .val (.int p2), .val (.int p3), .val (.ref b), .val (.long (p1.toInt64)), .second, .unset, .unset, .unset, .unset, .unset, .unset, .unset, .unset, .unset, .unset, .unset, .unset] [(.ref b)])) rfl (by rw [hml]; rfl) (Steps.refl _) (argsL := []) (rest := []) (lenOf own_pd3 rfl) rfl (by show 2 * 0 + _ ≤ _; exact Nat.le_of_eq rfl) (hb hby at_15) (fun _ _ => ⟨rfl, rfl, (by decide : 2 + 0 ≤ _), (by decide : 1029 + 0 ≤ _)⟩)
  dsimp only [Pt.U, Pt.locs, Pt.cells, Pt.slots] at X12 l12 y12 z12 st12 hQ12
  subst l12 y12 z12
  obtain ⟨rfl, N12q, eh12⟩ := hQ12
  have N12 := Fr.app N11 N12q
  refine own_to (fun t k => st12.trans k) ?_
  show own_Fin _ _ _ _ _ _ (T12.setTop (mkF m 18 #[.val (.int p1), .val (.int p2), .val (.int p3), .val (.ref b), .val (.long (p1.toInt64)), .second, .unset, .unset, .unset, .unset, .unset, .unset, .unset, .unset, .unset, .unset, .unset, .unset] [(.long ((p1.toInt64) + (p2.toInt64)))]))
  refine own_to (fun t k => XS.lstore X12.here hx rfl (hb hby at_18) rfl (l' := #[.val (.int p1), .val (.int p2), .val (.int p3), .val (.ref b), .val (.long (p1.toInt64)), .second, .val (.long ((p1.toInt64) + (p2.toInt64))), .second, .unset, .unset, .unset, .unset, .unset, .unset, .unset, .unset, .unset, .unset]) rfl k) ?_
  show own_Fin _ _ _ _ _ _ (T12.setTop (mkF m 20 #[.val (.int p1), .val (.int p2), .val (.int p3), .val (.ref b), .val (.long (p1.toInt64)), .second, .val (.long ((p1.toInt64) + (p2.toInt64))), .second, .unset, .unset, .unset, .unset, .unset, .unset, .unset, .unset, .unset, .unset] []))
  refine own_to (fun t k => XS.aloadN X12.here hx rfl (hb hby at_20) rfl rfl k) ?_
  show own_Fin _ _ _ _ _ _ (T12.setTop (mkF m 21 #[.val (.int p1), .val (.int p2), .val (.int p3), .val (.ref b), .val (.long (p1.toInt64)), .second, .val (.long ((p1.toInt64) + (p2.toInt64))), .second, .unset, .unset, .unset, .unset, .unset, .unset, .unset, .unset, .unset, .unset] [(.ref b)]))
  refine own_to (fun t k => XS.iloadN X12.here hx rfl (hb hby at_21) rfl k) ?_
  show own_Fin _ _ _ _ _ _ (T12.setTop (mkF m 22 #[.val (.int p1), .val (.int p2), .val (.int p3), .val (.ref b), .val (.long (p1.toInt64)), .second, .val (.long ((p1.toInt64) + (p2.toInt64))), .second, .unset, .unset, .unset, .unset, .unset, .unset, .unset, .unset, .unset, .unset] [(.int p3), (.ref b)]))
  obtain ⟨cq13, kq13, q13a, q13b, q13c⟩ := isOf hZ eh12 E_b_e11
  obtain ⟨_, _, ⟨T13, L13, k13, n13⟩, -, X13, ⟨Lc13, hQ13, l13, y13, z13⟩, st13⟩ := X12.virtualBack hx (y := (⟨"com/example/debit/debit/bench/Tally", "unanswered", "(I)V"⟩ : MethodName)) (z := (⟨"com/example/debit/debit/bench/Tally", "unanswered", "(I)V"⟩ : MethodName)) hown (mvT hZ (hw _ (List.mem_of_getElem? (i := 17) rfl))) (mvT hZ (hw _ (List.mem_of_getElem? (i := 18) rfl))) (notFace_of_selects (args := #[]) (mvT hZ (hw _ (List.mem_of_getElem? (i := 20) rfl)))) (mvT hZ (hw _ (List.mem_of_getElem? (i := 20) rfl))) (mvT hZ (hw _ (List.mem_of_getElem? (i := 19) rfl))) (by decide) (own_back (W := 0) (own_rm4 l Z a0 hw [] b p3 ((p1.toInt64) + (p2.toInt64)) T11.heap n0 (Nat.le_trans (Nat.le_trans Z0 K10.1) K11.1) E_b_e11 Fu11 g_b) hZ (hw _ (List.mem_of_getElem? (i := 21) rfl)) (hw _ (List.mem_of_getElem? (i := 2) rfl)) (by decide) (by decide)) q13a q13c (g := (mkF m 22 #[.val (.int p1), .val (.int p2), .val (.int p3), .val (.ref b), .val (.long (p1.toInt64)), .second, .val (.long ((p1.toInt64) + (p2.toInt64))), .second, .unset, .unset, .unset, .unset, .unset, .unset, .unset, .unset, .unset, .unset] [(.int p3), (.ref b)])) rfl (by rw [hml]; rfl) (Steps.refl _) (argsL := [(.int p3)]) (rest := []) (lenOf own_pd2 rfl) rfl (by show 2 * 0 + _ ≤ _; exact Nat.le_of_eq rfl) (hb hby at_22) (fun _ _ => ⟨rfl, eh12, (by decide : 2 + 0 ≤ _), (by decide : 1029 + 0 ≤ _)⟩)
  dsimp only [Pt.U, Pt.locs, Pt.cells, Pt.slots] at X13 l13 y13 z13 st13 hQ13
  subst l13 y13 z13
  obtain ⟨rfl, N13q, K13, Fu13⟩ := hQ13
  have N13 := Fr.app N12 N13q
  have E_b_e13 := E_b_e11.keep K13
  refine own_to (fun t k => st13.trans k) ?_
  show own_Fin _ _ _ _ _ _ (T13.setTop (mkF m 25 #[.val (.int p1), .val (.int p2), .val (.int p3), .val (.ref b), .val (.long (p1.toInt64)), .second, .val (.long ((p1.toInt64) + (p2.toInt64))), .second, .unset, .unset, .unset, .unset, .unset, .unset, .unset, .unset, .unset, .unset] []))
  refine own_to (fun t k => XS.aloadN X13.here hx rfl (hb hby at_25) rfl rfl k) ?_
  show own_Fin _ _ _ _ _ _ (T13.setTop (mkF m 26 #[.val (.int p1), .val (.int p2), .val (.int p3), .val (.ref b), .val (.long (p1.toInt64)), .second, .val (.long ((p1.toInt64) + (p2.toInt64))), .second, .unset, .unset, .unset, .unset, .unset, .unset, .unset, .unset, .unset, .unset] [(.ref b)]))
  obtain ⟨cq14, kq14, q14a, q14b, q14c⟩ := isOf hZ rfl E_b_e13
  obtain ⟨_, _, ⟨T14, L14, k14, n14⟩, -, X14, ⟨Lc14, hQ14, l14, y14, z14⟩, st14⟩ := X13.virtualBack hx (y := (⟨"com/example/debit/debit/bench/Tally", "failures", "()J"⟩ : MethodName)) (z := (⟨"com/example/debit/debit/bench/Tally", "failures", "()J"⟩ : MethodName)) hown (mvT hZ (hw _ (List.mem_of_getElem? (i := 22) rfl))) (mvT hZ (hw _ (List.mem_of_getElem? (i := 23) rfl))) (notFace_of_selects (args := #[]) (mvT hZ (hw _ (List.mem_of_getElem? (i := 25) rfl)))) (mvT hZ (hw _ (List.mem_of_getElem? (i := 25) rfl))) (mvT hZ (hw _ (List.mem_of_getElem? (i := 24) rfl))) (by decide) (own_back (W := 0) (own_rm5 l Z a0 hw [] b (((p1.toInt64) + (p2.toInt64)) + (p3.toInt64)) T13.heap n0 (Nat.le_trans (Nat.le_trans (Nat.le_trans Z0 K10.1) K11.1) K13.1) Fu13) hZ (hw _ (List.mem_of_getElem? (i := 26) rfl)) (hw _ (List.mem_of_getElem? (i := 2) rfl)) (by decide) (by decide)) q14a q14c (g := (mkF m 26 #[.val (.int p1), .val (.int p2), .val (.int p3), .val (.ref b), .val (.long (p1.toInt64)), .second, .val (.long ((p1.toInt64) + (p2.toInt64))), .second, .unset, .unset, .unset, .unset, .unset, .unset, .unset, .unset, .unset, .unset] [(.ref b)])) rfl (by rw [hml]; rfl) (Steps.refl _) (argsL := []) (rest := []) (lenOf own_pd3 rfl) rfl (by show 2 * 0 + _ ≤ _; exact Nat.le_of_eq rfl) (hb hby at_26) (fun _ _ => ⟨rfl, rfl, (by decide : 2 + 0 ≤ _), (by decide : 1029 + 0 ≤ _)⟩)
  dsimp only [Pt.U, Pt.locs, Pt.cells, Pt.slots] at X14 l14 y14 z14 st14 hQ14
  subst l14 y14 z14
  obtain ⟨rfl, N14q, eh14⟩ := hQ14
  have N14 := Fr.app N13 N14q
  refine own_to (fun t k => st14.trans k) ?_
  show own_Fin _ _ _ _ _ _ (T14.setTop (mkF m 29 #[.val (.int p1), .val (.int p2), .val (.int p3), .val (.ref b), .val (.long (p1.toInt64)), .second, .val (.long ((p1.toInt64) + (p2.toInt64))), .second, .unset, .unset, .unset, .unset, .unset, .unset, .unset, .unset, .unset, .unset] [(.long (((p1.toInt64) + (p2.toInt64)) + (p3.toInt64)))]))
  refine own_to (fun t k => XS.lstore X14.here hx rfl (hb hby at_29) rfl (l' := #[.val (.int p1), .val (.int p2), .val (.int p3), .val (.ref b), .val (.long (p1.toInt64)), .second, .val (.long ((p1.toInt64) + (p2.toInt64))), .second, .val (.long (((p1.toInt64) + (p2.toInt64)) + (p3.toInt64))), .second, .unset, .unset, .unset, .unset, .unset, .unset, .unset, .unset]) rfl k) ?_
  show own_Fin _ _ _ _ _ _ (T14.setTop (mkF m 31 #[.val (.int p1), .val (.int p2), .val (.int p3), .val (.ref b), .val (.long (p1.toInt64)), .second, .val (.long ((p1.toInt64) + (p2.toInt64))), .second, .val (.long (((p1.toInt64) + (p2.toInt64)) + (p3.toInt64))), .second, .unset, .unset, .unset, .unset, .unset, .unset, .unset, .unset] []))
  refine own_to (fun t k => XS.aloadN X14.here hx rfl (hb hby at_31) rfl rfl k) ?_
  show own_Fin _ _ _ _ _ _ (T14.setTop (mkF m 32 #[.val (.int p1), .val (.int p2), .val (.int p3), .val (.ref b), .val (.long (p1.toInt64)), .second, .val (.long ((p1.toInt64) + (p2.toInt64))), .second, .val (.long (((p1.toInt64) + (p2.toInt64)) + (p3.toInt64))), .second, .unset, .unset, .unset, .unset, .unset, .unset, .unset, .unset] [(.ref b)]))
  refine own_to (fun t k => XS.iloadN X14.here hx rfl (hb hby at_32) rfl k) ?_
  show own_Fin _ _ _ _ _ _ (T14.setTop (mkF m 33 #[.val (.int p1), .val (.int p2), .val (.int p3), .val (.ref b), .val (.long (p1.toInt64)), .second, .val (.long ((p1.toInt64) + (p2.toInt64))), .second, .val (.long (((p1.toInt64) + (p2.toInt64)) + (p3.toInt64))), .second, .unset, .unset, .unset, .unset, .unset, .unset, .unset, .unset] [(.int p2), (.ref b)]))
  obtain ⟨cq15, kq15, q15a, q15b, q15c⟩ := isOf hZ eh14 E_b_e13
  obtain ⟨_, _, ⟨T15, L15, k15, n15⟩, -, X15, ⟨Lc15, hQ15, l15, y15, z15⟩, st15⟩ := X14.virtualBack hx (y := (⟨"com/example/debit/debit/bench/Tally", "unanswered", "(I)V"⟩ : MethodName)) (z := (⟨"com/example/debit/debit/bench/Tally", "unanswered", "(I)V"⟩ : MethodName)) hown (mvT hZ (hw _ (List.mem_of_getElem? (i := 17) rfl))) (mvT hZ (hw _ (List.mem_of_getElem? (i := 18) rfl))) (notFace_of_selects (args := #[]) (mvT hZ (hw _ (List.mem_of_getElem? (i := 20) rfl)))) (mvT hZ (hw _ (List.mem_of_getElem? (i := 20) rfl))) (mvT hZ (hw _ (List.mem_of_getElem? (i := 19) rfl))) (by decide) (own_back (W := 0) (own_rm4 l Z a0 hw [] b p2 (((p1.toInt64) + (p2.toInt64)) + (p3.toInt64)) T13.heap n0 (Nat.le_trans (Nat.le_trans (Nat.le_trans Z0 K10.1) K11.1) K13.1) E_b_e13 Fu13 g_b) hZ (hw _ (List.mem_of_getElem? (i := 21) rfl)) (hw _ (List.mem_of_getElem? (i := 2) rfl)) (by decide) (by decide)) q15a q15c (g := (mkF m 33 #[.val (.int p1), .val (.int p2), .val (.int p3), .val (.ref b), .val (.long (p1.toInt64)), .second, .val (.long ((p1.toInt64) + (p2.toInt64))), .second, .val (.long (((p1.toInt64) + (p2.toInt64)) + (p3.toInt64))), .second, .unset, .unset, .unset, .unset, .unset, .unset, .unset, .unset] [(.int p2), (.ref b)])) rfl (by rw [hml]; rfl) (Steps.refl _) (argsL := [(.int p2)]) (rest := []) (lenOf own_pd2 rfl) rfl (by show 2 * 0 + _ ≤ _; exact Nat.le_of_eq rfl) (hb hby at_33) (fun _ _ => ⟨rfl, eh14, (by decide : 2 + 0 ≤ _), (by decide : 1029 + 0 ≤ _)⟩)
  dsimp only [Pt.U, Pt.locs, Pt.cells, Pt.slots] at X15 l15 y15 z15 st15 hQ15
  subst l15 y15 z15
  obtain ⟨rfl, N15q, K15, Fu15⟩ := hQ15
  have N15 := Fr.app N14 N15q
  have E_b_e15 := E_b_e13.keep K15
  refine own_to (fun t k => st15.trans k) ?_
  show own_Fin _ _ _ _ _ _ (T15.setTop (mkF m 36 #[.val (.int p1), .val (.int p2), .val (.int p3), .val (.ref b), .val (.long (p1.toInt64)), .second, .val (.long ((p1.toInt64) + (p2.toInt64))), .second, .val (.long (((p1.toInt64) + (p2.toInt64)) + (p3.toInt64))), .second, .unset, .unset, .unset, .unset, .unset, .unset, .unset, .unset] []))
  refine own_to (fun t k => XS.aloadN X15.here hx rfl (hb hby at_36) rfl rfl k) ?_
  show own_Fin _ _ _ _ _ _ (T15.setTop (mkF m 37 #[.val (.int p1), .val (.int p2), .val (.int p3), .val (.ref b), .val (.long (p1.toInt64)), .second, .val (.long ((p1.toInt64) + (p2.toInt64))), .second, .val (.long (((p1.toInt64) + (p2.toInt64)) + (p3.toInt64))), .second, .unset, .unset, .unset, .unset, .unset, .unset, .unset, .unset] [(.ref b)]))
  obtain ⟨cq16, kq16, q16a, q16b, q16c⟩ := isOf hZ rfl E_b_e15
  obtain ⟨_, _, ⟨T16, L16, k16, n16⟩, -, X16, ⟨Lc16, hQ16, l16, y16, z16⟩, st16⟩ := X15.virtualBack hx (y := (⟨"com/example/debit/debit/bench/Tally", "failures", "()J"⟩ : MethodName)) (z := (⟨"com/example/debit/debit/bench/Tally", "failures", "()J"⟩ : MethodName)) hown (mvT hZ (hw _ (List.mem_of_getElem? (i := 22) rfl))) (mvT hZ (hw _ (List.mem_of_getElem? (i := 23) rfl))) (notFace_of_selects (args := #[]) (mvT hZ (hw _ (List.mem_of_getElem? (i := 25) rfl)))) (mvT hZ (hw _ (List.mem_of_getElem? (i := 25) rfl))) (mvT hZ (hw _ (List.mem_of_getElem? (i := 24) rfl))) (by decide) (own_back (W := 0) (own_rm5 l Z a0 hw [] b ((((p1.toInt64) + (p2.toInt64)) + (p3.toInt64)) + (p2.toInt64)) T15.heap n0 (Nat.le_trans (Nat.le_trans (Nat.le_trans (Nat.le_trans Z0 K10.1) K11.1) K13.1) K15.1) Fu15) hZ (hw _ (List.mem_of_getElem? (i := 26) rfl)) (hw _ (List.mem_of_getElem? (i := 2) rfl)) (by decide) (by decide)) q16a q16c (g := (mkF m 37 #[.val (.int p1), .val (.int p2), .val (.int p3), .val (.ref b), .val (.long (p1.toInt64)), .second, .val (.long ((p1.toInt64) + (p2.toInt64))), .second, .val (.long (((p1.toInt64) + (p2.toInt64)) + (p3.toInt64))), .second, .unset, .unset, .unset, .unset, .unset, .unset, .unset, .unset] [(.ref b)])) rfl (by rw [hml]; rfl) (Steps.refl _) (argsL := []) (rest := []) (lenOf own_pd3 rfl) rfl (by show 2 * 0 + _ ≤ _; exact Nat.le_of_eq rfl) (hb hby at_37) (fun _ _ => ⟨rfl, rfl, (by decide : 2 + 0 ≤ _), (by decide : 1029 + 0 ≤ _)⟩)
  dsimp only [Pt.U, Pt.locs, Pt.cells, Pt.slots] at X16 l16 y16 z16 st16 hQ16
  subst l16 y16 z16
  obtain ⟨rfl, N16q, eh16⟩ := hQ16
  have N16 := Fr.app N15 N16q
  refine own_to (fun t k => st16.trans k) ?_
  show own_Fin _ _ _ _ _ _ (T16.setTop (mkF m 40 #[.val (.int p1), .val (.int p2), .val (.int p3), .val (.ref b), .val (.long (p1.toInt64)), .second, .val (.long ((p1.toInt64) + (p2.toInt64))), .second, .val (.long (((p1.toInt64) + (p2.toInt64)) + (p3.toInt64))), .second, .unset, .unset, .unset, .unset, .unset, .unset, .unset, .unset] [(.long ((((p1.toInt64) + (p2.toInt64)) + (p3.toInt64)) + (p2.toInt64)))]))
  refine own_to (fun t k => XS.lstore X16.here hx rfl (hb hby at_40) rfl (l' := #[.val (.int p1), .val (.int p2), .val (.int p3), .val (.ref b), .val (.long (p1.toInt64)), .second, .val (.long ((p1.toInt64) + (p2.toInt64))), .second, .val (.long (((p1.toInt64) + (p2.toInt64)) + (p3.toInt64))), .second, .val (.long ((((p1.toInt64) + (p2.toInt64)) + (p3.toInt64)) + (p2.toInt64))), .second, .unset, .unset, .unset, .unset, .unset, .unset]) rfl k) ?_
  show own_Fin _ _ _ _ _ _ (T16.setTop (mkF m 42 #[.val (.int p1), .val (.int p2), .val (.int p3), .val (.ref b), .val (.long (p1.toInt64)), .second, .val (.long ((p1.toInt64) + (p2.toInt64))), .second, .val (.long (((p1.toInt64) + (p2.toInt64)) + (p3.toInt64))), .second, .val (.long ((((p1.toInt64) + (p2.toInt64)) + (p3.toInt64)) + (p2.toInt64))), .second, .unset, .unset, .unset, .unset, .unset, .unset] []))
  refine own_to (fun t k => XS.lload X16.here hx rfl (hb hby at_42) rfl k) ?_
  show own_Fin _ _ _ _ _ _ (T16.setTop (mkF m 44 #[.val (.int p1), .val (.int p2), .val (.int p3), .val (.ref b), .val (.long (p1.toInt64)), .second, .val (.long ((p1.toInt64) + (p2.toInt64))), .second, .val (.long (((p1.toInt64) + (p2.toInt64)) + (p3.toInt64))), .second, .val (.long ((((p1.toInt64) + (p2.toInt64)) + (p3.toInt64)) + (p2.toInt64))), .second, .unset, .unset, .unset, .unset, .unset, .unset] [(.long (p1.toInt64))]))
  refine own_to (fun t k => XS.iloadN X16.here hx rfl (hb hby at_44) rfl k) ?_
  show own_Fin _ _ _ _ _ _ (T16.setTop (mkF m 45 #[.val (.int p1), .val (.int p2), .val (.int p3), .val (.ref b), .val (.long (p1.toInt64)), .second, .val (.long ((p1.toInt64) + (p2.toInt64))), .second, .val (.long (((p1.toInt64) + (p2.toInt64)) + (p3.toInt64))), .second, .val (.long ((((p1.toInt64) + (p2.toInt64)) + (p3.toInt64)) + (p2.toInt64))), .second, .unset, .unset, .unset, .unset, .unset, .unset] [(.int p2), (.long (p1.toInt64))]))
  refine own_to (fun t k => XS.i2l X16.here hx rfl (hb hby at_45) rfl k) ?_
  show own_Fin _ _ _ _ _ _ (T16.setTop (mkF m 46 #[.val (.int p1), .val (.int p2), .val (.int p3), .val (.ref b), .val (.long (p1.toInt64)), .second, .val (.long ((p1.toInt64) + (p2.toInt64))), .second, .val (.long (((p1.toInt64) + (p2.toInt64)) + (p3.toInt64))), .second, .val (.long ((((p1.toInt64) + (p2.toInt64)) + (p3.toInt64)) + (p2.toInt64))), .second, .unset, .unset, .unset, .unset, .unset, .unset] [(.long (p2.toInt64)), (.long (p1.toInt64))]))
  refine own_to (fun t k => XS.ladd X16.here hx rfl (hb hby at_46) rfl k) ?_
  show own_Fin _ _ _ _ _ _ (T16.setTop (mkF m 47 #[.val (.int p1), .val (.int p2), .val (.int p3), .val (.ref b), .val (.long (p1.toInt64)), .second, .val (.long ((p1.toInt64) + (p2.toInt64))), .second, .val (.long (((p1.toInt64) + (p2.toInt64)) + (p3.toInt64))), .second, .val (.long ((((p1.toInt64) + (p2.toInt64)) + (p3.toInt64)) + (p2.toInt64))), .second, .unset, .unset, .unset, .unset, .unset, .unset] [(.long ((p1.toInt64) + (p2.toInt64)))]))
  refine own_to (fun t k => XS.lstore X16.here hx rfl (hb hby at_47) rfl (l' := #[.val (.int p1), .val (.int p2), .val (.int p3), .val (.ref b), .val (.long (p1.toInt64)), .second, .val (.long ((p1.toInt64) + (p2.toInt64))), .second, .val (.long (((p1.toInt64) + (p2.toInt64)) + (p3.toInt64))), .second, .val (.long ((((p1.toInt64) + (p2.toInt64)) + (p3.toInt64)) + (p2.toInt64))), .second, .val (.long ((p1.toInt64) + (p2.toInt64))), .second, .unset, .unset, .unset, .unset]) rfl k) ?_
  show own_Fin _ _ _ _ _ _ (T16.setTop (mkF m 49 #[.val (.int p1), .val (.int p2), .val (.int p3), .val (.ref b), .val (.long (p1.toInt64)), .second, .val (.long ((p1.toInt64) + (p2.toInt64))), .second, .val (.long (((p1.toInt64) + (p2.toInt64)) + (p3.toInt64))), .second, .val (.long ((((p1.toInt64) + (p2.toInt64)) + (p3.toInt64)) + (p2.toInt64))), .second, .val (.long ((p1.toInt64) + (p2.toInt64))), .second, .unset, .unset, .unset, .unset] []))
  refine own_to (fun t k => XS.lload X16.here hx rfl (hb hby at_49) rfl k) ?_
  show own_Fin _ _ _ _ _ _ (T16.setTop (mkF m 51 #[.val (.int p1), .val (.int p2), .val (.int p3), .val (.ref b), .val (.long (p1.toInt64)), .second, .val (.long ((p1.toInt64) + (p2.toInt64))), .second, .val (.long (((p1.toInt64) + (p2.toInt64)) + (p3.toInt64))), .second, .val (.long ((((p1.toInt64) + (p2.toInt64)) + (p3.toInt64)) + (p2.toInt64))), .second, .val (.long ((p1.toInt64) + (p2.toInt64))), .second, .unset, .unset, .unset, .unset] [(.long ((p1.toInt64) + (p2.toInt64)))]))
  refine own_to (fun t k => XS.iloadN X16.here hx rfl (hb hby at_51) rfl k) ?_
  show own_Fin _ _ _ _ _ _ (T16.setTop (mkF m 52 #[.val (.int p1), .val (.int p2), .val (.int p3), .val (.ref b), .val (.long (p1.toInt64)), .second, .val (.long ((p1.toInt64) + (p2.toInt64))), .second, .val (.long (((p1.toInt64) + (p2.toInt64)) + (p3.toInt64))), .second, .val (.long ((((p1.toInt64) + (p2.toInt64)) + (p3.toInt64)) + (p2.toInt64))), .second, .val (.long ((p1.toInt64) + (p2.toInt64))), .second, .unset, .unset, .unset, .unset] [(.int p3), (.long ((p1.toInt64) + (p2.toInt64)))]))
  refine own_to (fun t k => XS.i2l X16.here hx rfl (hb hby at_52) rfl k) ?_
  show own_Fin _ _ _ _ _ _ (T16.setTop (mkF m 53 #[.val (.int p1), .val (.int p2), .val (.int p3), .val (.ref b), .val (.long (p1.toInt64)), .second, .val (.long ((p1.toInt64) + (p2.toInt64))), .second, .val (.long (((p1.toInt64) + (p2.toInt64)) + (p3.toInt64))), .second, .val (.long ((((p1.toInt64) + (p2.toInt64)) + (p3.toInt64)) + (p2.toInt64))), .second, .val (.long ((p1.toInt64) + (p2.toInt64))), .second, .unset, .unset, .unset, .unset] [(.long (p3.toInt64)), (.long ((p1.toInt64) + (p2.toInt64)))]))
  refine own_to (fun t k => XS.ladd X16.here hx rfl (hb hby at_53) rfl k) ?_
  show own_Fin _ _ _ _ _ _ (T16.setTop (mkF m 54 #[.val (.int p1), .val (.int p2), .val (.int p3), .val (.ref b), .val (.long (p1.toInt64)), .second, .val (.long ((p1.toInt64) + (p2.toInt64))), .second, .val (.long (((p1.toInt64) + (p2.toInt64)) + (p3.toInt64))), .second, .val (.long ((((p1.toInt64) + (p2.toInt64)) + (p3.toInt64)) + (p2.toInt64))), .second, .val (.long ((p1.toInt64) + (p2.toInt64))), .second, .unset, .unset, .unset, .unset] [(.long (((p1.toInt64) + (p2.toInt64)) + (p3.toInt64)))]))
  refine own_to (fun t k => XS.lstore X16.here hx rfl (hb hby at_54) rfl (l' := #[.val (.int p1), .val (.int p2), .val (.int p3), .val (.ref b), .val (.long (p1.toInt64)), .second, .val (.long ((p1.toInt64) + (p2.toInt64))), .second, .val (.long (((p1.toInt64) + (p2.toInt64)) + (p3.toInt64))), .second, .val (.long ((((p1.toInt64) + (p2.toInt64)) + (p3.toInt64)) + (p2.toInt64))), .second, .val (.long ((p1.toInt64) + (p2.toInt64))), .second, .val (.long (((p1.toInt64) + (p2.toInt64)) + (p3.toInt64))), .second, .unset, .unset]) rfl k) ?_
  show own_Fin _ _ _ _ _ _ (T16.setTop (mkF m 56 #[.val (.int p1), .val (.int p2), .val (.int p3), .val (.ref b), .val (.long (p1.toInt64)), .second, .val (.long ((p1.toInt64) + (p2.toInt64))), .second, .val (.long (((p1.toInt64) + (p2.toInt64)) + (p3.toInt64))), .second, .val (.long ((((p1.toInt64) + (p2.toInt64)) + (p3.toInt64)) + (p2.toInt64))), .second, .val (.long ((p1.toInt64) + (p2.toInt64))), .second, .val (.long (((p1.toInt64) + (p2.toInt64)) + (p3.toInt64))), .second, .unset, .unset] []))
  refine own_to (fun t k => XS.lload X16.here hx rfl (hb hby at_56) rfl k) ?_
  show own_Fin _ _ _ _ _ _ (T16.setTop (mkF m 58 #[.val (.int p1), .val (.int p2), .val (.int p3), .val (.ref b), .val (.long (p1.toInt64)), .second, .val (.long ((p1.toInt64) + (p2.toInt64))), .second, .val (.long (((p1.toInt64) + (p2.toInt64)) + (p3.toInt64))), .second, .val (.long ((((p1.toInt64) + (p2.toInt64)) + (p3.toInt64)) + (p2.toInt64))), .second, .val (.long ((p1.toInt64) + (p2.toInt64))), .second, .val (.long (((p1.toInt64) + (p2.toInt64)) + (p3.toInt64))), .second, .unset, .unset] [(.long (((p1.toInt64) + (p2.toInt64)) + (p3.toInt64)))]))
  refine own_to (fun t k => XS.iloadN X16.here hx rfl (hb hby at_58) rfl k) ?_
  show own_Fin _ _ _ _ _ _ (T16.setTop (mkF m 59 #[.val (.int p1), .val (.int p2), .val (.int p3), .val (.ref b), .val (.long (p1.toInt64)), .second, .val (.long ((p1.toInt64) + (p2.toInt64))), .second, .val (.long (((p1.toInt64) + (p2.toInt64)) + (p3.toInt64))), .second, .val (.long ((((p1.toInt64) + (p2.toInt64)) + (p3.toInt64)) + (p2.toInt64))), .second, .val (.long ((p1.toInt64) + (p2.toInt64))), .second, .val (.long (((p1.toInt64) + (p2.toInt64)) + (p3.toInt64))), .second, .unset, .unset] [(.int p2), (.long (((p1.toInt64) + (p2.toInt64)) + (p3.toInt64)))]))
  refine own_to (fun t k => XS.i2l X16.here hx rfl (hb hby at_59) rfl k) ?_
  show own_Fin _ _ _ _ _ _ (T16.setTop (mkF m 60 #[.val (.int p1), .val (.int p2), .val (.int p3), .val (.ref b), .val (.long (p1.toInt64)), .second, .val (.long ((p1.toInt64) + (p2.toInt64))), .second, .val (.long (((p1.toInt64) + (p2.toInt64)) + (p3.toInt64))), .second, .val (.long ((((p1.toInt64) + (p2.toInt64)) + (p3.toInt64)) + (p2.toInt64))), .second, .val (.long ((p1.toInt64) + (p2.toInt64))), .second, .val (.long (((p1.toInt64) + (p2.toInt64)) + (p3.toInt64))), .second, .unset, .unset] [(.long (p2.toInt64)), (.long (((p1.toInt64) + (p2.toInt64)) + (p3.toInt64)))]))
  refine own_to (fun t k => XS.ladd X16.here hx rfl (hb hby at_60) rfl k) ?_
  show own_Fin _ _ _ _ _ _ (T16.setTop (mkF m 61 #[.val (.int p1), .val (.int p2), .val (.int p3), .val (.ref b), .val (.long (p1.toInt64)), .second, .val (.long ((p1.toInt64) + (p2.toInt64))), .second, .val (.long (((p1.toInt64) + (p2.toInt64)) + (p3.toInt64))), .second, .val (.long ((((p1.toInt64) + (p2.toInt64)) + (p3.toInt64)) + (p2.toInt64))), .second, .val (.long ((p1.toInt64) + (p2.toInt64))), .second, .val (.long (((p1.toInt64) + (p2.toInt64)) + (p3.toInt64))), .second, .unset, .unset] [(.long ((((p1.toInt64) + (p2.toInt64)) + (p3.toInt64)) + (p2.toInt64)))]))
  refine own_to (fun t k => XS.lstore X16.here hx rfl (hb hby at_61) rfl (l' := #[.val (.int p1), .val (.int p2), .val (.int p3), .val (.ref b), .val (.long (p1.toInt64)), .second, .val (.long ((p1.toInt64) + (p2.toInt64))), .second, .val (.long (((p1.toInt64) + (p2.toInt64)) + (p3.toInt64))), .second, .val (.long ((((p1.toInt64) + (p2.toInt64)) + (p3.toInt64)) + (p2.toInt64))), .second, .val (.long ((p1.toInt64) + (p2.toInt64))), .second, .val (.long (((p1.toInt64) + (p2.toInt64)) + (p3.toInt64))), .second, .val (.long ((((p1.toInt64) + (p2.toInt64)) + (p3.toInt64)) + (p2.toInt64))), .second]) rfl k) ?_
  show own_Fin _ _ _ _ _ _ (T16.setTop (mkF m 63 #[.val (.int p1), .val (.int p2), .val (.int p3), .val (.ref b), .val (.long (p1.toInt64)), .second, .val (.long ((p1.toInt64) + (p2.toInt64))), .second, .val (.long (((p1.toInt64) + (p2.toInt64)) + (p3.toInt64))), .second, .val (.long ((((p1.toInt64) + (p2.toInt64)) + (p3.toInt64)) + (p2.toInt64))), .second, .val (.long ((p1.toInt64) + (p2.toInt64))), .second, .val (.long (((p1.toInt64) + (p2.toInt64)) + (p3.toInt64))), .second, .val (.long ((((p1.toInt64) + (p2.toInt64)) + (p3.toInt64)) + (p2.toInt64))), .second] []))
  refine own_to (fun t k => XS.lload X16.here hx rfl (hb hby at_63) rfl k) ?_
  show own_Fin _ _ _ _ _ _ (T16.setTop (mkF m 65 #[.val (.int p1), .val (.int p2), .val (.int p3), .val (.ref b), .val (.long (p1.toInt64)), .second, .val (.long ((p1.toInt64) + (p2.toInt64))), .second, .val (.long (((p1.toInt64) + (p2.toInt64)) + (p3.toInt64))), .second, .val (.long ((((p1.toInt64) + (p2.toInt64)) + (p3.toInt64)) + (p2.toInt64))), .second, .val (.long ((p1.toInt64) + (p2.toInt64))), .second, .val (.long (((p1.toInt64) + (p2.toInt64)) + (p3.toInt64))), .second, .val (.long ((((p1.toInt64) + (p2.toInt64)) + (p3.toInt64)) + (p2.toInt64))), .second] [(.long ((p1.toInt64) + (p2.toInt64)))]))
  refine own_to (fun t k => XS.lload X16.here hx rfl (hb hby at_65) rfl k) ?_
  show own_Fin _ _ _ _ _ _ (T16.setTop (mkF m 67 #[.val (.int p1), .val (.int p2), .val (.int p3), .val (.ref b), .val (.long (p1.toInt64)), .second, .val (.long ((p1.toInt64) + (p2.toInt64))), .second, .val (.long (((p1.toInt64) + (p2.toInt64)) + (p3.toInt64))), .second, .val (.long ((((p1.toInt64) + (p2.toInt64)) + (p3.toInt64)) + (p2.toInt64))), .second, .val (.long ((p1.toInt64) + (p2.toInt64))), .second, .val (.long (((p1.toInt64) + (p2.toInt64)) + (p3.toInt64))), .second, .val (.long ((((p1.toInt64) + (p2.toInt64)) + (p3.toInt64)) + (p2.toInt64))), .second] [(.long ((p1.toInt64) + (p2.toInt64))), (.long ((p1.toInt64) + (p2.toInt64)))]))
  refine own_to (fun t k => XS.lcmp X16.here hx rfl (hb hby at_67) rfl k) ?_
  show own_Fin _ _ _ _ _ _ (T16.setTop (mkF m 68 #[.val (.int p1), .val (.int p2), .val (.int p3), .val (.ref b), .val (.long (p1.toInt64)), .second, .val (.long ((p1.toInt64) + (p2.toInt64))), .second, .val (.long (((p1.toInt64) + (p2.toInt64)) + (p3.toInt64))), .second, .val (.long ((((p1.toInt64) + (p2.toInt64)) + (p3.toInt64)) + (p2.toInt64))), .second, .val (.long ((p1.toInt64) + (p2.toInt64))), .second, .val (.long (((p1.toInt64) + (p2.toInt64)) + (p3.toInt64))), .second, .val (.long ((((p1.toInt64) + (p2.toInt64)) + (p3.toInt64)) + (p2.toInt64))), .second] [(.int (lcmpW ((p1.toInt64) + (p2.toInt64)) ((p1.toInt64) + (p2.toInt64))))]))
  refine own_to (fun t k => XS.ifNo X16.here hx rfl (hb hby at_68) rfl ((if0 _ _).trans (teq ((lw_eq _ _).mpr rfl)).2) k) ?_
  show own_Fin _ _ _ _ _ _ (T16.setTop (mkF m 71 #[.val (.int p1), .val (.int p2), .val (.int p3), .val (.ref b), .val (.long (p1.toInt64)), .second, .val (.long ((p1.toInt64) + (p2.toInt64))), .second, .val (.long (((p1.toInt64) + (p2.toInt64)) + (p3.toInt64))), .second, .val (.long ((((p1.toInt64) + (p2.toInt64)) + (p3.toInt64)) + (p2.toInt64))), .second, .val (.long ((p1.toInt64) + (p2.toInt64))), .second, .val (.long (((p1.toInt64) + (p2.toInt64)) + (p3.toInt64))), .second, .val (.long ((((p1.toInt64) + (p2.toInt64)) + (p3.toInt64)) + (p2.toInt64))), .second] []))
  refine own_to (fun t k => XS.lload X16.here hx rfl (hb hby at_71) rfl k) ?_
  show own_Fin _ _ _ _ _ _ (T16.setTop (mkF m 73 #[.val (.int p1), .val (.int p2), .val (.int p3), .val (.ref b), .val (.long (p1.toInt64)), .second, .val (.long ((p1.toInt64) + (p2.toInt64))), .second, .val (.long (((p1.toInt64) + (p2.toInt64)) + (p3.toInt64))), .second, .val (.long ((((p1.toInt64) + (p2.toInt64)) + (p3.toInt64)) + (p2.toInt64))), .second, .val (.long ((p1.toInt64) + (p2.toInt64))), .second, .val (.long (((p1.toInt64) + (p2.toInt64)) + (p3.toInt64))), .second, .val (.long ((((p1.toInt64) + (p2.toInt64)) + (p3.toInt64)) + (p2.toInt64))), .second] [(.long (((p1.toInt64) + (p2.toInt64)) + (p3.toInt64)))]))
  refine own_to (fun t k => XS.lload X16.here hx rfl (hb hby at_73) rfl k) ?_
  show own_Fin _ _ _ _ _ _ (T16.setTop (mkF m 75 #[.val (.int p1), .val (.int p2), .val (.int p3), .val (.ref b), .val (.long (p1.toInt64)), .second, .val (.long ((p1.toInt64) + (p2.toInt64))), .second, .val (.long (((p1.toInt64) + (p2.toInt64)) + (p3.toInt64))), .second, .val (.long ((((p1.toInt64) + (p2.toInt64)) + (p3.toInt64)) + (p2.toInt64))), .second, .val (.long ((p1.toInt64) + (p2.toInt64))), .second, .val (.long (((p1.toInt64) + (p2.toInt64)) + (p3.toInt64))), .second, .val (.long ((((p1.toInt64) + (p2.toInt64)) + (p3.toInt64)) + (p2.toInt64))), .second] [(.long (((p1.toInt64) + (p2.toInt64)) + (p3.toInt64))), (.long (((p1.toInt64) + (p2.toInt64)) + (p3.toInt64)))]))
  refine own_to (fun t k => XS.lcmp X16.here hx rfl (hb hby at_75) rfl k) ?_
  show own_Fin _ _ _ _ _ _ (T16.setTop (mkF m 76 #[.val (.int p1), .val (.int p2), .val (.int p3), .val (.ref b), .val (.long (p1.toInt64)), .second, .val (.long ((p1.toInt64) + (p2.toInt64))), .second, .val (.long (((p1.toInt64) + (p2.toInt64)) + (p3.toInt64))), .second, .val (.long ((((p1.toInt64) + (p2.toInt64)) + (p3.toInt64)) + (p2.toInt64))), .second, .val (.long ((p1.toInt64) + (p2.toInt64))), .second, .val (.long (((p1.toInt64) + (p2.toInt64)) + (p3.toInt64))), .second, .val (.long ((((p1.toInt64) + (p2.toInt64)) + (p3.toInt64)) + (p2.toInt64))), .second] [(.int (lcmpW (((p1.toInt64) + (p2.toInt64)) + (p3.toInt64)) (((p1.toInt64) + (p2.toInt64)) + (p3.toInt64))))]))
  refine own_to (fun t k => XS.ifNo X16.here hx rfl (hb hby at_76) rfl ((if0 _ _).trans (teq ((lw_eq _ _).mpr rfl)).2) k) ?_
  show own_Fin _ _ _ _ _ _ (T16.setTop (mkF m 79 #[.val (.int p1), .val (.int p2), .val (.int p3), .val (.ref b), .val (.long (p1.toInt64)), .second, .val (.long ((p1.toInt64) + (p2.toInt64))), .second, .val (.long (((p1.toInt64) + (p2.toInt64)) + (p3.toInt64))), .second, .val (.long ((((p1.toInt64) + (p2.toInt64)) + (p3.toInt64)) + (p2.toInt64))), .second, .val (.long ((p1.toInt64) + (p2.toInt64))), .second, .val (.long (((p1.toInt64) + (p2.toInt64)) + (p3.toInt64))), .second, .val (.long ((((p1.toInt64) + (p2.toInt64)) + (p3.toInt64)) + (p2.toInt64))), .second] []))
  refine own_to (fun t k => XS.lload X16.here hx rfl (hb hby at_79) rfl k) ?_
  show own_Fin _ _ _ _ _ _ (T16.setTop (mkF m 81 #[.val (.int p1), .val (.int p2), .val (.int p3), .val (.ref b), .val (.long (p1.toInt64)), .second, .val (.long ((p1.toInt64) + (p2.toInt64))), .second, .val (.long (((p1.toInt64) + (p2.toInt64)) + (p3.toInt64))), .second, .val (.long ((((p1.toInt64) + (p2.toInt64)) + (p3.toInt64)) + (p2.toInt64))), .second, .val (.long ((p1.toInt64) + (p2.toInt64))), .second, .val (.long (((p1.toInt64) + (p2.toInt64)) + (p3.toInt64))), .second, .val (.long ((((p1.toInt64) + (p2.toInt64)) + (p3.toInt64)) + (p2.toInt64))), .second] [(.long ((((p1.toInt64) + (p2.toInt64)) + (p3.toInt64)) + (p2.toInt64)))]))
  refine own_to (fun t k => XS.lload X16.here hx rfl (hb hby at_81) rfl k) ?_
  show own_Fin _ _ _ _ _ _ (T16.setTop (mkF m 83 #[.val (.int p1), .val (.int p2), .val (.int p3), .val (.ref b), .val (.long (p1.toInt64)), .second, .val (.long ((p1.toInt64) + (p2.toInt64))), .second, .val (.long (((p1.toInt64) + (p2.toInt64)) + (p3.toInt64))), .second, .val (.long ((((p1.toInt64) + (p2.toInt64)) + (p3.toInt64)) + (p2.toInt64))), .second, .val (.long ((p1.toInt64) + (p2.toInt64))), .second, .val (.long (((p1.toInt64) + (p2.toInt64)) + (p3.toInt64))), .second, .val (.long ((((p1.toInt64) + (p2.toInt64)) + (p3.toInt64)) + (p2.toInt64))), .second] [(.long ((((p1.toInt64) + (p2.toInt64)) + (p3.toInt64)) + (p2.toInt64))), (.long ((((p1.toInt64) + (p2.toInt64)) + (p3.toInt64)) + (p2.toInt64)))]))
  refine own_to (fun t k => XS.lcmp X16.here hx rfl (hb hby at_83) rfl k) ?_
  show own_Fin _ _ _ _ _ _ (T16.setTop (mkF m 84 #[.val (.int p1), .val (.int p2), .val (.int p3), .val (.ref b), .val (.long (p1.toInt64)), .second, .val (.long ((p1.toInt64) + (p2.toInt64))), .second, .val (.long (((p1.toInt64) + (p2.toInt64)) + (p3.toInt64))), .second, .val (.long ((((p1.toInt64) + (p2.toInt64)) + (p3.toInt64)) + (p2.toInt64))), .second, .val (.long ((p1.toInt64) + (p2.toInt64))), .second, .val (.long (((p1.toInt64) + (p2.toInt64)) + (p3.toInt64))), .second, .val (.long ((((p1.toInt64) + (p2.toInt64)) + (p3.toInt64)) + (p2.toInt64))), .second] [(.int (lcmpW ((((p1.toInt64) + (p2.toInt64)) + (p3.toInt64)) + (p2.toInt64)) ((((p1.toInt64) + (p2.toInt64)) + (p3.toInt64)) + (p2.toInt64))))]))
  refine own_to (fun t k => XS.ifNo X16.here hx rfl (hb hby at_84) rfl ((if0 _ _).trans (teq ((lw_eq _ _).mpr rfl)).2) k) ?_
  show own_Fin _ _ _ _ _ _ (T16.setTop (mkF m 87 #[.val (.int p1), .val (.int p2), .val (.int p3), .val (.ref b), .val (.long (p1.toInt64)), .second, .val (.long ((p1.toInt64) + (p2.toInt64))), .second, .val (.long (((p1.toInt64) + (p2.toInt64)) + (p3.toInt64))), .second, .val (.long ((((p1.toInt64) + (p2.toInt64)) + (p3.toInt64)) + (p2.toInt64))), .second, .val (.long ((p1.toInt64) + (p2.toInt64))), .second, .val (.long (((p1.toInt64) + (p2.toInt64)) + (p3.toInt64))), .second, .val (.long ((((p1.toInt64) + (p2.toInt64)) + (p3.toInt64)) + (p2.toInt64))), .second] []))
  refine own_to (fun t k => XS.iconst X16.here hx rfl (hb hby at_87) k) ?_
  show own_Fin _ _ _ _ _ _ (T16.setTop (mkF m 88 #[.val (.int p1), .val (.int p2), .val (.int p3), .val (.ref b), .val (.long (p1.toInt64)), .second, .val (.long ((p1.toInt64) + (p2.toInt64))), .second, .val (.long (((p1.toInt64) + (p2.toInt64)) + (p3.toInt64))), .second, .val (.long ((((p1.toInt64) + (p2.toInt64)) + (p3.toInt64)) + (p2.toInt64))), .second, .val (.long ((p1.toInt64) + (p2.toInt64))), .second, .val (.long (((p1.toInt64) + (p2.toInt64)) + (p3.toInt64))), .second, .val (.long ((((p1.toInt64) + (p2.toInt64)) + (p3.toInt64)) + (p2.toInt64))), .second] [(.int (1 : Int32))]))
  refine own_to (fun t k => XS.goto X16.here hx rfl (pc0 := 88) (pc' := 92) rfl (hb hby at_88) (by decide) (by decide) k) ?_
  show own_Fin _ _ _ _ _ _ (T16.setTop (mkF m 92 #[.val (.int p1), .val (.int p2), .val (.int p3), .val (.ref b), .val (.long (p1.toInt64)), .second, .val (.long ((p1.toInt64) + (p2.toInt64))), .second, .val (.long (((p1.toInt64) + (p2.toInt64)) + (p3.toInt64))), .second, .val (.long ((((p1.toInt64) + (p2.toInt64)) + (p3.toInt64)) + (p2.toInt64))), .second, .val (.long ((p1.toInt64) + (p2.toInt64))), .second, .val (.long (((p1.toInt64) + (p2.toInt64)) + (p3.toInt64))), .second, .val (.long ((((p1.toInt64) + (p2.toInt64)) + (p3.toInt64)) + (p2.toInt64))), .second] [(.int (1 : Int32))]))
  refine own_retN X16 hx hlk (t := .boolean) hret (by simp) (hb hby at_92) (by decide) (by decide) ?_
  try rw [eh16]
  exact ⟨rfl, N16⟩
set_option maxRecDepth 65536 in
set_option maxHeartbeats 40000000 in
theorem comes_1 {Post : Tables → Env → Array Value → State → Outcome → State → Prop} (hpost : ∀ tb e args s v u, (limb_1_1.after args s (.returned v) u = true ∧ limb_1_2.after args s (.returned v) u = true ∧ True) → FrameEnd s (.returned v) u (Jvm.fieldLocs frame_1_writes args s ++ Jvm.arrayLocs frame_1_arrays args s ++ Jvm.staticLocs frame_1_statics s) 16 2176 → Post tb e args s (.returned v) u) :
    ArmFor flags0 classFile x code maxLocals ret World_1 tables_1 room_1 Calls_1 rest_1 Pre_1 Post := by
  intro l hfl _ _ p e ha hc hk s m args below hf hA hF happ hP
  obtain ⟨hcalls, hrest, hpre⟩ := hP
  obtain ⟨-, -, -, hnamed, -, -, -, hat⟩ := (Spec.applies_iff hf).mp happ
  obtain ⟨hg, hn⟩ := and_e (Cond.before_iff.mp (show (Jvm.Cond.and given_1 narrow_1).before args s = true from hpre))
  obtain ⟨g1, g2⟩ := and_e hg
  obtain ⟨g3, g4⟩ := and_e g2
  obtain ⟨g5, g6⟩ := and_e g4
  obtain ⟨w0, w1, w2, rfl⟩ : ∃ w0 w1 w2 : Value, args = #[w0, w1, w2] := by
    have hs : args.size = 3 := by simpa [Cond.value, given_1] using g1
    obtain ⟨L⟩ := args
    match L, hs with
    | [w0, w1, w2], _ => exact ⟨w0, w1, w2, rfl⟩
  have hw := fun d (hd : d ∈ tables_1) => atoms_spec (ws := Jvm.Cond.code x code maxLocals ret :: tables_1) hat d (List.mem_cons_of_mem _ hd)
  have hfit : Fit s := fun {y c} hc i hi => by
    obtain ⟨ha, rfl⟩ := Array.getElem?_eq_some_iff.mp hc
    have q := List.all_eq_true.mp ((Array.all_eq_true_iff_forall_mem.mp hF) _ (Array.getElem_mem ha)) i (List.mem_range.mpr hi)
    simpa [Array.getElem?_eq_getElem hi] using q
  obtain ⟨i0, ei0⟩ := is_v g3
  obtain rfl : w0 = (.int i0) := Option.some.inj ei0
  obtain ⟨i1, ei1⟩ := is_v g5
  obtain rfl : w1 = (.int i1) := Option.some.inj ei1
  obtain ⟨i2, ei2⟩ := is_v g6
  obtain rfl : w2 = (.int i2) := Option.some.inj ei2
  obtain ⟨n, o, h1, h2, h3, _, L, rfl, ⟨rfl, N⟩, hq⟩ := own_rm0 l s _ hw tables_1 i0 i1 i2 s.heap s.heap.size (Nat.le_refl _) p e ha hc hk s m _ below hf ((Spec.applies_iff_loose hf).mp happ).1 ⟨rfl, State.Warmed39.refl s, rfl⟩ trivial
  refine ⟨n, _, h1, h2, h3, hpost _ _ _ _ _ _ ⟨Cond.after_iff.mpr rfl, Cond.after_iff.mpr (eq_i res_at (Term.int_eval (1)) rfl), trivial⟩ ⟨hq.1, hq.2.1, (hq.2.2.sift fun y hy => Or.inr (N y hy)).mono (by decide) (by decide)⟩⟩
theorem main_1_1 : Claimed_1_1 := comes_1 fun _ _ _ _ _ _ h hF => ⟨h.1, hF⟩
theorem main_1_2 : Claimed_1_2 := comes_1 fun _ _ _ _ _ _ h hF => ⟨h.2.1, hF⟩
end Jvm.Pilot.@@N@@
namespace Jvm.Pilot.@@N@@
open Jvm Jvm.ClassFile Sem Op Lib Jvm.Free Jvm.Stand Jvm.Pilot.@@N@@.Jvm.D
/-! MADE BY PROGRAM (witnessworld.py) out of the Statement's table words and the real class files: 11 classes; the members and pool entries that the words name. The judged class is class 1, her method 1. -/
namespace start1
open Jvm.ClassFile
def u (s : String) : CpInfo := .utf8 (stringToUtf16 s)
/-- a pool by its gaps: so many unusable entries, then the entry; so many at the end -/
def gap : Nat → List CpInfo → List CpInfo
  | 0, r => r
  | n + 1, r => .unusable :: gap n r
def poolList (es : List (Nat × CpInfo)) (last : Nat) : List CpInfo := es.foldr (fun e r => gap e.1 (e.2 :: r)) (gap last [])
def pool (es : List (Nat × CpInfo)) (last : Nat) : Array CpInfo := ⟨poolList es last⟩
def fileOf (pool : Array CpInfo) (this : Nat) (attrs : Array Attribute := #[]) (ms : Array MethodInfo := #[]) (fl : Nat := 33) (sup : Nat := 0) (ifs : Array Nat := #[]) (fds : Array FieldInfo := #[]) : ClassFile where
  minorVersion := 0
  majorVersion := 65
  constantPool := pool
  accessFlags := fl
  thisClass := this
  superClass := sup
  interfaces := ifs
  fields := fds
  methods := ms
  attributes := attrs
def plain (name : String) (sup : Option ClassId) : Class where
  name := name
  kind := .ordinary
  loader := none
  accessFlags := 33
  super := sup
  interfaces := #[]
  cf := none
  fields := #[]
  methods := #[]
  instanceTypes := #[]
  staticTypes := #[]
  resolved := #[]
  callSites := []
  init := .initialized
  statics := none
  mirror := none

def pool0 : Array CpInfo := pool [(5, u "<init>"), (0, u "()V"), (1, .class_ 10), (1, u "java/lang/Object")] 113

def k0c0 : Code := { maxStack := 0, maxLocals := 1, code := object_method_1_code, exceptionTable := #[], attributes := #[] }
def k0m0 : Method := { name := "<init>", desc := "()V", sig := { parameters := [], returnType := none }, accessFlags := 1, code := some k0c0 }
/-- java/lang/Object -/
def k0 : Class := { plain "java/lang/Object" none with
  accessFlags := 33
  interfaces := #[]
  cf := some (fileOf pool0 8 #[] #[{ accessFlags := 1, nameIndex := 5, descriptorIndex := 6, attributes := #[] }] 33 0 #[] #[])
  fields := #[]
  methods := #[k0m0]
  instanceTypes := #[]
  staticTypes := #[]
  resolved := Array.replicate 124 none
  statics := none }

def pool1 : Array CpInfo := pool [(2, .class_ 4), (1, u "java/lang/Object"), (0, u "<init>"), (0, u "()V"), (0, .methodref 8 9), (0, .class_ 10), (0, .nameAndType 11 12), (0, u "com/example/debit/debit/bench/Tally"), (0, u "failed"), (0, u "(I)Lcom/example/debit/debit/bench/Tally;"), (0, .methodref 8 14), (0, .nameAndType 15 16), (0, u "unanswered"), (0, u "(I)V"), (0, .methodref 8 18), (0, .nameAndType 19 20), (0, u "failures"), (0, u "()J"), (0, .class_ 22), (0, u "com/example/debit/debit/bench/TallyUnansweredPinLaw"), (2, u "law"), (0, u "(III)Z")] 3

def k1m0 : Method := { name := "<init>", desc := "()V", sig := { parameters := [], returnType := none }, accessFlags := 1, code := none }
def k1c1 : Code := { maxStack := 4, maxLocals := 18, code := code, exceptionTable := #[], attributes := #[] }
def k1m1 : Method := { name := "law", desc := "(III)Z", sig := { parameters := [.int, .int, .int], returnType := some .boolean }, accessFlags := 9, code := some k1c1 }
/-- com/example/debit/debit/bench/TallyUnansweredPinLaw -/
def k1 : Class := { plain "com/example/debit/debit/bench/TallyUnansweredPinLaw" (some 0) with
  accessFlags := 49
  interfaces := #[]
  cf := some (fileOf pool1 21 #[] #[{ accessFlags := 1, nameIndex := 5, descriptorIndex := 6, attributes := #[] }, { accessFlags := 9, nameIndex := 25, descriptorIndex := 26, attributes := #[] }] 49 2 #[] #[])
  fields := #[]
  methods := #[k1m0, k1m1]
  instanceTypes := #[]
  staticTypes := #[]
  resolved := Array.replicate 30 none
  statics := none }

def pool2 : Array CpInfo := pool [(1, .methodref 2 3), (0, .class_ 4), (0, .nameAndType 5 6), (0, u "java/lang/Object"), (0, u "<init>"), (0, u "()V"), (0, .fieldref 8 9), (0, .class_ 10), (0, .nameAndType 11 12), (0, u "com/example/debit/debit/bench/Tally"), (0, u "latencies"), (0, u "[J"), (0, .methodref 8 3), (0, .fieldref 8 15), (0, .nameAndType 16 17), (0, u "failed"), (0, u "J"), (6, u "committed"), (2, u "refused"), (2, u "timed"), (0, u "I"), (78, u "NANOS_PER_SECOND"), (1, u "MILLI_SCALE"), (3, u "(I)Lcom/example/debit/debit/bench/Tally;"), (4, u "unanswered"), (0, u "(I)V"), (0, u "failures"), (0, u "()J")] 21

def k2c0 : Code := { maxStack := 2, maxLocals := 1, code := prog_5_method_1_code, exceptionTable := #[], attributes := #[] }
def k2m0 : Method := { name := "<init>", desc := "()V", sig := { parameters := [], returnType := none }, accessFlags := 0, code := some k2c0 }
def k2c1 : Code := { maxStack := 3, maxLocals := 2, code := prog_5_method_2_code, exceptionTable := #[], attributes := #[] }
def k2m1 : Method := { name := "failed", desc := "(I)Lcom/example/debit/debit/bench/Tally;", sig := { parameters := [.int], returnType := some (.object "com/example/debit/debit/bench/Tally") }, accessFlags := 8, code := some k2c1 }
def k2c2 : Code := { maxStack := 5, maxLocals := 2, code := prog_5_method_5_code, exceptionTable := #[], attributes := #[] }
def k2m2 : Method := { name := "unanswered", desc := "(I)V", sig := { parameters := [.int], returnType := none }, accessFlags := 0, code := some k2c2 }
def k2c3 : Code := { maxStack := 2, maxLocals := 1, code := prog_5_method_6_code, exceptionTable := #[], attributes := #[] }
def k2m3 : Method := { name := "failures", desc := "()J", sig := { parameters := [], returnType := some .long }, accessFlags := 0, code := some k2c3 }
/-- com/example/debit/debit/bench/Tally -/
def k2 : Class := { plain "com/example/debit/debit/bench/Tally" (some 0) with
  accessFlags := 32
  interfaces := #[]
  cf := some (fileOf pool2 8 #[] #[{ accessFlags := 0, nameIndex := 5, descriptorIndex := 6, attributes := #[] }, { accessFlags := 8, nameIndex := 16, descriptorIndex := 116, attributes := #[] }, { accessFlags := 0, nameIndex := 121, descriptorIndex := 122, attributes := #[] }, { accessFlags := 0, nameIndex := 123, descriptorIndex := 124, attributes := #[] }] 32 2 #[] #[{ accessFlags := 26, nameIndex := 110, descriptorIndex := 17, attributes := #[] }, { accessFlags := 26, nameIndex := 112, descriptorIndex := 31, attributes := #[] }, { accessFlags := 2, nameIndex := 24, descriptorIndex := 17, attributes := #[] }, { accessFlags := 2, nameIndex := 27, descriptorIndex := 17, attributes := #[] }, { accessFlags := 2, nameIndex := 16, descriptorIndex := 17, attributes := #[] }, { accessFlags := 2, nameIndex := 11, descriptorIndex := 12, attributes := #[] }, { accessFlags := 2, nameIndex := 30, descriptorIndex := 31, attributes := #[] }])
  fields := #[{ name := "NANOS_PER_SECOND", type := .long, accessFlags := 26, slot := 0, constantValue := 0 }, { name := "MILLI_SCALE", type := .int, accessFlags := 26, slot := 1, constantValue := 0 }, { name := "committed", type := .long, accessFlags := 2, slot := 0, constantValue := 0 }, { name := "refused", type := .long, accessFlags := 2, slot := 1, constantValue := 0 }, { name := "failed", type := .long, accessFlags := 2, slot := 2, constantValue := 0 }, { name := "latencies", type := (.array .long), accessFlags := 2, slot := 3, constantValue := 0 }, { name := "timed", type := .int, accessFlags := 2, slot := 4, constantValue := 0 }]
  methods := #[k2m0, k2m1, k2m2, k2m3]
  instanceTypes := #[.long, .long, .long, (.array .long), .int]
  staticTypes := #[.long, .int]
  resolved := Array.replicate 146 none
  statics := none }

def pool3 : Array CpInfo := pool [(1, u "java/lang/Cloneable"), (0, .class_ 1), (0, u "java/lang/Object"), (0, .class_ 3)] 3

/-- java/lang/Cloneable -/
def k3 : Class := { plain "java/lang/Cloneable" (some 0) with
  accessFlags := 1537
  interfaces := #[]
  cf := some (fileOf pool3 2 #[] #[] 1537 4 #[] #[])
  fields := #[]
  methods := #[]
  instanceTypes := #[]
  staticTypes := #[]
  resolved := Array.replicate 8 none
  statics := none }

def pool4 : Array CpInfo := pool [(1, u "java/io/Serializable"), (0, .class_ 1), (0, u "java/lang/Object"), (0, .class_ 3)] 3

/-- java/io/Serializable -/
def k4 : Class := { plain "java/io/Serializable" (some 0) with
  accessFlags := 1537
  interfaces := #[]
  cf := some (fileOf pool4 2 #[] #[] 1537 4 #[] #[])
  fields := #[]
  methods := #[]
  instanceTypes := #[]
  staticTypes := #[]
  resolved := Array.replicate 8 none
  statics := none }

/-- the primitive byte -/
def k5 : Class := { plain "byte" none with kind := .primitive 'B', accessFlags := 0x411 }
/-- [B -/
def k6 : Class := { plain "[B" (some 0) with kind := .array 5 .byte, interfaces := #[3, 4], accessFlags := 1041 }

/-- the primitive int -/
def k7 : Class := { plain "int" none with kind := .primitive 'I', accessFlags := 0x411 }
/-- [I -/
def k8 : Class := { plain "[I" (some 0) with kind := .array 7 .int, interfaces := #[3, 4], accessFlags := 1041 }

/-- the primitive long -/
def k9 : Class := { plain "long" none with kind := .primitive 'J', accessFlags := 0x411 }
/-- [J -/
def k10 : Class := { plain "[J" (some 0) with kind := .array 9 .long, interfaces := #[3, 4], accessFlags := 1041 }

def heap : Heap := #[]
def classes : Array Class := #[k0, k1, k2, k3, k4, k5, k6, k7, k8, k9, k10]
def interned : List (Array UInt16 × Addr) := []
def slotsUsed : Nat := 0
def theMethod : MethodId := ⟨1, 1⟩
def args0 : Array Value := #[.int 5, .int 7, .int 9]
def aboutOver (below : List Frame) : State where
  vm := { classes := classes, interned := interned.toArray }
  heap := heap
  slotsUsed := slotsUsed
  threads := #[{ frames := .invoking theMethod args0 :: below }]
def below0 : List Frame := [.native { method := ⟨0, 0⟩, args := #[] }]
def about1 : State := aboutOver below0
def p0 : Program := .bare "" "" ""
def e0 : Env := launch0.env 0 0 0
theorem w_frames : about1.frames = Frame.invoking theMethod args0 :: below0 := rfl
set_option maxRecDepth 65536 in
theorem w_args : argsFit about1.vm theMethod args0 = true := by decide +kernel
set_option maxRecDepth 65536 in
theorem w_heap : heapFits about1 = true := by decide +kernel
set_option maxRecDepth 65536 in
theorem w_runnable : about1.curStatus? = some .runnable := by decide +kernel
set_option maxRecDepth 65536 in
theorem w_alone : about1.alone = true := by decide +kernel
set_option maxRecDepth 65536 in
theorem w_named : about1.methodNamed? x = some theMethod := by decide +kernel
set_option maxRecDepth 65536 in
theorem w_hears : about1.hears theMethod below0 = true := by decide +kernel
set_option maxRecDepth 65536 in
theorem w_ripe : about1.ripe theMethod args0 below0 = true := by decide +kernel
theorem w_running : about1.status = .running := rfl
set_option maxRecDepth 65536 in
theorem w_room : about1.hasRoom e0.platform room_1 = true :=
  launch0.hasRoom_least _ room_1 (by decide +kernel) (by decide +kernel) (by decide +kernel) (by decide +kernel) (by decide +kernel) (by decide +kernel)
theorem allAtoms_all (ts : List Jvm.Cond) (a : Array Jvm.Value) (st : Jvm.State) : (allAtoms ts).before a st = ts.all (fun c => c.before a st) := by
  induction ts with
  | nil => rfl
  | cons c t ih =>
    show (Jvm.Cond.and c (allAtoms t)).before a st = _
    rw [Jvm.Cond.before_and, ih, List.all_cons]
def words1 : List Jvm.Cond := Jvm.Cond.code x code maxLocals ret :: tables_1
/-- a 'code' word, met by the world's own term for the bytes: nothing is compared byte by byte -/
theorem code_word {y : MethodName} {bytes : ByteArray} {mx : Nat} {rt : Option FieldType} {a : Array Value} {s : State} {m : MethodId} {meth : Method} {c : Code} (h1 : s.methodNamed? y = some m) (h2 : s.vm.method? m = some meth) (h3 : meth.code = some c) (h4 : c.code = bytes)
    (h5 : (c.maxLocals == mx && c.exceptionTable.isEmpty && decide (c.maxStack ≤ mostOperands) && decide (meth.sig.returnType = rt) && !meth.locks && decide (parseMethodDescriptor y.desc = some meth.sig)) = true) : (Jvm.Cond.code y bytes mx rt).before a s = true := by
  simp only [Bool.and_eq_true, beq_iff_eq, Bool.not_eq_true', decide_eq_true_eq] at h5
  obtain ⟨⟨⟨⟨⟨g1, g2⟩, g3⟩, g4⟩, g5⟩, g6⟩ := h5
  simp [Cond.before, Cond.holds, Cond.value, h1, h2, h3, h4, g1, g2, g3, g4, g5, g6]
def isCode : Jvm.Cond → Bool
  | .code _ _ _ _ => true
  | _ => false
theorem all_split {L : List Jvm.Cond} {P : Jvm.Cond → Bool} (h1 : L.all (fun c => isCode c || P c) = true) (h2 : ∀ c ∈ L.filter isCode, P c = true) : L.all P = true := by
  refine List.all_eq_true.mpr fun c hc => ?_
  have h := List.all_eq_true.mp h1 c hc
  rcases Bool.eq_false_or_eq_true (isCode c) with hi | hi
  · exact h2 c (List.mem_filter.mpr ⟨hc, hi⟩)
  · simpa [hi] using h
set_option maxRecDepth 65536 in
theorem w_c0 : (Jvm.Cond.code x code maxLocals ret).before args0 about1 = true := code_word (m := ⟨1, 1⟩) (meth := k1m1) (c := k1c1) (by decide +kernel) rfl rfl rfl (by decide +kernel)
set_option maxRecDepth 65536 in
theorem w_c1 : (Jvm.Cond.code ({ cls := "com/example/debit/debit/bench/Tally", name := "failed", desc := "(I)Lcom/example/debit/debit/bench/Tally;" } : Jvm.MethodName) prog_5_method_2_code (2 : Nat) (Option.some (Jvm.ClassFile.FieldType.object "com/example/debit/debit/bench/Tally"))).before args0 about1 = true := code_word (m := ⟨2, 1⟩) (meth := k2m1) (c := k2c1) (by decide +kernel) rfl rfl rfl (by decide +kernel)
set_option maxRecDepth 65536 in
theorem w_c2 : (Jvm.Cond.code ({ cls := "com/example/debit/debit/bench/Tally", name := "<init>", desc := "()V" } : Jvm.MethodName) prog_5_method_1_code (1 : Nat) (Option.none : Option Jvm.ClassFile.FieldType)).before args0 about1 = true := code_word (m := ⟨2, 0⟩) (meth := k2m0) (c := k2c0) (by decide +kernel) rfl rfl rfl (by decide +kernel)
set_option maxRecDepth 65536 in
theorem w_c3 : (Jvm.Cond.code ({ cls := "java/lang/Object", name := "<init>", desc := "()V" } : Jvm.MethodName) object_method_1_code (1 : Nat) (Option.none : Option Jvm.ClassFile.FieldType)).before args0 about1 = true := code_word (m := ⟨0, 0⟩) (meth := k0m0) (c := k0c0) (by decide +kernel) rfl rfl rfl (by decide +kernel)
set_option maxRecDepth 65536 in
theorem w_c4 : (Jvm.Cond.code ({ cls := "com/example/debit/debit/bench/Tally", name := "unanswered", desc := "(I)V" } : Jvm.MethodName) prog_5_method_5_code (2 : Nat) (Option.none : Option Jvm.ClassFile.FieldType)).before args0 about1 = true := code_word (m := ⟨2, 2⟩) (meth := k2m2) (c := k2c2) (by decide +kernel) rfl rfl rfl (by decide +kernel)
set_option maxRecDepth 65536 in
theorem w_c5 : (Jvm.Cond.code ({ cls := "com/example/debit/debit/bench/Tally", name := "failures", desc := "()J" } : Jvm.MethodName) prog_5_method_6_code (1 : Nat) (Option.some Jvm.ClassFile.FieldType.long)).before args0 about1 = true := code_word (m := ⟨2, 3⟩) (meth := k2m3) (c := k2c3) (by decide +kernel) rfl rfl rfl (by decide +kernel)
def codes1 : List Jvm.Cond := [Jvm.Cond.code x code maxLocals ret, Jvm.Cond.code ({ cls := "com/example/debit/debit/bench/Tally", name := "failed", desc := "(I)Lcom/example/debit/debit/bench/Tally;" } : Jvm.MethodName) prog_5_method_2_code (2 : Nat) (Option.some (Jvm.ClassFile.FieldType.object "com/example/debit/debit/bench/Tally")), Jvm.Cond.code ({ cls := "com/example/debit/debit/bench/Tally", name := "<init>", desc := "()V" } : Jvm.MethodName) prog_5_method_1_code (1 : Nat) (Option.none : Option Jvm.ClassFile.FieldType), Jvm.Cond.code ({ cls := "java/lang/Object", name := "<init>", desc := "()V" } : Jvm.MethodName) object_method_1_code (1 : Nat) (Option.none : Option Jvm.ClassFile.FieldType), Jvm.Cond.code ({ cls := "com/example/debit/debit/bench/Tally", name := "unanswered", desc := "(I)V" } : Jvm.MethodName) prog_5_method_5_code (2 : Nat) (Option.none : Option Jvm.ClassFile.FieldType), Jvm.Cond.code ({ cls := "com/example/debit/debit/bench/Tally", name := "failures", desc := "()J" } : Jvm.MethodName) prog_5_method_6_code (1 : Nat) (Option.some Jvm.ClassFile.FieldType.long)]
set_option maxRecDepth 65536 in
theorem codes_eq : words1.filter isCode = codes1 := rfl
theorem w_codes : ∀ c ∈ words1.filter isCode, c.before args0 about1 = true := by
  rw [codes_eq]
  intro c hc
  simp only [codes1, List.mem_cons, List.not_mem_nil, or_false] at hc
  rcases hc with rfl | rfl | rfl | rfl | rfl | rfl
  · exact w_c0
  · exact w_c1
  · exact w_c2
  · exact w_c3
  · exact w_c4
  · exact w_c5
set_option maxRecDepth 65536 in
theorem w_t1 : (words1.take 24).all (fun c => isCode c || c.before args0 about1) = true := by decide +kernel
set_option maxRecDepth 65536 in
theorem w_t2 : (words1.drop 24).all (fun c => isCode c || c.before args0 about1) = true := by decide +kernel
theorem w_tables : (allAtoms (Jvm.Cond.code x code maxLocals ret :: tables_1)).before args0 about1 = true := by
  rw [allAtoms_all]
  show words1.all (fun c => c.before args0 about1) = true
  refine all_split ?_ w_codes
  rw [← List.take_append_drop 24 words1, List.all_append, w_t1, w_t2]
  rfl
set_option maxRecDepth 65536 in
theorem w_case : (Jvm.Cond.and given_1 narrow_1).before args0 about1 = true := by decide +kernel
theorem w_applies : (headSpec (Jvm.Cond.code x code maxLocals ret :: tables_1) room_1).applies x e0.platform about1 = true :=
  (Spec.applies_iff w_frames).mpr ⟨w_running, w_runnable, w_alone, w_named, w_hears, w_ripe, w_room, w_tables⟩
theorem atStart : AtStart classFile x code maxLocals ret World_1 tables_1 room_1 Calls_1 rest_1 Pre_1 launch0 p0 e0 about1 theMethod args0 below0 :=
  ⟨lists_1, trivial, launch0.admits_env _ _ _, launch0.least_env, fairChoices_fair.cas, fairChoices_fair.clock, w_frames, w_args, w_heap, w_applies, trivial, trivial, w_case⟩
end start1
theorem witness_1 : WitnessClaimed_1 := ⟨start1.p0, start1.e0, start1.about1, start1.theMethod, start1.args0, start1.below0, start1.atStart⟩
end Jvm.Pilot.@@N@@
