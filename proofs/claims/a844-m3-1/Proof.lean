import JvmDerived
import JvmDerived.Pilot.@@N@@Statement
import JvmDerived.Pilot.@@N@@Code
set_option linter.unusedVariables false
set_option linter.unusedSimpArgs false
@@BLOCK:NumsL.lean.txt@@
namespace Jvm.Pilot.@@N@@
open Jvm Jvm.ClassFile Sem Op Lib Jvm.Free Jvm.Stand Jvm.LawKit Jvm.RoadKit Bundle Jvm.Pilot.@@N@@.Jvm.D
section Own
variable {p : Program} {l : Launch} {e : Env} {R : Room} {s Z : State} {m : MethodId} {args : Array Value} {below : List Frame} {meth : Method} {c : Code} {T : State} {locs : List Loc} {cells slots : Nat} {q : Option Value → Heap → List Loc → Prop}
/-- from U the run ends in a return, as q says -/
def own_Fin (p : Program) (e : Env) (below : List Frame) (s : State) (R : Room) (q : Option Value → Heap → List Loc → Prop) (U : State) : Prop :=
  ∃ s₂ o, Steps p.tables e below U s₂ ∧ s₂.status = .running ∧ Ended s₂ below o ∧ ∃ v L, o = .returned v ∧ q v s₂.heap L ∧ FrameEnd s o s₂ L R.cells R.slots
theorem own_to {U U' : State} (h : ∀ t, Steps p.tables e below U' t → Steps p.tables e below U t) (k : own_Fin p e below s R q U') : own_Fin p e below s R q U := by
  obtain ⟨s₂, o, h1, r⟩ := k
  exact ⟨s₂, o, h _ h1, r⟩
theorem own_ite {C : Prop} [Decidable C] {G : Int32 → State} {U : State} {v1 v0 : Int32} (k : own_Fin p e below s R q (G (if C then v1 else v0))) (h1 : C → own_Fin p e below s R q (G v1) → own_Fin p e below s R q U) (h0 : ¬ C → own_Fin p e below s R q (G v0) → own_Fin p e below s R q U) : own_Fin p e below s R q U := by
  by_cases h : C
  · rw [if_pos h] at k; exact h1 h k
  · rw [if_neg h] at k; exact h0 h k
theorem own_cut {U V : State} (k : own_Fin p e below s R q V) (h : own_Fin p e below s R q V → own_Fin p e below s R q U) : own_Fin p e below s R q U := h k
theorem own_retN (X : Stand p l e R s m args below meth c T locs cells slots) (hx : p.tables.exec = Jvm.exec) (hlk : meth.locks = false) {pc : Nat} {Ls : Array Slot} {z : Int32} {t : FieldType} {rest : List Value} (hret : meth.sig.returnType = some t) (ht : t = .boolean ∨ t = .byte ∨ t = .char ∨ t = .short) (hd : decode c.code pc = .ok (.ireturn, 1)) (hc : cells ≤ R.cells) (hs : slots ≤ R.slots) (hq : q (some (.int (nar t z))) T.heap locs) :
    own_Fin p e below s R q (T.setTop (mkF m pc Ls (.int z :: rest))) := by
  obtain ⟨fs, hr, hrun, hended, hW, hsame⟩ := X.leave (v := some (.int (nar t z))) (fun h => by rw [hret] at h; cases h)
  exact ⟨_, _, retN X hx hret ht hd hr, hrun, hended, _, _, rfl, hq, ⟨_, rfl⟩, hW, hsame.mono hc hs⟩
theorem own_retI (X : Stand p l e R s m args below meth c T locs cells slots) (hx : p.tables.exec = Jvm.exec) (hlk : meth.locks = false) {pc : Nat} {Ls : Array Slot} {z : Int32} {rest : List Value} (hret : meth.sig.returnType = some .int) (hd : decode c.code pc = .ok (.ireturn, 1)) (hc : cells ≤ R.cells) (hs : slots ≤ R.slots) (hq : q (some (.int z)) T.heap locs) :
    own_Fin p e below s R q (T.setTop (mkF m pc Ls (.int z :: rest))) := by
  obtain ⟨fs, hr, hrun, hended, hW, hsame⟩ := X.leave (v := some (.int z)) (fun h => by rw [hret] at h; cases h)
  exact ⟨_, _, retOut X hx hret rfl (Or.inl ⟨rfl, Or.inl rfl, z, rfl⟩) hd hr, hrun, hended, _, _, rfl, hq, ⟨_, rfl⟩, hW, hsame.mono hc hs⟩
theorem own_retJ (X : Stand p l e R s m args below meth c T locs cells slots) (hx : p.tables.exec = Jvm.exec) (hlk : meth.locks = false) {pc : Nat} {Ls : Array Slot} {z : Int64} {rest : List Value} (hret : meth.sig.returnType = some .long) (hd : decode c.code pc = .ok (.lreturn, 1)) (hc : cells ≤ R.cells) (hs : slots ≤ R.slots) (hq : q (some (.long z)) T.heap locs) :
    own_Fin p e below s R q (T.setTop (mkF m pc Ls (.long z :: rest))) := by
  obtain ⟨fs, hr, hrun, hended, hW, hsame⟩ := X.leave (v := some (.long z)) (fun h => by rw [hret] at h; cases h)
  exact ⟨_, _, retOut X hx hret rfl (Or.inr (Or.inl ⟨rfl, rfl, z, rfl⟩)) hd hr, hrun, hended, _, _, rfl, hq, ⟨_, rfl⟩, hW, hsame.mono hc hs⟩
theorem own_retR (X : Stand p l e R s m args below meth c T locs cells slots) (hx : p.tables.exec = Jvm.exec) (hlk : meth.locks = false) {pc : Nat} {Ls : Array Slot} {w : Value} {t : FieldType} {rest : List Value} (hret : meth.sig.returnType = some t) (ht : t.isReference = true) (hw : w.isRef = true) (hn : narrow t w = w) (hd : decode c.code pc = .ok (.areturn, 1)) (hc : cells ≤ R.cells) (hs : slots ≤ R.slots) (hq : q (some w) T.heap locs) :
    own_Fin p e below s R q (T.setTop (mkF m pc Ls (w :: rest))) := by
  obtain ⟨fs, hr, hrun, hended, hW, hsame⟩ := X.leave (v := some w) (fun h => by rw [hret] at h; cases h)
  exact ⟨_, _, retOut X hx hret hn (Or.inr (Or.inr (Or.inr (Or.inr ⟨rfl, ht, hw⟩)))) hd hr, hrun, hended, _, _, rfl, hq, ⟨_, rfl⟩, hW, hsame.mono hc hs⟩
theorem own_retV (X : Stand p l e R s m args below meth c T locs cells slots) (hx : p.tables.exec = Jvm.exec) (hlk : meth.locks = false) {pc : Nat} {Ls : Array Slot} (hret : meth.sig.returnType = none) (hd : decode c.code pc = .ok (.return_, 1)) (hc : cells ≤ R.cells) (hs : slots ≤ R.slots) (hq : q none T.heap locs) :
    own_Fin p e below s R q (T.setTop (mkF m pc Ls [])) := by
  obtain ⟨fs, hr, hrun, hended, hW, hsame⟩ := X.leave (v := none) (fun _ => rfl)
  exact ⟨_, _, X.returnOut hx hret hd hr, hrun, hended, _, _, rfl, hq, ⟨_, rfl⟩, hW, hsame.mono hc hs⟩
/-- the contract of a body at given arguments and a given heap -/
abbrev own_Met (l : Launch) (Z : State) (y : MethodName) (bytes : ByteArray) (maxL : Nat) (ret : Option FieldType) (ws : List Jvm.Cond) (rm : Room) (as' : Array Value) (h0 : Heap) (q : Option Value → Heap → List Loc → Prop) : Prop :=
  MetFree l y (head1 (Jvm.Cond.code y bytes maxL ret :: ws) rm) (fun a U => a = as' ∧ Z.Warmed39 U.vm ∧ U.heap = h0) (fun _ _ _ _ _ => True) (fun _ U o U' => ∃ v L, o = .returned v ∧ q v U'.heap L ∧ FrameEnd U o U' L rm.cells rm.slots)
theorem own_back {a0 : Array Value} {h : Heap} {y : MethodName} {bytes : ByteArray} {maxL : Nat} {ret : Option FieldType} {rm : Room} {len W : Nat} {as' : Array Value} (hM : own_Met l Z y bytes maxL ret [] rm as' h q)
    (hZ : Z.Warmed39 s.vm) (wc : (Jvm.Cond.code y bytes maxL ret).before a0 Z = true) (wz : (Jvm.Cond.initialized y.cls).before a0 Z = true) (hf : rm.frames + 1 ≤ R.frames) (hl : W + (maxL + 11) + rm.locals ≤ R.locals) :
    Back l R p e below s args y len W (fun A a => a = as' ∧ A.U.heap = h ∧ A.cells + rm.cells ≤ R.cells ∧ A.slots + rm.slots ≤ R.slots)
      (fun A _ v B => ∃ L, q v B.U.heap L ∧ B.locs = A.locs ++ L ∧ B.cells = A.cells + rm.cells ∧ B.slots = A.slots + rm.slots) := backOf (Q := q) hM hZ wc wz hf hl
theorem own_enter {y : MethodName} {bytes : ByteArray} {maxL : Nat} {ret : Option FieldType} {ws : List Jvm.Cond} {rm : Room} {as' : Array Value} {h0 : Heap} (hpl : plainFor y = true)
    (k : ∀ (p : Program) (e : Env) (s : State) (m : MethodId) (below : List Frame) (meth : Method) (c : Code) (s₁ : State), Stand p l e rm s m as' below meth c s₁ [] 0 0 → p.tables.exec = Jvm.exec → Z.Warmed39 s.vm → c.code = bytes → c.maxLocals = maxL → s.vm.findClass y.cls = some m.cls → meth.name = y.name → meth.sig.returnType = ret → meth.locks = false → s₁.heap = h0 → own_Fin p e below s rm q (s₁.setTop (entryFrame m as' maxL))) :
    own_Met l Z y bytes maxL ret ws rm as' h0 q := by
  refine MetFree.of_bodySF hpl hisR ?_
  intro p e s m args below meth c s₁ Bd hml0 hP hK
  obtain ⟨rfl, hZ, hh⟩ := hP
  exact k p e s m below meth c s₁ (Stand.of_body Bd) Bd.exec hZ Bd.bytes hml0 (findClass_of_methodNamed Bd.named) (name_of_methodNamed Bd.named Bd.method).1 Bd.returns Bd.notSynchronized (by rw [← hh, Bd.state]; rfl)
theorem own_selP {a : Array Value} {y y' : MethodName} (w : (Jvm.Cond.selects y'.cls y' y').before a s = true) (hc : y'.cls = y.cls) (hp : s.PrivateAt y) (hi : (Jvm.Cond.instanceMethod y).before a s = true) (hy : y.cls ≠ "java/lang/invoke/MethodHandle" ∧ y.cls ≠ "java/lang/invoke/VarHandle") : (Jvm.Cond.selects y.cls y y).before a s = true := by
  obtain ⟨c, r, m, h1, -, h3, -, mk, h4, h5⟩ := Cond.selects_spec w
  exact selects_self_of_private (c := m.cls) (k := mk) (hc ▸ findClass_of_methodNamed h3) h4 h5 hp hi hy
end Own
section OwnLen
variable {Z : State} {h h' : Heap} {a b : Addr} {n : Int32} {sl : Nat} {v : Value} {ws : List Addr}
/-- an array of n ints -/
def own_Len (Z : State) (h : Heap) (a : Addr) (n : Int32) : Prop := ∃ c : Cell, Arr Z h a c .int ∧ c.slots.size = n.toNatClampNeg ∧ ¬ n < 0
theorem own_Len.lt (F : own_Len Z h a n) : a < h.size := by obtain ⟨c, A, -⟩ := F; exact A.lt
theorem own_Len.ext (F : own_Len Z h a n) (E : Ext h h') : own_Len Z h' a n := by obtain ⟨c, A, r⟩ := F; exact ⟨c, A.ext E, r⟩
theorem own_Len.other (F : own_Len Z h b n) (W : Wr h h' a sl v) (q : b ≠ a) : own_Len Z h' b n := by obtain ⟨c, A, r⟩ := F; exact ⟨c, A.other W q, r⟩
theorem own_Len.same (F : own_Len Z h a n) (W : Wr h h' a sl v) : own_Len Z h' a n := by obtain ⟨c, A, r⟩ := F; exact ⟨_, A.same W, by rw [sz_set]; exact r.1, r.2⟩
theorem own_Len.keep (F : own_Len Z h a n) (K : Keep h h' ws) (q : a ∉ ws) : own_Len Z h' a n := by obtain ⟨c, A, r⟩ := F; exact ⟨c, ⟨K.2.1 a c A.1 q, A.2⟩, r⟩
end OwnLen
theorem own_lt32 (x y : Int32) : (x < y) = (x.toInt < y.toInt) := propext Int32.lt_iff_toInt_lt
/-- the sequence o over the table of blocks B -/
def own_Seq (Z : State) (h : Heap) (o B : Addr) (kB : ClassId) (bc : Int32) (lv : Value) (lu : Int32) (vs : List Value) : Prop :=
  Exa Z h o "com/example/walk_to_worth/walktoworth/graph/IntSequence" ∧ Fld Z h o "com/example/walk_to_worth/walktoworth/graph/IntSequence" "blocks" "[[I" (.ref B) ∧ Fld Z h o "com/example/walk_to_worth/walktoworth/graph/IntSequence" "blockCount" "I" (.int bc) ∧ Fld Z h o "com/example/walk_to_worth/walktoworth/graph/IntSequence" "last" "[I" lv ∧ Fld Z h o "com/example/walk_to_worth/walktoworth/graph/IntSequence" "lastUsed" "I" (.int lu) ∧ Arv Z h B kB (.array .int) (8 : Int32) vs .null
theorem own_d1_0 : decode prog_7_method_1_code 0 = .ok (.aload_n 0, 1) := by decide +kernel
theorem own_d1_1 : decode prog_7_method_1_code 1 = .ok (.invokespecial 1, 3) := by decide +kernel
theorem own_d1_4 : decode prog_7_method_1_code 4 = .ok (.aload_n 0, 1) := by decide +kernel
theorem own_d1_5 : decode prog_7_method_1_code 5 = .ok (.bipush 8, 2) := by decide +kernel
theorem own_d1_7 : decode prog_7_method_1_code 7 = .ok (.anewarray 7, 3) := by decide +kernel
theorem own_d1_10 : decode prog_7_method_1_code 10 = .ok (.putfield 9, 3) := by decide +kernel
theorem own_d1_13 : decode prog_7_method_1_code 13 = .ok (.return_, 1) := by decide +kernel
theorem own_pn0 : plainName "com/example/walk_to_worth/walktoworth/graph/IntSequence" = true := by first | (simp [plainName, overriddenIn]; done) | decide +kernel
theorem own_pd0 : parseMethodDescriptor "()V" = some ⟨[], none⟩ := by decide +kernel
theorem own_rm1_ef (m : MethodId) (o : Addr) : entryFrame m #[(.ref o)] 1 = mkF m 0 #[.val (.ref o)] [] := by first | (simp [entryFrame, mkF, argsToLocals, Value.category]; done) | rfl
set_option maxRecDepth 65536 in
set_option maxHeartbeats 40000000 in
theorem own_rm1 (l : Launch) (Z : State) (a0 : Array Value) (hw : ∀ d ∈ tables_1, d.before a0 Z = true) (ws : List Jvm.Cond) (o : Addr) (h0 : Heap) (n0 : Nat) (Z0 : n0 ≤ h0.size) (E1 : Exa Z h0 o "com/example/walk_to_worth/walktoworth/graph/IntSequence") (F1 : Fld Z h0 o "com/example/walk_to_worth/walktoworth/graph/IntSequence" "blocks" "[[I" .null) (F2 : Fld Z h0 o "com/example/walk_to_worth/walktoworth/graph/IntSequence" "blockCount" "I" (.int (0 : Int32))) (F3 : Fld Z h0 o "com/example/walk_to_worth/walktoworth/graph/IntSequence" "last" "[I" .null) (F4 : Fld Z h0 o "com/example/walk_to_worth/walktoworth/graph/IntSequence" "lastUsed" "I" (.int (0 : Int32))) (g_o : n0 ≤ o) :
    own_Met l Z (⟨"com/example/walk_to_worth/walktoworth/graph/IntSequence", "<init>", "()V"⟩ : MethodName) prog_7_method_1_code 1 none ws ({ frames := 1, cells := 1, slots := 8, locals := 16 } : Room) #[(.ref o)] h0 (fun v h L => ∃ B kB, v = none ∧ Fr n0 L ∧ Keep h0 h [o] ∧ n0 ≤ B ∧ h0.size ≤ B ∧ OvrA Z kB .int "[I" ∧ own_Seq Z h o B kB (0 : Int32) .null (0 : Int32) [.null, .null, .null, .null, .null, .null, .null, .null]) := by
  refine own_enter (plainFor_of_name own_pn0) ?_
  intro p e s m below meth c s₁ X0 hx hZ hby hml hown hnm hret hlk e0
  have N0 := Fr.nil n0
  rw [own_rm1_ef m o]
  have KK0 : Keep h0 h0 [o] := Keep.refl _ _
  show own_Fin _ _ _ _ _ _ (s₁.setTop (mkF m 0 #[.val (.ref o)] []))
  refine own_to (fun t k => XS.aloadN X0.here hx rfl (hb hby own_d1_0) rfl rfl k) ?_
  show own_Fin _ _ _ _ _ _ (s₁.setTop (mkF m 1 #[.val (.ref o)] [(.ref o)]))
  obtain ⟨T1, X1, e1, st1⟩ := initO X0 hx hZ hown (hw _ (List.mem_of_getElem? (i := 7) rfl)) (hw _ (List.mem_of_getElem? (i := 8) rfl)) (hw _ (List.mem_of_getElem? (i := 9) rfl)) e0 (g := (mkF m 1 #[.val (.ref o)] [(.ref o)])) rfl (by rw [hml]; rfl) rfl (hb hby own_d1_1) (by decide) (W := 0) (by show 2 * 0 + _ ≤ _; exact Nat.le_of_eq rfl) (by decide)
  refine own_to (fun t k => st1 t k) ?_
  show own_Fin _ _ _ _ _ _ (T1.setTop (mkF m 4 #[.val (.ref o)] []))
  refine own_to (fun t k => XS.aloadN X1.here hx rfl (hb hby own_d1_4) rfl rfl k) ?_
  show own_Fin _ _ _ _ _ _ (T1.setTop (mkF m 5 #[.val (.ref o)] [(.ref o)]))
  refine own_to (fun t k => XS.bipush X1.here hx rfl (hb hby own_d1_5) k) ?_
  show own_Fin _ _ _ _ _ _ (T1.setTop (mkF m 7 #[.val (.ref o)] [(.int (8 : Int32)), (.ref o)]))
  obtain ⟨T2, h2, k2, X2, e2, E2, A2, A2x, O2, st2⟩ := newRA X1 hx hZ hown (C := "[I") (ty := .int) (by decide) (hw _ (List.mem_of_getElem? (i := 10) rfl)) (hw _ (List.mem_of_getElem? (i := 11) rfl)) e1 (g := (mkF m 7 #[.val (.ref o)] [(.int (8 : Int32)), (.ref o)])) rfl (hb hby own_d1_7) rfl (by decide) (cap := 8) (by decide) (by decide) (by decide) (by decide) (ad := "[[I") (by decide)
  obtain ⟨B, q2⟩ : ∃ z, z = h0.size := ⟨_, rfl⟩
  rw [← q2] at A2 A2x st2
  have ne_o_B : o ≠ B := Nat.ne_of_lt (Nat.lt_of_lt_of_le E1.lt (Nat.le_of_eq q2.symm))
  have g_B : n0 ≤ B := Nat.le_trans Z0 (Nat.le_of_eq q2.symm)
  have sz_B : h0.size ≤ B := Nat.le_trans KK0.1 (Nat.le_of_eq q2.symm)
  have KK2 : Keep h0 h2 [o] := KK0.ext E2
  have E1_e2 := E1.ext E2
  have F1_e2 := F1.ext E2
  have F2_e2 := F2.ext E2
  have F3_e2 := F3.ext E2
  have F4_e2 := F4.ext E2
  have V2 := Arv.new A2 (by decide)
  have V2p : Arv Z h2 B k2 (.array .int) (8 : Int32) [.null, .null, .null, .null, .null, .null, .null, .null] .null := V2.pad (pad_rep [] .null 8)
  refine own_to (fun t k => st2 t k) ?_
  show own_Fin _ _ _ _ _ _ (T2.setTop (mkF m 10 #[.val (.ref o)] [(.ref B), (.ref o)]))
  obtain ⟨T3, h3, X3, e3, W3, st3⟩ := putF X2 hx hZ hown (host := "") (Or.inl (hw _ (List.mem_of_getElem? (i := 12) rfl))) Via.refl e2 F1_e2 E1_e2 (Or.inl (hw _ (List.mem_of_getElem? (i := 13) rfl))) (hw _ (List.mem_of_getElem? (i := 2) rfl)) (ty := (.array (.array .int))) (by decide) rfl rfl (g := (mkF m 10 #[.val (.ref o)] [(.ref B), (.ref o)])) rfl rfl (hb hby own_d1_10)
  have Fw3 := F1_e2.same W3
  have N3 := Fr.snoc X3 N0 g_o
  have KK3 : Keep h0 h3 [o] := KK2.wr W3 (Or.inl (List.mem_of_getElem? (i := 0) rfl))
  have E1_e3 := E1_e2.wr W3
  have F2_e3 := F2_e2.other W3 (Or.inr (slot_ne (Or.inl (hw _ (List.mem_of_getElem? (i := 24) rfl))) (Or.inl (hw _ (List.mem_of_getElem? (i := 13) rfl))) (by decide) (t := .int) (t' := (.array (.array .int))) (by decide) (by decide)))
  have F3_e3 := F3_e2.other W3 (Or.inr (slot_ne (Or.inl (hw _ (List.mem_of_getElem? (i := 31) rfl))) (Or.inl (hw _ (List.mem_of_getElem? (i := 13) rfl))) (by decide) (t := (.array .int)) (t' := (.array (.array .int))) (by decide) (by decide)))
  have F4_e3 := F4_e2.other W3 (Or.inr (slot_ne (Or.inl (hw _ (List.mem_of_getElem? (i := 39) rfl))) (Or.inl (hw _ (List.mem_of_getElem? (i := 13) rfl))) (by decide) (t := .int) (t' := (.array (.array .int))) (by decide) (by decide)))
  have V2p_e3 := V2p.other W3 (Ne.symm ne_o_B)
  refine own_to (fun t k => st3 t k) ?_
  show own_Fin _ _ _ _ _ _ (T3.setTop (mkF m 13 #[.val (.ref o)] []))
  refine own_retV X3 hx hlk hret (hb hby own_d1_13) (by decide) (by decide) ?_
  try rw [e3]
  exact ⟨B, k2, rfl, N3, KK3, g_B, sz_B, O2, ⟨E1_e3, Fw3, F2_e3, F3_e3, F4_e3, V2p_e3⟩⟩
def own_min (p1 : Int32) (p2 : Int32) : Int32 := (if p2 < p1 then p2 else p1)
theorem own_d8_0 : decode jdk_29_method_69_code 0 = .ok (.iload_n 0, 1) := by decide +kernel
theorem own_d8_1 : decode jdk_29_method_69_code 1 = .ok (.iload_n 1, 1) := by decide +kernel
theorem own_d8_2 : decode jdk_29_method_69_code 2 = .ok (.if_icmp .gt 7, 3) := by decide +kernel
theorem own_d8_5 : decode jdk_29_method_69_code 5 = .ok (.iload_n 0, 1) := by decide +kernel
theorem own_d8_6 : decode jdk_29_method_69_code 6 = .ok (.goto 4, 3) := by decide +kernel
theorem own_d8_9 : decode jdk_29_method_69_code 9 = .ok (.iload_n 1, 1) := by decide +kernel
theorem own_d8_10 : decode jdk_29_method_69_code 10 = .ok (.ireturn, 1) := by decide +kernel
theorem own_rm8_ef (m : MethodId) (p1 : Int32) (p2 : Int32) : entryFrame m #[(.int p1), (.int p2)] 2 = mkF m 0 #[.val (.int p1), .val (.int p2)] [] := by first | (simp [entryFrame, mkF, argsToLocals, Value.category]; done) | rfl
set_option maxRecDepth 65536 in
set_option maxHeartbeats 40000000 in
theorem own_rm8 (l : Launch) (Z : State) (a0 : Array Value) (hw : ∀ d ∈ tables_1, d.before a0 Z = true) (ws : List Jvm.Cond) (p1 : Int32) (p2 : Int32) (h0 : Heap) (n0 : Nat) (Z0 : n0 ≤ h0.size) :
    own_Met l Z (⟨"java/lang/Math", "min", "(II)I"⟩ : MethodName) jdk_29_method_69_code 2 (some .int) ws ({ frames := 0, cells := 0, slots := 0, locals := 0 } : Room) #[(.int p1), (.int p2)] h0 (fun v h L => v = some (.int (own_min p1 p2)) ∧ Fr n0 L ∧ h = h0) := by
  refine own_enter (Jvm.Free.JP.mathPlain rfl (by decide +kernel)) ?_
  intro p e s m below meth c s₁ X0 hx hZ hby hml hown hnm hret hlk e0
  have N0 := Fr.nil n0
  rw [own_rm8_ef m p1 p2]
  show own_Fin _ _ _ _ _ _ (s₁.setTop (mkF m 0 #[.val (.int p1), .val (.int p2)] []))
  refine own_to (fun t k => XS.iloadN X0.here hx rfl (hb hby own_d8_0) rfl k) ?_
  show own_Fin _ _ _ _ _ _ (s₁.setTop (mkF m 1 #[.val (.int p1), .val (.int p2)] [(.int p1)]))
  refine own_to (fun t k => XS.iloadN X0.here hx rfl (hb hby own_d8_1) rfl k) ?_
  show own_Fin _ _ _ _ _ _ (s₁.setTop (mkF m 2 #[.val (.int p1), .val (.int p2)] [(.int p2), (.int p1)]))
  by_cases hc2_4 : p2 < p1
  ·
    show own_Fin _ _ _ _ _ _ (s₁.setTop (mkF m 2 #[.val (.int p1), .val (.int p2)] [(.int p2), (.int p1)]))
    refine own_to (fun t k => XS.icmpYes X0.here hx rfl (pc0 := 2) (pc' := 9) rfl (hb hby own_d8_2) rfl (tlt hc2_4).2.2.1 (by decide) (by decide) k) ?_
    show own_Fin _ _ _ _ _ _ (s₁.setTop (mkF m 9 #[.val (.int p1), .val (.int p2)] []))
    refine own_to (fun t k => XS.iloadN X0.here hx rfl (hb hby own_d8_9) rfl k) ?_
    show own_Fin _ _ _ _ _ _ (s₁.setTop (mkF m 10 #[.val (.int p1), .val (.int p2)] [(.int p2)]))
    refine own_retI X0 hx hlk hret (hb hby own_d8_10) (by decide) (by decide) ?_
    try rw [e0]
    exact ⟨congrArg (fun z => some (Value.int z)) (Eq.symm (show own_min p1 p2 = _ from ((if_pos hc2_4).trans rfl))), N0, rfl⟩
  ·
    show own_Fin _ _ _ _ _ _ (s₁.setTop (mkF m 2 #[.val (.int p1), .val (.int p2)] [(.int p2), (.int p1)]))
    refine own_to (fun t k => XS.icmpNo X0.here hx rfl (hb hby own_d8_2) rfl (flt hc2_4).2.2.1 k) ?_
    show own_Fin _ _ _ _ _ _ (s₁.setTop (mkF m 5 #[.val (.int p1), .val (.int p2)] []))
    refine own_to (fun t k => XS.iloadN X0.here hx rfl (hb hby own_d8_5) rfl k) ?_
    show own_Fin _ _ _ _ _ _ (s₁.setTop (mkF m 6 #[.val (.int p1), .val (.int p2)] [(.int p1)]))
    refine own_to (fun t k => XS.goto X0.here hx rfl (pc0 := 6) (pc' := 10) rfl (hb hby own_d8_6) (by decide) (by decide) k) ?_
    show own_Fin _ _ _ _ _ _ (s₁.setTop (mkF m 10 #[.val (.int p1), .val (.int p2)] [(.int p1)]))
    refine own_retI X0 hx hlk hret (hb hby own_d8_10) (by decide) (by decide) ?_
    try rw [e0]
    exact ⟨congrArg (fun z => some (Value.int z)) (Eq.symm (show own_min p1 p2 = _ from ((if_neg hc2_4).trans rfl))), N0, rfl⟩
theorem own_d6_0 : decode prog_7_method_7_code 0 = .ok (.aload_n 0, 1) := by decide +kernel
theorem own_d6_1 : decode prog_7_method_7_code 1 = .ok (.getfield 15, 3) := by decide +kernel
theorem own_d6_4 : decode prog_7_method_7_code 4 = .ok (.ifnonnull 8, 3) := by decide +kernel
theorem own_d6_7 : decode prog_7_method_7_code 7 = .ok (.bipush 16, 2) := by decide +kernel
theorem own_d6_9 : decode prog_7_method_7_code 9 = .ok (.goto 15, 3) := by decide +kernel
theorem own_d6_12 : decode prog_7_method_7_code 12 = .ok (.iconst 2, 1) := by decide +kernel
theorem own_d6_13 : decode prog_7_method_7_code 13 = .ok (.aload_n 0, 1) := by decide +kernel
theorem own_d6_14 : decode prog_7_method_7_code 14 = .ok (.getfield 15, 3) := by decide +kernel
theorem own_d6_17 : decode prog_7_method_7_code 17 = .ok (.arraylength, 1) := by decide +kernel
theorem own_d6_18 : decode prog_7_method_7_code 18 = .ok (.imul, 1) := by decide +kernel
theorem own_d6_19 : decode prog_7_method_7_code 19 = .ok (.ldc 41, 2) := by decide +kernel
theorem own_d6_21 : decode prog_7_method_7_code 21 = .ok (.invokestatic 48, 3) := by decide +kernel
theorem own_d6_24 : decode prog_7_method_7_code 24 = .ok (.istore_n 1, 1) := by decide +kernel
theorem own_d6_25 : decode prog_7_method_7_code 25 = .ok (.aload_n 0, 1) := by decide +kernel
theorem own_d6_26 : decode prog_7_method_7_code 26 = .ok (.getfield 25, 3) := by decide +kernel
theorem own_d6_29 : decode prog_7_method_7_code 29 = .ok (.aload_n 0, 1) := by decide +kernel
theorem own_d6_30 : decode prog_7_method_7_code 30 = .ok (.getfield 9, 3) := by decide +kernel
theorem own_d6_33 : decode prog_7_method_7_code 33 = .ok (.arraylength, 1) := by decide +kernel
theorem own_d6_34 : decode prog_7_method_7_code 34 = .ok (.if_icmp .ne 24, 3) := by decide +kernel
theorem own_d6_37 : decode prog_7_method_7_code 37 = .ok (.aload_n 0, 1) := by decide +kernel
theorem own_d6_38 : decode prog_7_method_7_code 38 = .ok (.aload_n 0, 1) := by decide +kernel
theorem own_d6_39 : decode prog_7_method_7_code 39 = .ok (.getfield 9, 3) := by decide +kernel
theorem own_d6_42 : decode prog_7_method_7_code 42 = .ok (.iconst 2, 1) := by decide +kernel
theorem own_d6_43 : decode prog_7_method_7_code 43 = .ok (.aload_n 0, 1) := by decide +kernel
theorem own_d6_44 : decode prog_7_method_7_code 44 = .ok (.getfield 9, 3) := by decide +kernel
theorem own_d6_47 : decode prog_7_method_7_code 47 = .ok (.arraylength, 1) := by decide +kernel
theorem own_d6_48 : decode prog_7_method_7_code 48 = .ok (.imul, 1) := by decide +kernel
theorem own_d6_49 : decode prog_7_method_7_code 49 = .ok (.invokestatic 54, 3) := by decide +kernel
theorem own_d6_52 : decode prog_7_method_7_code 52 = .ok (.checkcast 60, 3) := by decide +kernel
theorem own_d6_55 : decode prog_7_method_7_code 55 = .ok (.putfield 9, 3) := by decide +kernel
theorem own_d6_58 : decode prog_7_method_7_code 58 = .ok (.aload_n 0, 1) := by decide +kernel
theorem own_d6_59 : decode prog_7_method_7_code 59 = .ok (.iload_n 1, 1) := by decide +kernel
theorem own_d6_60 : decode prog_7_method_7_code 60 = .ok (.newarray .int, 2) := by decide +kernel
theorem own_d6_62 : decode prog_7_method_7_code 62 = .ok (.putfield 15, 3) := by decide +kernel
theorem own_d6_65 : decode prog_7_method_7_code 65 = .ok (.aload_n 0, 1) := by decide +kernel
theorem own_d6_66 : decode prog_7_method_7_code 66 = .ok (.getfield 9, 3) := by decide +kernel
theorem own_d6_69 : decode prog_7_method_7_code 69 = .ok (.aload_n 0, 1) := by decide +kernel
theorem own_d6_70 : decode prog_7_method_7_code 70 = .ok (.getfield 25, 3) := by decide +kernel
theorem own_d6_73 : decode prog_7_method_7_code 73 = .ok (.aload_n 0, 1) := by decide +kernel
theorem own_d6_74 : decode prog_7_method_7_code 74 = .ok (.getfield 15, 3) := by decide +kernel
theorem own_d6_77 : decode prog_7_method_7_code 77 = .ok (.aastore, 1) := by decide +kernel
theorem own_d6_78 : decode prog_7_method_7_code 78 = .ok (.aload_n 0, 1) := by decide +kernel
theorem own_d6_79 : decode prog_7_method_7_code 79 = .ok (.dup, 1) := by decide +kernel
theorem own_d6_80 : decode prog_7_method_7_code 80 = .ok (.getfield 25, 3) := by decide +kernel
theorem own_d6_83 : decode prog_7_method_7_code 83 = .ok (.iconst 1, 1) := by decide +kernel
theorem own_d6_84 : decode prog_7_method_7_code 84 = .ok (.iadd, 1) := by decide +kernel
theorem own_d6_85 : decode prog_7_method_7_code 85 = .ok (.putfield 25, 3) := by decide +kernel
theorem own_d6_88 : decode prog_7_method_7_code 88 = .ok (.aload_n 0, 1) := by decide +kernel
theorem own_d6_89 : decode prog_7_method_7_code 89 = .ok (.iconst 0, 1) := by decide +kernel
theorem own_d6_90 : decode prog_7_method_7_code 90 = .ok (.putfield 18, 3) := by decide +kernel
theorem own_d6_93 : decode prog_7_method_7_code 93 = .ok (.return_, 1) := by decide +kernel
theorem own_pd1 : parseMethodDescriptor "(II)I" = some ⟨[.int, .int], some .int⟩ := by decide +kernel
theorem own_abA_ef (m : MethodId) (o : Addr) : entryFrame m #[(.ref o)] 2 = mkF m 0 #[.val (.ref o), .unset] [] := by first | (simp [entryFrame, mkF, argsToLocals, Value.category]; done) | rfl
set_option maxRecDepth 65536 in
set_option maxHeartbeats 40000000 in
theorem own_abA (l : Launch) (Z : State) (a0 : Array Value) (hw : ∀ d ∈ tables_1, d.before a0 Z = true) (ws : List Jvm.Cond) (o : Addr) (B : Addr) (kB : ClassId) (h0 : Heap) (n0 : Nat) (Z0 : n0 ≤ h0.size) (g_o : n0 ≤ o) (g_B : n0 ≤ B) (neB : o ≠ B) (hO : OvrA Z kB .int "[I") (hS : own_Seq Z h0 o B kB (0 : Int32) .null (0 : Int32) [.null, .null, .null, .null, .null, .null, .null, .null]) :
    own_Met l Z (⟨"com/example/walk_to_worth/walktoworth/graph/IntSequence", "addBlock", "()V"⟩ : MethodName) prog_7_method_7_code 2 none ws ({ frames := 0, cells := 1, slots := 16, locals := 0 } : Room) #[(.ref o)] h0 (fun v h L => ∃ Ln, v = none ∧ Fr n0 L ∧ Keep h0 h [o, B] ∧ n0 ≤ Ln ∧ h0.size ≤ Ln ∧ own_Seq Z h o B kB (1 : Int32) (.ref Ln) (0 : Int32) [(.ref Ln), .null, .null, .null, .null, .null, .null, .null] ∧ Exa Z h Ln "[I" ∧ own_Len Z h Ln (16 : Int32)) := by
  refine own_enter (plainFor_of_name own_pn0) ?_
  intro p e s m below meth c s₁ X0 hx hZ hby hml hown hnm hret hlk e0
  have N0 := Fr.nil n0
  rw [own_abA_ef m o]
  have KK0 : Keep h0 h0 [o, B] := Keep.refl _ _
  obtain ⟨Es, Fb, Fc, Fl, Fu, Vb⟩ := hS
  show own_Fin _ _ _ _ _ _ (s₁.setTop (mkF m 0 #[.val (.ref o), .unset] []))
  refine own_to (fun t k => XS.aloadN X0.here hx rfl (hb hby own_d6_0) rfl rfl k) ?_
  show own_Fin _ _ _ _ _ _ (s₁.setTop (mkF m 1 #[.val (.ref o), .unset] [(.ref o)]))
  obtain ⟨T5, X5, e5, st5⟩ := getF X0 hx hZ hown (host := "") (Or.inl (hw _ (List.mem_of_getElem? (i := 30) rfl))) Via.refl e0 Fl (g := (mkF m 1 #[.val (.ref o), .unset] [(.ref o)])) rfl rfl (hb hby own_d6_1)
  refine own_to (fun t k => st5 t k) ?_
  show own_Fin _ _ _ _ _ _ (T5.setTop (mkF m 4 #[.val (.ref o), .unset] [.null]))
  refine own_to (fun t k => XS.ifnonnullNo X5.here hx rfl (hb hby own_d6_4) rfl k) ?_
  show own_Fin _ _ _ _ _ _ (T5.setTop (mkF m 7 #[.val (.ref o), .unset] []))
  refine own_to (fun t k => XS.bipush X5.here hx rfl (hb hby own_d6_7) k) ?_
  show own_Fin _ _ _ _ _ _ (T5.setTop (mkF m 9 #[.val (.ref o), .unset] [(.int (16 : Int32))]))
  refine own_to (fun t k => XS.goto X5.here hx rfl (pc0 := 9) (pc' := 24) rfl (hb hby own_d6_9) (by decide) (by decide) k) ?_
  show own_Fin _ _ _ _ _ _ (T5.setTop (mkF m 24 #[.val (.ref o), .unset] [(.int (16 : Int32))]))
  refine own_to (fun t k => XS.istoreN X5.here hx rfl (hb hby own_d6_24) rfl (l' := #[.val (.ref o), .val (.int (16 : Int32))]) rfl k) ?_
  show own_Fin _ _ _ _ _ _ (T5.setTop (mkF m 25 #[.val (.ref o), .val (.int (16 : Int32))] []))
  refine own_to (fun t k => XS.aloadN X5.here hx rfl (hb hby own_d6_25) rfl rfl k) ?_
  show own_Fin _ _ _ _ _ _ (T5.setTop (mkF m 26 #[.val (.ref o), .val (.int (16 : Int32))] [(.ref o)]))
  obtain ⟨T6, X6, e6, st6⟩ := getF X5 hx hZ hown (host := "") (Or.inl (hw _ (List.mem_of_getElem? (i := 23) rfl))) Via.refl e5 Fc (g := (mkF m 26 #[.val (.ref o), .val (.int (16 : Int32))] [(.ref o)])) rfl rfl (hb hby own_d6_26)
  refine own_to (fun t k => st6 t k) ?_
  show own_Fin _ _ _ _ _ _ (T6.setTop (mkF m 29 #[.val (.ref o), .val (.int (16 : Int32))] [(.int (0 : Int32))]))
  refine own_to (fun t k => XS.aloadN X6.here hx rfl (hb hby own_d6_29) rfl rfl k) ?_
  show own_Fin _ _ _ _ _ _ (T6.setTop (mkF m 30 #[.val (.ref o), .val (.int (16 : Int32))] [(.ref o), (.int (0 : Int32))]))
  obtain ⟨T7, X7, e7, st7⟩ := getF X6 hx hZ hown (host := "") (Or.inl (hw _ (List.mem_of_getElem? (i := 12) rfl))) Via.refl e6 Fb (g := (mkF m 30 #[.val (.ref o), .val (.int (16 : Int32))] [(.ref o), (.int (0 : Int32))])) rfl rfl (hb hby own_d6_30)
  refine own_to (fun t k => st7 t k) ?_
  show own_Fin _ _ _ _ _ _ (T7.setTop (mkF m 33 #[.val (.ref o), .val (.int (16 : Int32))] [(.ref B), (.int (0 : Int32))]))
  obtain ⟨cl8, Ar8, qa8, Sa8, Na8, Ha8, Ga8⟩ := id Vb
  refine own_to (fun t k => X7.arraylength hx (by rw [e7]; exact Ar8.1) (State.isArrayOf_alike hZ.alike Ar8.2.1) (g := (mkF m 33 #[.val (.ref o), .val (.int (16 : Int32))] [(.ref B), (.int (0 : Int32))])) rfl rfl (hb hby own_d6_33) _ k) ?_
  rw [len_of Sa8 Na8]
  show own_Fin _ _ _ _ _ _ (T7.setTop (mkF m 34 #[.val (.ref o), .val (.int (16 : Int32))] [(.int (8 : Int32)), (.int (0 : Int32))]))
  refine own_to (fun t k => XS.icmpYes X7.here hx rfl (pc0 := 34) (pc' := 58) rfl (hb hby own_d6_34) rfl (feq (by decide)).2 (by decide) (by decide) k) ?_
  show own_Fin _ _ _ _ _ _ (T7.setTop (mkF m 58 #[.val (.ref o), .val (.int (16 : Int32))] []))
  refine own_to (fun t k => XS.aloadN X7.here hx rfl (hb hby own_d6_58) rfl rfl k) ?_
  show own_Fin _ _ _ _ _ _ (T7.setTop (mkF m 59 #[.val (.ref o), .val (.int (16 : Int32))] [(.ref o)]))
  refine own_to (fun t k => XS.iloadN X7.here hx rfl (hb hby own_d6_59) rfl k) ?_
  show own_Fin _ _ _ _ _ _ (T7.setTop (mkF m 60 #[.val (.ref o), .val (.int (16 : Int32))] [(.int (16 : Int32)), (.ref o)]))
  obtain ⟨T9, h9, k9, X9, e9, E9, A9, A9x, st9⟩ := newPE X7 hx hZ (hw _ (List.mem_of_getElem? (i := 36) rfl)) e7 (g := (mkF m 60 #[.val (.ref o), .val (.int (16 : Int32))] [(.int (16 : Int32)), (.ref o)])) rfl (hb hby own_d6_60) rfl (by decide) (cap := 16) (by decide) (by decide) (by decide) (by decide) (ad := "[I") (by decide)
  obtain ⟨Ln, q9⟩ : ∃ z, z = h0.size := ⟨_, rfl⟩
  rw [← q9] at A9 A9x st9
  have ne_o_Ln : o ≠ Ln := Nat.ne_of_lt (Nat.lt_of_lt_of_le Es.lt (Nat.le_of_eq q9.symm))
  have ne_B_Ln : B ≠ Ln := Nat.ne_of_lt (Nat.lt_of_lt_of_le Vb.lt (Nat.le_of_eq q9.symm))
  have g_Ln : n0 ≤ Ln := Nat.le_trans Z0 (Nat.le_of_eq q9.symm)
  have sz_Ln : h0.size ≤ Ln := Nat.le_trans KK0.1 (Nat.le_of_eq q9.symm)
  have KK9 : Keep h0 h9 [o, B] := KK0.ext E9
  have Es_e9 := Es.ext E9
  have Fb_e9 := Fb.ext E9
  have Fc_e9 := Fc.ext E9
  have Fl_e9 := Fl.ext E9
  have Fu_e9 := Fu.ext E9
  have Vb_e9 := Vb.ext E9
  have V9 := Arv.new A9 (by decide)
  refine own_to (fun t k => st9 t k) ?_
  show own_Fin _ _ _ _ _ _ (T9.setTop (mkF m 62 #[.val (.ref o), .val (.int (16 : Int32))] [(.ref Ln), (.ref o)]))
  have Ll10 : own_Len Z h9 Ln (16 : Int32) := by obtain ⟨c', A', -, S', N', -⟩ := id V9; exact ⟨c', A', S', N'⟩
  obtain ⟨T11, h11, X11, e11, W11, st11⟩ := putF X9 hx hZ hown (host := "") (Or.inl (hw _ (List.mem_of_getElem? (i := 30) rfl))) Via.refl e9 Fl_e9 Es_e9 (Or.inl (hw _ (List.mem_of_getElem? (i := 31) rfl))) (hw _ (List.mem_of_getElem? (i := 2) rfl)) (ty := (.array .int)) (by decide) rfl rfl (g := (mkF m 62 #[.val (.ref o), .val (.int (16 : Int32))] [(.ref Ln), (.ref o)])) rfl rfl (hb hby own_d6_62)
  have Fw11 := Fl_e9.same W11
  have N11 := Fr.snoc X11 N0 g_o
  have KK11 : Keep h0 h11 [o, B] := KK9.wr W11 (Or.inl (List.mem_of_getElem? (i := 0) rfl))
  have Es_e11 := Es_e9.wr W11
  have Fb_e11 := Fb_e9.other W11 (Or.inr (slot_ne (Or.inl (hw _ (List.mem_of_getElem? (i := 13) rfl))) (Or.inl (hw _ (List.mem_of_getElem? (i := 31) rfl))) (by decide) (t := (.array (.array .int))) (t' := (.array .int)) (by decide) (by decide)))
  have Fc_e11 := Fc_e9.other W11 (Or.inr (slot_ne (Or.inl (hw _ (List.mem_of_getElem? (i := 24) rfl))) (Or.inl (hw _ (List.mem_of_getElem? (i := 31) rfl))) (by decide) (t := .int) (t' := (.array .int)) (by decide) (by decide)))
  have Fu_e11 := Fu_e9.other W11 (Or.inr (slot_ne (Or.inl (hw _ (List.mem_of_getElem? (i := 39) rfl))) (Or.inl (hw _ (List.mem_of_getElem? (i := 31) rfl))) (by decide) (t := .int) (t' := (.array .int)) (by decide) (by decide)))
  have Vb_e11 := Vb_e9.other W11 (Ne.symm neB)
  have A9x_e11 := A9x.wr W11
  have Ll10_e11 := Ll10.other W11 (Ne.symm ne_o_Ln)
  refine own_to (fun t k => st11 t k) ?_
  show own_Fin _ _ _ _ _ _ (T11.setTop (mkF m 65 #[.val (.ref o), .val (.int (16 : Int32))] []))
  refine own_to (fun t k => XS.aloadN X11.here hx rfl (hb hby own_d6_65) rfl rfl k) ?_
  show own_Fin _ _ _ _ _ _ (T11.setTop (mkF m 66 #[.val (.ref o), .val (.int (16 : Int32))] [(.ref o)]))
  obtain ⟨T12, X12, e12, st12⟩ := getF X11 hx hZ hown (host := "") (Or.inl (hw _ (List.mem_of_getElem? (i := 12) rfl))) Via.refl e11 Fb_e11 (g := (mkF m 66 #[.val (.ref o), .val (.int (16 : Int32))] [(.ref o)])) rfl rfl (hb hby own_d6_66)
  refine own_to (fun t k => st12 t k) ?_
  show own_Fin _ _ _ _ _ _ (T12.setTop (mkF m 69 #[.val (.ref o), .val (.int (16 : Int32))] [(.ref B)]))
  refine own_to (fun t k => XS.aloadN X12.here hx rfl (hb hby own_d6_69) rfl rfl k) ?_
  show own_Fin _ _ _ _ _ _ (T12.setTop (mkF m 70 #[.val (.ref o), .val (.int (16 : Int32))] [(.ref o), (.ref B)]))
  obtain ⟨T13, X13, e13, st13⟩ := getF X12 hx hZ hown (host := "") (Or.inl (hw _ (List.mem_of_getElem? (i := 23) rfl))) Via.refl e12 Fc_e11 (g := (mkF m 70 #[.val (.ref o), .val (.int (16 : Int32))] [(.ref o), (.ref B)])) rfl rfl (hb hby own_d6_70)
  refine own_to (fun t k => st13 t k) ?_
  show own_Fin _ _ _ _ _ _ (T13.setTop (mkF m 73 #[.val (.ref o), .val (.int (16 : Int32))] [(.int (0 : Int32)), (.ref B)]))
  refine own_to (fun t k => XS.aloadN X13.here hx rfl (hb hby own_d6_73) rfl rfl k) ?_
  show own_Fin _ _ _ _ _ _ (T13.setTop (mkF m 74 #[.val (.ref o), .val (.int (16 : Int32))] [(.ref o), (.int (0 : Int32)), (.ref B)]))
  obtain ⟨T14, X14, e14, st14⟩ := getF X13 hx hZ hown (host := "") (Or.inl (hw _ (List.mem_of_getElem? (i := 30) rfl))) Via.refl e13 Fw11 (g := (mkF m 74 #[.val (.ref o), .val (.int (16 : Int32))] [(.ref o), (.int (0 : Int32)), (.ref B)])) rfl rfl (hb hby own_d6_74)
  refine own_to (fun t k => st14 t k) ?_
  show own_Fin _ _ _ _ _ _ (T14.setTop (mkF m 77 #[.val (.ref o), .val (.int (16 : Int32))] [(.ref Ln), (.int (0 : Int32)), (.ref B)]))
  obtain ⟨cl15, Ar15, qa15, Sa15, Na15, Ha15, Ga15⟩ := id Vb_e11
  have hin16 : ¬ ((0 : Int32) < 0 ∨ cl15.slots.size ≤ ((0 : Int32)).toNatClampNeg) := inb_of Sa15 ⟨by decide, by decide⟩
  obtain ⟨T16, h16, X16, e16, W16, st16⟩ := stR X14 hx hZ e14 Ar15 (j := (0 : Int32)) hin16 rfl (Sto.ofVA Ar15 qa15 hO (Ins.self A9x_e11)) (g := (mkF m 77 #[.val (.ref o), .val (.int (16 : Int32))] [(.ref Ln), (.int (0 : Int32)), (.ref B)])) rfl rfl (hb hby own_d6_77)
  have N16 := Fr.snoc X16 N11 g_B
  have KK16 : Keep h0 h16 [o, B] := KK11.wr W16 (Or.inl (List.mem_of_getElem? (i := 1) rfl))
  have Es_e16 := Es_e11.wr W16
  have Fb_e16 := Fb_e11.other W16 (Or.inl neB)
  have Fc_e16 := Fc_e11.other W16 (Or.inl neB)
  have Fw11_e16 := Fw11.other W16 (Or.inl neB)
  have Fu_e16 := Fu_e11.other W16 (Or.inl neB)
  have A9x_e16 := A9x_e11.wr W16
  have Ll10_e16 := Ll10_e11.other W16 (Ne.symm ne_B_Ln)
  have V16 : Arv Z h16 B kB (.array .int) (8 : Int32) [(.ref Ln), .null, .null, .null, .null, .null, .null, .null] .null := Arv.set Ar15 qa15 Sa15 Na15 Ha15 Ga15 rfl W16 0 rfl (Nat.le_of_ble_eq_true rfl)
  refine own_to (fun t k => st16 t k) ?_
  show own_Fin _ _ _ _ _ _ (T16.setTop (mkF m 78 #[.val (.ref o), .val (.int (16 : Int32))] []))
  refine own_to (fun t k => XS.aloadN X16.here hx rfl (hb hby own_d6_78) rfl rfl k) ?_
  show own_Fin _ _ _ _ _ _ (T16.setTop (mkF m 79 #[.val (.ref o), .val (.int (16 : Int32))] [(.ref o)]))
  refine own_to (fun t k => XS.dup X16.here hx rfl (hb hby own_d6_79) rfl rfl k) ?_
  show own_Fin _ _ _ _ _ _ (T16.setTop (mkF m 80 #[.val (.ref o), .val (.int (16 : Int32))] [(.ref o), (.ref o)]))
  obtain ⟨T17, X17, e17, st17⟩ := getF X16 hx hZ hown (host := "") (Or.inl (hw _ (List.mem_of_getElem? (i := 23) rfl))) Via.refl e16 Fc_e16 (g := (mkF m 80 #[.val (.ref o), .val (.int (16 : Int32))] [(.ref o), (.ref o)])) rfl rfl (hb hby own_d6_80)
  refine own_to (fun t k => st17 t k) ?_
  show own_Fin _ _ _ _ _ _ (T17.setTop (mkF m 83 #[.val (.ref o), .val (.int (16 : Int32))] [(.int (0 : Int32)), (.ref o)]))
  refine own_to (fun t k => XS.iconst X17.here hx rfl (hb hby own_d6_83) k) ?_
  show own_Fin _ _ _ _ _ _ (T17.setTop (mkF m 84 #[.val (.ref o), .val (.int (16 : Int32))] [(.int (1 : Int32)), (.int (0 : Int32)), (.ref o)]))
  refine own_to (fun t k => XS.iadd X17.here hx rfl (hb hby own_d6_84) rfl k) ?_
  show own_Fin _ _ _ _ _ _ (T17.setTop (mkF m 85 #[.val (.ref o), .val (.int (16 : Int32))] [(.int ((0 : Int32) + (1 : Int32))), (.ref o)]))
  obtain ⟨T18, h18, X18, e18, W18, st18⟩ := putF X17 hx hZ hown (host := "") (Or.inl (hw _ (List.mem_of_getElem? (i := 23) rfl))) Via.refl e17 Fc_e16 Es_e16 (Or.inl (hw _ (List.mem_of_getElem? (i := 24) rfl))) (hw _ (List.mem_of_getElem? (i := 2) rfl)) (ty := .int) (by decide) rfl rfl (g := (mkF m 85 #[.val (.ref o), .val (.int (16 : Int32))] [(.int ((0 : Int32) + (1 : Int32))), (.ref o)])) rfl rfl (hb hby own_d6_85)
  have Fw18 := Fc_e16.same W18
  have N18 := Fr.snoc X18 N16 g_o
  have KK18 : Keep h0 h18 [o, B] := KK16.wr W18 (Or.inl (List.mem_of_getElem? (i := 0) rfl))
  have Es_e18 := Es_e16.wr W18
  have Fb_e18 := Fb_e16.other W18 (Or.inr (slot_ne (Or.inl (hw _ (List.mem_of_getElem? (i := 13) rfl))) (Or.inl (hw _ (List.mem_of_getElem? (i := 24) rfl))) (by decide) (t := (.array (.array .int))) (t' := .int) (by decide) (by decide)))
  have Fw11_e18 := Fw11_e16.other W18 (Or.inr (slot_ne (Or.inl (hw _ (List.mem_of_getElem? (i := 31) rfl))) (Or.inl (hw _ (List.mem_of_getElem? (i := 24) rfl))) (by decide) (t := (.array .int)) (t' := .int) (by decide) (by decide)))
  have Fu_e18 := Fu_e16.other W18 (Or.inr (slot_ne (Or.inl (hw _ (List.mem_of_getElem? (i := 39) rfl))) (Or.inl (hw _ (List.mem_of_getElem? (i := 24) rfl))) (by decide) (t := .int) (t' := .int) (by decide) (by decide)))
  have A9x_e18 := A9x_e16.wr W18
  have Ll10_e18 := Ll10_e16.other W18 (Ne.symm ne_o_Ln)
  have V16_e18 := V16.other W18 (Ne.symm neB)
  refine own_to (fun t k => st18 t k) ?_
  show own_Fin _ _ _ _ _ _ (T18.setTop (mkF m 88 #[.val (.ref o), .val (.int (16 : Int32))] []))
  refine own_to (fun t k => XS.aloadN X18.here hx rfl (hb hby own_d6_88) rfl rfl k) ?_
  show own_Fin _ _ _ _ _ _ (T18.setTop (mkF m 89 #[.val (.ref o), .val (.int (16 : Int32))] [(.ref o)]))
  refine own_to (fun t k => XS.iconst X18.here hx rfl (hb hby own_d6_89) k) ?_
  show own_Fin _ _ _ _ _ _ (T18.setTop (mkF m 90 #[.val (.ref o), .val (.int (16 : Int32))] [(.int (0 : Int32)), (.ref o)]))
  obtain ⟨T19, h19, X19, e19, W19, st19⟩ := putF X18 hx hZ hown (host := "") (Or.inl (hw _ (List.mem_of_getElem? (i := 38) rfl))) Via.refl e18 Fu_e18 Es_e18 (Or.inl (hw _ (List.mem_of_getElem? (i := 39) rfl))) (hw _ (List.mem_of_getElem? (i := 2) rfl)) (ty := .int) (by decide) rfl rfl (g := (mkF m 90 #[.val (.ref o), .val (.int (16 : Int32))] [(.int (0 : Int32)), (.ref o)])) rfl rfl (hb hby own_d6_90)
  have Fw19 := Fu_e18.same W19
  have N19 := Fr.snoc X19 N18 g_o
  have KK19 : Keep h0 h19 [o, B] := KK18.wr W19 (Or.inl (List.mem_of_getElem? (i := 0) rfl))
  have Es_e19 := Es_e18.wr W19
  have Fb_e19 := Fb_e18.other W19 (Or.inr (slot_ne (Or.inl (hw _ (List.mem_of_getElem? (i := 13) rfl))) (Or.inl (hw _ (List.mem_of_getElem? (i := 39) rfl))) (by decide) (t := (.array (.array .int))) (t' := .int) (by decide) (by decide)))
  have Fw18_e19 := Fw18.other W19 (Or.inr (slot_ne (Or.inl (hw _ (List.mem_of_getElem? (i := 24) rfl))) (Or.inl (hw _ (List.mem_of_getElem? (i := 39) rfl))) (by decide) (t := .int) (t' := .int) (by decide) (by decide)))
  have Fw11_e19 := Fw11_e18.other W19 (Or.inr (slot_ne (Or.inl (hw _ (List.mem_of_getElem? (i := 31) rfl))) (Or.inl (hw _ (List.mem_of_getElem? (i := 39) rfl))) (by decide) (t := (.array .int)) (t' := .int) (by decide) (by decide)))
  have A9x_e19 := A9x_e18.wr W19
  have Ll10_e19 := Ll10_e18.other W19 (Ne.symm ne_o_Ln)
  have V16_e19 := V16_e18.other W19 (Ne.symm neB)
  refine own_to (fun t k => st19 t k) ?_
  show own_Fin _ _ _ _ _ _ (T19.setTop (mkF m 93 #[.val (.ref o), .val (.int (16 : Int32))] []))
  refine own_retV X19 hx hlk hret (hb hby own_d6_93) (by decide) (by decide) ?_
  try rw [e19]
  have Fi20 : Fld Z h19 o "com/example/walk_to_worth/walktoworth/graph/IntSequence" "blockCount" "I" (.int (1 : Int32)) := by rw [← show ((0 : Int32) + (1 : Int32)) = (1 : Int32) from by decide]; exact Fw18_e19
  exact ⟨Ln, rfl, N19, KK19, g_Ln, sz_Ln, ⟨Es_e19, Fb_e19, Fi20, Fw11_e19, Fw19, V16_e19⟩, A9x_e19, Ll10_e19⟩
theorem own_abC_ef (m : MethodId) (o : Addr) : entryFrame m #[(.ref o)] 2 = mkF m 0 #[.val (.ref o), .unset] [] := by first | (simp [entryFrame, mkF, argsToLocals, Value.category]; done) | rfl
set_option maxRecDepth 65536 in
set_option maxHeartbeats 40000000 in
theorem own_abC (l : Launch) (Z : State) (a0 : Array Value) (hw : ∀ d ∈ tables_1, d.before a0 Z = true) (ws : List Jvm.Cond) (o : Addr) (B : Addr) (kB : ClassId) (L1 : Addr) (h0 : Heap) (n0 : Nat) (Z0 : n0 ≤ h0.size) (g_o : n0 ≤ o) (g_B : n0 ≤ B) (neB : o ≠ B) (hO : OvrA Z kB .int "[I") (hS : own_Seq Z h0 o B kB (1 : Int32) (.ref L1) (16 : Int32) [(.ref L1), .null, .null, .null, .null, .null, .null, .null]) (hL : own_Len Z h0 L1 (16 : Int32)) (neL : o ≠ L1) (neBL : B ≠ L1) :
    own_Met l Z (⟨"com/example/walk_to_worth/walktoworth/graph/IntSequence", "addBlock", "()V"⟩ : MethodName) prog_7_method_7_code 2 none ws ({ frames := 1, cells := 1, slots := 32, locals := 24 } : Room) #[(.ref o)] h0 (fun v h L => ∃ Ln, v = none ∧ Fr n0 L ∧ Keep h0 h [o, B] ∧ n0 ≤ Ln ∧ h0.size ≤ Ln ∧ own_Seq Z h o B kB (2 : Int32) (.ref Ln) (0 : Int32) [(.ref L1), (.ref Ln), .null, .null, .null, .null, .null, .null] ∧ Exa Z h Ln "[I" ∧ own_Len Z h Ln (32 : Int32)) := by
  refine own_enter (plainFor_of_name own_pn0) ?_
  intro p e s m below meth c s₁ X0 hx hZ hby hml hown hnm hret hlk e0
  have N0 := Fr.nil n0
  rw [own_abC_ef m o]
  have KK0 : Keep h0 h0 [o, B] := Keep.refl _ _
  obtain ⟨Es, Fb, Fc, Fl, Fu, Vb⟩ := hS
  show own_Fin _ _ _ _ _ _ (s₁.setTop (mkF m 0 #[.val (.ref o), .unset] []))
  refine own_to (fun t k => XS.aloadN X0.here hx rfl (hb hby own_d6_0) rfl rfl k) ?_
  show own_Fin _ _ _ _ _ _ (s₁.setTop (mkF m 1 #[.val (.ref o), .unset] [(.ref o)]))
  obtain ⟨T21, X21, e21, st21⟩ := getF X0 hx hZ hown (host := "") (Or.inl (hw _ (List.mem_of_getElem? (i := 30) rfl))) Via.refl e0 Fl (g := (mkF m 1 #[.val (.ref o), .unset] [(.ref o)])) rfl rfl (hb hby own_d6_1)
  refine own_to (fun t k => st21 t k) ?_
  show own_Fin _ _ _ _ _ _ (T21.setTop (mkF m 4 #[.val (.ref o), .unset] [(.ref L1)]))
  refine own_to (fun t k => XS.ifnonnullYes X21.here hx rfl (pc0 := 4) (pc' := 12) rfl (hb hby own_d6_4) rfl (by decide) (by decide) k) ?_
  show own_Fin _ _ _ _ _ _ (T21.setTop (mkF m 12 #[.val (.ref o), .unset] []))
  refine own_to (fun t k => XS.iconst X21.here hx rfl (hb hby own_d6_12) k) ?_
  show own_Fin _ _ _ _ _ _ (T21.setTop (mkF m 13 #[.val (.ref o), .unset] [(.int (2 : Int32))]))
  refine own_to (fun t k => XS.aloadN X21.here hx rfl (hb hby own_d6_13) rfl rfl k) ?_
  show own_Fin _ _ _ _ _ _ (T21.setTop (mkF m 14 #[.val (.ref o), .unset] [(.ref o), (.int (2 : Int32))]))
  obtain ⟨T22, X22, e22, st22⟩ := getF X21 hx hZ hown (host := "") (Or.inl (hw _ (List.mem_of_getElem? (i := 30) rfl))) Via.refl e21 Fl (g := (mkF m 14 #[.val (.ref o), .unset] [(.ref o), (.int (2 : Int32))])) rfl rfl (hb hby own_d6_14)
  refine own_to (fun t k => st22 t k) ?_
  show own_Fin _ _ _ _ _ _ (T22.setTop (mkF m 17 #[.val (.ref o), .unset] [(.ref L1), (.int (2 : Int32))]))
  obtain ⟨cl23, Ar23, Sa23, Na23⟩ := id hL
  refine own_to (fun t k => X22.arraylength hx (by rw [e22]; exact Ar23.1) (State.isArrayOf_alike hZ.alike Ar23.2.1) (g := (mkF m 17 #[.val (.ref o), .unset] [(.ref L1), (.int (2 : Int32))])) rfl rfl (hb hby own_d6_17) _ k) ?_
  rw [len_of Sa23 Na23]
  show own_Fin _ _ _ _ _ _ (T22.setTop (mkF m 18 #[.val (.ref o), .unset] [(.int (16 : Int32)), (.int (2 : Int32))]))
  refine own_to (fun t k => XS.imul X22.here hx rfl (hb hby own_d6_18) rfl k) ?_
  show own_Fin _ _ _ _ _ _ (T22.setTop (mkF m 19 #[.val (.ref o), .unset] [(.int ((2 : Int32) * (16 : Int32)))]))
  refine own_to (fun t k => X22.ldcInt hx hown (mvT hZ (hw _ (List.mem_of_getElem? (i := 49) rfl))) (g := (mkF m 19 #[.val (.ref o), .unset] [(.int ((2 : Int32) * (16 : Int32)))])) rfl (hb hby own_d6_19) _ k) ?_
  show own_Fin _ _ _ _ _ _ (T22.setTop (mkF m 21 #[.val (.ref o), .unset] [(.int (1048568 : Int32)), (.int ((2 : Int32) * (16 : Int32)))]))
  obtain ⟨_, _, ⟨T24, L24, k24, n24⟩, -, X24, ⟨Lc24, hQ24, l24, y24, z24⟩, st24⟩ := Jvm.LawKit.callS X22 hx (y := (⟨"java/lang/Math", "min", "(II)I"⟩ : MethodName)) hown (mvT hZ (hw _ (List.mem_of_getElem? (i := 50) rfl))) (mvT hZ (hw _ (List.mem_of_getElem? (i := 46) rfl))) (mvT hZ (hw _ (List.mem_of_getElem? (i := 47) rfl))) (mvT hZ (hw _ (List.mem_of_getElem? (i := 48) rfl))) (by decide) (own_back (W := 0) (own_rm8 l Z a0 hw [] ((2 : Int32) * (16 : Int32)) (1048568 : Int32) h0 n0 Z0) hZ (hw _ (List.mem_of_getElem? (i := 48) rfl)) (hw _ (List.mem_of_getElem? (i := 47) rfl)) (by decide) (by decide)) (g := (mkF m 21 #[.val (.ref o), .unset] [(.int (1048568 : Int32)), (.int ((2 : Int32) * (16 : Int32)))])) rfl (by rw [hml]; rfl) (argsL := [(.int ((2 : Int32) * (16 : Int32))), (.int (1048568 : Int32))]) (rest := []) (lenOf own_pd1 rfl) rfl (by show 2 * 0 + _ ≤ _; exact Nat.le_of_eq rfl) (hb hby own_d6_21) (fun _ _ => ⟨rfl, e22, (by decide : 0 + 0 ≤ _), (by decide : 0 + 0 ≤ _)⟩)
  dsimp only [Pt.U, Pt.locs, Pt.cells, Pt.slots] at X24 l24 y24 z24 st24 hQ24
  subst l24 y24 z24
  obtain ⟨rfl, N24q, eh24⟩ := hQ24
  have N24 := Fr.app N0 N24q
  refine own_to (fun t k => st24 t k) ?_
  show own_Fin _ _ _ _ _ _ (T24.setTop (mkF m 24 #[.val (.ref o), .unset] [(.int (own_min ((2 : Int32) * (16 : Int32)) (1048568 : Int32)))]))
  rw [show (own_min ((2 : Int32) * (16 : Int32)) (1048568 : Int32)) = (32 : Int32) from by decide]
  show own_Fin _ _ _ _ _ _ (T24.setTop (mkF m 24 #[.val (.ref o), .unset] [(.int (32 : Int32))]))
  refine own_to (fun t k => XS.istoreN X24.here hx rfl (hb hby own_d6_24) rfl (l' := #[.val (.ref o), .val (.int (32 : Int32))]) rfl k) ?_
  show own_Fin _ _ _ _ _ _ (T24.setTop (mkF m 25 #[.val (.ref o), .val (.int (32 : Int32))] []))
  refine own_to (fun t k => XS.aloadN X24.here hx rfl (hb hby own_d6_25) rfl rfl k) ?_
  show own_Fin _ _ _ _ _ _ (T24.setTop (mkF m 26 #[.val (.ref o), .val (.int (32 : Int32))] [(.ref o)]))
  obtain ⟨T25, X25, e25, st25⟩ := getF X24 hx hZ hown (host := "") (Or.inl (hw _ (List.mem_of_getElem? (i := 23) rfl))) Via.refl eh24 Fc (g := (mkF m 26 #[.val (.ref o), .val (.int (32 : Int32))] [(.ref o)])) rfl rfl (hb hby own_d6_26)
  refine own_to (fun t k => st25 t k) ?_
  show own_Fin _ _ _ _ _ _ (T25.setTop (mkF m 29 #[.val (.ref o), .val (.int (32 : Int32))] [(.int (1 : Int32))]))
  refine own_to (fun t k => XS.aloadN X25.here hx rfl (hb hby own_d6_29) rfl rfl k) ?_
  show own_Fin _ _ _ _ _ _ (T25.setTop (mkF m 30 #[.val (.ref o), .val (.int (32 : Int32))] [(.ref o), (.int (1 : Int32))]))
  obtain ⟨T26, X26, e26, st26⟩ := getF X25 hx hZ hown (host := "") (Or.inl (hw _ (List.mem_of_getElem? (i := 12) rfl))) Via.refl e25 Fb (g := (mkF m 30 #[.val (.ref o), .val (.int (32 : Int32))] [(.ref o), (.int (1 : Int32))])) rfl rfl (hb hby own_d6_30)
  refine own_to (fun t k => st26 t k) ?_
  show own_Fin _ _ _ _ _ _ (T26.setTop (mkF m 33 #[.val (.ref o), .val (.int (32 : Int32))] [(.ref B), (.int (1 : Int32))]))
  obtain ⟨cl27, Ar27, qa27, Sa27, Na27, Ha27, Ga27⟩ := id Vb
  refine own_to (fun t k => X26.arraylength hx (by rw [e26]; exact Ar27.1) (State.isArrayOf_alike hZ.alike Ar27.2.1) (g := (mkF m 33 #[.val (.ref o), .val (.int (32 : Int32))] [(.ref B), (.int (1 : Int32))])) rfl rfl (hb hby own_d6_33) _ k) ?_
  rw [len_of Sa27 Na27]
  show own_Fin _ _ _ _ _ _ (T26.setTop (mkF m 34 #[.val (.ref o), .val (.int (32 : Int32))] [(.int (8 : Int32)), (.int (1 : Int32))]))
  refine own_to (fun t k => XS.icmpYes X26.here hx rfl (pc0 := 34) (pc' := 58) rfl (hb hby own_d6_34) rfl (feq (by decide)).2 (by decide) (by decide) k) ?_
  show own_Fin _ _ _ _ _ _ (T26.setTop (mkF m 58 #[.val (.ref o), .val (.int (32 : Int32))] []))
  refine own_to (fun t k => XS.aloadN X26.here hx rfl (hb hby own_d6_58) rfl rfl k) ?_
  show own_Fin _ _ _ _ _ _ (T26.setTop (mkF m 59 #[.val (.ref o), .val (.int (32 : Int32))] [(.ref o)]))
  refine own_to (fun t k => XS.iloadN X26.here hx rfl (hb hby own_d6_59) rfl k) ?_
  show own_Fin _ _ _ _ _ _ (T26.setTop (mkF m 60 #[.val (.ref o), .val (.int (32 : Int32))] [(.int (32 : Int32)), (.ref o)]))
  obtain ⟨T28, h28, k28, X28, e28, E28, A28, A28x, st28⟩ := newPE X26 hx hZ (hw _ (List.mem_of_getElem? (i := 36) rfl)) e26 (g := (mkF m 60 #[.val (.ref o), .val (.int (32 : Int32))] [(.int (32 : Int32)), (.ref o)])) rfl (hb hby own_d6_60) rfl (by decide) (cap := 32) (by decide) (by decide) (by decide) (by decide) (ad := "[I") (by decide)
  obtain ⟨Ln, q28⟩ : ∃ z, z = h0.size := ⟨_, rfl⟩
  rw [← q28] at A28 A28x st28
  have ne_o_Ln : o ≠ Ln := Nat.ne_of_lt (Nat.lt_of_lt_of_le Es.lt (Nat.le_of_eq q28.symm))
  have ne_B_Ln : B ≠ Ln := Nat.ne_of_lt (Nat.lt_of_lt_of_le Vb.lt (Nat.le_of_eq q28.symm))
  have ne_L1_Ln : L1 ≠ Ln := Nat.ne_of_lt (Nat.lt_of_lt_of_le hL.lt (Nat.le_of_eq q28.symm))
  have g_Ln : n0 ≤ Ln := Nat.le_trans Z0 (Nat.le_of_eq q28.symm)
  have sz_Ln : h0.size ≤ Ln := Nat.le_trans KK0.1 (Nat.le_of_eq q28.symm)
  have KK28 : Keep h0 h28 [o, B] := KK0.ext E28
  have Es_e28 := Es.ext E28
  have Fb_e28 := Fb.ext E28
  have Fc_e28 := Fc.ext E28
  have Fl_e28 := Fl.ext E28
  have Fu_e28 := Fu.ext E28
  have Vb_e28 := Vb.ext E28
  have hL_e28 := hL.ext E28
  have V28 := Arv.new A28 (by decide)
  refine own_to (fun t k => st28 t k) ?_
  show own_Fin _ _ _ _ _ _ (T28.setTop (mkF m 62 #[.val (.ref o), .val (.int (32 : Int32))] [(.ref Ln), (.ref o)]))
  have Ll29 : own_Len Z h28 Ln (32 : Int32) := by obtain ⟨c', A', -, S', N', -⟩ := id V28; exact ⟨c', A', S', N'⟩
  obtain ⟨T30, h30, X30, e30, W30, st30⟩ := putF X28 hx hZ hown (host := "") (Or.inl (hw _ (List.mem_of_getElem? (i := 30) rfl))) Via.refl e28 Fl_e28 Es_e28 (Or.inl (hw _ (List.mem_of_getElem? (i := 31) rfl))) (hw _ (List.mem_of_getElem? (i := 2) rfl)) (ty := (.array .int)) (by decide) rfl rfl (g := (mkF m 62 #[.val (.ref o), .val (.int (32 : Int32))] [(.ref Ln), (.ref o)])) rfl rfl (hb hby own_d6_62)
  have Fw30 := Fl_e28.same W30
  have N30 := Fr.snoc X30 N24 g_o
  have KK30 : Keep h0 h30 [o, B] := KK28.wr W30 (Or.inl (List.mem_of_getElem? (i := 0) rfl))
  have Es_e30 := Es_e28.wr W30
  have Fb_e30 := Fb_e28.other W30 (Or.inr (slot_ne (Or.inl (hw _ (List.mem_of_getElem? (i := 13) rfl))) (Or.inl (hw _ (List.mem_of_getElem? (i := 31) rfl))) (by decide) (t := (.array (.array .int))) (t' := (.array .int)) (by decide) (by decide)))
  have Fc_e30 := Fc_e28.other W30 (Or.inr (slot_ne (Or.inl (hw _ (List.mem_of_getElem? (i := 24) rfl))) (Or.inl (hw _ (List.mem_of_getElem? (i := 31) rfl))) (by decide) (t := .int) (t' := (.array .int)) (by decide) (by decide)))
  have Fu_e30 := Fu_e28.other W30 (Or.inr (slot_ne (Or.inl (hw _ (List.mem_of_getElem? (i := 39) rfl))) (Or.inl (hw _ (List.mem_of_getElem? (i := 31) rfl))) (by decide) (t := .int) (t' := (.array .int)) (by decide) (by decide)))
  have Vb_e30 := Vb_e28.other W30 (Ne.symm neB)
  have hL_e30 := hL_e28.other W30 (Ne.symm neL)
  have A28x_e30 := A28x.wr W30
  have Ll29_e30 := Ll29.other W30 (Ne.symm ne_o_Ln)
  refine own_to (fun t k => st30 t k) ?_
  show own_Fin _ _ _ _ _ _ (T30.setTop (mkF m 65 #[.val (.ref o), .val (.int (32 : Int32))] []))
  refine own_to (fun t k => XS.aloadN X30.here hx rfl (hb hby own_d6_65) rfl rfl k) ?_
  show own_Fin _ _ _ _ _ _ (T30.setTop (mkF m 66 #[.val (.ref o), .val (.int (32 : Int32))] [(.ref o)]))
  obtain ⟨T31, X31, e31, st31⟩ := getF X30 hx hZ hown (host := "") (Or.inl (hw _ (List.mem_of_getElem? (i := 12) rfl))) Via.refl e30 Fb_e30 (g := (mkF m 66 #[.val (.ref o), .val (.int (32 : Int32))] [(.ref o)])) rfl rfl (hb hby own_d6_66)
  refine own_to (fun t k => st31 t k) ?_
  show own_Fin _ _ _ _ _ _ (T31.setTop (mkF m 69 #[.val (.ref o), .val (.int (32 : Int32))] [(.ref B)]))
  refine own_to (fun t k => XS.aloadN X31.here hx rfl (hb hby own_d6_69) rfl rfl k) ?_
  show own_Fin _ _ _ _ _ _ (T31.setTop (mkF m 70 #[.val (.ref o), .val (.int (32 : Int32))] [(.ref o), (.ref B)]))
  obtain ⟨T32, X32, e32, st32⟩ := getF X31 hx hZ hown (host := "") (Or.inl (hw _ (List.mem_of_getElem? (i := 23) rfl))) Via.refl e31 Fc_e30 (g := (mkF m 70 #[.val (.ref o), .val (.int (32 : Int32))] [(.ref o), (.ref B)])) rfl rfl (hb hby own_d6_70)
  refine own_to (fun t k => st32 t k) ?_
  show own_Fin _ _ _ _ _ _ (T32.setTop (mkF m 73 #[.val (.ref o), .val (.int (32 : Int32))] [(.int (1 : Int32)), (.ref B)]))
  refine own_to (fun t k => XS.aloadN X32.here hx rfl (hb hby own_d6_73) rfl rfl k) ?_
  show own_Fin _ _ _ _ _ _ (T32.setTop (mkF m 74 #[.val (.ref o), .val (.int (32 : Int32))] [(.ref o), (.int (1 : Int32)), (.ref B)]))
  obtain ⟨T33, X33, e33, st33⟩ := getF X32 hx hZ hown (host := "") (Or.inl (hw _ (List.mem_of_getElem? (i := 30) rfl))) Via.refl e32 Fw30 (g := (mkF m 74 #[.val (.ref o), .val (.int (32 : Int32))] [(.ref o), (.int (1 : Int32)), (.ref B)])) rfl rfl (hb hby own_d6_74)
  refine own_to (fun t k => st33 t k) ?_
  show own_Fin _ _ _ _ _ _ (T33.setTop (mkF m 77 #[.val (.ref o), .val (.int (32 : Int32))] [(.ref Ln), (.int (1 : Int32)), (.ref B)]))
  obtain ⟨cl34, Ar34, qa34, Sa34, Na34, Ha34, Ga34⟩ := id Vb_e30
  have hin35 : ¬ ((1 : Int32) < 0 ∨ cl34.slots.size ≤ ((1 : Int32)).toNatClampNeg) := inb_of Sa34 ⟨by decide, by decide⟩
  obtain ⟨T35, h35, X35, e35, W35, st35⟩ := stR X33 hx hZ e33 Ar34 (j := (1 : Int32)) hin35 rfl (Sto.ofVA Ar34 qa34 hO (Ins.self A28x_e30)) (g := (mkF m 77 #[.val (.ref o), .val (.int (32 : Int32))] [(.ref Ln), (.int (1 : Int32)), (.ref B)])) rfl rfl (hb hby own_d6_77)
  have N35 := Fr.snoc X35 N30 g_B
  have KK35 : Keep h0 h35 [o, B] := KK30.wr W35 (Or.inl (List.mem_of_getElem? (i := 1) rfl))
  have Es_e35 := Es_e30.wr W35
  have Fb_e35 := Fb_e30.other W35 (Or.inl neB)
  have Fc_e35 := Fc_e30.other W35 (Or.inl neB)
  have Fw30_e35 := Fw30.other W35 (Or.inl neB)
  have Fu_e35 := Fu_e30.other W35 (Or.inl neB)
  have hL_e35 := hL_e30.other W35 (Ne.symm neBL)
  have A28x_e35 := A28x_e30.wr W35
  have Ll29_e35 := Ll29_e30.other W35 (Ne.symm ne_B_Ln)
  have V35 : Arv Z h35 B kB (.array .int) (8 : Int32) [(.ref L1), (.ref Ln), .null, .null, .null, .null, .null, .null] .null := Arv.set Ar34 qa34 Sa34 Na34 Ha34 Ga34 rfl W35 1 rfl (Nat.le_of_ble_eq_true rfl)
  refine own_to (fun t k => st35 t k) ?_
  show own_Fin _ _ _ _ _ _ (T35.setTop (mkF m 78 #[.val (.ref o), .val (.int (32 : Int32))] []))
  refine own_to (fun t k => XS.aloadN X35.here hx rfl (hb hby own_d6_78) rfl rfl k) ?_
  show own_Fin _ _ _ _ _ _ (T35.setTop (mkF m 79 #[.val (.ref o), .val (.int (32 : Int32))] [(.ref o)]))
  refine own_to (fun t k => XS.dup X35.here hx rfl (hb hby own_d6_79) rfl rfl k) ?_
  show own_Fin _ _ _ _ _ _ (T35.setTop (mkF m 80 #[.val (.ref o), .val (.int (32 : Int32))] [(.ref o), (.ref o)]))
  obtain ⟨T36, X36, e36, st36⟩ := getF X35 hx hZ hown (host := "") (Or.inl (hw _ (List.mem_of_getElem? (i := 23) rfl))) Via.refl e35 Fc_e35 (g := (mkF m 80 #[.val (.ref o), .val (.int (32 : Int32))] [(.ref o), (.ref o)])) rfl rfl (hb hby own_d6_80)
  refine own_to (fun t k => st36 t k) ?_
  show own_Fin _ _ _ _ _ _ (T36.setTop (mkF m 83 #[.val (.ref o), .val (.int (32 : Int32))] [(.int (1 : Int32)), (.ref o)]))
  refine own_to (fun t k => XS.iconst X36.here hx rfl (hb hby own_d6_83) k) ?_
  show own_Fin _ _ _ _ _ _ (T36.setTop (mkF m 84 #[.val (.ref o), .val (.int (32 : Int32))] [(.int (1 : Int32)), (.int (1 : Int32)), (.ref o)]))
  refine own_to (fun t k => XS.iadd X36.here hx rfl (hb hby own_d6_84) rfl k) ?_
  show own_Fin _ _ _ _ _ _ (T36.setTop (mkF m 85 #[.val (.ref o), .val (.int (32 : Int32))] [(.int ((1 : Int32) + (1 : Int32))), (.ref o)]))
  obtain ⟨T37, h37, X37, e37, W37, st37⟩ := putF X36 hx hZ hown (host := "") (Or.inl (hw _ (List.mem_of_getElem? (i := 23) rfl))) Via.refl e36 Fc_e35 Es_e35 (Or.inl (hw _ (List.mem_of_getElem? (i := 24) rfl))) (hw _ (List.mem_of_getElem? (i := 2) rfl)) (ty := .int) (by decide) rfl rfl (g := (mkF m 85 #[.val (.ref o), .val (.int (32 : Int32))] [(.int ((1 : Int32) + (1 : Int32))), (.ref o)])) rfl rfl (hb hby own_d6_85)
  have Fw37 := Fc_e35.same W37
  have N37 := Fr.snoc X37 N35 g_o
  have KK37 : Keep h0 h37 [o, B] := KK35.wr W37 (Or.inl (List.mem_of_getElem? (i := 0) rfl))
  have Es_e37 := Es_e35.wr W37
  have Fb_e37 := Fb_e35.other W37 (Or.inr (slot_ne (Or.inl (hw _ (List.mem_of_getElem? (i := 13) rfl))) (Or.inl (hw _ (List.mem_of_getElem? (i := 24) rfl))) (by decide) (t := (.array (.array .int))) (t' := .int) (by decide) (by decide)))
  have Fw30_e37 := Fw30_e35.other W37 (Or.inr (slot_ne (Or.inl (hw _ (List.mem_of_getElem? (i := 31) rfl))) (Or.inl (hw _ (List.mem_of_getElem? (i := 24) rfl))) (by decide) (t := (.array .int)) (t' := .int) (by decide) (by decide)))
  have Fu_e37 := Fu_e35.other W37 (Or.inr (slot_ne (Or.inl (hw _ (List.mem_of_getElem? (i := 39) rfl))) (Or.inl (hw _ (List.mem_of_getElem? (i := 24) rfl))) (by decide) (t := .int) (t' := .int) (by decide) (by decide)))
  have hL_e37 := hL_e35.other W37 (Ne.symm neL)
  have A28x_e37 := A28x_e35.wr W37
  have Ll29_e37 := Ll29_e35.other W37 (Ne.symm ne_o_Ln)
  have V35_e37 := V35.other W37 (Ne.symm neB)
  refine own_to (fun t k => st37 t k) ?_
  show own_Fin _ _ _ _ _ _ (T37.setTop (mkF m 88 #[.val (.ref o), .val (.int (32 : Int32))] []))
  refine own_to (fun t k => XS.aloadN X37.here hx rfl (hb hby own_d6_88) rfl rfl k) ?_
  show own_Fin _ _ _ _ _ _ (T37.setTop (mkF m 89 #[.val (.ref o), .val (.int (32 : Int32))] [(.ref o)]))
  refine own_to (fun t k => XS.iconst X37.here hx rfl (hb hby own_d6_89) k) ?_
  show own_Fin _ _ _ _ _ _ (T37.setTop (mkF m 90 #[.val (.ref o), .val (.int (32 : Int32))] [(.int (0 : Int32)), (.ref o)]))
  obtain ⟨T38, h38, X38, e38, W38, st38⟩ := putF X37 hx hZ hown (host := "") (Or.inl (hw _ (List.mem_of_getElem? (i := 38) rfl))) Via.refl e37 Fu_e37 Es_e37 (Or.inl (hw _ (List.mem_of_getElem? (i := 39) rfl))) (hw _ (List.mem_of_getElem? (i := 2) rfl)) (ty := .int) (by decide) rfl rfl (g := (mkF m 90 #[.val (.ref o), .val (.int (32 : Int32))] [(.int (0 : Int32)), (.ref o)])) rfl rfl (hb hby own_d6_90)
  have Fw38 := Fu_e37.same W38
  have N38 := Fr.snoc X38 N37 g_o
  have KK38 : Keep h0 h38 [o, B] := KK37.wr W38 (Or.inl (List.mem_of_getElem? (i := 0) rfl))
  have Es_e38 := Es_e37.wr W38
  have Fb_e38 := Fb_e37.other W38 (Or.inr (slot_ne (Or.inl (hw _ (List.mem_of_getElem? (i := 13) rfl))) (Or.inl (hw _ (List.mem_of_getElem? (i := 39) rfl))) (by decide) (t := (.array (.array .int))) (t' := .int) (by decide) (by decide)))
  have Fw37_e38 := Fw37.other W38 (Or.inr (slot_ne (Or.inl (hw _ (List.mem_of_getElem? (i := 24) rfl))) (Or.inl (hw _ (List.mem_of_getElem? (i := 39) rfl))) (by decide) (t := .int) (t' := .int) (by decide) (by decide)))
  have Fw30_e38 := Fw30_e37.other W38 (Or.inr (slot_ne (Or.inl (hw _ (List.mem_of_getElem? (i := 31) rfl))) (Or.inl (hw _ (List.mem_of_getElem? (i := 39) rfl))) (by decide) (t := (.array .int)) (t' := .int) (by decide) (by decide)))
  have hL_e38 := hL_e37.other W38 (Ne.symm neL)
  have A28x_e38 := A28x_e37.wr W38
  have Ll29_e38 := Ll29_e37.other W38 (Ne.symm ne_o_Ln)
  have V35_e38 := V35_e37.other W38 (Ne.symm neB)
  refine own_to (fun t k => st38 t k) ?_
  show own_Fin _ _ _ _ _ _ (T38.setTop (mkF m 93 #[.val (.ref o), .val (.int (32 : Int32))] []))
  refine own_retV X38 hx hlk hret (hb hby own_d6_93) (by decide) (by decide) ?_
  try rw [e38]
  have Fi39 : Fld Z h38 o "com/example/walk_to_worth/walktoworth/graph/IntSequence" "blockCount" "I" (.int (2 : Int32)) := by rw [← show ((1 : Int32) + (1 : Int32)) = (2 : Int32) from by decide]; exact Fw37_e38
  exact ⟨Ln, rfl, N38, KK38, g_Ln, sz_Ln, ⟨Es_e38, Fb_e38, Fi39, Fw30_e38, Fw38, V35_e38⟩, A28x_e38, Ll29_e38⟩
theorem own_d5_0 : decode prog_7_method_2_code 0 = .ok (.aload_n 0, 1) := by decide +kernel
theorem own_d5_1 : decode prog_7_method_2_code 1 = .ok (.getfield 15, 3) := by decide +kernel
theorem own_d5_4 : decode prog_7_method_2_code 4 = .ok (.ifnull 15, 3) := by decide +kernel
theorem own_d5_7 : decode prog_7_method_2_code 7 = .ok (.aload_n 0, 1) := by decide +kernel
theorem own_d5_8 : decode prog_7_method_2_code 8 = .ok (.getfield 18, 3) := by decide +kernel
theorem own_d5_11 : decode prog_7_method_2_code 11 = .ok (.aload_n 0, 1) := by decide +kernel
theorem own_d5_12 : decode prog_7_method_2_code 12 = .ok (.getfield 15, 3) := by decide +kernel
theorem own_d5_15 : decode prog_7_method_2_code 15 = .ok (.arraylength, 1) := by decide +kernel
theorem own_d5_16 : decode prog_7_method_2_code 16 = .ok (.if_icmp .ne 7, 3) := by decide +kernel
theorem own_d5_19 : decode prog_7_method_2_code 19 = .ok (.aload_n 0, 1) := by decide +kernel
theorem own_d5_20 : decode prog_7_method_2_code 20 = .ok (.invokevirtual 22, 3) := by decide +kernel
theorem own_d5_23 : decode prog_7_method_2_code 23 = .ok (.aload_n 0, 1) := by decide +kernel
theorem own_d5_24 : decode prog_7_method_2_code 24 = .ok (.getfield 15, 3) := by decide +kernel
theorem own_d5_27 : decode prog_7_method_2_code 27 = .ok (.aload_n 0, 1) := by decide +kernel
theorem own_d5_28 : decode prog_7_method_2_code 28 = .ok (.getfield 18, 3) := by decide +kernel
theorem own_d5_31 : decode prog_7_method_2_code 31 = .ok (.iload_n 1, 1) := by decide +kernel
theorem own_d5_32 : decode prog_7_method_2_code 32 = .ok (.iastore, 1) := by decide +kernel
theorem own_d5_33 : decode prog_7_method_2_code 33 = .ok (.aload_n 0, 1) := by decide +kernel
theorem own_d5_34 : decode prog_7_method_2_code 34 = .ok (.dup, 1) := by decide +kernel
theorem own_d5_35 : decode prog_7_method_2_code 35 = .ok (.getfield 18, 3) := by decide +kernel
theorem own_d5_38 : decode prog_7_method_2_code 38 = .ok (.iconst 1, 1) := by decide +kernel
theorem own_d5_39 : decode prog_7_method_2_code 39 = .ok (.iadd, 1) := by decide +kernel
theorem own_d5_40 : decode prog_7_method_2_code 40 = .ok (.putfield 18, 3) := by decide +kernel
theorem own_d5_43 : decode prog_7_method_2_code 43 = .ok (.return_, 1) := by decide +kernel
theorem own_addA_ef (m : MethodId) (o : Addr) (p1 : Int32) : entryFrame m #[(.ref o), (.int p1)] 2 = mkF m 0 #[.val (.ref o), .val (.int p1)] [] := by first | (simp [entryFrame, mkF, argsToLocals, Value.category]; done) | rfl
set_option maxRecDepth 65536 in
set_option maxHeartbeats 40000000 in
theorem own_addA (l : Launch) (Z : State) (a0 : Array Value) (hw : ∀ d ∈ tables_1, d.before a0 Z = true) (ws : List Jvm.Cond) (o : Addr) (B : Addr) (kB : ClassId) (p1 : Int32) (h0 : Heap) (n0 : Nat) (Z0 : n0 ≤ h0.size) (g_o : n0 ≤ o) (g_B : n0 ≤ B) (neB : o ≠ B) (hO : OvrA Z kB .int "[I") (hS : own_Seq Z h0 o B kB (0 : Int32) .null (0 : Int32) [.null, .null, .null, .null, .null, .null, .null, .null]) :
    own_Met l Z (⟨"com/example/walk_to_worth/walktoworth/graph/IntSequence", "add", "(I)V"⟩ : MethodName) prog_7_method_2_code 2 none ws ({ frames := 1, cells := 1, slots := 16, locals := 16 } : Room) #[(.ref o), (.int p1)] h0 (fun v h L => ∃ Ln, v = none ∧ Fr n0 L ∧ Keep h0 h [o, B] ∧ n0 ≤ Ln ∧ h0.size ≤ Ln ∧ own_Seq Z h o B kB (1 : Int32) (.ref Ln) (1 : Int32) [(.ref Ln), .null, .null, .null, .null, .null, .null, .null] ∧ Exa Z h Ln "[I" ∧ own_Len Z h Ln (16 : Int32)) := by
  refine own_enter (plainFor_of_name own_pn0) ?_
  intro p e s m below meth c s₁ X0 hx hZ hby hml hown hnm hret hlk e0
  have N0 := Fr.nil n0
  rw [own_addA_ef m o p1]
  have KK0 : Keep h0 h0 [o, B] := Keep.refl _ _
  obtain ⟨Es, Fb, Fc, Fl, Fu, Vb⟩ := hS
  show own_Fin _ _ _ _ _ _ (s₁.setTop (mkF m 0 #[.val (.ref o), .val (.int p1)] []))
  refine own_to (fun t k => XS.aloadN X0.here hx rfl (hb hby own_d5_0) rfl rfl k) ?_
  show own_Fin _ _ _ _ _ _ (s₁.setTop (mkF m 1 #[.val (.ref o), .val (.int p1)] [(.ref o)]))
  obtain ⟨T40, X40, e40, st40⟩ := getF X0 hx hZ hown (host := "") (Or.inl (hw _ (List.mem_of_getElem? (i := 30) rfl))) Via.refl e0 Fl (g := (mkF m 1 #[.val (.ref o), .val (.int p1)] [(.ref o)])) rfl rfl (hb hby own_d5_1)
  refine own_to (fun t k => st40 t k) ?_
  show own_Fin _ _ _ _ _ _ (T40.setTop (mkF m 4 #[.val (.ref o), .val (.int p1)] [.null]))
  refine own_to (fun t k => XS.ifnullYes X40.here hx rfl (pc0 := 4) (pc' := 19) rfl (hb hby own_d5_4) rfl (by decide) (by decide) k) ?_
  show own_Fin _ _ _ _ _ _ (T40.setTop (mkF m 19 #[.val (.ref o), .val (.int p1)] []))
  refine own_to (fun t k => XS.aloadN X40.here hx rfl (hb hby own_d5_19) rfl rfl k) ?_
  show own_Fin _ _ _ _ _ _ (T40.setTop (mkF m 20 #[.val (.ref o), .val (.int p1)] [(.ref o)]))
  obtain ⟨cq41, cqa41, cqb41⟩ := Es.cell
  obtain ⟨_, _, ⟨T41, L41, k41, n41⟩, -, X41, ⟨Lc41, hQ41, l41, y41, z41⟩, st41⟩ := X40.privateBack hx (y := (⟨"com/example/walk_to_worth/walktoworth/graph/IntSequence", "addBlock", "()V"⟩ : MethodName)) hown (mvT hZ (hw _ (List.mem_of_getElem? (i := 32) rfl))) (mvT hZ (hw _ (List.mem_of_getElem? (i := 33) rfl))) (own_selP (y' := (⟨"com/example/walk_to_worth/walktoworth/graph/IntSequence", "blockCount", "()I"⟩ : MethodName)) (mvT hZ (hw _ (List.mem_of_getElem? (i := 21) rfl))) rfl (Cond.privateMethod_at (mvP hZ (hw _ (List.mem_of_getElem? (i := 34) rfl)) (args := #[]))) (mvT hZ (hw _ (List.mem_of_getElem? (i := 33) rfl))) (by decide)) (Cond.privateMethod_at (mvP hZ (hw _ (List.mem_of_getElem? (i := 34) rfl)) (args := #[]))) (mvT hZ (hw _ (List.mem_of_getElem? (i := 35) rfl))) (by decide) (own_back (W := 0) (own_abA l Z a0 hw [] o B kB h0 n0 Z0 g_o g_B neB hO ⟨Es, Fb, Fc, Fl, Fu, Vb⟩) hZ (hw _ (List.mem_of_getElem? (i := 35) rfl)) (hw _ (List.mem_of_getElem? (i := 3) rfl)) (by decide) (by decide)) (g := (mkF m 20 #[.val (.ref o), .val (.int p1)] [(.ref o)])) rfl (by rw [hml]; rfl) (Steps.refl _) (a := o) (by rw [e40]; exact cqa41) cqb41 (argsL := []) (rest := []) (lenOf own_pd0 rfl) rfl (by show 2 * 0 + _ ≤ _; exact Nat.le_of_eq rfl) (hb hby own_d5_20) (fun _ _ => ⟨rfl, e40, (by decide : 0 + 1 ≤ _), (by decide : 0 + 16 ≤ _)⟩)
  dsimp only [Pt.U, Pt.locs, Pt.cells, Pt.slots] at X41 l41 y41 z41 st41 hQ41
  subst l41 y41 z41
  obtain ⟨Ln, rfl, N41q, K41, g_Ln, szx_Ln, hS2, E_Ln, L_Ln⟩ := hQ41
  have N41 := Fr.app N0 N41q
  have ne_o_Ln : o ≠ Ln := Nat.ne_of_lt (Nat.lt_of_lt_of_le Es.lt szx_Ln)
  have ne_B_Ln : B ≠ Ln := Nat.ne_of_lt (Nat.lt_of_lt_of_le Vb.lt szx_Ln)
  have sz_Ln : h0.size ≤ Ln := Nat.le_trans KK0.1 szx_Ln
  have KK41 : Keep h0 T41.heap [o, B] := KK0.trans K41 (allS (Or.inl (List.mem_of_getElem? (i := 0) rfl)) (allS (Or.inl (List.mem_of_getElem? (i := 1) rfl)) all0))
  have Es_e41 := Es.keep K41
  refine own_to (fun t k => st41.trans k) ?_
  show own_Fin _ _ _ _ _ _ (T41.setTop (mkF m 23 #[.val (.ref o), .val (.int p1)] []))
  obtain ⟨Es, Fb, Fc, Fl, Fu, Vb⟩ := hS2
  refine own_to (fun t k => XS.aloadN X41.here hx rfl (hb hby own_d5_23) rfl rfl k) ?_
  show own_Fin _ _ _ _ _ _ (T41.setTop (mkF m 24 #[.val (.ref o), .val (.int p1)] [(.ref o)]))
  obtain ⟨T42, X42, e42, st42⟩ := getF X41 hx hZ hown (host := "") (Or.inl (hw _ (List.mem_of_getElem? (i := 30) rfl))) Via.refl rfl Fl (g := (mkF m 24 #[.val (.ref o), .val (.int p1)] [(.ref o)])) rfl rfl (hb hby own_d5_24)
  refine own_to (fun t k => st42 t k) ?_
  show own_Fin _ _ _ _ _ _ (T42.setTop (mkF m 27 #[.val (.ref o), .val (.int p1)] [(.ref Ln)]))
  refine own_to (fun t k => XS.aloadN X42.here hx rfl (hb hby own_d5_27) rfl rfl k) ?_
  show own_Fin _ _ _ _ _ _ (T42.setTop (mkF m 28 #[.val (.ref o), .val (.int p1)] [(.ref o), (.ref Ln)]))
  obtain ⟨T43, X43, e43, st43⟩ := getF X42 hx hZ hown (host := "") (Or.inl (hw _ (List.mem_of_getElem? (i := 38) rfl))) Via.refl e42 Fu (g := (mkF m 28 #[.val (.ref o), .val (.int p1)] [(.ref o), (.ref Ln)])) rfl rfl (hb hby own_d5_28)
  refine own_to (fun t k => st43 t k) ?_
  show own_Fin _ _ _ _ _ _ (T43.setTop (mkF m 31 #[.val (.ref o), .val (.int p1)] [(.int (0 : Int32)), (.ref Ln)]))
  refine own_to (fun t k => XS.iloadN X43.here hx rfl (hb hby own_d5_31) rfl k) ?_
  show own_Fin _ _ _ _ _ _ (T43.setTop (mkF m 32 #[.val (.ref o), .val (.int p1)] [(.int p1), (.int (0 : Int32)), (.ref Ln)]))
  obtain ⟨cl44, Ar44, Sa44, Na44⟩ := id L_Ln
  have hin44 : ¬ ((0 : Int32) < 0 ∨ cl44.slots.size ≤ ((0 : Int32)).toNatClampNeg) := inb_of Sa44 ⟨by decide, by decide⟩
  obtain ⟨T44, h44, X44, e44, W44, st44⟩ := stI X43 hx hZ e43 Ar44 (j := (0 : Int32)) hin44 (g := (mkF m 32 #[.val (.ref o), .val (.int p1)] [(.int p1), (.int (0 : Int32)), (.ref Ln)])) rfl rfl (hb hby own_d5_32)
  have N44 := Fr.snoc X44 N41 g_Ln
  have KK44 : Keep h0 h44 [o, B] := KK41.wr W44 (Or.inr sz_Ln)
  have Es_e44 := Es.wr W44
  have Fb_e44 := Fb.other W44 (Or.inl ne_o_Ln)
  have Fc_e44 := Fc.other W44 (Or.inl ne_o_Ln)
  have Fl_e44 := Fl.other W44 (Or.inl ne_o_Ln)
  have Fu_e44 := Fu.other W44 (Or.inl ne_o_Ln)
  have Vb_e44 := Vb.other W44 ne_B_Ln
  have E_Ln_e44 := E_Ln.wr W44
  have L_Ln_e44 := L_Ln.same W44
  refine own_to (fun t k => st44 t k) ?_
  show own_Fin _ _ _ _ _ _ (T44.setTop (mkF m 33 #[.val (.ref o), .val (.int p1)] []))
  refine own_to (fun t k => XS.aloadN X44.here hx rfl (hb hby own_d5_33) rfl rfl k) ?_
  show own_Fin _ _ _ _ _ _ (T44.setTop (mkF m 34 #[.val (.ref o), .val (.int p1)] [(.ref o)]))
  refine own_to (fun t k => XS.dup X44.here hx rfl (hb hby own_d5_34) rfl rfl k) ?_
  show own_Fin _ _ _ _ _ _ (T44.setTop (mkF m 35 #[.val (.ref o), .val (.int p1)] [(.ref o), (.ref o)]))
  obtain ⟨T45, X45, e45, st45⟩ := getF X44 hx hZ hown (host := "") (Or.inl (hw _ (List.mem_of_getElem? (i := 38) rfl))) Via.refl e44 Fu_e44 (g := (mkF m 35 #[.val (.ref o), .val (.int p1)] [(.ref o), (.ref o)])) rfl rfl (hb hby own_d5_35)
  refine own_to (fun t k => st45 t k) ?_
  show own_Fin _ _ _ _ _ _ (T45.setTop (mkF m 38 #[.val (.ref o), .val (.int p1)] [(.int (0 : Int32)), (.ref o)]))
  refine own_to (fun t k => XS.iconst X45.here hx rfl (hb hby own_d5_38) k) ?_
  show own_Fin _ _ _ _ _ _ (T45.setTop (mkF m 39 #[.val (.ref o), .val (.int p1)] [(.int (1 : Int32)), (.int (0 : Int32)), (.ref o)]))
  refine own_to (fun t k => XS.iadd X45.here hx rfl (hb hby own_d5_39) rfl k) ?_
  show own_Fin _ _ _ _ _ _ (T45.setTop (mkF m 40 #[.val (.ref o), .val (.int p1)] [(.int ((0 : Int32) + (1 : Int32))), (.ref o)]))
  obtain ⟨T46, h46, X46, e46, W46, st46⟩ := putF X45 hx hZ hown (host := "") (Or.inl (hw _ (List.mem_of_getElem? (i := 38) rfl))) Via.refl e45 Fu_e44 Es_e44 (Or.inl (hw _ (List.mem_of_getElem? (i := 39) rfl))) (hw _ (List.mem_of_getElem? (i := 2) rfl)) (ty := .int) (by decide) rfl rfl (g := (mkF m 40 #[.val (.ref o), .val (.int p1)] [(.int ((0 : Int32) + (1 : Int32))), (.ref o)])) rfl rfl (hb hby own_d5_40)
  have Fw46 := Fu_e44.same W46
  have N46 := Fr.snoc X46 N44 g_o
  have KK46 : Keep h0 h46 [o, B] := KK44.wr W46 (Or.inl (List.mem_of_getElem? (i := 0) rfl))
  have Es_e46 := Es_e44.wr W46
  have Fb_e46 := Fb_e44.other W46 (Or.inr (slot_ne (Or.inl (hw _ (List.mem_of_getElem? (i := 13) rfl))) (Or.inl (hw _ (List.mem_of_getElem? (i := 39) rfl))) (by decide) (t := (.array (.array .int))) (t' := .int) (by decide) (by decide)))
  have Fc_e46 := Fc_e44.other W46 (Or.inr (slot_ne (Or.inl (hw _ (List.mem_of_getElem? (i := 24) rfl))) (Or.inl (hw _ (List.mem_of_getElem? (i := 39) rfl))) (by decide) (t := .int) (t' := .int) (by decide) (by decide)))
  have Fl_e46 := Fl_e44.other W46 (Or.inr (slot_ne (Or.inl (hw _ (List.mem_of_getElem? (i := 31) rfl))) (Or.inl (hw _ (List.mem_of_getElem? (i := 39) rfl))) (by decide) (t := (.array .int)) (t' := .int) (by decide) (by decide)))
  have Vb_e46 := Vb_e44.other W46 (Ne.symm neB)
  have E_Ln_e46 := E_Ln_e44.wr W46
  have L_Ln_e46 := L_Ln_e44.other W46 (Ne.symm ne_o_Ln)
  refine own_to (fun t k => st46 t k) ?_
  show own_Fin _ _ _ _ _ _ (T46.setTop (mkF m 43 #[.val (.ref o), .val (.int p1)] []))
  refine own_retV X46 hx hlk hret (hb hby own_d5_43) (by decide) (by decide) ?_
  try rw [e46]
  have Fi47 : Fld Z h46 o "com/example/walk_to_worth/walktoworth/graph/IntSequence" "lastUsed" "I" (.int (1 : Int32)) := by rw [← show ((0 : Int32) + (1 : Int32)) = (1 : Int32) from by decide]; exact Fw46
  exact ⟨Ln, rfl, N46, KK46, g_Ln, sz_Ln, ⟨Es_e46, Fb_e46, Fc_e46, Fl_e46, Fi47, Vb_e46⟩, E_Ln_e46, L_Ln_e46⟩
theorem own_addC_ef (m : MethodId) (o : Addr) (p1 : Int32) : entryFrame m #[(.ref o), (.int p1)] 2 = mkF m 0 #[.val (.ref o), .val (.int p1)] [] := by first | (simp [entryFrame, mkF, argsToLocals, Value.category]; done) | rfl
set_option maxRecDepth 65536 in
set_option maxHeartbeats 40000000 in
theorem own_addC (l : Launch) (Z : State) (a0 : Array Value) (hw : ∀ d ∈ tables_1, d.before a0 Z = true) (ws : List Jvm.Cond) (o : Addr) (B : Addr) (kB : ClassId) (L1 : Addr) (p1 : Int32) (h0 : Heap) (n0 : Nat) (Z0 : n0 ≤ h0.size) (g_o : n0 ≤ o) (g_B : n0 ≤ B) (neB : o ≠ B) (hO : OvrA Z kB .int "[I") (hS : own_Seq Z h0 o B kB (1 : Int32) (.ref L1) (16 : Int32) [(.ref L1), .null, .null, .null, .null, .null, .null, .null]) (hL : own_Len Z h0 L1 (16 : Int32)) (neL : o ≠ L1) (neBL : B ≠ L1) :
    own_Met l Z (⟨"com/example/walk_to_worth/walktoworth/graph/IntSequence", "add", "(I)V"⟩ : MethodName) prog_7_method_2_code 2 none ws ({ frames := 2, cells := 1, slots := 32, locals := 48 } : Room) #[(.ref o), (.int p1)] h0 (fun v h L => ∃ Ln, v = none ∧ Fr n0 L ∧ Keep h0 h [o, B] ∧ n0 ≤ Ln ∧ h0.size ≤ Ln ∧ own_Seq Z h o B kB (2 : Int32) (.ref Ln) (1 : Int32) [(.ref L1), (.ref Ln), .null, .null, .null, .null, .null, .null] ∧ Exa Z h Ln "[I" ∧ own_Len Z h Ln (32 : Int32)) := by
  refine own_enter (plainFor_of_name own_pn0) ?_
  intro p e s m below meth c s₁ X0 hx hZ hby hml hown hnm hret hlk e0
  have N0 := Fr.nil n0
  rw [own_addC_ef m o p1]
  have KK0 : Keep h0 h0 [o, B] := Keep.refl _ _
  obtain ⟨Es, Fb, Fc, Fl, Fu, Vb⟩ := hS
  show own_Fin _ _ _ _ _ _ (s₁.setTop (mkF m 0 #[.val (.ref o), .val (.int p1)] []))
  refine own_to (fun t k => XS.aloadN X0.here hx rfl (hb hby own_d5_0) rfl rfl k) ?_
  show own_Fin _ _ _ _ _ _ (s₁.setTop (mkF m 1 #[.val (.ref o), .val (.int p1)] [(.ref o)]))
  obtain ⟨T48, X48, e48, st48⟩ := getF X0 hx hZ hown (host := "") (Or.inl (hw _ (List.mem_of_getElem? (i := 30) rfl))) Via.refl e0 Fl (g := (mkF m 1 #[.val (.ref o), .val (.int p1)] [(.ref o)])) rfl rfl (hb hby own_d5_1)
  refine own_to (fun t k => st48 t k) ?_
  show own_Fin _ _ _ _ _ _ (T48.setTop (mkF m 4 #[.val (.ref o), .val (.int p1)] [(.ref L1)]))
  refine own_to (fun t k => XS.ifnullNo X48.here hx rfl (hb hby own_d5_4) rfl k) ?_
  show own_Fin _ _ _ _ _ _ (T48.setTop (mkF m 7 #[.val (.ref o), .val (.int p1)] []))
  refine own_to (fun t k => XS.aloadN X48.here hx rfl (hb hby own_d5_7) rfl rfl k) ?_
  show own_Fin _ _ _ _ _ _ (T48.setTop (mkF m 8 #[.val (.ref o), .val (.int p1)] [(.ref o)]))
  obtain ⟨T49, X49, e49, st49⟩ := getF X48 hx hZ hown (host := "") (Or.inl (hw _ (List.mem_of_getElem? (i := 38) rfl))) Via.refl e48 Fu (g := (mkF m 8 #[.val (.ref o), .val (.int p1)] [(.ref o)])) rfl rfl (hb hby own_d5_8)
  refine own_to (fun t k => st49 t k) ?_
  show own_Fin _ _ _ _ _ _ (T49.setTop (mkF m 11 #[.val (.ref o), .val (.int p1)] [(.int (16 : Int32))]))
  refine own_to (fun t k => XS.aloadN X49.here hx rfl (hb hby own_d5_11) rfl rfl k) ?_
  show own_Fin _ _ _ _ _ _ (T49.setTop (mkF m 12 #[.val (.ref o), .val (.int p1)] [(.ref o), (.int (16 : Int32))]))
  obtain ⟨T50, X50, e50, st50⟩ := getF X49 hx hZ hown (host := "") (Or.inl (hw _ (List.mem_of_getElem? (i := 30) rfl))) Via.refl e49 Fl (g := (mkF m 12 #[.val (.ref o), .val (.int p1)] [(.ref o), (.int (16 : Int32))])) rfl rfl (hb hby own_d5_12)
  refine own_to (fun t k => st50 t k) ?_
  show own_Fin _ _ _ _ _ _ (T50.setTop (mkF m 15 #[.val (.ref o), .val (.int p1)] [(.ref L1), (.int (16 : Int32))]))
  obtain ⟨cl51, Ar51, Sa51, Na51⟩ := id hL
  refine own_to (fun t k => X50.arraylength hx (by rw [e50]; exact Ar51.1) (State.isArrayOf_alike hZ.alike Ar51.2.1) (g := (mkF m 15 #[.val (.ref o), .val (.int p1)] [(.ref L1), (.int (16 : Int32))])) rfl rfl (hb hby own_d5_15) _ k) ?_
  rw [len_of Sa51 Na51]
  show own_Fin _ _ _ _ _ _ (T50.setTop (mkF m 16 #[.val (.ref o), .val (.int p1)] [(.int (16 : Int32)), (.int (16 : Int32))]))
  refine own_to (fun t k => XS.icmpNo X50.here hx rfl (hb hby own_d5_16) rfl (teq rfl).2 k) ?_
  show own_Fin _ _ _ _ _ _ (T50.setTop (mkF m 19 #[.val (.ref o), .val (.int p1)] []))
  refine own_to (fun t k => XS.aloadN X50.here hx rfl (hb hby own_d5_19) rfl rfl k) ?_
  show own_Fin _ _ _ _ _ _ (T50.setTop (mkF m 20 #[.val (.ref o), .val (.int p1)] [(.ref o)]))
  obtain ⟨cq52, cqa52, cqb52⟩ := Es.cell
  obtain ⟨_, _, ⟨T52, L52, k52, n52⟩, -, X52, ⟨Lc52, hQ52, l52, y52, z52⟩, st52⟩ := X50.privateBack hx (y := (⟨"com/example/walk_to_worth/walktoworth/graph/IntSequence", "addBlock", "()V"⟩ : MethodName)) hown (mvT hZ (hw _ (List.mem_of_getElem? (i := 32) rfl))) (mvT hZ (hw _ (List.mem_of_getElem? (i := 33) rfl))) (own_selP (y' := (⟨"com/example/walk_to_worth/walktoworth/graph/IntSequence", "blockCount", "()I"⟩ : MethodName)) (mvT hZ (hw _ (List.mem_of_getElem? (i := 21) rfl))) rfl (Cond.privateMethod_at (mvP hZ (hw _ (List.mem_of_getElem? (i := 34) rfl)) (args := #[]))) (mvT hZ (hw _ (List.mem_of_getElem? (i := 33) rfl))) (by decide)) (Cond.privateMethod_at (mvP hZ (hw _ (List.mem_of_getElem? (i := 34) rfl)) (args := #[]))) (mvT hZ (hw _ (List.mem_of_getElem? (i := 35) rfl))) (by decide) (own_back (W := 0) (own_abC l Z a0 hw [] o B kB L1 h0 n0 Z0 g_o g_B neB hO ⟨Es, Fb, Fc, Fl, Fu, Vb⟩ hL neL neBL) hZ (hw _ (List.mem_of_getElem? (i := 35) rfl)) (hw _ (List.mem_of_getElem? (i := 3) rfl)) (by decide) (by decide)) (g := (mkF m 20 #[.val (.ref o), .val (.int p1)] [(.ref o)])) rfl (by rw [hml]; rfl) (Steps.refl _) (a := o) (by rw [e50]; exact cqa52) cqb52 (argsL := []) (rest := []) (lenOf own_pd0 rfl) rfl (by show 2 * 0 + _ ≤ _; exact Nat.le_of_eq rfl) (hb hby own_d5_20) (fun _ _ => ⟨rfl, e50, (by decide : 0 + 1 ≤ _), (by decide : 0 + 32 ≤ _)⟩)
  dsimp only [Pt.U, Pt.locs, Pt.cells, Pt.slots] at X52 l52 y52 z52 st52 hQ52
  subst l52 y52 z52
  obtain ⟨Ln, rfl, N52q, K52, g_Ln, szx_Ln, hS2, E_Ln, L_Ln⟩ := hQ52
  have N52 := Fr.app N0 N52q
  have ne_o_Ln : o ≠ Ln := Nat.ne_of_lt (Nat.lt_of_lt_of_le Es.lt szx_Ln)
  have ne_B_Ln : B ≠ Ln := Nat.ne_of_lt (Nat.lt_of_lt_of_le Vb.lt szx_Ln)
  have ne_L1_Ln : L1 ≠ Ln := Nat.ne_of_lt (Nat.lt_of_lt_of_le hL.lt szx_Ln)
  have sz_Ln : h0.size ≤ Ln := Nat.le_trans KK0.1 szx_Ln
  have KK52 : Keep h0 T52.heap [o, B] := KK0.trans K52 (allS (Or.inl (List.mem_of_getElem? (i := 0) rfl)) (allS (Or.inl (List.mem_of_getElem? (i := 1) rfl)) all0))
  have Es_e52 := Es.keep K52
  have hL_e52 := hL.keep K52 (ninS (Ne.symm neL) (ninS (Ne.symm neBL) nin0))
  refine own_to (fun t k => st52.trans k) ?_
  show own_Fin _ _ _ _ _ _ (T52.setTop (mkF m 23 #[.val (.ref o), .val (.int p1)] []))
  obtain ⟨Es, Fb, Fc, Fl, Fu, Vb⟩ := hS2
  refine own_to (fun t k => XS.aloadN X52.here hx rfl (hb hby own_d5_23) rfl rfl k) ?_
  show own_Fin _ _ _ _ _ _ (T52.setTop (mkF m 24 #[.val (.ref o), .val (.int p1)] [(.ref o)]))
  obtain ⟨T53, X53, e53, st53⟩ := getF X52 hx hZ hown (host := "") (Or.inl (hw _ (List.mem_of_getElem? (i := 30) rfl))) Via.refl rfl Fl (g := (mkF m 24 #[.val (.ref o), .val (.int p1)] [(.ref o)])) rfl rfl (hb hby own_d5_24)
  refine own_to (fun t k => st53 t k) ?_
  show own_Fin _ _ _ _ _ _ (T53.setTop (mkF m 27 #[.val (.ref o), .val (.int p1)] [(.ref Ln)]))
  refine own_to (fun t k => XS.aloadN X53.here hx rfl (hb hby own_d5_27) rfl rfl k) ?_
  show own_Fin _ _ _ _ _ _ (T53.setTop (mkF m 28 #[.val (.ref o), .val (.int p1)] [(.ref o), (.ref Ln)]))
  obtain ⟨T54, X54, e54, st54⟩ := getF X53 hx hZ hown (host := "") (Or.inl (hw _ (List.mem_of_getElem? (i := 38) rfl))) Via.refl e53 Fu (g := (mkF m 28 #[.val (.ref o), .val (.int p1)] [(.ref o), (.ref Ln)])) rfl rfl (hb hby own_d5_28)
  refine own_to (fun t k => st54 t k) ?_
  show own_Fin _ _ _ _ _ _ (T54.setTop (mkF m 31 #[.val (.ref o), .val (.int p1)] [(.int (0 : Int32)), (.ref Ln)]))
  refine own_to (fun t k => XS.iloadN X54.here hx rfl (hb hby own_d5_31) rfl k) ?_
  show own_Fin _ _ _ _ _ _ (T54.setTop (mkF m 32 #[.val (.ref o), .val (.int p1)] [(.int p1), (.int (0 : Int32)), (.ref Ln)]))
  obtain ⟨cl55, Ar55, Sa55, Na55⟩ := id L_Ln
  have hin55 : ¬ ((0 : Int32) < 0 ∨ cl55.slots.size ≤ ((0 : Int32)).toNatClampNeg) := inb_of Sa55 ⟨by decide, by decide⟩
  obtain ⟨T55, h55, X55, e55, W55, st55⟩ := stI X54 hx hZ e54 Ar55 (j := (0 : Int32)) hin55 (g := (mkF m 32 #[.val (.ref o), .val (.int p1)] [(.int p1), (.int (0 : Int32)), (.ref Ln)])) rfl rfl (hb hby own_d5_32)
  have N55 := Fr.snoc X55 N52 g_Ln
  have KK55 : Keep h0 h55 [o, B] := KK52.wr W55 (Or.inr sz_Ln)
  have Es_e55 := Es.wr W55
  have hL_e55 := hL_e52.other W55 ne_L1_Ln
  have Fb_e55 := Fb.other W55 (Or.inl ne_o_Ln)
  have Fc_e55 := Fc.other W55 (Or.inl ne_o_Ln)
  have Fl_e55 := Fl.other W55 (Or.inl ne_o_Ln)
  have Fu_e55 := Fu.other W55 (Or.inl ne_o_Ln)
  have Vb_e55 := Vb.other W55 ne_B_Ln
  have E_Ln_e55 := E_Ln.wr W55
  have L_Ln_e55 := L_Ln.same W55
  refine own_to (fun t k => st55 t k) ?_
  show own_Fin _ _ _ _ _ _ (T55.setTop (mkF m 33 #[.val (.ref o), .val (.int p1)] []))
  refine own_to (fun t k => XS.aloadN X55.here hx rfl (hb hby own_d5_33) rfl rfl k) ?_
  show own_Fin _ _ _ _ _ _ (T55.setTop (mkF m 34 #[.val (.ref o), .val (.int p1)] [(.ref o)]))
  refine own_to (fun t k => XS.dup X55.here hx rfl (hb hby own_d5_34) rfl rfl k) ?_
  show own_Fin _ _ _ _ _ _ (T55.setTop (mkF m 35 #[.val (.ref o), .val (.int p1)] [(.ref o), (.ref o)]))
  obtain ⟨T56, X56, e56, st56⟩ := getF X55 hx hZ hown (host := "") (Or.inl (hw _ (List.mem_of_getElem? (i := 38) rfl))) Via.refl e55 Fu_e55 (g := (mkF m 35 #[.val (.ref o), .val (.int p1)] [(.ref o), (.ref o)])) rfl rfl (hb hby own_d5_35)
  refine own_to (fun t k => st56 t k) ?_
  show own_Fin _ _ _ _ _ _ (T56.setTop (mkF m 38 #[.val (.ref o), .val (.int p1)] [(.int (0 : Int32)), (.ref o)]))
  refine own_to (fun t k => XS.iconst X56.here hx rfl (hb hby own_d5_38) k) ?_
  show own_Fin _ _ _ _ _ _ (T56.setTop (mkF m 39 #[.val (.ref o), .val (.int p1)] [(.int (1 : Int32)), (.int (0 : Int32)), (.ref o)]))
  refine own_to (fun t k => XS.iadd X56.here hx rfl (hb hby own_d5_39) rfl k) ?_
  show own_Fin _ _ _ _ _ _ (T56.setTop (mkF m 40 #[.val (.ref o), .val (.int p1)] [(.int ((0 : Int32) + (1 : Int32))), (.ref o)]))
  obtain ⟨T57, h57, X57, e57, W57, st57⟩ := putF X56 hx hZ hown (host := "") (Or.inl (hw _ (List.mem_of_getElem? (i := 38) rfl))) Via.refl e56 Fu_e55 Es_e55 (Or.inl (hw _ (List.mem_of_getElem? (i := 39) rfl))) (hw _ (List.mem_of_getElem? (i := 2) rfl)) (ty := .int) (by decide) rfl rfl (g := (mkF m 40 #[.val (.ref o), .val (.int p1)] [(.int ((0 : Int32) + (1 : Int32))), (.ref o)])) rfl rfl (hb hby own_d5_40)
  have Fw57 := Fu_e55.same W57
  have N57 := Fr.snoc X57 N55 g_o
  have KK57 : Keep h0 h57 [o, B] := KK55.wr W57 (Or.inl (List.mem_of_getElem? (i := 0) rfl))
  have Es_e57 := Es_e55.wr W57
  have hL_e57 := hL_e55.other W57 (Ne.symm neL)
  have Fb_e57 := Fb_e55.other W57 (Or.inr (slot_ne (Or.inl (hw _ (List.mem_of_getElem? (i := 13) rfl))) (Or.inl (hw _ (List.mem_of_getElem? (i := 39) rfl))) (by decide) (t := (.array (.array .int))) (t' := .int) (by decide) (by decide)))
  have Fc_e57 := Fc_e55.other W57 (Or.inr (slot_ne (Or.inl (hw _ (List.mem_of_getElem? (i := 24) rfl))) (Or.inl (hw _ (List.mem_of_getElem? (i := 39) rfl))) (by decide) (t := .int) (t' := .int) (by decide) (by decide)))
  have Fl_e57 := Fl_e55.other W57 (Or.inr (slot_ne (Or.inl (hw _ (List.mem_of_getElem? (i := 31) rfl))) (Or.inl (hw _ (List.mem_of_getElem? (i := 39) rfl))) (by decide) (t := (.array .int)) (t' := .int) (by decide) (by decide)))
  have Vb_e57 := Vb_e55.other W57 (Ne.symm neB)
  have E_Ln_e57 := E_Ln_e55.wr W57
  have L_Ln_e57 := L_Ln_e55.other W57 (Ne.symm ne_o_Ln)
  refine own_to (fun t k => st57 t k) ?_
  show own_Fin _ _ _ _ _ _ (T57.setTop (mkF m 43 #[.val (.ref o), .val (.int p1)] []))
  refine own_retV X57 hx hlk hret (hb hby own_d5_43) (by decide) (by decide) ?_
  try rw [e57]
  have Fi58 : Fld Z h57 o "com/example/walk_to_worth/walktoworth/graph/IntSequence" "lastUsed" "I" (.int (1 : Int32)) := by rw [← show ((0 : Int32) + (1 : Int32)) = (1 : Int32) from by decide]; exact Fw57
  exact ⟨Ln, rfl, N57, KK57, g_Ln, sz_Ln, ⟨Es_e57, Fb_e57, Fc_e57, Fl_e57, Fi58, Vb_e57⟩, E_Ln_e57, L_Ln_e57⟩
theorem own_addB_ef (m : MethodId) (o : Addr) (p1 : Int32) : entryFrame m #[(.ref o), (.int p1)] 2 = mkF m 0 #[.val (.ref o), .val (.int p1)] [] := by first | (simp [entryFrame, mkF, argsToLocals, Value.category]; done) | rfl
set_option maxRecDepth 65536 in
set_option maxHeartbeats 40000000 in
theorem own_addB (l : Launch) (Z : State) (a0 : Array Value) (hw : ∀ d ∈ tables_1, d.before a0 Z = true) (ws : List Jvm.Cond) (o : Addr) (B : Addr) (kB : ClassId) (L1 : Addr) (bc : Int32) (u : Int32) (z : Int32) (vs : List Value) (p1 : Int32) (h0 : Heap) (n0 : Nat) (Z0 : n0 ≤ h0.size) (g_o : n0 ≤ o) (g_B : n0 ≤ B) (neB : o ≠ B) (hO : OvrA Z kB .int "[I") (hS : own_Seq Z h0 o B kB bc (.ref L1) u vs) (hL : own_Len Z h0 L1 z) (neL : o ≠ L1) (neBL : B ≠ L1) (g_L1 : n0 ≤ L1) (hu0 : ¬ u < 0) (huz : u < z) (hne : ¬ u = z) :
    own_Met l Z (⟨"com/example/walk_to_worth/walktoworth/graph/IntSequence", "add", "(I)V"⟩ : MethodName) prog_7_method_2_code 2 none ws ({ frames := 0, cells := 0, slots := 0, locals := 0 } : Room) #[(.ref o), (.int p1)] h0 (fun v h L => v = none ∧ Fr n0 L ∧ Keep h0 h [o, L1] ∧ own_Seq Z h o B kB bc (.ref L1) (u + (1 : Int32)) vs ∧ own_Len Z h L1 z) := by
  refine own_enter (plainFor_of_name own_pn0) ?_
  intro p e s m below meth c s₁ X0 hx hZ hby hml hown hnm hret hlk e0
  have N0 := Fr.nil n0
  rw [own_addB_ef m o p1]
  have KK0 : Keep h0 h0 [o, L1] := Keep.refl _ _
  obtain ⟨Es, Fb, Fc, Fl, Fu, Vb⟩ := hS
  show own_Fin _ _ _ _ _ _ (s₁.setTop (mkF m 0 #[.val (.ref o), .val (.int p1)] []))
  refine own_to (fun t k => XS.aloadN X0.here hx rfl (hb hby own_d5_0) rfl rfl k) ?_
  show own_Fin _ _ _ _ _ _ (s₁.setTop (mkF m 1 #[.val (.ref o), .val (.int p1)] [(.ref o)]))
  obtain ⟨T59, X59, e59, st59⟩ := getF X0 hx hZ hown (host := "") (Or.inl (hw _ (List.mem_of_getElem? (i := 30) rfl))) Via.refl e0 Fl (g := (mkF m 1 #[.val (.ref o), .val (.int p1)] [(.ref o)])) rfl rfl (hb hby own_d5_1)
  refine own_to (fun t k => st59 t k) ?_
  show own_Fin _ _ _ _ _ _ (T59.setTop (mkF m 4 #[.val (.ref o), .val (.int p1)] [(.ref L1)]))
  refine own_to (fun t k => XS.ifnullNo X59.here hx rfl (hb hby own_d5_4) rfl k) ?_
  show own_Fin _ _ _ _ _ _ (T59.setTop (mkF m 7 #[.val (.ref o), .val (.int p1)] []))
  refine own_to (fun t k => XS.aloadN X59.here hx rfl (hb hby own_d5_7) rfl rfl k) ?_
  show own_Fin _ _ _ _ _ _ (T59.setTop (mkF m 8 #[.val (.ref o), .val (.int p1)] [(.ref o)]))
  obtain ⟨T60, X60, e60, st60⟩ := getF X59 hx hZ hown (host := "") (Or.inl (hw _ (List.mem_of_getElem? (i := 38) rfl))) Via.refl e59 Fu (g := (mkF m 8 #[.val (.ref o), .val (.int p1)] [(.ref o)])) rfl rfl (hb hby own_d5_8)
  refine own_to (fun t k => st60 t k) ?_
  show own_Fin _ _ _ _ _ _ (T60.setTop (mkF m 11 #[.val (.ref o), .val (.int p1)] [(.int u)]))
  refine own_to (fun t k => XS.aloadN X60.here hx rfl (hb hby own_d5_11) rfl rfl k) ?_
  show own_Fin _ _ _ _ _ _ (T60.setTop (mkF m 12 #[.val (.ref o), .val (.int p1)] [(.ref o), (.int u)]))
  obtain ⟨T61, X61, e61, st61⟩ := getF X60 hx hZ hown (host := "") (Or.inl (hw _ (List.mem_of_getElem? (i := 30) rfl))) Via.refl e60 Fl (g := (mkF m 12 #[.val (.ref o), .val (.int p1)] [(.ref o), (.int u)])) rfl rfl (hb hby own_d5_12)
  refine own_to (fun t k => st61 t k) ?_
  show own_Fin _ _ _ _ _ _ (T61.setTop (mkF m 15 #[.val (.ref o), .val (.int p1)] [(.ref L1), (.int u)]))
  obtain ⟨cl62, Ar62, Sa62, Na62⟩ := id hL
  refine own_to (fun t k => X61.arraylength hx (by rw [e61]; exact Ar62.1) (State.isArrayOf_alike hZ.alike Ar62.2.1) (g := (mkF m 15 #[.val (.ref o), .val (.int p1)] [(.ref L1), (.int u)])) rfl rfl (hb hby own_d5_15) _ k) ?_
  rw [len_of Sa62 Na62]
  show own_Fin _ _ _ _ _ _ (T61.setTop (mkF m 16 #[.val (.ref o), .val (.int p1)] [(.int z), (.int u)]))
  refine own_to (fun t k => XS.icmpYes X61.here hx rfl (pc0 := 16) (pc' := 23) rfl (hb hby own_d5_16) rfl (feq hne).2 (by decide) (by decide) k) ?_
  show own_Fin _ _ _ _ _ _ (T61.setTop (mkF m 23 #[.val (.ref o), .val (.int p1)] []))
  refine own_to (fun t k => XS.aloadN X61.here hx rfl (hb hby own_d5_23) rfl rfl k) ?_
  show own_Fin _ _ _ _ _ _ (T61.setTop (mkF m 24 #[.val (.ref o), .val (.int p1)] [(.ref o)]))
  obtain ⟨T63, X63, e63, st63⟩ := getF X61 hx hZ hown (host := "") (Or.inl (hw _ (List.mem_of_getElem? (i := 30) rfl))) Via.refl e61 Fl (g := (mkF m 24 #[.val (.ref o), .val (.int p1)] [(.ref o)])) rfl rfl (hb hby own_d5_24)
  refine own_to (fun t k => st63 t k) ?_
  show own_Fin _ _ _ _ _ _ (T63.setTop (mkF m 27 #[.val (.ref o), .val (.int p1)] [(.ref L1)]))
  refine own_to (fun t k => XS.aloadN X63.here hx rfl (hb hby own_d5_27) rfl rfl k) ?_
  show own_Fin _ _ _ _ _ _ (T63.setTop (mkF m 28 #[.val (.ref o), .val (.int p1)] [(.ref o), (.ref L1)]))
  obtain ⟨T64, X64, e64, st64⟩ := getF X63 hx hZ hown (host := "") (Or.inl (hw _ (List.mem_of_getElem? (i := 38) rfl))) Via.refl e63 Fu (g := (mkF m 28 #[.val (.ref o), .val (.int p1)] [(.ref o), (.ref L1)])) rfl rfl (hb hby own_d5_28)
  refine own_to (fun t k => st64 t k) ?_
  show own_Fin _ _ _ _ _ _ (T64.setTop (mkF m 31 #[.val (.ref o), .val (.int p1)] [(.int u), (.ref L1)]))
  refine own_to (fun t k => XS.iloadN X64.here hx rfl (hb hby own_d5_31) rfl k) ?_
  show own_Fin _ _ _ _ _ _ (T64.setTop (mkF m 32 #[.val (.ref o), .val (.int p1)] [(.int p1), (.int u), (.ref L1)]))
  obtain ⟨cl65, Ar65, Sa65, Na65⟩ := id hL
  have hin65 : ¬ (u < 0 ∨ cl65.slots.size ≤ (u).toNatClampNeg) := inb_of Sa65 ⟨hu0, huz⟩
  obtain ⟨T65, h65, X65, e65, W65, st65⟩ := stI X64 hx hZ e64 Ar65 (j := u) hin65 (g := (mkF m 32 #[.val (.ref o), .val (.int p1)] [(.int p1), (.int u), (.ref L1)])) rfl rfl (hb hby own_d5_32)
  have N65 := Fr.snoc X65 N0 g_L1
  have KK65 : Keep h0 h65 [o, L1] := KK0.wr W65 (Or.inl (List.mem_of_getElem? (i := 1) rfl))
  have Es_e65 := Es.wr W65
  have Fb_e65 := Fb.other W65 (Or.inl neL)
  have Fc_e65 := Fc.other W65 (Or.inl neL)
  have Fl_e65 := Fl.other W65 (Or.inl neL)
  have Fu_e65 := Fu.other W65 (Or.inl neL)
  have Vb_e65 := Vb.other W65 neBL
  have hL_e65 := hL.same W65
  refine own_to (fun t k => st65 t k) ?_
  show own_Fin _ _ _ _ _ _ (T65.setTop (mkF m 33 #[.val (.ref o), .val (.int p1)] []))
  refine own_to (fun t k => XS.aloadN X65.here hx rfl (hb hby own_d5_33) rfl rfl k) ?_
  show own_Fin _ _ _ _ _ _ (T65.setTop (mkF m 34 #[.val (.ref o), .val (.int p1)] [(.ref o)]))
  refine own_to (fun t k => XS.dup X65.here hx rfl (hb hby own_d5_34) rfl rfl k) ?_
  show own_Fin _ _ _ _ _ _ (T65.setTop (mkF m 35 #[.val (.ref o), .val (.int p1)] [(.ref o), (.ref o)]))
  obtain ⟨T66, X66, e66, st66⟩ := getF X65 hx hZ hown (host := "") (Or.inl (hw _ (List.mem_of_getElem? (i := 38) rfl))) Via.refl e65 Fu_e65 (g := (mkF m 35 #[.val (.ref o), .val (.int p1)] [(.ref o), (.ref o)])) rfl rfl (hb hby own_d5_35)
  refine own_to (fun t k => st66 t k) ?_
  show own_Fin _ _ _ _ _ _ (T66.setTop (mkF m 38 #[.val (.ref o), .val (.int p1)] [(.int u), (.ref o)]))
  refine own_to (fun t k => XS.iconst X66.here hx rfl (hb hby own_d5_38) k) ?_
  show own_Fin _ _ _ _ _ _ (T66.setTop (mkF m 39 #[.val (.ref o), .val (.int p1)] [(.int (1 : Int32)), (.int u), (.ref o)]))
  refine own_to (fun t k => XS.iadd X66.here hx rfl (hb hby own_d5_39) rfl k) ?_
  show own_Fin _ _ _ _ _ _ (T66.setTop (mkF m 40 #[.val (.ref o), .val (.int p1)] [(.int (u + (1 : Int32))), (.ref o)]))
  obtain ⟨T67, h67, X67, e67, W67, st67⟩ := putF X66 hx hZ hown (host := "") (Or.inl (hw _ (List.mem_of_getElem? (i := 38) rfl))) Via.refl e66 Fu_e65 Es_e65 (Or.inl (hw _ (List.mem_of_getElem? (i := 39) rfl))) (hw _ (List.mem_of_getElem? (i := 2) rfl)) (ty := .int) (by decide) rfl rfl (g := (mkF m 40 #[.val (.ref o), .val (.int p1)] [(.int (u + (1 : Int32))), (.ref o)])) rfl rfl (hb hby own_d5_40)
  have Fw67 := Fu_e65.same W67
  have N67 := Fr.snoc X67 N65 g_o
  have KK67 : Keep h0 h67 [o, L1] := KK65.wr W67 (Or.inl (List.mem_of_getElem? (i := 0) rfl))
  have Es_e67 := Es_e65.wr W67
  have Fb_e67 := Fb_e65.other W67 (Or.inr (slot_ne (Or.inl (hw _ (List.mem_of_getElem? (i := 13) rfl))) (Or.inl (hw _ (List.mem_of_getElem? (i := 39) rfl))) (by decide) (t := (.array (.array .int))) (t' := .int) (by decide) (by decide)))
  have Fc_e67 := Fc_e65.other W67 (Or.inr (slot_ne (Or.inl (hw _ (List.mem_of_getElem? (i := 24) rfl))) (Or.inl (hw _ (List.mem_of_getElem? (i := 39) rfl))) (by decide) (t := .int) (t' := .int) (by decide) (by decide)))
  have Fl_e67 := Fl_e65.other W67 (Or.inr (slot_ne (Or.inl (hw _ (List.mem_of_getElem? (i := 31) rfl))) (Or.inl (hw _ (List.mem_of_getElem? (i := 39) rfl))) (by decide) (t := (.array .int)) (t' := .int) (by decide) (by decide)))
  have Vb_e67 := Vb_e65.other W67 (Ne.symm neB)
  have hL_e67 := hL_e65.other W67 (Ne.symm neL)
  refine own_to (fun t k => st67 t k) ?_
  show own_Fin _ _ _ _ _ _ (T67.setTop (mkF m 43 #[.val (.ref o), .val (.int p1)] []))
  refine own_retV X67 hx hlk hret (hb hby own_d5_43) (by decide) (by decide) ?_
  try rw [e67]
  exact ⟨rfl, N67, KK67, ⟨Es_e67, Fb_e67, Fc_e67, Fl_e67, Fw67, Vb_e67⟩, hL_e67⟩
def own_bc (n : Int32) : Int32 := if n = 0 then 0 else if 16 < n then 2 else 1
def own_lu (n : Int32) : Int32 := if 16 < n then n - 16 else n
theorem own_is (n : Int32) (k k' : Int32) (h1 : k < n) (h2 : ¬ k' < n) (e : k'.toInt = k.toInt + 1) : n = k' := by
  rw [own_lt32] at h1 h2; exact Int32.toInt_inj.mp (by omega)
theorem own_is0 (n : Int32) (h1 : ¬ n < 0) (h2 : ¬ (0 : Int32) < n) : n = 0 := by
  rw [own_lt32] at h1 h2; exact Int32.toInt_inj.mp (by omega)
theorem own_is18 (n : Int32) (h1 : (17 : Int32) < n) (h2 : n < (19 : Int32)) : n = 18 := by
  rw [own_lt32, show (17 : Int32).toInt = 17 from by decide] at h1; rw [own_lt32, show (19 : Int32).toInt = 19 from by decide] at h2; exact Int32.toInt_inj.mp (by rw [show (18 : Int32).toInt = 18 from by decide]; omega)
theorem own_d3_0 : decode method_3_code 0 = .ok (.iload_n 1, 1) := by decide +kernel
theorem own_d3_1 : decode method_3_code 1 = .ok (.ifCond .le 8, 3) := by decide +kernel
theorem own_d3_4 : decode method_3_code 4 = .ok (.aload_n 0, 1) := by decide +kernel
theorem own_d3_5 : decode method_3_code 5 = .ok (.iload_n 2, 1) := by decide +kernel
theorem own_d3_6 : decode method_3_code 6 = .ok (.invokevirtual 31, 3) := by decide +kernel
theorem own_d3_9 : decode method_3_code 9 = .ok (.iload_n 1, 1) := by decide +kernel
theorem own_d3_10 : decode method_3_code 10 = .ok (.iconst 1, 1) := by decide +kernel
theorem own_d3_11 : decode method_3_code 11 = .ok (.if_icmp .le 10, 3) := by decide +kernel
theorem own_d3_14 : decode method_3_code 14 = .ok (.aload_n 0, 1) := by decide +kernel
theorem own_d3_15 : decode method_3_code 15 = .ok (.iload_n 2, 1) := by decide +kernel
theorem own_d3_16 : decode method_3_code 16 = .ok (.iconst 1, 1) := by decide +kernel
theorem own_d3_17 : decode method_3_code 17 = .ok (.iadd, 1) := by decide +kernel
theorem own_d3_18 : decode method_3_code 18 = .ok (.invokevirtual 31, 3) := by decide +kernel
theorem own_d3_21 : decode method_3_code 21 = .ok (.iload_n 1, 1) := by decide +kernel
theorem own_d3_22 : decode method_3_code 22 = .ok (.iconst 2, 1) := by decide +kernel
theorem own_d3_23 : decode method_3_code 23 = .ok (.if_icmp .le 10, 3) := by decide +kernel
theorem own_d3_26 : decode method_3_code 26 = .ok (.aload_n 0, 1) := by decide +kernel
theorem own_d3_27 : decode method_3_code 27 = .ok (.iload_n 2, 1) := by decide +kernel
theorem own_d3_28 : decode method_3_code 28 = .ok (.iconst 2, 1) := by decide +kernel
theorem own_d3_29 : decode method_3_code 29 = .ok (.iadd, 1) := by decide +kernel
theorem own_d3_30 : decode method_3_code 30 = .ok (.invokevirtual 31, 3) := by decide +kernel
theorem own_d3_33 : decode method_3_code 33 = .ok (.iload_n 1, 1) := by decide +kernel
theorem own_d3_34 : decode method_3_code 34 = .ok (.iconst 3, 1) := by decide +kernel
theorem own_d3_35 : decode method_3_code 35 = .ok (.if_icmp .le 10, 3) := by decide +kernel
theorem own_d3_38 : decode method_3_code 38 = .ok (.aload_n 0, 1) := by decide +kernel
theorem own_d3_39 : decode method_3_code 39 = .ok (.iload_n 2, 1) := by decide +kernel
theorem own_d3_40 : decode method_3_code 40 = .ok (.iconst 3, 1) := by decide +kernel
theorem own_d3_41 : decode method_3_code 41 = .ok (.iadd, 1) := by decide +kernel
theorem own_d3_42 : decode method_3_code 42 = .ok (.invokevirtual 31, 3) := by decide +kernel
theorem own_d3_45 : decode method_3_code 45 = .ok (.iload_n 1, 1) := by decide +kernel
theorem own_d3_46 : decode method_3_code 46 = .ok (.iconst 4, 1) := by decide +kernel
theorem own_d3_47 : decode method_3_code 47 = .ok (.if_icmp .le 10, 3) := by decide +kernel
theorem own_d3_50 : decode method_3_code 50 = .ok (.aload_n 0, 1) := by decide +kernel
theorem own_d3_51 : decode method_3_code 51 = .ok (.iload_n 2, 1) := by decide +kernel
theorem own_d3_52 : decode method_3_code 52 = .ok (.iconst 4, 1) := by decide +kernel
theorem own_d3_53 : decode method_3_code 53 = .ok (.iadd, 1) := by decide +kernel
theorem own_d3_54 : decode method_3_code 54 = .ok (.invokevirtual 31, 3) := by decide +kernel
theorem own_d3_57 : decode method_3_code 57 = .ok (.iload_n 1, 1) := by decide +kernel
theorem own_d3_58 : decode method_3_code 58 = .ok (.iconst 5, 1) := by decide +kernel
theorem own_d3_59 : decode method_3_code 59 = .ok (.if_icmp .le 10, 3) := by decide +kernel
theorem own_d3_62 : decode method_3_code 62 = .ok (.aload_n 0, 1) := by decide +kernel
theorem own_d3_63 : decode method_3_code 63 = .ok (.iload_n 2, 1) := by decide +kernel
theorem own_d3_64 : decode method_3_code 64 = .ok (.iconst 5, 1) := by decide +kernel
theorem own_d3_65 : decode method_3_code 65 = .ok (.iadd, 1) := by decide +kernel
theorem own_d3_66 : decode method_3_code 66 = .ok (.invokevirtual 31, 3) := by decide +kernel
theorem own_d3_69 : decode method_3_code 69 = .ok (.iload_n 1, 1) := by decide +kernel
theorem own_d3_70 : decode method_3_code 70 = .ok (.bipush 6, 2) := by decide +kernel
theorem own_d3_72 : decode method_3_code 72 = .ok (.if_icmp .le 11, 3) := by decide +kernel
theorem own_d3_75 : decode method_3_code 75 = .ok (.aload_n 0, 1) := by decide +kernel
theorem own_d3_76 : decode method_3_code 76 = .ok (.iload_n 2, 1) := by decide +kernel
theorem own_d3_77 : decode method_3_code 77 = .ok (.bipush 6, 2) := by decide +kernel
theorem own_d3_79 : decode method_3_code 79 = .ok (.iadd, 1) := by decide +kernel
theorem own_d3_80 : decode method_3_code 80 = .ok (.invokevirtual 31, 3) := by decide +kernel
theorem own_d3_83 : decode method_3_code 83 = .ok (.iload_n 1, 1) := by decide +kernel
theorem own_d3_84 : decode method_3_code 84 = .ok (.bipush 7, 2) := by decide +kernel
theorem own_d3_86 : decode method_3_code 86 = .ok (.if_icmp .le 11, 3) := by decide +kernel
theorem own_d3_89 : decode method_3_code 89 = .ok (.aload_n 0, 1) := by decide +kernel
theorem own_d3_90 : decode method_3_code 90 = .ok (.iload_n 2, 1) := by decide +kernel
theorem own_d3_91 : decode method_3_code 91 = .ok (.bipush 7, 2) := by decide +kernel
theorem own_d3_93 : decode method_3_code 93 = .ok (.iadd, 1) := by decide +kernel
theorem own_d3_94 : decode method_3_code 94 = .ok (.invokevirtual 31, 3) := by decide +kernel
theorem own_d3_97 : decode method_3_code 97 = .ok (.iload_n 1, 1) := by decide +kernel
theorem own_d3_98 : decode method_3_code 98 = .ok (.bipush 8, 2) := by decide +kernel
theorem own_d3_100 : decode method_3_code 100 = .ok (.if_icmp .le 11, 3) := by decide +kernel
theorem own_d3_103 : decode method_3_code 103 = .ok (.aload_n 0, 1) := by decide +kernel
theorem own_d3_104 : decode method_3_code 104 = .ok (.iload_n 2, 1) := by decide +kernel
theorem own_d3_105 : decode method_3_code 105 = .ok (.bipush 8, 2) := by decide +kernel
theorem own_d3_107 : decode method_3_code 107 = .ok (.iadd, 1) := by decide +kernel
theorem own_d3_108 : decode method_3_code 108 = .ok (.invokevirtual 31, 3) := by decide +kernel
theorem own_d3_111 : decode method_3_code 111 = .ok (.iload_n 1, 1) := by decide +kernel
theorem own_d3_112 : decode method_3_code 112 = .ok (.bipush 9, 2) := by decide +kernel
theorem own_d3_114 : decode method_3_code 114 = .ok (.if_icmp .le 11, 3) := by decide +kernel
theorem own_d3_117 : decode method_3_code 117 = .ok (.aload_n 0, 1) := by decide +kernel
theorem own_d3_118 : decode method_3_code 118 = .ok (.iload_n 2, 1) := by decide +kernel
theorem own_d3_119 : decode method_3_code 119 = .ok (.bipush 9, 2) := by decide +kernel
theorem own_d3_121 : decode method_3_code 121 = .ok (.iadd, 1) := by decide +kernel
theorem own_d3_122 : decode method_3_code 122 = .ok (.invokevirtual 31, 3) := by decide +kernel
theorem own_d3_125 : decode method_3_code 125 = .ok (.iload_n 1, 1) := by decide +kernel
theorem own_d3_126 : decode method_3_code 126 = .ok (.bipush 10, 2) := by decide +kernel
theorem own_d3_128 : decode method_3_code 128 = .ok (.if_icmp .le 11, 3) := by decide +kernel
theorem own_d3_131 : decode method_3_code 131 = .ok (.aload_n 0, 1) := by decide +kernel
theorem own_d3_132 : decode method_3_code 132 = .ok (.iload_n 2, 1) := by decide +kernel
theorem own_d3_133 : decode method_3_code 133 = .ok (.bipush 10, 2) := by decide +kernel
theorem own_d3_135 : decode method_3_code 135 = .ok (.iadd, 1) := by decide +kernel
theorem own_d3_136 : decode method_3_code 136 = .ok (.invokevirtual 31, 3) := by decide +kernel
theorem own_d3_139 : decode method_3_code 139 = .ok (.iload_n 1, 1) := by decide +kernel
theorem own_d3_140 : decode method_3_code 140 = .ok (.bipush 11, 2) := by decide +kernel
theorem own_d3_142 : decode method_3_code 142 = .ok (.if_icmp .le 11, 3) := by decide +kernel
theorem own_d3_145 : decode method_3_code 145 = .ok (.aload_n 0, 1) := by decide +kernel
theorem own_d3_146 : decode method_3_code 146 = .ok (.iload_n 2, 1) := by decide +kernel
theorem own_d3_147 : decode method_3_code 147 = .ok (.bipush 11, 2) := by decide +kernel
theorem own_d3_149 : decode method_3_code 149 = .ok (.iadd, 1) := by decide +kernel
theorem own_d3_150 : decode method_3_code 150 = .ok (.invokevirtual 31, 3) := by decide +kernel
theorem own_d3_153 : decode method_3_code 153 = .ok (.iload_n 1, 1) := by decide +kernel
theorem own_d3_154 : decode method_3_code 154 = .ok (.bipush 12, 2) := by decide +kernel
theorem own_d3_156 : decode method_3_code 156 = .ok (.if_icmp .le 11, 3) := by decide +kernel
theorem own_d3_159 : decode method_3_code 159 = .ok (.aload_n 0, 1) := by decide +kernel
theorem own_d3_160 : decode method_3_code 160 = .ok (.iload_n 2, 1) := by decide +kernel
theorem own_d3_161 : decode method_3_code 161 = .ok (.bipush 12, 2) := by decide +kernel
theorem own_d3_163 : decode method_3_code 163 = .ok (.iadd, 1) := by decide +kernel
theorem own_d3_164 : decode method_3_code 164 = .ok (.invokevirtual 31, 3) := by decide +kernel
theorem own_d3_167 : decode method_3_code 167 = .ok (.iload_n 1, 1) := by decide +kernel
theorem own_d3_168 : decode method_3_code 168 = .ok (.bipush 13, 2) := by decide +kernel
theorem own_d3_170 : decode method_3_code 170 = .ok (.if_icmp .le 11, 3) := by decide +kernel
theorem own_d3_173 : decode method_3_code 173 = .ok (.aload_n 0, 1) := by decide +kernel
theorem own_d3_174 : decode method_3_code 174 = .ok (.iload_n 2, 1) := by decide +kernel
theorem own_d3_175 : decode method_3_code 175 = .ok (.bipush 13, 2) := by decide +kernel
theorem own_d3_177 : decode method_3_code 177 = .ok (.iadd, 1) := by decide +kernel
theorem own_d3_178 : decode method_3_code 178 = .ok (.invokevirtual 31, 3) := by decide +kernel
theorem own_d3_181 : decode method_3_code 181 = .ok (.iload_n 1, 1) := by decide +kernel
theorem own_d3_182 : decode method_3_code 182 = .ok (.bipush 14, 2) := by decide +kernel
theorem own_d3_184 : decode method_3_code 184 = .ok (.if_icmp .le 11, 3) := by decide +kernel
theorem own_d3_187 : decode method_3_code 187 = .ok (.aload_n 0, 1) := by decide +kernel
theorem own_d3_188 : decode method_3_code 188 = .ok (.iload_n 2, 1) := by decide +kernel
theorem own_d3_189 : decode method_3_code 189 = .ok (.bipush 14, 2) := by decide +kernel
theorem own_d3_191 : decode method_3_code 191 = .ok (.iadd, 1) := by decide +kernel
theorem own_d3_192 : decode method_3_code 192 = .ok (.invokevirtual 31, 3) := by decide +kernel
theorem own_d3_195 : decode method_3_code 195 = .ok (.iload_n 1, 1) := by decide +kernel
theorem own_d3_196 : decode method_3_code 196 = .ok (.bipush 15, 2) := by decide +kernel
theorem own_d3_198 : decode method_3_code 198 = .ok (.if_icmp .le 11, 3) := by decide +kernel
theorem own_d3_201 : decode method_3_code 201 = .ok (.aload_n 0, 1) := by decide +kernel
theorem own_d3_202 : decode method_3_code 202 = .ok (.iload_n 2, 1) := by decide +kernel
theorem own_d3_203 : decode method_3_code 203 = .ok (.bipush 15, 2) := by decide +kernel
theorem own_d3_205 : decode method_3_code 205 = .ok (.iadd, 1) := by decide +kernel
theorem own_d3_206 : decode method_3_code 206 = .ok (.invokevirtual 31, 3) := by decide +kernel
theorem own_d3_209 : decode method_3_code 209 = .ok (.iload_n 1, 1) := by decide +kernel
theorem own_d3_210 : decode method_3_code 210 = .ok (.bipush 16, 2) := by decide +kernel
theorem own_d3_212 : decode method_3_code 212 = .ok (.if_icmp .le 11, 3) := by decide +kernel
theorem own_d3_215 : decode method_3_code 215 = .ok (.aload_n 0, 1) := by decide +kernel
theorem own_d3_216 : decode method_3_code 216 = .ok (.iload_n 2, 1) := by decide +kernel
theorem own_d3_217 : decode method_3_code 217 = .ok (.bipush 16, 2) := by decide +kernel
theorem own_d3_219 : decode method_3_code 219 = .ok (.iadd, 1) := by decide +kernel
theorem own_d3_220 : decode method_3_code 220 = .ok (.invokevirtual 31, 3) := by decide +kernel
theorem own_d3_223 : decode method_3_code 223 = .ok (.iload_n 1, 1) := by decide +kernel
theorem own_d3_224 : decode method_3_code 224 = .ok (.bipush 17, 2) := by decide +kernel
theorem own_d3_226 : decode method_3_code 226 = .ok (.if_icmp .le 11, 3) := by decide +kernel
theorem own_d3_229 : decode method_3_code 229 = .ok (.aload_n 0, 1) := by decide +kernel
theorem own_d3_230 : decode method_3_code 230 = .ok (.iload_n 2, 1) := by decide +kernel
theorem own_d3_231 : decode method_3_code 231 = .ok (.bipush 17, 2) := by decide +kernel
theorem own_d3_233 : decode method_3_code 233 = .ok (.iadd, 1) := by decide +kernel
theorem own_d3_234 : decode method_3_code 234 = .ok (.invokevirtual 31, 3) := by decide +kernel
theorem own_d3_237 : decode method_3_code 237 = .ok (.return_, 1) := by decide +kernel
theorem own_pn1 : plainName "com/example/walk_to_worth/walktoworth/graph/IntSequenceBlockLengthPinLaw" = true := by first | (simp [plainName, overriddenIn]; done) | decide +kernel
theorem own_pd2 : parseMethodDescriptor "(I)V" = some ⟨[.int], none⟩ := by decide +kernel
theorem own_rm3_ef (m : MethodId) (o : Addr) (p1 : Int32) (p2 : Int32) : entryFrame m #[(.ref o), (.int p1), (.int p2)] 3 = mkF m 0 #[.val (.ref o), .val (.int p1), .val (.int p2)] [] := by first | (simp [entryFrame, mkF, argsToLocals, Value.category]; done) | rfl
set_option maxRecDepth 65536 in
set_option maxHeartbeats 40000000 in
theorem own_rm3 (l : Launch) (Z : State) (a0 : Array Value) (hw : ∀ d ∈ tables_1, d.before a0 Z = true) (ws : List Jvm.Cond) (o : Addr) (B : Addr) (kB : ClassId) (p1 : Int32) (p2 : Int32) (h0 : Heap) (n0 : Nat) (Z0 : n0 ≤ h0.size) (g_o : n0 ≤ o) (g_B : n0 ≤ B) (neB : o ≠ B) (hO : OvrA Z kB .int "[I") (hS : own_Seq Z h0 o B kB (0 : Int32) .null (0 : Int32) [.null, .null, .null, .null, .null, .null, .null, .null]) (hn0 : ¬ p1 < 0) (hn19 : p1 < (19 : Int32)) :
    own_Met l Z (⟨"com/example/walk_to_worth/walktoworth/graph/IntSequenceBlockLengthPinLaw", "fill", "(Lcom/example/walk_to_worth/walktoworth/graph/IntSequence;II)V"⟩ : MethodName) method_3_code 3 none ws ({ frames := 3, cells := 2, slots := 48, locals := 80 } : Room) #[(.ref o), (.int p1), (.int p2)] h0 (fun v h L => ∃ lv vs, v = none ∧ Fr n0 L ∧ Keep h0 h [o, B] ∧ own_Seq Z h o B kB (own_bc p1) lv (own_lu p1) vs ∧ ((16 : Int32) < p1 → ∃ a, vs.getD 0 .null = .ref a ∧ own_Len Z h a (16 : Int32))) := by
  refine own_enter (plainFor_of_name own_pn1) ?_
  intro p e s m below meth c s₁ X0 hx hZ hby hml hown hnm hret hlk e0
  have N0 := Fr.nil n0
  rw [own_rm3_ef m o p1 p2]
  have KK0 : Keep h0 h0 [o, B] := Keep.refl _ _
  obtain ⟨Es, Fb, Fc, Fl, Fu, Vb⟩ := hS
  show own_Fin _ _ _ _ _ _ (s₁.setTop (mkF m 0 #[.val (.ref o), .val (.int p1), .val (.int p2)] []))
  refine own_to (fun t k => XS.iloadN X0.here hx rfl (hb hby own_d3_0) rfl k) ?_
  show own_Fin _ _ _ _ _ _ (s₁.setTop (mkF m 1 #[.val (.ref o), .val (.int p1), .val (.int p2)] [(.int p1)]))
  by_cases hf68 : (0 : Int32) < p1
  ·
    show own_Fin _ _ _ _ _ _ (s₁.setTop (mkF m 1 #[.val (.ref o), .val (.int p1), .val (.int p2)] [(.int p1)]))
    refine own_to (fun t k => XS.ifNo X0.here hx rfl (hb hby own_d3_1) rfl ((if0 _ _).trans (tlt hf68).2.2.2) k) ?_
    show own_Fin _ _ _ _ _ _ (s₁.setTop (mkF m 4 #[.val (.ref o), .val (.int p1), .val (.int p2)] []))
    refine own_to (fun t k => XS.aloadN X0.here hx rfl (hb hby own_d3_4) rfl rfl k) ?_
    show own_Fin _ _ _ _ _ _ (s₁.setTop (mkF m 5 #[.val (.ref o), .val (.int p1), .val (.int p2)] [(.ref o)]))
    refine own_to (fun t k => XS.iloadN X0.here hx rfl (hb hby own_d3_5) rfl k) ?_
    show own_Fin _ _ _ _ _ _ (s₁.setTop (mkF m 6 #[.val (.ref o), .val (.int p1), .val (.int p2)] [(.int p2), (.ref o)]))
    obtain ⟨cq69, kq69, q69a, q69b, q69c⟩ := isOf hZ e0 Es
    obtain ⟨_, _, ⟨T69, L69, k69, n69⟩, -, X69, ⟨Lc69, hQ69, l69, y69, z69⟩, st69⟩ := X0.virtualBack hx (y := (⟨"com/example/walk_to_worth/walktoworth/graph/IntSequence", "add", "(I)V"⟩ : MethodName)) (z := (⟨"com/example/walk_to_worth/walktoworth/graph/IntSequence", "add", "(I)V"⟩ : MethodName)) hown (mvT hZ (hw _ (List.mem_of_getElem? (i := 25) rfl))) (mvT hZ (hw _ (List.mem_of_getElem? (i := 26) rfl))) (notFace_of_selects (args := #[]) (mvT hZ (hw _ (List.mem_of_getElem? (i := 28) rfl)))) (mvT hZ (hw _ (List.mem_of_getElem? (i := 28) rfl))) (mvT hZ (hw _ (List.mem_of_getElem? (i := 27) rfl))) (by decide) (own_back (W := 0) (own_addA l Z a0 hw [] o B kB p2 h0 n0 Z0 g_o g_B neB hO ⟨Es, Fb, Fc, Fl, Fu, Vb⟩) hZ (hw _ (List.mem_of_getElem? (i := 29) rfl)) (hw _ (List.mem_of_getElem? (i := 3) rfl)) (by decide) (by decide)) q69a q69c (g := (mkF m 6 #[.val (.ref o), .val (.int p1), .val (.int p2)] [(.int p2), (.ref o)])) rfl (by rw [hml]; rfl) (Steps.refl _) (argsL := [(.int p2)]) (rest := []) (lenOf own_pd2 rfl) rfl (by show 2 * 0 + _ ≤ _; exact Nat.le_of_eq rfl) (hb hby own_d3_6) (fun _ _ => ⟨rfl, e0, (by decide : 0 + 1 ≤ _), (by decide : 0 + 16 ≤ _)⟩)
    dsimp only [Pt.U, Pt.locs, Pt.cells, Pt.slots] at X69 l69 y69 z69 st69 hQ69
    subst l69 y69 z69
    obtain ⟨L1, rfl, N69q, K69, g_L1, szx_L1, hS2, E_L1, L_L1⟩ := hQ69
    have N69 := Fr.app N0 N69q
    have ne_o_L1 : o ≠ L1 := Nat.ne_of_lt (Nat.lt_of_lt_of_le Es.lt szx_L1)
    have ne_B_L1 : B ≠ L1 := Nat.ne_of_lt (Nat.lt_of_lt_of_le Vb.lt szx_L1)
    have sz_L1 : h0.size ≤ L1 := Nat.le_trans KK0.1 szx_L1
    have KK69 : Keep h0 T69.heap [o, B] := KK0.trans K69 (allS (Or.inl (List.mem_of_getElem? (i := 0) rfl)) (allS (Or.inl (List.mem_of_getElem? (i := 1) rfl)) all0))
    have Es_e69 := Es.keep K69
    refine own_to (fun t k => st69.trans k) ?_
    show own_Fin _ _ _ _ _ _ (T69.setTop (mkF m 9 #[.val (.ref o), .val (.int p1), .val (.int p2)] []))
    obtain ⟨Es, Fb, Fc, Fl, Fu, Vb⟩ := hS2
    refine own_to (fun t k => XS.iloadN X69.here hx rfl (hb hby own_d3_9) rfl k) ?_
    show own_Fin _ _ _ _ _ _ (T69.setTop (mkF m 10 #[.val (.ref o), .val (.int p1), .val (.int p2)] [(.int p1)]))
    refine own_to (fun t k => XS.iconst X69.here hx rfl (hb hby own_d3_10) k) ?_
    show own_Fin _ _ _ _ _ _ (T69.setTop (mkF m 11 #[.val (.ref o), .val (.int p1), .val (.int p2)] [(.int (1 : Int32)), (.int p1)]))
    by_cases hf70 : (1 : Int32) < p1
    ·
      show own_Fin _ _ _ _ _ _ (T69.setTop (mkF m 11 #[.val (.ref o), .val (.int p1), .val (.int p2)] [(.int (1 : Int32)), (.int p1)]))
      refine own_to (fun t k => XS.icmpNo X69.here hx rfl (hb hby own_d3_11) rfl (tlt hf70).2.2.2 k) ?_
      show own_Fin _ _ _ _ _ _ (T69.setTop (mkF m 14 #[.val (.ref o), .val (.int p1), .val (.int p2)] []))
      refine own_to (fun t k => XS.aloadN X69.here hx rfl (hb hby own_d3_14) rfl rfl k) ?_
      show own_Fin _ _ _ _ _ _ (T69.setTop (mkF m 15 #[.val (.ref o), .val (.int p1), .val (.int p2)] [(.ref o)]))
      refine own_to (fun t k => XS.iloadN X69.here hx rfl (hb hby own_d3_15) rfl k) ?_
      show own_Fin _ _ _ _ _ _ (T69.setTop (mkF m 16 #[.val (.ref o), .val (.int p1), .val (.int p2)] [(.int p2), (.ref o)]))
      refine own_to (fun t k => XS.iconst X69.here hx rfl (hb hby own_d3_16) k) ?_
      show own_Fin _ _ _ _ _ _ (T69.setTop (mkF m 17 #[.val (.ref o), .val (.int p1), .val (.int p2)] [(.int (1 : Int32)), (.int p2), (.ref o)]))
      refine own_to (fun t k => XS.iadd X69.here hx rfl (hb hby own_d3_17) rfl k) ?_
      show own_Fin _ _ _ _ _ _ (T69.setTop (mkF m 18 #[.val (.ref o), .val (.int p1), .val (.int p2)] [(.int (p2 + (1 : Int32))), (.ref o)]))
      obtain ⟨cq71, kq71, q71a, q71b, q71c⟩ := isOf hZ rfl Es
      obtain ⟨_, _, ⟨T71, L71, k71, n71⟩, -, X71, ⟨Lc71, hQ71, l71, y71, z71⟩, st71⟩ := X69.virtualBack hx (y := (⟨"com/example/walk_to_worth/walktoworth/graph/IntSequence", "add", "(I)V"⟩ : MethodName)) (z := (⟨"com/example/walk_to_worth/walktoworth/graph/IntSequence", "add", "(I)V"⟩ : MethodName)) hown (mvT hZ (hw _ (List.mem_of_getElem? (i := 25) rfl))) (mvT hZ (hw _ (List.mem_of_getElem? (i := 26) rfl))) (notFace_of_selects (args := #[]) (mvT hZ (hw _ (List.mem_of_getElem? (i := 28) rfl)))) (mvT hZ (hw _ (List.mem_of_getElem? (i := 28) rfl))) (mvT hZ (hw _ (List.mem_of_getElem? (i := 27) rfl))) (by decide) (own_back (W := 0) (own_addB l Z a0 hw [] o B kB L1 (1 : Int32) (1 : Int32) (16 : Int32) [(.ref L1), .null, .null, .null, .null, .null, .null, .null] (p2 + (1 : Int32)) T69.heap n0 (Nat.le_trans Z0 K69.1) g_o g_B neB hO ⟨Es, Fb, Fc, Fl, Fu, Vb⟩ L_L1 ne_o_L1 ne_B_L1 g_L1 (by decide) (by decide) (by decide)) hZ (hw _ (List.mem_of_getElem? (i := 29) rfl)) (hw _ (List.mem_of_getElem? (i := 3) rfl)) (by decide) (by decide)) q71a q71c (g := (mkF m 18 #[.val (.ref o), .val (.int p1), .val (.int p2)] [(.int (p2 + (1 : Int32))), (.ref o)])) rfl (by rw [hml]; rfl) (Steps.refl _) (argsL := [(.int (p2 + (1 : Int32)))]) (rest := []) (lenOf own_pd2 rfl) rfl (by show 2 * 0 + _ ≤ _; exact Nat.le_of_eq rfl) (hb hby own_d3_18) (fun _ _ => ⟨rfl, rfl, (by decide : 1 + 0 ≤ _), (by decide : 16 + 0 ≤ _)⟩)
      dsimp only [Pt.U, Pt.locs, Pt.cells, Pt.slots] at X71 l71 y71 z71 st71 hQ71
      subst l71 y71 z71
      obtain ⟨rfl, N71q, K71, hS2, L_La⟩ := hQ71
      have N71 := Fr.app N69 N71q
      have KK71 : Keep h0 T71.heap [o, B] := KK69.trans K71 (allS (Or.inl (List.mem_of_getElem? (i := 0) rfl)) (allS (Or.inr sz_L1) all0))
      have Es_e71 := Es.keep K71
      have Vb_e71 := Vb.keep K71 (ninS (Ne.symm neB) (ninS ne_B_L1 nin0))
      refine own_to (fun t k => st71.trans k) ?_
      show own_Fin _ _ _ _ _ _ (T71.setTop (mkF m 21 #[.val (.ref o), .val (.int p1), .val (.int p2)] []))
      rw [show ((1 : Int32) + (1 : Int32)) = (2 : Int32) from by decide] at hS2
      obtain ⟨Es, Fb, Fc, Fl, Fu, Vb⟩ := hS2
      refine own_to (fun t k => XS.iloadN X71.here hx rfl (hb hby own_d3_21) rfl k) ?_
      show own_Fin _ _ _ _ _ _ (T71.setTop (mkF m 22 #[.val (.ref o), .val (.int p1), .val (.int p2)] [(.int p1)]))
      refine own_to (fun t k => XS.iconst X71.here hx rfl (hb hby own_d3_22) k) ?_
      show own_Fin _ _ _ _ _ _ (T71.setTop (mkF m 23 #[.val (.ref o), .val (.int p1), .val (.int p2)] [(.int (2 : Int32)), (.int p1)]))
      by_cases hf72 : (2 : Int32) < p1
      ·
        show own_Fin _ _ _ _ _ _ (T71.setTop (mkF m 23 #[.val (.ref o), .val (.int p1), .val (.int p2)] [(.int (2 : Int32)), (.int p1)]))
        refine own_to (fun t k => XS.icmpNo X71.here hx rfl (hb hby own_d3_23) rfl (tlt hf72).2.2.2 k) ?_
        show own_Fin _ _ _ _ _ _ (T71.setTop (mkF m 26 #[.val (.ref o), .val (.int p1), .val (.int p2)] []))
        refine own_to (fun t k => XS.aloadN X71.here hx rfl (hb hby own_d3_26) rfl rfl k) ?_
        show own_Fin _ _ _ _ _ _ (T71.setTop (mkF m 27 #[.val (.ref o), .val (.int p1), .val (.int p2)] [(.ref o)]))
        refine own_to (fun t k => XS.iloadN X71.here hx rfl (hb hby own_d3_27) rfl k) ?_
        show own_Fin _ _ _ _ _ _ (T71.setTop (mkF m 28 #[.val (.ref o), .val (.int p1), .val (.int p2)] [(.int p2), (.ref o)]))
        refine own_to (fun t k => XS.iconst X71.here hx rfl (hb hby own_d3_28) k) ?_
        show own_Fin _ _ _ _ _ _ (T71.setTop (mkF m 29 #[.val (.ref o), .val (.int p1), .val (.int p2)] [(.int (2 : Int32)), (.int p2), (.ref o)]))
        refine own_to (fun t k => XS.iadd X71.here hx rfl (hb hby own_d3_29) rfl k) ?_
        show own_Fin _ _ _ _ _ _ (T71.setTop (mkF m 30 #[.val (.ref o), .val (.int p1), .val (.int p2)] [(.int (p2 + (2 : Int32))), (.ref o)]))
        obtain ⟨cq73, kq73, q73a, q73b, q73c⟩ := isOf hZ rfl Es
        obtain ⟨_, _, ⟨T73, L73, k73, n73⟩, -, X73, ⟨Lc73, hQ73, l73, y73, z73⟩, st73⟩ := X71.virtualBack hx (y := (⟨"com/example/walk_to_worth/walktoworth/graph/IntSequence", "add", "(I)V"⟩ : MethodName)) (z := (⟨"com/example/walk_to_worth/walktoworth/graph/IntSequence", "add", "(I)V"⟩ : MethodName)) hown (mvT hZ (hw _ (List.mem_of_getElem? (i := 25) rfl))) (mvT hZ (hw _ (List.mem_of_getElem? (i := 26) rfl))) (notFace_of_selects (args := #[]) (mvT hZ (hw _ (List.mem_of_getElem? (i := 28) rfl)))) (mvT hZ (hw _ (List.mem_of_getElem? (i := 28) rfl))) (mvT hZ (hw _ (List.mem_of_getElem? (i := 27) rfl))) (by decide) (own_back (W := 0) (own_addB l Z a0 hw [] o B kB L1 (1 : Int32) (2 : Int32) (16 : Int32) [(.ref L1), .null, .null, .null, .null, .null, .null, .null] (p2 + (2 : Int32)) T71.heap n0 (Nat.le_trans (Nat.le_trans Z0 K69.1) K71.1) g_o g_B neB hO ⟨Es, Fb, Fc, Fl, Fu, Vb⟩ L_La ne_o_L1 ne_B_L1 g_L1 (by decide) (by decide) (by decide)) hZ (hw _ (List.mem_of_getElem? (i := 29) rfl)) (hw _ (List.mem_of_getElem? (i := 3) rfl)) (by decide) (by decide)) q73a q73c (g := (mkF m 30 #[.val (.ref o), .val (.int p1), .val (.int p2)] [(.int (p2 + (2 : Int32))), (.ref o)])) rfl (by rw [hml]; rfl) (Steps.refl _) (argsL := [(.int (p2 + (2 : Int32)))]) (rest := []) (lenOf own_pd2 rfl) rfl (by show 2 * 0 + _ ≤ _; exact Nat.le_of_eq rfl) (hb hby own_d3_30) (fun _ _ => ⟨rfl, rfl, (by decide : 1 + 0 ≤ _), (by decide : 16 + 0 ≤ _)⟩)
        dsimp only [Pt.U, Pt.locs, Pt.cells, Pt.slots] at X73 l73 y73 z73 st73 hQ73
        subst l73 y73 z73
        obtain ⟨rfl, N73q, K73, hS2, L_La⟩ := hQ73
        have N73 := Fr.app N71 N73q
        have KK73 : Keep h0 T73.heap [o, B] := KK71.trans K73 (allS (Or.inl (List.mem_of_getElem? (i := 0) rfl)) (allS (Or.inr sz_L1) all0))
        have Es_e73 := Es.keep K73
        have Vb_e73 := Vb.keep K73 (ninS (Ne.symm neB) (ninS ne_B_L1 nin0))
        refine own_to (fun t k => st73.trans k) ?_
        show own_Fin _ _ _ _ _ _ (T73.setTop (mkF m 33 #[.val (.ref o), .val (.int p1), .val (.int p2)] []))
        rw [show ((2 : Int32) + (1 : Int32)) = (3 : Int32) from by decide] at hS2
        obtain ⟨Es, Fb, Fc, Fl, Fu, Vb⟩ := hS2
        refine own_to (fun t k => XS.iloadN X73.here hx rfl (hb hby own_d3_33) rfl k) ?_
        show own_Fin _ _ _ _ _ _ (T73.setTop (mkF m 34 #[.val (.ref o), .val (.int p1), .val (.int p2)] [(.int p1)]))
        refine own_to (fun t k => XS.iconst X73.here hx rfl (hb hby own_d3_34) k) ?_
        show own_Fin _ _ _ _ _ _ (T73.setTop (mkF m 35 #[.val (.ref o), .val (.int p1), .val (.int p2)] [(.int (3 : Int32)), (.int p1)]))
        by_cases hf74 : (3 : Int32) < p1
        ·
          show own_Fin _ _ _ _ _ _ (T73.setTop (mkF m 35 #[.val (.ref o), .val (.int p1), .val (.int p2)] [(.int (3 : Int32)), (.int p1)]))
          refine own_to (fun t k => XS.icmpNo X73.here hx rfl (hb hby own_d3_35) rfl (tlt hf74).2.2.2 k) ?_
          show own_Fin _ _ _ _ _ _ (T73.setTop (mkF m 38 #[.val (.ref o), .val (.int p1), .val (.int p2)] []))
          refine own_to (fun t k => XS.aloadN X73.here hx rfl (hb hby own_d3_38) rfl rfl k) ?_
          show own_Fin _ _ _ _ _ _ (T73.setTop (mkF m 39 #[.val (.ref o), .val (.int p1), .val (.int p2)] [(.ref o)]))
          refine own_to (fun t k => XS.iloadN X73.here hx rfl (hb hby own_d3_39) rfl k) ?_
          show own_Fin _ _ _ _ _ _ (T73.setTop (mkF m 40 #[.val (.ref o), .val (.int p1), .val (.int p2)] [(.int p2), (.ref o)]))
          refine own_to (fun t k => XS.iconst X73.here hx rfl (hb hby own_d3_40) k) ?_
          show own_Fin _ _ _ _ _ _ (T73.setTop (mkF m 41 #[.val (.ref o), .val (.int p1), .val (.int p2)] [(.int (3 : Int32)), (.int p2), (.ref o)]))
          refine own_to (fun t k => XS.iadd X73.here hx rfl (hb hby own_d3_41) rfl k) ?_
          show own_Fin _ _ _ _ _ _ (T73.setTop (mkF m 42 #[.val (.ref o), .val (.int p1), .val (.int p2)] [(.int (p2 + (3 : Int32))), (.ref o)]))
          obtain ⟨cq75, kq75, q75a, q75b, q75c⟩ := isOf hZ rfl Es
          obtain ⟨_, _, ⟨T75, L75, k75, n75⟩, -, X75, ⟨Lc75, hQ75, l75, y75, z75⟩, st75⟩ := X73.virtualBack hx (y := (⟨"com/example/walk_to_worth/walktoworth/graph/IntSequence", "add", "(I)V"⟩ : MethodName)) (z := (⟨"com/example/walk_to_worth/walktoworth/graph/IntSequence", "add", "(I)V"⟩ : MethodName)) hown (mvT hZ (hw _ (List.mem_of_getElem? (i := 25) rfl))) (mvT hZ (hw _ (List.mem_of_getElem? (i := 26) rfl))) (notFace_of_selects (args := #[]) (mvT hZ (hw _ (List.mem_of_getElem? (i := 28) rfl)))) (mvT hZ (hw _ (List.mem_of_getElem? (i := 28) rfl))) (mvT hZ (hw _ (List.mem_of_getElem? (i := 27) rfl))) (by decide) (own_back (W := 0) (own_addB l Z a0 hw [] o B kB L1 (1 : Int32) (3 : Int32) (16 : Int32) [(.ref L1), .null, .null, .null, .null, .null, .null, .null] (p2 + (3 : Int32)) T73.heap n0 (Nat.le_trans (Nat.le_trans (Nat.le_trans Z0 K69.1) K71.1) K73.1) g_o g_B neB hO ⟨Es, Fb, Fc, Fl, Fu, Vb⟩ L_La ne_o_L1 ne_B_L1 g_L1 (by decide) (by decide) (by decide)) hZ (hw _ (List.mem_of_getElem? (i := 29) rfl)) (hw _ (List.mem_of_getElem? (i := 3) rfl)) (by decide) (by decide)) q75a q75c (g := (mkF m 42 #[.val (.ref o), .val (.int p1), .val (.int p2)] [(.int (p2 + (3 : Int32))), (.ref o)])) rfl (by rw [hml]; rfl) (Steps.refl _) (argsL := [(.int (p2 + (3 : Int32)))]) (rest := []) (lenOf own_pd2 rfl) rfl (by show 2 * 0 + _ ≤ _; exact Nat.le_of_eq rfl) (hb hby own_d3_42) (fun _ _ => ⟨rfl, rfl, (by decide : 1 + 0 ≤ _), (by decide : 16 + 0 ≤ _)⟩)
          dsimp only [Pt.U, Pt.locs, Pt.cells, Pt.slots] at X75 l75 y75 z75 st75 hQ75
          subst l75 y75 z75
          obtain ⟨rfl, N75q, K75, hS2, L_La⟩ := hQ75
          have N75 := Fr.app N73 N75q
          have KK75 : Keep h0 T75.heap [o, B] := KK73.trans K75 (allS (Or.inl (List.mem_of_getElem? (i := 0) rfl)) (allS (Or.inr sz_L1) all0))
          have Es_e75 := Es.keep K75
          have Vb_e75 := Vb.keep K75 (ninS (Ne.symm neB) (ninS ne_B_L1 nin0))
          refine own_to (fun t k => st75.trans k) ?_
          show own_Fin _ _ _ _ _ _ (T75.setTop (mkF m 45 #[.val (.ref o), .val (.int p1), .val (.int p2)] []))
          rw [show ((3 : Int32) + (1 : Int32)) = (4 : Int32) from by decide] at hS2
          obtain ⟨Es, Fb, Fc, Fl, Fu, Vb⟩ := hS2
          refine own_to (fun t k => XS.iloadN X75.here hx rfl (hb hby own_d3_45) rfl k) ?_
          show own_Fin _ _ _ _ _ _ (T75.setTop (mkF m 46 #[.val (.ref o), .val (.int p1), .val (.int p2)] [(.int p1)]))
          refine own_to (fun t k => XS.iconst X75.here hx rfl (hb hby own_d3_46) k) ?_
          show own_Fin _ _ _ _ _ _ (T75.setTop (mkF m 47 #[.val (.ref o), .val (.int p1), .val (.int p2)] [(.int (4 : Int32)), (.int p1)]))
          by_cases hf76 : (4 : Int32) < p1
          ·
            show own_Fin _ _ _ _ _ _ (T75.setTop (mkF m 47 #[.val (.ref o), .val (.int p1), .val (.int p2)] [(.int (4 : Int32)), (.int p1)]))
            refine own_to (fun t k => XS.icmpNo X75.here hx rfl (hb hby own_d3_47) rfl (tlt hf76).2.2.2 k) ?_
            show own_Fin _ _ _ _ _ _ (T75.setTop (mkF m 50 #[.val (.ref o), .val (.int p1), .val (.int p2)] []))
            refine own_to (fun t k => XS.aloadN X75.here hx rfl (hb hby own_d3_50) rfl rfl k) ?_
            show own_Fin _ _ _ _ _ _ (T75.setTop (mkF m 51 #[.val (.ref o), .val (.int p1), .val (.int p2)] [(.ref o)]))
            refine own_to (fun t k => XS.iloadN X75.here hx rfl (hb hby own_d3_51) rfl k) ?_
            show own_Fin _ _ _ _ _ _ (T75.setTop (mkF m 52 #[.val (.ref o), .val (.int p1), .val (.int p2)] [(.int p2), (.ref o)]))
            refine own_to (fun t k => XS.iconst X75.here hx rfl (hb hby own_d3_52) k) ?_
            show own_Fin _ _ _ _ _ _ (T75.setTop (mkF m 53 #[.val (.ref o), .val (.int p1), .val (.int p2)] [(.int (4 : Int32)), (.int p2), (.ref o)]))
            refine own_to (fun t k => XS.iadd X75.here hx rfl (hb hby own_d3_53) rfl k) ?_
            show own_Fin _ _ _ _ _ _ (T75.setTop (mkF m 54 #[.val (.ref o), .val (.int p1), .val (.int p2)] [(.int (p2 + (4 : Int32))), (.ref o)]))
            obtain ⟨cq77, kq77, q77a, q77b, q77c⟩ := isOf hZ rfl Es
            obtain ⟨_, _, ⟨T77, L77, k77, n77⟩, -, X77, ⟨Lc77, hQ77, l77, y77, z77⟩, st77⟩ := X75.virtualBack hx (y := (⟨"com/example/walk_to_worth/walktoworth/graph/IntSequence", "add", "(I)V"⟩ : MethodName)) (z := (⟨"com/example/walk_to_worth/walktoworth/graph/IntSequence", "add", "(I)V"⟩ : MethodName)) hown (mvT hZ (hw _ (List.mem_of_getElem? (i := 25) rfl))) (mvT hZ (hw _ (List.mem_of_getElem? (i := 26) rfl))) (notFace_of_selects (args := #[]) (mvT hZ (hw _ (List.mem_of_getElem? (i := 28) rfl)))) (mvT hZ (hw _ (List.mem_of_getElem? (i := 28) rfl))) (mvT hZ (hw _ (List.mem_of_getElem? (i := 27) rfl))) (by decide) (own_back (W := 0) (own_addB l Z a0 hw [] o B kB L1 (1 : Int32) (4 : Int32) (16 : Int32) [(.ref L1), .null, .null, .null, .null, .null, .null, .null] (p2 + (4 : Int32)) T75.heap n0 (Nat.le_trans (Nat.le_trans (Nat.le_trans (Nat.le_trans Z0 K69.1) K71.1) K73.1) K75.1) g_o g_B neB hO ⟨Es, Fb, Fc, Fl, Fu, Vb⟩ L_La ne_o_L1 ne_B_L1 g_L1 (by decide) (by decide) (by decide)) hZ (hw _ (List.mem_of_getElem? (i := 29) rfl)) (hw _ (List.mem_of_getElem? (i := 3) rfl)) (by decide) (by decide)) q77a q77c (g := (mkF m 54 #[.val (.ref o), .val (.int p1), .val (.int p2)] [(.int (p2 + (4 : Int32))), (.ref o)])) rfl (by rw [hml]; rfl) (Steps.refl _) (argsL := [(.int (p2 + (4 : Int32)))]) (rest := []) (lenOf own_pd2 rfl) rfl (by show 2 * 0 + _ ≤ _; exact Nat.le_of_eq rfl) (hb hby own_d3_54) (fun _ _ => ⟨rfl, rfl, (by decide : 1 + 0 ≤ _), (by decide : 16 + 0 ≤ _)⟩)
            dsimp only [Pt.U, Pt.locs, Pt.cells, Pt.slots] at X77 l77 y77 z77 st77 hQ77
            subst l77 y77 z77
            obtain ⟨rfl, N77q, K77, hS2, L_La⟩ := hQ77
            have N77 := Fr.app N75 N77q
            have KK77 : Keep h0 T77.heap [o, B] := KK75.trans K77 (allS (Or.inl (List.mem_of_getElem? (i := 0) rfl)) (allS (Or.inr sz_L1) all0))
            have Es_e77 := Es.keep K77
            have Vb_e77 := Vb.keep K77 (ninS (Ne.symm neB) (ninS ne_B_L1 nin0))
            refine own_to (fun t k => st77.trans k) ?_
            show own_Fin _ _ _ _ _ _ (T77.setTop (mkF m 57 #[.val (.ref o), .val (.int p1), .val (.int p2)] []))
            rw [show ((4 : Int32) + (1 : Int32)) = (5 : Int32) from by decide] at hS2
            obtain ⟨Es, Fb, Fc, Fl, Fu, Vb⟩ := hS2
            refine own_to (fun t k => XS.iloadN X77.here hx rfl (hb hby own_d3_57) rfl k) ?_
            show own_Fin _ _ _ _ _ _ (T77.setTop (mkF m 58 #[.val (.ref o), .val (.int p1), .val (.int p2)] [(.int p1)]))
            refine own_to (fun t k => XS.iconst X77.here hx rfl (hb hby own_d3_58) k) ?_
            show own_Fin _ _ _ _ _ _ (T77.setTop (mkF m 59 #[.val (.ref o), .val (.int p1), .val (.int p2)] [(.int (5 : Int32)), (.int p1)]))
            by_cases hf78 : (5 : Int32) < p1
            ·
              show own_Fin _ _ _ _ _ _ (T77.setTop (mkF m 59 #[.val (.ref o), .val (.int p1), .val (.int p2)] [(.int (5 : Int32)), (.int p1)]))
              refine own_to (fun t k => XS.icmpNo X77.here hx rfl (hb hby own_d3_59) rfl (tlt hf78).2.2.2 k) ?_
              show own_Fin _ _ _ _ _ _ (T77.setTop (mkF m 62 #[.val (.ref o), .val (.int p1), .val (.int p2)] []))
              refine own_to (fun t k => XS.aloadN X77.here hx rfl (hb hby own_d3_62) rfl rfl k) ?_
              show own_Fin _ _ _ _ _ _ (T77.setTop (mkF m 63 #[.val (.ref o), .val (.int p1), .val (.int p2)] [(.ref o)]))
              refine own_to (fun t k => XS.iloadN X77.here hx rfl (hb hby own_d3_63) rfl k) ?_
              show own_Fin _ _ _ _ _ _ (T77.setTop (mkF m 64 #[.val (.ref o), .val (.int p1), .val (.int p2)] [(.int p2), (.ref o)]))
              refine own_to (fun t k => XS.iconst X77.here hx rfl (hb hby own_d3_64) k) ?_
              show own_Fin _ _ _ _ _ _ (T77.setTop (mkF m 65 #[.val (.ref o), .val (.int p1), .val (.int p2)] [(.int (5 : Int32)), (.int p2), (.ref o)]))
              refine own_to (fun t k => XS.iadd X77.here hx rfl (hb hby own_d3_65) rfl k) ?_
              show own_Fin _ _ _ _ _ _ (T77.setTop (mkF m 66 #[.val (.ref o), .val (.int p1), .val (.int p2)] [(.int (p2 + (5 : Int32))), (.ref o)]))
              obtain ⟨cq79, kq79, q79a, q79b, q79c⟩ := isOf hZ rfl Es
              obtain ⟨_, _, ⟨T79, L79, k79, n79⟩, -, X79, ⟨Lc79, hQ79, l79, y79, z79⟩, st79⟩ := X77.virtualBack hx (y := (⟨"com/example/walk_to_worth/walktoworth/graph/IntSequence", "add", "(I)V"⟩ : MethodName)) (z := (⟨"com/example/walk_to_worth/walktoworth/graph/IntSequence", "add", "(I)V"⟩ : MethodName)) hown (mvT hZ (hw _ (List.mem_of_getElem? (i := 25) rfl))) (mvT hZ (hw _ (List.mem_of_getElem? (i := 26) rfl))) (notFace_of_selects (args := #[]) (mvT hZ (hw _ (List.mem_of_getElem? (i := 28) rfl)))) (mvT hZ (hw _ (List.mem_of_getElem? (i := 28) rfl))) (mvT hZ (hw _ (List.mem_of_getElem? (i := 27) rfl))) (by decide) (own_back (W := 0) (own_addB l Z a0 hw [] o B kB L1 (1 : Int32) (5 : Int32) (16 : Int32) [(.ref L1), .null, .null, .null, .null, .null, .null, .null] (p2 + (5 : Int32)) T77.heap n0 (Nat.le_trans (Nat.le_trans (Nat.le_trans (Nat.le_trans (Nat.le_trans Z0 K69.1) K71.1) K73.1) K75.1) K77.1) g_o g_B neB hO ⟨Es, Fb, Fc, Fl, Fu, Vb⟩ L_La ne_o_L1 ne_B_L1 g_L1 (by decide) (by decide) (by decide)) hZ (hw _ (List.mem_of_getElem? (i := 29) rfl)) (hw _ (List.mem_of_getElem? (i := 3) rfl)) (by decide) (by decide)) q79a q79c (g := (mkF m 66 #[.val (.ref o), .val (.int p1), .val (.int p2)] [(.int (p2 + (5 : Int32))), (.ref o)])) rfl (by rw [hml]; rfl) (Steps.refl _) (argsL := [(.int (p2 + (5 : Int32)))]) (rest := []) (lenOf own_pd2 rfl) rfl (by show 2 * 0 + _ ≤ _; exact Nat.le_of_eq rfl) (hb hby own_d3_66) (fun _ _ => ⟨rfl, rfl, (by decide : 1 + 0 ≤ _), (by decide : 16 + 0 ≤ _)⟩)
              dsimp only [Pt.U, Pt.locs, Pt.cells, Pt.slots] at X79 l79 y79 z79 st79 hQ79
              subst l79 y79 z79
              obtain ⟨rfl, N79q, K79, hS2, L_La⟩ := hQ79
              have N79 := Fr.app N77 N79q
              have KK79 : Keep h0 T79.heap [o, B] := KK77.trans K79 (allS (Or.inl (List.mem_of_getElem? (i := 0) rfl)) (allS (Or.inr sz_L1) all0))
              have Es_e79 := Es.keep K79
              have Vb_e79 := Vb.keep K79 (ninS (Ne.symm neB) (ninS ne_B_L1 nin0))
              refine own_to (fun t k => st79.trans k) ?_
              show own_Fin _ _ _ _ _ _ (T79.setTop (mkF m 69 #[.val (.ref o), .val (.int p1), .val (.int p2)] []))
              rw [show ((5 : Int32) + (1 : Int32)) = (6 : Int32) from by decide] at hS2
              obtain ⟨Es, Fb, Fc, Fl, Fu, Vb⟩ := hS2
              refine own_to (fun t k => XS.iloadN X79.here hx rfl (hb hby own_d3_69) rfl k) ?_
              show own_Fin _ _ _ _ _ _ (T79.setTop (mkF m 70 #[.val (.ref o), .val (.int p1), .val (.int p2)] [(.int p1)]))
              refine own_to (fun t k => XS.bipush X79.here hx rfl (hb hby own_d3_70) k) ?_
              show own_Fin _ _ _ _ _ _ (T79.setTop (mkF m 72 #[.val (.ref o), .val (.int p1), .val (.int p2)] [(.int (6 : Int32)), (.int p1)]))
              by_cases hf80 : (6 : Int32) < p1
              ·
                show own_Fin _ _ _ _ _ _ (T79.setTop (mkF m 72 #[.val (.ref o), .val (.int p1), .val (.int p2)] [(.int (6 : Int32)), (.int p1)]))
                refine own_to (fun t k => XS.icmpNo X79.here hx rfl (hb hby own_d3_72) rfl (tlt hf80).2.2.2 k) ?_
                show own_Fin _ _ _ _ _ _ (T79.setTop (mkF m 75 #[.val (.ref o), .val (.int p1), .val (.int p2)] []))
                refine own_to (fun t k => XS.aloadN X79.here hx rfl (hb hby own_d3_75) rfl rfl k) ?_
                show own_Fin _ _ _ _ _ _ (T79.setTop (mkF m 76 #[.val (.ref o), .val (.int p1), .val (.int p2)] [(.ref o)]))
                refine own_to (fun t k => XS.iloadN X79.here hx rfl (hb hby own_d3_76) rfl k) ?_
                show own_Fin _ _ _ _ _ _ (T79.setTop (mkF m 77 #[.val (.ref o), .val (.int p1), .val (.int p2)] [(.int p2), (.ref o)]))
                refine own_to (fun t k => XS.bipush X79.here hx rfl (hb hby own_d3_77) k) ?_
                show own_Fin _ _ _ _ _ _ (T79.setTop (mkF m 79 #[.val (.ref o), .val (.int p1), .val (.int p2)] [(.int (6 : Int32)), (.int p2), (.ref o)]))
                refine own_to (fun t k => XS.iadd X79.here hx rfl (hb hby own_d3_79) rfl k) ?_
                show own_Fin _ _ _ _ _ _ (T79.setTop (mkF m 80 #[.val (.ref o), .val (.int p1), .val (.int p2)] [(.int (p2 + (6 : Int32))), (.ref o)]))
                obtain ⟨cq81, kq81, q81a, q81b, q81c⟩ := isOf hZ rfl Es
                obtain ⟨_, _, ⟨T81, L81, k81, n81⟩, -, X81, ⟨Lc81, hQ81, l81, y81, z81⟩, st81⟩ := X79.virtualBack hx (y := (⟨"com/example/walk_to_worth/walktoworth/graph/IntSequence", "add", "(I)V"⟩ : MethodName)) (z := (⟨"com/example/walk_to_worth/walktoworth/graph/IntSequence", "add", "(I)V"⟩ : MethodName)) hown (mvT hZ (hw _ (List.mem_of_getElem? (i := 25) rfl))) (mvT hZ (hw _ (List.mem_of_getElem? (i := 26) rfl))) (notFace_of_selects (args := #[]) (mvT hZ (hw _ (List.mem_of_getElem? (i := 28) rfl)))) (mvT hZ (hw _ (List.mem_of_getElem? (i := 28) rfl))) (mvT hZ (hw _ (List.mem_of_getElem? (i := 27) rfl))) (by decide) (own_back (W := 0) (own_addB l Z a0 hw [] o B kB L1 (1 : Int32) (6 : Int32) (16 : Int32) [(.ref L1), .null, .null, .null, .null, .null, .null, .null] (p2 + (6 : Int32)) T79.heap n0 (Nat.le_trans (Nat.le_trans (Nat.le_trans (Nat.le_trans (Nat.le_trans (Nat.le_trans Z0 K69.1) K71.1) K73.1) K75.1) K77.1) K79.1) g_o g_B neB hO ⟨Es, Fb, Fc, Fl, Fu, Vb⟩ L_La ne_o_L1 ne_B_L1 g_L1 (by decide) (by decide) (by decide)) hZ (hw _ (List.mem_of_getElem? (i := 29) rfl)) (hw _ (List.mem_of_getElem? (i := 3) rfl)) (by decide) (by decide)) q81a q81c (g := (mkF m 80 #[.val (.ref o), .val (.int p1), .val (.int p2)] [(.int (p2 + (6 : Int32))), (.ref o)])) rfl (by rw [hml]; rfl) (Steps.refl _) (argsL := [(.int (p2 + (6 : Int32)))]) (rest := []) (lenOf own_pd2 rfl) rfl (by show 2 * 0 + _ ≤ _; exact Nat.le_of_eq rfl) (hb hby own_d3_80) (fun _ _ => ⟨rfl, rfl, (by decide : 1 + 0 ≤ _), (by decide : 16 + 0 ≤ _)⟩)
                dsimp only [Pt.U, Pt.locs, Pt.cells, Pt.slots] at X81 l81 y81 z81 st81 hQ81
                subst l81 y81 z81
                obtain ⟨rfl, N81q, K81, hS2, L_La⟩ := hQ81
                have N81 := Fr.app N79 N81q
                have KK81 : Keep h0 T81.heap [o, B] := KK79.trans K81 (allS (Or.inl (List.mem_of_getElem? (i := 0) rfl)) (allS (Or.inr sz_L1) all0))
                have Es_e81 := Es.keep K81
                have Vb_e81 := Vb.keep K81 (ninS (Ne.symm neB) (ninS ne_B_L1 nin0))
                refine own_to (fun t k => st81.trans k) ?_
                show own_Fin _ _ _ _ _ _ (T81.setTop (mkF m 83 #[.val (.ref o), .val (.int p1), .val (.int p2)] []))
                rw [show ((6 : Int32) + (1 : Int32)) = (7 : Int32) from by decide] at hS2
                obtain ⟨Es, Fb, Fc, Fl, Fu, Vb⟩ := hS2
                refine own_to (fun t k => XS.iloadN X81.here hx rfl (hb hby own_d3_83) rfl k) ?_
                show own_Fin _ _ _ _ _ _ (T81.setTop (mkF m 84 #[.val (.ref o), .val (.int p1), .val (.int p2)] [(.int p1)]))
                refine own_to (fun t k => XS.bipush X81.here hx rfl (hb hby own_d3_84) k) ?_
                show own_Fin _ _ _ _ _ _ (T81.setTop (mkF m 86 #[.val (.ref o), .val (.int p1), .val (.int p2)] [(.int (7 : Int32)), (.int p1)]))
                by_cases hf82 : (7 : Int32) < p1
                ·
                  show own_Fin _ _ _ _ _ _ (T81.setTop (mkF m 86 #[.val (.ref o), .val (.int p1), .val (.int p2)] [(.int (7 : Int32)), (.int p1)]))
                  refine own_to (fun t k => XS.icmpNo X81.here hx rfl (hb hby own_d3_86) rfl (tlt hf82).2.2.2 k) ?_
                  show own_Fin _ _ _ _ _ _ (T81.setTop (mkF m 89 #[.val (.ref o), .val (.int p1), .val (.int p2)] []))
                  refine own_to (fun t k => XS.aloadN X81.here hx rfl (hb hby own_d3_89) rfl rfl k) ?_
                  show own_Fin _ _ _ _ _ _ (T81.setTop (mkF m 90 #[.val (.ref o), .val (.int p1), .val (.int p2)] [(.ref o)]))
                  refine own_to (fun t k => XS.iloadN X81.here hx rfl (hb hby own_d3_90) rfl k) ?_
                  show own_Fin _ _ _ _ _ _ (T81.setTop (mkF m 91 #[.val (.ref o), .val (.int p1), .val (.int p2)] [(.int p2), (.ref o)]))
                  refine own_to (fun t k => XS.bipush X81.here hx rfl (hb hby own_d3_91) k) ?_
                  show own_Fin _ _ _ _ _ _ (T81.setTop (mkF m 93 #[.val (.ref o), .val (.int p1), .val (.int p2)] [(.int (7 : Int32)), (.int p2), (.ref o)]))
                  refine own_to (fun t k => XS.iadd X81.here hx rfl (hb hby own_d3_93) rfl k) ?_
                  show own_Fin _ _ _ _ _ _ (T81.setTop (mkF m 94 #[.val (.ref o), .val (.int p1), .val (.int p2)] [(.int (p2 + (7 : Int32))), (.ref o)]))
                  obtain ⟨cq83, kq83, q83a, q83b, q83c⟩ := isOf hZ rfl Es
                  obtain ⟨_, _, ⟨T83, L83, k83, n83⟩, -, X83, ⟨Lc83, hQ83, l83, y83, z83⟩, st83⟩ := X81.virtualBack hx (y := (⟨"com/example/walk_to_worth/walktoworth/graph/IntSequence", "add", "(I)V"⟩ : MethodName)) (z := (⟨"com/example/walk_to_worth/walktoworth/graph/IntSequence", "add", "(I)V"⟩ : MethodName)) hown (mvT hZ (hw _ (List.mem_of_getElem? (i := 25) rfl))) (mvT hZ (hw _ (List.mem_of_getElem? (i := 26) rfl))) (notFace_of_selects (args := #[]) (mvT hZ (hw _ (List.mem_of_getElem? (i := 28) rfl)))) (mvT hZ (hw _ (List.mem_of_getElem? (i := 28) rfl))) (mvT hZ (hw _ (List.mem_of_getElem? (i := 27) rfl))) (by decide) (own_back (W := 0) (own_addB l Z a0 hw [] o B kB L1 (1 : Int32) (7 : Int32) (16 : Int32) [(.ref L1), .null, .null, .null, .null, .null, .null, .null] (p2 + (7 : Int32)) T81.heap n0 (Nat.le_trans (Nat.le_trans (Nat.le_trans (Nat.le_trans (Nat.le_trans (Nat.le_trans (Nat.le_trans Z0 K69.1) K71.1) K73.1) K75.1) K77.1) K79.1) K81.1) g_o g_B neB hO ⟨Es, Fb, Fc, Fl, Fu, Vb⟩ L_La ne_o_L1 ne_B_L1 g_L1 (by decide) (by decide) (by decide)) hZ (hw _ (List.mem_of_getElem? (i := 29) rfl)) (hw _ (List.mem_of_getElem? (i := 3) rfl)) (by decide) (by decide)) q83a q83c (g := (mkF m 94 #[.val (.ref o), .val (.int p1), .val (.int p2)] [(.int (p2 + (7 : Int32))), (.ref o)])) rfl (by rw [hml]; rfl) (Steps.refl _) (argsL := [(.int (p2 + (7 : Int32)))]) (rest := []) (lenOf own_pd2 rfl) rfl (by show 2 * 0 + _ ≤ _; exact Nat.le_of_eq rfl) (hb hby own_d3_94) (fun _ _ => ⟨rfl, rfl, (by decide : 1 + 0 ≤ _), (by decide : 16 + 0 ≤ _)⟩)
                  dsimp only [Pt.U, Pt.locs, Pt.cells, Pt.slots] at X83 l83 y83 z83 st83 hQ83
                  subst l83 y83 z83
                  obtain ⟨rfl, N83q, K83, hS2, L_La⟩ := hQ83
                  have N83 := Fr.app N81 N83q
                  have KK83 : Keep h0 T83.heap [o, B] := KK81.trans K83 (allS (Or.inl (List.mem_of_getElem? (i := 0) rfl)) (allS (Or.inr sz_L1) all0))
                  have Es_e83 := Es.keep K83
                  have Vb_e83 := Vb.keep K83 (ninS (Ne.symm neB) (ninS ne_B_L1 nin0))
                  refine own_to (fun t k => st83.trans k) ?_
                  show own_Fin _ _ _ _ _ _ (T83.setTop (mkF m 97 #[.val (.ref o), .val (.int p1), .val (.int p2)] []))
                  rw [show ((7 : Int32) + (1 : Int32)) = (8 : Int32) from by decide] at hS2
                  obtain ⟨Es, Fb, Fc, Fl, Fu, Vb⟩ := hS2
                  refine own_to (fun t k => XS.iloadN X83.here hx rfl (hb hby own_d3_97) rfl k) ?_
                  show own_Fin _ _ _ _ _ _ (T83.setTop (mkF m 98 #[.val (.ref o), .val (.int p1), .val (.int p2)] [(.int p1)]))
                  refine own_to (fun t k => XS.bipush X83.here hx rfl (hb hby own_d3_98) k) ?_
                  show own_Fin _ _ _ _ _ _ (T83.setTop (mkF m 100 #[.val (.ref o), .val (.int p1), .val (.int p2)] [(.int (8 : Int32)), (.int p1)]))
                  by_cases hf84 : (8 : Int32) < p1
                  ·
                    show own_Fin _ _ _ _ _ _ (T83.setTop (mkF m 100 #[.val (.ref o), .val (.int p1), .val (.int p2)] [(.int (8 : Int32)), (.int p1)]))
                    refine own_to (fun t k => XS.icmpNo X83.here hx rfl (hb hby own_d3_100) rfl (tlt hf84).2.2.2 k) ?_
                    show own_Fin _ _ _ _ _ _ (T83.setTop (mkF m 103 #[.val (.ref o), .val (.int p1), .val (.int p2)] []))
                    refine own_to (fun t k => XS.aloadN X83.here hx rfl (hb hby own_d3_103) rfl rfl k) ?_
                    show own_Fin _ _ _ _ _ _ (T83.setTop (mkF m 104 #[.val (.ref o), .val (.int p1), .val (.int p2)] [(.ref o)]))
                    refine own_to (fun t k => XS.iloadN X83.here hx rfl (hb hby own_d3_104) rfl k) ?_
                    show own_Fin _ _ _ _ _ _ (T83.setTop (mkF m 105 #[.val (.ref o), .val (.int p1), .val (.int p2)] [(.int p2), (.ref o)]))
                    refine own_to (fun t k => XS.bipush X83.here hx rfl (hb hby own_d3_105) k) ?_
                    show own_Fin _ _ _ _ _ _ (T83.setTop (mkF m 107 #[.val (.ref o), .val (.int p1), .val (.int p2)] [(.int (8 : Int32)), (.int p2), (.ref o)]))
                    refine own_to (fun t k => XS.iadd X83.here hx rfl (hb hby own_d3_107) rfl k) ?_
                    show own_Fin _ _ _ _ _ _ (T83.setTop (mkF m 108 #[.val (.ref o), .val (.int p1), .val (.int p2)] [(.int (p2 + (8 : Int32))), (.ref o)]))
                    obtain ⟨cq85, kq85, q85a, q85b, q85c⟩ := isOf hZ rfl Es
                    obtain ⟨_, _, ⟨T85, L85, k85, n85⟩, -, X85, ⟨Lc85, hQ85, l85, y85, z85⟩, st85⟩ := X83.virtualBack hx (y := (⟨"com/example/walk_to_worth/walktoworth/graph/IntSequence", "add", "(I)V"⟩ : MethodName)) (z := (⟨"com/example/walk_to_worth/walktoworth/graph/IntSequence", "add", "(I)V"⟩ : MethodName)) hown (mvT hZ (hw _ (List.mem_of_getElem? (i := 25) rfl))) (mvT hZ (hw _ (List.mem_of_getElem? (i := 26) rfl))) (notFace_of_selects (args := #[]) (mvT hZ (hw _ (List.mem_of_getElem? (i := 28) rfl)))) (mvT hZ (hw _ (List.mem_of_getElem? (i := 28) rfl))) (mvT hZ (hw _ (List.mem_of_getElem? (i := 27) rfl))) (by decide) (own_back (W := 0) (own_addB l Z a0 hw [] o B kB L1 (1 : Int32) (8 : Int32) (16 : Int32) [(.ref L1), .null, .null, .null, .null, .null, .null, .null] (p2 + (8 : Int32)) T83.heap n0 (Nat.le_trans (Nat.le_trans (Nat.le_trans (Nat.le_trans (Nat.le_trans (Nat.le_trans (Nat.le_trans (Nat.le_trans Z0 K69.1) K71.1) K73.1) K75.1) K77.1) K79.1) K81.1) K83.1) g_o g_B neB hO ⟨Es, Fb, Fc, Fl, Fu, Vb⟩ L_La ne_o_L1 ne_B_L1 g_L1 (by decide) (by decide) (by decide)) hZ (hw _ (List.mem_of_getElem? (i := 29) rfl)) (hw _ (List.mem_of_getElem? (i := 3) rfl)) (by decide) (by decide)) q85a q85c (g := (mkF m 108 #[.val (.ref o), .val (.int p1), .val (.int p2)] [(.int (p2 + (8 : Int32))), (.ref o)])) rfl (by rw [hml]; rfl) (Steps.refl _) (argsL := [(.int (p2 + (8 : Int32)))]) (rest := []) (lenOf own_pd2 rfl) rfl (by show 2 * 0 + _ ≤ _; exact Nat.le_of_eq rfl) (hb hby own_d3_108) (fun _ _ => ⟨rfl, rfl, (by decide : 1 + 0 ≤ _), (by decide : 16 + 0 ≤ _)⟩)
                    dsimp only [Pt.U, Pt.locs, Pt.cells, Pt.slots] at X85 l85 y85 z85 st85 hQ85
                    subst l85 y85 z85
                    obtain ⟨rfl, N85q, K85, hS2, L_La⟩ := hQ85
                    have N85 := Fr.app N83 N85q
                    have KK85 : Keep h0 T85.heap [o, B] := KK83.trans K85 (allS (Or.inl (List.mem_of_getElem? (i := 0) rfl)) (allS (Or.inr sz_L1) all0))
                    have Es_e85 := Es.keep K85
                    have Vb_e85 := Vb.keep K85 (ninS (Ne.symm neB) (ninS ne_B_L1 nin0))
                    refine own_to (fun t k => st85.trans k) ?_
                    show own_Fin _ _ _ _ _ _ (T85.setTop (mkF m 111 #[.val (.ref o), .val (.int p1), .val (.int p2)] []))
                    rw [show ((8 : Int32) + (1 : Int32)) = (9 : Int32) from by decide] at hS2
                    obtain ⟨Es, Fb, Fc, Fl, Fu, Vb⟩ := hS2
                    refine own_to (fun t k => XS.iloadN X85.here hx rfl (hb hby own_d3_111) rfl k) ?_
                    show own_Fin _ _ _ _ _ _ (T85.setTop (mkF m 112 #[.val (.ref o), .val (.int p1), .val (.int p2)] [(.int p1)]))
                    refine own_to (fun t k => XS.bipush X85.here hx rfl (hb hby own_d3_112) k) ?_
                    show own_Fin _ _ _ _ _ _ (T85.setTop (mkF m 114 #[.val (.ref o), .val (.int p1), .val (.int p2)] [(.int (9 : Int32)), (.int p1)]))
                    by_cases hf86 : (9 : Int32) < p1
                    ·
                      show own_Fin _ _ _ _ _ _ (T85.setTop (mkF m 114 #[.val (.ref o), .val (.int p1), .val (.int p2)] [(.int (9 : Int32)), (.int p1)]))
                      refine own_to (fun t k => XS.icmpNo X85.here hx rfl (hb hby own_d3_114) rfl (tlt hf86).2.2.2 k) ?_
                      show own_Fin _ _ _ _ _ _ (T85.setTop (mkF m 117 #[.val (.ref o), .val (.int p1), .val (.int p2)] []))
                      refine own_to (fun t k => XS.aloadN X85.here hx rfl (hb hby own_d3_117) rfl rfl k) ?_
                      show own_Fin _ _ _ _ _ _ (T85.setTop (mkF m 118 #[.val (.ref o), .val (.int p1), .val (.int p2)] [(.ref o)]))
                      refine own_to (fun t k => XS.iloadN X85.here hx rfl (hb hby own_d3_118) rfl k) ?_
                      show own_Fin _ _ _ _ _ _ (T85.setTop (mkF m 119 #[.val (.ref o), .val (.int p1), .val (.int p2)] [(.int p2), (.ref o)]))
                      refine own_to (fun t k => XS.bipush X85.here hx rfl (hb hby own_d3_119) k) ?_
                      show own_Fin _ _ _ _ _ _ (T85.setTop (mkF m 121 #[.val (.ref o), .val (.int p1), .val (.int p2)] [(.int (9 : Int32)), (.int p2), (.ref o)]))
                      refine own_to (fun t k => XS.iadd X85.here hx rfl (hb hby own_d3_121) rfl k) ?_
                      show own_Fin _ _ _ _ _ _ (T85.setTop (mkF m 122 #[.val (.ref o), .val (.int p1), .val (.int p2)] [(.int (p2 + (9 : Int32))), (.ref o)]))
                      obtain ⟨cq87, kq87, q87a, q87b, q87c⟩ := isOf hZ rfl Es
                      obtain ⟨_, _, ⟨T87, L87, k87, n87⟩, -, X87, ⟨Lc87, hQ87, l87, y87, z87⟩, st87⟩ := X85.virtualBack hx (y := (⟨"com/example/walk_to_worth/walktoworth/graph/IntSequence", "add", "(I)V"⟩ : MethodName)) (z := (⟨"com/example/walk_to_worth/walktoworth/graph/IntSequence", "add", "(I)V"⟩ : MethodName)) hown (mvT hZ (hw _ (List.mem_of_getElem? (i := 25) rfl))) (mvT hZ (hw _ (List.mem_of_getElem? (i := 26) rfl))) (notFace_of_selects (args := #[]) (mvT hZ (hw _ (List.mem_of_getElem? (i := 28) rfl)))) (mvT hZ (hw _ (List.mem_of_getElem? (i := 28) rfl))) (mvT hZ (hw _ (List.mem_of_getElem? (i := 27) rfl))) (by decide) (own_back (W := 0) (own_addB l Z a0 hw [] o B kB L1 (1 : Int32) (9 : Int32) (16 : Int32) [(.ref L1), .null, .null, .null, .null, .null, .null, .null] (p2 + (9 : Int32)) T85.heap n0 (Nat.le_trans (Nat.le_trans (Nat.le_trans (Nat.le_trans (Nat.le_trans (Nat.le_trans (Nat.le_trans (Nat.le_trans (Nat.le_trans Z0 K69.1) K71.1) K73.1) K75.1) K77.1) K79.1) K81.1) K83.1) K85.1) g_o g_B neB hO ⟨Es, Fb, Fc, Fl, Fu, Vb⟩ L_La ne_o_L1 ne_B_L1 g_L1 (by decide) (by decide) (by decide)) hZ (hw _ (List.mem_of_getElem? (i := 29) rfl)) (hw _ (List.mem_of_getElem? (i := 3) rfl)) (by decide) (by decide)) q87a q87c (g := (mkF m 122 #[.val (.ref o), .val (.int p1), .val (.int p2)] [(.int (p2 + (9 : Int32))), (.ref o)])) rfl (by rw [hml]; rfl) (Steps.refl _) (argsL := [(.int (p2 + (9 : Int32)))]) (rest := []) (lenOf own_pd2 rfl) rfl (by show 2 * 0 + _ ≤ _; exact Nat.le_of_eq rfl) (hb hby own_d3_122) (fun _ _ => ⟨rfl, rfl, (by decide : 1 + 0 ≤ _), (by decide : 16 + 0 ≤ _)⟩)
                      dsimp only [Pt.U, Pt.locs, Pt.cells, Pt.slots] at X87 l87 y87 z87 st87 hQ87
                      subst l87 y87 z87
                      obtain ⟨rfl, N87q, K87, hS2, L_La⟩ := hQ87
                      have N87 := Fr.app N85 N87q
                      have KK87 : Keep h0 T87.heap [o, B] := KK85.trans K87 (allS (Or.inl (List.mem_of_getElem? (i := 0) rfl)) (allS (Or.inr sz_L1) all0))
                      have Es_e87 := Es.keep K87
                      have Vb_e87 := Vb.keep K87 (ninS (Ne.symm neB) (ninS ne_B_L1 nin0))
                      refine own_to (fun t k => st87.trans k) ?_
                      show own_Fin _ _ _ _ _ _ (T87.setTop (mkF m 125 #[.val (.ref o), .val (.int p1), .val (.int p2)] []))
                      rw [show ((9 : Int32) + (1 : Int32)) = (10 : Int32) from by decide] at hS2
                      obtain ⟨Es, Fb, Fc, Fl, Fu, Vb⟩ := hS2
                      refine own_to (fun t k => XS.iloadN X87.here hx rfl (hb hby own_d3_125) rfl k) ?_
                      show own_Fin _ _ _ _ _ _ (T87.setTop (mkF m 126 #[.val (.ref o), .val (.int p1), .val (.int p2)] [(.int p1)]))
                      refine own_to (fun t k => XS.bipush X87.here hx rfl (hb hby own_d3_126) k) ?_
                      show own_Fin _ _ _ _ _ _ (T87.setTop (mkF m 128 #[.val (.ref o), .val (.int p1), .val (.int p2)] [(.int (10 : Int32)), (.int p1)]))
                      by_cases hf88 : (10 : Int32) < p1
                      ·
                        show own_Fin _ _ _ _ _ _ (T87.setTop (mkF m 128 #[.val (.ref o), .val (.int p1), .val (.int p2)] [(.int (10 : Int32)), (.int p1)]))
                        refine own_to (fun t k => XS.icmpNo X87.here hx rfl (hb hby own_d3_128) rfl (tlt hf88).2.2.2 k) ?_
                        show own_Fin _ _ _ _ _ _ (T87.setTop (mkF m 131 #[.val (.ref o), .val (.int p1), .val (.int p2)] []))
                        refine own_to (fun t k => XS.aloadN X87.here hx rfl (hb hby own_d3_131) rfl rfl k) ?_
                        show own_Fin _ _ _ _ _ _ (T87.setTop (mkF m 132 #[.val (.ref o), .val (.int p1), .val (.int p2)] [(.ref o)]))
                        refine own_to (fun t k => XS.iloadN X87.here hx rfl (hb hby own_d3_132) rfl k) ?_
                        show own_Fin _ _ _ _ _ _ (T87.setTop (mkF m 133 #[.val (.ref o), .val (.int p1), .val (.int p2)] [(.int p2), (.ref o)]))
                        refine own_to (fun t k => XS.bipush X87.here hx rfl (hb hby own_d3_133) k) ?_
                        show own_Fin _ _ _ _ _ _ (T87.setTop (mkF m 135 #[.val (.ref o), .val (.int p1), .val (.int p2)] [(.int (10 : Int32)), (.int p2), (.ref o)]))
                        refine own_to (fun t k => XS.iadd X87.here hx rfl (hb hby own_d3_135) rfl k) ?_
                        show own_Fin _ _ _ _ _ _ (T87.setTop (mkF m 136 #[.val (.ref o), .val (.int p1), .val (.int p2)] [(.int (p2 + (10 : Int32))), (.ref o)]))
                        obtain ⟨cq89, kq89, q89a, q89b, q89c⟩ := isOf hZ rfl Es
                        obtain ⟨_, _, ⟨T89, L89, k89, n89⟩, -, X89, ⟨Lc89, hQ89, l89, y89, z89⟩, st89⟩ := X87.virtualBack hx (y := (⟨"com/example/walk_to_worth/walktoworth/graph/IntSequence", "add", "(I)V"⟩ : MethodName)) (z := (⟨"com/example/walk_to_worth/walktoworth/graph/IntSequence", "add", "(I)V"⟩ : MethodName)) hown (mvT hZ (hw _ (List.mem_of_getElem? (i := 25) rfl))) (mvT hZ (hw _ (List.mem_of_getElem? (i := 26) rfl))) (notFace_of_selects (args := #[]) (mvT hZ (hw _ (List.mem_of_getElem? (i := 28) rfl)))) (mvT hZ (hw _ (List.mem_of_getElem? (i := 28) rfl))) (mvT hZ (hw _ (List.mem_of_getElem? (i := 27) rfl))) (by decide) (own_back (W := 0) (own_addB l Z a0 hw [] o B kB L1 (1 : Int32) (10 : Int32) (16 : Int32) [(.ref L1), .null, .null, .null, .null, .null, .null, .null] (p2 + (10 : Int32)) T87.heap n0 (Nat.le_trans (Nat.le_trans (Nat.le_trans (Nat.le_trans (Nat.le_trans (Nat.le_trans (Nat.le_trans (Nat.le_trans (Nat.le_trans (Nat.le_trans Z0 K69.1) K71.1) K73.1) K75.1) K77.1) K79.1) K81.1) K83.1) K85.1) K87.1) g_o g_B neB hO ⟨Es, Fb, Fc, Fl, Fu, Vb⟩ L_La ne_o_L1 ne_B_L1 g_L1 (by decide) (by decide) (by decide)) hZ (hw _ (List.mem_of_getElem? (i := 29) rfl)) (hw _ (List.mem_of_getElem? (i := 3) rfl)) (by decide) (by decide)) q89a q89c (g := (mkF m 136 #[.val (.ref o), .val (.int p1), .val (.int p2)] [(.int (p2 + (10 : Int32))), (.ref o)])) rfl (by rw [hml]; rfl) (Steps.refl _) (argsL := [(.int (p2 + (10 : Int32)))]) (rest := []) (lenOf own_pd2 rfl) rfl (by show 2 * 0 + _ ≤ _; exact Nat.le_of_eq rfl) (hb hby own_d3_136) (fun _ _ => ⟨rfl, rfl, (by decide : 1 + 0 ≤ _), (by decide : 16 + 0 ≤ _)⟩)
                        dsimp only [Pt.U, Pt.locs, Pt.cells, Pt.slots] at X89 l89 y89 z89 st89 hQ89
                        subst l89 y89 z89
                        obtain ⟨rfl, N89q, K89, hS2, L_La⟩ := hQ89
                        have N89 := Fr.app N87 N89q
                        have KK89 : Keep h0 T89.heap [o, B] := KK87.trans K89 (allS (Or.inl (List.mem_of_getElem? (i := 0) rfl)) (allS (Or.inr sz_L1) all0))
                        have Es_e89 := Es.keep K89
                        have Vb_e89 := Vb.keep K89 (ninS (Ne.symm neB) (ninS ne_B_L1 nin0))
                        refine own_to (fun t k => st89.trans k) ?_
                        show own_Fin _ _ _ _ _ _ (T89.setTop (mkF m 139 #[.val (.ref o), .val (.int p1), .val (.int p2)] []))
                        rw [show ((10 : Int32) + (1 : Int32)) = (11 : Int32) from by decide] at hS2
                        obtain ⟨Es, Fb, Fc, Fl, Fu, Vb⟩ := hS2
                        refine own_to (fun t k => XS.iloadN X89.here hx rfl (hb hby own_d3_139) rfl k) ?_
                        show own_Fin _ _ _ _ _ _ (T89.setTop (mkF m 140 #[.val (.ref o), .val (.int p1), .val (.int p2)] [(.int p1)]))
                        refine own_to (fun t k => XS.bipush X89.here hx rfl (hb hby own_d3_140) k) ?_
                        show own_Fin _ _ _ _ _ _ (T89.setTop (mkF m 142 #[.val (.ref o), .val (.int p1), .val (.int p2)] [(.int (11 : Int32)), (.int p1)]))
                        by_cases hf90 : (11 : Int32) < p1
                        ·
                          show own_Fin _ _ _ _ _ _ (T89.setTop (mkF m 142 #[.val (.ref o), .val (.int p1), .val (.int p2)] [(.int (11 : Int32)), (.int p1)]))
                          refine own_to (fun t k => XS.icmpNo X89.here hx rfl (hb hby own_d3_142) rfl (tlt hf90).2.2.2 k) ?_
                          show own_Fin _ _ _ _ _ _ (T89.setTop (mkF m 145 #[.val (.ref o), .val (.int p1), .val (.int p2)] []))
                          refine own_to (fun t k => XS.aloadN X89.here hx rfl (hb hby own_d3_145) rfl rfl k) ?_
                          show own_Fin _ _ _ _ _ _ (T89.setTop (mkF m 146 #[.val (.ref o), .val (.int p1), .val (.int p2)] [(.ref o)]))
                          refine own_to (fun t k => XS.iloadN X89.here hx rfl (hb hby own_d3_146) rfl k) ?_
                          show own_Fin _ _ _ _ _ _ (T89.setTop (mkF m 147 #[.val (.ref o), .val (.int p1), .val (.int p2)] [(.int p2), (.ref o)]))
                          refine own_to (fun t k => XS.bipush X89.here hx rfl (hb hby own_d3_147) k) ?_
                          show own_Fin _ _ _ _ _ _ (T89.setTop (mkF m 149 #[.val (.ref o), .val (.int p1), .val (.int p2)] [(.int (11 : Int32)), (.int p2), (.ref o)]))
                          refine own_to (fun t k => XS.iadd X89.here hx rfl (hb hby own_d3_149) rfl k) ?_
                          show own_Fin _ _ _ _ _ _ (T89.setTop (mkF m 150 #[.val (.ref o), .val (.int p1), .val (.int p2)] [(.int (p2 + (11 : Int32))), (.ref o)]))
                          obtain ⟨cq91, kq91, q91a, q91b, q91c⟩ := isOf hZ rfl Es
                          obtain ⟨_, _, ⟨T91, L91, k91, n91⟩, -, X91, ⟨Lc91, hQ91, l91, y91, z91⟩, st91⟩ := X89.virtualBack hx (y := (⟨"com/example/walk_to_worth/walktoworth/graph/IntSequence", "add", "(I)V"⟩ : MethodName)) (z := (⟨"com/example/walk_to_worth/walktoworth/graph/IntSequence", "add", "(I)V"⟩ : MethodName)) hown (mvT hZ (hw _ (List.mem_of_getElem? (i := 25) rfl))) (mvT hZ (hw _ (List.mem_of_getElem? (i := 26) rfl))) (notFace_of_selects (args := #[]) (mvT hZ (hw _ (List.mem_of_getElem? (i := 28) rfl)))) (mvT hZ (hw _ (List.mem_of_getElem? (i := 28) rfl))) (mvT hZ (hw _ (List.mem_of_getElem? (i := 27) rfl))) (by decide) (own_back (W := 0) (own_addB l Z a0 hw [] o B kB L1 (1 : Int32) (11 : Int32) (16 : Int32) [(.ref L1), .null, .null, .null, .null, .null, .null, .null] (p2 + (11 : Int32)) T89.heap n0 (Nat.le_trans (Nat.le_trans (Nat.le_trans (Nat.le_trans (Nat.le_trans (Nat.le_trans (Nat.le_trans (Nat.le_trans (Nat.le_trans (Nat.le_trans (Nat.le_trans Z0 K69.1) K71.1) K73.1) K75.1) K77.1) K79.1) K81.1) K83.1) K85.1) K87.1) K89.1) g_o g_B neB hO ⟨Es, Fb, Fc, Fl, Fu, Vb⟩ L_La ne_o_L1 ne_B_L1 g_L1 (by decide) (by decide) (by decide)) hZ (hw _ (List.mem_of_getElem? (i := 29) rfl)) (hw _ (List.mem_of_getElem? (i := 3) rfl)) (by decide) (by decide)) q91a q91c (g := (mkF m 150 #[.val (.ref o), .val (.int p1), .val (.int p2)] [(.int (p2 + (11 : Int32))), (.ref o)])) rfl (by rw [hml]; rfl) (Steps.refl _) (argsL := [(.int (p2 + (11 : Int32)))]) (rest := []) (lenOf own_pd2 rfl) rfl (by show 2 * 0 + _ ≤ _; exact Nat.le_of_eq rfl) (hb hby own_d3_150) (fun _ _ => ⟨rfl, rfl, (by decide : 1 + 0 ≤ _), (by decide : 16 + 0 ≤ _)⟩)
                          dsimp only [Pt.U, Pt.locs, Pt.cells, Pt.slots] at X91 l91 y91 z91 st91 hQ91
                          subst l91 y91 z91
                          obtain ⟨rfl, N91q, K91, hS2, L_La⟩ := hQ91
                          have N91 := Fr.app N89 N91q
                          have KK91 : Keep h0 T91.heap [o, B] := KK89.trans K91 (allS (Or.inl (List.mem_of_getElem? (i := 0) rfl)) (allS (Or.inr sz_L1) all0))
                          have Es_e91 := Es.keep K91
                          have Vb_e91 := Vb.keep K91 (ninS (Ne.symm neB) (ninS ne_B_L1 nin0))
                          refine own_to (fun t k => st91.trans k) ?_
                          show own_Fin _ _ _ _ _ _ (T91.setTop (mkF m 153 #[.val (.ref o), .val (.int p1), .val (.int p2)] []))
                          rw [show ((11 : Int32) + (1 : Int32)) = (12 : Int32) from by decide] at hS2
                          obtain ⟨Es, Fb, Fc, Fl, Fu, Vb⟩ := hS2
                          refine own_to (fun t k => XS.iloadN X91.here hx rfl (hb hby own_d3_153) rfl k) ?_
                          show own_Fin _ _ _ _ _ _ (T91.setTop (mkF m 154 #[.val (.ref o), .val (.int p1), .val (.int p2)] [(.int p1)]))
                          refine own_to (fun t k => XS.bipush X91.here hx rfl (hb hby own_d3_154) k) ?_
                          show own_Fin _ _ _ _ _ _ (T91.setTop (mkF m 156 #[.val (.ref o), .val (.int p1), .val (.int p2)] [(.int (12 : Int32)), (.int p1)]))
                          by_cases hf92 : (12 : Int32) < p1
                          ·
                            show own_Fin _ _ _ _ _ _ (T91.setTop (mkF m 156 #[.val (.ref o), .val (.int p1), .val (.int p2)] [(.int (12 : Int32)), (.int p1)]))
                            refine own_to (fun t k => XS.icmpNo X91.here hx rfl (hb hby own_d3_156) rfl (tlt hf92).2.2.2 k) ?_
                            show own_Fin _ _ _ _ _ _ (T91.setTop (mkF m 159 #[.val (.ref o), .val (.int p1), .val (.int p2)] []))
                            refine own_to (fun t k => XS.aloadN X91.here hx rfl (hb hby own_d3_159) rfl rfl k) ?_
                            show own_Fin _ _ _ _ _ _ (T91.setTop (mkF m 160 #[.val (.ref o), .val (.int p1), .val (.int p2)] [(.ref o)]))
                            refine own_to (fun t k => XS.iloadN X91.here hx rfl (hb hby own_d3_160) rfl k) ?_
                            show own_Fin _ _ _ _ _ _ (T91.setTop (mkF m 161 #[.val (.ref o), .val (.int p1), .val (.int p2)] [(.int p2), (.ref o)]))
                            refine own_to (fun t k => XS.bipush X91.here hx rfl (hb hby own_d3_161) k) ?_
                            show own_Fin _ _ _ _ _ _ (T91.setTop (mkF m 163 #[.val (.ref o), .val (.int p1), .val (.int p2)] [(.int (12 : Int32)), (.int p2), (.ref o)]))
                            refine own_to (fun t k => XS.iadd X91.here hx rfl (hb hby own_d3_163) rfl k) ?_
                            show own_Fin _ _ _ _ _ _ (T91.setTop (mkF m 164 #[.val (.ref o), .val (.int p1), .val (.int p2)] [(.int (p2 + (12 : Int32))), (.ref o)]))
                            obtain ⟨cq93, kq93, q93a, q93b, q93c⟩ := isOf hZ rfl Es
                            obtain ⟨_, _, ⟨T93, L93, k93, n93⟩, -, X93, ⟨Lc93, hQ93, l93, y93, z93⟩, st93⟩ := X91.virtualBack hx (y := (⟨"com/example/walk_to_worth/walktoworth/graph/IntSequence", "add", "(I)V"⟩ : MethodName)) (z := (⟨"com/example/walk_to_worth/walktoworth/graph/IntSequence", "add", "(I)V"⟩ : MethodName)) hown (mvT hZ (hw _ (List.mem_of_getElem? (i := 25) rfl))) (mvT hZ (hw _ (List.mem_of_getElem? (i := 26) rfl))) (notFace_of_selects (args := #[]) (mvT hZ (hw _ (List.mem_of_getElem? (i := 28) rfl)))) (mvT hZ (hw _ (List.mem_of_getElem? (i := 28) rfl))) (mvT hZ (hw _ (List.mem_of_getElem? (i := 27) rfl))) (by decide) (own_back (W := 0) (own_addB l Z a0 hw [] o B kB L1 (1 : Int32) (12 : Int32) (16 : Int32) [(.ref L1), .null, .null, .null, .null, .null, .null, .null] (p2 + (12 : Int32)) T91.heap n0 (Nat.le_trans (Nat.le_trans (Nat.le_trans (Nat.le_trans (Nat.le_trans (Nat.le_trans (Nat.le_trans (Nat.le_trans (Nat.le_trans (Nat.le_trans (Nat.le_trans (Nat.le_trans Z0 K69.1) K71.1) K73.1) K75.1) K77.1) K79.1) K81.1) K83.1) K85.1) K87.1) K89.1) K91.1) g_o g_B neB hO ⟨Es, Fb, Fc, Fl, Fu, Vb⟩ L_La ne_o_L1 ne_B_L1 g_L1 (by decide) (by decide) (by decide)) hZ (hw _ (List.mem_of_getElem? (i := 29) rfl)) (hw _ (List.mem_of_getElem? (i := 3) rfl)) (by decide) (by decide)) q93a q93c (g := (mkF m 164 #[.val (.ref o), .val (.int p1), .val (.int p2)] [(.int (p2 + (12 : Int32))), (.ref o)])) rfl (by rw [hml]; rfl) (Steps.refl _) (argsL := [(.int (p2 + (12 : Int32)))]) (rest := []) (lenOf own_pd2 rfl) rfl (by show 2 * 0 + _ ≤ _; exact Nat.le_of_eq rfl) (hb hby own_d3_164) (fun _ _ => ⟨rfl, rfl, (by decide : 1 + 0 ≤ _), (by decide : 16 + 0 ≤ _)⟩)
                            dsimp only [Pt.U, Pt.locs, Pt.cells, Pt.slots] at X93 l93 y93 z93 st93 hQ93
                            subst l93 y93 z93
                            obtain ⟨rfl, N93q, K93, hS2, L_La⟩ := hQ93
                            have N93 := Fr.app N91 N93q
                            have KK93 : Keep h0 T93.heap [o, B] := KK91.trans K93 (allS (Or.inl (List.mem_of_getElem? (i := 0) rfl)) (allS (Or.inr sz_L1) all0))
                            have Es_e93 := Es.keep K93
                            have Vb_e93 := Vb.keep K93 (ninS (Ne.symm neB) (ninS ne_B_L1 nin0))
                            refine own_to (fun t k => st93.trans k) ?_
                            show own_Fin _ _ _ _ _ _ (T93.setTop (mkF m 167 #[.val (.ref o), .val (.int p1), .val (.int p2)] []))
                            rw [show ((12 : Int32) + (1 : Int32)) = (13 : Int32) from by decide] at hS2
                            obtain ⟨Es, Fb, Fc, Fl, Fu, Vb⟩ := hS2
                            refine own_to (fun t k => XS.iloadN X93.here hx rfl (hb hby own_d3_167) rfl k) ?_
                            show own_Fin _ _ _ _ _ _ (T93.setTop (mkF m 168 #[.val (.ref o), .val (.int p1), .val (.int p2)] [(.int p1)]))
                            refine own_to (fun t k => XS.bipush X93.here hx rfl (hb hby own_d3_168) k) ?_
                            show own_Fin _ _ _ _ _ _ (T93.setTop (mkF m 170 #[.val (.ref o), .val (.int p1), .val (.int p2)] [(.int (13 : Int32)), (.int p1)]))
                            by_cases hf94 : (13 : Int32) < p1
                            ·
                              show own_Fin _ _ _ _ _ _ (T93.setTop (mkF m 170 #[.val (.ref o), .val (.int p1), .val (.int p2)] [(.int (13 : Int32)), (.int p1)]))
                              refine own_to (fun t k => XS.icmpNo X93.here hx rfl (hb hby own_d3_170) rfl (tlt hf94).2.2.2 k) ?_
                              show own_Fin _ _ _ _ _ _ (T93.setTop (mkF m 173 #[.val (.ref o), .val (.int p1), .val (.int p2)] []))
                              refine own_to (fun t k => XS.aloadN X93.here hx rfl (hb hby own_d3_173) rfl rfl k) ?_
                              show own_Fin _ _ _ _ _ _ (T93.setTop (mkF m 174 #[.val (.ref o), .val (.int p1), .val (.int p2)] [(.ref o)]))
                              refine own_to (fun t k => XS.iloadN X93.here hx rfl (hb hby own_d3_174) rfl k) ?_
                              show own_Fin _ _ _ _ _ _ (T93.setTop (mkF m 175 #[.val (.ref o), .val (.int p1), .val (.int p2)] [(.int p2), (.ref o)]))
                              refine own_to (fun t k => XS.bipush X93.here hx rfl (hb hby own_d3_175) k) ?_
                              show own_Fin _ _ _ _ _ _ (T93.setTop (mkF m 177 #[.val (.ref o), .val (.int p1), .val (.int p2)] [(.int (13 : Int32)), (.int p2), (.ref o)]))
                              refine own_to (fun t k => XS.iadd X93.here hx rfl (hb hby own_d3_177) rfl k) ?_
                              show own_Fin _ _ _ _ _ _ (T93.setTop (mkF m 178 #[.val (.ref o), .val (.int p1), .val (.int p2)] [(.int (p2 + (13 : Int32))), (.ref o)]))
                              obtain ⟨cq95, kq95, q95a, q95b, q95c⟩ := isOf hZ rfl Es
                              obtain ⟨_, _, ⟨T95, L95, k95, n95⟩, -, X95, ⟨Lc95, hQ95, l95, y95, z95⟩, st95⟩ := X93.virtualBack hx (y := (⟨"com/example/walk_to_worth/walktoworth/graph/IntSequence", "add", "(I)V"⟩ : MethodName)) (z := (⟨"com/example/walk_to_worth/walktoworth/graph/IntSequence", "add", "(I)V"⟩ : MethodName)) hown (mvT hZ (hw _ (List.mem_of_getElem? (i := 25) rfl))) (mvT hZ (hw _ (List.mem_of_getElem? (i := 26) rfl))) (notFace_of_selects (args := #[]) (mvT hZ (hw _ (List.mem_of_getElem? (i := 28) rfl)))) (mvT hZ (hw _ (List.mem_of_getElem? (i := 28) rfl))) (mvT hZ (hw _ (List.mem_of_getElem? (i := 27) rfl))) (by decide) (own_back (W := 0) (own_addB l Z a0 hw [] o B kB L1 (1 : Int32) (13 : Int32) (16 : Int32) [(.ref L1), .null, .null, .null, .null, .null, .null, .null] (p2 + (13 : Int32)) T93.heap n0 (Nat.le_trans (Nat.le_trans (Nat.le_trans (Nat.le_trans (Nat.le_trans (Nat.le_trans (Nat.le_trans (Nat.le_trans (Nat.le_trans (Nat.le_trans (Nat.le_trans (Nat.le_trans (Nat.le_trans Z0 K69.1) K71.1) K73.1) K75.1) K77.1) K79.1) K81.1) K83.1) K85.1) K87.1) K89.1) K91.1) K93.1) g_o g_B neB hO ⟨Es, Fb, Fc, Fl, Fu, Vb⟩ L_La ne_o_L1 ne_B_L1 g_L1 (by decide) (by decide) (by decide)) hZ (hw _ (List.mem_of_getElem? (i := 29) rfl)) (hw _ (List.mem_of_getElem? (i := 3) rfl)) (by decide) (by decide)) q95a q95c (g := (mkF m 178 #[.val (.ref o), .val (.int p1), .val (.int p2)] [(.int (p2 + (13 : Int32))), (.ref o)])) rfl (by rw [hml]; rfl) (Steps.refl _) (argsL := [(.int (p2 + (13 : Int32)))]) (rest := []) (lenOf own_pd2 rfl) rfl (by show 2 * 0 + _ ≤ _; exact Nat.le_of_eq rfl) (hb hby own_d3_178) (fun _ _ => ⟨rfl, rfl, (by decide : 1 + 0 ≤ _), (by decide : 16 + 0 ≤ _)⟩)
                              dsimp only [Pt.U, Pt.locs, Pt.cells, Pt.slots] at X95 l95 y95 z95 st95 hQ95
                              subst l95 y95 z95
                              obtain ⟨rfl, N95q, K95, hS2, L_La⟩ := hQ95
                              have N95 := Fr.app N93 N95q
                              have KK95 : Keep h0 T95.heap [o, B] := KK93.trans K95 (allS (Or.inl (List.mem_of_getElem? (i := 0) rfl)) (allS (Or.inr sz_L1) all0))
                              have Es_e95 := Es.keep K95
                              have Vb_e95 := Vb.keep K95 (ninS (Ne.symm neB) (ninS ne_B_L1 nin0))
                              refine own_to (fun t k => st95.trans k) ?_
                              show own_Fin _ _ _ _ _ _ (T95.setTop (mkF m 181 #[.val (.ref o), .val (.int p1), .val (.int p2)] []))
                              rw [show ((13 : Int32) + (1 : Int32)) = (14 : Int32) from by decide] at hS2
                              obtain ⟨Es, Fb, Fc, Fl, Fu, Vb⟩ := hS2
                              refine own_to (fun t k => XS.iloadN X95.here hx rfl (hb hby own_d3_181) rfl k) ?_
                              show own_Fin _ _ _ _ _ _ (T95.setTop (mkF m 182 #[.val (.ref o), .val (.int p1), .val (.int p2)] [(.int p1)]))
                              refine own_to (fun t k => XS.bipush X95.here hx rfl (hb hby own_d3_182) k) ?_
                              show own_Fin _ _ _ _ _ _ (T95.setTop (mkF m 184 #[.val (.ref o), .val (.int p1), .val (.int p2)] [(.int (14 : Int32)), (.int p1)]))
                              by_cases hf96 : (14 : Int32) < p1
                              ·
                                show own_Fin _ _ _ _ _ _ (T95.setTop (mkF m 184 #[.val (.ref o), .val (.int p1), .val (.int p2)] [(.int (14 : Int32)), (.int p1)]))
                                refine own_to (fun t k => XS.icmpNo X95.here hx rfl (hb hby own_d3_184) rfl (tlt hf96).2.2.2 k) ?_
                                show own_Fin _ _ _ _ _ _ (T95.setTop (mkF m 187 #[.val (.ref o), .val (.int p1), .val (.int p2)] []))
                                refine own_to (fun t k => XS.aloadN X95.here hx rfl (hb hby own_d3_187) rfl rfl k) ?_
                                show own_Fin _ _ _ _ _ _ (T95.setTop (mkF m 188 #[.val (.ref o), .val (.int p1), .val (.int p2)] [(.ref o)]))
                                refine own_to (fun t k => XS.iloadN X95.here hx rfl (hb hby own_d3_188) rfl k) ?_
                                show own_Fin _ _ _ _ _ _ (T95.setTop (mkF m 189 #[.val (.ref o), .val (.int p1), .val (.int p2)] [(.int p2), (.ref o)]))
                                refine own_to (fun t k => XS.bipush X95.here hx rfl (hb hby own_d3_189) k) ?_
                                show own_Fin _ _ _ _ _ _ (T95.setTop (mkF m 191 #[.val (.ref o), .val (.int p1), .val (.int p2)] [(.int (14 : Int32)), (.int p2), (.ref o)]))
                                refine own_to (fun t k => XS.iadd X95.here hx rfl (hb hby own_d3_191) rfl k) ?_
                                show own_Fin _ _ _ _ _ _ (T95.setTop (mkF m 192 #[.val (.ref o), .val (.int p1), .val (.int p2)] [(.int (p2 + (14 : Int32))), (.ref o)]))
                                obtain ⟨cq97, kq97, q97a, q97b, q97c⟩ := isOf hZ rfl Es
                                obtain ⟨_, _, ⟨T97, L97, k97, n97⟩, -, X97, ⟨Lc97, hQ97, l97, y97, z97⟩, st97⟩ := X95.virtualBack hx (y := (⟨"com/example/walk_to_worth/walktoworth/graph/IntSequence", "add", "(I)V"⟩ : MethodName)) (z := (⟨"com/example/walk_to_worth/walktoworth/graph/IntSequence", "add", "(I)V"⟩ : MethodName)) hown (mvT hZ (hw _ (List.mem_of_getElem? (i := 25) rfl))) (mvT hZ (hw _ (List.mem_of_getElem? (i := 26) rfl))) (notFace_of_selects (args := #[]) (mvT hZ (hw _ (List.mem_of_getElem? (i := 28) rfl)))) (mvT hZ (hw _ (List.mem_of_getElem? (i := 28) rfl))) (mvT hZ (hw _ (List.mem_of_getElem? (i := 27) rfl))) (by decide) (own_back (W := 0) (own_addB l Z a0 hw [] o B kB L1 (1 : Int32) (14 : Int32) (16 : Int32) [(.ref L1), .null, .null, .null, .null, .null, .null, .null] (p2 + (14 : Int32)) T95.heap n0 (Nat.le_trans (Nat.le_trans (Nat.le_trans (Nat.le_trans (Nat.le_trans (Nat.le_trans (Nat.le_trans (Nat.le_trans (Nat.le_trans (Nat.le_trans (Nat.le_trans (Nat.le_trans (Nat.le_trans (Nat.le_trans Z0 K69.1) K71.1) K73.1) K75.1) K77.1) K79.1) K81.1) K83.1) K85.1) K87.1) K89.1) K91.1) K93.1) K95.1) g_o g_B neB hO ⟨Es, Fb, Fc, Fl, Fu, Vb⟩ L_La ne_o_L1 ne_B_L1 g_L1 (by decide) (by decide) (by decide)) hZ (hw _ (List.mem_of_getElem? (i := 29) rfl)) (hw _ (List.mem_of_getElem? (i := 3) rfl)) (by decide) (by decide)) q97a q97c (g := (mkF m 192 #[.val (.ref o), .val (.int p1), .val (.int p2)] [(.int (p2 + (14 : Int32))), (.ref o)])) rfl (by rw [hml]; rfl) (Steps.refl _) (argsL := [(.int (p2 + (14 : Int32)))]) (rest := []) (lenOf own_pd2 rfl) rfl (by show 2 * 0 + _ ≤ _; exact Nat.le_of_eq rfl) (hb hby own_d3_192) (fun _ _ => ⟨rfl, rfl, (by decide : 1 + 0 ≤ _), (by decide : 16 + 0 ≤ _)⟩)
                                dsimp only [Pt.U, Pt.locs, Pt.cells, Pt.slots] at X97 l97 y97 z97 st97 hQ97
                                subst l97 y97 z97
                                obtain ⟨rfl, N97q, K97, hS2, L_La⟩ := hQ97
                                have N97 := Fr.app N95 N97q
                                have KK97 : Keep h0 T97.heap [o, B] := KK95.trans K97 (allS (Or.inl (List.mem_of_getElem? (i := 0) rfl)) (allS (Or.inr sz_L1) all0))
                                have Es_e97 := Es.keep K97
                                have Vb_e97 := Vb.keep K97 (ninS (Ne.symm neB) (ninS ne_B_L1 nin0))
                                refine own_to (fun t k => st97.trans k) ?_
                                show own_Fin _ _ _ _ _ _ (T97.setTop (mkF m 195 #[.val (.ref o), .val (.int p1), .val (.int p2)] []))
                                rw [show ((14 : Int32) + (1 : Int32)) = (15 : Int32) from by decide] at hS2
                                obtain ⟨Es, Fb, Fc, Fl, Fu, Vb⟩ := hS2
                                refine own_to (fun t k => XS.iloadN X97.here hx rfl (hb hby own_d3_195) rfl k) ?_
                                show own_Fin _ _ _ _ _ _ (T97.setTop (mkF m 196 #[.val (.ref o), .val (.int p1), .val (.int p2)] [(.int p1)]))
                                refine own_to (fun t k => XS.bipush X97.here hx rfl (hb hby own_d3_196) k) ?_
                                show own_Fin _ _ _ _ _ _ (T97.setTop (mkF m 198 #[.val (.ref o), .val (.int p1), .val (.int p2)] [(.int (15 : Int32)), (.int p1)]))
                                by_cases hf98 : (15 : Int32) < p1
                                ·
                                  show own_Fin _ _ _ _ _ _ (T97.setTop (mkF m 198 #[.val (.ref o), .val (.int p1), .val (.int p2)] [(.int (15 : Int32)), (.int p1)]))
                                  refine own_to (fun t k => XS.icmpNo X97.here hx rfl (hb hby own_d3_198) rfl (tlt hf98).2.2.2 k) ?_
                                  show own_Fin _ _ _ _ _ _ (T97.setTop (mkF m 201 #[.val (.ref o), .val (.int p1), .val (.int p2)] []))
                                  refine own_to (fun t k => XS.aloadN X97.here hx rfl (hb hby own_d3_201) rfl rfl k) ?_
                                  show own_Fin _ _ _ _ _ _ (T97.setTop (mkF m 202 #[.val (.ref o), .val (.int p1), .val (.int p2)] [(.ref o)]))
                                  refine own_to (fun t k => XS.iloadN X97.here hx rfl (hb hby own_d3_202) rfl k) ?_
                                  show own_Fin _ _ _ _ _ _ (T97.setTop (mkF m 203 #[.val (.ref o), .val (.int p1), .val (.int p2)] [(.int p2), (.ref o)]))
                                  refine own_to (fun t k => XS.bipush X97.here hx rfl (hb hby own_d3_203) k) ?_
                                  show own_Fin _ _ _ _ _ _ (T97.setTop (mkF m 205 #[.val (.ref o), .val (.int p1), .val (.int p2)] [(.int (15 : Int32)), (.int p2), (.ref o)]))
                                  refine own_to (fun t k => XS.iadd X97.here hx rfl (hb hby own_d3_205) rfl k) ?_
                                  show own_Fin _ _ _ _ _ _ (T97.setTop (mkF m 206 #[.val (.ref o), .val (.int p1), .val (.int p2)] [(.int (p2 + (15 : Int32))), (.ref o)]))
                                  obtain ⟨cq99, kq99, q99a, q99b, q99c⟩ := isOf hZ rfl Es
                                  obtain ⟨_, _, ⟨T99, L99, k99, n99⟩, -, X99, ⟨Lc99, hQ99, l99, y99, z99⟩, st99⟩ := X97.virtualBack hx (y := (⟨"com/example/walk_to_worth/walktoworth/graph/IntSequence", "add", "(I)V"⟩ : MethodName)) (z := (⟨"com/example/walk_to_worth/walktoworth/graph/IntSequence", "add", "(I)V"⟩ : MethodName)) hown (mvT hZ (hw _ (List.mem_of_getElem? (i := 25) rfl))) (mvT hZ (hw _ (List.mem_of_getElem? (i := 26) rfl))) (notFace_of_selects (args := #[]) (mvT hZ (hw _ (List.mem_of_getElem? (i := 28) rfl)))) (mvT hZ (hw _ (List.mem_of_getElem? (i := 28) rfl))) (mvT hZ (hw _ (List.mem_of_getElem? (i := 27) rfl))) (by decide) (own_back (W := 0) (own_addB l Z a0 hw [] o B kB L1 (1 : Int32) (15 : Int32) (16 : Int32) [(.ref L1), .null, .null, .null, .null, .null, .null, .null] (p2 + (15 : Int32)) T97.heap n0 (Nat.le_trans (Nat.le_trans (Nat.le_trans (Nat.le_trans (Nat.le_trans (Nat.le_trans (Nat.le_trans (Nat.le_trans (Nat.le_trans (Nat.le_trans (Nat.le_trans (Nat.le_trans (Nat.le_trans (Nat.le_trans (Nat.le_trans Z0 K69.1) K71.1) K73.1) K75.1) K77.1) K79.1) K81.1) K83.1) K85.1) K87.1) K89.1) K91.1) K93.1) K95.1) K97.1) g_o g_B neB hO ⟨Es, Fb, Fc, Fl, Fu, Vb⟩ L_La ne_o_L1 ne_B_L1 g_L1 (by decide) (by decide) (by decide)) hZ (hw _ (List.mem_of_getElem? (i := 29) rfl)) (hw _ (List.mem_of_getElem? (i := 3) rfl)) (by decide) (by decide)) q99a q99c (g := (mkF m 206 #[.val (.ref o), .val (.int p1), .val (.int p2)] [(.int (p2 + (15 : Int32))), (.ref o)])) rfl (by rw [hml]; rfl) (Steps.refl _) (argsL := [(.int (p2 + (15 : Int32)))]) (rest := []) (lenOf own_pd2 rfl) rfl (by show 2 * 0 + _ ≤ _; exact Nat.le_of_eq rfl) (hb hby own_d3_206) (fun _ _ => ⟨rfl, rfl, (by decide : 1 + 0 ≤ _), (by decide : 16 + 0 ≤ _)⟩)
                                  dsimp only [Pt.U, Pt.locs, Pt.cells, Pt.slots] at X99 l99 y99 z99 st99 hQ99
                                  subst l99 y99 z99
                                  obtain ⟨rfl, N99q, K99, hS2, L_La⟩ := hQ99
                                  have N99 := Fr.app N97 N99q
                                  have KK99 : Keep h0 T99.heap [o, B] := KK97.trans K99 (allS (Or.inl (List.mem_of_getElem? (i := 0) rfl)) (allS (Or.inr sz_L1) all0))
                                  have Es_e99 := Es.keep K99
                                  have Vb_e99 := Vb.keep K99 (ninS (Ne.symm neB) (ninS ne_B_L1 nin0))
                                  refine own_to (fun t k => st99.trans k) ?_
                                  show own_Fin _ _ _ _ _ _ (T99.setTop (mkF m 209 #[.val (.ref o), .val (.int p1), .val (.int p2)] []))
                                  rw [show ((15 : Int32) + (1 : Int32)) = (16 : Int32) from by decide] at hS2
                                  obtain ⟨Es, Fb, Fc, Fl, Fu, Vb⟩ := hS2
                                  refine own_to (fun t k => XS.iloadN X99.here hx rfl (hb hby own_d3_209) rfl k) ?_
                                  show own_Fin _ _ _ _ _ _ (T99.setTop (mkF m 210 #[.val (.ref o), .val (.int p1), .val (.int p2)] [(.int p1)]))
                                  refine own_to (fun t k => XS.bipush X99.here hx rfl (hb hby own_d3_210) k) ?_
                                  show own_Fin _ _ _ _ _ _ (T99.setTop (mkF m 212 #[.val (.ref o), .val (.int p1), .val (.int p2)] [(.int (16 : Int32)), (.int p1)]))
                                  by_cases hf100 : (16 : Int32) < p1
                                  ·
                                    show own_Fin _ _ _ _ _ _ (T99.setTop (mkF m 212 #[.val (.ref o), .val (.int p1), .val (.int p2)] [(.int (16 : Int32)), (.int p1)]))
                                    refine own_to (fun t k => XS.icmpNo X99.here hx rfl (hb hby own_d3_212) rfl (tlt hf100).2.2.2 k) ?_
                                    show own_Fin _ _ _ _ _ _ (T99.setTop (mkF m 215 #[.val (.ref o), .val (.int p1), .val (.int p2)] []))
                                    refine own_to (fun t k => XS.aloadN X99.here hx rfl (hb hby own_d3_215) rfl rfl k) ?_
                                    show own_Fin _ _ _ _ _ _ (T99.setTop (mkF m 216 #[.val (.ref o), .val (.int p1), .val (.int p2)] [(.ref o)]))
                                    refine own_to (fun t k => XS.iloadN X99.here hx rfl (hb hby own_d3_216) rfl k) ?_
                                    show own_Fin _ _ _ _ _ _ (T99.setTop (mkF m 217 #[.val (.ref o), .val (.int p1), .val (.int p2)] [(.int p2), (.ref o)]))
                                    refine own_to (fun t k => XS.bipush X99.here hx rfl (hb hby own_d3_217) k) ?_
                                    show own_Fin _ _ _ _ _ _ (T99.setTop (mkF m 219 #[.val (.ref o), .val (.int p1), .val (.int p2)] [(.int (16 : Int32)), (.int p2), (.ref o)]))
                                    refine own_to (fun t k => XS.iadd X99.here hx rfl (hb hby own_d3_219) rfl k) ?_
                                    show own_Fin _ _ _ _ _ _ (T99.setTop (mkF m 220 #[.val (.ref o), .val (.int p1), .val (.int p2)] [(.int (p2 + (16 : Int32))), (.ref o)]))
                                    obtain ⟨cq101, kq101, q101a, q101b, q101c⟩ := isOf hZ rfl Es
                                    obtain ⟨_, _, ⟨T101, L101, k101, n101⟩, -, X101, ⟨Lc101, hQ101, l101, y101, z101⟩, st101⟩ := X99.virtualBack hx (y := (⟨"com/example/walk_to_worth/walktoworth/graph/IntSequence", "add", "(I)V"⟩ : MethodName)) (z := (⟨"com/example/walk_to_worth/walktoworth/graph/IntSequence", "add", "(I)V"⟩ : MethodName)) hown (mvT hZ (hw _ (List.mem_of_getElem? (i := 25) rfl))) (mvT hZ (hw _ (List.mem_of_getElem? (i := 26) rfl))) (notFace_of_selects (args := #[]) (mvT hZ (hw _ (List.mem_of_getElem? (i := 28) rfl)))) (mvT hZ (hw _ (List.mem_of_getElem? (i := 28) rfl))) (mvT hZ (hw _ (List.mem_of_getElem? (i := 27) rfl))) (by decide) (own_back (W := 0) (own_addC l Z a0 hw [] o B kB L1 (p2 + (16 : Int32)) T99.heap n0 (Nat.le_trans (Nat.le_trans (Nat.le_trans (Nat.le_trans (Nat.le_trans (Nat.le_trans (Nat.le_trans (Nat.le_trans (Nat.le_trans (Nat.le_trans (Nat.le_trans (Nat.le_trans (Nat.le_trans (Nat.le_trans (Nat.le_trans (Nat.le_trans Z0 K69.1) K71.1) K73.1) K75.1) K77.1) K79.1) K81.1) K83.1) K85.1) K87.1) K89.1) K91.1) K93.1) K95.1) K97.1) K99.1) g_o g_B neB hO ⟨Es, Fb, Fc, Fl, Fu, Vb⟩ L_La ne_o_L1 ne_B_L1) hZ (hw _ (List.mem_of_getElem? (i := 29) rfl)) (hw _ (List.mem_of_getElem? (i := 3) rfl)) (by decide) (by decide)) q101a q101c (g := (mkF m 220 #[.val (.ref o), .val (.int p1), .val (.int p2)] [(.int (p2 + (16 : Int32))), (.ref o)])) rfl (by rw [hml]; rfl) (Steps.refl _) (argsL := [(.int (p2 + (16 : Int32)))]) (rest := []) (lenOf own_pd2 rfl) rfl (by show 2 * 0 + _ ≤ _; exact Nat.le_of_eq rfl) (hb hby own_d3_220) (fun _ _ => ⟨rfl, rfl, (by decide : 1 + 1 ≤ _), (by decide : 16 + 32 ≤ _)⟩)
                                    dsimp only [Pt.U, Pt.locs, Pt.cells, Pt.slots] at X101 l101 y101 z101 st101 hQ101
                                    subst l101 y101 z101
                                    obtain ⟨L2, rfl, N101q, K101, g_L2, szx_L2, hS2, E_L2, L_L2⟩ := hQ101
                                    have N101 := Fr.app N99 N101q
                                    have ne_o_L2 : o ≠ L2 := Nat.ne_of_lt (Nat.lt_of_lt_of_le Es.lt szx_L2)
                                    have ne_B_L2 : B ≠ L2 := Nat.ne_of_lt (Nat.lt_of_lt_of_le Vb.lt szx_L2)
                                    have ne_L1_L2 : L1 ≠ L2 := Nat.ne_of_lt (Nat.lt_of_lt_of_le L_La.lt szx_L2)
                                    have sz_L2 : h0.size ≤ L2 := Nat.le_trans KK99.1 szx_L2
                                    have KK101 : Keep h0 T101.heap [o, B] := KK99.trans K101 (allS (Or.inl (List.mem_of_getElem? (i := 0) rfl)) (allS (Or.inl (List.mem_of_getElem? (i := 1) rfl)) all0))
                                    have Es_e101 := Es.keep K101
                                    have L_La_e101 := L_La.keep K101 (ninS (Ne.symm ne_o_L1) (ninS (Ne.symm ne_B_L1) nin0))
                                    refine own_to (fun t k => st101.trans k) ?_
                                    show own_Fin _ _ _ _ _ _ (T101.setTop (mkF m 223 #[.val (.ref o), .val (.int p1), .val (.int p2)] []))
                                    obtain ⟨Es, Fb, Fc, Fl, Fu, Vb⟩ := hS2
                                    refine own_to (fun t k => XS.iloadN X101.here hx rfl (hb hby own_d3_223) rfl k) ?_
                                    show own_Fin _ _ _ _ _ _ (T101.setTop (mkF m 224 #[.val (.ref o), .val (.int p1), .val (.int p2)] [(.int p1)]))
                                    refine own_to (fun t k => XS.bipush X101.here hx rfl (hb hby own_d3_224) k) ?_
                                    show own_Fin _ _ _ _ _ _ (T101.setTop (mkF m 226 #[.val (.ref o), .val (.int p1), .val (.int p2)] [(.int (17 : Int32)), (.int p1)]))
                                    by_cases hf102 : (17 : Int32) < p1
                                    ·
                                      show own_Fin _ _ _ _ _ _ (T101.setTop (mkF m 226 #[.val (.ref o), .val (.int p1), .val (.int p2)] [(.int (17 : Int32)), (.int p1)]))
                                      refine own_to (fun t k => XS.icmpNo X101.here hx rfl (hb hby own_d3_226) rfl (tlt hf102).2.2.2 k) ?_
                                      show own_Fin _ _ _ _ _ _ (T101.setTop (mkF m 229 #[.val (.ref o), .val (.int p1), .val (.int p2)] []))
                                      refine own_to (fun t k => XS.aloadN X101.here hx rfl (hb hby own_d3_229) rfl rfl k) ?_
                                      show own_Fin _ _ _ _ _ _ (T101.setTop (mkF m 230 #[.val (.ref o), .val (.int p1), .val (.int p2)] [(.ref o)]))
                                      refine own_to (fun t k => XS.iloadN X101.here hx rfl (hb hby own_d3_230) rfl k) ?_
                                      show own_Fin _ _ _ _ _ _ (T101.setTop (mkF m 231 #[.val (.ref o), .val (.int p1), .val (.int p2)] [(.int p2), (.ref o)]))
                                      refine own_to (fun t k => XS.bipush X101.here hx rfl (hb hby own_d3_231) k) ?_
                                      show own_Fin _ _ _ _ _ _ (T101.setTop (mkF m 233 #[.val (.ref o), .val (.int p1), .val (.int p2)] [(.int (17 : Int32)), (.int p2), (.ref o)]))
                                      refine own_to (fun t k => XS.iadd X101.here hx rfl (hb hby own_d3_233) rfl k) ?_
                                      show own_Fin _ _ _ _ _ _ (T101.setTop (mkF m 234 #[.val (.ref o), .val (.int p1), .val (.int p2)] [(.int (p2 + (17 : Int32))), (.ref o)]))
                                      obtain ⟨cq103, kq103, q103a, q103b, q103c⟩ := isOf hZ rfl Es
                                      obtain ⟨_, _, ⟨T103, L103, k103, n103⟩, -, X103, ⟨Lc103, hQ103, l103, y103, z103⟩, st103⟩ := X101.virtualBack hx (y := (⟨"com/example/walk_to_worth/walktoworth/graph/IntSequence", "add", "(I)V"⟩ : MethodName)) (z := (⟨"com/example/walk_to_worth/walktoworth/graph/IntSequence", "add", "(I)V"⟩ : MethodName)) hown (mvT hZ (hw _ (List.mem_of_getElem? (i := 25) rfl))) (mvT hZ (hw _ (List.mem_of_getElem? (i := 26) rfl))) (notFace_of_selects (args := #[]) (mvT hZ (hw _ (List.mem_of_getElem? (i := 28) rfl)))) (mvT hZ (hw _ (List.mem_of_getElem? (i := 28) rfl))) (mvT hZ (hw _ (List.mem_of_getElem? (i := 27) rfl))) (by decide) (own_back (W := 0) (own_addB l Z a0 hw [] o B kB L2 (2 : Int32) (1 : Int32) (32 : Int32) [(.ref L1), (.ref L2), .null, .null, .null, .null, .null, .null] (p2 + (17 : Int32)) T101.heap n0 (Nat.le_trans (Nat.le_trans (Nat.le_trans (Nat.le_trans (Nat.le_trans (Nat.le_trans (Nat.le_trans (Nat.le_trans (Nat.le_trans (Nat.le_trans (Nat.le_trans (Nat.le_trans (Nat.le_trans (Nat.le_trans (Nat.le_trans (Nat.le_trans (Nat.le_trans Z0 K69.1) K71.1) K73.1) K75.1) K77.1) K79.1) K81.1) K83.1) K85.1) K87.1) K89.1) K91.1) K93.1) K95.1) K97.1) K99.1) K101.1) g_o g_B neB hO ⟨Es, Fb, Fc, Fl, Fu, Vb⟩ L_L2 ne_o_L2 ne_B_L2 g_L2 (by decide) (by decide) (by decide)) hZ (hw _ (List.mem_of_getElem? (i := 29) rfl)) (hw _ (List.mem_of_getElem? (i := 3) rfl)) (by decide) (by decide)) q103a q103c (g := (mkF m 234 #[.val (.ref o), .val (.int p1), .val (.int p2)] [(.int (p2 + (17 : Int32))), (.ref o)])) rfl (by rw [hml]; rfl) (Steps.refl _) (argsL := [(.int (p2 + (17 : Int32)))]) (rest := []) (lenOf own_pd2 rfl) rfl (by show 2 * 0 + _ ≤ _; exact Nat.le_of_eq rfl) (hb hby own_d3_234) (fun _ _ => ⟨rfl, rfl, (by decide : 2 + 0 ≤ _), (by decide : 48 + 0 ≤ _)⟩)
                                      dsimp only [Pt.U, Pt.locs, Pt.cells, Pt.slots] at X103 l103 y103 z103 st103 hQ103
                                      subst l103 y103 z103
                                      obtain ⟨rfl, N103q, K103, hS2, L_La⟩ := hQ103
                                      have N103 := Fr.app N101 N103q
                                      have KK103 : Keep h0 T103.heap [o, B] := KK101.trans K103 (allS (Or.inl (List.mem_of_getElem? (i := 0) rfl)) (allS (Or.inr sz_L2) all0))
                                      have Es_e103 := Es.keep K103
                                      have L_La_e103 := L_La_e101.keep K103 (ninS (Ne.symm ne_o_L1) (ninS ne_L1_L2 nin0))
                                      have Vb_e103 := Vb.keep K103 (ninS (Ne.symm neB) (ninS ne_B_L2 nin0))
                                      refine own_to (fun t k => st103.trans k) ?_
                                      show own_Fin _ _ _ _ _ _ (T103.setTop (mkF m 237 #[.val (.ref o), .val (.int p1), .val (.int p2)] []))
                                      rw [show ((1 : Int32) + (1 : Int32)) = (2 : Int32) from by decide] at hS2
                                      obtain ⟨Es, Fb, Fc, Fl, Fu, Vb⟩ := hS2
                                      refine own_retV X103 hx hlk hret (hb hby own_d3_237) (by decide) (by decide) ?_
                                      obtain rfl : p1 = (18 : Int32) := own_is18 p1 hf102 hn19
                                      exact ⟨(.ref L2), [(.ref L1), (.ref L2), .null, .null, .null, .null, .null, .null], rfl, N103, KK103, ⟨Es, Fb, Fc, Fl, Fu, Vb⟩, (fun _ => ⟨L1, rfl, L_La_e103⟩)⟩
                                    ·
                                      show own_Fin _ _ _ _ _ _ (T101.setTop (mkF m 226 #[.val (.ref o), .val (.int p1), .val (.int p2)] [(.int (17 : Int32)), (.int p1)]))
                                      obtain rfl : p1 = (17 : Int32) := own_is p1 (16 : Int32) (17 : Int32) hf100 hf102 (by decide)
                                      show own_Fin _ _ _ _ _ _ (T101.setTop (mkF m 226 #[.val (.ref o), .val (.int (17 : Int32)), .val (.int p2)] [(.int (17 : Int32)), (.int (17 : Int32))]))
                                      refine own_to (fun t k => XS.icmpYes X101.here hx rfl (pc0 := 226) (pc' := 237) rfl (hb hby own_d3_226) rfl (flt (by decide)).2.2.2 (by decide) (by decide) k) ?_
                                      show own_Fin _ _ _ _ _ _ (T101.setTop (mkF m 237 #[.val (.ref o), .val (.int (17 : Int32)), .val (.int p2)] []))
                                      refine own_retV X101 hx hlk hret (hb hby own_d3_237) (by decide) (by decide) ?_
                                      exact ⟨(.ref L2), [(.ref L1), (.ref L2), .null, .null, .null, .null, .null, .null], rfl, N101, KK101, ⟨Es, Fb, Fc, Fl, Fu, Vb⟩, (fun _ => ⟨L1, rfl, L_La_e101⟩)⟩
                                  ·
                                    show own_Fin _ _ _ _ _ _ (T99.setTop (mkF m 212 #[.val (.ref o), .val (.int p1), .val (.int p2)] [(.int (16 : Int32)), (.int p1)]))
                                    obtain rfl : p1 = (16 : Int32) := own_is p1 (15 : Int32) (16 : Int32) hf98 hf100 (by decide)
                                    show own_Fin _ _ _ _ _ _ (T99.setTop (mkF m 212 #[.val (.ref o), .val (.int (16 : Int32)), .val (.int p2)] [(.int (16 : Int32)), (.int (16 : Int32))]))
                                    refine own_to (fun t k => XS.icmpYes X99.here hx rfl (pc0 := 212) (pc' := 223) rfl (hb hby own_d3_212) rfl (flt (by decide)).2.2.2 (by decide) (by decide) k) ?_
                                    show own_Fin _ _ _ _ _ _ (T99.setTop (mkF m 223 #[.val (.ref o), .val (.int (16 : Int32)), .val (.int p2)] []))
                                    refine own_to (fun t k => XS.iloadN X99.here hx rfl (hb hby own_d3_223) rfl k) ?_
                                    show own_Fin _ _ _ _ _ _ (T99.setTop (mkF m 224 #[.val (.ref o), .val (.int (16 : Int32)), .val (.int p2)] [(.int (16 : Int32))]))
                                    refine own_to (fun t k => XS.bipush X99.here hx rfl (hb hby own_d3_224) k) ?_
                                    show own_Fin _ _ _ _ _ _ (T99.setTop (mkF m 226 #[.val (.ref o), .val (.int (16 : Int32)), .val (.int p2)] [(.int (17 : Int32)), (.int (16 : Int32))]))
                                    refine own_to (fun t k => XS.icmpYes X99.here hx rfl (pc0 := 226) (pc' := 237) rfl (hb hby own_d3_226) rfl (flt (by decide)).2.2.2 (by decide) (by decide) k) ?_
                                    show own_Fin _ _ _ _ _ _ (T99.setTop (mkF m 237 #[.val (.ref o), .val (.int (16 : Int32)), .val (.int p2)] []))
                                    refine own_retV X99 hx hlk hret (hb hby own_d3_237) (by decide) (by decide) ?_
                                    exact ⟨(.ref L1), [(.ref L1), .null, .null, .null, .null, .null, .null, .null], rfl, N99, KK99, ⟨Es, Fb, Fc, Fl, Fu, Vb⟩, (fun q => absurd q (by decide))⟩
                                ·
                                  show own_Fin _ _ _ _ _ _ (T97.setTop (mkF m 198 #[.val (.ref o), .val (.int p1), .val (.int p2)] [(.int (15 : Int32)), (.int p1)]))
                                  obtain rfl : p1 = (15 : Int32) := own_is p1 (14 : Int32) (15 : Int32) hf96 hf98 (by decide)
                                  show own_Fin _ _ _ _ _ _ (T97.setTop (mkF m 198 #[.val (.ref o), .val (.int (15 : Int32)), .val (.int p2)] [(.int (15 : Int32)), (.int (15 : Int32))]))
                                  refine own_to (fun t k => XS.icmpYes X97.here hx rfl (pc0 := 198) (pc' := 209) rfl (hb hby own_d3_198) rfl (flt (by decide)).2.2.2 (by decide) (by decide) k) ?_
                                  show own_Fin _ _ _ _ _ _ (T97.setTop (mkF m 209 #[.val (.ref o), .val (.int (15 : Int32)), .val (.int p2)] []))
                                  refine own_to (fun t k => XS.iloadN X97.here hx rfl (hb hby own_d3_209) rfl k) ?_
                                  show own_Fin _ _ _ _ _ _ (T97.setTop (mkF m 210 #[.val (.ref o), .val (.int (15 : Int32)), .val (.int p2)] [(.int (15 : Int32))]))
                                  refine own_to (fun t k => XS.bipush X97.here hx rfl (hb hby own_d3_210) k) ?_
                                  show own_Fin _ _ _ _ _ _ (T97.setTop (mkF m 212 #[.val (.ref o), .val (.int (15 : Int32)), .val (.int p2)] [(.int (16 : Int32)), (.int (15 : Int32))]))
                                  refine own_to (fun t k => XS.icmpYes X97.here hx rfl (pc0 := 212) (pc' := 223) rfl (hb hby own_d3_212) rfl (flt (by decide)).2.2.2 (by decide) (by decide) k) ?_
                                  show own_Fin _ _ _ _ _ _ (T97.setTop (mkF m 223 #[.val (.ref o), .val (.int (15 : Int32)), .val (.int p2)] []))
                                  refine own_to (fun t k => XS.iloadN X97.here hx rfl (hb hby own_d3_223) rfl k) ?_
                                  show own_Fin _ _ _ _ _ _ (T97.setTop (mkF m 224 #[.val (.ref o), .val (.int (15 : Int32)), .val (.int p2)] [(.int (15 : Int32))]))
                                  refine own_to (fun t k => XS.bipush X97.here hx rfl (hb hby own_d3_224) k) ?_
                                  show own_Fin _ _ _ _ _ _ (T97.setTop (mkF m 226 #[.val (.ref o), .val (.int (15 : Int32)), .val (.int p2)] [(.int (17 : Int32)), (.int (15 : Int32))]))
                                  refine own_to (fun t k => XS.icmpYes X97.here hx rfl (pc0 := 226) (pc' := 237) rfl (hb hby own_d3_226) rfl (flt (by decide)).2.2.2 (by decide) (by decide) k) ?_
                                  show own_Fin _ _ _ _ _ _ (T97.setTop (mkF m 237 #[.val (.ref o), .val (.int (15 : Int32)), .val (.int p2)] []))
                                  refine own_retV X97 hx hlk hret (hb hby own_d3_237) (by decide) (by decide) ?_
                                  exact ⟨(.ref L1), [(.ref L1), .null, .null, .null, .null, .null, .null, .null], rfl, N97, KK97, ⟨Es, Fb, Fc, Fl, Fu, Vb⟩, (fun q => absurd q (by decide))⟩
                              ·
                                show own_Fin _ _ _ _ _ _ (T95.setTop (mkF m 184 #[.val (.ref o), .val (.int p1), .val (.int p2)] [(.int (14 : Int32)), (.int p1)]))
                                obtain rfl : p1 = (14 : Int32) := own_is p1 (13 : Int32) (14 : Int32) hf94 hf96 (by decide)
                                show own_Fin _ _ _ _ _ _ (T95.setTop (mkF m 184 #[.val (.ref o), .val (.int (14 : Int32)), .val (.int p2)] [(.int (14 : Int32)), (.int (14 : Int32))]))
                                refine own_to (fun t k => XS.icmpYes X95.here hx rfl (pc0 := 184) (pc' := 195) rfl (hb hby own_d3_184) rfl (flt (by decide)).2.2.2 (by decide) (by decide) k) ?_
                                show own_Fin _ _ _ _ _ _ (T95.setTop (mkF m 195 #[.val (.ref o), .val (.int (14 : Int32)), .val (.int p2)] []))
                                refine own_to (fun t k => XS.iloadN X95.here hx rfl (hb hby own_d3_195) rfl k) ?_
                                show own_Fin _ _ _ _ _ _ (T95.setTop (mkF m 196 #[.val (.ref o), .val (.int (14 : Int32)), .val (.int p2)] [(.int (14 : Int32))]))
                                refine own_to (fun t k => XS.bipush X95.here hx rfl (hb hby own_d3_196) k) ?_
                                show own_Fin _ _ _ _ _ _ (T95.setTop (mkF m 198 #[.val (.ref o), .val (.int (14 : Int32)), .val (.int p2)] [(.int (15 : Int32)), (.int (14 : Int32))]))
                                refine own_to (fun t k => XS.icmpYes X95.here hx rfl (pc0 := 198) (pc' := 209) rfl (hb hby own_d3_198) rfl (flt (by decide)).2.2.2 (by decide) (by decide) k) ?_
                                show own_Fin _ _ _ _ _ _ (T95.setTop (mkF m 209 #[.val (.ref o), .val (.int (14 : Int32)), .val (.int p2)] []))
                                refine own_to (fun t k => XS.iloadN X95.here hx rfl (hb hby own_d3_209) rfl k) ?_
                                show own_Fin _ _ _ _ _ _ (T95.setTop (mkF m 210 #[.val (.ref o), .val (.int (14 : Int32)), .val (.int p2)] [(.int (14 : Int32))]))
                                refine own_to (fun t k => XS.bipush X95.here hx rfl (hb hby own_d3_210) k) ?_
                                show own_Fin _ _ _ _ _ _ (T95.setTop (mkF m 212 #[.val (.ref o), .val (.int (14 : Int32)), .val (.int p2)] [(.int (16 : Int32)), (.int (14 : Int32))]))
                                refine own_to (fun t k => XS.icmpYes X95.here hx rfl (pc0 := 212) (pc' := 223) rfl (hb hby own_d3_212) rfl (flt (by decide)).2.2.2 (by decide) (by decide) k) ?_
                                show own_Fin _ _ _ _ _ _ (T95.setTop (mkF m 223 #[.val (.ref o), .val (.int (14 : Int32)), .val (.int p2)] []))
                                refine own_to (fun t k => XS.iloadN X95.here hx rfl (hb hby own_d3_223) rfl k) ?_
                                show own_Fin _ _ _ _ _ _ (T95.setTop (mkF m 224 #[.val (.ref o), .val (.int (14 : Int32)), .val (.int p2)] [(.int (14 : Int32))]))
                                refine own_to (fun t k => XS.bipush X95.here hx rfl (hb hby own_d3_224) k) ?_
                                show own_Fin _ _ _ _ _ _ (T95.setTop (mkF m 226 #[.val (.ref o), .val (.int (14 : Int32)), .val (.int p2)] [(.int (17 : Int32)), (.int (14 : Int32))]))
                                refine own_to (fun t k => XS.icmpYes X95.here hx rfl (pc0 := 226) (pc' := 237) rfl (hb hby own_d3_226) rfl (flt (by decide)).2.2.2 (by decide) (by decide) k) ?_
                                show own_Fin _ _ _ _ _ _ (T95.setTop (mkF m 237 #[.val (.ref o), .val (.int (14 : Int32)), .val (.int p2)] []))
                                refine own_retV X95 hx hlk hret (hb hby own_d3_237) (by decide) (by decide) ?_
                                exact ⟨(.ref L1), [(.ref L1), .null, .null, .null, .null, .null, .null, .null], rfl, N95, KK95, ⟨Es, Fb, Fc, Fl, Fu, Vb⟩, (fun q => absurd q (by decide))⟩
                            ·
                              show own_Fin _ _ _ _ _ _ (T93.setTop (mkF m 170 #[.val (.ref o), .val (.int p1), .val (.int p2)] [(.int (13 : Int32)), (.int p1)]))
                              obtain rfl : p1 = (13 : Int32) := own_is p1 (12 : Int32) (13 : Int32) hf92 hf94 (by decide)
                              show own_Fin _ _ _ _ _ _ (T93.setTop (mkF m 170 #[.val (.ref o), .val (.int (13 : Int32)), .val (.int p2)] [(.int (13 : Int32)), (.int (13 : Int32))]))
                              refine own_to (fun t k => XS.icmpYes X93.here hx rfl (pc0 := 170) (pc' := 181) rfl (hb hby own_d3_170) rfl (flt (by decide)).2.2.2 (by decide) (by decide) k) ?_
                              show own_Fin _ _ _ _ _ _ (T93.setTop (mkF m 181 #[.val (.ref o), .val (.int (13 : Int32)), .val (.int p2)] []))
                              refine own_to (fun t k => XS.iloadN X93.here hx rfl (hb hby own_d3_181) rfl k) ?_
                              show own_Fin _ _ _ _ _ _ (T93.setTop (mkF m 182 #[.val (.ref o), .val (.int (13 : Int32)), .val (.int p2)] [(.int (13 : Int32))]))
                              refine own_to (fun t k => XS.bipush X93.here hx rfl (hb hby own_d3_182) k) ?_
                              show own_Fin _ _ _ _ _ _ (T93.setTop (mkF m 184 #[.val (.ref o), .val (.int (13 : Int32)), .val (.int p2)] [(.int (14 : Int32)), (.int (13 : Int32))]))
                              refine own_to (fun t k => XS.icmpYes X93.here hx rfl (pc0 := 184) (pc' := 195) rfl (hb hby own_d3_184) rfl (flt (by decide)).2.2.2 (by decide) (by decide) k) ?_
                              show own_Fin _ _ _ _ _ _ (T93.setTop (mkF m 195 #[.val (.ref o), .val (.int (13 : Int32)), .val (.int p2)] []))
                              refine own_to (fun t k => XS.iloadN X93.here hx rfl (hb hby own_d3_195) rfl k) ?_
                              show own_Fin _ _ _ _ _ _ (T93.setTop (mkF m 196 #[.val (.ref o), .val (.int (13 : Int32)), .val (.int p2)] [(.int (13 : Int32))]))
                              refine own_to (fun t k => XS.bipush X93.here hx rfl (hb hby own_d3_196) k) ?_
                              show own_Fin _ _ _ _ _ _ (T93.setTop (mkF m 198 #[.val (.ref o), .val (.int (13 : Int32)), .val (.int p2)] [(.int (15 : Int32)), (.int (13 : Int32))]))
                              refine own_to (fun t k => XS.icmpYes X93.here hx rfl (pc0 := 198) (pc' := 209) rfl (hb hby own_d3_198) rfl (flt (by decide)).2.2.2 (by decide) (by decide) k) ?_
                              show own_Fin _ _ _ _ _ _ (T93.setTop (mkF m 209 #[.val (.ref o), .val (.int (13 : Int32)), .val (.int p2)] []))
                              refine own_to (fun t k => XS.iloadN X93.here hx rfl (hb hby own_d3_209) rfl k) ?_
                              show own_Fin _ _ _ _ _ _ (T93.setTop (mkF m 210 #[.val (.ref o), .val (.int (13 : Int32)), .val (.int p2)] [(.int (13 : Int32))]))
                              refine own_to (fun t k => XS.bipush X93.here hx rfl (hb hby own_d3_210) k) ?_
                              show own_Fin _ _ _ _ _ _ (T93.setTop (mkF m 212 #[.val (.ref o), .val (.int (13 : Int32)), .val (.int p2)] [(.int (16 : Int32)), (.int (13 : Int32))]))
                              refine own_to (fun t k => XS.icmpYes X93.here hx rfl (pc0 := 212) (pc' := 223) rfl (hb hby own_d3_212) rfl (flt (by decide)).2.2.2 (by decide) (by decide) k) ?_
                              show own_Fin _ _ _ _ _ _ (T93.setTop (mkF m 223 #[.val (.ref o), .val (.int (13 : Int32)), .val (.int p2)] []))
                              refine own_to (fun t k => XS.iloadN X93.here hx rfl (hb hby own_d3_223) rfl k) ?_
                              show own_Fin _ _ _ _ _ _ (T93.setTop (mkF m 224 #[.val (.ref o), .val (.int (13 : Int32)), .val (.int p2)] [(.int (13 : Int32))]))
                              refine own_to (fun t k => XS.bipush X93.here hx rfl (hb hby own_d3_224) k) ?_
                              show own_Fin _ _ _ _ _ _ (T93.setTop (mkF m 226 #[.val (.ref o), .val (.int (13 : Int32)), .val (.int p2)] [(.int (17 : Int32)), (.int (13 : Int32))]))
                              refine own_to (fun t k => XS.icmpYes X93.here hx rfl (pc0 := 226) (pc' := 237) rfl (hb hby own_d3_226) rfl (flt (by decide)).2.2.2 (by decide) (by decide) k) ?_
                              show own_Fin _ _ _ _ _ _ (T93.setTop (mkF m 237 #[.val (.ref o), .val (.int (13 : Int32)), .val (.int p2)] []))
                              refine own_retV X93 hx hlk hret (hb hby own_d3_237) (by decide) (by decide) ?_
                              exact ⟨(.ref L1), [(.ref L1), .null, .null, .null, .null, .null, .null, .null], rfl, N93, KK93, ⟨Es, Fb, Fc, Fl, Fu, Vb⟩, (fun q => absurd q (by decide))⟩
                          ·
                            show own_Fin _ _ _ _ _ _ (T91.setTop (mkF m 156 #[.val (.ref o), .val (.int p1), .val (.int p2)] [(.int (12 : Int32)), (.int p1)]))
                            obtain rfl : p1 = (12 : Int32) := own_is p1 (11 : Int32) (12 : Int32) hf90 hf92 (by decide)
                            show own_Fin _ _ _ _ _ _ (T91.setTop (mkF m 156 #[.val (.ref o), .val (.int (12 : Int32)), .val (.int p2)] [(.int (12 : Int32)), (.int (12 : Int32))]))
                            refine own_to (fun t k => XS.icmpYes X91.here hx rfl (pc0 := 156) (pc' := 167) rfl (hb hby own_d3_156) rfl (flt (by decide)).2.2.2 (by decide) (by decide) k) ?_
                            show own_Fin _ _ _ _ _ _ (T91.setTop (mkF m 167 #[.val (.ref o), .val (.int (12 : Int32)), .val (.int p2)] []))
                            refine own_to (fun t k => XS.iloadN X91.here hx rfl (hb hby own_d3_167) rfl k) ?_
                            show own_Fin _ _ _ _ _ _ (T91.setTop (mkF m 168 #[.val (.ref o), .val (.int (12 : Int32)), .val (.int p2)] [(.int (12 : Int32))]))
                            refine own_to (fun t k => XS.bipush X91.here hx rfl (hb hby own_d3_168) k) ?_
                            show own_Fin _ _ _ _ _ _ (T91.setTop (mkF m 170 #[.val (.ref o), .val (.int (12 : Int32)), .val (.int p2)] [(.int (13 : Int32)), (.int (12 : Int32))]))
                            refine own_to (fun t k => XS.icmpYes X91.here hx rfl (pc0 := 170) (pc' := 181) rfl (hb hby own_d3_170) rfl (flt (by decide)).2.2.2 (by decide) (by decide) k) ?_
                            show own_Fin _ _ _ _ _ _ (T91.setTop (mkF m 181 #[.val (.ref o), .val (.int (12 : Int32)), .val (.int p2)] []))
                            refine own_to (fun t k => XS.iloadN X91.here hx rfl (hb hby own_d3_181) rfl k) ?_
                            show own_Fin _ _ _ _ _ _ (T91.setTop (mkF m 182 #[.val (.ref o), .val (.int (12 : Int32)), .val (.int p2)] [(.int (12 : Int32))]))
                            refine own_to (fun t k => XS.bipush X91.here hx rfl (hb hby own_d3_182) k) ?_
                            show own_Fin _ _ _ _ _ _ (T91.setTop (mkF m 184 #[.val (.ref o), .val (.int (12 : Int32)), .val (.int p2)] [(.int (14 : Int32)), (.int (12 : Int32))]))
                            refine own_to (fun t k => XS.icmpYes X91.here hx rfl (pc0 := 184) (pc' := 195) rfl (hb hby own_d3_184) rfl (flt (by decide)).2.2.2 (by decide) (by decide) k) ?_
                            show own_Fin _ _ _ _ _ _ (T91.setTop (mkF m 195 #[.val (.ref o), .val (.int (12 : Int32)), .val (.int p2)] []))
                            refine own_to (fun t k => XS.iloadN X91.here hx rfl (hb hby own_d3_195) rfl k) ?_
                            show own_Fin _ _ _ _ _ _ (T91.setTop (mkF m 196 #[.val (.ref o), .val (.int (12 : Int32)), .val (.int p2)] [(.int (12 : Int32))]))
                            refine own_to (fun t k => XS.bipush X91.here hx rfl (hb hby own_d3_196) k) ?_
                            show own_Fin _ _ _ _ _ _ (T91.setTop (mkF m 198 #[.val (.ref o), .val (.int (12 : Int32)), .val (.int p2)] [(.int (15 : Int32)), (.int (12 : Int32))]))
                            refine own_to (fun t k => XS.icmpYes X91.here hx rfl (pc0 := 198) (pc' := 209) rfl (hb hby own_d3_198) rfl (flt (by decide)).2.2.2 (by decide) (by decide) k) ?_
                            show own_Fin _ _ _ _ _ _ (T91.setTop (mkF m 209 #[.val (.ref o), .val (.int (12 : Int32)), .val (.int p2)] []))
                            refine own_to (fun t k => XS.iloadN X91.here hx rfl (hb hby own_d3_209) rfl k) ?_
                            show own_Fin _ _ _ _ _ _ (T91.setTop (mkF m 210 #[.val (.ref o), .val (.int (12 : Int32)), .val (.int p2)] [(.int (12 : Int32))]))
                            refine own_to (fun t k => XS.bipush X91.here hx rfl (hb hby own_d3_210) k) ?_
                            show own_Fin _ _ _ _ _ _ (T91.setTop (mkF m 212 #[.val (.ref o), .val (.int (12 : Int32)), .val (.int p2)] [(.int (16 : Int32)), (.int (12 : Int32))]))
                            refine own_to (fun t k => XS.icmpYes X91.here hx rfl (pc0 := 212) (pc' := 223) rfl (hb hby own_d3_212) rfl (flt (by decide)).2.2.2 (by decide) (by decide) k) ?_
                            show own_Fin _ _ _ _ _ _ (T91.setTop (mkF m 223 #[.val (.ref o), .val (.int (12 : Int32)), .val (.int p2)] []))
                            refine own_to (fun t k => XS.iloadN X91.here hx rfl (hb hby own_d3_223) rfl k) ?_
                            show own_Fin _ _ _ _ _ _ (T91.setTop (mkF m 224 #[.val (.ref o), .val (.int (12 : Int32)), .val (.int p2)] [(.int (12 : Int32))]))
                            refine own_to (fun t k => XS.bipush X91.here hx rfl (hb hby own_d3_224) k) ?_
                            show own_Fin _ _ _ _ _ _ (T91.setTop (mkF m 226 #[.val (.ref o), .val (.int (12 : Int32)), .val (.int p2)] [(.int (17 : Int32)), (.int (12 : Int32))]))
                            refine own_to (fun t k => XS.icmpYes X91.here hx rfl (pc0 := 226) (pc' := 237) rfl (hb hby own_d3_226) rfl (flt (by decide)).2.2.2 (by decide) (by decide) k) ?_
                            show own_Fin _ _ _ _ _ _ (T91.setTop (mkF m 237 #[.val (.ref o), .val (.int (12 : Int32)), .val (.int p2)] []))
                            refine own_retV X91 hx hlk hret (hb hby own_d3_237) (by decide) (by decide) ?_
                            exact ⟨(.ref L1), [(.ref L1), .null, .null, .null, .null, .null, .null, .null], rfl, N91, KK91, ⟨Es, Fb, Fc, Fl, Fu, Vb⟩, (fun q => absurd q (by decide))⟩
                        ·
                          show own_Fin _ _ _ _ _ _ (T89.setTop (mkF m 142 #[.val (.ref o), .val (.int p1), .val (.int p2)] [(.int (11 : Int32)), (.int p1)]))
                          obtain rfl : p1 = (11 : Int32) := own_is p1 (10 : Int32) (11 : Int32) hf88 hf90 (by decide)
                          show own_Fin _ _ _ _ _ _ (T89.setTop (mkF m 142 #[.val (.ref o), .val (.int (11 : Int32)), .val (.int p2)] [(.int (11 : Int32)), (.int (11 : Int32))]))
                          refine own_to (fun t k => XS.icmpYes X89.here hx rfl (pc0 := 142) (pc' := 153) rfl (hb hby own_d3_142) rfl (flt (by decide)).2.2.2 (by decide) (by decide) k) ?_
                          show own_Fin _ _ _ _ _ _ (T89.setTop (mkF m 153 #[.val (.ref o), .val (.int (11 : Int32)), .val (.int p2)] []))
                          refine own_to (fun t k => XS.iloadN X89.here hx rfl (hb hby own_d3_153) rfl k) ?_
                          show own_Fin _ _ _ _ _ _ (T89.setTop (mkF m 154 #[.val (.ref o), .val (.int (11 : Int32)), .val (.int p2)] [(.int (11 : Int32))]))
                          refine own_to (fun t k => XS.bipush X89.here hx rfl (hb hby own_d3_154) k) ?_
                          show own_Fin _ _ _ _ _ _ (T89.setTop (mkF m 156 #[.val (.ref o), .val (.int (11 : Int32)), .val (.int p2)] [(.int (12 : Int32)), (.int (11 : Int32))]))
                          refine own_to (fun t k => XS.icmpYes X89.here hx rfl (pc0 := 156) (pc' := 167) rfl (hb hby own_d3_156) rfl (flt (by decide)).2.2.2 (by decide) (by decide) k) ?_
                          show own_Fin _ _ _ _ _ _ (T89.setTop (mkF m 167 #[.val (.ref o), .val (.int (11 : Int32)), .val (.int p2)] []))
                          refine own_to (fun t k => XS.iloadN X89.here hx rfl (hb hby own_d3_167) rfl k) ?_
                          show own_Fin _ _ _ _ _ _ (T89.setTop (mkF m 168 #[.val (.ref o), .val (.int (11 : Int32)), .val (.int p2)] [(.int (11 : Int32))]))
                          refine own_to (fun t k => XS.bipush X89.here hx rfl (hb hby own_d3_168) k) ?_
                          show own_Fin _ _ _ _ _ _ (T89.setTop (mkF m 170 #[.val (.ref o), .val (.int (11 : Int32)), .val (.int p2)] [(.int (13 : Int32)), (.int (11 : Int32))]))
                          refine own_to (fun t k => XS.icmpYes X89.here hx rfl (pc0 := 170) (pc' := 181) rfl (hb hby own_d3_170) rfl (flt (by decide)).2.2.2 (by decide) (by decide) k) ?_
                          show own_Fin _ _ _ _ _ _ (T89.setTop (mkF m 181 #[.val (.ref o), .val (.int (11 : Int32)), .val (.int p2)] []))
                          refine own_to (fun t k => XS.iloadN X89.here hx rfl (hb hby own_d3_181) rfl k) ?_
                          show own_Fin _ _ _ _ _ _ (T89.setTop (mkF m 182 #[.val (.ref o), .val (.int (11 : Int32)), .val (.int p2)] [(.int (11 : Int32))]))
                          refine own_to (fun t k => XS.bipush X89.here hx rfl (hb hby own_d3_182) k) ?_
                          show own_Fin _ _ _ _ _ _ (T89.setTop (mkF m 184 #[.val (.ref o), .val (.int (11 : Int32)), .val (.int p2)] [(.int (14 : Int32)), (.int (11 : Int32))]))
                          refine own_to (fun t k => XS.icmpYes X89.here hx rfl (pc0 := 184) (pc' := 195) rfl (hb hby own_d3_184) rfl (flt (by decide)).2.2.2 (by decide) (by decide) k) ?_
                          show own_Fin _ _ _ _ _ _ (T89.setTop (mkF m 195 #[.val (.ref o), .val (.int (11 : Int32)), .val (.int p2)] []))
                          refine own_to (fun t k => XS.iloadN X89.here hx rfl (hb hby own_d3_195) rfl k) ?_
                          show own_Fin _ _ _ _ _ _ (T89.setTop (mkF m 196 #[.val (.ref o), .val (.int (11 : Int32)), .val (.int p2)] [(.int (11 : Int32))]))
                          refine own_to (fun t k => XS.bipush X89.here hx rfl (hb hby own_d3_196) k) ?_
                          show own_Fin _ _ _ _ _ _ (T89.setTop (mkF m 198 #[.val (.ref o), .val (.int (11 : Int32)), .val (.int p2)] [(.int (15 : Int32)), (.int (11 : Int32))]))
                          refine own_to (fun t k => XS.icmpYes X89.here hx rfl (pc0 := 198) (pc' := 209) rfl (hb hby own_d3_198) rfl (flt (by decide)).2.2.2 (by decide) (by decide) k) ?_
                          show own_Fin _ _ _ _ _ _ (T89.setTop (mkF m 209 #[.val (.ref o), .val (.int (11 : Int32)), .val (.int p2)] []))
                          refine own_to (fun t k => XS.iloadN X89.here hx rfl (hb hby own_d3_209) rfl k) ?_
                          show own_Fin _ _ _ _ _ _ (T89.setTop (mkF m 210 #[.val (.ref o), .val (.int (11 : Int32)), .val (.int p2)] [(.int (11 : Int32))]))
                          refine own_to (fun t k => XS.bipush X89.here hx rfl (hb hby own_d3_210) k) ?_
                          show own_Fin _ _ _ _ _ _ (T89.setTop (mkF m 212 #[.val (.ref o), .val (.int (11 : Int32)), .val (.int p2)] [(.int (16 : Int32)), (.int (11 : Int32))]))
                          refine own_to (fun t k => XS.icmpYes X89.here hx rfl (pc0 := 212) (pc' := 223) rfl (hb hby own_d3_212) rfl (flt (by decide)).2.2.2 (by decide) (by decide) k) ?_
                          show own_Fin _ _ _ _ _ _ (T89.setTop (mkF m 223 #[.val (.ref o), .val (.int (11 : Int32)), .val (.int p2)] []))
                          refine own_to (fun t k => XS.iloadN X89.here hx rfl (hb hby own_d3_223) rfl k) ?_
                          show own_Fin _ _ _ _ _ _ (T89.setTop (mkF m 224 #[.val (.ref o), .val (.int (11 : Int32)), .val (.int p2)] [(.int (11 : Int32))]))
                          refine own_to (fun t k => XS.bipush X89.here hx rfl (hb hby own_d3_224) k) ?_
                          show own_Fin _ _ _ _ _ _ (T89.setTop (mkF m 226 #[.val (.ref o), .val (.int (11 : Int32)), .val (.int p2)] [(.int (17 : Int32)), (.int (11 : Int32))]))
                          refine own_to (fun t k => XS.icmpYes X89.here hx rfl (pc0 := 226) (pc' := 237) rfl (hb hby own_d3_226) rfl (flt (by decide)).2.2.2 (by decide) (by decide) k) ?_
                          show own_Fin _ _ _ _ _ _ (T89.setTop (mkF m 237 #[.val (.ref o), .val (.int (11 : Int32)), .val (.int p2)] []))
                          refine own_retV X89 hx hlk hret (hb hby own_d3_237) (by decide) (by decide) ?_
                          exact ⟨(.ref L1), [(.ref L1), .null, .null, .null, .null, .null, .null, .null], rfl, N89, KK89, ⟨Es, Fb, Fc, Fl, Fu, Vb⟩, (fun q => absurd q (by decide))⟩
                      ·
                        show own_Fin _ _ _ _ _ _ (T87.setTop (mkF m 128 #[.val (.ref o), .val (.int p1), .val (.int p2)] [(.int (10 : Int32)), (.int p1)]))
                        obtain rfl : p1 = (10 : Int32) := own_is p1 (9 : Int32) (10 : Int32) hf86 hf88 (by decide)
                        show own_Fin _ _ _ _ _ _ (T87.setTop (mkF m 128 #[.val (.ref o), .val (.int (10 : Int32)), .val (.int p2)] [(.int (10 : Int32)), (.int (10 : Int32))]))
                        refine own_to (fun t k => XS.icmpYes X87.here hx rfl (pc0 := 128) (pc' := 139) rfl (hb hby own_d3_128) rfl (flt (by decide)).2.2.2 (by decide) (by decide) k) ?_
                        show own_Fin _ _ _ _ _ _ (T87.setTop (mkF m 139 #[.val (.ref o), .val (.int (10 : Int32)), .val (.int p2)] []))
                        refine own_to (fun t k => XS.iloadN X87.here hx rfl (hb hby own_d3_139) rfl k) ?_
                        show own_Fin _ _ _ _ _ _ (T87.setTop (mkF m 140 #[.val (.ref o), .val (.int (10 : Int32)), .val (.int p2)] [(.int (10 : Int32))]))
                        refine own_to (fun t k => XS.bipush X87.here hx rfl (hb hby own_d3_140) k) ?_
                        show own_Fin _ _ _ _ _ _ (T87.setTop (mkF m 142 #[.val (.ref o), .val (.int (10 : Int32)), .val (.int p2)] [(.int (11 : Int32)), (.int (10 : Int32))]))
                        refine own_to (fun t k => XS.icmpYes X87.here hx rfl (pc0 := 142) (pc' := 153) rfl (hb hby own_d3_142) rfl (flt (by decide)).2.2.2 (by decide) (by decide) k) ?_
                        show own_Fin _ _ _ _ _ _ (T87.setTop (mkF m 153 #[.val (.ref o), .val (.int (10 : Int32)), .val (.int p2)] []))
                        refine own_to (fun t k => XS.iloadN X87.here hx rfl (hb hby own_d3_153) rfl k) ?_
                        show own_Fin _ _ _ _ _ _ (T87.setTop (mkF m 154 #[.val (.ref o), .val (.int (10 : Int32)), .val (.int p2)] [(.int (10 : Int32))]))
                        refine own_to (fun t k => XS.bipush X87.here hx rfl (hb hby own_d3_154) k) ?_
                        show own_Fin _ _ _ _ _ _ (T87.setTop (mkF m 156 #[.val (.ref o), .val (.int (10 : Int32)), .val (.int p2)] [(.int (12 : Int32)), (.int (10 : Int32))]))
                        refine own_to (fun t k => XS.icmpYes X87.here hx rfl (pc0 := 156) (pc' := 167) rfl (hb hby own_d3_156) rfl (flt (by decide)).2.2.2 (by decide) (by decide) k) ?_
                        show own_Fin _ _ _ _ _ _ (T87.setTop (mkF m 167 #[.val (.ref o), .val (.int (10 : Int32)), .val (.int p2)] []))
                        refine own_to (fun t k => XS.iloadN X87.here hx rfl (hb hby own_d3_167) rfl k) ?_
                        show own_Fin _ _ _ _ _ _ (T87.setTop (mkF m 168 #[.val (.ref o), .val (.int (10 : Int32)), .val (.int p2)] [(.int (10 : Int32))]))
                        refine own_to (fun t k => XS.bipush X87.here hx rfl (hb hby own_d3_168) k) ?_
                        show own_Fin _ _ _ _ _ _ (T87.setTop (mkF m 170 #[.val (.ref o), .val (.int (10 : Int32)), .val (.int p2)] [(.int (13 : Int32)), (.int (10 : Int32))]))
                        refine own_to (fun t k => XS.icmpYes X87.here hx rfl (pc0 := 170) (pc' := 181) rfl (hb hby own_d3_170) rfl (flt (by decide)).2.2.2 (by decide) (by decide) k) ?_
                        show own_Fin _ _ _ _ _ _ (T87.setTop (mkF m 181 #[.val (.ref o), .val (.int (10 : Int32)), .val (.int p2)] []))
                        refine own_to (fun t k => XS.iloadN X87.here hx rfl (hb hby own_d3_181) rfl k) ?_
                        show own_Fin _ _ _ _ _ _ (T87.setTop (mkF m 182 #[.val (.ref o), .val (.int (10 : Int32)), .val (.int p2)] [(.int (10 : Int32))]))
                        refine own_to (fun t k => XS.bipush X87.here hx rfl (hb hby own_d3_182) k) ?_
                        show own_Fin _ _ _ _ _ _ (T87.setTop (mkF m 184 #[.val (.ref o), .val (.int (10 : Int32)), .val (.int p2)] [(.int (14 : Int32)), (.int (10 : Int32))]))
                        refine own_to (fun t k => XS.icmpYes X87.here hx rfl (pc0 := 184) (pc' := 195) rfl (hb hby own_d3_184) rfl (flt (by decide)).2.2.2 (by decide) (by decide) k) ?_
                        show own_Fin _ _ _ _ _ _ (T87.setTop (mkF m 195 #[.val (.ref o), .val (.int (10 : Int32)), .val (.int p2)] []))
                        refine own_to (fun t k => XS.iloadN X87.here hx rfl (hb hby own_d3_195) rfl k) ?_
                        show own_Fin _ _ _ _ _ _ (T87.setTop (mkF m 196 #[.val (.ref o), .val (.int (10 : Int32)), .val (.int p2)] [(.int (10 : Int32))]))
                        refine own_to (fun t k => XS.bipush X87.here hx rfl (hb hby own_d3_196) k) ?_
                        show own_Fin _ _ _ _ _ _ (T87.setTop (mkF m 198 #[.val (.ref o), .val (.int (10 : Int32)), .val (.int p2)] [(.int (15 : Int32)), (.int (10 : Int32))]))
                        refine own_to (fun t k => XS.icmpYes X87.here hx rfl (pc0 := 198) (pc' := 209) rfl (hb hby own_d3_198) rfl (flt (by decide)).2.2.2 (by decide) (by decide) k) ?_
                        show own_Fin _ _ _ _ _ _ (T87.setTop (mkF m 209 #[.val (.ref o), .val (.int (10 : Int32)), .val (.int p2)] []))
                        refine own_to (fun t k => XS.iloadN X87.here hx rfl (hb hby own_d3_209) rfl k) ?_
                        show own_Fin _ _ _ _ _ _ (T87.setTop (mkF m 210 #[.val (.ref o), .val (.int (10 : Int32)), .val (.int p2)] [(.int (10 : Int32))]))
                        refine own_to (fun t k => XS.bipush X87.here hx rfl (hb hby own_d3_210) k) ?_
                        show own_Fin _ _ _ _ _ _ (T87.setTop (mkF m 212 #[.val (.ref o), .val (.int (10 : Int32)), .val (.int p2)] [(.int (16 : Int32)), (.int (10 : Int32))]))
                        refine own_to (fun t k => XS.icmpYes X87.here hx rfl (pc0 := 212) (pc' := 223) rfl (hb hby own_d3_212) rfl (flt (by decide)).2.2.2 (by decide) (by decide) k) ?_
                        show own_Fin _ _ _ _ _ _ (T87.setTop (mkF m 223 #[.val (.ref o), .val (.int (10 : Int32)), .val (.int p2)] []))
                        refine own_to (fun t k => XS.iloadN X87.here hx rfl (hb hby own_d3_223) rfl k) ?_
                        show own_Fin _ _ _ _ _ _ (T87.setTop (mkF m 224 #[.val (.ref o), .val (.int (10 : Int32)), .val (.int p2)] [(.int (10 : Int32))]))
                        refine own_to (fun t k => XS.bipush X87.here hx rfl (hb hby own_d3_224) k) ?_
                        show own_Fin _ _ _ _ _ _ (T87.setTop (mkF m 226 #[.val (.ref o), .val (.int (10 : Int32)), .val (.int p2)] [(.int (17 : Int32)), (.int (10 : Int32))]))
                        refine own_to (fun t k => XS.icmpYes X87.here hx rfl (pc0 := 226) (pc' := 237) rfl (hb hby own_d3_226) rfl (flt (by decide)).2.2.2 (by decide) (by decide) k) ?_
                        show own_Fin _ _ _ _ _ _ (T87.setTop (mkF m 237 #[.val (.ref o), .val (.int (10 : Int32)), .val (.int p2)] []))
                        refine own_retV X87 hx hlk hret (hb hby own_d3_237) (by decide) (by decide) ?_
                        exact ⟨(.ref L1), [(.ref L1), .null, .null, .null, .null, .null, .null, .null], rfl, N87, KK87, ⟨Es, Fb, Fc, Fl, Fu, Vb⟩, (fun q => absurd q (by decide))⟩
                    ·
                      show own_Fin _ _ _ _ _ _ (T85.setTop (mkF m 114 #[.val (.ref o), .val (.int p1), .val (.int p2)] [(.int (9 : Int32)), (.int p1)]))
                      obtain rfl : p1 = (9 : Int32) := own_is p1 (8 : Int32) (9 : Int32) hf84 hf86 (by decide)
                      show own_Fin _ _ _ _ _ _ (T85.setTop (mkF m 114 #[.val (.ref o), .val (.int (9 : Int32)), .val (.int p2)] [(.int (9 : Int32)), (.int (9 : Int32))]))
                      refine own_to (fun t k => XS.icmpYes X85.here hx rfl (pc0 := 114) (pc' := 125) rfl (hb hby own_d3_114) rfl (flt (by decide)).2.2.2 (by decide) (by decide) k) ?_
                      show own_Fin _ _ _ _ _ _ (T85.setTop (mkF m 125 #[.val (.ref o), .val (.int (9 : Int32)), .val (.int p2)] []))
                      refine own_to (fun t k => XS.iloadN X85.here hx rfl (hb hby own_d3_125) rfl k) ?_
                      show own_Fin _ _ _ _ _ _ (T85.setTop (mkF m 126 #[.val (.ref o), .val (.int (9 : Int32)), .val (.int p2)] [(.int (9 : Int32))]))
                      refine own_to (fun t k => XS.bipush X85.here hx rfl (hb hby own_d3_126) k) ?_
                      show own_Fin _ _ _ _ _ _ (T85.setTop (mkF m 128 #[.val (.ref o), .val (.int (9 : Int32)), .val (.int p2)] [(.int (10 : Int32)), (.int (9 : Int32))]))
                      refine own_to (fun t k => XS.icmpYes X85.here hx rfl (pc0 := 128) (pc' := 139) rfl (hb hby own_d3_128) rfl (flt (by decide)).2.2.2 (by decide) (by decide) k) ?_
                      show own_Fin _ _ _ _ _ _ (T85.setTop (mkF m 139 #[.val (.ref o), .val (.int (9 : Int32)), .val (.int p2)] []))
                      refine own_to (fun t k => XS.iloadN X85.here hx rfl (hb hby own_d3_139) rfl k) ?_
                      show own_Fin _ _ _ _ _ _ (T85.setTop (mkF m 140 #[.val (.ref o), .val (.int (9 : Int32)), .val (.int p2)] [(.int (9 : Int32))]))
                      refine own_to (fun t k => XS.bipush X85.here hx rfl (hb hby own_d3_140) k) ?_
                      show own_Fin _ _ _ _ _ _ (T85.setTop (mkF m 142 #[.val (.ref o), .val (.int (9 : Int32)), .val (.int p2)] [(.int (11 : Int32)), (.int (9 : Int32))]))
                      refine own_to (fun t k => XS.icmpYes X85.here hx rfl (pc0 := 142) (pc' := 153) rfl (hb hby own_d3_142) rfl (flt (by decide)).2.2.2 (by decide) (by decide) k) ?_
                      show own_Fin _ _ _ _ _ _ (T85.setTop (mkF m 153 #[.val (.ref o), .val (.int (9 : Int32)), .val (.int p2)] []))
                      refine own_to (fun t k => XS.iloadN X85.here hx rfl (hb hby own_d3_153) rfl k) ?_
                      show own_Fin _ _ _ _ _ _ (T85.setTop (mkF m 154 #[.val (.ref o), .val (.int (9 : Int32)), .val (.int p2)] [(.int (9 : Int32))]))
                      refine own_to (fun t k => XS.bipush X85.here hx rfl (hb hby own_d3_154) k) ?_
                      show own_Fin _ _ _ _ _ _ (T85.setTop (mkF m 156 #[.val (.ref o), .val (.int (9 : Int32)), .val (.int p2)] [(.int (12 : Int32)), (.int (9 : Int32))]))
                      refine own_to (fun t k => XS.icmpYes X85.here hx rfl (pc0 := 156) (pc' := 167) rfl (hb hby own_d3_156) rfl (flt (by decide)).2.2.2 (by decide) (by decide) k) ?_
                      show own_Fin _ _ _ _ _ _ (T85.setTop (mkF m 167 #[.val (.ref o), .val (.int (9 : Int32)), .val (.int p2)] []))
                      refine own_to (fun t k => XS.iloadN X85.here hx rfl (hb hby own_d3_167) rfl k) ?_
                      show own_Fin _ _ _ _ _ _ (T85.setTop (mkF m 168 #[.val (.ref o), .val (.int (9 : Int32)), .val (.int p2)] [(.int (9 : Int32))]))
                      refine own_to (fun t k => XS.bipush X85.here hx rfl (hb hby own_d3_168) k) ?_
                      show own_Fin _ _ _ _ _ _ (T85.setTop (mkF m 170 #[.val (.ref o), .val (.int (9 : Int32)), .val (.int p2)] [(.int (13 : Int32)), (.int (9 : Int32))]))
                      refine own_to (fun t k => XS.icmpYes X85.here hx rfl (pc0 := 170) (pc' := 181) rfl (hb hby own_d3_170) rfl (flt (by decide)).2.2.2 (by decide) (by decide) k) ?_
                      show own_Fin _ _ _ _ _ _ (T85.setTop (mkF m 181 #[.val (.ref o), .val (.int (9 : Int32)), .val (.int p2)] []))
                      refine own_to (fun t k => XS.iloadN X85.here hx rfl (hb hby own_d3_181) rfl k) ?_
                      show own_Fin _ _ _ _ _ _ (T85.setTop (mkF m 182 #[.val (.ref o), .val (.int (9 : Int32)), .val (.int p2)] [(.int (9 : Int32))]))
                      refine own_to (fun t k => XS.bipush X85.here hx rfl (hb hby own_d3_182) k) ?_
                      show own_Fin _ _ _ _ _ _ (T85.setTop (mkF m 184 #[.val (.ref o), .val (.int (9 : Int32)), .val (.int p2)] [(.int (14 : Int32)), (.int (9 : Int32))]))
                      refine own_to (fun t k => XS.icmpYes X85.here hx rfl (pc0 := 184) (pc' := 195) rfl (hb hby own_d3_184) rfl (flt (by decide)).2.2.2 (by decide) (by decide) k) ?_
                      show own_Fin _ _ _ _ _ _ (T85.setTop (mkF m 195 #[.val (.ref o), .val (.int (9 : Int32)), .val (.int p2)] []))
                      refine own_to (fun t k => XS.iloadN X85.here hx rfl (hb hby own_d3_195) rfl k) ?_
                      show own_Fin _ _ _ _ _ _ (T85.setTop (mkF m 196 #[.val (.ref o), .val (.int (9 : Int32)), .val (.int p2)] [(.int (9 : Int32))]))
                      refine own_to (fun t k => XS.bipush X85.here hx rfl (hb hby own_d3_196) k) ?_
                      show own_Fin _ _ _ _ _ _ (T85.setTop (mkF m 198 #[.val (.ref o), .val (.int (9 : Int32)), .val (.int p2)] [(.int (15 : Int32)), (.int (9 : Int32))]))
                      refine own_to (fun t k => XS.icmpYes X85.here hx rfl (pc0 := 198) (pc' := 209) rfl (hb hby own_d3_198) rfl (flt (by decide)).2.2.2 (by decide) (by decide) k) ?_
                      show own_Fin _ _ _ _ _ _ (T85.setTop (mkF m 209 #[.val (.ref o), .val (.int (9 : Int32)), .val (.int p2)] []))
                      refine own_to (fun t k => XS.iloadN X85.here hx rfl (hb hby own_d3_209) rfl k) ?_
                      show own_Fin _ _ _ _ _ _ (T85.setTop (mkF m 210 #[.val (.ref o), .val (.int (9 : Int32)), .val (.int p2)] [(.int (9 : Int32))]))
                      refine own_to (fun t k => XS.bipush X85.here hx rfl (hb hby own_d3_210) k) ?_
                      show own_Fin _ _ _ _ _ _ (T85.setTop (mkF m 212 #[.val (.ref o), .val (.int (9 : Int32)), .val (.int p2)] [(.int (16 : Int32)), (.int (9 : Int32))]))
                      refine own_to (fun t k => XS.icmpYes X85.here hx rfl (pc0 := 212) (pc' := 223) rfl (hb hby own_d3_212) rfl (flt (by decide)).2.2.2 (by decide) (by decide) k) ?_
                      show own_Fin _ _ _ _ _ _ (T85.setTop (mkF m 223 #[.val (.ref o), .val (.int (9 : Int32)), .val (.int p2)] []))
                      refine own_to (fun t k => XS.iloadN X85.here hx rfl (hb hby own_d3_223) rfl k) ?_
                      show own_Fin _ _ _ _ _ _ (T85.setTop (mkF m 224 #[.val (.ref o), .val (.int (9 : Int32)), .val (.int p2)] [(.int (9 : Int32))]))
                      refine own_to (fun t k => XS.bipush X85.here hx rfl (hb hby own_d3_224) k) ?_
                      show own_Fin _ _ _ _ _ _ (T85.setTop (mkF m 226 #[.val (.ref o), .val (.int (9 : Int32)), .val (.int p2)] [(.int (17 : Int32)), (.int (9 : Int32))]))
                      refine own_to (fun t k => XS.icmpYes X85.here hx rfl (pc0 := 226) (pc' := 237) rfl (hb hby own_d3_226) rfl (flt (by decide)).2.2.2 (by decide) (by decide) k) ?_
                      show own_Fin _ _ _ _ _ _ (T85.setTop (mkF m 237 #[.val (.ref o), .val (.int (9 : Int32)), .val (.int p2)] []))
                      refine own_retV X85 hx hlk hret (hb hby own_d3_237) (by decide) (by decide) ?_
                      exact ⟨(.ref L1), [(.ref L1), .null, .null, .null, .null, .null, .null, .null], rfl, N85, KK85, ⟨Es, Fb, Fc, Fl, Fu, Vb⟩, (fun q => absurd q (by decide))⟩
                  ·
                    show own_Fin _ _ _ _ _ _ (T83.setTop (mkF m 100 #[.val (.ref o), .val (.int p1), .val (.int p2)] [(.int (8 : Int32)), (.int p1)]))
                    obtain rfl : p1 = (8 : Int32) := own_is p1 (7 : Int32) (8 : Int32) hf82 hf84 (by decide)
                    show own_Fin _ _ _ _ _ _ (T83.setTop (mkF m 100 #[.val (.ref o), .val (.int (8 : Int32)), .val (.int p2)] [(.int (8 : Int32)), (.int (8 : Int32))]))
                    refine own_to (fun t k => XS.icmpYes X83.here hx rfl (pc0 := 100) (pc' := 111) rfl (hb hby own_d3_100) rfl (flt (by decide)).2.2.2 (by decide) (by decide) k) ?_
                    show own_Fin _ _ _ _ _ _ (T83.setTop (mkF m 111 #[.val (.ref o), .val (.int (8 : Int32)), .val (.int p2)] []))
                    refine own_to (fun t k => XS.iloadN X83.here hx rfl (hb hby own_d3_111) rfl k) ?_
                    show own_Fin _ _ _ _ _ _ (T83.setTop (mkF m 112 #[.val (.ref o), .val (.int (8 : Int32)), .val (.int p2)] [(.int (8 : Int32))]))
                    refine own_to (fun t k => XS.bipush X83.here hx rfl (hb hby own_d3_112) k) ?_
                    show own_Fin _ _ _ _ _ _ (T83.setTop (mkF m 114 #[.val (.ref o), .val (.int (8 : Int32)), .val (.int p2)] [(.int (9 : Int32)), (.int (8 : Int32))]))
                    refine own_to (fun t k => XS.icmpYes X83.here hx rfl (pc0 := 114) (pc' := 125) rfl (hb hby own_d3_114) rfl (flt (by decide)).2.2.2 (by decide) (by decide) k) ?_
                    show own_Fin _ _ _ _ _ _ (T83.setTop (mkF m 125 #[.val (.ref o), .val (.int (8 : Int32)), .val (.int p2)] []))
                    refine own_to (fun t k => XS.iloadN X83.here hx rfl (hb hby own_d3_125) rfl k) ?_
                    show own_Fin _ _ _ _ _ _ (T83.setTop (mkF m 126 #[.val (.ref o), .val (.int (8 : Int32)), .val (.int p2)] [(.int (8 : Int32))]))
                    refine own_to (fun t k => XS.bipush X83.here hx rfl (hb hby own_d3_126) k) ?_
                    show own_Fin _ _ _ _ _ _ (T83.setTop (mkF m 128 #[.val (.ref o), .val (.int (8 : Int32)), .val (.int p2)] [(.int (10 : Int32)), (.int (8 : Int32))]))
                    refine own_to (fun t k => XS.icmpYes X83.here hx rfl (pc0 := 128) (pc' := 139) rfl (hb hby own_d3_128) rfl (flt (by decide)).2.2.2 (by decide) (by decide) k) ?_
                    show own_Fin _ _ _ _ _ _ (T83.setTop (mkF m 139 #[.val (.ref o), .val (.int (8 : Int32)), .val (.int p2)] []))
                    refine own_to (fun t k => XS.iloadN X83.here hx rfl (hb hby own_d3_139) rfl k) ?_
                    show own_Fin _ _ _ _ _ _ (T83.setTop (mkF m 140 #[.val (.ref o), .val (.int (8 : Int32)), .val (.int p2)] [(.int (8 : Int32))]))
                    refine own_to (fun t k => XS.bipush X83.here hx rfl (hb hby own_d3_140) k) ?_
                    show own_Fin _ _ _ _ _ _ (T83.setTop (mkF m 142 #[.val (.ref o), .val (.int (8 : Int32)), .val (.int p2)] [(.int (11 : Int32)), (.int (8 : Int32))]))
                    refine own_to (fun t k => XS.icmpYes X83.here hx rfl (pc0 := 142) (pc' := 153) rfl (hb hby own_d3_142) rfl (flt (by decide)).2.2.2 (by decide) (by decide) k) ?_
                    show own_Fin _ _ _ _ _ _ (T83.setTop (mkF m 153 #[.val (.ref o), .val (.int (8 : Int32)), .val (.int p2)] []))
                    refine own_to (fun t k => XS.iloadN X83.here hx rfl (hb hby own_d3_153) rfl k) ?_
                    show own_Fin _ _ _ _ _ _ (T83.setTop (mkF m 154 #[.val (.ref o), .val (.int (8 : Int32)), .val (.int p2)] [(.int (8 : Int32))]))
                    refine own_to (fun t k => XS.bipush X83.here hx rfl (hb hby own_d3_154) k) ?_
                    show own_Fin _ _ _ _ _ _ (T83.setTop (mkF m 156 #[.val (.ref o), .val (.int (8 : Int32)), .val (.int p2)] [(.int (12 : Int32)), (.int (8 : Int32))]))
                    refine own_to (fun t k => XS.icmpYes X83.here hx rfl (pc0 := 156) (pc' := 167) rfl (hb hby own_d3_156) rfl (flt (by decide)).2.2.2 (by decide) (by decide) k) ?_
                    show own_Fin _ _ _ _ _ _ (T83.setTop (mkF m 167 #[.val (.ref o), .val (.int (8 : Int32)), .val (.int p2)] []))
                    refine own_to (fun t k => XS.iloadN X83.here hx rfl (hb hby own_d3_167) rfl k) ?_
                    show own_Fin _ _ _ _ _ _ (T83.setTop (mkF m 168 #[.val (.ref o), .val (.int (8 : Int32)), .val (.int p2)] [(.int (8 : Int32))]))
                    refine own_to (fun t k => XS.bipush X83.here hx rfl (hb hby own_d3_168) k) ?_
                    show own_Fin _ _ _ _ _ _ (T83.setTop (mkF m 170 #[.val (.ref o), .val (.int (8 : Int32)), .val (.int p2)] [(.int (13 : Int32)), (.int (8 : Int32))]))
                    refine own_to (fun t k => XS.icmpYes X83.here hx rfl (pc0 := 170) (pc' := 181) rfl (hb hby own_d3_170) rfl (flt (by decide)).2.2.2 (by decide) (by decide) k) ?_
                    show own_Fin _ _ _ _ _ _ (T83.setTop (mkF m 181 #[.val (.ref o), .val (.int (8 : Int32)), .val (.int p2)] []))
                    refine own_to (fun t k => XS.iloadN X83.here hx rfl (hb hby own_d3_181) rfl k) ?_
                    show own_Fin _ _ _ _ _ _ (T83.setTop (mkF m 182 #[.val (.ref o), .val (.int (8 : Int32)), .val (.int p2)] [(.int (8 : Int32))]))
                    refine own_to (fun t k => XS.bipush X83.here hx rfl (hb hby own_d3_182) k) ?_
                    show own_Fin _ _ _ _ _ _ (T83.setTop (mkF m 184 #[.val (.ref o), .val (.int (8 : Int32)), .val (.int p2)] [(.int (14 : Int32)), (.int (8 : Int32))]))
                    refine own_to (fun t k => XS.icmpYes X83.here hx rfl (pc0 := 184) (pc' := 195) rfl (hb hby own_d3_184) rfl (flt (by decide)).2.2.2 (by decide) (by decide) k) ?_
                    show own_Fin _ _ _ _ _ _ (T83.setTop (mkF m 195 #[.val (.ref o), .val (.int (8 : Int32)), .val (.int p2)] []))
                    refine own_to (fun t k => XS.iloadN X83.here hx rfl (hb hby own_d3_195) rfl k) ?_
                    show own_Fin _ _ _ _ _ _ (T83.setTop (mkF m 196 #[.val (.ref o), .val (.int (8 : Int32)), .val (.int p2)] [(.int (8 : Int32))]))
                    refine own_to (fun t k => XS.bipush X83.here hx rfl (hb hby own_d3_196) k) ?_
                    show own_Fin _ _ _ _ _ _ (T83.setTop (mkF m 198 #[.val (.ref o), .val (.int (8 : Int32)), .val (.int p2)] [(.int (15 : Int32)), (.int (8 : Int32))]))
                    refine own_to (fun t k => XS.icmpYes X83.here hx rfl (pc0 := 198) (pc' := 209) rfl (hb hby own_d3_198) rfl (flt (by decide)).2.2.2 (by decide) (by decide) k) ?_
                    show own_Fin _ _ _ _ _ _ (T83.setTop (mkF m 209 #[.val (.ref o), .val (.int (8 : Int32)), .val (.int p2)] []))
                    refine own_to (fun t k => XS.iloadN X83.here hx rfl (hb hby own_d3_209) rfl k) ?_
                    show own_Fin _ _ _ _ _ _ (T83.setTop (mkF m 210 #[.val (.ref o), .val (.int (8 : Int32)), .val (.int p2)] [(.int (8 : Int32))]))
                    refine own_to (fun t k => XS.bipush X83.here hx rfl (hb hby own_d3_210) k) ?_
                    show own_Fin _ _ _ _ _ _ (T83.setTop (mkF m 212 #[.val (.ref o), .val (.int (8 : Int32)), .val (.int p2)] [(.int (16 : Int32)), (.int (8 : Int32))]))
                    refine own_to (fun t k => XS.icmpYes X83.here hx rfl (pc0 := 212) (pc' := 223) rfl (hb hby own_d3_212) rfl (flt (by decide)).2.2.2 (by decide) (by decide) k) ?_
                    show own_Fin _ _ _ _ _ _ (T83.setTop (mkF m 223 #[.val (.ref o), .val (.int (8 : Int32)), .val (.int p2)] []))
                    refine own_to (fun t k => XS.iloadN X83.here hx rfl (hb hby own_d3_223) rfl k) ?_
                    show own_Fin _ _ _ _ _ _ (T83.setTop (mkF m 224 #[.val (.ref o), .val (.int (8 : Int32)), .val (.int p2)] [(.int (8 : Int32))]))
                    refine own_to (fun t k => XS.bipush X83.here hx rfl (hb hby own_d3_224) k) ?_
                    show own_Fin _ _ _ _ _ _ (T83.setTop (mkF m 226 #[.val (.ref o), .val (.int (8 : Int32)), .val (.int p2)] [(.int (17 : Int32)), (.int (8 : Int32))]))
                    refine own_to (fun t k => XS.icmpYes X83.here hx rfl (pc0 := 226) (pc' := 237) rfl (hb hby own_d3_226) rfl (flt (by decide)).2.2.2 (by decide) (by decide) k) ?_
                    show own_Fin _ _ _ _ _ _ (T83.setTop (mkF m 237 #[.val (.ref o), .val (.int (8 : Int32)), .val (.int p2)] []))
                    refine own_retV X83 hx hlk hret (hb hby own_d3_237) (by decide) (by decide) ?_
                    exact ⟨(.ref L1), [(.ref L1), .null, .null, .null, .null, .null, .null, .null], rfl, N83, KK83, ⟨Es, Fb, Fc, Fl, Fu, Vb⟩, (fun q => absurd q (by decide))⟩
                ·
                  show own_Fin _ _ _ _ _ _ (T81.setTop (mkF m 86 #[.val (.ref o), .val (.int p1), .val (.int p2)] [(.int (7 : Int32)), (.int p1)]))
                  obtain rfl : p1 = (7 : Int32) := own_is p1 (6 : Int32) (7 : Int32) hf80 hf82 (by decide)
                  show own_Fin _ _ _ _ _ _ (T81.setTop (mkF m 86 #[.val (.ref o), .val (.int (7 : Int32)), .val (.int p2)] [(.int (7 : Int32)), (.int (7 : Int32))]))
                  refine own_to (fun t k => XS.icmpYes X81.here hx rfl (pc0 := 86) (pc' := 97) rfl (hb hby own_d3_86) rfl (flt (by decide)).2.2.2 (by decide) (by decide) k) ?_
                  show own_Fin _ _ _ _ _ _ (T81.setTop (mkF m 97 #[.val (.ref o), .val (.int (7 : Int32)), .val (.int p2)] []))
                  refine own_to (fun t k => XS.iloadN X81.here hx rfl (hb hby own_d3_97) rfl k) ?_
                  show own_Fin _ _ _ _ _ _ (T81.setTop (mkF m 98 #[.val (.ref o), .val (.int (7 : Int32)), .val (.int p2)] [(.int (7 : Int32))]))
                  refine own_to (fun t k => XS.bipush X81.here hx rfl (hb hby own_d3_98) k) ?_
                  show own_Fin _ _ _ _ _ _ (T81.setTop (mkF m 100 #[.val (.ref o), .val (.int (7 : Int32)), .val (.int p2)] [(.int (8 : Int32)), (.int (7 : Int32))]))
                  refine own_to (fun t k => XS.icmpYes X81.here hx rfl (pc0 := 100) (pc' := 111) rfl (hb hby own_d3_100) rfl (flt (by decide)).2.2.2 (by decide) (by decide) k) ?_
                  show own_Fin _ _ _ _ _ _ (T81.setTop (mkF m 111 #[.val (.ref o), .val (.int (7 : Int32)), .val (.int p2)] []))
                  refine own_to (fun t k => XS.iloadN X81.here hx rfl (hb hby own_d3_111) rfl k) ?_
                  show own_Fin _ _ _ _ _ _ (T81.setTop (mkF m 112 #[.val (.ref o), .val (.int (7 : Int32)), .val (.int p2)] [(.int (7 : Int32))]))
                  refine own_to (fun t k => XS.bipush X81.here hx rfl (hb hby own_d3_112) k) ?_
                  show own_Fin _ _ _ _ _ _ (T81.setTop (mkF m 114 #[.val (.ref o), .val (.int (7 : Int32)), .val (.int p2)] [(.int (9 : Int32)), (.int (7 : Int32))]))
                  refine own_to (fun t k => XS.icmpYes X81.here hx rfl (pc0 := 114) (pc' := 125) rfl (hb hby own_d3_114) rfl (flt (by decide)).2.2.2 (by decide) (by decide) k) ?_
                  show own_Fin _ _ _ _ _ _ (T81.setTop (mkF m 125 #[.val (.ref o), .val (.int (7 : Int32)), .val (.int p2)] []))
                  refine own_to (fun t k => XS.iloadN X81.here hx rfl (hb hby own_d3_125) rfl k) ?_
                  show own_Fin _ _ _ _ _ _ (T81.setTop (mkF m 126 #[.val (.ref o), .val (.int (7 : Int32)), .val (.int p2)] [(.int (7 : Int32))]))
                  refine own_to (fun t k => XS.bipush X81.here hx rfl (hb hby own_d3_126) k) ?_
                  show own_Fin _ _ _ _ _ _ (T81.setTop (mkF m 128 #[.val (.ref o), .val (.int (7 : Int32)), .val (.int p2)] [(.int (10 : Int32)), (.int (7 : Int32))]))
                  refine own_to (fun t k => XS.icmpYes X81.here hx rfl (pc0 := 128) (pc' := 139) rfl (hb hby own_d3_128) rfl (flt (by decide)).2.2.2 (by decide) (by decide) k) ?_
                  show own_Fin _ _ _ _ _ _ (T81.setTop (mkF m 139 #[.val (.ref o), .val (.int (7 : Int32)), .val (.int p2)] []))
                  refine own_to (fun t k => XS.iloadN X81.here hx rfl (hb hby own_d3_139) rfl k) ?_
                  show own_Fin _ _ _ _ _ _ (T81.setTop (mkF m 140 #[.val (.ref o), .val (.int (7 : Int32)), .val (.int p2)] [(.int (7 : Int32))]))
                  refine own_to (fun t k => XS.bipush X81.here hx rfl (hb hby own_d3_140) k) ?_
                  show own_Fin _ _ _ _ _ _ (T81.setTop (mkF m 142 #[.val (.ref o), .val (.int (7 : Int32)), .val (.int p2)] [(.int (11 : Int32)), (.int (7 : Int32))]))
                  refine own_to (fun t k => XS.icmpYes X81.here hx rfl (pc0 := 142) (pc' := 153) rfl (hb hby own_d3_142) rfl (flt (by decide)).2.2.2 (by decide) (by decide) k) ?_
                  show own_Fin _ _ _ _ _ _ (T81.setTop (mkF m 153 #[.val (.ref o), .val (.int (7 : Int32)), .val (.int p2)] []))
                  refine own_to (fun t k => XS.iloadN X81.here hx rfl (hb hby own_d3_153) rfl k) ?_
                  show own_Fin _ _ _ _ _ _ (T81.setTop (mkF m 154 #[.val (.ref o), .val (.int (7 : Int32)), .val (.int p2)] [(.int (7 : Int32))]))
                  refine own_to (fun t k => XS.bipush X81.here hx rfl (hb hby own_d3_154) k) ?_
                  show own_Fin _ _ _ _ _ _ (T81.setTop (mkF m 156 #[.val (.ref o), .val (.int (7 : Int32)), .val (.int p2)] [(.int (12 : Int32)), (.int (7 : Int32))]))
                  refine own_to (fun t k => XS.icmpYes X81.here hx rfl (pc0 := 156) (pc' := 167) rfl (hb hby own_d3_156) rfl (flt (by decide)).2.2.2 (by decide) (by decide) k) ?_
                  show own_Fin _ _ _ _ _ _ (T81.setTop (mkF m 167 #[.val (.ref o), .val (.int (7 : Int32)), .val (.int p2)] []))
                  refine own_to (fun t k => XS.iloadN X81.here hx rfl (hb hby own_d3_167) rfl k) ?_
                  show own_Fin _ _ _ _ _ _ (T81.setTop (mkF m 168 #[.val (.ref o), .val (.int (7 : Int32)), .val (.int p2)] [(.int (7 : Int32))]))
                  refine own_to (fun t k => XS.bipush X81.here hx rfl (hb hby own_d3_168) k) ?_
                  show own_Fin _ _ _ _ _ _ (T81.setTop (mkF m 170 #[.val (.ref o), .val (.int (7 : Int32)), .val (.int p2)] [(.int (13 : Int32)), (.int (7 : Int32))]))
                  refine own_to (fun t k => XS.icmpYes X81.here hx rfl (pc0 := 170) (pc' := 181) rfl (hb hby own_d3_170) rfl (flt (by decide)).2.2.2 (by decide) (by decide) k) ?_
                  show own_Fin _ _ _ _ _ _ (T81.setTop (mkF m 181 #[.val (.ref o), .val (.int (7 : Int32)), .val (.int p2)] []))
                  refine own_to (fun t k => XS.iloadN X81.here hx rfl (hb hby own_d3_181) rfl k) ?_
                  show own_Fin _ _ _ _ _ _ (T81.setTop (mkF m 182 #[.val (.ref o), .val (.int (7 : Int32)), .val (.int p2)] [(.int (7 : Int32))]))
                  refine own_to (fun t k => XS.bipush X81.here hx rfl (hb hby own_d3_182) k) ?_
                  show own_Fin _ _ _ _ _ _ (T81.setTop (mkF m 184 #[.val (.ref o), .val (.int (7 : Int32)), .val (.int p2)] [(.int (14 : Int32)), (.int (7 : Int32))]))
                  refine own_to (fun t k => XS.icmpYes X81.here hx rfl (pc0 := 184) (pc' := 195) rfl (hb hby own_d3_184) rfl (flt (by decide)).2.2.2 (by decide) (by decide) k) ?_
                  show own_Fin _ _ _ _ _ _ (T81.setTop (mkF m 195 #[.val (.ref o), .val (.int (7 : Int32)), .val (.int p2)] []))
                  refine own_to (fun t k => XS.iloadN X81.here hx rfl (hb hby own_d3_195) rfl k) ?_
                  show own_Fin _ _ _ _ _ _ (T81.setTop (mkF m 196 #[.val (.ref o), .val (.int (7 : Int32)), .val (.int p2)] [(.int (7 : Int32))]))
                  refine own_to (fun t k => XS.bipush X81.here hx rfl (hb hby own_d3_196) k) ?_
                  show own_Fin _ _ _ _ _ _ (T81.setTop (mkF m 198 #[.val (.ref o), .val (.int (7 : Int32)), .val (.int p2)] [(.int (15 : Int32)), (.int (7 : Int32))]))
                  refine own_to (fun t k => XS.icmpYes X81.here hx rfl (pc0 := 198) (pc' := 209) rfl (hb hby own_d3_198) rfl (flt (by decide)).2.2.2 (by decide) (by decide) k) ?_
                  show own_Fin _ _ _ _ _ _ (T81.setTop (mkF m 209 #[.val (.ref o), .val (.int (7 : Int32)), .val (.int p2)] []))
                  refine own_to (fun t k => XS.iloadN X81.here hx rfl (hb hby own_d3_209) rfl k) ?_
                  show own_Fin _ _ _ _ _ _ (T81.setTop (mkF m 210 #[.val (.ref o), .val (.int (7 : Int32)), .val (.int p2)] [(.int (7 : Int32))]))
                  refine own_to (fun t k => XS.bipush X81.here hx rfl (hb hby own_d3_210) k) ?_
                  show own_Fin _ _ _ _ _ _ (T81.setTop (mkF m 212 #[.val (.ref o), .val (.int (7 : Int32)), .val (.int p2)] [(.int (16 : Int32)), (.int (7 : Int32))]))
                  refine own_to (fun t k => XS.icmpYes X81.here hx rfl (pc0 := 212) (pc' := 223) rfl (hb hby own_d3_212) rfl (flt (by decide)).2.2.2 (by decide) (by decide) k) ?_
                  show own_Fin _ _ _ _ _ _ (T81.setTop (mkF m 223 #[.val (.ref o), .val (.int (7 : Int32)), .val (.int p2)] []))
                  refine own_to (fun t k => XS.iloadN X81.here hx rfl (hb hby own_d3_223) rfl k) ?_
                  show own_Fin _ _ _ _ _ _ (T81.setTop (mkF m 224 #[.val (.ref o), .val (.int (7 : Int32)), .val (.int p2)] [(.int (7 : Int32))]))
                  refine own_to (fun t k => XS.bipush X81.here hx rfl (hb hby own_d3_224) k) ?_
                  show own_Fin _ _ _ _ _ _ (T81.setTop (mkF m 226 #[.val (.ref o), .val (.int (7 : Int32)), .val (.int p2)] [(.int (17 : Int32)), (.int (7 : Int32))]))
                  refine own_to (fun t k => XS.icmpYes X81.here hx rfl (pc0 := 226) (pc' := 237) rfl (hb hby own_d3_226) rfl (flt (by decide)).2.2.2 (by decide) (by decide) k) ?_
                  show own_Fin _ _ _ _ _ _ (T81.setTop (mkF m 237 #[.val (.ref o), .val (.int (7 : Int32)), .val (.int p2)] []))
                  refine own_retV X81 hx hlk hret (hb hby own_d3_237) (by decide) (by decide) ?_
                  exact ⟨(.ref L1), [(.ref L1), .null, .null, .null, .null, .null, .null, .null], rfl, N81, KK81, ⟨Es, Fb, Fc, Fl, Fu, Vb⟩, (fun q => absurd q (by decide))⟩
              ·
                show own_Fin _ _ _ _ _ _ (T79.setTop (mkF m 72 #[.val (.ref o), .val (.int p1), .val (.int p2)] [(.int (6 : Int32)), (.int p1)]))
                obtain rfl : p1 = (6 : Int32) := own_is p1 (5 : Int32) (6 : Int32) hf78 hf80 (by decide)
                show own_Fin _ _ _ _ _ _ (T79.setTop (mkF m 72 #[.val (.ref o), .val (.int (6 : Int32)), .val (.int p2)] [(.int (6 : Int32)), (.int (6 : Int32))]))
                refine own_to (fun t k => XS.icmpYes X79.here hx rfl (pc0 := 72) (pc' := 83) rfl (hb hby own_d3_72) rfl (flt (by decide)).2.2.2 (by decide) (by decide) k) ?_
                show own_Fin _ _ _ _ _ _ (T79.setTop (mkF m 83 #[.val (.ref o), .val (.int (6 : Int32)), .val (.int p2)] []))
                refine own_to (fun t k => XS.iloadN X79.here hx rfl (hb hby own_d3_83) rfl k) ?_
                show own_Fin _ _ _ _ _ _ (T79.setTop (mkF m 84 #[.val (.ref o), .val (.int (6 : Int32)), .val (.int p2)] [(.int (6 : Int32))]))
                refine own_to (fun t k => XS.bipush X79.here hx rfl (hb hby own_d3_84) k) ?_
                show own_Fin _ _ _ _ _ _ (T79.setTop (mkF m 86 #[.val (.ref o), .val (.int (6 : Int32)), .val (.int p2)] [(.int (7 : Int32)), (.int (6 : Int32))]))
                refine own_to (fun t k => XS.icmpYes X79.here hx rfl (pc0 := 86) (pc' := 97) rfl (hb hby own_d3_86) rfl (flt (by decide)).2.2.2 (by decide) (by decide) k) ?_
                show own_Fin _ _ _ _ _ _ (T79.setTop (mkF m 97 #[.val (.ref o), .val (.int (6 : Int32)), .val (.int p2)] []))
                refine own_to (fun t k => XS.iloadN X79.here hx rfl (hb hby own_d3_97) rfl k) ?_
                show own_Fin _ _ _ _ _ _ (T79.setTop (mkF m 98 #[.val (.ref o), .val (.int (6 : Int32)), .val (.int p2)] [(.int (6 : Int32))]))
                refine own_to (fun t k => XS.bipush X79.here hx rfl (hb hby own_d3_98) k) ?_
                show own_Fin _ _ _ _ _ _ (T79.setTop (mkF m 100 #[.val (.ref o), .val (.int (6 : Int32)), .val (.int p2)] [(.int (8 : Int32)), (.int (6 : Int32))]))
                refine own_to (fun t k => XS.icmpYes X79.here hx rfl (pc0 := 100) (pc' := 111) rfl (hb hby own_d3_100) rfl (flt (by decide)).2.2.2 (by decide) (by decide) k) ?_
                show own_Fin _ _ _ _ _ _ (T79.setTop (mkF m 111 #[.val (.ref o), .val (.int (6 : Int32)), .val (.int p2)] []))
                refine own_to (fun t k => XS.iloadN X79.here hx rfl (hb hby own_d3_111) rfl k) ?_
                show own_Fin _ _ _ _ _ _ (T79.setTop (mkF m 112 #[.val (.ref o), .val (.int (6 : Int32)), .val (.int p2)] [(.int (6 : Int32))]))
                refine own_to (fun t k => XS.bipush X79.here hx rfl (hb hby own_d3_112) k) ?_
                show own_Fin _ _ _ _ _ _ (T79.setTop (mkF m 114 #[.val (.ref o), .val (.int (6 : Int32)), .val (.int p2)] [(.int (9 : Int32)), (.int (6 : Int32))]))
                refine own_to (fun t k => XS.icmpYes X79.here hx rfl (pc0 := 114) (pc' := 125) rfl (hb hby own_d3_114) rfl (flt (by decide)).2.2.2 (by decide) (by decide) k) ?_
                show own_Fin _ _ _ _ _ _ (T79.setTop (mkF m 125 #[.val (.ref o), .val (.int (6 : Int32)), .val (.int p2)] []))
                refine own_to (fun t k => XS.iloadN X79.here hx rfl (hb hby own_d3_125) rfl k) ?_
                show own_Fin _ _ _ _ _ _ (T79.setTop (mkF m 126 #[.val (.ref o), .val (.int (6 : Int32)), .val (.int p2)] [(.int (6 : Int32))]))
                refine own_to (fun t k => XS.bipush X79.here hx rfl (hb hby own_d3_126) k) ?_
                show own_Fin _ _ _ _ _ _ (T79.setTop (mkF m 128 #[.val (.ref o), .val (.int (6 : Int32)), .val (.int p2)] [(.int (10 : Int32)), (.int (6 : Int32))]))
                refine own_to (fun t k => XS.icmpYes X79.here hx rfl (pc0 := 128) (pc' := 139) rfl (hb hby own_d3_128) rfl (flt (by decide)).2.2.2 (by decide) (by decide) k) ?_
                show own_Fin _ _ _ _ _ _ (T79.setTop (mkF m 139 #[.val (.ref o), .val (.int (6 : Int32)), .val (.int p2)] []))
                refine own_to (fun t k => XS.iloadN X79.here hx rfl (hb hby own_d3_139) rfl k) ?_
                show own_Fin _ _ _ _ _ _ (T79.setTop (mkF m 140 #[.val (.ref o), .val (.int (6 : Int32)), .val (.int p2)] [(.int (6 : Int32))]))
                refine own_to (fun t k => XS.bipush X79.here hx rfl (hb hby own_d3_140) k) ?_
                show own_Fin _ _ _ _ _ _ (T79.setTop (mkF m 142 #[.val (.ref o), .val (.int (6 : Int32)), .val (.int p2)] [(.int (11 : Int32)), (.int (6 : Int32))]))
                refine own_to (fun t k => XS.icmpYes X79.here hx rfl (pc0 := 142) (pc' := 153) rfl (hb hby own_d3_142) rfl (flt (by decide)).2.2.2 (by decide) (by decide) k) ?_
                show own_Fin _ _ _ _ _ _ (T79.setTop (mkF m 153 #[.val (.ref o), .val (.int (6 : Int32)), .val (.int p2)] []))
                refine own_to (fun t k => XS.iloadN X79.here hx rfl (hb hby own_d3_153) rfl k) ?_
                show own_Fin _ _ _ _ _ _ (T79.setTop (mkF m 154 #[.val (.ref o), .val (.int (6 : Int32)), .val (.int p2)] [(.int (6 : Int32))]))
                refine own_to (fun t k => XS.bipush X79.here hx rfl (hb hby own_d3_154) k) ?_
                show own_Fin _ _ _ _ _ _ (T79.setTop (mkF m 156 #[.val (.ref o), .val (.int (6 : Int32)), .val (.int p2)] [(.int (12 : Int32)), (.int (6 : Int32))]))
                refine own_to (fun t k => XS.icmpYes X79.here hx rfl (pc0 := 156) (pc' := 167) rfl (hb hby own_d3_156) rfl (flt (by decide)).2.2.2 (by decide) (by decide) k) ?_
                show own_Fin _ _ _ _ _ _ (T79.setTop (mkF m 167 #[.val (.ref o), .val (.int (6 : Int32)), .val (.int p2)] []))
                refine own_to (fun t k => XS.iloadN X79.here hx rfl (hb hby own_d3_167) rfl k) ?_
                show own_Fin _ _ _ _ _ _ (T79.setTop (mkF m 168 #[.val (.ref o), .val (.int (6 : Int32)), .val (.int p2)] [(.int (6 : Int32))]))
                refine own_to (fun t k => XS.bipush X79.here hx rfl (hb hby own_d3_168) k) ?_
                show own_Fin _ _ _ _ _ _ (T79.setTop (mkF m 170 #[.val (.ref o), .val (.int (6 : Int32)), .val (.int p2)] [(.int (13 : Int32)), (.int (6 : Int32))]))
                refine own_to (fun t k => XS.icmpYes X79.here hx rfl (pc0 := 170) (pc' := 181) rfl (hb hby own_d3_170) rfl (flt (by decide)).2.2.2 (by decide) (by decide) k) ?_
                show own_Fin _ _ _ _ _ _ (T79.setTop (mkF m 181 #[.val (.ref o), .val (.int (6 : Int32)), .val (.int p2)] []))
                refine own_to (fun t k => XS.iloadN X79.here hx rfl (hb hby own_d3_181) rfl k) ?_
                show own_Fin _ _ _ _ _ _ (T79.setTop (mkF m 182 #[.val (.ref o), .val (.int (6 : Int32)), .val (.int p2)] [(.int (6 : Int32))]))
                refine own_to (fun t k => XS.bipush X79.here hx rfl (hb hby own_d3_182) k) ?_
                show own_Fin _ _ _ _ _ _ (T79.setTop (mkF m 184 #[.val (.ref o), .val (.int (6 : Int32)), .val (.int p2)] [(.int (14 : Int32)), (.int (6 : Int32))]))
                refine own_to (fun t k => XS.icmpYes X79.here hx rfl (pc0 := 184) (pc' := 195) rfl (hb hby own_d3_184) rfl (flt (by decide)).2.2.2 (by decide) (by decide) k) ?_
                show own_Fin _ _ _ _ _ _ (T79.setTop (mkF m 195 #[.val (.ref o), .val (.int (6 : Int32)), .val (.int p2)] []))
                refine own_to (fun t k => XS.iloadN X79.here hx rfl (hb hby own_d3_195) rfl k) ?_
                show own_Fin _ _ _ _ _ _ (T79.setTop (mkF m 196 #[.val (.ref o), .val (.int (6 : Int32)), .val (.int p2)] [(.int (6 : Int32))]))
                refine own_to (fun t k => XS.bipush X79.here hx rfl (hb hby own_d3_196) k) ?_
                show own_Fin _ _ _ _ _ _ (T79.setTop (mkF m 198 #[.val (.ref o), .val (.int (6 : Int32)), .val (.int p2)] [(.int (15 : Int32)), (.int (6 : Int32))]))
                refine own_to (fun t k => XS.icmpYes X79.here hx rfl (pc0 := 198) (pc' := 209) rfl (hb hby own_d3_198) rfl (flt (by decide)).2.2.2 (by decide) (by decide) k) ?_
                show own_Fin _ _ _ _ _ _ (T79.setTop (mkF m 209 #[.val (.ref o), .val (.int (6 : Int32)), .val (.int p2)] []))
                refine own_to (fun t k => XS.iloadN X79.here hx rfl (hb hby own_d3_209) rfl k) ?_
                show own_Fin _ _ _ _ _ _ (T79.setTop (mkF m 210 #[.val (.ref o), .val (.int (6 : Int32)), .val (.int p2)] [(.int (6 : Int32))]))
                refine own_to (fun t k => XS.bipush X79.here hx rfl (hb hby own_d3_210) k) ?_
                show own_Fin _ _ _ _ _ _ (T79.setTop (mkF m 212 #[.val (.ref o), .val (.int (6 : Int32)), .val (.int p2)] [(.int (16 : Int32)), (.int (6 : Int32))]))
                refine own_to (fun t k => XS.icmpYes X79.here hx rfl (pc0 := 212) (pc' := 223) rfl (hb hby own_d3_212) rfl (flt (by decide)).2.2.2 (by decide) (by decide) k) ?_
                show own_Fin _ _ _ _ _ _ (T79.setTop (mkF m 223 #[.val (.ref o), .val (.int (6 : Int32)), .val (.int p2)] []))
                refine own_to (fun t k => XS.iloadN X79.here hx rfl (hb hby own_d3_223) rfl k) ?_
                show own_Fin _ _ _ _ _ _ (T79.setTop (mkF m 224 #[.val (.ref o), .val (.int (6 : Int32)), .val (.int p2)] [(.int (6 : Int32))]))
                refine own_to (fun t k => XS.bipush X79.here hx rfl (hb hby own_d3_224) k) ?_
                show own_Fin _ _ _ _ _ _ (T79.setTop (mkF m 226 #[.val (.ref o), .val (.int (6 : Int32)), .val (.int p2)] [(.int (17 : Int32)), (.int (6 : Int32))]))
                refine own_to (fun t k => XS.icmpYes X79.here hx rfl (pc0 := 226) (pc' := 237) rfl (hb hby own_d3_226) rfl (flt (by decide)).2.2.2 (by decide) (by decide) k) ?_
                show own_Fin _ _ _ _ _ _ (T79.setTop (mkF m 237 #[.val (.ref o), .val (.int (6 : Int32)), .val (.int p2)] []))
                refine own_retV X79 hx hlk hret (hb hby own_d3_237) (by decide) (by decide) ?_
                exact ⟨(.ref L1), [(.ref L1), .null, .null, .null, .null, .null, .null, .null], rfl, N79, KK79, ⟨Es, Fb, Fc, Fl, Fu, Vb⟩, (fun q => absurd q (by decide))⟩
            ·
              show own_Fin _ _ _ _ _ _ (T77.setTop (mkF m 59 #[.val (.ref o), .val (.int p1), .val (.int p2)] [(.int (5 : Int32)), (.int p1)]))
              obtain rfl : p1 = (5 : Int32) := own_is p1 (4 : Int32) (5 : Int32) hf76 hf78 (by decide)
              show own_Fin _ _ _ _ _ _ (T77.setTop (mkF m 59 #[.val (.ref o), .val (.int (5 : Int32)), .val (.int p2)] [(.int (5 : Int32)), (.int (5 : Int32))]))
              refine own_to (fun t k => XS.icmpYes X77.here hx rfl (pc0 := 59) (pc' := 69) rfl (hb hby own_d3_59) rfl (flt (by decide)).2.2.2 (by decide) (by decide) k) ?_
              show own_Fin _ _ _ _ _ _ (T77.setTop (mkF m 69 #[.val (.ref o), .val (.int (5 : Int32)), .val (.int p2)] []))
              refine own_to (fun t k => XS.iloadN X77.here hx rfl (hb hby own_d3_69) rfl k) ?_
              show own_Fin _ _ _ _ _ _ (T77.setTop (mkF m 70 #[.val (.ref o), .val (.int (5 : Int32)), .val (.int p2)] [(.int (5 : Int32))]))
              refine own_to (fun t k => XS.bipush X77.here hx rfl (hb hby own_d3_70) k) ?_
              show own_Fin _ _ _ _ _ _ (T77.setTop (mkF m 72 #[.val (.ref o), .val (.int (5 : Int32)), .val (.int p2)] [(.int (6 : Int32)), (.int (5 : Int32))]))
              refine own_to (fun t k => XS.icmpYes X77.here hx rfl (pc0 := 72) (pc' := 83) rfl (hb hby own_d3_72) rfl (flt (by decide)).2.2.2 (by decide) (by decide) k) ?_
              show own_Fin _ _ _ _ _ _ (T77.setTop (mkF m 83 #[.val (.ref o), .val (.int (5 : Int32)), .val (.int p2)] []))
              refine own_to (fun t k => XS.iloadN X77.here hx rfl (hb hby own_d3_83) rfl k) ?_
              show own_Fin _ _ _ _ _ _ (T77.setTop (mkF m 84 #[.val (.ref o), .val (.int (5 : Int32)), .val (.int p2)] [(.int (5 : Int32))]))
              refine own_to (fun t k => XS.bipush X77.here hx rfl (hb hby own_d3_84) k) ?_
              show own_Fin _ _ _ _ _ _ (T77.setTop (mkF m 86 #[.val (.ref o), .val (.int (5 : Int32)), .val (.int p2)] [(.int (7 : Int32)), (.int (5 : Int32))]))
              refine own_to (fun t k => XS.icmpYes X77.here hx rfl (pc0 := 86) (pc' := 97) rfl (hb hby own_d3_86) rfl (flt (by decide)).2.2.2 (by decide) (by decide) k) ?_
              show own_Fin _ _ _ _ _ _ (T77.setTop (mkF m 97 #[.val (.ref o), .val (.int (5 : Int32)), .val (.int p2)] []))
              refine own_to (fun t k => XS.iloadN X77.here hx rfl (hb hby own_d3_97) rfl k) ?_
              show own_Fin _ _ _ _ _ _ (T77.setTop (mkF m 98 #[.val (.ref o), .val (.int (5 : Int32)), .val (.int p2)] [(.int (5 : Int32))]))
              refine own_to (fun t k => XS.bipush X77.here hx rfl (hb hby own_d3_98) k) ?_
              show own_Fin _ _ _ _ _ _ (T77.setTop (mkF m 100 #[.val (.ref o), .val (.int (5 : Int32)), .val (.int p2)] [(.int (8 : Int32)), (.int (5 : Int32))]))
              refine own_to (fun t k => XS.icmpYes X77.here hx rfl (pc0 := 100) (pc' := 111) rfl (hb hby own_d3_100) rfl (flt (by decide)).2.2.2 (by decide) (by decide) k) ?_
              show own_Fin _ _ _ _ _ _ (T77.setTop (mkF m 111 #[.val (.ref o), .val (.int (5 : Int32)), .val (.int p2)] []))
              refine own_to (fun t k => XS.iloadN X77.here hx rfl (hb hby own_d3_111) rfl k) ?_
              show own_Fin _ _ _ _ _ _ (T77.setTop (mkF m 112 #[.val (.ref o), .val (.int (5 : Int32)), .val (.int p2)] [(.int (5 : Int32))]))
              refine own_to (fun t k => XS.bipush X77.here hx rfl (hb hby own_d3_112) k) ?_
              show own_Fin _ _ _ _ _ _ (T77.setTop (mkF m 114 #[.val (.ref o), .val (.int (5 : Int32)), .val (.int p2)] [(.int (9 : Int32)), (.int (5 : Int32))]))
              refine own_to (fun t k => XS.icmpYes X77.here hx rfl (pc0 := 114) (pc' := 125) rfl (hb hby own_d3_114) rfl (flt (by decide)).2.2.2 (by decide) (by decide) k) ?_
              show own_Fin _ _ _ _ _ _ (T77.setTop (mkF m 125 #[.val (.ref o), .val (.int (5 : Int32)), .val (.int p2)] []))
              refine own_to (fun t k => XS.iloadN X77.here hx rfl (hb hby own_d3_125) rfl k) ?_
              show own_Fin _ _ _ _ _ _ (T77.setTop (mkF m 126 #[.val (.ref o), .val (.int (5 : Int32)), .val (.int p2)] [(.int (5 : Int32))]))
              refine own_to (fun t k => XS.bipush X77.here hx rfl (hb hby own_d3_126) k) ?_
              show own_Fin _ _ _ _ _ _ (T77.setTop (mkF m 128 #[.val (.ref o), .val (.int (5 : Int32)), .val (.int p2)] [(.int (10 : Int32)), (.int (5 : Int32))]))
              refine own_to (fun t k => XS.icmpYes X77.here hx rfl (pc0 := 128) (pc' := 139) rfl (hb hby own_d3_128) rfl (flt (by decide)).2.2.2 (by decide) (by decide) k) ?_
              show own_Fin _ _ _ _ _ _ (T77.setTop (mkF m 139 #[.val (.ref o), .val (.int (5 : Int32)), .val (.int p2)] []))
              refine own_to (fun t k => XS.iloadN X77.here hx rfl (hb hby own_d3_139) rfl k) ?_
              show own_Fin _ _ _ _ _ _ (T77.setTop (mkF m 140 #[.val (.ref o), .val (.int (5 : Int32)), .val (.int p2)] [(.int (5 : Int32))]))
              refine own_to (fun t k => XS.bipush X77.here hx rfl (hb hby own_d3_140) k) ?_
              show own_Fin _ _ _ _ _ _ (T77.setTop (mkF m 142 #[.val (.ref o), .val (.int (5 : Int32)), .val (.int p2)] [(.int (11 : Int32)), (.int (5 : Int32))]))
              refine own_to (fun t k => XS.icmpYes X77.here hx rfl (pc0 := 142) (pc' := 153) rfl (hb hby own_d3_142) rfl (flt (by decide)).2.2.2 (by decide) (by decide) k) ?_
              show own_Fin _ _ _ _ _ _ (T77.setTop (mkF m 153 #[.val (.ref o), .val (.int (5 : Int32)), .val (.int p2)] []))
              refine own_to (fun t k => XS.iloadN X77.here hx rfl (hb hby own_d3_153) rfl k) ?_
              show own_Fin _ _ _ _ _ _ (T77.setTop (mkF m 154 #[.val (.ref o), .val (.int (5 : Int32)), .val (.int p2)] [(.int (5 : Int32))]))
              refine own_to (fun t k => XS.bipush X77.here hx rfl (hb hby own_d3_154) k) ?_
              show own_Fin _ _ _ _ _ _ (T77.setTop (mkF m 156 #[.val (.ref o), .val (.int (5 : Int32)), .val (.int p2)] [(.int (12 : Int32)), (.int (5 : Int32))]))
              refine own_to (fun t k => XS.icmpYes X77.here hx rfl (pc0 := 156) (pc' := 167) rfl (hb hby own_d3_156) rfl (flt (by decide)).2.2.2 (by decide) (by decide) k) ?_
              show own_Fin _ _ _ _ _ _ (T77.setTop (mkF m 167 #[.val (.ref o), .val (.int (5 : Int32)), .val (.int p2)] []))
              refine own_to (fun t k => XS.iloadN X77.here hx rfl (hb hby own_d3_167) rfl k) ?_
              show own_Fin _ _ _ _ _ _ (T77.setTop (mkF m 168 #[.val (.ref o), .val (.int (5 : Int32)), .val (.int p2)] [(.int (5 : Int32))]))
              refine own_to (fun t k => XS.bipush X77.here hx rfl (hb hby own_d3_168) k) ?_
              show own_Fin _ _ _ _ _ _ (T77.setTop (mkF m 170 #[.val (.ref o), .val (.int (5 : Int32)), .val (.int p2)] [(.int (13 : Int32)), (.int (5 : Int32))]))
              refine own_to (fun t k => XS.icmpYes X77.here hx rfl (pc0 := 170) (pc' := 181) rfl (hb hby own_d3_170) rfl (flt (by decide)).2.2.2 (by decide) (by decide) k) ?_
              show own_Fin _ _ _ _ _ _ (T77.setTop (mkF m 181 #[.val (.ref o), .val (.int (5 : Int32)), .val (.int p2)] []))
              refine own_to (fun t k => XS.iloadN X77.here hx rfl (hb hby own_d3_181) rfl k) ?_
              show own_Fin _ _ _ _ _ _ (T77.setTop (mkF m 182 #[.val (.ref o), .val (.int (5 : Int32)), .val (.int p2)] [(.int (5 : Int32))]))
              refine own_to (fun t k => XS.bipush X77.here hx rfl (hb hby own_d3_182) k) ?_
              show own_Fin _ _ _ _ _ _ (T77.setTop (mkF m 184 #[.val (.ref o), .val (.int (5 : Int32)), .val (.int p2)] [(.int (14 : Int32)), (.int (5 : Int32))]))
              refine own_to (fun t k => XS.icmpYes X77.here hx rfl (pc0 := 184) (pc' := 195) rfl (hb hby own_d3_184) rfl (flt (by decide)).2.2.2 (by decide) (by decide) k) ?_
              show own_Fin _ _ _ _ _ _ (T77.setTop (mkF m 195 #[.val (.ref o), .val (.int (5 : Int32)), .val (.int p2)] []))
              refine own_to (fun t k => XS.iloadN X77.here hx rfl (hb hby own_d3_195) rfl k) ?_
              show own_Fin _ _ _ _ _ _ (T77.setTop (mkF m 196 #[.val (.ref o), .val (.int (5 : Int32)), .val (.int p2)] [(.int (5 : Int32))]))
              refine own_to (fun t k => XS.bipush X77.here hx rfl (hb hby own_d3_196) k) ?_
              show own_Fin _ _ _ _ _ _ (T77.setTop (mkF m 198 #[.val (.ref o), .val (.int (5 : Int32)), .val (.int p2)] [(.int (15 : Int32)), (.int (5 : Int32))]))
              refine own_to (fun t k => XS.icmpYes X77.here hx rfl (pc0 := 198) (pc' := 209) rfl (hb hby own_d3_198) rfl (flt (by decide)).2.2.2 (by decide) (by decide) k) ?_
              show own_Fin _ _ _ _ _ _ (T77.setTop (mkF m 209 #[.val (.ref o), .val (.int (5 : Int32)), .val (.int p2)] []))
              refine own_to (fun t k => XS.iloadN X77.here hx rfl (hb hby own_d3_209) rfl k) ?_
              show own_Fin _ _ _ _ _ _ (T77.setTop (mkF m 210 #[.val (.ref o), .val (.int (5 : Int32)), .val (.int p2)] [(.int (5 : Int32))]))
              refine own_to (fun t k => XS.bipush X77.here hx rfl (hb hby own_d3_210) k) ?_
              show own_Fin _ _ _ _ _ _ (T77.setTop (mkF m 212 #[.val (.ref o), .val (.int (5 : Int32)), .val (.int p2)] [(.int (16 : Int32)), (.int (5 : Int32))]))
              refine own_to (fun t k => XS.icmpYes X77.here hx rfl (pc0 := 212) (pc' := 223) rfl (hb hby own_d3_212) rfl (flt (by decide)).2.2.2 (by decide) (by decide) k) ?_
              show own_Fin _ _ _ _ _ _ (T77.setTop (mkF m 223 #[.val (.ref o), .val (.int (5 : Int32)), .val (.int p2)] []))
              refine own_to (fun t k => XS.iloadN X77.here hx rfl (hb hby own_d3_223) rfl k) ?_
              show own_Fin _ _ _ _ _ _ (T77.setTop (mkF m 224 #[.val (.ref o), .val (.int (5 : Int32)), .val (.int p2)] [(.int (5 : Int32))]))
              refine own_to (fun t k => XS.bipush X77.here hx rfl (hb hby own_d3_224) k) ?_
              show own_Fin _ _ _ _ _ _ (T77.setTop (mkF m 226 #[.val (.ref o), .val (.int (5 : Int32)), .val (.int p2)] [(.int (17 : Int32)), (.int (5 : Int32))]))
              refine own_to (fun t k => XS.icmpYes X77.here hx rfl (pc0 := 226) (pc' := 237) rfl (hb hby own_d3_226) rfl (flt (by decide)).2.2.2 (by decide) (by decide) k) ?_
              show own_Fin _ _ _ _ _ _ (T77.setTop (mkF m 237 #[.val (.ref o), .val (.int (5 : Int32)), .val (.int p2)] []))
              refine own_retV X77 hx hlk hret (hb hby own_d3_237) (by decide) (by decide) ?_
              exact ⟨(.ref L1), [(.ref L1), .null, .null, .null, .null, .null, .null, .null], rfl, N77, KK77, ⟨Es, Fb, Fc, Fl, Fu, Vb⟩, (fun q => absurd q (by decide))⟩
          ·
            show own_Fin _ _ _ _ _ _ (T75.setTop (mkF m 47 #[.val (.ref o), .val (.int p1), .val (.int p2)] [(.int (4 : Int32)), (.int p1)]))
            obtain rfl : p1 = (4 : Int32) := own_is p1 (3 : Int32) (4 : Int32) hf74 hf76 (by decide)
            show own_Fin _ _ _ _ _ _ (T75.setTop (mkF m 47 #[.val (.ref o), .val (.int (4 : Int32)), .val (.int p2)] [(.int (4 : Int32)), (.int (4 : Int32))]))
            refine own_to (fun t k => XS.icmpYes X75.here hx rfl (pc0 := 47) (pc' := 57) rfl (hb hby own_d3_47) rfl (flt (by decide)).2.2.2 (by decide) (by decide) k) ?_
            show own_Fin _ _ _ _ _ _ (T75.setTop (mkF m 57 #[.val (.ref o), .val (.int (4 : Int32)), .val (.int p2)] []))
            refine own_to (fun t k => XS.iloadN X75.here hx rfl (hb hby own_d3_57) rfl k) ?_
            show own_Fin _ _ _ _ _ _ (T75.setTop (mkF m 58 #[.val (.ref o), .val (.int (4 : Int32)), .val (.int p2)] [(.int (4 : Int32))]))
            refine own_to (fun t k => XS.iconst X75.here hx rfl (hb hby own_d3_58) k) ?_
            show own_Fin _ _ _ _ _ _ (T75.setTop (mkF m 59 #[.val (.ref o), .val (.int (4 : Int32)), .val (.int p2)] [(.int (5 : Int32)), (.int (4 : Int32))]))
            refine own_to (fun t k => XS.icmpYes X75.here hx rfl (pc0 := 59) (pc' := 69) rfl (hb hby own_d3_59) rfl (flt (by decide)).2.2.2 (by decide) (by decide) k) ?_
            show own_Fin _ _ _ _ _ _ (T75.setTop (mkF m 69 #[.val (.ref o), .val (.int (4 : Int32)), .val (.int p2)] []))
            refine own_to (fun t k => XS.iloadN X75.here hx rfl (hb hby own_d3_69) rfl k) ?_
            show own_Fin _ _ _ _ _ _ (T75.setTop (mkF m 70 #[.val (.ref o), .val (.int (4 : Int32)), .val (.int p2)] [(.int (4 : Int32))]))
            refine own_to (fun t k => XS.bipush X75.here hx rfl (hb hby own_d3_70) k) ?_
            show own_Fin _ _ _ _ _ _ (T75.setTop (mkF m 72 #[.val (.ref o), .val (.int (4 : Int32)), .val (.int p2)] [(.int (6 : Int32)), (.int (4 : Int32))]))
            refine own_to (fun t k => XS.icmpYes X75.here hx rfl (pc0 := 72) (pc' := 83) rfl (hb hby own_d3_72) rfl (flt (by decide)).2.2.2 (by decide) (by decide) k) ?_
            show own_Fin _ _ _ _ _ _ (T75.setTop (mkF m 83 #[.val (.ref o), .val (.int (4 : Int32)), .val (.int p2)] []))
            refine own_to (fun t k => XS.iloadN X75.here hx rfl (hb hby own_d3_83) rfl k) ?_
            show own_Fin _ _ _ _ _ _ (T75.setTop (mkF m 84 #[.val (.ref o), .val (.int (4 : Int32)), .val (.int p2)] [(.int (4 : Int32))]))
            refine own_to (fun t k => XS.bipush X75.here hx rfl (hb hby own_d3_84) k) ?_
            show own_Fin _ _ _ _ _ _ (T75.setTop (mkF m 86 #[.val (.ref o), .val (.int (4 : Int32)), .val (.int p2)] [(.int (7 : Int32)), (.int (4 : Int32))]))
            refine own_to (fun t k => XS.icmpYes X75.here hx rfl (pc0 := 86) (pc' := 97) rfl (hb hby own_d3_86) rfl (flt (by decide)).2.2.2 (by decide) (by decide) k) ?_
            show own_Fin _ _ _ _ _ _ (T75.setTop (mkF m 97 #[.val (.ref o), .val (.int (4 : Int32)), .val (.int p2)] []))
            refine own_to (fun t k => XS.iloadN X75.here hx rfl (hb hby own_d3_97) rfl k) ?_
            show own_Fin _ _ _ _ _ _ (T75.setTop (mkF m 98 #[.val (.ref o), .val (.int (4 : Int32)), .val (.int p2)] [(.int (4 : Int32))]))
            refine own_to (fun t k => XS.bipush X75.here hx rfl (hb hby own_d3_98) k) ?_
            show own_Fin _ _ _ _ _ _ (T75.setTop (mkF m 100 #[.val (.ref o), .val (.int (4 : Int32)), .val (.int p2)] [(.int (8 : Int32)), (.int (4 : Int32))]))
            refine own_to (fun t k => XS.icmpYes X75.here hx rfl (pc0 := 100) (pc' := 111) rfl (hb hby own_d3_100) rfl (flt (by decide)).2.2.2 (by decide) (by decide) k) ?_
            show own_Fin _ _ _ _ _ _ (T75.setTop (mkF m 111 #[.val (.ref o), .val (.int (4 : Int32)), .val (.int p2)] []))
            refine own_to (fun t k => XS.iloadN X75.here hx rfl (hb hby own_d3_111) rfl k) ?_
            show own_Fin _ _ _ _ _ _ (T75.setTop (mkF m 112 #[.val (.ref o), .val (.int (4 : Int32)), .val (.int p2)] [(.int (4 : Int32))]))
            refine own_to (fun t k => XS.bipush X75.here hx rfl (hb hby own_d3_112) k) ?_
            show own_Fin _ _ _ _ _ _ (T75.setTop (mkF m 114 #[.val (.ref o), .val (.int (4 : Int32)), .val (.int p2)] [(.int (9 : Int32)), (.int (4 : Int32))]))
            refine own_to (fun t k => XS.icmpYes X75.here hx rfl (pc0 := 114) (pc' := 125) rfl (hb hby own_d3_114) rfl (flt (by decide)).2.2.2 (by decide) (by decide) k) ?_
            show own_Fin _ _ _ _ _ _ (T75.setTop (mkF m 125 #[.val (.ref o), .val (.int (4 : Int32)), .val (.int p2)] []))
            refine own_to (fun t k => XS.iloadN X75.here hx rfl (hb hby own_d3_125) rfl k) ?_
            show own_Fin _ _ _ _ _ _ (T75.setTop (mkF m 126 #[.val (.ref o), .val (.int (4 : Int32)), .val (.int p2)] [(.int (4 : Int32))]))
            refine own_to (fun t k => XS.bipush X75.here hx rfl (hb hby own_d3_126) k) ?_
            show own_Fin _ _ _ _ _ _ (T75.setTop (mkF m 128 #[.val (.ref o), .val (.int (4 : Int32)), .val (.int p2)] [(.int (10 : Int32)), (.int (4 : Int32))]))
            refine own_to (fun t k => XS.icmpYes X75.here hx rfl (pc0 := 128) (pc' := 139) rfl (hb hby own_d3_128) rfl (flt (by decide)).2.2.2 (by decide) (by decide) k) ?_
            show own_Fin _ _ _ _ _ _ (T75.setTop (mkF m 139 #[.val (.ref o), .val (.int (4 : Int32)), .val (.int p2)] []))
            refine own_to (fun t k => XS.iloadN X75.here hx rfl (hb hby own_d3_139) rfl k) ?_
            show own_Fin _ _ _ _ _ _ (T75.setTop (mkF m 140 #[.val (.ref o), .val (.int (4 : Int32)), .val (.int p2)] [(.int (4 : Int32))]))
            refine own_to (fun t k => XS.bipush X75.here hx rfl (hb hby own_d3_140) k) ?_
            show own_Fin _ _ _ _ _ _ (T75.setTop (mkF m 142 #[.val (.ref o), .val (.int (4 : Int32)), .val (.int p2)] [(.int (11 : Int32)), (.int (4 : Int32))]))
            refine own_to (fun t k => XS.icmpYes X75.here hx rfl (pc0 := 142) (pc' := 153) rfl (hb hby own_d3_142) rfl (flt (by decide)).2.2.2 (by decide) (by decide) k) ?_
            show own_Fin _ _ _ _ _ _ (T75.setTop (mkF m 153 #[.val (.ref o), .val (.int (4 : Int32)), .val (.int p2)] []))
            refine own_to (fun t k => XS.iloadN X75.here hx rfl (hb hby own_d3_153) rfl k) ?_
            show own_Fin _ _ _ _ _ _ (T75.setTop (mkF m 154 #[.val (.ref o), .val (.int (4 : Int32)), .val (.int p2)] [(.int (4 : Int32))]))
            refine own_to (fun t k => XS.bipush X75.here hx rfl (hb hby own_d3_154) k) ?_
            show own_Fin _ _ _ _ _ _ (T75.setTop (mkF m 156 #[.val (.ref o), .val (.int (4 : Int32)), .val (.int p2)] [(.int (12 : Int32)), (.int (4 : Int32))]))
            refine own_to (fun t k => XS.icmpYes X75.here hx rfl (pc0 := 156) (pc' := 167) rfl (hb hby own_d3_156) rfl (flt (by decide)).2.2.2 (by decide) (by decide) k) ?_
            show own_Fin _ _ _ _ _ _ (T75.setTop (mkF m 167 #[.val (.ref o), .val (.int (4 : Int32)), .val (.int p2)] []))
            refine own_to (fun t k => XS.iloadN X75.here hx rfl (hb hby own_d3_167) rfl k) ?_
            show own_Fin _ _ _ _ _ _ (T75.setTop (mkF m 168 #[.val (.ref o), .val (.int (4 : Int32)), .val (.int p2)] [(.int (4 : Int32))]))
            refine own_to (fun t k => XS.bipush X75.here hx rfl (hb hby own_d3_168) k) ?_
            show own_Fin _ _ _ _ _ _ (T75.setTop (mkF m 170 #[.val (.ref o), .val (.int (4 : Int32)), .val (.int p2)] [(.int (13 : Int32)), (.int (4 : Int32))]))
            refine own_to (fun t k => XS.icmpYes X75.here hx rfl (pc0 := 170) (pc' := 181) rfl (hb hby own_d3_170) rfl (flt (by decide)).2.2.2 (by decide) (by decide) k) ?_
            show own_Fin _ _ _ _ _ _ (T75.setTop (mkF m 181 #[.val (.ref o), .val (.int (4 : Int32)), .val (.int p2)] []))
            refine own_to (fun t k => XS.iloadN X75.here hx rfl (hb hby own_d3_181) rfl k) ?_
            show own_Fin _ _ _ _ _ _ (T75.setTop (mkF m 182 #[.val (.ref o), .val (.int (4 : Int32)), .val (.int p2)] [(.int (4 : Int32))]))
            refine own_to (fun t k => XS.bipush X75.here hx rfl (hb hby own_d3_182) k) ?_
            show own_Fin _ _ _ _ _ _ (T75.setTop (mkF m 184 #[.val (.ref o), .val (.int (4 : Int32)), .val (.int p2)] [(.int (14 : Int32)), (.int (4 : Int32))]))
            refine own_to (fun t k => XS.icmpYes X75.here hx rfl (pc0 := 184) (pc' := 195) rfl (hb hby own_d3_184) rfl (flt (by decide)).2.2.2 (by decide) (by decide) k) ?_
            show own_Fin _ _ _ _ _ _ (T75.setTop (mkF m 195 #[.val (.ref o), .val (.int (4 : Int32)), .val (.int p2)] []))
            refine own_to (fun t k => XS.iloadN X75.here hx rfl (hb hby own_d3_195) rfl k) ?_
            show own_Fin _ _ _ _ _ _ (T75.setTop (mkF m 196 #[.val (.ref o), .val (.int (4 : Int32)), .val (.int p2)] [(.int (4 : Int32))]))
            refine own_to (fun t k => XS.bipush X75.here hx rfl (hb hby own_d3_196) k) ?_
            show own_Fin _ _ _ _ _ _ (T75.setTop (mkF m 198 #[.val (.ref o), .val (.int (4 : Int32)), .val (.int p2)] [(.int (15 : Int32)), (.int (4 : Int32))]))
            refine own_to (fun t k => XS.icmpYes X75.here hx rfl (pc0 := 198) (pc' := 209) rfl (hb hby own_d3_198) rfl (flt (by decide)).2.2.2 (by decide) (by decide) k) ?_
            show own_Fin _ _ _ _ _ _ (T75.setTop (mkF m 209 #[.val (.ref o), .val (.int (4 : Int32)), .val (.int p2)] []))
            refine own_to (fun t k => XS.iloadN X75.here hx rfl (hb hby own_d3_209) rfl k) ?_
            show own_Fin _ _ _ _ _ _ (T75.setTop (mkF m 210 #[.val (.ref o), .val (.int (4 : Int32)), .val (.int p2)] [(.int (4 : Int32))]))
            refine own_to (fun t k => XS.bipush X75.here hx rfl (hb hby own_d3_210) k) ?_
            show own_Fin _ _ _ _ _ _ (T75.setTop (mkF m 212 #[.val (.ref o), .val (.int (4 : Int32)), .val (.int p2)] [(.int (16 : Int32)), (.int (4 : Int32))]))
            refine own_to (fun t k => XS.icmpYes X75.here hx rfl (pc0 := 212) (pc' := 223) rfl (hb hby own_d3_212) rfl (flt (by decide)).2.2.2 (by decide) (by decide) k) ?_
            show own_Fin _ _ _ _ _ _ (T75.setTop (mkF m 223 #[.val (.ref o), .val (.int (4 : Int32)), .val (.int p2)] []))
            refine own_to (fun t k => XS.iloadN X75.here hx rfl (hb hby own_d3_223) rfl k) ?_
            show own_Fin _ _ _ _ _ _ (T75.setTop (mkF m 224 #[.val (.ref o), .val (.int (4 : Int32)), .val (.int p2)] [(.int (4 : Int32))]))
            refine own_to (fun t k => XS.bipush X75.here hx rfl (hb hby own_d3_224) k) ?_
            show own_Fin _ _ _ _ _ _ (T75.setTop (mkF m 226 #[.val (.ref o), .val (.int (4 : Int32)), .val (.int p2)] [(.int (17 : Int32)), (.int (4 : Int32))]))
            refine own_to (fun t k => XS.icmpYes X75.here hx rfl (pc0 := 226) (pc' := 237) rfl (hb hby own_d3_226) rfl (flt (by decide)).2.2.2 (by decide) (by decide) k) ?_
            show own_Fin _ _ _ _ _ _ (T75.setTop (mkF m 237 #[.val (.ref o), .val (.int (4 : Int32)), .val (.int p2)] []))
            refine own_retV X75 hx hlk hret (hb hby own_d3_237) (by decide) (by decide) ?_
            exact ⟨(.ref L1), [(.ref L1), .null, .null, .null, .null, .null, .null, .null], rfl, N75, KK75, ⟨Es, Fb, Fc, Fl, Fu, Vb⟩, (fun q => absurd q (by decide))⟩
        ·
          show own_Fin _ _ _ _ _ _ (T73.setTop (mkF m 35 #[.val (.ref o), .val (.int p1), .val (.int p2)] [(.int (3 : Int32)), (.int p1)]))
          obtain rfl : p1 = (3 : Int32) := own_is p1 (2 : Int32) (3 : Int32) hf72 hf74 (by decide)
          show own_Fin _ _ _ _ _ _ (T73.setTop (mkF m 35 #[.val (.ref o), .val (.int (3 : Int32)), .val (.int p2)] [(.int (3 : Int32)), (.int (3 : Int32))]))
          refine own_to (fun t k => XS.icmpYes X73.here hx rfl (pc0 := 35) (pc' := 45) rfl (hb hby own_d3_35) rfl (flt (by decide)).2.2.2 (by decide) (by decide) k) ?_
          show own_Fin _ _ _ _ _ _ (T73.setTop (mkF m 45 #[.val (.ref o), .val (.int (3 : Int32)), .val (.int p2)] []))
          refine own_to (fun t k => XS.iloadN X73.here hx rfl (hb hby own_d3_45) rfl k) ?_
          show own_Fin _ _ _ _ _ _ (T73.setTop (mkF m 46 #[.val (.ref o), .val (.int (3 : Int32)), .val (.int p2)] [(.int (3 : Int32))]))
          refine own_to (fun t k => XS.iconst X73.here hx rfl (hb hby own_d3_46) k) ?_
          show own_Fin _ _ _ _ _ _ (T73.setTop (mkF m 47 #[.val (.ref o), .val (.int (3 : Int32)), .val (.int p2)] [(.int (4 : Int32)), (.int (3 : Int32))]))
          refine own_to (fun t k => XS.icmpYes X73.here hx rfl (pc0 := 47) (pc' := 57) rfl (hb hby own_d3_47) rfl (flt (by decide)).2.2.2 (by decide) (by decide) k) ?_
          show own_Fin _ _ _ _ _ _ (T73.setTop (mkF m 57 #[.val (.ref o), .val (.int (3 : Int32)), .val (.int p2)] []))
          refine own_to (fun t k => XS.iloadN X73.here hx rfl (hb hby own_d3_57) rfl k) ?_
          show own_Fin _ _ _ _ _ _ (T73.setTop (mkF m 58 #[.val (.ref o), .val (.int (3 : Int32)), .val (.int p2)] [(.int (3 : Int32))]))
          refine own_to (fun t k => XS.iconst X73.here hx rfl (hb hby own_d3_58) k) ?_
          show own_Fin _ _ _ _ _ _ (T73.setTop (mkF m 59 #[.val (.ref o), .val (.int (3 : Int32)), .val (.int p2)] [(.int (5 : Int32)), (.int (3 : Int32))]))
          refine own_to (fun t k => XS.icmpYes X73.here hx rfl (pc0 := 59) (pc' := 69) rfl (hb hby own_d3_59) rfl (flt (by decide)).2.2.2 (by decide) (by decide) k) ?_
          show own_Fin _ _ _ _ _ _ (T73.setTop (mkF m 69 #[.val (.ref o), .val (.int (3 : Int32)), .val (.int p2)] []))
          refine own_to (fun t k => XS.iloadN X73.here hx rfl (hb hby own_d3_69) rfl k) ?_
          show own_Fin _ _ _ _ _ _ (T73.setTop (mkF m 70 #[.val (.ref o), .val (.int (3 : Int32)), .val (.int p2)] [(.int (3 : Int32))]))
          refine own_to (fun t k => XS.bipush X73.here hx rfl (hb hby own_d3_70) k) ?_
          show own_Fin _ _ _ _ _ _ (T73.setTop (mkF m 72 #[.val (.ref o), .val (.int (3 : Int32)), .val (.int p2)] [(.int (6 : Int32)), (.int (3 : Int32))]))
          refine own_to (fun t k => XS.icmpYes X73.here hx rfl (pc0 := 72) (pc' := 83) rfl (hb hby own_d3_72) rfl (flt (by decide)).2.2.2 (by decide) (by decide) k) ?_
          show own_Fin _ _ _ _ _ _ (T73.setTop (mkF m 83 #[.val (.ref o), .val (.int (3 : Int32)), .val (.int p2)] []))
          refine own_to (fun t k => XS.iloadN X73.here hx rfl (hb hby own_d3_83) rfl k) ?_
          show own_Fin _ _ _ _ _ _ (T73.setTop (mkF m 84 #[.val (.ref o), .val (.int (3 : Int32)), .val (.int p2)] [(.int (3 : Int32))]))
          refine own_to (fun t k => XS.bipush X73.here hx rfl (hb hby own_d3_84) k) ?_
          show own_Fin _ _ _ _ _ _ (T73.setTop (mkF m 86 #[.val (.ref o), .val (.int (3 : Int32)), .val (.int p2)] [(.int (7 : Int32)), (.int (3 : Int32))]))
          refine own_to (fun t k => XS.icmpYes X73.here hx rfl (pc0 := 86) (pc' := 97) rfl (hb hby own_d3_86) rfl (flt (by decide)).2.2.2 (by decide) (by decide) k) ?_
          show own_Fin _ _ _ _ _ _ (T73.setTop (mkF m 97 #[.val (.ref o), .val (.int (3 : Int32)), .val (.int p2)] []))
          refine own_to (fun t k => XS.iloadN X73.here hx rfl (hb hby own_d3_97) rfl k) ?_
          show own_Fin _ _ _ _ _ _ (T73.setTop (mkF m 98 #[.val (.ref o), .val (.int (3 : Int32)), .val (.int p2)] [(.int (3 : Int32))]))
          refine own_to (fun t k => XS.bipush X73.here hx rfl (hb hby own_d3_98) k) ?_
          show own_Fin _ _ _ _ _ _ (T73.setTop (mkF m 100 #[.val (.ref o), .val (.int (3 : Int32)), .val (.int p2)] [(.int (8 : Int32)), (.int (3 : Int32))]))
          refine own_to (fun t k => XS.icmpYes X73.here hx rfl (pc0 := 100) (pc' := 111) rfl (hb hby own_d3_100) rfl (flt (by decide)).2.2.2 (by decide) (by decide) k) ?_
          show own_Fin _ _ _ _ _ _ (T73.setTop (mkF m 111 #[.val (.ref o), .val (.int (3 : Int32)), .val (.int p2)] []))
          refine own_to (fun t k => XS.iloadN X73.here hx rfl (hb hby own_d3_111) rfl k) ?_
          show own_Fin _ _ _ _ _ _ (T73.setTop (mkF m 112 #[.val (.ref o), .val (.int (3 : Int32)), .val (.int p2)] [(.int (3 : Int32))]))
          refine own_to (fun t k => XS.bipush X73.here hx rfl (hb hby own_d3_112) k) ?_
          show own_Fin _ _ _ _ _ _ (T73.setTop (mkF m 114 #[.val (.ref o), .val (.int (3 : Int32)), .val (.int p2)] [(.int (9 : Int32)), (.int (3 : Int32))]))
          refine own_to (fun t k => XS.icmpYes X73.here hx rfl (pc0 := 114) (pc' := 125) rfl (hb hby own_d3_114) rfl (flt (by decide)).2.2.2 (by decide) (by decide) k) ?_
          show own_Fin _ _ _ _ _ _ (T73.setTop (mkF m 125 #[.val (.ref o), .val (.int (3 : Int32)), .val (.int p2)] []))
          refine own_to (fun t k => XS.iloadN X73.here hx rfl (hb hby own_d3_125) rfl k) ?_
          show own_Fin _ _ _ _ _ _ (T73.setTop (mkF m 126 #[.val (.ref o), .val (.int (3 : Int32)), .val (.int p2)] [(.int (3 : Int32))]))
          refine own_to (fun t k => XS.bipush X73.here hx rfl (hb hby own_d3_126) k) ?_
          show own_Fin _ _ _ _ _ _ (T73.setTop (mkF m 128 #[.val (.ref o), .val (.int (3 : Int32)), .val (.int p2)] [(.int (10 : Int32)), (.int (3 : Int32))]))
          refine own_to (fun t k => XS.icmpYes X73.here hx rfl (pc0 := 128) (pc' := 139) rfl (hb hby own_d3_128) rfl (flt (by decide)).2.2.2 (by decide) (by decide) k) ?_
          show own_Fin _ _ _ _ _ _ (T73.setTop (mkF m 139 #[.val (.ref o), .val (.int (3 : Int32)), .val (.int p2)] []))
          refine own_to (fun t k => XS.iloadN X73.here hx rfl (hb hby own_d3_139) rfl k) ?_
          show own_Fin _ _ _ _ _ _ (T73.setTop (mkF m 140 #[.val (.ref o), .val (.int (3 : Int32)), .val (.int p2)] [(.int (3 : Int32))]))
          refine own_to (fun t k => XS.bipush X73.here hx rfl (hb hby own_d3_140) k) ?_
          show own_Fin _ _ _ _ _ _ (T73.setTop (mkF m 142 #[.val (.ref o), .val (.int (3 : Int32)), .val (.int p2)] [(.int (11 : Int32)), (.int (3 : Int32))]))
          refine own_to (fun t k => XS.icmpYes X73.here hx rfl (pc0 := 142) (pc' := 153) rfl (hb hby own_d3_142) rfl (flt (by decide)).2.2.2 (by decide) (by decide) k) ?_
          show own_Fin _ _ _ _ _ _ (T73.setTop (mkF m 153 #[.val (.ref o), .val (.int (3 : Int32)), .val (.int p2)] []))
          refine own_to (fun t k => XS.iloadN X73.here hx rfl (hb hby own_d3_153) rfl k) ?_
          show own_Fin _ _ _ _ _ _ (T73.setTop (mkF m 154 #[.val (.ref o), .val (.int (3 : Int32)), .val (.int p2)] [(.int (3 : Int32))]))
          refine own_to (fun t k => XS.bipush X73.here hx rfl (hb hby own_d3_154) k) ?_
          show own_Fin _ _ _ _ _ _ (T73.setTop (mkF m 156 #[.val (.ref o), .val (.int (3 : Int32)), .val (.int p2)] [(.int (12 : Int32)), (.int (3 : Int32))]))
          refine own_to (fun t k => XS.icmpYes X73.here hx rfl (pc0 := 156) (pc' := 167) rfl (hb hby own_d3_156) rfl (flt (by decide)).2.2.2 (by decide) (by decide) k) ?_
          show own_Fin _ _ _ _ _ _ (T73.setTop (mkF m 167 #[.val (.ref o), .val (.int (3 : Int32)), .val (.int p2)] []))
          refine own_to (fun t k => XS.iloadN X73.here hx rfl (hb hby own_d3_167) rfl k) ?_
          show own_Fin _ _ _ _ _ _ (T73.setTop (mkF m 168 #[.val (.ref o), .val (.int (3 : Int32)), .val (.int p2)] [(.int (3 : Int32))]))
          refine own_to (fun t k => XS.bipush X73.here hx rfl (hb hby own_d3_168) k) ?_
          show own_Fin _ _ _ _ _ _ (T73.setTop (mkF m 170 #[.val (.ref o), .val (.int (3 : Int32)), .val (.int p2)] [(.int (13 : Int32)), (.int (3 : Int32))]))
          refine own_to (fun t k => XS.icmpYes X73.here hx rfl (pc0 := 170) (pc' := 181) rfl (hb hby own_d3_170) rfl (flt (by decide)).2.2.2 (by decide) (by decide) k) ?_
          show own_Fin _ _ _ _ _ _ (T73.setTop (mkF m 181 #[.val (.ref o), .val (.int (3 : Int32)), .val (.int p2)] []))
          refine own_to (fun t k => XS.iloadN X73.here hx rfl (hb hby own_d3_181) rfl k) ?_
          show own_Fin _ _ _ _ _ _ (T73.setTop (mkF m 182 #[.val (.ref o), .val (.int (3 : Int32)), .val (.int p2)] [(.int (3 : Int32))]))
          refine own_to (fun t k => XS.bipush X73.here hx rfl (hb hby own_d3_182) k) ?_
          show own_Fin _ _ _ _ _ _ (T73.setTop (mkF m 184 #[.val (.ref o), .val (.int (3 : Int32)), .val (.int p2)] [(.int (14 : Int32)), (.int (3 : Int32))]))
          refine own_to (fun t k => XS.icmpYes X73.here hx rfl (pc0 := 184) (pc' := 195) rfl (hb hby own_d3_184) rfl (flt (by decide)).2.2.2 (by decide) (by decide) k) ?_
          show own_Fin _ _ _ _ _ _ (T73.setTop (mkF m 195 #[.val (.ref o), .val (.int (3 : Int32)), .val (.int p2)] []))
          refine own_to (fun t k => XS.iloadN X73.here hx rfl (hb hby own_d3_195) rfl k) ?_
          show own_Fin _ _ _ _ _ _ (T73.setTop (mkF m 196 #[.val (.ref o), .val (.int (3 : Int32)), .val (.int p2)] [(.int (3 : Int32))]))
          refine own_to (fun t k => XS.bipush X73.here hx rfl (hb hby own_d3_196) k) ?_
          show own_Fin _ _ _ _ _ _ (T73.setTop (mkF m 198 #[.val (.ref o), .val (.int (3 : Int32)), .val (.int p2)] [(.int (15 : Int32)), (.int (3 : Int32))]))
          refine own_to (fun t k => XS.icmpYes X73.here hx rfl (pc0 := 198) (pc' := 209) rfl (hb hby own_d3_198) rfl (flt (by decide)).2.2.2 (by decide) (by decide) k) ?_
          show own_Fin _ _ _ _ _ _ (T73.setTop (mkF m 209 #[.val (.ref o), .val (.int (3 : Int32)), .val (.int p2)] []))
          refine own_to (fun t k => XS.iloadN X73.here hx rfl (hb hby own_d3_209) rfl k) ?_
          show own_Fin _ _ _ _ _ _ (T73.setTop (mkF m 210 #[.val (.ref o), .val (.int (3 : Int32)), .val (.int p2)] [(.int (3 : Int32))]))
          refine own_to (fun t k => XS.bipush X73.here hx rfl (hb hby own_d3_210) k) ?_
          show own_Fin _ _ _ _ _ _ (T73.setTop (mkF m 212 #[.val (.ref o), .val (.int (3 : Int32)), .val (.int p2)] [(.int (16 : Int32)), (.int (3 : Int32))]))
          refine own_to (fun t k => XS.icmpYes X73.here hx rfl (pc0 := 212) (pc' := 223) rfl (hb hby own_d3_212) rfl (flt (by decide)).2.2.2 (by decide) (by decide) k) ?_
          show own_Fin _ _ _ _ _ _ (T73.setTop (mkF m 223 #[.val (.ref o), .val (.int (3 : Int32)), .val (.int p2)] []))
          refine own_to (fun t k => XS.iloadN X73.here hx rfl (hb hby own_d3_223) rfl k) ?_
          show own_Fin _ _ _ _ _ _ (T73.setTop (mkF m 224 #[.val (.ref o), .val (.int (3 : Int32)), .val (.int p2)] [(.int (3 : Int32))]))
          refine own_to (fun t k => XS.bipush X73.here hx rfl (hb hby own_d3_224) k) ?_
          show own_Fin _ _ _ _ _ _ (T73.setTop (mkF m 226 #[.val (.ref o), .val (.int (3 : Int32)), .val (.int p2)] [(.int (17 : Int32)), (.int (3 : Int32))]))
          refine own_to (fun t k => XS.icmpYes X73.here hx rfl (pc0 := 226) (pc' := 237) rfl (hb hby own_d3_226) rfl (flt (by decide)).2.2.2 (by decide) (by decide) k) ?_
          show own_Fin _ _ _ _ _ _ (T73.setTop (mkF m 237 #[.val (.ref o), .val (.int (3 : Int32)), .val (.int p2)] []))
          refine own_retV X73 hx hlk hret (hb hby own_d3_237) (by decide) (by decide) ?_
          exact ⟨(.ref L1), [(.ref L1), .null, .null, .null, .null, .null, .null, .null], rfl, N73, KK73, ⟨Es, Fb, Fc, Fl, Fu, Vb⟩, (fun q => absurd q (by decide))⟩
      ·
        show own_Fin _ _ _ _ _ _ (T71.setTop (mkF m 23 #[.val (.ref o), .val (.int p1), .val (.int p2)] [(.int (2 : Int32)), (.int p1)]))
        obtain rfl : p1 = (2 : Int32) := own_is p1 (1 : Int32) (2 : Int32) hf70 hf72 (by decide)
        show own_Fin _ _ _ _ _ _ (T71.setTop (mkF m 23 #[.val (.ref o), .val (.int (2 : Int32)), .val (.int p2)] [(.int (2 : Int32)), (.int (2 : Int32))]))
        refine own_to (fun t k => XS.icmpYes X71.here hx rfl (pc0 := 23) (pc' := 33) rfl (hb hby own_d3_23) rfl (flt (by decide)).2.2.2 (by decide) (by decide) k) ?_
        show own_Fin _ _ _ _ _ _ (T71.setTop (mkF m 33 #[.val (.ref o), .val (.int (2 : Int32)), .val (.int p2)] []))
        refine own_to (fun t k => XS.iloadN X71.here hx rfl (hb hby own_d3_33) rfl k) ?_
        show own_Fin _ _ _ _ _ _ (T71.setTop (mkF m 34 #[.val (.ref o), .val (.int (2 : Int32)), .val (.int p2)] [(.int (2 : Int32))]))
        refine own_to (fun t k => XS.iconst X71.here hx rfl (hb hby own_d3_34) k) ?_
        show own_Fin _ _ _ _ _ _ (T71.setTop (mkF m 35 #[.val (.ref o), .val (.int (2 : Int32)), .val (.int p2)] [(.int (3 : Int32)), (.int (2 : Int32))]))
        refine own_to (fun t k => XS.icmpYes X71.here hx rfl (pc0 := 35) (pc' := 45) rfl (hb hby own_d3_35) rfl (flt (by decide)).2.2.2 (by decide) (by decide) k) ?_
        show own_Fin _ _ _ _ _ _ (T71.setTop (mkF m 45 #[.val (.ref o), .val (.int (2 : Int32)), .val (.int p2)] []))
        refine own_to (fun t k => XS.iloadN X71.here hx rfl (hb hby own_d3_45) rfl k) ?_
        show own_Fin _ _ _ _ _ _ (T71.setTop (mkF m 46 #[.val (.ref o), .val (.int (2 : Int32)), .val (.int p2)] [(.int (2 : Int32))]))
        refine own_to (fun t k => XS.iconst X71.here hx rfl (hb hby own_d3_46) k) ?_
        show own_Fin _ _ _ _ _ _ (T71.setTop (mkF m 47 #[.val (.ref o), .val (.int (2 : Int32)), .val (.int p2)] [(.int (4 : Int32)), (.int (2 : Int32))]))
        refine own_to (fun t k => XS.icmpYes X71.here hx rfl (pc0 := 47) (pc' := 57) rfl (hb hby own_d3_47) rfl (flt (by decide)).2.2.2 (by decide) (by decide) k) ?_
        show own_Fin _ _ _ _ _ _ (T71.setTop (mkF m 57 #[.val (.ref o), .val (.int (2 : Int32)), .val (.int p2)] []))
        refine own_to (fun t k => XS.iloadN X71.here hx rfl (hb hby own_d3_57) rfl k) ?_
        show own_Fin _ _ _ _ _ _ (T71.setTop (mkF m 58 #[.val (.ref o), .val (.int (2 : Int32)), .val (.int p2)] [(.int (2 : Int32))]))
        refine own_to (fun t k => XS.iconst X71.here hx rfl (hb hby own_d3_58) k) ?_
        show own_Fin _ _ _ _ _ _ (T71.setTop (mkF m 59 #[.val (.ref o), .val (.int (2 : Int32)), .val (.int p2)] [(.int (5 : Int32)), (.int (2 : Int32))]))
        refine own_to (fun t k => XS.icmpYes X71.here hx rfl (pc0 := 59) (pc' := 69) rfl (hb hby own_d3_59) rfl (flt (by decide)).2.2.2 (by decide) (by decide) k) ?_
        show own_Fin _ _ _ _ _ _ (T71.setTop (mkF m 69 #[.val (.ref o), .val (.int (2 : Int32)), .val (.int p2)] []))
        refine own_to (fun t k => XS.iloadN X71.here hx rfl (hb hby own_d3_69) rfl k) ?_
        show own_Fin _ _ _ _ _ _ (T71.setTop (mkF m 70 #[.val (.ref o), .val (.int (2 : Int32)), .val (.int p2)] [(.int (2 : Int32))]))
        refine own_to (fun t k => XS.bipush X71.here hx rfl (hb hby own_d3_70) k) ?_
        show own_Fin _ _ _ _ _ _ (T71.setTop (mkF m 72 #[.val (.ref o), .val (.int (2 : Int32)), .val (.int p2)] [(.int (6 : Int32)), (.int (2 : Int32))]))
        refine own_to (fun t k => XS.icmpYes X71.here hx rfl (pc0 := 72) (pc' := 83) rfl (hb hby own_d3_72) rfl (flt (by decide)).2.2.2 (by decide) (by decide) k) ?_
        show own_Fin _ _ _ _ _ _ (T71.setTop (mkF m 83 #[.val (.ref o), .val (.int (2 : Int32)), .val (.int p2)] []))
        refine own_to (fun t k => XS.iloadN X71.here hx rfl (hb hby own_d3_83) rfl k) ?_
        show own_Fin _ _ _ _ _ _ (T71.setTop (mkF m 84 #[.val (.ref o), .val (.int (2 : Int32)), .val (.int p2)] [(.int (2 : Int32))]))
        refine own_to (fun t k => XS.bipush X71.here hx rfl (hb hby own_d3_84) k) ?_
        show own_Fin _ _ _ _ _ _ (T71.setTop (mkF m 86 #[.val (.ref o), .val (.int (2 : Int32)), .val (.int p2)] [(.int (7 : Int32)), (.int (2 : Int32))]))
        refine own_to (fun t k => XS.icmpYes X71.here hx rfl (pc0 := 86) (pc' := 97) rfl (hb hby own_d3_86) rfl (flt (by decide)).2.2.2 (by decide) (by decide) k) ?_
        show own_Fin _ _ _ _ _ _ (T71.setTop (mkF m 97 #[.val (.ref o), .val (.int (2 : Int32)), .val (.int p2)] []))
        refine own_to (fun t k => XS.iloadN X71.here hx rfl (hb hby own_d3_97) rfl k) ?_
        show own_Fin _ _ _ _ _ _ (T71.setTop (mkF m 98 #[.val (.ref o), .val (.int (2 : Int32)), .val (.int p2)] [(.int (2 : Int32))]))
        refine own_to (fun t k => XS.bipush X71.here hx rfl (hb hby own_d3_98) k) ?_
        show own_Fin _ _ _ _ _ _ (T71.setTop (mkF m 100 #[.val (.ref o), .val (.int (2 : Int32)), .val (.int p2)] [(.int (8 : Int32)), (.int (2 : Int32))]))
        refine own_to (fun t k => XS.icmpYes X71.here hx rfl (pc0 := 100) (pc' := 111) rfl (hb hby own_d3_100) rfl (flt (by decide)).2.2.2 (by decide) (by decide) k) ?_
        show own_Fin _ _ _ _ _ _ (T71.setTop (mkF m 111 #[.val (.ref o), .val (.int (2 : Int32)), .val (.int p2)] []))
        refine own_to (fun t k => XS.iloadN X71.here hx rfl (hb hby own_d3_111) rfl k) ?_
        show own_Fin _ _ _ _ _ _ (T71.setTop (mkF m 112 #[.val (.ref o), .val (.int (2 : Int32)), .val (.int p2)] [(.int (2 : Int32))]))
        refine own_to (fun t k => XS.bipush X71.here hx rfl (hb hby own_d3_112) k) ?_
        show own_Fin _ _ _ _ _ _ (T71.setTop (mkF m 114 #[.val (.ref o), .val (.int (2 : Int32)), .val (.int p2)] [(.int (9 : Int32)), (.int (2 : Int32))]))
        refine own_to (fun t k => XS.icmpYes X71.here hx rfl (pc0 := 114) (pc' := 125) rfl (hb hby own_d3_114) rfl (flt (by decide)).2.2.2 (by decide) (by decide) k) ?_
        show own_Fin _ _ _ _ _ _ (T71.setTop (mkF m 125 #[.val (.ref o), .val (.int (2 : Int32)), .val (.int p2)] []))
        refine own_to (fun t k => XS.iloadN X71.here hx rfl (hb hby own_d3_125) rfl k) ?_
        show own_Fin _ _ _ _ _ _ (T71.setTop (mkF m 126 #[.val (.ref o), .val (.int (2 : Int32)), .val (.int p2)] [(.int (2 : Int32))]))
        refine own_to (fun t k => XS.bipush X71.here hx rfl (hb hby own_d3_126) k) ?_
        show own_Fin _ _ _ _ _ _ (T71.setTop (mkF m 128 #[.val (.ref o), .val (.int (2 : Int32)), .val (.int p2)] [(.int (10 : Int32)), (.int (2 : Int32))]))
        refine own_to (fun t k => XS.icmpYes X71.here hx rfl (pc0 := 128) (pc' := 139) rfl (hb hby own_d3_128) rfl (flt (by decide)).2.2.2 (by decide) (by decide) k) ?_
        show own_Fin _ _ _ _ _ _ (T71.setTop (mkF m 139 #[.val (.ref o), .val (.int (2 : Int32)), .val (.int p2)] []))
        refine own_to (fun t k => XS.iloadN X71.here hx rfl (hb hby own_d3_139) rfl k) ?_
        show own_Fin _ _ _ _ _ _ (T71.setTop (mkF m 140 #[.val (.ref o), .val (.int (2 : Int32)), .val (.int p2)] [(.int (2 : Int32))]))
        refine own_to (fun t k => XS.bipush X71.here hx rfl (hb hby own_d3_140) k) ?_
        show own_Fin _ _ _ _ _ _ (T71.setTop (mkF m 142 #[.val (.ref o), .val (.int (2 : Int32)), .val (.int p2)] [(.int (11 : Int32)), (.int (2 : Int32))]))
        refine own_to (fun t k => XS.icmpYes X71.here hx rfl (pc0 := 142) (pc' := 153) rfl (hb hby own_d3_142) rfl (flt (by decide)).2.2.2 (by decide) (by decide) k) ?_
        show own_Fin _ _ _ _ _ _ (T71.setTop (mkF m 153 #[.val (.ref o), .val (.int (2 : Int32)), .val (.int p2)] []))
        refine own_to (fun t k => XS.iloadN X71.here hx rfl (hb hby own_d3_153) rfl k) ?_
        show own_Fin _ _ _ _ _ _ (T71.setTop (mkF m 154 #[.val (.ref o), .val (.int (2 : Int32)), .val (.int p2)] [(.int (2 : Int32))]))
        refine own_to (fun t k => XS.bipush X71.here hx rfl (hb hby own_d3_154) k) ?_
        show own_Fin _ _ _ _ _ _ (T71.setTop (mkF m 156 #[.val (.ref o), .val (.int (2 : Int32)), .val (.int p2)] [(.int (12 : Int32)), (.int (2 : Int32))]))
        refine own_to (fun t k => XS.icmpYes X71.here hx rfl (pc0 := 156) (pc' := 167) rfl (hb hby own_d3_156) rfl (flt (by decide)).2.2.2 (by decide) (by decide) k) ?_
        show own_Fin _ _ _ _ _ _ (T71.setTop (mkF m 167 #[.val (.ref o), .val (.int (2 : Int32)), .val (.int p2)] []))
        refine own_to (fun t k => XS.iloadN X71.here hx rfl (hb hby own_d3_167) rfl k) ?_
        show own_Fin _ _ _ _ _ _ (T71.setTop (mkF m 168 #[.val (.ref o), .val (.int (2 : Int32)), .val (.int p2)] [(.int (2 : Int32))]))
        refine own_to (fun t k => XS.bipush X71.here hx rfl (hb hby own_d3_168) k) ?_
        show own_Fin _ _ _ _ _ _ (T71.setTop (mkF m 170 #[.val (.ref o), .val (.int (2 : Int32)), .val (.int p2)] [(.int (13 : Int32)), (.int (2 : Int32))]))
        refine own_to (fun t k => XS.icmpYes X71.here hx rfl (pc0 := 170) (pc' := 181) rfl (hb hby own_d3_170) rfl (flt (by decide)).2.2.2 (by decide) (by decide) k) ?_
        show own_Fin _ _ _ _ _ _ (T71.setTop (mkF m 181 #[.val (.ref o), .val (.int (2 : Int32)), .val (.int p2)] []))
        refine own_to (fun t k => XS.iloadN X71.here hx rfl (hb hby own_d3_181) rfl k) ?_
        show own_Fin _ _ _ _ _ _ (T71.setTop (mkF m 182 #[.val (.ref o), .val (.int (2 : Int32)), .val (.int p2)] [(.int (2 : Int32))]))
        refine own_to (fun t k => XS.bipush X71.here hx rfl (hb hby own_d3_182) k) ?_
        show own_Fin _ _ _ _ _ _ (T71.setTop (mkF m 184 #[.val (.ref o), .val (.int (2 : Int32)), .val (.int p2)] [(.int (14 : Int32)), (.int (2 : Int32))]))
        refine own_to (fun t k => XS.icmpYes X71.here hx rfl (pc0 := 184) (pc' := 195) rfl (hb hby own_d3_184) rfl (flt (by decide)).2.2.2 (by decide) (by decide) k) ?_
        show own_Fin _ _ _ _ _ _ (T71.setTop (mkF m 195 #[.val (.ref o), .val (.int (2 : Int32)), .val (.int p2)] []))
        refine own_to (fun t k => XS.iloadN X71.here hx rfl (hb hby own_d3_195) rfl k) ?_
        show own_Fin _ _ _ _ _ _ (T71.setTop (mkF m 196 #[.val (.ref o), .val (.int (2 : Int32)), .val (.int p2)] [(.int (2 : Int32))]))
        refine own_to (fun t k => XS.bipush X71.here hx rfl (hb hby own_d3_196) k) ?_
        show own_Fin _ _ _ _ _ _ (T71.setTop (mkF m 198 #[.val (.ref o), .val (.int (2 : Int32)), .val (.int p2)] [(.int (15 : Int32)), (.int (2 : Int32))]))
        refine own_to (fun t k => XS.icmpYes X71.here hx rfl (pc0 := 198) (pc' := 209) rfl (hb hby own_d3_198) rfl (flt (by decide)).2.2.2 (by decide) (by decide) k) ?_
        show own_Fin _ _ _ _ _ _ (T71.setTop (mkF m 209 #[.val (.ref o), .val (.int (2 : Int32)), .val (.int p2)] []))
        refine own_to (fun t k => XS.iloadN X71.here hx rfl (hb hby own_d3_209) rfl k) ?_
        show own_Fin _ _ _ _ _ _ (T71.setTop (mkF m 210 #[.val (.ref o), .val (.int (2 : Int32)), .val (.int p2)] [(.int (2 : Int32))]))
        refine own_to (fun t k => XS.bipush X71.here hx rfl (hb hby own_d3_210) k) ?_
        show own_Fin _ _ _ _ _ _ (T71.setTop (mkF m 212 #[.val (.ref o), .val (.int (2 : Int32)), .val (.int p2)] [(.int (16 : Int32)), (.int (2 : Int32))]))
        refine own_to (fun t k => XS.icmpYes X71.here hx rfl (pc0 := 212) (pc' := 223) rfl (hb hby own_d3_212) rfl (flt (by decide)).2.2.2 (by decide) (by decide) k) ?_
        show own_Fin _ _ _ _ _ _ (T71.setTop (mkF m 223 #[.val (.ref o), .val (.int (2 : Int32)), .val (.int p2)] []))
        refine own_to (fun t k => XS.iloadN X71.here hx rfl (hb hby own_d3_223) rfl k) ?_
        show own_Fin _ _ _ _ _ _ (T71.setTop (mkF m 224 #[.val (.ref o), .val (.int (2 : Int32)), .val (.int p2)] [(.int (2 : Int32))]))
        refine own_to (fun t k => XS.bipush X71.here hx rfl (hb hby own_d3_224) k) ?_
        show own_Fin _ _ _ _ _ _ (T71.setTop (mkF m 226 #[.val (.ref o), .val (.int (2 : Int32)), .val (.int p2)] [(.int (17 : Int32)), (.int (2 : Int32))]))
        refine own_to (fun t k => XS.icmpYes X71.here hx rfl (pc0 := 226) (pc' := 237) rfl (hb hby own_d3_226) rfl (flt (by decide)).2.2.2 (by decide) (by decide) k) ?_
        show own_Fin _ _ _ _ _ _ (T71.setTop (mkF m 237 #[.val (.ref o), .val (.int (2 : Int32)), .val (.int p2)] []))
        refine own_retV X71 hx hlk hret (hb hby own_d3_237) (by decide) (by decide) ?_
        exact ⟨(.ref L1), [(.ref L1), .null, .null, .null, .null, .null, .null, .null], rfl, N71, KK71, ⟨Es, Fb, Fc, Fl, Fu, Vb⟩, (fun q => absurd q (by decide))⟩
    ·
      show own_Fin _ _ _ _ _ _ (T69.setTop (mkF m 11 #[.val (.ref o), .val (.int p1), .val (.int p2)] [(.int (1 : Int32)), (.int p1)]))
      obtain rfl : p1 = (1 : Int32) := own_is p1 (0 : Int32) (1 : Int32) hf68 hf70 (by decide)
      show own_Fin _ _ _ _ _ _ (T69.setTop (mkF m 11 #[.val (.ref o), .val (.int (1 : Int32)), .val (.int p2)] [(.int (1 : Int32)), (.int (1 : Int32))]))
      refine own_to (fun t k => XS.icmpYes X69.here hx rfl (pc0 := 11) (pc' := 21) rfl (hb hby own_d3_11) rfl (flt (by decide)).2.2.2 (by decide) (by decide) k) ?_
      show own_Fin _ _ _ _ _ _ (T69.setTop (mkF m 21 #[.val (.ref o), .val (.int (1 : Int32)), .val (.int p2)] []))
      refine own_to (fun t k => XS.iloadN X69.here hx rfl (hb hby own_d3_21) rfl k) ?_
      show own_Fin _ _ _ _ _ _ (T69.setTop (mkF m 22 #[.val (.ref o), .val (.int (1 : Int32)), .val (.int p2)] [(.int (1 : Int32))]))
      refine own_to (fun t k => XS.iconst X69.here hx rfl (hb hby own_d3_22) k) ?_
      show own_Fin _ _ _ _ _ _ (T69.setTop (mkF m 23 #[.val (.ref o), .val (.int (1 : Int32)), .val (.int p2)] [(.int (2 : Int32)), (.int (1 : Int32))]))
      refine own_to (fun t k => XS.icmpYes X69.here hx rfl (pc0 := 23) (pc' := 33) rfl (hb hby own_d3_23) rfl (flt (by decide)).2.2.2 (by decide) (by decide) k) ?_
      show own_Fin _ _ _ _ _ _ (T69.setTop (mkF m 33 #[.val (.ref o), .val (.int (1 : Int32)), .val (.int p2)] []))
      refine own_to (fun t k => XS.iloadN X69.here hx rfl (hb hby own_d3_33) rfl k) ?_
      show own_Fin _ _ _ _ _ _ (T69.setTop (mkF m 34 #[.val (.ref o), .val (.int (1 : Int32)), .val (.int p2)] [(.int (1 : Int32))]))
      refine own_to (fun t k => XS.iconst X69.here hx rfl (hb hby own_d3_34) k) ?_
      show own_Fin _ _ _ _ _ _ (T69.setTop (mkF m 35 #[.val (.ref o), .val (.int (1 : Int32)), .val (.int p2)] [(.int (3 : Int32)), (.int (1 : Int32))]))
      refine own_to (fun t k => XS.icmpYes X69.here hx rfl (pc0 := 35) (pc' := 45) rfl (hb hby own_d3_35) rfl (flt (by decide)).2.2.2 (by decide) (by decide) k) ?_
      show own_Fin _ _ _ _ _ _ (T69.setTop (mkF m 45 #[.val (.ref o), .val (.int (1 : Int32)), .val (.int p2)] []))
      refine own_to (fun t k => XS.iloadN X69.here hx rfl (hb hby own_d3_45) rfl k) ?_
      show own_Fin _ _ _ _ _ _ (T69.setTop (mkF m 46 #[.val (.ref o), .val (.int (1 : Int32)), .val (.int p2)] [(.int (1 : Int32))]))
      refine own_to (fun t k => XS.iconst X69.here hx rfl (hb hby own_d3_46) k) ?_
      show own_Fin _ _ _ _ _ _ (T69.setTop (mkF m 47 #[.val (.ref o), .val (.int (1 : Int32)), .val (.int p2)] [(.int (4 : Int32)), (.int (1 : Int32))]))
      refine own_to (fun t k => XS.icmpYes X69.here hx rfl (pc0 := 47) (pc' := 57) rfl (hb hby own_d3_47) rfl (flt (by decide)).2.2.2 (by decide) (by decide) k) ?_
      show own_Fin _ _ _ _ _ _ (T69.setTop (mkF m 57 #[.val (.ref o), .val (.int (1 : Int32)), .val (.int p2)] []))
      refine own_to (fun t k => XS.iloadN X69.here hx rfl (hb hby own_d3_57) rfl k) ?_
      show own_Fin _ _ _ _ _ _ (T69.setTop (mkF m 58 #[.val (.ref o), .val (.int (1 : Int32)), .val (.int p2)] [(.int (1 : Int32))]))
      refine own_to (fun t k => XS.iconst X69.here hx rfl (hb hby own_d3_58) k) ?_
      show own_Fin _ _ _ _ _ _ (T69.setTop (mkF m 59 #[.val (.ref o), .val (.int (1 : Int32)), .val (.int p2)] [(.int (5 : Int32)), (.int (1 : Int32))]))
      refine own_to (fun t k => XS.icmpYes X69.here hx rfl (pc0 := 59) (pc' := 69) rfl (hb hby own_d3_59) rfl (flt (by decide)).2.2.2 (by decide) (by decide) k) ?_
      show own_Fin _ _ _ _ _ _ (T69.setTop (mkF m 69 #[.val (.ref o), .val (.int (1 : Int32)), .val (.int p2)] []))
      refine own_to (fun t k => XS.iloadN X69.here hx rfl (hb hby own_d3_69) rfl k) ?_
      show own_Fin _ _ _ _ _ _ (T69.setTop (mkF m 70 #[.val (.ref o), .val (.int (1 : Int32)), .val (.int p2)] [(.int (1 : Int32))]))
      refine own_to (fun t k => XS.bipush X69.here hx rfl (hb hby own_d3_70) k) ?_
      show own_Fin _ _ _ _ _ _ (T69.setTop (mkF m 72 #[.val (.ref o), .val (.int (1 : Int32)), .val (.int p2)] [(.int (6 : Int32)), (.int (1 : Int32))]))
      refine own_to (fun t k => XS.icmpYes X69.here hx rfl (pc0 := 72) (pc' := 83) rfl (hb hby own_d3_72) rfl (flt (by decide)).2.2.2 (by decide) (by decide) k) ?_
      show own_Fin _ _ _ _ _ _ (T69.setTop (mkF m 83 #[.val (.ref o), .val (.int (1 : Int32)), .val (.int p2)] []))
      refine own_to (fun t k => XS.iloadN X69.here hx rfl (hb hby own_d3_83) rfl k) ?_
      show own_Fin _ _ _ _ _ _ (T69.setTop (mkF m 84 #[.val (.ref o), .val (.int (1 : Int32)), .val (.int p2)] [(.int (1 : Int32))]))
      refine own_to (fun t k => XS.bipush X69.here hx rfl (hb hby own_d3_84) k) ?_
      show own_Fin _ _ _ _ _ _ (T69.setTop (mkF m 86 #[.val (.ref o), .val (.int (1 : Int32)), .val (.int p2)] [(.int (7 : Int32)), (.int (1 : Int32))]))
      refine own_to (fun t k => XS.icmpYes X69.here hx rfl (pc0 := 86) (pc' := 97) rfl (hb hby own_d3_86) rfl (flt (by decide)).2.2.2 (by decide) (by decide) k) ?_
      show own_Fin _ _ _ _ _ _ (T69.setTop (mkF m 97 #[.val (.ref o), .val (.int (1 : Int32)), .val (.int p2)] []))
      refine own_to (fun t k => XS.iloadN X69.here hx rfl (hb hby own_d3_97) rfl k) ?_
      show own_Fin _ _ _ _ _ _ (T69.setTop (mkF m 98 #[.val (.ref o), .val (.int (1 : Int32)), .val (.int p2)] [(.int (1 : Int32))]))
      refine own_to (fun t k => XS.bipush X69.here hx rfl (hb hby own_d3_98) k) ?_
      show own_Fin _ _ _ _ _ _ (T69.setTop (mkF m 100 #[.val (.ref o), .val (.int (1 : Int32)), .val (.int p2)] [(.int (8 : Int32)), (.int (1 : Int32))]))
      refine own_to (fun t k => XS.icmpYes X69.here hx rfl (pc0 := 100) (pc' := 111) rfl (hb hby own_d3_100) rfl (flt (by decide)).2.2.2 (by decide) (by decide) k) ?_
      show own_Fin _ _ _ _ _ _ (T69.setTop (mkF m 111 #[.val (.ref o), .val (.int (1 : Int32)), .val (.int p2)] []))
      refine own_to (fun t k => XS.iloadN X69.here hx rfl (hb hby own_d3_111) rfl k) ?_
      show own_Fin _ _ _ _ _ _ (T69.setTop (mkF m 112 #[.val (.ref o), .val (.int (1 : Int32)), .val (.int p2)] [(.int (1 : Int32))]))
      refine own_to (fun t k => XS.bipush X69.here hx rfl (hb hby own_d3_112) k) ?_
      show own_Fin _ _ _ _ _ _ (T69.setTop (mkF m 114 #[.val (.ref o), .val (.int (1 : Int32)), .val (.int p2)] [(.int (9 : Int32)), (.int (1 : Int32))]))
      refine own_to (fun t k => XS.icmpYes X69.here hx rfl (pc0 := 114) (pc' := 125) rfl (hb hby own_d3_114) rfl (flt (by decide)).2.2.2 (by decide) (by decide) k) ?_
      show own_Fin _ _ _ _ _ _ (T69.setTop (mkF m 125 #[.val (.ref o), .val (.int (1 : Int32)), .val (.int p2)] []))
      refine own_to (fun t k => XS.iloadN X69.here hx rfl (hb hby own_d3_125) rfl k) ?_
      show own_Fin _ _ _ _ _ _ (T69.setTop (mkF m 126 #[.val (.ref o), .val (.int (1 : Int32)), .val (.int p2)] [(.int (1 : Int32))]))
      refine own_to (fun t k => XS.bipush X69.here hx rfl (hb hby own_d3_126) k) ?_
      show own_Fin _ _ _ _ _ _ (T69.setTop (mkF m 128 #[.val (.ref o), .val (.int (1 : Int32)), .val (.int p2)] [(.int (10 : Int32)), (.int (1 : Int32))]))
      refine own_to (fun t k => XS.icmpYes X69.here hx rfl (pc0 := 128) (pc' := 139) rfl (hb hby own_d3_128) rfl (flt (by decide)).2.2.2 (by decide) (by decide) k) ?_
      show own_Fin _ _ _ _ _ _ (T69.setTop (mkF m 139 #[.val (.ref o), .val (.int (1 : Int32)), .val (.int p2)] []))
      refine own_to (fun t k => XS.iloadN X69.here hx rfl (hb hby own_d3_139) rfl k) ?_
      show own_Fin _ _ _ _ _ _ (T69.setTop (mkF m 140 #[.val (.ref o), .val (.int (1 : Int32)), .val (.int p2)] [(.int (1 : Int32))]))
      refine own_to (fun t k => XS.bipush X69.here hx rfl (hb hby own_d3_140) k) ?_
      show own_Fin _ _ _ _ _ _ (T69.setTop (mkF m 142 #[.val (.ref o), .val (.int (1 : Int32)), .val (.int p2)] [(.int (11 : Int32)), (.int (1 : Int32))]))
      refine own_to (fun t k => XS.icmpYes X69.here hx rfl (pc0 := 142) (pc' := 153) rfl (hb hby own_d3_142) rfl (flt (by decide)).2.2.2 (by decide) (by decide) k) ?_
      show own_Fin _ _ _ _ _ _ (T69.setTop (mkF m 153 #[.val (.ref o), .val (.int (1 : Int32)), .val (.int p2)] []))
      refine own_to (fun t k => XS.iloadN X69.here hx rfl (hb hby own_d3_153) rfl k) ?_
      show own_Fin _ _ _ _ _ _ (T69.setTop (mkF m 154 #[.val (.ref o), .val (.int (1 : Int32)), .val (.int p2)] [(.int (1 : Int32))]))
      refine own_to (fun t k => XS.bipush X69.here hx rfl (hb hby own_d3_154) k) ?_
      show own_Fin _ _ _ _ _ _ (T69.setTop (mkF m 156 #[.val (.ref o), .val (.int (1 : Int32)), .val (.int p2)] [(.int (12 : Int32)), (.int (1 : Int32))]))
      refine own_to (fun t k => XS.icmpYes X69.here hx rfl (pc0 := 156) (pc' := 167) rfl (hb hby own_d3_156) rfl (flt (by decide)).2.2.2 (by decide) (by decide) k) ?_
      show own_Fin _ _ _ _ _ _ (T69.setTop (mkF m 167 #[.val (.ref o), .val (.int (1 : Int32)), .val (.int p2)] []))
      refine own_to (fun t k => XS.iloadN X69.here hx rfl (hb hby own_d3_167) rfl k) ?_
      show own_Fin _ _ _ _ _ _ (T69.setTop (mkF m 168 #[.val (.ref o), .val (.int (1 : Int32)), .val (.int p2)] [(.int (1 : Int32))]))
      refine own_to (fun t k => XS.bipush X69.here hx rfl (hb hby own_d3_168) k) ?_
      show own_Fin _ _ _ _ _ _ (T69.setTop (mkF m 170 #[.val (.ref o), .val (.int (1 : Int32)), .val (.int p2)] [(.int (13 : Int32)), (.int (1 : Int32))]))
      refine own_to (fun t k => XS.icmpYes X69.here hx rfl (pc0 := 170) (pc' := 181) rfl (hb hby own_d3_170) rfl (flt (by decide)).2.2.2 (by decide) (by decide) k) ?_
      show own_Fin _ _ _ _ _ _ (T69.setTop (mkF m 181 #[.val (.ref o), .val (.int (1 : Int32)), .val (.int p2)] []))
      refine own_to (fun t k => XS.iloadN X69.here hx rfl (hb hby own_d3_181) rfl k) ?_
      show own_Fin _ _ _ _ _ _ (T69.setTop (mkF m 182 #[.val (.ref o), .val (.int (1 : Int32)), .val (.int p2)] [(.int (1 : Int32))]))
      refine own_to (fun t k => XS.bipush X69.here hx rfl (hb hby own_d3_182) k) ?_
      show own_Fin _ _ _ _ _ _ (T69.setTop (mkF m 184 #[.val (.ref o), .val (.int (1 : Int32)), .val (.int p2)] [(.int (14 : Int32)), (.int (1 : Int32))]))
      refine own_to (fun t k => XS.icmpYes X69.here hx rfl (pc0 := 184) (pc' := 195) rfl (hb hby own_d3_184) rfl (flt (by decide)).2.2.2 (by decide) (by decide) k) ?_
      show own_Fin _ _ _ _ _ _ (T69.setTop (mkF m 195 #[.val (.ref o), .val (.int (1 : Int32)), .val (.int p2)] []))
      refine own_to (fun t k => XS.iloadN X69.here hx rfl (hb hby own_d3_195) rfl k) ?_
      show own_Fin _ _ _ _ _ _ (T69.setTop (mkF m 196 #[.val (.ref o), .val (.int (1 : Int32)), .val (.int p2)] [(.int (1 : Int32))]))
      refine own_to (fun t k => XS.bipush X69.here hx rfl (hb hby own_d3_196) k) ?_
      show own_Fin _ _ _ _ _ _ (T69.setTop (mkF m 198 #[.val (.ref o), .val (.int (1 : Int32)), .val (.int p2)] [(.int (15 : Int32)), (.int (1 : Int32))]))
      refine own_to (fun t k => XS.icmpYes X69.here hx rfl (pc0 := 198) (pc' := 209) rfl (hb hby own_d3_198) rfl (flt (by decide)).2.2.2 (by decide) (by decide) k) ?_
      show own_Fin _ _ _ _ _ _ (T69.setTop (mkF m 209 #[.val (.ref o), .val (.int (1 : Int32)), .val (.int p2)] []))
      refine own_to (fun t k => XS.iloadN X69.here hx rfl (hb hby own_d3_209) rfl k) ?_
      show own_Fin _ _ _ _ _ _ (T69.setTop (mkF m 210 #[.val (.ref o), .val (.int (1 : Int32)), .val (.int p2)] [(.int (1 : Int32))]))
      refine own_to (fun t k => XS.bipush X69.here hx rfl (hb hby own_d3_210) k) ?_
      show own_Fin _ _ _ _ _ _ (T69.setTop (mkF m 212 #[.val (.ref o), .val (.int (1 : Int32)), .val (.int p2)] [(.int (16 : Int32)), (.int (1 : Int32))]))
      refine own_to (fun t k => XS.icmpYes X69.here hx rfl (pc0 := 212) (pc' := 223) rfl (hb hby own_d3_212) rfl (flt (by decide)).2.2.2 (by decide) (by decide) k) ?_
      show own_Fin _ _ _ _ _ _ (T69.setTop (mkF m 223 #[.val (.ref o), .val (.int (1 : Int32)), .val (.int p2)] []))
      refine own_to (fun t k => XS.iloadN X69.here hx rfl (hb hby own_d3_223) rfl k) ?_
      show own_Fin _ _ _ _ _ _ (T69.setTop (mkF m 224 #[.val (.ref o), .val (.int (1 : Int32)), .val (.int p2)] [(.int (1 : Int32))]))
      refine own_to (fun t k => XS.bipush X69.here hx rfl (hb hby own_d3_224) k) ?_
      show own_Fin _ _ _ _ _ _ (T69.setTop (mkF m 226 #[.val (.ref o), .val (.int (1 : Int32)), .val (.int p2)] [(.int (17 : Int32)), (.int (1 : Int32))]))
      refine own_to (fun t k => XS.icmpYes X69.here hx rfl (pc0 := 226) (pc' := 237) rfl (hb hby own_d3_226) rfl (flt (by decide)).2.2.2 (by decide) (by decide) k) ?_
      show own_Fin _ _ _ _ _ _ (T69.setTop (mkF m 237 #[.val (.ref o), .val (.int (1 : Int32)), .val (.int p2)] []))
      refine own_retV X69 hx hlk hret (hb hby own_d3_237) (by decide) (by decide) ?_
      exact ⟨(.ref L1), [(.ref L1), .null, .null, .null, .null, .null, .null, .null], rfl, N69, KK69, ⟨Es, Fb, Fc, Fl, Fu, Vb⟩, (fun q => absurd q (by decide))⟩
  ·
    show own_Fin _ _ _ _ _ _ (s₁.setTop (mkF m 1 #[.val (.ref o), .val (.int p1), .val (.int p2)] [(.int p1)]))
    obtain rfl : p1 = (0 : Int32) := own_is0 p1 hn0 hf68
    show own_Fin _ _ _ _ _ _ (s₁.setTop (mkF m 1 #[.val (.ref o), .val (.int (0 : Int32)), .val (.int p2)] [(.int (0 : Int32))]))
    refine own_to (fun t k => XS.ifYes X0.here hx rfl (pc0 := 1) (pc' := 9) rfl (hb hby own_d3_1) rfl ((if0 _ _).trans (flt (by decide)).2.2.2) (by decide) (by decide) k) ?_
    show own_Fin _ _ _ _ _ _ (s₁.setTop (mkF m 9 #[.val (.ref o), .val (.int (0 : Int32)), .val (.int p2)] []))
    refine own_to (fun t k => XS.iloadN X0.here hx rfl (hb hby own_d3_9) rfl k) ?_
    show own_Fin _ _ _ _ _ _ (s₁.setTop (mkF m 10 #[.val (.ref o), .val (.int (0 : Int32)), .val (.int p2)] [(.int (0 : Int32))]))
    refine own_to (fun t k => XS.iconst X0.here hx rfl (hb hby own_d3_10) k) ?_
    show own_Fin _ _ _ _ _ _ (s₁.setTop (mkF m 11 #[.val (.ref o), .val (.int (0 : Int32)), .val (.int p2)] [(.int (1 : Int32)), (.int (0 : Int32))]))
    refine own_to (fun t k => XS.icmpYes X0.here hx rfl (pc0 := 11) (pc' := 21) rfl (hb hby own_d3_11) rfl (flt (by decide)).2.2.2 (by decide) (by decide) k) ?_
    show own_Fin _ _ _ _ _ _ (s₁.setTop (mkF m 21 #[.val (.ref o), .val (.int (0 : Int32)), .val (.int p2)] []))
    refine own_to (fun t k => XS.iloadN X0.here hx rfl (hb hby own_d3_21) rfl k) ?_
    show own_Fin _ _ _ _ _ _ (s₁.setTop (mkF m 22 #[.val (.ref o), .val (.int (0 : Int32)), .val (.int p2)] [(.int (0 : Int32))]))
    refine own_to (fun t k => XS.iconst X0.here hx rfl (hb hby own_d3_22) k) ?_
    show own_Fin _ _ _ _ _ _ (s₁.setTop (mkF m 23 #[.val (.ref o), .val (.int (0 : Int32)), .val (.int p2)] [(.int (2 : Int32)), (.int (0 : Int32))]))
    refine own_to (fun t k => XS.icmpYes X0.here hx rfl (pc0 := 23) (pc' := 33) rfl (hb hby own_d3_23) rfl (flt (by decide)).2.2.2 (by decide) (by decide) k) ?_
    show own_Fin _ _ _ _ _ _ (s₁.setTop (mkF m 33 #[.val (.ref o), .val (.int (0 : Int32)), .val (.int p2)] []))
    refine own_to (fun t k => XS.iloadN X0.here hx rfl (hb hby own_d3_33) rfl k) ?_
    show own_Fin _ _ _ _ _ _ (s₁.setTop (mkF m 34 #[.val (.ref o), .val (.int (0 : Int32)), .val (.int p2)] [(.int (0 : Int32))]))
    refine own_to (fun t k => XS.iconst X0.here hx rfl (hb hby own_d3_34) k) ?_
    show own_Fin _ _ _ _ _ _ (s₁.setTop (mkF m 35 #[.val (.ref o), .val (.int (0 : Int32)), .val (.int p2)] [(.int (3 : Int32)), (.int (0 : Int32))]))
    refine own_to (fun t k => XS.icmpYes X0.here hx rfl (pc0 := 35) (pc' := 45) rfl (hb hby own_d3_35) rfl (flt (by decide)).2.2.2 (by decide) (by decide) k) ?_
    show own_Fin _ _ _ _ _ _ (s₁.setTop (mkF m 45 #[.val (.ref o), .val (.int (0 : Int32)), .val (.int p2)] []))
    refine own_to (fun t k => XS.iloadN X0.here hx rfl (hb hby own_d3_45) rfl k) ?_
    show own_Fin _ _ _ _ _ _ (s₁.setTop (mkF m 46 #[.val (.ref o), .val (.int (0 : Int32)), .val (.int p2)] [(.int (0 : Int32))]))
    refine own_to (fun t k => XS.iconst X0.here hx rfl (hb hby own_d3_46) k) ?_
    show own_Fin _ _ _ _ _ _ (s₁.setTop (mkF m 47 #[.val (.ref o), .val (.int (0 : Int32)), .val (.int p2)] [(.int (4 : Int32)), (.int (0 : Int32))]))
    refine own_to (fun t k => XS.icmpYes X0.here hx rfl (pc0 := 47) (pc' := 57) rfl (hb hby own_d3_47) rfl (flt (by decide)).2.2.2 (by decide) (by decide) k) ?_
    show own_Fin _ _ _ _ _ _ (s₁.setTop (mkF m 57 #[.val (.ref o), .val (.int (0 : Int32)), .val (.int p2)] []))
    refine own_to (fun t k => XS.iloadN X0.here hx rfl (hb hby own_d3_57) rfl k) ?_
    show own_Fin _ _ _ _ _ _ (s₁.setTop (mkF m 58 #[.val (.ref o), .val (.int (0 : Int32)), .val (.int p2)] [(.int (0 : Int32))]))
    refine own_to (fun t k => XS.iconst X0.here hx rfl (hb hby own_d3_58) k) ?_
    show own_Fin _ _ _ _ _ _ (s₁.setTop (mkF m 59 #[.val (.ref o), .val (.int (0 : Int32)), .val (.int p2)] [(.int (5 : Int32)), (.int (0 : Int32))]))
    refine own_to (fun t k => XS.icmpYes X0.here hx rfl (pc0 := 59) (pc' := 69) rfl (hb hby own_d3_59) rfl (flt (by decide)).2.2.2 (by decide) (by decide) k) ?_
    show own_Fin _ _ _ _ _ _ (s₁.setTop (mkF m 69 #[.val (.ref o), .val (.int (0 : Int32)), .val (.int p2)] []))
    refine own_to (fun t k => XS.iloadN X0.here hx rfl (hb hby own_d3_69) rfl k) ?_
    show own_Fin _ _ _ _ _ _ (s₁.setTop (mkF m 70 #[.val (.ref o), .val (.int (0 : Int32)), .val (.int p2)] [(.int (0 : Int32))]))
    refine own_to (fun t k => XS.bipush X0.here hx rfl (hb hby own_d3_70) k) ?_
    show own_Fin _ _ _ _ _ _ (s₁.setTop (mkF m 72 #[.val (.ref o), .val (.int (0 : Int32)), .val (.int p2)] [(.int (6 : Int32)), (.int (0 : Int32))]))
    refine own_to (fun t k => XS.icmpYes X0.here hx rfl (pc0 := 72) (pc' := 83) rfl (hb hby own_d3_72) rfl (flt (by decide)).2.2.2 (by decide) (by decide) k) ?_
    show own_Fin _ _ _ _ _ _ (s₁.setTop (mkF m 83 #[.val (.ref o), .val (.int (0 : Int32)), .val (.int p2)] []))
    refine own_to (fun t k => XS.iloadN X0.here hx rfl (hb hby own_d3_83) rfl k) ?_
    show own_Fin _ _ _ _ _ _ (s₁.setTop (mkF m 84 #[.val (.ref o), .val (.int (0 : Int32)), .val (.int p2)] [(.int (0 : Int32))]))
    refine own_to (fun t k => XS.bipush X0.here hx rfl (hb hby own_d3_84) k) ?_
    show own_Fin _ _ _ _ _ _ (s₁.setTop (mkF m 86 #[.val (.ref o), .val (.int (0 : Int32)), .val (.int p2)] [(.int (7 : Int32)), (.int (0 : Int32))]))
    refine own_to (fun t k => XS.icmpYes X0.here hx rfl (pc0 := 86) (pc' := 97) rfl (hb hby own_d3_86) rfl (flt (by decide)).2.2.2 (by decide) (by decide) k) ?_
    show own_Fin _ _ _ _ _ _ (s₁.setTop (mkF m 97 #[.val (.ref o), .val (.int (0 : Int32)), .val (.int p2)] []))
    refine own_to (fun t k => XS.iloadN X0.here hx rfl (hb hby own_d3_97) rfl k) ?_
    show own_Fin _ _ _ _ _ _ (s₁.setTop (mkF m 98 #[.val (.ref o), .val (.int (0 : Int32)), .val (.int p2)] [(.int (0 : Int32))]))
    refine own_to (fun t k => XS.bipush X0.here hx rfl (hb hby own_d3_98) k) ?_
    show own_Fin _ _ _ _ _ _ (s₁.setTop (mkF m 100 #[.val (.ref o), .val (.int (0 : Int32)), .val (.int p2)] [(.int (8 : Int32)), (.int (0 : Int32))]))
    refine own_to (fun t k => XS.icmpYes X0.here hx rfl (pc0 := 100) (pc' := 111) rfl (hb hby own_d3_100) rfl (flt (by decide)).2.2.2 (by decide) (by decide) k) ?_
    show own_Fin _ _ _ _ _ _ (s₁.setTop (mkF m 111 #[.val (.ref o), .val (.int (0 : Int32)), .val (.int p2)] []))
    refine own_to (fun t k => XS.iloadN X0.here hx rfl (hb hby own_d3_111) rfl k) ?_
    show own_Fin _ _ _ _ _ _ (s₁.setTop (mkF m 112 #[.val (.ref o), .val (.int (0 : Int32)), .val (.int p2)] [(.int (0 : Int32))]))
    refine own_to (fun t k => XS.bipush X0.here hx rfl (hb hby own_d3_112) k) ?_
    show own_Fin _ _ _ _ _ _ (s₁.setTop (mkF m 114 #[.val (.ref o), .val (.int (0 : Int32)), .val (.int p2)] [(.int (9 : Int32)), (.int (0 : Int32))]))
    refine own_to (fun t k => XS.icmpYes X0.here hx rfl (pc0 := 114) (pc' := 125) rfl (hb hby own_d3_114) rfl (flt (by decide)).2.2.2 (by decide) (by decide) k) ?_
    show own_Fin _ _ _ _ _ _ (s₁.setTop (mkF m 125 #[.val (.ref o), .val (.int (0 : Int32)), .val (.int p2)] []))
    refine own_to (fun t k => XS.iloadN X0.here hx rfl (hb hby own_d3_125) rfl k) ?_
    show own_Fin _ _ _ _ _ _ (s₁.setTop (mkF m 126 #[.val (.ref o), .val (.int (0 : Int32)), .val (.int p2)] [(.int (0 : Int32))]))
    refine own_to (fun t k => XS.bipush X0.here hx rfl (hb hby own_d3_126) k) ?_
    show own_Fin _ _ _ _ _ _ (s₁.setTop (mkF m 128 #[.val (.ref o), .val (.int (0 : Int32)), .val (.int p2)] [(.int (10 : Int32)), (.int (0 : Int32))]))
    refine own_to (fun t k => XS.icmpYes X0.here hx rfl (pc0 := 128) (pc' := 139) rfl (hb hby own_d3_128) rfl (flt (by decide)).2.2.2 (by decide) (by decide) k) ?_
    show own_Fin _ _ _ _ _ _ (s₁.setTop (mkF m 139 #[.val (.ref o), .val (.int (0 : Int32)), .val (.int p2)] []))
    refine own_to (fun t k => XS.iloadN X0.here hx rfl (hb hby own_d3_139) rfl k) ?_
    show own_Fin _ _ _ _ _ _ (s₁.setTop (mkF m 140 #[.val (.ref o), .val (.int (0 : Int32)), .val (.int p2)] [(.int (0 : Int32))]))
    refine own_to (fun t k => XS.bipush X0.here hx rfl (hb hby own_d3_140) k) ?_
    show own_Fin _ _ _ _ _ _ (s₁.setTop (mkF m 142 #[.val (.ref o), .val (.int (0 : Int32)), .val (.int p2)] [(.int (11 : Int32)), (.int (0 : Int32))]))
    refine own_to (fun t k => XS.icmpYes X0.here hx rfl (pc0 := 142) (pc' := 153) rfl (hb hby own_d3_142) rfl (flt (by decide)).2.2.2 (by decide) (by decide) k) ?_
    show own_Fin _ _ _ _ _ _ (s₁.setTop (mkF m 153 #[.val (.ref o), .val (.int (0 : Int32)), .val (.int p2)] []))
    refine own_to (fun t k => XS.iloadN X0.here hx rfl (hb hby own_d3_153) rfl k) ?_
    show own_Fin _ _ _ _ _ _ (s₁.setTop (mkF m 154 #[.val (.ref o), .val (.int (0 : Int32)), .val (.int p2)] [(.int (0 : Int32))]))
    refine own_to (fun t k => XS.bipush X0.here hx rfl (hb hby own_d3_154) k) ?_
    show own_Fin _ _ _ _ _ _ (s₁.setTop (mkF m 156 #[.val (.ref o), .val (.int (0 : Int32)), .val (.int p2)] [(.int (12 : Int32)), (.int (0 : Int32))]))
    refine own_to (fun t k => XS.icmpYes X0.here hx rfl (pc0 := 156) (pc' := 167) rfl (hb hby own_d3_156) rfl (flt (by decide)).2.2.2 (by decide) (by decide) k) ?_
    show own_Fin _ _ _ _ _ _ (s₁.setTop (mkF m 167 #[.val (.ref o), .val (.int (0 : Int32)), .val (.int p2)] []))
    refine own_to (fun t k => XS.iloadN X0.here hx rfl (hb hby own_d3_167) rfl k) ?_
    show own_Fin _ _ _ _ _ _ (s₁.setTop (mkF m 168 #[.val (.ref o), .val (.int (0 : Int32)), .val (.int p2)] [(.int (0 : Int32))]))
    refine own_to (fun t k => XS.bipush X0.here hx rfl (hb hby own_d3_168) k) ?_
    show own_Fin _ _ _ _ _ _ (s₁.setTop (mkF m 170 #[.val (.ref o), .val (.int (0 : Int32)), .val (.int p2)] [(.int (13 : Int32)), (.int (0 : Int32))]))
    refine own_to (fun t k => XS.icmpYes X0.here hx rfl (pc0 := 170) (pc' := 181) rfl (hb hby own_d3_170) rfl (flt (by decide)).2.2.2 (by decide) (by decide) k) ?_
    show own_Fin _ _ _ _ _ _ (s₁.setTop (mkF m 181 #[.val (.ref o), .val (.int (0 : Int32)), .val (.int p2)] []))
    refine own_to (fun t k => XS.iloadN X0.here hx rfl (hb hby own_d3_181) rfl k) ?_
    show own_Fin _ _ _ _ _ _ (s₁.setTop (mkF m 182 #[.val (.ref o), .val (.int (0 : Int32)), .val (.int p2)] [(.int (0 : Int32))]))
    refine own_to (fun t k => XS.bipush X0.here hx rfl (hb hby own_d3_182) k) ?_
    show own_Fin _ _ _ _ _ _ (s₁.setTop (mkF m 184 #[.val (.ref o), .val (.int (0 : Int32)), .val (.int p2)] [(.int (14 : Int32)), (.int (0 : Int32))]))
    refine own_to (fun t k => XS.icmpYes X0.here hx rfl (pc0 := 184) (pc' := 195) rfl (hb hby own_d3_184) rfl (flt (by decide)).2.2.2 (by decide) (by decide) k) ?_
    show own_Fin _ _ _ _ _ _ (s₁.setTop (mkF m 195 #[.val (.ref o), .val (.int (0 : Int32)), .val (.int p2)] []))
    refine own_to (fun t k => XS.iloadN X0.here hx rfl (hb hby own_d3_195) rfl k) ?_
    show own_Fin _ _ _ _ _ _ (s₁.setTop (mkF m 196 #[.val (.ref o), .val (.int (0 : Int32)), .val (.int p2)] [(.int (0 : Int32))]))
    refine own_to (fun t k => XS.bipush X0.here hx rfl (hb hby own_d3_196) k) ?_
    show own_Fin _ _ _ _ _ _ (s₁.setTop (mkF m 198 #[.val (.ref o), .val (.int (0 : Int32)), .val (.int p2)] [(.int (15 : Int32)), (.int (0 : Int32))]))
    refine own_to (fun t k => XS.icmpYes X0.here hx rfl (pc0 := 198) (pc' := 209) rfl (hb hby own_d3_198) rfl (flt (by decide)).2.2.2 (by decide) (by decide) k) ?_
    show own_Fin _ _ _ _ _ _ (s₁.setTop (mkF m 209 #[.val (.ref o), .val (.int (0 : Int32)), .val (.int p2)] []))
    refine own_to (fun t k => XS.iloadN X0.here hx rfl (hb hby own_d3_209) rfl k) ?_
    show own_Fin _ _ _ _ _ _ (s₁.setTop (mkF m 210 #[.val (.ref o), .val (.int (0 : Int32)), .val (.int p2)] [(.int (0 : Int32))]))
    refine own_to (fun t k => XS.bipush X0.here hx rfl (hb hby own_d3_210) k) ?_
    show own_Fin _ _ _ _ _ _ (s₁.setTop (mkF m 212 #[.val (.ref o), .val (.int (0 : Int32)), .val (.int p2)] [(.int (16 : Int32)), (.int (0 : Int32))]))
    refine own_to (fun t k => XS.icmpYes X0.here hx rfl (pc0 := 212) (pc' := 223) rfl (hb hby own_d3_212) rfl (flt (by decide)).2.2.2 (by decide) (by decide) k) ?_
    show own_Fin _ _ _ _ _ _ (s₁.setTop (mkF m 223 #[.val (.ref o), .val (.int (0 : Int32)), .val (.int p2)] []))
    refine own_to (fun t k => XS.iloadN X0.here hx rfl (hb hby own_d3_223) rfl k) ?_
    show own_Fin _ _ _ _ _ _ (s₁.setTop (mkF m 224 #[.val (.ref o), .val (.int (0 : Int32)), .val (.int p2)] [(.int (0 : Int32))]))
    refine own_to (fun t k => XS.bipush X0.here hx rfl (hb hby own_d3_224) k) ?_
    show own_Fin _ _ _ _ _ _ (s₁.setTop (mkF m 226 #[.val (.ref o), .val (.int (0 : Int32)), .val (.int p2)] [(.int (17 : Int32)), (.int (0 : Int32))]))
    refine own_to (fun t k => XS.icmpYes X0.here hx rfl (pc0 := 226) (pc' := 237) rfl (hb hby own_d3_226) rfl (flt (by decide)).2.2.2 (by decide) (by decide) k) ?_
    show own_Fin _ _ _ _ _ _ (s₁.setTop (mkF m 237 #[.val (.ref o), .val (.int (0 : Int32)), .val (.int p2)] []))
    refine own_retV X0 hx hlk hret (hb hby own_d3_237) (by decide) (by decide) ?_
    try rw [e0]
    exact ⟨.null, [.null, .null, .null, .null, .null, .null, .null, .null], rfl, N0, KK0, ⟨Es, Fb, Fc, Fl, Fu, Vb⟩, (fun q => absurd q (by decide))⟩
theorem own_d4_0 : decode prog_7_method_3_code 0 = .ok (.aload_n 0, 1) := by decide +kernel
theorem own_d4_1 : decode prog_7_method_3_code 1 = .ok (.getfield 25, 3) := by decide +kernel
theorem own_d4_4 : decode prog_7_method_3_code 4 = .ok (.ireturn, 1) := by decide +kernel
theorem own_rm4_ef (m : MethodId) (o : Addr) : entryFrame m #[(.ref o)] 1 = mkF m 0 #[.val (.ref o)] [] := by first | (simp [entryFrame, mkF, argsToLocals, Value.category]; done) | rfl
set_option maxRecDepth 65536 in
set_option maxHeartbeats 40000000 in
theorem own_rm4 (l : Launch) (Z : State) (a0 : Array Value) (hw : ∀ d ∈ tables_1, d.before a0 Z = true) (ws : List Jvm.Cond) (o : Addr) (x1 : Int32) (h0 : Heap) (n0 : Nat) (Z0 : n0 ≤ h0.size) (F1 : Fld Z h0 o "com/example/walk_to_worth/walktoworth/graph/IntSequence" "blockCount" "I" (.int x1)) :
    own_Met l Z (⟨"com/example/walk_to_worth/walktoworth/graph/IntSequence", "blockCount", "()I"⟩ : MethodName) prog_7_method_3_code 1 (some .int) ws ({ frames := 0, cells := 0, slots := 0, locals := 0 } : Room) #[(.ref o)] h0 (fun v h L => v = some (.int x1) ∧ Fr n0 L ∧ h = h0) := by
  refine own_enter (plainFor_of_name own_pn0) ?_
  intro p e s m below meth c s₁ X0 hx hZ hby hml hown hnm hret hlk e0
  have N0 := Fr.nil n0
  rw [own_rm4_ef m o]
  show own_Fin _ _ _ _ _ _ (s₁.setTop (mkF m 0 #[.val (.ref o)] []))
  refine own_to (fun t k => XS.aloadN X0.here hx rfl (hb hby own_d4_0) rfl rfl k) ?_
  show own_Fin _ _ _ _ _ _ (s₁.setTop (mkF m 1 #[.val (.ref o)] [(.ref o)]))
  obtain ⟨T104, X104, e104, st104⟩ := getF X0 hx hZ hown (host := "") (Or.inl (hw _ (List.mem_of_getElem? (i := 23) rfl))) Via.refl e0 F1 (g := (mkF m 1 #[.val (.ref o)] [(.ref o)])) rfl rfl (hb hby own_d4_1)
  refine own_to (fun t k => st104 t k) ?_
  show own_Fin _ _ _ _ _ _ (T104.setTop (mkF m 4 #[.val (.ref o)] [(.int x1)]))
  refine own_retI X104 hx hlk hret (hb hby own_d4_4) (by decide) (by decide) ?_
  try rw [e104]
  exact ⟨rfl, N0, rfl⟩
theorem own_d7_0 : decode prog_7_method_5_code 0 = .ok (.iload_n 1, 1) := by decide +kernel
theorem own_d7_1 : decode prog_7_method_5_code 1 = .ok (.aload_n 0, 1) := by decide +kernel
theorem own_d7_2 : decode prog_7_method_5_code 2 = .ok (.getfield 25, 3) := by decide +kernel
theorem own_d7_5 : decode prog_7_method_5_code 5 = .ok (.iconst 1, 1) := by decide +kernel
theorem own_d7_6 : decode prog_7_method_5_code 6 = .ok (.isub, 1) := by decide +kernel
theorem own_d7_7 : decode prog_7_method_5_code 7 = .ok (.if_icmp .ne 10, 3) := by decide +kernel
theorem own_d7_10 : decode prog_7_method_5_code 10 = .ok (.aload_n 0, 1) := by decide +kernel
theorem own_d7_11 : decode prog_7_method_5_code 11 = .ok (.getfield 18, 3) := by decide +kernel
theorem own_d7_14 : decode prog_7_method_5_code 14 = .ok (.goto 10, 3) := by decide +kernel
theorem own_d7_17 : decode prog_7_method_5_code 17 = .ok (.aload_n 0, 1) := by decide +kernel
theorem own_d7_18 : decode prog_7_method_5_code 18 = .ok (.getfield 9, 3) := by decide +kernel
theorem own_d7_21 : decode prog_7_method_5_code 21 = .ok (.iload_n 1, 1) := by decide +kernel
theorem own_d7_22 : decode prog_7_method_5_code 22 = .ok (.aaload, 1) := by decide +kernel
theorem own_d7_23 : decode prog_7_method_5_code 23 = .ok (.arraylength, 1) := by decide +kernel
theorem own_d7_24 : decode prog_7_method_5_code 24 = .ok (.ireturn, 1) := by decide +kernel
theorem own_blL_ef (m : MethodId) (o : Addr) (j : Int32) : entryFrame m #[(.ref o), (.int j)] 2 = mkF m 0 #[.val (.ref o), .val (.int j)] [] := by first | (simp [entryFrame, mkF, argsToLocals, Value.category]; done) | rfl
set_option maxRecDepth 65536 in
set_option maxHeartbeats 40000000 in
theorem own_blL (l : Launch) (Z : State) (a0 : Array Value) (hw : ∀ d ∈ tables_1, d.before a0 Z = true) (ws : List Jvm.Cond) (o : Addr) (j : Int32) (x1 : Int32) (x2 : Int32) (h0 : Heap) (n0 : Nat) (Z0 : n0 ≤ h0.size) (F1 : Fld Z h0 o "com/example/walk_to_worth/walktoworth/graph/IntSequence" "blockCount" "I" (.int x1)) (F2 : Fld Z h0 o "com/example/walk_to_worth/walktoworth/graph/IntSequence" "lastUsed" "I" (.int x2)) (hj : j = (x1 - (1 : Int32))) :
    own_Met l Z (⟨"com/example/walk_to_worth/walktoworth/graph/IntSequence", "blockLength", "(I)I"⟩ : MethodName) prog_7_method_5_code 2 (some .int) ws ({ frames := 0, cells := 0, slots := 0, locals := 0 } : Room) #[(.ref o), (.int j)] h0 (fun v h L => v = some (.int x2) ∧ Fr n0 L ∧ h = h0) := by
  refine own_enter (plainFor_of_name own_pn0) ?_
  intro p e s m below meth c s₁ X0 hx hZ hby hml hown hnm hret hlk e0
  have N0 := Fr.nil n0
  rw [own_blL_ef m o j]
  show own_Fin _ _ _ _ _ _ (s₁.setTop (mkF m 0 #[.val (.ref o), .val (.int j)] []))
  refine own_to (fun t k => XS.iloadN X0.here hx rfl (hb hby own_d7_0) rfl k) ?_
  show own_Fin _ _ _ _ _ _ (s₁.setTop (mkF m 1 #[.val (.ref o), .val (.int j)] [(.int j)]))
  refine own_to (fun t k => XS.aloadN X0.here hx rfl (hb hby own_d7_1) rfl rfl k) ?_
  show own_Fin _ _ _ _ _ _ (s₁.setTop (mkF m 2 #[.val (.ref o), .val (.int j)] [(.ref o), (.int j)]))
  obtain ⟨T105, X105, e105, st105⟩ := getF X0 hx hZ hown (host := "") (Or.inl (hw _ (List.mem_of_getElem? (i := 23) rfl))) Via.refl e0 F1 (g := (mkF m 2 #[.val (.ref o), .val (.int j)] [(.ref o), (.int j)])) rfl rfl (hb hby own_d7_2)
  refine own_to (fun t k => st105 t k) ?_
  show own_Fin _ _ _ _ _ _ (T105.setTop (mkF m 5 #[.val (.ref o), .val (.int j)] [(.int x1), (.int j)]))
  refine own_to (fun t k => XS.iconst X105.here hx rfl (hb hby own_d7_5) k) ?_
  show own_Fin _ _ _ _ _ _ (T105.setTop (mkF m 6 #[.val (.ref o), .val (.int j)] [(.int (1 : Int32)), (.int x1), (.int j)]))
  refine own_to (fun t k => XS.isub X105.here hx rfl (hb hby own_d7_6) rfl k) ?_
  show own_Fin _ _ _ _ _ _ (T105.setTop (mkF m 7 #[.val (.ref o), .val (.int j)] [(.int (x1 - (1 : Int32))), (.int j)]))
  refine own_to (fun t k => XS.icmpNo X105.here hx rfl (hb hby own_d7_7) rfl (teq hj).2 k) ?_
  show own_Fin _ _ _ _ _ _ (T105.setTop (mkF m 10 #[.val (.ref o), .val (.int j)] []))
  refine own_to (fun t k => XS.aloadN X105.here hx rfl (hb hby own_d7_10) rfl rfl k) ?_
  show own_Fin _ _ _ _ _ _ (T105.setTop (mkF m 11 #[.val (.ref o), .val (.int j)] [(.ref o)]))
  obtain ⟨T106, X106, e106, st106⟩ := getF X105 hx hZ hown (host := "") (Or.inl (hw _ (List.mem_of_getElem? (i := 38) rfl))) Via.refl e105 F2 (g := (mkF m 11 #[.val (.ref o), .val (.int j)] [(.ref o)])) rfl rfl (hb hby own_d7_11)
  refine own_to (fun t k => st106 t k) ?_
  show own_Fin _ _ _ _ _ _ (T106.setTop (mkF m 14 #[.val (.ref o), .val (.int j)] [(.int x2)]))
  refine own_to (fun t k => XS.goto X106.here hx rfl (pc0 := 14) (pc' := 24) rfl (hb hby own_d7_14) (by decide) (by decide) k) ?_
  show own_Fin _ _ _ _ _ _ (T106.setTop (mkF m 24 #[.val (.ref o), .val (.int j)] [(.int x2)]))
  refine own_retI X106 hx hlk hret (hb hby own_d7_24) (by decide) (by decide) ?_
  try rw [e106]
  exact ⟨rfl, N0, rfl⟩
theorem own_blB_ef (m : MethodId) (o : Addr) : entryFrame m #[(.ref o), (.int (0 : Int32))] 2 = mkF m 0 #[.val (.ref o), .val (.int (0 : Int32))] [] := by first | (simp [entryFrame, mkF, argsToLocals, Value.category]; done) | rfl
set_option maxRecDepth 65536 in
set_option maxHeartbeats 40000000 in
theorem own_blB (l : Launch) (Z : State) (a0 : Array Value) (hw : ∀ d ∈ tables_1, d.before a0 Z = true) (ws : List Jvm.Cond) (o : Addr) (B : Addr) (kB : ClassId) (vs : List Value) (a : Addr) (h0 : Heap) (n0 : Nat) (Z0 : n0 ≤ h0.size) (F1 : Fld Z h0 o "com/example/walk_to_worth/walktoworth/graph/IntSequence" "blockCount" "I" (.int (2 : Int32))) (F2 : Fld Z h0 o "com/example/walk_to_worth/walktoworth/graph/IntSequence" "blocks" "[[I" (.ref B)) (Vb : Arv Z h0 B kB (.array .int) (8 : Int32) vs .null) (ha : vs.getD 0 .null = .ref a) (hL : own_Len Z h0 a (16 : Int32)) (h2 : ¬ (0 : Int32) = ((2 : Int32) - (1 : Int32))) :
    own_Met l Z (⟨"com/example/walk_to_worth/walktoworth/graph/IntSequence", "blockLength", "(I)I"⟩ : MethodName) prog_7_method_5_code 2 (some .int) ws ({ frames := 0, cells := 0, slots := 0, locals := 0 } : Room) #[(.ref o), (.int (0 : Int32))] h0 (fun v h L => v = some (.int (16 : Int32)) ∧ Fr n0 L ∧ h = h0) := by
  refine own_enter (plainFor_of_name own_pn0) ?_
  intro p e s m below meth c s₁ X0 hx hZ hby hml hown hnm hret hlk e0
  have N0 := Fr.nil n0
  rw [own_blB_ef m o]
  show own_Fin _ _ _ _ _ _ (s₁.setTop (mkF m 0 #[.val (.ref o), .val (.int (0 : Int32))] []))
  refine own_to (fun t k => XS.iloadN X0.here hx rfl (hb hby own_d7_0) rfl k) ?_
  show own_Fin _ _ _ _ _ _ (s₁.setTop (mkF m 1 #[.val (.ref o), .val (.int (0 : Int32))] [(.int (0 : Int32))]))
  refine own_to (fun t k => XS.aloadN X0.here hx rfl (hb hby own_d7_1) rfl rfl k) ?_
  show own_Fin _ _ _ _ _ _ (s₁.setTop (mkF m 2 #[.val (.ref o), .val (.int (0 : Int32))] [(.ref o), (.int (0 : Int32))]))
  obtain ⟨T107, X107, e107, st107⟩ := getF X0 hx hZ hown (host := "") (Or.inl (hw _ (List.mem_of_getElem? (i := 23) rfl))) Via.refl e0 F1 (g := (mkF m 2 #[.val (.ref o), .val (.int (0 : Int32))] [(.ref o), (.int (0 : Int32))])) rfl rfl (hb hby own_d7_2)
  refine own_to (fun t k => st107 t k) ?_
  show own_Fin _ _ _ _ _ _ (T107.setTop (mkF m 5 #[.val (.ref o), .val (.int (0 : Int32))] [(.int (2 : Int32)), (.int (0 : Int32))]))
  refine own_to (fun t k => XS.iconst X107.here hx rfl (hb hby own_d7_5) k) ?_
  show own_Fin _ _ _ _ _ _ (T107.setTop (mkF m 6 #[.val (.ref o), .val (.int (0 : Int32))] [(.int (1 : Int32)), (.int (2 : Int32)), (.int (0 : Int32))]))
  refine own_to (fun t k => XS.isub X107.here hx rfl (hb hby own_d7_6) rfl k) ?_
  show own_Fin _ _ _ _ _ _ (T107.setTop (mkF m 7 #[.val (.ref o), .val (.int (0 : Int32))] [(.int ((2 : Int32) - (1 : Int32))), (.int (0 : Int32))]))
  refine own_to (fun t k => XS.icmpYes X107.here hx rfl (pc0 := 7) (pc' := 17) rfl (hb hby own_d7_7) rfl (feq h2).2 (by decide) (by decide) k) ?_
  show own_Fin _ _ _ _ _ _ (T107.setTop (mkF m 17 #[.val (.ref o), .val (.int (0 : Int32))] []))
  refine own_to (fun t k => XS.aloadN X107.here hx rfl (hb hby own_d7_17) rfl rfl k) ?_
  show own_Fin _ _ _ _ _ _ (T107.setTop (mkF m 18 #[.val (.ref o), .val (.int (0 : Int32))] [(.ref o)]))
  obtain ⟨T108, X108, e108, st108⟩ := getF X107 hx hZ hown (host := "") (Or.inl (hw _ (List.mem_of_getElem? (i := 12) rfl))) Via.refl e107 F2 (g := (mkF m 18 #[.val (.ref o), .val (.int (0 : Int32))] [(.ref o)])) rfl rfl (hb hby own_d7_18)
  refine own_to (fun t k => st108 t k) ?_
  show own_Fin _ _ _ _ _ _ (T108.setTop (mkF m 21 #[.val (.ref o), .val (.int (0 : Int32))] [(.ref B)]))
  refine own_to (fun t k => XS.iloadN X108.here hx rfl (hb hby own_d7_21) rfl k) ?_
  show own_Fin _ _ _ _ _ _ (T108.setTop (mkF m 22 #[.val (.ref o), .val (.int (0 : Int32))] [(.int (0 : Int32)), (.ref B)]))
  obtain ⟨cl109, Ar109, qa109, Sa109, Na109, Ha109, Ga109⟩ := id Vb
  have hin110 : ¬ ((0 : Int32) < 0 ∨ cl109.slots.size ≤ ((0 : Int32)).toNatClampNeg) := inb_of Sa109 ⟨by decide, by decide⟩
  refine own_to (fun t k => X108.aaload hx (j := (0 : Int32)) (v := (.ref a)) (by rw [e108]; exact Ar109.1) (State.isArrayOf_alike hZ.alike Ar109.2.1) rfl Ar109.2.2 hin110 (Has.at Ha109 hin110 ha) (g := (mkF m 22 #[.val (.ref o), .val (.int (0 : Int32))] [(.int (0 : Int32)), (.ref B)])) rfl rfl (hb hby own_d7_22) _ k) ?_
  show own_Fin _ _ _ _ _ _ (T108.setTop (mkF m 23 #[.val (.ref o), .val (.int (0 : Int32))] [(.ref a)]))
  obtain ⟨cl111, Ar111, Sa111, Na111⟩ := id hL
  refine own_to (fun t k => X108.arraylength hx (by rw [e108]; exact Ar111.1) (State.isArrayOf_alike hZ.alike Ar111.2.1) (g := (mkF m 23 #[.val (.ref o), .val (.int (0 : Int32))] [(.ref a)])) rfl rfl (hb hby own_d7_23) _ k) ?_
  rw [len_of Sa111 Na111]
  show own_Fin _ _ _ _ _ _ (T108.setTop (mkF m 24 #[.val (.ref o), .val (.int (0 : Int32))] [(.int (16 : Int32))]))
  refine own_retI X108 hx hlk hret (hb hby own_d7_24) (by decide) (by decide) ?_
  try rw [e108]
  exact ⟨rfl, N0, rfl⟩
theorem own_n (p : Int32) : ¬ ((p &&& (2147483647 : Int32)) - (((p &&& (2147483647 : Int32)) / (19 : Int32)) * (19 : Int32))) < 0 ∧ ((p &&& (2147483647 : Int32)) - (((p &&& (2147483647 : Int32)) / (19 : Int32)) * (19 : Int32))) < (19 : Int32) := by
  have e : (p &&& (2147483647 : Int32)).toInt = p.toInt % 2 ^ 31 := Jvm.Kit.i32_mask p 2147483647 (k := 31) (by decide) (by decide)
  generalize p &&& (2147483647 : Int32) = x at *
  have h0 : 0 ≤ x.toInt := by omega
  have hx := x.toInt_lt
  have h19 : (19 : Int32).toInt = 19 := by decide
  have ed : (x / 19).toInt = x.toInt / 19 := by rw [Jvm.Kit.i32_div (by rw [h19]; omega), h19, Int.tdiv_eq_ediv_of_nonneg h0]
  have em : ((x / 19) * 19).toInt = x.toInt / 19 * 19 := by rw [Jvm.Kit.i32_mul (by rw [ed, h19]; omega) (by rw [ed, h19]; omega), ed, h19]
  have er : (x - (x / 19) * 19).toInt = x.toInt - x.toInt / 19 * 19 := by rw [Jvm.Kit.i32_sub (by rw [em]; omega) (by rw [em]; omega), em]
  rw [own_lt32, own_lt32, er, h19, Int32.toInt_zero]
  omega
theorem own_p0 {n : Int32} (h : ¬ n = 0) (h0 : ¬ n < 0) : (0 : Int32) < n := by
  rw [own_lt32] at h0 ⊢; have : n.toInt ≠ 0 := fun q => h (Int32.toInt_inj.mp q)
  rw [Int32.toInt_zero] at *; omega
theorem own_16 {n : Int32} (h : (16 : Int32) < n) : ¬ n = 0 ∧ (0 : Int32) < n := by
  rw [own_lt32, show (16 : Int32).toInt = 16 from by decide] at h
  refine ⟨fun q => ?_, by rw [own_lt32, Int32.toInt_zero]; omega⟩
  subst q; rw [Int32.toInt_zero] at h; omega
theorem own_pd3 : parseMethodDescriptor "(Lcom/example/walk_to_worth/walktoworth/graph/IntSequence;II)V" = some ⟨[(.object "com/example/walk_to_worth/walktoworth/graph/IntSequence"), .int, .int], none⟩ := by decide +kernel
theorem own_pd4 : parseMethodDescriptor "()I" = some ⟨[], some .int⟩ := by decide +kernel
theorem own_pd5 : parseMethodDescriptor "(I)I" = some ⟨[.int], some .int⟩ := by decide +kernel
theorem own_rm0_ef (m : MethodId) (p1 : Int32) (p2 : Int32) : entryFrame m #[(.int p1), (.int p2)] maxLocals = mkF m 0 #[.val (.int p1), .val (.int p2), .unset, .unset, .unset] [] := by first | (simp [entryFrame, mkF, argsToLocals, Value.category, maxLocals]; done) | rfl
set_option maxRecDepth 65536 in
set_option maxHeartbeats 40000000 in
theorem own_rm0 (l : Launch) (Z : State) (a0 : Array Value) (hw : ∀ d ∈ tables_1, d.before a0 Z = true) (ws : List Jvm.Cond) (p1 : Int32) (p2 : Int32) (h0 : Heap) (n0 : Nat) (Z0 : n0 ≤ h0.size) :
    own_Met l Z x code maxLocals ret ws room_1 #[(.int p1), (.int p2)] h0 (fun v h L => v = some (.int 1) ∧ Fr n0 L) := by
  refine own_enter (plainFor_of_name own_pn1) ?_
  intro p e s m below meth c s₁ X0 hx hZ hby hml hown hnm hret hlk e0
  have N0 := Fr.nil n0
  rw [own_rm0_ef m p1 p2]
  show own_Fin _ _ _ _ _ _ (s₁.setTop (mkF m 0 #[.val (.int p1), .val (.int p2), .unset, .unset, .unset] []))
  refine own_to (fun t k => XS.iloadN X0.here hx rfl (hb hby at_0) rfl k) ?_
  show own_Fin _ _ _ _ _ _ (s₁.setTop (mkF m 1 #[.val (.int p1), .val (.int p2), .unset, .unset, .unset] [(.int p1)]))
  refine own_to (fun t k => X0.ldcInt hx hown (mvT hZ (hw _ (List.mem_of_getElem? (i := 0) rfl))) (g := (mkF m 1 #[.val (.int p1), .val (.int p2), .unset, .unset, .unset] [(.int p1)])) rfl (hb hby at_1) _ k) ?_
  show own_Fin _ _ _ _ _ _ (s₁.setTop (mkF m 3 #[.val (.int p1), .val (.int p2), .unset, .unset, .unset] [(.int (2147483647 : Int32)), (.int p1)]))
  refine own_to (fun t k => XS.iand X0.here hx rfl (hb hby at_3) rfl k) ?_
  show own_Fin _ _ _ _ _ _ (s₁.setTop (mkF m 4 #[.val (.int p1), .val (.int p2), .unset, .unset, .unset] [(.int (p1 &&& (2147483647 : Int32)))]))
  refine own_to (fun t k => XS.bipush X0.here hx rfl (hb hby at_4) k) ?_
  show own_Fin _ _ _ _ _ _ (s₁.setTop (mkF m 6 #[.val (.int p1), .val (.int p2), .unset, .unset, .unset] [(.int (19 : Int32)), (.int (p1 &&& (2147483647 : Int32)))]))
  refine own_to (fun t k => XS.irem X0.here hx rfl (hb hby at_6) rfl (by decide) k) ?_
  show own_Fin _ _ _ _ _ _ (s₁.setTop (mkF m 7 #[.val (.int p1), .val (.int p2), .unset, .unset, .unset] [(.int ((p1 &&& (2147483647 : Int32)) - (((p1 &&& (2147483647 : Int32)) / (19 : Int32)) * (19 : Int32))))]))
  refine own_to (fun t k => XS.istoreN X0.here hx rfl (hb hby at_7) rfl (l' := #[.val (.int p1), .val (.int p2), .val (.int ((p1 &&& (2147483647 : Int32)) - (((p1 &&& (2147483647 : Int32)) / (19 : Int32)) * (19 : Int32)))), .unset, .unset]) rfl k) ?_
  show own_Fin _ _ _ _ _ _ (s₁.setTop (mkF m 8 #[.val (.int p1), .val (.int p2), .val (.int ((p1 &&& (2147483647 : Int32)) - (((p1 &&& (2147483647 : Int32)) / (19 : Int32)) * (19 : Int32)))), .unset, .unset] []))
  have hn := own_n p1
  obtain ⟨n, en⟩ : ∃ n, n = ((p1 &&& (2147483647 : Int32)) - (((p1 &&& (2147483647 : Int32)) / (19 : Int32)) * (19 : Int32))) := ⟨_, rfl⟩
  rw [← en] at hn ⊢
  show own_Fin _ _ _ _ _ _ (s₁.setTop (mkF m 8 #[.val (.int p1), .val (.int p2), .val (.int n), .unset, .unset] []))
  obtain ⟨T112, h112, X112, e112, E112, A112, D112, U112, st112⟩ := newO X0 hx hZ hown (hw _ (List.mem_of_getElem? (i := 1) rfl)) (hw _ (List.mem_of_getElem? (i := 2) rfl)) (hw _ (List.mem_of_getElem? (i := 3) rfl)) e0 (g := (mkF m 8 #[.val (.int p1), .val (.int p2), .val (.int n), .unset, .unset] [])) rfl (hb hby at_8) (by decide) (by decide)
  obtain ⟨o, q112⟩ : ∃ z, z = h0.size := ⟨_, rfl⟩
  rw [← q112] at A112 D112 U112 st112
  have g_o : n0 ≤ o := Nat.le_trans Z0 (Nat.le_of_eq q112.symm)
  have Fnblocks_112 : Fld Z h112 o "com/example/walk_to_worth/walktoworth/graph/IntSequence" "blocks" "[[I" .null := D112 (Or.inl (hw _ (List.mem_of_getElem? (i := 13) rfl))) (ty := (.array (.array .int))) (by decide)
  have FnblockCount_112 : Fld Z h112 o "com/example/walk_to_worth/walktoworth/graph/IntSequence" "blockCount" "I" (.int (0 : Int32)) := D112 (Or.inl (hw _ (List.mem_of_getElem? (i := 24) rfl))) (ty := .int) (by decide)
  have Fnlast_112 : Fld Z h112 o "com/example/walk_to_worth/walktoworth/graph/IntSequence" "last" "[I" .null := D112 (Or.inl (hw _ (List.mem_of_getElem? (i := 31) rfl))) (ty := (.array .int)) (by decide)
  have FnlastUsed_112 : Fld Z h112 o "com/example/walk_to_worth/walktoworth/graph/IntSequence" "lastUsed" "I" (.int (0 : Int32)) := D112 (Or.inl (hw _ (List.mem_of_getElem? (i := 39) rfl))) (ty := .int) (by decide)
  refine own_to (fun t k => st112 t k) ?_
  show own_Fin _ _ _ _ _ _ (T112.setTop (mkF m 11 #[.val (.int p1), .val (.int p2), .val (.int n), .unset, .unset] [(.ref o)]))
  refine own_to (fun t k => XS.dup X112.here hx rfl (hb hby at_11) rfl rfl k) ?_
  show own_Fin _ _ _ _ _ _ (T112.setTop (mkF m 12 #[.val (.int p1), .val (.int p2), .val (.int n), .unset, .unset] [(.ref o), (.ref o)]))
  obtain ⟨_, _, ⟨T113, L113, k113, n113⟩, -, X113, ⟨Lc113, hQ113, l113, y113, z113⟩, st113⟩ := X112.specialBack hx (y := (⟨"com/example/walk_to_worth/walktoworth/graph/IntSequence", "<init>", "()V"⟩ : MethodName)) rfl hown (mvT hZ (hw _ (List.mem_of_getElem? (i := 4) rfl))) (mvT hZ (hw _ (List.mem_of_getElem? (i := 5) rfl))) (mvT hZ (hw _ (List.mem_of_getElem? (i := 6) rfl))) (by decide) (own_back (W := 1) (own_rm1 l Z a0 hw [] o h112 n0 (Nat.le_trans Z0 E112.1) A112 Fnblocks_112 FnblockCount_112 Fnlast_112 FnlastUsed_112 g_o) hZ (hw _ (List.mem_of_getElem? (i := 6) rfl)) (hw _ (List.mem_of_getElem? (i := 3) rfl)) (by decide) (by decide)) (g := (mkF m 12 #[.val (.int p1), .val (.int p2), .val (.int n), .unset, .unset] [(.ref o), (.ref o)])) rfl (by rw [hml]; rfl) (Steps.refl _) (a := o) (argsL := []) (rest := [(.ref o)]) (lenOf own_pd0 rfl) rfl (by show 2 * 0 + _ ≤ _; exact Nat.le_of_eq rfl) (hb hby at_12) (fun _ _ => ⟨rfl, e112, (by decide : 1 + 1 ≤ _), (by decide : 4 + 8 ≤ _)⟩)
  dsimp only [Pt.U, Pt.locs, Pt.cells, Pt.slots] at X113 l113 y113 z113 st113 hQ113
  subst l113 y113 z113
  obtain ⟨B, kB, rfl, N113q, K113, g_B, szx_B, hO, hS⟩ := hQ113
  have N113 := Fr.app N0 N113q
  have ne_o_B : o ≠ B := Nat.ne_of_lt (Nat.lt_of_lt_of_le A112.lt szx_B)
  have A112_e113 := A112.keep K113
  refine own_to (fun t k => st113.trans k) ?_
  show own_Fin _ _ _ _ _ _ (T113.setTop (mkF m 15 #[.val (.int p1), .val (.int p2), .val (.int n), .unset, .unset] [(.ref o)]))
  refine own_to (fun t k => XS.astoreN X113.here hx rfl (hb hby at_15) rfl rfl (l' := #[.val (.int p1), .val (.int p2), .val (.int n), .val (.ref o), .unset]) rfl k) ?_
  show own_Fin _ _ _ _ _ _ (T113.setTop (mkF m 16 #[.val (.int p1), .val (.int p2), .val (.int n), .val (.ref o), .unset] []))
  refine own_to (fun t k => XS.aloadN X113.here hx rfl (hb hby at_16) rfl rfl k) ?_
  show own_Fin _ _ _ _ _ _ (T113.setTop (mkF m 17 #[.val (.int p1), .val (.int p2), .val (.int n), .val (.ref o), .unset] [(.ref o)]))
  refine own_to (fun t k => XS.iloadN X113.here hx rfl (hb hby at_17) rfl k) ?_
  show own_Fin _ _ _ _ _ _ (T113.setTop (mkF m 18 #[.val (.int p1), .val (.int p2), .val (.int n), .val (.ref o), .unset] [(.int n), (.ref o)]))
  refine own_to (fun t k => XS.iloadN X113.here hx rfl (hb hby at_18) rfl k) ?_
  show own_Fin _ _ _ _ _ _ (T113.setTop (mkF m 19 #[.val (.int p1), .val (.int p2), .val (.int n), .val (.ref o), .unset] [(.int p2), (.int n), (.ref o)]))
  obtain ⟨_, _, ⟨T114, L114, k114, n114⟩, -, X114, ⟨Lc114, hQ114, l114, y114, z114⟩, st114⟩ := Jvm.LawKit.callS X113 hx (y := (⟨"com/example/walk_to_worth/walktoworth/graph/IntSequenceBlockLengthPinLaw", "fill", "(Lcom/example/walk_to_worth/walktoworth/graph/IntSequence;II)V"⟩ : MethodName)) hown (mvT hZ (hw _ (List.mem_of_getElem? (i := 14) rfl))) (mvT hZ (hw _ (List.mem_of_getElem? (i := 15) rfl))) (mvT hZ (hw _ (List.mem_of_getElem? (i := 16) rfl))) (mvT hZ (hw _ (List.mem_of_getElem? (i := 17) rfl))) (by decide) (own_back (W := 0) (own_rm3 l Z a0 hw [] o B kB n p2 T113.heap n0 (Nat.le_trans (Nat.le_trans Z0 E112.1) K113.1) g_o g_B ne_o_B hO hS hn.1 hn.2) hZ (hw _ (List.mem_of_getElem? (i := 17) rfl)) (hw _ (List.mem_of_getElem? (i := 16) rfl)) (by decide) (by decide)) (g := (mkF m 19 #[.val (.int p1), .val (.int p2), .val (.int n), .val (.ref o), .unset] [(.int p2), (.int n), (.ref o)])) rfl (by rw [hml]; rfl) (argsL := [(.ref o), (.int n), (.int p2)]) (rest := []) (lenOf own_pd3 rfl) rfl (by show 2 * 0 + _ ≤ _; exact Nat.le_of_eq rfl) (hb hby at_19) (fun _ _ => ⟨rfl, rfl, (by decide : 2 + 2 ≤ _), (by decide : 12 + 48 ≤ _)⟩)
  dsimp only [Pt.U, Pt.locs, Pt.cells, Pt.slots] at X114 l114 y114 z114 st114 hQ114
  subst l114 y114 z114
  obtain ⟨lv, vs, rfl, N114q, K114, hS2, hL⟩ := hQ114
  have N114 := Fr.app N113 N114q
  have A112_e114 := A112_e113.keep K114
  refine own_to (fun t k => st114 t k) ?_
  show own_Fin _ _ _ _ _ _ (T114.setTop (mkF m 22 #[.val (.int p1), .val (.int p2), .val (.int n), .val (.ref o), .unset] []))
  by_cases hf115 : n = (0 : Int32)
  ·
    show own_Fin _ _ _ _ _ _ (T114.setTop (mkF m 22 #[.val (.int p1), .val (.int p2), .val (.int n), .val (.ref o), .unset] []))
    have hp : ¬ (0 : Int32) < n := by rw [hf115]; decide
    have hq : ¬ (16 : Int32) < n := by rw [hf115]; decide
    rw [show own_bc n = (0 : Int32) from if_pos hf115, show own_lu n = n from if_neg hq] at hS2
    obtain ⟨Es, Fb, Fc, Fl, Fu, Vb⟩ := hS2
    refine own_to (fun t k => XS.iloadN X114.here hx rfl (hb hby at_22) rfl k) ?_
    show own_Fin _ _ _ _ _ _ (T114.setTop (mkF m 23 #[.val (.int p1), .val (.int p2), .val (.int n), .val (.ref o), .unset] [(.int n)]))
    refine own_to (fun t k => XS.ifNo X114.here hx rfl (hb hby at_23) rfl ((if0 _ _).trans (teq hf115).2) k) ?_
    show own_Fin _ _ _ _ _ _ (T114.setTop (mkF m 26 #[.val (.int p1), .val (.int p2), .val (.int n), .val (.ref o), .unset] []))
    refine own_to (fun t k => XS.iconst X114.here hx rfl (hb hby at_26) k) ?_
    show own_Fin _ _ _ _ _ _ (T114.setTop (mkF m 27 #[.val (.int p1), .val (.int p2), .val (.int n), .val (.ref o), .unset] [(.int (0 : Int32))]))
    refine own_to (fun t k => XS.goto X114.here hx rfl (pc0 := 27) (pc' := 41) rfl (hb hby at_27) (by decide) (by decide) k) ?_
    show own_Fin _ _ _ _ _ _ (T114.setTop (mkF m 41 #[.val (.int p1), .val (.int p2), .val (.int n), .val (.ref o), .unset] [(.int (0 : Int32))]))
    refine own_to (fun t k => XS.istore X114.here hx rfl (hb hby at_41) rfl (l' := #[.val (.int p1), .val (.int p2), .val (.int n), .val (.ref o), .val (.int (0 : Int32))]) rfl k) ?_
    show own_Fin _ _ _ _ _ _ (T114.setTop (mkF m 43 #[.val (.int p1), .val (.int p2), .val (.int n), .val (.ref o), .val (.int (0 : Int32))] []))
    refine own_to (fun t k => XS.aloadN X114.here hx rfl (hb hby at_43) rfl rfl k) ?_
    show own_Fin _ _ _ _ _ _ (T114.setTop (mkF m 44 #[.val (.int p1), .val (.int p2), .val (.int n), .val (.ref o), .val (.int (0 : Int32))] [(.ref o)]))
    obtain ⟨cq116, kq116, q116a, q116b, q116c⟩ := isOf hZ rfl Es
    obtain ⟨_, _, ⟨T116, L116, k116, n116⟩, -, X116, ⟨Lc116, hQ116, l116, y116, z116⟩, st116⟩ := X114.virtualBack hx (y := (⟨"com/example/walk_to_worth/walktoworth/graph/IntSequence", "blockCount", "()I"⟩ : MethodName)) (z := (⟨"com/example/walk_to_worth/walktoworth/graph/IntSequence", "blockCount", "()I"⟩ : MethodName)) hown (mvT hZ (hw _ (List.mem_of_getElem? (i := 18) rfl))) (mvT hZ (hw _ (List.mem_of_getElem? (i := 19) rfl))) (notFace_of_selects (args := #[]) (mvT hZ (hw _ (List.mem_of_getElem? (i := 21) rfl)))) (mvT hZ (hw _ (List.mem_of_getElem? (i := 21) rfl))) (mvT hZ (hw _ (List.mem_of_getElem? (i := 20) rfl))) (by decide) (own_back (W := 0) (own_rm4 l Z a0 hw [] o (0 : Int32) T114.heap n0 (Nat.le_trans (Nat.le_trans (Nat.le_trans Z0 E112.1) K113.1) K114.1) Fc) hZ (hw _ (List.mem_of_getElem? (i := 22) rfl)) (hw _ (List.mem_of_getElem? (i := 3) rfl)) (by decide) (by decide)) q116a q116c (g := (mkF m 44 #[.val (.int p1), .val (.int p2), .val (.int n), .val (.ref o), .val (.int (0 : Int32))] [(.ref o)])) rfl (by rw [hml]; rfl) (Steps.refl _) (argsL := []) (rest := []) (lenOf own_pd4 rfl) rfl (by show 2 * 0 + _ ≤ _; exact Nat.le_of_eq rfl) (hb hby at_44) (fun _ _ => ⟨rfl, rfl, (by decide : 4 + 0 ≤ _), (by decide : 60 + 0 ≤ _)⟩)
    dsimp only [Pt.U, Pt.locs, Pt.cells, Pt.slots] at X116 l116 y116 z116 st116 hQ116
    subst l116 y116 z116
    obtain ⟨rfl, N116q, eh116⟩ := hQ116
    have N116 := Fr.app N114 N116q
    refine own_to (fun t k => st116.trans k) ?_
    show own_Fin _ _ _ _ _ _ (T116.setTop (mkF m 47 #[.val (.int p1), .val (.int p2), .val (.int n), .val (.ref o), .val (.int (0 : Int32))] [(.int (0 : Int32))]))
    refine own_to (fun t k => XS.iload X116.here hx rfl (hb hby at_47) rfl k) ?_
    show own_Fin _ _ _ _ _ _ (T116.setTop (mkF m 49 #[.val (.int p1), .val (.int p2), .val (.int n), .val (.ref o), .val (.int (0 : Int32))] [(.int (0 : Int32)), (.int (0 : Int32))]))
    refine own_to (fun t k => XS.icmpYes X116.here hx rfl (pc0 := 49) (pc' := 54) rfl (hb hby at_49) rfl (teq rfl).1 (by decide) (by decide) k) ?_
    show own_Fin _ _ _ _ _ _ (T116.setTop (mkF m 54 #[.val (.int p1), .val (.int p2), .val (.int n), .val (.ref o), .val (.int (0 : Int32))] []))
    refine own_to (fun t k => XS.iloadN X116.here hx rfl (hb hby at_54) rfl k) ?_
    show own_Fin _ _ _ _ _ _ (T116.setTop (mkF m 55 #[.val (.int p1), .val (.int p2), .val (.int n), .val (.ref o), .val (.int (0 : Int32))] [(.int n)]))
    refine own_to (fun t k => XS.ifYes X116.here hx rfl (pc0 := 55) (pc' := 74) rfl (hb hby at_55) rfl ((if0 _ _).trans (flt hp).2.2.2) (by decide) (by decide) k) ?_
    show own_Fin _ _ _ _ _ _ (T116.setTop (mkF m 74 #[.val (.int p1), .val (.int p2), .val (.int n), .val (.ref o), .val (.int (0 : Int32))] []))
    refine own_to (fun t k => XS.iloadN X116.here hx rfl (hb hby at_74) rfl k) ?_
    show own_Fin _ _ _ _ _ _ (T116.setTop (mkF m 75 #[.val (.int p1), .val (.int p2), .val (.int n), .val (.ref o), .val (.int (0 : Int32))] [(.int n)]))
    refine own_to (fun t k => XS.bipush X116.here hx rfl (hb hby at_75) k) ?_
    show own_Fin _ _ _ _ _ _ (T116.setTop (mkF m 77 #[.val (.int p1), .val (.int p2), .val (.int n), .val (.ref o), .val (.int (0 : Int32))] [(.int (16 : Int32)), (.int n)]))
    refine own_to (fun t k => XS.icmpYes X116.here hx rfl (pc0 := 77) (pc' := 94) rfl (hb hby at_77) rfl (flt hq).2.2.2 (by decide) (by decide) k) ?_
    show own_Fin _ _ _ _ _ _ (T116.setTop (mkF m 94 #[.val (.int p1), .val (.int p2), .val (.int n), .val (.ref o), .val (.int (0 : Int32))] []))
    refine own_to (fun t k => XS.iconst X116.here hx rfl (hb hby at_94) k) ?_
    show own_Fin _ _ _ _ _ _ (T116.setTop (mkF m 95 #[.val (.int p1), .val (.int p2), .val (.int n), .val (.ref o), .val (.int (0 : Int32))] [(.int (1 : Int32))]))
    refine own_retN X116 hx hlk (t := .boolean) hret (by simp) (hb hby at_95) (by decide) (by decide) ?_
    try rw [eh116]
    exact ⟨rfl, N116⟩
  ·
    show own_Fin _ _ _ _ _ _ (T114.setTop (mkF m 22 #[.val (.int p1), .val (.int p2), .val (.int n), .val (.ref o), .unset] []))
    by_cases hf117 : (16 : Int32) < n
    ·
      show own_Fin _ _ _ _ _ _ (T114.setTop (mkF m 22 #[.val (.int p1), .val (.int p2), .val (.int n), .val (.ref o), .unset] []))
      have hp := (own_16 hf117).2
      rw [show own_bc n = (2 : Int32) from (if_neg hf115).trans (if_pos hf117), show own_lu n = (n - (16 : Int32)) from if_pos hf117] at hS2
      obtain ⟨Es, Fb, Fc, Fl, Fu, Vb⟩ := hS2
      obtain ⟨a, ha, hLa⟩ := hL hf117
      refine own_to (fun t k => XS.iloadN X114.here hx rfl (hb hby at_22) rfl k) ?_
      show own_Fin _ _ _ _ _ _ (T114.setTop (mkF m 23 #[.val (.int p1), .val (.int p2), .val (.int n), .val (.ref o), .unset] [(.int n)]))
      refine own_to (fun t k => XS.ifYes X114.here hx rfl (pc0 := 23) (pc' := 30) rfl (hb hby at_23) rfl ((if0 _ _).trans (feq hf115).2) (by decide) (by decide) k) ?_
      show own_Fin _ _ _ _ _ _ (T114.setTop (mkF m 30 #[.val (.int p1), .val (.int p2), .val (.int n), .val (.ref o), .unset] []))
      refine own_to (fun t k => XS.iloadN X114.here hx rfl (hb hby at_30) rfl k) ?_
      show own_Fin _ _ _ _ _ _ (T114.setTop (mkF m 31 #[.val (.int p1), .val (.int p2), .val (.int n), .val (.ref o), .unset] [(.int n)]))
      refine own_to (fun t k => XS.bipush X114.here hx rfl (hb hby at_31) k) ?_
      show own_Fin _ _ _ _ _ _ (T114.setTop (mkF m 33 #[.val (.int p1), .val (.int p2), .val (.int n), .val (.ref o), .unset] [(.int (16 : Int32)), (.int n)]))
      refine own_to (fun t k => XS.icmpYes X114.here hx rfl (pc0 := 33) (pc' := 40) rfl (hb hby at_33) rfl (tlt hf117).2.2.1 (by decide) (by decide) k) ?_
      show own_Fin _ _ _ _ _ _ (T114.setTop (mkF m 40 #[.val (.int p1), .val (.int p2), .val (.int n), .val (.ref o), .unset] []))
      refine own_to (fun t k => XS.iconst X114.here hx rfl (hb hby at_40) k) ?_
      show own_Fin _ _ _ _ _ _ (T114.setTop (mkF m 41 #[.val (.int p1), .val (.int p2), .val (.int n), .val (.ref o), .unset] [(.int (2 : Int32))]))
      refine own_to (fun t k => XS.istore X114.here hx rfl (hb hby at_41) rfl (l' := #[.val (.int p1), .val (.int p2), .val (.int n), .val (.ref o), .val (.int (2 : Int32))]) rfl k) ?_
      show own_Fin _ _ _ _ _ _ (T114.setTop (mkF m 43 #[.val (.int p1), .val (.int p2), .val (.int n), .val (.ref o), .val (.int (2 : Int32))] []))
      refine own_to (fun t k => XS.aloadN X114.here hx rfl (hb hby at_43) rfl rfl k) ?_
      show own_Fin _ _ _ _ _ _ (T114.setTop (mkF m 44 #[.val (.int p1), .val (.int p2), .val (.int n), .val (.ref o), .val (.int (2 : Int32))] [(.ref o)]))
      obtain ⟨cq118, kq118, q118a, q118b, q118c⟩ := isOf hZ rfl Es
      obtain ⟨_, _, ⟨T118, L118, k118, n118⟩, -, X118, ⟨Lc118, hQ118, l118, y118, z118⟩, st118⟩ := X114.virtualBack hx (y := (⟨"com/example/walk_to_worth/walktoworth/graph/IntSequence", "blockCount", "()I"⟩ : MethodName)) (z := (⟨"com/example/walk_to_worth/walktoworth/graph/IntSequence", "blockCount", "()I"⟩ : MethodName)) hown (mvT hZ (hw _ (List.mem_of_getElem? (i := 18) rfl))) (mvT hZ (hw _ (List.mem_of_getElem? (i := 19) rfl))) (notFace_of_selects (args := #[]) (mvT hZ (hw _ (List.mem_of_getElem? (i := 21) rfl)))) (mvT hZ (hw _ (List.mem_of_getElem? (i := 21) rfl))) (mvT hZ (hw _ (List.mem_of_getElem? (i := 20) rfl))) (by decide) (own_back (W := 0) (own_rm4 l Z a0 hw [] o (2 : Int32) T114.heap n0 (Nat.le_trans (Nat.le_trans (Nat.le_trans Z0 E112.1) K113.1) K114.1) Fc) hZ (hw _ (List.mem_of_getElem? (i := 22) rfl)) (hw _ (List.mem_of_getElem? (i := 3) rfl)) (by decide) (by decide)) q118a q118c (g := (mkF m 44 #[.val (.int p1), .val (.int p2), .val (.int n), .val (.ref o), .val (.int (2 : Int32))] [(.ref o)])) rfl (by rw [hml]; rfl) (Steps.refl _) (argsL := []) (rest := []) (lenOf own_pd4 rfl) rfl (by show 2 * 0 + _ ≤ _; exact Nat.le_of_eq rfl) (hb hby at_44) (fun _ _ => ⟨rfl, rfl, (by decide : 4 + 0 ≤ _), (by decide : 60 + 0 ≤ _)⟩)
      dsimp only [Pt.U, Pt.locs, Pt.cells, Pt.slots] at X118 l118 y118 z118 st118 hQ118
      subst l118 y118 z118
      obtain ⟨rfl, N118q, eh118⟩ := hQ118
      have N118 := Fr.app N114 N118q
      refine own_to (fun t k => st118.trans k) ?_
      show own_Fin _ _ _ _ _ _ (T118.setTop (mkF m 47 #[.val (.int p1), .val (.int p2), .val (.int n), .val (.ref o), .val (.int (2 : Int32))] [(.int (2 : Int32))]))
      refine own_to (fun t k => XS.iload X118.here hx rfl (hb hby at_47) rfl k) ?_
      show own_Fin _ _ _ _ _ _ (T118.setTop (mkF m 49 #[.val (.int p1), .val (.int p2), .val (.int n), .val (.ref o), .val (.int (2 : Int32))] [(.int (2 : Int32)), (.int (2 : Int32))]))
      refine own_to (fun t k => XS.icmpYes X118.here hx rfl (pc0 := 49) (pc' := 54) rfl (hb hby at_49) rfl (teq rfl).1 (by decide) (by decide) k) ?_
      show own_Fin _ _ _ _ _ _ (T118.setTop (mkF m 54 #[.val (.int p1), .val (.int p2), .val (.int n), .val (.ref o), .val (.int (2 : Int32))] []))
      refine own_to (fun t k => XS.iloadN X118.here hx rfl (hb hby at_54) rfl k) ?_
      show own_Fin _ _ _ _ _ _ (T118.setTop (mkF m 55 #[.val (.int p1), .val (.int p2), .val (.int n), .val (.ref o), .val (.int (2 : Int32))] [(.int n)]))
      refine own_to (fun t k => XS.ifNo X118.here hx rfl (hb hby at_55) rfl ((if0 _ _).trans (tlt hp).2.2.2) k) ?_
      show own_Fin _ _ _ _ _ _ (T118.setTop (mkF m 58 #[.val (.int p1), .val (.int p2), .val (.int n), .val (.ref o), .val (.int (2 : Int32))] []))
      refine own_to (fun t k => XS.aloadN X118.here hx rfl (hb hby at_58) rfl rfl k) ?_
      show own_Fin _ _ _ _ _ _ (T118.setTop (mkF m 59 #[.val (.int p1), .val (.int p2), .val (.int n), .val (.ref o), .val (.int (2 : Int32))] [(.ref o)]))
      refine own_to (fun t k => XS.iconst X118.here hx rfl (hb hby at_59) k) ?_
      show own_Fin _ _ _ _ _ _ (T118.setTop (mkF m 60 #[.val (.int p1), .val (.int p2), .val (.int n), .val (.ref o), .val (.int (2 : Int32))] [(.int (0 : Int32)), (.ref o)]))
      obtain ⟨cq119, kq119, q119a, q119b, q119c⟩ := isOf hZ eh118 Es
      obtain ⟨_, _, ⟨T119, L119, k119, n119⟩, -, X119, ⟨Lc119, hQ119, l119, y119, z119⟩, st119⟩ := X118.virtualBack hx (y := (⟨"com/example/walk_to_worth/walktoworth/graph/IntSequence", "blockLength", "(I)I"⟩ : MethodName)) (z := (⟨"com/example/walk_to_worth/walktoworth/graph/IntSequence", "blockLength", "(I)I"⟩ : MethodName)) hown (mvT hZ (hw _ (List.mem_of_getElem? (i := 40) rfl))) (mvT hZ (hw _ (List.mem_of_getElem? (i := 41) rfl))) (notFace_of_selects (args := #[]) (mvT hZ (hw _ (List.mem_of_getElem? (i := 43) rfl)))) (mvT hZ (hw _ (List.mem_of_getElem? (i := 43) rfl))) (mvT hZ (hw _ (List.mem_of_getElem? (i := 42) rfl))) (by decide) (own_back (W := 0) (own_blB l Z a0 hw [] o B kB vs a T114.heap n0 (Nat.le_trans (Nat.le_trans (Nat.le_trans Z0 E112.1) K113.1) K114.1) Fc Fb Vb ha hLa (by decide)) hZ (hw _ (List.mem_of_getElem? (i := 44) rfl)) (hw _ (List.mem_of_getElem? (i := 3) rfl)) (by decide) (by decide)) q119a q119c (g := (mkF m 60 #[.val (.int p1), .val (.int p2), .val (.int n), .val (.ref o), .val (.int (2 : Int32))] [(.int (0 : Int32)), (.ref o)])) rfl (by rw [hml]; rfl) (Steps.refl _) (argsL := [(.int (0 : Int32))]) (rest := []) (lenOf own_pd5 rfl) rfl (by show 2 * 0 + _ ≤ _; exact Nat.le_of_eq rfl) (hb hby at_60) (fun _ _ => ⟨rfl, eh118, (by decide : 4 + 0 ≤ _), (by decide : 60 + 0 ≤ _)⟩)
      dsimp only [Pt.U, Pt.locs, Pt.cells, Pt.slots] at X119 l119 y119 z119 st119 hQ119
      subst l119 y119 z119
      obtain ⟨rfl, N119q, eh119⟩ := hQ119
      have N119 := Fr.app N118 N119q
      refine own_to (fun t k => st119.trans k) ?_
      show own_Fin _ _ _ _ _ _ (T119.setTop (mkF m 63 #[.val (.int p1), .val (.int p2), .val (.int n), .val (.ref o), .val (.int (2 : Int32))] [(.int (16 : Int32))]))
      refine own_to (fun t k => XS.iloadN X119.here hx rfl (hb hby at_63) rfl k) ?_
      show own_Fin _ _ _ _ _ _ (T119.setTop (mkF m 64 #[.val (.int p1), .val (.int p2), .val (.int n), .val (.ref o), .val (.int (2 : Int32))] [(.int n), (.int (16 : Int32))]))
      refine own_to (fun t k => XS.bipush X119.here hx rfl (hb hby at_64) k) ?_
      show own_Fin _ _ _ _ _ _ (T119.setTop (mkF m 66 #[.val (.int p1), .val (.int p2), .val (.int n), .val (.ref o), .val (.int (2 : Int32))] [(.int (16 : Int32)), (.int n), (.int (16 : Int32))]))
      obtain ⟨_, _, ⟨T120, L120, k120, n120⟩, -, X120, ⟨Lc120, hQ120, l120, y120, z120⟩, st120⟩ := Jvm.LawKit.callS X119 hx (y := (⟨"java/lang/Math", "min", "(II)I"⟩ : MethodName)) hown (mvT hZ (hw _ (List.mem_of_getElem? (i := 45) rfl))) (mvT hZ (hw _ (List.mem_of_getElem? (i := 46) rfl))) (mvT hZ (hw _ (List.mem_of_getElem? (i := 47) rfl))) (mvT hZ (hw _ (List.mem_of_getElem? (i := 48) rfl))) (by decide) (own_back (W := 1) (own_rm8 l Z a0 hw [] n (16 : Int32) T114.heap n0 (Nat.le_trans (Nat.le_trans (Nat.le_trans Z0 E112.1) K113.1) K114.1)) hZ (hw _ (List.mem_of_getElem? (i := 48) rfl)) (hw _ (List.mem_of_getElem? (i := 47) rfl)) (by decide) (by decide)) (g := (mkF m 66 #[.val (.int p1), .val (.int p2), .val (.int n), .val (.ref o), .val (.int (2 : Int32))] [(.int (16 : Int32)), (.int n), (.int (16 : Int32))])) rfl (by rw [hml]; rfl) (argsL := [(.int n), (.int (16 : Int32))]) (rest := [(.int (16 : Int32))]) (lenOf own_pd1 rfl) rfl (by show 2 * 0 + _ ≤ _; exact Nat.le_of_eq rfl) (hb hby at_66) (fun _ _ => ⟨rfl, eh119, (by decide : 4 + 0 ≤ _), (by decide : 60 + 0 ≤ _)⟩)
      dsimp only [Pt.U, Pt.locs, Pt.cells, Pt.slots] at X120 l120 y120 z120 st120 hQ120
      subst l120 y120 z120
      obtain ⟨rfl, N120q, eh120⟩ := hQ120
      have N120 := Fr.app N119 N120q
      refine own_to (fun t k => st120 t k) ?_
      show own_Fin _ _ _ _ _ _ (T120.setTop (mkF m 69 #[.val (.int p1), .val (.int p2), .val (.int n), .val (.ref o), .val (.int (2 : Int32))] [(.int (own_min n (16 : Int32))), (.int (16 : Int32))]))
      rw [show own_min n (16 : Int32) = (16 : Int32) from if_pos hf117]
      show own_Fin _ _ _ _ _ _ (T120.setTop (mkF m 69 #[.val (.int p1), .val (.int p2), .val (.int n), .val (.ref o), .val (.int (2 : Int32))] [(.int (16 : Int32)), (.int (16 : Int32))]))
      refine own_to (fun t k => XS.icmpYes X120.here hx rfl (pc0 := 69) (pc' := 74) rfl (hb hby at_69) rfl (teq rfl).1 (by decide) (by decide) k) ?_
      show own_Fin _ _ _ _ _ _ (T120.setTop (mkF m 74 #[.val (.int p1), .val (.int p2), .val (.int n), .val (.ref o), .val (.int (2 : Int32))] []))
      refine own_to (fun t k => XS.iloadN X120.here hx rfl (hb hby at_74) rfl k) ?_
      show own_Fin _ _ _ _ _ _ (T120.setTop (mkF m 75 #[.val (.int p1), .val (.int p2), .val (.int n), .val (.ref o), .val (.int (2 : Int32))] [(.int n)]))
      refine own_to (fun t k => XS.bipush X120.here hx rfl (hb hby at_75) k) ?_
      show own_Fin _ _ _ _ _ _ (T120.setTop (mkF m 77 #[.val (.int p1), .val (.int p2), .val (.int n), .val (.ref o), .val (.int (2 : Int32))] [(.int (16 : Int32)), (.int n)]))
      refine own_to (fun t k => XS.icmpNo X120.here hx rfl (hb hby at_77) rfl (tlt hf117).2.2.2 k) ?_
      show own_Fin _ _ _ _ _ _ (T120.setTop (mkF m 80 #[.val (.int p1), .val (.int p2), .val (.int n), .val (.ref o), .val (.int (2 : Int32))] []))
      refine own_to (fun t k => XS.aloadN X120.here hx rfl (hb hby at_80) rfl rfl k) ?_
      show own_Fin _ _ _ _ _ _ (T120.setTop (mkF m 81 #[.val (.int p1), .val (.int p2), .val (.int n), .val (.ref o), .val (.int (2 : Int32))] [(.ref o)]))
      refine own_to (fun t k => XS.iconst X120.here hx rfl (hb hby at_81) k) ?_
      show own_Fin _ _ _ _ _ _ (T120.setTop (mkF m 82 #[.val (.int p1), .val (.int p2), .val (.int n), .val (.ref o), .val (.int (2 : Int32))] [(.int (1 : Int32)), (.ref o)]))
      obtain ⟨cq121, kq121, q121a, q121b, q121c⟩ := isOf hZ eh120 Es
      obtain ⟨_, _, ⟨T121, L121, k121, n121⟩, -, X121, ⟨Lc121, hQ121, l121, y121, z121⟩, st121⟩ := X120.virtualBack hx (y := (⟨"com/example/walk_to_worth/walktoworth/graph/IntSequence", "blockLength", "(I)I"⟩ : MethodName)) (z := (⟨"com/example/walk_to_worth/walktoworth/graph/IntSequence", "blockLength", "(I)I"⟩ : MethodName)) hown (mvT hZ (hw _ (List.mem_of_getElem? (i := 40) rfl))) (mvT hZ (hw _ (List.mem_of_getElem? (i := 41) rfl))) (notFace_of_selects (args := #[]) (mvT hZ (hw _ (List.mem_of_getElem? (i := 43) rfl)))) (mvT hZ (hw _ (List.mem_of_getElem? (i := 43) rfl))) (mvT hZ (hw _ (List.mem_of_getElem? (i := 42) rfl))) (by decide) (own_back (W := 0) (own_blL l Z a0 hw [] o (1 : Int32) (2 : Int32) (n - (16 : Int32)) T114.heap n0 (Nat.le_trans (Nat.le_trans (Nat.le_trans Z0 E112.1) K113.1) K114.1) Fc Fu (by decide)) hZ (hw _ (List.mem_of_getElem? (i := 44) rfl)) (hw _ (List.mem_of_getElem? (i := 3) rfl)) (by decide) (by decide)) q121a q121c (g := (mkF m 82 #[.val (.int p1), .val (.int p2), .val (.int n), .val (.ref o), .val (.int (2 : Int32))] [(.int (1 : Int32)), (.ref o)])) rfl (by rw [hml]; rfl) (Steps.refl _) (argsL := [(.int (1 : Int32))]) (rest := []) (lenOf own_pd5 rfl) rfl (by show 2 * 0 + _ ≤ _; exact Nat.le_of_eq rfl) (hb hby at_82) (fun _ _ => ⟨rfl, eh120, (by decide : 4 + 0 ≤ _), (by decide : 60 + 0 ≤ _)⟩)
      dsimp only [Pt.U, Pt.locs, Pt.cells, Pt.slots] at X121 l121 y121 z121 st121 hQ121
      subst l121 y121 z121
      obtain ⟨rfl, N121q, eh121⟩ := hQ121
      have N121 := Fr.app N120 N121q
      refine own_to (fun t k => st121.trans k) ?_
      show own_Fin _ _ _ _ _ _ (T121.setTop (mkF m 85 #[.val (.int p1), .val (.int p2), .val (.int n), .val (.ref o), .val (.int (2 : Int32))] [(.int (n - (16 : Int32)))]))
      refine own_to (fun t k => XS.iloadN X121.here hx rfl (hb hby at_85) rfl k) ?_
      show own_Fin _ _ _ _ _ _ (T121.setTop (mkF m 86 #[.val (.int p1), .val (.int p2), .val (.int n), .val (.ref o), .val (.int (2 : Int32))] [(.int n), (.int (n - (16 : Int32)))]))
      refine own_to (fun t k => XS.bipush X121.here hx rfl (hb hby at_86) k) ?_
      show own_Fin _ _ _ _ _ _ (T121.setTop (mkF m 88 #[.val (.int p1), .val (.int p2), .val (.int n), .val (.ref o), .val (.int (2 : Int32))] [(.int (16 : Int32)), (.int n), (.int (n - (16 : Int32)))]))
      refine own_to (fun t k => XS.isub X121.here hx rfl (hb hby at_88) rfl k) ?_
      show own_Fin _ _ _ _ _ _ (T121.setTop (mkF m 89 #[.val (.int p1), .val (.int p2), .val (.int n), .val (.ref o), .val (.int (2 : Int32))] [(.int (n - (16 : Int32))), (.int (n - (16 : Int32)))]))
      refine own_to (fun t k => XS.icmpYes X121.here hx rfl (pc0 := 89) (pc' := 94) rfl (hb hby at_89) rfl (teq rfl).1 (by decide) (by decide) k) ?_
      show own_Fin _ _ _ _ _ _ (T121.setTop (mkF m 94 #[.val (.int p1), .val (.int p2), .val (.int n), .val (.ref o), .val (.int (2 : Int32))] []))
      refine own_to (fun t k => XS.iconst X121.here hx rfl (hb hby at_94) k) ?_
      show own_Fin _ _ _ _ _ _ (T121.setTop (mkF m 95 #[.val (.int p1), .val (.int p2), .val (.int n), .val (.ref o), .val (.int (2 : Int32))] [(.int (1 : Int32))]))
      refine own_retN X121 hx hlk (t := .boolean) hret (by simp) (hb hby at_95) (by decide) (by decide) ?_
      try rw [eh121]
      exact ⟨rfl, N121⟩
    ·
      show own_Fin _ _ _ _ _ _ (T114.setTop (mkF m 22 #[.val (.int p1), .val (.int p2), .val (.int n), .val (.ref o), .unset] []))
      have hp := own_p0 hf115 hn.1
      rw [show own_bc n = (1 : Int32) from (if_neg hf115).trans (if_neg hf117), show own_lu n = n from if_neg hf117] at hS2
      obtain ⟨Es, Fb, Fc, Fl, Fu, Vb⟩ := hS2
      refine own_to (fun t k => XS.iloadN X114.here hx rfl (hb hby at_22) rfl k) ?_
      show own_Fin _ _ _ _ _ _ (T114.setTop (mkF m 23 #[.val (.int p1), .val (.int p2), .val (.int n), .val (.ref o), .unset] [(.int n)]))
      refine own_to (fun t k => XS.ifYes X114.here hx rfl (pc0 := 23) (pc' := 30) rfl (hb hby at_23) rfl ((if0 _ _).trans (feq hf115).2) (by decide) (by decide) k) ?_
      show own_Fin _ _ _ _ _ _ (T114.setTop (mkF m 30 #[.val (.int p1), .val (.int p2), .val (.int n), .val (.ref o), .unset] []))
      refine own_to (fun t k => XS.iloadN X114.here hx rfl (hb hby at_30) rfl k) ?_
      show own_Fin _ _ _ _ _ _ (T114.setTop (mkF m 31 #[.val (.int p1), .val (.int p2), .val (.int n), .val (.ref o), .unset] [(.int n)]))
      refine own_to (fun t k => XS.bipush X114.here hx rfl (hb hby at_31) k) ?_
      show own_Fin _ _ _ _ _ _ (T114.setTop (mkF m 33 #[.val (.int p1), .val (.int p2), .val (.int n), .val (.ref o), .unset] [(.int (16 : Int32)), (.int n)]))
      refine own_to (fun t k => XS.icmpNo X114.here hx rfl (hb hby at_33) rfl (flt hf117).2.2.1 k) ?_
      show own_Fin _ _ _ _ _ _ (T114.setTop (mkF m 36 #[.val (.int p1), .val (.int p2), .val (.int n), .val (.ref o), .unset] []))
      refine own_to (fun t k => XS.iconst X114.here hx rfl (hb hby at_36) k) ?_
      show own_Fin _ _ _ _ _ _ (T114.setTop (mkF m 37 #[.val (.int p1), .val (.int p2), .val (.int n), .val (.ref o), .unset] [(.int (1 : Int32))]))
      refine own_to (fun t k => XS.goto X114.here hx rfl (pc0 := 37) (pc' := 41) rfl (hb hby at_37) (by decide) (by decide) k) ?_
      show own_Fin _ _ _ _ _ _ (T114.setTop (mkF m 41 #[.val (.int p1), .val (.int p2), .val (.int n), .val (.ref o), .unset] [(.int (1 : Int32))]))
      refine own_to (fun t k => XS.istore X114.here hx rfl (hb hby at_41) rfl (l' := #[.val (.int p1), .val (.int p2), .val (.int n), .val (.ref o), .val (.int (1 : Int32))]) rfl k) ?_
      show own_Fin _ _ _ _ _ _ (T114.setTop (mkF m 43 #[.val (.int p1), .val (.int p2), .val (.int n), .val (.ref o), .val (.int (1 : Int32))] []))
      refine own_to (fun t k => XS.aloadN X114.here hx rfl (hb hby at_43) rfl rfl k) ?_
      show own_Fin _ _ _ _ _ _ (T114.setTop (mkF m 44 #[.val (.int p1), .val (.int p2), .val (.int n), .val (.ref o), .val (.int (1 : Int32))] [(.ref o)]))
      obtain ⟨cq122, kq122, q122a, q122b, q122c⟩ := isOf hZ rfl Es
      obtain ⟨_, _, ⟨T122, L122, k122, n122⟩, -, X122, ⟨Lc122, hQ122, l122, y122, z122⟩, st122⟩ := X114.virtualBack hx (y := (⟨"com/example/walk_to_worth/walktoworth/graph/IntSequence", "blockCount", "()I"⟩ : MethodName)) (z := (⟨"com/example/walk_to_worth/walktoworth/graph/IntSequence", "blockCount", "()I"⟩ : MethodName)) hown (mvT hZ (hw _ (List.mem_of_getElem? (i := 18) rfl))) (mvT hZ (hw _ (List.mem_of_getElem? (i := 19) rfl))) (notFace_of_selects (args := #[]) (mvT hZ (hw _ (List.mem_of_getElem? (i := 21) rfl)))) (mvT hZ (hw _ (List.mem_of_getElem? (i := 21) rfl))) (mvT hZ (hw _ (List.mem_of_getElem? (i := 20) rfl))) (by decide) (own_back (W := 0) (own_rm4 l Z a0 hw [] o (1 : Int32) T114.heap n0 (Nat.le_trans (Nat.le_trans (Nat.le_trans Z0 E112.1) K113.1) K114.1) Fc) hZ (hw _ (List.mem_of_getElem? (i := 22) rfl)) (hw _ (List.mem_of_getElem? (i := 3) rfl)) (by decide) (by decide)) q122a q122c (g := (mkF m 44 #[.val (.int p1), .val (.int p2), .val (.int n), .val (.ref o), .val (.int (1 : Int32))] [(.ref o)])) rfl (by rw [hml]; rfl) (Steps.refl _) (argsL := []) (rest := []) (lenOf own_pd4 rfl) rfl (by show 2 * 0 + _ ≤ _; exact Nat.le_of_eq rfl) (hb hby at_44) (fun _ _ => ⟨rfl, rfl, (by decide : 4 + 0 ≤ _), (by decide : 60 + 0 ≤ _)⟩)
      dsimp only [Pt.U, Pt.locs, Pt.cells, Pt.slots] at X122 l122 y122 z122 st122 hQ122
      subst l122 y122 z122
      obtain ⟨rfl, N122q, eh122⟩ := hQ122
      have N122 := Fr.app N114 N122q
      refine own_to (fun t k => st122.trans k) ?_
      show own_Fin _ _ _ _ _ _ (T122.setTop (mkF m 47 #[.val (.int p1), .val (.int p2), .val (.int n), .val (.ref o), .val (.int (1 : Int32))] [(.int (1 : Int32))]))
      refine own_to (fun t k => XS.iload X122.here hx rfl (hb hby at_47) rfl k) ?_
      show own_Fin _ _ _ _ _ _ (T122.setTop (mkF m 49 #[.val (.int p1), .val (.int p2), .val (.int n), .val (.ref o), .val (.int (1 : Int32))] [(.int (1 : Int32)), (.int (1 : Int32))]))
      refine own_to (fun t k => XS.icmpYes X122.here hx rfl (pc0 := 49) (pc' := 54) rfl (hb hby at_49) rfl (teq rfl).1 (by decide) (by decide) k) ?_
      show own_Fin _ _ _ _ _ _ (T122.setTop (mkF m 54 #[.val (.int p1), .val (.int p2), .val (.int n), .val (.ref o), .val (.int (1 : Int32))] []))
      refine own_to (fun t k => XS.iloadN X122.here hx rfl (hb hby at_54) rfl k) ?_
      show own_Fin _ _ _ _ _ _ (T122.setTop (mkF m 55 #[.val (.int p1), .val (.int p2), .val (.int n), .val (.ref o), .val (.int (1 : Int32))] [(.int n)]))
      refine own_to (fun t k => XS.ifNo X122.here hx rfl (hb hby at_55) rfl ((if0 _ _).trans (tlt hp).2.2.2) k) ?_
      show own_Fin _ _ _ _ _ _ (T122.setTop (mkF m 58 #[.val (.int p1), .val (.int p2), .val (.int n), .val (.ref o), .val (.int (1 : Int32))] []))
      refine own_to (fun t k => XS.aloadN X122.here hx rfl (hb hby at_58) rfl rfl k) ?_
      show own_Fin _ _ _ _ _ _ (T122.setTop (mkF m 59 #[.val (.int p1), .val (.int p2), .val (.int n), .val (.ref o), .val (.int (1 : Int32))] [(.ref o)]))
      refine own_to (fun t k => XS.iconst X122.here hx rfl (hb hby at_59) k) ?_
      show own_Fin _ _ _ _ _ _ (T122.setTop (mkF m 60 #[.val (.int p1), .val (.int p2), .val (.int n), .val (.ref o), .val (.int (1 : Int32))] [(.int (0 : Int32)), (.ref o)]))
      obtain ⟨cq123, kq123, q123a, q123b, q123c⟩ := isOf hZ eh122 Es
      obtain ⟨_, _, ⟨T123, L123, k123, n123⟩, -, X123, ⟨Lc123, hQ123, l123, y123, z123⟩, st123⟩ := X122.virtualBack hx (y := (⟨"com/example/walk_to_worth/walktoworth/graph/IntSequence", "blockLength", "(I)I"⟩ : MethodName)) (z := (⟨"com/example/walk_to_worth/walktoworth/graph/IntSequence", "blockLength", "(I)I"⟩ : MethodName)) hown (mvT hZ (hw _ (List.mem_of_getElem? (i := 40) rfl))) (mvT hZ (hw _ (List.mem_of_getElem? (i := 41) rfl))) (notFace_of_selects (args := #[]) (mvT hZ (hw _ (List.mem_of_getElem? (i := 43) rfl)))) (mvT hZ (hw _ (List.mem_of_getElem? (i := 43) rfl))) (mvT hZ (hw _ (List.mem_of_getElem? (i := 42) rfl))) (by decide) (own_back (W := 0) (own_blL l Z a0 hw [] o (0 : Int32) (1 : Int32) n T114.heap n0 (Nat.le_trans (Nat.le_trans (Nat.le_trans Z0 E112.1) K113.1) K114.1) Fc Fu (by decide)) hZ (hw _ (List.mem_of_getElem? (i := 44) rfl)) (hw _ (List.mem_of_getElem? (i := 3) rfl)) (by decide) (by decide)) q123a q123c (g := (mkF m 60 #[.val (.int p1), .val (.int p2), .val (.int n), .val (.ref o), .val (.int (1 : Int32))] [(.int (0 : Int32)), (.ref o)])) rfl (by rw [hml]; rfl) (Steps.refl _) (argsL := [(.int (0 : Int32))]) (rest := []) (lenOf own_pd5 rfl) rfl (by show 2 * 0 + _ ≤ _; exact Nat.le_of_eq rfl) (hb hby at_60) (fun _ _ => ⟨rfl, eh122, (by decide : 4 + 0 ≤ _), (by decide : 60 + 0 ≤ _)⟩)
      dsimp only [Pt.U, Pt.locs, Pt.cells, Pt.slots] at X123 l123 y123 z123 st123 hQ123
      subst l123 y123 z123
      obtain ⟨rfl, N123q, eh123⟩ := hQ123
      have N123 := Fr.app N122 N123q
      refine own_to (fun t k => st123.trans k) ?_
      show own_Fin _ _ _ _ _ _ (T123.setTop (mkF m 63 #[.val (.int p1), .val (.int p2), .val (.int n), .val (.ref o), .val (.int (1 : Int32))] [(.int n)]))
      refine own_to (fun t k => XS.iloadN X123.here hx rfl (hb hby at_63) rfl k) ?_
      show own_Fin _ _ _ _ _ _ (T123.setTop (mkF m 64 #[.val (.int p1), .val (.int p2), .val (.int n), .val (.ref o), .val (.int (1 : Int32))] [(.int n), (.int n)]))
      refine own_to (fun t k => XS.bipush X123.here hx rfl (hb hby at_64) k) ?_
      show own_Fin _ _ _ _ _ _ (T123.setTop (mkF m 66 #[.val (.int p1), .val (.int p2), .val (.int n), .val (.ref o), .val (.int (1 : Int32))] [(.int (16 : Int32)), (.int n), (.int n)]))
      obtain ⟨_, _, ⟨T124, L124, k124, n124⟩, -, X124, ⟨Lc124, hQ124, l124, y124, z124⟩, st124⟩ := Jvm.LawKit.callS X123 hx (y := (⟨"java/lang/Math", "min", "(II)I"⟩ : MethodName)) hown (mvT hZ (hw _ (List.mem_of_getElem? (i := 45) rfl))) (mvT hZ (hw _ (List.mem_of_getElem? (i := 46) rfl))) (mvT hZ (hw _ (List.mem_of_getElem? (i := 47) rfl))) (mvT hZ (hw _ (List.mem_of_getElem? (i := 48) rfl))) (by decide) (own_back (W := 1) (own_rm8 l Z a0 hw [] n (16 : Int32) T114.heap n0 (Nat.le_trans (Nat.le_trans (Nat.le_trans Z0 E112.1) K113.1) K114.1)) hZ (hw _ (List.mem_of_getElem? (i := 48) rfl)) (hw _ (List.mem_of_getElem? (i := 47) rfl)) (by decide) (by decide)) (g := (mkF m 66 #[.val (.int p1), .val (.int p2), .val (.int n), .val (.ref o), .val (.int (1 : Int32))] [(.int (16 : Int32)), (.int n), (.int n)])) rfl (by rw [hml]; rfl) (argsL := [(.int n), (.int (16 : Int32))]) (rest := [(.int n)]) (lenOf own_pd1 rfl) rfl (by show 2 * 0 + _ ≤ _; exact Nat.le_of_eq rfl) (hb hby at_66) (fun _ _ => ⟨rfl, eh123, (by decide : 4 + 0 ≤ _), (by decide : 60 + 0 ≤ _)⟩)
      dsimp only [Pt.U, Pt.locs, Pt.cells, Pt.slots] at X124 l124 y124 z124 st124 hQ124
      subst l124 y124 z124
      obtain ⟨rfl, N124q, eh124⟩ := hQ124
      have N124 := Fr.app N123 N124q
      refine own_to (fun t k => st124 t k) ?_
      show own_Fin _ _ _ _ _ _ (T124.setTop (mkF m 69 #[.val (.int p1), .val (.int p2), .val (.int n), .val (.ref o), .val (.int (1 : Int32))] [(.int (own_min n (16 : Int32))), (.int n)]))
      rw [show own_min n (16 : Int32) = n from if_neg hf117]
      show own_Fin _ _ _ _ _ _ (T124.setTop (mkF m 69 #[.val (.int p1), .val (.int p2), .val (.int n), .val (.ref o), .val (.int (1 : Int32))] [(.int n), (.int n)]))
      refine own_to (fun t k => XS.icmpYes X124.here hx rfl (pc0 := 69) (pc' := 74) rfl (hb hby at_69) rfl (teq rfl).1 (by decide) (by decide) k) ?_
      show own_Fin _ _ _ _ _ _ (T124.setTop (mkF m 74 #[.val (.int p1), .val (.int p2), .val (.int n), .val (.ref o), .val (.int (1 : Int32))] []))
      refine own_to (fun t k => XS.iloadN X124.here hx rfl (hb hby at_74) rfl k) ?_
      show own_Fin _ _ _ _ _ _ (T124.setTop (mkF m 75 #[.val (.int p1), .val (.int p2), .val (.int n), .val (.ref o), .val (.int (1 : Int32))] [(.int n)]))
      refine own_to (fun t k => XS.bipush X124.here hx rfl (hb hby at_75) k) ?_
      show own_Fin _ _ _ _ _ _ (T124.setTop (mkF m 77 #[.val (.int p1), .val (.int p2), .val (.int n), .val (.ref o), .val (.int (1 : Int32))] [(.int (16 : Int32)), (.int n)]))
      refine own_to (fun t k => XS.icmpYes X124.here hx rfl (pc0 := 77) (pc' := 94) rfl (hb hby at_77) rfl (flt hf117).2.2.2 (by decide) (by decide) k) ?_
      show own_Fin _ _ _ _ _ _ (T124.setTop (mkF m 94 #[.val (.int p1), .val (.int p2), .val (.int n), .val (.ref o), .val (.int (1 : Int32))] []))
      refine own_to (fun t k => XS.iconst X124.here hx rfl (hb hby at_94) k) ?_
      show own_Fin _ _ _ _ _ _ (T124.setTop (mkF m 95 #[.val (.int p1), .val (.int p2), .val (.int n), .val (.ref o), .val (.int (1 : Int32))] [(.int (1 : Int32))]))
      refine own_retN X124 hx hlk (t := .boolean) hret (by simp) (hb hby at_95) (by decide) (by decide) ?_
      try rw [eh124]
      exact ⟨rfl, N124⟩
set_option maxRecDepth 65536 in
set_option maxHeartbeats 40000000 in
theorem comes_1 {Post : Tables → Env → Array Value → State → Outcome → State → Prop} (hpost : ∀ tb e args s v u, (limb_1_1.after args s (.returned v) u = true ∧ limb_1_2.after args s (.returned v) u = true ∧ True) → FrameEnd s (.returned v) u (Jvm.fieldLocs frame_1_writes args s ++ Jvm.arrayLocs frame_1_arrays args s ++ Jvm.staticLocs frame_1_statics s) 16 192 → Post tb e args s (.returned v) u) :
    ArmFor flags0 classFile x code maxLocals ret World_1 tables_1 room_1 Calls_1 rest_1 Pre_1 Post := by
  intro l hfl _ _ p e ha hc hk s m args below hf hA hF happ hP
  obtain ⟨hcalls, hrest, hpre⟩ := hP
  obtain ⟨-, -, -, hnamed, -, -, -, hat⟩ := (Spec.applies_iff hf).mp happ
  obtain ⟨hg, hn⟩ := and_e (Cond.before_iff.mp (show (Jvm.Cond.and given_1 narrow_1).before args s = true from hpre))
  obtain ⟨g1, g2⟩ := and_e hg
  obtain ⟨g3, g4⟩ := and_e g2
  obtain ⟨w0, w1, rfl⟩ : ∃ w0 w1 : Value, args = #[w0, w1] := by
    have hs : args.size = 2 := by simpa [Cond.value, given_1] using g1
    obtain ⟨L⟩ := args
    match L, hs with
    | [w0, w1], _ => exact ⟨w0, w1, rfl⟩
  have hw := fun d (hd : d ∈ tables_1) => atoms_spec (ws := Jvm.Cond.code x code maxLocals ret :: tables_1) hat d (List.mem_cons_of_mem _ hd)
  have hfit : Fit s := fun {y c} hc i hi => by
    obtain ⟨ha, rfl⟩ := Array.getElem?_eq_some_iff.mp hc
    have q := List.all_eq_true.mp ((Array.all_eq_true_iff_forall_mem.mp hF) _ (Array.getElem_mem ha)) i (List.mem_range.mpr hi)
    simpa [Array.getElem?_eq_getElem hi] using q
  obtain ⟨i0, ei0⟩ := is_v g3
  obtain rfl : w0 = (.int i0) := Option.some.inj ei0
  obtain ⟨i1, ei1⟩ := is_v g4
  obtain rfl : w1 = (.int i1) := Option.some.inj ei1
  obtain ⟨n, o, h1, h2, h3, _, L, rfl, ⟨rfl, N⟩, hq⟩ := own_rm0 l s _ hw tables_1 i0 i1 s.heap s.heap.size (Nat.le_refl _) p e ha hc hk s m _ below hf ((Spec.applies_iff_loose hf).mp happ).1 ⟨rfl, State.Warmed39.refl s, rfl⟩ trivial
  refine ⟨n, _, h1, h2, h3, hpost _ _ _ _ _ _ ⟨Cond.after_iff.mpr rfl, Cond.after_iff.mpr (eq_i res_at (Term.int_eval (1)) rfl), trivial⟩ ⟨hq.1, hq.2.1, (hq.2.2.sift fun y hy => Or.inr (N y hy)).mono (by decide) (by decide)⟩⟩
theorem main_1_1 : Claimed_1_1 := comes_1 fun _ _ _ _ _ _ h hF => ⟨h.1, hF⟩
theorem main_1_2 : Claimed_1_2 := comes_1 fun _ _ _ _ _ _ h hF => ⟨h.2.1, hF⟩
end Jvm.Pilot.@@N@@
namespace Jvm.Pilot.@@N@@
open Jvm Jvm.ClassFile Sem Op Lib Jvm.Free Jvm.Stand Jvm.Pilot.@@N@@.Jvm.D
/-! MADE BY PROGRAM (witnessworld.py) out of the Statement's table words and the real class files: 10 classes; the members and pool entries that the words name. The judged class is class 1, her method 1. -/
namespace start1
open Jvm.ClassFile
def u (s : String) : CpInfo := .utf8 (stringToUtf16 s)
/-- a pool by its gaps: so many unusable entries, then the entry; so many at the end -/
def gap : Nat → List CpInfo → List CpInfo
  | 0, r => r
  | n + 1, r => .unusable :: gap n r
def poolList (es : List (Nat × CpInfo)) (last : Nat) : List CpInfo := es.foldr (fun e r => gap e.1 (e.2 :: r)) (gap last [])
def pool (es : List (Nat × CpInfo)) (last : Nat) : Array CpInfo := ⟨poolList es last⟩
def fileOf (pool : Array CpInfo) (this : Nat) (attrs : Array Attribute := #[]) (ms : Array MethodInfo := #[]) (fl : Nat := 33) (sup : Nat := 0) (ifs : Array Nat := #[]) (fds : Array FieldInfo := #[]) : ClassFile where
  minorVersion := 0
  majorVersion := 65
  constantPool := pool
  accessFlags := fl
  thisClass := this
  superClass := sup
  interfaces := ifs
  fields := fds
  methods := ms
  attributes := attrs
def plain (name : String) (sup : Option ClassId) : Class where
  name := name
  kind := .ordinary
  loader := none
  accessFlags := 33
  super := sup
  interfaces := #[]
  cf := none
  fields := #[]
  methods := #[]
  instanceTypes := #[]
  staticTypes := #[]
  resolved := #[]
  callSites := []
  init := .initialized
  statics := none
  mirror := none

def pool0 : Array CpInfo := pool [(5, u "<init>"), (0, u "()V"), (1, .class_ 10), (1, u "java/lang/Object")] 113

def k0c0 : Code := { maxStack := 0, maxLocals := 1, code := object_method_1_code, exceptionTable := #[], attributes := #[] }
def k0m0 : Method := { name := "<init>", desc := "()V", sig := { parameters := [], returnType := none }, accessFlags := 1, code := some k0c0 }
/-- java/lang/Object -/
def k0 : Class := { plain "java/lang/Object" none with
  accessFlags := 33
  interfaces := #[]
  cf := some (fileOf pool0 8 #[] #[{ accessFlags := 1, nameIndex := 5, descriptorIndex := 6, attributes := #[] }] 33 0 #[] #[])
  fields := #[]
  methods := #[k0m0]
  instanceTypes := #[]
  staticTypes := #[]
  resolved := Array.replicate 124 none
  statics := none }

def pool1 : Array CpInfo := pool [(2, .class_ 4), (0, .nameAndType 5 6), (0, u "java/lang/Object"), (0, u "<init>"), (0, u "()V"), (0, .integer 2147483647), (0, .class_ 9), (0, u "com/example/walk_to_worth/walktoworth/graph/IntSequence"), (0, .methodref 8 3), (0, .methodref 12 13), (0, .class_ 14), (0, .nameAndType 15 16), (0, u "com/example/walk_to_worth/walktoworth/graph/IntSequenceBlockLengthPinLaw"), (0, u "fill"), (0, u "(Lcom/example/walk_to_worth/walktoworth/graph/IntSequence;II)V"), (0, .methodref 8 18), (0, .nameAndType 19 20), (0, u "blockCount"), (0, u "()I"), (0, .methodref 8 22), (0, .nameAndType 23 24), (0, u "blockLength"), (0, u "(I)I"), (0, .methodref 26 27), (0, .class_ 28), (0, .nameAndType 29 30), (0, u "java/lang/Math"), (0, u "min"), (0, u "(II)I"), (0, .methodref 8 32), (0, .nameAndType 33 34), (0, u "add"), (0, u "(I)V"), (2, u "law"), (0, u "(II)Z")] 3

def k1m0 : Method := { name := "<init>", desc := "()V", sig := { parameters := [], returnType := none }, accessFlags := 1, code := none }
def k1c1 : Code := { maxStack := 3, maxLocals := 5, code := code, exceptionTable := #[], attributes := #[] }
def k1m1 : Method := { name := "law", desc := "(II)Z", sig := { parameters := [.int, .int], returnType := some .boolean }, accessFlags := 9, code := some k1c1 }
def k1c2 : Code := { maxStack := 3, maxLocals := 3, code := method_3_code, exceptionTable := #[], attributes := #[] }
def k1m2 : Method := { name := "fill", desc := "(Lcom/example/walk_to_worth/walktoworth/graph/IntSequence;II)V", sig := { parameters := [(.object "com/example/walk_to_worth/walktoworth/graph/IntSequence"), .int, .int], returnType := none }, accessFlags := 10, code := some k1c2 }
/-- com/example/walk_to_worth/walktoworth/graph/IntSequenceBlockLengthPinLaw -/
def k1 : Class := { plain "com/example/walk_to_worth/walktoworth/graph/IntSequenceBlockLengthPinLaw" (some 0) with
  accessFlags := 49
  interfaces := #[]
  cf := some (fileOf pool1 12 #[] #[{ accessFlags := 1, nameIndex := 5, descriptorIndex := 6, attributes := #[] }, { accessFlags := 9, nameIndex := 37, descriptorIndex := 38, attributes := #[] }, { accessFlags := 10, nameIndex := 15, descriptorIndex := 16, attributes := #[] }] 49 2 #[] #[])
  fields := #[]
  methods := #[k1m0, k1m1, k1m2]
  instanceTypes := #[]
  staticTypes := #[]
  resolved := Array.replicate 42 none
  statics := none }

def pool2 : Array CpInfo := pool [(1, .methodref 2 3), (0, .class_ 4), (0, .nameAndType 5 6), (0, u "java/lang/Object"), (0, u "<init>"), (0, u "()V"), (0, .class_ 8), (0, u "[I"), (0, .fieldref 10 11), (0, .class_ 12), (0, .nameAndType 13 14), (0, u "com/example/walk_to_worth/walktoworth/graph/IntSequence"), (0, u "blocks"), (0, u "[[I"), (0, .fieldref 10 16), (0, .nameAndType 17 8), (0, u "last"), (0, .fieldref 10 19), (0, .nameAndType 20 21), (0, u "lastUsed"), (0, u "I"), (0, .methodref 10 23), (0, .nameAndType 24 6), (0, u "addBlock"), (0, .fieldref 10 26), (0, .nameAndType 27 21), (0, u "blockCount"), (2, u "blockLength"), (0, u "(I)I"), (9, .integer 1048568), (4, u "add"), (1, .methodref 49 50), (0, .class_ 51), (0, .nameAndType 52 53), (0, u "java/lang/Math"), (0, u "min"), (0, u "(II)I"), (7, u "LONGEST_BLOCK"), (1, u "FIRST_BLOCK"), (3, u "(I)V"), (1, u "()I")] 8

def k2c0 : Code := { maxStack := 2, maxLocals := 1, code := prog_7_method_1_code, exceptionTable := #[], attributes := #[] }
def k2m0 : Method := { name := "<init>", desc := "()V", sig := { parameters := [], returnType := none }, accessFlags := 0, code := some k2c0 }
def k2c1 : Code := { maxStack := 3, maxLocals := 2, code := prog_7_method_2_code, exceptionTable := #[], attributes := #[] }
def k2m1 : Method := { name := "add", desc := "(I)V", sig := { parameters := [.int], returnType := none }, accessFlags := 0, code := some k2c1 }
def k2c2 : Code := { maxStack := 1, maxLocals := 1, code := prog_7_method_3_code, exceptionTable := #[], attributes := #[] }
def k2m2 : Method := { name := "blockCount", desc := "()I", sig := { parameters := [], returnType := some .int }, accessFlags := 0, code := some k2c2 }
def k2c3 : Code := { maxStack := 3, maxLocals := 2, code := prog_7_method_5_code, exceptionTable := #[], attributes := #[] }
def k2m3 : Method := { name := "blockLength", desc := "(I)I", sig := { parameters := [.int], returnType := some .int }, accessFlags := 0, code := some k2c3 }
def k2c4 : Code := { maxStack := 4, maxLocals := 2, code := prog_7_method_7_code, exceptionTable := #[], attributes := #[] }
def k2m4 : Method := { name := "addBlock", desc := "()V", sig := { parameters := [], returnType := none }, accessFlags := 2, code := some k2c4 }
/-- com/example/walk_to_worth/walktoworth/graph/IntSequence -/
def k2 : Class := { plain "com/example/walk_to_worth/walktoworth/graph/IntSequence" (some 0) with
  accessFlags := 48
  interfaces := #[]
  cf := some (fileOf pool2 10 #[] #[{ accessFlags := 0, nameIndex := 5, descriptorIndex := 6, attributes := #[] }, { accessFlags := 0, nameIndex := 46, descriptorIndex := 67, attributes := #[] }, { accessFlags := 0, nameIndex := 27, descriptorIndex := 69, attributes := #[] }, { accessFlags := 0, nameIndex := 30, descriptorIndex := 31, attributes := #[] }, { accessFlags := 2, nameIndex := 24, descriptorIndex := 6, attributes := #[] }] 48 2 #[] #[{ accessFlags := 24, nameIndex := 61, descriptorIndex := 21, attributes := #[] }, { accessFlags := 26, nameIndex := 63, descriptorIndex := 21, attributes := #[] }, { accessFlags := 2, nameIndex := 13, descriptorIndex := 14, attributes := #[] }, { accessFlags := 2, nameIndex := 27, descriptorIndex := 21, attributes := #[] }, { accessFlags := 2, nameIndex := 17, descriptorIndex := 8, attributes := #[] }, { accessFlags := 2, nameIndex := 20, descriptorIndex := 21, attributes := #[] }])
  fields := #[{ name := "LONGEST_BLOCK", type := .int, accessFlags := 24, slot := 0, constantValue := 0 }, { name := "FIRST_BLOCK", type := .int, accessFlags := 26, slot := 1, constantValue := 0 }, { name := "blocks", type := (.array (.array .int)), accessFlags := 2, slot := 0, constantValue := 0 }, { name := "blockCount", type := .int, accessFlags := 2, slot := 1, constantValue := 0 }, { name := "last", type := (.array .int), accessFlags := 2, slot := 2, constantValue := 0 }, { name := "lastUsed", type := .int, accessFlags := 2, slot := 3, constantValue := 0 }]
  methods := #[k2m0, k2m1, k2m2, k2m3, k2m4]
  instanceTypes := #[(.array (.array .int)), .int, (.array .int), .int]
  staticTypes := #[.int, .int]
  resolved := Array.replicate 78 none
  statics := none }

def pool3 : Array CpInfo := pool [(1, .class_ 2), (0, u "java/lang/Math"), (1, .class_ 6), (1, u "java/lang/Object"), (0, u "<init>"), (0, u "()V"), (89, .class_ 100), (1, u "java/lang/Math$RandomNumberGeneratorHolder"), (71, u "negativeZeroFloatBits"), (0, u "J"), (2, u "negativeZeroDoubleBits"), (24, u "min"), (43, u "$assertionsDisabled"), (0, u "Z"), (88, u "(II)I"), (2, u "twoToTheDoubleScaleDown"), (0, u "D"), (4, u "twoToTheDoubleScaleUp"), (9, u "E"), (3, u "PI"), (2, u "TAU"), (2, u "DEGREES_TO_RADIANS"), (0, u "RADIANS_TO_DEGREES")] 94

def k3m0 : Method := { name := "<init>", desc := "()V", sig := { parameters := [], returnType := none }, accessFlags := 2, code := none }
def k3c1 : Code := { maxStack := 2, maxLocals := 2, code := jdk_29_method_69_code, exceptionTable := #[], attributes := #[] }
def k3m1 : Method := { name := "min", desc := "(II)I", sig := { parameters := [.int, .int], returnType := some .int }, accessFlags := 9, code := some k3c1 }
/-- java/lang/Math -/
def k3 : Class := { plain "java/lang/Math" (some 0) with
  accessFlags := 49
  interfaces := #[]
  cf := some (fileOf pool3 1 #[.nestMembers #[98]] #[{ accessFlags := 2, nameIndex := 7, descriptorIndex := 8, attributes := #[] }, { accessFlags := 9, nameIndex := 201, descriptorIndex := 335, attributes := #[] }] 49 4 #[] #[{ accessFlags := 25, nameIndex := 354, descriptorIndex := 339, attributes := #[] }, { accessFlags := 25, nameIndex := 358, descriptorIndex := 339, attributes := #[] }, { accessFlags := 25, nameIndex := 361, descriptorIndex := 339, attributes := #[] }, { accessFlags := 26, nameIndex := 364, descriptorIndex := 339, attributes := #[] }, { accessFlags := 26, nameIndex := 365, descriptorIndex := 339, attributes := #[] }, { accessFlags := 26, nameIndex := 172, descriptorIndex := 173, attributes := #[] }, { accessFlags := 26, nameIndex := 176, descriptorIndex := 173, attributes := #[] }, { accessFlags := 8, nameIndex := 344, descriptorIndex := 339, attributes := #[] }, { accessFlags := 8, nameIndex := 338, descriptorIndex := 339, attributes := #[] }, { accessFlags := 4120, nameIndex := 245, descriptorIndex := 246, attributes := #[] }])
  fields := #[{ name := "E", type := .double, accessFlags := 25, slot := 0, constantValue := 0 }, { name := "PI", type := .double, accessFlags := 25, slot := 1, constantValue := 0 }, { name := "TAU", type := .double, accessFlags := 25, slot := 2, constantValue := 0 }, { name := "DEGREES_TO_RADIANS", type := .double, accessFlags := 26, slot := 3, constantValue := 0 }, { name := "RADIANS_TO_DEGREES", type := .double, accessFlags := 26, slot := 4, constantValue := 0 }, { name := "negativeZeroFloatBits", type := .long, accessFlags := 26, slot := 5, constantValue := 0 }, { name := "negativeZeroDoubleBits", type := .long, accessFlags := 26, slot := 6, constantValue := 0 }, { name := "twoToTheDoubleScaleUp", type := .double, accessFlags := 8, slot := 7, constantValue := 0 }, { name := "twoToTheDoubleScaleDown", type := .double, accessFlags := 8, slot := 8, constantValue := 0 }, { name := "$assertionsDisabled", type := .boolean, accessFlags := 4120, slot := 9, constantValue := 0 }]
  methods := #[k3m0, k3m1]
  instanceTypes := #[]
  staticTypes := #[.double, .double, .double, .double, .double, .long, .long, .double, .double, .boolean]
  resolved := Array.replicate 460 none
  statics := none }

def pool4 : Array CpInfo := pool [(1, u "java/lang/Cloneable"), (0, .class_ 1), (0, u "java/lang/Object"), (0, .class_ 3)] 3

/-- java/lang/Cloneable -/
def k4 : Class := { plain "java/lang/Cloneable" (some 0) with
  accessFlags := 1537
  interfaces := #[]
  cf := some (fileOf pool4 2 #[] #[] 1537 4 #[] #[])
  fields := #[]
  methods := #[]
  instanceTypes := #[]
  staticTypes := #[]
  resolved := Array.replicate 8 none
  statics := none }

def pool5 : Array CpInfo := pool [(1, u "java/io/Serializable"), (0, .class_ 1), (0, u "java/lang/Object"), (0, .class_ 3)] 3

/-- java/io/Serializable -/
def k5 : Class := { plain "java/io/Serializable" (some 0) with
  accessFlags := 1537
  interfaces := #[]
  cf := some (fileOf pool5 2 #[] #[] 1537 4 #[] #[])
  fields := #[]
  methods := #[]
  instanceTypes := #[]
  staticTypes := #[]
  resolved := Array.replicate 8 none
  statics := none }

/-- the primitive byte -/
def k6 : Class := { plain "byte" none with kind := .primitive 'B', accessFlags := 0x411 }
/-- [B -/
def k7 : Class := { plain "[B" (some 0) with kind := .array 6 .byte, interfaces := #[4, 5], accessFlags := 1041 }

/-- the primitive int -/
def k8 : Class := { plain "int" none with kind := .primitive 'I', accessFlags := 0x411 }
/-- [I -/
def k9 : Class := { plain "[I" (some 0) with kind := .array 8 .int, interfaces := #[4, 5], accessFlags := 1041 }

def heap : Heap := #[]
def k10 : Class := { plain "[[I" (some 0) with kind := .array 9 (.array .int), interfaces := #[4, 5], accessFlags := 1041 }
def classes : Array Class := #[k0, k1, k2, k3, k4, k5, k6, k7, k8, k9, k10]
def interned : List (Array UInt16 × Addr) := []
def slotsUsed : Nat := 0
def theMethod : MethodId := ⟨1, 1⟩
def args0 : Array Value := #[.int 5, .int 7]
def aboutOver (below : List Frame) : State where
  vm := { classes := classes, interned := interned.toArray }
  heap := heap
  slotsUsed := slotsUsed
  threads := #[{ frames := .invoking theMethod args0 :: below }]
def below0 : List Frame := [.native { method := ⟨0, 0⟩, args := #[] }]
def about1 : State := aboutOver below0
def p0 : Program := .bare "" "" ""
def e0 : Env := launch0.env 0 0 0
theorem w_frames : about1.frames = Frame.invoking theMethod args0 :: below0 := rfl
set_option maxRecDepth 65536 in
theorem w_args : argsFit about1.vm theMethod args0 = true := by decide +kernel
set_option maxRecDepth 65536 in
theorem w_heap : heapFits about1 = true := by decide +kernel
set_option maxRecDepth 65536 in
theorem w_runnable : about1.curStatus? = some .runnable := by decide +kernel
set_option maxRecDepth 65536 in
theorem w_alone : about1.alone = true := by decide +kernel
set_option maxRecDepth 65536 in
theorem w_named : about1.methodNamed? x = some theMethod := by decide +kernel
set_option maxRecDepth 65536 in
theorem w_hears : about1.hears theMethod below0 = true := by decide +kernel
set_option maxRecDepth 65536 in
theorem w_ripe : about1.ripe theMethod args0 below0 = true := by decide +kernel
theorem w_running : about1.status = .running := rfl
set_option maxRecDepth 65536 in
theorem w_room : about1.hasRoom e0.platform room_1 = true :=
  launch0.hasRoom_least _ room_1 (by decide +kernel) (by decide +kernel) (by decide +kernel) (by decide +kernel) (by decide +kernel) (by decide +kernel)
theorem allAtoms_all (ts : List Jvm.Cond) (a : Array Jvm.Value) (st : Jvm.State) : (allAtoms ts).before a st = ts.all (fun c => c.before a st) := by
  induction ts with
  | nil => rfl
  | cons c t ih =>
    show (Jvm.Cond.and c (allAtoms t)).before a st = _
    rw [Jvm.Cond.before_and, ih, List.all_cons]
def words1 : List Jvm.Cond := Jvm.Cond.code x code maxLocals ret :: tables_1
/-- a 'code' word, met by the world's own term for the bytes: nothing is compared byte by byte -/
theorem code_word {y : MethodName} {bytes : ByteArray} {mx : Nat} {rt : Option FieldType} {a : Array Value} {s : State} {m : MethodId} {meth : Method} {c : Code} (h1 : s.methodNamed? y = some m) (h2 : s.vm.method? m = some meth) (h3 : meth.code = some c) (h4 : c.code = bytes)
    (h5 : (c.maxLocals == mx && c.exceptionTable.isEmpty && decide (c.maxStack ≤ mostOperands) && decide (meth.sig.returnType = rt) && !meth.locks && decide (parseMethodDescriptor y.desc = some meth.sig)) = true) : (Jvm.Cond.code y bytes mx rt).before a s = true := by
  simp only [Bool.and_eq_true, beq_iff_eq, Bool.not_eq_true', decide_eq_true_eq] at h5
  obtain ⟨⟨⟨⟨⟨g1, g2⟩, g3⟩, g4⟩, g5⟩, g6⟩ := h5
  simp [Cond.before, Cond.holds, Cond.value, h1, h2, h3, h4, g1, g2, g3, g4, g5, g6]
def isCode : Jvm.Cond → Bool
  | .code _ _ _ _ => true
  | _ => false
theorem all_split {L : List Jvm.Cond} {P : Jvm.Cond → Bool} (h1 : L.all (fun c => isCode c || P c) = true) (h2 : ∀ c ∈ L.filter isCode, P c = true) : L.all P = true := by
  refine List.all_eq_true.mpr fun c hc => ?_
  have h := List.all_eq_true.mp h1 c hc
  rcases Bool.eq_false_or_eq_true (isCode c) with hi | hi
  · exact h2 c (List.mem_filter.mpr ⟨hc, hi⟩)
  · simpa [hi] using h
set_option maxRecDepth 65536 in
theorem w_c0 : (Jvm.Cond.code x code maxLocals ret).before args0 about1 = true := code_word (m := ⟨1, 1⟩) (meth := k1m1) (c := k1c1) (by decide +kernel) rfl rfl rfl (by decide +kernel)
set_option maxRecDepth 65536 in
theorem w_c1 : (Jvm.Cond.code ({ cls := "com/example/walk_to_worth/walktoworth/graph/IntSequence", name := "<init>", desc := "()V" } : Jvm.MethodName) prog_7_method_1_code (1 : Nat) (Option.none : Option Jvm.ClassFile.FieldType)).before args0 about1 = true := code_word (m := ⟨2, 0⟩) (meth := k2m0) (c := k2c0) (by decide +kernel) rfl rfl rfl (by decide +kernel)
set_option maxRecDepth 65536 in
theorem w_c2 : (Jvm.Cond.code ({ cls := "java/lang/Object", name := "<init>", desc := "()V" } : Jvm.MethodName) object_method_1_code (1 : Nat) (Option.none : Option Jvm.ClassFile.FieldType)).before args0 about1 = true := code_word (m := ⟨0, 0⟩) (meth := k0m0) (c := k0c0) (by decide +kernel) rfl rfl rfl (by decide +kernel)
set_option maxRecDepth 65536 in
theorem w_c3 : (Jvm.Cond.code ({ cls := "com/example/walk_to_worth/walktoworth/graph/IntSequenceBlockLengthPinLaw", name := "fill", desc := "(Lcom/example/walk_to_worth/walktoworth/graph/IntSequence;II)V" } : Jvm.MethodName) method_3_code (3 : Nat) (Option.none : Option Jvm.ClassFile.FieldType)).before args0 about1 = true := code_word (m := ⟨1, 2⟩) (meth := k1m2) (c := k1c2) (by decide +kernel) rfl rfl rfl (by decide +kernel)
set_option maxRecDepth 65536 in
theorem w_c4 : (Jvm.Cond.code ({ cls := "com/example/walk_to_worth/walktoworth/graph/IntSequence", name := "blockCount", desc := "()I" } : Jvm.MethodName) prog_7_method_3_code (1 : Nat) (Option.some Jvm.ClassFile.FieldType.int)).before args0 about1 = true := code_word (m := ⟨2, 2⟩) (meth := k2m2) (c := k2c2) (by decide +kernel) rfl rfl rfl (by decide +kernel)
set_option maxRecDepth 65536 in
theorem w_c5 : (Jvm.Cond.code ({ cls := "com/example/walk_to_worth/walktoworth/graph/IntSequence", name := "add", desc := "(I)V" } : Jvm.MethodName) prog_7_method_2_code (2 : Nat) (Option.none : Option Jvm.ClassFile.FieldType)).before args0 about1 = true := code_word (m := ⟨2, 1⟩) (meth := k2m1) (c := k2c1) (by decide +kernel) rfl rfl rfl (by decide +kernel)
set_option maxRecDepth 65536 in
theorem w_c6 : (Jvm.Cond.code ({ cls := "com/example/walk_to_worth/walktoworth/graph/IntSequence", name := "addBlock", desc := "()V" } : Jvm.MethodName) prog_7_method_7_code (2 : Nat) (Option.none : Option Jvm.ClassFile.FieldType)).before args0 about1 = true := code_word (m := ⟨2, 4⟩) (meth := k2m4) (c := k2c4) (by decide +kernel) rfl rfl rfl (by decide +kernel)
set_option maxRecDepth 65536 in
theorem w_c7 : (Jvm.Cond.code ({ cls := "com/example/walk_to_worth/walktoworth/graph/IntSequence", name := "blockLength", desc := "(I)I" } : Jvm.MethodName) prog_7_method_5_code (2 : Nat) (Option.some Jvm.ClassFile.FieldType.int)).before args0 about1 = true := code_word (m := ⟨2, 3⟩) (meth := k2m3) (c := k2c3) (by decide +kernel) rfl rfl rfl (by decide +kernel)
set_option maxRecDepth 65536 in
theorem w_c8 : (Jvm.Cond.code ({ cls := "java/lang/Math", name := "min", desc := "(II)I" } : Jvm.MethodName) jdk_29_method_69_code (2 : Nat) (Option.some Jvm.ClassFile.FieldType.int)).before args0 about1 = true := code_word (m := ⟨3, 1⟩) (meth := k3m1) (c := k3c1) (by decide +kernel) rfl rfl rfl (by decide +kernel)
def codes1 : List Jvm.Cond := [Jvm.Cond.code x code maxLocals ret, Jvm.Cond.code ({ cls := "com/example/walk_to_worth/walktoworth/graph/IntSequence", name := "<init>", desc := "()V" } : Jvm.MethodName) prog_7_method_1_code (1 : Nat) (Option.none : Option Jvm.ClassFile.FieldType), Jvm.Cond.code ({ cls := "java/lang/Object", name := "<init>", desc := "()V" } : Jvm.MethodName) object_method_1_code (1 : Nat) (Option.none : Option Jvm.ClassFile.FieldType), Jvm.Cond.code ({ cls := "com/example/walk_to_worth/walktoworth/graph/IntSequenceBlockLengthPinLaw", name := "fill", desc := "(Lcom/example/walk_to_worth/walktoworth/graph/IntSequence;II)V" } : Jvm.MethodName) method_3_code (3 : Nat) (Option.none : Option Jvm.ClassFile.FieldType), Jvm.Cond.code ({ cls := "com/example/walk_to_worth/walktoworth/graph/IntSequence", name := "blockCount", desc := "()I" } : Jvm.MethodName) prog_7_method_3_code (1 : Nat) (Option.some Jvm.ClassFile.FieldType.int), Jvm.Cond.code ({ cls := "com/example/walk_to_worth/walktoworth/graph/IntSequence", name := "add", desc := "(I)V" } : Jvm.MethodName) prog_7_method_2_code (2 : Nat) (Option.none : Option Jvm.ClassFile.FieldType), Jvm.Cond.code ({ cls := "com/example/walk_to_worth/walktoworth/graph/IntSequence", name := "addBlock", desc := "()V" } : Jvm.MethodName) prog_7_method_7_code (2 : Nat) (Option.none : Option Jvm.ClassFile.FieldType), Jvm.Cond.code ({ cls := "com/example/walk_to_worth/walktoworth/graph/IntSequence", name := "blockLength", desc := "(I)I" } : Jvm.MethodName) prog_7_method_5_code (2 : Nat) (Option.some Jvm.ClassFile.FieldType.int), Jvm.Cond.code ({ cls := "java/lang/Math", name := "min", desc := "(II)I" } : Jvm.MethodName) jdk_29_method_69_code (2 : Nat) (Option.some Jvm.ClassFile.FieldType.int)]
set_option maxRecDepth 65536 in
theorem codes_eq : words1.filter isCode = codes1 := rfl
theorem w_codes : ∀ c ∈ words1.filter isCode, c.before args0 about1 = true := by
  rw [codes_eq]
  intro c hc
  simp only [codes1, List.mem_cons, List.not_mem_nil, or_false] at hc
  rcases hc with rfl | rfl | rfl | rfl | rfl | rfl | rfl | rfl | rfl
  · exact w_c0
  · exact w_c1
  · exact w_c2
  · exact w_c3
  · exact w_c4
  · exact w_c5
  · exact w_c6
  · exact w_c7
  · exact w_c8
set_option maxRecDepth 65536 in
theorem w_t1 : (words1.take 24).all (fun c => isCode c || c.before args0 about1) = true := by decide +kernel
set_option maxRecDepth 65536 in
theorem w_t2 : ((words1.drop 24).take 24).all (fun c => isCode c || c.before args0 about1) = true := by decide +kernel
set_option maxRecDepth 65536 in
theorem w_t3 : ((words1.drop 24).drop 24).all (fun c => isCode c || c.before args0 about1) = true := by decide +kernel
theorem w_tables : (allAtoms (Jvm.Cond.code x code maxLocals ret :: tables_1)).before args0 about1 = true := by
  rw [allAtoms_all]
  show words1.all (fun c => c.before args0 about1) = true
  refine all_split ?_ w_codes
  rw [← List.take_append_drop 24 words1, List.all_append, w_t1, ← List.take_append_drop 24 (words1.drop 24), List.all_append, w_t2, w_t3]
  rfl
set_option maxRecDepth 65536 in
theorem w_case : (Jvm.Cond.and given_1 narrow_1).before args0 about1 = true := by decide +kernel
theorem w_applies : (headSpec (Jvm.Cond.code x code maxLocals ret :: tables_1) room_1).applies x e0.platform about1 = true :=
  (Spec.applies_iff w_frames).mpr ⟨w_running, w_runnable, w_alone, w_named, w_hears, w_ripe, w_room, w_tables⟩
theorem atStart : AtStart classFile x code maxLocals ret World_1 tables_1 room_1 Calls_1 rest_1 Pre_1 launch0 p0 e0 about1 theMethod args0 below0 :=
  ⟨lists_1, trivial, launch0.admits_env _ _ _, launch0.least_env, fairChoices_fair.cas, fairChoices_fair.clock, w_frames, w_args, w_heap, w_applies, trivial, trivial, w_case⟩
end start1
theorem witness_1 : WitnessClaimed_1 := ⟨start1.p0, start1.e0, start1.about1, start1.theMethod, start1.args0, start1.below0, start1.atStart⟩
end Jvm.Pilot.@@N@@
