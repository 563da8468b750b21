import JvmDerived
import JvmDerived.Pilot.@@N@@Statement
import JvmDerived.Pilot.@@N@@Code
set_option linter.unusedVariables false
set_option linter.unusedSimpArgs false
@@BLOCK:NumsL.lean.txt@@
namespace Jvm.Pilot.@@N@@
open Jvm Jvm.ClassFile Sem Op Lib Jvm.Free Jvm.Stand Jvm.LawKit Jvm.RoadKit Bundle Jvm.Pilot.@@N@@.Jvm.D
section Own
variable {p : Program} {l : Launch} {e : Env} {R : Room} {s Z : State} {m : MethodId} {args : Array Value} {below : List Frame} {meth : Method} {c : Code} {T : State} {locs : List Loc} {cells slots : Nat} {q : Option Value → Heap → List Loc → Prop}
/-- from U the run ends in a return, as q says -/
def own_Fin (p : Program) (e : Env) (below : List Frame) (s : State) (R : Room) (q : Option Value → Heap → List Loc → Prop) (U : State) : Prop :=
  ∃ s₂ o, Steps p.tables e below U s₂ ∧ s₂.status = .running ∧ Ended s₂ below o ∧ ∃ v L, o = .returned v ∧ q v s₂.heap L ∧ FrameEnd s o s₂ L R.cells R.slots
theorem own_to {U U' : State} (h : ∀ t, Steps p.tables e below U' t → Steps p.tables e below U t) (k : own_Fin p e below s R q U') : own_Fin p e below s R q U := by
  obtain ⟨s₂, o, h1, r⟩ := k
  exact ⟨s₂, o, h _ h1, r⟩
theorem own_ite {C : Prop} [Decidable C] {G : Int32 → State} {U : State} {v1 v0 : Int32} (k : own_Fin p e below s R q (G (if C then v1 else v0))) (h1 : C → own_Fin p e below s R q (G v1) → own_Fin p e below s R q U) (h0 : ¬ C → own_Fin p e below s R q (G v0) → own_Fin p e below s R q U) : own_Fin p e below s R q U := by
  by_cases h : C
  · rw [if_pos h] at k; exact h1 h k
  · rw [if_neg h] at k; exact h0 h k
theorem own_cut {U V : State} (k : own_Fin p e below s R q V) (h : own_Fin p e below s R q V → own_Fin p e below s R q U) : own_Fin p e below s R q U := h k
theorem own_retN (X : Stand p l e R s m args below meth c T locs cells slots) (hx : p.tables.exec = Jvm.exec) (hlk : meth.locks = false) {pc : Nat} {Ls : Array Slot} {z : Int32} {t : FieldType} {rest : List Value} (hret : meth.sig.returnType = some t) (ht : t = .boolean ∨ t = .byte ∨ t = .char ∨ t = .short) (hd : decode c.code pc = .ok (.ireturn, 1)) (hc : cells ≤ R.cells) (hs : slots ≤ R.slots) (hq : q (some (.int (nar t z))) T.heap locs) :
    own_Fin p e below s R q (T.setTop (mkF m pc Ls (.int z :: rest))) := by
  obtain ⟨fs, hr, hrun, hended, hW, hsame⟩ := X.leave (v := some (.int (nar t z))) (fun h => by rw [hret] at h; cases h)
  exact ⟨_, _, retN X hx hret ht hd hr, hrun, hended, _, _, rfl, hq, ⟨_, rfl⟩, hW, hsame.mono hc hs⟩
theorem own_retI (X : Stand p l e R s m args below meth c T locs cells slots) (hx : p.tables.exec = Jvm.exec) (hlk : meth.locks = false) {pc : Nat} {Ls : Array Slot} {z : Int32} {rest : List Value} (hret : meth.sig.returnType = some .int) (hd : decode c.code pc = .ok (.ireturn, 1)) (hc : cells ≤ R.cells) (hs : slots ≤ R.slots) (hq : q (some (.int z)) T.heap locs) :
    own_Fin p e below s R q (T.setTop (mkF m pc Ls (.int z :: rest))) := by
  obtain ⟨fs, hr, hrun, hended, hW, hsame⟩ := X.leave (v := some (.int z)) (fun h => by rw [hret] at h; cases h)
  exact ⟨_, _, retOut X hx hret rfl (Or.inl ⟨rfl, Or.inl rfl, z, rfl⟩) hd hr, hrun, hended, _, _, rfl, hq, ⟨_, rfl⟩, hW, hsame.mono hc hs⟩
theorem own_retJ (X : Stand p l e R s m args below meth c T locs cells slots) (hx : p.tables.exec = Jvm.exec) (hlk : meth.locks = false) {pc : Nat} {Ls : Array Slot} {z : Int64} {rest : List Value} (hret : meth.sig.returnType = some .long) (hd : decode c.code pc = .ok (.lreturn, 1)) (hc : cells ≤ R.cells) (hs : slots ≤ R.slots) (hq : q (some (.long z)) T.heap locs) :
    own_Fin p e below s R q (T.setTop (mkF m pc Ls (.long z :: rest))) := by
  obtain ⟨fs, hr, hrun, hended, hW, hsame⟩ := X.leave (v := some (.long z)) (fun h => by rw [hret] at h; cases h)
  exact ⟨_, _, retOut X hx hret rfl (Or.inr (Or.inl ⟨rfl, rfl, z, rfl⟩)) hd hr, hrun, hended, _, _, rfl, hq, ⟨_, rfl⟩, hW, hsame.mono hc hs⟩
theorem own_retR (X : Stand p l e R s m args below meth c T locs cells slots) (hx : p.tables.exec = Jvm.exec) (hlk : meth.locks = false) {pc : Nat} {Ls : Array Slot} {w : Value} {t : FieldType} {rest : List Value} (hret : meth.sig.returnType = some t) (ht : t.isReference = true) (hw : w.isRef = true) (hn : narrow t w = w) (hd : decode c.code pc = .ok (.areturn, 1)) (hc : cells ≤ R.cells) (hs : slots ≤ R.slots) (hq : q (some w) T.heap locs) :
    own_Fin p e below s R q (T.setTop (mkF m pc Ls (w :: rest))) := by
  obtain ⟨fs, hr, hrun, hended, hW, hsame⟩ := X.leave (v := some w) (fun h => by rw [hret] at h; cases h)
  exact ⟨_, _, retOut X hx hret hn (Or.inr (Or.inr (Or.inr (Or.inr ⟨rfl, ht, hw⟩)))) hd hr, hrun, hended, _, _, rfl, hq, ⟨_, rfl⟩, hW, hsame.mono hc hs⟩
theorem own_retV (X : Stand p l e R s m args below meth c T locs cells slots) (hx : p.tables.exec = Jvm.exec) (hlk : meth.locks = false) {pc : Nat} {Ls : Array Slot} (hret : meth.sig.returnType = none) (hd : decode c.code pc = .ok (.return_, 1)) (hc : cells ≤ R.cells) (hs : slots ≤ R.slots) (hq : q none T.heap locs) :
    own_Fin p e below s R q (T.setTop (mkF m pc Ls [])) := by
  obtain ⟨fs, hr, hrun, hended, hW, hsame⟩ := X.leave (v := none) (fun _ => rfl)
  exact ⟨_, _, X.returnOut hx hret hd hr, hrun, hended, _, _, rfl, hq, ⟨_, rfl⟩, hW, hsame.mono hc hs⟩
/-- the contract of a body at given arguments and a given heap -/
abbrev own_Met (l : Launch) (Z : State) (y : MethodName) (bytes : ByteArray) (maxL : Nat) (ret : Option FieldType) (ws : List Jvm.Cond) (rm : Room) (as' : Array Value) (h0 : Heap) (q : Option Value → Heap → List Loc → Prop) : Prop :=
  MetFree l y (head1 (Jvm.Cond.code y bytes maxL ret :: ws) rm) (fun a U => a = as' ∧ Z.Warmed39 U.vm ∧ U.heap = h0) (fun _ _ _ _ _ => True) (fun _ U o U' => ∃ v L, o = .returned v ∧ q v U'.heap L ∧ FrameEnd U o U' L rm.cells rm.slots)
theorem own_back {a0 : Array Value} {h : Heap} {y : MethodName} {bytes : ByteArray} {maxL : Nat} {ret : Option FieldType} {rm : Room} {len W : Nat} {as' : Array Value} (hM : own_Met l Z y bytes maxL ret [] rm as' h q)
    (hZ : Z.Warmed39 s.vm) (wc : (Jvm.Cond.code y bytes maxL ret).before a0 Z = true) (wz : (Jvm.Cond.initialized y.cls).before a0 Z = true) (hf : rm.frames + 1 ≤ R.frames) (hl : W + (maxL + 11) + rm.locals ≤ R.locals) :
    Back l R p e below s args y len W (fun A a => a = as' ∧ A.U.heap = h ∧ A.cells + rm.cells ≤ R.cells ∧ A.slots + rm.slots ≤ R.slots)
      (fun A _ v B => ∃ L, q v B.U.heap L ∧ B.locs = A.locs ++ L ∧ B.cells = A.cells + rm.cells ∧ B.slots = A.slots + rm.slots) := backOf (Q := q) hM hZ wc wz hf hl
theorem own_enter {y : MethodName} {bytes : ByteArray} {maxL : Nat} {ret : Option FieldType} {ws : List Jvm.Cond} {rm : Room} {as' : Array Value} {h0 : Heap} (hpl : plainFor y = true)
    (k : ∀ (p : Program) (e : Env) (s : State) (m : MethodId) (below : List Frame) (meth : Method) (c : Code) (s₁ : State), Stand p l e rm s m as' below meth c s₁ [] 0 0 → p.tables.exec = Jvm.exec → Z.Warmed39 s.vm → c.code = bytes → c.maxLocals = maxL → s.vm.findClass y.cls = some m.cls → meth.name = y.name → meth.sig.returnType = ret → meth.locks = false → s₁.heap = h0 → own_Fin p e below s rm q (s₁.setTop (entryFrame m as' maxL))) :
    own_Met l Z y bytes maxL ret ws rm as' h0 q := by
  refine MetFree.of_bodySF hpl hisR ?_
  intro p e s m args below meth c s₁ Bd hml0 hP hK
  obtain ⟨rfl, hZ, hh⟩ := hP
  exact k p e s m below meth c s₁ (Stand.of_body Bd) Bd.exec hZ Bd.bytes hml0 (findClass_of_methodNamed Bd.named) (name_of_methodNamed Bd.named Bd.method).1 Bd.returns Bd.notSynchronized (by rw [← hh, Bd.state]; rfl)
theorem own_selP {a : Array Value} {y y' : MethodName} (w : (Jvm.Cond.selects y'.cls y' y').before a s = true) (hc : y'.cls = y.cls) (hp : s.PrivateAt y) (hi : (Jvm.Cond.instanceMethod y).before a s = true) (hy : y.cls ≠ "java/lang/invoke/MethodHandle" ∧ y.cls ≠ "java/lang/invoke/VarHandle") : (Jvm.Cond.selects y.cls y y).before a s = true := by
  obtain ⟨c, r, m, h1, -, h3, -, mk, h4, h5⟩ := Cond.selects_spec w
  exact selects_self_of_private (c := m.cls) (k := mk) (hc ▸ findClass_of_methodNamed h3) h4 h5 hp hi hy
end Own
theorem own_d2_0 : decode jdk_30_method_1_code 0 = .ok (.aload_n 0, 1) := by decide +kernel
theorem own_d2_1 : decode jdk_30_method_1_code 1 = .ok (.invokespecial 1, 3) := by decide +kernel
theorem own_d2_4 : decode jdk_30_method_1_code 4 = .ok (.return_, 1) := by decide +kernel
theorem own_pn0 : plainName "java/lang/Record" = true := by first | (simp [plainName, overriddenIn]; done) | decide +kernel
theorem own_pd0 : parseMethodDescriptor "()V" = some ⟨[], none⟩ := by decide +kernel
theorem own_rm2_ef (m : MethodId) (a1 : Addr) : entryFrame m #[(.ref a1)] 1 = mkF m 0 #[.val (.ref a1)] [] := by first | (simp [entryFrame, mkF, argsToLocals, Value.category]; done) | rfl
set_option maxRecDepth 65536 in
set_option maxHeartbeats 40000000 in
theorem own_rm2 (l : Launch) (Z : State) (a0 : Array Value) (hw : ∀ d ∈ tables_1, d.before a0 Z = true) (ws : List Jvm.Cond) (a1 : Addr) (h0 : Heap) (n0 : Nat) (Z0 : n0 ≤ h0.size) :
    own_Met l Z (⟨"java/lang/Record", "<init>", "()V"⟩ : MethodName) jdk_30_method_1_code 1 none ws ({ frames := 1, cells := 0, slots := 0, locals := 16 } : Room) #[(.ref a1)] h0 (fun v h L => v = none ∧ Fr n0 L ∧ h = h0) := by
  refine own_enter (plainFor_of_name own_pn0) ?_
  intro p e s m below meth c s₁ X0 hx hZ hby hml hown hnm hret hlk e0
  have N0 := Fr.nil n0
  rw [own_rm2_ef m a1]
  show own_Fin _ _ _ _ _ _ (s₁.setTop (mkF m 0 #[.val (.ref a1)] []))
  refine own_to (fun t k => XS.aloadN X0.here hx rfl (hb hby own_d2_0) rfl rfl k) ?_
  show own_Fin _ _ _ _ _ _ (s₁.setTop (mkF m 1 #[.val (.ref a1)] [(.ref a1)]))
  obtain ⟨T1, X1, e1, st1⟩ := initO X0 hx hZ hown (hw _ (List.mem_of_getElem? (i := 11) rfl)) (hw _ (List.mem_of_getElem? (i := 12) rfl)) (hw _ (List.mem_of_getElem? (i := 13) rfl)) e0 (g := (mkF m 1 #[.val (.ref a1)] [(.ref a1)])) rfl (by rw [hml]; rfl) rfl (hb hby own_d2_1) (by decide) (W := 0) (by show 2 * 0 + _ ≤ _; exact Nat.le_of_eq rfl) (by decide)
  refine own_to (fun t k => st1 t k) ?_
  show own_Fin _ _ _ _ _ _ (T1.setTop (mkF m 4 #[.val (.ref a1)] []))
  refine own_retV X1 hx hlk hret (hb hby own_d2_4) (by decide) (by decide) ?_
  try rw [e1]
  exact ⟨rfl, N0, rfl⟩
theorem own_d1_0 : decode prog_7_method_1_code 0 = .ok (.aload_n 0, 1) := by decide +kernel
theorem own_d1_1 : decode prog_7_method_1_code 1 = .ok (.invokespecial 1, 3) := by decide +kernel
theorem own_d1_4 : decode prog_7_method_1_code 4 = .ok (.aload_n 0, 1) := by decide +kernel
theorem own_d1_5 : decode prog_7_method_1_code 5 = .ok (.aload_n 1, 1) := by decide +kernel
theorem own_d1_6 : decode prog_7_method_1_code 6 = .ok (.putfield 7, 3) := by decide +kernel
theorem own_d1_9 : decode prog_7_method_1_code 9 = .ok (.aload_n 0, 1) := by decide +kernel
theorem own_d1_10 : decode prog_7_method_1_code 10 = .ok (.lload_n 2, 1) := by decide +kernel
theorem own_d1_11 : decode prog_7_method_1_code 11 = .ok (.putfield 13, 3) := by decide +kernel
theorem own_d1_14 : decode prog_7_method_1_code 14 = .ok (.aload_n 0, 1) := by decide +kernel
theorem own_d1_15 : decode prog_7_method_1_code 15 = .ok (.lload 4, 2) := by decide +kernel
theorem own_d1_17 : decode prog_7_method_1_code 17 = .ok (.putfield 17, 3) := by decide +kernel
theorem own_d1_20 : decode prog_7_method_1_code 20 = .ok (.aload_n 0, 1) := by decide +kernel
theorem own_d1_21 : decode prog_7_method_1_code 21 = .ok (.aload 6, 2) := by decide +kernel
theorem own_d1_23 : decode prog_7_method_1_code 23 = .ok (.putfield 20, 3) := by decide +kernel
theorem own_d1_26 : decode prog_7_method_1_code 26 = .ok (.aload_n 0, 1) := by decide +kernel
theorem own_d1_27 : decode prog_7_method_1_code 27 = .ok (.aload 7, 2) := by decide +kernel
theorem own_d1_29 : decode prog_7_method_1_code 29 = .ok (.putfield 23, 3) := by decide +kernel
theorem own_d1_32 : decode prog_7_method_1_code 32 = .ok (.aload_n 0, 1) := by decide +kernel
theorem own_d1_33 : decode prog_7_method_1_code 33 = .ok (.lload 8, 2) := by decide +kernel
theorem own_d1_35 : decode prog_7_method_1_code 35 = .ok (.putfield 26, 3) := by decide +kernel
theorem own_d1_38 : decode prog_7_method_1_code 38 = .ok (.return_, 1) := by decide +kernel
theorem own_pn1 : plainName "com/example/deft_lock/deftlock/service/ServerInfo" = true := by first | (simp [plainName, overriddenIn]; done) | decide +kernel
theorem own_rm1_ef (m : MethodId) (a1 : Addr) (q1 : Int64) (q2 : Int64) (q3 : Int64) : entryFrame m #[(.ref a1), .null, (.long q1), (.long q2), .null, .null, (.long q3)] 10 = mkF m 0 #[.val (.ref a1), .val .null, .val (.long q1), .second, .val (.long q2), .second, .val .null, .val .null, .val (.long q3), .second] [] := by first | (simp [entryFrame, mkF, argsToLocals, Value.category]; done) | rfl
set_option maxRecDepth 65536 in
set_option maxHeartbeats 40000000 in
theorem own_rm1 (l : Launch) (Z : State) (a0 : Array Value) (hw : ∀ d ∈ tables_1, d.before a0 Z = true) (ws : List Jvm.Cond) (a1 : Addr) (q1 : Int64) (q2 : Int64) (q3 : Int64) (h0 : Heap) (n0 : Nat) (Z0 : n0 ≤ h0.size) (E1 : Exa Z h0 a1 "com/example/deft_lock/deftlock/service/ServerInfo") (F1 : Fld Z h0 a1 "com/example/deft_lock/deftlock/service/ServerInfo" "runId" "Ljava/lang/String;" .null) (F2 : Fld Z h0 a1 "com/example/deft_lock/deftlock/service/ServerInfo" "uptimeSeconds" "J" (.long (0 : Int64))) (F3 : Fld Z h0 a1 "com/example/deft_lock/deftlock/service/ServerInfo" "clockMicros" "J" (.long (0 : Int64))) (F4 : Fld Z h0 a1 "com/example/deft_lock/deftlock/service/ServerInfo" "role" "Ljava/lang/String;" .null) (F5 : Fld Z h0 a1 "com/example/deft_lock/deftlock/service/ServerInfo" "master" "Ljava/lang/String;" .null) (F6 : Fld Z h0 a1 "com/example/deft_lock/deftlock/service/ServerInfo" "connectedReplicas" "J" (.long (0 : Int64))) (g_a1 : n0 ≤ a1) :
    own_Met l Z (⟨"com/example/deft_lock/deftlock/service/ServerInfo", "<init>", "(Ljava/lang/String;JJLjava/lang/String;Ljava/lang/String;J)V"⟩ : MethodName) prog_7_method_1_code 10 none ws ({ frames := 2, cells := 0, slots := 0, locals := 32 } : Room) #[(.ref a1), .null, (.long q1), (.long q2), .null, .null, (.long q3)] h0 (fun v h L => v = none ∧ Fr n0 L ∧ Keep h0 h [a1] ∧ Fld Z h a1 "com/example/deft_lock/deftlock/service/ServerInfo" "clockMicros" "J" (.long q2)) := by
  refine own_enter (plainFor_of_name own_pn1) ?_
  intro p e s m below meth c s₁ X0 hx hZ hby hml hown hnm hret hlk e0
  have N0 := Fr.nil n0
  rw [own_rm1_ef m a1 q1 q2 q3]
  have KK0 : Keep h0 h0 [a1] := Keep.refl _ _
  show own_Fin _ _ _ _ _ _ (s₁.setTop (mkF m 0 #[.val (.ref a1), .val .null, .val (.long q1), .second, .val (.long q2), .second, .val .null, .val .null, .val (.long q3), .second] []))
  refine own_to (fun t k => XS.aloadN X0.here hx rfl (hb hby own_d1_0) rfl rfl k) ?_
  show own_Fin _ _ _ _ _ _ (s₁.setTop (mkF m 1 #[.val (.ref a1), .val .null, .val (.long q1), .second, .val (.long q2), .second, .val .null, .val .null, .val (.long q3), .second] [(.ref a1)]))
  obtain ⟨_, _, ⟨T2, L2, k2, n2⟩, -, X2, ⟨Lc2, hQ2, l2, y2, z2⟩, st2⟩ := X0.specialBack hx (y := (⟨"java/lang/Record", "<init>", "()V"⟩ : MethodName)) rfl hown (mvT hZ (hw _ (List.mem_of_getElem? (i := 6) rfl))) (mvT hZ (hw _ (List.mem_of_getElem? (i := 7) rfl))) (mvT hZ (hw _ (List.mem_of_getElem? (i := 10) rfl))) (by decide) (own_back (W := 0) (own_rm2 l Z a0 hw [] a1 h0 n0 Z0) hZ (hw _ (List.mem_of_getElem? (i := 10) rfl)) (hw _ (List.mem_of_getElem? (i := 9) rfl)) (by decide) (by decide)) (g := (mkF m 1 #[.val (.ref a1), .val .null, .val (.long q1), .second, .val (.long q2), .second, .val .null, .val .null, .val (.long q3), .second] [(.ref a1)])) rfl (by rw [hml]; rfl) (Steps.refl _) (a := a1) (argsL := []) (rest := []) (lenOf own_pd0 rfl) rfl (by show 2 * 0 + _ ≤ _; exact Nat.le_of_eq rfl) (hb hby own_d1_1) (fun _ _ => ⟨rfl, e0, (by decide : 0 + 0 ≤ _), (by decide : 0 + 0 ≤ _)⟩)
  dsimp only [Pt.U, Pt.locs, Pt.cells, Pt.slots] at X2 l2 y2 z2 st2 hQ2
  subst l2 y2 z2
  obtain ⟨rfl, N2q, eh2⟩ := hQ2
  have N2 := Fr.app N0 N2q
  refine own_to (fun t k => st2.trans k) ?_
  show own_Fin _ _ _ _ _ _ (T2.setTop (mkF m 4 #[.val (.ref a1), .val .null, .val (.long q1), .second, .val (.long q2), .second, .val .null, .val .null, .val (.long q3), .second] []))
  refine own_to (fun t k => XS.aloadN X2.here hx rfl (hb hby own_d1_4) rfl rfl k) ?_
  show own_Fin _ _ _ _ _ _ (T2.setTop (mkF m 5 #[.val (.ref a1), .val .null, .val (.long q1), .second, .val (.long q2), .second, .val .null, .val .null, .val (.long q3), .second] [(.ref a1)]))
  refine own_to (fun t k => XS.aloadN X2.here hx rfl (hb hby own_d1_5) rfl rfl k) ?_
  show own_Fin _ _ _ _ _ _ (T2.setTop (mkF m 6 #[.val (.ref a1), .val .null, .val (.long q1), .second, .val (.long q2), .second, .val .null, .val .null, .val (.long q3), .second] [.null, (.ref a1)]))
  obtain ⟨T3, h3, X3, e3, W3, st3⟩ := putF X2 hx hZ hown (host := "") (Or.inl (hw _ (List.mem_of_getElem? (i := 14) rfl))) Via.refl eh2 F1 E1 (Or.inr ⟨(hw _ (List.mem_of_getElem? (i := 15) rfl)), rfl, hnm⟩) (hw _ (List.mem_of_getElem? (i := 1) rfl)) (ty := (.object "java/lang/String")) (by decide) rfl rfl (g := (mkF m 6 #[.val (.ref a1), .val .null, .val (.long q1), .second, .val (.long q2), .second, .val .null, .val .null, .val (.long q3), .second] [.null, (.ref a1)])) rfl rfl (hb hby own_d1_6)
  have Fw3 := F1.same W3
  have N3 := Fr.snoc X3 N2 g_a1
  have KK3 : Keep h0 h3 [a1] := KK0.wr W3 (Or.inl (List.mem_of_getElem? (i := 0) rfl))
  have E1_e3 := E1.wr W3
  have F2_e3 := F2.other W3 (Or.inr (slot_ne (Or.inr (hw _ (List.mem_of_getElem? (i := 17) rfl))) (Or.inr (hw _ (List.mem_of_getElem? (i := 15) rfl))) (by decide) (t := .long) (t' := (.object "java/lang/String")) (by decide) (by decide)))
  have F3_e3 := F3.other W3 (Or.inr (slot_ne (Or.inr (hw _ (List.mem_of_getElem? (i := 19) rfl))) (Or.inr (hw _ (List.mem_of_getElem? (i := 15) rfl))) (by decide) (t := .long) (t' := (.object "java/lang/String")) (by decide) (by decide)))
  have F4_e3 := F4.other W3 (Or.inr (slot_ne (Or.inr (hw _ (List.mem_of_getElem? (i := 21) rfl))) (Or.inr (hw _ (List.mem_of_getElem? (i := 15) rfl))) (by decide) (t := (.object "java/lang/String")) (t' := (.object "java/lang/String")) (by decide) (by decide)))
  have F5_e3 := F5.other W3 (Or.inr (slot_ne (Or.inr (hw _ (List.mem_of_getElem? (i := 23) rfl))) (Or.inr (hw _ (List.mem_of_getElem? (i := 15) rfl))) (by decide) (t := (.object "java/lang/String")) (t' := (.object "java/lang/String")) (by decide) (by decide)))
  have F6_e3 := F6.other W3 (Or.inr (slot_ne (Or.inr (hw _ (List.mem_of_getElem? (i := 25) rfl))) (Or.inr (hw _ (List.mem_of_getElem? (i := 15) rfl))) (by decide) (t := .long) (t' := (.object "java/lang/String")) (by decide) (by decide)))
  refine own_to (fun t k => st3 t k) ?_
  show own_Fin _ _ _ _ _ _ (T3.setTop (mkF m 9 #[.val (.ref a1), .val .null, .val (.long q1), .second, .val (.long q2), .second, .val .null, .val .null, .val (.long q3), .second] []))
  refine own_to (fun t k => XS.aloadN X3.here hx rfl (hb hby own_d1_9) rfl rfl k) ?_
  show own_Fin _ _ _ _ _ _ (T3.setTop (mkF m 10 #[.val (.ref a1), .val .null, .val (.long q1), .second, .val (.long q2), .second, .val .null, .val .null, .val (.long q3), .second] [(.ref a1)]))
  refine own_to (fun t k => XS.lloadN X3.here hx rfl (hb hby own_d1_10) rfl k) ?_
  show own_Fin _ _ _ _ _ _ (T3.setTop (mkF m 11 #[.val (.ref a1), .val .null, .val (.long q1), .second, .val (.long q2), .second, .val .null, .val .null, .val (.long q3), .second] [(.long q1), (.ref a1)]))
  obtain ⟨T4, h4, X4, e4, W4, st4⟩ := putF X3 hx hZ hown (host := "") (Or.inl (hw _ (List.mem_of_getElem? (i := 16) rfl))) Via.refl e3 F2_e3 E1_e3 (Or.inr ⟨(hw _ (List.mem_of_getElem? (i := 17) rfl)), rfl, hnm⟩) (hw _ (List.mem_of_getElem? (i := 1) rfl)) (ty := .long) (by decide) rfl rfl (g := (mkF m 11 #[.val (.ref a1), .val .null, .val (.long q1), .second, .val (.long q2), .second, .val .null, .val .null, .val (.long q3), .second] [(.long q1), (.ref a1)])) rfl rfl (hb hby own_d1_11)
  have Fw4 := F2_e3.same W4
  have N4 := Fr.snoc X4 N3 g_a1
  have KK4 : Keep h0 h4 [a1] := KK3.wr W4 (Or.inl (List.mem_of_getElem? (i := 0) rfl))
  have E1_e4 := E1_e3.wr W4
  have Fw3_e4 := Fw3.other W4 (Or.inr (slot_ne (Or.inr (hw _ (List.mem_of_getElem? (i := 15) rfl))) (Or.inr (hw _ (List.mem_of_getElem? (i := 17) rfl))) (by decide) (t := (.object "java/lang/String")) (t' := .long) (by decide) (by decide)))
  have F3_e4 := F3_e3.other W4 (Or.inr (slot_ne (Or.inr (hw _ (List.mem_of_getElem? (i := 19) rfl))) (Or.inr (hw _ (List.mem_of_getElem? (i := 17) rfl))) (by decide) (t := .long) (t' := .long) (by decide) (by decide)))
  have F4_e4 := F4_e3.other W4 (Or.inr (slot_ne (Or.inr (hw _ (List.mem_of_getElem? (i := 21) rfl))) (Or.inr (hw _ (List.mem_of_getElem? (i := 17) rfl))) (by decide) (t := (.object "java/lang/String")) (t' := .long) (by decide) (by decide)))
  have F5_e4 := F5_e3.other W4 (Or.inr (slot_ne (Or.inr (hw _ (List.mem_of_getElem? (i := 23) rfl))) (Or.inr (hw _ (List.mem_of_getElem? (i := 17) rfl))) (by decide) (t := (.object "java/lang/String")) (t' := .long) (by decide) (by decide)))
  have F6_e4 := F6_e3.other W4 (Or.inr (slot_ne (Or.inr (hw _ (List.mem_of_getElem? (i := 25) rfl))) (Or.inr (hw _ (List.mem_of_getElem? (i := 17) rfl))) (by decide) (t := .long) (t' := .long) (by decide) (by decide)))
  refine own_to (fun t k => st4 t k) ?_
  show own_Fin _ _ _ _ _ _ (T4.setTop (mkF m 14 #[.val (.ref a1), .val .null, .val (.long q1), .second, .val (.long q2), .second, .val .null, .val .null, .val (.long q3), .second] []))
  refine own_to (fun t k => XS.aloadN X4.here hx rfl (hb hby own_d1_14) rfl rfl k) ?_
  show own_Fin _ _ _ _ _ _ (T4.setTop (mkF m 15 #[.val (.ref a1), .val .null, .val (.long q1), .second, .val (.long q2), .second, .val .null, .val .null, .val (.long q3), .second] [(.ref a1)]))
  refine own_to (fun t k => XS.lload X4.here hx rfl (hb hby own_d1_15) rfl k) ?_
  show own_Fin _ _ _ _ _ _ (T4.setTop (mkF m 17 #[.val (.ref a1), .val .null, .val (.long q1), .second, .val (.long q2), .second, .val .null, .val .null, .val (.long q3), .second] [(.long q2), (.ref a1)]))
  obtain ⟨T5, h5, X5, e5, W5, st5⟩ := putF X4 hx hZ hown (host := "") (Or.inl (hw _ (List.mem_of_getElem? (i := 18) rfl))) Via.refl e4 F3_e4 E1_e4 (Or.inr ⟨(hw _ (List.mem_of_getElem? (i := 19) rfl)), rfl, hnm⟩) (hw _ (List.mem_of_getElem? (i := 1) rfl)) (ty := .long) (by decide) rfl rfl (g := (mkF m 17 #[.val (.ref a1), .val .null, .val (.long q1), .second, .val (.long q2), .second, .val .null, .val .null, .val (.long q3), .second] [(.long q2), (.ref a1)])) rfl rfl (hb hby own_d1_17)
  have Fw5 := F3_e4.same W5
  have N5 := Fr.snoc X5 N4 g_a1
  have KK5 : Keep h0 h5 [a1] := KK4.wr W5 (Or.inl (List.mem_of_getElem? (i := 0) rfl))
  have E1_e5 := E1_e4.wr W5
  have Fw3_e5 := Fw3_e4.other W5 (Or.inr (slot_ne (Or.inr (hw _ (List.mem_of_getElem? (i := 15) rfl))) (Or.inr (hw _ (List.mem_of_getElem? (i := 19) rfl))) (by decide) (t := (.object "java/lang/String")) (t' := .long) (by decide) (by decide)))
  have Fw4_e5 := Fw4.other W5 (Or.inr (slot_ne (Or.inr (hw _ (List.mem_of_getElem? (i := 17) rfl))) (Or.inr (hw _ (List.mem_of_getElem? (i := 19) rfl))) (by decide) (t := .long) (t' := .long) (by decide) (by decide)))
  have F4_e5 := F4_e4.other W5 (Or.inr (slot_ne (Or.inr (hw _ (List.mem_of_getElem? (i := 21) rfl))) (Or.inr (hw _ (List.mem_of_getElem? (i := 19) rfl))) (by decide) (t := (.object "java/lang/String")) (t' := .long) (by decide) (by decide)))
  have F5_e5 := F5_e4.other W5 (Or.inr (slot_ne (Or.inr (hw _ (List.mem_of_getElem? (i := 23) rfl))) (Or.inr (hw _ (List.mem_of_getElem? (i := 19) rfl))) (by decide) (t := (.object "java/lang/String")) (t' := .long) (by decide) (by decide)))
  have F6_e5 := F6_e4.other W5 (Or.inr (slot_ne (Or.inr (hw _ (List.mem_of_getElem? (i := 25) rfl))) (Or.inr (hw _ (List.mem_of_getElem? (i := 19) rfl))) (by decide) (t := .long) (t' := .long) (by decide) (by decide)))
  refine own_to (fun t k => st5 t k) ?_
  show own_Fin _ _ _ _ _ _ (T5.setTop (mkF m 20 #[.val (.ref a1), .val .null, .val (.long q1), .second, .val (.long q2), .second, .val .null, .val .null, .val (.long q3), .second] []))
  refine own_to (fun t k => XS.aloadN X5.here hx rfl (hb hby own_d1_20) rfl rfl k) ?_
  show own_Fin _ _ _ _ _ _ (T5.setTop (mkF m 21 #[.val (.ref a1), .val .null, .val (.long q1), .second, .val (.long q2), .second, .val .null, .val .null, .val (.long q3), .second] [(.ref a1)]))
  refine own_to (fun t k => XS.aload X5.here hx rfl (hb hby own_d1_21) rfl rfl k) ?_
  show own_Fin _ _ _ _ _ _ (T5.setTop (mkF m 23 #[.val (.ref a1), .val .null, .val (.long q1), .second, .val (.long q2), .second, .val .null, .val .null, .val (.long q3), .second] [.null, (.ref a1)]))
  obtain ⟨T6, h6, X6, e6, W6, st6⟩ := putF X5 hx hZ hown (host := "") (Or.inl (hw _ (List.mem_of_getElem? (i := 20) rfl))) Via.refl e5 F4_e5 E1_e5 (Or.inr ⟨(hw _ (List.mem_of_getElem? (i := 21) rfl)), rfl, hnm⟩) (hw _ (List.mem_of_getElem? (i := 1) rfl)) (ty := (.object "java/lang/String")) (by decide) rfl rfl (g := (mkF m 23 #[.val (.ref a1), .val .null, .val (.long q1), .second, .val (.long q2), .second, .val .null, .val .null, .val (.long q3), .second] [.null, (.ref a1)])) rfl rfl (hb hby own_d1_23)
  have Fw6 := F4_e5.same W6
  have N6 := Fr.snoc X6 N5 g_a1
  have KK6 : Keep h0 h6 [a1] := KK5.wr W6 (Or.inl (List.mem_of_getElem? (i := 0) rfl))
  have E1_e6 := E1_e5.wr W6
  have Fw3_e6 := Fw3_e5.other W6 (Or.inr (slot_ne (Or.inr (hw _ (List.mem_of_getElem? (i := 15) rfl))) (Or.inr (hw _ (List.mem_of_getElem? (i := 21) rfl))) (by decide) (t := (.object "java/lang/String")) (t' := (.object "java/lang/String")) (by decide) (by decide)))
  have Fw4_e6 := Fw4_e5.other W6 (Or.inr (slot_ne (Or.inr (hw _ (List.mem_of_getElem? (i := 17) rfl))) (Or.inr (hw _ (List.mem_of_getElem? (i := 21) rfl))) (by decide) (t := .long) (t' := (.object "java/lang/String")) (by decide) (by decide)))
  have Fw5_e6 := Fw5.other W6 (Or.inr (slot_ne (Or.inr (hw _ (List.mem_of_getElem? (i := 19) rfl))) (Or.inr (hw _ (List.mem_of_getElem? (i := 21) rfl))) (by decide) (t := .long) (t' := (.object "java/lang/String")) (by decide) (by decide)))
  have F5_e6 := F5_e5.other W6 (Or.inr (slot_ne (Or.inr (hw _ (List.mem_of_getElem? (i := 23) rfl))) (Or.inr (hw _ (List.mem_of_getElem? (i := 21) rfl))) (by decide) (t := (.object "java/lang/String")) (t' := (.object "java/lang/String")) (by decide) (by decide)))
  have F6_e6 := F6_e5.other W6 (Or.inr (slot_ne (Or.inr (hw _ (List.mem_of_getElem? (i := 25) rfl))) (Or.inr (hw _ (List.mem_of_getElem? (i := 21) rfl))) (by decide) (t := .long) (t' := (.object "java/lang/String")) (by decide) (by decide)))
  refine own_to (fun t k => st6 t k) ?_
  show own_Fin _ _ _ _ _ _ (T6.setTop (mkF m 26 #[.val (.ref a1), .val .null, .val (.long q1), .second, .val (.long q2), .second, .val .null, .val .null, .val (.long q3), .second] []))
  refine own_to (fun t k => XS.aloadN X6.here hx rfl (hb hby own_d1_26) rfl rfl k) ?_
  show own_Fin _ _ _ _ _ _ (T6.setTop (mkF m 27 #[.val (.ref a1), .val .null, .val (.long q1), .second, .val (.long q2), .second, .val .null, .val .null, .val (.long q3), .second] [(.ref a1)]))
  refine own_to (fun t k => XS.aload X6.here hx rfl (hb hby own_d1_27) rfl rfl k) ?_
  show own_Fin _ _ _ _ _ _ (T6.setTop (mkF m 29 #[.val (.ref a1), .val .null, .val (.long q1), .second, .val (.long q2), .second, .val .null, .val .null, .val (.long q3), .second] [.null, (.ref a1)]))
  obtain ⟨T7, h7, X7, e7, W7, st7⟩ := putF X6 hx hZ hown (host := "") (Or.inl (hw _ (List.mem_of_getElem? (i := 22) rfl))) Via.refl e6 F5_e6 E1_e6 (Or.inr ⟨(hw _ (List.mem_of_getElem? (i := 23) rfl)), rfl, hnm⟩) (hw _ (List.mem_of_getElem? (i := 1) rfl)) (ty := (.object "java/lang/String")) (by decide) rfl rfl (g := (mkF m 29 #[.val (.ref a1), .val .null, .val (.long q1), .second, .val (.long q2), .second, .val .null, .val .null, .val (.long q3), .second] [.null, (.ref a1)])) rfl rfl (hb hby own_d1_29)
  have Fw7 := F5_e6.same W7
  have N7 := Fr.snoc X7 N6 g_a1
  have KK7 : Keep h0 h7 [a1] := KK6.wr W7 (Or.inl (List.mem_of_getElem? (i := 0) rfl))
  have E1_e7 := E1_e6.wr W7
  have Fw3_e7 := Fw3_e6.other W7 (Or.inr (slot_ne (Or.inr (hw _ (List.mem_of_getElem? (i := 15) rfl))) (Or.inr (hw _ (List.mem_of_getElem? (i := 23) rfl))) (by decide) (t := (.object "java/lang/String")) (t' := (.object "java/lang/String")) (by decide) (by decide)))
  have Fw4_e7 := Fw4_e6.other W7 (Or.inr (slot_ne (Or.inr (hw _ (List.mem_of_getElem? (i := 17) rfl))) (Or.inr (hw _ (List.mem_of_getElem? (i := 23) rfl))) (by decide) (t := .long) (t' := (.object "java/lang/String")) (by decide) (by decide)))
  have Fw5_e7 := Fw5_e6.other W7 (Or.inr (slot_ne (Or.inr (hw _ (List.mem_of_getElem? (i := 19) rfl))) (Or.inr (hw _ (List.mem_of_getElem? (i := 23) rfl))) (by decide) (t := .long) (t' := (.object "java/lang/String")) (by decide) (by decide)))
  have Fw6_e7 := Fw6.other W7 (Or.inr (slot_ne (Or.inr (hw _ (List.mem_of_getElem? (i := 21) rfl))) (Or.inr (hw _ (List.mem_of_getElem? (i := 23) rfl))) (by decide) (t := (.object "java/lang/String")) (t' := (.object "java/lang/String")) (by decide) (by decide)))
  have F6_e7 := F6_e6.other W7 (Or.inr (slot_ne (Or.inr (hw _ (List.mem_of_getElem? (i := 25) rfl))) (Or.inr (hw _ (List.mem_of_getElem? (i := 23) rfl))) (by decide) (t := .long) (t' := (.object "java/lang/String")) (by decide) (by decide)))
  refine own_to (fun t k => st7 t k) ?_
  show own_Fin _ _ _ _ _ _ (T7.setTop (mkF m 32 #[.val (.ref a1), .val .null, .val (.long q1), .second, .val (.long q2), .second, .val .null, .val .null, .val (.long q3), .second] []))
  refine own_to (fun t k => XS.aloadN X7.here hx rfl (hb hby own_d1_32) rfl rfl k) ?_
  show own_Fin _ _ _ _ _ _ (T7.setTop (mkF m 33 #[.val (.ref a1), .val .null, .val (.long q1), .second, .val (.long q2), .second, .val .null, .val .null, .val (.long q3), .second] [(.ref a1)]))
  refine own_to (fun t k => XS.lload X7.here hx rfl (hb hby own_d1_33) rfl k) ?_
  show own_Fin _ _ _ _ _ _ (T7.setTop (mkF m 35 #[.val (.ref a1), .val .null, .val (.long q1), .second, .val (.long q2), .second, .val .null, .val .null, .val (.long q3), .second] [(.long q3), (.ref a1)]))
  obtain ⟨T8, h8, X8, e8, W8, st8⟩ := putF X7 hx hZ hown (host := "") (Or.inl (hw _ (List.mem_of_getElem? (i := 24) rfl))) Via.refl e7 F6_e7 E1_e7 (Or.inr ⟨(hw _ (List.mem_of_getElem? (i := 25) rfl)), rfl, hnm⟩) (hw _ (List.mem_of_getElem? (i := 1) rfl)) (ty := .long) (by decide) rfl rfl (g := (mkF m 35 #[.val (.ref a1), .val .null, .val (.long q1), .second, .val (.long q2), .second, .val .null, .val .null, .val (.long q3), .second] [(.long q3), (.ref a1)])) rfl rfl (hb hby own_d1_35)
  have Fw8 := F6_e7.same W8
  have N8 := Fr.snoc X8 N7 g_a1
  have KK8 : Keep h0 h8 [a1] := KK7.wr W8 (Or.inl (List.mem_of_getElem? (i := 0) rfl))
  have E1_e8 := E1_e7.wr W8
  have Fw3_e8 := Fw3_e7.other W8 (Or.inr (slot_ne (Or.inr (hw _ (List.mem_of_getElem? (i := 15) rfl))) (Or.inr (hw _ (List.mem_of_getElem? (i := 25) rfl))) (by decide) (t := (.object "java/lang/String")) (t' := .long) (by decide) (by decide)))
  have Fw4_e8 := Fw4_e7.other W8 (Or.inr (slot_ne (Or.inr (hw _ (List.mem_of_getElem? (i := 17) rfl))) (Or.inr (hw _ (List.mem_of_getElem? (i := 25) rfl))) (by decide) (t := .long) (t' := .long) (by decide) (by decide)))
  have Fw5_e8 := Fw5_e7.other W8 (Or.inr (slot_ne (Or.inr (hw _ (List.mem_of_getElem? (i := 19) rfl))) (Or.inr (hw _ (List.mem_of_getElem? (i := 25) rfl))) (by decide) (t := .long) (t' := .long) (by decide) (by decide)))
  have Fw6_e8 := Fw6_e7.other W8 (Or.inr (slot_ne (Or.inr (hw _ (List.mem_of_getElem? (i := 21) rfl))) (Or.inr (hw _ (List.mem_of_getElem? (i := 25) rfl))) (by decide) (t := (.object "java/lang/String")) (t' := .long) (by decide) (by decide)))
  have Fw7_e8 := Fw7.other W8 (Or.inr (slot_ne (Or.inr (hw _ (List.mem_of_getElem? (i := 23) rfl))) (Or.inr (hw _ (List.mem_of_getElem? (i := 25) rfl))) (by decide) (t := (.object "java/lang/String")) (t' := .long) (by decide) (by decide)))
  refine own_to (fun t k => st8 t k) ?_
  show own_Fin _ _ _ _ _ _ (T8.setTop (mkF m 38 #[.val (.ref a1), .val .null, .val (.long q1), .second, .val (.long q2), .second, .val .null, .val .null, .val (.long q3), .second] []))
  refine own_retV X8 hx hlk hret (hb hby own_d1_38) (by decide) (by decide) ?_
  try rw [e8]
  exact ⟨rfl, N8, KK8, Fw5_e8⟩
def own_mic (q1 : Int64) : Int64 := (if q1 < (0 : Int64) then (0 : Int64) else (q1 - ((q1 / (1000000 : Int64)) * (1000000 : Int64))))
theorem own_d4_0 : decode prog_7_method_5_code 0 = .ok (.aload_n 0, 1) := by decide +kernel
theorem own_d4_1 : decode prog_7_method_5_code 1 = .ok (.getfield 17, 3) := by decide +kernel
theorem own_d4_4 : decode prog_7_method_5_code 4 = .ok (.lconst 0, 1) := by decide +kernel
theorem own_d4_5 : decode prog_7_method_5_code 5 = .ok (.lcmp, 1) := by decide +kernel
theorem own_d4_6 : decode prog_7_method_5_code 6 = .ok (.ifCond .ge 7, 3) := by decide +kernel
theorem own_d4_9 : decode prog_7_method_5_code 9 = .ok (.lconst 0, 1) := by decide +kernel
theorem own_d4_10 : decode prog_7_method_5_code 10 = .ok (.goto 11, 3) := by decide +kernel
theorem own_d4_13 : decode prog_7_method_5_code 13 = .ok (.aload_n 0, 1) := by decide +kernel
theorem own_d4_14 : decode prog_7_method_5_code 14 = .ok (.getfield 17, 3) := by decide +kernel
theorem own_d4_17 : decode prog_7_method_5_code 17 = .ok (.ldc2_w 105, 3) := by decide +kernel
theorem own_d4_20 : decode prog_7_method_5_code 20 = .ok (.lrem, 1) := by decide +kernel
theorem own_d4_21 : decode prog_7_method_5_code 21 = .ok (.lreturn, 1) := by decide +kernel
theorem own_rm4_ef (m : MethodId) (a1 : Addr) : entryFrame m #[(.ref a1)] 1 = mkF m 0 #[.val (.ref a1)] [] := by first | (simp [entryFrame, mkF, argsToLocals, Value.category]; done) | rfl
set_option maxRecDepth 65536 in
set_option maxHeartbeats 40000000 in
theorem own_rm4 (l : Launch) (Z : State) (a0 : Array Value) (hw : ∀ d ∈ tables_1, d.before a0 Z = true) (ws : List Jvm.Cond) (a1 : Addr) (q1 : Int64) (h0 : Heap) (n0 : Nat) (Z0 : n0 ≤ h0.size) (F1 : Fld Z h0 a1 "com/example/deft_lock/deftlock/service/ServerInfo" "clockMicros" "J" (.long q1)) :
    own_Met l Z (⟨"com/example/deft_lock/deftlock/service/ServerInfo", "microsIntoSecond", "()J"⟩ : MethodName) prog_7_method_5_code 1 (some .long) ws ({ frames := 0, cells := 0, slots := 0, locals := 0 } : Room) #[(.ref a1)] h0 (fun v h L => v = some (.long (own_mic q1)) ∧ Fr n0 L ∧ h = h0) := by
  refine own_enter (plainFor_of_name own_pn1) ?_
  intro p e s m below meth c s₁ X0 hx hZ hby hml hown hnm hret hlk e0
  have N0 := Fr.nil n0
  rw [own_rm4_ef m a1]
  show own_Fin _ _ _ _ _ _ (s₁.setTop (mkF m 0 #[.val (.ref a1)] []))
  refine own_to (fun t k => XS.aloadN X0.here hx rfl (hb hby own_d4_0) rfl rfl k) ?_
  show own_Fin _ _ _ _ _ _ (s₁.setTop (mkF m 1 #[.val (.ref a1)] [(.ref a1)]))
  obtain ⟨T9, X9, e9, st9⟩ := getF X0 hx hZ hown (host := "") (Or.inl (hw _ (List.mem_of_getElem? (i := 18) rfl))) Via.refl e0 F1 (g := (mkF m 1 #[.val (.ref a1)] [(.ref a1)])) rfl rfl (hb hby own_d4_1)
  refine own_to (fun t k => st9 t k) ?_
  show own_Fin _ _ _ _ _ _ (T9.setTop (mkF m 4 #[.val (.ref a1)] [(.long q1)]))
  refine own_to (fun t k => XS.lconst X9.here hx rfl (hb hby own_d4_4) k) ?_
  show own_Fin _ _ _ _ _ _ (T9.setTop (mkF m 5 #[.val (.ref a1)] [(.long (0 : Int64)), (.long q1)]))
  refine own_to (fun t k => XS.lcmp X9.here hx rfl (hb hby own_d4_5) rfl k) ?_
  show own_Fin _ _ _ _ _ _ (T9.setTop (mkF m 6 #[.val (.ref a1)] [(.int (lcmpW q1 (0 : Int64)))]))
  by_cases hc6_10 : q1 < (0 : Int64)
  ·
    show own_Fin _ _ _ _ _ _ (T9.setTop (mkF m 6 #[.val (.ref a1)] [(.int (lcmpW q1 (0 : Int64)))]))
    refine own_to (fun t k => XS.ifNo X9.here hx rfl (hb hby own_d4_6) rfl ((if0 _ _).trans (tlt ((lw_lt _ _).mpr hc6_10)).2.1) k) ?_
    show own_Fin _ _ _ _ _ _ (T9.setTop (mkF m 9 #[.val (.ref a1)] []))
    refine own_to (fun t k => XS.lconst X9.here hx rfl (hb hby own_d4_9) k) ?_
    show own_Fin _ _ _ _ _ _ (T9.setTop (mkF m 10 #[.val (.ref a1)] [(.long (0 : Int64))]))
    refine own_to (fun t k => XS.goto X9.here hx rfl (pc0 := 10) (pc' := 21) rfl (hb hby own_d4_10) (by decide) (by decide) k) ?_
    show own_Fin _ _ _ _ _ _ (T9.setTop (mkF m 21 #[.val (.ref a1)] [(.long (0 : Int64))]))
    refine own_retJ X9 hx hlk hret (hb hby own_d4_21) (by decide) (by decide) ?_
    try rw [e9]
    exact ⟨congrArg (fun z => some (Value.long z)) (Eq.symm (show own_mic q1 = _ from ((if_pos hc6_10).trans rfl))), N0, rfl⟩
  ·
    show own_Fin _ _ _ _ _ _ (T9.setTop (mkF m 6 #[.val (.ref a1)] [(.int (lcmpW q1 (0 : Int64)))]))
    refine own_to (fun t k => XS.ifYes X9.here hx rfl (pc0 := 6) (pc' := 13) rfl (hb hby own_d4_6) rfl ((if0 _ _).trans (flt (fun z => hc6_10 ((lw_lt _ _).mp z))).2.1) (by decide) (by decide) k) ?_
    show own_Fin _ _ _ _ _ _ (T9.setTop (mkF m 13 #[.val (.ref a1)] []))
    refine own_to (fun t k => XS.aloadN X9.here hx rfl (hb hby own_d4_13) rfl rfl k) ?_
    show own_Fin _ _ _ _ _ _ (T9.setTop (mkF m 14 #[.val (.ref a1)] [(.ref a1)]))
    obtain ⟨T11, X11, e11, st11⟩ := getF X9 hx hZ hown (host := "") (Or.inl (hw _ (List.mem_of_getElem? (i := 18) rfl))) Via.refl e9 F1 (g := (mkF m 14 #[.val (.ref a1)] [(.ref a1)])) rfl rfl (hb hby own_d4_14)
    refine own_to (fun t k => st11 t k) ?_
    show own_Fin _ _ _ _ _ _ (T11.setTop (mkF m 17 #[.val (.ref a1)] [(.long q1)]))
    refine own_to (fun t k => X11.ldc2Long hx hown (mvT hZ (hw _ (List.mem_of_getElem? (i := 31) rfl))) (g := (mkF m 17 #[.val (.ref a1)] [(.long q1)])) rfl (hb hby own_d4_17) _ k) ?_
    show own_Fin _ _ _ _ _ _ (T11.setTop (mkF m 20 #[.val (.ref a1)] [(.long (1000000 : Int64)), (.long q1)]))
    refine own_to (fun t k => XS.lrem X11.here hx rfl (hb hby own_d4_20) rfl (by decide) k) ?_
    show own_Fin _ _ _ _ _ _ (T11.setTop (mkF m 21 #[.val (.ref a1)] [(.long (q1 - ((q1 / (1000000 : Int64)) * (1000000 : Int64))))]))
    refine own_retJ X11 hx hlk hret (hb hby own_d4_21) (by decide) (by decide) ?_
    try rw [e11]
    exact ⟨congrArg (fun z => some (Value.long z)) (Eq.symm (show own_mic q1 = _ from ((if_neg hc6_10).trans rfl))), N0, rfl⟩
def own_law (q1 : Int64) : Int32 := (if q1 < (0 : Int64) then (if (own_mic q1) = (0 : Int64) then (1 : Int32) else (0 : Int32)) else (if (own_mic q1) < (0 : Int64) then (0 : Int32) else (if (own_mic q1) < (1000000 : Int64) then (if (((q1 - (own_mic q1)) / (1000000 : Int64)) * (1000000 : Int64)) = (q1 - (own_mic q1)) then (1 : Int32) else (0 : Int32)) else (0 : Int32))))
theorem own_pn2 : plainName "com/example/deft_lock/deftlock/service/ServerInfoMicrosIntoSecondPinLaw" = true := by first | (simp [plainName, overriddenIn]; done) | decide +kernel
theorem own_pd1 : parseMethodDescriptor "(Ljava/lang/String;JJLjava/lang/String;Ljava/lang/String;J)V" = some ⟨[(.object "java/lang/String"), .long, .long, (.object "java/lang/String"), (.object "java/lang/String"), .long], none⟩ := by decide +kernel
theorem own_pd2 : parseMethodDescriptor "()J" = some ⟨[], some .long⟩ := by decide +kernel
theorem own_rm0x_ef (m : MethodId) (q1 : Int64) (q2 : Int64) (q3 : Int64) : entryFrame m #[(.long q1), (.long q2), (.long q3)] maxLocals = mkF m 0 #[.val (.long q1), .second, .val (.long q2), .second, .val (.long q3), .second, .unset, .unset, .unset, .unset, .unset, .unset, .unset] [] := by first | (simp [entryFrame, mkF, argsToLocals, Value.category, maxLocals]; done) | rfl
set_option maxRecDepth 65536 in
set_option maxHeartbeats 40000000 in
theorem own_rm0x (l : Launch) (Z : State) (a0 : Array Value) (hw : ∀ d ∈ tables_1, d.before a0 Z = true) (ws : List Jvm.Cond) (q1 : Int64) (q2 : Int64) (q3 : Int64) (h0 : Heap) (n0 : Nat) (Z0 : n0 ≤ h0.size) :
    own_Met l Z x code maxLocals ret ws room_1 #[(.long q1), (.long q2), (.long q3)] h0 (fun v h L => v = some (.int (own_law q1)) ∧ Fr n0 L) := by
  refine own_enter (plainFor_of_name own_pn2) ?_
  intro p e s m below meth c s₁ X0 hx hZ hby hml hown hnm hret hlk e0
  have N0 := Fr.nil n0
  rw [own_rm0x_ef m q1 q2 q3]
  show own_Fin _ _ _ _ _ _ (s₁.setTop (mkF m 0 #[.val (.long q1), .second, .val (.long q2), .second, .val (.long q3), .second, .unset, .unset, .unset, .unset, .unset, .unset, .unset] []))
  obtain ⟨T12, h12, X12, e12, E12, A12, D12, U12, st12⟩ := newO X0 hx hZ hown (hw _ (List.mem_of_getElem? (i := 0) rfl)) (hw _ (List.mem_of_getElem? (i := 1) rfl)) (hw _ (List.mem_of_getElem? (i := 2) rfl)) e0 (g := (mkF m 0 #[.val (.long q1), .second, .val (.long q2), .second, .val (.long q3), .second, .unset, .unset, .unset, .unset, .unset, .unset, .unset] [])) rfl (hb hby at_0) (by decide) (by decide)
  obtain ⟨b12, q12⟩ : ∃ z, z = h0.size := ⟨_, rfl⟩
  rw [← q12] at A12 D12 U12 st12
  have g_b12 : n0 ≤ b12 := Nat.le_trans Z0 (Nat.le_of_eq q12.symm)
  have FnrunId_12 : Fld Z h12 b12 "com/example/deft_lock/deftlock/service/ServerInfo" "runId" "Ljava/lang/String;" .null := D12 (Or.inr (hw _ (List.mem_of_getElem? (i := 15) rfl))) (ty := (.object "java/lang/String")) (by decide)
  have FnuptimeSeconds_12 : Fld Z h12 b12 "com/example/deft_lock/deftlock/service/ServerInfo" "uptimeSeconds" "J" (.long (0 : Int64)) := D12 (Or.inr (hw _ (List.mem_of_getElem? (i := 17) rfl))) (ty := .long) (by decide)
  have FnclockMicros_12 : Fld Z h12 b12 "com/example/deft_lock/deftlock/service/ServerInfo" "clockMicros" "J" (.long (0 : Int64)) := D12 (Or.inr (hw _ (List.mem_of_getElem? (i := 19) rfl))) (ty := .long) (by decide)
  have Fnrole_12 : Fld Z h12 b12 "com/example/deft_lock/deftlock/service/ServerInfo" "role" "Ljava/lang/String;" .null := D12 (Or.inr (hw _ (List.mem_of_getElem? (i := 21) rfl))) (ty := (.object "java/lang/String")) (by decide)
  have Fnmaster_12 : Fld Z h12 b12 "com/example/deft_lock/deftlock/service/ServerInfo" "master" "Ljava/lang/String;" .null := D12 (Or.inr (hw _ (List.mem_of_getElem? (i := 23) rfl))) (ty := (.object "java/lang/String")) (by decide)
  have FnconnectedReplicas_12 : Fld Z h12 b12 "com/example/deft_lock/deftlock/service/ServerInfo" "connectedReplicas" "J" (.long (0 : Int64)) := D12 (Or.inr (hw _ (List.mem_of_getElem? (i := 25) rfl))) (ty := .long) (by decide)
  refine own_to (fun t k => st12 t k) ?_
  show own_Fin _ _ _ _ _ _ (T12.setTop (mkF m 3 #[.val (.long q1), .second, .val (.long q2), .second, .val (.long q3), .second, .unset, .unset, .unset, .unset, .unset, .unset, .unset] [(.ref b12)]))
  refine own_to (fun t k => XS.dup X12.here hx rfl (hb hby at_3) rfl rfl k) ?_
  show own_Fin _ _ _ _ _ _ (T12.setTop (mkF m 4 #[.val (.long q1), .second, .val (.long q2), .second, .val (.long q3), .second, .unset, .unset, .unset, .unset, .unset, .unset, .unset] [(.ref b12), (.ref b12)]))
  refine own_to (fun t k => XS.aconstNull X12.here hx rfl (hb hby at_4) k) ?_
  show own_Fin _ _ _ _ _ _ (T12.setTop (mkF m 5 #[.val (.long q1), .second, .val (.long q2), .second, .val (.long q3), .second, .unset, .unset, .unset, .unset, .unset, .unset, .unset] [.null, (.ref b12), (.ref b12)]))
  refine own_to (fun t k => XS.lloadN X12.here hx rfl (hb hby at_5) rfl k) ?_
  show own_Fin _ _ _ _ _ _ (T12.setTop (mkF m 6 #[.val (.long q1), .second, .val (.long q2), .second, .val (.long q3), .second, .unset, .unset, .unset, .unset, .unset, .unset, .unset] [(.long q2), .null, (.ref b12), (.ref b12)]))
  refine own_to (fun t k => XS.lloadN X12.here hx rfl (hb hby at_6) rfl k) ?_
  show own_Fin _ _ _ _ _ _ (T12.setTop (mkF m 7 #[.val (.long q1), .second, .val (.long q2), .second, .val (.long q3), .second, .unset, .unset, .unset, .unset, .unset, .unset, .unset] [(.long q1), (.long q2), .null, (.ref b12), (.ref b12)]))
  refine own_to (fun t k => XS.aconstNull X12.here hx rfl (hb hby at_7) k) ?_
  show own_Fin _ _ _ _ _ _ (T12.setTop (mkF m 8 #[.val (.long q1), .second, .val (.long q2), .second, .val (.long q3), .second, .unset, .unset, .unset, .unset, .unset, .unset, .unset] [.null, (.long q1), (.long q2), .null, (.ref b12), (.ref b12)]))
  refine own_to (fun t k => XS.aconstNull X12.here hx rfl (hb hby at_8) k) ?_
  show own_Fin _ _ _ _ _ _ (T12.setTop (mkF m 9 #[.val (.long q1), .second, .val (.long q2), .second, .val (.long q3), .second, .unset, .unset, .unset, .unset, .unset, .unset, .unset] [.null, .null, (.long q1), (.long q2), .null, (.ref b12), (.ref b12)]))
  refine own_to (fun t k => XS.lload X12.here hx rfl (hb hby at_9) rfl k) ?_
  show own_Fin _ _ _ _ _ _ (T12.setTop (mkF m 11 #[.val (.long q1), .second, .val (.long q2), .second, .val (.long q3), .second, .unset, .unset, .unset, .unset, .unset, .unset, .unset] [(.long q3), .null, .null, (.long q1), (.long q2), .null, (.ref b12), (.ref b12)]))
  obtain ⟨_, _, ⟨T13, L13, k13, n13⟩, -, X13, ⟨Lc13, hQ13, l13, y13, z13⟩, st13⟩ := X12.specialBack hx (y := (⟨"com/example/deft_lock/deftlock/service/ServerInfo", "<init>", "(Ljava/lang/String;JJLjava/lang/String;Ljava/lang/String;J)V"⟩ : MethodName)) rfl hown (mvT hZ (hw _ (List.mem_of_getElem? (i := 3) rfl))) (mvT hZ (hw _ (List.mem_of_getElem? (i := 4) rfl))) (mvT hZ (hw _ (List.mem_of_getElem? (i := 5) rfl))) (by decide) (own_back (W := 1) (own_rm1 l Z a0 hw [] b12 q2 q1 q3 h12 n0 (Nat.le_trans Z0 E12.1) A12 FnrunId_12 FnuptimeSeconds_12 FnclockMicros_12 Fnrole_12 Fnmaster_12 FnconnectedReplicas_12 g_b12) hZ (hw _ (List.mem_of_getElem? (i := 5) rfl)) (hw _ (List.mem_of_getElem? (i := 2) rfl)) (by decide) (by decide)) (g := (mkF m 11 #[.val (.long q1), .second, .val (.long q2), .second, .val (.long q3), .second, .unset, .unset, .unset, .unset, .unset, .unset, .unset] [(.long q3), .null, .null, (.long q1), (.long q2), .null, (.ref b12), (.ref b12)])) rfl (by rw [hml]; rfl) (Steps.refl _) (a := b12) (argsL := [.null, (.long q2), (.long q1), .null, .null, (.long q3)]) (rest := [(.ref b12)]) (lenOf own_pd1 rfl) rfl (by show 2 * 0 + _ ≤ _; exact Nat.le_of_eq rfl) (hb hby at_11) (fun _ _ => ⟨rfl, e12, (by decide : 1 + 0 ≤ _), (by decide : 6 + 0 ≤ _)⟩)
  dsimp only [Pt.U, Pt.locs, Pt.cells, Pt.slots] at X13 l13 y13 z13 st13 hQ13
  subst l13 y13 z13
  obtain ⟨rfl, N13q, K13, Fc⟩ := hQ13
  have N13 := Fr.app N0 N13q
  have A12_e13 := A12.keep K13
  refine own_to (fun t k => st13.trans k) ?_
  show own_Fin _ _ _ _ _ _ (T13.setTop (mkF m 14 #[.val (.long q1), .second, .val (.long q2), .second, .val (.long q3), .second, .unset, .unset, .unset, .unset, .unset, .unset, .unset] [(.ref b12)]))
  refine own_to (fun t k => XS.astore X13.here hx rfl (hb hby at_14) rfl rfl (l' := #[.val (.long q1), .second, .val (.long q2), .second, .val (.long q3), .second, .val (.ref b12), .unset, .unset, .unset, .unset, .unset, .unset]) rfl k) ?_
  show own_Fin _ _ _ _ _ _ (T13.setTop (mkF m 16 #[.val (.long q1), .second, .val (.long q2), .second, .val (.long q3), .second, .val (.ref b12), .unset, .unset, .unset, .unset, .unset, .unset] []))
  refine own_to (fun t k => XS.aload X13.here hx rfl (hb hby at_16) rfl rfl k) ?_
  show own_Fin _ _ _ _ _ _ (T13.setTop (mkF m 18 #[.val (.long q1), .second, .val (.long q2), .second, .val (.long q3), .second, .val (.ref b12), .unset, .unset, .unset, .unset, .unset, .unset] [(.ref b12)]))
  obtain ⟨cq14, kq14, q14a, q14b, q14c⟩ := isOf hZ rfl A12_e13
  obtain ⟨_, _, ⟨T14, L14, k14, n14⟩, -, X14, ⟨Lc14, hQ14, l14, y14, z14⟩, st14⟩ := X13.virtualBack hx (y := (⟨"com/example/deft_lock/deftlock/service/ServerInfo", "microsIntoSecond", "()J"⟩ : MethodName)) (z := (⟨"com/example/deft_lock/deftlock/service/ServerInfo", "microsIntoSecond", "()J"⟩ : MethodName)) hown (mvT hZ (hw _ (List.mem_of_getElem? (i := 26) rfl))) (mvT hZ (hw _ (List.mem_of_getElem? (i := 27) rfl))) (notFace_of_selects (args := #[]) (mvT hZ (hw _ (List.mem_of_getElem? (i := 29) rfl)))) (mvT hZ (hw _ (List.mem_of_getElem? (i := 29) rfl))) (mvT hZ (hw _ (List.mem_of_getElem? (i := 28) rfl))) (by decide) (own_back (W := 0) (own_rm4 l Z a0 hw [] b12 q1 T13.heap n0 (Nat.le_trans (Nat.le_trans Z0 E12.1) K13.1) Fc) hZ (hw _ (List.mem_of_getElem? (i := 30) rfl)) (hw _ (List.mem_of_getElem? (i := 2) rfl)) (by decide) (by decide)) q14a q14c (g := (mkF m 18 #[.val (.long q1), .second, .val (.long q2), .second, .val (.long q3), .second, .val (.ref b12), .unset, .unset, .unset, .unset, .unset, .unset] [(.ref b12)])) rfl (by rw [hml]; rfl) (Steps.refl _) (argsL := []) (rest := []) (lenOf own_pd2 rfl) rfl (by show 2 * 0 + _ ≤ _; exact Nat.le_of_eq rfl) (hb hby at_18) (fun _ _ => ⟨rfl, rfl, (by decide : 1 + 0 ≤ _), (by decide : 6 + 0 ≤ _)⟩)
  dsimp only [Pt.U, Pt.locs, Pt.cells, Pt.slots] at X14 l14 y14 z14 st14 hQ14
  subst l14 y14 z14
  obtain ⟨rfl, N14q, eh14⟩ := hQ14
  have N14 := Fr.app N13 N14q
  refine own_to (fun t k => st14.trans k) ?_
  show own_Fin _ _ _ _ _ _ (T14.setTop (mkF m 21 #[.val (.long q1), .second, .val (.long q2), .second, .val (.long q3), .second, .val (.ref b12), .unset, .unset, .unset, .unset, .unset, .unset] [(.long (own_mic q1))]))
  refine own_to (fun t k => XS.lstore X14.here hx rfl (hb hby at_21) rfl (l' := #[.val (.long q1), .second, .val (.long q2), .second, .val (.long q3), .second, .val (.ref b12), .val (.long (own_mic q1)), .second, .unset, .unset, .unset, .unset]) rfl k) ?_
  show own_Fin _ _ _ _ _ _ (T14.setTop (mkF m 23 #[.val (.long q1), .second, .val (.long q2), .second, .val (.long q3), .second, .val (.ref b12), .val (.long (own_mic q1)), .second, .unset, .unset, .unset, .unset] []))
  refine own_to (fun t k => XS.lloadN X14.here hx rfl (hb hby at_23) rfl k) ?_
  show own_Fin _ _ _ _ _ _ (T14.setTop (mkF m 24 #[.val (.long q1), .second, .val (.long q2), .second, .val (.long q3), .second, .val (.ref b12), .val (.long (own_mic q1)), .second, .unset, .unset, .unset, .unset] [(.long q1)]))
  refine own_to (fun t k => XS.lconst X14.here hx rfl (hb hby at_24) k) ?_
  show own_Fin _ _ _ _ _ _ (T14.setTop (mkF m 25 #[.val (.long q1), .second, .val (.long q2), .second, .val (.long q3), .second, .val (.ref b12), .val (.long (own_mic q1)), .second, .unset, .unset, .unset, .unset] [(.long (0 : Int64)), (.long q1)]))
  refine own_to (fun t k => XS.lcmp X14.here hx rfl (hb hby at_25) rfl k) ?_
  show own_Fin _ _ _ _ _ _ (T14.setTop (mkF m 26 #[.val (.long q1), .second, .val (.long q2), .second, .val (.long q3), .second, .val (.ref b12), .val (.long (own_mic q1)), .second, .unset, .unset, .unset, .unset] [(.int (lcmpW q1 (0 : Int64)))]))
  by_cases hc26_15 : q1 < (0 : Int64)
  ·
    show own_Fin _ _ _ _ _ _ (T14.setTop (mkF m 26 #[.val (.long q1), .second, .val (.long q2), .second, .val (.long q3), .second, .val (.ref b12), .val (.long (own_mic q1)), .second, .unset, .unset, .unset, .unset] [(.int (lcmpW q1 (0 : Int64)))]))
    refine own_to (fun t k => XS.ifNo X14.here hx rfl (hb hby at_26) rfl ((if0 _ _).trans (tlt ((lw_lt _ _).mpr hc26_15)).2.1) k) ?_
    show own_Fin _ _ _ _ _ _ (T14.setTop (mkF m 29 #[.val (.long q1), .second, .val (.long q2), .second, .val (.long q3), .second, .val (.ref b12), .val (.long (own_mic q1)), .second, .unset, .unset, .unset, .unset] []))
    refine own_to (fun t k => XS.lload X14.here hx rfl (hb hby at_29) rfl k) ?_
    show own_Fin _ _ _ _ _ _ (T14.setTop (mkF m 31 #[.val (.long q1), .second, .val (.long q2), .second, .val (.long q3), .second, .val (.ref b12), .val (.long (own_mic q1)), .second, .unset, .unset, .unset, .unset] [(.long (own_mic q1))]))
    refine own_to (fun t k => XS.lconst X14.here hx rfl (hb hby at_31) k) ?_
    show own_Fin _ _ _ _ _ _ (T14.setTop (mkF m 32 #[.val (.long q1), .second, .val (.long q2), .second, .val (.long q3), .second, .val (.ref b12), .val (.long (own_mic q1)), .second, .unset, .unset, .unset, .unset] [(.long (0 : Int64)), (.long (own_mic q1))]))
    refine own_to (fun t k => XS.lcmp X14.here hx rfl (hb hby at_32) rfl k) ?_
    show own_Fin _ _ _ _ _ _ (T14.setTop (mkF m 33 #[.val (.long q1), .second, .val (.long q2), .second, .val (.long q3), .second, .val (.ref b12), .val (.long (own_mic q1)), .second, .unset, .unset, .unset, .unset] [(.int (lcmpW (own_mic q1) (0 : Int64)))]))
    by_cases hc33_16 : (own_mic q1) = (0 : Int64)
    ·
      show own_Fin _ _ _ _ _ _ (T14.setTop (mkF m 33 #[.val (.long q1), .second, .val (.long q2), .second, .val (.long q3), .second, .val (.ref b12), .val (.long (own_mic q1)), .second, .unset, .unset, .unset, .unset] [(.int (lcmpW (own_mic q1) (0 : Int64)))]))
      refine own_to (fun t k => XS.ifNo X14.here hx rfl (hb hby at_33) rfl ((if0 _ _).trans (teq ((lw_eq _ _).mpr hc33_16)).2) k) ?_
      show own_Fin _ _ _ _ _ _ (T14.setTop (mkF m 36 #[.val (.long q1), .second, .val (.long q2), .second, .val (.long q3), .second, .val (.ref b12), .val (.long (own_mic q1)), .second, .unset, .unset, .unset, .unset] []))
      refine own_to (fun t k => XS.iconst X14.here hx rfl (hb hby at_36) k) ?_
      show own_Fin _ _ _ _ _ _ (T14.setTop (mkF m 37 #[.val (.long q1), .second, .val (.long q2), .second, .val (.long q3), .second, .val (.ref b12), .val (.long (own_mic q1)), .second, .unset, .unset, .unset, .unset] [(.int (1 : Int32))]))
      refine own_to (fun t k => XS.goto X14.here hx rfl (pc0 := 37) (pc' := 41) rfl (hb hby at_37) (by decide) (by decide) k) ?_
      show own_Fin _ _ _ _ _ _ (T14.setTop (mkF m 41 #[.val (.long q1), .second, .val (.long q2), .second, .val (.long q3), .second, .val (.ref b12), .val (.long (own_mic q1)), .second, .unset, .unset, .unset, .unset] [(.int (1 : Int32))]))
      refine own_retN X14 hx hlk (t := .boolean) hret (by simp) (hb hby at_41) (by decide) (by decide) ?_
      try rw [eh14]
      exact ⟨congrArg (fun z => some (Value.int z)) (Eq.symm (show own_law q1 = _ from ((if_pos hc26_15).trans ((if_pos hc33_16).trans rfl)))), N14⟩
    ·
      show own_Fin _ _ _ _ _ _ (T14.setTop (mkF m 33 #[.val (.long q1), .second, .val (.long q2), .second, .val (.long q3), .second, .val (.ref b12), .val (.long (own_mic q1)), .second, .unset, .unset, .unset, .unset] [(.int (lcmpW (own_mic q1) (0 : Int64)))]))
      refine own_to (fun t k => XS.ifYes X14.here hx rfl (pc0 := 33) (pc' := 40) rfl (hb hby at_33) rfl ((if0 _ _).trans (feq (fun z => hc33_16 ((lw_eq _ _).mp z))).2) (by decide) (by decide) k) ?_
      show own_Fin _ _ _ _ _ _ (T14.setTop (mkF m 40 #[.val (.long q1), .second, .val (.long q2), .second, .val (.long q3), .second, .val (.ref b12), .val (.long (own_mic q1)), .second, .unset, .unset, .unset, .unset] []))
      refine own_to (fun t k => XS.iconst X14.here hx rfl (hb hby at_40) k) ?_
      show own_Fin _ _ _ _ _ _ (T14.setTop (mkF m 41 #[.val (.long q1), .second, .val (.long q2), .second, .val (.long q3), .second, .val (.ref b12), .val (.long (own_mic q1)), .second, .unset, .unset, .unset, .unset] [(.int (0 : Int32))]))
      refine own_retN X14 hx hlk (t := .boolean) hret (by simp) (hb hby at_41) (by decide) (by decide) ?_
      try rw [eh14]
      exact ⟨congrArg (fun z => some (Value.int z)) (Eq.symm (show own_law q1 = _ from ((if_pos hc26_15).trans ((if_neg hc33_16).trans rfl)))), N14⟩
  ·
    show own_Fin _ _ _ _ _ _ (T14.setTop (mkF m 26 #[.val (.long q1), .second, .val (.long q2), .second, .val (.long q3), .second, .val (.ref b12), .val (.long (own_mic q1)), .second, .unset, .unset, .unset, .unset] [(.int (lcmpW q1 (0 : Int64)))]))
    refine own_to (fun t k => XS.ifYes X14.here hx rfl (pc0 := 26) (pc' := 42) rfl (hb hby at_26) rfl ((if0 _ _).trans (flt (fun z => hc26_15 ((lw_lt _ _).mp z))).2.1) (by decide) (by decide) k) ?_
    show own_Fin _ _ _ _ _ _ (T14.setTop (mkF m 42 #[.val (.long q1), .second, .val (.long q2), .second, .val (.long q3), .second, .val (.ref b12), .val (.long (own_mic q1)), .second, .unset, .unset, .unset, .unset] []))
    refine own_to (fun t k => XS.lload X14.here hx rfl (hb hby at_42) rfl k) ?_
    show own_Fin _ _ _ _ _ _ (T14.setTop (mkF m 44 #[.val (.long q1), .second, .val (.long q2), .second, .val (.long q3), .second, .val (.ref b12), .val (.long (own_mic q1)), .second, .unset, .unset, .unset, .unset] [(.long (own_mic q1))]))
    refine own_to (fun t k => XS.lconst X14.here hx rfl (hb hby at_44) k) ?_
    show own_Fin _ _ _ _ _ _ (T14.setTop (mkF m 45 #[.val (.long q1), .second, .val (.long q2), .second, .val (.long q3), .second, .val (.ref b12), .val (.long (own_mic q1)), .second, .unset, .unset, .unset, .unset] [(.long (0 : Int64)), (.long (own_mic q1))]))
    refine own_to (fun t k => XS.lcmp X14.here hx rfl (hb hby at_45) rfl k) ?_
    show own_Fin _ _ _ _ _ _ (T14.setTop (mkF m 46 #[.val (.long q1), .second, .val (.long q2), .second, .val (.long q3), .second, .val (.ref b12), .val (.long (own_mic q1)), .second, .unset, .unset, .unset, .unset] [(.int (lcmpW (own_mic q1) (0 : Int64)))]))
    by_cases hc46_17 : (own_mic q1) < (0 : Int64)
    ·
      show own_Fin _ _ _ _ _ _ (T14.setTop (mkF m 46 #[.val (.long q1), .second, .val (.long q2), .second, .val (.long q3), .second, .val (.ref b12), .val (.long (own_mic q1)), .second, .unset, .unset, .unset, .unset] [(.int (lcmpW (own_mic q1) (0 : Int64)))]))
      refine own_to (fun t k => XS.ifYes X14.here hx rfl (pc0 := 46) (pc' := 58) rfl (hb hby at_46) rfl ((if0 _ _).trans (tlt ((lw_lt _ _).mpr hc46_17)).1) (by decide) (by decide) k) ?_
      show own_Fin _ _ _ _ _ _ (T14.setTop (mkF m 58 #[.val (.long q1), .second, .val (.long q2), .second, .val (.long q3), .second, .val (.ref b12), .val (.long (own_mic q1)), .second, .unset, .unset, .unset, .unset] []))
      refine own_to (fun t k => XS.iconst X14.here hx rfl (hb hby at_58) k) ?_
      show own_Fin _ _ _ _ _ _ (T14.setTop (mkF m 59 #[.val (.long q1), .second, .val (.long q2), .second, .val (.long q3), .second, .val (.ref b12), .val (.long (own_mic q1)), .second, .unset, .unset, .unset, .unset] [(.int (0 : Int32))]))
      refine own_retN X14 hx hlk (t := .boolean) hret (by simp) (hb hby at_59) (by decide) (by decide) ?_
      try rw [eh14]
      exact ⟨congrArg (fun z => some (Value.int z)) (Eq.symm (show own_law q1 = _ from ((if_neg hc26_15).trans ((if_pos hc46_17).trans rfl)))), N14⟩
    ·
      show own_Fin _ _ _ _ _ _ (T14.setTop (mkF m 46 #[.val (.long q1), .second, .val (.long q2), .second, .val (.long q3), .second, .val (.ref b12), .val (.long (own_mic q1)), .second, .unset, .unset, .unset, .unset] [(.int (lcmpW (own_mic q1) (0 : Int64)))]))
      refine own_to (fun t k => XS.ifNo X14.here hx rfl (hb hby at_46) rfl ((if0 _ _).trans (flt (fun z => hc46_17 ((lw_lt _ _).mp z))).1) k) ?_
      show own_Fin _ _ _ _ _ _ (T14.setTop (mkF m 49 #[.val (.long q1), .second, .val (.long q2), .second, .val (.long q3), .second, .val (.ref b12), .val (.long (own_mic q1)), .second, .unset, .unset, .unset, .unset] []))
      refine own_to (fun t k => XS.lload X14.here hx rfl (hb hby at_49) rfl k) ?_
      show own_Fin _ _ _ _ _ _ (T14.setTop (mkF m 51 #[.val (.long q1), .second, .val (.long q2), .second, .val (.long q3), .second, .val (.ref b12), .val (.long (own_mic q1)), .second, .unset, .unset, .unset, .unset] [(.long (own_mic q1))]))
      refine own_to (fun t k => X14.ldc2Long hx hown (mvT hZ (hw _ (List.mem_of_getElem? (i := 32) rfl))) (g := (mkF m 51 #[.val (.long q1), .second, .val (.long q2), .second, .val (.long q3), .second, .val (.ref b12), .val (.long (own_mic q1)), .second, .unset, .unset, .unset, .unset] [(.long (own_mic q1))])) rfl (hb hby at_51) _ k) ?_
      show own_Fin _ _ _ _ _ _ (T14.setTop (mkF m 54 #[.val (.long q1), .second, .val (.long q2), .second, .val (.long q3), .second, .val (.ref b12), .val (.long (own_mic q1)), .second, .unset, .unset, .unset, .unset] [(.long (1000000 : Int64)), (.long (own_mic q1))]))
      refine own_to (fun t k => XS.lcmp X14.here hx rfl (hb hby at_54) rfl k) ?_
      show own_Fin _ _ _ _ _ _ (T14.setTop (mkF m 55 #[.val (.long q1), .second, .val (.long q2), .second, .val (.long q3), .second, .val (.ref b12), .val (.long (own_mic q1)), .second, .unset, .unset, .unset, .unset] [(.int (lcmpW (own_mic q1) (1000000 : Int64)))]))
      by_cases hc55_18 : (own_mic q1) < (1000000 : Int64)
      ·
        show own_Fin _ _ _ _ _ _ (T14.setTop (mkF m 55 #[.val (.long q1), .second, .val (.long q2), .second, .val (.long q3), .second, .val (.ref b12), .val (.long (own_mic q1)), .second, .unset, .unset, .unset, .unset] [(.int (lcmpW (own_mic q1) (1000000 : Int64)))]))
        refine own_to (fun t k => XS.ifYes X14.here hx rfl (pc0 := 55) (pc' := 60) rfl (hb hby at_55) rfl ((if0 _ _).trans (tlt ((lw_lt _ _).mpr hc55_18)).1) (by decide) (by decide) k) ?_
        show own_Fin _ _ _ _ _ _ (T14.setTop (mkF m 60 #[.val (.long q1), .second, .val (.long q2), .second, .val (.long q3), .second, .val (.ref b12), .val (.long (own_mic q1)), .second, .unset, .unset, .unset, .unset] []))
        refine own_to (fun t k => XS.lloadN X14.here hx rfl (hb hby at_60) rfl k) ?_
        show own_Fin _ _ _ _ _ _ (T14.setTop (mkF m 61 #[.val (.long q1), .second, .val (.long q2), .second, .val (.long q3), .second, .val (.ref b12), .val (.long (own_mic q1)), .second, .unset, .unset, .unset, .unset] [(.long q1)]))
        refine own_to (fun t k => XS.lload X14.here hx rfl (hb hby at_61) rfl k) ?_
        show own_Fin _ _ _ _ _ _ (T14.setTop (mkF m 63 #[.val (.long q1), .second, .val (.long q2), .second, .val (.long q3), .second, .val (.ref b12), .val (.long (own_mic q1)), .second, .unset, .unset, .unset, .unset] [(.long (own_mic q1)), (.long q1)]))
        refine own_to (fun t k => XS.lsub X14.here hx rfl (hb hby at_63) rfl k) ?_
        show own_Fin _ _ _ _ _ _ (T14.setTop (mkF m 64 #[.val (.long q1), .second, .val (.long q2), .second, .val (.long q3), .second, .val (.ref b12), .val (.long (own_mic q1)), .second, .unset, .unset, .unset, .unset] [(.long (q1 - (own_mic q1)))]))
        refine own_to (fun t k => XS.lstore X14.here hx rfl (hb hby at_64) rfl (l' := #[.val (.long q1), .second, .val (.long q2), .second, .val (.long q3), .second, .val (.ref b12), .val (.long (own_mic q1)), .second, .val (.long (q1 - (own_mic q1))), .second, .unset, .unset]) rfl k) ?_
        show own_Fin _ _ _ _ _ _ (T14.setTop (mkF m 66 #[.val (.long q1), .second, .val (.long q2), .second, .val (.long q3), .second, .val (.ref b12), .val (.long (own_mic q1)), .second, .val (.long (q1 - (own_mic q1))), .second, .unset, .unset] []))
        refine own_to (fun t k => XS.lload X14.here hx rfl (hb hby at_66) rfl k) ?_
        show own_Fin _ _ _ _ _ _ (T14.setTop (mkF m 68 #[.val (.long q1), .second, .val (.long q2), .second, .val (.long q3), .second, .val (.ref b12), .val (.long (own_mic q1)), .second, .val (.long (q1 - (own_mic q1))), .second, .unset, .unset] [(.long (q1 - (own_mic q1)))]))
        refine own_to (fun t k => X14.ldc2Long hx hown (mvT hZ (hw _ (List.mem_of_getElem? (i := 32) rfl))) (g := (mkF m 68 #[.val (.long q1), .second, .val (.long q2), .second, .val (.long q3), .second, .val (.ref b12), .val (.long (own_mic q1)), .second, .val (.long (q1 - (own_mic q1))), .second, .unset, .unset] [(.long (q1 - (own_mic q1)))])) rfl (hb hby at_68) _ k) ?_
        show own_Fin _ _ _ _ _ _ (T14.setTop (mkF m 71 #[.val (.long q1), .second, .val (.long q2), .second, .val (.long q3), .second, .val (.ref b12), .val (.long (own_mic q1)), .second, .val (.long (q1 - (own_mic q1))), .second, .unset, .unset] [(.long (1000000 : Int64)), (.long (q1 - (own_mic q1)))]))
        refine own_to (fun t k => XS.ldiv X14.here hx rfl (hb hby at_71) rfl (by decide) k) ?_
        show own_Fin _ _ _ _ _ _ (T14.setTop (mkF m 72 #[.val (.long q1), .second, .val (.long q2), .second, .val (.long q3), .second, .val (.ref b12), .val (.long (own_mic q1)), .second, .val (.long (q1 - (own_mic q1))), .second, .unset, .unset] [(.long ((q1 - (own_mic q1)) / (1000000 : Int64)))]))
        refine own_to (fun t k => XS.lstore X14.here hx rfl (hb hby at_72) rfl (l' := #[.val (.long q1), .second, .val (.long q2), .second, .val (.long q3), .second, .val (.ref b12), .val (.long (own_mic q1)), .second, .val (.long (q1 - (own_mic q1))), .second, .val (.long ((q1 - (own_mic q1)) / (1000000 : Int64))), .second]) rfl k) ?_
        show own_Fin _ _ _ _ _ _ (T14.setTop (mkF m 74 #[.val (.long q1), .second, .val (.long q2), .second, .val (.long q3), .second, .val (.ref b12), .val (.long (own_mic q1)), .second, .val (.long (q1 - (own_mic q1))), .second, .val (.long ((q1 - (own_mic q1)) / (1000000 : Int64))), .second] []))
        refine own_to (fun t k => XS.lload X14.here hx rfl (hb hby at_74) rfl k) ?_
        show own_Fin _ _ _ _ _ _ (T14.setTop (mkF m 76 #[.val (.long q1), .second, .val (.long q2), .second, .val (.long q3), .second, .val (.ref b12), .val (.long (own_mic q1)), .second, .val (.long (q1 - (own_mic q1))), .second, .val (.long ((q1 - (own_mic q1)) / (1000000 : Int64))), .second] [(.long ((q1 - (own_mic q1)) / (1000000 : Int64)))]))
        refine own_to (fun t k => X14.ldc2Long hx hown (mvT hZ (hw _ (List.mem_of_getElem? (i := 32) rfl))) (g := (mkF m 76 #[.val (.long q1), .second, .val (.long q2), .second, .val (.long q3), .second, .val (.ref b12), .val (.long (own_mic q1)), .second, .val (.long (q1 - (own_mic q1))), .second, .val (.long ((q1 - (own_mic q1)) / (1000000 : Int64))), .second] [(.long ((q1 - (own_mic q1)) / (1000000 : Int64)))])) rfl (hb hby at_76) _ k) ?_
        show own_Fin _ _ _ _ _ _ (T14.setTop (mkF m 79 #[.val (.long q1), .second, .val (.long q2), .second, .val (.long q3), .second, .val (.ref b12), .val (.long (own_mic q1)), .second, .val (.long (q1 - (own_mic q1))), .second, .val (.long ((q1 - (own_mic q1)) / (1000000 : Int64))), .second] [(.long (1000000 : Int64)), (.long ((q1 - (own_mic q1)) / (1000000 : Int64)))]))
        refine own_to (fun t k => XS.lmul X14.here hx rfl (hb hby at_79) rfl k) ?_
        show own_Fin _ _ _ _ _ _ (T14.setTop (mkF m 80 #[.val (.long q1), .second, .val (.long q2), .second, .val (.long q3), .second, .val (.ref b12), .val (.long (own_mic q1)), .second, .val (.long (q1 - (own_mic q1))), .second, .val (.long ((q1 - (own_mic q1)) / (1000000 : Int64))), .second] [(.long (((q1 - (own_mic q1)) / (1000000 : Int64)) * (1000000 : Int64)))]))
        refine own_to (fun t k => XS.lload X14.here hx rfl (hb hby at_80) rfl k) ?_
        show own_Fin _ _ _ _ _ _ (T14.setTop (mkF m 82 #[.val (.long q1), .second, .val (.long q2), .second, .val (.long q3), .second, .val (.ref b12), .val (.long (own_mic q1)), .second, .val (.long (q1 - (own_mic q1))), .second, .val (.long ((q1 - (own_mic q1)) / (1000000 : Int64))), .second] [(.long (q1 - (own_mic q1))), (.long (((q1 - (own_mic q1)) / (1000000 : Int64)) * (1000000 : Int64)))]))
        refine own_to (fun t k => XS.lcmp X14.here hx rfl (hb hby at_82) rfl k) ?_
        show own_Fin _ _ _ _ _ _ (T14.setTop (mkF m 83 #[.val (.long q1), .second, .val (.long q2), .second, .val (.long q3), .second, .val (.ref b12), .val (.long (own_mic q1)), .second, .val (.long (q1 - (own_mic q1))), .second, .val (.long ((q1 - (own_mic q1)) / (1000000 : Int64))), .second] [(.int (lcmpW (((q1 - (own_mic q1)) / (1000000 : Int64)) * (1000000 : Int64)) (q1 - (own_mic q1))))]))
        by_cases hc83_19 : (((q1 - (own_mic q1)) / (1000000 : Int64)) * (1000000 : Int64)) = (q1 - (own_mic q1))
        ·
          show own_Fin _ _ _ _ _ _ (T14.setTop (mkF m 83 #[.val (.long q1), .second, .val (.long q2), .second, .val (.long q3), .second, .val (.ref b12), .val (.long (own_mic q1)), .second, .val (.long (q1 - (own_mic q1))), .second, .val (.long ((q1 - (own_mic q1)) / (1000000 : Int64))), .second] [(.int (lcmpW (((q1 - (own_mic q1)) / (1000000 : Int64)) * (1000000 : Int64)) (q1 - (own_mic q1))))]))
          refine own_to (fun t k => XS.ifNo X14.here hx rfl (hb hby at_83) rfl ((if0 _ _).trans (teq ((lw_eq _ _).mpr hc83_19)).2) k) ?_
          show own_Fin _ _ _ _ _ _ (T14.setTop (mkF m 86 #[.val (.long q1), .second, .val (.long q2), .second, .val (.long q3), .second, .val (.ref b12), .val (.long (own_mic q1)), .second, .val (.long (q1 - (own_mic q1))), .second, .val (.long ((q1 - (own_mic q1)) / (1000000 : Int64))), .second] []))
          refine own_to (fun t k => XS.iconst X14.here hx rfl (hb hby at_86) k) ?_
          show own_Fin _ _ _ _ _ _ (T14.setTop (mkF m 87 #[.val (.long q1), .second, .val (.long q2), .second, .val (.long q3), .second, .val (.ref b12), .val (.long (own_mic q1)), .second, .val (.long (q1 - (own_mic q1))), .second, .val (.long ((q1 - (own_mic q1)) / (1000000 : Int64))), .second] [(.int (1 : Int32))]))
          refine own_to (fun t k => XS.goto X14.here hx rfl (pc0 := 87) (pc' := 91) rfl (hb hby at_87) (by decide) (by decide) k) ?_
          show own_Fin _ _ _ _ _ _ (T14.setTop (mkF m 91 #[.val (.long q1), .second, .val (.long q2), .second, .val (.long q3), .second, .val (.ref b12), .val (.long (own_mic q1)), .second, .val (.long (q1 - (own_mic q1))), .second, .val (.long ((q1 - (own_mic q1)) / (1000000 : Int64))), .second] [(.int (1 : Int32))]))
          refine own_retN X14 hx hlk (t := .boolean) hret (by simp) (hb hby at_91) (by decide) (by decide) ?_
          try rw [eh14]
          exact ⟨congrArg (fun z => some (Value.int z)) (Eq.symm (show own_law q1 = _ from ((if_neg hc26_15).trans ((if_neg hc46_17).trans ((if_pos hc55_18).trans ((if_pos hc83_19).trans rfl)))))), N14⟩
        ·
          show own_Fin _ _ _ _ _ _ (T14.setTop (mkF m 83 #[.val (.long q1), .second, .val (.long q2), .second, .val (.long q3), .second, .val (.ref b12), .val (.long (own_mic q1)), .second, .val (.long (q1 - (own_mic q1))), .second, .val (.long ((q1 - (own_mic q1)) / (1000000 : Int64))), .second] [(.int (lcmpW (((q1 - (own_mic q1)) / (1000000 : Int64)) * (1000000 : Int64)) (q1 - (own_mic q1))))]))
          refine own_to (fun t k => XS.ifYes X14.here hx rfl (pc0 := 83) (pc' := 90) rfl (hb hby at_83) rfl ((if0 _ _).trans (feq (fun z => hc83_19 ((lw_eq _ _).mp z))).2) (by decide) (by decide) k) ?_
          show own_Fin _ _ _ _ _ _ (T14.setTop (mkF m 90 #[.val (.long q1), .second, .val (.long q2), .second, .val (.long q3), .second, .val (.ref b12), .val (.long (own_mic q1)), .second, .val (.long (q1 - (own_mic q1))), .second, .val (.long ((q1 - (own_mic q1)) / (1000000 : Int64))), .second] []))
          refine own_to (fun t k => XS.iconst X14.here hx rfl (hb hby at_90) k) ?_
          show own_Fin _ _ _ _ _ _ (T14.setTop (mkF m 91 #[.val (.long q1), .second, .val (.long q2), .second, .val (.long q3), .second, .val (.ref b12), .val (.long (own_mic q1)), .second, .val (.long (q1 - (own_mic q1))), .second, .val (.long ((q1 - (own_mic q1)) / (1000000 : Int64))), .second] [(.int (0 : Int32))]))
          refine own_retN X14 hx hlk (t := .boolean) hret (by simp) (hb hby at_91) (by decide) (by decide) ?_
          try rw [eh14]
          exact ⟨congrArg (fun z => some (Value.int z)) (Eq.symm (show own_law q1 = _ from ((if_neg hc26_15).trans ((if_neg hc46_17).trans ((if_pos hc55_18).trans ((if_neg hc83_19).trans rfl)))))), N14⟩
      ·
        show own_Fin _ _ _ _ _ _ (T14.setTop (mkF m 55 #[.val (.long q1), .second, .val (.long q2), .second, .val (.long q3), .second, .val (.ref b12), .val (.long (own_mic q1)), .second, .unset, .unset, .unset, .unset] [(.int (lcmpW (own_mic q1) (1000000 : Int64)))]))
        refine own_to (fun t k => XS.ifNo X14.here hx rfl (hb hby at_55) rfl ((if0 _ _).trans (flt (fun z => hc55_18 ((lw_lt _ _).mp z))).1) k) ?_
        show own_Fin _ _ _ _ _ _ (T14.setTop (mkF m 58 #[.val (.long q1), .second, .val (.long q2), .second, .val (.long q3), .second, .val (.ref b12), .val (.long (own_mic q1)), .second, .unset, .unset, .unset, .unset] []))
        refine own_to (fun t k => XS.iconst X14.here hx rfl (hb hby at_58) k) ?_
        show own_Fin _ _ _ _ _ _ (T14.setTop (mkF m 59 #[.val (.long q1), .second, .val (.long q2), .second, .val (.long q3), .second, .val (.ref b12), .val (.long (own_mic q1)), .second, .unset, .unset, .unset, .unset] [(.int (0 : Int32))]))
        refine own_retN X14 hx hlk (t := .boolean) hret (by simp) (hb hby at_59) (by decide) (by decide) ?_
        try rw [eh14]
        exact ⟨congrArg (fun z => some (Value.int z)) (Eq.symm (show own_law q1 = _ from ((if_neg hc26_15).trans ((if_neg hc46_17).trans ((if_neg hc55_18).trans rfl))))), N14⟩
theorem own_lt64 (x y : Int64) : (x < y) = (x.toInt < y.toInt) := propext Int64.lt_iff_toInt_lt
theorem own_true (q : Int64) : own_law q = 1 := by
  by_cases h : q < 0
  · have e : own_mic q = 0 := by unfold own_mic; rw [if_pos h]
    unfold own_law
    rw [if_pos h, e, if_pos rfl]
  · have h' : 0 ≤ q.toInt := by rw [own_lt64, Int64.toInt_zero] at h; omega
    have hm : (1000000 : Int64).toInt = 1000000 := by decide
    have hq := q.toInt_lt
    have ed : (q / 1000000).toInt = q.toInt / 1000000 := by
      rw [Jvm.Kit.i64_div (by rw [hm]; omega), hm, Int.tdiv_eq_ediv_of_nonneg h']
    have em : ((q / 1000000) * 1000000).toInt = q.toInt / 1000000 * 1000000 := by
      rw [Jvm.Kit.i64_mul (by rw [ed, hm]; omega) (by rw [ed, hm]; omega), ed, hm]
    have er : (own_mic q).toInt = q.toInt - q.toInt / 1000000 * 1000000 := by
      unfold own_mic
      rw [if_neg h, Jvm.Kit.i64_sub (by rw [em]; omega) (by rw [em]; omega), em]
    have ew : (q - own_mic q) = (q / 1000000) * 1000000 := Int64.toInt_inj.mp (by rw [Jvm.Kit.i64_sub (by rw [er]; omega) (by rw [er]; omega), er, em]; omega)
    have ev : ((q / 1000000) * 1000000 : Int64) / 1000000 = q / 1000000 := Int64.toInt_inj.mp (by
      rw [Jvm.Kit.i64_div (by rw [hm]; omega), hm, em, Int.tdiv_eq_ediv_of_nonneg (by omega), ed]; omega)
    unfold own_law
    rw [if_neg h, if_neg (by rw [own_lt64, er, Int64.toInt_zero]; omega), if_pos (by rw [own_lt64, er, hm]; omega), ew, ev, if_pos rfl]
theorem own_rm0 (l : Launch) (Z : State) (a0 : Array Value) (hw : ∀ d ∈ tables_1, d.before a0 Z = true) (ws : List Jvm.Cond) (q1 q2 q3 : Int64) (h0 : Heap) (n0 : Nat) (Z0 : n0 ≤ h0.size) :
    own_Met l Z x code maxLocals ret ws room_1 #[(.long q1), (.long q2), (.long q3)] h0 (fun v h L => v = some (.int 1) ∧ Fr n0 L) := by
  have k := own_rm0x l Z a0 hw ws q1 q2 q3 h0 n0 Z0
  rw [own_true q1] at k
  exact k
set_option maxRecDepth 65536 in
set_option maxHeartbeats 40000000 in
theorem comes_1 {Post : Tables → Env → Array Value → State → Outcome → State → Prop} (hpost : ∀ tb e args s v u, (limb_1_1.after args s (.returned v) u = true ∧ limb_1_2.after args s (.returned v) u = true ∧ True) → FrameEnd s (.returned v) u (Jvm.fieldLocs frame_1_writes args s ++ Jvm.arrayLocs frame_1_arrays args s ++ Jvm.staticLocs frame_1_statics s) 16 128 → Post tb e args s (.returned v) u) :
    ArmFor flags0 classFile x code maxLocals ret World_1 tables_1 room_1 Calls_1 rest_1 Pre_1 Post := by
  intro l hfl _ _ p e ha hc hk s m args below hf hA hF happ hP
  obtain ⟨hcalls, hrest, hpre⟩ := hP
  obtain ⟨-, -, -, hnamed, -, -, -, hat⟩ := (Spec.applies_iff hf).mp happ
  obtain ⟨hg, hn⟩ := and_e (Cond.before_iff.mp (show (Jvm.Cond.and given_1 narrow_1).before args s = true from hpre))
  obtain ⟨g1, g2⟩ := and_e hg
  obtain ⟨g3, g4⟩ := and_e g2
  obtain ⟨g5, g6⟩ := and_e g4
  obtain ⟨w0, w1, w2, rfl⟩ : ∃ w0 w1 w2 : Value, args = #[w0, w1, w2] := by
    have hs : args.size = 3 := by simpa [Cond.value, given_1] using g1
    obtain ⟨L⟩ := args
    match L, hs with
    | [w0, w1, w2], _ => exact ⟨w0, w1, w2, rfl⟩
  have hw := fun d (hd : d ∈ tables_1) => atoms_spec (ws := Jvm.Cond.code x code maxLocals ret :: tables_1) hat d (List.mem_cons_of_mem _ hd)
  have hfit : Fit s := fun {y c} hc i hi => by
    obtain ⟨ha, rfl⟩ := Array.getElem?_eq_some_iff.mp hc
    have q := List.all_eq_true.mp ((Array.all_eq_true_iff_forall_mem.mp hF) _ (Array.getElem_mem ha)) i (List.mem_range.mpr hi)
    simpa [Array.getElem?_eq_getElem hi] using q
  obtain ⟨i0, ei0⟩ := isL_v g3
  obtain rfl : w0 = (.long i0) := Option.some.inj ei0
  obtain ⟨i1, ei1⟩ := isL_v g5
  obtain rfl : w1 = (.long i1) := Option.some.inj ei1
  obtain ⟨i2, ei2⟩ := isL_v g6
  obtain rfl : w2 = (.long i2) := Option.some.inj ei2
  obtain ⟨n, o, h1, h2, h3, _, L, rfl, ⟨rfl, N⟩, hq⟩ := own_rm0 l s _ hw tables_1 i0 i1 i2 s.heap s.heap.size (Nat.le_refl _) p e ha hc hk s m _ below hf ((Spec.applies_iff_loose hf).mp happ).1 ⟨rfl, State.Warmed39.refl s, rfl⟩ trivial
  refine ⟨n, _, h1, h2, h3, hpost _ _ _ _ _ _ ⟨Cond.after_iff.mpr rfl, Cond.after_iff.mpr (eq_i res_at (Term.int_eval (1)) rfl), trivial⟩ ⟨hq.1, hq.2.1, (hq.2.2.sift fun y hy => Or.inr (N y hy)).mono (by decide) (by decide)⟩⟩
theorem main_1_1 : Claimed_1_1 := comes_1 fun _ _ _ _ _ _ h hF => ⟨h.1, hF⟩
theorem main_1_2 : Claimed_1_2 := comes_1 fun _ _ _ _ _ _ h hF => ⟨h.2.1, hF⟩
end Jvm.Pilot.@@N@@
namespace Jvm.Pilot.@@N@@
open Jvm Jvm.ClassFile Sem Op Lib Jvm.Free Jvm.Stand Jvm.Pilot.@@N@@.Jvm.D
/-! MADE BY PROGRAM (witnessworld.py) out of the Statement's table words and the real class files: 10 classes; the members and pool entries that the words name. The judged class is class 1, her method 1. -/
namespace start1
open Jvm.ClassFile
def u (s : String) : CpInfo := .utf8 (stringToUtf16 s)
/-- a pool by its gaps: so many unusable entries, then the entry; so many at the end -/
def gap : Nat → List CpInfo → List CpInfo
  | 0, r => r
  | n + 1, r => .unusable :: gap n r
def poolList (es : List (Nat × CpInfo)) (last : Nat) : List CpInfo := es.foldr (fun e r => gap e.1 (e.2 :: r)) (gap last [])
def pool (es : List (Nat × CpInfo)) (last : Nat) : Array CpInfo := ⟨poolList es last⟩
def fileOf (pool : Array CpInfo) (this : Nat) (attrs : Array Attribute := #[]) (ms : Array MethodInfo := #[]) (fl : Nat := 33) (sup : Nat := 0) (ifs : Array Nat := #[]) (fds : Array FieldInfo := #[]) : ClassFile where
  minorVersion := 0
  majorVersion := 65
  constantPool := pool
  accessFlags := fl
  thisClass := this
  superClass := sup
  interfaces := ifs
  fields := fds
  methods := ms
  attributes := attrs
def plain (name : String) (sup : Option ClassId) : Class where
  name := name
  kind := .ordinary
  loader := none
  accessFlags := 33
  super := sup
  interfaces := #[]
  cf := none
  fields := #[]
  methods := #[]
  instanceTypes := #[]
  staticTypes := #[]
  resolved := #[]
  callSites := []
  init := .initialized
  statics := none
  mirror := none

def pool0 : Array CpInfo := pool [(5, u "<init>"), (0, u "()V"), (1, .class_ 10), (1, u "java/lang/Object")] 113

def k0c0 : Code := { maxStack := 0, maxLocals := 1, code := object_method_1_code, exceptionTable := #[], attributes := #[] }
def k0m0 : Method := { name := "<init>", desc := "()V", sig := { parameters := [], returnType := none }, accessFlags := 1, code := some k0c0 }
/-- java/lang/Object -/
def k0 : Class := { plain "java/lang/Object" none with
  accessFlags := 33
  interfaces := #[]
  cf := some (fileOf pool0 8 #[] #[{ accessFlags := 1, nameIndex := 5, descriptorIndex := 6, attributes := #[] }] 33 0 #[] #[])
  fields := #[]
  methods := #[k0m0]
  instanceTypes := #[]
  staticTypes := #[]
  resolved := Array.replicate 124 none
  statics := none }

def pool1 : Array CpInfo := pool [(2, .class_ 4), (1, u "java/lang/Object"), (0, u "<init>"), (0, u "()V"), (0, .class_ 8), (0, u "com/example/deft_lock/deftlock/service/ServerInfo"), (0, .methodref 7 10), (0, .nameAndType 5 11), (0, u "(Ljava/lang/String;JJLjava/lang/String;Ljava/lang/String;J)V"), (0, .methodref 7 13), (0, .nameAndType 14 15), (0, u "microsIntoSecond"), (0, u "()J"), (0, .long 1000000), (1, .class_ 19), (0, u "com/example/deft_lock/deftlock/service/ServerInfoMicrosIntoSecondPinLaw"), (2, u "law"), (0, u "(JJJ)Z")] 3

def k1m0 : Method := { name := "<init>", desc := "()V", sig := { parameters := [], returnType := none }, accessFlags := 1, code := none }
def k1c1 : Code := { maxStack := 11, maxLocals := 13, code := code, exceptionTable := #[], attributes := #[] }
def k1m1 : Method := { name := "law", desc := "(JJJ)Z", sig := { parameters := [.long, .long, .long], returnType := some .boolean }, accessFlags := 9, code := some k1c1 }
/-- com/example/deft_lock/deftlock/service/ServerInfoMicrosIntoSecondPinLaw -/
def k1 : Class := { plain "com/example/deft_lock/deftlock/service/ServerInfoMicrosIntoSecondPinLaw" (some 0) with
  accessFlags := 49
  interfaces := #[]
  cf := some (fileOf pool1 18 #[] #[{ accessFlags := 1, nameIndex := 5, descriptorIndex := 6, attributes := #[] }, { accessFlags := 9, nameIndex := 22, descriptorIndex := 23, attributes := #[] }] 49 2 #[] #[])
  fields := #[]
  methods := #[k1m0, k1m1]
  instanceTypes := #[]
  staticTypes := #[]
  resolved := Array.replicate 27 none
  statics := none }

def pool2 : Array CpInfo := pool [(1, .methodref 2 3), (0, .class_ 4), (0, .nameAndType 5 6), (0, u "java/lang/Object"), (0, u "<init>"), (0, u "()V"), (0, .class_ 8), (0, u "java/lang/Record")] 13

def k2c0 : Code := { maxStack := 1, maxLocals := 1, code := jdk_30_method_1_code, exceptionTable := #[], attributes := #[] }
def k2m0 : Method := { name := "<init>", desc := "()V", sig := { parameters := [], returnType := none }, accessFlags := 4, code := some k2c0 }
/-- java/lang/Record -/
def k2 : Class := { plain "java/lang/Record" (some 0) with
  accessFlags := 1057
  interfaces := #[]
  cf := some (fileOf pool2 7 #[] #[{ accessFlags := 4, nameIndex := 5, descriptorIndex := 6, attributes := #[] }] 1057 2 #[] #[])
  fields := #[]
  methods := #[k2m0]
  instanceTypes := #[]
  staticTypes := #[]
  resolved := Array.replicate 22 none
  statics := none }

def pool3 : Array CpInfo := pool [(1, .methodref 2 3), (0, .class_ 4), (0, .nameAndType 5 6), (0, u "java/lang/Record"), (0, u "<init>"), (0, u "()V"), (0, .fieldref 8 9), (0, .class_ 10), (0, .nameAndType 11 12), (0, u "com/example/deft_lock/deftlock/service/ServerInfo"), (0, u "runId"), (0, u "Ljava/lang/String;"), (0, .fieldref 8 14), (0, .nameAndType 15 16), (0, u "uptimeSeconds"), (0, u "J"), (0, .fieldref 8 18), (0, .nameAndType 19 16), (0, u "clockMicros"), (0, .fieldref 8 21), (0, .nameAndType 22 12), (0, u "role"), (0, .fieldref 8 24), (0, .nameAndType 25 12), (0, u "master"), (0, .fieldref 8 27), (0, .nameAndType 28 16), (0, u "connectedReplicas"), (75, u "(Ljava/lang/String;JJLjava/lang/String;Ljava/lang/String;J)V"), (0, .long 1000000), (18, u "NO_CLOCK"), (1, u "MICROS_PER_SECOND"), (13, u "microsIntoSecond"), (0, u "()J")] 34

def k3c0 : Code := { maxStack := 3, maxLocals := 10, code := prog_7_method_1_code, exceptionTable := #[], attributes := #[] }
def k3m0 : Method := { name := "<init>", desc := "(Ljava/lang/String;JJLjava/lang/String;Ljava/lang/String;J)V", sig := { parameters := [(.object "java/lang/String"), .long, .long, (.object "java/lang/String"), (.object "java/lang/String"), .long], returnType := none }, accessFlags := 0, code := some k3c0 }
def k3c1 : Code := { maxStack := 4, maxLocals := 1, code := prog_7_method_5_code, exceptionTable := #[], attributes := #[] }
def k3m1 : Method := { name := "microsIntoSecond", desc := "()J", sig := { parameters := [], returnType := some .long }, accessFlags := 0, code := some k3c1 }
/-- com/example/deft_lock/deftlock/service/ServerInfo -/
def k3 : Class := { plain "com/example/deft_lock/deftlock/service/ServerInfo" (some 2) with
  accessFlags := 48
  interfaces := #[]
  cf := some (fileOf pool3 8 #[] #[{ accessFlags := 0, nameIndex := 5, descriptorIndex := 104, attributes := #[] }, { accessFlags := 0, nameIndex := 140, descriptorIndex := 141, attributes := #[] }] 48 2 #[] #[{ accessFlags := 18, nameIndex := 11, descriptorIndex := 12, attributes := #[] }, { accessFlags := 18, nameIndex := 15, descriptorIndex := 16, attributes := #[] }, { accessFlags := 18, nameIndex := 19, descriptorIndex := 16, attributes := #[] }, { accessFlags := 18, nameIndex := 22, descriptorIndex := 12, attributes := #[] }, { accessFlags := 18, nameIndex := 25, descriptorIndex := 12, attributes := #[] }, { accessFlags := 18, nameIndex := 28, descriptorIndex := 16, attributes := #[] }, { accessFlags := 24, nameIndex := 124, descriptorIndex := 16, attributes := #[] }, { accessFlags := 26, nameIndex := 126, descriptorIndex := 16, attributes := #[] }])
  fields := #[{ name := "runId", type := (.object "java/lang/String"), accessFlags := 18, slot := 0, constantValue := 0 }, { name := "uptimeSeconds", type := .long, accessFlags := 18, slot := 1, constantValue := 0 }, { name := "clockMicros", type := .long, accessFlags := 18, slot := 2, constantValue := 0 }, { name := "role", type := (.object "java/lang/String"), accessFlags := 18, slot := 3, constantValue := 0 }, { name := "master", type := (.object "java/lang/String"), accessFlags := 18, slot := 4, constantValue := 0 }, { name := "connectedReplicas", type := .long, accessFlags := 18, slot := 5, constantValue := 0 }, { name := "NO_CLOCK", type := .long, accessFlags := 24, slot := 0, constantValue := 0 }, { name := "MICROS_PER_SECOND", type := .long, accessFlags := 26, slot := 1, constantValue := 0 }]
  methods := #[k3m0, k3m1]
  instanceTypes := #[(.object "java/lang/String"), .long, .long, (.object "java/lang/String"), (.object "java/lang/String"), .long]
  staticTypes := #[.long, .long]
  resolved := Array.replicate 176 none
  statics := none }

def pool4 : Array CpInfo := pool [(1, u "java/lang/Cloneable"), (0, .class_ 1), (0, u "java/lang/Object"), (0, .class_ 3)] 3

/-- java/lang/Cloneable -/
def k4 : Class := { plain "java/lang/Cloneable" (some 0) with
  accessFlags := 1537
  interfaces := #[]
  cf := some (fileOf pool4 2 #[] #[] 1537 4 #[] #[])
  fields := #[]
  methods := #[]
  instanceTypes := #[]
  staticTypes := #[]
  resolved := Array.replicate 8 none
  statics := none }

def pool5 : Array CpInfo := pool [(1, u "java/io/Serializable"), (0, .class_ 1), (0, u "java/lang/Object"), (0, .class_ 3)] 3

/-- java/io/Serializable -/
def k5 : Class := { plain "java/io/Serializable" (some 0) with
  accessFlags := 1537
  interfaces := #[]
  cf := some (fileOf pool5 2 #[] #[] 1537 4 #[] #[])
  fields := #[]
  methods := #[]
  instanceTypes := #[]
  staticTypes := #[]
  resolved := Array.replicate 8 none
  statics := none }

/-- the primitive byte -/
def k6 : Class := { plain "byte" none with kind := .primitive 'B', accessFlags := 0x411 }
/-- [B -/
def k7 : Class := { plain "[B" (some 0) with kind := .array 6 .byte, interfaces := #[4, 5], accessFlags := 1041 }

/-- the primitive int -/
def k8 : Class := { plain "int" none with kind := .primitive 'I', accessFlags := 0x411 }
/-- [I -/
def k9 : Class := { plain "[I" (some 0) with kind := .array 8 .int, interfaces := #[4, 5], accessFlags := 1041 }

def heap : Heap := #[]
def classes : Array Class := #[k0, k1, k2, k3, k4, k5, k6, k7, k8, k9]
def interned : List (Array UInt16 × Addr) := []
def slotsUsed : Nat := 0
def theMethod : MethodId := ⟨1, 1⟩
def args0 : Array Value := #[.long 5, .long 7, .long 9]
def aboutOver (below : List Frame) : State where
  vm := { classes := classes, interned := interned.toArray }
  heap := heap
  slotsUsed := slotsUsed
  threads := #[{ frames := .invoking theMethod args0 :: below }]
def below0 : List Frame := [.native { method := ⟨0, 0⟩, args := #[] }]
def about1 : State := aboutOver below0
def p0 : Program := .bare "" "" ""
def e0 : Env := launch0.env 0 0 0
theorem w_frames : about1.frames = Frame.invoking theMethod args0 :: below0 := rfl
set_option maxRecDepth 65536 in
theorem w_args : argsFit about1.vm theMethod args0 = true := by decide +kernel
set_option maxRecDepth 65536 in
theorem w_heap : heapFits about1 = true := by decide +kernel
set_option maxRecDepth 65536 in
theorem w_runnable : about1.curStatus? = some .runnable := by decide +kernel
set_option maxRecDepth 65536 in
theorem w_alone : about1.alone = true := by decide +kernel
set_option maxRecDepth 65536 in
theorem w_named : about1.methodNamed? x = some theMethod := by decide +kernel
set_option maxRecDepth 65536 in
theorem w_hears : about1.hears theMethod below0 = true := by decide +kernel
set_option maxRecDepth 65536 in
theorem w_ripe : about1.ripe theMethod args0 below0 = true := by decide +kernel
theorem w_running : about1.status = .running := rfl
set_option maxRecDepth 65536 in
theorem w_room : about1.hasRoom e0.platform room_1 = true :=
  launch0.hasRoom_least _ room_1 (by decide +kernel) (by decide +kernel) (by decide +kernel) (by decide +kernel) (by decide +kernel) (by decide +kernel)
theorem allAtoms_all (ts : List Jvm.Cond) (a : Array Jvm.Value) (st : Jvm.State) : (allAtoms ts).before a st = ts.all (fun c => c.before a st) := by
  induction ts with
  | nil => rfl
  | cons c t ih =>
    show (Jvm.Cond.and c (allAtoms t)).before a st = _
    rw [Jvm.Cond.before_and, ih, List.all_cons]
def words1 : List Jvm.Cond := Jvm.Cond.code x code maxLocals ret :: tables_1
/-- a 'code' word, met by the world's own term for the bytes: nothing is compared byte by byte -/
theorem code_word {y : MethodName} {bytes : ByteArray} {mx : Nat} {rt : Option FieldType} {a : Array Value} {s : State} {m : MethodId} {meth : Method} {c : Code} (h1 : s.methodNamed? y = some m) (h2 : s.vm.method? m = some meth) (h3 : meth.code = some c) (h4 : c.code = bytes)
    (h5 : (c.maxLocals == mx && c.exceptionTable.isEmpty && decide (c.maxStack ≤ mostOperands) && decide (meth.sig.returnType = rt) && !meth.locks && decide (parseMethodDescriptor y.desc = some meth.sig)) = true) : (Jvm.Cond.code y bytes mx rt).before a s = true := by
  simp only [Bool.and_eq_true, beq_iff_eq, Bool.not_eq_true', decide_eq_true_eq] at h5
  obtain ⟨⟨⟨⟨⟨g1, g2⟩, g3⟩, g4⟩, g5⟩, g6⟩ := h5
  simp [Cond.before, Cond.holds, Cond.value, h1, h2, h3, h4, g1, g2, g3, g4, g5, g6]
def isCode : Jvm.Cond → Bool
  | .code _ _ _ _ => true
  | _ => false
theorem all_split {L : List Jvm.Cond} {P : Jvm.Cond → Bool} (h1 : L.all (fun c => isCode c || P c) = true) (h2 : ∀ c ∈ L.filter isCode, P c = true) : L.all P = true := by
  refine List.all_eq_true.mpr fun c hc => ?_
  have h := List.all_eq_true.mp h1 c hc
  rcases Bool.eq_false_or_eq_true (isCode c) with hi | hi
  · exact h2 c (List.mem_filter.mpr ⟨hc, hi⟩)
  · simpa [hi] using h
set_option maxRecDepth 65536 in
theorem w_c0 : (Jvm.Cond.code x code maxLocals ret).before args0 about1 = true := code_word (m := ⟨1, 1⟩) (meth := k1m1) (c := k1c1) (by decide +kernel) rfl rfl rfl (by decide +kernel)
set_option maxRecDepth 65536 in
theorem w_c1 : (Jvm.Cond.code ({ cls := "com/example/deft_lock/deftlock/service/ServerInfo", name := "<init>", desc := "(Ljava/lang/String;JJLjava/lang/String;Ljava/lang/String;J)V" } : Jvm.MethodName) prog_7_method_1_code (10 : Nat) (Option.none : Option Jvm.ClassFile.FieldType)).before args0 about1 = true := code_word (m := ⟨3, 0⟩) (meth := k3m0) (c := k3c0) (by decide +kernel) rfl rfl rfl (by decide +kernel)
set_option maxRecDepth 65536 in
theorem w_c2 : (Jvm.Cond.code ({ cls := "java/lang/Record", name := "<init>", desc := "()V" } : Jvm.MethodName) jdk_30_method_1_code (1 : Nat) (Option.none : Option Jvm.ClassFile.FieldType)).before args0 about1 = true := code_word (m := ⟨2, 0⟩) (meth := k2m0) (c := k2c0) (by decide +kernel) rfl rfl rfl (by decide +kernel)
set_option maxRecDepth 65536 in
theorem w_c3 : (Jvm.Cond.code ({ cls := "java/lang/Object", name := "<init>", desc := "()V" } : Jvm.MethodName) object_method_1_code (1 : Nat) (Option.none : Option Jvm.ClassFile.FieldType)).before args0 about1 = true := code_word (m := ⟨0, 0⟩) (meth := k0m0) (c := k0c0) (by decide +kernel) rfl rfl rfl (by decide +kernel)
set_option maxRecDepth 65536 in
theorem w_c4 : (Jvm.Cond.code ({ cls := "com/example/deft_lock/deftlock/service/ServerInfo", name := "microsIntoSecond", desc := "()J" } : Jvm.MethodName) prog_7_method_5_code (1 : Nat) (Option.some Jvm.ClassFile.FieldType.long)).before args0 about1 = true := code_word (m := ⟨3, 1⟩) (meth := k3m1) (c := k3c1) (by decide +kernel) rfl rfl rfl (by decide +kernel)
def codes1 : List Jvm.Cond := [Jvm.Cond.code x code maxLocals ret, Jvm.Cond.code ({ cls := "com/example/deft_lock/deftlock/service/ServerInfo", name := "<init>", desc := "(Ljava/lang/String;JJLjava/lang/String;Ljava/lang/String;J)V" } : Jvm.MethodName) prog_7_method_1_code (10 : Nat) (Option.none : Option Jvm.ClassFile.FieldType), Jvm.Cond.code ({ cls := "java/lang/Record", name := "<init>", desc := "()V" } : Jvm.MethodName) jdk_30_method_1_code (1 : Nat) (Option.none : Option Jvm.ClassFile.FieldType), Jvm.Cond.code ({ cls := "java/lang/Object", name := "<init>", desc := "()V" } : Jvm.MethodName) object_method_1_code (1 : Nat) (Option.none : Option Jvm.ClassFile.FieldType), Jvm.Cond.code ({ cls := "com/example/deft_lock/deftlock/service/ServerInfo", name := "microsIntoSecond", desc := "()J" } : Jvm.MethodName) prog_7_method_5_code (1 : Nat) (Option.some Jvm.ClassFile.FieldType.long)]
set_option maxRecDepth 65536 in
theorem codes_eq : words1.filter isCode = codes1 := rfl
theorem w_codes : ∀ c ∈ words1.filter isCode, c.before args0 about1 = true := by
  rw [codes_eq]
  intro c hc
  simp only [codes1, List.mem_cons, List.not_mem_nil, or_false] at hc
  rcases hc with rfl | rfl | rfl | rfl | rfl
  · exact w_c0
  · exact w_c1
  · exact w_c2
  · exact w_c3
  · exact w_c4
set_option maxRecDepth 65536 in
theorem w_t1 : (words1.take 24).all (fun c => isCode c || c.before args0 about1) = true := by decide +kernel
set_option maxRecDepth 65536 in
theorem w_t2 : (words1.drop 24).all (fun c => isCode c || c.before args0 about1) = true := by decide +kernel
theorem w_tables : (allAtoms (Jvm.Cond.code x code maxLocals ret :: tables_1)).before args0 about1 = true := by
  rw [allAtoms_all]
  show words1.all (fun c => c.before args0 about1) = true
  refine all_split ?_ w_codes
  rw [← List.take_append_drop 24 words1, List.all_append, w_t1, w_t2]
  rfl
set_option maxRecDepth 65536 in
theorem w_case : (Jvm.Cond.and given_1 narrow_1).before args0 about1 = true := by decide +kernel
theorem w_applies : (headSpec (Jvm.Cond.code x code maxLocals ret :: tables_1) room_1).applies x e0.platform about1 = true :=
  (Spec.applies_iff w_frames).mpr ⟨w_running, w_runnable, w_alone, w_named, w_hears, w_ripe, w_room, w_tables⟩
theorem atStart : AtStart classFile x code maxLocals ret World_1 tables_1 room_1 Calls_1 rest_1 Pre_1 launch0 p0 e0 about1 theMethod args0 below0 :=
  ⟨lists_1, trivial, launch0.admits_env _ _ _, launch0.least_env, fairChoices_fair.cas, fairChoices_fair.clock, w_frames, w_args, w_heap, w_applies, trivial, trivial, w_case⟩
end start1
theorem witness_1 : WitnessClaimed_1 := ⟨start1.p0, start1.e0, start1.about1, start1.theMethod, start1.args0, start1.below0, start1.atStart⟩
end Jvm.Pilot.@@N@@
