import JvmDerived
import JvmDerived.Pilot.@@N@@Statement
import JvmDerived.Pilot.@@N@@Code
set_option linter.unusedVariables false
set_option linter.unusedSimpArgs false
@@BLOCK:NumsL.lean.txt@@
namespace Jvm.Pilot.@@N@@
open Jvm Jvm.ClassFile Sem Op Lib Jvm.Free Jvm.Stand Jvm.LawKit Jvm.RoadKit Bundle Jvm.Pilot.@@N@@.Jvm.D
section Own
variable {p : Program} {l : Launch} {e : Env} {R : Room} {s Z : State} {m : MethodId} {args : Array Value} {below : List Frame} {meth : Method} {c : Code} {T : State} {locs : List Loc} {cells slots : Nat} {q : Option Value → Heap → List Loc → Prop}
/-- from U the run ends in a return, as q says -/
def own_Fin (p : Program) (e : Env) (below : List Frame) (s : State) (R : Room) (q : Option Value → Heap → List Loc → Prop) (U : State) : Prop :=
  ∃ s₂ o, Steps p.tables e below U s₂ ∧ s₂.status = .running ∧ Ended s₂ below o ∧ ∃ v L, o = .returned v ∧ q v s₂.heap L ∧ FrameEnd s o s₂ L R.cells R.slots
theorem own_to {U U' : State} (h : ∀ t, Steps p.tables e below U' t → Steps p.tables e below U t) (k : own_Fin p e below s R q U') : own_Fin p e below s R q U := by
  obtain ⟨s₂, o, h1, r⟩ := k
  exact ⟨s₂, o, h _ h1, r⟩
theorem own_ite {C : Prop} [Decidable C] {G : Int32 → State} {U : State} {v1 v0 : Int32} (k : own_Fin p e below s R q (G (if C then v1 else v0))) (h1 : C → own_Fin p e below s R q (G v1) → own_Fin p e below s R q U) (h0 : ¬ C → own_Fin p e below s R q (G v0) → own_Fin p e below s R q U) : own_Fin p e below s R q U := by
  by_cases h : C
  · rw [if_pos h] at k; exact h1 h k
  · rw [if_neg h] at k; exact h0 h k
theorem own_cut {U V : State} (k : own_Fin p e below s R q V) (h : own_Fin p e below s R q V → own_Fin p e below s R q U) : own_Fin p e below s R q U := h k
theorem own_retN (X : Stand p l e R s m args below meth c T locs cells slots) (hx : p.tables.exec = Jvm.exec) (hlk : meth.locks = false) {pc : Nat} {Ls : Array Slot} {z : Int32} {t : FieldType} {rest : List Value} (hret : meth.sig.returnType = some t) (ht : t = .boolean ∨ t = .byte ∨ t = .char ∨ t = .short) (hd : decode c.code pc = .ok (.ireturn, 1)) (hc : cells ≤ R.cells) (hs : slots ≤ R.slots) (hq : q (some (.int (nar t z))) T.heap locs) :
    own_Fin p e below s R q (T.setTop (mkF m pc Ls (.int z :: rest))) := by
  obtain ⟨fs, hr, hrun, hended, hW, hsame⟩ := X.leave (v := some (.int (nar t z))) (fun h => by rw [hret] at h; cases h)
  exact ⟨_, _, retN X hx hret ht hd hr, hrun, hended, _, _, rfl, hq, ⟨_, rfl⟩, hW, hsame.mono hc hs⟩
theorem own_retI (X : Stand p l e R s m args below meth c T locs cells slots) (hx : p.tables.exec = Jvm.exec) (hlk : meth.locks = false) {pc : Nat} {Ls : Array Slot} {z : Int32} {rest : List Value} (hret : meth.sig.returnType = some .int) (hd : decode c.code pc = .ok (.ireturn, 1)) (hc : cells ≤ R.cells) (hs : slots ≤ R.slots) (hq : q (some (.int z)) T.heap locs) :
    own_Fin p e below s R q (T.setTop (mkF m pc Ls (.int z :: rest))) := by
  obtain ⟨fs, hr, hrun, hended, hW, hsame⟩ := X.leave (v := some (.int z)) (fun h => by rw [hret] at h; cases h)
  exact ⟨_, _, retOut X hx hret rfl (Or.inl ⟨rfl, Or.inl rfl, z, rfl⟩) hd hr, hrun, hended, _, _, rfl, hq, ⟨_, rfl⟩, hW, hsame.mono hc hs⟩
theorem own_retJ (X : Stand p l e R s m args below meth c T locs cells slots) (hx : p.tables.exec = Jvm.exec) (hlk : meth.locks = false) {pc : Nat} {Ls : Array Slot} {z : Int64} {rest : List Value} (hret : meth.sig.returnType = some .long) (hd : decode c.code pc = .ok (.lreturn, 1)) (hc : cells ≤ R.cells) (hs : slots ≤ R.slots) (hq : q (some (.long z)) T.heap locs) :
    own_Fin p e below s R q (T.setTop (mkF m pc Ls (.long z :: rest))) := by
  obtain ⟨fs, hr, hrun, hended, hW, hsame⟩ := X.leave (v := some (.long z)) (fun h => by rw [hret] at h; cases h)
  exact ⟨_, _, retOut X hx hret rfl (Or.inr (Or.inl ⟨rfl, rfl, z, rfl⟩)) hd hr, hrun, hended, _, _, rfl, hq, ⟨_, rfl⟩, hW, hsame.mono hc hs⟩
theorem own_retR (X : Stand p l e R s m args below meth c T locs cells slots) (hx : p.tables.exec = Jvm.exec) (hlk : meth.locks = false) {pc : Nat} {Ls : Array Slot} {w : Value} {t : FieldType} {rest : List Value} (hret : meth.sig.returnType = some t) (ht : t.isReference = true) (hw : w.isRef = true) (hn : narrow t w = w) (hd : decode c.code pc = .ok (.areturn, 1)) (hc : cells ≤ R.cells) (hs : slots ≤ R.slots) (hq : q (some w) T.heap locs) :
    own_Fin p e below s R q (T.setTop (mkF m pc Ls (w :: rest))) := by
  obtain ⟨fs, hr, hrun, hended, hW, hsame⟩ := X.leave (v := some w) (fun h => by rw [hret] at h; cases h)
  exact ⟨_, _, retOut X hx hret hn (Or.inr (Or.inr (Or.inr (Or.inr ⟨rfl, ht, hw⟩)))) hd hr, hrun, hended, _, _, rfl, hq, ⟨_, rfl⟩, hW, hsame.mono hc hs⟩
theorem own_retV (X : Stand p l e R s m args below meth c T locs cells slots) (hx : p.tables.exec = Jvm.exec) (hlk : meth.locks = false) {pc : Nat} {Ls : Array Slot} (hret : meth.sig.returnType = none) (hd : decode c.code pc = .ok (.return_, 1)) (hc : cells ≤ R.cells) (hs : slots ≤ R.slots) (hq : q none T.heap locs) :
    own_Fin p e below s R q (T.setTop (mkF m pc Ls [])) := by
  obtain ⟨fs, hr, hrun, hended, hW, hsame⟩ := X.leave (v := none) (fun _ => rfl)
  exact ⟨_, _, X.returnOut hx hret hd hr, hrun, hended, _, _, rfl, hq, ⟨_, rfl⟩, hW, hsame.mono hc hs⟩
/-- the contract of a body at given arguments and a given heap -/
abbrev own_Met (l : Launch) (Z : State) (y : MethodName) (bytes : ByteArray) (maxL : Nat) (ret : Option FieldType) (ws : List Jvm.Cond) (rm : Room) (as' : Array Value) (h0 : Heap) (q : Option Value → Heap → List Loc → Prop) : Prop :=
  MetFree l y (head1 (Jvm.Cond.code y bytes maxL ret :: ws) rm) (fun a U => a = as' ∧ Z.Warmed39 U.vm ∧ U.heap = h0) (fun _ _ _ _ _ => True) (fun _ U o U' => ∃ v L, o = .returned v ∧ q v U'.heap L ∧ FrameEnd U o U' L rm.cells rm.slots)
theorem own_back {a0 : Array Value} {h : Heap} {y : MethodName} {bytes : ByteArray} {maxL : Nat} {ret : Option FieldType} {rm : Room} {len W : Nat} {as' : Array Value} (hM : own_Met l Z y bytes maxL ret [] rm as' h q)
    (hZ : Z.Warmed39 s.vm) (wc : (Jvm.Cond.code y bytes maxL ret).before a0 Z = true) (wz : (Jvm.Cond.initialized y.cls).before a0 Z = true) (hf : rm.frames + 1 ≤ R.frames) (hl : W + (maxL + 11) + rm.locals ≤ R.locals) :
    Back l R p e below s args y len W (fun A a => a = as' ∧ A.U.heap = h ∧ A.cells + rm.cells ≤ R.cells ∧ A.slots + rm.slots ≤ R.slots)
      (fun A _ v B => ∃ L, q v B.U.heap L ∧ B.locs = A.locs ++ L ∧ B.cells = A.cells + rm.cells ∧ B.slots = A.slots + rm.slots) := backOf (Q := q) hM hZ wc wz hf hl
theorem own_enter {y : MethodName} {bytes : ByteArray} {maxL : Nat} {ret : Option FieldType} {ws : List Jvm.Cond} {rm : Room} {as' : Array Value} {h0 : Heap} (hpl : plainFor y = true)
    (k : ∀ (p : Program) (e : Env) (s : State) (m : MethodId) (below : List Frame) (meth : Method) (c : Code) (s₁ : State), Stand p l e rm s m as' below meth c s₁ [] 0 0 → p.tables.exec = Jvm.exec → Z.Warmed39 s.vm → c.code = bytes → c.maxLocals = maxL → s.vm.findClass y.cls = some m.cls → meth.name = y.name → meth.sig.returnType = ret → meth.locks = false → s₁.heap = h0 → own_Fin p e below s rm q (s₁.setTop (entryFrame m as' maxL))) :
    own_Met l Z y bytes maxL ret ws rm as' h0 q := by
  refine MetFree.of_bodySF hpl hisR ?_
  intro p e s m args below meth c s₁ Bd hml0 hP hK
  obtain ⟨rfl, hZ, hh⟩ := hP
  exact k p e s m below meth c s₁ (Stand.of_body Bd) Bd.exec hZ Bd.bytes hml0 (findClass_of_methodNamed Bd.named) (name_of_methodNamed Bd.named Bd.method).1 Bd.returns Bd.notSynchronized (by rw [← hh, Bd.state]; rfl)
theorem own_selP {a : Array Value} {y y' : MethodName} (w : (Jvm.Cond.selects y'.cls y' y').before a s = true) (hc : y'.cls = y.cls) (hp : s.PrivateAt y) (hi : (Jvm.Cond.instanceMethod y).before a s = true) (hy : y.cls ≠ "java/lang/invoke/MethodHandle" ∧ y.cls ≠ "java/lang/invoke/VarHandle") : (Jvm.Cond.selects y.cls y y).before a s = true := by
  obtain ⟨c, r, m, h1, -, h3, -, mk, h4, h5⟩ := Cond.selects_spec w
  exact selects_self_of_private (c := m.cls) (k := mk) (hc ▸ findClass_of_methodNamed h3) h4 h5 hp hi hy
end Own
def own_ans (wA : Addr) (wD : Addr) (q1 : Int64) (p1 : Int32) : Addr := (if (((q1.toUInt64 >>> (p1 &&& 0x3f).toInt64.toUInt64).toInt64) &&& (1 : Int64)) = (0 : Int64) then wD else wA)
theorem own_d1_0 : decode prog_52_method_5_code 0 = .ok (.lload_n 0, 1) := by decide +kernel
theorem own_d1_1 : decode prog_52_method_5_code 1 = .ok (.iload_n 2, 1) := by decide +kernel
theorem own_d1_2 : decode prog_52_method_5_code 2 = .ok (.lushr, 1) := by decide +kernel
theorem own_d1_3 : decode prog_52_method_5_code 3 = .ok (.lconst 1, 1) := by decide +kernel
theorem own_d1_4 : decode prog_52_method_5_code 4 = .ok (.land, 1) := by decide +kernel
theorem own_d1_5 : decode prog_52_method_5_code 5 = .ok (.lconst 0, 1) := by decide +kernel
theorem own_d1_6 : decode prog_52_method_5_code 6 = .ok (.lcmp, 1) := by decide +kernel
theorem own_d1_7 : decode prog_52_method_5_code 7 = .ok (.ifCond .eq 9, 3) := by decide +kernel
theorem own_d1_10 : decode prog_52_method_5_code 10 = .ok (.getstatic 106, 3) := by decide +kernel
theorem own_d1_13 : decode prog_52_method_5_code 13 = .ok (.goto 6, 3) := by decide +kernel
theorem own_d1_16 : decode prog_52_method_5_code 16 = .ok (.getstatic 112, 3) := by decide +kernel
theorem own_d1_19 : decode prog_52_method_5_code 19 = .ok (.areturn, 1) := by decide +kernel
theorem own_pn0 : plainName "com/example/inner_gate/innergate/Stanza" = true := by first | (simp [plainName, overriddenIn]; done) | decide +kernel
theorem own_rm1_ef (m : MethodId) (q1 : Int64) (p1 : Int32) : entryFrame m #[(.long q1), (.int p1)] 3 = mkF m 0 #[.val (.long q1), .second, .val (.int p1)] [] := by first | (simp [entryFrame, mkF, argsToLocals, Value.category]; done) | rfl
set_option maxRecDepth 65536 in
set_option maxHeartbeats 40000000 in
theorem own_rm1 (l : Launch) (Z : State) (a0 : Array Value) (hw : ∀ d ∈ tables_1, d.before a0 Z = true) (ws : List Jvm.Cond) (wA : Addr) (wD : Addr) (q1 : Int64) (p1 : Int32) (h0 : Heap) (n0 : Nat) (Z0 : n0 ≤ h0.size) (SA : Sta Z h0 "com/example/inner_gate/innergate/Answer" "ALLOW" "Lcom/example/inner_gate/innergate/Answer;" (.ref wA)) (SD : Sta Z h0 "com/example/inner_gate/innergate/Answer" "DENY" "Lcom/example/inner_gate/innergate/Answer;" (.ref wD)) :
    own_Met l Z (⟨"com/example/inner_gate/innergate/Stanza", "answerBelow64", "(JI)Lcom/example/inner_gate/innergate/Answer;"⟩ : MethodName) prog_52_method_5_code 3 (some (.object "com/example/inner_gate/innergate/Answer")) ws ({ frames := 0, cells := 0, slots := 0, locals := 0 } : Room) #[(.long q1), (.int p1)] h0 (fun v h L => v = some (.ref (own_ans wA wD q1 p1)) ∧ Fr n0 L ∧ h = h0) := by
  refine own_enter (plainFor_of_name own_pn0) ?_
  intro p e s m below meth c s₁ X0 hx hZ hby hml hown hnm hret hlk e0
  have N0 := Fr.nil n0
  rw [own_rm1_ef m q1 p1]
  show own_Fin _ _ _ _ _ _ (s₁.setTop (mkF m 0 #[.val (.long q1), .second, .val (.int p1)] []))
  refine own_to (fun t k => XS.lloadN X0.here hx rfl (hb hby own_d1_0) rfl k) ?_
  show own_Fin _ _ _ _ _ _ (s₁.setTop (mkF m 1 #[.val (.long q1), .second, .val (.int p1)] [(.long q1)]))
  refine own_to (fun t k => XS.iloadN X0.here hx rfl (hb hby own_d1_1) rfl k) ?_
  show own_Fin _ _ _ _ _ _ (s₁.setTop (mkF m 2 #[.val (.long q1), .second, .val (.int p1)] [(.int p1), (.long q1)]))
  refine own_to (fun t k => XS.lushr X0.here hx rfl (hb hby own_d1_2) rfl k) ?_
  show own_Fin _ _ _ _ _ _ (s₁.setTop (mkF m 3 #[.val (.long q1), .second, .val (.int p1)] [(.long ((q1.toUInt64 >>> (p1 &&& 0x3f).toInt64.toUInt64).toInt64))]))
  refine own_to (fun t k => XS.lconst X0.here hx rfl (hb hby own_d1_3) k) ?_
  show own_Fin _ _ _ _ _ _ (s₁.setTop (mkF m 4 #[.val (.long q1), .second, .val (.int p1)] [(.long (1 : Int64)), (.long ((q1.toUInt64 >>> (p1 &&& 0x3f).toInt64.toUInt64).toInt64))]))
  refine own_to (fun t k => XS.land X0.here hx rfl (hb hby own_d1_4) rfl k) ?_
  show own_Fin _ _ _ _ _ _ (s₁.setTop (mkF m 5 #[.val (.long q1), .second, .val (.int p1)] [(.long (((q1.toUInt64 >>> (p1 &&& 0x3f).toInt64.toUInt64).toInt64) &&& (1 : Int64)))]))
  refine own_to (fun t k => XS.lconst X0.here hx rfl (hb hby own_d1_5) k) ?_
  show own_Fin _ _ _ _ _ _ (s₁.setTop (mkF m 6 #[.val (.long q1), .second, .val (.int p1)] [(.long (0 : Int64)), (.long (((q1.toUInt64 >>> (p1 &&& 0x3f).toInt64.toUInt64).toInt64) &&& (1 : Int64)))]))
  refine own_to (fun t k => XS.lcmp X0.here hx rfl (hb hby own_d1_6) rfl k) ?_
  show own_Fin _ _ _ _ _ _ (s₁.setTop (mkF m 7 #[.val (.long q1), .second, .val (.int p1)] [(.int (lcmpW (((q1.toUInt64 >>> (p1 &&& 0x3f).toInt64.toUInt64).toInt64) &&& (1 : Int64)) (0 : Int64)))]))
  by_cases hc7_1 : (((q1.toUInt64 >>> (p1 &&& 0x3f).toInt64.toUInt64).toInt64) &&& (1 : Int64)) = (0 : Int64)
  ·
    show own_Fin _ _ _ _ _ _ (s₁.setTop (mkF m 7 #[.val (.long q1), .second, .val (.int p1)] [(.int (lcmpW (((q1.toUInt64 >>> (p1 &&& 0x3f).toInt64.toUInt64).toInt64) &&& (1 : Int64)) (0 : Int64)))]))
    refine own_to (fun t k => XS.ifYes X0.here hx rfl (pc0 := 7) (pc' := 16) rfl (hb hby own_d1_7) rfl ((if0 _ _).trans (teq ((lw_eq _ _).mpr hc7_1)).1) (by decide) (by decide) k) ?_
    show own_Fin _ _ _ _ _ _ (s₁.setTop (mkF m 16 #[.val (.long q1), .second, .val (.int p1)] []))
    obtain ⟨T2, X2, e2, st2⟩ := getS2 X0 hx hZ hown (host := "") (Or.inl (hw _ (List.mem_of_getElem? (i := 7) rfl))) Via.refl e0 SD (g := (mkF m 16 #[.val (.long q1), .second, .val (.int p1)] [])) rfl (hb hby own_d1_16)
    refine own_to (fun t k => st2 t k) ?_
    show own_Fin _ _ _ _ _ _ (T2.setTop (mkF m 19 #[.val (.long q1), .second, .val (.int p1)] [(.ref wD)]))
    refine own_retR X2 hx hlk hret rfl rfl rfl (hb hby own_d1_19) (by decide) (by decide) ?_
    try rw [e2]
    exact ⟨congrArg (fun z => some (Value.ref z)) (Eq.symm (show own_ans wA wD q1 p1 = _ from ((if_pos hc7_1).trans rfl))), N0, rfl⟩
  ·
    show own_Fin _ _ _ _ _ _ (s₁.setTop (mkF m 7 #[.val (.long q1), .second, .val (.int p1)] [(.int (lcmpW (((q1.toUInt64 >>> (p1 &&& 0x3f).toInt64.toUInt64).toInt64) &&& (1 : Int64)) (0 : Int64)))]))
    refine own_to (fun t k => XS.ifNo X0.here hx rfl (hb hby own_d1_7) rfl ((if0 _ _).trans (feq (fun z => hc7_1 ((lw_eq _ _).mp z))).1) k) ?_
    show own_Fin _ _ _ _ _ _ (s₁.setTop (mkF m 10 #[.val (.long q1), .second, .val (.int p1)] []))
    obtain ⟨T3, X3, e3, st3⟩ := getS2 X0 hx hZ hown (host := "") (Or.inl (hw _ (List.mem_of_getElem? (i := 8) rfl))) Via.refl e0 SA (g := (mkF m 10 #[.val (.long q1), .second, .val (.int p1)] [])) rfl (hb hby own_d1_10)
    refine own_to (fun t k => st3 t k) ?_
    show own_Fin _ _ _ _ _ _ (T3.setTop (mkF m 13 #[.val (.long q1), .second, .val (.int p1)] [(.ref wA)]))
    refine own_to (fun t k => XS.goto X3.here hx rfl (pc0 := 13) (pc' := 19) rfl (hb hby own_d1_13) (by decide) (by decide) k) ?_
    show own_Fin _ _ _ _ _ _ (T3.setTop (mkF m 19 #[.val (.long q1), .second, .val (.int p1)] [(.ref wA)]))
    refine own_retR X3 hx hlk hret rfl rfl rfl (hb hby own_d1_19) (by decide) (by decide) ?_
    try rw [e3]
    exact ⟨congrArg (fun z => some (Value.ref z)) (Eq.symm (show own_ans wA wD q1 p1 = _ from ((if_neg hc7_1).trans rfl))), N0, rfl⟩
def own_law (wA : Addr) (wD : Addr) (q1 : Int64) (p1 : Int32) : Int32 := (if (q1 <<< (((63 : Int32) - (p1 &&& (63 : Int32))) &&& 0x3f).toInt64) < (0 : Int64) then (if (own_ans wA wD q1 (p1 &&& (63 : Int32))) = wA then (if (own_ans wA wD (q1 ||| ((1 : Int64) <<< ((p1 &&& (63 : Int32)) &&& 0x3f).toInt64)) (p1 &&& (63 : Int32))) = wA then (if (own_ans wA wD (q1 &&& (((1 : Int64) <<< ((p1 &&& (63 : Int32)) &&& 0x3f).toInt64) ^^^ (-1 : Int64))) (p1 &&& (63 : Int32))) = wD then (1 : Int32) else (0 : Int32)) else (0 : Int32)) else (0 : Int32)) else (if (own_ans wA wD q1 (p1 &&& (63 : Int32))) = wD then (if (own_ans wA wD (q1 ||| ((1 : Int64) <<< ((p1 &&& (63 : Int32)) &&& 0x3f).toInt64)) (p1 &&& (63 : Int32))) = wA then (if (own_ans wA wD (q1 &&& (((1 : Int64) <<< ((p1 &&& (63 : Int32)) &&& 0x3f).toInt64) ^^^ (-1 : Int64))) (p1 &&& (63 : Int32))) = wD then (1 : Int32) else (0 : Int32)) else (0 : Int32)) else (0 : Int32)))
theorem own_pn1 : plainName "com/example/inner_gate/innergate/StanzaAnswerBelow64PinLaw" = true := by first | (simp [plainName, overriddenIn]; done) | decide +kernel
theorem own_pd0 : parseMethodDescriptor "(JI)Lcom/example/inner_gate/innergate/Answer;" = some ⟨[.long, .int], some (.object "com/example/inner_gate/innergate/Answer")⟩ := by decide +kernel
theorem own_rm0x_ef (m : MethodId) (q1 : Int64) (p1 : Int32) : entryFrame m #[(.long q1), (.int p1)] maxLocals = mkF m 0 #[.val (.long q1), .second, .val (.int p1), .unset, .unset, .unset, .unset, .unset, .unset, .unset, .unset] [] := by first | (simp [entryFrame, mkF, argsToLocals, Value.category, maxLocals]; done) | rfl
set_option maxRecDepth 65536 in
set_option maxHeartbeats 40000000 in
theorem own_rm0x (l : Launch) (Z : State) (a0 : Array Value) (hw : ∀ d ∈ tables_1, d.before a0 Z = true) (ws : List Jvm.Cond) (wA : Addr) (wD : Addr) (q1 : Int64) (p1 : Int32) (h0 : Heap) (n0 : Nat) (Z0 : n0 ≤ h0.size) (SA : Sta Z h0 "com/example/inner_gate/innergate/Answer" "ALLOW" "Lcom/example/inner_gate/innergate/Answer;" (.ref wA)) (SD : Sta Z h0 "com/example/inner_gate/innergate/Answer" "DENY" "Lcom/example/inner_gate/innergate/Answer;" (.ref wD)) :
    own_Met l Z x code maxLocals ret ws room_1 #[(.long q1), (.int p1)] h0 (fun v h L => v = some (.int (own_law wA wD q1 p1)) ∧ Fr n0 L) := by
  refine own_enter (plainFor_of_name own_pn1) ?_
  intro p e s m below meth c s₁ X0 hx hZ hby hml hown hnm hret hlk e0
  have N0 := Fr.nil n0
  rw [own_rm0x_ef m q1 p1]
  show own_Fin _ _ _ _ _ _ (s₁.setTop (mkF m 0 #[.val (.long q1), .second, .val (.int p1), .unset, .unset, .unset, .unset, .unset, .unset, .unset, .unset] []))
  refine own_to (fun t k => XS.iloadN X0.here hx rfl (hb hby at_0) rfl k) ?_
  show own_Fin _ _ _ _ _ _ (s₁.setTop (mkF m 1 #[.val (.long q1), .second, .val (.int p1), .unset, .unset, .unset, .unset, .unset, .unset, .unset, .unset] [(.int p1)]))
  refine own_to (fun t k => XS.bipush X0.here hx rfl (hb hby at_1) k) ?_
  show own_Fin _ _ _ _ _ _ (s₁.setTop (mkF m 3 #[.val (.long q1), .second, .val (.int p1), .unset, .unset, .unset, .unset, .unset, .unset, .unset, .unset] [(.int (63 : Int32)), (.int p1)]))
  refine own_to (fun t k => XS.iand X0.here hx rfl (hb hby at_3) rfl k) ?_
  show own_Fin _ _ _ _ _ _ (s₁.setTop (mkF m 4 #[.val (.long q1), .second, .val (.int p1), .unset, .unset, .unset, .unset, .unset, .unset, .unset, .unset] [(.int (p1 &&& (63 : Int32)))]))
  refine own_to (fun t k => XS.istoreN X0.here hx rfl (hb hby at_4) rfl (l' := #[.val (.long q1), .second, .val (.int p1), .val (.int (p1 &&& (63 : Int32))), .unset, .unset, .unset, .unset, .unset, .unset, .unset]) rfl k) ?_
  show own_Fin _ _ _ _ _ _ (s₁.setTop (mkF m 5 #[.val (.long q1), .second, .val (.int p1), .val (.int (p1 &&& (63 : Int32))), .unset, .unset, .unset, .unset, .unset, .unset, .unset] []))
  refine own_to (fun t k => XS.lloadN X0.here hx rfl (hb hby at_5) rfl k) ?_
  show own_Fin _ _ _ _ _ _ (s₁.setTop (mkF m 6 #[.val (.long q1), .second, .val (.int p1), .val (.int (p1 &&& (63 : Int32))), .unset, .unset, .unset, .unset, .unset, .unset, .unset] [(.long q1)]))
  refine own_to (fun t k => XS.bipush X0.here hx rfl (hb hby at_6) k) ?_
  show own_Fin _ _ _ _ _ _ (s₁.setTop (mkF m 8 #[.val (.long q1), .second, .val (.int p1), .val (.int (p1 &&& (63 : Int32))), .unset, .unset, .unset, .unset, .unset, .unset, .unset] [(.int (63 : Int32)), (.long q1)]))
  refine own_to (fun t k => XS.iloadN X0.here hx rfl (hb hby at_8) rfl k) ?_
  show own_Fin _ _ _ _ _ _ (s₁.setTop (mkF m 9 #[.val (.long q1), .second, .val (.int p1), .val (.int (p1 &&& (63 : Int32))), .unset, .unset, .unset, .unset, .unset, .unset, .unset] [(.int (p1 &&& (63 : Int32))), (.int (63 : Int32)), (.long q1)]))
  refine own_to (fun t k => XS.isub X0.here hx rfl (hb hby at_9) rfl k) ?_
  show own_Fin _ _ _ _ _ _ (s₁.setTop (mkF m 10 #[.val (.long q1), .second, .val (.int p1), .val (.int (p1 &&& (63 : Int32))), .unset, .unset, .unset, .unset, .unset, .unset, .unset] [(.int ((63 : Int32) - (p1 &&& (63 : Int32)))), (.long q1)]))
  refine own_to (fun t k => XS.lshl X0.here hx rfl (hb hby at_10) rfl k) ?_
  show own_Fin _ _ _ _ _ _ (s₁.setTop (mkF m 11 #[.val (.long q1), .second, .val (.int p1), .val (.int (p1 &&& (63 : Int32))), .unset, .unset, .unset, .unset, .unset, .unset, .unset] [(.long (q1 <<< (((63 : Int32) - (p1 &&& (63 : Int32))) &&& 0x3f).toInt64))]))
  refine own_to (fun t k => XS.lconst X0.here hx rfl (hb hby at_11) k) ?_
  show own_Fin _ _ _ _ _ _ (s₁.setTop (mkF m 12 #[.val (.long q1), .second, .val (.int p1), .val (.int (p1 &&& (63 : Int32))), .unset, .unset, .unset, .unset, .unset, .unset, .unset] [(.long (0 : Int64)), (.long (q1 <<< (((63 : Int32) - (p1 &&& (63 : Int32))) &&& 0x3f).toInt64))]))
  refine own_to (fun t k => XS.lcmp X0.here hx rfl (hb hby at_12) rfl k) ?_
  show own_Fin _ _ _ _ _ _ (s₁.setTop (mkF m 13 #[.val (.long q1), .second, .val (.int p1), .val (.int (p1 &&& (63 : Int32))), .unset, .unset, .unset, .unset, .unset, .unset, .unset] [(.int (lcmpW (q1 <<< (((63 : Int32) - (p1 &&& (63 : Int32))) &&& 0x3f).toInt64) (0 : Int64)))]))
  by_cases hc13_4 : (q1 <<< (((63 : Int32) - (p1 &&& (63 : Int32))) &&& 0x3f).toInt64) < (0 : Int64)
  ·
    show own_Fin _ _ _ _ _ _ (s₁.setTop (mkF m 13 #[.val (.long q1), .second, .val (.int p1), .val (.int (p1 &&& (63 : Int32))), .unset, .unset, .unset, .unset, .unset, .unset, .unset] [(.int (lcmpW (q1 <<< (((63 : Int32) - (p1 &&& (63 : Int32))) &&& 0x3f).toInt64) (0 : Int64)))]))
    refine own_to (fun t k => XS.ifNo X0.here hx rfl (hb hby at_13) rfl ((if0 _ _).trans (tlt ((lw_lt _ _).mpr hc13_4)).2.1) k) ?_
    show own_Fin _ _ _ _ _ _ (s₁.setTop (mkF m 16 #[.val (.long q1), .second, .val (.int p1), .val (.int (p1 &&& (63 : Int32))), .unset, .unset, .unset, .unset, .unset, .unset, .unset] []))
    refine own_to (fun t k => XS.iconst X0.here hx rfl (hb hby at_16) k) ?_
    show own_Fin _ _ _ _ _ _ (s₁.setTop (mkF m 17 #[.val (.long q1), .second, .val (.int p1), .val (.int (p1 &&& (63 : Int32))), .unset, .unset, .unset, .unset, .unset, .unset, .unset] [(.int (1 : Int32))]))
    refine own_to (fun t k => XS.goto X0.here hx rfl (pc0 := 17) (pc' := 21) rfl (hb hby at_17) (by decide) (by decide) k) ?_
    show own_Fin _ _ _ _ _ _ (s₁.setTop (mkF m 21 #[.val (.long q1), .second, .val (.int p1), .val (.int (p1 &&& (63 : Int32))), .unset, .unset, .unset, .unset, .unset, .unset, .unset] [(.int (1 : Int32))]))
    refine own_to (fun t k => XS.istore X0.here hx rfl (hb hby at_21) rfl (l' := #[.val (.long q1), .second, .val (.int p1), .val (.int (p1 &&& (63 : Int32))), .val (.int (1 : Int32)), .unset, .unset, .unset, .unset, .unset, .unset]) rfl k) ?_
    show own_Fin _ _ _ _ _ _ (s₁.setTop (mkF m 23 #[.val (.long q1), .second, .val (.int p1), .val (.int (p1 &&& (63 : Int32))), .val (.int (1 : Int32)), .unset, .unset, .unset, .unset, .unset, .unset] []))
    refine own_to (fun t k => XS.iload X0.here hx rfl (hb hby at_23) rfl k) ?_
    show own_Fin _ _ _ _ _ _ (s₁.setTop (mkF m 25 #[.val (.long q1), .second, .val (.int p1), .val (.int (p1 &&& (63 : Int32))), .val (.int (1 : Int32)), .unset, .unset, .unset, .unset, .unset, .unset] [(.int (1 : Int32))]))
    refine own_to (fun t k => XS.ifNo X0.here hx rfl (hb hby at_25) rfl ((if0 _ _).trans (feq (by decide)).1) k) ?_
    show own_Fin _ _ _ _ _ _ (s₁.setTop (mkF m 28 #[.val (.long q1), .second, .val (.int p1), .val (.int (p1 &&& (63 : Int32))), .val (.int (1 : Int32)), .unset, .unset, .unset, .unset, .unset, .unset] []))
    obtain ⟨T5, X5, e5, st5⟩ := getS2 X0 hx hZ hown (host := "") (Or.inl (hw _ (List.mem_of_getElem? (i := 11) rfl))) Via.refl e0 SA (g := (mkF m 28 #[.val (.long q1), .second, .val (.int p1), .val (.int (p1 &&& (63 : Int32))), .val (.int (1 : Int32)), .unset, .unset, .unset, .unset, .unset, .unset] [])) rfl (hb hby at_28)
    refine own_to (fun t k => st5 t k) ?_
    show own_Fin _ _ _ _ _ _ (T5.setTop (mkF m 31 #[.val (.long q1), .second, .val (.int p1), .val (.int (p1 &&& (63 : Int32))), .val (.int (1 : Int32)), .unset, .unset, .unset, .unset, .unset, .unset] [(.ref wA)]))
    refine own_to (fun t k => XS.goto X5.here hx rfl (pc0 := 31) (pc' := 37) rfl (hb hby at_31) (by decide) (by decide) k) ?_
    show own_Fin _ _ _ _ _ _ (T5.setTop (mkF m 37 #[.val (.long q1), .second, .val (.int p1), .val (.int (p1 &&& (63 : Int32))), .val (.int (1 : Int32)), .unset, .unset, .unset, .unset, .unset, .unset] [(.ref wA)]))
    refine own_to (fun t k => XS.astore X5.here hx rfl (hb hby at_37) rfl rfl (l' := #[.val (.long q1), .second, .val (.int p1), .val (.int (p1 &&& (63 : Int32))), .val (.int (1 : Int32)), .val (.ref wA), .unset, .unset, .unset, .unset, .unset]) rfl k) ?_
    show own_Fin _ _ _ _ _ _ (T5.setTop (mkF m 39 #[.val (.long q1), .second, .val (.int p1), .val (.int (p1 &&& (63 : Int32))), .val (.int (1 : Int32)), .val (.ref wA), .unset, .unset, .unset, .unset, .unset] []))
    refine own_to (fun t k => XS.lconst X5.here hx rfl (hb hby at_39) k) ?_
    show own_Fin _ _ _ _ _ _ (T5.setTop (mkF m 40 #[.val (.long q1), .second, .val (.int p1), .val (.int (p1 &&& (63 : Int32))), .val (.int (1 : Int32)), .val (.ref wA), .unset, .unset, .unset, .unset, .unset] [(.long (1 : Int64))]))
    refine own_to (fun t k => XS.iloadN X5.here hx rfl (hb hby at_40) rfl k) ?_
    show own_Fin _ _ _ _ _ _ (T5.setTop (mkF m 41 #[.val (.long q1), .second, .val (.int p1), .val (.int (p1 &&& (63 : Int32))), .val (.int (1 : Int32)), .val (.ref wA), .unset, .unset, .unset, .unset, .unset] [(.int (p1 &&& (63 : Int32))), (.long (1 : Int64))]))
    refine own_to (fun t k => XS.lshl X5.here hx rfl (hb hby at_41) rfl k) ?_
    show own_Fin _ _ _ _ _ _ (T5.setTop (mkF m 42 #[.val (.long q1), .second, .val (.int p1), .val (.int (p1 &&& (63 : Int32))), .val (.int (1 : Int32)), .val (.ref wA), .unset, .unset, .unset, .unset, .unset] [(.long ((1 : Int64) <<< ((p1 &&& (63 : Int32)) &&& 0x3f).toInt64))]))
    refine own_to (fun t k => XS.lstore X5.here hx rfl (hb hby at_42) rfl (l' := #[.val (.long q1), .second, .val (.int p1), .val (.int (p1 &&& (63 : Int32))), .val (.int (1 : Int32)), .val (.ref wA), .val (.long ((1 : Int64) <<< ((p1 &&& (63 : Int32)) &&& 0x3f).toInt64)), .second, .unset, .unset, .unset]) rfl k) ?_
    show own_Fin _ _ _ _ _ _ (T5.setTop (mkF m 44 #[.val (.long q1), .second, .val (.int p1), .val (.int (p1 &&& (63 : Int32))), .val (.int (1 : Int32)), .val (.ref wA), .val (.long ((1 : Int64) <<< ((p1 &&& (63 : Int32)) &&& 0x3f).toInt64)), .second, .unset, .unset, .unset] []))
    refine own_to (fun t k => XS.lloadN X5.here hx rfl (hb hby at_44) rfl k) ?_
    show own_Fin _ _ _ _ _ _ (T5.setTop (mkF m 45 #[.val (.long q1), .second, .val (.int p1), .val (.int (p1 &&& (63 : Int32))), .val (.int (1 : Int32)), .val (.ref wA), .val (.long ((1 : Int64) <<< ((p1 &&& (63 : Int32)) &&& 0x3f).toInt64)), .second, .unset, .unset, .unset] [(.long q1)]))
    refine own_to (fun t k => XS.iloadN X5.here hx rfl (hb hby at_45) rfl k) ?_
    show own_Fin _ _ _ _ _ _ (T5.setTop (mkF m 46 #[.val (.long q1), .second, .val (.int p1), .val (.int (p1 &&& (63 : Int32))), .val (.int (1 : Int32)), .val (.ref wA), .val (.long ((1 : Int64) <<< ((p1 &&& (63 : Int32)) &&& 0x3f).toInt64)), .second, .unset, .unset, .unset] [(.int (p1 &&& (63 : Int32))), (.long q1)]))
    obtain ⟨_, _, ⟨T6, L6, k6, n6⟩, -, X6, ⟨Lc6, hQ6, l6, y6, z6⟩, st6⟩ := Jvm.LawKit.callS X5 hx (y := (⟨"com/example/inner_gate/innergate/Stanza", "answerBelow64", "(JI)Lcom/example/inner_gate/innergate/Answer;"⟩ : MethodName)) hown (mvT hZ (hw _ (List.mem_of_getElem? (i := 3) rfl))) (mvT hZ (hw _ (List.mem_of_getElem? (i := 4) rfl))) (mvT hZ (hw _ (List.mem_of_getElem? (i := 5) rfl))) (mvT hZ (hw _ (List.mem_of_getElem? (i := 6) rfl))) (by decide) (own_back (W := 0) (own_rm1 l Z a0 hw [] wA wD q1 (p1 &&& (63 : Int32)) h0 n0 Z0 SA SD) hZ (hw _ (List.mem_of_getElem? (i := 6) rfl)) (hw _ (List.mem_of_getElem? (i := 5) rfl)) (by decide) (by decide)) (g := (mkF m 46 #[.val (.long q1), .second, .val (.int p1), .val (.int (p1 &&& (63 : Int32))), .val (.int (1 : Int32)), .val (.ref wA), .val (.long ((1 : Int64) <<< ((p1 &&& (63 : Int32)) &&& 0x3f).toInt64)), .second, .unset, .unset, .unset] [(.int (p1 &&& (63 : Int32))), (.long q1)])) rfl (by rw [hml]; rfl) (argsL := [(.long q1), (.int (p1 &&& (63 : Int32)))]) (rest := []) (lenOf own_pd0 rfl) rfl (by show 2 * 0 + _ ≤ _; exact Nat.le_of_eq rfl) (hb hby at_46) (fun _ _ => ⟨rfl, e5, (by decide : 0 + 0 ≤ _), (by decide : 0 + 0 ≤ _)⟩)
    dsimp only [Pt.U, Pt.locs, Pt.cells, Pt.slots] at X6 l6 y6 z6 st6 hQ6
    subst l6 y6 z6
    obtain ⟨rfl, N6q, eh6⟩ := hQ6
    have N6 := Fr.app N0 N6q
    refine own_to (fun t k => st6 t k) ?_
    show own_Fin _ _ _ _ _ _ (T6.setTop (mkF m 49 #[.val (.long q1), .second, .val (.int p1), .val (.int (p1 &&& (63 : Int32))), .val (.int (1 : Int32)), .val (.ref wA), .val (.long ((1 : Int64) <<< ((p1 &&& (63 : Int32)) &&& 0x3f).toInt64)), .second, .unset, .unset, .unset] [(.ref (own_ans wA wD q1 (p1 &&& (63 : Int32))))]))
    refine own_to (fun t k => XS.astore X6.here hx rfl (hb hby at_49) rfl rfl (l' := #[.val (.long q1), .second, .val (.int p1), .val (.int (p1 &&& (63 : Int32))), .val (.int (1 : Int32)), .val (.ref wA), .val (.long ((1 : Int64) <<< ((p1 &&& (63 : Int32)) &&& 0x3f).toInt64)), .second, .val (.ref (own_ans wA wD q1 (p1 &&& (63 : Int32)))), .unset, .unset]) rfl k) ?_
    show own_Fin _ _ _ _ _ _ (T6.setTop (mkF m 51 #[.val (.long q1), .second, .val (.int p1), .val (.int (p1 &&& (63 : Int32))), .val (.int (1 : Int32)), .val (.ref wA), .val (.long ((1 : Int64) <<< ((p1 &&& (63 : Int32)) &&& 0x3f).toInt64)), .second, .val (.ref (own_ans wA wD q1 (p1 &&& (63 : Int32)))), .unset, .unset] []))
    refine own_to (fun t k => XS.lloadN X6.here hx rfl (hb hby at_51) rfl k) ?_
    show own_Fin _ _ _ _ _ _ (T6.setTop (mkF m 52 #[.val (.long q1), .second, .val (.int p1), .val (.int (p1 &&& (63 : Int32))), .val (.int (1 : Int32)), .val (.ref wA), .val (.long ((1 : Int64) <<< ((p1 &&& (63 : Int32)) &&& 0x3f).toInt64)), .second, .val (.ref (own_ans wA wD q1 (p1 &&& (63 : Int32)))), .unset, .unset] [(.long q1)]))
    refine own_to (fun t k => XS.lload X6.here hx rfl (hb hby at_52) rfl k) ?_
    show own_Fin _ _ _ _ _ _ (T6.setTop (mkF m 54 #[.val (.long q1), .second, .val (.int p1), .val (.int (p1 &&& (63 : Int32))), .val (.int (1 : Int32)), .val (.ref wA), .val (.long ((1 : Int64) <<< ((p1 &&& (63 : Int32)) &&& 0x3f).toInt64)), .second, .val (.ref (own_ans wA wD q1 (p1 &&& (63 : Int32)))), .unset, .unset] [(.long ((1 : Int64) <<< ((p1 &&& (63 : Int32)) &&& 0x3f).toInt64)), (.long q1)]))
    refine own_to (fun t k => XS.lor X6.here hx rfl (hb hby at_54) rfl k) ?_
    show own_Fin _ _ _ _ _ _ (T6.setTop (mkF m 55 #[.val (.long q1), .second, .val (.int p1), .val (.int (p1 &&& (63 : Int32))), .val (.int (1 : Int32)), .val (.ref wA), .val (.long ((1 : Int64) <<< ((p1 &&& (63 : Int32)) &&& 0x3f).toInt64)), .second, .val (.ref (own_ans wA wD q1 (p1 &&& (63 : Int32)))), .unset, .unset] [(.long (q1 ||| ((1 : Int64) <<< ((p1 &&& (63 : Int32)) &&& 0x3f).toInt64)))]))
    refine own_to (fun t k => XS.iloadN X6.here hx rfl (hb hby at_55) rfl k) ?_
    show own_Fin _ _ _ _ _ _ (T6.setTop (mkF m 56 #[.val (.long q1), .second, .val (.int p1), .val (.int (p1 &&& (63 : Int32))), .val (.int (1 : Int32)), .val (.ref wA), .val (.long ((1 : Int64) <<< ((p1 &&& (63 : Int32)) &&& 0x3f).toInt64)), .second, .val (.ref (own_ans wA wD q1 (p1 &&& (63 : Int32)))), .unset, .unset] [(.int (p1 &&& (63 : Int32))), (.long (q1 ||| ((1 : Int64) <<< ((p1 &&& (63 : Int32)) &&& 0x3f).toInt64)))]))
    obtain ⟨_, _, ⟨T7, L7, k7, n7⟩, -, X7, ⟨Lc7, hQ7, l7, y7, z7⟩, st7⟩ := Jvm.LawKit.callS X6 hx (y := (⟨"com/example/inner_gate/innergate/Stanza", "answerBelow64", "(JI)Lcom/example/inner_gate/innergate/Answer;"⟩ : MethodName)) hown (mvT hZ (hw _ (List.mem_of_getElem? (i := 3) rfl))) (mvT hZ (hw _ (List.mem_of_getElem? (i := 4) rfl))) (mvT hZ (hw _ (List.mem_of_getElem? (i := 5) rfl))) (mvT hZ (hw _ (List.mem_of_getElem? (i := 6) rfl))) (by decide) (own_back (W := 0) (own_rm1 l Z a0 hw [] wA wD (q1 ||| ((1 : Int64) <<< ((p1 &&& (63 : Int32)) &&& 0x3f).toInt64)) (p1 &&& (63 : Int32)) h0 n0 Z0 SA SD) hZ (hw _ (List.mem_of_getElem? (i := 6) rfl)) (hw _ (List.mem_of_getElem? (i := 5) rfl)) (by decide) (by decide)) (g := (mkF m 56 #[.val (.long q1), .second, .val (.int p1), .val (.int (p1 &&& (63 : Int32))), .val (.int (1 : Int32)), .val (.ref wA), .val (.long ((1 : Int64) <<< ((p1 &&& (63 : Int32)) &&& 0x3f).toInt64)), .second, .val (.ref (own_ans wA wD q1 (p1 &&& (63 : Int32)))), .unset, .unset] [(.int (p1 &&& (63 : Int32))), (.long (q1 ||| ((1 : Int64) <<< ((p1 &&& (63 : Int32)) &&& 0x3f).toInt64)))])) rfl (by rw [hml]; rfl) (argsL := [(.long (q1 ||| ((1 : Int64) <<< ((p1 &&& (63 : Int32)) &&& 0x3f).toInt64))), (.int (p1 &&& (63 : Int32)))]) (rest := []) (lenOf own_pd0 rfl) rfl (by show 2 * 0 + _ ≤ _; exact Nat.le_of_eq rfl) (hb hby at_56) (fun _ _ => ⟨rfl, eh6, (by decide : 0 + 0 ≤ _), (by decide : 0 + 0 ≤ _)⟩)
    dsimp only [Pt.U, Pt.locs, Pt.cells, Pt.slots] at X7 l7 y7 z7 st7 hQ7
    subst l7 y7 z7
    obtain ⟨rfl, N7q, eh7⟩ := hQ7
    have N7 := Fr.app N6 N7q
    refine own_to (fun t k => st7 t k) ?_
    show own_Fin _ _ _ _ _ _ (T7.setTop (mkF m 59 #[.val (.long q1), .second, .val (.int p1), .val (.int (p1 &&& (63 : Int32))), .val (.int (1 : Int32)), .val (.ref wA), .val (.long ((1 : Int64) <<< ((p1 &&& (63 : Int32)) &&& 0x3f).toInt64)), .second, .val (.ref (own_ans wA wD q1 (p1 &&& (63 : Int32)))), .unset, .unset] [(.ref (own_ans wA wD (q1 ||| ((1 : Int64) <<< ((p1 &&& (63 : Int32)) &&& 0x3f).toInt64)) (p1 &&& (63 : Int32))))]))
    refine own_to (fun t k => XS.astore X7.here hx rfl (hb hby at_59) rfl rfl (l' := #[.val (.long q1), .second, .val (.int p1), .val (.int (p1 &&& (63 : Int32))), .val (.int (1 : Int32)), .val (.ref wA), .val (.long ((1 : Int64) <<< ((p1 &&& (63 : Int32)) &&& 0x3f).toInt64)), .second, .val (.ref (own_ans wA wD q1 (p1 &&& (63 : Int32)))), .val (.ref (own_ans wA wD (q1 ||| ((1 : Int64) <<< ((p1 &&& (63 : Int32)) &&& 0x3f).toInt64)) (p1 &&& (63 : Int32)))), .unset]) rfl k) ?_
    show own_Fin _ _ _ _ _ _ (T7.setTop (mkF m 61 #[.val (.long q1), .second, .val (.int p1), .val (.int (p1 &&& (63 : Int32))), .val (.int (1 : Int32)), .val (.ref wA), .val (.long ((1 : Int64) <<< ((p1 &&& (63 : Int32)) &&& 0x3f).toInt64)), .second, .val (.ref (own_ans wA wD q1 (p1 &&& (63 : Int32)))), .val (.ref (own_ans wA wD (q1 ||| ((1 : Int64) <<< ((p1 &&& (63 : Int32)) &&& 0x3f).toInt64)) (p1 &&& (63 : Int32)))), .unset] []))
    refine own_to (fun t k => XS.lloadN X7.here hx rfl (hb hby at_61) rfl k) ?_
    show own_Fin _ _ _ _ _ _ (T7.setTop (mkF m 62 #[.val (.long q1), .second, .val (.int p1), .val (.int (p1 &&& (63 : Int32))), .val (.int (1 : Int32)), .val (.ref wA), .val (.long ((1 : Int64) <<< ((p1 &&& (63 : Int32)) &&& 0x3f).toInt64)), .second, .val (.ref (own_ans wA wD q1 (p1 &&& (63 : Int32)))), .val (.ref (own_ans wA wD (q1 ||| ((1 : Int64) <<< ((p1 &&& (63 : Int32)) &&& 0x3f).toInt64)) (p1 &&& (63 : Int32)))), .unset] [(.long q1)]))
    refine own_to (fun t k => XS.lload X7.here hx rfl (hb hby at_62) rfl k) ?_
    show own_Fin _ _ _ _ _ _ (T7.setTop (mkF m 64 #[.val (.long q1), .second, .val (.int p1), .val (.int (p1 &&& (63 : Int32))), .val (.int (1 : Int32)), .val (.ref wA), .val (.long ((1 : Int64) <<< ((p1 &&& (63 : Int32)) &&& 0x3f).toInt64)), .second, .val (.ref (own_ans wA wD q1 (p1 &&& (63 : Int32)))), .val (.ref (own_ans wA wD (q1 ||| ((1 : Int64) <<< ((p1 &&& (63 : Int32)) &&& 0x3f).toInt64)) (p1 &&& (63 : Int32)))), .unset] [(.long ((1 : Int64) <<< ((p1 &&& (63 : Int32)) &&& 0x3f).toInt64)), (.long q1)]))
    refine own_to (fun t k => X7.ldc2Long hx hown (mvT hZ (hw _ (List.mem_of_getElem? (i := 10) rfl))) (g := (mkF m 64 #[.val (.long q1), .second, .val (.int p1), .val (.int (p1 &&& (63 : Int32))), .val (.int (1 : Int32)), .val (.ref wA), .val (.long ((1 : Int64) <<< ((p1 &&& (63 : Int32)) &&& 0x3f).toInt64)), .second, .val (.ref (own_ans wA wD q1 (p1 &&& (63 : Int32)))), .val (.ref (own_ans wA wD (q1 ||| ((1 : Int64) <<< ((p1 &&& (63 : Int32)) &&& 0x3f).toInt64)) (p1 &&& (63 : Int32)))), .unset] [(.long ((1 : Int64) <<< ((p1 &&& (63 : Int32)) &&& 0x3f).toInt64)), (.long q1)])) rfl (hb hby at_64) _ k) ?_
    show own_Fin _ _ _ _ _ _ (T7.setTop (mkF m 67 #[.val (.long q1), .second, .val (.int p1), .val (.int (p1 &&& (63 : Int32))), .val (.int (1 : Int32)), .val (.ref wA), .val (.long ((1 : Int64) <<< ((p1 &&& (63 : Int32)) &&& 0x3f).toInt64)), .second, .val (.ref (own_ans wA wD q1 (p1 &&& (63 : Int32)))), .val (.ref (own_ans wA wD (q1 ||| ((1 : Int64) <<< ((p1 &&& (63 : Int32)) &&& 0x3f).toInt64)) (p1 &&& (63 : Int32)))), .unset] [(.long (-1 : Int64)), (.long ((1 : Int64) <<< ((p1 &&& (63 : Int32)) &&& 0x3f).toInt64)), (.long q1)]))
    refine own_to (fun t k => XS.lxor X7.here hx rfl (hb hby at_67) rfl k) ?_
    show own_Fin _ _ _ _ _ _ (T7.setTop (mkF m 68 #[.val (.long q1), .second, .val (.int p1), .val (.int (p1 &&& (63 : Int32))), .val (.int (1 : Int32)), .val (.ref wA), .val (.long ((1 : Int64) <<< ((p1 &&& (63 : Int32)) &&& 0x3f).toInt64)), .second, .val (.ref (own_ans wA wD q1 (p1 &&& (63 : Int32)))), .val (.ref (own_ans wA wD (q1 ||| ((1 : Int64) <<< ((p1 &&& (63 : Int32)) &&& 0x3f).toInt64)) (p1 &&& (63 : Int32)))), .unset] [(.long (((1 : Int64) <<< ((p1 &&& (63 : Int32)) &&& 0x3f).toInt64) ^^^ (-1 : Int64))), (.long q1)]))
    refine own_to (fun t k => XS.land X7.here hx rfl (hb hby at_68) rfl k) ?_
    show own_Fin _ _ _ _ _ _ (T7.setTop (mkF m 69 #[.val (.long q1), .second, .val (.int p1), .val (.int (p1 &&& (63 : Int32))), .val (.int (1 : Int32)), .val (.ref wA), .val (.long ((1 : Int64) <<< ((p1 &&& (63 : Int32)) &&& 0x3f).toInt64)), .second, .val (.ref (own_ans wA wD q1 (p1 &&& (63 : Int32)))), .val (.ref (own_ans wA wD (q1 ||| ((1 : Int64) <<< ((p1 &&& (63 : Int32)) &&& 0x3f).toInt64)) (p1 &&& (63 : Int32)))), .unset] [(.long (q1 &&& (((1 : Int64) <<< ((p1 &&& (63 : Int32)) &&& 0x3f).toInt64) ^^^ (-1 : Int64))))]))
    refine own_to (fun t k => XS.iloadN X7.here hx rfl (hb hby at_69) rfl k) ?_
    show own_Fin _ _ _ _ _ _ (T7.setTop (mkF m 70 #[.val (.long q1), .second, .val (.int p1), .val (.int (p1 &&& (63 : Int32))), .val (.int (1 : Int32)), .val (.ref wA), .val (.long ((1 : Int64) <<< ((p1 &&& (63 : Int32)) &&& 0x3f).toInt64)), .second, .val (.ref (own_ans wA wD q1 (p1 &&& (63 : Int32)))), .val (.ref (own_ans wA wD (q1 ||| ((1 : Int64) <<< ((p1 &&& (63 : Int32)) &&& 0x3f).toInt64)) (p1 &&& (63 : Int32)))), .unset] [(.int (p1 &&& (63 : Int32))), (.long (q1 &&& (((1 : Int64) <<< ((p1 &&& (63 : Int32)) &&& 0x3f).toInt64) ^^^ (-1 : Int64))))]))
    obtain ⟨_, _, ⟨T8, L8, k8, n8⟩, -, X8, ⟨Lc8, hQ8, l8, y8, z8⟩, st8⟩ := Jvm.LawKit.callS X7 hx (y := (⟨"com/example/inner_gate/innergate/Stanza", "answerBelow64", "(JI)Lcom/example/inner_gate/innergate/Answer;"⟩ : MethodName)) hown (mvT hZ (hw _ (List.mem_of_getElem? (i := 3) rfl))) (mvT hZ (hw _ (List.mem_of_getElem? (i := 4) rfl))) (mvT hZ (hw _ (List.mem_of_getElem? (i := 5) rfl))) (mvT hZ (hw _ (List.mem_of_getElem? (i := 6) rfl))) (by decide) (own_back (W := 0) (own_rm1 l Z a0 hw [] wA wD (q1 &&& (((1 : Int64) <<< ((p1 &&& (63 : Int32)) &&& 0x3f).toInt64) ^^^ (-1 : Int64))) (p1 &&& (63 : Int32)) h0 n0 Z0 SA SD) hZ (hw _ (List.mem_of_getElem? (i := 6) rfl)) (hw _ (List.mem_of_getElem? (i := 5) rfl)) (by decide) (by decide)) (g := (mkF m 70 #[.val (.long q1), .second, .val (.int p1), .val (.int (p1 &&& (63 : Int32))), .val (.int (1 : Int32)), .val (.ref wA), .val (.long ((1 : Int64) <<< ((p1 &&& (63 : Int32)) &&& 0x3f).toInt64)), .second, .val (.ref (own_ans wA wD q1 (p1 &&& (63 : Int32)))), .val (.ref (own_ans wA wD (q1 ||| ((1 : Int64) <<< ((p1 &&& (63 : Int32)) &&& 0x3f).toInt64)) (p1 &&& (63 : Int32)))), .unset] [(.int (p1 &&& (63 : Int32))), (.long (q1 &&& (((1 : Int64) <<< ((p1 &&& (63 : Int32)) &&& 0x3f).toInt64) ^^^ (-1 : Int64))))])) rfl (by rw [hml]; rfl) (argsL := [(.long (q1 &&& (((1 : Int64) <<< ((p1 &&& (63 : Int32)) &&& 0x3f).toInt64) ^^^ (-1 : Int64)))), (.int (p1 &&& (63 : Int32)))]) (rest := []) (lenOf own_pd0 rfl) rfl (by show 2 * 0 + _ ≤ _; exact Nat.le_of_eq rfl) (hb hby at_70) (fun _ _ => ⟨rfl, eh7, (by decide : 0 + 0 ≤ _), (by decide : 0 + 0 ≤ _)⟩)
    dsimp only [Pt.U, Pt.locs, Pt.cells, Pt.slots] at X8 l8 y8 z8 st8 hQ8
    subst l8 y8 z8
    obtain ⟨rfl, N8q, eh8⟩ := hQ8
    have N8 := Fr.app N7 N8q
    refine own_to (fun t k => st8 t k) ?_
    show own_Fin _ _ _ _ _ _ (T8.setTop (mkF m 73 #[.val (.long q1), .second, .val (.int p1), .val (.int (p1 &&& (63 : Int32))), .val (.int (1 : Int32)), .val (.ref wA), .val (.long ((1 : Int64) <<< ((p1 &&& (63 : Int32)) &&& 0x3f).toInt64)), .second, .val (.ref (own_ans wA wD q1 (p1 &&& (63 : Int32)))), .val (.ref (own_ans wA wD (q1 ||| ((1 : Int64) <<< ((p1 &&& (63 : Int32)) &&& 0x3f).toInt64)) (p1 &&& (63 : Int32)))), .unset] [(.ref (own_ans wA wD (q1 &&& (((1 : Int64) <<< ((p1 &&& (63 : Int32)) &&& 0x3f).toInt64) ^^^ (-1 : Int64))) (p1 &&& (63 : Int32))))]))
    refine own_to (fun t k => XS.astore X8.here hx rfl (hb hby at_73) rfl rfl (l' := #[.val (.long q1), .second, .val (.int p1), .val (.int (p1 &&& (63 : Int32))), .val (.int (1 : Int32)), .val (.ref wA), .val (.long ((1 : Int64) <<< ((p1 &&& (63 : Int32)) &&& 0x3f).toInt64)), .second, .val (.ref (own_ans wA wD q1 (p1 &&& (63 : Int32)))), .val (.ref (own_ans wA wD (q1 ||| ((1 : Int64) <<< ((p1 &&& (63 : Int32)) &&& 0x3f).toInt64)) (p1 &&& (63 : Int32)))), .val (.ref (own_ans wA wD (q1 &&& (((1 : Int64) <<< ((p1 &&& (63 : Int32)) &&& 0x3f).toInt64) ^^^ (-1 : Int64))) (p1 &&& (63 : Int32))))]) rfl k) ?_
    show own_Fin _ _ _ _ _ _ (T8.setTop (mkF m 75 #[.val (.long q1), .second, .val (.int p1), .val (.int (p1 &&& (63 : Int32))), .val (.int (1 : Int32)), .val (.ref wA), .val (.long ((1 : Int64) <<< ((p1 &&& (63 : Int32)) &&& 0x3f).toInt64)), .second, .val (.ref (own_ans wA wD q1 (p1 &&& (63 : Int32)))), .val (.ref (own_ans wA wD (q1 ||| ((1 : Int64) <<< ((p1 &&& (63 : Int32)) &&& 0x3f).toInt64)) (p1 &&& (63 : Int32)))), .val (.ref (own_ans wA wD (q1 &&& (((1 : Int64) <<< ((p1 &&& (63 : Int32)) &&& 0x3f).toInt64) ^^^ (-1 : Int64))) (p1 &&& (63 : Int32))))] []))
    refine own_to (fun t k => XS.aload X8.here hx rfl (hb hby at_75) rfl rfl k) ?_
    show own_Fin _ _ _ _ _ _ (T8.setTop (mkF m 77 #[.val (.long q1), .second, .val (.int p1), .val (.int (p1 &&& (63 : Int32))), .val (.int (1 : Int32)), .val (.ref wA), .val (.long ((1 : Int64) <<< ((p1 &&& (63 : Int32)) &&& 0x3f).toInt64)), .second, .val (.ref (own_ans wA wD q1 (p1 &&& (63 : Int32)))), .val (.ref (own_ans wA wD (q1 ||| ((1 : Int64) <<< ((p1 &&& (63 : Int32)) &&& 0x3f).toInt64)) (p1 &&& (63 : Int32)))), .val (.ref (own_ans wA wD (q1 &&& (((1 : Int64) <<< ((p1 &&& (63 : Int32)) &&& 0x3f).toInt64) ^^^ (-1 : Int64))) (p1 &&& (63 : Int32))))] [(.ref (own_ans wA wD q1 (p1 &&& (63 : Int32))))]))
    refine own_to (fun t k => XS.aload X8.here hx rfl (hb hby at_77) rfl rfl k) ?_
    show own_Fin _ _ _ _ _ _ (T8.setTop (mkF m 79 #[.val (.long q1), .second, .val (.int p1), .val (.int (p1 &&& (63 : Int32))), .val (.int (1 : Int32)), .val (.ref wA), .val (.long ((1 : Int64) <<< ((p1 &&& (63 : Int32)) &&& 0x3f).toInt64)), .second, .val (.ref (own_ans wA wD q1 (p1 &&& (63 : Int32)))), .val (.ref (own_ans wA wD (q1 ||| ((1 : Int64) <<< ((p1 &&& (63 : Int32)) &&& 0x3f).toInt64)) (p1 &&& (63 : Int32)))), .val (.ref (own_ans wA wD (q1 &&& (((1 : Int64) <<< ((p1 &&& (63 : Int32)) &&& 0x3f).toInt64) ^^^ (-1 : Int64))) (p1 &&& (63 : Int32))))] [(.ref wA), (.ref (own_ans wA wD q1 (p1 &&& (63 : Int32))))]))
    by_cases ha79_9 : (own_ans wA wD q1 (p1 &&& (63 : Int32))) = wA
    ·
      show own_Fin _ _ _ _ _ _ (T8.setTop (mkF m 79 #[.val (.long q1), .second, .val (.int p1), .val (.int (p1 &&& (63 : Int32))), .val (.int (1 : Int32)), .val (.ref wA), .val (.long ((1 : Int64) <<< ((p1 &&& (63 : Int32)) &&& 0x3f).toInt64)), .second, .val (.ref (own_ans wA wD q1 (p1 &&& (63 : Int32)))), .val (.ref (own_ans wA wD (q1 ||| ((1 : Int64) <<< ((p1 &&& (63 : Int32)) &&& 0x3f).toInt64)) (p1 &&& (63 : Int32)))), .val (.ref (own_ans wA wD (q1 &&& (((1 : Int64) <<< ((p1 &&& (63 : Int32)) &&& 0x3f).toInt64) ^^^ (-1 : Int64))) (p1 &&& (63 : Int32))))] [(.ref wA), (.ref (own_ans wA wD q1 (p1 &&& (63 : Int32))))]))
      refine own_to (fun t k => Jvm.RoadKit.acmp (g := (mkF m 79 #[.val (.long q1), .second, .val (.int p1), .val (.int (p1 &&& (63 : Int32))), .val (.int (1 : Int32)), .val (.ref wA), .val (.long ((1 : Int64) <<< ((p1 &&& (63 : Int32)) &&& 0x3f).toInt64)), .second, .val (.ref (own_ans wA wD q1 (p1 &&& (63 : Int32)))), .val (.ref (own_ans wA wD (q1 ||| ((1 : Int64) <<< ((p1 &&& (63 : Int32)) &&& 0x3f).toInt64)) (p1 &&& (63 : Int32)))), .val (.ref (own_ans wA wD (q1 &&& (((1 : Int64) <<< ((p1 &&& (63 : Int32)) &&& 0x3f).toInt64) ^^^ (-1 : Int64))) (p1 &&& (63 : Int32))))] [(.ref wA), (.ref (own_ans wA wD q1 (p1 &&& (63 : Int32))))])) X8 hx rfl rfl rfl (pc0 := 79) (pc' := 82) (same := true) rfl (hb hby at_79) rfl (decide_eq_true (congrArg Value.ref ha79_9)) (by decide) (by decide) k) ?_
      show own_Fin _ _ _ _ _ _ (T8.setTop (mkF m 82 #[.val (.long q1), .second, .val (.int p1), .val (.int (p1 &&& (63 : Int32))), .val (.int (1 : Int32)), .val (.ref wA), .val (.long ((1 : Int64) <<< ((p1 &&& (63 : Int32)) &&& 0x3f).toInt64)), .second, .val (.ref (own_ans wA wD q1 (p1 &&& (63 : Int32)))), .val (.ref (own_ans wA wD (q1 ||| ((1 : Int64) <<< ((p1 &&& (63 : Int32)) &&& 0x3f).toInt64)) (p1 &&& (63 : Int32)))), .val (.ref (own_ans wA wD (q1 &&& (((1 : Int64) <<< ((p1 &&& (63 : Int32)) &&& 0x3f).toInt64) ^^^ (-1 : Int64))) (p1 &&& (63 : Int32))))] []))
      refine own_to (fun t k => XS.aload X8.here hx rfl (hb hby at_82) rfl rfl k) ?_
      show own_Fin _ _ _ _ _ _ (T8.setTop (mkF m 84 #[.val (.long q1), .second, .val (.int p1), .val (.int (p1 &&& (63 : Int32))), .val (.int (1 : Int32)), .val (.ref wA), .val (.long ((1 : Int64) <<< ((p1 &&& (63 : Int32)) &&& 0x3f).toInt64)), .second, .val (.ref (own_ans wA wD q1 (p1 &&& (63 : Int32)))), .val (.ref (own_ans wA wD (q1 ||| ((1 : Int64) <<< ((p1 &&& (63 : Int32)) &&& 0x3f).toInt64)) (p1 &&& (63 : Int32)))), .val (.ref (own_ans wA wD (q1 &&& (((1 : Int64) <<< ((p1 &&& (63 : Int32)) &&& 0x3f).toInt64) ^^^ (-1 : Int64))) (p1 &&& (63 : Int32))))] [(.ref (own_ans wA wD (q1 ||| ((1 : Int64) <<< ((p1 &&& (63 : Int32)) &&& 0x3f).toInt64)) (p1 &&& (63 : Int32))))]))
      obtain ⟨T10, X10, e10, st10⟩ := getS2 X8 hx hZ hown (host := "") (Or.inl (hw _ (List.mem_of_getElem? (i := 11) rfl))) Via.refl eh8 SA (g := (mkF m 84 #[.val (.long q1), .second, .val (.int p1), .val (.int (p1 &&& (63 : Int32))), .val (.int (1 : Int32)), .val (.ref wA), .val (.long ((1 : Int64) <<< ((p1 &&& (63 : Int32)) &&& 0x3f).toInt64)), .second, .val (.ref (own_ans wA wD q1 (p1 &&& (63 : Int32)))), .val (.ref (own_ans wA wD (q1 ||| ((1 : Int64) <<< ((p1 &&& (63 : Int32)) &&& 0x3f).toInt64)) (p1 &&& (63 : Int32)))), .val (.ref (own_ans wA wD (q1 &&& (((1 : Int64) <<< ((p1 &&& (63 : Int32)) &&& 0x3f).toInt64) ^^^ (-1 : Int64))) (p1 &&& (63 : Int32))))] [(.ref (own_ans wA wD (q1 ||| ((1 : Int64) <<< ((p1 &&& (63 : Int32)) &&& 0x3f).toInt64)) (p1 &&& (63 : Int32))))])) rfl (hb hby at_84)
      refine own_to (fun t k => st10 t k) ?_
      show own_Fin _ _ _ _ _ _ (T10.setTop (mkF m 87 #[.val (.long q1), .second, .val (.int p1), .val (.int (p1 &&& (63 : Int32))), .val (.int (1 : Int32)), .val (.ref wA), .val (.long ((1 : Int64) <<< ((p1 &&& (63 : Int32)) &&& 0x3f).toInt64)), .second, .val (.ref (own_ans wA wD q1 (p1 &&& (63 : Int32)))), .val (.ref (own_ans wA wD (q1 ||| ((1 : Int64) <<< ((p1 &&& (63 : Int32)) &&& 0x3f).toInt64)) (p1 &&& (63 : Int32)))), .val (.ref (own_ans wA wD (q1 &&& (((1 : Int64) <<< ((p1 &&& (63 : Int32)) &&& 0x3f).toInt64) ^^^ (-1 : Int64))) (p1 &&& (63 : Int32))))] [(.ref wA), (.ref (own_ans wA wD (q1 ||| ((1 : Int64) <<< ((p1 &&& (63 : Int32)) &&& 0x3f).toInt64)) (p1 &&& (63 : Int32))))]))
      by_cases ha87_11 : (own_ans wA wD (q1 ||| ((1 : Int64) <<< ((p1 &&& (63 : Int32)) &&& 0x3f).toInt64)) (p1 &&& (63 : Int32))) = wA
      ·
        show own_Fin _ _ _ _ _ _ (T10.setTop (mkF m 87 #[.val (.long q1), .second, .val (.int p1), .val (.int (p1 &&& (63 : Int32))), .val (.int (1 : Int32)), .val (.ref wA), .val (.long ((1 : Int64) <<< ((p1 &&& (63 : Int32)) &&& 0x3f).toInt64)), .second, .val (.ref (own_ans wA wD q1 (p1 &&& (63 : Int32)))), .val (.ref (own_ans wA wD (q1 ||| ((1 : Int64) <<< ((p1 &&& (63 : Int32)) &&& 0x3f).toInt64)) (p1 &&& (63 : Int32)))), .val (.ref (own_ans wA wD (q1 &&& (((1 : Int64) <<< ((p1 &&& (63 : Int32)) &&& 0x3f).toInt64) ^^^ (-1 : Int64))) (p1 &&& (63 : Int32))))] [(.ref wA), (.ref (own_ans wA wD (q1 ||| ((1 : Int64) <<< ((p1 &&& (63 : Int32)) &&& 0x3f).toInt64)) (p1 &&& (63 : Int32))))]))
        refine own_to (fun t k => Jvm.RoadKit.acmp (g := (mkF m 87 #[.val (.long q1), .second, .val (.int p1), .val (.int (p1 &&& (63 : Int32))), .val (.int (1 : Int32)), .val (.ref wA), .val (.long ((1 : Int64) <<< ((p1 &&& (63 : Int32)) &&& 0x3f).toInt64)), .second, .val (.ref (own_ans wA wD q1 (p1 &&& (63 : Int32)))), .val (.ref (own_ans wA wD (q1 ||| ((1 : Int64) <<< ((p1 &&& (63 : Int32)) &&& 0x3f).toInt64)) (p1 &&& (63 : Int32)))), .val (.ref (own_ans wA wD (q1 &&& (((1 : Int64) <<< ((p1 &&& (63 : Int32)) &&& 0x3f).toInt64) ^^^ (-1 : Int64))) (p1 &&& (63 : Int32))))] [(.ref wA), (.ref (own_ans wA wD (q1 ||| ((1 : Int64) <<< ((p1 &&& (63 : Int32)) &&& 0x3f).toInt64)) (p1 &&& (63 : Int32))))])) X10 hx rfl rfl rfl (pc0 := 87) (pc' := 90) (same := true) rfl (hb hby at_87) rfl (decide_eq_true (congrArg Value.ref ha87_11)) (by decide) (by decide) k) ?_
        show own_Fin _ _ _ _ _ _ (T10.setTop (mkF m 90 #[.val (.long q1), .second, .val (.int p1), .val (.int (p1 &&& (63 : Int32))), .val (.int (1 : Int32)), .val (.ref wA), .val (.long ((1 : Int64) <<< ((p1 &&& (63 : Int32)) &&& 0x3f).toInt64)), .second, .val (.ref (own_ans wA wD q1 (p1 &&& (63 : Int32)))), .val (.ref (own_ans wA wD (q1 ||| ((1 : Int64) <<< ((p1 &&& (63 : Int32)) &&& 0x3f).toInt64)) (p1 &&& (63 : Int32)))), .val (.ref (own_ans wA wD (q1 &&& (((1 : Int64) <<< ((p1 &&& (63 : Int32)) &&& 0x3f).toInt64) ^^^ (-1 : Int64))) (p1 &&& (63 : Int32))))] []))
        refine own_to (fun t k => XS.aload X10.here hx rfl (hb hby at_90) rfl rfl k) ?_
        show own_Fin _ _ _ _ _ _ (T10.setTop (mkF m 92 #[.val (.long q1), .second, .val (.int p1), .val (.int (p1 &&& (63 : Int32))), .val (.int (1 : Int32)), .val (.ref wA), .val (.long ((1 : Int64) <<< ((p1 &&& (63 : Int32)) &&& 0x3f).toInt64)), .second, .val (.ref (own_ans wA wD q1 (p1 &&& (63 : Int32)))), .val (.ref (own_ans wA wD (q1 ||| ((1 : Int64) <<< ((p1 &&& (63 : Int32)) &&& 0x3f).toInt64)) (p1 &&& (63 : Int32)))), .val (.ref (own_ans wA wD (q1 &&& (((1 : Int64) <<< ((p1 &&& (63 : Int32)) &&& 0x3f).toInt64) ^^^ (-1 : Int64))) (p1 &&& (63 : Int32))))] [(.ref (own_ans wA wD (q1 &&& (((1 : Int64) <<< ((p1 &&& (63 : Int32)) &&& 0x3f).toInt64) ^^^ (-1 : Int64))) (p1 &&& (63 : Int32))))]))
        obtain ⟨T12, X12, e12, st12⟩ := getS2 X10 hx hZ hown (host := "") (Or.inl (hw _ (List.mem_of_getElem? (i := 0) rfl))) Via.refl e10 SD (g := (mkF m 92 #[.val (.long q1), .second, .val (.int p1), .val (.int (p1 &&& (63 : Int32))), .val (.int (1 : Int32)), .val (.ref wA), .val (.long ((1 : Int64) <<< ((p1 &&& (63 : Int32)) &&& 0x3f).toInt64)), .second, .val (.ref (own_ans wA wD q1 (p1 &&& (63 : Int32)))), .val (.ref (own_ans wA wD (q1 ||| ((1 : Int64) <<< ((p1 &&& (63 : Int32)) &&& 0x3f).toInt64)) (p1 &&& (63 : Int32)))), .val (.ref (own_ans wA wD (q1 &&& (((1 : Int64) <<< ((p1 &&& (63 : Int32)) &&& 0x3f).toInt64) ^^^ (-1 : Int64))) (p1 &&& (63 : Int32))))] [(.ref (own_ans wA wD (q1 &&& (((1 : Int64) <<< ((p1 &&& (63 : Int32)) &&& 0x3f).toInt64) ^^^ (-1 : Int64))) (p1 &&& (63 : Int32))))])) rfl (hb hby at_92)
        refine own_to (fun t k => st12 t k) ?_
        show own_Fin _ _ _ _ _ _ (T12.setTop (mkF m 95 #[.val (.long q1), .second, .val (.int p1), .val (.int (p1 &&& (63 : Int32))), .val (.int (1 : Int32)), .val (.ref wA), .val (.long ((1 : Int64) <<< ((p1 &&& (63 : Int32)) &&& 0x3f).toInt64)), .second, .val (.ref (own_ans wA wD q1 (p1 &&& (63 : Int32)))), .val (.ref (own_ans wA wD (q1 ||| ((1 : Int64) <<< ((p1 &&& (63 : Int32)) &&& 0x3f).toInt64)) (p1 &&& (63 : Int32)))), .val (.ref (own_ans wA wD (q1 &&& (((1 : Int64) <<< ((p1 &&& (63 : Int32)) &&& 0x3f).toInt64) ^^^ (-1 : Int64))) (p1 &&& (63 : Int32))))] [(.ref wD), (.ref (own_ans wA wD (q1 &&& (((1 : Int64) <<< ((p1 &&& (63 : Int32)) &&& 0x3f).toInt64) ^^^ (-1 : Int64))) (p1 &&& (63 : Int32))))]))
        by_cases ha95_13 : (own_ans wA wD (q1 &&& (((1 : Int64) <<< ((p1 &&& (63 : Int32)) &&& 0x3f).toInt64) ^^^ (-1 : Int64))) (p1 &&& (63 : Int32))) = wD
        ·
          show own_Fin _ _ _ _ _ _ (T12.setTop (mkF m 95 #[.val (.long q1), .second, .val (.int p1), .val (.int (p1 &&& (63 : Int32))), .val (.int (1 : Int32)), .val (.ref wA), .val (.long ((1 : Int64) <<< ((p1 &&& (63 : Int32)) &&& 0x3f).toInt64)), .second, .val (.ref (own_ans wA wD q1 (p1 &&& (63 : Int32)))), .val (.ref (own_ans wA wD (q1 ||| ((1 : Int64) <<< ((p1 &&& (63 : Int32)) &&& 0x3f).toInt64)) (p1 &&& (63 : Int32)))), .val (.ref (own_ans wA wD (q1 &&& (((1 : Int64) <<< ((p1 &&& (63 : Int32)) &&& 0x3f).toInt64) ^^^ (-1 : Int64))) (p1 &&& (63 : Int32))))] [(.ref wD), (.ref (own_ans wA wD (q1 &&& (((1 : Int64) <<< ((p1 &&& (63 : Int32)) &&& 0x3f).toInt64) ^^^ (-1 : Int64))) (p1 &&& (63 : Int32))))]))
          refine own_to (fun t k => Jvm.RoadKit.acmp (g := (mkF m 95 #[.val (.long q1), .second, .val (.int p1), .val (.int (p1 &&& (63 : Int32))), .val (.int (1 : Int32)), .val (.ref wA), .val (.long ((1 : Int64) <<< ((p1 &&& (63 : Int32)) &&& 0x3f).toInt64)), .second, .val (.ref (own_ans wA wD q1 (p1 &&& (63 : Int32)))), .val (.ref (own_ans wA wD (q1 ||| ((1 : Int64) <<< ((p1 &&& (63 : Int32)) &&& 0x3f).toInt64)) (p1 &&& (63 : Int32)))), .val (.ref (own_ans wA wD (q1 &&& (((1 : Int64) <<< ((p1 &&& (63 : Int32)) &&& 0x3f).toInt64) ^^^ (-1 : Int64))) (p1 &&& (63 : Int32))))] [(.ref wD), (.ref (own_ans wA wD (q1 &&& (((1 : Int64) <<< ((p1 &&& (63 : Int32)) &&& 0x3f).toInt64) ^^^ (-1 : Int64))) (p1 &&& (63 : Int32))))])) X12 hx rfl rfl rfl (pc0 := 95) (pc' := 98) (same := true) rfl (hb hby at_95) rfl (decide_eq_true (congrArg Value.ref ha95_13)) (by decide) (by decide) k) ?_
          show own_Fin _ _ _ _ _ _ (T12.setTop (mkF m 98 #[.val (.long q1), .second, .val (.int p1), .val (.int (p1 &&& (63 : Int32))), .val (.int (1 : Int32)), .val (.ref wA), .val (.long ((1 : Int64) <<< ((p1 &&& (63 : Int32)) &&& 0x3f).toInt64)), .second, .val (.ref (own_ans wA wD q1 (p1 &&& (63 : Int32)))), .val (.ref (own_ans wA wD (q1 ||| ((1 : Int64) <<< ((p1 &&& (63 : Int32)) &&& 0x3f).toInt64)) (p1 &&& (63 : Int32)))), .val (.ref (own_ans wA wD (q1 &&& (((1 : Int64) <<< ((p1 &&& (63 : Int32)) &&& 0x3f).toInt64) ^^^ (-1 : Int64))) (p1 &&& (63 : Int32))))] []))
          refine own_to (fun t k => XS.iconst X12.here hx rfl (hb hby at_98) k) ?_
          show own_Fin _ _ _ _ _ _ (T12.setTop (mkF m 99 #[.val (.long q1), .second, .val (.int p1), .val (.int (p1 &&& (63 : Int32))), .val (.int (1 : Int32)), .val (.ref wA), .val (.long ((1 : Int64) <<< ((p1 &&& (63 : Int32)) &&& 0x3f).toInt64)), .second, .val (.ref (own_ans wA wD q1 (p1 &&& (63 : Int32)))), .val (.ref (own_ans wA wD (q1 ||| ((1 : Int64) <<< ((p1 &&& (63 : Int32)) &&& 0x3f).toInt64)) (p1 &&& (63 : Int32)))), .val (.ref (own_ans wA wD (q1 &&& (((1 : Int64) <<< ((p1 &&& (63 : Int32)) &&& 0x3f).toInt64) ^^^ (-1 : Int64))) (p1 &&& (63 : Int32))))] [(.int (1 : Int32))]))
          refine own_to (fun t k => XS.goto X12.here hx rfl (pc0 := 99) (pc' := 103) rfl (hb hby at_99) (by decide) (by decide) k) ?_
          show own_Fin _ _ _ _ _ _ (T12.setTop (mkF m 103 #[.val (.long q1), .second, .val (.int p1), .val (.int (p1 &&& (63 : Int32))), .val (.int (1 : Int32)), .val (.ref wA), .val (.long ((1 : Int64) <<< ((p1 &&& (63 : Int32)) &&& 0x3f).toInt64)), .second, .val (.ref (own_ans wA wD q1 (p1 &&& (63 : Int32)))), .val (.ref (own_ans wA wD (q1 ||| ((1 : Int64) <<< ((p1 &&& (63 : Int32)) &&& 0x3f).toInt64)) (p1 &&& (63 : Int32)))), .val (.ref (own_ans wA wD (q1 &&& (((1 : Int64) <<< ((p1 &&& (63 : Int32)) &&& 0x3f).toInt64) ^^^ (-1 : Int64))) (p1 &&& (63 : Int32))))] [(.int (1 : Int32))]))
          refine own_retN X12 hx hlk (t := .boolean) hret (by simp) (hb hby at_103) (by decide) (by decide) ?_
          try rw [e12]
          exact ⟨congrArg (fun z => some (Value.int z)) (Eq.symm (show own_law wA wD q1 p1 = _ from ((if_pos hc13_4).trans ((if_pos ha79_9).trans ((if_pos ha87_11).trans ((if_pos ha95_13).trans rfl)))))), N8⟩
        ·
          show own_Fin _ _ _ _ _ _ (T12.setTop (mkF m 95 #[.val (.long q1), .second, .val (.int p1), .val (.int (p1 &&& (63 : Int32))), .val (.int (1 : Int32)), .val (.ref wA), .val (.long ((1 : Int64) <<< ((p1 &&& (63 : Int32)) &&& 0x3f).toInt64)), .second, .val (.ref (own_ans wA wD q1 (p1 &&& (63 : Int32)))), .val (.ref (own_ans wA wD (q1 ||| ((1 : Int64) <<< ((p1 &&& (63 : Int32)) &&& 0x3f).toInt64)) (p1 &&& (63 : Int32)))), .val (.ref (own_ans wA wD (q1 &&& (((1 : Int64) <<< ((p1 &&& (63 : Int32)) &&& 0x3f).toInt64) ^^^ (-1 : Int64))) (p1 &&& (63 : Int32))))] [(.ref wD), (.ref (own_ans wA wD (q1 &&& (((1 : Int64) <<< ((p1 &&& (63 : Int32)) &&& 0x3f).toInt64) ^^^ (-1 : Int64))) (p1 &&& (63 : Int32))))]))
          refine own_to (fun t k => Jvm.RoadKit.acmp (g := (mkF m 95 #[.val (.long q1), .second, .val (.int p1), .val (.int (p1 &&& (63 : Int32))), .val (.int (1 : Int32)), .val (.ref wA), .val (.long ((1 : Int64) <<< ((p1 &&& (63 : Int32)) &&& 0x3f).toInt64)), .second, .val (.ref (own_ans wA wD q1 (p1 &&& (63 : Int32)))), .val (.ref (own_ans wA wD (q1 ||| ((1 : Int64) <<< ((p1 &&& (63 : Int32)) &&& 0x3f).toInt64)) (p1 &&& (63 : Int32)))), .val (.ref (own_ans wA wD (q1 &&& (((1 : Int64) <<< ((p1 &&& (63 : Int32)) &&& 0x3f).toInt64) ^^^ (-1 : Int64))) (p1 &&& (63 : Int32))))] [(.ref wD), (.ref (own_ans wA wD (q1 &&& (((1 : Int64) <<< ((p1 &&& (63 : Int32)) &&& 0x3f).toInt64) ^^^ (-1 : Int64))) (p1 &&& (63 : Int32))))])) X12 hx rfl rfl rfl (pc0 := 95) (pc' := 102) (same := false) rfl (hb hby at_95) rfl (decide_eq_false fun q => ha95_13 (Value.ref.inj q)) (by decide) (by decide) k) ?_
          show own_Fin _ _ _ _ _ _ (T12.setTop (mkF m 102 #[.val (.long q1), .second, .val (.int p1), .val (.int (p1 &&& (63 : Int32))), .val (.int (1 : Int32)), .val (.ref wA), .val (.long ((1 : Int64) <<< ((p1 &&& (63 : Int32)) &&& 0x3f).toInt64)), .second, .val (.ref (own_ans wA wD q1 (p1 &&& (63 : Int32)))), .val (.ref (own_ans wA wD (q1 ||| ((1 : Int64) <<< ((p1 &&& (63 : Int32)) &&& 0x3f).toInt64)) (p1 &&& (63 : Int32)))), .val (.ref (own_ans wA wD (q1 &&& (((1 : Int64) <<< ((p1 &&& (63 : Int32)) &&& 0x3f).toInt64) ^^^ (-1 : Int64))) (p1 &&& (63 : Int32))))] []))
          refine own_to (fun t k => XS.iconst X12.here hx rfl (hb hby at_102) k) ?_
          show own_Fin _ _ _ _ _ _ (T12.setTop (mkF m 103 #[.val (.long q1), .second, .val (.int p1), .val (.int (p1 &&& (63 : Int32))), .val (.int (1 : Int32)), .val (.ref wA), .val (.long ((1 : Int64) <<< ((p1 &&& (63 : Int32)) &&& 0x3f).toInt64)), .second, .val (.ref (own_ans wA wD q1 (p1 &&& (63 : Int32)))), .val (.ref (own_ans wA wD (q1 ||| ((1 : Int64) <<< ((p1 &&& (63 : Int32)) &&& 0x3f).toInt64)) (p1 &&& (63 : Int32)))), .val (.ref (own_ans wA wD (q1 &&& (((1 : Int64) <<< ((p1 &&& (63 : Int32)) &&& 0x3f).toInt64) ^^^ (-1 : Int64))) (p1 &&& (63 : Int32))))] [(.int (0 : Int32))]))
          refine own_retN X12 hx hlk (t := .boolean) hret (by simp) (hb hby at_103) (by decide) (by decide) ?_
          try rw [e12]
          exact ⟨congrArg (fun z => some (Value.int z)) (Eq.symm (show own_law wA wD q1 p1 = _ from ((if_pos hc13_4).trans ((if_pos ha79_9).trans ((if_pos ha87_11).trans ((if_neg ha95_13).trans rfl)))))), N8⟩
      ·
        show own_Fin _ _ _ _ _ _ (T10.setTop (mkF m 87 #[.val (.long q1), .second, .val (.int p1), .val (.int (p1 &&& (63 : Int32))), .val (.int (1 : Int32)), .val (.ref wA), .val (.long ((1 : Int64) <<< ((p1 &&& (63 : Int32)) &&& 0x3f).toInt64)), .second, .val (.ref (own_ans wA wD q1 (p1 &&& (63 : Int32)))), .val (.ref (own_ans wA wD (q1 ||| ((1 : Int64) <<< ((p1 &&& (63 : Int32)) &&& 0x3f).toInt64)) (p1 &&& (63 : Int32)))), .val (.ref (own_ans wA wD (q1 &&& (((1 : Int64) <<< ((p1 &&& (63 : Int32)) &&& 0x3f).toInt64) ^^^ (-1 : Int64))) (p1 &&& (63 : Int32))))] [(.ref wA), (.ref (own_ans wA wD (q1 ||| ((1 : Int64) <<< ((p1 &&& (63 : Int32)) &&& 0x3f).toInt64)) (p1 &&& (63 : Int32))))]))
        refine own_to (fun t k => Jvm.RoadKit.acmp (g := (mkF m 87 #[.val (.long q1), .second, .val (.int p1), .val (.int (p1 &&& (63 : Int32))), .val (.int (1 : Int32)), .val (.ref wA), .val (.long ((1 : Int64) <<< ((p1 &&& (63 : Int32)) &&& 0x3f).toInt64)), .second, .val (.ref (own_ans wA wD q1 (p1 &&& (63 : Int32)))), .val (.ref (own_ans wA wD (q1 ||| ((1 : Int64) <<< ((p1 &&& (63 : Int32)) &&& 0x3f).toInt64)) (p1 &&& (63 : Int32)))), .val (.ref (own_ans wA wD (q1 &&& (((1 : Int64) <<< ((p1 &&& (63 : Int32)) &&& 0x3f).toInt64) ^^^ (-1 : Int64))) (p1 &&& (63 : Int32))))] [(.ref wA), (.ref (own_ans wA wD (q1 ||| ((1 : Int64) <<< ((p1 &&& (63 : Int32)) &&& 0x3f).toInt64)) (p1 &&& (63 : Int32))))])) X10 hx rfl rfl rfl (pc0 := 87) (pc' := 102) (same := false) rfl (hb hby at_87) rfl (decide_eq_false fun q => ha87_11 (Value.ref.inj q)) (by decide) (by decide) k) ?_
        show own_Fin _ _ _ _ _ _ (T10.setTop (mkF m 102 #[.val (.long q1), .second, .val (.int p1), .val (.int (p1 &&& (63 : Int32))), .val (.int (1 : Int32)), .val (.ref wA), .val (.long ((1 : Int64) <<< ((p1 &&& (63 : Int32)) &&& 0x3f).toInt64)), .second, .val (.ref (own_ans wA wD q1 (p1 &&& (63 : Int32)))), .val (.ref (own_ans wA wD (q1 ||| ((1 : Int64) <<< ((p1 &&& (63 : Int32)) &&& 0x3f).toInt64)) (p1 &&& (63 : Int32)))), .val (.ref (own_ans wA wD (q1 &&& (((1 : Int64) <<< ((p1 &&& (63 : Int32)) &&& 0x3f).toInt64) ^^^ (-1 : Int64))) (p1 &&& (63 : Int32))))] []))
        refine own_to (fun t k => XS.iconst X10.here hx rfl (hb hby at_102) k) ?_
        show own_Fin _ _ _ _ _ _ (T10.setTop (mkF m 103 #[.val (.long q1), .second, .val (.int p1), .val (.int (p1 &&& (63 : Int32))), .val (.int (1 : Int32)), .val (.ref wA), .val (.long ((1 : Int64) <<< ((p1 &&& (63 : Int32)) &&& 0x3f).toInt64)), .second, .val (.ref (own_ans wA wD q1 (p1 &&& (63 : Int32)))), .val (.ref (own_ans wA wD (q1 ||| ((1 : Int64) <<< ((p1 &&& (63 : Int32)) &&& 0x3f).toInt64)) (p1 &&& (63 : Int32)))), .val (.ref (own_ans wA wD (q1 &&& (((1 : Int64) <<< ((p1 &&& (63 : Int32)) &&& 0x3f).toInt64) ^^^ (-1 : Int64))) (p1 &&& (63 : Int32))))] [(.int (0 : Int32))]))
        refine own_retN X10 hx hlk (t := .boolean) hret (by simp) (hb hby at_103) (by decide) (by decide) ?_
        try rw [e10]
        exact ⟨congrArg (fun z => some (Value.int z)) (Eq.symm (show own_law wA wD q1 p1 = _ from ((if_pos hc13_4).trans ((if_pos ha79_9).trans ((if_neg ha87_11).trans rfl))))), N8⟩
    ·
      show own_Fin _ _ _ _ _ _ (T8.setTop (mkF m 79 #[.val (.long q1), .second, .val (.int p1), .val (.int (p1 &&& (63 : Int32))), .val (.int (1 : Int32)), .val (.ref wA), .val (.long ((1 : Int64) <<< ((p1 &&& (63 : Int32)) &&& 0x3f).toInt64)), .second, .val (.ref (own_ans wA wD q1 (p1 &&& (63 : Int32)))), .val (.ref (own_ans wA wD (q1 ||| ((1 : Int64) <<< ((p1 &&& (63 : Int32)) &&& 0x3f).toInt64)) (p1 &&& (63 : Int32)))), .val (.ref (own_ans wA wD (q1 &&& (((1 : Int64) <<< ((p1 &&& (63 : Int32)) &&& 0x3f).toInt64) ^^^ (-1 : Int64))) (p1 &&& (63 : Int32))))] [(.ref wA), (.ref (own_ans wA wD q1 (p1 &&& (63 : Int32))))]))
      refine own_to (fun t k => Jvm.RoadKit.acmp (g := (mkF m 79 #[.val (.long q1), .second, .val (.int p1), .val (.int (p1 &&& (63 : Int32))), .val (.int (1 : Int32)), .val (.ref wA), .val (.long ((1 : Int64) <<< ((p1 &&& (63 : Int32)) &&& 0x3f).toInt64)), .second, .val (.ref (own_ans wA wD q1 (p1 &&& (63 : Int32)))), .val (.ref (own_ans wA wD (q1 ||| ((1 : Int64) <<< ((p1 &&& (63 : Int32)) &&& 0x3f).toInt64)) (p1 &&& (63 : Int32)))), .val (.ref (own_ans wA wD (q1 &&& (((1 : Int64) <<< ((p1 &&& (63 : Int32)) &&& 0x3f).toInt64) ^^^ (-1 : Int64))) (p1 &&& (63 : Int32))))] [(.ref wA), (.ref (own_ans wA wD q1 (p1 &&& (63 : Int32))))])) X8 hx rfl rfl rfl (pc0 := 79) (pc' := 102) (same := false) rfl (hb hby at_79) rfl (decide_eq_false fun q => ha79_9 (Value.ref.inj q)) (by decide) (by decide) k) ?_
      show own_Fin _ _ _ _ _ _ (T8.setTop (mkF m 102 #[.val (.long q1), .second, .val (.int p1), .val (.int (p1 &&& (63 : Int32))), .val (.int (1 : Int32)), .val (.ref wA), .val (.long ((1 : Int64) <<< ((p1 &&& (63 : Int32)) &&& 0x3f).toInt64)), .second, .val (.ref (own_ans wA wD q1 (p1 &&& (63 : Int32)))), .val (.ref (own_ans wA wD (q1 ||| ((1 : Int64) <<< ((p1 &&& (63 : Int32)) &&& 0x3f).toInt64)) (p1 &&& (63 : Int32)))), .val (.ref (own_ans wA wD (q1 &&& (((1 : Int64) <<< ((p1 &&& (63 : Int32)) &&& 0x3f).toInt64) ^^^ (-1 : Int64))) (p1 &&& (63 : Int32))))] []))
      refine own_to (fun t k => XS.iconst X8.here hx rfl (hb hby at_102) k) ?_
      show own_Fin _ _ _ _ _ _ (T8.setTop (mkF m 103 #[.val (.long q1), .second, .val (.int p1), .val (.int (p1 &&& (63 : Int32))), .val (.int (1 : Int32)), .val (.ref wA), .val (.long ((1 : Int64) <<< ((p1 &&& (63 : Int32)) &&& 0x3f).toInt64)), .second, .val (.ref (own_ans wA wD q1 (p1 &&& (63 : Int32)))), .val (.ref (own_ans wA wD (q1 ||| ((1 : Int64) <<< ((p1 &&& (63 : Int32)) &&& 0x3f).toInt64)) (p1 &&& (63 : Int32)))), .val (.ref (own_ans wA wD (q1 &&& (((1 : Int64) <<< ((p1 &&& (63 : Int32)) &&& 0x3f).toInt64) ^^^ (-1 : Int64))) (p1 &&& (63 : Int32))))] [(.int (0 : Int32))]))
      refine own_retN X8 hx hlk (t := .boolean) hret (by simp) (hb hby at_103) (by decide) (by decide) ?_
      try rw [eh8]
      exact ⟨congrArg (fun z => some (Value.int z)) (Eq.symm (show own_law wA wD q1 p1 = _ from ((if_pos hc13_4).trans ((if_neg ha79_9).trans rfl)))), N8⟩
  ·
    show own_Fin _ _ _ _ _ _ (s₁.setTop (mkF m 13 #[.val (.long q1), .second, .val (.int p1), .val (.int (p1 &&& (63 : Int32))), .unset, .unset, .unset, .unset, .unset, .unset, .unset] [(.int (lcmpW (q1 <<< (((63 : Int32) - (p1 &&& (63 : Int32))) &&& 0x3f).toInt64) (0 : Int64)))]))
    refine own_to (fun t k => XS.ifYes X0.here hx rfl (pc0 := 13) (pc' := 20) rfl (hb hby at_13) rfl ((if0 _ _).trans (flt (fun z => hc13_4 ((lw_lt _ _).mp z))).2.1) (by decide) (by decide) k) ?_
    show own_Fin _ _ _ _ _ _ (s₁.setTop (mkF m 20 #[.val (.long q1), .second, .val (.int p1), .val (.int (p1 &&& (63 : Int32))), .unset, .unset, .unset, .unset, .unset, .unset, .unset] []))
    refine own_to (fun t k => XS.iconst X0.here hx rfl (hb hby at_20) k) ?_
    show own_Fin _ _ _ _ _ _ (s₁.setTop (mkF m 21 #[.val (.long q1), .second, .val (.int p1), .val (.int (p1 &&& (63 : Int32))), .unset, .unset, .unset, .unset, .unset, .unset, .unset] [(.int (0 : Int32))]))
    refine own_to (fun t k => XS.istore X0.here hx rfl (hb hby at_21) rfl (l' := #[.val (.long q1), .second, .val (.int p1), .val (.int (p1 &&& (63 : Int32))), .val (.int (0 : Int32)), .unset, .unset, .unset, .unset, .unset, .unset]) rfl k) ?_
    show own_Fin _ _ _ _ _ _ (s₁.setTop (mkF m 23 #[.val (.long q1), .second, .val (.int p1), .val (.int (p1 &&& (63 : Int32))), .val (.int (0 : Int32)), .unset, .unset, .unset, .unset, .unset, .unset] []))
    refine own_to (fun t k => XS.iload X0.here hx rfl (hb hby at_23) rfl k) ?_
    show own_Fin _ _ _ _ _ _ (s₁.setTop (mkF m 25 #[.val (.long q1), .second, .val (.int p1), .val (.int (p1 &&& (63 : Int32))), .val (.int (0 : Int32)), .unset, .unset, .unset, .unset, .unset, .unset] [(.int (0 : Int32))]))
    refine own_to (fun t k => XS.ifYes X0.here hx rfl (pc0 := 25) (pc' := 34) rfl (hb hby at_25) rfl ((if0 _ _).trans (teq rfl).1) (by decide) (by decide) k) ?_
    show own_Fin _ _ _ _ _ _ (s₁.setTop (mkF m 34 #[.val (.long q1), .second, .val (.int p1), .val (.int (p1 &&& (63 : Int32))), .val (.int (0 : Int32)), .unset, .unset, .unset, .unset, .unset, .unset] []))
    obtain ⟨T14, X14, e14, st14⟩ := getS2 X0 hx hZ hown (host := "") (Or.inl (hw _ (List.mem_of_getElem? (i := 0) rfl))) Via.refl e0 SD (g := (mkF m 34 #[.val (.long q1), .second, .val (.int p1), .val (.int (p1 &&& (63 : Int32))), .val (.int (0 : Int32)), .unset, .unset, .unset, .unset, .unset, .unset] [])) rfl (hb hby at_34)
    refine own_to (fun t k => st14 t k) ?_
    show own_Fin _ _ _ _ _ _ (T14.setTop (mkF m 37 #[.val (.long q1), .second, .val (.int p1), .val (.int (p1 &&& (63 : Int32))), .val (.int (0 : Int32)), .unset, .unset, .unset, .unset, .unset, .unset] [(.ref wD)]))
    refine own_to (fun t k => XS.astore X14.here hx rfl (hb hby at_37) rfl rfl (l' := #[.val (.long q1), .second, .val (.int p1), .val (.int (p1 &&& (63 : Int32))), .val (.int (0 : Int32)), .val (.ref wD), .unset, .unset, .unset, .unset, .unset]) rfl k) ?_
    show own_Fin _ _ _ _ _ _ (T14.setTop (mkF m 39 #[.val (.long q1), .second, .val (.int p1), .val (.int (p1 &&& (63 : Int32))), .val (.int (0 : Int32)), .val (.ref wD), .unset, .unset, .unset, .unset, .unset] []))
    refine own_to (fun t k => XS.lconst X14.here hx rfl (hb hby at_39) k) ?_
    show own_Fin _ _ _ _ _ _ (T14.setTop (mkF m 40 #[.val (.long q1), .second, .val (.int p1), .val (.int (p1 &&& (63 : Int32))), .val (.int (0 : Int32)), .val (.ref wD), .unset, .unset, .unset, .unset, .unset] [(.long (1 : Int64))]))
    refine own_to (fun t k => XS.iloadN X14.here hx rfl (hb hby at_40) rfl k) ?_
    show own_Fin _ _ _ _ _ _ (T14.setTop (mkF m 41 #[.val (.long q1), .second, .val (.int p1), .val (.int (p1 &&& (63 : Int32))), .val (.int (0 : Int32)), .val (.ref wD), .unset, .unset, .unset, .unset, .unset] [(.int (p1 &&& (63 : Int32))), (.long (1 : Int64))]))
    refine own_to (fun t k => XS.lshl X14.here hx rfl (hb hby at_41) rfl k) ?_
    show own_Fin _ _ _ _ _ _ (T14.setTop (mkF m 42 #[.val (.long q1), .second, .val (.int p1), .val (.int (p1 &&& (63 : Int32))), .val (.int (0 : Int32)), .val (.ref wD), .unset, .unset, .unset, .unset, .unset] [(.long ((1 : Int64) <<< ((p1 &&& (63 : Int32)) &&& 0x3f).toInt64))]))
    refine own_to (fun t k => XS.lstore X14.here hx rfl (hb hby at_42) rfl (l' := #[.val (.long q1), .second, .val (.int p1), .val (.int (p1 &&& (63 : Int32))), .val (.int (0 : Int32)), .val (.ref wD), .val (.long ((1 : Int64) <<< ((p1 &&& (63 : Int32)) &&& 0x3f).toInt64)), .second, .unset, .unset, .unset]) rfl k) ?_
    show own_Fin _ _ _ _ _ _ (T14.setTop (mkF m 44 #[.val (.long q1), .second, .val (.int p1), .val (.int (p1 &&& (63 : Int32))), .val (.int (0 : Int32)), .val (.ref wD), .val (.long ((1 : Int64) <<< ((p1 &&& (63 : Int32)) &&& 0x3f).toInt64)), .second, .unset, .unset, .unset] []))
    refine own_to (fun t k => XS.lloadN X14.here hx rfl (hb hby at_44) rfl k) ?_
    show own_Fin _ _ _ _ _ _ (T14.setTop (mkF m 45 #[.val (.long q1), .second, .val (.int p1), .val (.int (p1 &&& (63 : Int32))), .val (.int (0 : Int32)), .val (.ref wD), .val (.long ((1 : Int64) <<< ((p1 &&& (63 : Int32)) &&& 0x3f).toInt64)), .second, .unset, .unset, .unset] [(.long q1)]))
    refine own_to (fun t k => XS.iloadN X14.here hx rfl (hb hby at_45) rfl k) ?_
    show own_Fin _ _ _ _ _ _ (T14.setTop (mkF m 46 #[.val (.long q1), .second, .val (.int p1), .val (.int (p1 &&& (63 : Int32))), .val (.int (0 : Int32)), .val (.ref wD), .val (.long ((1 : Int64) <<< ((p1 &&& (63 : Int32)) &&& 0x3f).toInt64)), .second, .unset, .unset, .unset] [(.int (p1 &&& (63 : Int32))), (.long q1)]))
    obtain ⟨_, _, ⟨T15, L15, k15, n15⟩, -, X15, ⟨Lc15, hQ15, l15, y15, z15⟩, st15⟩ := Jvm.LawKit.callS X14 hx (y := (⟨"com/example/inner_gate/innergate/Stanza", "answerBelow64", "(JI)Lcom/example/inner_gate/innergate/Answer;"⟩ : MethodName)) hown (mvT hZ (hw _ (List.mem_of_getElem? (i := 3) rfl))) (mvT hZ (hw _ (List.mem_of_getElem? (i := 4) rfl))) (mvT hZ (hw _ (List.mem_of_getElem? (i := 5) rfl))) (mvT hZ (hw _ (List.mem_of_getElem? (i := 6) rfl))) (by decide) (own_back (W := 0) (own_rm1 l Z a0 hw [] wA wD q1 (p1 &&& (63 : Int32)) h0 n0 Z0 SA SD) hZ (hw _ (List.mem_of_getElem? (i := 6) rfl)) (hw _ (List.mem_of_getElem? (i := 5) rfl)) (by decide) (by decide)) (g := (mkF m 46 #[.val (.long q1), .second, .val (.int p1), .val (.int (p1 &&& (63 : Int32))), .val (.int (0 : Int32)), .val (.ref wD), .val (.long ((1 : Int64) <<< ((p1 &&& (63 : Int32)) &&& 0x3f).toInt64)), .second, .unset, .unset, .unset] [(.int (p1 &&& (63 : Int32))), (.long q1)])) rfl (by rw [hml]; rfl) (argsL := [(.long q1), (.int (p1 &&& (63 : Int32)))]) (rest := []) (lenOf own_pd0 rfl) rfl (by show 2 * 0 + _ ≤ _; exact Nat.le_of_eq rfl) (hb hby at_46) (fun _ _ => ⟨rfl, e14, (by decide : 0 + 0 ≤ _), (by decide : 0 + 0 ≤ _)⟩)
    dsimp only [Pt.U, Pt.locs, Pt.cells, Pt.slots] at X15 l15 y15 z15 st15 hQ15
    subst l15 y15 z15
    obtain ⟨rfl, N15q, eh15⟩ := hQ15
    have N15 := Fr.app N0 N15q
    refine own_to (fun t k => st15 t k) ?_
    show own_Fin _ _ _ _ _ _ (T15.setTop (mkF m 49 #[.val (.long q1), .second, .val (.int p1), .val (.int (p1 &&& (63 : Int32))), .val (.int (0 : Int32)), .val (.ref wD), .val (.long ((1 : Int64) <<< ((p1 &&& (63 : Int32)) &&& 0x3f).toInt64)), .second, .unset, .unset, .unset] [(.ref (own_ans wA wD q1 (p1 &&& (63 : Int32))))]))
    refine own_to (fun t k => XS.astore X15.here hx rfl (hb hby at_49) rfl rfl (l' := #[.val (.long q1), .second, .val (.int p1), .val (.int (p1 &&& (63 : Int32))), .val (.int (0 : Int32)), .val (.ref wD), .val (.long ((1 : Int64) <<< ((p1 &&& (63 : Int32)) &&& 0x3f).toInt64)), .second, .val (.ref (own_ans wA wD q1 (p1 &&& (63 : Int32)))), .unset, .unset]) rfl k) ?_
    show own_Fin _ _ _ _ _ _ (T15.setTop (mkF m 51 #[.val (.long q1), .second, .val (.int p1), .val (.int (p1 &&& (63 : Int32))), .val (.int (0 : Int32)), .val (.ref wD), .val (.long ((1 : Int64) <<< ((p1 &&& (63 : Int32)) &&& 0x3f).toInt64)), .second, .val (.ref (own_ans wA wD q1 (p1 &&& (63 : Int32)))), .unset, .unset] []))
    refine own_to (fun t k => XS.lloadN X15.here hx rfl (hb hby at_51) rfl k) ?_
    show own_Fin _ _ _ _ _ _ (T15.setTop (mkF m 52 #[.val (.long q1), .second, .val (.int p1), .val (.int (p1 &&& (63 : Int32))), .val (.int (0 : Int32)), .val (.ref wD), .val (.long ((1 : Int64) <<< ((p1 &&& (63 : Int32)) &&& 0x3f).toInt64)), .second, .val (.ref (own_ans wA wD q1 (p1 &&& (63 : Int32)))), .unset, .unset] [(.long q1)]))
    refine own_to (fun t k => XS.lload X15.here hx rfl (hb hby at_52) rfl k) ?_
    show own_Fin _ _ _ _ _ _ (T15.setTop (mkF m 54 #[.val (.long q1), .second, .val (.int p1), .val (.int (p1 &&& (63 : Int32))), .val (.int (0 : Int32)), .val (.ref wD), .val (.long ((1 : Int64) <<< ((p1 &&& (63 : Int32)) &&& 0x3f).toInt64)), .second, .val (.ref (own_ans wA wD q1 (p1 &&& (63 : Int32)))), .unset, .unset] [(.long ((1 : Int64) <<< ((p1 &&& (63 : Int32)) &&& 0x3f).toInt64)), (.long q1)]))
    refine own_to (fun t k => XS.lor X15.here hx rfl (hb hby at_54) rfl k) ?_
    show own_Fin _ _ _ _ _ _ (T15.setTop (mkF m 55 #[.val (.long q1), .second, .val (.int p1), .val (.int (p1 &&& (63 : Int32))), .val (.int (0 : Int32)), .val (.ref wD), .val (.long ((1 : Int64) <<< ((p1 &&& (63 : Int32)) &&& 0x3f).toInt64)), .second, .val (.ref (own_ans wA wD q1 (p1 &&& (63 : Int32)))), .unset, .unset] [(.long (q1 ||| ((1 : Int64) <<< ((p1 &&& (63 : Int32)) &&& 0x3f).toInt64)))]))
    refine own_to (fun t k => XS.iloadN X15.here hx rfl (hb hby at_55) rfl k) ?_
    show own_Fin _ _ _ _ _ _ (T15.setTop (mkF m 56 #[.val (.long q1), .second, .val (.int p1), .val (.int (p1 &&& (63 : Int32))), .val (.int (0 : Int32)), .val (.ref wD), .val (.long ((1 : Int64) <<< ((p1 &&& (63 : Int32)) &&& 0x3f).toInt64)), .second, .val (.ref (own_ans wA wD q1 (p1 &&& (63 : Int32)))), .unset, .unset] [(.int (p1 &&& (63 : Int32))), (.long (q1 ||| ((1 : Int64) <<< ((p1 &&& (63 : Int32)) &&& 0x3f).toInt64)))]))
    obtain ⟨_, _, ⟨T16, L16, k16, n16⟩, -, X16, ⟨Lc16, hQ16, l16, y16, z16⟩, st16⟩ := Jvm.LawKit.callS X15 hx (y := (⟨"com/example/inner_gate/innergate/Stanza", "answerBelow64", "(JI)Lcom/example/inner_gate/innergate/Answer;"⟩ : MethodName)) hown (mvT hZ (hw _ (List.mem_of_getElem? (i := 3) rfl))) (mvT hZ (hw _ (List.mem_of_getElem? (i := 4) rfl))) (mvT hZ (hw _ (List.mem_of_getElem? (i := 5) rfl))) (mvT hZ (hw _ (List.mem_of_getElem? (i := 6) rfl))) (by decide) (own_back (W := 0) (own_rm1 l Z a0 hw [] wA wD (q1 ||| ((1 : Int64) <<< ((p1 &&& (63 : Int32)) &&& 0x3f).toInt64)) (p1 &&& (63 : Int32)) h0 n0 Z0 SA SD) hZ (hw _ (List.mem_of_getElem? (i := 6) rfl)) (hw _ (List.mem_of_getElem? (i := 5) rfl)) (by decide) (by decide)) (g := (mkF m 56 #[.val (.long q1), .second, .val (.int p1), .val (.int (p1 &&& (63 : Int32))), .val (.int (0 : Int32)), .val (.ref wD), .val (.long ((1 : Int64) <<< ((p1 &&& (63 : Int32)) &&& 0x3f).toInt64)), .second, .val (.ref (own_ans wA wD q1 (p1 &&& (63 : Int32)))), .unset, .unset] [(.int (p1 &&& (63 : Int32))), (.long (q1 ||| ((1 : Int64) <<< ((p1 &&& (63 : Int32)) &&& 0x3f).toInt64)))])) rfl (by rw [hml]; rfl) (argsL := [(.long (q1 ||| ((1 : Int64) <<< ((p1 &&& (63 : Int32)) &&& 0x3f).toInt64))), (.int (p1 &&& (63 : Int32)))]) (rest := []) (lenOf own_pd0 rfl) rfl (by show 2 * 0 + _ ≤ _; exact Nat.le_of_eq rfl) (hb hby at_56) (fun _ _ => ⟨rfl, eh15, (by decide : 0 + 0 ≤ _), (by decide : 0 + 0 ≤ _)⟩)
    dsimp only [Pt.U, Pt.locs, Pt.cells, Pt.slots] at X16 l16 y16 z16 st16 hQ16
    subst l16 y16 z16
    obtain ⟨rfl, N16q, eh16⟩ := hQ16
    have N16 := Fr.app N15 N16q
    refine own_to (fun t k => st16 t k) ?_
    show own_Fin _ _ _ _ _ _ (T16.setTop (mkF m 59 #[.val (.long q1), .second, .val (.int p1), .val (.int (p1 &&& (63 : Int32))), .val (.int (0 : Int32)), .val (.ref wD), .val (.long ((1 : Int64) <<< ((p1 &&& (63 : Int32)) &&& 0x3f).toInt64)), .second, .val (.ref (own_ans wA wD q1 (p1 &&& (63 : Int32)))), .unset, .unset] [(.ref (own_ans wA wD (q1 ||| ((1 : Int64) <<< ((p1 &&& (63 : Int32)) &&& 0x3f).toInt64)) (p1 &&& (63 : Int32))))]))
    refine own_to (fun t k => XS.astore X16.here hx rfl (hb hby at_59) rfl rfl (l' := #[.val (.long q1), .second, .val (.int p1), .val (.int (p1 &&& (63 : Int32))), .val (.int (0 : Int32)), .val (.ref wD), .val (.long ((1 : Int64) <<< ((p1 &&& (63 : Int32)) &&& 0x3f).toInt64)), .second, .val (.ref (own_ans wA wD q1 (p1 &&& (63 : Int32)))), .val (.ref (own_ans wA wD (q1 ||| ((1 : Int64) <<< ((p1 &&& (63 : Int32)) &&& 0x3f).toInt64)) (p1 &&& (63 : Int32)))), .unset]) rfl k) ?_
    show own_Fin _ _ _ _ _ _ (T16.setTop (mkF m 61 #[.val (.long q1), .second, .val (.int p1), .val (.int (p1 &&& (63 : Int32))), .val (.int (0 : Int32)), .val (.ref wD), .val (.long ((1 : Int64) <<< ((p1 &&& (63 : Int32)) &&& 0x3f).toInt64)), .second, .val (.ref (own_ans wA wD q1 (p1 &&& (63 : Int32)))), .val (.ref (own_ans wA wD (q1 ||| ((1 : Int64) <<< ((p1 &&& (63 : Int32)) &&& 0x3f).toInt64)) (p1 &&& (63 : Int32)))), .unset] []))
    refine own_to (fun t k => XS.lloadN X16.here hx rfl (hb hby at_61) rfl k) ?_
    show own_Fin _ _ _ _ _ _ (T16.setTop (mkF m 62 #[.val (.long q1), .second, .val (.int p1), .val (.int (p1 &&& (63 : Int32))), .val (.int (0 : Int32)), .val (.ref wD), .val (.long ((1 : Int64) <<< ((p1 &&& (63 : Int32)) &&& 0x3f).toInt64)), .second, .val (.ref (own_ans wA wD q1 (p1 &&& (63 : Int32)))), .val (.ref (own_ans wA wD (q1 ||| ((1 : Int64) <<< ((p1 &&& (63 : Int32)) &&& 0x3f).toInt64)) (p1 &&& (63 : Int32)))), .unset] [(.long q1)]))
    refine own_to (fun t k => XS.lload X16.here hx rfl (hb hby at_62) rfl k) ?_
    show own_Fin _ _ _ _ _ _ (T16.setTop (mkF m 64 #[.val (.long q1), .second, .val (.int p1), .val (.int (p1 &&& (63 : Int32))), .val (.int (0 : Int32)), .val (.ref wD), .val (.long ((1 : Int64) <<< ((p1 &&& (63 : Int32)) &&& 0x3f).toInt64)), .second, .val (.ref (own_ans wA wD q1 (p1 &&& (63 : Int32)))), .val (.ref (own_ans wA wD (q1 ||| ((1 : Int64) <<< ((p1 &&& (63 : Int32)) &&& 0x3f).toInt64)) (p1 &&& (63 : Int32)))), .unset] [(.long ((1 : Int64) <<< ((p1 &&& (63 : Int32)) &&& 0x3f).toInt64)), (.long q1)]))
    refine own_to (fun t k => X16.ldc2Long hx hown (mvT hZ (hw _ (List.mem_of_getElem? (i := 10) rfl))) (g := (mkF m 64 #[.val (.long q1), .second, .val (.int p1), .val (.int (p1 &&& (63 : Int32))), .val (.int (0 : Int32)), .val (.ref wD), .val (.long ((1 : Int64) <<< ((p1 &&& (63 : Int32)) &&& 0x3f).toInt64)), .second, .val (.ref (own_ans wA wD q1 (p1 &&& (63 : Int32)))), .val (.ref (own_ans wA wD (q1 ||| ((1 : Int64) <<< ((p1 &&& (63 : Int32)) &&& 0x3f).toInt64)) (p1 &&& (63 : Int32)))), .unset] [(.long ((1 : Int64) <<< ((p1 &&& (63 : Int32)) &&& 0x3f).toInt64)), (.long q1)])) rfl (hb hby at_64) _ k) ?_
    show own_Fin _ _ _ _ _ _ (T16.setTop (mkF m 67 #[.val (.long q1), .second, .val (.int p1), .val (.int (p1 &&& (63 : Int32))), .val (.int (0 : Int32)), .val (.ref wD), .val (.long ((1 : Int64) <<< ((p1 &&& (63 : Int32)) &&& 0x3f).toInt64)), .second, .val (.ref (own_ans wA wD q1 (p1 &&& (63 : Int32)))), .val (.ref (own_ans wA wD (q1 ||| ((1 : Int64) <<< ((p1 &&& (63 : Int32)) &&& 0x3f).toInt64)) (p1 &&& (63 : Int32)))), .unset] [(.long (-1 : Int64)), (.long ((1 : Int64) <<< ((p1 &&& (63 : Int32)) &&& 0x3f).toInt64)), (.long q1)]))
    refine own_to (fun t k => XS.lxor X16.here hx rfl (hb hby at_67) rfl k) ?_
    show own_Fin _ _ _ _ _ _ (T16.setTop (mkF m 68 #[.val (.long q1), .second, .val (.int p1), .val (.int (p1 &&& (63 : Int32))), .val (.int (0 : Int32)), .val (.ref wD), .val (.long ((1 : Int64) <<< ((p1 &&& (63 : Int32)) &&& 0x3f).toInt64)), .second, .val (.ref (own_ans wA wD q1 (p1 &&& (63 : Int32)))), .val (.ref (own_ans wA wD (q1 ||| ((1 : Int64) <<< ((p1 &&& (63 : Int32)) &&& 0x3f).toInt64)) (p1 &&& (63 : Int32)))), .unset] [(.long (((1 : Int64) <<< ((p1 &&& (63 : Int32)) &&& 0x3f).toInt64) ^^^ (-1 : Int64))), (.long q1)]))
    refine own_to (fun t k => XS.land X16.here hx rfl (hb hby at_68) rfl k) ?_
    show own_Fin _ _ _ _ _ _ (T16.setTop (mkF m 69 #[.val (.long q1), .second, .val (.int p1), .val (.int (p1 &&& (63 : Int32))), .val (.int (0 : Int32)), .val (.ref wD), .val (.long ((1 : Int64) <<< ((p1 &&& (63 : Int32)) &&& 0x3f).toInt64)), .second, .val (.ref (own_ans wA wD q1 (p1 &&& (63 : Int32)))), .val (.ref (own_ans wA wD (q1 ||| ((1 : Int64) <<< ((p1 &&& (63 : Int32)) &&& 0x3f).toInt64)) (p1 &&& (63 : Int32)))), .unset] [(.long (q1 &&& (((1 : Int64) <<< ((p1 &&& (63 : Int32)) &&& 0x3f).toInt64) ^^^ (-1 : Int64))))]))
    refine own_to (fun t k => XS.iloadN X16.here hx rfl (hb hby at_69) rfl k) ?_
    show own_Fin _ _ _ _ _ _ (T16.setTop (mkF m 70 #[.val (.long q1), .second, .val (.int p1), .val (.int (p1 &&& (63 : Int32))), .val (.int (0 : Int32)), .val (.ref wD), .val (.long ((1 : Int64) <<< ((p1 &&& (63 : Int32)) &&& 0x3f).toInt64)), .second, .val (.ref (own_ans wA wD q1 (p1 &&& (63 : Int32)))), .val (.ref (own_ans wA wD (q1 ||| ((1 : Int64) <<< ((p1 &&& (63 : Int32)) &&& 0x3f).toInt64)) (p1 &&& (63 : Int32)))), .unset] [(.int (p1 &&& (63 : Int32))), (.long (q1 &&& (((1 : Int64) <<< ((p1 &&& (63 : Int32)) &&& 0x3f).toInt64) ^^^ (-1 : Int64))))]))
    obtain ⟨_, _, ⟨T17, L17, k17, n17⟩, -, X17, ⟨Lc17, hQ17, l17, y17, z17⟩, st17⟩ := Jvm.LawKit.callS X16 hx (y := (⟨"com/example/inner_gate/innergate/Stanza", "answerBelow64", "(JI)Lcom/example/inner_gate/innergate/Answer;"⟩ : MethodName)) hown (mvT hZ (hw _ (List.mem_of_getElem? (i := 3) rfl))) (mvT hZ (hw _ (List.mem_of_getElem? (i := 4) rfl))) (mvT hZ (hw _ (List.mem_of_getElem? (i := 5) rfl))) (mvT hZ (hw _ (List.mem_of_getElem? (i := 6) rfl))) (by decide) (own_back (W := 0) (own_rm1 l Z a0 hw [] wA wD (q1 &&& (((1 : Int64) <<< ((p1 &&& (63 : Int32)) &&& 0x3f).toInt64) ^^^ (-1 : Int64))) (p1 &&& (63 : Int32)) h0 n0 Z0 SA SD) hZ (hw _ (List.mem_of_getElem? (i := 6) rfl)) (hw _ (List.mem_of_getElem? (i := 5) rfl)) (by decide) (by decide)) (g := (mkF m 70 #[.val (.long q1), .second, .val (.int p1), .val (.int (p1 &&& (63 : Int32))), .val (.int (0 : Int32)), .val (.ref wD), .val (.long ((1 : Int64) <<< ((p1 &&& (63 : Int32)) &&& 0x3f).toInt64)), .second, .val (.ref (own_ans wA wD q1 (p1 &&& (63 : Int32)))), .val (.ref (own_ans wA wD (q1 ||| ((1 : Int64) <<< ((p1 &&& (63 : Int32)) &&& 0x3f).toInt64)) (p1 &&& (63 : Int32)))), .unset] [(.int (p1 &&& (63 : Int32))), (.long (q1 &&& (((1 : Int64) <<< ((p1 &&& (63 : Int32)) &&& 0x3f).toInt64) ^^^ (-1 : Int64))))])) rfl (by rw [hml]; rfl) (argsL := [(.long (q1 &&& (((1 : Int64) <<< ((p1 &&& (63 : Int32)) &&& 0x3f).toInt64) ^^^ (-1 : Int64)))), (.int (p1 &&& (63 : Int32)))]) (rest := []) (lenOf own_pd0 rfl) rfl (by show 2 * 0 + _ ≤ _; exact Nat.le_of_eq rfl) (hb hby at_70) (fun _ _ => ⟨rfl, eh16, (by decide : 0 + 0 ≤ _), (by decide : 0 + 0 ≤ _)⟩)
    dsimp only [Pt.U, Pt.locs, Pt.cells, Pt.slots] at X17 l17 y17 z17 st17 hQ17
    subst l17 y17 z17
    obtain ⟨rfl, N17q, eh17⟩ := hQ17
    have N17 := Fr.app N16 N17q
    refine own_to (fun t k => st17 t k) ?_
    show own_Fin _ _ _ _ _ _ (T17.setTop (mkF m 73 #[.val (.long q1), .second, .val (.int p1), .val (.int (p1 &&& (63 : Int32))), .val (.int (0 : Int32)), .val (.ref wD), .val (.long ((1 : Int64) <<< ((p1 &&& (63 : Int32)) &&& 0x3f).toInt64)), .second, .val (.ref (own_ans wA wD q1 (p1 &&& (63 : Int32)))), .val (.ref (own_ans wA wD (q1 ||| ((1 : Int64) <<< ((p1 &&& (63 : Int32)) &&& 0x3f).toInt64)) (p1 &&& (63 : Int32)))), .unset] [(.ref (own_ans wA wD (q1 &&& (((1 : Int64) <<< ((p1 &&& (63 : Int32)) &&& 0x3f).toInt64) ^^^ (-1 : Int64))) (p1 &&& (63 : Int32))))]))
    refine own_to (fun t k => XS.astore X17.here hx rfl (hb hby at_73) rfl rfl (l' := #[.val (.long q1), .second, .val (.int p1), .val (.int (p1 &&& (63 : Int32))), .val (.int (0 : Int32)), .val (.ref wD), .val (.long ((1 : Int64) <<< ((p1 &&& (63 : Int32)) &&& 0x3f).toInt64)), .second, .val (.ref (own_ans wA wD q1 (p1 &&& (63 : Int32)))), .val (.ref (own_ans wA wD (q1 ||| ((1 : Int64) <<< ((p1 &&& (63 : Int32)) &&& 0x3f).toInt64)) (p1 &&& (63 : Int32)))), .val (.ref (own_ans wA wD (q1 &&& (((1 : Int64) <<< ((p1 &&& (63 : Int32)) &&& 0x3f).toInt64) ^^^ (-1 : Int64))) (p1 &&& (63 : Int32))))]) rfl k) ?_
    show own_Fin _ _ _ _ _ _ (T17.setTop (mkF m 75 #[.val (.long q1), .second, .val (.int p1), .val (.int (p1 &&& (63 : Int32))), .val (.int (0 : Int32)), .val (.ref wD), .val (.long ((1 : Int64) <<< ((p1 &&& (63 : Int32)) &&& 0x3f).toInt64)), .second, .val (.ref (own_ans wA wD q1 (p1 &&& (63 : Int32)))), .val (.ref (own_ans wA wD (q1 ||| ((1 : Int64) <<< ((p1 &&& (63 : Int32)) &&& 0x3f).toInt64)) (p1 &&& (63 : Int32)))), .val (.ref (own_ans wA wD (q1 &&& (((1 : Int64) <<< ((p1 &&& (63 : Int32)) &&& 0x3f).toInt64) ^^^ (-1 : Int64))) (p1 &&& (63 : Int32))))] []))
    refine own_to (fun t k => XS.aload X17.here hx rfl (hb hby at_75) rfl rfl k) ?_
    show own_Fin _ _ _ _ _ _ (T17.setTop (mkF m 77 #[.val (.long q1), .second, .val (.int p1), .val (.int (p1 &&& (63 : Int32))), .val (.int (0 : Int32)), .val (.ref wD), .val (.long ((1 : Int64) <<< ((p1 &&& (63 : Int32)) &&& 0x3f).toInt64)), .second, .val (.ref (own_ans wA wD q1 (p1 &&& (63 : Int32)))), .val (.ref (own_ans wA wD (q1 ||| ((1 : Int64) <<< ((p1 &&& (63 : Int32)) &&& 0x3f).toInt64)) (p1 &&& (63 : Int32)))), .val (.ref (own_ans wA wD (q1 &&& (((1 : Int64) <<< ((p1 &&& (63 : Int32)) &&& 0x3f).toInt64) ^^^ (-1 : Int64))) (p1 &&& (63 : Int32))))] [(.ref (own_ans wA wD q1 (p1 &&& (63 : Int32))))]))
    refine own_to (fun t k => XS.aload X17.here hx rfl (hb hby at_77) rfl rfl k) ?_
    show own_Fin _ _ _ _ _ _ (T17.setTop (mkF m 79 #[.val (.long q1), .second, .val (.int p1), .val (.int (p1 &&& (63 : Int32))), .val (.int (0 : Int32)), .val (.ref wD), .val (.long ((1 : Int64) <<< ((p1 &&& (63 : Int32)) &&& 0x3f).toInt64)), .second, .val (.ref (own_ans wA wD q1 (p1 &&& (63 : Int32)))), .val (.ref (own_ans wA wD (q1 ||| ((1 : Int64) <<< ((p1 &&& (63 : Int32)) &&& 0x3f).toInt64)) (p1 &&& (63 : Int32)))), .val (.ref (own_ans wA wD (q1 &&& (((1 : Int64) <<< ((p1 &&& (63 : Int32)) &&& 0x3f).toInt64) ^^^ (-1 : Int64))) (p1 &&& (63 : Int32))))] [(.ref wD), (.ref (own_ans wA wD q1 (p1 &&& (63 : Int32))))]))
    by_cases ha79_18 : (own_ans wA wD q1 (p1 &&& (63 : Int32))) = wD
    ·
      show own_Fin _ _ _ _ _ _ (T17.setTop (mkF m 79 #[.val (.long q1), .second, .val (.int p1), .val (.int (p1 &&& (63 : Int32))), .val (.int (0 : Int32)), .val (.ref wD), .val (.long ((1 : Int64) <<< ((p1 &&& (63 : Int32)) &&& 0x3f).toInt64)), .second, .val (.ref (own_ans wA wD q1 (p1 &&& (63 : Int32)))), .val (.ref (own_ans wA wD (q1 ||| ((1 : Int64) <<< ((p1 &&& (63 : Int32)) &&& 0x3f).toInt64)) (p1 &&& (63 : Int32)))), .val (.ref (own_ans wA wD (q1 &&& (((1 : Int64) <<< ((p1 &&& (63 : Int32)) &&& 0x3f).toInt64) ^^^ (-1 : Int64))) (p1 &&& (63 : Int32))))] [(.ref wD), (.ref (own_ans wA wD q1 (p1 &&& (63 : Int32))))]))
      refine own_to (fun t k => Jvm.RoadKit.acmp (g := (mkF m 79 #[.val (.long q1), .second, .val (.int p1), .val (.int (p1 &&& (63 : Int32))), .val (.int (0 : Int32)), .val (.ref wD), .val (.long ((1 : Int64) <<< ((p1 &&& (63 : Int32)) &&& 0x3f).toInt64)), .second, .val (.ref (own_ans wA wD q1 (p1 &&& (63 : Int32)))), .val (.ref (own_ans wA wD (q1 ||| ((1 : Int64) <<< ((p1 &&& (63 : Int32)) &&& 0x3f).toInt64)) (p1 &&& (63 : Int32)))), .val (.ref (own_ans wA wD (q1 &&& (((1 : Int64) <<< ((p1 &&& (63 : Int32)) &&& 0x3f).toInt64) ^^^ (-1 : Int64))) (p1 &&& (63 : Int32))))] [(.ref wD), (.ref (own_ans wA wD q1 (p1 &&& (63 : Int32))))])) X17 hx rfl rfl rfl (pc0 := 79) (pc' := 82) (same := true) rfl (hb hby at_79) rfl (decide_eq_true (congrArg Value.ref ha79_18)) (by decide) (by decide) k) ?_
      show own_Fin _ _ _ _ _ _ (T17.setTop (mkF m 82 #[.val (.long q1), .second, .val (.int p1), .val (.int (p1 &&& (63 : Int32))), .val (.int (0 : Int32)), .val (.ref wD), .val (.long ((1 : Int64) <<< ((p1 &&& (63 : Int32)) &&& 0x3f).toInt64)), .second, .val (.ref (own_ans wA wD q1 (p1 &&& (63 : Int32)))), .val (.ref (own_ans wA wD (q1 ||| ((1 : Int64) <<< ((p1 &&& (63 : Int32)) &&& 0x3f).toInt64)) (p1 &&& (63 : Int32)))), .val (.ref (own_ans wA wD (q1 &&& (((1 : Int64) <<< ((p1 &&& (63 : Int32)) &&& 0x3f).toInt64) ^^^ (-1 : Int64))) (p1 &&& (63 : Int32))))] []))
      refine own_to (fun t k => XS.aload X17.here hx rfl (hb hby at_82) rfl rfl k) ?_
      show own_Fin _ _ _ _ _ _ (T17.setTop (mkF m 84 #[.val (.long q1), .second, .val (.int p1), .val (.int (p1 &&& (63 : Int32))), .val (.int (0 : Int32)), .val (.ref wD), .val (.long ((1 : Int64) <<< ((p1 &&& (63 : Int32)) &&& 0x3f).toInt64)), .second, .val (.ref (own_ans wA wD q1 (p1 &&& (63 : Int32)))), .val (.ref (own_ans wA wD (q1 ||| ((1 : Int64) <<< ((p1 &&& (63 : Int32)) &&& 0x3f).toInt64)) (p1 &&& (63 : Int32)))), .val (.ref (own_ans wA wD (q1 &&& (((1 : Int64) <<< ((p1 &&& (63 : Int32)) &&& 0x3f).toInt64) ^^^ (-1 : Int64))) (p1 &&& (63 : Int32))))] [(.ref (own_ans wA wD (q1 ||| ((1 : Int64) <<< ((p1 &&& (63 : Int32)) &&& 0x3f).toInt64)) (p1 &&& (63 : Int32))))]))
      obtain ⟨T19, X19, e19, st19⟩ := getS2 X17 hx hZ hown (host := "") (Or.inl (hw _ (List.mem_of_getElem? (i := 11) rfl))) Via.refl eh17 SA (g := (mkF m 84 #[.val (.long q1), .second, .val (.int p1), .val (.int (p1 &&& (63 : Int32))), .val (.int (0 : Int32)), .val (.ref wD), .val (.long ((1 : Int64) <<< ((p1 &&& (63 : Int32)) &&& 0x3f).toInt64)), .second, .val (.ref (own_ans wA wD q1 (p1 &&& (63 : Int32)))), .val (.ref (own_ans wA wD (q1 ||| ((1 : Int64) <<< ((p1 &&& (63 : Int32)) &&& 0x3f).toInt64)) (p1 &&& (63 : Int32)))), .val (.ref (own_ans wA wD (q1 &&& (((1 : Int64) <<< ((p1 &&& (63 : Int32)) &&& 0x3f).toInt64) ^^^ (-1 : Int64))) (p1 &&& (63 : Int32))))] [(.ref (own_ans wA wD (q1 ||| ((1 : Int64) <<< ((p1 &&& (63 : Int32)) &&& 0x3f).toInt64)) (p1 &&& (63 : Int32))))])) rfl (hb hby at_84)
      refine own_to (fun t k => st19 t k) ?_
      show own_Fin _ _ _ _ _ _ (T19.setTop (mkF m 87 #[.val (.long q1), .second, .val (.int p1), .val (.int (p1 &&& (63 : Int32))), .val (.int (0 : Int32)), .val (.ref wD), .val (.long ((1 : Int64) <<< ((p1 &&& (63 : Int32)) &&& 0x3f).toInt64)), .second, .val (.ref (own_ans wA wD q1 (p1 &&& (63 : Int32)))), .val (.ref (own_ans wA wD (q1 ||| ((1 : Int64) <<< ((p1 &&& (63 : Int32)) &&& 0x3f).toInt64)) (p1 &&& (63 : Int32)))), .val (.ref (own_ans wA wD (q1 &&& (((1 : Int64) <<< ((p1 &&& (63 : Int32)) &&& 0x3f).toInt64) ^^^ (-1 : Int64))) (p1 &&& (63 : Int32))))] [(.ref wA), (.ref (own_ans wA wD (q1 ||| ((1 : Int64) <<< ((p1 &&& (63 : Int32)) &&& 0x3f).toInt64)) (p1 &&& (63 : Int32))))]))
      by_cases ha87_20 : (own_ans wA wD (q1 ||| ((1 : Int64) <<< ((p1 &&& (63 : Int32)) &&& 0x3f).toInt64)) (p1 &&& (63 : Int32))) = wA
      ·
        show own_Fin _ _ _ _ _ _ (T19.setTop (mkF m 87 #[.val (.long q1), .second, .val (.int p1), .val (.int (p1 &&& (63 : Int32))), .val (.int (0 : Int32)), .val (.ref wD), .val (.long ((1 : Int64) <<< ((p1 &&& (63 : Int32)) &&& 0x3f).toInt64)), .second, .val (.ref (own_ans wA wD q1 (p1 &&& (63 : Int32)))), .val (.ref (own_ans wA wD (q1 ||| ((1 : Int64) <<< ((p1 &&& (63 : Int32)) &&& 0x3f).toInt64)) (p1 &&& (63 : Int32)))), .val (.ref (own_ans wA wD (q1 &&& (((1 : Int64) <<< ((p1 &&& (63 : Int32)) &&& 0x3f).toInt64) ^^^ (-1 : Int64))) (p1 &&& (63 : Int32))))] [(.ref wA), (.ref (own_ans wA wD (q1 ||| ((1 : Int64) <<< ((p1 &&& (63 : Int32)) &&& 0x3f).toInt64)) (p1 &&& (63 : Int32))))]))
        refine own_to (fun t k => Jvm.RoadKit.acmp (g := (mkF m 87 #[.val (.long q1), .second, .val (.int p1), .val (.int (p1 &&& (63 : Int32))), .val (.int (0 : Int32)), .val (.ref wD), .val (.long ((1 : Int64) <<< ((p1 &&& (63 : Int32)) &&& 0x3f).toInt64)), .second, .val (.ref (own_ans wA wD q1 (p1 &&& (63 : Int32)))), .val (.ref (own_ans wA wD (q1 ||| ((1 : Int64) <<< ((p1 &&& (63 : Int32)) &&& 0x3f).toInt64)) (p1 &&& (63 : Int32)))), .val (.ref (own_ans wA wD (q1 &&& (((1 : Int64) <<< ((p1 &&& (63 : Int32)) &&& 0x3f).toInt64) ^^^ (-1 : Int64))) (p1 &&& (63 : Int32))))] [(.ref wA), (.ref (own_ans wA wD (q1 ||| ((1 : Int64) <<< ((p1 &&& (63 : Int32)) &&& 0x3f).toInt64)) (p1 &&& (63 : Int32))))])) X19 hx rfl rfl rfl (pc0 := 87) (pc' := 90) (same := true) rfl (hb hby at_87) rfl (decide_eq_true (congrArg Value.ref ha87_20)) (by decide) (by decide) k) ?_
        show own_Fin _ _ _ _ _ _ (T19.setTop (mkF m 90 #[.val (.long q1), .second, .val (.int p1), .val (.int (p1 &&& (63 : Int32))), .val (.int (0 : Int32)), .val (.ref wD), .val (.long ((1 : Int64) <<< ((p1 &&& (63 : Int32)) &&& 0x3f).toInt64)), .second, .val (.ref (own_ans wA wD q1 (p1 &&& (63 : Int32)))), .val (.ref (own_ans wA wD (q1 ||| ((1 : Int64) <<< ((p1 &&& (63 : Int32)) &&& 0x3f).toInt64)) (p1 &&& (63 : Int32)))), .val (.ref (own_ans wA wD (q1 &&& (((1 : Int64) <<< ((p1 &&& (63 : Int32)) &&& 0x3f).toInt64) ^^^ (-1 : Int64))) (p1 &&& (63 : Int32))))] []))
        refine own_to (fun t k => XS.aload X19.here hx rfl (hb hby at_90) rfl rfl k) ?_
        show own_Fin _ _ _ _ _ _ (T19.setTop (mkF m 92 #[.val (.long q1), .second, .val (.int p1), .val (.int (p1 &&& (63 : Int32))), .val (.int (0 : Int32)), .val (.ref wD), .val (.long ((1 : Int64) <<< ((p1 &&& (63 : Int32)) &&& 0x3f).toInt64)), .second, .val (.ref (own_ans wA wD q1 (p1 &&& (63 : Int32)))), .val (.ref (own_ans wA wD (q1 ||| ((1 : Int64) <<< ((p1 &&& (63 : Int32)) &&& 0x3f).toInt64)) (p1 &&& (63 : Int32)))), .val (.ref (own_ans wA wD (q1 &&& (((1 : Int64) <<< ((p1 &&& (63 : Int32)) &&& 0x3f).toInt64) ^^^ (-1 : Int64))) (p1 &&& (63 : Int32))))] [(.ref (own_ans wA wD (q1 &&& (((1 : Int64) <<< ((p1 &&& (63 : Int32)) &&& 0x3f).toInt64) ^^^ (-1 : Int64))) (p1 &&& (63 : Int32))))]))
        obtain ⟨T21, X21, e21, st21⟩ := getS2 X19 hx hZ hown (host := "") (Or.inl (hw _ (List.mem_of_getElem? (i := 0) rfl))) Via.refl e19 SD (g := (mkF m 92 #[.val (.long q1), .second, .val (.int p1), .val (.int (p1 &&& (63 : Int32))), .val (.int (0 : Int32)), .val (.ref wD), .val (.long ((1 : Int64) <<< ((p1 &&& (63 : Int32)) &&& 0x3f).toInt64)), .second, .val (.ref (own_ans wA wD q1 (p1 &&& (63 : Int32)))), .val (.ref (own_ans wA wD (q1 ||| ((1 : Int64) <<< ((p1 &&& (63 : Int32)) &&& 0x3f).toInt64)) (p1 &&& (63 : Int32)))), .val (.ref (own_ans wA wD (q1 &&& (((1 : Int64) <<< ((p1 &&& (63 : Int32)) &&& 0x3f).toInt64) ^^^ (-1 : Int64))) (p1 &&& (63 : Int32))))] [(.ref (own_ans wA wD (q1 &&& (((1 : Int64) <<< ((p1 &&& (63 : Int32)) &&& 0x3f).toInt64) ^^^ (-1 : Int64))) (p1 &&& (63 : Int32))))])) rfl (hb hby at_92)
        refine own_to (fun t k => st21 t k) ?_
        show own_Fin _ _ _ _ _ _ (T21.setTop (mkF m 95 #[.val (.long q1), .second, .val (.int p1), .val (.int (p1 &&& (63 : Int32))), .val (.int (0 : Int32)), .val (.ref wD), .val (.long ((1 : Int64) <<< ((p1 &&& (63 : Int32)) &&& 0x3f).toInt64)), .second, .val (.ref (own_ans wA wD q1 (p1 &&& (63 : Int32)))), .val (.ref (own_ans wA wD (q1 ||| ((1 : Int64) <<< ((p1 &&& (63 : Int32)) &&& 0x3f).toInt64)) (p1 &&& (63 : Int32)))), .val (.ref (own_ans wA wD (q1 &&& (((1 : Int64) <<< ((p1 &&& (63 : Int32)) &&& 0x3f).toInt64) ^^^ (-1 : Int64))) (p1 &&& (63 : Int32))))] [(.ref wD), (.ref (own_ans wA wD (q1 &&& (((1 : Int64) <<< ((p1 &&& (63 : Int32)) &&& 0x3f).toInt64) ^^^ (-1 : Int64))) (p1 &&& (63 : Int32))))]))
        by_cases ha95_22 : (own_ans wA wD (q1 &&& (((1 : Int64) <<< ((p1 &&& (63 : Int32)) &&& 0x3f).toInt64) ^^^ (-1 : Int64))) (p1 &&& (63 : Int32))) = wD
        ·
          show own_Fin _ _ _ _ _ _ (T21.setTop (mkF m 95 #[.val (.long q1), .second, .val (.int p1), .val (.int (p1 &&& (63 : Int32))), .val (.int (0 : Int32)), .val (.ref wD), .val (.long ((1 : Int64) <<< ((p1 &&& (63 : Int32)) &&& 0x3f).toInt64)), .second, .val (.ref (own_ans wA wD q1 (p1 &&& (63 : Int32)))), .val (.ref (own_ans wA wD (q1 ||| ((1 : Int64) <<< ((p1 &&& (63 : Int32)) &&& 0x3f).toInt64)) (p1 &&& (63 : Int32)))), .val (.ref (own_ans wA wD (q1 &&& (((1 : Int64) <<< ((p1 &&& (63 : Int32)) &&& 0x3f).toInt64) ^^^ (-1 : Int64))) (p1 &&& (63 : Int32))))] [(.ref wD), (.ref (own_ans wA wD (q1 &&& (((1 : Int64) <<< ((p1 &&& (63 : Int32)) &&& 0x3f).toInt64) ^^^ (-1 : Int64))) (p1 &&& (63 : Int32))))]))
          refine own_to (fun t k => Jvm.RoadKit.acmp (g := (mkF m 95 #[.val (.long q1), .second, .val (.int p1), .val (.int (p1 &&& (63 : Int32))), .val (.int (0 : Int32)), .val (.ref wD), .val (.long ((1 : Int64) <<< ((p1 &&& (63 : Int32)) &&& 0x3f).toInt64)), .second, .val (.ref (own_ans wA wD q1 (p1 &&& (63 : Int32)))), .val (.ref (own_ans wA wD (q1 ||| ((1 : Int64) <<< ((p1 &&& (63 : Int32)) &&& 0x3f).toInt64)) (p1 &&& (63 : Int32)))), .val (.ref (own_ans wA wD (q1 &&& (((1 : Int64) <<< ((p1 &&& (63 : Int32)) &&& 0x3f).toInt64) ^^^ (-1 : Int64))) (p1 &&& (63 : Int32))))] [(.ref wD), (.ref (own_ans wA wD (q1 &&& (((1 : Int64) <<< ((p1 &&& (63 : Int32)) &&& 0x3f).toInt64) ^^^ (-1 : Int64))) (p1 &&& (63 : Int32))))])) X21 hx rfl rfl rfl (pc0 := 95) (pc' := 98) (same := true) rfl (hb hby at_95) rfl (decide_eq_true (congrArg Value.ref ha95_22)) (by decide) (by decide) k) ?_
          show own_Fin _ _ _ _ _ _ (T21.setTop (mkF m 98 #[.val (.long q1), .second, .val (.int p1), .val (.int (p1 &&& (63 : Int32))), .val (.int (0 : Int32)), .val (.ref wD), .val (.long ((1 : Int64) <<< ((p1 &&& (63 : Int32)) &&& 0x3f).toInt64)), .second, .val (.ref (own_ans wA wD q1 (p1 &&& (63 : Int32)))), .val (.ref (own_ans wA wD (q1 ||| ((1 : Int64) <<< ((p1 &&& (63 : Int32)) &&& 0x3f).toInt64)) (p1 &&& (63 : Int32)))), .val (.ref (own_ans wA wD (q1 &&& (((1 : Int64) <<< ((p1 &&& (63 : Int32)) &&& 0x3f).toInt64) ^^^ (-1 : Int64))) (p1 &&& (63 : Int32))))] []))
          refine own_to (fun t k => XS.iconst X21.here hx rfl (hb hby at_98) k) ?_
          show own_Fin _ _ _ _ _ _ (T21.setTop (mkF m 99 #[.val (.long q1), .second, .val (.int p1), .val (.int (p1 &&& (63 : Int32))), .val (.int (0 : Int32)), .val (.ref wD), .val (.long ((1 : Int64) <<< ((p1 &&& (63 : Int32)) &&& 0x3f).toInt64)), .second, .val (.ref (own_ans wA wD q1 (p1 &&& (63 : Int32)))), .val (.ref (own_ans wA wD (q1 ||| ((1 : Int64) <<< ((p1 &&& (63 : Int32)) &&& 0x3f).toInt64)) (p1 &&& (63 : Int32)))), .val (.ref (own_ans wA wD (q1 &&& (((1 : Int64) <<< ((p1 &&& (63 : Int32)) &&& 0x3f).toInt64) ^^^ (-1 : Int64))) (p1 &&& (63 : Int32))))] [(.int (1 : Int32))]))
          refine own_to (fun t k => XS.goto X21.here hx rfl (pc0 := 99) (pc' := 103) rfl (hb hby at_99) (by decide) (by decide) k) ?_
          show own_Fin _ _ _ _ _ _ (T21.setTop (mkF m 103 #[.val (.long q1), .second, .val (.int p1), .val (.int (p1 &&& (63 : Int32))), .val (.int (0 : Int32)), .val (.ref wD), .val (.long ((1 : Int64) <<< ((p1 &&& (63 : Int32)) &&& 0x3f).toInt64)), .second, .val (.ref (own_ans wA wD q1 (p1 &&& (63 : Int32)))), .val (.ref (own_ans wA wD (q1 ||| ((1 : Int64) <<< ((p1 &&& (63 : Int32)) &&& 0x3f).toInt64)) (p1 &&& (63 : Int32)))), .val (.ref (own_ans wA wD (q1 &&& (((1 : Int64) <<< ((p1 &&& (63 : Int32)) &&& 0x3f).toInt64) ^^^ (-1 : Int64))) (p1 &&& (63 : Int32))))] [(.int (1 : Int32))]))
          refine own_retN X21 hx hlk (t := .boolean) hret (by simp) (hb hby at_103) (by decide) (by decide) ?_
          try rw [e21]
          exact ⟨congrArg (fun z => some (Value.int z)) (Eq.symm (show own_law wA wD q1 p1 = _ from ((if_neg hc13_4).trans ((if_pos ha79_18).trans ((if_pos ha87_20).trans ((if_pos ha95_22).trans rfl)))))), N17⟩
        ·
          show own_Fin _ _ _ _ _ _ (T21.setTop (mkF m 95 #[.val (.long q1), .second, .val (.int p1), .val (.int (p1 &&& (63 : Int32))), .val (.int (0 : Int32)), .val (.ref wD), .val (.long ((1 : Int64) <<< ((p1 &&& (63 : Int32)) &&& 0x3f).toInt64)), .second, .val (.ref (own_ans wA wD q1 (p1 &&& (63 : Int32)))), .val (.ref (own_ans wA wD (q1 ||| ((1 : Int64) <<< ((p1 &&& (63 : Int32)) &&& 0x3f).toInt64)) (p1 &&& (63 : Int32)))), .val (.ref (own_ans wA wD (q1 &&& (((1 : Int64) <<< ((p1 &&& (63 : Int32)) &&& 0x3f).toInt64) ^^^ (-1 : Int64))) (p1 &&& (63 : Int32))))] [(.ref wD), (.ref (own_ans wA wD (q1 &&& (((1 : Int64) <<< ((p1 &&& (63 : Int32)) &&& 0x3f).toInt64) ^^^ (-1 : Int64))) (p1 &&& (63 : Int32))))]))
          refine own_to (fun t k => Jvm.RoadKit.acmp (g := (mkF m 95 #[.val (.long q1), .second, .val (.int p1), .val (.int (p1 &&& (63 : Int32))), .val (.int (0 : Int32)), .val (.ref wD), .val (.long ((1 : Int64) <<< ((p1 &&& (63 : Int32)) &&& 0x3f).toInt64)), .second, .val (.ref (own_ans wA wD q1 (p1 &&& (63 : Int32)))), .val (.ref (own_ans wA wD (q1 ||| ((1 : Int64) <<< ((p1 &&& (63 : Int32)) &&& 0x3f).toInt64)) (p1 &&& (63 : Int32)))), .val (.ref (own_ans wA wD (q1 &&& (((1 : Int64) <<< ((p1 &&& (63 : Int32)) &&& 0x3f).toInt64) ^^^ (-1 : Int64))) (p1 &&& (63 : Int32))))] [(.ref wD), (.ref (own_ans wA wD (q1 &&& (((1 : Int64) <<< ((p1 &&& (63 : Int32)) &&& 0x3f).toInt64) ^^^ (-1 : Int64))) (p1 &&& (63 : Int32))))])) X21 hx rfl rfl rfl (pc0 := 95) (pc' := 102) (same := false) rfl (hb hby at_95) rfl (decide_eq_false fun q => ha95_22 (Value.ref.inj q)) (by decide) (by decide) k) ?_
          show own_Fin _ _ _ _ _ _ (T21.setTop (mkF m 102 #[.val (.long q1), .second, .val (.int p1), .val (.int (p1 &&& (63 : Int32))), .val (.int (0 : Int32)), .val (.ref wD), .val (.long ((1 : Int64) <<< ((p1 &&& (63 : Int32)) &&& 0x3f).toInt64)), .second, .val (.ref (own_ans wA wD q1 (p1 &&& (63 : Int32)))), .val (.ref (own_ans wA wD (q1 ||| ((1 : Int64) <<< ((p1 &&& (63 : Int32)) &&& 0x3f).toInt64)) (p1 &&& (63 : Int32)))), .val (.ref (own_ans wA wD (q1 &&& (((1 : Int64) <<< ((p1 &&& (63 : Int32)) &&& 0x3f).toInt64) ^^^ (-1 : Int64))) (p1 &&& (63 : Int32))))] []))
          refine own_to (fun t k => XS.iconst X21.here hx rfl (hb hby at_102) k) ?_
          show own_Fin _ _ _ _ _ _ (T21.setTop (mkF m 103 #[.val (.long q1), .second, .val (.int p1), .val (.int (p1 &&& (63 : Int32))), .val (.int (0 : Int32)), .val (.ref wD), .val (.long ((1 : Int64) <<< ((p1 &&& (63 : Int32)) &&& 0x3f).toInt64)), .second, .val (.ref (own_ans wA wD q1 (p1 &&& (63 : Int32)))), .val (.ref (own_ans wA wD (q1 ||| ((1 : Int64) <<< ((p1 &&& (63 : Int32)) &&& 0x3f).toInt64)) (p1 &&& (63 : Int32)))), .val (.ref (own_ans wA wD (q1 &&& (((1 : Int64) <<< ((p1 &&& (63 : Int32)) &&& 0x3f).toInt64) ^^^ (-1 : Int64))) (p1 &&& (63 : Int32))))] [(.int (0 : Int32))]))
          refine own_retN X21 hx hlk (t := .boolean) hret (by simp) (hb hby at_103) (by decide) (by decide) ?_
          try rw [e21]
          exact ⟨congrArg (fun z => some (Value.int z)) (Eq.symm (show own_law wA wD q1 p1 = _ from ((if_neg hc13_4).trans ((if_pos ha79_18).trans ((if_pos ha87_20).trans ((if_neg ha95_22).trans rfl)))))), N17⟩
      ·
        show own_Fin _ _ _ _ _ _ (T19.setTop (mkF m 87 #[.val (.long q1), .second, .val (.int p1), .val (.int (p1 &&& (63 : Int32))), .val (.int (0 : Int32)), .val (.ref wD), .val (.long ((1 : Int64) <<< ((p1 &&& (63 : Int32)) &&& 0x3f).toInt64)), .second, .val (.ref (own_ans wA wD q1 (p1 &&& (63 : Int32)))), .val (.ref (own_ans wA wD (q1 ||| ((1 : Int64) <<< ((p1 &&& (63 : Int32)) &&& 0x3f).toInt64)) (p1 &&& (63 : Int32)))), .val (.ref (own_ans wA wD (q1 &&& (((1 : Int64) <<< ((p1 &&& (63 : Int32)) &&& 0x3f).toInt64) ^^^ (-1 : Int64))) (p1 &&& (63 : Int32))))] [(.ref wA), (.ref (own_ans wA wD (q1 ||| ((1 : Int64) <<< ((p1 &&& (63 : Int32)) &&& 0x3f).toInt64)) (p1 &&& (63 : Int32))))]))
        refine own_to (fun t k => Jvm.RoadKit.acmp (g := (mkF m 87 #[.val (.long q1), .second, .val (.int p1), .val (.int (p1 &&& (63 : Int32))), .val (.int (0 : Int32)), .val (.ref wD), .val (.long ((1 : Int64) <<< ((p1 &&& (63 : Int32)) &&& 0x3f).toInt64)), .second, .val (.ref (own_ans wA wD q1 (p1 &&& (63 : Int32)))), .val (.ref (own_ans wA wD (q1 ||| ((1 : Int64) <<< ((p1 &&& (63 : Int32)) &&& 0x3f).toInt64)) (p1 &&& (63 : Int32)))), .val (.ref (own_ans wA wD (q1 &&& (((1 : Int64) <<< ((p1 &&& (63 : Int32)) &&& 0x3f).toInt64) ^^^ (-1 : Int64))) (p1 &&& (63 : Int32))))] [(.ref wA), (.ref (own_ans wA wD (q1 ||| ((1 : Int64) <<< ((p1 &&& (63 : Int32)) &&& 0x3f).toInt64)) (p1 &&& (63 : Int32))))])) X19 hx rfl rfl rfl (pc0 := 87) (pc' := 102) (same := false) rfl (hb hby at_87) rfl (decide_eq_false fun q => ha87_20 (Value.ref.inj q)) (by decide) (by decide) k) ?_
        show own_Fin _ _ _ _ _ _ (T19.setTop (mkF m 102 #[.val (.long q1), .second, .val (.int p1), .val (.int (p1 &&& (63 : Int32))), .val (.int (0 : Int32)), .val (.ref wD), .val (.long ((1 : Int64) <<< ((p1 &&& (63 : Int32)) &&& 0x3f).toInt64)), .second, .val (.ref (own_ans wA wD q1 (p1 &&& (63 : Int32)))), .val (.ref (own_ans wA wD (q1 ||| ((1 : Int64) <<< ((p1 &&& (63 : Int32)) &&& 0x3f).toInt64)) (p1 &&& (63 : Int32)))), .val (.ref (own_ans wA wD (q1 &&& (((1 : Int64) <<< ((p1 &&& (63 : Int32)) &&& 0x3f).toInt64) ^^^ (-1 : Int64))) (p1 &&& (63 : Int32))))] []))
        refine own_to (fun t k => XS.iconst X19.here hx rfl (hb hby at_102) k) ?_
        show own_Fin _ _ _ _ _ _ (T19.setTop (mkF m 103 #[.val (.long q1), .second, .val (.int p1), .val (.int (p1 &&& (63 : Int32))), .val (.int (0 : Int32)), .val (.ref wD), .val (.long ((1 : Int64) <<< ((p1 &&& (63 : Int32)) &&& 0x3f).toInt64)), .second, .val (.ref (own_ans wA wD q1 (p1 &&& (63 : Int32)))), .val (.ref (own_ans wA wD (q1 ||| ((1 : Int64) <<< ((p1 &&& (63 : Int32)) &&& 0x3f).toInt64)) (p1 &&& (63 : Int32)))), .val (.ref (own_ans wA wD (q1 &&& (((1 : Int64) <<< ((p1 &&& (63 : Int32)) &&& 0x3f).toInt64) ^^^ (-1 : Int64))) (p1 &&& (63 : Int32))))] [(.int (0 : Int32))]))
        refine own_retN X19 hx hlk (t := .boolean) hret (by simp) (hb hby at_103) (by decide) (by decide) ?_
        try rw [e19]
        exact ⟨congrArg (fun z => some (Value.int z)) (Eq.symm (show own_law wA wD q1 p1 = _ from ((if_neg hc13_4).trans ((if_pos ha79_18).trans ((if_neg ha87_20).trans rfl))))), N17⟩
    ·
      show own_Fin _ _ _ _ _ _ (T17.setTop (mkF m 79 #[.val (.long q1), .second, .val (.int p1), .val (.int (p1 &&& (63 : Int32))), .val (.int (0 : Int32)), .val (.ref wD), .val (.long ((1 : Int64) <<< ((p1 &&& (63 : Int32)) &&& 0x3f).toInt64)), .second, .val (.ref (own_ans wA wD q1 (p1 &&& (63 : Int32)))), .val (.ref (own_ans wA wD (q1 ||| ((1 : Int64) <<< ((p1 &&& (63 : Int32)) &&& 0x3f).toInt64)) (p1 &&& (63 : Int32)))), .val (.ref (own_ans wA wD (q1 &&& (((1 : Int64) <<< ((p1 &&& (63 : Int32)) &&& 0x3f).toInt64) ^^^ (-1 : Int64))) (p1 &&& (63 : Int32))))] [(.ref wD), (.ref (own_ans wA wD q1 (p1 &&& (63 : Int32))))]))
      refine own_to (fun t k => Jvm.RoadKit.acmp (g := (mkF m 79 #[.val (.long q1), .second, .val (.int p1), .val (.int (p1 &&& (63 : Int32))), .val (.int (0 : Int32)), .val (.ref wD), .val (.long ((1 : Int64) <<< ((p1 &&& (63 : Int32)) &&& 0x3f).toInt64)), .second, .val (.ref (own_ans wA wD q1 (p1 &&& (63 : Int32)))), .val (.ref (own_ans wA wD (q1 ||| ((1 : Int64) <<< ((p1 &&& (63 : Int32)) &&& 0x3f).toInt64)) (p1 &&& (63 : Int32)))), .val (.ref (own_ans wA wD (q1 &&& (((1 : Int64) <<< ((p1 &&& (63 : Int32)) &&& 0x3f).toInt64) ^^^ (-1 : Int64))) (p1 &&& (63 : Int32))))] [(.ref wD), (.ref (own_ans wA wD q1 (p1 &&& (63 : Int32))))])) X17 hx rfl rfl rfl (pc0 := 79) (pc' := 102) (same := false) rfl (hb hby at_79) rfl (decide_eq_false fun q => ha79_18 (Value.ref.inj q)) (by decide) (by decide) k) ?_
      show own_Fin _ _ _ _ _ _ (T17.setTop (mkF m 102 #[.val (.long q1), .second, .val (.int p1), .val (.int (p1 &&& (63 : Int32))), .val (.int (0 : Int32)), .val (.ref wD), .val (.long ((1 : Int64) <<< ((p1 &&& (63 : Int32)) &&& 0x3f).toInt64)), .second, .val (.ref (own_ans wA wD q1 (p1 &&& (63 : Int32)))), .val (.ref (own_ans wA wD (q1 ||| ((1 : Int64) <<< ((p1 &&& (63 : Int32)) &&& 0x3f).toInt64)) (p1 &&& (63 : Int32)))), .val (.ref (own_ans wA wD (q1 &&& (((1 : Int64) <<< ((p1 &&& (63 : Int32)) &&& 0x3f).toInt64) ^^^ (-1 : Int64))) (p1 &&& (63 : Int32))))] []))
      refine own_to (fun t k => XS.iconst X17.here hx rfl (hb hby at_102) k) ?_
      show own_Fin _ _ _ _ _ _ (T17.setTop (mkF m 103 #[.val (.long q1), .second, .val (.int p1), .val (.int (p1 &&& (63 : Int32))), .val (.int (0 : Int32)), .val (.ref wD), .val (.long ((1 : Int64) <<< ((p1 &&& (63 : Int32)) &&& 0x3f).toInt64)), .second, .val (.ref (own_ans wA wD q1 (p1 &&& (63 : Int32)))), .val (.ref (own_ans wA wD (q1 ||| ((1 : Int64) <<< ((p1 &&& (63 : Int32)) &&& 0x3f).toInt64)) (p1 &&& (63 : Int32)))), .val (.ref (own_ans wA wD (q1 &&& (((1 : Int64) <<< ((p1 &&& (63 : Int32)) &&& 0x3f).toInt64) ^^^ (-1 : Int64))) (p1 &&& (63 : Int32))))] [(.int (0 : Int32))]))
      refine own_retN X17 hx hlk (t := .boolean) hret (by simp) (hb hby at_103) (by decide) (by decide) ?_
      try rw [eh17]
      exact ⟨congrArg (fun z => some (Value.int z)) (Eq.symm (show own_law wA wD q1 p1 = _ from ((if_neg hc13_4).trans ((if_neg ha79_18).trans rfl)))), N17⟩
theorem own_n (p : Int32) : ∃ n : Nat, n < 64 ∧ p &&& 63 = Int32.ofNat n := by
  have e : (p &&& 63).toInt = p.toInt % 2 ^ 6 := Jvm.Kit.i32_mask p 63 (k := 6) (by decide) (by decide)
  refine ⟨(p.toInt % 64).toNat, by omega, ?_⟩
  apply Int32.toInt_inj.mp
  rw [Int32.toInt_ofNat_of_lt (by omega)]
  omega
theorem own_d1 : ∀ n : Fin 64, (((63 : Int32) - Int32.ofNat n.val) &&& 0x3f).toInt64.toBitVec.smod 64 = BitVec.ofNat 64 (63 - n.val) := by decide +kernel
theorem own_d2 : ∀ n : Fin 64, (Int32.ofNat n.val &&& 0x3f).toInt64.toBitVec.smod 64 = BitVec.ofNat 64 n.val := by decide +kernel
theorem own_d3 : ∀ n : Fin 64, (Int32.ofNat n.val &&& 0x3f).toInt64.toUInt64.toBitVec % 64 = BitVec.ofNat 64 n.val := by decide +kernel
theorem own_sgn (x : Int64) : (x < 0) ↔ x.toBitVec.getLsbD 63 = true := by
  have h : x.toBitVec.msb = x.toBitVec.getLsbD 63 := BitVec.msb_eq_getLsbD_last _
  rw [← h, BitVec.msb_eq_toInt, decide_eq_true_eq, Int64.lt_iff_toInt_lt, Int64.toInt_zero]
  rfl
theorem own_set (x : Int64) (n : Nat) (hn : n < 64) : (x <<< (((63 : Int32) - Int32.ofNat n) &&& 0x3f).toInt64 < 0) ↔ x.toBitVec.getLsbD n = true := by
  rw [own_sgn, Int64.toBitVec_shiftLeft, own_d1 ⟨n, hn⟩]
  show (x.toBitVec <<< (BitVec.ofNat 64 (63 - n))).getLsbD 63 = true ↔ _
  rw [BitVec.shiftLeft_eq', BitVec.getLsbD_shiftLeft, BitVec.toNat_ofNat, Nat.mod_eq_of_lt (by omega)]
  have e1 : 63 - (63 - n) = n := by omega
  have e2 : ¬ 63 < 63 - n := by omega
  simp [e1, e2]
theorem own_shr (x : Int64) (n : Nat) (hn : n < 64) : ((((x.toUInt64 >>> (Int32.ofNat n &&& 0x3f).toInt64.toUInt64).toInt64) &&& (1 : Int64)) = (0 : Int64)) ↔ x.toBitVec.getLsbD n = false := by
  have e : (((x.toUInt64 >>> (Int32.ofNat n &&& 0x3f).toInt64.toUInt64).toInt64) &&& (1 : Int64)).toBitVec = (x.toBitVec >>> n) &&& 1#64 := by
    rw [Int64.toBitVec_and]
    show (x.toUInt64 >>> (Int32.ofNat n &&& 0x3f).toInt64.toUInt64).toBitVec &&& _ = _
    rw [UInt64.toBitVec_shiftRight, own_d3 ⟨n, hn⟩, BitVec.ushiftRight_eq', BitVec.toNat_ofNat, Nat.mod_eq_of_lt (by show n < 2 ^ 64; omega)]
    rfl
  rw [← Int64.toBitVec_inj, e]
  constructor
  · intro h
    have h2 := congrArg (fun z => BitVec.getLsbD z 0) h
    simp at h2
    exact h2
  · intro h
    apply BitVec.eq_of_getLsbD_eq
    intro i hi
    rw [BitVec.getLsbD_and, BitVec.getLsbD_ushiftRight]
    by_cases h0 : i = 0
    · subst h0; simp [h]
    · have : (1#64).getLsbD i = false := by simp [BitVec.getLsbD_one, h0]
      rw [this]; simp
theorem own_one (n : Nat) (hn : n < 64) : ((1 : Int64) <<< (Int32.ofNat n &&& 0x3f).toInt64).toBitVec = 1#64 <<< n := by
  rw [Int64.toBitVec_shiftLeft, own_d2 ⟨n, hn⟩, BitVec.shiftLeft_eq', BitVec.toNat_ofNat, Nat.mod_eq_of_lt (by show n < 2 ^ 64; omega)]
  rfl
theorem own_onebit (n : Nat) (hn : n < 64) : ((1 : Int64) <<< (Int32.ofNat n &&& 0x3f).toInt64).toBitVec.getLsbD n = true := by
  rw [own_one n hn, BitVec.getLsbD_shiftLeft]
  simp [hn]
theorem own_true (wA wD : Addr) (q : Int64) (p : Int32) : own_law wA wD q p = 1 := by
  obtain ⟨n, hn, e⟩ := own_n p
  have e3 : own_ans wA wD (q ||| ((1 : Int64) <<< ((p &&& (63 : Int32)) &&& 0x3f).toInt64)) (p &&& (63 : Int32)) = wA := by
    rw [e]; unfold own_ans
    rw [if_neg]
    rw [own_shr _ n hn, Int64.toBitVec_or, BitVec.getLsbD_or, own_onebit n hn]; simp
  have e4 : own_ans wA wD (q &&& (((1 : Int64) <<< ((p &&& (63 : Int32)) &&& 0x3f).toInt64) ^^^ (-1 : Int64))) (p &&& (63 : Int32)) = wD := by
    rw [e]; unfold own_ans
    rw [if_pos]
    rw [own_shr _ n hn, Int64.toBitVec_and, BitVec.getLsbD_and, Int64.toBitVec_xor, BitVec.getLsbD_xor, own_onebit n hn]
    have : (-1 : Int64).toBitVec = BitVec.allOnes 64 := by decide
    rw [this, BitVec.getLsbD_allOnes]; simp [hn]
  unfold own_law
  rw [e3, e4]
  by_cases hb : q.toBitVec.getLsbD n = true
  · have e1 : own_ans wA wD q (p &&& (63 : Int32)) = wA := by
      rw [e]; unfold own_ans; rw [if_neg]; rw [own_shr _ n hn, hb]; decide
    rw [if_pos (by rw [e]; exact (own_set q n hn).mpr hb), if_pos e1, if_pos rfl, if_pos rfl]
  · have e1 : own_ans wA wD q (p &&& (63 : Int32)) = wD := by
      rw [e]; unfold own_ans; rw [if_pos]; rw [own_shr _ n hn]; simpa using hb
    rw [if_neg (by rw [e]; exact fun z => hb ((own_set q n hn).mp z)), if_pos e1, if_pos rfl, if_pos rfl]
theorem own_rm0 (l : Launch) (Z : State) (a0 : Array Value) (hw : ∀ d ∈ tables_1, d.before a0 Z = true) (ws : List Jvm.Cond) (wA wD : Addr) (q1 : Int64) (p1 : Int32) (h0 : Heap) (n0 : Nat) (Z0 : n0 ≤ h0.size) (SA : Sta Z h0 "com/example/inner_gate/innergate/Answer" "ALLOW" "Lcom/example/inner_gate/innergate/Answer;" (.ref wA)) (SD : Sta Z h0 "com/example/inner_gate/innergate/Answer" "DENY" "Lcom/example/inner_gate/innergate/Answer;" (.ref wD)) :
    own_Met l Z x code maxLocals ret ws room_1 #[(.long q1), (.int p1)] h0 (fun v h L => v = some (.int 1) ∧ Fr n0 L) := by
  have k := own_rm0x l Z a0 hw ws wA wD q1 p1 h0 n0 Z0 SA SD
  rw [own_true wA wD q1 p1] at k
  exact k
set_option maxRecDepth 65536 in
set_option maxHeartbeats 40000000 in
theorem comes_1 {Post : Tables → Env → Array Value → State → Outcome → State → Prop} (hpost : ∀ tb e args s v u, (limb_1_1.after args s (.returned v) u = true ∧ limb_1_2.after args s (.returned v) u = true ∧ True) → FrameEnd s (.returned v) u (Jvm.fieldLocs frame_1_writes args s ++ Jvm.arrayLocs frame_1_arrays args s ++ Jvm.staticLocs frame_1_statics s) 0 0 → Post tb e args s (.returned v) u) :
    ArmFor flags0 classFile x code maxLocals ret World_1 tables_1 room_1 Calls_1 rest_1 Pre_1 Post := by
  intro l hfl _ _ p e ha hc hk s m args below hf hA hF happ hP
  obtain ⟨hcalls, hrest, hpre⟩ := hP
  obtain ⟨-, -, -, hnamed, -, -, -, hat⟩ := (Spec.applies_iff hf).mp happ
  obtain ⟨hg, hn⟩ := and_e (Cond.before_iff.mp (show (Jvm.Cond.and given_1 narrow_1).before args s = true from hpre))
  obtain ⟨g1, g2⟩ := and_e hg
  obtain ⟨g3, g4⟩ := and_e g2
  obtain ⟨w0, w1, rfl⟩ : ∃ w0 w1 : Value, args = #[w0, w1] := by
    have hs : args.size = 2 := by simpa [Cond.value, given_1] using g1
    obtain ⟨L⟩ := args
    match L, hs with
    | [w0, w1], _ => exact ⟨w0, w1, rfl⟩
  have hw := fun d (hd : d ∈ tables_1) => atoms_spec (ws := Jvm.Cond.code x code maxLocals ret :: tables_1) hat d (List.mem_cons_of_mem _ hd)
  have hfit : Fit s := fun {y c} hc i hi => by
    obtain ⟨ha, rfl⟩ := Array.getElem?_eq_some_iff.mp hc
    have q := List.all_eq_true.mp ((Array.all_eq_true_iff_forall_mem.mp hF) _ (Array.getElem_mem ha)) i (List.mem_range.mpr hi)
    simpa [Array.getElem?_eq_getElem hi] using q
  obtain ⟨i0, ei0⟩ := isL_v g3
  obtain rfl : w0 = (.long i0) := Option.some.inj ei0
  obtain ⟨i1, ei1⟩ := is_v g4
  obtain rfl : w1 = (.int i1) := Option.some.inj ei1
  obtain ⟨hnD, hnA⟩ := and_e (show (narrow_1).value _ s none s [] = some true from hn)
  obtain ⟨wD, eD⟩ := exa_v hnD
  obtain ⟨wA, eA⟩ := exa_v hnA
  obtain ⟨n, o, h1, h2, h3, _, L, rfl, ⟨rfl, N⟩, hq⟩ := own_rm0 l s _ hw tables_1 wA wD i0 i1 s.heap s.heap.size (Nat.le_refl _) (Sta.start eA (Or.inr ⟨(hw _ (List.mem_of_getElem? (i := 1) rfl)), (hw _ (List.mem_of_getElem? (i := 9) rfl))⟩)) (Sta.start eD (Or.inr ⟨(hw _ (List.mem_of_getElem? (i := 1) rfl)), (hw _ (List.mem_of_getElem? (i := 2) rfl))⟩)) p e ha hc hk s m _ below hf ((Spec.applies_iff_loose hf).mp happ).1 ⟨rfl, State.Warmed39.refl s, rfl⟩ trivial
  refine ⟨n, _, h1, h2, h3, hpost _ _ _ _ _ _ ⟨Cond.after_iff.mpr rfl, Cond.after_iff.mpr (eq_i res_at (Term.int_eval (1)) rfl), trivial⟩ ⟨hq.1, hq.2.1, (hq.2.2.sift fun y hy => Or.inr (N y hy)).mono (by decide) (by decide)⟩⟩
theorem main_1_1 : Claimed_1_1 := comes_1 fun _ _ _ _ _ _ h hF => ⟨h.1, hF⟩
theorem main_1_2 : Claimed_1_2 := comes_1 fun _ _ _ _ _ _ h hF => ⟨h.2.1, hF⟩
end Jvm.Pilot.@@N@@
namespace Jvm.Pilot.@@N@@
open Jvm Jvm.ClassFile Sem Op Lib Jvm.Free Jvm.Stand Jvm.Pilot.@@N@@.Jvm.D
/-! MADE BY PROGRAM (witnessworld.py) out of the Statement's table words and the real class files: 14 classes; the members and pool entries that the words name. The judged class is class 1, her method 1. -/
namespace start1
open Jvm.ClassFile
def u (s : String) : CpInfo := .utf8 (stringToUtf16 s)
/-- a pool by its gaps: so many unusable entries, then the entry; so many at the end -/
def gap : Nat → List CpInfo → List CpInfo
  | 0, r => r
  | n + 1, r => .unusable :: gap n r
def poolList (es : List (Nat × CpInfo)) (last : Nat) : List CpInfo := es.foldr (fun e r => gap e.1 (e.2 :: r)) (gap last [])
def pool (es : List (Nat × CpInfo)) (last : Nat) : Array CpInfo := ⟨poolList es last⟩
def fileOf (pool : Array CpInfo) (this : Nat) (attrs : Array Attribute := #[]) (ms : Array MethodInfo := #[]) (fl : Nat := 33) (sup : Nat := 0) (ifs : Array Nat := #[]) (fds : Array FieldInfo := #[]) : ClassFile where
  minorVersion := 0
  majorVersion := 65
  constantPool := pool
  accessFlags := fl
  thisClass := this
  superClass := sup
  interfaces := ifs
  fields := fds
  methods := ms
  attributes := attrs
def plain (name : String) (sup : Option ClassId) : Class where
  name := name
  kind := .ordinary
  loader := none
  accessFlags := 33
  super := sup
  interfaces := #[]
  cf := none
  fields := #[]
  methods := #[]
  instanceTypes := #[]
  staticTypes := #[]
  resolved := #[]
  callSites := []
  init := .initialized
  statics := none
  mirror := none

def pool0 : Array CpInfo := pool [(5, u "<init>"), (0, u "()V"), (1, .class_ 10), (1, u "java/lang/Object")] 113

def k0m0 : Method := { name := "<init>", desc := "()V", sig := { parameters := [], returnType := none }, accessFlags := 1, code := none }
/-- java/lang/Object -/
def k0 : Class := { plain "java/lang/Object" none with
  accessFlags := 33
  interfaces := #[]
  cf := some (fileOf pool0 8 #[] #[{ accessFlags := 1, nameIndex := 5, descriptorIndex := 6, attributes := #[] }] 33 0 #[] #[])
  fields := #[]
  methods := #[k0m0]
  instanceTypes := #[]
  staticTypes := #[]
  resolved := Array.replicate 124 none
  statics := none }

def pool1 : Array CpInfo := pool [(2, .class_ 4), (1, u "java/lang/Object"), (0, u "<init>"), (0, u "()V"), (0, .fieldref 8 9), (0, .class_ 10), (0, .nameAndType 11 12), (0, u "com/example/inner_gate/innergate/Answer"), (0, u "ALLOW"), (0, u "Lcom/example/inner_gate/innergate/Answer;"), (0, .fieldref 8 14), (0, .nameAndType 15 12), (0, u "DENY"), (0, .methodref 17 18), (0, .class_ 19), (0, .nameAndType 20 21), (0, u "com/example/inner_gate/innergate/Stanza"), (0, u "answerBelow64"), (0, u "(JI)Lcom/example/inner_gate/innergate/Answer;"), (0, .long 18446744073709551615), (1, .class_ 25), (0, u "com/example/inner_gate/innergate/StanzaAnswerBelow64PinLaw"), (2, u "law"), (0, u "(JI)Z")] 3

def k1m0 : Method := { name := "<init>", desc := "()V", sig := { parameters := [], returnType := none }, accessFlags := 2, code := none }
def k1c1 : Code := { maxStack := 6, maxLocals := 11, code := code, exceptionTable := #[], attributes := #[] }
def k1m1 : Method := { name := "law", desc := "(JI)Z", sig := { parameters := [.long, .int], returnType := some .boolean }, accessFlags := 9, code := some k1c1 }
/-- com/example/inner_gate/innergate/StanzaAnswerBelow64PinLaw -/
def k1 : Class := { plain "com/example/inner_gate/innergate/StanzaAnswerBelow64PinLaw" (some 0) with
  accessFlags := 49
  interfaces := #[]
  cf := some (fileOf pool1 24 #[] #[{ accessFlags := 2, nameIndex := 5, descriptorIndex := 6, attributes := #[] }, { accessFlags := 9, nameIndex := 28, descriptorIndex := 29, attributes := #[] }] 49 2 #[] #[])
  fields := #[]
  methods := #[k1m0, k1m1]
  instanceTypes := #[]
  staticTypes := #[]
  resolved := Array.replicate 33 none
  statics := none }

def pool2 : Array CpInfo := pool [(1, .class_ 2), (0, u "java/lang/constant/Constable"), (0, .class_ 4), (0, u "java/lang/Object")] 6

/-- java/lang/constant/Constable -/
def k2 : Class := { plain "java/lang/constant/Constable" (some 0) with
  accessFlags := 1537
  interfaces := #[]
  cf := some (fileOf pool2 1 #[] #[] 1537 3 #[] #[])
  fields := #[]
  methods := #[]
  instanceTypes := #[]
  staticTypes := #[]
  resolved := Array.replicate 11 none
  statics := none }

def pool3 : Array CpInfo := pool [(1, .class_ 2), (0, u "java/lang/Comparable"), (0, .class_ 4), (0, u "java/lang/Object")] 7

/-- java/lang/Comparable -/
def k3 : Class := { plain "java/lang/Comparable" (some 0) with
  accessFlags := 1537
  interfaces := #[]
  cf := some (fileOf pool3 1 #[] #[] 1537 3 #[] #[])
  fields := #[]
  methods := #[]
  instanceTypes := #[]
  staticTypes := #[]
  resolved := Array.replicate 12 none
  statics := none }

def pool4 : Array CpInfo := pool [(1, .class_ 2), (0, u "java/io/Serializable"), (0, .class_ 4), (0, u "java/lang/Object")] 2

/-- java/io/Serializable -/
def k4 : Class := { plain "java/io/Serializable" (some 0) with
  accessFlags := 1537
  interfaces := #[]
  cf := some (fileOf pool4 1 #[] #[] 1537 3 #[] #[])
  fields := #[]
  methods := #[]
  instanceTypes := #[]
  staticTypes := #[]
  resolved := Array.replicate 7 none
  statics := none }

def pool5 : Array CpInfo := pool [(2, .class_ 4), (1, u "java/lang/Enum"), (0, u "name"), (0, u "Ljava/lang/String;"), (2, u "ordinal"), (0, u "I"), (1, .class_ 14), (1, u "java/lang/Object"), (4, u "hash"), (86, .class_ 108), (1, u "java/lang/Enum$EnumDesc"), (2, .class_ 112), (0, u "java/lang/constant/Constable"), (0, .class_ 114), (0, u "java/lang/Comparable"), (0, .class_ 116), (0, u "java/io/Serializable")] 87

/-- java/lang/Enum -/
def k5 : Class := { plain "java/lang/Enum" (some 0) with
  accessFlags := 1057
  interfaces := #[2, 3, 4]
  cf := some (fileOf pool5 2 #[.nestMembers #[106]] #[] 1057 12 #[111, 113, 115] #[{ accessFlags := 18, nameIndex := 5, descriptorIndex := 6, attributes := #[] }, { accessFlags := 18, nameIndex := 9, descriptorIndex := 10, attributes := #[] }, { accessFlags := 2, nameIndex := 19, descriptorIndex := 10, attributes := #[] }])
  fields := #[{ name := "name", type := (.object "java/lang/String"), accessFlags := 18, slot := 0, constantValue := 0 }, { name := "ordinal", type := .int, accessFlags := 18, slot := 1, constantValue := 0 }, { name := "hash", type := .int, accessFlags := 2, slot := 2, constantValue := 0 }]
  methods := #[]
  instanceTypes := #[(.object "java/lang/String"), .int, .int]
  staticTypes := #[]
  resolved := Array.replicate 204 none
  statics := none }

def pool6 : Array CpInfo := pool [(1, .class_ 2), (0, u "com/example/inner_gate/innergate/Answer"), (2, u "DENY"), (0, u "Lcom/example/inner_gate/innergate/Answer;"), (2, u "BOGUS"), (2, u "ASK"), (2, u "ALLOW"), (2, u "ABSTAIN"), (2, u "$VALUES"), (0, u "[Lcom/example/inner_gate/innergate/Answer;"), (6, .class_ 31), (1, u "java/lang/Enum"), (8, u "word"), (0, u "Ljava/lang/String;")] 63

/-- com/example/inner_gate/innergate/Answer -/
def k6 : Class := { plain "com/example/inner_gate/innergate/Answer" (some 5) with
  accessFlags := 16433
  interfaces := #[]
  cf := some (fileOf pool6 1 #[] #[] 16433 29 #[] #[{ accessFlags := 16409, nameIndex := 5, descriptorIndex := 6, attributes := #[] }, { accessFlags := 16409, nameIndex := 9, descriptorIndex := 6, attributes := #[] }, { accessFlags := 16409, nameIndex := 12, descriptorIndex := 6, attributes := #[] }, { accessFlags := 16409, nameIndex := 15, descriptorIndex := 6, attributes := #[] }, { accessFlags := 16409, nameIndex := 18, descriptorIndex := 6, attributes := #[] }, { accessFlags := 18, nameIndex := 40, descriptorIndex := 41, attributes := #[] }, { accessFlags := 4122, nameIndex := 21, descriptorIndex := 22, attributes := #[] }])
  fields := #[{ name := "DENY", type := (.object "com/example/inner_gate/innergate/Answer"), accessFlags := 16409, slot := 0, constantValue := 0 }, { name := "BOGUS", type := (.object "com/example/inner_gate/innergate/Answer"), accessFlags := 16409, slot := 1, constantValue := 0 }, { name := "ASK", type := (.object "com/example/inner_gate/innergate/Answer"), accessFlags := 16409, slot := 2, constantValue := 0 }, { name := "ALLOW", type := (.object "com/example/inner_gate/innergate/Answer"), accessFlags := 16409, slot := 3, constantValue := 0 }, { name := "ABSTAIN", type := (.object "com/example/inner_gate/innergate/Answer"), accessFlags := 16409, slot := 4, constantValue := 0 }, { name := "word", type := (.object "java/lang/String"), accessFlags := 18, slot := 3, constantValue := 0 }, { name := "$VALUES", type := (.array (.object "com/example/inner_gate/innergate/Answer")), accessFlags := 4122, slot := 5, constantValue := 0 }]
  methods := #[]
  instanceTypes := #[(.object "java/lang/String"), .int, .int, (.object "java/lang/String")]
  staticTypes := #[(.object "com/example/inner_gate/innergate/Answer"), (.object "com/example/inner_gate/innergate/Answer"), (.object "com/example/inner_gate/innergate/Answer"), (.object "com/example/inner_gate/innergate/Answer"), (.object "com/example/inner_gate/innergate/Answer"), (.array (.object "com/example/inner_gate/innergate/Answer"))]
  resolved := Array.replicate 105 none
  statics := some 0 }

def pool7 : Array CpInfo := pool [(1, .class_ 2), (0, u "com/example/inner_gate/innergate/Decision$Reasons"), (0, .class_ 4), (0, u "java/lang/Object"), (5, .class_ 11), (0, u "com/example/inner_gate/innergate/Decision")] 2

/-- com/example/inner_gate/innergate/Decision$Reasons -/
def k7 : Class := { plain "com/example/inner_gate/innergate/Decision$Reasons" (some 0) with
  accessFlags := 1536
  interfaces := #[]
  cf := some (fileOf pool7 1 #[.nestHost 10] #[] 1536 3 #[] #[])
  fields := #[]
  methods := #[]
  instanceTypes := #[]
  staticTypes := #[]
  resolved := Array.replicate 14 none
  statics := none }

def pool8 : Array CpInfo := pool [(2, .class_ 4), (1, u "java/lang/Object"), (29, .class_ 36), (1, u "com/example/inner_gate/innergate/Stanza"), (0, u "allowedBelow64"), (0, u "J"), (34, u "listedFrom64"), (0, u "[I"), (2, u "allowsUnlisted"), (0, u "Z"), (8, u "allowReason"), (0, u "Ljava/lang/String;"), (2, u "denyReason"), (6, u "answerBelow64"), (0, u "(JI)Lcom/example/inner_gate/innergate/Answer;"), (6, .fieldref 107 108), (0, .class_ 109), (0, .nameAndType 110 111), (0, u "com/example/inner_gate/innergate/Answer"), (0, u "ALLOW"), (0, u "Lcom/example/inner_gate/innergate/Answer;"), (0, .fieldref 107 113), (0, .nameAndType 114 111), (0, u "DENY"), (9, .class_ 125), (0, u "com/example/inner_gate/innergate/Decision$Reasons"), (0, u "UNLISTED"), (0, u "I"), (18, .class_ 147), (0, u "com/example/inner_gate/innergate/Stanza$Builder")] 25

def k8c0 : Code := { maxStack := 4, maxLocals := 3, code := prog_52_method_5_code, exceptionTable := #[], attributes := #[] }
def k8m0 : Method := { name := "answerBelow64", desc := "(JI)Lcom/example/inner_gate/innergate/Answer;", sig := { parameters := [.long, .int], returnType := some (.object "com/example/inner_gate/innergate/Answer") }, accessFlags := 8, code := some k8c0 }
/-- com/example/inner_gate/innergate/Stanza -/
def k8 : Class := { plain "com/example/inner_gate/innergate/Stanza" (some 0) with
  accessFlags := 48
  interfaces := #[7]
  cf := some (fileOf pool8 34 #[.nestMembers #[146]] #[{ accessFlags := 8, nameIndex := 98, descriptorIndex := 99, attributes := #[] }] 48 2 #[124] #[{ accessFlags := 24, nameIndex := 126, descriptorIndex := 127, attributes := #[] }, { accessFlags := 18, nameIndex := 37, descriptorIndex := 38, attributes := #[] }, { accessFlags := 18, nameIndex := 73, descriptorIndex := 74, attributes := #[] }, { accessFlags := 18, nameIndex := 77, descriptorIndex := 78, attributes := #[] }, { accessFlags := 18, nameIndex := 87, descriptorIndex := 88, attributes := #[] }, { accessFlags := 18, nameIndex := 91, descriptorIndex := 88, attributes := #[] }])
  fields := #[{ name := "UNLISTED", type := .int, accessFlags := 24, slot := 0, constantValue := 0 }, { name := "allowedBelow64", type := .long, accessFlags := 18, slot := 0, constantValue := 0 }, { name := "listedFrom64", type := (.array .int), accessFlags := 18, slot := 1, constantValue := 0 }, { name := "allowsUnlisted", type := .boolean, accessFlags := 18, slot := 2, constantValue := 0 }, { name := "allowReason", type := (.object "java/lang/String"), accessFlags := 18, slot := 3, constantValue := 0 }, { name := "denyReason", type := (.object "java/lang/String"), accessFlags := 18, slot := 4, constantValue := 0 }]
  methods := #[k8m0]
  instanceTypes := #[.long, (.array .int), .boolean, (.object "java/lang/String"), (.object "java/lang/String")]
  staticTypes := #[.int]
  resolved := Array.replicate 173 none
  statics := none }

def pool9 : Array CpInfo := pool [(1, u "java/lang/Cloneable"), (0, .class_ 1), (0, u "java/lang/Object"), (0, .class_ 3)] 3

/-- java/lang/Cloneable -/
def k9 : Class := { plain "java/lang/Cloneable" (some 0) with
  accessFlags := 1537
  interfaces := #[]
  cf := some (fileOf pool9 2 #[] #[] 1537 4 #[] #[])
  fields := #[]
  methods := #[]
  instanceTypes := #[]
  staticTypes := #[]
  resolved := Array.replicate 8 none
  statics := none }

/-- the primitive byte -/
def k10 : Class := { plain "byte" none with kind := .primitive 'B', accessFlags := 0x411 }
/-- [B -/
def k11 : Class := { plain "[B" (some 0) with kind := .array 10 .byte, interfaces := #[9, 4], accessFlags := 1041 }

/-- the primitive int -/
def k12 : Class := { plain "int" none with kind := .primitive 'I', accessFlags := 0x411 }
/-- [I -/
def k13 : Class := { plain "[I" (some 0) with kind := .array 12 .int, interfaces := #[9, 4], accessFlags := 1041 }

def heap : Heap := #[{ cls := 6, slots := #[.ref 1, .null, .null, .ref 2, .null, .null], vm := .statics 6 },
  { cls := 6, slots := #[.null, .int 0, .int 0, .null], vm := .none },
  { cls := 6, slots := #[.null, .int 1, .int 0, .null], vm := .none }]
def classes : Array Class := #[k0, k1, k2, k3, k4, k5, k6, k7, k8, k9, k10, k11, k12, k13]
def interned : List (Array UInt16 × Addr) := []
def slotsUsed : Nat := 14
def theMethod : MethodId := ⟨1, 1⟩
def args0 : Array Value := #[.long 5, .int 3]
def aboutOver (below : List Frame) : State where
  vm := { classes := classes, interned := interned.toArray }
  heap := heap
  slotsUsed := slotsUsed
  threads := #[{ frames := .invoking theMethod args0 :: below }]
def below0 : List Frame := [.native { method := ⟨0, 0⟩, args := #[] }]
def about1 : State := aboutOver below0
def p0 : Program := .bare "" "" ""
def e0 : Env := launch0.env 0 0 0
theorem w_frames : about1.frames = Frame.invoking theMethod args0 :: below0 := rfl
set_option maxRecDepth 65536 in
theorem w_args : argsFit about1.vm theMethod args0 = true := by decide +kernel
set_option maxRecDepth 65536 in
theorem w_heap : heapFits about1 = true := by decide +kernel
set_option maxRecDepth 65536 in
theorem w_runnable : about1.curStatus? = some .runnable := by decide +kernel
set_option maxRecDepth 65536 in
theorem w_alone : about1.alone = true := by decide +kernel
set_option maxRecDepth 65536 in
theorem w_named : about1.methodNamed? x = some theMethod := by decide +kernel
set_option maxRecDepth 65536 in
theorem w_hears : about1.hears theMethod below0 = true := by decide +kernel
set_option maxRecDepth 65536 in
theorem w_ripe : about1.ripe theMethod args0 below0 = true := by decide +kernel
theorem w_running : about1.status = .running := rfl
set_option maxRecDepth 65536 in
theorem w_room : about1.hasRoom e0.platform room_1 = true :=
  launch0.hasRoom_least _ room_1 (by decide +kernel) (by decide +kernel) (by decide +kernel) (by decide +kernel) (by decide +kernel) (by decide +kernel)
theorem allAtoms_all (ts : List Jvm.Cond) (a : Array Jvm.Value) (st : Jvm.State) : (allAtoms ts).before a st = ts.all (fun c => c.before a st) := by
  induction ts with
  | nil => rfl
  | cons c t ih =>
    show (Jvm.Cond.and c (allAtoms t)).before a st = _
    rw [Jvm.Cond.before_and, ih, List.all_cons]
def words1 : List Jvm.Cond := Jvm.Cond.code x code maxLocals ret :: tables_1
/-- a 'code' word, met by the world's own term for the bytes: nothing is compared byte by byte -/
theorem code_word {y : MethodName} {bytes : ByteArray} {mx : Nat} {rt : Option FieldType} {a : Array Value} {s : State} {m : MethodId} {meth : Method} {c : Code} (h1 : s.methodNamed? y = some m) (h2 : s.vm.method? m = some meth) (h3 : meth.code = some c) (h4 : c.code = bytes)
    (h5 : (c.maxLocals == mx && c.exceptionTable.isEmpty && decide (c.maxStack ≤ mostOperands) && decide (meth.sig.returnType = rt) && !meth.locks && decide (parseMethodDescriptor y.desc = some meth.sig)) = true) : (Jvm.Cond.code y bytes mx rt).before a s = true := by
  simp only [Bool.and_eq_true, beq_iff_eq, Bool.not_eq_true', decide_eq_true_eq] at h5
  obtain ⟨⟨⟨⟨⟨g1, g2⟩, g3⟩, g4⟩, g5⟩, g6⟩ := h5
  simp [Cond.before, Cond.holds, Cond.value, h1, h2, h3, h4, g1, g2, g3, g4, g5, g6]
def isCode : Jvm.Cond → Bool
  | .code _ _ _ _ => true
  | _ => false
theorem all_split {L : List Jvm.Cond} {P : Jvm.Cond → Bool} (h1 : L.all (fun c => isCode c || P c) = true) (h2 : ∀ c ∈ L.filter isCode, P c = true) : L.all P = true := by
  refine List.all_eq_true.mpr fun c hc => ?_
  have h := List.all_eq_true.mp h1 c hc
  rcases Bool.eq_false_or_eq_true (isCode c) with hi | hi
  · exact h2 c (List.mem_filter.mpr ⟨hc, hi⟩)
  · simpa [hi] using h
set_option maxRecDepth 65536 in
theorem w_c0 : (Jvm.Cond.code x code maxLocals ret).before args0 about1 = true := code_word (m := ⟨1, 1⟩) (meth := k1m1) (c := k1c1) (by decide +kernel) rfl rfl rfl (by decide +kernel)
set_option maxRecDepth 65536 in
theorem w_c1 : (Jvm.Cond.code ({ cls := "com/example/inner_gate/innergate/Stanza", name := "answerBelow64", desc := "(JI)Lcom/example/inner_gate/innergate/Answer;" } : Jvm.MethodName) prog_52_method_5_code (3 : Nat) (Option.some (Jvm.ClassFile.FieldType.object "com/example/inner_gate/innergate/Answer"))).before args0 about1 = true := code_word (m := ⟨8, 0⟩) (meth := k8m0) (c := k8c0) (by decide +kernel) rfl rfl rfl (by decide +kernel)
def codes1 : List Jvm.Cond := [Jvm.Cond.code x code maxLocals ret, Jvm.Cond.code ({ cls := "com/example/inner_gate/innergate/Stanza", name := "answerBelow64", desc := "(JI)Lcom/example/inner_gate/innergate/Answer;" } : Jvm.MethodName) prog_52_method_5_code (3 : Nat) (Option.some (Jvm.ClassFile.FieldType.object "com/example/inner_gate/innergate/Answer"))]
set_option maxRecDepth 65536 in
theorem codes_eq : words1.filter isCode = codes1 := rfl
theorem w_codes : ∀ c ∈ words1.filter isCode, c.before args0 about1 = true := by
  rw [codes_eq]
  intro c hc
  simp only [codes1, List.mem_cons, List.not_mem_nil, or_false] at hc
  rcases hc with rfl | rfl
  · exact w_c0
  · exact w_c1
set_option maxRecDepth 65536 in
theorem w_t1 : words1.all (fun c => isCode c || c.before args0 about1) = true := by decide +kernel
theorem w_tables : (allAtoms (Jvm.Cond.code x code maxLocals ret :: tables_1)).before args0 about1 = true := by
  rw [allAtoms_all]
  show words1.all (fun c => c.before args0 about1) = true
  refine all_split ?_ w_codes
  rw [w_t1]
set_option maxRecDepth 65536 in
theorem w_case : (Jvm.Cond.and given_1 narrow_1).before args0 about1 = true := by decide +kernel
theorem w_applies : (headSpec (Jvm.Cond.code x code maxLocals ret :: tables_1) room_1).applies x e0.platform about1 = true :=
  (Spec.applies_iff w_frames).mpr ⟨w_running, w_runnable, w_alone, w_named, w_hears, w_ripe, w_room, w_tables⟩
theorem atStart : AtStart classFile x code maxLocals ret World_1 tables_1 room_1 Calls_1 rest_1 Pre_1 launch0 p0 e0 about1 theMethod args0 below0 :=
  ⟨lists_1, trivial, launch0.admits_env _ _ _, launch0.least_env, fairChoices_fair.cas, fairChoices_fair.clock, w_frames, w_args, w_heap, w_applies, trivial, trivial, w_case⟩
end start1
theorem witness_1 : WitnessClaimed_1 := ⟨start1.p0, start1.e0, start1.about1, start1.theMethod, start1.args0, start1.below0, start1.atStart⟩
end Jvm.Pilot.@@N@@
