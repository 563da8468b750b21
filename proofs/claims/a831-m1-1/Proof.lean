import JvmDerived
import JvmDerived.Pilot.@@N@@Statement
import JvmDerived.Pilot.@@N@@Code
set_option linter.unusedVariables false
set_option linter.unusedSimpArgs false
@@BLOCK:NumsL.lean.txt@@
namespace Jvm.Pilot.@@N@@
open Jvm Jvm.ClassFile Sem Op Lib Jvm.Free Jvm.Stand Jvm.LawKit Jvm.RoadKit Bundle Jvm.Pilot.@@N@@.Jvm.D
section Own
variable {p : Program} {l : Launch} {e : Env} {R : Room} {s Z : State} {m : MethodId} {args : Array Value} {below : List Frame} {meth : Method} {c : Code} {T : State} {locs : List Loc} {cells slots : Nat} {q : Option Value → Heap → List Loc → Prop}
/-- from U the run ends in a return, as q says -/
def own_Fin (p : Program) (e : Env) (below : List Frame) (s : State) (R : Room) (q : Option Value → Heap → List Loc → Prop) (U : State) : Prop :=
  ∃ s₂ o, Steps p.tables e below U s₂ ∧ s₂.status = .running ∧ Ended s₂ below o ∧ ∃ v L, o = .returned v ∧ q v s₂.heap L ∧ FrameEnd s o s₂ L R.cells R.slots
theorem own_to {U U' : State} (h : ∀ t, Steps p.tables e below U' t → Steps p.tables e below U t) (k : own_Fin p e below s R q U') : own_Fin p e below s R q U := by
  obtain ⟨s₂, o, h1, r⟩ := k
  exact ⟨s₂, o, h _ h1, r⟩
theorem own_ite {C : Prop} [Decidable C] {G : Int32 → State} {U : State} {v1 v0 : Int32} (k : own_Fin p e below s R q (G (if C then v1 else v0))) (h1 : C → own_Fin p e below s R q (G v1) → own_Fin p e below s R q U) (h0 : ¬ C → own_Fin p e below s R q (G v0) → own_Fin p e below s R q U) : own_Fin p e below s R q U := by
  by_cases h : C
  · rw [if_pos h] at k; exact h1 h k
  · rw [if_neg h] at k; exact h0 h k
theorem own_cut {U V : State} (k : own_Fin p e below s R q V) (h : own_Fin p e below s R q V → own_Fin p e below s R q U) : own_Fin p e below s R q U := h k
theorem own_retN (X : Stand p l e R s m args below meth c T locs cells slots) (hx : p.tables.exec = Jvm.exec) (hlk : meth.locks = false) {pc : Nat} {Ls : Array Slot} {z : Int32} {t : FieldType} {rest : List Value} (hret : meth.sig.returnType = some t) (ht : t = .boolean ∨ t = .byte ∨ t = .char ∨ t = .short) (hd : decode c.code pc = .ok (.ireturn, 1)) (hc : cells ≤ R.cells) (hs : slots ≤ R.slots) (hq : q (some (.int (nar t z))) T.heap locs) :
    own_Fin p e below s R q (T.setTop (mkF m pc Ls (.int z :: rest))) := by
  obtain ⟨fs, hr, hrun, hended, hW, hsame⟩ := X.leave (v := some (.int (nar t z))) (fun h => by rw [hret] at h; cases h)
  exact ⟨_, _, retN X hx hret ht hd hr, hrun, hended, _, _, rfl, hq, ⟨_, rfl⟩, hW, hsame.mono hc hs⟩
theorem own_retI (X : Stand p l e R s m args below meth c T locs cells slots) (hx : p.tables.exec = Jvm.exec) (hlk : meth.locks = false) {pc : Nat} {Ls : Array Slot} {z : Int32} {rest : List Value} (hret : meth.sig.returnType = some .int) (hd : decode c.code pc = .ok (.ireturn, 1)) (hc : cells ≤ R.cells) (hs : slots ≤ R.slots) (hq : q (some (.int z)) T.heap locs) :
    own_Fin p e below s R q (T.setTop (mkF m pc Ls (.int z :: rest))) := by
  obtain ⟨fs, hr, hrun, hended, hW, hsame⟩ := X.leave (v := some (.int z)) (fun h => by rw [hret] at h; cases h)
  exact ⟨_, _, retOut X hx hret rfl (Or.inl ⟨rfl, Or.inl rfl, z, rfl⟩) hd hr, hrun, hended, _, _, rfl, hq, ⟨_, rfl⟩, hW, hsame.mono hc hs⟩
theorem own_retJ (X : Stand p l e R s m args below meth c T locs cells slots) (hx : p.tables.exec = Jvm.exec) (hlk : meth.locks = false) {pc : Nat} {Ls : Array Slot} {z : Int64} {rest : List Value} (hret : meth.sig.returnType = some .long) (hd : decode c.code pc = .ok (.lreturn, 1)) (hc : cells ≤ R.cells) (hs : slots ≤ R.slots) (hq : q (some (.long z)) T.heap locs) :
    own_Fin p e below s R q (T.setTop (mkF m pc Ls (.long z :: rest))) := by
  obtain ⟨fs, hr, hrun, hended, hW, hsame⟩ := X.leave (v := some (.long z)) (fun h => by rw [hret] at h; cases h)
  exact ⟨_, _, retOut X hx hret rfl (Or.inr (Or.inl ⟨rfl, rfl, z, rfl⟩)) hd hr, hrun, hended, _, _, rfl, hq, ⟨_, rfl⟩, hW, hsame.mono hc hs⟩
theorem own_retR (X : Stand p l e R s m args below meth c T locs cells slots) (hx : p.tables.exec = Jvm.exec) (hlk : meth.locks = false) {pc : Nat} {Ls : Array Slot} {w : Value} {t : FieldType} {rest : List Value} (hret : meth.sig.returnType = some t) (ht : t.isReference = true) (hw : w.isRef = true) (hn : narrow t w = w) (hd : decode c.code pc = .ok (.areturn, 1)) (hc : cells ≤ R.cells) (hs : slots ≤ R.slots) (hq : q (some w) T.heap locs) :
    own_Fin p e below s R q (T.setTop (mkF m pc Ls (w :: rest))) := by
  obtain ⟨fs, hr, hrun, hended, hW, hsame⟩ := X.leave (v := some w) (fun h => by rw [hret] at h; cases h)
  exact ⟨_, _, retOut X hx hret hn (Or.inr (Or.inr (Or.inr (Or.inr ⟨rfl, ht, hw⟩)))) hd hr, hrun, hended, _, _, rfl, hq, ⟨_, rfl⟩, hW, hsame.mono hc hs⟩
theorem own_retV (X : Stand p l e R s m args below meth c T locs cells slots) (hx : p.tables.exec = Jvm.exec) (hlk : meth.locks = false) {pc : Nat} {Ls : Array Slot} (hret : meth.sig.returnType = none) (hd : decode c.code pc = .ok (.return_, 1)) (hc : cells ≤ R.cells) (hs : slots ≤ R.slots) (hq : q none T.heap locs) :
    own_Fin p e below s R q (T.setTop (mkF m pc Ls [])) := by
  obtain ⟨fs, hr, hrun, hended, hW, hsame⟩ := X.leave (v := none) (fun _ => rfl)
  exact ⟨_, _, X.returnOut hx hret hd hr, hrun, hended, _, _, rfl, hq, ⟨_, rfl⟩, hW, hsame.mono hc hs⟩
/-- the contract of a body at given arguments and a given heap -/
abbrev own_Met (l : Launch) (Z : State) (y : MethodName) (bytes : ByteArray) (maxL : Nat) (ret : Option FieldType) (ws : List Jvm.Cond) (rm : Room) (as' : Array Value) (h0 : Heap) (q : Option Value → Heap → List Loc → Prop) : Prop :=
  MetFree l y (head1 (Jvm.Cond.code y bytes maxL ret :: ws) rm) (fun a U => a = as' ∧ Z.Warmed39 U.vm ∧ U.heap = h0) (fun _ _ _ _ _ => True) (fun _ U o U' => ∃ v L, o = .returned v ∧ q v U'.heap L ∧ FrameEnd U o U' L rm.cells rm.slots)
theorem own_back {a0 : Array Value} {h : Heap} {y : MethodName} {bytes : ByteArray} {maxL : Nat} {ret : Option FieldType} {rm : Room} {len W : Nat} {as' : Array Value} (hM : own_Met l Z y bytes maxL ret [] rm as' h q)
    (hZ : Z.Warmed39 s.vm) (wc : (Jvm.Cond.code y bytes maxL ret).before a0 Z = true) (wz : (Jvm.Cond.initialized y.cls).before a0 Z = true) (hf : rm.frames + 1 ≤ R.frames) (hl : W + (maxL + 11) + rm.locals ≤ R.locals) :
    Back l R p e below s args y len W (fun A a => a = as' ∧ A.U.heap = h ∧ A.cells + rm.cells ≤ R.cells ∧ A.slots + rm.slots ≤ R.slots)
      (fun A _ v B => ∃ L, q v B.U.heap L ∧ B.locs = A.locs ++ L ∧ B.cells = A.cells + rm.cells ∧ B.slots = A.slots + rm.slots) := backOf (Q := q) hM hZ wc wz hf hl
theorem own_enter {y : MethodName} {bytes : ByteArray} {maxL : Nat} {ret : Option FieldType} {ws : List Jvm.Cond} {rm : Room} {as' : Array Value} {h0 : Heap} (hpl : plainFor y = true)
    (k : ∀ (p : Program) (e : Env) (s : State) (m : MethodId) (below : List Frame) (meth : Method) (c : Code) (s₁ : State), Stand p l e rm s m as' below meth c s₁ [] 0 0 → p.tables.exec = Jvm.exec → Z.Warmed39 s.vm → c.code = bytes → c.maxLocals = maxL → s.vm.findClass y.cls = some m.cls → meth.name = y.name → meth.sig.returnType = ret → meth.locks = false → s₁.heap = h0 → own_Fin p e below s rm q (s₁.setTop (entryFrame m as' maxL))) :
    own_Met l Z y bytes maxL ret ws rm as' h0 q := by
  refine MetFree.of_bodySF hpl hisR ?_
  intro p e s m args below meth c s₁ Bd hml0 hP hK
  obtain ⟨rfl, hZ, hh⟩ := hP
  exact k p e s m below meth c s₁ (Stand.of_body Bd) Bd.exec hZ Bd.bytes hml0 (findClass_of_methodNamed Bd.named) (name_of_methodNamed Bd.named Bd.method).1 Bd.returns Bd.notSynchronized (by rw [← hh, Bd.state]; rfl)
theorem own_selP {a : Array Value} {y y' : MethodName} (w : (Jvm.Cond.selects y'.cls y' y').before a s = true) (hc : y'.cls = y.cls) (hp : s.PrivateAt y) (hi : (Jvm.Cond.instanceMethod y).before a s = true) (hy : y.cls ≠ "java/lang/invoke/MethodHandle" ∧ y.cls ≠ "java/lang/invoke/VarHandle") : (Jvm.Cond.selects y.cls y y).before a s = true := by
  obtain ⟨c, r, m, h1, -, h3, -, mk, h4, h5⟩ := Cond.selects_spec w
  exact selects_self_of_private (c := m.cls) (k := mk) (hc ▸ findClass_of_methodNamed h3) h4 h5 hp hi hy
end Own
theorem own_split (x m : Int32) : x = (x &&& m) ||| (x &&& ~~~m) := by
  apply Int32.toBitVec_inj.mp
  simp only [Int32.toBitVec_or, Int32.toBitVec_and, Int32.toBitVec_not]
  ext i hi
  simp
  cases x.toBitVec[i] <;> cases m.toBitVec[i] <;> rfl
def own_f (p : Int32) : Int32 := if p < 0 then 0 else if p < 64 then 1 else 0
theorem own_63 (p : Int32) : (p &&& 63).toInt = p.toInt % 64 := Jvm.Kit.i32_mask p 63 (k := 6) (by decide) (by decide)
theorem own_a (p : Int32) (h : p &&& (-64 : Int32) = 0) : own_f p = 1 := by
  have e := own_split p (-64)
  rw [h, show (~~~(-64 : Int32)) = 63 from by decide, Int32.zero_or] at e
  have e2 := own_63 p
  rw [← e] at e2
  have h1 : ¬ p < 0 := by rw [Int32.lt_iff_toInt_lt, Int32.toInt_zero]; omega
  have h2 : p < 64 := by rw [Int32.lt_iff_toInt_lt, show (64 : Int32).toInt = 64 from by decide]; omega
  simp [own_f, h1, h2]
theorem own_b (p : Int32) (h : ¬ p &&& (-64 : Int32) = 0) : own_f p = 0 := by
  by_cases h1 : p < 0
  · simp [own_f, h1]
  by_cases h2 : p < 64
  · exfalso; apply h
    rw [Int32.lt_iff_toInt_lt, Int32.toInt_zero] at h1
    rw [Int32.lt_iff_toInt_lt, show (64 : Int32).toInt = 64 from by decide] at h2
    have e2 := own_63 p
    have e3 : p &&& 63 = p := Int32.toInt_inj.mp (by omega)
    rw [← e3, Int32.and_assoc, show (63 : Int32) &&& (-64 : Int32) = 0 from by decide, Int32.and_zero]
  · simp [own_f, h1, h2]
theorem own_d1_0 : decode prog_52_method_4_code 0 = .ok (.iload_n 0, 1) := by decide +kernel
theorem own_d1_1 : decode prog_52_method_4_code 1 = .ok (.ifCond .lt 13, 3) := by decide +kernel
theorem own_d1_4 : decode prog_52_method_4_code 4 = .ok (.iload_n 0, 1) := by decide +kernel
theorem own_d1_5 : decode prog_52_method_4_code 5 = .ok (.bipush 64, 2) := by decide +kernel
theorem own_d1_7 : decode prog_52_method_4_code 7 = .ok (.if_icmp .ge 7, 3) := by decide +kernel
theorem own_d1_10 : decode prog_52_method_4_code 10 = .ok (.iconst 1, 1) := by decide +kernel
theorem own_d1_11 : decode prog_52_method_4_code 11 = .ok (.goto 4, 3) := by decide +kernel
theorem own_d1_14 : decode prog_52_method_4_code 14 = .ok (.iconst 0, 1) := by decide +kernel
theorem own_d1_15 : decode prog_52_method_4_code 15 = .ok (.ireturn, 1) := by decide +kernel
theorem own_pn0 : plainName "com/example/inner_gate/innergate/Stanza" = true := by first | (simp [plainName, overriddenIn]; done) | decide +kernel
theorem own_rm1_ef (m : MethodId) (p1 : Int32) : entryFrame m #[(.int p1)] 1 = mkF m 0 #[.val (.int p1)] [] := by first | (simp [entryFrame, mkF, argsToLocals, Value.category]; done) | rfl
set_option maxRecDepth 65536 in
set_option maxHeartbeats 40000000 in
theorem own_rm1 (l : Launch) (Z : State) (a0 : Array Value) (hw : ∀ d ∈ tables_1, d.before a0 Z = true) (ws : List Jvm.Cond) (p1 : Int32) (h0 : Heap) (n0 : Nat) (Z0 : n0 ≤ h0.size) :
    own_Met l Z (⟨"com/example/inner_gate/innergate/Stanza", "isBelow64", "(I)Z"⟩ : MethodName) prog_52_method_4_code 1 (some .boolean) ws ({ frames := 0, cells := 0, slots := 0, locals := 0 } : Room) #[(.int p1)] h0 (fun v h L => v = some (.int (own_f p1)) ∧ Fr n0 L ∧ h = h0) := by
  refine own_enter (plainFor_of_name own_pn0) ?_
  intro p e s m below meth c s₁ X0 hx hZ hby hml hown hnm hret hlk e0
  have N0 := Fr.nil n0
  rw [own_rm1_ef m p1]
  show own_Fin _ _ _ _ _ _ (s₁.setTop (mkF m 0 #[.val (.int p1)] []))
  refine own_to (fun t k => XS.iloadN X0.here hx rfl (hb hby own_d1_0) rfl k) ?_
  show own_Fin _ _ _ _ _ _ (s₁.setTop (mkF m 1 #[.val (.int p1)] [(.int p1)]))
  by_cases hc1_1 : p1 < (0 : Int32)
  ·
    show own_Fin _ _ _ _ _ _ (s₁.setTop (mkF m 1 #[.val (.int p1)] [(.int p1)]))
    refine own_to (fun t k => XS.ifYes X0.here hx rfl (pc0 := 1) (pc' := 14) rfl (hb hby own_d1_1) rfl ((if0 _ _).trans (tlt hc1_1).1) (by decide) (by decide) k) ?_
    show own_Fin _ _ _ _ _ _ (s₁.setTop (mkF m 14 #[.val (.int p1)] []))
    refine own_to (fun t k => XS.iconst X0.here hx rfl (hb hby own_d1_14) k) ?_
    show own_Fin _ _ _ _ _ _ (s₁.setTop (mkF m 15 #[.val (.int p1)] [(.int (0 : Int32))]))
    refine own_retN X0 hx hlk (t := .boolean) hret (by simp) (hb hby own_d1_15) (by decide) (by decide) ?_
    try rw [e0]
    exact ⟨by rw [(by simp [own_f, hc1_1] : own_f p1 = (0 : Int32))]; rfl, N0, rfl⟩
  ·
    show own_Fin _ _ _ _ _ _ (s₁.setTop (mkF m 1 #[.val (.int p1)] [(.int p1)]))
    refine own_to (fun t k => XS.ifNo X0.here hx rfl (hb hby own_d1_1) rfl ((if0 _ _).trans (flt hc1_1).1) k) ?_
    show own_Fin _ _ _ _ _ _ (s₁.setTop (mkF m 4 #[.val (.int p1)] []))
    refine own_to (fun t k => XS.iloadN X0.here hx rfl (hb hby own_d1_4) rfl k) ?_
    show own_Fin _ _ _ _ _ _ (s₁.setTop (mkF m 5 #[.val (.int p1)] [(.int p1)]))
    refine own_to (fun t k => XS.bipush X0.here hx rfl (hb hby own_d1_5) k) ?_
    show own_Fin _ _ _ _ _ _ (s₁.setTop (mkF m 7 #[.val (.int p1)] [(.int (64 : Int32)), (.int p1)]))
    by_cases hc7_2 : p1 < (64 : Int32)
    ·
      show own_Fin _ _ _ _ _ _ (s₁.setTop (mkF m 7 #[.val (.int p1)] [(.int (64 : Int32)), (.int p1)]))
      refine own_to (fun t k => XS.icmpNo X0.here hx rfl (hb hby own_d1_7) rfl (tlt hc7_2).2.1 k) ?_
      show own_Fin _ _ _ _ _ _ (s₁.setTop (mkF m 10 #[.val (.int p1)] []))
      refine own_to (fun t k => XS.iconst X0.here hx rfl (hb hby own_d1_10) k) ?_
      show own_Fin _ _ _ _ _ _ (s₁.setTop (mkF m 11 #[.val (.int p1)] [(.int (1 : Int32))]))
      refine own_to (fun t k => XS.goto X0.here hx rfl (pc0 := 11) (pc' := 15) rfl (hb hby own_d1_11) (by decide) (by decide) k) ?_
      show own_Fin _ _ _ _ _ _ (s₁.setTop (mkF m 15 #[.val (.int p1)] [(.int (1 : Int32))]))
      refine own_retN X0 hx hlk (t := .boolean) hret (by simp) (hb hby own_d1_15) (by decide) (by decide) ?_
      try rw [e0]
      exact ⟨by rw [(by simp [own_f, hc1_1, hc7_2] : own_f p1 = (1 : Int32))]; rfl, N0, rfl⟩
    ·
      show own_Fin _ _ _ _ _ _ (s₁.setTop (mkF m 7 #[.val (.int p1)] [(.int (64 : Int32)), (.int p1)]))
      refine own_to (fun t k => XS.icmpYes X0.here hx rfl (pc0 := 7) (pc' := 14) rfl (hb hby own_d1_7) rfl (flt hc7_2).2.1 (by decide) (by decide) k) ?_
      show own_Fin _ _ _ _ _ _ (s₁.setTop (mkF m 14 #[.val (.int p1)] []))
      refine own_to (fun t k => XS.iconst X0.here hx rfl (hb hby own_d1_14) k) ?_
      show own_Fin _ _ _ _ _ _ (s₁.setTop (mkF m 15 #[.val (.int p1)] [(.int (0 : Int32))]))
      refine own_retN X0 hx hlk (t := .boolean) hret (by simp) (hb hby own_d1_15) (by decide) (by decide) ?_
      try rw [e0]
      exact ⟨by rw [(by simp [own_f, hc1_1, hc7_2] : own_f p1 = (0 : Int32))]; rfl, N0, rfl⟩
theorem own_pn1 : plainName "com/example/inner_gate/innergate/StanzaIsBelow64PinLaw" = true := by first | (simp [plainName, overriddenIn]; done) | decide +kernel
theorem own_pd0 : parseMethodDescriptor "(I)Z" = some ⟨[.int], some .boolean⟩ := by decide +kernel
theorem own_rm0_ef (m : MethodId) (p1 : Int32) : entryFrame m #[(.int p1)] maxLocals = mkF m 0 #[.val (.int p1), .unset] [] := by first | (simp [entryFrame, mkF, argsToLocals, Value.category, maxLocals]; done) | rfl
set_option maxRecDepth 65536 in
set_option maxHeartbeats 40000000 in
theorem own_rm0 (l : Launch) (Z : State) (a0 : Array Value) (hw : ∀ d ∈ tables_1, d.before a0 Z = true) (ws : List Jvm.Cond) (p1 : Int32) (h0 : Heap) (n0 : Nat) (Z0 : n0 ≤ h0.size) :
    own_Met l Z x code maxLocals ret ws room_1 #[(.int p1)] h0 (fun v h L => v = some (.int 1) ∧ Fr n0 L) := by
  refine own_enter (plainFor_of_name own_pn1) ?_
  intro p e s m below meth c s₁ X0 hx hZ hby hml hown hnm hret hlk e0
  have N0 := Fr.nil n0
  rw [own_rm0_ef m p1]
  show own_Fin _ _ _ _ _ _ (s₁.setTop (mkF m 0 #[.val (.int p1), .unset] []))
  refine own_to (fun t k => XS.iloadN X0.here hx rfl (hb hby at_0) rfl k) ?_
  show own_Fin _ _ _ _ _ _ (s₁.setTop (mkF m 1 #[.val (.int p1), .unset] [(.int p1)]))
  refine own_to (fun t k => XS.bipush X0.here hx rfl (hb hby at_1) k) ?_
  show own_Fin _ _ _ _ _ _ (s₁.setTop (mkF m 3 #[.val (.int p1), .unset] [(.int (-64 : Int32)), (.int p1)]))
  refine own_to (fun t k => XS.iand X0.here hx rfl (hb hby at_3) rfl k) ?_
  show own_Fin _ _ _ _ _ _ (s₁.setTop (mkF m 4 #[.val (.int p1), .unset] [(.int (p1 &&& (-64 : Int32)))]))
  by_cases hc4_3 : (p1 &&& (-64 : Int32)) = (0 : Int32)
  ·
    show own_Fin _ _ _ _ _ _ (s₁.setTop (mkF m 4 #[.val (.int p1), .unset] [(.int (p1 &&& (-64 : Int32)))]))
    refine own_to (fun t k => XS.ifNo X0.here hx rfl (hb hby at_4) rfl ((if0 _ _).trans (teq hc4_3).2) k) ?_
    show own_Fin _ _ _ _ _ _ (s₁.setTop (mkF m 7 #[.val (.int p1), .unset] []))
    refine own_to (fun t k => XS.iconst X0.here hx rfl (hb hby at_7) k) ?_
    show own_Fin _ _ _ _ _ _ (s₁.setTop (mkF m 8 #[.val (.int p1), .unset] [(.int (1 : Int32))]))
    refine own_to (fun t k => XS.goto X0.here hx rfl (pc0 := 8) (pc' := 12) rfl (hb hby at_8) (by decide) (by decide) k) ?_
    show own_Fin _ _ _ _ _ _ (s₁.setTop (mkF m 12 #[.val (.int p1), .unset] [(.int (1 : Int32))]))
    refine own_to (fun t k => XS.istoreN X0.here hx rfl (hb hby at_12) rfl (l' := #[.val (.int p1), .val (.int (1 : Int32))]) rfl k) ?_
    show own_Fin _ _ _ _ _ _ (s₁.setTop (mkF m 13 #[.val (.int p1), .val (.int (1 : Int32))] []))
    refine own_to (fun t k => XS.iloadN X0.here hx rfl (hb hby at_13) rfl k) ?_
    show own_Fin _ _ _ _ _ _ (s₁.setTop (mkF m 14 #[.val (.int p1), .val (.int (1 : Int32))] [(.int p1)]))
    have hf : own_f p1 = 1 := own_a p1 hc4_3
    obtain ⟨_, _, ⟨T4, L4, k4, n4⟩, -, X4, ⟨Lc4, hQ4, l4, y4, z4⟩, st4⟩ := Jvm.LawKit.callS X0 hx (y := (⟨"com/example/inner_gate/innergate/Stanza", "isBelow64", "(I)Z"⟩ : MethodName)) hown (mvT hZ (hw _ (List.mem_of_getElem? (i := 0) rfl))) (mvT hZ (hw _ (List.mem_of_getElem? (i := 1) rfl))) (mvT hZ (hw _ (List.mem_of_getElem? (i := 2) rfl))) (mvT hZ (hw _ (List.mem_of_getElem? (i := 3) rfl))) (by decide) (own_back (W := 0) (own_rm1 l Z a0 hw [] p1 h0 n0 Z0) hZ (hw _ (List.mem_of_getElem? (i := 3) rfl)) (hw _ (List.mem_of_getElem? (i := 2) rfl)) (by decide) (by decide)) (g := (mkF m 14 #[.val (.int p1), .val (.int (1 : Int32))] [(.int p1)])) rfl (by rw [hml]; rfl) (argsL := [(.int p1)]) (rest := []) (lenOf own_pd0 rfl) rfl (by show 2 * 0 + _ ≤ _; exact Nat.le_of_eq rfl) (hb hby at_14) (fun _ _ => ⟨rfl, e0, (by decide : 0 + 0 ≤ _), (by decide : 0 + 0 ≤ _)⟩)
    dsimp only [Pt.U, Pt.locs, Pt.cells, Pt.slots] at X4 l4 y4 z4 st4 hQ4
    subst l4 y4 z4
    obtain ⟨rfl, N4q, eh4⟩ := hQ4
    have N4 := Fr.app N0 N4q
    refine own_to (fun t k => st4 t k) ?_
    show own_Fin _ _ _ _ _ _ (T4.setTop (mkF m 17 #[.val (.int p1), .val (.int (1 : Int32))] [(.int (own_f p1))]))
    refine own_to (fun t k => XS.iloadN X4.here hx rfl (hb hby at_17) rfl k) ?_
    show own_Fin _ _ _ _ _ _ (T4.setTop (mkF m 18 #[.val (.int p1), .val (.int (1 : Int32))] [(.int (1 : Int32)), (.int (own_f p1))]))
    refine own_to (fun t k => XS.icmpNo X4.here hx rfl (hb hby at_18) rfl (teq hf).2 k) ?_
    show own_Fin _ _ _ _ _ _ (T4.setTop (mkF m 21 #[.val (.int p1), .val (.int (1 : Int32))] []))
    refine own_to (fun t k => XS.iconst X4.here hx rfl (hb hby at_21) k) ?_
    show own_Fin _ _ _ _ _ _ (T4.setTop (mkF m 22 #[.val (.int p1), .val (.int (1 : Int32))] [(.int (1 : Int32))]))
    refine own_to (fun t k => XS.goto X4.here hx rfl (pc0 := 22) (pc' := 26) rfl (hb hby at_22) (by decide) (by decide) k) ?_
    show own_Fin _ _ _ _ _ _ (T4.setTop (mkF m 26 #[.val (.int p1), .val (.int (1 : Int32))] [(.int (1 : Int32))]))
    refine own_retN X4 hx hlk (t := .boolean) hret (by simp) (hb hby at_26) (by decide) (by decide) ?_
    try rw [eh4]
    exact ⟨rfl, N4⟩
  ·
    show own_Fin _ _ _ _ _ _ (s₁.setTop (mkF m 4 #[.val (.int p1), .unset] [(.int (p1 &&& (-64 : Int32)))]))
    refine own_to (fun t k => XS.ifYes X0.here hx rfl (pc0 := 4) (pc' := 11) rfl (hb hby at_4) rfl ((if0 _ _).trans (feq hc4_3).2) (by decide) (by decide) k) ?_
    show own_Fin _ _ _ _ _ _ (s₁.setTop (mkF m 11 #[.val (.int p1), .unset] []))
    refine own_to (fun t k => XS.iconst X0.here hx rfl (hb hby at_11) k) ?_
    show own_Fin _ _ _ _ _ _ (s₁.setTop (mkF m 12 #[.val (.int p1), .unset] [(.int (0 : Int32))]))
    refine own_to (fun t k => XS.istoreN X0.here hx rfl (hb hby at_12) rfl (l' := #[.val (.int p1), .val (.int (0 : Int32))]) rfl k) ?_
    show own_Fin _ _ _ _ _ _ (s₁.setTop (mkF m 13 #[.val (.int p1), .val (.int (0 : Int32))] []))
    refine own_to (fun t k => XS.iloadN X0.here hx rfl (hb hby at_13) rfl k) ?_
    show own_Fin _ _ _ _ _ _ (s₁.setTop (mkF m 14 #[.val (.int p1), .val (.int (0 : Int32))] [(.int p1)]))
    have hf : own_f p1 = 0 := own_b p1 hc4_3
    obtain ⟨_, _, ⟨T5, L5, k5, n5⟩, -, X5, ⟨Lc5, hQ5, l5, y5, z5⟩, st5⟩ := Jvm.LawKit.callS X0 hx (y := (⟨"com/example/inner_gate/innergate/Stanza", "isBelow64", "(I)Z"⟩ : MethodName)) hown (mvT hZ (hw _ (List.mem_of_getElem? (i := 0) rfl))) (mvT hZ (hw _ (List.mem_of_getElem? (i := 1) rfl))) (mvT hZ (hw _ (List.mem_of_getElem? (i := 2) rfl))) (mvT hZ (hw _ (List.mem_of_getElem? (i := 3) rfl))) (by decide) (own_back (W := 0) (own_rm1 l Z a0 hw [] p1 h0 n0 Z0) hZ (hw _ (List.mem_of_getElem? (i := 3) rfl)) (hw _ (List.mem_of_getElem? (i := 2) rfl)) (by decide) (by decide)) (g := (mkF m 14 #[.val (.int p1), .val (.int (0 : Int32))] [(.int p1)])) rfl (by rw [hml]; rfl) (argsL := [(.int p1)]) (rest := []) (lenOf own_pd0 rfl) rfl (by show 2 * 0 + _ ≤ _; exact Nat.le_of_eq rfl) (hb hby at_14) (fun _ _ => ⟨rfl, e0, (by decide : 0 + 0 ≤ _), (by decide : 0 + 0 ≤ _)⟩)
    dsimp only [Pt.U, Pt.locs, Pt.cells, Pt.slots] at X5 l5 y5 z5 st5 hQ5
    subst l5 y5 z5
    obtain ⟨rfl, N5q, eh5⟩ := hQ5
    have N5 := Fr.app N0 N5q
    refine own_to (fun t k => st5 t k) ?_
    show own_Fin _ _ _ _ _ _ (T5.setTop (mkF m 17 #[.val (.int p1), .val (.int (0 : Int32))] [(.int (own_f p1))]))
    refine own_to (fun t k => XS.iloadN X5.here hx rfl (hb hby at_17) rfl k) ?_
    show own_Fin _ _ _ _ _ _ (T5.setTop (mkF m 18 #[.val (.int p1), .val (.int (0 : Int32))] [(.int (0 : Int32)), (.int (own_f p1))]))
    refine own_to (fun t k => XS.icmpNo X5.here hx rfl (hb hby at_18) rfl (teq hf).2 k) ?_
    show own_Fin _ _ _ _ _ _ (T5.setTop (mkF m 21 #[.val (.int p1), .val (.int (0 : Int32))] []))
    refine own_to (fun t k => XS.iconst X5.here hx rfl (hb hby at_21) k) ?_
    show own_Fin _ _ _ _ _ _ (T5.setTop (mkF m 22 #[.val (.int p1), .val (.int (0 : Int32))] [(.int (1 : Int32))]))
    refine own_to (fun t k => XS.goto X5.here hx rfl (pc0 := 22) (pc' := 26) rfl (hb hby at_22) (by decide) (by decide) k) ?_
    show own_Fin _ _ _ _ _ _ (T5.setTop (mkF m 26 #[.val (.int p1), .val (.int (0 : Int32))] [(.int (1 : Int32))]))
    refine own_retN X5 hx hlk (t := .boolean) hret (by simp) (hb hby at_26) (by decide) (by decide) ?_
    try rw [eh5]
    exact ⟨rfl, N5⟩
set_option maxRecDepth 65536 in
set_option maxHeartbeats 40000000 in
theorem comes_1 {Post : Tables → Env → Array Value → State → Outcome → State → Prop} (hpost : ∀ tb e args s v u, (limb_1_1.after args s (.returned v) u = true ∧ limb_1_2.after args s (.returned v) u = true ∧ True) → FrameEnd s (.returned v) u (Jvm.fieldLocs frame_1_writes args s ++ Jvm.arrayLocs frame_1_arrays args s ++ Jvm.staticLocs frame_1_statics s) 0 0 → Post tb e args s (.returned v) u) :
    ArmFor flags0 classFile x code maxLocals ret World_1 tables_1 room_1 Calls_1 rest_1 Pre_1 Post := by
  intro l hfl _ _ p e ha hc hk s m args below hf hA hF happ hP
  obtain ⟨hcalls, hrest, hpre⟩ := hP
  obtain ⟨-, -, -, hnamed, -, -, -, hat⟩ := (Spec.applies_iff hf).mp happ
  obtain ⟨hg, hn⟩ := and_e (Cond.before_iff.mp (show (Jvm.Cond.and given_1 narrow_1).before args s = true from hpre))
  obtain ⟨g1, g2⟩ := and_e hg
  obtain ⟨w0, rfl⟩ : ∃ w0 : Value, args = #[w0] := by
    have hs : args.size = 1 := by simpa [Cond.value, given_1] using g1
    obtain ⟨L⟩ := args
    match L, hs with
    | [w0], _ => exact ⟨w0, rfl⟩
  have hw := fun d (hd : d ∈ tables_1) => atoms_spec (ws := Jvm.Cond.code x code maxLocals ret :: tables_1) hat d (List.mem_cons_of_mem _ hd)
  have hfit : Fit s := fun {y c} hc i hi => by
    obtain ⟨ha, rfl⟩ := Array.getElem?_eq_some_iff.mp hc
    have q := List.all_eq_true.mp ((Array.all_eq_true_iff_forall_mem.mp hF) _ (Array.getElem_mem ha)) i (List.mem_range.mpr hi)
    simpa [Array.getElem?_eq_getElem hi] using q
  obtain ⟨i0, ei0⟩ := is_v g2
  obtain rfl : w0 = (.int i0) := Option.some.inj ei0
  obtain ⟨n, o, h1, h2, h3, _, L, rfl, ⟨rfl, N⟩, hq⟩ := own_rm0 l s _ hw tables_1 i0 s.heap s.heap.size (Nat.le_refl _) p e ha hc hk s m _ below hf ((Spec.applies_iff_loose hf).mp happ).1 ⟨rfl, State.Warmed39.refl s, rfl⟩ trivial
  refine ⟨n, _, h1, h2, h3, hpost _ _ _ _ _ _ ⟨Cond.after_iff.mpr rfl, Cond.after_iff.mpr (eq_i res_at (Term.int_eval (1)) rfl), trivial⟩ ⟨hq.1, hq.2.1, (hq.2.2.sift fun y hy => Or.inr (N y hy)).mono (by decide) (by decide)⟩⟩
theorem main_1_1 : Claimed_1_1 := comes_1 fun _ _ _ _ _ _ h hF => ⟨h.1, hF⟩
theorem main_1_2 : Claimed_1_2 := comes_1 fun _ _ _ _ _ _ h hF => ⟨h.2.1, hF⟩
end Jvm.Pilot.@@N@@
namespace Jvm.Pilot.@@N@@
open Jvm Jvm.ClassFile Sem Op Lib Jvm.Free Jvm.Stand Jvm.Pilot.@@N@@.Jvm.D
/-! MADE BY PROGRAM (witnessworld.py) out of the Statement's table words and the real class files: 10 classes; the members and pool entries that the words name. The judged class is class 1, her method 1. -/
namespace start1
open Jvm.ClassFile
def u (s : String) : CpInfo := .utf8 (stringToUtf16 s)
/-- a pool by its gaps: so many unusable entries, then the entry; so many at the end -/
def gap : Nat → List CpInfo → List CpInfo
  | 0, r => r
  | n + 1, r => .unusable :: gap n r
def poolList (es : List (Nat × CpInfo)) (last : Nat) : List CpInfo := es.foldr (fun e r => gap e.1 (e.2 :: r)) (gap last [])
def pool (es : List (Nat × CpInfo)) (last : Nat) : Array CpInfo := ⟨poolList es last⟩
def fileOf (pool : Array CpInfo) (this : Nat) (attrs : Array Attribute := #[]) (ms : Array MethodInfo := #[]) (fl : Nat := 33) (sup : Nat := 0) (ifs : Array Nat := #[]) (fds : Array FieldInfo := #[]) : ClassFile where
  minorVersion := 0
  majorVersion := 65
  constantPool := pool
  accessFlags := fl
  thisClass := this
  superClass := sup
  interfaces := ifs
  fields := fds
  methods := ms
  attributes := attrs
def plain (name : String) (sup : Option ClassId) : Class where
  name := name
  kind := .ordinary
  loader := none
  accessFlags := 33
  super := sup
  interfaces := #[]
  cf := none
  fields := #[]
  methods := #[]
  instanceTypes := #[]
  staticTypes := #[]
  resolved := #[]
  callSites := []
  init := .initialized
  statics := none
  mirror := none

def pool0 : Array CpInfo := pool [(5, u "<init>"), (0, u "()V"), (1, .class_ 10), (1, u "java/lang/Object")] 113

def k0m0 : Method := { name := "<init>", desc := "()V", sig := { parameters := [], returnType := none }, accessFlags := 1, code := none }
/-- java/lang/Object -/
def k0 : Class := { plain "java/lang/Object" none with
  accessFlags := 33
  interfaces := #[]
  cf := some (fileOf pool0 8 #[] #[{ accessFlags := 1, nameIndex := 5, descriptorIndex := 6, attributes := #[] }] 33 0 #[] #[])
  fields := #[]
  methods := #[k0m0]
  instanceTypes := #[]
  staticTypes := #[]
  resolved := Array.replicate 124 none
  statics := none }

def pool1 : Array CpInfo := pool [(2, .class_ 4), (1, u "java/lang/Object"), (0, u "<init>"), (0, u "()V"), (0, .methodref 8 9), (0, .class_ 10), (0, .nameAndType 11 12), (0, u "com/example/inner_gate/innergate/Stanza"), (0, u "isBelow64"), (0, u "(I)Z"), (0, .class_ 14), (0, u "com/example/inner_gate/innergate/StanzaIsBelow64PinLaw"), (2, u "law")] 3

def k1m0 : Method := { name := "<init>", desc := "()V", sig := { parameters := [], returnType := none }, accessFlags := 2, code := none }
def k1c1 : Code := { maxStack := 2, maxLocals := 2, code := code, exceptionTable := #[], attributes := #[] }
def k1m1 : Method := { name := "law", desc := "(I)Z", sig := { parameters := [.int], returnType := some .boolean }, accessFlags := 9, code := some k1c1 }
/-- com/example/inner_gate/innergate/StanzaIsBelow64PinLaw -/
def k1 : Class := { plain "com/example/inner_gate/innergate/StanzaIsBelow64PinLaw" (some 0) with
  accessFlags := 49
  interfaces := #[]
  cf := some (fileOf pool1 13 #[] #[{ accessFlags := 2, nameIndex := 5, descriptorIndex := 6, attributes := #[] }, { accessFlags := 9, nameIndex := 17, descriptorIndex := 12, attributes := #[] }] 49 2 #[] #[])
  fields := #[]
  methods := #[k1m0, k1m1]
  instanceTypes := #[]
  staticTypes := #[]
  resolved := Array.replicate 21 none
  statics := none }

def pool2 : Array CpInfo := pool [(1, .class_ 2), (0, u "com/example/inner_gate/innergate/Decision$Reasons"), (0, .class_ 4), (0, u "java/lang/Object"), (5, .class_ 11), (0, u "com/example/inner_gate/innergate/Decision")] 2

/-- com/example/inner_gate/innergate/Decision$Reasons -/
def k2 : Class := { plain "com/example/inner_gate/innergate/Decision$Reasons" (some 0) with
  accessFlags := 1536
  interfaces := #[]
  cf := some (fileOf pool2 1 #[.nestHost 10] #[] 1536 3 #[] #[])
  fields := #[]
  methods := #[]
  instanceTypes := #[]
  staticTypes := #[]
  resolved := Array.replicate 14 none
  statics := none }

def pool3 : Array CpInfo := pool [(2, .class_ 4), (1, u "java/lang/Object"), (29, .class_ 36), (1, u "com/example/inner_gate/innergate/Stanza"), (0, u "allowedBelow64"), (0, u "J"), (34, u "listedFrom64"), (0, u "[I"), (2, u "allowsUnlisted"), (0, u "Z"), (8, u "allowReason"), (0, u "Ljava/lang/String;"), (2, u "denyReason"), (2, u "isBelow64"), (0, u "(I)Z"), (28, .class_ 125), (0, u "com/example/inner_gate/innergate/Decision$Reasons"), (0, u "UNLISTED"), (0, u "I"), (18, .class_ 147), (0, u "com/example/inner_gate/innergate/Stanza$Builder")] 25

def k3c0 : Code := { maxStack := 2, maxLocals := 1, code := prog_52_method_4_code, exceptionTable := #[], attributes := #[] }
def k3m0 : Method := { name := "isBelow64", desc := "(I)Z", sig := { parameters := [.int], returnType := some .boolean }, accessFlags := 8, code := some k3c0 }
/-- com/example/inner_gate/innergate/Stanza -/
def k3 : Class := { plain "com/example/inner_gate/innergate/Stanza" (some 0) with
  accessFlags := 48
  interfaces := #[2]
  cf := some (fileOf pool3 34 #[.nestMembers #[146]] #[{ accessFlags := 8, nameIndex := 94, descriptorIndex := 95, attributes := #[] }] 48 2 #[124] #[{ accessFlags := 24, nameIndex := 126, descriptorIndex := 127, attributes := #[] }, { accessFlags := 18, nameIndex := 37, descriptorIndex := 38, attributes := #[] }, { accessFlags := 18, nameIndex := 73, descriptorIndex := 74, attributes := #[] }, { accessFlags := 18, nameIndex := 77, descriptorIndex := 78, attributes := #[] }, { accessFlags := 18, nameIndex := 87, descriptorIndex := 88, attributes := #[] }, { accessFlags := 18, nameIndex := 91, descriptorIndex := 88, attributes := #[] }])
  fields := #[{ name := "UNLISTED", type := .int, accessFlags := 24, slot := 0, constantValue := 0 }, { name := "allowedBelow64", type := .long, accessFlags := 18, slot := 0, constantValue := 0 }, { name := "listedFrom64", type := (.array .int), accessFlags := 18, slot := 1, constantValue := 0 }, { name := "allowsUnlisted", type := .boolean, accessFlags := 18, slot := 2, constantValue := 0 }, { name := "allowReason", type := (.object "java/lang/String"), accessFlags := 18, slot := 3, constantValue := 0 }, { name := "denyReason", type := (.object "java/lang/String"), accessFlags := 18, slot := 4, constantValue := 0 }]
  methods := #[k3m0]
  instanceTypes := #[.long, (.array .int), .boolean, (.object "java/lang/String"), (.object "java/lang/String")]
  staticTypes := #[.int]
  resolved := Array.replicate 173 none
  statics := none }

def pool4 : Array CpInfo := pool [(1, u "java/lang/Cloneable"), (0, .class_ 1), (0, u "java/lang/Object"), (0, .class_ 3)] 3

/-- java/lang/Cloneable -/
def k4 : Class := { plain "java/lang/Cloneable" (some 0) with
  accessFlags := 1537
  interfaces := #[]
  cf := some (fileOf pool4 2 #[] #[] 1537 4 #[] #[])
  fields := #[]
  methods := #[]
  instanceTypes := #[]
  staticTypes := #[]
  resolved := Array.replicate 8 none
  statics := none }

def pool5 : Array CpInfo := pool [(1, u "java/io/Serializable"), (0, .class_ 1), (0, u "java/lang/Object"), (0, .class_ 3)] 3

/-- java/io/Serializable -/
def k5 : Class := { plain "java/io/Serializable" (some 0) with
  accessFlags := 1537
  interfaces := #[]
  cf := some (fileOf pool5 2 #[] #[] 1537 4 #[] #[])
  fields := #[]
  methods := #[]
  instanceTypes := #[]
  staticTypes := #[]
  resolved := Array.replicate 8 none
  statics := none }

/-- the primitive byte -/
def k6 : Class := { plain "byte" none with kind := .primitive 'B', accessFlags := 0x411 }
/-- [B -/
def k7 : Class := { plain "[B" (some 0) with kind := .array 6 .byte, interfaces := #[4, 5], accessFlags := 1041 }

/-- the primitive int -/
def k8 : Class := { plain "int" none with kind := .primitive 'I', accessFlags := 0x411 }
/-- [I -/
def k9 : Class := { plain "[I" (some 0) with kind := .array 8 .int, interfaces := #[4, 5], accessFlags := 1041 }

def heap : Heap := #[]
def classes : Array Class := #[k0, k1, k2, k3, k4, k5, k6, k7, k8, k9]
def interned : List (Array UInt16 × Addr) := []
def slotsUsed : Nat := 0
def theMethod : MethodId := ⟨1, 1⟩
def args0 : Array Value := #[.int 5]
def aboutOver (below : List Frame) : State where
  vm := { classes := classes, interned := interned.toArray }
  heap := heap
  slotsUsed := slotsUsed
  threads := #[{ frames := .invoking theMethod args0 :: below }]
def below0 : List Frame := [.native { method := ⟨0, 0⟩, args := #[] }]
def about1 : State := aboutOver below0
def p0 : Program := .bare "" "" ""
def e0 : Env := launch0.env 0 0 0
theorem w_frames : about1.frames = Frame.invoking theMethod args0 :: below0 := rfl
set_option maxRecDepth 65536 in
theorem w_args : argsFit about1.vm theMethod args0 = true := by decide +kernel
set_option maxRecDepth 65536 in
theorem w_heap : heapFits about1 = true := by decide +kernel
set_option maxRecDepth 65536 in
theorem w_runnable : about1.curStatus? = some .runnable := by decide +kernel
set_option maxRecDepth 65536 in
theorem w_alone : about1.alone = true := by decide +kernel
set_option maxRecDepth 65536 in
theorem w_named : about1.methodNamed? x = some theMethod := by decide +kernel
set_option maxRecDepth 65536 in
theorem w_hears : about1.hears theMethod below0 = true := by decide +kernel
set_option maxRecDepth 65536 in
theorem w_ripe : about1.ripe theMethod args0 below0 = true := by decide +kernel
theorem w_running : about1.status = .running := rfl
set_option maxRecDepth 65536 in
theorem w_room : about1.hasRoom e0.platform room_1 = true :=
  launch0.hasRoom_least _ room_1 (by decide +kernel) (by decide +kernel) (by decide +kernel) (by decide +kernel) (by decide +kernel) (by decide +kernel)
theorem allAtoms_all (ts : List Jvm.Cond) (a : Array Jvm.Value) (st : Jvm.State) : (allAtoms ts).before a st = ts.all (fun c => c.before a st) := by
  induction ts with
  | nil => rfl
  | cons c t ih =>
    show (Jvm.Cond.and c (allAtoms t)).before a st = _
    rw [Jvm.Cond.before_and, ih, List.all_cons]
def words1 : List Jvm.Cond := Jvm.Cond.code x code maxLocals ret :: tables_1
/-- a 'code' word, met by the world's own term for the bytes: nothing is compared byte by byte -/
theorem code_word {y : MethodName} {bytes : ByteArray} {mx : Nat} {rt : Option FieldType} {a : Array Value} {s : State} {m : MethodId} {meth : Method} {c : Code} (h1 : s.methodNamed? y = some m) (h2 : s.vm.method? m = some meth) (h3 : meth.code = some c) (h4 : c.code = bytes)
    (h5 : (c.maxLocals == mx && c.exceptionTable.isEmpty && decide (c.maxStack ≤ mostOperands) && decide (meth.sig.returnType = rt) && !meth.locks && decide (parseMethodDescriptor y.desc = some meth.sig)) = true) : (Jvm.Cond.code y bytes mx rt).before a s = true := by
  simp only [Bool.and_eq_true, beq_iff_eq, Bool.not_eq_true', decide_eq_true_eq] at h5
  obtain ⟨⟨⟨⟨⟨g1, g2⟩, g3⟩, g4⟩, g5⟩, g6⟩ := h5
  simp [Cond.before, Cond.holds, Cond.value, h1, h2, h3, h4, g1, g2, g3, g4, g5, g6]
def isCode : Jvm.Cond → Bool
  | .code _ _ _ _ => true
  | _ => false
theorem all_split {L : List Jvm.Cond} {P : Jvm.Cond → Bool} (h1 : L.all (fun c => isCode c || P c) = true) (h2 : ∀ c ∈ L.filter isCode, P c = true) : L.all P = true := by
  refine List.all_eq_true.mpr fun c hc => ?_
  have h := List.all_eq_true.mp h1 c hc
  rcases Bool.eq_false_or_eq_true (isCode c) with hi | hi
  · exact h2 c (List.mem_filter.mpr ⟨hc, hi⟩)
  · simpa [hi] using h
set_option maxRecDepth 65536 in
theorem w_c0 : (Jvm.Cond.code x code maxLocals ret).before args0 about1 = true := code_word (m := ⟨1, 1⟩) (meth := k1m1) (c := k1c1) (by decide +kernel) rfl rfl rfl (by decide +kernel)
set_option maxRecDepth 65536 in
theorem w_c1 : (Jvm.Cond.code ({ cls := "com/example/inner_gate/innergate/Stanza", name := "isBelow64", desc := "(I)Z" } : Jvm.MethodName) prog_52_method_4_code (1 : Nat) (Option.some Jvm.ClassFile.FieldType.boolean)).before args0 about1 = true := code_word (m := ⟨3, 0⟩) (meth := k3m0) (c := k3c0) (by decide +kernel) rfl rfl rfl (by decide +kernel)
def codes1 : List Jvm.Cond := [Jvm.Cond.code x code maxLocals ret, Jvm.Cond.code ({ cls := "com/example/inner_gate/innergate/Stanza", name := "isBelow64", desc := "(I)Z" } : Jvm.MethodName) prog_52_method_4_code (1 : Nat) (Option.some Jvm.ClassFile.FieldType.boolean)]
set_option maxRecDepth 65536 in
theorem codes_eq : words1.filter isCode = codes1 := rfl
theorem w_codes : ∀ c ∈ words1.filter isCode, c.before args0 about1 = true := by
  rw [codes_eq]
  intro c hc
  simp only [codes1, List.mem_cons, List.not_mem_nil, or_false] at hc
  rcases hc with rfl | rfl
  · exact w_c0
  · exact w_c1
set_option maxRecDepth 65536 in
theorem w_t1 : words1.all (fun c => isCode c || c.before args0 about1) = true := by decide +kernel
theorem w_tables : (allAtoms (Jvm.Cond.code x code maxLocals ret :: tables_1)).before args0 about1 = true := by
  rw [allAtoms_all]
  show words1.all (fun c => c.before args0 about1) = true
  refine all_split ?_ w_codes
  rw [w_t1]
set_option maxRecDepth 65536 in
theorem w_case : (Jvm.Cond.and given_1 narrow_1).before args0 about1 = true := by decide +kernel
theorem w_applies : (headSpec (Jvm.Cond.code x code maxLocals ret :: tables_1) room_1).applies x e0.platform about1 = true :=
  (Spec.applies_iff w_frames).mpr ⟨w_running, w_runnable, w_alone, w_named, w_hears, w_ripe, w_room, w_tables⟩
theorem atStart : AtStart classFile x code maxLocals ret World_1 tables_1 room_1 Calls_1 rest_1 Pre_1 launch0 p0 e0 about1 theMethod args0 below0 :=
  ⟨lists_1, trivial, launch0.admits_env _ _ _, launch0.least_env, fairChoices_fair.cas, fairChoices_fair.clock, w_frames, w_args, w_heap, w_applies, trivial, trivial, w_case⟩
end start1
theorem witness_1 : WitnessClaimed_1 := ⟨start1.p0, start1.e0, start1.about1, start1.theMethod, start1.args0, start1.below0, start1.atStart⟩
end Jvm.Pilot.@@N@@
