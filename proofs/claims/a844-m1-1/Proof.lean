import JvmDerived
import JvmDerived.Pilot.@@N@@Statement
import JvmDerived.Pilot.@@N@@Code
set_option linter.unusedVariables false
set_option linter.unusedSimpArgs false
@@BLOCK:NumsL.lean.txt@@
namespace Jvm.Pilot.@@N@@
open Jvm Jvm.ClassFile Sem Op Lib Jvm.Free Jvm.Stand Jvm.LawKit Jvm.RoadKit Bundle Jvm.Pilot.@@N@@.Jvm.D
section Own
variable {p : Program} {l : Launch} {e : Env} {R : Room} {s Z : State} {m : MethodId} {args : Array Value} {below : List Frame} {meth : Method} {c : Code} {T : State} {locs : List Loc} {cells slots : Nat} {q : Option Value → Heap → List Loc → Prop}
/-- from U the run ends in a return, as q says -/
def own_Fin (p : Program) (e : Env) (below : List Frame) (s : State) (R : Room) (q : Option Value → Heap → List Loc → Prop) (U : State) : Prop :=
  ∃ s₂ o, Steps p.tables e below U s₂ ∧ s₂.status = .running ∧ Ended s₂ below o ∧ ∃ v L, o = .returned v ∧ q v s₂.heap L ∧ FrameEnd s o s₂ L R.cells R.slots
theorem own_to {U U' : State} (h : ∀ t, Steps p.tables e below U' t → Steps p.tables e below U t) (k : own_Fin p e below s R q U') : own_Fin p e below s R q U := by
  obtain ⟨s₂, o, h1, r⟩ := k
  exact ⟨s₂, o, h _ h1, r⟩
theorem own_ite {C : Prop} [Decidable C] {G : Int32 → State} {U : State} {v1 v0 : Int32} (k : own_Fin p e below s R q (G (if C then v1 else v0))) (h1 : C → own_Fin p e below s R q (G v1) → own_Fin p e below s R q U) (h0 : ¬ C → own_Fin p e below s R q (G v0) → own_Fin p e below s R q U) : own_Fin p e below s R q U := by
  by_cases h : C
  · rw [if_pos h] at k; exact h1 h k
  · rw [if_neg h] at k; exact h0 h k
theorem own_cut {U V : State} (k : own_Fin p e below s R q V) (h : own_Fin p e below s R q V → own_Fin p e below s R q U) : own_Fin p e below s R q U := h k
theorem own_retN (X : Stand p l e R s m args below meth c T locs cells slots) (hx : p.tables.exec = Jvm.exec) (hlk : meth.locks = false) {pc : Nat} {Ls : Array Slot} {z : Int32} {t : FieldType} {rest : List Value} (hret : meth.sig.returnType = some t) (ht : t = .boolean ∨ t = .byte ∨ t = .char ∨ t = .short) (hd : decode c.code pc = .ok (.ireturn, 1)) (hc : cells ≤ R.cells) (hs : slots ≤ R.slots) (hq : q (some (.int (nar t z))) T.heap locs) :
    own_Fin p e below s R q (T.setTop (mkF m pc Ls (.int z :: rest))) := by
  obtain ⟨fs, hr, hrun, hended, hW, hsame⟩ := X.leave (v := some (.int (nar t z))) (fun h => by rw [hret] at h; cases h)
  exact ⟨_, _, retN X hx hret ht hd hr, hrun, hended, _, _, rfl, hq, ⟨_, rfl⟩, hW, hsame.mono hc hs⟩
theorem own_retI (X : Stand p l e R s m args below meth c T locs cells slots) (hx : p.tables.exec = Jvm.exec) (hlk : meth.locks = false) {pc : Nat} {Ls : Array Slot} {z : Int32} {rest : List Value} (hret : meth.sig.returnType = some .int) (hd : decode c.code pc = .ok (.ireturn, 1)) (hc : cells ≤ R.cells) (hs : slots ≤ R.slots) (hq : q (some (.int z)) T.heap locs) :
    own_Fin p e below s R q (T.setTop (mkF m pc Ls (.int z :: rest))) := by
  obtain ⟨fs, hr, hrun, hended, hW, hsame⟩ := X.leave (v := some (.int z)) (fun h => by rw [hret] at h; cases h)
  exact ⟨_, _, retOut X hx hret rfl (Or.inl ⟨rfl, Or.inl rfl, z, rfl⟩) hd hr, hrun, hended, _, _, rfl, hq, ⟨_, rfl⟩, hW, hsame.mono hc hs⟩
theorem own_retJ (X : Stand p l e R s m args below meth c T locs cells slots) (hx : p.tables.exec = Jvm.exec) (hlk : meth.locks = false) {pc : Nat} {Ls : Array Slot} {z : Int64} {rest : List Value} (hret : meth.sig.returnType = some .long) (hd : decode c.code pc = .ok (.lreturn, 1)) (hc : cells ≤ R.cells) (hs : slots ≤ R.slots) (hq : q (some (.long z)) T.heap locs) :
    own_Fin p e below s R q (T.setTop (mkF m pc Ls (.long z :: rest))) := by
  obtain ⟨fs, hr, hrun, hended, hW, hsame⟩ := X.leave (v := some (.long z)) (fun h => by rw [hret] at h; cases h)
  exact ⟨_, _, retOut X hx hret rfl (Or.inr (Or.inl ⟨rfl, rfl, z, rfl⟩)) hd hr, hrun, hended, _, _, rfl, hq, ⟨_, rfl⟩, hW, hsame.mono hc hs⟩
theorem own_retR (X : Stand p l e R s m args below meth c T locs cells slots) (hx : p.tables.exec = Jvm.exec) (hlk : meth.locks = false) {pc : Nat} {Ls : Array Slot} {w : Value} {t : FieldType} {rest : List Value} (hret : meth.sig.returnType = some t) (ht : t.isReference = true) (hw : w.isRef = true) (hn : narrow t w = w) (hd : decode c.code pc = .ok (.areturn, 1)) (hc : cells ≤ R.cells) (hs : slots ≤ R.slots) (hq : q (some w) T.heap locs) :
    own_Fin p e below s R q (T.setTop (mkF m pc Ls (w :: rest))) := by
  obtain ⟨fs, hr, hrun, hended, hW, hsame⟩ := X.leave (v := some w) (fun h => by rw [hret] at h; cases h)
  exact ⟨_, _, retOut X hx hret hn (Or.inr (Or.inr (Or.inr (Or.inr ⟨rfl, ht, hw⟩)))) hd hr, hrun, hended, _, _, rfl, hq, ⟨_, rfl⟩, hW, hsame.mono hc hs⟩
theorem own_retV (X : Stand p l e R s m args below meth c T locs cells slots) (hx : p.tables.exec = Jvm.exec) (hlk : meth.locks = false) {pc : Nat} {Ls : Array Slot} (hret : meth.sig.returnType = none) (hd : decode c.code pc = .ok (.return_, 1)) (hc : cells ≤ R.cells) (hs : slots ≤ R.slots) (hq : q none T.heap locs) :
    own_Fin p e below s R q (T.setTop (mkF m pc Ls [])) := by
  obtain ⟨fs, hr, hrun, hended, hW, hsame⟩ := X.leave (v := none) (fun _ => rfl)
  exact ⟨_, _, X.returnOut hx hret hd hr, hrun, hended, _, _, rfl, hq, ⟨_, rfl⟩, hW, hsame.mono hc hs⟩
/-- the contract of a body at given arguments and a given heap -/
abbrev own_Met (l : Launch) (Z : State) (y : MethodName) (bytes : ByteArray) (maxL : Nat) (ret : Option FieldType) (ws : List Jvm.Cond) (rm : Room) (as' : Array Value) (h0 : Heap) (q : Option Value → Heap → List Loc → Prop) : Prop :=
  MetFree l y (head1 (Jvm.Cond.code y bytes maxL ret :: ws) rm) (fun a U => a = as' ∧ Z.Warmed39 U.vm ∧ U.heap = h0) (fun _ _ _ _ _ => True) (fun _ U o U' => ∃ v L, o = .returned v ∧ q v U'.heap L ∧ FrameEnd U o U' L rm.cells rm.slots)
theorem own_back {a0 : Array Value} {h : Heap} {y : MethodName} {bytes : ByteArray} {maxL : Nat} {ret : Option FieldType} {rm : Room} {len W : Nat} {as' : Array Value} (hM : own_Met l Z y bytes maxL ret [] rm as' h q)
    (hZ : Z.Warmed39 s.vm) (wc : (Jvm.Cond.code y bytes maxL ret).before a0 Z = true) (wz : (Jvm.Cond.initialized y.cls).before a0 Z = true) (hf : rm.frames + 1 ≤ R.frames) (hl : W + (maxL + 11) + rm.locals ≤ R.locals) :
    Back l R p e below s args y len W (fun A a => a = as' ∧ A.U.heap = h ∧ A.cells + rm.cells ≤ R.cells ∧ A.slots + rm.slots ≤ R.slots)
      (fun A _ v B => ∃ L, q v B.U.heap L ∧ B.locs = A.locs ++ L ∧ B.cells = A.cells + rm.cells ∧ B.slots = A.slots + rm.slots) := backOf (Q := q) hM hZ wc wz hf hl
theorem own_enter {y : MethodName} {bytes : ByteArray} {maxL : Nat} {ret : Option FieldType} {ws : List Jvm.Cond} {rm : Room} {as' : Array Value} {h0 : Heap} (hpl : plainFor y = true)
    (k : ∀ (p : Program) (e : Env) (s : State) (m : MethodId) (below : List Frame) (meth : Method) (c : Code) (s₁ : State), Stand p l e rm s m as' below meth c s₁ [] 0 0 → p.tables.exec = Jvm.exec → Z.Warmed39 s.vm → c.code = bytes → c.maxLocals = maxL → s.vm.findClass y.cls = some m.cls → meth.name = y.name → meth.sig.returnType = ret → meth.locks = false → s₁.heap = h0 → own_Fin p e below s rm q (s₁.setTop (entryFrame m as' maxL))) :
    own_Met l Z y bytes maxL ret ws rm as' h0 q := by
  refine MetFree.of_bodySF hpl hisR ?_
  intro p e s m args below meth c s₁ Bd hml0 hP hK
  obtain ⟨rfl, hZ, hh⟩ := hP
  exact k p e s m below meth c s₁ (Stand.of_body Bd) Bd.exec hZ Bd.bytes hml0 (findClass_of_methodNamed Bd.named) (name_of_methodNamed Bd.named Bd.method).1 Bd.returns Bd.notSynchronized (by rw [← hh, Bd.state]; rfl)
theorem own_selP {a : Array Value} {y y' : MethodName} (w : (Jvm.Cond.selects y'.cls y' y').before a s = true) (hc : y'.cls = y.cls) (hp : s.PrivateAt y) (hi : (Jvm.Cond.instanceMethod y).before a s = true) (hy : y.cls ≠ "java/lang/invoke/MethodHandle" ∧ y.cls ≠ "java/lang/invoke/VarHandle") : (Jvm.Cond.selects y.cls y y).before a s = true := by
  obtain ⟨c, r, m, h1, -, h3, -, mk, h4, h5⟩ := Cond.selects_spec w
  exact selects_self_of_private (c := m.cls) (k := mk) (hc ▸ findClass_of_methodNamed h3) h4 h5 hp hi hy
end Own
theorem own_lt32 (x y : Int32) : (x < y) = (x.toInt < y.toInt) := propext Int32.lt_iff_toInt_lt
theorem own_in0 {z : Int32} (h : ¬ z < (2 : Int32)) : (0 : Int32) < z := by
  rw [own_lt32, show (2 : Int32).toInt = 2 from by decide] at h; rw [own_lt32, Int32.toInt_zero]; omega
theorem own_in1 {z : Int32} (h : ¬ z < (2 : Int32)) : (1 : Int32) < z := by
  rw [own_lt32, show (2 : Int32).toInt = 2 from by decide] at h; rw [own_lt32, show (1 : Int32).toInt = 1 from by decide]; omega
theorem own_four (p : Int32) : (p &&& (3 : Int32)) = (0 : Int32) ∨ (p &&& (3 : Int32)) = (1 : Int32) ∨ (p &&& (3 : Int32)) = (2 : Int32) ∨ (p &&& (3 : Int32)) = (3 : Int32) := by
  have e : (p &&& 3).toInt = p.toInt % 2 ^ 2 := Jvm.Kit.i32_mask p 3 (k := 2) (by decide) (by decide)
  have h : p.toInt % 2 ^ 2 = 0 ∨ p.toInt % 2 ^ 2 = 1 ∨ p.toInt % 2 ^ 2 = 2 ∨ p.toInt % 2 ^ 2 = 3 := by omega
  rcases h with h | h | h | h
  · exact Or.inl (Int32.toInt_inj.mp (e.trans h))
  · exact Or.inr (Or.inl (Int32.toInt_inj.mp (e.trans h)))
  · exact Or.inr (Or.inr (Or.inl (Int32.toInt_inj.mp (e.trans h))))
  · exact Or.inr (Or.inr (Or.inr (Int32.toInt_inj.mp (e.trans h))))
def own_gz (z1 : Int32) (x0 : Int32) (x1 : Int32) : Int32 := (if z1 < (2 : Int32) then (0 : Int32) else (if (x0 &&& (255 : Int32)) = (31 : Int32) then (if (x1 &&& (255 : Int32)) = (139 : Int32) then (1 : Int32) else (0 : Int32)) else (0 : Int32)))
theorem own_d1_0 : decode prog_18_method_2_code 0 = .ok (.aload_n 0, 1) := by decide +kernel
theorem own_d1_1 : decode prog_18_method_2_code 1 = .ok (.arraylength, 1) := by decide +kernel
theorem own_d1_2 : decode prog_18_method_2_code 2 = .ok (.iconst 2, 1) := by decide +kernel
theorem own_d1_3 : decode prog_18_method_2_code 3 = .ok (.if_icmp .lt 32, 3) := by decide +kernel
theorem own_d1_6 : decode prog_18_method_2_code 6 = .ok (.aload_n 0, 1) := by decide +kernel
theorem own_d1_7 : decode prog_18_method_2_code 7 = .ok (.iconst 0, 1) := by decide +kernel
theorem own_d1_8 : decode prog_18_method_2_code 8 = .ok (.baload, 1) := by decide +kernel
theorem own_d1_9 : decode prog_18_method_2_code 9 = .ok (.sipush 255, 3) := by decide +kernel
theorem own_d1_12 : decode prog_18_method_2_code 12 = .ok (.iand, 1) := by decide +kernel
theorem own_d1_13 : decode prog_18_method_2_code 13 = .ok (.bipush 31, 2) := by decide +kernel
theorem own_d1_15 : decode prog_18_method_2_code 15 = .ok (.if_icmp .ne 20, 3) := by decide +kernel
theorem own_d1_18 : decode prog_18_method_2_code 18 = .ok (.aload_n 0, 1) := by decide +kernel
theorem own_d1_19 : decode prog_18_method_2_code 19 = .ok (.iconst 1, 1) := by decide +kernel
theorem own_d1_20 : decode prog_18_method_2_code 20 = .ok (.baload, 1) := by decide +kernel
theorem own_d1_21 : decode prog_18_method_2_code 21 = .ok (.sipush 255, 3) := by decide +kernel
theorem own_d1_24 : decode prog_18_method_2_code 24 = .ok (.iand, 1) := by decide +kernel
theorem own_d1_25 : decode prog_18_method_2_code 25 = .ok (.sipush 139, 3) := by decide +kernel
theorem own_d1_28 : decode prog_18_method_2_code 28 = .ok (.if_icmp .ne 7, 3) := by decide +kernel
theorem own_d1_31 : decode prog_18_method_2_code 31 = .ok (.iconst 1, 1) := by decide +kernel
theorem own_d1_32 : decode prog_18_method_2_code 32 = .ok (.goto 4, 3) := by decide +kernel
theorem own_d1_35 : decode prog_18_method_2_code 35 = .ok (.iconst 0, 1) := by decide +kernel
theorem own_d1_36 : decode prog_18_method_2_code 36 = .ok (.ireturn, 1) := by decide +kernel
theorem own_pn0 : plainName "com/example/walk_to_worth/walktoworth/io/GzipMembers" = true := by first | (simp [plainName, overriddenIn]; done) | decide +kernel
theorem own_rm1_ef (m : MethodId) (a1 : Addr) : entryFrame m #[(.ref a1)] 1 = mkF m 0 #[.val (.ref a1)] [] := by first | (simp [entryFrame, mkF, argsToLocals, Value.category]; done) | rfl
set_option maxRecDepth 65536 in
set_option maxHeartbeats 40000000 in
theorem own_rm1 (l : Launch) (Z : State) (a0 : Array Value) (hw : ∀ d ∈ tables_1, d.before a0 Z = true) (ws : List Jvm.Cond) (a1 : Addr) (cl : Cell) (z1 : Int32) (x0 : Int32) (x1 : Int32) (h0 : Heap) (n0 : Nat) (Z0 : n0 ≤ h0.size) (Ar : Arr Z h0 a1 cl .byte) (S1 : cl.slots.size = z1.toNatClampNeg) (M1 : ¬ z1 < 0) (hv : ¬ z1 < (2 : Int32) → cl.slots[((0 : Int32)).toNatClampNeg]? = some (.int x0) ∧ cl.slots[((1 : Int32)).toNatClampNeg]? = some (.int x1)) :
    own_Met l Z (⟨"com/example/walk_to_worth/walktoworth/io/GzipMembers", "isGzip", "([B)Z"⟩ : MethodName) prog_18_method_2_code 1 (some .boolean) ws ({ frames := 0, cells := 0, slots := 0, locals := 0 } : Room) #[(.ref a1)] h0 (fun v h L => v = some (.int (own_gz z1 x0 x1)) ∧ Fr n0 L ∧ h = h0) := by
  refine own_enter (plainFor_of_name own_pn0) ?_
  intro p e s m below meth c s₁ X0 hx hZ hby hml hown hnm hret hlk e0
  have N0 := Fr.nil n0
  rw [own_rm1_ef m a1]
  show own_Fin _ _ _ _ _ _ (s₁.setTop (mkF m 0 #[.val (.ref a1)] []))
  refine own_to (fun t k => XS.aloadN X0.here hx rfl (hb hby own_d1_0) rfl rfl k) ?_
  show own_Fin _ _ _ _ _ _ (s₁.setTop (mkF m 1 #[.val (.ref a1)] [(.ref a1)]))
  refine own_to (fun t k => X0.arraylength hx (by rw [e0]; exact Ar.1) (State.isArrayOf_alike hZ.alike Ar.2.1) (g := (mkF m 1 #[.val (.ref a1)] [(.ref a1)])) rfl rfl (hb hby own_d1_1) _ k) ?_
  rw [len_of S1 M1]
  show own_Fin _ _ _ _ _ _ (s₁.setTop (mkF m 2 #[.val (.ref a1)] [(.int z1)]))
  refine own_to (fun t k => XS.iconst X0.here hx rfl (hb hby own_d1_2) k) ?_
  show own_Fin _ _ _ _ _ _ (s₁.setTop (mkF m 3 #[.val (.ref a1)] [(.int (2 : Int32)), (.int z1)]))
  by_cases hc3_1 : z1 < (2 : Int32)
  ·
    show own_Fin _ _ _ _ _ _ (s₁.setTop (mkF m 3 #[.val (.ref a1)] [(.int (2 : Int32)), (.int z1)]))
    refine own_to (fun t k => XS.icmpYes X0.here hx rfl (pc0 := 3) (pc' := 35) rfl (hb hby own_d1_3) rfl (tlt hc3_1).1 (by decide) (by decide) k) ?_
    show own_Fin _ _ _ _ _ _ (s₁.setTop (mkF m 35 #[.val (.ref a1)] []))
    refine own_to (fun t k => XS.iconst X0.here hx rfl (hb hby own_d1_35) k) ?_
    show own_Fin _ _ _ _ _ _ (s₁.setTop (mkF m 36 #[.val (.ref a1)] [(.int (0 : Int32))]))
    refine own_retN X0 hx hlk (t := .boolean) hret (by simp) (hb hby own_d1_36) (by decide) (by decide) ?_
    try rw [e0]
    exact ⟨congrArg (fun z => some (Value.int z)) (Eq.symm (show own_gz z1 x0 x1 = _ from ((if_pos hc3_1).trans rfl))), N0, rfl⟩
  ·
    show own_Fin _ _ _ _ _ _ (s₁.setTop (mkF m 3 #[.val (.ref a1)] [(.int (2 : Int32)), (.int z1)]))
    refine own_to (fun t k => XS.icmpNo X0.here hx rfl (hb hby own_d1_3) rfl (flt hc3_1).1 k) ?_
    show own_Fin _ _ _ _ _ _ (s₁.setTop (mkF m 6 #[.val (.ref a1)] []))
    refine own_to (fun t k => XS.aloadN X0.here hx rfl (hb hby own_d1_6) rfl rfl k) ?_
    show own_Fin _ _ _ _ _ _ (s₁.setTop (mkF m 7 #[.val (.ref a1)] [(.ref a1)]))
    refine own_to (fun t k => XS.iconst X0.here hx rfl (hb hby own_d1_7) k) ?_
    show own_Fin _ _ _ _ _ _ (s₁.setTop (mkF m 8 #[.val (.ref a1)] [(.int (0 : Int32)), (.ref a1)]))
    have hin2 : ¬ ((0 : Int32) < 0 ∨ cl.slots.size ≤ ((0 : Int32)).toNatClampNeg) := inb_of S1 ⟨by decide, own_in0 hc3_1⟩
    refine own_to (fun t k => X0.baloadBytes hx (j := (0 : Int32)) (v := (.int x0)) (by rw [e0]; exact Ar.1) (State.isArrayOf_alike hZ.alike Ar.2.1) Ar.2.2 hin2 (hv hc3_1).1 (g := (mkF m 8 #[.val (.ref a1)] [(.int (0 : Int32)), (.ref a1)])) rfl rfl (hb hby own_d1_8) _ k) ?_
    show own_Fin _ _ _ _ _ _ (s₁.setTop (mkF m 9 #[.val (.ref a1)] [(.int x0)]))
    refine own_to (fun t k => XS.sipush X0.here hx rfl (hb hby own_d1_9) k) ?_
    show own_Fin _ _ _ _ _ _ (s₁.setTop (mkF m 12 #[.val (.ref a1)] [(.int (255 : Int32)), (.int x0)]))
    refine own_to (fun t k => XS.iand X0.here hx rfl (hb hby own_d1_12) rfl k) ?_
    show own_Fin _ _ _ _ _ _ (s₁.setTop (mkF m 13 #[.val (.ref a1)] [(.int (x0 &&& (255 : Int32)))]))
    refine own_to (fun t k => XS.bipush X0.here hx rfl (hb hby own_d1_13) k) ?_
    show own_Fin _ _ _ _ _ _ (s₁.setTop (mkF m 15 #[.val (.ref a1)] [(.int (31 : Int32)), (.int (x0 &&& (255 : Int32)))]))
    by_cases hc15_3 : (x0 &&& (255 : Int32)) = (31 : Int32)
    ·
      show own_Fin _ _ _ _ _ _ (s₁.setTop (mkF m 15 #[.val (.ref a1)] [(.int (31 : Int32)), (.int (x0 &&& (255 : Int32)))]))
      refine own_to (fun t k => XS.icmpNo X0.here hx rfl (hb hby own_d1_15) rfl (teq hc15_3).2 k) ?_
      show own_Fin _ _ _ _ _ _ (s₁.setTop (mkF m 18 #[.val (.ref a1)] []))
      refine own_to (fun t k => XS.aloadN X0.here hx rfl (hb hby own_d1_18) rfl rfl k) ?_
      show own_Fin _ _ _ _ _ _ (s₁.setTop (mkF m 19 #[.val (.ref a1)] [(.ref a1)]))
      refine own_to (fun t k => XS.iconst X0.here hx rfl (hb hby own_d1_19) k) ?_
      show own_Fin _ _ _ _ _ _ (s₁.setTop (mkF m 20 #[.val (.ref a1)] [(.int (1 : Int32)), (.ref a1)]))
      have hin4 : ¬ ((1 : Int32) < 0 ∨ cl.slots.size ≤ ((1 : Int32)).toNatClampNeg) := inb_of S1 ⟨by decide, own_in1 hc3_1⟩
      refine own_to (fun t k => X0.baloadBytes hx (j := (1 : Int32)) (v := (.int x1)) (by rw [e0]; exact Ar.1) (State.isArrayOf_alike hZ.alike Ar.2.1) Ar.2.2 hin4 (hv hc3_1).2 (g := (mkF m 20 #[.val (.ref a1)] [(.int (1 : Int32)), (.ref a1)])) rfl rfl (hb hby own_d1_20) _ k) ?_
      show own_Fin _ _ _ _ _ _ (s₁.setTop (mkF m 21 #[.val (.ref a1)] [(.int x1)]))
      refine own_to (fun t k => XS.sipush X0.here hx rfl (hb hby own_d1_21) k) ?_
      show own_Fin _ _ _ _ _ _ (s₁.setTop (mkF m 24 #[.val (.ref a1)] [(.int (255 : Int32)), (.int x1)]))
      refine own_to (fun t k => XS.iand X0.here hx rfl (hb hby own_d1_24) rfl k) ?_
      show own_Fin _ _ _ _ _ _ (s₁.setTop (mkF m 25 #[.val (.ref a1)] [(.int (x1 &&& (255 : Int32)))]))
      refine own_to (fun t k => XS.sipush X0.here hx rfl (hb hby own_d1_25) k) ?_
      show own_Fin _ _ _ _ _ _ (s₁.setTop (mkF m 28 #[.val (.ref a1)] [(.int (139 : Int32)), (.int (x1 &&& (255 : Int32)))]))
      by_cases hc28_5 : (x1 &&& (255 : Int32)) = (139 : Int32)
      ·
        show own_Fin _ _ _ _ _ _ (s₁.setTop (mkF m 28 #[.val (.ref a1)] [(.int (139 : Int32)), (.int (x1 &&& (255 : Int32)))]))
        refine own_to (fun t k => XS.icmpNo X0.here hx rfl (hb hby own_d1_28) rfl (teq hc28_5).2 k) ?_
        show own_Fin _ _ _ _ _ _ (s₁.setTop (mkF m 31 #[.val (.ref a1)] []))
        refine own_to (fun t k => XS.iconst X0.here hx rfl (hb hby own_d1_31) k) ?_
        show own_Fin _ _ _ _ _ _ (s₁.setTop (mkF m 32 #[.val (.ref a1)] [(.int (1 : Int32))]))
        refine own_to (fun t k => XS.goto X0.here hx rfl (pc0 := 32) (pc' := 36) rfl (hb hby own_d1_32) (by decide) (by decide) k) ?_
        show own_Fin _ _ _ _ _ _ (s₁.setTop (mkF m 36 #[.val (.ref a1)] [(.int (1 : Int32))]))
        refine own_retN X0 hx hlk (t := .boolean) hret (by simp) (hb hby own_d1_36) (by decide) (by decide) ?_
        try rw [e0]
        exact ⟨congrArg (fun z => some (Value.int z)) (Eq.symm (show own_gz z1 x0 x1 = _ from ((if_neg hc3_1).trans ((if_pos hc15_3).trans ((if_pos hc28_5).trans rfl))))), N0, rfl⟩
      ·
        show own_Fin _ _ _ _ _ _ (s₁.setTop (mkF m 28 #[.val (.ref a1)] [(.int (139 : Int32)), (.int (x1 &&& (255 : Int32)))]))
        refine own_to (fun t k => XS.icmpYes X0.here hx rfl (pc0 := 28) (pc' := 35) rfl (hb hby own_d1_28) rfl (feq hc28_5).2 (by decide) (by decide) k) ?_
        show own_Fin _ _ _ _ _ _ (s₁.setTop (mkF m 35 #[.val (.ref a1)] []))
        refine own_to (fun t k => XS.iconst X0.here hx rfl (hb hby own_d1_35) k) ?_
        show own_Fin _ _ _ _ _ _ (s₁.setTop (mkF m 36 #[.val (.ref a1)] [(.int (0 : Int32))]))
        refine own_retN X0 hx hlk (t := .boolean) hret (by simp) (hb hby own_d1_36) (by decide) (by decide) ?_
        try rw [e0]
        exact ⟨congrArg (fun z => some (Value.int z)) (Eq.symm (show own_gz z1 x0 x1 = _ from ((if_neg hc3_1).trans ((if_pos hc15_3).trans ((if_neg hc28_5).trans rfl))))), N0, rfl⟩
    ·
      show own_Fin _ _ _ _ _ _ (s₁.setTop (mkF m 15 #[.val (.ref a1)] [(.int (31 : Int32)), (.int (x0 &&& (255 : Int32)))]))
      refine own_to (fun t k => XS.icmpYes X0.here hx rfl (pc0 := 15) (pc' := 35) rfl (hb hby own_d1_15) rfl (feq hc15_3).2 (by decide) (by decide) k) ?_
      show own_Fin _ _ _ _ _ _ (s₁.setTop (mkF m 35 #[.val (.ref a1)] []))
      refine own_to (fun t k => XS.iconst X0.here hx rfl (hb hby own_d1_35) k) ?_
      show own_Fin _ _ _ _ _ _ (s₁.setTop (mkF m 36 #[.val (.ref a1)] [(.int (0 : Int32))]))
      refine own_retN X0 hx hlk (t := .boolean) hret (by simp) (hb hby own_d1_36) (by decide) (by decide) ?_
      try rw [e0]
      exact ⟨congrArg (fun z => some (Value.int z)) (Eq.symm (show own_gz z1 x0 x1 = _ from ((if_neg hc3_1).trans ((if_neg hc15_3).trans rfl)))), N0, rfl⟩
theorem own_pn1 : plainName "com/example/walk_to_worth/walktoworth/io/GzipMembersIsGzipPinLaw" = true := by first | (simp [plainName, overriddenIn]; done) | decide +kernel
theorem own_pd0 : parseMethodDescriptor "([B)Z" = some ⟨[(.array .byte)], some .boolean⟩ := by decide +kernel
def own_x0 (p1 : Int32) (p2 : Int32) : Int32 := (if (p1 &&& (4 : Int32)) = (0 : Int32) then (p2.toInt8.toInt32) else (31 : Int32))
def own_x1 (p1 : Int32) (p3 : Int32) : Int32 := (if (p1 &&& (8 : Int32)) = (0 : Int32) then (p3.toInt8.toInt32) else (-117 : Int32))
def own_e2 (p1 : Int32) (p2 : Int32) (p3 : Int32) : Int32 := (if (own_x0 p1 p2) = (31 : Int32) then (if (own_x1 p1 p3) = (-117 : Int32) then (1 : Int32) else (0 : Int32)) else (0 : Int32))
def own_e3 (p1 : Int32) (p2 : Int32) (p3 : Int32) : Int32 := (if (own_x0 p1 p2) = (31 : Int32) then (if (own_x1 p1 p3) = (-117 : Int32) then (1 : Int32) else (0 : Int32)) else (0 : Int32))
theorem own_idem (y : Int32) : (y.toInt8.toInt32).toInt8.toInt32 = y.toInt8.toInt32 := by rw [Int8.toInt8_toInt32]
theorem own_x0n (p q : Int32) : nar .byte (own_x0 p q) = own_x0 p q := by
  show (own_x0 p q).toInt8.toInt32 = own_x0 p q
  unfold own_x0
  split
  · exact own_idem q
  · decide
theorem own_x1n (p q : Int32) : nar .byte (own_x1 p q) = own_x1 p q := by
  show (own_x1 p q).toInt8.toInt32 = own_x1 p q
  unfold own_x1
  split
  · exact own_idem q
  · decide
theorem own_rng {x : Int32} (h : x.toInt8.toInt32 = x) : -128 ≤ x.toInt ∧ x.toInt < 128 := by
  rw [← h, Int8.toInt_toInt32]
  have a := x.toInt8.le_toInt; have b := x.toInt8.toInt_lt
  omega
theorem own_m255 (x : Int32) : (x &&& (255 : Int32)).toInt = x.toInt % 2 ^ 8 := Jvm.Kit.i32_mask x 255 (k := 8) (by decide) (by decide)
theorem own_q31 {x : Int32} (h : x.toInt8.toInt32 = x) : ((x &&& (255 : Int32)) = 31) = (x = 31) := by
  have r := own_rng h
  apply propext
  rw [← Int32.toInt_inj, ← Int32.toInt_inj, own_m255, show (31 : Int32).toInt = 31 from by decide]
  omega
theorem own_q139 {x : Int32} (h : x.toInt8.toInt32 = x) : ((x &&& (255 : Int32)) = 139) = (x = -117) := by
  have r := own_rng h
  apply propext
  rw [← Int32.toInt_inj, ← Int32.toInt_inj, own_m255, show (139 : Int32).toInt = 139 from by decide, show (-117 : Int32).toInt = -117 from by decide]
  omega
theorem own_m0 (a b : Int32) : own_gz 0 a b = 0 := by unfold own_gz; rw [if_pos (by decide)]
theorem own_m1 (a b : Int32) : own_gz 1 a b = 0 := by unfold own_gz; rw [if_pos (by decide)]
theorem own_mm (z a b : Int32) (hz : ¬ z < 2) (ha : a.toInt8.toInt32 = a) (hb : b.toInt8.toInt32 = b) : own_gz z a b = if a = 31 then (if b = -117 then 1 else 0) else 0 := by
  unfold own_gz
  rw [if_neg hz]
  simp only [own_q31 ha, own_q139 hb]
theorem own_m2 (p q r : Int32) : own_gz 2 (nar .byte (own_x0 p q)) (nar .byte (own_x1 p r)) = own_e2 p q r := by
  rw [own_x0n, own_x1n, own_mm 2 _ _ (by decide) (own_x0n p q) (own_x1n p r)]; rfl
theorem own_m3 (p q r : Int32) : own_gz 3 (nar .byte (own_x0 p q)) (nar .byte (own_x1 p r)) = own_e3 p q r := by
  rw [own_x0n, own_x1n, own_mm 3 _ _ (by decide) (own_x0n p q) (own_x1n p r)]; rfl
theorem own_rm0_ef (m : MethodId) (p1 : Int32) (p2 : Int32) (p3 : Int32) (p4 : Int32) : entryFrame m #[(.int p1), (.int p2), (.int p3), (.int p4)] maxLocals = mkF m 0 #[.val (.int p1), .val (.int p2), .val (.int p3), .val (.int p4), .unset, .unset, .unset, .unset, .unset, .unset] [] := by first | (simp [entryFrame, mkF, argsToLocals, Value.category, maxLocals]; done) | rfl
set_option maxRecDepth 65536 in
set_option maxHeartbeats 40000000 in
theorem own_rm0 (l : Launch) (Z : State) (a0 : Array Value) (hw : ∀ d ∈ tables_1, d.before a0 Z = true) (ws : List Jvm.Cond) (p1 : Int32) (p2 : Int32) (p3 : Int32) (p4 : Int32) (h0 : Heap) (n0 : Nat) (Z0 : n0 ≤ h0.size) :
    own_Met l Z x code maxLocals ret ws room_1 #[(.int p1), (.int p2), (.int p3), (.int p4)] h0 (fun v h L => v = some (.int 1) ∧ Fr n0 L) := by
  refine own_enter (plainFor_of_name own_pn1) ?_
  intro p e s m below meth c s₁ X0 hx hZ hby hml hown hnm hret hlk e0
  have N0 := Fr.nil n0
  rw [own_rm0_ef m p1 p2 p3 p4]
  show own_Fin _ _ _ _ _ _ (s₁.setTop (mkF m 0 #[.val (.int p1), .val (.int p2), .val (.int p3), .val (.int p4), .unset, .unset, .unset, .unset, .unset, .unset] []))
  refine own_to (fun t k => XS.iloadN X0.here hx rfl (hb hby at_0) rfl k) ?_
  show own_Fin _ _ _ _ _ _ (s₁.setTop (mkF m 1 #[.val (.int p1), .val (.int p2), .val (.int p3), .val (.int p4), .unset, .unset, .unset, .unset, .unset, .unset] [(.int p1)]))
  refine own_to (fun t k => XS.iconst X0.here hx rfl (hb hby at_1) k) ?_
  show own_Fin _ _ _ _ _ _ (s₁.setTop (mkF m 2 #[.val (.int p1), .val (.int p2), .val (.int p3), .val (.int p4), .unset, .unset, .unset, .unset, .unset, .unset] [(.int (3 : Int32)), (.int p1)]))
  refine own_to (fun t k => XS.iand X0.here hx rfl (hb hby at_2) rfl k) ?_
  show own_Fin _ _ _ _ _ _ (s₁.setTop (mkF m 3 #[.val (.int p1), .val (.int p2), .val (.int p3), .val (.int p4), .unset, .unset, .unset, .unset, .unset, .unset] [(.int (p1 &&& (3 : Int32)))]))
  refine own_to (fun t k => XS.istore X0.here hx rfl (hb hby at_3) rfl (l' := #[.val (.int p1), .val (.int p2), .val (.int p3), .val (.int p4), .val (.int (p1 &&& (3 : Int32))), .unset, .unset, .unset, .unset, .unset]) rfl k) ?_
  show own_Fin _ _ _ _ _ _ (s₁.setTop (mkF m 5 #[.val (.int p1), .val (.int p2), .val (.int p3), .val (.int p4), .val (.int (p1 &&& (3 : Int32))), .unset, .unset, .unset, .unset, .unset] []))
  refine own_to (fun t k => XS.iloadN X0.here hx rfl (hb hby at_5) rfl k) ?_
  show own_Fin _ _ _ _ _ _ (s₁.setTop (mkF m 6 #[.val (.int p1), .val (.int p2), .val (.int p3), .val (.int p4), .val (.int (p1 &&& (3 : Int32))), .unset, .unset, .unset, .unset, .unset] [(.int p1)]))
  refine own_to (fun t k => XS.iconst X0.here hx rfl (hb hby at_6) k) ?_
  show own_Fin _ _ _ _ _ _ (s₁.setTop (mkF m 7 #[.val (.int p1), .val (.int p2), .val (.int p3), .val (.int p4), .val (.int (p1 &&& (3 : Int32))), .unset, .unset, .unset, .unset, .unset] [(.int (4 : Int32)), (.int p1)]))
  refine own_to (fun t k => XS.iand X0.here hx rfl (hb hby at_7) rfl k) ?_
  show own_Fin _ _ _ _ _ _ (s₁.setTop (mkF m 8 #[.val (.int p1), .val (.int p2), .val (.int p3), .val (.int p4), .val (.int (p1 &&& (3 : Int32))), .unset, .unset, .unset, .unset, .unset] [(.int (p1 &&& (4 : Int32)))]))
  refine own_cut (V := s₁.setTop (mkF m 18 #[.val (.int p1), .val (.int p2), .val (.int p3), .val (.int p4), .val (.int (p1 &&& (3 : Int32))), .unset, .unset, .unset, .unset, .unset] [(.int (own_x0 p1 p2))])) ?_ (fun J => ?_)
  rotate_left
  ·
    show own_Fin _ _ _ _ _ _ (s₁.setTop (mkF m 8 #[.val (.int p1), .val (.int p2), .val (.int p3), .val (.int p4), .val (.int (p1 &&& (3 : Int32))), .unset, .unset, .unset, .unset, .unset] [(.int (p1 &&& (4 : Int32)))]))
    by_cases hc8_6 : (p1 &&& (4 : Int32)) = (0 : Int32)
    ·
      show own_Fin _ _ _ _ _ _ (s₁.setTop (mkF m 8 #[.val (.int p1), .val (.int p2), .val (.int p3), .val (.int p4), .val (.int (p1 &&& (3 : Int32))), .unset, .unset, .unset, .unset, .unset] [(.int (p1 &&& (4 : Int32)))]))
      refine own_to (fun t k => XS.ifYes X0.here hx rfl (pc0 := 8) (pc' := 16) rfl (hb hby at_8) rfl ((if0 _ _).trans (teq hc8_6).1) (by decide) (by decide) k) ?_
      show own_Fin _ _ _ _ _ _ (s₁.setTop (mkF m 16 #[.val (.int p1), .val (.int p2), .val (.int p3), .val (.int p4), .val (.int (p1 &&& (3 : Int32))), .unset, .unset, .unset, .unset, .unset] []))
      refine own_to (fun t k => XS.iloadN X0.here hx rfl (hb hby at_16) rfl k) ?_
      show own_Fin _ _ _ _ _ _ (s₁.setTop (mkF m 17 #[.val (.int p1), .val (.int p2), .val (.int p3), .val (.int p4), .val (.int (p1 &&& (3 : Int32))), .unset, .unset, .unset, .unset, .unset] [(.int p2)]))
      refine own_to (fun t k => XS.i2b X0.here hx rfl (hb hby at_17) rfl k) ?_
      show own_Fin _ _ _ _ _ _ (s₁.setTop (mkF m 18 #[.val (.int p1), .val (.int p2), .val (.int p3), .val (.int p4), .val (.int (p1 &&& (3 : Int32))), .unset, .unset, .unset, .unset, .unset] [(.int (p2.toInt8.toInt32))]))
      rw [(show (own_x0 p1 p2) = _ from ((if_pos hc8_6).trans rfl))] at J
      exact J
    ·
      show own_Fin _ _ _ _ _ _ (s₁.setTop (mkF m 8 #[.val (.int p1), .val (.int p2), .val (.int p3), .val (.int p4), .val (.int (p1 &&& (3 : Int32))), .unset, .unset, .unset, .unset, .unset] [(.int (p1 &&& (4 : Int32)))]))
      refine own_to (fun t k => XS.ifNo X0.here hx rfl (hb hby at_8) rfl ((if0 _ _).trans (feq hc8_6).1) k) ?_
      show own_Fin _ _ _ _ _ _ (s₁.setTop (mkF m 11 #[.val (.int p1), .val (.int p2), .val (.int p3), .val (.int p4), .val (.int (p1 &&& (3 : Int32))), .unset, .unset, .unset, .unset, .unset] []))
      refine own_to (fun t k => XS.bipush X0.here hx rfl (hb hby at_11) k) ?_
      show own_Fin _ _ _ _ _ _ (s₁.setTop (mkF m 13 #[.val (.int p1), .val (.int p2), .val (.int p3), .val (.int p4), .val (.int (p1 &&& (3 : Int32))), .unset, .unset, .unset, .unset, .unset] [(.int (31 : Int32))]))
      refine own_to (fun t k => XS.goto X0.here hx rfl (pc0 := 13) (pc' := 18) rfl (hb hby at_13) (by decide) (by decide) k) ?_
      show own_Fin _ _ _ _ _ _ (s₁.setTop (mkF m 18 #[.val (.int p1), .val (.int p2), .val (.int p3), .val (.int p4), .val (.int (p1 &&& (3 : Int32))), .unset, .unset, .unset, .unset, .unset] [(.int (31 : Int32))]))
      rw [(show (own_x0 p1 p2) = _ from ((if_neg hc8_6).trans rfl))] at J
      exact J
  show own_Fin _ _ _ _ _ _ (s₁.setTop (mkF m 18 #[.val (.int p1), .val (.int p2), .val (.int p3), .val (.int p4), .val (.int (p1 &&& (3 : Int32))), .unset, .unset, .unset, .unset, .unset] [(.int (own_x0 p1 p2))]))
  refine own_to (fun t k => XS.istore X0.here hx rfl (hb hby at_18) rfl (l' := #[.val (.int p1), .val (.int p2), .val (.int p3), .val (.int p4), .val (.int (p1 &&& (3 : Int32))), .val (.int (own_x0 p1 p2)), .unset, .unset, .unset, .unset]) rfl k) ?_
  show own_Fin _ _ _ _ _ _ (s₁.setTop (mkF m 20 #[.val (.int p1), .val (.int p2), .val (.int p3), .val (.int p4), .val (.int (p1 &&& (3 : Int32))), .val (.int (own_x0 p1 p2)), .unset, .unset, .unset, .unset] []))
  refine own_to (fun t k => XS.iloadN X0.here hx rfl (hb hby at_20) rfl k) ?_
  show own_Fin _ _ _ _ _ _ (s₁.setTop (mkF m 21 #[.val (.int p1), .val (.int p2), .val (.int p3), .val (.int p4), .val (.int (p1 &&& (3 : Int32))), .val (.int (own_x0 p1 p2)), .unset, .unset, .unset, .unset] [(.int p1)]))
  refine own_to (fun t k => XS.bipush X0.here hx rfl (hb hby at_21) k) ?_
  show own_Fin _ _ _ _ _ _ (s₁.setTop (mkF m 23 #[.val (.int p1), .val (.int p2), .val (.int p3), .val (.int p4), .val (.int (p1 &&& (3 : Int32))), .val (.int (own_x0 p1 p2)), .unset, .unset, .unset, .unset] [(.int (8 : Int32)), (.int p1)]))
  refine own_to (fun t k => XS.iand X0.here hx rfl (hb hby at_23) rfl k) ?_
  show own_Fin _ _ _ _ _ _ (s₁.setTop (mkF m 24 #[.val (.int p1), .val (.int p2), .val (.int p3), .val (.int p4), .val (.int (p1 &&& (3 : Int32))), .val (.int (own_x0 p1 p2)), .unset, .unset, .unset, .unset] [(.int (p1 &&& (8 : Int32)))]))
  refine own_cut (V := s₁.setTop (mkF m 34 #[.val (.int p1), .val (.int p2), .val (.int p3), .val (.int p4), .val (.int (p1 &&& (3 : Int32))), .val (.int (own_x0 p1 p2)), .unset, .unset, .unset, .unset] [(.int (own_x1 p1 p3))])) ?_ (fun J => ?_)
  rotate_left
  ·
    show own_Fin _ _ _ _ _ _ (s₁.setTop (mkF m 24 #[.val (.int p1), .val (.int p2), .val (.int p3), .val (.int p4), .val (.int (p1 &&& (3 : Int32))), .val (.int (own_x0 p1 p2)), .unset, .unset, .unset, .unset] [(.int (p1 &&& (8 : Int32)))]))
    by_cases hc24_7 : (p1 &&& (8 : Int32)) = (0 : Int32)
    ·
      show own_Fin _ _ _ _ _ _ (s₁.setTop (mkF m 24 #[.val (.int p1), .val (.int p2), .val (.int p3), .val (.int p4), .val (.int (p1 &&& (3 : Int32))), .val (.int (own_x0 p1 p2)), .unset, .unset, .unset, .unset] [(.int (p1 &&& (8 : Int32)))]))
      refine own_to (fun t k => XS.ifYes X0.here hx rfl (pc0 := 24) (pc' := 32) rfl (hb hby at_24) rfl ((if0 _ _).trans (teq hc24_7).1) (by decide) (by decide) k) ?_
      show own_Fin _ _ _ _ _ _ (s₁.setTop (mkF m 32 #[.val (.int p1), .val (.int p2), .val (.int p3), .val (.int p4), .val (.int (p1 &&& (3 : Int32))), .val (.int (own_x0 p1 p2)), .unset, .unset, .unset, .unset] []))
      refine own_to (fun t k => XS.iloadN X0.here hx rfl (hb hby at_32) rfl k) ?_
      show own_Fin _ _ _ _ _ _ (s₁.setTop (mkF m 33 #[.val (.int p1), .val (.int p2), .val (.int p3), .val (.int p4), .val (.int (p1 &&& (3 : Int32))), .val (.int (own_x0 p1 p2)), .unset, .unset, .unset, .unset] [(.int p3)]))
      refine own_to (fun t k => XS.i2b X0.here hx rfl (hb hby at_33) rfl k) ?_
      show own_Fin _ _ _ _ _ _ (s₁.setTop (mkF m 34 #[.val (.int p1), .val (.int p2), .val (.int p3), .val (.int p4), .val (.int (p1 &&& (3 : Int32))), .val (.int (own_x0 p1 p2)), .unset, .unset, .unset, .unset] [(.int (p3.toInt8.toInt32))]))
      rw [(show (own_x1 p1 p3) = _ from ((if_pos hc24_7).trans rfl))] at J
      exact J
    ·
      show own_Fin _ _ _ _ _ _ (s₁.setTop (mkF m 24 #[.val (.int p1), .val (.int p2), .val (.int p3), .val (.int p4), .val (.int (p1 &&& (3 : Int32))), .val (.int (own_x0 p1 p2)), .unset, .unset, .unset, .unset] [(.int (p1 &&& (8 : Int32)))]))
      refine own_to (fun t k => XS.ifNo X0.here hx rfl (hb hby at_24) rfl ((if0 _ _).trans (feq hc24_7).1) k) ?_
      show own_Fin _ _ _ _ _ _ (s₁.setTop (mkF m 27 #[.val (.int p1), .val (.int p2), .val (.int p3), .val (.int p4), .val (.int (p1 &&& (3 : Int32))), .val (.int (own_x0 p1 p2)), .unset, .unset, .unset, .unset] []))
      refine own_to (fun t k => XS.bipush X0.here hx rfl (hb hby at_27) k) ?_
      show own_Fin _ _ _ _ _ _ (s₁.setTop (mkF m 29 #[.val (.int p1), .val (.int p2), .val (.int p3), .val (.int p4), .val (.int (p1 &&& (3 : Int32))), .val (.int (own_x0 p1 p2)), .unset, .unset, .unset, .unset] [(.int (-117 : Int32))]))
      refine own_to (fun t k => XS.goto X0.here hx rfl (pc0 := 29) (pc' := 34) rfl (hb hby at_29) (by decide) (by decide) k) ?_
      show own_Fin _ _ _ _ _ _ (s₁.setTop (mkF m 34 #[.val (.int p1), .val (.int p2), .val (.int p3), .val (.int p4), .val (.int (p1 &&& (3 : Int32))), .val (.int (own_x0 p1 p2)), .unset, .unset, .unset, .unset] [(.int (-117 : Int32))]))
      rw [(show (own_x1 p1 p3) = _ from ((if_neg hc24_7).trans rfl))] at J
      exact J
  show own_Fin _ _ _ _ _ _ (s₁.setTop (mkF m 34 #[.val (.int p1), .val (.int p2), .val (.int p3), .val (.int p4), .val (.int (p1 &&& (3 : Int32))), .val (.int (own_x0 p1 p2)), .unset, .unset, .unset, .unset] [(.int (own_x1 p1 p3))]))
  refine own_to (fun t k => XS.istore X0.here hx rfl (hb hby at_34) rfl (l' := #[.val (.int p1), .val (.int p2), .val (.int p3), .val (.int p4), .val (.int (p1 &&& (3 : Int32))), .val (.int (own_x0 p1 p2)), .val (.int (own_x1 p1 p3)), .unset, .unset, .unset]) rfl k) ?_
  show own_Fin _ _ _ _ _ _ (s₁.setTop (mkF m 36 #[.val (.int p1), .val (.int p2), .val (.int p3), .val (.int p4), .val (.int (p1 &&& (3 : Int32))), .val (.int (own_x0 p1 p2)), .val (.int (own_x1 p1 p3)), .unset, .unset, .unset] []))
  refine own_to (fun t k => XS.iloadN X0.here hx rfl (hb hby at_36) rfl k) ?_
  show own_Fin _ _ _ _ _ _ (s₁.setTop (mkF m 37 #[.val (.int p1), .val (.int p2), .val (.int p3), .val (.int p4), .val (.int (p1 &&& (3 : Int32))), .val (.int (own_x0 p1 p2)), .val (.int (own_x1 p1 p3)), .unset, .unset, .unset] [(.int p4)]))
  refine own_to (fun t k => XS.i2b X0.here hx rfl (hb hby at_37) rfl k) ?_
  show own_Fin _ _ _ _ _ _ (s₁.setTop (mkF m 38 #[.val (.int p1), .val (.int p2), .val (.int p3), .val (.int p4), .val (.int (p1 &&& (3 : Int32))), .val (.int (own_x0 p1 p2)), .val (.int (own_x1 p1 p3)), .unset, .unset, .unset] [(.int (p4.toInt8.toInt32))]))
  refine own_to (fun t k => XS.istore X0.here hx rfl (hb hby at_38) rfl (l' := #[.val (.int p1), .val (.int p2), .val (.int p3), .val (.int p4), .val (.int (p1 &&& (3 : Int32))), .val (.int (own_x0 p1 p2)), .val (.int (own_x1 p1 p3)), .val (.int (p4.toInt8.toInt32)), .unset, .unset]) rfl k) ?_
  show own_Fin _ _ _ _ _ _ (s₁.setTop (mkF m 40 #[.val (.int p1), .val (.int p2), .val (.int p3), .val (.int p4), .val (.int (p1 &&& (3 : Int32))), .val (.int (own_x0 p1 p2)), .val (.int (own_x1 p1 p3)), .val (.int (p4.toInt8.toInt32)), .unset, .unset] []))
  refine own_to (fun t k => XS.iload X0.here hx rfl (hb hby at_40) rfl k) ?_
  show own_Fin _ _ _ _ _ _ (s₁.setTop (mkF m 42 #[.val (.int p1), .val (.int p2), .val (.int p3), .val (.int p4), .val (.int (p1 &&& (3 : Int32))), .val (.int (own_x0 p1 p2)), .val (.int (own_x1 p1 p3)), .val (.int (p4.toInt8.toInt32)), .unset, .unset] [(.int (p1 &&& (3 : Int32)))]))
  rcases own_four p1 with hl | hl | hl | hl
  ·
    rw [hl]
    show own_Fin _ _ _ _ _ _ (s₁.setTop (mkF m 42 #[.val (.int p1), .val (.int p2), .val (.int p3), .val (.int p4), .val (.int (0 : Int32)), .val (.int (own_x0 p1 p2)), .val (.int (own_x1 p1 p3)), .val (.int (p4.toInt8.toInt32)), .unset, .unset] [(.int (0 : Int32))]))
    obtain ⟨T8, h8, k8, X8, e8, E8, A8, A8x, st8⟩ := newPE X0 hx hZ (hw _ (List.mem_of_getElem? (i := 0) rfl)) e0 (g := (mkF m 42 #[.val (.int p1), .val (.int p2), .val (.int p3), .val (.int p4), .val (.int (0 : Int32)), .val (.int (own_x0 p1 p2)), .val (.int (own_x1 p1 p3)), .val (.int (p4.toInt8.toInt32)), .unset, .unset] [(.int (0 : Int32))])) rfl (hb hby at_42) rfl (by decide) (cap := 0) (by decide) (by decide) (by decide) (by decide) (ad := "[B") (by decide)
    obtain ⟨b, q8⟩ : ∃ z, z = h0.size := ⟨_, rfl⟩
    rw [← q8] at A8 A8x st8
    have g_b : n0 ≤ b := Nat.le_trans Z0 (Nat.le_of_eq q8.symm)
    have V8 := Arv.new A8 (by decide)
    refine own_to (fun t k => st8 t k) ?_
    show own_Fin _ _ _ _ _ _ (T8.setTop (mkF m 44 #[.val (.int p1), .val (.int p2), .val (.int p3), .val (.int p4), .val (.int (0 : Int32)), .val (.int (own_x0 p1 p2)), .val (.int (own_x1 p1 p3)), .val (.int (p4.toInt8.toInt32)), .unset, .unset] [(.ref b)]))
    have V9p : Arv Z h8 b k8 .byte (0 : Int32) [] (.int (0 : Int32)) := V8.pad (pad_rep [] (.int (0 : Int32)) 0)
    refine own_to (fun t k => XS.astore X8.here hx rfl (hb hby at_44) rfl rfl (l' := #[.val (.int p1), .val (.int p2), .val (.int p3), .val (.int p4), .val (.int (0 : Int32)), .val (.int (own_x0 p1 p2)), .val (.int (own_x1 p1 p3)), .val (.int (p4.toInt8.toInt32)), .val (.ref b), .unset]) rfl k) ?_
    show own_Fin _ _ _ _ _ _ (T8.setTop (mkF m 46 #[.val (.int p1), .val (.int p2), .val (.int p3), .val (.int p4), .val (.int (0 : Int32)), .val (.int (own_x0 p1 p2)), .val (.int (own_x1 p1 p3)), .val (.int (p4.toInt8.toInt32)), .val (.ref b), .unset] []))
    refine own_to (fun t k => XS.iload X8.here hx rfl (hb hby at_46) rfl k) ?_
    show own_Fin _ _ _ _ _ _ (T8.setTop (mkF m 48 #[.val (.int p1), .val (.int p2), .val (.int p3), .val (.int p4), .val (.int (0 : Int32)), .val (.int (own_x0 p1 p2)), .val (.int (own_x1 p1 p3)), .val (.int (p4.toInt8.toInt32)), .val (.ref b), .unset] [(.int (0 : Int32))]))
    refine own_to (fun t k => XS.ifYes X8.here hx rfl (pc0 := 48) (pc' := 57) rfl (hb hby at_48) rfl ((if0 _ _).trans (flt (Int32.lt_irrefl)).2.2.2) (by decide) (by decide) k) ?_
    show own_Fin _ _ _ _ _ _ (T8.setTop (mkF m 57 #[.val (.int p1), .val (.int p2), .val (.int p3), .val (.int p4), .val (.int (0 : Int32)), .val (.int (own_x0 p1 p2)), .val (.int (own_x1 p1 p3)), .val (.int (p4.toInt8.toInt32)), .val (.ref b), .unset] []))
    refine own_to (fun t k => XS.iload X8.here hx rfl (hb hby at_57) rfl k) ?_
    show own_Fin _ _ _ _ _ _ (T8.setTop (mkF m 59 #[.val (.int p1), .val (.int p2), .val (.int p3), .val (.int p4), .val (.int (0 : Int32)), .val (.int (own_x0 p1 p2)), .val (.int (own_x1 p1 p3)), .val (.int (p4.toInt8.toInt32)), .val (.ref b), .unset] [(.int (0 : Int32))]))
    refine own_to (fun t k => XS.iconst X8.here hx rfl (hb hby at_59) k) ?_
    show own_Fin _ _ _ _ _ _ (T8.setTop (mkF m 60 #[.val (.int p1), .val (.int p2), .val (.int p3), .val (.int p4), .val (.int (0 : Int32)), .val (.int (own_x0 p1 p2)), .val (.int (own_x1 p1 p3)), .val (.int (p4.toInt8.toInt32)), .val (.ref b), .unset] [(.int (1 : Int32)), (.int (0 : Int32))]))
    refine own_to (fun t k => XS.icmpYes X8.here hx rfl (pc0 := 60) (pc' := 69) rfl (hb hby at_60) rfl (flt (by decide)).2.2.2 (by decide) (by decide) k) ?_
    show own_Fin _ _ _ _ _ _ (T8.setTop (mkF m 69 #[.val (.int p1), .val (.int p2), .val (.int p3), .val (.int p4), .val (.int (0 : Int32)), .val (.int (own_x0 p1 p2)), .val (.int (own_x1 p1 p3)), .val (.int (p4.toInt8.toInt32)), .val (.ref b), .unset] []))
    refine own_to (fun t k => XS.iload X8.here hx rfl (hb hby at_69) rfl k) ?_
    show own_Fin _ _ _ _ _ _ (T8.setTop (mkF m 71 #[.val (.int p1), .val (.int p2), .val (.int p3), .val (.int p4), .val (.int (0 : Int32)), .val (.int (own_x0 p1 p2)), .val (.int (own_x1 p1 p3)), .val (.int (p4.toInt8.toInt32)), .val (.ref b), .unset] [(.int (0 : Int32))]))
    refine own_to (fun t k => XS.iconst X8.here hx rfl (hb hby at_71) k) ?_
    show own_Fin _ _ _ _ _ _ (T8.setTop (mkF m 72 #[.val (.int p1), .val (.int p2), .val (.int p3), .val (.int p4), .val (.int (0 : Int32)), .val (.int (own_x0 p1 p2)), .val (.int (own_x1 p1 p3)), .val (.int (p4.toInt8.toInt32)), .val (.ref b), .unset] [(.int (2 : Int32)), (.int (0 : Int32))]))
    refine own_to (fun t k => XS.icmpYes X8.here hx rfl (pc0 := 72) (pc' := 81) rfl (hb hby at_72) rfl (flt (by decide)).2.2.2 (by decide) (by decide) k) ?_
    show own_Fin _ _ _ _ _ _ (T8.setTop (mkF m 81 #[.val (.int p1), .val (.int p2), .val (.int p3), .val (.int p4), .val (.int (0 : Int32)), .val (.int (own_x0 p1 p2)), .val (.int (own_x1 p1 p3)), .val (.int (p4.toInt8.toInt32)), .val (.ref b), .unset] []))
    refine own_to (fun t k => XS.iload X8.here hx rfl (hb hby at_81) rfl k) ?_
    show own_Fin _ _ _ _ _ _ (T8.setTop (mkF m 83 #[.val (.int p1), .val (.int p2), .val (.int p3), .val (.int p4), .val (.int (0 : Int32)), .val (.int (own_x0 p1 p2)), .val (.int (own_x1 p1 p3)), .val (.int (p4.toInt8.toInt32)), .val (.ref b), .unset] [(.int (0 : Int32))]))
    refine own_to (fun t k => XS.iconst X8.here hx rfl (hb hby at_83) k) ?_
    show own_Fin _ _ _ _ _ _ (T8.setTop (mkF m 84 #[.val (.int p1), .val (.int p2), .val (.int p3), .val (.int p4), .val (.int (0 : Int32)), .val (.int (own_x0 p1 p2)), .val (.int (own_x1 p1 p3)), .val (.int (p4.toInt8.toInt32)), .val (.ref b), .unset] [(.int (2 : Int32)), (.int (0 : Int32))]))
    refine own_to (fun t k => XS.icmpYes X8.here hx rfl (pc0 := 84) (pc' := 105) rfl (hb hby at_84) rfl (tlt (by decide)).1 (by decide) (by decide) k) ?_
    show own_Fin _ _ _ _ _ _ (T8.setTop (mkF m 105 #[.val (.int p1), .val (.int p2), .val (.int p3), .val (.int p4), .val (.int (0 : Int32)), .val (.int (own_x0 p1 p2)), .val (.int (own_x1 p1 p3)), .val (.int (p4.toInt8.toInt32)), .val (.ref b), .unset] []))
    refine own_to (fun t k => XS.iconst X8.here hx rfl (hb hby at_105) k) ?_
    show own_Fin _ _ _ _ _ _ (T8.setTop (mkF m 106 #[.val (.int p1), .val (.int p2), .val (.int p3), .val (.int p4), .val (.int (0 : Int32)), .val (.int (own_x0 p1 p2)), .val (.int (own_x1 p1 p3)), .val (.int (p4.toInt8.toInt32)), .val (.ref b), .unset] [(.int (0 : Int32))]))
    refine own_to (fun t k => XS.istore X8.here hx rfl (hb hby at_106) rfl (l' := #[.val (.int p1), .val (.int p2), .val (.int p3), .val (.int p4), .val (.int (0 : Int32)), .val (.int (own_x0 p1 p2)), .val (.int (own_x1 p1 p3)), .val (.int (p4.toInt8.toInt32)), .val (.ref b), .val (.int (0 : Int32))]) rfl k) ?_
    show own_Fin _ _ _ _ _ _ (T8.setTop (mkF m 108 #[.val (.int p1), .val (.int p2), .val (.int p3), .val (.int p4), .val (.int (0 : Int32)), .val (.int (own_x0 p1 p2)), .val (.int (own_x1 p1 p3)), .val (.int (p4.toInt8.toInt32)), .val (.ref b), .val (.int (0 : Int32))] []))
    refine own_to (fun t k => XS.aload X8.here hx rfl (hb hby at_108) rfl rfl k) ?_
    show own_Fin _ _ _ _ _ _ (T8.setTop (mkF m 110 #[.val (.int p1), .val (.int p2), .val (.int p3), .val (.int p4), .val (.int (0 : Int32)), .val (.int (own_x0 p1 p2)), .val (.int (own_x1 p1 p3)), .val (.int (p4.toInt8.toInt32)), .val (.ref b), .val (.int (0 : Int32))] [(.ref b)]))
    obtain ⟨cl10, Ar10, qa10, Sa10, Na10, Ha10, Ga10⟩ := V9p
    have hgz : (own_gz (0 : Int32) 0 0) = (0 : Int32) := own_m0 _ _
    obtain ⟨_, _, ⟨T11, L11, k11, n11⟩, -, X11, ⟨Lc11, hQ11, l11, y11, z11⟩, st11⟩ := Jvm.LawKit.callS X8 hx (y := (⟨"com/example/walk_to_worth/walktoworth/io/GzipMembers", "isGzip", "([B)Z"⟩ : MethodName)) hown (mvT hZ (hw _ (List.mem_of_getElem? (i := 1) rfl))) (mvT hZ (hw _ (List.mem_of_getElem? (i := 2) rfl))) (mvT hZ (hw _ (List.mem_of_getElem? (i := 3) rfl))) (mvT hZ (hw _ (List.mem_of_getElem? (i := 4) rfl))) (by decide) (own_back (W := 0) (own_rm1 l Z a0 hw [] b cl10 (0 : Int32) 0 0 h8 n0 (Nat.le_trans Z0 E8.1) Ar10 Sa10 Na10 (fun q => absurd (by decide) q)) hZ (hw _ (List.mem_of_getElem? (i := 4) rfl)) (hw _ (List.mem_of_getElem? (i := 3) rfl)) (by decide) (by decide)) (g := (mkF m 110 #[.val (.int p1), .val (.int p2), .val (.int p3), .val (.int p4), .val (.int (0 : Int32)), .val (.int (own_x0 p1 p2)), .val (.int (own_x1 p1 p3)), .val (.int (p4.toInt8.toInt32)), .val (.ref b), .val (.int (0 : Int32))] [(.ref b)])) rfl (by rw [hml]; rfl) (argsL := [(.ref b)]) (rest := []) (lenOf own_pd0 rfl) rfl (by show 2 * 0 + _ ≤ _; exact Nat.le_of_eq rfl) (hb hby at_110) (fun _ _ => ⟨rfl, e8, (by decide : 1 + 0 ≤ _), (by decide : 0 + 0 ≤ _)⟩)
    dsimp only [Pt.U, Pt.locs, Pt.cells, Pt.slots] at X11 l11 y11 z11 st11 hQ11
    subst l11 y11 z11
    obtain ⟨rfl, N11q, eh11⟩ := hQ11
    have N11 := Fr.app N0 N11q
    refine own_to (fun t k => st11 t k) ?_
    show own_Fin _ _ _ _ _ _ (T11.setTop (mkF m 113 #[.val (.int p1), .val (.int p2), .val (.int p3), .val (.int p4), .val (.int (0 : Int32)), .val (.int (own_x0 p1 p2)), .val (.int (own_x1 p1 p3)), .val (.int (p4.toInt8.toInt32)), .val (.ref b), .val (.int (0 : Int32))] [(.int (own_gz (0 : Int32) 0 0))]))
    refine own_to (fun t k => XS.iload X11.here hx rfl (hb hby at_113) rfl k) ?_
    show own_Fin _ _ _ _ _ _ (T11.setTop (mkF m 115 #[.val (.int p1), .val (.int p2), .val (.int p3), .val (.int p4), .val (.int (0 : Int32)), .val (.int (own_x0 p1 p2)), .val (.int (own_x1 p1 p3)), .val (.int (p4.toInt8.toInt32)), .val (.ref b), .val (.int (0 : Int32))] [(.int (0 : Int32)), (.int (own_gz (0 : Int32) 0 0))]))
    refine own_to (fun t k => XS.icmpNo X11.here hx rfl (hb hby at_115) rfl (teq hgz).2 k) ?_
    show own_Fin _ _ _ _ _ _ (T11.setTop (mkF m 118 #[.val (.int p1), .val (.int p2), .val (.int p3), .val (.int p4), .val (.int (0 : Int32)), .val (.int (own_x0 p1 p2)), .val (.int (own_x1 p1 p3)), .val (.int (p4.toInt8.toInt32)), .val (.ref b), .val (.int (0 : Int32))] []))
    refine own_to (fun t k => XS.iconst X11.here hx rfl (hb hby at_118) k) ?_
    show own_Fin _ _ _ _ _ _ (T11.setTop (mkF m 119 #[.val (.int p1), .val (.int p2), .val (.int p3), .val (.int p4), .val (.int (0 : Int32)), .val (.int (own_x0 p1 p2)), .val (.int (own_x1 p1 p3)), .val (.int (p4.toInt8.toInt32)), .val (.ref b), .val (.int (0 : Int32))] [(.int (1 : Int32))]))
    refine own_to (fun t k => XS.goto X11.here hx rfl (pc0 := 119) (pc' := 123) rfl (hb hby at_119) (by decide) (by decide) k) ?_
    show own_Fin _ _ _ _ _ _ (T11.setTop (mkF m 123 #[.val (.int p1), .val (.int p2), .val (.int p3), .val (.int p4), .val (.int (0 : Int32)), .val (.int (own_x0 p1 p2)), .val (.int (own_x1 p1 p3)), .val (.int (p4.toInt8.toInt32)), .val (.ref b), .val (.int (0 : Int32))] [(.int (1 : Int32))]))
    refine own_retN X11 hx hlk (t := .boolean) hret (by simp) (hb hby at_123) (by decide) (by decide) ?_
    try rw [eh11]
    exact ⟨rfl, N11⟩
  ·
    rw [hl]
    show own_Fin _ _ _ _ _ _ (s₁.setTop (mkF m 42 #[.val (.int p1), .val (.int p2), .val (.int p3), .val (.int p4), .val (.int (1 : Int32)), .val (.int (own_x0 p1 p2)), .val (.int (own_x1 p1 p3)), .val (.int (p4.toInt8.toInt32)), .unset, .unset] [(.int (1 : Int32))]))
    obtain ⟨T12, h12, k12, X12, e12, E12, A12, A12x, st12⟩ := newPE X0 hx hZ (hw _ (List.mem_of_getElem? (i := 0) rfl)) e0 (g := (mkF m 42 #[.val (.int p1), .val (.int p2), .val (.int p3), .val (.int p4), .val (.int (1 : Int32)), .val (.int (own_x0 p1 p2)), .val (.int (own_x1 p1 p3)), .val (.int (p4.toInt8.toInt32)), .unset, .unset] [(.int (1 : Int32))])) rfl (hb hby at_42) rfl (by decide) (cap := 1) (by decide) (by decide) (by decide) (by decide) (ad := "[B") (by decide)
    obtain ⟨b, q12⟩ : ∃ z, z = h0.size := ⟨_, rfl⟩
    rw [← q12] at A12 A12x st12
    have g_b : n0 ≤ b := Nat.le_trans Z0 (Nat.le_of_eq q12.symm)
    have V12 := Arv.new A12 (by decide)
    refine own_to (fun t k => st12 t k) ?_
    show own_Fin _ _ _ _ _ _ (T12.setTop (mkF m 44 #[.val (.int p1), .val (.int p2), .val (.int p3), .val (.int p4), .val (.int (1 : Int32)), .val (.int (own_x0 p1 p2)), .val (.int (own_x1 p1 p3)), .val (.int (p4.toInt8.toInt32)), .unset, .unset] [(.ref b)]))
    have V13p : Arv Z h12 b k12 .byte (1 : Int32) [(.int (0 : Int32))] (.int (0 : Int32)) := V12.pad (pad_rep [] (.int (0 : Int32)) 1)
    refine own_to (fun t k => XS.astore X12.here hx rfl (hb hby at_44) rfl rfl (l' := #[.val (.int p1), .val (.int p2), .val (.int p3), .val (.int p4), .val (.int (1 : Int32)), .val (.int (own_x0 p1 p2)), .val (.int (own_x1 p1 p3)), .val (.int (p4.toInt8.toInt32)), .val (.ref b), .unset]) rfl k) ?_
    show own_Fin _ _ _ _ _ _ (T12.setTop (mkF m 46 #[.val (.int p1), .val (.int p2), .val (.int p3), .val (.int p4), .val (.int (1 : Int32)), .val (.int (own_x0 p1 p2)), .val (.int (own_x1 p1 p3)), .val (.int (p4.toInt8.toInt32)), .val (.ref b), .unset] []))
    refine own_to (fun t k => XS.iload X12.here hx rfl (hb hby at_46) rfl k) ?_
    show own_Fin _ _ _ _ _ _ (T12.setTop (mkF m 48 #[.val (.int p1), .val (.int p2), .val (.int p3), .val (.int p4), .val (.int (1 : Int32)), .val (.int (own_x0 p1 p2)), .val (.int (own_x1 p1 p3)), .val (.int (p4.toInt8.toInt32)), .val (.ref b), .unset] [(.int (1 : Int32))]))
    refine own_to (fun t k => XS.ifNo X12.here hx rfl (hb hby at_48) rfl ((if0 _ _).trans (tlt (by decide)).2.2.2) k) ?_
    show own_Fin _ _ _ _ _ _ (T12.setTop (mkF m 51 #[.val (.int p1), .val (.int p2), .val (.int p3), .val (.int p4), .val (.int (1 : Int32)), .val (.int (own_x0 p1 p2)), .val (.int (own_x1 p1 p3)), .val (.int (p4.toInt8.toInt32)), .val (.ref b), .unset] []))
    refine own_to (fun t k => XS.aload X12.here hx rfl (hb hby at_51) rfl rfl k) ?_
    show own_Fin _ _ _ _ _ _ (T12.setTop (mkF m 53 #[.val (.int p1), .val (.int p2), .val (.int p3), .val (.int p4), .val (.int (1 : Int32)), .val (.int (own_x0 p1 p2)), .val (.int (own_x1 p1 p3)), .val (.int (p4.toInt8.toInt32)), .val (.ref b), .unset] [(.ref b)]))
    refine own_to (fun t k => XS.iconst X12.here hx rfl (hb hby at_53) k) ?_
    show own_Fin _ _ _ _ _ _ (T12.setTop (mkF m 54 #[.val (.int p1), .val (.int p2), .val (.int p3), .val (.int p4), .val (.int (1 : Int32)), .val (.int (own_x0 p1 p2)), .val (.int (own_x1 p1 p3)), .val (.int (p4.toInt8.toInt32)), .val (.ref b), .unset] [(.int (0 : Int32)), (.ref b)]))
    refine own_to (fun t k => XS.iload X12.here hx rfl (hb hby at_54) rfl k) ?_
    show own_Fin _ _ _ _ _ _ (T12.setTop (mkF m 56 #[.val (.int p1), .val (.int p2), .val (.int p3), .val (.int p4), .val (.int (1 : Int32)), .val (.int (own_x0 p1 p2)), .val (.int (own_x1 p1 p3)), .val (.int (p4.toInt8.toInt32)), .val (.ref b), .unset] [(.int (own_x0 p1 p2)), (.int (0 : Int32)), (.ref b)]))
    obtain ⟨cl14, Ar14, qa14, Sa14, Na14, Ha14, Ga14⟩ := V13p
    have hin15 : ¬ ((0 : Int32) < 0 ∨ cl14.slots.size ≤ ((0 : Int32)).toNatClampNeg) := inb_of Sa14 ⟨by decide, by decide⟩
    obtain ⟨T15, h15, X15, e15, W15, st15⟩ := stB X12 hx hZ e12 Ar14 (j := (0 : Int32)) hin15 (g := (mkF m 56 #[.val (.int p1), .val (.int p2), .val (.int p3), .val (.int p4), .val (.int (1 : Int32)), .val (.int (own_x0 p1 p2)), .val (.int (own_x1 p1 p3)), .val (.int (p4.toInt8.toInt32)), .val (.ref b), .unset] [(.int (own_x0 p1 p2)), (.int (0 : Int32)), (.ref b)])) rfl rfl (hb hby at_56)
    have N15 := Fr.snoc X15 N0 g_b
    have A12x_e15 := A12x.wr W15
    have V15 : Arv Z h15 b k12 .byte (1 : Int32) [(.int (nar .byte (own_x0 p1 p2)))] (.int (0 : Int32)) := Arv.set Ar14 qa14 Sa14 Na14 Ha14 Ga14 (fits_nar_byte _) W15 0 rfl (Nat.le_of_ble_eq_true rfl)
    refine own_to (fun t k => st15 t k) ?_
    show own_Fin _ _ _ _ _ _ (T15.setTop (mkF m 57 #[.val (.int p1), .val (.int p2), .val (.int p3), .val (.int p4), .val (.int (1 : Int32)), .val (.int (own_x0 p1 p2)), .val (.int (own_x1 p1 p3)), .val (.int (p4.toInt8.toInt32)), .val (.ref b), .unset] []))
    refine own_to (fun t k => XS.iload X15.here hx rfl (hb hby at_57) rfl k) ?_
    show own_Fin _ _ _ _ _ _ (T15.setTop (mkF m 59 #[.val (.int p1), .val (.int p2), .val (.int p3), .val (.int p4), .val (.int (1 : Int32)), .val (.int (own_x0 p1 p2)), .val (.int (own_x1 p1 p3)), .val (.int (p4.toInt8.toInt32)), .val (.ref b), .unset] [(.int (1 : Int32))]))
    refine own_to (fun t k => XS.iconst X15.here hx rfl (hb hby at_59) k) ?_
    show own_Fin _ _ _ _ _ _ (T15.setTop (mkF m 60 #[.val (.int p1), .val (.int p2), .val (.int p3), .val (.int p4), .val (.int (1 : Int32)), .val (.int (own_x0 p1 p2)), .val (.int (own_x1 p1 p3)), .val (.int (p4.toInt8.toInt32)), .val (.ref b), .unset] [(.int (1 : Int32)), (.int (1 : Int32))]))
    refine own_to (fun t k => XS.icmpYes X15.here hx rfl (pc0 := 60) (pc' := 69) rfl (hb hby at_60) rfl (flt (Int32.lt_irrefl)).2.2.2 (by decide) (by decide) k) ?_
    show own_Fin _ _ _ _ _ _ (T15.setTop (mkF m 69 #[.val (.int p1), .val (.int p2), .val (.int p3), .val (.int p4), .val (.int (1 : Int32)), .val (.int (own_x0 p1 p2)), .val (.int (own_x1 p1 p3)), .val (.int (p4.toInt8.toInt32)), .val (.ref b), .unset] []))
    refine own_to (fun t k => XS.iload X15.here hx rfl (hb hby at_69) rfl k) ?_
    show own_Fin _ _ _ _ _ _ (T15.setTop (mkF m 71 #[.val (.int p1), .val (.int p2), .val (.int p3), .val (.int p4), .val (.int (1 : Int32)), .val (.int (own_x0 p1 p2)), .val (.int (own_x1 p1 p3)), .val (.int (p4.toInt8.toInt32)), .val (.ref b), .unset] [(.int (1 : Int32))]))
    refine own_to (fun t k => XS.iconst X15.here hx rfl (hb hby at_71) k) ?_
    show own_Fin _ _ _ _ _ _ (T15.setTop (mkF m 72 #[.val (.int p1), .val (.int p2), .val (.int p3), .val (.int p4), .val (.int (1 : Int32)), .val (.int (own_x0 p1 p2)), .val (.int (own_x1 p1 p3)), .val (.int (p4.toInt8.toInt32)), .val (.ref b), .unset] [(.int (2 : Int32)), (.int (1 : Int32))]))
    refine own_to (fun t k => XS.icmpYes X15.here hx rfl (pc0 := 72) (pc' := 81) rfl (hb hby at_72) rfl (flt (by decide)).2.2.2 (by decide) (by decide) k) ?_
    show own_Fin _ _ _ _ _ _ (T15.setTop (mkF m 81 #[.val (.int p1), .val (.int p2), .val (.int p3), .val (.int p4), .val (.int (1 : Int32)), .val (.int (own_x0 p1 p2)), .val (.int (own_x1 p1 p3)), .val (.int (p4.toInt8.toInt32)), .val (.ref b), .unset] []))
    refine own_to (fun t k => XS.iload X15.here hx rfl (hb hby at_81) rfl k) ?_
    show own_Fin _ _ _ _ _ _ (T15.setTop (mkF m 83 #[.val (.int p1), .val (.int p2), .val (.int p3), .val (.int p4), .val (.int (1 : Int32)), .val (.int (own_x0 p1 p2)), .val (.int (own_x1 p1 p3)), .val (.int (p4.toInt8.toInt32)), .val (.ref b), .unset] [(.int (1 : Int32))]))
    refine own_to (fun t k => XS.iconst X15.here hx rfl (hb hby at_83) k) ?_
    show own_Fin _ _ _ _ _ _ (T15.setTop (mkF m 84 #[.val (.int p1), .val (.int p2), .val (.int p3), .val (.int p4), .val (.int (1 : Int32)), .val (.int (own_x0 p1 p2)), .val (.int (own_x1 p1 p3)), .val (.int (p4.toInt8.toInt32)), .val (.ref b), .unset] [(.int (2 : Int32)), (.int (1 : Int32))]))
    refine own_to (fun t k => XS.icmpYes X15.here hx rfl (pc0 := 84) (pc' := 105) rfl (hb hby at_84) rfl (tlt (by decide)).1 (by decide) (by decide) k) ?_
    show own_Fin _ _ _ _ _ _ (T15.setTop (mkF m 105 #[.val (.int p1), .val (.int p2), .val (.int p3), .val (.int p4), .val (.int (1 : Int32)), .val (.int (own_x0 p1 p2)), .val (.int (own_x1 p1 p3)), .val (.int (p4.toInt8.toInt32)), .val (.ref b), .unset] []))
    refine own_to (fun t k => XS.iconst X15.here hx rfl (hb hby at_105) k) ?_
    show own_Fin _ _ _ _ _ _ (T15.setTop (mkF m 106 #[.val (.int p1), .val (.int p2), .val (.int p3), .val (.int p4), .val (.int (1 : Int32)), .val (.int (own_x0 p1 p2)), .val (.int (own_x1 p1 p3)), .val (.int (p4.toInt8.toInt32)), .val (.ref b), .unset] [(.int (0 : Int32))]))
    refine own_to (fun t k => XS.istore X15.here hx rfl (hb hby at_106) rfl (l' := #[.val (.int p1), .val (.int p2), .val (.int p3), .val (.int p4), .val (.int (1 : Int32)), .val (.int (own_x0 p1 p2)), .val (.int (own_x1 p1 p3)), .val (.int (p4.toInt8.toInt32)), .val (.ref b), .val (.int (0 : Int32))]) rfl k) ?_
    show own_Fin _ _ _ _ _ _ (T15.setTop (mkF m 108 #[.val (.int p1), .val (.int p2), .val (.int p3), .val (.int p4), .val (.int (1 : Int32)), .val (.int (own_x0 p1 p2)), .val (.int (own_x1 p1 p3)), .val (.int (p4.toInt8.toInt32)), .val (.ref b), .val (.int (0 : Int32))] []))
    refine own_to (fun t k => XS.aload X15.here hx rfl (hb hby at_108) rfl rfl k) ?_
    show own_Fin _ _ _ _ _ _ (T15.setTop (mkF m 110 #[.val (.int p1), .val (.int p2), .val (.int p3), .val (.int p4), .val (.int (1 : Int32)), .val (.int (own_x0 p1 p2)), .val (.int (own_x1 p1 p3)), .val (.int (p4.toInt8.toInt32)), .val (.ref b), .val (.int (0 : Int32))] [(.ref b)]))
    obtain ⟨cl16, Ar16, qa16, Sa16, Na16, Ha16, Ga16⟩ := V15
    have hgz : (own_gz (1 : Int32) (nar .byte (own_x0 p1 p2)) 0) = (0 : Int32) := own_m1 _ _
    obtain ⟨_, _, ⟨T17, L17, k17, n17⟩, -, X17, ⟨Lc17, hQ17, l17, y17, z17⟩, st17⟩ := Jvm.LawKit.callS X15 hx (y := (⟨"com/example/walk_to_worth/walktoworth/io/GzipMembers", "isGzip", "([B)Z"⟩ : MethodName)) hown (mvT hZ (hw _ (List.mem_of_getElem? (i := 1) rfl))) (mvT hZ (hw _ (List.mem_of_getElem? (i := 2) rfl))) (mvT hZ (hw _ (List.mem_of_getElem? (i := 3) rfl))) (mvT hZ (hw _ (List.mem_of_getElem? (i := 4) rfl))) (by decide) (own_back (W := 0) (own_rm1 l Z a0 hw [] b cl16 (1 : Int32) (nar .byte (own_x0 p1 p2)) 0 h15 n0 (Nat.le_trans (Nat.le_trans Z0 E12.1) (Keep.of_wr W15).1) Ar16 Sa16 Na16 (fun q => absurd (by decide) q)) hZ (hw _ (List.mem_of_getElem? (i := 4) rfl)) (hw _ (List.mem_of_getElem? (i := 3) rfl)) (by decide) (by decide)) (g := (mkF m 110 #[.val (.int p1), .val (.int p2), .val (.int p3), .val (.int p4), .val (.int (1 : Int32)), .val (.int (own_x0 p1 p2)), .val (.int (own_x1 p1 p3)), .val (.int (p4.toInt8.toInt32)), .val (.ref b), .val (.int (0 : Int32))] [(.ref b)])) rfl (by rw [hml]; rfl) (argsL := [(.ref b)]) (rest := []) (lenOf own_pd0 rfl) rfl (by show 2 * 0 + _ ≤ _; exact Nat.le_of_eq rfl) (hb hby at_110) (fun _ _ => ⟨rfl, e15, (by decide : 1 + 0 ≤ _), (by decide : 1 + 0 ≤ _)⟩)
    dsimp only [Pt.U, Pt.locs, Pt.cells, Pt.slots] at X17 l17 y17 z17 st17 hQ17
    subst l17 y17 z17
    obtain ⟨rfl, N17q, eh17⟩ := hQ17
    have N17 := Fr.app N15 N17q
    refine own_to (fun t k => st17 t k) ?_
    show own_Fin _ _ _ _ _ _ (T17.setTop (mkF m 113 #[.val (.int p1), .val (.int p2), .val (.int p3), .val (.int p4), .val (.int (1 : Int32)), .val (.int (own_x0 p1 p2)), .val (.int (own_x1 p1 p3)), .val (.int (p4.toInt8.toInt32)), .val (.ref b), .val (.int (0 : Int32))] [(.int (own_gz (1 : Int32) (nar .byte (own_x0 p1 p2)) 0))]))
    refine own_to (fun t k => XS.iload X17.here hx rfl (hb hby at_113) rfl k) ?_
    show own_Fin _ _ _ _ _ _ (T17.setTop (mkF m 115 #[.val (.int p1), .val (.int p2), .val (.int p3), .val (.int p4), .val (.int (1 : Int32)), .val (.int (own_x0 p1 p2)), .val (.int (own_x1 p1 p3)), .val (.int (p4.toInt8.toInt32)), .val (.ref b), .val (.int (0 : Int32))] [(.int (0 : Int32)), (.int (own_gz (1 : Int32) (nar .byte (own_x0 p1 p2)) 0))]))
    refine own_to (fun t k => XS.icmpNo X17.here hx rfl (hb hby at_115) rfl (teq hgz).2 k) ?_
    show own_Fin _ _ _ _ _ _ (T17.setTop (mkF m 118 #[.val (.int p1), .val (.int p2), .val (.int p3), .val (.int p4), .val (.int (1 : Int32)), .val (.int (own_x0 p1 p2)), .val (.int (own_x1 p1 p3)), .val (.int (p4.toInt8.toInt32)), .val (.ref b), .val (.int (0 : Int32))] []))
    refine own_to (fun t k => XS.iconst X17.here hx rfl (hb hby at_118) k) ?_
    show own_Fin _ _ _ _ _ _ (T17.setTop (mkF m 119 #[.val (.int p1), .val (.int p2), .val (.int p3), .val (.int p4), .val (.int (1 : Int32)), .val (.int (own_x0 p1 p2)), .val (.int (own_x1 p1 p3)), .val (.int (p4.toInt8.toInt32)), .val (.ref b), .val (.int (0 : Int32))] [(.int (1 : Int32))]))
    refine own_to (fun t k => XS.goto X17.here hx rfl (pc0 := 119) (pc' := 123) rfl (hb hby at_119) (by decide) (by decide) k) ?_
    show own_Fin _ _ _ _ _ _ (T17.setTop (mkF m 123 #[.val (.int p1), .val (.int p2), .val (.int p3), .val (.int p4), .val (.int (1 : Int32)), .val (.int (own_x0 p1 p2)), .val (.int (own_x1 p1 p3)), .val (.int (p4.toInt8.toInt32)), .val (.ref b), .val (.int (0 : Int32))] [(.int (1 : Int32))]))
    refine own_retN X17 hx hlk (t := .boolean) hret (by simp) (hb hby at_123) (by decide) (by decide) ?_
    try rw [eh17]
    exact ⟨rfl, N17⟩
  ·
    rw [hl]
    show own_Fin _ _ _ _ _ _ (s₁.setTop (mkF m 42 #[.val (.int p1), .val (.int p2), .val (.int p3), .val (.int p4), .val (.int (2 : Int32)), .val (.int (own_x0 p1 p2)), .val (.int (own_x1 p1 p3)), .val (.int (p4.toInt8.toInt32)), .unset, .unset] [(.int (2 : Int32))]))
    obtain ⟨T18, h18, k18, X18, e18, E18, A18, A18x, st18⟩ := newPE X0 hx hZ (hw _ (List.mem_of_getElem? (i := 0) rfl)) e0 (g := (mkF m 42 #[.val (.int p1), .val (.int p2), .val (.int p3), .val (.int p4), .val (.int (2 : Int32)), .val (.int (own_x0 p1 p2)), .val (.int (own_x1 p1 p3)), .val (.int (p4.toInt8.toInt32)), .unset, .unset] [(.int (2 : Int32))])) rfl (hb hby at_42) rfl (by decide) (cap := 2) (by decide) (by decide) (by decide) (by decide) (ad := "[B") (by decide)
    obtain ⟨b, q18⟩ : ∃ z, z = h0.size := ⟨_, rfl⟩
    rw [← q18] at A18 A18x st18
    have g_b : n0 ≤ b := Nat.le_trans Z0 (Nat.le_of_eq q18.symm)
    have V18 := Arv.new A18 (by decide)
    refine own_to (fun t k => st18 t k) ?_
    show own_Fin _ _ _ _ _ _ (T18.setTop (mkF m 44 #[.val (.int p1), .val (.int p2), .val (.int p3), .val (.int p4), .val (.int (2 : Int32)), .val (.int (own_x0 p1 p2)), .val (.int (own_x1 p1 p3)), .val (.int (p4.toInt8.toInt32)), .unset, .unset] [(.ref b)]))
    have V19p : Arv Z h18 b k18 .byte (2 : Int32) [(.int (0 : Int32)), (.int (0 : Int32))] (.int (0 : Int32)) := V18.pad (pad_rep [] (.int (0 : Int32)) 2)
    refine own_to (fun t k => XS.astore X18.here hx rfl (hb hby at_44) rfl rfl (l' := #[.val (.int p1), .val (.int p2), .val (.int p3), .val (.int p4), .val (.int (2 : Int32)), .val (.int (own_x0 p1 p2)), .val (.int (own_x1 p1 p3)), .val (.int (p4.toInt8.toInt32)), .val (.ref b), .unset]) rfl k) ?_
    show own_Fin _ _ _ _ _ _ (T18.setTop (mkF m 46 #[.val (.int p1), .val (.int p2), .val (.int p3), .val (.int p4), .val (.int (2 : Int32)), .val (.int (own_x0 p1 p2)), .val (.int (own_x1 p1 p3)), .val (.int (p4.toInt8.toInt32)), .val (.ref b), .unset] []))
    refine own_to (fun t k => XS.iload X18.here hx rfl (hb hby at_46) rfl k) ?_
    show own_Fin _ _ _ _ _ _ (T18.setTop (mkF m 48 #[.val (.int p1), .val (.int p2), .val (.int p3), .val (.int p4), .val (.int (2 : Int32)), .val (.int (own_x0 p1 p2)), .val (.int (own_x1 p1 p3)), .val (.int (p4.toInt8.toInt32)), .val (.ref b), .unset] [(.int (2 : Int32))]))
    refine own_to (fun t k => XS.ifNo X18.here hx rfl (hb hby at_48) rfl ((if0 _ _).trans (tlt (by decide)).2.2.2) k) ?_
    show own_Fin _ _ _ _ _ _ (T18.setTop (mkF m 51 #[.val (.int p1), .val (.int p2), .val (.int p3), .val (.int p4), .val (.int (2 : Int32)), .val (.int (own_x0 p1 p2)), .val (.int (own_x1 p1 p3)), .val (.int (p4.toInt8.toInt32)), .val (.ref b), .unset] []))
    refine own_to (fun t k => XS.aload X18.here hx rfl (hb hby at_51) rfl rfl k) ?_
    show own_Fin _ _ _ _ _ _ (T18.setTop (mkF m 53 #[.val (.int p1), .val (.int p2), .val (.int p3), .val (.int p4), .val (.int (2 : Int32)), .val (.int (own_x0 p1 p2)), .val (.int (own_x1 p1 p3)), .val (.int (p4.toInt8.toInt32)), .val (.ref b), .unset] [(.ref b)]))
    refine own_to (fun t k => XS.iconst X18.here hx rfl (hb hby at_53) k) ?_
    show own_Fin _ _ _ _ _ _ (T18.setTop (mkF m 54 #[.val (.int p1), .val (.int p2), .val (.int p3), .val (.int p4), .val (.int (2 : Int32)), .val (.int (own_x0 p1 p2)), .val (.int (own_x1 p1 p3)), .val (.int (p4.toInt8.toInt32)), .val (.ref b), .unset] [(.int (0 : Int32)), (.ref b)]))
    refine own_to (fun t k => XS.iload X18.here hx rfl (hb hby at_54) rfl k) ?_
    show own_Fin _ _ _ _ _ _ (T18.setTop (mkF m 56 #[.val (.int p1), .val (.int p2), .val (.int p3), .val (.int p4), .val (.int (2 : Int32)), .val (.int (own_x0 p1 p2)), .val (.int (own_x1 p1 p3)), .val (.int (p4.toInt8.toInt32)), .val (.ref b), .unset] [(.int (own_x0 p1 p2)), (.int (0 : Int32)), (.ref b)]))
    obtain ⟨cl20, Ar20, qa20, Sa20, Na20, Ha20, Ga20⟩ := V19p
    have hin21 : ¬ ((0 : Int32) < 0 ∨ cl20.slots.size ≤ ((0 : Int32)).toNatClampNeg) := inb_of Sa20 ⟨by decide, by decide⟩
    obtain ⟨T21, h21, X21, e21, W21, st21⟩ := stB X18 hx hZ e18 Ar20 (j := (0 : Int32)) hin21 (g := (mkF m 56 #[.val (.int p1), .val (.int p2), .val (.int p3), .val (.int p4), .val (.int (2 : Int32)), .val (.int (own_x0 p1 p2)), .val (.int (own_x1 p1 p3)), .val (.int (p4.toInt8.toInt32)), .val (.ref b), .unset] [(.int (own_x0 p1 p2)), (.int (0 : Int32)), (.ref b)])) rfl rfl (hb hby at_56)
    have N21 := Fr.snoc X21 N0 g_b
    have A18x_e21 := A18x.wr W21
    have V21 : Arv Z h21 b k18 .byte (2 : Int32) [(.int (nar .byte (own_x0 p1 p2))), (.int (0 : Int32))] (.int (0 : Int32)) := Arv.set Ar20 qa20 Sa20 Na20 Ha20 Ga20 (fits_nar_byte _) W21 0 rfl (Nat.le_of_ble_eq_true rfl)
    refine own_to (fun t k => st21 t k) ?_
    show own_Fin _ _ _ _ _ _ (T21.setTop (mkF m 57 #[.val (.int p1), .val (.int p2), .val (.int p3), .val (.int p4), .val (.int (2 : Int32)), .val (.int (own_x0 p1 p2)), .val (.int (own_x1 p1 p3)), .val (.int (p4.toInt8.toInt32)), .val (.ref b), .unset] []))
    refine own_to (fun t k => XS.iload X21.here hx rfl (hb hby at_57) rfl k) ?_
    show own_Fin _ _ _ _ _ _ (T21.setTop (mkF m 59 #[.val (.int p1), .val (.int p2), .val (.int p3), .val (.int p4), .val (.int (2 : Int32)), .val (.int (own_x0 p1 p2)), .val (.int (own_x1 p1 p3)), .val (.int (p4.toInt8.toInt32)), .val (.ref b), .unset] [(.int (2 : Int32))]))
    refine own_to (fun t k => XS.iconst X21.here hx rfl (hb hby at_59) k) ?_
    show own_Fin _ _ _ _ _ _ (T21.setTop (mkF m 60 #[.val (.int p1), .val (.int p2), .val (.int p3), .val (.int p4), .val (.int (2 : Int32)), .val (.int (own_x0 p1 p2)), .val (.int (own_x1 p1 p3)), .val (.int (p4.toInt8.toInt32)), .val (.ref b), .unset] [(.int (1 : Int32)), (.int (2 : Int32))]))
    refine own_to (fun t k => XS.icmpNo X21.here hx rfl (hb hby at_60) rfl (tlt (by decide)).2.2.2 k) ?_
    show own_Fin _ _ _ _ _ _ (T21.setTop (mkF m 63 #[.val (.int p1), .val (.int p2), .val (.int p3), .val (.int p4), .val (.int (2 : Int32)), .val (.int (own_x0 p1 p2)), .val (.int (own_x1 p1 p3)), .val (.int (p4.toInt8.toInt32)), .val (.ref b), .unset] []))
    refine own_to (fun t k => XS.aload X21.here hx rfl (hb hby at_63) rfl rfl k) ?_
    show own_Fin _ _ _ _ _ _ (T21.setTop (mkF m 65 #[.val (.int p1), .val (.int p2), .val (.int p3), .val (.int p4), .val (.int (2 : Int32)), .val (.int (own_x0 p1 p2)), .val (.int (own_x1 p1 p3)), .val (.int (p4.toInt8.toInt32)), .val (.ref b), .unset] [(.ref b)]))
    refine own_to (fun t k => XS.iconst X21.here hx rfl (hb hby at_65) k) ?_
    show own_Fin _ _ _ _ _ _ (T21.setTop (mkF m 66 #[.val (.int p1), .val (.int p2), .val (.int p3), .val (.int p4), .val (.int (2 : Int32)), .val (.int (own_x0 p1 p2)), .val (.int (own_x1 p1 p3)), .val (.int (p4.toInt8.toInt32)), .val (.ref b), .unset] [(.int (1 : Int32)), (.ref b)]))
    refine own_to (fun t k => XS.iload X21.here hx rfl (hb hby at_66) rfl k) ?_
    show own_Fin _ _ _ _ _ _ (T21.setTop (mkF m 68 #[.val (.int p1), .val (.int p2), .val (.int p3), .val (.int p4), .val (.int (2 : Int32)), .val (.int (own_x0 p1 p2)), .val (.int (own_x1 p1 p3)), .val (.int (p4.toInt8.toInt32)), .val (.ref b), .unset] [(.int (own_x1 p1 p3)), (.int (1 : Int32)), (.ref b)]))
    obtain ⟨cl22, Ar22, qa22, Sa22, Na22, Ha22, Ga22⟩ := V21
    have hin23 : ¬ ((1 : Int32) < 0 ∨ cl22.slots.size ≤ ((1 : Int32)).toNatClampNeg) := inb_of Sa22 ⟨by decide, by decide⟩
    obtain ⟨T23, h23, X23, e23, W23, st23⟩ := stB X21 hx hZ e21 Ar22 (j := (1 : Int32)) hin23 (g := (mkF m 68 #[.val (.int p1), .val (.int p2), .val (.int p3), .val (.int p4), .val (.int (2 : Int32)), .val (.int (own_x0 p1 p2)), .val (.int (own_x1 p1 p3)), .val (.int (p4.toInt8.toInt32)), .val (.ref b), .unset] [(.int (own_x1 p1 p3)), (.int (1 : Int32)), (.ref b)])) rfl rfl (hb hby at_68)
    have N23 := Fr.snoc X23 N21 g_b
    have A18x_e23 := A18x_e21.wr W23
    have V23 : Arv Z h23 b k18 .byte (2 : Int32) [(.int (nar .byte (own_x0 p1 p2))), (.int (nar .byte (own_x1 p1 p3)))] (.int (0 : Int32)) := Arv.set Ar22 qa22 Sa22 Na22 Ha22 Ga22 (fits_nar_byte _) W23 1 rfl (Nat.le_of_ble_eq_true rfl)
    refine own_to (fun t k => st23 t k) ?_
    show own_Fin _ _ _ _ _ _ (T23.setTop (mkF m 69 #[.val (.int p1), .val (.int p2), .val (.int p3), .val (.int p4), .val (.int (2 : Int32)), .val (.int (own_x0 p1 p2)), .val (.int (own_x1 p1 p3)), .val (.int (p4.toInt8.toInt32)), .val (.ref b), .unset] []))
    refine own_to (fun t k => XS.iload X23.here hx rfl (hb hby at_69) rfl k) ?_
    show own_Fin _ _ _ _ _ _ (T23.setTop (mkF m 71 #[.val (.int p1), .val (.int p2), .val (.int p3), .val (.int p4), .val (.int (2 : Int32)), .val (.int (own_x0 p1 p2)), .val (.int (own_x1 p1 p3)), .val (.int (p4.toInt8.toInt32)), .val (.ref b), .unset] [(.int (2 : Int32))]))
    refine own_to (fun t k => XS.iconst X23.here hx rfl (hb hby at_71) k) ?_
    show own_Fin _ _ _ _ _ _ (T23.setTop (mkF m 72 #[.val (.int p1), .val (.int p2), .val (.int p3), .val (.int p4), .val (.int (2 : Int32)), .val (.int (own_x0 p1 p2)), .val (.int (own_x1 p1 p3)), .val (.int (p4.toInt8.toInt32)), .val (.ref b), .unset] [(.int (2 : Int32)), (.int (2 : Int32))]))
    refine own_to (fun t k => XS.icmpYes X23.here hx rfl (pc0 := 72) (pc' := 81) rfl (hb hby at_72) rfl (flt (Int32.lt_irrefl)).2.2.2 (by decide) (by decide) k) ?_
    show own_Fin _ _ _ _ _ _ (T23.setTop (mkF m 81 #[.val (.int p1), .val (.int p2), .val (.int p3), .val (.int p4), .val (.int (2 : Int32)), .val (.int (own_x0 p1 p2)), .val (.int (own_x1 p1 p3)), .val (.int (p4.toInt8.toInt32)), .val (.ref b), .unset] []))
    refine own_to (fun t k => XS.iload X23.here hx rfl (hb hby at_81) rfl k) ?_
    show own_Fin _ _ _ _ _ _ (T23.setTop (mkF m 83 #[.val (.int p1), .val (.int p2), .val (.int p3), .val (.int p4), .val (.int (2 : Int32)), .val (.int (own_x0 p1 p2)), .val (.int (own_x1 p1 p3)), .val (.int (p4.toInt8.toInt32)), .val (.ref b), .unset] [(.int (2 : Int32))]))
    refine own_to (fun t k => XS.iconst X23.here hx rfl (hb hby at_83) k) ?_
    show own_Fin _ _ _ _ _ _ (T23.setTop (mkF m 84 #[.val (.int p1), .val (.int p2), .val (.int p3), .val (.int p4), .val (.int (2 : Int32)), .val (.int (own_x0 p1 p2)), .val (.int (own_x1 p1 p3)), .val (.int (p4.toInt8.toInt32)), .val (.ref b), .unset] [(.int (2 : Int32)), (.int (2 : Int32))]))
    refine own_cut (V := T23.setTop (mkF m 106 #[.val (.int p1), .val (.int p2), .val (.int p3), .val (.int p4), .val (.int (2 : Int32)), .val (.int (own_x0 p1 p2)), .val (.int (own_x1 p1 p3)), .val (.int (p4.toInt8.toInt32)), .val (.ref b), .unset] [(.int (own_e2 p1 p2 p3))])) ?_ (fun J => ?_)
    rotate_left
    ·
      show own_Fin _ _ _ _ _ _ (T23.setTop (mkF m 84 #[.val (.int p1), .val (.int p2), .val (.int p3), .val (.int p4), .val (.int (2 : Int32)), .val (.int (own_x0 p1 p2)), .val (.int (own_x1 p1 p3)), .val (.int (p4.toInt8.toInt32)), .val (.ref b), .unset] [(.int (2 : Int32)), (.int (2 : Int32))]))
      refine own_to (fun t k => XS.icmpNo X23.here hx rfl (hb hby at_84) rfl (flt (Int32.lt_irrefl)).1 k) ?_
      show own_Fin _ _ _ _ _ _ (T23.setTop (mkF m 87 #[.val (.int p1), .val (.int p2), .val (.int p3), .val (.int p4), .val (.int (2 : Int32)), .val (.int (own_x0 p1 p2)), .val (.int (own_x1 p1 p3)), .val (.int (p4.toInt8.toInt32)), .val (.ref b), .unset] []))
      refine own_to (fun t k => XS.iload X23.here hx rfl (hb hby at_87) rfl k) ?_
      show own_Fin _ _ _ _ _ _ (T23.setTop (mkF m 89 #[.val (.int p1), .val (.int p2), .val (.int p3), .val (.int p4), .val (.int (2 : Int32)), .val (.int (own_x0 p1 p2)), .val (.int (own_x1 p1 p3)), .val (.int (p4.toInt8.toInt32)), .val (.ref b), .unset] [(.int (own_x0 p1 p2))]))
      refine own_to (fun t k => XS.bipush X23.here hx rfl (hb hby at_89) k) ?_
      show own_Fin _ _ _ _ _ _ (T23.setTop (mkF m 91 #[.val (.int p1), .val (.int p2), .val (.int p3), .val (.int p4), .val (.int (2 : Int32)), .val (.int (own_x0 p1 p2)), .val (.int (own_x1 p1 p3)), .val (.int (p4.toInt8.toInt32)), .val (.ref b), .unset] [(.int (31 : Int32)), (.int (own_x0 p1 p2))]))
      by_cases hc91_24 : (own_x0 p1 p2) = (31 : Int32)
      ·
        show own_Fin _ _ _ _ _ _ (T23.setTop (mkF m 91 #[.val (.int p1), .val (.int p2), .val (.int p3), .val (.int p4), .val (.int (2 : Int32)), .val (.int (own_x0 p1 p2)), .val (.int (own_x1 p1 p3)), .val (.int (p4.toInt8.toInt32)), .val (.ref b), .unset] [(.int (31 : Int32)), (.int (own_x0 p1 p2))]))
        refine own_to (fun t k => XS.icmpNo X23.here hx rfl (hb hby at_91) rfl (teq hc91_24).2 k) ?_
        show own_Fin _ _ _ _ _ _ (T23.setTop (mkF m 94 #[.val (.int p1), .val (.int p2), .val (.int p3), .val (.int p4), .val (.int (2 : Int32)), .val (.int (own_x0 p1 p2)), .val (.int (own_x1 p1 p3)), .val (.int (p4.toInt8.toInt32)), .val (.ref b), .unset] []))
        refine own_to (fun t k => XS.iload X23.here hx rfl (hb hby at_94) rfl k) ?_
        show own_Fin _ _ _ _ _ _ (T23.setTop (mkF m 96 #[.val (.int p1), .val (.int p2), .val (.int p3), .val (.int p4), .val (.int (2 : Int32)), .val (.int (own_x0 p1 p2)), .val (.int (own_x1 p1 p3)), .val (.int (p4.toInt8.toInt32)), .val (.ref b), .unset] [(.int (own_x1 p1 p3))]))
        refine own_to (fun t k => XS.bipush X23.here hx rfl (hb hby at_96) k) ?_
        show own_Fin _ _ _ _ _ _ (T23.setTop (mkF m 98 #[.val (.int p1), .val (.int p2), .val (.int p3), .val (.int p4), .val (.int (2 : Int32)), .val (.int (own_x0 p1 p2)), .val (.int (own_x1 p1 p3)), .val (.int (p4.toInt8.toInt32)), .val (.ref b), .unset] [(.int (-117 : Int32)), (.int (own_x1 p1 p3))]))
        by_cases hc98_25 : (own_x1 p1 p3) = (-117 : Int32)
        ·
          show own_Fin _ _ _ _ _ _ (T23.setTop (mkF m 98 #[.val (.int p1), .val (.int p2), .val (.int p3), .val (.int p4), .val (.int (2 : Int32)), .val (.int (own_x0 p1 p2)), .val (.int (own_x1 p1 p3)), .val (.int (p4.toInt8.toInt32)), .val (.ref b), .unset] [(.int (-117 : Int32)), (.int (own_x1 p1 p3))]))
          refine own_to (fun t k => XS.icmpNo X23.here hx rfl (hb hby at_98) rfl (teq hc98_25).2 k) ?_
          show own_Fin _ _ _ _ _ _ (T23.setTop (mkF m 101 #[.val (.int p1), .val (.int p2), .val (.int p3), .val (.int p4), .val (.int (2 : Int32)), .val (.int (own_x0 p1 p2)), .val (.int (own_x1 p1 p3)), .val (.int (p4.toInt8.toInt32)), .val (.ref b), .unset] []))
          refine own_to (fun t k => XS.iconst X23.here hx rfl (hb hby at_101) k) ?_
          show own_Fin _ _ _ _ _ _ (T23.setTop (mkF m 102 #[.val (.int p1), .val (.int p2), .val (.int p3), .val (.int p4), .val (.int (2 : Int32)), .val (.int (own_x0 p1 p2)), .val (.int (own_x1 p1 p3)), .val (.int (p4.toInt8.toInt32)), .val (.ref b), .unset] [(.int (1 : Int32))]))
          refine own_to (fun t k => XS.goto X23.here hx rfl (pc0 := 102) (pc' := 106) rfl (hb hby at_102) (by decide) (by decide) k) ?_
          show own_Fin _ _ _ _ _ _ (T23.setTop (mkF m 106 #[.val (.int p1), .val (.int p2), .val (.int p3), .val (.int p4), .val (.int (2 : Int32)), .val (.int (own_x0 p1 p2)), .val (.int (own_x1 p1 p3)), .val (.int (p4.toInt8.toInt32)), .val (.ref b), .unset] [(.int (1 : Int32))]))
          rw [(show (own_e2 p1 p2 p3) = _ from ((if_pos hc91_24).trans ((if_pos hc98_25).trans rfl)))] at J
          exact J
        ·
          show own_Fin _ _ _ _ _ _ (T23.setTop (mkF m 98 #[.val (.int p1), .val (.int p2), .val (.int p3), .val (.int p4), .val (.int (2 : Int32)), .val (.int (own_x0 p1 p2)), .val (.int (own_x1 p1 p3)), .val (.int (p4.toInt8.toInt32)), .val (.ref b), .unset] [(.int (-117 : Int32)), (.int (own_x1 p1 p3))]))
          refine own_to (fun t k => XS.icmpYes X23.here hx rfl (pc0 := 98) (pc' := 105) rfl (hb hby at_98) rfl (feq hc98_25).2 (by decide) (by decide) k) ?_
          show own_Fin _ _ _ _ _ _ (T23.setTop (mkF m 105 #[.val (.int p1), .val (.int p2), .val (.int p3), .val (.int p4), .val (.int (2 : Int32)), .val (.int (own_x0 p1 p2)), .val (.int (own_x1 p1 p3)), .val (.int (p4.toInt8.toInt32)), .val (.ref b), .unset] []))
          refine own_to (fun t k => XS.iconst X23.here hx rfl (hb hby at_105) k) ?_
          show own_Fin _ _ _ _ _ _ (T23.setTop (mkF m 106 #[.val (.int p1), .val (.int p2), .val (.int p3), .val (.int p4), .val (.int (2 : Int32)), .val (.int (own_x0 p1 p2)), .val (.int (own_x1 p1 p3)), .val (.int (p4.toInt8.toInt32)), .val (.ref b), .unset] [(.int (0 : Int32))]))
          rw [(show (own_e2 p1 p2 p3) = _ from ((if_pos hc91_24).trans ((if_neg hc98_25).trans rfl)))] at J
          exact J
      ·
        show own_Fin _ _ _ _ _ _ (T23.setTop (mkF m 91 #[.val (.int p1), .val (.int p2), .val (.int p3), .val (.int p4), .val (.int (2 : Int32)), .val (.int (own_x0 p1 p2)), .val (.int (own_x1 p1 p3)), .val (.int (p4.toInt8.toInt32)), .val (.ref b), .unset] [(.int (31 : Int32)), (.int (own_x0 p1 p2))]))
        refine own_to (fun t k => XS.icmpYes X23.here hx rfl (pc0 := 91) (pc' := 105) rfl (hb hby at_91) rfl (feq hc91_24).2 (by decide) (by decide) k) ?_
        show own_Fin _ _ _ _ _ _ (T23.setTop (mkF m 105 #[.val (.int p1), .val (.int p2), .val (.int p3), .val (.int p4), .val (.int (2 : Int32)), .val (.int (own_x0 p1 p2)), .val (.int (own_x1 p1 p3)), .val (.int (p4.toInt8.toInt32)), .val (.ref b), .unset] []))
        refine own_to (fun t k => XS.iconst X23.here hx rfl (hb hby at_105) k) ?_
        show own_Fin _ _ _ _ _ _ (T23.setTop (mkF m 106 #[.val (.int p1), .val (.int p2), .val (.int p3), .val (.int p4), .val (.int (2 : Int32)), .val (.int (own_x0 p1 p2)), .val (.int (own_x1 p1 p3)), .val (.int (p4.toInt8.toInt32)), .val (.ref b), .unset] [(.int (0 : Int32))]))
        rw [(show (own_e2 p1 p2 p3) = _ from ((if_neg hc91_24).trans rfl))] at J
        exact J
    show own_Fin _ _ _ _ _ _ (T23.setTop (mkF m 106 #[.val (.int p1), .val (.int p2), .val (.int p3), .val (.int p4), .val (.int (2 : Int32)), .val (.int (own_x0 p1 p2)), .val (.int (own_x1 p1 p3)), .val (.int (p4.toInt8.toInt32)), .val (.ref b), .unset] [(.int (own_e2 p1 p2 p3))]))
    refine own_to (fun t k => XS.istore X23.here hx rfl (hb hby at_106) rfl (l' := #[.val (.int p1), .val (.int p2), .val (.int p3), .val (.int p4), .val (.int (2 : Int32)), .val (.int (own_x0 p1 p2)), .val (.int (own_x1 p1 p3)), .val (.int (p4.toInt8.toInt32)), .val (.ref b), .val (.int (own_e2 p1 p2 p3))]) rfl k) ?_
    show own_Fin _ _ _ _ _ _ (T23.setTop (mkF m 108 #[.val (.int p1), .val (.int p2), .val (.int p3), .val (.int p4), .val (.int (2 : Int32)), .val (.int (own_x0 p1 p2)), .val (.int (own_x1 p1 p3)), .val (.int (p4.toInt8.toInt32)), .val (.ref b), .val (.int (own_e2 p1 p2 p3))] []))
    refine own_to (fun t k => XS.aload X23.here hx rfl (hb hby at_108) rfl rfl k) ?_
    show own_Fin _ _ _ _ _ _ (T23.setTop (mkF m 110 #[.val (.int p1), .val (.int p2), .val (.int p3), .val (.int p4), .val (.int (2 : Int32)), .val (.int (own_x0 p1 p2)), .val (.int (own_x1 p1 p3)), .val (.int (p4.toInt8.toInt32)), .val (.ref b), .val (.int (own_e2 p1 p2 p3))] [(.ref b)]))
    obtain ⟨cl26, Ar26, qa26, Sa26, Na26, Ha26, Ga26⟩ := V23
    have hgz : (own_gz (2 : Int32) (nar .byte (own_x0 p1 p2)) (nar .byte (own_x1 p1 p3))) = (own_e2 p1 p2 p3) := own_m2 p1 p2 p3
    obtain ⟨_, _, ⟨T27, L27, k27, n27⟩, -, X27, ⟨Lc27, hQ27, l27, y27, z27⟩, st27⟩ := Jvm.LawKit.callS X23 hx (y := (⟨"com/example/walk_to_worth/walktoworth/io/GzipMembers", "isGzip", "([B)Z"⟩ : MethodName)) hown (mvT hZ (hw _ (List.mem_of_getElem? (i := 1) rfl))) (mvT hZ (hw _ (List.mem_of_getElem? (i := 2) rfl))) (mvT hZ (hw _ (List.mem_of_getElem? (i := 3) rfl))) (mvT hZ (hw _ (List.mem_of_getElem? (i := 4) rfl))) (by decide) (own_back (W := 0) (own_rm1 l Z a0 hw [] b cl26 (2 : Int32) (nar .byte (own_x0 p1 p2)) (nar .byte (own_x1 p1 p3)) h23 n0 (Nat.le_trans (Nat.le_trans (Nat.le_trans Z0 E18.1) (Keep.of_wr W21).1) (Keep.of_wr W23).1) Ar26 Sa26 Na26 (fun _ => ⟨Has.at Ha26 (inb_of Sa26 ⟨by decide, by decide⟩) rfl, Has.at Ha26 (inb_of Sa26 ⟨by decide, by decide⟩) rfl⟩)) hZ (hw _ (List.mem_of_getElem? (i := 4) rfl)) (hw _ (List.mem_of_getElem? (i := 3) rfl)) (by decide) (by decide)) (g := (mkF m 110 #[.val (.int p1), .val (.int p2), .val (.int p3), .val (.int p4), .val (.int (2 : Int32)), .val (.int (own_x0 p1 p2)), .val (.int (own_x1 p1 p3)), .val (.int (p4.toInt8.toInt32)), .val (.ref b), .val (.int (own_e2 p1 p2 p3))] [(.ref b)])) rfl (by rw [hml]; rfl) (argsL := [(.ref b)]) (rest := []) (lenOf own_pd0 rfl) rfl (by show 2 * 0 + _ ≤ _; exact Nat.le_of_eq rfl) (hb hby at_110) (fun _ _ => ⟨rfl, e23, (by decide : 1 + 0 ≤ _), (by decide : 2 + 0 ≤ _)⟩)
    dsimp only [Pt.U, Pt.locs, Pt.cells, Pt.slots] at X27 l27 y27 z27 st27 hQ27
    subst l27 y27 z27
    obtain ⟨rfl, N27q, eh27⟩ := hQ27
    have N27 := Fr.app N23 N27q
    refine own_to (fun t k => st27 t k) ?_
    show own_Fin _ _ _ _ _ _ (T27.setTop (mkF m 113 #[.val (.int p1), .val (.int p2), .val (.int p3), .val (.int p4), .val (.int (2 : Int32)), .val (.int (own_x0 p1 p2)), .val (.int (own_x1 p1 p3)), .val (.int (p4.toInt8.toInt32)), .val (.ref b), .val (.int (own_e2 p1 p2 p3))] [(.int (own_gz (2 : Int32) (nar .byte (own_x0 p1 p2)) (nar .byte (own_x1 p1 p3))))]))
    refine own_to (fun t k => XS.iload X27.here hx rfl (hb hby at_113) rfl k) ?_
    show own_Fin _ _ _ _ _ _ (T27.setTop (mkF m 115 #[.val (.int p1), .val (.int p2), .val (.int p3), .val (.int p4), .val (.int (2 : Int32)), .val (.int (own_x0 p1 p2)), .val (.int (own_x1 p1 p3)), .val (.int (p4.toInt8.toInt32)), .val (.ref b), .val (.int (own_e2 p1 p2 p3))] [(.int (own_e2 p1 p2 p3)), (.int (own_gz (2 : Int32) (nar .byte (own_x0 p1 p2)) (nar .byte (own_x1 p1 p3))))]))
    refine own_to (fun t k => XS.icmpNo X27.here hx rfl (hb hby at_115) rfl (teq hgz).2 k) ?_
    show own_Fin _ _ _ _ _ _ (T27.setTop (mkF m 118 #[.val (.int p1), .val (.int p2), .val (.int p3), .val (.int p4), .val (.int (2 : Int32)), .val (.int (own_x0 p1 p2)), .val (.int (own_x1 p1 p3)), .val (.int (p4.toInt8.toInt32)), .val (.ref b), .val (.int (own_e2 p1 p2 p3))] []))
    refine own_to (fun t k => XS.iconst X27.here hx rfl (hb hby at_118) k) ?_
    show own_Fin _ _ _ _ _ _ (T27.setTop (mkF m 119 #[.val (.int p1), .val (.int p2), .val (.int p3), .val (.int p4), .val (.int (2 : Int32)), .val (.int (own_x0 p1 p2)), .val (.int (own_x1 p1 p3)), .val (.int (p4.toInt8.toInt32)), .val (.ref b), .val (.int (own_e2 p1 p2 p3))] [(.int (1 : Int32))]))
    refine own_to (fun t k => XS.goto X27.here hx rfl (pc0 := 119) (pc' := 123) rfl (hb hby at_119) (by decide) (by decide) k) ?_
    show own_Fin _ _ _ _ _ _ (T27.setTop (mkF m 123 #[.val (.int p1), .val (.int p2), .val (.int p3), .val (.int p4), .val (.int (2 : Int32)), .val (.int (own_x0 p1 p2)), .val (.int (own_x1 p1 p3)), .val (.int (p4.toInt8.toInt32)), .val (.ref b), .val (.int (own_e2 p1 p2 p3))] [(.int (1 : Int32))]))
    refine own_retN X27 hx hlk (t := .boolean) hret (by simp) (hb hby at_123) (by decide) (by decide) ?_
    try rw [eh27]
    exact ⟨rfl, N27⟩
  ·
    rw [hl]
    show own_Fin _ _ _ _ _ _ (s₁.setTop (mkF m 42 #[.val (.int p1), .val (.int p2), .val (.int p3), .val (.int p4), .val (.int (3 : Int32)), .val (.int (own_x0 p1 p2)), .val (.int (own_x1 p1 p3)), .val (.int (p4.toInt8.toInt32)), .unset, .unset] [(.int (3 : Int32))]))
    obtain ⟨T28, h28, k28, X28, e28, E28, A28, A28x, st28⟩ := newPE X0 hx hZ (hw _ (List.mem_of_getElem? (i := 0) rfl)) e0 (g := (mkF m 42 #[.val (.int p1), .val (.int p2), .val (.int p3), .val (.int p4), .val (.int (3 : Int32)), .val (.int (own_x0 p1 p2)), .val (.int (own_x1 p1 p3)), .val (.int (p4.toInt8.toInt32)), .unset, .unset] [(.int (3 : Int32))])) rfl (hb hby at_42) rfl (by decide) (cap := 3) (by decide) (by decide) (by decide) (by decide) (ad := "[B") (by decide)
    obtain ⟨b, q28⟩ : ∃ z, z = h0.size := ⟨_, rfl⟩
    rw [← q28] at A28 A28x st28
    have g_b : n0 ≤ b := Nat.le_trans Z0 (Nat.le_of_eq q28.symm)
    have V28 := Arv.new A28 (by decide)
    refine own_to (fun t k => st28 t k) ?_
    show own_Fin _ _ _ _ _ _ (T28.setTop (mkF m 44 #[.val (.int p1), .val (.int p2), .val (.int p3), .val (.int p4), .val (.int (3 : Int32)), .val (.int (own_x0 p1 p2)), .val (.int (own_x1 p1 p3)), .val (.int (p4.toInt8.toInt32)), .unset, .unset] [(.ref b)]))
    have V29p : Arv Z h28 b k28 .byte (3 : Int32) [(.int (0 : Int32)), (.int (0 : Int32)), (.int (0 : Int32))] (.int (0 : Int32)) := V28.pad (pad_rep [] (.int (0 : Int32)) 3)
    refine own_to (fun t k => XS.astore X28.here hx rfl (hb hby at_44) rfl rfl (l' := #[.val (.int p1), .val (.int p2), .val (.int p3), .val (.int p4), .val (.int (3 : Int32)), .val (.int (own_x0 p1 p2)), .val (.int (own_x1 p1 p3)), .val (.int (p4.toInt8.toInt32)), .val (.ref b), .unset]) rfl k) ?_
    show own_Fin _ _ _ _ _ _ (T28.setTop (mkF m 46 #[.val (.int p1), .val (.int p2), .val (.int p3), .val (.int p4), .val (.int (3 : Int32)), .val (.int (own_x0 p1 p2)), .val (.int (own_x1 p1 p3)), .val (.int (p4.toInt8.toInt32)), .val (.ref b), .unset] []))
    refine own_to (fun t k => XS.iload X28.here hx rfl (hb hby at_46) rfl k) ?_
    show own_Fin _ _ _ _ _ _ (T28.setTop (mkF m 48 #[.val (.int p1), .val (.int p2), .val (.int p3), .val (.int p4), .val (.int (3 : Int32)), .val (.int (own_x0 p1 p2)), .val (.int (own_x1 p1 p3)), .val (.int (p4.toInt8.toInt32)), .val (.ref b), .unset] [(.int (3 : Int32))]))
    refine own_to (fun t k => XS.ifNo X28.here hx rfl (hb hby at_48) rfl ((if0 _ _).trans (tlt (by decide)).2.2.2) k) ?_
    show own_Fin _ _ _ _ _ _ (T28.setTop (mkF m 51 #[.val (.int p1), .val (.int p2), .val (.int p3), .val (.int p4), .val (.int (3 : Int32)), .val (.int (own_x0 p1 p2)), .val (.int (own_x1 p1 p3)), .val (.int (p4.toInt8.toInt32)), .val (.ref b), .unset] []))
    refine own_to (fun t k => XS.aload X28.here hx rfl (hb hby at_51) rfl rfl k) ?_
    show own_Fin _ _ _ _ _ _ (T28.setTop (mkF m 53 #[.val (.int p1), .val (.int p2), .val (.int p3), .val (.int p4), .val (.int (3 : Int32)), .val (.int (own_x0 p1 p2)), .val (.int (own_x1 p1 p3)), .val (.int (p4.toInt8.toInt32)), .val (.ref b), .unset] [(.ref b)]))
    refine own_to (fun t k => XS.iconst X28.here hx rfl (hb hby at_53) k) ?_
    show own_Fin _ _ _ _ _ _ (T28.setTop (mkF m 54 #[.val (.int p1), .val (.int p2), .val (.int p3), .val (.int p4), .val (.int (3 : Int32)), .val (.int (own_x0 p1 p2)), .val (.int (own_x1 p1 p3)), .val (.int (p4.toInt8.toInt32)), .val (.ref b), .unset] [(.int (0 : Int32)), (.ref b)]))
    refine own_to (fun t k => XS.iload X28.here hx rfl (hb hby at_54) rfl k) ?_
    show own_Fin _ _ _ _ _ _ (T28.setTop (mkF m 56 #[.val (.int p1), .val (.int p2), .val (.int p3), .val (.int p4), .val (.int (3 : Int32)), .val (.int (own_x0 p1 p2)), .val (.int (own_x1 p1 p3)), .val (.int (p4.toInt8.toInt32)), .val (.ref b), .unset] [(.int (own_x0 p1 p2)), (.int (0 : Int32)), (.ref b)]))
    obtain ⟨cl30, Ar30, qa30, Sa30, Na30, Ha30, Ga30⟩ := V29p
    have hin31 : ¬ ((0 : Int32) < 0 ∨ cl30.slots.size ≤ ((0 : Int32)).toNatClampNeg) := inb_of Sa30 ⟨by decide, by decide⟩
    obtain ⟨T31, h31, X31, e31, W31, st31⟩ := stB X28 hx hZ e28 Ar30 (j := (0 : Int32)) hin31 (g := (mkF m 56 #[.val (.int p1), .val (.int p2), .val (.int p3), .val (.int p4), .val (.int (3 : Int32)), .val (.int (own_x0 p1 p2)), .val (.int (own_x1 p1 p3)), .val (.int (p4.toInt8.toInt32)), .val (.ref b), .unset] [(.int (own_x0 p1 p2)), (.int (0 : Int32)), (.ref b)])) rfl rfl (hb hby at_56)
    have N31 := Fr.snoc X31 N0 g_b
    have A28x_e31 := A28x.wr W31
    have V31 : Arv Z h31 b k28 .byte (3 : Int32) [(.int (nar .byte (own_x0 p1 p2))), (.int (0 : Int32)), (.int (0 : Int32))] (.int (0 : Int32)) := Arv.set Ar30 qa30 Sa30 Na30 Ha30 Ga30 (fits_nar_byte _) W31 0 rfl (Nat.le_of_ble_eq_true rfl)
    refine own_to (fun t k => st31 t k) ?_
    show own_Fin _ _ _ _ _ _ (T31.setTop (mkF m 57 #[.val (.int p1), .val (.int p2), .val (.int p3), .val (.int p4), .val (.int (3 : Int32)), .val (.int (own_x0 p1 p2)), .val (.int (own_x1 p1 p3)), .val (.int (p4.toInt8.toInt32)), .val (.ref b), .unset] []))
    refine own_to (fun t k => XS.iload X31.here hx rfl (hb hby at_57) rfl k) ?_
    show own_Fin _ _ _ _ _ _ (T31.setTop (mkF m 59 #[.val (.int p1), .val (.int p2), .val (.int p3), .val (.int p4), .val (.int (3 : Int32)), .val (.int (own_x0 p1 p2)), .val (.int (own_x1 p1 p3)), .val (.int (p4.toInt8.toInt32)), .val (.ref b), .unset] [(.int (3 : Int32))]))
    refine own_to (fun t k => XS.iconst X31.here hx rfl (hb hby at_59) k) ?_
    show own_Fin _ _ _ _ _ _ (T31.setTop (mkF m 60 #[.val (.int p1), .val (.int p2), .val (.int p3), .val (.int p4), .val (.int (3 : Int32)), .val (.int (own_x0 p1 p2)), .val (.int (own_x1 p1 p3)), .val (.int (p4.toInt8.toInt32)), .val (.ref b), .unset] [(.int (1 : Int32)), (.int (3 : Int32))]))
    refine own_to (fun t k => XS.icmpNo X31.here hx rfl (hb hby at_60) rfl (tlt (by decide)).2.2.2 k) ?_
    show own_Fin _ _ _ _ _ _ (T31.setTop (mkF m 63 #[.val (.int p1), .val (.int p2), .val (.int p3), .val (.int p4), .val (.int (3 : Int32)), .val (.int (own_x0 p1 p2)), .val (.int (own_x1 p1 p3)), .val (.int (p4.toInt8.toInt32)), .val (.ref b), .unset] []))
    refine own_to (fun t k => XS.aload X31.here hx rfl (hb hby at_63) rfl rfl k) ?_
    show own_Fin _ _ _ _ _ _ (T31.setTop (mkF m 65 #[.val (.int p1), .val (.int p2), .val (.int p3), .val (.int p4), .val (.int (3 : Int32)), .val (.int (own_x0 p1 p2)), .val (.int (own_x1 p1 p3)), .val (.int (p4.toInt8.toInt32)), .val (.ref b), .unset] [(.ref b)]))
    refine own_to (fun t k => XS.iconst X31.here hx rfl (hb hby at_65) k) ?_
    show own_Fin _ _ _ _ _ _ (T31.setTop (mkF m 66 #[.val (.int p1), .val (.int p2), .val (.int p3), .val (.int p4), .val (.int (3 : Int32)), .val (.int (own_x0 p1 p2)), .val (.int (own_x1 p1 p3)), .val (.int (p4.toInt8.toInt32)), .val (.ref b), .unset] [(.int (1 : Int32)), (.ref b)]))
    refine own_to (fun t k => XS.iload X31.here hx rfl (hb hby at_66) rfl k) ?_
    show own_Fin _ _ _ _ _ _ (T31.setTop (mkF m 68 #[.val (.int p1), .val (.int p2), .val (.int p3), .val (.int p4), .val (.int (3 : Int32)), .val (.int (own_x0 p1 p2)), .val (.int (own_x1 p1 p3)), .val (.int (p4.toInt8.toInt32)), .val (.ref b), .unset] [(.int (own_x1 p1 p3)), (.int (1 : Int32)), (.ref b)]))
    obtain ⟨cl32, Ar32, qa32, Sa32, Na32, Ha32, Ga32⟩ := V31
    have hin33 : ¬ ((1 : Int32) < 0 ∨ cl32.slots.size ≤ ((1 : Int32)).toNatClampNeg) := inb_of Sa32 ⟨by decide, by decide⟩
    obtain ⟨T33, h33, X33, e33, W33, st33⟩ := stB X31 hx hZ e31 Ar32 (j := (1 : Int32)) hin33 (g := (mkF m 68 #[.val (.int p1), .val (.int p2), .val (.int p3), .val (.int p4), .val (.int (3 : Int32)), .val (.int (own_x0 p1 p2)), .val (.int (own_x1 p1 p3)), .val (.int (p4.toInt8.toInt32)), .val (.ref b), .unset] [(.int (own_x1 p1 p3)), (.int (1 : Int32)), (.ref b)])) rfl rfl (hb hby at_68)
    have N33 := Fr.snoc X33 N31 g_b
    have A28x_e33 := A28x_e31.wr W33
    have V33 : Arv Z h33 b k28 .byte (3 : Int32) [(.int (nar .byte (own_x0 p1 p2))), (.int (nar .byte (own_x1 p1 p3))), (.int (0 : Int32))] (.int (0 : Int32)) := Arv.set Ar32 qa32 Sa32 Na32 Ha32 Ga32 (fits_nar_byte _) W33 1 rfl (Nat.le_of_ble_eq_true rfl)
    refine own_to (fun t k => st33 t k) ?_
    show own_Fin _ _ _ _ _ _ (T33.setTop (mkF m 69 #[.val (.int p1), .val (.int p2), .val (.int p3), .val (.int p4), .val (.int (3 : Int32)), .val (.int (own_x0 p1 p2)), .val (.int (own_x1 p1 p3)), .val (.int (p4.toInt8.toInt32)), .val (.ref b), .unset] []))
    refine own_to (fun t k => XS.iload X33.here hx rfl (hb hby at_69) rfl k) ?_
    show own_Fin _ _ _ _ _ _ (T33.setTop (mkF m 71 #[.val (.int p1), .val (.int p2), .val (.int p3), .val (.int p4), .val (.int (3 : Int32)), .val (.int (own_x0 p1 p2)), .val (.int (own_x1 p1 p3)), .val (.int (p4.toInt8.toInt32)), .val (.ref b), .unset] [(.int (3 : Int32))]))
    refine own_to (fun t k => XS.iconst X33.here hx rfl (hb hby at_71) k) ?_
    show own_Fin _ _ _ _ _ _ (T33.setTop (mkF m 72 #[.val (.int p1), .val (.int p2), .val (.int p3), .val (.int p4), .val (.int (3 : Int32)), .val (.int (own_x0 p1 p2)), .val (.int (own_x1 p1 p3)), .val (.int (p4.toInt8.toInt32)), .val (.ref b), .unset] [(.int (2 : Int32)), (.int (3 : Int32))]))
    refine own_to (fun t k => XS.icmpNo X33.here hx rfl (hb hby at_72) rfl (tlt (by decide)).2.2.2 k) ?_
    show own_Fin _ _ _ _ _ _ (T33.setTop (mkF m 75 #[.val (.int p1), .val (.int p2), .val (.int p3), .val (.int p4), .val (.int (3 : Int32)), .val (.int (own_x0 p1 p2)), .val (.int (own_x1 p1 p3)), .val (.int (p4.toInt8.toInt32)), .val (.ref b), .unset] []))
    refine own_to (fun t k => XS.aload X33.here hx rfl (hb hby at_75) rfl rfl k) ?_
    show own_Fin _ _ _ _ _ _ (T33.setTop (mkF m 77 #[.val (.int p1), .val (.int p2), .val (.int p3), .val (.int p4), .val (.int (3 : Int32)), .val (.int (own_x0 p1 p2)), .val (.int (own_x1 p1 p3)), .val (.int (p4.toInt8.toInt32)), .val (.ref b), .unset] [(.ref b)]))
    refine own_to (fun t k => XS.iconst X33.here hx rfl (hb hby at_77) k) ?_
    show own_Fin _ _ _ _ _ _ (T33.setTop (mkF m 78 #[.val (.int p1), .val (.int p2), .val (.int p3), .val (.int p4), .val (.int (3 : Int32)), .val (.int (own_x0 p1 p2)), .val (.int (own_x1 p1 p3)), .val (.int (p4.toInt8.toInt32)), .val (.ref b), .unset] [(.int (2 : Int32)), (.ref b)]))
    refine own_to (fun t k => XS.iload X33.here hx rfl (hb hby at_78) rfl k) ?_
    show own_Fin _ _ _ _ _ _ (T33.setTop (mkF m 80 #[.val (.int p1), .val (.int p2), .val (.int p3), .val (.int p4), .val (.int (3 : Int32)), .val (.int (own_x0 p1 p2)), .val (.int (own_x1 p1 p3)), .val (.int (p4.toInt8.toInt32)), .val (.ref b), .unset] [(.int (p4.toInt8.toInt32)), (.int (2 : Int32)), (.ref b)]))
    obtain ⟨cl34, Ar34, qa34, Sa34, Na34, Ha34, Ga34⟩ := V33
    have hin35 : ¬ ((2 : Int32) < 0 ∨ cl34.slots.size ≤ ((2 : Int32)).toNatClampNeg) := inb_of Sa34 ⟨by decide, by decide⟩
    obtain ⟨T35, h35, X35, e35, W35, st35⟩ := stB X33 hx hZ e33 Ar34 (j := (2 : Int32)) hin35 (g := (mkF m 80 #[.val (.int p1), .val (.int p2), .val (.int p3), .val (.int p4), .val (.int (3 : Int32)), .val (.int (own_x0 p1 p2)), .val (.int (own_x1 p1 p3)), .val (.int (p4.toInt8.toInt32)), .val (.ref b), .unset] [(.int (p4.toInt8.toInt32)), (.int (2 : Int32)), (.ref b)])) rfl rfl (hb hby at_80)
    have N35 := Fr.snoc X35 N33 g_b
    have A28x_e35 := A28x_e33.wr W35
    have V35 : Arv Z h35 b k28 .byte (3 : Int32) [(.int (nar .byte (own_x0 p1 p2))), (.int (nar .byte (own_x1 p1 p3))), (.int (nar .byte (p4.toInt8.toInt32)))] (.int (0 : Int32)) := Arv.set Ar34 qa34 Sa34 Na34 Ha34 Ga34 (fits_nar_byte _) W35 2 rfl (Nat.le_of_ble_eq_true rfl)
    refine own_to (fun t k => st35 t k) ?_
    show own_Fin _ _ _ _ _ _ (T35.setTop (mkF m 81 #[.val (.int p1), .val (.int p2), .val (.int p3), .val (.int p4), .val (.int (3 : Int32)), .val (.int (own_x0 p1 p2)), .val (.int (own_x1 p1 p3)), .val (.int (p4.toInt8.toInt32)), .val (.ref b), .unset] []))
    refine own_to (fun t k => XS.iload X35.here hx rfl (hb hby at_81) rfl k) ?_
    show own_Fin _ _ _ _ _ _ (T35.setTop (mkF m 83 #[.val (.int p1), .val (.int p2), .val (.int p3), .val (.int p4), .val (.int (3 : Int32)), .val (.int (own_x0 p1 p2)), .val (.int (own_x1 p1 p3)), .val (.int (p4.toInt8.toInt32)), .val (.ref b), .unset] [(.int (3 : Int32))]))
    refine own_to (fun t k => XS.iconst X35.here hx rfl (hb hby at_83) k) ?_
    show own_Fin _ _ _ _ _ _ (T35.setTop (mkF m 84 #[.val (.int p1), .val (.int p2), .val (.int p3), .val (.int p4), .val (.int (3 : Int32)), .val (.int (own_x0 p1 p2)), .val (.int (own_x1 p1 p3)), .val (.int (p4.toInt8.toInt32)), .val (.ref b), .unset] [(.int (2 : Int32)), (.int (3 : Int32))]))
    refine own_cut (V := T35.setTop (mkF m 106 #[.val (.int p1), .val (.int p2), .val (.int p3), .val (.int p4), .val (.int (3 : Int32)), .val (.int (own_x0 p1 p2)), .val (.int (own_x1 p1 p3)), .val (.int (p4.toInt8.toInt32)), .val (.ref b), .unset] [(.int (own_e3 p1 p2 p3))])) ?_ (fun J => ?_)
    rotate_left
    ·
      show own_Fin _ _ _ _ _ _ (T35.setTop (mkF m 84 #[.val (.int p1), .val (.int p2), .val (.int p3), .val (.int p4), .val (.int (3 : Int32)), .val (.int (own_x0 p1 p2)), .val (.int (own_x1 p1 p3)), .val (.int (p4.toInt8.toInt32)), .val (.ref b), .unset] [(.int (2 : Int32)), (.int (3 : Int32))]))
      refine own_to (fun t k => XS.icmpNo X35.here hx rfl (hb hby at_84) rfl (flt (by decide)).1 k) ?_
      show own_Fin _ _ _ _ _ _ (T35.setTop (mkF m 87 #[.val (.int p1), .val (.int p2), .val (.int p3), .val (.int p4), .val (.int (3 : Int32)), .val (.int (own_x0 p1 p2)), .val (.int (own_x1 p1 p3)), .val (.int (p4.toInt8.toInt32)), .val (.ref b), .unset] []))
      refine own_to (fun t k => XS.iload X35.here hx rfl (hb hby at_87) rfl k) ?_
      show own_Fin _ _ _ _ _ _ (T35.setTop (mkF m 89 #[.val (.int p1), .val (.int p2), .val (.int p3), .val (.int p4), .val (.int (3 : Int32)), .val (.int (own_x0 p1 p2)), .val (.int (own_x1 p1 p3)), .val (.int (p4.toInt8.toInt32)), .val (.ref b), .unset] [(.int (own_x0 p1 p2))]))
      refine own_to (fun t k => XS.bipush X35.here hx rfl (hb hby at_89) k) ?_
      show own_Fin _ _ _ _ _ _ (T35.setTop (mkF m 91 #[.val (.int p1), .val (.int p2), .val (.int p3), .val (.int p4), .val (.int (3 : Int32)), .val (.int (own_x0 p1 p2)), .val (.int (own_x1 p1 p3)), .val (.int (p4.toInt8.toInt32)), .val (.ref b), .unset] [(.int (31 : Int32)), (.int (own_x0 p1 p2))]))
      by_cases hc91_36 : (own_x0 p1 p2) = (31 : Int32)
      ·
        show own_Fin _ _ _ _ _ _ (T35.setTop (mkF m 91 #[.val (.int p1), .val (.int p2), .val (.int p3), .val (.int p4), .val (.int (3 : Int32)), .val (.int (own_x0 p1 p2)), .val (.int (own_x1 p1 p3)), .val (.int (p4.toInt8.toInt32)), .val (.ref b), .unset] [(.int (31 : Int32)), (.int (own_x0 p1 p2))]))
        refine own_to (fun t k => XS.icmpNo X35.here hx rfl (hb hby at_91) rfl (teq hc91_36).2 k) ?_
        show own_Fin _ _ _ _ _ _ (T35.setTop (mkF m 94 #[.val (.int p1), .val (.int p2), .val (.int p3), .val (.int p4), .val (.int (3 : Int32)), .val (.int (own_x0 p1 p2)), .val (.int (own_x1 p1 p3)), .val (.int (p4.toInt8.toInt32)), .val (.ref b), .unset] []))
        refine own_to (fun t k => XS.iload X35.here hx rfl (hb hby at_94) rfl k) ?_
        show own_Fin _ _ _ _ _ _ (T35.setTop (mkF m 96 #[.val (.int p1), .val (.int p2), .val (.int p3), .val (.int p4), .val (.int (3 : Int32)), .val (.int (own_x0 p1 p2)), .val (.int (own_x1 p1 p3)), .val (.int (p4.toInt8.toInt32)), .val (.ref b), .unset] [(.int (own_x1 p1 p3))]))
        refine own_to (fun t k => XS.bipush X35.here hx rfl (hb hby at_96) k) ?_
        show own_Fin _ _ _ _ _ _ (T35.setTop (mkF m 98 #[.val (.int p1), .val (.int p2), .val (.int p3), .val (.int p4), .val (.int (3 : Int32)), .val (.int (own_x0 p1 p2)), .val (.int (own_x1 p1 p3)), .val (.int (p4.toInt8.toInt32)), .val (.ref b), .unset] [(.int (-117 : Int32)), (.int (own_x1 p1 p3))]))
        by_cases hc98_37 : (own_x1 p1 p3) = (-117 : Int32)
        ·
          show own_Fin _ _ _ _ _ _ (T35.setTop (mkF m 98 #[.val (.int p1), .val (.int p2), .val (.int p3), .val (.int p4), .val (.int (3 : Int32)), .val (.int (own_x0 p1 p2)), .val (.int (own_x1 p1 p3)), .val (.int (p4.toInt8.toInt32)), .val (.ref b), .unset] [(.int (-117 : Int32)), (.int (own_x1 p1 p3))]))
          refine own_to (fun t k => XS.icmpNo X35.here hx rfl (hb hby at_98) rfl (teq hc98_37).2 k) ?_
          show own_Fin _ _ _ _ _ _ (T35.setTop (mkF m 101 #[.val (.int p1), .val (.int p2), .val (.int p3), .val (.int p4), .val (.int (3 : Int32)), .val (.int (own_x0 p1 p2)), .val (.int (own_x1 p1 p3)), .val (.int (p4.toInt8.toInt32)), .val (.ref b), .unset] []))
          refine own_to (fun t k => XS.iconst X35.here hx rfl (hb hby at_101) k) ?_
          show own_Fin _ _ _ _ _ _ (T35.setTop (mkF m 102 #[.val (.int p1), .val (.int p2), .val (.int p3), .val (.int p4), .val (.int (3 : Int32)), .val (.int (own_x0 p1 p2)), .val (.int (own_x1 p1 p3)), .val (.int (p4.toInt8.toInt32)), .val (.ref b), .unset] [(.int (1 : Int32))]))
          refine own_to (fun t k => XS.goto X35.here hx rfl (pc0 := 102) (pc' := 106) rfl (hb hby at_102) (by decide) (by decide) k) ?_
          show own_Fin _ _ _ _ _ _ (T35.setTop (mkF m 106 #[.val (.int p1), .val (.int p2), .val (.int p3), .val (.int p4), .val (.int (3 : Int32)), .val (.int (own_x0 p1 p2)), .val (.int (own_x1 p1 p3)), .val (.int (p4.toInt8.toInt32)), .val (.ref b), .unset] [(.int (1 : Int32))]))
          rw [(show (own_e3 p1 p2 p3) = _ from ((if_pos hc91_36).trans ((if_pos hc98_37).trans rfl)))] at J
          exact J
        ·
          show own_Fin _ _ _ _ _ _ (T35.setTop (mkF m 98 #[.val (.int p1), .val (.int p2), .val (.int p3), .val (.int p4), .val (.int (3 : Int32)), .val (.int (own_x0 p1 p2)), .val (.int (own_x1 p1 p3)), .val (.int (p4.toInt8.toInt32)), .val (.ref b), .unset] [(.int (-117 : Int32)), (.int (own_x1 p1 p3))]))
          refine own_to (fun t k => XS.icmpYes X35.here hx rfl (pc0 := 98) (pc' := 105) rfl (hb hby at_98) rfl (feq hc98_37).2 (by decide) (by decide) k) ?_
          show own_Fin _ _ _ _ _ _ (T35.setTop (mkF m 105 #[.val (.int p1), .val (.int p2), .val (.int p3), .val (.int p4), .val (.int (3 : Int32)), .val (.int (own_x0 p1 p2)), .val (.int (own_x1 p1 p3)), .val (.int (p4.toInt8.toInt32)), .val (.ref b), .unset] []))
          refine own_to (fun t k => XS.iconst X35.here hx rfl (hb hby at_105) k) ?_
          show own_Fin _ _ _ _ _ _ (T35.setTop (mkF m 106 #[.val (.int p1), .val (.int p2), .val (.int p3), .val (.int p4), .val (.int (3 : Int32)), .val (.int (own_x0 p1 p2)), .val (.int (own_x1 p1 p3)), .val (.int (p4.toInt8.toInt32)), .val (.ref b), .unset] [(.int (0 : Int32))]))
          rw [(show (own_e3 p1 p2 p3) = _ from ((if_pos hc91_36).trans ((if_neg hc98_37).trans rfl)))] at J
          exact J
      ·
        show own_Fin _ _ _ _ _ _ (T35.setTop (mkF m 91 #[.val (.int p1), .val (.int p2), .val (.int p3), .val (.int p4), .val (.int (3 : Int32)), .val (.int (own_x0 p1 p2)), .val (.int (own_x1 p1 p3)), .val (.int (p4.toInt8.toInt32)), .val (.ref b), .unset] [(.int (31 : Int32)), (.int (own_x0 p1 p2))]))
        refine own_to (fun t k => XS.icmpYes X35.here hx rfl (pc0 := 91) (pc' := 105) rfl (hb hby at_91) rfl (feq hc91_36).2 (by decide) (by decide) k) ?_
        show own_Fin _ _ _ _ _ _ (T35.setTop (mkF m 105 #[.val (.int p1), .val (.int p2), .val (.int p3), .val (.int p4), .val (.int (3 : Int32)), .val (.int (own_x0 p1 p2)), .val (.int (own_x1 p1 p3)), .val (.int (p4.toInt8.toInt32)), .val (.ref b), .unset] []))
        refine own_to (fun t k => XS.iconst X35.here hx rfl (hb hby at_105) k) ?_
        show own_Fin _ _ _ _ _ _ (T35.setTop (mkF m 106 #[.val (.int p1), .val (.int p2), .val (.int p3), .val (.int p4), .val (.int (3 : Int32)), .val (.int (own_x0 p1 p2)), .val (.int (own_x1 p1 p3)), .val (.int (p4.toInt8.toInt32)), .val (.ref b), .unset] [(.int (0 : Int32))]))
        rw [(show (own_e3 p1 p2 p3) = _ from ((if_neg hc91_36).trans rfl))] at J
        exact J
    show own_Fin _ _ _ _ _ _ (T35.setTop (mkF m 106 #[.val (.int p1), .val (.int p2), .val (.int p3), .val (.int p4), .val (.int (3 : Int32)), .val (.int (own_x0 p1 p2)), .val (.int (own_x1 p1 p3)), .val (.int (p4.toInt8.toInt32)), .val (.ref b), .unset] [(.int (own_e3 p1 p2 p3))]))
    refine own_to (fun t k => XS.istore X35.here hx rfl (hb hby at_106) rfl (l' := #[.val (.int p1), .val (.int p2), .val (.int p3), .val (.int p4), .val (.int (3 : Int32)), .val (.int (own_x0 p1 p2)), .val (.int (own_x1 p1 p3)), .val (.int (p4.toInt8.toInt32)), .val (.ref b), .val (.int (own_e3 p1 p2 p3))]) rfl k) ?_
    show own_Fin _ _ _ _ _ _ (T35.setTop (mkF m 108 #[.val (.int p1), .val (.int p2), .val (.int p3), .val (.int p4), .val (.int (3 : Int32)), .val (.int (own_x0 p1 p2)), .val (.int (own_x1 p1 p3)), .val (.int (p4.toInt8.toInt32)), .val (.ref b), .val (.int (own_e3 p1 p2 p3))] []))
    refine own_to (fun t k => XS.aload X35.here hx rfl (hb hby at_108) rfl rfl k) ?_
    show own_Fin _ _ _ _ _ _ (T35.setTop (mkF m 110 #[.val (.int p1), .val (.int p2), .val (.int p3), .val (.int p4), .val (.int (3 : Int32)), .val (.int (own_x0 p1 p2)), .val (.int (own_x1 p1 p3)), .val (.int (p4.toInt8.toInt32)), .val (.ref b), .val (.int (own_e3 p1 p2 p3))] [(.ref b)]))
    obtain ⟨cl38, Ar38, qa38, Sa38, Na38, Ha38, Ga38⟩ := V35
    have hgz : (own_gz (3 : Int32) (nar .byte (own_x0 p1 p2)) (nar .byte (own_x1 p1 p3))) = (own_e3 p1 p2 p3) := own_m3 p1 p2 p3
    obtain ⟨_, _, ⟨T39, L39, k39, n39⟩, -, X39, ⟨Lc39, hQ39, l39, y39, z39⟩, st39⟩ := Jvm.LawKit.callS X35 hx (y := (⟨"com/example/walk_to_worth/walktoworth/io/GzipMembers", "isGzip", "([B)Z"⟩ : MethodName)) hown (mvT hZ (hw _ (List.mem_of_getElem? (i := 1) rfl))) (mvT hZ (hw _ (List.mem_of_getElem? (i := 2) rfl))) (mvT hZ (hw _ (List.mem_of_getElem? (i := 3) rfl))) (mvT hZ (hw _ (List.mem_of_getElem? (i := 4) rfl))) (by decide) (own_back (W := 0) (own_rm1 l Z a0 hw [] b cl38 (3 : Int32) (nar .byte (own_x0 p1 p2)) (nar .byte (own_x1 p1 p3)) h35 n0 (Nat.le_trans (Nat.le_trans (Nat.le_trans (Nat.le_trans Z0 E28.1) (Keep.of_wr W31).1) (Keep.of_wr W33).1) (Keep.of_wr W35).1) Ar38 Sa38 Na38 (fun _ => ⟨Has.at Ha38 (inb_of Sa38 ⟨by decide, by decide⟩) rfl, Has.at Ha38 (inb_of Sa38 ⟨by decide, by decide⟩) rfl⟩)) hZ (hw _ (List.mem_of_getElem? (i := 4) rfl)) (hw _ (List.mem_of_getElem? (i := 3) rfl)) (by decide) (by decide)) (g := (mkF m 110 #[.val (.int p1), .val (.int p2), .val (.int p3), .val (.int p4), .val (.int (3 : Int32)), .val (.int (own_x0 p1 p2)), .val (.int (own_x1 p1 p3)), .val (.int (p4.toInt8.toInt32)), .val (.ref b), .val (.int (own_e3 p1 p2 p3))] [(.ref b)])) rfl (by rw [hml]; rfl) (argsL := [(.ref b)]) (rest := []) (lenOf own_pd0 rfl) rfl (by show 2 * 0 + _ ≤ _; exact Nat.le_of_eq rfl) (hb hby at_110) (fun _ _ => ⟨rfl, e35, (by decide : 1 + 0 ≤ _), (by decide : 3 + 0 ≤ _)⟩)
    dsimp only [Pt.U, Pt.locs, Pt.cells, Pt.slots] at X39 l39 y39 z39 st39 hQ39
    subst l39 y39 z39
    obtain ⟨rfl, N39q, eh39⟩ := hQ39
    have N39 := Fr.app N35 N39q
    refine own_to (fun t k => st39 t k) ?_
    show own_Fin _ _ _ _ _ _ (T39.setTop (mkF m 113 #[.val (.int p1), .val (.int p2), .val (.int p3), .val (.int p4), .val (.int (3 : Int32)), .val (.int (own_x0 p1 p2)), .val (.int (own_x1 p1 p3)), .val (.int (p4.toInt8.toInt32)), .val (.ref b), .val (.int (own_e3 p1 p2 p3))] [(.int (own_gz (3 : Int32) (nar .byte (own_x0 p1 p2)) (nar .byte (own_x1 p1 p3))))]))
    refine own_to (fun t k => XS.iload X39.here hx rfl (hb hby at_113) rfl k) ?_
    show own_Fin _ _ _ _ _ _ (T39.setTop (mkF m 115 #[.val (.int p1), .val (.int p2), .val (.int p3), .val (.int p4), .val (.int (3 : Int32)), .val (.int (own_x0 p1 p2)), .val (.int (own_x1 p1 p3)), .val (.int (p4.toInt8.toInt32)), .val (.ref b), .val (.int (own_e3 p1 p2 p3))] [(.int (own_e3 p1 p2 p3)), (.int (own_gz (3 : Int32) (nar .byte (own_x0 p1 p2)) (nar .byte (own_x1 p1 p3))))]))
    refine own_to (fun t k => XS.icmpNo X39.here hx rfl (hb hby at_115) rfl (teq hgz).2 k) ?_
    show own_Fin _ _ _ _ _ _ (T39.setTop (mkF m 118 #[.val (.int p1), .val (.int p2), .val (.int p3), .val (.int p4), .val (.int (3 : Int32)), .val (.int (own_x0 p1 p2)), .val (.int (own_x1 p1 p3)), .val (.int (p4.toInt8.toInt32)), .val (.ref b), .val (.int (own_e3 p1 p2 p3))] []))
    refine own_to (fun t k => XS.iconst X39.here hx rfl (hb hby at_118) k) ?_
    show own_Fin _ _ _ _ _ _ (T39.setTop (mkF m 119 #[.val (.int p1), .val (.int p2), .val (.int p3), .val (.int p4), .val (.int (3 : Int32)), .val (.int (own_x0 p1 p2)), .val (.int (own_x1 p1 p3)), .val (.int (p4.toInt8.toInt32)), .val (.ref b), .val (.int (own_e3 p1 p2 p3))] [(.int (1 : Int32))]))
    refine own_to (fun t k => XS.goto X39.here hx rfl (pc0 := 119) (pc' := 123) rfl (hb hby at_119) (by decide) (by decide) k) ?_
    show own_Fin _ _ _ _ _ _ (T39.setTop (mkF m 123 #[.val (.int p1), .val (.int p2), .val (.int p3), .val (.int p4), .val (.int (3 : Int32)), .val (.int (own_x0 p1 p2)), .val (.int (own_x1 p1 p3)), .val (.int (p4.toInt8.toInt32)), .val (.ref b), .val (.int (own_e3 p1 p2 p3))] [(.int (1 : Int32))]))
    refine own_retN X39 hx hlk (t := .boolean) hret (by simp) (hb hby at_123) (by decide) (by decide) ?_
    try rw [eh39]
    exact ⟨rfl, N39⟩
set_option maxRecDepth 65536 in
set_option maxHeartbeats 40000000 in
theorem comes_1 {Post : Tables → Env → Array Value → State → Outcome → State → Prop} (hpost : ∀ tb e args s v u, (limb_1_1.after args s (.returned v) u = true ∧ limb_1_2.after args s (.returned v) u = true ∧ True) → FrameEnd s (.returned v) u (Jvm.fieldLocs frame_1_writes args s ++ Jvm.arrayLocs frame_1_arrays args s ++ Jvm.staticLocs frame_1_statics s) 16 128 → Post tb e args s (.returned v) u) :
    ArmFor flags0 classFile x code maxLocals ret World_1 tables_1 room_1 Calls_1 rest_1 Pre_1 Post := by
  intro l hfl _ _ p e ha hc hk s m args below hf hA hF happ hP
  obtain ⟨hcalls, hrest, hpre⟩ := hP
  obtain ⟨-, -, -, hnamed, -, -, -, hat⟩ := (Spec.applies_iff hf).mp happ
  obtain ⟨hg, hn⟩ := and_e (Cond.before_iff.mp (show (Jvm.Cond.and given_1 narrow_1).before args s = true from hpre))
  obtain ⟨g1, g2⟩ := and_e hg
  obtain ⟨g3, g4⟩ := and_e g2
  obtain ⟨g5, g6⟩ := and_e g4
  obtain ⟨g7, g8⟩ := and_e g6
  obtain ⟨w0, w1, w2, w3, rfl⟩ : ∃ w0 w1 w2 w3 : Value, args = #[w0, w1, w2, w3] := by
    have hs : args.size = 4 := by simpa [Cond.value, given_1] using g1
    obtain ⟨L⟩ := args
    match L, hs with
    | [w0, w1, w2, w3], _ => exact ⟨w0, w1, w2, w3, rfl⟩
  have hw := fun d (hd : d ∈ tables_1) => atoms_spec (ws := Jvm.Cond.code x code maxLocals ret :: tables_1) hat d (List.mem_cons_of_mem _ hd)
  have hfit : Fit s := fun {y c} hc i hi => by
    obtain ⟨ha, rfl⟩ := Array.getElem?_eq_some_iff.mp hc
    have q := List.all_eq_true.mp ((Array.all_eq_true_iff_forall_mem.mp hF) _ (Array.getElem_mem ha)) i (List.mem_range.mpr hi)
    simpa [Array.getElem?_eq_getElem hi] using q
  obtain ⟨i0, ei0⟩ := is_v g3
  obtain rfl : w0 = (.int i0) := Option.some.inj ei0
  obtain ⟨i1, ei1⟩ := is_v g5
  obtain rfl : w1 = (.int i1) := Option.some.inj ei1
  obtain ⟨i2, ei2⟩ := is_v g7
  obtain rfl : w2 = (.int i2) := Option.some.inj ei2
  obtain ⟨i3, ei3⟩ := is_v g8
  obtain rfl : w3 = (.int i3) := Option.some.inj ei3
  obtain ⟨n, o, h1, h2, h3, _, L, rfl, ⟨rfl, N⟩, hq⟩ := own_rm0 l s _ hw tables_1 i0 i1 i2 i3 s.heap s.heap.size (Nat.le_refl _) p e ha hc hk s m _ below hf ((Spec.applies_iff_loose hf).mp happ).1 ⟨rfl, State.Warmed39.refl s, rfl⟩ trivial
  refine ⟨n, _, h1, h2, h3, hpost _ _ _ _ _ _ ⟨Cond.after_iff.mpr rfl, Cond.after_iff.mpr (eq_i res_at (Term.int_eval (1)) rfl), trivial⟩ ⟨hq.1, hq.2.1, (hq.2.2.sift fun y hy => Or.inr (N y hy)).mono (by decide) (by decide)⟩⟩
theorem main_1_1 : Claimed_1_1 := comes_1 fun _ _ _ _ _ _ h hF => ⟨h.1, hF⟩
theorem main_1_2 : Claimed_1_2 := comes_1 fun _ _ _ _ _ _ h hF => ⟨h.2.1, hF⟩
end Jvm.Pilot.@@N@@
namespace Jvm.Pilot.@@N@@
open Jvm Jvm.ClassFile Sem Op Lib Jvm.Free Jvm.Stand Jvm.Pilot.@@N@@.Jvm.D
/-! MADE BY PROGRAM (witnessworld.py) out of the Statement's table words and the real class files: 12 classes; the members and pool entries that the words name. The judged class is class 1, her method 1. -/
namespace start1
open Jvm.ClassFile
def u (s : String) : CpInfo := .utf8 (stringToUtf16 s)
/-- a pool by its gaps: so many unusable entries, then the entry; so many at the end -/
def gap : Nat → List CpInfo → List CpInfo
  | 0, r => r
  | n + 1, r => .unusable :: gap n r
def poolList (es : List (Nat × CpInfo)) (last : Nat) : List CpInfo := es.foldr (fun e r => gap e.1 (e.2 :: r)) (gap last [])
def pool (es : List (Nat × CpInfo)) (last : Nat) : Array CpInfo := ⟨poolList es last⟩
def fileOf (pool : Array CpInfo) (this : Nat) (attrs : Array Attribute := #[]) (ms : Array MethodInfo := #[]) (fl : Nat := 33) (sup : Nat := 0) (ifs : Array Nat := #[]) (fds : Array FieldInfo := #[]) : ClassFile where
  minorVersion := 0
  majorVersion := 65
  constantPool := pool
  accessFlags := fl
  thisClass := this
  superClass := sup
  interfaces := ifs
  fields := fds
  methods := ms
  attributes := attrs
def plain (name : String) (sup : Option ClassId) : Class where
  name := name
  kind := .ordinary
  loader := none
  accessFlags := 33
  super := sup
  interfaces := #[]
  cf := none
  fields := #[]
  methods := #[]
  instanceTypes := #[]
  staticTypes := #[]
  resolved := #[]
  callSites := []
  init := .initialized
  statics := none
  mirror := none

def pool0 : Array CpInfo := pool [(5, u "<init>"), (0, u "()V"), (1, .class_ 10), (1, u "java/lang/Object")] 113

def k0m0 : Method := { name := "<init>", desc := "()V", sig := { parameters := [], returnType := none }, accessFlags := 1, code := none }
/-- java/lang/Object -/
def k0 : Class := { plain "java/lang/Object" none with
  accessFlags := 33
  interfaces := #[]
  cf := some (fileOf pool0 8 #[] #[{ accessFlags := 1, nameIndex := 5, descriptorIndex := 6, attributes := #[] }] 33 0 #[] #[])
  fields := #[]
  methods := #[k0m0]
  instanceTypes := #[]
  staticTypes := #[]
  resolved := Array.replicate 124 none
  statics := none }

def pool1 : Array CpInfo := pool [(2, .class_ 4), (1, u "java/lang/Object"), (0, u "<init>"), (0, u "()V"), (0, .methodref 8 9), (0, .class_ 10), (0, .nameAndType 11 12), (0, u "com/example/walk_to_worth/walktoworth/io/GzipMembers"), (0, u "isGzip"), (0, u "([B)Z"), (0, .class_ 14), (0, u "com/example/walk_to_worth/walktoworth/io/GzipMembersIsGzipPinLaw"), (2, u "law"), (0, u "(IIII)Z")] 5

def k1m0 : Method := { name := "<init>", desc := "()V", sig := { parameters := [], returnType := none }, accessFlags := 1, code := none }
def k1c1 : Code := { maxStack := 3, maxLocals := 10, code := code, exceptionTable := #[], attributes := #[] }
def k1m1 : Method := { name := "law", desc := "(IIII)Z", sig := { parameters := [.int, .int, .int, .int], returnType := some .boolean }, accessFlags := 9, code := some k1c1 }
/-- com/example/walk_to_worth/walktoworth/io/GzipMembersIsGzipPinLaw -/
def k1 : Class := { plain "com/example/walk_to_worth/walktoworth/io/GzipMembersIsGzipPinLaw" (some 0) with
  accessFlags := 49
  interfaces := #[]
  cf := some (fileOf pool1 13 #[] #[{ accessFlags := 1, nameIndex := 5, descriptorIndex := 6, attributes := #[] }, { accessFlags := 9, nameIndex := 17, descriptorIndex := 18, attributes := #[] }] 49 2 #[] #[])
  fields := #[]
  methods := #[k1m0, k1m1]
  instanceTypes := #[]
  staticTypes := #[]
  resolved := Array.replicate 24 none
  statics := none }

def pool2 : Array CpInfo := pool [(1, .class_ 2), (0, u "java/lang/AutoCloseable"), (0, .class_ 4), (0, u "java/lang/Object")] 7

/-- java/lang/AutoCloseable -/
def k2 : Class := { plain "java/lang/AutoCloseable" (some 0) with
  accessFlags := 1537
  interfaces := #[]
  cf := some (fileOf pool2 1 #[] #[] 1537 3 #[] #[])
  fields := #[]
  methods := #[]
  instanceTypes := #[]
  staticTypes := #[]
  resolved := Array.replicate 12 none
  statics := none }

def pool3 : Array CpInfo := pool [(1, .class_ 2), (0, u "java/io/Closeable"), (0, .class_ 4), (0, u "java/lang/Object"), (0, .class_ 6), (0, u "java/lang/AutoCloseable")] 7

/-- java/io/Closeable -/
def k3 : Class := { plain "java/io/Closeable" (some 0) with
  accessFlags := 1537
  interfaces := #[2]
  cf := some (fileOf pool3 1 #[] #[] 1537 3 #[5] #[])
  fields := #[]
  methods := #[]
  instanceTypes := #[]
  staticTypes := #[]
  resolved := Array.replicate 14 none
  statics := none }

def pool4 : Array CpInfo := pool [(4, .class_ 6), (1, u "java/lang/Object"), (0, u "<init>"), (0, u "()V"), (0, .class_ 10), (0, u "java/io/InputStream$1"), (2, .class_ 15), (1, u "java/io/InputStream"), (116, .class_ 133), (0, u "java/io/Closeable"), (0, u "MAX_SKIP_BUFFER_SIZE"), (0, u "I"), (2, u "DEFAULT_BUFFER_SIZE"), (1, u "MAX_BUFFER_SIZE")] 54

def k4m0 : Method := { name := "<init>", desc := "()V", sig := { parameters := [], returnType := none }, accessFlags := 1, code := none }
/-- java/io/InputStream -/
def k4 : Class := { plain "java/io/InputStream" (some 0) with
  accessFlags := 1057
  interfaces := #[3]
  cf := some (fileOf pool4 13 #[.nestMembers #[9]] #[{ accessFlags := 1, nameIndex := 7, descriptorIndex := 8, attributes := #[] }] 1057 4 #[132] #[{ accessFlags := 26, nameIndex := 134, descriptorIndex := 135, attributes := #[] }, { accessFlags := 26, nameIndex := 138, descriptorIndex := 135, attributes := #[] }, { accessFlags := 26, nameIndex := 140, descriptorIndex := 135, attributes := #[] }])
  fields := #[{ name := "MAX_SKIP_BUFFER_SIZE", type := .int, accessFlags := 26, slot := 0, constantValue := 0 }, { name := "DEFAULT_BUFFER_SIZE", type := .int, accessFlags := 26, slot := 1, constantValue := 0 }, { name := "MAX_BUFFER_SIZE", type := .int, accessFlags := 26, slot := 2, constantValue := 0 }]
  methods := #[k4m0]
  instanceTypes := #[]
  staticTypes := #[.int, .int, .int]
  resolved := Array.replicate 195 none
  statics := none }

def pool5 : Array CpInfo := pool [(2, .class_ 4), (1, u "java/io/InputStream"), (2, .class_ 8), (0, u "com/example/walk_to_worth/walktoworth/io/GzipMembers"), (3, u "input"), (0, u "[B"), (7, u "inflater"), (0, u "Ljava/util/zip/Inflater;"), (5, u "crc"), (0, u "Ljava/util/zip/CRC32;"), (2, u "source"), (0, u "Ljava/io/InputStream;"), (12, u "ended"), (0, u "Z"), (2, u "inMember"), (18, u "member"), (0, u "I"), (46, u "position"), (2, u "limit"), (54, u "MAGIC_LENGTH"), (2, u "ID1"), (1, u "ID2"), (1, u "DEFLATE"), (1, u "FHCRC"), (0, u "FEXTRA"), (1, u "FNAME"), (0, u "FCOMMENT"), (1, u "RESERVED"), (1, u "TIME_AND_SYSTEM"), (1, u "BUFFER_SIZE"), (3, u "isGzip"), (0, u "([B)Z")] 31

def k5c0 : Code := { maxStack := 2, maxLocals := 1, code := prog_18_method_2_code, exceptionTable := #[], attributes := #[] }
def k5m0 : Method := { name := "isGzip", desc := "([B)Z", sig := { parameters := [(.array .byte)], returnType := some .boolean }, accessFlags := 8, code := some k5c0 }
/-- com/example/walk_to_worth/walktoworth/io/GzipMembers -/
def k5 : Class := { plain "com/example/walk_to_worth/walktoworth/io/GzipMembers" (some 4) with
  accessFlags := 48
  interfaces := #[]
  cf := some (fileOf pool5 7 #[] #[{ accessFlags := 8, nameIndex := 198, descriptorIndex := 199, attributes := #[] }] 48 2 #[] #[{ accessFlags := 24, nameIndex := 175, descriptorIndex := 70, attributes := #[] }, { accessFlags := 26, nameIndex := 178, descriptorIndex := 70, attributes := #[] }, { accessFlags := 26, nameIndex := 180, descriptorIndex := 70, attributes := #[] }, { accessFlags := 26, nameIndex := 182, descriptorIndex := 70, attributes := #[] }, { accessFlags := 26, nameIndex := 184, descriptorIndex := 70, attributes := #[] }, { accessFlags := 26, nameIndex := 185, descriptorIndex := 70, attributes := #[] }, { accessFlags := 26, nameIndex := 187, descriptorIndex := 70, attributes := #[] }, { accessFlags := 26, nameIndex := 188, descriptorIndex := 70, attributes := #[] }, { accessFlags := 26, nameIndex := 190, descriptorIndex := 70, attributes := #[] }, { accessFlags := 26, nameIndex := 192, descriptorIndex := 70, attributes := #[] }, { accessFlags := 26, nameIndex := 194, descriptorIndex := 70, attributes := #[] }, { accessFlags := 18, nameIndex := 32, descriptorIndex := 33, attributes := #[] }, { accessFlags := 18, nameIndex := 12, descriptorIndex := 13, attributes := #[] }, { accessFlags := 18, nameIndex := 21, descriptorIndex := 22, attributes := #[] }, { accessFlags := 18, nameIndex := 28, descriptorIndex := 29, attributes := #[] }, { accessFlags := 2, nameIndex := 117, descriptorIndex := 70, attributes := #[] }, { accessFlags := 2, nameIndex := 120, descriptorIndex := 70, attributes := #[] }, { accessFlags := 2, nameIndex := 69, descriptorIndex := 70, attributes := #[] }, { accessFlags := 2, nameIndex := 50, descriptorIndex := 47, attributes := #[] }, { accessFlags := 2, nameIndex := 46, descriptorIndex := 47, attributes := #[] }])
  fields := #[{ name := "MAGIC_LENGTH", type := .int, accessFlags := 24, slot := 0, constantValue := 0 }, { name := "ID1", type := .int, accessFlags := 26, slot := 1, constantValue := 0 }, { name := "ID2", type := .int, accessFlags := 26, slot := 2, constantValue := 0 }, { name := "DEFLATE", type := .int, accessFlags := 26, slot := 3, constantValue := 0 }, { name := "FHCRC", type := .int, accessFlags := 26, slot := 4, constantValue := 0 }, { name := "FEXTRA", type := .int, accessFlags := 26, slot := 5, constantValue := 0 }, { name := "FNAME", type := .int, accessFlags := 26, slot := 6, constantValue := 0 }, { name := "FCOMMENT", type := .int, accessFlags := 26, slot := 7, constantValue := 0 }, { name := "RESERVED", type := .int, accessFlags := 26, slot := 8, constantValue := 0 }, { name := "TIME_AND_SYSTEM", type := .int, accessFlags := 26, slot := 9, constantValue := 0 }, { name := "BUFFER_SIZE", type := .int, accessFlags := 26, slot := 10, constantValue := 0 }, { name := "source", type := (.object "java/io/InputStream"), accessFlags := 18, slot := 0, constantValue := 0 }, { name := "input", type := (.array .byte), accessFlags := 18, slot := 1, constantValue := 0 }, { name := "inflater", type := (.object "java/util/zip/Inflater"), accessFlags := 18, slot := 2, constantValue := 0 }, { name := "crc", type := (.object "java/util/zip/CRC32"), accessFlags := 18, slot := 3, constantValue := 0 }, { name := "position", type := .int, accessFlags := 2, slot := 4, constantValue := 0 }, { name := "limit", type := .int, accessFlags := 2, slot := 5, constantValue := 0 }, { name := "member", type := .int, accessFlags := 2, slot := 6, constantValue := 0 }, { name := "inMember", type := .boolean, accessFlags := 2, slot := 7, constantValue := 0 }, { name := "ended", type := .boolean, accessFlags := 2, slot := 8, constantValue := 0 }]
  methods := #[k5m0]
  instanceTypes := #[(.object "java/io/InputStream"), (.array .byte), (.object "java/util/zip/Inflater"), (.object "java/util/zip/CRC32"), .int, .int, .int, .boolean, .boolean]
  staticTypes := #[.int, .int, .int, .int, .int, .int, .int, .int, .int, .int, .int]
  resolved := Array.replicate 231 none
  statics := none }

def pool6 : Array CpInfo := pool [(1, u "java/lang/Cloneable"), (0, .class_ 1), (0, u "java/lang/Object"), (0, .class_ 3)] 3

/-- java/lang/Cloneable -/
def k6 : Class := { plain "java/lang/Cloneable" (some 0) with
  accessFlags := 1537
  interfaces := #[]
  cf := some (fileOf pool6 2 #[] #[] 1537 4 #[] #[])
  fields := #[]
  methods := #[]
  instanceTypes := #[]
  staticTypes := #[]
  resolved := Array.replicate 8 none
  statics := none }

def pool7 : Array CpInfo := pool [(1, u "java/io/Serializable"), (0, .class_ 1), (0, u "java/lang/Object"), (0, .class_ 3)] 3

/-- java/io/Serializable -/
def k7 : Class := { plain "java/io/Serializable" (some 0) with
  accessFlags := 1537
  interfaces := #[]
  cf := some (fileOf pool7 2 #[] #[] 1537 4 #[] #[])
  fields := #[]
  methods := #[]
  instanceTypes := #[]
  staticTypes := #[]
  resolved := Array.replicate 8 none
  statics := none }

/-- the primitive byte -/
def k8 : Class := { plain "byte" none with kind := .primitive 'B', accessFlags := 0x411 }
/-- [B -/
def k9 : Class := { plain "[B" (some 0) with kind := .array 8 .byte, interfaces := #[6, 7], accessFlags := 1041 }

/-- the primitive int -/
def k10 : Class := { plain "int" none with kind := .primitive 'I', accessFlags := 0x411 }
/-- [I -/
def k11 : Class := { plain "[I" (some 0) with kind := .array 10 .int, interfaces := #[6, 7], accessFlags := 1041 }

def heap : Heap := #[]
def classes : Array Class := #[k0, k1, k2, k3, k4, k5, k6, k7, k8, k9, k10, k11]
def interned : List (Array UInt16 × Addr) := []
def slotsUsed : Nat := 0
def theMethod : MethodId := ⟨1, 1⟩
def args0 : Array Value := #[.int 5, .int 7, .int 9, .int 3]
def aboutOver (below : List Frame) : State where
  vm := { classes := classes, interned := interned.toArray }
  heap := heap
  slotsUsed := slotsUsed
  threads := #[{ frames := .invoking theMethod args0 :: below }]
def below0 : List Frame := [.native { method := ⟨0, 0⟩, args := #[] }]
def about1 : State := aboutOver below0
def p0 : Program := .bare "" "" ""
def e0 : Env := launch0.env 0 0 0
theorem w_frames : about1.frames = Frame.invoking theMethod args0 :: below0 := rfl
set_option maxRecDepth 65536 in
theorem w_args : argsFit about1.vm theMethod args0 = true := by decide +kernel
set_option maxRecDepth 65536 in
theorem w_heap : heapFits about1 = true := by decide +kernel
set_option maxRecDepth 65536 in
theorem w_runnable : about1.curStatus? = some .runnable := by decide +kernel
set_option maxRecDepth 65536 in
theorem w_alone : about1.alone = true := by decide +kernel
set_option maxRecDepth 65536 in
theorem w_named : about1.methodNamed? x = some theMethod := by decide +kernel
set_option maxRecDepth 65536 in
theorem w_hears : about1.hears theMethod below0 = true := by decide +kernel
set_option maxRecDepth 65536 in
theorem w_ripe : about1.ripe theMethod args0 below0 = true := by decide +kernel
theorem w_running : about1.status = .running := rfl
set_option maxRecDepth 65536 in
theorem w_room : about1.hasRoom e0.platform room_1 = true :=
  launch0.hasRoom_least _ room_1 (by decide +kernel) (by decide +kernel) (by decide +kernel) (by decide +kernel) (by decide +kernel) (by decide +kernel)
theorem allAtoms_all (ts : List Jvm.Cond) (a : Array Jvm.Value) (st : Jvm.State) : (allAtoms ts).before a st = ts.all (fun c => c.before a st) := by
  induction ts with
  | nil => rfl
  | cons c t ih =>
    show (Jvm.Cond.and c (allAtoms t)).before a st = _
    rw [Jvm.Cond.before_and, ih, List.all_cons]
def words1 : List Jvm.Cond := Jvm.Cond.code x code maxLocals ret :: tables_1
/-- a 'code' word, met by the world's own term for the bytes: nothing is compared byte by byte -/
theorem code_word {y : MethodName} {bytes : ByteArray} {mx : Nat} {rt : Option FieldType} {a : Array Value} {s : State} {m : MethodId} {meth : Method} {c : Code} (h1 : s.methodNamed? y = some m) (h2 : s.vm.method? m = some meth) (h3 : meth.code = some c) (h4 : c.code = bytes)
    (h5 : (c.maxLocals == mx && c.exceptionTable.isEmpty && decide (c.maxStack ≤ mostOperands) && decide (meth.sig.returnType = rt) && !meth.locks && decide (parseMethodDescriptor y.desc = some meth.sig)) = true) : (Jvm.Cond.code y bytes mx rt).before a s = true := by
  simp only [Bool.and_eq_true, beq_iff_eq, Bool.not_eq_true', decide_eq_true_eq] at h5
  obtain ⟨⟨⟨⟨⟨g1, g2⟩, g3⟩, g4⟩, g5⟩, g6⟩ := h5
  simp [Cond.before, Cond.holds, Cond.value, h1, h2, h3, h4, g1, g2, g3, g4, g5, g6]
def isCode : Jvm.Cond → Bool
  | .code _ _ _ _ => true
  | _ => false
theorem all_split {L : List Jvm.Cond} {P : Jvm.Cond → Bool} (h1 : L.all (fun c => isCode c || P c) = true) (h2 : ∀ c ∈ L.filter isCode, P c = true) : L.all P = true := by
  refine List.all_eq_true.mpr fun c hc => ?_
  have h := List.all_eq_true.mp h1 c hc
  rcases Bool.eq_false_or_eq_true (isCode c) with hi | hi
  · exact h2 c (List.mem_filter.mpr ⟨hc, hi⟩)
  · simpa [hi] using h
set_option maxRecDepth 65536 in
theorem w_c0 : (Jvm.Cond.code x code maxLocals ret).before args0 about1 = true := code_word (m := ⟨1, 1⟩) (meth := k1m1) (c := k1c1) (by decide +kernel) rfl rfl rfl (by decide +kernel)
set_option maxRecDepth 65536 in
theorem w_c1 : (Jvm.Cond.code ({ cls := "com/example/walk_to_worth/walktoworth/io/GzipMembers", name := "isGzip", desc := "([B)Z" } : Jvm.MethodName) prog_18_method_2_code (1 : Nat) (Option.some Jvm.ClassFile.FieldType.boolean)).before args0 about1 = true := code_word (m := ⟨5, 0⟩) (meth := k5m0) (c := k5c0) (by decide +kernel) rfl rfl rfl (by decide +kernel)
def codes1 : List Jvm.Cond := [Jvm.Cond.code x code maxLocals ret, Jvm.Cond.code ({ cls := "com/example/walk_to_worth/walktoworth/io/GzipMembers", name := "isGzip", desc := "([B)Z" } : Jvm.MethodName) prog_18_method_2_code (1 : Nat) (Option.some Jvm.ClassFile.FieldType.boolean)]
set_option maxRecDepth 65536 in
theorem codes_eq : words1.filter isCode = codes1 := rfl
theorem w_codes : ∀ c ∈ words1.filter isCode, c.before args0 about1 = true := by
  rw [codes_eq]
  intro c hc
  simp only [codes1, List.mem_cons, List.not_mem_nil, or_false] at hc
  rcases hc with rfl | rfl
  · exact w_c0
  · exact w_c1
set_option maxRecDepth 65536 in
theorem w_t1 : words1.all (fun c => isCode c || c.before args0 about1) = true := by decide +kernel
theorem w_tables : (allAtoms (Jvm.Cond.code x code maxLocals ret :: tables_1)).before args0 about1 = true := by
  rw [allAtoms_all]
  show words1.all (fun c => c.before args0 about1) = true
  refine all_split ?_ w_codes
  rw [w_t1]
set_option maxRecDepth 65536 in
theorem w_case : (Jvm.Cond.and given_1 narrow_1).before args0 about1 = true := by decide +kernel
theorem w_applies : (headSpec (Jvm.Cond.code x code maxLocals ret :: tables_1) room_1).applies x e0.platform about1 = true :=
  (Spec.applies_iff w_frames).mpr ⟨w_running, w_runnable, w_alone, w_named, w_hears, w_ripe, w_room, w_tables⟩
theorem atStart : AtStart classFile x code maxLocals ret World_1 tables_1 room_1 Calls_1 rest_1 Pre_1 launch0 p0 e0 about1 theMethod args0 below0 :=
  ⟨lists_1, trivial, launch0.admits_env _ _ _, launch0.least_env, fairChoices_fair.cas, fairChoices_fair.clock, w_frames, w_args, w_heap, w_applies, trivial, trivial, w_case⟩
end start1
theorem witness_1 : WitnessClaimed_1 := ⟨start1.p0, start1.e0, start1.about1, start1.theMethod, start1.args0, start1.below0, start1.atStart⟩
end Jvm.Pilot.@@N@@
