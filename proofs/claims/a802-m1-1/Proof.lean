import JvmDerived
import JvmDerived.Pilot.@@N@@Statement
import JvmDerived.Pilot.@@N@@Code
set_option linter.unusedVariables false
set_option linter.unusedSimpArgs false
@@BLOCK:NumsL.lean.txt@@
namespace Jvm.Pilot.@@N@@
open Jvm Jvm.ClassFile Sem Op Lib Jvm.Free Jvm.Stand Jvm.LawKit Jvm.RoadKit Bundle Jvm.Pilot.@@N@@.Jvm.D
section Own
variable {p : Program} {l : Launch} {e : Env} {R : Room} {s Z : State} {m : MethodId} {args : Array Value} {below : List Frame} {meth : Method} {c : Code} {T : State} {locs : List Loc} {cells slots : Nat} {q : Option Value → Heap → List Loc → Prop}
/-- from U the run ends in a return, as q says -/
def own_Fin (p : Program) (e : Env) (below : List Frame) (s : State) (R : Room) (q : Option Value → Heap → List Loc → Prop) (U : State) : Prop :=
  ∃ s₂ o, Steps p.tables e below U s₂ ∧ s₂.status = .running ∧ Ended s₂ below o ∧ ∃ v L, o = .returned v ∧ q v s₂.heap L ∧ FrameEnd s o s₂ L R.cells R.slots
theorem own_to {U U' : State} (h : ∀ t, Steps p.tables e below U' t → Steps p.tables e below U t) (k : own_Fin p e below s R q U') : own_Fin p e below s R q U := by
  obtain ⟨s₂, o, h1, r⟩ := k
  exact ⟨s₂, o, h _ h1, r⟩
theorem own_ite {C : Prop} [Decidable C] {G : Int32 → State} {U : State} {v1 v0 : Int32} (k : own_Fin p e below s R q (G (if C then v1 else v0))) (h1 : C → own_Fin p e below s R q (G v1) → own_Fin p e below s R q U) (h0 : ¬ C → own_Fin p e below s R q (G v0) → own_Fin p e below s R q U) : own_Fin p e below s R q U := by
  by_cases h : C
  · rw [if_pos h] at k; exact h1 h k
  · rw [if_neg h] at k; exact h0 h k
theorem own_cut {U V : State} (k : own_Fin p e below s R q V) (h : own_Fin p e below s R q V → own_Fin p e below s R q U) : own_Fin p e below s R q U := h k
theorem own_retN (X : Stand p l e R s m args below meth c T locs cells slots) (hx : p.tables.exec = Jvm.exec) (hlk : meth.locks = false) {pc : Nat} {Ls : Array Slot} {z : Int32} {t : FieldType} {rest : List Value} (hret : meth.sig.returnType = some t) (ht : t = .boolean ∨ t = .byte ∨ t = .char ∨ t = .short) (hd : decode c.code pc = .ok (.ireturn, 1)) (hc : cells ≤ R.cells) (hs : slots ≤ R.slots) (hq : q (some (.int (nar t z))) T.heap locs) :
    own_Fin p e below s R q (T.setTop (mkF m pc Ls (.int z :: rest))) := by
  obtain ⟨fs, hr, hrun, hended, hW, hsame⟩ := X.leave (v := some (.int (nar t z))) (fun h => by rw [hret] at h; cases h)
  exact ⟨_, _, retN X hx hret ht hd hr, hrun, hended, _, _, rfl, hq, ⟨_, rfl⟩, hW, hsame.mono hc hs⟩
theorem own_retI (X : Stand p l e R s m args below meth c T locs cells slots) (hx : p.tables.exec = Jvm.exec) (hlk : meth.locks = false) {pc : Nat} {Ls : Array Slot} {z : Int32} {rest : List Value} (hret : meth.sig.returnType = some .int) (hd : decode c.code pc = .ok (.ireturn, 1)) (hc : cells ≤ R.cells) (hs : slots ≤ R.slots) (hq : q (some (.int z)) T.heap locs) :
    own_Fin p e below s R q (T.setTop (mkF m pc Ls (.int z :: rest))) := by
  obtain ⟨fs, hr, hrun, hended, hW, hsame⟩ := X.leave (v := some (.int z)) (fun h => by rw [hret] at h; cases h)
  exact ⟨_, _, retOut X hx hret rfl (Or.inl ⟨rfl, Or.inl rfl, z, rfl⟩) hd hr, hrun, hended, _, _, rfl, hq, ⟨_, rfl⟩, hW, hsame.mono hc hs⟩
theorem own_retJ (X : Stand p l e R s m args below meth c T locs cells slots) (hx : p.tables.exec = Jvm.exec) (hlk : meth.locks = false) {pc : Nat} {Ls : Array Slot} {z : Int64} {rest : List Value} (hret : meth.sig.returnType = some .long) (hd : decode c.code pc = .ok (.lreturn, 1)) (hc : cells ≤ R.cells) (hs : slots ≤ R.slots) (hq : q (some (.long z)) T.heap locs) :
    own_Fin p e below s R q (T.setTop (mkF m pc Ls (.long z :: rest))) := by
  obtain ⟨fs, hr, hrun, hended, hW, hsame⟩ := X.leave (v := some (.long z)) (fun h => by rw [hret] at h; cases h)
  exact ⟨_, _, retOut X hx hret rfl (Or.inr (Or.inl ⟨rfl, rfl, z, rfl⟩)) hd hr, hrun, hended, _, _, rfl, hq, ⟨_, rfl⟩, hW, hsame.mono hc hs⟩
theorem own_retR (X : Stand p l e R s m args below meth c T locs cells slots) (hx : p.tables.exec = Jvm.exec) (hlk : meth.locks = false) {pc : Nat} {Ls : Array Slot} {w : Value} {t : FieldType} {rest : List Value} (hret : meth.sig.returnType = some t) (ht : t.isReference = true) (hw : w.isRef = true) (hn : narrow t w = w) (hd : decode c.code pc = .ok (.areturn, 1)) (hc : cells ≤ R.cells) (hs : slots ≤ R.slots) (hq : q (some w) T.heap locs) :
    own_Fin p e below s R q (T.setTop (mkF m pc Ls (w :: rest))) := by
  obtain ⟨fs, hr, hrun, hended, hW, hsame⟩ := X.leave (v := some w) (fun h => by rw [hret] at h; cases h)
  exact ⟨_, _, retOut X hx hret hn (Or.inr (Or.inr (Or.inr (Or.inr ⟨rfl, ht, hw⟩)))) hd hr, hrun, hended, _, _, rfl, hq, ⟨_, rfl⟩, hW, hsame.mono hc hs⟩
theorem own_retV (X : Stand p l e R s m args below meth c T locs cells slots) (hx : p.tables.exec = Jvm.exec) (hlk : meth.locks = false) {pc : Nat} {Ls : Array Slot} (hret : meth.sig.returnType = none) (hd : decode c.code pc = .ok (.return_, 1)) (hc : cells ≤ R.cells) (hs : slots ≤ R.slots) (hq : q none T.heap locs) :
    own_Fin p e below s R q (T.setTop (mkF m pc Ls [])) := by
  obtain ⟨fs, hr, hrun, hended, hW, hsame⟩ := X.leave (v := none) (fun _ => rfl)
  exact ⟨_, _, X.returnOut hx hret hd hr, hrun, hended, _, _, rfl, hq, ⟨_, rfl⟩, hW, hsame.mono hc hs⟩
/-- the contract of a body at given arguments and a given heap -/
abbrev own_Met (l : Launch) (Z : State) (y : MethodName) (bytes : ByteArray) (maxL : Nat) (ret : Option FieldType) (ws : List Jvm.Cond) (rm : Room) (as' : Array Value) (h0 : Heap) (q : Option Value → Heap → List Loc → Prop) : Prop :=
  MetFree l y (head1 (Jvm.Cond.code y bytes maxL ret :: ws) rm) (fun a U => a = as' ∧ Z.Warmed39 U.vm ∧ U.heap = h0) (fun _ _ _ _ _ => True) (fun _ U o U' => ∃ v L, o = .returned v ∧ q v U'.heap L ∧ FrameEnd U o U' L rm.cells rm.slots)
theorem own_back {a0 : Array Value} {h : Heap} {y : MethodName} {bytes : ByteArray} {maxL : Nat} {ret : Option FieldType} {rm : Room} {len W : Nat} {as' : Array Value} (hM : own_Met l Z y bytes maxL ret [] rm as' h q)
    (hZ : Z.Warmed39 s.vm) (wc : (Jvm.Cond.code y bytes maxL ret).before a0 Z = true) (wz : (Jvm.Cond.initialized y.cls).before a0 Z = true) (hf : rm.frames + 1 ≤ R.frames) (hl : W + (maxL + 11) + rm.locals ≤ R.locals) :
    Back l R p e below s args y len W (fun A a => a = as' ∧ A.U.heap = h ∧ A.cells + rm.cells ≤ R.cells ∧ A.slots + rm.slots ≤ R.slots)
      (fun A _ v B => ∃ L, q v B.U.heap L ∧ B.locs = A.locs ++ L ∧ B.cells = A.cells + rm.cells ∧ B.slots = A.slots + rm.slots) := backOf (Q := q) hM hZ wc wz hf hl
theorem own_enter {y : MethodName} {bytes : ByteArray} {maxL : Nat} {ret : Option FieldType} {ws : List Jvm.Cond} {rm : Room} {as' : Array Value} {h0 : Heap} (hpl : plainFor y = true)
    (k : ∀ (p : Program) (e : Env) (s : State) (m : MethodId) (below : List Frame) (meth : Method) (c : Code) (s₁ : State), Stand p l e rm s m as' below meth c s₁ [] 0 0 → p.tables.exec = Jvm.exec → Z.Warmed39 s.vm → c.code = bytes → c.maxLocals = maxL → s.vm.findClass y.cls = some m.cls → meth.name = y.name → meth.sig.returnType = ret → meth.locks = false → s₁.heap = h0 → own_Fin p e below s rm q (s₁.setTop (entryFrame m as' maxL))) :
    own_Met l Z y bytes maxL ret ws rm as' h0 q := by
  refine MetFree.of_bodySF hpl hisR ?_
  intro p e s m args below meth c s₁ Bd hml0 hP hK
  obtain ⟨rfl, hZ, hh⟩ := hP
  exact k p e s m below meth c s₁ (Stand.of_body Bd) Bd.exec hZ Bd.bytes hml0 (findClass_of_methodNamed Bd.named) (name_of_methodNamed Bd.named Bd.method).1 Bd.returns Bd.notSynchronized (by rw [← hh, Bd.state]; rfl)
theorem own_selP {a : Array Value} {y y' : MethodName} (w : (Jvm.Cond.selects y'.cls y' y').before a s = true) (hc : y'.cls = y.cls) (hp : s.PrivateAt y) (hi : (Jvm.Cond.instanceMethod y).before a s = true) (hy : y.cls ≠ "java/lang/invoke/MethodHandle" ∧ y.cls ≠ "java/lang/invoke/VarHandle") : (Jvm.Cond.selects y.cls y y).before a s = true := by
  obtain ⟨c, r, m, h1, -, h3, -, mk, h4, h5⟩ := Cond.selects_spec w
  exact selects_self_of_private (c := m.cls) (k := mk) (hc ▸ findClass_of_methodNamed h3) h4 h5 hp hi hy
end Own
abbrev own_i (n : Int32) : Slot := .val (.int n)
theorem own_W {Z : State} {a0 : Array Value} (hw : ∀ d ∈ tables_1, d.before a0 Z = true) {d : Jvm.Cond} (i : Nat) (h : tables_1[i]? = some d) : d.before a0 Z = true := hw d (List.mem_of_getElem? h)
theorem own_idem (y : Int32) : nar .byte (y.toInt8.toInt32) = y.toInt8.toInt32 := by
  show (y.toInt8.toInt32).toInt8.toInt32 = _
  rw [Int8.toInt8_toInt32]
theorem own_lt32 (x y : Int32) : (x < y) = (x.toInt < y.toInt) := propext Int32.lt_iff_toInt_lt
theorem own_nc (x : Int32) : nar .char ((x &&& (255 : Int32)).toUInt32.toUInt16.toUInt32.toInt32) = x &&& (255 : Int32) := by
  show ((x &&& (255 : Int32)).toUInt32.toUInt16.toUInt32.toInt32).toUInt32.toUInt16.toUInt32.toInt32 = _
  rw [i2c_mask, i2c_mask]
theorem own_low {x : Int32} (h0 : ¬ x < 0) (h1 : ¬ (255 : Int32) < x) : (x &&& (255 : Int32)) = x := by
  rw [own_lt32, show (0 : Int32).toInt = 0 from rfl] at h0
  rw [own_lt32, show (255 : Int32).toInt = 255 from by decide] at h1
  rw [← Int32.toInt_inj, Jvm.Kit.i32_mask x 255 (k := 8) (by decide) (by decide)]; omega
theorem own_nb {x : Int32} (h0 : ¬ x < 0) (h1 : ¬ (255 : Int32) < x) : nar .char x = x := by
  have f := i2c_mask x
  rw [own_low h0 h1] at f
  exact f
theorem own_inf {x : Int32} (h0 : ¬ x < 0) (h1 : ¬ (255 : Int32) < x) : nar .char (((x.toInt8.toInt32 &&& (255 : Int32)).toUInt32.toUInt16.toUInt32.toInt32)) = x := by
  rw [own_nc]
  rw [own_lt32, show (0 : Int32).toInt = 0 from rfl] at h0
  rw [own_lt32, show (255 : Int32).toInt = 255 from by decide] at h1
  rw [← Int32.toInt_inj, Jvm.Kit.i32_mask _ 255 (k := 8) (by decide) (by decide), Int8.toInt_toInt32, Int32.toInt_toInt8, Int.bmod_def]; omega
theorem own_fx {x : Int32} (h0 : ¬ x < 0) (h1 : ¬ (255 : Int32) < x) : fits .char (.int x) = true := by
  have f := fits_nar_char x; rw [own_nb h0 h1] at f; exact f
def own_at (xs : List Int32) (j : Int32) : Int32 := xs.getD j.toNatClampNeg 0
theorem own_getm (xs : List Int32) (j : Nat) : (xs.map Value.int).getD j (.int (0 : Int32)) = .int (xs.getD j 0) := by
  simp only [List.getD_eq_getElem?_getD, List.getElem?_map]
  cases xs[j]? <;> rfl
def own_ca (xs : List Int32) (j : Int32) : Int32 := if j < (21 : Int32) then own_at xs j else 0
def own_dig (xs : List Int32) (a b : Int32) : Prop :=
  ¬ a < 0 ∧ a.toInt ≤ b.toInt ∧ b.toInt ≤ 21 ∧ (∀ t : Int32, a.toInt ≤ t.toInt → t.toInt < b.toInt → ¬ own_at xs t < (48 : Int32) ∧ ¬ (57 : Int32) < own_at xs t) ∧ (b < (21 : Int32) → own_at xs b < (48 : Int32) ∨ (57 : Int32) < own_at xs b)
theorem own_inc {j b : Int32} (h0 : ¬ j < 0) (hb : j.toInt < b.toInt) (hh : b.toInt ≤ 21) : (j + 1).toInt = j.toInt + 1 ∧ ¬ (j + 1) < 0 := by
  rw [own_lt32, show (0 : Int32).toInt = 0 from rfl] at h0
  have e : (j + 1).toInt = j.toInt + 1 := Jvm.Kit.i32_add (by rw [show (1 : Int32).toInt = 1 from rfl]; omega) (by rw [show (1 : Int32).toInt = 1 from rfl]; omega)
  refine ⟨e, ?_⟩
  rw [own_lt32, e, show (0 : Int32).toInt = 0 from rfl]; omega
theorem own_ltn {j b : Int32} (hb : j.toInt < b.toInt) (hh : b.toInt ≤ 21) : j < (21 : Int32) := by
  rw [own_lt32, show (21 : Int32).toInt = 21 from by decide]; omega
theorem own_d6_0 : decode jdk_52_method_21_code 0 = .ok (.iconst 0, 1) := by decide +kernel
theorem own_d6_1 : decode jdk_52_method_21_code 1 = .ok (.istore 5, 2) := by decide +kernel
theorem own_d6_3 : decode jdk_52_method_21_code 3 = .ok (.iload 5, 2) := by decide +kernel
theorem own_d6_5 : decode jdk_52_method_21_code 5 = .ok (.iload 4, 2) := by decide +kernel
theorem own_d6_7 : decode jdk_52_method_21_code 7 = .ok (.if_icmp .ge 37, 3) := by decide +kernel
theorem own_d6_10 : decode jdk_52_method_21_code 10 = .ok (.aload_n 0, 1) := by decide +kernel
theorem own_d6_11 : decode jdk_52_method_21_code 11 = .ok (.iload_n 1, 1) := by decide +kernel
theorem own_d6_12 : decode jdk_52_method_21_code 12 = .ok (.caload, 1) := by decide +kernel
theorem own_d6_13 : decode jdk_52_method_21_code 13 = .ok (.istore 6, 2) := by decide +kernel
theorem own_d6_15 : decode jdk_52_method_21_code 15 = .ok (.iload 6, 2) := by decide +kernel
theorem own_d6_17 : decode jdk_52_method_21_code 17 = .ok (.sipush 255, 3) := by decide +kernel
theorem own_d6_20 : decode jdk_52_method_21_code 20 = .ok (.if_icmp .le 6, 3) := by decide +kernel
theorem own_d6_23 : decode jdk_52_method_21_code 23 = .ok (.iload 5, 2) := by decide +kernel
theorem own_d6_25 : decode jdk_52_method_21_code 25 = .ok (.ireturn, 1) := by decide +kernel
theorem own_d6_26 : decode jdk_52_method_21_code 26 = .ok (.aload_n 2, 1) := by decide +kernel
theorem own_d6_27 : decode jdk_52_method_21_code 27 = .ok (.iload_n 3, 1) := by decide +kernel
theorem own_d6_28 : decode jdk_52_method_21_code 28 = .ok (.iload 6, 2) := by decide +kernel
theorem own_d6_30 : decode jdk_52_method_21_code 30 = .ok (.i2b, 1) := by decide +kernel
theorem own_d6_31 : decode jdk_52_method_21_code 31 = .ok (.bastore, 1) := by decide +kernel
theorem own_d6_32 : decode jdk_52_method_21_code 32 = .ok (.iinc 1 1, 3) := by decide +kernel
theorem own_d6_35 : decode jdk_52_method_21_code 35 = .ok (.iinc 3 1, 3) := by decide +kernel
theorem own_d6_38 : decode jdk_52_method_21_code 38 = .ok (.iinc 5 1, 3) := by decide +kernel
theorem own_d6_41 : decode jdk_52_method_21_code 41 = .ok (.goto (-38), 3) := by decide +kernel
theorem own_d6_44 : decode jdk_52_method_21_code 44 = .ok (.iload 4, 2) := by decide +kernel
theorem own_d6_46 : decode jdk_52_method_21_code 46 = .ok (.ireturn, 1) := by decide +kernel
theorem own_pn0 : plainName "java/lang/StringUTF16" = true := by first | (simp [plainName, overriddenIn]; done) | decide +kernel
theorem own_cmp2_ef (m : MethodId) (a2 : Addr) (a3 : Addr) : entryFrame m #[(.ref a2), (.int (0 : Int32)), (.ref a3), (.int (0 : Int32)), (.int (21 : Int32))] 7 = mkF m 0 #[rv a2, own_i 0, rv a3, own_i 0, own_i 21, .unset, .unset] [] := by first | (simp [entryFrame, mkF, argsToLocals, Value.category]; done) | rfl
set_option maxRecDepth 65536 in
set_option maxHeartbeats 40000000 in
theorem own_cmp2 (l : Launch) (Z : State) (a0 : Array Value) (hw : ∀ d ∈ tables_1, d.before a0 Z = true) (ws : List Jvm.Cond) (a2 : Addr) (a3 : Addr) (k2 : ClassId) (k3 : ClassId) (x0 : Int32) (x1 : Int32) (x2 : Int32) (x3 : Int32) (x4 : Int32) (x5 : Int32) (x6 : Int32) (x7 : Int32) (x8 : Int32) (x9 : Int32) (x10 : Int32) (x11 : Int32) (x12 : Int32) (x13 : Int32) (x14 : Int32) (x15 : Int32) (x16 : Int32) (x17 : Int32) (x18 : Int32) (x19 : Int32) (x20 : Int32) (h0 : Heap) (n0 : Nat) (Z0 : n0 ≤ h0.size) (V2 : Arv Z h0 a2 k2 .char (21 : Int32) [(.int x0), (.int x1), (.int x2), (.int x3), (.int x4), (.int x5), (.int x6), (.int x7), (.int x8), (.int x9), (.int x10), (.int x11), (.int x12), (.int x13), (.int x14), (.int x15), (.int x16), (.int x17), (.int x18), (.int x19), (.int x20)] (.int (0 : Int32))) (V3 : Arv Z h0 a3 k3 .byte (21 : Int32) [(.int (0 : Int32)), (.int (0 : Int32)), (.int (0 : Int32)), (.int (0 : Int32)), (.int (0 : Int32)), (.int (0 : Int32)), (.int (0 : Int32)), (.int (0 : Int32)), (.int (0 : Int32)), (.int (0 : Int32)), (.int (0 : Int32)), (.int (0 : Int32)), (.int (0 : Int32)), (.int (0 : Int32)), (.int (0 : Int32)), (.int (0 : Int32)), (.int (0 : Int32)), (.int (0 : Int32)), (.int (0 : Int32)), (.int (0 : Int32)), (.int (0 : Int32))] (.int (0 : Int32))) (g_a3 : n0 ≤ a3) (ne23 : a2 ≠ a3) (hx0 : ¬ (255 : Int32) < x0) (hx1 : ¬ (255 : Int32) < x1) (hx2 : ¬ (255 : Int32) < x2) (hx3 : ¬ (255 : Int32) < x3) (hx4 : ¬ (255 : Int32) < x4) (hx5 : ¬ (255 : Int32) < x5) (hx6 : ¬ (255 : Int32) < x6) (hx7 : ¬ (255 : Int32) < x7) (hx8 : ¬ (255 : Int32) < x8) (hx9 : ¬ (255 : Int32) < x9) (hx10 : ¬ (255 : Int32) < x10) (hx11 : ¬ (255 : Int32) < x11) (hx12 : ¬ (255 : Int32) < x12) (hx13 : ¬ (255 : Int32) < x13) (hx14 : ¬ (255 : Int32) < x14) (hx15 : ¬ (255 : Int32) < x15) (hx16 : ¬ (255 : Int32) < x16) (hx17 : ¬ (255 : Int32) < x17) (hx18 : ¬ (255 : Int32) < x18) (hx19 : ¬ (255 : Int32) < x19) (hx20 : ¬ (255 : Int32) < x20) :
    own_Met l Z (⟨"java/lang/StringUTF16", "compress", "([CI[BII)I"⟩ : MethodName) jdk_52_method_21_code 7 (some .int) ws ({ frames := 0, cells := 0, slots := 0, locals := 0 } : Room) #[(.ref a2), (.int (0 : Int32)), (.ref a3), (.int (0 : Int32)), (.int (21 : Int32))] h0 (fun v h L => v = some (.int (21 : Int32)) ∧ Fr n0 L ∧ Keep h0 h [a3] ∧ Arv Z h a3 k3 .byte (21 : Int32) [(.int (x0.toInt8.toInt32)), (.int (x1.toInt8.toInt32)), (.int (x2.toInt8.toInt32)), (.int (x3.toInt8.toInt32)), (.int (x4.toInt8.toInt32)), (.int (x5.toInt8.toInt32)), (.int (x6.toInt8.toInt32)), (.int (x7.toInt8.toInt32)), (.int (x8.toInt8.toInt32)), (.int (x9.toInt8.toInt32)), (.int (x10.toInt8.toInt32)), (.int (x11.toInt8.toInt32)), (.int (x12.toInt8.toInt32)), (.int (x13.toInt8.toInt32)), (.int (x14.toInt8.toInt32)), (.int (x15.toInt8.toInt32)), (.int (x16.toInt8.toInt32)), (.int (x17.toInt8.toInt32)), (.int (x18.toInt8.toInt32)), (.int (x19.toInt8.toInt32)), (.int (x20.toInt8.toInt32))] (.int (0 : Int32))) := by
  refine own_enter (plainFor_of_name own_pn0) ?_
  intro p e s m below meth c s₁ X0 hx hZ hby hml hown hnm hret hlk e0
  have N0 := Fr.nil n0
  rw [own_cmp2_ef m a2 a3]
  have KK0 : Keep h0 h0 [a3] := Keep.refl _ _
  show own_Fin _ _ _ _ _ _ (s₁.setTop (mkF m 0 #[rv a2, own_i 0, rv a3, own_i 0, own_i 21, .unset, .unset] []))
  refine own_to (fun t k => XS.iconst X0.here hx rfl (hb hby own_d6_0) k) ?_
  refine own_to (fun t k => XS.istore X0.here hx rfl (hb hby own_d6_1) rfl (l' := #[rv a2, own_i 0, rv a3, own_i 0, own_i 21, own_i 0, .unset]) rfl k) ?_
  show own_Fin _ _ _ _ _ _ (s₁.setTop (mkF m 3 #[rv a2, own_i 0, rv a3, own_i 0, own_i 21, own_i 0, .unset] []))
  refine own_to (fun t k => XS.iload X0.here hx rfl (hb hby own_d6_3) rfl k) ?_
  refine own_to (fun t k => XS.iload X0.here hx rfl (hb hby own_d6_5) rfl k) ?_
  refine own_to (fun t k => XS.icmpNo X0.here hx rfl (hb hby own_d6_7) rfl (tlt (by decide)).2.1 k) ?_
  show own_Fin _ _ _ _ _ _ (s₁.setTop (mkF m 10 #[rv a2, own_i 0, rv a3, own_i 0, own_i 21, own_i 0, .unset] []))
  refine own_to (fun t k => XS.aloadN X0.here hx rfl (hb hby own_d6_10) rfl rfl k) ?_
  show own_Fin _ _ _ _ _ _ (s₁.setTop (mkF m 11 #[rv a2, own_i 0, rv a3, own_i 0, own_i 21, own_i 0, .unset] [(.ref a2)]))
  refine own_to (fun t k => XS.iloadN X0.here hx rfl (hb hby own_d6_11) rfl k) ?_
  obtain ⟨cl1, Ar1, qa1, Sa1, Na1, Ha1, Ga1⟩ := id V2
  have hin2 : ¬ ((0 : Int32) < 0 ∨ cl1.slots.size ≤ ((0 : Int32)).toNatClampNeg) := inb_of Sa1 ⟨by decide, by decide⟩
  refine own_to (fun t k => X0.caload hx (j := (0 : Int32)) (v := (.int x0)) (by rw [e0]; exact Ar1.1) (State.isArrayOf_alike hZ.alike Ar1.2.1) Ar1.2.2 hin2 (Has.at Ha1 hin2 rfl) (g := (mkF m 12 #[rv a2, own_i 0, rv a3, own_i 0, own_i 21, own_i 0, .unset] [(.int (0 : Int32)), (.ref a2)])) rfl rfl (hb hby own_d6_12) _ k) ?_
  show own_Fin _ _ _ _ _ _ (s₁.setTop (mkF m 13 #[rv a2, own_i 0, rv a3, own_i 0, own_i 21, own_i 0, .unset] [(.int x0)]))
  refine own_to (fun t k => XS.istore X0.here hx rfl (hb hby own_d6_13) rfl (l' := #[rv a2, own_i 0, rv a3, own_i 0, own_i 21, own_i 0, .val (.int x0)]) rfl k) ?_
  show own_Fin _ _ _ _ _ _ (s₁.setTop (mkF m 15 #[rv a2, own_i 0, rv a3, own_i 0, own_i 21, own_i 0, .val (.int x0)] []))
  refine own_to (fun t k => XS.iload X0.here hx rfl (hb hby own_d6_15) rfl k) ?_
  refine own_to (fun t k => XS.sipush X0.here hx rfl (hb hby own_d6_17) k) ?_
  refine own_to (fun t k => XS.icmpYes X0.here hx rfl (pc0 := 20) (pc' := 26) rfl (hb hby own_d6_20) rfl (flt hx0).2.2.2 (by decide) (by decide) k) ?_
  show own_Fin _ _ _ _ _ _ (s₁.setTop (mkF m 26 #[rv a2, own_i 0, rv a3, own_i 0, own_i 21, own_i 0, .val (.int x0)] []))
  refine own_to (fun t k => XS.aloadN X0.here hx rfl (hb hby own_d6_26) rfl rfl k) ?_
  show own_Fin _ _ _ _ _ _ (s₁.setTop (mkF m 27 #[rv a2, own_i 0, rv a3, own_i 0, own_i 21, own_i 0, .val (.int x0)] [(.ref a3)]))
  refine own_to (fun t k => XS.iloadN X0.here hx rfl (hb hby own_d6_27) rfl k) ?_
  refine own_to (fun t k => XS.iload X0.here hx rfl (hb hby own_d6_28) rfl k) ?_
  refine own_to (fun t k => XS.i2b X0.here hx rfl (hb hby own_d6_30) rfl k) ?_
  show own_Fin _ _ _ _ _ _ (s₁.setTop (mkF m 31 #[rv a2, own_i 0, rv a3, own_i 0, own_i 21, own_i 0, .val (.int x0)] [(.int (x0.toInt8.toInt32)), (.int (0 : Int32)), (.ref a3)]))
  obtain ⟨cl3, Ar3, qa3, Sa3, Na3, Ha3, Ga3⟩ := id V3
  have hin4 : ¬ ((0 : Int32) < 0 ∨ cl3.slots.size ≤ ((0 : Int32)).toNatClampNeg) := inb_of Sa3 ⟨by decide, by decide⟩
  obtain ⟨T4, h4, X4, e4, W4, st4⟩ := stB X0 hx hZ e0 Ar3 (j := (0 : Int32)) hin4 (g := (mkF m 31 #[rv a2, own_i 0, rv a3, own_i 0, own_i 21, own_i 0, .val (.int x0)] [(.int (x0.toInt8.toInt32)), (.int (0 : Int32)), (.ref a3)])) rfl rfl (hb hby own_d6_31)
  rw [own_idem _] at W4
  have N4 := Fr.snoc X4 N0 g_a3
  have KK4 : Keep h0 h4 [a3] := KK0.wr W4 (Or.inl (List.mem_of_getElem? (i := 0) rfl))
  have V2_e4 := V2.other W4 ne23
  have V4 : Arv Z h4 a3 k3 .byte (21 : Int32) [(.int (x0.toInt8.toInt32)), (.int (0 : Int32)), (.int (0 : Int32)), (.int (0 : Int32)), (.int (0 : Int32)), (.int (0 : Int32)), (.int (0 : Int32)), (.int (0 : Int32)), (.int (0 : Int32)), (.int (0 : Int32)), (.int (0 : Int32)), (.int (0 : Int32)), (.int (0 : Int32)), (.int (0 : Int32)), (.int (0 : Int32)), (.int (0 : Int32)), (.int (0 : Int32)), (.int (0 : Int32)), (.int (0 : Int32)), (.int (0 : Int32)), (.int (0 : Int32))] (.int (0 : Int32)) := Arv.set Ar3 qa3 Sa3 Na3 Ha3 Ga3 (fits_nar_byte _) W4 0 rfl (Nat.le_of_ble_eq_true rfl)
  refine own_to (fun t k => st4 t k) ?_
  show own_Fin _ _ _ _ _ _ (T4.setTop (mkF m 32 #[rv a2, own_i 0, rv a3, own_i 0, own_i 21, own_i 0, .val (.int x0)] []))
  refine own_to (fun t k => XS.iinc X4.here hx rfl (hb hby own_d6_32) rfl (l' := #[rv a2, own_i 1, rv a3, own_i 0, own_i 21, own_i 0, .val (.int x0)]) rfl k) ?_
  show own_Fin _ _ _ _ _ _ (T4.setTop (mkF m 35 #[rv a2, own_i 1, rv a3, own_i 0, own_i 21, own_i 0, .val (.int x0)] []))
  refine own_to (fun t k => XS.iinc X4.here hx rfl (hb hby own_d6_35) rfl (l' := #[rv a2, own_i 1, rv a3, own_i 1, own_i 21, own_i 0, .val (.int x0)]) rfl k) ?_
  show own_Fin _ _ _ _ _ _ (T4.setTop (mkF m 38 #[rv a2, own_i 1, rv a3, own_i 1, own_i 21, own_i 0, .val (.int x0)] []))
  refine own_to (fun t k => XS.iinc X4.here hx rfl (hb hby own_d6_38) rfl (l' := #[rv a2, own_i 1, rv a3, own_i 1, own_i 21, own_i 1, .val (.int x0)]) rfl k) ?_
  show own_Fin _ _ _ _ _ _ (T4.setTop (mkF m 41 #[rv a2, own_i 1, rv a3, own_i 1, own_i 21, own_i 1, .val (.int x0)] []))
  refine own_to (fun t k => XS.goto X4.here hx rfl (pc0 := 41) (pc' := 3) rfl (hb hby own_d6_41) (by decide) (by decide) k) ?_
  show own_Fin _ _ _ _ _ _ (T4.setTop (mkF m 3 #[rv a2, own_i 1, rv a3, own_i 1, own_i 21, own_i 1, .val (.int x0)] []))
  refine own_to (fun t k => XS.iload X4.here hx rfl (hb hby own_d6_3) rfl k) ?_
  refine own_to (fun t k => XS.iload X4.here hx rfl (hb hby own_d6_5) rfl k) ?_
  refine own_to (fun t k => XS.icmpNo X4.here hx rfl (hb hby own_d6_7) rfl (tlt (by decide)).2.1 k) ?_
  show own_Fin _ _ _ _ _ _ (T4.setTop (mkF m 10 #[rv a2, own_i 1, rv a3, own_i 1, own_i 21, own_i 1, .val (.int x0)] []))
  refine own_to (fun t k => XS.aloadN X4.here hx rfl (hb hby own_d6_10) rfl rfl k) ?_
  show own_Fin _ _ _ _ _ _ (T4.setTop (mkF m 11 #[rv a2, own_i 1, rv a3, own_i 1, own_i 21, own_i 1, .val (.int x0)] [(.ref a2)]))
  refine own_to (fun t k => XS.iloadN X4.here hx rfl (hb hby own_d6_11) rfl k) ?_
  obtain ⟨cl5, Ar5, qa5, Sa5, Na5, Ha5, Ga5⟩ := id V2_e4
  have hin6 : ¬ ((1 : Int32) < 0 ∨ cl5.slots.size ≤ ((1 : Int32)).toNatClampNeg) := inb_of Sa5 ⟨by decide, by decide⟩
  refine own_to (fun t k => X4.caload hx (j := (1 : Int32)) (v := (.int x1)) (by rw [e4]; exact Ar5.1) (State.isArrayOf_alike hZ.alike Ar5.2.1) Ar5.2.2 hin6 (Has.at Ha5 hin6 rfl) (g := (mkF m 12 #[rv a2, own_i 1, rv a3, own_i 1, own_i 21, own_i 1, .val (.int x0)] [(.int (1 : Int32)), (.ref a2)])) rfl rfl (hb hby own_d6_12) _ k) ?_
  show own_Fin _ _ _ _ _ _ (T4.setTop (mkF m 13 #[rv a2, own_i 1, rv a3, own_i 1, own_i 21, own_i 1, .val (.int x0)] [(.int x1)]))
  refine own_to (fun t k => XS.istore X4.here hx rfl (hb hby own_d6_13) rfl (l' := #[rv a2, own_i 1, rv a3, own_i 1, own_i 21, own_i 1, .val (.int x1)]) rfl k) ?_
  show own_Fin _ _ _ _ _ _ (T4.setTop (mkF m 15 #[rv a2, own_i 1, rv a3, own_i 1, own_i 21, own_i 1, .val (.int x1)] []))
  refine own_to (fun t k => XS.iload X4.here hx rfl (hb hby own_d6_15) rfl k) ?_
  refine own_to (fun t k => XS.sipush X4.here hx rfl (hb hby own_d6_17) k) ?_
  refine own_to (fun t k => XS.icmpYes X4.here hx rfl (pc0 := 20) (pc' := 26) rfl (hb hby own_d6_20) rfl (flt hx1).2.2.2 (by decide) (by decide) k) ?_
  show own_Fin _ _ _ _ _ _ (T4.setTop (mkF m 26 #[rv a2, own_i 1, rv a3, own_i 1, own_i 21, own_i 1, .val (.int x1)] []))
  refine own_to (fun t k => XS.aloadN X4.here hx rfl (hb hby own_d6_26) rfl rfl k) ?_
  show own_Fin _ _ _ _ _ _ (T4.setTop (mkF m 27 #[rv a2, own_i 1, rv a3, own_i 1, own_i 21, own_i 1, .val (.int x1)] [(.ref a3)]))
  refine own_to (fun t k => XS.iloadN X4.here hx rfl (hb hby own_d6_27) rfl k) ?_
  refine own_to (fun t k => XS.iload X4.here hx rfl (hb hby own_d6_28) rfl k) ?_
  refine own_to (fun t k => XS.i2b X4.here hx rfl (hb hby own_d6_30) rfl k) ?_
  show own_Fin _ _ _ _ _ _ (T4.setTop (mkF m 31 #[rv a2, own_i 1, rv a3, own_i 1, own_i 21, own_i 1, .val (.int x1)] [(.int (x1.toInt8.toInt32)), (.int (1 : Int32)), (.ref a3)]))
  obtain ⟨cl7, Ar7, qa7, Sa7, Na7, Ha7, Ga7⟩ := id V4
  have hin8 : ¬ ((1 : Int32) < 0 ∨ cl7.slots.size ≤ ((1 : Int32)).toNatClampNeg) := inb_of Sa7 ⟨by decide, by decide⟩
  obtain ⟨T8, h8, X8, e8, W8, st8⟩ := stB X4 hx hZ e4 Ar7 (j := (1 : Int32)) hin8 (g := (mkF m 31 #[rv a2, own_i 1, rv a3, own_i 1, own_i 21, own_i 1, .val (.int x1)] [(.int (x1.toInt8.toInt32)), (.int (1 : Int32)), (.ref a3)])) rfl rfl (hb hby own_d6_31)
  rw [own_idem _] at W8
  have N8 := Fr.snoc X8 N4 g_a3
  have KK8 : Keep h0 h8 [a3] := KK4.wr W8 (Or.inl (List.mem_of_getElem? (i := 0) rfl))
  have V2_e8 := V2_e4.other W8 ne23
  have V8 : Arv Z h8 a3 k3 .byte (21 : Int32) [(.int (x0.toInt8.toInt32)), (.int (x1.toInt8.toInt32)), (.int (0 : Int32)), (.int (0 : Int32)), (.int (0 : Int32)), (.int (0 : Int32)), (.int (0 : Int32)), (.int (0 : Int32)), (.int (0 : Int32)), (.int (0 : Int32)), (.int (0 : Int32)), (.int (0 : Int32)), (.int (0 : Int32)), (.int (0 : Int32)), (.int (0 : Int32)), (.int (0 : Int32)), (.int (0 : Int32)), (.int (0 : Int32)), (.int (0 : Int32)), (.int (0 : Int32)), (.int (0 : Int32))] (.int (0 : Int32)) := Arv.set Ar7 qa7 Sa7 Na7 Ha7 Ga7 (fits_nar_byte _) W8 1 rfl (Nat.le_of_ble_eq_true rfl)
  refine own_to (fun t k => st8 t k) ?_
  show own_Fin _ _ _ _ _ _ (T8.setTop (mkF m 32 #[rv a2, own_i 1, rv a3, own_i 1, own_i 21, own_i 1, .val (.int x1)] []))
  refine own_to (fun t k => XS.iinc X8.here hx rfl (hb hby own_d6_32) rfl (l' := #[rv a2, own_i 2, rv a3, own_i 1, own_i 21, own_i 1, .val (.int x1)]) rfl k) ?_
  show own_Fin _ _ _ _ _ _ (T8.setTop (mkF m 35 #[rv a2, own_i 2, rv a3, own_i 1, own_i 21, own_i 1, .val (.int x1)] []))
  refine own_to (fun t k => XS.iinc X8.here hx rfl (hb hby own_d6_35) rfl (l' := #[rv a2, own_i 2, rv a3, own_i 2, own_i 21, own_i 1, .val (.int x1)]) rfl k) ?_
  show own_Fin _ _ _ _ _ _ (T8.setTop (mkF m 38 #[rv a2, own_i 2, rv a3, own_i 2, own_i 21, own_i 1, .val (.int x1)] []))
  refine own_to (fun t k => XS.iinc X8.here hx rfl (hb hby own_d6_38) rfl (l' := #[rv a2, own_i 2, rv a3, own_i 2, own_i 21, own_i 2, .val (.int x1)]) rfl k) ?_
  show own_Fin _ _ _ _ _ _ (T8.setTop (mkF m 41 #[rv a2, own_i 2, rv a3, own_i 2, own_i 21, own_i 2, .val (.int x1)] []))
  refine own_to (fun t k => XS.goto X8.here hx rfl (pc0 := 41) (pc' := 3) rfl (hb hby own_d6_41) (by decide) (by decide) k) ?_
  show own_Fin _ _ _ _ _ _ (T8.setTop (mkF m 3 #[rv a2, own_i 2, rv a3, own_i 2, own_i 21, own_i 2, .val (.int x1)] []))
  refine own_to (fun t k => XS.iload X8.here hx rfl (hb hby own_d6_3) rfl k) ?_
  refine own_to (fun t k => XS.iload X8.here hx rfl (hb hby own_d6_5) rfl k) ?_
  refine own_to (fun t k => XS.icmpNo X8.here hx rfl (hb hby own_d6_7) rfl (tlt (by decide)).2.1 k) ?_
  show own_Fin _ _ _ _ _ _ (T8.setTop (mkF m 10 #[rv a2, own_i 2, rv a3, own_i 2, own_i 21, own_i 2, .val (.int x1)] []))
  refine own_to (fun t k => XS.aloadN X8.here hx rfl (hb hby own_d6_10) rfl rfl k) ?_
  show own_Fin _ _ _ _ _ _ (T8.setTop (mkF m 11 #[rv a2, own_i 2, rv a3, own_i 2, own_i 21, own_i 2, .val (.int x1)] [(.ref a2)]))
  refine own_to (fun t k => XS.iloadN X8.here hx rfl (hb hby own_d6_11) rfl k) ?_
  obtain ⟨cl9, Ar9, qa9, Sa9, Na9, Ha9, Ga9⟩ := id V2_e8
  have hin10 : ¬ ((2 : Int32) < 0 ∨ cl9.slots.size ≤ ((2 : Int32)).toNatClampNeg) := inb_of Sa9 ⟨by decide, by decide⟩
  refine own_to (fun t k => X8.caload hx (j := (2 : Int32)) (v := (.int x2)) (by rw [e8]; exact Ar9.1) (State.isArrayOf_alike hZ.alike Ar9.2.1) Ar9.2.2 hin10 (Has.at Ha9 hin10 rfl) (g := (mkF m 12 #[rv a2, own_i 2, rv a3, own_i 2, own_i 21, own_i 2, .val (.int x1)] [(.int (2 : Int32)), (.ref a2)])) rfl rfl (hb hby own_d6_12) _ k) ?_
  show own_Fin _ _ _ _ _ _ (T8.setTop (mkF m 13 #[rv a2, own_i 2, rv a3, own_i 2, own_i 21, own_i 2, .val (.int x1)] [(.int x2)]))
  refine own_to (fun t k => XS.istore X8.here hx rfl (hb hby own_d6_13) rfl (l' := #[rv a2, own_i 2, rv a3, own_i 2, own_i 21, own_i 2, .val (.int x2)]) rfl k) ?_
  show own_Fin _ _ _ _ _ _ (T8.setTop (mkF m 15 #[rv a2, own_i 2, rv a3, own_i 2, own_i 21, own_i 2, .val (.int x2)] []))
  refine own_to (fun t k => XS.iload X8.here hx rfl (hb hby own_d6_15) rfl k) ?_
  refine own_to (fun t k => XS.sipush X8.here hx rfl (hb hby own_d6_17) k) ?_
  refine own_to (fun t k => XS.icmpYes X8.here hx rfl (pc0 := 20) (pc' := 26) rfl (hb hby own_d6_20) rfl (flt hx2).2.2.2 (by decide) (by decide) k) ?_
  show own_Fin _ _ _ _ _ _ (T8.setTop (mkF m 26 #[rv a2, own_i 2, rv a3, own_i 2, own_i 21, own_i 2, .val (.int x2)] []))
  refine own_to (fun t k => XS.aloadN X8.here hx rfl (hb hby own_d6_26) rfl rfl k) ?_
  show own_Fin _ _ _ _ _ _ (T8.setTop (mkF m 27 #[rv a2, own_i 2, rv a3, own_i 2, own_i 21, own_i 2, .val (.int x2)] [(.ref a3)]))
  refine own_to (fun t k => XS.iloadN X8.here hx rfl (hb hby own_d6_27) rfl k) ?_
  refine own_to (fun t k => XS.iload X8.here hx rfl (hb hby own_d6_28) rfl k) ?_
  refine own_to (fun t k => XS.i2b X8.here hx rfl (hb hby own_d6_30) rfl k) ?_
  show own_Fin _ _ _ _ _ _ (T8.setTop (mkF m 31 #[rv a2, own_i 2, rv a3, own_i 2, own_i 21, own_i 2, .val (.int x2)] [(.int (x2.toInt8.toInt32)), (.int (2 : Int32)), (.ref a3)]))
  obtain ⟨cl11, Ar11, qa11, Sa11, Na11, Ha11, Ga11⟩ := id V8
  have hin12 : ¬ ((2 : Int32) < 0 ∨ cl11.slots.size ≤ ((2 : Int32)).toNatClampNeg) := inb_of Sa11 ⟨by decide, by decide⟩
  obtain ⟨T12, h12, X12, e12, W12, st12⟩ := stB X8 hx hZ e8 Ar11 (j := (2 : Int32)) hin12 (g := (mkF m 31 #[rv a2, own_i 2, rv a3, own_i 2, own_i 21, own_i 2, .val (.int x2)] [(.int (x2.toInt8.toInt32)), (.int (2 : Int32)), (.ref a3)])) rfl rfl (hb hby own_d6_31)
  rw [own_idem _] at W12
  have N12 := Fr.snoc X12 N8 g_a3
  have KK12 : Keep h0 h12 [a3] := KK8.wr W12 (Or.inl (List.mem_of_getElem? (i := 0) rfl))
  have V2_e12 := V2_e8.other W12 ne23
  have V12 : Arv Z h12 a3 k3 .byte (21 : Int32) [(.int (x0.toInt8.toInt32)), (.int (x1.toInt8.toInt32)), (.int (x2.toInt8.toInt32)), (.int (0 : Int32)), (.int (0 : Int32)), (.int (0 : Int32)), (.int (0 : Int32)), (.int (0 : Int32)), (.int (0 : Int32)), (.int (0 : Int32)), (.int (0 : Int32)), (.int (0 : Int32)), (.int (0 : Int32)), (.int (0 : Int32)), (.int (0 : Int32)), (.int (0 : Int32)), (.int (0 : Int32)), (.int (0 : Int32)), (.int (0 : Int32)), (.int (0 : Int32)), (.int (0 : Int32))] (.int (0 : Int32)) := Arv.set Ar11 qa11 Sa11 Na11 Ha11 Ga11 (fits_nar_byte _) W12 2 rfl (Nat.le_of_ble_eq_true rfl)
  refine own_to (fun t k => st12 t k) ?_
  show own_Fin _ _ _ _ _ _ (T12.setTop (mkF m 32 #[rv a2, own_i 2, rv a3, own_i 2, own_i 21, own_i 2, .val (.int x2)] []))
  refine own_to (fun t k => XS.iinc X12.here hx rfl (hb hby own_d6_32) rfl (l' := #[rv a2, own_i 3, rv a3, own_i 2, own_i 21, own_i 2, .val (.int x2)]) rfl k) ?_
  show own_Fin _ _ _ _ _ _ (T12.setTop (mkF m 35 #[rv a2, own_i 3, rv a3, own_i 2, own_i 21, own_i 2, .val (.int x2)] []))
  refine own_to (fun t k => XS.iinc X12.here hx rfl (hb hby own_d6_35) rfl (l' := #[rv a2, own_i 3, rv a3, own_i 3, own_i 21, own_i 2, .val (.int x2)]) rfl k) ?_
  show own_Fin _ _ _ _ _ _ (T12.setTop (mkF m 38 #[rv a2, own_i 3, rv a3, own_i 3, own_i 21, own_i 2, .val (.int x2)] []))
  refine own_to (fun t k => XS.iinc X12.here hx rfl (hb hby own_d6_38) rfl (l' := #[rv a2, own_i 3, rv a3, own_i 3, own_i 21, own_i 3, .val (.int x2)]) rfl k) ?_
  show own_Fin _ _ _ _ _ _ (T12.setTop (mkF m 41 #[rv a2, own_i 3, rv a3, own_i 3, own_i 21, own_i 3, .val (.int x2)] []))
  refine own_to (fun t k => XS.goto X12.here hx rfl (pc0 := 41) (pc' := 3) rfl (hb hby own_d6_41) (by decide) (by decide) k) ?_
  show own_Fin _ _ _ _ _ _ (T12.setTop (mkF m 3 #[rv a2, own_i 3, rv a3, own_i 3, own_i 21, own_i 3, .val (.int x2)] []))
  refine own_to (fun t k => XS.iload X12.here hx rfl (hb hby own_d6_3) rfl k) ?_
  refine own_to (fun t k => XS.iload X12.here hx rfl (hb hby own_d6_5) rfl k) ?_
  refine own_to (fun t k => XS.icmpNo X12.here hx rfl (hb hby own_d6_7) rfl (tlt (by decide)).2.1 k) ?_
  show own_Fin _ _ _ _ _ _ (T12.setTop (mkF m 10 #[rv a2, own_i 3, rv a3, own_i 3, own_i 21, own_i 3, .val (.int x2)] []))
  refine own_to (fun t k => XS.aloadN X12.here hx rfl (hb hby own_d6_10) rfl rfl k) ?_
  show own_Fin _ _ _ _ _ _ (T12.setTop (mkF m 11 #[rv a2, own_i 3, rv a3, own_i 3, own_i 21, own_i 3, .val (.int x2)] [(.ref a2)]))
  refine own_to (fun t k => XS.iloadN X12.here hx rfl (hb hby own_d6_11) rfl k) ?_
  obtain ⟨cl13, Ar13, qa13, Sa13, Na13, Ha13, Ga13⟩ := id V2_e12
  have hin14 : ¬ ((3 : Int32) < 0 ∨ cl13.slots.size ≤ ((3 : Int32)).toNatClampNeg) := inb_of Sa13 ⟨by decide, by decide⟩
  refine own_to (fun t k => X12.caload hx (j := (3 : Int32)) (v := (.int x3)) (by rw [e12]; exact Ar13.1) (State.isArrayOf_alike hZ.alike Ar13.2.1) Ar13.2.2 hin14 (Has.at Ha13 hin14 rfl) (g := (mkF m 12 #[rv a2, own_i 3, rv a3, own_i 3, own_i 21, own_i 3, .val (.int x2)] [(.int (3 : Int32)), (.ref a2)])) rfl rfl (hb hby own_d6_12) _ k) ?_
  show own_Fin _ _ _ _ _ _ (T12.setTop (mkF m 13 #[rv a2, own_i 3, rv a3, own_i 3, own_i 21, own_i 3, .val (.int x2)] [(.int x3)]))
  refine own_to (fun t k => XS.istore X12.here hx rfl (hb hby own_d6_13) rfl (l' := #[rv a2, own_i 3, rv a3, own_i 3, own_i 21, own_i 3, .val (.int x3)]) rfl k) ?_
  show own_Fin _ _ _ _ _ _ (T12.setTop (mkF m 15 #[rv a2, own_i 3, rv a3, own_i 3, own_i 21, own_i 3, .val (.int x3)] []))
  refine own_to (fun t k => XS.iload X12.here hx rfl (hb hby own_d6_15) rfl k) ?_
  refine own_to (fun t k => XS.sipush X12.here hx rfl (hb hby own_d6_17) k) ?_
  refine own_to (fun t k => XS.icmpYes X12.here hx rfl (pc0 := 20) (pc' := 26) rfl (hb hby own_d6_20) rfl (flt hx3).2.2.2 (by decide) (by decide) k) ?_
  show own_Fin _ _ _ _ _ _ (T12.setTop (mkF m 26 #[rv a2, own_i 3, rv a3, own_i 3, own_i 21, own_i 3, .val (.int x3)] []))
  refine own_to (fun t k => XS.aloadN X12.here hx rfl (hb hby own_d6_26) rfl rfl k) ?_
  show own_Fin _ _ _ _ _ _ (T12.setTop (mkF m 27 #[rv a2, own_i 3, rv a3, own_i 3, own_i 21, own_i 3, .val (.int x3)] [(.ref a3)]))
  refine own_to (fun t k => XS.iloadN X12.here hx rfl (hb hby own_d6_27) rfl k) ?_
  refine own_to (fun t k => XS.iload X12.here hx rfl (hb hby own_d6_28) rfl k) ?_
  refine own_to (fun t k => XS.i2b X12.here hx rfl (hb hby own_d6_30) rfl k) ?_
  show own_Fin _ _ _ _ _ _ (T12.setTop (mkF m 31 #[rv a2, own_i 3, rv a3, own_i 3, own_i 21, own_i 3, .val (.int x3)] [(.int (x3.toInt8.toInt32)), (.int (3 : Int32)), (.ref a3)]))
  obtain ⟨cl15, Ar15, qa15, Sa15, Na15, Ha15, Ga15⟩ := id V12
  have hin16 : ¬ ((3 : Int32) < 0 ∨ cl15.slots.size ≤ ((3 : Int32)).toNatClampNeg) := inb_of Sa15 ⟨by decide, by decide⟩
  obtain ⟨T16, h16, X16, e16, W16, st16⟩ := stB X12 hx hZ e12 Ar15 (j := (3 : Int32)) hin16 (g := (mkF m 31 #[rv a2, own_i 3, rv a3, own_i 3, own_i 21, own_i 3, .val (.int x3)] [(.int (x3.toInt8.toInt32)), (.int (3 : Int32)), (.ref a3)])) rfl rfl (hb hby own_d6_31)
  rw [own_idem _] at W16
  have N16 := Fr.snoc X16 N12 g_a3
  have KK16 : Keep h0 h16 [a3] := KK12.wr W16 (Or.inl (List.mem_of_getElem? (i := 0) rfl))
  have V2_e16 := V2_e12.other W16 ne23
  have V16 : Arv Z h16 a3 k3 .byte (21 : Int32) [(.int (x0.toInt8.toInt32)), (.int (x1.toInt8.toInt32)), (.int (x2.toInt8.toInt32)), (.int (x3.toInt8.toInt32)), (.int (0 : Int32)), (.int (0 : Int32)), (.int (0 : Int32)), (.int (0 : Int32)), (.int (0 : Int32)), (.int (0 : Int32)), (.int (0 : Int32)), (.int (0 : Int32)), (.int (0 : Int32)), (.int (0 : Int32)), (.int (0 : Int32)), (.int (0 : Int32)), (.int (0 : Int32)), (.int (0 : Int32)), (.int (0 : Int32)), (.int (0 : Int32)), (.int (0 : Int32))] (.int (0 : Int32)) := Arv.set Ar15 qa15 Sa15 Na15 Ha15 Ga15 (fits_nar_byte _) W16 3 rfl (Nat.le_of_ble_eq_true rfl)
  have zs17 := (Nat.le_trans (Nat.le_trans (Nat.le_trans Z0 (Keep.of_wr W4).1) (Keep.of_wr W8).1) (Keep.of_wr W12).1)
  refine own_to (fun t k => st16 t k) ?_
  show own_Fin _ _ _ _ _ _ (T16.setTop (mkF m 32 #[rv a2, own_i 3, rv a3, own_i 3, own_i 21, own_i 3, .val (.int x3)] []))
  refine own_to (fun t k => XS.iinc X16.here hx rfl (hb hby own_d6_32) rfl (l' := #[rv a2, own_i 4, rv a3, own_i 3, own_i 21, own_i 3, .val (.int x3)]) rfl k) ?_
  show own_Fin _ _ _ _ _ _ (T16.setTop (mkF m 35 #[rv a2, own_i 4, rv a3, own_i 3, own_i 21, own_i 3, .val (.int x3)] []))
  refine own_to (fun t k => XS.iinc X16.here hx rfl (hb hby own_d6_35) rfl (l' := #[rv a2, own_i 4, rv a3, own_i 4, own_i 21, own_i 3, .val (.int x3)]) rfl k) ?_
  show own_Fin _ _ _ _ _ _ (T16.setTop (mkF m 38 #[rv a2, own_i 4, rv a3, own_i 4, own_i 21, own_i 3, .val (.int x3)] []))
  refine own_to (fun t k => XS.iinc X16.here hx rfl (hb hby own_d6_38) rfl (l' := #[rv a2, own_i 4, rv a3, own_i 4, own_i 21, own_i 4, .val (.int x3)]) rfl k) ?_
  show own_Fin _ _ _ _ _ _ (T16.setTop (mkF m 41 #[rv a2, own_i 4, rv a3, own_i 4, own_i 21, own_i 4, .val (.int x3)] []))
  refine own_to (fun t k => XS.goto X16.here hx rfl (pc0 := 41) (pc' := 3) rfl (hb hby own_d6_41) (by decide) (by decide) k) ?_
  show own_Fin _ _ _ _ _ _ (T16.setTop (mkF m 3 #[rv a2, own_i 4, rv a3, own_i 4, own_i 21, own_i 4, .val (.int x3)] []))
  refine own_to (fun t k => XS.iload X16.here hx rfl (hb hby own_d6_3) rfl k) ?_
  refine own_to (fun t k => XS.iload X16.here hx rfl (hb hby own_d6_5) rfl k) ?_
  refine own_to (fun t k => XS.icmpNo X16.here hx rfl (hb hby own_d6_7) rfl (tlt (by decide)).2.1 k) ?_
  show own_Fin _ _ _ _ _ _ (T16.setTop (mkF m 10 #[rv a2, own_i 4, rv a3, own_i 4, own_i 21, own_i 4, .val (.int x3)] []))
  refine own_to (fun t k => XS.aloadN X16.here hx rfl (hb hby own_d6_10) rfl rfl k) ?_
  show own_Fin _ _ _ _ _ _ (T16.setTop (mkF m 11 #[rv a2, own_i 4, rv a3, own_i 4, own_i 21, own_i 4, .val (.int x3)] [(.ref a2)]))
  refine own_to (fun t k => XS.iloadN X16.here hx rfl (hb hby own_d6_11) rfl k) ?_
  obtain ⟨cl18, Ar18, qa18, Sa18, Na18, Ha18, Ga18⟩ := id V2_e16
  have hin19 : ¬ ((4 : Int32) < 0 ∨ cl18.slots.size ≤ ((4 : Int32)).toNatClampNeg) := inb_of Sa18 ⟨by decide, by decide⟩
  refine own_to (fun t k => X16.caload hx (j := (4 : Int32)) (v := (.int x4)) (by rw [e16]; exact Ar18.1) (State.isArrayOf_alike hZ.alike Ar18.2.1) Ar18.2.2 hin19 (Has.at Ha18 hin19 rfl) (g := (mkF m 12 #[rv a2, own_i 4, rv a3, own_i 4, own_i 21, own_i 4, .val (.int x3)] [(.int (4 : Int32)), (.ref a2)])) rfl rfl (hb hby own_d6_12) _ k) ?_
  show own_Fin _ _ _ _ _ _ (T16.setTop (mkF m 13 #[rv a2, own_i 4, rv a3, own_i 4, own_i 21, own_i 4, .val (.int x3)] [(.int x4)]))
  refine own_to (fun t k => XS.istore X16.here hx rfl (hb hby own_d6_13) rfl (l' := #[rv a2, own_i 4, rv a3, own_i 4, own_i 21, own_i 4, .val (.int x4)]) rfl k) ?_
  show own_Fin _ _ _ _ _ _ (T16.setTop (mkF m 15 #[rv a2, own_i 4, rv a3, own_i 4, own_i 21, own_i 4, .val (.int x4)] []))
  refine own_to (fun t k => XS.iload X16.here hx rfl (hb hby own_d6_15) rfl k) ?_
  refine own_to (fun t k => XS.sipush X16.here hx rfl (hb hby own_d6_17) k) ?_
  refine own_to (fun t k => XS.icmpYes X16.here hx rfl (pc0 := 20) (pc' := 26) rfl (hb hby own_d6_20) rfl (flt hx4).2.2.2 (by decide) (by decide) k) ?_
  show own_Fin _ _ _ _ _ _ (T16.setTop (mkF m 26 #[rv a2, own_i 4, rv a3, own_i 4, own_i 21, own_i 4, .val (.int x4)] []))
  refine own_to (fun t k => XS.aloadN X16.here hx rfl (hb hby own_d6_26) rfl rfl k) ?_
  show own_Fin _ _ _ _ _ _ (T16.setTop (mkF m 27 #[rv a2, own_i 4, rv a3, own_i 4, own_i 21, own_i 4, .val (.int x4)] [(.ref a3)]))
  refine own_to (fun t k => XS.iloadN X16.here hx rfl (hb hby own_d6_27) rfl k) ?_
  refine own_to (fun t k => XS.iload X16.here hx rfl (hb hby own_d6_28) rfl k) ?_
  refine own_to (fun t k => XS.i2b X16.here hx rfl (hb hby own_d6_30) rfl k) ?_
  show own_Fin _ _ _ _ _ _ (T16.setTop (mkF m 31 #[rv a2, own_i 4, rv a3, own_i 4, own_i 21, own_i 4, .val (.int x4)] [(.int (x4.toInt8.toInt32)), (.int (4 : Int32)), (.ref a3)]))
  obtain ⟨cl20, Ar20, qa20, Sa20, Na20, Ha20, Ga20⟩ := id V16
  have hin21 : ¬ ((4 : Int32) < 0 ∨ cl20.slots.size ≤ ((4 : Int32)).toNatClampNeg) := inb_of Sa20 ⟨by decide, by decide⟩
  obtain ⟨T21, h21, X21, e21, W21, st21⟩ := stB X16 hx hZ e16 Ar20 (j := (4 : Int32)) hin21 (g := (mkF m 31 #[rv a2, own_i 4, rv a3, own_i 4, own_i 21, own_i 4, .val (.int x4)] [(.int (x4.toInt8.toInt32)), (.int (4 : Int32)), (.ref a3)])) rfl rfl (hb hby own_d6_31)
  rw [own_idem _] at W21
  have N21 := Fr.snoc X21 N16 g_a3
  have KK21 : Keep h0 h21 [a3] := KK16.wr W21 (Or.inl (List.mem_of_getElem? (i := 0) rfl))
  have V2_e21 := V2_e16.other W21 ne23
  have V21 : Arv Z h21 a3 k3 .byte (21 : Int32) [(.int (x0.toInt8.toInt32)), (.int (x1.toInt8.toInt32)), (.int (x2.toInt8.toInt32)), (.int (x3.toInt8.toInt32)), (.int (x4.toInt8.toInt32)), (.int (0 : Int32)), (.int (0 : Int32)), (.int (0 : Int32)), (.int (0 : Int32)), (.int (0 : Int32)), (.int (0 : Int32)), (.int (0 : Int32)), (.int (0 : Int32)), (.int (0 : Int32)), (.int (0 : Int32)), (.int (0 : Int32)), (.int (0 : Int32)), (.int (0 : Int32)), (.int (0 : Int32)), (.int (0 : Int32)), (.int (0 : Int32))] (.int (0 : Int32)) := Arv.set Ar20 qa20 Sa20 Na20 Ha20 Ga20 (fits_nar_byte _) W21 4 rfl (Nat.le_of_ble_eq_true rfl)
  refine own_to (fun t k => st21 t k) ?_
  show own_Fin _ _ _ _ _ _ (T21.setTop (mkF m 32 #[rv a2, own_i 4, rv a3, own_i 4, own_i 21, own_i 4, .val (.int x4)] []))
  refine own_to (fun t k => XS.iinc X21.here hx rfl (hb hby own_d6_32) rfl (l' := #[rv a2, own_i 5, rv a3, own_i 4, own_i 21, own_i 4, .val (.int x4)]) rfl k) ?_
  show own_Fin _ _ _ _ _ _ (T21.setTop (mkF m 35 #[rv a2, own_i 5, rv a3, own_i 4, own_i 21, own_i 4, .val (.int x4)] []))
  refine own_to (fun t k => XS.iinc X21.here hx rfl (hb hby own_d6_35) rfl (l' := #[rv a2, own_i 5, rv a3, own_i 5, own_i 21, own_i 4, .val (.int x4)]) rfl k) ?_
  show own_Fin _ _ _ _ _ _ (T21.setTop (mkF m 38 #[rv a2, own_i 5, rv a3, own_i 5, own_i 21, own_i 4, .val (.int x4)] []))
  refine own_to (fun t k => XS.iinc X21.here hx rfl (hb hby own_d6_38) rfl (l' := #[rv a2, own_i 5, rv a3, own_i 5, own_i 21, own_i 5, .val (.int x4)]) rfl k) ?_
  show own_Fin _ _ _ _ _ _ (T21.setTop (mkF m 41 #[rv a2, own_i 5, rv a3, own_i 5, own_i 21, own_i 5, .val (.int x4)] []))
  refine own_to (fun t k => XS.goto X21.here hx rfl (pc0 := 41) (pc' := 3) rfl (hb hby own_d6_41) (by decide) (by decide) k) ?_
  show own_Fin _ _ _ _ _ _ (T21.setTop (mkF m 3 #[rv a2, own_i 5, rv a3, own_i 5, own_i 21, own_i 5, .val (.int x4)] []))
  refine own_to (fun t k => XS.iload X21.here hx rfl (hb hby own_d6_3) rfl k) ?_
  refine own_to (fun t k => XS.iload X21.here hx rfl (hb hby own_d6_5) rfl k) ?_
  refine own_to (fun t k => XS.icmpNo X21.here hx rfl (hb hby own_d6_7) rfl (tlt (by decide)).2.1 k) ?_
  show own_Fin _ _ _ _ _ _ (T21.setTop (mkF m 10 #[rv a2, own_i 5, rv a3, own_i 5, own_i 21, own_i 5, .val (.int x4)] []))
  refine own_to (fun t k => XS.aloadN X21.here hx rfl (hb hby own_d6_10) rfl rfl k) ?_
  show own_Fin _ _ _ _ _ _ (T21.setTop (mkF m 11 #[rv a2, own_i 5, rv a3, own_i 5, own_i 21, own_i 5, .val (.int x4)] [(.ref a2)]))
  refine own_to (fun t k => XS.iloadN X21.here hx rfl (hb hby own_d6_11) rfl k) ?_
  obtain ⟨cl22, Ar22, qa22, Sa22, Na22, Ha22, Ga22⟩ := id V2_e21
  have hin23 : ¬ ((5 : Int32) < 0 ∨ cl22.slots.size ≤ ((5 : Int32)).toNatClampNeg) := inb_of Sa22 ⟨by decide, by decide⟩
  refine own_to (fun t k => X21.caload hx (j := (5 : Int32)) (v := (.int x5)) (by rw [e21]; exact Ar22.1) (State.isArrayOf_alike hZ.alike Ar22.2.1) Ar22.2.2 hin23 (Has.at Ha22 hin23 rfl) (g := (mkF m 12 #[rv a2, own_i 5, rv a3, own_i 5, own_i 21, own_i 5, .val (.int x4)] [(.int (5 : Int32)), (.ref a2)])) rfl rfl (hb hby own_d6_12) _ k) ?_
  show own_Fin _ _ _ _ _ _ (T21.setTop (mkF m 13 #[rv a2, own_i 5, rv a3, own_i 5, own_i 21, own_i 5, .val (.int x4)] [(.int x5)]))
  refine own_to (fun t k => XS.istore X21.here hx rfl (hb hby own_d6_13) rfl (l' := #[rv a2, own_i 5, rv a3, own_i 5, own_i 21, own_i 5, .val (.int x5)]) rfl k) ?_
  show own_Fin _ _ _ _ _ _ (T21.setTop (mkF m 15 #[rv a2, own_i 5, rv a3, own_i 5, own_i 21, own_i 5, .val (.int x5)] []))
  refine own_to (fun t k => XS.iload X21.here hx rfl (hb hby own_d6_15) rfl k) ?_
  refine own_to (fun t k => XS.sipush X21.here hx rfl (hb hby own_d6_17) k) ?_
  refine own_to (fun t k => XS.icmpYes X21.here hx rfl (pc0 := 20) (pc' := 26) rfl (hb hby own_d6_20) rfl (flt hx5).2.2.2 (by decide) (by decide) k) ?_
  show own_Fin _ _ _ _ _ _ (T21.setTop (mkF m 26 #[rv a2, own_i 5, rv a3, own_i 5, own_i 21, own_i 5, .val (.int x5)] []))
  refine own_to (fun t k => XS.aloadN X21.here hx rfl (hb hby own_d6_26) rfl rfl k) ?_
  show own_Fin _ _ _ _ _ _ (T21.setTop (mkF m 27 #[rv a2, own_i 5, rv a3, own_i 5, own_i 21, own_i 5, .val (.int x5)] [(.ref a3)]))
  refine own_to (fun t k => XS.iloadN X21.here hx rfl (hb hby own_d6_27) rfl k) ?_
  refine own_to (fun t k => XS.iload X21.here hx rfl (hb hby own_d6_28) rfl k) ?_
  refine own_to (fun t k => XS.i2b X21.here hx rfl (hb hby own_d6_30) rfl k) ?_
  show own_Fin _ _ _ _ _ _ (T21.setTop (mkF m 31 #[rv a2, own_i 5, rv a3, own_i 5, own_i 21, own_i 5, .val (.int x5)] [(.int (x5.toInt8.toInt32)), (.int (5 : Int32)), (.ref a3)]))
  obtain ⟨cl24, Ar24, qa24, Sa24, Na24, Ha24, Ga24⟩ := id V21
  have hin25 : ¬ ((5 : Int32) < 0 ∨ cl24.slots.size ≤ ((5 : Int32)).toNatClampNeg) := inb_of Sa24 ⟨by decide, by decide⟩
  obtain ⟨T25, h25, X25, e25, W25, st25⟩ := stB X21 hx hZ e21 Ar24 (j := (5 : Int32)) hin25 (g := (mkF m 31 #[rv a2, own_i 5, rv a3, own_i 5, own_i 21, own_i 5, .val (.int x5)] [(.int (x5.toInt8.toInt32)), (.int (5 : Int32)), (.ref a3)])) rfl rfl (hb hby own_d6_31)
  rw [own_idem _] at W25
  have N25 := Fr.snoc X25 N21 g_a3
  have KK25 : Keep h0 h25 [a3] := KK21.wr W25 (Or.inl (List.mem_of_getElem? (i := 0) rfl))
  have V2_e25 := V2_e21.other W25 ne23
  have V25 : Arv Z h25 a3 k3 .byte (21 : Int32) [(.int (x0.toInt8.toInt32)), (.int (x1.toInt8.toInt32)), (.int (x2.toInt8.toInt32)), (.int (x3.toInt8.toInt32)), (.int (x4.toInt8.toInt32)), (.int (x5.toInt8.toInt32)), (.int (0 : Int32)), (.int (0 : Int32)), (.int (0 : Int32)), (.int (0 : Int32)), (.int (0 : Int32)), (.int (0 : Int32)), (.int (0 : Int32)), (.int (0 : Int32)), (.int (0 : Int32)), (.int (0 : Int32)), (.int (0 : Int32)), (.int (0 : Int32)), (.int (0 : Int32)), (.int (0 : Int32)), (.int (0 : Int32))] (.int (0 : Int32)) := Arv.set Ar24 qa24 Sa24 Na24 Ha24 Ga24 (fits_nar_byte _) W25 5 rfl (Nat.le_of_ble_eq_true rfl)
  refine own_to (fun t k => st25 t k) ?_
  show own_Fin _ _ _ _ _ _ (T25.setTop (mkF m 32 #[rv a2, own_i 5, rv a3, own_i 5, own_i 21, own_i 5, .val (.int x5)] []))
  refine own_to (fun t k => XS.iinc X25.here hx rfl (hb hby own_d6_32) rfl (l' := #[rv a2, own_i 6, rv a3, own_i 5, own_i 21, own_i 5, .val (.int x5)]) rfl k) ?_
  show own_Fin _ _ _ _ _ _ (T25.setTop (mkF m 35 #[rv a2, own_i 6, rv a3, own_i 5, own_i 21, own_i 5, .val (.int x5)] []))
  refine own_to (fun t k => XS.iinc X25.here hx rfl (hb hby own_d6_35) rfl (l' := #[rv a2, own_i 6, rv a3, own_i 6, own_i 21, own_i 5, .val (.int x5)]) rfl k) ?_
  show own_Fin _ _ _ _ _ _ (T25.setTop (mkF m 38 #[rv a2, own_i 6, rv a3, own_i 6, own_i 21, own_i 5, .val (.int x5)] []))
  refine own_to (fun t k => XS.iinc X25.here hx rfl (hb hby own_d6_38) rfl (l' := #[rv a2, own_i 6, rv a3, own_i 6, own_i 21, own_i 6, .val (.int x5)]) rfl k) ?_
  show own_Fin _ _ _ _ _ _ (T25.setTop (mkF m 41 #[rv a2, own_i 6, rv a3, own_i 6, own_i 21, own_i 6, .val (.int x5)] []))
  refine own_to (fun t k => XS.goto X25.here hx rfl (pc0 := 41) (pc' := 3) rfl (hb hby own_d6_41) (by decide) (by decide) k) ?_
  show own_Fin _ _ _ _ _ _ (T25.setTop (mkF m 3 #[rv a2, own_i 6, rv a3, own_i 6, own_i 21, own_i 6, .val (.int x5)] []))
  refine own_to (fun t k => XS.iload X25.here hx rfl (hb hby own_d6_3) rfl k) ?_
  refine own_to (fun t k => XS.iload X25.here hx rfl (hb hby own_d6_5) rfl k) ?_
  refine own_to (fun t k => XS.icmpNo X25.here hx rfl (hb hby own_d6_7) rfl (tlt (by decide)).2.1 k) ?_
  show own_Fin _ _ _ _ _ _ (T25.setTop (mkF m 10 #[rv a2, own_i 6, rv a3, own_i 6, own_i 21, own_i 6, .val (.int x5)] []))
  refine own_to (fun t k => XS.aloadN X25.here hx rfl (hb hby own_d6_10) rfl rfl k) ?_
  show own_Fin _ _ _ _ _ _ (T25.setTop (mkF m 11 #[rv a2, own_i 6, rv a3, own_i 6, own_i 21, own_i 6, .val (.int x5)] [(.ref a2)]))
  refine own_to (fun t k => XS.iloadN X25.here hx rfl (hb hby own_d6_11) rfl k) ?_
  obtain ⟨cl26, Ar26, qa26, Sa26, Na26, Ha26, Ga26⟩ := id V2_e25
  have hin27 : ¬ ((6 : Int32) < 0 ∨ cl26.slots.size ≤ ((6 : Int32)).toNatClampNeg) := inb_of Sa26 ⟨by decide, by decide⟩
  refine own_to (fun t k => X25.caload hx (j := (6 : Int32)) (v := (.int x6)) (by rw [e25]; exact Ar26.1) (State.isArrayOf_alike hZ.alike Ar26.2.1) Ar26.2.2 hin27 (Has.at Ha26 hin27 rfl) (g := (mkF m 12 #[rv a2, own_i 6, rv a3, own_i 6, own_i 21, own_i 6, .val (.int x5)] [(.int (6 : Int32)), (.ref a2)])) rfl rfl (hb hby own_d6_12) _ k) ?_
  show own_Fin _ _ _ _ _ _ (T25.setTop (mkF m 13 #[rv a2, own_i 6, rv a3, own_i 6, own_i 21, own_i 6, .val (.int x5)] [(.int x6)]))
  refine own_to (fun t k => XS.istore X25.here hx rfl (hb hby own_d6_13) rfl (l' := #[rv a2, own_i 6, rv a3, own_i 6, own_i 21, own_i 6, .val (.int x6)]) rfl k) ?_
  show own_Fin _ _ _ _ _ _ (T25.setTop (mkF m 15 #[rv a2, own_i 6, rv a3, own_i 6, own_i 21, own_i 6, .val (.int x6)] []))
  refine own_to (fun t k => XS.iload X25.here hx rfl (hb hby own_d6_15) rfl k) ?_
  refine own_to (fun t k => XS.sipush X25.here hx rfl (hb hby own_d6_17) k) ?_
  refine own_to (fun t k => XS.icmpYes X25.here hx rfl (pc0 := 20) (pc' := 26) rfl (hb hby own_d6_20) rfl (flt hx6).2.2.2 (by decide) (by decide) k) ?_
  show own_Fin _ _ _ _ _ _ (T25.setTop (mkF m 26 #[rv a2, own_i 6, rv a3, own_i 6, own_i 21, own_i 6, .val (.int x6)] []))
  refine own_to (fun t k => XS.aloadN X25.here hx rfl (hb hby own_d6_26) rfl rfl k) ?_
  show own_Fin _ _ _ _ _ _ (T25.setTop (mkF m 27 #[rv a2, own_i 6, rv a3, own_i 6, own_i 21, own_i 6, .val (.int x6)] [(.ref a3)]))
  refine own_to (fun t k => XS.iloadN X25.here hx rfl (hb hby own_d6_27) rfl k) ?_
  refine own_to (fun t k => XS.iload X25.here hx rfl (hb hby own_d6_28) rfl k) ?_
  refine own_to (fun t k => XS.i2b X25.here hx rfl (hb hby own_d6_30) rfl k) ?_
  show own_Fin _ _ _ _ _ _ (T25.setTop (mkF m 31 #[rv a2, own_i 6, rv a3, own_i 6, own_i 21, own_i 6, .val (.int x6)] [(.int (x6.toInt8.toInt32)), (.int (6 : Int32)), (.ref a3)]))
  obtain ⟨cl28, Ar28, qa28, Sa28, Na28, Ha28, Ga28⟩ := id V25
  have hin29 : ¬ ((6 : Int32) < 0 ∨ cl28.slots.size ≤ ((6 : Int32)).toNatClampNeg) := inb_of Sa28 ⟨by decide, by decide⟩
  obtain ⟨T29, h29, X29, e29, W29, st29⟩ := stB X25 hx hZ e25 Ar28 (j := (6 : Int32)) hin29 (g := (mkF m 31 #[rv a2, own_i 6, rv a3, own_i 6, own_i 21, own_i 6, .val (.int x6)] [(.int (x6.toInt8.toInt32)), (.int (6 : Int32)), (.ref a3)])) rfl rfl (hb hby own_d6_31)
  rw [own_idem _] at W29
  have N29 := Fr.snoc X29 N25 g_a3
  have KK29 : Keep h0 h29 [a3] := KK25.wr W29 (Or.inl (List.mem_of_getElem? (i := 0) rfl))
  have V2_e29 := V2_e25.other W29 ne23
  have V29 : Arv Z h29 a3 k3 .byte (21 : Int32) [(.int (x0.toInt8.toInt32)), (.int (x1.toInt8.toInt32)), (.int (x2.toInt8.toInt32)), (.int (x3.toInt8.toInt32)), (.int (x4.toInt8.toInt32)), (.int (x5.toInt8.toInt32)), (.int (x6.toInt8.toInt32)), (.int (0 : Int32)), (.int (0 : Int32)), (.int (0 : Int32)), (.int (0 : Int32)), (.int (0 : Int32)), (.int (0 : Int32)), (.int (0 : Int32)), (.int (0 : Int32)), (.int (0 : Int32)), (.int (0 : Int32)), (.int (0 : Int32)), (.int (0 : Int32)), (.int (0 : Int32)), (.int (0 : Int32))] (.int (0 : Int32)) := Arv.set Ar28 qa28 Sa28 Na28 Ha28 Ga28 (fits_nar_byte _) W29 6 rfl (Nat.le_of_ble_eq_true rfl)
  have zs30 := (Nat.le_trans (Nat.le_trans (Nat.le_trans zs17 (Keep.of_wr W16).1) (Keep.of_wr W21).1) (Keep.of_wr W25).1)
  refine own_to (fun t k => st29 t k) ?_
  show own_Fin _ _ _ _ _ _ (T29.setTop (mkF m 32 #[rv a2, own_i 6, rv a3, own_i 6, own_i 21, own_i 6, .val (.int x6)] []))
  refine own_to (fun t k => XS.iinc X29.here hx rfl (hb hby own_d6_32) rfl (l' := #[rv a2, own_i 7, rv a3, own_i 6, own_i 21, own_i 6, .val (.int x6)]) rfl k) ?_
  show own_Fin _ _ _ _ _ _ (T29.setTop (mkF m 35 #[rv a2, own_i 7, rv a3, own_i 6, own_i 21, own_i 6, .val (.int x6)] []))
  refine own_to (fun t k => XS.iinc X29.here hx rfl (hb hby own_d6_35) rfl (l' := #[rv a2, own_i 7, rv a3, own_i 7, own_i 21, own_i 6, .val (.int x6)]) rfl k) ?_
  show own_Fin _ _ _ _ _ _ (T29.setTop (mkF m 38 #[rv a2, own_i 7, rv a3, own_i 7, own_i 21, own_i 6, .val (.int x6)] []))
  refine own_to (fun t k => XS.iinc X29.here hx rfl (hb hby own_d6_38) rfl (l' := #[rv a2, own_i 7, rv a3, own_i 7, own_i 21, own_i 7, .val (.int x6)]) rfl k) ?_
  show own_Fin _ _ _ _ _ _ (T29.setTop (mkF m 41 #[rv a2, own_i 7, rv a3, own_i 7, own_i 21, own_i 7, .val (.int x6)] []))
  refine own_to (fun t k => XS.goto X29.here hx rfl (pc0 := 41) (pc' := 3) rfl (hb hby own_d6_41) (by decide) (by decide) k) ?_
  show own_Fin _ _ _ _ _ _ (T29.setTop (mkF m 3 #[rv a2, own_i 7, rv a3, own_i 7, own_i 21, own_i 7, .val (.int x6)] []))
  refine own_to (fun t k => XS.iload X29.here hx rfl (hb hby own_d6_3) rfl k) ?_
  refine own_to (fun t k => XS.iload X29.here hx rfl (hb hby own_d6_5) rfl k) ?_
  refine own_to (fun t k => XS.icmpNo X29.here hx rfl (hb hby own_d6_7) rfl (tlt (by decide)).2.1 k) ?_
  show own_Fin _ _ _ _ _ _ (T29.setTop (mkF m 10 #[rv a2, own_i 7, rv a3, own_i 7, own_i 21, own_i 7, .val (.int x6)] []))
  refine own_to (fun t k => XS.aloadN X29.here hx rfl (hb hby own_d6_10) rfl rfl k) ?_
  show own_Fin _ _ _ _ _ _ (T29.setTop (mkF m 11 #[rv a2, own_i 7, rv a3, own_i 7, own_i 21, own_i 7, .val (.int x6)] [(.ref a2)]))
  refine own_to (fun t k => XS.iloadN X29.here hx rfl (hb hby own_d6_11) rfl k) ?_
  obtain ⟨cl31, Ar31, qa31, Sa31, Na31, Ha31, Ga31⟩ := id V2_e29
  have hin32 : ¬ ((7 : Int32) < 0 ∨ cl31.slots.size ≤ ((7 : Int32)).toNatClampNeg) := inb_of Sa31 ⟨by decide, by decide⟩
  refine own_to (fun t k => X29.caload hx (j := (7 : Int32)) (v := (.int x7)) (by rw [e29]; exact Ar31.1) (State.isArrayOf_alike hZ.alike Ar31.2.1) Ar31.2.2 hin32 (Has.at Ha31 hin32 rfl) (g := (mkF m 12 #[rv a2, own_i 7, rv a3, own_i 7, own_i 21, own_i 7, .val (.int x6)] [(.int (7 : Int32)), (.ref a2)])) rfl rfl (hb hby own_d6_12) _ k) ?_
  show own_Fin _ _ _ _ _ _ (T29.setTop (mkF m 13 #[rv a2, own_i 7, rv a3, own_i 7, own_i 21, own_i 7, .val (.int x6)] [(.int x7)]))
  refine own_to (fun t k => XS.istore X29.here hx rfl (hb hby own_d6_13) rfl (l' := #[rv a2, own_i 7, rv a3, own_i 7, own_i 21, own_i 7, .val (.int x7)]) rfl k) ?_
  show own_Fin _ _ _ _ _ _ (T29.setTop (mkF m 15 #[rv a2, own_i 7, rv a3, own_i 7, own_i 21, own_i 7, .val (.int x7)] []))
  refine own_to (fun t k => XS.iload X29.here hx rfl (hb hby own_d6_15) rfl k) ?_
  refine own_to (fun t k => XS.sipush X29.here hx rfl (hb hby own_d6_17) k) ?_
  refine own_to (fun t k => XS.icmpYes X29.here hx rfl (pc0 := 20) (pc' := 26) rfl (hb hby own_d6_20) rfl (flt hx7).2.2.2 (by decide) (by decide) k) ?_
  show own_Fin _ _ _ _ _ _ (T29.setTop (mkF m 26 #[rv a2, own_i 7, rv a3, own_i 7, own_i 21, own_i 7, .val (.int x7)] []))
  refine own_to (fun t k => XS.aloadN X29.here hx rfl (hb hby own_d6_26) rfl rfl k) ?_
  show own_Fin _ _ _ _ _ _ (T29.setTop (mkF m 27 #[rv a2, own_i 7, rv a3, own_i 7, own_i 21, own_i 7, .val (.int x7)] [(.ref a3)]))
  refine own_to (fun t k => XS.iloadN X29.here hx rfl (hb hby own_d6_27) rfl k) ?_
  refine own_to (fun t k => XS.iload X29.here hx rfl (hb hby own_d6_28) rfl k) ?_
  refine own_to (fun t k => XS.i2b X29.here hx rfl (hb hby own_d6_30) rfl k) ?_
  show own_Fin _ _ _ _ _ _ (T29.setTop (mkF m 31 #[rv a2, own_i 7, rv a3, own_i 7, own_i 21, own_i 7, .val (.int x7)] [(.int (x7.toInt8.toInt32)), (.int (7 : Int32)), (.ref a3)]))
  obtain ⟨cl33, Ar33, qa33, Sa33, Na33, Ha33, Ga33⟩ := id V29
  have hin34 : ¬ ((7 : Int32) < 0 ∨ cl33.slots.size ≤ ((7 : Int32)).toNatClampNeg) := inb_of Sa33 ⟨by decide, by decide⟩
  obtain ⟨T34, h34, X34, e34, W34, st34⟩ := stB X29 hx hZ e29 Ar33 (j := (7 : Int32)) hin34 (g := (mkF m 31 #[rv a2, own_i 7, rv a3, own_i 7, own_i 21, own_i 7, .val (.int x7)] [(.int (x7.toInt8.toInt32)), (.int (7 : Int32)), (.ref a3)])) rfl rfl (hb hby own_d6_31)
  rw [own_idem _] at W34
  have N34 := Fr.snoc X34 N29 g_a3
  have KK34 : Keep h0 h34 [a3] := KK29.wr W34 (Or.inl (List.mem_of_getElem? (i := 0) rfl))
  have V2_e34 := V2_e29.other W34 ne23
  have V34 : Arv Z h34 a3 k3 .byte (21 : Int32) [(.int (x0.toInt8.toInt32)), (.int (x1.toInt8.toInt32)), (.int (x2.toInt8.toInt32)), (.int (x3.toInt8.toInt32)), (.int (x4.toInt8.toInt32)), (.int (x5.toInt8.toInt32)), (.int (x6.toInt8.toInt32)), (.int (x7.toInt8.toInt32)), (.int (0 : Int32)), (.int (0 : Int32)), (.int (0 : Int32)), (.int (0 : Int32)), (.int (0 : Int32)), (.int (0 : Int32)), (.int (0 : Int32)), (.int (0 : Int32)), (.int (0 : Int32)), (.int (0 : Int32)), (.int (0 : Int32)), (.int (0 : Int32)), (.int (0 : Int32))] (.int (0 : Int32)) := Arv.set Ar33 qa33 Sa33 Na33 Ha33 Ga33 (fits_nar_byte _) W34 7 rfl (Nat.le_of_ble_eq_true rfl)
  refine own_to (fun t k => st34 t k) ?_
  show own_Fin _ _ _ _ _ _ (T34.setTop (mkF m 32 #[rv a2, own_i 7, rv a3, own_i 7, own_i 21, own_i 7, .val (.int x7)] []))
  refine own_to (fun t k => XS.iinc X34.here hx rfl (hb hby own_d6_32) rfl (l' := #[rv a2, own_i 8, rv a3, own_i 7, own_i 21, own_i 7, .val (.int x7)]) rfl k) ?_
  show own_Fin _ _ _ _ _ _ (T34.setTop (mkF m 35 #[rv a2, own_i 8, rv a3, own_i 7, own_i 21, own_i 7, .val (.int x7)] []))
  refine own_to (fun t k => XS.iinc X34.here hx rfl (hb hby own_d6_35) rfl (l' := #[rv a2, own_i 8, rv a3, own_i 8, own_i 21, own_i 7, .val (.int x7)]) rfl k) ?_
  show own_Fin _ _ _ _ _ _ (T34.setTop (mkF m 38 #[rv a2, own_i 8, rv a3, own_i 8, own_i 21, own_i 7, .val (.int x7)] []))
  refine own_to (fun t k => XS.iinc X34.here hx rfl (hb hby own_d6_38) rfl (l' := #[rv a2, own_i 8, rv a3, own_i 8, own_i 21, own_i 8, .val (.int x7)]) rfl k) ?_
  show own_Fin _ _ _ _ _ _ (T34.setTop (mkF m 41 #[rv a2, own_i 8, rv a3, own_i 8, own_i 21, own_i 8, .val (.int x7)] []))
  refine own_to (fun t k => XS.goto X34.here hx rfl (pc0 := 41) (pc' := 3) rfl (hb hby own_d6_41) (by decide) (by decide) k) ?_
  show own_Fin _ _ _ _ _ _ (T34.setTop (mkF m 3 #[rv a2, own_i 8, rv a3, own_i 8, own_i 21, own_i 8, .val (.int x7)] []))
  refine own_to (fun t k => XS.iload X34.here hx rfl (hb hby own_d6_3) rfl k) ?_
  refine own_to (fun t k => XS.iload X34.here hx rfl (hb hby own_d6_5) rfl k) ?_
  refine own_to (fun t k => XS.icmpNo X34.here hx rfl (hb hby own_d6_7) rfl (tlt (by decide)).2.1 k) ?_
  show own_Fin _ _ _ _ _ _ (T34.setTop (mkF m 10 #[rv a2, own_i 8, rv a3, own_i 8, own_i 21, own_i 8, .val (.int x7)] []))
  refine own_to (fun t k => XS.aloadN X34.here hx rfl (hb hby own_d6_10) rfl rfl k) ?_
  show own_Fin _ _ _ _ _ _ (T34.setTop (mkF m 11 #[rv a2, own_i 8, rv a3, own_i 8, own_i 21, own_i 8, .val (.int x7)] [(.ref a2)]))
  refine own_to (fun t k => XS.iloadN X34.here hx rfl (hb hby own_d6_11) rfl k) ?_
  obtain ⟨cl35, Ar35, qa35, Sa35, Na35, Ha35, Ga35⟩ := id V2_e34
  have hin36 : ¬ ((8 : Int32) < 0 ∨ cl35.slots.size ≤ ((8 : Int32)).toNatClampNeg) := inb_of Sa35 ⟨by decide, by decide⟩
  refine own_to (fun t k => X34.caload hx (j := (8 : Int32)) (v := (.int x8)) (by rw [e34]; exact Ar35.1) (State.isArrayOf_alike hZ.alike Ar35.2.1) Ar35.2.2 hin36 (Has.at Ha35 hin36 rfl) (g := (mkF m 12 #[rv a2, own_i 8, rv a3, own_i 8, own_i 21, own_i 8, .val (.int x7)] [(.int (8 : Int32)), (.ref a2)])) rfl rfl (hb hby own_d6_12) _ k) ?_
  show own_Fin _ _ _ _ _ _ (T34.setTop (mkF m 13 #[rv a2, own_i 8, rv a3, own_i 8, own_i 21, own_i 8, .val (.int x7)] [(.int x8)]))
  refine own_to (fun t k => XS.istore X34.here hx rfl (hb hby own_d6_13) rfl (l' := #[rv a2, own_i 8, rv a3, own_i 8, own_i 21, own_i 8, .val (.int x8)]) rfl k) ?_
  show own_Fin _ _ _ _ _ _ (T34.setTop (mkF m 15 #[rv a2, own_i 8, rv a3, own_i 8, own_i 21, own_i 8, .val (.int x8)] []))
  refine own_to (fun t k => XS.iload X34.here hx rfl (hb hby own_d6_15) rfl k) ?_
  refine own_to (fun t k => XS.sipush X34.here hx rfl (hb hby own_d6_17) k) ?_
  refine own_to (fun t k => XS.icmpYes X34.here hx rfl (pc0 := 20) (pc' := 26) rfl (hb hby own_d6_20) rfl (flt hx8).2.2.2 (by decide) (by decide) k) ?_
  show own_Fin _ _ _ _ _ _ (T34.setTop (mkF m 26 #[rv a2, own_i 8, rv a3, own_i 8, own_i 21, own_i 8, .val (.int x8)] []))
  refine own_to (fun t k => XS.aloadN X34.here hx rfl (hb hby own_d6_26) rfl rfl k) ?_
  show own_Fin _ _ _ _ _ _ (T34.setTop (mkF m 27 #[rv a2, own_i 8, rv a3, own_i 8, own_i 21, own_i 8, .val (.int x8)] [(.ref a3)]))
  refine own_to (fun t k => XS.iloadN X34.here hx rfl (hb hby own_d6_27) rfl k) ?_
  refine own_to (fun t k => XS.iload X34.here hx rfl (hb hby own_d6_28) rfl k) ?_
  refine own_to (fun t k => XS.i2b X34.here hx rfl (hb hby own_d6_30) rfl k) ?_
  show own_Fin _ _ _ _ _ _ (T34.setTop (mkF m 31 #[rv a2, own_i 8, rv a3, own_i 8, own_i 21, own_i 8, .val (.int x8)] [(.int (x8.toInt8.toInt32)), (.int (8 : Int32)), (.ref a3)]))
  obtain ⟨cl37, Ar37, qa37, Sa37, Na37, Ha37, Ga37⟩ := id V34
  have hin38 : ¬ ((8 : Int32) < 0 ∨ cl37.slots.size ≤ ((8 : Int32)).toNatClampNeg) := inb_of Sa37 ⟨by decide, by decide⟩
  obtain ⟨T38, h38, X38, e38, W38, st38⟩ := stB X34 hx hZ e34 Ar37 (j := (8 : Int32)) hin38 (g := (mkF m 31 #[rv a2, own_i 8, rv a3, own_i 8, own_i 21, own_i 8, .val (.int x8)] [(.int (x8.toInt8.toInt32)), (.int (8 : Int32)), (.ref a3)])) rfl rfl (hb hby own_d6_31)
  rw [own_idem _] at W38
  have N38 := Fr.snoc X38 N34 g_a3
  have KK38 : Keep h0 h38 [a3] := KK34.wr W38 (Or.inl (List.mem_of_getElem? (i := 0) rfl))
  have V2_e38 := V2_e34.other W38 ne23
  have V38 : Arv Z h38 a3 k3 .byte (21 : Int32) [(.int (x0.toInt8.toInt32)), (.int (x1.toInt8.toInt32)), (.int (x2.toInt8.toInt32)), (.int (x3.toInt8.toInt32)), (.int (x4.toInt8.toInt32)), (.int (x5.toInt8.toInt32)), (.int (x6.toInt8.toInt32)), (.int (x7.toInt8.toInt32)), (.int (x8.toInt8.toInt32)), (.int (0 : Int32)), (.int (0 : Int32)), (.int (0 : Int32)), (.int (0 : Int32)), (.int (0 : Int32)), (.int (0 : Int32)), (.int (0 : Int32)), (.int (0 : Int32)), (.int (0 : Int32)), (.int (0 : Int32)), (.int (0 : Int32)), (.int (0 : Int32))] (.int (0 : Int32)) := Arv.set Ar37 qa37 Sa37 Na37 Ha37 Ga37 (fits_nar_byte _) W38 8 rfl (Nat.le_of_ble_eq_true rfl)
  refine own_to (fun t k => st38 t k) ?_
  show own_Fin _ _ _ _ _ _ (T38.setTop (mkF m 32 #[rv a2, own_i 8, rv a3, own_i 8, own_i 21, own_i 8, .val (.int x8)] []))
  refine own_to (fun t k => XS.iinc X38.here hx rfl (hb hby own_d6_32) rfl (l' := #[rv a2, own_i 9, rv a3, own_i 8, own_i 21, own_i 8, .val (.int x8)]) rfl k) ?_
  show own_Fin _ _ _ _ _ _ (T38.setTop (mkF m 35 #[rv a2, own_i 9, rv a3, own_i 8, own_i 21, own_i 8, .val (.int x8)] []))
  refine own_to (fun t k => XS.iinc X38.here hx rfl (hb hby own_d6_35) rfl (l' := #[rv a2, own_i 9, rv a3, own_i 9, own_i 21, own_i 8, .val (.int x8)]) rfl k) ?_
  show own_Fin _ _ _ _ _ _ (T38.setTop (mkF m 38 #[rv a2, own_i 9, rv a3, own_i 9, own_i 21, own_i 8, .val (.int x8)] []))
  refine own_to (fun t k => XS.iinc X38.here hx rfl (hb hby own_d6_38) rfl (l' := #[rv a2, own_i 9, rv a3, own_i 9, own_i 21, own_i 9, .val (.int x8)]) rfl k) ?_
  show own_Fin _ _ _ _ _ _ (T38.setTop (mkF m 41 #[rv a2, own_i 9, rv a3, own_i 9, own_i 21, own_i 9, .val (.int x8)] []))
  refine own_to (fun t k => XS.goto X38.here hx rfl (pc0 := 41) (pc' := 3) rfl (hb hby own_d6_41) (by decide) (by decide) k) ?_
  show own_Fin _ _ _ _ _ _ (T38.setTop (mkF m 3 #[rv a2, own_i 9, rv a3, own_i 9, own_i 21, own_i 9, .val (.int x8)] []))
  refine own_to (fun t k => XS.iload X38.here hx rfl (hb hby own_d6_3) rfl k) ?_
  refine own_to (fun t k => XS.iload X38.here hx rfl (hb hby own_d6_5) rfl k) ?_
  refine own_to (fun t k => XS.icmpNo X38.here hx rfl (hb hby own_d6_7) rfl (tlt (by decide)).2.1 k) ?_
  show own_Fin _ _ _ _ _ _ (T38.setTop (mkF m 10 #[rv a2, own_i 9, rv a3, own_i 9, own_i 21, own_i 9, .val (.int x8)] []))
  refine own_to (fun t k => XS.aloadN X38.here hx rfl (hb hby own_d6_10) rfl rfl k) ?_
  show own_Fin _ _ _ _ _ _ (T38.setTop (mkF m 11 #[rv a2, own_i 9, rv a3, own_i 9, own_i 21, own_i 9, .val (.int x8)] [(.ref a2)]))
  refine own_to (fun t k => XS.iloadN X38.here hx rfl (hb hby own_d6_11) rfl k) ?_
  obtain ⟨cl39, Ar39, qa39, Sa39, Na39, Ha39, Ga39⟩ := id V2_e38
  have hin40 : ¬ ((9 : Int32) < 0 ∨ cl39.slots.size ≤ ((9 : Int32)).toNatClampNeg) := inb_of Sa39 ⟨by decide, by decide⟩
  refine own_to (fun t k => X38.caload hx (j := (9 : Int32)) (v := (.int x9)) (by rw [e38]; exact Ar39.1) (State.isArrayOf_alike hZ.alike Ar39.2.1) Ar39.2.2 hin40 (Has.at Ha39 hin40 rfl) (g := (mkF m 12 #[rv a2, own_i 9, rv a3, own_i 9, own_i 21, own_i 9, .val (.int x8)] [(.int (9 : Int32)), (.ref a2)])) rfl rfl (hb hby own_d6_12) _ k) ?_
  show own_Fin _ _ _ _ _ _ (T38.setTop (mkF m 13 #[rv a2, own_i 9, rv a3, own_i 9, own_i 21, own_i 9, .val (.int x8)] [(.int x9)]))
  refine own_to (fun t k => XS.istore X38.here hx rfl (hb hby own_d6_13) rfl (l' := #[rv a2, own_i 9, rv a3, own_i 9, own_i 21, own_i 9, .val (.int x9)]) rfl k) ?_
  show own_Fin _ _ _ _ _ _ (T38.setTop (mkF m 15 #[rv a2, own_i 9, rv a3, own_i 9, own_i 21, own_i 9, .val (.int x9)] []))
  refine own_to (fun t k => XS.iload X38.here hx rfl (hb hby own_d6_15) rfl k) ?_
  refine own_to (fun t k => XS.sipush X38.here hx rfl (hb hby own_d6_17) k) ?_
  refine own_to (fun t k => XS.icmpYes X38.here hx rfl (pc0 := 20) (pc' := 26) rfl (hb hby own_d6_20) rfl (flt hx9).2.2.2 (by decide) (by decide) k) ?_
  show own_Fin _ _ _ _ _ _ (T38.setTop (mkF m 26 #[rv a2, own_i 9, rv a3, own_i 9, own_i 21, own_i 9, .val (.int x9)] []))
  refine own_to (fun t k => XS.aloadN X38.here hx rfl (hb hby own_d6_26) rfl rfl k) ?_
  show own_Fin _ _ _ _ _ _ (T38.setTop (mkF m 27 #[rv a2, own_i 9, rv a3, own_i 9, own_i 21, own_i 9, .val (.int x9)] [(.ref a3)]))
  refine own_to (fun t k => XS.iloadN X38.here hx rfl (hb hby own_d6_27) rfl k) ?_
  refine own_to (fun t k => XS.iload X38.here hx rfl (hb hby own_d6_28) rfl k) ?_
  refine own_to (fun t k => XS.i2b X38.here hx rfl (hb hby own_d6_30) rfl k) ?_
  show own_Fin _ _ _ _ _ _ (T38.setTop (mkF m 31 #[rv a2, own_i 9, rv a3, own_i 9, own_i 21, own_i 9, .val (.int x9)] [(.int (x9.toInt8.toInt32)), (.int (9 : Int32)), (.ref a3)]))
  obtain ⟨cl41, Ar41, qa41, Sa41, Na41, Ha41, Ga41⟩ := id V38
  have hin42 : ¬ ((9 : Int32) < 0 ∨ cl41.slots.size ≤ ((9 : Int32)).toNatClampNeg) := inb_of Sa41 ⟨by decide, by decide⟩
  obtain ⟨T42, h42, X42, e42, W42, st42⟩ := stB X38 hx hZ e38 Ar41 (j := (9 : Int32)) hin42 (g := (mkF m 31 #[rv a2, own_i 9, rv a3, own_i 9, own_i 21, own_i 9, .val (.int x9)] [(.int (x9.toInt8.toInt32)), (.int (9 : Int32)), (.ref a3)])) rfl rfl (hb hby own_d6_31)
  rw [own_idem _] at W42
  have N42 := Fr.snoc X42 N38 g_a3
  have KK42 : Keep h0 h42 [a3] := KK38.wr W42 (Or.inl (List.mem_of_getElem? (i := 0) rfl))
  have V2_e42 := V2_e38.other W42 ne23
  have V42 : Arv Z h42 a3 k3 .byte (21 : Int32) [(.int (x0.toInt8.toInt32)), (.int (x1.toInt8.toInt32)), (.int (x2.toInt8.toInt32)), (.int (x3.toInt8.toInt32)), (.int (x4.toInt8.toInt32)), (.int (x5.toInt8.toInt32)), (.int (x6.toInt8.toInt32)), (.int (x7.toInt8.toInt32)), (.int (x8.toInt8.toInt32)), (.int (x9.toInt8.toInt32)), (.int (0 : Int32)), (.int (0 : Int32)), (.int (0 : Int32)), (.int (0 : Int32)), (.int (0 : Int32)), (.int (0 : Int32)), (.int (0 : Int32)), (.int (0 : Int32)), (.int (0 : Int32)), (.int (0 : Int32)), (.int (0 : Int32))] (.int (0 : Int32)) := Arv.set Ar41 qa41 Sa41 Na41 Ha41 Ga41 (fits_nar_byte _) W42 9 rfl (Nat.le_of_ble_eq_true rfl)
  have zs43 := (Nat.le_trans (Nat.le_trans (Nat.le_trans zs30 (Keep.of_wr W29).1) (Keep.of_wr W34).1) (Keep.of_wr W38).1)
  refine own_to (fun t k => st42 t k) ?_
  show own_Fin _ _ _ _ _ _ (T42.setTop (mkF m 32 #[rv a2, own_i 9, rv a3, own_i 9, own_i 21, own_i 9, .val (.int x9)] []))
  refine own_to (fun t k => XS.iinc X42.here hx rfl (hb hby own_d6_32) rfl (l' := #[rv a2, own_i 10, rv a3, own_i 9, own_i 21, own_i 9, .val (.int x9)]) rfl k) ?_
  show own_Fin _ _ _ _ _ _ (T42.setTop (mkF m 35 #[rv a2, own_i 10, rv a3, own_i 9, own_i 21, own_i 9, .val (.int x9)] []))
  refine own_to (fun t k => XS.iinc X42.here hx rfl (hb hby own_d6_35) rfl (l' := #[rv a2, own_i 10, rv a3, own_i 10, own_i 21, own_i 9, .val (.int x9)]) rfl k) ?_
  show own_Fin _ _ _ _ _ _ (T42.setTop (mkF m 38 #[rv a2, own_i 10, rv a3, own_i 10, own_i 21, own_i 9, .val (.int x9)] []))
  refine own_to (fun t k => XS.iinc X42.here hx rfl (hb hby own_d6_38) rfl (l' := #[rv a2, own_i 10, rv a3, own_i 10, own_i 21, own_i 10, .val (.int x9)]) rfl k) ?_
  show own_Fin _ _ _ _ _ _ (T42.setTop (mkF m 41 #[rv a2, own_i 10, rv a3, own_i 10, own_i 21, own_i 10, .val (.int x9)] []))
  refine own_to (fun t k => XS.goto X42.here hx rfl (pc0 := 41) (pc' := 3) rfl (hb hby own_d6_41) (by decide) (by decide) k) ?_
  show own_Fin _ _ _ _ _ _ (T42.setTop (mkF m 3 #[rv a2, own_i 10, rv a3, own_i 10, own_i 21, own_i 10, .val (.int x9)] []))
  refine own_to (fun t k => XS.iload X42.here hx rfl (hb hby own_d6_3) rfl k) ?_
  refine own_to (fun t k => XS.iload X42.here hx rfl (hb hby own_d6_5) rfl k) ?_
  refine own_to (fun t k => XS.icmpNo X42.here hx rfl (hb hby own_d6_7) rfl (tlt (by decide)).2.1 k) ?_
  show own_Fin _ _ _ _ _ _ (T42.setTop (mkF m 10 #[rv a2, own_i 10, rv a3, own_i 10, own_i 21, own_i 10, .val (.int x9)] []))
  refine own_to (fun t k => XS.aloadN X42.here hx rfl (hb hby own_d6_10) rfl rfl k) ?_
  show own_Fin _ _ _ _ _ _ (T42.setTop (mkF m 11 #[rv a2, own_i 10, rv a3, own_i 10, own_i 21, own_i 10, .val (.int x9)] [(.ref a2)]))
  refine own_to (fun t k => XS.iloadN X42.here hx rfl (hb hby own_d6_11) rfl k) ?_
  obtain ⟨cl44, Ar44, qa44, Sa44, Na44, Ha44, Ga44⟩ := id V2_e42
  have hin45 : ¬ ((10 : Int32) < 0 ∨ cl44.slots.size ≤ ((10 : Int32)).toNatClampNeg) := inb_of Sa44 ⟨by decide, by decide⟩
  refine own_to (fun t k => X42.caload hx (j := (10 : Int32)) (v := (.int x10)) (by rw [e42]; exact Ar44.1) (State.isArrayOf_alike hZ.alike Ar44.2.1) Ar44.2.2 hin45 (Has.at Ha44 hin45 rfl) (g := (mkF m 12 #[rv a2, own_i 10, rv a3, own_i 10, own_i 21, own_i 10, .val (.int x9)] [(.int (10 : Int32)), (.ref a2)])) rfl rfl (hb hby own_d6_12) _ k) ?_
  show own_Fin _ _ _ _ _ _ (T42.setTop (mkF m 13 #[rv a2, own_i 10, rv a3, own_i 10, own_i 21, own_i 10, .val (.int x9)] [(.int x10)]))
  refine own_to (fun t k => XS.istore X42.here hx rfl (hb hby own_d6_13) rfl (l' := #[rv a2, own_i 10, rv a3, own_i 10, own_i 21, own_i 10, .val (.int x10)]) rfl k) ?_
  show own_Fin _ _ _ _ _ _ (T42.setTop (mkF m 15 #[rv a2, own_i 10, rv a3, own_i 10, own_i 21, own_i 10, .val (.int x10)] []))
  refine own_to (fun t k => XS.iload X42.here hx rfl (hb hby own_d6_15) rfl k) ?_
  refine own_to (fun t k => XS.sipush X42.here hx rfl (hb hby own_d6_17) k) ?_
  refine own_to (fun t k => XS.icmpYes X42.here hx rfl (pc0 := 20) (pc' := 26) rfl (hb hby own_d6_20) rfl (flt hx10).2.2.2 (by decide) (by decide) k) ?_
  show own_Fin _ _ _ _ _ _ (T42.setTop (mkF m 26 #[rv a2, own_i 10, rv a3, own_i 10, own_i 21, own_i 10, .val (.int x10)] []))
  refine own_to (fun t k => XS.aloadN X42.here hx rfl (hb hby own_d6_26) rfl rfl k) ?_
  show own_Fin _ _ _ _ _ _ (T42.setTop (mkF m 27 #[rv a2, own_i 10, rv a3, own_i 10, own_i 21, own_i 10, .val (.int x10)] [(.ref a3)]))
  refine own_to (fun t k => XS.iloadN X42.here hx rfl (hb hby own_d6_27) rfl k) ?_
  refine own_to (fun t k => XS.iload X42.here hx rfl (hb hby own_d6_28) rfl k) ?_
  refine own_to (fun t k => XS.i2b X42.here hx rfl (hb hby own_d6_30) rfl k) ?_
  show own_Fin _ _ _ _ _ _ (T42.setTop (mkF m 31 #[rv a2, own_i 10, rv a3, own_i 10, own_i 21, own_i 10, .val (.int x10)] [(.int (x10.toInt8.toInt32)), (.int (10 : Int32)), (.ref a3)]))
  obtain ⟨cl46, Ar46, qa46, Sa46, Na46, Ha46, Ga46⟩ := id V42
  have hin47 : ¬ ((10 : Int32) < 0 ∨ cl46.slots.size ≤ ((10 : Int32)).toNatClampNeg) := inb_of Sa46 ⟨by decide, by decide⟩
  obtain ⟨T47, h47, X47, e47, W47, st47⟩ := stB X42 hx hZ e42 Ar46 (j := (10 : Int32)) hin47 (g := (mkF m 31 #[rv a2, own_i 10, rv a3, own_i 10, own_i 21, own_i 10, .val (.int x10)] [(.int (x10.toInt8.toInt32)), (.int (10 : Int32)), (.ref a3)])) rfl rfl (hb hby own_d6_31)
  rw [own_idem _] at W47
  have N47 := Fr.snoc X47 N42 g_a3
  have KK47 : Keep h0 h47 [a3] := KK42.wr W47 (Or.inl (List.mem_of_getElem? (i := 0) rfl))
  have V2_e47 := V2_e42.other W47 ne23
  have V47 : Arv Z h47 a3 k3 .byte (21 : Int32) [(.int (x0.toInt8.toInt32)), (.int (x1.toInt8.toInt32)), (.int (x2.toInt8.toInt32)), (.int (x3.toInt8.toInt32)), (.int (x4.toInt8.toInt32)), (.int (x5.toInt8.toInt32)), (.int (x6.toInt8.toInt32)), (.int (x7.toInt8.toInt32)), (.int (x8.toInt8.toInt32)), (.int (x9.toInt8.toInt32)), (.int (x10.toInt8.toInt32)), (.int (0 : Int32)), (.int (0 : Int32)), (.int (0 : Int32)), (.int (0 : Int32)), (.int (0 : Int32)), (.int (0 : Int32)), (.int (0 : Int32)), (.int (0 : Int32)), (.int (0 : Int32)), (.int (0 : Int32))] (.int (0 : Int32)) := Arv.set Ar46 qa46 Sa46 Na46 Ha46 Ga46 (fits_nar_byte _) W47 10 rfl (Nat.le_of_ble_eq_true rfl)
  refine own_to (fun t k => st47 t k) ?_
  show own_Fin _ _ _ _ _ _ (T47.setTop (mkF m 32 #[rv a2, own_i 10, rv a3, own_i 10, own_i 21, own_i 10, .val (.int x10)] []))
  refine own_to (fun t k => XS.iinc X47.here hx rfl (hb hby own_d6_32) rfl (l' := #[rv a2, own_i 11, rv a3, own_i 10, own_i 21, own_i 10, .val (.int x10)]) rfl k) ?_
  show own_Fin _ _ _ _ _ _ (T47.setTop (mkF m 35 #[rv a2, own_i 11, rv a3, own_i 10, own_i 21, own_i 10, .val (.int x10)] []))
  refine own_to (fun t k => XS.iinc X47.here hx rfl (hb hby own_d6_35) rfl (l' := #[rv a2, own_i 11, rv a3, own_i 11, own_i 21, own_i 10, .val (.int x10)]) rfl k) ?_
  show own_Fin _ _ _ _ _ _ (T47.setTop (mkF m 38 #[rv a2, own_i 11, rv a3, own_i 11, own_i 21, own_i 10, .val (.int x10)] []))
  refine own_to (fun t k => XS.iinc X47.here hx rfl (hb hby own_d6_38) rfl (l' := #[rv a2, own_i 11, rv a3, own_i 11, own_i 21, own_i 11, .val (.int x10)]) rfl k) ?_
  show own_Fin _ _ _ _ _ _ (T47.setTop (mkF m 41 #[rv a2, own_i 11, rv a3, own_i 11, own_i 21, own_i 11, .val (.int x10)] []))
  refine own_to (fun t k => XS.goto X47.here hx rfl (pc0 := 41) (pc' := 3) rfl (hb hby own_d6_41) (by decide) (by decide) k) ?_
  show own_Fin _ _ _ _ _ _ (T47.setTop (mkF m 3 #[rv a2, own_i 11, rv a3, own_i 11, own_i 21, own_i 11, .val (.int x10)] []))
  refine own_to (fun t k => XS.iload X47.here hx rfl (hb hby own_d6_3) rfl k) ?_
  refine own_to (fun t k => XS.iload X47.here hx rfl (hb hby own_d6_5) rfl k) ?_
  refine own_to (fun t k => XS.icmpNo X47.here hx rfl (hb hby own_d6_7) rfl (tlt (by decide)).2.1 k) ?_
  show own_Fin _ _ _ _ _ _ (T47.setTop (mkF m 10 #[rv a2, own_i 11, rv a3, own_i 11, own_i 21, own_i 11, .val (.int x10)] []))
  refine own_to (fun t k => XS.aloadN X47.here hx rfl (hb hby own_d6_10) rfl rfl k) ?_
  show own_Fin _ _ _ _ _ _ (T47.setTop (mkF m 11 #[rv a2, own_i 11, rv a3, own_i 11, own_i 21, own_i 11, .val (.int x10)] [(.ref a2)]))
  refine own_to (fun t k => XS.iloadN X47.here hx rfl (hb hby own_d6_11) rfl k) ?_
  obtain ⟨cl48, Ar48, qa48, Sa48, Na48, Ha48, Ga48⟩ := id V2_e47
  have hin49 : ¬ ((11 : Int32) < 0 ∨ cl48.slots.size ≤ ((11 : Int32)).toNatClampNeg) := inb_of Sa48 ⟨by decide, by decide⟩
  refine own_to (fun t k => X47.caload hx (j := (11 : Int32)) (v := (.int x11)) (by rw [e47]; exact Ar48.1) (State.isArrayOf_alike hZ.alike Ar48.2.1) Ar48.2.2 hin49 (Has.at Ha48 hin49 rfl) (g := (mkF m 12 #[rv a2, own_i 11, rv a3, own_i 11, own_i 21, own_i 11, .val (.int x10)] [(.int (11 : Int32)), (.ref a2)])) rfl rfl (hb hby own_d6_12) _ k) ?_
  show own_Fin _ _ _ _ _ _ (T47.setTop (mkF m 13 #[rv a2, own_i 11, rv a3, own_i 11, own_i 21, own_i 11, .val (.int x10)] [(.int x11)]))
  refine own_to (fun t k => XS.istore X47.here hx rfl (hb hby own_d6_13) rfl (l' := #[rv a2, own_i 11, rv a3, own_i 11, own_i 21, own_i 11, .val (.int x11)]) rfl k) ?_
  show own_Fin _ _ _ _ _ _ (T47.setTop (mkF m 15 #[rv a2, own_i 11, rv a3, own_i 11, own_i 21, own_i 11, .val (.int x11)] []))
  refine own_to (fun t k => XS.iload X47.here hx rfl (hb hby own_d6_15) rfl k) ?_
  refine own_to (fun t k => XS.sipush X47.here hx rfl (hb hby own_d6_17) k) ?_
  refine own_to (fun t k => XS.icmpYes X47.here hx rfl (pc0 := 20) (pc' := 26) rfl (hb hby own_d6_20) rfl (flt hx11).2.2.2 (by decide) (by decide) k) ?_
  show own_Fin _ _ _ _ _ _ (T47.setTop (mkF m 26 #[rv a2, own_i 11, rv a3, own_i 11, own_i 21, own_i 11, .val (.int x11)] []))
  refine own_to (fun t k => XS.aloadN X47.here hx rfl (hb hby own_d6_26) rfl rfl k) ?_
  show own_Fin _ _ _ _ _ _ (T47.setTop (mkF m 27 #[rv a2, own_i 11, rv a3, own_i 11, own_i 21, own_i 11, .val (.int x11)] [(.ref a3)]))
  refine own_to (fun t k => XS.iloadN X47.here hx rfl (hb hby own_d6_27) rfl k) ?_
  refine own_to (fun t k => XS.iload X47.here hx rfl (hb hby own_d6_28) rfl k) ?_
  refine own_to (fun t k => XS.i2b X47.here hx rfl (hb hby own_d6_30) rfl k) ?_
  show own_Fin _ _ _ _ _ _ (T47.setTop (mkF m 31 #[rv a2, own_i 11, rv a3, own_i 11, own_i 21, own_i 11, .val (.int x11)] [(.int (x11.toInt8.toInt32)), (.int (11 : Int32)), (.ref a3)]))
  obtain ⟨cl50, Ar50, qa50, Sa50, Na50, Ha50, Ga50⟩ := id V47
  have hin51 : ¬ ((11 : Int32) < 0 ∨ cl50.slots.size ≤ ((11 : Int32)).toNatClampNeg) := inb_of Sa50 ⟨by decide, by decide⟩
  obtain ⟨T51, h51, X51, e51, W51, st51⟩ := stB X47 hx hZ e47 Ar50 (j := (11 : Int32)) hin51 (g := (mkF m 31 #[rv a2, own_i 11, rv a3, own_i 11, own_i 21, own_i 11, .val (.int x11)] [(.int (x11.toInt8.toInt32)), (.int (11 : Int32)), (.ref a3)])) rfl rfl (hb hby own_d6_31)
  rw [own_idem _] at W51
  have N51 := Fr.snoc X51 N47 g_a3
  have KK51 : Keep h0 h51 [a3] := KK47.wr W51 (Or.inl (List.mem_of_getElem? (i := 0) rfl))
  have V2_e51 := V2_e47.other W51 ne23
  have V51 : Arv Z h51 a3 k3 .byte (21 : Int32) [(.int (x0.toInt8.toInt32)), (.int (x1.toInt8.toInt32)), (.int (x2.toInt8.toInt32)), (.int (x3.toInt8.toInt32)), (.int (x4.toInt8.toInt32)), (.int (x5.toInt8.toInt32)), (.int (x6.toInt8.toInt32)), (.int (x7.toInt8.toInt32)), (.int (x8.toInt8.toInt32)), (.int (x9.toInt8.toInt32)), (.int (x10.toInt8.toInt32)), (.int (x11.toInt8.toInt32)), (.int (0 : Int32)), (.int (0 : Int32)), (.int (0 : Int32)), (.int (0 : Int32)), (.int (0 : Int32)), (.int (0 : Int32)), (.int (0 : Int32)), (.int (0 : Int32)), (.int (0 : Int32))] (.int (0 : Int32)) := Arv.set Ar50 qa50 Sa50 Na50 Ha50 Ga50 (fits_nar_byte _) W51 11 rfl (Nat.le_of_ble_eq_true rfl)
  refine own_to (fun t k => st51 t k) ?_
  show own_Fin _ _ _ _ _ _ (T51.setTop (mkF m 32 #[rv a2, own_i 11, rv a3, own_i 11, own_i 21, own_i 11, .val (.int x11)] []))
  refine own_to (fun t k => XS.iinc X51.here hx rfl (hb hby own_d6_32) rfl (l' := #[rv a2, own_i 12, rv a3, own_i 11, own_i 21, own_i 11, .val (.int x11)]) rfl k) ?_
  show own_Fin _ _ _ _ _ _ (T51.setTop (mkF m 35 #[rv a2, own_i 12, rv a3, own_i 11, own_i 21, own_i 11, .val (.int x11)] []))
  refine own_to (fun t k => XS.iinc X51.here hx rfl (hb hby own_d6_35) rfl (l' := #[rv a2, own_i 12, rv a3, own_i 12, own_i 21, own_i 11, .val (.int x11)]) rfl k) ?_
  show own_Fin _ _ _ _ _ _ (T51.setTop (mkF m 38 #[rv a2, own_i 12, rv a3, own_i 12, own_i 21, own_i 11, .val (.int x11)] []))
  refine own_to (fun t k => XS.iinc X51.here hx rfl (hb hby own_d6_38) rfl (l' := #[rv a2, own_i 12, rv a3, own_i 12, own_i 21, own_i 12, .val (.int x11)]) rfl k) ?_
  show own_Fin _ _ _ _ _ _ (T51.setTop (mkF m 41 #[rv a2, own_i 12, rv a3, own_i 12, own_i 21, own_i 12, .val (.int x11)] []))
  refine own_to (fun t k => XS.goto X51.here hx rfl (pc0 := 41) (pc' := 3) rfl (hb hby own_d6_41) (by decide) (by decide) k) ?_
  show own_Fin _ _ _ _ _ _ (T51.setTop (mkF m 3 #[rv a2, own_i 12, rv a3, own_i 12, own_i 21, own_i 12, .val (.int x11)] []))
  refine own_to (fun t k => XS.iload X51.here hx rfl (hb hby own_d6_3) rfl k) ?_
  refine own_to (fun t k => XS.iload X51.here hx rfl (hb hby own_d6_5) rfl k) ?_
  refine own_to (fun t k => XS.icmpNo X51.here hx rfl (hb hby own_d6_7) rfl (tlt (by decide)).2.1 k) ?_
  show own_Fin _ _ _ _ _ _ (T51.setTop (mkF m 10 #[rv a2, own_i 12, rv a3, own_i 12, own_i 21, own_i 12, .val (.int x11)] []))
  refine own_to (fun t k => XS.aloadN X51.here hx rfl (hb hby own_d6_10) rfl rfl k) ?_
  show own_Fin _ _ _ _ _ _ (T51.setTop (mkF m 11 #[rv a2, own_i 12, rv a3, own_i 12, own_i 21, own_i 12, .val (.int x11)] [(.ref a2)]))
  refine own_to (fun t k => XS.iloadN X51.here hx rfl (hb hby own_d6_11) rfl k) ?_
  obtain ⟨cl52, Ar52, qa52, Sa52, Na52, Ha52, Ga52⟩ := id V2_e51
  have hin53 : ¬ ((12 : Int32) < 0 ∨ cl52.slots.size ≤ ((12 : Int32)).toNatClampNeg) := inb_of Sa52 ⟨by decide, by decide⟩
  refine own_to (fun t k => X51.caload hx (j := (12 : Int32)) (v := (.int x12)) (by rw [e51]; exact Ar52.1) (State.isArrayOf_alike hZ.alike Ar52.2.1) Ar52.2.2 hin53 (Has.at Ha52 hin53 rfl) (g := (mkF m 12 #[rv a2, own_i 12, rv a3, own_i 12, own_i 21, own_i 12, .val (.int x11)] [(.int (12 : Int32)), (.ref a2)])) rfl rfl (hb hby own_d6_12) _ k) ?_
  show own_Fin _ _ _ _ _ _ (T51.setTop (mkF m 13 #[rv a2, own_i 12, rv a3, own_i 12, own_i 21, own_i 12, .val (.int x11)] [(.int x12)]))
  refine own_to (fun t k => XS.istore X51.here hx rfl (hb hby own_d6_13) rfl (l' := #[rv a2, own_i 12, rv a3, own_i 12, own_i 21, own_i 12, .val (.int x12)]) rfl k) ?_
  show own_Fin _ _ _ _ _ _ (T51.setTop (mkF m 15 #[rv a2, own_i 12, rv a3, own_i 12, own_i 21, own_i 12, .val (.int x12)] []))
  refine own_to (fun t k => XS.iload X51.here hx rfl (hb hby own_d6_15) rfl k) ?_
  refine own_to (fun t k => XS.sipush X51.here hx rfl (hb hby own_d6_17) k) ?_
  refine own_to (fun t k => XS.icmpYes X51.here hx rfl (pc0 := 20) (pc' := 26) rfl (hb hby own_d6_20) rfl (flt hx12).2.2.2 (by decide) (by decide) k) ?_
  show own_Fin _ _ _ _ _ _ (T51.setTop (mkF m 26 #[rv a2, own_i 12, rv a3, own_i 12, own_i 21, own_i 12, .val (.int x12)] []))
  refine own_to (fun t k => XS.aloadN X51.here hx rfl (hb hby own_d6_26) rfl rfl k) ?_
  show own_Fin _ _ _ _ _ _ (T51.setTop (mkF m 27 #[rv a2, own_i 12, rv a3, own_i 12, own_i 21, own_i 12, .val (.int x12)] [(.ref a3)]))
  refine own_to (fun t k => XS.iloadN X51.here hx rfl (hb hby own_d6_27) rfl k) ?_
  refine own_to (fun t k => XS.iload X51.here hx rfl (hb hby own_d6_28) rfl k) ?_
  refine own_to (fun t k => XS.i2b X51.here hx rfl (hb hby own_d6_30) rfl k) ?_
  show own_Fin _ _ _ _ _ _ (T51.setTop (mkF m 31 #[rv a2, own_i 12, rv a3, own_i 12, own_i 21, own_i 12, .val (.int x12)] [(.int (x12.toInt8.toInt32)), (.int (12 : Int32)), (.ref a3)]))
  obtain ⟨cl54, Ar54, qa54, Sa54, Na54, Ha54, Ga54⟩ := id V51
  have hin55 : ¬ ((12 : Int32) < 0 ∨ cl54.slots.size ≤ ((12 : Int32)).toNatClampNeg) := inb_of Sa54 ⟨by decide, by decide⟩
  obtain ⟨T55, h55, X55, e55, W55, st55⟩ := stB X51 hx hZ e51 Ar54 (j := (12 : Int32)) hin55 (g := (mkF m 31 #[rv a2, own_i 12, rv a3, own_i 12, own_i 21, own_i 12, .val (.int x12)] [(.int (x12.toInt8.toInt32)), (.int (12 : Int32)), (.ref a3)])) rfl rfl (hb hby own_d6_31)
  rw [own_idem _] at W55
  have N55 := Fr.snoc X55 N51 g_a3
  have KK55 : Keep h0 h55 [a3] := KK51.wr W55 (Or.inl (List.mem_of_getElem? (i := 0) rfl))
  have V2_e55 := V2_e51.other W55 ne23
  have V55 : Arv Z h55 a3 k3 .byte (21 : Int32) [(.int (x0.toInt8.toInt32)), (.int (x1.toInt8.toInt32)), (.int (x2.toInt8.toInt32)), (.int (x3.toInt8.toInt32)), (.int (x4.toInt8.toInt32)), (.int (x5.toInt8.toInt32)), (.int (x6.toInt8.toInt32)), (.int (x7.toInt8.toInt32)), (.int (x8.toInt8.toInt32)), (.int (x9.toInt8.toInt32)), (.int (x10.toInt8.toInt32)), (.int (x11.toInt8.toInt32)), (.int (x12.toInt8.toInt32)), (.int (0 : Int32)), (.int (0 : Int32)), (.int (0 : Int32)), (.int (0 : Int32)), (.int (0 : Int32)), (.int (0 : Int32)), (.int (0 : Int32)), (.int (0 : Int32))] (.int (0 : Int32)) := Arv.set Ar54 qa54 Sa54 Na54 Ha54 Ga54 (fits_nar_byte _) W55 12 rfl (Nat.le_of_ble_eq_true rfl)
  have zs56 := (Nat.le_trans (Nat.le_trans (Nat.le_trans zs43 (Keep.of_wr W42).1) (Keep.of_wr W47).1) (Keep.of_wr W51).1)
  refine own_to (fun t k => st55 t k) ?_
  show own_Fin _ _ _ _ _ _ (T55.setTop (mkF m 32 #[rv a2, own_i 12, rv a3, own_i 12, own_i 21, own_i 12, .val (.int x12)] []))
  refine own_to (fun t k => XS.iinc X55.here hx rfl (hb hby own_d6_32) rfl (l' := #[rv a2, own_i 13, rv a3, own_i 12, own_i 21, own_i 12, .val (.int x12)]) rfl k) ?_
  show own_Fin _ _ _ _ _ _ (T55.setTop (mkF m 35 #[rv a2, own_i 13, rv a3, own_i 12, own_i 21, own_i 12, .val (.int x12)] []))
  refine own_to (fun t k => XS.iinc X55.here hx rfl (hb hby own_d6_35) rfl (l' := #[rv a2, own_i 13, rv a3, own_i 13, own_i 21, own_i 12, .val (.int x12)]) rfl k) ?_
  show own_Fin _ _ _ _ _ _ (T55.setTop (mkF m 38 #[rv a2, own_i 13, rv a3, own_i 13, own_i 21, own_i 12, .val (.int x12)] []))
  refine own_to (fun t k => XS.iinc X55.here hx rfl (hb hby own_d6_38) rfl (l' := #[rv a2, own_i 13, rv a3, own_i 13, own_i 21, own_i 13, .val (.int x12)]) rfl k) ?_
  show own_Fin _ _ _ _ _ _ (T55.setTop (mkF m 41 #[rv a2, own_i 13, rv a3, own_i 13, own_i 21, own_i 13, .val (.int x12)] []))
  refine own_to (fun t k => XS.goto X55.here hx rfl (pc0 := 41) (pc' := 3) rfl (hb hby own_d6_41) (by decide) (by decide) k) ?_
  show own_Fin _ _ _ _ _ _ (T55.setTop (mkF m 3 #[rv a2, own_i 13, rv a3, own_i 13, own_i 21, own_i 13, .val (.int x12)] []))
  refine own_to (fun t k => XS.iload X55.here hx rfl (hb hby own_d6_3) rfl k) ?_
  refine own_to (fun t k => XS.iload X55.here hx rfl (hb hby own_d6_5) rfl k) ?_
  refine own_to (fun t k => XS.icmpNo X55.here hx rfl (hb hby own_d6_7) rfl (tlt (by decide)).2.1 k) ?_
  show own_Fin _ _ _ _ _ _ (T55.setTop (mkF m 10 #[rv a2, own_i 13, rv a3, own_i 13, own_i 21, own_i 13, .val (.int x12)] []))
  refine own_to (fun t k => XS.aloadN X55.here hx rfl (hb hby own_d6_10) rfl rfl k) ?_
  show own_Fin _ _ _ _ _ _ (T55.setTop (mkF m 11 #[rv a2, own_i 13, rv a3, own_i 13, own_i 21, own_i 13, .val (.int x12)] [(.ref a2)]))
  refine own_to (fun t k => XS.iloadN X55.here hx rfl (hb hby own_d6_11) rfl k) ?_
  obtain ⟨cl57, Ar57, qa57, Sa57, Na57, Ha57, Ga57⟩ := id V2_e55
  have hin58 : ¬ ((13 : Int32) < 0 ∨ cl57.slots.size ≤ ((13 : Int32)).toNatClampNeg) := inb_of Sa57 ⟨by decide, by decide⟩
  refine own_to (fun t k => X55.caload hx (j := (13 : Int32)) (v := (.int x13)) (by rw [e55]; exact Ar57.1) (State.isArrayOf_alike hZ.alike Ar57.2.1) Ar57.2.2 hin58 (Has.at Ha57 hin58 rfl) (g := (mkF m 12 #[rv a2, own_i 13, rv a3, own_i 13, own_i 21, own_i 13, .val (.int x12)] [(.int (13 : Int32)), (.ref a2)])) rfl rfl (hb hby own_d6_12) _ k) ?_
  show own_Fin _ _ _ _ _ _ (T55.setTop (mkF m 13 #[rv a2, own_i 13, rv a3, own_i 13, own_i 21, own_i 13, .val (.int x12)] [(.int x13)]))
  refine own_to (fun t k => XS.istore X55.here hx rfl (hb hby own_d6_13) rfl (l' := #[rv a2, own_i 13, rv a3, own_i 13, own_i 21, own_i 13, .val (.int x13)]) rfl k) ?_
  show own_Fin _ _ _ _ _ _ (T55.setTop (mkF m 15 #[rv a2, own_i 13, rv a3, own_i 13, own_i 21, own_i 13, .val (.int x13)] []))
  refine own_to (fun t k => XS.iload X55.here hx rfl (hb hby own_d6_15) rfl k) ?_
  refine own_to (fun t k => XS.sipush X55.here hx rfl (hb hby own_d6_17) k) ?_
  refine own_to (fun t k => XS.icmpYes X55.here hx rfl (pc0 := 20) (pc' := 26) rfl (hb hby own_d6_20) rfl (flt hx13).2.2.2 (by decide) (by decide) k) ?_
  show own_Fin _ _ _ _ _ _ (T55.setTop (mkF m 26 #[rv a2, own_i 13, rv a3, own_i 13, own_i 21, own_i 13, .val (.int x13)] []))
  refine own_to (fun t k => XS.aloadN X55.here hx rfl (hb hby own_d6_26) rfl rfl k) ?_
  show own_Fin _ _ _ _ _ _ (T55.setTop (mkF m 27 #[rv a2, own_i 13, rv a3, own_i 13, own_i 21, own_i 13, .val (.int x13)] [(.ref a3)]))
  refine own_to (fun t k => XS.iloadN X55.here hx rfl (hb hby own_d6_27) rfl k) ?_
  refine own_to (fun t k => XS.iload X55.here hx rfl (hb hby own_d6_28) rfl k) ?_
  refine own_to (fun t k => XS.i2b X55.here hx rfl (hb hby own_d6_30) rfl k) ?_
  show own_Fin _ _ _ _ _ _ (T55.setTop (mkF m 31 #[rv a2, own_i 13, rv a3, own_i 13, own_i 21, own_i 13, .val (.int x13)] [(.int (x13.toInt8.toInt32)), (.int (13 : Int32)), (.ref a3)]))
  obtain ⟨cl59, Ar59, qa59, Sa59, Na59, Ha59, Ga59⟩ := id V55
  have hin60 : ¬ ((13 : Int32) < 0 ∨ cl59.slots.size ≤ ((13 : Int32)).toNatClampNeg) := inb_of Sa59 ⟨by decide, by decide⟩
  obtain ⟨T60, h60, X60, e60, W60, st60⟩ := stB X55 hx hZ e55 Ar59 (j := (13 : Int32)) hin60 (g := (mkF m 31 #[rv a2, own_i 13, rv a3, own_i 13, own_i 21, own_i 13, .val (.int x13)] [(.int (x13.toInt8.toInt32)), (.int (13 : Int32)), (.ref a3)])) rfl rfl (hb hby own_d6_31)
  rw [own_idem _] at W60
  have N60 := Fr.snoc X60 N55 g_a3
  have KK60 : Keep h0 h60 [a3] := KK55.wr W60 (Or.inl (List.mem_of_getElem? (i := 0) rfl))
  have V2_e60 := V2_e55.other W60 ne23
  have V60 : Arv Z h60 a3 k3 .byte (21 : Int32) [(.int (x0.toInt8.toInt32)), (.int (x1.toInt8.toInt32)), (.int (x2.toInt8.toInt32)), (.int (x3.toInt8.toInt32)), (.int (x4.toInt8.toInt32)), (.int (x5.toInt8.toInt32)), (.int (x6.toInt8.toInt32)), (.int (x7.toInt8.toInt32)), (.int (x8.toInt8.toInt32)), (.int (x9.toInt8.toInt32)), (.int (x10.toInt8.toInt32)), (.int (x11.toInt8.toInt32)), (.int (x12.toInt8.toInt32)), (.int (x13.toInt8.toInt32)), (.int (0 : Int32)), (.int (0 : Int32)), (.int (0 : Int32)), (.int (0 : Int32)), (.int (0 : Int32)), (.int (0 : Int32)), (.int (0 : Int32))] (.int (0 : Int32)) := Arv.set Ar59 qa59 Sa59 Na59 Ha59 Ga59 (fits_nar_byte _) W60 13 rfl (Nat.le_of_ble_eq_true rfl)
  refine own_to (fun t k => st60 t k) ?_
  show own_Fin _ _ _ _ _ _ (T60.setTop (mkF m 32 #[rv a2, own_i 13, rv a3, own_i 13, own_i 21, own_i 13, .val (.int x13)] []))
  refine own_to (fun t k => XS.iinc X60.here hx rfl (hb hby own_d6_32) rfl (l' := #[rv a2, own_i 14, rv a3, own_i 13, own_i 21, own_i 13, .val (.int x13)]) rfl k) ?_
  show own_Fin _ _ _ _ _ _ (T60.setTop (mkF m 35 #[rv a2, own_i 14, rv a3, own_i 13, own_i 21, own_i 13, .val (.int x13)] []))
  refine own_to (fun t k => XS.iinc X60.here hx rfl (hb hby own_d6_35) rfl (l' := #[rv a2, own_i 14, rv a3, own_i 14, own_i 21, own_i 13, .val (.int x13)]) rfl k) ?_
  show own_Fin _ _ _ _ _ _ (T60.setTop (mkF m 38 #[rv a2, own_i 14, rv a3, own_i 14, own_i 21, own_i 13, .val (.int x13)] []))
  refine own_to (fun t k => XS.iinc X60.here hx rfl (hb hby own_d6_38) rfl (l' := #[rv a2, own_i 14, rv a3, own_i 14, own_i 21, own_i 14, .val (.int x13)]) rfl k) ?_
  show own_Fin _ _ _ _ _ _ (T60.setTop (mkF m 41 #[rv a2, own_i 14, rv a3, own_i 14, own_i 21, own_i 14, .val (.int x13)] []))
  refine own_to (fun t k => XS.goto X60.here hx rfl (pc0 := 41) (pc' := 3) rfl (hb hby own_d6_41) (by decide) (by decide) k) ?_
  show own_Fin _ _ _ _ _ _ (T60.setTop (mkF m 3 #[rv a2, own_i 14, rv a3, own_i 14, own_i 21, own_i 14, .val (.int x13)] []))
  refine own_to (fun t k => XS.iload X60.here hx rfl (hb hby own_d6_3) rfl k) ?_
  refine own_to (fun t k => XS.iload X60.here hx rfl (hb hby own_d6_5) rfl k) ?_
  refine own_to (fun t k => XS.icmpNo X60.here hx rfl (hb hby own_d6_7) rfl (tlt (by decide)).2.1 k) ?_
  show own_Fin _ _ _ _ _ _ (T60.setTop (mkF m 10 #[rv a2, own_i 14, rv a3, own_i 14, own_i 21, own_i 14, .val (.int x13)] []))
  refine own_to (fun t k => XS.aloadN X60.here hx rfl (hb hby own_d6_10) rfl rfl k) ?_
  show own_Fin _ _ _ _ _ _ (T60.setTop (mkF m 11 #[rv a2, own_i 14, rv a3, own_i 14, own_i 21, own_i 14, .val (.int x13)] [(.ref a2)]))
  refine own_to (fun t k => XS.iloadN X60.here hx rfl (hb hby own_d6_11) rfl k) ?_
  obtain ⟨cl61, Ar61, qa61, Sa61, Na61, Ha61, Ga61⟩ := id V2_e60
  have hin62 : ¬ ((14 : Int32) < 0 ∨ cl61.slots.size ≤ ((14 : Int32)).toNatClampNeg) := inb_of Sa61 ⟨by decide, by decide⟩
  refine own_to (fun t k => X60.caload hx (j := (14 : Int32)) (v := (.int x14)) (by rw [e60]; exact Ar61.1) (State.isArrayOf_alike hZ.alike Ar61.2.1) Ar61.2.2 hin62 (Has.at Ha61 hin62 rfl) (g := (mkF m 12 #[rv a2, own_i 14, rv a3, own_i 14, own_i 21, own_i 14, .val (.int x13)] [(.int (14 : Int32)), (.ref a2)])) rfl rfl (hb hby own_d6_12) _ k) ?_
  show own_Fin _ _ _ _ _ _ (T60.setTop (mkF m 13 #[rv a2, own_i 14, rv a3, own_i 14, own_i 21, own_i 14, .val (.int x13)] [(.int x14)]))
  refine own_to (fun t k => XS.istore X60.here hx rfl (hb hby own_d6_13) rfl (l' := #[rv a2, own_i 14, rv a3, own_i 14, own_i 21, own_i 14, .val (.int x14)]) rfl k) ?_
  show own_Fin _ _ _ _ _ _ (T60.setTop (mkF m 15 #[rv a2, own_i 14, rv a3, own_i 14, own_i 21, own_i 14, .val (.int x14)] []))
  refine own_to (fun t k => XS.iload X60.here hx rfl (hb hby own_d6_15) rfl k) ?_
  refine own_to (fun t k => XS.sipush X60.here hx rfl (hb hby own_d6_17) k) ?_
  refine own_to (fun t k => XS.icmpYes X60.here hx rfl (pc0 := 20) (pc' := 26) rfl (hb hby own_d6_20) rfl (flt hx14).2.2.2 (by decide) (by decide) k) ?_
  show own_Fin _ _ _ _ _ _ (T60.setTop (mkF m 26 #[rv a2, own_i 14, rv a3, own_i 14, own_i 21, own_i 14, .val (.int x14)] []))
  refine own_to (fun t k => XS.aloadN X60.here hx rfl (hb hby own_d6_26) rfl rfl k) ?_
  show own_Fin _ _ _ _ _ _ (T60.setTop (mkF m 27 #[rv a2, own_i 14, rv a3, own_i 14, own_i 21, own_i 14, .val (.int x14)] [(.ref a3)]))
  refine own_to (fun t k => XS.iloadN X60.here hx rfl (hb hby own_d6_27) rfl k) ?_
  refine own_to (fun t k => XS.iload X60.here hx rfl (hb hby own_d6_28) rfl k) ?_
  refine own_to (fun t k => XS.i2b X60.here hx rfl (hb hby own_d6_30) rfl k) ?_
  show own_Fin _ _ _ _ _ _ (T60.setTop (mkF m 31 #[rv a2, own_i 14, rv a3, own_i 14, own_i 21, own_i 14, .val (.int x14)] [(.int (x14.toInt8.toInt32)), (.int (14 : Int32)), (.ref a3)]))
  obtain ⟨cl63, Ar63, qa63, Sa63, Na63, Ha63, Ga63⟩ := id V60
  have hin64 : ¬ ((14 : Int32) < 0 ∨ cl63.slots.size ≤ ((14 : Int32)).toNatClampNeg) := inb_of Sa63 ⟨by decide, by decide⟩
  obtain ⟨T64, h64, X64, e64, W64, st64⟩ := stB X60 hx hZ e60 Ar63 (j := (14 : Int32)) hin64 (g := (mkF m 31 #[rv a2, own_i 14, rv a3, own_i 14, own_i 21, own_i 14, .val (.int x14)] [(.int (x14.toInt8.toInt32)), (.int (14 : Int32)), (.ref a3)])) rfl rfl (hb hby own_d6_31)
  rw [own_idem _] at W64
  have N64 := Fr.snoc X64 N60 g_a3
  have KK64 : Keep h0 h64 [a3] := KK60.wr W64 (Or.inl (List.mem_of_getElem? (i := 0) rfl))
  have V2_e64 := V2_e60.other W64 ne23
  have V64 : Arv Z h64 a3 k3 .byte (21 : Int32) [(.int (x0.toInt8.toInt32)), (.int (x1.toInt8.toInt32)), (.int (x2.toInt8.toInt32)), (.int (x3.toInt8.toInt32)), (.int (x4.toInt8.toInt32)), (.int (x5.toInt8.toInt32)), (.int (x6.toInt8.toInt32)), (.int (x7.toInt8.toInt32)), (.int (x8.toInt8.toInt32)), (.int (x9.toInt8.toInt32)), (.int (x10.toInt8.toInt32)), (.int (x11.toInt8.toInt32)), (.int (x12.toInt8.toInt32)), (.int (x13.toInt8.toInt32)), (.int (x14.toInt8.toInt32)), (.int (0 : Int32)), (.int (0 : Int32)), (.int (0 : Int32)), (.int (0 : Int32)), (.int (0 : Int32)), (.int (0 : Int32))] (.int (0 : Int32)) := Arv.set Ar63 qa63 Sa63 Na63 Ha63 Ga63 (fits_nar_byte _) W64 14 rfl (Nat.le_of_ble_eq_true rfl)
  refine own_to (fun t k => st64 t k) ?_
  show own_Fin _ _ _ _ _ _ (T64.setTop (mkF m 32 #[rv a2, own_i 14, rv a3, own_i 14, own_i 21, own_i 14, .val (.int x14)] []))
  refine own_to (fun t k => XS.iinc X64.here hx rfl (hb hby own_d6_32) rfl (l' := #[rv a2, own_i 15, rv a3, own_i 14, own_i 21, own_i 14, .val (.int x14)]) rfl k) ?_
  show own_Fin _ _ _ _ _ _ (T64.setTop (mkF m 35 #[rv a2, own_i 15, rv a3, own_i 14, own_i 21, own_i 14, .val (.int x14)] []))
  refine own_to (fun t k => XS.iinc X64.here hx rfl (hb hby own_d6_35) rfl (l' := #[rv a2, own_i 15, rv a3, own_i 15, own_i 21, own_i 14, .val (.int x14)]) rfl k) ?_
  show own_Fin _ _ _ _ _ _ (T64.setTop (mkF m 38 #[rv a2, own_i 15, rv a3, own_i 15, own_i 21, own_i 14, .val (.int x14)] []))
  refine own_to (fun t k => XS.iinc X64.here hx rfl (hb hby own_d6_38) rfl (l' := #[rv a2, own_i 15, rv a3, own_i 15, own_i 21, own_i 15, .val (.int x14)]) rfl k) ?_
  show own_Fin _ _ _ _ _ _ (T64.setTop (mkF m 41 #[rv a2, own_i 15, rv a3, own_i 15, own_i 21, own_i 15, .val (.int x14)] []))
  refine own_to (fun t k => XS.goto X64.here hx rfl (pc0 := 41) (pc' := 3) rfl (hb hby own_d6_41) (by decide) (by decide) k) ?_
  show own_Fin _ _ _ _ _ _ (T64.setTop (mkF m 3 #[rv a2, own_i 15, rv a3, own_i 15, own_i 21, own_i 15, .val (.int x14)] []))
  refine own_to (fun t k => XS.iload X64.here hx rfl (hb hby own_d6_3) rfl k) ?_
  refine own_to (fun t k => XS.iload X64.here hx rfl (hb hby own_d6_5) rfl k) ?_
  refine own_to (fun t k => XS.icmpNo X64.here hx rfl (hb hby own_d6_7) rfl (tlt (by decide)).2.1 k) ?_
  show own_Fin _ _ _ _ _ _ (T64.setTop (mkF m 10 #[rv a2, own_i 15, rv a3, own_i 15, own_i 21, own_i 15, .val (.int x14)] []))
  refine own_to (fun t k => XS.aloadN X64.here hx rfl (hb hby own_d6_10) rfl rfl k) ?_
  show own_Fin _ _ _ _ _ _ (T64.setTop (mkF m 11 #[rv a2, own_i 15, rv a3, own_i 15, own_i 21, own_i 15, .val (.int x14)] [(.ref a2)]))
  refine own_to (fun t k => XS.iloadN X64.here hx rfl (hb hby own_d6_11) rfl k) ?_
  obtain ⟨cl65, Ar65, qa65, Sa65, Na65, Ha65, Ga65⟩ := id V2_e64
  have hin66 : ¬ ((15 : Int32) < 0 ∨ cl65.slots.size ≤ ((15 : Int32)).toNatClampNeg) := inb_of Sa65 ⟨by decide, by decide⟩
  refine own_to (fun t k => X64.caload hx (j := (15 : Int32)) (v := (.int x15)) (by rw [e64]; exact Ar65.1) (State.isArrayOf_alike hZ.alike Ar65.2.1) Ar65.2.2 hin66 (Has.at Ha65 hin66 rfl) (g := (mkF m 12 #[rv a2, own_i 15, rv a3, own_i 15, own_i 21, own_i 15, .val (.int x14)] [(.int (15 : Int32)), (.ref a2)])) rfl rfl (hb hby own_d6_12) _ k) ?_
  show own_Fin _ _ _ _ _ _ (T64.setTop (mkF m 13 #[rv a2, own_i 15, rv a3, own_i 15, own_i 21, own_i 15, .val (.int x14)] [(.int x15)]))
  refine own_to (fun t k => XS.istore X64.here hx rfl (hb hby own_d6_13) rfl (l' := #[rv a2, own_i 15, rv a3, own_i 15, own_i 21, own_i 15, .val (.int x15)]) rfl k) ?_
  show own_Fin _ _ _ _ _ _ (T64.setTop (mkF m 15 #[rv a2, own_i 15, rv a3, own_i 15, own_i 21, own_i 15, .val (.int x15)] []))
  refine own_to (fun t k => XS.iload X64.here hx rfl (hb hby own_d6_15) rfl k) ?_
  refine own_to (fun t k => XS.sipush X64.here hx rfl (hb hby own_d6_17) k) ?_
  refine own_to (fun t k => XS.icmpYes X64.here hx rfl (pc0 := 20) (pc' := 26) rfl (hb hby own_d6_20) rfl (flt hx15).2.2.2 (by decide) (by decide) k) ?_
  show own_Fin _ _ _ _ _ _ (T64.setTop (mkF m 26 #[rv a2, own_i 15, rv a3, own_i 15, own_i 21, own_i 15, .val (.int x15)] []))
  refine own_to (fun t k => XS.aloadN X64.here hx rfl (hb hby own_d6_26) rfl rfl k) ?_
  show own_Fin _ _ _ _ _ _ (T64.setTop (mkF m 27 #[rv a2, own_i 15, rv a3, own_i 15, own_i 21, own_i 15, .val (.int x15)] [(.ref a3)]))
  refine own_to (fun t k => XS.iloadN X64.here hx rfl (hb hby own_d6_27) rfl k) ?_
  refine own_to (fun t k => XS.iload X64.here hx rfl (hb hby own_d6_28) rfl k) ?_
  refine own_to (fun t k => XS.i2b X64.here hx rfl (hb hby own_d6_30) rfl k) ?_
  show own_Fin _ _ _ _ _ _ (T64.setTop (mkF m 31 #[rv a2, own_i 15, rv a3, own_i 15, own_i 21, own_i 15, .val (.int x15)] [(.int (x15.toInt8.toInt32)), (.int (15 : Int32)), (.ref a3)]))
  obtain ⟨cl67, Ar67, qa67, Sa67, Na67, Ha67, Ga67⟩ := id V64
  have hin68 : ¬ ((15 : Int32) < 0 ∨ cl67.slots.size ≤ ((15 : Int32)).toNatClampNeg) := inb_of Sa67 ⟨by decide, by decide⟩
  obtain ⟨T68, h68, X68, e68, W68, st68⟩ := stB X64 hx hZ e64 Ar67 (j := (15 : Int32)) hin68 (g := (mkF m 31 #[rv a2, own_i 15, rv a3, own_i 15, own_i 21, own_i 15, .val (.int x15)] [(.int (x15.toInt8.toInt32)), (.int (15 : Int32)), (.ref a3)])) rfl rfl (hb hby own_d6_31)
  rw [own_idem _] at W68
  have N68 := Fr.snoc X68 N64 g_a3
  have KK68 : Keep h0 h68 [a3] := KK64.wr W68 (Or.inl (List.mem_of_getElem? (i := 0) rfl))
  have V2_e68 := V2_e64.other W68 ne23
  have V68 : Arv Z h68 a3 k3 .byte (21 : Int32) [(.int (x0.toInt8.toInt32)), (.int (x1.toInt8.toInt32)), (.int (x2.toInt8.toInt32)), (.int (x3.toInt8.toInt32)), (.int (x4.toInt8.toInt32)), (.int (x5.toInt8.toInt32)), (.int (x6.toInt8.toInt32)), (.int (x7.toInt8.toInt32)), (.int (x8.toInt8.toInt32)), (.int (x9.toInt8.toInt32)), (.int (x10.toInt8.toInt32)), (.int (x11.toInt8.toInt32)), (.int (x12.toInt8.toInt32)), (.int (x13.toInt8.toInt32)), (.int (x14.toInt8.toInt32)), (.int (x15.toInt8.toInt32)), (.int (0 : Int32)), (.int (0 : Int32)), (.int (0 : Int32)), (.int (0 : Int32)), (.int (0 : Int32))] (.int (0 : Int32)) := Arv.set Ar67 qa67 Sa67 Na67 Ha67 Ga67 (fits_nar_byte _) W68 15 rfl (Nat.le_of_ble_eq_true rfl)
  have zs69 := (Nat.le_trans (Nat.le_trans (Nat.le_trans zs56 (Keep.of_wr W55).1) (Keep.of_wr W60).1) (Keep.of_wr W64).1)
  refine own_to (fun t k => st68 t k) ?_
  show own_Fin _ _ _ _ _ _ (T68.setTop (mkF m 32 #[rv a2, own_i 15, rv a3, own_i 15, own_i 21, own_i 15, .val (.int x15)] []))
  refine own_to (fun t k => XS.iinc X68.here hx rfl (hb hby own_d6_32) rfl (l' := #[rv a2, own_i 16, rv a3, own_i 15, own_i 21, own_i 15, .val (.int x15)]) rfl k) ?_
  show own_Fin _ _ _ _ _ _ (T68.setTop (mkF m 35 #[rv a2, own_i 16, rv a3, own_i 15, own_i 21, own_i 15, .val (.int x15)] []))
  refine own_to (fun t k => XS.iinc X68.here hx rfl (hb hby own_d6_35) rfl (l' := #[rv a2, own_i 16, rv a3, own_i 16, own_i 21, own_i 15, .val (.int x15)]) rfl k) ?_
  show own_Fin _ _ _ _ _ _ (T68.setTop (mkF m 38 #[rv a2, own_i 16, rv a3, own_i 16, own_i 21, own_i 15, .val (.int x15)] []))
  refine own_to (fun t k => XS.iinc X68.here hx rfl (hb hby own_d6_38) rfl (l' := #[rv a2, own_i 16, rv a3, own_i 16, own_i 21, own_i 16, .val (.int x15)]) rfl k) ?_
  show own_Fin _ _ _ _ _ _ (T68.setTop (mkF m 41 #[rv a2, own_i 16, rv a3, own_i 16, own_i 21, own_i 16, .val (.int x15)] []))
  refine own_to (fun t k => XS.goto X68.here hx rfl (pc0 := 41) (pc' := 3) rfl (hb hby own_d6_41) (by decide) (by decide) k) ?_
  show own_Fin _ _ _ _ _ _ (T68.setTop (mkF m 3 #[rv a2, own_i 16, rv a3, own_i 16, own_i 21, own_i 16, .val (.int x15)] []))
  refine own_to (fun t k => XS.iload X68.here hx rfl (hb hby own_d6_3) rfl k) ?_
  refine own_to (fun t k => XS.iload X68.here hx rfl (hb hby own_d6_5) rfl k) ?_
  refine own_to (fun t k => XS.icmpNo X68.here hx rfl (hb hby own_d6_7) rfl (tlt (by decide)).2.1 k) ?_
  show own_Fin _ _ _ _ _ _ (T68.setTop (mkF m 10 #[rv a2, own_i 16, rv a3, own_i 16, own_i 21, own_i 16, .val (.int x15)] []))
  refine own_to (fun t k => XS.aloadN X68.here hx rfl (hb hby own_d6_10) rfl rfl k) ?_
  show own_Fin _ _ _ _ _ _ (T68.setTop (mkF m 11 #[rv a2, own_i 16, rv a3, own_i 16, own_i 21, own_i 16, .val (.int x15)] [(.ref a2)]))
  refine own_to (fun t k => XS.iloadN X68.here hx rfl (hb hby own_d6_11) rfl k) ?_
  obtain ⟨cl70, Ar70, qa70, Sa70, Na70, Ha70, Ga70⟩ := id V2_e68
  have hin71 : ¬ ((16 : Int32) < 0 ∨ cl70.slots.size ≤ ((16 : Int32)).toNatClampNeg) := inb_of Sa70 ⟨by decide, by decide⟩
  refine own_to (fun t k => X68.caload hx (j := (16 : Int32)) (v := (.int x16)) (by rw [e68]; exact Ar70.1) (State.isArrayOf_alike hZ.alike Ar70.2.1) Ar70.2.2 hin71 (Has.at Ha70 hin71 rfl) (g := (mkF m 12 #[rv a2, own_i 16, rv a3, own_i 16, own_i 21, own_i 16, .val (.int x15)] [(.int (16 : Int32)), (.ref a2)])) rfl rfl (hb hby own_d6_12) _ k) ?_
  show own_Fin _ _ _ _ _ _ (T68.setTop (mkF m 13 #[rv a2, own_i 16, rv a3, own_i 16, own_i 21, own_i 16, .val (.int x15)] [(.int x16)]))
  refine own_to (fun t k => XS.istore X68.here hx rfl (hb hby own_d6_13) rfl (l' := #[rv a2, own_i 16, rv a3, own_i 16, own_i 21, own_i 16, .val (.int x16)]) rfl k) ?_
  show own_Fin _ _ _ _ _ _ (T68.setTop (mkF m 15 #[rv a2, own_i 16, rv a3, own_i 16, own_i 21, own_i 16, .val (.int x16)] []))
  refine own_to (fun t k => XS.iload X68.here hx rfl (hb hby own_d6_15) rfl k) ?_
  refine own_to (fun t k => XS.sipush X68.here hx rfl (hb hby own_d6_17) k) ?_
  refine own_to (fun t k => XS.icmpYes X68.here hx rfl (pc0 := 20) (pc' := 26) rfl (hb hby own_d6_20) rfl (flt hx16).2.2.2 (by decide) (by decide) k) ?_
  show own_Fin _ _ _ _ _ _ (T68.setTop (mkF m 26 #[rv a2, own_i 16, rv a3, own_i 16, own_i 21, own_i 16, .val (.int x16)] []))
  refine own_to (fun t k => XS.aloadN X68.here hx rfl (hb hby own_d6_26) rfl rfl k) ?_
  show own_Fin _ _ _ _ _ _ (T68.setTop (mkF m 27 #[rv a2, own_i 16, rv a3, own_i 16, own_i 21, own_i 16, .val (.int x16)] [(.ref a3)]))
  refine own_to (fun t k => XS.iloadN X68.here hx rfl (hb hby own_d6_27) rfl k) ?_
  refine own_to (fun t k => XS.iload X68.here hx rfl (hb hby own_d6_28) rfl k) ?_
  refine own_to (fun t k => XS.i2b X68.here hx rfl (hb hby own_d6_30) rfl k) ?_
  show own_Fin _ _ _ _ _ _ (T68.setTop (mkF m 31 #[rv a2, own_i 16, rv a3, own_i 16, own_i 21, own_i 16, .val (.int x16)] [(.int (x16.toInt8.toInt32)), (.int (16 : Int32)), (.ref a3)]))
  obtain ⟨cl72, Ar72, qa72, Sa72, Na72, Ha72, Ga72⟩ := id V68
  have hin73 : ¬ ((16 : Int32) < 0 ∨ cl72.slots.size ≤ ((16 : Int32)).toNatClampNeg) := inb_of Sa72 ⟨by decide, by decide⟩
  obtain ⟨T73, h73, X73, e73, W73, st73⟩ := stB X68 hx hZ e68 Ar72 (j := (16 : Int32)) hin73 (g := (mkF m 31 #[rv a2, own_i 16, rv a3, own_i 16, own_i 21, own_i 16, .val (.int x16)] [(.int (x16.toInt8.toInt32)), (.int (16 : Int32)), (.ref a3)])) rfl rfl (hb hby own_d6_31)
  rw [own_idem _] at W73
  have N73 := Fr.snoc X73 N68 g_a3
  have KK73 : Keep h0 h73 [a3] := KK68.wr W73 (Or.inl (List.mem_of_getElem? (i := 0) rfl))
  have V2_e73 := V2_e68.other W73 ne23
  have V73 : Arv Z h73 a3 k3 .byte (21 : Int32) [(.int (x0.toInt8.toInt32)), (.int (x1.toInt8.toInt32)), (.int (x2.toInt8.toInt32)), (.int (x3.toInt8.toInt32)), (.int (x4.toInt8.toInt32)), (.int (x5.toInt8.toInt32)), (.int (x6.toInt8.toInt32)), (.int (x7.toInt8.toInt32)), (.int (x8.toInt8.toInt32)), (.int (x9.toInt8.toInt32)), (.int (x10.toInt8.toInt32)), (.int (x11.toInt8.toInt32)), (.int (x12.toInt8.toInt32)), (.int (x13.toInt8.toInt32)), (.int (x14.toInt8.toInt32)), (.int (x15.toInt8.toInt32)), (.int (x16.toInt8.toInt32)), (.int (0 : Int32)), (.int (0 : Int32)), (.int (0 : Int32)), (.int (0 : Int32))] (.int (0 : Int32)) := Arv.set Ar72 qa72 Sa72 Na72 Ha72 Ga72 (fits_nar_byte _) W73 16 rfl (Nat.le_of_ble_eq_true rfl)
  refine own_to (fun t k => st73 t k) ?_
  show own_Fin _ _ _ _ _ _ (T73.setTop (mkF m 32 #[rv a2, own_i 16, rv a3, own_i 16, own_i 21, own_i 16, .val (.int x16)] []))
  refine own_to (fun t k => XS.iinc X73.here hx rfl (hb hby own_d6_32) rfl (l' := #[rv a2, own_i 17, rv a3, own_i 16, own_i 21, own_i 16, .val (.int x16)]) rfl k) ?_
  show own_Fin _ _ _ _ _ _ (T73.setTop (mkF m 35 #[rv a2, own_i 17, rv a3, own_i 16, own_i 21, own_i 16, .val (.int x16)] []))
  refine own_to (fun t k => XS.iinc X73.here hx rfl (hb hby own_d6_35) rfl (l' := #[rv a2, own_i 17, rv a3, own_i 17, own_i 21, own_i 16, .val (.int x16)]) rfl k) ?_
  show own_Fin _ _ _ _ _ _ (T73.setTop (mkF m 38 #[rv a2, own_i 17, rv a3, own_i 17, own_i 21, own_i 16, .val (.int x16)] []))
  refine own_to (fun t k => XS.iinc X73.here hx rfl (hb hby own_d6_38) rfl (l' := #[rv a2, own_i 17, rv a3, own_i 17, own_i 21, own_i 17, .val (.int x16)]) rfl k) ?_
  show own_Fin _ _ _ _ _ _ (T73.setTop (mkF m 41 #[rv a2, own_i 17, rv a3, own_i 17, own_i 21, own_i 17, .val (.int x16)] []))
  refine own_to (fun t k => XS.goto X73.here hx rfl (pc0 := 41) (pc' := 3) rfl (hb hby own_d6_41) (by decide) (by decide) k) ?_
  show own_Fin _ _ _ _ _ _ (T73.setTop (mkF m 3 #[rv a2, own_i 17, rv a3, own_i 17, own_i 21, own_i 17, .val (.int x16)] []))
  refine own_to (fun t k => XS.iload X73.here hx rfl (hb hby own_d6_3) rfl k) ?_
  refine own_to (fun t k => XS.iload X73.here hx rfl (hb hby own_d6_5) rfl k) ?_
  refine own_to (fun t k => XS.icmpNo X73.here hx rfl (hb hby own_d6_7) rfl (tlt (by decide)).2.1 k) ?_
  show own_Fin _ _ _ _ _ _ (T73.setTop (mkF m 10 #[rv a2, own_i 17, rv a3, own_i 17, own_i 21, own_i 17, .val (.int x16)] []))
  refine own_to (fun t k => XS.aloadN X73.here hx rfl (hb hby own_d6_10) rfl rfl k) ?_
  show own_Fin _ _ _ _ _ _ (T73.setTop (mkF m 11 #[rv a2, own_i 17, rv a3, own_i 17, own_i 21, own_i 17, .val (.int x16)] [(.ref a2)]))
  refine own_to (fun t k => XS.iloadN X73.here hx rfl (hb hby own_d6_11) rfl k) ?_
  obtain ⟨cl74, Ar74, qa74, Sa74, Na74, Ha74, Ga74⟩ := id V2_e73
  have hin75 : ¬ ((17 : Int32) < 0 ∨ cl74.slots.size ≤ ((17 : Int32)).toNatClampNeg) := inb_of Sa74 ⟨by decide, by decide⟩
  refine own_to (fun t k => X73.caload hx (j := (17 : Int32)) (v := (.int x17)) (by rw [e73]; exact Ar74.1) (State.isArrayOf_alike hZ.alike Ar74.2.1) Ar74.2.2 hin75 (Has.at Ha74 hin75 rfl) (g := (mkF m 12 #[rv a2, own_i 17, rv a3, own_i 17, own_i 21, own_i 17, .val (.int x16)] [(.int (17 : Int32)), (.ref a2)])) rfl rfl (hb hby own_d6_12) _ k) ?_
  show own_Fin _ _ _ _ _ _ (T73.setTop (mkF m 13 #[rv a2, own_i 17, rv a3, own_i 17, own_i 21, own_i 17, .val (.int x16)] [(.int x17)]))
  refine own_to (fun t k => XS.istore X73.here hx rfl (hb hby own_d6_13) rfl (l' := #[rv a2, own_i 17, rv a3, own_i 17, own_i 21, own_i 17, .val (.int x17)]) rfl k) ?_
  show own_Fin _ _ _ _ _ _ (T73.setTop (mkF m 15 #[rv a2, own_i 17, rv a3, own_i 17, own_i 21, own_i 17, .val (.int x17)] []))
  refine own_to (fun t k => XS.iload X73.here hx rfl (hb hby own_d6_15) rfl k) ?_
  refine own_to (fun t k => XS.sipush X73.here hx rfl (hb hby own_d6_17) k) ?_
  refine own_to (fun t k => XS.icmpYes X73.here hx rfl (pc0 := 20) (pc' := 26) rfl (hb hby own_d6_20) rfl (flt hx17).2.2.2 (by decide) (by decide) k) ?_
  show own_Fin _ _ _ _ _ _ (T73.setTop (mkF m 26 #[rv a2, own_i 17, rv a3, own_i 17, own_i 21, own_i 17, .val (.int x17)] []))
  refine own_to (fun t k => XS.aloadN X73.here hx rfl (hb hby own_d6_26) rfl rfl k) ?_
  show own_Fin _ _ _ _ _ _ (T73.setTop (mkF m 27 #[rv a2, own_i 17, rv a3, own_i 17, own_i 21, own_i 17, .val (.int x17)] [(.ref a3)]))
  refine own_to (fun t k => XS.iloadN X73.here hx rfl (hb hby own_d6_27) rfl k) ?_
  refine own_to (fun t k => XS.iload X73.here hx rfl (hb hby own_d6_28) rfl k) ?_
  refine own_to (fun t k => XS.i2b X73.here hx rfl (hb hby own_d6_30) rfl k) ?_
  show own_Fin _ _ _ _ _ _ (T73.setTop (mkF m 31 #[rv a2, own_i 17, rv a3, own_i 17, own_i 21, own_i 17, .val (.int x17)] [(.int (x17.toInt8.toInt32)), (.int (17 : Int32)), (.ref a3)]))
  obtain ⟨cl76, Ar76, qa76, Sa76, Na76, Ha76, Ga76⟩ := id V73
  have hin77 : ¬ ((17 : Int32) < 0 ∨ cl76.slots.size ≤ ((17 : Int32)).toNatClampNeg) := inb_of Sa76 ⟨by decide, by decide⟩
  obtain ⟨T77, h77, X77, e77, W77, st77⟩ := stB X73 hx hZ e73 Ar76 (j := (17 : Int32)) hin77 (g := (mkF m 31 #[rv a2, own_i 17, rv a3, own_i 17, own_i 21, own_i 17, .val (.int x17)] [(.int (x17.toInt8.toInt32)), (.int (17 : Int32)), (.ref a3)])) rfl rfl (hb hby own_d6_31)
  rw [own_idem _] at W77
  have N77 := Fr.snoc X77 N73 g_a3
  have KK77 : Keep h0 h77 [a3] := KK73.wr W77 (Or.inl (List.mem_of_getElem? (i := 0) rfl))
  have V2_e77 := V2_e73.other W77 ne23
  have V77 : Arv Z h77 a3 k3 .byte (21 : Int32) [(.int (x0.toInt8.toInt32)), (.int (x1.toInt8.toInt32)), (.int (x2.toInt8.toInt32)), (.int (x3.toInt8.toInt32)), (.int (x4.toInt8.toInt32)), (.int (x5.toInt8.toInt32)), (.int (x6.toInt8.toInt32)), (.int (x7.toInt8.toInt32)), (.int (x8.toInt8.toInt32)), (.int (x9.toInt8.toInt32)), (.int (x10.toInt8.toInt32)), (.int (x11.toInt8.toInt32)), (.int (x12.toInt8.toInt32)), (.int (x13.toInt8.toInt32)), (.int (x14.toInt8.toInt32)), (.int (x15.toInt8.toInt32)), (.int (x16.toInt8.toInt32)), (.int (x17.toInt8.toInt32)), (.int (0 : Int32)), (.int (0 : Int32)), (.int (0 : Int32))] (.int (0 : Int32)) := Arv.set Ar76 qa76 Sa76 Na76 Ha76 Ga76 (fits_nar_byte _) W77 17 rfl (Nat.le_of_ble_eq_true rfl)
  refine own_to (fun t k => st77 t k) ?_
  show own_Fin _ _ _ _ _ _ (T77.setTop (mkF m 32 #[rv a2, own_i 17, rv a3, own_i 17, own_i 21, own_i 17, .val (.int x17)] []))
  refine own_to (fun t k => XS.iinc X77.here hx rfl (hb hby own_d6_32) rfl (l' := #[rv a2, own_i 18, rv a3, own_i 17, own_i 21, own_i 17, .val (.int x17)]) rfl k) ?_
  show own_Fin _ _ _ _ _ _ (T77.setTop (mkF m 35 #[rv a2, own_i 18, rv a3, own_i 17, own_i 21, own_i 17, .val (.int x17)] []))
  refine own_to (fun t k => XS.iinc X77.here hx rfl (hb hby own_d6_35) rfl (l' := #[rv a2, own_i 18, rv a3, own_i 18, own_i 21, own_i 17, .val (.int x17)]) rfl k) ?_
  show own_Fin _ _ _ _ _ _ (T77.setTop (mkF m 38 #[rv a2, own_i 18, rv a3, own_i 18, own_i 21, own_i 17, .val (.int x17)] []))
  refine own_to (fun t k => XS.iinc X77.here hx rfl (hb hby own_d6_38) rfl (l' := #[rv a2, own_i 18, rv a3, own_i 18, own_i 21, own_i 18, .val (.int x17)]) rfl k) ?_
  show own_Fin _ _ _ _ _ _ (T77.setTop (mkF m 41 #[rv a2, own_i 18, rv a3, own_i 18, own_i 21, own_i 18, .val (.int x17)] []))
  refine own_to (fun t k => XS.goto X77.here hx rfl (pc0 := 41) (pc' := 3) rfl (hb hby own_d6_41) (by decide) (by decide) k) ?_
  show own_Fin _ _ _ _ _ _ (T77.setTop (mkF m 3 #[rv a2, own_i 18, rv a3, own_i 18, own_i 21, own_i 18, .val (.int x17)] []))
  refine own_to (fun t k => XS.iload X77.here hx rfl (hb hby own_d6_3) rfl k) ?_
  refine own_to (fun t k => XS.iload X77.here hx rfl (hb hby own_d6_5) rfl k) ?_
  refine own_to (fun t k => XS.icmpNo X77.here hx rfl (hb hby own_d6_7) rfl (tlt (by decide)).2.1 k) ?_
  show own_Fin _ _ _ _ _ _ (T77.setTop (mkF m 10 #[rv a2, own_i 18, rv a3, own_i 18, own_i 21, own_i 18, .val (.int x17)] []))
  refine own_to (fun t k => XS.aloadN X77.here hx rfl (hb hby own_d6_10) rfl rfl k) ?_
  show own_Fin _ _ _ _ _ _ (T77.setTop (mkF m 11 #[rv a2, own_i 18, rv a3, own_i 18, own_i 21, own_i 18, .val (.int x17)] [(.ref a2)]))
  refine own_to (fun t k => XS.iloadN X77.here hx rfl (hb hby own_d6_11) rfl k) ?_
  obtain ⟨cl78, Ar78, qa78, Sa78, Na78, Ha78, Ga78⟩ := id V2_e77
  have hin79 : ¬ ((18 : Int32) < 0 ∨ cl78.slots.size ≤ ((18 : Int32)).toNatClampNeg) := inb_of Sa78 ⟨by decide, by decide⟩
  refine own_to (fun t k => X77.caload hx (j := (18 : Int32)) (v := (.int x18)) (by rw [e77]; exact Ar78.1) (State.isArrayOf_alike hZ.alike Ar78.2.1) Ar78.2.2 hin79 (Has.at Ha78 hin79 rfl) (g := (mkF m 12 #[rv a2, own_i 18, rv a3, own_i 18, own_i 21, own_i 18, .val (.int x17)] [(.int (18 : Int32)), (.ref a2)])) rfl rfl (hb hby own_d6_12) _ k) ?_
  show own_Fin _ _ _ _ _ _ (T77.setTop (mkF m 13 #[rv a2, own_i 18, rv a3, own_i 18, own_i 21, own_i 18, .val (.int x17)] [(.int x18)]))
  refine own_to (fun t k => XS.istore X77.here hx rfl (hb hby own_d6_13) rfl (l' := #[rv a2, own_i 18, rv a3, own_i 18, own_i 21, own_i 18, .val (.int x18)]) rfl k) ?_
  show own_Fin _ _ _ _ _ _ (T77.setTop (mkF m 15 #[rv a2, own_i 18, rv a3, own_i 18, own_i 21, own_i 18, .val (.int x18)] []))
  refine own_to (fun t k => XS.iload X77.here hx rfl (hb hby own_d6_15) rfl k) ?_
  refine own_to (fun t k => XS.sipush X77.here hx rfl (hb hby own_d6_17) k) ?_
  refine own_to (fun t k => XS.icmpYes X77.here hx rfl (pc0 := 20) (pc' := 26) rfl (hb hby own_d6_20) rfl (flt hx18).2.2.2 (by decide) (by decide) k) ?_
  show own_Fin _ _ _ _ _ _ (T77.setTop (mkF m 26 #[rv a2, own_i 18, rv a3, own_i 18, own_i 21, own_i 18, .val (.int x18)] []))
  refine own_to (fun t k => XS.aloadN X77.here hx rfl (hb hby own_d6_26) rfl rfl k) ?_
  show own_Fin _ _ _ _ _ _ (T77.setTop (mkF m 27 #[rv a2, own_i 18, rv a3, own_i 18, own_i 21, own_i 18, .val (.int x18)] [(.ref a3)]))
  refine own_to (fun t k => XS.iloadN X77.here hx rfl (hb hby own_d6_27) rfl k) ?_
  refine own_to (fun t k => XS.iload X77.here hx rfl (hb hby own_d6_28) rfl k) ?_
  refine own_to (fun t k => XS.i2b X77.here hx rfl (hb hby own_d6_30) rfl k) ?_
  show own_Fin _ _ _ _ _ _ (T77.setTop (mkF m 31 #[rv a2, own_i 18, rv a3, own_i 18, own_i 21, own_i 18, .val (.int x18)] [(.int (x18.toInt8.toInt32)), (.int (18 : Int32)), (.ref a3)]))
  obtain ⟨cl80, Ar80, qa80, Sa80, Na80, Ha80, Ga80⟩ := id V77
  have hin81 : ¬ ((18 : Int32) < 0 ∨ cl80.slots.size ≤ ((18 : Int32)).toNatClampNeg) := inb_of Sa80 ⟨by decide, by decide⟩
  obtain ⟨T81, h81, X81, e81, W81, st81⟩ := stB X77 hx hZ e77 Ar80 (j := (18 : Int32)) hin81 (g := (mkF m 31 #[rv a2, own_i 18, rv a3, own_i 18, own_i 21, own_i 18, .val (.int x18)] [(.int (x18.toInt8.toInt32)), (.int (18 : Int32)), (.ref a3)])) rfl rfl (hb hby own_d6_31)
  rw [own_idem _] at W81
  have N81 := Fr.snoc X81 N77 g_a3
  have KK81 : Keep h0 h81 [a3] := KK77.wr W81 (Or.inl (List.mem_of_getElem? (i := 0) rfl))
  have V2_e81 := V2_e77.other W81 ne23
  have V81 : Arv Z h81 a3 k3 .byte (21 : Int32) [(.int (x0.toInt8.toInt32)), (.int (x1.toInt8.toInt32)), (.int (x2.toInt8.toInt32)), (.int (x3.toInt8.toInt32)), (.int (x4.toInt8.toInt32)), (.int (x5.toInt8.toInt32)), (.int (x6.toInt8.toInt32)), (.int (x7.toInt8.toInt32)), (.int (x8.toInt8.toInt32)), (.int (x9.toInt8.toInt32)), (.int (x10.toInt8.toInt32)), (.int (x11.toInt8.toInt32)), (.int (x12.toInt8.toInt32)), (.int (x13.toInt8.toInt32)), (.int (x14.toInt8.toInt32)), (.int (x15.toInt8.toInt32)), (.int (x16.toInt8.toInt32)), (.int (x17.toInt8.toInt32)), (.int (x18.toInt8.toInt32)), (.int (0 : Int32)), (.int (0 : Int32))] (.int (0 : Int32)) := Arv.set Ar80 qa80 Sa80 Na80 Ha80 Ga80 (fits_nar_byte _) W81 18 rfl (Nat.le_of_ble_eq_true rfl)
  have zs82 := (Nat.le_trans (Nat.le_trans (Nat.le_trans zs69 (Keep.of_wr W68).1) (Keep.of_wr W73).1) (Keep.of_wr W77).1)
  refine own_to (fun t k => st81 t k) ?_
  show own_Fin _ _ _ _ _ _ (T81.setTop (mkF m 32 #[rv a2, own_i 18, rv a3, own_i 18, own_i 21, own_i 18, .val (.int x18)] []))
  refine own_to (fun t k => XS.iinc X81.here hx rfl (hb hby own_d6_32) rfl (l' := #[rv a2, own_i 19, rv a3, own_i 18, own_i 21, own_i 18, .val (.int x18)]) rfl k) ?_
  show own_Fin _ _ _ _ _ _ (T81.setTop (mkF m 35 #[rv a2, own_i 19, rv a3, own_i 18, own_i 21, own_i 18, .val (.int x18)] []))
  refine own_to (fun t k => XS.iinc X81.here hx rfl (hb hby own_d6_35) rfl (l' := #[rv a2, own_i 19, rv a3, own_i 19, own_i 21, own_i 18, .val (.int x18)]) rfl k) ?_
  show own_Fin _ _ _ _ _ _ (T81.setTop (mkF m 38 #[rv a2, own_i 19, rv a3, own_i 19, own_i 21, own_i 18, .val (.int x18)] []))
  refine own_to (fun t k => XS.iinc X81.here hx rfl (hb hby own_d6_38) rfl (l' := #[rv a2, own_i 19, rv a3, own_i 19, own_i 21, own_i 19, .val (.int x18)]) rfl k) ?_
  show own_Fin _ _ _ _ _ _ (T81.setTop (mkF m 41 #[rv a2, own_i 19, rv a3, own_i 19, own_i 21, own_i 19, .val (.int x18)] []))
  refine own_to (fun t k => XS.goto X81.here hx rfl (pc0 := 41) (pc' := 3) rfl (hb hby own_d6_41) (by decide) (by decide) k) ?_
  show own_Fin _ _ _ _ _ _ (T81.setTop (mkF m 3 #[rv a2, own_i 19, rv a3, own_i 19, own_i 21, own_i 19, .val (.int x18)] []))
  refine own_to (fun t k => XS.iload X81.here hx rfl (hb hby own_d6_3) rfl k) ?_
  refine own_to (fun t k => XS.iload X81.here hx rfl (hb hby own_d6_5) rfl k) ?_
  refine own_to (fun t k => XS.icmpNo X81.here hx rfl (hb hby own_d6_7) rfl (tlt (by decide)).2.1 k) ?_
  show own_Fin _ _ _ _ _ _ (T81.setTop (mkF m 10 #[rv a2, own_i 19, rv a3, own_i 19, own_i 21, own_i 19, .val (.int x18)] []))
  refine own_to (fun t k => XS.aloadN X81.here hx rfl (hb hby own_d6_10) rfl rfl k) ?_
  show own_Fin _ _ _ _ _ _ (T81.setTop (mkF m 11 #[rv a2, own_i 19, rv a3, own_i 19, own_i 21, own_i 19, .val (.int x18)] [(.ref a2)]))
  refine own_to (fun t k => XS.iloadN X81.here hx rfl (hb hby own_d6_11) rfl k) ?_
  obtain ⟨cl83, Ar83, qa83, Sa83, Na83, Ha83, Ga83⟩ := id V2_e81
  have hin84 : ¬ ((19 : Int32) < 0 ∨ cl83.slots.size ≤ ((19 : Int32)).toNatClampNeg) := inb_of Sa83 ⟨by decide, by decide⟩
  refine own_to (fun t k => X81.caload hx (j := (19 : Int32)) (v := (.int x19)) (by rw [e81]; exact Ar83.1) (State.isArrayOf_alike hZ.alike Ar83.2.1) Ar83.2.2 hin84 (Has.at Ha83 hin84 rfl) (g := (mkF m 12 #[rv a2, own_i 19, rv a3, own_i 19, own_i 21, own_i 19, .val (.int x18)] [(.int (19 : Int32)), (.ref a2)])) rfl rfl (hb hby own_d6_12) _ k) ?_
  show own_Fin _ _ _ _ _ _ (T81.setTop (mkF m 13 #[rv a2, own_i 19, rv a3, own_i 19, own_i 21, own_i 19, .val (.int x18)] [(.int x19)]))
  refine own_to (fun t k => XS.istore X81.here hx rfl (hb hby own_d6_13) rfl (l' := #[rv a2, own_i 19, rv a3, own_i 19, own_i 21, own_i 19, .val (.int x19)]) rfl k) ?_
  show own_Fin _ _ _ _ _ _ (T81.setTop (mkF m 15 #[rv a2, own_i 19, rv a3, own_i 19, own_i 21, own_i 19, .val (.int x19)] []))
  refine own_to (fun t k => XS.iload X81.here hx rfl (hb hby own_d6_15) rfl k) ?_
  refine own_to (fun t k => XS.sipush X81.here hx rfl (hb hby own_d6_17) k) ?_
  refine own_to (fun t k => XS.icmpYes X81.here hx rfl (pc0 := 20) (pc' := 26) rfl (hb hby own_d6_20) rfl (flt hx19).2.2.2 (by decide) (by decide) k) ?_
  show own_Fin _ _ _ _ _ _ (T81.setTop (mkF m 26 #[rv a2, own_i 19, rv a3, own_i 19, own_i 21, own_i 19, .val (.int x19)] []))
  refine own_to (fun t k => XS.aloadN X81.here hx rfl (hb hby own_d6_26) rfl rfl k) ?_
  show own_Fin _ _ _ _ _ _ (T81.setTop (mkF m 27 #[rv a2, own_i 19, rv a3, own_i 19, own_i 21, own_i 19, .val (.int x19)] [(.ref a3)]))
  refine own_to (fun t k => XS.iloadN X81.here hx rfl (hb hby own_d6_27) rfl k) ?_
  refine own_to (fun t k => XS.iload X81.here hx rfl (hb hby own_d6_28) rfl k) ?_
  refine own_to (fun t k => XS.i2b X81.here hx rfl (hb hby own_d6_30) rfl k) ?_
  show own_Fin _ _ _ _ _ _ (T81.setTop (mkF m 31 #[rv a2, own_i 19, rv a3, own_i 19, own_i 21, own_i 19, .val (.int x19)] [(.int (x19.toInt8.toInt32)), (.int (19 : Int32)), (.ref a3)]))
  obtain ⟨cl85, Ar85, qa85, Sa85, Na85, Ha85, Ga85⟩ := id V81
  have hin86 : ¬ ((19 : Int32) < 0 ∨ cl85.slots.size ≤ ((19 : Int32)).toNatClampNeg) := inb_of Sa85 ⟨by decide, by decide⟩
  obtain ⟨T86, h86, X86, e86, W86, st86⟩ := stB X81 hx hZ e81 Ar85 (j := (19 : Int32)) hin86 (g := (mkF m 31 #[rv a2, own_i 19, rv a3, own_i 19, own_i 21, own_i 19, .val (.int x19)] [(.int (x19.toInt8.toInt32)), (.int (19 : Int32)), (.ref a3)])) rfl rfl (hb hby own_d6_31)
  rw [own_idem _] at W86
  have N86 := Fr.snoc X86 N81 g_a3
  have KK86 : Keep h0 h86 [a3] := KK81.wr W86 (Or.inl (List.mem_of_getElem? (i := 0) rfl))
  have V2_e86 := V2_e81.other W86 ne23
  have V86 : Arv Z h86 a3 k3 .byte (21 : Int32) [(.int (x0.toInt8.toInt32)), (.int (x1.toInt8.toInt32)), (.int (x2.toInt8.toInt32)), (.int (x3.toInt8.toInt32)), (.int (x4.toInt8.toInt32)), (.int (x5.toInt8.toInt32)), (.int (x6.toInt8.toInt32)), (.int (x7.toInt8.toInt32)), (.int (x8.toInt8.toInt32)), (.int (x9.toInt8.toInt32)), (.int (x10.toInt8.toInt32)), (.int (x11.toInt8.toInt32)), (.int (x12.toInt8.toInt32)), (.int (x13.toInt8.toInt32)), (.int (x14.toInt8.toInt32)), (.int (x15.toInt8.toInt32)), (.int (x16.toInt8.toInt32)), (.int (x17.toInt8.toInt32)), (.int (x18.toInt8.toInt32)), (.int (x19.toInt8.toInt32)), (.int (0 : Int32))] (.int (0 : Int32)) := Arv.set Ar85 qa85 Sa85 Na85 Ha85 Ga85 (fits_nar_byte _) W86 19 rfl (Nat.le_of_ble_eq_true rfl)
  refine own_to (fun t k => st86 t k) ?_
  show own_Fin _ _ _ _ _ _ (T86.setTop (mkF m 32 #[rv a2, own_i 19, rv a3, own_i 19, own_i 21, own_i 19, .val (.int x19)] []))
  refine own_to (fun t k => XS.iinc X86.here hx rfl (hb hby own_d6_32) rfl (l' := #[rv a2, own_i 20, rv a3, own_i 19, own_i 21, own_i 19, .val (.int x19)]) rfl k) ?_
  show own_Fin _ _ _ _ _ _ (T86.setTop (mkF m 35 #[rv a2, own_i 20, rv a3, own_i 19, own_i 21, own_i 19, .val (.int x19)] []))
  refine own_to (fun t k => XS.iinc X86.here hx rfl (hb hby own_d6_35) rfl (l' := #[rv a2, own_i 20, rv a3, own_i 20, own_i 21, own_i 19, .val (.int x19)]) rfl k) ?_
  show own_Fin _ _ _ _ _ _ (T86.setTop (mkF m 38 #[rv a2, own_i 20, rv a3, own_i 20, own_i 21, own_i 19, .val (.int x19)] []))
  refine own_to (fun t k => XS.iinc X86.here hx rfl (hb hby own_d6_38) rfl (l' := #[rv a2, own_i 20, rv a3, own_i 20, own_i 21, own_i 20, .val (.int x19)]) rfl k) ?_
  show own_Fin _ _ _ _ _ _ (T86.setTop (mkF m 41 #[rv a2, own_i 20, rv a3, own_i 20, own_i 21, own_i 20, .val (.int x19)] []))
  refine own_to (fun t k => XS.goto X86.here hx rfl (pc0 := 41) (pc' := 3) rfl (hb hby own_d6_41) (by decide) (by decide) k) ?_
  show own_Fin _ _ _ _ _ _ (T86.setTop (mkF m 3 #[rv a2, own_i 20, rv a3, own_i 20, own_i 21, own_i 20, .val (.int x19)] []))
  refine own_to (fun t k => XS.iload X86.here hx rfl (hb hby own_d6_3) rfl k) ?_
  refine own_to (fun t k => XS.iload X86.here hx rfl (hb hby own_d6_5) rfl k) ?_
  refine own_to (fun t k => XS.icmpNo X86.here hx rfl (hb hby own_d6_7) rfl (tlt (by decide)).2.1 k) ?_
  show own_Fin _ _ _ _ _ _ (T86.setTop (mkF m 10 #[rv a2, own_i 20, rv a3, own_i 20, own_i 21, own_i 20, .val (.int x19)] []))
  refine own_to (fun t k => XS.aloadN X86.here hx rfl (hb hby own_d6_10) rfl rfl k) ?_
  show own_Fin _ _ _ _ _ _ (T86.setTop (mkF m 11 #[rv a2, own_i 20, rv a3, own_i 20, own_i 21, own_i 20, .val (.int x19)] [(.ref a2)]))
  refine own_to (fun t k => XS.iloadN X86.here hx rfl (hb hby own_d6_11) rfl k) ?_
  obtain ⟨cl87, Ar87, qa87, Sa87, Na87, Ha87, Ga87⟩ := id V2_e86
  have hin88 : ¬ ((20 : Int32) < 0 ∨ cl87.slots.size ≤ ((20 : Int32)).toNatClampNeg) := inb_of Sa87 ⟨by decide, by decide⟩
  refine own_to (fun t k => X86.caload hx (j := (20 : Int32)) (v := (.int x20)) (by rw [e86]; exact Ar87.1) (State.isArrayOf_alike hZ.alike Ar87.2.1) Ar87.2.2 hin88 (Has.at Ha87 hin88 rfl) (g := (mkF m 12 #[rv a2, own_i 20, rv a3, own_i 20, own_i 21, own_i 20, .val (.int x19)] [(.int (20 : Int32)), (.ref a2)])) rfl rfl (hb hby own_d6_12) _ k) ?_
  show own_Fin _ _ _ _ _ _ (T86.setTop (mkF m 13 #[rv a2, own_i 20, rv a3, own_i 20, own_i 21, own_i 20, .val (.int x19)] [(.int x20)]))
  refine own_to (fun t k => XS.istore X86.here hx rfl (hb hby own_d6_13) rfl (l' := #[rv a2, own_i 20, rv a3, own_i 20, own_i 21, own_i 20, .val (.int x20)]) rfl k) ?_
  show own_Fin _ _ _ _ _ _ (T86.setTop (mkF m 15 #[rv a2, own_i 20, rv a3, own_i 20, own_i 21, own_i 20, .val (.int x20)] []))
  refine own_to (fun t k => XS.iload X86.here hx rfl (hb hby own_d6_15) rfl k) ?_
  refine own_to (fun t k => XS.sipush X86.here hx rfl (hb hby own_d6_17) k) ?_
  refine own_to (fun t k => XS.icmpYes X86.here hx rfl (pc0 := 20) (pc' := 26) rfl (hb hby own_d6_20) rfl (flt hx20).2.2.2 (by decide) (by decide) k) ?_
  show own_Fin _ _ _ _ _ _ (T86.setTop (mkF m 26 #[rv a2, own_i 20, rv a3, own_i 20, own_i 21, own_i 20, .val (.int x20)] []))
  refine own_to (fun t k => XS.aloadN X86.here hx rfl (hb hby own_d6_26) rfl rfl k) ?_
  show own_Fin _ _ _ _ _ _ (T86.setTop (mkF m 27 #[rv a2, own_i 20, rv a3, own_i 20, own_i 21, own_i 20, .val (.int x20)] [(.ref a3)]))
  refine own_to (fun t k => XS.iloadN X86.here hx rfl (hb hby own_d6_27) rfl k) ?_
  refine own_to (fun t k => XS.iload X86.here hx rfl (hb hby own_d6_28) rfl k) ?_
  refine own_to (fun t k => XS.i2b X86.here hx rfl (hb hby own_d6_30) rfl k) ?_
  show own_Fin _ _ _ _ _ _ (T86.setTop (mkF m 31 #[rv a2, own_i 20, rv a3, own_i 20, own_i 21, own_i 20, .val (.int x20)] [(.int (x20.toInt8.toInt32)), (.int (20 : Int32)), (.ref a3)]))
  obtain ⟨cl89, Ar89, qa89, Sa89, Na89, Ha89, Ga89⟩ := id V86
  have hin90 : ¬ ((20 : Int32) < 0 ∨ cl89.slots.size ≤ ((20 : Int32)).toNatClampNeg) := inb_of Sa89 ⟨by decide, by decide⟩
  obtain ⟨T90, h90, X90, e90, W90, st90⟩ := stB X86 hx hZ e86 Ar89 (j := (20 : Int32)) hin90 (g := (mkF m 31 #[rv a2, own_i 20, rv a3, own_i 20, own_i 21, own_i 20, .val (.int x20)] [(.int (x20.toInt8.toInt32)), (.int (20 : Int32)), (.ref a3)])) rfl rfl (hb hby own_d6_31)
  rw [own_idem _] at W90
  have N90 := Fr.snoc X90 N86 g_a3
  have KK90 : Keep h0 h90 [a3] := KK86.wr W90 (Or.inl (List.mem_of_getElem? (i := 0) rfl))
  have V2_e90 := V2_e86.other W90 ne23
  have V90 : Arv Z h90 a3 k3 .byte (21 : Int32) [(.int (x0.toInt8.toInt32)), (.int (x1.toInt8.toInt32)), (.int (x2.toInt8.toInt32)), (.int (x3.toInt8.toInt32)), (.int (x4.toInt8.toInt32)), (.int (x5.toInt8.toInt32)), (.int (x6.toInt8.toInt32)), (.int (x7.toInt8.toInt32)), (.int (x8.toInt8.toInt32)), (.int (x9.toInt8.toInt32)), (.int (x10.toInt8.toInt32)), (.int (x11.toInt8.toInt32)), (.int (x12.toInt8.toInt32)), (.int (x13.toInt8.toInt32)), (.int (x14.toInt8.toInt32)), (.int (x15.toInt8.toInt32)), (.int (x16.toInt8.toInt32)), (.int (x17.toInt8.toInt32)), (.int (x18.toInt8.toInt32)), (.int (x19.toInt8.toInt32)), (.int (x20.toInt8.toInt32))] (.int (0 : Int32)) := Arv.set Ar89 qa89 Sa89 Na89 Ha89 Ga89 (fits_nar_byte _) W90 20 rfl (Nat.le_of_ble_eq_true rfl)
  refine own_to (fun t k => st90 t k) ?_
  show own_Fin _ _ _ _ _ _ (T90.setTop (mkF m 32 #[rv a2, own_i 20, rv a3, own_i 20, own_i 21, own_i 20, .val (.int x20)] []))
  refine own_to (fun t k => XS.iinc X90.here hx rfl (hb hby own_d6_32) rfl (l' := #[rv a2, own_i 21, rv a3, own_i 20, own_i 21, own_i 20, .val (.int x20)]) rfl k) ?_
  show own_Fin _ _ _ _ _ _ (T90.setTop (mkF m 35 #[rv a2, own_i 21, rv a3, own_i 20, own_i 21, own_i 20, .val (.int x20)] []))
  refine own_to (fun t k => XS.iinc X90.here hx rfl (hb hby own_d6_35) rfl (l' := #[rv a2, own_i 21, rv a3, own_i 21, own_i 21, own_i 20, .val (.int x20)]) rfl k) ?_
  show own_Fin _ _ _ _ _ _ (T90.setTop (mkF m 38 #[rv a2, own_i 21, rv a3, own_i 21, own_i 21, own_i 20, .val (.int x20)] []))
  refine own_to (fun t k => XS.iinc X90.here hx rfl (hb hby own_d6_38) rfl (l' := #[rv a2, own_i 21, rv a3, own_i 21, own_i 21, own_i 21, .val (.int x20)]) rfl k) ?_
  show own_Fin _ _ _ _ _ _ (T90.setTop (mkF m 41 #[rv a2, own_i 21, rv a3, own_i 21, own_i 21, own_i 21, .val (.int x20)] []))
  refine own_to (fun t k => XS.goto X90.here hx rfl (pc0 := 41) (pc' := 3) rfl (hb hby own_d6_41) (by decide) (by decide) k) ?_
  show own_Fin _ _ _ _ _ _ (T90.setTop (mkF m 3 #[rv a2, own_i 21, rv a3, own_i 21, own_i 21, own_i 21, .val (.int x20)] []))
  refine own_to (fun t k => XS.iload X90.here hx rfl (hb hby own_d6_3) rfl k) ?_
  refine own_to (fun t k => XS.iload X90.here hx rfl (hb hby own_d6_5) rfl k) ?_
  refine own_to (fun t k => XS.icmpYes X90.here hx rfl (pc0 := 7) (pc' := 44) rfl (hb hby own_d6_7) rfl (flt (Int32.lt_irrefl)).2.1 (by decide) (by decide) k) ?_
  show own_Fin _ _ _ _ _ _ (T90.setTop (mkF m 44 #[rv a2, own_i 21, rv a3, own_i 21, own_i 21, own_i 21, .val (.int x20)] []))
  refine own_to (fun t k => XS.iload X90.here hx rfl (hb hby own_d6_44) rfl k) ?_
  show own_Fin _ _ _ _ _ _ (T90.setTop (mkF m 46 #[rv a2, own_i 21, rv a3, own_i 21, own_i 21, own_i 21, .val (.int x20)] [(.int (21 : Int32))]))
  refine own_retI X90 hx hlk hret (hb hby own_d6_46) (by decide) (by decide) ?_
  try rw [e90]
  exact ⟨rfl, N90, KK90, V90⟩
theorem own_d5_0 : decode jdk_52_method_16_code 0 = .ok (.iload_n 2, 1) := by decide +kernel
theorem own_d5_1 : decode jdk_52_method_16_code 1 = .ok (.newarray .byte, 2) := by decide +kernel
theorem own_d5_3 : decode jdk_52_method_16_code 3 = .ok (.astore_n 3, 1) := by decide +kernel
theorem own_d5_4 : decode jdk_52_method_16_code 4 = .ok (.aload_n 0, 1) := by decide +kernel
theorem own_d5_5 : decode jdk_52_method_16_code 5 = .ok (.iload_n 1, 1) := by decide +kernel
theorem own_d5_6 : decode jdk_52_method_16_code 6 = .ok (.aload_n 3, 1) := by decide +kernel
theorem own_d5_7 : decode jdk_52_method_16_code 7 = .ok (.iconst 0, 1) := by decide +kernel
theorem own_d5_8 : decode jdk_52_method_16_code 8 = .ok (.iload_n 2, 1) := by decide +kernel
theorem own_d5_9 : decode jdk_52_method_16_code 9 = .ok (.invokestatic 115, 3) := by decide +kernel
theorem own_d5_12 : decode jdk_52_method_16_code 12 = .ok (.istore 4, 2) := by decide +kernel
theorem own_d5_14 : decode jdk_52_method_16_code 14 = .ok (.iload 4, 2) := by decide +kernel
theorem own_d5_16 : decode jdk_52_method_16_code 16 = .ok (.iload_n 2, 1) := by decide +kernel
theorem own_d5_17 : decode jdk_52_method_16_code 17 = .ok (.if_icmp .eq 40, 3) := by decide +kernel
theorem own_d5_20 : decode jdk_52_method_16_code 20 = .ok (.aload_n 0, 1) := by decide +kernel
theorem own_d5_21 : decode jdk_52_method_16_code 21 = .ok (.iload_n 1, 1) := by decide +kernel
theorem own_d5_22 : decode jdk_52_method_16_code 22 = .ok (.iload_n 2, 1) := by decide +kernel
theorem own_d5_23 : decode jdk_52_method_16_code 23 = .ok (.invokestatic 119, 3) := by decide +kernel
theorem own_d5_26 : decode jdk_52_method_16_code 26 = .ok (.astore 5, 2) := by decide +kernel
theorem own_d5_28 : decode jdk_52_method_16_code 28 = .ok (.aload 5, 2) := by decide +kernel
theorem own_d5_30 : decode jdk_52_method_16_code 30 = .ok (.iload 4, 2) := by decide +kernel
theorem own_d5_32 : decode jdk_52_method_16_code 32 = .ok (.invokestatic 71, 3) := by decide +kernel
theorem own_d5_35 : decode jdk_52_method_16_code 35 = .ok (.sipush 255, 3) := by decide +kernel
theorem own_d5_38 : decode jdk_52_method_16_code 38 = .ok (.if_icmp .gt 16, 3) := by decide +kernel
theorem own_d5_41 : decode jdk_52_method_16_code 41 = .ok (.aload 5, 2) := by decide +kernel
theorem own_d5_43 : decode jdk_52_method_16_code 43 = .ok (.iconst 0, 1) := by decide +kernel
theorem own_d5_44 : decode jdk_52_method_16_code 44 = .ok (.aload_n 3, 1) := by decide +kernel
theorem own_d5_45 : decode jdk_52_method_16_code 45 = .ok (.iconst 0, 1) := by decide +kernel
theorem own_d5_46 : decode jdk_52_method_16_code 46 = .ok (.iload_n 2, 1) := by decide +kernel
theorem own_d5_47 : decode jdk_52_method_16_code 47 = .ok (.invokestatic 123, 3) := by decide +kernel
theorem own_d5_50 : decode jdk_52_method_16_code 50 = .ok (.iload_n 2, 1) := by decide +kernel
theorem own_d5_51 : decode jdk_52_method_16_code 51 = .ok (.if_icmp .eq 6, 3) := by decide +kernel
theorem own_d5_54 : decode jdk_52_method_16_code 54 = .ok (.aload 5, 2) := by decide +kernel
theorem own_d5_56 : decode jdk_52_method_16_code 56 = .ok (.areturn, 1) := by decide +kernel
theorem own_d5_57 : decode jdk_52_method_16_code 57 = .ok (.aload_n 3, 1) := by decide +kernel
theorem own_d5_58 : decode jdk_52_method_16_code 58 = .ok (.areturn, 1) := by decide +kernel
theorem own_pd0 : parseMethodDescriptor "([CI[BII)I" = some ⟨[(.array .char), .int, (.array .byte), .int, .int], some .int⟩ := by decide +kernel
theorem own_cmp_ef (m : MethodId) (a2 : Addr) : entryFrame m #[(.ref a2), (.int (0 : Int32)), (.int (21 : Int32))] 6 = mkF m 0 #[rv a2, own_i 0, own_i 21, .unset, .unset, .unset] [] := by first | (simp [entryFrame, mkF, argsToLocals, Value.category]; done) | rfl
set_option maxRecDepth 65536 in
set_option maxHeartbeats 40000000 in
theorem own_cmp (l : Launch) (Z : State) (a0 : Array Value) (hw : ∀ d ∈ tables_1, d.before a0 Z = true) (ws : List Jvm.Cond) (a2 : Addr) (k2 : ClassId) (x0 : Int32) (x1 : Int32) (x2 : Int32) (x3 : Int32) (x4 : Int32) (x5 : Int32) (x6 : Int32) (x7 : Int32) (x8 : Int32) (x9 : Int32) (x10 : Int32) (x11 : Int32) (x12 : Int32) (x13 : Int32) (x14 : Int32) (x15 : Int32) (x16 : Int32) (x17 : Int32) (x18 : Int32) (x19 : Int32) (x20 : Int32) (h0 : Heap) (n0 : Nat) (Z0 : n0 ≤ h0.size) (V2 : Arv Z h0 a2 k2 .char (21 : Int32) [(.int x0), (.int x1), (.int x2), (.int x3), (.int x4), (.int x5), (.int x6), (.int x7), (.int x8), (.int x9), (.int x10), (.int x11), (.int x12), (.int x13), (.int x14), (.int x15), (.int x16), (.int x17), (.int x18), (.int x19), (.int x20)] (.int (0 : Int32))) (hx0 : ¬ (255 : Int32) < x0) (hx1 : ¬ (255 : Int32) < x1) (hx2 : ¬ (255 : Int32) < x2) (hx3 : ¬ (255 : Int32) < x3) (hx4 : ¬ (255 : Int32) < x4) (hx5 : ¬ (255 : Int32) < x5) (hx6 : ¬ (255 : Int32) < x6) (hx7 : ¬ (255 : Int32) < x7) (hx8 : ¬ (255 : Int32) < x8) (hx9 : ¬ (255 : Int32) < x9) (hx10 : ¬ (255 : Int32) < x10) (hx11 : ¬ (255 : Int32) < x11) (hx12 : ¬ (255 : Int32) < x12) (hx13 : ¬ (255 : Int32) < x13) (hx14 : ¬ (255 : Int32) < x14) (hx15 : ¬ (255 : Int32) < x15) (hx16 : ¬ (255 : Int32) < x16) (hx17 : ¬ (255 : Int32) < x17) (hx18 : ¬ (255 : Int32) < x18) (hx19 : ¬ (255 : Int32) < x19) (hx20 : ¬ (255 : Int32) < x20) :
    own_Met l Z (⟨"java/lang/StringUTF16", "compress", "([CII)[B"⟩ : MethodName) jdk_52_method_16_code 6 (some (.array .byte)) ws ({ frames := 1, cells := 1, slots := 21, locals := 24 } : Room) #[(.ref a2), (.int (0 : Int32)), (.int (21 : Int32))] h0 (fun v h L => ∃ d k3, v = some (.ref d) ∧ Fr n0 L ∧ Keep h0 h [] ∧ n0 ≤ d ∧ h0.size ≤ d ∧ Arv Z h d k3 .byte (21 : Int32) [(.int (x0.toInt8.toInt32)), (.int (x1.toInt8.toInt32)), (.int (x2.toInt8.toInt32)), (.int (x3.toInt8.toInt32)), (.int (x4.toInt8.toInt32)), (.int (x5.toInt8.toInt32)), (.int (x6.toInt8.toInt32)), (.int (x7.toInt8.toInt32)), (.int (x8.toInt8.toInt32)), (.int (x9.toInt8.toInt32)), (.int (x10.toInt8.toInt32)), (.int (x11.toInt8.toInt32)), (.int (x12.toInt8.toInt32)), (.int (x13.toInt8.toInt32)), (.int (x14.toInt8.toInt32)), (.int (x15.toInt8.toInt32)), (.int (x16.toInt8.toInt32)), (.int (x17.toInt8.toInt32)), (.int (x18.toInt8.toInt32)), (.int (x19.toInt8.toInt32)), (.int (x20.toInt8.toInt32))] (.int (0 : Int32))) := by
  refine own_enter (plainFor_of_name own_pn0) ?_
  intro p e s m below meth c s₁ X0 hx hZ hby hml hown hnm hret hlk e0
  have N0 := Fr.nil n0
  rw [own_cmp_ef m a2]
  have KK0 : Keep h0 h0 [] := Keep.refl _ _
  show own_Fin _ _ _ _ _ _ (s₁.setTop (mkF m 0 #[rv a2, own_i 0, own_i 21, .unset, .unset, .unset] []))
  refine own_to (fun t k => XS.iloadN X0.here hx rfl (hb hby own_d5_0) rfl k) ?_
  obtain ⟨T91, h91, k91, X91, e91, E91, A91, A91x, st91⟩ := newPE X0 hx hZ (own_W hw 47 rfl) e0 (g := (mkF m 1 #[rv a2, own_i 0, own_i 21, .unset, .unset, .unset] [(.int (21 : Int32))])) rfl (hb hby own_d5_1) rfl (by decide) (cap := 21) (by decide) (by decide) (by decide) (by decide) (ad := "[B") (by decide)
  obtain ⟨bd, q91⟩ : ∃ z, z = h0.size := ⟨_, rfl⟩
  rw [← q91] at A91 A91x st91
  have ne_a2_bd : a2 ≠ bd := Nat.ne_of_lt (Nat.lt_of_lt_of_le V2.lt (Nat.le_of_eq q91.symm))
  have g_bd : n0 ≤ bd := Nat.le_trans Z0 (Nat.le_of_eq q91.symm)
  have sz_bd : h0.size ≤ bd := Nat.le_trans KK0.1 (Nat.le_of_eq q91.symm)
  have KK91 : Keep h0 h91 [] := KK0.ext E91
  have V2_e91 := V2.ext E91
  have V91 := Arv.new A91 (by decide)
  refine own_to (fun t k => st91 t k) ?_
  show own_Fin _ _ _ _ _ _ (T91.setTop (mkF m 3 #[rv a2, own_i 0, own_i 21, .unset, .unset, .unset] [(.ref bd)]))
  refine own_to (fun t k => XS.astoreN X91.here hx rfl (hb hby own_d5_3) rfl rfl (l' := #[rv a2, own_i 0, own_i 21, rv bd, .unset, .unset]) rfl k) ?_
  show own_Fin _ _ _ _ _ _ (T91.setTop (mkF m 4 #[rv a2, own_i 0, own_i 21, rv bd, .unset, .unset] []))
  refine own_to (fun t k => XS.aloadN X91.here hx rfl (hb hby own_d5_4) rfl rfl k) ?_
  refine own_to (fun t k => XS.iloadN X91.here hx rfl (hb hby own_d5_5) rfl k) ?_
  refine own_to (fun t k => XS.aloadN X91.here hx rfl (hb hby own_d5_6) rfl rfl k) ?_
  show own_Fin _ _ _ _ _ _ (T91.setTop (mkF m 7 #[rv a2, own_i 0, own_i 21, rv bd, .unset, .unset] [(.ref bd), (.int (0 : Int32)), (.ref a2)]))
  refine own_to (fun t k => XS.iconst X91.here hx rfl (hb hby own_d5_7) k) ?_
  refine own_to (fun t k => XS.iloadN X91.here hx rfl (hb hby own_d5_8) rfl k) ?_
  have V92p : Arv Z h91 bd k91 .byte (21 : Int32) [(.int (0 : Int32)), (.int (0 : Int32)), (.int (0 : Int32)), (.int (0 : Int32)), (.int (0 : Int32)), (.int (0 : Int32)), (.int (0 : Int32)), (.int (0 : Int32)), (.int (0 : Int32)), (.int (0 : Int32)), (.int (0 : Int32)), (.int (0 : Int32)), (.int (0 : Int32)), (.int (0 : Int32)), (.int (0 : Int32)), (.int (0 : Int32)), (.int (0 : Int32)), (.int (0 : Int32)), (.int (0 : Int32)), (.int (0 : Int32)), (.int (0 : Int32))] (.int (0 : Int32)) := V91.pad (pad_rep [] (.int (0 : Int32)) 21)
  obtain ⟨_, _, ⟨T93, L93, k93, n93⟩, -, X93, ⟨Lc93, hQ93, l93, y93, z93⟩, st93⟩ := Jvm.LawKit.callS X91 hx (y := (⟨"java/lang/StringUTF16", "compress", "([CI[BII)I"⟩ : MethodName)) hown (mvT hZ (own_W hw 48 rfl)) (mvT hZ (own_W hw 49 rfl)) (mvT hZ (own_W hw 45 rfl)) (mvT hZ (own_W hw 50 rfl)) (by decide) (own_back (W := 0) (own_cmp2 l Z a0 hw [] a2 bd k2 k91 x0 x1 x2 x3 x4 x5 x6 x7 x8 x9 x10 x11 x12 x13 x14 x15 x16 x17 x18 x19 x20 h91 n0 (Nat.le_trans Z0 E91.1) V2_e91 V92p g_bd ne_a2_bd hx0 hx1 hx2 hx3 hx4 hx5 hx6 hx7 hx8 hx9 hx10 hx11 hx12 hx13 hx14 hx15 hx16 hx17 hx18 hx19 hx20) hZ (own_W hw 50 rfl) (own_W hw 45 rfl) (by decide) (by decide)) (g := (mkF m 9 #[rv a2, own_i 0, own_i 21, rv bd, .unset, .unset] [(.int (21 : Int32)), (.int (0 : Int32)), (.ref bd), (.int (0 : Int32)), (.ref a2)])) rfl (by rw [hml]; rfl) (argsL := [(.ref a2), (.int (0 : Int32)), (.ref bd), (.int (0 : Int32)), (.int (21 : Int32))]) (rest := []) (lenOf own_pd0 rfl) rfl (by show 2 * 0 + _ ≤ _; exact Nat.le_of_eq rfl) (hb hby own_d5_9) (fun _ _ => ⟨rfl, e91, (by decide : 1 + 0 ≤ _), (by decide : 21 + 0 ≤ _)⟩)
  dsimp only [Pt.U, Pt.locs, Pt.cells, Pt.slots] at X93 l93 y93 z93 st93 hQ93
  rw [l93, y93, z93] at X93
  obtain ⟨rfl, N93q, K93, Vd93⟩ := hQ93
  have N93 := Fr.app N0 N93q
  have KK93 : Keep h0 T93.heap [] := KK91.trans K93 (allS (Or.inr sz_bd) all0)
  have V2_e93 := V2_e91.keep K93 (ninS ne_a2_bd nin0)
  have A91x_e93 := A91x.keep K93
  refine own_to (fun t k => st93 t k) ?_
  show own_Fin _ _ _ _ _ _ (T93.setTop (mkF m 12 #[rv a2, own_i 0, own_i 21, rv bd, .unset, .unset] [(.int (21 : Int32))]))
  refine own_to (fun t k => XS.istore X93.here hx rfl (hb hby own_d5_12) rfl (l' := #[rv a2, own_i 0, own_i 21, rv bd, own_i 21, .unset]) rfl k) ?_
  show own_Fin _ _ _ _ _ _ (T93.setTop (mkF m 14 #[rv a2, own_i 0, own_i 21, rv bd, own_i 21, .unset] []))
  refine own_to (fun t k => XS.iload X93.here hx rfl (hb hby own_d5_14) rfl k) ?_
  refine own_to (fun t k => XS.iloadN X93.here hx rfl (hb hby own_d5_16) rfl k) ?_
  refine own_to (fun t k => XS.icmpYes X93.here hx rfl (pc0 := 17) (pc' := 57) rfl (hb hby own_d5_17) rfl (teq rfl).1 (by decide) (by decide) k) ?_
  show own_Fin _ _ _ _ _ _ (T93.setTop (mkF m 57 #[rv a2, own_i 0, own_i 21, rv bd, own_i 21, .unset] []))
  refine own_to (fun t k => XS.aloadN X93.here hx rfl (hb hby own_d5_57) rfl rfl k) ?_
  show own_Fin _ _ _ _ _ _ (T93.setTop (mkF m 58 #[rv a2, own_i 0, own_i 21, rv bd, own_i 21, .unset] [(.ref bd)]))
  refine own_retR X93 hx hlk hret rfl rfl rfl (hb hby own_d5_58) (by decide) (by decide) ?_
  exact ⟨bd, k91, rfl, N93, KK93, g_bd, sz_bd, Vd93⟩
theorem own_d7_0 : decode jdk_52_method_15_code 0 = .ok (.iload_n 1, 1) := by decide +kernel
theorem own_d7_1 : decode jdk_52_method_15_code 1 = .ok (.aload_n 0, 1) := by decide +kernel
theorem own_d7_2 : decode jdk_52_method_15_code 2 = .ok (.arraylength, 1) := by decide +kernel
theorem own_d7_3 : decode jdk_52_method_15_code 3 = .ok (.isub, 1) := by decide +kernel
theorem own_d7_4 : decode jdk_52_method_15_code 4 = .ok (.bipush 31, 2) := by decide +kernel
theorem own_d7_6 : decode jdk_52_method_15_code 6 = .ok (.iushr, 1) := by decide +kernel
theorem own_d7_7 : decode jdk_52_method_15_code 7 = .ok (.i2b, 1) := by decide +kernel
theorem own_d7_8 : decode jdk_52_method_15_code 8 = .ok (.ireturn, 1) := by decide +kernel
theorem own_cod_ef (m : MethodId) (a2 : Addr) : entryFrame m #[(.ref a2), (.int (21 : Int32))] 2 = mkF m 0 #[rv a2, own_i 21] [] := by first | (simp [entryFrame, mkF, argsToLocals, Value.category]; done) | rfl
set_option maxRecDepth 65536 in
set_option maxHeartbeats 40000000 in
theorem own_cod (l : Launch) (Z : State) (a0 : Array Value) (hw : ∀ d ∈ tables_1, d.before a0 Z = true) (ws : List Jvm.Cond) (a2 : Addr) (k3 : ClassId) (x0 : Int32) (x1 : Int32) (x2 : Int32) (x3 : Int32) (x4 : Int32) (x5 : Int32) (x6 : Int32) (x7 : Int32) (x8 : Int32) (x9 : Int32) (x10 : Int32) (x11 : Int32) (x12 : Int32) (x13 : Int32) (x14 : Int32) (x15 : Int32) (x16 : Int32) (x17 : Int32) (x18 : Int32) (x19 : Int32) (x20 : Int32) (h0 : Heap) (n0 : Nat) (Z0 : n0 ≤ h0.size) (V2 : Arv Z h0 a2 k3 .byte (21 : Int32) [(.int (x0.toInt8.toInt32)), (.int (x1.toInt8.toInt32)), (.int (x2.toInt8.toInt32)), (.int (x3.toInt8.toInt32)), (.int (x4.toInt8.toInt32)), (.int (x5.toInt8.toInt32)), (.int (x6.toInt8.toInt32)), (.int (x7.toInt8.toInt32)), (.int (x8.toInt8.toInt32)), (.int (x9.toInt8.toInt32)), (.int (x10.toInt8.toInt32)), (.int (x11.toInt8.toInt32)), (.int (x12.toInt8.toInt32)), (.int (x13.toInt8.toInt32)), (.int (x14.toInt8.toInt32)), (.int (x15.toInt8.toInt32)), (.int (x16.toInt8.toInt32)), (.int (x17.toInt8.toInt32)), (.int (x18.toInt8.toInt32)), (.int (x19.toInt8.toInt32)), (.int (x20.toInt8.toInt32))] (.int (0 : Int32))) :
    own_Met l Z (⟨"java/lang/StringUTF16", "coderFromArrayLen", "([BI)B"⟩ : MethodName) jdk_52_method_15_code 2 (some .byte) ws ({ frames := 0, cells := 0, slots := 0, locals := 0 } : Room) #[(.ref a2), (.int (21 : Int32))] h0 (fun v h L => v = some (.int (0 : Int32)) ∧ Fr n0 L ∧ h = h0) := by
  refine own_enter (plainFor_of_name own_pn0) ?_
  intro p e s m below meth c s₁ X0 hx hZ hby hml hown hnm hret hlk e0
  have N0 := Fr.nil n0
  rw [own_cod_ef m a2]
  show own_Fin _ _ _ _ _ _ (s₁.setTop (mkF m 0 #[rv a2, own_i 21] []))
  refine own_to (fun t k => XS.iloadN X0.here hx rfl (hb hby own_d7_0) rfl k) ?_
  refine own_to (fun t k => XS.aloadN X0.here hx rfl (hb hby own_d7_1) rfl rfl k) ?_
  obtain ⟨cl94, Ar94, qa94, Sa94, Na94, Ha94, Ga94⟩ := id V2
  refine own_to (fun t k => X0.arraylength hx (by rw [e0]; exact Ar94.1) (State.isArrayOf_alike hZ.alike Ar94.2.1) (g := (mkF m 2 #[rv a2, own_i 21] [(.ref a2), (.int (21 : Int32))])) rfl rfl (hb hby own_d7_2) _ k) ?_
  rw [len_of Sa94 Na94]
  show own_Fin _ _ _ _ _ _ (s₁.setTop (mkF m 3 #[rv a2, own_i 21] [(.int (21 : Int32)), (.int (21 : Int32))]))
  refine own_to (fun t k => XS.isub X0.here hx rfl (hb hby own_d7_3) rfl k) ?_
  show own_Fin _ _ _ _ _ _ (s₁.setTop (mkF m 4 #[rv a2, own_i 21] [(.int (0 : Int32))]))
  refine own_to (fun t k => XS.bipush X0.here hx rfl (hb hby own_d7_4) k) ?_
  refine own_to (fun t k => XS.iushr X0.here hx rfl (hb hby own_d7_6) rfl k) ?_
  show own_Fin _ _ _ _ _ _ (s₁.setTop (mkF m 7 #[rv a2, own_i 21] [(.int (0 : Int32))]))
  refine own_to (fun t k => XS.i2b X0.here hx rfl (hb hby own_d7_7) rfl k) ?_
  show own_Fin _ _ _ _ _ _ (s₁.setTop (mkF m 8 #[rv a2, own_i 21] [(.int (0 : Int32))]))
  refine own_retN X0 hx hlk (t := .byte) hret (by simp) (hb hby own_d7_8) (by decide) (by decide) ?_
  try rw [e0]
  exact ⟨rfl, N0, rfl⟩
theorem own_d3_0 : decode jdk_42_method_149_code 0 = .ok (.aload_n 0, 1) := by decide +kernel
theorem own_d3_1 : decode jdk_42_method_149_code 1 = .ok (.invokespecial 1, 3) := by decide +kernel
theorem own_d3_4 : decode jdk_42_method_149_code 4 = .ok (.iload_n 3, 1) := by decide +kernel
theorem own_d3_5 : decode jdk_42_method_149_code 5 = .ok (.ifCond .ne 22, 3) := by decide +kernel
theorem own_d3_8 : decode jdk_42_method_149_code 8 = .ok (.aload_n 0, 1) := by decide +kernel
theorem own_d3_9 : decode jdk_42_method_149_code 9 = .ok (.ldc 7, 2) := by decide +kernel
theorem own_d3_11 : decode jdk_42_method_149_code 11 = .ok (.getfield 9, 3) := by decide +kernel
theorem own_d3_14 : decode jdk_42_method_149_code 14 = .ok (.putfield 9, 3) := by decide +kernel
theorem own_d3_17 : decode jdk_42_method_149_code 17 = .ok (.aload_n 0, 1) := by decide +kernel
theorem own_d3_18 : decode jdk_42_method_149_code 18 = .ok (.ldc 7, 2) := by decide +kernel
theorem own_d3_20 : decode jdk_42_method_149_code 20 = .ok (.getfield 15, 3) := by decide +kernel
theorem own_d3_23 : decode jdk_42_method_149_code 23 = .ok (.putfield 15, 3) := by decide +kernel
theorem own_d3_26 : decode jdk_42_method_149_code 26 = .ok (.return_, 1) := by decide +kernel
theorem own_d3_27 : decode jdk_42_method_149_code 27 = .ok (.getstatic 38, 3) := by decide +kernel
theorem own_d3_30 : decode jdk_42_method_149_code 30 = .ok (.ifCond .eq 28, 3) := by decide +kernel
theorem own_d3_33 : decode jdk_42_method_149_code 33 = .ok (.aload_n 1, 1) := by decide +kernel
theorem own_d3_34 : decode jdk_42_method_149_code 34 = .ok (.iload_n 2, 1) := by decide +kernel
theorem own_d3_35 : decode jdk_42_method_149_code 35 = .ok (.iload_n 3, 1) := by decide +kernel
theorem own_d3_36 : decode jdk_42_method_149_code 36 = .ok (.invokestatic 177, 3) := by decide +kernel
theorem own_d3_39 : decode jdk_42_method_149_code 39 = .ok (.astore 5, 2) := by decide +kernel
theorem own_d3_41 : decode jdk_42_method_149_code 41 = .ok (.aload_n 0, 1) := by decide +kernel
theorem own_d3_42 : decode jdk_42_method_149_code 42 = .ok (.aload 5, 2) := by decide +kernel
theorem own_d3_44 : decode jdk_42_method_149_code 44 = .ok (.iload_n 3, 1) := by decide +kernel
theorem own_d3_45 : decode jdk_42_method_149_code 45 = .ok (.invokestatic 47, 3) := by decide +kernel
theorem own_d3_48 : decode jdk_42_method_149_code 48 = .ok (.putfield 15, 3) := by decide +kernel
theorem own_d3_51 : decode jdk_42_method_149_code 51 = .ok (.aload_n 0, 1) := by decide +kernel
theorem own_d3_52 : decode jdk_42_method_149_code 52 = .ok (.aload 5, 2) := by decide +kernel
theorem own_d3_54 : decode jdk_42_method_149_code 54 = .ok (.putfield 9, 3) := by decide +kernel
theorem own_d3_57 : decode jdk_42_method_149_code 57 = .ok (.return_, 1) := by decide +kernel
theorem own_d3_58 : decode jdk_42_method_149_code 58 = .ok (.aload_n 0, 1) := by decide +kernel
theorem own_d3_59 : decode jdk_42_method_149_code 59 = .ok (.iconst 1, 1) := by decide +kernel
theorem own_d3_60 : decode jdk_42_method_149_code 60 = .ok (.putfield 15, 3) := by decide +kernel
theorem own_d3_63 : decode jdk_42_method_149_code 63 = .ok (.aload_n 0, 1) := by decide +kernel
theorem own_d3_64 : decode jdk_42_method_149_code 64 = .ok (.aload_n 1, 1) := by decide +kernel
theorem own_d3_65 : decode jdk_42_method_149_code 65 = .ok (.iload_n 2, 1) := by decide +kernel
theorem own_d3_66 : decode jdk_42_method_149_code 66 = .ok (.iload_n 3, 1) := by decide +kernel
theorem own_d3_67 : decode jdk_42_method_149_code 67 = .ok (.invokestatic 180, 3) := by decide +kernel
theorem own_d3_70 : decode jdk_42_method_149_code 70 = .ok (.putfield 9, 3) := by decide +kernel
theorem own_d3_73 : decode jdk_42_method_149_code 73 = .ok (.return_, 1) := by decide +kernel
theorem own_pn1 : plainName "java/lang/String" = true := by first | (simp [plainName, overriddenIn]; done) | decide +kernel
theorem own_pd1 : parseMethodDescriptor "()V" = some ⟨[], none⟩ := by decide +kernel
theorem own_pd2 : parseMethodDescriptor "([CII)[B" = some ⟨[(.array .char), .int, .int], some (.array .byte)⟩ := by decide +kernel
theorem own_pd3 : parseMethodDescriptor "([BI)B" = some ⟨[(.array .byte), .int], some .byte⟩ := by decide +kernel
theorem own_initI_ef (m : MethodId) (a1 : Addr) (a2 : Addr) : entryFrame m #[(.ref a1), (.ref a2), (.int (0 : Int32)), (.int (21 : Int32)), .null] 6 = mkF m 0 #[rv a1, rv a2, own_i 0, own_i 21, .val .null, .unset] [] := by first | (simp [entryFrame, mkF, argsToLocals, Value.category]; done) | rfl
set_option maxRecDepth 65536 in
set_option maxHeartbeats 40000000 in
theorem own_initI (l : Launch) (Z : State) (a0 : Array Value) (hw : ∀ d ∈ tables_1, d.before a0 Z = true) (ws : List Jvm.Cond) (cs : Int32) (a1 : Addr) (a2 : Addr) (k2 : ClassId) (x0 : Int32) (x1 : Int32) (x2 : Int32) (x3 : Int32) (x4 : Int32) (x5 : Int32) (x6 : Int32) (x7 : Int32) (x8 : Int32) (x9 : Int32) (x10 : Int32) (x11 : Int32) (x12 : Int32) (x13 : Int32) (x14 : Int32) (x15 : Int32) (x16 : Int32) (x17 : Int32) (x18 : Int32) (x19 : Int32) (x20 : Int32) (h0 : Heap) (n0 : Nat) (Z0 : n0 ≤ h0.size) (O0 : Old Z n0 h0) (SS : Sta Z Z.heap "java/lang/String" "COMPACT_STRINGS" "Z" (.int cs)) (hcs : ¬ cs = (0 : Int32)) (E1 : Exa Z h0 a1 "java/lang/String") (F1 : Fld Z h0 a1 "java/lang/String" "value" "[B" .null) (F2 : Fld Z h0 a1 "java/lang/String" "coder" "B" (.int (0 : Int32))) (g_a1 : n0 ≤ a1) (V2 : Arv Z h0 a2 k2 .char (21 : Int32) [(.int x0), (.int x1), (.int x2), (.int x3), (.int x4), (.int x5), (.int x6), (.int x7), (.int x8), (.int x9), (.int x10), (.int x11), (.int x12), (.int x13), (.int x14), (.int x15), (.int x16), (.int x17), (.int x18), (.int x19), (.int x20)] (.int (0 : Int32))) (ne12 : a1 ≠ a2) (hx0 : ¬ (255 : Int32) < x0) (hx1 : ¬ (255 : Int32) < x1) (hx2 : ¬ (255 : Int32) < x2) (hx3 : ¬ (255 : Int32) < x3) (hx4 : ¬ (255 : Int32) < x4) (hx5 : ¬ (255 : Int32) < x5) (hx6 : ¬ (255 : Int32) < x6) (hx7 : ¬ (255 : Int32) < x7) (hx8 : ¬ (255 : Int32) < x8) (hx9 : ¬ (255 : Int32) < x9) (hx10 : ¬ (255 : Int32) < x10) (hx11 : ¬ (255 : Int32) < x11) (hx12 : ¬ (255 : Int32) < x12) (hx13 : ¬ (255 : Int32) < x13) (hx14 : ¬ (255 : Int32) < x14) (hx15 : ¬ (255 : Int32) < x15) (hx16 : ¬ (255 : Int32) < x16) (hx17 : ¬ (255 : Int32) < x17) (hx18 : ¬ (255 : Int32) < x18) (hx19 : ¬ (255 : Int32) < x19) (hx20 : ¬ (255 : Int32) < x20) :
    own_Met l Z (⟨"java/lang/String", "<init>", "([CIILjava/lang/Void;)V"⟩ : MethodName) jdk_42_method_149_code 6 none ws ({ frames := 2, cells := 1, slots := 21, locals := 48 } : Room) #[(.ref a1), (.ref a2), (.int (0 : Int32)), (.int (21 : Int32)), .null] h0 (fun v h L => ∃ d k3, v = none ∧ Fr n0 L ∧ Keep h0 h [a1] ∧ h0.size ≤ d ∧ Fld Z h a1 "java/lang/String" "value" "[B" (.ref d) ∧ Fld Z h a1 "java/lang/String" "coder" "B" (.int (0 : Int32)) ∧ Arv Z h d k3 .byte (21 : Int32) [(.int (x0.toInt8.toInt32)), (.int (x1.toInt8.toInt32)), (.int (x2.toInt8.toInt32)), (.int (x3.toInt8.toInt32)), (.int (x4.toInt8.toInt32)), (.int (x5.toInt8.toInt32)), (.int (x6.toInt8.toInt32)), (.int (x7.toInt8.toInt32)), (.int (x8.toInt8.toInt32)), (.int (x9.toInt8.toInt32)), (.int (x10.toInt8.toInt32)), (.int (x11.toInt8.toInt32)), (.int (x12.toInt8.toInt32)), (.int (x13.toInt8.toInt32)), (.int (x14.toInt8.toInt32)), (.int (x15.toInt8.toInt32)), (.int (x16.toInt8.toInt32)), (.int (x17.toInt8.toInt32)), (.int (x18.toInt8.toInt32)), (.int (x19.toInt8.toInt32)), (.int (x20.toInt8.toInt32))] (.int (0 : Int32))) := by
  refine own_enter (plainFor_of_name own_pn1) ?_
  intro p e s m below meth c s₁ X0 hx hZ hby hml hown hnm hret hlk e0
  have N0 := Fr.nil n0
  rw [own_initI_ef m a1 a2]
  have KK0 : Keep h0 h0 [a1] := Keep.refl _ _
  show own_Fin _ _ _ _ _ _ (s₁.setTop (mkF m 0 #[rv a1, rv a2, own_i 0, own_i 21, .val .null, .unset] []))
  refine own_to (fun t k => XS.aloadN X0.here hx rfl (hb hby own_d3_0) rfl rfl k) ?_
  obtain ⟨T95, X95, e95, st95⟩ := initO X0 hx hZ hown (own_W hw 39 rfl) (own_W hw 40 rfl) (own_W hw 41 rfl) e0 (g := (mkF m 1 #[rv a1, rv a2, own_i 0, own_i 21, .val .null, .unset] [(.ref a1)])) rfl (by rw [hml]; rfl) rfl (hb hby own_d3_1) (by decide) (W := 0) (by show 2 * 0 + _ ≤ _; exact Nat.le_of_eq rfl) (by decide)
  refine own_to (fun t k => st95 t k) ?_
  show own_Fin _ _ _ _ _ _ (T95.setTop (mkF m 4 #[rv a1, rv a2, own_i 0, own_i 21, .val .null, .unset] []))
  refine own_to (fun t k => XS.iloadN X95.here hx rfl (hb hby own_d3_4) rfl k) ?_
  refine own_to (fun t k => XS.ifYes X95.here hx rfl (pc0 := 5) (pc' := 27) rfl (hb hby own_d3_5) rfl ((if0 _ _).trans (feq (by decide)).2) (by decide) (by decide) k) ?_
  show own_Fin _ _ _ _ _ _ (T95.setTop (mkF m 27 #[rv a1, rv a2, own_i 0, own_i 21, .val .null, .unset] []))
  obtain ⟨T96, X96, e96, st96⟩ := getS2 X95 hx hZ hown (host := "") (Or.inl (own_W hw 42 rfl)) Via.refl e95 (SS.ext O0.2) (g := (mkF m 27 #[rv a1, rv a2, own_i 0, own_i 21, .val .null, .unset] [])) rfl (hb hby own_d3_27)
  refine own_to (fun t k => st96 t k) ?_
  show own_Fin _ _ _ _ _ _ (T96.setTop (mkF m 30 #[rv a1, rv a2, own_i 0, own_i 21, .val .null, .unset] [(.int cs)]))
  refine own_to (fun t k => XS.ifNo X96.here hx rfl (hb hby own_d3_30) rfl ((if0 _ _).trans (feq hcs).1) k) ?_
  show own_Fin _ _ _ _ _ _ (T96.setTop (mkF m 33 #[rv a1, rv a2, own_i 0, own_i 21, .val .null, .unset] []))
  refine own_to (fun t k => XS.aloadN X96.here hx rfl (hb hby own_d3_33) rfl rfl k) ?_
  show own_Fin _ _ _ _ _ _ (T96.setTop (mkF m 34 #[rv a1, rv a2, own_i 0, own_i 21, .val .null, .unset] [(.ref a2)]))
  refine own_to (fun t k => XS.iloadN X96.here hx rfl (hb hby own_d3_34) rfl k) ?_
  refine own_to (fun t k => XS.iloadN X96.here hx rfl (hb hby own_d3_35) rfl k) ?_
  obtain ⟨_, _, ⟨T97, L97, k97, n97⟩, -, X97, ⟨Lc97, hQ97, l97, y97, z97⟩, st97⟩ := Jvm.LawKit.callS X96 hx (y := (⟨"java/lang/StringUTF16", "compress", "([CII)[B"⟩ : MethodName)) hown (mvT hZ (own_W hw 43 rfl)) (mvT hZ (own_W hw 44 rfl)) (mvT hZ (own_W hw 45 rfl)) (mvT hZ (own_W hw 46 rfl)) (by decide) (own_back (W := 0) (own_cmp l Z a0 hw [] a2 k2 x0 x1 x2 x3 x4 x5 x6 x7 x8 x9 x10 x11 x12 x13 x14 x15 x16 x17 x18 x19 x20 h0 n0 Z0 V2 hx0 hx1 hx2 hx3 hx4 hx5 hx6 hx7 hx8 hx9 hx10 hx11 hx12 hx13 hx14 hx15 hx16 hx17 hx18 hx19 hx20) hZ (own_W hw 46 rfl) (own_W hw 45 rfl) (by decide) (by decide)) (g := (mkF m 36 #[rv a1, rv a2, own_i 0, own_i 21, .val .null, .unset] [(.int (21 : Int32)), (.int (0 : Int32)), (.ref a2)])) rfl (by rw [hml]; rfl) (argsL := [(.ref a2), (.int (0 : Int32)), (.int (21 : Int32))]) (rest := []) (lenOf own_pd2 rfl) rfl (by show 2 * 0 + _ ≤ _; exact Nat.le_of_eq rfl) (hb hby own_d3_36) (fun _ _ => ⟨rfl, e96, (by decide : 0 + 1 ≤ _), (by decide : 0 + 21 ≤ _)⟩)
  dsimp only [Pt.U, Pt.locs, Pt.cells, Pt.slots] at X97 l97 y97 z97 st97 hQ97
  rw [l97, y97, z97] at X97
  obtain ⟨d, k3, rfl, N97q, K97, g_d, szd, V_d⟩ := hQ97
  have N97 := Fr.app N0 N97q
  have ne_a1_d : a1 ≠ d := Nat.ne_of_lt (Nat.lt_of_lt_of_le E1.lt szd)
  have ne_a2_d : a2 ≠ d := Nat.ne_of_lt (Nat.lt_of_lt_of_le V2.lt szd)
  have sz_d : h0.size ≤ d := Nat.le_trans KK0.1 szd
  have O97 := O0.keep K97 all0
  have KK97 : Keep h0 T97.heap [a1] := KK0.trans K97 all0
  have E1_e97 := E1.keep K97
  have F1_e97 := F1.keep K97 nin0
  have F2_e97 := F2.keep K97 nin0
  have V2_e97 := V2.keep K97 nin0
  refine own_to (fun t k => st97 t k) ?_
  show own_Fin _ _ _ _ _ _ (T97.setTop (mkF m 39 #[rv a1, rv a2, own_i 0, own_i 21, .val .null, .unset] [(.ref d)]))
  refine own_to (fun t k => XS.astore X97.here hx rfl (hb hby own_d3_39) rfl rfl (l' := #[rv a1, rv a2, own_i 0, own_i 21, .val .null, rv d]) rfl k) ?_
  show own_Fin _ _ _ _ _ _ (T97.setTop (mkF m 41 #[rv a1, rv a2, own_i 0, own_i 21, .val .null, rv d] []))
  refine own_to (fun t k => XS.aloadN X97.here hx rfl (hb hby own_d3_41) rfl rfl k) ?_
  refine own_to (fun t k => XS.aload X97.here hx rfl (hb hby own_d3_42) rfl rfl k) ?_
  refine own_to (fun t k => XS.iloadN X97.here hx rfl (hb hby own_d3_44) rfl k) ?_
  show own_Fin _ _ _ _ _ _ (T97.setTop (mkF m 45 #[rv a1, rv a2, own_i 0, own_i 21, .val .null, rv d] [(.int (21 : Int32)), (.ref d), (.ref a1)]))
  obtain ⟨_, _, ⟨T98, L98, k98, n98⟩, -, X98, ⟨Lc98, hQ98, l98, y98, z98⟩, st98⟩ := Jvm.LawKit.callS X97 hx (y := (⟨"java/lang/StringUTF16", "coderFromArrayLen", "([BI)B"⟩ : MethodName)) hown (mvT hZ (own_W hw 51 rfl)) (mvT hZ (own_W hw 52 rfl)) (mvT hZ (own_W hw 45 rfl)) (mvT hZ (own_W hw 53 rfl)) (by decide) (own_back (W := 1) (own_cod l Z a0 hw [] d k3 x0 x1 x2 x3 x4 x5 x6 x7 x8 x9 x10 x11 x12 x13 x14 x15 x16 x17 x18 x19 x20 T97.heap n0 (Nat.le_trans Z0 K97.1) V_d) hZ (own_W hw 53 rfl) (own_W hw 45 rfl) (by decide) (by decide)) (g := (mkF m 45 #[rv a1, rv a2, own_i 0, own_i 21, .val .null, rv d] [(.int (21 : Int32)), (.ref d), (.ref a1)])) rfl (by rw [hml]; rfl) (argsL := [(.ref d), (.int (21 : Int32))]) (rest := [(.ref a1)]) (lenOf own_pd3 rfl) rfl (by show 2 * 0 + _ ≤ _; exact Nat.le_of_eq rfl) (hb hby own_d3_45) (fun _ _ => ⟨rfl, rfl, (by decide : 1 + 0 ≤ _), (by decide : 21 + 0 ≤ _)⟩)
  dsimp only [Pt.U, Pt.locs, Pt.cells, Pt.slots] at X98 l98 y98 z98 st98 hQ98
  rw [l98, y98, z98] at X98
  obtain ⟨rfl, N98q, eh98⟩ := hQ98
  have N98 := Fr.app N97 N98q
  refine own_to (fun t k => st98 t k) ?_
  show own_Fin _ _ _ _ _ _ (T98.setTop (mkF m 48 #[rv a1, rv a2, own_i 0, own_i 21, .val .null, rv d] [(.int (0 : Int32)), (.ref a1)]))
  obtain ⟨T99, h99, X99, e99, W99, st99⟩ := putFN X98 hx hZ hown (own_W hw 54 rfl) Via.refl eh98 F2_e97 E1_e97 (Or.inr ⟨(own_W hw 55 rfl), rfl, hnm⟩) (own_W hw 30 rfl) (ty := .byte) (v' := (.int (0 : Int32))) (by decide) rfl rfl (g := (mkF m 48 #[rv a1, rv a2, own_i 0, own_i 21, .val .null, rv d] [(.int (0 : Int32)), (.ref a1)])) rfl rfl (hb hby own_d3_48)
  have Fw99 := F2_e97.same W99
  have N99 := Fr.snoc X99 N98 g_a1
  have O99 := O97.wr W99 g_a1
  have KK99 : Keep h0 h99 [a1] := KK97.wr W99 (Or.inl (List.mem_of_getElem? (i := 0) rfl))
  have E1_e99 := E1_e97.wr W99
  have F1_e99 := F1_e97.other W99 (Or.inr (slot_ne (Or.inr (own_W hw 57 rfl)) (Or.inr (own_W hw 55 rfl)) (by decide) (t := (.array .byte)) (t' := .byte) (by decide) (by decide)))
  have V2_e99 := V2_e97.other W99 (Ne.symm ne12)
  have V_d_e99 := V_d.other W99 (Ne.symm ne_a1_d)
  refine own_to (fun t k => st99 t k) ?_
  show own_Fin _ _ _ _ _ _ (T99.setTop (mkF m 51 #[rv a1, rv a2, own_i 0, own_i 21, .val .null, rv d] []))
  refine own_to (fun t k => XS.aloadN X99.here hx rfl (hb hby own_d3_51) rfl rfl k) ?_
  refine own_to (fun t k => XS.aload X99.here hx rfl (hb hby own_d3_52) rfl rfl k) ?_
  obtain ⟨T100, h100, X100, e100, W100, st100⟩ := putF X99 hx hZ hown (host := "") (Or.inl (own_W hw 56 rfl)) Via.refl e99 F1_e99 E1_e99 (Or.inr ⟨(own_W hw 57 rfl), rfl, hnm⟩) (own_W hw 30 rfl) (ty := (.array .byte)) (by decide) rfl rfl (g := (mkF m 54 #[rv a1, rv a2, own_i 0, own_i 21, .val .null, rv d] [(.ref d), (.ref a1)])) rfl rfl (hb hby own_d3_54)
  have Fw100 := F1_e99.same W100
  have N100 := Fr.snoc X100 N99 g_a1
  have O100 := O99.wr W100 g_a1
  have KK100 : Keep h0 h100 [a1] := KK99.wr W100 (Or.inl (List.mem_of_getElem? (i := 0) rfl))
  have E1_e100 := E1_e99.wr W100
  have Fw99_e100 := Fw99.other W100 (Or.inr (slot_ne (Or.inr (own_W hw 55 rfl)) (Or.inr (own_W hw 57 rfl)) (by decide) (t := .byte) (t' := (.array .byte)) (by decide) (by decide)))
  have V2_e100 := V2_e99.other W100 (Ne.symm ne12)
  have V_d_e100 := V_d_e99.other W100 (Ne.symm ne_a1_d)
  refine own_to (fun t k => st100 t k) ?_
  show own_Fin _ _ _ _ _ _ (T100.setTop (mkF m 57 #[rv a1, rv a2, own_i 0, own_i 21, .val .null, rv d] []))
  refine own_retV X100 hx hlk hret (hb hby own_d3_57) (by decide) (by decide) ?_
  try rw [e100]
  exact ⟨d, k3, rfl, N100, KK100, sz_d, Fw100, Fw99_e100, V_d_e100⟩
theorem own_d2_0 : decode jdk_42_method_3_code 0 = .ok (.aload_n 0, 1) := by decide +kernel
theorem own_d2_1 : decode jdk_42_method_3_code 1 = .ok (.aload_n 1, 1) := by decide +kernel
theorem own_d2_2 : decode jdk_42_method_3_code 2 = .ok (.iconst 0, 1) := by decide +kernel
theorem own_d2_3 : decode jdk_42_method_3_code 3 = .ok (.aload_n 1, 1) := by decide +kernel
theorem own_d2_4 : decode jdk_42_method_3_code 4 = .ok (.arraylength, 1) := by decide +kernel
theorem own_d2_5 : decode jdk_42_method_3_code 5 = .ok (.aconst_null, 1) := by decide +kernel
theorem own_d2_6 : decode jdk_42_method_3_code 6 = .ok (.invokespecial 27, 3) := by decide +kernel
theorem own_d2_9 : decode jdk_42_method_3_code 9 = .ok (.return_, 1) := by decide +kernel
theorem own_pd4 : parseMethodDescriptor "([CIILjava/lang/Void;)V" = some ⟨[(.array .char), .int, .int, (.object "java/lang/Void")], none⟩ := by decide +kernel
theorem own_init_ef (m : MethodId) (a1 : Addr) (a2 : Addr) : entryFrame m #[(.ref a1), (.ref a2)] 2 = mkF m 0 #[rv a1, rv a2] [] := by first | (simp [entryFrame, mkF, argsToLocals, Value.category]; done) | rfl
set_option maxRecDepth 65536 in
set_option maxHeartbeats 40000000 in
theorem own_init (l : Launch) (Z : State) (a0 : Array Value) (hw : ∀ d ∈ tables_1, d.before a0 Z = true) (ws : List Jvm.Cond) (cs : Int32) (a1 : Addr) (a2 : Addr) (k2 : ClassId) (x0 : Int32) (x1 : Int32) (x2 : Int32) (x3 : Int32) (x4 : Int32) (x5 : Int32) (x6 : Int32) (x7 : Int32) (x8 : Int32) (x9 : Int32) (x10 : Int32) (x11 : Int32) (x12 : Int32) (x13 : Int32) (x14 : Int32) (x15 : Int32) (x16 : Int32) (x17 : Int32) (x18 : Int32) (x19 : Int32) (x20 : Int32) (h0 : Heap) (n0 : Nat) (Z0 : n0 ≤ h0.size) (O0 : Old Z n0 h0) (SS : Sta Z Z.heap "java/lang/String" "COMPACT_STRINGS" "Z" (.int cs)) (hcs : ¬ cs = (0 : Int32)) (E1 : Exa Z h0 a1 "java/lang/String") (F1 : Fld Z h0 a1 "java/lang/String" "value" "[B" .null) (F2 : Fld Z h0 a1 "java/lang/String" "coder" "B" (.int (0 : Int32))) (g_a1 : n0 ≤ a1) (V2 : Arv Z h0 a2 k2 .char (21 : Int32) [(.int x0), (.int x1), (.int x2), (.int x3), (.int x4), (.int x5), (.int x6), (.int x7), (.int x8), (.int x9), (.int x10), (.int x11), (.int x12), (.int x13), (.int x14), (.int x15), (.int x16), (.int x17), (.int x18), (.int x19), (.int x20)] (.int (0 : Int32))) (ne12 : a1 ≠ a2) (hx0 : ¬ (255 : Int32) < x0) (hx1 : ¬ (255 : Int32) < x1) (hx2 : ¬ (255 : Int32) < x2) (hx3 : ¬ (255 : Int32) < x3) (hx4 : ¬ (255 : Int32) < x4) (hx5 : ¬ (255 : Int32) < x5) (hx6 : ¬ (255 : Int32) < x6) (hx7 : ¬ (255 : Int32) < x7) (hx8 : ¬ (255 : Int32) < x8) (hx9 : ¬ (255 : Int32) < x9) (hx10 : ¬ (255 : Int32) < x10) (hx11 : ¬ (255 : Int32) < x11) (hx12 : ¬ (255 : Int32) < x12) (hx13 : ¬ (255 : Int32) < x13) (hx14 : ¬ (255 : Int32) < x14) (hx15 : ¬ (255 : Int32) < x15) (hx16 : ¬ (255 : Int32) < x16) (hx17 : ¬ (255 : Int32) < x17) (hx18 : ¬ (255 : Int32) < x18) (hx19 : ¬ (255 : Int32) < x19) (hx20 : ¬ (255 : Int32) < x20) :
    own_Met l Z (⟨"java/lang/String", "<init>", "([C)V"⟩ : MethodName) jdk_42_method_3_code 2 none ws ({ frames := 3, cells := 1, slots := 21, locals := 72 } : Room) #[(.ref a1), (.ref a2)] h0 (fun v h L => ∃ d k3, v = none ∧ Fr n0 L ∧ Keep h0 h [a1] ∧ h0.size ≤ d ∧ Fld Z h a1 "java/lang/String" "value" "[B" (.ref d) ∧ Fld Z h a1 "java/lang/String" "coder" "B" (.int (0 : Int32)) ∧ Arv Z h d k3 .byte (21 : Int32) [(.int (x0.toInt8.toInt32)), (.int (x1.toInt8.toInt32)), (.int (x2.toInt8.toInt32)), (.int (x3.toInt8.toInt32)), (.int (x4.toInt8.toInt32)), (.int (x5.toInt8.toInt32)), (.int (x6.toInt8.toInt32)), (.int (x7.toInt8.toInt32)), (.int (x8.toInt8.toInt32)), (.int (x9.toInt8.toInt32)), (.int (x10.toInt8.toInt32)), (.int (x11.toInt8.toInt32)), (.int (x12.toInt8.toInt32)), (.int (x13.toInt8.toInt32)), (.int (x14.toInt8.toInt32)), (.int (x15.toInt8.toInt32)), (.int (x16.toInt8.toInt32)), (.int (x17.toInt8.toInt32)), (.int (x18.toInt8.toInt32)), (.int (x19.toInt8.toInt32)), (.int (x20.toInt8.toInt32))] (.int (0 : Int32))) := by
  refine own_enter (plainFor_of_name own_pn1) ?_
  intro p e s m below meth c s₁ X0 hx hZ hby hml hown hnm hret hlk e0
  have N0 := Fr.nil n0
  rw [own_init_ef m a1 a2]
  have KK0 : Keep h0 h0 [a1] := Keep.refl _ _
  show own_Fin _ _ _ _ _ _ (s₁.setTop (mkF m 0 #[rv a1, rv a2] []))
  refine own_to (fun t k => XS.aloadN X0.here hx rfl (hb hby own_d2_0) rfl rfl k) ?_
  refine own_to (fun t k => XS.aloadN X0.here hx rfl (hb hby own_d2_1) rfl rfl k) ?_
  refine own_to (fun t k => XS.iconst X0.here hx rfl (hb hby own_d2_2) k) ?_
  show own_Fin _ _ _ _ _ _ (s₁.setTop (mkF m 3 #[rv a1, rv a2] [(.int (0 : Int32)), (.ref a2), (.ref a1)]))
  refine own_to (fun t k => XS.aloadN X0.here hx rfl (hb hby own_d2_3) rfl rfl k) ?_
  obtain ⟨cl101, Ar101, qa101, Sa101, Na101, Ha101, Ga101⟩ := id V2
  refine own_to (fun t k => X0.arraylength hx (by rw [e0]; exact Ar101.1) (State.isArrayOf_alike hZ.alike Ar101.2.1) (g := (mkF m 4 #[rv a1, rv a2] [(.ref a2), (.int (0 : Int32)), (.ref a2), (.ref a1)])) rfl rfl (hb hby own_d2_4) _ k) ?_
  rw [len_of Sa101 Na101]
  show own_Fin _ _ _ _ _ _ (s₁.setTop (mkF m 5 #[rv a1, rv a2] [(.int (21 : Int32)), (.int (0 : Int32)), (.ref a2), (.ref a1)]))
  refine own_to (fun t k => XS.aconstNull X0.here hx rfl (hb hby own_d2_5) k) ?_
  show own_Fin _ _ _ _ _ _ (s₁.setTop (mkF m 6 #[rv a1, rv a2] [.null, (.int (21 : Int32)), (.int (0 : Int32)), (.ref a2), (.ref a1)]))
  obtain ⟨_, _, ⟨T102, L102, k102, n102⟩, -, X102, ⟨Lc102, hQ102, l102, y102, z102⟩, st102⟩ := X0.specialBack hx (y := (⟨"java/lang/String", "<init>", "([CIILjava/lang/Void;)V"⟩ : MethodName)) rfl hown (mvT hZ (own_W hw 35 rfl)) (mvT hZ (own_W hw 36 rfl)) (mvT hZ (own_W hw 38 rfl)) (by decide) (own_back (W := 0) (own_initI l Z a0 hw [] cs a1 a2 k2 x0 x1 x2 x3 x4 x5 x6 x7 x8 x9 x10 x11 x12 x13 x14 x15 x16 x17 x18 x19 x20 h0 n0 Z0 O0 SS hcs E1 F1 F2 g_a1 V2 ne12 hx0 hx1 hx2 hx3 hx4 hx5 hx6 hx7 hx8 hx9 hx10 hx11 hx12 hx13 hx14 hx15 hx16 hx17 hx18 hx19 hx20) hZ (own_W hw 38 rfl) (own_W hw 31 rfl) (by decide) (by decide)) (g := (mkF m 6 #[rv a1, rv a2] [.null, (.int (21 : Int32)), (.int (0 : Int32)), (.ref a2), (.ref a1)])) rfl (by rw [hml]; rfl) (Steps.refl _) (a := a1) (argsL := [(.ref a2), (.int (0 : Int32)), (.int (21 : Int32)), .null]) (rest := []) (lenOf own_pd4 rfl) rfl (by show 2 * 0 + _ ≤ _; exact Nat.le_of_eq rfl) (hb hby own_d2_6) (fun _ _ => ⟨rfl, e0, (by decide : 0 + 1 ≤ _), (by decide : 0 + 21 ≤ _)⟩)
  dsimp only [Pt.U, Pt.locs, Pt.cells, Pt.slots] at X102 l102 y102 z102 st102 hQ102
  rw [l102, y102, z102] at X102
  obtain ⟨d, k3, rfl, N102q, K102, sz_d, Fw1, Fw2, V_d⟩ := hQ102
  have N102 := Fr.app N0 N102q
  have O102 := O0.keep K102 (allS g_a1 all0)
  have KK102 : Keep h0 T102.heap [a1] := KK0.trans K102 (allS (Or.inl (List.mem_of_getElem? (i := 0) rfl)) all0)
  have E1_e102 := E1.keep K102
  have V2_e102 := V2.keep K102 (ninS (Ne.symm ne12) nin0)
  refine own_to (fun t k => st102.trans k) ?_
  show own_Fin _ _ _ _ _ _ (T102.setTop (mkF m 9 #[rv a1, rv a2] []))
  refine own_retV X102 hx hlk hret (hb hby own_d2_9) (by decide) (by decide) ?_
  exact ⟨d, k3, rfl, N102, KK102, sz_d, Fw1, Fw2, V_d⟩
theorem own_d12_0 : decode jdk_43_method_49_code 0 = .ok (.iconst 0, 1) := by decide +kernel
theorem own_d12_1 : decode jdk_43_method_49_code 1 = .ok (.istore 5, 2) := by decide +kernel
theorem own_d12_3 : decode jdk_43_method_49_code 3 = .ok (.iload 5, 2) := by decide +kernel
theorem own_d12_5 : decode jdk_43_method_49_code 5 = .ok (.iload 4, 2) := by decide +kernel
theorem own_d12_7 : decode jdk_43_method_49_code 7 = .ok (.if_icmp .ge 26, 3) := by decide +kernel
theorem own_d12_10 : decode jdk_43_method_49_code 10 = .ok (.aload_n 2, 1) := by decide +kernel
theorem own_d12_11 : decode jdk_43_method_49_code 11 = .ok (.iload_n 3, 1) := by decide +kernel
theorem own_d12_12 : decode jdk_43_method_49_code 12 = .ok (.iinc 3 1, 3) := by decide +kernel
theorem own_d12_15 : decode jdk_43_method_49_code 15 = .ok (.aload_n 0, 1) := by decide +kernel
theorem own_d12_16 : decode jdk_43_method_49_code 16 = .ok (.iload_n 1, 1) := by decide +kernel
theorem own_d12_17 : decode jdk_43_method_49_code 17 = .ok (.iinc 1 1, 3) := by decide +kernel
theorem own_d12_20 : decode jdk_43_method_49_code 20 = .ok (.baload, 1) := by decide +kernel
theorem own_d12_21 : decode jdk_43_method_49_code 21 = .ok (.sipush 255, 3) := by decide +kernel
theorem own_d12_24 : decode jdk_43_method_49_code 24 = .ok (.iand, 1) := by decide +kernel
theorem own_d12_25 : decode jdk_43_method_49_code 25 = .ok (.i2c, 1) := by decide +kernel
theorem own_d12_26 : decode jdk_43_method_49_code 26 = .ok (.castore, 1) := by decide +kernel
theorem own_d12_27 : decode jdk_43_method_49_code 27 = .ok (.iinc 5 1, 3) := by decide +kernel
theorem own_d12_30 : decode jdk_43_method_49_code 30 = .ok (.goto (-27), 3) := by decide +kernel
theorem own_d12_33 : decode jdk_43_method_49_code 33 = .ok (.return_, 1) := by decide +kernel
theorem own_pn2 : plainName "java/lang/StringLatin1" = true := by first | (simp [plainName, overriddenIn]; done) | decide +kernel
theorem own_infl_ef (m : MethodId) (a2 : Addr) (a3 : Addr) : entryFrame m #[(.ref a2), (.int (0 : Int32)), (.ref a3), (.int (0 : Int32)), (.int (21 : Int32))] 6 = mkF m 0 #[rv a2, own_i 0, rv a3, own_i 0, own_i 21, .unset] [] := by first | (simp [entryFrame, mkF, argsToLocals, Value.category]; done) | rfl
set_option maxRecDepth 65536 in
set_option maxHeartbeats 40000000 in
theorem own_infl (l : Launch) (Z : State) (a0 : Array Value) (hw : ∀ d ∈ tables_1, d.before a0 Z = true) (ws : List Jvm.Cond) (a2 : Addr) (a3 : Addr) (k3 : ClassId) (k2 : ClassId) (x0 : Int32) (x1 : Int32) (x2 : Int32) (x3 : Int32) (x4 : Int32) (x5 : Int32) (x6 : Int32) (x7 : Int32) (x8 : Int32) (x9 : Int32) (x10 : Int32) (x11 : Int32) (x12 : Int32) (x13 : Int32) (x14 : Int32) (x15 : Int32) (x16 : Int32) (x17 : Int32) (x18 : Int32) (x19 : Int32) (x20 : Int32) (h0 : Heap) (n0 : Nat) (Z0 : n0 ≤ h0.size) (V2 : Arv Z h0 a2 k3 .byte (21 : Int32) [(.int (x0.toInt8.toInt32)), (.int (x1.toInt8.toInt32)), (.int (x2.toInt8.toInt32)), (.int (x3.toInt8.toInt32)), (.int (x4.toInt8.toInt32)), (.int (x5.toInt8.toInt32)), (.int (x6.toInt8.toInt32)), (.int (x7.toInt8.toInt32)), (.int (x8.toInt8.toInt32)), (.int (x9.toInt8.toInt32)), (.int (x10.toInt8.toInt32)), (.int (x11.toInt8.toInt32)), (.int (x12.toInt8.toInt32)), (.int (x13.toInt8.toInt32)), (.int (x14.toInt8.toInt32)), (.int (x15.toInt8.toInt32)), (.int (x16.toInt8.toInt32)), (.int (x17.toInt8.toInt32)), (.int (x18.toInt8.toInt32)), (.int (x19.toInt8.toInt32)), (.int (x20.toInt8.toInt32))] (.int (0 : Int32))) (V3 : Arv Z h0 a3 k2 .char (21 : Int32) [(.int (0 : Int32)), (.int (0 : Int32)), (.int (0 : Int32)), (.int (0 : Int32)), (.int (0 : Int32)), (.int (0 : Int32)), (.int (0 : Int32)), (.int (0 : Int32)), (.int (0 : Int32)), (.int (0 : Int32)), (.int (0 : Int32)), (.int (0 : Int32)), (.int (0 : Int32)), (.int (0 : Int32)), (.int (0 : Int32)), (.int (0 : Int32)), (.int (0 : Int32)), (.int (0 : Int32)), (.int (0 : Int32)), (.int (0 : Int32)), (.int (0 : Int32))] (.int (0 : Int32))) (g_a3 : n0 ≤ a3) (ne23 : a2 ≠ a3) (hx0 : ¬ (255 : Int32) < x0) (hx1 : ¬ (255 : Int32) < x1) (hx2 : ¬ (255 : Int32) < x2) (hx3 : ¬ (255 : Int32) < x3) (hx4 : ¬ (255 : Int32) < x4) (hx5 : ¬ (255 : Int32) < x5) (hx6 : ¬ (255 : Int32) < x6) (hx7 : ¬ (255 : Int32) < x7) (hx8 : ¬ (255 : Int32) < x8) (hx9 : ¬ (255 : Int32) < x9) (hx10 : ¬ (255 : Int32) < x10) (hx11 : ¬ (255 : Int32) < x11) (hx12 : ¬ (255 : Int32) < x12) (hx13 : ¬ (255 : Int32) < x13) (hx14 : ¬ (255 : Int32) < x14) (hx15 : ¬ (255 : Int32) < x15) (hx16 : ¬ (255 : Int32) < x16) (hx17 : ¬ (255 : Int32) < x17) (hx18 : ¬ (255 : Int32) < x18) (hx19 : ¬ (255 : Int32) < x19) (hx20 : ¬ (255 : Int32) < x20) (hl0 : ¬ x0 < 0) (hl1 : ¬ x1 < 0) (hl2 : ¬ x2 < 0) (hl3 : ¬ x3 < 0) (hl4 : ¬ x4 < 0) (hl5 : ¬ x5 < 0) (hl6 : ¬ x6 < 0) (hl7 : ¬ x7 < 0) (hl8 : ¬ x8 < 0) (hl9 : ¬ x9 < 0) (hl10 : ¬ x10 < 0) (hl11 : ¬ x11 < 0) (hl12 : ¬ x12 < 0) (hl13 : ¬ x13 < 0) (hl14 : ¬ x14 < 0) (hl15 : ¬ x15 < 0) (hl16 : ¬ x16 < 0) (hl17 : ¬ x17 < 0) (hl18 : ¬ x18 < 0) (hl19 : ¬ x19 < 0) (hl20 : ¬ x20 < 0) :
    own_Met l Z (⟨"java/lang/StringLatin1", "inflate", "([BI[CII)V"⟩ : MethodName) jdk_43_method_49_code 6 none ws ({ frames := 0, cells := 0, slots := 0, locals := 0 } : Room) #[(.ref a2), (.int (0 : Int32)), (.ref a3), (.int (0 : Int32)), (.int (21 : Int32))] h0 (fun v h L => v = none ∧ Fr n0 L ∧ Keep h0 h [a3] ∧ Arv Z h a3 k2 .char (21 : Int32) [(.int x0), (.int x1), (.int x2), (.int x3), (.int x4), (.int x5), (.int x6), (.int x7), (.int x8), (.int x9), (.int x10), (.int x11), (.int x12), (.int x13), (.int x14), (.int x15), (.int x16), (.int x17), (.int x18), (.int x19), (.int x20)] (.int (0 : Int32))) := by
  refine own_enter (plainFor_of_name own_pn2) ?_
  intro p e s m below meth c s₁ X0 hx hZ hby hml hown hnm hret hlk e0
  have N0 := Fr.nil n0
  rw [own_infl_ef m a2 a3]
  have KK0 : Keep h0 h0 [a3] := Keep.refl _ _
  show own_Fin _ _ _ _ _ _ (s₁.setTop (mkF m 0 #[rv a2, own_i 0, rv a3, own_i 0, own_i 21, .unset] []))
  refine own_to (fun t k => XS.iconst X0.here hx rfl (hb hby own_d12_0) k) ?_
  refine own_to (fun t k => XS.istore X0.here hx rfl (hb hby own_d12_1) rfl (l' := #[rv a2, own_i 0, rv a3, own_i 0, own_i 21, own_i 0]) rfl k) ?_
  show own_Fin _ _ _ _ _ _ (s₁.setTop (mkF m 3 #[rv a2, own_i 0, rv a3, own_i 0, own_i 21, own_i 0] []))
  refine own_to (fun t k => XS.iload X0.here hx rfl (hb hby own_d12_3) rfl k) ?_
  refine own_to (fun t k => XS.iload X0.here hx rfl (hb hby own_d12_5) rfl k) ?_
  refine own_to (fun t k => XS.icmpNo X0.here hx rfl (hb hby own_d12_7) rfl (tlt (by decide)).2.1 k) ?_
  show own_Fin _ _ _ _ _ _ (s₁.setTop (mkF m 10 #[rv a2, own_i 0, rv a3, own_i 0, own_i 21, own_i 0] []))
  refine own_to (fun t k => XS.aloadN X0.here hx rfl (hb hby own_d12_10) rfl rfl k) ?_
  show own_Fin _ _ _ _ _ _ (s₁.setTop (mkF m 11 #[rv a2, own_i 0, rv a3, own_i 0, own_i 21, own_i 0] [(.ref a3)]))
  refine own_to (fun t k => XS.iloadN X0.here hx rfl (hb hby own_d12_11) rfl k) ?_
  refine own_to (fun t k => XS.iinc X0.here hx rfl (hb hby own_d12_12) rfl (l' := #[rv a2, own_i 0, rv a3, own_i 1, own_i 21, own_i 0]) rfl k) ?_
  show own_Fin _ _ _ _ _ _ (s₁.setTop (mkF m 15 #[rv a2, own_i 0, rv a3, own_i 1, own_i 21, own_i 0] [(.int (0 : Int32)), (.ref a3)]))
  refine own_to (fun t k => XS.aloadN X0.here hx rfl (hb hby own_d12_15) rfl rfl k) ?_
  refine own_to (fun t k => XS.iloadN X0.here hx rfl (hb hby own_d12_16) rfl k) ?_
  refine own_to (fun t k => XS.iinc X0.here hx rfl (hb hby own_d12_17) rfl (l' := #[rv a2, own_i 1, rv a3, own_i 1, own_i 21, own_i 0]) rfl k) ?_
  show own_Fin _ _ _ _ _ _ (s₁.setTop (mkF m 20 #[rv a2, own_i 1, rv a3, own_i 1, own_i 21, own_i 0] [(.int (0 : Int32)), (.ref a2), (.int (0 : Int32)), (.ref a3)]))
  obtain ⟨cl103, Ar103, qa103, Sa103, Na103, Ha103, Ga103⟩ := id V2
  have hin104 : ¬ ((0 : Int32) < 0 ∨ cl103.slots.size ≤ ((0 : Int32)).toNatClampNeg) := inb_of Sa103 ⟨by decide, by decide⟩
  refine own_to (fun t k => X0.baloadBytes hx (j := (0 : Int32)) (v := (.int (x0.toInt8.toInt32))) (by rw [e0]; exact Ar103.1) (State.isArrayOf_alike hZ.alike Ar103.2.1) Ar103.2.2 hin104 (Has.at Ha103 hin104 rfl) (g := (mkF m 20 #[rv a2, own_i 1, rv a3, own_i 1, own_i 21, own_i 0] [(.int (0 : Int32)), (.ref a2), (.int (0 : Int32)), (.ref a3)])) rfl rfl (hb hby own_d12_20) _ k) ?_
  show own_Fin _ _ _ _ _ _ (s₁.setTop (mkF m 21 #[rv a2, own_i 1, rv a3, own_i 1, own_i 21, own_i 0] [(.int (x0.toInt8.toInt32)), (.int (0 : Int32)), (.ref a3)]))
  refine own_to (fun t k => XS.sipush X0.here hx rfl (hb hby own_d12_21) k) ?_
  refine own_to (fun t k => XS.iand X0.here hx rfl (hb hby own_d12_24) rfl k) ?_
  show own_Fin _ _ _ _ _ _ (s₁.setTop (mkF m 25 #[rv a2, own_i 1, rv a3, own_i 1, own_i 21, own_i 0] [(.int ((x0.toInt8.toInt32) &&& (255 : Int32))), (.int (0 : Int32)), (.ref a3)]))
  refine own_to (fun t k => XS.i2c X0.here hx rfl (hb hby own_d12_25) rfl k) ?_
  show own_Fin _ _ _ _ _ _ (s₁.setTop (mkF m 26 #[rv a2, own_i 1, rv a3, own_i 1, own_i 21, own_i 0] [(.int (((x0.toInt8.toInt32) &&& (255 : Int32)).toUInt32.toUInt16.toUInt32.toInt32)), (.int (0 : Int32)), (.ref a3)]))
  obtain ⟨cl105, Ar105, qa105, Sa105, Na105, Ha105, Ga105⟩ := id V3
  have hin106 : ¬ ((0 : Int32) < 0 ∨ cl105.slots.size ≤ ((0 : Int32)).toNatClampNeg) := inb_of Sa105 ⟨by decide, by decide⟩
  obtain ⟨T106, h106, X106, e106, W106, st106⟩ := stC X0 hx hZ e0 Ar105 (j := (0 : Int32)) hin106 (g := (mkF m 26 #[rv a2, own_i 1, rv a3, own_i 1, own_i 21, own_i 0] [(.int (((x0.toInt8.toInt32) &&& (255 : Int32)).toUInt32.toUInt16.toUInt32.toInt32)), (.int (0 : Int32)), (.ref a3)])) rfl rfl (hb hby own_d12_26)
  rw [own_inf hl0 hx0] at W106
  have N106 := Fr.snoc X106 N0 g_a3
  have KK106 : Keep h0 h106 [a3] := KK0.wr W106 (Or.inl (List.mem_of_getElem? (i := 0) rfl))
  have V2_e106 := V2.other W106 ne23
  have V106 : Arv Z h106 a3 k2 .char (21 : Int32) [(.int x0), (.int (0 : Int32)), (.int (0 : Int32)), (.int (0 : Int32)), (.int (0 : Int32)), (.int (0 : Int32)), (.int (0 : Int32)), (.int (0 : Int32)), (.int (0 : Int32)), (.int (0 : Int32)), (.int (0 : Int32)), (.int (0 : Int32)), (.int (0 : Int32)), (.int (0 : Int32)), (.int (0 : Int32)), (.int (0 : Int32)), (.int (0 : Int32)), (.int (0 : Int32)), (.int (0 : Int32)), (.int (0 : Int32)), (.int (0 : Int32))] (.int (0 : Int32)) := Arv.set Ar105 qa105 Sa105 Na105 Ha105 Ga105 (own_fx hl0 hx0) W106 0 rfl (Nat.le_of_ble_eq_true rfl)
  refine own_to (fun t k => st106 t k) ?_
  show own_Fin _ _ _ _ _ _ (T106.setTop (mkF m 27 #[rv a2, own_i 1, rv a3, own_i 1, own_i 21, own_i 0] []))
  refine own_to (fun t k => XS.iinc X106.here hx rfl (hb hby own_d12_27) rfl (l' := #[rv a2, own_i 1, rv a3, own_i 1, own_i 21, own_i 1]) rfl k) ?_
  show own_Fin _ _ _ _ _ _ (T106.setTop (mkF m 30 #[rv a2, own_i 1, rv a3, own_i 1, own_i 21, own_i 1] []))
  refine own_to (fun t k => XS.goto X106.here hx rfl (pc0 := 30) (pc' := 3) rfl (hb hby own_d12_30) (by decide) (by decide) k) ?_
  show own_Fin _ _ _ _ _ _ (T106.setTop (mkF m 3 #[rv a2, own_i 1, rv a3, own_i 1, own_i 21, own_i 1] []))
  refine own_to (fun t k => XS.iload X106.here hx rfl (hb hby own_d12_3) rfl k) ?_
  refine own_to (fun t k => XS.iload X106.here hx rfl (hb hby own_d12_5) rfl k) ?_
  refine own_to (fun t k => XS.icmpNo X106.here hx rfl (hb hby own_d12_7) rfl (tlt (by decide)).2.1 k) ?_
  show own_Fin _ _ _ _ _ _ (T106.setTop (mkF m 10 #[rv a2, own_i 1, rv a3, own_i 1, own_i 21, own_i 1] []))
  refine own_to (fun t k => XS.aloadN X106.here hx rfl (hb hby own_d12_10) rfl rfl k) ?_
  show own_Fin _ _ _ _ _ _ (T106.setTop (mkF m 11 #[rv a2, own_i 1, rv a3, own_i 1, own_i 21, own_i 1] [(.ref a3)]))
  refine own_to (fun t k => XS.iloadN X106.here hx rfl (hb hby own_d12_11) rfl k) ?_
  refine own_to (fun t k => XS.iinc X106.here hx rfl (hb hby own_d12_12) rfl (l' := #[rv a2, own_i 1, rv a3, own_i 2, own_i 21, own_i 1]) rfl k) ?_
  show own_Fin _ _ _ _ _ _ (T106.setTop (mkF m 15 #[rv a2, own_i 1, rv a3, own_i 2, own_i 21, own_i 1] [(.int (1 : Int32)), (.ref a3)]))
  refine own_to (fun t k => XS.aloadN X106.here hx rfl (hb hby own_d12_15) rfl rfl k) ?_
  refine own_to (fun t k => XS.iloadN X106.here hx rfl (hb hby own_d12_16) rfl k) ?_
  refine own_to (fun t k => XS.iinc X106.here hx rfl (hb hby own_d12_17) rfl (l' := #[rv a2, own_i 2, rv a3, own_i 2, own_i 21, own_i 1]) rfl k) ?_
  show own_Fin _ _ _ _ _ _ (T106.setTop (mkF m 20 #[rv a2, own_i 2, rv a3, own_i 2, own_i 21, own_i 1] [(.int (1 : Int32)), (.ref a2), (.int (1 : Int32)), (.ref a3)]))
  obtain ⟨cl107, Ar107, qa107, Sa107, Na107, Ha107, Ga107⟩ := id V2_e106
  have hin108 : ¬ ((1 : Int32) < 0 ∨ cl107.slots.size ≤ ((1 : Int32)).toNatClampNeg) := inb_of Sa107 ⟨by decide, by decide⟩
  refine own_to (fun t k => X106.baloadBytes hx (j := (1 : Int32)) (v := (.int (x1.toInt8.toInt32))) (by rw [e106]; exact Ar107.1) (State.isArrayOf_alike hZ.alike Ar107.2.1) Ar107.2.2 hin108 (Has.at Ha107 hin108 rfl) (g := (mkF m 20 #[rv a2, own_i 2, rv a3, own_i 2, own_i 21, own_i 1] [(.int (1 : Int32)), (.ref a2), (.int (1 : Int32)), (.ref a3)])) rfl rfl (hb hby own_d12_20) _ k) ?_
  show own_Fin _ _ _ _ _ _ (T106.setTop (mkF m 21 #[rv a2, own_i 2, rv a3, own_i 2, own_i 21, own_i 1] [(.int (x1.toInt8.toInt32)), (.int (1 : Int32)), (.ref a3)]))
  refine own_to (fun t k => XS.sipush X106.here hx rfl (hb hby own_d12_21) k) ?_
  refine own_to (fun t k => XS.iand X106.here hx rfl (hb hby own_d12_24) rfl k) ?_
  show own_Fin _ _ _ _ _ _ (T106.setTop (mkF m 25 #[rv a2, own_i 2, rv a3, own_i 2, own_i 21, own_i 1] [(.int ((x1.toInt8.toInt32) &&& (255 : Int32))), (.int (1 : Int32)), (.ref a3)]))
  refine own_to (fun t k => XS.i2c X106.here hx rfl (hb hby own_d12_25) rfl k) ?_
  show own_Fin _ _ _ _ _ _ (T106.setTop (mkF m 26 #[rv a2, own_i 2, rv a3, own_i 2, own_i 21, own_i 1] [(.int (((x1.toInt8.toInt32) &&& (255 : Int32)).toUInt32.toUInt16.toUInt32.toInt32)), (.int (1 : Int32)), (.ref a3)]))
  obtain ⟨cl109, Ar109, qa109, Sa109, Na109, Ha109, Ga109⟩ := id V106
  have hin110 : ¬ ((1 : Int32) < 0 ∨ cl109.slots.size ≤ ((1 : Int32)).toNatClampNeg) := inb_of Sa109 ⟨by decide, by decide⟩
  obtain ⟨T110, h110, X110, e110, W110, st110⟩ := stC X106 hx hZ e106 Ar109 (j := (1 : Int32)) hin110 (g := (mkF m 26 #[rv a2, own_i 2, rv a3, own_i 2, own_i 21, own_i 1] [(.int (((x1.toInt8.toInt32) &&& (255 : Int32)).toUInt32.toUInt16.toUInt32.toInt32)), (.int (1 : Int32)), (.ref a3)])) rfl rfl (hb hby own_d12_26)
  rw [own_inf hl1 hx1] at W110
  have N110 := Fr.snoc X110 N106 g_a3
  have KK110 : Keep h0 h110 [a3] := KK106.wr W110 (Or.inl (List.mem_of_getElem? (i := 0) rfl))
  have V2_e110 := V2_e106.other W110 ne23
  have V110 : Arv Z h110 a3 k2 .char (21 : Int32) [(.int x0), (.int x1), (.int (0 : Int32)), (.int (0 : Int32)), (.int (0 : Int32)), (.int (0 : Int32)), (.int (0 : Int32)), (.int (0 : Int32)), (.int (0 : Int32)), (.int (0 : Int32)), (.int (0 : Int32)), (.int (0 : Int32)), (.int (0 : Int32)), (.int (0 : Int32)), (.int (0 : Int32)), (.int (0 : Int32)), (.int (0 : Int32)), (.int (0 : Int32)), (.int (0 : Int32)), (.int (0 : Int32)), (.int (0 : Int32))] (.int (0 : Int32)) := Arv.set Ar109 qa109 Sa109 Na109 Ha109 Ga109 (own_fx hl1 hx1) W110 1 rfl (Nat.le_of_ble_eq_true rfl)
  refine own_to (fun t k => st110 t k) ?_
  show own_Fin _ _ _ _ _ _ (T110.setTop (mkF m 27 #[rv a2, own_i 2, rv a3, own_i 2, own_i 21, own_i 1] []))
  refine own_to (fun t k => XS.iinc X110.here hx rfl (hb hby own_d12_27) rfl (l' := #[rv a2, own_i 2, rv a3, own_i 2, own_i 21, own_i 2]) rfl k) ?_
  show own_Fin _ _ _ _ _ _ (T110.setTop (mkF m 30 #[rv a2, own_i 2, rv a3, own_i 2, own_i 21, own_i 2] []))
  refine own_to (fun t k => XS.goto X110.here hx rfl (pc0 := 30) (pc' := 3) rfl (hb hby own_d12_30) (by decide) (by decide) k) ?_
  show own_Fin _ _ _ _ _ _ (T110.setTop (mkF m 3 #[rv a2, own_i 2, rv a3, own_i 2, own_i 21, own_i 2] []))
  refine own_to (fun t k => XS.iload X110.here hx rfl (hb hby own_d12_3) rfl k) ?_
  refine own_to (fun t k => XS.iload X110.here hx rfl (hb hby own_d12_5) rfl k) ?_
  refine own_to (fun t k => XS.icmpNo X110.here hx rfl (hb hby own_d12_7) rfl (tlt (by decide)).2.1 k) ?_
  show own_Fin _ _ _ _ _ _ (T110.setTop (mkF m 10 #[rv a2, own_i 2, rv a3, own_i 2, own_i 21, own_i 2] []))
  refine own_to (fun t k => XS.aloadN X110.here hx rfl (hb hby own_d12_10) rfl rfl k) ?_
  show own_Fin _ _ _ _ _ _ (T110.setTop (mkF m 11 #[rv a2, own_i 2, rv a3, own_i 2, own_i 21, own_i 2] [(.ref a3)]))
  refine own_to (fun t k => XS.iloadN X110.here hx rfl (hb hby own_d12_11) rfl k) ?_
  refine own_to (fun t k => XS.iinc X110.here hx rfl (hb hby own_d12_12) rfl (l' := #[rv a2, own_i 2, rv a3, own_i 3, own_i 21, own_i 2]) rfl k) ?_
  show own_Fin _ _ _ _ _ _ (T110.setTop (mkF m 15 #[rv a2, own_i 2, rv a3, own_i 3, own_i 21, own_i 2] [(.int (2 : Int32)), (.ref a3)]))
  refine own_to (fun t k => XS.aloadN X110.here hx rfl (hb hby own_d12_15) rfl rfl k) ?_
  refine own_to (fun t k => XS.iloadN X110.here hx rfl (hb hby own_d12_16) rfl k) ?_
  refine own_to (fun t k => XS.iinc X110.here hx rfl (hb hby own_d12_17) rfl (l' := #[rv a2, own_i 3, rv a3, own_i 3, own_i 21, own_i 2]) rfl k) ?_
  show own_Fin _ _ _ _ _ _ (T110.setTop (mkF m 20 #[rv a2, own_i 3, rv a3, own_i 3, own_i 21, own_i 2] [(.int (2 : Int32)), (.ref a2), (.int (2 : Int32)), (.ref a3)]))
  obtain ⟨cl111, Ar111, qa111, Sa111, Na111, Ha111, Ga111⟩ := id V2_e110
  have hin112 : ¬ ((2 : Int32) < 0 ∨ cl111.slots.size ≤ ((2 : Int32)).toNatClampNeg) := inb_of Sa111 ⟨by decide, by decide⟩
  refine own_to (fun t k => X110.baloadBytes hx (j := (2 : Int32)) (v := (.int (x2.toInt8.toInt32))) (by rw [e110]; exact Ar111.1) (State.isArrayOf_alike hZ.alike Ar111.2.1) Ar111.2.2 hin112 (Has.at Ha111 hin112 rfl) (g := (mkF m 20 #[rv a2, own_i 3, rv a3, own_i 3, own_i 21, own_i 2] [(.int (2 : Int32)), (.ref a2), (.int (2 : Int32)), (.ref a3)])) rfl rfl (hb hby own_d12_20) _ k) ?_
  show own_Fin _ _ _ _ _ _ (T110.setTop (mkF m 21 #[rv a2, own_i 3, rv a3, own_i 3, own_i 21, own_i 2] [(.int (x2.toInt8.toInt32)), (.int (2 : Int32)), (.ref a3)]))
  refine own_to (fun t k => XS.sipush X110.here hx rfl (hb hby own_d12_21) k) ?_
  refine own_to (fun t k => XS.iand X110.here hx rfl (hb hby own_d12_24) rfl k) ?_
  show own_Fin _ _ _ _ _ _ (T110.setTop (mkF m 25 #[rv a2, own_i 3, rv a3, own_i 3, own_i 21, own_i 2] [(.int ((x2.toInt8.toInt32) &&& (255 : Int32))), (.int (2 : Int32)), (.ref a3)]))
  refine own_to (fun t k => XS.i2c X110.here hx rfl (hb hby own_d12_25) rfl k) ?_
  show own_Fin _ _ _ _ _ _ (T110.setTop (mkF m 26 #[rv a2, own_i 3, rv a3, own_i 3, own_i 21, own_i 2] [(.int (((x2.toInt8.toInt32) &&& (255 : Int32)).toUInt32.toUInt16.toUInt32.toInt32)), (.int (2 : Int32)), (.ref a3)]))
  obtain ⟨cl113, Ar113, qa113, Sa113, Na113, Ha113, Ga113⟩ := id V110
  have hin114 : ¬ ((2 : Int32) < 0 ∨ cl113.slots.size ≤ ((2 : Int32)).toNatClampNeg) := inb_of Sa113 ⟨by decide, by decide⟩
  obtain ⟨T114, h114, X114, e114, W114, st114⟩ := stC X110 hx hZ e110 Ar113 (j := (2 : Int32)) hin114 (g := (mkF m 26 #[rv a2, own_i 3, rv a3, own_i 3, own_i 21, own_i 2] [(.int (((x2.toInt8.toInt32) &&& (255 : Int32)).toUInt32.toUInt16.toUInt32.toInt32)), (.int (2 : Int32)), (.ref a3)])) rfl rfl (hb hby own_d12_26)
  rw [own_inf hl2 hx2] at W114
  have N114 := Fr.snoc X114 N110 g_a3
  have KK114 : Keep h0 h114 [a3] := KK110.wr W114 (Or.inl (List.mem_of_getElem? (i := 0) rfl))
  have V2_e114 := V2_e110.other W114 ne23
  have V114 : Arv Z h114 a3 k2 .char (21 : Int32) [(.int x0), (.int x1), (.int x2), (.int (0 : Int32)), (.int (0 : Int32)), (.int (0 : Int32)), (.int (0 : Int32)), (.int (0 : Int32)), (.int (0 : Int32)), (.int (0 : Int32)), (.int (0 : Int32)), (.int (0 : Int32)), (.int (0 : Int32)), (.int (0 : Int32)), (.int (0 : Int32)), (.int (0 : Int32)), (.int (0 : Int32)), (.int (0 : Int32)), (.int (0 : Int32)), (.int (0 : Int32)), (.int (0 : Int32))] (.int (0 : Int32)) := Arv.set Ar113 qa113 Sa113 Na113 Ha113 Ga113 (own_fx hl2 hx2) W114 2 rfl (Nat.le_of_ble_eq_true rfl)
  refine own_to (fun t k => st114 t k) ?_
  show own_Fin _ _ _ _ _ _ (T114.setTop (mkF m 27 #[rv a2, own_i 3, rv a3, own_i 3, own_i 21, own_i 2] []))
  refine own_to (fun t k => XS.iinc X114.here hx rfl (hb hby own_d12_27) rfl (l' := #[rv a2, own_i 3, rv a3, own_i 3, own_i 21, own_i 3]) rfl k) ?_
  show own_Fin _ _ _ _ _ _ (T114.setTop (mkF m 30 #[rv a2, own_i 3, rv a3, own_i 3, own_i 21, own_i 3] []))
  refine own_to (fun t k => XS.goto X114.here hx rfl (pc0 := 30) (pc' := 3) rfl (hb hby own_d12_30) (by decide) (by decide) k) ?_
  show own_Fin _ _ _ _ _ _ (T114.setTop (mkF m 3 #[rv a2, own_i 3, rv a3, own_i 3, own_i 21, own_i 3] []))
  refine own_to (fun t k => XS.iload X114.here hx rfl (hb hby own_d12_3) rfl k) ?_
  refine own_to (fun t k => XS.iload X114.here hx rfl (hb hby own_d12_5) rfl k) ?_
  refine own_to (fun t k => XS.icmpNo X114.here hx rfl (hb hby own_d12_7) rfl (tlt (by decide)).2.1 k) ?_
  show own_Fin _ _ _ _ _ _ (T114.setTop (mkF m 10 #[rv a2, own_i 3, rv a3, own_i 3, own_i 21, own_i 3] []))
  refine own_to (fun t k => XS.aloadN X114.here hx rfl (hb hby own_d12_10) rfl rfl k) ?_
  show own_Fin _ _ _ _ _ _ (T114.setTop (mkF m 11 #[rv a2, own_i 3, rv a3, own_i 3, own_i 21, own_i 3] [(.ref a3)]))
  refine own_to (fun t k => XS.iloadN X114.here hx rfl (hb hby own_d12_11) rfl k) ?_
  refine own_to (fun t k => XS.iinc X114.here hx rfl (hb hby own_d12_12) rfl (l' := #[rv a2, own_i 3, rv a3, own_i 4, own_i 21, own_i 3]) rfl k) ?_
  show own_Fin _ _ _ _ _ _ (T114.setTop (mkF m 15 #[rv a2, own_i 3, rv a3, own_i 4, own_i 21, own_i 3] [(.int (3 : Int32)), (.ref a3)]))
  refine own_to (fun t k => XS.aloadN X114.here hx rfl (hb hby own_d12_15) rfl rfl k) ?_
  refine own_to (fun t k => XS.iloadN X114.here hx rfl (hb hby own_d12_16) rfl k) ?_
  refine own_to (fun t k => XS.iinc X114.here hx rfl (hb hby own_d12_17) rfl (l' := #[rv a2, own_i 4, rv a3, own_i 4, own_i 21, own_i 3]) rfl k) ?_
  show own_Fin _ _ _ _ _ _ (T114.setTop (mkF m 20 #[rv a2, own_i 4, rv a3, own_i 4, own_i 21, own_i 3] [(.int (3 : Int32)), (.ref a2), (.int (3 : Int32)), (.ref a3)]))
  obtain ⟨cl115, Ar115, qa115, Sa115, Na115, Ha115, Ga115⟩ := id V2_e114
  have hin116 : ¬ ((3 : Int32) < 0 ∨ cl115.slots.size ≤ ((3 : Int32)).toNatClampNeg) := inb_of Sa115 ⟨by decide, by decide⟩
  refine own_to (fun t k => X114.baloadBytes hx (j := (3 : Int32)) (v := (.int (x3.toInt8.toInt32))) (by rw [e114]; exact Ar115.1) (State.isArrayOf_alike hZ.alike Ar115.2.1) Ar115.2.2 hin116 (Has.at Ha115 hin116 rfl) (g := (mkF m 20 #[rv a2, own_i 4, rv a3, own_i 4, own_i 21, own_i 3] [(.int (3 : Int32)), (.ref a2), (.int (3 : Int32)), (.ref a3)])) rfl rfl (hb hby own_d12_20) _ k) ?_
  show own_Fin _ _ _ _ _ _ (T114.setTop (mkF m 21 #[rv a2, own_i 4, rv a3, own_i 4, own_i 21, own_i 3] [(.int (x3.toInt8.toInt32)), (.int (3 : Int32)), (.ref a3)]))
  refine own_to (fun t k => XS.sipush X114.here hx rfl (hb hby own_d12_21) k) ?_
  refine own_to (fun t k => XS.iand X114.here hx rfl (hb hby own_d12_24) rfl k) ?_
  show own_Fin _ _ _ _ _ _ (T114.setTop (mkF m 25 #[rv a2, own_i 4, rv a3, own_i 4, own_i 21, own_i 3] [(.int ((x3.toInt8.toInt32) &&& (255 : Int32))), (.int (3 : Int32)), (.ref a3)]))
  refine own_to (fun t k => XS.i2c X114.here hx rfl (hb hby own_d12_25) rfl k) ?_
  show own_Fin _ _ _ _ _ _ (T114.setTop (mkF m 26 #[rv a2, own_i 4, rv a3, own_i 4, own_i 21, own_i 3] [(.int (((x3.toInt8.toInt32) &&& (255 : Int32)).toUInt32.toUInt16.toUInt32.toInt32)), (.int (3 : Int32)), (.ref a3)]))
  obtain ⟨cl117, Ar117, qa117, Sa117, Na117, Ha117, Ga117⟩ := id V114
  have hin118 : ¬ ((3 : Int32) < 0 ∨ cl117.slots.size ≤ ((3 : Int32)).toNatClampNeg) := inb_of Sa117 ⟨by decide, by decide⟩
  obtain ⟨T118, h118, X118, e118, W118, st118⟩ := stC X114 hx hZ e114 Ar117 (j := (3 : Int32)) hin118 (g := (mkF m 26 #[rv a2, own_i 4, rv a3, own_i 4, own_i 21, own_i 3] [(.int (((x3.toInt8.toInt32) &&& (255 : Int32)).toUInt32.toUInt16.toUInt32.toInt32)), (.int (3 : Int32)), (.ref a3)])) rfl rfl (hb hby own_d12_26)
  rw [own_inf hl3 hx3] at W118
  have N118 := Fr.snoc X118 N114 g_a3
  have KK118 : Keep h0 h118 [a3] := KK114.wr W118 (Or.inl (List.mem_of_getElem? (i := 0) rfl))
  have V2_e118 := V2_e114.other W118 ne23
  have V118 : Arv Z h118 a3 k2 .char (21 : Int32) [(.int x0), (.int x1), (.int x2), (.int x3), (.int (0 : Int32)), (.int (0 : Int32)), (.int (0 : Int32)), (.int (0 : Int32)), (.int (0 : Int32)), (.int (0 : Int32)), (.int (0 : Int32)), (.int (0 : Int32)), (.int (0 : Int32)), (.int (0 : Int32)), (.int (0 : Int32)), (.int (0 : Int32)), (.int (0 : Int32)), (.int (0 : Int32)), (.int (0 : Int32)), (.int (0 : Int32)), (.int (0 : Int32))] (.int (0 : Int32)) := Arv.set Ar117 qa117 Sa117 Na117 Ha117 Ga117 (own_fx hl3 hx3) W118 3 rfl (Nat.le_of_ble_eq_true rfl)
  have zs119 := (Nat.le_trans (Nat.le_trans (Nat.le_trans Z0 (Keep.of_wr W106).1) (Keep.of_wr W110).1) (Keep.of_wr W114).1)
  refine own_to (fun t k => st118 t k) ?_
  show own_Fin _ _ _ _ _ _ (T118.setTop (mkF m 27 #[rv a2, own_i 4, rv a3, own_i 4, own_i 21, own_i 3] []))
  refine own_to (fun t k => XS.iinc X118.here hx rfl (hb hby own_d12_27) rfl (l' := #[rv a2, own_i 4, rv a3, own_i 4, own_i 21, own_i 4]) rfl k) ?_
  show own_Fin _ _ _ _ _ _ (T118.setTop (mkF m 30 #[rv a2, own_i 4, rv a3, own_i 4, own_i 21, own_i 4] []))
  refine own_to (fun t k => XS.goto X118.here hx rfl (pc0 := 30) (pc' := 3) rfl (hb hby own_d12_30) (by decide) (by decide) k) ?_
  show own_Fin _ _ _ _ _ _ (T118.setTop (mkF m 3 #[rv a2, own_i 4, rv a3, own_i 4, own_i 21, own_i 4] []))
  refine own_to (fun t k => XS.iload X118.here hx rfl (hb hby own_d12_3) rfl k) ?_
  refine own_to (fun t k => XS.iload X118.here hx rfl (hb hby own_d12_5) rfl k) ?_
  refine own_to (fun t k => XS.icmpNo X118.here hx rfl (hb hby own_d12_7) rfl (tlt (by decide)).2.1 k) ?_
  show own_Fin _ _ _ _ _ _ (T118.setTop (mkF m 10 #[rv a2, own_i 4, rv a3, own_i 4, own_i 21, own_i 4] []))
  refine own_to (fun t k => XS.aloadN X118.here hx rfl (hb hby own_d12_10) rfl rfl k) ?_
  show own_Fin _ _ _ _ _ _ (T118.setTop (mkF m 11 #[rv a2, own_i 4, rv a3, own_i 4, own_i 21, own_i 4] [(.ref a3)]))
  refine own_to (fun t k => XS.iloadN X118.here hx rfl (hb hby own_d12_11) rfl k) ?_
  refine own_to (fun t k => XS.iinc X118.here hx rfl (hb hby own_d12_12) rfl (l' := #[rv a2, own_i 4, rv a3, own_i 5, own_i 21, own_i 4]) rfl k) ?_
  show own_Fin _ _ _ _ _ _ (T118.setTop (mkF m 15 #[rv a2, own_i 4, rv a3, own_i 5, own_i 21, own_i 4] [(.int (4 : Int32)), (.ref a3)]))
  refine own_to (fun t k => XS.aloadN X118.here hx rfl (hb hby own_d12_15) rfl rfl k) ?_
  refine own_to (fun t k => XS.iloadN X118.here hx rfl (hb hby own_d12_16) rfl k) ?_
  refine own_to (fun t k => XS.iinc X118.here hx rfl (hb hby own_d12_17) rfl (l' := #[rv a2, own_i 5, rv a3, own_i 5, own_i 21, own_i 4]) rfl k) ?_
  show own_Fin _ _ _ _ _ _ (T118.setTop (mkF m 20 #[rv a2, own_i 5, rv a3, own_i 5, own_i 21, own_i 4] [(.int (4 : Int32)), (.ref a2), (.int (4 : Int32)), (.ref a3)]))
  obtain ⟨cl120, Ar120, qa120, Sa120, Na120, Ha120, Ga120⟩ := id V2_e118
  have hin121 : ¬ ((4 : Int32) < 0 ∨ cl120.slots.size ≤ ((4 : Int32)).toNatClampNeg) := inb_of Sa120 ⟨by decide, by decide⟩
  refine own_to (fun t k => X118.baloadBytes hx (j := (4 : Int32)) (v := (.int (x4.toInt8.toInt32))) (by rw [e118]; exact Ar120.1) (State.isArrayOf_alike hZ.alike Ar120.2.1) Ar120.2.2 hin121 (Has.at Ha120 hin121 rfl) (g := (mkF m 20 #[rv a2, own_i 5, rv a3, own_i 5, own_i 21, own_i 4] [(.int (4 : Int32)), (.ref a2), (.int (4 : Int32)), (.ref a3)])) rfl rfl (hb hby own_d12_20) _ k) ?_
  show own_Fin _ _ _ _ _ _ (T118.setTop (mkF m 21 #[rv a2, own_i 5, rv a3, own_i 5, own_i 21, own_i 4] [(.int (x4.toInt8.toInt32)), (.int (4 : Int32)), (.ref a3)]))
  refine own_to (fun t k => XS.sipush X118.here hx rfl (hb hby own_d12_21) k) ?_
  refine own_to (fun t k => XS.iand X118.here hx rfl (hb hby own_d12_24) rfl k) ?_
  show own_Fin _ _ _ _ _ _ (T118.setTop (mkF m 25 #[rv a2, own_i 5, rv a3, own_i 5, own_i 21, own_i 4] [(.int ((x4.toInt8.toInt32) &&& (255 : Int32))), (.int (4 : Int32)), (.ref a3)]))
  refine own_to (fun t k => XS.i2c X118.here hx rfl (hb hby own_d12_25) rfl k) ?_
  show own_Fin _ _ _ _ _ _ (T118.setTop (mkF m 26 #[rv a2, own_i 5, rv a3, own_i 5, own_i 21, own_i 4] [(.int (((x4.toInt8.toInt32) &&& (255 : Int32)).toUInt32.toUInt16.toUInt32.toInt32)), (.int (4 : Int32)), (.ref a3)]))
  obtain ⟨cl122, Ar122, qa122, Sa122, Na122, Ha122, Ga122⟩ := id V118
  have hin123 : ¬ ((4 : Int32) < 0 ∨ cl122.slots.size ≤ ((4 : Int32)).toNatClampNeg) := inb_of Sa122 ⟨by decide, by decide⟩
  obtain ⟨T123, h123, X123, e123, W123, st123⟩ := stC X118 hx hZ e118 Ar122 (j := (4 : Int32)) hin123 (g := (mkF m 26 #[rv a2, own_i 5, rv a3, own_i 5, own_i 21, own_i 4] [(.int (((x4.toInt8.toInt32) &&& (255 : Int32)).toUInt32.toUInt16.toUInt32.toInt32)), (.int (4 : Int32)), (.ref a3)])) rfl rfl (hb hby own_d12_26)
  rw [own_inf hl4 hx4] at W123
  have N123 := Fr.snoc X123 N118 g_a3
  have KK123 : Keep h0 h123 [a3] := KK118.wr W123 (Or.inl (List.mem_of_getElem? (i := 0) rfl))
  have V2_e123 := V2_e118.other W123 ne23
  have V123 : Arv Z h123 a3 k2 .char (21 : Int32) [(.int x0), (.int x1), (.int x2), (.int x3), (.int x4), (.int (0 : Int32)), (.int (0 : Int32)), (.int (0 : Int32)), (.int (0 : Int32)), (.int (0 : Int32)), (.int (0 : Int32)), (.int (0 : Int32)), (.int (0 : Int32)), (.int (0 : Int32)), (.int (0 : Int32)), (.int (0 : Int32)), (.int (0 : Int32)), (.int (0 : Int32)), (.int (0 : Int32)), (.int (0 : Int32)), (.int (0 : Int32))] (.int (0 : Int32)) := Arv.set Ar122 qa122 Sa122 Na122 Ha122 Ga122 (own_fx hl4 hx4) W123 4 rfl (Nat.le_of_ble_eq_true rfl)
  refine own_to (fun t k => st123 t k) ?_
  show own_Fin _ _ _ _ _ _ (T123.setTop (mkF m 27 #[rv a2, own_i 5, rv a3, own_i 5, own_i 21, own_i 4] []))
  refine own_to (fun t k => XS.iinc X123.here hx rfl (hb hby own_d12_27) rfl (l' := #[rv a2, own_i 5, rv a3, own_i 5, own_i 21, own_i 5]) rfl k) ?_
  show own_Fin _ _ _ _ _ _ (T123.setTop (mkF m 30 #[rv a2, own_i 5, rv a3, own_i 5, own_i 21, own_i 5] []))
  refine own_to (fun t k => XS.goto X123.here hx rfl (pc0 := 30) (pc' := 3) rfl (hb hby own_d12_30) (by decide) (by decide) k) ?_
  show own_Fin _ _ _ _ _ _ (T123.setTop (mkF m 3 #[rv a2, own_i 5, rv a3, own_i 5, own_i 21, own_i 5] []))
  refine own_to (fun t k => XS.iload X123.here hx rfl (hb hby own_d12_3) rfl k) ?_
  refine own_to (fun t k => XS.iload X123.here hx rfl (hb hby own_d12_5) rfl k) ?_
  refine own_to (fun t k => XS.icmpNo X123.here hx rfl (hb hby own_d12_7) rfl (tlt (by decide)).2.1 k) ?_
  show own_Fin _ _ _ _ _ _ (T123.setTop (mkF m 10 #[rv a2, own_i 5, rv a3, own_i 5, own_i 21, own_i 5] []))
  refine own_to (fun t k => XS.aloadN X123.here hx rfl (hb hby own_d12_10) rfl rfl k) ?_
  show own_Fin _ _ _ _ _ _ (T123.setTop (mkF m 11 #[rv a2, own_i 5, rv a3, own_i 5, own_i 21, own_i 5] [(.ref a3)]))
  refine own_to (fun t k => XS.iloadN X123.here hx rfl (hb hby own_d12_11) rfl k) ?_
  refine own_to (fun t k => XS.iinc X123.here hx rfl (hb hby own_d12_12) rfl (l' := #[rv a2, own_i 5, rv a3, own_i 6, own_i 21, own_i 5]) rfl k) ?_
  show own_Fin _ _ _ _ _ _ (T123.setTop (mkF m 15 #[rv a2, own_i 5, rv a3, own_i 6, own_i 21, own_i 5] [(.int (5 : Int32)), (.ref a3)]))
  refine own_to (fun t k => XS.aloadN X123.here hx rfl (hb hby own_d12_15) rfl rfl k) ?_
  refine own_to (fun t k => XS.iloadN X123.here hx rfl (hb hby own_d12_16) rfl k) ?_
  refine own_to (fun t k => XS.iinc X123.here hx rfl (hb hby own_d12_17) rfl (l' := #[rv a2, own_i 6, rv a3, own_i 6, own_i 21, own_i 5]) rfl k) ?_
  show own_Fin _ _ _ _ _ _ (T123.setTop (mkF m 20 #[rv a2, own_i 6, rv a3, own_i 6, own_i 21, own_i 5] [(.int (5 : Int32)), (.ref a2), (.int (5 : Int32)), (.ref a3)]))
  obtain ⟨cl124, Ar124, qa124, Sa124, Na124, Ha124, Ga124⟩ := id V2_e123
  have hin125 : ¬ ((5 : Int32) < 0 ∨ cl124.slots.size ≤ ((5 : Int32)).toNatClampNeg) := inb_of Sa124 ⟨by decide, by decide⟩
  refine own_to (fun t k => X123.baloadBytes hx (j := (5 : Int32)) (v := (.int (x5.toInt8.toInt32))) (by rw [e123]; exact Ar124.1) (State.isArrayOf_alike hZ.alike Ar124.2.1) Ar124.2.2 hin125 (Has.at Ha124 hin125 rfl) (g := (mkF m 20 #[rv a2, own_i 6, rv a3, own_i 6, own_i 21, own_i 5] [(.int (5 : Int32)), (.ref a2), (.int (5 : Int32)), (.ref a3)])) rfl rfl (hb hby own_d12_20) _ k) ?_
  show own_Fin _ _ _ _ _ _ (T123.setTop (mkF m 21 #[rv a2, own_i 6, rv a3, own_i 6, own_i 21, own_i 5] [(.int (x5.toInt8.toInt32)), (.int (5 : Int32)), (.ref a3)]))
  refine own_to (fun t k => XS.sipush X123.here hx rfl (hb hby own_d12_21) k) ?_
  refine own_to (fun t k => XS.iand X123.here hx rfl (hb hby own_d12_24) rfl k) ?_
  show own_Fin _ _ _ _ _ _ (T123.setTop (mkF m 25 #[rv a2, own_i 6, rv a3, own_i 6, own_i 21, own_i 5] [(.int ((x5.toInt8.toInt32) &&& (255 : Int32))), (.int (5 : Int32)), (.ref a3)]))
  refine own_to (fun t k => XS.i2c X123.here hx rfl (hb hby own_d12_25) rfl k) ?_
  show own_Fin _ _ _ _ _ _ (T123.setTop (mkF m 26 #[rv a2, own_i 6, rv a3, own_i 6, own_i 21, own_i 5] [(.int (((x5.toInt8.toInt32) &&& (255 : Int32)).toUInt32.toUInt16.toUInt32.toInt32)), (.int (5 : Int32)), (.ref a3)]))
  obtain ⟨cl126, Ar126, qa126, Sa126, Na126, Ha126, Ga126⟩ := id V123
  have hin127 : ¬ ((5 : Int32) < 0 ∨ cl126.slots.size ≤ ((5 : Int32)).toNatClampNeg) := inb_of Sa126 ⟨by decide, by decide⟩
  obtain ⟨T127, h127, X127, e127, W127, st127⟩ := stC X123 hx hZ e123 Ar126 (j := (5 : Int32)) hin127 (g := (mkF m 26 #[rv a2, own_i 6, rv a3, own_i 6, own_i 21, own_i 5] [(.int (((x5.toInt8.toInt32) &&& (255 : Int32)).toUInt32.toUInt16.toUInt32.toInt32)), (.int (5 : Int32)), (.ref a3)])) rfl rfl (hb hby own_d12_26)
  rw [own_inf hl5 hx5] at W127
  have N127 := Fr.snoc X127 N123 g_a3
  have KK127 : Keep h0 h127 [a3] := KK123.wr W127 (Or.inl (List.mem_of_getElem? (i := 0) rfl))
  have V2_e127 := V2_e123.other W127 ne23
  have V127 : Arv Z h127 a3 k2 .char (21 : Int32) [(.int x0), (.int x1), (.int x2), (.int x3), (.int x4), (.int x5), (.int (0 : Int32)), (.int (0 : Int32)), (.int (0 : Int32)), (.int (0 : Int32)), (.int (0 : Int32)), (.int (0 : Int32)), (.int (0 : Int32)), (.int (0 : Int32)), (.int (0 : Int32)), (.int (0 : Int32)), (.int (0 : Int32)), (.int (0 : Int32)), (.int (0 : Int32)), (.int (0 : Int32)), (.int (0 : Int32))] (.int (0 : Int32)) := Arv.set Ar126 qa126 Sa126 Na126 Ha126 Ga126 (own_fx hl5 hx5) W127 5 rfl (Nat.le_of_ble_eq_true rfl)
  refine own_to (fun t k => st127 t k) ?_
  show own_Fin _ _ _ _ _ _ (T127.setTop (mkF m 27 #[rv a2, own_i 6, rv a3, own_i 6, own_i 21, own_i 5] []))
  refine own_to (fun t k => XS.iinc X127.here hx rfl (hb hby own_d12_27) rfl (l' := #[rv a2, own_i 6, rv a3, own_i 6, own_i 21, own_i 6]) rfl k) ?_
  show own_Fin _ _ _ _ _ _ (T127.setTop (mkF m 30 #[rv a2, own_i 6, rv a3, own_i 6, own_i 21, own_i 6] []))
  refine own_to (fun t k => XS.goto X127.here hx rfl (pc0 := 30) (pc' := 3) rfl (hb hby own_d12_30) (by decide) (by decide) k) ?_
  show own_Fin _ _ _ _ _ _ (T127.setTop (mkF m 3 #[rv a2, own_i 6, rv a3, own_i 6, own_i 21, own_i 6] []))
  refine own_to (fun t k => XS.iload X127.here hx rfl (hb hby own_d12_3) rfl k) ?_
  refine own_to (fun t k => XS.iload X127.here hx rfl (hb hby own_d12_5) rfl k) ?_
  refine own_to (fun t k => XS.icmpNo X127.here hx rfl (hb hby own_d12_7) rfl (tlt (by decide)).2.1 k) ?_
  show own_Fin _ _ _ _ _ _ (T127.setTop (mkF m 10 #[rv a2, own_i 6, rv a3, own_i 6, own_i 21, own_i 6] []))
  refine own_to (fun t k => XS.aloadN X127.here hx rfl (hb hby own_d12_10) rfl rfl k) ?_
  show own_Fin _ _ _ _ _ _ (T127.setTop (mkF m 11 #[rv a2, own_i 6, rv a3, own_i 6, own_i 21, own_i 6] [(.ref a3)]))
  refine own_to (fun t k => XS.iloadN X127.here hx rfl (hb hby own_d12_11) rfl k) ?_
  refine own_to (fun t k => XS.iinc X127.here hx rfl (hb hby own_d12_12) rfl (l' := #[rv a2, own_i 6, rv a3, own_i 7, own_i 21, own_i 6]) rfl k) ?_
  show own_Fin _ _ _ _ _ _ (T127.setTop (mkF m 15 #[rv a2, own_i 6, rv a3, own_i 7, own_i 21, own_i 6] [(.int (6 : Int32)), (.ref a3)]))
  refine own_to (fun t k => XS.aloadN X127.here hx rfl (hb hby own_d12_15) rfl rfl k) ?_
  refine own_to (fun t k => XS.iloadN X127.here hx rfl (hb hby own_d12_16) rfl k) ?_
  refine own_to (fun t k => XS.iinc X127.here hx rfl (hb hby own_d12_17) rfl (l' := #[rv a2, own_i 7, rv a3, own_i 7, own_i 21, own_i 6]) rfl k) ?_
  show own_Fin _ _ _ _ _ _ (T127.setTop (mkF m 20 #[rv a2, own_i 7, rv a3, own_i 7, own_i 21, own_i 6] [(.int (6 : Int32)), (.ref a2), (.int (6 : Int32)), (.ref a3)]))
  obtain ⟨cl128, Ar128, qa128, Sa128, Na128, Ha128, Ga128⟩ := id V2_e127
  have hin129 : ¬ ((6 : Int32) < 0 ∨ cl128.slots.size ≤ ((6 : Int32)).toNatClampNeg) := inb_of Sa128 ⟨by decide, by decide⟩
  refine own_to (fun t k => X127.baloadBytes hx (j := (6 : Int32)) (v := (.int (x6.toInt8.toInt32))) (by rw [e127]; exact Ar128.1) (State.isArrayOf_alike hZ.alike Ar128.2.1) Ar128.2.2 hin129 (Has.at Ha128 hin129 rfl) (g := (mkF m 20 #[rv a2, own_i 7, rv a3, own_i 7, own_i 21, own_i 6] [(.int (6 : Int32)), (.ref a2), (.int (6 : Int32)), (.ref a3)])) rfl rfl (hb hby own_d12_20) _ k) ?_
  show own_Fin _ _ _ _ _ _ (T127.setTop (mkF m 21 #[rv a2, own_i 7, rv a3, own_i 7, own_i 21, own_i 6] [(.int (x6.toInt8.toInt32)), (.int (6 : Int32)), (.ref a3)]))
  refine own_to (fun t k => XS.sipush X127.here hx rfl (hb hby own_d12_21) k) ?_
  refine own_to (fun t k => XS.iand X127.here hx rfl (hb hby own_d12_24) rfl k) ?_
  show own_Fin _ _ _ _ _ _ (T127.setTop (mkF m 25 #[rv a2, own_i 7, rv a3, own_i 7, own_i 21, own_i 6] [(.int ((x6.toInt8.toInt32) &&& (255 : Int32))), (.int (6 : Int32)), (.ref a3)]))
  refine own_to (fun t k => XS.i2c X127.here hx rfl (hb hby own_d12_25) rfl k) ?_
  show own_Fin _ _ _ _ _ _ (T127.setTop (mkF m 26 #[rv a2, own_i 7, rv a3, own_i 7, own_i 21, own_i 6] [(.int (((x6.toInt8.toInt32) &&& (255 : Int32)).toUInt32.toUInt16.toUInt32.toInt32)), (.int (6 : Int32)), (.ref a3)]))
  obtain ⟨cl130, Ar130, qa130, Sa130, Na130, Ha130, Ga130⟩ := id V127
  have hin131 : ¬ ((6 : Int32) < 0 ∨ cl130.slots.size ≤ ((6 : Int32)).toNatClampNeg) := inb_of Sa130 ⟨by decide, by decide⟩
  obtain ⟨T131, h131, X131, e131, W131, st131⟩ := stC X127 hx hZ e127 Ar130 (j := (6 : Int32)) hin131 (g := (mkF m 26 #[rv a2, own_i 7, rv a3, own_i 7, own_i 21, own_i 6] [(.int (((x6.toInt8.toInt32) &&& (255 : Int32)).toUInt32.toUInt16.toUInt32.toInt32)), (.int (6 : Int32)), (.ref a3)])) rfl rfl (hb hby own_d12_26)
  rw [own_inf hl6 hx6] at W131
  have N131 := Fr.snoc X131 N127 g_a3
  have KK131 : Keep h0 h131 [a3] := KK127.wr W131 (Or.inl (List.mem_of_getElem? (i := 0) rfl))
  have V2_e131 := V2_e127.other W131 ne23
  have V131 : Arv Z h131 a3 k2 .char (21 : Int32) [(.int x0), (.int x1), (.int x2), (.int x3), (.int x4), (.int x5), (.int x6), (.int (0 : Int32)), (.int (0 : Int32)), (.int (0 : Int32)), (.int (0 : Int32)), (.int (0 : Int32)), (.int (0 : Int32)), (.int (0 : Int32)), (.int (0 : Int32)), (.int (0 : Int32)), (.int (0 : Int32)), (.int (0 : Int32)), (.int (0 : Int32)), (.int (0 : Int32)), (.int (0 : Int32))] (.int (0 : Int32)) := Arv.set Ar130 qa130 Sa130 Na130 Ha130 Ga130 (own_fx hl6 hx6) W131 6 rfl (Nat.le_of_ble_eq_true rfl)
  have zs132 := (Nat.le_trans (Nat.le_trans (Nat.le_trans zs119 (Keep.of_wr W118).1) (Keep.of_wr W123).1) (Keep.of_wr W127).1)
  refine own_to (fun t k => st131 t k) ?_
  show own_Fin _ _ _ _ _ _ (T131.setTop (mkF m 27 #[rv a2, own_i 7, rv a3, own_i 7, own_i 21, own_i 6] []))
  refine own_to (fun t k => XS.iinc X131.here hx rfl (hb hby own_d12_27) rfl (l' := #[rv a2, own_i 7, rv a3, own_i 7, own_i 21, own_i 7]) rfl k) ?_
  show own_Fin _ _ _ _ _ _ (T131.setTop (mkF m 30 #[rv a2, own_i 7, rv a3, own_i 7, own_i 21, own_i 7] []))
  refine own_to (fun t k => XS.goto X131.here hx rfl (pc0 := 30) (pc' := 3) rfl (hb hby own_d12_30) (by decide) (by decide) k) ?_
  show own_Fin _ _ _ _ _ _ (T131.setTop (mkF m 3 #[rv a2, own_i 7, rv a3, own_i 7, own_i 21, own_i 7] []))
  refine own_to (fun t k => XS.iload X131.here hx rfl (hb hby own_d12_3) rfl k) ?_
  refine own_to (fun t k => XS.iload X131.here hx rfl (hb hby own_d12_5) rfl k) ?_
  refine own_to (fun t k => XS.icmpNo X131.here hx rfl (hb hby own_d12_7) rfl (tlt (by decide)).2.1 k) ?_
  show own_Fin _ _ _ _ _ _ (T131.setTop (mkF m 10 #[rv a2, own_i 7, rv a3, own_i 7, own_i 21, own_i 7] []))
  refine own_to (fun t k => XS.aloadN X131.here hx rfl (hb hby own_d12_10) rfl rfl k) ?_
  show own_Fin _ _ _ _ _ _ (T131.setTop (mkF m 11 #[rv a2, own_i 7, rv a3, own_i 7, own_i 21, own_i 7] [(.ref a3)]))
  refine own_to (fun t k => XS.iloadN X131.here hx rfl (hb hby own_d12_11) rfl k) ?_
  refine own_to (fun t k => XS.iinc X131.here hx rfl (hb hby own_d12_12) rfl (l' := #[rv a2, own_i 7, rv a3, own_i 8, own_i 21, own_i 7]) rfl k) ?_
  show own_Fin _ _ _ _ _ _ (T131.setTop (mkF m 15 #[rv a2, own_i 7, rv a3, own_i 8, own_i 21, own_i 7] [(.int (7 : Int32)), (.ref a3)]))
  refine own_to (fun t k => XS.aloadN X131.here hx rfl (hb hby own_d12_15) rfl rfl k) ?_
  refine own_to (fun t k => XS.iloadN X131.here hx rfl (hb hby own_d12_16) rfl k) ?_
  refine own_to (fun t k => XS.iinc X131.here hx rfl (hb hby own_d12_17) rfl (l' := #[rv a2, own_i 8, rv a3, own_i 8, own_i 21, own_i 7]) rfl k) ?_
  show own_Fin _ _ _ _ _ _ (T131.setTop (mkF m 20 #[rv a2, own_i 8, rv a3, own_i 8, own_i 21, own_i 7] [(.int (7 : Int32)), (.ref a2), (.int (7 : Int32)), (.ref a3)]))
  obtain ⟨cl133, Ar133, qa133, Sa133, Na133, Ha133, Ga133⟩ := id V2_e131
  have hin134 : ¬ ((7 : Int32) < 0 ∨ cl133.slots.size ≤ ((7 : Int32)).toNatClampNeg) := inb_of Sa133 ⟨by decide, by decide⟩
  refine own_to (fun t k => X131.baloadBytes hx (j := (7 : Int32)) (v := (.int (x7.toInt8.toInt32))) (by rw [e131]; exact Ar133.1) (State.isArrayOf_alike hZ.alike Ar133.2.1) Ar133.2.2 hin134 (Has.at Ha133 hin134 rfl) (g := (mkF m 20 #[rv a2, own_i 8, rv a3, own_i 8, own_i 21, own_i 7] [(.int (7 : Int32)), (.ref a2), (.int (7 : Int32)), (.ref a3)])) rfl rfl (hb hby own_d12_20) _ k) ?_
  show own_Fin _ _ _ _ _ _ (T131.setTop (mkF m 21 #[rv a2, own_i 8, rv a3, own_i 8, own_i 21, own_i 7] [(.int (x7.toInt8.toInt32)), (.int (7 : Int32)), (.ref a3)]))
  refine own_to (fun t k => XS.sipush X131.here hx rfl (hb hby own_d12_21) k) ?_
  refine own_to (fun t k => XS.iand X131.here hx rfl (hb hby own_d12_24) rfl k) ?_
  show own_Fin _ _ _ _ _ _ (T131.setTop (mkF m 25 #[rv a2, own_i 8, rv a3, own_i 8, own_i 21, own_i 7] [(.int ((x7.toInt8.toInt32) &&& (255 : Int32))), (.int (7 : Int32)), (.ref a3)]))
  refine own_to (fun t k => XS.i2c X131.here hx rfl (hb hby own_d12_25) rfl k) ?_
  show own_Fin _ _ _ _ _ _ (T131.setTop (mkF m 26 #[rv a2, own_i 8, rv a3, own_i 8, own_i 21, own_i 7] [(.int (((x7.toInt8.toInt32) &&& (255 : Int32)).toUInt32.toUInt16.toUInt32.toInt32)), (.int (7 : Int32)), (.ref a3)]))
  obtain ⟨cl135, Ar135, qa135, Sa135, Na135, Ha135, Ga135⟩ := id V131
  have hin136 : ¬ ((7 : Int32) < 0 ∨ cl135.slots.size ≤ ((7 : Int32)).toNatClampNeg) := inb_of Sa135 ⟨by decide, by decide⟩
  obtain ⟨T136, h136, X136, e136, W136, st136⟩ := stC X131 hx hZ e131 Ar135 (j := (7 : Int32)) hin136 (g := (mkF m 26 #[rv a2, own_i 8, rv a3, own_i 8, own_i 21, own_i 7] [(.int (((x7.toInt8.toInt32) &&& (255 : Int32)).toUInt32.toUInt16.toUInt32.toInt32)), (.int (7 : Int32)), (.ref a3)])) rfl rfl (hb hby own_d12_26)
  rw [own_inf hl7 hx7] at W136
  have N136 := Fr.snoc X136 N131 g_a3
  have KK136 : Keep h0 h136 [a3] := KK131.wr W136 (Or.inl (List.mem_of_getElem? (i := 0) rfl))
  have V2_e136 := V2_e131.other W136 ne23
  have V136 : Arv Z h136 a3 k2 .char (21 : Int32) [(.int x0), (.int x1), (.int x2), (.int x3), (.int x4), (.int x5), (.int x6), (.int x7), (.int (0 : Int32)), (.int (0 : Int32)), (.int (0 : Int32)), (.int (0 : Int32)), (.int (0 : Int32)), (.int (0 : Int32)), (.int (0 : Int32)), (.int (0 : Int32)), (.int (0 : Int32)), (.int (0 : Int32)), (.int (0 : Int32)), (.int (0 : Int32)), (.int (0 : Int32))] (.int (0 : Int32)) := Arv.set Ar135 qa135 Sa135 Na135 Ha135 Ga135 (own_fx hl7 hx7) W136 7 rfl (Nat.le_of_ble_eq_true rfl)
  refine own_to (fun t k => st136 t k) ?_
  show own_Fin _ _ _ _ _ _ (T136.setTop (mkF m 27 #[rv a2, own_i 8, rv a3, own_i 8, own_i 21, own_i 7] []))
  refine own_to (fun t k => XS.iinc X136.here hx rfl (hb hby own_d12_27) rfl (l' := #[rv a2, own_i 8, rv a3, own_i 8, own_i 21, own_i 8]) rfl k) ?_
  show own_Fin _ _ _ _ _ _ (T136.setTop (mkF m 30 #[rv a2, own_i 8, rv a3, own_i 8, own_i 21, own_i 8] []))
  refine own_to (fun t k => XS.goto X136.here hx rfl (pc0 := 30) (pc' := 3) rfl (hb hby own_d12_30) (by decide) (by decide) k) ?_
  show own_Fin _ _ _ _ _ _ (T136.setTop (mkF m 3 #[rv a2, own_i 8, rv a3, own_i 8, own_i 21, own_i 8] []))
  refine own_to (fun t k => XS.iload X136.here hx rfl (hb hby own_d12_3) rfl k) ?_
  refine own_to (fun t k => XS.iload X136.here hx rfl (hb hby own_d12_5) rfl k) ?_
  refine own_to (fun t k => XS.icmpNo X136.here hx rfl (hb hby own_d12_7) rfl (tlt (by decide)).2.1 k) ?_
  show own_Fin _ _ _ _ _ _ (T136.setTop (mkF m 10 #[rv a2, own_i 8, rv a3, own_i 8, own_i 21, own_i 8] []))
  refine own_to (fun t k => XS.aloadN X136.here hx rfl (hb hby own_d12_10) rfl rfl k) ?_
  show own_Fin _ _ _ _ _ _ (T136.setTop (mkF m 11 #[rv a2, own_i 8, rv a3, own_i 8, own_i 21, own_i 8] [(.ref a3)]))
  refine own_to (fun t k => XS.iloadN X136.here hx rfl (hb hby own_d12_11) rfl k) ?_
  refine own_to (fun t k => XS.iinc X136.here hx rfl (hb hby own_d12_12) rfl (l' := #[rv a2, own_i 8, rv a3, own_i 9, own_i 21, own_i 8]) rfl k) ?_
  show own_Fin _ _ _ _ _ _ (T136.setTop (mkF m 15 #[rv a2, own_i 8, rv a3, own_i 9, own_i 21, own_i 8] [(.int (8 : Int32)), (.ref a3)]))
  refine own_to (fun t k => XS.aloadN X136.here hx rfl (hb hby own_d12_15) rfl rfl k) ?_
  refine own_to (fun t k => XS.iloadN X136.here hx rfl (hb hby own_d12_16) rfl k) ?_
  refine own_to (fun t k => XS.iinc X136.here hx rfl (hb hby own_d12_17) rfl (l' := #[rv a2, own_i 9, rv a3, own_i 9, own_i 21, own_i 8]) rfl k) ?_
  show own_Fin _ _ _ _ _ _ (T136.setTop (mkF m 20 #[rv a2, own_i 9, rv a3, own_i 9, own_i 21, own_i 8] [(.int (8 : Int32)), (.ref a2), (.int (8 : Int32)), (.ref a3)]))
  obtain ⟨cl137, Ar137, qa137, Sa137, Na137, Ha137, Ga137⟩ := id V2_e136
  have hin138 : ¬ ((8 : Int32) < 0 ∨ cl137.slots.size ≤ ((8 : Int32)).toNatClampNeg) := inb_of Sa137 ⟨by decide, by decide⟩
  refine own_to (fun t k => X136.baloadBytes hx (j := (8 : Int32)) (v := (.int (x8.toInt8.toInt32))) (by rw [e136]; exact Ar137.1) (State.isArrayOf_alike hZ.alike Ar137.2.1) Ar137.2.2 hin138 (Has.at Ha137 hin138 rfl) (g := (mkF m 20 #[rv a2, own_i 9, rv a3, own_i 9, own_i 21, own_i 8] [(.int (8 : Int32)), (.ref a2), (.int (8 : Int32)), (.ref a3)])) rfl rfl (hb hby own_d12_20) _ k) ?_
  show own_Fin _ _ _ _ _ _ (T136.setTop (mkF m 21 #[rv a2, own_i 9, rv a3, own_i 9, own_i 21, own_i 8] [(.int (x8.toInt8.toInt32)), (.int (8 : Int32)), (.ref a3)]))
  refine own_to (fun t k => XS.sipush X136.here hx rfl (hb hby own_d12_21) k) ?_
  refine own_to (fun t k => XS.iand X136.here hx rfl (hb hby own_d12_24) rfl k) ?_
  show own_Fin _ _ _ _ _ _ (T136.setTop (mkF m 25 #[rv a2, own_i 9, rv a3, own_i 9, own_i 21, own_i 8] [(.int ((x8.toInt8.toInt32) &&& (255 : Int32))), (.int (8 : Int32)), (.ref a3)]))
  refine own_to (fun t k => XS.i2c X136.here hx rfl (hb hby own_d12_25) rfl k) ?_
  show own_Fin _ _ _ _ _ _ (T136.setTop (mkF m 26 #[rv a2, own_i 9, rv a3, own_i 9, own_i 21, own_i 8] [(.int (((x8.toInt8.toInt32) &&& (255 : Int32)).toUInt32.toUInt16.toUInt32.toInt32)), (.int (8 : Int32)), (.ref a3)]))
  obtain ⟨cl139, Ar139, qa139, Sa139, Na139, Ha139, Ga139⟩ := id V136
  have hin140 : ¬ ((8 : Int32) < 0 ∨ cl139.slots.size ≤ ((8 : Int32)).toNatClampNeg) := inb_of Sa139 ⟨by decide, by decide⟩
  obtain ⟨T140, h140, X140, e140, W140, st140⟩ := stC X136 hx hZ e136 Ar139 (j := (8 : Int32)) hin140 (g := (mkF m 26 #[rv a2, own_i 9, rv a3, own_i 9, own_i 21, own_i 8] [(.int (((x8.toInt8.toInt32) &&& (255 : Int32)).toUInt32.toUInt16.toUInt32.toInt32)), (.int (8 : Int32)), (.ref a3)])) rfl rfl (hb hby own_d12_26)
  rw [own_inf hl8 hx8] at W140
  have N140 := Fr.snoc X140 N136 g_a3
  have KK140 : Keep h0 h140 [a3] := KK136.wr W140 (Or.inl (List.mem_of_getElem? (i := 0) rfl))
  have V2_e140 := V2_e136.other W140 ne23
  have V140 : Arv Z h140 a3 k2 .char (21 : Int32) [(.int x0), (.int x1), (.int x2), (.int x3), (.int x4), (.int x5), (.int x6), (.int x7), (.int x8), (.int (0 : Int32)), (.int (0 : Int32)), (.int (0 : Int32)), (.int (0 : Int32)), (.int (0 : Int32)), (.int (0 : Int32)), (.int (0 : Int32)), (.int (0 : Int32)), (.int (0 : Int32)), (.int (0 : Int32)), (.int (0 : Int32)), (.int (0 : Int32))] (.int (0 : Int32)) := Arv.set Ar139 qa139 Sa139 Na139 Ha139 Ga139 (own_fx hl8 hx8) W140 8 rfl (Nat.le_of_ble_eq_true rfl)
  refine own_to (fun t k => st140 t k) ?_
  show own_Fin _ _ _ _ _ _ (T140.setTop (mkF m 27 #[rv a2, own_i 9, rv a3, own_i 9, own_i 21, own_i 8] []))
  refine own_to (fun t k => XS.iinc X140.here hx rfl (hb hby own_d12_27) rfl (l' := #[rv a2, own_i 9, rv a3, own_i 9, own_i 21, own_i 9]) rfl k) ?_
  show own_Fin _ _ _ _ _ _ (T140.setTop (mkF m 30 #[rv a2, own_i 9, rv a3, own_i 9, own_i 21, own_i 9] []))
  refine own_to (fun t k => XS.goto X140.here hx rfl (pc0 := 30) (pc' := 3) rfl (hb hby own_d12_30) (by decide) (by decide) k) ?_
  show own_Fin _ _ _ _ _ _ (T140.setTop (mkF m 3 #[rv a2, own_i 9, rv a3, own_i 9, own_i 21, own_i 9] []))
  refine own_to (fun t k => XS.iload X140.here hx rfl (hb hby own_d12_3) rfl k) ?_
  refine own_to (fun t k => XS.iload X140.here hx rfl (hb hby own_d12_5) rfl k) ?_
  refine own_to (fun t k => XS.icmpNo X140.here hx rfl (hb hby own_d12_7) rfl (tlt (by decide)).2.1 k) ?_
  show own_Fin _ _ _ _ _ _ (T140.setTop (mkF m 10 #[rv a2, own_i 9, rv a3, own_i 9, own_i 21, own_i 9] []))
  refine own_to (fun t k => XS.aloadN X140.here hx rfl (hb hby own_d12_10) rfl rfl k) ?_
  show own_Fin _ _ _ _ _ _ (T140.setTop (mkF m 11 #[rv a2, own_i 9, rv a3, own_i 9, own_i 21, own_i 9] [(.ref a3)]))
  refine own_to (fun t k => XS.iloadN X140.here hx rfl (hb hby own_d12_11) rfl k) ?_
  refine own_to (fun t k => XS.iinc X140.here hx rfl (hb hby own_d12_12) rfl (l' := #[rv a2, own_i 9, rv a3, own_i 10, own_i 21, own_i 9]) rfl k) ?_
  show own_Fin _ _ _ _ _ _ (T140.setTop (mkF m 15 #[rv a2, own_i 9, rv a3, own_i 10, own_i 21, own_i 9] [(.int (9 : Int32)), (.ref a3)]))
  refine own_to (fun t k => XS.aloadN X140.here hx rfl (hb hby own_d12_15) rfl rfl k) ?_
  refine own_to (fun t k => XS.iloadN X140.here hx rfl (hb hby own_d12_16) rfl k) ?_
  refine own_to (fun t k => XS.iinc X140.here hx rfl (hb hby own_d12_17) rfl (l' := #[rv a2, own_i 10, rv a3, own_i 10, own_i 21, own_i 9]) rfl k) ?_
  show own_Fin _ _ _ _ _ _ (T140.setTop (mkF m 20 #[rv a2, own_i 10, rv a3, own_i 10, own_i 21, own_i 9] [(.int (9 : Int32)), (.ref a2), (.int (9 : Int32)), (.ref a3)]))
  obtain ⟨cl141, Ar141, qa141, Sa141, Na141, Ha141, Ga141⟩ := id V2_e140
  have hin142 : ¬ ((9 : Int32) < 0 ∨ cl141.slots.size ≤ ((9 : Int32)).toNatClampNeg) := inb_of Sa141 ⟨by decide, by decide⟩
  refine own_to (fun t k => X140.baloadBytes hx (j := (9 : Int32)) (v := (.int (x9.toInt8.toInt32))) (by rw [e140]; exact Ar141.1) (State.isArrayOf_alike hZ.alike Ar141.2.1) Ar141.2.2 hin142 (Has.at Ha141 hin142 rfl) (g := (mkF m 20 #[rv a2, own_i 10, rv a3, own_i 10, own_i 21, own_i 9] [(.int (9 : Int32)), (.ref a2), (.int (9 : Int32)), (.ref a3)])) rfl rfl (hb hby own_d12_20) _ k) ?_
  show own_Fin _ _ _ _ _ _ (T140.setTop (mkF m 21 #[rv a2, own_i 10, rv a3, own_i 10, own_i 21, own_i 9] [(.int (x9.toInt8.toInt32)), (.int (9 : Int32)), (.ref a3)]))
  refine own_to (fun t k => XS.sipush X140.here hx rfl (hb hby own_d12_21) k) ?_
  refine own_to (fun t k => XS.iand X140.here hx rfl (hb hby own_d12_24) rfl k) ?_
  show own_Fin _ _ _ _ _ _ (T140.setTop (mkF m 25 #[rv a2, own_i 10, rv a3, own_i 10, own_i 21, own_i 9] [(.int ((x9.toInt8.toInt32) &&& (255 : Int32))), (.int (9 : Int32)), (.ref a3)]))
  refine own_to (fun t k => XS.i2c X140.here hx rfl (hb hby own_d12_25) rfl k) ?_
  show own_Fin _ _ _ _ _ _ (T140.setTop (mkF m 26 #[rv a2, own_i 10, rv a3, own_i 10, own_i 21, own_i 9] [(.int (((x9.toInt8.toInt32) &&& (255 : Int32)).toUInt32.toUInt16.toUInt32.toInt32)), (.int (9 : Int32)), (.ref a3)]))
  obtain ⟨cl143, Ar143, qa143, Sa143, Na143, Ha143, Ga143⟩ := id V140
  have hin144 : ¬ ((9 : Int32) < 0 ∨ cl143.slots.size ≤ ((9 : Int32)).toNatClampNeg) := inb_of Sa143 ⟨by decide, by decide⟩
  obtain ⟨T144, h144, X144, e144, W144, st144⟩ := stC X140 hx hZ e140 Ar143 (j := (9 : Int32)) hin144 (g := (mkF m 26 #[rv a2, own_i 10, rv a3, own_i 10, own_i 21, own_i 9] [(.int (((x9.toInt8.toInt32) &&& (255 : Int32)).toUInt32.toUInt16.toUInt32.toInt32)), (.int (9 : Int32)), (.ref a3)])) rfl rfl (hb hby own_d12_26)
  rw [own_inf hl9 hx9] at W144
  have N144 := Fr.snoc X144 N140 g_a3
  have KK144 : Keep h0 h144 [a3] := KK140.wr W144 (Or.inl (List.mem_of_getElem? (i := 0) rfl))
  have V2_e144 := V2_e140.other W144 ne23
  have V144 : Arv Z h144 a3 k2 .char (21 : Int32) [(.int x0), (.int x1), (.int x2), (.int x3), (.int x4), (.int x5), (.int x6), (.int x7), (.int x8), (.int x9), (.int (0 : Int32)), (.int (0 : Int32)), (.int (0 : Int32)), (.int (0 : Int32)), (.int (0 : Int32)), (.int (0 : Int32)), (.int (0 : Int32)), (.int (0 : Int32)), (.int (0 : Int32)), (.int (0 : Int32)), (.int (0 : Int32))] (.int (0 : Int32)) := Arv.set Ar143 qa143 Sa143 Na143 Ha143 Ga143 (own_fx hl9 hx9) W144 9 rfl (Nat.le_of_ble_eq_true rfl)
  have zs145 := (Nat.le_trans (Nat.le_trans (Nat.le_trans zs132 (Keep.of_wr W131).1) (Keep.of_wr W136).1) (Keep.of_wr W140).1)
  refine own_to (fun t k => st144 t k) ?_
  show own_Fin _ _ _ _ _ _ (T144.setTop (mkF m 27 #[rv a2, own_i 10, rv a3, own_i 10, own_i 21, own_i 9] []))
  refine own_to (fun t k => XS.iinc X144.here hx rfl (hb hby own_d12_27) rfl (l' := #[rv a2, own_i 10, rv a3, own_i 10, own_i 21, own_i 10]) rfl k) ?_
  show own_Fin _ _ _ _ _ _ (T144.setTop (mkF m 30 #[rv a2, own_i 10, rv a3, own_i 10, own_i 21, own_i 10] []))
  refine own_to (fun t k => XS.goto X144.here hx rfl (pc0 := 30) (pc' := 3) rfl (hb hby own_d12_30) (by decide) (by decide) k) ?_
  show own_Fin _ _ _ _ _ _ (T144.setTop (mkF m 3 #[rv a2, own_i 10, rv a3, own_i 10, own_i 21, own_i 10] []))
  refine own_to (fun t k => XS.iload X144.here hx rfl (hb hby own_d12_3) rfl k) ?_
  refine own_to (fun t k => XS.iload X144.here hx rfl (hb hby own_d12_5) rfl k) ?_
  refine own_to (fun t k => XS.icmpNo X144.here hx rfl (hb hby own_d12_7) rfl (tlt (by decide)).2.1 k) ?_
  show own_Fin _ _ _ _ _ _ (T144.setTop (mkF m 10 #[rv a2, own_i 10, rv a3, own_i 10, own_i 21, own_i 10] []))
  refine own_to (fun t k => XS.aloadN X144.here hx rfl (hb hby own_d12_10) rfl rfl k) ?_
  show own_Fin _ _ _ _ _ _ (T144.setTop (mkF m 11 #[rv a2, own_i 10, rv a3, own_i 10, own_i 21, own_i 10] [(.ref a3)]))
  refine own_to (fun t k => XS.iloadN X144.here hx rfl (hb hby own_d12_11) rfl k) ?_
  refine own_to (fun t k => XS.iinc X144.here hx rfl (hb hby own_d12_12) rfl (l' := #[rv a2, own_i 10, rv a3, own_i 11, own_i 21, own_i 10]) rfl k) ?_
  show own_Fin _ _ _ _ _ _ (T144.setTop (mkF m 15 #[rv a2, own_i 10, rv a3, own_i 11, own_i 21, own_i 10] [(.int (10 : Int32)), (.ref a3)]))
  refine own_to (fun t k => XS.aloadN X144.here hx rfl (hb hby own_d12_15) rfl rfl k) ?_
  refine own_to (fun t k => XS.iloadN X144.here hx rfl (hb hby own_d12_16) rfl k) ?_
  refine own_to (fun t k => XS.iinc X144.here hx rfl (hb hby own_d12_17) rfl (l' := #[rv a2, own_i 11, rv a3, own_i 11, own_i 21, own_i 10]) rfl k) ?_
  show own_Fin _ _ _ _ _ _ (T144.setTop (mkF m 20 #[rv a2, own_i 11, rv a3, own_i 11, own_i 21, own_i 10] [(.int (10 : Int32)), (.ref a2), (.int (10 : Int32)), (.ref a3)]))
  obtain ⟨cl146, Ar146, qa146, Sa146, Na146, Ha146, Ga146⟩ := id V2_e144
  have hin147 : ¬ ((10 : Int32) < 0 ∨ cl146.slots.size ≤ ((10 : Int32)).toNatClampNeg) := inb_of Sa146 ⟨by decide, by decide⟩
  refine own_to (fun t k => X144.baloadBytes hx (j := (10 : Int32)) (v := (.int (x10.toInt8.toInt32))) (by rw [e144]; exact Ar146.1) (State.isArrayOf_alike hZ.alike Ar146.2.1) Ar146.2.2 hin147 (Has.at Ha146 hin147 rfl) (g := (mkF m 20 #[rv a2, own_i 11, rv a3, own_i 11, own_i 21, own_i 10] [(.int (10 : Int32)), (.ref a2), (.int (10 : Int32)), (.ref a3)])) rfl rfl (hb hby own_d12_20) _ k) ?_
  show own_Fin _ _ _ _ _ _ (T144.setTop (mkF m 21 #[rv a2, own_i 11, rv a3, own_i 11, own_i 21, own_i 10] [(.int (x10.toInt8.toInt32)), (.int (10 : Int32)), (.ref a3)]))
  refine own_to (fun t k => XS.sipush X144.here hx rfl (hb hby own_d12_21) k) ?_
  refine own_to (fun t k => XS.iand X144.here hx rfl (hb hby own_d12_24) rfl k) ?_
  show own_Fin _ _ _ _ _ _ (T144.setTop (mkF m 25 #[rv a2, own_i 11, rv a3, own_i 11, own_i 21, own_i 10] [(.int ((x10.toInt8.toInt32) &&& (255 : Int32))), (.int (10 : Int32)), (.ref a3)]))
  refine own_to (fun t k => XS.i2c X144.here hx rfl (hb hby own_d12_25) rfl k) ?_
  show own_Fin _ _ _ _ _ _ (T144.setTop (mkF m 26 #[rv a2, own_i 11, rv a3, own_i 11, own_i 21, own_i 10] [(.int (((x10.toInt8.toInt32) &&& (255 : Int32)).toUInt32.toUInt16.toUInt32.toInt32)), (.int (10 : Int32)), (.ref a3)]))
  obtain ⟨cl148, Ar148, qa148, Sa148, Na148, Ha148, Ga148⟩ := id V144
  have hin149 : ¬ ((10 : Int32) < 0 ∨ cl148.slots.size ≤ ((10 : Int32)).toNatClampNeg) := inb_of Sa148 ⟨by decide, by decide⟩
  obtain ⟨T149, h149, X149, e149, W149, st149⟩ := stC X144 hx hZ e144 Ar148 (j := (10 : Int32)) hin149 (g := (mkF m 26 #[rv a2, own_i 11, rv a3, own_i 11, own_i 21, own_i 10] [(.int (((x10.toInt8.toInt32) &&& (255 : Int32)).toUInt32.toUInt16.toUInt32.toInt32)), (.int (10 : Int32)), (.ref a3)])) rfl rfl (hb hby own_d12_26)
  rw [own_inf hl10 hx10] at W149
  have N149 := Fr.snoc X149 N144 g_a3
  have KK149 : Keep h0 h149 [a3] := KK144.wr W149 (Or.inl (List.mem_of_getElem? (i := 0) rfl))
  have V2_e149 := V2_e144.other W149 ne23
  have V149 : Arv Z h149 a3 k2 .char (21 : Int32) [(.int x0), (.int x1), (.int x2), (.int x3), (.int x4), (.int x5), (.int x6), (.int x7), (.int x8), (.int x9), (.int x10), (.int (0 : Int32)), (.int (0 : Int32)), (.int (0 : Int32)), (.int (0 : Int32)), (.int (0 : Int32)), (.int (0 : Int32)), (.int (0 : Int32)), (.int (0 : Int32)), (.int (0 : Int32)), (.int (0 : Int32))] (.int (0 : Int32)) := Arv.set Ar148 qa148 Sa148 Na148 Ha148 Ga148 (own_fx hl10 hx10) W149 10 rfl (Nat.le_of_ble_eq_true rfl)
  refine own_to (fun t k => st149 t k) ?_
  show own_Fin _ _ _ _ _ _ (T149.setTop (mkF m 27 #[rv a2, own_i 11, rv a3, own_i 11, own_i 21, own_i 10] []))
  refine own_to (fun t k => XS.iinc X149.here hx rfl (hb hby own_d12_27) rfl (l' := #[rv a2, own_i 11, rv a3, own_i 11, own_i 21, own_i 11]) rfl k) ?_
  show own_Fin _ _ _ _ _ _ (T149.setTop (mkF m 30 #[rv a2, own_i 11, rv a3, own_i 11, own_i 21, own_i 11] []))
  refine own_to (fun t k => XS.goto X149.here hx rfl (pc0 := 30) (pc' := 3) rfl (hb hby own_d12_30) (by decide) (by decide) k) ?_
  show own_Fin _ _ _ _ _ _ (T149.setTop (mkF m 3 #[rv a2, own_i 11, rv a3, own_i 11, own_i 21, own_i 11] []))
  refine own_to (fun t k => XS.iload X149.here hx rfl (hb hby own_d12_3) rfl k) ?_
  refine own_to (fun t k => XS.iload X149.here hx rfl (hb hby own_d12_5) rfl k) ?_
  refine own_to (fun t k => XS.icmpNo X149.here hx rfl (hb hby own_d12_7) rfl (tlt (by decide)).2.1 k) ?_
  show own_Fin _ _ _ _ _ _ (T149.setTop (mkF m 10 #[rv a2, own_i 11, rv a3, own_i 11, own_i 21, own_i 11] []))
  refine own_to (fun t k => XS.aloadN X149.here hx rfl (hb hby own_d12_10) rfl rfl k) ?_
  show own_Fin _ _ _ _ _ _ (T149.setTop (mkF m 11 #[rv a2, own_i 11, rv a3, own_i 11, own_i 21, own_i 11] [(.ref a3)]))
  refine own_to (fun t k => XS.iloadN X149.here hx rfl (hb hby own_d12_11) rfl k) ?_
  refine own_to (fun t k => XS.iinc X149.here hx rfl (hb hby own_d12_12) rfl (l' := #[rv a2, own_i 11, rv a3, own_i 12, own_i 21, own_i 11]) rfl k) ?_
  show own_Fin _ _ _ _ _ _ (T149.setTop (mkF m 15 #[rv a2, own_i 11, rv a3, own_i 12, own_i 21, own_i 11] [(.int (11 : Int32)), (.ref a3)]))
  refine own_to (fun t k => XS.aloadN X149.here hx rfl (hb hby own_d12_15) rfl rfl k) ?_
  refine own_to (fun t k => XS.iloadN X149.here hx rfl (hb hby own_d12_16) rfl k) ?_
  refine own_to (fun t k => XS.iinc X149.here hx rfl (hb hby own_d12_17) rfl (l' := #[rv a2, own_i 12, rv a3, own_i 12, own_i 21, own_i 11]) rfl k) ?_
  show own_Fin _ _ _ _ _ _ (T149.setTop (mkF m 20 #[rv a2, own_i 12, rv a3, own_i 12, own_i 21, own_i 11] [(.int (11 : Int32)), (.ref a2), (.int (11 : Int32)), (.ref a3)]))
  obtain ⟨cl150, Ar150, qa150, Sa150, Na150, Ha150, Ga150⟩ := id V2_e149
  have hin151 : ¬ ((11 : Int32) < 0 ∨ cl150.slots.size ≤ ((11 : Int32)).toNatClampNeg) := inb_of Sa150 ⟨by decide, by decide⟩
  refine own_to (fun t k => X149.baloadBytes hx (j := (11 : Int32)) (v := (.int (x11.toInt8.toInt32))) (by rw [e149]; exact Ar150.1) (State.isArrayOf_alike hZ.alike Ar150.2.1) Ar150.2.2 hin151 (Has.at Ha150 hin151 rfl) (g := (mkF m 20 #[rv a2, own_i 12, rv a3, own_i 12, own_i 21, own_i 11] [(.int (11 : Int32)), (.ref a2), (.int (11 : Int32)), (.ref a3)])) rfl rfl (hb hby own_d12_20) _ k) ?_
  show own_Fin _ _ _ _ _ _ (T149.setTop (mkF m 21 #[rv a2, own_i 12, rv a3, own_i 12, own_i 21, own_i 11] [(.int (x11.toInt8.toInt32)), (.int (11 : Int32)), (.ref a3)]))
  refine own_to (fun t k => XS.sipush X149.here hx rfl (hb hby own_d12_21) k) ?_
  refine own_to (fun t k => XS.iand X149.here hx rfl (hb hby own_d12_24) rfl k) ?_
  show own_Fin _ _ _ _ _ _ (T149.setTop (mkF m 25 #[rv a2, own_i 12, rv a3, own_i 12, own_i 21, own_i 11] [(.int ((x11.toInt8.toInt32) &&& (255 : Int32))), (.int (11 : Int32)), (.ref a3)]))
  refine own_to (fun t k => XS.i2c X149.here hx rfl (hb hby own_d12_25) rfl k) ?_
  show own_Fin _ _ _ _ _ _ (T149.setTop (mkF m 26 #[rv a2, own_i 12, rv a3, own_i 12, own_i 21, own_i 11] [(.int (((x11.toInt8.toInt32) &&& (255 : Int32)).toUInt32.toUInt16.toUInt32.toInt32)), (.int (11 : Int32)), (.ref a3)]))
  obtain ⟨cl152, Ar152, qa152, Sa152, Na152, Ha152, Ga152⟩ := id V149
  have hin153 : ¬ ((11 : Int32) < 0 ∨ cl152.slots.size ≤ ((11 : Int32)).toNatClampNeg) := inb_of Sa152 ⟨by decide, by decide⟩
  obtain ⟨T153, h153, X153, e153, W153, st153⟩ := stC X149 hx hZ e149 Ar152 (j := (11 : Int32)) hin153 (g := (mkF m 26 #[rv a2, own_i 12, rv a3, own_i 12, own_i 21, own_i 11] [(.int (((x11.toInt8.toInt32) &&& (255 : Int32)).toUInt32.toUInt16.toUInt32.toInt32)), (.int (11 : Int32)), (.ref a3)])) rfl rfl (hb hby own_d12_26)
  rw [own_inf hl11 hx11] at W153
  have N153 := Fr.snoc X153 N149 g_a3
  have KK153 : Keep h0 h153 [a3] := KK149.wr W153 (Or.inl (List.mem_of_getElem? (i := 0) rfl))
  have V2_e153 := V2_e149.other W153 ne23
  have V153 : Arv Z h153 a3 k2 .char (21 : Int32) [(.int x0), (.int x1), (.int x2), (.int x3), (.int x4), (.int x5), (.int x6), (.int x7), (.int x8), (.int x9), (.int x10), (.int x11), (.int (0 : Int32)), (.int (0 : Int32)), (.int (0 : Int32)), (.int (0 : Int32)), (.int (0 : Int32)), (.int (0 : Int32)), (.int (0 : Int32)), (.int (0 : Int32)), (.int (0 : Int32))] (.int (0 : Int32)) := Arv.set Ar152 qa152 Sa152 Na152 Ha152 Ga152 (own_fx hl11 hx11) W153 11 rfl (Nat.le_of_ble_eq_true rfl)
  refine own_to (fun t k => st153 t k) ?_
  show own_Fin _ _ _ _ _ _ (T153.setTop (mkF m 27 #[rv a2, own_i 12, rv a3, own_i 12, own_i 21, own_i 11] []))
  refine own_to (fun t k => XS.iinc X153.here hx rfl (hb hby own_d12_27) rfl (l' := #[rv a2, own_i 12, rv a3, own_i 12, own_i 21, own_i 12]) rfl k) ?_
  show own_Fin _ _ _ _ _ _ (T153.setTop (mkF m 30 #[rv a2, own_i 12, rv a3, own_i 12, own_i 21, own_i 12] []))
  refine own_to (fun t k => XS.goto X153.here hx rfl (pc0 := 30) (pc' := 3) rfl (hb hby own_d12_30) (by decide) (by decide) k) ?_
  show own_Fin _ _ _ _ _ _ (T153.setTop (mkF m 3 #[rv a2, own_i 12, rv a3, own_i 12, own_i 21, own_i 12] []))
  refine own_to (fun t k => XS.iload X153.here hx rfl (hb hby own_d12_3) rfl k) ?_
  refine own_to (fun t k => XS.iload X153.here hx rfl (hb hby own_d12_5) rfl k) ?_
  refine own_to (fun t k => XS.icmpNo X153.here hx rfl (hb hby own_d12_7) rfl (tlt (by decide)).2.1 k) ?_
  show own_Fin _ _ _ _ _ _ (T153.setTop (mkF m 10 #[rv a2, own_i 12, rv a3, own_i 12, own_i 21, own_i 12] []))
  refine own_to (fun t k => XS.aloadN X153.here hx rfl (hb hby own_d12_10) rfl rfl k) ?_
  show own_Fin _ _ _ _ _ _ (T153.setTop (mkF m 11 #[rv a2, own_i 12, rv a3, own_i 12, own_i 21, own_i 12] [(.ref a3)]))
  refine own_to (fun t k => XS.iloadN X153.here hx rfl (hb hby own_d12_11) rfl k) ?_
  refine own_to (fun t k => XS.iinc X153.here hx rfl (hb hby own_d12_12) rfl (l' := #[rv a2, own_i 12, rv a3, own_i 13, own_i 21, own_i 12]) rfl k) ?_
  show own_Fin _ _ _ _ _ _ (T153.setTop (mkF m 15 #[rv a2, own_i 12, rv a3, own_i 13, own_i 21, own_i 12] [(.int (12 : Int32)), (.ref a3)]))
  refine own_to (fun t k => XS.aloadN X153.here hx rfl (hb hby own_d12_15) rfl rfl k) ?_
  refine own_to (fun t k => XS.iloadN X153.here hx rfl (hb hby own_d12_16) rfl k) ?_
  refine own_to (fun t k => XS.iinc X153.here hx rfl (hb hby own_d12_17) rfl (l' := #[rv a2, own_i 13, rv a3, own_i 13, own_i 21, own_i 12]) rfl k) ?_
  show own_Fin _ _ _ _ _ _ (T153.setTop (mkF m 20 #[rv a2, own_i 13, rv a3, own_i 13, own_i 21, own_i 12] [(.int (12 : Int32)), (.ref a2), (.int (12 : Int32)), (.ref a3)]))
  obtain ⟨cl154, Ar154, qa154, Sa154, Na154, Ha154, Ga154⟩ := id V2_e153
  have hin155 : ¬ ((12 : Int32) < 0 ∨ cl154.slots.size ≤ ((12 : Int32)).toNatClampNeg) := inb_of Sa154 ⟨by decide, by decide⟩
  refine own_to (fun t k => X153.baloadBytes hx (j := (12 : Int32)) (v := (.int (x12.toInt8.toInt32))) (by rw [e153]; exact Ar154.1) (State.isArrayOf_alike hZ.alike Ar154.2.1) Ar154.2.2 hin155 (Has.at Ha154 hin155 rfl) (g := (mkF m 20 #[rv a2, own_i 13, rv a3, own_i 13, own_i 21, own_i 12] [(.int (12 : Int32)), (.ref a2), (.int (12 : Int32)), (.ref a3)])) rfl rfl (hb hby own_d12_20) _ k) ?_
  show own_Fin _ _ _ _ _ _ (T153.setTop (mkF m 21 #[rv a2, own_i 13, rv a3, own_i 13, own_i 21, own_i 12] [(.int (x12.toInt8.toInt32)), (.int (12 : Int32)), (.ref a3)]))
  refine own_to (fun t k => XS.sipush X153.here hx rfl (hb hby own_d12_21) k) ?_
  refine own_to (fun t k => XS.iand X153.here hx rfl (hb hby own_d12_24) rfl k) ?_
  show own_Fin _ _ _ _ _ _ (T153.setTop (mkF m 25 #[rv a2, own_i 13, rv a3, own_i 13, own_i 21, own_i 12] [(.int ((x12.toInt8.toInt32) &&& (255 : Int32))), (.int (12 : Int32)), (.ref a3)]))
  refine own_to (fun t k => XS.i2c X153.here hx rfl (hb hby own_d12_25) rfl k) ?_
  show own_Fin _ _ _ _ _ _ (T153.setTop (mkF m 26 #[rv a2, own_i 13, rv a3, own_i 13, own_i 21, own_i 12] [(.int (((x12.toInt8.toInt32) &&& (255 : Int32)).toUInt32.toUInt16.toUInt32.toInt32)), (.int (12 : Int32)), (.ref a3)]))
  obtain ⟨cl156, Ar156, qa156, Sa156, Na156, Ha156, Ga156⟩ := id V153
  have hin157 : ¬ ((12 : Int32) < 0 ∨ cl156.slots.size ≤ ((12 : Int32)).toNatClampNeg) := inb_of Sa156 ⟨by decide, by decide⟩
  obtain ⟨T157, h157, X157, e157, W157, st157⟩ := stC X153 hx hZ e153 Ar156 (j := (12 : Int32)) hin157 (g := (mkF m 26 #[rv a2, own_i 13, rv a3, own_i 13, own_i 21, own_i 12] [(.int (((x12.toInt8.toInt32) &&& (255 : Int32)).toUInt32.toUInt16.toUInt32.toInt32)), (.int (12 : Int32)), (.ref a3)])) rfl rfl (hb hby own_d12_26)
  rw [own_inf hl12 hx12] at W157
  have N157 := Fr.snoc X157 N153 g_a3
  have KK157 : Keep h0 h157 [a3] := KK153.wr W157 (Or.inl (List.mem_of_getElem? (i := 0) rfl))
  have V2_e157 := V2_e153.other W157 ne23
  have V157 : Arv Z h157 a3 k2 .char (21 : Int32) [(.int x0), (.int x1), (.int x2), (.int x3), (.int x4), (.int x5), (.int x6), (.int x7), (.int x8), (.int x9), (.int x10), (.int x11), (.int x12), (.int (0 : Int32)), (.int (0 : Int32)), (.int (0 : Int32)), (.int (0 : Int32)), (.int (0 : Int32)), (.int (0 : Int32)), (.int (0 : Int32)), (.int (0 : Int32))] (.int (0 : Int32)) := Arv.set Ar156 qa156 Sa156 Na156 Ha156 Ga156 (own_fx hl12 hx12) W157 12 rfl (Nat.le_of_ble_eq_true rfl)
  have zs158 := (Nat.le_trans (Nat.le_trans (Nat.le_trans zs145 (Keep.of_wr W144).1) (Keep.of_wr W149).1) (Keep.of_wr W153).1)
  refine own_to (fun t k => st157 t k) ?_
  show own_Fin _ _ _ _ _ _ (T157.setTop (mkF m 27 #[rv a2, own_i 13, rv a3, own_i 13, own_i 21, own_i 12] []))
  refine own_to (fun t k => XS.iinc X157.here hx rfl (hb hby own_d12_27) rfl (l' := #[rv a2, own_i 13, rv a3, own_i 13, own_i 21, own_i 13]) rfl k) ?_
  show own_Fin _ _ _ _ _ _ (T157.setTop (mkF m 30 #[rv a2, own_i 13, rv a3, own_i 13, own_i 21, own_i 13] []))
  refine own_to (fun t k => XS.goto X157.here hx rfl (pc0 := 30) (pc' := 3) rfl (hb hby own_d12_30) (by decide) (by decide) k) ?_
  show own_Fin _ _ _ _ _ _ (T157.setTop (mkF m 3 #[rv a2, own_i 13, rv a3, own_i 13, own_i 21, own_i 13] []))
  refine own_to (fun t k => XS.iload X157.here hx rfl (hb hby own_d12_3) rfl k) ?_
  refine own_to (fun t k => XS.iload X157.here hx rfl (hb hby own_d12_5) rfl k) ?_
  refine own_to (fun t k => XS.icmpNo X157.here hx rfl (hb hby own_d12_7) rfl (tlt (by decide)).2.1 k) ?_
  show own_Fin _ _ _ _ _ _ (T157.setTop (mkF m 10 #[rv a2, own_i 13, rv a3, own_i 13, own_i 21, own_i 13] []))
  refine own_to (fun t k => XS.aloadN X157.here hx rfl (hb hby own_d12_10) rfl rfl k) ?_
  show own_Fin _ _ _ _ _ _ (T157.setTop (mkF m 11 #[rv a2, own_i 13, rv a3, own_i 13, own_i 21, own_i 13] [(.ref a3)]))
  refine own_to (fun t k => XS.iloadN X157.here hx rfl (hb hby own_d12_11) rfl k) ?_
  refine own_to (fun t k => XS.iinc X157.here hx rfl (hb hby own_d12_12) rfl (l' := #[rv a2, own_i 13, rv a3, own_i 14, own_i 21, own_i 13]) rfl k) ?_
  show own_Fin _ _ _ _ _ _ (T157.setTop (mkF m 15 #[rv a2, own_i 13, rv a3, own_i 14, own_i 21, own_i 13] [(.int (13 : Int32)), (.ref a3)]))
  refine own_to (fun t k => XS.aloadN X157.here hx rfl (hb hby own_d12_15) rfl rfl k) ?_
  refine own_to (fun t k => XS.iloadN X157.here hx rfl (hb hby own_d12_16) rfl k) ?_
  refine own_to (fun t k => XS.iinc X157.here hx rfl (hb hby own_d12_17) rfl (l' := #[rv a2, own_i 14, rv a3, own_i 14, own_i 21, own_i 13]) rfl k) ?_
  show own_Fin _ _ _ _ _ _ (T157.setTop (mkF m 20 #[rv a2, own_i 14, rv a3, own_i 14, own_i 21, own_i 13] [(.int (13 : Int32)), (.ref a2), (.int (13 : Int32)), (.ref a3)]))
  obtain ⟨cl159, Ar159, qa159, Sa159, Na159, Ha159, Ga159⟩ := id V2_e157
  have hin160 : ¬ ((13 : Int32) < 0 ∨ cl159.slots.size ≤ ((13 : Int32)).toNatClampNeg) := inb_of Sa159 ⟨by decide, by decide⟩
  refine own_to (fun t k => X157.baloadBytes hx (j := (13 : Int32)) (v := (.int (x13.toInt8.toInt32))) (by rw [e157]; exact Ar159.1) (State.isArrayOf_alike hZ.alike Ar159.2.1) Ar159.2.2 hin160 (Has.at Ha159 hin160 rfl) (g := (mkF m 20 #[rv a2, own_i 14, rv a3, own_i 14, own_i 21, own_i 13] [(.int (13 : Int32)), (.ref a2), (.int (13 : Int32)), (.ref a3)])) rfl rfl (hb hby own_d12_20) _ k) ?_
  show own_Fin _ _ _ _ _ _ (T157.setTop (mkF m 21 #[rv a2, own_i 14, rv a3, own_i 14, own_i 21, own_i 13] [(.int (x13.toInt8.toInt32)), (.int (13 : Int32)), (.ref a3)]))
  refine own_to (fun t k => XS.sipush X157.here hx rfl (hb hby own_d12_21) k) ?_
  refine own_to (fun t k => XS.iand X157.here hx rfl (hb hby own_d12_24) rfl k) ?_
  show own_Fin _ _ _ _ _ _ (T157.setTop (mkF m 25 #[rv a2, own_i 14, rv a3, own_i 14, own_i 21, own_i 13] [(.int ((x13.toInt8.toInt32) &&& (255 : Int32))), (.int (13 : Int32)), (.ref a3)]))
  refine own_to (fun t k => XS.i2c X157.here hx rfl (hb hby own_d12_25) rfl k) ?_
  show own_Fin _ _ _ _ _ _ (T157.setTop (mkF m 26 #[rv a2, own_i 14, rv a3, own_i 14, own_i 21, own_i 13] [(.int (((x13.toInt8.toInt32) &&& (255 : Int32)).toUInt32.toUInt16.toUInt32.toInt32)), (.int (13 : Int32)), (.ref a3)]))
  obtain ⟨cl161, Ar161, qa161, Sa161, Na161, Ha161, Ga161⟩ := id V157
  have hin162 : ¬ ((13 : Int32) < 0 ∨ cl161.slots.size ≤ ((13 : Int32)).toNatClampNeg) := inb_of Sa161 ⟨by decide, by decide⟩
  obtain ⟨T162, h162, X162, e162, W162, st162⟩ := stC X157 hx hZ e157 Ar161 (j := (13 : Int32)) hin162 (g := (mkF m 26 #[rv a2, own_i 14, rv a3, own_i 14, own_i 21, own_i 13] [(.int (((x13.toInt8.toInt32) &&& (255 : Int32)).toUInt32.toUInt16.toUInt32.toInt32)), (.int (13 : Int32)), (.ref a3)])) rfl rfl (hb hby own_d12_26)
  rw [own_inf hl13 hx13] at W162
  have N162 := Fr.snoc X162 N157 g_a3
  have KK162 : Keep h0 h162 [a3] := KK157.wr W162 (Or.inl (List.mem_of_getElem? (i := 0) rfl))
  have V2_e162 := V2_e157.other W162 ne23
  have V162 : Arv Z h162 a3 k2 .char (21 : Int32) [(.int x0), (.int x1), (.int x2), (.int x3), (.int x4), (.int x5), (.int x6), (.int x7), (.int x8), (.int x9), (.int x10), (.int x11), (.int x12), (.int x13), (.int (0 : Int32)), (.int (0 : Int32)), (.int (0 : Int32)), (.int (0 : Int32)), (.int (0 : Int32)), (.int (0 : Int32)), (.int (0 : Int32))] (.int (0 : Int32)) := Arv.set Ar161 qa161 Sa161 Na161 Ha161 Ga161 (own_fx hl13 hx13) W162 13 rfl (Nat.le_of_ble_eq_true rfl)
  refine own_to (fun t k => st162 t k) ?_
  show own_Fin _ _ _ _ _ _ (T162.setTop (mkF m 27 #[rv a2, own_i 14, rv a3, own_i 14, own_i 21, own_i 13] []))
  refine own_to (fun t k => XS.iinc X162.here hx rfl (hb hby own_d12_27) rfl (l' := #[rv a2, own_i 14, rv a3, own_i 14, own_i 21, own_i 14]) rfl k) ?_
  show own_Fin _ _ _ _ _ _ (T162.setTop (mkF m 30 #[rv a2, own_i 14, rv a3, own_i 14, own_i 21, own_i 14] []))
  refine own_to (fun t k => XS.goto X162.here hx rfl (pc0 := 30) (pc' := 3) rfl (hb hby own_d12_30) (by decide) (by decide) k) ?_
  show own_Fin _ _ _ _ _ _ (T162.setTop (mkF m 3 #[rv a2, own_i 14, rv a3, own_i 14, own_i 21, own_i 14] []))
  refine own_to (fun t k => XS.iload X162.here hx rfl (hb hby own_d12_3) rfl k) ?_
  refine own_to (fun t k => XS.iload X162.here hx rfl (hb hby own_d12_5) rfl k) ?_
  refine own_to (fun t k => XS.icmpNo X162.here hx rfl (hb hby own_d12_7) rfl (tlt (by decide)).2.1 k) ?_
  show own_Fin _ _ _ _ _ _ (T162.setTop (mkF m 10 #[rv a2, own_i 14, rv a3, own_i 14, own_i 21, own_i 14] []))
  refine own_to (fun t k => XS.aloadN X162.here hx rfl (hb hby own_d12_10) rfl rfl k) ?_
  show own_Fin _ _ _ _ _ _ (T162.setTop (mkF m 11 #[rv a2, own_i 14, rv a3, own_i 14, own_i 21, own_i 14] [(.ref a3)]))
  refine own_to (fun t k => XS.iloadN X162.here hx rfl (hb hby own_d12_11) rfl k) ?_
  refine own_to (fun t k => XS.iinc X162.here hx rfl (hb hby own_d12_12) rfl (l' := #[rv a2, own_i 14, rv a3, own_i 15, own_i 21, own_i 14]) rfl k) ?_
  show own_Fin _ _ _ _ _ _ (T162.setTop (mkF m 15 #[rv a2, own_i 14, rv a3, own_i 15, own_i 21, own_i 14] [(.int (14 : Int32)), (.ref a3)]))
  refine own_to (fun t k => XS.aloadN X162.here hx rfl (hb hby own_d12_15) rfl rfl k) ?_
  refine own_to (fun t k => XS.iloadN X162.here hx rfl (hb hby own_d12_16) rfl k) ?_
  refine own_to (fun t k => XS.iinc X162.here hx rfl (hb hby own_d12_17) rfl (l' := #[rv a2, own_i 15, rv a3, own_i 15, own_i 21, own_i 14]) rfl k) ?_
  show own_Fin _ _ _ _ _ _ (T162.setTop (mkF m 20 #[rv a2, own_i 15, rv a3, own_i 15, own_i 21, own_i 14] [(.int (14 : Int32)), (.ref a2), (.int (14 : Int32)), (.ref a3)]))
  obtain ⟨cl163, Ar163, qa163, Sa163, Na163, Ha163, Ga163⟩ := id V2_e162
  have hin164 : ¬ ((14 : Int32) < 0 ∨ cl163.slots.size ≤ ((14 : Int32)).toNatClampNeg) := inb_of Sa163 ⟨by decide, by decide⟩
  refine own_to (fun t k => X162.baloadBytes hx (j := (14 : Int32)) (v := (.int (x14.toInt8.toInt32))) (by rw [e162]; exact Ar163.1) (State.isArrayOf_alike hZ.alike Ar163.2.1) Ar163.2.2 hin164 (Has.at Ha163 hin164 rfl) (g := (mkF m 20 #[rv a2, own_i 15, rv a3, own_i 15, own_i 21, own_i 14] [(.int (14 : Int32)), (.ref a2), (.int (14 : Int32)), (.ref a3)])) rfl rfl (hb hby own_d12_20) _ k) ?_
  show own_Fin _ _ _ _ _ _ (T162.setTop (mkF m 21 #[rv a2, own_i 15, rv a3, own_i 15, own_i 21, own_i 14] [(.int (x14.toInt8.toInt32)), (.int (14 : Int32)), (.ref a3)]))
  refine own_to (fun t k => XS.sipush X162.here hx rfl (hb hby own_d12_21) k) ?_
  refine own_to (fun t k => XS.iand X162.here hx rfl (hb hby own_d12_24) rfl k) ?_
  show own_Fin _ _ _ _ _ _ (T162.setTop (mkF m 25 #[rv a2, own_i 15, rv a3, own_i 15, own_i 21, own_i 14] [(.int ((x14.toInt8.toInt32) &&& (255 : Int32))), (.int (14 : Int32)), (.ref a3)]))
  refine own_to (fun t k => XS.i2c X162.here hx rfl (hb hby own_d12_25) rfl k) ?_
  show own_Fin _ _ _ _ _ _ (T162.setTop (mkF m 26 #[rv a2, own_i 15, rv a3, own_i 15, own_i 21, own_i 14] [(.int (((x14.toInt8.toInt32) &&& (255 : Int32)).toUInt32.toUInt16.toUInt32.toInt32)), (.int (14 : Int32)), (.ref a3)]))
  obtain ⟨cl165, Ar165, qa165, Sa165, Na165, Ha165, Ga165⟩ := id V162
  have hin166 : ¬ ((14 : Int32) < 0 ∨ cl165.slots.size ≤ ((14 : Int32)).toNatClampNeg) := inb_of Sa165 ⟨by decide, by decide⟩
  obtain ⟨T166, h166, X166, e166, W166, st166⟩ := stC X162 hx hZ e162 Ar165 (j := (14 : Int32)) hin166 (g := (mkF m 26 #[rv a2, own_i 15, rv a3, own_i 15, own_i 21, own_i 14] [(.int (((x14.toInt8.toInt32) &&& (255 : Int32)).toUInt32.toUInt16.toUInt32.toInt32)), (.int (14 : Int32)), (.ref a3)])) rfl rfl (hb hby own_d12_26)
  rw [own_inf hl14 hx14] at W166
  have N166 := Fr.snoc X166 N162 g_a3
  have KK166 : Keep h0 h166 [a3] := KK162.wr W166 (Or.inl (List.mem_of_getElem? (i := 0) rfl))
  have V2_e166 := V2_e162.other W166 ne23
  have V166 : Arv Z h166 a3 k2 .char (21 : Int32) [(.int x0), (.int x1), (.int x2), (.int x3), (.int x4), (.int x5), (.int x6), (.int x7), (.int x8), (.int x9), (.int x10), (.int x11), (.int x12), (.int x13), (.int x14), (.int (0 : Int32)), (.int (0 : Int32)), (.int (0 : Int32)), (.int (0 : Int32)), (.int (0 : Int32)), (.int (0 : Int32))] (.int (0 : Int32)) := Arv.set Ar165 qa165 Sa165 Na165 Ha165 Ga165 (own_fx hl14 hx14) W166 14 rfl (Nat.le_of_ble_eq_true rfl)
  refine own_to (fun t k => st166 t k) ?_
  show own_Fin _ _ _ _ _ _ (T166.setTop (mkF m 27 #[rv a2, own_i 15, rv a3, own_i 15, own_i 21, own_i 14] []))
  refine own_to (fun t k => XS.iinc X166.here hx rfl (hb hby own_d12_27) rfl (l' := #[rv a2, own_i 15, rv a3, own_i 15, own_i 21, own_i 15]) rfl k) ?_
  show own_Fin _ _ _ _ _ _ (T166.setTop (mkF m 30 #[rv a2, own_i 15, rv a3, own_i 15, own_i 21, own_i 15] []))
  refine own_to (fun t k => XS.goto X166.here hx rfl (pc0 := 30) (pc' := 3) rfl (hb hby own_d12_30) (by decide) (by decide) k) ?_
  show own_Fin _ _ _ _ _ _ (T166.setTop (mkF m 3 #[rv a2, own_i 15, rv a3, own_i 15, own_i 21, own_i 15] []))
  refine own_to (fun t k => XS.iload X166.here hx rfl (hb hby own_d12_3) rfl k) ?_
  refine own_to (fun t k => XS.iload X166.here hx rfl (hb hby own_d12_5) rfl k) ?_
  refine own_to (fun t k => XS.icmpNo X166.here hx rfl (hb hby own_d12_7) rfl (tlt (by decide)).2.1 k) ?_
  show own_Fin _ _ _ _ _ _ (T166.setTop (mkF m 10 #[rv a2, own_i 15, rv a3, own_i 15, own_i 21, own_i 15] []))
  refine own_to (fun t k => XS.aloadN X166.here hx rfl (hb hby own_d12_10) rfl rfl k) ?_
  show own_Fin _ _ _ _ _ _ (T166.setTop (mkF m 11 #[rv a2, own_i 15, rv a3, own_i 15, own_i 21, own_i 15] [(.ref a3)]))
  refine own_to (fun t k => XS.iloadN X166.here hx rfl (hb hby own_d12_11) rfl k) ?_
  refine own_to (fun t k => XS.iinc X166.here hx rfl (hb hby own_d12_12) rfl (l' := #[rv a2, own_i 15, rv a3, own_i 16, own_i 21, own_i 15]) rfl k) ?_
  show own_Fin _ _ _ _ _ _ (T166.setTop (mkF m 15 #[rv a2, own_i 15, rv a3, own_i 16, own_i 21, own_i 15] [(.int (15 : Int32)), (.ref a3)]))
  refine own_to (fun t k => XS.aloadN X166.here hx rfl (hb hby own_d12_15) rfl rfl k) ?_
  refine own_to (fun t k => XS.iloadN X166.here hx rfl (hb hby own_d12_16) rfl k) ?_
  refine own_to (fun t k => XS.iinc X166.here hx rfl (hb hby own_d12_17) rfl (l' := #[rv a2, own_i 16, rv a3, own_i 16, own_i 21, own_i 15]) rfl k) ?_
  show own_Fin _ _ _ _ _ _ (T166.setTop (mkF m 20 #[rv a2, own_i 16, rv a3, own_i 16, own_i 21, own_i 15] [(.int (15 : Int32)), (.ref a2), (.int (15 : Int32)), (.ref a3)]))
  obtain ⟨cl167, Ar167, qa167, Sa167, Na167, Ha167, Ga167⟩ := id V2_e166
  have hin168 : ¬ ((15 : Int32) < 0 ∨ cl167.slots.size ≤ ((15 : Int32)).toNatClampNeg) := inb_of Sa167 ⟨by decide, by decide⟩
  refine own_to (fun t k => X166.baloadBytes hx (j := (15 : Int32)) (v := (.int (x15.toInt8.toInt32))) (by rw [e166]; exact Ar167.1) (State.isArrayOf_alike hZ.alike Ar167.2.1) Ar167.2.2 hin168 (Has.at Ha167 hin168 rfl) (g := (mkF m 20 #[rv a2, own_i 16, rv a3, own_i 16, own_i 21, own_i 15] [(.int (15 : Int32)), (.ref a2), (.int (15 : Int32)), (.ref a3)])) rfl rfl (hb hby own_d12_20) _ k) ?_
  show own_Fin _ _ _ _ _ _ (T166.setTop (mkF m 21 #[rv a2, own_i 16, rv a3, own_i 16, own_i 21, own_i 15] [(.int (x15.toInt8.toInt32)), (.int (15 : Int32)), (.ref a3)]))
  refine own_to (fun t k => XS.sipush X166.here hx rfl (hb hby own_d12_21) k) ?_
  refine own_to (fun t k => XS.iand X166.here hx rfl (hb hby own_d12_24) rfl k) ?_
  show own_Fin _ _ _ _ _ _ (T166.setTop (mkF m 25 #[rv a2, own_i 16, rv a3, own_i 16, own_i 21, own_i 15] [(.int ((x15.toInt8.toInt32) &&& (255 : Int32))), (.int (15 : Int32)), (.ref a3)]))
  refine own_to (fun t k => XS.i2c X166.here hx rfl (hb hby own_d12_25) rfl k) ?_
  show own_Fin _ _ _ _ _ _ (T166.setTop (mkF m 26 #[rv a2, own_i 16, rv a3, own_i 16, own_i 21, own_i 15] [(.int (((x15.toInt8.toInt32) &&& (255 : Int32)).toUInt32.toUInt16.toUInt32.toInt32)), (.int (15 : Int32)), (.ref a3)]))
  obtain ⟨cl169, Ar169, qa169, Sa169, Na169, Ha169, Ga169⟩ := id V166
  have hin170 : ¬ ((15 : Int32) < 0 ∨ cl169.slots.size ≤ ((15 : Int32)).toNatClampNeg) := inb_of Sa169 ⟨by decide, by decide⟩
  obtain ⟨T170, h170, X170, e170, W170, st170⟩ := stC X166 hx hZ e166 Ar169 (j := (15 : Int32)) hin170 (g := (mkF m 26 #[rv a2, own_i 16, rv a3, own_i 16, own_i 21, own_i 15] [(.int (((x15.toInt8.toInt32) &&& (255 : Int32)).toUInt32.toUInt16.toUInt32.toInt32)), (.int (15 : Int32)), (.ref a3)])) rfl rfl (hb hby own_d12_26)
  rw [own_inf hl15 hx15] at W170
  have N170 := Fr.snoc X170 N166 g_a3
  have KK170 : Keep h0 h170 [a3] := KK166.wr W170 (Or.inl (List.mem_of_getElem? (i := 0) rfl))
  have V2_e170 := V2_e166.other W170 ne23
  have V170 : Arv Z h170 a3 k2 .char (21 : Int32) [(.int x0), (.int x1), (.int x2), (.int x3), (.int x4), (.int x5), (.int x6), (.int x7), (.int x8), (.int x9), (.int x10), (.int x11), (.int x12), (.int x13), (.int x14), (.int x15), (.int (0 : Int32)), (.int (0 : Int32)), (.int (0 : Int32)), (.int (0 : Int32)), (.int (0 : Int32))] (.int (0 : Int32)) := Arv.set Ar169 qa169 Sa169 Na169 Ha169 Ga169 (own_fx hl15 hx15) W170 15 rfl (Nat.le_of_ble_eq_true rfl)
  have zs171 := (Nat.le_trans (Nat.le_trans (Nat.le_trans zs158 (Keep.of_wr W157).1) (Keep.of_wr W162).1) (Keep.of_wr W166).1)
  refine own_to (fun t k => st170 t k) ?_
  show own_Fin _ _ _ _ _ _ (T170.setTop (mkF m 27 #[rv a2, own_i 16, rv a3, own_i 16, own_i 21, own_i 15] []))
  refine own_to (fun t k => XS.iinc X170.here hx rfl (hb hby own_d12_27) rfl (l' := #[rv a2, own_i 16, rv a3, own_i 16, own_i 21, own_i 16]) rfl k) ?_
  show own_Fin _ _ _ _ _ _ (T170.setTop (mkF m 30 #[rv a2, own_i 16, rv a3, own_i 16, own_i 21, own_i 16] []))
  refine own_to (fun t k => XS.goto X170.here hx rfl (pc0 := 30) (pc' := 3) rfl (hb hby own_d12_30) (by decide) (by decide) k) ?_
  show own_Fin _ _ _ _ _ _ (T170.setTop (mkF m 3 #[rv a2, own_i 16, rv a3, own_i 16, own_i 21, own_i 16] []))
  refine own_to (fun t k => XS.iload X170.here hx rfl (hb hby own_d12_3) rfl k) ?_
  refine own_to (fun t k => XS.iload X170.here hx rfl (hb hby own_d12_5) rfl k) ?_
  refine own_to (fun t k => XS.icmpNo X170.here hx rfl (hb hby own_d12_7) rfl (tlt (by decide)).2.1 k) ?_
  show own_Fin _ _ _ _ _ _ (T170.setTop (mkF m 10 #[rv a2, own_i 16, rv a3, own_i 16, own_i 21, own_i 16] []))
  refine own_to (fun t k => XS.aloadN X170.here hx rfl (hb hby own_d12_10) rfl rfl k) ?_
  show own_Fin _ _ _ _ _ _ (T170.setTop (mkF m 11 #[rv a2, own_i 16, rv a3, own_i 16, own_i 21, own_i 16] [(.ref a3)]))
  refine own_to (fun t k => XS.iloadN X170.here hx rfl (hb hby own_d12_11) rfl k) ?_
  refine own_to (fun t k => XS.iinc X170.here hx rfl (hb hby own_d12_12) rfl (l' := #[rv a2, own_i 16, rv a3, own_i 17, own_i 21, own_i 16]) rfl k) ?_
  show own_Fin _ _ _ _ _ _ (T170.setTop (mkF m 15 #[rv a2, own_i 16, rv a3, own_i 17, own_i 21, own_i 16] [(.int (16 : Int32)), (.ref a3)]))
  refine own_to (fun t k => XS.aloadN X170.here hx rfl (hb hby own_d12_15) rfl rfl k) ?_
  refine own_to (fun t k => XS.iloadN X170.here hx rfl (hb hby own_d12_16) rfl k) ?_
  refine own_to (fun t k => XS.iinc X170.here hx rfl (hb hby own_d12_17) rfl (l' := #[rv a2, own_i 17, rv a3, own_i 17, own_i 21, own_i 16]) rfl k) ?_
  show own_Fin _ _ _ _ _ _ (T170.setTop (mkF m 20 #[rv a2, own_i 17, rv a3, own_i 17, own_i 21, own_i 16] [(.int (16 : Int32)), (.ref a2), (.int (16 : Int32)), (.ref a3)]))
  obtain ⟨cl172, Ar172, qa172, Sa172, Na172, Ha172, Ga172⟩ := id V2_e170
  have hin173 : ¬ ((16 : Int32) < 0 ∨ cl172.slots.size ≤ ((16 : Int32)).toNatClampNeg) := inb_of Sa172 ⟨by decide, by decide⟩
  refine own_to (fun t k => X170.baloadBytes hx (j := (16 : Int32)) (v := (.int (x16.toInt8.toInt32))) (by rw [e170]; exact Ar172.1) (State.isArrayOf_alike hZ.alike Ar172.2.1) Ar172.2.2 hin173 (Has.at Ha172 hin173 rfl) (g := (mkF m 20 #[rv a2, own_i 17, rv a3, own_i 17, own_i 21, own_i 16] [(.int (16 : Int32)), (.ref a2), (.int (16 : Int32)), (.ref a3)])) rfl rfl (hb hby own_d12_20) _ k) ?_
  show own_Fin _ _ _ _ _ _ (T170.setTop (mkF m 21 #[rv a2, own_i 17, rv a3, own_i 17, own_i 21, own_i 16] [(.int (x16.toInt8.toInt32)), (.int (16 : Int32)), (.ref a3)]))
  refine own_to (fun t k => XS.sipush X170.here hx rfl (hb hby own_d12_21) k) ?_
  refine own_to (fun t k => XS.iand X170.here hx rfl (hb hby own_d12_24) rfl k) ?_
  show own_Fin _ _ _ _ _ _ (T170.setTop (mkF m 25 #[rv a2, own_i 17, rv a3, own_i 17, own_i 21, own_i 16] [(.int ((x16.toInt8.toInt32) &&& (255 : Int32))), (.int (16 : Int32)), (.ref a3)]))
  refine own_to (fun t k => XS.i2c X170.here hx rfl (hb hby own_d12_25) rfl k) ?_
  show own_Fin _ _ _ _ _ _ (T170.setTop (mkF m 26 #[rv a2, own_i 17, rv a3, own_i 17, own_i 21, own_i 16] [(.int (((x16.toInt8.toInt32) &&& (255 : Int32)).toUInt32.toUInt16.toUInt32.toInt32)), (.int (16 : Int32)), (.ref a3)]))
  obtain ⟨cl174, Ar174, qa174, Sa174, Na174, Ha174, Ga174⟩ := id V170
  have hin175 : ¬ ((16 : Int32) < 0 ∨ cl174.slots.size ≤ ((16 : Int32)).toNatClampNeg) := inb_of Sa174 ⟨by decide, by decide⟩
  obtain ⟨T175, h175, X175, e175, W175, st175⟩ := stC X170 hx hZ e170 Ar174 (j := (16 : Int32)) hin175 (g := (mkF m 26 #[rv a2, own_i 17, rv a3, own_i 17, own_i 21, own_i 16] [(.int (((x16.toInt8.toInt32) &&& (255 : Int32)).toUInt32.toUInt16.toUInt32.toInt32)), (.int (16 : Int32)), (.ref a3)])) rfl rfl (hb hby own_d12_26)
  rw [own_inf hl16 hx16] at W175
  have N175 := Fr.snoc X175 N170 g_a3
  have KK175 : Keep h0 h175 [a3] := KK170.wr W175 (Or.inl (List.mem_of_getElem? (i := 0) rfl))
  have V2_e175 := V2_e170.other W175 ne23
  have V175 : Arv Z h175 a3 k2 .char (21 : Int32) [(.int x0), (.int x1), (.int x2), (.int x3), (.int x4), (.int x5), (.int x6), (.int x7), (.int x8), (.int x9), (.int x10), (.int x11), (.int x12), (.int x13), (.int x14), (.int x15), (.int x16), (.int (0 : Int32)), (.int (0 : Int32)), (.int (0 : Int32)), (.int (0 : Int32))] (.int (0 : Int32)) := Arv.set Ar174 qa174 Sa174 Na174 Ha174 Ga174 (own_fx hl16 hx16) W175 16 rfl (Nat.le_of_ble_eq_true rfl)
  refine own_to (fun t k => st175 t k) ?_
  show own_Fin _ _ _ _ _ _ (T175.setTop (mkF m 27 #[rv a2, own_i 17, rv a3, own_i 17, own_i 21, own_i 16] []))
  refine own_to (fun t k => XS.iinc X175.here hx rfl (hb hby own_d12_27) rfl (l' := #[rv a2, own_i 17, rv a3, own_i 17, own_i 21, own_i 17]) rfl k) ?_
  show own_Fin _ _ _ _ _ _ (T175.setTop (mkF m 30 #[rv a2, own_i 17, rv a3, own_i 17, own_i 21, own_i 17] []))
  refine own_to (fun t k => XS.goto X175.here hx rfl (pc0 := 30) (pc' := 3) rfl (hb hby own_d12_30) (by decide) (by decide) k) ?_
  show own_Fin _ _ _ _ _ _ (T175.setTop (mkF m 3 #[rv a2, own_i 17, rv a3, own_i 17, own_i 21, own_i 17] []))
  refine own_to (fun t k => XS.iload X175.here hx rfl (hb hby own_d12_3) rfl k) ?_
  refine own_to (fun t k => XS.iload X175.here hx rfl (hb hby own_d12_5) rfl k) ?_
  refine own_to (fun t k => XS.icmpNo X175.here hx rfl (hb hby own_d12_7) rfl (tlt (by decide)).2.1 k) ?_
  show own_Fin _ _ _ _ _ _ (T175.setTop (mkF m 10 #[rv a2, own_i 17, rv a3, own_i 17, own_i 21, own_i 17] []))
  refine own_to (fun t k => XS.aloadN X175.here hx rfl (hb hby own_d12_10) rfl rfl k) ?_
  show own_Fin _ _ _ _ _ _ (T175.setTop (mkF m 11 #[rv a2, own_i 17, rv a3, own_i 17, own_i 21, own_i 17] [(.ref a3)]))
  refine own_to (fun t k => XS.iloadN X175.here hx rfl (hb hby own_d12_11) rfl k) ?_
  refine own_to (fun t k => XS.iinc X175.here hx rfl (hb hby own_d12_12) rfl (l' := #[rv a2, own_i 17, rv a3, own_i 18, own_i 21, own_i 17]) rfl k) ?_
  show own_Fin _ _ _ _ _ _ (T175.setTop (mkF m 15 #[rv a2, own_i 17, rv a3, own_i 18, own_i 21, own_i 17] [(.int (17 : Int32)), (.ref a3)]))
  refine own_to (fun t k => XS.aloadN X175.here hx rfl (hb hby own_d12_15) rfl rfl k) ?_
  refine own_to (fun t k => XS.iloadN X175.here hx rfl (hb hby own_d12_16) rfl k) ?_
  refine own_to (fun t k => XS.iinc X175.here hx rfl (hb hby own_d12_17) rfl (l' := #[rv a2, own_i 18, rv a3, own_i 18, own_i 21, own_i 17]) rfl k) ?_
  show own_Fin _ _ _ _ _ _ (T175.setTop (mkF m 20 #[rv a2, own_i 18, rv a3, own_i 18, own_i 21, own_i 17] [(.int (17 : Int32)), (.ref a2), (.int (17 : Int32)), (.ref a3)]))
  obtain ⟨cl176, Ar176, qa176, Sa176, Na176, Ha176, Ga176⟩ := id V2_e175
  have hin177 : ¬ ((17 : Int32) < 0 ∨ cl176.slots.size ≤ ((17 : Int32)).toNatClampNeg) := inb_of Sa176 ⟨by decide, by decide⟩
  refine own_to (fun t k => X175.baloadBytes hx (j := (17 : Int32)) (v := (.int (x17.toInt8.toInt32))) (by rw [e175]; exact Ar176.1) (State.isArrayOf_alike hZ.alike Ar176.2.1) Ar176.2.2 hin177 (Has.at Ha176 hin177 rfl) (g := (mkF m 20 #[rv a2, own_i 18, rv a3, own_i 18, own_i 21, own_i 17] [(.int (17 : Int32)), (.ref a2), (.int (17 : Int32)), (.ref a3)])) rfl rfl (hb hby own_d12_20) _ k) ?_
  show own_Fin _ _ _ _ _ _ (T175.setTop (mkF m 21 #[rv a2, own_i 18, rv a3, own_i 18, own_i 21, own_i 17] [(.int (x17.toInt8.toInt32)), (.int (17 : Int32)), (.ref a3)]))
  refine own_to (fun t k => XS.sipush X175.here hx rfl (hb hby own_d12_21) k) ?_
  refine own_to (fun t k => XS.iand X175.here hx rfl (hb hby own_d12_24) rfl k) ?_
  show own_Fin _ _ _ _ _ _ (T175.setTop (mkF m 25 #[rv a2, own_i 18, rv a3, own_i 18, own_i 21, own_i 17] [(.int ((x17.toInt8.toInt32) &&& (255 : Int32))), (.int (17 : Int32)), (.ref a3)]))
  refine own_to (fun t k => XS.i2c X175.here hx rfl (hb hby own_d12_25) rfl k) ?_
  show own_Fin _ _ _ _ _ _ (T175.setTop (mkF m 26 #[rv a2, own_i 18, rv a3, own_i 18, own_i 21, own_i 17] [(.int (((x17.toInt8.toInt32) &&& (255 : Int32)).toUInt32.toUInt16.toUInt32.toInt32)), (.int (17 : Int32)), (.ref a3)]))
  obtain ⟨cl178, Ar178, qa178, Sa178, Na178, Ha178, Ga178⟩ := id V175
  have hin179 : ¬ ((17 : Int32) < 0 ∨ cl178.slots.size ≤ ((17 : Int32)).toNatClampNeg) := inb_of Sa178 ⟨by decide, by decide⟩
  obtain ⟨T179, h179, X179, e179, W179, st179⟩ := stC X175 hx hZ e175 Ar178 (j := (17 : Int32)) hin179 (g := (mkF m 26 #[rv a2, own_i 18, rv a3, own_i 18, own_i 21, own_i 17] [(.int (((x17.toInt8.toInt32) &&& (255 : Int32)).toUInt32.toUInt16.toUInt32.toInt32)), (.int (17 : Int32)), (.ref a3)])) rfl rfl (hb hby own_d12_26)
  rw [own_inf hl17 hx17] at W179
  have N179 := Fr.snoc X179 N175 g_a3
  have KK179 : Keep h0 h179 [a3] := KK175.wr W179 (Or.inl (List.mem_of_getElem? (i := 0) rfl))
  have V2_e179 := V2_e175.other W179 ne23
  have V179 : Arv Z h179 a3 k2 .char (21 : Int32) [(.int x0), (.int x1), (.int x2), (.int x3), (.int x4), (.int x5), (.int x6), (.int x7), (.int x8), (.int x9), (.int x10), (.int x11), (.int x12), (.int x13), (.int x14), (.int x15), (.int x16), (.int x17), (.int (0 : Int32)), (.int (0 : Int32)), (.int (0 : Int32))] (.int (0 : Int32)) := Arv.set Ar178 qa178 Sa178 Na178 Ha178 Ga178 (own_fx hl17 hx17) W179 17 rfl (Nat.le_of_ble_eq_true rfl)
  refine own_to (fun t k => st179 t k) ?_
  show own_Fin _ _ _ _ _ _ (T179.setTop (mkF m 27 #[rv a2, own_i 18, rv a3, own_i 18, own_i 21, own_i 17] []))
  refine own_to (fun t k => XS.iinc X179.here hx rfl (hb hby own_d12_27) rfl (l' := #[rv a2, own_i 18, rv a3, own_i 18, own_i 21, own_i 18]) rfl k) ?_
  show own_Fin _ _ _ _ _ _ (T179.setTop (mkF m 30 #[rv a2, own_i 18, rv a3, own_i 18, own_i 21, own_i 18] []))
  refine own_to (fun t k => XS.goto X179.here hx rfl (pc0 := 30) (pc' := 3) rfl (hb hby own_d12_30) (by decide) (by decide) k) ?_
  show own_Fin _ _ _ _ _ _ (T179.setTop (mkF m 3 #[rv a2, own_i 18, rv a3, own_i 18, own_i 21, own_i 18] []))
  refine own_to (fun t k => XS.iload X179.here hx rfl (hb hby own_d12_3) rfl k) ?_
  refine own_to (fun t k => XS.iload X179.here hx rfl (hb hby own_d12_5) rfl k) ?_
  refine own_to (fun t k => XS.icmpNo X179.here hx rfl (hb hby own_d12_7) rfl (tlt (by decide)).2.1 k) ?_
  show own_Fin _ _ _ _ _ _ (T179.setTop (mkF m 10 #[rv a2, own_i 18, rv a3, own_i 18, own_i 21, own_i 18] []))
  refine own_to (fun t k => XS.aloadN X179.here hx rfl (hb hby own_d12_10) rfl rfl k) ?_
  show own_Fin _ _ _ _ _ _ (T179.setTop (mkF m 11 #[rv a2, own_i 18, rv a3, own_i 18, own_i 21, own_i 18] [(.ref a3)]))
  refine own_to (fun t k => XS.iloadN X179.here hx rfl (hb hby own_d12_11) rfl k) ?_
  refine own_to (fun t k => XS.iinc X179.here hx rfl (hb hby own_d12_12) rfl (l' := #[rv a2, own_i 18, rv a3, own_i 19, own_i 21, own_i 18]) rfl k) ?_
  show own_Fin _ _ _ _ _ _ (T179.setTop (mkF m 15 #[rv a2, own_i 18, rv a3, own_i 19, own_i 21, own_i 18] [(.int (18 : Int32)), (.ref a3)]))
  refine own_to (fun t k => XS.aloadN X179.here hx rfl (hb hby own_d12_15) rfl rfl k) ?_
  refine own_to (fun t k => XS.iloadN X179.here hx rfl (hb hby own_d12_16) rfl k) ?_
  refine own_to (fun t k => XS.iinc X179.here hx rfl (hb hby own_d12_17) rfl (l' := #[rv a2, own_i 19, rv a3, own_i 19, own_i 21, own_i 18]) rfl k) ?_
  show own_Fin _ _ _ _ _ _ (T179.setTop (mkF m 20 #[rv a2, own_i 19, rv a3, own_i 19, own_i 21, own_i 18] [(.int (18 : Int32)), (.ref a2), (.int (18 : Int32)), (.ref a3)]))
  obtain ⟨cl180, Ar180, qa180, Sa180, Na180, Ha180, Ga180⟩ := id V2_e179
  have hin181 : ¬ ((18 : Int32) < 0 ∨ cl180.slots.size ≤ ((18 : Int32)).toNatClampNeg) := inb_of Sa180 ⟨by decide, by decide⟩
  refine own_to (fun t k => X179.baloadBytes hx (j := (18 : Int32)) (v := (.int (x18.toInt8.toInt32))) (by rw [e179]; exact Ar180.1) (State.isArrayOf_alike hZ.alike Ar180.2.1) Ar180.2.2 hin181 (Has.at Ha180 hin181 rfl) (g := (mkF m 20 #[rv a2, own_i 19, rv a3, own_i 19, own_i 21, own_i 18] [(.int (18 : Int32)), (.ref a2), (.int (18 : Int32)), (.ref a3)])) rfl rfl (hb hby own_d12_20) _ k) ?_
  show own_Fin _ _ _ _ _ _ (T179.setTop (mkF m 21 #[rv a2, own_i 19, rv a3, own_i 19, own_i 21, own_i 18] [(.int (x18.toInt8.toInt32)), (.int (18 : Int32)), (.ref a3)]))
  refine own_to (fun t k => XS.sipush X179.here hx rfl (hb hby own_d12_21) k) ?_
  refine own_to (fun t k => XS.iand X179.here hx rfl (hb hby own_d12_24) rfl k) ?_
  show own_Fin _ _ _ _ _ _ (T179.setTop (mkF m 25 #[rv a2, own_i 19, rv a3, own_i 19, own_i 21, own_i 18] [(.int ((x18.toInt8.toInt32) &&& (255 : Int32))), (.int (18 : Int32)), (.ref a3)]))
  refine own_to (fun t k => XS.i2c X179.here hx rfl (hb hby own_d12_25) rfl k) ?_
  show own_Fin _ _ _ _ _ _ (T179.setTop (mkF m 26 #[rv a2, own_i 19, rv a3, own_i 19, own_i 21, own_i 18] [(.int (((x18.toInt8.toInt32) &&& (255 : Int32)).toUInt32.toUInt16.toUInt32.toInt32)), (.int (18 : Int32)), (.ref a3)]))
  obtain ⟨cl182, Ar182, qa182, Sa182, Na182, Ha182, Ga182⟩ := id V179
  have hin183 : ¬ ((18 : Int32) < 0 ∨ cl182.slots.size ≤ ((18 : Int32)).toNatClampNeg) := inb_of Sa182 ⟨by decide, by decide⟩
  obtain ⟨T183, h183, X183, e183, W183, st183⟩ := stC X179 hx hZ e179 Ar182 (j := (18 : Int32)) hin183 (g := (mkF m 26 #[rv a2, own_i 19, rv a3, own_i 19, own_i 21, own_i 18] [(.int (((x18.toInt8.toInt32) &&& (255 : Int32)).toUInt32.toUInt16.toUInt32.toInt32)), (.int (18 : Int32)), (.ref a3)])) rfl rfl (hb hby own_d12_26)
  rw [own_inf hl18 hx18] at W183
  have N183 := Fr.snoc X183 N179 g_a3
  have KK183 : Keep h0 h183 [a3] := KK179.wr W183 (Or.inl (List.mem_of_getElem? (i := 0) rfl))
  have V2_e183 := V2_e179.other W183 ne23
  have V183 : Arv Z h183 a3 k2 .char (21 : Int32) [(.int x0), (.int x1), (.int x2), (.int x3), (.int x4), (.int x5), (.int x6), (.int x7), (.int x8), (.int x9), (.int x10), (.int x11), (.int x12), (.int x13), (.int x14), (.int x15), (.int x16), (.int x17), (.int x18), (.int (0 : Int32)), (.int (0 : Int32))] (.int (0 : Int32)) := Arv.set Ar182 qa182 Sa182 Na182 Ha182 Ga182 (own_fx hl18 hx18) W183 18 rfl (Nat.le_of_ble_eq_true rfl)
  have zs184 := (Nat.le_trans (Nat.le_trans (Nat.le_trans zs171 (Keep.of_wr W170).1) (Keep.of_wr W175).1) (Keep.of_wr W179).1)
  refine own_to (fun t k => st183 t k) ?_
  show own_Fin _ _ _ _ _ _ (T183.setTop (mkF m 27 #[rv a2, own_i 19, rv a3, own_i 19, own_i 21, own_i 18] []))
  refine own_to (fun t k => XS.iinc X183.here hx rfl (hb hby own_d12_27) rfl (l' := #[rv a2, own_i 19, rv a3, own_i 19, own_i 21, own_i 19]) rfl k) ?_
  show own_Fin _ _ _ _ _ _ (T183.setTop (mkF m 30 #[rv a2, own_i 19, rv a3, own_i 19, own_i 21, own_i 19] []))
  refine own_to (fun t k => XS.goto X183.here hx rfl (pc0 := 30) (pc' := 3) rfl (hb hby own_d12_30) (by decide) (by decide) k) ?_
  show own_Fin _ _ _ _ _ _ (T183.setTop (mkF m 3 #[rv a2, own_i 19, rv a3, own_i 19, own_i 21, own_i 19] []))
  refine own_to (fun t k => XS.iload X183.here hx rfl (hb hby own_d12_3) rfl k) ?_
  refine own_to (fun t k => XS.iload X183.here hx rfl (hb hby own_d12_5) rfl k) ?_
  refine own_to (fun t k => XS.icmpNo X183.here hx rfl (hb hby own_d12_7) rfl (tlt (by decide)).2.1 k) ?_
  show own_Fin _ _ _ _ _ _ (T183.setTop (mkF m 10 #[rv a2, own_i 19, rv a3, own_i 19, own_i 21, own_i 19] []))
  refine own_to (fun t k => XS.aloadN X183.here hx rfl (hb hby own_d12_10) rfl rfl k) ?_
  show own_Fin _ _ _ _ _ _ (T183.setTop (mkF m 11 #[rv a2, own_i 19, rv a3, own_i 19, own_i 21, own_i 19] [(.ref a3)]))
  refine own_to (fun t k => XS.iloadN X183.here hx rfl (hb hby own_d12_11) rfl k) ?_
  refine own_to (fun t k => XS.iinc X183.here hx rfl (hb hby own_d12_12) rfl (l' := #[rv a2, own_i 19, rv a3, own_i 20, own_i 21, own_i 19]) rfl k) ?_
  show own_Fin _ _ _ _ _ _ (T183.setTop (mkF m 15 #[rv a2, own_i 19, rv a3, own_i 20, own_i 21, own_i 19] [(.int (19 : Int32)), (.ref a3)]))
  refine own_to (fun t k => XS.aloadN X183.here hx rfl (hb hby own_d12_15) rfl rfl k) ?_
  refine own_to (fun t k => XS.iloadN X183.here hx rfl (hb hby own_d12_16) rfl k) ?_
  refine own_to (fun t k => XS.iinc X183.here hx rfl (hb hby own_d12_17) rfl (l' := #[rv a2, own_i 20, rv a3, own_i 20, own_i 21, own_i 19]) rfl k) ?_
  show own_Fin _ _ _ _ _ _ (T183.setTop (mkF m 20 #[rv a2, own_i 20, rv a3, own_i 20, own_i 21, own_i 19] [(.int (19 : Int32)), (.ref a2), (.int (19 : Int32)), (.ref a3)]))
  obtain ⟨cl185, Ar185, qa185, Sa185, Na185, Ha185, Ga185⟩ := id V2_e183
  have hin186 : ¬ ((19 : Int32) < 0 ∨ cl185.slots.size ≤ ((19 : Int32)).toNatClampNeg) := inb_of Sa185 ⟨by decide, by decide⟩
  refine own_to (fun t k => X183.baloadBytes hx (j := (19 : Int32)) (v := (.int (x19.toInt8.toInt32))) (by rw [e183]; exact Ar185.1) (State.isArrayOf_alike hZ.alike Ar185.2.1) Ar185.2.2 hin186 (Has.at Ha185 hin186 rfl) (g := (mkF m 20 #[rv a2, own_i 20, rv a3, own_i 20, own_i 21, own_i 19] [(.int (19 : Int32)), (.ref a2), (.int (19 : Int32)), (.ref a3)])) rfl rfl (hb hby own_d12_20) _ k) ?_
  show own_Fin _ _ _ _ _ _ (T183.setTop (mkF m 21 #[rv a2, own_i 20, rv a3, own_i 20, own_i 21, own_i 19] [(.int (x19.toInt8.toInt32)), (.int (19 : Int32)), (.ref a3)]))
  refine own_to (fun t k => XS.sipush X183.here hx rfl (hb hby own_d12_21) k) ?_
  refine own_to (fun t k => XS.iand X183.here hx rfl (hb hby own_d12_24) rfl k) ?_
  show own_Fin _ _ _ _ _ _ (T183.setTop (mkF m 25 #[rv a2, own_i 20, rv a3, own_i 20, own_i 21, own_i 19] [(.int ((x19.toInt8.toInt32) &&& (255 : Int32))), (.int (19 : Int32)), (.ref a3)]))
  refine own_to (fun t k => XS.i2c X183.here hx rfl (hb hby own_d12_25) rfl k) ?_
  show own_Fin _ _ _ _ _ _ (T183.setTop (mkF m 26 #[rv a2, own_i 20, rv a3, own_i 20, own_i 21, own_i 19] [(.int (((x19.toInt8.toInt32) &&& (255 : Int32)).toUInt32.toUInt16.toUInt32.toInt32)), (.int (19 : Int32)), (.ref a3)]))
  obtain ⟨cl187, Ar187, qa187, Sa187, Na187, Ha187, Ga187⟩ := id V183
  have hin188 : ¬ ((19 : Int32) < 0 ∨ cl187.slots.size ≤ ((19 : Int32)).toNatClampNeg) := inb_of Sa187 ⟨by decide, by decide⟩
  obtain ⟨T188, h188, X188, e188, W188, st188⟩ := stC X183 hx hZ e183 Ar187 (j := (19 : Int32)) hin188 (g := (mkF m 26 #[rv a2, own_i 20, rv a3, own_i 20, own_i 21, own_i 19] [(.int (((x19.toInt8.toInt32) &&& (255 : Int32)).toUInt32.toUInt16.toUInt32.toInt32)), (.int (19 : Int32)), (.ref a3)])) rfl rfl (hb hby own_d12_26)
  rw [own_inf hl19 hx19] at W188
  have N188 := Fr.snoc X188 N183 g_a3
  have KK188 : Keep h0 h188 [a3] := KK183.wr W188 (Or.inl (List.mem_of_getElem? (i := 0) rfl))
  have V2_e188 := V2_e183.other W188 ne23
  have V188 : Arv Z h188 a3 k2 .char (21 : Int32) [(.int x0), (.int x1), (.int x2), (.int x3), (.int x4), (.int x5), (.int x6), (.int x7), (.int x8), (.int x9), (.int x10), (.int x11), (.int x12), (.int x13), (.int x14), (.int x15), (.int x16), (.int x17), (.int x18), (.int x19), (.int (0 : Int32))] (.int (0 : Int32)) := Arv.set Ar187 qa187 Sa187 Na187 Ha187 Ga187 (own_fx hl19 hx19) W188 19 rfl (Nat.le_of_ble_eq_true rfl)
  refine own_to (fun t k => st188 t k) ?_
  show own_Fin _ _ _ _ _ _ (T188.setTop (mkF m 27 #[rv a2, own_i 20, rv a3, own_i 20, own_i 21, own_i 19] []))
  refine own_to (fun t k => XS.iinc X188.here hx rfl (hb hby own_d12_27) rfl (l' := #[rv a2, own_i 20, rv a3, own_i 20, own_i 21, own_i 20]) rfl k) ?_
  show own_Fin _ _ _ _ _ _ (T188.setTop (mkF m 30 #[rv a2, own_i 20, rv a3, own_i 20, own_i 21, own_i 20] []))
  refine own_to (fun t k => XS.goto X188.here hx rfl (pc0 := 30) (pc' := 3) rfl (hb hby own_d12_30) (by decide) (by decide) k) ?_
  show own_Fin _ _ _ _ _ _ (T188.setTop (mkF m 3 #[rv a2, own_i 20, rv a3, own_i 20, own_i 21, own_i 20] []))
  refine own_to (fun t k => XS.iload X188.here hx rfl (hb hby own_d12_3) rfl k) ?_
  refine own_to (fun t k => XS.iload X188.here hx rfl (hb hby own_d12_5) rfl k) ?_
  refine own_to (fun t k => XS.icmpNo X188.here hx rfl (hb hby own_d12_7) rfl (tlt (by decide)).2.1 k) ?_
  show own_Fin _ _ _ _ _ _ (T188.setTop (mkF m 10 #[rv a2, own_i 20, rv a3, own_i 20, own_i 21, own_i 20] []))
  refine own_to (fun t k => XS.aloadN X188.here hx rfl (hb hby own_d12_10) rfl rfl k) ?_
  show own_Fin _ _ _ _ _ _ (T188.setTop (mkF m 11 #[rv a2, own_i 20, rv a3, own_i 20, own_i 21, own_i 20] [(.ref a3)]))
  refine own_to (fun t k => XS.iloadN X188.here hx rfl (hb hby own_d12_11) rfl k) ?_
  refine own_to (fun t k => XS.iinc X188.here hx rfl (hb hby own_d12_12) rfl (l' := #[rv a2, own_i 20, rv a3, own_i 21, own_i 21, own_i 20]) rfl k) ?_
  show own_Fin _ _ _ _ _ _ (T188.setTop (mkF m 15 #[rv a2, own_i 20, rv a3, own_i 21, own_i 21, own_i 20] [(.int (20 : Int32)), (.ref a3)]))
  refine own_to (fun t k => XS.aloadN X188.here hx rfl (hb hby own_d12_15) rfl rfl k) ?_
  refine own_to (fun t k => XS.iloadN X188.here hx rfl (hb hby own_d12_16) rfl k) ?_
  refine own_to (fun t k => XS.iinc X188.here hx rfl (hb hby own_d12_17) rfl (l' := #[rv a2, own_i 21, rv a3, own_i 21, own_i 21, own_i 20]) rfl k) ?_
  show own_Fin _ _ _ _ _ _ (T188.setTop (mkF m 20 #[rv a2, own_i 21, rv a3, own_i 21, own_i 21, own_i 20] [(.int (20 : Int32)), (.ref a2), (.int (20 : Int32)), (.ref a3)]))
  obtain ⟨cl189, Ar189, qa189, Sa189, Na189, Ha189, Ga189⟩ := id V2_e188
  have hin190 : ¬ ((20 : Int32) < 0 ∨ cl189.slots.size ≤ ((20 : Int32)).toNatClampNeg) := inb_of Sa189 ⟨by decide, by decide⟩
  refine own_to (fun t k => X188.baloadBytes hx (j := (20 : Int32)) (v := (.int (x20.toInt8.toInt32))) (by rw [e188]; exact Ar189.1) (State.isArrayOf_alike hZ.alike Ar189.2.1) Ar189.2.2 hin190 (Has.at Ha189 hin190 rfl) (g := (mkF m 20 #[rv a2, own_i 21, rv a3, own_i 21, own_i 21, own_i 20] [(.int (20 : Int32)), (.ref a2), (.int (20 : Int32)), (.ref a3)])) rfl rfl (hb hby own_d12_20) _ k) ?_
  show own_Fin _ _ _ _ _ _ (T188.setTop (mkF m 21 #[rv a2, own_i 21, rv a3, own_i 21, own_i 21, own_i 20] [(.int (x20.toInt8.toInt32)), (.int (20 : Int32)), (.ref a3)]))
  refine own_to (fun t k => XS.sipush X188.here hx rfl (hb hby own_d12_21) k) ?_
  refine own_to (fun t k => XS.iand X188.here hx rfl (hb hby own_d12_24) rfl k) ?_
  show own_Fin _ _ _ _ _ _ (T188.setTop (mkF m 25 #[rv a2, own_i 21, rv a3, own_i 21, own_i 21, own_i 20] [(.int ((x20.toInt8.toInt32) &&& (255 : Int32))), (.int (20 : Int32)), (.ref a3)]))
  refine own_to (fun t k => XS.i2c X188.here hx rfl (hb hby own_d12_25) rfl k) ?_
  show own_Fin _ _ _ _ _ _ (T188.setTop (mkF m 26 #[rv a2, own_i 21, rv a3, own_i 21, own_i 21, own_i 20] [(.int (((x20.toInt8.toInt32) &&& (255 : Int32)).toUInt32.toUInt16.toUInt32.toInt32)), (.int (20 : Int32)), (.ref a3)]))
  obtain ⟨cl191, Ar191, qa191, Sa191, Na191, Ha191, Ga191⟩ := id V188
  have hin192 : ¬ ((20 : Int32) < 0 ∨ cl191.slots.size ≤ ((20 : Int32)).toNatClampNeg) := inb_of Sa191 ⟨by decide, by decide⟩
  obtain ⟨T192, h192, X192, e192, W192, st192⟩ := stC X188 hx hZ e188 Ar191 (j := (20 : Int32)) hin192 (g := (mkF m 26 #[rv a2, own_i 21, rv a3, own_i 21, own_i 21, own_i 20] [(.int (((x20.toInt8.toInt32) &&& (255 : Int32)).toUInt32.toUInt16.toUInt32.toInt32)), (.int (20 : Int32)), (.ref a3)])) rfl rfl (hb hby own_d12_26)
  rw [own_inf hl20 hx20] at W192
  have N192 := Fr.snoc X192 N188 g_a3
  have KK192 : Keep h0 h192 [a3] := KK188.wr W192 (Or.inl (List.mem_of_getElem? (i := 0) rfl))
  have V2_e192 := V2_e188.other W192 ne23
  have V192 : Arv Z h192 a3 k2 .char (21 : Int32) [(.int x0), (.int x1), (.int x2), (.int x3), (.int x4), (.int x5), (.int x6), (.int x7), (.int x8), (.int x9), (.int x10), (.int x11), (.int x12), (.int x13), (.int x14), (.int x15), (.int x16), (.int x17), (.int x18), (.int x19), (.int x20)] (.int (0 : Int32)) := Arv.set Ar191 qa191 Sa191 Na191 Ha191 Ga191 (own_fx hl20 hx20) W192 20 rfl (Nat.le_of_ble_eq_true rfl)
  refine own_to (fun t k => st192 t k) ?_
  show own_Fin _ _ _ _ _ _ (T192.setTop (mkF m 27 #[rv a2, own_i 21, rv a3, own_i 21, own_i 21, own_i 20] []))
  refine own_to (fun t k => XS.iinc X192.here hx rfl (hb hby own_d12_27) rfl (l' := #[rv a2, own_i 21, rv a3, own_i 21, own_i 21, own_i 21]) rfl k) ?_
  show own_Fin _ _ _ _ _ _ (T192.setTop (mkF m 30 #[rv a2, own_i 21, rv a3, own_i 21, own_i 21, own_i 21] []))
  refine own_to (fun t k => XS.goto X192.here hx rfl (pc0 := 30) (pc' := 3) rfl (hb hby own_d12_30) (by decide) (by decide) k) ?_
  show own_Fin _ _ _ _ _ _ (T192.setTop (mkF m 3 #[rv a2, own_i 21, rv a3, own_i 21, own_i 21, own_i 21] []))
  refine own_to (fun t k => XS.iload X192.here hx rfl (hb hby own_d12_3) rfl k) ?_
  refine own_to (fun t k => XS.iload X192.here hx rfl (hb hby own_d12_5) rfl k) ?_
  refine own_to (fun t k => XS.icmpYes X192.here hx rfl (pc0 := 7) (pc' := 33) rfl (hb hby own_d12_7) rfl (flt (Int32.lt_irrefl)).2.1 (by decide) (by decide) k) ?_
  show own_Fin _ _ _ _ _ _ (T192.setTop (mkF m 33 #[rv a2, own_i 21, rv a3, own_i 21, own_i 21, own_i 21] []))
  refine own_retV X192 hx hlk hret (hb hby own_d12_33) (by decide) (by decide) ?_
  try rw [e192]
  exact ⟨rfl, N192, KK192, V192⟩
theorem own_d11_0 : decode jdk_43_method_9_code 0 = .ok (.aload_n 0, 1) := by decide +kernel
theorem own_d11_1 : decode jdk_43_method_9_code 1 = .ok (.arraylength, 1) := by decide +kernel
theorem own_d11_2 : decode jdk_43_method_9_code 2 = .ok (.newarray .char, 2) := by decide +kernel
theorem own_d11_4 : decode jdk_43_method_9_code 4 = .ok (.astore_n 1, 1) := by decide +kernel
theorem own_d11_5 : decode jdk_43_method_9_code 5 = .ok (.aload_n 0, 1) := by decide +kernel
theorem own_d11_6 : decode jdk_43_method_9_code 6 = .ok (.iconst 0, 1) := by decide +kernel
theorem own_d11_7 : decode jdk_43_method_9_code 7 = .ok (.aload_n 1, 1) := by decide +kernel
theorem own_d11_8 : decode jdk_43_method_9_code 8 = .ok (.iconst 0, 1) := by decide +kernel
theorem own_d11_9 : decode jdk_43_method_9_code 9 = .ok (.aload_n 0, 1) := by decide +kernel
theorem own_d11_10 : decode jdk_43_method_9_code 10 = .ok (.arraylength, 1) := by decide +kernel
theorem own_d11_11 : decode jdk_43_method_9_code 11 = .ok (.invokestatic 13, 3) := by decide +kernel
theorem own_d11_14 : decode jdk_43_method_9_code 14 = .ok (.aload_n 1, 1) := by decide +kernel
theorem own_d11_15 : decode jdk_43_method_9_code 15 = .ok (.areturn, 1) := by decide +kernel
theorem own_pd5 : parseMethodDescriptor "([BI[CII)V" = some ⟨[(.array .byte), .int, (.array .char), .int, .int], none⟩ := by decide +kernel
theorem own_tch_ef (m : MethodId) (a2 : Addr) : entryFrame m #[(.ref a2)] 2 = mkF m 0 #[rv a2, .unset] [] := by first | (simp [entryFrame, mkF, argsToLocals, Value.category]; done) | rfl
set_option maxRecDepth 65536 in
set_option maxHeartbeats 40000000 in
theorem own_tch (l : Launch) (Z : State) (a0 : Array Value) (hw : ∀ d ∈ tables_1, d.before a0 Z = true) (ws : List Jvm.Cond) (a2 : Addr) (k3 : ClassId) (x0 : Int32) (x1 : Int32) (x2 : Int32) (x3 : Int32) (x4 : Int32) (x5 : Int32) (x6 : Int32) (x7 : Int32) (x8 : Int32) (x9 : Int32) (x10 : Int32) (x11 : Int32) (x12 : Int32) (x13 : Int32) (x14 : Int32) (x15 : Int32) (x16 : Int32) (x17 : Int32) (x18 : Int32) (x19 : Int32) (x20 : Int32) (h0 : Heap) (n0 : Nat) (Z0 : n0 ≤ h0.size) (V2 : Arv Z h0 a2 k3 .byte (21 : Int32) [(.int (x0.toInt8.toInt32)), (.int (x1.toInt8.toInt32)), (.int (x2.toInt8.toInt32)), (.int (x3.toInt8.toInt32)), (.int (x4.toInt8.toInt32)), (.int (x5.toInt8.toInt32)), (.int (x6.toInt8.toInt32)), (.int (x7.toInt8.toInt32)), (.int (x8.toInt8.toInt32)), (.int (x9.toInt8.toInt32)), (.int (x10.toInt8.toInt32)), (.int (x11.toInt8.toInt32)), (.int (x12.toInt8.toInt32)), (.int (x13.toInt8.toInt32)), (.int (x14.toInt8.toInt32)), (.int (x15.toInt8.toInt32)), (.int (x16.toInt8.toInt32)), (.int (x17.toInt8.toInt32)), (.int (x18.toInt8.toInt32)), (.int (x19.toInt8.toInt32)), (.int (x20.toInt8.toInt32))] (.int (0 : Int32))) (hx0 : ¬ (255 : Int32) < x0) (hx1 : ¬ (255 : Int32) < x1) (hx2 : ¬ (255 : Int32) < x2) (hx3 : ¬ (255 : Int32) < x3) (hx4 : ¬ (255 : Int32) < x4) (hx5 : ¬ (255 : Int32) < x5) (hx6 : ¬ (255 : Int32) < x6) (hx7 : ¬ (255 : Int32) < x7) (hx8 : ¬ (255 : Int32) < x8) (hx9 : ¬ (255 : Int32) < x9) (hx10 : ¬ (255 : Int32) < x10) (hx11 : ¬ (255 : Int32) < x11) (hx12 : ¬ (255 : Int32) < x12) (hx13 : ¬ (255 : Int32) < x13) (hx14 : ¬ (255 : Int32) < x14) (hx15 : ¬ (255 : Int32) < x15) (hx16 : ¬ (255 : Int32) < x16) (hx17 : ¬ (255 : Int32) < x17) (hx18 : ¬ (255 : Int32) < x18) (hx19 : ¬ (255 : Int32) < x19) (hx20 : ¬ (255 : Int32) < x20) (hl0 : ¬ x0 < 0) (hl1 : ¬ x1 < 0) (hl2 : ¬ x2 < 0) (hl3 : ¬ x3 < 0) (hl4 : ¬ x4 < 0) (hl5 : ¬ x5 < 0) (hl6 : ¬ x6 < 0) (hl7 : ¬ x7 < 0) (hl8 : ¬ x8 < 0) (hl9 : ¬ x9 < 0) (hl10 : ¬ x10 < 0) (hl11 : ¬ x11 < 0) (hl12 : ¬ x12 < 0) (hl13 : ¬ x13 < 0) (hl14 : ¬ x14 < 0) (hl15 : ¬ x15 < 0) (hl16 : ¬ x16 < 0) (hl17 : ¬ x17 < 0) (hl18 : ¬ x18 < 0) (hl19 : ¬ x19 < 0) (hl20 : ¬ x20 < 0) :
    own_Met l Z (⟨"java/lang/StringLatin1", "toChars", "([B)[C"⟩ : MethodName) jdk_43_method_9_code 2 (some (.array .char)) ws ({ frames := 1, cells := 1, slots := 21, locals := 24 } : Room) #[(.ref a2)] h0 (fun v h L => ∃ d k2, v = some (.ref d) ∧ Fr n0 L ∧ Keep h0 h [] ∧ n0 ≤ d ∧ h0.size ≤ d ∧ Arv Z h d k2 .char (21 : Int32) [(.int x0), (.int x1), (.int x2), (.int x3), (.int x4), (.int x5), (.int x6), (.int x7), (.int x8), (.int x9), (.int x10), (.int x11), (.int x12), (.int x13), (.int x14), (.int x15), (.int x16), (.int x17), (.int x18), (.int x19), (.int x20)] (.int (0 : Int32)) ∧ Exa Z h d "[C") := by
  refine own_enter (plainFor_of_name own_pn2) ?_
  intro p e s m below meth c s₁ X0 hx hZ hby hml hown hnm hret hlk e0
  have N0 := Fr.nil n0
  rw [own_tch_ef m a2]
  have KK0 : Keep h0 h0 [] := Keep.refl _ _
  show own_Fin _ _ _ _ _ _ (s₁.setTop (mkF m 0 #[rv a2, .unset] []))
  refine own_to (fun t k => XS.aloadN X0.here hx rfl (hb hby own_d11_0) rfl rfl k) ?_
  obtain ⟨cl193, Ar193, qa193, Sa193, Na193, Ha193, Ga193⟩ := id V2
  refine own_to (fun t k => X0.arraylength hx (by rw [e0]; exact Ar193.1) (State.isArrayOf_alike hZ.alike Ar193.2.1) (g := (mkF m 1 #[rv a2, .unset] [(.ref a2)])) rfl rfl (hb hby own_d11_1) _ k) ?_
  rw [len_of Sa193 Na193]
  show own_Fin _ _ _ _ _ _ (s₁.setTop (mkF m 2 #[rv a2, .unset] [(.int (21 : Int32))]))
  obtain ⟨T194, h194, k194, X194, e194, E194, A194, A194x, st194⟩ := newPE X0 hx hZ (own_W hw 21 rfl) e0 (g := (mkF m 2 #[rv a2, .unset] [(.int (21 : Int32))])) rfl (hb hby own_d11_2) rfl (by decide) (cap := 21) (by decide) (by decide) (by decide) (by decide) (ad := "[C") (by decide)
  obtain ⟨bc, q194⟩ : ∃ z, z = h0.size := ⟨_, rfl⟩
  rw [← q194] at A194 A194x st194
  have ne_a2_bc : a2 ≠ bc := Nat.ne_of_lt (Nat.lt_of_lt_of_le V2.lt (Nat.le_of_eq q194.symm))
  have g_bc : n0 ≤ bc := Nat.le_trans Z0 (Nat.le_of_eq q194.symm)
  have sz_bc : h0.size ≤ bc := Nat.le_trans KK0.1 (Nat.le_of_eq q194.symm)
  have KK194 : Keep h0 h194 [] := KK0.ext E194
  have V2_e194 := V2.ext E194
  have V194 := Arv.new A194 (by decide)
  refine own_to (fun t k => st194 t k) ?_
  show own_Fin _ _ _ _ _ _ (T194.setTop (mkF m 4 #[rv a2, .unset] [(.ref bc)]))
  refine own_to (fun t k => XS.astoreN X194.here hx rfl (hb hby own_d11_4) rfl rfl (l' := #[rv a2, rv bc]) rfl k) ?_
  show own_Fin _ _ _ _ _ _ (T194.setTop (mkF m 5 #[rv a2, rv bc] []))
  refine own_to (fun t k => XS.aloadN X194.here hx rfl (hb hby own_d11_5) rfl rfl k) ?_
  refine own_to (fun t k => XS.iconst X194.here hx rfl (hb hby own_d11_6) k) ?_
  refine own_to (fun t k => XS.aloadN X194.here hx rfl (hb hby own_d11_7) rfl rfl k) ?_
  show own_Fin _ _ _ _ _ _ (T194.setTop (mkF m 8 #[rv a2, rv bc] [(.ref bc), (.int (0 : Int32)), (.ref a2)]))
  refine own_to (fun t k => XS.iconst X194.here hx rfl (hb hby own_d11_8) k) ?_
  refine own_to (fun t k => XS.aloadN X194.here hx rfl (hb hby own_d11_9) rfl rfl k) ?_
  obtain ⟨cl195, Ar195, qa195, Sa195, Na195, Ha195, Ga195⟩ := id V2_e194
  refine own_to (fun t k => X194.arraylength hx (by rw [e194]; exact Ar195.1) (State.isArrayOf_alike hZ.alike Ar195.2.1) (g := (mkF m 10 #[rv a2, rv bc] [(.ref a2), (.int (0 : Int32)), (.ref bc), (.int (0 : Int32)), (.ref a2)])) rfl rfl (hb hby own_d11_10) _ k) ?_
  rw [len_of Sa195 Na195]
  show own_Fin _ _ _ _ _ _ (T194.setTop (mkF m 11 #[rv a2, rv bc] [(.int (21 : Int32)), (.int (0 : Int32)), (.ref bc), (.int (0 : Int32)), (.ref a2)]))
  have V196p : Arv Z h194 bc k194 .char (21 : Int32) [(.int (0 : Int32)), (.int (0 : Int32)), (.int (0 : Int32)), (.int (0 : Int32)), (.int (0 : Int32)), (.int (0 : Int32)), (.int (0 : Int32)), (.int (0 : Int32)), (.int (0 : Int32)), (.int (0 : Int32)), (.int (0 : Int32)), (.int (0 : Int32)), (.int (0 : Int32)), (.int (0 : Int32)), (.int (0 : Int32)), (.int (0 : Int32)), (.int (0 : Int32)), (.int (0 : Int32)), (.int (0 : Int32)), (.int (0 : Int32)), (.int (0 : Int32))] (.int (0 : Int32)) := V194.pad (pad_rep [] (.int (0 : Int32)) 21)
  obtain ⟨_, _, ⟨T197, L197, k197, n197⟩, -, X197, ⟨Lc197, hQ197, l197, y197, z197⟩, st197⟩ := Jvm.LawKit.callS X194 hx (y := (⟨"java/lang/StringLatin1", "inflate", "([BI[CII)V"⟩ : MethodName)) hown (mvT hZ (own_W hw 81 rfl)) (mvT hZ (own_W hw 82 rfl)) (mvT hZ (own_W hw 79 rfl)) (mvT hZ (own_W hw 83 rfl)) (by decide) (own_back (W := 0) (own_infl l Z a0 hw [] a2 bc k3 k194 x0 x1 x2 x3 x4 x5 x6 x7 x8 x9 x10 x11 x12 x13 x14 x15 x16 x17 x18 x19 x20 h194 n0 (Nat.le_trans Z0 E194.1) V2_e194 V196p g_bc ne_a2_bc hx0 hx1 hx2 hx3 hx4 hx5 hx6 hx7 hx8 hx9 hx10 hx11 hx12 hx13 hx14 hx15 hx16 hx17 hx18 hx19 hx20 hl0 hl1 hl2 hl3 hl4 hl5 hl6 hl7 hl8 hl9 hl10 hl11 hl12 hl13 hl14 hl15 hl16 hl17 hl18 hl19 hl20) hZ (own_W hw 83 rfl) (own_W hw 79 rfl) (by decide) (by decide)) (g := (mkF m 11 #[rv a2, rv bc] [(.int (21 : Int32)), (.int (0 : Int32)), (.ref bc), (.int (0 : Int32)), (.ref a2)])) rfl (by rw [hml]; rfl) (argsL := [(.ref a2), (.int (0 : Int32)), (.ref bc), (.int (0 : Int32)), (.int (21 : Int32))]) (rest := []) (lenOf own_pd5 rfl) rfl (by show 2 * 0 + _ ≤ _; exact Nat.le_of_eq rfl) (hb hby own_d11_11) (fun _ _ => ⟨rfl, e194, (by decide : 1 + 0 ≤ _), (by decide : 21 + 0 ≤ _)⟩)
  dsimp only [Pt.U, Pt.locs, Pt.cells, Pt.slots] at X197 l197 y197 z197 st197 hQ197
  rw [l197, y197, z197] at X197
  obtain ⟨rfl, N197q, K197, Vd197⟩ := hQ197
  have N197 := Fr.app N0 N197q
  have KK197 : Keep h0 T197.heap [] := KK194.trans K197 (allS (Or.inr sz_bc) all0)
  have V2_e197 := V2_e194.keep K197 (ninS ne_a2_bc nin0)
  have A194x_e197 := A194x.keep K197
  refine own_to (fun t k => st197 t k) ?_
  show own_Fin _ _ _ _ _ _ (T197.setTop (mkF m 14 #[rv a2, rv bc] []))
  refine own_to (fun t k => XS.aloadN X197.here hx rfl (hb hby own_d11_14) rfl rfl k) ?_
  show own_Fin _ _ _ _ _ _ (T197.setTop (mkF m 15 #[rv a2, rv bc] [(.ref bc)]))
  refine own_retR X197 hx hlk hret rfl rfl rfl (hb hby own_d11_15) (by decide) (by decide) ?_
  exact ⟨bc, k194, rfl, N197, KK197, g_bc, sz_bc, Vd197, A194x_e197⟩
theorem own_d10_0 : decode jdk_42_method_154_code 0 = .ok (.getstatic 38, 3) := by decide +kernel
theorem own_d10_3 : decode jdk_42_method_154_code 3 = .ok (.ifCond .eq 14, 3) := by decide +kernel
theorem own_d10_6 : decode jdk_42_method_154_code 6 = .ok (.aload_n 0, 1) := by decide +kernel
theorem own_d10_7 : decode jdk_42_method_154_code 7 = .ok (.getfield 15, 3) := by decide +kernel
theorem own_d10_10 : decode jdk_42_method_154_code 10 = .ok (.ifCond .ne 7, 3) := by decide +kernel
theorem own_d10_13 : decode jdk_42_method_154_code 13 = .ok (.iconst 1, 1) := by decide +kernel
theorem own_d10_14 : decode jdk_42_method_154_code 14 = .ok (.goto 4, 3) := by decide +kernel
theorem own_d10_17 : decode jdk_42_method_154_code 17 = .ok (.iconst 0, 1) := by decide +kernel
theorem own_d10_18 : decode jdk_42_method_154_code 18 = .ok (.ireturn, 1) := by decide +kernel
theorem own_isl_ef (m : MethodId) (a1 : Addr) : entryFrame m #[(.ref a1)] 1 = mkF m 0 #[rv a1] [] := by first | (simp [entryFrame, mkF, argsToLocals, Value.category]; done) | rfl
set_option maxRecDepth 65536 in
set_option maxHeartbeats 40000000 in
theorem own_isl (l : Launch) (Z : State) (a0 : Array Value) (hw : ∀ d ∈ tables_1, d.before a0 Z = true) (ws : List Jvm.Cond) (cs : Int32) (a1 : Addr) (h0 : Heap) (n0 : Nat) (Z0 : n0 ≤ h0.size) (O0 : Old Z n0 h0) (SS : Sta Z Z.heap "java/lang/String" "COMPACT_STRINGS" "Z" (.int cs)) (hcs : ¬ cs = (0 : Int32)) (F2 : Fld Z h0 a1 "java/lang/String" "coder" "B" (.int (0 : Int32))) :
    own_Met l Z (⟨"java/lang/String", "isLatin1", "()Z"⟩ : MethodName) jdk_42_method_154_code 1 (some .boolean) ws ({ frames := 0, cells := 0, slots := 0, locals := 0 } : Room) #[(.ref a1)] h0 (fun v h L => v = some (.int (1 : Int32)) ∧ Fr n0 L ∧ h = h0) := by
  refine own_enter (plainFor_of_name own_pn1) ?_
  intro p e s m below meth c s₁ X0 hx hZ hby hml hown hnm hret hlk e0
  have N0 := Fr.nil n0
  rw [own_isl_ef m a1]
  show own_Fin _ _ _ _ _ _ (s₁.setTop (mkF m 0 #[rv a1] []))
  obtain ⟨T198, X198, e198, st198⟩ := getS2 X0 hx hZ hown (host := "") (Or.inl (own_W hw 42 rfl)) Via.refl e0 (SS.ext O0.2) (g := (mkF m 0 #[rv a1] [])) rfl (hb hby own_d10_0)
  refine own_to (fun t k => st198 t k) ?_
  show own_Fin _ _ _ _ _ _ (T198.setTop (mkF m 3 #[rv a1] [(.int cs)]))
  refine own_to (fun t k => XS.ifNo X198.here hx rfl (hb hby own_d10_3) rfl ((if0 _ _).trans (feq hcs).1) k) ?_
  show own_Fin _ _ _ _ _ _ (T198.setTop (mkF m 6 #[rv a1] []))
  refine own_to (fun t k => XS.aloadN X198.here hx rfl (hb hby own_d10_6) rfl rfl k) ?_
  obtain ⟨T199, X199, e199, st199⟩ := getF X198 hx hZ hown (host := "") (Or.inl (own_W hw 54 rfl)) Via.refl e198 F2 (g := (mkF m 7 #[rv a1] [(.ref a1)])) rfl rfl (hb hby own_d10_7)
  refine own_to (fun t k => st199 t k) ?_
  show own_Fin _ _ _ _ _ _ (T199.setTop (mkF m 10 #[rv a1] [(.int (0 : Int32))]))
  refine own_to (fun t k => XS.ifNo X199.here hx rfl (hb hby own_d10_10) rfl ((if0 _ _).trans (teq rfl).2) k) ?_
  show own_Fin _ _ _ _ _ _ (T199.setTop (mkF m 13 #[rv a1] []))
  refine own_to (fun t k => XS.iconst X199.here hx rfl (hb hby own_d10_13) k) ?_
  refine own_to (fun t k => XS.goto X199.here hx rfl (pc0 := 14) (pc' := 18) rfl (hb hby own_d10_14) (by decide) (by decide) k) ?_
  show own_Fin _ _ _ _ _ _ (T199.setTop (mkF m 18 #[rv a1] [(.int (1 : Int32))]))
  refine own_retN X199 hx hlk (t := .boolean) hret (by simp) (hb hby own_d10_18) (by decide) (by decide) ?_
  try rw [e199]
  exact ⟨rfl, N0, rfl⟩
theorem own_d9_0 : decode jdk_42_method_129_code 0 = .ok (.aload_n 0, 1) := by decide +kernel
theorem own_d9_1 : decode jdk_42_method_129_code 1 = .ok (.invokevirtual 492, 3) := by decide +kernel
theorem own_d9_4 : decode jdk_42_method_129_code 4 = .ok (.ifCond .eq 13, 3) := by decide +kernel
theorem own_d9_7 : decode jdk_42_method_129_code 7 = .ok (.aload_n 0, 1) := by decide +kernel
theorem own_d9_8 : decode jdk_42_method_129_code 8 = .ok (.getfield 9, 3) := by decide +kernel
theorem own_d9_11 : decode jdk_42_method_129_code 11 = .ok (.invokestatic 299, 3) := by decide +kernel
theorem own_d9_14 : decode jdk_42_method_129_code 14 = .ok (.goto 10, 3) := by decide +kernel
theorem own_d9_17 : decode jdk_42_method_129_code 17 = .ok (.aload_n 0, 1) := by decide +kernel
theorem own_d9_18 : decode jdk_42_method_129_code 18 = .ok (.getfield 9, 3) := by decide +kernel
theorem own_d9_21 : decode jdk_42_method_129_code 21 = .ok (.invokestatic 303, 3) := by decide +kernel
theorem own_d9_24 : decode jdk_42_method_129_code 24 = .ok (.areturn, 1) := by decide +kernel
theorem own_pd6 : parseMethodDescriptor "()Z" = some ⟨[], some .boolean⟩ := by decide +kernel
theorem own_pd7 : parseMethodDescriptor "([B)[C" = some ⟨[(.array .byte)], some (.array .char)⟩ := by decide +kernel
theorem own_tca_ef (m : MethodId) (a1 : Addr) : entryFrame m #[(.ref a1)] 1 = mkF m 0 #[rv a1] [] := by first | (simp [entryFrame, mkF, argsToLocals, Value.category]; done) | rfl
set_option maxRecDepth 65536 in
set_option maxHeartbeats 40000000 in
theorem own_tca (l : Launch) (Z : State) (a0 : Array Value) (hw : ∀ d ∈ tables_1, d.before a0 Z = true) (ws : List Jvm.Cond) (cs : Int32) (a1 : Addr) (d : Addr) (k3 : ClassId) (x0 : Int32) (x1 : Int32) (x2 : Int32) (x3 : Int32) (x4 : Int32) (x5 : Int32) (x6 : Int32) (x7 : Int32) (x8 : Int32) (x9 : Int32) (x10 : Int32) (x11 : Int32) (x12 : Int32) (x13 : Int32) (x14 : Int32) (x15 : Int32) (x16 : Int32) (x17 : Int32) (x18 : Int32) (x19 : Int32) (x20 : Int32) (h0 : Heap) (n0 : Nat) (Z0 : n0 ≤ h0.size) (O0 : Old Z n0 h0) (SS : Sta Z Z.heap "java/lang/String" "COMPACT_STRINGS" "Z" (.int cs)) (hcs : ¬ cs = (0 : Int32)) (E1 : Exa Z h0 a1 "java/lang/String") (F1 : Fld Z h0 a1 "java/lang/String" "value" "[B" (.ref d)) (F2 : Fld Z h0 a1 "java/lang/String" "coder" "B" (.int (0 : Int32))) (V2 : Arv Z h0 d k3 .byte (21 : Int32) [(.int (x0.toInt8.toInt32)), (.int (x1.toInt8.toInt32)), (.int (x2.toInt8.toInt32)), (.int (x3.toInt8.toInt32)), (.int (x4.toInt8.toInt32)), (.int (x5.toInt8.toInt32)), (.int (x6.toInt8.toInt32)), (.int (x7.toInt8.toInt32)), (.int (x8.toInt8.toInt32)), (.int (x9.toInt8.toInt32)), (.int (x10.toInt8.toInt32)), (.int (x11.toInt8.toInt32)), (.int (x12.toInt8.toInt32)), (.int (x13.toInt8.toInt32)), (.int (x14.toInt8.toInt32)), (.int (x15.toInt8.toInt32)), (.int (x16.toInt8.toInt32)), (.int (x17.toInt8.toInt32)), (.int (x18.toInt8.toInt32)), (.int (x19.toInt8.toInt32)), (.int (x20.toInt8.toInt32))] (.int (0 : Int32))) (hx0 : ¬ (255 : Int32) < x0) (hx1 : ¬ (255 : Int32) < x1) (hx2 : ¬ (255 : Int32) < x2) (hx3 : ¬ (255 : Int32) < x3) (hx4 : ¬ (255 : Int32) < x4) (hx5 : ¬ (255 : Int32) < x5) (hx6 : ¬ (255 : Int32) < x6) (hx7 : ¬ (255 : Int32) < x7) (hx8 : ¬ (255 : Int32) < x8) (hx9 : ¬ (255 : Int32) < x9) (hx10 : ¬ (255 : Int32) < x10) (hx11 : ¬ (255 : Int32) < x11) (hx12 : ¬ (255 : Int32) < x12) (hx13 : ¬ (255 : Int32) < x13) (hx14 : ¬ (255 : Int32) < x14) (hx15 : ¬ (255 : Int32) < x15) (hx16 : ¬ (255 : Int32) < x16) (hx17 : ¬ (255 : Int32) < x17) (hx18 : ¬ (255 : Int32) < x18) (hx19 : ¬ (255 : Int32) < x19) (hx20 : ¬ (255 : Int32) < x20) (hl0 : ¬ x0 < 0) (hl1 : ¬ x1 < 0) (hl2 : ¬ x2 < 0) (hl3 : ¬ x3 < 0) (hl4 : ¬ x4 < 0) (hl5 : ¬ x5 < 0) (hl6 : ¬ x6 < 0) (hl7 : ¬ x7 < 0) (hl8 : ¬ x8 < 0) (hl9 : ¬ x9 < 0) (hl10 : ¬ x10 < 0) (hl11 : ¬ x11 < 0) (hl12 : ¬ x12 < 0) (hl13 : ¬ x13 < 0) (hl14 : ¬ x14 < 0) (hl15 : ¬ x15 < 0) (hl16 : ¬ x16 < 0) (hl17 : ¬ x17 < 0) (hl18 : ¬ x18 < 0) (hl19 : ¬ x19 < 0) (hl20 : ¬ x20 < 0) :
    own_Met l Z (⟨"java/lang/String", "toCharArray", "()[C"⟩ : MethodName) jdk_42_method_129_code 1 (some (.array .char)) ws ({ frames := 2, cells := 1, slots := 21, locals := 40 } : Room) #[(.ref a1)] h0 (fun v h L => ∃ d k2, v = some (.ref d) ∧ Fr n0 L ∧ Keep h0 h [] ∧ n0 ≤ d ∧ h0.size ≤ d ∧ Arv Z h d k2 .char (21 : Int32) [(.int x0), (.int x1), (.int x2), (.int x3), (.int x4), (.int x5), (.int x6), (.int x7), (.int x8), (.int x9), (.int x10), (.int x11), (.int x12), (.int x13), (.int x14), (.int x15), (.int x16), (.int x17), (.int x18), (.int x19), (.int x20)] (.int (0 : Int32)) ∧ Exa Z h d "[C") := by
  refine own_enter (plainFor_of_name own_pn1) ?_
  intro p e s m below meth c s₁ X0 hx hZ hby hml hown hnm hret hlk e0
  have N0 := Fr.nil n0
  rw [own_tca_ef m a1]
  have KK0 : Keep h0 h0 [] := Keep.refl _ _
  show own_Fin _ _ _ _ _ _ (s₁.setTop (mkF m 0 #[rv a1] []))
  refine own_to (fun t k => XS.aloadN X0.here hx rfl (hb hby own_d9_0) rfl rfl k) ?_
  obtain ⟨cq200, kq200, q200a, q200b, q200c⟩ := isOf hZ e0 E1
  obtain ⟨_, _, ⟨T200, L200, k200, n200⟩, -, X200, ⟨Lc200, hQ200, l200, y200, z200⟩, st200⟩ := X0.virtualBack hx (y := (⟨"java/lang/String", "isLatin1", "()Z"⟩ : MethodName)) (z := (⟨"java/lang/String", "isLatin1", "()Z"⟩ : MethodName)) hown (mvT hZ (own_W hw 72 rfl)) (mvT hZ (own_W hw 73 rfl)) (notFace_of_selects (args := #[]) (mvT hZ (own_W hw 75 rfl))) (mvT hZ (own_W hw 75 rfl)) (mvT hZ (own_W hw 74 rfl)) (by decide) (own_back (W := 0) (own_isl l Z a0 hw [] cs a1 h0 n0 Z0 O0 SS hcs F2) hZ (own_W hw 76 rfl) (own_W hw 31 rfl) (by decide) (by decide)) q200a q200c (g := (mkF m 1 #[rv a1] [(.ref a1)])) rfl (by rw [hml]; rfl) (Steps.refl _) (argsL := []) (rest := []) (lenOf own_pd6 rfl) rfl (by show 2 * 0 + _ ≤ _; exact Nat.le_of_eq rfl) (hb hby own_d9_1) (fun _ _ => ⟨rfl, e0, (by decide : 0 + 0 ≤ _), (by decide : 0 + 0 ≤ _)⟩)
  dsimp only [Pt.U, Pt.locs, Pt.cells, Pt.slots] at X200 l200 y200 z200 st200 hQ200
  rw [l200, y200, z200] at X200
  obtain ⟨rfl, N200q, eh200⟩ := hQ200
  have N200 := Fr.app N0 N200q
  refine own_to (fun t k => st200.trans k) ?_
  show own_Fin _ _ _ _ _ _ (T200.setTop (mkF m 4 #[rv a1] [(.int (1 : Int32))]))
  refine own_to (fun t k => XS.ifNo X200.here hx rfl (hb hby own_d9_4) rfl ((if0 _ _).trans (feq (by decide)).1) k) ?_
  show own_Fin _ _ _ _ _ _ (T200.setTop (mkF m 7 #[rv a1] []))
  refine own_to (fun t k => XS.aloadN X200.here hx rfl (hb hby own_d9_7) rfl rfl k) ?_
  obtain ⟨T201, X201, e201, st201⟩ := getF X200 hx hZ hown (host := "") (Or.inl (own_W hw 56 rfl)) Via.refl eh200 F1 (g := (mkF m 8 #[rv a1] [(.ref a1)])) rfl rfl (hb hby own_d9_8)
  refine own_to (fun t k => st201 t k) ?_
  show own_Fin _ _ _ _ _ _ (T201.setTop (mkF m 11 #[rv a1] [(.ref d)]))
  obtain ⟨_, _, ⟨T202, L202, k202, n202⟩, -, X202, ⟨Lc202, hQ202, l202, y202, z202⟩, st202⟩ := Jvm.LawKit.callS X201 hx (y := (⟨"java/lang/StringLatin1", "toChars", "([B)[C"⟩ : MethodName)) hown (mvT hZ (own_W hw 77 rfl)) (mvT hZ (own_W hw 78 rfl)) (mvT hZ (own_W hw 79 rfl)) (mvT hZ (own_W hw 80 rfl)) (by decide) (own_back (W := 0) (own_tch l Z a0 hw [] d k3 x0 x1 x2 x3 x4 x5 x6 x7 x8 x9 x10 x11 x12 x13 x14 x15 x16 x17 x18 x19 x20 h0 n0 Z0 V2 hx0 hx1 hx2 hx3 hx4 hx5 hx6 hx7 hx8 hx9 hx10 hx11 hx12 hx13 hx14 hx15 hx16 hx17 hx18 hx19 hx20 hl0 hl1 hl2 hl3 hl4 hl5 hl6 hl7 hl8 hl9 hl10 hl11 hl12 hl13 hl14 hl15 hl16 hl17 hl18 hl19 hl20) hZ (own_W hw 80 rfl) (own_W hw 79 rfl) (by decide) (by decide)) (g := (mkF m 11 #[rv a1] [(.ref d)])) rfl (by rw [hml]; rfl) (argsL := [(.ref d)]) (rest := []) (lenOf own_pd7 rfl) rfl (by show 2 * 0 + _ ≤ _; exact Nat.le_of_eq rfl) (hb hby own_d9_11) (fun _ _ => ⟨rfl, e201, (by decide : 0 + 1 ≤ _), (by decide : 0 + 21 ≤ _)⟩)
  dsimp only [Pt.U, Pt.locs, Pt.cells, Pt.slots] at X202 l202 y202 z202 st202 hQ202
  rw [l202, y202, z202] at X202
  obtain ⟨t, k2, rfl, N202q, K202, g_t, szt, V_t, E_t⟩ := hQ202
  have N202 := Fr.app N200 N202q
  have ne_a1_t : a1 ≠ t := Nat.ne_of_lt (Nat.lt_of_lt_of_le E1.lt szt)
  have ne_d_t : d ≠ t := Nat.ne_of_lt (Nat.lt_of_lt_of_le V2.lt szt)
  have sz_t : h0.size ≤ t := Nat.le_trans KK0.1 szt
  have O202 := O0.keep K202 all0
  have KK202 : Keep h0 T202.heap [] := KK0.trans K202 all0
  have E1_e202 := E1.keep K202
  have F1_e202 := F1.keep K202 nin0
  have F2_e202 := F2.keep K202 nin0
  have V2_e202 := V2.keep K202 nin0
  refine own_to (fun t k => st202 t k) ?_
  show own_Fin _ _ _ _ _ _ (T202.setTop (mkF m 14 #[rv a1] [(.ref t)]))
  refine own_to (fun t k => XS.goto X202.here hx rfl (pc0 := 14) (pc' := 24) rfl (hb hby own_d9_14) (by decide) (by decide) k) ?_
  show own_Fin _ _ _ _ _ _ (T202.setTop (mkF m 24 #[rv a1] [(.ref t)]))
  refine own_retR X202 hx hlk hret rfl rfl rfl (hb hby own_d9_24) (by decide) (by decide) ?_
  exact ⟨t, k2, rfl, N202, KK202, g_t, sz_t, V_t, E_t⟩
def own_ws (p1 : Int32) : Int32 := (if p1 = (32 : Int32) then (1 : Int32) else (if p1 = (9 : Int32) then (1 : Int32) else (if p1 = (10 : Int32) then (1 : Int32) else (if p1 = (13 : Int32) then (1 : Int32) else (0 : Int32)))))
theorem own_d14_0 : decode prog_147_method_4_code 0 = .ok (.iload_n 0, 1) := by decide +kernel
theorem own_d14_1 : decode prog_147_method_4_code 1 = .ok (.bipush 32, 2) := by decide +kernel
theorem own_d14_3 : decode prog_147_method_4_code 3 = .ok (.if_icmp .eq 21, 3) := by decide +kernel
theorem own_d14_6 : decode prog_147_method_4_code 6 = .ok (.iload_n 0, 1) := by decide +kernel
theorem own_d14_7 : decode prog_147_method_4_code 7 = .ok (.bipush 9, 2) := by decide +kernel
theorem own_d14_9 : decode prog_147_method_4_code 9 = .ok (.if_icmp .eq 15, 3) := by decide +kernel
theorem own_d14_12 : decode prog_147_method_4_code 12 = .ok (.iload_n 0, 1) := by decide +kernel
theorem own_d14_13 : decode prog_147_method_4_code 13 = .ok (.bipush 10, 2) := by decide +kernel
theorem own_d14_15 : decode prog_147_method_4_code 15 = .ok (.if_icmp .eq 9, 3) := by decide +kernel
theorem own_d14_18 : decode prog_147_method_4_code 18 = .ok (.iload_n 0, 1) := by decide +kernel
theorem own_d14_19 : decode prog_147_method_4_code 19 = .ok (.bipush 13, 2) := by decide +kernel
theorem own_d14_21 : decode prog_147_method_4_code 21 = .ok (.if_icmp .ne 7, 3) := by decide +kernel
theorem own_d14_24 : decode prog_147_method_4_code 24 = .ok (.iconst 1, 1) := by decide +kernel
theorem own_d14_25 : decode prog_147_method_4_code 25 = .ok (.goto 4, 3) := by decide +kernel
theorem own_d14_28 : decode prog_147_method_4_code 28 = .ok (.iconst 0, 1) := by decide +kernel
theorem own_d14_29 : decode prog_147_method_4_code 29 = .ok (.ireturn, 1) := by decide +kernel
theorem own_pn3 : plainName "com/example/libxqtype/libxqtype/XmlCharacters" = true := by first | (simp [plainName, overriddenIn]; done) | decide +kernel
theorem own_wsr_ef (m : MethodId) (p1 : Int32) : entryFrame m #[(.int p1)] 1 = mkF m 0 #[.val (.int p1)] [] := by first | (simp [entryFrame, mkF, argsToLocals, Value.category]; done) | rfl
set_option maxRecDepth 65536 in
set_option maxHeartbeats 40000000 in
theorem own_wsr (l : Launch) (Z : State) (a0 : Array Value) (hw : ∀ d ∈ tables_1, d.before a0 Z = true) (ws : List Jvm.Cond) (p1 : Int32) (h0 : Heap) (n0 : Nat) (Z0 : n0 ≤ h0.size) :
    own_Met l Z (⟨"com/example/libxqtype/libxqtype/XmlCharacters", "isWhitespace", "(C)Z"⟩ : MethodName) prog_147_method_4_code 1 (some .boolean) ws ({ frames := 0, cells := 0, slots := 0, locals := 0 } : Room) #[(.int p1)] h0 (fun v h L => v = some (.int (own_ws p1)) ∧ Fr n0 L ∧ h = h0) := by
  refine own_enter (plainFor_of_name own_pn3) ?_
  intro p e s m below meth c s₁ X0 hx hZ hby hml hown hnm hret hlk e0
  have N0 := Fr.nil n0
  rw [own_wsr_ef m p1]
  show own_Fin _ _ _ _ _ _ (s₁.setTop (mkF m 0 #[.val (.int p1)] []))
  refine own_to (fun t k => XS.iloadN X0.here hx rfl (hb hby own_d14_0) rfl k) ?_
  refine own_to (fun t k => XS.bipush X0.here hx rfl (hb hby own_d14_1) k) ?_
  by_cases hc3_203 : p1 = (32 : Int32)
  ·
    show own_Fin _ _ _ _ _ _ (s₁.setTop (mkF m 3 #[.val (.int p1)] [(.int (32 : Int32)), (.int p1)]))
    refine own_to (fun t k => XS.icmpYes X0.here hx rfl (pc0 := 3) (pc' := 24) rfl (hb hby own_d14_3) rfl (teq hc3_203).1 (by decide) (by decide) k) ?_
    show own_Fin _ _ _ _ _ _ (s₁.setTop (mkF m 24 #[.val (.int p1)] []))
    refine own_to (fun t k => XS.iconst X0.here hx rfl (hb hby own_d14_24) k) ?_
    show own_Fin _ _ _ _ _ _ (s₁.setTop (mkF m 25 #[.val (.int p1)] [(.int (1 : Int32))]))
    refine own_to (fun t k => XS.goto X0.here hx rfl (pc0 := 25) (pc' := 29) rfl (hb hby own_d14_25) (by decide) (by decide) k) ?_
    show own_Fin _ _ _ _ _ _ (s₁.setTop (mkF m 29 #[.val (.int p1)] [(.int (1 : Int32))]))
    refine own_retN X0 hx hlk (t := .boolean) hret (by simp) (hb hby own_d14_29) (by decide) (by decide) ?_
    try rw [e0]
    exact ⟨congrArg (fun z => some (Value.int z)) (Eq.symm (show own_ws p1 = _ from ((if_pos hc3_203).trans rfl))), N0, rfl⟩
  ·
    show own_Fin _ _ _ _ _ _ (s₁.setTop (mkF m 3 #[.val (.int p1)] [(.int (32 : Int32)), (.int p1)]))
    refine own_to (fun t k => XS.icmpNo X0.here hx rfl (hb hby own_d14_3) rfl (feq hc3_203).1 k) ?_
    show own_Fin _ _ _ _ _ _ (s₁.setTop (mkF m 6 #[.val (.int p1)] []))
    refine own_to (fun t k => XS.iloadN X0.here hx rfl (hb hby own_d14_6) rfl k) ?_
    show own_Fin _ _ _ _ _ _ (s₁.setTop (mkF m 7 #[.val (.int p1)] [(.int p1)]))
    refine own_to (fun t k => XS.bipush X0.here hx rfl (hb hby own_d14_7) k) ?_
    by_cases hc9_204 : p1 = (9 : Int32)
    ·
      show own_Fin _ _ _ _ _ _ (s₁.setTop (mkF m 9 #[.val (.int p1)] [(.int (9 : Int32)), (.int p1)]))
      refine own_to (fun t k => XS.icmpYes X0.here hx rfl (pc0 := 9) (pc' := 24) rfl (hb hby own_d14_9) rfl (teq hc9_204).1 (by decide) (by decide) k) ?_
      show own_Fin _ _ _ _ _ _ (s₁.setTop (mkF m 24 #[.val (.int p1)] []))
      refine own_to (fun t k => XS.iconst X0.here hx rfl (hb hby own_d14_24) k) ?_
      refine own_to (fun t k => XS.goto X0.here hx rfl (pc0 := 25) (pc' := 29) rfl (hb hby own_d14_25) (by decide) (by decide) k) ?_
      show own_Fin _ _ _ _ _ _ (s₁.setTop (mkF m 29 #[.val (.int p1)] [(.int (1 : Int32))]))
      refine own_retN X0 hx hlk (t := .boolean) hret (by simp) (hb hby own_d14_29) (by decide) (by decide) ?_
      try rw [e0]
      exact ⟨congrArg (fun z => some (Value.int z)) (Eq.symm (show own_ws p1 = _ from ((if_neg hc3_203).trans ((if_pos hc9_204).trans rfl)))), N0, rfl⟩
    ·
      show own_Fin _ _ _ _ _ _ (s₁.setTop (mkF m 9 #[.val (.int p1)] [(.int (9 : Int32)), (.int p1)]))
      refine own_to (fun t k => XS.icmpNo X0.here hx rfl (hb hby own_d14_9) rfl (feq hc9_204).1 k) ?_
      show own_Fin _ _ _ _ _ _ (s₁.setTop (mkF m 12 #[.val (.int p1)] []))
      refine own_to (fun t k => XS.iloadN X0.here hx rfl (hb hby own_d14_12) rfl k) ?_
      refine own_to (fun t k => XS.bipush X0.here hx rfl (hb hby own_d14_13) k) ?_
      show own_Fin _ _ _ _ _ _ (s₁.setTop (mkF m 15 #[.val (.int p1)] [(.int (10 : Int32)), (.int p1)]))
      by_cases hc15_205 : p1 = (10 : Int32)
      ·
        show own_Fin _ _ _ _ _ _ (s₁.setTop (mkF m 15 #[.val (.int p1)] [(.int (10 : Int32)), (.int p1)]))
        refine own_to (fun t k => XS.icmpYes X0.here hx rfl (pc0 := 15) (pc' := 24) rfl (hb hby own_d14_15) rfl (teq hc15_205).1 (by decide) (by decide) k) ?_
        show own_Fin _ _ _ _ _ _ (s₁.setTop (mkF m 24 #[.val (.int p1)] []))
        refine own_to (fun t k => XS.iconst X0.here hx rfl (hb hby own_d14_24) k) ?_
        refine own_to (fun t k => XS.goto X0.here hx rfl (pc0 := 25) (pc' := 29) rfl (hb hby own_d14_25) (by decide) (by decide) k) ?_
        show own_Fin _ _ _ _ _ _ (s₁.setTop (mkF m 29 #[.val (.int p1)] [(.int (1 : Int32))]))
        refine own_retN X0 hx hlk (t := .boolean) hret (by simp) (hb hby own_d14_29) (by decide) (by decide) ?_
        try rw [e0]
        exact ⟨congrArg (fun z => some (Value.int z)) (Eq.symm (show own_ws p1 = _ from ((if_neg hc3_203).trans ((if_neg hc9_204).trans ((if_pos hc15_205).trans rfl))))), N0, rfl⟩
      ·
        show own_Fin _ _ _ _ _ _ (s₁.setTop (mkF m 15 #[.val (.int p1)] [(.int (10 : Int32)), (.int p1)]))
        refine own_to (fun t k => XS.icmpNo X0.here hx rfl (hb hby own_d14_15) rfl (feq hc15_205).1 k) ?_
        show own_Fin _ _ _ _ _ _ (s₁.setTop (mkF m 18 #[.val (.int p1)] []))
        refine own_to (fun t k => XS.iloadN X0.here hx rfl (hb hby own_d14_18) rfl k) ?_
        refine own_to (fun t k => XS.bipush X0.here hx rfl (hb hby own_d14_19) k) ?_
        by_cases hc21_206 : p1 = (13 : Int32)
        ·
          show own_Fin _ _ _ _ _ _ (s₁.setTop (mkF m 21 #[.val (.int p1)] [(.int (13 : Int32)), (.int p1)]))
          refine own_to (fun t k => XS.icmpNo X0.here hx rfl (hb hby own_d14_21) rfl (teq hc21_206).2 k) ?_
          show own_Fin _ _ _ _ _ _ (s₁.setTop (mkF m 24 #[.val (.int p1)] []))
          refine own_to (fun t k => XS.iconst X0.here hx rfl (hb hby own_d14_24) k) ?_
          show own_Fin _ _ _ _ _ _ (s₁.setTop (mkF m 25 #[.val (.int p1)] [(.int (1 : Int32))]))
          refine own_to (fun t k => XS.goto X0.here hx rfl (pc0 := 25) (pc' := 29) rfl (hb hby own_d14_25) (by decide) (by decide) k) ?_
          show own_Fin _ _ _ _ _ _ (s₁.setTop (mkF m 29 #[.val (.int p1)] [(.int (1 : Int32))]))
          refine own_retN X0 hx hlk (t := .boolean) hret (by simp) (hb hby own_d14_29) (by decide) (by decide) ?_
          try rw [e0]
          exact ⟨congrArg (fun z => some (Value.int z)) (Eq.symm (show own_ws p1 = _ from ((if_neg hc3_203).trans ((if_neg hc9_204).trans ((if_neg hc15_205).trans ((if_pos hc21_206).trans rfl)))))), N0, rfl⟩
        ·
          show own_Fin _ _ _ _ _ _ (s₁.setTop (mkF m 21 #[.val (.int p1)] [(.int (13 : Int32)), (.int p1)]))
          refine own_to (fun t k => XS.icmpYes X0.here hx rfl (pc0 := 21) (pc' := 28) rfl (hb hby own_d14_21) rfl (feq hc21_206).2 (by decide) (by decide) k) ?_
          show own_Fin _ _ _ _ _ _ (s₁.setTop (mkF m 28 #[.val (.int p1)] []))
          refine own_to (fun t k => XS.iconst X0.here hx rfl (hb hby own_d14_28) k) ?_
          show own_Fin _ _ _ _ _ _ (s₁.setTop (mkF m 29 #[.val (.int p1)] [(.int (0 : Int32))]))
          refine own_retN X0 hx hlk (t := .boolean) hret (by simp) (hb hby own_d14_29) (by decide) (by decide) ?_
          try rw [e0]
          exact ⟨congrArg (fun z => some (Value.int z)) (Eq.symm (show own_ws p1 = _ from ((if_neg hc3_203).trans ((if_neg hc9_204).trans ((if_neg hc15_205).trans ((if_neg hc21_206).trans rfl)))))), N0, rfl⟩
def own_dg (p1 : Int32) : Int32 := (if p1 < (48 : Int32) then (0 : Int32) else (if (57 : Int32) < p1 then (0 : Int32) else (1 : Int32)))
theorem own_d15_0 : decode prog_147_method_2_code 0 = .ok (.iload_n 0, 1) := by decide +kernel
theorem own_d15_1 : decode prog_147_method_2_code 1 = .ok (.bipush 48, 2) := by decide +kernel
theorem own_d15_3 : decode prog_147_method_2_code 3 = .ok (.if_icmp .lt 13, 3) := by decide +kernel
theorem own_d15_6 : decode prog_147_method_2_code 6 = .ok (.iload_n 0, 1) := by decide +kernel
theorem own_d15_7 : decode prog_147_method_2_code 7 = .ok (.bipush 57, 2) := by decide +kernel
theorem own_d15_9 : decode prog_147_method_2_code 9 = .ok (.if_icmp .gt 7, 3) := by decide +kernel
theorem own_d15_12 : decode prog_147_method_2_code 12 = .ok (.iconst 1, 1) := by decide +kernel
theorem own_d15_13 : decode prog_147_method_2_code 13 = .ok (.goto 4, 3) := by decide +kernel
theorem own_d15_16 : decode prog_147_method_2_code 16 = .ok (.iconst 0, 1) := by decide +kernel
theorem own_d15_17 : decode prog_147_method_2_code 17 = .ok (.ireturn, 1) := by decide +kernel
theorem own_dgr_ef (m : MethodId) (p1 : Int32) : entryFrame m #[(.int p1)] 1 = mkF m 0 #[.val (.int p1)] [] := by first | (simp [entryFrame, mkF, argsToLocals, Value.category]; done) | rfl
set_option maxRecDepth 65536 in
set_option maxHeartbeats 40000000 in
theorem own_dgr (l : Launch) (Z : State) (a0 : Array Value) (hw : ∀ d ∈ tables_1, d.before a0 Z = true) (ws : List Jvm.Cond) (p1 : Int32) (h0 : Heap) (n0 : Nat) (Z0 : n0 ≤ h0.size) :
    own_Met l Z (⟨"com/example/libxqtype/libxqtype/XmlCharacters", "isDigit", "(C)Z"⟩ : MethodName) prog_147_method_2_code 1 (some .boolean) ws ({ frames := 0, cells := 0, slots := 0, locals := 0 } : Room) #[(.int p1)] h0 (fun v h L => v = some (.int (own_dg p1)) ∧ Fr n0 L ∧ h = h0) := by
  refine own_enter (plainFor_of_name own_pn3) ?_
  intro p e s m below meth c s₁ X0 hx hZ hby hml hown hnm hret hlk e0
  have N0 := Fr.nil n0
  rw [own_dgr_ef m p1]
  show own_Fin _ _ _ _ _ _ (s₁.setTop (mkF m 0 #[.val (.int p1)] []))
  refine own_to (fun t k => XS.iloadN X0.here hx rfl (hb hby own_d15_0) rfl k) ?_
  refine own_to (fun t k => XS.bipush X0.here hx rfl (hb hby own_d15_1) k) ?_
  by_cases hc3_207 : p1 < (48 : Int32)
  ·
    show own_Fin _ _ _ _ _ _ (s₁.setTop (mkF m 3 #[.val (.int p1)] [(.int (48 : Int32)), (.int p1)]))
    refine own_to (fun t k => XS.icmpYes X0.here hx rfl (pc0 := 3) (pc' := 16) rfl (hb hby own_d15_3) rfl (tlt hc3_207).1 (by decide) (by decide) k) ?_
    show own_Fin _ _ _ _ _ _ (s₁.setTop (mkF m 16 #[.val (.int p1)] []))
    refine own_to (fun t k => XS.iconst X0.here hx rfl (hb hby own_d15_16) k) ?_
    show own_Fin _ _ _ _ _ _ (s₁.setTop (mkF m 17 #[.val (.int p1)] [(.int (0 : Int32))]))
    refine own_retN X0 hx hlk (t := .boolean) hret (by simp) (hb hby own_d15_17) (by decide) (by decide) ?_
    try rw [e0]
    exact ⟨congrArg (fun z => some (Value.int z)) (Eq.symm (show own_dg p1 = _ from ((if_pos hc3_207).trans rfl))), N0, rfl⟩
  ·
    show own_Fin _ _ _ _ _ _ (s₁.setTop (mkF m 3 #[.val (.int p1)] [(.int (48 : Int32)), (.int p1)]))
    refine own_to (fun t k => XS.icmpNo X0.here hx rfl (hb hby own_d15_3) rfl (flt hc3_207).1 k) ?_
    show own_Fin _ _ _ _ _ _ (s₁.setTop (mkF m 6 #[.val (.int p1)] []))
    refine own_to (fun t k => XS.iloadN X0.here hx rfl (hb hby own_d15_6) rfl k) ?_
    show own_Fin _ _ _ _ _ _ (s₁.setTop (mkF m 7 #[.val (.int p1)] [(.int p1)]))
    refine own_to (fun t k => XS.bipush X0.here hx rfl (hb hby own_d15_7) k) ?_
    by_cases hc9_208 : (57 : Int32) < p1
    ·
      show own_Fin _ _ _ _ _ _ (s₁.setTop (mkF m 9 #[.val (.int p1)] [(.int (57 : Int32)), (.int p1)]))
      refine own_to (fun t k => XS.icmpYes X0.here hx rfl (pc0 := 9) (pc' := 16) rfl (hb hby own_d15_9) rfl (tlt hc9_208).2.2.1 (by decide) (by decide) k) ?_
      show own_Fin _ _ _ _ _ _ (s₁.setTop (mkF m 16 #[.val (.int p1)] []))
      refine own_to (fun t k => XS.iconst X0.here hx rfl (hb hby own_d15_16) k) ?_
      refine own_retN X0 hx hlk (t := .boolean) hret (by simp) (hb hby own_d15_17) (by decide) (by decide) ?_
      try rw [e0]
      exact ⟨congrArg (fun z => some (Value.int z)) (Eq.symm (show own_dg p1 = _ from ((if_neg hc3_207).trans ((if_pos hc9_208).trans rfl)))), N0, rfl⟩
    ·
      show own_Fin _ _ _ _ _ _ (s₁.setTop (mkF m 9 #[.val (.int p1)] [(.int (57 : Int32)), (.int p1)]))
      refine own_to (fun t k => XS.icmpNo X0.here hx rfl (hb hby own_d15_9) rfl (flt hc9_208).2.2.1 k) ?_
      show own_Fin _ _ _ _ _ _ (s₁.setTop (mkF m 12 #[.val (.int p1)] []))
      refine own_to (fun t k => XS.iconst X0.here hx rfl (hb hby own_d15_12) k) ?_
      refine own_to (fun t k => XS.goto X0.here hx rfl (pc0 := 13) (pc' := 17) rfl (hb hby own_d15_13) (by decide) (by decide) k) ?_
      show own_Fin _ _ _ _ _ _ (s₁.setTop (mkF m 17 #[.val (.int p1)] [(.int (1 : Int32))]))
      refine own_retN X0 hx hlk (t := .boolean) hret (by simp) (hb hby own_d15_17) (by decide) (by decide) ?_
      try rw [e0]
      exact ⟨congrArg (fun z => some (Value.int z)) (Eq.symm (show own_dg p1 = _ from ((if_neg hc3_207).trans ((if_neg hc9_208).trans rfl)))), N0, rfl⟩
theorem own_d18_0 : decode prog_59_method_32_code 0 = .ok (.iload_n 1, 1) := by decide +kernel
theorem own_d18_1 : decode prog_59_method_32_code 1 = .ok (.aload_n 0, 1) := by decide +kernel
theorem own_d18_2 : decode prog_59_method_32_code 2 = .ok (.getfield 26, 3) := by decide +kernel
theorem own_d18_5 : decode prog_59_method_32_code 5 = .ok (.arraylength, 1) := by decide +kernel
theorem own_d18_6 : decode prog_59_method_32_code 6 = .ok (.if_icmp .ge 12, 3) := by decide +kernel
theorem own_d18_9 : decode prog_59_method_32_code 9 = .ok (.aload_n 0, 1) := by decide +kernel
theorem own_d18_10 : decode prog_59_method_32_code 10 = .ok (.getfield 26, 3) := by decide +kernel
theorem own_d18_13 : decode prog_59_method_32_code 13 = .ok (.iload_n 1, 1) := by decide +kernel
theorem own_d18_14 : decode prog_59_method_32_code 14 = .ok (.caload, 1) := by decide +kernel
theorem own_d18_15 : decode prog_59_method_32_code 15 = .ok (.goto 4, 3) := by decide +kernel
theorem own_d18_18 : decode prog_59_method_32_code 18 = .ok (.iconst 0, 1) := by decide +kernel
theorem own_d18_19 : decode prog_59_method_32_code 19 = .ok (.ireturn, 1) := by decide +kernel
theorem own_pn4 : plainName "com/example/libxqtype/libxqtype/ExpressionLexer" = true := by first | (simp [plainName, overriddenIn]; done) | decide +kernel
theorem own_car_ef (m : MethodId) (a1 : Addr) (j : Int32) : entryFrame m #[(.ref a1), (.int j)] 2 = mkF m 0 #[rv a1, .val (.int j)] [] := by first | (simp [entryFrame, mkF, argsToLocals, Value.category]; done) | rfl
set_option maxRecDepth 65536 in
set_option maxHeartbeats 40000000 in
theorem own_car (l : Launch) (Z : State) (a0 : Array Value) (hw : ∀ d ∈ tables_1, d.before a0 Z = true) (ws : List Jvm.Cond) (a1 : Addr) (a2 : Addr) (k2 : ClassId) (xs : List Int32) (j : Int32) (h0 : Heap) (n0 : Nat) (Z0 : n0 ≤ h0.size) (E1 : Exa Z h0 a1 "com/example/libxqtype/libxqtype/ExpressionLexer") (Fc : Fld Z h0 a1 "com/example/libxqtype/libxqtype/ExpressionLexer" "chars" "[C" (.ref a2)) (V2 : Arv Z h0 a2 k2 .char (21 : Int32) (xs.map Value.int) (.int (0 : Int32))) (hj : ¬ j < 0) (hk : j < (21 : Int32) → ¬ own_at xs j < 0 ∧ ¬ (255 : Int32) < own_at xs j) :
    own_Met l Z (⟨"com/example/libxqtype/libxqtype/ExpressionLexer", "charAt", "(I)C"⟩ : MethodName) prog_59_method_32_code 2 (some .char) ws ({ frames := 0, cells := 0, slots := 0, locals := 0 } : Room) #[(.ref a1), (.int j)] h0 (fun v h L => v = some (.int (own_ca xs j)) ∧ Fr n0 L ∧ h = h0) := by
  refine own_enter (plainFor_of_name own_pn4) ?_
  intro p e s m below meth c s₁ X0 hx hZ hby hml hown hnm hret hlk e0
  have N0 := Fr.nil n0
  rw [own_car_ef m a1 j]
  show own_Fin _ _ _ _ _ _ (s₁.setTop (mkF m 0 #[rv a1, .val (.int j)] []))
  refine own_to (fun t k => XS.iloadN X0.here hx rfl (hb hby own_d18_0) rfl k) ?_
  refine own_to (fun t k => XS.aloadN X0.here hx rfl (hb hby own_d18_1) rfl rfl k) ?_
  obtain ⟨T209, X209, e209, st209⟩ := getF X0 hx hZ hown (host := "") (Or.inl (own_W hw 84 rfl)) Via.refl e0 Fc (g := (mkF m 2 #[rv a1, .val (.int j)] [(.ref a1), (.int j)])) rfl rfl (hb hby own_d18_2)
  refine own_to (fun t k => st209 t k) ?_
  show own_Fin _ _ _ _ _ _ (T209.setTop (mkF m 5 #[rv a1, .val (.int j)] [(.ref a2), (.int j)]))
  obtain ⟨cl210, Ar210, qa210, Sa210, Na210, Ha210, Ga210⟩ := id V2
  refine own_to (fun t k => X209.arraylength hx (by rw [e209]; exact Ar210.1) (State.isArrayOf_alike hZ.alike Ar210.2.1) (g := (mkF m 5 #[rv a1, .val (.int j)] [(.ref a2), (.int j)])) rfl rfl (hb hby own_d18_5) _ k) ?_
  rw [len_of Sa210 Na210]
  show own_Fin _ _ _ _ _ _ (T209.setTop (mkF m 6 #[rv a1, .val (.int j)] [(.int (21 : Int32)), (.int j)]))
  by_cases hc6_211 : j < (21 : Int32)
  ·
    show own_Fin _ _ _ _ _ _ (T209.setTop (mkF m 6 #[rv a1, .val (.int j)] [(.int (21 : Int32)), (.int j)]))
    refine own_to (fun t k => XS.icmpNo X209.here hx rfl (hb hby own_d18_6) rfl (tlt hc6_211).2.1 k) ?_
    show own_Fin _ _ _ _ _ _ (T209.setTop (mkF m 9 #[rv a1, .val (.int j)] []))
    refine own_to (fun t k => XS.aloadN X209.here hx rfl (hb hby own_d18_9) rfl rfl k) ?_
    show own_Fin _ _ _ _ _ _ (T209.setTop (mkF m 10 #[rv a1, .val (.int j)] [(.ref a1)]))
    obtain ⟨T212, X212, e212, st212⟩ := getF X209 hx hZ hown (host := "") (Or.inl (own_W hw 84 rfl)) Via.refl e209 Fc (g := (mkF m 10 #[rv a1, .val (.int j)] [(.ref a1)])) rfl rfl (hb hby own_d18_10)
    refine own_to (fun t k => st212 t k) ?_
    show own_Fin _ _ _ _ _ _ (T212.setTop (mkF m 13 #[rv a1, .val (.int j)] [(.ref a2)]))
    refine own_to (fun t k => XS.iloadN X212.here hx rfl (hb hby own_d18_13) rfl k) ?_
    obtain ⟨cl213, Ar213, qa213, Sa213, Na213, Ha213, Ga213⟩ := id V2
    have hin214 : ¬ (j < 0 ∨ cl213.slots.size ≤ (j).toNatClampNeg) := inb_of Sa213 ⟨hj, hc6_211⟩
    refine own_to (fun t k => X212.caload hx (j := j) (v := (.int (own_at xs j))) (by rw [e212]; exact Ar213.1) (State.isArrayOf_alike hZ.alike Ar213.2.1) Ar213.2.2 hin214 (Has.at Ha213 hin214 (own_getm xs _)) (g := (mkF m 14 #[rv a1, .val (.int j)] [(.int j), (.ref a2)])) rfl rfl (hb hby own_d18_14) _ k) ?_
    show own_Fin _ _ _ _ _ _ (T212.setTop (mkF m 15 #[rv a1, .val (.int j)] [(.int (own_at xs j))]))
    refine own_to (fun t k => XS.goto X212.here hx rfl (pc0 := 15) (pc' := 19) rfl (hb hby own_d18_15) (by decide) (by decide) k) ?_
    show own_Fin _ _ _ _ _ _ (T212.setTop (mkF m 19 #[rv a1, .val (.int j)] [(.int (own_at xs j))]))
    refine own_retN X212 hx hlk (t := .char) hret (by simp) (hb hby own_d18_19) (by decide) (by decide) ?_
    try rw [e212]
    exact ⟨by rw [own_nb (hk hc6_211).1 (hk hc6_211).2]; exact congrArg (fun z => some (Value.int z)) (show own_ca xs j = _ from if_pos hc6_211).symm, N0, rfl⟩
  ·
    show own_Fin _ _ _ _ _ _ (T209.setTop (mkF m 6 #[rv a1, .val (.int j)] [(.int (21 : Int32)), (.int j)]))
    refine own_to (fun t k => XS.icmpYes X209.here hx rfl (pc0 := 6) (pc' := 18) rfl (hb hby own_d18_6) rfl (flt hc6_211).2.1 (by decide) (by decide) k) ?_
    show own_Fin _ _ _ _ _ _ (T209.setTop (mkF m 18 #[rv a1, .val (.int j)] []))
    refine own_to (fun t k => XS.iconst X209.here hx rfl (hb hby own_d18_18) k) ?_
    show own_Fin _ _ _ _ _ _ (T209.setTop (mkF m 19 #[rv a1, .val (.int j)] [(.int (0 : Int32))]))
    refine own_retN X209 hx hlk (t := .char) hret (by simp) (hb hby own_d18_19) (by decide) (by decide) ?_
    try rw [e209]
    exact ⟨congrArg (fun z => some (Value.int z)) (show own_ca xs j = _ from if_neg hc6_211).symm, N0, rfl⟩
theorem own_in128 {cT : Cell} {p1 : Int32} (hT : cT.slots.size = 128) (hp0 : ¬ p1 < 0) (hp1 : p1 < (128 : Int32)) : ¬ (p1 < 0 ∨ cT.slots.size ≤ p1.toNatClampNeg) := by
  rw [own_lt32, show (0 : Int32).toInt = 0 from rfl] at hp0
  rw [own_lt32, show (128 : Int32).toInt = 128 from by decide] at hp1
  rw [hT, own_lt32, show (0 : Int32).toInt = 0 from rfl]
  simp only [Int32.toNatClampNeg]; omega
theorem own_d20_0 : decode prog_147_method_8_code 0 = .ok (.iload_n 0, 1) := by decide +kernel
theorem own_d20_1 : decode prog_147_method_8_code 1 = .ok (.sipush 128, 3) := by decide +kernel
theorem own_d20_4 : decode prog_147_method_8_code 4 = .ok (.if_icmp .ge 18, 3) := by decide +kernel
theorem own_d20_7 : decode prog_147_method_8_code 7 = .ok (.getstatic 52, 3) := by decide +kernel
theorem own_d20_10 : decode prog_147_method_8_code 10 = .ok (.iload_n 0, 1) := by decide +kernel
theorem own_d20_11 : decode prog_147_method_8_code 11 = .ok (.baload, 1) := by decide +kernel
theorem own_d20_12 : decode prog_147_method_8_code 12 = .ok (.iconst 2, 1) := by decide +kernel
theorem own_d20_13 : decode prog_147_method_8_code 13 = .ok (.if_icmp .ne 7, 3) := by decide +kernel
theorem own_d20_16 : decode prog_147_method_8_code 16 = .ok (.iconst 1, 1) := by decide +kernel
theorem own_d20_17 : decode prog_147_method_8_code 17 = .ok (.goto 4, 3) := by decide +kernel
theorem own_d20_20 : decode prog_147_method_8_code 20 = .ok (.iconst 0, 1) := by decide +kernel
theorem own_d20_21 : decode prog_147_method_8_code 21 = .ok (.ireturn, 1) := by decide +kernel
theorem own_d20_22 : decode prog_147_method_8_code 22 = .ok (.iload_n 0, 1) := by decide +kernel
theorem own_d20_23 : decode prog_147_method_8_code 23 = .ok (.invokestatic 56, 3) := by decide +kernel
theorem own_d20_26 : decode prog_147_method_8_code 26 = .ok (.ireturn, 1) := by decide +kernel
theorem own_isn_ef (m : MethodId) (p1 : Int32) : entryFrame m #[(.int p1)] 1 = mkF m 0 #[.val (.int p1)] [] := by first | (simp [entryFrame, mkF, argsToLocals, Value.category]; done) | rfl
set_option maxRecDepth 65536 in
set_option maxHeartbeats 40000000 in
theorem own_isn (l : Launch) (Z : State) (a0 : Array Value) (hw : ∀ d ∈ tables_1, d.before a0 Z = true) (ws : List Jvm.Cond) (wT : Addr) (cT : Cell) (p1 : Int32) (b : Int32) (h0 : Heap) (n0 : Nat) (Z0 : n0 ≤ h0.size) (O0 : Old Z n0 h0) (ST : Sta Z Z.heap "com/example/libxqtype/libxqtype/XmlCharacters" "ASCII_NAME_CHARACTERS" "[B" (.ref wT)) (AT : Arr Z Z.heap wT cT .byte) (hT : cT.slots.size = 128) (hp0 : ¬ p1 < 0) (hp1 : p1 < (128 : Int32)) (hbT : cT.slots[p1.toNatClampNeg]? = some (.int b)) (hb2 : ¬ b = (2 : Int32)) :
    own_Met l Z (⟨"com/example/libxqtype/libxqtype/XmlCharacters", "isNameStartChar", "(I)Z"⟩ : MethodName) prog_147_method_8_code 1 (some .boolean) ws ({ frames := 0, cells := 0, slots := 0, locals := 0 } : Room) #[(.int p1)] h0 (fun v h L => v = some (.int (0 : Int32)) ∧ Fr n0 L ∧ h = h0) := by
  refine own_enter (plainFor_of_name own_pn3) ?_
  intro p e s m below meth c s₁ X0 hx hZ hby hml hown hnm hret hlk e0
  have N0 := Fr.nil n0
  rw [own_isn_ef m p1]
  show own_Fin _ _ _ _ _ _ (s₁.setTop (mkF m 0 #[.val (.int p1)] []))
  refine own_to (fun t k => XS.iloadN X0.here hx rfl (hb hby own_d20_0) rfl k) ?_
  refine own_to (fun t k => XS.sipush X0.here hx rfl (hb hby own_d20_1) k) ?_
  refine own_to (fun t k => XS.icmpNo X0.here hx rfl (hb hby own_d20_4) rfl (tlt hp1).2.1 k) ?_
  show own_Fin _ _ _ _ _ _ (s₁.setTop (mkF m 7 #[.val (.int p1)] []))
  obtain ⟨T215, X215, e215, st215⟩ := getS2 X0 hx hZ hown (host := "") (Or.inl (own_W hw 131 rfl)) Via.refl e0 (ST.ext O0.2) (g := (mkF m 7 #[.val (.int p1)] [])) rfl (hb hby own_d20_7)
  refine own_to (fun t k => st215 t k) ?_
  show own_Fin _ _ _ _ _ _ (T215.setTop (mkF m 10 #[.val (.int p1)] [(.ref wT)]))
  refine own_to (fun t k => XS.iloadN X215.here hx rfl (hb hby own_d20_10) rfl k) ?_
  show own_Fin _ _ _ _ _ _ (T215.setTop (mkF m 11 #[.val (.int p1)] [(.int p1), (.ref wT)]))
  have hin216 : ¬ (p1 < 0 ∨ cT.slots.size ≤ p1.toNatClampNeg) := own_in128 hT hp0 hp1
  refine own_to (fun t k => X215.baloadBytes hx (j := p1) (v := .int b) (by rw [e215]; exact (AT.ext O0.2).1) (State.isArrayOf_alike hZ.alike AT.2.1) AT.2.2 hin216 hbT (g := (mkF m 11 #[.val (.int p1)] [(.int p1), (.ref wT)])) rfl rfl (hb hby own_d20_11) _ k) ?_
  show own_Fin _ _ _ _ _ _ (T215.setTop (mkF m 12 #[.val (.int p1)] [(.int b)]))
  refine own_to (fun t k => XS.iconst X215.here hx rfl (hb hby own_d20_12) k) ?_
  refine own_to (fun t k => XS.icmpYes X215.here hx rfl (pc0 := 13) (pc' := 20) rfl (hb hby own_d20_13) rfl (feq hb2).2 (by decide) (by decide) k) ?_
  show own_Fin _ _ _ _ _ _ (T215.setTop (mkF m 20 #[.val (.int p1)] []))
  refine own_to (fun t k => XS.iconst X215.here hx rfl (hb hby own_d20_20) k) ?_
  refine own_retN X215 hx hlk (t := .boolean) hret (by simp) (hb hby own_d20_21) (by decide) (by decide) ?_
  try rw [e215]
  exact ⟨rfl, N0, rfl⟩
theorem own_d19_0 : decode prog_59_method_29_code 0 = .ok (.aload_n 0, 1) := by decide +kernel
theorem own_d19_1 : decode prog_59_method_29_code 1 = .ok (.getfield 26, 3) := by decide +kernel
theorem own_d19_4 : decode prog_59_method_29_code 4 = .ok (.iload_n 1, 1) := by decide +kernel
theorem own_d19_5 : decode prog_59_method_29_code 5 = .ok (.caload, 1) := by decide +kernel
theorem own_d19_6 : decode prog_59_method_29_code 6 = .ok (.istore_n 2, 1) := by decide +kernel
theorem own_d19_7 : decode prog_59_method_29_code 7 = .ok (.iload_n 2, 1) := by decide +kernel
theorem own_d19_8 : decode prog_59_method_29_code 8 = .ok (.sipush 128, 3) := by decide +kernel
theorem own_d19_11 : decode prog_59_method_29_code 11 = .ok (.if_icmp .ge 7, 3) := by decide +kernel
theorem own_d19_14 : decode prog_59_method_29_code 14 = .ok (.iload_n 2, 1) := by decide +kernel
theorem own_d19_15 : decode prog_59_method_29_code 15 = .ok (.goto 11, 3) := by decide +kernel
theorem own_d19_18 : decode prog_59_method_29_code 18 = .ok (.aload_n 0, 1) := by decide +kernel
theorem own_d19_19 : decode prog_59_method_29_code 19 = .ok (.getfield 26, 3) := by decide +kernel
theorem own_d19_22 : decode prog_59_method_29_code 22 = .ok (.iload_n 1, 1) := by decide +kernel
theorem own_d19_23 : decode prog_59_method_29_code 23 = .ok (.invokestatic 359, 3) := by decide +kernel
theorem own_d19_26 : decode prog_59_method_29_code 26 = .ok (.invokestatic 363, 3) := by decide +kernel
theorem own_d19_29 : decode prog_59_method_29_code 29 = .ok (.ireturn, 1) := by decide +kernel
theorem own_pd8 : parseMethodDescriptor "(I)Z" = some ⟨[.int], some .boolean⟩ := by decide +kernel
theorem own_sna_ef (m : MethodId) (a1 : Addr) (j : Int32) : entryFrame m #[(.ref a1), (.int j)] 3 = mkF m 0 #[rv a1, .val (.int j), .unset] [] := by first | (simp [entryFrame, mkF, argsToLocals, Value.category]; done) | rfl
set_option maxRecDepth 65536 in
set_option maxHeartbeats 40000000 in
theorem own_sna (l : Launch) (Z : State) (a0 : Array Value) (hw : ∀ d ∈ tables_1, d.before a0 Z = true) (ws : List Jvm.Cond) (wT : Addr) (cT : Cell) (a1 : Addr) (a2 : Addr) (k2 : ClassId) (xs : List Int32) (j : Int32) (b : Int32) (h0 : Heap) (n0 : Nat) (Z0 : n0 ≤ h0.size) (O0 : Old Z n0 h0) (ST : Sta Z Z.heap "com/example/libxqtype/libxqtype/XmlCharacters" "ASCII_NAME_CHARACTERS" "[B" (.ref wT)) (AT : Arr Z Z.heap wT cT .byte) (hT : cT.slots.size = 128) (E1 : Exa Z h0 a1 "com/example/libxqtype/libxqtype/ExpressionLexer") (Fc : Fld Z h0 a1 "com/example/libxqtype/libxqtype/ExpressionLexer" "chars" "[C" (.ref a2)) (V2 : Arv Z h0 a2 k2 .char (21 : Int32) (xs.map Value.int) (.int (0 : Int32))) (hj : ¬ j < 0) (hj2 : j < (21 : Int32)) (hp0 : ¬ own_at xs j < 0) (hp1 : own_at xs j < (128 : Int32)) (hbT : cT.slots[(own_at xs j).toNatClampNeg]? = some (.int b)) (hb2 : ¬ b = (2 : Int32)) :
    own_Met l Z (⟨"com/example/libxqtype/libxqtype/ExpressionLexer", "startsName", "(I)Z"⟩ : MethodName) prog_59_method_29_code 3 (some .boolean) ws ({ frames := 1, cells := 0, slots := 0, locals := 16 } : Room) #[(.ref a1), (.int j)] h0 (fun v h L => v = some (.int (0 : Int32)) ∧ Fr n0 L ∧ h = h0) := by
  refine own_enter (plainFor_of_name own_pn4) ?_
  intro p e s m below meth c s₁ X0 hx hZ hby hml hown hnm hret hlk e0
  have N0 := Fr.nil n0
  rw [own_sna_ef m a1 j]
  show own_Fin _ _ _ _ _ _ (s₁.setTop (mkF m 0 #[rv a1, .val (.int j), .unset] []))
  refine own_to (fun t k => XS.aloadN X0.here hx rfl (hb hby own_d19_0) rfl rfl k) ?_
  obtain ⟨T217, X217, e217, st217⟩ := getF X0 hx hZ hown (host := "") (Or.inl (own_W hw 84 rfl)) Via.refl e0 Fc (g := (mkF m 1 #[rv a1, .val (.int j), .unset] [(.ref a1)])) rfl rfl (hb hby own_d19_1)
  refine own_to (fun t k => st217 t k) ?_
  show own_Fin _ _ _ _ _ _ (T217.setTop (mkF m 4 #[rv a1, .val (.int j), .unset] [(.ref a2)]))
  refine own_to (fun t k => XS.iloadN X217.here hx rfl (hb hby own_d19_4) rfl k) ?_
  obtain ⟨cl218, Ar218, qa218, Sa218, Na218, Ha218, Ga218⟩ := id V2
  have hin219 : ¬ (j < 0 ∨ cl218.slots.size ≤ (j).toNatClampNeg) := inb_of Sa218 ⟨hj, hj2⟩
  refine own_to (fun t k => X217.caload hx (j := j) (v := (.int (own_at xs j))) (by rw [e217]; exact Ar218.1) (State.isArrayOf_alike hZ.alike Ar218.2.1) Ar218.2.2 hin219 (Has.at Ha218 hin219 (own_getm xs _)) (g := (mkF m 5 #[rv a1, .val (.int j), .unset] [(.int j), (.ref a2)])) rfl rfl (hb hby own_d19_5) _ k) ?_
  show own_Fin _ _ _ _ _ _ (T217.setTop (mkF m 6 #[rv a1, .val (.int j), .unset] [(.int (own_at xs j))]))
  refine own_to (fun t k => XS.istoreN X217.here hx rfl (hb hby own_d19_6) rfl (l' := #[rv a1, .val (.int j), .val (.int (own_at xs j))]) rfl k) ?_
  show own_Fin _ _ _ _ _ _ (T217.setTop (mkF m 7 #[rv a1, .val (.int j), .val (.int (own_at xs j))] []))
  refine own_to (fun t k => XS.iloadN X217.here hx rfl (hb hby own_d19_7) rfl k) ?_
  refine own_to (fun t k => XS.sipush X217.here hx rfl (hb hby own_d19_8) k) ?_
  refine own_to (fun t k => XS.icmpNo X217.here hx rfl (hb hby own_d19_11) rfl (tlt hp1).2.1 k) ?_
  show own_Fin _ _ _ _ _ _ (T217.setTop (mkF m 14 #[rv a1, .val (.int j), .val (.int (own_at xs j))] []))
  refine own_to (fun t k => XS.iloadN X217.here hx rfl (hb hby own_d19_14) rfl k) ?_
  show own_Fin _ _ _ _ _ _ (T217.setTop (mkF m 15 #[rv a1, .val (.int j), .val (.int (own_at xs j))] [(.int (own_at xs j))]))
  refine own_to (fun t k => XS.goto X217.here hx rfl (pc0 := 15) (pc' := 26) rfl (hb hby own_d19_15) (by decide) (by decide) k) ?_
  show own_Fin _ _ _ _ _ _ (T217.setTop (mkF m 26 #[rv a1, .val (.int j), .val (.int (own_at xs j))] [(.int (own_at xs j))]))
  obtain ⟨_, _, ⟨T220, L220, k220, n220⟩, -, X220, ⟨Lc220, hQ220, l220, y220, z220⟩, st220⟩ := Jvm.LawKit.callS X217 hx (y := (⟨"com/example/libxqtype/libxqtype/XmlCharacters", "isNameStartChar", "(I)Z"⟩ : MethodName)) hown (mvT hZ (own_W hw 128 rfl)) (mvT hZ (own_W hw 129 rfl)) (mvT hZ (own_W hw 96 rfl)) (mvT hZ (own_W hw 130 rfl)) (by decide) (own_back (W := 0) (own_isn l Z a0 hw [] wT cT (own_at xs j) b h0 n0 Z0 O0 ST AT hT hp0 hp1 hbT hb2) hZ (own_W hw 130 rfl) (own_W hw 96 rfl) (by decide) (by decide)) (g := (mkF m 26 #[rv a1, .val (.int j), .val (.int (own_at xs j))] [(.int (own_at xs j))])) rfl (by rw [hml]; rfl) (argsL := [(.int (own_at xs j))]) (rest := []) (lenOf own_pd8 rfl) rfl (by show 2 * 0 + _ ≤ _; exact Nat.le_of_eq rfl) (hb hby own_d19_26) (fun _ _ => ⟨rfl, e217, (by decide : 0 + 0 ≤ _), (by decide : 0 + 0 ≤ _)⟩)
  dsimp only [Pt.U, Pt.locs, Pt.cells, Pt.slots] at X220 l220 y220 z220 st220 hQ220
  rw [l220, y220, z220] at X220
  obtain ⟨rfl, N220q, eh220⟩ := hQ220
  have N220 := Fr.app N0 N220q
  refine own_to (fun t k => st220 t k) ?_
  show own_Fin _ _ _ _ _ _ (T220.setTop (mkF m 29 #[rv a1, .val (.int j), .val (.int (own_at xs j))] [(.int (0 : Int32))]))
  refine own_retN X220 hx hlk (t := .boolean) hret (by simp) (hb hby own_d19_29) (by decide) (by decide) ?_
  try rw [eh220]
  exact ⟨rfl, N220, rfl⟩
theorem own_nn {a j : Int32} (h : ¬ a < 0) (q : a.toInt ≤ j.toInt) : ¬ j < 0 := by
  rw [own_lt32, show (0 : Int32).toInt = 0 from rfl] at h ⊢; omega
theorem own_d17_0 : decode prog_59_method_31_code 0 = .ok (.aload_n 0, 1) := by decide +kernel
theorem own_d17_1 : decode prog_59_method_31_code 1 = .ok (.getfield 26, 3) := by decide +kernel
theorem own_d17_4 : decode prog_59_method_31_code 4 = .ok (.astore_n 2, 1) := by decide +kernel
theorem own_d17_5 : decode prog_59_method_31_code 5 = .ok (.iload_n 1, 1) := by decide +kernel
theorem own_d17_6 : decode prog_59_method_31_code 6 = .ok (.istore_n 3, 1) := by decide +kernel
theorem own_d17_7 : decode prog_59_method_31_code 7 = .ok (.iload_n 3, 1) := by decide +kernel
theorem own_d17_8 : decode prog_59_method_31_code 8 = .ok (.aload_n 2, 1) := by decide +kernel
theorem own_d17_9 : decode prog_59_method_31_code 9 = .ok (.arraylength, 1) := by decide +kernel
theorem own_d17_10 : decode prog_59_method_31_code 10 = .ok (.if_icmp .ge 25, 3) := by decide +kernel
theorem own_d17_13 : decode prog_59_method_31_code 13 = .ok (.aload_n 2, 1) := by decide +kernel
theorem own_d17_14 : decode prog_59_method_31_code 14 = .ok (.iload_n 3, 1) := by decide +kernel
theorem own_d17_15 : decode prog_59_method_31_code 15 = .ok (.caload, 1) := by decide +kernel
theorem own_d17_16 : decode prog_59_method_31_code 16 = .ok (.bipush 48, 2) := by decide +kernel
theorem own_d17_18 : decode prog_59_method_31_code 18 = .ok (.if_icmp .lt 17, 3) := by decide +kernel
theorem own_d17_21 : decode prog_59_method_31_code 21 = .ok (.aload_n 2, 1) := by decide +kernel
theorem own_d17_22 : decode prog_59_method_31_code 22 = .ok (.iload_n 3, 1) := by decide +kernel
theorem own_d17_23 : decode prog_59_method_31_code 23 = .ok (.caload, 1) := by decide +kernel
theorem own_d17_24 : decode prog_59_method_31_code 24 = .ok (.bipush 57, 2) := by decide +kernel
theorem own_d17_26 : decode prog_59_method_31_code 26 = .ok (.if_icmp .gt 9, 3) := by decide +kernel
theorem own_d17_29 : decode prog_59_method_31_code 29 = .ok (.iinc 3 1, 3) := by decide +kernel
theorem own_d17_32 : decode prog_59_method_31_code 32 = .ok (.goto (-25), 3) := by decide +kernel
theorem own_d17_35 : decode prog_59_method_31_code 35 = .ok (.iload_n 3, 1) := by decide +kernel
theorem own_d17_36 : decode prog_59_method_31_code 36 = .ok (.ireturn, 1) := by decide +kernel
theorem own_dge_ef (m : MethodId) (a1 : Addr) (a : Int32) : entryFrame m #[(.ref a1), (.int a)] 4 = mkF m 0 #[rv a1, .val (.int a), .unset, .unset] [] := by first | (simp [entryFrame, mkF, argsToLocals, Value.category]; done) | rfl
set_option maxRecDepth 65536 in
set_option maxHeartbeats 40000000 in
theorem own_dge (l : Launch) (Z : State) (a0 : Array Value) (hw : ∀ d ∈ tables_1, d.before a0 Z = true) (ws : List Jvm.Cond) (a1 : Addr) (a2 : Addr) (k2 : ClassId) (xs : List Int32) (a : Int32) (b : Int32) (h0 : Heap) (n0 : Nat) (Z0 : n0 ≤ h0.size) (E1 : Exa Z h0 a1 "com/example/libxqtype/libxqtype/ExpressionLexer") (Fc : Fld Z h0 a1 "com/example/libxqtype/libxqtype/ExpressionLexer" "chars" "[C" (.ref a2)) (V2 : Arv Z h0 a2 k2 .char (21 : Int32) (xs.map Value.int) (.int (0 : Int32))) (hd : own_dig xs a b) :
    own_Met l Z (⟨"com/example/libxqtype/libxqtype/ExpressionLexer", "digitsEnd", "(I)I"⟩ : MethodName) prog_59_method_31_code 4 (some .int) ws ({ frames := 0, cells := 0, slots := 0, locals := 0 } : Room) #[(.ref a1), (.int a)] h0 (fun v h L => v = some (.int b) ∧ Fr n0 L ∧ h = h0) := by
  refine own_enter (plainFor_of_name own_pn4) ?_
  intro p e s m below meth c s₁ X0 hx hZ hby hml hown hnm hret hlk e0
  have N0 := Fr.nil n0
  rw [own_dge_ef m a1 a]
  show own_Fin _ _ _ _ _ _ (s₁.setTop (mkF m 0 #[rv a1, .val (.int a), .unset, .unset] []))
  refine own_to (fun t k => XS.aloadN X0.here hx rfl (hb hby own_d17_0) rfl rfl k) ?_
  obtain ⟨T221, X221, e221, st221⟩ := getF X0 hx hZ hown (host := "") (Or.inl (own_W hw 84 rfl)) Via.refl e0 Fc (g := (mkF m 1 #[rv a1, .val (.int a), .unset, .unset] [(.ref a1)])) rfl rfl (hb hby own_d17_1)
  refine own_to (fun t k => st221 t k) ?_
  show own_Fin _ _ _ _ _ _ (T221.setTop (mkF m 4 #[rv a1, .val (.int a), .unset, .unset] [(.ref a2)]))
  refine own_to (fun t k => XS.astoreN X221.here hx rfl (hb hby own_d17_4) rfl rfl (l' := #[rv a1, .val (.int a), rv a2, .unset]) rfl k) ?_
  show own_Fin _ _ _ _ _ _ (T221.setTop (mkF m 5 #[rv a1, .val (.int a), rv a2, .unset] []))
  refine own_to (fun t k => XS.iloadN X221.here hx rfl (hb hby own_d17_5) rfl k) ?_
  refine own_to (fun t k => XS.istoreN X221.here hx rfl (hb hby own_d17_6) rfl (l' := #[rv a1, .val (.int a), rv a2, .val (.int a)]) rfl k) ?_
  show own_Fin _ _ _ _ _ _ (T221.setTop (mkF m 7 #[rv a1, .val (.int a), rv a2, .val (.int a)] []))
  have loop : ∀ (r : Nat) (j : Int32), a.toInt ≤ j.toInt → j.toInt + r = b.toInt → own_Fin p e below s ({ frames := 0, cells := 0, slots := 0, locals := 0 } : Room) (fun v h L => v = some (.int b) ∧ Fr n0 L ∧ h = h0) (T221.setTop (mkF m 7 #[rv a1, .val (.int a), rv a2, .val (.int j)] [])) := by
    intro r
    induction r with
    | zero =>
      intro j ha hr
      have hj := own_nn hd.1 ha
      have hjb : j = b := Int32.toInt_inj.mp (by omega)
      show own_Fin _ _ _ _ _ _ (T221.setTop (mkF m 7 #[rv a1, .val (.int a), rv a2, .val (.int j)] []))
      refine own_to (fun t k => XS.iloadN X221.here hx rfl (hb hby own_d17_7) rfl k) ?_
      refine own_to (fun t k => XS.aloadN X221.here hx rfl (hb hby own_d17_8) rfl rfl k) ?_
      obtain ⟨cl222, Ar222, qa222, Sa222, Na222, Ha222, Ga222⟩ := id V2
      refine own_to (fun t k => X221.arraylength hx (by rw [e221]; exact Ar222.1) (State.isArrayOf_alike hZ.alike Ar222.2.1) (g := (mkF m 9 #[rv a1, .val (.int a), rv a2, .val (.int j)] [(.ref a2), (.int j)])) rfl rfl (hb hby own_d17_9) _ k) ?_
      rw [len_of Sa222 Na222]
      show own_Fin _ _ _ _ _ _ (T221.setTop (mkF m 10 #[rv a1, .val (.int a), rv a2, .val (.int j)] [(.int (21 : Int32)), (.int j)]))
      by_cases hc10_223 : j < (21 : Int32)
      ·
        show own_Fin _ _ _ _ _ _ (T221.setTop (mkF m 10 #[rv a1, .val (.int a), rv a2, .val (.int j)] [(.int (21 : Int32)), (.int j)]))
        refine own_to (fun t k => XS.icmpNo X221.here hx rfl (hb hby own_d17_10) rfl (tlt hc10_223).2.1 k) ?_
        show own_Fin _ _ _ _ _ _ (T221.setTop (mkF m 13 #[rv a1, .val (.int a), rv a2, .val (.int j)] []))
        refine own_to (fun t k => XS.aloadN X221.here hx rfl (hb hby own_d17_13) rfl rfl k) ?_
        show own_Fin _ _ _ _ _ _ (T221.setTop (mkF m 14 #[rv a1, .val (.int a), rv a2, .val (.int j)] [(.ref a2)]))
        refine own_to (fun t k => XS.iloadN X221.here hx rfl (hb hby own_d17_14) rfl k) ?_
        obtain ⟨cl224, Ar224, qa224, Sa224, Na224, Ha224, Ga224⟩ := id V2
        have hin225 : ¬ (j < 0 ∨ cl224.slots.size ≤ (j).toNatClampNeg) := inb_of Sa224 ⟨hj, hc10_223⟩
        refine own_to (fun t k => X221.caload hx (j := j) (v := (.int (own_at xs j))) (by rw [e221]; exact Ar224.1) (State.isArrayOf_alike hZ.alike Ar224.2.1) Ar224.2.2 hin225 (Has.at Ha224 hin225 (own_getm xs _)) (g := (mkF m 15 #[rv a1, .val (.int a), rv a2, .val (.int j)] [(.int j), (.ref a2)])) rfl rfl (hb hby own_d17_15) _ k) ?_
        show own_Fin _ _ _ _ _ _ (T221.setTop (mkF m 16 #[rv a1, .val (.int a), rv a2, .val (.int j)] [(.int (own_at xs j))]))
        refine own_to (fun t k => XS.bipush X221.here hx rfl (hb hby own_d17_16) k) ?_
        by_cases hc18_226 : (own_at xs j) < (48 : Int32)
        ·
          show own_Fin _ _ _ _ _ _ (T221.setTop (mkF m 18 #[rv a1, .val (.int a), rv a2, .val (.int j)] [(.int (48 : Int32)), (.int (own_at xs j))]))
          refine own_to (fun t k => XS.icmpYes X221.here hx rfl (pc0 := 18) (pc' := 35) rfl (hb hby own_d17_18) rfl (tlt hc18_226).1 (by decide) (by decide) k) ?_
          show own_Fin _ _ _ _ _ _ (T221.setTop (mkF m 35 #[rv a1, .val (.int a), rv a2, .val (.int j)] []))
          refine own_to (fun t k => XS.iloadN X221.here hx rfl (hb hby own_d17_35) rfl k) ?_
          show own_Fin _ _ _ _ _ _ (T221.setTop (mkF m 36 #[rv a1, .val (.int a), rv a2, .val (.int j)] [(.int j)]))
          refine own_retI X221 hx hlk hret (hb hby own_d17_36) (by decide) (by decide) ?_
          try rw [e221]
          exact ⟨by rw [hjb], N0, rfl⟩
        ·
          show own_Fin _ _ _ _ _ _ (T221.setTop (mkF m 18 #[rv a1, .val (.int a), rv a2, .val (.int j)] [(.int (48 : Int32)), (.int (own_at xs j))]))
          refine own_to (fun t k => XS.icmpNo X221.here hx rfl (hb hby own_d17_18) rfl (flt hc18_226).1 k) ?_
          show own_Fin _ _ _ _ _ _ (T221.setTop (mkF m 21 #[rv a1, .val (.int a), rv a2, .val (.int j)] []))
          refine own_to (fun t k => XS.aloadN X221.here hx rfl (hb hby own_d17_21) rfl rfl k) ?_
          show own_Fin _ _ _ _ _ _ (T221.setTop (mkF m 22 #[rv a1, .val (.int a), rv a2, .val (.int j)] [(.ref a2)]))
          refine own_to (fun t k => XS.iloadN X221.here hx rfl (hb hby own_d17_22) rfl k) ?_
          obtain ⟨cl227, Ar227, qa227, Sa227, Na227, Ha227, Ga227⟩ := id V2
          have hin228 : ¬ (j < 0 ∨ cl227.slots.size ≤ (j).toNatClampNeg) := inb_of Sa227 ⟨hj, hc10_223⟩
          refine own_to (fun t k => X221.caload hx (j := j) (v := (.int (own_at xs j))) (by rw [e221]; exact Ar227.1) (State.isArrayOf_alike hZ.alike Ar227.2.1) Ar227.2.2 hin228 (Has.at Ha227 hin228 (own_getm xs _)) (g := (mkF m 23 #[rv a1, .val (.int a), rv a2, .val (.int j)] [(.int j), (.ref a2)])) rfl rfl (hb hby own_d17_23) _ k) ?_
          show own_Fin _ _ _ _ _ _ (T221.setTop (mkF m 24 #[rv a1, .val (.int a), rv a2, .val (.int j)] [(.int (own_at xs j))]))
          refine own_to (fun t k => XS.bipush X221.here hx rfl (hb hby own_d17_24) k) ?_
          by_cases hc26_229 : (57 : Int32) < (own_at xs j)
          ·
            show own_Fin _ _ _ _ _ _ (T221.setTop (mkF m 26 #[rv a1, .val (.int a), rv a2, .val (.int j)] [(.int (57 : Int32)), (.int (own_at xs j))]))
            refine own_to (fun t k => XS.icmpYes X221.here hx rfl (pc0 := 26) (pc' := 35) rfl (hb hby own_d17_26) rfl (tlt hc26_229).2.2.1 (by decide) (by decide) k) ?_
            show own_Fin _ _ _ _ _ _ (T221.setTop (mkF m 35 #[rv a1, .val (.int a), rv a2, .val (.int j)] []))
            refine own_to (fun t k => XS.iloadN X221.here hx rfl (hb hby own_d17_35) rfl k) ?_
            show own_Fin _ _ _ _ _ _ (T221.setTop (mkF m 36 #[rv a1, .val (.int a), rv a2, .val (.int j)] [(.int j)]))
            refine own_retI X221 hx hlk hret (hb hby own_d17_36) (by decide) (by decide) ?_
            try rw [e221]
            exact ⟨by rw [hjb], N0, rfl⟩
          ·
            show own_Fin _ _ _ _ _ _ (T221.setTop (mkF m 26 #[rv a1, .val (.int a), rv a2, .val (.int j)] [(.int (57 : Int32)), (.int (own_at xs j))]))
            refine own_to (fun t k => XS.icmpNo X221.here hx rfl (hb hby own_d17_26) rfl (flt hc26_229).2.2.1 k) ?_
            show own_Fin _ _ _ _ _ _ (T221.setTop (mkF m 29 #[rv a1, .val (.int a), rv a2, .val (.int j)] []))
            exact absurd (hd.2.2.2.2 (hjb ▸ hc10_223)) (fun q => q.elim (hjb ▸ hc18_226) (hjb ▸ hc26_229))
      ·
        show own_Fin _ _ _ _ _ _ (T221.setTop (mkF m 10 #[rv a1, .val (.int a), rv a2, .val (.int j)] [(.int (21 : Int32)), (.int j)]))
        refine own_to (fun t k => XS.icmpYes X221.here hx rfl (pc0 := 10) (pc' := 35) rfl (hb hby own_d17_10) rfl (flt hc10_223).2.1 (by decide) (by decide) k) ?_
        show own_Fin _ _ _ _ _ _ (T221.setTop (mkF m 35 #[rv a1, .val (.int a), rv a2, .val (.int j)] []))
        refine own_to (fun t k => XS.iloadN X221.here hx rfl (hb hby own_d17_35) rfl k) ?_
        show own_Fin _ _ _ _ _ _ (T221.setTop (mkF m 36 #[rv a1, .val (.int a), rv a2, .val (.int j)] [(.int j)]))
        refine own_retI X221 hx hlk hret (hb hby own_d17_36) (by decide) (by decide) ?_
        try rw [e221]
        exact ⟨by rw [hjb], N0, rfl⟩
    | succ r ih =>
      intro j ha hr
      have hj := own_nn hd.1 ha
      have hlt : j.toInt < b.toInt := by omega
      have hjn := own_ltn hlt hd.2.2.1
      have hdj := hd.2.2.2.1 j ha hlt
      have hinc := own_inc hj hlt hd.2.2.1
      show own_Fin _ _ _ _ _ _ (T221.setTop (mkF m 7 #[rv a1, .val (.int a), rv a2, .val (.int j)] []))
      refine own_to (fun t k => XS.iloadN X221.here hx rfl (hb hby own_d17_7) rfl k) ?_
      refine own_to (fun t k => XS.aloadN X221.here hx rfl (hb hby own_d17_8) rfl rfl k) ?_
      obtain ⟨cl230, Ar230, qa230, Sa230, Na230, Ha230, Ga230⟩ := id V2
      refine own_to (fun t k => X221.arraylength hx (by rw [e221]; exact Ar230.1) (State.isArrayOf_alike hZ.alike Ar230.2.1) (g := (mkF m 9 #[rv a1, .val (.int a), rv a2, .val (.int j)] [(.ref a2), (.int j)])) rfl rfl (hb hby own_d17_9) _ k) ?_
      rw [len_of Sa230 Na230]
      show own_Fin _ _ _ _ _ _ (T221.setTop (mkF m 10 #[rv a1, .val (.int a), rv a2, .val (.int j)] [(.int (21 : Int32)), (.int j)]))
      refine own_to (fun t k => XS.icmpNo X221.here hx rfl (hb hby own_d17_10) rfl (tlt hjn).2.1 k) ?_
      show own_Fin _ _ _ _ _ _ (T221.setTop (mkF m 13 #[rv a1, .val (.int a), rv a2, .val (.int j)] []))
      refine own_to (fun t k => XS.aloadN X221.here hx rfl (hb hby own_d17_13) rfl rfl k) ?_
      show own_Fin _ _ _ _ _ _ (T221.setTop (mkF m 14 #[rv a1, .val (.int a), rv a2, .val (.int j)] [(.ref a2)]))
      refine own_to (fun t k => XS.iloadN X221.here hx rfl (hb hby own_d17_14) rfl k) ?_
      obtain ⟨cl231, Ar231, qa231, Sa231, Na231, Ha231, Ga231⟩ := id V2
      have hin232 : ¬ (j < 0 ∨ cl231.slots.size ≤ (j).toNatClampNeg) := inb_of Sa231 ⟨hj, hjn⟩
      refine own_to (fun t k => X221.caload hx (j := j) (v := (.int (own_at xs j))) (by rw [e221]; exact Ar231.1) (State.isArrayOf_alike hZ.alike Ar231.2.1) Ar231.2.2 hin232 (Has.at Ha231 hin232 (own_getm xs _)) (g := (mkF m 15 #[rv a1, .val (.int a), rv a2, .val (.int j)] [(.int j), (.ref a2)])) rfl rfl (hb hby own_d17_15) _ k) ?_
      show own_Fin _ _ _ _ _ _ (T221.setTop (mkF m 16 #[rv a1, .val (.int a), rv a2, .val (.int j)] [(.int (own_at xs j))]))
      refine own_to (fun t k => XS.bipush X221.here hx rfl (hb hby own_d17_16) k) ?_
      refine own_to (fun t k => XS.icmpNo X221.here hx rfl (hb hby own_d17_18) rfl (flt hdj.1).1 k) ?_
      show own_Fin _ _ _ _ _ _ (T221.setTop (mkF m 21 #[rv a1, .val (.int a), rv a2, .val (.int j)] []))
      refine own_to (fun t k => XS.aloadN X221.here hx rfl (hb hby own_d17_21) rfl rfl k) ?_
      show own_Fin _ _ _ _ _ _ (T221.setTop (mkF m 22 #[rv a1, .val (.int a), rv a2, .val (.int j)] [(.ref a2)]))
      refine own_to (fun t k => XS.iloadN X221.here hx rfl (hb hby own_d17_22) rfl k) ?_
      obtain ⟨cl233, Ar233, qa233, Sa233, Na233, Ha233, Ga233⟩ := id V2
      have hin234 : ¬ (j < 0 ∨ cl233.slots.size ≤ (j).toNatClampNeg) := inb_of Sa233 ⟨hj, hjn⟩
      refine own_to (fun t k => X221.caload hx (j := j) (v := (.int (own_at xs j))) (by rw [e221]; exact Ar233.1) (State.isArrayOf_alike hZ.alike Ar233.2.1) Ar233.2.2 hin234 (Has.at Ha233 hin234 (own_getm xs _)) (g := (mkF m 23 #[rv a1, .val (.int a), rv a2, .val (.int j)] [(.int j), (.ref a2)])) rfl rfl (hb hby own_d17_23) _ k) ?_
      show own_Fin _ _ _ _ _ _ (T221.setTop (mkF m 24 #[rv a1, .val (.int a), rv a2, .val (.int j)] [(.int (own_at xs j))]))
      refine own_to (fun t k => XS.bipush X221.here hx rfl (hb hby own_d17_24) k) ?_
      refine own_to (fun t k => XS.icmpNo X221.here hx rfl (hb hby own_d17_26) rfl (flt hdj.2).2.2.1 k) ?_
      show own_Fin _ _ _ _ _ _ (T221.setTop (mkF m 29 #[rv a1, .val (.int a), rv a2, .val (.int j)] []))
      refine own_to (fun t k => XS.iinc X221.here hx rfl (hb hby own_d17_29) rfl (l' := #[rv a1, .val (.int a), rv a2, .val (.int (j + (1 : Int32)))]) rfl k) ?_
      show own_Fin _ _ _ _ _ _ (T221.setTop (mkF m 32 #[rv a1, .val (.int a), rv a2, .val (.int (j + (1 : Int32)))] []))
      refine own_to (fun t k => XS.goto X221.here hx rfl (pc0 := 32) (pc' := 7) rfl (hb hby own_d17_32) (by decide) (by decide) k) ?_
      show own_Fin _ _ _ _ _ _ (T221.setTop (mkF m 7 #[rv a1, .val (.int a), rv a2, .val (.int (j + (1 : Int32)))] []))
      exact ih _ (by rw [hinc.1]; omega) (by rw [hinc.1]; omega)
  exact loop _ a (Int.le_refl _) (by have := hd.2.1; omega : a.toInt + ((b.toInt - a.toInt).toNat : Nat) = b.toInt)
theorem own_d16_0 : decode prog_59_method_20_code 0 = .ok (.aload_n 0, 1) := by decide +kernel
theorem own_d16_1 : decode prog_59_method_20_code 1 = .ok (.aload_n 0, 1) := by decide +kernel
theorem own_d16_2 : decode prog_59_method_20_code 2 = .ok (.getfield 38, 3) := by decide +kernel
theorem own_d16_5 : decode prog_59_method_20_code 5 = .ok (.invokevirtual 210, 3) := by decide +kernel
theorem own_d16_8 : decode prog_59_method_20_code 8 = .ok (.istore_n 1, 1) := by decide +kernel
theorem own_d16_9 : decode prog_59_method_20_code 9 = .ok (.aload_n 0, 1) := by decide +kernel
theorem own_d16_10 : decode prog_59_method_20_code 10 = .ok (.getstatic 213, 3) := by decide +kernel
theorem own_d16_13 : decode prog_59_method_20_code 13 = .ok (.putfield 34, 3) := by decide +kernel
theorem own_d16_16 : decode prog_59_method_20_code 16 = .ok (.aload_n 0, 1) := by decide +kernel
theorem own_d16_17 : decode prog_59_method_20_code 17 = .ok (.iload_n 1, 1) := by decide +kernel
theorem own_d16_18 : decode prog_59_method_20_code 18 = .ok (.invokevirtual 109, 3) := by decide +kernel
theorem own_d16_21 : decode prog_59_method_20_code 21 = .ok (.bipush 46, 2) := by decide +kernel
theorem own_d16_23 : decode prog_59_method_20_code 23 = .ok (.if_icmp .ne 18, 3) := by decide +kernel
theorem own_d16_26 : decode prog_59_method_20_code 26 = .ok (.aload_n 0, 1) := by decide +kernel
theorem own_d16_27 : decode prog_59_method_20_code 27 = .ok (.iload_n 1, 1) := by decide +kernel
theorem own_d16_28 : decode prog_59_method_20_code 28 = .ok (.iconst 1, 1) := by decide +kernel
theorem own_d16_29 : decode prog_59_method_20_code 29 = .ok (.iadd, 1) := by decide +kernel
theorem own_d16_30 : decode prog_59_method_20_code 30 = .ok (.invokevirtual 210, 3) := by decide +kernel
theorem own_d16_33 : decode prog_59_method_20_code 33 = .ok (.istore_n 1, 1) := by decide +kernel
theorem own_d16_34 : decode prog_59_method_20_code 34 = .ok (.aload_n 0, 1) := by decide +kernel
theorem own_d16_35 : decode prog_59_method_20_code 35 = .ok (.getstatic 216, 3) := by decide +kernel
theorem own_d16_38 : decode prog_59_method_20_code 38 = .ok (.putfield 34, 3) := by decide +kernel
theorem own_d16_41 : decode prog_59_method_20_code 41 = .ok (.aload_n 0, 1) := by decide +kernel
theorem own_d16_42 : decode prog_59_method_20_code 42 = .ok (.iload_n 1, 1) := by decide +kernel
theorem own_d16_43 : decode prog_59_method_20_code 43 = .ok (.invokevirtual 109, 3) := by decide +kernel
theorem own_d16_46 : decode prog_59_method_20_code 46 = .ok (.bipush 101, 2) := by decide +kernel
theorem own_d16_48 : decode prog_59_method_20_code 48 = .ok (.if_icmp .eq 13, 3) := by decide +kernel
theorem own_d16_51 : decode prog_59_method_20_code 51 = .ok (.aload_n 0, 1) := by decide +kernel
theorem own_d16_52 : decode prog_59_method_20_code 52 = .ok (.iload_n 1, 1) := by decide +kernel
theorem own_d16_53 : decode prog_59_method_20_code 53 = .ok (.invokevirtual 109, 3) := by decide +kernel
theorem own_d16_56 : decode prog_59_method_20_code 56 = .ok (.bipush 69, 2) := by decide +kernel
theorem own_d16_58 : decode prog_59_method_20_code 58 = .ok (.if_icmp .ne 54, 3) := by decide +kernel
theorem own_d16_61 : decode prog_59_method_20_code 61 = .ok (.iload_n 1, 1) := by decide +kernel
theorem own_d16_62 : decode prog_59_method_20_code 62 = .ok (.iconst 1, 1) := by decide +kernel
theorem own_d16_63 : decode prog_59_method_20_code 63 = .ok (.iadd, 1) := by decide +kernel
theorem own_d16_64 : decode prog_59_method_20_code 64 = .ok (.istore_n 2, 1) := by decide +kernel
theorem own_d16_65 : decode prog_59_method_20_code 65 = .ok (.aload_n 0, 1) := by decide +kernel
theorem own_d16_66 : decode prog_59_method_20_code 66 = .ok (.iload_n 2, 1) := by decide +kernel
theorem own_d16_67 : decode prog_59_method_20_code 67 = .ok (.invokevirtual 109, 3) := by decide +kernel
theorem own_d16_70 : decode prog_59_method_20_code 70 = .ok (.bipush 43, 2) := by decide +kernel
theorem own_d16_72 : decode prog_59_method_20_code 72 = .ok (.if_icmp .eq 13, 3) := by decide +kernel
theorem own_d16_75 : decode prog_59_method_20_code 75 = .ok (.aload_n 0, 1) := by decide +kernel
theorem own_d16_76 : decode prog_59_method_20_code 76 = .ok (.iload_n 2, 1) := by decide +kernel
theorem own_d16_77 : decode prog_59_method_20_code 77 = .ok (.invokevirtual 109, 3) := by decide +kernel
theorem own_d16_80 : decode prog_59_method_20_code 80 = .ok (.bipush 45, 2) := by decide +kernel
theorem own_d16_82 : decode prog_59_method_20_code 82 = .ok (.if_icmp .ne 6, 3) := by decide +kernel
theorem own_d16_85 : decode prog_59_method_20_code 85 = .ok (.iinc 2 1, 3) := by decide +kernel
theorem own_d16_88 : decode prog_59_method_20_code 88 = .ok (.aload_n 0, 1) := by decide +kernel
theorem own_d16_89 : decode prog_59_method_20_code 89 = .ok (.iload_n 2, 1) := by decide +kernel
theorem own_d16_90 : decode prog_59_method_20_code 90 = .ok (.invokevirtual 109, 3) := by decide +kernel
theorem own_d16_93 : decode prog_59_method_20_code 93 = .ok (.invokestatic 179, 3) := by decide +kernel
theorem own_d16_96 : decode prog_59_method_20_code 96 = .ok (.ifCond .eq 16, 3) := by decide +kernel
theorem own_d16_99 : decode prog_59_method_20_code 99 = .ok (.aload_n 0, 1) := by decide +kernel
theorem own_d16_100 : decode prog_59_method_20_code 100 = .ok (.iload_n 2, 1) := by decide +kernel
theorem own_d16_101 : decode prog_59_method_20_code 101 = .ok (.invokevirtual 210, 3) := by decide +kernel
theorem own_d16_104 : decode prog_59_method_20_code 104 = .ok (.istore_n 1, 1) := by decide +kernel
theorem own_d16_105 : decode prog_59_method_20_code 105 = .ok (.aload_n 0, 1) := by decide +kernel
theorem own_d16_106 : decode prog_59_method_20_code 106 = .ok (.getstatic 219, 3) := by decide +kernel
theorem own_d16_109 : decode prog_59_method_20_code 109 = .ok (.putfield 34, 3) := by decide +kernel
theorem own_d16_112 : decode prog_59_method_20_code 112 = .ok (.aload_n 0, 1) := by decide +kernel
theorem own_d16_113 : decode prog_59_method_20_code 113 = .ok (.iload_n 1, 1) := by decide +kernel
theorem own_d16_114 : decode prog_59_method_20_code 114 = .ok (.putfield 41, 3) := by decide +kernel
theorem own_d16_117 : decode prog_59_method_20_code 117 = .ok (.iload_n 1, 1) := by decide +kernel
theorem own_d16_118 : decode prog_59_method_20_code 118 = .ok (.aload_n 0, 1) := by decide +kernel
theorem own_d16_119 : decode prog_59_method_20_code 119 = .ok (.getfield 26, 3) := by decide +kernel
theorem own_d16_122 : decode prog_59_method_20_code 122 = .ok (.arraylength, 1) := by decide +kernel
theorem own_d16_123 : decode prog_59_method_20_code 123 = .ok (.if_icmp .ge 16, 3) := by decide +kernel
theorem own_d16_126 : decode prog_59_method_20_code 126 = .ok (.aload_n 0, 1) := by decide +kernel
theorem own_d16_127 : decode prog_59_method_20_code 127 = .ok (.iload_n 1, 1) := by decide +kernel
theorem own_d16_128 : decode prog_59_method_20_code 128 = .ok (.invokevirtual 185, 3) := by decide +kernel
theorem own_d16_131 : decode prog_59_method_20_code 131 = .ok (.ifCond .eq 8, 3) := by decide +kernel
theorem own_d16_134 : decode prog_59_method_20_code 134 = .ok (.aload_n 0, 1) := by decide +kernel
theorem own_d16_135 : decode prog_59_method_20_code 135 = .ok (.invokevirtual 222, 3) := by decide +kernel
theorem own_d16_138 : decode prog_59_method_20_code 138 = .ok (.athrow, 1) := by decide +kernel
theorem own_d16_139 : decode prog_59_method_20_code 139 = .ok (.return_, 1) := by decide +kernel
theorem own_pd9 : parseMethodDescriptor "(I)I" = some ⟨[.int], some .int⟩ := by decide +kernel
theorem own_pd10 : parseMethodDescriptor "(I)C" = some ⟨[.int], some .char⟩ := by decide +kernel
theorem own_pd11 : parseMethodDescriptor "(C)Z" = some ⟨[.char], some .boolean⟩ := by decide +kernel
theorem own_num_ef (m : MethodId) (a1 : Addr) : entryFrame m #[(.ref a1)] 3 = mkF m 0 #[rv a1, .unset, .unset] [] := by first | (simp [entryFrame, mkF, argsToLocals, Value.category]; done) | rfl
set_option maxRecDepth 65536 in
set_option maxHeartbeats 40000000 in
theorem own_num (l : Launch) (Z : State) (a0 : Array Value) (hw : ∀ d ∈ tables_1, d.before a0 Z = true) (ws : List Jvm.Cond) (wI : Addr) (wD : Addr) (wT : Addr) (cT : Cell) (a1 : Addr) (a2 : Addr) (k2 : ClassId) (xs : List Int32) (st : Int32) (t1 : Int32) (en : Int32) (h0 : Heap) (n0 : Nat) (Z0 : n0 ≤ h0.size) (SI : Sta Z Z.heap "com/example/libxqtype/libxqtype/ExpressionLexer$Kind" "INTEGER_LITERAL" "Lcom/example/libxqtype/libxqtype/ExpressionLexer$Kind;" (.ref wI)) (SD : Sta Z Z.heap "com/example/libxqtype/libxqtype/ExpressionLexer$Kind" "DECIMAL_LITERAL" "Lcom/example/libxqtype/libxqtype/ExpressionLexer$Kind;" (.ref wD)) (O0 : Old Z n0 h0) (ST : Sta Z Z.heap "com/example/libxqtype/libxqtype/XmlCharacters" "ASCII_NAME_CHARACTERS" "[B" (.ref wT)) (AT : Arr Z Z.heap wT cT .byte) (hT : cT.slots.size = 128) (E1 : Exa Z h0 a1 "com/example/libxqtype/libxqtype/ExpressionLexer") (Fc : Fld Z h0 a1 "com/example/libxqtype/libxqtype/ExpressionLexer" "chars" "[C" (.ref a2)) (V2 : Arv Z h0 a2 k2 .char (21 : Int32) (xs.map Value.int) (.int (0 : Int32))) (Fk : Fld Z h0 a1 "com/example/libxqtype/libxqtype/ExpressionLexer" "kind" "Lcom/example/libxqtype/libxqtype/ExpressionLexer$Kind;" .null) (Fs : Fld Z h0 a1 "com/example/libxqtype/libxqtype/ExpressionLexer" "start" "I" (.int st)) (Fe : Fld Z h0 a1 "com/example/libxqtype/libxqtype/ExpressionLexer" "end" "I" (.int (0 : Int32))) (g_a1 : n0 ≤ a1) (ne12 : a1 ≠ a2) (hk : ∀ t : Int32, ¬ t < 0 → t < (21 : Int32) → ¬ own_at xs t < 0 ∧ ¬ (255 : Int32) < own_at xs t) (d1 : own_dig xs st t1) (c1 : own_ca xs t1 = (46 : Int32)) (d2 : own_dig xs (t1 + (1 : Int32)) en) (c2 : ¬ own_ca xs en = (101 : Int32)) (c3 : ¬ own_ca xs en = (69 : Int32)) (c4 : en < (21 : Int32) → own_at xs en < (128 : Int32) ∧ ∃ b, cT.slots[(own_at xs en).toNatClampNeg]? = some (.int b) ∧ ¬ b = (2 : Int32)) :
    own_Met l Z (⟨"com/example/libxqtype/libxqtype/ExpressionLexer", "numericLiteral", "()V"⟩ : MethodName) prog_59_method_20_code 3 none ws ({ frames := 2, cells := 0, slots := 0, locals := 32 } : Room) #[(.ref a1)] h0 (fun v h L => v = none ∧ Fr n0 L ∧ Keep h0 h [a1] ∧ Fld Z h a1 "com/example/libxqtype/libxqtype/ExpressionLexer" "chars" "[C" (.ref a2) ∧ Fld Z h a1 "com/example/libxqtype/libxqtype/ExpressionLexer" "start" "I" (.int st) ∧ Fld Z h a1 "com/example/libxqtype/libxqtype/ExpressionLexer" "end" "I" (.int en)) := by
  refine own_enter (plainFor_of_name own_pn4) ?_
  intro p e s m below meth c s₁ X0 hx hZ hby hml hown hnm hret hlk e0
  have N0 := Fr.nil n0
  rw [own_num_ef m a1]
  have KK0 : Keep h0 h0 [a1] := Keep.refl _ _
  show own_Fin _ _ _ _ _ _ (s₁.setTop (mkF m 0 #[rv a1, .unset, .unset] []))
  refine own_to (fun t k => XS.aloadN X0.here hx rfl (hb hby own_d16_0) rfl rfl k) ?_
  refine own_to (fun t k => XS.aloadN X0.here hx rfl (hb hby own_d16_1) rfl rfl k) ?_
  obtain ⟨T235, X235, e235, st235⟩ := getF X0 hx hZ hown (host := "") (Or.inl (own_W hw 98 rfl)) Via.refl e0 Fs (g := (mkF m 2 #[rv a1, .unset, .unset] [(.ref a1), (.ref a1)])) rfl rfl (hb hby own_d16_2)
  refine own_to (fun t k => st235 t k) ?_
  show own_Fin _ _ _ _ _ _ (T235.setTop (mkF m 5 #[rv a1, .unset, .unset] [(.int st), (.ref a1)]))
  obtain ⟨cq236, cqa236, cqb236⟩ := E1.cell
  obtain ⟨_, _, ⟨T236, L236, k236, n236⟩, -, X236, ⟨Lc236, hQ236, l236, y236, z236⟩, st236⟩ := X235.privateBack hx (y := (⟨"com/example/libxqtype/libxqtype/ExpressionLexer", "digitsEnd", "(I)I"⟩ : MethodName)) hown (mvT hZ (own_W hw 107 rfl)) (mvT hZ (own_W hw 108 rfl)) (own_selP (y' := (⟨"com/example/libxqtype/libxqtype/ExpressionLexer", "unscaledValue", "()J"⟩ : MethodName)) (mvT hZ (own_W hw 136 rfl)) rfl (Cond.privateMethod_at (mvP hZ (own_W hw 109 rfl) (args := #[]))) (mvT hZ (own_W hw 108 rfl)) (by decide)) (Cond.privateMethod_at (mvP hZ (own_W hw 109 rfl) (args := #[]))) (mvT hZ (own_W hw 110 rfl)) (by decide) (own_back (W := 0) (own_dge l Z a0 hw [] a1 a2 k2 xs st t1 h0 n0 Z0 E1 Fc V2 d1) hZ (own_W hw 110 rfl) (own_W hw 28 rfl) (by decide) (by decide)) (g := (mkF m 5 #[rv a1, .unset, .unset] [(.int st), (.ref a1)])) rfl (by rw [hml]; rfl) (Steps.refl _) (a := a1) (by rw [e235]; exact cqa236) cqb236 (argsL := [(.int st)]) (rest := []) (lenOf own_pd9 rfl) rfl (by show 2 * 0 + _ ≤ _; exact Nat.le_of_eq rfl) (hb hby own_d16_5) (fun _ _ => ⟨rfl, e235, (by decide : 0 + 0 ≤ _), (by decide : 0 + 0 ≤ _)⟩)
  dsimp only [Pt.U, Pt.locs, Pt.cells, Pt.slots] at X236 l236 y236 z236 st236 hQ236
  rw [l236, y236, z236] at X236
  obtain ⟨rfl, N236q, eh236⟩ := hQ236
  have N236 := Fr.app N0 N236q
  refine own_to (fun t k => st236.trans k) ?_
  show own_Fin _ _ _ _ _ _ (T236.setTop (mkF m 8 #[rv a1, .unset, .unset] [(.int t1)]))
  refine own_to (fun t k => XS.istoreN X236.here hx rfl (hb hby own_d16_8) rfl (l' := #[rv a1, .val (.int t1), .unset]) rfl k) ?_
  show own_Fin _ _ _ _ _ _ (T236.setTop (mkF m 9 #[rv a1, .val (.int t1), .unset] []))
  refine own_to (fun t k => XS.aloadN X236.here hx rfl (hb hby own_d16_9) rfl rfl k) ?_
  obtain ⟨T237, X237, e237, st237⟩ := getS2 X236 hx hZ hown (host := "") (Or.inl (own_W hw 111 rfl)) Via.refl eh236 (SI.ext O0.2) (g := (mkF m 10 #[rv a1, .val (.int t1), .unset] [(.ref a1)])) rfl (hb hby own_d16_10)
  refine own_to (fun t k => st237 t k) ?_
  show own_Fin _ _ _ _ _ _ (T237.setTop (mkF m 13 #[rv a1, .val (.int t1), .unset] [(.ref wI), (.ref a1)]))
  obtain ⟨T238, h238, X238, e238, W238, st238⟩ := putF X237 hx hZ hown (host := "") (Or.inl (own_W hw 114 rfl)) Via.refl e237 Fk E1 (Or.inl (own_W hw 115 rfl)) (own_W hw 27 rfl) (ty := (.object "com/example/libxqtype/libxqtype/ExpressionLexer$Kind")) (by decide) rfl rfl (g := (mkF m 13 #[rv a1, .val (.int t1), .unset] [(.ref wI), (.ref a1)])) rfl rfl (hb hby own_d16_13)
  have Fw238 := Fk.same W238
  have N238 := Fr.snoc X238 N236 g_a1
  have O238 := O0.wr W238 g_a1
  have KK238 : Keep h0 h238 [a1] := KK0.wr W238 (Or.inl (List.mem_of_getElem? (i := 0) rfl))
  have E1_e238 := E1.wr W238
  have Fc_e238 := Fc.other W238 (Or.inr (slot_ne (Or.inr (own_W hw 85 rfl)) (Or.inl (own_W hw 115 rfl)) (by decide) (t := (.array .char)) (t' := (.object "com/example/libxqtype/libxqtype/ExpressionLexer$Kind")) (by decide) (by decide)))
  have V2_e238 := V2.other W238 (Ne.symm ne12)
  have Fs_e238 := Fs.other W238 (Or.inr (slot_ne (Or.inl (own_W hw 99 rfl)) (Or.inl (own_W hw 115 rfl)) (by decide) (t := .int) (t' := (.object "com/example/libxqtype/libxqtype/ExpressionLexer$Kind")) (by decide) (by decide)))
  have Fe_e238 := Fe.other W238 (Or.inr (slot_ne (Or.inl (own_W hw 123 rfl)) (Or.inl (own_W hw 115 rfl)) (by decide) (t := .int) (t' := (.object "com/example/libxqtype/libxqtype/ExpressionLexer$Kind")) (by decide) (by decide)))
  refine own_to (fun t k => st238 t k) ?_
  show own_Fin _ _ _ _ _ _ (T238.setTop (mkF m 16 #[rv a1, .val (.int t1), .unset] []))
  refine own_to (fun t k => XS.aloadN X238.here hx rfl (hb hby own_d16_16) rfl rfl k) ?_
  refine own_to (fun t k => XS.iloadN X238.here hx rfl (hb hby own_d16_17) rfl k) ?_
  show own_Fin _ _ _ _ _ _ (T238.setTop (mkF m 18 #[rv a1, .val (.int t1), .unset] [(.int t1), (.ref a1)]))
  obtain ⟨cq239, cqa239, cqb239⟩ := E1_e238.cell
  obtain ⟨_, _, ⟨T239, L239, k239, n239⟩, -, X239, ⟨Lc239, hQ239, l239, y239, z239⟩, st239⟩ := X238.privateBack hx (y := (⟨"com/example/libxqtype/libxqtype/ExpressionLexer", "charAt", "(I)C"⟩ : MethodName)) hown (mvT hZ (own_W hw 116 rfl)) (mvT hZ (own_W hw 117 rfl)) (own_selP (y' := (⟨"com/example/libxqtype/libxqtype/ExpressionLexer", "unscaledValue", "()J"⟩ : MethodName)) (mvT hZ (own_W hw 136 rfl)) rfl (Cond.privateMethod_at (mvP hZ (own_W hw 118 rfl) (args := #[]))) (mvT hZ (own_W hw 117 rfl)) (by decide)) (Cond.privateMethod_at (mvP hZ (own_W hw 118 rfl) (args := #[]))) (mvT hZ (own_W hw 119 rfl)) (by decide) (own_back (W := 0) (own_car l Z a0 hw [] a1 a2 k2 xs t1 h238 n0 (Nat.le_trans Z0 (Keep.of_wr W238).1) E1_e238 Fc_e238 V2_e238 (own_nn d1.1 d1.2.1) (fun q => hk _ (own_nn d1.1 d1.2.1) q)) hZ (own_W hw 119 rfl) (own_W hw 28 rfl) (by decide) (by decide)) (g := (mkF m 18 #[rv a1, .val (.int t1), .unset] [(.int t1), (.ref a1)])) rfl (by rw [hml]; rfl) (Steps.refl _) (a := a1) (by rw [e238]; exact cqa239) cqb239 (argsL := [(.int t1)]) (rest := []) (lenOf own_pd10 rfl) rfl (by show 2 * 0 + _ ≤ _; exact Nat.le_of_eq rfl) (hb hby own_d16_18) (fun _ _ => ⟨rfl, e238, (by decide : 0 + 0 ≤ _), (by decide : 0 + 0 ≤ _)⟩)
  dsimp only [Pt.U, Pt.locs, Pt.cells, Pt.slots] at X239 l239 y239 z239 st239 hQ239
  rw [l239, y239, z239] at X239
  obtain ⟨rfl, N239q, eh239⟩ := hQ239
  have N239 := Fr.app N238 N239q
  refine own_to (fun t k => st239.trans k) ?_
  show own_Fin _ _ _ _ _ _ (T239.setTop (mkF m 21 #[rv a1, .val (.int t1), .unset] [(.int (own_ca xs t1))]))
  refine own_to (fun t k => XS.bipush X239.here hx rfl (hb hby own_d16_21) k) ?_
  refine own_to (fun t k => XS.icmpNo X239.here hx rfl (hb hby own_d16_23) rfl (teq c1).2 k) ?_
  show own_Fin _ _ _ _ _ _ (T239.setTop (mkF m 26 #[rv a1, .val (.int t1), .unset] []))
  refine own_to (fun t k => XS.aloadN X239.here hx rfl (hb hby own_d16_26) rfl rfl k) ?_
  refine own_to (fun t k => XS.iloadN X239.here hx rfl (hb hby own_d16_27) rfl k) ?_
  show own_Fin _ _ _ _ _ _ (T239.setTop (mkF m 28 #[rv a1, .val (.int t1), .unset] [(.int t1), (.ref a1)]))
  refine own_to (fun t k => XS.iconst X239.here hx rfl (hb hby own_d16_28) k) ?_
  refine own_to (fun t k => XS.iadd X239.here hx rfl (hb hby own_d16_29) rfl k) ?_
  show own_Fin _ _ _ _ _ _ (T239.setTop (mkF m 30 #[rv a1, .val (.int t1), .unset] [(.int (t1 + (1 : Int32))), (.ref a1)]))
  obtain ⟨cq240, cqa240, cqb240⟩ := E1_e238.cell
  obtain ⟨_, _, ⟨T240, L240, k240, n240⟩, -, X240, ⟨Lc240, hQ240, l240, y240, z240⟩, st240⟩ := X239.privateBack hx (y := (⟨"com/example/libxqtype/libxqtype/ExpressionLexer", "digitsEnd", "(I)I"⟩ : MethodName)) hown (mvT hZ (own_W hw 107 rfl)) (mvT hZ (own_W hw 108 rfl)) (own_selP (y' := (⟨"com/example/libxqtype/libxqtype/ExpressionLexer", "unscaledValue", "()J"⟩ : MethodName)) (mvT hZ (own_W hw 136 rfl)) rfl (Cond.privateMethod_at (mvP hZ (own_W hw 109 rfl) (args := #[]))) (mvT hZ (own_W hw 108 rfl)) (by decide)) (Cond.privateMethod_at (mvP hZ (own_W hw 109 rfl) (args := #[]))) (mvT hZ (own_W hw 110 rfl)) (by decide) (own_back (W := 0) (own_dge l Z a0 hw [] a1 a2 k2 xs (t1 + (1 : Int32)) en h238 n0 (Nat.le_trans Z0 (Keep.of_wr W238).1) E1_e238 Fc_e238 V2_e238 d2) hZ (own_W hw 110 rfl) (own_W hw 28 rfl) (by decide) (by decide)) (g := (mkF m 30 #[rv a1, .val (.int t1), .unset] [(.int (t1 + (1 : Int32))), (.ref a1)])) rfl (by rw [hml]; rfl) (Steps.refl _) (a := a1) (by rw [eh239]; exact cqa240) cqb240 (argsL := [(.int (t1 + (1 : Int32)))]) (rest := []) (lenOf own_pd9 rfl) rfl (by show 2 * 0 + _ ≤ _; exact Nat.le_of_eq rfl) (hb hby own_d16_30) (fun _ _ => ⟨rfl, eh239, (by decide : 0 + 0 ≤ _), (by decide : 0 + 0 ≤ _)⟩)
  dsimp only [Pt.U, Pt.locs, Pt.cells, Pt.slots] at X240 l240 y240 z240 st240 hQ240
  rw [l240, y240, z240] at X240
  obtain ⟨rfl, N240q, eh240⟩ := hQ240
  have N240 := Fr.app N239 N240q
  refine own_to (fun t k => st240.trans k) ?_
  show own_Fin _ _ _ _ _ _ (T240.setTop (mkF m 33 #[rv a1, .val (.int t1), .unset] [(.int en)]))
  refine own_to (fun t k => XS.istoreN X240.here hx rfl (hb hby own_d16_33) rfl (l' := #[rv a1, .val (.int en), .unset]) rfl k) ?_
  show own_Fin _ _ _ _ _ _ (T240.setTop (mkF m 34 #[rv a1, .val (.int en), .unset] []))
  refine own_to (fun t k => XS.aloadN X240.here hx rfl (hb hby own_d16_34) rfl rfl k) ?_
  obtain ⟨T241, X241, e241, st241⟩ := getS2 X240 hx hZ hown (host := "") (Or.inl (own_W hw 120 rfl)) Via.refl eh240 (SD.ext O238.2) (g := (mkF m 35 #[rv a1, .val (.int en), .unset] [(.ref a1)])) rfl (hb hby own_d16_35)
  refine own_to (fun t k => st241 t k) ?_
  show own_Fin _ _ _ _ _ _ (T241.setTop (mkF m 38 #[rv a1, .val (.int en), .unset] [(.ref wD), (.ref a1)]))
  obtain ⟨T242, h242, X242, e242, W242, st242⟩ := putF X241 hx hZ hown (host := "") (Or.inl (own_W hw 114 rfl)) Via.refl e241 Fw238 E1_e238 (Or.inl (own_W hw 115 rfl)) (own_W hw 27 rfl) (ty := (.object "com/example/libxqtype/libxqtype/ExpressionLexer$Kind")) (by decide) rfl rfl (g := (mkF m 38 #[rv a1, .val (.int en), .unset] [(.ref wD), (.ref a1)])) rfl rfl (hb hby own_d16_38)
  have Fw242 := Fw238.same W242
  have N242 := Fr.snoc X242 N240 g_a1
  have O242 := O238.wr W242 g_a1
  have KK242 : Keep h0 h242 [a1] := KK238.wr W242 (Or.inl (List.mem_of_getElem? (i := 0) rfl))
  have E1_e242 := E1_e238.wr W242
  have Fc_e242 := Fc_e238.other W242 (Or.inr (slot_ne (Or.inr (own_W hw 85 rfl)) (Or.inl (own_W hw 115 rfl)) (by decide) (t := (.array .char)) (t' := (.object "com/example/libxqtype/libxqtype/ExpressionLexer$Kind")) (by decide) (by decide)))
  have V2_e242 := V2_e238.other W242 (Ne.symm ne12)
  have Fs_e242 := Fs_e238.other W242 (Or.inr (slot_ne (Or.inl (own_W hw 99 rfl)) (Or.inl (own_W hw 115 rfl)) (by decide) (t := .int) (t' := (.object "com/example/libxqtype/libxqtype/ExpressionLexer$Kind")) (by decide) (by decide)))
  have Fe_e242 := Fe_e238.other W242 (Or.inr (slot_ne (Or.inl (own_W hw 123 rfl)) (Or.inl (own_W hw 115 rfl)) (by decide) (t := .int) (t' := (.object "com/example/libxqtype/libxqtype/ExpressionLexer$Kind")) (by decide) (by decide)))
  refine own_to (fun t k => st242 t k) ?_
  show own_Fin _ _ _ _ _ _ (T242.setTop (mkF m 41 #[rv a1, .val (.int en), .unset] []))
  refine own_to (fun t k => XS.aloadN X242.here hx rfl (hb hby own_d16_41) rfl rfl k) ?_
  refine own_to (fun t k => XS.iloadN X242.here hx rfl (hb hby own_d16_42) rfl k) ?_
  show own_Fin _ _ _ _ _ _ (T242.setTop (mkF m 43 #[rv a1, .val (.int en), .unset] [(.int en), (.ref a1)]))
  obtain ⟨cq243, cqa243, cqb243⟩ := E1_e242.cell
  obtain ⟨_, _, ⟨T243, L243, k243, n243⟩, -, X243, ⟨Lc243, hQ243, l243, y243, z243⟩, st243⟩ := X242.privateBack hx (y := (⟨"com/example/libxqtype/libxqtype/ExpressionLexer", "charAt", "(I)C"⟩ : MethodName)) hown (mvT hZ (own_W hw 116 rfl)) (mvT hZ (own_W hw 117 rfl)) (own_selP (y' := (⟨"com/example/libxqtype/libxqtype/ExpressionLexer", "unscaledValue", "()J"⟩ : MethodName)) (mvT hZ (own_W hw 136 rfl)) rfl (Cond.privateMethod_at (mvP hZ (own_W hw 118 rfl) (args := #[]))) (mvT hZ (own_W hw 117 rfl)) (by decide)) (Cond.privateMethod_at (mvP hZ (own_W hw 118 rfl) (args := #[]))) (mvT hZ (own_W hw 119 rfl)) (by decide) (own_back (W := 0) (own_car l Z a0 hw [] a1 a2 k2 xs en h242 n0 (Nat.le_trans (Nat.le_trans Z0 (Keep.of_wr W238).1) (Keep.of_wr W242).1) E1_e242 Fc_e242 V2_e242 (own_nn d2.1 d2.2.1) (fun q => hk _ (own_nn d2.1 d2.2.1) q)) hZ (own_W hw 119 rfl) (own_W hw 28 rfl) (by decide) (by decide)) (g := (mkF m 43 #[rv a1, .val (.int en), .unset] [(.int en), (.ref a1)])) rfl (by rw [hml]; rfl) (Steps.refl _) (a := a1) (by rw [e242]; exact cqa243) cqb243 (argsL := [(.int en)]) (rest := []) (lenOf own_pd10 rfl) rfl (by show 2 * 0 + _ ≤ _; exact Nat.le_of_eq rfl) (hb hby own_d16_43) (fun _ _ => ⟨rfl, e242, (by decide : 0 + 0 ≤ _), (by decide : 0 + 0 ≤ _)⟩)
  dsimp only [Pt.U, Pt.locs, Pt.cells, Pt.slots] at X243 l243 y243 z243 st243 hQ243
  rw [l243, y243, z243] at X243
  obtain ⟨rfl, N243q, eh243⟩ := hQ243
  have N243 := Fr.app N242 N243q
  refine own_to (fun t k => st243.trans k) ?_
  show own_Fin _ _ _ _ _ _ (T243.setTop (mkF m 46 #[rv a1, .val (.int en), .unset] [(.int (own_ca xs en))]))
  refine own_to (fun t k => XS.bipush X243.here hx rfl (hb hby own_d16_46) k) ?_
  refine own_to (fun t k => XS.icmpNo X243.here hx rfl (hb hby own_d16_48) rfl (feq c2).1 k) ?_
  show own_Fin _ _ _ _ _ _ (T243.setTop (mkF m 51 #[rv a1, .val (.int en), .unset] []))
  refine own_to (fun t k => XS.aloadN X243.here hx rfl (hb hby own_d16_51) rfl rfl k) ?_
  refine own_to (fun t k => XS.iloadN X243.here hx rfl (hb hby own_d16_52) rfl k) ?_
  show own_Fin _ _ _ _ _ _ (T243.setTop (mkF m 53 #[rv a1, .val (.int en), .unset] [(.int en), (.ref a1)]))
  obtain ⟨cq244, cqa244, cqb244⟩ := E1_e242.cell
  obtain ⟨_, _, ⟨T244, L244, k244, n244⟩, -, X244, ⟨Lc244, hQ244, l244, y244, z244⟩, st244⟩ := X243.privateBack hx (y := (⟨"com/example/libxqtype/libxqtype/ExpressionLexer", "charAt", "(I)C"⟩ : MethodName)) hown (mvT hZ (own_W hw 116 rfl)) (mvT hZ (own_W hw 117 rfl)) (own_selP (y' := (⟨"com/example/libxqtype/libxqtype/ExpressionLexer", "unscaledValue", "()J"⟩ : MethodName)) (mvT hZ (own_W hw 136 rfl)) rfl (Cond.privateMethod_at (mvP hZ (own_W hw 118 rfl) (args := #[]))) (mvT hZ (own_W hw 117 rfl)) (by decide)) (Cond.privateMethod_at (mvP hZ (own_W hw 118 rfl) (args := #[]))) (mvT hZ (own_W hw 119 rfl)) (by decide) (own_back (W := 0) (own_car l Z a0 hw [] a1 a2 k2 xs en h242 n0 (Nat.le_trans (Nat.le_trans Z0 (Keep.of_wr W238).1) (Keep.of_wr W242).1) E1_e242 Fc_e242 V2_e242 (own_nn d2.1 d2.2.1) (fun q => hk _ (own_nn d2.1 d2.2.1) q)) hZ (own_W hw 119 rfl) (own_W hw 28 rfl) (by decide) (by decide)) (g := (mkF m 53 #[rv a1, .val (.int en), .unset] [(.int en), (.ref a1)])) rfl (by rw [hml]; rfl) (Steps.refl _) (a := a1) (by rw [eh243]; exact cqa244) cqb244 (argsL := [(.int en)]) (rest := []) (lenOf own_pd10 rfl) rfl (by show 2 * 0 + _ ≤ _; exact Nat.le_of_eq rfl) (hb hby own_d16_53) (fun _ _ => ⟨rfl, eh243, (by decide : 0 + 0 ≤ _), (by decide : 0 + 0 ≤ _)⟩)
  dsimp only [Pt.U, Pt.locs, Pt.cells, Pt.slots] at X244 l244 y244 z244 st244 hQ244
  rw [l244, y244, z244] at X244
  obtain ⟨rfl, N244q, eh244⟩ := hQ244
  have N244 := Fr.app N243 N244q
  refine own_to (fun t k => st244.trans k) ?_
  show own_Fin _ _ _ _ _ _ (T244.setTop (mkF m 56 #[rv a1, .val (.int en), .unset] [(.int (own_ca xs en))]))
  refine own_to (fun t k => XS.bipush X244.here hx rfl (hb hby own_d16_56) k) ?_
  refine own_to (fun t k => XS.icmpYes X244.here hx rfl (pc0 := 58) (pc' := 112) rfl (hb hby own_d16_58) rfl (feq c3).2 (by decide) (by decide) k) ?_
  show own_Fin _ _ _ _ _ _ (T244.setTop (mkF m 112 #[rv a1, .val (.int en), .unset] []))
  refine own_to (fun t k => XS.aloadN X244.here hx rfl (hb hby own_d16_112) rfl rfl k) ?_
  refine own_to (fun t k => XS.iloadN X244.here hx rfl (hb hby own_d16_113) rfl k) ?_
  show own_Fin _ _ _ _ _ _ (T244.setTop (mkF m 114 #[rv a1, .val (.int en), .unset] [(.int en), (.ref a1)]))
  obtain ⟨T245, h245, X245, e245, W245, st245⟩ := putF X244 hx hZ hown (host := "") (Or.inl (own_W hw 122 rfl)) Via.refl eh244 Fe_e242 E1_e242 (Or.inl (own_W hw 123 rfl)) (own_W hw 27 rfl) (ty := .int) (by decide) rfl rfl (g := (mkF m 114 #[rv a1, .val (.int en), .unset] [(.int en), (.ref a1)])) rfl rfl (hb hby own_d16_114)
  have Fw245 := Fe_e242.same W245
  have N245 := Fr.snoc X245 N244 g_a1
  have O245 := O242.wr W245 g_a1
  have KK245 : Keep h0 h245 [a1] := KK242.wr W245 (Or.inl (List.mem_of_getElem? (i := 0) rfl))
  have E1_e245 := E1_e242.wr W245
  have Fc_e245 := Fc_e242.other W245 (Or.inr (slot_ne (Or.inr (own_W hw 85 rfl)) (Or.inl (own_W hw 123 rfl)) (by decide) (t := (.array .char)) (t' := .int) (by decide) (by decide)))
  have V2_e245 := V2_e242.other W245 (Ne.symm ne12)
  have Fw242_e245 := Fw242.other W245 (Or.inr (slot_ne (Or.inl (own_W hw 115 rfl)) (Or.inl (own_W hw 123 rfl)) (by decide) (t := (.object "com/example/libxqtype/libxqtype/ExpressionLexer$Kind")) (t' := .int) (by decide) (by decide)))
  have Fs_e245 := Fs_e242.other W245 (Or.inr (slot_ne (Or.inl (own_W hw 99 rfl)) (Or.inl (own_W hw 123 rfl)) (by decide) (t := .int) (t' := .int) (by decide) (by decide)))
  refine own_to (fun t k => st245 t k) ?_
  show own_Fin _ _ _ _ _ _ (T245.setTop (mkF m 117 #[rv a1, .val (.int en), .unset] []))
  refine own_to (fun t k => XS.iloadN X245.here hx rfl (hb hby own_d16_117) rfl k) ?_
  refine own_to (fun t k => XS.aloadN X245.here hx rfl (hb hby own_d16_118) rfl rfl k) ?_
  obtain ⟨T246, X246, e246, st246⟩ := getF X245 hx hZ hown (host := "") (Or.inl (own_W hw 84 rfl)) Via.refl e245 Fc_e245 (g := (mkF m 119 #[rv a1, .val (.int en), .unset] [(.ref a1), (.int en)])) rfl rfl (hb hby own_d16_119)
  refine own_to (fun t k => st246 t k) ?_
  show own_Fin _ _ _ _ _ _ (T246.setTop (mkF m 122 #[rv a1, .val (.int en), .unset] [(.ref a2), (.int en)]))
  obtain ⟨cl247, Ar247, qa247, Sa247, Na247, Ha247, Ga247⟩ := id V2_e245
  refine own_to (fun t k => X246.arraylength hx (by rw [e246]; exact Ar247.1) (State.isArrayOf_alike hZ.alike Ar247.2.1) (g := (mkF m 122 #[rv a1, .val (.int en), .unset] [(.ref a2), (.int en)])) rfl rfl (hb hby own_d16_122) _ k) ?_
  rw [len_of Sa247 Na247]
  show own_Fin _ _ _ _ _ _ (T246.setTop (mkF m 123 #[rv a1, .val (.int en), .unset] [(.int (21 : Int32)), (.int en)]))
  by_cases hc123_248 : en < (21 : Int32)
  ·
    show own_Fin _ _ _ _ _ _ (T246.setTop (mkF m 123 #[rv a1, .val (.int en), .unset] [(.int (21 : Int32)), (.int en)]))
    refine own_to (fun t k => XS.icmpNo X246.here hx rfl (hb hby own_d16_123) rfl (tlt hc123_248).2.1 k) ?_
    show own_Fin _ _ _ _ _ _ (T246.setTop (mkF m 126 #[rv a1, .val (.int en), .unset] []))
    refine own_to (fun t k => XS.aloadN X246.here hx rfl (hb hby own_d16_126) rfl rfl k) ?_
    show own_Fin _ _ _ _ _ _ (T246.setTop (mkF m 127 #[rv a1, .val (.int en), .unset] [(.ref a1)]))
    refine own_to (fun t k => XS.iloadN X246.here hx rfl (hb hby own_d16_127) rfl k) ?_
    obtain ⟨hp249, b249, hb249, hq249⟩ := c4 hc123_248
    have zs250 := (Nat.le_trans (Nat.le_trans (Nat.le_trans Z0 (Keep.of_wr W238).1) (Keep.of_wr W242).1) (Keep.of_wr W245).1)
    obtain ⟨cq251, cqa251, cqb251⟩ := E1_e245.cell
    obtain ⟨_, _, ⟨T251, L251, k251, n251⟩, -, X251, ⟨Lc251, hQ251, l251, y251, z251⟩, st251⟩ := X246.privateBack hx (y := (⟨"com/example/libxqtype/libxqtype/ExpressionLexer", "startsName", "(I)Z"⟩ : MethodName)) hown (mvT hZ (own_W hw 124 rfl)) (mvT hZ (own_W hw 125 rfl)) (own_selP (y' := (⟨"com/example/libxqtype/libxqtype/ExpressionLexer", "unscaledValue", "()J"⟩ : MethodName)) (mvT hZ (own_W hw 136 rfl)) rfl (Cond.privateMethod_at (mvP hZ (own_W hw 126 rfl) (args := #[]))) (mvT hZ (own_W hw 125 rfl)) (by decide)) (Cond.privateMethod_at (mvP hZ (own_W hw 126 rfl) (args := #[]))) (mvT hZ (own_W hw 127 rfl)) (by decide) (own_back (W := 0) (own_sna l Z a0 hw [] wT cT a1 a2 k2 xs en b249 h245 n0 zs250 O245 ST AT hT E1_e245 Fc_e245 V2_e245 (own_nn d2.1 d2.2.1) hc123_248 (hk _ (own_nn d2.1 d2.2.1) hc123_248).1 hp249 hb249 hq249) hZ (own_W hw 127 rfl) (own_W hw 28 rfl) (by decide) (by decide)) (g := (mkF m 128 #[rv a1, .val (.int en), .unset] [(.int en), (.ref a1)])) rfl (by rw [hml]; rfl) (Steps.refl _) (a := a1) (by rw [e246]; exact cqa251) cqb251 (argsL := [(.int en)]) (rest := []) (lenOf own_pd8 rfl) rfl (by show 2 * 0 + _ ≤ _; exact Nat.le_of_eq rfl) (hb hby own_d16_128) (fun _ _ => ⟨rfl, e246, (by decide : 0 + 0 ≤ _), (by decide : 0 + 0 ≤ _)⟩)
    dsimp only [Pt.U, Pt.locs, Pt.cells, Pt.slots] at X251 l251 y251 z251 st251 hQ251
    rw [l251, y251, z251] at X251
    obtain ⟨rfl, N251q, eh251⟩ := hQ251
    have N251 := Fr.app N245 N251q
    refine own_to (fun t k => st251.trans k) ?_
    show own_Fin _ _ _ _ _ _ (T251.setTop (mkF m 131 #[rv a1, .val (.int en), .unset] [(.int (0 : Int32))]))
    refine own_to (fun t k => XS.ifYes X251.here hx rfl (pc0 := 131) (pc' := 139) rfl (hb hby own_d16_131) rfl ((if0 _ _).trans (teq rfl).1) (by decide) (by decide) k) ?_
    show own_Fin _ _ _ _ _ _ (T251.setTop (mkF m 139 #[rv a1, .val (.int en), .unset] []))
    refine own_retV X251 hx hlk hret (hb hby own_d16_139) (by decide) (by decide) ?_
    try rw [eh251]
    exact ⟨rfl, N251, KK245, Fc_e245, Fs_e245, Fw245⟩
  ·
    show own_Fin _ _ _ _ _ _ (T246.setTop (mkF m 123 #[rv a1, .val (.int en), .unset] [(.int (21 : Int32)), (.int en)]))
    refine own_to (fun t k => XS.icmpYes X246.here hx rfl (pc0 := 123) (pc' := 139) rfl (hb hby own_d16_123) rfl (flt hc123_248).2.1 (by decide) (by decide) k) ?_
    show own_Fin _ _ _ _ _ _ (T246.setTop (mkF m 139 #[rv a1, .val (.int en), .unset] []))
    refine own_retV X246 hx hlk hret (hb hby own_d16_139) (by decide) (by decide) ?_
    try rw [e246]
    exact ⟨rfl, N245, KK245, Fc_e245, Fs_e245, Fw245⟩
def own_offs : Array Int := #[227, 280, 287, 287, 287, 287, 280, 137, 147, 207, 187, 157, 177, 287, 287, 287, 287, 287, 287, 287, 287, 287, 287, 287, 287, 287, 167, 254, 217, 267, 197]
theorem own_tsw {c : Int32} (h : ¬ own_dg c = 0 ∨ c = 46) : ¬ (c.toInt < 33 ∨ c.toInt > 63) ∧ own_offs[(c.toInt - 33).toNat]? = some 287 := by
  have hr : c.toInt = 46 ∨ 48 ≤ c.toInt ∧ c.toInt ≤ 57 := by
    rcases h with h | h
    · right
      unfold own_dg at h
      by_cases q : c < (48 : Int32)
      · rw [if_pos q] at h; exact absurd rfl h
      rw [if_neg q] at h
      by_cases q2 : (57 : Int32) < c
      · rw [if_pos q2] at h; exact absurd rfl h
      rw [own_lt32, show (48 : Int32).toInt = 48 from by decide] at q
      rw [own_lt32, show (57 : Int32).toInt = 57 from by decide] at q2
      omega
    · left; rw [h]; decide
  refine ⟨by omega, ?_⟩
  obtain ⟨t, ht⟩ : ∃ t : Nat, t = (c.toInt - 33).toNat := ⟨_, rfl⟩
  rw [← ht]
  have hb : t = 13 ∨ t = 15 ∨ t = 16 ∨ t = 17 ∨ t = 18 ∨ t = 19 ∨ t = 20 ∨ t = 21 ∨ t = 22 ∨ t = 23 ∨ t = 24 := by omega
  rcases hb with rfl | rfl | rfl | rfl | rfl | rfl | rfl | rfl | rfl | rfl | rfl <;> rfl
theorem own_d13_0 : decode prog_59_method_15_code 0 = .ok (.aload_n 0, 1) := by decide +kernel
theorem own_d13_1 : decode prog_59_method_15_code 1 = .ok (.aconst_null, 1) := by decide +kernel
theorem own_d13_2 : decode prog_59_method_15_code 2 = .ok (.putfield 82, 3) := by decide +kernel
theorem own_d13_5 : decode prog_59_method_15_code 5 = .ok (.aload_n 0, 1) := by decide +kernel
theorem own_d13_6 : decode prog_59_method_15_code 6 = .ok (.aconst_null, 1) := by decide +kernel
theorem own_d13_7 : decode prog_59_method_15_code 7 = .ok (.putfield 88, 3) := by decide +kernel
theorem own_d13_10 : decode prog_59_method_15_code 10 = .ok (.iload_n 1, 1) := by decide +kernel
theorem own_d13_11 : decode prog_59_method_15_code 11 = .ok (.istore_n 2, 1) := by decide +kernel
theorem own_d13_12 : decode prog_59_method_15_code 12 = .ok (.iload_n 2, 1) := by decide +kernel
theorem own_d13_13 : decode prog_59_method_15_code 13 = .ok (.aload_n 0, 1) := by decide +kernel
theorem own_d13_14 : decode prog_59_method_15_code 14 = .ok (.getfield 26, 3) := by decide +kernel
theorem own_d13_17 : decode prog_59_method_15_code 17 = .ok (.arraylength, 1) := by decide +kernel
theorem own_d13_18 : decode prog_59_method_15_code 18 = .ok (.if_icmp .ge 50, 3) := by decide +kernel
theorem own_d13_21 : decode prog_59_method_15_code 21 = .ok (.aload_n 0, 1) := by decide +kernel
theorem own_d13_22 : decode prog_59_method_15_code 22 = .ok (.getfield 26, 3) := by decide +kernel
theorem own_d13_25 : decode prog_59_method_15_code 25 = .ok (.iload_n 2, 1) := by decide +kernel
theorem own_d13_26 : decode prog_59_method_15_code 26 = .ok (.caload, 1) := by decide +kernel
theorem own_d13_27 : decode prog_59_method_15_code 27 = .ok (.istore_n 3, 1) := by decide +kernel
theorem own_d13_28 : decode prog_59_method_15_code 28 = .ok (.iload_n 3, 1) := by decide +kernel
theorem own_d13_29 : decode prog_59_method_15_code 29 = .ok (.invokestatic 103, 3) := by decide +kernel
theorem own_d13_32 : decode prog_59_method_15_code 32 = .ok (.ifCond .eq 9, 3) := by decide +kernel
theorem own_d13_35 : decode prog_59_method_15_code 35 = .ok (.iinc 2 1, 3) := by decide +kernel
theorem own_d13_38 : decode prog_59_method_15_code 38 = .ok (.goto 27, 3) := by decide +kernel
theorem own_d13_41 : decode prog_59_method_15_code 41 = .ok (.iload_n 3, 1) := by decide +kernel
theorem own_d13_42 : decode prog_59_method_15_code 42 = .ok (.bipush 40, 2) := by decide +kernel
theorem own_d13_44 : decode prog_59_method_15_code 44 = .ok (.if_icmp .ne 24, 3) := by decide +kernel
theorem own_d13_47 : decode prog_59_method_15_code 47 = .ok (.aload_n 0, 1) := by decide +kernel
theorem own_d13_48 : decode prog_59_method_15_code 48 = .ok (.iload_n 2, 1) := by decide +kernel
theorem own_d13_49 : decode prog_59_method_15_code 49 = .ok (.iconst 1, 1) := by decide +kernel
theorem own_d13_50 : decode prog_59_method_15_code 50 = .ok (.iadd, 1) := by decide +kernel
theorem own_d13_51 : decode prog_59_method_15_code 51 = .ok (.invokevirtual 109, 3) := by decide +kernel
theorem own_d13_54 : decode prog_59_method_15_code 54 = .ok (.bipush 58, 2) := by decide +kernel
theorem own_d13_56 : decode prog_59_method_15_code 56 = .ok (.if_icmp .ne 12, 3) := by decide +kernel
theorem own_d13_59 : decode prog_59_method_15_code 59 = .ok (.aload_n 0, 1) := by decide +kernel
theorem own_d13_60 : decode prog_59_method_15_code 60 = .ok (.iload_n 2, 1) := by decide +kernel
theorem own_d13_61 : decode prog_59_method_15_code 61 = .ok (.invokevirtual 113, 3) := by decide +kernel
theorem own_d13_64 : decode prog_59_method_15_code 64 = .ok (.istore_n 2, 1) := by decide +kernel
theorem own_d13_65 : decode prog_59_method_15_code 65 = .ok (.goto (-53), 3) := by decide +kernel
theorem own_d13_68 : decode prog_59_method_15_code 68 = .ok (.aload_n 0, 1) := by decide +kernel
theorem own_d13_69 : decode prog_59_method_15_code 69 = .ok (.iload_n 2, 1) := by decide +kernel
theorem own_d13_70 : decode prog_59_method_15_code 70 = .ok (.putfield 38, 3) := by decide +kernel
theorem own_d13_73 : decode prog_59_method_15_code 73 = .ok (.iload_n 2, 1) := by decide +kernel
theorem own_d13_74 : decode prog_59_method_15_code 74 = .ok (.aload_n 0, 1) := by decide +kernel
theorem own_d13_75 : decode prog_59_method_15_code 75 = .ok (.getfield 26, 3) := by decide +kernel
theorem own_d13_78 : decode prog_59_method_15_code 78 = .ok (.arraylength, 1) := by decide +kernel
theorem own_d13_79 : decode prog_59_method_15_code 79 = .ok (.if_icmp .ne 16, 3) := by decide +kernel
theorem own_d13_82 : decode prog_59_method_15_code 82 = .ok (.aload_n 0, 1) := by decide +kernel
theorem own_d13_83 : decode prog_59_method_15_code 83 = .ok (.getstatic 116, 3) := by decide +kernel
theorem own_d13_86 : decode prog_59_method_15_code 86 = .ok (.putfield 34, 3) := by decide +kernel
theorem own_d13_89 : decode prog_59_method_15_code 89 = .ok (.aload_n 0, 1) := by decide +kernel
theorem own_d13_90 : decode prog_59_method_15_code 90 = .ok (.iload_n 2, 1) := by decide +kernel
theorem own_d13_91 : decode prog_59_method_15_code 91 = .ok (.putfield 41, 3) := by decide +kernel
theorem own_d13_94 : decode prog_59_method_15_code 94 = .ok (.return_, 1) := by decide +kernel
theorem own_d13_95 : decode prog_59_method_15_code 95 = .ok (.aload_n 0, 1) := by decide +kernel
theorem own_d13_96 : decode prog_59_method_15_code 96 = .ok (.getfield 26, 3) := by decide +kernel
theorem own_d13_99 : decode prog_59_method_15_code 99 = .ok (.iload_n 2, 1) := by decide +kernel
theorem own_d13_100 : decode prog_59_method_15_code 100 = .ok (.caload, 1) := by decide +kernel
theorem own_d13_101 : decode prog_59_method_15_code 101 = .ok (.istore_n 3, 1) := by decide +kernel
theorem own_d13_102 : decode prog_59_method_15_code 102 = .ok (.iload_n 3, 1) := by decide +kernel
theorem own_d13_103 : decode prog_59_method_15_code 103 = .ok (.tableswitch 287 33 63 #[227, 280, 287, 287, 287, 287, 280, 137, 147, 207, 187, 157, 177, 287, 287, 287, 287, 287, 287, 287, 287, 287, 287, 287, 287, 287, 167, 254, 217, 267, 197], 137) := by decide +kernel
theorem own_d13_240 : decode prog_59_method_15_code 240 = .ok (.aload_n 0, 1) := by decide +kernel
theorem own_d13_241 : decode prog_59_method_15_code 241 = .ok (.getstatic 119, 3) := by decide +kernel
theorem own_d13_244 : decode prog_59_method_15_code 244 = .ok (.invokevirtual 122, 3) := by decide +kernel
theorem own_d13_247 : decode prog_59_method_15_code 247 = .ok (.goto 196, 3) := by decide +kernel
theorem own_d13_250 : decode prog_59_method_15_code 250 = .ok (.aload_n 0, 1) := by decide +kernel
theorem own_d13_251 : decode prog_59_method_15_code 251 = .ok (.getstatic 126, 3) := by decide +kernel
theorem own_d13_254 : decode prog_59_method_15_code 254 = .ok (.invokevirtual 122, 3) := by decide +kernel
theorem own_d13_257 : decode prog_59_method_15_code 257 = .ok (.goto 186, 3) := by decide +kernel
theorem own_d13_260 : decode prog_59_method_15_code 260 = .ok (.aload_n 0, 1) := by decide +kernel
theorem own_d13_261 : decode prog_59_method_15_code 261 = .ok (.getstatic 129, 3) := by decide +kernel
theorem own_d13_264 : decode prog_59_method_15_code 264 = .ok (.invokevirtual 122, 3) := by decide +kernel
theorem own_d13_267 : decode prog_59_method_15_code 267 = .ok (.goto 176, 3) := by decide +kernel
theorem own_d13_270 : decode prog_59_method_15_code 270 = .ok (.aload_n 0, 1) := by decide +kernel
theorem own_d13_271 : decode prog_59_method_15_code 271 = .ok (.getstatic 132, 3) := by decide +kernel
theorem own_d13_274 : decode prog_59_method_15_code 274 = .ok (.invokevirtual 122, 3) := by decide +kernel
theorem own_d13_277 : decode prog_59_method_15_code 277 = .ok (.goto 166, 3) := by decide +kernel
theorem own_d13_280 : decode prog_59_method_15_code 280 = .ok (.aload_n 0, 1) := by decide +kernel
theorem own_d13_281 : decode prog_59_method_15_code 281 = .ok (.getstatic 135, 3) := by decide +kernel
theorem own_d13_284 : decode prog_59_method_15_code 284 = .ok (.invokevirtual 122, 3) := by decide +kernel
theorem own_d13_287 : decode prog_59_method_15_code 287 = .ok (.goto 156, 3) := by decide +kernel
theorem own_d13_290 : decode prog_59_method_15_code 290 = .ok (.aload_n 0, 1) := by decide +kernel
theorem own_d13_291 : decode prog_59_method_15_code 291 = .ok (.getstatic 138, 3) := by decide +kernel
theorem own_d13_294 : decode prog_59_method_15_code 294 = .ok (.invokevirtual 122, 3) := by decide +kernel
theorem own_d13_297 : decode prog_59_method_15_code 297 = .ok (.goto 146, 3) := by decide +kernel
theorem own_d13_300 : decode prog_59_method_15_code 300 = .ok (.aload_n 0, 1) := by decide +kernel
theorem own_d13_301 : decode prog_59_method_15_code 301 = .ok (.getstatic 141, 3) := by decide +kernel
theorem own_d13_304 : decode prog_59_method_15_code 304 = .ok (.invokevirtual 122, 3) := by decide +kernel
theorem own_d13_307 : decode prog_59_method_15_code 307 = .ok (.goto 136, 3) := by decide +kernel
theorem own_d13_310 : decode prog_59_method_15_code 310 = .ok (.aload_n 0, 1) := by decide +kernel
theorem own_d13_311 : decode prog_59_method_15_code 311 = .ok (.getstatic 144, 3) := by decide +kernel
theorem own_d13_314 : decode prog_59_method_15_code 314 = .ok (.invokevirtual 122, 3) := by decide +kernel
theorem own_d13_317 : decode prog_59_method_15_code 317 = .ok (.goto 126, 3) := by decide +kernel
theorem own_d13_320 : decode prog_59_method_15_code 320 = .ok (.aload_n 0, 1) := by decide +kernel
theorem own_d13_321 : decode prog_59_method_15_code 321 = .ok (.getstatic 147, 3) := by decide +kernel
theorem own_d13_324 : decode prog_59_method_15_code 324 = .ok (.invokevirtual 122, 3) := by decide +kernel
theorem own_d13_327 : decode prog_59_method_15_code 327 = .ok (.goto 116, 3) := by decide +kernel
theorem own_d13_330 : decode prog_59_method_15_code 330 = .ok (.aload_n 0, 1) := by decide +kernel
theorem own_d13_331 : decode prog_59_method_15_code 331 = .ok (.iload_n 2, 1) := by decide +kernel
theorem own_d13_332 : decode prog_59_method_15_code 332 = .ok (.iconst 1, 1) := by decide +kernel
theorem own_d13_333 : decode prog_59_method_15_code 333 = .ok (.iadd, 1) := by decide +kernel
theorem own_d13_334 : decode prog_59_method_15_code 334 = .ok (.invokevirtual 109, 3) := by decide +kernel
theorem own_d13_337 : decode prog_59_method_15_code 337 = .ok (.bipush 61, 2) := by decide +kernel
theorem own_d13_339 : decode prog_59_method_15_code 339 = .ok (.if_icmp .eq 8, 3) := by decide +kernel
theorem own_d13_342 : decode prog_59_method_15_code 342 = .ok (.aload_n 0, 1) := by decide +kernel
theorem own_d13_343 : decode prog_59_method_15_code 343 = .ok (.invokevirtual 150, 3) := by decide +kernel
theorem own_d13_346 : decode prog_59_method_15_code 346 = .ok (.athrow, 1) := by decide +kernel
theorem own_d13_347 : decode prog_59_method_15_code 347 = .ok (.aload_n 0, 1) := by decide +kernel
theorem own_d13_348 : decode prog_59_method_15_code 348 = .ok (.getstatic 154, 3) := by decide +kernel
theorem own_d13_351 : decode prog_59_method_15_code 351 = .ok (.invokevirtual 157, 3) := by decide +kernel
theorem own_d13_354 : decode prog_59_method_15_code 354 = .ok (.goto 89, 3) := by decide +kernel
theorem own_d13_357 : decode prog_59_method_15_code 357 = .ok (.aload_n 0, 1) := by decide +kernel
theorem own_d13_358 : decode prog_59_method_15_code 358 = .ok (.getstatic 160, 3) := by decide +kernel
theorem own_d13_361 : decode prog_59_method_15_code 361 = .ok (.getstatic 163, 3) := by decide +kernel
theorem own_d13_364 : decode prog_59_method_15_code 364 = .ok (.invokevirtual 166, 3) := by decide +kernel
theorem own_d13_367 : decode prog_59_method_15_code 367 = .ok (.goto 76, 3) := by decide +kernel
theorem own_d13_370 : decode prog_59_method_15_code 370 = .ok (.aload_n 0, 1) := by decide +kernel
theorem own_d13_371 : decode prog_59_method_15_code 371 = .ok (.getstatic 170, 3) := by decide +kernel
theorem own_d13_374 : decode prog_59_method_15_code 374 = .ok (.getstatic 173, 3) := by decide +kernel
theorem own_d13_377 : decode prog_59_method_15_code 377 = .ok (.invokevirtual 166, 3) := by decide +kernel
theorem own_d13_380 : decode prog_59_method_15_code 380 = .ok (.goto 63, 3) := by decide +kernel
theorem own_d13_383 : decode prog_59_method_15_code 383 = .ok (.aload_n 0, 1) := by decide +kernel
theorem own_d13_384 : decode prog_59_method_15_code 384 = .ok (.invokevirtual 176, 3) := by decide +kernel
theorem own_d13_387 : decode prog_59_method_15_code 387 = .ok (.goto 56, 3) := by decide +kernel
theorem own_d13_390 : decode prog_59_method_15_code 390 = .ok (.iload_n 3, 1) := by decide +kernel
theorem own_d13_391 : decode prog_59_method_15_code 391 = .ok (.invokestatic 179, 3) := by decide +kernel
theorem own_d13_394 : decode prog_59_method_15_code 394 = .ok (.ifCond .ne 22, 3) := by decide +kernel
theorem own_d13_397 : decode prog_59_method_15_code 397 = .ok (.iload_n 3, 1) := by decide +kernel
theorem own_d13_398 : decode prog_59_method_15_code 398 = .ok (.bipush 46, 2) := by decide +kernel
theorem own_d13_400 : decode prog_59_method_15_code 400 = .ok (.if_icmp .ne 23, 3) := by decide +kernel
theorem own_d13_403 : decode prog_59_method_15_code 403 = .ok (.aload_n 0, 1) := by decide +kernel
theorem own_d13_404 : decode prog_59_method_15_code 404 = .ok (.iload_n 2, 1) := by decide +kernel
theorem own_d13_405 : decode prog_59_method_15_code 405 = .ok (.iconst 1, 1) := by decide +kernel
theorem own_d13_406 : decode prog_59_method_15_code 406 = .ok (.iadd, 1) := by decide +kernel
theorem own_d13_407 : decode prog_59_method_15_code 407 = .ok (.invokevirtual 109, 3) := by decide +kernel
theorem own_d13_410 : decode prog_59_method_15_code 410 = .ok (.invokestatic 179, 3) := by decide +kernel
theorem own_d13_413 : decode prog_59_method_15_code 413 = .ok (.ifCond .eq 10, 3) := by decide +kernel
theorem own_d13_416 : decode prog_59_method_15_code 416 = .ok (.aload_n 0, 1) := by decide +kernel
theorem own_d13_417 : decode prog_59_method_15_code 417 = .ok (.invokevirtual 182, 3) := by decide +kernel
theorem own_d13_420 : decode prog_59_method_15_code 420 = .ok (.goto 23, 3) := by decide +kernel
theorem own_d13_423 : decode prog_59_method_15_code 423 = .ok (.aload_n 0, 1) := by decide +kernel
theorem own_d13_424 : decode prog_59_method_15_code 424 = .ok (.iload_n 2, 1) := by decide +kernel
theorem own_d13_425 : decode prog_59_method_15_code 425 = .ok (.invokevirtual 185, 3) := by decide +kernel
theorem own_d13_428 : decode prog_59_method_15_code 428 = .ok (.ifCond .eq 10, 3) := by decide +kernel
theorem own_d13_431 : decode prog_59_method_15_code 431 = .ok (.aload_n 0, 1) := by decide +kernel
theorem own_d13_432 : decode prog_59_method_15_code 432 = .ok (.invokevirtual 189, 3) := by decide +kernel
theorem own_d13_435 : decode prog_59_method_15_code 435 = .ok (.goto 8, 3) := by decide +kernel
theorem own_d13_438 : decode prog_59_method_15_code 438 = .ok (.aload_n 0, 1) := by decide +kernel
theorem own_d13_439 : decode prog_59_method_15_code 439 = .ok (.invokevirtual 150, 3) := by decide +kernel
theorem own_d13_442 : decode prog_59_method_15_code 442 = .ok (.athrow, 1) := by decide +kernel
theorem own_d13_443 : decode prog_59_method_15_code 443 = .ok (.return_, 1) := by decide +kernel
theorem own_scan_ef (m : MethodId) (a1 : Addr) : entryFrame m #[(.ref a1), (.int (0 : Int32))] 4 = mkF m 0 #[rv a1, own_i 0, .unset, .unset] [] := by first | (simp [entryFrame, mkF, argsToLocals, Value.category]; done) | rfl
set_option maxRecDepth 65536 in
set_option maxHeartbeats 40000000 in
theorem own_scan (l : Launch) (Z : State) (a0 : Array Value) (hw : ∀ d ∈ tables_1, d.before a0 Z = true) (ws : List Jvm.Cond) (wI : Addr) (wD : Addr) (wT : Addr) (cT : Cell) (a1 : Addr) (a2 : Addr) (k2 : ClassId) (xs : List Int32) (st : Int32) (t1 : Int32) (en : Int32) (h0 : Heap) (n0 : Nat) (Z0 : n0 ≤ h0.size) (SI : Sta Z Z.heap "com/example/libxqtype/libxqtype/ExpressionLexer$Kind" "INTEGER_LITERAL" "Lcom/example/libxqtype/libxqtype/ExpressionLexer$Kind;" (.ref wI)) (SD : Sta Z Z.heap "com/example/libxqtype/libxqtype/ExpressionLexer$Kind" "DECIMAL_LITERAL" "Lcom/example/libxqtype/libxqtype/ExpressionLexer$Kind;" (.ref wD)) (O0 : Old Z n0 h0) (ST : Sta Z Z.heap "com/example/libxqtype/libxqtype/XmlCharacters" "ASCII_NAME_CHARACTERS" "[B" (.ref wT)) (AT : Arr Z Z.heap wT cT .byte) (hT : cT.slots.size = 128) (E1 : Exa Z h0 a1 "com/example/libxqtype/libxqtype/ExpressionLexer") (Fc : Fld Z h0 a1 "com/example/libxqtype/libxqtype/ExpressionLexer" "chars" "[C" (.ref a2)) (V2 : Arv Z h0 a2 k2 .char (21 : Int32) (xs.map Value.int) (.int (0 : Int32))) (Fk : Fld Z h0 a1 "com/example/libxqtype/libxqtype/ExpressionLexer" "kind" "Lcom/example/libxqtype/libxqtype/ExpressionLexer$Kind;" .null) (Fs : Fld Z h0 a1 "com/example/libxqtype/libxqtype/ExpressionLexer" "start" "I" (.int (0 : Int32))) (Fe : Fld Z h0 a1 "com/example/libxqtype/libxqtype/ExpressionLexer" "end" "I" (.int (0 : Int32))) (Fg : Fld Z h0 a1 "com/example/libxqtype/libxqtype/ExpressionLexer" "spelling" "Ljava/lang/String;" .null) (Fy : Fld Z h0 a1 "com/example/libxqtype/libxqtype/ExpressionLexer" "keyword" "Lcom/example/libxqtype/libxqtype/ExpressionLexer$Keyword;" .null) (g_a1 : n0 ≤ a1) (ne12 : a1 ≠ a2) (hs : st = (0 : Int32) ∨ st = (1 : Int32) ∧ ¬ own_ws (own_at xs (0 : Int32)) = (0 : Int32)) (hn : own_ws (own_at xs st) = (0 : Int32)) (h40 : ¬ own_at xs st = (40 : Int32)) (hf : ¬ own_dg (own_at xs st) = (0 : Int32) ∨ own_dg (own_at xs st) = (0 : Int32) ∧ own_at xs st = (46 : Int32) ∧ ¬ own_dg (own_ca xs (st + (1 : Int32))) = (0 : Int32)) (hk : ∀ t : Int32, ¬ t < 0 → t < (21 : Int32) → ¬ own_at xs t < 0 ∧ ¬ (255 : Int32) < own_at xs t) (d1 : own_dig xs st t1) (c1 : own_ca xs t1 = (46 : Int32)) (d2 : own_dig xs (t1 + (1 : Int32)) en) (c2 : ¬ own_ca xs en = (101 : Int32)) (c3 : ¬ own_ca xs en = (69 : Int32)) (c4 : en < (21 : Int32) → own_at xs en < (128 : Int32) ∧ ∃ b, cT.slots[(own_at xs en).toNatClampNeg]? = some (.int b) ∧ ¬ b = (2 : Int32)) :
    own_Met l Z (⟨"com/example/libxqtype/libxqtype/ExpressionLexer", "scan", "(I)V"⟩ : MethodName) prog_59_method_15_code 4 none ws ({ frames := 3, cells := 0, slots := 0, locals := 64 } : Room) #[(.ref a1), (.int (0 : Int32))] h0 (fun v h L => v = none ∧ Fr n0 L ∧ Keep h0 h [a1] ∧ Fld Z h a1 "com/example/libxqtype/libxqtype/ExpressionLexer" "chars" "[C" (.ref a2) ∧ Fld Z h a1 "com/example/libxqtype/libxqtype/ExpressionLexer" "start" "I" (.int st) ∧ Fld Z h a1 "com/example/libxqtype/libxqtype/ExpressionLexer" "end" "I" (.int en)) := by
  refine own_enter (plainFor_of_name own_pn4) ?_
  intro p e s m below meth c s₁ X0 hx hZ hby hml hown hnm hret hlk e0
  have N0 := Fr.nil n0
  rw [own_scan_ef m a1]
  have KK0 : Keep h0 h0 [a1] := Keep.refl _ _
  show own_Fin _ _ _ _ _ _ (s₁.setTop (mkF m 0 #[rv a1, own_i 0, .unset, .unset] []))
  rcases hs with rfl | ⟨rfl, hw0⟩
  ·
    have htw := own_tsw (c := (own_at xs (0 : Int32))) (hf.elim Or.inl fun q => Or.inr q.2.1)
    rcases hf with hf | ⟨hf, h46, hf2⟩
    ·
      show own_Fin _ _ _ _ _ _ (s₁.setTop (mkF m 0 #[rv a1, own_i 0, .unset, .unset] []))
      refine own_to (fun t k => XS.aloadN X0.here hx rfl (hb hby own_d13_0) rfl rfl k) ?_
      refine own_to (fun t k => XS.aconstNull X0.here hx rfl (hb hby own_d13_1) k) ?_
      show own_Fin _ _ _ _ _ _ (s₁.setTop (mkF m 2 #[rv a1, own_i 0, .unset, .unset] [.null, (.ref a1)]))
      obtain ⟨T252, h252, X252, e252, W252, st252⟩ := putF X0 hx hZ hown (host := "") (Or.inl (own_W hw 90 rfl)) Via.refl e0 Fg E1 (Or.inl (own_W hw 91 rfl)) (own_W hw 27 rfl) (ty := (.object "java/lang/String")) (by decide) rfl rfl (g := (mkF m 2 #[rv a1, own_i 0, .unset, .unset] [.null, (.ref a1)])) rfl rfl (hb hby own_d13_2)
      have Fw252 := Fg.same W252
      have N252 := Fr.snoc X252 N0 g_a1
      have O252 := O0.wr W252 g_a1
      have KK252 : Keep h0 h252 [a1] := KK0.wr W252 (Or.inl (List.mem_of_getElem? (i := 0) rfl))
      have E1_e252 := E1.wr W252
      have Fc_e252 := Fc.other W252 (Or.inr (slot_ne (Or.inr (own_W hw 85 rfl)) (Or.inl (own_W hw 91 rfl)) (by decide) (t := (.array .char)) (t' := (.object "java/lang/String")) (by decide) (by decide)))
      have V2_e252 := V2.other W252 (Ne.symm ne12)
      have Fk_e252 := Fk.other W252 (Or.inr (slot_ne (Or.inl (own_W hw 115 rfl)) (Or.inl (own_W hw 91 rfl)) (by decide) (t := (.object "com/example/libxqtype/libxqtype/ExpressionLexer$Kind")) (t' := (.object "java/lang/String")) (by decide) (by decide)))
      have Fs_e252 := Fs.other W252 (Or.inr (slot_ne (Or.inl (own_W hw 99 rfl)) (Or.inl (own_W hw 91 rfl)) (by decide) (t := .int) (t' := (.object "java/lang/String")) (by decide) (by decide)))
      have Fe_e252 := Fe.other W252 (Or.inr (slot_ne (Or.inl (own_W hw 123 rfl)) (Or.inl (own_W hw 91 rfl)) (by decide) (t := .int) (t' := (.object "java/lang/String")) (by decide) (by decide)))
      have Fy_e252 := Fy.other W252 (Or.inr (slot_ne (Or.inl (own_W hw 93 rfl)) (Or.inl (own_W hw 91 rfl)) (by decide) (t := (.object "com/example/libxqtype/libxqtype/ExpressionLexer$Keyword")) (t' := (.object "java/lang/String")) (by decide) (by decide)))
      refine own_to (fun t k => st252 t k) ?_
      show own_Fin _ _ _ _ _ _ (T252.setTop (mkF m 5 #[rv a1, own_i 0, .unset, .unset] []))
      refine own_to (fun t k => XS.aloadN X252.here hx rfl (hb hby own_d13_5) rfl rfl k) ?_
      refine own_to (fun t k => XS.aconstNull X252.here hx rfl (hb hby own_d13_6) k) ?_
      show own_Fin _ _ _ _ _ _ (T252.setTop (mkF m 7 #[rv a1, own_i 0, .unset, .unset] [.null, (.ref a1)]))
      obtain ⟨T253, h253, X253, e253, W253, st253⟩ := putF X252 hx hZ hown (host := "") (Or.inl (own_W hw 92 rfl)) Via.refl e252 Fy_e252 E1_e252 (Or.inl (own_W hw 93 rfl)) (own_W hw 27 rfl) (ty := (.object "com/example/libxqtype/libxqtype/ExpressionLexer$Keyword")) (by decide) rfl rfl (g := (mkF m 7 #[rv a1, own_i 0, .unset, .unset] [.null, (.ref a1)])) rfl rfl (hb hby own_d13_7)
      have Fw253 := Fy_e252.same W253
      have N253 := Fr.snoc X253 N252 g_a1
      have O253 := O252.wr W253 g_a1
      have KK253 : Keep h0 h253 [a1] := KK252.wr W253 (Or.inl (List.mem_of_getElem? (i := 0) rfl))
      have E1_e253 := E1_e252.wr W253
      have Fc_e253 := Fc_e252.other W253 (Or.inr (slot_ne (Or.inr (own_W hw 85 rfl)) (Or.inl (own_W hw 93 rfl)) (by decide) (t := (.array .char)) (t' := (.object "com/example/libxqtype/libxqtype/ExpressionLexer$Keyword")) (by decide) (by decide)))
      have V2_e253 := V2_e252.other W253 (Ne.symm ne12)
      have Fk_e253 := Fk_e252.other W253 (Or.inr (slot_ne (Or.inl (own_W hw 115 rfl)) (Or.inl (own_W hw 93 rfl)) (by decide) (t := (.object "com/example/libxqtype/libxqtype/ExpressionLexer$Kind")) (t' := (.object "com/example/libxqtype/libxqtype/ExpressionLexer$Keyword")) (by decide) (by decide)))
      have Fs_e253 := Fs_e252.other W253 (Or.inr (slot_ne (Or.inl (own_W hw 99 rfl)) (Or.inl (own_W hw 93 rfl)) (by decide) (t := .int) (t' := (.object "com/example/libxqtype/libxqtype/ExpressionLexer$Keyword")) (by decide) (by decide)))
      have Fe_e253 := Fe_e252.other W253 (Or.inr (slot_ne (Or.inl (own_W hw 123 rfl)) (Or.inl (own_W hw 93 rfl)) (by decide) (t := .int) (t' := (.object "com/example/libxqtype/libxqtype/ExpressionLexer$Keyword")) (by decide) (by decide)))
      have Fw252_e253 := Fw252.other W253 (Or.inr (slot_ne (Or.inl (own_W hw 91 rfl)) (Or.inl (own_W hw 93 rfl)) (by decide) (t := (.object "java/lang/String")) (t' := (.object "com/example/libxqtype/libxqtype/ExpressionLexer$Keyword")) (by decide) (by decide)))
      refine own_to (fun t k => st253 t k) ?_
      show own_Fin _ _ _ _ _ _ (T253.setTop (mkF m 10 #[rv a1, own_i 0, .unset, .unset] []))
      refine own_to (fun t k => XS.iloadN X253.here hx rfl (hb hby own_d13_10) rfl k) ?_
      refine own_to (fun t k => XS.istoreN X253.here hx rfl (hb hby own_d13_11) rfl (l' := #[rv a1, own_i 0, own_i 0, .unset]) rfl k) ?_
      show own_Fin _ _ _ _ _ _ (T253.setTop (mkF m 12 #[rv a1, own_i 0, own_i 0, .unset] []))
      refine own_to (fun t k => XS.iloadN X253.here hx rfl (hb hby own_d13_12) rfl k) ?_
      refine own_to (fun t k => XS.aloadN X253.here hx rfl (hb hby own_d13_13) rfl rfl k) ?_
      obtain ⟨T254, X254, e254, st254⟩ := getF X253 hx hZ hown (host := "") (Or.inl (own_W hw 84 rfl)) Via.refl e253 Fc_e253 (g := (mkF m 14 #[rv a1, own_i 0, own_i 0, .unset] [(.ref a1), (.int (0 : Int32))])) rfl rfl (hb hby own_d13_14)
      refine own_to (fun t k => st254 t k) ?_
      show own_Fin _ _ _ _ _ _ (T254.setTop (mkF m 17 #[rv a1, own_i 0, own_i 0, .unset] [(.ref a2), (.int (0 : Int32))]))
      obtain ⟨cl255, Ar255, qa255, Sa255, Na255, Ha255, Ga255⟩ := id V2_e253
      refine own_to (fun t k => X254.arraylength hx (by rw [e254]; exact Ar255.1) (State.isArrayOf_alike hZ.alike Ar255.2.1) (g := (mkF m 17 #[rv a1, own_i 0, own_i 0, .unset] [(.ref a2), (.int (0 : Int32))])) rfl rfl (hb hby own_d13_17) _ k) ?_
      rw [len_of Sa255 Na255]
      show own_Fin _ _ _ _ _ _ (T254.setTop (mkF m 18 #[rv a1, own_i 0, own_i 0, .unset] [(.int (21 : Int32)), (.int (0 : Int32))]))
      refine own_to (fun t k => XS.icmpNo X254.here hx rfl (hb hby own_d13_18) rfl (tlt (by decide)).2.1 k) ?_
      show own_Fin _ _ _ _ _ _ (T254.setTop (mkF m 21 #[rv a1, own_i 0, own_i 0, .unset] []))
      refine own_to (fun t k => XS.aloadN X254.here hx rfl (hb hby own_d13_21) rfl rfl k) ?_
      show own_Fin _ _ _ _ _ _ (T254.setTop (mkF m 22 #[rv a1, own_i 0, own_i 0, .unset] [(.ref a1)]))
      obtain ⟨T256, X256, e256, st256⟩ := getF X254 hx hZ hown (host := "") (Or.inl (own_W hw 84 rfl)) Via.refl e254 Fc_e253 (g := (mkF m 22 #[rv a1, own_i 0, own_i 0, .unset] [(.ref a1)])) rfl rfl (hb hby own_d13_22)
      refine own_to (fun t k => st256 t k) ?_
      show own_Fin _ _ _ _ _ _ (T256.setTop (mkF m 25 #[rv a1, own_i 0, own_i 0, .unset] [(.ref a2)]))
      refine own_to (fun t k => XS.iloadN X256.here hx rfl (hb hby own_d13_25) rfl k) ?_
      obtain ⟨cl257, Ar257, qa257, Sa257, Na257, Ha257, Ga257⟩ := id V2_e253
      have hin258 : ¬ ((0 : Int32) < 0 ∨ cl257.slots.size ≤ ((0 : Int32)).toNatClampNeg) := inb_of Sa257 ⟨(by decide), (by decide)⟩
      refine own_to (fun t k => X256.caload hx (j := (0 : Int32)) (v := (.int (own_at xs (0 : Int32)))) (by rw [e256]; exact Ar257.1) (State.isArrayOf_alike hZ.alike Ar257.2.1) Ar257.2.2 hin258 (Has.at Ha257 hin258 (own_getm xs _)) (g := (mkF m 26 #[rv a1, own_i 0, own_i 0, .unset] [(.int (0 : Int32)), (.ref a2)])) rfl rfl (hb hby own_d13_26) _ k) ?_
      show own_Fin _ _ _ _ _ _ (T256.setTop (mkF m 27 #[rv a1, own_i 0, own_i 0, .unset] [(.int (own_at xs (0 : Int32)))]))
      refine own_to (fun t k => XS.istoreN X256.here hx rfl (hb hby own_d13_27) rfl (l' := #[rv a1, own_i 0, own_i 0, .val (.int (own_at xs (0 : Int32)))]) rfl k) ?_
      show own_Fin _ _ _ _ _ _ (T256.setTop (mkF m 28 #[rv a1, own_i 0, own_i 0, .val (.int (own_at xs (0 : Int32)))] []))
      refine own_to (fun t k => XS.iloadN X256.here hx rfl (hb hby own_d13_28) rfl k) ?_
      obtain ⟨_, _, ⟨T259, L259, k259, n259⟩, -, X259, ⟨Lc259, hQ259, l259, y259, z259⟩, st259⟩ := Jvm.LawKit.callS X256 hx (y := (⟨"com/example/libxqtype/libxqtype/XmlCharacters", "isWhitespace", "(C)Z"⟩ : MethodName)) hown (mvT hZ (own_W hw 94 rfl)) (mvT hZ (own_W hw 95 rfl)) (mvT hZ (own_W hw 96 rfl)) (mvT hZ (own_W hw 97 rfl)) (by decide) (own_back (W := 0) (own_wsr l Z a0 hw [] (own_at xs (0 : Int32)) h253 n0 (Nat.le_trans (Nat.le_trans Z0 (Keep.of_wr W252).1) (Keep.of_wr W253).1)) hZ (own_W hw 97 rfl) (own_W hw 96 rfl) (by decide) (by decide)) (g := (mkF m 29 #[rv a1, own_i 0, own_i 0, .val (.int (own_at xs (0 : Int32)))] [(.int (own_at xs (0 : Int32)))])) rfl (by rw [hml]; rfl) (argsL := [(.int (own_at xs (0 : Int32)))]) (rest := []) (lenOf own_pd11 rfl) rfl (by show 2 * 0 + _ ≤ _; exact Nat.le_of_eq rfl) (hb hby own_d13_29) (fun _ _ => ⟨rfl, e256, (by decide : 0 + 0 ≤ _), (by decide : 0 + 0 ≤ _)⟩)
      dsimp only [Pt.U, Pt.locs, Pt.cells, Pt.slots] at X259 l259 y259 z259 st259 hQ259
      rw [l259, y259, z259] at X259
      obtain ⟨rfl, N259q, eh259⟩ := hQ259
      have N259 := Fr.app N253 N259q
      refine own_to (fun t k => st259 t k) ?_
      show own_Fin _ _ _ _ _ _ (T259.setTop (mkF m 32 #[rv a1, own_i 0, own_i 0, .val (.int (own_at xs (0 : Int32)))] [(.int (own_ws (own_at xs (0 : Int32))))]))
      refine own_to (fun t k => XS.ifYes X259.here hx rfl (pc0 := 32) (pc' := 41) rfl (hb hby own_d13_32) rfl ((if0 _ _).trans (teq hn).1) (by decide) (by decide) k) ?_
      show own_Fin _ _ _ _ _ _ (T259.setTop (mkF m 41 #[rv a1, own_i 0, own_i 0, .val (.int (own_at xs (0 : Int32)))] []))
      refine own_to (fun t k => XS.iloadN X259.here hx rfl (hb hby own_d13_41) rfl k) ?_
      refine own_to (fun t k => XS.bipush X259.here hx rfl (hb hby own_d13_42) k) ?_
      show own_Fin _ _ _ _ _ _ (T259.setTop (mkF m 44 #[rv a1, own_i 0, own_i 0, .val (.int (own_at xs (0 : Int32)))] [(.int (40 : Int32)), (.int (own_at xs (0 : Int32)))]))
      refine own_to (fun t k => XS.icmpYes X259.here hx rfl (pc0 := 44) (pc' := 68) rfl (hb hby own_d13_44) rfl (feq h40).2 (by decide) (by decide) k) ?_
      show own_Fin _ _ _ _ _ _ (T259.setTop (mkF m 68 #[rv a1, own_i 0, own_i 0, .val (.int (own_at xs (0 : Int32)))] []))
      refine own_to (fun t k => XS.aloadN X259.here hx rfl (hb hby own_d13_68) rfl rfl k) ?_
      refine own_to (fun t k => XS.iloadN X259.here hx rfl (hb hby own_d13_69) rfl k) ?_
      obtain ⟨T260, h260, X260, e260, W260, st260⟩ := putF X259 hx hZ hown (host := "") (Or.inl (own_W hw 98 rfl)) Via.refl eh259 Fs_e253 E1_e253 (Or.inl (own_W hw 99 rfl)) (own_W hw 27 rfl) (ty := .int) (by decide) rfl rfl (g := (mkF m 70 #[rv a1, own_i 0, own_i 0, .val (.int (own_at xs (0 : Int32)))] [(.int (0 : Int32)), (.ref a1)])) rfl rfl (hb hby own_d13_70)
      have Fw260 := Fs_e253.same W260
      have N260 := Fr.snoc X260 N259 g_a1
      have O260 := O253.wr W260 g_a1
      have KK260 : Keep h0 h260 [a1] := KK253.wr W260 (Or.inl (List.mem_of_getElem? (i := 0) rfl))
      have E1_e260 := E1_e253.wr W260
      have Fc_e260 := Fc_e253.other W260 (Or.inr (slot_ne (Or.inr (own_W hw 85 rfl)) (Or.inl (own_W hw 99 rfl)) (by decide) (t := (.array .char)) (t' := .int) (by decide) (by decide)))
      have V2_e260 := V2_e253.other W260 (Ne.symm ne12)
      have Fk_e260 := Fk_e253.other W260 (Or.inr (slot_ne (Or.inl (own_W hw 115 rfl)) (Or.inl (own_W hw 99 rfl)) (by decide) (t := (.object "com/example/libxqtype/libxqtype/ExpressionLexer$Kind")) (t' := .int) (by decide) (by decide)))
      have Fe_e260 := Fe_e253.other W260 (Or.inr (slot_ne (Or.inl (own_W hw 123 rfl)) (Or.inl (own_W hw 99 rfl)) (by decide) (t := .int) (t' := .int) (by decide) (by decide)))
      have Fw252_e260 := Fw252_e253.other W260 (Or.inr (slot_ne (Or.inl (own_W hw 91 rfl)) (Or.inl (own_W hw 99 rfl)) (by decide) (t := (.object "java/lang/String")) (t' := .int) (by decide) (by decide)))
      have Fw253_e260 := Fw253.other W260 (Or.inr (slot_ne (Or.inl (own_W hw 93 rfl)) (Or.inl (own_W hw 99 rfl)) (by decide) (t := (.object "com/example/libxqtype/libxqtype/ExpressionLexer$Keyword")) (t' := .int) (by decide) (by decide)))
      refine own_to (fun t k => st260 t k) ?_
      show own_Fin _ _ _ _ _ _ (T260.setTop (mkF m 73 #[rv a1, own_i 0, own_i 0, .val (.int (own_at xs (0 : Int32)))] []))
      refine own_to (fun t k => XS.iloadN X260.here hx rfl (hb hby own_d13_73) rfl k) ?_
      show own_Fin _ _ _ _ _ _ (T260.setTop (mkF m 74 #[rv a1, own_i 0, own_i 0, .val (.int (own_at xs (0 : Int32)))] [(.int (0 : Int32))]))
      refine own_to (fun t k => XS.aloadN X260.here hx rfl (hb hby own_d13_74) rfl rfl k) ?_
      obtain ⟨T261, X261, e261, st261⟩ := getF X260 hx hZ hown (host := "") (Or.inl (own_W hw 84 rfl)) Via.refl e260 Fc_e260 (g := (mkF m 75 #[rv a1, own_i 0, own_i 0, .val (.int (own_at xs (0 : Int32)))] [(.ref a1), (.int (0 : Int32))])) rfl rfl (hb hby own_d13_75)
      refine own_to (fun t k => st261 t k) ?_
      show own_Fin _ _ _ _ _ _ (T261.setTop (mkF m 78 #[rv a1, own_i 0, own_i 0, .val (.int (own_at xs (0 : Int32)))] [(.ref a2), (.int (0 : Int32))]))
      obtain ⟨cl262, Ar262, qa262, Sa262, Na262, Ha262, Ga262⟩ := id V2_e260
      refine own_to (fun t k => X261.arraylength hx (by rw [e261]; exact Ar262.1) (State.isArrayOf_alike hZ.alike Ar262.2.1) (g := (mkF m 78 #[rv a1, own_i 0, own_i 0, .val (.int (own_at xs (0 : Int32)))] [(.ref a2), (.int (0 : Int32))])) rfl rfl (hb hby own_d13_78) _ k) ?_
      rw [len_of Sa262 Na262]
      show own_Fin _ _ _ _ _ _ (T261.setTop (mkF m 79 #[rv a1, own_i 0, own_i 0, .val (.int (own_at xs (0 : Int32)))] [(.int (21 : Int32)), (.int (0 : Int32))]))
      refine own_to (fun t k => XS.icmpYes X261.here hx rfl (pc0 := 79) (pc' := 95) rfl (hb hby own_d13_79) rfl (feq (by decide)).2 (by decide) (by decide) k) ?_
      show own_Fin _ _ _ _ _ _ (T261.setTop (mkF m 95 #[rv a1, own_i 0, own_i 0, .val (.int (own_at xs (0 : Int32)))] []))
      refine own_to (fun t k => XS.aloadN X261.here hx rfl (hb hby own_d13_95) rfl rfl k) ?_
      obtain ⟨T263, X263, e263, st263⟩ := getF X261 hx hZ hown (host := "") (Or.inl (own_W hw 84 rfl)) Via.refl e261 Fc_e260 (g := (mkF m 96 #[rv a1, own_i 0, own_i 0, .val (.int (own_at xs (0 : Int32)))] [(.ref a1)])) rfl rfl (hb hby own_d13_96)
      refine own_to (fun t k => st263 t k) ?_
      show own_Fin _ _ _ _ _ _ (T263.setTop (mkF m 99 #[rv a1, own_i 0, own_i 0, .val (.int (own_at xs (0 : Int32)))] [(.ref a2)]))
      refine own_to (fun t k => XS.iloadN X263.here hx rfl (hb hby own_d13_99) rfl k) ?_
      show own_Fin _ _ _ _ _ _ (T263.setTop (mkF m 100 #[rv a1, own_i 0, own_i 0, .val (.int (own_at xs (0 : Int32)))] [(.int (0 : Int32)), (.ref a2)]))
      obtain ⟨cl264, Ar264, qa264, Sa264, Na264, Ha264, Ga264⟩ := id V2_e260
      have hin265 : ¬ ((0 : Int32) < 0 ∨ cl264.slots.size ≤ ((0 : Int32)).toNatClampNeg) := inb_of Sa264 ⟨(by decide), (by decide)⟩
      refine own_to (fun t k => X263.caload hx (j := (0 : Int32)) (v := (.int (own_at xs (0 : Int32)))) (by rw [e263]; exact Ar264.1) (State.isArrayOf_alike hZ.alike Ar264.2.1) Ar264.2.2 hin265 (Has.at Ha264 hin265 (own_getm xs _)) (g := (mkF m 100 #[rv a1, own_i 0, own_i 0, .val (.int (own_at xs (0 : Int32)))] [(.int (0 : Int32)), (.ref a2)])) rfl rfl (hb hby own_d13_100) _ k) ?_
      show own_Fin _ _ _ _ _ _ (T263.setTop (mkF m 101 #[rv a1, own_i 0, own_i 0, .val (.int (own_at xs (0 : Int32)))] [(.int (own_at xs (0 : Int32)))]))
      refine own_to (fun t k => XS.istoreN X263.here hx rfl (hb hby own_d13_101) rfl (l' := #[rv a1, own_i 0, own_i 0, .val (.int (own_at xs (0 : Int32)))]) rfl k) ?_
      show own_Fin _ _ _ _ _ _ (T263.setTop (mkF m 102 #[rv a1, own_i 0, own_i 0, .val (.int (own_at xs (0 : Int32)))] []))
      refine own_to (fun t k => XS.iloadN X263.here hx rfl (hb hby own_d13_102) rfl k) ?_
      refine own_to (fun t k => XS.tswIn X263.here hx rfl (pc0 := 103) (pc' := 390) rfl (hb hby own_d13_103) rfl htw.1 htw.2 (by decide) (by decide) k) ?_
      show own_Fin _ _ _ _ _ _ (T263.setTop (mkF m 390 #[rv a1, own_i 0, own_i 0, .val (.int (own_at xs (0 : Int32)))] []))
      refine own_to (fun t k => XS.iloadN X263.here hx rfl (hb hby own_d13_390) rfl k) ?_
      have zs266 := (Nat.le_trans (Nat.le_trans (Nat.le_trans Z0 (Keep.of_wr W252).1) (Keep.of_wr W253).1) (Keep.of_wr W260).1)
      obtain ⟨_, _, ⟨T267, L267, k267, n267⟩, -, X267, ⟨Lc267, hQ267, l267, y267, z267⟩, st267⟩ := Jvm.LawKit.callS X263 hx (y := (⟨"com/example/libxqtype/libxqtype/XmlCharacters", "isDigit", "(C)Z"⟩ : MethodName)) hown (mvT hZ (own_W hw 100 rfl)) (mvT hZ (own_W hw 101 rfl)) (mvT hZ (own_W hw 96 rfl)) (mvT hZ (own_W hw 102 rfl)) (by decide) (own_back (W := 0) (own_dgr l Z a0 hw [] (own_at xs (0 : Int32)) h260 n0 zs266) hZ (own_W hw 102 rfl) (own_W hw 96 rfl) (by decide) (by decide)) (g := (mkF m 391 #[rv a1, own_i 0, own_i 0, .val (.int (own_at xs (0 : Int32)))] [(.int (own_at xs (0 : Int32)))])) rfl (by rw [hml]; rfl) (argsL := [(.int (own_at xs (0 : Int32)))]) (rest := []) (lenOf own_pd11 rfl) rfl (by show 2 * 0 + _ ≤ _; exact Nat.le_of_eq rfl) (hb hby own_d13_391) (fun _ _ => ⟨rfl, e263, (by decide : 0 + 0 ≤ _), (by decide : 0 + 0 ≤ _)⟩)
      dsimp only [Pt.U, Pt.locs, Pt.cells, Pt.slots] at X267 l267 y267 z267 st267 hQ267
      rw [l267, y267, z267] at X267
      obtain ⟨rfl, N267q, eh267⟩ := hQ267
      have N267 := Fr.app N260 N267q
      refine own_to (fun t k => st267 t k) ?_
      show own_Fin _ _ _ _ _ _ (T267.setTop (mkF m 394 #[rv a1, own_i 0, own_i 0, .val (.int (own_at xs (0 : Int32)))] [(.int (own_dg (own_at xs (0 : Int32))))]))
      refine own_to (fun t k => XS.ifYes X267.here hx rfl (pc0 := 394) (pc' := 416) rfl (hb hby own_d13_394) rfl ((if0 _ _).trans (feq hf).2) (by decide) (by decide) k) ?_
      show own_Fin _ _ _ _ _ _ (T267.setTop (mkF m 416 #[rv a1, own_i 0, own_i 0, .val (.int (own_at xs (0 : Int32)))] []))
      refine own_to (fun t k => XS.aloadN X267.here hx rfl (hb hby own_d13_416) rfl rfl k) ?_
      show own_Fin _ _ _ _ _ _ (T267.setTop (mkF m 417 #[rv a1, own_i 0, own_i 0, .val (.int (own_at xs (0 : Int32)))] [(.ref a1)]))
      obtain ⟨cq268, cqa268, cqb268⟩ := E1_e260.cell
      obtain ⟨_, _, ⟨T268, L268, k268, n268⟩, -, X268, ⟨Lc268, hQ268, l268, y268, z268⟩, st268⟩ := X267.privateBack hx (y := (⟨"com/example/libxqtype/libxqtype/ExpressionLexer", "numericLiteral", "()V"⟩ : MethodName)) hown (mvT hZ (own_W hw 103 rfl)) (mvT hZ (own_W hw 104 rfl)) (own_selP (y' := (⟨"com/example/libxqtype/libxqtype/ExpressionLexer", "unscaledValue", "()J"⟩ : MethodName)) (mvT hZ (own_W hw 136 rfl)) rfl (Cond.privateMethod_at (mvP hZ (own_W hw 105 rfl) (args := #[]))) (mvT hZ (own_W hw 104 rfl)) (by decide)) (Cond.privateMethod_at (mvP hZ (own_W hw 105 rfl) (args := #[]))) (mvT hZ (own_W hw 106 rfl)) (by decide) (own_back (W := 0) (own_num l Z a0 hw [] wI wD wT cT a1 a2 k2 xs (0 : Int32) t1 en h260 n0 zs266 SI SD O260 ST AT hT E1_e260 Fc_e260 V2_e260 Fk_e260 Fw260 Fe_e260 g_a1 ne12 hk d1 c1 d2 c2 c3 c4) hZ (own_W hw 106 rfl) (own_W hw 28 rfl) (by decide) (by decide)) (g := (mkF m 417 #[rv a1, own_i 0, own_i 0, .val (.int (own_at xs (0 : Int32)))] [(.ref a1)])) rfl (by rw [hml]; rfl) (Steps.refl _) (a := a1) (by rw [eh267]; exact cqa268) cqb268 (argsL := []) (rest := []) (lenOf own_pd1 rfl) rfl (by show 2 * 0 + _ ≤ _; exact Nat.le_of_eq rfl) (hb hby own_d13_417) (fun _ _ => ⟨rfl, eh267, (by decide : 0 + 0 ≤ _), (by decide : 0 + 0 ≤ _)⟩)
      dsimp only [Pt.U, Pt.locs, Pt.cells, Pt.slots] at X268 l268 y268 z268 st268 hQ268
      rw [l268, y268, z268] at X268
      obtain ⟨rfl, N268q, K268, Fc1, Fs1, Fe1⟩ := hQ268
      have N268 := Fr.app N267 N268q
      have O268 := O260.keep K268 (allS g_a1 all0)
      have KK268 : Keep h0 T268.heap [a1] := KK260.trans K268 (allS (Or.inl (List.mem_of_getElem? (i := 0) rfl)) all0)
      have E1_e268 := E1_e260.keep K268
      have V2_e268 := V2_e260.keep K268 (ninS (Ne.symm ne12) nin0)
      refine own_to (fun t k => st268.trans k) ?_
      show own_Fin _ _ _ _ _ _ (T268.setTop (mkF m 420 #[rv a1, own_i 0, own_i 0, .val (.int (own_at xs (0 : Int32)))] []))
      refine own_to (fun t k => XS.goto X268.here hx rfl (pc0 := 420) (pc' := 443) rfl (hb hby own_d13_420) (by decide) (by decide) k) ?_
      show own_Fin _ _ _ _ _ _ (T268.setTop (mkF m 443 #[rv a1, own_i 0, own_i 0, .val (.int (own_at xs (0 : Int32)))] []))
      refine own_retV X268 hx hlk hret (hb hby own_d13_443) (by decide) (by decide) ?_
      exact ⟨rfl, N268, KK268, Fc1, Fs1, Fe1⟩
    ·
      show own_Fin _ _ _ _ _ _ (s₁.setTop (mkF m 0 #[rv a1, own_i 0, .unset, .unset] []))
      refine own_to (fun t k => XS.aloadN X0.here hx rfl (hb hby own_d13_0) rfl rfl k) ?_
      refine own_to (fun t k => XS.aconstNull X0.here hx rfl (hb hby own_d13_1) k) ?_
      show own_Fin _ _ _ _ _ _ (s₁.setTop (mkF m 2 #[rv a1, own_i 0, .unset, .unset] [.null, (.ref a1)]))
      obtain ⟨T269, h269, X269, e269, W269, st269⟩ := putF X0 hx hZ hown (host := "") (Or.inl (own_W hw 90 rfl)) Via.refl e0 Fg E1 (Or.inl (own_W hw 91 rfl)) (own_W hw 27 rfl) (ty := (.object "java/lang/String")) (by decide) rfl rfl (g := (mkF m 2 #[rv a1, own_i 0, .unset, .unset] [.null, (.ref a1)])) rfl rfl (hb hby own_d13_2)
      have Fw269 := Fg.same W269
      have N269 := Fr.snoc X269 N0 g_a1
      have O269 := O0.wr W269 g_a1
      have KK269 : Keep h0 h269 [a1] := KK0.wr W269 (Or.inl (List.mem_of_getElem? (i := 0) rfl))
      have E1_e269 := E1.wr W269
      have Fc_e269 := Fc.other W269 (Or.inr (slot_ne (Or.inr (own_W hw 85 rfl)) (Or.inl (own_W hw 91 rfl)) (by decide) (t := (.array .char)) (t' := (.object "java/lang/String")) (by decide) (by decide)))
      have V2_e269 := V2.other W269 (Ne.symm ne12)
      have Fk_e269 := Fk.other W269 (Or.inr (slot_ne (Or.inl (own_W hw 115 rfl)) (Or.inl (own_W hw 91 rfl)) (by decide) (t := (.object "com/example/libxqtype/libxqtype/ExpressionLexer$Kind")) (t' := (.object "java/lang/String")) (by decide) (by decide)))
      have Fs_e269 := Fs.other W269 (Or.inr (slot_ne (Or.inl (own_W hw 99 rfl)) (Or.inl (own_W hw 91 rfl)) (by decide) (t := .int) (t' := (.object "java/lang/String")) (by decide) (by decide)))
      have Fe_e269 := Fe.other W269 (Or.inr (slot_ne (Or.inl (own_W hw 123 rfl)) (Or.inl (own_W hw 91 rfl)) (by decide) (t := .int) (t' := (.object "java/lang/String")) (by decide) (by decide)))
      have Fy_e269 := Fy.other W269 (Or.inr (slot_ne (Or.inl (own_W hw 93 rfl)) (Or.inl (own_W hw 91 rfl)) (by decide) (t := (.object "com/example/libxqtype/libxqtype/ExpressionLexer$Keyword")) (t' := (.object "java/lang/String")) (by decide) (by decide)))
      refine own_to (fun t k => st269 t k) ?_
      show own_Fin _ _ _ _ _ _ (T269.setTop (mkF m 5 #[rv a1, own_i 0, .unset, .unset] []))
      refine own_to (fun t k => XS.aloadN X269.here hx rfl (hb hby own_d13_5) rfl rfl k) ?_
      refine own_to (fun t k => XS.aconstNull X269.here hx rfl (hb hby own_d13_6) k) ?_
      show own_Fin _ _ _ _ _ _ (T269.setTop (mkF m 7 #[rv a1, own_i 0, .unset, .unset] [.null, (.ref a1)]))
      obtain ⟨T270, h270, X270, e270, W270, st270⟩ := putF X269 hx hZ hown (host := "") (Or.inl (own_W hw 92 rfl)) Via.refl e269 Fy_e269 E1_e269 (Or.inl (own_W hw 93 rfl)) (own_W hw 27 rfl) (ty := (.object "com/example/libxqtype/libxqtype/ExpressionLexer$Keyword")) (by decide) rfl rfl (g := (mkF m 7 #[rv a1, own_i 0, .unset, .unset] [.null, (.ref a1)])) rfl rfl (hb hby own_d13_7)
      have Fw270 := Fy_e269.same W270
      have N270 := Fr.snoc X270 N269 g_a1
      have O270 := O269.wr W270 g_a1
      have KK270 : Keep h0 h270 [a1] := KK269.wr W270 (Or.inl (List.mem_of_getElem? (i := 0) rfl))
      have E1_e270 := E1_e269.wr W270
      have Fc_e270 := Fc_e269.other W270 (Or.inr (slot_ne (Or.inr (own_W hw 85 rfl)) (Or.inl (own_W hw 93 rfl)) (by decide) (t := (.array .char)) (t' := (.object "com/example/libxqtype/libxqtype/ExpressionLexer$Keyword")) (by decide) (by decide)))
      have V2_e270 := V2_e269.other W270 (Ne.symm ne12)
      have Fk_e270 := Fk_e269.other W270 (Or.inr (slot_ne (Or.inl (own_W hw 115 rfl)) (Or.inl (own_W hw 93 rfl)) (by decide) (t := (.object "com/example/libxqtype/libxqtype/ExpressionLexer$Kind")) (t' := (.object "com/example/libxqtype/libxqtype/ExpressionLexer$Keyword")) (by decide) (by decide)))
      have Fs_e270 := Fs_e269.other W270 (Or.inr (slot_ne (Or.inl (own_W hw 99 rfl)) (Or.inl (own_W hw 93 rfl)) (by decide) (t := .int) (t' := (.object "com/example/libxqtype/libxqtype/ExpressionLexer$Keyword")) (by decide) (by decide)))
      have Fe_e270 := Fe_e269.other W270 (Or.inr (slot_ne (Or.inl (own_W hw 123 rfl)) (Or.inl (own_W hw 93 rfl)) (by decide) (t := .int) (t' := (.object "com/example/libxqtype/libxqtype/ExpressionLexer$Keyword")) (by decide) (by decide)))
      have Fw269_e270 := Fw269.other W270 (Or.inr (slot_ne (Or.inl (own_W hw 91 rfl)) (Or.inl (own_W hw 93 rfl)) (by decide) (t := (.object "java/lang/String")) (t' := (.object "com/example/libxqtype/libxqtype/ExpressionLexer$Keyword")) (by decide) (by decide)))
      refine own_to (fun t k => st270 t k) ?_
      show own_Fin _ _ _ _ _ _ (T270.setTop (mkF m 10 #[rv a1, own_i 0, .unset, .unset] []))
      refine own_to (fun t k => XS.iloadN X270.here hx rfl (hb hby own_d13_10) rfl k) ?_
      refine own_to (fun t k => XS.istoreN X270.here hx rfl (hb hby own_d13_11) rfl (l' := #[rv a1, own_i 0, own_i 0, .unset]) rfl k) ?_
      show own_Fin _ _ _ _ _ _ (T270.setTop (mkF m 12 #[rv a1, own_i 0, own_i 0, .unset] []))
      refine own_to (fun t k => XS.iloadN X270.here hx rfl (hb hby own_d13_12) rfl k) ?_
      refine own_to (fun t k => XS.aloadN X270.here hx rfl (hb hby own_d13_13) rfl rfl k) ?_
      obtain ⟨T271, X271, e271, st271⟩ := getF X270 hx hZ hown (host := "") (Or.inl (own_W hw 84 rfl)) Via.refl e270 Fc_e270 (g := (mkF m 14 #[rv a1, own_i 0, own_i 0, .unset] [(.ref a1), (.int (0 : Int32))])) rfl rfl (hb hby own_d13_14)
      refine own_to (fun t k => st271 t k) ?_
      show own_Fin _ _ _ _ _ _ (T271.setTop (mkF m 17 #[rv a1, own_i 0, own_i 0, .unset] [(.ref a2), (.int (0 : Int32))]))
      obtain ⟨cl272, Ar272, qa272, Sa272, Na272, Ha272, Ga272⟩ := id V2_e270
      refine own_to (fun t k => X271.arraylength hx (by rw [e271]; exact Ar272.1) (State.isArrayOf_alike hZ.alike Ar272.2.1) (g := (mkF m 17 #[rv a1, own_i 0, own_i 0, .unset] [(.ref a2), (.int (0 : Int32))])) rfl rfl (hb hby own_d13_17) _ k) ?_
      rw [len_of Sa272 Na272]
      show own_Fin _ _ _ _ _ _ (T271.setTop (mkF m 18 #[rv a1, own_i 0, own_i 0, .unset] [(.int (21 : Int32)), (.int (0 : Int32))]))
      refine own_to (fun t k => XS.icmpNo X271.here hx rfl (hb hby own_d13_18) rfl (tlt (by decide)).2.1 k) ?_
      show own_Fin _ _ _ _ _ _ (T271.setTop (mkF m 21 #[rv a1, own_i 0, own_i 0, .unset] []))
      refine own_to (fun t k => XS.aloadN X271.here hx rfl (hb hby own_d13_21) rfl rfl k) ?_
      show own_Fin _ _ _ _ _ _ (T271.setTop (mkF m 22 #[rv a1, own_i 0, own_i 0, .unset] [(.ref a1)]))
      obtain ⟨T273, X273, e273, st273⟩ := getF X271 hx hZ hown (host := "") (Or.inl (own_W hw 84 rfl)) Via.refl e271 Fc_e270 (g := (mkF m 22 #[rv a1, own_i 0, own_i 0, .unset] [(.ref a1)])) rfl rfl (hb hby own_d13_22)
      refine own_to (fun t k => st273 t k) ?_
      show own_Fin _ _ _ _ _ _ (T273.setTop (mkF m 25 #[rv a1, own_i 0, own_i 0, .unset] [(.ref a2)]))
      refine own_to (fun t k => XS.iloadN X273.here hx rfl (hb hby own_d13_25) rfl k) ?_
      obtain ⟨cl274, Ar274, qa274, Sa274, Na274, Ha274, Ga274⟩ := id V2_e270
      have hin275 : ¬ ((0 : Int32) < 0 ∨ cl274.slots.size ≤ ((0 : Int32)).toNatClampNeg) := inb_of Sa274 ⟨(by decide), (by decide)⟩
      refine own_to (fun t k => X273.caload hx (j := (0 : Int32)) (v := (.int (own_at xs (0 : Int32)))) (by rw [e273]; exact Ar274.1) (State.isArrayOf_alike hZ.alike Ar274.2.1) Ar274.2.2 hin275 (Has.at Ha274 hin275 (own_getm xs _)) (g := (mkF m 26 #[rv a1, own_i 0, own_i 0, .unset] [(.int (0 : Int32)), (.ref a2)])) rfl rfl (hb hby own_d13_26) _ k) ?_
      show own_Fin _ _ _ _ _ _ (T273.setTop (mkF m 27 #[rv a1, own_i 0, own_i 0, .unset] [(.int (own_at xs (0 : Int32)))]))
      refine own_to (fun t k => XS.istoreN X273.here hx rfl (hb hby own_d13_27) rfl (l' := #[rv a1, own_i 0, own_i 0, .val (.int (own_at xs (0 : Int32)))]) rfl k) ?_
      show own_Fin _ _ _ _ _ _ (T273.setTop (mkF m 28 #[rv a1, own_i 0, own_i 0, .val (.int (own_at xs (0 : Int32)))] []))
      refine own_to (fun t k => XS.iloadN X273.here hx rfl (hb hby own_d13_28) rfl k) ?_
      obtain ⟨_, _, ⟨T276, L276, k276, n276⟩, -, X276, ⟨Lc276, hQ276, l276, y276, z276⟩, st276⟩ := Jvm.LawKit.callS X273 hx (y := (⟨"com/example/libxqtype/libxqtype/XmlCharacters", "isWhitespace", "(C)Z"⟩ : MethodName)) hown (mvT hZ (own_W hw 94 rfl)) (mvT hZ (own_W hw 95 rfl)) (mvT hZ (own_W hw 96 rfl)) (mvT hZ (own_W hw 97 rfl)) (by decide) (own_back (W := 0) (own_wsr l Z a0 hw [] (own_at xs (0 : Int32)) h270 n0 (Nat.le_trans (Nat.le_trans Z0 (Keep.of_wr W269).1) (Keep.of_wr W270).1)) hZ (own_W hw 97 rfl) (own_W hw 96 rfl) (by decide) (by decide)) (g := (mkF m 29 #[rv a1, own_i 0, own_i 0, .val (.int (own_at xs (0 : Int32)))] [(.int (own_at xs (0 : Int32)))])) rfl (by rw [hml]; rfl) (argsL := [(.int (own_at xs (0 : Int32)))]) (rest := []) (lenOf own_pd11 rfl) rfl (by show 2 * 0 + _ ≤ _; exact Nat.le_of_eq rfl) (hb hby own_d13_29) (fun _ _ => ⟨rfl, e273, (by decide : 0 + 0 ≤ _), (by decide : 0 + 0 ≤ _)⟩)
      dsimp only [Pt.U, Pt.locs, Pt.cells, Pt.slots] at X276 l276 y276 z276 st276 hQ276
      rw [l276, y276, z276] at X276
      obtain ⟨rfl, N276q, eh276⟩ := hQ276
      have N276 := Fr.app N270 N276q
      refine own_to (fun t k => st276 t k) ?_
      show own_Fin _ _ _ _ _ _ (T276.setTop (mkF m 32 #[rv a1, own_i 0, own_i 0, .val (.int (own_at xs (0 : Int32)))] [(.int (own_ws (own_at xs (0 : Int32))))]))
      refine own_to (fun t k => XS.ifYes X276.here hx rfl (pc0 := 32) (pc' := 41) rfl (hb hby own_d13_32) rfl ((if0 _ _).trans (teq hn).1) (by decide) (by decide) k) ?_
      show own_Fin _ _ _ _ _ _ (T276.setTop (mkF m 41 #[rv a1, own_i 0, own_i 0, .val (.int (own_at xs (0 : Int32)))] []))
      refine own_to (fun t k => XS.iloadN X276.here hx rfl (hb hby own_d13_41) rfl k) ?_
      refine own_to (fun t k => XS.bipush X276.here hx rfl (hb hby own_d13_42) k) ?_
      show own_Fin _ _ _ _ _ _ (T276.setTop (mkF m 44 #[rv a1, own_i 0, own_i 0, .val (.int (own_at xs (0 : Int32)))] [(.int (40 : Int32)), (.int (own_at xs (0 : Int32)))]))
      refine own_to (fun t k => XS.icmpYes X276.here hx rfl (pc0 := 44) (pc' := 68) rfl (hb hby own_d13_44) rfl (feq h40).2 (by decide) (by decide) k) ?_
      show own_Fin _ _ _ _ _ _ (T276.setTop (mkF m 68 #[rv a1, own_i 0, own_i 0, .val (.int (own_at xs (0 : Int32)))] []))
      refine own_to (fun t k => XS.aloadN X276.here hx rfl (hb hby own_d13_68) rfl rfl k) ?_
      refine own_to (fun t k => XS.iloadN X276.here hx rfl (hb hby own_d13_69) rfl k) ?_
      obtain ⟨T277, h277, X277, e277, W277, st277⟩ := putF X276 hx hZ hown (host := "") (Or.inl (own_W hw 98 rfl)) Via.refl eh276 Fs_e270 E1_e270 (Or.inl (own_W hw 99 rfl)) (own_W hw 27 rfl) (ty := .int) (by decide) rfl rfl (g := (mkF m 70 #[rv a1, own_i 0, own_i 0, .val (.int (own_at xs (0 : Int32)))] [(.int (0 : Int32)), (.ref a1)])) rfl rfl (hb hby own_d13_70)
      have Fw277 := Fs_e270.same W277
      have N277 := Fr.snoc X277 N276 g_a1
      have O277 := O270.wr W277 g_a1
      have KK277 : Keep h0 h277 [a1] := KK270.wr W277 (Or.inl (List.mem_of_getElem? (i := 0) rfl))
      have E1_e277 := E1_e270.wr W277
      have Fc_e277 := Fc_e270.other W277 (Or.inr (slot_ne (Or.inr (own_W hw 85 rfl)) (Or.inl (own_W hw 99 rfl)) (by decide) (t := (.array .char)) (t' := .int) (by decide) (by decide)))
      have V2_e277 := V2_e270.other W277 (Ne.symm ne12)
      have Fk_e277 := Fk_e270.other W277 (Or.inr (slot_ne (Or.inl (own_W hw 115 rfl)) (Or.inl (own_W hw 99 rfl)) (by decide) (t := (.object "com/example/libxqtype/libxqtype/ExpressionLexer$Kind")) (t' := .int) (by decide) (by decide)))
      have Fe_e277 := Fe_e270.other W277 (Or.inr (slot_ne (Or.inl (own_W hw 123 rfl)) (Or.inl (own_W hw 99 rfl)) (by decide) (t := .int) (t' := .int) (by decide) (by decide)))
      have Fw269_e277 := Fw269_e270.other W277 (Or.inr (slot_ne (Or.inl (own_W hw 91 rfl)) (Or.inl (own_W hw 99 rfl)) (by decide) (t := (.object "java/lang/String")) (t' := .int) (by decide) (by decide)))
      have Fw270_e277 := Fw270.other W277 (Or.inr (slot_ne (Or.inl (own_W hw 93 rfl)) (Or.inl (own_W hw 99 rfl)) (by decide) (t := (.object "com/example/libxqtype/libxqtype/ExpressionLexer$Keyword")) (t' := .int) (by decide) (by decide)))
      refine own_to (fun t k => st277 t k) ?_
      show own_Fin _ _ _ _ _ _ (T277.setTop (mkF m 73 #[rv a1, own_i 0, own_i 0, .val (.int (own_at xs (0 : Int32)))] []))
      refine own_to (fun t k => XS.iloadN X277.here hx rfl (hb hby own_d13_73) rfl k) ?_
      show own_Fin _ _ _ _ _ _ (T277.setTop (mkF m 74 #[rv a1, own_i 0, own_i 0, .val (.int (own_at xs (0 : Int32)))] [(.int (0 : Int32))]))
      refine own_to (fun t k => XS.aloadN X277.here hx rfl (hb hby own_d13_74) rfl rfl k) ?_
      obtain ⟨T278, X278, e278, st278⟩ := getF X277 hx hZ hown (host := "") (Or.inl (own_W hw 84 rfl)) Via.refl e277 Fc_e277 (g := (mkF m 75 #[rv a1, own_i 0, own_i 0, .val (.int (own_at xs (0 : Int32)))] [(.ref a1), (.int (0 : Int32))])) rfl rfl (hb hby own_d13_75)
      refine own_to (fun t k => st278 t k) ?_
      show own_Fin _ _ _ _ _ _ (T278.setTop (mkF m 78 #[rv a1, own_i 0, own_i 0, .val (.int (own_at xs (0 : Int32)))] [(.ref a2), (.int (0 : Int32))]))
      obtain ⟨cl279, Ar279, qa279, Sa279, Na279, Ha279, Ga279⟩ := id V2_e277
      refine own_to (fun t k => X278.arraylength hx (by rw [e278]; exact Ar279.1) (State.isArrayOf_alike hZ.alike Ar279.2.1) (g := (mkF m 78 #[rv a1, own_i 0, own_i 0, .val (.int (own_at xs (0 : Int32)))] [(.ref a2), (.int (0 : Int32))])) rfl rfl (hb hby own_d13_78) _ k) ?_
      rw [len_of Sa279 Na279]
      show own_Fin _ _ _ _ _ _ (T278.setTop (mkF m 79 #[rv a1, own_i 0, own_i 0, .val (.int (own_at xs (0 : Int32)))] [(.int (21 : Int32)), (.int (0 : Int32))]))
      refine own_to (fun t k => XS.icmpYes X278.here hx rfl (pc0 := 79) (pc' := 95) rfl (hb hby own_d13_79) rfl (feq (by decide)).2 (by decide) (by decide) k) ?_
      show own_Fin _ _ _ _ _ _ (T278.setTop (mkF m 95 #[rv a1, own_i 0, own_i 0, .val (.int (own_at xs (0 : Int32)))] []))
      refine own_to (fun t k => XS.aloadN X278.here hx rfl (hb hby own_d13_95) rfl rfl k) ?_
      obtain ⟨T280, X280, e280, st280⟩ := getF X278 hx hZ hown (host := "") (Or.inl (own_W hw 84 rfl)) Via.refl e278 Fc_e277 (g := (mkF m 96 #[rv a1, own_i 0, own_i 0, .val (.int (own_at xs (0 : Int32)))] [(.ref a1)])) rfl rfl (hb hby own_d13_96)
      refine own_to (fun t k => st280 t k) ?_
      show own_Fin _ _ _ _ _ _ (T280.setTop (mkF m 99 #[rv a1, own_i 0, own_i 0, .val (.int (own_at xs (0 : Int32)))] [(.ref a2)]))
      refine own_to (fun t k => XS.iloadN X280.here hx rfl (hb hby own_d13_99) rfl k) ?_
      show own_Fin _ _ _ _ _ _ (T280.setTop (mkF m 100 #[rv a1, own_i 0, own_i 0, .val (.int (own_at xs (0 : Int32)))] [(.int (0 : Int32)), (.ref a2)]))
      obtain ⟨cl281, Ar281, qa281, Sa281, Na281, Ha281, Ga281⟩ := id V2_e277
      have hin282 : ¬ ((0 : Int32) < 0 ∨ cl281.slots.size ≤ ((0 : Int32)).toNatClampNeg) := inb_of Sa281 ⟨(by decide), (by decide)⟩
      refine own_to (fun t k => X280.caload hx (j := (0 : Int32)) (v := (.int (own_at xs (0 : Int32)))) (by rw [e280]; exact Ar281.1) (State.isArrayOf_alike hZ.alike Ar281.2.1) Ar281.2.2 hin282 (Has.at Ha281 hin282 (own_getm xs _)) (g := (mkF m 100 #[rv a1, own_i 0, own_i 0, .val (.int (own_at xs (0 : Int32)))] [(.int (0 : Int32)), (.ref a2)])) rfl rfl (hb hby own_d13_100) _ k) ?_
      show own_Fin _ _ _ _ _ _ (T280.setTop (mkF m 101 #[rv a1, own_i 0, own_i 0, .val (.int (own_at xs (0 : Int32)))] [(.int (own_at xs (0 : Int32)))]))
      refine own_to (fun t k => XS.istoreN X280.here hx rfl (hb hby own_d13_101) rfl (l' := #[rv a1, own_i 0, own_i 0, .val (.int (own_at xs (0 : Int32)))]) rfl k) ?_
      show own_Fin _ _ _ _ _ _ (T280.setTop (mkF m 102 #[rv a1, own_i 0, own_i 0, .val (.int (own_at xs (0 : Int32)))] []))
      refine own_to (fun t k => XS.iloadN X280.here hx rfl (hb hby own_d13_102) rfl k) ?_
      refine own_to (fun t k => XS.tswIn X280.here hx rfl (pc0 := 103) (pc' := 390) rfl (hb hby own_d13_103) rfl htw.1 htw.2 (by decide) (by decide) k) ?_
      show own_Fin _ _ _ _ _ _ (T280.setTop (mkF m 390 #[rv a1, own_i 0, own_i 0, .val (.int (own_at xs (0 : Int32)))] []))
      refine own_to (fun t k => XS.iloadN X280.here hx rfl (hb hby own_d13_390) rfl k) ?_
      have zs283 := (Nat.le_trans (Nat.le_trans (Nat.le_trans Z0 (Keep.of_wr W269).1) (Keep.of_wr W270).1) (Keep.of_wr W277).1)
      obtain ⟨_, _, ⟨T284, L284, k284, n284⟩, -, X284, ⟨Lc284, hQ284, l284, y284, z284⟩, st284⟩ := Jvm.LawKit.callS X280 hx (y := (⟨"com/example/libxqtype/libxqtype/XmlCharacters", "isDigit", "(C)Z"⟩ : MethodName)) hown (mvT hZ (own_W hw 100 rfl)) (mvT hZ (own_W hw 101 rfl)) (mvT hZ (own_W hw 96 rfl)) (mvT hZ (own_W hw 102 rfl)) (by decide) (own_back (W := 0) (own_dgr l Z a0 hw [] (own_at xs (0 : Int32)) h277 n0 zs283) hZ (own_W hw 102 rfl) (own_W hw 96 rfl) (by decide) (by decide)) (g := (mkF m 391 #[rv a1, own_i 0, own_i 0, .val (.int (own_at xs (0 : Int32)))] [(.int (own_at xs (0 : Int32)))])) rfl (by rw [hml]; rfl) (argsL := [(.int (own_at xs (0 : Int32)))]) (rest := []) (lenOf own_pd11 rfl) rfl (by show 2 * 0 + _ ≤ _; exact Nat.le_of_eq rfl) (hb hby own_d13_391) (fun _ _ => ⟨rfl, e280, (by decide : 0 + 0 ≤ _), (by decide : 0 + 0 ≤ _)⟩)
      dsimp only [Pt.U, Pt.locs, Pt.cells, Pt.slots] at X284 l284 y284 z284 st284 hQ284
      rw [l284, y284, z284] at X284
      obtain ⟨rfl, N284q, eh284⟩ := hQ284
      have N284 := Fr.app N277 N284q
      refine own_to (fun t k => st284 t k) ?_
      show own_Fin _ _ _ _ _ _ (T284.setTop (mkF m 394 #[rv a1, own_i 0, own_i 0, .val (.int (own_at xs (0 : Int32)))] [(.int (own_dg (own_at xs (0 : Int32))))]))
      refine own_to (fun t k => XS.ifNo X284.here hx rfl (hb hby own_d13_394) rfl ((if0 _ _).trans (teq hf).2) k) ?_
      show own_Fin _ _ _ _ _ _ (T284.setTop (mkF m 397 #[rv a1, own_i 0, own_i 0, .val (.int (own_at xs (0 : Int32)))] []))
      refine own_to (fun t k => XS.iloadN X284.here hx rfl (hb hby own_d13_397) rfl k) ?_
      show own_Fin _ _ _ _ _ _ (T284.setTop (mkF m 398 #[rv a1, own_i 0, own_i 0, .val (.int (own_at xs (0 : Int32)))] [(.int (own_at xs (0 : Int32)))]))
      refine own_to (fun t k => XS.bipush X284.here hx rfl (hb hby own_d13_398) k) ?_
      refine own_to (fun t k => XS.icmpNo X284.here hx rfl (hb hby own_d13_400) rfl (teq h46).2 k) ?_
      show own_Fin _ _ _ _ _ _ (T284.setTop (mkF m 403 #[rv a1, own_i 0, own_i 0, .val (.int (own_at xs (0 : Int32)))] []))
      refine own_to (fun t k => XS.aloadN X284.here hx rfl (hb hby own_d13_403) rfl rfl k) ?_
      refine own_to (fun t k => XS.iloadN X284.here hx rfl (hb hby own_d13_404) rfl k) ?_
      show own_Fin _ _ _ _ _ _ (T284.setTop (mkF m 405 #[rv a1, own_i 0, own_i 0, .val (.int (own_at xs (0 : Int32)))] [(.int (0 : Int32)), (.ref a1)]))
      refine own_to (fun t k => XS.iconst X284.here hx rfl (hb hby own_d13_405) k) ?_
      refine own_to (fun t k => XS.iadd X284.here hx rfl (hb hby own_d13_406) rfl k) ?_
      show own_Fin _ _ _ _ _ _ (T284.setTop (mkF m 407 #[rv a1, own_i 0, own_i 0, .val (.int (own_at xs (0 : Int32)))] [(.int (1 : Int32)), (.ref a1)]))
      obtain ⟨cq285, cqa285, cqb285⟩ := E1_e277.cell
      obtain ⟨_, _, ⟨T285, L285, k285, n285⟩, -, X285, ⟨Lc285, hQ285, l285, y285, z285⟩, st285⟩ := X284.privateBack hx (y := (⟨"com/example/libxqtype/libxqtype/ExpressionLexer", "charAt", "(I)C"⟩ : MethodName)) hown (mvT hZ (own_W hw 116 rfl)) (mvT hZ (own_W hw 117 rfl)) (own_selP (y' := (⟨"com/example/libxqtype/libxqtype/ExpressionLexer", "unscaledValue", "()J"⟩ : MethodName)) (mvT hZ (own_W hw 136 rfl)) rfl (Cond.privateMethod_at (mvP hZ (own_W hw 118 rfl) (args := #[]))) (mvT hZ (own_W hw 117 rfl)) (by decide)) (Cond.privateMethod_at (mvP hZ (own_W hw 118 rfl) (args := #[]))) (mvT hZ (own_W hw 119 rfl)) (by decide) (own_back (W := 0) (own_car l Z a0 hw [] a1 a2 k2 xs (1 : Int32) h277 n0 zs283 E1_e277 Fc_e277 V2_e277 (by decide) (fun q => hk _ (by decide) q)) hZ (own_W hw 119 rfl) (own_W hw 28 rfl) (by decide) (by decide)) (g := (mkF m 407 #[rv a1, own_i 0, own_i 0, .val (.int (own_at xs (0 : Int32)))] [(.int (1 : Int32)), (.ref a1)])) rfl (by rw [hml]; rfl) (Steps.refl _) (a := a1) (by rw [eh284]; exact cqa285) cqb285 (argsL := [(.int (1 : Int32))]) (rest := []) (lenOf own_pd10 rfl) rfl (by show 2 * 0 + _ ≤ _; exact Nat.le_of_eq rfl) (hb hby own_d13_407) (fun _ _ => ⟨rfl, eh284, (by decide : 0 + 0 ≤ _), (by decide : 0 + 0 ≤ _)⟩)
      dsimp only [Pt.U, Pt.locs, Pt.cells, Pt.slots] at X285 l285 y285 z285 st285 hQ285
      rw [l285, y285, z285] at X285
      obtain ⟨rfl, N285q, eh285⟩ := hQ285
      have N285 := Fr.app N284 N285q
      refine own_to (fun t k => st285.trans k) ?_
      show own_Fin _ _ _ _ _ _ (T285.setTop (mkF m 410 #[rv a1, own_i 0, own_i 0, .val (.int (own_at xs (0 : Int32)))] [(.int (own_ca xs (1 : Int32)))]))
      obtain ⟨_, _, ⟨T286, L286, k286, n286⟩, -, X286, ⟨Lc286, hQ286, l286, y286, z286⟩, st286⟩ := Jvm.LawKit.callS X285 hx (y := (⟨"com/example/libxqtype/libxqtype/XmlCharacters", "isDigit", "(C)Z"⟩ : MethodName)) hown (mvT hZ (own_W hw 100 rfl)) (mvT hZ (own_W hw 101 rfl)) (mvT hZ (own_W hw 96 rfl)) (mvT hZ (own_W hw 102 rfl)) (by decide) (own_back (W := 0) (own_dgr l Z a0 hw [] (own_ca xs (1 : Int32)) h277 n0 zs283) hZ (own_W hw 102 rfl) (own_W hw 96 rfl) (by decide) (by decide)) (g := (mkF m 410 #[rv a1, own_i 0, own_i 0, .val (.int (own_at xs (0 : Int32)))] [(.int (own_ca xs (1 : Int32)))])) rfl (by rw [hml]; rfl) (argsL := [(.int (own_ca xs (1 : Int32)))]) (rest := []) (lenOf own_pd11 rfl) rfl (by show 2 * 0 + _ ≤ _; exact Nat.le_of_eq rfl) (hb hby own_d13_410) (fun _ _ => ⟨rfl, eh285, (by decide : 0 + 0 ≤ _), (by decide : 0 + 0 ≤ _)⟩)
      dsimp only [Pt.U, Pt.locs, Pt.cells, Pt.slots] at X286 l286 y286 z286 st286 hQ286
      rw [l286, y286, z286] at X286
      obtain ⟨rfl, N286q, eh286⟩ := hQ286
      have N286 := Fr.app N285 N286q
      refine own_to (fun t k => st286 t k) ?_
      show own_Fin _ _ _ _ _ _ (T286.setTop (mkF m 413 #[rv a1, own_i 0, own_i 0, .val (.int (own_at xs (0 : Int32)))] [(.int (own_dg (own_ca xs (1 : Int32))))]))
      refine own_to (fun t k => XS.ifNo X286.here hx rfl (hb hby own_d13_413) rfl ((if0 _ _).trans (feq hf2).1) k) ?_
      show own_Fin _ _ _ _ _ _ (T286.setTop (mkF m 416 #[rv a1, own_i 0, own_i 0, .val (.int (own_at xs (0 : Int32)))] []))
      refine own_to (fun t k => XS.aloadN X286.here hx rfl (hb hby own_d13_416) rfl rfl k) ?_
      obtain ⟨cq287, cqa287, cqb287⟩ := E1_e277.cell
      obtain ⟨_, _, ⟨T287, L287, k287, n287⟩, -, X287, ⟨Lc287, hQ287, l287, y287, z287⟩, st287⟩ := X286.privateBack hx (y := (⟨"com/example/libxqtype/libxqtype/ExpressionLexer", "numericLiteral", "()V"⟩ : MethodName)) hown (mvT hZ (own_W hw 103 rfl)) (mvT hZ (own_W hw 104 rfl)) (own_selP (y' := (⟨"com/example/libxqtype/libxqtype/ExpressionLexer", "unscaledValue", "()J"⟩ : MethodName)) (mvT hZ (own_W hw 136 rfl)) rfl (Cond.privateMethod_at (mvP hZ (own_W hw 105 rfl) (args := #[]))) (mvT hZ (own_W hw 104 rfl)) (by decide)) (Cond.privateMethod_at (mvP hZ (own_W hw 105 rfl) (args := #[]))) (mvT hZ (own_W hw 106 rfl)) (by decide) (own_back (W := 0) (own_num l Z a0 hw [] wI wD wT cT a1 a2 k2 xs (0 : Int32) t1 en h277 n0 zs283 SI SD O277 ST AT hT E1_e277 Fc_e277 V2_e277 Fk_e277 Fw277 Fe_e277 g_a1 ne12 hk d1 c1 d2 c2 c3 c4) hZ (own_W hw 106 rfl) (own_W hw 28 rfl) (by decide) (by decide)) (g := (mkF m 417 #[rv a1, own_i 0, own_i 0, .val (.int (own_at xs (0 : Int32)))] [(.ref a1)])) rfl (by rw [hml]; rfl) (Steps.refl _) (a := a1) (by rw [eh286]; exact cqa287) cqb287 (argsL := []) (rest := []) (lenOf own_pd1 rfl) rfl (by show 2 * 0 + _ ≤ _; exact Nat.le_of_eq rfl) (hb hby own_d13_417) (fun _ _ => ⟨rfl, eh286, (by decide : 0 + 0 ≤ _), (by decide : 0 + 0 ≤ _)⟩)
      dsimp only [Pt.U, Pt.locs, Pt.cells, Pt.slots] at X287 l287 y287 z287 st287 hQ287
      rw [l287, y287, z287] at X287
      obtain ⟨rfl, N287q, K287, Fc1, Fs1, Fe1⟩ := hQ287
      have N287 := Fr.app N286 N287q
      have O287 := O277.keep K287 (allS g_a1 all0)
      have KK287 : Keep h0 T287.heap [a1] := KK277.trans K287 (allS (Or.inl (List.mem_of_getElem? (i := 0) rfl)) all0)
      have E1_e287 := E1_e277.keep K287
      have V2_e287 := V2_e277.keep K287 (ninS (Ne.symm ne12) nin0)
      refine own_to (fun t k => st287.trans k) ?_
      show own_Fin _ _ _ _ _ _ (T287.setTop (mkF m 420 #[rv a1, own_i 0, own_i 0, .val (.int (own_at xs (0 : Int32)))] []))
      refine own_to (fun t k => XS.goto X287.here hx rfl (pc0 := 420) (pc' := 443) rfl (hb hby own_d13_420) (by decide) (by decide) k) ?_
      show own_Fin _ _ _ _ _ _ (T287.setTop (mkF m 443 #[rv a1, own_i 0, own_i 0, .val (.int (own_at xs (0 : Int32)))] []))
      refine own_retV X287 hx hlk hret (hb hby own_d13_443) (by decide) (by decide) ?_
      exact ⟨rfl, N287, KK287, Fc1, Fs1, Fe1⟩
  ·
    have htw := own_tsw (c := (own_at xs (1 : Int32))) (hf.elim Or.inl fun q => Or.inr q.2.1)
    rcases hf with hf | ⟨hf, h46, hf2⟩
    ·
      show own_Fin _ _ _ _ _ _ (s₁.setTop (mkF m 0 #[rv a1, own_i 0, .unset, .unset] []))
      refine own_to (fun t k => XS.aloadN X0.here hx rfl (hb hby own_d13_0) rfl rfl k) ?_
      refine own_to (fun t k => XS.aconstNull X0.here hx rfl (hb hby own_d13_1) k) ?_
      show own_Fin _ _ _ _ _ _ (s₁.setTop (mkF m 2 #[rv a1, own_i 0, .unset, .unset] [.null, (.ref a1)]))
      obtain ⟨T288, h288, X288, e288, W288, st288⟩ := putF X0 hx hZ hown (host := "") (Or.inl (own_W hw 90 rfl)) Via.refl e0 Fg E1 (Or.inl (own_W hw 91 rfl)) (own_W hw 27 rfl) (ty := (.object "java/lang/String")) (by decide) rfl rfl (g := (mkF m 2 #[rv a1, own_i 0, .unset, .unset] [.null, (.ref a1)])) rfl rfl (hb hby own_d13_2)
      have Fw288 := Fg.same W288
      have N288 := Fr.snoc X288 N0 g_a1
      have O288 := O0.wr W288 g_a1
      have KK288 : Keep h0 h288 [a1] := KK0.wr W288 (Or.inl (List.mem_of_getElem? (i := 0) rfl))
      have E1_e288 := E1.wr W288
      have Fc_e288 := Fc.other W288 (Or.inr (slot_ne (Or.inr (own_W hw 85 rfl)) (Or.inl (own_W hw 91 rfl)) (by decide) (t := (.array .char)) (t' := (.object "java/lang/String")) (by decide) (by decide)))
      have V2_e288 := V2.other W288 (Ne.symm ne12)
      have Fk_e288 := Fk.other W288 (Or.inr (slot_ne (Or.inl (own_W hw 115 rfl)) (Or.inl (own_W hw 91 rfl)) (by decide) (t := (.object "com/example/libxqtype/libxqtype/ExpressionLexer$Kind")) (t' := (.object "java/lang/String")) (by decide) (by decide)))
      have Fs_e288 := Fs.other W288 (Or.inr (slot_ne (Or.inl (own_W hw 99 rfl)) (Or.inl (own_W hw 91 rfl)) (by decide) (t := .int) (t' := (.object "java/lang/String")) (by decide) (by decide)))
      have Fe_e288 := Fe.other W288 (Or.inr (slot_ne (Or.inl (own_W hw 123 rfl)) (Or.inl (own_W hw 91 rfl)) (by decide) (t := .int) (t' := (.object "java/lang/String")) (by decide) (by decide)))
      have Fy_e288 := Fy.other W288 (Or.inr (slot_ne (Or.inl (own_W hw 93 rfl)) (Or.inl (own_W hw 91 rfl)) (by decide) (t := (.object "com/example/libxqtype/libxqtype/ExpressionLexer$Keyword")) (t' := (.object "java/lang/String")) (by decide) (by decide)))
      refine own_to (fun t k => st288 t k) ?_
      show own_Fin _ _ _ _ _ _ (T288.setTop (mkF m 5 #[rv a1, own_i 0, .unset, .unset] []))
      refine own_to (fun t k => XS.aloadN X288.here hx rfl (hb hby own_d13_5) rfl rfl k) ?_
      refine own_to (fun t k => XS.aconstNull X288.here hx rfl (hb hby own_d13_6) k) ?_
      show own_Fin _ _ _ _ _ _ (T288.setTop (mkF m 7 #[rv a1, own_i 0, .unset, .unset] [.null, (.ref a1)]))
      obtain ⟨T289, h289, X289, e289, W289, st289⟩ := putF X288 hx hZ hown (host := "") (Or.inl (own_W hw 92 rfl)) Via.refl e288 Fy_e288 E1_e288 (Or.inl (own_W hw 93 rfl)) (own_W hw 27 rfl) (ty := (.object "com/example/libxqtype/libxqtype/ExpressionLexer$Keyword")) (by decide) rfl rfl (g := (mkF m 7 #[rv a1, own_i 0, .unset, .unset] [.null, (.ref a1)])) rfl rfl (hb hby own_d13_7)
      have Fw289 := Fy_e288.same W289
      have N289 := Fr.snoc X289 N288 g_a1
      have O289 := O288.wr W289 g_a1
      have KK289 : Keep h0 h289 [a1] := KK288.wr W289 (Or.inl (List.mem_of_getElem? (i := 0) rfl))
      have E1_e289 := E1_e288.wr W289
      have Fc_e289 := Fc_e288.other W289 (Or.inr (slot_ne (Or.inr (own_W hw 85 rfl)) (Or.inl (own_W hw 93 rfl)) (by decide) (t := (.array .char)) (t' := (.object "com/example/libxqtype/libxqtype/ExpressionLexer$Keyword")) (by decide) (by decide)))
      have V2_e289 := V2_e288.other W289 (Ne.symm ne12)
      have Fk_e289 := Fk_e288.other W289 (Or.inr (slot_ne (Or.inl (own_W hw 115 rfl)) (Or.inl (own_W hw 93 rfl)) (by decide) (t := (.object "com/example/libxqtype/libxqtype/ExpressionLexer$Kind")) (t' := (.object "com/example/libxqtype/libxqtype/ExpressionLexer$Keyword")) (by decide) (by decide)))
      have Fs_e289 := Fs_e288.other W289 (Or.inr (slot_ne (Or.inl (own_W hw 99 rfl)) (Or.inl (own_W hw 93 rfl)) (by decide) (t := .int) (t' := (.object "com/example/libxqtype/libxqtype/ExpressionLexer$Keyword")) (by decide) (by decide)))
      have Fe_e289 := Fe_e288.other W289 (Or.inr (slot_ne (Or.inl (own_W hw 123 rfl)) (Or.inl (own_W hw 93 rfl)) (by decide) (t := .int) (t' := (.object "com/example/libxqtype/libxqtype/ExpressionLexer$Keyword")) (by decide) (by decide)))
      have Fw288_e289 := Fw288.other W289 (Or.inr (slot_ne (Or.inl (own_W hw 91 rfl)) (Or.inl (own_W hw 93 rfl)) (by decide) (t := (.object "java/lang/String")) (t' := (.object "com/example/libxqtype/libxqtype/ExpressionLexer$Keyword")) (by decide) (by decide)))
      refine own_to (fun t k => st289 t k) ?_
      show own_Fin _ _ _ _ _ _ (T289.setTop (mkF m 10 #[rv a1, own_i 0, .unset, .unset] []))
      refine own_to (fun t k => XS.iloadN X289.here hx rfl (hb hby own_d13_10) rfl k) ?_
      refine own_to (fun t k => XS.istoreN X289.here hx rfl (hb hby own_d13_11) rfl (l' := #[rv a1, own_i 0, own_i 0, .unset]) rfl k) ?_
      show own_Fin _ _ _ _ _ _ (T289.setTop (mkF m 12 #[rv a1, own_i 0, own_i 0, .unset] []))
      refine own_to (fun t k => XS.iloadN X289.here hx rfl (hb hby own_d13_12) rfl k) ?_
      refine own_to (fun t k => XS.aloadN X289.here hx rfl (hb hby own_d13_13) rfl rfl k) ?_
      obtain ⟨T290, X290, e290, st290⟩ := getF X289 hx hZ hown (host := "") (Or.inl (own_W hw 84 rfl)) Via.refl e289 Fc_e289 (g := (mkF m 14 #[rv a1, own_i 0, own_i 0, .unset] [(.ref a1), (.int (0 : Int32))])) rfl rfl (hb hby own_d13_14)
      refine own_to (fun t k => st290 t k) ?_
      show own_Fin _ _ _ _ _ _ (T290.setTop (mkF m 17 #[rv a1, own_i 0, own_i 0, .unset] [(.ref a2), (.int (0 : Int32))]))
      obtain ⟨cl291, Ar291, qa291, Sa291, Na291, Ha291, Ga291⟩ := id V2_e289
      refine own_to (fun t k => X290.arraylength hx (by rw [e290]; exact Ar291.1) (State.isArrayOf_alike hZ.alike Ar291.2.1) (g := (mkF m 17 #[rv a1, own_i 0, own_i 0, .unset] [(.ref a2), (.int (0 : Int32))])) rfl rfl (hb hby own_d13_17) _ k) ?_
      rw [len_of Sa291 Na291]
      show own_Fin _ _ _ _ _ _ (T290.setTop (mkF m 18 #[rv a1, own_i 0, own_i 0, .unset] [(.int (21 : Int32)), (.int (0 : Int32))]))
      refine own_to (fun t k => XS.icmpNo X290.here hx rfl (hb hby own_d13_18) rfl (tlt (by decide)).2.1 k) ?_
      show own_Fin _ _ _ _ _ _ (T290.setTop (mkF m 21 #[rv a1, own_i 0, own_i 0, .unset] []))
      refine own_to (fun t k => XS.aloadN X290.here hx rfl (hb hby own_d13_21) rfl rfl k) ?_
      show own_Fin _ _ _ _ _ _ (T290.setTop (mkF m 22 #[rv a1, own_i 0, own_i 0, .unset] [(.ref a1)]))
      obtain ⟨T292, X292, e292, st292⟩ := getF X290 hx hZ hown (host := "") (Or.inl (own_W hw 84 rfl)) Via.refl e290 Fc_e289 (g := (mkF m 22 #[rv a1, own_i 0, own_i 0, .unset] [(.ref a1)])) rfl rfl (hb hby own_d13_22)
      refine own_to (fun t k => st292 t k) ?_
      show own_Fin _ _ _ _ _ _ (T292.setTop (mkF m 25 #[rv a1, own_i 0, own_i 0, .unset] [(.ref a2)]))
      refine own_to (fun t k => XS.iloadN X292.here hx rfl (hb hby own_d13_25) rfl k) ?_
      obtain ⟨cl293, Ar293, qa293, Sa293, Na293, Ha293, Ga293⟩ := id V2_e289
      have hin294 : ¬ ((0 : Int32) < 0 ∨ cl293.slots.size ≤ ((0 : Int32)).toNatClampNeg) := inb_of Sa293 ⟨(by decide), (by decide)⟩
      refine own_to (fun t k => X292.caload hx (j := (0 : Int32)) (v := (.int (own_at xs (0 : Int32)))) (by rw [e292]; exact Ar293.1) (State.isArrayOf_alike hZ.alike Ar293.2.1) Ar293.2.2 hin294 (Has.at Ha293 hin294 (own_getm xs _)) (g := (mkF m 26 #[rv a1, own_i 0, own_i 0, .unset] [(.int (0 : Int32)), (.ref a2)])) rfl rfl (hb hby own_d13_26) _ k) ?_
      show own_Fin _ _ _ _ _ _ (T292.setTop (mkF m 27 #[rv a1, own_i 0, own_i 0, .unset] [(.int (own_at xs (0 : Int32)))]))
      refine own_to (fun t k => XS.istoreN X292.here hx rfl (hb hby own_d13_27) rfl (l' := #[rv a1, own_i 0, own_i 0, .val (.int (own_at xs (0 : Int32)))]) rfl k) ?_
      show own_Fin _ _ _ _ _ _ (T292.setTop (mkF m 28 #[rv a1, own_i 0, own_i 0, .val (.int (own_at xs (0 : Int32)))] []))
      refine own_to (fun t k => XS.iloadN X292.here hx rfl (hb hby own_d13_28) rfl k) ?_
      obtain ⟨_, _, ⟨T295, L295, k295, n295⟩, -, X295, ⟨Lc295, hQ295, l295, y295, z295⟩, st295⟩ := Jvm.LawKit.callS X292 hx (y := (⟨"com/example/libxqtype/libxqtype/XmlCharacters", "isWhitespace", "(C)Z"⟩ : MethodName)) hown (mvT hZ (own_W hw 94 rfl)) (mvT hZ (own_W hw 95 rfl)) (mvT hZ (own_W hw 96 rfl)) (mvT hZ (own_W hw 97 rfl)) (by decide) (own_back (W := 0) (own_wsr l Z a0 hw [] (own_at xs (0 : Int32)) h289 n0 (Nat.le_trans (Nat.le_trans Z0 (Keep.of_wr W288).1) (Keep.of_wr W289).1)) hZ (own_W hw 97 rfl) (own_W hw 96 rfl) (by decide) (by decide)) (g := (mkF m 29 #[rv a1, own_i 0, own_i 0, .val (.int (own_at xs (0 : Int32)))] [(.int (own_at xs (0 : Int32)))])) rfl (by rw [hml]; rfl) (argsL := [(.int (own_at xs (0 : Int32)))]) (rest := []) (lenOf own_pd11 rfl) rfl (by show 2 * 0 + _ ≤ _; exact Nat.le_of_eq rfl) (hb hby own_d13_29) (fun _ _ => ⟨rfl, e292, (by decide : 0 + 0 ≤ _), (by decide : 0 + 0 ≤ _)⟩)
      dsimp only [Pt.U, Pt.locs, Pt.cells, Pt.slots] at X295 l295 y295 z295 st295 hQ295
      rw [l295, y295, z295] at X295
      obtain ⟨rfl, N295q, eh295⟩ := hQ295
      have N295 := Fr.app N289 N295q
      refine own_to (fun t k => st295 t k) ?_
      show own_Fin _ _ _ _ _ _ (T295.setTop (mkF m 32 #[rv a1, own_i 0, own_i 0, .val (.int (own_at xs (0 : Int32)))] [(.int (own_ws (own_at xs (0 : Int32))))]))
      refine own_to (fun t k => XS.ifNo X295.here hx rfl (hb hby own_d13_32) rfl ((if0 _ _).trans (feq hw0).1) k) ?_
      show own_Fin _ _ _ _ _ _ (T295.setTop (mkF m 35 #[rv a1, own_i 0, own_i 0, .val (.int (own_at xs (0 : Int32)))] []))
      refine own_to (fun t k => XS.iinc X295.here hx rfl (hb hby own_d13_35) rfl (l' := #[rv a1, own_i 0, own_i 1, .val (.int (own_at xs (0 : Int32)))]) rfl k) ?_
      show own_Fin _ _ _ _ _ _ (T295.setTop (mkF m 38 #[rv a1, own_i 0, own_i 1, .val (.int (own_at xs (0 : Int32)))] []))
      refine own_to (fun t k => XS.goto X295.here hx rfl (pc0 := 38) (pc' := 65) rfl (hb hby own_d13_38) (by decide) (by decide) k) ?_
      show own_Fin _ _ _ _ _ _ (T295.setTop (mkF m 65 #[rv a1, own_i 0, own_i 1, .val (.int (own_at xs (0 : Int32)))] []))
      refine own_to (fun t k => XS.goto X295.here hx rfl (pc0 := 65) (pc' := 12) rfl (hb hby own_d13_65) (by decide) (by decide) k) ?_
      show own_Fin _ _ _ _ _ _ (T295.setTop (mkF m 12 #[rv a1, own_i 0, own_i 1, .val (.int (own_at xs (0 : Int32)))] []))
      refine own_to (fun t k => XS.iloadN X295.here hx rfl (hb hby own_d13_12) rfl k) ?_
      refine own_to (fun t k => XS.aloadN X295.here hx rfl (hb hby own_d13_13) rfl rfl k) ?_
      obtain ⟨T296, X296, e296, st296⟩ := getF X295 hx hZ hown (host := "") (Or.inl (own_W hw 84 rfl)) Via.refl eh295 Fc_e289 (g := (mkF m 14 #[rv a1, own_i 0, own_i 1, .val (.int (own_at xs (0 : Int32)))] [(.ref a1), (.int (1 : Int32))])) rfl rfl (hb hby own_d13_14)
      refine own_to (fun t k => st296 t k) ?_
      show own_Fin _ _ _ _ _ _ (T296.setTop (mkF m 17 #[rv a1, own_i 0, own_i 1, .val (.int (own_at xs (0 : Int32)))] [(.ref a2), (.int (1 : Int32))]))
      obtain ⟨cl297, Ar297, qa297, Sa297, Na297, Ha297, Ga297⟩ := id V2_e289
      refine own_to (fun t k => X296.arraylength hx (by rw [e296]; exact Ar297.1) (State.isArrayOf_alike hZ.alike Ar297.2.1) (g := (mkF m 17 #[rv a1, own_i 0, own_i 1, .val (.int (own_at xs (0 : Int32)))] [(.ref a2), (.int (1 : Int32))])) rfl rfl (hb hby own_d13_17) _ k) ?_
      rw [len_of Sa297 Na297]
      show own_Fin _ _ _ _ _ _ (T296.setTop (mkF m 18 #[rv a1, own_i 0, own_i 1, .val (.int (own_at xs (0 : Int32)))] [(.int (21 : Int32)), (.int (1 : Int32))]))
      refine own_to (fun t k => XS.icmpNo X296.here hx rfl (hb hby own_d13_18) rfl (tlt (by decide)).2.1 k) ?_
      show own_Fin _ _ _ _ _ _ (T296.setTop (mkF m 21 #[rv a1, own_i 0, own_i 1, .val (.int (own_at xs (0 : Int32)))] []))
      refine own_to (fun t k => XS.aloadN X296.here hx rfl (hb hby own_d13_21) rfl rfl k) ?_
      show own_Fin _ _ _ _ _ _ (T296.setTop (mkF m 22 #[rv a1, own_i 0, own_i 1, .val (.int (own_at xs (0 : Int32)))] [(.ref a1)]))
      obtain ⟨T298, X298, e298, st298⟩ := getF X296 hx hZ hown (host := "") (Or.inl (own_W hw 84 rfl)) Via.refl e296 Fc_e289 (g := (mkF m 22 #[rv a1, own_i 0, own_i 1, .val (.int (own_at xs (0 : Int32)))] [(.ref a1)])) rfl rfl (hb hby own_d13_22)
      refine own_to (fun t k => st298 t k) ?_
      show own_Fin _ _ _ _ _ _ (T298.setTop (mkF m 25 #[rv a1, own_i 0, own_i 1, .val (.int (own_at xs (0 : Int32)))] [(.ref a2)]))
      refine own_to (fun t k => XS.iloadN X298.here hx rfl (hb hby own_d13_25) rfl k) ?_
      obtain ⟨cl299, Ar299, qa299, Sa299, Na299, Ha299, Ga299⟩ := id V2_e289
      have hin300 : ¬ ((1 : Int32) < 0 ∨ cl299.slots.size ≤ ((1 : Int32)).toNatClampNeg) := inb_of Sa299 ⟨(by decide), (by decide)⟩
      refine own_to (fun t k => X298.caload hx (j := (1 : Int32)) (v := (.int (own_at xs (1 : Int32)))) (by rw [e298]; exact Ar299.1) (State.isArrayOf_alike hZ.alike Ar299.2.1) Ar299.2.2 hin300 (Has.at Ha299 hin300 (own_getm xs _)) (g := (mkF m 26 #[rv a1, own_i 0, own_i 1, .val (.int (own_at xs (0 : Int32)))] [(.int (1 : Int32)), (.ref a2)])) rfl rfl (hb hby own_d13_26) _ k) ?_
      show own_Fin _ _ _ _ _ _ (T298.setTop (mkF m 27 #[rv a1, own_i 0, own_i 1, .val (.int (own_at xs (0 : Int32)))] [(.int (own_at xs (1 : Int32)))]))
      refine own_to (fun t k => XS.istoreN X298.here hx rfl (hb hby own_d13_27) rfl (l' := #[rv a1, own_i 0, own_i 1, .val (.int (own_at xs (1 : Int32)))]) rfl k) ?_
      show own_Fin _ _ _ _ _ _ (T298.setTop (mkF m 28 #[rv a1, own_i 0, own_i 1, .val (.int (own_at xs (1 : Int32)))] []))
      refine own_to (fun t k => XS.iloadN X298.here hx rfl (hb hby own_d13_28) rfl k) ?_
      obtain ⟨_, _, ⟨T301, L301, k301, n301⟩, -, X301, ⟨Lc301, hQ301, l301, y301, z301⟩, st301⟩ := Jvm.LawKit.callS X298 hx (y := (⟨"com/example/libxqtype/libxqtype/XmlCharacters", "isWhitespace", "(C)Z"⟩ : MethodName)) hown (mvT hZ (own_W hw 94 rfl)) (mvT hZ (own_W hw 95 rfl)) (mvT hZ (own_W hw 96 rfl)) (mvT hZ (own_W hw 97 rfl)) (by decide) (own_back (W := 0) (own_wsr l Z a0 hw [] (own_at xs (1 : Int32)) h289 n0 (Nat.le_trans (Nat.le_trans Z0 (Keep.of_wr W288).1) (Keep.of_wr W289).1)) hZ (own_W hw 97 rfl) (own_W hw 96 rfl) (by decide) (by decide)) (g := (mkF m 29 #[rv a1, own_i 0, own_i 1, .val (.int (own_at xs (1 : Int32)))] [(.int (own_at xs (1 : Int32)))])) rfl (by rw [hml]; rfl) (argsL := [(.int (own_at xs (1 : Int32)))]) (rest := []) (lenOf own_pd11 rfl) rfl (by show 2 * 0 + _ ≤ _; exact Nat.le_of_eq rfl) (hb hby own_d13_29) (fun _ _ => ⟨rfl, e298, (by decide : 0 + 0 ≤ _), (by decide : 0 + 0 ≤ _)⟩)
      dsimp only [Pt.U, Pt.locs, Pt.cells, Pt.slots] at X301 l301 y301 z301 st301 hQ301
      rw [l301, y301, z301] at X301
      obtain ⟨rfl, N301q, eh301⟩ := hQ301
      have N301 := Fr.app N295 N301q
      refine own_to (fun t k => st301 t k) ?_
      show own_Fin _ _ _ _ _ _ (T301.setTop (mkF m 32 #[rv a1, own_i 0, own_i 1, .val (.int (own_at xs (1 : Int32)))] [(.int (own_ws (own_at xs (1 : Int32))))]))
      refine own_to (fun t k => XS.ifYes X301.here hx rfl (pc0 := 32) (pc' := 41) rfl (hb hby own_d13_32) rfl ((if0 _ _).trans (teq hn).1) (by decide) (by decide) k) ?_
      show own_Fin _ _ _ _ _ _ (T301.setTop (mkF m 41 #[rv a1, own_i 0, own_i 1, .val (.int (own_at xs (1 : Int32)))] []))
      refine own_to (fun t k => XS.iloadN X301.here hx rfl (hb hby own_d13_41) rfl k) ?_
      refine own_to (fun t k => XS.bipush X301.here hx rfl (hb hby own_d13_42) k) ?_
      show own_Fin _ _ _ _ _ _ (T301.setTop (mkF m 44 #[rv a1, own_i 0, own_i 1, .val (.int (own_at xs (1 : Int32)))] [(.int (40 : Int32)), (.int (own_at xs (1 : Int32)))]))
      refine own_to (fun t k => XS.icmpYes X301.here hx rfl (pc0 := 44) (pc' := 68) rfl (hb hby own_d13_44) rfl (feq h40).2 (by decide) (by decide) k) ?_
      show own_Fin _ _ _ _ _ _ (T301.setTop (mkF m 68 #[rv a1, own_i 0, own_i 1, .val (.int (own_at xs (1 : Int32)))] []))
      refine own_to (fun t k => XS.aloadN X301.here hx rfl (hb hby own_d13_68) rfl rfl k) ?_
      refine own_to (fun t k => XS.iloadN X301.here hx rfl (hb hby own_d13_69) rfl k) ?_
      obtain ⟨T302, h302, X302, e302, W302, st302⟩ := putF X301 hx hZ hown (host := "") (Or.inl (own_W hw 98 rfl)) Via.refl eh301 Fs_e289 E1_e289 (Or.inl (own_W hw 99 rfl)) (own_W hw 27 rfl) (ty := .int) (by decide) rfl rfl (g := (mkF m 70 #[rv a1, own_i 0, own_i 1, .val (.int (own_at xs (1 : Int32)))] [(.int (1 : Int32)), (.ref a1)])) rfl rfl (hb hby own_d13_70)
      have Fw302 := Fs_e289.same W302
      have N302 := Fr.snoc X302 N301 g_a1
      have O302 := O289.wr W302 g_a1
      have KK302 : Keep h0 h302 [a1] := KK289.wr W302 (Or.inl (List.mem_of_getElem? (i := 0) rfl))
      have E1_e302 := E1_e289.wr W302
      have Fc_e302 := Fc_e289.other W302 (Or.inr (slot_ne (Or.inr (own_W hw 85 rfl)) (Or.inl (own_W hw 99 rfl)) (by decide) (t := (.array .char)) (t' := .int) (by decide) (by decide)))
      have V2_e302 := V2_e289.other W302 (Ne.symm ne12)
      have Fk_e302 := Fk_e289.other W302 (Or.inr (slot_ne (Or.inl (own_W hw 115 rfl)) (Or.inl (own_W hw 99 rfl)) (by decide) (t := (.object "com/example/libxqtype/libxqtype/ExpressionLexer$Kind")) (t' := .int) (by decide) (by decide)))
      have Fe_e302 := Fe_e289.other W302 (Or.inr (slot_ne (Or.inl (own_W hw 123 rfl)) (Or.inl (own_W hw 99 rfl)) (by decide) (t := .int) (t' := .int) (by decide) (by decide)))
      have Fw288_e302 := Fw288_e289.other W302 (Or.inr (slot_ne (Or.inl (own_W hw 91 rfl)) (Or.inl (own_W hw 99 rfl)) (by decide) (t := (.object "java/lang/String")) (t' := .int) (by decide) (by decide)))
      have Fw289_e302 := Fw289.other W302 (Or.inr (slot_ne (Or.inl (own_W hw 93 rfl)) (Or.inl (own_W hw 99 rfl)) (by decide) (t := (.object "com/example/libxqtype/libxqtype/ExpressionLexer$Keyword")) (t' := .int) (by decide) (by decide)))
      refine own_to (fun t k => st302 t k) ?_
      show own_Fin _ _ _ _ _ _ (T302.setTop (mkF m 73 #[rv a1, own_i 0, own_i 1, .val (.int (own_at xs (1 : Int32)))] []))
      refine own_to (fun t k => XS.iloadN X302.here hx rfl (hb hby own_d13_73) rfl k) ?_
      show own_Fin _ _ _ _ _ _ (T302.setTop (mkF m 74 #[rv a1, own_i 0, own_i 1, .val (.int (own_at xs (1 : Int32)))] [(.int (1 : Int32))]))
      refine own_to (fun t k => XS.aloadN X302.here hx rfl (hb hby own_d13_74) rfl rfl k) ?_
      obtain ⟨T303, X303, e303, st303⟩ := getF X302 hx hZ hown (host := "") (Or.inl (own_W hw 84 rfl)) Via.refl e302 Fc_e302 (g := (mkF m 75 #[rv a1, own_i 0, own_i 1, .val (.int (own_at xs (1 : Int32)))] [(.ref a1), (.int (1 : Int32))])) rfl rfl (hb hby own_d13_75)
      refine own_to (fun t k => st303 t k) ?_
      show own_Fin _ _ _ _ _ _ (T303.setTop (mkF m 78 #[rv a1, own_i 0, own_i 1, .val (.int (own_at xs (1 : Int32)))] [(.ref a2), (.int (1 : Int32))]))
      obtain ⟨cl304, Ar304, qa304, Sa304, Na304, Ha304, Ga304⟩ := id V2_e302
      refine own_to (fun t k => X303.arraylength hx (by rw [e303]; exact Ar304.1) (State.isArrayOf_alike hZ.alike Ar304.2.1) (g := (mkF m 78 #[rv a1, own_i 0, own_i 1, .val (.int (own_at xs (1 : Int32)))] [(.ref a2), (.int (1 : Int32))])) rfl rfl (hb hby own_d13_78) _ k) ?_
      rw [len_of Sa304 Na304]
      show own_Fin _ _ _ _ _ _ (T303.setTop (mkF m 79 #[rv a1, own_i 0, own_i 1, .val (.int (own_at xs (1 : Int32)))] [(.int (21 : Int32)), (.int (1 : Int32))]))
      refine own_to (fun t k => XS.icmpYes X303.here hx rfl (pc0 := 79) (pc' := 95) rfl (hb hby own_d13_79) rfl (feq (by decide)).2 (by decide) (by decide) k) ?_
      show own_Fin _ _ _ _ _ _ (T303.setTop (mkF m 95 #[rv a1, own_i 0, own_i 1, .val (.int (own_at xs (1 : Int32)))] []))
      refine own_to (fun t k => XS.aloadN X303.here hx rfl (hb hby own_d13_95) rfl rfl k) ?_
      obtain ⟨T305, X305, e305, st305⟩ := getF X303 hx hZ hown (host := "") (Or.inl (own_W hw 84 rfl)) Via.refl e303 Fc_e302 (g := (mkF m 96 #[rv a1, own_i 0, own_i 1, .val (.int (own_at xs (1 : Int32)))] [(.ref a1)])) rfl rfl (hb hby own_d13_96)
      refine own_to (fun t k => st305 t k) ?_
      show own_Fin _ _ _ _ _ _ (T305.setTop (mkF m 99 #[rv a1, own_i 0, own_i 1, .val (.int (own_at xs (1 : Int32)))] [(.ref a2)]))
      refine own_to (fun t k => XS.iloadN X305.here hx rfl (hb hby own_d13_99) rfl k) ?_
      show own_Fin _ _ _ _ _ _ (T305.setTop (mkF m 100 #[rv a1, own_i 0, own_i 1, .val (.int (own_at xs (1 : Int32)))] [(.int (1 : Int32)), (.ref a2)]))
      obtain ⟨cl306, Ar306, qa306, Sa306, Na306, Ha306, Ga306⟩ := id V2_e302
      have hin307 : ¬ ((1 : Int32) < 0 ∨ cl306.slots.size ≤ ((1 : Int32)).toNatClampNeg) := inb_of Sa306 ⟨(by decide), (by decide)⟩
      refine own_to (fun t k => X305.caload hx (j := (1 : Int32)) (v := (.int (own_at xs (1 : Int32)))) (by rw [e305]; exact Ar306.1) (State.isArrayOf_alike hZ.alike Ar306.2.1) Ar306.2.2 hin307 (Has.at Ha306 hin307 (own_getm xs _)) (g := (mkF m 100 #[rv a1, own_i 0, own_i 1, .val (.int (own_at xs (1 : Int32)))] [(.int (1 : Int32)), (.ref a2)])) rfl rfl (hb hby own_d13_100) _ k) ?_
      show own_Fin _ _ _ _ _ _ (T305.setTop (mkF m 101 #[rv a1, own_i 0, own_i 1, .val (.int (own_at xs (1 : Int32)))] [(.int (own_at xs (1 : Int32)))]))
      refine own_to (fun t k => XS.istoreN X305.here hx rfl (hb hby own_d13_101) rfl (l' := #[rv a1, own_i 0, own_i 1, .val (.int (own_at xs (1 : Int32)))]) rfl k) ?_
      show own_Fin _ _ _ _ _ _ (T305.setTop (mkF m 102 #[rv a1, own_i 0, own_i 1, .val (.int (own_at xs (1 : Int32)))] []))
      refine own_to (fun t k => XS.iloadN X305.here hx rfl (hb hby own_d13_102) rfl k) ?_
      refine own_to (fun t k => XS.tswIn X305.here hx rfl (pc0 := 103) (pc' := 390) rfl (hb hby own_d13_103) rfl htw.1 htw.2 (by decide) (by decide) k) ?_
      show own_Fin _ _ _ _ _ _ (T305.setTop (mkF m 390 #[rv a1, own_i 0, own_i 1, .val (.int (own_at xs (1 : Int32)))] []))
      refine own_to (fun t k => XS.iloadN X305.here hx rfl (hb hby own_d13_390) rfl k) ?_
      have zs308 := (Nat.le_trans (Nat.le_trans (Nat.le_trans Z0 (Keep.of_wr W288).1) (Keep.of_wr W289).1) (Keep.of_wr W302).1)
      obtain ⟨_, _, ⟨T309, L309, k309, n309⟩, -, X309, ⟨Lc309, hQ309, l309, y309, z309⟩, st309⟩ := Jvm.LawKit.callS X305 hx (y := (⟨"com/example/libxqtype/libxqtype/XmlCharacters", "isDigit", "(C)Z"⟩ : MethodName)) hown (mvT hZ (own_W hw 100 rfl)) (mvT hZ (own_W hw 101 rfl)) (mvT hZ (own_W hw 96 rfl)) (mvT hZ (own_W hw 102 rfl)) (by decide) (own_back (W := 0) (own_dgr l Z a0 hw [] (own_at xs (1 : Int32)) h302 n0 zs308) hZ (own_W hw 102 rfl) (own_W hw 96 rfl) (by decide) (by decide)) (g := (mkF m 391 #[rv a1, own_i 0, own_i 1, .val (.int (own_at xs (1 : Int32)))] [(.int (own_at xs (1 : Int32)))])) rfl (by rw [hml]; rfl) (argsL := [(.int (own_at xs (1 : Int32)))]) (rest := []) (lenOf own_pd11 rfl) rfl (by show 2 * 0 + _ ≤ _; exact Nat.le_of_eq rfl) (hb hby own_d13_391) (fun _ _ => ⟨rfl, e305, (by decide : 0 + 0 ≤ _), (by decide : 0 + 0 ≤ _)⟩)
      dsimp only [Pt.U, Pt.locs, Pt.cells, Pt.slots] at X309 l309 y309 z309 st309 hQ309
      rw [l309, y309, z309] at X309
      obtain ⟨rfl, N309q, eh309⟩ := hQ309
      have N309 := Fr.app N302 N309q
      refine own_to (fun t k => st309 t k) ?_
      show own_Fin _ _ _ _ _ _ (T309.setTop (mkF m 394 #[rv a1, own_i 0, own_i 1, .val (.int (own_at xs (1 : Int32)))] [(.int (own_dg (own_at xs (1 : Int32))))]))
      refine own_to (fun t k => XS.ifYes X309.here hx rfl (pc0 := 394) (pc' := 416) rfl (hb hby own_d13_394) rfl ((if0 _ _).trans (feq hf).2) (by decide) (by decide) k) ?_
      show own_Fin _ _ _ _ _ _ (T309.setTop (mkF m 416 #[rv a1, own_i 0, own_i 1, .val (.int (own_at xs (1 : Int32)))] []))
      refine own_to (fun t k => XS.aloadN X309.here hx rfl (hb hby own_d13_416) rfl rfl k) ?_
      show own_Fin _ _ _ _ _ _ (T309.setTop (mkF m 417 #[rv a1, own_i 0, own_i 1, .val (.int (own_at xs (1 : Int32)))] [(.ref a1)]))
      obtain ⟨cq310, cqa310, cqb310⟩ := E1_e302.cell
      obtain ⟨_, _, ⟨T310, L310, k310, n310⟩, -, X310, ⟨Lc310, hQ310, l310, y310, z310⟩, st310⟩ := X309.privateBack hx (y := (⟨"com/example/libxqtype/libxqtype/ExpressionLexer", "numericLiteral", "()V"⟩ : MethodName)) hown (mvT hZ (own_W hw 103 rfl)) (mvT hZ (own_W hw 104 rfl)) (own_selP (y' := (⟨"com/example/libxqtype/libxqtype/ExpressionLexer", "unscaledValue", "()J"⟩ : MethodName)) (mvT hZ (own_W hw 136 rfl)) rfl (Cond.privateMethod_at (mvP hZ (own_W hw 105 rfl) (args := #[]))) (mvT hZ (own_W hw 104 rfl)) (by decide)) (Cond.privateMethod_at (mvP hZ (own_W hw 105 rfl) (args := #[]))) (mvT hZ (own_W hw 106 rfl)) (by decide) (own_back (W := 0) (own_num l Z a0 hw [] wI wD wT cT a1 a2 k2 xs (1 : Int32) t1 en h302 n0 zs308 SI SD O302 ST AT hT E1_e302 Fc_e302 V2_e302 Fk_e302 Fw302 Fe_e302 g_a1 ne12 hk d1 c1 d2 c2 c3 c4) hZ (own_W hw 106 rfl) (own_W hw 28 rfl) (by decide) (by decide)) (g := (mkF m 417 #[rv a1, own_i 0, own_i 1, .val (.int (own_at xs (1 : Int32)))] [(.ref a1)])) rfl (by rw [hml]; rfl) (Steps.refl _) (a := a1) (by rw [eh309]; exact cqa310) cqb310 (argsL := []) (rest := []) (lenOf own_pd1 rfl) rfl (by show 2 * 0 + _ ≤ _; exact Nat.le_of_eq rfl) (hb hby own_d13_417) (fun _ _ => ⟨rfl, eh309, (by decide : 0 + 0 ≤ _), (by decide : 0 + 0 ≤ _)⟩)
      dsimp only [Pt.U, Pt.locs, Pt.cells, Pt.slots] at X310 l310 y310 z310 st310 hQ310
      rw [l310, y310, z310] at X310
      obtain ⟨rfl, N310q, K310, Fc1, Fs1, Fe1⟩ := hQ310
      have N310 := Fr.app N309 N310q
      have O310 := O302.keep K310 (allS g_a1 all0)
      have KK310 : Keep h0 T310.heap [a1] := KK302.trans K310 (allS (Or.inl (List.mem_of_getElem? (i := 0) rfl)) all0)
      have E1_e310 := E1_e302.keep K310
      have V2_e310 := V2_e302.keep K310 (ninS (Ne.symm ne12) nin0)
      refine own_to (fun t k => st310.trans k) ?_
      show own_Fin _ _ _ _ _ _ (T310.setTop (mkF m 420 #[rv a1, own_i 0, own_i 1, .val (.int (own_at xs (1 : Int32)))] []))
      refine own_to (fun t k => XS.goto X310.here hx rfl (pc0 := 420) (pc' := 443) rfl (hb hby own_d13_420) (by decide) (by decide) k) ?_
      show own_Fin _ _ _ _ _ _ (T310.setTop (mkF m 443 #[rv a1, own_i 0, own_i 1, .val (.int (own_at xs (1 : Int32)))] []))
      refine own_retV X310 hx hlk hret (hb hby own_d13_443) (by decide) (by decide) ?_
      exact ⟨rfl, N310, KK310, Fc1, Fs1, Fe1⟩
    ·
      show own_Fin _ _ _ _ _ _ (s₁.setTop (mkF m 0 #[rv a1, own_i 0, .unset, .unset] []))
      refine own_to (fun t k => XS.aloadN X0.here hx rfl (hb hby own_d13_0) rfl rfl k) ?_
      refine own_to (fun t k => XS.aconstNull X0.here hx rfl (hb hby own_d13_1) k) ?_
      show own_Fin _ _ _ _ _ _ (s₁.setTop (mkF m 2 #[rv a1, own_i 0, .unset, .unset] [.null, (.ref a1)]))
      obtain ⟨T311, h311, X311, e311, W311, st311⟩ := putF X0 hx hZ hown (host := "") (Or.inl (own_W hw 90 rfl)) Via.refl e0 Fg E1 (Or.inl (own_W hw 91 rfl)) (own_W hw 27 rfl) (ty := (.object "java/lang/String")) (by decide) rfl rfl (g := (mkF m 2 #[rv a1, own_i 0, .unset, .unset] [.null, (.ref a1)])) rfl rfl (hb hby own_d13_2)
      have Fw311 := Fg.same W311
      have N311 := Fr.snoc X311 N0 g_a1
      have O311 := O0.wr W311 g_a1
      have KK311 : Keep h0 h311 [a1] := KK0.wr W311 (Or.inl (List.mem_of_getElem? (i := 0) rfl))
      have E1_e311 := E1.wr W311
      have Fc_e311 := Fc.other W311 (Or.inr (slot_ne (Or.inr (own_W hw 85 rfl)) (Or.inl (own_W hw 91 rfl)) (by decide) (t := (.array .char)) (t' := (.object "java/lang/String")) (by decide) (by decide)))
      have V2_e311 := V2.other W311 (Ne.symm ne12)
      have Fk_e311 := Fk.other W311 (Or.inr (slot_ne (Or.inl (own_W hw 115 rfl)) (Or.inl (own_W hw 91 rfl)) (by decide) (t := (.object "com/example/libxqtype/libxqtype/ExpressionLexer$Kind")) (t' := (.object "java/lang/String")) (by decide) (by decide)))
      have Fs_e311 := Fs.other W311 (Or.inr (slot_ne (Or.inl (own_W hw 99 rfl)) (Or.inl (own_W hw 91 rfl)) (by decide) (t := .int) (t' := (.object "java/lang/String")) (by decide) (by decide)))
      have Fe_e311 := Fe.other W311 (Or.inr (slot_ne (Or.inl (own_W hw 123 rfl)) (Or.inl (own_W hw 91 rfl)) (by decide) (t := .int) (t' := (.object "java/lang/String")) (by decide) (by decide)))
      have Fy_e311 := Fy.other W311 (Or.inr (slot_ne (Or.inl (own_W hw 93 rfl)) (Or.inl (own_W hw 91 rfl)) (by decide) (t := (.object "com/example/libxqtype/libxqtype/ExpressionLexer$Keyword")) (t' := (.object "java/lang/String")) (by decide) (by decide)))
      refine own_to (fun t k => st311 t k) ?_
      show own_Fin _ _ _ _ _ _ (T311.setTop (mkF m 5 #[rv a1, own_i 0, .unset, .unset] []))
      refine own_to (fun t k => XS.aloadN X311.here hx rfl (hb hby own_d13_5) rfl rfl k) ?_
      refine own_to (fun t k => XS.aconstNull X311.here hx rfl (hb hby own_d13_6) k) ?_
      show own_Fin _ _ _ _ _ _ (T311.setTop (mkF m 7 #[rv a1, own_i 0, .unset, .unset] [.null, (.ref a1)]))
      obtain ⟨T312, h312, X312, e312, W312, st312⟩ := putF X311 hx hZ hown (host := "") (Or.inl (own_W hw 92 rfl)) Via.refl e311 Fy_e311 E1_e311 (Or.inl (own_W hw 93 rfl)) (own_W hw 27 rfl) (ty := (.object "com/example/libxqtype/libxqtype/ExpressionLexer$Keyword")) (by decide) rfl rfl (g := (mkF m 7 #[rv a1, own_i 0, .unset, .unset] [.null, (.ref a1)])) rfl rfl (hb hby own_d13_7)
      have Fw312 := Fy_e311.same W312
      have N312 := Fr.snoc X312 N311 g_a1
      have O312 := O311.wr W312 g_a1
      have KK312 : Keep h0 h312 [a1] := KK311.wr W312 (Or.inl (List.mem_of_getElem? (i := 0) rfl))
      have E1_e312 := E1_e311.wr W312
      have Fc_e312 := Fc_e311.other W312 (Or.inr (slot_ne (Or.inr (own_W hw 85 rfl)) (Or.inl (own_W hw 93 rfl)) (by decide) (t := (.array .char)) (t' := (.object "com/example/libxqtype/libxqtype/ExpressionLexer$Keyword")) (by decide) (by decide)))
      have V2_e312 := V2_e311.other W312 (Ne.symm ne12)
      have Fk_e312 := Fk_e311.other W312 (Or.inr (slot_ne (Or.inl (own_W hw 115 rfl)) (Or.inl (own_W hw 93 rfl)) (by decide) (t := (.object "com/example/libxqtype/libxqtype/ExpressionLexer$Kind")) (t' := (.object "com/example/libxqtype/libxqtype/ExpressionLexer$Keyword")) (by decide) (by decide)))
      have Fs_e312 := Fs_e311.other W312 (Or.inr (slot_ne (Or.inl (own_W hw 99 rfl)) (Or.inl (own_W hw 93 rfl)) (by decide) (t := .int) (t' := (.object "com/example/libxqtype/libxqtype/ExpressionLexer$Keyword")) (by decide) (by decide)))
      have Fe_e312 := Fe_e311.other W312 (Or.inr (slot_ne (Or.inl (own_W hw 123 rfl)) (Or.inl (own_W hw 93 rfl)) (by decide) (t := .int) (t' := (.object "com/example/libxqtype/libxqtype/ExpressionLexer$Keyword")) (by decide) (by decide)))
      have Fw311_e312 := Fw311.other W312 (Or.inr (slot_ne (Or.inl (own_W hw 91 rfl)) (Or.inl (own_W hw 93 rfl)) (by decide) (t := (.object "java/lang/String")) (t' := (.object "com/example/libxqtype/libxqtype/ExpressionLexer$Keyword")) (by decide) (by decide)))
      refine own_to (fun t k => st312 t k) ?_
      show own_Fin _ _ _ _ _ _ (T312.setTop (mkF m 10 #[rv a1, own_i 0, .unset, .unset] []))
      refine own_to (fun t k => XS.iloadN X312.here hx rfl (hb hby own_d13_10) rfl k) ?_
      refine own_to (fun t k => XS.istoreN X312.here hx rfl (hb hby own_d13_11) rfl (l' := #[rv a1, own_i 0, own_i 0, .unset]) rfl k) ?_
      show own_Fin _ _ _ _ _ _ (T312.setTop (mkF m 12 #[rv a1, own_i 0, own_i 0, .unset] []))
      refine own_to (fun t k => XS.iloadN X312.here hx rfl (hb hby own_d13_12) rfl k) ?_
      refine own_to (fun t k => XS.aloadN X312.here hx rfl (hb hby own_d13_13) rfl rfl k) ?_
      obtain ⟨T313, X313, e313, st313⟩ := getF X312 hx hZ hown (host := "") (Or.inl (own_W hw 84 rfl)) Via.refl e312 Fc_e312 (g := (mkF m 14 #[rv a1, own_i 0, own_i 0, .unset] [(.ref a1), (.int (0 : Int32))])) rfl rfl (hb hby own_d13_14)
      refine own_to (fun t k => st313 t k) ?_
      show own_Fin _ _ _ _ _ _ (T313.setTop (mkF m 17 #[rv a1, own_i 0, own_i 0, .unset] [(.ref a2), (.int (0 : Int32))]))
      obtain ⟨cl314, Ar314, qa314, Sa314, Na314, Ha314, Ga314⟩ := id V2_e312
      refine own_to (fun t k => X313.arraylength hx (by rw [e313]; exact Ar314.1) (State.isArrayOf_alike hZ.alike Ar314.2.1) (g := (mkF m 17 #[rv a1, own_i 0, own_i 0, .unset] [(.ref a2), (.int (0 : Int32))])) rfl rfl (hb hby own_d13_17) _ k) ?_
      rw [len_of Sa314 Na314]
      show own_Fin _ _ _ _ _ _ (T313.setTop (mkF m 18 #[rv a1, own_i 0, own_i 0, .unset] [(.int (21 : Int32)), (.int (0 : Int32))]))
      refine own_to (fun t k => XS.icmpNo X313.here hx rfl (hb hby own_d13_18) rfl (tlt (by decide)).2.1 k) ?_
      show own_Fin _ _ _ _ _ _ (T313.setTop (mkF m 21 #[rv a1, own_i 0, own_i 0, .unset] []))
      refine own_to (fun t k => XS.aloadN X313.here hx rfl (hb hby own_d13_21) rfl rfl k) ?_
      show own_Fin _ _ _ _ _ _ (T313.setTop (mkF m 22 #[rv a1, own_i 0, own_i 0, .unset] [(.ref a1)]))
      obtain ⟨T315, X315, e315, st315⟩ := getF X313 hx hZ hown (host := "") (Or.inl (own_W hw 84 rfl)) Via.refl e313 Fc_e312 (g := (mkF m 22 #[rv a1, own_i 0, own_i 0, .unset] [(.ref a1)])) rfl rfl (hb hby own_d13_22)
      refine own_to (fun t k => st315 t k) ?_
      show own_Fin _ _ _ _ _ _ (T315.setTop (mkF m 25 #[rv a1, own_i 0, own_i 0, .unset] [(.ref a2)]))
      refine own_to (fun t k => XS.iloadN X315.here hx rfl (hb hby own_d13_25) rfl k) ?_
      obtain ⟨cl316, Ar316, qa316, Sa316, Na316, Ha316, Ga316⟩ := id V2_e312
      have hin317 : ¬ ((0 : Int32) < 0 ∨ cl316.slots.size ≤ ((0 : Int32)).toNatClampNeg) := inb_of Sa316 ⟨(by decide), (by decide)⟩
      refine own_to (fun t k => X315.caload hx (j := (0 : Int32)) (v := (.int (own_at xs (0 : Int32)))) (by rw [e315]; exact Ar316.1) (State.isArrayOf_alike hZ.alike Ar316.2.1) Ar316.2.2 hin317 (Has.at Ha316 hin317 (own_getm xs _)) (g := (mkF m 26 #[rv a1, own_i 0, own_i 0, .unset] [(.int (0 : Int32)), (.ref a2)])) rfl rfl (hb hby own_d13_26) _ k) ?_
      show own_Fin _ _ _ _ _ _ (T315.setTop (mkF m 27 #[rv a1, own_i 0, own_i 0, .unset] [(.int (own_at xs (0 : Int32)))]))
      refine own_to (fun t k => XS.istoreN X315.here hx rfl (hb hby own_d13_27) rfl (l' := #[rv a1, own_i 0, own_i 0, .val (.int (own_at xs (0 : Int32)))]) rfl k) ?_
      show own_Fin _ _ _ _ _ _ (T315.setTop (mkF m 28 #[rv a1, own_i 0, own_i 0, .val (.int (own_at xs (0 : Int32)))] []))
      refine own_to (fun t k => XS.iloadN X315.here hx rfl (hb hby own_d13_28) rfl k) ?_
      obtain ⟨_, _, ⟨T318, L318, k318, n318⟩, -, X318, ⟨Lc318, hQ318, l318, y318, z318⟩, st318⟩ := Jvm.LawKit.callS X315 hx (y := (⟨"com/example/libxqtype/libxqtype/XmlCharacters", "isWhitespace", "(C)Z"⟩ : MethodName)) hown (mvT hZ (own_W hw 94 rfl)) (mvT hZ (own_W hw 95 rfl)) (mvT hZ (own_W hw 96 rfl)) (mvT hZ (own_W hw 97 rfl)) (by decide) (own_back (W := 0) (own_wsr l Z a0 hw [] (own_at xs (0 : Int32)) h312 n0 (Nat.le_trans (Nat.le_trans Z0 (Keep.of_wr W311).1) (Keep.of_wr W312).1)) hZ (own_W hw 97 rfl) (own_W hw 96 rfl) (by decide) (by decide)) (g := (mkF m 29 #[rv a1, own_i 0, own_i 0, .val (.int (own_at xs (0 : Int32)))] [(.int (own_at xs (0 : Int32)))])) rfl (by rw [hml]; rfl) (argsL := [(.int (own_at xs (0 : Int32)))]) (rest := []) (lenOf own_pd11 rfl) rfl (by show 2 * 0 + _ ≤ _; exact Nat.le_of_eq rfl) (hb hby own_d13_29) (fun _ _ => ⟨rfl, e315, (by decide : 0 + 0 ≤ _), (by decide : 0 + 0 ≤ _)⟩)
      dsimp only [Pt.U, Pt.locs, Pt.cells, Pt.slots] at X318 l318 y318 z318 st318 hQ318
      rw [l318, y318, z318] at X318
      obtain ⟨rfl, N318q, eh318⟩ := hQ318
      have N318 := Fr.app N312 N318q
      refine own_to (fun t k => st318 t k) ?_
      show own_Fin _ _ _ _ _ _ (T318.setTop (mkF m 32 #[rv a1, own_i 0, own_i 0, .val (.int (own_at xs (0 : Int32)))] [(.int (own_ws (own_at xs (0 : Int32))))]))
      refine own_to (fun t k => XS.ifNo X318.here hx rfl (hb hby own_d13_32) rfl ((if0 _ _).trans (feq hw0).1) k) ?_
      show own_Fin _ _ _ _ _ _ (T318.setTop (mkF m 35 #[rv a1, own_i 0, own_i 0, .val (.int (own_at xs (0 : Int32)))] []))
      refine own_to (fun t k => XS.iinc X318.here hx rfl (hb hby own_d13_35) rfl (l' := #[rv a1, own_i 0, own_i 1, .val (.int (own_at xs (0 : Int32)))]) rfl k) ?_
      show own_Fin _ _ _ _ _ _ (T318.setTop (mkF m 38 #[rv a1, own_i 0, own_i 1, .val (.int (own_at xs (0 : Int32)))] []))
      refine own_to (fun t k => XS.goto X318.here hx rfl (pc0 := 38) (pc' := 65) rfl (hb hby own_d13_38) (by decide) (by decide) k) ?_
      show own_Fin _ _ _ _ _ _ (T318.setTop (mkF m 65 #[rv a1, own_i 0, own_i 1, .val (.int (own_at xs (0 : Int32)))] []))
      refine own_to (fun t k => XS.goto X318.here hx rfl (pc0 := 65) (pc' := 12) rfl (hb hby own_d13_65) (by decide) (by decide) k) ?_
      show own_Fin _ _ _ _ _ _ (T318.setTop (mkF m 12 #[rv a1, own_i 0, own_i 1, .val (.int (own_at xs (0 : Int32)))] []))
      refine own_to (fun t k => XS.iloadN X318.here hx rfl (hb hby own_d13_12) rfl k) ?_
      refine own_to (fun t k => XS.aloadN X318.here hx rfl (hb hby own_d13_13) rfl rfl k) ?_
      obtain ⟨T319, X319, e319, st319⟩ := getF X318 hx hZ hown (host := "") (Or.inl (own_W hw 84 rfl)) Via.refl eh318 Fc_e312 (g := (mkF m 14 #[rv a1, own_i 0, own_i 1, .val (.int (own_at xs (0 : Int32)))] [(.ref a1), (.int (1 : Int32))])) rfl rfl (hb hby own_d13_14)
      refine own_to (fun t k => st319 t k) ?_
      show own_Fin _ _ _ _ _ _ (T319.setTop (mkF m 17 #[rv a1, own_i 0, own_i 1, .val (.int (own_at xs (0 : Int32)))] [(.ref a2), (.int (1 : Int32))]))
      obtain ⟨cl320, Ar320, qa320, Sa320, Na320, Ha320, Ga320⟩ := id V2_e312
      refine own_to (fun t k => X319.arraylength hx (by rw [e319]; exact Ar320.1) (State.isArrayOf_alike hZ.alike Ar320.2.1) (g := (mkF m 17 #[rv a1, own_i 0, own_i 1, .val (.int (own_at xs (0 : Int32)))] [(.ref a2), (.int (1 : Int32))])) rfl rfl (hb hby own_d13_17) _ k) ?_
      rw [len_of Sa320 Na320]
      show own_Fin _ _ _ _ _ _ (T319.setTop (mkF m 18 #[rv a1, own_i 0, own_i 1, .val (.int (own_at xs (0 : Int32)))] [(.int (21 : Int32)), (.int (1 : Int32))]))
      refine own_to (fun t k => XS.icmpNo X319.here hx rfl (hb hby own_d13_18) rfl (tlt (by decide)).2.1 k) ?_
      show own_Fin _ _ _ _ _ _ (T319.setTop (mkF m 21 #[rv a1, own_i 0, own_i 1, .val (.int (own_at xs (0 : Int32)))] []))
      refine own_to (fun t k => XS.aloadN X319.here hx rfl (hb hby own_d13_21) rfl rfl k) ?_
      show own_Fin _ _ _ _ _ _ (T319.setTop (mkF m 22 #[rv a1, own_i 0, own_i 1, .val (.int (own_at xs (0 : Int32)))] [(.ref a1)]))
      obtain ⟨T321, X321, e321, st321⟩ := getF X319 hx hZ hown (host := "") (Or.inl (own_W hw 84 rfl)) Via.refl e319 Fc_e312 (g := (mkF m 22 #[rv a1, own_i 0, own_i 1, .val (.int (own_at xs (0 : Int32)))] [(.ref a1)])) rfl rfl (hb hby own_d13_22)
      refine own_to (fun t k => st321 t k) ?_
      show own_Fin _ _ _ _ _ _ (T321.setTop (mkF m 25 #[rv a1, own_i 0, own_i 1, .val (.int (own_at xs (0 : Int32)))] [(.ref a2)]))
      refine own_to (fun t k => XS.iloadN X321.here hx rfl (hb hby own_d13_25) rfl k) ?_
      obtain ⟨cl322, Ar322, qa322, Sa322, Na322, Ha322, Ga322⟩ := id V2_e312
      have hin323 : ¬ ((1 : Int32) < 0 ∨ cl322.slots.size ≤ ((1 : Int32)).toNatClampNeg) := inb_of Sa322 ⟨(by decide), (by decide)⟩
      refine own_to (fun t k => X321.caload hx (j := (1 : Int32)) (v := (.int (own_at xs (1 : Int32)))) (by rw [e321]; exact Ar322.1) (State.isArrayOf_alike hZ.alike Ar322.2.1) Ar322.2.2 hin323 (Has.at Ha322 hin323 (own_getm xs _)) (g := (mkF m 26 #[rv a1, own_i 0, own_i 1, .val (.int (own_at xs (0 : Int32)))] [(.int (1 : Int32)), (.ref a2)])) rfl rfl (hb hby own_d13_26) _ k) ?_
      show own_Fin _ _ _ _ _ _ (T321.setTop (mkF m 27 #[rv a1, own_i 0, own_i 1, .val (.int (own_at xs (0 : Int32)))] [(.int (own_at xs (1 : Int32)))]))
      refine own_to (fun t k => XS.istoreN X321.here hx rfl (hb hby own_d13_27) rfl (l' := #[rv a1, own_i 0, own_i 1, .val (.int (own_at xs (1 : Int32)))]) rfl k) ?_
      show own_Fin _ _ _ _ _ _ (T321.setTop (mkF m 28 #[rv a1, own_i 0, own_i 1, .val (.int (own_at xs (1 : Int32)))] []))
      refine own_to (fun t k => XS.iloadN X321.here hx rfl (hb hby own_d13_28) rfl k) ?_
      obtain ⟨_, _, ⟨T324, L324, k324, n324⟩, -, X324, ⟨Lc324, hQ324, l324, y324, z324⟩, st324⟩ := Jvm.LawKit.callS X321 hx (y := (⟨"com/example/libxqtype/libxqtype/XmlCharacters", "isWhitespace", "(C)Z"⟩ : MethodName)) hown (mvT hZ (own_W hw 94 rfl)) (mvT hZ (own_W hw 95 rfl)) (mvT hZ (own_W hw 96 rfl)) (mvT hZ (own_W hw 97 rfl)) (by decide) (own_back (W := 0) (own_wsr l Z a0 hw [] (own_at xs (1 : Int32)) h312 n0 (Nat.le_trans (Nat.le_trans Z0 (Keep.of_wr W311).1) (Keep.of_wr W312).1)) hZ (own_W hw 97 rfl) (own_W hw 96 rfl) (by decide) (by decide)) (g := (mkF m 29 #[rv a1, own_i 0, own_i 1, .val (.int (own_at xs (1 : Int32)))] [(.int (own_at xs (1 : Int32)))])) rfl (by rw [hml]; rfl) (argsL := [(.int (own_at xs (1 : Int32)))]) (rest := []) (lenOf own_pd11 rfl) rfl (by show 2 * 0 + _ ≤ _; exact Nat.le_of_eq rfl) (hb hby own_d13_29) (fun _ _ => ⟨rfl, e321, (by decide : 0 + 0 ≤ _), (by decide : 0 + 0 ≤ _)⟩)
      dsimp only [Pt.U, Pt.locs, Pt.cells, Pt.slots] at X324 l324 y324 z324 st324 hQ324
      rw [l324, y324, z324] at X324
      obtain ⟨rfl, N324q, eh324⟩ := hQ324
      have N324 := Fr.app N318 N324q
      refine own_to (fun t k => st324 t k) ?_
      show own_Fin _ _ _ _ _ _ (T324.setTop (mkF m 32 #[rv a1, own_i 0, own_i 1, .val (.int (own_at xs (1 : Int32)))] [(.int (own_ws (own_at xs (1 : Int32))))]))
      refine own_to (fun t k => XS.ifYes X324.here hx rfl (pc0 := 32) (pc' := 41) rfl (hb hby own_d13_32) rfl ((if0 _ _).trans (teq hn).1) (by decide) (by decide) k) ?_
      show own_Fin _ _ _ _ _ _ (T324.setTop (mkF m 41 #[rv a1, own_i 0, own_i 1, .val (.int (own_at xs (1 : Int32)))] []))
      refine own_to (fun t k => XS.iloadN X324.here hx rfl (hb hby own_d13_41) rfl k) ?_
      refine own_to (fun t k => XS.bipush X324.here hx rfl (hb hby own_d13_42) k) ?_
      show own_Fin _ _ _ _ _ _ (T324.setTop (mkF m 44 #[rv a1, own_i 0, own_i 1, .val (.int (own_at xs (1 : Int32)))] [(.int (40 : Int32)), (.int (own_at xs (1 : Int32)))]))
      refine own_to (fun t k => XS.icmpYes X324.here hx rfl (pc0 := 44) (pc' := 68) rfl (hb hby own_d13_44) rfl (feq h40).2 (by decide) (by decide) k) ?_
      show own_Fin _ _ _ _ _ _ (T324.setTop (mkF m 68 #[rv a1, own_i 0, own_i 1, .val (.int (own_at xs (1 : Int32)))] []))
      refine own_to (fun t k => XS.aloadN X324.here hx rfl (hb hby own_d13_68) rfl rfl k) ?_
      refine own_to (fun t k => XS.iloadN X324.here hx rfl (hb hby own_d13_69) rfl k) ?_
      obtain ⟨T325, h325, X325, e325, W325, st325⟩ := putF X324 hx hZ hown (host := "") (Or.inl (own_W hw 98 rfl)) Via.refl eh324 Fs_e312 E1_e312 (Or.inl (own_W hw 99 rfl)) (own_W hw 27 rfl) (ty := .int) (by decide) rfl rfl (g := (mkF m 70 #[rv a1, own_i 0, own_i 1, .val (.int (own_at xs (1 : Int32)))] [(.int (1 : Int32)), (.ref a1)])) rfl rfl (hb hby own_d13_70)
      have Fw325 := Fs_e312.same W325
      have N325 := Fr.snoc X325 N324 g_a1
      have O325 := O312.wr W325 g_a1
      have KK325 : Keep h0 h325 [a1] := KK312.wr W325 (Or.inl (List.mem_of_getElem? (i := 0) rfl))
      have E1_e325 := E1_e312.wr W325
      have Fc_e325 := Fc_e312.other W325 (Or.inr (slot_ne (Or.inr (own_W hw 85 rfl)) (Or.inl (own_W hw 99 rfl)) (by decide) (t := (.array .char)) (t' := .int) (by decide) (by decide)))
      have V2_e325 := V2_e312.other W325 (Ne.symm ne12)
      have Fk_e325 := Fk_e312.other W325 (Or.inr (slot_ne (Or.inl (own_W hw 115 rfl)) (Or.inl (own_W hw 99 rfl)) (by decide) (t := (.object "com/example/libxqtype/libxqtype/ExpressionLexer$Kind")) (t' := .int) (by decide) (by decide)))
      have Fe_e325 := Fe_e312.other W325 (Or.inr (slot_ne (Or.inl (own_W hw 123 rfl)) (Or.inl (own_W hw 99 rfl)) (by decide) (t := .int) (t' := .int) (by decide) (by decide)))
      have Fw311_e325 := Fw311_e312.other W325 (Or.inr (slot_ne (Or.inl (own_W hw 91 rfl)) (Or.inl (own_W hw 99 rfl)) (by decide) (t := (.object "java/lang/String")) (t' := .int) (by decide) (by decide)))
      have Fw312_e325 := Fw312.other W325 (Or.inr (slot_ne (Or.inl (own_W hw 93 rfl)) (Or.inl (own_W hw 99 rfl)) (by decide) (t := (.object "com/example/libxqtype/libxqtype/ExpressionLexer$Keyword")) (t' := .int) (by decide) (by decide)))
      refine own_to (fun t k => st325 t k) ?_
      show own_Fin _ _ _ _ _ _ (T325.setTop (mkF m 73 #[rv a1, own_i 0, own_i 1, .val (.int (own_at xs (1 : Int32)))] []))
      refine own_to (fun t k => XS.iloadN X325.here hx rfl (hb hby own_d13_73) rfl k) ?_
      show own_Fin _ _ _ _ _ _ (T325.setTop (mkF m 74 #[rv a1, own_i 0, own_i 1, .val (.int (own_at xs (1 : Int32)))] [(.int (1 : Int32))]))
      refine own_to (fun t k => XS.aloadN X325.here hx rfl (hb hby own_d13_74) rfl rfl k) ?_
      obtain ⟨T326, X326, e326, st326⟩ := getF X325 hx hZ hown (host := "") (Or.inl (own_W hw 84 rfl)) Via.refl e325 Fc_e325 (g := (mkF m 75 #[rv a1, own_i 0, own_i 1, .val (.int (own_at xs (1 : Int32)))] [(.ref a1), (.int (1 : Int32))])) rfl rfl (hb hby own_d13_75)
      refine own_to (fun t k => st326 t k) ?_
      show own_Fin _ _ _ _ _ _ (T326.setTop (mkF m 78 #[rv a1, own_i 0, own_i 1, .val (.int (own_at xs (1 : Int32)))] [(.ref a2), (.int (1 : Int32))]))
      obtain ⟨cl327, Ar327, qa327, Sa327, Na327, Ha327, Ga327⟩ := id V2_e325
      refine own_to (fun t k => X326.arraylength hx (by rw [e326]; exact Ar327.1) (State.isArrayOf_alike hZ.alike Ar327.2.1) (g := (mkF m 78 #[rv a1, own_i 0, own_i 1, .val (.int (own_at xs (1 : Int32)))] [(.ref a2), (.int (1 : Int32))])) rfl rfl (hb hby own_d13_78) _ k) ?_
      rw [len_of Sa327 Na327]
      show own_Fin _ _ _ _ _ _ (T326.setTop (mkF m 79 #[rv a1, own_i 0, own_i 1, .val (.int (own_at xs (1 : Int32)))] [(.int (21 : Int32)), (.int (1 : Int32))]))
      refine own_to (fun t k => XS.icmpYes X326.here hx rfl (pc0 := 79) (pc' := 95) rfl (hb hby own_d13_79) rfl (feq (by decide)).2 (by decide) (by decide) k) ?_
      show own_Fin _ _ _ _ _ _ (T326.setTop (mkF m 95 #[rv a1, own_i 0, own_i 1, .val (.int (own_at xs (1 : Int32)))] []))
      refine own_to (fun t k => XS.aloadN X326.here hx rfl (hb hby own_d13_95) rfl rfl k) ?_
      obtain ⟨T328, X328, e328, st328⟩ := getF X326 hx hZ hown (host := "") (Or.inl (own_W hw 84 rfl)) Via.refl e326 Fc_e325 (g := (mkF m 96 #[rv a1, own_i 0, own_i 1, .val (.int (own_at xs (1 : Int32)))] [(.ref a1)])) rfl rfl (hb hby own_d13_96)
      refine own_to (fun t k => st328 t k) ?_
      show own_Fin _ _ _ _ _ _ (T328.setTop (mkF m 99 #[rv a1, own_i 0, own_i 1, .val (.int (own_at xs (1 : Int32)))] [(.ref a2)]))
      refine own_to (fun t k => XS.iloadN X328.here hx rfl (hb hby own_d13_99) rfl k) ?_
      show own_Fin _ _ _ _ _ _ (T328.setTop (mkF m 100 #[rv a1, own_i 0, own_i 1, .val (.int (own_at xs (1 : Int32)))] [(.int (1 : Int32)), (.ref a2)]))
      obtain ⟨cl329, Ar329, qa329, Sa329, Na329, Ha329, Ga329⟩ := id V2_e325
      have hin330 : ¬ ((1 : Int32) < 0 ∨ cl329.slots.size ≤ ((1 : Int32)).toNatClampNeg) := inb_of Sa329 ⟨(by decide), (by decide)⟩
      refine own_to (fun t k => X328.caload hx (j := (1 : Int32)) (v := (.int (own_at xs (1 : Int32)))) (by rw [e328]; exact Ar329.1) (State.isArrayOf_alike hZ.alike Ar329.2.1) Ar329.2.2 hin330 (Has.at Ha329 hin330 (own_getm xs _)) (g := (mkF m 100 #[rv a1, own_i 0, own_i 1, .val (.int (own_at xs (1 : Int32)))] [(.int (1 : Int32)), (.ref a2)])) rfl rfl (hb hby own_d13_100) _ k) ?_
      show own_Fin _ _ _ _ _ _ (T328.setTop (mkF m 101 #[rv a1, own_i 0, own_i 1, .val (.int (own_at xs (1 : Int32)))] [(.int (own_at xs (1 : Int32)))]))
      refine own_to (fun t k => XS.istoreN X328.here hx rfl (hb hby own_d13_101) rfl (l' := #[rv a1, own_i 0, own_i 1, .val (.int (own_at xs (1 : Int32)))]) rfl k) ?_
      show own_Fin _ _ _ _ _ _ (T328.setTop (mkF m 102 #[rv a1, own_i 0, own_i 1, .val (.int (own_at xs (1 : Int32)))] []))
      refine own_to (fun t k => XS.iloadN X328.here hx rfl (hb hby own_d13_102) rfl k) ?_
      refine own_to (fun t k => XS.tswIn X328.here hx rfl (pc0 := 103) (pc' := 390) rfl (hb hby own_d13_103) rfl htw.1 htw.2 (by decide) (by decide) k) ?_
      show own_Fin _ _ _ _ _ _ (T328.setTop (mkF m 390 #[rv a1, own_i 0, own_i 1, .val (.int (own_at xs (1 : Int32)))] []))
      refine own_to (fun t k => XS.iloadN X328.here hx rfl (hb hby own_d13_390) rfl k) ?_
      have zs331 := (Nat.le_trans (Nat.le_trans (Nat.le_trans Z0 (Keep.of_wr W311).1) (Keep.of_wr W312).1) (Keep.of_wr W325).1)
      obtain ⟨_, _, ⟨T332, L332, k332, n332⟩, -, X332, ⟨Lc332, hQ332, l332, y332, z332⟩, st332⟩ := Jvm.LawKit.callS X328 hx (y := (⟨"com/example/libxqtype/libxqtype/XmlCharacters", "isDigit", "(C)Z"⟩ : MethodName)) hown (mvT hZ (own_W hw 100 rfl)) (mvT hZ (own_W hw 101 rfl)) (mvT hZ (own_W hw 96 rfl)) (mvT hZ (own_W hw 102 rfl)) (by decide) (own_back (W := 0) (own_dgr l Z a0 hw [] (own_at xs (1 : Int32)) h325 n0 zs331) hZ (own_W hw 102 rfl) (own_W hw 96 rfl) (by decide) (by decide)) (g := (mkF m 391 #[rv a1, own_i 0, own_i 1, .val (.int (own_at xs (1 : Int32)))] [(.int (own_at xs (1 : Int32)))])) rfl (by rw [hml]; rfl) (argsL := [(.int (own_at xs (1 : Int32)))]) (rest := []) (lenOf own_pd11 rfl) rfl (by show 2 * 0 + _ ≤ _; exact Nat.le_of_eq rfl) (hb hby own_d13_391) (fun _ _ => ⟨rfl, e328, (by decide : 0 + 0 ≤ _), (by decide : 0 + 0 ≤ _)⟩)
      dsimp only [Pt.U, Pt.locs, Pt.cells, Pt.slots] at X332 l332 y332 z332 st332 hQ332
      rw [l332, y332, z332] at X332
      obtain ⟨rfl, N332q, eh332⟩ := hQ332
      have N332 := Fr.app N325 N332q
      refine own_to (fun t k => st332 t k) ?_
      show own_Fin _ _ _ _ _ _ (T332.setTop (mkF m 394 #[rv a1, own_i 0, own_i 1, .val (.int (own_at xs (1 : Int32)))] [(.int (own_dg (own_at xs (1 : Int32))))]))
      refine own_to (fun t k => XS.ifNo X332.here hx rfl (hb hby own_d13_394) rfl ((if0 _ _).trans (teq hf).2) k) ?_
      show own_Fin _ _ _ _ _ _ (T332.setTop (mkF m 397 #[rv a1, own_i 0, own_i 1, .val (.int (own_at xs (1 : Int32)))] []))
      refine own_to (fun t k => XS.iloadN X332.here hx rfl (hb hby own_d13_397) rfl k) ?_
      show own_Fin _ _ _ _ _ _ (T332.setTop (mkF m 398 #[rv a1, own_i 0, own_i 1, .val (.int (own_at xs (1 : Int32)))] [(.int (own_at xs (1 : Int32)))]))
      refine own_to (fun t k => XS.bipush X332.here hx rfl (hb hby own_d13_398) k) ?_
      refine own_to (fun t k => XS.icmpNo X332.here hx rfl (hb hby own_d13_400) rfl (teq h46).2 k) ?_
      show own_Fin _ _ _ _ _ _ (T332.setTop (mkF m 403 #[rv a1, own_i 0, own_i 1, .val (.int (own_at xs (1 : Int32)))] []))
      refine own_to (fun t k => XS.aloadN X332.here hx rfl (hb hby own_d13_403) rfl rfl k) ?_
      refine own_to (fun t k => XS.iloadN X332.here hx rfl (hb hby own_d13_404) rfl k) ?_
      show own_Fin _ _ _ _ _ _ (T332.setTop (mkF m 405 #[rv a1, own_i 0, own_i 1, .val (.int (own_at xs (1 : Int32)))] [(.int (1 : Int32)), (.ref a1)]))
      refine own_to (fun t k => XS.iconst X332.here hx rfl (hb hby own_d13_405) k) ?_
      refine own_to (fun t k => XS.iadd X332.here hx rfl (hb hby own_d13_406) rfl k) ?_
      show own_Fin _ _ _ _ _ _ (T332.setTop (mkF m 407 #[rv a1, own_i 0, own_i 1, .val (.int (own_at xs (1 : Int32)))] [(.int (2 : Int32)), (.ref a1)]))
      obtain ⟨cq333, cqa333, cqb333⟩ := E1_e325.cell
      obtain ⟨_, _, ⟨T333, L333, k333, n333⟩, -, X333, ⟨Lc333, hQ333, l333, y333, z333⟩, st333⟩ := X332.privateBack hx (y := (⟨"com/example/libxqtype/libxqtype/ExpressionLexer", "charAt", "(I)C"⟩ : MethodName)) hown (mvT hZ (own_W hw 116 rfl)) (mvT hZ (own_W hw 117 rfl)) (own_selP (y' := (⟨"com/example/libxqtype/libxqtype/ExpressionLexer", "unscaledValue", "()J"⟩ : MethodName)) (mvT hZ (own_W hw 136 rfl)) rfl (Cond.privateMethod_at (mvP hZ (own_W hw 118 rfl) (args := #[]))) (mvT hZ (own_W hw 117 rfl)) (by decide)) (Cond.privateMethod_at (mvP hZ (own_W hw 118 rfl) (args := #[]))) (mvT hZ (own_W hw 119 rfl)) (by decide) (own_back (W := 0) (own_car l Z a0 hw [] a1 a2 k2 xs (2 : Int32) h325 n0 zs331 E1_e325 Fc_e325 V2_e325 (by decide) (fun q => hk _ (by decide) q)) hZ (own_W hw 119 rfl) (own_W hw 28 rfl) (by decide) (by decide)) (g := (mkF m 407 #[rv a1, own_i 0, own_i 1, .val (.int (own_at xs (1 : Int32)))] [(.int (2 : Int32)), (.ref a1)])) rfl (by rw [hml]; rfl) (Steps.refl _) (a := a1) (by rw [eh332]; exact cqa333) cqb333 (argsL := [(.int (2 : Int32))]) (rest := []) (lenOf own_pd10 rfl) rfl (by show 2 * 0 + _ ≤ _; exact Nat.le_of_eq rfl) (hb hby own_d13_407) (fun _ _ => ⟨rfl, eh332, (by decide : 0 + 0 ≤ _), (by decide : 0 + 0 ≤ _)⟩)
      dsimp only [Pt.U, Pt.locs, Pt.cells, Pt.slots] at X333 l333 y333 z333 st333 hQ333
      rw [l333, y333, z333] at X333
      obtain ⟨rfl, N333q, eh333⟩ := hQ333
      have N333 := Fr.app N332 N333q
      refine own_to (fun t k => st333.trans k) ?_
      show own_Fin _ _ _ _ _ _ (T333.setTop (mkF m 410 #[rv a1, own_i 0, own_i 1, .val (.int (own_at xs (1 : Int32)))] [(.int (own_ca xs (2 : Int32)))]))
      obtain ⟨_, _, ⟨T334, L334, k334, n334⟩, -, X334, ⟨Lc334, hQ334, l334, y334, z334⟩, st334⟩ := Jvm.LawKit.callS X333 hx (y := (⟨"com/example/libxqtype/libxqtype/XmlCharacters", "isDigit", "(C)Z"⟩ : MethodName)) hown (mvT hZ (own_W hw 100 rfl)) (mvT hZ (own_W hw 101 rfl)) (mvT hZ (own_W hw 96 rfl)) (mvT hZ (own_W hw 102 rfl)) (by decide) (own_back (W := 0) (own_dgr l Z a0 hw [] (own_ca xs (2 : Int32)) h325 n0 zs331) hZ (own_W hw 102 rfl) (own_W hw 96 rfl) (by decide) (by decide)) (g := (mkF m 410 #[rv a1, own_i 0, own_i 1, .val (.int (own_at xs (1 : Int32)))] [(.int (own_ca xs (2 : Int32)))])) rfl (by rw [hml]; rfl) (argsL := [(.int (own_ca xs (2 : Int32)))]) (rest := []) (lenOf own_pd11 rfl) rfl (by show 2 * 0 + _ ≤ _; exact Nat.le_of_eq rfl) (hb hby own_d13_410) (fun _ _ => ⟨rfl, eh333, (by decide : 0 + 0 ≤ _), (by decide : 0 + 0 ≤ _)⟩)
      dsimp only [Pt.U, Pt.locs, Pt.cells, Pt.slots] at X334 l334 y334 z334 st334 hQ334
      rw [l334, y334, z334] at X334
      obtain ⟨rfl, N334q, eh334⟩ := hQ334
      have N334 := Fr.app N333 N334q
      refine own_to (fun t k => st334 t k) ?_
      show own_Fin _ _ _ _ _ _ (T334.setTop (mkF m 413 #[rv a1, own_i 0, own_i 1, .val (.int (own_at xs (1 : Int32)))] [(.int (own_dg (own_ca xs (2 : Int32))))]))
      refine own_to (fun t k => XS.ifNo X334.here hx rfl (hb hby own_d13_413) rfl ((if0 _ _).trans (feq hf2).1) k) ?_
      show own_Fin _ _ _ _ _ _ (T334.setTop (mkF m 416 #[rv a1, own_i 0, own_i 1, .val (.int (own_at xs (1 : Int32)))] []))
      refine own_to (fun t k => XS.aloadN X334.here hx rfl (hb hby own_d13_416) rfl rfl k) ?_
      obtain ⟨cq335, cqa335, cqb335⟩ := E1_e325.cell
      obtain ⟨_, _, ⟨T335, L335, k335, n335⟩, -, X335, ⟨Lc335, hQ335, l335, y335, z335⟩, st335⟩ := X334.privateBack hx (y := (⟨"com/example/libxqtype/libxqtype/ExpressionLexer", "numericLiteral", "()V"⟩ : MethodName)) hown (mvT hZ (own_W hw 103 rfl)) (mvT hZ (own_W hw 104 rfl)) (own_selP (y' := (⟨"com/example/libxqtype/libxqtype/ExpressionLexer", "unscaledValue", "()J"⟩ : MethodName)) (mvT hZ (own_W hw 136 rfl)) rfl (Cond.privateMethod_at (mvP hZ (own_W hw 105 rfl) (args := #[]))) (mvT hZ (own_W hw 104 rfl)) (by decide)) (Cond.privateMethod_at (mvP hZ (own_W hw 105 rfl) (args := #[]))) (mvT hZ (own_W hw 106 rfl)) (by decide) (own_back (W := 0) (own_num l Z a0 hw [] wI wD wT cT a1 a2 k2 xs (1 : Int32) t1 en h325 n0 zs331 SI SD O325 ST AT hT E1_e325 Fc_e325 V2_e325 Fk_e325 Fw325 Fe_e325 g_a1 ne12 hk d1 c1 d2 c2 c3 c4) hZ (own_W hw 106 rfl) (own_W hw 28 rfl) (by decide) (by decide)) (g := (mkF m 417 #[rv a1, own_i 0, own_i 1, .val (.int (own_at xs (1 : Int32)))] [(.ref a1)])) rfl (by rw [hml]; rfl) (Steps.refl _) (a := a1) (by rw [eh334]; exact cqa335) cqb335 (argsL := []) (rest := []) (lenOf own_pd1 rfl) rfl (by show 2 * 0 + _ ≤ _; exact Nat.le_of_eq rfl) (hb hby own_d13_417) (fun _ _ => ⟨rfl, eh334, (by decide : 0 + 0 ≤ _), (by decide : 0 + 0 ≤ _)⟩)
      dsimp only [Pt.U, Pt.locs, Pt.cells, Pt.slots] at X335 l335 y335 z335 st335 hQ335
      rw [l335, y335, z335] at X335
      obtain ⟨rfl, N335q, K335, Fc1, Fs1, Fe1⟩ := hQ335
      have N335 := Fr.app N334 N335q
      have O335 := O325.keep K335 (allS g_a1 all0)
      have KK335 : Keep h0 T335.heap [a1] := KK325.trans K335 (allS (Or.inl (List.mem_of_getElem? (i := 0) rfl)) all0)
      have E1_e335 := E1_e325.keep K335
      have V2_e335 := V2_e325.keep K335 (ninS (Ne.symm ne12) nin0)
      refine own_to (fun t k => st335.trans k) ?_
      show own_Fin _ _ _ _ _ _ (T335.setTop (mkF m 420 #[rv a1, own_i 0, own_i 1, .val (.int (own_at xs (1 : Int32)))] []))
      refine own_to (fun t k => XS.goto X335.here hx rfl (pc0 := 420) (pc' := 443) rfl (hb hby own_d13_420) (by decide) (by decide) k) ?_
      show own_Fin _ _ _ _ _ _ (T335.setTop (mkF m 443 #[rv a1, own_i 0, own_i 1, .val (.int (own_at xs (1 : Int32)))] []))
      refine own_retV X335 hx hlk hret (hb hby own_d13_443) (by decide) (by decide) ?_
      exact ⟨rfl, N335, KK335, Fc1, Fs1, Fe1⟩
theorem own_d8_0 : decode prog_59_method_1_code 0 = .ok (.aload_n 0, 1) := by decide +kernel
theorem own_d8_1 : decode prog_59_method_1_code 1 = .ok (.invokespecial 1, 3) := by decide +kernel
theorem own_d8_4 : decode prog_59_method_1_code 4 = .ok (.aload_n 0, 1) := by decide +kernel
theorem own_d8_5 : decode prog_59_method_1_code 5 = .ok (.ldc 9, 2) := by decide +kernel
theorem own_d8_7 : decode prog_59_method_1_code 7 = .ok (.putfield 10, 3) := by decide +kernel
theorem own_d8_10 : decode prog_59_method_1_code 10 = .ok (.aload_n 0, 1) := by decide +kernel
theorem own_d8_11 : decode prog_59_method_1_code 11 = .ok (.aload_n 1, 1) := by decide +kernel
theorem own_d8_12 : decode prog_59_method_1_code 12 = .ok (.putfield 16, 3) := by decide +kernel
theorem own_d8_15 : decode prog_59_method_1_code 15 = .ok (.aload_n 0, 1) := by decide +kernel
theorem own_d8_16 : decode prog_59_method_1_code 16 = .ok (.aload_n 1, 1) := by decide +kernel
theorem own_d8_17 : decode prog_59_method_1_code 17 = .ok (.invokevirtual 20, 3) := by decide +kernel
theorem own_d8_20 : decode prog_59_method_1_code 20 = .ok (.putfield 26, 3) := by decide +kernel
theorem own_d8_23 : decode prog_59_method_1_code 23 = .ok (.aload_n 0, 1) := by decide +kernel
theorem own_d8_24 : decode prog_59_method_1_code 24 = .ok (.iconst 0, 1) := by decide +kernel
theorem own_d8_25 : decode prog_59_method_1_code 25 = .ok (.invokevirtual 30, 3) := by decide +kernel
theorem own_d8_28 : decode prog_59_method_1_code 28 = .ok (.return_, 1) := by decide +kernel
theorem own_pd12 : parseMethodDescriptor "()[C" = some ⟨[], some (.array .char)⟩ := by decide +kernel
theorem own_pd13 : parseMethodDescriptor "(I)V" = some ⟨[.int], none⟩ := by decide +kernel
theorem own_lxi_ef (m : MethodId) (a1 : Addr) (a5 : Addr) : entryFrame m #[(.ref a1), (.ref a5)] 2 = mkF m 0 #[rv a1, rv a5] [] := by first | (simp [entryFrame, mkF, argsToLocals, Value.category]; done) | rfl
set_option maxRecDepth 65536 in
set_option maxHeartbeats 40000000 in
theorem own_lxi (l : Launch) (Z : State) (a0 : Array Value) (hw : ∀ d ∈ tables_1, d.before a0 Z = true) (ws : List Jvm.Cond) (cs : Int32) (wI : Addr) (wD : Addr) (wT : Addr) (cT : Cell) (a1 : Addr) (a5 : Addr) (d : Addr) (k3 : ClassId) (x0 : Int32) (x1 : Int32) (x2 : Int32) (x3 : Int32) (x4 : Int32) (x5 : Int32) (x6 : Int32) (x7 : Int32) (x8 : Int32) (x9 : Int32) (x10 : Int32) (x11 : Int32) (x12 : Int32) (x13 : Int32) (x14 : Int32) (x15 : Int32) (x16 : Int32) (x17 : Int32) (x18 : Int32) (x19 : Int32) (x20 : Int32) (st : Int32) (t1 : Int32) (en : Int32) (h0 : Heap) (n0 : Nat) (Z0 : n0 ≤ h0.size) (O0 : Old Z n0 h0) (SS : Sta Z Z.heap "java/lang/String" "COMPACT_STRINGS" "Z" (.int cs)) (hcs : ¬ cs = (0 : Int32)) (SI : Sta Z Z.heap "com/example/libxqtype/libxqtype/ExpressionLexer$Kind" "INTEGER_LITERAL" "Lcom/example/libxqtype/libxqtype/ExpressionLexer$Kind;" (.ref wI)) (SD : Sta Z Z.heap "com/example/libxqtype/libxqtype/ExpressionLexer$Kind" "DECIMAL_LITERAL" "Lcom/example/libxqtype/libxqtype/ExpressionLexer$Kind;" (.ref wD)) (ST : Sta Z Z.heap "com/example/libxqtype/libxqtype/XmlCharacters" "ASCII_NAME_CHARACTERS" "[B" (.ref wT)) (AT : Arr Z Z.heap wT cT .byte) (hT : cT.slots.size = 128) (E1 : Exa Z h0 a1 "com/example/libxqtype/libxqtype/ExpressionLexer") (L0 : Fld Z h0 a1 "com/example/libxqtype/libxqtype/ExpressionLexer" "text" "Ljava/lang/String;" .null) (L1 : Fld Z h0 a1 "com/example/libxqtype/libxqtype/ExpressionLexer" "chars" "[C" .null) (L2 : Fld Z h0 a1 "com/example/libxqtype/libxqtype/ExpressionLexer" "kind" "Lcom/example/libxqtype/libxqtype/ExpressionLexer$Kind;" .null) (L3 : Fld Z h0 a1 "com/example/libxqtype/libxqtype/ExpressionLexer" "start" "I" (.int (0 : Int32))) (L4 : Fld Z h0 a1 "com/example/libxqtype/libxqtype/ExpressionLexer" "end" "I" (.int (0 : Int32))) (L5 : Fld Z h0 a1 "com/example/libxqtype/libxqtype/ExpressionLexer" "spelling" "Ljava/lang/String;" .null) (L6 : Fld Z h0 a1 "com/example/libxqtype/libxqtype/ExpressionLexer" "keyword" "Lcom/example/libxqtype/libxqtype/ExpressionLexer$Keyword;" .null) (L7 : Fld Z h0 a1 "com/example/libxqtype/libxqtype/ExpressionLexer" "ampersandSearchedFrom" "I" (.int (0 : Int32))) (g_a1 : n0 ≤ a1) (sE1 : Exa Z h0 a5 "java/lang/String") (sF1 : Fld Z h0 a5 "java/lang/String" "value" "[B" (.ref d)) (sF2 : Fld Z h0 a5 "java/lang/String" "coder" "B" (.int (0 : Int32))) (sV2 : Arv Z h0 d k3 .byte (21 : Int32) [(.int (x0.toInt8.toInt32)), (.int (x1.toInt8.toInt32)), (.int (x2.toInt8.toInt32)), (.int (x3.toInt8.toInt32)), (.int (x4.toInt8.toInt32)), (.int (x5.toInt8.toInt32)), (.int (x6.toInt8.toInt32)), (.int (x7.toInt8.toInt32)), (.int (x8.toInt8.toInt32)), (.int (x9.toInt8.toInt32)), (.int (x10.toInt8.toInt32)), (.int (x11.toInt8.toInt32)), (.int (x12.toInt8.toInt32)), (.int (x13.toInt8.toInt32)), (.int (x14.toInt8.toInt32)), (.int (x15.toInt8.toInt32)), (.int (x16.toInt8.toInt32)), (.int (x17.toInt8.toInt32)), (.int (x18.toInt8.toInt32)), (.int (x19.toInt8.toInt32)), (.int (x20.toInt8.toInt32))] (.int (0 : Int32))) (ne15 : a1 ≠ a5) (ne1d : a1 ≠ d) (hs : st = (0 : Int32) ∨ st = (1 : Int32) ∧ ¬ own_ws (own_at ([x0, x1, x2, x3, x4, x5, x6, x7, x8, x9, x10, x11, x12, x13, x14, x15, x16, x17, x18, x19, x20] : List Int32) (0 : Int32)) = (0 : Int32)) (hn : own_ws (own_at ([x0, x1, x2, x3, x4, x5, x6, x7, x8, x9, x10, x11, x12, x13, x14, x15, x16, x17, x18, x19, x20] : List Int32) st) = (0 : Int32)) (h40 : ¬ own_at ([x0, x1, x2, x3, x4, x5, x6, x7, x8, x9, x10, x11, x12, x13, x14, x15, x16, x17, x18, x19, x20] : List Int32) st = (40 : Int32)) (hf : ¬ own_dg (own_at ([x0, x1, x2, x3, x4, x5, x6, x7, x8, x9, x10, x11, x12, x13, x14, x15, x16, x17, x18, x19, x20] : List Int32) st) = (0 : Int32) ∨ own_dg (own_at ([x0, x1, x2, x3, x4, x5, x6, x7, x8, x9, x10, x11, x12, x13, x14, x15, x16, x17, x18, x19, x20] : List Int32) st) = (0 : Int32) ∧ own_at ([x0, x1, x2, x3, x4, x5, x6, x7, x8, x9, x10, x11, x12, x13, x14, x15, x16, x17, x18, x19, x20] : List Int32) st = (46 : Int32) ∧ ¬ own_dg (own_ca ([x0, x1, x2, x3, x4, x5, x6, x7, x8, x9, x10, x11, x12, x13, x14, x15, x16, x17, x18, x19, x20] : List Int32) (st + (1 : Int32))) = (0 : Int32)) (hk : ∀ t : Int32, ¬ t < 0 → t < (21 : Int32) → ¬ own_at ([x0, x1, x2, x3, x4, x5, x6, x7, x8, x9, x10, x11, x12, x13, x14, x15, x16, x17, x18, x19, x20] : List Int32) t < 0 ∧ ¬ (255 : Int32) < own_at ([x0, x1, x2, x3, x4, x5, x6, x7, x8, x9, x10, x11, x12, x13, x14, x15, x16, x17, x18, x19, x20] : List Int32) t) (d1 : own_dig ([x0, x1, x2, x3, x4, x5, x6, x7, x8, x9, x10, x11, x12, x13, x14, x15, x16, x17, x18, x19, x20] : List Int32) st t1) (c1 : own_ca ([x0, x1, x2, x3, x4, x5, x6, x7, x8, x9, x10, x11, x12, x13, x14, x15, x16, x17, x18, x19, x20] : List Int32) t1 = (46 : Int32)) (d2 : own_dig ([x0, x1, x2, x3, x4, x5, x6, x7, x8, x9, x10, x11, x12, x13, x14, x15, x16, x17, x18, x19, x20] : List Int32) (t1 + (1 : Int32)) en) (c2 : ¬ own_ca ([x0, x1, x2, x3, x4, x5, x6, x7, x8, x9, x10, x11, x12, x13, x14, x15, x16, x17, x18, x19, x20] : List Int32) en = (101 : Int32)) (c3 : ¬ own_ca ([x0, x1, x2, x3, x4, x5, x6, x7, x8, x9, x10, x11, x12, x13, x14, x15, x16, x17, x18, x19, x20] : List Int32) en = (69 : Int32)) (c4 : en < (21 : Int32) → own_at ([x0, x1, x2, x3, x4, x5, x6, x7, x8, x9, x10, x11, x12, x13, x14, x15, x16, x17, x18, x19, x20] : List Int32) en < (128 : Int32) ∧ ∃ b, cT.slots[(own_at ([x0, x1, x2, x3, x4, x5, x6, x7, x8, x9, x10, x11, x12, x13, x14, x15, x16, x17, x18, x19, x20] : List Int32) en).toNatClampNeg]? = some (.int b) ∧ ¬ b = (2 : Int32)) (hx0 : ¬ (255 : Int32) < x0) (hx1 : ¬ (255 : Int32) < x1) (hx2 : ¬ (255 : Int32) < x2) (hx3 : ¬ (255 : Int32) < x3) (hx4 : ¬ (255 : Int32) < x4) (hx5 : ¬ (255 : Int32) < x5) (hx6 : ¬ (255 : Int32) < x6) (hx7 : ¬ (255 : Int32) < x7) (hx8 : ¬ (255 : Int32) < x8) (hx9 : ¬ (255 : Int32) < x9) (hx10 : ¬ (255 : Int32) < x10) (hx11 : ¬ (255 : Int32) < x11) (hx12 : ¬ (255 : Int32) < x12) (hx13 : ¬ (255 : Int32) < x13) (hx14 : ¬ (255 : Int32) < x14) (hx15 : ¬ (255 : Int32) < x15) (hx16 : ¬ (255 : Int32) < x16) (hx17 : ¬ (255 : Int32) < x17) (hx18 : ¬ (255 : Int32) < x18) (hx19 : ¬ (255 : Int32) < x19) (hx20 : ¬ (255 : Int32) < x20) (hl0 : ¬ x0 < 0) (hl1 : ¬ x1 < 0) (hl2 : ¬ x2 < 0) (hl3 : ¬ x3 < 0) (hl4 : ¬ x4 < 0) (hl5 : ¬ x5 < 0) (hl6 : ¬ x6 < 0) (hl7 : ¬ x7 < 0) (hl8 : ¬ x8 < 0) (hl9 : ¬ x9 < 0) (hl10 : ¬ x10 < 0) (hl11 : ¬ x11 < 0) (hl12 : ¬ x12 < 0) (hl13 : ¬ x13 < 0) (hl14 : ¬ x14 < 0) (hl15 : ¬ x15 < 0) (hl16 : ¬ x16 < 0) (hl17 : ¬ x17 < 0) (hl18 : ¬ x18 < 0) (hl19 : ¬ x19 < 0) (hl20 : ¬ x20 < 0) :
    own_Met l Z (⟨"com/example/libxqtype/libxqtype/ExpressionLexer", "<init>", "(Ljava/lang/String;)V"⟩ : MethodName) prog_59_method_1_code 2 none ws ({ frames := 4, cells := 1, slots := 21, locals := 96 } : Room) #[(.ref a1), (.ref a5)] h0 (fun v h L => ∃ t kt, v = none ∧ Fr n0 L ∧ Keep h0 h [a1] ∧ n0 ≤ t ∧ h0.size ≤ t ∧ Fld Z h a1 "com/example/libxqtype/libxqtype/ExpressionLexer" "chars" "[C" (.ref t) ∧ Fld Z h a1 "com/example/libxqtype/libxqtype/ExpressionLexer" "start" "I" (.int st) ∧ Fld Z h a1 "com/example/libxqtype/libxqtype/ExpressionLexer" "end" "I" (.int en) ∧ Arv Z h t kt .char (21 : Int32) (([x0, x1, x2, x3, x4, x5, x6, x7, x8, x9, x10, x11, x12, x13, x14, x15, x16, x17, x18, x19, x20] : List Int32).map Value.int) (.int (0 : Int32))) := by
  refine own_enter (plainFor_of_name own_pn4) ?_
  intro p e s m below meth c s₁ X0 hx hZ hby hml hown hnm hret hlk e0
  have N0 := Fr.nil n0
  rw [own_lxi_ef m a1 a5]
  have KK0 : Keep h0 h0 [a1] := Keep.refl _ _
  show own_Fin _ _ _ _ _ _ (s₁.setTop (mkF m 0 #[rv a1, rv a5] []))
  refine own_to (fun t k => XS.aloadN X0.here hx rfl (hb hby own_d8_0) rfl rfl k) ?_
  obtain ⟨T336, X336, e336, st336⟩ := initO X0 hx hZ hown (own_W hw 61 rfl) (own_W hw 40 rfl) (own_W hw 41 rfl) e0 (g := (mkF m 1 #[rv a1, rv a5] [(.ref a1)])) rfl (by rw [hml]; rfl) rfl (hb hby own_d8_1) (by decide) (W := 0) (by show 2 * 0 + _ ≤ _; exact Nat.le_of_eq rfl) (by decide)
  refine own_to (fun t k => st336 t k) ?_
  show own_Fin _ _ _ _ _ _ (T336.setTop (mkF m 4 #[rv a1, rv a5] []))
  refine own_to (fun t k => XS.aloadN X336.here hx rfl (hb hby own_d8_4) rfl rfl k) ?_
  refine own_to (fun t k => X336.ldcInt hx hown (mvT hZ (own_W hw 62 rfl)) (g := (mkF m 5 #[rv a1, rv a5] [(.ref a1)])) rfl (hb hby own_d8_5) _ k) ?_
  show own_Fin _ _ _ _ _ _ (T336.setTop (mkF m 7 #[rv a1, rv a5] [(.int (2147483647 : Int32)), (.ref a1)]))
  obtain ⟨T337, h337, X337, e337, W337, st337⟩ := putF X336 hx hZ hown (host := "") (Or.inl (own_W hw 63 rfl)) Via.refl e336 L7 E1 (Or.inl (own_W hw 64 rfl)) (own_W hw 27 rfl) (ty := .int) (by decide) rfl rfl (g := (mkF m 7 #[rv a1, rv a5] [(.int (2147483647 : Int32)), (.ref a1)])) rfl rfl (hb hby own_d8_7)
  have Fw337 := L7.same W337
  have N337 := Fr.snoc X337 N0 g_a1
  have O337 := O0.wr W337 g_a1
  have KK337 : Keep h0 h337 [a1] := KK0.wr W337 (Or.inl (List.mem_of_getElem? (i := 0) rfl))
  have E1_e337 := E1.wr W337
  have L0_e337 := L0.other W337 (Or.inr (slot_ne (Or.inr (own_W hw 66 rfl)) (Or.inl (own_W hw 64 rfl)) (by decide) (t := (.object "java/lang/String")) (t' := .int) (by decide) (by decide)))
  have L1_e337 := L1.other W337 (Or.inr (slot_ne (Or.inr (own_W hw 85 rfl)) (Or.inl (own_W hw 64 rfl)) (by decide) (t := (.array .char)) (t' := .int) (by decide) (by decide)))
  have L2_e337 := L2.other W337 (Or.inr (slot_ne (Or.inl (own_W hw 115 rfl)) (Or.inl (own_W hw 64 rfl)) (by decide) (t := (.object "com/example/libxqtype/libxqtype/ExpressionLexer$Kind")) (t' := .int) (by decide) (by decide)))
  have L3_e337 := L3.other W337 (Or.inr (slot_ne (Or.inl (own_W hw 99 rfl)) (Or.inl (own_W hw 64 rfl)) (by decide) (t := .int) (t' := .int) (by decide) (by decide)))
  have L4_e337 := L4.other W337 (Or.inr (slot_ne (Or.inl (own_W hw 123 rfl)) (Or.inl (own_W hw 64 rfl)) (by decide) (t := .int) (t' := .int) (by decide) (by decide)))
  have L5_e337 := L5.other W337 (Or.inr (slot_ne (Or.inl (own_W hw 91 rfl)) (Or.inl (own_W hw 64 rfl)) (by decide) (t := (.object "java/lang/String")) (t' := .int) (by decide) (by decide)))
  have L6_e337 := L6.other W337 (Or.inr (slot_ne (Or.inl (own_W hw 93 rfl)) (Or.inl (own_W hw 64 rfl)) (by decide) (t := (.object "com/example/libxqtype/libxqtype/ExpressionLexer$Keyword")) (t' := .int) (by decide) (by decide)))
  have sE1_e337 := sE1.wr W337
  have sF1_e337 := sF1.other W337 (Or.inl (Ne.symm ne15))
  have sF2_e337 := sF2.other W337 (Or.inl (Ne.symm ne15))
  have sV2_e337 := sV2.other W337 (Ne.symm ne1d)
  refine own_to (fun t k => st337 t k) ?_
  show own_Fin _ _ _ _ _ _ (T337.setTop (mkF m 10 #[rv a1, rv a5] []))
  refine own_to (fun t k => XS.aloadN X337.here hx rfl (hb hby own_d8_10) rfl rfl k) ?_
  show own_Fin _ _ _ _ _ _ (T337.setTop (mkF m 11 #[rv a1, rv a5] [(.ref a1)]))
  refine own_to (fun t k => XS.aloadN X337.here hx rfl (hb hby own_d8_11) rfl rfl k) ?_
  obtain ⟨T338, h338, X338, e338, W338, st338⟩ := putF X337 hx hZ hown (host := "") (Or.inl (own_W hw 65 rfl)) Via.refl e337 L0_e337 E1_e337 (Or.inr ⟨(own_W hw 66 rfl), rfl, hnm⟩) (own_W hw 27 rfl) (ty := (.object "java/lang/String")) (by decide) rfl rfl (g := (mkF m 12 #[rv a1, rv a5] [(.ref a5), (.ref a1)])) rfl rfl (hb hby own_d8_12)
  have Fw338 := L0_e337.same W338
  have N338 := Fr.snoc X338 N337 g_a1
  have O338 := O337.wr W338 g_a1
  have KK338 : Keep h0 h338 [a1] := KK337.wr W338 (Or.inl (List.mem_of_getElem? (i := 0) rfl))
  have E1_e338 := E1_e337.wr W338
  have L1_e338 := L1_e337.other W338 (Or.inr (slot_ne (Or.inr (own_W hw 85 rfl)) (Or.inr (own_W hw 66 rfl)) (by decide) (t := (.array .char)) (t' := (.object "java/lang/String")) (by decide) (by decide)))
  have L2_e338 := L2_e337.other W338 (Or.inr (slot_ne (Or.inl (own_W hw 115 rfl)) (Or.inr (own_W hw 66 rfl)) (by decide) (t := (.object "com/example/libxqtype/libxqtype/ExpressionLexer$Kind")) (t' := (.object "java/lang/String")) (by decide) (by decide)))
  have L3_e338 := L3_e337.other W338 (Or.inr (slot_ne (Or.inl (own_W hw 99 rfl)) (Or.inr (own_W hw 66 rfl)) (by decide) (t := .int) (t' := (.object "java/lang/String")) (by decide) (by decide)))
  have L4_e338 := L4_e337.other W338 (Or.inr (slot_ne (Or.inl (own_W hw 123 rfl)) (Or.inr (own_W hw 66 rfl)) (by decide) (t := .int) (t' := (.object "java/lang/String")) (by decide) (by decide)))
  have L5_e338 := L5_e337.other W338 (Or.inr (slot_ne (Or.inl (own_W hw 91 rfl)) (Or.inr (own_W hw 66 rfl)) (by decide) (t := (.object "java/lang/String")) (t' := (.object "java/lang/String")) (by decide) (by decide)))
  have L6_e338 := L6_e337.other W338 (Or.inr (slot_ne (Or.inl (own_W hw 93 rfl)) (Or.inr (own_W hw 66 rfl)) (by decide) (t := (.object "com/example/libxqtype/libxqtype/ExpressionLexer$Keyword")) (t' := (.object "java/lang/String")) (by decide) (by decide)))
  have Fw337_e338 := Fw337.other W338 (Or.inr (slot_ne (Or.inl (own_W hw 64 rfl)) (Or.inr (own_W hw 66 rfl)) (by decide) (t := .int) (t' := (.object "java/lang/String")) (by decide) (by decide)))
  have sE1_e338 := sE1_e337.wr W338
  have sF1_e338 := sF1_e337.other W338 (Or.inl (Ne.symm ne15))
  have sF2_e338 := sF2_e337.other W338 (Or.inl (Ne.symm ne15))
  have sV2_e338 := sV2_e337.other W338 (Ne.symm ne1d)
  refine own_to (fun t k => st338 t k) ?_
  show own_Fin _ _ _ _ _ _ (T338.setTop (mkF m 15 #[rv a1, rv a5] []))
  refine own_to (fun t k => XS.aloadN X338.here hx rfl (hb hby own_d8_15) rfl rfl k) ?_
  refine own_to (fun t k => XS.aloadN X338.here hx rfl (hb hby own_d8_16) rfl rfl k) ?_
  show own_Fin _ _ _ _ _ _ (T338.setTop (mkF m 17 #[rv a1, rv a5] [(.ref a5), (.ref a1)]))
  obtain ⟨cq339, kq339, q339a, q339b, q339c⟩ := isOf hZ e338 sE1_e338
  obtain ⟨_, _, ⟨T339, L339, k339, n339⟩, -, X339, ⟨Lc339, hQ339, l339, y339, z339⟩, st339⟩ := X338.virtualBack hx (y := (⟨"java/lang/String", "toCharArray", "()[C"⟩ : MethodName)) (z := (⟨"java/lang/String", "toCharArray", "()[C"⟩ : MethodName)) hown (mvT hZ (own_W hw 67 rfl)) (mvT hZ (own_W hw 68 rfl)) (notFace_of_selects (args := #[]) (mvT hZ (own_W hw 70 rfl))) (mvT hZ (own_W hw 70 rfl)) (mvT hZ (own_W hw 69 rfl)) (by decide) (own_back (W := 1) (own_tca l Z a0 hw [] cs a5 d k3 x0 x1 x2 x3 x4 x5 x6 x7 x8 x9 x10 x11 x12 x13 x14 x15 x16 x17 x18 x19 x20 h338 n0 (Nat.le_trans (Nat.le_trans Z0 (Keep.of_wr W337).1) (Keep.of_wr W338).1) O338 SS hcs sE1_e338 sF1_e338 sF2_e338 sV2_e338 hx0 hx1 hx2 hx3 hx4 hx5 hx6 hx7 hx8 hx9 hx10 hx11 hx12 hx13 hx14 hx15 hx16 hx17 hx18 hx19 hx20 hl0 hl1 hl2 hl3 hl4 hl5 hl6 hl7 hl8 hl9 hl10 hl11 hl12 hl13 hl14 hl15 hl16 hl17 hl18 hl19 hl20) hZ (own_W hw 71 rfl) (own_W hw 31 rfl) (by decide) (by decide)) q339a q339c (g := (mkF m 17 #[rv a1, rv a5] [(.ref a5), (.ref a1)])) rfl (by rw [hml]; rfl) (Steps.refl _) (argsL := []) (rest := [(.ref a1)]) (lenOf own_pd12 rfl) rfl (by show 2 * 0 + _ ≤ _; exact Nat.le_of_eq rfl) (hb hby own_d8_17) (fun _ _ => ⟨rfl, e338, (by decide : 0 + 1 ≤ _), (by decide : 0 + 21 ≤ _)⟩)
  dsimp only [Pt.U, Pt.locs, Pt.cells, Pt.slots] at X339 l339 y339 z339 st339 hQ339
  rw [l339, y339, z339] at X339
  obtain ⟨t, kt, rfl, N339q, K339, g_t, szt, V_t, E_t⟩ := hQ339
  have N339 := Fr.app N338 N339q
  have ne_a1_t : a1 ≠ t := Nat.ne_of_lt (Nat.lt_of_lt_of_le E1_e338.lt szt)
  have ne_a5_t : a5 ≠ t := Nat.ne_of_lt (Nat.lt_of_lt_of_le sE1_e338.lt szt)
  have ne_d_t : d ≠ t := Nat.ne_of_lt (Nat.lt_of_lt_of_le sV2_e338.lt szt)
  have sz_t : h0.size ≤ t := Nat.le_trans KK338.1 szt
  have O339 := O338.keep K339 all0
  have KK339 : Keep h0 T339.heap [a1] := KK338.trans K339 all0
  have E1_e339 := E1_e338.keep K339
  have Fw338_e339 := Fw338.keep K339 nin0
  have L1_e339 := L1_e338.keep K339 nin0
  have L2_e339 := L2_e338.keep K339 nin0
  have L3_e339 := L3_e338.keep K339 nin0
  have L4_e339 := L4_e338.keep K339 nin0
  have L5_e339 := L5_e338.keep K339 nin0
  have L6_e339 := L6_e338.keep K339 nin0
  have Fw337_e339 := Fw337_e338.keep K339 nin0
  have sE1_e339 := sE1_e338.keep K339
  have sF1_e339 := sF1_e338.keep K339 nin0
  have sF2_e339 := sF2_e338.keep K339 nin0
  have sV2_e339 := sV2_e338.keep K339 nin0
  refine own_to (fun t k => st339.trans k) ?_
  show own_Fin _ _ _ _ _ _ (T339.setTop (mkF m 20 #[rv a1, rv a5] [(.ref t), (.ref a1)]))
  obtain ⟨T340, h340, X340, e340, W340, st340⟩ := putF X339 hx hZ hown (host := "") (Or.inl (own_W hw 84 rfl)) Via.refl rfl L1_e339 E1_e339 (Or.inr ⟨(own_W hw 85 rfl), rfl, hnm⟩) (own_W hw 27 rfl) (ty := (.array .char)) (by decide) rfl rfl (g := (mkF m 20 #[rv a1, rv a5] [(.ref t), (.ref a1)])) rfl rfl (hb hby own_d8_20)
  have Fw340 := L1_e339.same W340
  have N340 := Fr.snoc X340 N339 g_a1
  have O340 := O339.wr W340 g_a1
  have KK340 : Keep h0 h340 [a1] := KK339.wr W340 (Or.inl (List.mem_of_getElem? (i := 0) rfl))
  have E1_e340 := E1_e339.wr W340
  have Fw338_e340 := Fw338_e339.other W340 (Or.inr (slot_ne (Or.inr (own_W hw 66 rfl)) (Or.inr (own_W hw 85 rfl)) (by decide) (t := (.object "java/lang/String")) (t' := (.array .char)) (by decide) (by decide)))
  have L2_e340 := L2_e339.other W340 (Or.inr (slot_ne (Or.inl (own_W hw 115 rfl)) (Or.inr (own_W hw 85 rfl)) (by decide) (t := (.object "com/example/libxqtype/libxqtype/ExpressionLexer$Kind")) (t' := (.array .char)) (by decide) (by decide)))
  have L3_e340 := L3_e339.other W340 (Or.inr (slot_ne (Or.inl (own_W hw 99 rfl)) (Or.inr (own_W hw 85 rfl)) (by decide) (t := .int) (t' := (.array .char)) (by decide) (by decide)))
  have L4_e340 := L4_e339.other W340 (Or.inr (slot_ne (Or.inl (own_W hw 123 rfl)) (Or.inr (own_W hw 85 rfl)) (by decide) (t := .int) (t' := (.array .char)) (by decide) (by decide)))
  have L5_e340 := L5_e339.other W340 (Or.inr (slot_ne (Or.inl (own_W hw 91 rfl)) (Or.inr (own_W hw 85 rfl)) (by decide) (t := (.object "java/lang/String")) (t' := (.array .char)) (by decide) (by decide)))
  have L6_e340 := L6_e339.other W340 (Or.inr (slot_ne (Or.inl (own_W hw 93 rfl)) (Or.inr (own_W hw 85 rfl)) (by decide) (t := (.object "com/example/libxqtype/libxqtype/ExpressionLexer$Keyword")) (t' := (.array .char)) (by decide) (by decide)))
  have Fw337_e340 := Fw337_e339.other W340 (Or.inr (slot_ne (Or.inl (own_W hw 64 rfl)) (Or.inr (own_W hw 85 rfl)) (by decide) (t := .int) (t' := (.array .char)) (by decide) (by decide)))
  have sE1_e340 := sE1_e339.wr W340
  have sF1_e340 := sF1_e339.other W340 (Or.inl (Ne.symm ne15))
  have sF2_e340 := sF2_e339.other W340 (Or.inl (Ne.symm ne15))
  have sV2_e340 := sV2_e339.other W340 (Ne.symm ne1d)
  have V_t_e340 := V_t.other W340 (Ne.symm ne_a1_t)
  have E_t_e340 := E_t.wr W340
  have zs341 := (Nat.le_trans (Nat.le_trans (Nat.le_trans Z0 (Keep.of_wr W337).1) (Keep.of_wr W338).1) K339.1)
  refine own_to (fun t k => st340 t k) ?_
  show own_Fin _ _ _ _ _ _ (T340.setTop (mkF m 23 #[rv a1, rv a5] []))
  refine own_to (fun t k => XS.aloadN X340.here hx rfl (hb hby own_d8_23) rfl rfl k) ?_
  refine own_to (fun t k => XS.iconst X340.here hx rfl (hb hby own_d8_24) k) ?_
  have Vm342 : Arv Z h340 t kt .char (21 : Int32) (([x0, x1, x2, x3, x4, x5, x6, x7, x8, x9, x10, x11, x12, x13, x14, x15, x16, x17, x18, x19, x20] : List Int32).map Value.int) (.int (0 : Int32)) := V_t_e340
  obtain ⟨cq343, cqa343, cqb343⟩ := E1_e340.cell
  obtain ⟨_, _, ⟨T343, L343, k343, n343⟩, -, X343, ⟨Lc343, hQ343, l343, y343, z343⟩, st343⟩ := X340.privateBack hx (y := (⟨"com/example/libxqtype/libxqtype/ExpressionLexer", "scan", "(I)V"⟩ : MethodName)) hown (mvT hZ (own_W hw 86 rfl)) (mvT hZ (own_W hw 87 rfl)) (own_selP (y' := (⟨"com/example/libxqtype/libxqtype/ExpressionLexer", "unscaledValue", "()J"⟩ : MethodName)) (mvT hZ (own_W hw 136 rfl)) rfl (Cond.privateMethod_at (mvP hZ (own_W hw 88 rfl) (args := #[]))) (mvT hZ (own_W hw 87 rfl)) (by decide)) (Cond.privateMethod_at (mvP hZ (own_W hw 88 rfl) (args := #[]))) (mvT hZ (own_W hw 89 rfl)) (by decide) (own_back (W := 0) (own_scan l Z a0 hw [] wI wD wT cT a1 t kt ([x0, x1, x2, x3, x4, x5, x6, x7, x8, x9, x10, x11, x12, x13, x14, x15, x16, x17, x18, x19, x20] : List Int32) st t1 en h340 n0 (Nat.le_trans zs341 (Keep.of_wr W340).1) SI SD O340 ST AT hT E1_e340 Fw340 Vm342 L2_e340 L3_e340 L4_e340 L5_e340 L6_e340 g_a1 ne_a1_t hs hn h40 hf hk d1 c1 d2 c2 c3 c4) hZ (own_W hw 89 rfl) (own_W hw 28 rfl) (by decide) (by decide)) (g := (mkF m 25 #[rv a1, rv a5] [(.int (0 : Int32)), (.ref a1)])) rfl (by rw [hml]; rfl) (Steps.refl _) (a := a1) (by rw [e340]; exact cqa343) cqb343 (argsL := [(.int (0 : Int32))]) (rest := []) (lenOf own_pd13 rfl) rfl (by show 2 * 0 + _ ≤ _; exact Nat.le_of_eq rfl) (hb hby own_d8_25) (fun _ _ => ⟨rfl, e340, (by decide : 1 + 0 ≤ _), (by decide : 21 + 0 ≤ _)⟩)
  dsimp only [Pt.U, Pt.locs, Pt.cells, Pt.slots] at X343 l343 y343 z343 st343 hQ343
  rw [l343, y343, z343] at X343
  obtain ⟨rfl, N343q, K343, Fc1, Fs1, Fe1⟩ := hQ343
  have N343 := Fr.app N340 N343q
  have O343 := O340.keep K343 (allS g_a1 all0)
  have KK343 : Keep h0 T343.heap [a1] := KK340.trans K343 (allS (Or.inl (List.mem_of_getElem? (i := 0) rfl)) all0)
  have E1_e343 := E1_e340.keep K343
  have sE1_e343 := sE1_e340.keep K343
  have sF1_e343 := sF1_e340.keep K343 (ninS (Ne.symm ne15) nin0)
  have sF2_e343 := sF2_e340.keep K343 (ninS (Ne.symm ne15) nin0)
  have sV2_e343 := sV2_e340.keep K343 (ninS (Ne.symm ne1d) nin0)
  have Vm342_e343 := Vm342.keep K343 (ninS (Ne.symm ne_a1_t) nin0)
  have E_t_e343 := E_t_e340.keep K343
  refine own_to (fun t k => st343.trans k) ?_
  show own_Fin _ _ _ _ _ _ (T343.setTop (mkF m 28 #[rv a1, rv a5] []))
  refine own_retV X343 hx hlk hret (hb hby own_d8_28) (by decide) (by decide) ?_
  exact ⟨t, kt, rfl, N343, KK343, g_t, sz_t, Fc1, Fs1, Fe1, Vm342_e343⟩
def own_us (xs : List Int32) : Nat → Int32 → Int64 → Int32 → Int64
  | 0, _, v, d => if (18 : Int32) < d then (-1 : Int64) else v
  | r + 1, j, v, d => if own_at xs j = (46 : Int32) then own_us xs r (j + (1 : Int32)) v d else if v * (10 : Int64) + (own_at xs j - (48 : Int32)).toInt64 = (0 : Int64) then own_us xs r (j + (1 : Int32)) (v * (10 : Int64) + (own_at xs j - (48 : Int32)).toInt64) (d + (0 : Int32)) else own_us xs r (j + (1 : Int32)) (v * (10 : Int64) + (own_at xs j - (48 : Int32)).toInt64) (d + (1 : Int32))
theorem own_rem32 {x y : Int32} (hx : 0 ≤ x.toInt) (hy : 0 < y.toInt) : (x - ((x / y) * y)).toInt = x.toInt % y.toInt := by
  have e1 : (x / y).toInt = x.toInt / y.toInt := by rw [Jvm.Kit.i32_div (by omega), Int.tdiv_eq_ediv_of_nonneg hx]
  have hd : x.toInt % y.toInt = x.toInt - y.toInt * (x.toInt / y.toInt) := Int.emod_def _ _
  have m0 := Int.emod_nonneg x.toInt (show y.toInt ≠ 0 by omega)
  have m1 := Int.emod_lt_of_pos x.toInt hy
  have q0 : 0 ≤ y.toInt * (x.toInt / y.toInt) := Int.mul_nonneg (by omega) (Int.ediv_nonneg hx (by omega))
  have b := x.toInt_lt
  rw [Int.mul_comm] at hd q0
  have e2 : ((x / y) * y).toInt = x.toInt / y.toInt * y.toInt := by
    rw [Jvm.Kit.i32_mul (by rw [e1]; omega) (by rw [e1]; omega), e1]
  rw [Jvm.Kit.i32_sub (by rw [e2]; omega) (by rw [e2]; omega), e2]; omega
def own_P : List Int64 := [(1 : Int64), (10 : Int64), (100 : Int64), (1000 : Int64), (10000 : Int64), (100000 : Int64), (1000000 : Int64), (10000000 : Int64), (100000000 : Int64), (1000000000 : Int64), (10000000000 : Int64), (100000000000 : Int64), (1000000000000 : Int64), (10000000000000 : Int64), (100000000000000 : Int64), (1000000000000000 : Int64), (10000000000000000 : Int64), (100000000000000000 : Int64), (1000000000000000000 : Int64)]
def own_pw (j : Int32) : Int64 := own_P.getD j.toNatClampNeg 0
theorem own_getp (j : Nat) : (own_P.map Value.long).getD j (.long (0 : Int64)) = .long (own_P.getD j 0) := by
  simp only [List.getD_eq_getElem?_getD, List.getElem?_map]
  cases own_P[j]? <;> rfl
theorem own_Pv : ∀ t, t < 19 → (own_P.getD t 0).toInt = ((10 ^ t : Nat) : Int) := by decide +kernel
theorem own_pwv {j : Int32} {J : Nat} (h : j.toInt = J) (h1 : J ≤ 18) : (own_pw j).toInt = ((10 ^ J : Nat) : Int) := by
  have e : j.toNatClampNeg = J := by simp only [Int32.toNatClampNeg, h]; rfl
  show (own_P.getD j.toNatClampNeg 0).toInt = _
  rw [e]; exact own_Pv J (by omega)
theorem own_pos (J : Nat) : 0 < 10 ^ J := Nat.pow_pos (by decide)
theorem own_pwz {j : Int32} {J : Nat} (h : j.toInt = J) (h1 : J ≤ 18) : ¬ own_pw j = 0 := fun q => by
  have e := own_pwv h h1
  rw [q, Int64.toInt_zero] at e
  have := own_pos J; omega
def own_dgt (w : Int64) (j : Int32) : Int32 := (48 : Int32) + ((w / own_pw j) - (((w / own_pw j) / (10 : Int64)) * (10 : Int64))).toInt32
theorem own_dgtv {w : Int64} {j : Int32} {J W : Nat} (hw : w.toInt = W) (h : j.toInt = J) (h1 : J ≤ 18) : (own_dgt w j).toInt = ((48 + W / 10 ^ J % 10 : Nat) : Int) := by
  have e := own_pwv h h1
  have hp := own_pos J
  have e1 : (w / own_pw j).toInt = ((W / 10 ^ J : Nat) : Int) := by
    rw [Jvm.Kit.i64_div (by rw [e, hw]; omega), e, hw, Int.tdiv_eq_ediv_of_nonneg (by omega)]; rfl
  have e2 : ((w / own_pw j) - (((w / own_pw j) / (10 : Int64)) * (10 : Int64))).toInt = ((W / 10 ^ J % 10 : Nat) : Int) := by
    rw [Jvm.Kit.i64_rem_nonneg (by rw [e1]; exact Int.natCast_nonneg _), e1, show (10 : Int64).toInt = 10 from by decide]; rfl
  have hm := Nat.mod_lt (W / 10 ^ J) (show 0 < 10 by decide)
  have e3 : ((w / own_pw j) - (((w / own_pw j) / (10 : Int64)) * (10 : Int64))).toInt32.toInt = ((W / 10 ^ J % 10 : Nat) : Int) := by
    rw [Jvm.Kit.i32_of_i64 (by rw [e2]; omega) (by rw [e2]; omega), e2]
  show ((48 : Int32) + _).toInt = _
  rw [Jvm.Kit.i32_add (by rw [e3, show (48 : Int32).toInt = 48 from by decide]; omega) (by rw [e3, show (48 : Int32).toInt = 48 from by decide]; omega), e3, show (48 : Int32).toInt = 48 from by decide]; omega
theorem own_b8 {x : Int32} {A : Nat} (h : x.toInt = A) (h1 : A ≤ 255) : ¬ x < 0 ∧ ¬ (255 : Int32) < x := by
  rw [own_lt32, own_lt32, show (0 : Int32).toInt = 0 from rfl, show (255 : Int32).toInt = 255 from by decide, h]; omega
theorem own_c2 {x : Int32} (h0 : ¬ x < 0) (h1 : ¬ (255 : Int32) < x) : nar .char (x.toUInt32.toUInt16.toUInt32.toInt32) = x := by
  have e : x.toUInt32.toUInt16.toUInt32.toInt32 = x := own_nb h0 h1
  rw [e]; exact own_nb h0 h1
def own_ch (i s n p : Int32) (w : Int64) : Int32 := if (i - s) < (0 : Int32) then (32 : Int32) else if n < (i - s) then (32 : Int32) else if (i - s) = p then (46 : Int32) else if (i - s) < p then own_dgt w ((n - (1 : Int32)) - (i - s)) else own_dgt w ((n - (1 : Int32)) - ((i - s) - (1 : Int32)))
def own_ok (s n p : Int32) (w : Int64) (S N P W : Nat) : Prop := s.toInt = S ∧ n.toInt = N ∧ p.toInt = P ∧ w.toInt = W ∧ S ≤ 1 ∧ 1 ≤ N ∧ N ≤ 19 ∧ P ≤ N ∧ W < 10 ^ N
section
variable {s n p : Int32} {w : Int64} {S N P W : Nat}
theorem own_k (H : own_ok s n p w S N P W) {i : Int32} {I : Nat} (hi : i.toInt = I) (h : I ≤ 20) : (i - s).toInt = (I : Int) - S := by
  obtain ⟨hs, hn, hp, hw, h1, h2, h3, h4, h5⟩ := H
  rw [Jvm.Kit.i32_sub (by rw [hi, hs]; omega) (by rw [hi, hs]; omega), hi, hs]
theorem own_n1 (H : own_ok s n p w S N P W) : (n - (1 : Int32)).toInt = (N : Int) - 1 := by
  obtain ⟨hs, hn, hp, hw, h1, h2, h3, h4, h5⟩ := H
  have e : (1 : Int32).toInt = 1 := rfl
  rw [Jvm.Kit.i32_sub (by rw [hn, e]; omega) (by rw [hn, e]; omega), hn, e]
/-- the index where k < p -/
theorem own_ia (H : own_ok s n p w S N P W) {i : Int32} {I : Nat} (hi : i.toInt = I) (h : I ≤ 20) (h0 : ¬ (i - s) < (0 : Int32)) (h1 : ¬ n < (i - s)) (h2 : ¬ (i - s) = p) (h3 : (i - s) < p) : S ≤ I ∧ I - S < P ∧ ((n - (1 : Int32)) - (i - s)).toInt = ((N - 1 - (I - S) : Nat) : Int) := by
  have ek := own_k H hi h; have en := own_n1 H
  obtain ⟨hs, hn, hp, hw, g1, g2, g3, g4, g5⟩ := H
  rw [own_lt32, ek, show (0 : Int32).toInt = 0 from rfl] at h0
  rw [own_lt32, ek, hp] at h3
  refine ⟨by omega, by omega, ?_⟩
  rw [Jvm.Kit.i32_sub (by rw [en, ek]; omega) (by rw [en, ek]; omega), en, ek]; omega
theorem own_ib (H : own_ok s n p w S N P W) {i : Int32} {I : Nat} (hi : i.toInt = I) (h : I ≤ 20) (h0 : ¬ (i - s) < (0 : Int32)) (h1 : ¬ n < (i - s)) (h2 : ¬ (i - s) = p) (h3 : ¬ (i - s) < p) : S ≤ I ∧ P < I - S ∧ I - S ≤ N ∧ ((n - (1 : Int32)) - ((i - s) - (1 : Int32))).toInt = ((N - (I - S) : Nat) : Int) := by
  have ek := own_k H hi h; have en := own_n1 H
  obtain ⟨hs, hn, hp, hw, g1, g2, g3, g4, g5⟩ := H
  rw [own_lt32, ek, show (0 : Int32).toInt = 0 from rfl] at h0
  rw [own_lt32, ek, hn] at h1
  rw [← Int32.toInt_inj, ek, hp] at h2
  rw [own_lt32, ek, hp] at h3
  have e1 : (1 : Int32).toInt = 1 := rfl
  have e2 : ((i - s) - (1 : Int32)).toInt = (I : Int) - S - 1 := by rw [Jvm.Kit.i32_sub (by rw [ek, e1]; omega) (by rw [ek, e1]; omega), ek, e1]
  refine ⟨by omega, by omega, by omega, ?_⟩
  rw [Jvm.Kit.i32_sub (by rw [en, e2]; omega) (by rw [en, e2]; omega), en, e2]; omega
theorem own_chS (H : own_ok s n p w S N P W) {i : Int32} {I : Nat} (hi : i.toInt = I) (h : I ≤ 20) (q : I < S ∨ N < I - S) : own_ch i s n p w = 32 := by
  have ek := own_k H hi h
  obtain ⟨hs, hn, hp, hw, g1, g2, g3, g4, g5⟩ := H
  unfold own_ch
  by_cases h0 : (i - s) < (0 : Int32)
  · rw [if_pos h0]
  rw [if_neg h0, if_pos]
  rw [own_lt32, ek, show (0 : Int32).toInt = 0 from rfl] at h0
  rw [own_lt32, ek, hn]; omega
theorem own_chP (H : own_ok s n p w S N P W) {i : Int32} {I : Nat} (hi : i.toInt = I) (h : I ≤ 20) (q : I = S + P) : own_ch i s n p w = 46 := by
  have ek := own_k H hi h
  obtain ⟨hs, hn, hp, hw, g1, g2, g3, g4, g5⟩ := H
  unfold own_ch
  rw [if_neg (by rw [own_lt32, ek, show (0 : Int32).toInt = 0 from rfl]; omega), if_neg (by rw [own_lt32, ek, hn]; omega), if_pos (by rw [← Int32.toInt_inj, ek, hp]; omega)]
/-- the digit at I, where c digits stand before it -/
theorem own_chD (H : own_ok s n p w S N P W) {i : Int32} {I c : Nat} (hi : i.toInt = I) (h : I ≤ 20) (q : I = S + c ∧ c < P ∨ I = S + c + 1 ∧ P ≤ c ∧ c < N) : (own_ch i s n p w).toInt = ((48 + W / 10 ^ (N - 1 - c) % 10 : Nat) : Int) := by
  have ek := own_k H hi h
  have HH := H
  obtain ⟨hs, hn, hp, hw, g1, g2, g3, g4, g5⟩ := H
  have h0 : ¬ (i - s) < (0 : Int32) := by rw [own_lt32, ek, show (0 : Int32).toInt = 0 from rfl]; omega
  have h1 : ¬ n < (i - s) := by rw [own_lt32, ek, hn]; omega
  have h2 : ¬ (i - s) = p := by rw [← Int32.toInt_inj, ek, hp]; omega
  unfold own_ch
  rw [if_neg h0, if_neg h1, if_neg h2]
  by_cases h3 : (i - s) < p
  · obtain ⟨a1, a2, a3⟩ := own_ia HH hi h h0 h1 h2 h3
    rw [if_pos h3, own_dgtv hw a3 (by omega), show N - 1 - (I - S) = N - 1 - c by omega]
  · obtain ⟨a1, a2, a3, a4⟩ := own_ib HH hi h h0 h1 h2 h3
    rw [if_neg h3, own_dgtv hw a4 (by omega), show N - (I - S) = N - 1 - c by omega]
theorem own_chB (H : own_ok s n p w S N P W) {i : Int32} {I : Nat} (hi : i.toInt = I) (h : I ≤ 20) : ¬ own_ch i s n p w < 0 ∧ ¬ (255 : Int32) < own_ch i s n p w := by
  by_cases q1 : I < S ∨ N < I - S
  · rw [own_chS H hi h q1]; decide
  by_cases q2 : I = S + P
  · rw [own_chP H hi h q2]; decide
  by_cases q3 : I < S + P
  · have e := own_chD H (c := I - S) hi h (Or.inl ⟨by omega, by omega⟩)
    exact own_b8 e (by have := Nat.mod_lt (W / 10 ^ (N - 1 - (I - S))) (show 0 < 10 by decide); omega)
  · have e := own_chD H (c := I - S - 1) hi h (Or.inr ⟨by omega, by omega, by omega⟩)
    exact own_b8 e (by have := Nat.mod_lt (W / 10 ^ (N - 1 - (I - S - 1))) (show 0 < 10 by decide); omega)
def own_idx : List Int32 := [0, 1, 2, 3, 4, 5, 6, 7, 8, 9, 10, 11, 12, 13, 14, 15, 16, 17, 18, 19, 20]
def own_xs (s n p : Int32) (w : Int64) : List Int32 := own_idx.map fun i => own_ch i s n p w
theorem own_idv : ∀ t, t < 21 → own_idx[t]? = some (Int32.ofNat t) := by decide +kernel
theorem own_ofn : ∀ t, t < 22 → (Int32.ofNat t).toInt = (t : Int) := by decide +kernel
theorem own_eqn {i : Int32} {I : Nat} (hi : i.toInt = I) (h : I < 22) : i = Int32.ofNat I := Int32.toInt_inj.mp (hi.trans (own_ofn I h).symm)
theorem own_xat {i : Int32} {I : Nat} (hi : i.toInt = I) (h : I ≤ 20) : own_at (own_xs s n p w) i = own_ch i s n p w := by
  have e : i.toNatClampNeg = I := by simp only [Int32.toNatClampNeg, hi]; rfl
  unfold own_at own_xs
  rw [e, List.getD_eq_getElem?_getD, List.getElem?_map, own_idv I (by omega), own_eqn hi (by omega)]; rfl
theorem own_usv (H : own_ok s n p w S N P W) : ∀ (r : Nat) (j : Int32) (J c : Nat) (v : Int64) (d : Int32) (D : Nat), j.toInt = J → J + r = S + N + 1 → (J = S + c ∧ c ≤ P ∨ J = S + c + 1 ∧ P ≤ c) → v.toInt = ((W / 10 ^ (N - c) : Nat) : Int) → d.toInt = D → D ≤ c → (W / 10 ^ (N - 1) = 0 → c = 0 ∨ D + 1 ≤ c) → (W / 10 ^ (N - 1) ≠ 0 → D = c) → own_us (own_xs s n p w) r j v d = if w < (1000000000000000000 : Int64) then w else (-1 : Int64) := by
  have HH := H
  obtain ⟨hs, hn, hp, hw, g1, g2, g3, g4, g5⟩ := H
  have hW63 : W < 2 ^ 63 := by have := w.toInt_lt; omega
  intro r
  induction r with
  | zero =>
    intro j J c v d D hj hr hc hv hd h1 h2 h3
    have ec : c = N := by omega
    subst ec
    have ev : v = w := Int64.toInt_inj.mp (by rw [hv, hw, Nat.sub_self, Nat.pow_zero, Nat.div_one])
    show (if (18 : Int32) < d then (-1 : Int64) else v) = _
    have el : (w < (1000000000000000000 : Int64)) = (W < 10 ^ 18) := by
      rw [show (w < (1000000000000000000 : Int64)) = (w.toInt < (1000000000000000000 : Int64).toInt) from propext Int64.lt_iff_toInt_lt, hw, show (1000000000000000000 : Int64).toInt = 1000000000000000000 from by decide]
      apply propext; omega
    have ed : ((18 : Int32) < d) = (18 < D) := by
      rw [own_lt32, hd, show (18 : Int32).toInt = 18 from by decide]
      apply propext; omega
    by_cases q : 18 < D
    · rw [if_pos (by rw [ed]; exact q), if_neg]
      rw [el]
      have e19 : c = 19 := by omega
      subst e19
      intro q2
      have z : W / 10 ^ (19 - 1) = 0 := Nat.div_eq_of_lt q2
      have := h2 z; omega
    · rw [if_neg (by rw [ed]; exact q), ev, if_pos]
      rw [el]
      by_cases e18 : c ≤ 18
      · exact Nat.lt_of_lt_of_le g5 (Nat.pow_le_pow_right (by decide) e18)
      · have e19 : c = 19 := by omega
        subst e19
        by_cases z : W / 10 ^ (19 - 1) = 0
        · exact (Nat.div_eq_zero_iff.mp z).resolve_left (by decide)
        · have := h3 z; omega
  | succ r ih =>
    intro j J c v d D hj hr hc hv hd h1 h2 h3
    have hJ : J ≤ 20 := by omega
    have ej : (j + (1 : Int32)).toInt = ((J + 1 : Nat) : Int) := by
      rw [Jvm.Kit.i32_add (by rw [hj, show (1 : Int32).toInt = 1 from rfl]; omega) (by rw [hj, show (1 : Int32).toInt = 1 from rfl]; omega), hj]; rfl
    have ea := own_xat (s := s) (n := n) (p := p) (w := w) hj hJ
    show (if own_at (own_xs s n p w) j = (46 : Int32) then own_us (own_xs s n p w) r (j + (1 : Int32)) v d else _) = _
    by_cases hP : J = S + P
    · rw [if_pos (by rw [ea]; exact own_chP HH hj hJ hP)]
      exact ih _ (J + 1) c v d D ej (by omega) (by omega) hv hd h1 h2 h3
    · have hD := own_chD HH (c := c) hj hJ (by omega)
      rw [← ea] at hD
      have hm := Nat.mod_lt (W / 10 ^ (N - 1 - c)) (show 0 < 10 by decide)
      rw [if_neg (by rw [← Int32.toInt_inj, hD, show (46 : Int32).toInt = 46 from by decide]; omega)]
      have hsplit : W / 10 ^ (N - c) * 10 + W / 10 ^ (N - 1 - c) % 10 = W / 10 ^ (N - 1 - c) := by
        have e1 : 10 ^ (N - c) = 10 ^ (N - 1 - c) * 10 := by rw [show N - c = (N - 1 - c) + 1 by omega, Nat.pow_succ]
        rw [e1, ← Nat.div_div_eq_div_mul]; omega
      have hQ : W / 10 ^ (N - 1 - c) ≤ W := Nat.div_le_self _ _
      have e48 : (48 : Int32).toInt = 48 := by decide
      have e10 : (10 : Int64).toInt = 10 := by decide
      have es : (own_at (own_xs s n p w) j - (48 : Int32)).toInt64.toInt = ((W / 10 ^ (N - 1 - c) % 10 : Nat) : Int) := by
        rw [Jvm.Kit.i64_of_i32, Jvm.Kit.i32_sub (by rw [hD, e48]; omega) (by rw [hD, e48]; omega), hD, e48]; omega
      have em : (v * (10 : Int64)).toInt = ((W / 10 ^ (N - c) : Nat) : Int) * 10 := by
        rw [Jvm.Kit.i64_mul (by rw [hv, e10]; omega) (by rw [hv, e10]; omega), hv, e10]
      have ev : (v * (10 : Int64) + (own_at (own_xs s n p w) j - (48 : Int32)).toInt64).toInt = ((W / 10 ^ (N - 1 - c) : Nat) : Int) := by
        rw [Jvm.Kit.i64_add (by rw [em, es]; omega) (by rw [em, es]; omega), em, es]; omega
      have ez : (v * (10 : Int64) + (own_at (own_xs s n p w) j - (48 : Int32)).toInt64 = (0 : Int64)) = (W / 10 ^ (N - 1 - c) = 0) := by
        rw [← Int64.toInt_inj, ev, Int64.toInt_zero]; apply propext; omega
      have hmono : W / 10 ^ (N - 1) ≤ W / 10 ^ (N - 1 - c) := Nat.div_le_div_left (Nat.pow_le_pow_right (by decide) (by omega)) (own_pos _)
      have ev2 : (v * (10 : Int64) + (own_at (own_xs s n p w) j - (48 : Int32)).toInt64).toInt = ((W / 10 ^ (N - (c + 1)) : Nat) : Int) := by rw [ev, show N - (c + 1) = N - 1 - c by omega]
      by_cases z : W / 10 ^ (N - 1 - c) = 0
      · have hz1 : W / 10 ^ (N - 1) = 0 := Nat.le_zero.mp (z ▸ hmono)
        rw [if_pos (by rw [ez]; exact z)]
        refine ih _ (J + 1) (c + 1) _ _ D ej (by omega) (by omega) ev2 ?_ (by omega) (fun _ => Or.inr ?_) (fun q => absurd hz1 q)
        · rw [Jvm.Kit.i32_add (by rw [hd, show (0 : Int32).toInt = 0 from rfl]; omega) (by rw [hd, show (0 : Int32).toInt = 0 from rfl]; omega), hd, show (0 : Int32).toInt = 0 from rfl]; omega
        · rcases h2 hz1 with q | q <;> omega
      · rw [if_neg (by rw [ez]; exact z)]
        refine ih _ (J + 1) (c + 1) _ _ (D + 1) ej (by omega) (by omega) ev2 ?_ (by omega) (fun q => Or.inr ?_) (fun q => by have := h3 q; omega)
        · rw [Jvm.Kit.i32_add (by rw [hd, show (1 : Int32).toInt = 1 from rfl]; omega) (by rw [hd, show (1 : Int32).toInt = 1 from rfl]; omega), hd, show (1 : Int32).toInt = 1 from rfl]; rfl
        · rcases h2 q with u | u
          · subst u; exact absurd q z
          · omega
theorem own_wsN {x : Int32} (h : 32 < x.toInt) : own_ws x = 0 := by
  have f : ∀ y : Int32, y.toInt ≤ 32 → ¬ x = y := fun y hy q => by rw [q] at h; omega
  unfold own_ws
  rw [if_neg (f _ (by decide)), if_neg (f _ (by decide)), if_neg (f _ (by decide)), if_neg (f _ (by decide))]
theorem own_dgY {x : Int32} (h0 : ¬ x < (48 : Int32)) (h1 : ¬ (57 : Int32) < x) : ¬ own_dg x = 0 := by
  unfold own_dg
  rw [if_neg h0, if_neg h1]; decide
theorem own_dgr' {x : Int32} {D : Nat} (h : x.toInt = ((48 + D % 10 : Nat) : Int)) : ¬ x < (48 : Int32) ∧ ¬ (57 : Int32) < x := by
  rw [own_lt32, own_lt32, show (48 : Int32).toInt = 48 from by decide, show (57 : Int32).toInt = 57 from by decide, h]
  have := Nat.mod_lt D (show 0 < 10 by decide); omega
theorem own_nz {x : Int32} (h : ¬ x < 0) : ∃ I : Nat, x.toInt = I := by
  rw [own_lt32, show (0 : Int32).toInt = 0 from rfl] at h
  exact ⟨x.toInt.toNat, by omega⟩
theorem own_lt21 {x : Int32} {I : Nat} (h : x.toInt = I) : (x < (21 : Int32)) = (I < 21) := by
  rw [own_lt32, h, show (21 : Int32).toInt = 21 from by decide]; apply propext; omega
theorem own_cav {xs : List Int32} {j : Int32} {J : Nat} (h : j.toInt = J) (h1 : J ≤ 20) : own_ca xs j = own_at xs j := if_pos (by rw [own_lt21 h]; omega)
theorem own_pl (H : own_ok s n p w S N P W) : (s = (0 : Int32) ∨ s = (1 : Int32) ∧ ¬ own_ws (own_at (own_xs s n p w) (0 : Int32)) = (0 : Int32)) ∧ own_ws (own_at (own_xs s n p w) s) = (0 : Int32) ∧ ¬ own_at (own_xs s n p w) s = (40 : Int32) ∧ (¬ own_dg (own_at (own_xs s n p w) s) = (0 : Int32) ∨ own_dg (own_at (own_xs s n p w) s) = (0 : Int32) ∧ own_at (own_xs s n p w) s = (46 : Int32) ∧ ¬ own_dg (own_ca (own_xs s n p w) (s + (1 : Int32))) = (0 : Int32)) ∧ (∀ t : Int32, ¬ t < 0 → t < (21 : Int32) → ¬ own_at (own_xs s n p w) t < 0 ∧ ¬ (255 : Int32) < own_at (own_xs s n p w) t) ∧ own_dig (own_xs s n p w) s (s + p) ∧ own_ca (own_xs s n p w) (s + p) = (46 : Int32) ∧ own_dig (own_xs s n p w) (s + p + (1 : Int32)) (s + n + (1 : Int32)) ∧ ¬ own_ca (own_xs s n p w) (s + n + (1 : Int32)) = (101 : Int32) ∧ ¬ own_ca (own_xs s n p w) (s + n + (1 : Int32)) = (69 : Int32) ∧ (s + n + (1 : Int32) < (21 : Int32) → own_at (own_xs s n p w) (s + n + (1 : Int32)) = (32 : Int32)) ∧ s.toInt + ((N + 1 : Nat) : Int) = (s + n + (1 : Int32)).toInt := by
  have HH := H
  obtain ⟨hs, hn, hp, hw, g1, g2, g3, g4, g5⟩ := H
  have o1 : (1 : Int32).toInt = 1 := rfl
  have esp : (s + p).toInt = ((S + P : Nat) : Int) := by rw [Jvm.Kit.i32_add (by rw [hs, hp]; omega) (by rw [hs, hp]; omega), hs, hp]; rfl
  have esn : (s + n).toInt = ((S + N : Nat) : Int) := by rw [Jvm.Kit.i32_add (by rw [hs, hn]; omega) (by rw [hs, hn]; omega), hs, hn]; rfl
  have esp1 : (s + p + (1 : Int32)).toInt = ((S + P + 1 : Nat) : Int) := by rw [Jvm.Kit.i32_add (by rw [esp, o1]; omega) (by rw [esp, o1]; omega), esp]; rfl
  have een : (s + n + (1 : Int32)).toInt = ((S + N + 1 : Nat) : Int) := by rw [Jvm.Kit.i32_add (by rw [esn, o1]; omega) (by rw [esn, o1]; omega), esn]; rfl
  have es1 : (s + (1 : Int32)).toInt = ((S + 1 : Nat) : Int) := by rw [Jvm.Kit.i32_add (by rw [hs, o1]; omega) (by rw [hs, o1]; omega), hs]; rfl
  have A : ∀ {t : Int32} {I : Nat}, t.toInt = I → I ≤ 20 → own_at (own_xs s n p w) t = own_ch t s n p w := fun h h' => own_xat h h'
  have dg : ∀ {t : Int32} {I : Nat}, t.toInt = I → S ≤ I → I ≤ S + N → I ≠ S + P → ¬ own_at (own_xs s n p w) t < (48 : Int32) ∧ ¬ (57 : Int32) < own_at (own_xs s n p w) t := fun {t I} h a1 a2 a3 => by
    rw [A h (by omega)]
    by_cases q : I < S + P
    · exact own_dgr' (own_chD HH (c := I - S) h (by omega) (Or.inl ⟨by omega, by omega⟩))
    · exact own_dgr' (own_chD HH (c := I - S - 1) h (by omega) (Or.inr ⟨by omega, by omega, by omega⟩))
  have pt : ∀ {t : Int32} {I : Nat}, t.toInt = I → I = S + P → own_at (own_xs s n p w) t = 46 := fun h a => by rw [A h (by omega)]; exact own_chP HH h (by omega) a
  have first : (¬ own_at (own_xs s n p w) s < (48 : Int32) ∧ ¬ (57 : Int32) < own_at (own_xs s n p w) s) ∨ own_at (own_xs s n p w) s = 46 ∧ P = 0 := by
    by_cases q : P = 0
    · exact Or.inr ⟨pt hs (by omega), q⟩
    · exact Or.inl (dg hs (by omega) (by omega) (by omega))
  have fbig : 32 < (own_at (own_xs s n p w) s).toInt ∧ (own_at (own_xs s n p w) s).toInt ≠ 40 := by
    rcases first with ⟨q, -⟩ | ⟨q, -⟩
    · rw [own_lt32, show (48 : Int32).toInt = 48 from by decide] at q; omega
    · rw [q]; decide
  have cen : own_ca (own_xs s n p w) (s + n + (1 : Int32)) = 32 ∨ own_ca (own_xs s n p w) (s + n + (1 : Int32)) = 0 := by
    by_cases q : S + N + 1 ≤ 20
    · left; rw [own_cav een q, A een q]; exact own_chS HH een q (Or.inr (by omega))
    · right; exact if_neg (by rw [own_lt21 een]; omega)
  have nn0 : ∀ {t : Int32} {I : Nat}, t.toInt = I → ¬ t < 0 := fun h => by rw [own_lt32, h, show (0 : Int32).toInt = 0 from rfl]; omega
  refine ⟨?_, own_wsN fbig.1, fun q => fbig.2 (by rw [q]; decide), ?_, ?_, ⟨nn0 hs, by rw [hs, esp]; omega, by rw [esp]; omega, fun t h1 h2 => ?_, fun _ => Or.inl ?_⟩, ?_, ⟨nn0 esp1, by rw [esp1, een]; omega, by rw [een]; omega, fun t h1 h2 => ?_, fun q => Or.inl ?_⟩, ?_, ?_, fun q => ?_, by rw [hs, een]; omega⟩
  · rcases (show S = 0 ∨ S = 1 by omega) with q | q
    · left; exact Int32.toInt_inj.mp (by rw [hs, q]; rfl)
    · right
      refine ⟨Int32.toInt_inj.mp (by rw [hs, q]; rfl), ?_⟩
      rw [A (t := 0) (I := 0) rfl (by omega), own_chS HH (I := 0) rfl (by omega) (Or.inl (by omega))]; decide
  · rcases first with ⟨q1, q2⟩ | ⟨q, q0⟩
    · exact Or.inl (own_dgY q1 q2)
    · right
      have d1 := dg es1 (by omega) (by omega) (by omega)
      rw [own_cav es1 (by omega)]
      exact ⟨by rw [q]; decide, q, own_dgY d1.1 d1.2⟩
  · intro t h1 h2
    obtain ⟨I, hI⟩ := own_nz h1
    rw [own_lt21 hI] at h2
    rw [A hI (by omega)]; exact own_chB HH hI (by omega)
  · rw [hs] at h1; rw [esp] at h2
    exact dg (I := t.toInt.toNat) (by omega) (by omega) (by omega) (by omega)
  · rw [pt esp rfl]; decide
  · rw [own_cav esp (by omega)]; exact pt esp rfl
  · rw [esp1] at h1; rw [een] at h2
    exact dg (I := t.toInt.toNat) (by omega) (by omega) (by omega) (by omega)
  · rw [own_lt21 een] at q
    rw [A een (by omega), own_chS HH een (by omega) (Or.inr (by omega))]; decide
  · rcases cen with q | q <;> rw [q] <;> decide
  · rcases cen with q | q <;> rw [q] <;> decide
  · rw [own_lt21 een] at q
    rw [A een (by omega)]; exact own_chS HH een (by omega) (Or.inr (by omega))
theorem own_main (H : own_ok s n p w S N P W) : own_us (own_xs s n p w) (N + 1) s (0 : Int64) (0 : Int32) = if w < (1000000000000000000 : Int64) then w else (-1 : Int64) := by
  obtain ⟨hs, hn, hp, hw, g1, g2, g3, g4, g5⟩ := id H
  refine own_usv H (N + 1) s S 0 _ _ 0 hs (by omega) (Or.inl ⟨rfl, by omega⟩) ?_ rfl (Nat.le_refl _) (fun _ => Or.inl rfl) (fun _ => rfl)
  rw [Nat.sub_zero, Nat.div_eq_of_lt g5]; rfl
end
theorem own_m31 (x : Int32) : 0 ≤ (x &&& (2147483647 : Int32)).toInt := by
  rw [Jvm.Kit.i32_mask x 2147483647 (k := 31) (by decide) (by decide)]; omega
theorem own_nv (x : Int32) : 1 ≤ ((1 : Int32) + ((x &&& (2147483647 : Int32)) - (((x &&& (2147483647 : Int32)) / (19 : Int32)) * (19 : Int32)))).toInt ∧ ((1 : Int32) + ((x &&& (2147483647 : Int32)) - (((x &&& (2147483647 : Int32)) / (19 : Int32)) * (19 : Int32)))).toInt ≤ 19 := by
  have e := own_rem32 (y := 19) (own_m31 x) (by decide)
  rw [show (19 : Int32).toInt = 19 from by decide] at e
  have o1 : (1 : Int32).toInt = 1 := rfl
  rw [Jvm.Kit.i32_add (by rw [e, o1]; omega) (by rw [e, o1]; omega), e, o1]; omega
section
variable {n : Int32}
theorem own_n1v (h : 1 ≤ n.toInt ∧ n.toInt ≤ 19) : (n + (1 : Int32)).toInt = n.toInt + 1 := Jvm.Kit.i32_add (by rw [show (1 : Int32).toInt = 1 from rfl]; omega) (by rw [show (1 : Int32).toInt = 1 from rfl]; omega)
theorem own_np (h : 1 ≤ n.toInt ∧ n.toInt ≤ 19) : ¬ n + (1 : Int32) = 0 := fun q => by
  have e := own_n1v h
  rw [q, show (0 : Int32).toInt = 0 from rfl] at e; omega
theorem own_n19 (h : 1 ≤ n.toInt ∧ n.toInt ≤ 19) (q : ¬ n = (19 : Int32)) : n.toInt ≤ 18 := by
  rw [← Int32.toInt_inj, show (19 : Int32).toInt = 19 from by decide] at q; omega
theorem own_nin (h : 1 ≤ n.toInt ∧ n.toInt ≤ 19) (q : ¬ n = (19 : Int32)) : ¬ n < 0 ∧ n < (19 : Int32) := by
  have := own_n19 h q
  rw [own_lt32, own_lt32, show (19 : Int32).toInt = 19 from by decide, show (0 : Int32).toInt = 0 from rfl]; omega
theorem own_npz (h : 1 ≤ n.toInt ∧ n.toInt ≤ 19) (q : ¬ n = (19 : Int32)) : ¬ own_pw n = 0 := own_pwz (J := n.toInt.toNat) (by omega) (by have := own_n19 h q; omega)
theorem own_mk (h : 1 ≤ n.toInt ∧ n.toInt ≤ 19) (p s : Int32) (x w : Int64) (a b : Int32) (y : Int64) (hp : p = (a &&& (2147483647 : Int32)) - (((a &&& (2147483647 : Int32)) / (n + (1 : Int32))) * (n + (1 : Int32)))) (hs : s = b &&& (1 : Int32)) (hx : x = y &&& (9223372036854775807 : Int64)) (hw : w = if n = (19 : Int32) then x else (x - ((x / (own_pw n)) * (own_pw n)))) : ∃ S N P W, own_ok s n p w S N P W := by
  have en := own_n1v h
  have ep := own_rem32 (y := n + (1 : Int32)) (own_m31 a) (by omega)
  rw [← hp, en] at ep
  have p0 := Int.emod_nonneg (a &&& (2147483647 : Int32)).toInt (show n.toInt + 1 ≠ 0 by omega)
  have p1 := Int.emod_lt_of_pos (a &&& (2147483647 : Int32)).toInt (show 0 < n.toInt + 1 by omega)
  have es : s.toInt = b.toInt % 2 ^ 1 := by rw [hs]; exact Jvm.Kit.i32_mask b 1 (k := 1) (by decide) (by decide)
  have ex : x.toInt = y.toInt % 2 ^ 63 := by rw [hx]; exact Jvm.Kit.i64_mask y 9223372036854775807 (k := 63) (by decide) (by decide)
  have hwv : 0 ≤ w.toInt ∧ w.toInt < ((10 ^ n.toInt.toNat : Nat) : Int) := by
    by_cases q : n = (19 : Int32)
    · rw [if_pos q] at hw
      rw [hw, q, ex, show (19 : Int32).toInt.toNat = 19 from by decide]; omega
    · rw [if_neg q] at hw
      have e1 := own_pwv (j := n) (J := n.toInt.toNat) (by omega) (by have := own_n19 h q; omega)
      have hpos := own_pos n.toInt.toNat
      rw [hw, Jvm.Kit.i64_rem_nonneg (by omega), e1]
      exact ⟨Int.emod_nonneg _ (by omega), Int.emod_lt_of_pos _ (by omega)⟩
  refine ⟨s.toInt.toNat, n.toInt.toNat, p.toInt.toNat, w.toInt.toNat, by omega, by omega, by omega, by omega, by omega, by omega, by omega, by omega, ?_⟩
  have := hwv.2; omega
end
theorem own_inI {j : Int32} {J : Nat} (h : j.toInt = J) (h1 : J ≤ 18) : ¬ j < 0 ∧ j < (19 : Int32) := by
  rw [own_lt32, own_lt32, show (19 : Int32).toInt = 19 from by decide, show (0 : Int32).toInt = 0 from rfl, h]; omega
theorem own_d21_0 : decode prog_59_method_6_code 0 = .ok (.lconst 0, 1) := by decide +kernel
theorem own_d21_1 : decode prog_59_method_6_code 1 = .ok (.lstore_n 1, 1) := by decide +kernel
theorem own_d21_2 : decode prog_59_method_6_code 2 = .ok (.iconst 0, 1) := by decide +kernel
theorem own_d21_3 : decode prog_59_method_6_code 3 = .ok (.istore_n 3, 1) := by decide +kernel
theorem own_d21_4 : decode prog_59_method_6_code 4 = .ok (.aload_n 0, 1) := by decide +kernel
theorem own_d21_5 : decode prog_59_method_6_code 5 = .ok (.getfield 38, 3) := by decide +kernel
theorem own_d21_8 : decode prog_59_method_6_code 8 = .ok (.istore 4, 2) := by decide +kernel
theorem own_d21_10 : decode prog_59_method_6_code 10 = .ok (.iload 4, 2) := by decide +kernel
theorem own_d21_12 : decode prog_59_method_6_code 12 = .ok (.aload_n 0, 1) := by decide +kernel
theorem own_d21_13 : decode prog_59_method_6_code 13 = .ok (.getfield 41, 3) := by decide +kernel
theorem own_d21_16 : decode prog_59_method_6_code 16 = .ok (.if_icmp .ge 52, 3) := by decide +kernel
theorem own_d21_19 : decode prog_59_method_6_code 19 = .ok (.aload_n 0, 1) := by decide +kernel
theorem own_d21_20 : decode prog_59_method_6_code 20 = .ok (.getfield 26, 3) := by decide +kernel
theorem own_d21_23 : decode prog_59_method_6_code 23 = .ok (.iload 4, 2) := by decide +kernel
theorem own_d21_25 : decode prog_59_method_6_code 25 = .ok (.caload, 1) := by decide +kernel
theorem own_d21_26 : decode prog_59_method_6_code 26 = .ok (.istore 5, 2) := by decide +kernel
theorem own_d21_28 : decode prog_59_method_6_code 28 = .ok (.iload 5, 2) := by decide +kernel
theorem own_d21_30 : decode prog_59_method_6_code 30 = .ok (.bipush 46, 2) := by decide +kernel
theorem own_d21_32 : decode prog_59_method_6_code 32 = .ok (.if_icmp .eq 30, 3) := by decide +kernel
theorem own_d21_35 : decode prog_59_method_6_code 35 = .ok (.lload_n 1, 1) := by decide +kernel
theorem own_d21_36 : decode prog_59_method_6_code 36 = .ok (.ldc2_w 44, 3) := by decide +kernel
theorem own_d21_39 : decode prog_59_method_6_code 39 = .ok (.lmul, 1) := by decide +kernel
theorem own_d21_40 : decode prog_59_method_6_code 40 = .ok (.iload 5, 2) := by decide +kernel
theorem own_d21_42 : decode prog_59_method_6_code 42 = .ok (.bipush 48, 2) := by decide +kernel
theorem own_d21_44 : decode prog_59_method_6_code 44 = .ok (.isub, 1) := by decide +kernel
theorem own_d21_45 : decode prog_59_method_6_code 45 = .ok (.i2l, 1) := by decide +kernel
theorem own_d21_46 : decode prog_59_method_6_code 46 = .ok (.ladd, 1) := by decide +kernel
theorem own_d21_47 : decode prog_59_method_6_code 47 = .ok (.lstore_n 1, 1) := by decide +kernel
theorem own_d21_48 : decode prog_59_method_6_code 48 = .ok (.iload_n 3, 1) := by decide +kernel
theorem own_d21_49 : decode prog_59_method_6_code 49 = .ok (.lload_n 1, 1) := by decide +kernel
theorem own_d21_50 : decode prog_59_method_6_code 50 = .ok (.lconst 0, 1) := by decide +kernel
theorem own_d21_51 : decode prog_59_method_6_code 51 = .ok (.lcmp, 1) := by decide +kernel
theorem own_d21_52 : decode prog_59_method_6_code 52 = .ok (.ifCond .ne 7, 3) := by decide +kernel
theorem own_d21_55 : decode prog_59_method_6_code 55 = .ok (.iconst 0, 1) := by decide +kernel
theorem own_d21_56 : decode prog_59_method_6_code 56 = .ok (.goto 4, 3) := by decide +kernel
theorem own_d21_59 : decode prog_59_method_6_code 59 = .ok (.iconst 1, 1) := by decide +kernel
theorem own_d21_60 : decode prog_59_method_6_code 60 = .ok (.iadd, 1) := by decide +kernel
theorem own_d21_61 : decode prog_59_method_6_code 61 = .ok (.istore_n 3, 1) := by decide +kernel
theorem own_d21_62 : decode prog_59_method_6_code 62 = .ok (.iinc 4 1, 3) := by decide +kernel
theorem own_d21_65 : decode prog_59_method_6_code 65 = .ok (.goto (-55), 3) := by decide +kernel
theorem own_d21_68 : decode prog_59_method_6_code 68 = .ok (.iload_n 3, 1) := by decide +kernel
theorem own_d21_69 : decode prog_59_method_6_code 69 = .ok (.bipush 18, 2) := by decide +kernel
theorem own_d21_71 : decode prog_59_method_6_code 71 = .ok (.if_icmp .gt 7, 3) := by decide +kernel
theorem own_d21_74 : decode prog_59_method_6_code 74 = .ok (.lload_n 1, 1) := by decide +kernel
theorem own_d21_75 : decode prog_59_method_6_code 75 = .ok (.goto 6, 3) := by decide +kernel
theorem own_d21_78 : decode prog_59_method_6_code 78 = .ok (.ldc2_w 48, 3) := by decide +kernel
theorem own_d21_81 : decode prog_59_method_6_code 81 = .ok (.lreturn, 1) := by decide +kernel
theorem own_unr_ef (m : MethodId) (a1 : Addr) : entryFrame m #[(.ref a1)] 6 = mkF m 0 #[rv a1, .unset, .unset, .unset, .unset, .unset] [] := by first | (simp [entryFrame, mkF, argsToLocals, Value.category]; done) | rfl
set_option maxRecDepth 65536 in
set_option maxHeartbeats 40000000 in
theorem own_unr (l : Launch) (Z : State) (a0 : Array Value) (hw : ∀ d ∈ tables_1, d.before a0 Z = true) (ws : List Jvm.Cond) (a1 : Addr) (a2 : Addr) (k2 : ClassId) (xs : List Int32) (st : Int32) (en : Int32) (r0 : Nat) (h0 : Heap) (n0 : Nat) (Z0 : n0 ≤ h0.size) (E1 : Exa Z h0 a1 "com/example/libxqtype/libxqtype/ExpressionLexer") (Fc : Fld Z h0 a1 "com/example/libxqtype/libxqtype/ExpressionLexer" "chars" "[C" (.ref a2)) (V2 : Arv Z h0 a2 k2 .char (21 : Int32) (xs.map Value.int) (.int (0 : Int32))) (Fs : Fld Z h0 a1 "com/example/libxqtype/libxqtype/ExpressionLexer" "start" "I" (.int st)) (Fe : Fld Z h0 a1 "com/example/libxqtype/libxqtype/ExpressionLexer" "end" "I" (.int en)) (hst : ¬ st < 0) (hr : st.toInt + ((r0 + 1 : Nat) : Int) = en.toInt) (hen : en.toInt ≤ 21) :
    own_Met l Z (⟨"com/example/libxqtype/libxqtype/ExpressionLexer", "unscaledValue", "()J"⟩ : MethodName) prog_59_method_6_code 6 (some .long) ws ({ frames := 0, cells := 0, slots := 0, locals := 0 } : Room) #[(.ref a1)] h0 (fun v h L => v = some (.long (own_us xs (r0 + 1) st (0 : Int64) (0 : Int32))) ∧ Fr n0 L ∧ h = h0) := by
  refine own_enter (plainFor_of_name own_pn4) ?_
  intro p e s m below meth c s₁ X0 hx hZ hby hml hown hnm hret hlk e0
  have N0 := Fr.nil n0
  rw [own_unr_ef m a1]
  show own_Fin _ _ _ _ _ _ (s₁.setTop (mkF m 0 #[rv a1, .unset, .unset, .unset, .unset, .unset] []))
  refine own_to (fun t k => XS.lconst X0.here hx rfl (hb hby own_d21_0) k) ?_
  refine own_to (fun t k => XS.lstoreN X0.here hx rfl (hb hby own_d21_1) rfl (l' := #[rv a1, .val (.long (0 : Int64)), .second, .unset, .unset, .unset]) rfl k) ?_
  show own_Fin _ _ _ _ _ _ (s₁.setTop (mkF m 2 #[rv a1, .val (.long (0 : Int64)), .second, .unset, .unset, .unset] []))
  refine own_to (fun t k => XS.iconst X0.here hx rfl (hb hby own_d21_2) k) ?_
  refine own_to (fun t k => XS.istoreN X0.here hx rfl (hb hby own_d21_3) rfl (l' := #[rv a1, .val (.long (0 : Int64)), .second, own_i 0, .unset, .unset]) rfl k) ?_
  show own_Fin _ _ _ _ _ _ (s₁.setTop (mkF m 4 #[rv a1, .val (.long (0 : Int64)), .second, own_i 0, .unset, .unset] []))
  refine own_to (fun t k => XS.aloadN X0.here hx rfl (hb hby own_d21_4) rfl rfl k) ?_
  obtain ⟨T344, X344, e344, st344⟩ := getF X0 hx hZ hown (host := "") (Or.inl (own_W hw 98 rfl)) Via.refl e0 Fs (g := (mkF m 5 #[rv a1, .val (.long (0 : Int64)), .second, own_i 0, .unset, .unset] [(.ref a1)])) rfl rfl (hb hby own_d21_5)
  refine own_to (fun t k => st344 t k) ?_
  show own_Fin _ _ _ _ _ _ (T344.setTop (mkF m 8 #[rv a1, .val (.long (0 : Int64)), .second, own_i 0, .unset, .unset] [(.int st)]))
  refine own_to (fun t k => XS.istore X344.here hx rfl (hb hby own_d21_8) rfl (l' := #[rv a1, .val (.long (0 : Int64)), .second, own_i 0, .val (.int st), .unset]) rfl k) ?_
  show own_Fin _ _ _ _ _ _ (T344.setTop (mkF m 10 #[rv a1, .val (.long (0 : Int64)), .second, own_i 0, .val (.int st), .unset] []))
  have loop : ∀ (r : Nat) (T : State) (j : Int32) (v : Int64) (d y : Int32), Stand p l e ({ frames := 0, cells := 0, slots := 0, locals := 0 } : Room) s m #[(.ref a1)] below meth c T [] 0 0 → T.heap = h0 → ¬ j < 0 → j.toInt + r = en.toInt → own_us xs r j v d = own_us xs (r0 + 1) st (0 : Int64) (0 : Int32) → own_Fin p e below s ({ frames := 0, cells := 0, slots := 0, locals := 0 } : Room) (fun v h L => v = some (.long (own_us xs (r0 + 1) st (0 : Int64) (0 : Int32))) ∧ Fr n0 L ∧ h = h0) (T.setTop (mkF m 10 #[rv a1, .val (.long v), .second, .val (.int d), .val (.int j), .val (.int y)] [])) := by
    intro r
    induction r with
    | zero =>
      intro T j v d y XT eT hj hr hq
      have hje : ¬ j < en := by rw [own_lt32]; omega
      show own_Fin _ _ _ _ _ _ (T.setTop (mkF m 10 #[rv a1, .val (.long v), .second, .val (.int d), .val (.int j), .val (.int y)] []))
      refine own_to (fun t k => XS.iload XT.here hx rfl (hb hby own_d21_10) rfl k) ?_
      refine own_to (fun t k => XS.aloadN XT.here hx rfl (hb hby own_d21_12) rfl rfl k) ?_
      obtain ⟨T345, X345, e345, st345⟩ := getF XT hx hZ hown (host := "") (Or.inl (own_W hw 122 rfl)) Via.refl eT Fe (g := (mkF m 13 #[rv a1, .val (.long v), .second, .val (.int d), .val (.int j), .val (.int y)] [(.ref a1), (.int j)])) rfl rfl (hb hby own_d21_13)
      refine own_to (fun t k => st345 t k) ?_
      show own_Fin _ _ _ _ _ _ (T345.setTop (mkF m 16 #[rv a1, .val (.long v), .second, .val (.int d), .val (.int j), .val (.int y)] [(.int en), (.int j)]))
      refine own_to (fun t k => XS.icmpYes X345.here hx rfl (pc0 := 16) (pc' := 68) rfl (hb hby own_d21_16) rfl (flt hje).2.1 (by decide) (by decide) k) ?_
      show own_Fin _ _ _ _ _ _ (T345.setTop (mkF m 68 #[rv a1, .val (.long v), .second, .val (.int d), .val (.int j), .val (.int y)] []))
      refine own_to (fun t k => XS.iloadN X345.here hx rfl (hb hby own_d21_68) rfl k) ?_
      show own_Fin _ _ _ _ _ _ (T345.setTop (mkF m 69 #[rv a1, .val (.long v), .second, .val (.int d), .val (.int j), .val (.int y)] [(.int d)]))
      refine own_to (fun t k => XS.bipush X345.here hx rfl (hb hby own_d21_69) k) ?_
      by_cases hc71_346 : (18 : Int32) < d
      ·
        show own_Fin _ _ _ _ _ _ (T345.setTop (mkF m 71 #[rv a1, .val (.long v), .second, .val (.int d), .val (.int j), .val (.int y)] [(.int (18 : Int32)), (.int d)]))
        refine own_to (fun t k => XS.icmpYes X345.here hx rfl (pc0 := 71) (pc' := 78) rfl (hb hby own_d21_71) rfl (tlt hc71_346).2.2.1 (by decide) (by decide) k) ?_
        show own_Fin _ _ _ _ _ _ (T345.setTop (mkF m 78 #[rv a1, .val (.long v), .second, .val (.int d), .val (.int j), .val (.int y)] []))
        refine own_to (fun t k => X345.ldc2Long hx hown (mvT hZ (own_W hw 140 rfl)) (g := (mkF m 78 #[rv a1, .val (.long v), .second, .val (.int d), .val (.int j), .val (.int y)] [])) rfl (hb hby own_d21_78) _ k) ?_
        show own_Fin _ _ _ _ _ _ (T345.setTop (mkF m 81 #[rv a1, .val (.long v), .second, .val (.int d), .val (.int j), .val (.int y)] [(.long (-1 : Int64))]))
        refine own_retJ X345 hx hlk hret (hb hby own_d21_81) (by decide) (by decide) ?_
        try rw [e345]
        exact ⟨congrArg (fun z => some (Value.long z)) (by rw [← hq]; exact (((if_pos hc71_346).trans rfl)).symm), N0, rfl⟩
      ·
        show own_Fin _ _ _ _ _ _ (T345.setTop (mkF m 71 #[rv a1, .val (.long v), .second, .val (.int d), .val (.int j), .val (.int y)] [(.int (18 : Int32)), (.int d)]))
        refine own_to (fun t k => XS.icmpNo X345.here hx rfl (hb hby own_d21_71) rfl (flt hc71_346).2.2.1 k) ?_
        show own_Fin _ _ _ _ _ _ (T345.setTop (mkF m 74 #[rv a1, .val (.long v), .second, .val (.int d), .val (.int j), .val (.int y)] []))
        refine own_to (fun t k => XS.lloadN X345.here hx rfl (hb hby own_d21_74) rfl k) ?_
        refine own_to (fun t k => XS.goto X345.here hx rfl (pc0 := 75) (pc' := 81) rfl (hb hby own_d21_75) (by decide) (by decide) k) ?_
        show own_Fin _ _ _ _ _ _ (T345.setTop (mkF m 81 #[rv a1, .val (.long v), .second, .val (.int d), .val (.int j), .val (.int y)] [(.long v)]))
        refine own_retJ X345 hx hlk hret (hb hby own_d21_81) (by decide) (by decide) ?_
        try rw [e345]
        exact ⟨congrArg (fun z => some (Value.long z)) (by rw [← hq]; exact (((if_neg hc71_346).trans rfl)).symm), N0, rfl⟩
    | succ r ih =>
      intro T j v d y XT eT hj hr hq
      have hlt : j.toInt < en.toInt := by omega
      have hje : j < en := by rw [own_lt32]; exact hlt
      have hjn := own_ltn hlt hen
      have hinc := own_inc hj hlt hen
      show own_Fin _ _ _ _ _ _ (T.setTop (mkF m 10 #[rv a1, .val (.long v), .second, .val (.int d), .val (.int j), .val (.int y)] []))
      refine own_to (fun t k => XS.iload XT.here hx rfl (hb hby own_d21_10) rfl k) ?_
      refine own_to (fun t k => XS.aloadN XT.here hx rfl (hb hby own_d21_12) rfl rfl k) ?_
      obtain ⟨T347, X347, e347, st347⟩ := getF XT hx hZ hown (host := "") (Or.inl (own_W hw 122 rfl)) Via.refl eT Fe (g := (mkF m 13 #[rv a1, .val (.long v), .second, .val (.int d), .val (.int j), .val (.int y)] [(.ref a1), (.int j)])) rfl rfl (hb hby own_d21_13)
      refine own_to (fun t k => st347 t k) ?_
      show own_Fin _ _ _ _ _ _ (T347.setTop (mkF m 16 #[rv a1, .val (.long v), .second, .val (.int d), .val (.int j), .val (.int y)] [(.int en), (.int j)]))
      refine own_to (fun t k => XS.icmpNo X347.here hx rfl (hb hby own_d21_16) rfl (tlt hje).2.1 k) ?_
      show own_Fin _ _ _ _ _ _ (T347.setTop (mkF m 19 #[rv a1, .val (.long v), .second, .val (.int d), .val (.int j), .val (.int y)] []))
      refine own_to (fun t k => XS.aloadN X347.here hx rfl (hb hby own_d21_19) rfl rfl k) ?_
      show own_Fin _ _ _ _ _ _ (T347.setTop (mkF m 20 #[rv a1, .val (.long v), .second, .val (.int d), .val (.int j), .val (.int y)] [(.ref a1)]))
      obtain ⟨T348, X348, e348, st348⟩ := getF X347 hx hZ hown (host := "") (Or.inl (own_W hw 84 rfl)) Via.refl e347 Fc (g := (mkF m 20 #[rv a1, .val (.long v), .second, .val (.int d), .val (.int j), .val (.int y)] [(.ref a1)])) rfl rfl (hb hby own_d21_20)
      refine own_to (fun t k => st348 t k) ?_
      show own_Fin _ _ _ _ _ _ (T348.setTop (mkF m 23 #[rv a1, .val (.long v), .second, .val (.int d), .val (.int j), .val (.int y)] [(.ref a2)]))
      refine own_to (fun t k => XS.iload X348.here hx rfl (hb hby own_d21_23) rfl k) ?_
      obtain ⟨cl349, Ar349, qa349, Sa349, Na349, Ha349, Ga349⟩ := id V2
      have hin350 : ¬ (j < 0 ∨ cl349.slots.size ≤ (j).toNatClampNeg) := inb_of Sa349 ⟨hj, hjn⟩
      refine own_to (fun t k => X348.caload hx (j := j) (v := (.int (own_at xs j))) (by rw [e348]; exact Ar349.1) (State.isArrayOf_alike hZ.alike Ar349.2.1) Ar349.2.2 hin350 (Has.at Ha349 hin350 (own_getm xs _)) (g := (mkF m 25 #[rv a1, .val (.long v), .second, .val (.int d), .val (.int j), .val (.int y)] [(.int j), (.ref a2)])) rfl rfl (hb hby own_d21_25) _ k) ?_
      show own_Fin _ _ _ _ _ _ (T348.setTop (mkF m 26 #[rv a1, .val (.long v), .second, .val (.int d), .val (.int j), .val (.int y)] [(.int (own_at xs j))]))
      refine own_to (fun t k => XS.istore X348.here hx rfl (hb hby own_d21_26) rfl (l' := #[rv a1, .val (.long v), .second, .val (.int d), .val (.int j), .val (.int (own_at xs j))]) rfl k) ?_
      show own_Fin _ _ _ _ _ _ (T348.setTop (mkF m 28 #[rv a1, .val (.long v), .second, .val (.int d), .val (.int j), .val (.int (own_at xs j))] []))
      refine own_to (fun t k => XS.iload X348.here hx rfl (hb hby own_d21_28) rfl k) ?_
      refine own_to (fun t k => XS.bipush X348.here hx rfl (hb hby own_d21_30) k) ?_
      by_cases hc32_351 : (own_at xs j) = (46 : Int32)
      ·
        show own_Fin _ _ _ _ _ _ (T348.setTop (mkF m 32 #[rv a1, .val (.long v), .second, .val (.int d), .val (.int j), .val (.int (own_at xs j))] [(.int (46 : Int32)), (.int (own_at xs j))]))
        refine own_to (fun t k => XS.icmpYes X348.here hx rfl (pc0 := 32) (pc' := 62) rfl (hb hby own_d21_32) rfl (teq hc32_351).1 (by decide) (by decide) k) ?_
        show own_Fin _ _ _ _ _ _ (T348.setTop (mkF m 62 #[rv a1, .val (.long v), .second, .val (.int d), .val (.int j), .val (.int (own_at xs j))] []))
        refine own_to (fun t k => XS.iinc X348.here hx rfl (hb hby own_d21_62) rfl (l' := #[rv a1, .val (.long v), .second, .val (.int d), .val (.int (j + (1 : Int32))), .val (.int (own_at xs j))]) rfl k) ?_
        show own_Fin _ _ _ _ _ _ (T348.setTop (mkF m 65 #[rv a1, .val (.long v), .second, .val (.int d), .val (.int (j + (1 : Int32))), .val (.int (own_at xs j))] []))
        refine own_to (fun t k => XS.goto X348.here hx rfl (pc0 := 65) (pc' := 10) rfl (hb hby own_d21_65) (by decide) (by decide) k) ?_
        show own_Fin _ _ _ _ _ _ (T348.setTop (mkF m 10 #[rv a1, .val (.long v), .second, .val (.int d), .val (.int (j + (1 : Int32))), .val (.int (own_at xs j))] []))
        exact ih _ (j + (1 : Int32)) v d (own_at xs j) X348 e348 hinc.2 (by rw [hinc.1]; omega) (by rw [← hq]; exact (((if_pos hc32_351).trans rfl)).symm)
      ·
        show own_Fin _ _ _ _ _ _ (T348.setTop (mkF m 32 #[rv a1, .val (.long v), .second, .val (.int d), .val (.int j), .val (.int (own_at xs j))] [(.int (46 : Int32)), (.int (own_at xs j))]))
        refine own_to (fun t k => XS.icmpNo X348.here hx rfl (hb hby own_d21_32) rfl (feq hc32_351).1 k) ?_
        show own_Fin _ _ _ _ _ _ (T348.setTop (mkF m 35 #[rv a1, .val (.long v), .second, .val (.int d), .val (.int j), .val (.int (own_at xs j))] []))
        refine own_to (fun t k => XS.lloadN X348.here hx rfl (hb hby own_d21_35) rfl k) ?_
        show own_Fin _ _ _ _ _ _ (T348.setTop (mkF m 36 #[rv a1, .val (.long v), .second, .val (.int d), .val (.int j), .val (.int (own_at xs j))] [(.long v)]))
        refine own_to (fun t k => X348.ldc2Long hx hown (mvT hZ (own_W hw 138 rfl)) (g := (mkF m 36 #[rv a1, .val (.long v), .second, .val (.int d), .val (.int j), .val (.int (own_at xs j))] [(.long v)])) rfl (hb hby own_d21_36) _ k) ?_
        show own_Fin _ _ _ _ _ _ (T348.setTop (mkF m 39 #[rv a1, .val (.long v), .second, .val (.int d), .val (.int j), .val (.int (own_at xs j))] [(.long (10 : Int64)), (.long v)]))
        refine own_to (fun t k => XS.lmul X348.here hx rfl (hb hby own_d21_39) rfl k) ?_
        show own_Fin _ _ _ _ _ _ (T348.setTop (mkF m 40 #[rv a1, .val (.long v), .second, .val (.int d), .val (.int j), .val (.int (own_at xs j))] [(.long (v * (10 : Int64)))]))
        refine own_to (fun t k => XS.iload X348.here hx rfl (hb hby own_d21_40) rfl k) ?_
        refine own_to (fun t k => XS.bipush X348.here hx rfl (hb hby own_d21_42) k) ?_
        refine own_to (fun t k => XS.isub X348.here hx rfl (hb hby own_d21_44) rfl k) ?_
        show own_Fin _ _ _ _ _ _ (T348.setTop (mkF m 45 #[rv a1, .val (.long v), .second, .val (.int d), .val (.int j), .val (.int (own_at xs j))] [(.int ((own_at xs j) - (48 : Int32))), (.long (v * (10 : Int64)))]))
        refine own_to (fun t k => XS.i2l X348.here hx rfl (hb hby own_d21_45) rfl k) ?_
        show own_Fin _ _ _ _ _ _ (T348.setTop (mkF m 46 #[rv a1, .val (.long v), .second, .val (.int d), .val (.int j), .val (.int (own_at xs j))] [(.long (((own_at xs j) - (48 : Int32)).toInt64)), (.long (v * (10 : Int64)))]))
        refine own_to (fun t k => XS.ladd X348.here hx rfl (hb hby own_d21_46) rfl k) ?_
        show own_Fin _ _ _ _ _ _ (T348.setTop (mkF m 47 #[rv a1, .val (.long v), .second, .val (.int d), .val (.int j), .val (.int (own_at xs j))] [(.long ((v * (10 : Int64)) + (((own_at xs j) - (48 : Int32)).toInt64)))]))
        refine own_to (fun t k => XS.lstoreN X348.here hx rfl (hb hby own_d21_47) rfl (l' := #[rv a1, .val (.long ((v * (10 : Int64)) + (((own_at xs j) - (48 : Int32)).toInt64))), .second, .val (.int d), .val (.int j), .val (.int (own_at xs j))]) rfl k) ?_
        show own_Fin _ _ _ _ _ _ (T348.setTop (mkF m 48 #[rv a1, .val (.long ((v * (10 : Int64)) + (((own_at xs j) - (48 : Int32)).toInt64))), .second, .val (.int d), .val (.int j), .val (.int (own_at xs j))] []))
        refine own_to (fun t k => XS.iloadN X348.here hx rfl (hb hby own_d21_48) rfl k) ?_
        refine own_to (fun t k => XS.lloadN X348.here hx rfl (hb hby own_d21_49) rfl k) ?_
        refine own_to (fun t k => XS.lconst X348.here hx rfl (hb hby own_d21_50) k) ?_
        show own_Fin _ _ _ _ _ _ (T348.setTop (mkF m 51 #[rv a1, .val (.long ((v * (10 : Int64)) + (((own_at xs j) - (48 : Int32)).toInt64))), .second, .val (.int d), .val (.int j), .val (.int (own_at xs j))] [(.long (0 : Int64)), (.long ((v * (10 : Int64)) + (((own_at xs j) - (48 : Int32)).toInt64))), (.int d)]))
        refine own_to (fun t k => XS.lcmp X348.here hx rfl (hb hby own_d21_51) rfl k) ?_
        show own_Fin _ _ _ _ _ _ (T348.setTop (mkF m 52 #[rv a1, .val (.long ((v * (10 : Int64)) + (((own_at xs j) - (48 : Int32)).toInt64))), .second, .val (.int d), .val (.int j), .val (.int (own_at xs j))] [(.int (lcmpW ((v * (10 : Int64)) + (((own_at xs j) - (48 : Int32)).toInt64)) (0 : Int64))), (.int d)]))
        by_cases hc52_352 : ((v * (10 : Int64)) + (((own_at xs j) - (48 : Int32)).toInt64)) = (0 : Int64)
        ·
          show own_Fin _ _ _ _ _ _ (T348.setTop (mkF m 52 #[rv a1, .val (.long ((v * (10 : Int64)) + (((own_at xs j) - (48 : Int32)).toInt64))), .second, .val (.int d), .val (.int j), .val (.int (own_at xs j))] [(.int (lcmpW ((v * (10 : Int64)) + (((own_at xs j) - (48 : Int32)).toInt64)) (0 : Int64))), (.int d)]))
          refine own_to (fun t k => XS.ifNo X348.here hx rfl (hb hby own_d21_52) rfl ((if0 _ _).trans (teq ((lw_eq _ _).mpr hc52_352)).2) k) ?_
          show own_Fin _ _ _ _ _ _ (T348.setTop (mkF m 55 #[rv a1, .val (.long ((v * (10 : Int64)) + (((own_at xs j) - (48 : Int32)).toInt64))), .second, .val (.int d), .val (.int j), .val (.int (own_at xs j))] [(.int d)]))
          refine own_to (fun t k => XS.iconst X348.here hx rfl (hb hby own_d21_55) k) ?_
          refine own_to (fun t k => XS.goto X348.here hx rfl (pc0 := 56) (pc' := 60) rfl (hb hby own_d21_56) (by decide) (by decide) k) ?_
          show own_Fin _ _ _ _ _ _ (T348.setTop (mkF m 60 #[rv a1, .val (.long ((v * (10 : Int64)) + (((own_at xs j) - (48 : Int32)).toInt64))), .second, .val (.int d), .val (.int j), .val (.int (own_at xs j))] [(.int (0 : Int32)), (.int d)]))
          refine own_to (fun t k => XS.iadd X348.here hx rfl (hb hby own_d21_60) rfl k) ?_
          show own_Fin _ _ _ _ _ _ (T348.setTop (mkF m 61 #[rv a1, .val (.long ((v * (10 : Int64)) + (((own_at xs j) - (48 : Int32)).toInt64))), .second, .val (.int d), .val (.int j), .val (.int (own_at xs j))] [(.int (d + (0 : Int32)))]))
          refine own_to (fun t k => XS.istoreN X348.here hx rfl (hb hby own_d21_61) rfl (l' := #[rv a1, .val (.long ((v * (10 : Int64)) + (((own_at xs j) - (48 : Int32)).toInt64))), .second, .val (.int (d + (0 : Int32))), .val (.int j), .val (.int (own_at xs j))]) rfl k) ?_
          show own_Fin _ _ _ _ _ _ (T348.setTop (mkF m 62 #[rv a1, .val (.long ((v * (10 : Int64)) + (((own_at xs j) - (48 : Int32)).toInt64))), .second, .val (.int (d + (0 : Int32))), .val (.int j), .val (.int (own_at xs j))] []))
          refine own_to (fun t k => XS.iinc X348.here hx rfl (hb hby own_d21_62) rfl (l' := #[rv a1, .val (.long ((v * (10 : Int64)) + (((own_at xs j) - (48 : Int32)).toInt64))), .second, .val (.int (d + (0 : Int32))), .val (.int (j + (1 : Int32))), .val (.int (own_at xs j))]) rfl k) ?_
          show own_Fin _ _ _ _ _ _ (T348.setTop (mkF m 65 #[rv a1, .val (.long ((v * (10 : Int64)) + (((own_at xs j) - (48 : Int32)).toInt64))), .second, .val (.int (d + (0 : Int32))), .val (.int (j + (1 : Int32))), .val (.int (own_at xs j))] []))
          refine own_to (fun t k => XS.goto X348.here hx rfl (pc0 := 65) (pc' := 10) rfl (hb hby own_d21_65) (by decide) (by decide) k) ?_
          show own_Fin _ _ _ _ _ _ (T348.setTop (mkF m 10 #[rv a1, .val (.long ((v * (10 : Int64)) + (((own_at xs j) - (48 : Int32)).toInt64))), .second, .val (.int (d + (0 : Int32))), .val (.int (j + (1 : Int32))), .val (.int (own_at xs j))] []))
          exact ih _ (j + (1 : Int32)) ((v * (10 : Int64)) + (((own_at xs j) - (48 : Int32)).toInt64)) (d + (0 : Int32)) (own_at xs j) X348 e348 hinc.2 (by rw [hinc.1]; omega) (by rw [← hq]; exact (((if_neg hc32_351).trans ((if_pos hc52_352).trans rfl))).symm)
        ·
          show own_Fin _ _ _ _ _ _ (T348.setTop (mkF m 52 #[rv a1, .val (.long ((v * (10 : Int64)) + (((own_at xs j) - (48 : Int32)).toInt64))), .second, .val (.int d), .val (.int j), .val (.int (own_at xs j))] [(.int (lcmpW ((v * (10 : Int64)) + (((own_at xs j) - (48 : Int32)).toInt64)) (0 : Int64))), (.int d)]))
          refine own_to (fun t k => XS.ifYes X348.here hx rfl (pc0 := 52) (pc' := 59) rfl (hb hby own_d21_52) rfl ((if0 _ _).trans (feq (fun z => hc52_352 ((lw_eq _ _).mp z))).2) (by decide) (by decide) k) ?_
          show own_Fin _ _ _ _ _ _ (T348.setTop (mkF m 59 #[rv a1, .val (.long ((v * (10 : Int64)) + (((own_at xs j) - (48 : Int32)).toInt64))), .second, .val (.int d), .val (.int j), .val (.int (own_at xs j))] [(.int d)]))
          refine own_to (fun t k => XS.iconst X348.here hx rfl (hb hby own_d21_59) k) ?_
          refine own_to (fun t k => XS.iadd X348.here hx rfl (hb hby own_d21_60) rfl k) ?_
          show own_Fin _ _ _ _ _ _ (T348.setTop (mkF m 61 #[rv a1, .val (.long ((v * (10 : Int64)) + (((own_at xs j) - (48 : Int32)).toInt64))), .second, .val (.int d), .val (.int j), .val (.int (own_at xs j))] [(.int (d + (1 : Int32)))]))
          refine own_to (fun t k => XS.istoreN X348.here hx rfl (hb hby own_d21_61) rfl (l' := #[rv a1, .val (.long ((v * (10 : Int64)) + (((own_at xs j) - (48 : Int32)).toInt64))), .second, .val (.int (d + (1 : Int32))), .val (.int j), .val (.int (own_at xs j))]) rfl k) ?_
          show own_Fin _ _ _ _ _ _ (T348.setTop (mkF m 62 #[rv a1, .val (.long ((v * (10 : Int64)) + (((own_at xs j) - (48 : Int32)).toInt64))), .second, .val (.int (d + (1 : Int32))), .val (.int j), .val (.int (own_at xs j))] []))
          refine own_to (fun t k => XS.iinc X348.here hx rfl (hb hby own_d21_62) rfl (l' := #[rv a1, .val (.long ((v * (10 : Int64)) + (((own_at xs j) - (48 : Int32)).toInt64))), .second, .val (.int (d + (1 : Int32))), .val (.int (j + (1 : Int32))), .val (.int (own_at xs j))]) rfl k) ?_
          show own_Fin _ _ _ _ _ _ (T348.setTop (mkF m 65 #[rv a1, .val (.long ((v * (10 : Int64)) + (((own_at xs j) - (48 : Int32)).toInt64))), .second, .val (.int (d + (1 : Int32))), .val (.int (j + (1 : Int32))), .val (.int (own_at xs j))] []))
          refine own_to (fun t k => XS.goto X348.here hx rfl (pc0 := 65) (pc' := 10) rfl (hb hby own_d21_65) (by decide) (by decide) k) ?_
          show own_Fin _ _ _ _ _ _ (T348.setTop (mkF m 10 #[rv a1, .val (.long ((v * (10 : Int64)) + (((own_at xs j) - (48 : Int32)).toInt64))), .second, .val (.int (d + (1 : Int32))), .val (.int (j + (1 : Int32))), .val (.int (own_at xs j))] []))
          exact ih _ (j + (1 : Int32)) ((v * (10 : Int64)) + (((own_at xs j) - (48 : Int32)).toInt64)) (d + (1 : Int32)) (own_at xs j) X348 e348 hinc.2 (by rw [hinc.1]; omega) (by rw [← hq]; exact (((if_neg hc32_351).trans ((if_neg hc52_352).trans rfl))).symm)
  have hj := hst
  have hlt : st.toInt < en.toInt := by omega
  have hje : st < en := by rw [own_lt32]; exact hlt
  have hjn := own_ltn hlt hen
  have hinc := own_inc hj hlt hen
  have hq : own_us xs (r0 + 1) st (0 : Int64) (0 : Int32) = own_us xs (r0 + 1) st (0 : Int64) (0 : Int32) := rfl
  show own_Fin _ _ _ _ _ _ (T344.setTop (mkF m 10 #[rv a1, .val (.long (0 : Int64)), .second, own_i 0, .val (.int st), .unset] []))
  refine own_to (fun t k => XS.iload X344.here hx rfl (hb hby own_d21_10) rfl k) ?_
  refine own_to (fun t k => XS.aloadN X344.here hx rfl (hb hby own_d21_12) rfl rfl k) ?_
  obtain ⟨T353, X353, e353, st353⟩ := getF X344 hx hZ hown (host := "") (Or.inl (own_W hw 122 rfl)) Via.refl e344 Fe (g := (mkF m 13 #[rv a1, .val (.long (0 : Int64)), .second, own_i 0, .val (.int st), .unset] [(.ref a1), (.int st)])) rfl rfl (hb hby own_d21_13)
  refine own_to (fun t k => st353 t k) ?_
  show own_Fin _ _ _ _ _ _ (T353.setTop (mkF m 16 #[rv a1, .val (.long (0 : Int64)), .second, own_i 0, .val (.int st), .unset] [(.int en), (.int st)]))
  refine own_to (fun t k => XS.icmpNo X353.here hx rfl (hb hby own_d21_16) rfl (tlt hje).2.1 k) ?_
  show own_Fin _ _ _ _ _ _ (T353.setTop (mkF m 19 #[rv a1, .val (.long (0 : Int64)), .second, own_i 0, .val (.int st), .unset] []))
  refine own_to (fun t k => XS.aloadN X353.here hx rfl (hb hby own_d21_19) rfl rfl k) ?_
  show own_Fin _ _ _ _ _ _ (T353.setTop (mkF m 20 #[rv a1, .val (.long (0 : Int64)), .second, own_i 0, .val (.int st), .unset] [(.ref a1)]))
  obtain ⟨T354, X354, e354, st354⟩ := getF X353 hx hZ hown (host := "") (Or.inl (own_W hw 84 rfl)) Via.refl e353 Fc (g := (mkF m 20 #[rv a1, .val (.long (0 : Int64)), .second, own_i 0, .val (.int st), .unset] [(.ref a1)])) rfl rfl (hb hby own_d21_20)
  refine own_to (fun t k => st354 t k) ?_
  show own_Fin _ _ _ _ _ _ (T354.setTop (mkF m 23 #[rv a1, .val (.long (0 : Int64)), .second, own_i 0, .val (.int st), .unset] [(.ref a2)]))
  refine own_to (fun t k => XS.iload X354.here hx rfl (hb hby own_d21_23) rfl k) ?_
  obtain ⟨cl355, Ar355, qa355, Sa355, Na355, Ha355, Ga355⟩ := id V2
  have hin356 : ¬ (st < 0 ∨ cl355.slots.size ≤ (st).toNatClampNeg) := inb_of Sa355 ⟨hj, hjn⟩
  refine own_to (fun t k => X354.caload hx (j := st) (v := (.int (own_at xs st))) (by rw [e354]; exact Ar355.1) (State.isArrayOf_alike hZ.alike Ar355.2.1) Ar355.2.2 hin356 (Has.at Ha355 hin356 (own_getm xs _)) (g := (mkF m 25 #[rv a1, .val (.long (0 : Int64)), .second, own_i 0, .val (.int st), .unset] [(.int st), (.ref a2)])) rfl rfl (hb hby own_d21_25) _ k) ?_
  show own_Fin _ _ _ _ _ _ (T354.setTop (mkF m 26 #[rv a1, .val (.long (0 : Int64)), .second, own_i 0, .val (.int st), .unset] [(.int (own_at xs st))]))
  refine own_to (fun t k => XS.istore X354.here hx rfl (hb hby own_d21_26) rfl (l' := #[rv a1, .val (.long (0 : Int64)), .second, own_i 0, .val (.int st), .val (.int (own_at xs st))]) rfl k) ?_
  show own_Fin _ _ _ _ _ _ (T354.setTop (mkF m 28 #[rv a1, .val (.long (0 : Int64)), .second, own_i 0, .val (.int st), .val (.int (own_at xs st))] []))
  refine own_to (fun t k => XS.iload X354.here hx rfl (hb hby own_d21_28) rfl k) ?_
  refine own_to (fun t k => XS.bipush X354.here hx rfl (hb hby own_d21_30) k) ?_
  by_cases hc32_357 : (own_at xs st) = (46 : Int32)
  ·
    show own_Fin _ _ _ _ _ _ (T354.setTop (mkF m 32 #[rv a1, .val (.long (0 : Int64)), .second, own_i 0, .val (.int st), .val (.int (own_at xs st))] [(.int (46 : Int32)), (.int (own_at xs st))]))
    refine own_to (fun t k => XS.icmpYes X354.here hx rfl (pc0 := 32) (pc' := 62) rfl (hb hby own_d21_32) rfl (teq hc32_357).1 (by decide) (by decide) k) ?_
    show own_Fin _ _ _ _ _ _ (T354.setTop (mkF m 62 #[rv a1, .val (.long (0 : Int64)), .second, own_i 0, .val (.int st), .val (.int (own_at xs st))] []))
    refine own_to (fun t k => XS.iinc X354.here hx rfl (hb hby own_d21_62) rfl (l' := #[rv a1, .val (.long (0 : Int64)), .second, own_i 0, .val (.int (st + (1 : Int32))), .val (.int (own_at xs st))]) rfl k) ?_
    show own_Fin _ _ _ _ _ _ (T354.setTop (mkF m 65 #[rv a1, .val (.long (0 : Int64)), .second, own_i 0, .val (.int (st + (1 : Int32))), .val (.int (own_at xs st))] []))
    refine own_to (fun t k => XS.goto X354.here hx rfl (pc0 := 65) (pc' := 10) rfl (hb hby own_d21_65) (by decide) (by decide) k) ?_
    show own_Fin _ _ _ _ _ _ (T354.setTop (mkF m 10 #[rv a1, .val (.long (0 : Int64)), .second, own_i 0, .val (.int (st + (1 : Int32))), .val (.int (own_at xs st))] []))
    exact loop r0 _ (st + (1 : Int32)) (0 : Int64) (0 : Int32) (own_at xs st) X354 e354 hinc.2 (by rw [hinc.1]; omega) (by rw [← hq]; exact (((if_pos hc32_357).trans rfl)).symm)
  ·
    show own_Fin _ _ _ _ _ _ (T354.setTop (mkF m 32 #[rv a1, .val (.long (0 : Int64)), .second, own_i 0, .val (.int st), .val (.int (own_at xs st))] [(.int (46 : Int32)), (.int (own_at xs st))]))
    refine own_to (fun t k => XS.icmpNo X354.here hx rfl (hb hby own_d21_32) rfl (feq hc32_357).1 k) ?_
    show own_Fin _ _ _ _ _ _ (T354.setTop (mkF m 35 #[rv a1, .val (.long (0 : Int64)), .second, own_i 0, .val (.int st), .val (.int (own_at xs st))] []))
    refine own_to (fun t k => XS.lloadN X354.here hx rfl (hb hby own_d21_35) rfl k) ?_
    show own_Fin _ _ _ _ _ _ (T354.setTop (mkF m 36 #[rv a1, .val (.long (0 : Int64)), .second, own_i 0, .val (.int st), .val (.int (own_at xs st))] [(.long (0 : Int64))]))
    refine own_to (fun t k => X354.ldc2Long hx hown (mvT hZ (own_W hw 138 rfl)) (g := (mkF m 36 #[rv a1, .val (.long (0 : Int64)), .second, own_i 0, .val (.int st), .val (.int (own_at xs st))] [(.long (0 : Int64))])) rfl (hb hby own_d21_36) _ k) ?_
    show own_Fin _ _ _ _ _ _ (T354.setTop (mkF m 39 #[rv a1, .val (.long (0 : Int64)), .second, own_i 0, .val (.int st), .val (.int (own_at xs st))] [(.long (10 : Int64)), (.long (0 : Int64))]))
    refine own_to (fun t k => XS.lmul X354.here hx rfl (hb hby own_d21_39) rfl k) ?_
    show own_Fin _ _ _ _ _ _ (T354.setTop (mkF m 40 #[rv a1, .val (.long (0 : Int64)), .second, own_i 0, .val (.int st), .val (.int (own_at xs st))] [(.long ((0 : Int64) * (10 : Int64)))]))
    refine own_to (fun t k => XS.iload X354.here hx rfl (hb hby own_d21_40) rfl k) ?_
    refine own_to (fun t k => XS.bipush X354.here hx rfl (hb hby own_d21_42) k) ?_
    refine own_to (fun t k => XS.isub X354.here hx rfl (hb hby own_d21_44) rfl k) ?_
    show own_Fin _ _ _ _ _ _ (T354.setTop (mkF m 45 #[rv a1, .val (.long (0 : Int64)), .second, own_i 0, .val (.int st), .val (.int (own_at xs st))] [(.int ((own_at xs st) - (48 : Int32))), (.long ((0 : Int64) * (10 : Int64)))]))
    refine own_to (fun t k => XS.i2l X354.here hx rfl (hb hby own_d21_45) rfl k) ?_
    show own_Fin _ _ _ _ _ _ (T354.setTop (mkF m 46 #[rv a1, .val (.long (0 : Int64)), .second, own_i 0, .val (.int st), .val (.int (own_at xs st))] [(.long (((own_at xs st) - (48 : Int32)).toInt64)), (.long ((0 : Int64) * (10 : Int64)))]))
    refine own_to (fun t k => XS.ladd X354.here hx rfl (hb hby own_d21_46) rfl k) ?_
    show own_Fin _ _ _ _ _ _ (T354.setTop (mkF m 47 #[rv a1, .val (.long (0 : Int64)), .second, own_i 0, .val (.int st), .val (.int (own_at xs st))] [(.long (((0 : Int64) * (10 : Int64)) + (((own_at xs st) - (48 : Int32)).toInt64)))]))
    refine own_to (fun t k => XS.lstoreN X354.here hx rfl (hb hby own_d21_47) rfl (l' := #[rv a1, .val (.long (((0 : Int64) * (10 : Int64)) + (((own_at xs st) - (48 : Int32)).toInt64))), .second, own_i 0, .val (.int st), .val (.int (own_at xs st))]) rfl k) ?_
    show own_Fin _ _ _ _ _ _ (T354.setTop (mkF m 48 #[rv a1, .val (.long (((0 : Int64) * (10 : Int64)) + (((own_at xs st) - (48 : Int32)).toInt64))), .second, own_i 0, .val (.int st), .val (.int (own_at xs st))] []))
    refine own_to (fun t k => XS.iloadN X354.here hx rfl (hb hby own_d21_48) rfl k) ?_
    refine own_to (fun t k => XS.lloadN X354.here hx rfl (hb hby own_d21_49) rfl k) ?_
    refine own_to (fun t k => XS.lconst X354.here hx rfl (hb hby own_d21_50) k) ?_
    show own_Fin _ _ _ _ _ _ (T354.setTop (mkF m 51 #[rv a1, .val (.long (((0 : Int64) * (10 : Int64)) + (((own_at xs st) - (48 : Int32)).toInt64))), .second, own_i 0, .val (.int st), .val (.int (own_at xs st))] [(.long (0 : Int64)), (.long (((0 : Int64) * (10 : Int64)) + (((own_at xs st) - (48 : Int32)).toInt64))), (.int (0 : Int32))]))
    refine own_to (fun t k => XS.lcmp X354.here hx rfl (hb hby own_d21_51) rfl k) ?_
    show own_Fin _ _ _ _ _ _ (T354.setTop (mkF m 52 #[rv a1, .val (.long (((0 : Int64) * (10 : Int64)) + (((own_at xs st) - (48 : Int32)).toInt64))), .second, own_i 0, .val (.int st), .val (.int (own_at xs st))] [(.int (lcmpW (((0 : Int64) * (10 : Int64)) + (((own_at xs st) - (48 : Int32)).toInt64)) (0 : Int64))), (.int (0 : Int32))]))
    by_cases hc52_358 : (((0 : Int64) * (10 : Int64)) + (((own_at xs st) - (48 : Int32)).toInt64)) = (0 : Int64)
    ·
      show own_Fin _ _ _ _ _ _ (T354.setTop (mkF m 52 #[rv a1, .val (.long (((0 : Int64) * (10 : Int64)) + (((own_at xs st) - (48 : Int32)).toInt64))), .second, own_i 0, .val (.int st), .val (.int (own_at xs st))] [(.int (lcmpW (((0 : Int64) * (10 : Int64)) + (((own_at xs st) - (48 : Int32)).toInt64)) (0 : Int64))), (.int (0 : Int32))]))
      refine own_to (fun t k => XS.ifNo X354.here hx rfl (hb hby own_d21_52) rfl ((if0 _ _).trans (teq ((lw_eq _ _).mpr hc52_358)).2) k) ?_
      show own_Fin _ _ _ _ _ _ (T354.setTop (mkF m 55 #[rv a1, .val (.long (((0 : Int64) * (10 : Int64)) + (((own_at xs st) - (48 : Int32)).toInt64))), .second, own_i 0, .val (.int st), .val (.int (own_at xs st))] [(.int (0 : Int32))]))
      refine own_to (fun t k => XS.iconst X354.here hx rfl (hb hby own_d21_55) k) ?_
      refine own_to (fun t k => XS.goto X354.here hx rfl (pc0 := 56) (pc' := 60) rfl (hb hby own_d21_56) (by decide) (by decide) k) ?_
      show own_Fin _ _ _ _ _ _ (T354.setTop (mkF m 60 #[rv a1, .val (.long (((0 : Int64) * (10 : Int64)) + (((own_at xs st) - (48 : Int32)).toInt64))), .second, own_i 0, .val (.int st), .val (.int (own_at xs st))] [(.int (0 : Int32)), (.int (0 : Int32))]))
      refine own_to (fun t k => XS.iadd X354.here hx rfl (hb hby own_d21_60) rfl k) ?_
      show own_Fin _ _ _ _ _ _ (T354.setTop (mkF m 61 #[rv a1, .val (.long (((0 : Int64) * (10 : Int64)) + (((own_at xs st) - (48 : Int32)).toInt64))), .second, own_i 0, .val (.int st), .val (.int (own_at xs st))] [(.int ((0 : Int32) + (0 : Int32)))]))
      refine own_to (fun t k => XS.istoreN X354.here hx rfl (hb hby own_d21_61) rfl (l' := #[rv a1, .val (.long (((0 : Int64) * (10 : Int64)) + (((own_at xs st) - (48 : Int32)).toInt64))), .second, .val (.int ((0 : Int32) + (0 : Int32))), .val (.int st), .val (.int (own_at xs st))]) rfl k) ?_
      show own_Fin _ _ _ _ _ _ (T354.setTop (mkF m 62 #[rv a1, .val (.long (((0 : Int64) * (10 : Int64)) + (((own_at xs st) - (48 : Int32)).toInt64))), .second, .val (.int ((0 : Int32) + (0 : Int32))), .val (.int st), .val (.int (own_at xs st))] []))
      refine own_to (fun t k => XS.iinc X354.here hx rfl (hb hby own_d21_62) rfl (l' := #[rv a1, .val (.long (((0 : Int64) * (10 : Int64)) + (((own_at xs st) - (48 : Int32)).toInt64))), .second, .val (.int ((0 : Int32) + (0 : Int32))), .val (.int (st + (1 : Int32))), .val (.int (own_at xs st))]) rfl k) ?_
      show own_Fin _ _ _ _ _ _ (T354.setTop (mkF m 65 #[rv a1, .val (.long (((0 : Int64) * (10 : Int64)) + (((own_at xs st) - (48 : Int32)).toInt64))), .second, .val (.int ((0 : Int32) + (0 : Int32))), .val (.int (st + (1 : Int32))), .val (.int (own_at xs st))] []))
      refine own_to (fun t k => XS.goto X354.here hx rfl (pc0 := 65) (pc' := 10) rfl (hb hby own_d21_65) (by decide) (by decide) k) ?_
      show own_Fin _ _ _ _ _ _ (T354.setTop (mkF m 10 #[rv a1, .val (.long (((0 : Int64) * (10 : Int64)) + (((own_at xs st) - (48 : Int32)).toInt64))), .second, .val (.int ((0 : Int32) + (0 : Int32))), .val (.int (st + (1 : Int32))), .val (.int (own_at xs st))] []))
      exact loop r0 _ (st + (1 : Int32)) (((0 : Int64) * (10 : Int64)) + (((own_at xs st) - (48 : Int32)).toInt64)) ((0 : Int32) + (0 : Int32)) (own_at xs st) X354 e354 hinc.2 (by rw [hinc.1]; omega) (by rw [← hq]; exact (((if_neg hc32_357).trans ((if_pos hc52_358).trans rfl))).symm)
    ·
      show own_Fin _ _ _ _ _ _ (T354.setTop (mkF m 52 #[rv a1, .val (.long (((0 : Int64) * (10 : Int64)) + (((own_at xs st) - (48 : Int32)).toInt64))), .second, own_i 0, .val (.int st), .val (.int (own_at xs st))] [(.int (lcmpW (((0 : Int64) * (10 : Int64)) + (((own_at xs st) - (48 : Int32)).toInt64)) (0 : Int64))), (.int (0 : Int32))]))
      refine own_to (fun t k => XS.ifYes X354.here hx rfl (pc0 := 52) (pc' := 59) rfl (hb hby own_d21_52) rfl ((if0 _ _).trans (feq (fun z => hc52_358 ((lw_eq _ _).mp z))).2) (by decide) (by decide) k) ?_
      show own_Fin _ _ _ _ _ _ (T354.setTop (mkF m 59 #[rv a1, .val (.long (((0 : Int64) * (10 : Int64)) + (((own_at xs st) - (48 : Int32)).toInt64))), .second, own_i 0, .val (.int st), .val (.int (own_at xs st))] [(.int (0 : Int32))]))
      refine own_to (fun t k => XS.iconst X354.here hx rfl (hb hby own_d21_59) k) ?_
      refine own_to (fun t k => XS.iadd X354.here hx rfl (hb hby own_d21_60) rfl k) ?_
      show own_Fin _ _ _ _ _ _ (T354.setTop (mkF m 61 #[rv a1, .val (.long (((0 : Int64) * (10 : Int64)) + (((own_at xs st) - (48 : Int32)).toInt64))), .second, own_i 0, .val (.int st), .val (.int (own_at xs st))] [(.int ((0 : Int32) + (1 : Int32)))]))
      refine own_to (fun t k => XS.istoreN X354.here hx rfl (hb hby own_d21_61) rfl (l' := #[rv a1, .val (.long (((0 : Int64) * (10 : Int64)) + (((own_at xs st) - (48 : Int32)).toInt64))), .second, .val (.int ((0 : Int32) + (1 : Int32))), .val (.int st), .val (.int (own_at xs st))]) rfl k) ?_
      show own_Fin _ _ _ _ _ _ (T354.setTop (mkF m 62 #[rv a1, .val (.long (((0 : Int64) * (10 : Int64)) + (((own_at xs st) - (48 : Int32)).toInt64))), .second, .val (.int ((0 : Int32) + (1 : Int32))), .val (.int st), .val (.int (own_at xs st))] []))
      refine own_to (fun t k => XS.iinc X354.here hx rfl (hb hby own_d21_62) rfl (l' := #[rv a1, .val (.long (((0 : Int64) * (10 : Int64)) + (((own_at xs st) - (48 : Int32)).toInt64))), .second, .val (.int ((0 : Int32) + (1 : Int32))), .val (.int (st + (1 : Int32))), .val (.int (own_at xs st))]) rfl k) ?_
      show own_Fin _ _ _ _ _ _ (T354.setTop (mkF m 65 #[rv a1, .val (.long (((0 : Int64) * (10 : Int64)) + (((own_at xs st) - (48 : Int32)).toInt64))), .second, .val (.int ((0 : Int32) + (1 : Int32))), .val (.int (st + (1 : Int32))), .val (.int (own_at xs st))] []))
      refine own_to (fun t k => XS.goto X354.here hx rfl (pc0 := 65) (pc' := 10) rfl (hb hby own_d21_65) (by decide) (by decide) k) ?_
      show own_Fin _ _ _ _ _ _ (T354.setTop (mkF m 10 #[rv a1, .val (.long (((0 : Int64) * (10 : Int64)) + (((own_at xs st) - (48 : Int32)).toInt64))), .second, .val (.int ((0 : Int32) + (1 : Int32))), .val (.int (st + (1 : Int32))), .val (.int (own_at xs st))] []))
      exact loop r0 _ (st + (1 : Int32)) (((0 : Int64) * (10 : Int64)) + (((own_at xs st) - (48 : Int32)).toInt64)) ((0 : Int32) + (1 : Int32)) (own_at xs st) X354 e354 hinc.2 (by rw [hinc.1]; omega) (by rw [← hq]; exact (((if_neg hc32_357).trans ((if_neg hc52_358).trans rfl))).symm)
theorem own_d1_0 : decode method_3_code 0 = .ok (.iload_n 0, 1) := by decide +kernel
theorem own_d1_1 : decode method_3_code 1 = .ok (.iload_n 1, 1) := by decide +kernel
theorem own_d1_2 : decode method_3_code 2 = .ok (.isub, 1) := by decide +kernel
theorem own_d1_3 : decode method_3_code 3 = .ok (.istore 7, 2) := by decide +kernel
theorem own_d1_5 : decode method_3_code 5 = .ok (.iload 7, 2) := by decide +kernel
theorem own_d1_7 : decode method_3_code 7 = .ok (.ifCond .lt 9, 3) := by decide +kernel
theorem own_d1_10 : decode method_3_code 10 = .ok (.iload 7, 2) := by decide +kernel
theorem own_d1_12 : decode method_3_code 12 = .ok (.iload_n 2, 1) := by decide +kernel
theorem own_d1_13 : decode method_3_code 13 = .ok (.if_icmp .le 6, 3) := by decide +kernel
theorem own_d1_16 : decode method_3_code 16 = .ok (.bipush 32, 2) := by decide +kernel
theorem own_d1_18 : decode method_3_code 18 = .ok (.ireturn, 1) := by decide +kernel
theorem own_d1_19 : decode method_3_code 19 = .ok (.iload 7, 2) := by decide +kernel
theorem own_d1_21 : decode method_3_code 21 = .ok (.iload_n 3, 1) := by decide +kernel
theorem own_d1_22 : decode method_3_code 22 = .ok (.if_icmp .ne 6, 3) := by decide +kernel
theorem own_d1_25 : decode method_3_code 25 = .ok (.bipush 46, 2) := by decide +kernel
theorem own_d1_27 : decode method_3_code 27 = .ok (.ireturn, 1) := by decide +kernel
theorem own_d1_28 : decode method_3_code 28 = .ok (.iload 7, 2) := by decide +kernel
theorem own_d1_30 : decode method_3_code 30 = .ok (.iload_n 3, 1) := by decide +kernel
theorem own_d1_31 : decode method_3_code 31 = .ok (.if_icmp .ge 8, 3) := by decide +kernel
theorem own_d1_34 : decode method_3_code 34 = .ok (.iload 7, 2) := by decide +kernel
theorem own_d1_36 : decode method_3_code 36 = .ok (.goto 7, 3) := by decide +kernel
theorem own_d1_39 : decode method_3_code 39 = .ok (.iload 7, 2) := by decide +kernel
theorem own_d1_41 : decode method_3_code 41 = .ok (.iconst 1, 1) := by decide +kernel
theorem own_d1_42 : decode method_3_code 42 = .ok (.isub, 1) := by decide +kernel
theorem own_d1_43 : decode method_3_code 43 = .ok (.istore 8, 2) := by decide +kernel
theorem own_d1_45 : decode method_3_code 45 = .ok (.bipush 48, 2) := by decide +kernel
theorem own_d1_47 : decode method_3_code 47 = .ok (.lload 4, 2) := by decide +kernel
theorem own_d1_49 : decode method_3_code 49 = .ok (.aload 6, 2) := by decide +kernel
theorem own_d1_51 : decode method_3_code 51 = .ok (.iload_n 2, 1) := by decide +kernel
theorem own_d1_52 : decode method_3_code 52 = .ok (.iconst 1, 1) := by decide +kernel
theorem own_d1_53 : decode method_3_code 53 = .ok (.isub, 1) := by decide +kernel
theorem own_d1_54 : decode method_3_code 54 = .ok (.iload 8, 2) := by decide +kernel
theorem own_d1_56 : decode method_3_code 56 = .ok (.isub, 1) := by decide +kernel
theorem own_d1_57 : decode method_3_code 57 = .ok (.laload, 1) := by decide +kernel
theorem own_d1_58 : decode method_3_code 58 = .ok (.ldiv, 1) := by decide +kernel
theorem own_d1_59 : decode method_3_code 59 = .ok (.ldc2_w 7, 3) := by decide +kernel
theorem own_d1_62 : decode method_3_code 62 = .ok (.lrem, 1) := by decide +kernel
theorem own_d1_63 : decode method_3_code 63 = .ok (.l2i, 1) := by decide +kernel
theorem own_d1_64 : decode method_3_code 64 = .ok (.iadd, 1) := by decide +kernel
theorem own_d1_65 : decode method_3_code 65 = .ok (.i2c, 1) := by decide +kernel
theorem own_d1_66 : decode method_3_code 66 = .ok (.ireturn, 1) := by decide +kernel
theorem own_pn5 : plainName "com/example/libxqtype/libxqtype/ExpressionLexerUnscaledValuePinLaw" = true := by first | (simp [plainName, overriddenIn]; done) | decide +kernel
theorem own_chr_ef (m : MethodId) (i : Int32) (sg : Int32) (n : Int32) (pp : Int32) (w : Int64) (a6 : Addr) : entryFrame m #[(.int i), (.int sg), (.int n), (.int pp), (.long w), (.ref a6)] 9 = mkF m 0 #[.val (.int i), .val (.int sg), .val (.int n), .val (.int pp), .val (.long w), .second, rv a6, .unset, .unset] [] := by first | (simp [entryFrame, mkF, argsToLocals, Value.category]; done) | rfl
set_option maxRecDepth 65536 in
set_option maxHeartbeats 40000000 in
theorem own_chr (l : Launch) (Z : State) (a0 : Array Value) (hw : ∀ d ∈ tables_1, d.before a0 Z = true) (ws : List Jvm.Cond) (i : Int32) (sg : Int32) (n : Int32) (pp : Int32) (w : Int64) (a6 : Addr) (k9 : ClassId) (S : Nat) (N : Nat) (P : Nat) (W : Nat) (I : Nat) (h0 : Heap) (n0 : Nat) (Z0 : n0 ≤ h0.size) (V6 : Arv Z h0 a6 k9 .long (19 : Int32) (own_P.map Value.long) (.long (0 : Int64))) (HK : own_ok sg n pp w S N P W) (hi : i.toInt = I) (h20 : I ≤ 20) :
    own_Met l Z (⟨"com/example/libxqtype/libxqtype/ExpressionLexerUnscaledValuePinLaw", "ch", "(IIIIJ[J)C"⟩ : MethodName) method_3_code 9 (some .char) ws ({ frames := 0, cells := 0, slots := 0, locals := 0 } : Room) #[(.int i), (.int sg), (.int n), (.int pp), (.long w), (.ref a6)] h0 (fun v h L => v = some (.int (own_ch i sg n pp w)) ∧ Fr n0 L ∧ h = h0) := by
  refine own_enter (plainFor_of_name own_pn5) ?_
  intro p e s m below meth c s₁ X0 hx hZ hby hml hown hnm hret hlk e0
  have N0 := Fr.nil n0
  rw [own_chr_ef m i sg n pp w a6]
  show own_Fin _ _ _ _ _ _ (s₁.setTop (mkF m 0 #[.val (.int i), .val (.int sg), .val (.int n), .val (.int pp), .val (.long w), .second, rv a6, .unset, .unset] []))
  refine own_to (fun t k => XS.iloadN X0.here hx rfl (hb hby own_d1_0) rfl k) ?_
  refine own_to (fun t k => XS.iloadN X0.here hx rfl (hb hby own_d1_1) rfl k) ?_
  refine own_to (fun t k => XS.isub X0.here hx rfl (hb hby own_d1_2) rfl k) ?_
  show own_Fin _ _ _ _ _ _ (s₁.setTop (mkF m 3 #[.val (.int i), .val (.int sg), .val (.int n), .val (.int pp), .val (.long w), .second, rv a6, .unset, .unset] [(.int (i - sg))]))
  refine own_to (fun t k => XS.istore X0.here hx rfl (hb hby own_d1_3) rfl (l' := #[.val (.int i), .val (.int sg), .val (.int n), .val (.int pp), .val (.long w), .second, rv a6, .val (.int (i - sg)), .unset]) rfl k) ?_
  show own_Fin _ _ _ _ _ _ (s₁.setTop (mkF m 5 #[.val (.int i), .val (.int sg), .val (.int n), .val (.int pp), .val (.long w), .second, rv a6, .val (.int (i - sg)), .unset] []))
  refine own_to (fun t k => XS.iload X0.here hx rfl (hb hby own_d1_5) rfl k) ?_
  by_cases hc7_359 : (i - sg) < (0 : Int32)
  ·
    show own_Fin _ _ _ _ _ _ (s₁.setTop (mkF m 7 #[.val (.int i), .val (.int sg), .val (.int n), .val (.int pp), .val (.long w), .second, rv a6, .val (.int (i - sg)), .unset] [(.int (i - sg))]))
    refine own_to (fun t k => XS.ifYes X0.here hx rfl (pc0 := 7) (pc' := 16) rfl (hb hby own_d1_7) rfl ((if0 _ _).trans (tlt hc7_359).1) (by decide) (by decide) k) ?_
    show own_Fin _ _ _ _ _ _ (s₁.setTop (mkF m 16 #[.val (.int i), .val (.int sg), .val (.int n), .val (.int pp), .val (.long w), .second, rv a6, .val (.int (i - sg)), .unset] []))
    refine own_to (fun t k => XS.bipush X0.here hx rfl (hb hby own_d1_16) k) ?_
    refine own_retN X0 hx hlk (t := .char) hret (by simp) (hb hby own_d1_18) (by decide) (by decide) ?_
    try rw [e0]
    exact ⟨congrArg (fun z => some (Value.int z)) (Eq.symm (show own_ch i sg n pp w = _ from ((if_pos hc7_359).trans rfl))), N0, rfl⟩
  ·
    show own_Fin _ _ _ _ _ _ (s₁.setTop (mkF m 7 #[.val (.int i), .val (.int sg), .val (.int n), .val (.int pp), .val (.long w), .second, rv a6, .val (.int (i - sg)), .unset] [(.int (i - sg))]))
    refine own_to (fun t k => XS.ifNo X0.here hx rfl (hb hby own_d1_7) rfl ((if0 _ _).trans (flt hc7_359).1) k) ?_
    show own_Fin _ _ _ _ _ _ (s₁.setTop (mkF m 10 #[.val (.int i), .val (.int sg), .val (.int n), .val (.int pp), .val (.long w), .second, rv a6, .val (.int (i - sg)), .unset] []))
    refine own_to (fun t k => XS.iload X0.here hx rfl (hb hby own_d1_10) rfl k) ?_
    refine own_to (fun t k => XS.iloadN X0.here hx rfl (hb hby own_d1_12) rfl k) ?_
    show own_Fin _ _ _ _ _ _ (s₁.setTop (mkF m 13 #[.val (.int i), .val (.int sg), .val (.int n), .val (.int pp), .val (.long w), .second, rv a6, .val (.int (i - sg)), .unset] [(.int n), (.int (i - sg))]))
    by_cases hc13_360 : n < (i - sg)
    ·
      show own_Fin _ _ _ _ _ _ (s₁.setTop (mkF m 13 #[.val (.int i), .val (.int sg), .val (.int n), .val (.int pp), .val (.long w), .second, rv a6, .val (.int (i - sg)), .unset] [(.int n), (.int (i - sg))]))
      refine own_to (fun t k => XS.icmpNo X0.here hx rfl (hb hby own_d1_13) rfl (tlt hc13_360).2.2.2 k) ?_
      show own_Fin _ _ _ _ _ _ (s₁.setTop (mkF m 16 #[.val (.int i), .val (.int sg), .val (.int n), .val (.int pp), .val (.long w), .second, rv a6, .val (.int (i - sg)), .unset] []))
      refine own_to (fun t k => XS.bipush X0.here hx rfl (hb hby own_d1_16) k) ?_
      refine own_retN X0 hx hlk (t := .char) hret (by simp) (hb hby own_d1_18) (by decide) (by decide) ?_
      try rw [e0]
      exact ⟨congrArg (fun z => some (Value.int z)) (Eq.symm (show own_ch i sg n pp w = _ from ((if_neg hc7_359).trans ((if_pos hc13_360).trans rfl)))), N0, rfl⟩
    ·
      show own_Fin _ _ _ _ _ _ (s₁.setTop (mkF m 13 #[.val (.int i), .val (.int sg), .val (.int n), .val (.int pp), .val (.long w), .second, rv a6, .val (.int (i - sg)), .unset] [(.int n), (.int (i - sg))]))
      refine own_to (fun t k => XS.icmpYes X0.here hx rfl (pc0 := 13) (pc' := 19) rfl (hb hby own_d1_13) rfl (flt hc13_360).2.2.2 (by decide) (by decide) k) ?_
      show own_Fin _ _ _ _ _ _ (s₁.setTop (mkF m 19 #[.val (.int i), .val (.int sg), .val (.int n), .val (.int pp), .val (.long w), .second, rv a6, .val (.int (i - sg)), .unset] []))
      refine own_to (fun t k => XS.iload X0.here hx rfl (hb hby own_d1_19) rfl k) ?_
      refine own_to (fun t k => XS.iloadN X0.here hx rfl (hb hby own_d1_21) rfl k) ?_
      by_cases hc22_361 : (i - sg) = pp
      ·
        show own_Fin _ _ _ _ _ _ (s₁.setTop (mkF m 22 #[.val (.int i), .val (.int sg), .val (.int n), .val (.int pp), .val (.long w), .second, rv a6, .val (.int (i - sg)), .unset] [(.int pp), (.int (i - sg))]))
        refine own_to (fun t k => XS.icmpNo X0.here hx rfl (hb hby own_d1_22) rfl (teq hc22_361).2 k) ?_
        show own_Fin _ _ _ _ _ _ (s₁.setTop (mkF m 25 #[.val (.int i), .val (.int sg), .val (.int n), .val (.int pp), .val (.long w), .second, rv a6, .val (.int (i - sg)), .unset] []))
        refine own_to (fun t k => XS.bipush X0.here hx rfl (hb hby own_d1_25) k) ?_
        show own_Fin _ _ _ _ _ _ (s₁.setTop (mkF m 27 #[.val (.int i), .val (.int sg), .val (.int n), .val (.int pp), .val (.long w), .second, rv a6, .val (.int (i - sg)), .unset] [(.int (46 : Int32))]))
        refine own_retN X0 hx hlk (t := .char) hret (by simp) (hb hby own_d1_27) (by decide) (by decide) ?_
        try rw [e0]
        exact ⟨congrArg (fun z => some (Value.int z)) (Eq.symm (show own_ch i sg n pp w = _ from ((if_neg hc7_359).trans ((if_neg hc13_360).trans ((if_pos hc22_361).trans rfl))))), N0, rfl⟩
      ·
        show own_Fin _ _ _ _ _ _ (s₁.setTop (mkF m 22 #[.val (.int i), .val (.int sg), .val (.int n), .val (.int pp), .val (.long w), .second, rv a6, .val (.int (i - sg)), .unset] [(.int pp), (.int (i - sg))]))
        refine own_to (fun t k => XS.icmpYes X0.here hx rfl (pc0 := 22) (pc' := 28) rfl (hb hby own_d1_22) rfl (feq hc22_361).2 (by decide) (by decide) k) ?_
        show own_Fin _ _ _ _ _ _ (s₁.setTop (mkF m 28 #[.val (.int i), .val (.int sg), .val (.int n), .val (.int pp), .val (.long w), .second, rv a6, .val (.int (i - sg)), .unset] []))
        refine own_to (fun t k => XS.iload X0.here hx rfl (hb hby own_d1_28) rfl k) ?_
        show own_Fin _ _ _ _ _ _ (s₁.setTop (mkF m 30 #[.val (.int i), .val (.int sg), .val (.int n), .val (.int pp), .val (.long w), .second, rv a6, .val (.int (i - sg)), .unset] [(.int (i - sg))]))
        refine own_to (fun t k => XS.iloadN X0.here hx rfl (hb hby own_d1_30) rfl k) ?_
        by_cases hc31_362 : (i - sg) < pp
        ·
          show own_Fin _ _ _ _ _ _ (s₁.setTop (mkF m 31 #[.val (.int i), .val (.int sg), .val (.int n), .val (.int pp), .val (.long w), .second, rv a6, .val (.int (i - sg)), .unset] [(.int pp), (.int (i - sg))]))
          refine own_to (fun t k => XS.icmpNo X0.here hx rfl (hb hby own_d1_31) rfl (tlt hc31_362).2.1 k) ?_
          show own_Fin _ _ _ _ _ _ (s₁.setTop (mkF m 34 #[.val (.int i), .val (.int sg), .val (.int n), .val (.int pp), .val (.long w), .second, rv a6, .val (.int (i - sg)), .unset] []))
          refine own_to (fun t k => XS.iload X0.here hx rfl (hb hby own_d1_34) rfl k) ?_
          refine own_to (fun t k => XS.goto X0.here hx rfl (pc0 := 36) (pc' := 43) rfl (hb hby own_d1_36) (by decide) (by decide) k) ?_
          show own_Fin _ _ _ _ _ _ (s₁.setTop (mkF m 43 #[.val (.int i), .val (.int sg), .val (.int n), .val (.int pp), .val (.long w), .second, rv a6, .val (.int (i - sg)), .unset] [(.int (i - sg))]))
          refine own_to (fun t k => XS.istore X0.here hx rfl (hb hby own_d1_43) rfl (l' := #[.val (.int i), .val (.int sg), .val (.int n), .val (.int pp), .val (.long w), .second, rv a6, .val (.int (i - sg)), .val (.int (i - sg))]) rfl k) ?_
          show own_Fin _ _ _ _ _ _ (s₁.setTop (mkF m 45 #[.val (.int i), .val (.int sg), .val (.int n), .val (.int pp), .val (.long w), .second, rv a6, .val (.int (i - sg)), .val (.int (i - sg))] []))
          refine own_to (fun t k => XS.bipush X0.here hx rfl (hb hby own_d1_45) k) ?_
          refine own_to (fun t k => XS.lload X0.here hx rfl (hb hby own_d1_47) rfl k) ?_
          refine own_to (fun t k => XS.aload X0.here hx rfl (hb hby own_d1_49) rfl rfl k) ?_
          show own_Fin _ _ _ _ _ _ (s₁.setTop (mkF m 51 #[.val (.int i), .val (.int sg), .val (.int n), .val (.int pp), .val (.long w), .second, rv a6, .val (.int (i - sg)), .val (.int (i - sg))] [(.ref a6), (.long w), (.int (48 : Int32))]))
          refine own_to (fun t k => XS.iloadN X0.here hx rfl (hb hby own_d1_51) rfl k) ?_
          refine own_to (fun t k => XS.iconst X0.here hx rfl (hb hby own_d1_52) k) ?_
          refine own_to (fun t k => XS.isub X0.here hx rfl (hb hby own_d1_53) rfl k) ?_
          show own_Fin _ _ _ _ _ _ (s₁.setTop (mkF m 54 #[.val (.int i), .val (.int sg), .val (.int n), .val (.int pp), .val (.long w), .second, rv a6, .val (.int (i - sg)), .val (.int (i - sg))] [(.int (n - (1 : Int32))), (.ref a6), (.long w), (.int (48 : Int32))]))
          refine own_to (fun t k => XS.iload X0.here hx rfl (hb hby own_d1_54) rfl k) ?_
          refine own_to (fun t k => XS.isub X0.here hx rfl (hb hby own_d1_56) rfl k) ?_
          show own_Fin _ _ _ _ _ _ (s₁.setTop (mkF m 57 #[.val (.int i), .val (.int sg), .val (.int n), .val (.int pp), .val (.long w), .second, rv a6, .val (.int (i - sg)), .val (.int (i - sg))] [(.int ((n - (1 : Int32)) - (i - sg))), (.ref a6), (.long w), (.int (48 : Int32))]))
          have ix := own_ia HK hi h20 hc7_359 hc13_360 hc22_361 hc31_362
          have hN : N ≤ 19 := HK.2.2.2.2.2.2.1
          have iv : ((n - (1 : Int32)) - (i - sg)).toInt = ((N - 1 - (I - S) : Nat) : Int) := ix.2.2
          have il : N - 1 - (I - S) ≤ 18 := by have := ix.2.1; omega
          obtain ⟨cl363, Ar363, qa363, Sa363, Na363, Ha363, Ga363⟩ := id V6
          have hin364 : ¬ (((n - (1 : Int32)) - (i - sg)) < 0 ∨ cl363.slots.size ≤ (((n - (1 : Int32)) - (i - sg))).toNatClampNeg) := inb_of Sa363 (own_inI iv il)
          refine own_to (fun t k => X0.laload hx (j := ((n - (1 : Int32)) - (i - sg))) (v := (.long (own_pw ((n - (1 : Int32)) - (i - sg))))) (by rw [e0]; exact Ar363.1) (State.isArrayOf_alike hZ.alike Ar363.2.1) Ar363.2.2 hin364 (Has.at Ha363 hin364 (own_getp _)) (g := (mkF m 57 #[.val (.int i), .val (.int sg), .val (.int n), .val (.int pp), .val (.long w), .second, rv a6, .val (.int (i - sg)), .val (.int (i - sg))] [(.int ((n - (1 : Int32)) - (i - sg))), (.ref a6), (.long w), (.int (48 : Int32))])) rfl rfl (hb hby own_d1_57) _ k) ?_
          show own_Fin _ _ _ _ _ _ (s₁.setTop (mkF m 58 #[.val (.int i), .val (.int sg), .val (.int n), .val (.int pp), .val (.long w), .second, rv a6, .val (.int (i - sg)), .val (.int (i - sg))] [(.long (own_pw ((n - (1 : Int32)) - (i - sg)))), (.long w), (.int (48 : Int32))]))
          refine own_to (fun t k => XS.ldiv X0.here hx rfl (hb hby own_d1_58) rfl (own_pwz iv il) k) ?_
          show own_Fin _ _ _ _ _ _ (s₁.setTop (mkF m 59 #[.val (.int i), .val (.int sg), .val (.int n), .val (.int pp), .val (.long w), .second, rv a6, .val (.int (i - sg)), .val (.int (i - sg))] [(.long (w / (own_pw ((n - (1 : Int32)) - (i - sg))))), (.int (48 : Int32))]))
          refine own_to (fun t k => X0.ldc2Long hx hown (mvT hZ (own_W hw 1 rfl)) (g := (mkF m 59 #[.val (.int i), .val (.int sg), .val (.int n), .val (.int pp), .val (.long w), .second, rv a6, .val (.int (i - sg)), .val (.int (i - sg))] [(.long (w / (own_pw ((n - (1 : Int32)) - (i - sg))))), (.int (48 : Int32))])) rfl (hb hby own_d1_59) _ k) ?_
          show own_Fin _ _ _ _ _ _ (s₁.setTop (mkF m 62 #[.val (.int i), .val (.int sg), .val (.int n), .val (.int pp), .val (.long w), .second, rv a6, .val (.int (i - sg)), .val (.int (i - sg))] [(.long (10 : Int64)), (.long (w / (own_pw ((n - (1 : Int32)) - (i - sg))))), (.int (48 : Int32))]))
          refine own_to (fun t k => XS.lrem X0.here hx rfl (hb hby own_d1_62) rfl (by decide) k) ?_
          show own_Fin _ _ _ _ _ _ (s₁.setTop (mkF m 63 #[.val (.int i), .val (.int sg), .val (.int n), .val (.int pp), .val (.long w), .second, rv a6, .val (.int (i - sg)), .val (.int (i - sg))] [(.long ((w / (own_pw ((n - (1 : Int32)) - (i - sg)))) - (((w / (own_pw ((n - (1 : Int32)) - (i - sg)))) / (10 : Int64)) * (10 : Int64)))), (.int (48 : Int32))]))
          refine own_to (fun t k => XS.l2i X0.here hx rfl (hb hby own_d1_63) rfl k) ?_
          show own_Fin _ _ _ _ _ _ (s₁.setTop (mkF m 64 #[.val (.int i), .val (.int sg), .val (.int n), .val (.int pp), .val (.long w), .second, rv a6, .val (.int (i - sg)), .val (.int (i - sg))] [(.int (((w / (own_pw ((n - (1 : Int32)) - (i - sg)))) - (((w / (own_pw ((n - (1 : Int32)) - (i - sg)))) / (10 : Int64)) * (10 : Int64))).toInt32)), (.int (48 : Int32))]))
          refine own_to (fun t k => XS.iadd X0.here hx rfl (hb hby own_d1_64) rfl k) ?_
          show own_Fin _ _ _ _ _ _ (s₁.setTop (mkF m 65 #[.val (.int i), .val (.int sg), .val (.int n), .val (.int pp), .val (.long w), .second, rv a6, .val (.int (i - sg)), .val (.int (i - sg))] [(.int ((48 : Int32) + (((w / (own_pw ((n - (1 : Int32)) - (i - sg)))) - (((w / (own_pw ((n - (1 : Int32)) - (i - sg)))) / (10 : Int64)) * (10 : Int64))).toInt32)))]))
          refine own_to (fun t k => XS.i2c X0.here hx rfl (hb hby own_d1_65) rfl k) ?_
          show own_Fin _ _ _ _ _ _ (s₁.setTop (mkF m 66 #[.val (.int i), .val (.int sg), .val (.int n), .val (.int pp), .val (.long w), .second, rv a6, .val (.int (i - sg)), .val (.int (i - sg))] [(.int (((48 : Int32) + (((w / (own_pw ((n - (1 : Int32)) - (i - sg)))) - (((w / (own_pw ((n - (1 : Int32)) - (i - sg)))) / (10 : Int64)) * (10 : Int64))).toInt32)).toUInt32.toUInt16.toUInt32.toInt32))]))
          refine own_retN X0 hx hlk (t := .char) hret (by simp) (hb hby own_d1_66) (by decide) (by decide) ?_
          try rw [e0]
          have b8 := own_b8 (own_dgtv HK.2.2.2.1 iv il) (by have := Nat.mod_lt (W / 10 ^ (N - 1 - (I - S))) (show 0 < 10 by decide); omega)
          exact ⟨congrArg (fun z => some (Value.int z)) ((own_c2 b8.1 b8.2).trans (Eq.symm (show own_ch i sg n pp w = _ from ((if_neg hc7_359).trans ((if_neg hc13_360).trans ((if_neg hc22_361).trans ((if_pos hc31_362).trans rfl))))))), N0, rfl⟩
        ·
          show own_Fin _ _ _ _ _ _ (s₁.setTop (mkF m 31 #[.val (.int i), .val (.int sg), .val (.int n), .val (.int pp), .val (.long w), .second, rv a6, .val (.int (i - sg)), .unset] [(.int pp), (.int (i - sg))]))
          refine own_to (fun t k => XS.icmpYes X0.here hx rfl (pc0 := 31) (pc' := 39) rfl (hb hby own_d1_31) rfl (flt hc31_362).2.1 (by decide) (by decide) k) ?_
          show own_Fin _ _ _ _ _ _ (s₁.setTop (mkF m 39 #[.val (.int i), .val (.int sg), .val (.int n), .val (.int pp), .val (.long w), .second, rv a6, .val (.int (i - sg)), .unset] []))
          refine own_to (fun t k => XS.iload X0.here hx rfl (hb hby own_d1_39) rfl k) ?_
          refine own_to (fun t k => XS.iconst X0.here hx rfl (hb hby own_d1_41) k) ?_
          show own_Fin _ _ _ _ _ _ (s₁.setTop (mkF m 42 #[.val (.int i), .val (.int sg), .val (.int n), .val (.int pp), .val (.long w), .second, rv a6, .val (.int (i - sg)), .unset] [(.int (1 : Int32)), (.int (i - sg))]))
          refine own_to (fun t k => XS.isub X0.here hx rfl (hb hby own_d1_42) rfl k) ?_
          show own_Fin _ _ _ _ _ _ (s₁.setTop (mkF m 43 #[.val (.int i), .val (.int sg), .val (.int n), .val (.int pp), .val (.long w), .second, rv a6, .val (.int (i - sg)), .unset] [(.int ((i - sg) - (1 : Int32)))]))
          refine own_to (fun t k => XS.istore X0.here hx rfl (hb hby own_d1_43) rfl (l' := #[.val (.int i), .val (.int sg), .val (.int n), .val (.int pp), .val (.long w), .second, rv a6, .val (.int (i - sg)), .val (.int ((i - sg) - (1 : Int32)))]) rfl k) ?_
          show own_Fin _ _ _ _ _ _ (s₁.setTop (mkF m 45 #[.val (.int i), .val (.int sg), .val (.int n), .val (.int pp), .val (.long w), .second, rv a6, .val (.int (i - sg)), .val (.int ((i - sg) - (1 : Int32)))] []))
          refine own_to (fun t k => XS.bipush X0.here hx rfl (hb hby own_d1_45) k) ?_
          refine own_to (fun t k => XS.lload X0.here hx rfl (hb hby own_d1_47) rfl k) ?_
          refine own_to (fun t k => XS.aload X0.here hx rfl (hb hby own_d1_49) rfl rfl k) ?_
          show own_Fin _ _ _ _ _ _ (s₁.setTop (mkF m 51 #[.val (.int i), .val (.int sg), .val (.int n), .val (.int pp), .val (.long w), .second, rv a6, .val (.int (i - sg)), .val (.int ((i - sg) - (1 : Int32)))] [(.ref a6), (.long w), (.int (48 : Int32))]))
          refine own_to (fun t k => XS.iloadN X0.here hx rfl (hb hby own_d1_51) rfl k) ?_
          refine own_to (fun t k => XS.iconst X0.here hx rfl (hb hby own_d1_52) k) ?_
          refine own_to (fun t k => XS.isub X0.here hx rfl (hb hby own_d1_53) rfl k) ?_
          show own_Fin _ _ _ _ _ _ (s₁.setTop (mkF m 54 #[.val (.int i), .val (.int sg), .val (.int n), .val (.int pp), .val (.long w), .second, rv a6, .val (.int (i - sg)), .val (.int ((i - sg) - (1 : Int32)))] [(.int (n - (1 : Int32))), (.ref a6), (.long w), (.int (48 : Int32))]))
          refine own_to (fun t k => XS.iload X0.here hx rfl (hb hby own_d1_54) rfl k) ?_
          refine own_to (fun t k => XS.isub X0.here hx rfl (hb hby own_d1_56) rfl k) ?_
          show own_Fin _ _ _ _ _ _ (s₁.setTop (mkF m 57 #[.val (.int i), .val (.int sg), .val (.int n), .val (.int pp), .val (.long w), .second, rv a6, .val (.int (i - sg)), .val (.int ((i - sg) - (1 : Int32)))] [(.int ((n - (1 : Int32)) - ((i - sg) - (1 : Int32)))), (.ref a6), (.long w), (.int (48 : Int32))]))
          have ix := own_ib HK hi h20 hc7_359 hc13_360 hc22_361 hc31_362
          have hN : N ≤ 19 := HK.2.2.2.2.2.2.1
          have iv : ((n - (1 : Int32)) - ((i - sg) - (1 : Int32))).toInt = ((N - (I - S) : Nat) : Int) := ix.2.2.2
          have il : N - (I - S) ≤ 18 := by have := ix.2.1; omega
          obtain ⟨cl365, Ar365, qa365, Sa365, Na365, Ha365, Ga365⟩ := id V6
          have hin366 : ¬ (((n - (1 : Int32)) - ((i - sg) - (1 : Int32))) < 0 ∨ cl365.slots.size ≤ (((n - (1 : Int32)) - ((i - sg) - (1 : Int32)))).toNatClampNeg) := inb_of Sa365 (own_inI iv il)
          refine own_to (fun t k => X0.laload hx (j := ((n - (1 : Int32)) - ((i - sg) - (1 : Int32)))) (v := (.long (own_pw ((n - (1 : Int32)) - ((i - sg) - (1 : Int32)))))) (by rw [e0]; exact Ar365.1) (State.isArrayOf_alike hZ.alike Ar365.2.1) Ar365.2.2 hin366 (Has.at Ha365 hin366 (own_getp _)) (g := (mkF m 57 #[.val (.int i), .val (.int sg), .val (.int n), .val (.int pp), .val (.long w), .second, rv a6, .val (.int (i - sg)), .val (.int ((i - sg) - (1 : Int32)))] [(.int ((n - (1 : Int32)) - ((i - sg) - (1 : Int32)))), (.ref a6), (.long w), (.int (48 : Int32))])) rfl rfl (hb hby own_d1_57) _ k) ?_
          show own_Fin _ _ _ _ _ _ (s₁.setTop (mkF m 58 #[.val (.int i), .val (.int sg), .val (.int n), .val (.int pp), .val (.long w), .second, rv a6, .val (.int (i - sg)), .val (.int ((i - sg) - (1 : Int32)))] [(.long (own_pw ((n - (1 : Int32)) - ((i - sg) - (1 : Int32))))), (.long w), (.int (48 : Int32))]))
          refine own_to (fun t k => XS.ldiv X0.here hx rfl (hb hby own_d1_58) rfl (own_pwz iv il) k) ?_
          show own_Fin _ _ _ _ _ _ (s₁.setTop (mkF m 59 #[.val (.int i), .val (.int sg), .val (.int n), .val (.int pp), .val (.long w), .second, rv a6, .val (.int (i - sg)), .val (.int ((i - sg) - (1 : Int32)))] [(.long (w / (own_pw ((n - (1 : Int32)) - ((i - sg) - (1 : Int32)))))), (.int (48 : Int32))]))
          refine own_to (fun t k => X0.ldc2Long hx hown (mvT hZ (own_W hw 1 rfl)) (g := (mkF m 59 #[.val (.int i), .val (.int sg), .val (.int n), .val (.int pp), .val (.long w), .second, rv a6, .val (.int (i - sg)), .val (.int ((i - sg) - (1 : Int32)))] [(.long (w / (own_pw ((n - (1 : Int32)) - ((i - sg) - (1 : Int32)))))), (.int (48 : Int32))])) rfl (hb hby own_d1_59) _ k) ?_
          show own_Fin _ _ _ _ _ _ (s₁.setTop (mkF m 62 #[.val (.int i), .val (.int sg), .val (.int n), .val (.int pp), .val (.long w), .second, rv a6, .val (.int (i - sg)), .val (.int ((i - sg) - (1 : Int32)))] [(.long (10 : Int64)), (.long (w / (own_pw ((n - (1 : Int32)) - ((i - sg) - (1 : Int32)))))), (.int (48 : Int32))]))
          refine own_to (fun t k => XS.lrem X0.here hx rfl (hb hby own_d1_62) rfl (by decide) k) ?_
          show own_Fin _ _ _ _ _ _ (s₁.setTop (mkF m 63 #[.val (.int i), .val (.int sg), .val (.int n), .val (.int pp), .val (.long w), .second, rv a6, .val (.int (i - sg)), .val (.int ((i - sg) - (1 : Int32)))] [(.long ((w / (own_pw ((n - (1 : Int32)) - ((i - sg) - (1 : Int32))))) - (((w / (own_pw ((n - (1 : Int32)) - ((i - sg) - (1 : Int32))))) / (10 : Int64)) * (10 : Int64)))), (.int (48 : Int32))]))
          refine own_to (fun t k => XS.l2i X0.here hx rfl (hb hby own_d1_63) rfl k) ?_
          show own_Fin _ _ _ _ _ _ (s₁.setTop (mkF m 64 #[.val (.int i), .val (.int sg), .val (.int n), .val (.int pp), .val (.long w), .second, rv a6, .val (.int (i - sg)), .val (.int ((i - sg) - (1 : Int32)))] [(.int (((w / (own_pw ((n - (1 : Int32)) - ((i - sg) - (1 : Int32))))) - (((w / (own_pw ((n - (1 : Int32)) - ((i - sg) - (1 : Int32))))) / (10 : Int64)) * (10 : Int64))).toInt32)), (.int (48 : Int32))]))
          refine own_to (fun t k => XS.iadd X0.here hx rfl (hb hby own_d1_64) rfl k) ?_
          show own_Fin _ _ _ _ _ _ (s₁.setTop (mkF m 65 #[.val (.int i), .val (.int sg), .val (.int n), .val (.int pp), .val (.long w), .second, rv a6, .val (.int (i - sg)), .val (.int ((i - sg) - (1 : Int32)))] [(.int ((48 : Int32) + (((w / (own_pw ((n - (1 : Int32)) - ((i - sg) - (1 : Int32))))) - (((w / (own_pw ((n - (1 : Int32)) - ((i - sg) - (1 : Int32))))) / (10 : Int64)) * (10 : Int64))).toInt32)))]))
          refine own_to (fun t k => XS.i2c X0.here hx rfl (hb hby own_d1_65) rfl k) ?_
          show own_Fin _ _ _ _ _ _ (s₁.setTop (mkF m 66 #[.val (.int i), .val (.int sg), .val (.int n), .val (.int pp), .val (.long w), .second, rv a6, .val (.int (i - sg)), .val (.int ((i - sg) - (1 : Int32)))] [(.int (((48 : Int32) + (((w / (own_pw ((n - (1 : Int32)) - ((i - sg) - (1 : Int32))))) - (((w / (own_pw ((n - (1 : Int32)) - ((i - sg) - (1 : Int32))))) / (10 : Int64)) * (10 : Int64))).toInt32)).toUInt32.toUInt16.toUInt32.toInt32))]))
          refine own_retN X0 hx hlk (t := .char) hret (by simp) (hb hby own_d1_66) (by decide) (by decide) ?_
          try rw [e0]
          have b8 := own_b8 (own_dgtv HK.2.2.2.1 iv il) (by have := Nat.mod_lt (W / 10 ^ (N - (I - S))) (show 0 < 10 by decide); omega)
          exact ⟨congrArg (fun z => some (Value.int z)) ((own_c2 b8.1 b8.2).trans (Eq.symm (show own_ch i sg n pp w = _ from ((if_neg hc7_359).trans ((if_neg hc13_360).trans ((if_neg hc22_361).trans ((if_neg hc31_362).trans rfl))))))), N0, rfl⟩
theorem own_b0 {x : Int32} {A : Nat} (h : x.toInt = A) : ¬ x < 0 := by
  rw [own_lt32, h, show (0 : Int32).toInt = 0 from rfl]; omega
theorem own_pd14 : parseMethodDescriptor "(IIIIJ[J)C" = some ⟨[.int, .int, .int, .int, .long, (.array .long)], some .char⟩ := by decide +kernel
theorem own_pd15 : parseMethodDescriptor "([C)V" = some ⟨[(.array .char)], none⟩ := by decide +kernel
theorem own_pd16 : parseMethodDescriptor "(Ljava/lang/String;)V" = some ⟨[(.object "java/lang/String")], none⟩ := by decide +kernel
theorem own_pd17 : parseMethodDescriptor "()J" = some ⟨[], some .long⟩ := by decide +kernel
def own_w (vv : Int64) (n : Int32) : Int64 := (if n = (19 : Int32) then vv else (vv - ((vv / (own_pw n)) * (own_pw n))))
theorem own_rm0_ef (m : MethodId) (q1 : Int64) (p2 : Int32) (p3 : Int32) (p4 : Int32) : entryFrame m #[(.long q1), (.int p2), (.int p3), (.int p4)] maxLocals = mkF m 0 #[.val (.long q1), .second, .val (.int p2), .val (.int p3), .val (.int p4), .unset, .unset, .unset, .unset, .unset, .unset, .unset, .unset, .unset, .unset, .unset, .unset] [] := by first | (simp [entryFrame, mkF, argsToLocals, Value.category, maxLocals]; done) | rfl
set_option maxRecDepth 65536 in
set_option maxHeartbeats 40000000 in
theorem own_rm0 (l : Launch) (Z : State) (a0 : Array Value) (hw : ∀ d ∈ tables_1, d.before a0 Z = true) (ws : List Jvm.Cond) (cs : Int32) (wI : Addr) (wD : Addr) (wT : Addr) (cT : Cell) (q1 : Int64) (p2 : Int32) (p3 : Int32) (p4 : Int32) (h0 : Heap) (n0 : Nat) (Z0 : n0 ≤ h0.size) (O0 : Old Z n0 h0) (SS : Sta Z Z.heap "java/lang/String" "COMPACT_STRINGS" "Z" (.int cs)) (hcs : ¬ cs = (0 : Int32)) (SI : Sta Z Z.heap "com/example/libxqtype/libxqtype/ExpressionLexer$Kind" "INTEGER_LITERAL" "Lcom/example/libxqtype/libxqtype/ExpressionLexer$Kind;" (.ref wI)) (SD : Sta Z Z.heap "com/example/libxqtype/libxqtype/ExpressionLexer$Kind" "DECIMAL_LITERAL" "Lcom/example/libxqtype/libxqtype/ExpressionLexer$Kind;" (.ref wD)) (ST : Sta Z Z.heap "com/example/libxqtype/libxqtype/XmlCharacters" "ASCII_NAME_CHARACTERS" "[B" (.ref wT)) (AT : Arr Z Z.heap wT cT .byte) (hT : cT.slots.size = 128) (hT32 : cT.slots[(32 : Int32).toNatClampNeg]? = some (.int 0)) :
    own_Met l Z x code maxLocals ret ws room_1 #[(.long q1), (.int p2), (.int p3), (.int p4)] h0 (fun v h L => v = some (.int 1) ∧ Fr n0 L) := by
  refine own_enter (plainFor_of_name own_pn5) ?_
  intro p e s m below meth c s₁ X0 hx hZ hby hml hown hnm hret hlk e0
  have N0 := Fr.nil n0
  rw [own_rm0_ef m q1 p2 p3 p4]
  show own_Fin _ _ _ _ _ _ (s₁.setTop (mkF m 0 #[.val (.long q1), .second, .val (.int p2), .val (.int p3), .val (.int p4), .unset, .unset, .unset, .unset, .unset, .unset, .unset, .unset, .unset, .unset, .unset, .unset] []))
  refine own_to (fun t k => XS.bipush X0.here hx rfl (hb hby at_0) k) ?_
  obtain ⟨T367, h367, k367, X367, e367, E367, A367, A367x, st367⟩ := newPE X0 hx hZ (own_W hw 0 rfl) e0 (g := (mkF m 2 #[.val (.long q1), .second, .val (.int p2), .val (.int p3), .val (.int p4), .unset, .unset, .unset, .unset, .unset, .unset, .unset, .unset, .unset, .unset, .unset, .unset] [(.int (19 : Int32))])) rfl (hb hby at_2) rfl (by decide) (cap := 19) (by decide) (by decide) (by decide) (by decide) (ad := "[J") (by decide)
  obtain ⟨bp, q367⟩ : ∃ z, z = h0.size := ⟨_, rfl⟩
  rw [← q367] at A367 A367x st367
  have g_bp : n0 ≤ bp := Nat.le_trans Z0 (Nat.le_of_eq q367.symm)
  have O367 := O0.ext E367
  have V367 := Arv.new A367 (by decide)
  refine own_to (fun t k => st367 t k) ?_
  show own_Fin _ _ _ _ _ _ (T367.setTop (mkF m 4 #[.val (.long q1), .second, .val (.int p2), .val (.int p3), .val (.int p4), .unset, .unset, .unset, .unset, .unset, .unset, .unset, .unset, .unset, .unset, .unset, .unset] [(.ref bp)]))
  have V368p : Arv Z h367 bp k367 .long (19 : Int32) [(.long (0 : Int64)), (.long (0 : Int64)), (.long (0 : Int64)), (.long (0 : Int64)), (.long (0 : Int64)), (.long (0 : Int64)), (.long (0 : Int64)), (.long (0 : Int64)), (.long (0 : Int64)), (.long (0 : Int64)), (.long (0 : Int64)), (.long (0 : Int64)), (.long (0 : Int64)), (.long (0 : Int64)), (.long (0 : Int64)), (.long (0 : Int64)), (.long (0 : Int64)), (.long (0 : Int64)), (.long (0 : Int64))] (.long (0 : Int64)) := V367.pad (pad_rep [] (.long (0 : Int64)) 19)
  refine own_to (fun t k => XS.dup X367.here hx rfl (hb hby at_4) rfl rfl k) ?_
  refine own_to (fun t k => XS.iconst X367.here hx rfl (hb hby at_5) k) ?_
  show own_Fin _ _ _ _ _ _ (T367.setTop (mkF m 6 #[.val (.long q1), .second, .val (.int p2), .val (.int p3), .val (.int p4), .unset, .unset, .unset, .unset, .unset, .unset, .unset, .unset, .unset, .unset, .unset, .unset] [(.int (0 : Int32)), (.ref bp), (.ref bp)]))
  refine own_to (fun t k => XS.lconst X367.here hx rfl (hb hby at_6) k) ?_
  obtain ⟨cl369, Ar369, qa369, Sa369, Na369, Ha369, Ga369⟩ := id V368p
  have hin370 : ¬ ((0 : Int32) < 0 ∨ cl369.slots.size ≤ ((0 : Int32)).toNatClampNeg) := inb_of Sa369 ⟨by decide, by decide⟩
  obtain ⟨T370, h370, X370, e370, W370, st370⟩ := stJ X367 hx hZ e367 Ar369 (j := (0 : Int32)) hin370 (g := (mkF m 7 #[.val (.long q1), .second, .val (.int p2), .val (.int p3), .val (.int p4), .unset, .unset, .unset, .unset, .unset, .unset, .unset, .unset, .unset, .unset, .unset, .unset] [(.long (1 : Int64)), (.int (0 : Int32)), (.ref bp), (.ref bp)])) rfl rfl (hb hby at_7)
  have N370 := Fr.snoc X370 N0 g_bp
  have O370 := O367.wr W370 g_bp
  have A367x_e370 := A367x.wr W370
  have V370 : Arv Z h370 bp k367 .long (19 : Int32) [(.long (1 : Int64)), (.long (0 : Int64)), (.long (0 : Int64)), (.long (0 : Int64)), (.long (0 : Int64)), (.long (0 : Int64)), (.long (0 : Int64)), (.long (0 : Int64)), (.long (0 : Int64)), (.long (0 : Int64)), (.long (0 : Int64)), (.long (0 : Int64)), (.long (0 : Int64)), (.long (0 : Int64)), (.long (0 : Int64)), (.long (0 : Int64)), (.long (0 : Int64)), (.long (0 : Int64)), (.long (0 : Int64))] (.long (0 : Int64)) := Arv.set Ar369 qa369 Sa369 Na369 Ha369 Ga369 rfl W370 0 rfl (Nat.le_of_ble_eq_true rfl)
  refine own_to (fun t k => st370 t k) ?_
  show own_Fin _ _ _ _ _ _ (T370.setTop (mkF m 8 #[.val (.long q1), .second, .val (.int p2), .val (.int p3), .val (.int p4), .unset, .unset, .unset, .unset, .unset, .unset, .unset, .unset, .unset, .unset, .unset, .unset] [(.ref bp)]))
  refine own_to (fun t k => XS.dup X370.here hx rfl (hb hby at_8) rfl rfl k) ?_
  refine own_to (fun t k => XS.iconst X370.here hx rfl (hb hby at_9) k) ?_
  show own_Fin _ _ _ _ _ _ (T370.setTop (mkF m 10 #[.val (.long q1), .second, .val (.int p2), .val (.int p3), .val (.int p4), .unset, .unset, .unset, .unset, .unset, .unset, .unset, .unset, .unset, .unset, .unset, .unset] [(.int (1 : Int32)), (.ref bp), (.ref bp)]))
  refine own_to (fun t k => X370.ldc2Long hx hown (mvT hZ (own_W hw 1 rfl)) (g := (mkF m 10 #[.val (.long q1), .second, .val (.int p2), .val (.int p3), .val (.int p4), .unset, .unset, .unset, .unset, .unset, .unset, .unset, .unset, .unset, .unset, .unset, .unset] [(.int (1 : Int32)), (.ref bp), (.ref bp)])) rfl (hb hby at_10) _ k) ?_
  show own_Fin _ _ _ _ _ _ (T370.setTop (mkF m 13 #[.val (.long q1), .second, .val (.int p2), .val (.int p3), .val (.int p4), .unset, .unset, .unset, .unset, .unset, .unset, .unset, .unset, .unset, .unset, .unset, .unset] [(.long (10 : Int64)), (.int (1 : Int32)), (.ref bp), (.ref bp)]))
  obtain ⟨cl371, Ar371, qa371, Sa371, Na371, Ha371, Ga371⟩ := id V370
  have hin372 : ¬ ((1 : Int32) < 0 ∨ cl371.slots.size ≤ ((1 : Int32)).toNatClampNeg) := inb_of Sa371 ⟨by decide, by decide⟩
  obtain ⟨T372, h372, X372, e372, W372, st372⟩ := stJ X370 hx hZ e370 Ar371 (j := (1 : Int32)) hin372 (g := (mkF m 13 #[.val (.long q1), .second, .val (.int p2), .val (.int p3), .val (.int p4), .unset, .unset, .unset, .unset, .unset, .unset, .unset, .unset, .unset, .unset, .unset, .unset] [(.long (10 : Int64)), (.int (1 : Int32)), (.ref bp), (.ref bp)])) rfl rfl (hb hby at_13)
  have N372 := Fr.snoc X372 N370 g_bp
  have O372 := O370.wr W372 g_bp
  have A367x_e372 := A367x_e370.wr W372
  have V372 : Arv Z h372 bp k367 .long (19 : Int32) [(.long (1 : Int64)), (.long (10 : Int64)), (.long (0 : Int64)), (.long (0 : Int64)), (.long (0 : Int64)), (.long (0 : Int64)), (.long (0 : Int64)), (.long (0 : Int64)), (.long (0 : Int64)), (.long (0 : Int64)), (.long (0 : Int64)), (.long (0 : Int64)), (.long (0 : Int64)), (.long (0 : Int64)), (.long (0 : Int64)), (.long (0 : Int64)), (.long (0 : Int64)), (.long (0 : Int64)), (.long (0 : Int64))] (.long (0 : Int64)) := Arv.set Ar371 qa371 Sa371 Na371 Ha371 Ga371 rfl W372 1 rfl (Nat.le_of_ble_eq_true rfl)
  refine own_to (fun t k => st372 t k) ?_
  show own_Fin _ _ _ _ _ _ (T372.setTop (mkF m 14 #[.val (.long q1), .second, .val (.int p2), .val (.int p3), .val (.int p4), .unset, .unset, .unset, .unset, .unset, .unset, .unset, .unset, .unset, .unset, .unset, .unset] [(.ref bp)]))
  refine own_to (fun t k => XS.dup X372.here hx rfl (hb hby at_14) rfl rfl k) ?_
  refine own_to (fun t k => XS.iconst X372.here hx rfl (hb hby at_15) k) ?_
  refine own_to (fun t k => X372.ldc2Long hx hown (mvT hZ (own_W hw 2 rfl)) (g := (mkF m 16 #[.val (.long q1), .second, .val (.int p2), .val (.int p3), .val (.int p4), .unset, .unset, .unset, .unset, .unset, .unset, .unset, .unset, .unset, .unset, .unset, .unset] [(.int (2 : Int32)), (.ref bp), (.ref bp)])) rfl (hb hby at_16) _ k) ?_
  show own_Fin _ _ _ _ _ _ (T372.setTop (mkF m 19 #[.val (.long q1), .second, .val (.int p2), .val (.int p3), .val (.int p4), .unset, .unset, .unset, .unset, .unset, .unset, .unset, .unset, .unset, .unset, .unset, .unset] [(.long (100 : Int64)), (.int (2 : Int32)), (.ref bp), (.ref bp)]))
  obtain ⟨cl373, Ar373, qa373, Sa373, Na373, Ha373, Ga373⟩ := id V372
  have hin374 : ¬ ((2 : Int32) < 0 ∨ cl373.slots.size ≤ ((2 : Int32)).toNatClampNeg) := inb_of Sa373 ⟨by decide, by decide⟩
  obtain ⟨T374, h374, X374, e374, W374, st374⟩ := stJ X372 hx hZ e372 Ar373 (j := (2 : Int32)) hin374 (g := (mkF m 19 #[.val (.long q1), .second, .val (.int p2), .val (.int p3), .val (.int p4), .unset, .unset, .unset, .unset, .unset, .unset, .unset, .unset, .unset, .unset, .unset, .unset] [(.long (100 : Int64)), (.int (2 : Int32)), (.ref bp), (.ref bp)])) rfl rfl (hb hby at_19)
  have N374 := Fr.snoc X374 N372 g_bp
  have O374 := O372.wr W374 g_bp
  have A367x_e374 := A367x_e372.wr W374
  have V374 : Arv Z h374 bp k367 .long (19 : Int32) [(.long (1 : Int64)), (.long (10 : Int64)), (.long (100 : Int64)), (.long (0 : Int64)), (.long (0 : Int64)), (.long (0 : Int64)), (.long (0 : Int64)), (.long (0 : Int64)), (.long (0 : Int64)), (.long (0 : Int64)), (.long (0 : Int64)), (.long (0 : Int64)), (.long (0 : Int64)), (.long (0 : Int64)), (.long (0 : Int64)), (.long (0 : Int64)), (.long (0 : Int64)), (.long (0 : Int64)), (.long (0 : Int64))] (.long (0 : Int64)) := Arv.set Ar373 qa373 Sa373 Na373 Ha373 Ga373 rfl W374 2 rfl (Nat.le_of_ble_eq_true rfl)
  have zs375 := (Nat.le_trans (Nat.le_trans (Nat.le_trans Z0 E367.1) (Keep.of_wr W370).1) (Keep.of_wr W372).1)
  refine own_to (fun t k => st374 t k) ?_
  show own_Fin _ _ _ _ _ _ (T374.setTop (mkF m 20 #[.val (.long q1), .second, .val (.int p2), .val (.int p3), .val (.int p4), .unset, .unset, .unset, .unset, .unset, .unset, .unset, .unset, .unset, .unset, .unset, .unset] [(.ref bp)]))
  refine own_to (fun t k => XS.dup X374.here hx rfl (hb hby at_20) rfl rfl k) ?_
  show own_Fin _ _ _ _ _ _ (T374.setTop (mkF m 21 #[.val (.long q1), .second, .val (.int p2), .val (.int p3), .val (.int p4), .unset, .unset, .unset, .unset, .unset, .unset, .unset, .unset, .unset, .unset, .unset, .unset] [(.ref bp), (.ref bp)]))
  refine own_to (fun t k => XS.iconst X374.here hx rfl (hb hby at_21) k) ?_
  refine own_to (fun t k => X374.ldc2Long hx hown (mvT hZ (own_W hw 3 rfl)) (g := (mkF m 22 #[.val (.long q1), .second, .val (.int p2), .val (.int p3), .val (.int p4), .unset, .unset, .unset, .unset, .unset, .unset, .unset, .unset, .unset, .unset, .unset, .unset] [(.int (3 : Int32)), (.ref bp), (.ref bp)])) rfl (hb hby at_22) _ k) ?_
  show own_Fin _ _ _ _ _ _ (T374.setTop (mkF m 25 #[.val (.long q1), .second, .val (.int p2), .val (.int p3), .val (.int p4), .unset, .unset, .unset, .unset, .unset, .unset, .unset, .unset, .unset, .unset, .unset, .unset] [(.long (1000 : Int64)), (.int (3 : Int32)), (.ref bp), (.ref bp)]))
  obtain ⟨cl376, Ar376, qa376, Sa376, Na376, Ha376, Ga376⟩ := id V374
  have hin377 : ¬ ((3 : Int32) < 0 ∨ cl376.slots.size ≤ ((3 : Int32)).toNatClampNeg) := inb_of Sa376 ⟨by decide, by decide⟩
  obtain ⟨T377, h377, X377, e377, W377, st377⟩ := stJ X374 hx hZ e374 Ar376 (j := (3 : Int32)) hin377 (g := (mkF m 25 #[.val (.long q1), .second, .val (.int p2), .val (.int p3), .val (.int p4), .unset, .unset, .unset, .unset, .unset, .unset, .unset, .unset, .unset, .unset, .unset, .unset] [(.long (1000 : Int64)), (.int (3 : Int32)), (.ref bp), (.ref bp)])) rfl rfl (hb hby at_25)
  have N377 := Fr.snoc X377 N374 g_bp
  have O377 := O374.wr W377 g_bp
  have A367x_e377 := A367x_e374.wr W377
  have V377 : Arv Z h377 bp k367 .long (19 : Int32) [(.long (1 : Int64)), (.long (10 : Int64)), (.long (100 : Int64)), (.long (1000 : Int64)), (.long (0 : Int64)), (.long (0 : Int64)), (.long (0 : Int64)), (.long (0 : Int64)), (.long (0 : Int64)), (.long (0 : Int64)), (.long (0 : Int64)), (.long (0 : Int64)), (.long (0 : Int64)), (.long (0 : Int64)), (.long (0 : Int64)), (.long (0 : Int64)), (.long (0 : Int64)), (.long (0 : Int64)), (.long (0 : Int64))] (.long (0 : Int64)) := Arv.set Ar376 qa376 Sa376 Na376 Ha376 Ga376 rfl W377 3 rfl (Nat.le_of_ble_eq_true rfl)
  refine own_to (fun t k => st377 t k) ?_
  show own_Fin _ _ _ _ _ _ (T377.setTop (mkF m 26 #[.val (.long q1), .second, .val (.int p2), .val (.int p3), .val (.int p4), .unset, .unset, .unset, .unset, .unset, .unset, .unset, .unset, .unset, .unset, .unset, .unset] [(.ref bp)]))
  refine own_to (fun t k => XS.dup X377.here hx rfl (hb hby at_26) rfl rfl k) ?_
  refine own_to (fun t k => XS.iconst X377.here hx rfl (hb hby at_27) k) ?_
  show own_Fin _ _ _ _ _ _ (T377.setTop (mkF m 28 #[.val (.long q1), .second, .val (.int p2), .val (.int p3), .val (.int p4), .unset, .unset, .unset, .unset, .unset, .unset, .unset, .unset, .unset, .unset, .unset, .unset] [(.int (4 : Int32)), (.ref bp), (.ref bp)]))
  refine own_to (fun t k => X377.ldc2Long hx hown (mvT hZ (own_W hw 4 rfl)) (g := (mkF m 28 #[.val (.long q1), .second, .val (.int p2), .val (.int p3), .val (.int p4), .unset, .unset, .unset, .unset, .unset, .unset, .unset, .unset, .unset, .unset, .unset, .unset] [(.int (4 : Int32)), (.ref bp), (.ref bp)])) rfl (hb hby at_28) _ k) ?_
  show own_Fin _ _ _ _ _ _ (T377.setTop (mkF m 31 #[.val (.long q1), .second, .val (.int p2), .val (.int p3), .val (.int p4), .unset, .unset, .unset, .unset, .unset, .unset, .unset, .unset, .unset, .unset, .unset, .unset] [(.long (10000 : Int64)), (.int (4 : Int32)), (.ref bp), (.ref bp)]))
  obtain ⟨cl378, Ar378, qa378, Sa378, Na378, Ha378, Ga378⟩ := id V377
  have hin379 : ¬ ((4 : Int32) < 0 ∨ cl378.slots.size ≤ ((4 : Int32)).toNatClampNeg) := inb_of Sa378 ⟨by decide, by decide⟩
  obtain ⟨T379, h379, X379, e379, W379, st379⟩ := stJ X377 hx hZ e377 Ar378 (j := (4 : Int32)) hin379 (g := (mkF m 31 #[.val (.long q1), .second, .val (.int p2), .val (.int p3), .val (.int p4), .unset, .unset, .unset, .unset, .unset, .unset, .unset, .unset, .unset, .unset, .unset, .unset] [(.long (10000 : Int64)), (.int (4 : Int32)), (.ref bp), (.ref bp)])) rfl rfl (hb hby at_31)
  have N379 := Fr.snoc X379 N377 g_bp
  have O379 := O377.wr W379 g_bp
  have A367x_e379 := A367x_e377.wr W379
  have V379 : Arv Z h379 bp k367 .long (19 : Int32) [(.long (1 : Int64)), (.long (10 : Int64)), (.long (100 : Int64)), (.long (1000 : Int64)), (.long (10000 : Int64)), (.long (0 : Int64)), (.long (0 : Int64)), (.long (0 : Int64)), (.long (0 : Int64)), (.long (0 : Int64)), (.long (0 : Int64)), (.long (0 : Int64)), (.long (0 : Int64)), (.long (0 : Int64)), (.long (0 : Int64)), (.long (0 : Int64)), (.long (0 : Int64)), (.long (0 : Int64)), (.long (0 : Int64))] (.long (0 : Int64)) := Arv.set Ar378 qa378 Sa378 Na378 Ha378 Ga378 rfl W379 4 rfl (Nat.le_of_ble_eq_true rfl)
  refine own_to (fun t k => st379 t k) ?_
  show own_Fin _ _ _ _ _ _ (T379.setTop (mkF m 32 #[.val (.long q1), .second, .val (.int p2), .val (.int p3), .val (.int p4), .unset, .unset, .unset, .unset, .unset, .unset, .unset, .unset, .unset, .unset, .unset, .unset] [(.ref bp)]))
  refine own_to (fun t k => XS.dup X379.here hx rfl (hb hby at_32) rfl rfl k) ?_
  refine own_to (fun t k => XS.iconst X379.here hx rfl (hb hby at_33) k) ?_
  refine own_to (fun t k => X379.ldc2Long hx hown (mvT hZ (own_W hw 5 rfl)) (g := (mkF m 34 #[.val (.long q1), .second, .val (.int p2), .val (.int p3), .val (.int p4), .unset, .unset, .unset, .unset, .unset, .unset, .unset, .unset, .unset, .unset, .unset, .unset] [(.int (5 : Int32)), (.ref bp), (.ref bp)])) rfl (hb hby at_34) _ k) ?_
  show own_Fin _ _ _ _ _ _ (T379.setTop (mkF m 37 #[.val (.long q1), .second, .val (.int p2), .val (.int p3), .val (.int p4), .unset, .unset, .unset, .unset, .unset, .unset, .unset, .unset, .unset, .unset, .unset, .unset] [(.long (100000 : Int64)), (.int (5 : Int32)), (.ref bp), (.ref bp)]))
  obtain ⟨cl380, Ar380, qa380, Sa380, Na380, Ha380, Ga380⟩ := id V379
  have hin381 : ¬ ((5 : Int32) < 0 ∨ cl380.slots.size ≤ ((5 : Int32)).toNatClampNeg) := inb_of Sa380 ⟨by decide, by decide⟩
  obtain ⟨T381, h381, X381, e381, W381, st381⟩ := stJ X379 hx hZ e379 Ar380 (j := (5 : Int32)) hin381 (g := (mkF m 37 #[.val (.long q1), .second, .val (.int p2), .val (.int p3), .val (.int p4), .unset, .unset, .unset, .unset, .unset, .unset, .unset, .unset, .unset, .unset, .unset, .unset] [(.long (100000 : Int64)), (.int (5 : Int32)), (.ref bp), (.ref bp)])) rfl rfl (hb hby at_37)
  have N381 := Fr.snoc X381 N379 g_bp
  have O381 := O379.wr W381 g_bp
  have A367x_e381 := A367x_e379.wr W381
  have V381 : Arv Z h381 bp k367 .long (19 : Int32) [(.long (1 : Int64)), (.long (10 : Int64)), (.long (100 : Int64)), (.long (1000 : Int64)), (.long (10000 : Int64)), (.long (100000 : Int64)), (.long (0 : Int64)), (.long (0 : Int64)), (.long (0 : Int64)), (.long (0 : Int64)), (.long (0 : Int64)), (.long (0 : Int64)), (.long (0 : Int64)), (.long (0 : Int64)), (.long (0 : Int64)), (.long (0 : Int64)), (.long (0 : Int64)), (.long (0 : Int64)), (.long (0 : Int64))] (.long (0 : Int64)) := Arv.set Ar380 qa380 Sa380 Na380 Ha380 Ga380 rfl W381 5 rfl (Nat.le_of_ble_eq_true rfl)
  have zs382 := (Nat.le_trans (Nat.le_trans (Nat.le_trans zs375 (Keep.of_wr W374).1) (Keep.of_wr W377).1) (Keep.of_wr W379).1)
  refine own_to (fun t k => st381 t k) ?_
  show own_Fin _ _ _ _ _ _ (T381.setTop (mkF m 38 #[.val (.long q1), .second, .val (.int p2), .val (.int p3), .val (.int p4), .unset, .unset, .unset, .unset, .unset, .unset, .unset, .unset, .unset, .unset, .unset, .unset] [(.ref bp)]))
  refine own_to (fun t k => XS.dup X381.here hx rfl (hb hby at_38) rfl rfl k) ?_
  show own_Fin _ _ _ _ _ _ (T381.setTop (mkF m 39 #[.val (.long q1), .second, .val (.int p2), .val (.int p3), .val (.int p4), .unset, .unset, .unset, .unset, .unset, .unset, .unset, .unset, .unset, .unset, .unset, .unset] [(.ref bp), (.ref bp)]))
  refine own_to (fun t k => XS.bipush X381.here hx rfl (hb hby at_39) k) ?_
  refine own_to (fun t k => X381.ldc2Long hx hown (mvT hZ (own_W hw 6 rfl)) (g := (mkF m 41 #[.val (.long q1), .second, .val (.int p2), .val (.int p3), .val (.int p4), .unset, .unset, .unset, .unset, .unset, .unset, .unset, .unset, .unset, .unset, .unset, .unset] [(.int (6 : Int32)), (.ref bp), (.ref bp)])) rfl (hb hby at_41) _ k) ?_
  show own_Fin _ _ _ _ _ _ (T381.setTop (mkF m 44 #[.val (.long q1), .second, .val (.int p2), .val (.int p3), .val (.int p4), .unset, .unset, .unset, .unset, .unset, .unset, .unset, .unset, .unset, .unset, .unset, .unset] [(.long (1000000 : Int64)), (.int (6 : Int32)), (.ref bp), (.ref bp)]))
  obtain ⟨cl383, Ar383, qa383, Sa383, Na383, Ha383, Ga383⟩ := id V381
  have hin384 : ¬ ((6 : Int32) < 0 ∨ cl383.slots.size ≤ ((6 : Int32)).toNatClampNeg) := inb_of Sa383 ⟨by decide, by decide⟩
  obtain ⟨T384, h384, X384, e384, W384, st384⟩ := stJ X381 hx hZ e381 Ar383 (j := (6 : Int32)) hin384 (g := (mkF m 44 #[.val (.long q1), .second, .val (.int p2), .val (.int p3), .val (.int p4), .unset, .unset, .unset, .unset, .unset, .unset, .unset, .unset, .unset, .unset, .unset, .unset] [(.long (1000000 : Int64)), (.int (6 : Int32)), (.ref bp), (.ref bp)])) rfl rfl (hb hby at_44)
  have N384 := Fr.snoc X384 N381 g_bp
  have O384 := O381.wr W384 g_bp
  have A367x_e384 := A367x_e381.wr W384
  have V384 : Arv Z h384 bp k367 .long (19 : Int32) [(.long (1 : Int64)), (.long (10 : Int64)), (.long (100 : Int64)), (.long (1000 : Int64)), (.long (10000 : Int64)), (.long (100000 : Int64)), (.long (1000000 : Int64)), (.long (0 : Int64)), (.long (0 : Int64)), (.long (0 : Int64)), (.long (0 : Int64)), (.long (0 : Int64)), (.long (0 : Int64)), (.long (0 : Int64)), (.long (0 : Int64)), (.long (0 : Int64)), (.long (0 : Int64)), (.long (0 : Int64)), (.long (0 : Int64))] (.long (0 : Int64)) := Arv.set Ar383 qa383 Sa383 Na383 Ha383 Ga383 rfl W384 6 rfl (Nat.le_of_ble_eq_true rfl)
  refine own_to (fun t k => st384 t k) ?_
  show own_Fin _ _ _ _ _ _ (T384.setTop (mkF m 45 #[.val (.long q1), .second, .val (.int p2), .val (.int p3), .val (.int p4), .unset, .unset, .unset, .unset, .unset, .unset, .unset, .unset, .unset, .unset, .unset, .unset] [(.ref bp)]))
  refine own_to (fun t k => XS.dup X384.here hx rfl (hb hby at_45) rfl rfl k) ?_
  refine own_to (fun t k => XS.bipush X384.here hx rfl (hb hby at_46) k) ?_
  show own_Fin _ _ _ _ _ _ (T384.setTop (mkF m 48 #[.val (.long q1), .second, .val (.int p2), .val (.int p3), .val (.int p4), .unset, .unset, .unset, .unset, .unset, .unset, .unset, .unset, .unset, .unset, .unset, .unset] [(.int (7 : Int32)), (.ref bp), (.ref bp)]))
  refine own_to (fun t k => X384.ldc2Long hx hown (mvT hZ (own_W hw 7 rfl)) (g := (mkF m 48 #[.val (.long q1), .second, .val (.int p2), .val (.int p3), .val (.int p4), .unset, .unset, .unset, .unset, .unset, .unset, .unset, .unset, .unset, .unset, .unset, .unset] [(.int (7 : Int32)), (.ref bp), (.ref bp)])) rfl (hb hby at_48) _ k) ?_
  show own_Fin _ _ _ _ _ _ (T384.setTop (mkF m 51 #[.val (.long q1), .second, .val (.int p2), .val (.int p3), .val (.int p4), .unset, .unset, .unset, .unset, .unset, .unset, .unset, .unset, .unset, .unset, .unset, .unset] [(.long (10000000 : Int64)), (.int (7 : Int32)), (.ref bp), (.ref bp)]))
  obtain ⟨cl385, Ar385, qa385, Sa385, Na385, Ha385, Ga385⟩ := id V384
  have hin386 : ¬ ((7 : Int32) < 0 ∨ cl385.slots.size ≤ ((7 : Int32)).toNatClampNeg) := inb_of Sa385 ⟨by decide, by decide⟩
  obtain ⟨T386, h386, X386, e386, W386, st386⟩ := stJ X384 hx hZ e384 Ar385 (j := (7 : Int32)) hin386 (g := (mkF m 51 #[.val (.long q1), .second, .val (.int p2), .val (.int p3), .val (.int p4), .unset, .unset, .unset, .unset, .unset, .unset, .unset, .unset, .unset, .unset, .unset, .unset] [(.long (10000000 : Int64)), (.int (7 : Int32)), (.ref bp), (.ref bp)])) rfl rfl (hb hby at_51)
  have N386 := Fr.snoc X386 N384 g_bp
  have O386 := O384.wr W386 g_bp
  have A367x_e386 := A367x_e384.wr W386
  have V386 : Arv Z h386 bp k367 .long (19 : Int32) [(.long (1 : Int64)), (.long (10 : Int64)), (.long (100 : Int64)), (.long (1000 : Int64)), (.long (10000 : Int64)), (.long (100000 : Int64)), (.long (1000000 : Int64)), (.long (10000000 : Int64)), (.long (0 : Int64)), (.long (0 : Int64)), (.long (0 : Int64)), (.long (0 : Int64)), (.long (0 : Int64)), (.long (0 : Int64)), (.long (0 : Int64)), (.long (0 : Int64)), (.long (0 : Int64)), (.long (0 : Int64)), (.long (0 : Int64))] (.long (0 : Int64)) := Arv.set Ar385 qa385 Sa385 Na385 Ha385 Ga385 rfl W386 7 rfl (Nat.le_of_ble_eq_true rfl)
  refine own_to (fun t k => st386 t k) ?_
  show own_Fin _ _ _ _ _ _ (T386.setTop (mkF m 52 #[.val (.long q1), .second, .val (.int p2), .val (.int p3), .val (.int p4), .unset, .unset, .unset, .unset, .unset, .unset, .unset, .unset, .unset, .unset, .unset, .unset] [(.ref bp)]))
  refine own_to (fun t k => XS.dup X386.here hx rfl (hb hby at_52) rfl rfl k) ?_
  refine own_to (fun t k => XS.bipush X386.here hx rfl (hb hby at_53) k) ?_
  refine own_to (fun t k => X386.ldc2Long hx hown (mvT hZ (own_W hw 8 rfl)) (g := (mkF m 55 #[.val (.long q1), .second, .val (.int p2), .val (.int p3), .val (.int p4), .unset, .unset, .unset, .unset, .unset, .unset, .unset, .unset, .unset, .unset, .unset, .unset] [(.int (8 : Int32)), (.ref bp), (.ref bp)])) rfl (hb hby at_55) _ k) ?_
  show own_Fin _ _ _ _ _ _ (T386.setTop (mkF m 58 #[.val (.long q1), .second, .val (.int p2), .val (.int p3), .val (.int p4), .unset, .unset, .unset, .unset, .unset, .unset, .unset, .unset, .unset, .unset, .unset, .unset] [(.long (100000000 : Int64)), (.int (8 : Int32)), (.ref bp), (.ref bp)]))
  obtain ⟨cl387, Ar387, qa387, Sa387, Na387, Ha387, Ga387⟩ := id V386
  have hin388 : ¬ ((8 : Int32) < 0 ∨ cl387.slots.size ≤ ((8 : Int32)).toNatClampNeg) := inb_of Sa387 ⟨by decide, by decide⟩
  obtain ⟨T388, h388, X388, e388, W388, st388⟩ := stJ X386 hx hZ e386 Ar387 (j := (8 : Int32)) hin388 (g := (mkF m 58 #[.val (.long q1), .second, .val (.int p2), .val (.int p3), .val (.int p4), .unset, .unset, .unset, .unset, .unset, .unset, .unset, .unset, .unset, .unset, .unset, .unset] [(.long (100000000 : Int64)), (.int (8 : Int32)), (.ref bp), (.ref bp)])) rfl rfl (hb hby at_58)
  have N388 := Fr.snoc X388 N386 g_bp
  have O388 := O386.wr W388 g_bp
  have A367x_e388 := A367x_e386.wr W388
  have V388 : Arv Z h388 bp k367 .long (19 : Int32) [(.long (1 : Int64)), (.long (10 : Int64)), (.long (100 : Int64)), (.long (1000 : Int64)), (.long (10000 : Int64)), (.long (100000 : Int64)), (.long (1000000 : Int64)), (.long (10000000 : Int64)), (.long (100000000 : Int64)), (.long (0 : Int64)), (.long (0 : Int64)), (.long (0 : Int64)), (.long (0 : Int64)), (.long (0 : Int64)), (.long (0 : Int64)), (.long (0 : Int64)), (.long (0 : Int64)), (.long (0 : Int64)), (.long (0 : Int64))] (.long (0 : Int64)) := Arv.set Ar387 qa387 Sa387 Na387 Ha387 Ga387 rfl W388 8 rfl (Nat.le_of_ble_eq_true rfl)
  have zs389 := (Nat.le_trans (Nat.le_trans (Nat.le_trans zs382 (Keep.of_wr W381).1) (Keep.of_wr W384).1) (Keep.of_wr W386).1)
  refine own_to (fun t k => st388 t k) ?_
  show own_Fin _ _ _ _ _ _ (T388.setTop (mkF m 59 #[.val (.long q1), .second, .val (.int p2), .val (.int p3), .val (.int p4), .unset, .unset, .unset, .unset, .unset, .unset, .unset, .unset, .unset, .unset, .unset, .unset] [(.ref bp)]))
  refine own_to (fun t k => XS.dup X388.here hx rfl (hb hby at_59) rfl rfl k) ?_
  show own_Fin _ _ _ _ _ _ (T388.setTop (mkF m 60 #[.val (.long q1), .second, .val (.int p2), .val (.int p3), .val (.int p4), .unset, .unset, .unset, .unset, .unset, .unset, .unset, .unset, .unset, .unset, .unset, .unset] [(.ref bp), (.ref bp)]))
  refine own_to (fun t k => XS.bipush X388.here hx rfl (hb hby at_60) k) ?_
  refine own_to (fun t k => X388.ldc2Long hx hown (mvT hZ (own_W hw 9 rfl)) (g := (mkF m 62 #[.val (.long q1), .second, .val (.int p2), .val (.int p3), .val (.int p4), .unset, .unset, .unset, .unset, .unset, .unset, .unset, .unset, .unset, .unset, .unset, .unset] [(.int (9 : Int32)), (.ref bp), (.ref bp)])) rfl (hb hby at_62) _ k) ?_
  show own_Fin _ _ _ _ _ _ (T388.setTop (mkF m 65 #[.val (.long q1), .second, .val (.int p2), .val (.int p3), .val (.int p4), .unset, .unset, .unset, .unset, .unset, .unset, .unset, .unset, .unset, .unset, .unset, .unset] [(.long (1000000000 : Int64)), (.int (9 : Int32)), (.ref bp), (.ref bp)]))
  obtain ⟨cl390, Ar390, qa390, Sa390, Na390, Ha390, Ga390⟩ := id V388
  have hin391 : ¬ ((9 : Int32) < 0 ∨ cl390.slots.size ≤ ((9 : Int32)).toNatClampNeg) := inb_of Sa390 ⟨by decide, by decide⟩
  obtain ⟨T391, h391, X391, e391, W391, st391⟩ := stJ X388 hx hZ e388 Ar390 (j := (9 : Int32)) hin391 (g := (mkF m 65 #[.val (.long q1), .second, .val (.int p2), .val (.int p3), .val (.int p4), .unset, .unset, .unset, .unset, .unset, .unset, .unset, .unset, .unset, .unset, .unset, .unset] [(.long (1000000000 : Int64)), (.int (9 : Int32)), (.ref bp), (.ref bp)])) rfl rfl (hb hby at_65)
  have N391 := Fr.snoc X391 N388 g_bp
  have O391 := O388.wr W391 g_bp
  have A367x_e391 := A367x_e388.wr W391
  have V391 : Arv Z h391 bp k367 .long (19 : Int32) [(.long (1 : Int64)), (.long (10 : Int64)), (.long (100 : Int64)), (.long (1000 : Int64)), (.long (10000 : Int64)), (.long (100000 : Int64)), (.long (1000000 : Int64)), (.long (10000000 : Int64)), (.long (100000000 : Int64)), (.long (1000000000 : Int64)), (.long (0 : Int64)), (.long (0 : Int64)), (.long (0 : Int64)), (.long (0 : Int64)), (.long (0 : Int64)), (.long (0 : Int64)), (.long (0 : Int64)), (.long (0 : Int64)), (.long (0 : Int64))] (.long (0 : Int64)) := Arv.set Ar390 qa390 Sa390 Na390 Ha390 Ga390 rfl W391 9 rfl (Nat.le_of_ble_eq_true rfl)
  refine own_to (fun t k => st391 t k) ?_
  show own_Fin _ _ _ _ _ _ (T391.setTop (mkF m 66 #[.val (.long q1), .second, .val (.int p2), .val (.int p3), .val (.int p4), .unset, .unset, .unset, .unset, .unset, .unset, .unset, .unset, .unset, .unset, .unset, .unset] [(.ref bp)]))
  refine own_to (fun t k => XS.dup X391.here hx rfl (hb hby at_66) rfl rfl k) ?_
  refine own_to (fun t k => XS.bipush X391.here hx rfl (hb hby at_67) k) ?_
  show own_Fin _ _ _ _ _ _ (T391.setTop (mkF m 69 #[.val (.long q1), .second, .val (.int p2), .val (.int p3), .val (.int p4), .unset, .unset, .unset, .unset, .unset, .unset, .unset, .unset, .unset, .unset, .unset, .unset] [(.int (10 : Int32)), (.ref bp), (.ref bp)]))
  refine own_to (fun t k => X391.ldc2Long hx hown (mvT hZ (own_W hw 10 rfl)) (g := (mkF m 69 #[.val (.long q1), .second, .val (.int p2), .val (.int p3), .val (.int p4), .unset, .unset, .unset, .unset, .unset, .unset, .unset, .unset, .unset, .unset, .unset, .unset] [(.int (10 : Int32)), (.ref bp), (.ref bp)])) rfl (hb hby at_69) _ k) ?_
  show own_Fin _ _ _ _ _ _ (T391.setTop (mkF m 72 #[.val (.long q1), .second, .val (.int p2), .val (.int p3), .val (.int p4), .unset, .unset, .unset, .unset, .unset, .unset, .unset, .unset, .unset, .unset, .unset, .unset] [(.long (10000000000 : Int64)), (.int (10 : Int32)), (.ref bp), (.ref bp)]))
  obtain ⟨cl392, Ar392, qa392, Sa392, Na392, Ha392, Ga392⟩ := id V391
  have hin393 : ¬ ((10 : Int32) < 0 ∨ cl392.slots.size ≤ ((10 : Int32)).toNatClampNeg) := inb_of Sa392 ⟨by decide, by decide⟩
  obtain ⟨T393, h393, X393, e393, W393, st393⟩ := stJ X391 hx hZ e391 Ar392 (j := (10 : Int32)) hin393 (g := (mkF m 72 #[.val (.long q1), .second, .val (.int p2), .val (.int p3), .val (.int p4), .unset, .unset, .unset, .unset, .unset, .unset, .unset, .unset, .unset, .unset, .unset, .unset] [(.long (10000000000 : Int64)), (.int (10 : Int32)), (.ref bp), (.ref bp)])) rfl rfl (hb hby at_72)
  have N393 := Fr.snoc X393 N391 g_bp
  have O393 := O391.wr W393 g_bp
  have A367x_e393 := A367x_e391.wr W393
  have V393 : Arv Z h393 bp k367 .long (19 : Int32) [(.long (1 : Int64)), (.long (10 : Int64)), (.long (100 : Int64)), (.long (1000 : Int64)), (.long (10000 : Int64)), (.long (100000 : Int64)), (.long (1000000 : Int64)), (.long (10000000 : Int64)), (.long (100000000 : Int64)), (.long (1000000000 : Int64)), (.long (10000000000 : Int64)), (.long (0 : Int64)), (.long (0 : Int64)), (.long (0 : Int64)), (.long (0 : Int64)), (.long (0 : Int64)), (.long (0 : Int64)), (.long (0 : Int64)), (.long (0 : Int64))] (.long (0 : Int64)) := Arv.set Ar392 qa392 Sa392 Na392 Ha392 Ga392 rfl W393 10 rfl (Nat.le_of_ble_eq_true rfl)
  refine own_to (fun t k => st393 t k) ?_
  show own_Fin _ _ _ _ _ _ (T393.setTop (mkF m 73 #[.val (.long q1), .second, .val (.int p2), .val (.int p3), .val (.int p4), .unset, .unset, .unset, .unset, .unset, .unset, .unset, .unset, .unset, .unset, .unset, .unset] [(.ref bp)]))
  refine own_to (fun t k => XS.dup X393.here hx rfl (hb hby at_73) rfl rfl k) ?_
  refine own_to (fun t k => XS.bipush X393.here hx rfl (hb hby at_74) k) ?_
  refine own_to (fun t k => X393.ldc2Long hx hown (mvT hZ (own_W hw 11 rfl)) (g := (mkF m 76 #[.val (.long q1), .second, .val (.int p2), .val (.int p3), .val (.int p4), .unset, .unset, .unset, .unset, .unset, .unset, .unset, .unset, .unset, .unset, .unset, .unset] [(.int (11 : Int32)), (.ref bp), (.ref bp)])) rfl (hb hby at_76) _ k) ?_
  show own_Fin _ _ _ _ _ _ (T393.setTop (mkF m 79 #[.val (.long q1), .second, .val (.int p2), .val (.int p3), .val (.int p4), .unset, .unset, .unset, .unset, .unset, .unset, .unset, .unset, .unset, .unset, .unset, .unset] [(.long (100000000000 : Int64)), (.int (11 : Int32)), (.ref bp), (.ref bp)]))
  obtain ⟨cl394, Ar394, qa394, Sa394, Na394, Ha394, Ga394⟩ := id V393
  have hin395 : ¬ ((11 : Int32) < 0 ∨ cl394.slots.size ≤ ((11 : Int32)).toNatClampNeg) := inb_of Sa394 ⟨by decide, by decide⟩
  obtain ⟨T395, h395, X395, e395, W395, st395⟩ := stJ X393 hx hZ e393 Ar394 (j := (11 : Int32)) hin395 (g := (mkF m 79 #[.val (.long q1), .second, .val (.int p2), .val (.int p3), .val (.int p4), .unset, .unset, .unset, .unset, .unset, .unset, .unset, .unset, .unset, .unset, .unset, .unset] [(.long (100000000000 : Int64)), (.int (11 : Int32)), (.ref bp), (.ref bp)])) rfl rfl (hb hby at_79)
  have N395 := Fr.snoc X395 N393 g_bp
  have O395 := O393.wr W395 g_bp
  have A367x_e395 := A367x_e393.wr W395
  have V395 : Arv Z h395 bp k367 .long (19 : Int32) [(.long (1 : Int64)), (.long (10 : Int64)), (.long (100 : Int64)), (.long (1000 : Int64)), (.long (10000 : Int64)), (.long (100000 : Int64)), (.long (1000000 : Int64)), (.long (10000000 : Int64)), (.long (100000000 : Int64)), (.long (1000000000 : Int64)), (.long (10000000000 : Int64)), (.long (100000000000 : Int64)), (.long (0 : Int64)), (.long (0 : Int64)), (.long (0 : Int64)), (.long (0 : Int64)), (.long (0 : Int64)), (.long (0 : Int64)), (.long (0 : Int64))] (.long (0 : Int64)) := Arv.set Ar394 qa394 Sa394 Na394 Ha394 Ga394 rfl W395 11 rfl (Nat.le_of_ble_eq_true rfl)
  have zs396 := (Nat.le_trans (Nat.le_trans (Nat.le_trans zs389 (Keep.of_wr W388).1) (Keep.of_wr W391).1) (Keep.of_wr W393).1)
  refine own_to (fun t k => st395 t k) ?_
  show own_Fin _ _ _ _ _ _ (T395.setTop (mkF m 80 #[.val (.long q1), .second, .val (.int p2), .val (.int p3), .val (.int p4), .unset, .unset, .unset, .unset, .unset, .unset, .unset, .unset, .unset, .unset, .unset, .unset] [(.ref bp)]))
  refine own_to (fun t k => XS.dup X395.here hx rfl (hb hby at_80) rfl rfl k) ?_
  show own_Fin _ _ _ _ _ _ (T395.setTop (mkF m 81 #[.val (.long q1), .second, .val (.int p2), .val (.int p3), .val (.int p4), .unset, .unset, .unset, .unset, .unset, .unset, .unset, .unset, .unset, .unset, .unset, .unset] [(.ref bp), (.ref bp)]))
  refine own_to (fun t k => XS.bipush X395.here hx rfl (hb hby at_81) k) ?_
  refine own_to (fun t k => X395.ldc2Long hx hown (mvT hZ (own_W hw 12 rfl)) (g := (mkF m 83 #[.val (.long q1), .second, .val (.int p2), .val (.int p3), .val (.int p4), .unset, .unset, .unset, .unset, .unset, .unset, .unset, .unset, .unset, .unset, .unset, .unset] [(.int (12 : Int32)), (.ref bp), (.ref bp)])) rfl (hb hby at_83) _ k) ?_
  show own_Fin _ _ _ _ _ _ (T395.setTop (mkF m 86 #[.val (.long q1), .second, .val (.int p2), .val (.int p3), .val (.int p4), .unset, .unset, .unset, .unset, .unset, .unset, .unset, .unset, .unset, .unset, .unset, .unset] [(.long (1000000000000 : Int64)), (.int (12 : Int32)), (.ref bp), (.ref bp)]))
  obtain ⟨cl397, Ar397, qa397, Sa397, Na397, Ha397, Ga397⟩ := id V395
  have hin398 : ¬ ((12 : Int32) < 0 ∨ cl397.slots.size ≤ ((12 : Int32)).toNatClampNeg) := inb_of Sa397 ⟨by decide, by decide⟩
  obtain ⟨T398, h398, X398, e398, W398, st398⟩ := stJ X395 hx hZ e395 Ar397 (j := (12 : Int32)) hin398 (g := (mkF m 86 #[.val (.long q1), .second, .val (.int p2), .val (.int p3), .val (.int p4), .unset, .unset, .unset, .unset, .unset, .unset, .unset, .unset, .unset, .unset, .unset, .unset] [(.long (1000000000000 : Int64)), (.int (12 : Int32)), (.ref bp), (.ref bp)])) rfl rfl (hb hby at_86)
  have N398 := Fr.snoc X398 N395 g_bp
  have O398 := O395.wr W398 g_bp
  have A367x_e398 := A367x_e395.wr W398
  have V398 : Arv Z h398 bp k367 .long (19 : Int32) [(.long (1 : Int64)), (.long (10 : Int64)), (.long (100 : Int64)), (.long (1000 : Int64)), (.long (10000 : Int64)), (.long (100000 : Int64)), (.long (1000000 : Int64)), (.long (10000000 : Int64)), (.long (100000000 : Int64)), (.long (1000000000 : Int64)), (.long (10000000000 : Int64)), (.long (100000000000 : Int64)), (.long (1000000000000 : Int64)), (.long (0 : Int64)), (.long (0 : Int64)), (.long (0 : Int64)), (.long (0 : Int64)), (.long (0 : Int64)), (.long (0 : Int64))] (.long (0 : Int64)) := Arv.set Ar397 qa397 Sa397 Na397 Ha397 Ga397 rfl W398 12 rfl (Nat.le_of_ble_eq_true rfl)
  refine own_to (fun t k => st398 t k) ?_
  show own_Fin _ _ _ _ _ _ (T398.setTop (mkF m 87 #[.val (.long q1), .second, .val (.int p2), .val (.int p3), .val (.int p4), .unset, .unset, .unset, .unset, .unset, .unset, .unset, .unset, .unset, .unset, .unset, .unset] [(.ref bp)]))
  refine own_to (fun t k => XS.dup X398.here hx rfl (hb hby at_87) rfl rfl k) ?_
  refine own_to (fun t k => XS.bipush X398.here hx rfl (hb hby at_88) k) ?_
  show own_Fin _ _ _ _ _ _ (T398.setTop (mkF m 90 #[.val (.long q1), .second, .val (.int p2), .val (.int p3), .val (.int p4), .unset, .unset, .unset, .unset, .unset, .unset, .unset, .unset, .unset, .unset, .unset, .unset] [(.int (13 : Int32)), (.ref bp), (.ref bp)]))
  refine own_to (fun t k => X398.ldc2Long hx hown (mvT hZ (own_W hw 13 rfl)) (g := (mkF m 90 #[.val (.long q1), .second, .val (.int p2), .val (.int p3), .val (.int p4), .unset, .unset, .unset, .unset, .unset, .unset, .unset, .unset, .unset, .unset, .unset, .unset] [(.int (13 : Int32)), (.ref bp), (.ref bp)])) rfl (hb hby at_90) _ k) ?_
  show own_Fin _ _ _ _ _ _ (T398.setTop (mkF m 93 #[.val (.long q1), .second, .val (.int p2), .val (.int p3), .val (.int p4), .unset, .unset, .unset, .unset, .unset, .unset, .unset, .unset, .unset, .unset, .unset, .unset] [(.long (10000000000000 : Int64)), (.int (13 : Int32)), (.ref bp), (.ref bp)]))
  obtain ⟨cl399, Ar399, qa399, Sa399, Na399, Ha399, Ga399⟩ := id V398
  have hin400 : ¬ ((13 : Int32) < 0 ∨ cl399.slots.size ≤ ((13 : Int32)).toNatClampNeg) := inb_of Sa399 ⟨by decide, by decide⟩
  obtain ⟨T400, h400, X400, e400, W400, st400⟩ := stJ X398 hx hZ e398 Ar399 (j := (13 : Int32)) hin400 (g := (mkF m 93 #[.val (.long q1), .second, .val (.int p2), .val (.int p3), .val (.int p4), .unset, .unset, .unset, .unset, .unset, .unset, .unset, .unset, .unset, .unset, .unset, .unset] [(.long (10000000000000 : Int64)), (.int (13 : Int32)), (.ref bp), (.ref bp)])) rfl rfl (hb hby at_93)
  have N400 := Fr.snoc X400 N398 g_bp
  have O400 := O398.wr W400 g_bp
  have A367x_e400 := A367x_e398.wr W400
  have V400 : Arv Z h400 bp k367 .long (19 : Int32) [(.long (1 : Int64)), (.long (10 : Int64)), (.long (100 : Int64)), (.long (1000 : Int64)), (.long (10000 : Int64)), (.long (100000 : Int64)), (.long (1000000 : Int64)), (.long (10000000 : Int64)), (.long (100000000 : Int64)), (.long (1000000000 : Int64)), (.long (10000000000 : Int64)), (.long (100000000000 : Int64)), (.long (1000000000000 : Int64)), (.long (10000000000000 : Int64)), (.long (0 : Int64)), (.long (0 : Int64)), (.long (0 : Int64)), (.long (0 : Int64)), (.long (0 : Int64))] (.long (0 : Int64)) := Arv.set Ar399 qa399 Sa399 Na399 Ha399 Ga399 rfl W400 13 rfl (Nat.le_of_ble_eq_true rfl)
  refine own_to (fun t k => st400 t k) ?_
  show own_Fin _ _ _ _ _ _ (T400.setTop (mkF m 94 #[.val (.long q1), .second, .val (.int p2), .val (.int p3), .val (.int p4), .unset, .unset, .unset, .unset, .unset, .unset, .unset, .unset, .unset, .unset, .unset, .unset] [(.ref bp)]))
  refine own_to (fun t k => XS.dup X400.here hx rfl (hb hby at_94) rfl rfl k) ?_
  refine own_to (fun t k => XS.bipush X400.here hx rfl (hb hby at_95) k) ?_
  refine own_to (fun t k => X400.ldc2Long hx hown (mvT hZ (own_W hw 14 rfl)) (g := (mkF m 97 #[.val (.long q1), .second, .val (.int p2), .val (.int p3), .val (.int p4), .unset, .unset, .unset, .unset, .unset, .unset, .unset, .unset, .unset, .unset, .unset, .unset] [(.int (14 : Int32)), (.ref bp), (.ref bp)])) rfl (hb hby at_97) _ k) ?_
  show own_Fin _ _ _ _ _ _ (T400.setTop (mkF m 100 #[.val (.long q1), .second, .val (.int p2), .val (.int p3), .val (.int p4), .unset, .unset, .unset, .unset, .unset, .unset, .unset, .unset, .unset, .unset, .unset, .unset] [(.long (100000000000000 : Int64)), (.int (14 : Int32)), (.ref bp), (.ref bp)]))
  obtain ⟨cl401, Ar401, qa401, Sa401, Na401, Ha401, Ga401⟩ := id V400
  have hin402 : ¬ ((14 : Int32) < 0 ∨ cl401.slots.size ≤ ((14 : Int32)).toNatClampNeg) := inb_of Sa401 ⟨by decide, by decide⟩
  obtain ⟨T402, h402, X402, e402, W402, st402⟩ := stJ X400 hx hZ e400 Ar401 (j := (14 : Int32)) hin402 (g := (mkF m 100 #[.val (.long q1), .second, .val (.int p2), .val (.int p3), .val (.int p4), .unset, .unset, .unset, .unset, .unset, .unset, .unset, .unset, .unset, .unset, .unset, .unset] [(.long (100000000000000 : Int64)), (.int (14 : Int32)), (.ref bp), (.ref bp)])) rfl rfl (hb hby at_100)
  have N402 := Fr.snoc X402 N400 g_bp
  have O402 := O400.wr W402 g_bp
  have A367x_e402 := A367x_e400.wr W402
  have V402 : Arv Z h402 bp k367 .long (19 : Int32) [(.long (1 : Int64)), (.long (10 : Int64)), (.long (100 : Int64)), (.long (1000 : Int64)), (.long (10000 : Int64)), (.long (100000 : Int64)), (.long (1000000 : Int64)), (.long (10000000 : Int64)), (.long (100000000 : Int64)), (.long (1000000000 : Int64)), (.long (10000000000 : Int64)), (.long (100000000000 : Int64)), (.long (1000000000000 : Int64)), (.long (10000000000000 : Int64)), (.long (100000000000000 : Int64)), (.long (0 : Int64)), (.long (0 : Int64)), (.long (0 : Int64)), (.long (0 : Int64))] (.long (0 : Int64)) := Arv.set Ar401 qa401 Sa401 Na401 Ha401 Ga401 rfl W402 14 rfl (Nat.le_of_ble_eq_true rfl)
  have zs403 := (Nat.le_trans (Nat.le_trans (Nat.le_trans zs396 (Keep.of_wr W395).1) (Keep.of_wr W398).1) (Keep.of_wr W400).1)
  refine own_to (fun t k => st402 t k) ?_
  show own_Fin _ _ _ _ _ _ (T402.setTop (mkF m 101 #[.val (.long q1), .second, .val (.int p2), .val (.int p3), .val (.int p4), .unset, .unset, .unset, .unset, .unset, .unset, .unset, .unset, .unset, .unset, .unset, .unset] [(.ref bp)]))
  refine own_to (fun t k => XS.dup X402.here hx rfl (hb hby at_101) rfl rfl k) ?_
  show own_Fin _ _ _ _ _ _ (T402.setTop (mkF m 102 #[.val (.long q1), .second, .val (.int p2), .val (.int p3), .val (.int p4), .unset, .unset, .unset, .unset, .unset, .unset, .unset, .unset, .unset, .unset, .unset, .unset] [(.ref bp), (.ref bp)]))
  refine own_to (fun t k => XS.bipush X402.here hx rfl (hb hby at_102) k) ?_
  refine own_to (fun t k => X402.ldc2Long hx hown (mvT hZ (own_W hw 15 rfl)) (g := (mkF m 104 #[.val (.long q1), .second, .val (.int p2), .val (.int p3), .val (.int p4), .unset, .unset, .unset, .unset, .unset, .unset, .unset, .unset, .unset, .unset, .unset, .unset] [(.int (15 : Int32)), (.ref bp), (.ref bp)])) rfl (hb hby at_104) _ k) ?_
  show own_Fin _ _ _ _ _ _ (T402.setTop (mkF m 107 #[.val (.long q1), .second, .val (.int p2), .val (.int p3), .val (.int p4), .unset, .unset, .unset, .unset, .unset, .unset, .unset, .unset, .unset, .unset, .unset, .unset] [(.long (1000000000000000 : Int64)), (.int (15 : Int32)), (.ref bp), (.ref bp)]))
  obtain ⟨cl404, Ar404, qa404, Sa404, Na404, Ha404, Ga404⟩ := id V402
  have hin405 : ¬ ((15 : Int32) < 0 ∨ cl404.slots.size ≤ ((15 : Int32)).toNatClampNeg) := inb_of Sa404 ⟨by decide, by decide⟩
  obtain ⟨T405, h405, X405, e405, W405, st405⟩ := stJ X402 hx hZ e402 Ar404 (j := (15 : Int32)) hin405 (g := (mkF m 107 #[.val (.long q1), .second, .val (.int p2), .val (.int p3), .val (.int p4), .unset, .unset, .unset, .unset, .unset, .unset, .unset, .unset, .unset, .unset, .unset, .unset] [(.long (1000000000000000 : Int64)), (.int (15 : Int32)), (.ref bp), (.ref bp)])) rfl rfl (hb hby at_107)
  have N405 := Fr.snoc X405 N402 g_bp
  have O405 := O402.wr W405 g_bp
  have A367x_e405 := A367x_e402.wr W405
  have V405 : Arv Z h405 bp k367 .long (19 : Int32) [(.long (1 : Int64)), (.long (10 : Int64)), (.long (100 : Int64)), (.long (1000 : Int64)), (.long (10000 : Int64)), (.long (100000 : Int64)), (.long (1000000 : Int64)), (.long (10000000 : Int64)), (.long (100000000 : Int64)), (.long (1000000000 : Int64)), (.long (10000000000 : Int64)), (.long (100000000000 : Int64)), (.long (1000000000000 : Int64)), (.long (10000000000000 : Int64)), (.long (100000000000000 : Int64)), (.long (1000000000000000 : Int64)), (.long (0 : Int64)), (.long (0 : Int64)), (.long (0 : Int64))] (.long (0 : Int64)) := Arv.set Ar404 qa404 Sa404 Na404 Ha404 Ga404 rfl W405 15 rfl (Nat.le_of_ble_eq_true rfl)
  refine own_to (fun t k => st405 t k) ?_
  show own_Fin _ _ _ _ _ _ (T405.setTop (mkF m 108 #[.val (.long q1), .second, .val (.int p2), .val (.int p3), .val (.int p4), .unset, .unset, .unset, .unset, .unset, .unset, .unset, .unset, .unset, .unset, .unset, .unset] [(.ref bp)]))
  refine own_to (fun t k => XS.dup X405.here hx rfl (hb hby at_108) rfl rfl k) ?_
  refine own_to (fun t k => XS.bipush X405.here hx rfl (hb hby at_109) k) ?_
  show own_Fin _ _ _ _ _ _ (T405.setTop (mkF m 111 #[.val (.long q1), .second, .val (.int p2), .val (.int p3), .val (.int p4), .unset, .unset, .unset, .unset, .unset, .unset, .unset, .unset, .unset, .unset, .unset, .unset] [(.int (16 : Int32)), (.ref bp), (.ref bp)]))
  refine own_to (fun t k => X405.ldc2Long hx hown (mvT hZ (own_W hw 16 rfl)) (g := (mkF m 111 #[.val (.long q1), .second, .val (.int p2), .val (.int p3), .val (.int p4), .unset, .unset, .unset, .unset, .unset, .unset, .unset, .unset, .unset, .unset, .unset, .unset] [(.int (16 : Int32)), (.ref bp), (.ref bp)])) rfl (hb hby at_111) _ k) ?_
  show own_Fin _ _ _ _ _ _ (T405.setTop (mkF m 114 #[.val (.long q1), .second, .val (.int p2), .val (.int p3), .val (.int p4), .unset, .unset, .unset, .unset, .unset, .unset, .unset, .unset, .unset, .unset, .unset, .unset] [(.long (10000000000000000 : Int64)), (.int (16 : Int32)), (.ref bp), (.ref bp)]))
  obtain ⟨cl406, Ar406, qa406, Sa406, Na406, Ha406, Ga406⟩ := id V405
  have hin407 : ¬ ((16 : Int32) < 0 ∨ cl406.slots.size ≤ ((16 : Int32)).toNatClampNeg) := inb_of Sa406 ⟨by decide, by decide⟩
  obtain ⟨T407, h407, X407, e407, W407, st407⟩ := stJ X405 hx hZ e405 Ar406 (j := (16 : Int32)) hin407 (g := (mkF m 114 #[.val (.long q1), .second, .val (.int p2), .val (.int p3), .val (.int p4), .unset, .unset, .unset, .unset, .unset, .unset, .unset, .unset, .unset, .unset, .unset, .unset] [(.long (10000000000000000 : Int64)), (.int (16 : Int32)), (.ref bp), (.ref bp)])) rfl rfl (hb hby at_114)
  have N407 := Fr.snoc X407 N405 g_bp
  have O407 := O405.wr W407 g_bp
  have A367x_e407 := A367x_e405.wr W407
  have V407 : Arv Z h407 bp k367 .long (19 : Int32) [(.long (1 : Int64)), (.long (10 : Int64)), (.long (100 : Int64)), (.long (1000 : Int64)), (.long (10000 : Int64)), (.long (100000 : Int64)), (.long (1000000 : Int64)), (.long (10000000 : Int64)), (.long (100000000 : Int64)), (.long (1000000000 : Int64)), (.long (10000000000 : Int64)), (.long (100000000000 : Int64)), (.long (1000000000000 : Int64)), (.long (10000000000000 : Int64)), (.long (100000000000000 : Int64)), (.long (1000000000000000 : Int64)), (.long (10000000000000000 : Int64)), (.long (0 : Int64)), (.long (0 : Int64))] (.long (0 : Int64)) := Arv.set Ar406 qa406 Sa406 Na406 Ha406 Ga406 rfl W407 16 rfl (Nat.le_of_ble_eq_true rfl)
  refine own_to (fun t k => st407 t k) ?_
  show own_Fin _ _ _ _ _ _ (T407.setTop (mkF m 115 #[.val (.long q1), .second, .val (.int p2), .val (.int p3), .val (.int p4), .unset, .unset, .unset, .unset, .unset, .unset, .unset, .unset, .unset, .unset, .unset, .unset] [(.ref bp)]))
  refine own_to (fun t k => XS.dup X407.here hx rfl (hb hby at_115) rfl rfl k) ?_
  refine own_to (fun t k => XS.bipush X407.here hx rfl (hb hby at_116) k) ?_
  refine own_to (fun t k => X407.ldc2Long hx hown (mvT hZ (own_W hw 17 rfl)) (g := (mkF m 118 #[.val (.long q1), .second, .val (.int p2), .val (.int p3), .val (.int p4), .unset, .unset, .unset, .unset, .unset, .unset, .unset, .unset, .unset, .unset, .unset, .unset] [(.int (17 : Int32)), (.ref bp), (.ref bp)])) rfl (hb hby at_118) _ k) ?_
  show own_Fin _ _ _ _ _ _ (T407.setTop (mkF m 121 #[.val (.long q1), .second, .val (.int p2), .val (.int p3), .val (.int p4), .unset, .unset, .unset, .unset, .unset, .unset, .unset, .unset, .unset, .unset, .unset, .unset] [(.long (100000000000000000 : Int64)), (.int (17 : Int32)), (.ref bp), (.ref bp)]))
  obtain ⟨cl408, Ar408, qa408, Sa408, Na408, Ha408, Ga408⟩ := id V407
  have hin409 : ¬ ((17 : Int32) < 0 ∨ cl408.slots.size ≤ ((17 : Int32)).toNatClampNeg) := inb_of Sa408 ⟨by decide, by decide⟩
  obtain ⟨T409, h409, X409, e409, W409, st409⟩ := stJ X407 hx hZ e407 Ar408 (j := (17 : Int32)) hin409 (g := (mkF m 121 #[.val (.long q1), .second, .val (.int p2), .val (.int p3), .val (.int p4), .unset, .unset, .unset, .unset, .unset, .unset, .unset, .unset, .unset, .unset, .unset, .unset] [(.long (100000000000000000 : Int64)), (.int (17 : Int32)), (.ref bp), (.ref bp)])) rfl rfl (hb hby at_121)
  have N409 := Fr.snoc X409 N407 g_bp
  have O409 := O407.wr W409 g_bp
  have A367x_e409 := A367x_e407.wr W409
  have V409 : Arv Z h409 bp k367 .long (19 : Int32) [(.long (1 : Int64)), (.long (10 : Int64)), (.long (100 : Int64)), (.long (1000 : Int64)), (.long (10000 : Int64)), (.long (100000 : Int64)), (.long (1000000 : Int64)), (.long (10000000 : Int64)), (.long (100000000 : Int64)), (.long (1000000000 : Int64)), (.long (10000000000 : Int64)), (.long (100000000000 : Int64)), (.long (1000000000000 : Int64)), (.long (10000000000000 : Int64)), (.long (100000000000000 : Int64)), (.long (1000000000000000 : Int64)), (.long (10000000000000000 : Int64)), (.long (100000000000000000 : Int64)), (.long (0 : Int64))] (.long (0 : Int64)) := Arv.set Ar408 qa408 Sa408 Na408 Ha408 Ga408 rfl W409 17 rfl (Nat.le_of_ble_eq_true rfl)
  have zs410 := (Nat.le_trans (Nat.le_trans (Nat.le_trans zs403 (Keep.of_wr W402).1) (Keep.of_wr W405).1) (Keep.of_wr W407).1)
  refine own_to (fun t k => st409 t k) ?_
  show own_Fin _ _ _ _ _ _ (T409.setTop (mkF m 122 #[.val (.long q1), .second, .val (.int p2), .val (.int p3), .val (.int p4), .unset, .unset, .unset, .unset, .unset, .unset, .unset, .unset, .unset, .unset, .unset, .unset] [(.ref bp)]))
  refine own_to (fun t k => XS.dup X409.here hx rfl (hb hby at_122) rfl rfl k) ?_
  show own_Fin _ _ _ _ _ _ (T409.setTop (mkF m 123 #[.val (.long q1), .second, .val (.int p2), .val (.int p3), .val (.int p4), .unset, .unset, .unset, .unset, .unset, .unset, .unset, .unset, .unset, .unset, .unset, .unset] [(.ref bp), (.ref bp)]))
  refine own_to (fun t k => XS.bipush X409.here hx rfl (hb hby at_123) k) ?_
  refine own_to (fun t k => X409.ldc2Long hx hown (mvT hZ (own_W hw 18 rfl)) (g := (mkF m 125 #[.val (.long q1), .second, .val (.int p2), .val (.int p3), .val (.int p4), .unset, .unset, .unset, .unset, .unset, .unset, .unset, .unset, .unset, .unset, .unset, .unset] [(.int (18 : Int32)), (.ref bp), (.ref bp)])) rfl (hb hby at_125) _ k) ?_
  show own_Fin _ _ _ _ _ _ (T409.setTop (mkF m 128 #[.val (.long q1), .second, .val (.int p2), .val (.int p3), .val (.int p4), .unset, .unset, .unset, .unset, .unset, .unset, .unset, .unset, .unset, .unset, .unset, .unset] [(.long (1000000000000000000 : Int64)), (.int (18 : Int32)), (.ref bp), (.ref bp)]))
  obtain ⟨cl411, Ar411, qa411, Sa411, Na411, Ha411, Ga411⟩ := id V409
  have hin412 : ¬ ((18 : Int32) < 0 ∨ cl411.slots.size ≤ ((18 : Int32)).toNatClampNeg) := inb_of Sa411 ⟨by decide, by decide⟩
  obtain ⟨T412, h412, X412, e412, W412, st412⟩ := stJ X409 hx hZ e409 Ar411 (j := (18 : Int32)) hin412 (g := (mkF m 128 #[.val (.long q1), .second, .val (.int p2), .val (.int p3), .val (.int p4), .unset, .unset, .unset, .unset, .unset, .unset, .unset, .unset, .unset, .unset, .unset, .unset] [(.long (1000000000000000000 : Int64)), (.int (18 : Int32)), (.ref bp), (.ref bp)])) rfl rfl (hb hby at_128)
  have N412 := Fr.snoc X412 N409 g_bp
  have O412 := O409.wr W412 g_bp
  have A367x_e412 := A367x_e409.wr W412
  have V412 : Arv Z h412 bp k367 .long (19 : Int32) [(.long (1 : Int64)), (.long (10 : Int64)), (.long (100 : Int64)), (.long (1000 : Int64)), (.long (10000 : Int64)), (.long (100000 : Int64)), (.long (1000000 : Int64)), (.long (10000000 : Int64)), (.long (100000000 : Int64)), (.long (1000000000 : Int64)), (.long (10000000000 : Int64)), (.long (100000000000 : Int64)), (.long (1000000000000 : Int64)), (.long (10000000000000 : Int64)), (.long (100000000000000 : Int64)), (.long (1000000000000000 : Int64)), (.long (10000000000000000 : Int64)), (.long (100000000000000000 : Int64)), (.long (1000000000000000000 : Int64))] (.long (0 : Int64)) := Arv.set Ar411 qa411 Sa411 Na411 Ha411 Ga411 rfl W412 18 rfl (Nat.le_of_ble_eq_true rfl)
  refine own_to (fun t k => st412 t k) ?_
  show own_Fin _ _ _ _ _ _ (T412.setTop (mkF m 129 #[.val (.long q1), .second, .val (.int p2), .val (.int p3), .val (.int p4), .unset, .unset, .unset, .unset, .unset, .unset, .unset, .unset, .unset, .unset, .unset, .unset] [(.ref bp)]))
  have Vp413 : Arv Z h412 bp k367 .long (19 : Int32) (own_P.map Value.long) (.long (0 : Int64)) := V412
  refine own_to (fun t k => XS.astore X412.here hx rfl (hb hby at_129) rfl rfl (l' := #[.val (.long q1), .second, .val (.int p2), .val (.int p3), .val (.int p4), rv bp, .unset, .unset, .unset, .unset, .unset, .unset, .unset, .unset, .unset, .unset, .unset]) rfl k) ?_
  show own_Fin _ _ _ _ _ _ (T412.setTop (mkF m 131 #[.val (.long q1), .second, .val (.int p2), .val (.int p3), .val (.int p4), rv bp, .unset, .unset, .unset, .unset, .unset, .unset, .unset, .unset, .unset, .unset, .unset] []))
  refine own_to (fun t k => XS.lloadN X412.here hx rfl (hb hby at_131) rfl k) ?_
  refine own_to (fun t k => X412.ldc2Long hx hown (mvT hZ (own_W hw 19 rfl)) (g := (mkF m 132 #[.val (.long q1), .second, .val (.int p2), .val (.int p3), .val (.int p4), rv bp, .unset, .unset, .unset, .unset, .unset, .unset, .unset, .unset, .unset, .unset, .unset] [(.long q1)])) rfl (hb hby at_132) _ k) ?_
  show own_Fin _ _ _ _ _ _ (T412.setTop (mkF m 135 #[.val (.long q1), .second, .val (.int p2), .val (.int p3), .val (.int p4), rv bp, .unset, .unset, .unset, .unset, .unset, .unset, .unset, .unset, .unset, .unset, .unset] [(.long (9223372036854775807 : Int64)), (.long q1)]))
  refine own_to (fun t k => XS.land X412.here hx rfl (hb hby at_135) rfl k) ?_
  show own_Fin _ _ _ _ _ _ (T412.setTop (mkF m 136 #[.val (.long q1), .second, .val (.int p2), .val (.int p3), .val (.int p4), rv bp, .unset, .unset, .unset, .unset, .unset, .unset, .unset, .unset, .unset, .unset, .unset] [(.long (q1 &&& (9223372036854775807 : Int64)))]))
  obtain ⟨vv, hvv⟩ : ∃ z, z = (q1 &&& (9223372036854775807 : Int64)) := ⟨_, rfl⟩
  rw [← hvv]
  show own_Fin _ _ _ _ _ _ (T412.setTop (mkF m 136 #[.val (.long q1), .second, .val (.int p2), .val (.int p3), .val (.int p4), rv bp, .unset, .unset, .unset, .unset, .unset, .unset, .unset, .unset, .unset, .unset, .unset] [(.long vv)]))
  refine own_to (fun t k => XS.lstore X412.here hx rfl (hb hby at_136) rfl (l' := #[.val (.long q1), .second, .val (.int p2), .val (.int p3), .val (.int p4), rv bp, .val (.long vv), .second, .unset, .unset, .unset, .unset, .unset, .unset, .unset, .unset, .unset]) rfl k) ?_
  show own_Fin _ _ _ _ _ _ (T412.setTop (mkF m 138 #[.val (.long q1), .second, .val (.int p2), .val (.int p3), .val (.int p4), rv bp, .val (.long vv), .second, .unset, .unset, .unset, .unset, .unset, .unset, .unset, .unset, .unset] []))
  refine own_to (fun t k => XS.iconst X412.here hx rfl (hb hby at_138) k) ?_
  refine own_to (fun t k => XS.iloadN X412.here hx rfl (hb hby at_139) rfl k) ?_
  refine own_to (fun t k => X412.ldcInt hx hown (mvT hZ (own_W hw 20 rfl)) (g := (mkF m 140 #[.val (.long q1), .second, .val (.int p2), .val (.int p3), .val (.int p4), rv bp, .val (.long vv), .second, .unset, .unset, .unset, .unset, .unset, .unset, .unset, .unset, .unset] [(.int p2), (.int (1 : Int32))])) rfl (hb hby at_140) _ k) ?_
  show own_Fin _ _ _ _ _ _ (T412.setTop (mkF m 142 #[.val (.long q1), .second, .val (.int p2), .val (.int p3), .val (.int p4), rv bp, .val (.long vv), .second, .unset, .unset, .unset, .unset, .unset, .unset, .unset, .unset, .unset] [(.int (2147483647 : Int32)), (.int p2), (.int (1 : Int32))]))
  refine own_to (fun t k => XS.iand X412.here hx rfl (hb hby at_142) rfl k) ?_
  show own_Fin _ _ _ _ _ _ (T412.setTop (mkF m 143 #[.val (.long q1), .second, .val (.int p2), .val (.int p3), .val (.int p4), rv bp, .val (.long vv), .second, .unset, .unset, .unset, .unset, .unset, .unset, .unset, .unset, .unset] [(.int (p2 &&& (2147483647 : Int32))), (.int (1 : Int32))]))
  refine own_to (fun t k => XS.bipush X412.here hx rfl (hb hby at_143) k) ?_
  refine own_to (fun t k => XS.irem X412.here hx rfl (hb hby at_145) rfl (by decide) k) ?_
  show own_Fin _ _ _ _ _ _ (T412.setTop (mkF m 146 #[.val (.long q1), .second, .val (.int p2), .val (.int p3), .val (.int p4), rv bp, .val (.long vv), .second, .unset, .unset, .unset, .unset, .unset, .unset, .unset, .unset, .unset] [(.int ((p2 &&& (2147483647 : Int32)) - (((p2 &&& (2147483647 : Int32)) / (19 : Int32)) * (19 : Int32)))), (.int (1 : Int32))]))
  refine own_to (fun t k => XS.iadd X412.here hx rfl (hb hby at_146) rfl k) ?_
  show own_Fin _ _ _ _ _ _ (T412.setTop (mkF m 147 #[.val (.long q1), .second, .val (.int p2), .val (.int p3), .val (.int p4), rv bp, .val (.long vv), .second, .unset, .unset, .unset, .unset, .unset, .unset, .unset, .unset, .unset] [(.int ((1 : Int32) + ((p2 &&& (2147483647 : Int32)) - (((p2 &&& (2147483647 : Int32)) / (19 : Int32)) * (19 : Int32)))))]))
  obtain ⟨n, hn0⟩ : ∃ z, z = ((1 : Int32) + ((p2 &&& (2147483647 : Int32)) - (((p2 &&& (2147483647 : Int32)) / (19 : Int32)) * (19 : Int32)))) := ⟨_, rfl⟩
  rw [← hn0]
  show own_Fin _ _ _ _ _ _ (T412.setTop (mkF m 147 #[.val (.long q1), .second, .val (.int p2), .val (.int p3), .val (.int p4), rv bp, .val (.long vv), .second, .unset, .unset, .unset, .unset, .unset, .unset, .unset, .unset, .unset] [(.int n)]))
  have hnb : 1 ≤ n.toInt ∧ n.toInt ≤ 19 := by rw [hn0]; exact own_nv _
  refine own_to (fun t k => XS.istore X412.here hx rfl (hb hby at_147) rfl (l' := #[.val (.long q1), .second, .val (.int p2), .val (.int p3), .val (.int p4), rv bp, .val (.long vv), .second, .val (.int n), .unset, .unset, .unset, .unset, .unset, .unset, .unset, .unset]) rfl k) ?_
  show own_Fin _ _ _ _ _ _ (T412.setTop (mkF m 149 #[.val (.long q1), .second, .val (.int p2), .val (.int p3), .val (.int p4), rv bp, .val (.long vv), .second, .val (.int n), .unset, .unset, .unset, .unset, .unset, .unset, .unset, .unset] []))
  refine own_to (fun t k => XS.iloadN X412.here hx rfl (hb hby at_149) rfl k) ?_
  refine own_to (fun t k => X412.ldcInt hx hown (mvT hZ (own_W hw 20 rfl)) (g := (mkF m 150 #[.val (.long q1), .second, .val (.int p2), .val (.int p3), .val (.int p4), rv bp, .val (.long vv), .second, .val (.int n), .unset, .unset, .unset, .unset, .unset, .unset, .unset, .unset] [(.int p3)])) rfl (hb hby at_150) _ k) ?_
  show own_Fin _ _ _ _ _ _ (T412.setTop (mkF m 152 #[.val (.long q1), .second, .val (.int p2), .val (.int p3), .val (.int p4), rv bp, .val (.long vv), .second, .val (.int n), .unset, .unset, .unset, .unset, .unset, .unset, .unset, .unset] [(.int (2147483647 : Int32)), (.int p3)]))
  refine own_to (fun t k => XS.iand X412.here hx rfl (hb hby at_152) rfl k) ?_
  show own_Fin _ _ _ _ _ _ (T412.setTop (mkF m 153 #[.val (.long q1), .second, .val (.int p2), .val (.int p3), .val (.int p4), rv bp, .val (.long vv), .second, .val (.int n), .unset, .unset, .unset, .unset, .unset, .unset, .unset, .unset] [(.int (p3 &&& (2147483647 : Int32)))]))
  refine own_to (fun t k => XS.iload X412.here hx rfl (hb hby at_153) rfl k) ?_
  refine own_to (fun t k => XS.iconst X412.here hx rfl (hb hby at_155) k) ?_
  refine own_to (fun t k => XS.iadd X412.here hx rfl (hb hby at_156) rfl k) ?_
  show own_Fin _ _ _ _ _ _ (T412.setTop (mkF m 157 #[.val (.long q1), .second, .val (.int p2), .val (.int p3), .val (.int p4), rv bp, .val (.long vv), .second, .val (.int n), .unset, .unset, .unset, .unset, .unset, .unset, .unset, .unset] [(.int (n + (1 : Int32))), (.int (p3 &&& (2147483647 : Int32)))]))
  refine own_to (fun t k => XS.irem X412.here hx rfl (hb hby at_157) rfl (own_np hnb) k) ?_
  show own_Fin _ _ _ _ _ _ (T412.setTop (mkF m 158 #[.val (.long q1), .second, .val (.int p2), .val (.int p3), .val (.int p4), rv bp, .val (.long vv), .second, .val (.int n), .unset, .unset, .unset, .unset, .unset, .unset, .unset, .unset] [(.int ((p3 &&& (2147483647 : Int32)) - (((p3 &&& (2147483647 : Int32)) / (n + (1 : Int32))) * (n + (1 : Int32)))))]))
  obtain ⟨pp, hpp⟩ : ∃ z, z = ((p3 &&& (2147483647 : Int32)) - (((p3 &&& (2147483647 : Int32)) / (n + (1 : Int32))) * (n + (1 : Int32)))) := ⟨_, rfl⟩
  rw [← hpp]
  show own_Fin _ _ _ _ _ _ (T412.setTop (mkF m 158 #[.val (.long q1), .second, .val (.int p2), .val (.int p3), .val (.int p4), rv bp, .val (.long vv), .second, .val (.int n), .unset, .unset, .unset, .unset, .unset, .unset, .unset, .unset] [(.int pp)]))
  refine own_to (fun t k => XS.istore X412.here hx rfl (hb hby at_158) rfl (l' := #[.val (.long q1), .second, .val (.int p2), .val (.int p3), .val (.int p4), rv bp, .val (.long vv), .second, .val (.int n), .val (.int pp), .unset, .unset, .unset, .unset, .unset, .unset, .unset]) rfl k) ?_
  show own_Fin _ _ _ _ _ _ (T412.setTop (mkF m 160 #[.val (.long q1), .second, .val (.int p2), .val (.int p3), .val (.int p4), rv bp, .val (.long vv), .second, .val (.int n), .val (.int pp), .unset, .unset, .unset, .unset, .unset, .unset, .unset] []))
  refine own_to (fun t k => XS.iload X412.here hx rfl (hb hby at_160) rfl k) ?_
  refine own_to (fun t k => XS.iconst X412.here hx rfl (hb hby at_162) k) ?_
  refine own_to (fun t k => XS.iand X412.here hx rfl (hb hby at_163) rfl k) ?_
  show own_Fin _ _ _ _ _ _ (T412.setTop (mkF m 164 #[.val (.long q1), .second, .val (.int p2), .val (.int p3), .val (.int p4), rv bp, .val (.long vv), .second, .val (.int n), .val (.int pp), .unset, .unset, .unset, .unset, .unset, .unset, .unset] [(.int (p4 &&& (1 : Int32)))]))
  obtain ⟨sg, hsg⟩ : ∃ z, z = (p4 &&& (1 : Int32)) := ⟨_, rfl⟩
  rw [← hsg]
  show own_Fin _ _ _ _ _ _ (T412.setTop (mkF m 164 #[.val (.long q1), .second, .val (.int p2), .val (.int p3), .val (.int p4), rv bp, .val (.long vv), .second, .val (.int n), .val (.int pp), .unset, .unset, .unset, .unset, .unset, .unset, .unset] [(.int sg)]))
  refine own_to (fun t k => XS.istore X412.here hx rfl (hb hby at_164) rfl (l' := #[.val (.long q1), .second, .val (.int p2), .val (.int p3), .val (.int p4), rv bp, .val (.long vv), .second, .val (.int n), .val (.int pp), .val (.int sg), .unset, .unset, .unset, .unset, .unset, .unset]) rfl k) ?_
  show own_Fin _ _ _ _ _ _ (T412.setTop (mkF m 166 #[.val (.long q1), .second, .val (.int p2), .val (.int p3), .val (.int p4), rv bp, .val (.long vv), .second, .val (.int n), .val (.int pp), .val (.int sg), .unset, .unset, .unset, .unset, .unset, .unset] []))
  refine own_to (fun t k => XS.iload X412.here hx rfl (hb hby at_166) rfl k) ?_
  refine own_to (fun t k => XS.bipush X412.here hx rfl (hb hby at_168) k) ?_
  refine own_cut (V := T412.setTop (mkF m 186 #[.val (.long q1), .second, .val (.int p2), .val (.int p3), .val (.int p4), rv bp, .val (.long vv), .second, .val (.int n), .val (.int pp), .val (.int sg), .unset, .unset, .unset, .unset, .unset, .unset] [(.long (own_w vv n))])) ?_ (fun J => ?_)
  rotate_left
  ·
    show own_Fin _ _ _ _ _ _ (T412.setTop (mkF m 170 #[.val (.long q1), .second, .val (.int p2), .val (.int p3), .val (.int p4), rv bp, .val (.long vv), .second, .val (.int n), .val (.int pp), .val (.int sg), .unset, .unset, .unset, .unset, .unset, .unset] [(.int (19 : Int32)), (.int n)]))
    by_cases hc170_414 : n = (19 : Int32)
    ·
      show own_Fin _ _ _ _ _ _ (T412.setTop (mkF m 170 #[.val (.long q1), .second, .val (.int p2), .val (.int p3), .val (.int p4), rv bp, .val (.long vv), .second, .val (.int n), .val (.int pp), .val (.int sg), .unset, .unset, .unset, .unset, .unset, .unset] [(.int (19 : Int32)), (.int n)]))
      refine own_to (fun t k => XS.icmpNo X412.here hx rfl (hb hby at_170) rfl (teq hc170_414).2 k) ?_
      show own_Fin _ _ _ _ _ _ (T412.setTop (mkF m 173 #[.val (.long q1), .second, .val (.int p2), .val (.int p3), .val (.int p4), rv bp, .val (.long vv), .second, .val (.int n), .val (.int pp), .val (.int sg), .unset, .unset, .unset, .unset, .unset, .unset] []))
      refine own_to (fun t k => XS.lload X412.here hx rfl (hb hby at_173) rfl k) ?_
      show own_Fin _ _ _ _ _ _ (T412.setTop (mkF m 175 #[.val (.long q1), .second, .val (.int p2), .val (.int p3), .val (.int p4), rv bp, .val (.long vv), .second, .val (.int n), .val (.int pp), .val (.int sg), .unset, .unset, .unset, .unset, .unset, .unset] [(.long vv)]))
      refine own_to (fun t k => XS.goto X412.here hx rfl (pc0 := 175) (pc' := 186) rfl (hb hby at_175) (by decide) (by decide) k) ?_
      show own_Fin _ _ _ _ _ _ (T412.setTop (mkF m 186 #[.val (.long q1), .second, .val (.int p2), .val (.int p3), .val (.int p4), rv bp, .val (.long vv), .second, .val (.int n), .val (.int pp), .val (.int sg), .unset, .unset, .unset, .unset, .unset, .unset] [(.long vv)]))
      rw [(show (own_w vv n) = _ from ((if_pos hc170_414).trans rfl))] at J
      exact J
    ·
      show own_Fin _ _ _ _ _ _ (T412.setTop (mkF m 170 #[.val (.long q1), .second, .val (.int p2), .val (.int p3), .val (.int p4), rv bp, .val (.long vv), .second, .val (.int n), .val (.int pp), .val (.int sg), .unset, .unset, .unset, .unset, .unset, .unset] [(.int (19 : Int32)), (.int n)]))
      refine own_to (fun t k => XS.icmpYes X412.here hx rfl (pc0 := 170) (pc' := 178) rfl (hb hby at_170) rfl (feq hc170_414).2 (by decide) (by decide) k) ?_
      show own_Fin _ _ _ _ _ _ (T412.setTop (mkF m 178 #[.val (.long q1), .second, .val (.int p2), .val (.int p3), .val (.int p4), rv bp, .val (.long vv), .second, .val (.int n), .val (.int pp), .val (.int sg), .unset, .unset, .unset, .unset, .unset, .unset] []))
      refine own_to (fun t k => XS.lload X412.here hx rfl (hb hby at_178) rfl k) ?_
      show own_Fin _ _ _ _ _ _ (T412.setTop (mkF m 180 #[.val (.long q1), .second, .val (.int p2), .val (.int p3), .val (.int p4), rv bp, .val (.long vv), .second, .val (.int n), .val (.int pp), .val (.int sg), .unset, .unset, .unset, .unset, .unset, .unset] [(.long vv)]))
      refine own_to (fun t k => XS.aload X412.here hx rfl (hb hby at_180) rfl rfl k) ?_
      refine own_to (fun t k => XS.iload X412.here hx rfl (hb hby at_182) rfl k) ?_
      obtain ⟨cl415, Ar415, qa415, Sa415, Na415, Ha415, Ga415⟩ := id Vp413
      have hin416 : ¬ (n < 0 ∨ cl415.slots.size ≤ (n).toNatClampNeg) := inb_of Sa415 (own_nin hnb hc170_414)
      refine own_to (fun t k => X412.laload hx (j := n) (v := (.long (own_pw n))) (by rw [e412]; exact Ar415.1) (State.isArrayOf_alike hZ.alike Ar415.2.1) Ar415.2.2 hin416 (Has.at Ha415 hin416 (own_getp _)) (g := (mkF m 184 #[.val (.long q1), .second, .val (.int p2), .val (.int p3), .val (.int p4), rv bp, .val (.long vv), .second, .val (.int n), .val (.int pp), .val (.int sg), .unset, .unset, .unset, .unset, .unset, .unset] [(.int n), (.ref bp), (.long vv)])) rfl rfl (hb hby at_184) _ k) ?_
      show own_Fin _ _ _ _ _ _ (T412.setTop (mkF m 185 #[.val (.long q1), .second, .val (.int p2), .val (.int p3), .val (.int p4), rv bp, .val (.long vv), .second, .val (.int n), .val (.int pp), .val (.int sg), .unset, .unset, .unset, .unset, .unset, .unset] [(.long (own_pw n)), (.long vv)]))
      refine own_to (fun t k => XS.lrem X412.here hx rfl (hb hby at_185) rfl (own_npz hnb hc170_414) k) ?_
      show own_Fin _ _ _ _ _ _ (T412.setTop (mkF m 186 #[.val (.long q1), .second, .val (.int p2), .val (.int p3), .val (.int p4), rv bp, .val (.long vv), .second, .val (.int n), .val (.int pp), .val (.int sg), .unset, .unset, .unset, .unset, .unset, .unset] [(.long (vv - ((vv / (own_pw n)) * (own_pw n))))]))
      rw [(show (own_w vv n) = _ from ((if_neg hc170_414).trans rfl))] at J
      exact J
  show own_Fin _ _ _ _ _ _ (T412.setTop (mkF m 186 #[.val (.long q1), .second, .val (.int p2), .val (.int p3), .val (.int p4), rv bp, .val (.long vv), .second, .val (.int n), .val (.int pp), .val (.int sg), .unset, .unset, .unset, .unset, .unset, .unset] [(.long (own_w vv n))]))
  obtain ⟨ww, hww⟩ : ∃ z, z = (own_w vv n) := ⟨_, rfl⟩
  rw [← hww]
  show own_Fin _ _ _ _ _ _ (T412.setTop (mkF m 186 #[.val (.long q1), .second, .val (.int p2), .val (.int p3), .val (.int p4), rv bp, .val (.long vv), .second, .val (.int n), .val (.int pp), .val (.int sg), .unset, .unset, .unset, .unset, .unset, .unset] [(.long ww)]))
  obtain ⟨S, N, P, W, HK⟩ := own_mk hnb pp sg vv ww p3 p4 q1 hpp hsg hvv hww
  refine own_to (fun t k => XS.lstore X412.here hx rfl (hb hby at_186) rfl (l' := #[.val (.long q1), .second, .val (.int p2), .val (.int p3), .val (.int p4), rv bp, .val (.long vv), .second, .val (.int n), .val (.int pp), .val (.int sg), .val (.long ww), .second, .unset, .unset, .unset, .unset]) rfl k) ?_
  show own_Fin _ _ _ _ _ _ (T412.setTop (mkF m 188 #[.val (.long q1), .second, .val (.int p2), .val (.int p3), .val (.int p4), rv bp, .val (.long vv), .second, .val (.int n), .val (.int pp), .val (.int sg), .val (.long ww), .second, .unset, .unset, .unset, .unset] []))
  refine own_to (fun t k => XS.bipush X412.here hx rfl (hb hby at_188) k) ?_
  obtain ⟨T417, h417, k417, X417, e417, E417, A417, A417x, st417⟩ := newPE X412 hx hZ (own_W hw 21 rfl) e412 (g := (mkF m 190 #[.val (.long q1), .second, .val (.int p2), .val (.int p3), .val (.int p4), rv bp, .val (.long vv), .second, .val (.int n), .val (.int pp), .val (.int sg), .val (.long ww), .second, .unset, .unset, .unset, .unset] [(.int (21 : Int32))])) rfl (hb hby at_190) rfl (by decide) (cap := 21) (by decide) (by decide) (by decide) (by decide) (ad := "[C") (by decide)
  obtain ⟨bc, q417⟩ : ∃ z, z = h412.size := ⟨_, rfl⟩
  rw [← q417] at A417 A417x st417
  have ne_bp_bc : bp ≠ bc := Nat.ne_of_lt (Nat.lt_of_lt_of_le A367x_e412.lt (Nat.le_of_eq q417.symm))
  have g_bc : n0 ≤ bc := Nat.le_trans (Nat.le_trans (Nat.le_trans zs410 (Keep.of_wr W409).1) (Keep.of_wr W412).1) (Nat.le_of_eq q417.symm)
  have O417 := O412.ext E417
  have A367x_e417 := A367x_e412.ext E417
  have Vp413_e417 := Vp413.ext E417
  have V417 := Arv.new A417 (by decide)
  refine own_to (fun t k => st417 t k) ?_
  show own_Fin _ _ _ _ _ _ (T417.setTop (mkF m 192 #[.val (.long q1), .second, .val (.int p2), .val (.int p3), .val (.int p4), rv bp, .val (.long vv), .second, .val (.int n), .val (.int pp), .val (.int sg), .val (.long ww), .second, .unset, .unset, .unset, .unset] [(.ref bc)]))
  have V418p : Arv Z h417 bc k417 .char (21 : Int32) [(.int (0 : Int32)), (.int (0 : Int32)), (.int (0 : Int32)), (.int (0 : Int32)), (.int (0 : Int32)), (.int (0 : Int32)), (.int (0 : Int32)), (.int (0 : Int32)), (.int (0 : Int32)), (.int (0 : Int32)), (.int (0 : Int32)), (.int (0 : Int32)), (.int (0 : Int32)), (.int (0 : Int32)), (.int (0 : Int32)), (.int (0 : Int32)), (.int (0 : Int32)), (.int (0 : Int32)), (.int (0 : Int32)), (.int (0 : Int32)), (.int (0 : Int32))] (.int (0 : Int32)) := V417.pad (pad_rep [] (.int (0 : Int32)) 21)
  refine own_to (fun t k => XS.astore X417.here hx rfl (hb hby at_192) rfl rfl (l' := #[.val (.long q1), .second, .val (.int p2), .val (.int p3), .val (.int p4), rv bp, .val (.long vv), .second, .val (.int n), .val (.int pp), .val (.int sg), .val (.long ww), .second, rv bc, .unset, .unset, .unset]) rfl k) ?_
  show own_Fin _ _ _ _ _ _ (T417.setTop (mkF m 194 #[.val (.long q1), .second, .val (.int p2), .val (.int p3), .val (.int p4), rv bp, .val (.long vv), .second, .val (.int n), .val (.int pp), .val (.int sg), .val (.long ww), .second, rv bc, .unset, .unset, .unset] []))
  refine own_to (fun t k => XS.aload X417.here hx rfl (hb hby at_194) rfl rfl k) ?_
  refine own_to (fun t k => XS.iconst X417.here hx rfl (hb hby at_196) k) ?_
  refine own_to (fun t k => XS.iconst X417.here hx rfl (hb hby at_197) k) ?_
  show own_Fin _ _ _ _ _ _ (T417.setTop (mkF m 198 #[.val (.long q1), .second, .val (.int p2), .val (.int p3), .val (.int p4), rv bp, .val (.long vv), .second, .val (.int n), .val (.int pp), .val (.int sg), .val (.long ww), .second, rv bc, .unset, .unset, .unset] [(.int (0 : Int32)), (.int (0 : Int32)), (.ref bc)]))
  refine own_to (fun t k => XS.iload X417.here hx rfl (hb hby at_198) rfl k) ?_
  refine own_to (fun t k => XS.iload X417.here hx rfl (hb hby at_200) rfl k) ?_
  refine own_to (fun t k => XS.iload X417.here hx rfl (hb hby at_202) rfl k) ?_
  show own_Fin _ _ _ _ _ _ (T417.setTop (mkF m 204 #[.val (.long q1), .second, .val (.int p2), .val (.int p3), .val (.int p4), rv bp, .val (.long vv), .second, .val (.int n), .val (.int pp), .val (.int sg), .val (.long ww), .second, rv bc, .unset, .unset, .unset] [(.int pp), (.int n), (.int sg), (.int (0 : Int32)), (.int (0 : Int32)), (.ref bc)]))
  refine own_to (fun t k => XS.lload X417.here hx rfl (hb hby at_204) rfl k) ?_
  refine own_to (fun t k => XS.aload X417.here hx rfl (hb hby at_206) rfl rfl k) ?_
  have zs420 := (Nat.le_trans (Nat.le_trans (Nat.le_trans zs410 (Keep.of_wr W409).1) (Keep.of_wr W412).1) E417.1)
  obtain ⟨_, _, ⟨T421, L421, k421, n421⟩, -, X421, ⟨Lc421, hQ421, l421, y421, z421⟩, st421⟩ := Jvm.LawKit.callS X417 hx (y := (⟨"com/example/libxqtype/libxqtype/ExpressionLexerUnscaledValuePinLaw", "ch", "(IIIIJ[J)C"⟩ : MethodName)) hown (mvT hZ (own_W hw 22 rfl)) (mvT hZ (own_W hw 23 rfl)) (mvT hZ (own_W hw 24 rfl)) (mvT hZ (own_W hw 25 rfl)) (by decide) (own_back (W := 2) (own_chr l Z a0 hw [] (0 : Int32) sg n pp ww bp k367 S N P W 0 h417 n0 zs420 Vp413_e417 HK rfl (by decide)) hZ (own_W hw 25 rfl) (own_W hw 24 rfl) (by decide) (by decide)) (g := (mkF m 208 #[.val (.long q1), .second, .val (.int p2), .val (.int p3), .val (.int p4), rv bp, .val (.long vv), .second, .val (.int n), .val (.int pp), .val (.int sg), .val (.long ww), .second, rv bc, .unset, .unset, .unset] [(.ref bp), (.long ww), (.int pp), (.int n), (.int sg), (.int (0 : Int32)), (.int (0 : Int32)), (.ref bc)])) rfl (by rw [hml]; rfl) (argsL := [(.int (0 : Int32)), (.int sg), (.int n), (.int pp), (.long ww), (.ref bp)]) (rest := [(.int (0 : Int32)), (.ref bc)]) (lenOf own_pd14 rfl) rfl (by show 2 * 0 + _ ≤ _; exact Nat.le_of_eq rfl) (hb hby at_208) (fun _ _ => ⟨rfl, e417, (by decide : 2 + 0 ≤ _), (by decide : 40 + 0 ≤ _)⟩)
  dsimp only [Pt.U, Pt.locs, Pt.cells, Pt.slots] at X421 l421 y421 z421 st421 hQ421
  rw [l421, y421, z421] at X421
  obtain ⟨rfl, N421q, eh421⟩ := hQ421
  have N421 := Fr.app N412 N421q
  refine own_to (fun t k => st421 t k) ?_
  show own_Fin _ _ _ _ _ _ (T421.setTop (mkF m 211 #[.val (.long q1), .second, .val (.int p2), .val (.int p3), .val (.int p4), rv bp, .val (.long vv), .second, .val (.int n), .val (.int pp), .val (.int sg), .val (.long ww), .second, rv bc, .unset, .unset, .unset] [(.int (own_ch (0 : Int32) sg n pp ww)), (.int (0 : Int32)), (.ref bc)]))
  obtain ⟨x0, ex0⟩ : ∃ z, z = (own_ch (0 : Int32) sg n pp ww) := ⟨_, rfl⟩
  rw [← ex0]
  have hB0 := own_chB HK (i := (0 : Int32)) (I := 0) rfl (by decide)
  rw [← ex0] at hB0
  show own_Fin _ _ _ _ _ _ (T421.setTop (mkF m 211 #[.val (.long q1), .second, .val (.int p2), .val (.int p3), .val (.int p4), rv bp, .val (.long vv), .second, .val (.int n), .val (.int pp), .val (.int sg), .val (.long ww), .second, rv bc, .unset, .unset, .unset] [(.int x0), (.int (0 : Int32)), (.ref bc)]))
  obtain ⟨cl422, Ar422, qa422, Sa422, Na422, Ha422, Ga422⟩ := id V418p
  have hin423 : ¬ ((0 : Int32) < 0 ∨ cl422.slots.size ≤ ((0 : Int32)).toNatClampNeg) := inb_of Sa422 ⟨by decide, by decide⟩
  obtain ⟨T423, h423, X423, e423, W423, st423⟩ := stC X421 hx hZ eh421 Ar422 (j := (0 : Int32)) hin423 (g := (mkF m 211 #[.val (.long q1), .second, .val (.int p2), .val (.int p3), .val (.int p4), rv bp, .val (.long vv), .second, .val (.int n), .val (.int pp), .val (.int sg), .val (.long ww), .second, rv bc, .unset, .unset, .unset] [(.int x0), (.int (0 : Int32)), (.ref bc)])) rfl rfl (hb hby at_211)
  rw [own_nb hB0.1 hB0.2] at W423
  have N423 := Fr.snoc X423 N421 g_bc
  have O423 := O417.wr W423 g_bc
  have A367x_e423 := A367x_e417.wr W423
  have Vp413_e423 := Vp413_e417.other W423 ne_bp_bc
  have A417x_e423 := A417x.wr W423
  have V423 : Arv Z h423 bc k417 .char (21 : Int32) [(.int x0), (.int (0 : Int32)), (.int (0 : Int32)), (.int (0 : Int32)), (.int (0 : Int32)), (.int (0 : Int32)), (.int (0 : Int32)), (.int (0 : Int32)), (.int (0 : Int32)), (.int (0 : Int32)), (.int (0 : Int32)), (.int (0 : Int32)), (.int (0 : Int32)), (.int (0 : Int32)), (.int (0 : Int32)), (.int (0 : Int32)), (.int (0 : Int32)), (.int (0 : Int32)), (.int (0 : Int32)), (.int (0 : Int32)), (.int (0 : Int32))] (.int (0 : Int32)) := Arv.set Ar422 qa422 Sa422 Na422 Ha422 Ga422 (own_fx hB0.1 hB0.2) W423 0 rfl (Nat.le_of_ble_eq_true rfl)
  refine own_to (fun t k => st423 t k) ?_
  show own_Fin _ _ _ _ _ _ (T423.setTop (mkF m 212 #[.val (.long q1), .second, .val (.int p2), .val (.int p3), .val (.int p4), rv bp, .val (.long vv), .second, .val (.int n), .val (.int pp), .val (.int sg), .val (.long ww), .second, rv bc, .unset, .unset, .unset] []))
  refine own_to (fun t k => XS.aload X423.here hx rfl (hb hby at_212) rfl rfl k) ?_
  show own_Fin _ _ _ _ _ _ (T423.setTop (mkF m 214 #[.val (.long q1), .second, .val (.int p2), .val (.int p3), .val (.int p4), rv bp, .val (.long vv), .second, .val (.int n), .val (.int pp), .val (.int sg), .val (.long ww), .second, rv bc, .unset, .unset, .unset] [(.ref bc)]))
  refine own_to (fun t k => XS.iconst X423.here hx rfl (hb hby at_214) k) ?_
  refine own_to (fun t k => XS.iconst X423.here hx rfl (hb hby at_215) k) ?_
  refine own_to (fun t k => XS.iload X423.here hx rfl (hb hby at_216) rfl k) ?_
  show own_Fin _ _ _ _ _ _ (T423.setTop (mkF m 218 #[.val (.long q1), .second, .val (.int p2), .val (.int p3), .val (.int p4), rv bp, .val (.long vv), .second, .val (.int n), .val (.int pp), .val (.int sg), .val (.long ww), .second, rv bc, .unset, .unset, .unset] [(.int sg), (.int (1 : Int32)), (.int (1 : Int32)), (.ref bc)]))
  refine own_to (fun t k => XS.iload X423.here hx rfl (hb hby at_218) rfl k) ?_
  refine own_to (fun t k => XS.iload X423.here hx rfl (hb hby at_220) rfl k) ?_
  refine own_to (fun t k => XS.lload X423.here hx rfl (hb hby at_222) rfl k) ?_
  show own_Fin _ _ _ _ _ _ (T423.setTop (mkF m 224 #[.val (.long q1), .second, .val (.int p2), .val (.int p3), .val (.int p4), rv bp, .val (.long vv), .second, .val (.int n), .val (.int pp), .val (.int sg), .val (.long ww), .second, rv bc, .unset, .unset, .unset] [(.long ww), (.int pp), (.int n), (.int sg), (.int (1 : Int32)), (.int (1 : Int32)), (.ref bc)]))
  refine own_to (fun t k => XS.aload X423.here hx rfl (hb hby at_224) rfl rfl k) ?_
  obtain ⟨_, _, ⟨T425, L425, k425, n425⟩, -, X425, ⟨Lc425, hQ425, l425, y425, z425⟩, st425⟩ := Jvm.LawKit.callS X423 hx (y := (⟨"com/example/libxqtype/libxqtype/ExpressionLexerUnscaledValuePinLaw", "ch", "(IIIIJ[J)C"⟩ : MethodName)) hown (mvT hZ (own_W hw 22 rfl)) (mvT hZ (own_W hw 23 rfl)) (mvT hZ (own_W hw 24 rfl)) (mvT hZ (own_W hw 25 rfl)) (by decide) (own_back (W := 2) (own_chr l Z a0 hw [] (1 : Int32) sg n pp ww bp k367 S N P W 1 h423 n0 (Nat.le_trans zs420 (Keep.of_wr W423).1) Vp413_e423 HK rfl (by decide)) hZ (own_W hw 25 rfl) (own_W hw 24 rfl) (by decide) (by decide)) (g := (mkF m 226 #[.val (.long q1), .second, .val (.int p2), .val (.int p3), .val (.int p4), rv bp, .val (.long vv), .second, .val (.int n), .val (.int pp), .val (.int sg), .val (.long ww), .second, rv bc, .unset, .unset, .unset] [(.ref bp), (.long ww), (.int pp), (.int n), (.int sg), (.int (1 : Int32)), (.int (1 : Int32)), (.ref bc)])) rfl (by rw [hml]; rfl) (argsL := [(.int (1 : Int32)), (.int sg), (.int n), (.int pp), (.long ww), (.ref bp)]) (rest := [(.int (1 : Int32)), (.ref bc)]) (lenOf own_pd14 rfl) rfl (by show 2 * 0 + _ ≤ _; exact Nat.le_of_eq rfl) (hb hby at_226) (fun _ _ => ⟨rfl, e423, (by decide : 2 + 0 ≤ _), (by decide : 40 + 0 ≤ _)⟩)
  dsimp only [Pt.U, Pt.locs, Pt.cells, Pt.slots] at X425 l425 y425 z425 st425 hQ425
  rw [l425, y425, z425] at X425
  obtain ⟨rfl, N425q, eh425⟩ := hQ425
  have N425 := Fr.app N423 N425q
  refine own_to (fun t k => st425 t k) ?_
  show own_Fin _ _ _ _ _ _ (T425.setTop (mkF m 229 #[.val (.long q1), .second, .val (.int p2), .val (.int p3), .val (.int p4), rv bp, .val (.long vv), .second, .val (.int n), .val (.int pp), .val (.int sg), .val (.long ww), .second, rv bc, .unset, .unset, .unset] [(.int (own_ch (1 : Int32) sg n pp ww)), (.int (1 : Int32)), (.ref bc)]))
  obtain ⟨x1, ex1⟩ : ∃ z, z = (own_ch (1 : Int32) sg n pp ww) := ⟨_, rfl⟩
  rw [← ex1]
  have hB1 := own_chB HK (i := (1 : Int32)) (I := 1) rfl (by decide)
  rw [← ex1] at hB1
  show own_Fin _ _ _ _ _ _ (T425.setTop (mkF m 229 #[.val (.long q1), .second, .val (.int p2), .val (.int p3), .val (.int p4), rv bp, .val (.long vv), .second, .val (.int n), .val (.int pp), .val (.int sg), .val (.long ww), .second, rv bc, .unset, .unset, .unset] [(.int x1), (.int (1 : Int32)), (.ref bc)]))
  obtain ⟨cl426, Ar426, qa426, Sa426, Na426, Ha426, Ga426⟩ := id V423
  have hin427 : ¬ ((1 : Int32) < 0 ∨ cl426.slots.size ≤ ((1 : Int32)).toNatClampNeg) := inb_of Sa426 ⟨by decide, by decide⟩
  obtain ⟨T427, h427, X427, e427, W427, st427⟩ := stC X425 hx hZ eh425 Ar426 (j := (1 : Int32)) hin427 (g := (mkF m 229 #[.val (.long q1), .second, .val (.int p2), .val (.int p3), .val (.int p4), rv bp, .val (.long vv), .second, .val (.int n), .val (.int pp), .val (.int sg), .val (.long ww), .second, rv bc, .unset, .unset, .unset] [(.int x1), (.int (1 : Int32)), (.ref bc)])) rfl rfl (hb hby at_229)
  rw [own_nb hB1.1 hB1.2] at W427
  have N427 := Fr.snoc X427 N425 g_bc
  have O427 := O423.wr W427 g_bc
  have A367x_e427 := A367x_e423.wr W427
  have Vp413_e427 := Vp413_e423.other W427 ne_bp_bc
  have A417x_e427 := A417x_e423.wr W427
  have V427 : Arv Z h427 bc k417 .char (21 : Int32) [(.int x0), (.int x1), (.int (0 : Int32)), (.int (0 : Int32)), (.int (0 : Int32)), (.int (0 : Int32)), (.int (0 : Int32)), (.int (0 : Int32)), (.int (0 : Int32)), (.int (0 : Int32)), (.int (0 : Int32)), (.int (0 : Int32)), (.int (0 : Int32)), (.int (0 : Int32)), (.int (0 : Int32)), (.int (0 : Int32)), (.int (0 : Int32)), (.int (0 : Int32)), (.int (0 : Int32)), (.int (0 : Int32)), (.int (0 : Int32))] (.int (0 : Int32)) := Arv.set Ar426 qa426 Sa426 Na426 Ha426 Ga426 (own_fx hB1.1 hB1.2) W427 1 rfl (Nat.le_of_ble_eq_true rfl)
  refine own_to (fun t k => st427 t k) ?_
  show own_Fin _ _ _ _ _ _ (T427.setTop (mkF m 230 #[.val (.long q1), .second, .val (.int p2), .val (.int p3), .val (.int p4), rv bp, .val (.long vv), .second, .val (.int n), .val (.int pp), .val (.int sg), .val (.long ww), .second, rv bc, .unset, .unset, .unset] []))
  refine own_to (fun t k => XS.aload X427.here hx rfl (hb hby at_230) rfl rfl k) ?_
  refine own_to (fun t k => XS.iconst X427.here hx rfl (hb hby at_232) k) ?_
  show own_Fin _ _ _ _ _ _ (T427.setTop (mkF m 233 #[.val (.long q1), .second, .val (.int p2), .val (.int p3), .val (.int p4), rv bp, .val (.long vv), .second, .val (.int n), .val (.int pp), .val (.int sg), .val (.long ww), .second, rv bc, .unset, .unset, .unset] [(.int (2 : Int32)), (.ref bc)]))
  refine own_to (fun t k => XS.iconst X427.here hx rfl (hb hby at_233) k) ?_
  refine own_to (fun t k => XS.iload X427.here hx rfl (hb hby at_234) rfl k) ?_
  refine own_to (fun t k => XS.iload X427.here hx rfl (hb hby at_236) rfl k) ?_
  show own_Fin _ _ _ _ _ _ (T427.setTop (mkF m 238 #[.val (.long q1), .second, .val (.int p2), .val (.int p3), .val (.int p4), rv bp, .val (.long vv), .second, .val (.int n), .val (.int pp), .val (.int sg), .val (.long ww), .second, rv bc, .unset, .unset, .unset] [(.int n), (.int sg), (.int (2 : Int32)), (.int (2 : Int32)), (.ref bc)]))
  refine own_to (fun t k => XS.iload X427.here hx rfl (hb hby at_238) rfl k) ?_
  refine own_to (fun t k => XS.lload X427.here hx rfl (hb hby at_240) rfl k) ?_
  refine own_to (fun t k => XS.aload X427.here hx rfl (hb hby at_242) rfl rfl k) ?_
  show own_Fin _ _ _ _ _ _ (T427.setTop (mkF m 244 #[.val (.long q1), .second, .val (.int p2), .val (.int p3), .val (.int p4), rv bp, .val (.long vv), .second, .val (.int n), .val (.int pp), .val (.int sg), .val (.long ww), .second, rv bc, .unset, .unset, .unset] [(.ref bp), (.long ww), (.int pp), (.int n), (.int sg), (.int (2 : Int32)), (.int (2 : Int32)), (.ref bc)]))
  obtain ⟨_, _, ⟨T429, L429, k429, n429⟩, -, X429, ⟨Lc429, hQ429, l429, y429, z429⟩, st429⟩ := Jvm.LawKit.callS X427 hx (y := (⟨"com/example/libxqtype/libxqtype/ExpressionLexerUnscaledValuePinLaw", "ch", "(IIIIJ[J)C"⟩ : MethodName)) hown (mvT hZ (own_W hw 22 rfl)) (mvT hZ (own_W hw 23 rfl)) (mvT hZ (own_W hw 24 rfl)) (mvT hZ (own_W hw 25 rfl)) (by decide) (own_back (W := 2) (own_chr l Z a0 hw [] (2 : Int32) sg n pp ww bp k367 S N P W 2 h427 n0 (Nat.le_trans (Nat.le_trans zs420 (Keep.of_wr W423).1) (Keep.of_wr W427).1) Vp413_e427 HK rfl (by decide)) hZ (own_W hw 25 rfl) (own_W hw 24 rfl) (by decide) (by decide)) (g := (mkF m 244 #[.val (.long q1), .second, .val (.int p2), .val (.int p3), .val (.int p4), rv bp, .val (.long vv), .second, .val (.int n), .val (.int pp), .val (.int sg), .val (.long ww), .second, rv bc, .unset, .unset, .unset] [(.ref bp), (.long ww), (.int pp), (.int n), (.int sg), (.int (2 : Int32)), (.int (2 : Int32)), (.ref bc)])) rfl (by rw [hml]; rfl) (argsL := [(.int (2 : Int32)), (.int sg), (.int n), (.int pp), (.long ww), (.ref bp)]) (rest := [(.int (2 : Int32)), (.ref bc)]) (lenOf own_pd14 rfl) rfl (by show 2 * 0 + _ ≤ _; exact Nat.le_of_eq rfl) (hb hby at_244) (fun _ _ => ⟨rfl, e427, (by decide : 2 + 0 ≤ _), (by decide : 40 + 0 ≤ _)⟩)
  dsimp only [Pt.U, Pt.locs, Pt.cells, Pt.slots] at X429 l429 y429 z429 st429 hQ429
  rw [l429, y429, z429] at X429
  obtain ⟨rfl, N429q, eh429⟩ := hQ429
  have N429 := Fr.app N427 N429q
  refine own_to (fun t k => st429 t k) ?_
  show own_Fin _ _ _ _ _ _ (T429.setTop (mkF m 247 #[.val (.long q1), .second, .val (.int p2), .val (.int p3), .val (.int p4), rv bp, .val (.long vv), .second, .val (.int n), .val (.int pp), .val (.int sg), .val (.long ww), .second, rv bc, .unset, .unset, .unset] [(.int (own_ch (2 : Int32) sg n pp ww)), (.int (2 : Int32)), (.ref bc)]))
  obtain ⟨x2, ex2⟩ : ∃ z, z = (own_ch (2 : Int32) sg n pp ww) := ⟨_, rfl⟩
  rw [← ex2]
  have hB2 := own_chB HK (i := (2 : Int32)) (I := 2) rfl (by decide)
  rw [← ex2] at hB2
  show own_Fin _ _ _ _ _ _ (T429.setTop (mkF m 247 #[.val (.long q1), .second, .val (.int p2), .val (.int p3), .val (.int p4), rv bp, .val (.long vv), .second, .val (.int n), .val (.int pp), .val (.int sg), .val (.long ww), .second, rv bc, .unset, .unset, .unset] [(.int x2), (.int (2 : Int32)), (.ref bc)]))
  obtain ⟨cl430, Ar430, qa430, Sa430, Na430, Ha430, Ga430⟩ := id V427
  have hin431 : ¬ ((2 : Int32) < 0 ∨ cl430.slots.size ≤ ((2 : Int32)).toNatClampNeg) := inb_of Sa430 ⟨by decide, by decide⟩
  obtain ⟨T431, h431, X431, e431, W431, st431⟩ := stC X429 hx hZ eh429 Ar430 (j := (2 : Int32)) hin431 (g := (mkF m 247 #[.val (.long q1), .second, .val (.int p2), .val (.int p3), .val (.int p4), rv bp, .val (.long vv), .second, .val (.int n), .val (.int pp), .val (.int sg), .val (.long ww), .second, rv bc, .unset, .unset, .unset] [(.int x2), (.int (2 : Int32)), (.ref bc)])) rfl rfl (hb hby at_247)
  rw [own_nb hB2.1 hB2.2] at W431
  have N431 := Fr.snoc X431 N429 g_bc
  have O431 := O427.wr W431 g_bc
  have A367x_e431 := A367x_e427.wr W431
  have Vp413_e431 := Vp413_e427.other W431 ne_bp_bc
  have A417x_e431 := A417x_e427.wr W431
  have V431 : Arv Z h431 bc k417 .char (21 : Int32) [(.int x0), (.int x1), (.int x2), (.int (0 : Int32)), (.int (0 : Int32)), (.int (0 : Int32)), (.int (0 : Int32)), (.int (0 : Int32)), (.int (0 : Int32)), (.int (0 : Int32)), (.int (0 : Int32)), (.int (0 : Int32)), (.int (0 : Int32)), (.int (0 : Int32)), (.int (0 : Int32)), (.int (0 : Int32)), (.int (0 : Int32)), (.int (0 : Int32)), (.int (0 : Int32)), (.int (0 : Int32)), (.int (0 : Int32))] (.int (0 : Int32)) := Arv.set Ar430 qa430 Sa430 Na430 Ha430 Ga430 (own_fx hB2.1 hB2.2) W431 2 rfl (Nat.le_of_ble_eq_true rfl)
  refine own_to (fun t k => st431 t k) ?_
  show own_Fin _ _ _ _ _ _ (T431.setTop (mkF m 248 #[.val (.long q1), .second, .val (.int p2), .val (.int p3), .val (.int p4), rv bp, .val (.long vv), .second, .val (.int n), .val (.int pp), .val (.int sg), .val (.long ww), .second, rv bc, .unset, .unset, .unset] []))
  refine own_to (fun t k => XS.aload X431.here hx rfl (hb hby at_248) rfl rfl k) ?_
  refine own_to (fun t k => XS.iconst X431.here hx rfl (hb hby at_250) k) ?_
  refine own_to (fun t k => XS.iconst X431.here hx rfl (hb hby at_251) k) ?_
  show own_Fin _ _ _ _ _ _ (T431.setTop (mkF m 252 #[.val (.long q1), .second, .val (.int p2), .val (.int p3), .val (.int p4), rv bp, .val (.long vv), .second, .val (.int n), .val (.int pp), .val (.int sg), .val (.long ww), .second, rv bc, .unset, .unset, .unset] [(.int (3 : Int32)), (.int (3 : Int32)), (.ref bc)]))
  refine own_to (fun t k => XS.iload X431.here hx rfl (hb hby at_252) rfl k) ?_
  refine own_to (fun t k => XS.iload X431.here hx rfl (hb hby at_254) rfl k) ?_
  refine own_to (fun t k => XS.iload X431.here hx rfl (hb hby at_256) rfl k) ?_
  show own_Fin _ _ _ _ _ _ (T431.setTop (mkF m 258 #[.val (.long q1), .second, .val (.int p2), .val (.int p3), .val (.int p4), rv bp, .val (.long vv), .second, .val (.int n), .val (.int pp), .val (.int sg), .val (.long ww), .second, rv bc, .unset, .unset, .unset] [(.int pp), (.int n), (.int sg), (.int (3 : Int32)), (.int (3 : Int32)), (.ref bc)]))
  refine own_to (fun t k => XS.lload X431.here hx rfl (hb hby at_258) rfl k) ?_
  refine own_to (fun t k => XS.aload X431.here hx rfl (hb hby at_260) rfl rfl k) ?_
  have zs433 := (Nat.le_trans (Nat.le_trans (Nat.le_trans zs420 (Keep.of_wr W423).1) (Keep.of_wr W427).1) (Keep.of_wr W431).1)
  obtain ⟨_, _, ⟨T434, L434, k434, n434⟩, -, X434, ⟨Lc434, hQ434, l434, y434, z434⟩, st434⟩ := Jvm.LawKit.callS X431 hx (y := (⟨"com/example/libxqtype/libxqtype/ExpressionLexerUnscaledValuePinLaw", "ch", "(IIIIJ[J)C"⟩ : MethodName)) hown (mvT hZ (own_W hw 22 rfl)) (mvT hZ (own_W hw 23 rfl)) (mvT hZ (own_W hw 24 rfl)) (mvT hZ (own_W hw 25 rfl)) (by decide) (own_back (W := 2) (own_chr l Z a0 hw [] (3 : Int32) sg n pp ww bp k367 S N P W 3 h431 n0 zs433 Vp413_e431 HK rfl (by decide)) hZ (own_W hw 25 rfl) (own_W hw 24 rfl) (by decide) (by decide)) (g := (mkF m 262 #[.val (.long q1), .second, .val (.int p2), .val (.int p3), .val (.int p4), rv bp, .val (.long vv), .second, .val (.int n), .val (.int pp), .val (.int sg), .val (.long ww), .second, rv bc, .unset, .unset, .unset] [(.ref bp), (.long ww), (.int pp), (.int n), (.int sg), (.int (3 : Int32)), (.int (3 : Int32)), (.ref bc)])) rfl (by rw [hml]; rfl) (argsL := [(.int (3 : Int32)), (.int sg), (.int n), (.int pp), (.long ww), (.ref bp)]) (rest := [(.int (3 : Int32)), (.ref bc)]) (lenOf own_pd14 rfl) rfl (by show 2 * 0 + _ ≤ _; exact Nat.le_of_eq rfl) (hb hby at_262) (fun _ _ => ⟨rfl, e431, (by decide : 2 + 0 ≤ _), (by decide : 40 + 0 ≤ _)⟩)
  dsimp only [Pt.U, Pt.locs, Pt.cells, Pt.slots] at X434 l434 y434 z434 st434 hQ434
  rw [l434, y434, z434] at X434
  obtain ⟨rfl, N434q, eh434⟩ := hQ434
  have N434 := Fr.app N431 N434q
  refine own_to (fun t k => st434 t k) ?_
  show own_Fin _ _ _ _ _ _ (T434.setTop (mkF m 265 #[.val (.long q1), .second, .val (.int p2), .val (.int p3), .val (.int p4), rv bp, .val (.long vv), .second, .val (.int n), .val (.int pp), .val (.int sg), .val (.long ww), .second, rv bc, .unset, .unset, .unset] [(.int (own_ch (3 : Int32) sg n pp ww)), (.int (3 : Int32)), (.ref bc)]))
  obtain ⟨x3, ex3⟩ : ∃ z, z = (own_ch (3 : Int32) sg n pp ww) := ⟨_, rfl⟩
  rw [← ex3]
  have hB3 := own_chB HK (i := (3 : Int32)) (I := 3) rfl (by decide)
  rw [← ex3] at hB3
  show own_Fin _ _ _ _ _ _ (T434.setTop (mkF m 265 #[.val (.long q1), .second, .val (.int p2), .val (.int p3), .val (.int p4), rv bp, .val (.long vv), .second, .val (.int n), .val (.int pp), .val (.int sg), .val (.long ww), .second, rv bc, .unset, .unset, .unset] [(.int x3), (.int (3 : Int32)), (.ref bc)]))
  obtain ⟨cl435, Ar435, qa435, Sa435, Na435, Ha435, Ga435⟩ := id V431
  have hin436 : ¬ ((3 : Int32) < 0 ∨ cl435.slots.size ≤ ((3 : Int32)).toNatClampNeg) := inb_of Sa435 ⟨by decide, by decide⟩
  obtain ⟨T436, h436, X436, e436, W436, st436⟩ := stC X434 hx hZ eh434 Ar435 (j := (3 : Int32)) hin436 (g := (mkF m 265 #[.val (.long q1), .second, .val (.int p2), .val (.int p3), .val (.int p4), rv bp, .val (.long vv), .second, .val (.int n), .val (.int pp), .val (.int sg), .val (.long ww), .second, rv bc, .unset, .unset, .unset] [(.int x3), (.int (3 : Int32)), (.ref bc)])) rfl rfl (hb hby at_265)
  rw [own_nb hB3.1 hB3.2] at W436
  have N436 := Fr.snoc X436 N434 g_bc
  have O436 := O431.wr W436 g_bc
  have A367x_e436 := A367x_e431.wr W436
  have Vp413_e436 := Vp413_e431.other W436 ne_bp_bc
  have A417x_e436 := A417x_e431.wr W436
  have V436 : Arv Z h436 bc k417 .char (21 : Int32) [(.int x0), (.int x1), (.int x2), (.int x3), (.int (0 : Int32)), (.int (0 : Int32)), (.int (0 : Int32)), (.int (0 : Int32)), (.int (0 : Int32)), (.int (0 : Int32)), (.int (0 : Int32)), (.int (0 : Int32)), (.int (0 : Int32)), (.int (0 : Int32)), (.int (0 : Int32)), (.int (0 : Int32)), (.int (0 : Int32)), (.int (0 : Int32)), (.int (0 : Int32)), (.int (0 : Int32)), (.int (0 : Int32))] (.int (0 : Int32)) := Arv.set Ar435 qa435 Sa435 Na435 Ha435 Ga435 (own_fx hB3.1 hB3.2) W436 3 rfl (Nat.le_of_ble_eq_true rfl)
  refine own_to (fun t k => st436 t k) ?_
  show own_Fin _ _ _ _ _ _ (T436.setTop (mkF m 266 #[.val (.long q1), .second, .val (.int p2), .val (.int p3), .val (.int p4), rv bp, .val (.long vv), .second, .val (.int n), .val (.int pp), .val (.int sg), .val (.long ww), .second, rv bc, .unset, .unset, .unset] []))
  refine own_to (fun t k => XS.aload X436.here hx rfl (hb hby at_266) rfl rfl k) ?_
  show own_Fin _ _ _ _ _ _ (T436.setTop (mkF m 268 #[.val (.long q1), .second, .val (.int p2), .val (.int p3), .val (.int p4), rv bp, .val (.long vv), .second, .val (.int n), .val (.int pp), .val (.int sg), .val (.long ww), .second, rv bc, .unset, .unset, .unset] [(.ref bc)]))
  refine own_to (fun t k => XS.iconst X436.here hx rfl (hb hby at_268) k) ?_
  refine own_to (fun t k => XS.iconst X436.here hx rfl (hb hby at_269) k) ?_
  refine own_to (fun t k => XS.iload X436.here hx rfl (hb hby at_270) rfl k) ?_
  show own_Fin _ _ _ _ _ _ (T436.setTop (mkF m 272 #[.val (.long q1), .second, .val (.int p2), .val (.int p3), .val (.int p4), rv bp, .val (.long vv), .second, .val (.int n), .val (.int pp), .val (.int sg), .val (.long ww), .second, rv bc, .unset, .unset, .unset] [(.int sg), (.int (4 : Int32)), (.int (4 : Int32)), (.ref bc)]))
  refine own_to (fun t k => XS.iload X436.here hx rfl (hb hby at_272) rfl k) ?_
  refine own_to (fun t k => XS.iload X436.here hx rfl (hb hby at_274) rfl k) ?_
  refine own_to (fun t k => XS.lload X436.here hx rfl (hb hby at_276) rfl k) ?_
  show own_Fin _ _ _ _ _ _ (T436.setTop (mkF m 278 #[.val (.long q1), .second, .val (.int p2), .val (.int p3), .val (.int p4), rv bp, .val (.long vv), .second, .val (.int n), .val (.int pp), .val (.int sg), .val (.long ww), .second, rv bc, .unset, .unset, .unset] [(.long ww), (.int pp), (.int n), (.int sg), (.int (4 : Int32)), (.int (4 : Int32)), (.ref bc)]))
  refine own_to (fun t k => XS.aload X436.here hx rfl (hb hby at_278) rfl rfl k) ?_
  obtain ⟨_, _, ⟨T438, L438, k438, n438⟩, -, X438, ⟨Lc438, hQ438, l438, y438, z438⟩, st438⟩ := Jvm.LawKit.callS X436 hx (y := (⟨"com/example/libxqtype/libxqtype/ExpressionLexerUnscaledValuePinLaw", "ch", "(IIIIJ[J)C"⟩ : MethodName)) hown (mvT hZ (own_W hw 22 rfl)) (mvT hZ (own_W hw 23 rfl)) (mvT hZ (own_W hw 24 rfl)) (mvT hZ (own_W hw 25 rfl)) (by decide) (own_back (W := 2) (own_chr l Z a0 hw [] (4 : Int32) sg n pp ww bp k367 S N P W 4 h436 n0 (Nat.le_trans zs433 (Keep.of_wr W436).1) Vp413_e436 HK rfl (by decide)) hZ (own_W hw 25 rfl) (own_W hw 24 rfl) (by decide) (by decide)) (g := (mkF m 280 #[.val (.long q1), .second, .val (.int p2), .val (.int p3), .val (.int p4), rv bp, .val (.long vv), .second, .val (.int n), .val (.int pp), .val (.int sg), .val (.long ww), .second, rv bc, .unset, .unset, .unset] [(.ref bp), (.long ww), (.int pp), (.int n), (.int sg), (.int (4 : Int32)), (.int (4 : Int32)), (.ref bc)])) rfl (by rw [hml]; rfl) (argsL := [(.int (4 : Int32)), (.int sg), (.int n), (.int pp), (.long ww), (.ref bp)]) (rest := [(.int (4 : Int32)), (.ref bc)]) (lenOf own_pd14 rfl) rfl (by show 2 * 0 + _ ≤ _; exact Nat.le_of_eq rfl) (hb hby at_280) (fun _ _ => ⟨rfl, e436, (by decide : 2 + 0 ≤ _), (by decide : 40 + 0 ≤ _)⟩)
  dsimp only [Pt.U, Pt.locs, Pt.cells, Pt.slots] at X438 l438 y438 z438 st438 hQ438
  rw [l438, y438, z438] at X438
  obtain ⟨rfl, N438q, eh438⟩ := hQ438
  have N438 := Fr.app N436 N438q
  refine own_to (fun t k => st438 t k) ?_
  show own_Fin _ _ _ _ _ _ (T438.setTop (mkF m 283 #[.val (.long q1), .second, .val (.int p2), .val (.int p3), .val (.int p4), rv bp, .val (.long vv), .second, .val (.int n), .val (.int pp), .val (.int sg), .val (.long ww), .second, rv bc, .unset, .unset, .unset] [(.int (own_ch (4 : Int32) sg n pp ww)), (.int (4 : Int32)), (.ref bc)]))
  obtain ⟨x4, ex4⟩ : ∃ z, z = (own_ch (4 : Int32) sg n pp ww) := ⟨_, rfl⟩
  rw [← ex4]
  have hB4 := own_chB HK (i := (4 : Int32)) (I := 4) rfl (by decide)
  rw [← ex4] at hB4
  show own_Fin _ _ _ _ _ _ (T438.setTop (mkF m 283 #[.val (.long q1), .second, .val (.int p2), .val (.int p3), .val (.int p4), rv bp, .val (.long vv), .second, .val (.int n), .val (.int pp), .val (.int sg), .val (.long ww), .second, rv bc, .unset, .unset, .unset] [(.int x4), (.int (4 : Int32)), (.ref bc)]))
  obtain ⟨cl439, Ar439, qa439, Sa439, Na439, Ha439, Ga439⟩ := id V436
  have hin440 : ¬ ((4 : Int32) < 0 ∨ cl439.slots.size ≤ ((4 : Int32)).toNatClampNeg) := inb_of Sa439 ⟨by decide, by decide⟩
  obtain ⟨T440, h440, X440, e440, W440, st440⟩ := stC X438 hx hZ eh438 Ar439 (j := (4 : Int32)) hin440 (g := (mkF m 283 #[.val (.long q1), .second, .val (.int p2), .val (.int p3), .val (.int p4), rv bp, .val (.long vv), .second, .val (.int n), .val (.int pp), .val (.int sg), .val (.long ww), .second, rv bc, .unset, .unset, .unset] [(.int x4), (.int (4 : Int32)), (.ref bc)])) rfl rfl (hb hby at_283)
  rw [own_nb hB4.1 hB4.2] at W440
  have N440 := Fr.snoc X440 N438 g_bc
  have O440 := O436.wr W440 g_bc
  have A367x_e440 := A367x_e436.wr W440
  have Vp413_e440 := Vp413_e436.other W440 ne_bp_bc
  have A417x_e440 := A417x_e436.wr W440
  have V440 : Arv Z h440 bc k417 .char (21 : Int32) [(.int x0), (.int x1), (.int x2), (.int x3), (.int x4), (.int (0 : Int32)), (.int (0 : Int32)), (.int (0 : Int32)), (.int (0 : Int32)), (.int (0 : Int32)), (.int (0 : Int32)), (.int (0 : Int32)), (.int (0 : Int32)), (.int (0 : Int32)), (.int (0 : Int32)), (.int (0 : Int32)), (.int (0 : Int32)), (.int (0 : Int32)), (.int (0 : Int32)), (.int (0 : Int32)), (.int (0 : Int32))] (.int (0 : Int32)) := Arv.set Ar439 qa439 Sa439 Na439 Ha439 Ga439 (own_fx hB4.1 hB4.2) W440 4 rfl (Nat.le_of_ble_eq_true rfl)
  refine own_to (fun t k => st440 t k) ?_
  show own_Fin _ _ _ _ _ _ (T440.setTop (mkF m 284 #[.val (.long q1), .second, .val (.int p2), .val (.int p3), .val (.int p4), rv bp, .val (.long vv), .second, .val (.int n), .val (.int pp), .val (.int sg), .val (.long ww), .second, rv bc, .unset, .unset, .unset] []))
  refine own_to (fun t k => XS.aload X440.here hx rfl (hb hby at_284) rfl rfl k) ?_
  refine own_to (fun t k => XS.iconst X440.here hx rfl (hb hby at_286) k) ?_
  show own_Fin _ _ _ _ _ _ (T440.setTop (mkF m 287 #[.val (.long q1), .second, .val (.int p2), .val (.int p3), .val (.int p4), rv bp, .val (.long vv), .second, .val (.int n), .val (.int pp), .val (.int sg), .val (.long ww), .second, rv bc, .unset, .unset, .unset] [(.int (5 : Int32)), (.ref bc)]))
  refine own_to (fun t k => XS.iconst X440.here hx rfl (hb hby at_287) k) ?_
  refine own_to (fun t k => XS.iload X440.here hx rfl (hb hby at_288) rfl k) ?_
  refine own_to (fun t k => XS.iload X440.here hx rfl (hb hby at_290) rfl k) ?_
  show own_Fin _ _ _ _ _ _ (T440.setTop (mkF m 292 #[.val (.long q1), .second, .val (.int p2), .val (.int p3), .val (.int p4), rv bp, .val (.long vv), .second, .val (.int n), .val (.int pp), .val (.int sg), .val (.long ww), .second, rv bc, .unset, .unset, .unset] [(.int n), (.int sg), (.int (5 : Int32)), (.int (5 : Int32)), (.ref bc)]))
  refine own_to (fun t k => XS.iload X440.here hx rfl (hb hby at_292) rfl k) ?_
  refine own_to (fun t k => XS.lload X440.here hx rfl (hb hby at_294) rfl k) ?_
  refine own_to (fun t k => XS.aload X440.here hx rfl (hb hby at_296) rfl rfl k) ?_
  show own_Fin _ _ _ _ _ _ (T440.setTop (mkF m 298 #[.val (.long q1), .second, .val (.int p2), .val (.int p3), .val (.int p4), rv bp, .val (.long vv), .second, .val (.int n), .val (.int pp), .val (.int sg), .val (.long ww), .second, rv bc, .unset, .unset, .unset] [(.ref bp), (.long ww), (.int pp), (.int n), (.int sg), (.int (5 : Int32)), (.int (5 : Int32)), (.ref bc)]))
  obtain ⟨_, _, ⟨T442, L442, k442, n442⟩, -, X442, ⟨Lc442, hQ442, l442, y442, z442⟩, st442⟩ := Jvm.LawKit.callS X440 hx (y := (⟨"com/example/libxqtype/libxqtype/ExpressionLexerUnscaledValuePinLaw", "ch", "(IIIIJ[J)C"⟩ : MethodName)) hown (mvT hZ (own_W hw 22 rfl)) (mvT hZ (own_W hw 23 rfl)) (mvT hZ (own_W hw 24 rfl)) (mvT hZ (own_W hw 25 rfl)) (by decide) (own_back (W := 2) (own_chr l Z a0 hw [] (5 : Int32) sg n pp ww bp k367 S N P W 5 h440 n0 (Nat.le_trans (Nat.le_trans zs433 (Keep.of_wr W436).1) (Keep.of_wr W440).1) Vp413_e440 HK rfl (by decide)) hZ (own_W hw 25 rfl) (own_W hw 24 rfl) (by decide) (by decide)) (g := (mkF m 298 #[.val (.long q1), .second, .val (.int p2), .val (.int p3), .val (.int p4), rv bp, .val (.long vv), .second, .val (.int n), .val (.int pp), .val (.int sg), .val (.long ww), .second, rv bc, .unset, .unset, .unset] [(.ref bp), (.long ww), (.int pp), (.int n), (.int sg), (.int (5 : Int32)), (.int (5 : Int32)), (.ref bc)])) rfl (by rw [hml]; rfl) (argsL := [(.int (5 : Int32)), (.int sg), (.int n), (.int pp), (.long ww), (.ref bp)]) (rest := [(.int (5 : Int32)), (.ref bc)]) (lenOf own_pd14 rfl) rfl (by show 2 * 0 + _ ≤ _; exact Nat.le_of_eq rfl) (hb hby at_298) (fun _ _ => ⟨rfl, e440, (by decide : 2 + 0 ≤ _), (by decide : 40 + 0 ≤ _)⟩)
  dsimp only [Pt.U, Pt.locs, Pt.cells, Pt.slots] at X442 l442 y442 z442 st442 hQ442
  rw [l442, y442, z442] at X442
  obtain ⟨rfl, N442q, eh442⟩ := hQ442
  have N442 := Fr.app N440 N442q
  refine own_to (fun t k => st442 t k) ?_
  show own_Fin _ _ _ _ _ _ (T442.setTop (mkF m 301 #[.val (.long q1), .second, .val (.int p2), .val (.int p3), .val (.int p4), rv bp, .val (.long vv), .second, .val (.int n), .val (.int pp), .val (.int sg), .val (.long ww), .second, rv bc, .unset, .unset, .unset] [(.int (own_ch (5 : Int32) sg n pp ww)), (.int (5 : Int32)), (.ref bc)]))
  obtain ⟨x5, ex5⟩ : ∃ z, z = (own_ch (5 : Int32) sg n pp ww) := ⟨_, rfl⟩
  rw [← ex5]
  have hB5 := own_chB HK (i := (5 : Int32)) (I := 5) rfl (by decide)
  rw [← ex5] at hB5
  show own_Fin _ _ _ _ _ _ (T442.setTop (mkF m 301 #[.val (.long q1), .second, .val (.int p2), .val (.int p3), .val (.int p4), rv bp, .val (.long vv), .second, .val (.int n), .val (.int pp), .val (.int sg), .val (.long ww), .second, rv bc, .unset, .unset, .unset] [(.int x5), (.int (5 : Int32)), (.ref bc)]))
  obtain ⟨cl443, Ar443, qa443, Sa443, Na443, Ha443, Ga443⟩ := id V440
  have hin444 : ¬ ((5 : Int32) < 0 ∨ cl443.slots.size ≤ ((5 : Int32)).toNatClampNeg) := inb_of Sa443 ⟨by decide, by decide⟩
  obtain ⟨T444, h444, X444, e444, W444, st444⟩ := stC X442 hx hZ eh442 Ar443 (j := (5 : Int32)) hin444 (g := (mkF m 301 #[.val (.long q1), .second, .val (.int p2), .val (.int p3), .val (.int p4), rv bp, .val (.long vv), .second, .val (.int n), .val (.int pp), .val (.int sg), .val (.long ww), .second, rv bc, .unset, .unset, .unset] [(.int x5), (.int (5 : Int32)), (.ref bc)])) rfl rfl (hb hby at_301)
  rw [own_nb hB5.1 hB5.2] at W444
  have N444 := Fr.snoc X444 N442 g_bc
  have O444 := O440.wr W444 g_bc
  have A367x_e444 := A367x_e440.wr W444
  have Vp413_e444 := Vp413_e440.other W444 ne_bp_bc
  have A417x_e444 := A417x_e440.wr W444
  have V444 : Arv Z h444 bc k417 .char (21 : Int32) [(.int x0), (.int x1), (.int x2), (.int x3), (.int x4), (.int x5), (.int (0 : Int32)), (.int (0 : Int32)), (.int (0 : Int32)), (.int (0 : Int32)), (.int (0 : Int32)), (.int (0 : Int32)), (.int (0 : Int32)), (.int (0 : Int32)), (.int (0 : Int32)), (.int (0 : Int32)), (.int (0 : Int32)), (.int (0 : Int32)), (.int (0 : Int32)), (.int (0 : Int32)), (.int (0 : Int32))] (.int (0 : Int32)) := Arv.set Ar443 qa443 Sa443 Na443 Ha443 Ga443 (own_fx hB5.1 hB5.2) W444 5 rfl (Nat.le_of_ble_eq_true rfl)
  refine own_to (fun t k => st444 t k) ?_
  show own_Fin _ _ _ _ _ _ (T444.setTop (mkF m 302 #[.val (.long q1), .second, .val (.int p2), .val (.int p3), .val (.int p4), rv bp, .val (.long vv), .second, .val (.int n), .val (.int pp), .val (.int sg), .val (.long ww), .second, rv bc, .unset, .unset, .unset] []))
  refine own_to (fun t k => XS.aload X444.here hx rfl (hb hby at_302) rfl rfl k) ?_
  refine own_to (fun t k => XS.bipush X444.here hx rfl (hb hby at_304) k) ?_
  refine own_to (fun t k => XS.bipush X444.here hx rfl (hb hby at_306) k) ?_
  show own_Fin _ _ _ _ _ _ (T444.setTop (mkF m 308 #[.val (.long q1), .second, .val (.int p2), .val (.int p3), .val (.int p4), rv bp, .val (.long vv), .second, .val (.int n), .val (.int pp), .val (.int sg), .val (.long ww), .second, rv bc, .unset, .unset, .unset] [(.int (6 : Int32)), (.int (6 : Int32)), (.ref bc)]))
  refine own_to (fun t k => XS.iload X444.here hx rfl (hb hby at_308) rfl k) ?_
  refine own_to (fun t k => XS.iload X444.here hx rfl (hb hby at_310) rfl k) ?_
  refine own_to (fun t k => XS.iload X444.here hx rfl (hb hby at_312) rfl k) ?_
  show own_Fin _ _ _ _ _ _ (T444.setTop (mkF m 314 #[.val (.long q1), .second, .val (.int p2), .val (.int p3), .val (.int p4), rv bp, .val (.long vv), .second, .val (.int n), .val (.int pp), .val (.int sg), .val (.long ww), .second, rv bc, .unset, .unset, .unset] [(.int pp), (.int n), (.int sg), (.int (6 : Int32)), (.int (6 : Int32)), (.ref bc)]))
  refine own_to (fun t k => XS.lload X444.here hx rfl (hb hby at_314) rfl k) ?_
  refine own_to (fun t k => XS.aload X444.here hx rfl (hb hby at_316) rfl rfl k) ?_
  have zs446 := (Nat.le_trans (Nat.le_trans (Nat.le_trans zs433 (Keep.of_wr W436).1) (Keep.of_wr W440).1) (Keep.of_wr W444).1)
  obtain ⟨_, _, ⟨T447, L447, k447, n447⟩, -, X447, ⟨Lc447, hQ447, l447, y447, z447⟩, st447⟩ := Jvm.LawKit.callS X444 hx (y := (⟨"com/example/libxqtype/libxqtype/ExpressionLexerUnscaledValuePinLaw", "ch", "(IIIIJ[J)C"⟩ : MethodName)) hown (mvT hZ (own_W hw 22 rfl)) (mvT hZ (own_W hw 23 rfl)) (mvT hZ (own_W hw 24 rfl)) (mvT hZ (own_W hw 25 rfl)) (by decide) (own_back (W := 2) (own_chr l Z a0 hw [] (6 : Int32) sg n pp ww bp k367 S N P W 6 h444 n0 zs446 Vp413_e444 HK rfl (by decide)) hZ (own_W hw 25 rfl) (own_W hw 24 rfl) (by decide) (by decide)) (g := (mkF m 318 #[.val (.long q1), .second, .val (.int p2), .val (.int p3), .val (.int p4), rv bp, .val (.long vv), .second, .val (.int n), .val (.int pp), .val (.int sg), .val (.long ww), .second, rv bc, .unset, .unset, .unset] [(.ref bp), (.long ww), (.int pp), (.int n), (.int sg), (.int (6 : Int32)), (.int (6 : Int32)), (.ref bc)])) rfl (by rw [hml]; rfl) (argsL := [(.int (6 : Int32)), (.int sg), (.int n), (.int pp), (.long ww), (.ref bp)]) (rest := [(.int (6 : Int32)), (.ref bc)]) (lenOf own_pd14 rfl) rfl (by show 2 * 0 + _ ≤ _; exact Nat.le_of_eq rfl) (hb hby at_318) (fun _ _ => ⟨rfl, e444, (by decide : 2 + 0 ≤ _), (by decide : 40 + 0 ≤ _)⟩)
  dsimp only [Pt.U, Pt.locs, Pt.cells, Pt.slots] at X447 l447 y447 z447 st447 hQ447
  rw [l447, y447, z447] at X447
  obtain ⟨rfl, N447q, eh447⟩ := hQ447
  have N447 := Fr.app N444 N447q
  refine own_to (fun t k => st447 t k) ?_
  show own_Fin _ _ _ _ _ _ (T447.setTop (mkF m 321 #[.val (.long q1), .second, .val (.int p2), .val (.int p3), .val (.int p4), rv bp, .val (.long vv), .second, .val (.int n), .val (.int pp), .val (.int sg), .val (.long ww), .second, rv bc, .unset, .unset, .unset] [(.int (own_ch (6 : Int32) sg n pp ww)), (.int (6 : Int32)), (.ref bc)]))
  obtain ⟨x6, ex6⟩ : ∃ z, z = (own_ch (6 : Int32) sg n pp ww) := ⟨_, rfl⟩
  rw [← ex6]
  have hB6 := own_chB HK (i := (6 : Int32)) (I := 6) rfl (by decide)
  rw [← ex6] at hB6
  show own_Fin _ _ _ _ _ _ (T447.setTop (mkF m 321 #[.val (.long q1), .second, .val (.int p2), .val (.int p3), .val (.int p4), rv bp, .val (.long vv), .second, .val (.int n), .val (.int pp), .val (.int sg), .val (.long ww), .second, rv bc, .unset, .unset, .unset] [(.int x6), (.int (6 : Int32)), (.ref bc)]))
  obtain ⟨cl448, Ar448, qa448, Sa448, Na448, Ha448, Ga448⟩ := id V444
  have hin449 : ¬ ((6 : Int32) < 0 ∨ cl448.slots.size ≤ ((6 : Int32)).toNatClampNeg) := inb_of Sa448 ⟨by decide, by decide⟩
  obtain ⟨T449, h449, X449, e449, W449, st449⟩ := stC X447 hx hZ eh447 Ar448 (j := (6 : Int32)) hin449 (g := (mkF m 321 #[.val (.long q1), .second, .val (.int p2), .val (.int p3), .val (.int p4), rv bp, .val (.long vv), .second, .val (.int n), .val (.int pp), .val (.int sg), .val (.long ww), .second, rv bc, .unset, .unset, .unset] [(.int x6), (.int (6 : Int32)), (.ref bc)])) rfl rfl (hb hby at_321)
  rw [own_nb hB6.1 hB6.2] at W449
  have N449 := Fr.snoc X449 N447 g_bc
  have O449 := O444.wr W449 g_bc
  have A367x_e449 := A367x_e444.wr W449
  have Vp413_e449 := Vp413_e444.other W449 ne_bp_bc
  have A417x_e449 := A417x_e444.wr W449
  have V449 : Arv Z h449 bc k417 .char (21 : Int32) [(.int x0), (.int x1), (.int x2), (.int x3), (.int x4), (.int x5), (.int x6), (.int (0 : Int32)), (.int (0 : Int32)), (.int (0 : Int32)), (.int (0 : Int32)), (.int (0 : Int32)), (.int (0 : Int32)), (.int (0 : Int32)), (.int (0 : Int32)), (.int (0 : Int32)), (.int (0 : Int32)), (.int (0 : Int32)), (.int (0 : Int32)), (.int (0 : Int32)), (.int (0 : Int32))] (.int (0 : Int32)) := Arv.set Ar448 qa448 Sa448 Na448 Ha448 Ga448 (own_fx hB6.1 hB6.2) W449 6 rfl (Nat.le_of_ble_eq_true rfl)
  refine own_to (fun t k => st449 t k) ?_
  show own_Fin _ _ _ _ _ _ (T449.setTop (mkF m 322 #[.val (.long q1), .second, .val (.int p2), .val (.int p3), .val (.int p4), rv bp, .val (.long vv), .second, .val (.int n), .val (.int pp), .val (.int sg), .val (.long ww), .second, rv bc, .unset, .unset, .unset] []))
  refine own_to (fun t k => XS.aload X449.here hx rfl (hb hby at_322) rfl rfl k) ?_
  show own_Fin _ _ _ _ _ _ (T449.setTop (mkF m 324 #[.val (.long q1), .second, .val (.int p2), .val (.int p3), .val (.int p4), rv bp, .val (.long vv), .second, .val (.int n), .val (.int pp), .val (.int sg), .val (.long ww), .second, rv bc, .unset, .unset, .unset] [(.ref bc)]))
  refine own_to (fun t k => XS.bipush X449.here hx rfl (hb hby at_324) k) ?_
  refine own_to (fun t k => XS.bipush X449.here hx rfl (hb hby at_326) k) ?_
  refine own_to (fun t k => XS.iload X449.here hx rfl (hb hby at_328) rfl k) ?_
  show own_Fin _ _ _ _ _ _ (T449.setTop (mkF m 330 #[.val (.long q1), .second, .val (.int p2), .val (.int p3), .val (.int p4), rv bp, .val (.long vv), .second, .val (.int n), .val (.int pp), .val (.int sg), .val (.long ww), .second, rv bc, .unset, .unset, .unset] [(.int sg), (.int (7 : Int32)), (.int (7 : Int32)), (.ref bc)]))
  refine own_to (fun t k => XS.iload X449.here hx rfl (hb hby at_330) rfl k) ?_
  refine own_to (fun t k => XS.iload X449.here hx rfl (hb hby at_332) rfl k) ?_
  refine own_to (fun t k => XS.lload X449.here hx rfl (hb hby at_334) rfl k) ?_
  show own_Fin _ _ _ _ _ _ (T449.setTop (mkF m 336 #[.val (.long q1), .second, .val (.int p2), .val (.int p3), .val (.int p4), rv bp, .val (.long vv), .second, .val (.int n), .val (.int pp), .val (.int sg), .val (.long ww), .second, rv bc, .unset, .unset, .unset] [(.long ww), (.int pp), (.int n), (.int sg), (.int (7 : Int32)), (.int (7 : Int32)), (.ref bc)]))
  refine own_to (fun t k => XS.aload X449.here hx rfl (hb hby at_336) rfl rfl k) ?_
  obtain ⟨_, _, ⟨T451, L451, k451, n451⟩, -, X451, ⟨Lc451, hQ451, l451, y451, z451⟩, st451⟩ := Jvm.LawKit.callS X449 hx (y := (⟨"com/example/libxqtype/libxqtype/ExpressionLexerUnscaledValuePinLaw", "ch", "(IIIIJ[J)C"⟩ : MethodName)) hown (mvT hZ (own_W hw 22 rfl)) (mvT hZ (own_W hw 23 rfl)) (mvT hZ (own_W hw 24 rfl)) (mvT hZ (own_W hw 25 rfl)) (by decide) (own_back (W := 2) (own_chr l Z a0 hw [] (7 : Int32) sg n pp ww bp k367 S N P W 7 h449 n0 (Nat.le_trans zs446 (Keep.of_wr W449).1) Vp413_e449 HK rfl (by decide)) hZ (own_W hw 25 rfl) (own_W hw 24 rfl) (by decide) (by decide)) (g := (mkF m 338 #[.val (.long q1), .second, .val (.int p2), .val (.int p3), .val (.int p4), rv bp, .val (.long vv), .second, .val (.int n), .val (.int pp), .val (.int sg), .val (.long ww), .second, rv bc, .unset, .unset, .unset] [(.ref bp), (.long ww), (.int pp), (.int n), (.int sg), (.int (7 : Int32)), (.int (7 : Int32)), (.ref bc)])) rfl (by rw [hml]; rfl) (argsL := [(.int (7 : Int32)), (.int sg), (.int n), (.int pp), (.long ww), (.ref bp)]) (rest := [(.int (7 : Int32)), (.ref bc)]) (lenOf own_pd14 rfl) rfl (by show 2 * 0 + _ ≤ _; exact Nat.le_of_eq rfl) (hb hby at_338) (fun _ _ => ⟨rfl, e449, (by decide : 2 + 0 ≤ _), (by decide : 40 + 0 ≤ _)⟩)
  dsimp only [Pt.U, Pt.locs, Pt.cells, Pt.slots] at X451 l451 y451 z451 st451 hQ451
  rw [l451, y451, z451] at X451
  obtain ⟨rfl, N451q, eh451⟩ := hQ451
  have N451 := Fr.app N449 N451q
  refine own_to (fun t k => st451 t k) ?_
  show own_Fin _ _ _ _ _ _ (T451.setTop (mkF m 341 #[.val (.long q1), .second, .val (.int p2), .val (.int p3), .val (.int p4), rv bp, .val (.long vv), .second, .val (.int n), .val (.int pp), .val (.int sg), .val (.long ww), .second, rv bc, .unset, .unset, .unset] [(.int (own_ch (7 : Int32) sg n pp ww)), (.int (7 : Int32)), (.ref bc)]))
  obtain ⟨x7, ex7⟩ : ∃ z, z = (own_ch (7 : Int32) sg n pp ww) := ⟨_, rfl⟩
  rw [← ex7]
  have hB7 := own_chB HK (i := (7 : Int32)) (I := 7) rfl (by decide)
  rw [← ex7] at hB7
  show own_Fin _ _ _ _ _ _ (T451.setTop (mkF m 341 #[.val (.long q1), .second, .val (.int p2), .val (.int p3), .val (.int p4), rv bp, .val (.long vv), .second, .val (.int n), .val (.int pp), .val (.int sg), .val (.long ww), .second, rv bc, .unset, .unset, .unset] [(.int x7), (.int (7 : Int32)), (.ref bc)]))
  obtain ⟨cl452, Ar452, qa452, Sa452, Na452, Ha452, Ga452⟩ := id V449
  have hin453 : ¬ ((7 : Int32) < 0 ∨ cl452.slots.size ≤ ((7 : Int32)).toNatClampNeg) := inb_of Sa452 ⟨by decide, by decide⟩
  obtain ⟨T453, h453, X453, e453, W453, st453⟩ := stC X451 hx hZ eh451 Ar452 (j := (7 : Int32)) hin453 (g := (mkF m 341 #[.val (.long q1), .second, .val (.int p2), .val (.int p3), .val (.int p4), rv bp, .val (.long vv), .second, .val (.int n), .val (.int pp), .val (.int sg), .val (.long ww), .second, rv bc, .unset, .unset, .unset] [(.int x7), (.int (7 : Int32)), (.ref bc)])) rfl rfl (hb hby at_341)
  rw [own_nb hB7.1 hB7.2] at W453
  have N453 := Fr.snoc X453 N451 g_bc
  have O453 := O449.wr W453 g_bc
  have A367x_e453 := A367x_e449.wr W453
  have Vp413_e453 := Vp413_e449.other W453 ne_bp_bc
  have A417x_e453 := A417x_e449.wr W453
  have V453 : Arv Z h453 bc k417 .char (21 : Int32) [(.int x0), (.int x1), (.int x2), (.int x3), (.int x4), (.int x5), (.int x6), (.int x7), (.int (0 : Int32)), (.int (0 : Int32)), (.int (0 : Int32)), (.int (0 : Int32)), (.int (0 : Int32)), (.int (0 : Int32)), (.int (0 : Int32)), (.int (0 : Int32)), (.int (0 : Int32)), (.int (0 : Int32)), (.int (0 : Int32)), (.int (0 : Int32)), (.int (0 : Int32))] (.int (0 : Int32)) := Arv.set Ar452 qa452 Sa452 Na452 Ha452 Ga452 (own_fx hB7.1 hB7.2) W453 7 rfl (Nat.le_of_ble_eq_true rfl)
  refine own_to (fun t k => st453 t k) ?_
  show own_Fin _ _ _ _ _ _ (T453.setTop (mkF m 342 #[.val (.long q1), .second, .val (.int p2), .val (.int p3), .val (.int p4), rv bp, .val (.long vv), .second, .val (.int n), .val (.int pp), .val (.int sg), .val (.long ww), .second, rv bc, .unset, .unset, .unset] []))
  refine own_to (fun t k => XS.aload X453.here hx rfl (hb hby at_342) rfl rfl k) ?_
  refine own_to (fun t k => XS.bipush X453.here hx rfl (hb hby at_344) k) ?_
  show own_Fin _ _ _ _ _ _ (T453.setTop (mkF m 346 #[.val (.long q1), .second, .val (.int p2), .val (.int p3), .val (.int p4), rv bp, .val (.long vv), .second, .val (.int n), .val (.int pp), .val (.int sg), .val (.long ww), .second, rv bc, .unset, .unset, .unset] [(.int (8 : Int32)), (.ref bc)]))
  refine own_to (fun t k => XS.bipush X453.here hx rfl (hb hby at_346) k) ?_
  refine own_to (fun t k => XS.iload X453.here hx rfl (hb hby at_348) rfl k) ?_
  refine own_to (fun t k => XS.iload X453.here hx rfl (hb hby at_350) rfl k) ?_
  show own_Fin _ _ _ _ _ _ (T453.setTop (mkF m 352 #[.val (.long q1), .second, .val (.int p2), .val (.int p3), .val (.int p4), rv bp, .val (.long vv), .second, .val (.int n), .val (.int pp), .val (.int sg), .val (.long ww), .second, rv bc, .unset, .unset, .unset] [(.int n), (.int sg), (.int (8 : Int32)), (.int (8 : Int32)), (.ref bc)]))
  refine own_to (fun t k => XS.iload X453.here hx rfl (hb hby at_352) rfl k) ?_
  refine own_to (fun t k => XS.lload X453.here hx rfl (hb hby at_354) rfl k) ?_
  refine own_to (fun t k => XS.aload X453.here hx rfl (hb hby at_356) rfl rfl k) ?_
  show own_Fin _ _ _ _ _ _ (T453.setTop (mkF m 358 #[.val (.long q1), .second, .val (.int p2), .val (.int p3), .val (.int p4), rv bp, .val (.long vv), .second, .val (.int n), .val (.int pp), .val (.int sg), .val (.long ww), .second, rv bc, .unset, .unset, .unset] [(.ref bp), (.long ww), (.int pp), (.int n), (.int sg), (.int (8 : Int32)), (.int (8 : Int32)), (.ref bc)]))
  obtain ⟨_, _, ⟨T455, L455, k455, n455⟩, -, X455, ⟨Lc455, hQ455, l455, y455, z455⟩, st455⟩ := Jvm.LawKit.callS X453 hx (y := (⟨"com/example/libxqtype/libxqtype/ExpressionLexerUnscaledValuePinLaw", "ch", "(IIIIJ[J)C"⟩ : MethodName)) hown (mvT hZ (own_W hw 22 rfl)) (mvT hZ (own_W hw 23 rfl)) (mvT hZ (own_W hw 24 rfl)) (mvT hZ (own_W hw 25 rfl)) (by decide) (own_back (W := 2) (own_chr l Z a0 hw [] (8 : Int32) sg n pp ww bp k367 S N P W 8 h453 n0 (Nat.le_trans (Nat.le_trans zs446 (Keep.of_wr W449).1) (Keep.of_wr W453).1) Vp413_e453 HK rfl (by decide)) hZ (own_W hw 25 rfl) (own_W hw 24 rfl) (by decide) (by decide)) (g := (mkF m 358 #[.val (.long q1), .second, .val (.int p2), .val (.int p3), .val (.int p4), rv bp, .val (.long vv), .second, .val (.int n), .val (.int pp), .val (.int sg), .val (.long ww), .second, rv bc, .unset, .unset, .unset] [(.ref bp), (.long ww), (.int pp), (.int n), (.int sg), (.int (8 : Int32)), (.int (8 : Int32)), (.ref bc)])) rfl (by rw [hml]; rfl) (argsL := [(.int (8 : Int32)), (.int sg), (.int n), (.int pp), (.long ww), (.ref bp)]) (rest := [(.int (8 : Int32)), (.ref bc)]) (lenOf own_pd14 rfl) rfl (by show 2 * 0 + _ ≤ _; exact Nat.le_of_eq rfl) (hb hby at_358) (fun _ _ => ⟨rfl, e453, (by decide : 2 + 0 ≤ _), (by decide : 40 + 0 ≤ _)⟩)
  dsimp only [Pt.U, Pt.locs, Pt.cells, Pt.slots] at X455 l455 y455 z455 st455 hQ455
  rw [l455, y455, z455] at X455
  obtain ⟨rfl, N455q, eh455⟩ := hQ455
  have N455 := Fr.app N453 N455q
  refine own_to (fun t k => st455 t k) ?_
  show own_Fin _ _ _ _ _ _ (T455.setTop (mkF m 361 #[.val (.long q1), .second, .val (.int p2), .val (.int p3), .val (.int p4), rv bp, .val (.long vv), .second, .val (.int n), .val (.int pp), .val (.int sg), .val (.long ww), .second, rv bc, .unset, .unset, .unset] [(.int (own_ch (8 : Int32) sg n pp ww)), (.int (8 : Int32)), (.ref bc)]))
  obtain ⟨x8, ex8⟩ : ∃ z, z = (own_ch (8 : Int32) sg n pp ww) := ⟨_, rfl⟩
  rw [← ex8]
  have hB8 := own_chB HK (i := (8 : Int32)) (I := 8) rfl (by decide)
  rw [← ex8] at hB8
  show own_Fin _ _ _ _ _ _ (T455.setTop (mkF m 361 #[.val (.long q1), .second, .val (.int p2), .val (.int p3), .val (.int p4), rv bp, .val (.long vv), .second, .val (.int n), .val (.int pp), .val (.int sg), .val (.long ww), .second, rv bc, .unset, .unset, .unset] [(.int x8), (.int (8 : Int32)), (.ref bc)]))
  obtain ⟨cl456, Ar456, qa456, Sa456, Na456, Ha456, Ga456⟩ := id V453
  have hin457 : ¬ ((8 : Int32) < 0 ∨ cl456.slots.size ≤ ((8 : Int32)).toNatClampNeg) := inb_of Sa456 ⟨by decide, by decide⟩
  obtain ⟨T457, h457, X457, e457, W457, st457⟩ := stC X455 hx hZ eh455 Ar456 (j := (8 : Int32)) hin457 (g := (mkF m 361 #[.val (.long q1), .second, .val (.int p2), .val (.int p3), .val (.int p4), rv bp, .val (.long vv), .second, .val (.int n), .val (.int pp), .val (.int sg), .val (.long ww), .second, rv bc, .unset, .unset, .unset] [(.int x8), (.int (8 : Int32)), (.ref bc)])) rfl rfl (hb hby at_361)
  rw [own_nb hB8.1 hB8.2] at W457
  have N457 := Fr.snoc X457 N455 g_bc
  have O457 := O453.wr W457 g_bc
  have A367x_e457 := A367x_e453.wr W457
  have Vp413_e457 := Vp413_e453.other W457 ne_bp_bc
  have A417x_e457 := A417x_e453.wr W457
  have V457 : Arv Z h457 bc k417 .char (21 : Int32) [(.int x0), (.int x1), (.int x2), (.int x3), (.int x4), (.int x5), (.int x6), (.int x7), (.int x8), (.int (0 : Int32)), (.int (0 : Int32)), (.int (0 : Int32)), (.int (0 : Int32)), (.int (0 : Int32)), (.int (0 : Int32)), (.int (0 : Int32)), (.int (0 : Int32)), (.int (0 : Int32)), (.int (0 : Int32)), (.int (0 : Int32)), (.int (0 : Int32))] (.int (0 : Int32)) := Arv.set Ar456 qa456 Sa456 Na456 Ha456 Ga456 (own_fx hB8.1 hB8.2) W457 8 rfl (Nat.le_of_ble_eq_true rfl)
  refine own_to (fun t k => st457 t k) ?_
  show own_Fin _ _ _ _ _ _ (T457.setTop (mkF m 362 #[.val (.long q1), .second, .val (.int p2), .val (.int p3), .val (.int p4), rv bp, .val (.long vv), .second, .val (.int n), .val (.int pp), .val (.int sg), .val (.long ww), .second, rv bc, .unset, .unset, .unset] []))
  refine own_to (fun t k => XS.aload X457.here hx rfl (hb hby at_362) rfl rfl k) ?_
  refine own_to (fun t k => XS.bipush X457.here hx rfl (hb hby at_364) k) ?_
  refine own_to (fun t k => XS.bipush X457.here hx rfl (hb hby at_366) k) ?_
  show own_Fin _ _ _ _ _ _ (T457.setTop (mkF m 368 #[.val (.long q1), .second, .val (.int p2), .val (.int p3), .val (.int p4), rv bp, .val (.long vv), .second, .val (.int n), .val (.int pp), .val (.int sg), .val (.long ww), .second, rv bc, .unset, .unset, .unset] [(.int (9 : Int32)), (.int (9 : Int32)), (.ref bc)]))
  refine own_to (fun t k => XS.iload X457.here hx rfl (hb hby at_368) rfl k) ?_
  refine own_to (fun t k => XS.iload X457.here hx rfl (hb hby at_370) rfl k) ?_
  refine own_to (fun t k => XS.iload X457.here hx rfl (hb hby at_372) rfl k) ?_
  show own_Fin _ _ _ _ _ _ (T457.setTop (mkF m 374 #[.val (.long q1), .second, .val (.int p2), .val (.int p3), .val (.int p4), rv bp, .val (.long vv), .second, .val (.int n), .val (.int pp), .val (.int sg), .val (.long ww), .second, rv bc, .unset, .unset, .unset] [(.int pp), (.int n), (.int sg), (.int (9 : Int32)), (.int (9 : Int32)), (.ref bc)]))
  refine own_to (fun t k => XS.lload X457.here hx rfl (hb hby at_374) rfl k) ?_
  refine own_to (fun t k => XS.aload X457.here hx rfl (hb hby at_376) rfl rfl k) ?_
  have zs459 := (Nat.le_trans (Nat.le_trans (Nat.le_trans zs446 (Keep.of_wr W449).1) (Keep.of_wr W453).1) (Keep.of_wr W457).1)
  obtain ⟨_, _, ⟨T460, L460, k460, n460⟩, -, X460, ⟨Lc460, hQ460, l460, y460, z460⟩, st460⟩ := Jvm.LawKit.callS X457 hx (y := (⟨"com/example/libxqtype/libxqtype/ExpressionLexerUnscaledValuePinLaw", "ch", "(IIIIJ[J)C"⟩ : MethodName)) hown (mvT hZ (own_W hw 22 rfl)) (mvT hZ (own_W hw 23 rfl)) (mvT hZ (own_W hw 24 rfl)) (mvT hZ (own_W hw 25 rfl)) (by decide) (own_back (W := 2) (own_chr l Z a0 hw [] (9 : Int32) sg n pp ww bp k367 S N P W 9 h457 n0 zs459 Vp413_e457 HK rfl (by decide)) hZ (own_W hw 25 rfl) (own_W hw 24 rfl) (by decide) (by decide)) (g := (mkF m 378 #[.val (.long q1), .second, .val (.int p2), .val (.int p3), .val (.int p4), rv bp, .val (.long vv), .second, .val (.int n), .val (.int pp), .val (.int sg), .val (.long ww), .second, rv bc, .unset, .unset, .unset] [(.ref bp), (.long ww), (.int pp), (.int n), (.int sg), (.int (9 : Int32)), (.int (9 : Int32)), (.ref bc)])) rfl (by rw [hml]; rfl) (argsL := [(.int (9 : Int32)), (.int sg), (.int n), (.int pp), (.long ww), (.ref bp)]) (rest := [(.int (9 : Int32)), (.ref bc)]) (lenOf own_pd14 rfl) rfl (by show 2 * 0 + _ ≤ _; exact Nat.le_of_eq rfl) (hb hby at_378) (fun _ _ => ⟨rfl, e457, (by decide : 2 + 0 ≤ _), (by decide : 40 + 0 ≤ _)⟩)
  dsimp only [Pt.U, Pt.locs, Pt.cells, Pt.slots] at X460 l460 y460 z460 st460 hQ460
  rw [l460, y460, z460] at X460
  obtain ⟨rfl, N460q, eh460⟩ := hQ460
  have N460 := Fr.app N457 N460q
  refine own_to (fun t k => st460 t k) ?_
  show own_Fin _ _ _ _ _ _ (T460.setTop (mkF m 381 #[.val (.long q1), .second, .val (.int p2), .val (.int p3), .val (.int p4), rv bp, .val (.long vv), .second, .val (.int n), .val (.int pp), .val (.int sg), .val (.long ww), .second, rv bc, .unset, .unset, .unset] [(.int (own_ch (9 : Int32) sg n pp ww)), (.int (9 : Int32)), (.ref bc)]))
  obtain ⟨x9, ex9⟩ : ∃ z, z = (own_ch (9 : Int32) sg n pp ww) := ⟨_, rfl⟩
  rw [← ex9]
  have hB9 := own_chB HK (i := (9 : Int32)) (I := 9) rfl (by decide)
  rw [← ex9] at hB9
  show own_Fin _ _ _ _ _ _ (T460.setTop (mkF m 381 #[.val (.long q1), .second, .val (.int p2), .val (.int p3), .val (.int p4), rv bp, .val (.long vv), .second, .val (.int n), .val (.int pp), .val (.int sg), .val (.long ww), .second, rv bc, .unset, .unset, .unset] [(.int x9), (.int (9 : Int32)), (.ref bc)]))
  obtain ⟨cl461, Ar461, qa461, Sa461, Na461, Ha461, Ga461⟩ := id V457
  have hin462 : ¬ ((9 : Int32) < 0 ∨ cl461.slots.size ≤ ((9 : Int32)).toNatClampNeg) := inb_of Sa461 ⟨by decide, by decide⟩
  obtain ⟨T462, h462, X462, e462, W462, st462⟩ := stC X460 hx hZ eh460 Ar461 (j := (9 : Int32)) hin462 (g := (mkF m 381 #[.val (.long q1), .second, .val (.int p2), .val (.int p3), .val (.int p4), rv bp, .val (.long vv), .second, .val (.int n), .val (.int pp), .val (.int sg), .val (.long ww), .second, rv bc, .unset, .unset, .unset] [(.int x9), (.int (9 : Int32)), (.ref bc)])) rfl rfl (hb hby at_381)
  rw [own_nb hB9.1 hB9.2] at W462
  have N462 := Fr.snoc X462 N460 g_bc
  have O462 := O457.wr W462 g_bc
  have A367x_e462 := A367x_e457.wr W462
  have Vp413_e462 := Vp413_e457.other W462 ne_bp_bc
  have A417x_e462 := A417x_e457.wr W462
  have V462 : Arv Z h462 bc k417 .char (21 : Int32) [(.int x0), (.int x1), (.int x2), (.int x3), (.int x4), (.int x5), (.int x6), (.int x7), (.int x8), (.int x9), (.int (0 : Int32)), (.int (0 : Int32)), (.int (0 : Int32)), (.int (0 : Int32)), (.int (0 : Int32)), (.int (0 : Int32)), (.int (0 : Int32)), (.int (0 : Int32)), (.int (0 : Int32)), (.int (0 : Int32)), (.int (0 : Int32))] (.int (0 : Int32)) := Arv.set Ar461 qa461 Sa461 Na461 Ha461 Ga461 (own_fx hB9.1 hB9.2) W462 9 rfl (Nat.le_of_ble_eq_true rfl)
  refine own_to (fun t k => st462 t k) ?_
  show own_Fin _ _ _ _ _ _ (T462.setTop (mkF m 382 #[.val (.long q1), .second, .val (.int p2), .val (.int p3), .val (.int p4), rv bp, .val (.long vv), .second, .val (.int n), .val (.int pp), .val (.int sg), .val (.long ww), .second, rv bc, .unset, .unset, .unset] []))
  refine own_to (fun t k => XS.aload X462.here hx rfl (hb hby at_382) rfl rfl k) ?_
  show own_Fin _ _ _ _ _ _ (T462.setTop (mkF m 384 #[.val (.long q1), .second, .val (.int p2), .val (.int p3), .val (.int p4), rv bp, .val (.long vv), .second, .val (.int n), .val (.int pp), .val (.int sg), .val (.long ww), .second, rv bc, .unset, .unset, .unset] [(.ref bc)]))
  refine own_to (fun t k => XS.bipush X462.here hx rfl (hb hby at_384) k) ?_
  refine own_to (fun t k => XS.bipush X462.here hx rfl (hb hby at_386) k) ?_
  refine own_to (fun t k => XS.iload X462.here hx rfl (hb hby at_388) rfl k) ?_
  show own_Fin _ _ _ _ _ _ (T462.setTop (mkF m 390 #[.val (.long q1), .second, .val (.int p2), .val (.int p3), .val (.int p4), rv bp, .val (.long vv), .second, .val (.int n), .val (.int pp), .val (.int sg), .val (.long ww), .second, rv bc, .unset, .unset, .unset] [(.int sg), (.int (10 : Int32)), (.int (10 : Int32)), (.ref bc)]))
  refine own_to (fun t k => XS.iload X462.here hx rfl (hb hby at_390) rfl k) ?_
  refine own_to (fun t k => XS.iload X462.here hx rfl (hb hby at_392) rfl k) ?_
  refine own_to (fun t k => XS.lload X462.here hx rfl (hb hby at_394) rfl k) ?_
  show own_Fin _ _ _ _ _ _ (T462.setTop (mkF m 396 #[.val (.long q1), .second, .val (.int p2), .val (.int p3), .val (.int p4), rv bp, .val (.long vv), .second, .val (.int n), .val (.int pp), .val (.int sg), .val (.long ww), .second, rv bc, .unset, .unset, .unset] [(.long ww), (.int pp), (.int n), (.int sg), (.int (10 : Int32)), (.int (10 : Int32)), (.ref bc)]))
  refine own_to (fun t k => XS.aload X462.here hx rfl (hb hby at_396) rfl rfl k) ?_
  obtain ⟨_, _, ⟨T464, L464, k464, n464⟩, -, X464, ⟨Lc464, hQ464, l464, y464, z464⟩, st464⟩ := Jvm.LawKit.callS X462 hx (y := (⟨"com/example/libxqtype/libxqtype/ExpressionLexerUnscaledValuePinLaw", "ch", "(IIIIJ[J)C"⟩ : MethodName)) hown (mvT hZ (own_W hw 22 rfl)) (mvT hZ (own_W hw 23 rfl)) (mvT hZ (own_W hw 24 rfl)) (mvT hZ (own_W hw 25 rfl)) (by decide) (own_back (W := 2) (own_chr l Z a0 hw [] (10 : Int32) sg n pp ww bp k367 S N P W 10 h462 n0 (Nat.le_trans zs459 (Keep.of_wr W462).1) Vp413_e462 HK rfl (by decide)) hZ (own_W hw 25 rfl) (own_W hw 24 rfl) (by decide) (by decide)) (g := (mkF m 398 #[.val (.long q1), .second, .val (.int p2), .val (.int p3), .val (.int p4), rv bp, .val (.long vv), .second, .val (.int n), .val (.int pp), .val (.int sg), .val (.long ww), .second, rv bc, .unset, .unset, .unset] [(.ref bp), (.long ww), (.int pp), (.int n), (.int sg), (.int (10 : Int32)), (.int (10 : Int32)), (.ref bc)])) rfl (by rw [hml]; rfl) (argsL := [(.int (10 : Int32)), (.int sg), (.int n), (.int pp), (.long ww), (.ref bp)]) (rest := [(.int (10 : Int32)), (.ref bc)]) (lenOf own_pd14 rfl) rfl (by show 2 * 0 + _ ≤ _; exact Nat.le_of_eq rfl) (hb hby at_398) (fun _ _ => ⟨rfl, e462, (by decide : 2 + 0 ≤ _), (by decide : 40 + 0 ≤ _)⟩)
  dsimp only [Pt.U, Pt.locs, Pt.cells, Pt.slots] at X464 l464 y464 z464 st464 hQ464
  rw [l464, y464, z464] at X464
  obtain ⟨rfl, N464q, eh464⟩ := hQ464
  have N464 := Fr.app N462 N464q
  refine own_to (fun t k => st464 t k) ?_
  show own_Fin _ _ _ _ _ _ (T464.setTop (mkF m 401 #[.val (.long q1), .second, .val (.int p2), .val (.int p3), .val (.int p4), rv bp, .val (.long vv), .second, .val (.int n), .val (.int pp), .val (.int sg), .val (.long ww), .second, rv bc, .unset, .unset, .unset] [(.int (own_ch (10 : Int32) sg n pp ww)), (.int (10 : Int32)), (.ref bc)]))
  obtain ⟨x10, ex10⟩ : ∃ z, z = (own_ch (10 : Int32) sg n pp ww) := ⟨_, rfl⟩
  rw [← ex10]
  have hB10 := own_chB HK (i := (10 : Int32)) (I := 10) rfl (by decide)
  rw [← ex10] at hB10
  show own_Fin _ _ _ _ _ _ (T464.setTop (mkF m 401 #[.val (.long q1), .second, .val (.int p2), .val (.int p3), .val (.int p4), rv bp, .val (.long vv), .second, .val (.int n), .val (.int pp), .val (.int sg), .val (.long ww), .second, rv bc, .unset, .unset, .unset] [(.int x10), (.int (10 : Int32)), (.ref bc)]))
  obtain ⟨cl465, Ar465, qa465, Sa465, Na465, Ha465, Ga465⟩ := id V462
  have hin466 : ¬ ((10 : Int32) < 0 ∨ cl465.slots.size ≤ ((10 : Int32)).toNatClampNeg) := inb_of Sa465 ⟨by decide, by decide⟩
  obtain ⟨T466, h466, X466, e466, W466, st466⟩ := stC X464 hx hZ eh464 Ar465 (j := (10 : Int32)) hin466 (g := (mkF m 401 #[.val (.long q1), .second, .val (.int p2), .val (.int p3), .val (.int p4), rv bp, .val (.long vv), .second, .val (.int n), .val (.int pp), .val (.int sg), .val (.long ww), .second, rv bc, .unset, .unset, .unset] [(.int x10), (.int (10 : Int32)), (.ref bc)])) rfl rfl (hb hby at_401)
  rw [own_nb hB10.1 hB10.2] at W466
  have N466 := Fr.snoc X466 N464 g_bc
  have O466 := O462.wr W466 g_bc
  have A367x_e466 := A367x_e462.wr W466
  have Vp413_e466 := Vp413_e462.other W466 ne_bp_bc
  have A417x_e466 := A417x_e462.wr W466
  have V466 : Arv Z h466 bc k417 .char (21 : Int32) [(.int x0), (.int x1), (.int x2), (.int x3), (.int x4), (.int x5), (.int x6), (.int x7), (.int x8), (.int x9), (.int x10), (.int (0 : Int32)), (.int (0 : Int32)), (.int (0 : Int32)), (.int (0 : Int32)), (.int (0 : Int32)), (.int (0 : Int32)), (.int (0 : Int32)), (.int (0 : Int32)), (.int (0 : Int32)), (.int (0 : Int32))] (.int (0 : Int32)) := Arv.set Ar465 qa465 Sa465 Na465 Ha465 Ga465 (own_fx hB10.1 hB10.2) W466 10 rfl (Nat.le_of_ble_eq_true rfl)
  refine own_to (fun t k => st466 t k) ?_
  show own_Fin _ _ _ _ _ _ (T466.setTop (mkF m 402 #[.val (.long q1), .second, .val (.int p2), .val (.int p3), .val (.int p4), rv bp, .val (.long vv), .second, .val (.int n), .val (.int pp), .val (.int sg), .val (.long ww), .second, rv bc, .unset, .unset, .unset] []))
  refine own_to (fun t k => XS.aload X466.here hx rfl (hb hby at_402) rfl rfl k) ?_
  refine own_to (fun t k => XS.bipush X466.here hx rfl (hb hby at_404) k) ?_
  show own_Fin _ _ _ _ _ _ (T466.setTop (mkF m 406 #[.val (.long q1), .second, .val (.int p2), .val (.int p3), .val (.int p4), rv bp, .val (.long vv), .second, .val (.int n), .val (.int pp), .val (.int sg), .val (.long ww), .second, rv bc, .unset, .unset, .unset] [(.int (11 : Int32)), (.ref bc)]))
  refine own_to (fun t k => XS.bipush X466.here hx rfl (hb hby at_406) k) ?_
  refine own_to (fun t k => XS.iload X466.here hx rfl (hb hby at_408) rfl k) ?_
  refine own_to (fun t k => XS.iload X466.here hx rfl (hb hby at_410) rfl k) ?_
  show own_Fin _ _ _ _ _ _ (T466.setTop (mkF m 412 #[.val (.long q1), .second, .val (.int p2), .val (.int p3), .val (.int p4), rv bp, .val (.long vv), .second, .val (.int n), .val (.int pp), .val (.int sg), .val (.long ww), .second, rv bc, .unset, .unset, .unset] [(.int n), (.int sg), (.int (11 : Int32)), (.int (11 : Int32)), (.ref bc)]))
  refine own_to (fun t k => XS.iload X466.here hx rfl (hb hby at_412) rfl k) ?_
  refine own_to (fun t k => XS.lload X466.here hx rfl (hb hby at_414) rfl k) ?_
  refine own_to (fun t k => XS.aload X466.here hx rfl (hb hby at_416) rfl rfl k) ?_
  show own_Fin _ _ _ _ _ _ (T466.setTop (mkF m 418 #[.val (.long q1), .second, .val (.int p2), .val (.int p3), .val (.int p4), rv bp, .val (.long vv), .second, .val (.int n), .val (.int pp), .val (.int sg), .val (.long ww), .second, rv bc, .unset, .unset, .unset] [(.ref bp), (.long ww), (.int pp), (.int n), (.int sg), (.int (11 : Int32)), (.int (11 : Int32)), (.ref bc)]))
  obtain ⟨_, _, ⟨T468, L468, k468, n468⟩, -, X468, ⟨Lc468, hQ468, l468, y468, z468⟩, st468⟩ := Jvm.LawKit.callS X466 hx (y := (⟨"com/example/libxqtype/libxqtype/ExpressionLexerUnscaledValuePinLaw", "ch", "(IIIIJ[J)C"⟩ : MethodName)) hown (mvT hZ (own_W hw 22 rfl)) (mvT hZ (own_W hw 23 rfl)) (mvT hZ (own_W hw 24 rfl)) (mvT hZ (own_W hw 25 rfl)) (by decide) (own_back (W := 2) (own_chr l Z a0 hw [] (11 : Int32) sg n pp ww bp k367 S N P W 11 h466 n0 (Nat.le_trans (Nat.le_trans zs459 (Keep.of_wr W462).1) (Keep.of_wr W466).1) Vp413_e466 HK rfl (by decide)) hZ (own_W hw 25 rfl) (own_W hw 24 rfl) (by decide) (by decide)) (g := (mkF m 418 #[.val (.long q1), .second, .val (.int p2), .val (.int p3), .val (.int p4), rv bp, .val (.long vv), .second, .val (.int n), .val (.int pp), .val (.int sg), .val (.long ww), .second, rv bc, .unset, .unset, .unset] [(.ref bp), (.long ww), (.int pp), (.int n), (.int sg), (.int (11 : Int32)), (.int (11 : Int32)), (.ref bc)])) rfl (by rw [hml]; rfl) (argsL := [(.int (11 : Int32)), (.int sg), (.int n), (.int pp), (.long ww), (.ref bp)]) (rest := [(.int (11 : Int32)), (.ref bc)]) (lenOf own_pd14 rfl) rfl (by show 2 * 0 + _ ≤ _; exact Nat.le_of_eq rfl) (hb hby at_418) (fun _ _ => ⟨rfl, e466, (by decide : 2 + 0 ≤ _), (by decide : 40 + 0 ≤ _)⟩)
  dsimp only [Pt.U, Pt.locs, Pt.cells, Pt.slots] at X468 l468 y468 z468 st468 hQ468
  rw [l468, y468, z468] at X468
  obtain ⟨rfl, N468q, eh468⟩ := hQ468
  have N468 := Fr.app N466 N468q
  refine own_to (fun t k => st468 t k) ?_
  show own_Fin _ _ _ _ _ _ (T468.setTop (mkF m 421 #[.val (.long q1), .second, .val (.int p2), .val (.int p3), .val (.int p4), rv bp, .val (.long vv), .second, .val (.int n), .val (.int pp), .val (.int sg), .val (.long ww), .second, rv bc, .unset, .unset, .unset] [(.int (own_ch (11 : Int32) sg n pp ww)), (.int (11 : Int32)), (.ref bc)]))
  obtain ⟨x11, ex11⟩ : ∃ z, z = (own_ch (11 : Int32) sg n pp ww) := ⟨_, rfl⟩
  rw [← ex11]
  have hB11 := own_chB HK (i := (11 : Int32)) (I := 11) rfl (by decide)
  rw [← ex11] at hB11
  show own_Fin _ _ _ _ _ _ (T468.setTop (mkF m 421 #[.val (.long q1), .second, .val (.int p2), .val (.int p3), .val (.int p4), rv bp, .val (.long vv), .second, .val (.int n), .val (.int pp), .val (.int sg), .val (.long ww), .second, rv bc, .unset, .unset, .unset] [(.int x11), (.int (11 : Int32)), (.ref bc)]))
  obtain ⟨cl469, Ar469, qa469, Sa469, Na469, Ha469, Ga469⟩ := id V466
  have hin470 : ¬ ((11 : Int32) < 0 ∨ cl469.slots.size ≤ ((11 : Int32)).toNatClampNeg) := inb_of Sa469 ⟨by decide, by decide⟩
  obtain ⟨T470, h470, X470, e470, W470, st470⟩ := stC X468 hx hZ eh468 Ar469 (j := (11 : Int32)) hin470 (g := (mkF m 421 #[.val (.long q1), .second, .val (.int p2), .val (.int p3), .val (.int p4), rv bp, .val (.long vv), .second, .val (.int n), .val (.int pp), .val (.int sg), .val (.long ww), .second, rv bc, .unset, .unset, .unset] [(.int x11), (.int (11 : Int32)), (.ref bc)])) rfl rfl (hb hby at_421)
  rw [own_nb hB11.1 hB11.2] at W470
  have N470 := Fr.snoc X470 N468 g_bc
  have O470 := O466.wr W470 g_bc
  have A367x_e470 := A367x_e466.wr W470
  have Vp413_e470 := Vp413_e466.other W470 ne_bp_bc
  have A417x_e470 := A417x_e466.wr W470
  have V470 : Arv Z h470 bc k417 .char (21 : Int32) [(.int x0), (.int x1), (.int x2), (.int x3), (.int x4), (.int x5), (.int x6), (.int x7), (.int x8), (.int x9), (.int x10), (.int x11), (.int (0 : Int32)), (.int (0 : Int32)), (.int (0 : Int32)), (.int (0 : Int32)), (.int (0 : Int32)), (.int (0 : Int32)), (.int (0 : Int32)), (.int (0 : Int32)), (.int (0 : Int32))] (.int (0 : Int32)) := Arv.set Ar469 qa469 Sa469 Na469 Ha469 Ga469 (own_fx hB11.1 hB11.2) W470 11 rfl (Nat.le_of_ble_eq_true rfl)
  refine own_to (fun t k => st470 t k) ?_
  show own_Fin _ _ _ _ _ _ (T470.setTop (mkF m 422 #[.val (.long q1), .second, .val (.int p2), .val (.int p3), .val (.int p4), rv bp, .val (.long vv), .second, .val (.int n), .val (.int pp), .val (.int sg), .val (.long ww), .second, rv bc, .unset, .unset, .unset] []))
  refine own_to (fun t k => XS.aload X470.here hx rfl (hb hby at_422) rfl rfl k) ?_
  refine own_to (fun t k => XS.bipush X470.here hx rfl (hb hby at_424) k) ?_
  refine own_to (fun t k => XS.bipush X470.here hx rfl (hb hby at_426) k) ?_
  show own_Fin _ _ _ _ _ _ (T470.setTop (mkF m 428 #[.val (.long q1), .second, .val (.int p2), .val (.int p3), .val (.int p4), rv bp, .val (.long vv), .second, .val (.int n), .val (.int pp), .val (.int sg), .val (.long ww), .second, rv bc, .unset, .unset, .unset] [(.int (12 : Int32)), (.int (12 : Int32)), (.ref bc)]))
  refine own_to (fun t k => XS.iload X470.here hx rfl (hb hby at_428) rfl k) ?_
  refine own_to (fun t k => XS.iload X470.here hx rfl (hb hby at_430) rfl k) ?_
  refine own_to (fun t k => XS.iload X470.here hx rfl (hb hby at_432) rfl k) ?_
  show own_Fin _ _ _ _ _ _ (T470.setTop (mkF m 434 #[.val (.long q1), .second, .val (.int p2), .val (.int p3), .val (.int p4), rv bp, .val (.long vv), .second, .val (.int n), .val (.int pp), .val (.int sg), .val (.long ww), .second, rv bc, .unset, .unset, .unset] [(.int pp), (.int n), (.int sg), (.int (12 : Int32)), (.int (12 : Int32)), (.ref bc)]))
  refine own_to (fun t k => XS.lload X470.here hx rfl (hb hby at_434) rfl k) ?_
  refine own_to (fun t k => XS.aload X470.here hx rfl (hb hby at_436) rfl rfl k) ?_
  have zs472 := (Nat.le_trans (Nat.le_trans (Nat.le_trans zs459 (Keep.of_wr W462).1) (Keep.of_wr W466).1) (Keep.of_wr W470).1)
  obtain ⟨_, _, ⟨T473, L473, k473, n473⟩, -, X473, ⟨Lc473, hQ473, l473, y473, z473⟩, st473⟩ := Jvm.LawKit.callS X470 hx (y := (⟨"com/example/libxqtype/libxqtype/ExpressionLexerUnscaledValuePinLaw", "ch", "(IIIIJ[J)C"⟩ : MethodName)) hown (mvT hZ (own_W hw 22 rfl)) (mvT hZ (own_W hw 23 rfl)) (mvT hZ (own_W hw 24 rfl)) (mvT hZ (own_W hw 25 rfl)) (by decide) (own_back (W := 2) (own_chr l Z a0 hw [] (12 : Int32) sg n pp ww bp k367 S N P W 12 h470 n0 zs472 Vp413_e470 HK rfl (by decide)) hZ (own_W hw 25 rfl) (own_W hw 24 rfl) (by decide) (by decide)) (g := (mkF m 438 #[.val (.long q1), .second, .val (.int p2), .val (.int p3), .val (.int p4), rv bp, .val (.long vv), .second, .val (.int n), .val (.int pp), .val (.int sg), .val (.long ww), .second, rv bc, .unset, .unset, .unset] [(.ref bp), (.long ww), (.int pp), (.int n), (.int sg), (.int (12 : Int32)), (.int (12 : Int32)), (.ref bc)])) rfl (by rw [hml]; rfl) (argsL := [(.int (12 : Int32)), (.int sg), (.int n), (.int pp), (.long ww), (.ref bp)]) (rest := [(.int (12 : Int32)), (.ref bc)]) (lenOf own_pd14 rfl) rfl (by show 2 * 0 + _ ≤ _; exact Nat.le_of_eq rfl) (hb hby at_438) (fun _ _ => ⟨rfl, e470, (by decide : 2 + 0 ≤ _), (by decide : 40 + 0 ≤ _)⟩)
  dsimp only [Pt.U, Pt.locs, Pt.cells, Pt.slots] at X473 l473 y473 z473 st473 hQ473
  rw [l473, y473, z473] at X473
  obtain ⟨rfl, N473q, eh473⟩ := hQ473
  have N473 := Fr.app N470 N473q
  refine own_to (fun t k => st473 t k) ?_
  show own_Fin _ _ _ _ _ _ (T473.setTop (mkF m 441 #[.val (.long q1), .second, .val (.int p2), .val (.int p3), .val (.int p4), rv bp, .val (.long vv), .second, .val (.int n), .val (.int pp), .val (.int sg), .val (.long ww), .second, rv bc, .unset, .unset, .unset] [(.int (own_ch (12 : Int32) sg n pp ww)), (.int (12 : Int32)), (.ref bc)]))
  obtain ⟨x12, ex12⟩ : ∃ z, z = (own_ch (12 : Int32) sg n pp ww) := ⟨_, rfl⟩
  rw [← ex12]
  have hB12 := own_chB HK (i := (12 : Int32)) (I := 12) rfl (by decide)
  rw [← ex12] at hB12
  show own_Fin _ _ _ _ _ _ (T473.setTop (mkF m 441 #[.val (.long q1), .second, .val (.int p2), .val (.int p3), .val (.int p4), rv bp, .val (.long vv), .second, .val (.int n), .val (.int pp), .val (.int sg), .val (.long ww), .second, rv bc, .unset, .unset, .unset] [(.int x12), (.int (12 : Int32)), (.ref bc)]))
  obtain ⟨cl474, Ar474, qa474, Sa474, Na474, Ha474, Ga474⟩ := id V470
  have hin475 : ¬ ((12 : Int32) < 0 ∨ cl474.slots.size ≤ ((12 : Int32)).toNatClampNeg) := inb_of Sa474 ⟨by decide, by decide⟩
  obtain ⟨T475, h475, X475, e475, W475, st475⟩ := stC X473 hx hZ eh473 Ar474 (j := (12 : Int32)) hin475 (g := (mkF m 441 #[.val (.long q1), .second, .val (.int p2), .val (.int p3), .val (.int p4), rv bp, .val (.long vv), .second, .val (.int n), .val (.int pp), .val (.int sg), .val (.long ww), .second, rv bc, .unset, .unset, .unset] [(.int x12), (.int (12 : Int32)), (.ref bc)])) rfl rfl (hb hby at_441)
  rw [own_nb hB12.1 hB12.2] at W475
  have N475 := Fr.snoc X475 N473 g_bc
  have O475 := O470.wr W475 g_bc
  have A367x_e475 := A367x_e470.wr W475
  have Vp413_e475 := Vp413_e470.other W475 ne_bp_bc
  have A417x_e475 := A417x_e470.wr W475
  have V475 : Arv Z h475 bc k417 .char (21 : Int32) [(.int x0), (.int x1), (.int x2), (.int x3), (.int x4), (.int x5), (.int x6), (.int x7), (.int x8), (.int x9), (.int x10), (.int x11), (.int x12), (.int (0 : Int32)), (.int (0 : Int32)), (.int (0 : Int32)), (.int (0 : Int32)), (.int (0 : Int32)), (.int (0 : Int32)), (.int (0 : Int32)), (.int (0 : Int32))] (.int (0 : Int32)) := Arv.set Ar474 qa474 Sa474 Na474 Ha474 Ga474 (own_fx hB12.1 hB12.2) W475 12 rfl (Nat.le_of_ble_eq_true rfl)
  refine own_to (fun t k => st475 t k) ?_
  show own_Fin _ _ _ _ _ _ (T475.setTop (mkF m 442 #[.val (.long q1), .second, .val (.int p2), .val (.int p3), .val (.int p4), rv bp, .val (.long vv), .second, .val (.int n), .val (.int pp), .val (.int sg), .val (.long ww), .second, rv bc, .unset, .unset, .unset] []))
  refine own_to (fun t k => XS.aload X475.here hx rfl (hb hby at_442) rfl rfl k) ?_
  show own_Fin _ _ _ _ _ _ (T475.setTop (mkF m 444 #[.val (.long q1), .second, .val (.int p2), .val (.int p3), .val (.int p4), rv bp, .val (.long vv), .second, .val (.int n), .val (.int pp), .val (.int sg), .val (.long ww), .second, rv bc, .unset, .unset, .unset] [(.ref bc)]))
  refine own_to (fun t k => XS.bipush X475.here hx rfl (hb hby at_444) k) ?_
  refine own_to (fun t k => XS.bipush X475.here hx rfl (hb hby at_446) k) ?_
  refine own_to (fun t k => XS.iload X475.here hx rfl (hb hby at_448) rfl k) ?_
  show own_Fin _ _ _ _ _ _ (T475.setTop (mkF m 450 #[.val (.long q1), .second, .val (.int p2), .val (.int p3), .val (.int p4), rv bp, .val (.long vv), .second, .val (.int n), .val (.int pp), .val (.int sg), .val (.long ww), .second, rv bc, .unset, .unset, .unset] [(.int sg), (.int (13 : Int32)), (.int (13 : Int32)), (.ref bc)]))
  refine own_to (fun t k => XS.iload X475.here hx rfl (hb hby at_450) rfl k) ?_
  refine own_to (fun t k => XS.iload X475.here hx rfl (hb hby at_452) rfl k) ?_
  refine own_to (fun t k => XS.lload X475.here hx rfl (hb hby at_454) rfl k) ?_
  show own_Fin _ _ _ _ _ _ (T475.setTop (mkF m 456 #[.val (.long q1), .second, .val (.int p2), .val (.int p3), .val (.int p4), rv bp, .val (.long vv), .second, .val (.int n), .val (.int pp), .val (.int sg), .val (.long ww), .second, rv bc, .unset, .unset, .unset] [(.long ww), (.int pp), (.int n), (.int sg), (.int (13 : Int32)), (.int (13 : Int32)), (.ref bc)]))
  refine own_to (fun t k => XS.aload X475.here hx rfl (hb hby at_456) rfl rfl k) ?_
  obtain ⟨_, _, ⟨T477, L477, k477, n477⟩, -, X477, ⟨Lc477, hQ477, l477, y477, z477⟩, st477⟩ := Jvm.LawKit.callS X475 hx (y := (⟨"com/example/libxqtype/libxqtype/ExpressionLexerUnscaledValuePinLaw", "ch", "(IIIIJ[J)C"⟩ : MethodName)) hown (mvT hZ (own_W hw 22 rfl)) (mvT hZ (own_W hw 23 rfl)) (mvT hZ (own_W hw 24 rfl)) (mvT hZ (own_W hw 25 rfl)) (by decide) (own_back (W := 2) (own_chr l Z a0 hw [] (13 : Int32) sg n pp ww bp k367 S N P W 13 h475 n0 (Nat.le_trans zs472 (Keep.of_wr W475).1) Vp413_e475 HK rfl (by decide)) hZ (own_W hw 25 rfl) (own_W hw 24 rfl) (by decide) (by decide)) (g := (mkF m 458 #[.val (.long q1), .second, .val (.int p2), .val (.int p3), .val (.int p4), rv bp, .val (.long vv), .second, .val (.int n), .val (.int pp), .val (.int sg), .val (.long ww), .second, rv bc, .unset, .unset, .unset] [(.ref bp), (.long ww), (.int pp), (.int n), (.int sg), (.int (13 : Int32)), (.int (13 : Int32)), (.ref bc)])) rfl (by rw [hml]; rfl) (argsL := [(.int (13 : Int32)), (.int sg), (.int n), (.int pp), (.long ww), (.ref bp)]) (rest := [(.int (13 : Int32)), (.ref bc)]) (lenOf own_pd14 rfl) rfl (by show 2 * 0 + _ ≤ _; exact Nat.le_of_eq rfl) (hb hby at_458) (fun _ _ => ⟨rfl, e475, (by decide : 2 + 0 ≤ _), (by decide : 40 + 0 ≤ _)⟩)
  dsimp only [Pt.U, Pt.locs, Pt.cells, Pt.slots] at X477 l477 y477 z477 st477 hQ477
  rw [l477, y477, z477] at X477
  obtain ⟨rfl, N477q, eh477⟩ := hQ477
  have N477 := Fr.app N475 N477q
  refine own_to (fun t k => st477 t k) ?_
  show own_Fin _ _ _ _ _ _ (T477.setTop (mkF m 461 #[.val (.long q1), .second, .val (.int p2), .val (.int p3), .val (.int p4), rv bp, .val (.long vv), .second, .val (.int n), .val (.int pp), .val (.int sg), .val (.long ww), .second, rv bc, .unset, .unset, .unset] [(.int (own_ch (13 : Int32) sg n pp ww)), (.int (13 : Int32)), (.ref bc)]))
  obtain ⟨x13, ex13⟩ : ∃ z, z = (own_ch (13 : Int32) sg n pp ww) := ⟨_, rfl⟩
  rw [← ex13]
  have hB13 := own_chB HK (i := (13 : Int32)) (I := 13) rfl (by decide)
  rw [← ex13] at hB13
  show own_Fin _ _ _ _ _ _ (T477.setTop (mkF m 461 #[.val (.long q1), .second, .val (.int p2), .val (.int p3), .val (.int p4), rv bp, .val (.long vv), .second, .val (.int n), .val (.int pp), .val (.int sg), .val (.long ww), .second, rv bc, .unset, .unset, .unset] [(.int x13), (.int (13 : Int32)), (.ref bc)]))
  obtain ⟨cl478, Ar478, qa478, Sa478, Na478, Ha478, Ga478⟩ := id V475
  have hin479 : ¬ ((13 : Int32) < 0 ∨ cl478.slots.size ≤ ((13 : Int32)).toNatClampNeg) := inb_of Sa478 ⟨by decide, by decide⟩
  obtain ⟨T479, h479, X479, e479, W479, st479⟩ := stC X477 hx hZ eh477 Ar478 (j := (13 : Int32)) hin479 (g := (mkF m 461 #[.val (.long q1), .second, .val (.int p2), .val (.int p3), .val (.int p4), rv bp, .val (.long vv), .second, .val (.int n), .val (.int pp), .val (.int sg), .val (.long ww), .second, rv bc, .unset, .unset, .unset] [(.int x13), (.int (13 : Int32)), (.ref bc)])) rfl rfl (hb hby at_461)
  rw [own_nb hB13.1 hB13.2] at W479
  have N479 := Fr.snoc X479 N477 g_bc
  have O479 := O475.wr W479 g_bc
  have A367x_e479 := A367x_e475.wr W479
  have Vp413_e479 := Vp413_e475.other W479 ne_bp_bc
  have A417x_e479 := A417x_e475.wr W479
  have V479 : Arv Z h479 bc k417 .char (21 : Int32) [(.int x0), (.int x1), (.int x2), (.int x3), (.int x4), (.int x5), (.int x6), (.int x7), (.int x8), (.int x9), (.int x10), (.int x11), (.int x12), (.int x13), (.int (0 : Int32)), (.int (0 : Int32)), (.int (0 : Int32)), (.int (0 : Int32)), (.int (0 : Int32)), (.int (0 : Int32)), (.int (0 : Int32))] (.int (0 : Int32)) := Arv.set Ar478 qa478 Sa478 Na478 Ha478 Ga478 (own_fx hB13.1 hB13.2) W479 13 rfl (Nat.le_of_ble_eq_true rfl)
  refine own_to (fun t k => st479 t k) ?_
  show own_Fin _ _ _ _ _ _ (T479.setTop (mkF m 462 #[.val (.long q1), .second, .val (.int p2), .val (.int p3), .val (.int p4), rv bp, .val (.long vv), .second, .val (.int n), .val (.int pp), .val (.int sg), .val (.long ww), .second, rv bc, .unset, .unset, .unset] []))
  refine own_to (fun t k => XS.aload X479.here hx rfl (hb hby at_462) rfl rfl k) ?_
  refine own_to (fun t k => XS.bipush X479.here hx rfl (hb hby at_464) k) ?_
  show own_Fin _ _ _ _ _ _ (T479.setTop (mkF m 466 #[.val (.long q1), .second, .val (.int p2), .val (.int p3), .val (.int p4), rv bp, .val (.long vv), .second, .val (.int n), .val (.int pp), .val (.int sg), .val (.long ww), .second, rv bc, .unset, .unset, .unset] [(.int (14 : Int32)), (.ref bc)]))
  refine own_to (fun t k => XS.bipush X479.here hx rfl (hb hby at_466) k) ?_
  refine own_to (fun t k => XS.iload X479.here hx rfl (hb hby at_468) rfl k) ?_
  refine own_to (fun t k => XS.iload X479.here hx rfl (hb hby at_470) rfl k) ?_
  show own_Fin _ _ _ _ _ _ (T479.setTop (mkF m 472 #[.val (.long q1), .second, .val (.int p2), .val (.int p3), .val (.int p4), rv bp, .val (.long vv), .second, .val (.int n), .val (.int pp), .val (.int sg), .val (.long ww), .second, rv bc, .unset, .unset, .unset] [(.int n), (.int sg), (.int (14 : Int32)), (.int (14 : Int32)), (.ref bc)]))
  refine own_to (fun t k => XS.iload X479.here hx rfl (hb hby at_472) rfl k) ?_
  refine own_to (fun t k => XS.lload X479.here hx rfl (hb hby at_474) rfl k) ?_
  refine own_to (fun t k => XS.aload X479.here hx rfl (hb hby at_476) rfl rfl k) ?_
  show own_Fin _ _ _ _ _ _ (T479.setTop (mkF m 478 #[.val (.long q1), .second, .val (.int p2), .val (.int p3), .val (.int p4), rv bp, .val (.long vv), .second, .val (.int n), .val (.int pp), .val (.int sg), .val (.long ww), .second, rv bc, .unset, .unset, .unset] [(.ref bp), (.long ww), (.int pp), (.int n), (.int sg), (.int (14 : Int32)), (.int (14 : Int32)), (.ref bc)]))
  obtain ⟨_, _, ⟨T481, L481, k481, n481⟩, -, X481, ⟨Lc481, hQ481, l481, y481, z481⟩, st481⟩ := Jvm.LawKit.callS X479 hx (y := (⟨"com/example/libxqtype/libxqtype/ExpressionLexerUnscaledValuePinLaw", "ch", "(IIIIJ[J)C"⟩ : MethodName)) hown (mvT hZ (own_W hw 22 rfl)) (mvT hZ (own_W hw 23 rfl)) (mvT hZ (own_W hw 24 rfl)) (mvT hZ (own_W hw 25 rfl)) (by decide) (own_back (W := 2) (own_chr l Z a0 hw [] (14 : Int32) sg n pp ww bp k367 S N P W 14 h479 n0 (Nat.le_trans (Nat.le_trans zs472 (Keep.of_wr W475).1) (Keep.of_wr W479).1) Vp413_e479 HK rfl (by decide)) hZ (own_W hw 25 rfl) (own_W hw 24 rfl) (by decide) (by decide)) (g := (mkF m 478 #[.val (.long q1), .second, .val (.int p2), .val (.int p3), .val (.int p4), rv bp, .val (.long vv), .second, .val (.int n), .val (.int pp), .val (.int sg), .val (.long ww), .second, rv bc, .unset, .unset, .unset] [(.ref bp), (.long ww), (.int pp), (.int n), (.int sg), (.int (14 : Int32)), (.int (14 : Int32)), (.ref bc)])) rfl (by rw [hml]; rfl) (argsL := [(.int (14 : Int32)), (.int sg), (.int n), (.int pp), (.long ww), (.ref bp)]) (rest := [(.int (14 : Int32)), (.ref bc)]) (lenOf own_pd14 rfl) rfl (by show 2 * 0 + _ ≤ _; exact Nat.le_of_eq rfl) (hb hby at_478) (fun _ _ => ⟨rfl, e479, (by decide : 2 + 0 ≤ _), (by decide : 40 + 0 ≤ _)⟩)
  dsimp only [Pt.U, Pt.locs, Pt.cells, Pt.slots] at X481 l481 y481 z481 st481 hQ481
  rw [l481, y481, z481] at X481
  obtain ⟨rfl, N481q, eh481⟩ := hQ481
  have N481 := Fr.app N479 N481q
  refine own_to (fun t k => st481 t k) ?_
  show own_Fin _ _ _ _ _ _ (T481.setTop (mkF m 481 #[.val (.long q1), .second, .val (.int p2), .val (.int p3), .val (.int p4), rv bp, .val (.long vv), .second, .val (.int n), .val (.int pp), .val (.int sg), .val (.long ww), .second, rv bc, .unset, .unset, .unset] [(.int (own_ch (14 : Int32) sg n pp ww)), (.int (14 : Int32)), (.ref bc)]))
  obtain ⟨x14, ex14⟩ : ∃ z, z = (own_ch (14 : Int32) sg n pp ww) := ⟨_, rfl⟩
  rw [← ex14]
  have hB14 := own_chB HK (i := (14 : Int32)) (I := 14) rfl (by decide)
  rw [← ex14] at hB14
  show own_Fin _ _ _ _ _ _ (T481.setTop (mkF m 481 #[.val (.long q1), .second, .val (.int p2), .val (.int p3), .val (.int p4), rv bp, .val (.long vv), .second, .val (.int n), .val (.int pp), .val (.int sg), .val (.long ww), .second, rv bc, .unset, .unset, .unset] [(.int x14), (.int (14 : Int32)), (.ref bc)]))
  obtain ⟨cl482, Ar482, qa482, Sa482, Na482, Ha482, Ga482⟩ := id V479
  have hin483 : ¬ ((14 : Int32) < 0 ∨ cl482.slots.size ≤ ((14 : Int32)).toNatClampNeg) := inb_of Sa482 ⟨by decide, by decide⟩
  obtain ⟨T483, h483, X483, e483, W483, st483⟩ := stC X481 hx hZ eh481 Ar482 (j := (14 : Int32)) hin483 (g := (mkF m 481 #[.val (.long q1), .second, .val (.int p2), .val (.int p3), .val (.int p4), rv bp, .val (.long vv), .second, .val (.int n), .val (.int pp), .val (.int sg), .val (.long ww), .second, rv bc, .unset, .unset, .unset] [(.int x14), (.int (14 : Int32)), (.ref bc)])) rfl rfl (hb hby at_481)
  rw [own_nb hB14.1 hB14.2] at W483
  have N483 := Fr.snoc X483 N481 g_bc
  have O483 := O479.wr W483 g_bc
  have A367x_e483 := A367x_e479.wr W483
  have Vp413_e483 := Vp413_e479.other W483 ne_bp_bc
  have A417x_e483 := A417x_e479.wr W483
  have V483 : Arv Z h483 bc k417 .char (21 : Int32) [(.int x0), (.int x1), (.int x2), (.int x3), (.int x4), (.int x5), (.int x6), (.int x7), (.int x8), (.int x9), (.int x10), (.int x11), (.int x12), (.int x13), (.int x14), (.int (0 : Int32)), (.int (0 : Int32)), (.int (0 : Int32)), (.int (0 : Int32)), (.int (0 : Int32)), (.int (0 : Int32))] (.int (0 : Int32)) := Arv.set Ar482 qa482 Sa482 Na482 Ha482 Ga482 (own_fx hB14.1 hB14.2) W483 14 rfl (Nat.le_of_ble_eq_true rfl)
  refine own_to (fun t k => st483 t k) ?_
  show own_Fin _ _ _ _ _ _ (T483.setTop (mkF m 482 #[.val (.long q1), .second, .val (.int p2), .val (.int p3), .val (.int p4), rv bp, .val (.long vv), .second, .val (.int n), .val (.int pp), .val (.int sg), .val (.long ww), .second, rv bc, .unset, .unset, .unset] []))
  refine own_to (fun t k => XS.aload X483.here hx rfl (hb hby at_482) rfl rfl k) ?_
  refine own_to (fun t k => XS.bipush X483.here hx rfl (hb hby at_484) k) ?_
  refine own_to (fun t k => XS.bipush X483.here hx rfl (hb hby at_486) k) ?_
  show own_Fin _ _ _ _ _ _ (T483.setTop (mkF m 488 #[.val (.long q1), .second, .val (.int p2), .val (.int p3), .val (.int p4), rv bp, .val (.long vv), .second, .val (.int n), .val (.int pp), .val (.int sg), .val (.long ww), .second, rv bc, .unset, .unset, .unset] [(.int (15 : Int32)), (.int (15 : Int32)), (.ref bc)]))
  refine own_to (fun t k => XS.iload X483.here hx rfl (hb hby at_488) rfl k) ?_
  refine own_to (fun t k => XS.iload X483.here hx rfl (hb hby at_490) rfl k) ?_
  refine own_to (fun t k => XS.iload X483.here hx rfl (hb hby at_492) rfl k) ?_
  show own_Fin _ _ _ _ _ _ (T483.setTop (mkF m 494 #[.val (.long q1), .second, .val (.int p2), .val (.int p3), .val (.int p4), rv bp, .val (.long vv), .second, .val (.int n), .val (.int pp), .val (.int sg), .val (.long ww), .second, rv bc, .unset, .unset, .unset] [(.int pp), (.int n), (.int sg), (.int (15 : Int32)), (.int (15 : Int32)), (.ref bc)]))
  refine own_to (fun t k => XS.lload X483.here hx rfl (hb hby at_494) rfl k) ?_
  refine own_to (fun t k => XS.aload X483.here hx rfl (hb hby at_496) rfl rfl k) ?_
  have zs485 := (Nat.le_trans (Nat.le_trans (Nat.le_trans zs472 (Keep.of_wr W475).1) (Keep.of_wr W479).1) (Keep.of_wr W483).1)
  obtain ⟨_, _, ⟨T486, L486, k486, n486⟩, -, X486, ⟨Lc486, hQ486, l486, y486, z486⟩, st486⟩ := Jvm.LawKit.callS X483 hx (y := (⟨"com/example/libxqtype/libxqtype/ExpressionLexerUnscaledValuePinLaw", "ch", "(IIIIJ[J)C"⟩ : MethodName)) hown (mvT hZ (own_W hw 22 rfl)) (mvT hZ (own_W hw 23 rfl)) (mvT hZ (own_W hw 24 rfl)) (mvT hZ (own_W hw 25 rfl)) (by decide) (own_back (W := 2) (own_chr l Z a0 hw [] (15 : Int32) sg n pp ww bp k367 S N P W 15 h483 n0 zs485 Vp413_e483 HK rfl (by decide)) hZ (own_W hw 25 rfl) (own_W hw 24 rfl) (by decide) (by decide)) (g := (mkF m 498 #[.val (.long q1), .second, .val (.int p2), .val (.int p3), .val (.int p4), rv bp, .val (.long vv), .second, .val (.int n), .val (.int pp), .val (.int sg), .val (.long ww), .second, rv bc, .unset, .unset, .unset] [(.ref bp), (.long ww), (.int pp), (.int n), (.int sg), (.int (15 : Int32)), (.int (15 : Int32)), (.ref bc)])) rfl (by rw [hml]; rfl) (argsL := [(.int (15 : Int32)), (.int sg), (.int n), (.int pp), (.long ww), (.ref bp)]) (rest := [(.int (15 : Int32)), (.ref bc)]) (lenOf own_pd14 rfl) rfl (by show 2 * 0 + _ ≤ _; exact Nat.le_of_eq rfl) (hb hby at_498) (fun _ _ => ⟨rfl, e483, (by decide : 2 + 0 ≤ _), (by decide : 40 + 0 ≤ _)⟩)
  dsimp only [Pt.U, Pt.locs, Pt.cells, Pt.slots] at X486 l486 y486 z486 st486 hQ486
  rw [l486, y486, z486] at X486
  obtain ⟨rfl, N486q, eh486⟩ := hQ486
  have N486 := Fr.app N483 N486q
  refine own_to (fun t k => st486 t k) ?_
  show own_Fin _ _ _ _ _ _ (T486.setTop (mkF m 501 #[.val (.long q1), .second, .val (.int p2), .val (.int p3), .val (.int p4), rv bp, .val (.long vv), .second, .val (.int n), .val (.int pp), .val (.int sg), .val (.long ww), .second, rv bc, .unset, .unset, .unset] [(.int (own_ch (15 : Int32) sg n pp ww)), (.int (15 : Int32)), (.ref bc)]))
  obtain ⟨x15, ex15⟩ : ∃ z, z = (own_ch (15 : Int32) sg n pp ww) := ⟨_, rfl⟩
  rw [← ex15]
  have hB15 := own_chB HK (i := (15 : Int32)) (I := 15) rfl (by decide)
  rw [← ex15] at hB15
  show own_Fin _ _ _ _ _ _ (T486.setTop (mkF m 501 #[.val (.long q1), .second, .val (.int p2), .val (.int p3), .val (.int p4), rv bp, .val (.long vv), .second, .val (.int n), .val (.int pp), .val (.int sg), .val (.long ww), .second, rv bc, .unset, .unset, .unset] [(.int x15), (.int (15 : Int32)), (.ref bc)]))
  obtain ⟨cl487, Ar487, qa487, Sa487, Na487, Ha487, Ga487⟩ := id V483
  have hin488 : ¬ ((15 : Int32) < 0 ∨ cl487.slots.size ≤ ((15 : Int32)).toNatClampNeg) := inb_of Sa487 ⟨by decide, by decide⟩
  obtain ⟨T488, h488, X488, e488, W488, st488⟩ := stC X486 hx hZ eh486 Ar487 (j := (15 : Int32)) hin488 (g := (mkF m 501 #[.val (.long q1), .second, .val (.int p2), .val (.int p3), .val (.int p4), rv bp, .val (.long vv), .second, .val (.int n), .val (.int pp), .val (.int sg), .val (.long ww), .second, rv bc, .unset, .unset, .unset] [(.int x15), (.int (15 : Int32)), (.ref bc)])) rfl rfl (hb hby at_501)
  rw [own_nb hB15.1 hB15.2] at W488
  have N488 := Fr.snoc X488 N486 g_bc
  have O488 := O483.wr W488 g_bc
  have A367x_e488 := A367x_e483.wr W488
  have Vp413_e488 := Vp413_e483.other W488 ne_bp_bc
  have A417x_e488 := A417x_e483.wr W488
  have V488 : Arv Z h488 bc k417 .char (21 : Int32) [(.int x0), (.int x1), (.int x2), (.int x3), (.int x4), (.int x5), (.int x6), (.int x7), (.int x8), (.int x9), (.int x10), (.int x11), (.int x12), (.int x13), (.int x14), (.int x15), (.int (0 : Int32)), (.int (0 : Int32)), (.int (0 : Int32)), (.int (0 : Int32)), (.int (0 : Int32))] (.int (0 : Int32)) := Arv.set Ar487 qa487 Sa487 Na487 Ha487 Ga487 (own_fx hB15.1 hB15.2) W488 15 rfl (Nat.le_of_ble_eq_true rfl)
  refine own_to (fun t k => st488 t k) ?_
  show own_Fin _ _ _ _ _ _ (T488.setTop (mkF m 502 #[.val (.long q1), .second, .val (.int p2), .val (.int p3), .val (.int p4), rv bp, .val (.long vv), .second, .val (.int n), .val (.int pp), .val (.int sg), .val (.long ww), .second, rv bc, .unset, .unset, .unset] []))
  refine own_to (fun t k => XS.aload X488.here hx rfl (hb hby at_502) rfl rfl k) ?_
  show own_Fin _ _ _ _ _ _ (T488.setTop (mkF m 504 #[.val (.long q1), .second, .val (.int p2), .val (.int p3), .val (.int p4), rv bp, .val (.long vv), .second, .val (.int n), .val (.int pp), .val (.int sg), .val (.long ww), .second, rv bc, .unset, .unset, .unset] [(.ref bc)]))
  refine own_to (fun t k => XS.bipush X488.here hx rfl (hb hby at_504) k) ?_
  refine own_to (fun t k => XS.bipush X488.here hx rfl (hb hby at_506) k) ?_
  refine own_to (fun t k => XS.iload X488.here hx rfl (hb hby at_508) rfl k) ?_
  show own_Fin _ _ _ _ _ _ (T488.setTop (mkF m 510 #[.val (.long q1), .second, .val (.int p2), .val (.int p3), .val (.int p4), rv bp, .val (.long vv), .second, .val (.int n), .val (.int pp), .val (.int sg), .val (.long ww), .second, rv bc, .unset, .unset, .unset] [(.int sg), (.int (16 : Int32)), (.int (16 : Int32)), (.ref bc)]))
  refine own_to (fun t k => XS.iload X488.here hx rfl (hb hby at_510) rfl k) ?_
  refine own_to (fun t k => XS.iload X488.here hx rfl (hb hby at_512) rfl k) ?_
  refine own_to (fun t k => XS.lload X488.here hx rfl (hb hby at_514) rfl k) ?_
  show own_Fin _ _ _ _ _ _ (T488.setTop (mkF m 516 #[.val (.long q1), .second, .val (.int p2), .val (.int p3), .val (.int p4), rv bp, .val (.long vv), .second, .val (.int n), .val (.int pp), .val (.int sg), .val (.long ww), .second, rv bc, .unset, .unset, .unset] [(.long ww), (.int pp), (.int n), (.int sg), (.int (16 : Int32)), (.int (16 : Int32)), (.ref bc)]))
  refine own_to (fun t k => XS.aload X488.here hx rfl (hb hby at_516) rfl rfl k) ?_
  obtain ⟨_, _, ⟨T490, L490, k490, n490⟩, -, X490, ⟨Lc490, hQ490, l490, y490, z490⟩, st490⟩ := Jvm.LawKit.callS X488 hx (y := (⟨"com/example/libxqtype/libxqtype/ExpressionLexerUnscaledValuePinLaw", "ch", "(IIIIJ[J)C"⟩ : MethodName)) hown (mvT hZ (own_W hw 22 rfl)) (mvT hZ (own_W hw 23 rfl)) (mvT hZ (own_W hw 24 rfl)) (mvT hZ (own_W hw 25 rfl)) (by decide) (own_back (W := 2) (own_chr l Z a0 hw [] (16 : Int32) sg n pp ww bp k367 S N P W 16 h488 n0 (Nat.le_trans zs485 (Keep.of_wr W488).1) Vp413_e488 HK rfl (by decide)) hZ (own_W hw 25 rfl) (own_W hw 24 rfl) (by decide) (by decide)) (g := (mkF m 518 #[.val (.long q1), .second, .val (.int p2), .val (.int p3), .val (.int p4), rv bp, .val (.long vv), .second, .val (.int n), .val (.int pp), .val (.int sg), .val (.long ww), .second, rv bc, .unset, .unset, .unset] [(.ref bp), (.long ww), (.int pp), (.int n), (.int sg), (.int (16 : Int32)), (.int (16 : Int32)), (.ref bc)])) rfl (by rw [hml]; rfl) (argsL := [(.int (16 : Int32)), (.int sg), (.int n), (.int pp), (.long ww), (.ref bp)]) (rest := [(.int (16 : Int32)), (.ref bc)]) (lenOf own_pd14 rfl) rfl (by show 2 * 0 + _ ≤ _; exact Nat.le_of_eq rfl) (hb hby at_518) (fun _ _ => ⟨rfl, e488, (by decide : 2 + 0 ≤ _), (by decide : 40 + 0 ≤ _)⟩)
  dsimp only [Pt.U, Pt.locs, Pt.cells, Pt.slots] at X490 l490 y490 z490 st490 hQ490
  rw [l490, y490, z490] at X490
  obtain ⟨rfl, N490q, eh490⟩ := hQ490
  have N490 := Fr.app N488 N490q
  refine own_to (fun t k => st490 t k) ?_
  show own_Fin _ _ _ _ _ _ (T490.setTop (mkF m 521 #[.val (.long q1), .second, .val (.int p2), .val (.int p3), .val (.int p4), rv bp, .val (.long vv), .second, .val (.int n), .val (.int pp), .val (.int sg), .val (.long ww), .second, rv bc, .unset, .unset, .unset] [(.int (own_ch (16 : Int32) sg n pp ww)), (.int (16 : Int32)), (.ref bc)]))
  obtain ⟨x16, ex16⟩ : ∃ z, z = (own_ch (16 : Int32) sg n pp ww) := ⟨_, rfl⟩
  rw [← ex16]
  have hB16 := own_chB HK (i := (16 : Int32)) (I := 16) rfl (by decide)
  rw [← ex16] at hB16
  show own_Fin _ _ _ _ _ _ (T490.setTop (mkF m 521 #[.val (.long q1), .second, .val (.int p2), .val (.int p3), .val (.int p4), rv bp, .val (.long vv), .second, .val (.int n), .val (.int pp), .val (.int sg), .val (.long ww), .second, rv bc, .unset, .unset, .unset] [(.int x16), (.int (16 : Int32)), (.ref bc)]))
  obtain ⟨cl491, Ar491, qa491, Sa491, Na491, Ha491, Ga491⟩ := id V488
  have hin492 : ¬ ((16 : Int32) < 0 ∨ cl491.slots.size ≤ ((16 : Int32)).toNatClampNeg) := inb_of Sa491 ⟨by decide, by decide⟩
  obtain ⟨T492, h492, X492, e492, W492, st492⟩ := stC X490 hx hZ eh490 Ar491 (j := (16 : Int32)) hin492 (g := (mkF m 521 #[.val (.long q1), .second, .val (.int p2), .val (.int p3), .val (.int p4), rv bp, .val (.long vv), .second, .val (.int n), .val (.int pp), .val (.int sg), .val (.long ww), .second, rv bc, .unset, .unset, .unset] [(.int x16), (.int (16 : Int32)), (.ref bc)])) rfl rfl (hb hby at_521)
  rw [own_nb hB16.1 hB16.2] at W492
  have N492 := Fr.snoc X492 N490 g_bc
  have O492 := O488.wr W492 g_bc
  have A367x_e492 := A367x_e488.wr W492
  have Vp413_e492 := Vp413_e488.other W492 ne_bp_bc
  have A417x_e492 := A417x_e488.wr W492
  have V492 : Arv Z h492 bc k417 .char (21 : Int32) [(.int x0), (.int x1), (.int x2), (.int x3), (.int x4), (.int x5), (.int x6), (.int x7), (.int x8), (.int x9), (.int x10), (.int x11), (.int x12), (.int x13), (.int x14), (.int x15), (.int x16), (.int (0 : Int32)), (.int (0 : Int32)), (.int (0 : Int32)), (.int (0 : Int32))] (.int (0 : Int32)) := Arv.set Ar491 qa491 Sa491 Na491 Ha491 Ga491 (own_fx hB16.1 hB16.2) W492 16 rfl (Nat.le_of_ble_eq_true rfl)
  refine own_to (fun t k => st492 t k) ?_
  show own_Fin _ _ _ _ _ _ (T492.setTop (mkF m 522 #[.val (.long q1), .second, .val (.int p2), .val (.int p3), .val (.int p4), rv bp, .val (.long vv), .second, .val (.int n), .val (.int pp), .val (.int sg), .val (.long ww), .second, rv bc, .unset, .unset, .unset] []))
  refine own_to (fun t k => XS.aload X492.here hx rfl (hb hby at_522) rfl rfl k) ?_
  refine own_to (fun t k => XS.bipush X492.here hx rfl (hb hby at_524) k) ?_
  show own_Fin _ _ _ _ _ _ (T492.setTop (mkF m 526 #[.val (.long q1), .second, .val (.int p2), .val (.int p3), .val (.int p4), rv bp, .val (.long vv), .second, .val (.int n), .val (.int pp), .val (.int sg), .val (.long ww), .second, rv bc, .unset, .unset, .unset] [(.int (17 : Int32)), (.ref bc)]))
  refine own_to (fun t k => XS.bipush X492.here hx rfl (hb hby at_526) k) ?_
  refine own_to (fun t k => XS.iload X492.here hx rfl (hb hby at_528) rfl k) ?_
  refine own_to (fun t k => XS.iload X492.here hx rfl (hb hby at_530) rfl k) ?_
  show own_Fin _ _ _ _ _ _ (T492.setTop (mkF m 532 #[.val (.long q1), .second, .val (.int p2), .val (.int p3), .val (.int p4), rv bp, .val (.long vv), .second, .val (.int n), .val (.int pp), .val (.int sg), .val (.long ww), .second, rv bc, .unset, .unset, .unset] [(.int n), (.int sg), (.int (17 : Int32)), (.int (17 : Int32)), (.ref bc)]))
  refine own_to (fun t k => XS.iload X492.here hx rfl (hb hby at_532) rfl k) ?_
  refine own_to (fun t k => XS.lload X492.here hx rfl (hb hby at_534) rfl k) ?_
  refine own_to (fun t k => XS.aload X492.here hx rfl (hb hby at_536) rfl rfl k) ?_
  show own_Fin _ _ _ _ _ _ (T492.setTop (mkF m 538 #[.val (.long q1), .second, .val (.int p2), .val (.int p3), .val (.int p4), rv bp, .val (.long vv), .second, .val (.int n), .val (.int pp), .val (.int sg), .val (.long ww), .second, rv bc, .unset, .unset, .unset] [(.ref bp), (.long ww), (.int pp), (.int n), (.int sg), (.int (17 : Int32)), (.int (17 : Int32)), (.ref bc)]))
  obtain ⟨_, _, ⟨T494, L494, k494, n494⟩, -, X494, ⟨Lc494, hQ494, l494, y494, z494⟩, st494⟩ := Jvm.LawKit.callS X492 hx (y := (⟨"com/example/libxqtype/libxqtype/ExpressionLexerUnscaledValuePinLaw", "ch", "(IIIIJ[J)C"⟩ : MethodName)) hown (mvT hZ (own_W hw 22 rfl)) (mvT hZ (own_W hw 23 rfl)) (mvT hZ (own_W hw 24 rfl)) (mvT hZ (own_W hw 25 rfl)) (by decide) (own_back (W := 2) (own_chr l Z a0 hw [] (17 : Int32) sg n pp ww bp k367 S N P W 17 h492 n0 (Nat.le_trans (Nat.le_trans zs485 (Keep.of_wr W488).1) (Keep.of_wr W492).1) Vp413_e492 HK rfl (by decide)) hZ (own_W hw 25 rfl) (own_W hw 24 rfl) (by decide) (by decide)) (g := (mkF m 538 #[.val (.long q1), .second, .val (.int p2), .val (.int p3), .val (.int p4), rv bp, .val (.long vv), .second, .val (.int n), .val (.int pp), .val (.int sg), .val (.long ww), .second, rv bc, .unset, .unset, .unset] [(.ref bp), (.long ww), (.int pp), (.int n), (.int sg), (.int (17 : Int32)), (.int (17 : Int32)), (.ref bc)])) rfl (by rw [hml]; rfl) (argsL := [(.int (17 : Int32)), (.int sg), (.int n), (.int pp), (.long ww), (.ref bp)]) (rest := [(.int (17 : Int32)), (.ref bc)]) (lenOf own_pd14 rfl) rfl (by show 2 * 0 + _ ≤ _; exact Nat.le_of_eq rfl) (hb hby at_538) (fun _ _ => ⟨rfl, e492, (by decide : 2 + 0 ≤ _), (by decide : 40 + 0 ≤ _)⟩)
  dsimp only [Pt.U, Pt.locs, Pt.cells, Pt.slots] at X494 l494 y494 z494 st494 hQ494
  rw [l494, y494, z494] at X494
  obtain ⟨rfl, N494q, eh494⟩ := hQ494
  have N494 := Fr.app N492 N494q
  refine own_to (fun t k => st494 t k) ?_
  show own_Fin _ _ _ _ _ _ (T494.setTop (mkF m 541 #[.val (.long q1), .second, .val (.int p2), .val (.int p3), .val (.int p4), rv bp, .val (.long vv), .second, .val (.int n), .val (.int pp), .val (.int sg), .val (.long ww), .second, rv bc, .unset, .unset, .unset] [(.int (own_ch (17 : Int32) sg n pp ww)), (.int (17 : Int32)), (.ref bc)]))
  obtain ⟨x17, ex17⟩ : ∃ z, z = (own_ch (17 : Int32) sg n pp ww) := ⟨_, rfl⟩
  rw [← ex17]
  have hB17 := own_chB HK (i := (17 : Int32)) (I := 17) rfl (by decide)
  rw [← ex17] at hB17
  show own_Fin _ _ _ _ _ _ (T494.setTop (mkF m 541 #[.val (.long q1), .second, .val (.int p2), .val (.int p3), .val (.int p4), rv bp, .val (.long vv), .second, .val (.int n), .val (.int pp), .val (.int sg), .val (.long ww), .second, rv bc, .unset, .unset, .unset] [(.int x17), (.int (17 : Int32)), (.ref bc)]))
  obtain ⟨cl495, Ar495, qa495, Sa495, Na495, Ha495, Ga495⟩ := id V492
  have hin496 : ¬ ((17 : Int32) < 0 ∨ cl495.slots.size ≤ ((17 : Int32)).toNatClampNeg) := inb_of Sa495 ⟨by decide, by decide⟩
  obtain ⟨T496, h496, X496, e496, W496, st496⟩ := stC X494 hx hZ eh494 Ar495 (j := (17 : Int32)) hin496 (g := (mkF m 541 #[.val (.long q1), .second, .val (.int p2), .val (.int p3), .val (.int p4), rv bp, .val (.long vv), .second, .val (.int n), .val (.int pp), .val (.int sg), .val (.long ww), .second, rv bc, .unset, .unset, .unset] [(.int x17), (.int (17 : Int32)), (.ref bc)])) rfl rfl (hb hby at_541)
  rw [own_nb hB17.1 hB17.2] at W496
  have N496 := Fr.snoc X496 N494 g_bc
  have O496 := O492.wr W496 g_bc
  have A367x_e496 := A367x_e492.wr W496
  have Vp413_e496 := Vp413_e492.other W496 ne_bp_bc
  have A417x_e496 := A417x_e492.wr W496
  have V496 : Arv Z h496 bc k417 .char (21 : Int32) [(.int x0), (.int x1), (.int x2), (.int x3), (.int x4), (.int x5), (.int x6), (.int x7), (.int x8), (.int x9), (.int x10), (.int x11), (.int x12), (.int x13), (.int x14), (.int x15), (.int x16), (.int x17), (.int (0 : Int32)), (.int (0 : Int32)), (.int (0 : Int32))] (.int (0 : Int32)) := Arv.set Ar495 qa495 Sa495 Na495 Ha495 Ga495 (own_fx hB17.1 hB17.2) W496 17 rfl (Nat.le_of_ble_eq_true rfl)
  refine own_to (fun t k => st496 t k) ?_
  show own_Fin _ _ _ _ _ _ (T496.setTop (mkF m 542 #[.val (.long q1), .second, .val (.int p2), .val (.int p3), .val (.int p4), rv bp, .val (.long vv), .second, .val (.int n), .val (.int pp), .val (.int sg), .val (.long ww), .second, rv bc, .unset, .unset, .unset] []))
  refine own_to (fun t k => XS.aload X496.here hx rfl (hb hby at_542) rfl rfl k) ?_
  refine own_to (fun t k => XS.bipush X496.here hx rfl (hb hby at_544) k) ?_
  refine own_to (fun t k => XS.bipush X496.here hx rfl (hb hby at_546) k) ?_
  show own_Fin _ _ _ _ _ _ (T496.setTop (mkF m 548 #[.val (.long q1), .second, .val (.int p2), .val (.int p3), .val (.int p4), rv bp, .val (.long vv), .second, .val (.int n), .val (.int pp), .val (.int sg), .val (.long ww), .second, rv bc, .unset, .unset, .unset] [(.int (18 : Int32)), (.int (18 : Int32)), (.ref bc)]))
  refine own_to (fun t k => XS.iload X496.here hx rfl (hb hby at_548) rfl k) ?_
  refine own_to (fun t k => XS.iload X496.here hx rfl (hb hby at_550) rfl k) ?_
  refine own_to (fun t k => XS.iload X496.here hx rfl (hb hby at_552) rfl k) ?_
  show own_Fin _ _ _ _ _ _ (T496.setTop (mkF m 554 #[.val (.long q1), .second, .val (.int p2), .val (.int p3), .val (.int p4), rv bp, .val (.long vv), .second, .val (.int n), .val (.int pp), .val (.int sg), .val (.long ww), .second, rv bc, .unset, .unset, .unset] [(.int pp), (.int n), (.int sg), (.int (18 : Int32)), (.int (18 : Int32)), (.ref bc)]))
  refine own_to (fun t k => XS.lload X496.here hx rfl (hb hby at_554) rfl k) ?_
  refine own_to (fun t k => XS.aload X496.here hx rfl (hb hby at_556) rfl rfl k) ?_
  have zs498 := (Nat.le_trans (Nat.le_trans (Nat.le_trans zs485 (Keep.of_wr W488).1) (Keep.of_wr W492).1) (Keep.of_wr W496).1)
  obtain ⟨_, _, ⟨T499, L499, k499, n499⟩, -, X499, ⟨Lc499, hQ499, l499, y499, z499⟩, st499⟩ := Jvm.LawKit.callS X496 hx (y := (⟨"com/example/libxqtype/libxqtype/ExpressionLexerUnscaledValuePinLaw", "ch", "(IIIIJ[J)C"⟩ : MethodName)) hown (mvT hZ (own_W hw 22 rfl)) (mvT hZ (own_W hw 23 rfl)) (mvT hZ (own_W hw 24 rfl)) (mvT hZ (own_W hw 25 rfl)) (by decide) (own_back (W := 2) (own_chr l Z a0 hw [] (18 : Int32) sg n pp ww bp k367 S N P W 18 h496 n0 zs498 Vp413_e496 HK rfl (by decide)) hZ (own_W hw 25 rfl) (own_W hw 24 rfl) (by decide) (by decide)) (g := (mkF m 558 #[.val (.long q1), .second, .val (.int p2), .val (.int p3), .val (.int p4), rv bp, .val (.long vv), .second, .val (.int n), .val (.int pp), .val (.int sg), .val (.long ww), .second, rv bc, .unset, .unset, .unset] [(.ref bp), (.long ww), (.int pp), (.int n), (.int sg), (.int (18 : Int32)), (.int (18 : Int32)), (.ref bc)])) rfl (by rw [hml]; rfl) (argsL := [(.int (18 : Int32)), (.int sg), (.int n), (.int pp), (.long ww), (.ref bp)]) (rest := [(.int (18 : Int32)), (.ref bc)]) (lenOf own_pd14 rfl) rfl (by show 2 * 0 + _ ≤ _; exact Nat.le_of_eq rfl) (hb hby at_558) (fun _ _ => ⟨rfl, e496, (by decide : 2 + 0 ≤ _), (by decide : 40 + 0 ≤ _)⟩)
  dsimp only [Pt.U, Pt.locs, Pt.cells, Pt.slots] at X499 l499 y499 z499 st499 hQ499
  rw [l499, y499, z499] at X499
  obtain ⟨rfl, N499q, eh499⟩ := hQ499
  have N499 := Fr.app N496 N499q
  refine own_to (fun t k => st499 t k) ?_
  show own_Fin _ _ _ _ _ _ (T499.setTop (mkF m 561 #[.val (.long q1), .second, .val (.int p2), .val (.int p3), .val (.int p4), rv bp, .val (.long vv), .second, .val (.int n), .val (.int pp), .val (.int sg), .val (.long ww), .second, rv bc, .unset, .unset, .unset] [(.int (own_ch (18 : Int32) sg n pp ww)), (.int (18 : Int32)), (.ref bc)]))
  obtain ⟨x18, ex18⟩ : ∃ z, z = (own_ch (18 : Int32) sg n pp ww) := ⟨_, rfl⟩
  rw [← ex18]
  have hB18 := own_chB HK (i := (18 : Int32)) (I := 18) rfl (by decide)
  rw [← ex18] at hB18
  show own_Fin _ _ _ _ _ _ (T499.setTop (mkF m 561 #[.val (.long q1), .second, .val (.int p2), .val (.int p3), .val (.int p4), rv bp, .val (.long vv), .second, .val (.int n), .val (.int pp), .val (.int sg), .val (.long ww), .second, rv bc, .unset, .unset, .unset] [(.int x18), (.int (18 : Int32)), (.ref bc)]))
  obtain ⟨cl500, Ar500, qa500, Sa500, Na500, Ha500, Ga500⟩ := id V496
  have hin501 : ¬ ((18 : Int32) < 0 ∨ cl500.slots.size ≤ ((18 : Int32)).toNatClampNeg) := inb_of Sa500 ⟨by decide, by decide⟩
  obtain ⟨T501, h501, X501, e501, W501, st501⟩ := stC X499 hx hZ eh499 Ar500 (j := (18 : Int32)) hin501 (g := (mkF m 561 #[.val (.long q1), .second, .val (.int p2), .val (.int p3), .val (.int p4), rv bp, .val (.long vv), .second, .val (.int n), .val (.int pp), .val (.int sg), .val (.long ww), .second, rv bc, .unset, .unset, .unset] [(.int x18), (.int (18 : Int32)), (.ref bc)])) rfl rfl (hb hby at_561)
  rw [own_nb hB18.1 hB18.2] at W501
  have N501 := Fr.snoc X501 N499 g_bc
  have O501 := O496.wr W501 g_bc
  have A367x_e501 := A367x_e496.wr W501
  have Vp413_e501 := Vp413_e496.other W501 ne_bp_bc
  have A417x_e501 := A417x_e496.wr W501
  have V501 : Arv Z h501 bc k417 .char (21 : Int32) [(.int x0), (.int x1), (.int x2), (.int x3), (.int x4), (.int x5), (.int x6), (.int x7), (.int x8), (.int x9), (.int x10), (.int x11), (.int x12), (.int x13), (.int x14), (.int x15), (.int x16), (.int x17), (.int x18), (.int (0 : Int32)), (.int (0 : Int32))] (.int (0 : Int32)) := Arv.set Ar500 qa500 Sa500 Na500 Ha500 Ga500 (own_fx hB18.1 hB18.2) W501 18 rfl (Nat.le_of_ble_eq_true rfl)
  refine own_to (fun t k => st501 t k) ?_
  show own_Fin _ _ _ _ _ _ (T501.setTop (mkF m 562 #[.val (.long q1), .second, .val (.int p2), .val (.int p3), .val (.int p4), rv bp, .val (.long vv), .second, .val (.int n), .val (.int pp), .val (.int sg), .val (.long ww), .second, rv bc, .unset, .unset, .unset] []))
  refine own_to (fun t k => XS.aload X501.here hx rfl (hb hby at_562) rfl rfl k) ?_
  show own_Fin _ _ _ _ _ _ (T501.setTop (mkF m 564 #[.val (.long q1), .second, .val (.int p2), .val (.int p3), .val (.int p4), rv bp, .val (.long vv), .second, .val (.int n), .val (.int pp), .val (.int sg), .val (.long ww), .second, rv bc, .unset, .unset, .unset] [(.ref bc)]))
  refine own_to (fun t k => XS.bipush X501.here hx rfl (hb hby at_564) k) ?_
  refine own_to (fun t k => XS.bipush X501.here hx rfl (hb hby at_566) k) ?_
  refine own_to (fun t k => XS.iload X501.here hx rfl (hb hby at_568) rfl k) ?_
  show own_Fin _ _ _ _ _ _ (T501.setTop (mkF m 570 #[.val (.long q1), .second, .val (.int p2), .val (.int p3), .val (.int p4), rv bp, .val (.long vv), .second, .val (.int n), .val (.int pp), .val (.int sg), .val (.long ww), .second, rv bc, .unset, .unset, .unset] [(.int sg), (.int (19 : Int32)), (.int (19 : Int32)), (.ref bc)]))
  refine own_to (fun t k => XS.iload X501.here hx rfl (hb hby at_570) rfl k) ?_
  refine own_to (fun t k => XS.iload X501.here hx rfl (hb hby at_572) rfl k) ?_
  refine own_to (fun t k => XS.lload X501.here hx rfl (hb hby at_574) rfl k) ?_
  show own_Fin _ _ _ _ _ _ (T501.setTop (mkF m 576 #[.val (.long q1), .second, .val (.int p2), .val (.int p3), .val (.int p4), rv bp, .val (.long vv), .second, .val (.int n), .val (.int pp), .val (.int sg), .val (.long ww), .second, rv bc, .unset, .unset, .unset] [(.long ww), (.int pp), (.int n), (.int sg), (.int (19 : Int32)), (.int (19 : Int32)), (.ref bc)]))
  refine own_to (fun t k => XS.aload X501.here hx rfl (hb hby at_576) rfl rfl k) ?_
  obtain ⟨_, _, ⟨T503, L503, k503, n503⟩, -, X503, ⟨Lc503, hQ503, l503, y503, z503⟩, st503⟩ := Jvm.LawKit.callS X501 hx (y := (⟨"com/example/libxqtype/libxqtype/ExpressionLexerUnscaledValuePinLaw", "ch", "(IIIIJ[J)C"⟩ : MethodName)) hown (mvT hZ (own_W hw 22 rfl)) (mvT hZ (own_W hw 23 rfl)) (mvT hZ (own_W hw 24 rfl)) (mvT hZ (own_W hw 25 rfl)) (by decide) (own_back (W := 2) (own_chr l Z a0 hw [] (19 : Int32) sg n pp ww bp k367 S N P W 19 h501 n0 (Nat.le_trans zs498 (Keep.of_wr W501).1) Vp413_e501 HK rfl (by decide)) hZ (own_W hw 25 rfl) (own_W hw 24 rfl) (by decide) (by decide)) (g := (mkF m 578 #[.val (.long q1), .second, .val (.int p2), .val (.int p3), .val (.int p4), rv bp, .val (.long vv), .second, .val (.int n), .val (.int pp), .val (.int sg), .val (.long ww), .second, rv bc, .unset, .unset, .unset] [(.ref bp), (.long ww), (.int pp), (.int n), (.int sg), (.int (19 : Int32)), (.int (19 : Int32)), (.ref bc)])) rfl (by rw [hml]; rfl) (argsL := [(.int (19 : Int32)), (.int sg), (.int n), (.int pp), (.long ww), (.ref bp)]) (rest := [(.int (19 : Int32)), (.ref bc)]) (lenOf own_pd14 rfl) rfl (by show 2 * 0 + _ ≤ _; exact Nat.le_of_eq rfl) (hb hby at_578) (fun _ _ => ⟨rfl, e501, (by decide : 2 + 0 ≤ _), (by decide : 40 + 0 ≤ _)⟩)
  dsimp only [Pt.U, Pt.locs, Pt.cells, Pt.slots] at X503 l503 y503 z503 st503 hQ503
  rw [l503, y503, z503] at X503
  obtain ⟨rfl, N503q, eh503⟩ := hQ503
  have N503 := Fr.app N501 N503q
  refine own_to (fun t k => st503 t k) ?_
  show own_Fin _ _ _ _ _ _ (T503.setTop (mkF m 581 #[.val (.long q1), .second, .val (.int p2), .val (.int p3), .val (.int p4), rv bp, .val (.long vv), .second, .val (.int n), .val (.int pp), .val (.int sg), .val (.long ww), .second, rv bc, .unset, .unset, .unset] [(.int (own_ch (19 : Int32) sg n pp ww)), (.int (19 : Int32)), (.ref bc)]))
  obtain ⟨x19, ex19⟩ : ∃ z, z = (own_ch (19 : Int32) sg n pp ww) := ⟨_, rfl⟩
  rw [← ex19]
  have hB19 := own_chB HK (i := (19 : Int32)) (I := 19) rfl (by decide)
  rw [← ex19] at hB19
  show own_Fin _ _ _ _ _ _ (T503.setTop (mkF m 581 #[.val (.long q1), .second, .val (.int p2), .val (.int p3), .val (.int p4), rv bp, .val (.long vv), .second, .val (.int n), .val (.int pp), .val (.int sg), .val (.long ww), .second, rv bc, .unset, .unset, .unset] [(.int x19), (.int (19 : Int32)), (.ref bc)]))
  obtain ⟨cl504, Ar504, qa504, Sa504, Na504, Ha504, Ga504⟩ := id V501
  have hin505 : ¬ ((19 : Int32) < 0 ∨ cl504.slots.size ≤ ((19 : Int32)).toNatClampNeg) := inb_of Sa504 ⟨by decide, by decide⟩
  obtain ⟨T505, h505, X505, e505, W505, st505⟩ := stC X503 hx hZ eh503 Ar504 (j := (19 : Int32)) hin505 (g := (mkF m 581 #[.val (.long q1), .second, .val (.int p2), .val (.int p3), .val (.int p4), rv bp, .val (.long vv), .second, .val (.int n), .val (.int pp), .val (.int sg), .val (.long ww), .second, rv bc, .unset, .unset, .unset] [(.int x19), (.int (19 : Int32)), (.ref bc)])) rfl rfl (hb hby at_581)
  rw [own_nb hB19.1 hB19.2] at W505
  have N505 := Fr.snoc X505 N503 g_bc
  have O505 := O501.wr W505 g_bc
  have A367x_e505 := A367x_e501.wr W505
  have Vp413_e505 := Vp413_e501.other W505 ne_bp_bc
  have A417x_e505 := A417x_e501.wr W505
  have V505 : Arv Z h505 bc k417 .char (21 : Int32) [(.int x0), (.int x1), (.int x2), (.int x3), (.int x4), (.int x5), (.int x6), (.int x7), (.int x8), (.int x9), (.int x10), (.int x11), (.int x12), (.int x13), (.int x14), (.int x15), (.int x16), (.int x17), (.int x18), (.int x19), (.int (0 : Int32))] (.int (0 : Int32)) := Arv.set Ar504 qa504 Sa504 Na504 Ha504 Ga504 (own_fx hB19.1 hB19.2) W505 19 rfl (Nat.le_of_ble_eq_true rfl)
  refine own_to (fun t k => st505 t k) ?_
  show own_Fin _ _ _ _ _ _ (T505.setTop (mkF m 582 #[.val (.long q1), .second, .val (.int p2), .val (.int p3), .val (.int p4), rv bp, .val (.long vv), .second, .val (.int n), .val (.int pp), .val (.int sg), .val (.long ww), .second, rv bc, .unset, .unset, .unset] []))
  refine own_to (fun t k => XS.aload X505.here hx rfl (hb hby at_582) rfl rfl k) ?_
  refine own_to (fun t k => XS.bipush X505.here hx rfl (hb hby at_584) k) ?_
  show own_Fin _ _ _ _ _ _ (T505.setTop (mkF m 586 #[.val (.long q1), .second, .val (.int p2), .val (.int p3), .val (.int p4), rv bp, .val (.long vv), .second, .val (.int n), .val (.int pp), .val (.int sg), .val (.long ww), .second, rv bc, .unset, .unset, .unset] [(.int (20 : Int32)), (.ref bc)]))
  refine own_to (fun t k => XS.bipush X505.here hx rfl (hb hby at_586) k) ?_
  refine own_to (fun t k => XS.iload X505.here hx rfl (hb hby at_588) rfl k) ?_
  refine own_to (fun t k => XS.iload X505.here hx rfl (hb hby at_590) rfl k) ?_
  show own_Fin _ _ _ _ _ _ (T505.setTop (mkF m 592 #[.val (.long q1), .second, .val (.int p2), .val (.int p3), .val (.int p4), rv bp, .val (.long vv), .second, .val (.int n), .val (.int pp), .val (.int sg), .val (.long ww), .second, rv bc, .unset, .unset, .unset] [(.int n), (.int sg), (.int (20 : Int32)), (.int (20 : Int32)), (.ref bc)]))
  refine own_to (fun t k => XS.iload X505.here hx rfl (hb hby at_592) rfl k) ?_
  refine own_to (fun t k => XS.lload X505.here hx rfl (hb hby at_594) rfl k) ?_
  refine own_to (fun t k => XS.aload X505.here hx rfl (hb hby at_596) rfl rfl k) ?_
  show own_Fin _ _ _ _ _ _ (T505.setTop (mkF m 598 #[.val (.long q1), .second, .val (.int p2), .val (.int p3), .val (.int p4), rv bp, .val (.long vv), .second, .val (.int n), .val (.int pp), .val (.int sg), .val (.long ww), .second, rv bc, .unset, .unset, .unset] [(.ref bp), (.long ww), (.int pp), (.int n), (.int sg), (.int (20 : Int32)), (.int (20 : Int32)), (.ref bc)]))
  obtain ⟨_, _, ⟨T507, L507, k507, n507⟩, -, X507, ⟨Lc507, hQ507, l507, y507, z507⟩, st507⟩ := Jvm.LawKit.callS X505 hx (y := (⟨"com/example/libxqtype/libxqtype/ExpressionLexerUnscaledValuePinLaw", "ch", "(IIIIJ[J)C"⟩ : MethodName)) hown (mvT hZ (own_W hw 22 rfl)) (mvT hZ (own_W hw 23 rfl)) (mvT hZ (own_W hw 24 rfl)) (mvT hZ (own_W hw 25 rfl)) (by decide) (own_back (W := 2) (own_chr l Z a0 hw [] (20 : Int32) sg n pp ww bp k367 S N P W 20 h505 n0 (Nat.le_trans (Nat.le_trans zs498 (Keep.of_wr W501).1) (Keep.of_wr W505).1) Vp413_e505 HK rfl (by decide)) hZ (own_W hw 25 rfl) (own_W hw 24 rfl) (by decide) (by decide)) (g := (mkF m 598 #[.val (.long q1), .second, .val (.int p2), .val (.int p3), .val (.int p4), rv bp, .val (.long vv), .second, .val (.int n), .val (.int pp), .val (.int sg), .val (.long ww), .second, rv bc, .unset, .unset, .unset] [(.ref bp), (.long ww), (.int pp), (.int n), (.int sg), (.int (20 : Int32)), (.int (20 : Int32)), (.ref bc)])) rfl (by rw [hml]; rfl) (argsL := [(.int (20 : Int32)), (.int sg), (.int n), (.int pp), (.long ww), (.ref bp)]) (rest := [(.int (20 : Int32)), (.ref bc)]) (lenOf own_pd14 rfl) rfl (by show 2 * 0 + _ ≤ _; exact Nat.le_of_eq rfl) (hb hby at_598) (fun _ _ => ⟨rfl, e505, (by decide : 2 + 0 ≤ _), (by decide : 40 + 0 ≤ _)⟩)
  dsimp only [Pt.U, Pt.locs, Pt.cells, Pt.slots] at X507 l507 y507 z507 st507 hQ507
  rw [l507, y507, z507] at X507
  obtain ⟨rfl, N507q, eh507⟩ := hQ507
  have N507 := Fr.app N505 N507q
  refine own_to (fun t k => st507 t k) ?_
  show own_Fin _ _ _ _ _ _ (T507.setTop (mkF m 601 #[.val (.long q1), .second, .val (.int p2), .val (.int p3), .val (.int p4), rv bp, .val (.long vv), .second, .val (.int n), .val (.int pp), .val (.int sg), .val (.long ww), .second, rv bc, .unset, .unset, .unset] [(.int (own_ch (20 : Int32) sg n pp ww)), (.int (20 : Int32)), (.ref bc)]))
  obtain ⟨x20, ex20⟩ : ∃ z, z = (own_ch (20 : Int32) sg n pp ww) := ⟨_, rfl⟩
  rw [← ex20]
  have hB20 := own_chB HK (i := (20 : Int32)) (I := 20) rfl (by decide)
  rw [← ex20] at hB20
  show own_Fin _ _ _ _ _ _ (T507.setTop (mkF m 601 #[.val (.long q1), .second, .val (.int p2), .val (.int p3), .val (.int p4), rv bp, .val (.long vv), .second, .val (.int n), .val (.int pp), .val (.int sg), .val (.long ww), .second, rv bc, .unset, .unset, .unset] [(.int x20), (.int (20 : Int32)), (.ref bc)]))
  obtain ⟨cl508, Ar508, qa508, Sa508, Na508, Ha508, Ga508⟩ := id V505
  have hin509 : ¬ ((20 : Int32) < 0 ∨ cl508.slots.size ≤ ((20 : Int32)).toNatClampNeg) := inb_of Sa508 ⟨by decide, by decide⟩
  obtain ⟨T509, h509, X509, e509, W509, st509⟩ := stC X507 hx hZ eh507 Ar508 (j := (20 : Int32)) hin509 (g := (mkF m 601 #[.val (.long q1), .second, .val (.int p2), .val (.int p3), .val (.int p4), rv bp, .val (.long vv), .second, .val (.int n), .val (.int pp), .val (.int sg), .val (.long ww), .second, rv bc, .unset, .unset, .unset] [(.int x20), (.int (20 : Int32)), (.ref bc)])) rfl rfl (hb hby at_601)
  rw [own_nb hB20.1 hB20.2] at W509
  have N509 := Fr.snoc X509 N507 g_bc
  have O509 := O505.wr W509 g_bc
  have A367x_e509 := A367x_e505.wr W509
  have Vp413_e509 := Vp413_e505.other W509 ne_bp_bc
  have A417x_e509 := A417x_e505.wr W509
  have V509 : Arv Z h509 bc k417 .char (21 : Int32) [(.int x0), (.int x1), (.int x2), (.int x3), (.int x4), (.int x5), (.int x6), (.int x7), (.int x8), (.int x9), (.int x10), (.int x11), (.int x12), (.int x13), (.int x14), (.int x15), (.int x16), (.int x17), (.int x18), (.int x19), (.int x20)] (.int (0 : Int32)) := Arv.set Ar508 qa508 Sa508 Na508 Ha508 Ga508 (own_fx hB20.1 hB20.2) W509 20 rfl (Nat.le_of_ble_eq_true rfl)
  refine own_to (fun t k => st509 t k) ?_
  show own_Fin _ _ _ _ _ _ (T509.setTop (mkF m 602 #[.val (.long q1), .second, .val (.int p2), .val (.int p3), .val (.int p4), rv bp, .val (.long vv), .second, .val (.int n), .val (.int pp), .val (.int sg), .val (.long ww), .second, rv bc, .unset, .unset, .unset] []))
  obtain ⟨T510, h510, X510, e510, E510, A510, D510, U510, st510⟩ := newO X509 hx hZ hown (own_W hw 26 rfl) (own_W hw 27 rfl) (own_W hw 28 rfl) e509 (g := (mkF m 602 #[.val (.long q1), .second, .val (.int p2), .val (.int p3), .val (.int p4), rv bp, .val (.long vv), .second, .val (.int n), .val (.int pp), .val (.int sg), .val (.long ww), .second, rv bc, .unset, .unset, .unset] [])) rfl (hb hby at_602) (by decide) (by decide)
  obtain ⟨b510, q510⟩ : ∃ z, z = h509.size := ⟨_, rfl⟩
  rw [← q510] at A510 D510 U510 st510
  have ne_bp_b510 : bp ≠ b510 := Nat.ne_of_lt (Nat.lt_of_lt_of_le A367x_e509.lt (Nat.le_of_eq q510.symm))
  have ne_bc_b510 : bc ≠ b510 := Nat.ne_of_lt (Nat.lt_of_lt_of_le A417x_e509.lt (Nat.le_of_eq q510.symm))
  have zs511 := (Nat.le_trans (Nat.le_trans (Nat.le_trans zs498 (Keep.of_wr W501).1) (Keep.of_wr W505).1) (Keep.of_wr W509).1)
  have g_b510 : n0 ≤ b510 := Nat.le_trans zs511 (Nat.le_of_eq q510.symm)
  have O510 := O509.ext E510
  have A367x_e510 := A367x_e509.ext E510
  have Vp413_e510 := Vp413_e509.ext E510
  have A417x_e510 := A417x_e509.ext E510
  have V509_e510 := V509.ext E510
  have FnampersandSearchedFrom_510 : Fld Z h510 b510 "com/example/libxqtype/libxqtype/ExpressionLexer" "ampersandSearchedFrom" "I" (.int (0 : Int32)) := D510 (Or.inl (own_W hw 64 rfl)) (ty := .int) (by decide)
  have Fntext_510 : Fld Z h510 b510 "com/example/libxqtype/libxqtype/ExpressionLexer" "text" "Ljava/lang/String;" .null := D510 (Or.inr (own_W hw 66 rfl)) (ty := (.object "java/lang/String")) (by decide)
  have Fnchars_510 : Fld Z h510 b510 "com/example/libxqtype/libxqtype/ExpressionLexer" "chars" "[C" .null := D510 (Or.inr (own_W hw 85 rfl)) (ty := (.array .char)) (by decide)
  have Fnspelling_510 : Fld Z h510 b510 "com/example/libxqtype/libxqtype/ExpressionLexer" "spelling" "Ljava/lang/String;" .null := D510 (Or.inl (own_W hw 91 rfl)) (ty := (.object "java/lang/String")) (by decide)
  have Fnkeyword_510 : Fld Z h510 b510 "com/example/libxqtype/libxqtype/ExpressionLexer" "keyword" "Lcom/example/libxqtype/libxqtype/ExpressionLexer$Keyword;" .null := D510 (Or.inl (own_W hw 93 rfl)) (ty := (.object "com/example/libxqtype/libxqtype/ExpressionLexer$Keyword")) (by decide)
  have Fnstart_510 : Fld Z h510 b510 "com/example/libxqtype/libxqtype/ExpressionLexer" "start" "I" (.int (0 : Int32)) := D510 (Or.inl (own_W hw 99 rfl)) (ty := .int) (by decide)
  have Fnkind_510 : Fld Z h510 b510 "com/example/libxqtype/libxqtype/ExpressionLexer" "kind" "Lcom/example/libxqtype/libxqtype/ExpressionLexer$Kind;" .null := D510 (Or.inl (own_W hw 115 rfl)) (ty := (.object "com/example/libxqtype/libxqtype/ExpressionLexer$Kind")) (by decide)
  have Fnend_510 : Fld Z h510 b510 "com/example/libxqtype/libxqtype/ExpressionLexer" "end" "I" (.int (0 : Int32)) := D510 (Or.inl (own_W hw 123 rfl)) (ty := .int) (by decide)
  refine own_to (fun t k => st510 t k) ?_
  show own_Fin _ _ _ _ _ _ (T510.setTop (mkF m 605 #[.val (.long q1), .second, .val (.int p2), .val (.int p3), .val (.int p4), rv bp, .val (.long vv), .second, .val (.int n), .val (.int pp), .val (.int sg), .val (.long ww), .second, rv bc, .unset, .unset, .unset] [(.ref b510)]))
  refine own_to (fun t k => XS.dup X510.here hx rfl (hb hby at_605) rfl rfl k) ?_
  obtain ⟨T512, h512, X512, e512, E512, A512, D512, U512, st512⟩ := newO X510 hx hZ hown (own_W hw 29 rfl) (own_W hw 30 rfl) (own_W hw 31 rfl) e510 (g := (mkF m 606 #[.val (.long q1), .second, .val (.int p2), .val (.int p3), .val (.int p4), rv bp, .val (.long vv), .second, .val (.int n), .val (.int pp), .val (.int sg), .val (.long ww), .second, rv bc, .unset, .unset, .unset] [(.ref b510), (.ref b510)])) rfl (hb hby at_606) (by decide) (by decide)
  obtain ⟨b512, q512⟩ : ∃ z, z = h510.size := ⟨_, rfl⟩
  rw [← q512] at A512 D512 U512 st512
  have ne_bp_b512 : bp ≠ b512 := Nat.ne_of_lt (Nat.lt_of_lt_of_le A367x_e510.lt (Nat.le_of_eq q512.symm))
  have ne_bc_b512 : bc ≠ b512 := Nat.ne_of_lt (Nat.lt_of_lt_of_le A417x_e510.lt (Nat.le_of_eq q512.symm))
  have ne_b510_b512 : b510 ≠ b512 := Nat.ne_of_lt (Nat.lt_of_lt_of_le A510.lt (Nat.le_of_eq q512.symm))
  have g_b512 : n0 ≤ b512 := Nat.le_trans (Nat.le_trans zs511 E510.1) (Nat.le_of_eq q512.symm)
  have O512 := O510.ext E512
  have A367x_e512 := A367x_e510.ext E512
  have Vp413_e512 := Vp413_e510.ext E512
  have A417x_e512 := A417x_e510.ext E512
  have V509_e512 := V509_e510.ext E512
  have A510_e512 := A510.ext E512
  have FnampersandSearchedFrom_510_e512 := FnampersandSearchedFrom_510.ext E512
  have Fntext_510_e512 := Fntext_510.ext E512
  have Fnchars_510_e512 := Fnchars_510.ext E512
  have Fnspelling_510_e512 := Fnspelling_510.ext E512
  have Fnkeyword_510_e512 := Fnkeyword_510.ext E512
  have Fnstart_510_e512 := Fnstart_510.ext E512
  have Fnkind_510_e512 := Fnkind_510.ext E512
  have Fnend_510_e512 := Fnend_510.ext E512
  have Fncoder_512 : Fld Z h512 b512 "java/lang/String" "coder" "B" (.int (0 : Int32)) := D512 (Or.inr (own_W hw 55 rfl)) (ty := .byte) (by decide)
  have Fnvalue_512 : Fld Z h512 b512 "java/lang/String" "value" "[B" .null := D512 (Or.inr (own_W hw 57 rfl)) (ty := (.array .byte)) (by decide)
  refine own_to (fun t k => st512 t k) ?_
  show own_Fin _ _ _ _ _ _ (T512.setTop (mkF m 609 #[.val (.long q1), .second, .val (.int p2), .val (.int p3), .val (.int p4), rv bp, .val (.long vv), .second, .val (.int n), .val (.int pp), .val (.int sg), .val (.long ww), .second, rv bc, .unset, .unset, .unset] [(.ref b512), (.ref b510), (.ref b510)]))
  refine own_to (fun t k => XS.dup X512.here hx rfl (hb hby at_609) rfl rfl k) ?_
  refine own_to (fun t k => XS.aload X512.here hx rfl (hb hby at_610) rfl rfl k) ?_
  show own_Fin _ _ _ _ _ _ (T512.setTop (mkF m 612 #[.val (.long q1), .second, .val (.int p2), .val (.int p3), .val (.int p4), rv bp, .val (.long vv), .second, .val (.int n), .val (.int pp), .val (.int sg), .val (.long ww), .second, rv bc, .unset, .unset, .unset] [(.ref bc), (.ref b512), (.ref b512), (.ref b510), (.ref b510)]))
  obtain ⟨_, _, ⟨T513, L513, k513, n513⟩, -, X513, ⟨Lc513, hQ513, l513, y513, z513⟩, st513⟩ := X512.specialBack hx (y := (⟨"java/lang/String", "<init>", "([C)V"⟩ : MethodName)) rfl hown (mvT hZ (own_W hw 32 rfl)) (mvT hZ (own_W hw 33 rfl)) (mvT hZ (own_W hw 34 rfl)) (by decide) (own_back (W := 3) (own_init l Z a0 hw [] cs b512 bc k417 x0 x1 x2 x3 x4 x5 x6 x7 x8 x9 x10 x11 x12 x13 x14 x15 x16 x17 x18 x19 x20 h512 n0 (Nat.le_trans (Nat.le_trans zs511 E510.1) E512.1) O512 SS hcs A512 Fnvalue_512 Fncoder_512 g_b512 V509_e512 (Ne.symm ne_bc_b512) hB0.2 hB1.2 hB2.2 hB3.2 hB4.2 hB5.2 hB6.2 hB7.2 hB8.2 hB9.2 hB10.2 hB11.2 hB12.2 hB13.2 hB14.2 hB15.2 hB16.2 hB17.2 hB18.2 hB19.2 hB20.2) hZ (own_W hw 34 rfl) (own_W hw 31 rfl) (by decide) (by decide)) (g := (mkF m 612 #[.val (.long q1), .second, .val (.int p2), .val (.int p3), .val (.int p4), rv bp, .val (.long vv), .second, .val (.int n), .val (.int pp), .val (.int sg), .val (.long ww), .second, rv bc, .unset, .unset, .unset] [(.ref bc), (.ref b512), (.ref b512), (.ref b510), (.ref b510)])) rfl (by rw [hml]; rfl) (Steps.refl _) (a := b512) (argsL := [(.ref bc)]) (rest := [(.ref b512), (.ref b510), (.ref b510)]) (lenOf own_pd15 rfl) rfl (by show 2 * 0 + _ ≤ _; exact Nat.le_of_eq rfl) (hb hby at_612) (fun _ _ => ⟨rfl, e512, (by decide : 4 + 1 ≤ _), (by decide : 55 + 21 ≤ _)⟩)
  dsimp only [Pt.U, Pt.locs, Pt.cells, Pt.slots] at X513 l513 y513 z513 st513 hQ513
  rw [l513, y513, z513] at X513
  obtain ⟨d, k3, rfl, N513q, K513, sz_d0, Fv1, Fc0, V_d⟩ := hQ513
  have N513 := Fr.app N509 N513q
  have ne_bp_d : bp ≠ d := Nat.ne_of_lt (Nat.lt_of_lt_of_le A367x_e512.lt sz_d0)
  have ne_bc_d : bc ≠ d := Nat.ne_of_lt (Nat.lt_of_lt_of_le A417x_e512.lt sz_d0)
  have ne_b510_d : b510 ≠ d := Nat.ne_of_lt (Nat.lt_of_lt_of_le A510_e512.lt sz_d0)
  have ne_b512_d : b512 ≠ d := Nat.ne_of_lt (Nat.lt_of_lt_of_le A512.lt sz_d0)
  have O513 := O512.keep K513 (allS g_b512 all0)
  have A367x_e513 := A367x_e512.keep K513
  have Vp413_e513 := Vp413_e512.keep K513 (ninS ne_bp_b512 nin0)
  have A417x_e513 := A417x_e512.keep K513
  have V509_e513 := V509_e512.keep K513 (ninS ne_bc_b512 nin0)
  have A510_e513 := A510_e512.keep K513
  have FnampersandSearchedFrom_510_e513 := FnampersandSearchedFrom_510_e512.keep K513 (ninS ne_b510_b512 nin0)
  have Fntext_510_e513 := Fntext_510_e512.keep K513 (ninS ne_b510_b512 nin0)
  have Fnchars_510_e513 := Fnchars_510_e512.keep K513 (ninS ne_b510_b512 nin0)
  have Fnspelling_510_e513 := Fnspelling_510_e512.keep K513 (ninS ne_b510_b512 nin0)
  have Fnkeyword_510_e513 := Fnkeyword_510_e512.keep K513 (ninS ne_b510_b512 nin0)
  have Fnstart_510_e513 := Fnstart_510_e512.keep K513 (ninS ne_b510_b512 nin0)
  have Fnkind_510_e513 := Fnkind_510_e512.keep K513 (ninS ne_b510_b512 nin0)
  have Fnend_510_e513 := Fnend_510_e512.keep K513 (ninS ne_b510_b512 nin0)
  have A512_e513 := A512.keep K513
  refine own_to (fun t k => st513.trans k) ?_
  show own_Fin _ _ _ _ _ _ (T513.setTop (mkF m 615 #[.val (.long q1), .second, .val (.int p2), .val (.int p3), .val (.int p4), rv bp, .val (.long vv), .second, .val (.int n), .val (.int pp), .val (.int sg), .val (.long ww), .second, rv bc, .unset, .unset, .unset] [(.ref b512), (.ref b510), (.ref b510)]))
  have hX : ([x0, x1, x2, x3, x4, x5, x6, x7, x8, x9, x10, x11, x12, x13, x14, x15, x16, x17, x18, x19, x20] : List Int32) = own_xs sg n pp ww := by rw [ex0, ex1, ex2, ex3, ex4, ex5, ex6, ex7, ex8, ex9, ex10, ex11, ex12, ex13, ex14, ex15, ex16, ex17, ex18, ex19, ex20]; rfl
  obtain ⟨l1, l2, l3, l4, l5, l6, l7, l8, l9, l10, l11, l12⟩ := own_pl HK
  have hm := own_main HK
  rw [← hX] at l1 l2 l3 l4 l5 l6 l7 l8 l9 l10 l11 hm
  have c4 : sg + n + (1 : Int32) < (21 : Int32) → own_at ([x0, x1, x2, x3, x4, x5, x6, x7, x8, x9, x10, x11, x12, x13, x14, x15, x16, x17, x18, x19, x20] : List Int32) (sg + n + (1 : Int32)) < (128 : Int32) ∧ ∃ b, cT.slots[(own_at ([x0, x1, x2, x3, x4, x5, x6, x7, x8, x9, x10, x11, x12, x13, x14, x15, x16, x17, x18, x19, x20] : List Int32) (sg + n + (1 : Int32))).toNatClampNeg]? = some (.int b) ∧ ¬ b = (2 : Int32) := fun q => by rw [l11 q]; exact ⟨by decide, 0, hT32, by decide⟩
  obtain ⟨_, _, ⟨T514, L514, k514, n514⟩, -, X514, ⟨Lc514, hQ514, l514, y514, z514⟩, st514⟩ := X513.specialBack hx (y := (⟨"com/example/libxqtype/libxqtype/ExpressionLexer", "<init>", "(Ljava/lang/String;)V"⟩ : MethodName)) rfl hown (mvT hZ (own_W hw 58 rfl)) (mvT hZ (own_W hw 59 rfl)) (mvT hZ (own_W hw 60 rfl)) (by decide) (own_back (W := 1) (own_lxi l Z a0 hw [] cs wI wD wT cT b510 b512 d k3 x0 x1 x2 x3 x4 x5 x6 x7 x8 x9 x10 x11 x12 x13 x14 x15 x16 x17 x18 x19 x20 sg (sg + pp) (sg + n + (1 : Int32)) T513.heap n0 (Nat.le_trans (Nat.le_trans (Nat.le_trans zs511 E510.1) E512.1) K513.1) O513 SS hcs SI SD ST AT hT A510_e513 Fntext_510_e513 Fnchars_510_e513 Fnkind_510_e513 Fnstart_510_e513 Fnend_510_e513 Fnspelling_510_e513 Fnkeyword_510_e513 FnampersandSearchedFrom_510_e513 g_b510 A512_e513 Fv1 Fc0 V_d ne_b510_b512 ne_b510_d l1 l2 l3 l4 l5 l6 l7 l8 l9 l10 c4 hB0.2 hB1.2 hB2.2 hB3.2 hB4.2 hB5.2 hB6.2 hB7.2 hB8.2 hB9.2 hB10.2 hB11.2 hB12.2 hB13.2 hB14.2 hB15.2 hB16.2 hB17.2 hB18.2 hB19.2 hB20.2 hB0.1 hB1.1 hB2.1 hB3.1 hB4.1 hB5.1 hB6.1 hB7.1 hB8.1 hB9.1 hB10.1 hB11.1 hB12.1 hB13.1 hB14.1 hB15.1 hB16.1 hB17.1 hB18.1 hB19.1 hB20.1) hZ (own_W hw 60 rfl) (own_W hw 28 rfl) (by decide) (by decide)) (g := (mkF m 615 #[.val (.long q1), .second, .val (.int p2), .val (.int p3), .val (.int p4), rv bp, .val (.long vv), .second, .val (.int n), .val (.int pp), .val (.int sg), .val (.long ww), .second, rv bc, .unset, .unset, .unset] [(.ref b512), (.ref b510), (.ref b510)])) rfl (by rw [hml]; rfl) (Steps.refl _) (a := b510) (argsL := [(.ref b512)]) (rest := [(.ref b510)]) (lenOf own_pd16 rfl) rfl (by show 2 * 0 + _ ≤ _; exact Nat.le_of_eq rfl) (hb hby at_615) (fun _ _ => ⟨rfl, rfl, (by decide : 5 + 1 ≤ _), (by decide : 76 + 21 ≤ _)⟩)
  dsimp only [Pt.U, Pt.locs, Pt.cells, Pt.slots] at X514 l514 y514 z514 st514 hQ514
  rw [l514, y514, z514] at X514
  obtain ⟨t, kt, rfl, N514q, K514, g_t, szt, Fc1, Fs1, Fe1, V_t⟩ := hQ514
  have N514 := Fr.app N513 N514q
  have ne_bp_t : bp ≠ t := Nat.ne_of_lt (Nat.lt_of_lt_of_le A367x_e513.lt szt)
  have ne_bc_t : bc ≠ t := Nat.ne_of_lt (Nat.lt_of_lt_of_le A417x_e513.lt szt)
  have ne_b510_t : b510 ≠ t := Nat.ne_of_lt (Nat.lt_of_lt_of_le A510_e513.lt szt)
  have ne_b512_t : b512 ≠ t := Nat.ne_of_lt (Nat.lt_of_lt_of_le A512_e513.lt szt)
  have ne_d_t : d ≠ t := Nat.ne_of_lt (Nat.lt_of_lt_of_le V_d.lt szt)
  have O514 := O513.keep K514 (allS g_b510 all0)
  have A367x_e514 := A367x_e513.keep K514
  have Vp413_e514 := Vp413_e513.keep K514 (ninS ne_bp_b510 nin0)
  have A417x_e514 := A417x_e513.keep K514
  have V509_e514 := V509_e513.keep K514 (ninS ne_bc_b510 nin0)
  have A510_e514 := A510_e513.keep K514
  have A512_e514 := A512_e513.keep K514
  have Fv1_e514 := Fv1.keep K514 (ninS (Ne.symm ne_b510_b512) nin0)
  have Fc0_e514 := Fc0.keep K514 (ninS (Ne.symm ne_b510_b512) nin0)
  have V_d_e514 := V_d.keep K514 (ninS (Ne.symm ne_b510_d) nin0)
  refine own_to (fun t k => st514.trans k) ?_
  show own_Fin _ _ _ _ _ _ (T514.setTop (mkF m 618 #[.val (.long q1), .second, .val (.int p2), .val (.int p3), .val (.int p4), rv bp, .val (.long vv), .second, .val (.int n), .val (.int pp), .val (.int sg), .val (.long ww), .second, rv bc, .unset, .unset, .unset] [(.ref b510)]))
  have hne0 : ¬ sg < 0 := own_b0 HK.1
  have hen : (sg + n + (1 : Int32)).toInt ≤ 21 := by rw [← l12]; have := HK; unfold own_ok at this; omega
  refine own_to (fun t k => XS.astore X514.here hx rfl (hb hby at_618) rfl rfl (l' := #[.val (.long q1), .second, .val (.int p2), .val (.int p3), .val (.int p4), rv bp, .val (.long vv), .second, .val (.int n), .val (.int pp), .val (.int sg), .val (.long ww), .second, rv bc, rv b510, .unset, .unset]) rfl k) ?_
  show own_Fin _ _ _ _ _ _ (T514.setTop (mkF m 620 #[.val (.long q1), .second, .val (.int p2), .val (.int p3), .val (.int p4), rv bp, .val (.long vv), .second, .val (.int n), .val (.int pp), .val (.int sg), .val (.long ww), .second, rv bc, rv b510, .unset, .unset] []))
  refine own_to (fun t k => XS.lload X514.here hx rfl (hb hby at_620) rfl k) ?_
  refine own_to (fun t k => XS.aload X514.here hx rfl (hb hby at_622) rfl rfl k) ?_
  refine own_to (fun t k => XS.bipush X514.here hx rfl (hb hby at_624) k) ?_
  show own_Fin _ _ _ _ _ _ (T514.setTop (mkF m 626 #[.val (.long q1), .second, .val (.int p2), .val (.int p3), .val (.int p4), rv bp, .val (.long vv), .second, .val (.int n), .val (.int pp), .val (.int sg), .val (.long ww), .second, rv bc, rv b510, .unset, .unset] [(.int (18 : Int32)), (.ref bp), (.long ww)]))
  obtain ⟨cl515, Ar515, qa515, Sa515, Na515, Ha515, Ga515⟩ := id Vp413_e514
  have hin516 : ¬ ((18 : Int32) < 0 ∨ cl515.slots.size ≤ ((18 : Int32)).toNatClampNeg) := inb_of Sa515 ⟨by decide, by decide⟩
  refine own_to (fun t k => X514.laload hx (j := (18 : Int32)) (v := (.long (1000000000000000000 : Int64))) Ar515.1 (State.isArrayOf_alike hZ.alike Ar515.2.1) Ar515.2.2 hin516 (Has.at Ha515 hin516 rfl) (g := (mkF m 626 #[.val (.long q1), .second, .val (.int p2), .val (.int p3), .val (.int p4), rv bp, .val (.long vv), .second, .val (.int n), .val (.int pp), .val (.int sg), .val (.long ww), .second, rv bc, rv b510, .unset, .unset] [(.int (18 : Int32)), (.ref bp), (.long ww)])) rfl rfl (hb hby at_626) _ k) ?_
  show own_Fin _ _ _ _ _ _ (T514.setTop (mkF m 627 #[.val (.long q1), .second, .val (.int p2), .val (.int p3), .val (.int p4), rv bp, .val (.long vv), .second, .val (.int n), .val (.int pp), .val (.int sg), .val (.long ww), .second, rv bc, rv b510, .unset, .unset] [(.long (1000000000000000000 : Int64)), (.long ww)]))
  refine own_to (fun t k => XS.lcmp X514.here hx rfl (hb hby at_627) rfl k) ?_
  show own_Fin _ _ _ _ _ _ (T514.setTop (mkF m 628 #[.val (.long q1), .second, .val (.int p2), .val (.int p3), .val (.int p4), rv bp, .val (.long vv), .second, .val (.int n), .val (.int pp), .val (.int sg), .val (.long ww), .second, rv bc, rv b510, .unset, .unset] [(.int (lcmpW ww (1000000000000000000 : Int64)))]))
  by_cases hc628_517 : ww < (1000000000000000000 : Int64)
  ·
    show own_Fin _ _ _ _ _ _ (T514.setTop (mkF m 628 #[.val (.long q1), .second, .val (.int p2), .val (.int p3), .val (.int p4), rv bp, .val (.long vv), .second, .val (.int n), .val (.int pp), .val (.int sg), .val (.long ww), .second, rv bc, rv b510, .unset, .unset] [(.int (lcmpW ww (1000000000000000000 : Int64)))]))
    refine own_to (fun t k => XS.ifNo X514.here hx rfl (hb hby at_628) rfl ((if0 _ _).trans (tlt ((lw_lt _ _).mpr hc628_517)).2.1) k) ?_
    show own_Fin _ _ _ _ _ _ (T514.setTop (mkF m 631 #[.val (.long q1), .second, .val (.int p2), .val (.int p3), .val (.int p4), rv bp, .val (.long vv), .second, .val (.int n), .val (.int pp), .val (.int sg), .val (.long ww), .second, rv bc, rv b510, .unset, .unset] []))
    refine own_to (fun t k => XS.lload X514.here hx rfl (hb hby at_631) rfl k) ?_
    refine own_to (fun t k => XS.goto X514.here hx rfl (pc0 := 633) (pc' := 639) rfl (hb hby at_633) (by decide) (by decide) k) ?_
    show own_Fin _ _ _ _ _ _ (T514.setTop (mkF m 639 #[.val (.long q1), .second, .val (.int p2), .val (.int p3), .val (.int p4), rv bp, .val (.long vv), .second, .val (.int n), .val (.int pp), .val (.int sg), .val (.long ww), .second, rv bc, rv b510, .unset, .unset] [(.long ww)]))
    refine own_to (fun t k => XS.lstore X514.here hx rfl (hb hby at_639) rfl (l' := #[.val (.long q1), .second, .val (.int p2), .val (.int p3), .val (.int p4), rv bp, .val (.long vv), .second, .val (.int n), .val (.int pp), .val (.int sg), .val (.long ww), .second, rv bc, rv b510, .val (.long ww), .second]) rfl k) ?_
    show own_Fin _ _ _ _ _ _ (T514.setTop (mkF m 641 #[.val (.long q1), .second, .val (.int p2), .val (.int p3), .val (.int p4), rv bp, .val (.long vv), .second, .val (.int n), .val (.int pp), .val (.int sg), .val (.long ww), .second, rv bc, rv b510, .val (.long ww), .second] []))
    refine own_to (fun t k => XS.aload X514.here hx rfl (hb hby at_641) rfl rfl k) ?_
    have zs518 := (Nat.le_trans (Nat.le_trans (Nat.le_trans (Nat.le_trans zs511 E510.1) E512.1) K513.1) K514.1)
    obtain ⟨cq519, kq519, q519a, q519b, q519c⟩ := isOf hZ rfl A510_e514
    obtain ⟨_, _, ⟨T519, L519, k519, n519⟩, -, X519, ⟨Lc519, hQ519, l519, y519, z519⟩, st519⟩ := X514.virtualBack hx (y := (⟨"com/example/libxqtype/libxqtype/ExpressionLexer", "unscaledValue", "()J"⟩ : MethodName)) (z := (⟨"com/example/libxqtype/libxqtype/ExpressionLexer", "unscaledValue", "()J"⟩ : MethodName)) hown (mvT hZ (own_W hw 133 rfl)) (mvT hZ (own_W hw 134 rfl)) (notFace_of_selects (args := #[]) (mvT hZ (own_W hw 136 rfl))) (mvT hZ (own_W hw 136 rfl)) (mvT hZ (own_W hw 135 rfl)) (by decide) (own_back (W := 0) (own_unr l Z a0 hw [] b510 t kt ([x0, x1, x2, x3, x4, x5, x6, x7, x8, x9, x10, x11, x12, x13, x14, x15, x16, x17, x18, x19, x20] : List Int32) sg (sg + n + (1 : Int32)) N T514.heap n0 zs518 A510_e514 Fc1 V_t Fs1 Fe1 hne0 l12 hen) hZ (own_W hw 137 rfl) (own_W hw 28 rfl) (by decide) (by decide)) q519a q519c (g := (mkF m 643 #[.val (.long q1), .second, .val (.int p2), .val (.int p3), .val (.int p4), rv bp, .val (.long vv), .second, .val (.int n), .val (.int pp), .val (.int sg), .val (.long ww), .second, rv bc, rv b510, .val (.long ww), .second] [(.ref b510)])) rfl (by rw [hml]; rfl) (Steps.refl _) (argsL := []) (rest := []) (lenOf own_pd17 rfl) rfl (by show 2 * 0 + _ ≤ _; exact Nat.le_of_eq rfl) (hb hby at_643) (fun _ _ => ⟨rfl, rfl, (by decide : 6 + 0 ≤ _), (by decide : 97 + 0 ≤ _)⟩)
    dsimp only [Pt.U, Pt.locs, Pt.cells, Pt.slots] at X519 l519 y519 z519 st519 hQ519
    rw [l519, y519, z519] at X519
    obtain ⟨rfl, N519q, eh519⟩ := hQ519
    have N519 := Fr.app N514 N519q
    refine own_to (fun t k => st519.trans k) ?_
    show own_Fin _ _ _ _ _ _ (T519.setTop (mkF m 646 #[.val (.long q1), .second, .val (.int p2), .val (.int p3), .val (.int p4), rv bp, .val (.long vv), .second, .val (.int n), .val (.int pp), .val (.int sg), .val (.long ww), .second, rv bc, rv b510, .val (.long ww), .second] [(.long (own_us ([x0, x1, x2, x3, x4, x5, x6, x7, x8, x9, x10, x11, x12, x13, x14, x15, x16, x17, x18, x19, x20] : List Int32) (N + 1) sg (0 : Int64) (0 : Int32)))]))
    rw [if_pos hc628_517] at hm
    rw [hm]
    show own_Fin _ _ _ _ _ _ (T519.setTop (mkF m 646 #[.val (.long q1), .second, .val (.int p2), .val (.int p3), .val (.int p4), rv bp, .val (.long vv), .second, .val (.int n), .val (.int pp), .val (.int sg), .val (.long ww), .second, rv bc, rv b510, .val (.long ww), .second] [(.long ww)]))
    refine own_to (fun t k => XS.lload X519.here hx rfl (hb hby at_646) rfl k) ?_
    refine own_to (fun t k => XS.lcmp X519.here hx rfl (hb hby at_648) rfl k) ?_
    show own_Fin _ _ _ _ _ _ (T519.setTop (mkF m 649 #[.val (.long q1), .second, .val (.int p2), .val (.int p3), .val (.int p4), rv bp, .val (.long vv), .second, .val (.int n), .val (.int pp), .val (.int sg), .val (.long ww), .second, rv bc, rv b510, .val (.long ww), .second] [(.int (lcmpW ww ww))]))
    refine own_to (fun t k => XS.ifNo X519.here hx rfl (hb hby at_649) rfl ((if0 _ _).trans (teq ((lw_eq _ _).mpr rfl)).2) k) ?_
    show own_Fin _ _ _ _ _ _ (T519.setTop (mkF m 652 #[.val (.long q1), .second, .val (.int p2), .val (.int p3), .val (.int p4), rv bp, .val (.long vv), .second, .val (.int n), .val (.int pp), .val (.int sg), .val (.long ww), .second, rv bc, rv b510, .val (.long ww), .second] []))
    refine own_to (fun t k => XS.iconst X519.here hx rfl (hb hby at_652) k) ?_
    refine own_to (fun t k => XS.goto X519.here hx rfl (pc0 := 653) (pc' := 657) rfl (hb hby at_653) (by decide) (by decide) k) ?_
    show own_Fin _ _ _ _ _ _ (T519.setTop (mkF m 657 #[.val (.long q1), .second, .val (.int p2), .val (.int p3), .val (.int p4), rv bp, .val (.long vv), .second, .val (.int n), .val (.int pp), .val (.int sg), .val (.long ww), .second, rv bc, rv b510, .val (.long ww), .second] [(.int (1 : Int32))]))
    refine own_retN X519 hx hlk (t := .boolean) hret (by simp) (hb hby at_657) (by decide) (by decide) ?_
    try rw [eh519]
    exact ⟨rfl, N519⟩
  ·
    show own_Fin _ _ _ _ _ _ (T514.setTop (mkF m 628 #[.val (.long q1), .second, .val (.int p2), .val (.int p3), .val (.int p4), rv bp, .val (.long vv), .second, .val (.int n), .val (.int pp), .val (.int sg), .val (.long ww), .second, rv bc, rv b510, .unset, .unset] [(.int (lcmpW ww (1000000000000000000 : Int64)))]))
    refine own_to (fun t k => XS.ifYes X514.here hx rfl (pc0 := 628) (pc' := 636) rfl (hb hby at_628) rfl ((if0 _ _).trans (flt (fun z => hc628_517 ((lw_lt _ _).mp z))).2.1) (by decide) (by decide) k) ?_
    show own_Fin _ _ _ _ _ _ (T514.setTop (mkF m 636 #[.val (.long q1), .second, .val (.int p2), .val (.int p3), .val (.int p4), rv bp, .val (.long vv), .second, .val (.int n), .val (.int pp), .val (.int sg), .val (.long ww), .second, rv bc, rv b510, .unset, .unset] []))
    refine own_to (fun t k => X514.ldc2Long hx hown (mvT hZ (own_W hw 139 rfl)) (g := (mkF m 636 #[.val (.long q1), .second, .val (.int p2), .val (.int p3), .val (.int p4), rv bp, .val (.long vv), .second, .val (.int n), .val (.int pp), .val (.int sg), .val (.long ww), .second, rv bc, rv b510, .unset, .unset] [])) rfl (hb hby at_636) _ k) ?_
    show own_Fin _ _ _ _ _ _ (T514.setTop (mkF m 639 #[.val (.long q1), .second, .val (.int p2), .val (.int p3), .val (.int p4), rv bp, .val (.long vv), .second, .val (.int n), .val (.int pp), .val (.int sg), .val (.long ww), .second, rv bc, rv b510, .unset, .unset] [(.long (-1 : Int64))]))
    refine own_to (fun t k => XS.lstore X514.here hx rfl (hb hby at_639) rfl (l' := #[.val (.long q1), .second, .val (.int p2), .val (.int p3), .val (.int p4), rv bp, .val (.long vv), .second, .val (.int n), .val (.int pp), .val (.int sg), .val (.long ww), .second, rv bc, rv b510, .val (.long (-1 : Int64)), .second]) rfl k) ?_
    show own_Fin _ _ _ _ _ _ (T514.setTop (mkF m 641 #[.val (.long q1), .second, .val (.int p2), .val (.int p3), .val (.int p4), rv bp, .val (.long vv), .second, .val (.int n), .val (.int pp), .val (.int sg), .val (.long ww), .second, rv bc, rv b510, .val (.long (-1 : Int64)), .second] []))
    refine own_to (fun t k => XS.aload X514.here hx rfl (hb hby at_641) rfl rfl k) ?_
    have zs520 := (Nat.le_trans (Nat.le_trans (Nat.le_trans (Nat.le_trans zs511 E510.1) E512.1) K513.1) K514.1)
    obtain ⟨cq521, kq521, q521a, q521b, q521c⟩ := isOf hZ rfl A510_e514
    obtain ⟨_, _, ⟨T521, L521, k521, n521⟩, -, X521, ⟨Lc521, hQ521, l521, y521, z521⟩, st521⟩ := X514.virtualBack hx (y := (⟨"com/example/libxqtype/libxqtype/ExpressionLexer", "unscaledValue", "()J"⟩ : MethodName)) (z := (⟨"com/example/libxqtype/libxqtype/ExpressionLexer", "unscaledValue", "()J"⟩ : MethodName)) hown (mvT hZ (own_W hw 133 rfl)) (mvT hZ (own_W hw 134 rfl)) (notFace_of_selects (args := #[]) (mvT hZ (own_W hw 136 rfl))) (mvT hZ (own_W hw 136 rfl)) (mvT hZ (own_W hw 135 rfl)) (by decide) (own_back (W := 0) (own_unr l Z a0 hw [] b510 t kt ([x0, x1, x2, x3, x4, x5, x6, x7, x8, x9, x10, x11, x12, x13, x14, x15, x16, x17, x18, x19, x20] : List Int32) sg (sg + n + (1 : Int32)) N T514.heap n0 zs520 A510_e514 Fc1 V_t Fs1 Fe1 hne0 l12 hen) hZ (own_W hw 137 rfl) (own_W hw 28 rfl) (by decide) (by decide)) q521a q521c (g := (mkF m 643 #[.val (.long q1), .second, .val (.int p2), .val (.int p3), .val (.int p4), rv bp, .val (.long vv), .second, .val (.int n), .val (.int pp), .val (.int sg), .val (.long ww), .second, rv bc, rv b510, .val (.long (-1 : Int64)), .second] [(.ref b510)])) rfl (by rw [hml]; rfl) (Steps.refl _) (argsL := []) (rest := []) (lenOf own_pd17 rfl) rfl (by show 2 * 0 + _ ≤ _; exact Nat.le_of_eq rfl) (hb hby at_643) (fun _ _ => ⟨rfl, rfl, (by decide : 6 + 0 ≤ _), (by decide : 97 + 0 ≤ _)⟩)
    dsimp only [Pt.U, Pt.locs, Pt.cells, Pt.slots] at X521 l521 y521 z521 st521 hQ521
    rw [l521, y521, z521] at X521
    obtain ⟨rfl, N521q, eh521⟩ := hQ521
    have N521 := Fr.app N514 N521q
    refine own_to (fun t k => st521.trans k) ?_
    show own_Fin _ _ _ _ _ _ (T521.setTop (mkF m 646 #[.val (.long q1), .second, .val (.int p2), .val (.int p3), .val (.int p4), rv bp, .val (.long vv), .second, .val (.int n), .val (.int pp), .val (.int sg), .val (.long ww), .second, rv bc, rv b510, .val (.long (-1 : Int64)), .second] [(.long (own_us ([x0, x1, x2, x3, x4, x5, x6, x7, x8, x9, x10, x11, x12, x13, x14, x15, x16, x17, x18, x19, x20] : List Int32) (N + 1) sg (0 : Int64) (0 : Int32)))]))
    rw [if_neg hc628_517] at hm
    rw [hm]
    show own_Fin _ _ _ _ _ _ (T521.setTop (mkF m 646 #[.val (.long q1), .second, .val (.int p2), .val (.int p3), .val (.int p4), rv bp, .val (.long vv), .second, .val (.int n), .val (.int pp), .val (.int sg), .val (.long ww), .second, rv bc, rv b510, .val (.long (-1 : Int64)), .second] [(.long (-1 : Int64))]))
    refine own_to (fun t k => XS.lload X521.here hx rfl (hb hby at_646) rfl k) ?_
    refine own_to (fun t k => XS.lcmp X521.here hx rfl (hb hby at_648) rfl k) ?_
    show own_Fin _ _ _ _ _ _ (T521.setTop (mkF m 649 #[.val (.long q1), .second, .val (.int p2), .val (.int p3), .val (.int p4), rv bp, .val (.long vv), .second, .val (.int n), .val (.int pp), .val (.int sg), .val (.long ww), .second, rv bc, rv b510, .val (.long (-1 : Int64)), .second] [(.int (lcmpW (-1 : Int64) (-1 : Int64)))]))
    refine own_to (fun t k => XS.ifNo X521.here hx rfl (hb hby at_649) rfl ((if0 _ _).trans (teq ((lw_eq _ _).mpr rfl)).2) k) ?_
    show own_Fin _ _ _ _ _ _ (T521.setTop (mkF m 652 #[.val (.long q1), .second, .val (.int p2), .val (.int p3), .val (.int p4), rv bp, .val (.long vv), .second, .val (.int n), .val (.int pp), .val (.int sg), .val (.long ww), .second, rv bc, rv b510, .val (.long (-1 : Int64)), .second] []))
    refine own_to (fun t k => XS.iconst X521.here hx rfl (hb hby at_652) k) ?_
    refine own_to (fun t k => XS.goto X521.here hx rfl (pc0 := 653) (pc' := 657) rfl (hb hby at_653) (by decide) (by decide) k) ?_
    show own_Fin _ _ _ _ _ _ (T521.setTop (mkF m 657 #[.val (.long q1), .second, .val (.int p2), .val (.int p3), .val (.int p4), rv bp, .val (.long vv), .second, .val (.int n), .val (.int pp), .val (.int sg), .val (.long ww), .second, rv bc, rv b510, .val (.long (-1 : Int64)), .second] [(.int (1 : Int32))]))
    refine own_retN X521 hx hlk (t := .boolean) hret (by simp) (hb hby at_657) (by decide) (by decide) ?_
    try rw [eh521]
    exact ⟨rfl, N521⟩
theorem own_sz {s : State} {args : Array Value} {t : Term} {a : Addr} {c : Cell} (ht : t.eval args s none [] s = some (.ref a)) (ha : s.arrayAt? a = some c) (h : (Term.length t).eval args s none [] s = some (.int 128)) : c.slots.size = 128 := by
  by_cases hl : c.slots.size < 2 ^ 31
  · rw [len_f ht ha hl] at h
    have e1 := Value.int.inj (Option.some.inj h)
    have e2 := len_toInt hl
    rw [e1, show (128 : Int32).toInt = 128 from by decide] at e2
    omega
  · simp [Term.eval, ht, ha, hl] at h
theorem own_lowp {s : State} {args : Array Value} {t : Term} {a : Addr} {c : Cell} {lim : Int32} {k : Int32} (ht : ∀ idx, t.eval args s none idx s = some (.ref a)) (A : Arr s s.heap a c .byte) (h : (Cond.all t (Cond.or (.le (.int lim) (.index 0)) (.eq (.elem t (.index 0)) (.int 0)))).value args s none s [] = some true) (hk0 : ¬ k < 0) (hk : k.toNatClampNeg < c.slots.size) (hl : decide (lim ≤ k) = false) : c.slots[k.toNatClampNeg]? = some (.int 0) := by
  have h1 := Cond.all_elim (ht []) (A.fin (Vm.Alike.refl _)) h k.toNatClampNeg hk
  rw [Cond.or_of_right ((Cond.le_ints (Term.int_eval lim) (idx_at hk0)).trans (congrArg some hl))] at h1
  exact (elem_f (ht _) (idx_at hk0) (A.fin (Vm.Alike.refl _)) hk0).symm.trans (eqv_i (Term.int_eval 0) h1)
set_option maxRecDepth 65536 in
set_option maxHeartbeats 40000000 in
theorem comes_1 {Post : Tables → Env → Array Value → State → Outcome → State → Prop} (hpost : ∀ tb e args s v u, (limb_1_1.after args s (.returned v) u = true ∧ limb_1_2.after args s (.returned v) u = true ∧ True) → FrameEnd s (.returned v) u (Jvm.fieldLocs frame_1_writes args s ++ Jvm.arrayLocs frame_1_arrays args s ++ Jvm.staticLocs frame_1_statics s) 24 320 → Post tb e args s (.returned v) u) :
    ArmFor flags0 classFile x code maxLocals ret World_1 tables_1 room_1 Calls_1 rest_1 Pre_1 Post := by
  intro l hfl _ _ p e ha hc hk s m args below hf hA hF happ hP
  obtain ⟨hcalls, hrest, hpre⟩ := hP
  obtain ⟨-, -, -, hnamed, -, -, -, hat⟩ := (Spec.applies_iff hf).mp happ
  obtain ⟨hg, hn⟩ := and_e (Cond.before_iff.mp (show (Jvm.Cond.and given_1 narrow_1).before args s = true from hpre))
  obtain ⟨g1, g2⟩ := and_e hg
  obtain ⟨g3, g4⟩ := and_e g2
  obtain ⟨g5, g6⟩ := and_e g4
  obtain ⟨g7, g8⟩ := and_e g6
  obtain ⟨w0, w1, w2, w3, rfl⟩ : ∃ w0 w1 w2 w3 : Value, args = #[w0, w1, w2, w3] := by
    have hs : args.size = 4 := by simpa [Cond.value, given_1] using g1
    obtain ⟨L⟩ := args
    match L, hs with
    | [w0, w1, w2, w3], _ => exact ⟨w0, w1, w2, w3, rfl⟩
  have hw := fun d (hd : d ∈ tables_1) => atoms_spec (ws := Jvm.Cond.code x code maxLocals ret :: tables_1) hat d (List.mem_cons_of_mem _ hd)
  have hfit : Fit s := fun {y c} hc i hi => by
    obtain ⟨ha, rfl⟩ := Array.getElem?_eq_some_iff.mp hc
    have q := List.all_eq_true.mp ((Array.all_eq_true_iff_forall_mem.mp hF) _ (Array.getElem_mem ha)) i (List.mem_range.mpr hi)
    simpa [Array.getElem?_eq_getElem hi] using q
  obtain ⟨hsets, hown0⟩ := atoms_of _ (rest_1_c_eq ▸ (show rest_1_c.before _ s = true from hrest))
  have hr0 := Cond.before_iff.mp hown0
  obtain ⟨i0, ei0⟩ := isL_v g3
  obtain rfl : w0 = (.long i0) := Option.some.inj ei0
  obtain ⟨i1, ei1⟩ := is_v g5
  obtain rfl : w1 = (.int i1) := Option.some.inj ei1
  obtain ⟨i2, ei2⟩ := is_v g7
  obtain rfl : w2 = (.int i2) := Option.some.inj ei2
  obtain ⟨i3, ei3⟩ := is_v g8
  obtain rfl : w3 = (.int i3) := Option.some.inj ei3
  obtain ⟨cs, ecs⟩ := is_v (Cond.before_iff.mp (hsets _ (List.mem_of_getElem? (i := 1) rfl)))
  have hcs : ¬ cs = (0 : Int32) := fun q => by
    have h2 := not_v (Cond.before_iff.mp (hsets _ (List.mem_of_getElem? (i := 2) rfl)))
    subst q
    rw [eq_i ecs (Term.int_eval 0) rfl] at h2
    exact absurd h2 (by decide)
  obtain ⟨n1, n2⟩ := and_e (show (narrow_1).value _ s none s [] = some true from hn)
  obtain ⟨n3, n4⟩ := and_e n2
  obtain ⟨n5, n6⟩ := and_e n4
  obtain ⟨n7, n8⟩ := and_e n6
  obtain ⟨n9, n10⟩ := and_e n8
  obtain ⟨wI, eI⟩ := exa_v n1
  obtain ⟨wD, eD⟩ := exa_v n3
  obtain ⟨wT, eT⟩ := arr_v n5
  obtain ⟨cT, AT⟩ := Arr.start eT n5
  have hT := own_sz eT (AT.fin (Vm.Alike.refl _)) (eqv_i (Term.int_eval 128) n7)
  have hT32 := own_lowp (k := 32) (fun _ => eT) AT n9 (by decide) (by rw [hT]; decide) (by decide)
  obtain ⟨n, o, h1, h2, h3, _, L, rfl, ⟨rfl, N⟩, hq⟩ := own_rm0 l s _ hw tables_1 cs wI wD wT cT i0 i1 i2 i3 s.heap s.heap.size (Nat.le_refl _) (Old.start s) (Sta.start ecs (Or.inl (hsets _ (List.mem_of_getElem? (i := 0) rfl)))) hcs (Sta.start eI (Or.inr ⟨(own_W hw 112 rfl), (own_W hw 113 rfl)⟩)) (Sta.start eD (Or.inr ⟨(own_W hw 112 rfl), (own_W hw 121 rfl)⟩)) (Sta.start eT (Or.inr ⟨(own_W hw 96 rfl), (own_W hw 132 rfl)⟩)) AT hT hT32 p e ha hc hk s m _ below hf ((Spec.applies_iff_loose hf).mp happ).1 ⟨rfl, State.Warmed39.refl s, rfl⟩ trivial
  refine ⟨n, _, h1, h2, h3, hpost _ _ _ _ _ _ ⟨Cond.after_iff.mpr rfl, Cond.after_iff.mpr (eq_i res_at (Term.int_eval (1)) rfl), trivial⟩ ⟨hq.1, hq.2.1, (hq.2.2.sift fun y hy => Or.inr (N y hy)).mono (by decide) (by decide)⟩⟩
theorem main_1_1 : Claimed_1_1 := comes_1 fun _ _ _ _ _ _ h hF => ⟨h.1, hF⟩
theorem main_1_2 : Claimed_1_2 := comes_1 fun _ _ _ _ _ _ h hF => ⟨h.2.1, hF⟩
end Jvm.Pilot.@@N@@
namespace Jvm.Pilot.@@N@@
open Jvm Jvm.ClassFile Sem Op Lib Jvm.Free Jvm.Stand Jvm.Pilot.@@N@@.Jvm.D
/-! MADE BY PROGRAM (witnessworld.py) out of the Statement's table words and the real class files: 25 classes; the members and pool entries that the words name. The judged class is class 1, her method 1. -/
namespace start1
open Jvm.ClassFile
def u (s : String) : CpInfo := .utf8 (stringToUtf16 s)
/-- a pool by its gaps: so many unusable entries, then the entry; so many at the end -/
def gap : Nat → List CpInfo → List CpInfo
  | 0, r => r
  | n + 1, r => .unusable :: gap n r
def poolList (es : List (Nat × CpInfo)) (last : Nat) : List CpInfo := es.foldr (fun e r => gap e.1 (e.2 :: r)) (gap last [])
def pool (es : List (Nat × CpInfo)) (last : Nat) : Array CpInfo := ⟨poolList es last⟩
def fileOf (pool : Array CpInfo) (this : Nat) (attrs : Array Attribute := #[]) (ms : Array MethodInfo := #[]) (fl : Nat := 33) (sup : Nat := 0) (ifs : Array Nat := #[]) (fds : Array FieldInfo := #[]) : ClassFile where
  minorVersion := 0
  majorVersion := 65
  constantPool := pool
  accessFlags := fl
  thisClass := this
  superClass := sup
  interfaces := ifs
  fields := fds
  methods := ms
  attributes := attrs
def plain (name : String) (sup : Option ClassId) : Class where
  name := name
  kind := .ordinary
  loader := none
  accessFlags := 33
  super := sup
  interfaces := #[]
  cf := none
  fields := #[]
  methods := #[]
  instanceTypes := #[]
  staticTypes := #[]
  resolved := #[]
  callSites := []
  init := .initialized
  statics := none
  mirror := none

def pool0 : Array CpInfo := pool [(5, u "<init>"), (0, u "()V"), (1, .class_ 10), (1, u "java/lang/Object")] 113

def k0c0 : Code := { maxStack := 0, maxLocals := 1, code := object_method_1_code, exceptionTable := #[], attributes := #[] }
def k0m0 : Method := { name := "<init>", desc := "()V", sig := { parameters := [], returnType := none }, accessFlags := 1, code := some k0c0 }
/-- java/lang/Object -/
def k0 : Class := { plain "java/lang/Object" none with
  accessFlags := 33
  interfaces := #[]
  cf := some (fileOf pool0 8 #[] #[{ accessFlags := 1, nameIndex := 5, descriptorIndex := 6, attributes := #[] }] 33 0 #[] #[])
  fields := #[]
  methods := #[k0m0]
  instanceTypes := #[]
  staticTypes := #[]
  resolved := Array.replicate 124 none
  statics := none }

def pool1 : Array CpInfo := pool [(2, .class_ 4), (1, u "java/lang/Object"), (0, u "<init>"), (0, u "()V"), (0, .long 10), (1, .long 100), (1, .long 1000), (1, .long 10000), (1, .long 100000), (1, .long 1000000), (1, .long 10000000), (1, .long 100000000), (1, .long 1000000000), (1, .long 10000000000), (1, .long 100000000000), (1, .long 1000000000000), (1, .long 10000000000000), (1, .long 100000000000000), (1, .long 1000000000000000), (1, .long 10000000000000000), (1, .long 100000000000000000), (1, .long 1000000000000000000), (3, .long 9223372036854775807), (1, .integer 2147483647), (0, .methodref 49 50), (0, .class_ 51), (0, .nameAndType 52 53), (0, u "com/example/libxqtype/libxqtype/ExpressionLexerUnscaledValuePinLaw"), (0, u "ch"), (0, u "(IIIIJ[J)C"), (0, .class_ 55), (0, u "com/example/libxqtype/libxqtype/ExpressionLexer"), (0, .class_ 57), (0, u "java/lang/String"), (0, .methodref 56 59), (0, .nameAndType 5 60), (0, u "([C)V"), (0, .methodref 54 62), (0, .nameAndType 5 63), (0, u "(Ljava/lang/String;)V"), (0, .long 18446744073709551615), (1, .methodref 54 67), (0, .nameAndType 68 69), (0, u "unscaledValue"), (0, u "()J"), (2, u "law"), (0, u "(JIII)Z")] 7

def k1m0 : Method := { name := "<init>", desc := "()V", sig := { parameters := [], returnType := none }, accessFlags := 1, code := none }
def k1c1 : Code := { maxStack := 9, maxLocals := 17, code := code, exceptionTable := #[], attributes := #[] }
def k1m1 : Method := { name := "law", desc := "(JIII)Z", sig := { parameters := [.long, .int, .int, .int], returnType := some .boolean }, accessFlags := 9, code := some k1c1 }
def k1c2 : Code := { maxStack := 6, maxLocals := 9, code := method_3_code, exceptionTable := #[], attributes := #[] }
def k1m2 : Method := { name := "ch", desc := "(IIIIJ[J)C", sig := { parameters := [.int, .int, .int, .int, .long, (.array .long)], returnType := some .char }, accessFlags := 10, code := some k1c2 }
/-- com/example/libxqtype/libxqtype/ExpressionLexerUnscaledValuePinLaw -/
def k1 : Class := { plain "com/example/libxqtype/libxqtype/ExpressionLexerUnscaledValuePinLaw" (some 0) with
  accessFlags := 49
  interfaces := #[]
  cf := some (fileOf pool1 49 #[] #[{ accessFlags := 1, nameIndex := 5, descriptorIndex := 6, attributes := #[] }, { accessFlags := 9, nameIndex := 72, descriptorIndex := 73, attributes := #[] }, { accessFlags := 10, nameIndex := 52, descriptorIndex := 53, attributes := #[] }] 49 2 #[] #[])
  fields := #[]
  methods := #[k1m0, k1m1, k1m2]
  instanceTypes := #[]
  staticTypes := #[]
  resolved := Array.replicate 81 none
  statics := none }

def pool2 : Array CpInfo := pool [(1, .methodref 2 3), (0, .class_ 4), (0, .nameAndType 5 6), (0, u "java/lang/Object"), (0, u "<init>"), (0, u "()V"), (2, .integer 2147483647), (0, .fieldref 11 12), (0, .class_ 13), (0, .nameAndType 14 15), (0, u "com/example/libxqtype/libxqtype/ExpressionLexer"), (0, u "ampersandSearchedFrom"), (0, u "I"), (0, .fieldref 11 17), (0, .nameAndType 18 19), (0, u "text"), (0, u "Ljava/lang/String;"), (0, .methodref 21 22), (0, .class_ 23), (0, .nameAndType 24 25), (0, u "java/lang/String"), (0, u "toCharArray"), (0, u "()[C"), (0, .fieldref 11 27), (0, .nameAndType 28 29), (0, u "chars"), (0, u "[C"), (0, .methodref 11 31), (0, .nameAndType 32 33), (0, u "scan"), (0, u "(I)V"), (0, .fieldref 11 35), (0, .nameAndType 36 37), (0, u "kind"), (0, u "Lcom/example/libxqtype/libxqtype/ExpressionLexer$Kind;"), (0, .fieldref 11 39), (0, .nameAndType 40 15), (0, u "start"), (0, .fieldref 11 42), (0, .nameAndType 43 15), (0, u "end"), (0, .long 10), (3, .long 18446744073709551615), (11, u "escaped"), (0, u "Z"), (2, u "(I)I"), (10, u "nameHash"), (6, .fieldref 11 83), (0, .nameAndType 84 19), (0, u "spelling"), (1, .class_ 87), (0, u "com/example/libxqtype/libxqtype/ExpressionLexer$Kind"), (0, .fieldref 11 89), (0, .nameAndType 90 91), (0, u "keyword"), (0, u "Lcom/example/libxqtype/libxqtype/ExpressionLexer$Keyword;"), (1, .class_ 95), (1, u "com/example/libxqtype/libxqtype/ExpressionLexer$Keyword"), (7, .methodref 104 105), (0, .class_ 106), (0, .nameAndType 107 108), (0, u "com/example/libxqtype/libxqtype/XmlCharacters"), (0, u "isWhitespace"), (0, u "(C)Z"), (0, .methodref 11 110), (0, .nameAndType 111 112), (0, u "charAt"), (0, u "(I)C"), (66, .methodref 104 180), (0, .nameAndType 181 108), (0, u "isDigit"), (0, .methodref 11 183), (0, .nameAndType 184 6), (0, u "numericLiteral"), (0, .methodref 11 186), (0, .nameAndType 187 188), (0, u "startsName"), (0, u "(I)Z"), (21, .methodref 11 211), (0, .nameAndType 212 64), (0, u "digitsEnd"), (0, .fieldref 86 214), (0, .nameAndType 215 37), (0, u "INTEGER_LITERAL"), (0, .fieldref 86 217), (0, .nameAndType 218 37), (0, u "DECIMAL_LITERAL"), (19, u "nextAmpersand"), (2, u "ENTITY_REFERENCES"), (0, u "[Lcom/example/libxqtype/libxqtype/ExpressionLexer$EntityReference;"), (1, .class_ 246), (1, u "com/example/libxqtype/libxqtype/ExpressionLexer$EntityReference"), (100, u "KEYWORD_LENGTH"), (2, u "KEYWORD_INITIALS"), (2, u "KEYWORDS"), (0, u "Lcom/example/libxqtype/libxqtype/NameTable;"), (8, .methodref 104 364), (0, .nameAndType 365 188), (0, u "isNameStartChar"), (38, u "(Ljava/lang/String;)V"), (4, u "()J"), (1, u "unscaledValue")] 44

def k2c0 : Code := { maxStack := 2, maxLocals := 2, code := prog_59_method_1_code, exceptionTable := #[], attributes := #[] }
def k2m0 : Method := { name := "<init>", desc := "(Ljava/lang/String;)V", sig := { parameters := [(.object "java/lang/String")], returnType := none }, accessFlags := 0, code := some k2c0 }
def k2c1 : Code := { maxStack := 5, maxLocals := 6, code := prog_59_method_6_code, exceptionTable := #[], attributes := #[] }
def k2m1 : Method := { name := "unscaledValue", desc := "()J", sig := { parameters := [], returnType := some .long }, accessFlags := 0, code := some k2c1 }
def k2c2 : Code := { maxStack := 3, maxLocals := 4, code := prog_59_method_15_code, exceptionTable := #[], attributes := #[] }
def k2m2 : Method := { name := "scan", desc := "(I)V", sig := { parameters := [.int], returnType := none }, accessFlags := 2, code := some k2c2 }
def k2c3 : Code := { maxStack := 3, maxLocals := 3, code := prog_59_method_20_code, exceptionTable := #[], attributes := #[] }
def k2m3 : Method := { name := "numericLiteral", desc := "()V", sig := { parameters := [], returnType := none }, accessFlags := 2, code := some k2c3 }
def k2c4 : Code := { maxStack := 2, maxLocals := 3, code := prog_59_method_29_code, exceptionTable := #[], attributes := #[] }
def k2m4 : Method := { name := "startsName", desc := "(I)Z", sig := { parameters := [.int], returnType := some .boolean }, accessFlags := 2, code := some k2c4 }
def k2c5 : Code := { maxStack := 2, maxLocals := 4, code := prog_59_method_31_code, exceptionTable := #[], attributes := #[] }
def k2m5 : Method := { name := "digitsEnd", desc := "(I)I", sig := { parameters := [.int], returnType := some .int }, accessFlags := 2, code := some k2c5 }
def k2c6 : Code := { maxStack := 2, maxLocals := 2, code := prog_59_method_32_code, exceptionTable := #[], attributes := #[] }
def k2m6 : Method := { name := "charAt", desc := "(I)C", sig := { parameters := [.int], returnType := some .char }, accessFlags := 2, code := some k2c6 }
/-- com/example/libxqtype/libxqtype/ExpressionLexer -/
def k2 : Class := { plain "com/example/libxqtype/libxqtype/ExpressionLexer" (some 0) with
  accessFlags := 48
  interfaces := #[]
  cf := some (fileOf pool2 11 #[.nestMembers #[244, 93, 86]] #[{ accessFlags := 0, nameIndex := 5, descriptorIndex := 404, attributes := #[] }, { accessFlags := 0, nameIndex := 411, descriptorIndex := 409, attributes := #[] }, { accessFlags := 2, nameIndex := 32, descriptorIndex := 33, attributes := #[] }, { accessFlags := 2, nameIndex := 184, descriptorIndex := 6, attributes := #[] }, { accessFlags := 2, nameIndex := 187, descriptorIndex := 188, attributes := #[] }, { accessFlags := 2, nameIndex := 212, descriptorIndex := 64, attributes := #[] }, { accessFlags := 2, nameIndex := 111, descriptorIndex := 112, attributes := #[] }] 48 2 #[] #[{ accessFlags := 26, nameIndex := 353, descriptorIndex := 354, attributes := #[] }, { accessFlags := 26, nameIndex := 350, descriptorIndex := 15, attributes := #[] }, { accessFlags := 26, nameIndex := 347, descriptorIndex := 15, attributes := #[] }, { accessFlags := 26, nameIndex := 241, descriptorIndex := 242, attributes := #[] }, { accessFlags := 18, nameIndex := 18, descriptorIndex := 19, attributes := #[] }, { accessFlags := 18, nameIndex := 28, descriptorIndex := 29, attributes := #[] }, { accessFlags := 2, nameIndex := 36, descriptorIndex := 37, attributes := #[] }, { accessFlags := 2, nameIndex := 40, descriptorIndex := 15, attributes := #[] }, { accessFlags := 2, nameIndex := 43, descriptorIndex := 15, attributes := #[] }, { accessFlags := 2, nameIndex := 84, descriptorIndex := 19, attributes := #[] }, { accessFlags := 2, nameIndex := 90, descriptorIndex := 91, attributes := #[] }, { accessFlags := 2, nameIndex := 75, descriptorIndex := 15, attributes := #[] }, { accessFlags := 2, nameIndex := 60, descriptorIndex := 61, attributes := #[] }, { accessFlags := 2, nameIndex := 238, descriptorIndex := 15, attributes := #[] }, { accessFlags := 2, nameIndex := 14, descriptorIndex := 15, attributes := #[] }])
  fields := #[{ name := "KEYWORDS", type := (.object "com/example/libxqtype/libxqtype/NameTable"), accessFlags := 26, slot := 0, constantValue := 0 }, { name := "KEYWORD_INITIALS", type := .int, accessFlags := 26, slot := 1, constantValue := 0 }, { name := "KEYWORD_LENGTH", type := .int, accessFlags := 26, slot := 2, constantValue := 0 }, { name := "ENTITY_REFERENCES", type := (.array (.object "com/example/libxqtype/libxqtype/ExpressionLexer$EntityReference")), accessFlags := 26, slot := 3, constantValue := 0 }, { name := "text", type := (.object "java/lang/String"), accessFlags := 18, slot := 0, constantValue := 0 }, { name := "chars", type := (.array .char), accessFlags := 18, slot := 1, constantValue := 0 }, { name := "kind", type := (.object "com/example/libxqtype/libxqtype/ExpressionLexer$Kind"), accessFlags := 2, slot := 2, constantValue := 0 }, { name := "start", type := .int, accessFlags := 2, slot := 3, constantValue := 0 }, { name := "end", type := .int, accessFlags := 2, slot := 4, constantValue := 0 }, { name := "spelling", type := (.object "java/lang/String"), accessFlags := 2, slot := 5, constantValue := 0 }, { name := "keyword", type := (.object "com/example/libxqtype/libxqtype/ExpressionLexer$Keyword"), accessFlags := 2, slot := 6, constantValue := 0 }, { name := "nameHash", type := .int, accessFlags := 2, slot := 7, constantValue := 0 }, { name := "escaped", type := .boolean, accessFlags := 2, slot := 8, constantValue := 0 }, { name := "nextAmpersand", type := .int, accessFlags := 2, slot := 9, constantValue := 0 }, { name := "ampersandSearchedFrom", type := .int, accessFlags := 2, slot := 10, constantValue := 0 }]
  methods := #[k2m0, k2m1, k2m2, k2m3, k2m4, k2m5, k2m6]
  instanceTypes := #[(.object "java/lang/String"), (.array .char), (.object "com/example/libxqtype/libxqtype/ExpressionLexer$Kind"), .int, .int, (.object "java/lang/String"), (.object "com/example/libxqtype/libxqtype/ExpressionLexer$Keyword"), .int, .boolean, .int, .int]
  staticTypes := #[(.object "com/example/libxqtype/libxqtype/NameTable"), .int, .int, (.array (.object "com/example/libxqtype/libxqtype/ExpressionLexer$EntityReference"))]
  resolved := Array.replicate 456 none
  statics := none }

def pool3 : Array CpInfo := pool [(1, .class_ 2), (0, u "java/io/Serializable"), (0, .class_ 4), (0, u "java/lang/Object")] 2

/-- java/io/Serializable -/
def k3 : Class := { plain "java/io/Serializable" (some 0) with
  accessFlags := 1537
  interfaces := #[]
  cf := some (fileOf pool3 1 #[] #[] 1537 3 #[] #[])
  fields := #[]
  methods := #[]
  instanceTypes := #[]
  staticTypes := #[]
  resolved := Array.replicate 7 none
  statics := none }

def pool4 : Array CpInfo := pool [(1, .class_ 2), (0, u "java/lang/Comparable"), (0, .class_ 4), (0, u "java/lang/Object")] 7

/-- java/lang/Comparable -/
def k4 : Class := { plain "java/lang/Comparable" (some 0) with
  accessFlags := 1537
  interfaces := #[]
  cf := some (fileOf pool4 1 #[] #[] 1537 3 #[] #[])
  fields := #[]
  methods := #[]
  instanceTypes := #[]
  staticTypes := #[]
  resolved := Array.replicate 12 none
  statics := none }

def pool5 : Array CpInfo := pool [(2, .class_ 4), (1, u "java/lang/CharSequence"), (42, .class_ 48), (0, u "java/lang/CharSequence$1CodePointIterator"), (10, .class_ 60), (0, u "java/lang/CharSequence$1CharIterator"), (5, .class_ 67), (0, u "java/lang/Object")] 63

/-- java/lang/CharSequence -/
def k5 : Class := { plain "java/lang/CharSequence" (some 0) with
  accessFlags := 1537
  interfaces := #[]
  cf := some (fileOf pool5 2 #[.nestMembers #[47, 59]] #[] 1537 66 #[] #[])
  fields := #[]
  methods := #[]
  instanceTypes := #[]
  staticTypes := #[]
  resolved := Array.replicate 131 none
  statics := none }

def pool6 : Array CpInfo := pool [(1, .class_ 2), (0, u "java/lang/constant/Constable"), (0, .class_ 4), (0, u "java/lang/Object")] 6

/-- java/lang/constant/Constable -/
def k6 : Class := { plain "java/lang/constant/Constable" (some 0) with
  accessFlags := 1537
  interfaces := #[]
  cf := some (fileOf pool6 1 #[] #[] 1537 3 #[] #[])
  fields := #[]
  methods := #[]
  instanceTypes := #[]
  staticTypes := #[]
  resolved := Array.replicate 11 none
  statics := none }

def pool7 : Array CpInfo := pool [(1, .class_ 2), (0, u "java/lang/constant/ConstantDesc"), (0, .class_ 4), (0, u "java/lang/Object")] 32

/-- java/lang/constant/ConstantDesc -/
def k7 : Class := { plain "java/lang/constant/ConstantDesc" (some 0) with
  accessFlags := 1537
  interfaces := #[]
  cf := some (fileOf pool7 1 #[] #[] 1537 3 #[] #[])
  fields := #[]
  methods := #[]
  instanceTypes := #[]
  staticTypes := #[]
  resolved := Array.replicate 37 none
  statics := none }

def pool8 : Array CpInfo := pool [(1, .methodref 2 3), (0, .class_ 4), (0, .nameAndType 5 6), (0, u "java/lang/Object"), (0, u "<init>"), (0, u "()V"), (2, .fieldref 10 11), (0, .class_ 12), (0, .nameAndType 13 14), (0, u "java/lang/String"), (0, u "value"), (0, u "[B"), (0, .fieldref 10 16), (0, .nameAndType 17 18), (0, u "coder"), (0, u "B"), (2, u "hash"), (0, u "I"), (2, u "hashIsZero"), (0, u "Z"), (0, .methodref 10 28), (0, .nameAndType 5 29), (0, u "([CIILjava/lang/Void;)V"), (8, .fieldref 10 39), (0, .nameAndType 40 26), (0, u "COMPACT_STRINGS"), (1, .class_ 44), (1, u "java/lang/StringUTF16"), (0, u "compress"), (1, .methodref 42 48), (0, .nameAndType 49 50), (0, u "coderFromArrayLen"), (0, u "([BI)B"), (56, .class_ 109), (1, u "java/lang/StringLatin1"), (32, u "()Z"), (34, .methodref 42 178), (0, .nameAndType 45 179), (0, u "([CII)[B"), (119, .methodref 107 300), (0, .nameAndType 301 302), (0, u "toChars"), (0, u "([B)[C"), (189, .methodref 10 493), (0, .nameAndType 494 142), (0, u "isLatin1"), (80, .class_ 576), (0, u "java/lang/CharSequence"), (22, u "CASE_INSENSITIVE_ORDER"), (0, u "Ljava/util/Comparator;"), (354, u "toCharArray"), (0, u "()[C"), (53, u "([C)V"), (90, u "serialPersistentFields"), (0, u "[Ljava/io/ObjectStreamField;"), (0, .class_ 1104), (0, u "java/lang/String$CaseInsensitiveComparator"), (1, .class_ 1107), (0, u "java/io/Serializable"), (0, .class_ 1109), (0, u "java/lang/Comparable"), (0, .class_ 1111), (0, u "java/lang/constant/Constable"), (0, .class_ 1113), (0, u "java/lang/constant/ConstantDesc"), (2, u "serialVersionUID"), (0, u "J"), (3, u "REPL"), (0, u "C"), (2, u "LATIN1"), (1, u "UTF16")] 323

def k8m0 : Method := { name := "<init>", desc := "()V", sig := { parameters := [], returnType := none }, accessFlags := 1, code := none }
def k8c1 : Code := { maxStack := 5, maxLocals := 2, code := jdk_42_method_3_code, exceptionTable := #[], attributes := #[] }
def k8m1 : Method := { name := "<init>", desc := "([C)V", sig := { parameters := [(.array .char)], returnType := none }, accessFlags := 1, code := some k8c1 }
def k8c2 : Code := { maxStack := 1, maxLocals := 1, code := jdk_42_method_129_code, exceptionTable := #[], attributes := #[] }
def k8m2 : Method := { name := "toCharArray", desc := "()[C", sig := { parameters := [], returnType := some (.array .char) }, accessFlags := 1, code := some k8c2 }
def k8c3 : Code := { maxStack := 4, maxLocals := 6, code := jdk_42_method_149_code, exceptionTable := #[], attributes := #[] }
def k8m3 : Method := { name := "<init>", desc := "([CIILjava/lang/Void;)V", sig := { parameters := [(.array .char), .int, .int, (.object "java/lang/Void")], returnType := none }, accessFlags := 2, code := some k8c3 }
def k8c4 : Code := { maxStack := 1, maxLocals := 1, code := jdk_42_method_154_code, exceptionTable := #[], attributes := #[] }
def k8m4 : Method := { name := "isLatin1", desc := "()Z", sig := { parameters := [], returnType := some .boolean }, accessFlags := 0, code := some k8c4 }
/-- java/lang/String -/
def k8 : Class := { plain "java/lang/String" (some 0) with
  accessFlags := 49
  interfaces := #[3, 4, 5, 6, 7]
  cf := some (fileOf pool8 10 #[.nestMembers #[1103]] #[{ accessFlags := 1, nameIndex := 5, descriptorIndex := 6, attributes := #[] }, { accessFlags := 1, nameIndex := 5, descriptorIndex := 1010, attributes := #[] }, { accessFlags := 1, nameIndex := 955, descriptorIndex := 956, attributes := #[] }, { accessFlags := 2, nameIndex := 5, descriptorIndex := 29, attributes := #[] }, { accessFlags := 0, nameIndex := 494, descriptorIndex := 142, attributes := #[] }] 49 2 #[1106, 1108, 575, 1110, 1112] #[{ accessFlags := 18, nameIndex := 13, descriptorIndex := 14, attributes := #[] }, { accessFlags := 18, nameIndex := 17, descriptorIndex := 18, attributes := #[] }, { accessFlags := 2, nameIndex := 21, descriptorIndex := 22, attributes := #[] }, { accessFlags := 2, nameIndex := 25, descriptorIndex := 26, attributes := #[] }, { accessFlags := 26, nameIndex := 1116, descriptorIndex := 1117, attributes := #[] }, { accessFlags := 24, nameIndex := 40, descriptorIndex := 26, attributes := #[] }, { accessFlags := 26, nameIndex := 1101, descriptorIndex := 1102, attributes := #[] }, { accessFlags := 26, nameIndex := 1121, descriptorIndex := 1122, attributes := #[] }, { accessFlags := 25, nameIndex := 599, descriptorIndex := 600, attributes := #[] }, { accessFlags := 24, nameIndex := 1125, descriptorIndex := 18, attributes := #[] }, { accessFlags := 24, nameIndex := 1127, descriptorIndex := 18, attributes := #[] }])
  fields := #[{ name := "value", type := (.array .byte), accessFlags := 18, slot := 0, constantValue := 0 }, { name := "coder", type := .byte, accessFlags := 18, slot := 1, constantValue := 0 }, { name := "hash", type := .int, accessFlags := 2, slot := 2, constantValue := 0 }, { name := "hashIsZero", type := .boolean, accessFlags := 2, slot := 3, constantValue := 0 }, { name := "serialVersionUID", type := .long, accessFlags := 26, slot := 0, constantValue := 0 }, { name := "COMPACT_STRINGS", type := .boolean, accessFlags := 24, slot := 1, constantValue := 0 }, { name := "serialPersistentFields", type := (.array (.object "java/io/ObjectStreamField")), accessFlags := 26, slot := 2, constantValue := 0 }, { name := "REPL", type := .char, accessFlags := 26, slot := 3, constantValue := 0 }, { name := "CASE_INSENSITIVE_ORDER", type := (.object "java/util/Comparator"), accessFlags := 25, slot := 4, constantValue := 0 }, { name := "LATIN1", type := .byte, accessFlags := 24, slot := 5, constantValue := 0 }, { name := "UTF16", type := .byte, accessFlags := 24, slot := 6, constantValue := 0 }]
  methods := #[k8m0, k8m1, k8m2, k8m3, k8m4]
  instanceTypes := #[(.array .byte), .byte, .int, .boolean]
  staticTypes := #[.long, .boolean, (.array (.object "java/io/ObjectStreamField")), .char, (.object "java/util/Comparator"), .byte, .byte]
  resolved := Array.replicate 1451 none
  statics := some 0 }

def pool9 : Array CpInfo := pool [(6, .class_ 8), (1, u "java/lang/Object"), (0, u "<init>"), (0, u "()V"), (1, .class_ 14), (1, u "java/lang/StringUTF16"), (31, u "$assertionsDisabled"), (0, u "Z"), (13, u "HI_BYTE_SHIFT"), (0, u "I"), (2, u "LO_BYTE_SHIFT"), (49, .methodref 12 116), (0, .nameAndType 117 118), (0, u "compress"), (0, u "([CI[BII)I"), (3, u "([CII)[B"), (138, u "coderFromArrayLen"), (0, u "([BI)B"), (106, .class_ 371), (1, u "java/lang/StringUTF16$LinesSpliterator"), (58, u "MAX_LENGTH"), (196, .class_ 628), (0, u "java/lang/StringUTF16$CodePointsSpliterator"), (0, .class_ 630), (0, u "java/lang/StringUTF16$CharsSpliterator")] 4

def k9m0 : Method := { name := "<init>", desc := "()V", sig := { parameters := [], returnType := none }, accessFlags := 0, code := none }
def k9c1 : Code := { maxStack := 2, maxLocals := 2, code := jdk_52_method_15_code, exceptionTable := #[], attributes := #[] }
def k9m1 : Method := { name := "coderFromArrayLen", desc := "([BI)B", sig := { parameters := [(.array .byte), .int], returnType := some .byte }, accessFlags := 8, code := some k9c1 }
def k9c2 : Code := { maxStack := 5, maxLocals := 6, code := jdk_52_method_16_code, exceptionTable := #[], attributes := #[] }
def k9m2 : Method := { name := "compress", desc := "([CII)[B", sig := { parameters := [(.array .char), .int, .int], returnType := some (.array .byte) }, accessFlags := 9, code := some k9c2 }
def k9c3 : Code := { maxStack := 3, maxLocals := 7, code := jdk_52_method_21_code, exceptionTable := #[], attributes := #[] }
def k9m3 : Method := { name := "compress", desc := "([CI[BII)I", sig := { parameters := [(.array .char), .int, (.array .byte), .int, .int], returnType := some .int }, accessFlags := 9, code := some k9c3 }
/-- java/lang/StringUTF16 -/
def k9 : Class := { plain "java/lang/StringUTF16" (some 0) with
  accessFlags := 48
  interfaces := #[]
  cf := some (fileOf pool9 12 #[.nestMembers #[627, 629, 369]] #[{ accessFlags := 0, nameIndex := 9, descriptorIndex := 10, attributes := #[] }, { accessFlags := 8, nameIndex := 261, descriptorIndex := 262, attributes := #[] }, { accessFlags := 9, nameIndex := 117, descriptorIndex := 122, attributes := #[] }, { accessFlags := 9, nameIndex := 117, descriptorIndex := 118, attributes := #[] }] 48 6 #[] #[{ accessFlags := 26, nameIndex := 61, descriptorIndex := 62, attributes := #[] }, { accessFlags := 26, nameIndex := 65, descriptorIndex := 62, attributes := #[] }, { accessFlags := 24, nameIndex := 430, descriptorIndex := 62, attributes := #[] }, { accessFlags := 4120, nameIndex := 46, descriptorIndex := 47, attributes := #[] }])
  fields := #[{ name := "HI_BYTE_SHIFT", type := .int, accessFlags := 26, slot := 0, constantValue := 0 }, { name := "LO_BYTE_SHIFT", type := .int, accessFlags := 26, slot := 1, constantValue := 0 }, { name := "MAX_LENGTH", type := .int, accessFlags := 24, slot := 2, constantValue := 0 }, { name := "$assertionsDisabled", type := .boolean, accessFlags := 4120, slot := 3, constantValue := 0 }]
  methods := #[k9m0, k9m1, k9m2, k9m3]
  instanceTypes := #[]
  staticTypes := #[.int, .int, .int, .boolean]
  resolved := Array.replicate 635 none
  statics := none }

def pool10 : Array CpInfo := pool [(4, .class_ 6), (1, u "java/lang/Object"), (0, u "<init>"), (0, u "()V"), (4, .methodref 14 15), (0, .class_ 16), (0, .nameAndType 17 18), (0, u "java/lang/StringLatin1"), (0, u "inflate"), (0, u "([BI[CII)V"), (102, u "$assertionsDisabled"), (0, u "Z"), (69, u "toChars"), (28, .class_ 223), (1, u "java/lang/StringLatin1$LinesSpliterator"), (44, u "([B)[C"), (121, .class_ 391), (0, u "java/lang/StringLatin1$CharsSpliterator")] 3

def k10m0 : Method := { name := "<init>", desc := "()V", sig := { parameters := [], returnType := none }, accessFlags := 0, code := none }
def k10c1 : Code := { maxStack := 5, maxLocals := 2, code := jdk_43_method_9_code, exceptionTable := #[], attributes := #[] }
def k10m1 : Method := { name := "toChars", desc := "([B)[C", sig := { parameters := [(.array .byte)], returnType := some (.array .char) }, accessFlags := 9, code := some k10c1 }
def k10c2 : Code := { maxStack := 4, maxLocals := 6, code := jdk_43_method_49_code, exceptionTable := #[], attributes := #[] }
def k10m2 : Method := { name := "inflate", desc := "([BI[CII)V", sig := { parameters := [(.array .byte), .int, (.array .char), .int, .int], returnType := none }, accessFlags := 9, code := some k10c2 }
/-- java/lang/StringLatin1 -/
def k10 : Class := { plain "java/lang/StringLatin1" (some 0) with
  accessFlags := 48
  interfaces := #[]
  cf := some (fileOf pool10 14 #[.nestMembers #[390, 221]] #[{ accessFlags := 0, nameIndex := 7, descriptorIndex := 8, attributes := #[] }, { accessFlags := 9, nameIndex := 192, descriptorIndex := 268, attributes := #[] }, { accessFlags := 9, nameIndex := 17, descriptorIndex := 18, attributes := #[] }] 48 4 #[] #[{ accessFlags := 4120, nameIndex := 121, descriptorIndex := 122, attributes := #[] }])
  fields := #[{ name := "$assertionsDisabled", type := .boolean, accessFlags := 4120, slot := 0, constantValue := 0 }]
  methods := #[k10m0, k10m1, k10m2]
  instanceTypes := #[]
  staticTypes := #[.boolean]
  resolved := Array.replicate 395 none
  statics := none }

def pool11 : Array CpInfo := pool [(2, .class_ 4), (1, u "java/lang/Object"), (0, u "<init>"), (0, u "()V"), (1, .class_ 10), (1, u "com/example/libxqtype/libxqtype/XmlCharacters"), (0, u "isDigit"), (0, u "(C)Z"), (12, u "isWhitespace"), (26, .fieldref 8 53), (0, .nameAndType 54 55), (0, u "ASCII_NAME_CHARACTERS"), (0, u "[B"), (3, u "(I)Z"), (31, u "isNameStartChar"), (6, u "NAME"), (0, u "B"), (2, u "NAME_START")] 18

def k11m0 : Method := { name := "<init>", desc := "()V", sig := { parameters := [], returnType := none }, accessFlags := 2, code := none }
def k11c1 : Code := { maxStack := 2, maxLocals := 1, code := prog_147_method_2_code, exceptionTable := #[], attributes := #[] }
def k11m1 : Method := { name := "isDigit", desc := "(C)Z", sig := { parameters := [.char], returnType := some .boolean }, accessFlags := 8, code := some k11c1 }
def k11c2 : Code := { maxStack := 2, maxLocals := 1, code := prog_147_method_4_code, exceptionTable := #[], attributes := #[] }
def k11m2 : Method := { name := "isWhitespace", desc := "(C)Z", sig := { parameters := [.char], returnType := some .boolean }, accessFlags := 8, code := some k11c2 }
def k11c3 : Code := { maxStack := 2, maxLocals := 1, code := prog_147_method_8_code, exceptionTable := #[], attributes := #[] }
def k11m3 : Method := { name := "isNameStartChar", desc := "(I)Z", sig := { parameters := [.int], returnType := some .boolean }, accessFlags := 8, code := some k11c3 }
/-- com/example/libxqtype/libxqtype/XmlCharacters -/
def k11 : Class := { plain "com/example/libxqtype/libxqtype/XmlCharacters" (some 0) with
  accessFlags := 48
  interfaces := #[]
  cf := some (fileOf pool11 8 #[] #[{ accessFlags := 2, nameIndex := 5, descriptorIndex := 6, attributes := #[] }, { accessFlags := 8, nameIndex := 11, descriptorIndex := 12, attributes := #[] }, { accessFlags := 8, nameIndex := 25, descriptorIndex := 12, attributes := #[] }, { accessFlags := 8, nameIndex := 91, descriptorIndex := 59, attributes := #[] }] 48 2 #[] #[{ accessFlags := 26, nameIndex := 98, descriptorIndex := 99, attributes := #[] }, { accessFlags := 26, nameIndex := 102, descriptorIndex := 99, attributes := #[] }, { accessFlags := 26, nameIndex := 54, descriptorIndex := 55, attributes := #[] }])
  fields := #[{ name := "NAME", type := .byte, accessFlags := 26, slot := 0, constantValue := 0 }, { name := "NAME_START", type := .byte, accessFlags := 26, slot := 1, constantValue := 0 }, { name := "ASCII_NAME_CHARACTERS", type := (.array .byte), accessFlags := 26, slot := 2, constantValue := 0 }]
  methods := #[k11m0, k11m1, k11m2, k11m3]
  instanceTypes := #[]
  staticTypes := #[.byte, .byte, (.array .byte)]
  resolved := Array.replicate 121 none
  statics := some 1 }

def pool12 : Array CpInfo := pool [(2, .class_ 4), (1, u "java/lang/Enum"), (0, u "name"), (0, u "Ljava/lang/String;"), (2, u "ordinal"), (0, u "I"), (1, .class_ 14), (1, u "java/lang/Object"), (4, u "hash"), (86, .class_ 108), (1, u "java/lang/Enum$EnumDesc"), (2, .class_ 112), (0, u "java/lang/constant/Constable"), (0, .class_ 114), (0, u "java/lang/Comparable"), (0, .class_ 116), (0, u "java/io/Serializable")] 87

/-- java/lang/Enum -/
def k12 : Class := { plain "java/lang/Enum" (some 0) with
  accessFlags := 1057
  interfaces := #[6, 4, 3]
  cf := some (fileOf pool12 2 #[.nestMembers #[106]] #[] 1057 12 #[111, 113, 115] #[{ accessFlags := 18, nameIndex := 5, descriptorIndex := 6, attributes := #[] }, { accessFlags := 18, nameIndex := 9, descriptorIndex := 10, attributes := #[] }, { accessFlags := 2, nameIndex := 19, descriptorIndex := 10, attributes := #[] }])
  fields := #[{ name := "name", type := (.object "java/lang/String"), accessFlags := 18, slot := 0, constantValue := 0 }, { name := "ordinal", type := .int, accessFlags := 18, slot := 1, constantValue := 0 }, { name := "hash", type := .int, accessFlags := 2, slot := 2, constantValue := 0 }]
  methods := #[]
  instanceTypes := #[(.object "java/lang/String"), .int, .int]
  staticTypes := #[]
  resolved := Array.replicate 204 none
  statics := none }

def pool13 : Array CpInfo := pool [(1, .class_ 2), (0, u "com/example/libxqtype/libxqtype/ExpressionLexer$Kind"), (2, u "INTEGER_LITERAL"), (0, u "Lcom/example/libxqtype/libxqtype/ExpressionLexer$Kind;"), (2, u "DECIMAL_LITERAL"), (2, u "DOUBLE_LITERAL"), (2, u "STRING_LITERAL"), (2, u "NAME"), (2, u "PREFIXED_NAME"), (2, u "LEFT_PARENTHESIS"), (2, u "RIGHT_PARENTHESIS"), (2, u "COMMA"), (2, u "SEMICOLON"), (2, u "MINUS"), (2, u "PLUS"), (2, u "QUESTION_MARK"), (2, u "ASTERISK"), (2, u "EQUALS"), (2, u "NOT_EQUALS"), (2, u "LESS_THAN"), (2, u "LESS_THAN_OR_EQUAL"), (2, u "GREATER_THAN"), (2, u "GREATER_THAN_OR_EQUAL"), (2, u "END"), (2, u "$VALUES"), (0, u "[Lcom/example/libxqtype/libxqtype/ExpressionLexer$Kind;"), (6, .class_ 79), (1, u "java/lang/Enum"), (8, u "spelling"), (0, u "Ljava/lang/String;"), (69, .class_ 160), (0, u "com/example/libxqtype/libxqtype/ExpressionLexer")] 2

/-- com/example/libxqtype/libxqtype/ExpressionLexer$Kind -/
def k13 : Class := { plain "com/example/libxqtype/libxqtype/ExpressionLexer$Kind" (some 12) with
  accessFlags := 16432
  interfaces := #[]
  cf := some (fileOf pool13 1 #[.nestHost 159] #[] 16432 77 #[] #[{ accessFlags := 16409, nameIndex := 5, descriptorIndex := 6, attributes := #[] }, { accessFlags := 16409, nameIndex := 9, descriptorIndex := 6, attributes := #[] }, { accessFlags := 16409, nameIndex := 12, descriptorIndex := 6, attributes := #[] }, { accessFlags := 16409, nameIndex := 15, descriptorIndex := 6, attributes := #[] }, { accessFlags := 16409, nameIndex := 18, descriptorIndex := 6, attributes := #[] }, { accessFlags := 16409, nameIndex := 21, descriptorIndex := 6, attributes := #[] }, { accessFlags := 16409, nameIndex := 24, descriptorIndex := 6, attributes := #[] }, { accessFlags := 16409, nameIndex := 27, descriptorIndex := 6, attributes := #[] }, { accessFlags := 16409, nameIndex := 30, descriptorIndex := 6, attributes := #[] }, { accessFlags := 16409, nameIndex := 33, descriptorIndex := 6, attributes := #[] }, { accessFlags := 16409, nameIndex := 36, descriptorIndex := 6, attributes := #[] }, { accessFlags := 16409, nameIndex := 39, descriptorIndex := 6, attributes := #[] }, { accessFlags := 16409, nameIndex := 42, descriptorIndex := 6, attributes := #[] }, { accessFlags := 16409, nameIndex := 45, descriptorIndex := 6, attributes := #[] }, { accessFlags := 16409, nameIndex := 48, descriptorIndex := 6, attributes := #[] }, { accessFlags := 16409, nameIndex := 51, descriptorIndex := 6, attributes := #[] }, { accessFlags := 16409, nameIndex := 54, descriptorIndex := 6, attributes := #[] }, { accessFlags := 16409, nameIndex := 57, descriptorIndex := 6, attributes := #[] }, { accessFlags := 16409, nameIndex := 60, descriptorIndex := 6, attributes := #[] }, { accessFlags := 16409, nameIndex := 63, descriptorIndex := 6, attributes := #[] }, { accessFlags := 16409, nameIndex := 66, descriptorIndex := 6, attributes := #[] }, { accessFlags := 18, nameIndex := 88, descriptorIndex := 89, attributes := #[] }, { accessFlags := 4122, nameIndex := 69, descriptorIndex := 70, attributes := #[] }])
  fields := #[{ name := "INTEGER_LITERAL", type := (.object "com/example/libxqtype/libxqtype/ExpressionLexer$Kind"), accessFlags := 16409, slot := 0, constantValue := 0 }, { name := "DECIMAL_LITERAL", type := (.object "com/example/libxqtype/libxqtype/ExpressionLexer$Kind"), accessFlags := 16409, slot := 1, constantValue := 0 }, { name := "DOUBLE_LITERAL", type := (.object "com/example/libxqtype/libxqtype/ExpressionLexer$Kind"), accessFlags := 16409, slot := 2, constantValue := 0 }, { name := "STRING_LITERAL", type := (.object "com/example/libxqtype/libxqtype/ExpressionLexer$Kind"), accessFlags := 16409, slot := 3, constantValue := 0 }, { name := "NAME", type := (.object "com/example/libxqtype/libxqtype/ExpressionLexer$Kind"), accessFlags := 16409, slot := 4, constantValue := 0 }, { name := "PREFIXED_NAME", type := (.object "com/example/libxqtype/libxqtype/ExpressionLexer$Kind"), accessFlags := 16409, slot := 5, constantValue := 0 }, { name := "LEFT_PARENTHESIS", type := (.object "com/example/libxqtype/libxqtype/ExpressionLexer$Kind"), accessFlags := 16409, slot := 6, constantValue := 0 }, { name := "RIGHT_PARENTHESIS", type := (.object "com/example/libxqtype/libxqtype/ExpressionLexer$Kind"), accessFlags := 16409, slot := 7, constantValue := 0 }, { name := "COMMA", type := (.object "com/example/libxqtype/libxqtype/ExpressionLexer$Kind"), accessFlags := 16409, slot := 8, constantValue := 0 }, { name := "SEMICOLON", type := (.object "com/example/libxqtype/libxqtype/ExpressionLexer$Kind"), accessFlags := 16409, slot := 9, constantValue := 0 }, { name := "MINUS", type := (.object "com/example/libxqtype/libxqtype/ExpressionLexer$Kind"), accessFlags := 16409, slot := 10, constantValue := 0 }, { name := "PLUS", type := (.object "com/example/libxqtype/libxqtype/ExpressionLexer$Kind"), accessFlags := 16409, slot := 11, constantValue := 0 }, { name := "QUESTION_MARK", type := (.object "com/example/libxqtype/libxqtype/ExpressionLexer$Kind"), accessFlags := 16409, slot := 12, constantValue := 0 }, { name := "ASTERISK", type := (.object "com/example/libxqtype/libxqtype/ExpressionLexer$Kind"), accessFlags := 16409, slot := 13, constantValue := 0 }, { name := "EQUALS", type := (.object "com/example/libxqtype/libxqtype/ExpressionLexer$Kind"), accessFlags := 16409, slot := 14, constantValue := 0 }, { name := "NOT_EQUALS", type := (.object "com/example/libxqtype/libxqtype/ExpressionLexer$Kind"), accessFlags := 16409, slot := 15, constantValue := 0 }, { name := "LESS_THAN", type := (.object "com/example/libxqtype/libxqtype/ExpressionLexer$Kind"), accessFlags := 16409, slot := 16, constantValue := 0 }, { name := "LESS_THAN_OR_EQUAL", type := (.object "com/example/libxqtype/libxqtype/ExpressionLexer$Kind"), accessFlags := 16409, slot := 17, constantValue := 0 }, { name := "GREATER_THAN", type := (.object "com/example/libxqtype/libxqtype/ExpressionLexer$Kind"), accessFlags := 16409, slot := 18, constantValue := 0 }, { name := "GREATER_THAN_OR_EQUAL", type := (.object "com/example/libxqtype/libxqtype/ExpressionLexer$Kind"), accessFlags := 16409, slot := 19, constantValue := 0 }, { name := "END", type := (.object "com/example/libxqtype/libxqtype/ExpressionLexer$Kind"), accessFlags := 16409, slot := 20, constantValue := 0 }, { name := "spelling", type := (.object "java/lang/String"), accessFlags := 18, slot := 3, constantValue := 0 }, { name := "$VALUES", type := (.array (.object "com/example/libxqtype/libxqtype/ExpressionLexer$Kind")), accessFlags := 4122, slot := 21, constantValue := 0 }]
  methods := #[]
  instanceTypes := #[(.object "java/lang/String"), .int, .int, (.object "java/lang/String")]
  staticTypes := #[(.object "com/example/libxqtype/libxqtype/ExpressionLexer$Kind"), (.object "com/example/libxqtype/libxqtype/ExpressionLexer$Kind"), (.object "com/example/libxqtype/libxqtype/ExpressionLexer$Kind"), (.object "com/example/libxqtype/libxqtype/ExpressionLexer$Kind"), (.object "com/example/libxqtype/libxqtype/ExpressionLexer$Kind"), (.object "com/example/libxqtype/libxqtype/ExpressionLexer$Kind"), (.object "com/example/libxqtype/libxqtype/ExpressionLexer$Kind"), (.object "com/example/libxqtype/libxqtype/ExpressionLexer$Kind"), (.object "com/example/libxqtype/libxqtype/ExpressionLexer$Kind"), (.object "com/example/libxqtype/libxqtype/ExpressionLexer$Kind"), (.object "com/example/libxqtype/libxqtype/ExpressionLexer$Kind"), (.object "com/example/libxqtype/libxqtype/ExpressionLexer$Kind"), (.object "com/example/libxqtype/libxqtype/ExpressionLexer$Kind"), (.object "com/example/libxqtype/libxqtype/ExpressionLexer$Kind"), (.object "com/example/libxqtype/libxqtype/ExpressionLexer$Kind"), (.object "com/example/libxqtype/libxqtype/ExpressionLexer$Kind"), (.object "com/example/libxqtype/libxqtype/ExpressionLexer$Kind"), (.object "com/example/libxqtype/libxqtype/ExpressionLexer$Kind"), (.object "com/example/libxqtype/libxqtype/ExpressionLexer$Kind"), (.object "com/example/libxqtype/libxqtype/ExpressionLexer$Kind"), (.object "com/example/libxqtype/libxqtype/ExpressionLexer$Kind"), (.array (.object "com/example/libxqtype/libxqtype/ExpressionLexer$Kind"))]
  resolved := Array.replicate 163 none
  statics := some 2 }

def pool14 : Array CpInfo := pool [(2, .class_ 4), (1, u "java/lang/Object"), (0, u "<init>"), (0, u "()V"), (17, .class_ 26), (1, u "jdk/internal/util/Preconditions"), (28, .class_ 56), (0, u "jdk/internal/util/Preconditions$4"), (57, .class_ 115), (0, u "jdk/internal/util/Preconditions$1"), (7, u "SIOOBE_FORMATTER"), (0, u "Ljava/util/function/BiFunction;"), (0, .class_ 126), (0, u "jdk/internal/util/Preconditions$2"), (3, u "AIOOBE_FORMATTER"), (0, .class_ 132), (0, u "jdk/internal/util/Preconditions$3"), (3, u "IOOBE_FORMATTER")] 57

def k14m0 : Method := { name := "<init>", desc := "()V", sig := { parameters := [], returnType := none }, accessFlags := 1, code := none }
/-- jdk/internal/util/Preconditions -/
def k14 : Class := { plain "jdk/internal/util/Preconditions" (some 0) with
  accessFlags := 33
  interfaces := #[]
  cf := some (fileOf pool14 24 #[.nestMembers #[55, 131, 125, 114]] #[{ accessFlags := 1, nameIndex := 5, descriptorIndex := 6, attributes := #[] }] 33 2 #[] #[{ accessFlags := 25, nameIndex := 123, descriptorIndex := 124, attributes := #[] }, { accessFlags := 25, nameIndex := 130, descriptorIndex := 124, attributes := #[] }, { accessFlags := 25, nameIndex := 136, descriptorIndex := 124, attributes := #[] }])
  fields := #[{ name := "SIOOBE_FORMATTER", type := (.object "java/util/function/BiFunction"), accessFlags := 25, slot := 0, constantValue := 0 }, { name := "AIOOBE_FORMATTER", type := (.object "java/util/function/BiFunction"), accessFlags := 25, slot := 1, constantValue := 0 }, { name := "IOOBE_FORMATTER", type := (.object "java/util/function/BiFunction"), accessFlags := 25, slot := 2, constantValue := 0 }]
  methods := #[k14m0]
  instanceTypes := #[]
  staticTypes := #[(.object "java/util/function/BiFunction"), (.object "java/util/function/BiFunction"), (.object "java/util/function/BiFunction")]
  resolved := Array.replicate 194 none
  statics := some 3 }

def pool15 : Array CpInfo := pool [(9, u "<init>"), (6, .class_ 18), (1, u "java/lang/Object"), (0, u "()V"), (1, .class_ 23), (1, u "jdk/internal/util/ArraysSupport"), (0, u "LOG2_ARRAY_LONG_INDEX_SCALE"), (0, u "I"), (2, u "U"), (0, u "Ljdk/internal/misc/Unsafe;"), (8, u "BIG_ENDIAN"), (0, u "Z"), (8, u "LOG2_BYTE_BIT_SIZE"), (4, u "LOG2_ARRAY_INT_INDEX_SCALE"), (54, u "JLA"), (0, u "Ljdk/internal/access/JavaLangAccess;"), (11, u "LOG2_ARRAY_BOOLEAN_INDEX_SCALE"), (9, u "LOG2_ARRAY_BYTE_INDEX_SCALE"), (5, u "LOG2_ARRAY_CHAR_INDEX_SCALE"), (5, u "LOG2_ARRAY_SHORT_INDEX_SCALE"), (18, u "LOG2_ARRAY_FLOAT_INDEX_SCALE"), (24, u "LOG2_ARRAY_DOUBLE_INDEX_SCALE"), (89, u "T_BOOLEAN"), (2, u "T_CHAR"), (1, u "T_FLOAT"), (1, u "T_DOUBLE"), (1, u "T_BYTE"), (1, u "T_SHORT"), (1, u "T_INT"), (1, u "T_LONG"), (1, u "SOFT_MAX_ARRAY_LENGTH")] 83

def k15m0 : Method := { name := "<init>", desc := "()V", sig := { parameters := [], returnType := none }, accessFlags := 2, code := none }
/-- jdk/internal/util/ArraysSupport -/
def k15 : Class := { plain "jdk/internal/util/ArraysSupport" (some 0) with
  accessFlags := 33
  interfaces := #[]
  cf := some (fileOf pool15 21 #[] #[{ accessFlags := 2, nameIndex := 9, descriptorIndex := 19, attributes := #[] }] 33 16 #[] #[{ accessFlags := 24, nameIndex := 28, descriptorIndex := 29, attributes := #[] }, { accessFlags := 26, nameIndex := 38, descriptorIndex := 39, attributes := #[] }, { accessFlags := 25, nameIndex := 121, descriptorIndex := 25, attributes := #[] }, { accessFlags := 25, nameIndex := 131, descriptorIndex := 25, attributes := #[] }, { accessFlags := 25, nameIndex := 137, descriptorIndex := 25, attributes := #[] }, { accessFlags := 25, nameIndex := 143, descriptorIndex := 25, attributes := #[] }, { accessFlags := 25, nameIndex := 53, descriptorIndex := 25, attributes := #[] }, { accessFlags := 25, nameIndex := 24, descriptorIndex := 25, attributes := #[] }, { accessFlags := 25, nameIndex := 162, descriptorIndex := 25, attributes := #[] }, { accessFlags := 25, nameIndex := 187, descriptorIndex := 25, attributes := #[] }, { accessFlags := 26, nameIndex := 48, descriptorIndex := 25, attributes := #[] }, { accessFlags := 25, nameIndex := 277, descriptorIndex := 25, attributes := #[] }, { accessFlags := 25, nameIndex := 280, descriptorIndex := 25, attributes := #[] }, { accessFlags := 25, nameIndex := 282, descriptorIndex := 25, attributes := #[] }, { accessFlags := 25, nameIndex := 284, descriptorIndex := 25, attributes := #[] }, { accessFlags := 25, nameIndex := 286, descriptorIndex := 25, attributes := #[] }, { accessFlags := 25, nameIndex := 288, descriptorIndex := 25, attributes := #[] }, { accessFlags := 25, nameIndex := 290, descriptorIndex := 25, attributes := #[] }, { accessFlags := 25, nameIndex := 292, descriptorIndex := 25, attributes := #[] }, { accessFlags := 26, nameIndex := 108, descriptorIndex := 109, attributes := #[] }, { accessFlags := 25, nameIndex := 294, descriptorIndex := 25, attributes := #[] }])
  fields := #[{ name := "U", type := (.object "jdk/internal/misc/Unsafe"), accessFlags := 24, slot := 0, constantValue := 0 }, { name := "BIG_ENDIAN", type := .boolean, accessFlags := 26, slot := 1, constantValue := 0 }, { name := "LOG2_ARRAY_BOOLEAN_INDEX_SCALE", type := .int, accessFlags := 25, slot := 2, constantValue := 0 }, { name := "LOG2_ARRAY_BYTE_INDEX_SCALE", type := .int, accessFlags := 25, slot := 3, constantValue := 0 }, { name := "LOG2_ARRAY_CHAR_INDEX_SCALE", type := .int, accessFlags := 25, slot := 4, constantValue := 0 }, { name := "LOG2_ARRAY_SHORT_INDEX_SCALE", type := .int, accessFlags := 25, slot := 5, constantValue := 0 }, { name := "LOG2_ARRAY_INT_INDEX_SCALE", type := .int, accessFlags := 25, slot := 6, constantValue := 0 }, { name := "LOG2_ARRAY_LONG_INDEX_SCALE", type := .int, accessFlags := 25, slot := 7, constantValue := 0 }, { name := "LOG2_ARRAY_FLOAT_INDEX_SCALE", type := .int, accessFlags := 25, slot := 8, constantValue := 0 }, { name := "LOG2_ARRAY_DOUBLE_INDEX_SCALE", type := .int, accessFlags := 25, slot := 9, constantValue := 0 }, { name := "LOG2_BYTE_BIT_SIZE", type := .int, accessFlags := 26, slot := 10, constantValue := 0 }, { name := "T_BOOLEAN", type := .int, accessFlags := 25, slot := 11, constantValue := 0 }, { name := "T_CHAR", type := .int, accessFlags := 25, slot := 12, constantValue := 0 }, { name := "T_FLOAT", type := .int, accessFlags := 25, slot := 13, constantValue := 0 }, { name := "T_DOUBLE", type := .int, accessFlags := 25, slot := 14, constantValue := 0 }, { name := "T_BYTE", type := .int, accessFlags := 25, slot := 15, constantValue := 0 }, { name := "T_SHORT", type := .int, accessFlags := 25, slot := 16, constantValue := 0 }, { name := "T_INT", type := .int, accessFlags := 25, slot := 17, constantValue := 0 }, { name := "T_LONG", type := .int, accessFlags := 25, slot := 18, constantValue := 0 }, { name := "JLA", type := (.object "jdk/internal/access/JavaLangAccess"), accessFlags := 26, slot := 19, constantValue := 0 }, { name := "SOFT_MAX_ARRAY_LENGTH", type := .int, accessFlags := 25, slot := 20, constantValue := 0 }]
  methods := #[k15m0]
  instanceTypes := #[]
  staticTypes := #[(.object "jdk/internal/misc/Unsafe"), .boolean, .int, .int, .int, .int, .int, .int, .int, .int, .int, .int, .int, .int, .int, .int, .int, .int, .int, (.object "jdk/internal/access/JavaLangAccess"), .int]
  resolved := Array.replicate 378 none
  statics := none }

def pool16 : Array CpInfo := pool [(1, u "java/lang/Cloneable"), (0, .class_ 1), (0, u "java/lang/Object"), (0, .class_ 3)] 3

/-- java/lang/Cloneable -/
def k16 : Class := { plain "java/lang/Cloneable" (some 0) with
  accessFlags := 1537
  interfaces := #[]
  cf := some (fileOf pool16 2 #[] #[] 1537 4 #[] #[])
  fields := #[]
  methods := #[]
  instanceTypes := #[]
  staticTypes := #[]
  resolved := Array.replicate 8 none
  statics := none }

/-- the primitive byte -/
def k17 : Class := { plain "byte" none with kind := .primitive 'B', accessFlags := 0x411 }
/-- [B -/
def k18 : Class := { plain "[B" (some 0) with kind := .array 17 .byte, interfaces := #[16, 3], accessFlags := 1041 }

/-- the primitive char -/
def k19 : Class := { plain "char" none with kind := .primitive 'C', accessFlags := 0x411 }
/-- [C -/
def k20 : Class := { plain "[C" (some 0) with kind := .array 19 .char, interfaces := #[16, 3], accessFlags := 1041 }

/-- the primitive int -/
def k21 : Class := { plain "int" none with kind := .primitive 'I', accessFlags := 0x411 }
/-- [I -/
def k22 : Class := { plain "[I" (some 0) with kind := .array 21 .int, interfaces := #[16, 3], accessFlags := 1041 }

/-- the primitive long -/
def k23 : Class := { plain "long" none with kind := .primitive 'J', accessFlags := 0x411 }
/-- [J -/
def k24 : Class := { plain "[J" (some 0) with kind := .array 23 .long, interfaces := #[16, 3], accessFlags := 1041 }

def heap : Heap := #[{ cls := 8, slots := #[.long 0, .int 1, .null, .int 0, .null, .int 0, .int 0], vm := .statics 8 },
  { cls := 11, slots := #[.int 0, .int 0, .ref 5], vm := .statics 11 },
  { cls := 13, slots := #[.ref 4, .ref 4, .null, .null, .null, .null, .null, .null, .null, .null, .null, .null, .null, .null, .null, .null, .null, .null, .null, .null, .null, .null], vm := .statics 13 },
  { cls := 14, slots := #[.null, .null, .null], vm := .statics 14 },
  { cls := 13, slots := #[.null, .int 0, .int 0, .null], vm := .none },
  { cls := 18, slots := #[.int 0, .int 0, .int 0, .int 0, .int 0, .int 0, .int 0, .int 0, .int 0, .int 0, .int 0, .int 0, .int 0, .int 0, .int 0, .int 0, .int 0, .int 0, .int 0, .int 0, .int 0, .int 0, .int 0, .int 0, .int 0, .int 0, .int 0, .int 0, .int 0, .int 0, .int 0, .int 0, .int 0, .int 0, .int 0, .int 0, .int 0, .int 0, .int 0, .int 0, .int 0, .int 0, .int 0, .int 0, .int 0, .int 1, .int 1, .int 0, .int 1, .int 1, .int 1, .int 1, .int 1, .int 1, .int 1, .int 1, .int 1, .int 1, .int 0, .int 0, .int 0, .int 0, .int 0, .int 0, .int 0, .int 2, .int 2, .int 2, .int 2, .int 2, .int 2, .int 2, .int 2, .int 2, .int 2, .int 2, .int 2, .int 2, .int 2, .int 2, .int 2, .int 2, .int 2, .int 2, .int 2, .int 2, .int 2, .int 2, .int 2, .int 2, .int 2, .int 0, .int 0, .int 0, .int 0, .int 2, .int 0, .int 2, .int 2, .int 2, .int 2, .int 2, .int 2, .int 2, .int 2, .int 2, .int 2, .int 2, .int 2, .int 2, .int 2, .int 2, .int 2, .int 2, .int 2, .int 2, .int 2, .int 2, .int 2, .int 2, .int 2, .int 2, .int 2, .int 0, .int 0, .int 0, .int 0, .int 0], vm := .none }]
def classes : Array Class := #[k0, k1, k2, k3, k4, k5, k6, k7, k8, k9, k10, k11, k12, k13, k14, k15, k16, k17, k18, k19, k20, k21, k22, k23, k24]
def interned : List (Array UInt16 × Addr) := []
def slotsUsed : Nat := 167
def theMethod : MethodId := ⟨1, 1⟩
def args0 : Array Value := #[.long 7188221419849223263, .int 5, .int 2, .int 1]
def aboutOver (below : List Frame) : State where
  vm := { classes := classes, interned := interned.toArray }
  heap := heap
  slotsUsed := slotsUsed
  threads := #[{ frames := .invoking theMethod args0 :: below }]
def below0 : List Frame := [.native { method := ⟨0, 0⟩, args := #[] }]
def about1 : State := aboutOver below0
def p0 : Program := .bare "" "" ""
def e0 : Env := launch0.env 0 0 0
theorem w_frames : about1.frames = Frame.invoking theMethod args0 :: below0 := rfl
set_option maxRecDepth 65536 in
theorem w_args : argsFit about1.vm theMethod args0 = true := by decide +kernel
set_option maxRecDepth 65536 in
theorem w_heap : heapFits about1 = true := by decide +kernel
set_option maxRecDepth 65536 in
theorem w_runnable : about1.curStatus? = some .runnable := by decide +kernel
set_option maxRecDepth 65536 in
theorem w_alone : about1.alone = true := by decide +kernel
set_option maxRecDepth 65536 in
theorem w_named : about1.methodNamed? x = some theMethod := by decide +kernel
set_option maxRecDepth 65536 in
theorem w_hears : about1.hears theMethod below0 = true := by decide +kernel
set_option maxRecDepth 65536 in
theorem w_ripe : about1.ripe theMethod args0 below0 = true := by decide +kernel
theorem w_running : about1.status = .running := rfl
set_option maxRecDepth 65536 in
theorem w_room : about1.hasRoom e0.platform room_1 = true :=
  launch0.hasRoom_least _ room_1 (by decide +kernel) (by decide +kernel) (by decide +kernel) (by decide +kernel) (by decide +kernel) (by decide +kernel)
theorem allAtoms_all (ts : List Jvm.Cond) (a : Array Jvm.Value) (st : Jvm.State) : (allAtoms ts).before a st = ts.all (fun c => c.before a st) := by
  induction ts with
  | nil => rfl
  | cons c t ih =>
    show (Jvm.Cond.and c (allAtoms t)).before a st = _
    rw [Jvm.Cond.before_and, ih, List.all_cons]
def words1 : List Jvm.Cond := Jvm.Cond.code x code maxLocals ret :: tables_1
/-- a 'code' word, met by the world's own term for the bytes: nothing is compared byte by byte -/
theorem code_word {y : MethodName} {bytes : ByteArray} {mx : Nat} {rt : Option FieldType} {a : Array Value} {s : State} {m : MethodId} {meth : Method} {c : Code} (h1 : s.methodNamed? y = some m) (h2 : s.vm.method? m = some meth) (h3 : meth.code = some c) (h4 : c.code = bytes)
    (h5 : (c.maxLocals == mx && c.exceptionTable.isEmpty && decide (c.maxStack ≤ mostOperands) && decide (meth.sig.returnType = rt) && !meth.locks && decide (parseMethodDescriptor y.desc = some meth.sig)) = true) : (Jvm.Cond.code y bytes mx rt).before a s = true := by
  simp only [Bool.and_eq_true, beq_iff_eq, Bool.not_eq_true', decide_eq_true_eq] at h5
  obtain ⟨⟨⟨⟨⟨g1, g2⟩, g3⟩, g4⟩, g5⟩, g6⟩ := h5
  simp [Cond.before, Cond.holds, Cond.value, h1, h2, h3, h4, g1, g2, g3, g4, g5, g6]
def isCode : Jvm.Cond → Bool
  | .code _ _ _ _ => true
  | _ => false
theorem all_split {L : List Jvm.Cond} {P : Jvm.Cond → Bool} (h1 : L.all (fun c => isCode c || P c) = true) (h2 : ∀ c ∈ L.filter isCode, P c = true) : L.all P = true := by
  refine List.all_eq_true.mpr fun c hc => ?_
  have h := List.all_eq_true.mp h1 c hc
  rcases Bool.eq_false_or_eq_true (isCode c) with hi | hi
  · exact h2 c (List.mem_filter.mpr ⟨hc, hi⟩)
  · simpa [hi] using h
set_option maxRecDepth 65536 in
theorem w_c0 : (Jvm.Cond.code x code maxLocals ret).before args0 about1 = true := code_word (m := ⟨1, 1⟩) (meth := k1m1) (c := k1c1) (by decide +kernel) rfl rfl rfl (by decide +kernel)
set_option maxRecDepth 65536 in
theorem w_c1 : (Jvm.Cond.code ({ cls := "com/example/libxqtype/libxqtype/ExpressionLexerUnscaledValuePinLaw", name := "ch", desc := "(IIIIJ[J)C" } : Jvm.MethodName) method_3_code (9 : Nat) (Option.some Jvm.ClassFile.FieldType.char)).before args0 about1 = true := code_word (m := ⟨1, 2⟩) (meth := k1m2) (c := k1c2) (by decide +kernel) rfl rfl rfl (by decide +kernel)
set_option maxRecDepth 65536 in
theorem w_c2 : (Jvm.Cond.code ({ cls := "java/lang/String", name := "<init>", desc := "([C)V" } : Jvm.MethodName) jdk_42_method_3_code (2 : Nat) (Option.none : Option Jvm.ClassFile.FieldType)).before args0 about1 = true := code_word (m := ⟨8, 1⟩) (meth := k8m1) (c := k8c1) (by decide +kernel) rfl rfl rfl (by decide +kernel)
set_option maxRecDepth 65536 in
theorem w_c3 : (Jvm.Cond.code ({ cls := "java/lang/String", name := "<init>", desc := "([CIILjava/lang/Void;)V" } : Jvm.MethodName) jdk_42_method_149_code (6 : Nat) (Option.none : Option Jvm.ClassFile.FieldType)).before args0 about1 = true := code_word (m := ⟨8, 3⟩) (meth := k8m3) (c := k8c3) (by decide +kernel) rfl rfl rfl (by decide +kernel)
set_option maxRecDepth 65536 in
theorem w_c4 : (Jvm.Cond.code ({ cls := "java/lang/Object", name := "<init>", desc := "()V" } : Jvm.MethodName) object_method_1_code (1 : Nat) (Option.none : Option Jvm.ClassFile.FieldType)).before args0 about1 = true := code_word (m := ⟨0, 0⟩) (meth := k0m0) (c := k0c0) (by decide +kernel) rfl rfl rfl (by decide +kernel)
set_option maxRecDepth 65536 in
theorem w_c5 : (Jvm.Cond.code ({ cls := "java/lang/StringUTF16", name := "compress", desc := "([CII)[B" } : Jvm.MethodName) jdk_52_method_16_code (6 : Nat) (Option.some (Jvm.ClassFile.FieldType.array Jvm.ClassFile.FieldType.byte))).before args0 about1 = true := code_word (m := ⟨9, 2⟩) (meth := k9m2) (c := k9c2) (by decide +kernel) rfl rfl rfl (by decide +kernel)
set_option maxRecDepth 65536 in
theorem w_c6 : (Jvm.Cond.code ({ cls := "java/lang/StringUTF16", name := "compress", desc := "([CI[BII)I" } : Jvm.MethodName) jdk_52_method_21_code (7 : Nat) (Option.some Jvm.ClassFile.FieldType.int)).before args0 about1 = true := code_word (m := ⟨9, 3⟩) (meth := k9m3) (c := k9c3) (by decide +kernel) rfl rfl rfl (by decide +kernel)
set_option maxRecDepth 65536 in
theorem w_c7 : (Jvm.Cond.code ({ cls := "java/lang/StringUTF16", name := "coderFromArrayLen", desc := "([BI)B" } : Jvm.MethodName) jdk_52_method_15_code (2 : Nat) (Option.some Jvm.ClassFile.FieldType.byte)).before args0 about1 = true := code_word (m := ⟨9, 1⟩) (meth := k9m1) (c := k9c1) (by decide +kernel) rfl rfl rfl (by decide +kernel)
set_option maxRecDepth 65536 in
theorem w_c8 : (Jvm.Cond.code ({ cls := "com/example/libxqtype/libxqtype/ExpressionLexer", name := "<init>", desc := "(Ljava/lang/String;)V" } : Jvm.MethodName) prog_59_method_1_code (2 : Nat) (Option.none : Option Jvm.ClassFile.FieldType)).before args0 about1 = true := code_word (m := ⟨2, 0⟩) (meth := k2m0) (c := k2c0) (by decide +kernel) rfl rfl rfl (by decide +kernel)
set_option maxRecDepth 65536 in
theorem w_c9 : (Jvm.Cond.code ({ cls := "java/lang/String", name := "toCharArray", desc := "()[C" } : Jvm.MethodName) jdk_42_method_129_code (1 : Nat) (Option.some (Jvm.ClassFile.FieldType.array Jvm.ClassFile.FieldType.char))).before args0 about1 = true := code_word (m := ⟨8, 2⟩) (meth := k8m2) (c := k8c2) (by decide +kernel) rfl rfl rfl (by decide +kernel)
set_option maxRecDepth 65536 in
theorem w_c10 : (Jvm.Cond.code ({ cls := "java/lang/String", name := "isLatin1", desc := "()Z" } : Jvm.MethodName) jdk_42_method_154_code (1 : Nat) (Option.some Jvm.ClassFile.FieldType.boolean)).before args0 about1 = true := code_word (m := ⟨8, 4⟩) (meth := k8m4) (c := k8c4) (by decide +kernel) rfl rfl rfl (by decide +kernel)
set_option maxRecDepth 65536 in
theorem w_c11 : (Jvm.Cond.code ({ cls := "java/lang/StringLatin1", name := "toChars", desc := "([B)[C" } : Jvm.MethodName) jdk_43_method_9_code (2 : Nat) (Option.some (Jvm.ClassFile.FieldType.array Jvm.ClassFile.FieldType.char))).before args0 about1 = true := code_word (m := ⟨10, 1⟩) (meth := k10m1) (c := k10c1) (by decide +kernel) rfl rfl rfl (by decide +kernel)
set_option maxRecDepth 65536 in
theorem w_c12 : (Jvm.Cond.code ({ cls := "java/lang/StringLatin1", name := "inflate", desc := "([BI[CII)V" } : Jvm.MethodName) jdk_43_method_49_code (6 : Nat) (Option.none : Option Jvm.ClassFile.FieldType)).before args0 about1 = true := code_word (m := ⟨10, 2⟩) (meth := k10m2) (c := k10c2) (by decide +kernel) rfl rfl rfl (by decide +kernel)
set_option maxRecDepth 65536 in
theorem w_c13 : (Jvm.Cond.code ({ cls := "com/example/libxqtype/libxqtype/ExpressionLexer", name := "scan", desc := "(I)V" } : Jvm.MethodName) prog_59_method_15_code (4 : Nat) (Option.none : Option Jvm.ClassFile.FieldType)).before args0 about1 = true := code_word (m := ⟨2, 2⟩) (meth := k2m2) (c := k2c2) (by decide +kernel) rfl rfl rfl (by decide +kernel)
set_option maxRecDepth 65536 in
theorem w_c14 : (Jvm.Cond.code ({ cls := "com/example/libxqtype/libxqtype/XmlCharacters", name := "isWhitespace", desc := "(C)Z" } : Jvm.MethodName) prog_147_method_4_code (1 : Nat) (Option.some Jvm.ClassFile.FieldType.boolean)).before args0 about1 = true := code_word (m := ⟨11, 2⟩) (meth := k11m2) (c := k11c2) (by decide +kernel) rfl rfl rfl (by decide +kernel)
set_option maxRecDepth 65536 in
theorem w_c15 : (Jvm.Cond.code ({ cls := "com/example/libxqtype/libxqtype/XmlCharacters", name := "isDigit", desc := "(C)Z" } : Jvm.MethodName) prog_147_method_2_code (1 : Nat) (Option.some Jvm.ClassFile.FieldType.boolean)).before args0 about1 = true := code_word (m := ⟨11, 1⟩) (meth := k11m1) (c := k11c1) (by decide +kernel) rfl rfl rfl (by decide +kernel)
set_option maxRecDepth 65536 in
theorem w_c16 : (Jvm.Cond.code ({ cls := "com/example/libxqtype/libxqtype/ExpressionLexer", name := "numericLiteral", desc := "()V" } : Jvm.MethodName) prog_59_method_20_code (3 : Nat) (Option.none : Option Jvm.ClassFile.FieldType)).before args0 about1 = true := code_word (m := ⟨2, 3⟩) (meth := k2m3) (c := k2c3) (by decide +kernel) rfl rfl rfl (by decide +kernel)
set_option maxRecDepth 65536 in
theorem w_c17 : (Jvm.Cond.code ({ cls := "com/example/libxqtype/libxqtype/ExpressionLexer", name := "digitsEnd", desc := "(I)I" } : Jvm.MethodName) prog_59_method_31_code (4 : Nat) (Option.some Jvm.ClassFile.FieldType.int)).before args0 about1 = true := code_word (m := ⟨2, 5⟩) (meth := k2m5) (c := k2c5) (by decide +kernel) rfl rfl rfl (by decide +kernel)
set_option maxRecDepth 65536 in
theorem w_c18 : (Jvm.Cond.code ({ cls := "com/example/libxqtype/libxqtype/ExpressionLexer", name := "charAt", desc := "(I)C" } : Jvm.MethodName) prog_59_method_32_code (2 : Nat) (Option.some Jvm.ClassFile.FieldType.char)).before args0 about1 = true := code_word (m := ⟨2, 6⟩) (meth := k2m6) (c := k2c6) (by decide +kernel) rfl rfl rfl (by decide +kernel)
set_option maxRecDepth 65536 in
theorem w_c19 : (Jvm.Cond.code ({ cls := "com/example/libxqtype/libxqtype/ExpressionLexer", name := "startsName", desc := "(I)Z" } : Jvm.MethodName) prog_59_method_29_code (3 : Nat) (Option.some Jvm.ClassFile.FieldType.boolean)).before args0 about1 = true := code_word (m := ⟨2, 4⟩) (meth := k2m4) (c := k2c4) (by decide +kernel) rfl rfl rfl (by decide +kernel)
set_option maxRecDepth 65536 in
theorem w_c20 : (Jvm.Cond.code ({ cls := "com/example/libxqtype/libxqtype/XmlCharacters", name := "isNameStartChar", desc := "(I)Z" } : Jvm.MethodName) prog_147_method_8_code (1 : Nat) (Option.some Jvm.ClassFile.FieldType.boolean)).before args0 about1 = true := code_word (m := ⟨11, 3⟩) (meth := k11m3) (c := k11c3) (by decide +kernel) rfl rfl rfl (by decide +kernel)
set_option maxRecDepth 65536 in
theorem w_c21 : (Jvm.Cond.code ({ cls := "com/example/libxqtype/libxqtype/ExpressionLexer", name := "unscaledValue", desc := "()J" } : Jvm.MethodName) prog_59_method_6_code (6 : Nat) (Option.some Jvm.ClassFile.FieldType.long)).before args0 about1 = true := code_word (m := ⟨2, 1⟩) (meth := k2m1) (c := k2c1) (by decide +kernel) rfl rfl rfl (by decide +kernel)
def codes1 : List Jvm.Cond := [Jvm.Cond.code x code maxLocals ret, Jvm.Cond.code ({ cls := "com/example/libxqtype/libxqtype/ExpressionLexerUnscaledValuePinLaw", name := "ch", desc := "(IIIIJ[J)C" } : Jvm.MethodName) method_3_code (9 : Nat) (Option.some Jvm.ClassFile.FieldType.char), Jvm.Cond.code ({ cls := "java/lang/String", name := "<init>", desc := "([C)V" } : Jvm.MethodName) jdk_42_method_3_code (2 : Nat) (Option.none : Option Jvm.ClassFile.FieldType), Jvm.Cond.code ({ cls := "java/lang/String", name := "<init>", desc := "([CIILjava/lang/Void;)V" } : Jvm.MethodName) jdk_42_method_149_code (6 : Nat) (Option.none : Option Jvm.ClassFile.FieldType), Jvm.Cond.code ({ cls := "java/lang/Object", name := "<init>", desc := "()V" } : Jvm.MethodName) object_method_1_code (1 : Nat) (Option.none : Option Jvm.ClassFile.FieldType), Jvm.Cond.code ({ cls := "java/lang/StringUTF16", name := "compress", desc := "([CII)[B" } : Jvm.MethodName) jdk_52_method_16_code (6 : Nat) (Option.some (Jvm.ClassFile.FieldType.array Jvm.ClassFile.FieldType.byte)), Jvm.Cond.code ({ cls := "java/lang/StringUTF16", name := "compress", desc := "([CI[BII)I" } : Jvm.MethodName) jdk_52_method_21_code (7 : Nat) (Option.some Jvm.ClassFile.FieldType.int), Jvm.Cond.code ({ cls := "java/lang/StringUTF16", name := "coderFromArrayLen", desc := "([BI)B" } : Jvm.MethodName) jdk_52_method_15_code (2 : Nat) (Option.some Jvm.ClassFile.FieldType.byte), Jvm.Cond.code ({ cls := "com/example/libxqtype/libxqtype/ExpressionLexer", name := "<init>", desc := "(Ljava/lang/String;)V" } : Jvm.MethodName) prog_59_method_1_code (2 : Nat) (Option.none : Option Jvm.ClassFile.FieldType), Jvm.Cond.code ({ cls := "java/lang/String", name := "toCharArray", desc := "()[C" } : Jvm.MethodName) jdk_42_method_129_code (1 : Nat) (Option.some (Jvm.ClassFile.FieldType.array Jvm.ClassFile.FieldType.char)), Jvm.Cond.code ({ cls := "java/lang/String", name := "isLatin1", desc := "()Z" } : Jvm.MethodName) jdk_42_method_154_code (1 : Nat) (Option.some Jvm.ClassFile.FieldType.boolean), Jvm.Cond.code ({ cls := "java/lang/StringLatin1", name := "toChars", desc := "([B)[C" } : Jvm.MethodName) jdk_43_method_9_code (2 : Nat) (Option.some (Jvm.ClassFile.FieldType.array Jvm.ClassFile.FieldType.char)), Jvm.Cond.code ({ cls := "java/lang/StringLatin1", name := "inflate", desc := "([BI[CII)V" } : Jvm.MethodName) jdk_43_method_49_code (6 : Nat) (Option.none : Option Jvm.ClassFile.FieldType), Jvm.Cond.code ({ cls := "com/example/libxqtype/libxqtype/ExpressionLexer", name := "scan", desc := "(I)V" } : Jvm.MethodName) prog_59_method_15_code (4 : Nat) (Option.none : Option Jvm.ClassFile.FieldType), Jvm.Cond.code ({ cls := "com/example/libxqtype/libxqtype/XmlCharacters", name := "isWhitespace", desc := "(C)Z" } : Jvm.MethodName) prog_147_method_4_code (1 : Nat) (Option.some Jvm.ClassFile.FieldType.boolean), Jvm.Cond.code ({ cls := "com/example/libxqtype/libxqtype/XmlCharacters", name := "isDigit", desc := "(C)Z" } : Jvm.MethodName) prog_147_method_2_code (1 : Nat) (Option.some Jvm.ClassFile.FieldType.boolean), Jvm.Cond.code ({ cls := "com/example/libxqtype/libxqtype/ExpressionLexer", name := "numericLiteral", desc := "()V" } : Jvm.MethodName) prog_59_method_20_code (3 : Nat) (Option.none : Option Jvm.ClassFile.FieldType), Jvm.Cond.code ({ cls := "com/example/libxqtype/libxqtype/ExpressionLexer", name := "digitsEnd", desc := "(I)I" } : Jvm.MethodName) prog_59_method_31_code (4 : Nat) (Option.some Jvm.ClassFile.FieldType.int), Jvm.Cond.code ({ cls := "com/example/libxqtype/libxqtype/ExpressionLexer", name := "charAt", desc := "(I)C" } : Jvm.MethodName) prog_59_method_32_code (2 : Nat) (Option.some Jvm.ClassFile.FieldType.char), Jvm.Cond.code ({ cls := "com/example/libxqtype/libxqtype/ExpressionLexer", name := "startsName", desc := "(I)Z" } : Jvm.MethodName) prog_59_method_29_code (3 : Nat) (Option.some Jvm.ClassFile.FieldType.boolean), Jvm.Cond.code ({ cls := "com/example/libxqtype/libxqtype/XmlCharacters", name := "isNameStartChar", desc := "(I)Z" } : Jvm.MethodName) prog_147_method_8_code (1 : Nat) (Option.some Jvm.ClassFile.FieldType.boolean), Jvm.Cond.code ({ cls := "com/example/libxqtype/libxqtype/ExpressionLexer", name := "unscaledValue", desc := "()J" } : Jvm.MethodName) prog_59_method_6_code (6 : Nat) (Option.some Jvm.ClassFile.FieldType.long)]
set_option maxRecDepth 65536 in
theorem codes_eq : words1.filter isCode = codes1 := rfl
theorem w_codes : ∀ c ∈ words1.filter isCode, c.before args0 about1 = true := by
  rw [codes_eq]
  intro c hc
  simp only [codes1, List.mem_cons, List.not_mem_nil, or_false] at hc
  rcases hc with rfl | rfl | rfl | rfl | rfl | rfl | rfl | rfl | rfl | rfl | rfl | rfl | rfl | rfl | rfl | rfl | rfl | rfl | rfl | rfl | rfl | rfl
  · exact w_c0
  · exact w_c1
  · exact w_c2
  · exact w_c3
  · exact w_c4
  · exact w_c5
  · exact w_c6
  · exact w_c7
  · exact w_c8
  · exact w_c9
  · exact w_c10
  · exact w_c11
  · exact w_c12
  · exact w_c13
  · exact w_c14
  · exact w_c15
  · exact w_c16
  · exact w_c17
  · exact w_c18
  · exact w_c19
  · exact w_c20
  · exact w_c21
set_option maxRecDepth 65536 in
theorem w_t1 : (words1.take 24).all (fun c => isCode c || c.before args0 about1) = true := by decide +kernel
set_option maxRecDepth 65536 in
theorem w_t2 : ((words1.drop 24).take 24).all (fun c => isCode c || c.before args0 about1) = true := by decide +kernel
set_option maxRecDepth 65536 in
theorem w_t3 : (((words1.drop 24).drop 24).take 24).all (fun c => isCode c || c.before args0 about1) = true := by decide +kernel
set_option maxRecDepth 65536 in
theorem w_t4 : ((((words1.drop 24).drop 24).drop 24).take 24).all (fun c => isCode c || c.before args0 about1) = true := by decide +kernel
set_option maxRecDepth 65536 in
theorem w_t5 : (((((words1.drop 24).drop 24).drop 24).drop 24).take 24).all (fun c => isCode c || c.before args0 about1) = true := by decide +kernel
set_option maxRecDepth 65536 in
theorem w_t6 : (((((words1.drop 24).drop 24).drop 24).drop 24).drop 24).all (fun c => isCode c || c.before args0 about1) = true := by decide +kernel
theorem w_tables : (allAtoms (Jvm.Cond.code x code maxLocals ret :: tables_1)).before args0 about1 = true := by
  rw [allAtoms_all]
  show words1.all (fun c => c.before args0 about1) = true
  refine all_split ?_ w_codes
  rw [← List.take_append_drop 24 words1, List.all_append, w_t1, ← List.take_append_drop 24 (words1.drop 24), List.all_append, w_t2, ← List.take_append_drop 24 ((words1.drop 24).drop 24), List.all_append, w_t3, ← List.take_append_drop 24 (((words1.drop 24).drop 24).drop 24), List.all_append, w_t4, ← List.take_append_drop 24 ((((words1.drop 24).drop 24).drop 24).drop 24), List.all_append, w_t5, w_t6]
  rfl
set_option maxRecDepth 65536 in
theorem w_rest : rest_1_c.before args0 about1 = true := by decide +kernel
set_option maxRecDepth 65536 in
theorem w_case : (Jvm.Cond.and given_1 narrow_1).before args0 about1 = true := by decide +kernel
theorem w_applies : (headSpec (Jvm.Cond.code x code maxLocals ret :: tables_1) room_1).applies x e0.platform about1 = true :=
  (Spec.applies_iff w_frames).mpr ⟨w_running, w_runnable, w_alone, w_named, w_hears, w_ripe, w_room, w_tables⟩
theorem atStart : AtStart classFile x code maxLocals ret World_1 tables_1 room_1 Calls_1 rest_1 Pre_1 launch0 p0 e0 about1 theMethod args0 below0 :=
  ⟨lists_1, trivial, launch0.admits_env _ _ _, launch0.least_env, fairChoices_fair.cas, fairChoices_fair.clock, w_frames, w_args, w_heap, w_applies, trivial, w_rest, w_case⟩
end start1
theorem witness_1 : WitnessClaimed_1 := ⟨start1.p0, start1.e0, start1.about1, start1.theMethod, start1.args0, start1.below0, start1.atStart⟩
end Jvm.Pilot.@@N@@
