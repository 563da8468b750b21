import JvmDerived
import JvmDerived.Pilot.@@N@@Statement
import JvmDerived.Pilot.@@N@@Code
set_option linter.unusedVariables false
set_option linter.unusedSimpArgs false
@@BLOCK:NumsL.lean.txt@@
namespace Jvm.Pilot.@@N@@
open Jvm Jvm.ClassFile Sem Op Lib Jvm.Free Jvm.Stand Jvm.LawKit Jvm.RoadKit Bundle Jvm.Pilot.@@N@@.Jvm.D
section Own
variable {p : Program} {l : Launch} {e : Env} {R : Room} {s Z : State} {m : MethodId} {args : Array Value} {below : List Frame} {meth : Method} {c : Code} {T : State} {locs : List Loc} {cells slots : Nat} {q : Option Value → Heap → List Loc → Prop}
/-- from U the run ends in a return, as q says -/
def own_Fin (p : Program) (e : Env) (below : List Frame) (s : State) (R : Room) (q : Option Value → Heap → List Loc → Prop) (U : State) : Prop :=
  ∃ s₂ o, Steps p.tables e below U s₂ ∧ s₂.status = .running ∧ Ended s₂ below o ∧ ∃ v L, o = .returned v ∧ q v s₂.heap L ∧ FrameEnd s o s₂ L R.cells R.slots
theorem own_to {U U' : State} (h : ∀ t, Steps p.tables e below U' t → Steps p.tables e below U t) (k : own_Fin p e below s R q U') : own_Fin p e below s R q U := by
  obtain ⟨s₂, o, h1, r⟩ := k
  exact ⟨s₂, o, h _ h1, r⟩
theorem own_ite {C : Prop} [Decidable C] {G : Int32 → State} {U : State} {v1 v0 : Int32} (k : own_Fin p e below s R q (G (if C then v1 else v0))) (h1 : C → own_Fin p e below s R q (G v1) → own_Fin p e below s R q U) (h0 : ¬ C → own_Fin p e below s R q (G v0) → own_Fin p e below s R q U) : own_Fin p e below s R q U := by
  by_cases h : C
  · rw [if_pos h] at k; exact h1 h k
  · rw [if_neg h] at k; exact h0 h k
theorem own_cut {U V : State} (k : own_Fin p e below s R q V) (h : own_Fin p e below s R q V → own_Fin p e below s R q U) : own_Fin p e below s R q U := h k
theorem own_retN (X : Stand p l e R s m args below meth c T locs cells slots) (hx : p.tables.exec = Jvm.exec) (hlk : meth.locks = false) {pc : Nat} {Ls : Array Slot} {z : Int32} {t : FieldType} {rest : List Value} (hret : meth.sig.returnType = some t) (ht : t = .boolean ∨ t = .byte ∨ t = .char ∨ t = .short) (hd : decode c.code pc = .ok (.ireturn, 1)) (hc : cells ≤ R.cells) (hs : slots ≤ R.slots) (hq : q (some (.int (nar t z))) T.heap locs) :
    own_Fin p e below s R q (T.setTop (mkF m pc Ls (.int z :: rest))) := by
  obtain ⟨fs, hr, hrun, hended, hW, hsame⟩ := X.leave (v := some (.int (nar t z))) (fun h => by rw [hret] at h; cases h)
  exact ⟨_, _, retN X hx hret ht hd hr, hrun, hended, _, _, rfl, hq, ⟨_, rfl⟩, hW, hsame.mono hc hs⟩
theorem own_retI (X : Stand p l e R s m args below meth c T locs cells slots) (hx : p.tables.exec = Jvm.exec) (hlk : meth.locks = false) {pc : Nat} {Ls : Array Slot} {z : Int32} {rest : List Value} (hret : meth.sig.returnType = some .int) (hd : decode c.code pc = .ok (.ireturn, 1)) (hc : cells ≤ R.cells) (hs : slots ≤ R.slots) (hq : q (some (.int z)) T.heap locs) :
    own_Fin p e below s R q (T.setTop (mkF m pc Ls (.int z :: rest))) := by
  obtain ⟨fs, hr, hrun, hended, hW, hsame⟩ := X.leave (v := some (.int z)) (fun h => by rw [hret] at h; cases h)
  exact ⟨_, _, retOut X hx hret rfl (Or.inl ⟨rfl, Or.inl rfl, z, rfl⟩) hd hr, hrun, hended, _, _, rfl, hq, ⟨_, rfl⟩, hW, hsame.mono hc hs⟩
theorem own_retJ (X : Stand p l e R s m args below meth c T locs cells slots) (hx : p.tables.exec = Jvm.exec) (hlk : meth.locks = false) {pc : Nat} {Ls : Array Slot} {z : Int64} {rest : List Value} (hret : meth.sig.returnType = some .long) (hd : decode c.code pc = .ok (.lreturn, 1)) (hc : cells ≤ R.cells) (hs : slots ≤ R.slots) (hq : q (some (.long z)) T.heap locs) :
    own_Fin p e below s R q (T.setTop (mkF m pc Ls (.long z :: rest))) := by
  obtain ⟨fs, hr, hrun, hended, hW, hsame⟩ := X.leave (v := some (.long z)) (fun h => by rw [hret] at h; cases h)
  exact ⟨_, _, retOut X hx hret rfl (Or.inr (Or.inl ⟨rfl, rfl, z, rfl⟩)) hd hr, hrun, hended, _, _, rfl, hq, ⟨_, rfl⟩, hW, hsame.mono hc hs⟩
theorem own_retR (X : Stand p l e R s m args below meth c T locs cells slots) (hx : p.tables.exec = Jvm.exec) (hlk : meth.locks = false) {pc : Nat} {Ls : Array Slot} {w : Value} {t : FieldType} {rest : List Value} (hret : meth.sig.returnType = some t) (ht : t.isReference = true) (hw : w.isRef = true) (hn : narrow t w = w) (hd : decode c.code pc = .ok (.areturn, 1)) (hc : cells ≤ R.cells) (hs : slots ≤ R.slots) (hq : q (some w) T.heap locs) :
    own_Fin p e below s R q (T.setTop (mkF m pc Ls (w :: rest))) := by
  obtain ⟨fs, hr, hrun, hended, hW, hsame⟩ := X.leave (v := some w) (fun h => by rw [hret] at h; cases h)
  exact ⟨_, _, retOut X hx hret hn (Or.inr (Or.inr (Or.inr (Or.inr ⟨rfl, ht, hw⟩)))) hd hr, hrun, hended, _, _, rfl, hq, ⟨_, rfl⟩, hW, hsame.mono hc hs⟩
theorem own_retV (X : Stand p l e R s m args below meth c T locs cells slots) (hx : p.tables.exec = Jvm.exec) (hlk : meth.locks = false) {pc : Nat} {Ls : Array Slot} (hret : meth.sig.returnType = none) (hd : decode c.code pc = .ok (.return_, 1)) (hc : cells ≤ R.cells) (hs : slots ≤ R.slots) (hq : q none T.heap locs) :
    own_Fin p e below s R q (T.setTop (mkF m pc Ls [])) := by
  obtain ⟨fs, hr, hrun, hended, hW, hsame⟩ := X.leave (v := none) (fun _ => rfl)
  exact ⟨_, _, X.returnOut hx hret hd hr, hrun, hended, _, _, rfl, hq, ⟨_, rfl⟩, hW, hsame.mono hc hs⟩
/-- the contract of a body at given arguments and a given heap -/
abbrev own_Met (l : Launch) (Z : State) (y : MethodName) (bytes : ByteArray) (maxL : Nat) (ret : Option FieldType) (ws : List Jvm.Cond) (rm : Room) (as' : Array Value) (h0 : Heap) (q : Option Value → Heap → List Loc → Prop) : Prop :=
  MetFree l y (head1 (Jvm.Cond.code y bytes maxL ret :: ws) rm) (fun a U => a = as' ∧ Z.Warmed39 U.vm ∧ U.heap = h0) (fun _ _ _ _ _ => True) (fun _ U o U' => ∃ v L, o = .returned v ∧ q v U'.heap L ∧ FrameEnd U o U' L rm.cells rm.slots)
theorem own_back {a0 : Array Value} {h : Heap} {y : MethodName} {bytes : ByteArray} {maxL : Nat} {ret : Option FieldType} {rm : Room} {len W : Nat} {as' : Array Value} (hM : own_Met l Z y bytes maxL ret [] rm as' h q)
    (hZ : Z.Warmed39 s.vm) (wc : (Jvm.Cond.code y bytes maxL ret).before a0 Z = true) (wz : (Jvm.Cond.initialized y.cls).before a0 Z = true) (hf : rm.frames + 1 ≤ R.frames) (hl : W + (maxL + 11) + rm.locals ≤ R.locals) :
    Back l R p e below s args y len W (fun A a => a = as' ∧ A.U.heap = h ∧ A.cells + rm.cells ≤ R.cells ∧ A.slots + rm.slots ≤ R.slots)
      (fun A _ v B => ∃ L, q v B.U.heap L ∧ B.locs = A.locs ++ L ∧ B.cells = A.cells + rm.cells ∧ B.slots = A.slots + rm.slots) := backOf (Q := q) hM hZ wc wz hf hl
theorem own_enter {y : MethodName} {bytes : ByteArray} {maxL : Nat} {ret : Option FieldType} {ws : List Jvm.Cond} {rm : Room} {as' : Array Value} {h0 : Heap} (hpl : plainFor y = true)
    (k : ∀ (p : Program) (e : Env) (s : State) (m : MethodId) (below : List Frame) (meth : Method) (c : Code) (s₁ : State), Stand p l e rm s m as' below meth c s₁ [] 0 0 → p.tables.exec = Jvm.exec → Z.Warmed39 s.vm → c.code = bytes → c.maxLocals = maxL → s.vm.findClass y.cls = some m.cls → meth.name = y.name → meth.sig.returnType = ret → meth.locks = false → s₁.heap = h0 → own_Fin p e below s rm q (s₁.setTop (entryFrame m as' maxL))) :
    own_Met l Z y bytes maxL ret ws rm as' h0 q := by
  refine MetFree.of_bodySF hpl hisR ?_
  intro p e s m args below meth c s₁ Bd hml0 hP hK
  obtain ⟨rfl, hZ, hh⟩ := hP
  exact k p e s m below meth c s₁ (Stand.of_body Bd) Bd.exec hZ Bd.bytes hml0 (findClass_of_methodNamed Bd.named) (name_of_methodNamed Bd.named Bd.method).1 Bd.returns Bd.notSynchronized (by rw [← hh, Bd.state]; rfl)
theorem own_selP {a : Array Value} {y y' : MethodName} (w : (Jvm.Cond.selects y'.cls y' y').before a s = true) (hc : y'.cls = y.cls) (hp : s.PrivateAt y) (hi : (Jvm.Cond.instanceMethod y).before a s = true) (hy : y.cls ≠ "java/lang/invoke/MethodHandle" ∧ y.cls ≠ "java/lang/invoke/VarHandle") : (Jvm.Cond.selects y.cls y y).before a s = true := by
  obtain ⟨c, r, m, h1, -, h3, -, mk, h4, h5⟩ := Cond.selects_spec w
  exact selects_self_of_private (c := m.cls) (k := mk) (hc ▸ findClass_of_methodNamed h3) h4 h5 hp hi hy
end Own
abbrev own_i (n : Int32) : Slot := .val (.int n)
theorem own_W {Z : State} {a0 : Array Value} (hw : ∀ d ∈ tables_1, d.before a0 Z = true) {d : Jvm.Cond} (i : Nat) (h : tables_1[i]? = some d) : d.before a0 Z = true := hw d (List.mem_of_getElem? h)
theorem own_idem (y : Int32) : nar .byte (y.toInt8.toInt32) = y.toInt8.toInt32 := by
  show (y.toInt8.toInt32).toInt8.toInt32 = _
  rw [Int8.toInt8_toInt32]
theorem own_lt32 (x y : Int32) : (x < y) = (x.toInt < y.toInt) := propext Int32.lt_iff_toInt_lt
theorem own_nc (x : Int32) : nar .char ((x &&& (255 : Int32)).toUInt32.toUInt16.toUInt32.toInt32) = x &&& (255 : Int32) := by
  show ((x &&& (255 : Int32)).toUInt32.toUInt16.toUInt32.toInt32).toUInt32.toUInt16.toUInt32.toInt32 = _
  rw [i2c_mask, i2c_mask]
theorem own_low {x : Int32} (h0 : ¬ x < 0) (h1 : ¬ (255 : Int32) < x) : (x &&& (255 : Int32)) = x := by
  rw [own_lt32, show (0 : Int32).toInt = 0 from rfl] at h0
  rw [own_lt32, show (255 : Int32).toInt = 255 from by decide] at h1
  rw [← Int32.toInt_inj, Jvm.Kit.i32_mask x 255 (k := 8) (by decide) (by decide)]; omega
theorem own_nb {x : Int32} (h0 : ¬ x < 0) (h1 : ¬ (255 : Int32) < x) : nar .char x = x := by
  have f := i2c_mask x
  rw [own_low h0 h1] at f
  exact f
theorem own_inf {x : Int32} (h0 : ¬ x < 0) (h1 : ¬ (255 : Int32) < x) : nar .char (((x.toInt8.toInt32 &&& (255 : Int32)).toUInt32.toUInt16.toUInt32.toInt32)) = x := by
  rw [own_nc]
  rw [own_lt32, show (0 : Int32).toInt = 0 from rfl] at h0
  rw [own_lt32, show (255 : Int32).toInt = 255 from by decide] at h1
  rw [← Int32.toInt_inj, Jvm.Kit.i32_mask _ 255 (k := 8) (by decide) (by decide), Int8.toInt_toInt32, Int32.toInt_toInt8, Int.bmod_def]; omega
theorem own_fx {x : Int32} (h0 : ¬ x < 0) (h1 : ¬ (255 : Int32) < x) : fits .char (.int x) = true := by
  have f := fits_nar_char x; rw [own_nb h0 h1] at f; exact f
def own_at (xs : List Int32) (j : Int32) : Int32 := xs.getD j.toNatClampNeg 0
theorem own_getm (xs : List Int32) (j : Nat) : (xs.map Value.int).getD j (.int (0 : Int32)) = .int (xs.getD j 0) := by
  simp only [List.getD_eq_getElem?_getD, List.getElem?_map]
  cases xs[j]? <;> rfl
def own_ca (xs : List Int32) (j : Int32) : Int32 := if j < (20 : Int32) then own_at xs j else 0
def own_dig (xs : List Int32) (a b : Int32) : Prop :=
  ¬ a < 0 ∧ a.toInt ≤ b.toInt ∧ b.toInt ≤ 20 ∧ (∀ t : Int32, a.toInt ≤ t.toInt → t.toInt < b.toInt → ¬ own_at xs t < (48 : Int32) ∧ ¬ (57 : Int32) < own_at xs t) ∧ (b < (20 : Int32) → own_at xs b < (48 : Int32) ∨ (57 : Int32) < own_at xs b)
theorem own_inc {j b : Int32} (h0 : ¬ j < 0) (hb : j.toInt < b.toInt) (hh : b.toInt ≤ 20) : (j + 1).toInt = j.toInt + 1 ∧ ¬ (j + 1) < 0 := by
  rw [own_lt32, show (0 : Int32).toInt = 0 from rfl] at h0
  have e : (j + 1).toInt = j.toInt + 1 := Jvm.Kit.i32_add (by rw [show (1 : Int32).toInt = 1 from rfl]; omega) (by rw [show (1 : Int32).toInt = 1 from rfl]; omega)
  refine ⟨e, ?_⟩
  rw [own_lt32, e, show (0 : Int32).toInt = 0 from rfl]; omega
theorem own_ltn {j b : Int32} (hb : j.toInt < b.toInt) (hh : b.toInt ≤ 20) : j < (20 : Int32) := by
  rw [own_lt32, show (20 : Int32).toInt = 20 from by decide]; omega
theorem own_d9_0 : decode jdk_52_method_21_code 0 = .ok (.iconst 0, 1) := by decide +kernel
theorem own_d9_1 : decode jdk_52_method_21_code 1 = .ok (.istore 5, 2) := by decide +kernel
theorem own_d9_3 : decode jdk_52_method_21_code 3 = .ok (.iload 5, 2) := by decide +kernel
theorem own_d9_5 : decode jdk_52_method_21_code 5 = .ok (.iload 4, 2) := by decide +kernel
theorem own_d9_7 : decode jdk_52_method_21_code 7 = .ok (.if_icmp .ge 37, 3) := by decide +kernel
theorem own_d9_10 : decode jdk_52_method_21_code 10 = .ok (.aload_n 0, 1) := by decide +kernel
theorem own_d9_11 : decode jdk_52_method_21_code 11 = .ok (.iload_n 1, 1) := by decide +kernel
theorem own_d9_12 : decode jdk_52_method_21_code 12 = .ok (.caload, 1) := by decide +kernel
theorem own_d9_13 : decode jdk_52_method_21_code 13 = .ok (.istore 6, 2) := by decide +kernel
theorem own_d9_15 : decode jdk_52_method_21_code 15 = .ok (.iload 6, 2) := by decide +kernel
theorem own_d9_17 : decode jdk_52_method_21_code 17 = .ok (.sipush 255, 3) := by decide +kernel
theorem own_d9_20 : decode jdk_52_method_21_code 20 = .ok (.if_icmp .le 6, 3) := by decide +kernel
theorem own_d9_23 : decode jdk_52_method_21_code 23 = .ok (.iload 5, 2) := by decide +kernel
theorem own_d9_25 : decode jdk_52_method_21_code 25 = .ok (.ireturn, 1) := by decide +kernel
theorem own_d9_26 : decode jdk_52_method_21_code 26 = .ok (.aload_n 2, 1) := by decide +kernel
theorem own_d9_27 : decode jdk_52_method_21_code 27 = .ok (.iload_n 3, 1) := by decide +kernel
theorem own_d9_28 : decode jdk_52_method_21_code 28 = .ok (.iload 6, 2) := by decide +kernel
theorem own_d9_30 : decode jdk_52_method_21_code 30 = .ok (.i2b, 1) := by decide +kernel
theorem own_d9_31 : decode jdk_52_method_21_code 31 = .ok (.bastore, 1) := by decide +kernel
theorem own_d9_32 : decode jdk_52_method_21_code 32 = .ok (.iinc 1 1, 3) := by decide +kernel
theorem own_d9_35 : decode jdk_52_method_21_code 35 = .ok (.iinc 3 1, 3) := by decide +kernel
theorem own_d9_38 : decode jdk_52_method_21_code 38 = .ok (.iinc 5 1, 3) := by decide +kernel
theorem own_d9_41 : decode jdk_52_method_21_code 41 = .ok (.goto (-38), 3) := by decide +kernel
theorem own_d9_44 : decode jdk_52_method_21_code 44 = .ok (.iload 4, 2) := by decide +kernel
theorem own_d9_46 : decode jdk_52_method_21_code 46 = .ok (.ireturn, 1) := by decide +kernel
theorem own_pn0 : plainName "java/lang/StringUTF16" = true := by first | (simp [plainName, overriddenIn]; done) | decide +kernel
theorem own_cmp2_ef (m : MethodId) (a2 : Addr) (a3 : Addr) : entryFrame m #[(.ref a2), (.int (0 : Int32)), (.ref a3), (.int (0 : Int32)), (.int (20 : Int32))] 7 = mkF m 0 #[rv a2, own_i 0, rv a3, own_i 0, own_i 20, .unset, .unset] [] := by first | (simp [entryFrame, mkF, argsToLocals, Value.category]; done) | rfl
set_option maxRecDepth 65536 in
set_option maxHeartbeats 40000000 in
theorem own_cmp2 (l : Launch) (Z : State) (a0 : Array Value) (hw : ∀ d ∈ tables_1, d.before a0 Z = true) (ws : List Jvm.Cond) (a2 : Addr) (a3 : Addr) (k2 : ClassId) (k3 : ClassId) (x0 : Int32) (x1 : Int32) (x2 : Int32) (x3 : Int32) (x4 : Int32) (x5 : Int32) (x6 : Int32) (x7 : Int32) (x8 : Int32) (x9 : Int32) (x10 : Int32) (x11 : Int32) (x12 : Int32) (x13 : Int32) (x14 : Int32) (x15 : Int32) (x16 : Int32) (x17 : Int32) (x18 : Int32) (x19 : Int32) (h0 : Heap) (n0 : Nat) (Z0 : n0 ≤ h0.size) (V2 : Arv Z h0 a2 k2 .char (20 : Int32) [(.int x0), (.int x1), (.int x2), (.int x3), (.int x4), (.int x5), (.int x6), (.int x7), (.int x8), (.int x9), (.int x10), (.int x11), (.int x12), (.int x13), (.int x14), (.int x15), (.int x16), (.int x17), (.int x18), (.int x19)] (.int (0 : Int32))) (V3 : Arv Z h0 a3 k3 .byte (20 : Int32) [(.int (0 : Int32)), (.int (0 : Int32)), (.int (0 : Int32)), (.int (0 : Int32)), (.int (0 : Int32)), (.int (0 : Int32)), (.int (0 : Int32)), (.int (0 : Int32)), (.int (0 : Int32)), (.int (0 : Int32)), (.int (0 : Int32)), (.int (0 : Int32)), (.int (0 : Int32)), (.int (0 : Int32)), (.int (0 : Int32)), (.int (0 : Int32)), (.int (0 : Int32)), (.int (0 : Int32)), (.int (0 : Int32)), (.int (0 : Int32))] (.int (0 : Int32))) (g_a3 : n0 ≤ a3) (ne23 : a2 ≠ a3) (hx0 : ¬ (255 : Int32) < x0) (hx1 : ¬ (255 : Int32) < x1) (hx2 : ¬ (255 : Int32) < x2) (hx3 : ¬ (255 : Int32) < x3) (hx4 : ¬ (255 : Int32) < x4) (hx5 : ¬ (255 : Int32) < x5) (hx6 : ¬ (255 : Int32) < x6) (hx7 : ¬ (255 : Int32) < x7) (hx8 : ¬ (255 : Int32) < x8) (hx9 : ¬ (255 : Int32) < x9) (hx10 : ¬ (255 : Int32) < x10) (hx11 : ¬ (255 : Int32) < x11) (hx12 : ¬ (255 : Int32) < x12) (hx13 : ¬ (255 : Int32) < x13) (hx14 : ¬ (255 : Int32) < x14) (hx15 : ¬ (255 : Int32) < x15) (hx16 : ¬ (255 : Int32) < x16) (hx17 : ¬ (255 : Int32) < x17) (hx18 : ¬ (255 : Int32) < x18) (hx19 : ¬ (255 : Int32) < x19) :
    own_Met l Z (⟨"java/lang/StringUTF16", "compress", "([CI[BII)I"⟩ : MethodName) jdk_52_method_21_code 7 (some .int) ws ({ frames := 0, cells := 0, slots := 0, locals := 0 } : Room) #[(.ref a2), (.int (0 : Int32)), (.ref a3), (.int (0 : Int32)), (.int (20 : Int32))] h0 (fun v h L => v = some (.int (20 : Int32)) ∧ Fr n0 L ∧ Keep h0 h [a3] ∧ Arv Z h a3 k3 .byte (20 : Int32) [(.int (x0.toInt8.toInt32)), (.int (x1.toInt8.toInt32)), (.int (x2.toInt8.toInt32)), (.int (x3.toInt8.toInt32)), (.int (x4.toInt8.toInt32)), (.int (x5.toInt8.toInt32)), (.int (x6.toInt8.toInt32)), (.int (x7.toInt8.toInt32)), (.int (x8.toInt8.toInt32)), (.int (x9.toInt8.toInt32)), (.int (x10.toInt8.toInt32)), (.int (x11.toInt8.toInt32)), (.int (x12.toInt8.toInt32)), (.int (x13.toInt8.toInt32)), (.int (x14.toInt8.toInt32)), (.int (x15.toInt8.toInt32)), (.int (x16.toInt8.toInt32)), (.int (x17.toInt8.toInt32)), (.int (x18.toInt8.toInt32)), (.int (x19.toInt8.toInt32))] (.int (0 : Int32))) := by
  refine own_enter (plainFor_of_name own_pn0) ?_
  intro p e s m below meth c s₁ X0 hx hZ hby hml hown hnm hret hlk e0
  have N0 := Fr.nil n0
  rw [own_cmp2_ef m a2 a3]
  have KK0 : Keep h0 h0 [a3] := Keep.refl _ _
  show own_Fin _ _ _ _ _ _ (s₁.setTop (mkF m 0 #[rv a2, own_i 0, rv a3, own_i 0, own_i 20, .unset, .unset] []))
  refine own_to (fun t k => XS.iconst X0.here hx rfl (hb hby own_d9_0) k) ?_
  refine own_to (fun t k => XS.istore X0.here hx rfl (hb hby own_d9_1) rfl (l' := #[rv a2, own_i 0, rv a3, own_i 0, own_i 20, own_i 0, .unset]) rfl k) ?_
  show own_Fin _ _ _ _ _ _ (s₁.setTop (mkF m 3 #[rv a2, own_i 0, rv a3, own_i 0, own_i 20, own_i 0, .unset] []))
  refine own_to (fun t k => XS.iload X0.here hx rfl (hb hby own_d9_3) rfl k) ?_
  refine own_to (fun t k => XS.iload X0.here hx rfl (hb hby own_d9_5) rfl k) ?_
  refine own_to (fun t k => XS.icmpNo X0.here hx rfl (hb hby own_d9_7) rfl (tlt (by decide)).2.1 k) ?_
  show own_Fin _ _ _ _ _ _ (s₁.setTop (mkF m 10 #[rv a2, own_i 0, rv a3, own_i 0, own_i 20, own_i 0, .unset] []))
  refine own_to (fun t k => XS.aloadN X0.here hx rfl (hb hby own_d9_10) rfl rfl k) ?_
  show own_Fin _ _ _ _ _ _ (s₁.setTop (mkF m 11 #[rv a2, own_i 0, rv a3, own_i 0, own_i 20, own_i 0, .unset] [(.ref a2)]))
  refine own_to (fun t k => XS.iloadN X0.here hx rfl (hb hby own_d9_11) rfl k) ?_
  obtain ⟨cl1, Ar1, qa1, Sa1, Na1, Ha1, Ga1⟩ := id V2
  have hin2 : ¬ ((0 : Int32) < 0 ∨ cl1.slots.size ≤ ((0 : Int32)).toNatClampNeg) := inb_of Sa1 ⟨by decide, by decide⟩
  refine own_to (fun t k => X0.caload hx (j := (0 : Int32)) (v := (.int x0)) (by rw [e0]; exact Ar1.1) (State.isArrayOf_alike hZ.alike Ar1.2.1) Ar1.2.2 hin2 (Has.at Ha1 hin2 rfl) (g := (mkF m 12 #[rv a2, own_i 0, rv a3, own_i 0, own_i 20, own_i 0, .unset] [(.int (0 : Int32)), (.ref a2)])) rfl rfl (hb hby own_d9_12) _ k) ?_
  show own_Fin _ _ _ _ _ _ (s₁.setTop (mkF m 13 #[rv a2, own_i 0, rv a3, own_i 0, own_i 20, own_i 0, .unset] [(.int x0)]))
  refine own_to (fun t k => XS.istore X0.here hx rfl (hb hby own_d9_13) rfl (l' := #[rv a2, own_i 0, rv a3, own_i 0, own_i 20, own_i 0, .val (.int x0)]) rfl k) ?_
  show own_Fin _ _ _ _ _ _ (s₁.setTop (mkF m 15 #[rv a2, own_i 0, rv a3, own_i 0, own_i 20, own_i 0, .val (.int x0)] []))
  refine own_to (fun t k => XS.iload X0.here hx rfl (hb hby own_d9_15) rfl k) ?_
  refine own_to (fun t k => XS.sipush X0.here hx rfl (hb hby own_d9_17) k) ?_
  refine own_to (fun t k => XS.icmpYes X0.here hx rfl (pc0 := 20) (pc' := 26) rfl (hb hby own_d9_20) rfl (flt hx0).2.2.2 (by decide) (by decide) k) ?_
  show own_Fin _ _ _ _ _ _ (s₁.setTop (mkF m 26 #[rv a2, own_i 0, rv a3, own_i 0, own_i 20, own_i 0, .val (.int x0)] []))
  refine own_to (fun t k => XS.aloadN X0.here hx rfl (hb hby own_d9_26) rfl rfl k) ?_
  show own_Fin _ _ _ _ _ _ (s₁.setTop (mkF m 27 #[rv a2, own_i 0, rv a3, own_i 0, own_i 20, own_i 0, .val (.int x0)] [(.ref a3)]))
  refine own_to (fun t k => XS.iloadN X0.here hx rfl (hb hby own_d9_27) rfl k) ?_
  refine own_to (fun t k => XS.iload X0.here hx rfl (hb hby own_d9_28) rfl k) ?_
  refine own_to (fun t k => XS.i2b X0.here hx rfl (hb hby own_d9_30) rfl k) ?_
  show own_Fin _ _ _ _ _ _ (s₁.setTop (mkF m 31 #[rv a2, own_i 0, rv a3, own_i 0, own_i 20, own_i 0, .val (.int x0)] [(.int (x0.toInt8.toInt32)), (.int (0 : Int32)), (.ref a3)]))
  obtain ⟨cl3, Ar3, qa3, Sa3, Na3, Ha3, Ga3⟩ := id V3
  have hin4 : ¬ ((0 : Int32) < 0 ∨ cl3.slots.size ≤ ((0 : Int32)).toNatClampNeg) := inb_of Sa3 ⟨by decide, by decide⟩
  obtain ⟨T4, h4, X4, e4, W4, st4⟩ := stB X0 hx hZ e0 Ar3 (j := (0 : Int32)) hin4 (g := (mkF m 31 #[rv a2, own_i 0, rv a3, own_i 0, own_i 20, own_i 0, .val (.int x0)] [(.int (x0.toInt8.toInt32)), (.int (0 : Int32)), (.ref a3)])) rfl rfl (hb hby own_d9_31)
  rw [own_idem _] at W4
  have N4 := Fr.snoc X4 N0 g_a3
  have KK4 : Keep h0 h4 [a3] := KK0.wr W4 (Or.inl (List.mem_of_getElem? (i := 0) rfl))
  have V2_e4 := V2.other W4 ne23
  have V4 : Arv Z h4 a3 k3 .byte (20 : Int32) [(.int (x0.toInt8.toInt32)), (.int (0 : Int32)), (.int (0 : Int32)), (.int (0 : Int32)), (.int (0 : Int32)), (.int (0 : Int32)), (.int (0 : Int32)), (.int (0 : Int32)), (.int (0 : Int32)), (.int (0 : Int32)), (.int (0 : Int32)), (.int (0 : Int32)), (.int (0 : Int32)), (.int (0 : Int32)), (.int (0 : Int32)), (.int (0 : Int32)), (.int (0 : Int32)), (.int (0 : Int32)), (.int (0 : Int32)), (.int (0 : Int32))] (.int (0 : Int32)) := Arv.set Ar3 qa3 Sa3 Na3 Ha3 Ga3 (fits_nar_byte _) W4 0 rfl (Nat.le_of_ble_eq_true rfl)
  refine own_to (fun t k => st4 t k) ?_
  show own_Fin _ _ _ _ _ _ (T4.setTop (mkF m 32 #[rv a2, own_i 0, rv a3, own_i 0, own_i 20, own_i 0, .val (.int x0)] []))
  refine own_to (fun t k => XS.iinc X4.here hx rfl (hb hby own_d9_32) rfl (l' := #[rv a2, own_i 1, rv a3, own_i 0, own_i 20, own_i 0, .val (.int x0)]) rfl k) ?_
  show own_Fin _ _ _ _ _ _ (T4.setTop (mkF m 35 #[rv a2, own_i 1, rv a3, own_i 0, own_i 20, own_i 0, .val (.int x0)] []))
  refine own_to (fun t k => XS.iinc X4.here hx rfl (hb hby own_d9_35) rfl (l' := #[rv a2, own_i 1, rv a3, own_i 1, own_i 20, own_i 0, .val (.int x0)]) rfl k) ?_
  show own_Fin _ _ _ _ _ _ (T4.setTop (mkF m 38 #[rv a2, own_i 1, rv a3, own_i 1, own_i 20, own_i 0, .val (.int x0)] []))
  refine own_to (fun t k => XS.iinc X4.here hx rfl (hb hby own_d9_38) rfl (l' := #[rv a2, own_i 1, rv a3, own_i 1, own_i 20, own_i 1, .val (.int x0)]) rfl k) ?_
  show own_Fin _ _ _ _ _ _ (T4.setTop (mkF m 41 #[rv a2, own_i 1, rv a3, own_i 1, own_i 20, own_i 1, .val (.int x0)] []))
  refine own_to (fun t k => XS.goto X4.here hx rfl (pc0 := 41) (pc' := 3) rfl (hb hby own_d9_41) (by decide) (by decide) k) ?_
  show own_Fin _ _ _ _ _ _ (T4.setTop (mkF m 3 #[rv a2, own_i 1, rv a3, own_i 1, own_i 20, own_i 1, .val (.int x0)] []))
  refine own_to (fun t k => XS.iload X4.here hx rfl (hb hby own_d9_3) rfl k) ?_
  refine own_to (fun t k => XS.iload X4.here hx rfl (hb hby own_d9_5) rfl k) ?_
  refine own_to (fun t k => XS.icmpNo X4.here hx rfl (hb hby own_d9_7) rfl (tlt (by decide)).2.1 k) ?_
  show own_Fin _ _ _ _ _ _ (T4.setTop (mkF m 10 #[rv a2, own_i 1, rv a3, own_i 1, own_i 20, own_i 1, .val (.int x0)] []))
  refine own_to (fun t k => XS.aloadN X4.here hx rfl (hb hby own_d9_10) rfl rfl k) ?_
  show own_Fin _ _ _ _ _ _ (T4.setTop (mkF m 11 #[rv a2, own_i 1, rv a3, own_i 1, own_i 20, own_i 1, .val (.int x0)] [(.ref a2)]))
  refine own_to (fun t k => XS.iloadN X4.here hx rfl (hb hby own_d9_11) rfl k) ?_
  obtain ⟨cl5, Ar5, qa5, Sa5, Na5, Ha5, Ga5⟩ := id V2_e4
  have hin6 : ¬ ((1 : Int32) < 0 ∨ cl5.slots.size ≤ ((1 : Int32)).toNatClampNeg) := inb_of Sa5 ⟨by decide, by decide⟩
  refine own_to (fun t k => X4.caload hx (j := (1 : Int32)) (v := (.int x1)) (by rw [e4]; exact Ar5.1) (State.isArrayOf_alike hZ.alike Ar5.2.1) Ar5.2.2 hin6 (Has.at Ha5 hin6 rfl) (g := (mkF m 12 #[rv a2, own_i 1, rv a3, own_i 1, own_i 20, own_i 1, .val (.int x0)] [(.int (1 : Int32)), (.ref a2)])) rfl rfl (hb hby own_d9_12) _ k) ?_
  show own_Fin _ _ _ _ _ _ (T4.setTop (mkF m 13 #[rv a2, own_i 1, rv a3, own_i 1, own_i 20, own_i 1, .val (.int x0)] [(.int x1)]))
  refine own_to (fun t k => XS.istore X4.here hx rfl (hb hby own_d9_13) rfl (l' := #[rv a2, own_i 1, rv a3, own_i 1, own_i 20, own_i 1, .val (.int x1)]) rfl k) ?_
  show own_Fin _ _ _ _ _ _ (T4.setTop (mkF m 15 #[rv a2, own_i 1, rv a3, own_i 1, own_i 20, own_i 1, .val (.int x1)] []))
  refine own_to (fun t k => XS.iload X4.here hx rfl (hb hby own_d9_15) rfl k) ?_
  refine own_to (fun t k => XS.sipush X4.here hx rfl (hb hby own_d9_17) k) ?_
  refine own_to (fun t k => XS.icmpYes X4.here hx rfl (pc0 := 20) (pc' := 26) rfl (hb hby own_d9_20) rfl (flt hx1).2.2.2 (by decide) (by decide) k) ?_
  show own_Fin _ _ _ _ _ _ (T4.setTop (mkF m 26 #[rv a2, own_i 1, rv a3, own_i 1, own_i 20, own_i 1, .val (.int x1)] []))
  refine own_to (fun t k => XS.aloadN X4.here hx rfl (hb hby own_d9_26) rfl rfl k) ?_
  show own_Fin _ _ _ _ _ _ (T4.setTop (mkF m 27 #[rv a2, own_i 1, rv a3, own_i 1, own_i 20, own_i 1, .val (.int x1)] [(.ref a3)]))
  refine own_to (fun t k => XS.iloadN X4.here hx rfl (hb hby own_d9_27) rfl k) ?_
  refine own_to (fun t k => XS.iload X4.here hx rfl (hb hby own_d9_28) rfl k) ?_
  refine own_to (fun t k => XS.i2b X4.here hx rfl (hb hby own_d9_30) rfl k) ?_
  show own_Fin _ _ _ _ _ _ (T4.setTop (mkF m 31 #[rv a2, own_i 1, rv a3, own_i 1, own_i 20, own_i 1, .val (.int x1)] [(.int (x1.toInt8.toInt32)), (.int (1 : Int32)), (.ref a3)]))
  obtain ⟨cl7, Ar7, qa7, Sa7, Na7, Ha7, Ga7⟩ := id V4
  have hin8 : ¬ ((1 : Int32) < 0 ∨ cl7.slots.size ≤ ((1 : Int32)).toNatClampNeg) := inb_of Sa7 ⟨by decide, by decide⟩
  obtain ⟨T8, h8, X8, e8, W8, st8⟩ := stB X4 hx hZ e4 Ar7 (j := (1 : Int32)) hin8 (g := (mkF m 31 #[rv a2, own_i 1, rv a3, own_i 1, own_i 20, own_i 1, .val (.int x1)] [(.int (x1.toInt8.toInt32)), (.int (1 : Int32)), (.ref a3)])) rfl rfl (hb hby own_d9_31)
  rw [own_idem _] at W8
  have N8 := Fr.snoc X8 N4 g_a3
  have KK8 : Keep h0 h8 [a3] := KK4.wr W8 (Or.inl (List.mem_of_getElem? (i := 0) rfl))
  have V2_e8 := V2_e4.other W8 ne23
  have V8 : Arv Z h8 a3 k3 .byte (20 : Int32) [(.int (x0.toInt8.toInt32)), (.int (x1.toInt8.toInt32)), (.int (0 : Int32)), (.int (0 : Int32)), (.int (0 : Int32)), (.int (0 : Int32)), (.int (0 : Int32)), (.int (0 : Int32)), (.int (0 : Int32)), (.int (0 : Int32)), (.int (0 : Int32)), (.int (0 : Int32)), (.int (0 : Int32)), (.int (0 : Int32)), (.int (0 : Int32)), (.int (0 : Int32)), (.int (0 : Int32)), (.int (0 : Int32)), (.int (0 : Int32)), (.int (0 : Int32))] (.int (0 : Int32)) := Arv.set Ar7 qa7 Sa7 Na7 Ha7 Ga7 (fits_nar_byte _) W8 1 rfl (Nat.le_of_ble_eq_true rfl)
  refine own_to (fun t k => st8 t k) ?_
  show own_Fin _ _ _ _ _ _ (T8.setTop (mkF m 32 #[rv a2, own_i 1, rv a3, own_i 1, own_i 20, own_i 1, .val (.int x1)] []))
  refine own_to (fun t k => XS.iinc X8.here hx rfl (hb hby own_d9_32) rfl (l' := #[rv a2, own_i 2, rv a3, own_i 1, own_i 20, own_i 1, .val (.int x1)]) rfl k) ?_
  show own_Fin _ _ _ _ _ _ (T8.setTop (mkF m 35 #[rv a2, own_i 2, rv a3, own_i 1, own_i 20, own_i 1, .val (.int x1)] []))
  refine own_to (fun t k => XS.iinc X8.here hx rfl (hb hby own_d9_35) rfl (l' := #[rv a2, own_i 2, rv a3, own_i 2, own_i 20, own_i 1, .val (.int x1)]) rfl k) ?_
  show own_Fin _ _ _ _ _ _ (T8.setTop (mkF m 38 #[rv a2, own_i 2, rv a3, own_i 2, own_i 20, own_i 1, .val (.int x1)] []))
  refine own_to (fun t k => XS.iinc X8.here hx rfl (hb hby own_d9_38) rfl (l' := #[rv a2, own_i 2, rv a3, own_i 2, own_i 20, own_i 2, .val (.int x1)]) rfl k) ?_
  show own_Fin _ _ _ _ _ _ (T8.setTop (mkF m 41 #[rv a2, own_i 2, rv a3, own_i 2, own_i 20, own_i 2, .val (.int x1)] []))
  refine own_to (fun t k => XS.goto X8.here hx rfl (pc0 := 41) (pc' := 3) rfl (hb hby own_d9_41) (by decide) (by decide) k) ?_
  show own_Fin _ _ _ _ _ _ (T8.setTop (mkF m 3 #[rv a2, own_i 2, rv a3, own_i 2, own_i 20, own_i 2, .val (.int x1)] []))
  refine own_to (fun t k => XS.iload X8.here hx rfl (hb hby own_d9_3) rfl k) ?_
  refine own_to (fun t k => XS.iload X8.here hx rfl (hb hby own_d9_5) rfl k) ?_
  refine own_to (fun t k => XS.icmpNo X8.here hx rfl (hb hby own_d9_7) rfl (tlt (by decide)).2.1 k) ?_
  show own_Fin _ _ _ _ _ _ (T8.setTop (mkF m 10 #[rv a2, own_i 2, rv a3, own_i 2, own_i 20, own_i 2, .val (.int x1)] []))
  refine own_to (fun t k => XS.aloadN X8.here hx rfl (hb hby own_d9_10) rfl rfl k) ?_
  show own_Fin _ _ _ _ _ _ (T8.setTop (mkF m 11 #[rv a2, own_i 2, rv a3, own_i 2, own_i 20, own_i 2, .val (.int x1)] [(.ref a2)]))
  refine own_to (fun t k => XS.iloadN X8.here hx rfl (hb hby own_d9_11) rfl k) ?_
  obtain ⟨cl9, Ar9, qa9, Sa9, Na9, Ha9, Ga9⟩ := id V2_e8
  have hin10 : ¬ ((2 : Int32) < 0 ∨ cl9.slots.size ≤ ((2 : Int32)).toNatClampNeg) := inb_of Sa9 ⟨by decide, by decide⟩
  refine own_to (fun t k => X8.caload hx (j := (2 : Int32)) (v := (.int x2)) (by rw [e8]; exact Ar9.1) (State.isArrayOf_alike hZ.alike Ar9.2.1) Ar9.2.2 hin10 (Has.at Ha9 hin10 rfl) (g := (mkF m 12 #[rv a2, own_i 2, rv a3, own_i 2, own_i 20, own_i 2, .val (.int x1)] [(.int (2 : Int32)), (.ref a2)])) rfl rfl (hb hby own_d9_12) _ k) ?_
  show own_Fin _ _ _ _ _ _ (T8.setTop (mkF m 13 #[rv a2, own_i 2, rv a3, own_i 2, own_i 20, own_i 2, .val (.int x1)] [(.int x2)]))
  refine own_to (fun t k => XS.istore X8.here hx rfl (hb hby own_d9_13) rfl (l' := #[rv a2, own_i 2, rv a3, own_i 2, own_i 20, own_i 2, .val (.int x2)]) rfl k) ?_
  show own_Fin _ _ _ _ _ _ (T8.setTop (mkF m 15 #[rv a2, own_i 2, rv a3, own_i 2, own_i 20, own_i 2, .val (.int x2)] []))
  refine own_to (fun t k => XS.iload X8.here hx rfl (hb hby own_d9_15) rfl k) ?_
  refine own_to (fun t k => XS.sipush X8.here hx rfl (hb hby own_d9_17) k) ?_
  refine own_to (fun t k => XS.icmpYes X8.here hx rfl (pc0 := 20) (pc' := 26) rfl (hb hby own_d9_20) rfl (flt hx2).2.2.2 (by decide) (by decide) k) ?_
  show own_Fin _ _ _ _ _ _ (T8.setTop (mkF m 26 #[rv a2, own_i 2, rv a3, own_i 2, own_i 20, own_i 2, .val (.int x2)] []))
  refine own_to (fun t k => XS.aloadN X8.here hx rfl (hb hby own_d9_26) rfl rfl k) ?_
  show own_Fin _ _ _ _ _ _ (T8.setTop (mkF m 27 #[rv a2, own_i 2, rv a3, own_i 2, own_i 20, own_i 2, .val (.int x2)] [(.ref a3)]))
  refine own_to (fun t k => XS.iloadN X8.here hx rfl (hb hby own_d9_27) rfl k) ?_
  refine own_to (fun t k => XS.iload X8.here hx rfl (hb hby own_d9_28) rfl k) ?_
  refine own_to (fun t k => XS.i2b X8.here hx rfl (hb hby own_d9_30) rfl k) ?_
  show own_Fin _ _ _ _ _ _ (T8.setTop (mkF m 31 #[rv a2, own_i 2, rv a3, own_i 2, own_i 20, own_i 2, .val (.int x2)] [(.int (x2.toInt8.toInt32)), (.int (2 : Int32)), (.ref a3)]))
  obtain ⟨cl11, Ar11, qa11, Sa11, Na11, Ha11, Ga11⟩ := id V8
  have hin12 : ¬ ((2 : Int32) < 0 ∨ cl11.slots.size ≤ ((2 : Int32)).toNatClampNeg) := inb_of Sa11 ⟨by decide, by decide⟩
  obtain ⟨T12, h12, X12, e12, W12, st12⟩ := stB X8 hx hZ e8 Ar11 (j := (2 : Int32)) hin12 (g := (mkF m 31 #[rv a2, own_i 2, rv a3, own_i 2, own_i 20, own_i 2, .val (.int x2)] [(.int (x2.toInt8.toInt32)), (.int (2 : Int32)), (.ref a3)])) rfl rfl (hb hby own_d9_31)
  rw [own_idem _] at W12
  have N12 := Fr.snoc X12 N8 g_a3
  have KK12 : Keep h0 h12 [a3] := KK8.wr W12 (Or.inl (List.mem_of_getElem? (i := 0) rfl))
  have V2_e12 := V2_e8.other W12 ne23
  have V12 : Arv Z h12 a3 k3 .byte (20 : Int32) [(.int (x0.toInt8.toInt32)), (.int (x1.toInt8.toInt32)), (.int (x2.toInt8.toInt32)), (.int (0 : Int32)), (.int (0 : Int32)), (.int (0 : Int32)), (.int (0 : Int32)), (.int (0 : Int32)), (.int (0 : Int32)), (.int (0 : Int32)), (.int (0 : Int32)), (.int (0 : Int32)), (.int (0 : Int32)), (.int (0 : Int32)), (.int (0 : Int32)), (.int (0 : Int32)), (.int (0 : Int32)), (.int (0 : Int32)), (.int (0 : Int32)), (.int (0 : Int32))] (.int (0 : Int32)) := Arv.set Ar11 qa11 Sa11 Na11 Ha11 Ga11 (fits_nar_byte _) W12 2 rfl (Nat.le_of_ble_eq_true rfl)
  refine own_to (fun t k => st12 t k) ?_
  show own_Fin _ _ _ _ _ _ (T12.setTop (mkF m 32 #[rv a2, own_i 2, rv a3, own_i 2, own_i 20, own_i 2, .val (.int x2)] []))
  refine own_to (fun t k => XS.iinc X12.here hx rfl (hb hby own_d9_32) rfl (l' := #[rv a2, own_i 3, rv a3, own_i 2, own_i 20, own_i 2, .val (.int x2)]) rfl k) ?_
  show own_Fin _ _ _ _ _ _ (T12.setTop (mkF m 35 #[rv a2, own_i 3, rv a3, own_i 2, own_i 20, own_i 2, .val (.int x2)] []))
  refine own_to (fun t k => XS.iinc X12.here hx rfl (hb hby own_d9_35) rfl (l' := #[rv a2, own_i 3, rv a3, own_i 3, own_i 20, own_i 2, .val (.int x2)]) rfl k) ?_
  show own_Fin _ _ _ _ _ _ (T12.setTop (mkF m 38 #[rv a2, own_i 3, rv a3, own_i 3, own_i 20, own_i 2, .val (.int x2)] []))
  refine own_to (fun t k => XS.iinc X12.here hx rfl (hb hby own_d9_38) rfl (l' := #[rv a2, own_i 3, rv a3, own_i 3, own_i 20, own_i 3, .val (.int x2)]) rfl k) ?_
  show own_Fin _ _ _ _ _ _ (T12.setTop (mkF m 41 #[rv a2, own_i 3, rv a3, own_i 3, own_i 20, own_i 3, .val (.int x2)] []))
  refine own_to (fun t k => XS.goto X12.here hx rfl (pc0 := 41) (pc' := 3) rfl (hb hby own_d9_41) (by decide) (by decide) k) ?_
  show own_Fin _ _ _ _ _ _ (T12.setTop (mkF m 3 #[rv a2, own_i 3, rv a3, own_i 3, own_i 20, own_i 3, .val (.int x2)] []))
  refine own_to (fun t k => XS.iload X12.here hx rfl (hb hby own_d9_3) rfl k) ?_
  refine own_to (fun t k => XS.iload X12.here hx rfl (hb hby own_d9_5) rfl k) ?_
  refine own_to (fun t k => XS.icmpNo X12.here hx rfl (hb hby own_d9_7) rfl (tlt (by decide)).2.1 k) ?_
  show own_Fin _ _ _ _ _ _ (T12.setTop (mkF m 10 #[rv a2, own_i 3, rv a3, own_i 3, own_i 20, own_i 3, .val (.int x2)] []))
  refine own_to (fun t k => XS.aloadN X12.here hx rfl (hb hby own_d9_10) rfl rfl k) ?_
  show own_Fin _ _ _ _ _ _ (T12.setTop (mkF m 11 #[rv a2, own_i 3, rv a3, own_i 3, own_i 20, own_i 3, .val (.int x2)] [(.ref a2)]))
  refine own_to (fun t k => XS.iloadN X12.here hx rfl (hb hby own_d9_11) rfl k) ?_
  obtain ⟨cl13, Ar13, qa13, Sa13, Na13, Ha13, Ga13⟩ := id V2_e12
  have hin14 : ¬ ((3 : Int32) < 0 ∨ cl13.slots.size ≤ ((3 : Int32)).toNatClampNeg) := inb_of Sa13 ⟨by decide, by decide⟩
  refine own_to (fun t k => X12.caload hx (j := (3 : Int32)) (v := (.int x3)) (by rw [e12]; exact Ar13.1) (State.isArrayOf_alike hZ.alike Ar13.2.1) Ar13.2.2 hin14 (Has.at Ha13 hin14 rfl) (g := (mkF m 12 #[rv a2, own_i 3, rv a3, own_i 3, own_i 20, own_i 3, .val (.int x2)] [(.int (3 : Int32)), (.ref a2)])) rfl rfl (hb hby own_d9_12) _ k) ?_
  show own_Fin _ _ _ _ _ _ (T12.setTop (mkF m 13 #[rv a2, own_i 3, rv a3, own_i 3, own_i 20, own_i 3, .val (.int x2)] [(.int x3)]))
  refine own_to (fun t k => XS.istore X12.here hx rfl (hb hby own_d9_13) rfl (l' := #[rv a2, own_i 3, rv a3, own_i 3, own_i 20, own_i 3, .val (.int x3)]) rfl k) ?_
  show own_Fin _ _ _ _ _ _ (T12.setTop (mkF m 15 #[rv a2, own_i 3, rv a3, own_i 3, own_i 20, own_i 3, .val (.int x3)] []))
  refine own_to (fun t k => XS.iload X12.here hx rfl (hb hby own_d9_15) rfl k) ?_
  refine own_to (fun t k => XS.sipush X12.here hx rfl (hb hby own_d9_17) k) ?_
  refine own_to (fun t k => XS.icmpYes X12.here hx rfl (pc0 := 20) (pc' := 26) rfl (hb hby own_d9_20) rfl (flt hx3).2.2.2 (by decide) (by decide) k) ?_
  show own_Fin _ _ _ _ _ _ (T12.setTop (mkF m 26 #[rv a2, own_i 3, rv a3, own_i 3, own_i 20, own_i 3, .val (.int x3)] []))
  refine own_to (fun t k => XS.aloadN X12.here hx rfl (hb hby own_d9_26) rfl rfl k) ?_
  show own_Fin _ _ _ _ _ _ (T12.setTop (mkF m 27 #[rv a2, own_i 3, rv a3, own_i 3, own_i 20, own_i 3, .val (.int x3)] [(.ref a3)]))
  refine own_to (fun t k => XS.iloadN X12.here hx rfl (hb hby own_d9_27) rfl k) ?_
  refine own_to (fun t k => XS.iload X12.here hx rfl (hb hby own_d9_28) rfl k) ?_
  refine own_to (fun t k => XS.i2b X12.here hx rfl (hb hby own_d9_30) rfl k) ?_
  show own_Fin _ _ _ _ _ _ (T12.setTop (mkF m 31 #[rv a2, own_i 3, rv a3, own_i 3, own_i 20, own_i 3, .val (.int x3)] [(.int (x3.toInt8.toInt32)), (.int (3 : Int32)), (.ref a3)]))
  obtain ⟨cl15, Ar15, qa15, Sa15, Na15, Ha15, Ga15⟩ := id V12
  have hin16 : ¬ ((3 : Int32) < 0 ∨ cl15.slots.size ≤ ((3 : Int32)).toNatClampNeg) := inb_of Sa15 ⟨by decide, by decide⟩
  obtain ⟨T16, h16, X16, e16, W16, st16⟩ := stB X12 hx hZ e12 Ar15 (j := (3 : Int32)) hin16 (g := (mkF m 31 #[rv a2, own_i 3, rv a3, own_i 3, own_i 20, own_i 3, .val (.int x3)] [(.int (x3.toInt8.toInt32)), (.int (3 : Int32)), (.ref a3)])) rfl rfl (hb hby own_d9_31)
  rw [own_idem _] at W16
  have N16 := Fr.snoc X16 N12 g_a3
  have KK16 : Keep h0 h16 [a3] := KK12.wr W16 (Or.inl (List.mem_of_getElem? (i := 0) rfl))
  have V2_e16 := V2_e12.other W16 ne23
  have V16 : Arv Z h16 a3 k3 .byte (20 : Int32) [(.int (x0.toInt8.toInt32)), (.int (x1.toInt8.toInt32)), (.int (x2.toInt8.toInt32)), (.int (x3.toInt8.toInt32)), (.int (0 : Int32)), (.int (0 : Int32)), (.int (0 : Int32)), (.int (0 : Int32)), (.int (0 : Int32)), (.int (0 : Int32)), (.int (0 : Int32)), (.int (0 : Int32)), (.int (0 : Int32)), (.int (0 : Int32)), (.int (0 : Int32)), (.int (0 : Int32)), (.int (0 : Int32)), (.int (0 : Int32)), (.int (0 : Int32)), (.int (0 : Int32))] (.int (0 : Int32)) := Arv.set Ar15 qa15 Sa15 Na15 Ha15 Ga15 (fits_nar_byte _) W16 3 rfl (Nat.le_of_ble_eq_true rfl)
  have zs17 := (Nat.le_trans (Nat.le_trans (Nat.le_trans Z0 (Keep.of_wr W4).1) (Keep.of_wr W8).1) (Keep.of_wr W12).1)
  refine own_to (fun t k => st16 t k) ?_
  show own_Fin _ _ _ _ _ _ (T16.setTop (mkF m 32 #[rv a2, own_i 3, rv a3, own_i 3, own_i 20, own_i 3, .val (.int x3)] []))
  refine own_to (fun t k => XS.iinc X16.here hx rfl (hb hby own_d9_32) rfl (l' := #[rv a2, own_i 4, rv a3, own_i 3, own_i 20, own_i 3, .val (.int x3)]) rfl k) ?_
  show own_Fin _ _ _ _ _ _ (T16.setTop (mkF m 35 #[rv a2, own_i 4, rv a3, own_i 3, own_i 20, own_i 3, .val (.int x3)] []))
  refine own_to (fun t k => XS.iinc X16.here hx rfl (hb hby own_d9_35) rfl (l' := #[rv a2, own_i 4, rv a3, own_i 4, own_i 20, own_i 3, .val (.int x3)]) rfl k) ?_
  show own_Fin _ _ _ _ _ _ (T16.setTop (mkF m 38 #[rv a2, own_i 4, rv a3, own_i 4, own_i 20, own_i 3, .val (.int x3)] []))
  refine own_to (fun t k => XS.iinc X16.here hx rfl (hb hby own_d9_38) rfl (l' := #[rv a2, own_i 4, rv a3, own_i 4, own_i 20, own_i 4, .val (.int x3)]) rfl k) ?_
  show own_Fin _ _ _ _ _ _ (T16.setTop (mkF m 41 #[rv a2, own_i 4, rv a3, own_i 4, own_i 20, own_i 4, .val (.int x3)] []))
  refine own_to (fun t k => XS.goto X16.here hx rfl (pc0 := 41) (pc' := 3) rfl (hb hby own_d9_41) (by decide) (by decide) k) ?_
  show own_Fin _ _ _ _ _ _ (T16.setTop (mkF m 3 #[rv a2, own_i 4, rv a3, own_i 4, own_i 20, own_i 4, .val (.int x3)] []))
  refine own_to (fun t k => XS.iload X16.here hx rfl (hb hby own_d9_3) rfl k) ?_
  refine own_to (fun t k => XS.iload X16.here hx rfl (hb hby own_d9_5) rfl k) ?_
  refine own_to (fun t k => XS.icmpNo X16.here hx rfl (hb hby own_d9_7) rfl (tlt (by decide)).2.1 k) ?_
  show own_Fin _ _ _ _ _ _ (T16.setTop (mkF m 10 #[rv a2, own_i 4, rv a3, own_i 4, own_i 20, own_i 4, .val (.int x3)] []))
  refine own_to (fun t k => XS.aloadN X16.here hx rfl (hb hby own_d9_10) rfl rfl k) ?_
  show own_Fin _ _ _ _ _ _ (T16.setTop (mkF m 11 #[rv a2, own_i 4, rv a3, own_i 4, own_i 20, own_i 4, .val (.int x3)] [(.ref a2)]))
  refine own_to (fun t k => XS.iloadN X16.here hx rfl (hb hby own_d9_11) rfl k) ?_
  obtain ⟨cl18, Ar18, qa18, Sa18, Na18, Ha18, Ga18⟩ := id V2_e16
  have hin19 : ¬ ((4 : Int32) < 0 ∨ cl18.slots.size ≤ ((4 : Int32)).toNatClampNeg) := inb_of Sa18 ⟨by decide, by decide⟩
  refine own_to (fun t k => X16.caload hx (j := (4 : Int32)) (v := (.int x4)) (by rw [e16]; exact Ar18.1) (State.isArrayOf_alike hZ.alike Ar18.2.1) Ar18.2.2 hin19 (Has.at Ha18 hin19 rfl) (g := (mkF m 12 #[rv a2, own_i 4, rv a3, own_i 4, own_i 20, own_i 4, .val (.int x3)] [(.int (4 : Int32)), (.ref a2)])) rfl rfl (hb hby own_d9_12) _ k) ?_
  show own_Fin _ _ _ _ _ _ (T16.setTop (mkF m 13 #[rv a2, own_i 4, rv a3, own_i 4, own_i 20, own_i 4, .val (.int x3)] [(.int x4)]))
  refine own_to (fun t k => XS.istore X16.here hx rfl (hb hby own_d9_13) rfl (l' := #[rv a2, own_i 4, rv a3, own_i 4, own_i 20, own_i 4, .val (.int x4)]) rfl k) ?_
  show own_Fin _ _ _ _ _ _ (T16.setTop (mkF m 15 #[rv a2, own_i 4, rv a3, own_i 4, own_i 20, own_i 4, .val (.int x4)] []))
  refine own_to (fun t k => XS.iload X16.here hx rfl (hb hby own_d9_15) rfl k) ?_
  refine own_to (fun t k => XS.sipush X16.here hx rfl (hb hby own_d9_17) k) ?_
  refine own_to (fun t k => XS.icmpYes X16.here hx rfl (pc0 := 20) (pc' := 26) rfl (hb hby own_d9_20) rfl (flt hx4).2.2.2 (by decide) (by decide) k) ?_
  show own_Fin _ _ _ _ _ _ (T16.setTop (mkF m 26 #[rv a2, own_i 4, rv a3, own_i 4, own_i 20, own_i 4, .val (.int x4)] []))
  refine own_to (fun t k => XS.aloadN X16.here hx rfl (hb hby own_d9_26) rfl rfl k) ?_
  show own_Fin _ _ _ _ _ _ (T16.setTop (mkF m 27 #[rv a2, own_i 4, rv a3, own_i 4, own_i 20, own_i 4, .val (.int x4)] [(.ref a3)]))
  refine own_to (fun t k => XS.iloadN X16.here hx rfl (hb hby own_d9_27) rfl k) ?_
  refine own_to (fun t k => XS.iload X16.here hx rfl (hb hby own_d9_28) rfl k) ?_
  refine own_to (fun t k => XS.i2b X16.here hx rfl (hb hby own_d9_30) rfl k) ?_
  show own_Fin _ _ _ _ _ _ (T16.setTop (mkF m 31 #[rv a2, own_i 4, rv a3, own_i 4, own_i 20, own_i 4, .val (.int x4)] [(.int (x4.toInt8.toInt32)), (.int (4 : Int32)), (.ref a3)]))
  obtain ⟨cl20, Ar20, qa20, Sa20, Na20, Ha20, Ga20⟩ := id V16
  have hin21 : ¬ ((4 : Int32) < 0 ∨ cl20.slots.size ≤ ((4 : Int32)).toNatClampNeg) := inb_of Sa20 ⟨by decide, by decide⟩
  obtain ⟨T21, h21, X21, e21, W21, st21⟩ := stB X16 hx hZ e16 Ar20 (j := (4 : Int32)) hin21 (g := (mkF m 31 #[rv a2, own_i 4, rv a3, own_i 4, own_i 20, own_i 4, .val (.int x4)] [(.int (x4.toInt8.toInt32)), (.int (4 : Int32)), (.ref a3)])) rfl rfl (hb hby own_d9_31)
  rw [own_idem _] at W21
  have N21 := Fr.snoc X21 N16 g_a3
  have KK21 : Keep h0 h21 [a3] := KK16.wr W21 (Or.inl (List.mem_of_getElem? (i := 0) rfl))
  have V2_e21 := V2_e16.other W21 ne23
  have V21 : Arv Z h21 a3 k3 .byte (20 : Int32) [(.int (x0.toInt8.toInt32)), (.int (x1.toInt8.toInt32)), (.int (x2.toInt8.toInt32)), (.int (x3.toInt8.toInt32)), (.int (x4.toInt8.toInt32)), (.int (0 : Int32)), (.int (0 : Int32)), (.int (0 : Int32)), (.int (0 : Int32)), (.int (0 : Int32)), (.int (0 : Int32)), (.int (0 : Int32)), (.int (0 : Int32)), (.int (0 : Int32)), (.int (0 : Int32)), (.int (0 : Int32)), (.int (0 : Int32)), (.int (0 : Int32)), (.int (0 : Int32)), (.int (0 : Int32))] (.int (0 : Int32)) := Arv.set Ar20 qa20 Sa20 Na20 Ha20 Ga20 (fits_nar_byte _) W21 4 rfl (Nat.le_of_ble_eq_true rfl)
  refine own_to (fun t k => st21 t k) ?_
  show own_Fin _ _ _ _ _ _ (T21.setTop (mkF m 32 #[rv a2, own_i 4, rv a3, own_i 4, own_i 20, own_i 4, .val (.int x4)] []))
  refine own_to (fun t k => XS.iinc X21.here hx rfl (hb hby own_d9_32) rfl (l' := #[rv a2, own_i 5, rv a3, own_i 4, own_i 20, own_i 4, .val (.int x4)]) rfl k) ?_
  show own_Fin _ _ _ _ _ _ (T21.setTop (mkF m 35 #[rv a2, own_i 5, rv a3, own_i 4, own_i 20, own_i 4, .val (.int x4)] []))
  refine own_to (fun t k => XS.iinc X21.here hx rfl (hb hby own_d9_35) rfl (l' := #[rv a2, own_i 5, rv a3, own_i 5, own_i 20, own_i 4, .val (.int x4)]) rfl k) ?_
  show own_Fin _ _ _ _ _ _ (T21.setTop (mkF m 38 #[rv a2, own_i 5, rv a3, own_i 5, own_i 20, own_i 4, .val (.int x4)] []))
  refine own_to (fun t k => XS.iinc X21.here hx rfl (hb hby own_d9_38) rfl (l' := #[rv a2, own_i 5, rv a3, own_i 5, own_i 20, own_i 5, .val (.int x4)]) rfl k) ?_
  show own_Fin _ _ _ _ _ _ (T21.setTop (mkF m 41 #[rv a2, own_i 5, rv a3, own_i 5, own_i 20, own_i 5, .val (.int x4)] []))
  refine own_to (fun t k => XS.goto X21.here hx rfl (pc0 := 41) (pc' := 3) rfl (hb hby own_d9_41) (by decide) (by decide) k) ?_
  show own_Fin _ _ _ _ _ _ (T21.setTop (mkF m 3 #[rv a2, own_i 5, rv a3, own_i 5, own_i 20, own_i 5, .val (.int x4)] []))
  refine own_to (fun t k => XS.iload X21.here hx rfl (hb hby own_d9_3) rfl k) ?_
  refine own_to (fun t k => XS.iload X21.here hx rfl (hb hby own_d9_5) rfl k) ?_
  refine own_to (fun t k => XS.icmpNo X21.here hx rfl (hb hby own_d9_7) rfl (tlt (by decide)).2.1 k) ?_
  show own_Fin _ _ _ _ _ _ (T21.setTop (mkF m 10 #[rv a2, own_i 5, rv a3, own_i 5, own_i 20, own_i 5, .val (.int x4)] []))
  refine own_to (fun t k => XS.aloadN X21.here hx rfl (hb hby own_d9_10) rfl rfl k) ?_
  show own_Fin _ _ _ _ _ _ (T21.setTop (mkF m 11 #[rv a2, own_i 5, rv a3, own_i 5, own_i 20, own_i 5, .val (.int x4)] [(.ref a2)]))
  refine own_to (fun t k => XS.iloadN X21.here hx rfl (hb hby own_d9_11) rfl k) ?_
  obtain ⟨cl22, Ar22, qa22, Sa22, Na22, Ha22, Ga22⟩ := id V2_e21
  have hin23 : ¬ ((5 : Int32) < 0 ∨ cl22.slots.size ≤ ((5 : Int32)).toNatClampNeg) := inb_of Sa22 ⟨by decide, by decide⟩
  refine own_to (fun t k => X21.caload hx (j := (5 : Int32)) (v := (.int x5)) (by rw [e21]; exact Ar22.1) (State.isArrayOf_alike hZ.alike Ar22.2.1) Ar22.2.2 hin23 (Has.at Ha22 hin23 rfl) (g := (mkF m 12 #[rv a2, own_i 5, rv a3, own_i 5, own_i 20, own_i 5, .val (.int x4)] [(.int (5 : Int32)), (.ref a2)])) rfl rfl (hb hby own_d9_12) _ k) ?_
  show own_Fin _ _ _ _ _ _ (T21.setTop (mkF m 13 #[rv a2, own_i 5, rv a3, own_i 5, own_i 20, own_i 5, .val (.int x4)] [(.int x5)]))
  refine own_to (fun t k => XS.istore X21.here hx rfl (hb hby own_d9_13) rfl (l' := #[rv a2, own_i 5, rv a3, own_i 5, own_i 20, own_i 5, .val (.int x5)]) rfl k) ?_
  show own_Fin _ _ _ _ _ _ (T21.setTop (mkF m 15 #[rv a2, own_i 5, rv a3, own_i 5, own_i 20, own_i 5, .val (.int x5)] []))
  refine own_to (fun t k => XS.iload X21.here hx rfl (hb hby own_d9_15) rfl k) ?_
  refine own_to (fun t k => XS.sipush X21.here hx rfl (hb hby own_d9_17) k) ?_
  refine own_to (fun t k => XS.icmpYes X21.here hx rfl (pc0 := 20) (pc' := 26) rfl (hb hby own_d9_20) rfl (flt hx5).2.2.2 (by decide) (by decide) k) ?_
  show own_Fin _ _ _ _ _ _ (T21.setTop (mkF m 26 #[rv a2, own_i 5, rv a3, own_i 5, own_i 20, own_i 5, .val (.int x5)] []))
  refine own_to (fun t k => XS.aloadN X21.here hx rfl (hb hby own_d9_26) rfl rfl k) ?_
  show own_Fin _ _ _ _ _ _ (T21.setTop (mkF m 27 #[rv a2, own_i 5, rv a3, own_i 5, own_i 20, own_i 5, .val (.int x5)] [(.ref a3)]))
  refine own_to (fun t k => XS.iloadN X21.here hx rfl (hb hby own_d9_27) rfl k) ?_
  refine own_to (fun t k => XS.iload X21.here hx rfl (hb hby own_d9_28) rfl k) ?_
  refine own_to (fun t k => XS.i2b X21.here hx rfl (hb hby own_d9_30) rfl k) ?_
  show own_Fin _ _ _ _ _ _ (T21.setTop (mkF m 31 #[rv a2, own_i 5, rv a3, own_i 5, own_i 20, own_i 5, .val (.int x5)] [(.int (x5.toInt8.toInt32)), (.int (5 : Int32)), (.ref a3)]))
  obtain ⟨cl24, Ar24, qa24, Sa24, Na24, Ha24, Ga24⟩ := id V21
  have hin25 : ¬ ((5 : Int32) < 0 ∨ cl24.slots.size ≤ ((5 : Int32)).toNatClampNeg) := inb_of Sa24 ⟨by decide, by decide⟩
  obtain ⟨T25, h25, X25, e25, W25, st25⟩ := stB X21 hx hZ e21 Ar24 (j := (5 : Int32)) hin25 (g := (mkF m 31 #[rv a2, own_i 5, rv a3, own_i 5, own_i 20, own_i 5, .val (.int x5)] [(.int (x5.toInt8.toInt32)), (.int (5 : Int32)), (.ref a3)])) rfl rfl (hb hby own_d9_31)
  rw [own_idem _] at W25
  have N25 := Fr.snoc X25 N21 g_a3
  have KK25 : Keep h0 h25 [a3] := KK21.wr W25 (Or.inl (List.mem_of_getElem? (i := 0) rfl))
  have V2_e25 := V2_e21.other W25 ne23
  have V25 : Arv Z h25 a3 k3 .byte (20 : Int32) [(.int (x0.toInt8.toInt32)), (.int (x1.toInt8.toInt32)), (.int (x2.toInt8.toInt32)), (.int (x3.toInt8.toInt32)), (.int (x4.toInt8.toInt32)), (.int (x5.toInt8.toInt32)), (.int (0 : Int32)), (.int (0 : Int32)), (.int (0 : Int32)), (.int (0 : Int32)), (.int (0 : Int32)), (.int (0 : Int32)), (.int (0 : Int32)), (.int (0 : Int32)), (.int (0 : Int32)), (.int (0 : Int32)), (.int (0 : Int32)), (.int (0 : Int32)), (.int (0 : Int32)), (.int (0 : Int32))] (.int (0 : Int32)) := Arv.set Ar24 qa24 Sa24 Na24 Ha24 Ga24 (fits_nar_byte _) W25 5 rfl (Nat.le_of_ble_eq_true rfl)
  refine own_to (fun t k => st25 t k) ?_
  show own_Fin _ _ _ _ _ _ (T25.setTop (mkF m 32 #[rv a2, own_i 5, rv a3, own_i 5, own_i 20, own_i 5, .val (.int x5)] []))
  refine own_to (fun t k => XS.iinc X25.here hx rfl (hb hby own_d9_32) rfl (l' := #[rv a2, own_i 6, rv a3, own_i 5, own_i 20, own_i 5, .val (.int x5)]) rfl k) ?_
  show own_Fin _ _ _ _ _ _ (T25.setTop (mkF m 35 #[rv a2, own_i 6, rv a3, own_i 5, own_i 20, own_i 5, .val (.int x5)] []))
  refine own_to (fun t k => XS.iinc X25.here hx rfl (hb hby own_d9_35) rfl (l' := #[rv a2, own_i 6, rv a3, own_i 6, own_i 20, own_i 5, .val (.int x5)]) rfl k) ?_
  show own_Fin _ _ _ _ _ _ (T25.setTop (mkF m 38 #[rv a2, own_i 6, rv a3, own_i 6, own_i 20, own_i 5, .val (.int x5)] []))
  refine own_to (fun t k => XS.iinc X25.here hx rfl (hb hby own_d9_38) rfl (l' := #[rv a2, own_i 6, rv a3, own_i 6, own_i 20, own_i 6, .val (.int x5)]) rfl k) ?_
  show own_Fin _ _ _ _ _ _ (T25.setTop (mkF m 41 #[rv a2, own_i 6, rv a3, own_i 6, own_i 20, own_i 6, .val (.int x5)] []))
  refine own_to (fun t k => XS.goto X25.here hx rfl (pc0 := 41) (pc' := 3) rfl (hb hby own_d9_41) (by decide) (by decide) k) ?_
  show own_Fin _ _ _ _ _ _ (T25.setTop (mkF m 3 #[rv a2, own_i 6, rv a3, own_i 6, own_i 20, own_i 6, .val (.int x5)] []))
  refine own_to (fun t k => XS.iload X25.here hx rfl (hb hby own_d9_3) rfl k) ?_
  refine own_to (fun t k => XS.iload X25.here hx rfl (hb hby own_d9_5) rfl k) ?_
  refine own_to (fun t k => XS.icmpNo X25.here hx rfl (hb hby own_d9_7) rfl (tlt (by decide)).2.1 k) ?_
  show own_Fin _ _ _ _ _ _ (T25.setTop (mkF m 10 #[rv a2, own_i 6, rv a3, own_i 6, own_i 20, own_i 6, .val (.int x5)] []))
  refine own_to (fun t k => XS.aloadN X25.here hx rfl (hb hby own_d9_10) rfl rfl k) ?_
  show own_Fin _ _ _ _ _ _ (T25.setTop (mkF m 11 #[rv a2, own_i 6, rv a3, own_i 6, own_i 20, own_i 6, .val (.int x5)] [(.ref a2)]))
  refine own_to (fun t k => XS.iloadN X25.here hx rfl (hb hby own_d9_11) rfl k) ?_
  obtain ⟨cl26, Ar26, qa26, Sa26, Na26, Ha26, Ga26⟩ := id V2_e25
  have hin27 : ¬ ((6 : Int32) < 0 ∨ cl26.slots.size ≤ ((6 : Int32)).toNatClampNeg) := inb_of Sa26 ⟨by decide, by decide⟩
  refine own_to (fun t k => X25.caload hx (j := (6 : Int32)) (v := (.int x6)) (by rw [e25]; exact Ar26.1) (State.isArrayOf_alike hZ.alike Ar26.2.1) Ar26.2.2 hin27 (Has.at Ha26 hin27 rfl) (g := (mkF m 12 #[rv a2, own_i 6, rv a3, own_i 6, own_i 20, own_i 6, .val (.int x5)] [(.int (6 : Int32)), (.ref a2)])) rfl rfl (hb hby own_d9_12) _ k) ?_
  show own_Fin _ _ _ _ _ _ (T25.setTop (mkF m 13 #[rv a2, own_i 6, rv a3, own_i 6, own_i 20, own_i 6, .val (.int x5)] [(.int x6)]))
  refine own_to (fun t k => XS.istore X25.here hx rfl (hb hby own_d9_13) rfl (l' := #[rv a2, own_i 6, rv a3, own_i 6, own_i 20, own_i 6, .val (.int x6)]) rfl k) ?_
  show own_Fin _ _ _ _ _ _ (T25.setTop (mkF m 15 #[rv a2, own_i 6, rv a3, own_i 6, own_i 20, own_i 6, .val (.int x6)] []))
  refine own_to (fun t k => XS.iload X25.here hx rfl (hb hby own_d9_15) rfl k) ?_
  refine own_to (fun t k => XS.sipush X25.here hx rfl (hb hby own_d9_17) k) ?_
  refine own_to (fun t k => XS.icmpYes X25.here hx rfl (pc0 := 20) (pc' := 26) rfl (hb hby own_d9_20) rfl (flt hx6).2.2.2 (by decide) (by decide) k) ?_
  show own_Fin _ _ _ _ _ _ (T25.setTop (mkF m 26 #[rv a2, own_i 6, rv a3, own_i 6, own_i 20, own_i 6, .val (.int x6)] []))
  refine own_to (fun t k => XS.aloadN X25.here hx rfl (hb hby own_d9_26) rfl rfl k) ?_
  show own_Fin _ _ _ _ _ _ (T25.setTop (mkF m 27 #[rv a2, own_i 6, rv a3, own_i 6, own_i 20, own_i 6, .val (.int x6)] [(.ref a3)]))
  refine own_to (fun t k => XS.iloadN X25.here hx rfl (hb hby own_d9_27) rfl k) ?_
  refine own_to (fun t k => XS.iload X25.here hx rfl (hb hby own_d9_28) rfl k) ?_
  refine own_to (fun t k => XS.i2b X25.here hx rfl (hb hby own_d9_30) rfl k) ?_
  show own_Fin _ _ _ _ _ _ (T25.setTop (mkF m 31 #[rv a2, own_i 6, rv a3, own_i 6, own_i 20, own_i 6, .val (.int x6)] [(.int (x6.toInt8.toInt32)), (.int (6 : Int32)), (.ref a3)]))
  obtain ⟨cl28, Ar28, qa28, Sa28, Na28, Ha28, Ga28⟩ := id V25
  have hin29 : ¬ ((6 : Int32) < 0 ∨ cl28.slots.size ≤ ((6 : Int32)).toNatClampNeg) := inb_of Sa28 ⟨by decide, by decide⟩
  obtain ⟨T29, h29, X29, e29, W29, st29⟩ := stB X25 hx hZ e25 Ar28 (j := (6 : Int32)) hin29 (g := (mkF m 31 #[rv a2, own_i 6, rv a3, own_i 6, own_i 20, own_i 6, .val (.int x6)] [(.int (x6.toInt8.toInt32)), (.int (6 : Int32)), (.ref a3)])) rfl rfl (hb hby own_d9_31)
  rw [own_idem _] at W29
  have N29 := Fr.snoc X29 N25 g_a3
  have KK29 : Keep h0 h29 [a3] := KK25.wr W29 (Or.inl (List.mem_of_getElem? (i := 0) rfl))
  have V2_e29 := V2_e25.other W29 ne23
  have V29 : Arv Z h29 a3 k3 .byte (20 : Int32) [(.int (x0.toInt8.toInt32)), (.int (x1.toInt8.toInt32)), (.int (x2.toInt8.toInt32)), (.int (x3.toInt8.toInt32)), (.int (x4.toInt8.toInt32)), (.int (x5.toInt8.toInt32)), (.int (x6.toInt8.toInt32)), (.int (0 : Int32)), (.int (0 : Int32)), (.int (0 : Int32)), (.int (0 : Int32)), (.int (0 : Int32)), (.int (0 : Int32)), (.int (0 : Int32)), (.int (0 : Int32)), (.int (0 : Int32)), (.int (0 : Int32)), (.int (0 : Int32)), (.int (0 : Int32)), (.int (0 : Int32))] (.int (0 : Int32)) := Arv.set Ar28 qa28 Sa28 Na28 Ha28 Ga28 (fits_nar_byte _) W29 6 rfl (Nat.le_of_ble_eq_true rfl)
  have zs30 := (Nat.le_trans (Nat.le_trans (Nat.le_trans zs17 (Keep.of_wr W16).1) (Keep.of_wr W21).1) (Keep.of_wr W25).1)
  refine own_to (fun t k => st29 t k) ?_
  show own_Fin _ _ _ _ _ _ (T29.setTop (mkF m 32 #[rv a2, own_i 6, rv a3, own_i 6, own_i 20, own_i 6, .val (.int x6)] []))
  refine own_to (fun t k => XS.iinc X29.here hx rfl (hb hby own_d9_32) rfl (l' := #[rv a2, own_i 7, rv a3, own_i 6, own_i 20, own_i 6, .val (.int x6)]) rfl k) ?_
  show own_Fin _ _ _ _ _ _ (T29.setTop (mkF m 35 #[rv a2, own_i 7, rv a3, own_i 6, own_i 20, own_i 6, .val (.int x6)] []))
  refine own_to (fun t k => XS.iinc X29.here hx rfl (hb hby own_d9_35) rfl (l' := #[rv a2, own_i 7, rv a3, own_i 7, own_i 20, own_i 6, .val (.int x6)]) rfl k) ?_
  show own_Fin _ _ _ _ _ _ (T29.setTop (mkF m 38 #[rv a2, own_i 7, rv a3, own_i 7, own_i 20, own_i 6, .val (.int x6)] []))
  refine own_to (fun t k => XS.iinc X29.here hx rfl (hb hby own_d9_38) rfl (l' := #[rv a2, own_i 7, rv a3, own_i 7, own_i 20, own_i 7, .val (.int x6)]) rfl k) ?_
  show own_Fin _ _ _ _ _ _ (T29.setTop (mkF m 41 #[rv a2, own_i 7, rv a3, own_i 7, own_i 20, own_i 7, .val (.int x6)] []))
  refine own_to (fun t k => XS.goto X29.here hx rfl (pc0 := 41) (pc' := 3) rfl (hb hby own_d9_41) (by decide) (by decide) k) ?_
  show own_Fin _ _ _ _ _ _ (T29.setTop (mkF m 3 #[rv a2, own_i 7, rv a3, own_i 7, own_i 20, own_i 7, .val (.int x6)] []))
  refine own_to (fun t k => XS.iload X29.here hx rfl (hb hby own_d9_3) rfl k) ?_
  refine own_to (fun t k => XS.iload X29.here hx rfl (hb hby own_d9_5) rfl k) ?_
  refine own_to (fun t k => XS.icmpNo X29.here hx rfl (hb hby own_d9_7) rfl (tlt (by decide)).2.1 k) ?_
  show own_Fin _ _ _ _ _ _ (T29.setTop (mkF m 10 #[rv a2, own_i 7, rv a3, own_i 7, own_i 20, own_i 7, .val (.int x6)] []))
  refine own_to (fun t k => XS.aloadN X29.here hx rfl (hb hby own_d9_10) rfl rfl k) ?_
  show own_Fin _ _ _ _ _ _ (T29.setTop (mkF m 11 #[rv a2, own_i 7, rv a3, own_i 7, own_i 20, own_i 7, .val (.int x6)] [(.ref a2)]))
  refine own_to (fun t k => XS.iloadN X29.here hx rfl (hb hby own_d9_11) rfl k) ?_
  obtain ⟨cl31, Ar31, qa31, Sa31, Na31, Ha31, Ga31⟩ := id V2_e29
  have hin32 : ¬ ((7 : Int32) < 0 ∨ cl31.slots.size ≤ ((7 : Int32)).toNatClampNeg) := inb_of Sa31 ⟨by decide, by decide⟩
  refine own_to (fun t k => X29.caload hx (j := (7 : Int32)) (v := (.int x7)) (by rw [e29]; exact Ar31.1) (State.isArrayOf_alike hZ.alike Ar31.2.1) Ar31.2.2 hin32 (Has.at Ha31 hin32 rfl) (g := (mkF m 12 #[rv a2, own_i 7, rv a3, own_i 7, own_i 20, own_i 7, .val (.int x6)] [(.int (7 : Int32)), (.ref a2)])) rfl rfl (hb hby own_d9_12) _ k) ?_
  show own_Fin _ _ _ _ _ _ (T29.setTop (mkF m 13 #[rv a2, own_i 7, rv a3, own_i 7, own_i 20, own_i 7, .val (.int x6)] [(.int x7)]))
  refine own_to (fun t k => XS.istore X29.here hx rfl (hb hby own_d9_13) rfl (l' := #[rv a2, own_i 7, rv a3, own_i 7, own_i 20, own_i 7, .val (.int x7)]) rfl k) ?_
  show own_Fin _ _ _ _ _ _ (T29.setTop (mkF m 15 #[rv a2, own_i 7, rv a3, own_i 7, own_i 20, own_i 7, .val (.int x7)] []))
  refine own_to (fun t k => XS.iload X29.here hx rfl (hb hby own_d9_15) rfl k) ?_
  refine own_to (fun t k => XS.sipush X29.here hx rfl (hb hby own_d9_17) k) ?_
  refine own_to (fun t k => XS.icmpYes X29.here hx rfl (pc0 := 20) (pc' := 26) rfl (hb hby own_d9_20) rfl (flt hx7).2.2.2 (by decide) (by decide) k) ?_
  show own_Fin _ _ _ _ _ _ (T29.setTop (mkF m 26 #[rv a2, own_i 7, rv a3, own_i 7, own_i 20, own_i 7, .val (.int x7)] []))
  refine own_to (fun t k => XS.aloadN X29.here hx rfl (hb hby own_d9_26) rfl rfl k) ?_
  show own_Fin _ _ _ _ _ _ (T29.setTop (mkF m 27 #[rv a2, own_i 7, rv a3, own_i 7, own_i 20, own_i 7, .val (.int x7)] [(.ref a3)]))
  refine own_to (fun t k => XS.iloadN X29.here hx rfl (hb hby own_d9_27) rfl k) ?_
  refine own_to (fun t k => XS.iload X29.here hx rfl (hb hby own_d9_28) rfl k) ?_
  refine own_to (fun t k => XS.i2b X29.here hx rfl (hb hby own_d9_30) rfl k) ?_
  show own_Fin _ _ _ _ _ _ (T29.setTop (mkF m 31 #[rv a2, own_i 7, rv a3, own_i 7, own_i 20, own_i 7, .val (.int x7)] [(.int (x7.toInt8.toInt32)), (.int (7 : Int32)), (.ref a3)]))
  obtain ⟨cl33, Ar33, qa33, Sa33, Na33, Ha33, Ga33⟩ := id V29
  have hin34 : ¬ ((7 : Int32) < 0 ∨ cl33.slots.size ≤ ((7 : Int32)).toNatClampNeg) := inb_of Sa33 ⟨by decide, by decide⟩
  obtain ⟨T34, h34, X34, e34, W34, st34⟩ := stB X29 hx hZ e29 Ar33 (j := (7 : Int32)) hin34 (g := (mkF m 31 #[rv a2, own_i 7, rv a3, own_i 7, own_i 20, own_i 7, .val (.int x7)] [(.int (x7.toInt8.toInt32)), (.int (7 : Int32)), (.ref a3)])) rfl rfl (hb hby own_d9_31)
  rw [own_idem _] at W34
  have N34 := Fr.snoc X34 N29 g_a3
  have KK34 : Keep h0 h34 [a3] := KK29.wr W34 (Or.inl (List.mem_of_getElem? (i := 0) rfl))
  have V2_e34 := V2_e29.other W34 ne23
  have V34 : Arv Z h34 a3 k3 .byte (20 : Int32) [(.int (x0.toInt8.toInt32)), (.int (x1.toInt8.toInt32)), (.int (x2.toInt8.toInt32)), (.int (x3.toInt8.toInt32)), (.int (x4.toInt8.toInt32)), (.int (x5.toInt8.toInt32)), (.int (x6.toInt8.toInt32)), (.int (x7.toInt8.toInt32)), (.int (0 : Int32)), (.int (0 : Int32)), (.int (0 : Int32)), (.int (0 : Int32)), (.int (0 : Int32)), (.int (0 : Int32)), (.int (0 : Int32)), (.int (0 : Int32)), (.int (0 : Int32)), (.int (0 : Int32)), (.int (0 : Int32)), (.int (0 : Int32))] (.int (0 : Int32)) := Arv.set Ar33 qa33 Sa33 Na33 Ha33 Ga33 (fits_nar_byte _) W34 7 rfl (Nat.le_of_ble_eq_true rfl)
  refine own_to (fun t k => st34 t k) ?_
  show own_Fin _ _ _ _ _ _ (T34.setTop (mkF m 32 #[rv a2, own_i 7, rv a3, own_i 7, own_i 20, own_i 7, .val (.int x7)] []))
  refine own_to (fun t k => XS.iinc X34.here hx rfl (hb hby own_d9_32) rfl (l' := #[rv a2, own_i 8, rv a3, own_i 7, own_i 20, own_i 7, .val (.int x7)]) rfl k) ?_
  show own_Fin _ _ _ _ _ _ (T34.setTop (mkF m 35 #[rv a2, own_i 8, rv a3, own_i 7, own_i 20, own_i 7, .val (.int x7)] []))
  refine own_to (fun t k => XS.iinc X34.here hx rfl (hb hby own_d9_35) rfl (l' := #[rv a2, own_i 8, rv a3, own_i 8, own_i 20, own_i 7, .val (.int x7)]) rfl k) ?_
  show own_Fin _ _ _ _ _ _ (T34.setTop (mkF m 38 #[rv a2, own_i 8, rv a3, own_i 8, own_i 20, own_i 7, .val (.int x7)] []))
  refine own_to (fun t k => XS.iinc X34.here hx rfl (hb hby own_d9_38) rfl (l' := #[rv a2, own_i 8, rv a3, own_i 8, own_i 20, own_i 8, .val (.int x7)]) rfl k) ?_
  show own_Fin _ _ _ _ _ _ (T34.setTop (mkF m 41 #[rv a2, own_i 8, rv a3, own_i 8, own_i 20, own_i 8, .val (.int x7)] []))
  refine own_to (fun t k => XS.goto X34.here hx rfl (pc0 := 41) (pc' := 3) rfl (hb hby own_d9_41) (by decide) (by decide) k) ?_
  show own_Fin _ _ _ _ _ _ (T34.setTop (mkF m 3 #[rv a2, own_i 8, rv a3, own_i 8, own_i 20, own_i 8, .val (.int x7)] []))
  refine own_to (fun t k => XS.iload X34.here hx rfl (hb hby own_d9_3) rfl k) ?_
  refine own_to (fun t k => XS.iload X34.here hx rfl (hb hby own_d9_5) rfl k) ?_
  refine own_to (fun t k => XS.icmpNo X34.here hx rfl (hb hby own_d9_7) rfl (tlt (by decide)).2.1 k) ?_
  show own_Fin _ _ _ _ _ _ (T34.setTop (mkF m 10 #[rv a2, own_i 8, rv a3, own_i 8, own_i 20, own_i 8, .val (.int x7)] []))
  refine own_to (fun t k => XS.aloadN X34.here hx rfl (hb hby own_d9_10) rfl rfl k) ?_
  show own_Fin _ _ _ _ _ _ (T34.setTop (mkF m 11 #[rv a2, own_i 8, rv a3, own_i 8, own_i 20, own_i 8, .val (.int x7)] [(.ref a2)]))
  refine own_to (fun t k => XS.iloadN X34.here hx rfl (hb hby own_d9_11) rfl k) ?_
  obtain ⟨cl35, Ar35, qa35, Sa35, Na35, Ha35, Ga35⟩ := id V2_e34
  have hin36 : ¬ ((8 : Int32) < 0 ∨ cl35.slots.size ≤ ((8 : Int32)).toNatClampNeg) := inb_of Sa35 ⟨by decide, by decide⟩
  refine own_to (fun t k => X34.caload hx (j := (8 : Int32)) (v := (.int x8)) (by rw [e34]; exact Ar35.1) (State.isArrayOf_alike hZ.alike Ar35.2.1) Ar35.2.2 hin36 (Has.at Ha35 hin36 rfl) (g := (mkF m 12 #[rv a2, own_i 8, rv a3, own_i 8, own_i 20, own_i 8, .val (.int x7)] [(.int (8 : Int32)), (.ref a2)])) rfl rfl (hb hby own_d9_12) _ k) ?_
  show own_Fin _ _ _ _ _ _ (T34.setTop (mkF m 13 #[rv a2, own_i 8, rv a3, own_i 8, own_i 20, own_i 8, .val (.int x7)] [(.int x8)]))
  refine own_to (fun t k => XS.istore X34.here hx rfl (hb hby own_d9_13) rfl (l' := #[rv a2, own_i 8, rv a3, own_i 8, own_i 20, own_i 8, .val (.int x8)]) rfl k) ?_
  show own_Fin _ _ _ _ _ _ (T34.setTop (mkF m 15 #[rv a2, own_i 8, rv a3, own_i 8, own_i 20, own_i 8, .val (.int x8)] []))
  refine own_to (fun t k => XS.iload X34.here hx rfl (hb hby own_d9_15) rfl k) ?_
  refine own_to (fun t k => XS.sipush X34.here hx rfl (hb hby own_d9_17) k) ?_
  refine own_to (fun t k => XS.icmpYes X34.here hx rfl (pc0 := 20) (pc' := 26) rfl (hb hby own_d9_20) rfl (flt hx8).2.2.2 (by decide) (by decide) k) ?_
  show own_Fin _ _ _ _ _ _ (T34.setTop (mkF m 26 #[rv a2, own_i 8, rv a3, own_i 8, own_i 20, own_i 8, .val (.int x8)] []))
  refine own_to (fun t k => XS.aloadN X34.here hx rfl (hb hby own_d9_26) rfl rfl k) ?_
  show own_Fin _ _ _ _ _ _ (T34.setTop (mkF m 27 #[rv a2, own_i 8, rv a3, own_i 8, own_i 20, own_i 8, .val (.int x8)] [(.ref a3)]))
  refine own_to (fun t k => XS.iloadN X34.here hx rfl (hb hby own_d9_27) rfl k) ?_
  refine own_to (fun t k => XS.iload X34.here hx rfl (hb hby own_d9_28) rfl k) ?_
  refine own_to (fun t k => XS.i2b X34.here hx rfl (hb hby own_d9_30) rfl k) ?_
  show own_Fin _ _ _ _ _ _ (T34.setTop (mkF m 31 #[rv a2, own_i 8, rv a3, own_i 8, own_i 20, own_i 8, .val (.int x8)] [(.int (x8.toInt8.toInt32)), (.int (8 : Int32)), (.ref a3)]))
  obtain ⟨cl37, Ar37, qa37, Sa37, Na37, Ha37, Ga37⟩ := id V34
  have hin38 : ¬ ((8 : Int32) < 0 ∨ cl37.slots.size ≤ ((8 : Int32)).toNatClampNeg) := inb_of Sa37 ⟨by decide, by decide⟩
  obtain ⟨T38, h38, X38, e38, W38, st38⟩ := stB X34 hx hZ e34 Ar37 (j := (8 : Int32)) hin38 (g := (mkF m 31 #[rv a2, own_i 8, rv a3, own_i 8, own_i 20, own_i 8, .val (.int x8)] [(.int (x8.toInt8.toInt32)), (.int (8 : Int32)), (.ref a3)])) rfl rfl (hb hby own_d9_31)
  rw [own_idem _] at W38
  have N38 := Fr.snoc X38 N34 g_a3
  have KK38 : Keep h0 h38 [a3] := KK34.wr W38 (Or.inl (List.mem_of_getElem? (i := 0) rfl))
  have V2_e38 := V2_e34.other W38 ne23
  have V38 : Arv Z h38 a3 k3 .byte (20 : Int32) [(.int (x0.toInt8.toInt32)), (.int (x1.toInt8.toInt32)), (.int (x2.toInt8.toInt32)), (.int (x3.toInt8.toInt32)), (.int (x4.toInt8.toInt32)), (.int (x5.toInt8.toInt32)), (.int (x6.toInt8.toInt32)), (.int (x7.toInt8.toInt32)), (.int (x8.toInt8.toInt32)), (.int (0 : Int32)), (.int (0 : Int32)), (.int (0 : Int32)), (.int (0 : Int32)), (.int (0 : Int32)), (.int (0 : Int32)), (.int (0 : Int32)), (.int (0 : Int32)), (.int (0 : Int32)), (.int (0 : Int32)), (.int (0 : Int32))] (.int (0 : Int32)) := Arv.set Ar37 qa37 Sa37 Na37 Ha37 Ga37 (fits_nar_byte _) W38 8 rfl (Nat.le_of_ble_eq_true rfl)
  refine own_to (fun t k => st38 t k) ?_
  show own_Fin _ _ _ _ _ _ (T38.setTop (mkF m 32 #[rv a2, own_i 8, rv a3, own_i 8, own_i 20, own_i 8, .val (.int x8)] []))
  refine own_to (fun t k => XS.iinc X38.here hx rfl (hb hby own_d9_32) rfl (l' := #[rv a2, own_i 9, rv a3, own_i 8, own_i 20, own_i 8, .val (.int x8)]) rfl k) ?_
  show own_Fin _ _ _ _ _ _ (T38.setTop (mkF m 35 #[rv a2, own_i 9, rv a3, own_i 8, own_i 20, own_i 8, .val (.int x8)] []))
  refine own_to (fun t k => XS.iinc X38.here hx rfl (hb hby own_d9_35) rfl (l' := #[rv a2, own_i 9, rv a3, own_i 9, own_i 20, own_i 8, .val (.int x8)]) rfl k) ?_
  show own_Fin _ _ _ _ _ _ (T38.setTop (mkF m 38 #[rv a2, own_i 9, rv a3, own_i 9, own_i 20, own_i 8, .val (.int x8)] []))
  refine own_to (fun t k => XS.iinc X38.here hx rfl (hb hby own_d9_38) rfl (l' := #[rv a2, own_i 9, rv a3, own_i 9, own_i 20, own_i 9, .val (.int x8)]) rfl k) ?_
  show own_Fin _ _ _ _ _ _ (T38.setTop (mkF m 41 #[rv a2, own_i 9, rv a3, own_i 9, own_i 20, own_i 9, .val (.int x8)] []))
  refine own_to (fun t k => XS.goto X38.here hx rfl (pc0 := 41) (pc' := 3) rfl (hb hby own_d9_41) (by decide) (by decide) k) ?_
  show own_Fin _ _ _ _ _ _ (T38.setTop (mkF m 3 #[rv a2, own_i 9, rv a3, own_i 9, own_i 20, own_i 9, .val (.int x8)] []))
  refine own_to (fun t k => XS.iload X38.here hx rfl (hb hby own_d9_3) rfl k) ?_
  refine own_to (fun t k => XS.iload X38.here hx rfl (hb hby own_d9_5) rfl k) ?_
  refine own_to (fun t k => XS.icmpNo X38.here hx rfl (hb hby own_d9_7) rfl (tlt (by decide)).2.1 k) ?_
  show own_Fin _ _ _ _ _ _ (T38.setTop (mkF m 10 #[rv a2, own_i 9, rv a3, own_i 9, own_i 20, own_i 9, .val (.int x8)] []))
  refine own_to (fun t k => XS.aloadN X38.here hx rfl (hb hby own_d9_10) rfl rfl k) ?_
  show own_Fin _ _ _ _ _ _ (T38.setTop (mkF m 11 #[rv a2, own_i 9, rv a3, own_i 9, own_i 20, own_i 9, .val (.int x8)] [(.ref a2)]))
  refine own_to (fun t k => XS.iloadN X38.here hx rfl (hb hby own_d9_11) rfl k) ?_
  obtain ⟨cl39, Ar39, qa39, Sa39, Na39, Ha39, Ga39⟩ := id V2_e38
  have hin40 : ¬ ((9 : Int32) < 0 ∨ cl39.slots.size ≤ ((9 : Int32)).toNatClampNeg) := inb_of Sa39 ⟨by decide, by decide⟩
  refine own_to (fun t k => X38.caload hx (j := (9 : Int32)) (v := (.int x9)) (by rw [e38]; exact Ar39.1) (State.isArrayOf_alike hZ.alike Ar39.2.1) Ar39.2.2 hin40 (Has.at Ha39 hin40 rfl) (g := (mkF m 12 #[rv a2, own_i 9, rv a3, own_i 9, own_i 20, own_i 9, .val (.int x8)] [(.int (9 : Int32)), (.ref a2)])) rfl rfl (hb hby own_d9_12) _ k) ?_
  show own_Fin _ _ _ _ _ _ (T38.setTop (mkF m 13 #[rv a2, own_i 9, rv a3, own_i 9, own_i 20, own_i 9, .val (.int x8)] [(.int x9)]))
  refine own_to (fun t k => XS.istore X38.here hx rfl (hb hby own_d9_13) rfl (l' := #[rv a2, own_i 9, rv a3, own_i 9, own_i 20, own_i 9, .val (.int x9)]) rfl k) ?_
  show own_Fin _ _ _ _ _ _ (T38.setTop (mkF m 15 #[rv a2, own_i 9, rv a3, own_i 9, own_i 20, own_i 9, .val (.int x9)] []))
  refine own_to (fun t k => XS.iload X38.here hx rfl (hb hby own_d9_15) rfl k) ?_
  refine own_to (fun t k => XS.sipush X38.here hx rfl (hb hby own_d9_17) k) ?_
  refine own_to (fun t k => XS.icmpYes X38.here hx rfl (pc0 := 20) (pc' := 26) rfl (hb hby own_d9_20) rfl (flt hx9).2.2.2 (by decide) (by decide) k) ?_
  show own_Fin _ _ _ _ _ _ (T38.setTop (mkF m 26 #[rv a2, own_i 9, rv a3, own_i 9, own_i 20, own_i 9, .val (.int x9)] []))
  refine own_to (fun t k => XS.aloadN X38.here hx rfl (hb hby own_d9_26) rfl rfl k) ?_
  show own_Fin _ _ _ _ _ _ (T38.setTop (mkF m 27 #[rv a2, own_i 9, rv a3, own_i 9, own_i 20, own_i 9, .val (.int x9)] [(.ref a3)]))
  refine own_to (fun t k => XS.iloadN X38.here hx rfl (hb hby own_d9_27) rfl k) ?_
  refine own_to (fun t k => XS.iload X38.here hx rfl (hb hby own_d9_28) rfl k) ?_
  refine own_to (fun t k => XS.i2b X38.here hx rfl (hb hby own_d9_30) rfl k) ?_
  show own_Fin _ _ _ _ _ _ (T38.setTop (mkF m 31 #[rv a2, own_i 9, rv a3, own_i 9, own_i 20, own_i 9, .val (.int x9)] [(.int (x9.toInt8.toInt32)), (.int (9 : Int32)), (.ref a3)]))
  obtain ⟨cl41, Ar41, qa41, Sa41, Na41, Ha41, Ga41⟩ := id V38
  have hin42 : ¬ ((9 : Int32) < 0 ∨ cl41.slots.size ≤ ((9 : Int32)).toNatClampNeg) := inb_of Sa41 ⟨by decide, by decide⟩
  obtain ⟨T42, h42, X42, e42, W42, st42⟩ := stB X38 hx hZ e38 Ar41 (j := (9 : Int32)) hin42 (g := (mkF m 31 #[rv a2, own_i 9, rv a3, own_i 9, own_i 20, own_i 9, .val (.int x9)] [(.int (x9.toInt8.toInt32)), (.int (9 : Int32)), (.ref a3)])) rfl rfl (hb hby own_d9_31)
  rw [own_idem _] at W42
  have N42 := Fr.snoc X42 N38 g_a3
  have KK42 : Keep h0 h42 [a3] := KK38.wr W42 (Or.inl (List.mem_of_getElem? (i := 0) rfl))
  have V2_e42 := V2_e38.other W42 ne23
  have V42 : Arv Z h42 a3 k3 .byte (20 : Int32) [(.int (x0.toInt8.toInt32)), (.int (x1.toInt8.toInt32)), (.int (x2.toInt8.toInt32)), (.int (x3.toInt8.toInt32)), (.int (x4.toInt8.toInt32)), (.int (x5.toInt8.toInt32)), (.int (x6.toInt8.toInt32)), (.int (x7.toInt8.toInt32)), (.int (x8.toInt8.toInt32)), (.int (x9.toInt8.toInt32)), (.int (0 : Int32)), (.int (0 : Int32)), (.int (0 : Int32)), (.int (0 : Int32)), (.int (0 : Int32)), (.int (0 : Int32)), (.int (0 : Int32)), (.int (0 : Int32)), (.int (0 : Int32)), (.int (0 : Int32))] (.int (0 : Int32)) := Arv.set Ar41 qa41 Sa41 Na41 Ha41 Ga41 (fits_nar_byte _) W42 9 rfl (Nat.le_of_ble_eq_true rfl)
  have zs43 := (Nat.le_trans (Nat.le_trans (Nat.le_trans zs30 (Keep.of_wr W29).1) (Keep.of_wr W34).1) (Keep.of_wr W38).1)
  refine own_to (fun t k => st42 t k) ?_
  show own_Fin _ _ _ _ _ _ (T42.setTop (mkF m 32 #[rv a2, own_i 9, rv a3, own_i 9, own_i 20, own_i 9, .val (.int x9)] []))
  refine own_to (fun t k => XS.iinc X42.here hx rfl (hb hby own_d9_32) rfl (l' := #[rv a2, own_i 10, rv a3, own_i 9, own_i 20, own_i 9, .val (.int x9)]) rfl k) ?_
  show own_Fin _ _ _ _ _ _ (T42.setTop (mkF m 35 #[rv a2, own_i 10, rv a3, own_i 9, own_i 20, own_i 9, .val (.int x9)] []))
  refine own_to (fun t k => XS.iinc X42.here hx rfl (hb hby own_d9_35) rfl (l' := #[rv a2, own_i 10, rv a3, own_i 10, own_i 20, own_i 9, .val (.int x9)]) rfl k) ?_
  show own_Fin _ _ _ _ _ _ (T42.setTop (mkF m 38 #[rv a2, own_i 10, rv a3, own_i 10, own_i 20, own_i 9, .val (.int x9)] []))
  refine own_to (fun t k => XS.iinc X42.here hx rfl (hb hby own_d9_38) rfl (l' := #[rv a2, own_i 10, rv a3, own_i 10, own_i 20, own_i 10, .val (.int x9)]) rfl k) ?_
  show own_Fin _ _ _ _ _ _ (T42.setTop (mkF m 41 #[rv a2, own_i 10, rv a3, own_i 10, own_i 20, own_i 10, .val (.int x9)] []))
  refine own_to (fun t k => XS.goto X42.here hx rfl (pc0 := 41) (pc' := 3) rfl (hb hby own_d9_41) (by decide) (by decide) k) ?_
  show own_Fin _ _ _ _ _ _ (T42.setTop (mkF m 3 #[rv a2, own_i 10, rv a3, own_i 10, own_i 20, own_i 10, .val (.int x9)] []))
  refine own_to (fun t k => XS.iload X42.here hx rfl (hb hby own_d9_3) rfl k) ?_
  refine own_to (fun t k => XS.iload X42.here hx rfl (hb hby own_d9_5) rfl k) ?_
  refine own_to (fun t k => XS.icmpNo X42.here hx rfl (hb hby own_d9_7) rfl (tlt (by decide)).2.1 k) ?_
  show own_Fin _ _ _ _ _ _ (T42.setTop (mkF m 10 #[rv a2, own_i 10, rv a3, own_i 10, own_i 20, own_i 10, .val (.int x9)] []))
  refine own_to (fun t k => XS.aloadN X42.here hx rfl (hb hby own_d9_10) rfl rfl k) ?_
  show own_Fin _ _ _ _ _ _ (T42.setTop (mkF m 11 #[rv a2, own_i 10, rv a3, own_i 10, own_i 20, own_i 10, .val (.int x9)] [(.ref a2)]))
  refine own_to (fun t k => XS.iloadN X42.here hx rfl (hb hby own_d9_11) rfl k) ?_
  obtain ⟨cl44, Ar44, qa44, Sa44, Na44, Ha44, Ga44⟩ := id V2_e42
  have hin45 : ¬ ((10 : Int32) < 0 ∨ cl44.slots.size ≤ ((10 : Int32)).toNatClampNeg) := inb_of Sa44 ⟨by decide, by decide⟩
  refine own_to (fun t k => X42.caload hx (j := (10 : Int32)) (v := (.int x10)) (by rw [e42]; exact Ar44.1) (State.isArrayOf_alike hZ.alike Ar44.2.1) Ar44.2.2 hin45 (Has.at Ha44 hin45 rfl) (g := (mkF m 12 #[rv a2, own_i 10, rv a3, own_i 10, own_i 20, own_i 10, .val (.int x9)] [(.int (10 : Int32)), (.ref a2)])) rfl rfl (hb hby own_d9_12) _ k) ?_
  show own_Fin _ _ _ _ _ _ (T42.setTop (mkF m 13 #[rv a2, own_i 10, rv a3, own_i 10, own_i 20, own_i 10, .val (.int x9)] [(.int x10)]))
  refine own_to (fun t k => XS.istore X42.here hx rfl (hb hby own_d9_13) rfl (l' := #[rv a2, own_i 10, rv a3, own_i 10, own_i 20, own_i 10, .val (.int x10)]) rfl k) ?_
  show own_Fin _ _ _ _ _ _ (T42.setTop (mkF m 15 #[rv a2, own_i 10, rv a3, own_i 10, own_i 20, own_i 10, .val (.int x10)] []))
  refine own_to (fun t k => XS.iload X42.here hx rfl (hb hby own_d9_15) rfl k) ?_
  refine own_to (fun t k => XS.sipush X42.here hx rfl (hb hby own_d9_17) k) ?_
  refine own_to (fun t k => XS.icmpYes X42.here hx rfl (pc0 := 20) (pc' := 26) rfl (hb hby own_d9_20) rfl (flt hx10).2.2.2 (by decide) (by decide) k) ?_
  show own_Fin _ _ _ _ _ _ (T42.setTop (mkF m 26 #[rv a2, own_i 10, rv a3, own_i 10, own_i 20, own_i 10, .val (.int x10)] []))
  refine own_to (fun t k => XS.aloadN X42.here hx rfl (hb hby own_d9_26) rfl rfl k) ?_
  show own_Fin _ _ _ _ _ _ (T42.setTop (mkF m 27 #[rv a2, own_i 10, rv a3, own_i 10, own_i 20, own_i 10, .val (.int x10)] [(.ref a3)]))
  refine own_to (fun t k => XS.iloadN X42.here hx rfl (hb hby own_d9_27) rfl k) ?_
  refine own_to (fun t k => XS.iload X42.here hx rfl (hb hby own_d9_28) rfl k) ?_
  refine own_to (fun t k => XS.i2b X42.here hx rfl (hb hby own_d9_30) rfl k) ?_
  show own_Fin _ _ _ _ _ _ (T42.setTop (mkF m 31 #[rv a2, own_i 10, rv a3, own_i 10, own_i 20, own_i 10, .val (.int x10)] [(.int (x10.toInt8.toInt32)), (.int (10 : Int32)), (.ref a3)]))
  obtain ⟨cl46, Ar46, qa46, Sa46, Na46, Ha46, Ga46⟩ := id V42
  have hin47 : ¬ ((10 : Int32) < 0 ∨ cl46.slots.size ≤ ((10 : Int32)).toNatClampNeg) := inb_of Sa46 ⟨by decide, by decide⟩
  obtain ⟨T47, h47, X47, e47, W47, st47⟩ := stB X42 hx hZ e42 Ar46 (j := (10 : Int32)) hin47 (g := (mkF m 31 #[rv a2, own_i 10, rv a3, own_i 10, own_i 20, own_i 10, .val (.int x10)] [(.int (x10.toInt8.toInt32)), (.int (10 : Int32)), (.ref a3)])) rfl rfl (hb hby own_d9_31)
  rw [own_idem _] at W47
  have N47 := Fr.snoc X47 N42 g_a3
  have KK47 : Keep h0 h47 [a3] := KK42.wr W47 (Or.inl (List.mem_of_getElem? (i := 0) rfl))
  have V2_e47 := V2_e42.other W47 ne23
  have V47 : Arv Z h47 a3 k3 .byte (20 : Int32) [(.int (x0.toInt8.toInt32)), (.int (x1.toInt8.toInt32)), (.int (x2.toInt8.toInt32)), (.int (x3.toInt8.toInt32)), (.int (x4.toInt8.toInt32)), (.int (x5.toInt8.toInt32)), (.int (x6.toInt8.toInt32)), (.int (x7.toInt8.toInt32)), (.int (x8.toInt8.toInt32)), (.int (x9.toInt8.toInt32)), (.int (x10.toInt8.toInt32)), (.int (0 : Int32)), (.int (0 : Int32)), (.int (0 : Int32)), (.int (0 : Int32)), (.int (0 : Int32)), (.int (0 : Int32)), (.int (0 : Int32)), (.int (0 : Int32)), (.int (0 : Int32))] (.int (0 : Int32)) := Arv.set Ar46 qa46 Sa46 Na46 Ha46 Ga46 (fits_nar_byte _) W47 10 rfl (Nat.le_of_ble_eq_true rfl)
  refine own_to (fun t k => st47 t k) ?_
  show own_Fin _ _ _ _ _ _ (T47.setTop (mkF m 32 #[rv a2, own_i 10, rv a3, own_i 10, own_i 20, own_i 10, .val (.int x10)] []))
  refine own_to (fun t k => XS.iinc X47.here hx rfl (hb hby own_d9_32) rfl (l' := #[rv a2, own_i 11, rv a3, own_i 10, own_i 20, own_i 10, .val (.int x10)]) rfl k) ?_
  show own_Fin _ _ _ _ _ _ (T47.setTop (mkF m 35 #[rv a2, own_i 11, rv a3, own_i 10, own_i 20, own_i 10, .val (.int x10)] []))
  refine own_to (fun t k => XS.iinc X47.here hx rfl (hb hby own_d9_35) rfl (l' := #[rv a2, own_i 11, rv a3, own_i 11, own_i 20, own_i 10, .val (.int x10)]) rfl k) ?_
  show own_Fin _ _ _ _ _ _ (T47.setTop (mkF m 38 #[rv a2, own_i 11, rv a3, own_i 11, own_i 20, own_i 10, .val (.int x10)] []))
  refine own_to (fun t k => XS.iinc X47.here hx rfl (hb hby own_d9_38) rfl (l' := #[rv a2, own_i 11, rv a3, own_i 11, own_i 20, own_i 11, .val (.int x10)]) rfl k) ?_
  show own_Fin _ _ _ _ _ _ (T47.setTop (mkF m 41 #[rv a2, own_i 11, rv a3, own_i 11, own_i 20, own_i 11, .val (.int x10)] []))
  refine own_to (fun t k => XS.goto X47.here hx rfl (pc0 := 41) (pc' := 3) rfl (hb hby own_d9_41) (by decide) (by decide) k) ?_
  show own_Fin _ _ _ _ _ _ (T47.setTop (mkF m 3 #[rv a2, own_i 11, rv a3, own_i 11, own_i 20, own_i 11, .val (.int x10)] []))
  refine own_to (fun t k => XS.iload X47.here hx rfl (hb hby own_d9_3) rfl k) ?_
  refine own_to (fun t k => XS.iload X47.here hx rfl (hb hby own_d9_5) rfl k) ?_
  refine own_to (fun t k => XS.icmpNo X47.here hx rfl (hb hby own_d9_7) rfl (tlt (by decide)).2.1 k) ?_
  show own_Fin _ _ _ _ _ _ (T47.setTop (mkF m 10 #[rv a2, own_i 11, rv a3, own_i 11, own_i 20, own_i 11, .val (.int x10)] []))
  refine own_to (fun t k => XS.aloadN X47.here hx rfl (hb hby own_d9_10) rfl rfl k) ?_
  show own_Fin _ _ _ _ _ _ (T47.setTop (mkF m 11 #[rv a2, own_i 11, rv a3, own_i 11, own_i 20, own_i 11, .val (.int x10)] [(.ref a2)]))
  refine own_to (fun t k => XS.iloadN X47.here hx rfl (hb hby own_d9_11) rfl k) ?_
  obtain ⟨cl48, Ar48, qa48, Sa48, Na48, Ha48, Ga48⟩ := id V2_e47
  have hin49 : ¬ ((11 : Int32) < 0 ∨ cl48.slots.size ≤ ((11 : Int32)).toNatClampNeg) := inb_of Sa48 ⟨by decide, by decide⟩
  refine own_to (fun t k => X47.caload hx (j := (11 : Int32)) (v := (.int x11)) (by rw [e47]; exact Ar48.1) (State.isArrayOf_alike hZ.alike Ar48.2.1) Ar48.2.2 hin49 (Has.at Ha48 hin49 rfl) (g := (mkF m 12 #[rv a2, own_i 11, rv a3, own_i 11, own_i 20, own_i 11, .val (.int x10)] [(.int (11 : Int32)), (.ref a2)])) rfl rfl (hb hby own_d9_12) _ k) ?_
  show own_Fin _ _ _ _ _ _ (T47.setTop (mkF m 13 #[rv a2, own_i 11, rv a3, own_i 11, own_i 20, own_i 11, .val (.int x10)] [(.int x11)]))
  refine own_to (fun t k => XS.istore X47.here hx rfl (hb hby own_d9_13) rfl (l' := #[rv a2, own_i 11, rv a3, own_i 11, own_i 20, own_i 11, .val (.int x11)]) rfl k) ?_
  show own_Fin _ _ _ _ _ _ (T47.setTop (mkF m 15 #[rv a2, own_i 11, rv a3, own_i 11, own_i 20, own_i 11, .val (.int x11)] []))
  refine own_to (fun t k => XS.iload X47.here hx rfl (hb hby own_d9_15) rfl k) ?_
  refine own_to (fun t k => XS.sipush X47.here hx rfl (hb hby own_d9_17) k) ?_
  refine own_to (fun t k => XS.icmpYes X47.here hx rfl (pc0 := 20) (pc' := 26) rfl (hb hby own_d9_20) rfl (flt hx11).2.2.2 (by decide) (by decide) k) ?_
  show own_Fin _ _ _ _ _ _ (T47.setTop (mkF m 26 #[rv a2, own_i 11, rv a3, own_i 11, own_i 20, own_i 11, .val (.int x11)] []))
  refine own_to (fun t k => XS.aloadN X47.here hx rfl (hb hby own_d9_26) rfl rfl k) ?_
  show own_Fin _ _ _ _ _ _ (T47.setTop (mkF m 27 #[rv a2, own_i 11, rv a3, own_i 11, own_i 20, own_i 11, .val (.int x11)] [(.ref a3)]))
  refine own_to (fun t k => XS.iloadN X47.here hx rfl (hb hby own_d9_27) rfl k) ?_
  refine own_to (fun t k => XS.iload X47.here hx rfl (hb hby own_d9_28) rfl k) ?_
  refine own_to (fun t k => XS.i2b X47.here hx rfl (hb hby own_d9_30) rfl k) ?_
  show own_Fin _ _ _ _ _ _ (T47.setTop (mkF m 31 #[rv a2, own_i 11, rv a3, own_i 11, own_i 20, own_i 11, .val (.int x11)] [(.int (x11.toInt8.toInt32)), (.int (11 : Int32)), (.ref a3)]))
  obtain ⟨cl50, Ar50, qa50, Sa50, Na50, Ha50, Ga50⟩ := id V47
  have hin51 : ¬ ((11 : Int32) < 0 ∨ cl50.slots.size ≤ ((11 : Int32)).toNatClampNeg) := inb_of Sa50 ⟨by decide, by decide⟩
  obtain ⟨T51, h51, X51, e51, W51, st51⟩ := stB X47 hx hZ e47 Ar50 (j := (11 : Int32)) hin51 (g := (mkF m 31 #[rv a2, own_i 11, rv a3, own_i 11, own_i 20, own_i 11, .val (.int x11)] [(.int (x11.toInt8.toInt32)), (.int (11 : Int32)), (.ref a3)])) rfl rfl (hb hby own_d9_31)
  rw [own_idem _] at W51
  have N51 := Fr.snoc X51 N47 g_a3
  have KK51 : Keep h0 h51 [a3] := KK47.wr W51 (Or.inl (List.mem_of_getElem? (i := 0) rfl))
  have V2_e51 := V2_e47.other W51 ne23
  have V51 : Arv Z h51 a3 k3 .byte (20 : Int32) [(.int (x0.toInt8.toInt32)), (.int (x1.toInt8.toInt32)), (.int (x2.toInt8.toInt32)), (.int (x3.toInt8.toInt32)), (.int (x4.toInt8.toInt32)), (.int (x5.toInt8.toInt32)), (.int (x6.toInt8.toInt32)), (.int (x7.toInt8.toInt32)), (.int (x8.toInt8.toInt32)), (.int (x9.toInt8.toInt32)), (.int (x10.toInt8.toInt32)), (.int (x11.toInt8.toInt32)), (.int (0 : Int32)), (.int (0 : Int32)), (.int (0 : Int32)), (.int (0 : Int32)), (.int (0 : Int32)), (.int (0 : Int32)), (.int (0 : Int32)), (.int (0 : Int32))] (.int (0 : Int32)) := Arv.set Ar50 qa50 Sa50 Na50 Ha50 Ga50 (fits_nar_byte _) W51 11 rfl (Nat.le_of_ble_eq_true rfl)
  refine own_to (fun t k => st51 t k) ?_
  show own_Fin _ _ _ _ _ _ (T51.setTop (mkF m 32 #[rv a2, own_i 11, rv a3, own_i 11, own_i 20, own_i 11, .val (.int x11)] []))
  refine own_to (fun t k => XS.iinc X51.here hx rfl (hb hby own_d9_32) rfl (l' := #[rv a2, own_i 12, rv a3, own_i 11, own_i 20, own_i 11, .val (.int x11)]) rfl k) ?_
  show own_Fin _ _ _ _ _ _ (T51.setTop (mkF m 35 #[rv a2, own_i 12, rv a3, own_i 11, own_i 20, own_i 11, .val (.int x11)] []))
  refine own_to (fun t k => XS.iinc X51.here hx rfl (hb hby own_d9_35) rfl (l' := #[rv a2, own_i 12, rv a3, own_i 12, own_i 20, own_i 11, .val (.int x11)]) rfl k) ?_
  show own_Fin _ _ _ _ _ _ (T51.setTop (mkF m 38 #[rv a2, own_i 12, rv a3, own_i 12, own_i 20, own_i 11, .val (.int x11)] []))
  refine own_to (fun t k => XS.iinc X51.here hx rfl (hb hby own_d9_38) rfl (l' := #[rv a2, own_i 12, rv a3, own_i 12, own_i 20, own_i 12, .val (.int x11)]) rfl k) ?_
  show own_Fin _ _ _ _ _ _ (T51.setTop (mkF m 41 #[rv a2, own_i 12, rv a3, own_i 12, own_i 20, own_i 12, .val (.int x11)] []))
  refine own_to (fun t k => XS.goto X51.here hx rfl (pc0 := 41) (pc' := 3) rfl (hb hby own_d9_41) (by decide) (by decide) k) ?_
  show own_Fin _ _ _ _ _ _ (T51.setTop (mkF m 3 #[rv a2, own_i 12, rv a3, own_i 12, own_i 20, own_i 12, .val (.int x11)] []))
  refine own_to (fun t k => XS.iload X51.here hx rfl (hb hby own_d9_3) rfl k) ?_
  refine own_to (fun t k => XS.iload X51.here hx rfl (hb hby own_d9_5) rfl k) ?_
  refine own_to (fun t k => XS.icmpNo X51.here hx rfl (hb hby own_d9_7) rfl (tlt (by decide)).2.1 k) ?_
  show own_Fin _ _ _ _ _ _ (T51.setTop (mkF m 10 #[rv a2, own_i 12, rv a3, own_i 12, own_i 20, own_i 12, .val (.int x11)] []))
  refine own_to (fun t k => XS.aloadN X51.here hx rfl (hb hby own_d9_10) rfl rfl k) ?_
  show own_Fin _ _ _ _ _ _ (T51.setTop (mkF m 11 #[rv a2, own_i 12, rv a3, own_i 12, own_i 20, own_i 12, .val (.int x11)] [(.ref a2)]))
  refine own_to (fun t k => XS.iloadN X51.here hx rfl (hb hby own_d9_11) rfl k) ?_
  obtain ⟨cl52, Ar52, qa52, Sa52, Na52, Ha52, Ga52⟩ := id V2_e51
  have hin53 : ¬ ((12 : Int32) < 0 ∨ cl52.slots.size ≤ ((12 : Int32)).toNatClampNeg) := inb_of Sa52 ⟨by decide, by decide⟩
  refine own_to (fun t k => X51.caload hx (j := (12 : Int32)) (v := (.int x12)) (by rw [e51]; exact Ar52.1) (State.isArrayOf_alike hZ.alike Ar52.2.1) Ar52.2.2 hin53 (Has.at Ha52 hin53 rfl) (g := (mkF m 12 #[rv a2, own_i 12, rv a3, own_i 12, own_i 20, own_i 12, .val (.int x11)] [(.int (12 : Int32)), (.ref a2)])) rfl rfl (hb hby own_d9_12) _ k) ?_
  show own_Fin _ _ _ _ _ _ (T51.setTop (mkF m 13 #[rv a2, own_i 12, rv a3, own_i 12, own_i 20, own_i 12, .val (.int x11)] [(.int x12)]))
  refine own_to (fun t k => XS.istore X51.here hx rfl (hb hby own_d9_13) rfl (l' := #[rv a2, own_i 12, rv a3, own_i 12, own_i 20, own_i 12, .val (.int x12)]) rfl k) ?_
  show own_Fin _ _ _ _ _ _ (T51.setTop (mkF m 15 #[rv a2, own_i 12, rv a3, own_i 12, own_i 20, own_i 12, .val (.int x12)] []))
  refine own_to (fun t k => XS.iload X51.here hx rfl (hb hby own_d9_15) rfl k) ?_
  refine own_to (fun t k => XS.sipush X51.here hx rfl (hb hby own_d9_17) k) ?_
  refine own_to (fun t k => XS.icmpYes X51.here hx rfl (pc0 := 20) (pc' := 26) rfl (hb hby own_d9_20) rfl (flt hx12).2.2.2 (by decide) (by decide) k) ?_
  show own_Fin _ _ _ _ _ _ (T51.setTop (mkF m 26 #[rv a2, own_i 12, rv a3, own_i 12, own_i 20, own_i 12, .val (.int x12)] []))
  refine own_to (fun t k => XS.aloadN X51.here hx rfl (hb hby own_d9_26) rfl rfl k) ?_
  show own_Fin _ _ _ _ _ _ (T51.setTop (mkF m 27 #[rv a2, own_i 12, rv a3, own_i 12, own_i 20, own_i 12, .val (.int x12)] [(.ref a3)]))
  refine own_to (fun t k => XS.iloadN X51.here hx rfl (hb hby own_d9_27) rfl k) ?_
  refine own_to (fun t k => XS.iload X51.here hx rfl (hb hby own_d9_28) rfl k) ?_
  refine own_to (fun t k => XS.i2b X51.here hx rfl (hb hby own_d9_30) rfl k) ?_
  show own_Fin _ _ _ _ _ _ (T51.setTop (mkF m 31 #[rv a2, own_i 12, rv a3, own_i 12, own_i 20, own_i 12, .val (.int x12)] [(.int (x12.toInt8.toInt32)), (.int (12 : Int32)), (.ref a3)]))
  obtain ⟨cl54, Ar54, qa54, Sa54, Na54, Ha54, Ga54⟩ := id V51
  have hin55 : ¬ ((12 : Int32) < 0 ∨ cl54.slots.size ≤ ((12 : Int32)).toNatClampNeg) := inb_of Sa54 ⟨by decide, by decide⟩
  obtain ⟨T55, h55, X55, e55, W55, st55⟩ := stB X51 hx hZ e51 Ar54 (j := (12 : Int32)) hin55 (g := (mkF m 31 #[rv a2, own_i 12, rv a3, own_i 12, own_i 20, own_i 12, .val (.int x12)] [(.int (x12.toInt8.toInt32)), (.int (12 : Int32)), (.ref a3)])) rfl rfl (hb hby own_d9_31)
  rw [own_idem _] at W55
  have N55 := Fr.snoc X55 N51 g_a3
  have KK55 : Keep h0 h55 [a3] := KK51.wr W55 (Or.inl (List.mem_of_getElem? (i := 0) rfl))
  have V2_e55 := V2_e51.other W55 ne23
  have V55 : Arv Z h55 a3 k3 .byte (20 : Int32) [(.int (x0.toInt8.toInt32)), (.int (x1.toInt8.toInt32)), (.int (x2.toInt8.toInt32)), (.int (x3.toInt8.toInt32)), (.int (x4.toInt8.toInt32)), (.int (x5.toInt8.toInt32)), (.int (x6.toInt8.toInt32)), (.int (x7.toInt8.toInt32)), (.int (x8.toInt8.toInt32)), (.int (x9.toInt8.toInt32)), (.int (x10.toInt8.toInt32)), (.int (x11.toInt8.toInt32)), (.int (x12.toInt8.toInt32)), (.int (0 : Int32)), (.int (0 : Int32)), (.int (0 : Int32)), (.int (0 : Int32)), (.int (0 : Int32)), (.int (0 : Int32)), (.int (0 : Int32))] (.int (0 : Int32)) := Arv.set Ar54 qa54 Sa54 Na54 Ha54 Ga54 (fits_nar_byte _) W55 12 rfl (Nat.le_of_ble_eq_true rfl)
  have zs56 := (Nat.le_trans (Nat.le_trans (Nat.le_trans zs43 (Keep.of_wr W42).1) (Keep.of_wr W47).1) (Keep.of_wr W51).1)
  refine own_to (fun t k => st55 t k) ?_
  show own_Fin _ _ _ _ _ _ (T55.setTop (mkF m 32 #[rv a2, own_i 12, rv a3, own_i 12, own_i 20, own_i 12, .val (.int x12)] []))
  refine own_to (fun t k => XS.iinc X55.here hx rfl (hb hby own_d9_32) rfl (l' := #[rv a2, own_i 13, rv a3, own_i 12, own_i 20, own_i 12, .val (.int x12)]) rfl k) ?_
  show own_Fin _ _ _ _ _ _ (T55.setTop (mkF m 35 #[rv a2, own_i 13, rv a3, own_i 12, own_i 20, own_i 12, .val (.int x12)] []))
  refine own_to (fun t k => XS.iinc X55.here hx rfl (hb hby own_d9_35) rfl (l' := #[rv a2, own_i 13, rv a3, own_i 13, own_i 20, own_i 12, .val (.int x12)]) rfl k) ?_
  show own_Fin _ _ _ _ _ _ (T55.setTop (mkF m 38 #[rv a2, own_i 13, rv a3, own_i 13, own_i 20, own_i 12, .val (.int x12)] []))
  refine own_to (fun t k => XS.iinc X55.here hx rfl (hb hby own_d9_38) rfl (l' := #[rv a2, own_i 13, rv a3, own_i 13, own_i 20, own_i 13, .val (.int x12)]) rfl k) ?_
  show own_Fin _ _ _ _ _ _ (T55.setTop (mkF m 41 #[rv a2, own_i 13, rv a3, own_i 13, own_i 20, own_i 13, .val (.int x12)] []))
  refine own_to (fun t k => XS.goto X55.here hx rfl (pc0 := 41) (pc' := 3) rfl (hb hby own_d9_41) (by decide) (by decide) k) ?_
  show own_Fin _ _ _ _ _ _ (T55.setTop (mkF m 3 #[rv a2, own_i 13, rv a3, own_i 13, own_i 20, own_i 13, .val (.int x12)] []))
  refine own_to (fun t k => XS.iload X55.here hx rfl (hb hby own_d9_3) rfl k) ?_
  refine own_to (fun t k => XS.iload X55.here hx rfl (hb hby own_d9_5) rfl k) ?_
  refine own_to (fun t k => XS.icmpNo X55.here hx rfl (hb hby own_d9_7) rfl (tlt (by decide)).2.1 k) ?_
  show own_Fin _ _ _ _ _ _ (T55.setTop (mkF m 10 #[rv a2, own_i 13, rv a3, own_i 13, own_i 20, own_i 13, .val (.int x12)] []))
  refine own_to (fun t k => XS.aloadN X55.here hx rfl (hb hby own_d9_10) rfl rfl k) ?_
  show own_Fin _ _ _ _ _ _ (T55.setTop (mkF m 11 #[rv a2, own_i 13, rv a3, own_i 13, own_i 20, own_i 13, .val (.int x12)] [(.ref a2)]))
  refine own_to (fun t k => XS.iloadN X55.here hx rfl (hb hby own_d9_11) rfl k) ?_
  obtain ⟨cl57, Ar57, qa57, Sa57, Na57, Ha57, Ga57⟩ := id V2_e55
  have hin58 : ¬ ((13 : Int32) < 0 ∨ cl57.slots.size ≤ ((13 : Int32)).toNatClampNeg) := inb_of Sa57 ⟨by decide, by decide⟩
  refine own_to (fun t k => X55.caload hx (j := (13 : Int32)) (v := (.int x13)) (by rw [e55]; exact Ar57.1) (State.isArrayOf_alike hZ.alike Ar57.2.1) Ar57.2.2 hin58 (Has.at Ha57 hin58 rfl) (g := (mkF m 12 #[rv a2, own_i 13, rv a3, own_i 13, own_i 20, own_i 13, .val (.int x12)] [(.int (13 : Int32)), (.ref a2)])) rfl rfl (hb hby own_d9_12) _ k) ?_
  show own_Fin _ _ _ _ _ _ (T55.setTop (mkF m 13 #[rv a2, own_i 13, rv a3, own_i 13, own_i 20, own_i 13, .val (.int x12)] [(.int x13)]))
  refine own_to (fun t k => XS.istore X55.here hx rfl (hb hby own_d9_13) rfl (l' := #[rv a2, own_i 13, rv a3, own_i 13, own_i 20, own_i 13, .val (.int x13)]) rfl k) ?_
  show own_Fin _ _ _ _ _ _ (T55.setTop (mkF m 15 #[rv a2, own_i 13, rv a3, own_i 13, own_i 20, own_i 13, .val (.int x13)] []))
  refine own_to (fun t k => XS.iload X55.here hx rfl (hb hby own_d9_15) rfl k) ?_
  refine own_to (fun t k => XS.sipush X55.here hx rfl (hb hby own_d9_17) k) ?_
  refine own_to (fun t k => XS.icmpYes X55.here hx rfl (pc0 := 20) (pc' := 26) rfl (hb hby own_d9_20) rfl (flt hx13).2.2.2 (by decide) (by decide) k) ?_
  show own_Fin _ _ _ _ _ _ (T55.setTop (mkF m 26 #[rv a2, own_i 13, rv a3, own_i 13, own_i 20, own_i 13, .val (.int x13)] []))
  refine own_to (fun t k => XS.aloadN X55.here hx rfl (hb hby own_d9_26) rfl rfl k) ?_
  show own_Fin _ _ _ _ _ _ (T55.setTop (mkF m 27 #[rv a2, own_i 13, rv a3, own_i 13, own_i 20, own_i 13, .val (.int x13)] [(.ref a3)]))
  refine own_to (fun t k => XS.iloadN X55.here hx rfl (hb hby own_d9_27) rfl k) ?_
  refine own_to (fun t k => XS.iload X55.here hx rfl (hb hby own_d9_28) rfl k) ?_
  refine own_to (fun t k => XS.i2b X55.here hx rfl (hb hby own_d9_30) rfl k) ?_
  show own_Fin _ _ _ _ _ _ (T55.setTop (mkF m 31 #[rv a2, own_i 13, rv a3, own_i 13, own_i 20, own_i 13, .val (.int x13)] [(.int (x13.toInt8.toInt32)), (.int (13 : Int32)), (.ref a3)]))
  obtain ⟨cl59, Ar59, qa59, Sa59, Na59, Ha59, Ga59⟩ := id V55
  have hin60 : ¬ ((13 : Int32) < 0 ∨ cl59.slots.size ≤ ((13 : Int32)).toNatClampNeg) := inb_of Sa59 ⟨by decide, by decide⟩
  obtain ⟨T60, h60, X60, e60, W60, st60⟩ := stB X55 hx hZ e55 Ar59 (j := (13 : Int32)) hin60 (g := (mkF m 31 #[rv a2, own_i 13, rv a3, own_i 13, own_i 20, own_i 13, .val (.int x13)] [(.int (x13.toInt8.toInt32)), (.int (13 : Int32)), (.ref a3)])) rfl rfl (hb hby own_d9_31)
  rw [own_idem _] at W60
  have N60 := Fr.snoc X60 N55 g_a3
  have KK60 : Keep h0 h60 [a3] := KK55.wr W60 (Or.inl (List.mem_of_getElem? (i := 0) rfl))
  have V2_e60 := V2_e55.other W60 ne23
  have V60 : Arv Z h60 a3 k3 .byte (20 : Int32) [(.int (x0.toInt8.toInt32)), (.int (x1.toInt8.toInt32)), (.int (x2.toInt8.toInt32)), (.int (x3.toInt8.toInt32)), (.int (x4.toInt8.toInt32)), (.int (x5.toInt8.toInt32)), (.int (x6.toInt8.toInt32)), (.int (x7.toInt8.toInt32)), (.int (x8.toInt8.toInt32)), (.int (x9.toInt8.toInt32)), (.int (x10.toInt8.toInt32)), (.int (x11.toInt8.toInt32)), (.int (x12.toInt8.toInt32)), (.int (x13.toInt8.toInt32)), (.int (0 : Int32)), (.int (0 : Int32)), (.int (0 : Int32)), (.int (0 : Int32)), (.int (0 : Int32)), (.int (0 : Int32))] (.int (0 : Int32)) := Arv.set Ar59 qa59 Sa59 Na59 Ha59 Ga59 (fits_nar_byte _) W60 13 rfl (Nat.le_of_ble_eq_true rfl)
  refine own_to (fun t k => st60 t k) ?_
  show own_Fin _ _ _ _ _ _ (T60.setTop (mkF m 32 #[rv a2, own_i 13, rv a3, own_i 13, own_i 20, own_i 13, .val (.int x13)] []))
  refine own_to (fun t k => XS.iinc X60.here hx rfl (hb hby own_d9_32) rfl (l' := #[rv a2, own_i 14, rv a3, own_i 13, own_i 20, own_i 13, .val (.int x13)]) rfl k) ?_
  show own_Fin _ _ _ _ _ _ (T60.setTop (mkF m 35 #[rv a2, own_i 14, rv a3, own_i 13, own_i 20, own_i 13, .val (.int x13)] []))
  refine own_to (fun t k => XS.iinc X60.here hx rfl (hb hby own_d9_35) rfl (l' := #[rv a2, own_i 14, rv a3, own_i 14, own_i 20, own_i 13, .val (.int x13)]) rfl k) ?_
  show own_Fin _ _ _ _ _ _ (T60.setTop (mkF m 38 #[rv a2, own_i 14, rv a3, own_i 14, own_i 20, own_i 13, .val (.int x13)] []))
  refine own_to (fun t k => XS.iinc X60.here hx rfl (hb hby own_d9_38) rfl (l' := #[rv a2, own_i 14, rv a3, own_i 14, own_i 20, own_i 14, .val (.int x13)]) rfl k) ?_
  show own_Fin _ _ _ _ _ _ (T60.setTop (mkF m 41 #[rv a2, own_i 14, rv a3, own_i 14, own_i 20, own_i 14, .val (.int x13)] []))
  refine own_to (fun t k => XS.goto X60.here hx rfl (pc0 := 41) (pc' := 3) rfl (hb hby own_d9_41) (by decide) (by decide) k) ?_
  show own_Fin _ _ _ _ _ _ (T60.setTop (mkF m 3 #[rv a2, own_i 14, rv a3, own_i 14, own_i 20, own_i 14, .val (.int x13)] []))
  refine own_to (fun t k => XS.iload X60.here hx rfl (hb hby own_d9_3) rfl k) ?_
  refine own_to (fun t k => XS.iload X60.here hx rfl (hb hby own_d9_5) rfl k) ?_
  refine own_to (fun t k => XS.icmpNo X60.here hx rfl (hb hby own_d9_7) rfl (tlt (by decide)).2.1 k) ?_
  show own_Fin _ _ _ _ _ _ (T60.setTop (mkF m 10 #[rv a2, own_i 14, rv a3, own_i 14, own_i 20, own_i 14, .val (.int x13)] []))
  refine own_to (fun t k => XS.aloadN X60.here hx rfl (hb hby own_d9_10) rfl rfl k) ?_
  show own_Fin _ _ _ _ _ _ (T60.setTop (mkF m 11 #[rv a2, own_i 14, rv a3, own_i 14, own_i 20, own_i 14, .val (.int x13)] [(.ref a2)]))
  refine own_to (fun t k => XS.iloadN X60.here hx rfl (hb hby own_d9_11) rfl k) ?_
  obtain ⟨cl61, Ar61, qa61, Sa61, Na61, Ha61, Ga61⟩ := id V2_e60
  have hin62 : ¬ ((14 : Int32) < 0 ∨ cl61.slots.size ≤ ((14 : Int32)).toNatClampNeg) := inb_of Sa61 ⟨by decide, by decide⟩
  refine own_to (fun t k => X60.caload hx (j := (14 : Int32)) (v := (.int x14)) (by rw [e60]; exact Ar61.1) (State.isArrayOf_alike hZ.alike Ar61.2.1) Ar61.2.2 hin62 (Has.at Ha61 hin62 rfl) (g := (mkF m 12 #[rv a2, own_i 14, rv a3, own_i 14, own_i 20, own_i 14, .val (.int x13)] [(.int (14 : Int32)), (.ref a2)])) rfl rfl (hb hby own_d9_12) _ k) ?_
  show own_Fin _ _ _ _ _ _ (T60.setTop (mkF m 13 #[rv a2, own_i 14, rv a3, own_i 14, own_i 20, own_i 14, .val (.int x13)] [(.int x14)]))
  refine own_to (fun t k => XS.istore X60.here hx rfl (hb hby own_d9_13) rfl (l' := #[rv a2, own_i 14, rv a3, own_i 14, own_i 20, own_i 14, .val (.int x14)]) rfl k) ?_
  show own_Fin _ _ _ _ _ _ (T60.setTop (mkF m 15 #[rv a2, own_i 14, rv a3, own_i 14, own_i 20, own_i 14, .val (.int x14)] []))
  refine own_to (fun t k => XS.iload X60.here hx rfl (hb hby own_d9_15) rfl k) ?_
  refine own_to (fun t k => XS.sipush X60.here hx rfl (hb hby own_d9_17) k) ?_
  refine own_to (fun t k => XS.icmpYes X60.here hx rfl (pc0 := 20) (pc' := 26) rfl (hb hby own_d9_20) rfl (flt hx14).2.2.2 (by decide) (by decide) k) ?_
  show own_Fin _ _ _ _ _ _ (T60.setTop (mkF m 26 #[rv a2, own_i 14, rv a3, own_i 14, own_i 20, own_i 14, .val (.int x14)] []))
  refine own_to (fun t k => XS.aloadN X60.here hx rfl (hb hby own_d9_26) rfl rfl k) ?_
  show own_Fin _ _ _ _ _ _ (T60.setTop (mkF m 27 #[rv a2, own_i 14, rv a3, own_i 14, own_i 20, own_i 14, .val (.int x14)] [(.ref a3)]))
  refine own_to (fun t k => XS.iloadN X60.here hx rfl (hb hby own_d9_27) rfl k) ?_
  refine own_to (fun t k => XS.iload X60.here hx rfl (hb hby own_d9_28) rfl k) ?_
  refine own_to (fun t k => XS.i2b X60.here hx rfl (hb hby own_d9_30) rfl k) ?_
  show own_Fin _ _ _ _ _ _ (T60.setTop (mkF m 31 #[rv a2, own_i 14, rv a3, own_i 14, own_i 20, own_i 14, .val (.int x14)] [(.int (x14.toInt8.toInt32)), (.int (14 : Int32)), (.ref a3)]))
  obtain ⟨cl63, Ar63, qa63, Sa63, Na63, Ha63, Ga63⟩ := id V60
  have hin64 : ¬ ((14 : Int32) < 0 ∨ cl63.slots.size ≤ ((14 : Int32)).toNatClampNeg) := inb_of Sa63 ⟨by decide, by decide⟩
  obtain ⟨T64, h64, X64, e64, W64, st64⟩ := stB X60 hx hZ e60 Ar63 (j := (14 : Int32)) hin64 (g := (mkF m 31 #[rv a2, own_i 14, rv a3, own_i 14, own_i 20, own_i 14, .val (.int x14)] [(.int (x14.toInt8.toInt32)), (.int (14 : Int32)), (.ref a3)])) rfl rfl (hb hby own_d9_31)
  rw [own_idem _] at W64
  have N64 := Fr.snoc X64 N60 g_a3
  have KK64 : Keep h0 h64 [a3] := KK60.wr W64 (Or.inl (List.mem_of_getElem? (i := 0) rfl))
  have V2_e64 := V2_e60.other W64 ne23
  have V64 : Arv Z h64 a3 k3 .byte (20 : Int32) [(.int (x0.toInt8.toInt32)), (.int (x1.toInt8.toInt32)), (.int (x2.toInt8.toInt32)), (.int (x3.toInt8.toInt32)), (.int (x4.toInt8.toInt32)), (.int (x5.toInt8.toInt32)), (.int (x6.toInt8.toInt32)), (.int (x7.toInt8.toInt32)), (.int (x8.toInt8.toInt32)), (.int (x9.toInt8.toInt32)), (.int (x10.toInt8.toInt32)), (.int (x11.toInt8.toInt32)), (.int (x12.toInt8.toInt32)), (.int (x13.toInt8.toInt32)), (.int (x14.toInt8.toInt32)), (.int (0 : Int32)), (.int (0 : Int32)), (.int (0 : Int32)), (.int (0 : Int32)), (.int (0 : Int32))] (.int (0 : Int32)) := Arv.set Ar63 qa63 Sa63 Na63 Ha63 Ga63 (fits_nar_byte _) W64 14 rfl (Nat.le_of_ble_eq_true rfl)
  refine own_to (fun t k => st64 t k) ?_
  show own_Fin _ _ _ _ _ _ (T64.setTop (mkF m 32 #[rv a2, own_i 14, rv a3, own_i 14, own_i 20, own_i 14, .val (.int x14)] []))
  refine own_to (fun t k => XS.iinc X64.here hx rfl (hb hby own_d9_32) rfl (l' := #[rv a2, own_i 15, rv a3, own_i 14, own_i 20, own_i 14, .val (.int x14)]) rfl k) ?_
  show own_Fin _ _ _ _ _ _ (T64.setTop (mkF m 35 #[rv a2, own_i 15, rv a3, own_i 14, own_i 20, own_i 14, .val (.int x14)] []))
  refine own_to (fun t k => XS.iinc X64.here hx rfl (hb hby own_d9_35) rfl (l' := #[rv a2, own_i 15, rv a3, own_i 15, own_i 20, own_i 14, .val (.int x14)]) rfl k) ?_
  show own_Fin _ _ _ _ _ _ (T64.setTop (mkF m 38 #[rv a2, own_i 15, rv a3, own_i 15, own_i 20, own_i 14, .val (.int x14)] []))
  refine own_to (fun t k => XS.iinc X64.here hx rfl (hb hby own_d9_38) rfl (l' := #[rv a2, own_i 15, rv a3, own_i 15, own_i 20, own_i 15, .val (.int x14)]) rfl k) ?_
  show own_Fin _ _ _ _ _ _ (T64.setTop (mkF m 41 #[rv a2, own_i 15, rv a3, own_i 15, own_i 20, own_i 15, .val (.int x14)] []))
  refine own_to (fun t k => XS.goto X64.here hx rfl (pc0 := 41) (pc' := 3) rfl (hb hby own_d9_41) (by decide) (by decide) k) ?_
  show own_Fin _ _ _ _ _ _ (T64.setTop (mkF m 3 #[rv a2, own_i 15, rv a3, own_i 15, own_i 20, own_i 15, .val (.int x14)] []))
  refine own_to (fun t k => XS.iload X64.here hx rfl (hb hby own_d9_3) rfl k) ?_
  refine own_to (fun t k => XS.iload X64.here hx rfl (hb hby own_d9_5) rfl k) ?_
  refine own_to (fun t k => XS.icmpNo X64.here hx rfl (hb hby own_d9_7) rfl (tlt (by decide)).2.1 k) ?_
  show own_Fin _ _ _ _ _ _ (T64.setTop (mkF m 10 #[rv a2, own_i 15, rv a3, own_i 15, own_i 20, own_i 15, .val (.int x14)] []))
  refine own_to (fun t k => XS.aloadN X64.here hx rfl (hb hby own_d9_10) rfl rfl k) ?_
  show own_Fin _ _ _ _ _ _ (T64.setTop (mkF m 11 #[rv a2, own_i 15, rv a3, own_i 15, own_i 20, own_i 15, .val (.int x14)] [(.ref a2)]))
  refine own_to (fun t k => XS.iloadN X64.here hx rfl (hb hby own_d9_11) rfl k) ?_
  obtain ⟨cl65, Ar65, qa65, Sa65, Na65, Ha65, Ga65⟩ := id V2_e64
  have hin66 : ¬ ((15 : Int32) < 0 ∨ cl65.slots.size ≤ ((15 : Int32)).toNatClampNeg) := inb_of Sa65 ⟨by decide, by decide⟩
  refine own_to (fun t k => X64.caload hx (j := (15 : Int32)) (v := (.int x15)) (by rw [e64]; exact Ar65.1) (State.isArrayOf_alike hZ.alike Ar65.2.1) Ar65.2.2 hin66 (Has.at Ha65 hin66 rfl) (g := (mkF m 12 #[rv a2, own_i 15, rv a3, own_i 15, own_i 20, own_i 15, .val (.int x14)] [(.int (15 : Int32)), (.ref a2)])) rfl rfl (hb hby own_d9_12) _ k) ?_
  show own_Fin _ _ _ _ _ _ (T64.setTop (mkF m 13 #[rv a2, own_i 15, rv a3, own_i 15, own_i 20, own_i 15, .val (.int x14)] [(.int x15)]))
  refine own_to (fun t k => XS.istore X64.here hx rfl (hb hby own_d9_13) rfl (l' := #[rv a2, own_i 15, rv a3, own_i 15, own_i 20, own_i 15, .val (.int x15)]) rfl k) ?_
  show own_Fin _ _ _ _ _ _ (T64.setTop (mkF m 15 #[rv a2, own_i 15, rv a3, own_i 15, own_i 20, own_i 15, .val (.int x15)] []))
  refine own_to (fun t k => XS.iload X64.here hx rfl (hb hby own_d9_15) rfl k) ?_
  refine own_to (fun t k => XS.sipush X64.here hx rfl (hb hby own_d9_17) k) ?_
  refine own_to (fun t k => XS.icmpYes X64.here hx rfl (pc0 := 20) (pc' := 26) rfl (hb hby own_d9_20) rfl (flt hx15).2.2.2 (by decide) (by decide) k) ?_
  show own_Fin _ _ _ _ _ _ (T64.setTop (mkF m 26 #[rv a2, own_i 15, rv a3, own_i 15, own_i 20, own_i 15, .val (.int x15)] []))
  refine own_to (fun t k => XS.aloadN X64.here hx rfl (hb hby own_d9_26) rfl rfl k) ?_
  show own_Fin _ _ _ _ _ _ (T64.setTop (mkF m 27 #[rv a2, own_i 15, rv a3, own_i 15, own_i 20, own_i 15, .val (.int x15)] [(.ref a3)]))
  refine own_to (fun t k => XS.iloadN X64.here hx rfl (hb hby own_d9_27) rfl k) ?_
  refine own_to (fun t k => XS.iload X64.here hx rfl (hb hby own_d9_28) rfl k) ?_
  refine own_to (fun t k => XS.i2b X64.here hx rfl (hb hby own_d9_30) rfl k) ?_
  show own_Fin _ _ _ _ _ _ (T64.setTop (mkF m 31 #[rv a2, own_i 15, rv a3, own_i 15, own_i 20, own_i 15, .val (.int x15)] [(.int (x15.toInt8.toInt32)), (.int (15 : Int32)), (.ref a3)]))
  obtain ⟨cl67, Ar67, qa67, Sa67, Na67, Ha67, Ga67⟩ := id V64
  have hin68 : ¬ ((15 : Int32) < 0 ∨ cl67.slots.size ≤ ((15 : Int32)).toNatClampNeg) := inb_of Sa67 ⟨by decide, by decide⟩
  obtain ⟨T68, h68, X68, e68, W68, st68⟩ := stB X64 hx hZ e64 Ar67 (j := (15 : Int32)) hin68 (g := (mkF m 31 #[rv a2, own_i 15, rv a3, own_i 15, own_i 20, own_i 15, .val (.int x15)] [(.int (x15.toInt8.toInt32)), (.int (15 : Int32)), (.ref a3)])) rfl rfl (hb hby own_d9_31)
  rw [own_idem _] at W68
  have N68 := Fr.snoc X68 N64 g_a3
  have KK68 : Keep h0 h68 [a3] := KK64.wr W68 (Or.inl (List.mem_of_getElem? (i := 0) rfl))
  have V2_e68 := V2_e64.other W68 ne23
  have V68 : Arv Z h68 a3 k3 .byte (20 : Int32) [(.int (x0.toInt8.toInt32)), (.int (x1.toInt8.toInt32)), (.int (x2.toInt8.toInt32)), (.int (x3.toInt8.toInt32)), (.int (x4.toInt8.toInt32)), (.int (x5.toInt8.toInt32)), (.int (x6.toInt8.toInt32)), (.int (x7.toInt8.toInt32)), (.int (x8.toInt8.toInt32)), (.int (x9.toInt8.toInt32)), (.int (x10.toInt8.toInt32)), (.int (x11.toInt8.toInt32)), (.int (x12.toInt8.toInt32)), (.int (x13.toInt8.toInt32)), (.int (x14.toInt8.toInt32)), (.int (x15.toInt8.toInt32)), (.int (0 : Int32)), (.int (0 : Int32)), (.int (0 : Int32)), (.int (0 : Int32))] (.int (0 : Int32)) := Arv.set Ar67 qa67 Sa67 Na67 Ha67 Ga67 (fits_nar_byte _) W68 15 rfl (Nat.le_of_ble_eq_true rfl)
  have zs69 := (Nat.le_trans (Nat.le_trans (Nat.le_trans zs56 (Keep.of_wr W55).1) (Keep.of_wr W60).1) (Keep.of_wr W64).1)
  refine own_to (fun t k => st68 t k) ?_
  show own_Fin _ _ _ _ _ _ (T68.setTop (mkF m 32 #[rv a2, own_i 15, rv a3, own_i 15, own_i 20, own_i 15, .val (.int x15)] []))
  refine own_to (fun t k => XS.iinc X68.here hx rfl (hb hby own_d9_32) rfl (l' := #[rv a2, own_i 16, rv a3, own_i 15, own_i 20, own_i 15, .val (.int x15)]) rfl k) ?_
  show own_Fin _ _ _ _ _ _ (T68.setTop (mkF m 35 #[rv a2, own_i 16, rv a3, own_i 15, own_i 20, own_i 15, .val (.int x15)] []))
  refine own_to (fun t k => XS.iinc X68.here hx rfl (hb hby own_d9_35) rfl (l' := #[rv a2, own_i 16, rv a3, own_i 16, own_i 20, own_i 15, .val (.int x15)]) rfl k) ?_
  show own_Fin _ _ _ _ _ _ (T68.setTop (mkF m 38 #[rv a2, own_i 16, rv a3, own_i 16, own_i 20, own_i 15, .val (.int x15)] []))
  refine own_to (fun t k => XS.iinc X68.here hx rfl (hb hby own_d9_38) rfl (l' := #[rv a2, own_i 16, rv a3, own_i 16, own_i 20, own_i 16, .val (.int x15)]) rfl k) ?_
  show own_Fin _ _ _ _ _ _ (T68.setTop (mkF m 41 #[rv a2, own_i 16, rv a3, own_i 16, own_i 20, own_i 16, .val (.int x15)] []))
  refine own_to (fun t k => XS.goto X68.here hx rfl (pc0 := 41) (pc' := 3) rfl (hb hby own_d9_41) (by decide) (by decide) k) ?_
  show own_Fin _ _ _ _ _ _ (T68.setTop (mkF m 3 #[rv a2, own_i 16, rv a3, own_i 16, own_i 20, own_i 16, .val (.int x15)] []))
  refine own_to (fun t k => XS.iload X68.here hx rfl (hb hby own_d9_3) rfl k) ?_
  refine own_to (fun t k => XS.iload X68.here hx rfl (hb hby own_d9_5) rfl k) ?_
  refine own_to (fun t k => XS.icmpNo X68.here hx rfl (hb hby own_d9_7) rfl (tlt (by decide)).2.1 k) ?_
  show own_Fin _ _ _ _ _ _ (T68.setTop (mkF m 10 #[rv a2, own_i 16, rv a3, own_i 16, own_i 20, own_i 16, .val (.int x15)] []))
  refine own_to (fun t k => XS.aloadN X68.here hx rfl (hb hby own_d9_10) rfl rfl k) ?_
  show own_Fin _ _ _ _ _ _ (T68.setTop (mkF m 11 #[rv a2, own_i 16, rv a3, own_i 16, own_i 20, own_i 16, .val (.int x15)] [(.ref a2)]))
  refine own_to (fun t k => XS.iloadN X68.here hx rfl (hb hby own_d9_11) rfl k) ?_
  obtain ⟨cl70, Ar70, qa70, Sa70, Na70, Ha70, Ga70⟩ := id V2_e68
  have hin71 : ¬ ((16 : Int32) < 0 ∨ cl70.slots.size ≤ ((16 : Int32)).toNatClampNeg) := inb_of Sa70 ⟨by decide, by decide⟩
  refine own_to (fun t k => X68.caload hx (j := (16 : Int32)) (v := (.int x16)) (by rw [e68]; exact Ar70.1) (State.isArrayOf_alike hZ.alike Ar70.2.1) Ar70.2.2 hin71 (Has.at Ha70 hin71 rfl) (g := (mkF m 12 #[rv a2, own_i 16, rv a3, own_i 16, own_i 20, own_i 16, .val (.int x15)] [(.int (16 : Int32)), (.ref a2)])) rfl rfl (hb hby own_d9_12) _ k) ?_
  show own_Fin _ _ _ _ _ _ (T68.setTop (mkF m 13 #[rv a2, own_i 16, rv a3, own_i 16, own_i 20, own_i 16, .val (.int x15)] [(.int x16)]))
  refine own_to (fun t k => XS.istore X68.here hx rfl (hb hby own_d9_13) rfl (l' := #[rv a2, own_i 16, rv a3, own_i 16, own_i 20, own_i 16, .val (.int x16)]) rfl k) ?_
  show own_Fin _ _ _ _ _ _ (T68.setTop (mkF m 15 #[rv a2, own_i 16, rv a3, own_i 16, own_i 20, own_i 16, .val (.int x16)] []))
  refine own_to (fun t k => XS.iload X68.here hx rfl (hb hby own_d9_15) rfl k) ?_
  refine own_to (fun t k => XS.sipush X68.here hx rfl (hb hby own_d9_17) k) ?_
  refine own_to (fun t k => XS.icmpYes X68.here hx rfl (pc0 := 20) (pc' := 26) rfl (hb hby own_d9_20) rfl (flt hx16).2.2.2 (by decide) (by decide) k) ?_
  show own_Fin _ _ _ _ _ _ (T68.setTop (mkF m 26 #[rv a2, own_i 16, rv a3, own_i 16, own_i 20, own_i 16, .val (.int x16)] []))
  refine own_to (fun t k => XS.aloadN X68.here hx rfl (hb hby own_d9_26) rfl rfl k) ?_
  show own_Fin _ _ _ _ _ _ (T68.setTop (mkF m 27 #[rv a2, own_i 16, rv a3, own_i 16, own_i 20, own_i 16, .val (.int x16)] [(.ref a3)]))
  refine own_to (fun t k => XS.iloadN X68.here hx rfl (hb hby own_d9_27) rfl k) ?_
  refine own_to (fun t k => XS.iload X68.here hx rfl (hb hby own_d9_28) rfl k) ?_
  refine own_to (fun t k => XS.i2b X68.here hx rfl (hb hby own_d9_30) rfl k) ?_
  show own_Fin _ _ _ _ _ _ (T68.setTop (mkF m 31 #[rv a2, own_i 16, rv a3, own_i 16, own_i 20, own_i 16, .val (.int x16)] [(.int (x16.toInt8.toInt32)), (.int (16 : Int32)), (.ref a3)]))
  obtain ⟨cl72, Ar72, qa72, Sa72, Na72, Ha72, Ga72⟩ := id V68
  have hin73 : ¬ ((16 : Int32) < 0 ∨ cl72.slots.size ≤ ((16 : Int32)).toNatClampNeg) := inb_of Sa72 ⟨by decide, by decide⟩
  obtain ⟨T73, h73, X73, e73, W73, st73⟩ := stB X68 hx hZ e68 Ar72 (j := (16 : Int32)) hin73 (g := (mkF m 31 #[rv a2, own_i 16, rv a3, own_i 16, own_i 20, own_i 16, .val (.int x16)] [(.int (x16.toInt8.toInt32)), (.int (16 : Int32)), (.ref a3)])) rfl rfl (hb hby own_d9_31)
  rw [own_idem _] at W73
  have N73 := Fr.snoc X73 N68 g_a3
  have KK73 : Keep h0 h73 [a3] := KK68.wr W73 (Or.inl (List.mem_of_getElem? (i := 0) rfl))
  have V2_e73 := V2_e68.other W73 ne23
  have V73 : Arv Z h73 a3 k3 .byte (20 : Int32) [(.int (x0.toInt8.toInt32)), (.int (x1.toInt8.toInt32)), (.int (x2.toInt8.toInt32)), (.int (x3.toInt8.toInt32)), (.int (x4.toInt8.toInt32)), (.int (x5.toInt8.toInt32)), (.int (x6.toInt8.toInt32)), (.int (x7.toInt8.toInt32)), (.int (x8.toInt8.toInt32)), (.int (x9.toInt8.toInt32)), (.int (x10.toInt8.toInt32)), (.int (x11.toInt8.toInt32)), (.int (x12.toInt8.toInt32)), (.int (x13.toInt8.toInt32)), (.int (x14.toInt8.toInt32)), (.int (x15.toInt8.toInt32)), (.int (x16.toInt8.toInt32)), (.int (0 : Int32)), (.int (0 : Int32)), (.int (0 : Int32))] (.int (0 : Int32)) := Arv.set Ar72 qa72 Sa72 Na72 Ha72 Ga72 (fits_nar_byte _) W73 16 rfl (Nat.le_of_ble_eq_true rfl)
  refine own_to (fun t k => st73 t k) ?_
  show own_Fin _ _ _ _ _ _ (T73.setTop (mkF m 32 #[rv a2, own_i 16, rv a3, own_i 16, own_i 20, own_i 16, .val (.int x16)] []))
  refine own_to (fun t k => XS.iinc X73.here hx rfl (hb hby own_d9_32) rfl (l' := #[rv a2, own_i 17, rv a3, own_i 16, own_i 20, own_i 16, .val (.int x16)]) rfl k) ?_
  show own_Fin _ _ _ _ _ _ (T73.setTop (mkF m 35 #[rv a2, own_i 17, rv a3, own_i 16, own_i 20, own_i 16, .val (.int x16)] []))
  refine own_to (fun t k => XS.iinc X73.here hx rfl (hb hby own_d9_35) rfl (l' := #[rv a2, own_i 17, rv a3, own_i 17, own_i 20, own_i 16, .val (.int x16)]) rfl k) ?_
  show own_Fin _ _ _ _ _ _ (T73.setTop (mkF m 38 #[rv a2, own_i 17, rv a3, own_i 17, own_i 20, own_i 16, .val (.int x16)] []))
  refine own_to (fun t k => XS.iinc X73.here hx rfl (hb hby own_d9_38) rfl (l' := #[rv a2, own_i 17, rv a3, own_i 17, own_i 20, own_i 17, .val (.int x16)]) rfl k) ?_
  show own_Fin _ _ _ _ _ _ (T73.setTop (mkF m 41 #[rv a2, own_i 17, rv a3, own_i 17, own_i 20, own_i 17, .val (.int x16)] []))
  refine own_to (fun t k => XS.goto X73.here hx rfl (pc0 := 41) (pc' := 3) rfl (hb hby own_d9_41) (by decide) (by decide) k) ?_
  show own_Fin _ _ _ _ _ _ (T73.setTop (mkF m 3 #[rv a2, own_i 17, rv a3, own_i 17, own_i 20, own_i 17, .val (.int x16)] []))
  refine own_to (fun t k => XS.iload X73.here hx rfl (hb hby own_d9_3) rfl k) ?_
  refine own_to (fun t k => XS.iload X73.here hx rfl (hb hby own_d9_5) rfl k) ?_
  refine own_to (fun t k => XS.icmpNo X73.here hx rfl (hb hby own_d9_7) rfl (tlt (by decide)).2.1 k) ?_
  show own_Fin _ _ _ _ _ _ (T73.setTop (mkF m 10 #[rv a2, own_i 17, rv a3, own_i 17, own_i 20, own_i 17, .val (.int x16)] []))
  refine own_to (fun t k => XS.aloadN X73.here hx rfl (hb hby own_d9_10) rfl rfl k) ?_
  show own_Fin _ _ _ _ _ _ (T73.setTop (mkF m 11 #[rv a2, own_i 17, rv a3, own_i 17, own_i 20, own_i 17, .val (.int x16)] [(.ref a2)]))
  refine own_to (fun t k => XS.iloadN X73.here hx rfl (hb hby own_d9_11) rfl k) ?_
  obtain ⟨cl74, Ar74, qa74, Sa74, Na74, Ha74, Ga74⟩ := id V2_e73
  have hin75 : ¬ ((17 : Int32) < 0 ∨ cl74.slots.size ≤ ((17 : Int32)).toNatClampNeg) := inb_of Sa74 ⟨by decide, by decide⟩
  refine own_to (fun t k => X73.caload hx (j := (17 : Int32)) (v := (.int x17)) (by rw [e73]; exact Ar74.1) (State.isArrayOf_alike hZ.alike Ar74.2.1) Ar74.2.2 hin75 (Has.at Ha74 hin75 rfl) (g := (mkF m 12 #[rv a2, own_i 17, rv a3, own_i 17, own_i 20, own_i 17, .val (.int x16)] [(.int (17 : Int32)), (.ref a2)])) rfl rfl (hb hby own_d9_12) _ k) ?_
  show own_Fin _ _ _ _ _ _ (T73.setTop (mkF m 13 #[rv a2, own_i 17, rv a3, own_i 17, own_i 20, own_i 17, .val (.int x16)] [(.int x17)]))
  refine own_to (fun t k => XS.istore X73.here hx rfl (hb hby own_d9_13) rfl (l' := #[rv a2, own_i 17, rv a3, own_i 17, own_i 20, own_i 17, .val (.int x17)]) rfl k) ?_
  show own_Fin _ _ _ _ _ _ (T73.setTop (mkF m 15 #[rv a2, own_i 17, rv a3, own_i 17, own_i 20, own_i 17, .val (.int x17)] []))
  refine own_to (fun t k => XS.iload X73.here hx rfl (hb hby own_d9_15) rfl k) ?_
  refine own_to (fun t k => XS.sipush X73.here hx rfl (hb hby own_d9_17) k) ?_
  refine own_to (fun t k => XS.icmpYes X73.here hx rfl (pc0 := 20) (pc' := 26) rfl (hb hby own_d9_20) rfl (flt hx17).2.2.2 (by decide) (by decide) k) ?_
  show own_Fin _ _ _ _ _ _ (T73.setTop (mkF m 26 #[rv a2, own_i 17, rv a3, own_i 17, own_i 20, own_i 17, .val (.int x17)] []))
  refine own_to (fun t k => XS.aloadN X73.here hx rfl (hb hby own_d9_26) rfl rfl k) ?_
  show own_Fin _ _ _ _ _ _ (T73.setTop (mkF m 27 #[rv a2, own_i 17, rv a3, own_i 17, own_i 20, own_i 17, .val (.int x17)] [(.ref a3)]))
  refine own_to (fun t k => XS.iloadN X73.here hx rfl (hb hby own_d9_27) rfl k) ?_
  refine own_to (fun t k => XS.iload X73.here hx rfl (hb hby own_d9_28) rfl k) ?_
  refine own_to (fun t k => XS.i2b X73.here hx rfl (hb hby own_d9_30) rfl k) ?_
  show own_Fin _ _ _ _ _ _ (T73.setTop (mkF m 31 #[rv a2, own_i 17, rv a3, own_i 17, own_i 20, own_i 17, .val (.int x17)] [(.int (x17.toInt8.toInt32)), (.int (17 : Int32)), (.ref a3)]))
  obtain ⟨cl76, Ar76, qa76, Sa76, Na76, Ha76, Ga76⟩ := id V73
  have hin77 : ¬ ((17 : Int32) < 0 ∨ cl76.slots.size ≤ ((17 : Int32)).toNatClampNeg) := inb_of Sa76 ⟨by decide, by decide⟩
  obtain ⟨T77, h77, X77, e77, W77, st77⟩ := stB X73 hx hZ e73 Ar76 (j := (17 : Int32)) hin77 (g := (mkF m 31 #[rv a2, own_i 17, rv a3, own_i 17, own_i 20, own_i 17, .val (.int x17)] [(.int (x17.toInt8.toInt32)), (.int (17 : Int32)), (.ref a3)])) rfl rfl (hb hby own_d9_31)
  rw [own_idem _] at W77
  have N77 := Fr.snoc X77 N73 g_a3
  have KK77 : Keep h0 h77 [a3] := KK73.wr W77 (Or.inl (List.mem_of_getElem? (i := 0) rfl))
  have V2_e77 := V2_e73.other W77 ne23
  have V77 : Arv Z h77 a3 k3 .byte (20 : Int32) [(.int (x0.toInt8.toInt32)), (.int (x1.toInt8.toInt32)), (.int (x2.toInt8.toInt32)), (.int (x3.toInt8.toInt32)), (.int (x4.toInt8.toInt32)), (.int (x5.toInt8.toInt32)), (.int (x6.toInt8.toInt32)), (.int (x7.toInt8.toInt32)), (.int (x8.toInt8.toInt32)), (.int (x9.toInt8.toInt32)), (.int (x10.toInt8.toInt32)), (.int (x11.toInt8.toInt32)), (.int (x12.toInt8.toInt32)), (.int (x13.toInt8.toInt32)), (.int (x14.toInt8.toInt32)), (.int (x15.toInt8.toInt32)), (.int (x16.toInt8.toInt32)), (.int (x17.toInt8.toInt32)), (.int (0 : Int32)), (.int (0 : Int32))] (.int (0 : Int32)) := Arv.set Ar76 qa76 Sa76 Na76 Ha76 Ga76 (fits_nar_byte _) W77 17 rfl (Nat.le_of_ble_eq_true rfl)
  refine own_to (fun t k => st77 t k) ?_
  show own_Fin _ _ _ _ _ _ (T77.setTop (mkF m 32 #[rv a2, own_i 17, rv a3, own_i 17, own_i 20, own_i 17, .val (.int x17)] []))
  refine own_to (fun t k => XS.iinc X77.here hx rfl (hb hby own_d9_32) rfl (l' := #[rv a2, own_i 18, rv a3, own_i 17, own_i 20, own_i 17, .val (.int x17)]) rfl k) ?_
  show own_Fin _ _ _ _ _ _ (T77.setTop (mkF m 35 #[rv a2, own_i 18, rv a3, own_i 17, own_i 20, own_i 17, .val (.int x17)] []))
  refine own_to (fun t k => XS.iinc X77.here hx rfl (hb hby own_d9_35) rfl (l' := #[rv a2, own_i 18, rv a3, own_i 18, own_i 20, own_i 17, .val (.int x17)]) rfl k) ?_
  show own_Fin _ _ _ _ _ _ (T77.setTop (mkF m 38 #[rv a2, own_i 18, rv a3, own_i 18, own_i 20, own_i 17, .val (.int x17)] []))
  refine own_to (fun t k => XS.iinc X77.here hx rfl (hb hby own_d9_38) rfl (l' := #[rv a2, own_i 18, rv a3, own_i 18, own_i 20, own_i 18, .val (.int x17)]) rfl k) ?_
  show own_Fin _ _ _ _ _ _ (T77.setTop (mkF m 41 #[rv a2, own_i 18, rv a3, own_i 18, own_i 20, own_i 18, .val (.int x17)] []))
  refine own_to (fun t k => XS.goto X77.here hx rfl (pc0 := 41) (pc' := 3) rfl (hb hby own_d9_41) (by decide) (by decide) k) ?_
  show own_Fin _ _ _ _ _ _ (T77.setTop (mkF m 3 #[rv a2, own_i 18, rv a3, own_i 18, own_i 20, own_i 18, .val (.int x17)] []))
  refine own_to (fun t k => XS.iload X77.here hx rfl (hb hby own_d9_3) rfl k) ?_
  refine own_to (fun t k => XS.iload X77.here hx rfl (hb hby own_d9_5) rfl k) ?_
  refine own_to (fun t k => XS.icmpNo X77.here hx rfl (hb hby own_d9_7) rfl (tlt (by decide)).2.1 k) ?_
  show own_Fin _ _ _ _ _ _ (T77.setTop (mkF m 10 #[rv a2, own_i 18, rv a3, own_i 18, own_i 20, own_i 18, .val (.int x17)] []))
  refine own_to (fun t k => XS.aloadN X77.here hx rfl (hb hby own_d9_10) rfl rfl k) ?_
  show own_Fin _ _ _ _ _ _ (T77.setTop (mkF m 11 #[rv a2, own_i 18, rv a3, own_i 18, own_i 20, own_i 18, .val (.int x17)] [(.ref a2)]))
  refine own_to (fun t k => XS.iloadN X77.here hx rfl (hb hby own_d9_11) rfl k) ?_
  obtain ⟨cl78, Ar78, qa78, Sa78, Na78, Ha78, Ga78⟩ := id V2_e77
  have hin79 : ¬ ((18 : Int32) < 0 ∨ cl78.slots.size ≤ ((18 : Int32)).toNatClampNeg) := inb_of Sa78 ⟨by decide, by decide⟩
  refine own_to (fun t k => X77.caload hx (j := (18 : Int32)) (v := (.int x18)) (by rw [e77]; exact Ar78.1) (State.isArrayOf_alike hZ.alike Ar78.2.1) Ar78.2.2 hin79 (Has.at Ha78 hin79 rfl) (g := (mkF m 12 #[rv a2, own_i 18, rv a3, own_i 18, own_i 20, own_i 18, .val (.int x17)] [(.int (18 : Int32)), (.ref a2)])) rfl rfl (hb hby own_d9_12) _ k) ?_
  show own_Fin _ _ _ _ _ _ (T77.setTop (mkF m 13 #[rv a2, own_i 18, rv a3, own_i 18, own_i 20, own_i 18, .val (.int x17)] [(.int x18)]))
  refine own_to (fun t k => XS.istore X77.here hx rfl (hb hby own_d9_13) rfl (l' := #[rv a2, own_i 18, rv a3, own_i 18, own_i 20, own_i 18, .val (.int x18)]) rfl k) ?_
  show own_Fin _ _ _ _ _ _ (T77.setTop (mkF m 15 #[rv a2, own_i 18, rv a3, own_i 18, own_i 20, own_i 18, .val (.int x18)] []))
  refine own_to (fun t k => XS.iload X77.here hx rfl (hb hby own_d9_15) rfl k) ?_
  refine own_to (fun t k => XS.sipush X77.here hx rfl (hb hby own_d9_17) k) ?_
  refine own_to (fun t k => XS.icmpYes X77.here hx rfl (pc0 := 20) (pc' := 26) rfl (hb hby own_d9_20) rfl (flt hx18).2.2.2 (by decide) (by decide) k) ?_
  show own_Fin _ _ _ _ _ _ (T77.setTop (mkF m 26 #[rv a2, own_i 18, rv a3, own_i 18, own_i 20, own_i 18, .val (.int x18)] []))
  refine own_to (fun t k => XS.aloadN X77.here hx rfl (hb hby own_d9_26) rfl rfl k) ?_
  show own_Fin _ _ _ _ _ _ (T77.setTop (mkF m 27 #[rv a2, own_i 18, rv a3, own_i 18, own_i 20, own_i 18, .val (.int x18)] [(.ref a3)]))
  refine own_to (fun t k => XS.iloadN X77.here hx rfl (hb hby own_d9_27) rfl k) ?_
  refine own_to (fun t k => XS.iload X77.here hx rfl (hb hby own_d9_28) rfl k) ?_
  refine own_to (fun t k => XS.i2b X77.here hx rfl (hb hby own_d9_30) rfl k) ?_
  show own_Fin _ _ _ _ _ _ (T77.setTop (mkF m 31 #[rv a2, own_i 18, rv a3, own_i 18, own_i 20, own_i 18, .val (.int x18)] [(.int (x18.toInt8.toInt32)), (.int (18 : Int32)), (.ref a3)]))
  obtain ⟨cl80, Ar80, qa80, Sa80, Na80, Ha80, Ga80⟩ := id V77
  have hin81 : ¬ ((18 : Int32) < 0 ∨ cl80.slots.size ≤ ((18 : Int32)).toNatClampNeg) := inb_of Sa80 ⟨by decide, by decide⟩
  obtain ⟨T81, h81, X81, e81, W81, st81⟩ := stB X77 hx hZ e77 Ar80 (j := (18 : Int32)) hin81 (g := (mkF m 31 #[rv a2, own_i 18, rv a3, own_i 18, own_i 20, own_i 18, .val (.int x18)] [(.int (x18.toInt8.toInt32)), (.int (18 : Int32)), (.ref a3)])) rfl rfl (hb hby own_d9_31)
  rw [own_idem _] at W81
  have N81 := Fr.snoc X81 N77 g_a3
  have KK81 : Keep h0 h81 [a3] := KK77.wr W81 (Or.inl (List.mem_of_getElem? (i := 0) rfl))
  have V2_e81 := V2_e77.other W81 ne23
  have V81 : Arv Z h81 a3 k3 .byte (20 : Int32) [(.int (x0.toInt8.toInt32)), (.int (x1.toInt8.toInt32)), (.int (x2.toInt8.toInt32)), (.int (x3.toInt8.toInt32)), (.int (x4.toInt8.toInt32)), (.int (x5.toInt8.toInt32)), (.int (x6.toInt8.toInt32)), (.int (x7.toInt8.toInt32)), (.int (x8.toInt8.toInt32)), (.int (x9.toInt8.toInt32)), (.int (x10.toInt8.toInt32)), (.int (x11.toInt8.toInt32)), (.int (x12.toInt8.toInt32)), (.int (x13.toInt8.toInt32)), (.int (x14.toInt8.toInt32)), (.int (x15.toInt8.toInt32)), (.int (x16.toInt8.toInt32)), (.int (x17.toInt8.toInt32)), (.int (x18.toInt8.toInt32)), (.int (0 : Int32))] (.int (0 : Int32)) := Arv.set Ar80 qa80 Sa80 Na80 Ha80 Ga80 (fits_nar_byte _) W81 18 rfl (Nat.le_of_ble_eq_true rfl)
  have zs82 := (Nat.le_trans (Nat.le_trans (Nat.le_trans zs69 (Keep.of_wr W68).1) (Keep.of_wr W73).1) (Keep.of_wr W77).1)
  refine own_to (fun t k => st81 t k) ?_
  show own_Fin _ _ _ _ _ _ (T81.setTop (mkF m 32 #[rv a2, own_i 18, rv a3, own_i 18, own_i 20, own_i 18, .val (.int x18)] []))
  refine own_to (fun t k => XS.iinc X81.here hx rfl (hb hby own_d9_32) rfl (l' := #[rv a2, own_i 19, rv a3, own_i 18, own_i 20, own_i 18, .val (.int x18)]) rfl k) ?_
  show own_Fin _ _ _ _ _ _ (T81.setTop (mkF m 35 #[rv a2, own_i 19, rv a3, own_i 18, own_i 20, own_i 18, .val (.int x18)] []))
  refine own_to (fun t k => XS.iinc X81.here hx rfl (hb hby own_d9_35) rfl (l' := #[rv a2, own_i 19, rv a3, own_i 19, own_i 20, own_i 18, .val (.int x18)]) rfl k) ?_
  show own_Fin _ _ _ _ _ _ (T81.setTop (mkF m 38 #[rv a2, own_i 19, rv a3, own_i 19, own_i 20, own_i 18, .val (.int x18)] []))
  refine own_to (fun t k => XS.iinc X81.here hx rfl (hb hby own_d9_38) rfl (l' := #[rv a2, own_i 19, rv a3, own_i 19, own_i 20, own_i 19, .val (.int x18)]) rfl k) ?_
  show own_Fin _ _ _ _ _ _ (T81.setTop (mkF m 41 #[rv a2, own_i 19, rv a3, own_i 19, own_i 20, own_i 19, .val (.int x18)] []))
  refine own_to (fun t k => XS.goto X81.here hx rfl (pc0 := 41) (pc' := 3) rfl (hb hby own_d9_41) (by decide) (by decide) k) ?_
  show own_Fin _ _ _ _ _ _ (T81.setTop (mkF m 3 #[rv a2, own_i 19, rv a3, own_i 19, own_i 20, own_i 19, .val (.int x18)] []))
  refine own_to (fun t k => XS.iload X81.here hx rfl (hb hby own_d9_3) rfl k) ?_
  refine own_to (fun t k => XS.iload X81.here hx rfl (hb hby own_d9_5) rfl k) ?_
  refine own_to (fun t k => XS.icmpNo X81.here hx rfl (hb hby own_d9_7) rfl (tlt (by decide)).2.1 k) ?_
  show own_Fin _ _ _ _ _ _ (T81.setTop (mkF m 10 #[rv a2, own_i 19, rv a3, own_i 19, own_i 20, own_i 19, .val (.int x18)] []))
  refine own_to (fun t k => XS.aloadN X81.here hx rfl (hb hby own_d9_10) rfl rfl k) ?_
  show own_Fin _ _ _ _ _ _ (T81.setTop (mkF m 11 #[rv a2, own_i 19, rv a3, own_i 19, own_i 20, own_i 19, .val (.int x18)] [(.ref a2)]))
  refine own_to (fun t k => XS.iloadN X81.here hx rfl (hb hby own_d9_11) rfl k) ?_
  obtain ⟨cl83, Ar83, qa83, Sa83, Na83, Ha83, Ga83⟩ := id V2_e81
  have hin84 : ¬ ((19 : Int32) < 0 ∨ cl83.slots.size ≤ ((19 : Int32)).toNatClampNeg) := inb_of Sa83 ⟨by decide, by decide⟩
  refine own_to (fun t k => X81.caload hx (j := (19 : Int32)) (v := (.int x19)) (by rw [e81]; exact Ar83.1) (State.isArrayOf_alike hZ.alike Ar83.2.1) Ar83.2.2 hin84 (Has.at Ha83 hin84 rfl) (g := (mkF m 12 #[rv a2, own_i 19, rv a3, own_i 19, own_i 20, own_i 19, .val (.int x18)] [(.int (19 : Int32)), (.ref a2)])) rfl rfl (hb hby own_d9_12) _ k) ?_
  show own_Fin _ _ _ _ _ _ (T81.setTop (mkF m 13 #[rv a2, own_i 19, rv a3, own_i 19, own_i 20, own_i 19, .val (.int x18)] [(.int x19)]))
  refine own_to (fun t k => XS.istore X81.here hx rfl (hb hby own_d9_13) rfl (l' := #[rv a2, own_i 19, rv a3, own_i 19, own_i 20, own_i 19, .val (.int x19)]) rfl k) ?_
  show own_Fin _ _ _ _ _ _ (T81.setTop (mkF m 15 #[rv a2, own_i 19, rv a3, own_i 19, own_i 20, own_i 19, .val (.int x19)] []))
  refine own_to (fun t k => XS.iload X81.here hx rfl (hb hby own_d9_15) rfl k) ?_
  refine own_to (fun t k => XS.sipush X81.here hx rfl (hb hby own_d9_17) k) ?_
  refine own_to (fun t k => XS.icmpYes X81.here hx rfl (pc0 := 20) (pc' := 26) rfl (hb hby own_d9_20) rfl (flt hx19).2.2.2 (by decide) (by decide) k) ?_
  show own_Fin _ _ _ _ _ _ (T81.setTop (mkF m 26 #[rv a2, own_i 19, rv a3, own_i 19, own_i 20, own_i 19, .val (.int x19)] []))
  refine own_to (fun t k => XS.aloadN X81.here hx rfl (hb hby own_d9_26) rfl rfl k) ?_
  show own_Fin _ _ _ _ _ _ (T81.setTop (mkF m 27 #[rv a2, own_i 19, rv a3, own_i 19, own_i 20, own_i 19, .val (.int x19)] [(.ref a3)]))
  refine own_to (fun t k => XS.iloadN X81.here hx rfl (hb hby own_d9_27) rfl k) ?_
  refine own_to (fun t k => XS.iload X81.here hx rfl (hb hby own_d9_28) rfl k) ?_
  refine own_to (fun t k => XS.i2b X81.here hx rfl (hb hby own_d9_30) rfl k) ?_
  show own_Fin _ _ _ _ _ _ (T81.setTop (mkF m 31 #[rv a2, own_i 19, rv a3, own_i 19, own_i 20, own_i 19, .val (.int x19)] [(.int (x19.toInt8.toInt32)), (.int (19 : Int32)), (.ref a3)]))
  obtain ⟨cl85, Ar85, qa85, Sa85, Na85, Ha85, Ga85⟩ := id V81
  have hin86 : ¬ ((19 : Int32) < 0 ∨ cl85.slots.size ≤ ((19 : Int32)).toNatClampNeg) := inb_of Sa85 ⟨by decide, by decide⟩
  obtain ⟨T86, h86, X86, e86, W86, st86⟩ := stB X81 hx hZ e81 Ar85 (j := (19 : Int32)) hin86 (g := (mkF m 31 #[rv a2, own_i 19, rv a3, own_i 19, own_i 20, own_i 19, .val (.int x19)] [(.int (x19.toInt8.toInt32)), (.int (19 : Int32)), (.ref a3)])) rfl rfl (hb hby own_d9_31)
  rw [own_idem _] at W86
  have N86 := Fr.snoc X86 N81 g_a3
  have KK86 : Keep h0 h86 [a3] := KK81.wr W86 (Or.inl (List.mem_of_getElem? (i := 0) rfl))
  have V2_e86 := V2_e81.other W86 ne23
  have V86 : Arv Z h86 a3 k3 .byte (20 : Int32) [(.int (x0.toInt8.toInt32)), (.int (x1.toInt8.toInt32)), (.int (x2.toInt8.toInt32)), (.int (x3.toInt8.toInt32)), (.int (x4.toInt8.toInt32)), (.int (x5.toInt8.toInt32)), (.int (x6.toInt8.toInt32)), (.int (x7.toInt8.toInt32)), (.int (x8.toInt8.toInt32)), (.int (x9.toInt8.toInt32)), (.int (x10.toInt8.toInt32)), (.int (x11.toInt8.toInt32)), (.int (x12.toInt8.toInt32)), (.int (x13.toInt8.toInt32)), (.int (x14.toInt8.toInt32)), (.int (x15.toInt8.toInt32)), (.int (x16.toInt8.toInt32)), (.int (x17.toInt8.toInt32)), (.int (x18.toInt8.toInt32)), (.int (x19.toInt8.toInt32))] (.int (0 : Int32)) := Arv.set Ar85 qa85 Sa85 Na85 Ha85 Ga85 (fits_nar_byte _) W86 19 rfl (Nat.le_of_ble_eq_true rfl)
  refine own_to (fun t k => st86 t k) ?_
  show own_Fin _ _ _ _ _ _ (T86.setTop (mkF m 32 #[rv a2, own_i 19, rv a3, own_i 19, own_i 20, own_i 19, .val (.int x19)] []))
  refine own_to (fun t k => XS.iinc X86.here hx rfl (hb hby own_d9_32) rfl (l' := #[rv a2, own_i 20, rv a3, own_i 19, own_i 20, own_i 19, .val (.int x19)]) rfl k) ?_
  show own_Fin _ _ _ _ _ _ (T86.setTop (mkF m 35 #[rv a2, own_i 20, rv a3, own_i 19, own_i 20, own_i 19, .val (.int x19)] []))
  refine own_to (fun t k => XS.iinc X86.here hx rfl (hb hby own_d9_35) rfl (l' := #[rv a2, own_i 20, rv a3, own_i 20, own_i 20, own_i 19, .val (.int x19)]) rfl k) ?_
  show own_Fin _ _ _ _ _ _ (T86.setTop (mkF m 38 #[rv a2, own_i 20, rv a3, own_i 20, own_i 20, own_i 19, .val (.int x19)] []))
  refine own_to (fun t k => XS.iinc X86.here hx rfl (hb hby own_d9_38) rfl (l' := #[rv a2, own_i 20, rv a3, own_i 20, own_i 20, own_i 20, .val (.int x19)]) rfl k) ?_
  show own_Fin _ _ _ _ _ _ (T86.setTop (mkF m 41 #[rv a2, own_i 20, rv a3, own_i 20, own_i 20, own_i 20, .val (.int x19)] []))
  refine own_to (fun t k => XS.goto X86.here hx rfl (pc0 := 41) (pc' := 3) rfl (hb hby own_d9_41) (by decide) (by decide) k) ?_
  show own_Fin _ _ _ _ _ _ (T86.setTop (mkF m 3 #[rv a2, own_i 20, rv a3, own_i 20, own_i 20, own_i 20, .val (.int x19)] []))
  refine own_to (fun t k => XS.iload X86.here hx rfl (hb hby own_d9_3) rfl k) ?_
  refine own_to (fun t k => XS.iload X86.here hx rfl (hb hby own_d9_5) rfl k) ?_
  refine own_to (fun t k => XS.icmpYes X86.here hx rfl (pc0 := 7) (pc' := 44) rfl (hb hby own_d9_7) rfl (flt (Int32.lt_irrefl)).2.1 (by decide) (by decide) k) ?_
  show own_Fin _ _ _ _ _ _ (T86.setTop (mkF m 44 #[rv a2, own_i 20, rv a3, own_i 20, own_i 20, own_i 20, .val (.int x19)] []))
  refine own_to (fun t k => XS.iload X86.here hx rfl (hb hby own_d9_44) rfl k) ?_
  show own_Fin _ _ _ _ _ _ (T86.setTop (mkF m 46 #[rv a2, own_i 20, rv a3, own_i 20, own_i 20, own_i 20, .val (.int x19)] [(.int (20 : Int32))]))
  refine own_retI X86 hx hlk hret (hb hby own_d9_46) (by decide) (by decide) ?_
  try rw [e86]
  exact ⟨rfl, N86, KK86, V86⟩
theorem own_d8_0 : decode jdk_52_method_16_code 0 = .ok (.iload_n 2, 1) := by decide +kernel
theorem own_d8_1 : decode jdk_52_method_16_code 1 = .ok (.newarray .byte, 2) := by decide +kernel
theorem own_d8_3 : decode jdk_52_method_16_code 3 = .ok (.astore_n 3, 1) := by decide +kernel
theorem own_d8_4 : decode jdk_52_method_16_code 4 = .ok (.aload_n 0, 1) := by decide +kernel
theorem own_d8_5 : decode jdk_52_method_16_code 5 = .ok (.iload_n 1, 1) := by decide +kernel
theorem own_d8_6 : decode jdk_52_method_16_code 6 = .ok (.aload_n 3, 1) := by decide +kernel
theorem own_d8_7 : decode jdk_52_method_16_code 7 = .ok (.iconst 0, 1) := by decide +kernel
theorem own_d8_8 : decode jdk_52_method_16_code 8 = .ok (.iload_n 2, 1) := by decide +kernel
theorem own_d8_9 : decode jdk_52_method_16_code 9 = .ok (.invokestatic 115, 3) := by decide +kernel
theorem own_d8_12 : decode jdk_52_method_16_code 12 = .ok (.istore 4, 2) := by decide +kernel
theorem own_d8_14 : decode jdk_52_method_16_code 14 = .ok (.iload 4, 2) := by decide +kernel
theorem own_d8_16 : decode jdk_52_method_16_code 16 = .ok (.iload_n 2, 1) := by decide +kernel
theorem own_d8_17 : decode jdk_52_method_16_code 17 = .ok (.if_icmp .eq 40, 3) := by decide +kernel
theorem own_d8_20 : decode jdk_52_method_16_code 20 = .ok (.aload_n 0, 1) := by decide +kernel
theorem own_d8_21 : decode jdk_52_method_16_code 21 = .ok (.iload_n 1, 1) := by decide +kernel
theorem own_d8_22 : decode jdk_52_method_16_code 22 = .ok (.iload_n 2, 1) := by decide +kernel
theorem own_d8_23 : decode jdk_52_method_16_code 23 = .ok (.invokestatic 119, 3) := by decide +kernel
theorem own_d8_26 : decode jdk_52_method_16_code 26 = .ok (.astore 5, 2) := by decide +kernel
theorem own_d8_28 : decode jdk_52_method_16_code 28 = .ok (.aload 5, 2) := by decide +kernel
theorem own_d8_30 : decode jdk_52_method_16_code 30 = .ok (.iload 4, 2) := by decide +kernel
theorem own_d8_32 : decode jdk_52_method_16_code 32 = .ok (.invokestatic 71, 3) := by decide +kernel
theorem own_d8_35 : decode jdk_52_method_16_code 35 = .ok (.sipush 255, 3) := by decide +kernel
theorem own_d8_38 : decode jdk_52_method_16_code 38 = .ok (.if_icmp .gt 16, 3) := by decide +kernel
theorem own_d8_41 : decode jdk_52_method_16_code 41 = .ok (.aload 5, 2) := by decide +kernel
theorem own_d8_43 : decode jdk_52_method_16_code 43 = .ok (.iconst 0, 1) := by decide +kernel
theorem own_d8_44 : decode jdk_52_method_16_code 44 = .ok (.aload_n 3, 1) := by decide +kernel
theorem own_d8_45 : decode jdk_52_method_16_code 45 = .ok (.iconst 0, 1) := by decide +kernel
theorem own_d8_46 : decode jdk_52_method_16_code 46 = .ok (.iload_n 2, 1) := by decide +kernel
theorem own_d8_47 : decode jdk_52_method_16_code 47 = .ok (.invokestatic 123, 3) := by decide +kernel
theorem own_d8_50 : decode jdk_52_method_16_code 50 = .ok (.iload_n 2, 1) := by decide +kernel
theorem own_d8_51 : decode jdk_52_method_16_code 51 = .ok (.if_icmp .eq 6, 3) := by decide +kernel
theorem own_d8_54 : decode jdk_52_method_16_code 54 = .ok (.aload 5, 2) := by decide +kernel
theorem own_d8_56 : decode jdk_52_method_16_code 56 = .ok (.areturn, 1) := by decide +kernel
theorem own_d8_57 : decode jdk_52_method_16_code 57 = .ok (.aload_n 3, 1) := by decide +kernel
theorem own_d8_58 : decode jdk_52_method_16_code 58 = .ok (.areturn, 1) := by decide +kernel
theorem own_pd0 : parseMethodDescriptor "([CI[BII)I" = some ⟨[(.array .char), .int, (.array .byte), .int, .int], some .int⟩ := by decide +kernel
theorem own_cmp_ef (m : MethodId) (a2 : Addr) : entryFrame m #[(.ref a2), (.int (0 : Int32)), (.int (20 : Int32))] 6 = mkF m 0 #[rv a2, own_i 0, own_i 20, .unset, .unset, .unset] [] := by first | (simp [entryFrame, mkF, argsToLocals, Value.category]; done) | rfl
set_option maxRecDepth 65536 in
set_option maxHeartbeats 40000000 in
theorem own_cmp (l : Launch) (Z : State) (a0 : Array Value) (hw : ∀ d ∈ tables_1, d.before a0 Z = true) (ws : List Jvm.Cond) (a2 : Addr) (k2 : ClassId) (x0 : Int32) (x1 : Int32) (x2 : Int32) (x3 : Int32) (x4 : Int32) (x5 : Int32) (x6 : Int32) (x7 : Int32) (x8 : Int32) (x9 : Int32) (x10 : Int32) (x11 : Int32) (x12 : Int32) (x13 : Int32) (x14 : Int32) (x15 : Int32) (x16 : Int32) (x17 : Int32) (x18 : Int32) (x19 : Int32) (h0 : Heap) (n0 : Nat) (Z0 : n0 ≤ h0.size) (V2 : Arv Z h0 a2 k2 .char (20 : Int32) [(.int x0), (.int x1), (.int x2), (.int x3), (.int x4), (.int x5), (.int x6), (.int x7), (.int x8), (.int x9), (.int x10), (.int x11), (.int x12), (.int x13), (.int x14), (.int x15), (.int x16), (.int x17), (.int x18), (.int x19)] (.int (0 : Int32))) (hx0 : ¬ (255 : Int32) < x0) (hx1 : ¬ (255 : Int32) < x1) (hx2 : ¬ (255 : Int32) < x2) (hx3 : ¬ (255 : Int32) < x3) (hx4 : ¬ (255 : Int32) < x4) (hx5 : ¬ (255 : Int32) < x5) (hx6 : ¬ (255 : Int32) < x6) (hx7 : ¬ (255 : Int32) < x7) (hx8 : ¬ (255 : Int32) < x8) (hx9 : ¬ (255 : Int32) < x9) (hx10 : ¬ (255 : Int32) < x10) (hx11 : ¬ (255 : Int32) < x11) (hx12 : ¬ (255 : Int32) < x12) (hx13 : ¬ (255 : Int32) < x13) (hx14 : ¬ (255 : Int32) < x14) (hx15 : ¬ (255 : Int32) < x15) (hx16 : ¬ (255 : Int32) < x16) (hx17 : ¬ (255 : Int32) < x17) (hx18 : ¬ (255 : Int32) < x18) (hx19 : ¬ (255 : Int32) < x19) :
    own_Met l Z (⟨"java/lang/StringUTF16", "compress", "([CII)[B"⟩ : MethodName) jdk_52_method_16_code 6 (some (.array .byte)) ws ({ frames := 1, cells := 1, slots := 20, locals := 24 } : Room) #[(.ref a2), (.int (0 : Int32)), (.int (20 : Int32))] h0 (fun v h L => ∃ d k3, v = some (.ref d) ∧ Fr n0 L ∧ Keep h0 h [] ∧ n0 ≤ d ∧ h0.size ≤ d ∧ Arv Z h d k3 .byte (20 : Int32) [(.int (x0.toInt8.toInt32)), (.int (x1.toInt8.toInt32)), (.int (x2.toInt8.toInt32)), (.int (x3.toInt8.toInt32)), (.int (x4.toInt8.toInt32)), (.int (x5.toInt8.toInt32)), (.int (x6.toInt8.toInt32)), (.int (x7.toInt8.toInt32)), (.int (x8.toInt8.toInt32)), (.int (x9.toInt8.toInt32)), (.int (x10.toInt8.toInt32)), (.int (x11.toInt8.toInt32)), (.int (x12.toInt8.toInt32)), (.int (x13.toInt8.toInt32)), (.int (x14.toInt8.toInt32)), (.int (x15.toInt8.toInt32)), (.int (x16.toInt8.toInt32)), (.int (x17.toInt8.toInt32)), (.int (x18.toInt8.toInt32)), (.int (x19.toInt8.toInt32))] (.int (0 : Int32))) := by
  refine own_enter (plainFor_of_name own_pn0) ?_
  intro p e s m below meth c s₁ X0 hx hZ hby hml hown hnm hret hlk e0
  have N0 := Fr.nil n0
  rw [own_cmp_ef m a2]
  have KK0 : Keep h0 h0 [] := Keep.refl _ _
  show own_Fin _ _ _ _ _ _ (s₁.setTop (mkF m 0 #[rv a2, own_i 0, own_i 20, .unset, .unset, .unset] []))
  refine own_to (fun t k => XS.iloadN X0.here hx rfl (hb hby own_d8_0) rfl k) ?_
  obtain ⟨T87, h87, k87, X87, e87, E87, A87, A87x, st87⟩ := newPE X0 hx hZ (own_W hw 57 rfl) e0 (g := (mkF m 1 #[rv a2, own_i 0, own_i 20, .unset, .unset, .unset] [(.int (20 : Int32))])) rfl (hb hby own_d8_1) rfl (by decide) (cap := 20) (by decide) (by decide) (by decide) (by decide) (ad := "[B") (by decide)
  obtain ⟨bd, q87⟩ : ∃ z, z = h0.size := ⟨_, rfl⟩
  rw [← q87] at A87 A87x st87
  have ne_a2_bd : a2 ≠ bd := Nat.ne_of_lt (Nat.lt_of_lt_of_le V2.lt (Nat.le_of_eq q87.symm))
  have g_bd : n0 ≤ bd := Nat.le_trans Z0 (Nat.le_of_eq q87.symm)
  have sz_bd : h0.size ≤ bd := Nat.le_trans KK0.1 (Nat.le_of_eq q87.symm)
  have KK87 : Keep h0 h87 [] := KK0.ext E87
  have V2_e87 := V2.ext E87
  have V87 := Arv.new A87 (by decide)
  refine own_to (fun t k => st87 t k) ?_
  show own_Fin _ _ _ _ _ _ (T87.setTop (mkF m 3 #[rv a2, own_i 0, own_i 20, .unset, .unset, .unset] [(.ref bd)]))
  refine own_to (fun t k => XS.astoreN X87.here hx rfl (hb hby own_d8_3) rfl rfl (l' := #[rv a2, own_i 0, own_i 20, rv bd, .unset, .unset]) rfl k) ?_
  show own_Fin _ _ _ _ _ _ (T87.setTop (mkF m 4 #[rv a2, own_i 0, own_i 20, rv bd, .unset, .unset] []))
  refine own_to (fun t k => XS.aloadN X87.here hx rfl (hb hby own_d8_4) rfl rfl k) ?_
  refine own_to (fun t k => XS.iloadN X87.here hx rfl (hb hby own_d8_5) rfl k) ?_
  refine own_to (fun t k => XS.aloadN X87.here hx rfl (hb hby own_d8_6) rfl rfl k) ?_
  show own_Fin _ _ _ _ _ _ (T87.setTop (mkF m 7 #[rv a2, own_i 0, own_i 20, rv bd, .unset, .unset] [(.ref bd), (.int (0 : Int32)), (.ref a2)]))
  refine own_to (fun t k => XS.iconst X87.here hx rfl (hb hby own_d8_7) k) ?_
  refine own_to (fun t k => XS.iloadN X87.here hx rfl (hb hby own_d8_8) rfl k) ?_
  have V88p : Arv Z h87 bd k87 .byte (20 : Int32) [(.int (0 : Int32)), (.int (0 : Int32)), (.int (0 : Int32)), (.int (0 : Int32)), (.int (0 : Int32)), (.int (0 : Int32)), (.int (0 : Int32)), (.int (0 : Int32)), (.int (0 : Int32)), (.int (0 : Int32)), (.int (0 : Int32)), (.int (0 : Int32)), (.int (0 : Int32)), (.int (0 : Int32)), (.int (0 : Int32)), (.int (0 : Int32)), (.int (0 : Int32)), (.int (0 : Int32)), (.int (0 : Int32)), (.int (0 : Int32))] (.int (0 : Int32)) := V87.pad (pad_rep [] (.int (0 : Int32)) 20)
  obtain ⟨_, _, ⟨T89, L89, k89, n89⟩, -, X89, ⟨Lc89, hQ89, l89, y89, z89⟩, st89⟩ := Jvm.LawKit.callS X87 hx (y := (⟨"java/lang/StringUTF16", "compress", "([CI[BII)I"⟩ : MethodName)) hown (mvT hZ (own_W hw 58 rfl)) (mvT hZ (own_W hw 59 rfl)) (mvT hZ (own_W hw 55 rfl)) (mvT hZ (own_W hw 60 rfl)) (by decide) (own_back (W := 0) (own_cmp2 l Z a0 hw [] a2 bd k2 k87 x0 x1 x2 x3 x4 x5 x6 x7 x8 x9 x10 x11 x12 x13 x14 x15 x16 x17 x18 x19 h87 n0 (Nat.le_trans Z0 E87.1) V2_e87 V88p g_bd ne_a2_bd hx0 hx1 hx2 hx3 hx4 hx5 hx6 hx7 hx8 hx9 hx10 hx11 hx12 hx13 hx14 hx15 hx16 hx17 hx18 hx19) hZ (own_W hw 60 rfl) (own_W hw 55 rfl) (by decide) (by decide)) (g := (mkF m 9 #[rv a2, own_i 0, own_i 20, rv bd, .unset, .unset] [(.int (20 : Int32)), (.int (0 : Int32)), (.ref bd), (.int (0 : Int32)), (.ref a2)])) rfl (by rw [hml]; rfl) (argsL := [(.ref a2), (.int (0 : Int32)), (.ref bd), (.int (0 : Int32)), (.int (20 : Int32))]) (rest := []) (lenOf own_pd0 rfl) rfl (by show 2 * 0 + _ ≤ _; exact Nat.le_of_eq rfl) (hb hby own_d8_9) (fun _ _ => ⟨rfl, e87, (by decide : 1 + 0 ≤ _), (by decide : 20 + 0 ≤ _)⟩)
  dsimp only [Pt.U, Pt.locs, Pt.cells, Pt.slots] at X89 l89 y89 z89 st89 hQ89
  rw [l89, y89, z89] at X89
  obtain ⟨rfl, N89q, K89, Vd89⟩ := hQ89
  have N89 := Fr.app N0 N89q
  have KK89 : Keep h0 T89.heap [] := KK87.trans K89 (allS (Or.inr sz_bd) all0)
  have V2_e89 := V2_e87.keep K89 (ninS ne_a2_bd nin0)
  have A87x_e89 := A87x.keep K89
  refine own_to (fun t k => st89 t k) ?_
  show own_Fin _ _ _ _ _ _ (T89.setTop (mkF m 12 #[rv a2, own_i 0, own_i 20, rv bd, .unset, .unset] [(.int (20 : Int32))]))
  refine own_to (fun t k => XS.istore X89.here hx rfl (hb hby own_d8_12) rfl (l' := #[rv a2, own_i 0, own_i 20, rv bd, own_i 20, .unset]) rfl k) ?_
  show own_Fin _ _ _ _ _ _ (T89.setTop (mkF m 14 #[rv a2, own_i 0, own_i 20, rv bd, own_i 20, .unset] []))
  refine own_to (fun t k => XS.iload X89.here hx rfl (hb hby own_d8_14) rfl k) ?_
  refine own_to (fun t k => XS.iloadN X89.here hx rfl (hb hby own_d8_16) rfl k) ?_
  refine own_to (fun t k => XS.icmpYes X89.here hx rfl (pc0 := 17) (pc' := 57) rfl (hb hby own_d8_17) rfl (teq rfl).1 (by decide) (by decide) k) ?_
  show own_Fin _ _ _ _ _ _ (T89.setTop (mkF m 57 #[rv a2, own_i 0, own_i 20, rv bd, own_i 20, .unset] []))
  refine own_to (fun t k => XS.aloadN X89.here hx rfl (hb hby own_d8_57) rfl rfl k) ?_
  show own_Fin _ _ _ _ _ _ (T89.setTop (mkF m 58 #[rv a2, own_i 0, own_i 20, rv bd, own_i 20, .unset] [(.ref bd)]))
  refine own_retR X89 hx hlk hret rfl rfl rfl (hb hby own_d8_58) (by decide) (by decide) ?_
  exact ⟨bd, k87, rfl, N89, KK89, g_bd, sz_bd, Vd89⟩
theorem own_d10_0 : decode jdk_52_method_15_code 0 = .ok (.iload_n 1, 1) := by decide +kernel
theorem own_d10_1 : decode jdk_52_method_15_code 1 = .ok (.aload_n 0, 1) := by decide +kernel
theorem own_d10_2 : decode jdk_52_method_15_code 2 = .ok (.arraylength, 1) := by decide +kernel
theorem own_d10_3 : decode jdk_52_method_15_code 3 = .ok (.isub, 1) := by decide +kernel
theorem own_d10_4 : decode jdk_52_method_15_code 4 = .ok (.bipush 31, 2) := by decide +kernel
theorem own_d10_6 : decode jdk_52_method_15_code 6 = .ok (.iushr, 1) := by decide +kernel
theorem own_d10_7 : decode jdk_52_method_15_code 7 = .ok (.i2b, 1) := by decide +kernel
theorem own_d10_8 : decode jdk_52_method_15_code 8 = .ok (.ireturn, 1) := by decide +kernel
theorem own_cod_ef (m : MethodId) (a2 : Addr) : entryFrame m #[(.ref a2), (.int (20 : Int32))] 2 = mkF m 0 #[rv a2, own_i 20] [] := by first | (simp [entryFrame, mkF, argsToLocals, Value.category]; done) | rfl
set_option maxRecDepth 65536 in
set_option maxHeartbeats 40000000 in
theorem own_cod (l : Launch) (Z : State) (a0 : Array Value) (hw : ∀ d ∈ tables_1, d.before a0 Z = true) (ws : List Jvm.Cond) (a2 : Addr) (k3 : ClassId) (x0 : Int32) (x1 : Int32) (x2 : Int32) (x3 : Int32) (x4 : Int32) (x5 : Int32) (x6 : Int32) (x7 : Int32) (x8 : Int32) (x9 : Int32) (x10 : Int32) (x11 : Int32) (x12 : Int32) (x13 : Int32) (x14 : Int32) (x15 : Int32) (x16 : Int32) (x17 : Int32) (x18 : Int32) (x19 : Int32) (h0 : Heap) (n0 : Nat) (Z0 : n0 ≤ h0.size) (V2 : Arv Z h0 a2 k3 .byte (20 : Int32) [(.int (x0.toInt8.toInt32)), (.int (x1.toInt8.toInt32)), (.int (x2.toInt8.toInt32)), (.int (x3.toInt8.toInt32)), (.int (x4.toInt8.toInt32)), (.int (x5.toInt8.toInt32)), (.int (x6.toInt8.toInt32)), (.int (x7.toInt8.toInt32)), (.int (x8.toInt8.toInt32)), (.int (x9.toInt8.toInt32)), (.int (x10.toInt8.toInt32)), (.int (x11.toInt8.toInt32)), (.int (x12.toInt8.toInt32)), (.int (x13.toInt8.toInt32)), (.int (x14.toInt8.toInt32)), (.int (x15.toInt8.toInt32)), (.int (x16.toInt8.toInt32)), (.int (x17.toInt8.toInt32)), (.int (x18.toInt8.toInt32)), (.int (x19.toInt8.toInt32))] (.int (0 : Int32))) :
    own_Met l Z (⟨"java/lang/StringUTF16", "coderFromArrayLen", "([BI)B"⟩ : MethodName) jdk_52_method_15_code 2 (some .byte) ws ({ frames := 0, cells := 0, slots := 0, locals := 0 } : Room) #[(.ref a2), (.int (20 : Int32))] h0 (fun v h L => v = some (.int (0 : Int32)) ∧ Fr n0 L ∧ h = h0) := by
  refine own_enter (plainFor_of_name own_pn0) ?_
  intro p e s m below meth c s₁ X0 hx hZ hby hml hown hnm hret hlk e0
  have N0 := Fr.nil n0
  rw [own_cod_ef m a2]
  show own_Fin _ _ _ _ _ _ (s₁.setTop (mkF m 0 #[rv a2, own_i 20] []))
  refine own_to (fun t k => XS.iloadN X0.here hx rfl (hb hby own_d10_0) rfl k) ?_
  refine own_to (fun t k => XS.aloadN X0.here hx rfl (hb hby own_d10_1) rfl rfl k) ?_
  obtain ⟨cl90, Ar90, qa90, Sa90, Na90, Ha90, Ga90⟩ := id V2
  refine own_to (fun t k => X0.arraylength hx (by rw [e0]; exact Ar90.1) (State.isArrayOf_alike hZ.alike Ar90.2.1) (g := (mkF m 2 #[rv a2, own_i 20] [(.ref a2), (.int (20 : Int32))])) rfl rfl (hb hby own_d10_2) _ k) ?_
  rw [len_of Sa90 Na90]
  show own_Fin _ _ _ _ _ _ (s₁.setTop (mkF m 3 #[rv a2, own_i 20] [(.int (20 : Int32)), (.int (20 : Int32))]))
  refine own_to (fun t k => XS.isub X0.here hx rfl (hb hby own_d10_3) rfl k) ?_
  show own_Fin _ _ _ _ _ _ (s₁.setTop (mkF m 4 #[rv a2, own_i 20] [(.int (0 : Int32))]))
  refine own_to (fun t k => XS.bipush X0.here hx rfl (hb hby own_d10_4) k) ?_
  refine own_to (fun t k => XS.iushr X0.here hx rfl (hb hby own_d10_6) rfl k) ?_
  show own_Fin _ _ _ _ _ _ (s₁.setTop (mkF m 7 #[rv a2, own_i 20] [(.int (0 : Int32))]))
  refine own_to (fun t k => XS.i2b X0.here hx rfl (hb hby own_d10_7) rfl k) ?_
  show own_Fin _ _ _ _ _ _ (s₁.setTop (mkF m 8 #[rv a2, own_i 20] [(.int (0 : Int32))]))
  refine own_retN X0 hx hlk (t := .byte) hret (by simp) (hb hby own_d10_8) (by decide) (by decide) ?_
  try rw [e0]
  exact ⟨rfl, N0, rfl⟩
theorem own_d6_0 : decode jdk_42_method_149_code 0 = .ok (.aload_n 0, 1) := by decide +kernel
theorem own_d6_1 : decode jdk_42_method_149_code 1 = .ok (.invokespecial 1, 3) := by decide +kernel
theorem own_d6_4 : decode jdk_42_method_149_code 4 = .ok (.iload_n 3, 1) := by decide +kernel
theorem own_d6_5 : decode jdk_42_method_149_code 5 = .ok (.ifCond .ne 22, 3) := by decide +kernel
theorem own_d6_8 : decode jdk_42_method_149_code 8 = .ok (.aload_n 0, 1) := by decide +kernel
theorem own_d6_9 : decode jdk_42_method_149_code 9 = .ok (.ldc 7, 2) := by decide +kernel
theorem own_d6_11 : decode jdk_42_method_149_code 11 = .ok (.getfield 9, 3) := by decide +kernel
theorem own_d6_14 : decode jdk_42_method_149_code 14 = .ok (.putfield 9, 3) := by decide +kernel
theorem own_d6_17 : decode jdk_42_method_149_code 17 = .ok (.aload_n 0, 1) := by decide +kernel
theorem own_d6_18 : decode jdk_42_method_149_code 18 = .ok (.ldc 7, 2) := by decide +kernel
theorem own_d6_20 : decode jdk_42_method_149_code 20 = .ok (.getfield 15, 3) := by decide +kernel
theorem own_d6_23 : decode jdk_42_method_149_code 23 = .ok (.putfield 15, 3) := by decide +kernel
theorem own_d6_26 : decode jdk_42_method_149_code 26 = .ok (.return_, 1) := by decide +kernel
theorem own_d6_27 : decode jdk_42_method_149_code 27 = .ok (.getstatic 38, 3) := by decide +kernel
theorem own_d6_30 : decode jdk_42_method_149_code 30 = .ok (.ifCond .eq 28, 3) := by decide +kernel
theorem own_d6_33 : decode jdk_42_method_149_code 33 = .ok (.aload_n 1, 1) := by decide +kernel
theorem own_d6_34 : decode jdk_42_method_149_code 34 = .ok (.iload_n 2, 1) := by decide +kernel
theorem own_d6_35 : decode jdk_42_method_149_code 35 = .ok (.iload_n 3, 1) := by decide +kernel
theorem own_d6_36 : decode jdk_42_method_149_code 36 = .ok (.invokestatic 177, 3) := by decide +kernel
theorem own_d6_39 : decode jdk_42_method_149_code 39 = .ok (.astore 5, 2) := by decide +kernel
theorem own_d6_41 : decode jdk_42_method_149_code 41 = .ok (.aload_n 0, 1) := by decide +kernel
theorem own_d6_42 : decode jdk_42_method_149_code 42 = .ok (.aload 5, 2) := by decide +kernel
theorem own_d6_44 : decode jdk_42_method_149_code 44 = .ok (.iload_n 3, 1) := by decide +kernel
theorem own_d6_45 : decode jdk_42_method_149_code 45 = .ok (.invokestatic 47, 3) := by decide +kernel
theorem own_d6_48 : decode jdk_42_method_149_code 48 = .ok (.putfield 15, 3) := by decide +kernel
theorem own_d6_51 : decode jdk_42_method_149_code 51 = .ok (.aload_n 0, 1) := by decide +kernel
theorem own_d6_52 : decode jdk_42_method_149_code 52 = .ok (.aload 5, 2) := by decide +kernel
theorem own_d6_54 : decode jdk_42_method_149_code 54 = .ok (.putfield 9, 3) := by decide +kernel
theorem own_d6_57 : decode jdk_42_method_149_code 57 = .ok (.return_, 1) := by decide +kernel
theorem own_d6_58 : decode jdk_42_method_149_code 58 = .ok (.aload_n 0, 1) := by decide +kernel
theorem own_d6_59 : decode jdk_42_method_149_code 59 = .ok (.iconst 1, 1) := by decide +kernel
theorem own_d6_60 : decode jdk_42_method_149_code 60 = .ok (.putfield 15, 3) := by decide +kernel
theorem own_d6_63 : decode jdk_42_method_149_code 63 = .ok (.aload_n 0, 1) := by decide +kernel
theorem own_d6_64 : decode jdk_42_method_149_code 64 = .ok (.aload_n 1, 1) := by decide +kernel
theorem own_d6_65 : decode jdk_42_method_149_code 65 = .ok (.iload_n 2, 1) := by decide +kernel
theorem own_d6_66 : decode jdk_42_method_149_code 66 = .ok (.iload_n 3, 1) := by decide +kernel
theorem own_d6_67 : decode jdk_42_method_149_code 67 = .ok (.invokestatic 180, 3) := by decide +kernel
theorem own_d6_70 : decode jdk_42_method_149_code 70 = .ok (.putfield 9, 3) := by decide +kernel
theorem own_d6_73 : decode jdk_42_method_149_code 73 = .ok (.return_, 1) := by decide +kernel
theorem own_pn1 : plainName "java/lang/String" = true := by first | (simp [plainName, overriddenIn]; done) | decide +kernel
theorem own_pd1 : parseMethodDescriptor "()V" = some ⟨[], none⟩ := by decide +kernel
theorem own_pd2 : parseMethodDescriptor "([CII)[B" = some ⟨[(.array .char), .int, .int], some (.array .byte)⟩ := by decide +kernel
theorem own_pd3 : parseMethodDescriptor "([BI)B" = some ⟨[(.array .byte), .int], some .byte⟩ := by decide +kernel
theorem own_initI_ef (m : MethodId) (a1 : Addr) (a2 : Addr) : entryFrame m #[(.ref a1), (.ref a2), (.int (0 : Int32)), (.int (20 : Int32)), .null] 6 = mkF m 0 #[rv a1, rv a2, own_i 0, own_i 20, .val .null, .unset] [] := by first | (simp [entryFrame, mkF, argsToLocals, Value.category]; done) | rfl
set_option maxRecDepth 65536 in
set_option maxHeartbeats 40000000 in
theorem own_initI (l : Launch) (Z : State) (a0 : Array Value) (hw : ∀ d ∈ tables_1, d.before a0 Z = true) (ws : List Jvm.Cond) (cs : Int32) (a1 : Addr) (a2 : Addr) (k2 : ClassId) (x0 : Int32) (x1 : Int32) (x2 : Int32) (x3 : Int32) (x4 : Int32) (x5 : Int32) (x6 : Int32) (x7 : Int32) (x8 : Int32) (x9 : Int32) (x10 : Int32) (x11 : Int32) (x12 : Int32) (x13 : Int32) (x14 : Int32) (x15 : Int32) (x16 : Int32) (x17 : Int32) (x18 : Int32) (x19 : Int32) (h0 : Heap) (n0 : Nat) (Z0 : n0 ≤ h0.size) (O0 : Old Z n0 h0) (SS : Sta Z Z.heap "java/lang/String" "COMPACT_STRINGS" "Z" (.int cs)) (hcs : ¬ cs = (0 : Int32)) (E1 : Exa Z h0 a1 "java/lang/String") (F1 : Fld Z h0 a1 "java/lang/String" "value" "[B" .null) (F2 : Fld Z h0 a1 "java/lang/String" "coder" "B" (.int (0 : Int32))) (g_a1 : n0 ≤ a1) (V2 : Arv Z h0 a2 k2 .char (20 : Int32) [(.int x0), (.int x1), (.int x2), (.int x3), (.int x4), (.int x5), (.int x6), (.int x7), (.int x8), (.int x9), (.int x10), (.int x11), (.int x12), (.int x13), (.int x14), (.int x15), (.int x16), (.int x17), (.int x18), (.int x19)] (.int (0 : Int32))) (ne12 : a1 ≠ a2) (hx0 : ¬ (255 : Int32) < x0) (hx1 : ¬ (255 : Int32) < x1) (hx2 : ¬ (255 : Int32) < x2) (hx3 : ¬ (255 : Int32) < x3) (hx4 : ¬ (255 : Int32) < x4) (hx5 : ¬ (255 : Int32) < x5) (hx6 : ¬ (255 : Int32) < x6) (hx7 : ¬ (255 : Int32) < x7) (hx8 : ¬ (255 : Int32) < x8) (hx9 : ¬ (255 : Int32) < x9) (hx10 : ¬ (255 : Int32) < x10) (hx11 : ¬ (255 : Int32) < x11) (hx12 : ¬ (255 : Int32) < x12) (hx13 : ¬ (255 : Int32) < x13) (hx14 : ¬ (255 : Int32) < x14) (hx15 : ¬ (255 : Int32) < x15) (hx16 : ¬ (255 : Int32) < x16) (hx17 : ¬ (255 : Int32) < x17) (hx18 : ¬ (255 : Int32) < x18) (hx19 : ¬ (255 : Int32) < x19) :
    own_Met l Z (⟨"java/lang/String", "<init>", "([CIILjava/lang/Void;)V"⟩ : MethodName) jdk_42_method_149_code 6 none ws ({ frames := 2, cells := 1, slots := 20, locals := 48 } : Room) #[(.ref a1), (.ref a2), (.int (0 : Int32)), (.int (20 : Int32)), .null] h0 (fun v h L => ∃ d k3, v = none ∧ Fr n0 L ∧ Keep h0 h [a1] ∧ h0.size ≤ d ∧ Fld Z h a1 "java/lang/String" "value" "[B" (.ref d) ∧ Fld Z h a1 "java/lang/String" "coder" "B" (.int (0 : Int32)) ∧ Arv Z h d k3 .byte (20 : Int32) [(.int (x0.toInt8.toInt32)), (.int (x1.toInt8.toInt32)), (.int (x2.toInt8.toInt32)), (.int (x3.toInt8.toInt32)), (.int (x4.toInt8.toInt32)), (.int (x5.toInt8.toInt32)), (.int (x6.toInt8.toInt32)), (.int (x7.toInt8.toInt32)), (.int (x8.toInt8.toInt32)), (.int (x9.toInt8.toInt32)), (.int (x10.toInt8.toInt32)), (.int (x11.toInt8.toInt32)), (.int (x12.toInt8.toInt32)), (.int (x13.toInt8.toInt32)), (.int (x14.toInt8.toInt32)), (.int (x15.toInt8.toInt32)), (.int (x16.toInt8.toInt32)), (.int (x17.toInt8.toInt32)), (.int (x18.toInt8.toInt32)), (.int (x19.toInt8.toInt32))] (.int (0 : Int32))) := by
  refine own_enter (plainFor_of_name own_pn1) ?_
  intro p e s m below meth c s₁ X0 hx hZ hby hml hown hnm hret hlk e0
  have N0 := Fr.nil n0
  rw [own_initI_ef m a1 a2]
  have KK0 : Keep h0 h0 [a1] := Keep.refl _ _
  show own_Fin _ _ _ _ _ _ (s₁.setTop (mkF m 0 #[rv a1, rv a2, own_i 0, own_i 20, .val .null, .unset] []))
  refine own_to (fun t k => XS.aloadN X0.here hx rfl (hb hby own_d6_0) rfl rfl k) ?_
  obtain ⟨T91, X91, e91, st91⟩ := initO X0 hx hZ hown (own_W hw 49 rfl) (own_W hw 50 rfl) (own_W hw 51 rfl) e0 (g := (mkF m 1 #[rv a1, rv a2, own_i 0, own_i 20, .val .null, .unset] [(.ref a1)])) rfl (by rw [hml]; rfl) rfl (hb hby own_d6_1) (by decide) (W := 0) (by show 2 * 0 + _ ≤ _; exact Nat.le_of_eq rfl) (by decide)
  refine own_to (fun t k => st91 t k) ?_
  show own_Fin _ _ _ _ _ _ (T91.setTop (mkF m 4 #[rv a1, rv a2, own_i 0, own_i 20, .val .null, .unset] []))
  refine own_to (fun t k => XS.iloadN X91.here hx rfl (hb hby own_d6_4) rfl k) ?_
  refine own_to (fun t k => XS.ifYes X91.here hx rfl (pc0 := 5) (pc' := 27) rfl (hb hby own_d6_5) rfl ((if0 _ _).trans (feq (by decide)).2) (by decide) (by decide) k) ?_
  show own_Fin _ _ _ _ _ _ (T91.setTop (mkF m 27 #[rv a1, rv a2, own_i 0, own_i 20, .val .null, .unset] []))
  obtain ⟨T92, X92, e92, st92⟩ := getS2 X91 hx hZ hown (host := "") (Or.inl (own_W hw 52 rfl)) Via.refl e91 (SS.ext O0.2) (g := (mkF m 27 #[rv a1, rv a2, own_i 0, own_i 20, .val .null, .unset] [])) rfl (hb hby own_d6_27)
  refine own_to (fun t k => st92 t k) ?_
  show own_Fin _ _ _ _ _ _ (T92.setTop (mkF m 30 #[rv a1, rv a2, own_i 0, own_i 20, .val .null, .unset] [(.int cs)]))
  refine own_to (fun t k => XS.ifNo X92.here hx rfl (hb hby own_d6_30) rfl ((if0 _ _).trans (feq hcs).1) k) ?_
  show own_Fin _ _ _ _ _ _ (T92.setTop (mkF m 33 #[rv a1, rv a2, own_i 0, own_i 20, .val .null, .unset] []))
  refine own_to (fun t k => XS.aloadN X92.here hx rfl (hb hby own_d6_33) rfl rfl k) ?_
  show own_Fin _ _ _ _ _ _ (T92.setTop (mkF m 34 #[rv a1, rv a2, own_i 0, own_i 20, .val .null, .unset] [(.ref a2)]))
  refine own_to (fun t k => XS.iloadN X92.here hx rfl (hb hby own_d6_34) rfl k) ?_
  refine own_to (fun t k => XS.iloadN X92.here hx rfl (hb hby own_d6_35) rfl k) ?_
  obtain ⟨_, _, ⟨T93, L93, k93, n93⟩, -, X93, ⟨Lc93, hQ93, l93, y93, z93⟩, st93⟩ := Jvm.LawKit.callS X92 hx (y := (⟨"java/lang/StringUTF16", "compress", "([CII)[B"⟩ : MethodName)) hown (mvT hZ (own_W hw 53 rfl)) (mvT hZ (own_W hw 54 rfl)) (mvT hZ (own_W hw 55 rfl)) (mvT hZ (own_W hw 56 rfl)) (by decide) (own_back (W := 0) (own_cmp l Z a0 hw [] a2 k2 x0 x1 x2 x3 x4 x5 x6 x7 x8 x9 x10 x11 x12 x13 x14 x15 x16 x17 x18 x19 h0 n0 Z0 V2 hx0 hx1 hx2 hx3 hx4 hx5 hx6 hx7 hx8 hx9 hx10 hx11 hx12 hx13 hx14 hx15 hx16 hx17 hx18 hx19) hZ (own_W hw 56 rfl) (own_W hw 55 rfl) (by decide) (by decide)) (g := (mkF m 36 #[rv a1, rv a2, own_i 0, own_i 20, .val .null, .unset] [(.int (20 : Int32)), (.int (0 : Int32)), (.ref a2)])) rfl (by rw [hml]; rfl) (argsL := [(.ref a2), (.int (0 : Int32)), (.int (20 : Int32))]) (rest := []) (lenOf own_pd2 rfl) rfl (by show 2 * 0 + _ ≤ _; exact Nat.le_of_eq rfl) (hb hby own_d6_36) (fun _ _ => ⟨rfl, e92, (by decide : 0 + 1 ≤ _), (by decide : 0 + 20 ≤ _)⟩)
  dsimp only [Pt.U, Pt.locs, Pt.cells, Pt.slots] at X93 l93 y93 z93 st93 hQ93
  rw [l93, y93, z93] at X93
  obtain ⟨d, k3, rfl, N93q, K93, g_d, szd, V_d⟩ := hQ93
  have N93 := Fr.app N0 N93q
  have ne_a1_d : a1 ≠ d := Nat.ne_of_lt (Nat.lt_of_lt_of_le E1.lt szd)
  have ne_a2_d : a2 ≠ d := Nat.ne_of_lt (Nat.lt_of_lt_of_le V2.lt szd)
  have sz_d : h0.size ≤ d := Nat.le_trans KK0.1 szd
  have O93 := O0.keep K93 all0
  have KK93 : Keep h0 T93.heap [a1] := KK0.trans K93 all0
  have E1_e93 := E1.keep K93
  have F1_e93 := F1.keep K93 nin0
  have F2_e93 := F2.keep K93 nin0
  have V2_e93 := V2.keep K93 nin0
  refine own_to (fun t k => st93 t k) ?_
  show own_Fin _ _ _ _ _ _ (T93.setTop (mkF m 39 #[rv a1, rv a2, own_i 0, own_i 20, .val .null, .unset] [(.ref d)]))
  refine own_to (fun t k => XS.astore X93.here hx rfl (hb hby own_d6_39) rfl rfl (l' := #[rv a1, rv a2, own_i 0, own_i 20, .val .null, rv d]) rfl k) ?_
  show own_Fin _ _ _ _ _ _ (T93.setTop (mkF m 41 #[rv a1, rv a2, own_i 0, own_i 20, .val .null, rv d] []))
  refine own_to (fun t k => XS.aloadN X93.here hx rfl (hb hby own_d6_41) rfl rfl k) ?_
  refine own_to (fun t k => XS.aload X93.here hx rfl (hb hby own_d6_42) rfl rfl k) ?_
  refine own_to (fun t k => XS.iloadN X93.here hx rfl (hb hby own_d6_44) rfl k) ?_
  show own_Fin _ _ _ _ _ _ (T93.setTop (mkF m 45 #[rv a1, rv a2, own_i 0, own_i 20, .val .null, rv d] [(.int (20 : Int32)), (.ref d), (.ref a1)]))
  obtain ⟨_, _, ⟨T94, L94, k94, n94⟩, -, X94, ⟨Lc94, hQ94, l94, y94, z94⟩, st94⟩ := Jvm.LawKit.callS X93 hx (y := (⟨"java/lang/StringUTF16", "coderFromArrayLen", "([BI)B"⟩ : MethodName)) hown (mvT hZ (own_W hw 61 rfl)) (mvT hZ (own_W hw 62 rfl)) (mvT hZ (own_W hw 55 rfl)) (mvT hZ (own_W hw 63 rfl)) (by decide) (own_back (W := 1) (own_cod l Z a0 hw [] d k3 x0 x1 x2 x3 x4 x5 x6 x7 x8 x9 x10 x11 x12 x13 x14 x15 x16 x17 x18 x19 T93.heap n0 (Nat.le_trans Z0 K93.1) V_d) hZ (own_W hw 63 rfl) (own_W hw 55 rfl) (by decide) (by decide)) (g := (mkF m 45 #[rv a1, rv a2, own_i 0, own_i 20, .val .null, rv d] [(.int (20 : Int32)), (.ref d), (.ref a1)])) rfl (by rw [hml]; rfl) (argsL := [(.ref d), (.int (20 : Int32))]) (rest := [(.ref a1)]) (lenOf own_pd3 rfl) rfl (by show 2 * 0 + _ ≤ _; exact Nat.le_of_eq rfl) (hb hby own_d6_45) (fun _ _ => ⟨rfl, rfl, (by decide : 1 + 0 ≤ _), (by decide : 20 + 0 ≤ _)⟩)
  dsimp only [Pt.U, Pt.locs, Pt.cells, Pt.slots] at X94 l94 y94 z94 st94 hQ94
  rw [l94, y94, z94] at X94
  obtain ⟨rfl, N94q, eh94⟩ := hQ94
  have N94 := Fr.app N93 N94q
  refine own_to (fun t k => st94 t k) ?_
  show own_Fin _ _ _ _ _ _ (T94.setTop (mkF m 48 #[rv a1, rv a2, own_i 0, own_i 20, .val .null, rv d] [(.int (0 : Int32)), (.ref a1)]))
  obtain ⟨T95, h95, X95, e95, W95, st95⟩ := putFN X94 hx hZ hown (own_W hw 64 rfl) Via.refl eh94 F2_e93 E1_e93 (Or.inr ⟨(own_W hw 65 rfl), rfl, hnm⟩) (own_W hw 40 rfl) (ty := .byte) (v' := (.int (0 : Int32))) (by decide) rfl rfl (g := (mkF m 48 #[rv a1, rv a2, own_i 0, own_i 20, .val .null, rv d] [(.int (0 : Int32)), (.ref a1)])) rfl rfl (hb hby own_d6_48)
  have Fw95 := F2_e93.same W95
  have N95 := Fr.snoc X95 N94 g_a1
  have O95 := O93.wr W95 g_a1
  have KK95 : Keep h0 h95 [a1] := KK93.wr W95 (Or.inl (List.mem_of_getElem? (i := 0) rfl))
  have E1_e95 := E1_e93.wr W95
  have F1_e95 := F1_e93.other W95 (Or.inr (slot_ne (Or.inr (own_W hw 67 rfl)) (Or.inr (own_W hw 65 rfl)) (by decide) (t := (.array .byte)) (t' := .byte) (by decide) (by decide)))
  have V2_e95 := V2_e93.other W95 (Ne.symm ne12)
  have V_d_e95 := V_d.other W95 (Ne.symm ne_a1_d)
  refine own_to (fun t k => st95 t k) ?_
  show own_Fin _ _ _ _ _ _ (T95.setTop (mkF m 51 #[rv a1, rv a2, own_i 0, own_i 20, .val .null, rv d] []))
  refine own_to (fun t k => XS.aloadN X95.here hx rfl (hb hby own_d6_51) rfl rfl k) ?_
  refine own_to (fun t k => XS.aload X95.here hx rfl (hb hby own_d6_52) rfl rfl k) ?_
  obtain ⟨T96, h96, X96, e96, W96, st96⟩ := putF X95 hx hZ hown (host := "") (Or.inl (own_W hw 66 rfl)) Via.refl e95 F1_e95 E1_e95 (Or.inr ⟨(own_W hw 67 rfl), rfl, hnm⟩) (own_W hw 40 rfl) (ty := (.array .byte)) (by decide) rfl rfl (g := (mkF m 54 #[rv a1, rv a2, own_i 0, own_i 20, .val .null, rv d] [(.ref d), (.ref a1)])) rfl rfl (hb hby own_d6_54)
  have Fw96 := F1_e95.same W96
  have N96 := Fr.snoc X96 N95 g_a1
  have O96 := O95.wr W96 g_a1
  have KK96 : Keep h0 h96 [a1] := KK95.wr W96 (Or.inl (List.mem_of_getElem? (i := 0) rfl))
  have E1_e96 := E1_e95.wr W96
  have Fw95_e96 := Fw95.other W96 (Or.inr (slot_ne (Or.inr (own_W hw 65 rfl)) (Or.inr (own_W hw 67 rfl)) (by decide) (t := .byte) (t' := (.array .byte)) (by decide) (by decide)))
  have V2_e96 := V2_e95.other W96 (Ne.symm ne12)
  have V_d_e96 := V_d_e95.other W96 (Ne.symm ne_a1_d)
  refine own_to (fun t k => st96 t k) ?_
  show own_Fin _ _ _ _ _ _ (T96.setTop (mkF m 57 #[rv a1, rv a2, own_i 0, own_i 20, .val .null, rv d] []))
  refine own_retV X96 hx hlk hret (hb hby own_d6_57) (by decide) (by decide) ?_
  try rw [e96]
  exact ⟨d, k3, rfl, N96, KK96, sz_d, Fw96, Fw95_e96, V_d_e96⟩
theorem own_d5_0 : decode jdk_42_method_3_code 0 = .ok (.aload_n 0, 1) := by decide +kernel
theorem own_d5_1 : decode jdk_42_method_3_code 1 = .ok (.aload_n 1, 1) := by decide +kernel
theorem own_d5_2 : decode jdk_42_method_3_code 2 = .ok (.iconst 0, 1) := by decide +kernel
theorem own_d5_3 : decode jdk_42_method_3_code 3 = .ok (.aload_n 1, 1) := by decide +kernel
theorem own_d5_4 : decode jdk_42_method_3_code 4 = .ok (.arraylength, 1) := by decide +kernel
theorem own_d5_5 : decode jdk_42_method_3_code 5 = .ok (.aconst_null, 1) := by decide +kernel
theorem own_d5_6 : decode jdk_42_method_3_code 6 = .ok (.invokespecial 27, 3) := by decide +kernel
theorem own_d5_9 : decode jdk_42_method_3_code 9 = .ok (.return_, 1) := by decide +kernel
theorem own_pd4 : parseMethodDescriptor "([CIILjava/lang/Void;)V" = some ⟨[(.array .char), .int, .int, (.object "java/lang/Void")], none⟩ := by decide +kernel
theorem own_init_ef (m : MethodId) (a1 : Addr) (a2 : Addr) : entryFrame m #[(.ref a1), (.ref a2)] 2 = mkF m 0 #[rv a1, rv a2] [] := by first | (simp [entryFrame, mkF, argsToLocals, Value.category]; done) | rfl
set_option maxRecDepth 65536 in
set_option maxHeartbeats 40000000 in
theorem own_init (l : Launch) (Z : State) (a0 : Array Value) (hw : ∀ d ∈ tables_1, d.before a0 Z = true) (ws : List Jvm.Cond) (cs : Int32) (a1 : Addr) (a2 : Addr) (k2 : ClassId) (x0 : Int32) (x1 : Int32) (x2 : Int32) (x3 : Int32) (x4 : Int32) (x5 : Int32) (x6 : Int32) (x7 : Int32) (x8 : Int32) (x9 : Int32) (x10 : Int32) (x11 : Int32) (x12 : Int32) (x13 : Int32) (x14 : Int32) (x15 : Int32) (x16 : Int32) (x17 : Int32) (x18 : Int32) (x19 : Int32) (h0 : Heap) (n0 : Nat) (Z0 : n0 ≤ h0.size) (O0 : Old Z n0 h0) (SS : Sta Z Z.heap "java/lang/String" "COMPACT_STRINGS" "Z" (.int cs)) (hcs : ¬ cs = (0 : Int32)) (E1 : Exa Z h0 a1 "java/lang/String") (F1 : Fld Z h0 a1 "java/lang/String" "value" "[B" .null) (F2 : Fld Z h0 a1 "java/lang/String" "coder" "B" (.int (0 : Int32))) (g_a1 : n0 ≤ a1) (V2 : Arv Z h0 a2 k2 .char (20 : Int32) [(.int x0), (.int x1), (.int x2), (.int x3), (.int x4), (.int x5), (.int x6), (.int x7), (.int x8), (.int x9), (.int x10), (.int x11), (.int x12), (.int x13), (.int x14), (.int x15), (.int x16), (.int x17), (.int x18), (.int x19)] (.int (0 : Int32))) (ne12 : a1 ≠ a2) (hx0 : ¬ (255 : Int32) < x0) (hx1 : ¬ (255 : Int32) < x1) (hx2 : ¬ (255 : Int32) < x2) (hx3 : ¬ (255 : Int32) < x3) (hx4 : ¬ (255 : Int32) < x4) (hx5 : ¬ (255 : Int32) < x5) (hx6 : ¬ (255 : Int32) < x6) (hx7 : ¬ (255 : Int32) < x7) (hx8 : ¬ (255 : Int32) < x8) (hx9 : ¬ (255 : Int32) < x9) (hx10 : ¬ (255 : Int32) < x10) (hx11 : ¬ (255 : Int32) < x11) (hx12 : ¬ (255 : Int32) < x12) (hx13 : ¬ (255 : Int32) < x13) (hx14 : ¬ (255 : Int32) < x14) (hx15 : ¬ (255 : Int32) < x15) (hx16 : ¬ (255 : Int32) < x16) (hx17 : ¬ (255 : Int32) < x17) (hx18 : ¬ (255 : Int32) < x18) (hx19 : ¬ (255 : Int32) < x19) :
    own_Met l Z (⟨"java/lang/String", "<init>", "([C)V"⟩ : MethodName) jdk_42_method_3_code 2 none ws ({ frames := 3, cells := 1, slots := 20, locals := 72 } : Room) #[(.ref a1), (.ref a2)] h0 (fun v h L => ∃ d k3, v = none ∧ Fr n0 L ∧ Keep h0 h [a1] ∧ h0.size ≤ d ∧ Fld Z h a1 "java/lang/String" "value" "[B" (.ref d) ∧ Fld Z h a1 "java/lang/String" "coder" "B" (.int (0 : Int32)) ∧ Arv Z h d k3 .byte (20 : Int32) [(.int (x0.toInt8.toInt32)), (.int (x1.toInt8.toInt32)), (.int (x2.toInt8.toInt32)), (.int (x3.toInt8.toInt32)), (.int (x4.toInt8.toInt32)), (.int (x5.toInt8.toInt32)), (.int (x6.toInt8.toInt32)), (.int (x7.toInt8.toInt32)), (.int (x8.toInt8.toInt32)), (.int (x9.toInt8.toInt32)), (.int (x10.toInt8.toInt32)), (.int (x11.toInt8.toInt32)), (.int (x12.toInt8.toInt32)), (.int (x13.toInt8.toInt32)), (.int (x14.toInt8.toInt32)), (.int (x15.toInt8.toInt32)), (.int (x16.toInt8.toInt32)), (.int (x17.toInt8.toInt32)), (.int (x18.toInt8.toInt32)), (.int (x19.toInt8.toInt32))] (.int (0 : Int32))) := by
  refine own_enter (plainFor_of_name own_pn1) ?_
  intro p e s m below meth c s₁ X0 hx hZ hby hml hown hnm hret hlk e0
  have N0 := Fr.nil n0
  rw [own_init_ef m a1 a2]
  have KK0 : Keep h0 h0 [a1] := Keep.refl _ _
  show own_Fin _ _ _ _ _ _ (s₁.setTop (mkF m 0 #[rv a1, rv a2] []))
  refine own_to (fun t k => XS.aloadN X0.here hx rfl (hb hby own_d5_0) rfl rfl k) ?_
  refine own_to (fun t k => XS.aloadN X0.here hx rfl (hb hby own_d5_1) rfl rfl k) ?_
  refine own_to (fun t k => XS.iconst X0.here hx rfl (hb hby own_d5_2) k) ?_
  show own_Fin _ _ _ _ _ _ (s₁.setTop (mkF m 3 #[rv a1, rv a2] [(.int (0 : Int32)), (.ref a2), (.ref a1)]))
  refine own_to (fun t k => XS.aloadN X0.here hx rfl (hb hby own_d5_3) rfl rfl k) ?_
  obtain ⟨cl97, Ar97, qa97, Sa97, Na97, Ha97, Ga97⟩ := id V2
  refine own_to (fun t k => X0.arraylength hx (by rw [e0]; exact Ar97.1) (State.isArrayOf_alike hZ.alike Ar97.2.1) (g := (mkF m 4 #[rv a1, rv a2] [(.ref a2), (.int (0 : Int32)), (.ref a2), (.ref a1)])) rfl rfl (hb hby own_d5_4) _ k) ?_
  rw [len_of Sa97 Na97]
  show own_Fin _ _ _ _ _ _ (s₁.setTop (mkF m 5 #[rv a1, rv a2] [(.int (20 : Int32)), (.int (0 : Int32)), (.ref a2), (.ref a1)]))
  refine own_to (fun t k => XS.aconstNull X0.here hx rfl (hb hby own_d5_5) k) ?_
  show own_Fin _ _ _ _ _ _ (s₁.setTop (mkF m 6 #[rv a1, rv a2] [.null, (.int (20 : Int32)), (.int (0 : Int32)), (.ref a2), (.ref a1)]))
  obtain ⟨_, _, ⟨T98, L98, k98, n98⟩, -, X98, ⟨Lc98, hQ98, l98, y98, z98⟩, st98⟩ := X0.specialBack hx (y := (⟨"java/lang/String", "<init>", "([CIILjava/lang/Void;)V"⟩ : MethodName)) rfl hown (mvT hZ (own_W hw 45 rfl)) (mvT hZ (own_W hw 46 rfl)) (mvT hZ (own_W hw 48 rfl)) (by decide) (own_back (W := 0) (own_initI l Z a0 hw [] cs a1 a2 k2 x0 x1 x2 x3 x4 x5 x6 x7 x8 x9 x10 x11 x12 x13 x14 x15 x16 x17 x18 x19 h0 n0 Z0 O0 SS hcs E1 F1 F2 g_a1 V2 ne12 hx0 hx1 hx2 hx3 hx4 hx5 hx6 hx7 hx8 hx9 hx10 hx11 hx12 hx13 hx14 hx15 hx16 hx17 hx18 hx19) hZ (own_W hw 48 rfl) (own_W hw 41 rfl) (by decide) (by decide)) (g := (mkF m 6 #[rv a1, rv a2] [.null, (.int (20 : Int32)), (.int (0 : Int32)), (.ref a2), (.ref a1)])) rfl (by rw [hml]; rfl) (Steps.refl _) (a := a1) (argsL := [(.ref a2), (.int (0 : Int32)), (.int (20 : Int32)), .null]) (rest := []) (lenOf own_pd4 rfl) rfl (by show 2 * 0 + _ ≤ _; exact Nat.le_of_eq rfl) (hb hby own_d5_6) (fun _ _ => ⟨rfl, e0, (by decide : 0 + 1 ≤ _), (by decide : 0 + 20 ≤ _)⟩)
  dsimp only [Pt.U, Pt.locs, Pt.cells, Pt.slots] at X98 l98 y98 z98 st98 hQ98
  rw [l98, y98, z98] at X98
  obtain ⟨d, k3, rfl, N98q, K98, sz_d, Fw1, Fw2, V_d⟩ := hQ98
  have N98 := Fr.app N0 N98q
  have O98 := O0.keep K98 (allS g_a1 all0)
  have KK98 : Keep h0 T98.heap [a1] := KK0.trans K98 (allS (Or.inl (List.mem_of_getElem? (i := 0) rfl)) all0)
  have E1_e98 := E1.keep K98
  have V2_e98 := V2.keep K98 (ninS (Ne.symm ne12) nin0)
  refine own_to (fun t k => st98.trans k) ?_
  show own_Fin _ _ _ _ _ _ (T98.setTop (mkF m 9 #[rv a1, rv a2] []))
  refine own_retV X98 hx hlk hret (hb hby own_d5_9) (by decide) (by decide) ?_
  exact ⟨d, k3, rfl, N98, KK98, sz_d, Fw1, Fw2, V_d⟩
theorem own_d15_0 : decode jdk_43_method_49_code 0 = .ok (.iconst 0, 1) := by decide +kernel
theorem own_d15_1 : decode jdk_43_method_49_code 1 = .ok (.istore 5, 2) := by decide +kernel
theorem own_d15_3 : decode jdk_43_method_49_code 3 = .ok (.iload 5, 2) := by decide +kernel
theorem own_d15_5 : decode jdk_43_method_49_code 5 = .ok (.iload 4, 2) := by decide +kernel
theorem own_d15_7 : decode jdk_43_method_49_code 7 = .ok (.if_icmp .ge 26, 3) := by decide +kernel
theorem own_d15_10 : decode jdk_43_method_49_code 10 = .ok (.aload_n 2, 1) := by decide +kernel
theorem own_d15_11 : decode jdk_43_method_49_code 11 = .ok (.iload_n 3, 1) := by decide +kernel
theorem own_d15_12 : decode jdk_43_method_49_code 12 = .ok (.iinc 3 1, 3) := by decide +kernel
theorem own_d15_15 : decode jdk_43_method_49_code 15 = .ok (.aload_n 0, 1) := by decide +kernel
theorem own_d15_16 : decode jdk_43_method_49_code 16 = .ok (.iload_n 1, 1) := by decide +kernel
theorem own_d15_17 : decode jdk_43_method_49_code 17 = .ok (.iinc 1 1, 3) := by decide +kernel
theorem own_d15_20 : decode jdk_43_method_49_code 20 = .ok (.baload, 1) := by decide +kernel
theorem own_d15_21 : decode jdk_43_method_49_code 21 = .ok (.sipush 255, 3) := by decide +kernel
theorem own_d15_24 : decode jdk_43_method_49_code 24 = .ok (.iand, 1) := by decide +kernel
theorem own_d15_25 : decode jdk_43_method_49_code 25 = .ok (.i2c, 1) := by decide +kernel
theorem own_d15_26 : decode jdk_43_method_49_code 26 = .ok (.castore, 1) := by decide +kernel
theorem own_d15_27 : decode jdk_43_method_49_code 27 = .ok (.iinc 5 1, 3) := by decide +kernel
theorem own_d15_30 : decode jdk_43_method_49_code 30 = .ok (.goto (-27), 3) := by decide +kernel
theorem own_d15_33 : decode jdk_43_method_49_code 33 = .ok (.return_, 1) := by decide +kernel
theorem own_pn2 : plainName "java/lang/StringLatin1" = true := by first | (simp [plainName, overriddenIn]; done) | decide +kernel
theorem own_infl_ef (m : MethodId) (a2 : Addr) (a3 : Addr) : entryFrame m #[(.ref a2), (.int (0 : Int32)), (.ref a3), (.int (0 : Int32)), (.int (20 : Int32))] 6 = mkF m 0 #[rv a2, own_i 0, rv a3, own_i 0, own_i 20, .unset] [] := by first | (simp [entryFrame, mkF, argsToLocals, Value.category]; done) | rfl
set_option maxRecDepth 65536 in
set_option maxHeartbeats 40000000 in
theorem own_infl (l : Launch) (Z : State) (a0 : Array Value) (hw : ∀ d ∈ tables_1, d.before a0 Z = true) (ws : List Jvm.Cond) (a2 : Addr) (a3 : Addr) (k3 : ClassId) (k2 : ClassId) (x0 : Int32) (x1 : Int32) (x2 : Int32) (x3 : Int32) (x4 : Int32) (x5 : Int32) (x6 : Int32) (x7 : Int32) (x8 : Int32) (x9 : Int32) (x10 : Int32) (x11 : Int32) (x12 : Int32) (x13 : Int32) (x14 : Int32) (x15 : Int32) (x16 : Int32) (x17 : Int32) (x18 : Int32) (x19 : Int32) (h0 : Heap) (n0 : Nat) (Z0 : n0 ≤ h0.size) (V2 : Arv Z h0 a2 k3 .byte (20 : Int32) [(.int (x0.toInt8.toInt32)), (.int (x1.toInt8.toInt32)), (.int (x2.toInt8.toInt32)), (.int (x3.toInt8.toInt32)), (.int (x4.toInt8.toInt32)), (.int (x5.toInt8.toInt32)), (.int (x6.toInt8.toInt32)), (.int (x7.toInt8.toInt32)), (.int (x8.toInt8.toInt32)), (.int (x9.toInt8.toInt32)), (.int (x10.toInt8.toInt32)), (.int (x11.toInt8.toInt32)), (.int (x12.toInt8.toInt32)), (.int (x13.toInt8.toInt32)), (.int (x14.toInt8.toInt32)), (.int (x15.toInt8.toInt32)), (.int (x16.toInt8.toInt32)), (.int (x17.toInt8.toInt32)), (.int (x18.toInt8.toInt32)), (.int (x19.toInt8.toInt32))] (.int (0 : Int32))) (V3 : Arv Z h0 a3 k2 .char (20 : Int32) [(.int (0 : Int32)), (.int (0 : Int32)), (.int (0 : Int32)), (.int (0 : Int32)), (.int (0 : Int32)), (.int (0 : Int32)), (.int (0 : Int32)), (.int (0 : Int32)), (.int (0 : Int32)), (.int (0 : Int32)), (.int (0 : Int32)), (.int (0 : Int32)), (.int (0 : Int32)), (.int (0 : Int32)), (.int (0 : Int32)), (.int (0 : Int32)), (.int (0 : Int32)), (.int (0 : Int32)), (.int (0 : Int32)), (.int (0 : Int32))] (.int (0 : Int32))) (g_a3 : n0 ≤ a3) (ne23 : a2 ≠ a3) (hx0 : ¬ (255 : Int32) < x0) (hx1 : ¬ (255 : Int32) < x1) (hx2 : ¬ (255 : Int32) < x2) (hx3 : ¬ (255 : Int32) < x3) (hx4 : ¬ (255 : Int32) < x4) (hx5 : ¬ (255 : Int32) < x5) (hx6 : ¬ (255 : Int32) < x6) (hx7 : ¬ (255 : Int32) < x7) (hx8 : ¬ (255 : Int32) < x8) (hx9 : ¬ (255 : Int32) < x9) (hx10 : ¬ (255 : Int32) < x10) (hx11 : ¬ (255 : Int32) < x11) (hx12 : ¬ (255 : Int32) < x12) (hx13 : ¬ (255 : Int32) < x13) (hx14 : ¬ (255 : Int32) < x14) (hx15 : ¬ (255 : Int32) < x15) (hx16 : ¬ (255 : Int32) < x16) (hx17 : ¬ (255 : Int32) < x17) (hx18 : ¬ (255 : Int32) < x18) (hx19 : ¬ (255 : Int32) < x19) (hl0 : ¬ x0 < 0) (hl1 : ¬ x1 < 0) (hl2 : ¬ x2 < 0) (hl3 : ¬ x3 < 0) (hl4 : ¬ x4 < 0) (hl5 : ¬ x5 < 0) (hl6 : ¬ x6 < 0) (hl7 : ¬ x7 < 0) (hl8 : ¬ x8 < 0) (hl9 : ¬ x9 < 0) (hl10 : ¬ x10 < 0) (hl11 : ¬ x11 < 0) (hl12 : ¬ x12 < 0) (hl13 : ¬ x13 < 0) (hl14 : ¬ x14 < 0) (hl15 : ¬ x15 < 0) (hl16 : ¬ x16 < 0) (hl17 : ¬ x17 < 0) (hl18 : ¬ x18 < 0) (hl19 : ¬ x19 < 0) :
    own_Met l Z (⟨"java/lang/StringLatin1", "inflate", "([BI[CII)V"⟩ : MethodName) jdk_43_method_49_code 6 none ws ({ frames := 0, cells := 0, slots := 0, locals := 0 } : Room) #[(.ref a2), (.int (0 : Int32)), (.ref a3), (.int (0 : Int32)), (.int (20 : Int32))] h0 (fun v h L => v = none ∧ Fr n0 L ∧ Keep h0 h [a3] ∧ Arv Z h a3 k2 .char (20 : Int32) [(.int x0), (.int x1), (.int x2), (.int x3), (.int x4), (.int x5), (.int x6), (.int x7), (.int x8), (.int x9), (.int x10), (.int x11), (.int x12), (.int x13), (.int x14), (.int x15), (.int x16), (.int x17), (.int x18), (.int x19)] (.int (0 : Int32))) := by
  refine own_enter (plainFor_of_name own_pn2) ?_
  intro p e s m below meth c s₁ X0 hx hZ hby hml hown hnm hret hlk e0
  have N0 := Fr.nil n0
  rw [own_infl_ef m a2 a3]
  have KK0 : Keep h0 h0 [a3] := Keep.refl _ _
  show own_Fin _ _ _ _ _ _ (s₁.setTop (mkF m 0 #[rv a2, own_i 0, rv a3, own_i 0, own_i 20, .unset] []))
  refine own_to (fun t k => XS.iconst X0.here hx rfl (hb hby own_d15_0) k) ?_
  refine own_to (fun t k => XS.istore X0.here hx rfl (hb hby own_d15_1) rfl (l' := #[rv a2, own_i 0, rv a3, own_i 0, own_i 20, own_i 0]) rfl k) ?_
  show own_Fin _ _ _ _ _ _ (s₁.setTop (mkF m 3 #[rv a2, own_i 0, rv a3, own_i 0, own_i 20, own_i 0] []))
  refine own_to (fun t k => XS.iload X0.here hx rfl (hb hby own_d15_3) rfl k) ?_
  refine own_to (fun t k => XS.iload X0.here hx rfl (hb hby own_d15_5) rfl k) ?_
  refine own_to (fun t k => XS.icmpNo X0.here hx rfl (hb hby own_d15_7) rfl (tlt (by decide)).2.1 k) ?_
  show own_Fin _ _ _ _ _ _ (s₁.setTop (mkF m 10 #[rv a2, own_i 0, rv a3, own_i 0, own_i 20, own_i 0] []))
  refine own_to (fun t k => XS.aloadN X0.here hx rfl (hb hby own_d15_10) rfl rfl k) ?_
  show own_Fin _ _ _ _ _ _ (s₁.setTop (mkF m 11 #[rv a2, own_i 0, rv a3, own_i 0, own_i 20, own_i 0] [(.ref a3)]))
  refine own_to (fun t k => XS.iloadN X0.here hx rfl (hb hby own_d15_11) rfl k) ?_
  refine own_to (fun t k => XS.iinc X0.here hx rfl (hb hby own_d15_12) rfl (l' := #[rv a2, own_i 0, rv a3, own_i 1, own_i 20, own_i 0]) rfl k) ?_
  show own_Fin _ _ _ _ _ _ (s₁.setTop (mkF m 15 #[rv a2, own_i 0, rv a3, own_i 1, own_i 20, own_i 0] [(.int (0 : Int32)), (.ref a3)]))
  refine own_to (fun t k => XS.aloadN X0.here hx rfl (hb hby own_d15_15) rfl rfl k) ?_
  refine own_to (fun t k => XS.iloadN X0.here hx rfl (hb hby own_d15_16) rfl k) ?_
  refine own_to (fun t k => XS.iinc X0.here hx rfl (hb hby own_d15_17) rfl (l' := #[rv a2, own_i 1, rv a3, own_i 1, own_i 20, own_i 0]) rfl k) ?_
  show own_Fin _ _ _ _ _ _ (s₁.setTop (mkF m 20 #[rv a2, own_i 1, rv a3, own_i 1, own_i 20, own_i 0] [(.int (0 : Int32)), (.ref a2), (.int (0 : Int32)), (.ref a3)]))
  obtain ⟨cl99, Ar99, qa99, Sa99, Na99, Ha99, Ga99⟩ := id V2
  have hin100 : ¬ ((0 : Int32) < 0 ∨ cl99.slots.size ≤ ((0 : Int32)).toNatClampNeg) := inb_of Sa99 ⟨by decide, by decide⟩
  refine own_to (fun t k => X0.baloadBytes hx (j := (0 : Int32)) (v := (.int (x0.toInt8.toInt32))) (by rw [e0]; exact Ar99.1) (State.isArrayOf_alike hZ.alike Ar99.2.1) Ar99.2.2 hin100 (Has.at Ha99 hin100 rfl) (g := (mkF m 20 #[rv a2, own_i 1, rv a3, own_i 1, own_i 20, own_i 0] [(.int (0 : Int32)), (.ref a2), (.int (0 : Int32)), (.ref a3)])) rfl rfl (hb hby own_d15_20) _ k) ?_
  show own_Fin _ _ _ _ _ _ (s₁.setTop (mkF m 21 #[rv a2, own_i 1, rv a3, own_i 1, own_i 20, own_i 0] [(.int (x0.toInt8.toInt32)), (.int (0 : Int32)), (.ref a3)]))
  refine own_to (fun t k => XS.sipush X0.here hx rfl (hb hby own_d15_21) k) ?_
  refine own_to (fun t k => XS.iand X0.here hx rfl (hb hby own_d15_24) rfl k) ?_
  show own_Fin _ _ _ _ _ _ (s₁.setTop (mkF m 25 #[rv a2, own_i 1, rv a3, own_i 1, own_i 20, own_i 0] [(.int ((x0.toInt8.toInt32) &&& (255 : Int32))), (.int (0 : Int32)), (.ref a3)]))
  refine own_to (fun t k => XS.i2c X0.here hx rfl (hb hby own_d15_25) rfl k) ?_
  show own_Fin _ _ _ _ _ _ (s₁.setTop (mkF m 26 #[rv a2, own_i 1, rv a3, own_i 1, own_i 20, own_i 0] [(.int (((x0.toInt8.toInt32) &&& (255 : Int32)).toUInt32.toUInt16.toUInt32.toInt32)), (.int (0 : Int32)), (.ref a3)]))
  obtain ⟨cl101, Ar101, qa101, Sa101, Na101, Ha101, Ga101⟩ := id V3
  have hin102 : ¬ ((0 : Int32) < 0 ∨ cl101.slots.size ≤ ((0 : Int32)).toNatClampNeg) := inb_of Sa101 ⟨by decide, by decide⟩
  obtain ⟨T102, h102, X102, e102, W102, st102⟩ := stC X0 hx hZ e0 Ar101 (j := (0 : Int32)) hin102 (g := (mkF m 26 #[rv a2, own_i 1, rv a3, own_i 1, own_i 20, own_i 0] [(.int (((x0.toInt8.toInt32) &&& (255 : Int32)).toUInt32.toUInt16.toUInt32.toInt32)), (.int (0 : Int32)), (.ref a3)])) rfl rfl (hb hby own_d15_26)
  rw [own_inf hl0 hx0] at W102
  have N102 := Fr.snoc X102 N0 g_a3
  have KK102 : Keep h0 h102 [a3] := KK0.wr W102 (Or.inl (List.mem_of_getElem? (i := 0) rfl))
  have V2_e102 := V2.other W102 ne23
  have V102 : Arv Z h102 a3 k2 .char (20 : Int32) [(.int x0), (.int (0 : Int32)), (.int (0 : Int32)), (.int (0 : Int32)), (.int (0 : Int32)), (.int (0 : Int32)), (.int (0 : Int32)), (.int (0 : Int32)), (.int (0 : Int32)), (.int (0 : Int32)), (.int (0 : Int32)), (.int (0 : Int32)), (.int (0 : Int32)), (.int (0 : Int32)), (.int (0 : Int32)), (.int (0 : Int32)), (.int (0 : Int32)), (.int (0 : Int32)), (.int (0 : Int32)), (.int (0 : Int32))] (.int (0 : Int32)) := Arv.set Ar101 qa101 Sa101 Na101 Ha101 Ga101 (own_fx hl0 hx0) W102 0 rfl (Nat.le_of_ble_eq_true rfl)
  refine own_to (fun t k => st102 t k) ?_
  show own_Fin _ _ _ _ _ _ (T102.setTop (mkF m 27 #[rv a2, own_i 1, rv a3, own_i 1, own_i 20, own_i 0] []))
  refine own_to (fun t k => XS.iinc X102.here hx rfl (hb hby own_d15_27) rfl (l' := #[rv a2, own_i 1, rv a3, own_i 1, own_i 20, own_i 1]) rfl k) ?_
  show own_Fin _ _ _ _ _ _ (T102.setTop (mkF m 30 #[rv a2, own_i 1, rv a3, own_i 1, own_i 20, own_i 1] []))
  refine own_to (fun t k => XS.goto X102.here hx rfl (pc0 := 30) (pc' := 3) rfl (hb hby own_d15_30) (by decide) (by decide) k) ?_
  show own_Fin _ _ _ _ _ _ (T102.setTop (mkF m 3 #[rv a2, own_i 1, rv a3, own_i 1, own_i 20, own_i 1] []))
  refine own_to (fun t k => XS.iload X102.here hx rfl (hb hby own_d15_3) rfl k) ?_
  refine own_to (fun t k => XS.iload X102.here hx rfl (hb hby own_d15_5) rfl k) ?_
  refine own_to (fun t k => XS.icmpNo X102.here hx rfl (hb hby own_d15_7) rfl (tlt (by decide)).2.1 k) ?_
  show own_Fin _ _ _ _ _ _ (T102.setTop (mkF m 10 #[rv a2, own_i 1, rv a3, own_i 1, own_i 20, own_i 1] []))
  refine own_to (fun t k => XS.aloadN X102.here hx rfl (hb hby own_d15_10) rfl rfl k) ?_
  show own_Fin _ _ _ _ _ _ (T102.setTop (mkF m 11 #[rv a2, own_i 1, rv a3, own_i 1, own_i 20, own_i 1] [(.ref a3)]))
  refine own_to (fun t k => XS.iloadN X102.here hx rfl (hb hby own_d15_11) rfl k) ?_
  refine own_to (fun t k => XS.iinc X102.here hx rfl (hb hby own_d15_12) rfl (l' := #[rv a2, own_i 1, rv a3, own_i 2, own_i 20, own_i 1]) rfl k) ?_
  show own_Fin _ _ _ _ _ _ (T102.setTop (mkF m 15 #[rv a2, own_i 1, rv a3, own_i 2, own_i 20, own_i 1] [(.int (1 : Int32)), (.ref a3)]))
  refine own_to (fun t k => XS.aloadN X102.here hx rfl (hb hby own_d15_15) rfl rfl k) ?_
  refine own_to (fun t k => XS.iloadN X102.here hx rfl (hb hby own_d15_16) rfl k) ?_
  refine own_to (fun t k => XS.iinc X102.here hx rfl (hb hby own_d15_17) rfl (l' := #[rv a2, own_i 2, rv a3, own_i 2, own_i 20, own_i 1]) rfl k) ?_
  show own_Fin _ _ _ _ _ _ (T102.setTop (mkF m 20 #[rv a2, own_i 2, rv a3, own_i 2, own_i 20, own_i 1] [(.int (1 : Int32)), (.ref a2), (.int (1 : Int32)), (.ref a3)]))
  obtain ⟨cl103, Ar103, qa103, Sa103, Na103, Ha103, Ga103⟩ := id V2_e102
  have hin104 : ¬ ((1 : Int32) < 0 ∨ cl103.slots.size ≤ ((1 : Int32)).toNatClampNeg) := inb_of Sa103 ⟨by decide, by decide⟩
  refine own_to (fun t k => X102.baloadBytes hx (j := (1 : Int32)) (v := (.int (x1.toInt8.toInt32))) (by rw [e102]; exact Ar103.1) (State.isArrayOf_alike hZ.alike Ar103.2.1) Ar103.2.2 hin104 (Has.at Ha103 hin104 rfl) (g := (mkF m 20 #[rv a2, own_i 2, rv a3, own_i 2, own_i 20, own_i 1] [(.int (1 : Int32)), (.ref a2), (.int (1 : Int32)), (.ref a3)])) rfl rfl (hb hby own_d15_20) _ k) ?_
  show own_Fin _ _ _ _ _ _ (T102.setTop (mkF m 21 #[rv a2, own_i 2, rv a3, own_i 2, own_i 20, own_i 1] [(.int (x1.toInt8.toInt32)), (.int (1 : Int32)), (.ref a3)]))
  refine own_to (fun t k => XS.sipush X102.here hx rfl (hb hby own_d15_21) k) ?_
  refine own_to (fun t k => XS.iand X102.here hx rfl (hb hby own_d15_24) rfl k) ?_
  show own_Fin _ _ _ _ _ _ (T102.setTop (mkF m 25 #[rv a2, own_i 2, rv a3, own_i 2, own_i 20, own_i 1] [(.int ((x1.toInt8.toInt32) &&& (255 : Int32))), (.int (1 : Int32)), (.ref a3)]))
  refine own_to (fun t k => XS.i2c X102.here hx rfl (hb hby own_d15_25) rfl k) ?_
  show own_Fin _ _ _ _ _ _ (T102.setTop (mkF m 26 #[rv a2, own_i 2, rv a3, own_i 2, own_i 20, own_i 1] [(.int (((x1.toInt8.toInt32) &&& (255 : Int32)).toUInt32.toUInt16.toUInt32.toInt32)), (.int (1 : Int32)), (.ref a3)]))
  obtain ⟨cl105, Ar105, qa105, Sa105, Na105, Ha105, Ga105⟩ := id V102
  have hin106 : ¬ ((1 : Int32) < 0 ∨ cl105.slots.size ≤ ((1 : Int32)).toNatClampNeg) := inb_of Sa105 ⟨by decide, by decide⟩
  obtain ⟨T106, h106, X106, e106, W106, st106⟩ := stC X102 hx hZ e102 Ar105 (j := (1 : Int32)) hin106 (g := (mkF m 26 #[rv a2, own_i 2, rv a3, own_i 2, own_i 20, own_i 1] [(.int (((x1.toInt8.toInt32) &&& (255 : Int32)).toUInt32.toUInt16.toUInt32.toInt32)), (.int (1 : Int32)), (.ref a3)])) rfl rfl (hb hby own_d15_26)
  rw [own_inf hl1 hx1] at W106
  have N106 := Fr.snoc X106 N102 g_a3
  have KK106 : Keep h0 h106 [a3] := KK102.wr W106 (Or.inl (List.mem_of_getElem? (i := 0) rfl))
  have V2_e106 := V2_e102.other W106 ne23
  have V106 : Arv Z h106 a3 k2 .char (20 : Int32) [(.int x0), (.int x1), (.int (0 : Int32)), (.int (0 : Int32)), (.int (0 : Int32)), (.int (0 : Int32)), (.int (0 : Int32)), (.int (0 : Int32)), (.int (0 : Int32)), (.int (0 : Int32)), (.int (0 : Int32)), (.int (0 : Int32)), (.int (0 : Int32)), (.int (0 : Int32)), (.int (0 : Int32)), (.int (0 : Int32)), (.int (0 : Int32)), (.int (0 : Int32)), (.int (0 : Int32)), (.int (0 : Int32))] (.int (0 : Int32)) := Arv.set Ar105 qa105 Sa105 Na105 Ha105 Ga105 (own_fx hl1 hx1) W106 1 rfl (Nat.le_of_ble_eq_true rfl)
  refine own_to (fun t k => st106 t k) ?_
  show own_Fin _ _ _ _ _ _ (T106.setTop (mkF m 27 #[rv a2, own_i 2, rv a3, own_i 2, own_i 20, own_i 1] []))
  refine own_to (fun t k => XS.iinc X106.here hx rfl (hb hby own_d15_27) rfl (l' := #[rv a2, own_i 2, rv a3, own_i 2, own_i 20, own_i 2]) rfl k) ?_
  show own_Fin _ _ _ _ _ _ (T106.setTop (mkF m 30 #[rv a2, own_i 2, rv a3, own_i 2, own_i 20, own_i 2] []))
  refine own_to (fun t k => XS.goto X106.here hx rfl (pc0 := 30) (pc' := 3) rfl (hb hby own_d15_30) (by decide) (by decide) k) ?_
  show own_Fin _ _ _ _ _ _ (T106.setTop (mkF m 3 #[rv a2, own_i 2, rv a3, own_i 2, own_i 20, own_i 2] []))
  refine own_to (fun t k => XS.iload X106.here hx rfl (hb hby own_d15_3) rfl k) ?_
  refine own_to (fun t k => XS.iload X106.here hx rfl (hb hby own_d15_5) rfl k) ?_
  refine own_to (fun t k => XS.icmpNo X106.here hx rfl (hb hby own_d15_7) rfl (tlt (by decide)).2.1 k) ?_
  show own_Fin _ _ _ _ _ _ (T106.setTop (mkF m 10 #[rv a2, own_i 2, rv a3, own_i 2, own_i 20, own_i 2] []))
  refine own_to (fun t k => XS.aloadN X106.here hx rfl (hb hby own_d15_10) rfl rfl k) ?_
  show own_Fin _ _ _ _ _ _ (T106.setTop (mkF m 11 #[rv a2, own_i 2, rv a3, own_i 2, own_i 20, own_i 2] [(.ref a3)]))
  refine own_to (fun t k => XS.iloadN X106.here hx rfl (hb hby own_d15_11) rfl k) ?_
  refine own_to (fun t k => XS.iinc X106.here hx rfl (hb hby own_d15_12) rfl (l' := #[rv a2, own_i 2, rv a3, own_i 3, own_i 20, own_i 2]) rfl k) ?_
  show own_Fin _ _ _ _ _ _ (T106.setTop (mkF m 15 #[rv a2, own_i 2, rv a3, own_i 3, own_i 20, own_i 2] [(.int (2 : Int32)), (.ref a3)]))
  refine own_to (fun t k => XS.aloadN X106.here hx rfl (hb hby own_d15_15) rfl rfl k) ?_
  refine own_to (fun t k => XS.iloadN X106.here hx rfl (hb hby own_d15_16) rfl k) ?_
  refine own_to (fun t k => XS.iinc X106.here hx rfl (hb hby own_d15_17) rfl (l' := #[rv a2, own_i 3, rv a3, own_i 3, own_i 20, own_i 2]) rfl k) ?_
  show own_Fin _ _ _ _ _ _ (T106.setTop (mkF m 20 #[rv a2, own_i 3, rv a3, own_i 3, own_i 20, own_i 2] [(.int (2 : Int32)), (.ref a2), (.int (2 : Int32)), (.ref a3)]))
  obtain ⟨cl107, Ar107, qa107, Sa107, Na107, Ha107, Ga107⟩ := id V2_e106
  have hin108 : ¬ ((2 : Int32) < 0 ∨ cl107.slots.size ≤ ((2 : Int32)).toNatClampNeg) := inb_of Sa107 ⟨by decide, by decide⟩
  refine own_to (fun t k => X106.baloadBytes hx (j := (2 : Int32)) (v := (.int (x2.toInt8.toInt32))) (by rw [e106]; exact Ar107.1) (State.isArrayOf_alike hZ.alike Ar107.2.1) Ar107.2.2 hin108 (Has.at Ha107 hin108 rfl) (g := (mkF m 20 #[rv a2, own_i 3, rv a3, own_i 3, own_i 20, own_i 2] [(.int (2 : Int32)), (.ref a2), (.int (2 : Int32)), (.ref a3)])) rfl rfl (hb hby own_d15_20) _ k) ?_
  show own_Fin _ _ _ _ _ _ (T106.setTop (mkF m 21 #[rv a2, own_i 3, rv a3, own_i 3, own_i 20, own_i 2] [(.int (x2.toInt8.toInt32)), (.int (2 : Int32)), (.ref a3)]))
  refine own_to (fun t k => XS.sipush X106.here hx rfl (hb hby own_d15_21) k) ?_
  refine own_to (fun t k => XS.iand X106.here hx rfl (hb hby own_d15_24) rfl k) ?_
  show own_Fin _ _ _ _ _ _ (T106.setTop (mkF m 25 #[rv a2, own_i 3, rv a3, own_i 3, own_i 20, own_i 2] [(.int ((x2.toInt8.toInt32) &&& (255 : Int32))), (.int (2 : Int32)), (.ref a3)]))
  refine own_to (fun t k => XS.i2c X106.here hx rfl (hb hby own_d15_25) rfl k) ?_
  show own_Fin _ _ _ _ _ _ (T106.setTop (mkF m 26 #[rv a2, own_i 3, rv a3, own_i 3, own_i 20, own_i 2] [(.int (((x2.toInt8.toInt32) &&& (255 : Int32)).toUInt32.toUInt16.toUInt32.toInt32)), (.int (2 : Int32)), (.ref a3)]))
  obtain ⟨cl109, Ar109, qa109, Sa109, Na109, Ha109, Ga109⟩ := id V106
  have hin110 : ¬ ((2 : Int32) < 0 ∨ cl109.slots.size ≤ ((2 : Int32)).toNatClampNeg) := inb_of Sa109 ⟨by decide, by decide⟩
  obtain ⟨T110, h110, X110, e110, W110, st110⟩ := stC X106 hx hZ e106 Ar109 (j := (2 : Int32)) hin110 (g := (mkF m 26 #[rv a2, own_i 3, rv a3, own_i 3, own_i 20, own_i 2] [(.int (((x2.toInt8.toInt32) &&& (255 : Int32)).toUInt32.toUInt16.toUInt32.toInt32)), (.int (2 : Int32)), (.ref a3)])) rfl rfl (hb hby own_d15_26)
  rw [own_inf hl2 hx2] at W110
  have N110 := Fr.snoc X110 N106 g_a3
  have KK110 : Keep h0 h110 [a3] := KK106.wr W110 (Or.inl (List.mem_of_getElem? (i := 0) rfl))
  have V2_e110 := V2_e106.other W110 ne23
  have V110 : Arv Z h110 a3 k2 .char (20 : Int32) [(.int x0), (.int x1), (.int x2), (.int (0 : Int32)), (.int (0 : Int32)), (.int (0 : Int32)), (.int (0 : Int32)), (.int (0 : Int32)), (.int (0 : Int32)), (.int (0 : Int32)), (.int (0 : Int32)), (.int (0 : Int32)), (.int (0 : Int32)), (.int (0 : Int32)), (.int (0 : Int32)), (.int (0 : Int32)), (.int (0 : Int32)), (.int (0 : Int32)), (.int (0 : Int32)), (.int (0 : Int32))] (.int (0 : Int32)) := Arv.set Ar109 qa109 Sa109 Na109 Ha109 Ga109 (own_fx hl2 hx2) W110 2 rfl (Nat.le_of_ble_eq_true rfl)
  refine own_to (fun t k => st110 t k) ?_
  show own_Fin _ _ _ _ _ _ (T110.setTop (mkF m 27 #[rv a2, own_i 3, rv a3, own_i 3, own_i 20, own_i 2] []))
  refine own_to (fun t k => XS.iinc X110.here hx rfl (hb hby own_d15_27) rfl (l' := #[rv a2, own_i 3, rv a3, own_i 3, own_i 20, own_i 3]) rfl k) ?_
  show own_Fin _ _ _ _ _ _ (T110.setTop (mkF m 30 #[rv a2, own_i 3, rv a3, own_i 3, own_i 20, own_i 3] []))
  refine own_to (fun t k => XS.goto X110.here hx rfl (pc0 := 30) (pc' := 3) rfl (hb hby own_d15_30) (by decide) (by decide) k) ?_
  show own_Fin _ _ _ _ _ _ (T110.setTop (mkF m 3 #[rv a2, own_i 3, rv a3, own_i 3, own_i 20, own_i 3] []))
  refine own_to (fun t k => XS.iload X110.here hx rfl (hb hby own_d15_3) rfl k) ?_
  refine own_to (fun t k => XS.iload X110.here hx rfl (hb hby own_d15_5) rfl k) ?_
  refine own_to (fun t k => XS.icmpNo X110.here hx rfl (hb hby own_d15_7) rfl (tlt (by decide)).2.1 k) ?_
  show own_Fin _ _ _ _ _ _ (T110.setTop (mkF m 10 #[rv a2, own_i 3, rv a3, own_i 3, own_i 20, own_i 3] []))
  refine own_to (fun t k => XS.aloadN X110.here hx rfl (hb hby own_d15_10) rfl rfl k) ?_
  show own_Fin _ _ _ _ _ _ (T110.setTop (mkF m 11 #[rv a2, own_i 3, rv a3, own_i 3, own_i 20, own_i 3] [(.ref a3)]))
  refine own_to (fun t k => XS.iloadN X110.here hx rfl (hb hby own_d15_11) rfl k) ?_
  refine own_to (fun t k => XS.iinc X110.here hx rfl (hb hby own_d15_12) rfl (l' := #[rv a2, own_i 3, rv a3, own_i 4, own_i 20, own_i 3]) rfl k) ?_
  show own_Fin _ _ _ _ _ _ (T110.setTop (mkF m 15 #[rv a2, own_i 3, rv a3, own_i 4, own_i 20, own_i 3] [(.int (3 : Int32)), (.ref a3)]))
  refine own_to (fun t k => XS.aloadN X110.here hx rfl (hb hby own_d15_15) rfl rfl k) ?_
  refine own_to (fun t k => XS.iloadN X110.here hx rfl (hb hby own_d15_16) rfl k) ?_
  refine own_to (fun t k => XS.iinc X110.here hx rfl (hb hby own_d15_17) rfl (l' := #[rv a2, own_i 4, rv a3, own_i 4, own_i 20, own_i 3]) rfl k) ?_
  show own_Fin _ _ _ _ _ _ (T110.setTop (mkF m 20 #[rv a2, own_i 4, rv a3, own_i 4, own_i 20, own_i 3] [(.int (3 : Int32)), (.ref a2), (.int (3 : Int32)), (.ref a3)]))
  obtain ⟨cl111, Ar111, qa111, Sa111, Na111, Ha111, Ga111⟩ := id V2_e110
  have hin112 : ¬ ((3 : Int32) < 0 ∨ cl111.slots.size ≤ ((3 : Int32)).toNatClampNeg) := inb_of Sa111 ⟨by decide, by decide⟩
  refine own_to (fun t k => X110.baloadBytes hx (j := (3 : Int32)) (v := (.int (x3.toInt8.toInt32))) (by rw [e110]; exact Ar111.1) (State.isArrayOf_alike hZ.alike Ar111.2.1) Ar111.2.2 hin112 (Has.at Ha111 hin112 rfl) (g := (mkF m 20 #[rv a2, own_i 4, rv a3, own_i 4, own_i 20, own_i 3] [(.int (3 : Int32)), (.ref a2), (.int (3 : Int32)), (.ref a3)])) rfl rfl (hb hby own_d15_20) _ k) ?_
  show own_Fin _ _ _ _ _ _ (T110.setTop (mkF m 21 #[rv a2, own_i 4, rv a3, own_i 4, own_i 20, own_i 3] [(.int (x3.toInt8.toInt32)), (.int (3 : Int32)), (.ref a3)]))
  refine own_to (fun t k => XS.sipush X110.here hx rfl (hb hby own_d15_21) k) ?_
  refine own_to (fun t k => XS.iand X110.here hx rfl (hb hby own_d15_24) rfl k) ?_
  show own_Fin _ _ _ _ _ _ (T110.setTop (mkF m 25 #[rv a2, own_i 4, rv a3, own_i 4, own_i 20, own_i 3] [(.int ((x3.toInt8.toInt32) &&& (255 : Int32))), (.int (3 : Int32)), (.ref a3)]))
  refine own_to (fun t k => XS.i2c X110.here hx rfl (hb hby own_d15_25) rfl k) ?_
  show own_Fin _ _ _ _ _ _ (T110.setTop (mkF m 26 #[rv a2, own_i 4, rv a3, own_i 4, own_i 20, own_i 3] [(.int (((x3.toInt8.toInt32) &&& (255 : Int32)).toUInt32.toUInt16.toUInt32.toInt32)), (.int (3 : Int32)), (.ref a3)]))
  obtain ⟨cl113, Ar113, qa113, Sa113, Na113, Ha113, Ga113⟩ := id V110
  have hin114 : ¬ ((3 : Int32) < 0 ∨ cl113.slots.size ≤ ((3 : Int32)).toNatClampNeg) := inb_of Sa113 ⟨by decide, by decide⟩
  obtain ⟨T114, h114, X114, e114, W114, st114⟩ := stC X110 hx hZ e110 Ar113 (j := (3 : Int32)) hin114 (g := (mkF m 26 #[rv a2, own_i 4, rv a3, own_i 4, own_i 20, own_i 3] [(.int (((x3.toInt8.toInt32) &&& (255 : Int32)).toUInt32.toUInt16.toUInt32.toInt32)), (.int (3 : Int32)), (.ref a3)])) rfl rfl (hb hby own_d15_26)
  rw [own_inf hl3 hx3] at W114
  have N114 := Fr.snoc X114 N110 g_a3
  have KK114 : Keep h0 h114 [a3] := KK110.wr W114 (Or.inl (List.mem_of_getElem? (i := 0) rfl))
  have V2_e114 := V2_e110.other W114 ne23
  have V114 : Arv Z h114 a3 k2 .char (20 : Int32) [(.int x0), (.int x1), (.int x2), (.int x3), (.int (0 : Int32)), (.int (0 : Int32)), (.int (0 : Int32)), (.int (0 : Int32)), (.int (0 : Int32)), (.int (0 : Int32)), (.int (0 : Int32)), (.int (0 : Int32)), (.int (0 : Int32)), (.int (0 : Int32)), (.int (0 : Int32)), (.int (0 : Int32)), (.int (0 : Int32)), (.int (0 : Int32)), (.int (0 : Int32)), (.int (0 : Int32))] (.int (0 : Int32)) := Arv.set Ar113 qa113 Sa113 Na113 Ha113 Ga113 (own_fx hl3 hx3) W114 3 rfl (Nat.le_of_ble_eq_true rfl)
  have zs115 := (Nat.le_trans (Nat.le_trans (Nat.le_trans Z0 (Keep.of_wr W102).1) (Keep.of_wr W106).1) (Keep.of_wr W110).1)
  refine own_to (fun t k => st114 t k) ?_
  show own_Fin _ _ _ _ _ _ (T114.setTop (mkF m 27 #[rv a2, own_i 4, rv a3, own_i 4, own_i 20, own_i 3] []))
  refine own_to (fun t k => XS.iinc X114.here hx rfl (hb hby own_d15_27) rfl (l' := #[rv a2, own_i 4, rv a3, own_i 4, own_i 20, own_i 4]) rfl k) ?_
  show own_Fin _ _ _ _ _ _ (T114.setTop (mkF m 30 #[rv a2, own_i 4, rv a3, own_i 4, own_i 20, own_i 4] []))
  refine own_to (fun t k => XS.goto X114.here hx rfl (pc0 := 30) (pc' := 3) rfl (hb hby own_d15_30) (by decide) (by decide) k) ?_
  show own_Fin _ _ _ _ _ _ (T114.setTop (mkF m 3 #[rv a2, own_i 4, rv a3, own_i 4, own_i 20, own_i 4] []))
  refine own_to (fun t k => XS.iload X114.here hx rfl (hb hby own_d15_3) rfl k) ?_
  refine own_to (fun t k => XS.iload X114.here hx rfl (hb hby own_d15_5) rfl k) ?_
  refine own_to (fun t k => XS.icmpNo X114.here hx rfl (hb hby own_d15_7) rfl (tlt (by decide)).2.1 k) ?_
  show own_Fin _ _ _ _ _ _ (T114.setTop (mkF m 10 #[rv a2, own_i 4, rv a3, own_i 4, own_i 20, own_i 4] []))
  refine own_to (fun t k => XS.aloadN X114.here hx rfl (hb hby own_d15_10) rfl rfl k) ?_
  show own_Fin _ _ _ _ _ _ (T114.setTop (mkF m 11 #[rv a2, own_i 4, rv a3, own_i 4, own_i 20, own_i 4] [(.ref a3)]))
  refine own_to (fun t k => XS.iloadN X114.here hx rfl (hb hby own_d15_11) rfl k) ?_
  refine own_to (fun t k => XS.iinc X114.here hx rfl (hb hby own_d15_12) rfl (l' := #[rv a2, own_i 4, rv a3, own_i 5, own_i 20, own_i 4]) rfl k) ?_
  show own_Fin _ _ _ _ _ _ (T114.setTop (mkF m 15 #[rv a2, own_i 4, rv a3, own_i 5, own_i 20, own_i 4] [(.int (4 : Int32)), (.ref a3)]))
  refine own_to (fun t k => XS.aloadN X114.here hx rfl (hb hby own_d15_15) rfl rfl k) ?_
  refine own_to (fun t k => XS.iloadN X114.here hx rfl (hb hby own_d15_16) rfl k) ?_
  refine own_to (fun t k => XS.iinc X114.here hx rfl (hb hby own_d15_17) rfl (l' := #[rv a2, own_i 5, rv a3, own_i 5, own_i 20, own_i 4]) rfl k) ?_
  show own_Fin _ _ _ _ _ _ (T114.setTop (mkF m 20 #[rv a2, own_i 5, rv a3, own_i 5, own_i 20, own_i 4] [(.int (4 : Int32)), (.ref a2), (.int (4 : Int32)), (.ref a3)]))
  obtain ⟨cl116, Ar116, qa116, Sa116, Na116, Ha116, Ga116⟩ := id V2_e114
  have hin117 : ¬ ((4 : Int32) < 0 ∨ cl116.slots.size ≤ ((4 : Int32)).toNatClampNeg) := inb_of Sa116 ⟨by decide, by decide⟩
  refine own_to (fun t k => X114.baloadBytes hx (j := (4 : Int32)) (v := (.int (x4.toInt8.toInt32))) (by rw [e114]; exact Ar116.1) (State.isArrayOf_alike hZ.alike Ar116.2.1) Ar116.2.2 hin117 (Has.at Ha116 hin117 rfl) (g := (mkF m 20 #[rv a2, own_i 5, rv a3, own_i 5, own_i 20, own_i 4] [(.int (4 : Int32)), (.ref a2), (.int (4 : Int32)), (.ref a3)])) rfl rfl (hb hby own_d15_20) _ k) ?_
  show own_Fin _ _ _ _ _ _ (T114.setTop (mkF m 21 #[rv a2, own_i 5, rv a3, own_i 5, own_i 20, own_i 4] [(.int (x4.toInt8.toInt32)), (.int (4 : Int32)), (.ref a3)]))
  refine own_to (fun t k => XS.sipush X114.here hx rfl (hb hby own_d15_21) k) ?_
  refine own_to (fun t k => XS.iand X114.here hx rfl (hb hby own_d15_24) rfl k) ?_
  show own_Fin _ _ _ _ _ _ (T114.setTop (mkF m 25 #[rv a2, own_i 5, rv a3, own_i 5, own_i 20, own_i 4] [(.int ((x4.toInt8.toInt32) &&& (255 : Int32))), (.int (4 : Int32)), (.ref a3)]))
  refine own_to (fun t k => XS.i2c X114.here hx rfl (hb hby own_d15_25) rfl k) ?_
  show own_Fin _ _ _ _ _ _ (T114.setTop (mkF m 26 #[rv a2, own_i 5, rv a3, own_i 5, own_i 20, own_i 4] [(.int (((x4.toInt8.toInt32) &&& (255 : Int32)).toUInt32.toUInt16.toUInt32.toInt32)), (.int (4 : Int32)), (.ref a3)]))
  obtain ⟨cl118, Ar118, qa118, Sa118, Na118, Ha118, Ga118⟩ := id V114
  have hin119 : ¬ ((4 : Int32) < 0 ∨ cl118.slots.size ≤ ((4 : Int32)).toNatClampNeg) := inb_of Sa118 ⟨by decide, by decide⟩
  obtain ⟨T119, h119, X119, e119, W119, st119⟩ := stC X114 hx hZ e114 Ar118 (j := (4 : Int32)) hin119 (g := (mkF m 26 #[rv a2, own_i 5, rv a3, own_i 5, own_i 20, own_i 4] [(.int (((x4.toInt8.toInt32) &&& (255 : Int32)).toUInt32.toUInt16.toUInt32.toInt32)), (.int (4 : Int32)), (.ref a3)])) rfl rfl (hb hby own_d15_26)
  rw [own_inf hl4 hx4] at W119
  have N119 := Fr.snoc X119 N114 g_a3
  have KK119 : Keep h0 h119 [a3] := KK114.wr W119 (Or.inl (List.mem_of_getElem? (i := 0) rfl))
  have V2_e119 := V2_e114.other W119 ne23
  have V119 : Arv Z h119 a3 k2 .char (20 : Int32) [(.int x0), (.int x1), (.int x2), (.int x3), (.int x4), (.int (0 : Int32)), (.int (0 : Int32)), (.int (0 : Int32)), (.int (0 : Int32)), (.int (0 : Int32)), (.int (0 : Int32)), (.int (0 : Int32)), (.int (0 : Int32)), (.int (0 : Int32)), (.int (0 : Int32)), (.int (0 : Int32)), (.int (0 : Int32)), (.int (0 : Int32)), (.int (0 : Int32)), (.int (0 : Int32))] (.int (0 : Int32)) := Arv.set Ar118 qa118 Sa118 Na118 Ha118 Ga118 (own_fx hl4 hx4) W119 4 rfl (Nat.le_of_ble_eq_true rfl)
  refine own_to (fun t k => st119 t k) ?_
  show own_Fin _ _ _ _ _ _ (T119.setTop (mkF m 27 #[rv a2, own_i 5, rv a3, own_i 5, own_i 20, own_i 4] []))
  refine own_to (fun t k => XS.iinc X119.here hx rfl (hb hby own_d15_27) rfl (l' := #[rv a2, own_i 5, rv a3, own_i 5, own_i 20, own_i 5]) rfl k) ?_
  show own_Fin _ _ _ _ _ _ (T119.setTop (mkF m 30 #[rv a2, own_i 5, rv a3, own_i 5, own_i 20, own_i 5] []))
  refine own_to (fun t k => XS.goto X119.here hx rfl (pc0 := 30) (pc' := 3) rfl (hb hby own_d15_30) (by decide) (by decide) k) ?_
  show own_Fin _ _ _ _ _ _ (T119.setTop (mkF m 3 #[rv a2, own_i 5, rv a3, own_i 5, own_i 20, own_i 5] []))
  refine own_to (fun t k => XS.iload X119.here hx rfl (hb hby own_d15_3) rfl k) ?_
  refine own_to (fun t k => XS.iload X119.here hx rfl (hb hby own_d15_5) rfl k) ?_
  refine own_to (fun t k => XS.icmpNo X119.here hx rfl (hb hby own_d15_7) rfl (tlt (by decide)).2.1 k) ?_
  show own_Fin _ _ _ _ _ _ (T119.setTop (mkF m 10 #[rv a2, own_i 5, rv a3, own_i 5, own_i 20, own_i 5] []))
  refine own_to (fun t k => XS.aloadN X119.here hx rfl (hb hby own_d15_10) rfl rfl k) ?_
  show own_Fin _ _ _ _ _ _ (T119.setTop (mkF m 11 #[rv a2, own_i 5, rv a3, own_i 5, own_i 20, own_i 5] [(.ref a3)]))
  refine own_to (fun t k => XS.iloadN X119.here hx rfl (hb hby own_d15_11) rfl k) ?_
  refine own_to (fun t k => XS.iinc X119.here hx rfl (hb hby own_d15_12) rfl (l' := #[rv a2, own_i 5, rv a3, own_i 6, own_i 20, own_i 5]) rfl k) ?_
  show own_Fin _ _ _ _ _ _ (T119.setTop (mkF m 15 #[rv a2, own_i 5, rv a3, own_i 6, own_i 20, own_i 5] [(.int (5 : Int32)), (.ref a3)]))
  refine own_to (fun t k => XS.aloadN X119.here hx rfl (hb hby own_d15_15) rfl rfl k) ?_
  refine own_to (fun t k => XS.iloadN X119.here hx rfl (hb hby own_d15_16) rfl k) ?_
  refine own_to (fun t k => XS.iinc X119.here hx rfl (hb hby own_d15_17) rfl (l' := #[rv a2, own_i 6, rv a3, own_i 6, own_i 20, own_i 5]) rfl k) ?_
  show own_Fin _ _ _ _ _ _ (T119.setTop (mkF m 20 #[rv a2, own_i 6, rv a3, own_i 6, own_i 20, own_i 5] [(.int (5 : Int32)), (.ref a2), (.int (5 : Int32)), (.ref a3)]))
  obtain ⟨cl120, Ar120, qa120, Sa120, Na120, Ha120, Ga120⟩ := id V2_e119
  have hin121 : ¬ ((5 : Int32) < 0 ∨ cl120.slots.size ≤ ((5 : Int32)).toNatClampNeg) := inb_of Sa120 ⟨by decide, by decide⟩
  refine own_to (fun t k => X119.baloadBytes hx (j := (5 : Int32)) (v := (.int (x5.toInt8.toInt32))) (by rw [e119]; exact Ar120.1) (State.isArrayOf_alike hZ.alike Ar120.2.1) Ar120.2.2 hin121 (Has.at Ha120 hin121 rfl) (g := (mkF m 20 #[rv a2, own_i 6, rv a3, own_i 6, own_i 20, own_i 5] [(.int (5 : Int32)), (.ref a2), (.int (5 : Int32)), (.ref a3)])) rfl rfl (hb hby own_d15_20) _ k) ?_
  show own_Fin _ _ _ _ _ _ (T119.setTop (mkF m 21 #[rv a2, own_i 6, rv a3, own_i 6, own_i 20, own_i 5] [(.int (x5.toInt8.toInt32)), (.int (5 : Int32)), (.ref a3)]))
  refine own_to (fun t k => XS.sipush X119.here hx rfl (hb hby own_d15_21) k) ?_
  refine own_to (fun t k => XS.iand X119.here hx rfl (hb hby own_d15_24) rfl k) ?_
  show own_Fin _ _ _ _ _ _ (T119.setTop (mkF m 25 #[rv a2, own_i 6, rv a3, own_i 6, own_i 20, own_i 5] [(.int ((x5.toInt8.toInt32) &&& (255 : Int32))), (.int (5 : Int32)), (.ref a3)]))
  refine own_to (fun t k => XS.i2c X119.here hx rfl (hb hby own_d15_25) rfl k) ?_
  show own_Fin _ _ _ _ _ _ (T119.setTop (mkF m 26 #[rv a2, own_i 6, rv a3, own_i 6, own_i 20, own_i 5] [(.int (((x5.toInt8.toInt32) &&& (255 : Int32)).toUInt32.toUInt16.toUInt32.toInt32)), (.int (5 : Int32)), (.ref a3)]))
  obtain ⟨cl122, Ar122, qa122, Sa122, Na122, Ha122, Ga122⟩ := id V119
  have hin123 : ¬ ((5 : Int32) < 0 ∨ cl122.slots.size ≤ ((5 : Int32)).toNatClampNeg) := inb_of Sa122 ⟨by decide, by decide⟩
  obtain ⟨T123, h123, X123, e123, W123, st123⟩ := stC X119 hx hZ e119 Ar122 (j := (5 : Int32)) hin123 (g := (mkF m 26 #[rv a2, own_i 6, rv a3, own_i 6, own_i 20, own_i 5] [(.int (((x5.toInt8.toInt32) &&& (255 : Int32)).toUInt32.toUInt16.toUInt32.toInt32)), (.int (5 : Int32)), (.ref a3)])) rfl rfl (hb hby own_d15_26)
  rw [own_inf hl5 hx5] at W123
  have N123 := Fr.snoc X123 N119 g_a3
  have KK123 : Keep h0 h123 [a3] := KK119.wr W123 (Or.inl (List.mem_of_getElem? (i := 0) rfl))
  have V2_e123 := V2_e119.other W123 ne23
  have V123 : Arv Z h123 a3 k2 .char (20 : Int32) [(.int x0), (.int x1), (.int x2), (.int x3), (.int x4), (.int x5), (.int (0 : Int32)), (.int (0 : Int32)), (.int (0 : Int32)), (.int (0 : Int32)), (.int (0 : Int32)), (.int (0 : Int32)), (.int (0 : Int32)), (.int (0 : Int32)), (.int (0 : Int32)), (.int (0 : Int32)), (.int (0 : Int32)), (.int (0 : Int32)), (.int (0 : Int32)), (.int (0 : Int32))] (.int (0 : Int32)) := Arv.set Ar122 qa122 Sa122 Na122 Ha122 Ga122 (own_fx hl5 hx5) W123 5 rfl (Nat.le_of_ble_eq_true rfl)
  refine own_to (fun t k => st123 t k) ?_
  show own_Fin _ _ _ _ _ _ (T123.setTop (mkF m 27 #[rv a2, own_i 6, rv a3, own_i 6, own_i 20, own_i 5] []))
  refine own_to (fun t k => XS.iinc X123.here hx rfl (hb hby own_d15_27) rfl (l' := #[rv a2, own_i 6, rv a3, own_i 6, own_i 20, own_i 6]) rfl k) ?_
  show own_Fin _ _ _ _ _ _ (T123.setTop (mkF m 30 #[rv a2, own_i 6, rv a3, own_i 6, own_i 20, own_i 6] []))
  refine own_to (fun t k => XS.goto X123.here hx rfl (pc0 := 30) (pc' := 3) rfl (hb hby own_d15_30) (by decide) (by decide) k) ?_
  show own_Fin _ _ _ _ _ _ (T123.setTop (mkF m 3 #[rv a2, own_i 6, rv a3, own_i 6, own_i 20, own_i 6] []))
  refine own_to (fun t k => XS.iload X123.here hx rfl (hb hby own_d15_3) rfl k) ?_
  refine own_to (fun t k => XS.iload X123.here hx rfl (hb hby own_d15_5) rfl k) ?_
  refine own_to (fun t k => XS.icmpNo X123.here hx rfl (hb hby own_d15_7) rfl (tlt (by decide)).2.1 k) ?_
  show own_Fin _ _ _ _ _ _ (T123.setTop (mkF m 10 #[rv a2, own_i 6, rv a3, own_i 6, own_i 20, own_i 6] []))
  refine own_to (fun t k => XS.aloadN X123.here hx rfl (hb hby own_d15_10) rfl rfl k) ?_
  show own_Fin _ _ _ _ _ _ (T123.setTop (mkF m 11 #[rv a2, own_i 6, rv a3, own_i 6, own_i 20, own_i 6] [(.ref a3)]))
  refine own_to (fun t k => XS.iloadN X123.here hx rfl (hb hby own_d15_11) rfl k) ?_
  refine own_to (fun t k => XS.iinc X123.here hx rfl (hb hby own_d15_12) rfl (l' := #[rv a2, own_i 6, rv a3, own_i 7, own_i 20, own_i 6]) rfl k) ?_
  show own_Fin _ _ _ _ _ _ (T123.setTop (mkF m 15 #[rv a2, own_i 6, rv a3, own_i 7, own_i 20, own_i 6] [(.int (6 : Int32)), (.ref a3)]))
  refine own_to (fun t k => XS.aloadN X123.here hx rfl (hb hby own_d15_15) rfl rfl k) ?_
  refine own_to (fun t k => XS.iloadN X123.here hx rfl (hb hby own_d15_16) rfl k) ?_
  refine own_to (fun t k => XS.iinc X123.here hx rfl (hb hby own_d15_17) rfl (l' := #[rv a2, own_i 7, rv a3, own_i 7, own_i 20, own_i 6]) rfl k) ?_
  show own_Fin _ _ _ _ _ _ (T123.setTop (mkF m 20 #[rv a2, own_i 7, rv a3, own_i 7, own_i 20, own_i 6] [(.int (6 : Int32)), (.ref a2), (.int (6 : Int32)), (.ref a3)]))
  obtain ⟨cl124, Ar124, qa124, Sa124, Na124, Ha124, Ga124⟩ := id V2_e123
  have hin125 : ¬ ((6 : Int32) < 0 ∨ cl124.slots.size ≤ ((6 : Int32)).toNatClampNeg) := inb_of Sa124 ⟨by decide, by decide⟩
  refine own_to (fun t k => X123.baloadBytes hx (j := (6 : Int32)) (v := (.int (x6.toInt8.toInt32))) (by rw [e123]; exact Ar124.1) (State.isArrayOf_alike hZ.alike Ar124.2.1) Ar124.2.2 hin125 (Has.at Ha124 hin125 rfl) (g := (mkF m 20 #[rv a2, own_i 7, rv a3, own_i 7, own_i 20, own_i 6] [(.int (6 : Int32)), (.ref a2), (.int (6 : Int32)), (.ref a3)])) rfl rfl (hb hby own_d15_20) _ k) ?_
  show own_Fin _ _ _ _ _ _ (T123.setTop (mkF m 21 #[rv a2, own_i 7, rv a3, own_i 7, own_i 20, own_i 6] [(.int (x6.toInt8.toInt32)), (.int (6 : Int32)), (.ref a3)]))
  refine own_to (fun t k => XS.sipush X123.here hx rfl (hb hby own_d15_21) k) ?_
  refine own_to (fun t k => XS.iand X123.here hx rfl (hb hby own_d15_24) rfl k) ?_
  show own_Fin _ _ _ _ _ _ (T123.setTop (mkF m 25 #[rv a2, own_i 7, rv a3, own_i 7, own_i 20, own_i 6] [(.int ((x6.toInt8.toInt32) &&& (255 : Int32))), (.int (6 : Int32)), (.ref a3)]))
  refine own_to (fun t k => XS.i2c X123.here hx rfl (hb hby own_d15_25) rfl k) ?_
  show own_Fin _ _ _ _ _ _ (T123.setTop (mkF m 26 #[rv a2, own_i 7, rv a3, own_i 7, own_i 20, own_i 6] [(.int (((x6.toInt8.toInt32) &&& (255 : Int32)).toUInt32.toUInt16.toUInt32.toInt32)), (.int (6 : Int32)), (.ref a3)]))
  obtain ⟨cl126, Ar126, qa126, Sa126, Na126, Ha126, Ga126⟩ := id V123
  have hin127 : ¬ ((6 : Int32) < 0 ∨ cl126.slots.size ≤ ((6 : Int32)).toNatClampNeg) := inb_of Sa126 ⟨by decide, by decide⟩
  obtain ⟨T127, h127, X127, e127, W127, st127⟩ := stC X123 hx hZ e123 Ar126 (j := (6 : Int32)) hin127 (g := (mkF m 26 #[rv a2, own_i 7, rv a3, own_i 7, own_i 20, own_i 6] [(.int (((x6.toInt8.toInt32) &&& (255 : Int32)).toUInt32.toUInt16.toUInt32.toInt32)), (.int (6 : Int32)), (.ref a3)])) rfl rfl (hb hby own_d15_26)
  rw [own_inf hl6 hx6] at W127
  have N127 := Fr.snoc X127 N123 g_a3
  have KK127 : Keep h0 h127 [a3] := KK123.wr W127 (Or.inl (List.mem_of_getElem? (i := 0) rfl))
  have V2_e127 := V2_e123.other W127 ne23
  have V127 : Arv Z h127 a3 k2 .char (20 : Int32) [(.int x0), (.int x1), (.int x2), (.int x3), (.int x4), (.int x5), (.int x6), (.int (0 : Int32)), (.int (0 : Int32)), (.int (0 : Int32)), (.int (0 : Int32)), (.int (0 : Int32)), (.int (0 : Int32)), (.int (0 : Int32)), (.int (0 : Int32)), (.int (0 : Int32)), (.int (0 : Int32)), (.int (0 : Int32)), (.int (0 : Int32)), (.int (0 : Int32))] (.int (0 : Int32)) := Arv.set Ar126 qa126 Sa126 Na126 Ha126 Ga126 (own_fx hl6 hx6) W127 6 rfl (Nat.le_of_ble_eq_true rfl)
  have zs128 := (Nat.le_trans (Nat.le_trans (Nat.le_trans zs115 (Keep.of_wr W114).1) (Keep.of_wr W119).1) (Keep.of_wr W123).1)
  refine own_to (fun t k => st127 t k) ?_
  show own_Fin _ _ _ _ _ _ (T127.setTop (mkF m 27 #[rv a2, own_i 7, rv a3, own_i 7, own_i 20, own_i 6] []))
  refine own_to (fun t k => XS.iinc X127.here hx rfl (hb hby own_d15_27) rfl (l' := #[rv a2, own_i 7, rv a3, own_i 7, own_i 20, own_i 7]) rfl k) ?_
  show own_Fin _ _ _ _ _ _ (T127.setTop (mkF m 30 #[rv a2, own_i 7, rv a3, own_i 7, own_i 20, own_i 7] []))
  refine own_to (fun t k => XS.goto X127.here hx rfl (pc0 := 30) (pc' := 3) rfl (hb hby own_d15_30) (by decide) (by decide) k) ?_
  show own_Fin _ _ _ _ _ _ (T127.setTop (mkF m 3 #[rv a2, own_i 7, rv a3, own_i 7, own_i 20, own_i 7] []))
  refine own_to (fun t k => XS.iload X127.here hx rfl (hb hby own_d15_3) rfl k) ?_
  refine own_to (fun t k => XS.iload X127.here hx rfl (hb hby own_d15_5) rfl k) ?_
  refine own_to (fun t k => XS.icmpNo X127.here hx rfl (hb hby own_d15_7) rfl (tlt (by decide)).2.1 k) ?_
  show own_Fin _ _ _ _ _ _ (T127.setTop (mkF m 10 #[rv a2, own_i 7, rv a3, own_i 7, own_i 20, own_i 7] []))
  refine own_to (fun t k => XS.aloadN X127.here hx rfl (hb hby own_d15_10) rfl rfl k) ?_
  show own_Fin _ _ _ _ _ _ (T127.setTop (mkF m 11 #[rv a2, own_i 7, rv a3, own_i 7, own_i 20, own_i 7] [(.ref a3)]))
  refine own_to (fun t k => XS.iloadN X127.here hx rfl (hb hby own_d15_11) rfl k) ?_
  refine own_to (fun t k => XS.iinc X127.here hx rfl (hb hby own_d15_12) rfl (l' := #[rv a2, own_i 7, rv a3, own_i 8, own_i 20, own_i 7]) rfl k) ?_
  show own_Fin _ _ _ _ _ _ (T127.setTop (mkF m 15 #[rv a2, own_i 7, rv a3, own_i 8, own_i 20, own_i 7] [(.int (7 : Int32)), (.ref a3)]))
  refine own_to (fun t k => XS.aloadN X127.here hx rfl (hb hby own_d15_15) rfl rfl k) ?_
  refine own_to (fun t k => XS.iloadN X127.here hx rfl (hb hby own_d15_16) rfl k) ?_
  refine own_to (fun t k => XS.iinc X127.here hx rfl (hb hby own_d15_17) rfl (l' := #[rv a2, own_i 8, rv a3, own_i 8, own_i 20, own_i 7]) rfl k) ?_
  show own_Fin _ _ _ _ _ _ (T127.setTop (mkF m 20 #[rv a2, own_i 8, rv a3, own_i 8, own_i 20, own_i 7] [(.int (7 : Int32)), (.ref a2), (.int (7 : Int32)), (.ref a3)]))
  obtain ⟨cl129, Ar129, qa129, Sa129, Na129, Ha129, Ga129⟩ := id V2_e127
  have hin130 : ¬ ((7 : Int32) < 0 ∨ cl129.slots.size ≤ ((7 : Int32)).toNatClampNeg) := inb_of Sa129 ⟨by decide, by decide⟩
  refine own_to (fun t k => X127.baloadBytes hx (j := (7 : Int32)) (v := (.int (x7.toInt8.toInt32))) (by rw [e127]; exact Ar129.1) (State.isArrayOf_alike hZ.alike Ar129.2.1) Ar129.2.2 hin130 (Has.at Ha129 hin130 rfl) (g := (mkF m 20 #[rv a2, own_i 8, rv a3, own_i 8, own_i 20, own_i 7] [(.int (7 : Int32)), (.ref a2), (.int (7 : Int32)), (.ref a3)])) rfl rfl (hb hby own_d15_20) _ k) ?_
  show own_Fin _ _ _ _ _ _ (T127.setTop (mkF m 21 #[rv a2, own_i 8, rv a3, own_i 8, own_i 20, own_i 7] [(.int (x7.toInt8.toInt32)), (.int (7 : Int32)), (.ref a3)]))
  refine own_to (fun t k => XS.sipush X127.here hx rfl (hb hby own_d15_21) k) ?_
  refine own_to (fun t k => XS.iand X127.here hx rfl (hb hby own_d15_24) rfl k) ?_
  show own_Fin _ _ _ _ _ _ (T127.setTop (mkF m 25 #[rv a2, own_i 8, rv a3, own_i 8, own_i 20, own_i 7] [(.int ((x7.toInt8.toInt32) &&& (255 : Int32))), (.int (7 : Int32)), (.ref a3)]))
  refine own_to (fun t k => XS.i2c X127.here hx rfl (hb hby own_d15_25) rfl k) ?_
  show own_Fin _ _ _ _ _ _ (T127.setTop (mkF m 26 #[rv a2, own_i 8, rv a3, own_i 8, own_i 20, own_i 7] [(.int (((x7.toInt8.toInt32) &&& (255 : Int32)).toUInt32.toUInt16.toUInt32.toInt32)), (.int (7 : Int32)), (.ref a3)]))
  obtain ⟨cl131, Ar131, qa131, Sa131, Na131, Ha131, Ga131⟩ := id V127
  have hin132 : ¬ ((7 : Int32) < 0 ∨ cl131.slots.size ≤ ((7 : Int32)).toNatClampNeg) := inb_of Sa131 ⟨by decide, by decide⟩
  obtain ⟨T132, h132, X132, e132, W132, st132⟩ := stC X127 hx hZ e127 Ar131 (j := (7 : Int32)) hin132 (g := (mkF m 26 #[rv a2, own_i 8, rv a3, own_i 8, own_i 20, own_i 7] [(.int (((x7.toInt8.toInt32) &&& (255 : Int32)).toUInt32.toUInt16.toUInt32.toInt32)), (.int (7 : Int32)), (.ref a3)])) rfl rfl (hb hby own_d15_26)
  rw [own_inf hl7 hx7] at W132
  have N132 := Fr.snoc X132 N127 g_a3
  have KK132 : Keep h0 h132 [a3] := KK127.wr W132 (Or.inl (List.mem_of_getElem? (i := 0) rfl))
  have V2_e132 := V2_e127.other W132 ne23
  have V132 : Arv Z h132 a3 k2 .char (20 : Int32) [(.int x0), (.int x1), (.int x2), (.int x3), (.int x4), (.int x5), (.int x6), (.int x7), (.int (0 : Int32)), (.int (0 : Int32)), (.int (0 : Int32)), (.int (0 : Int32)), (.int (0 : Int32)), (.int (0 : Int32)), (.int (0 : Int32)), (.int (0 : Int32)), (.int (0 : Int32)), (.int (0 : Int32)), (.int (0 : Int32)), (.int (0 : Int32))] (.int (0 : Int32)) := Arv.set Ar131 qa131 Sa131 Na131 Ha131 Ga131 (own_fx hl7 hx7) W132 7 rfl (Nat.le_of_ble_eq_true rfl)
  refine own_to (fun t k => st132 t k) ?_
  show own_Fin _ _ _ _ _ _ (T132.setTop (mkF m 27 #[rv a2, own_i 8, rv a3, own_i 8, own_i 20, own_i 7] []))
  refine own_to (fun t k => XS.iinc X132.here hx rfl (hb hby own_d15_27) rfl (l' := #[rv a2, own_i 8, rv a3, own_i 8, own_i 20, own_i 8]) rfl k) ?_
  show own_Fin _ _ _ _ _ _ (T132.setTop (mkF m 30 #[rv a2, own_i 8, rv a3, own_i 8, own_i 20, own_i 8] []))
  refine own_to (fun t k => XS.goto X132.here hx rfl (pc0 := 30) (pc' := 3) rfl (hb hby own_d15_30) (by decide) (by decide) k) ?_
  show own_Fin _ _ _ _ _ _ (T132.setTop (mkF m 3 #[rv a2, own_i 8, rv a3, own_i 8, own_i 20, own_i 8] []))
  refine own_to (fun t k => XS.iload X132.here hx rfl (hb hby own_d15_3) rfl k) ?_
  refine own_to (fun t k => XS.iload X132.here hx rfl (hb hby own_d15_5) rfl k) ?_
  refine own_to (fun t k => XS.icmpNo X132.here hx rfl (hb hby own_d15_7) rfl (tlt (by decide)).2.1 k) ?_
  show own_Fin _ _ _ _ _ _ (T132.setTop (mkF m 10 #[rv a2, own_i 8, rv a3, own_i 8, own_i 20, own_i 8] []))
  refine own_to (fun t k => XS.aloadN X132.here hx rfl (hb hby own_d15_10) rfl rfl k) ?_
  show own_Fin _ _ _ _ _ _ (T132.setTop (mkF m 11 #[rv a2, own_i 8, rv a3, own_i 8, own_i 20, own_i 8] [(.ref a3)]))
  refine own_to (fun t k => XS.iloadN X132.here hx rfl (hb hby own_d15_11) rfl k) ?_
  refine own_to (fun t k => XS.iinc X132.here hx rfl (hb hby own_d15_12) rfl (l' := #[rv a2, own_i 8, rv a3, own_i 9, own_i 20, own_i 8]) rfl k) ?_
  show own_Fin _ _ _ _ _ _ (T132.setTop (mkF m 15 #[rv a2, own_i 8, rv a3, own_i 9, own_i 20, own_i 8] [(.int (8 : Int32)), (.ref a3)]))
  refine own_to (fun t k => XS.aloadN X132.here hx rfl (hb hby own_d15_15) rfl rfl k) ?_
  refine own_to (fun t k => XS.iloadN X132.here hx rfl (hb hby own_d15_16) rfl k) ?_
  refine own_to (fun t k => XS.iinc X132.here hx rfl (hb hby own_d15_17) rfl (l' := #[rv a2, own_i 9, rv a3, own_i 9, own_i 20, own_i 8]) rfl k) ?_
  show own_Fin _ _ _ _ _ _ (T132.setTop (mkF m 20 #[rv a2, own_i 9, rv a3, own_i 9, own_i 20, own_i 8] [(.int (8 : Int32)), (.ref a2), (.int (8 : Int32)), (.ref a3)]))
  obtain ⟨cl133, Ar133, qa133, Sa133, Na133, Ha133, Ga133⟩ := id V2_e132
  have hin134 : ¬ ((8 : Int32) < 0 ∨ cl133.slots.size ≤ ((8 : Int32)).toNatClampNeg) := inb_of Sa133 ⟨by decide, by decide⟩
  refine own_to (fun t k => X132.baloadBytes hx (j := (8 : Int32)) (v := (.int (x8.toInt8.toInt32))) (by rw [e132]; exact Ar133.1) (State.isArrayOf_alike hZ.alike Ar133.2.1) Ar133.2.2 hin134 (Has.at Ha133 hin134 rfl) (g := (mkF m 20 #[rv a2, own_i 9, rv a3, own_i 9, own_i 20, own_i 8] [(.int (8 : Int32)), (.ref a2), (.int (8 : Int32)), (.ref a3)])) rfl rfl (hb hby own_d15_20) _ k) ?_
  show own_Fin _ _ _ _ _ _ (T132.setTop (mkF m 21 #[rv a2, own_i 9, rv a3, own_i 9, own_i 20, own_i 8] [(.int (x8.toInt8.toInt32)), (.int (8 : Int32)), (.ref a3)]))
  refine own_to (fun t k => XS.sipush X132.here hx rfl (hb hby own_d15_21) k) ?_
  refine own_to (fun t k => XS.iand X132.here hx rfl (hb hby own_d15_24) rfl k) ?_
  show own_Fin _ _ _ _ _ _ (T132.setTop (mkF m 25 #[rv a2, own_i 9, rv a3, own_i 9, own_i 20, own_i 8] [(.int ((x8.toInt8.toInt32) &&& (255 : Int32))), (.int (8 : Int32)), (.ref a3)]))
  refine own_to (fun t k => XS.i2c X132.here hx rfl (hb hby own_d15_25) rfl k) ?_
  show own_Fin _ _ _ _ _ _ (T132.setTop (mkF m 26 #[rv a2, own_i 9, rv a3, own_i 9, own_i 20, own_i 8] [(.int (((x8.toInt8.toInt32) &&& (255 : Int32)).toUInt32.toUInt16.toUInt32.toInt32)), (.int (8 : Int32)), (.ref a3)]))
  obtain ⟨cl135, Ar135, qa135, Sa135, Na135, Ha135, Ga135⟩ := id V132
  have hin136 : ¬ ((8 : Int32) < 0 ∨ cl135.slots.size ≤ ((8 : Int32)).toNatClampNeg) := inb_of Sa135 ⟨by decide, by decide⟩
  obtain ⟨T136, h136, X136, e136, W136, st136⟩ := stC X132 hx hZ e132 Ar135 (j := (8 : Int32)) hin136 (g := (mkF m 26 #[rv a2, own_i 9, rv a3, own_i 9, own_i 20, own_i 8] [(.int (((x8.toInt8.toInt32) &&& (255 : Int32)).toUInt32.toUInt16.toUInt32.toInt32)), (.int (8 : Int32)), (.ref a3)])) rfl rfl (hb hby own_d15_26)
  rw [own_inf hl8 hx8] at W136
  have N136 := Fr.snoc X136 N132 g_a3
  have KK136 : Keep h0 h136 [a3] := KK132.wr W136 (Or.inl (List.mem_of_getElem? (i := 0) rfl))
  have V2_e136 := V2_e132.other W136 ne23
  have V136 : Arv Z h136 a3 k2 .char (20 : Int32) [(.int x0), (.int x1), (.int x2), (.int x3), (.int x4), (.int x5), (.int x6), (.int x7), (.int x8), (.int (0 : Int32)), (.int (0 : Int32)), (.int (0 : Int32)), (.int (0 : Int32)), (.int (0 : Int32)), (.int (0 : Int32)), (.int (0 : Int32)), (.int (0 : Int32)), (.int (0 : Int32)), (.int (0 : Int32)), (.int (0 : Int32))] (.int (0 : Int32)) := Arv.set Ar135 qa135 Sa135 Na135 Ha135 Ga135 (own_fx hl8 hx8) W136 8 rfl (Nat.le_of_ble_eq_true rfl)
  refine own_to (fun t k => st136 t k) ?_
  show own_Fin _ _ _ _ _ _ (T136.setTop (mkF m 27 #[rv a2, own_i 9, rv a3, own_i 9, own_i 20, own_i 8] []))
  refine own_to (fun t k => XS.iinc X136.here hx rfl (hb hby own_d15_27) rfl (l' := #[rv a2, own_i 9, rv a3, own_i 9, own_i 20, own_i 9]) rfl k) ?_
  show own_Fin _ _ _ _ _ _ (T136.setTop (mkF m 30 #[rv a2, own_i 9, rv a3, own_i 9, own_i 20, own_i 9] []))
  refine own_to (fun t k => XS.goto X136.here hx rfl (pc0 := 30) (pc' := 3) rfl (hb hby own_d15_30) (by decide) (by decide) k) ?_
  show own_Fin _ _ _ _ _ _ (T136.setTop (mkF m 3 #[rv a2, own_i 9, rv a3, own_i 9, own_i 20, own_i 9] []))
  refine own_to (fun t k => XS.iload X136.here hx rfl (hb hby own_d15_3) rfl k) ?_
  refine own_to (fun t k => XS.iload X136.here hx rfl (hb hby own_d15_5) rfl k) ?_
  refine own_to (fun t k => XS.icmpNo X136.here hx rfl (hb hby own_d15_7) rfl (tlt (by decide)).2.1 k) ?_
  show own_Fin _ _ _ _ _ _ (T136.setTop (mkF m 10 #[rv a2, own_i 9, rv a3, own_i 9, own_i 20, own_i 9] []))
  refine own_to (fun t k => XS.aloadN X136.here hx rfl (hb hby own_d15_10) rfl rfl k) ?_
  show own_Fin _ _ _ _ _ _ (T136.setTop (mkF m 11 #[rv a2, own_i 9, rv a3, own_i 9, own_i 20, own_i 9] [(.ref a3)]))
  refine own_to (fun t k => XS.iloadN X136.here hx rfl (hb hby own_d15_11) rfl k) ?_
  refine own_to (fun t k => XS.iinc X136.here hx rfl (hb hby own_d15_12) rfl (l' := #[rv a2, own_i 9, rv a3, own_i 10, own_i 20, own_i 9]) rfl k) ?_
  show own_Fin _ _ _ _ _ _ (T136.setTop (mkF m 15 #[rv a2, own_i 9, rv a3, own_i 10, own_i 20, own_i 9] [(.int (9 : Int32)), (.ref a3)]))
  refine own_to (fun t k => XS.aloadN X136.here hx rfl (hb hby own_d15_15) rfl rfl k) ?_
  refine own_to (fun t k => XS.iloadN X136.here hx rfl (hb hby own_d15_16) rfl k) ?_
  refine own_to (fun t k => XS.iinc X136.here hx rfl (hb hby own_d15_17) rfl (l' := #[rv a2, own_i 10, rv a3, own_i 10, own_i 20, own_i 9]) rfl k) ?_
  show own_Fin _ _ _ _ _ _ (T136.setTop (mkF m 20 #[rv a2, own_i 10, rv a3, own_i 10, own_i 20, own_i 9] [(.int (9 : Int32)), (.ref a2), (.int (9 : Int32)), (.ref a3)]))
  obtain ⟨cl137, Ar137, qa137, Sa137, Na137, Ha137, Ga137⟩ := id V2_e136
  have hin138 : ¬ ((9 : Int32) < 0 ∨ cl137.slots.size ≤ ((9 : Int32)).toNatClampNeg) := inb_of Sa137 ⟨by decide, by decide⟩
  refine own_to (fun t k => X136.baloadBytes hx (j := (9 : Int32)) (v := (.int (x9.toInt8.toInt32))) (by rw [e136]; exact Ar137.1) (State.isArrayOf_alike hZ.alike Ar137.2.1) Ar137.2.2 hin138 (Has.at Ha137 hin138 rfl) (g := (mkF m 20 #[rv a2, own_i 10, rv a3, own_i 10, own_i 20, own_i 9] [(.int (9 : Int32)), (.ref a2), (.int (9 : Int32)), (.ref a3)])) rfl rfl (hb hby own_d15_20) _ k) ?_
  show own_Fin _ _ _ _ _ _ (T136.setTop (mkF m 21 #[rv a2, own_i 10, rv a3, own_i 10, own_i 20, own_i 9] [(.int (x9.toInt8.toInt32)), (.int (9 : Int32)), (.ref a3)]))
  refine own_to (fun t k => XS.sipush X136.here hx rfl (hb hby own_d15_21) k) ?_
  refine own_to (fun t k => XS.iand X136.here hx rfl (hb hby own_d15_24) rfl k) ?_
  show own_Fin _ _ _ _ _ _ (T136.setTop (mkF m 25 #[rv a2, own_i 10, rv a3, own_i 10, own_i 20, own_i 9] [(.int ((x9.toInt8.toInt32) &&& (255 : Int32))), (.int (9 : Int32)), (.ref a3)]))
  refine own_to (fun t k => XS.i2c X136.here hx rfl (hb hby own_d15_25) rfl k) ?_
  show own_Fin _ _ _ _ _ _ (T136.setTop (mkF m 26 #[rv a2, own_i 10, rv a3, own_i 10, own_i 20, own_i 9] [(.int (((x9.toInt8.toInt32) &&& (255 : Int32)).toUInt32.toUInt16.toUInt32.toInt32)), (.int (9 : Int32)), (.ref a3)]))
  obtain ⟨cl139, Ar139, qa139, Sa139, Na139, Ha139, Ga139⟩ := id V136
  have hin140 : ¬ ((9 : Int32) < 0 ∨ cl139.slots.size ≤ ((9 : Int32)).toNatClampNeg) := inb_of Sa139 ⟨by decide, by decide⟩
  obtain ⟨T140, h140, X140, e140, W140, st140⟩ := stC X136 hx hZ e136 Ar139 (j := (9 : Int32)) hin140 (g := (mkF m 26 #[rv a2, own_i 10, rv a3, own_i 10, own_i 20, own_i 9] [(.int (((x9.toInt8.toInt32) &&& (255 : Int32)).toUInt32.toUInt16.toUInt32.toInt32)), (.int (9 : Int32)), (.ref a3)])) rfl rfl (hb hby own_d15_26)
  rw [own_inf hl9 hx9] at W140
  have N140 := Fr.snoc X140 N136 g_a3
  have KK140 : Keep h0 h140 [a3] := KK136.wr W140 (Or.inl (List.mem_of_getElem? (i := 0) rfl))
  have V2_e140 := V2_e136.other W140 ne23
  have V140 : Arv Z h140 a3 k2 .char (20 : Int32) [(.int x0), (.int x1), (.int x2), (.int x3), (.int x4), (.int x5), (.int x6), (.int x7), (.int x8), (.int x9), (.int (0 : Int32)), (.int (0 : Int32)), (.int (0 : Int32)), (.int (0 : Int32)), (.int (0 : Int32)), (.int (0 : Int32)), (.int (0 : Int32)), (.int (0 : Int32)), (.int (0 : Int32)), (.int (0 : Int32))] (.int (0 : Int32)) := Arv.set Ar139 qa139 Sa139 Na139 Ha139 Ga139 (own_fx hl9 hx9) W140 9 rfl (Nat.le_of_ble_eq_true rfl)
  have zs141 := (Nat.le_trans (Nat.le_trans (Nat.le_trans zs128 (Keep.of_wr W127).1) (Keep.of_wr W132).1) (Keep.of_wr W136).1)
  refine own_to (fun t k => st140 t k) ?_
  show own_Fin _ _ _ _ _ _ (T140.setTop (mkF m 27 #[rv a2, own_i 10, rv a3, own_i 10, own_i 20, own_i 9] []))
  refine own_to (fun t k => XS.iinc X140.here hx rfl (hb hby own_d15_27) rfl (l' := #[rv a2, own_i 10, rv a3, own_i 10, own_i 20, own_i 10]) rfl k) ?_
  show own_Fin _ _ _ _ _ _ (T140.setTop (mkF m 30 #[rv a2, own_i 10, rv a3, own_i 10, own_i 20, own_i 10] []))
  refine own_to (fun t k => XS.goto X140.here hx rfl (pc0 := 30) (pc' := 3) rfl (hb hby own_d15_30) (by decide) (by decide) k) ?_
  show own_Fin _ _ _ _ _ _ (T140.setTop (mkF m 3 #[rv a2, own_i 10, rv a3, own_i 10, own_i 20, own_i 10] []))
  refine own_to (fun t k => XS.iload X140.here hx rfl (hb hby own_d15_3) rfl k) ?_
  refine own_to (fun t k => XS.iload X140.here hx rfl (hb hby own_d15_5) rfl k) ?_
  refine own_to (fun t k => XS.icmpNo X140.here hx rfl (hb hby own_d15_7) rfl (tlt (by decide)).2.1 k) ?_
  show own_Fin _ _ _ _ _ _ (T140.setTop (mkF m 10 #[rv a2, own_i 10, rv a3, own_i 10, own_i 20, own_i 10] []))
  refine own_to (fun t k => XS.aloadN X140.here hx rfl (hb hby own_d15_10) rfl rfl k) ?_
  show own_Fin _ _ _ _ _ _ (T140.setTop (mkF m 11 #[rv a2, own_i 10, rv a3, own_i 10, own_i 20, own_i 10] [(.ref a3)]))
  refine own_to (fun t k => XS.iloadN X140.here hx rfl (hb hby own_d15_11) rfl k) ?_
  refine own_to (fun t k => XS.iinc X140.here hx rfl (hb hby own_d15_12) rfl (l' := #[rv a2, own_i 10, rv a3, own_i 11, own_i 20, own_i 10]) rfl k) ?_
  show own_Fin _ _ _ _ _ _ (T140.setTop (mkF m 15 #[rv a2, own_i 10, rv a3, own_i 11, own_i 20, own_i 10] [(.int (10 : Int32)), (.ref a3)]))
  refine own_to (fun t k => XS.aloadN X140.here hx rfl (hb hby own_d15_15) rfl rfl k) ?_
  refine own_to (fun t k => XS.iloadN X140.here hx rfl (hb hby own_d15_16) rfl k) ?_
  refine own_to (fun t k => XS.iinc X140.here hx rfl (hb hby own_d15_17) rfl (l' := #[rv a2, own_i 11, rv a3, own_i 11, own_i 20, own_i 10]) rfl k) ?_
  show own_Fin _ _ _ _ _ _ (T140.setTop (mkF m 20 #[rv a2, own_i 11, rv a3, own_i 11, own_i 20, own_i 10] [(.int (10 : Int32)), (.ref a2), (.int (10 : Int32)), (.ref a3)]))
  obtain ⟨cl142, Ar142, qa142, Sa142, Na142, Ha142, Ga142⟩ := id V2_e140
  have hin143 : ¬ ((10 : Int32) < 0 ∨ cl142.slots.size ≤ ((10 : Int32)).toNatClampNeg) := inb_of Sa142 ⟨by decide, by decide⟩
  refine own_to (fun t k => X140.baloadBytes hx (j := (10 : Int32)) (v := (.int (x10.toInt8.toInt32))) (by rw [e140]; exact Ar142.1) (State.isArrayOf_alike hZ.alike Ar142.2.1) Ar142.2.2 hin143 (Has.at Ha142 hin143 rfl) (g := (mkF m 20 #[rv a2, own_i 11, rv a3, own_i 11, own_i 20, own_i 10] [(.int (10 : Int32)), (.ref a2), (.int (10 : Int32)), (.ref a3)])) rfl rfl (hb hby own_d15_20) _ k) ?_
  show own_Fin _ _ _ _ _ _ (T140.setTop (mkF m 21 #[rv a2, own_i 11, rv a3, own_i 11, own_i 20, own_i 10] [(.int (x10.toInt8.toInt32)), (.int (10 : Int32)), (.ref a3)]))
  refine own_to (fun t k => XS.sipush X140.here hx rfl (hb hby own_d15_21) k) ?_
  refine own_to (fun t k => XS.iand X140.here hx rfl (hb hby own_d15_24) rfl k) ?_
  show own_Fin _ _ _ _ _ _ (T140.setTop (mkF m 25 #[rv a2, own_i 11, rv a3, own_i 11, own_i 20, own_i 10] [(.int ((x10.toInt8.toInt32) &&& (255 : Int32))), (.int (10 : Int32)), (.ref a3)]))
  refine own_to (fun t k => XS.i2c X140.here hx rfl (hb hby own_d15_25) rfl k) ?_
  show own_Fin _ _ _ _ _ _ (T140.setTop (mkF m 26 #[rv a2, own_i 11, rv a3, own_i 11, own_i 20, own_i 10] [(.int (((x10.toInt8.toInt32) &&& (255 : Int32)).toUInt32.toUInt16.toUInt32.toInt32)), (.int (10 : Int32)), (.ref a3)]))
  obtain ⟨cl144, Ar144, qa144, Sa144, Na144, Ha144, Ga144⟩ := id V140
  have hin145 : ¬ ((10 : Int32) < 0 ∨ cl144.slots.size ≤ ((10 : Int32)).toNatClampNeg) := inb_of Sa144 ⟨by decide, by decide⟩
  obtain ⟨T145, h145, X145, e145, W145, st145⟩ := stC X140 hx hZ e140 Ar144 (j := (10 : Int32)) hin145 (g := (mkF m 26 #[rv a2, own_i 11, rv a3, own_i 11, own_i 20, own_i 10] [(.int (((x10.toInt8.toInt32) &&& (255 : Int32)).toUInt32.toUInt16.toUInt32.toInt32)), (.int (10 : Int32)), (.ref a3)])) rfl rfl (hb hby own_d15_26)
  rw [own_inf hl10 hx10] at W145
  have N145 := Fr.snoc X145 N140 g_a3
  have KK145 : Keep h0 h145 [a3] := KK140.wr W145 (Or.inl (List.mem_of_getElem? (i := 0) rfl))
  have V2_e145 := V2_e140.other W145 ne23
  have V145 : Arv Z h145 a3 k2 .char (20 : Int32) [(.int x0), (.int x1), (.int x2), (.int x3), (.int x4), (.int x5), (.int x6), (.int x7), (.int x8), (.int x9), (.int x10), (.int (0 : Int32)), (.int (0 : Int32)), (.int (0 : Int32)), (.int (0 : Int32)), (.int (0 : Int32)), (.int (0 : Int32)), (.int (0 : Int32)), (.int (0 : Int32)), (.int (0 : Int32))] (.int (0 : Int32)) := Arv.set Ar144 qa144 Sa144 Na144 Ha144 Ga144 (own_fx hl10 hx10) W145 10 rfl (Nat.le_of_ble_eq_true rfl)
  refine own_to (fun t k => st145 t k) ?_
  show own_Fin _ _ _ _ _ _ (T145.setTop (mkF m 27 #[rv a2, own_i 11, rv a3, own_i 11, own_i 20, own_i 10] []))
  refine own_to (fun t k => XS.iinc X145.here hx rfl (hb hby own_d15_27) rfl (l' := #[rv a2, own_i 11, rv a3, own_i 11, own_i 20, own_i 11]) rfl k) ?_
  show own_Fin _ _ _ _ _ _ (T145.setTop (mkF m 30 #[rv a2, own_i 11, rv a3, own_i 11, own_i 20, own_i 11] []))
  refine own_to (fun t k => XS.goto X145.here hx rfl (pc0 := 30) (pc' := 3) rfl (hb hby own_d15_30) (by decide) (by decide) k) ?_
  show own_Fin _ _ _ _ _ _ (T145.setTop (mkF m 3 #[rv a2, own_i 11, rv a3, own_i 11, own_i 20, own_i 11] []))
  refine own_to (fun t k => XS.iload X145.here hx rfl (hb hby own_d15_3) rfl k) ?_
  refine own_to (fun t k => XS.iload X145.here hx rfl (hb hby own_d15_5) rfl k) ?_
  refine own_to (fun t k => XS.icmpNo X145.here hx rfl (hb hby own_d15_7) rfl (tlt (by decide)).2.1 k) ?_
  show own_Fin _ _ _ _ _ _ (T145.setTop (mkF m 10 #[rv a2, own_i 11, rv a3, own_i 11, own_i 20, own_i 11] []))
  refine own_to (fun t k => XS.aloadN X145.here hx rfl (hb hby own_d15_10) rfl rfl k) ?_
  show own_Fin _ _ _ _ _ _ (T145.setTop (mkF m 11 #[rv a2, own_i 11, rv a3, own_i 11, own_i 20, own_i 11] [(.ref a3)]))
  refine own_to (fun t k => XS.iloadN X145.here hx rfl (hb hby own_d15_11) rfl k) ?_
  refine own_to (fun t k => XS.iinc X145.here hx rfl (hb hby own_d15_12) rfl (l' := #[rv a2, own_i 11, rv a3, own_i 12, own_i 20, own_i 11]) rfl k) ?_
  show own_Fin _ _ _ _ _ _ (T145.setTop (mkF m 15 #[rv a2, own_i 11, rv a3, own_i 12, own_i 20, own_i 11] [(.int (11 : Int32)), (.ref a3)]))
  refine own_to (fun t k => XS.aloadN X145.here hx rfl (hb hby own_d15_15) rfl rfl k) ?_
  refine own_to (fun t k => XS.iloadN X145.here hx rfl (hb hby own_d15_16) rfl k) ?_
  refine own_to (fun t k => XS.iinc X145.here hx rfl (hb hby own_d15_17) rfl (l' := #[rv a2, own_i 12, rv a3, own_i 12, own_i 20, own_i 11]) rfl k) ?_
  show own_Fin _ _ _ _ _ _ (T145.setTop (mkF m 20 #[rv a2, own_i 12, rv a3, own_i 12, own_i 20, own_i 11] [(.int (11 : Int32)), (.ref a2), (.int (11 : Int32)), (.ref a3)]))
  obtain ⟨cl146, Ar146, qa146, Sa146, Na146, Ha146, Ga146⟩ := id V2_e145
  have hin147 : ¬ ((11 : Int32) < 0 ∨ cl146.slots.size ≤ ((11 : Int32)).toNatClampNeg) := inb_of Sa146 ⟨by decide, by decide⟩
  refine own_to (fun t k => X145.baloadBytes hx (j := (11 : Int32)) (v := (.int (x11.toInt8.toInt32))) (by rw [e145]; exact Ar146.1) (State.isArrayOf_alike hZ.alike Ar146.2.1) Ar146.2.2 hin147 (Has.at Ha146 hin147 rfl) (g := (mkF m 20 #[rv a2, own_i 12, rv a3, own_i 12, own_i 20, own_i 11] [(.int (11 : Int32)), (.ref a2), (.int (11 : Int32)), (.ref a3)])) rfl rfl (hb hby own_d15_20) _ k) ?_
  show own_Fin _ _ _ _ _ _ (T145.setTop (mkF m 21 #[rv a2, own_i 12, rv a3, own_i 12, own_i 20, own_i 11] [(.int (x11.toInt8.toInt32)), (.int (11 : Int32)), (.ref a3)]))
  refine own_to (fun t k => XS.sipush X145.here hx rfl (hb hby own_d15_21) k) ?_
  refine own_to (fun t k => XS.iand X145.here hx rfl (hb hby own_d15_24) rfl k) ?_
  show own_Fin _ _ _ _ _ _ (T145.setTop (mkF m 25 #[rv a2, own_i 12, rv a3, own_i 12, own_i 20, own_i 11] [(.int ((x11.toInt8.toInt32) &&& (255 : Int32))), (.int (11 : Int32)), (.ref a3)]))
  refine own_to (fun t k => XS.i2c X145.here hx rfl (hb hby own_d15_25) rfl k) ?_
  show own_Fin _ _ _ _ _ _ (T145.setTop (mkF m 26 #[rv a2, own_i 12, rv a3, own_i 12, own_i 20, own_i 11] [(.int (((x11.toInt8.toInt32) &&& (255 : Int32)).toUInt32.toUInt16.toUInt32.toInt32)), (.int (11 : Int32)), (.ref a3)]))
  obtain ⟨cl148, Ar148, qa148, Sa148, Na148, Ha148, Ga148⟩ := id V145
  have hin149 : ¬ ((11 : Int32) < 0 ∨ cl148.slots.size ≤ ((11 : Int32)).toNatClampNeg) := inb_of Sa148 ⟨by decide, by decide⟩
  obtain ⟨T149, h149, X149, e149, W149, st149⟩ := stC X145 hx hZ e145 Ar148 (j := (11 : Int32)) hin149 (g := (mkF m 26 #[rv a2, own_i 12, rv a3, own_i 12, own_i 20, own_i 11] [(.int (((x11.toInt8.toInt32) &&& (255 : Int32)).toUInt32.toUInt16.toUInt32.toInt32)), (.int (11 : Int32)), (.ref a3)])) rfl rfl (hb hby own_d15_26)
  rw [own_inf hl11 hx11] at W149
  have N149 := Fr.snoc X149 N145 g_a3
  have KK149 : Keep h0 h149 [a3] := KK145.wr W149 (Or.inl (List.mem_of_getElem? (i := 0) rfl))
  have V2_e149 := V2_e145.other W149 ne23
  have V149 : Arv Z h149 a3 k2 .char (20 : Int32) [(.int x0), (.int x1), (.int x2), (.int x3), (.int x4), (.int x5), (.int x6), (.int x7), (.int x8), (.int x9), (.int x10), (.int x11), (.int (0 : Int32)), (.int (0 : Int32)), (.int (0 : Int32)), (.int (0 : Int32)), (.int (0 : Int32)), (.int (0 : Int32)), (.int (0 : Int32)), (.int (0 : Int32))] (.int (0 : Int32)) := Arv.set Ar148 qa148 Sa148 Na148 Ha148 Ga148 (own_fx hl11 hx11) W149 11 rfl (Nat.le_of_ble_eq_true rfl)
  refine own_to (fun t k => st149 t k) ?_
  show own_Fin _ _ _ _ _ _ (T149.setTop (mkF m 27 #[rv a2, own_i 12, rv a3, own_i 12, own_i 20, own_i 11] []))
  refine own_to (fun t k => XS.iinc X149.here hx rfl (hb hby own_d15_27) rfl (l' := #[rv a2, own_i 12, rv a3, own_i 12, own_i 20, own_i 12]) rfl k) ?_
  show own_Fin _ _ _ _ _ _ (T149.setTop (mkF m 30 #[rv a2, own_i 12, rv a3, own_i 12, own_i 20, own_i 12] []))
  refine own_to (fun t k => XS.goto X149.here hx rfl (pc0 := 30) (pc' := 3) rfl (hb hby own_d15_30) (by decide) (by decide) k) ?_
  show own_Fin _ _ _ _ _ _ (T149.setTop (mkF m 3 #[rv a2, own_i 12, rv a3, own_i 12, own_i 20, own_i 12] []))
  refine own_to (fun t k => XS.iload X149.here hx rfl (hb hby own_d15_3) rfl k) ?_
  refine own_to (fun t k => XS.iload X149.here hx rfl (hb hby own_d15_5) rfl k) ?_
  refine own_to (fun t k => XS.icmpNo X149.here hx rfl (hb hby own_d15_7) rfl (tlt (by decide)).2.1 k) ?_
  show own_Fin _ _ _ _ _ _ (T149.setTop (mkF m 10 #[rv a2, own_i 12, rv a3, own_i 12, own_i 20, own_i 12] []))
  refine own_to (fun t k => XS.aloadN X149.here hx rfl (hb hby own_d15_10) rfl rfl k) ?_
  show own_Fin _ _ _ _ _ _ (T149.setTop (mkF m 11 #[rv a2, own_i 12, rv a3, own_i 12, own_i 20, own_i 12] [(.ref a3)]))
  refine own_to (fun t k => XS.iloadN X149.here hx rfl (hb hby own_d15_11) rfl k) ?_
  refine own_to (fun t k => XS.iinc X149.here hx rfl (hb hby own_d15_12) rfl (l' := #[rv a2, own_i 12, rv a3, own_i 13, own_i 20, own_i 12]) rfl k) ?_
  show own_Fin _ _ _ _ _ _ (T149.setTop (mkF m 15 #[rv a2, own_i 12, rv a3, own_i 13, own_i 20, own_i 12] [(.int (12 : Int32)), (.ref a3)]))
  refine own_to (fun t k => XS.aloadN X149.here hx rfl (hb hby own_d15_15) rfl rfl k) ?_
  refine own_to (fun t k => XS.iloadN X149.here hx rfl (hb hby own_d15_16) rfl k) ?_
  refine own_to (fun t k => XS.iinc X149.here hx rfl (hb hby own_d15_17) rfl (l' := #[rv a2, own_i 13, rv a3, own_i 13, own_i 20, own_i 12]) rfl k) ?_
  show own_Fin _ _ _ _ _ _ (T149.setTop (mkF m 20 #[rv a2, own_i 13, rv a3, own_i 13, own_i 20, own_i 12] [(.int (12 : Int32)), (.ref a2), (.int (12 : Int32)), (.ref a3)]))
  obtain ⟨cl150, Ar150, qa150, Sa150, Na150, Ha150, Ga150⟩ := id V2_e149
  have hin151 : ¬ ((12 : Int32) < 0 ∨ cl150.slots.size ≤ ((12 : Int32)).toNatClampNeg) := inb_of Sa150 ⟨by decide, by decide⟩
  refine own_to (fun t k => X149.baloadBytes hx (j := (12 : Int32)) (v := (.int (x12.toInt8.toInt32))) (by rw [e149]; exact Ar150.1) (State.isArrayOf_alike hZ.alike Ar150.2.1) Ar150.2.2 hin151 (Has.at Ha150 hin151 rfl) (g := (mkF m 20 #[rv a2, own_i 13, rv a3, own_i 13, own_i 20, own_i 12] [(.int (12 : Int32)), (.ref a2), (.int (12 : Int32)), (.ref a3)])) rfl rfl (hb hby own_d15_20) _ k) ?_
  show own_Fin _ _ _ _ _ _ (T149.setTop (mkF m 21 #[rv a2, own_i 13, rv a3, own_i 13, own_i 20, own_i 12] [(.int (x12.toInt8.toInt32)), (.int (12 : Int32)), (.ref a3)]))
  refine own_to (fun t k => XS.sipush X149.here hx rfl (hb hby own_d15_21) k) ?_
  refine own_to (fun t k => XS.iand X149.here hx rfl (hb hby own_d15_24) rfl k) ?_
  show own_Fin _ _ _ _ _ _ (T149.setTop (mkF m 25 #[rv a2, own_i 13, rv a3, own_i 13, own_i 20, own_i 12] [(.int ((x12.toInt8.toInt32) &&& (255 : Int32))), (.int (12 : Int32)), (.ref a3)]))
  refine own_to (fun t k => XS.i2c X149.here hx rfl (hb hby own_d15_25) rfl k) ?_
  show own_Fin _ _ _ _ _ _ (T149.setTop (mkF m 26 #[rv a2, own_i 13, rv a3, own_i 13, own_i 20, own_i 12] [(.int (((x12.toInt8.toInt32) &&& (255 : Int32)).toUInt32.toUInt16.toUInt32.toInt32)), (.int (12 : Int32)), (.ref a3)]))
  obtain ⟨cl152, Ar152, qa152, Sa152, Na152, Ha152, Ga152⟩ := id V149
  have hin153 : ¬ ((12 : Int32) < 0 ∨ cl152.slots.size ≤ ((12 : Int32)).toNatClampNeg) := inb_of Sa152 ⟨by decide, by decide⟩
  obtain ⟨T153, h153, X153, e153, W153, st153⟩ := stC X149 hx hZ e149 Ar152 (j := (12 : Int32)) hin153 (g := (mkF m 26 #[rv a2, own_i 13, rv a3, own_i 13, own_i 20, own_i 12] [(.int (((x12.toInt8.toInt32) &&& (255 : Int32)).toUInt32.toUInt16.toUInt32.toInt32)), (.int (12 : Int32)), (.ref a3)])) rfl rfl (hb hby own_d15_26)
  rw [own_inf hl12 hx12] at W153
  have N153 := Fr.snoc X153 N149 g_a3
  have KK153 : Keep h0 h153 [a3] := KK149.wr W153 (Or.inl (List.mem_of_getElem? (i := 0) rfl))
  have V2_e153 := V2_e149.other W153 ne23
  have V153 : Arv Z h153 a3 k2 .char (20 : Int32) [(.int x0), (.int x1), (.int x2), (.int x3), (.int x4), (.int x5), (.int x6), (.int x7), (.int x8), (.int x9), (.int x10), (.int x11), (.int x12), (.int (0 : Int32)), (.int (0 : Int32)), (.int (0 : Int32)), (.int (0 : Int32)), (.int (0 : Int32)), (.int (0 : Int32)), (.int (0 : Int32))] (.int (0 : Int32)) := Arv.set Ar152 qa152 Sa152 Na152 Ha152 Ga152 (own_fx hl12 hx12) W153 12 rfl (Nat.le_of_ble_eq_true rfl)
  have zs154 := (Nat.le_trans (Nat.le_trans (Nat.le_trans zs141 (Keep.of_wr W140).1) (Keep.of_wr W145).1) (Keep.of_wr W149).1)
  refine own_to (fun t k => st153 t k) ?_
  show own_Fin _ _ _ _ _ _ (T153.setTop (mkF m 27 #[rv a2, own_i 13, rv a3, own_i 13, own_i 20, own_i 12] []))
  refine own_to (fun t k => XS.iinc X153.here hx rfl (hb hby own_d15_27) rfl (l' := #[rv a2, own_i 13, rv a3, own_i 13, own_i 20, own_i 13]) rfl k) ?_
  show own_Fin _ _ _ _ _ _ (T153.setTop (mkF m 30 #[rv a2, own_i 13, rv a3, own_i 13, own_i 20, own_i 13] []))
  refine own_to (fun t k => XS.goto X153.here hx rfl (pc0 := 30) (pc' := 3) rfl (hb hby own_d15_30) (by decide) (by decide) k) ?_
  show own_Fin _ _ _ _ _ _ (T153.setTop (mkF m 3 #[rv a2, own_i 13, rv a3, own_i 13, own_i 20, own_i 13] []))
  refine own_to (fun t k => XS.iload X153.here hx rfl (hb hby own_d15_3) rfl k) ?_
  refine own_to (fun t k => XS.iload X153.here hx rfl (hb hby own_d15_5) rfl k) ?_
  refine own_to (fun t k => XS.icmpNo X153.here hx rfl (hb hby own_d15_7) rfl (tlt (by decide)).2.1 k) ?_
  show own_Fin _ _ _ _ _ _ (T153.setTop (mkF m 10 #[rv a2, own_i 13, rv a3, own_i 13, own_i 20, own_i 13] []))
  refine own_to (fun t k => XS.aloadN X153.here hx rfl (hb hby own_d15_10) rfl rfl k) ?_
  show own_Fin _ _ _ _ _ _ (T153.setTop (mkF m 11 #[rv a2, own_i 13, rv a3, own_i 13, own_i 20, own_i 13] [(.ref a3)]))
  refine own_to (fun t k => XS.iloadN X153.here hx rfl (hb hby own_d15_11) rfl k) ?_
  refine own_to (fun t k => XS.iinc X153.here hx rfl (hb hby own_d15_12) rfl (l' := #[rv a2, own_i 13, rv a3, own_i 14, own_i 20, own_i 13]) rfl k) ?_
  show own_Fin _ _ _ _ _ _ (T153.setTop (mkF m 15 #[rv a2, own_i 13, rv a3, own_i 14, own_i 20, own_i 13] [(.int (13 : Int32)), (.ref a3)]))
  refine own_to (fun t k => XS.aloadN X153.here hx rfl (hb hby own_d15_15) rfl rfl k) ?_
  refine own_to (fun t k => XS.iloadN X153.here hx rfl (hb hby own_d15_16) rfl k) ?_
  refine own_to (fun t k => XS.iinc X153.here hx rfl (hb hby own_d15_17) rfl (l' := #[rv a2, own_i 14, rv a3, own_i 14, own_i 20, own_i 13]) rfl k) ?_
  show own_Fin _ _ _ _ _ _ (T153.setTop (mkF m 20 #[rv a2, own_i 14, rv a3, own_i 14, own_i 20, own_i 13] [(.int (13 : Int32)), (.ref a2), (.int (13 : Int32)), (.ref a3)]))
  obtain ⟨cl155, Ar155, qa155, Sa155, Na155, Ha155, Ga155⟩ := id V2_e153
  have hin156 : ¬ ((13 : Int32) < 0 ∨ cl155.slots.size ≤ ((13 : Int32)).toNatClampNeg) := inb_of Sa155 ⟨by decide, by decide⟩
  refine own_to (fun t k => X153.baloadBytes hx (j := (13 : Int32)) (v := (.int (x13.toInt8.toInt32))) (by rw [e153]; exact Ar155.1) (State.isArrayOf_alike hZ.alike Ar155.2.1) Ar155.2.2 hin156 (Has.at Ha155 hin156 rfl) (g := (mkF m 20 #[rv a2, own_i 14, rv a3, own_i 14, own_i 20, own_i 13] [(.int (13 : Int32)), (.ref a2), (.int (13 : Int32)), (.ref a3)])) rfl rfl (hb hby own_d15_20) _ k) ?_
  show own_Fin _ _ _ _ _ _ (T153.setTop (mkF m 21 #[rv a2, own_i 14, rv a3, own_i 14, own_i 20, own_i 13] [(.int (x13.toInt8.toInt32)), (.int (13 : Int32)), (.ref a3)]))
  refine own_to (fun t k => XS.sipush X153.here hx rfl (hb hby own_d15_21) k) ?_
  refine own_to (fun t k => XS.iand X153.here hx rfl (hb hby own_d15_24) rfl k) ?_
  show own_Fin _ _ _ _ _ _ (T153.setTop (mkF m 25 #[rv a2, own_i 14, rv a3, own_i 14, own_i 20, own_i 13] [(.int ((x13.toInt8.toInt32) &&& (255 : Int32))), (.int (13 : Int32)), (.ref a3)]))
  refine own_to (fun t k => XS.i2c X153.here hx rfl (hb hby own_d15_25) rfl k) ?_
  show own_Fin _ _ _ _ _ _ (T153.setTop (mkF m 26 #[rv a2, own_i 14, rv a3, own_i 14, own_i 20, own_i 13] [(.int (((x13.toInt8.toInt32) &&& (255 : Int32)).toUInt32.toUInt16.toUInt32.toInt32)), (.int (13 : Int32)), (.ref a3)]))
  obtain ⟨cl157, Ar157, qa157, Sa157, Na157, Ha157, Ga157⟩ := id V153
  have hin158 : ¬ ((13 : Int32) < 0 ∨ cl157.slots.size ≤ ((13 : Int32)).toNatClampNeg) := inb_of Sa157 ⟨by decide, by decide⟩
  obtain ⟨T158, h158, X158, e158, W158, st158⟩ := stC X153 hx hZ e153 Ar157 (j := (13 : Int32)) hin158 (g := (mkF m 26 #[rv a2, own_i 14, rv a3, own_i 14, own_i 20, own_i 13] [(.int (((x13.toInt8.toInt32) &&& (255 : Int32)).toUInt32.toUInt16.toUInt32.toInt32)), (.int (13 : Int32)), (.ref a3)])) rfl rfl (hb hby own_d15_26)
  rw [own_inf hl13 hx13] at W158
  have N158 := Fr.snoc X158 N153 g_a3
  have KK158 : Keep h0 h158 [a3] := KK153.wr W158 (Or.inl (List.mem_of_getElem? (i := 0) rfl))
  have V2_e158 := V2_e153.other W158 ne23
  have V158 : Arv Z h158 a3 k2 .char (20 : Int32) [(.int x0), (.int x1), (.int x2), (.int x3), (.int x4), (.int x5), (.int x6), (.int x7), (.int x8), (.int x9), (.int x10), (.int x11), (.int x12), (.int x13), (.int (0 : Int32)), (.int (0 : Int32)), (.int (0 : Int32)), (.int (0 : Int32)), (.int (0 : Int32)), (.int (0 : Int32))] (.int (0 : Int32)) := Arv.set Ar157 qa157 Sa157 Na157 Ha157 Ga157 (own_fx hl13 hx13) W158 13 rfl (Nat.le_of_ble_eq_true rfl)
  refine own_to (fun t k => st158 t k) ?_
  show own_Fin _ _ _ _ _ _ (T158.setTop (mkF m 27 #[rv a2, own_i 14, rv a3, own_i 14, own_i 20, own_i 13] []))
  refine own_to (fun t k => XS.iinc X158.here hx rfl (hb hby own_d15_27) rfl (l' := #[rv a2, own_i 14, rv a3, own_i 14, own_i 20, own_i 14]) rfl k) ?_
  show own_Fin _ _ _ _ _ _ (T158.setTop (mkF m 30 #[rv a2, own_i 14, rv a3, own_i 14, own_i 20, own_i 14] []))
  refine own_to (fun t k => XS.goto X158.here hx rfl (pc0 := 30) (pc' := 3) rfl (hb hby own_d15_30) (by decide) (by decide) k) ?_
  show own_Fin _ _ _ _ _ _ (T158.setTop (mkF m 3 #[rv a2, own_i 14, rv a3, own_i 14, own_i 20, own_i 14] []))
  refine own_to (fun t k => XS.iload X158.here hx rfl (hb hby own_d15_3) rfl k) ?_
  refine own_to (fun t k => XS.iload X158.here hx rfl (hb hby own_d15_5) rfl k) ?_
  refine own_to (fun t k => XS.icmpNo X158.here hx rfl (hb hby own_d15_7) rfl (tlt (by decide)).2.1 k) ?_
  show own_Fin _ _ _ _ _ _ (T158.setTop (mkF m 10 #[rv a2, own_i 14, rv a3, own_i 14, own_i 20, own_i 14] []))
  refine own_to (fun t k => XS.aloadN X158.here hx rfl (hb hby own_d15_10) rfl rfl k) ?_
  show own_Fin _ _ _ _ _ _ (T158.setTop (mkF m 11 #[rv a2, own_i 14, rv a3, own_i 14, own_i 20, own_i 14] [(.ref a3)]))
  refine own_to (fun t k => XS.iloadN X158.here hx rfl (hb hby own_d15_11) rfl k) ?_
  refine own_to (fun t k => XS.iinc X158.here hx rfl (hb hby own_d15_12) rfl (l' := #[rv a2, own_i 14, rv a3, own_i 15, own_i 20, own_i 14]) rfl k) ?_
  show own_Fin _ _ _ _ _ _ (T158.setTop (mkF m 15 #[rv a2, own_i 14, rv a3, own_i 15, own_i 20, own_i 14] [(.int (14 : Int32)), (.ref a3)]))
  refine own_to (fun t k => XS.aloadN X158.here hx rfl (hb hby own_d15_15) rfl rfl k) ?_
  refine own_to (fun t k => XS.iloadN X158.here hx rfl (hb hby own_d15_16) rfl k) ?_
  refine own_to (fun t k => XS.iinc X158.here hx rfl (hb hby own_d15_17) rfl (l' := #[rv a2, own_i 15, rv a3, own_i 15, own_i 20, own_i 14]) rfl k) ?_
  show own_Fin _ _ _ _ _ _ (T158.setTop (mkF m 20 #[rv a2, own_i 15, rv a3, own_i 15, own_i 20, own_i 14] [(.int (14 : Int32)), (.ref a2), (.int (14 : Int32)), (.ref a3)]))
  obtain ⟨cl159, Ar159, qa159, Sa159, Na159, Ha159, Ga159⟩ := id V2_e158
  have hin160 : ¬ ((14 : Int32) < 0 ∨ cl159.slots.size ≤ ((14 : Int32)).toNatClampNeg) := inb_of Sa159 ⟨by decide, by decide⟩
  refine own_to (fun t k => X158.baloadBytes hx (j := (14 : Int32)) (v := (.int (x14.toInt8.toInt32))) (by rw [e158]; exact Ar159.1) (State.isArrayOf_alike hZ.alike Ar159.2.1) Ar159.2.2 hin160 (Has.at Ha159 hin160 rfl) (g := (mkF m 20 #[rv a2, own_i 15, rv a3, own_i 15, own_i 20, own_i 14] [(.int (14 : Int32)), (.ref a2), (.int (14 : Int32)), (.ref a3)])) rfl rfl (hb hby own_d15_20) _ k) ?_
  show own_Fin _ _ _ _ _ _ (T158.setTop (mkF m 21 #[rv a2, own_i 15, rv a3, own_i 15, own_i 20, own_i 14] [(.int (x14.toInt8.toInt32)), (.int (14 : Int32)), (.ref a3)]))
  refine own_to (fun t k => XS.sipush X158.here hx rfl (hb hby own_d15_21) k) ?_
  refine own_to (fun t k => XS.iand X158.here hx rfl (hb hby own_d15_24) rfl k) ?_
  show own_Fin _ _ _ _ _ _ (T158.setTop (mkF m 25 #[rv a2, own_i 15, rv a3, own_i 15, own_i 20, own_i 14] [(.int ((x14.toInt8.toInt32) &&& (255 : Int32))), (.int (14 : Int32)), (.ref a3)]))
  refine own_to (fun t k => XS.i2c X158.here hx rfl (hb hby own_d15_25) rfl k) ?_
  show own_Fin _ _ _ _ _ _ (T158.setTop (mkF m 26 #[rv a2, own_i 15, rv a3, own_i 15, own_i 20, own_i 14] [(.int (((x14.toInt8.toInt32) &&& (255 : Int32)).toUInt32.toUInt16.toUInt32.toInt32)), (.int (14 : Int32)), (.ref a3)]))
  obtain ⟨cl161, Ar161, qa161, Sa161, Na161, Ha161, Ga161⟩ := id V158
  have hin162 : ¬ ((14 : Int32) < 0 ∨ cl161.slots.size ≤ ((14 : Int32)).toNatClampNeg) := inb_of Sa161 ⟨by decide, by decide⟩
  obtain ⟨T162, h162, X162, e162, W162, st162⟩ := stC X158 hx hZ e158 Ar161 (j := (14 : Int32)) hin162 (g := (mkF m 26 #[rv a2, own_i 15, rv a3, own_i 15, own_i 20, own_i 14] [(.int (((x14.toInt8.toInt32) &&& (255 : Int32)).toUInt32.toUInt16.toUInt32.toInt32)), (.int (14 : Int32)), (.ref a3)])) rfl rfl (hb hby own_d15_26)
  rw [own_inf hl14 hx14] at W162
  have N162 := Fr.snoc X162 N158 g_a3
  have KK162 : Keep h0 h162 [a3] := KK158.wr W162 (Or.inl (List.mem_of_getElem? (i := 0) rfl))
  have V2_e162 := V2_e158.other W162 ne23
  have V162 : Arv Z h162 a3 k2 .char (20 : Int32) [(.int x0), (.int x1), (.int x2), (.int x3), (.int x4), (.int x5), (.int x6), (.int x7), (.int x8), (.int x9), (.int x10), (.int x11), (.int x12), (.int x13), (.int x14), (.int (0 : Int32)), (.int (0 : Int32)), (.int (0 : Int32)), (.int (0 : Int32)), (.int (0 : Int32))] (.int (0 : Int32)) := Arv.set Ar161 qa161 Sa161 Na161 Ha161 Ga161 (own_fx hl14 hx14) W162 14 rfl (Nat.le_of_ble_eq_true rfl)
  refine own_to (fun t k => st162 t k) ?_
  show own_Fin _ _ _ _ _ _ (T162.setTop (mkF m 27 #[rv a2, own_i 15, rv a3, own_i 15, own_i 20, own_i 14] []))
  refine own_to (fun t k => XS.iinc X162.here hx rfl (hb hby own_d15_27) rfl (l' := #[rv a2, own_i 15, rv a3, own_i 15, own_i 20, own_i 15]) rfl k) ?_
  show own_Fin _ _ _ _ _ _ (T162.setTop (mkF m 30 #[rv a2, own_i 15, rv a3, own_i 15, own_i 20, own_i 15] []))
  refine own_to (fun t k => XS.goto X162.here hx rfl (pc0 := 30) (pc' := 3) rfl (hb hby own_d15_30) (by decide) (by decide) k) ?_
  show own_Fin _ _ _ _ _ _ (T162.setTop (mkF m 3 #[rv a2, own_i 15, rv a3, own_i 15, own_i 20, own_i 15] []))
  refine own_to (fun t k => XS.iload X162.here hx rfl (hb hby own_d15_3) rfl k) ?_
  refine own_to (fun t k => XS.iload X162.here hx rfl (hb hby own_d15_5) rfl k) ?_
  refine own_to (fun t k => XS.icmpNo X162.here hx rfl (hb hby own_d15_7) rfl (tlt (by decide)).2.1 k) ?_
  show own_Fin _ _ _ _ _ _ (T162.setTop (mkF m 10 #[rv a2, own_i 15, rv a3, own_i 15, own_i 20, own_i 15] []))
  refine own_to (fun t k => XS.aloadN X162.here hx rfl (hb hby own_d15_10) rfl rfl k) ?_
  show own_Fin _ _ _ _ _ _ (T162.setTop (mkF m 11 #[rv a2, own_i 15, rv a3, own_i 15, own_i 20, own_i 15] [(.ref a3)]))
  refine own_to (fun t k => XS.iloadN X162.here hx rfl (hb hby own_d15_11) rfl k) ?_
  refine own_to (fun t k => XS.iinc X162.here hx rfl (hb hby own_d15_12) rfl (l' := #[rv a2, own_i 15, rv a3, own_i 16, own_i 20, own_i 15]) rfl k) ?_
  show own_Fin _ _ _ _ _ _ (T162.setTop (mkF m 15 #[rv a2, own_i 15, rv a3, own_i 16, own_i 20, own_i 15] [(.int (15 : Int32)), (.ref a3)]))
  refine own_to (fun t k => XS.aloadN X162.here hx rfl (hb hby own_d15_15) rfl rfl k) ?_
  refine own_to (fun t k => XS.iloadN X162.here hx rfl (hb hby own_d15_16) rfl k) ?_
  refine own_to (fun t k => XS.iinc X162.here hx rfl (hb hby own_d15_17) rfl (l' := #[rv a2, own_i 16, rv a3, own_i 16, own_i 20, own_i 15]) rfl k) ?_
  show own_Fin _ _ _ _ _ _ (T162.setTop (mkF m 20 #[rv a2, own_i 16, rv a3, own_i 16, own_i 20, own_i 15] [(.int (15 : Int32)), (.ref a2), (.int (15 : Int32)), (.ref a3)]))
  obtain ⟨cl163, Ar163, qa163, Sa163, Na163, Ha163, Ga163⟩ := id V2_e162
  have hin164 : ¬ ((15 : Int32) < 0 ∨ cl163.slots.size ≤ ((15 : Int32)).toNatClampNeg) := inb_of Sa163 ⟨by decide, by decide⟩
  refine own_to (fun t k => X162.baloadBytes hx (j := (15 : Int32)) (v := (.int (x15.toInt8.toInt32))) (by rw [e162]; exact Ar163.1) (State.isArrayOf_alike hZ.alike Ar163.2.1) Ar163.2.2 hin164 (Has.at Ha163 hin164 rfl) (g := (mkF m 20 #[rv a2, own_i 16, rv a3, own_i 16, own_i 20, own_i 15] [(.int (15 : Int32)), (.ref a2), (.int (15 : Int32)), (.ref a3)])) rfl rfl (hb hby own_d15_20) _ k) ?_
  show own_Fin _ _ _ _ _ _ (T162.setTop (mkF m 21 #[rv a2, own_i 16, rv a3, own_i 16, own_i 20, own_i 15] [(.int (x15.toInt8.toInt32)), (.int (15 : Int32)), (.ref a3)]))
  refine own_to (fun t k => XS.sipush X162.here hx rfl (hb hby own_d15_21) k) ?_
  refine own_to (fun t k => XS.iand X162.here hx rfl (hb hby own_d15_24) rfl k) ?_
  show own_Fin _ _ _ _ _ _ (T162.setTop (mkF m 25 #[rv a2, own_i 16, rv a3, own_i 16, own_i 20, own_i 15] [(.int ((x15.toInt8.toInt32) &&& (255 : Int32))), (.int (15 : Int32)), (.ref a3)]))
  refine own_to (fun t k => XS.i2c X162.here hx rfl (hb hby own_d15_25) rfl k) ?_
  show own_Fin _ _ _ _ _ _ (T162.setTop (mkF m 26 #[rv a2, own_i 16, rv a3, own_i 16, own_i 20, own_i 15] [(.int (((x15.toInt8.toInt32) &&& (255 : Int32)).toUInt32.toUInt16.toUInt32.toInt32)), (.int (15 : Int32)), (.ref a3)]))
  obtain ⟨cl165, Ar165, qa165, Sa165, Na165, Ha165, Ga165⟩ := id V162
  have hin166 : ¬ ((15 : Int32) < 0 ∨ cl165.slots.size ≤ ((15 : Int32)).toNatClampNeg) := inb_of Sa165 ⟨by decide, by decide⟩
  obtain ⟨T166, h166, X166, e166, W166, st166⟩ := stC X162 hx hZ e162 Ar165 (j := (15 : Int32)) hin166 (g := (mkF m 26 #[rv a2, own_i 16, rv a3, own_i 16, own_i 20, own_i 15] [(.int (((x15.toInt8.toInt32) &&& (255 : Int32)).toUInt32.toUInt16.toUInt32.toInt32)), (.int (15 : Int32)), (.ref a3)])) rfl rfl (hb hby own_d15_26)
  rw [own_inf hl15 hx15] at W166
  have N166 := Fr.snoc X166 N162 g_a3
  have KK166 : Keep h0 h166 [a3] := KK162.wr W166 (Or.inl (List.mem_of_getElem? (i := 0) rfl))
  have V2_e166 := V2_e162.other W166 ne23
  have V166 : Arv Z h166 a3 k2 .char (20 : Int32) [(.int x0), (.int x1), (.int x2), (.int x3), (.int x4), (.int x5), (.int x6), (.int x7), (.int x8), (.int x9), (.int x10), (.int x11), (.int x12), (.int x13), (.int x14), (.int x15), (.int (0 : Int32)), (.int (0 : Int32)), (.int (0 : Int32)), (.int (0 : Int32))] (.int (0 : Int32)) := Arv.set Ar165 qa165 Sa165 Na165 Ha165 Ga165 (own_fx hl15 hx15) W166 15 rfl (Nat.le_of_ble_eq_true rfl)
  have zs167 := (Nat.le_trans (Nat.le_trans (Nat.le_trans zs154 (Keep.of_wr W153).1) (Keep.of_wr W158).1) (Keep.of_wr W162).1)
  refine own_to (fun t k => st166 t k) ?_
  show own_Fin _ _ _ _ _ _ (T166.setTop (mkF m 27 #[rv a2, own_i 16, rv a3, own_i 16, own_i 20, own_i 15] []))
  refine own_to (fun t k => XS.iinc X166.here hx rfl (hb hby own_d15_27) rfl (l' := #[rv a2, own_i 16, rv a3, own_i 16, own_i 20, own_i 16]) rfl k) ?_
  show own_Fin _ _ _ _ _ _ (T166.setTop (mkF m 30 #[rv a2, own_i 16, rv a3, own_i 16, own_i 20, own_i 16] []))
  refine own_to (fun t k => XS.goto X166.here hx rfl (pc0 := 30) (pc' := 3) rfl (hb hby own_d15_30) (by decide) (by decide) k) ?_
  show own_Fin _ _ _ _ _ _ (T166.setTop (mkF m 3 #[rv a2, own_i 16, rv a3, own_i 16, own_i 20, own_i 16] []))
  refine own_to (fun t k => XS.iload X166.here hx rfl (hb hby own_d15_3) rfl k) ?_
  refine own_to (fun t k => XS.iload X166.here hx rfl (hb hby own_d15_5) rfl k) ?_
  refine own_to (fun t k => XS.icmpNo X166.here hx rfl (hb hby own_d15_7) rfl (tlt (by decide)).2.1 k) ?_
  show own_Fin _ _ _ _ _ _ (T166.setTop (mkF m 10 #[rv a2, own_i 16, rv a3, own_i 16, own_i 20, own_i 16] []))
  refine own_to (fun t k => XS.aloadN X166.here hx rfl (hb hby own_d15_10) rfl rfl k) ?_
  show own_Fin _ _ _ _ _ _ (T166.setTop (mkF m 11 #[rv a2, own_i 16, rv a3, own_i 16, own_i 20, own_i 16] [(.ref a3)]))
  refine own_to (fun t k => XS.iloadN X166.here hx rfl (hb hby own_d15_11) rfl k) ?_
  refine own_to (fun t k => XS.iinc X166.here hx rfl (hb hby own_d15_12) rfl (l' := #[rv a2, own_i 16, rv a3, own_i 17, own_i 20, own_i 16]) rfl k) ?_
  show own_Fin _ _ _ _ _ _ (T166.setTop (mkF m 15 #[rv a2, own_i 16, rv a3, own_i 17, own_i 20, own_i 16] [(.int (16 : Int32)), (.ref a3)]))
  refine own_to (fun t k => XS.aloadN X166.here hx rfl (hb hby own_d15_15) rfl rfl k) ?_
  refine own_to (fun t k => XS.iloadN X166.here hx rfl (hb hby own_d15_16) rfl k) ?_
  refine own_to (fun t k => XS.iinc X166.here hx rfl (hb hby own_d15_17) rfl (l' := #[rv a2, own_i 17, rv a3, own_i 17, own_i 20, own_i 16]) rfl k) ?_
  show own_Fin _ _ _ _ _ _ (T166.setTop (mkF m 20 #[rv a2, own_i 17, rv a3, own_i 17, own_i 20, own_i 16] [(.int (16 : Int32)), (.ref a2), (.int (16 : Int32)), (.ref a3)]))
  obtain ⟨cl168, Ar168, qa168, Sa168, Na168, Ha168, Ga168⟩ := id V2_e166
  have hin169 : ¬ ((16 : Int32) < 0 ∨ cl168.slots.size ≤ ((16 : Int32)).toNatClampNeg) := inb_of Sa168 ⟨by decide, by decide⟩
  refine own_to (fun t k => X166.baloadBytes hx (j := (16 : Int32)) (v := (.int (x16.toInt8.toInt32))) (by rw [e166]; exact Ar168.1) (State.isArrayOf_alike hZ.alike Ar168.2.1) Ar168.2.2 hin169 (Has.at Ha168 hin169 rfl) (g := (mkF m 20 #[rv a2, own_i 17, rv a3, own_i 17, own_i 20, own_i 16] [(.int (16 : Int32)), (.ref a2), (.int (16 : Int32)), (.ref a3)])) rfl rfl (hb hby own_d15_20) _ k) ?_
  show own_Fin _ _ _ _ _ _ (T166.setTop (mkF m 21 #[rv a2, own_i 17, rv a3, own_i 17, own_i 20, own_i 16] [(.int (x16.toInt8.toInt32)), (.int (16 : Int32)), (.ref a3)]))
  refine own_to (fun t k => XS.sipush X166.here hx rfl (hb hby own_d15_21) k) ?_
  refine own_to (fun t k => XS.iand X166.here hx rfl (hb hby own_d15_24) rfl k) ?_
  show own_Fin _ _ _ _ _ _ (T166.setTop (mkF m 25 #[rv a2, own_i 17, rv a3, own_i 17, own_i 20, own_i 16] [(.int ((x16.toInt8.toInt32) &&& (255 : Int32))), (.int (16 : Int32)), (.ref a3)]))
  refine own_to (fun t k => XS.i2c X166.here hx rfl (hb hby own_d15_25) rfl k) ?_
  show own_Fin _ _ _ _ _ _ (T166.setTop (mkF m 26 #[rv a2, own_i 17, rv a3, own_i 17, own_i 20, own_i 16] [(.int (((x16.toInt8.toInt32) &&& (255 : Int32)).toUInt32.toUInt16.toUInt32.toInt32)), (.int (16 : Int32)), (.ref a3)]))
  obtain ⟨cl170, Ar170, qa170, Sa170, Na170, Ha170, Ga170⟩ := id V166
  have hin171 : ¬ ((16 : Int32) < 0 ∨ cl170.slots.size ≤ ((16 : Int32)).toNatClampNeg) := inb_of Sa170 ⟨by decide, by decide⟩
  obtain ⟨T171, h171, X171, e171, W171, st171⟩ := stC X166 hx hZ e166 Ar170 (j := (16 : Int32)) hin171 (g := (mkF m 26 #[rv a2, own_i 17, rv a3, own_i 17, own_i 20, own_i 16] [(.int (((x16.toInt8.toInt32) &&& (255 : Int32)).toUInt32.toUInt16.toUInt32.toInt32)), (.int (16 : Int32)), (.ref a3)])) rfl rfl (hb hby own_d15_26)
  rw [own_inf hl16 hx16] at W171
  have N171 := Fr.snoc X171 N166 g_a3
  have KK171 : Keep h0 h171 [a3] := KK166.wr W171 (Or.inl (List.mem_of_getElem? (i := 0) rfl))
  have V2_e171 := V2_e166.other W171 ne23
  have V171 : Arv Z h171 a3 k2 .char (20 : Int32) [(.int x0), (.int x1), (.int x2), (.int x3), (.int x4), (.int x5), (.int x6), (.int x7), (.int x8), (.int x9), (.int x10), (.int x11), (.int x12), (.int x13), (.int x14), (.int x15), (.int x16), (.int (0 : Int32)), (.int (0 : Int32)), (.int (0 : Int32))] (.int (0 : Int32)) := Arv.set Ar170 qa170 Sa170 Na170 Ha170 Ga170 (own_fx hl16 hx16) W171 16 rfl (Nat.le_of_ble_eq_true rfl)
  refine own_to (fun t k => st171 t k) ?_
  show own_Fin _ _ _ _ _ _ (T171.setTop (mkF m 27 #[rv a2, own_i 17, rv a3, own_i 17, own_i 20, own_i 16] []))
  refine own_to (fun t k => XS.iinc X171.here hx rfl (hb hby own_d15_27) rfl (l' := #[rv a2, own_i 17, rv a3, own_i 17, own_i 20, own_i 17]) rfl k) ?_
  show own_Fin _ _ _ _ _ _ (T171.setTop (mkF m 30 #[rv a2, own_i 17, rv a3, own_i 17, own_i 20, own_i 17] []))
  refine own_to (fun t k => XS.goto X171.here hx rfl (pc0 := 30) (pc' := 3) rfl (hb hby own_d15_30) (by decide) (by decide) k) ?_
  show own_Fin _ _ _ _ _ _ (T171.setTop (mkF m 3 #[rv a2, own_i 17, rv a3, own_i 17, own_i 20, own_i 17] []))
  refine own_to (fun t k => XS.iload X171.here hx rfl (hb hby own_d15_3) rfl k) ?_
  refine own_to (fun t k => XS.iload X171.here hx rfl (hb hby own_d15_5) rfl k) ?_
  refine own_to (fun t k => XS.icmpNo X171.here hx rfl (hb hby own_d15_7) rfl (tlt (by decide)).2.1 k) ?_
  show own_Fin _ _ _ _ _ _ (T171.setTop (mkF m 10 #[rv a2, own_i 17, rv a3, own_i 17, own_i 20, own_i 17] []))
  refine own_to (fun t k => XS.aloadN X171.here hx rfl (hb hby own_d15_10) rfl rfl k) ?_
  show own_Fin _ _ _ _ _ _ (T171.setTop (mkF m 11 #[rv a2, own_i 17, rv a3, own_i 17, own_i 20, own_i 17] [(.ref a3)]))
  refine own_to (fun t k => XS.iloadN X171.here hx rfl (hb hby own_d15_11) rfl k) ?_
  refine own_to (fun t k => XS.iinc X171.here hx rfl (hb hby own_d15_12) rfl (l' := #[rv a2, own_i 17, rv a3, own_i 18, own_i 20, own_i 17]) rfl k) ?_
  show own_Fin _ _ _ _ _ _ (T171.setTop (mkF m 15 #[rv a2, own_i 17, rv a3, own_i 18, own_i 20, own_i 17] [(.int (17 : Int32)), (.ref a3)]))
  refine own_to (fun t k => XS.aloadN X171.here hx rfl (hb hby own_d15_15) rfl rfl k) ?_
  refine own_to (fun t k => XS.iloadN X171.here hx rfl (hb hby own_d15_16) rfl k) ?_
  refine own_to (fun t k => XS.iinc X171.here hx rfl (hb hby own_d15_17) rfl (l' := #[rv a2, own_i 18, rv a3, own_i 18, own_i 20, own_i 17]) rfl k) ?_
  show own_Fin _ _ _ _ _ _ (T171.setTop (mkF m 20 #[rv a2, own_i 18, rv a3, own_i 18, own_i 20, own_i 17] [(.int (17 : Int32)), (.ref a2), (.int (17 : Int32)), (.ref a3)]))
  obtain ⟨cl172, Ar172, qa172, Sa172, Na172, Ha172, Ga172⟩ := id V2_e171
  have hin173 : ¬ ((17 : Int32) < 0 ∨ cl172.slots.size ≤ ((17 : Int32)).toNatClampNeg) := inb_of Sa172 ⟨by decide, by decide⟩
  refine own_to (fun t k => X171.baloadBytes hx (j := (17 : Int32)) (v := (.int (x17.toInt8.toInt32))) (by rw [e171]; exact Ar172.1) (State.isArrayOf_alike hZ.alike Ar172.2.1) Ar172.2.2 hin173 (Has.at Ha172 hin173 rfl) (g := (mkF m 20 #[rv a2, own_i 18, rv a3, own_i 18, own_i 20, own_i 17] [(.int (17 : Int32)), (.ref a2), (.int (17 : Int32)), (.ref a3)])) rfl rfl (hb hby own_d15_20) _ k) ?_
  show own_Fin _ _ _ _ _ _ (T171.setTop (mkF m 21 #[rv a2, own_i 18, rv a3, own_i 18, own_i 20, own_i 17] [(.int (x17.toInt8.toInt32)), (.int (17 : Int32)), (.ref a3)]))
  refine own_to (fun t k => XS.sipush X171.here hx rfl (hb hby own_d15_21) k) ?_
  refine own_to (fun t k => XS.iand X171.here hx rfl (hb hby own_d15_24) rfl k) ?_
  show own_Fin _ _ _ _ _ _ (T171.setTop (mkF m 25 #[rv a2, own_i 18, rv a3, own_i 18, own_i 20, own_i 17] [(.int ((x17.toInt8.toInt32) &&& (255 : Int32))), (.int (17 : Int32)), (.ref a3)]))
  refine own_to (fun t k => XS.i2c X171.here hx rfl (hb hby own_d15_25) rfl k) ?_
  show own_Fin _ _ _ _ _ _ (T171.setTop (mkF m 26 #[rv a2, own_i 18, rv a3, own_i 18, own_i 20, own_i 17] [(.int (((x17.toInt8.toInt32) &&& (255 : Int32)).toUInt32.toUInt16.toUInt32.toInt32)), (.int (17 : Int32)), (.ref a3)]))
  obtain ⟨cl174, Ar174, qa174, Sa174, Na174, Ha174, Ga174⟩ := id V171
  have hin175 : ¬ ((17 : Int32) < 0 ∨ cl174.slots.size ≤ ((17 : Int32)).toNatClampNeg) := inb_of Sa174 ⟨by decide, by decide⟩
  obtain ⟨T175, h175, X175, e175, W175, st175⟩ := stC X171 hx hZ e171 Ar174 (j := (17 : Int32)) hin175 (g := (mkF m 26 #[rv a2, own_i 18, rv a3, own_i 18, own_i 20, own_i 17] [(.int (((x17.toInt8.toInt32) &&& (255 : Int32)).toUInt32.toUInt16.toUInt32.toInt32)), (.int (17 : Int32)), (.ref a3)])) rfl rfl (hb hby own_d15_26)
  rw [own_inf hl17 hx17] at W175
  have N175 := Fr.snoc X175 N171 g_a3
  have KK175 : Keep h0 h175 [a3] := KK171.wr W175 (Or.inl (List.mem_of_getElem? (i := 0) rfl))
  have V2_e175 := V2_e171.other W175 ne23
  have V175 : Arv Z h175 a3 k2 .char (20 : Int32) [(.int x0), (.int x1), (.int x2), (.int x3), (.int x4), (.int x5), (.int x6), (.int x7), (.int x8), (.int x9), (.int x10), (.int x11), (.int x12), (.int x13), (.int x14), (.int x15), (.int x16), (.int x17), (.int (0 : Int32)), (.int (0 : Int32))] (.int (0 : Int32)) := Arv.set Ar174 qa174 Sa174 Na174 Ha174 Ga174 (own_fx hl17 hx17) W175 17 rfl (Nat.le_of_ble_eq_true rfl)
  refine own_to (fun t k => st175 t k) ?_
  show own_Fin _ _ _ _ _ _ (T175.setTop (mkF m 27 #[rv a2, own_i 18, rv a3, own_i 18, own_i 20, own_i 17] []))
  refine own_to (fun t k => XS.iinc X175.here hx rfl (hb hby own_d15_27) rfl (l' := #[rv a2, own_i 18, rv a3, own_i 18, own_i 20, own_i 18]) rfl k) ?_
  show own_Fin _ _ _ _ _ _ (T175.setTop (mkF m 30 #[rv a2, own_i 18, rv a3, own_i 18, own_i 20, own_i 18] []))
  refine own_to (fun t k => XS.goto X175.here hx rfl (pc0 := 30) (pc' := 3) rfl (hb hby own_d15_30) (by decide) (by decide) k) ?_
  show own_Fin _ _ _ _ _ _ (T175.setTop (mkF m 3 #[rv a2, own_i 18, rv a3, own_i 18, own_i 20, own_i 18] []))
  refine own_to (fun t k => XS.iload X175.here hx rfl (hb hby own_d15_3) rfl k) ?_
  refine own_to (fun t k => XS.iload X175.here hx rfl (hb hby own_d15_5) rfl k) ?_
  refine own_to (fun t k => XS.icmpNo X175.here hx rfl (hb hby own_d15_7) rfl (tlt (by decide)).2.1 k) ?_
  show own_Fin _ _ _ _ _ _ (T175.setTop (mkF m 10 #[rv a2, own_i 18, rv a3, own_i 18, own_i 20, own_i 18] []))
  refine own_to (fun t k => XS.aloadN X175.here hx rfl (hb hby own_d15_10) rfl rfl k) ?_
  show own_Fin _ _ _ _ _ _ (T175.setTop (mkF m 11 #[rv a2, own_i 18, rv a3, own_i 18, own_i 20, own_i 18] [(.ref a3)]))
  refine own_to (fun t k => XS.iloadN X175.here hx rfl (hb hby own_d15_11) rfl k) ?_
  refine own_to (fun t k => XS.iinc X175.here hx rfl (hb hby own_d15_12) rfl (l' := #[rv a2, own_i 18, rv a3, own_i 19, own_i 20, own_i 18]) rfl k) ?_
  show own_Fin _ _ _ _ _ _ (T175.setTop (mkF m 15 #[rv a2, own_i 18, rv a3, own_i 19, own_i 20, own_i 18] [(.int (18 : Int32)), (.ref a3)]))
  refine own_to (fun t k => XS.aloadN X175.here hx rfl (hb hby own_d15_15) rfl rfl k) ?_
  refine own_to (fun t k => XS.iloadN X175.here hx rfl (hb hby own_d15_16) rfl k) ?_
  refine own_to (fun t k => XS.iinc X175.here hx rfl (hb hby own_d15_17) rfl (l' := #[rv a2, own_i 19, rv a3, own_i 19, own_i 20, own_i 18]) rfl k) ?_
  show own_Fin _ _ _ _ _ _ (T175.setTop (mkF m 20 #[rv a2, own_i 19, rv a3, own_i 19, own_i 20, own_i 18] [(.int (18 : Int32)), (.ref a2), (.int (18 : Int32)), (.ref a3)]))
  obtain ⟨cl176, Ar176, qa176, Sa176, Na176, Ha176, Ga176⟩ := id V2_e175
  have hin177 : ¬ ((18 : Int32) < 0 ∨ cl176.slots.size ≤ ((18 : Int32)).toNatClampNeg) := inb_of Sa176 ⟨by decide, by decide⟩
  refine own_to (fun t k => X175.baloadBytes hx (j := (18 : Int32)) (v := (.int (x18.toInt8.toInt32))) (by rw [e175]; exact Ar176.1) (State.isArrayOf_alike hZ.alike Ar176.2.1) Ar176.2.2 hin177 (Has.at Ha176 hin177 rfl) (g := (mkF m 20 #[rv a2, own_i 19, rv a3, own_i 19, own_i 20, own_i 18] [(.int (18 : Int32)), (.ref a2), (.int (18 : Int32)), (.ref a3)])) rfl rfl (hb hby own_d15_20) _ k) ?_
  show own_Fin _ _ _ _ _ _ (T175.setTop (mkF m 21 #[rv a2, own_i 19, rv a3, own_i 19, own_i 20, own_i 18] [(.int (x18.toInt8.toInt32)), (.int (18 : Int32)), (.ref a3)]))
  refine own_to (fun t k => XS.sipush X175.here hx rfl (hb hby own_d15_21) k) ?_
  refine own_to (fun t k => XS.iand X175.here hx rfl (hb hby own_d15_24) rfl k) ?_
  show own_Fin _ _ _ _ _ _ (T175.setTop (mkF m 25 #[rv a2, own_i 19, rv a3, own_i 19, own_i 20, own_i 18] [(.int ((x18.toInt8.toInt32) &&& (255 : Int32))), (.int (18 : Int32)), (.ref a3)]))
  refine own_to (fun t k => XS.i2c X175.here hx rfl (hb hby own_d15_25) rfl k) ?_
  show own_Fin _ _ _ _ _ _ (T175.setTop (mkF m 26 #[rv a2, own_i 19, rv a3, own_i 19, own_i 20, own_i 18] [(.int (((x18.toInt8.toInt32) &&& (255 : Int32)).toUInt32.toUInt16.toUInt32.toInt32)), (.int (18 : Int32)), (.ref a3)]))
  obtain ⟨cl178, Ar178, qa178, Sa178, Na178, Ha178, Ga178⟩ := id V175
  have hin179 : ¬ ((18 : Int32) < 0 ∨ cl178.slots.size ≤ ((18 : Int32)).toNatClampNeg) := inb_of Sa178 ⟨by decide, by decide⟩
  obtain ⟨T179, h179, X179, e179, W179, st179⟩ := stC X175 hx hZ e175 Ar178 (j := (18 : Int32)) hin179 (g := (mkF m 26 #[rv a2, own_i 19, rv a3, own_i 19, own_i 20, own_i 18] [(.int (((x18.toInt8.toInt32) &&& (255 : Int32)).toUInt32.toUInt16.toUInt32.toInt32)), (.int (18 : Int32)), (.ref a3)])) rfl rfl (hb hby own_d15_26)
  rw [own_inf hl18 hx18] at W179
  have N179 := Fr.snoc X179 N175 g_a3
  have KK179 : Keep h0 h179 [a3] := KK175.wr W179 (Or.inl (List.mem_of_getElem? (i := 0) rfl))
  have V2_e179 := V2_e175.other W179 ne23
  have V179 : Arv Z h179 a3 k2 .char (20 : Int32) [(.int x0), (.int x1), (.int x2), (.int x3), (.int x4), (.int x5), (.int x6), (.int x7), (.int x8), (.int x9), (.int x10), (.int x11), (.int x12), (.int x13), (.int x14), (.int x15), (.int x16), (.int x17), (.int x18), (.int (0 : Int32))] (.int (0 : Int32)) := Arv.set Ar178 qa178 Sa178 Na178 Ha178 Ga178 (own_fx hl18 hx18) W179 18 rfl (Nat.le_of_ble_eq_true rfl)
  have zs180 := (Nat.le_trans (Nat.le_trans (Nat.le_trans zs167 (Keep.of_wr W166).1) (Keep.of_wr W171).1) (Keep.of_wr W175).1)
  refine own_to (fun t k => st179 t k) ?_
  show own_Fin _ _ _ _ _ _ (T179.setTop (mkF m 27 #[rv a2, own_i 19, rv a3, own_i 19, own_i 20, own_i 18] []))
  refine own_to (fun t k => XS.iinc X179.here hx rfl (hb hby own_d15_27) rfl (l' := #[rv a2, own_i 19, rv a3, own_i 19, own_i 20, own_i 19]) rfl k) ?_
  show own_Fin _ _ _ _ _ _ (T179.setTop (mkF m 30 #[rv a2, own_i 19, rv a3, own_i 19, own_i 20, own_i 19] []))
  refine own_to (fun t k => XS.goto X179.here hx rfl (pc0 := 30) (pc' := 3) rfl (hb hby own_d15_30) (by decide) (by decide) k) ?_
  show own_Fin _ _ _ _ _ _ (T179.setTop (mkF m 3 #[rv a2, own_i 19, rv a3, own_i 19, own_i 20, own_i 19] []))
  refine own_to (fun t k => XS.iload X179.here hx rfl (hb hby own_d15_3) rfl k) ?_
  refine own_to (fun t k => XS.iload X179.here hx rfl (hb hby own_d15_5) rfl k) ?_
  refine own_to (fun t k => XS.icmpNo X179.here hx rfl (hb hby own_d15_7) rfl (tlt (by decide)).2.1 k) ?_
  show own_Fin _ _ _ _ _ _ (T179.setTop (mkF m 10 #[rv a2, own_i 19, rv a3, own_i 19, own_i 20, own_i 19] []))
  refine own_to (fun t k => XS.aloadN X179.here hx rfl (hb hby own_d15_10) rfl rfl k) ?_
  show own_Fin _ _ _ _ _ _ (T179.setTop (mkF m 11 #[rv a2, own_i 19, rv a3, own_i 19, own_i 20, own_i 19] [(.ref a3)]))
  refine own_to (fun t k => XS.iloadN X179.here hx rfl (hb hby own_d15_11) rfl k) ?_
  refine own_to (fun t k => XS.iinc X179.here hx rfl (hb hby own_d15_12) rfl (l' := #[rv a2, own_i 19, rv a3, own_i 20, own_i 20, own_i 19]) rfl k) ?_
  show own_Fin _ _ _ _ _ _ (T179.setTop (mkF m 15 #[rv a2, own_i 19, rv a3, own_i 20, own_i 20, own_i 19] [(.int (19 : Int32)), (.ref a3)]))
  refine own_to (fun t k => XS.aloadN X179.here hx rfl (hb hby own_d15_15) rfl rfl k) ?_
  refine own_to (fun t k => XS.iloadN X179.here hx rfl (hb hby own_d15_16) rfl k) ?_
  refine own_to (fun t k => XS.iinc X179.here hx rfl (hb hby own_d15_17) rfl (l' := #[rv a2, own_i 20, rv a3, own_i 20, own_i 20, own_i 19]) rfl k) ?_
  show own_Fin _ _ _ _ _ _ (T179.setTop (mkF m 20 #[rv a2, own_i 20, rv a3, own_i 20, own_i 20, own_i 19] [(.int (19 : Int32)), (.ref a2), (.int (19 : Int32)), (.ref a3)]))
  obtain ⟨cl181, Ar181, qa181, Sa181, Na181, Ha181, Ga181⟩ := id V2_e179
  have hin182 : ¬ ((19 : Int32) < 0 ∨ cl181.slots.size ≤ ((19 : Int32)).toNatClampNeg) := inb_of Sa181 ⟨by decide, by decide⟩
  refine own_to (fun t k => X179.baloadBytes hx (j := (19 : Int32)) (v := (.int (x19.toInt8.toInt32))) (by rw [e179]; exact Ar181.1) (State.isArrayOf_alike hZ.alike Ar181.2.1) Ar181.2.2 hin182 (Has.at Ha181 hin182 rfl) (g := (mkF m 20 #[rv a2, own_i 20, rv a3, own_i 20, own_i 20, own_i 19] [(.int (19 : Int32)), (.ref a2), (.int (19 : Int32)), (.ref a3)])) rfl rfl (hb hby own_d15_20) _ k) ?_
  show own_Fin _ _ _ _ _ _ (T179.setTop (mkF m 21 #[rv a2, own_i 20, rv a3, own_i 20, own_i 20, own_i 19] [(.int (x19.toInt8.toInt32)), (.int (19 : Int32)), (.ref a3)]))
  refine own_to (fun t k => XS.sipush X179.here hx rfl (hb hby own_d15_21) k) ?_
  refine own_to (fun t k => XS.iand X179.here hx rfl (hb hby own_d15_24) rfl k) ?_
  show own_Fin _ _ _ _ _ _ (T179.setTop (mkF m 25 #[rv a2, own_i 20, rv a3, own_i 20, own_i 20, own_i 19] [(.int ((x19.toInt8.toInt32) &&& (255 : Int32))), (.int (19 : Int32)), (.ref a3)]))
  refine own_to (fun t k => XS.i2c X179.here hx rfl (hb hby own_d15_25) rfl k) ?_
  show own_Fin _ _ _ _ _ _ (T179.setTop (mkF m 26 #[rv a2, own_i 20, rv a3, own_i 20, own_i 20, own_i 19] [(.int (((x19.toInt8.toInt32) &&& (255 : Int32)).toUInt32.toUInt16.toUInt32.toInt32)), (.int (19 : Int32)), (.ref a3)]))
  obtain ⟨cl183, Ar183, qa183, Sa183, Na183, Ha183, Ga183⟩ := id V179
  have hin184 : ¬ ((19 : Int32) < 0 ∨ cl183.slots.size ≤ ((19 : Int32)).toNatClampNeg) := inb_of Sa183 ⟨by decide, by decide⟩
  obtain ⟨T184, h184, X184, e184, W184, st184⟩ := stC X179 hx hZ e179 Ar183 (j := (19 : Int32)) hin184 (g := (mkF m 26 #[rv a2, own_i 20, rv a3, own_i 20, own_i 20, own_i 19] [(.int (((x19.toInt8.toInt32) &&& (255 : Int32)).toUInt32.toUInt16.toUInt32.toInt32)), (.int (19 : Int32)), (.ref a3)])) rfl rfl (hb hby own_d15_26)
  rw [own_inf hl19 hx19] at W184
  have N184 := Fr.snoc X184 N179 g_a3
  have KK184 : Keep h0 h184 [a3] := KK179.wr W184 (Or.inl (List.mem_of_getElem? (i := 0) rfl))
  have V2_e184 := V2_e179.other W184 ne23
  have V184 : Arv Z h184 a3 k2 .char (20 : Int32) [(.int x0), (.int x1), (.int x2), (.int x3), (.int x4), (.int x5), (.int x6), (.int x7), (.int x8), (.int x9), (.int x10), (.int x11), (.int x12), (.int x13), (.int x14), (.int x15), (.int x16), (.int x17), (.int x18), (.int x19)] (.int (0 : Int32)) := Arv.set Ar183 qa183 Sa183 Na183 Ha183 Ga183 (own_fx hl19 hx19) W184 19 rfl (Nat.le_of_ble_eq_true rfl)
  refine own_to (fun t k => st184 t k) ?_
  show own_Fin _ _ _ _ _ _ (T184.setTop (mkF m 27 #[rv a2, own_i 20, rv a3, own_i 20, own_i 20, own_i 19] []))
  refine own_to (fun t k => XS.iinc X184.here hx rfl (hb hby own_d15_27) rfl (l' := #[rv a2, own_i 20, rv a3, own_i 20, own_i 20, own_i 20]) rfl k) ?_
  show own_Fin _ _ _ _ _ _ (T184.setTop (mkF m 30 #[rv a2, own_i 20, rv a3, own_i 20, own_i 20, own_i 20] []))
  refine own_to (fun t k => XS.goto X184.here hx rfl (pc0 := 30) (pc' := 3) rfl (hb hby own_d15_30) (by decide) (by decide) k) ?_
  show own_Fin _ _ _ _ _ _ (T184.setTop (mkF m 3 #[rv a2, own_i 20, rv a3, own_i 20, own_i 20, own_i 20] []))
  refine own_to (fun t k => XS.iload X184.here hx rfl (hb hby own_d15_3) rfl k) ?_
  refine own_to (fun t k => XS.iload X184.here hx rfl (hb hby own_d15_5) rfl k) ?_
  refine own_to (fun t k => XS.icmpYes X184.here hx rfl (pc0 := 7) (pc' := 33) rfl (hb hby own_d15_7) rfl (flt (Int32.lt_irrefl)).2.1 (by decide) (by decide) k) ?_
  show own_Fin _ _ _ _ _ _ (T184.setTop (mkF m 33 #[rv a2, own_i 20, rv a3, own_i 20, own_i 20, own_i 20] []))
  refine own_retV X184 hx hlk hret (hb hby own_d15_33) (by decide) (by decide) ?_
  try rw [e184]
  exact ⟨rfl, N184, KK184, V184⟩
theorem own_d14_0 : decode jdk_43_method_9_code 0 = .ok (.aload_n 0, 1) := by decide +kernel
theorem own_d14_1 : decode jdk_43_method_9_code 1 = .ok (.arraylength, 1) := by decide +kernel
theorem own_d14_2 : decode jdk_43_method_9_code 2 = .ok (.newarray .char, 2) := by decide +kernel
theorem own_d14_4 : decode jdk_43_method_9_code 4 = .ok (.astore_n 1, 1) := by decide +kernel
theorem own_d14_5 : decode jdk_43_method_9_code 5 = .ok (.aload_n 0, 1) := by decide +kernel
theorem own_d14_6 : decode jdk_43_method_9_code 6 = .ok (.iconst 0, 1) := by decide +kernel
theorem own_d14_7 : decode jdk_43_method_9_code 7 = .ok (.aload_n 1, 1) := by decide +kernel
theorem own_d14_8 : decode jdk_43_method_9_code 8 = .ok (.iconst 0, 1) := by decide +kernel
theorem own_d14_9 : decode jdk_43_method_9_code 9 = .ok (.aload_n 0, 1) := by decide +kernel
theorem own_d14_10 : decode jdk_43_method_9_code 10 = .ok (.arraylength, 1) := by decide +kernel
theorem own_d14_11 : decode jdk_43_method_9_code 11 = .ok (.invokestatic 13, 3) := by decide +kernel
theorem own_d14_14 : decode jdk_43_method_9_code 14 = .ok (.aload_n 1, 1) := by decide +kernel
theorem own_d14_15 : decode jdk_43_method_9_code 15 = .ok (.areturn, 1) := by decide +kernel
theorem own_pd5 : parseMethodDescriptor "([BI[CII)V" = some ⟨[(.array .byte), .int, (.array .char), .int, .int], none⟩ := by decide +kernel
theorem own_tch_ef (m : MethodId) (a2 : Addr) : entryFrame m #[(.ref a2)] 2 = mkF m 0 #[rv a2, .unset] [] := by first | (simp [entryFrame, mkF, argsToLocals, Value.category]; done) | rfl
set_option maxRecDepth 65536 in
set_option maxHeartbeats 40000000 in
theorem own_tch (l : Launch) (Z : State) (a0 : Array Value) (hw : ∀ d ∈ tables_1, d.before a0 Z = true) (ws : List Jvm.Cond) (a2 : Addr) (k3 : ClassId) (x0 : Int32) (x1 : Int32) (x2 : Int32) (x3 : Int32) (x4 : Int32) (x5 : Int32) (x6 : Int32) (x7 : Int32) (x8 : Int32) (x9 : Int32) (x10 : Int32) (x11 : Int32) (x12 : Int32) (x13 : Int32) (x14 : Int32) (x15 : Int32) (x16 : Int32) (x17 : Int32) (x18 : Int32) (x19 : Int32) (h0 : Heap) (n0 : Nat) (Z0 : n0 ≤ h0.size) (V2 : Arv Z h0 a2 k3 .byte (20 : Int32) [(.int (x0.toInt8.toInt32)), (.int (x1.toInt8.toInt32)), (.int (x2.toInt8.toInt32)), (.int (x3.toInt8.toInt32)), (.int (x4.toInt8.toInt32)), (.int (x5.toInt8.toInt32)), (.int (x6.toInt8.toInt32)), (.int (x7.toInt8.toInt32)), (.int (x8.toInt8.toInt32)), (.int (x9.toInt8.toInt32)), (.int (x10.toInt8.toInt32)), (.int (x11.toInt8.toInt32)), (.int (x12.toInt8.toInt32)), (.int (x13.toInt8.toInt32)), (.int (x14.toInt8.toInt32)), (.int (x15.toInt8.toInt32)), (.int (x16.toInt8.toInt32)), (.int (x17.toInt8.toInt32)), (.int (x18.toInt8.toInt32)), (.int (x19.toInt8.toInt32))] (.int (0 : Int32))) (hx0 : ¬ (255 : Int32) < x0) (hx1 : ¬ (255 : Int32) < x1) (hx2 : ¬ (255 : Int32) < x2) (hx3 : ¬ (255 : Int32) < x3) (hx4 : ¬ (255 : Int32) < x4) (hx5 : ¬ (255 : Int32) < x5) (hx6 : ¬ (255 : Int32) < x6) (hx7 : ¬ (255 : Int32) < x7) (hx8 : ¬ (255 : Int32) < x8) (hx9 : ¬ (255 : Int32) < x9) (hx10 : ¬ (255 : Int32) < x10) (hx11 : ¬ (255 : Int32) < x11) (hx12 : ¬ (255 : Int32) < x12) (hx13 : ¬ (255 : Int32) < x13) (hx14 : ¬ (255 : Int32) < x14) (hx15 : ¬ (255 : Int32) < x15) (hx16 : ¬ (255 : Int32) < x16) (hx17 : ¬ (255 : Int32) < x17) (hx18 : ¬ (255 : Int32) < x18) (hx19 : ¬ (255 : Int32) < x19) (hl0 : ¬ x0 < 0) (hl1 : ¬ x1 < 0) (hl2 : ¬ x2 < 0) (hl3 : ¬ x3 < 0) (hl4 : ¬ x4 < 0) (hl5 : ¬ x5 < 0) (hl6 : ¬ x6 < 0) (hl7 : ¬ x7 < 0) (hl8 : ¬ x8 < 0) (hl9 : ¬ x9 < 0) (hl10 : ¬ x10 < 0) (hl11 : ¬ x11 < 0) (hl12 : ¬ x12 < 0) (hl13 : ¬ x13 < 0) (hl14 : ¬ x14 < 0) (hl15 : ¬ x15 < 0) (hl16 : ¬ x16 < 0) (hl17 : ¬ x17 < 0) (hl18 : ¬ x18 < 0) (hl19 : ¬ x19 < 0) :
    own_Met l Z (⟨"java/lang/StringLatin1", "toChars", "([B)[C"⟩ : MethodName) jdk_43_method_9_code 2 (some (.array .char)) ws ({ frames := 1, cells := 1, slots := 20, locals := 24 } : Room) #[(.ref a2)] h0 (fun v h L => ∃ d k2, v = some (.ref d) ∧ Fr n0 L ∧ Keep h0 h [] ∧ n0 ≤ d ∧ h0.size ≤ d ∧ Arv Z h d k2 .char (20 : Int32) [(.int x0), (.int x1), (.int x2), (.int x3), (.int x4), (.int x5), (.int x6), (.int x7), (.int x8), (.int x9), (.int x10), (.int x11), (.int x12), (.int x13), (.int x14), (.int x15), (.int x16), (.int x17), (.int x18), (.int x19)] (.int (0 : Int32)) ∧ Exa Z h d "[C") := by
  refine own_enter (plainFor_of_name own_pn2) ?_
  intro p e s m below meth c s₁ X0 hx hZ hby hml hown hnm hret hlk e0
  have N0 := Fr.nil n0
  rw [own_tch_ef m a2]
  have KK0 : Keep h0 h0 [] := Keep.refl _ _
  show own_Fin _ _ _ _ _ _ (s₁.setTop (mkF m 0 #[rv a2, .unset] []))
  refine own_to (fun t k => XS.aloadN X0.here hx rfl (hb hby own_d14_0) rfl rfl k) ?_
  obtain ⟨cl185, Ar185, qa185, Sa185, Na185, Ha185, Ga185⟩ := id V2
  refine own_to (fun t k => X0.arraylength hx (by rw [e0]; exact Ar185.1) (State.isArrayOf_alike hZ.alike Ar185.2.1) (g := (mkF m 1 #[rv a2, .unset] [(.ref a2)])) rfl rfl (hb hby own_d14_1) _ k) ?_
  rw [len_of Sa185 Na185]
  show own_Fin _ _ _ _ _ _ (s₁.setTop (mkF m 2 #[rv a2, .unset] [(.int (20 : Int32))]))
  obtain ⟨T186, h186, k186, X186, e186, E186, A186, A186x, st186⟩ := newPE X0 hx hZ (own_W hw 31 rfl) e0 (g := (mkF m 2 #[rv a2, .unset] [(.int (20 : Int32))])) rfl (hb hby own_d14_2) rfl (by decide) (cap := 20) (by decide) (by decide) (by decide) (by decide) (ad := "[C") (by decide)
  obtain ⟨bc, q186⟩ : ∃ z, z = h0.size := ⟨_, rfl⟩
  rw [← q186] at A186 A186x st186
  have ne_a2_bc : a2 ≠ bc := Nat.ne_of_lt (Nat.lt_of_lt_of_le V2.lt (Nat.le_of_eq q186.symm))
  have g_bc : n0 ≤ bc := Nat.le_trans Z0 (Nat.le_of_eq q186.symm)
  have sz_bc : h0.size ≤ bc := Nat.le_trans KK0.1 (Nat.le_of_eq q186.symm)
  have KK186 : Keep h0 h186 [] := KK0.ext E186
  have V2_e186 := V2.ext E186
  have V186 := Arv.new A186 (by decide)
  refine own_to (fun t k => st186 t k) ?_
  show own_Fin _ _ _ _ _ _ (T186.setTop (mkF m 4 #[rv a2, .unset] [(.ref bc)]))
  refine own_to (fun t k => XS.astoreN X186.here hx rfl (hb hby own_d14_4) rfl rfl (l' := #[rv a2, rv bc]) rfl k) ?_
  show own_Fin _ _ _ _ _ _ (T186.setTop (mkF m 5 #[rv a2, rv bc] []))
  refine own_to (fun t k => XS.aloadN X186.here hx rfl (hb hby own_d14_5) rfl rfl k) ?_
  refine own_to (fun t k => XS.iconst X186.here hx rfl (hb hby own_d14_6) k) ?_
  refine own_to (fun t k => XS.aloadN X186.here hx rfl (hb hby own_d14_7) rfl rfl k) ?_
  show own_Fin _ _ _ _ _ _ (T186.setTop (mkF m 8 #[rv a2, rv bc] [(.ref bc), (.int (0 : Int32)), (.ref a2)]))
  refine own_to (fun t k => XS.iconst X186.here hx rfl (hb hby own_d14_8) k) ?_
  refine own_to (fun t k => XS.aloadN X186.here hx rfl (hb hby own_d14_9) rfl rfl k) ?_
  obtain ⟨cl187, Ar187, qa187, Sa187, Na187, Ha187, Ga187⟩ := id V2_e186
  refine own_to (fun t k => X186.arraylength hx (by rw [e186]; exact Ar187.1) (State.isArrayOf_alike hZ.alike Ar187.2.1) (g := (mkF m 10 #[rv a2, rv bc] [(.ref a2), (.int (0 : Int32)), (.ref bc), (.int (0 : Int32)), (.ref a2)])) rfl rfl (hb hby own_d14_10) _ k) ?_
  rw [len_of Sa187 Na187]
  show own_Fin _ _ _ _ _ _ (T186.setTop (mkF m 11 #[rv a2, rv bc] [(.int (20 : Int32)), (.int (0 : Int32)), (.ref bc), (.int (0 : Int32)), (.ref a2)]))
  have V188p : Arv Z h186 bc k186 .char (20 : Int32) [(.int (0 : Int32)), (.int (0 : Int32)), (.int (0 : Int32)), (.int (0 : Int32)), (.int (0 : Int32)), (.int (0 : Int32)), (.int (0 : Int32)), (.int (0 : Int32)), (.int (0 : Int32)), (.int (0 : Int32)), (.int (0 : Int32)), (.int (0 : Int32)), (.int (0 : Int32)), (.int (0 : Int32)), (.int (0 : Int32)), (.int (0 : Int32)), (.int (0 : Int32)), (.int (0 : Int32)), (.int (0 : Int32)), (.int (0 : Int32))] (.int (0 : Int32)) := V186.pad (pad_rep [] (.int (0 : Int32)) 20)
  obtain ⟨_, _, ⟨T189, L189, k189, n189⟩, -, X189, ⟨Lc189, hQ189, l189, y189, z189⟩, st189⟩ := Jvm.LawKit.callS X186 hx (y := (⟨"java/lang/StringLatin1", "inflate", "([BI[CII)V"⟩ : MethodName)) hown (mvT hZ (own_W hw 91 rfl)) (mvT hZ (own_W hw 92 rfl)) (mvT hZ (own_W hw 89 rfl)) (mvT hZ (own_W hw 93 rfl)) (by decide) (own_back (W := 0) (own_infl l Z a0 hw [] a2 bc k3 k186 x0 x1 x2 x3 x4 x5 x6 x7 x8 x9 x10 x11 x12 x13 x14 x15 x16 x17 x18 x19 h186 n0 (Nat.le_trans Z0 E186.1) V2_e186 V188p g_bc ne_a2_bc hx0 hx1 hx2 hx3 hx4 hx5 hx6 hx7 hx8 hx9 hx10 hx11 hx12 hx13 hx14 hx15 hx16 hx17 hx18 hx19 hl0 hl1 hl2 hl3 hl4 hl5 hl6 hl7 hl8 hl9 hl10 hl11 hl12 hl13 hl14 hl15 hl16 hl17 hl18 hl19) hZ (own_W hw 93 rfl) (own_W hw 89 rfl) (by decide) (by decide)) (g := (mkF m 11 #[rv a2, rv bc] [(.int (20 : Int32)), (.int (0 : Int32)), (.ref bc), (.int (0 : Int32)), (.ref a2)])) rfl (by rw [hml]; rfl) (argsL := [(.ref a2), (.int (0 : Int32)), (.ref bc), (.int (0 : Int32)), (.int (20 : Int32))]) (rest := []) (lenOf own_pd5 rfl) rfl (by show 2 * 0 + _ ≤ _; exact Nat.le_of_eq rfl) (hb hby own_d14_11) (fun _ _ => ⟨rfl, e186, (by decide : 1 + 0 ≤ _), (by decide : 20 + 0 ≤ _)⟩)
  dsimp only [Pt.U, Pt.locs, Pt.cells, Pt.slots] at X189 l189 y189 z189 st189 hQ189
  rw [l189, y189, z189] at X189
  obtain ⟨rfl, N189q, K189, Vd189⟩ := hQ189
  have N189 := Fr.app N0 N189q
  have KK189 : Keep h0 T189.heap [] := KK186.trans K189 (allS (Or.inr sz_bc) all0)
  have V2_e189 := V2_e186.keep K189 (ninS ne_a2_bc nin0)
  have A186x_e189 := A186x.keep K189
  refine own_to (fun t k => st189 t k) ?_
  show own_Fin _ _ _ _ _ _ (T189.setTop (mkF m 14 #[rv a2, rv bc] []))
  refine own_to (fun t k => XS.aloadN X189.here hx rfl (hb hby own_d14_14) rfl rfl k) ?_
  show own_Fin _ _ _ _ _ _ (T189.setTop (mkF m 15 #[rv a2, rv bc] [(.ref bc)]))
  refine own_retR X189 hx hlk hret rfl rfl rfl (hb hby own_d14_15) (by decide) (by decide) ?_
  exact ⟨bc, k186, rfl, N189, KK189, g_bc, sz_bc, Vd189, A186x_e189⟩
theorem own_d13_0 : decode jdk_42_method_154_code 0 = .ok (.getstatic 38, 3) := by decide +kernel
theorem own_d13_3 : decode jdk_42_method_154_code 3 = .ok (.ifCond .eq 14, 3) := by decide +kernel
theorem own_d13_6 : decode jdk_42_method_154_code 6 = .ok (.aload_n 0, 1) := by decide +kernel
theorem own_d13_7 : decode jdk_42_method_154_code 7 = .ok (.getfield 15, 3) := by decide +kernel
theorem own_d13_10 : decode jdk_42_method_154_code 10 = .ok (.ifCond .ne 7, 3) := by decide +kernel
theorem own_d13_13 : decode jdk_42_method_154_code 13 = .ok (.iconst 1, 1) := by decide +kernel
theorem own_d13_14 : decode jdk_42_method_154_code 14 = .ok (.goto 4, 3) := by decide +kernel
theorem own_d13_17 : decode jdk_42_method_154_code 17 = .ok (.iconst 0, 1) := by decide +kernel
theorem own_d13_18 : decode jdk_42_method_154_code 18 = .ok (.ireturn, 1) := by decide +kernel
theorem own_isl_ef (m : MethodId) (a1 : Addr) : entryFrame m #[(.ref a1)] 1 = mkF m 0 #[rv a1] [] := by first | (simp [entryFrame, mkF, argsToLocals, Value.category]; done) | rfl
set_option maxRecDepth 65536 in
set_option maxHeartbeats 40000000 in
theorem own_isl (l : Launch) (Z : State) (a0 : Array Value) (hw : ∀ d ∈ tables_1, d.before a0 Z = true) (ws : List Jvm.Cond) (cs : Int32) (a1 : Addr) (h0 : Heap) (n0 : Nat) (Z0 : n0 ≤ h0.size) (O0 : Old Z n0 h0) (SS : Sta Z Z.heap "java/lang/String" "COMPACT_STRINGS" "Z" (.int cs)) (hcs : ¬ cs = (0 : Int32)) (F2 : Fld Z h0 a1 "java/lang/String" "coder" "B" (.int (0 : Int32))) :
    own_Met l Z (⟨"java/lang/String", "isLatin1", "()Z"⟩ : MethodName) jdk_42_method_154_code 1 (some .boolean) ws ({ frames := 0, cells := 0, slots := 0, locals := 0 } : Room) #[(.ref a1)] h0 (fun v h L => v = some (.int (1 : Int32)) ∧ Fr n0 L ∧ h = h0) := by
  refine own_enter (plainFor_of_name own_pn1) ?_
  intro p e s m below meth c s₁ X0 hx hZ hby hml hown hnm hret hlk e0
  have N0 := Fr.nil n0
  rw [own_isl_ef m a1]
  show own_Fin _ _ _ _ _ _ (s₁.setTop (mkF m 0 #[rv a1] []))
  obtain ⟨T190, X190, e190, st190⟩ := getS2 X0 hx hZ hown (host := "") (Or.inl (own_W hw 52 rfl)) Via.refl e0 (SS.ext O0.2) (g := (mkF m 0 #[rv a1] [])) rfl (hb hby own_d13_0)
  refine own_to (fun t k => st190 t k) ?_
  show own_Fin _ _ _ _ _ _ (T190.setTop (mkF m 3 #[rv a1] [(.int cs)]))
  refine own_to (fun t k => XS.ifNo X190.here hx rfl (hb hby own_d13_3) rfl ((if0 _ _).trans (feq hcs).1) k) ?_
  show own_Fin _ _ _ _ _ _ (T190.setTop (mkF m 6 #[rv a1] []))
  refine own_to (fun t k => XS.aloadN X190.here hx rfl (hb hby own_d13_6) rfl rfl k) ?_
  obtain ⟨T191, X191, e191, st191⟩ := getF X190 hx hZ hown (host := "") (Or.inl (own_W hw 64 rfl)) Via.refl e190 F2 (g := (mkF m 7 #[rv a1] [(.ref a1)])) rfl rfl (hb hby own_d13_7)
  refine own_to (fun t k => st191 t k) ?_
  show own_Fin _ _ _ _ _ _ (T191.setTop (mkF m 10 #[rv a1] [(.int (0 : Int32))]))
  refine own_to (fun t k => XS.ifNo X191.here hx rfl (hb hby own_d13_10) rfl ((if0 _ _).trans (teq rfl).2) k) ?_
  show own_Fin _ _ _ _ _ _ (T191.setTop (mkF m 13 #[rv a1] []))
  refine own_to (fun t k => XS.iconst X191.here hx rfl (hb hby own_d13_13) k) ?_
  refine own_to (fun t k => XS.goto X191.here hx rfl (pc0 := 14) (pc' := 18) rfl (hb hby own_d13_14) (by decide) (by decide) k) ?_
  show own_Fin _ _ _ _ _ _ (T191.setTop (mkF m 18 #[rv a1] [(.int (1 : Int32))]))
  refine own_retN X191 hx hlk (t := .boolean) hret (by simp) (hb hby own_d13_18) (by decide) (by decide) ?_
  try rw [e191]
  exact ⟨rfl, N0, rfl⟩
theorem own_d12_0 : decode jdk_42_method_129_code 0 = .ok (.aload_n 0, 1) := by decide +kernel
theorem own_d12_1 : decode jdk_42_method_129_code 1 = .ok (.invokevirtual 492, 3) := by decide +kernel
theorem own_d12_4 : decode jdk_42_method_129_code 4 = .ok (.ifCond .eq 13, 3) := by decide +kernel
theorem own_d12_7 : decode jdk_42_method_129_code 7 = .ok (.aload_n 0, 1) := by decide +kernel
theorem own_d12_8 : decode jdk_42_method_129_code 8 = .ok (.getfield 9, 3) := by decide +kernel
theorem own_d12_11 : decode jdk_42_method_129_code 11 = .ok (.invokestatic 299, 3) := by decide +kernel
theorem own_d12_14 : decode jdk_42_method_129_code 14 = .ok (.goto 10, 3) := by decide +kernel
theorem own_d12_17 : decode jdk_42_method_129_code 17 = .ok (.aload_n 0, 1) := by decide +kernel
theorem own_d12_18 : decode jdk_42_method_129_code 18 = .ok (.getfield 9, 3) := by decide +kernel
theorem own_d12_21 : decode jdk_42_method_129_code 21 = .ok (.invokestatic 303, 3) := by decide +kernel
theorem own_d12_24 : decode jdk_42_method_129_code 24 = .ok (.areturn, 1) := by decide +kernel
theorem own_pd6 : parseMethodDescriptor "()Z" = some ⟨[], some .boolean⟩ := by decide +kernel
theorem own_pd7 : parseMethodDescriptor "([B)[C" = some ⟨[(.array .byte)], some (.array .char)⟩ := by decide +kernel
theorem own_tca_ef (m : MethodId) (a1 : Addr) : entryFrame m #[(.ref a1)] 1 = mkF m 0 #[rv a1] [] := by first | (simp [entryFrame, mkF, argsToLocals, Value.category]; done) | rfl
set_option maxRecDepth 65536 in
set_option maxHeartbeats 40000000 in
theorem own_tca (l : Launch) (Z : State) (a0 : Array Value) (hw : ∀ d ∈ tables_1, d.before a0 Z = true) (ws : List Jvm.Cond) (cs : Int32) (a1 : Addr) (d : Addr) (k3 : ClassId) (x0 : Int32) (x1 : Int32) (x2 : Int32) (x3 : Int32) (x4 : Int32) (x5 : Int32) (x6 : Int32) (x7 : Int32) (x8 : Int32) (x9 : Int32) (x10 : Int32) (x11 : Int32) (x12 : Int32) (x13 : Int32) (x14 : Int32) (x15 : Int32) (x16 : Int32) (x17 : Int32) (x18 : Int32) (x19 : Int32) (h0 : Heap) (n0 : Nat) (Z0 : n0 ≤ h0.size) (O0 : Old Z n0 h0) (SS : Sta Z Z.heap "java/lang/String" "COMPACT_STRINGS" "Z" (.int cs)) (hcs : ¬ cs = (0 : Int32)) (E1 : Exa Z h0 a1 "java/lang/String") (F1 : Fld Z h0 a1 "java/lang/String" "value" "[B" (.ref d)) (F2 : Fld Z h0 a1 "java/lang/String" "coder" "B" (.int (0 : Int32))) (V2 : Arv Z h0 d k3 .byte (20 : Int32) [(.int (x0.toInt8.toInt32)), (.int (x1.toInt8.toInt32)), (.int (x2.toInt8.toInt32)), (.int (x3.toInt8.toInt32)), (.int (x4.toInt8.toInt32)), (.int (x5.toInt8.toInt32)), (.int (x6.toInt8.toInt32)), (.int (x7.toInt8.toInt32)), (.int (x8.toInt8.toInt32)), (.int (x9.toInt8.toInt32)), (.int (x10.toInt8.toInt32)), (.int (x11.toInt8.toInt32)), (.int (x12.toInt8.toInt32)), (.int (x13.toInt8.toInt32)), (.int (x14.toInt8.toInt32)), (.int (x15.toInt8.toInt32)), (.int (x16.toInt8.toInt32)), (.int (x17.toInt8.toInt32)), (.int (x18.toInt8.toInt32)), (.int (x19.toInt8.toInt32))] (.int (0 : Int32))) (hx0 : ¬ (255 : Int32) < x0) (hx1 : ¬ (255 : Int32) < x1) (hx2 : ¬ (255 : Int32) < x2) (hx3 : ¬ (255 : Int32) < x3) (hx4 : ¬ (255 : Int32) < x4) (hx5 : ¬ (255 : Int32) < x5) (hx6 : ¬ (255 : Int32) < x6) (hx7 : ¬ (255 : Int32) < x7) (hx8 : ¬ (255 : Int32) < x8) (hx9 : ¬ (255 : Int32) < x9) (hx10 : ¬ (255 : Int32) < x10) (hx11 : ¬ (255 : Int32) < x11) (hx12 : ¬ (255 : Int32) < x12) (hx13 : ¬ (255 : Int32) < x13) (hx14 : ¬ (255 : Int32) < x14) (hx15 : ¬ (255 : Int32) < x15) (hx16 : ¬ (255 : Int32) < x16) (hx17 : ¬ (255 : Int32) < x17) (hx18 : ¬ (255 : Int32) < x18) (hx19 : ¬ (255 : Int32) < x19) (hl0 : ¬ x0 < 0) (hl1 : ¬ x1 < 0) (hl2 : ¬ x2 < 0) (hl3 : ¬ x3 < 0) (hl4 : ¬ x4 < 0) (hl5 : ¬ x5 < 0) (hl6 : ¬ x6 < 0) (hl7 : ¬ x7 < 0) (hl8 : ¬ x8 < 0) (hl9 : ¬ x9 < 0) (hl10 : ¬ x10 < 0) (hl11 : ¬ x11 < 0) (hl12 : ¬ x12 < 0) (hl13 : ¬ x13 < 0) (hl14 : ¬ x14 < 0) (hl15 : ¬ x15 < 0) (hl16 : ¬ x16 < 0) (hl17 : ¬ x17 < 0) (hl18 : ¬ x18 < 0) (hl19 : ¬ x19 < 0) :
    own_Met l Z (⟨"java/lang/String", "toCharArray", "()[C"⟩ : MethodName) jdk_42_method_129_code 1 (some (.array .char)) ws ({ frames := 2, cells := 1, slots := 20, locals := 40 } : Room) #[(.ref a1)] h0 (fun v h L => ∃ d k2, v = some (.ref d) ∧ Fr n0 L ∧ Keep h0 h [] ∧ n0 ≤ d ∧ h0.size ≤ d ∧ Arv Z h d k2 .char (20 : Int32) [(.int x0), (.int x1), (.int x2), (.int x3), (.int x4), (.int x5), (.int x6), (.int x7), (.int x8), (.int x9), (.int x10), (.int x11), (.int x12), (.int x13), (.int x14), (.int x15), (.int x16), (.int x17), (.int x18), (.int x19)] (.int (0 : Int32)) ∧ Exa Z h d "[C") := by
  refine own_enter (plainFor_of_name own_pn1) ?_
  intro p e s m below meth c s₁ X0 hx hZ hby hml hown hnm hret hlk e0
  have N0 := Fr.nil n0
  rw [own_tca_ef m a1]
  have KK0 : Keep h0 h0 [] := Keep.refl _ _
  show own_Fin _ _ _ _ _ _ (s₁.setTop (mkF m 0 #[rv a1] []))
  refine own_to (fun t k => XS.aloadN X0.here hx rfl (hb hby own_d12_0) rfl rfl k) ?_
  obtain ⟨cq192, kq192, q192a, q192b, q192c⟩ := isOf hZ e0 E1
  obtain ⟨_, _, ⟨T192, L192, k192, n192⟩, -, X192, ⟨Lc192, hQ192, l192, y192, z192⟩, st192⟩ := X0.virtualBack hx (y := (⟨"java/lang/String", "isLatin1", "()Z"⟩ : MethodName)) (z := (⟨"java/lang/String", "isLatin1", "()Z"⟩ : MethodName)) hown (mvT hZ (own_W hw 82 rfl)) (mvT hZ (own_W hw 83 rfl)) (notFace_of_selects (args := #[]) (mvT hZ (own_W hw 85 rfl))) (mvT hZ (own_W hw 85 rfl)) (mvT hZ (own_W hw 84 rfl)) (by decide) (own_back (W := 0) (own_isl l Z a0 hw [] cs a1 h0 n0 Z0 O0 SS hcs F2) hZ (own_W hw 86 rfl) (own_W hw 41 rfl) (by decide) (by decide)) q192a q192c (g := (mkF m 1 #[rv a1] [(.ref a1)])) rfl (by rw [hml]; rfl) (Steps.refl _) (argsL := []) (rest := []) (lenOf own_pd6 rfl) rfl (by show 2 * 0 + _ ≤ _; exact Nat.le_of_eq rfl) (hb hby own_d12_1) (fun _ _ => ⟨rfl, e0, (by decide : 0 + 0 ≤ _), (by decide : 0 + 0 ≤ _)⟩)
  dsimp only [Pt.U, Pt.locs, Pt.cells, Pt.slots] at X192 l192 y192 z192 st192 hQ192
  rw [l192, y192, z192] at X192
  obtain ⟨rfl, N192q, eh192⟩ := hQ192
  have N192 := Fr.app N0 N192q
  refine own_to (fun t k => st192.trans k) ?_
  show own_Fin _ _ _ _ _ _ (T192.setTop (mkF m 4 #[rv a1] [(.int (1 : Int32))]))
  refine own_to (fun t k => XS.ifNo X192.here hx rfl (hb hby own_d12_4) rfl ((if0 _ _).trans (feq (by decide)).1) k) ?_
  show own_Fin _ _ _ _ _ _ (T192.setTop (mkF m 7 #[rv a1] []))
  refine own_to (fun t k => XS.aloadN X192.here hx rfl (hb hby own_d12_7) rfl rfl k) ?_
  obtain ⟨T193, X193, e193, st193⟩ := getF X192 hx hZ hown (host := "") (Or.inl (own_W hw 66 rfl)) Via.refl eh192 F1 (g := (mkF m 8 #[rv a1] [(.ref a1)])) rfl rfl (hb hby own_d12_8)
  refine own_to (fun t k => st193 t k) ?_
  show own_Fin _ _ _ _ _ _ (T193.setTop (mkF m 11 #[rv a1] [(.ref d)]))
  obtain ⟨_, _, ⟨T194, L194, k194, n194⟩, -, X194, ⟨Lc194, hQ194, l194, y194, z194⟩, st194⟩ := Jvm.LawKit.callS X193 hx (y := (⟨"java/lang/StringLatin1", "toChars", "([B)[C"⟩ : MethodName)) hown (mvT hZ (own_W hw 87 rfl)) (mvT hZ (own_W hw 88 rfl)) (mvT hZ (own_W hw 89 rfl)) (mvT hZ (own_W hw 90 rfl)) (by decide) (own_back (W := 0) (own_tch l Z a0 hw [] d k3 x0 x1 x2 x3 x4 x5 x6 x7 x8 x9 x10 x11 x12 x13 x14 x15 x16 x17 x18 x19 h0 n0 Z0 V2 hx0 hx1 hx2 hx3 hx4 hx5 hx6 hx7 hx8 hx9 hx10 hx11 hx12 hx13 hx14 hx15 hx16 hx17 hx18 hx19 hl0 hl1 hl2 hl3 hl4 hl5 hl6 hl7 hl8 hl9 hl10 hl11 hl12 hl13 hl14 hl15 hl16 hl17 hl18 hl19) hZ (own_W hw 90 rfl) (own_W hw 89 rfl) (by decide) (by decide)) (g := (mkF m 11 #[rv a1] [(.ref d)])) rfl (by rw [hml]; rfl) (argsL := [(.ref d)]) (rest := []) (lenOf own_pd7 rfl) rfl (by show 2 * 0 + _ ≤ _; exact Nat.le_of_eq rfl) (hb hby own_d12_11) (fun _ _ => ⟨rfl, e193, (by decide : 0 + 1 ≤ _), (by decide : 0 + 20 ≤ _)⟩)
  dsimp only [Pt.U, Pt.locs, Pt.cells, Pt.slots] at X194 l194 y194 z194 st194 hQ194
  rw [l194, y194, z194] at X194
  obtain ⟨t, k2, rfl, N194q, K194, g_t, szt, V_t, E_t⟩ := hQ194
  have N194 := Fr.app N192 N194q
  have ne_a1_t : a1 ≠ t := Nat.ne_of_lt (Nat.lt_of_lt_of_le E1.lt szt)
  have ne_d_t : d ≠ t := Nat.ne_of_lt (Nat.lt_of_lt_of_le V2.lt szt)
  have sz_t : h0.size ≤ t := Nat.le_trans KK0.1 szt
  have O194 := O0.keep K194 all0
  have KK194 : Keep h0 T194.heap [] := KK0.trans K194 all0
  have E1_e194 := E1.keep K194
  have F1_e194 := F1.keep K194 nin0
  have F2_e194 := F2.keep K194 nin0
  have V2_e194 := V2.keep K194 nin0
  refine own_to (fun t k => st194 t k) ?_
  show own_Fin _ _ _ _ _ _ (T194.setTop (mkF m 14 #[rv a1] [(.ref t)]))
  refine own_to (fun t k => XS.goto X194.here hx rfl (pc0 := 14) (pc' := 24) rfl (hb hby own_d12_14) (by decide) (by decide) k) ?_
  show own_Fin _ _ _ _ _ _ (T194.setTop (mkF m 24 #[rv a1] [(.ref t)]))
  refine own_retR X194 hx hlk hret rfl rfl rfl (hb hby own_d12_24) (by decide) (by decide) ?_
  exact ⟨t, k2, rfl, N194, KK194, g_t, sz_t, V_t, E_t⟩
def own_ws (p1 : Int32) : Int32 := (if p1 = (32 : Int32) then (1 : Int32) else (if p1 = (9 : Int32) then (1 : Int32) else (if p1 = (10 : Int32) then (1 : Int32) else (if p1 = (13 : Int32) then (1 : Int32) else (0 : Int32)))))
theorem own_d17_0 : decode prog_147_method_4_code 0 = .ok (.iload_n 0, 1) := by decide +kernel
theorem own_d17_1 : decode prog_147_method_4_code 1 = .ok (.bipush 32, 2) := by decide +kernel
theorem own_d17_3 : decode prog_147_method_4_code 3 = .ok (.if_icmp .eq 21, 3) := by decide +kernel
theorem own_d17_6 : decode prog_147_method_4_code 6 = .ok (.iload_n 0, 1) := by decide +kernel
theorem own_d17_7 : decode prog_147_method_4_code 7 = .ok (.bipush 9, 2) := by decide +kernel
theorem own_d17_9 : decode prog_147_method_4_code 9 = .ok (.if_icmp .eq 15, 3) := by decide +kernel
theorem own_d17_12 : decode prog_147_method_4_code 12 = .ok (.iload_n 0, 1) := by decide +kernel
theorem own_d17_13 : decode prog_147_method_4_code 13 = .ok (.bipush 10, 2) := by decide +kernel
theorem own_d17_15 : decode prog_147_method_4_code 15 = .ok (.if_icmp .eq 9, 3) := by decide +kernel
theorem own_d17_18 : decode prog_147_method_4_code 18 = .ok (.iload_n 0, 1) := by decide +kernel
theorem own_d17_19 : decode prog_147_method_4_code 19 = .ok (.bipush 13, 2) := by decide +kernel
theorem own_d17_21 : decode prog_147_method_4_code 21 = .ok (.if_icmp .ne 7, 3) := by decide +kernel
theorem own_d17_24 : decode prog_147_method_4_code 24 = .ok (.iconst 1, 1) := by decide +kernel
theorem own_d17_25 : decode prog_147_method_4_code 25 = .ok (.goto 4, 3) := by decide +kernel
theorem own_d17_28 : decode prog_147_method_4_code 28 = .ok (.iconst 0, 1) := by decide +kernel
theorem own_d17_29 : decode prog_147_method_4_code 29 = .ok (.ireturn, 1) := by decide +kernel
theorem own_pn3 : plainName "com/example/libxqtype/libxqtype/XmlCharacters" = true := by first | (simp [plainName, overriddenIn]; done) | decide +kernel
theorem own_wsr_ef (m : MethodId) (p1 : Int32) : entryFrame m #[(.int p1)] 1 = mkF m 0 #[.val (.int p1)] [] := by first | (simp [entryFrame, mkF, argsToLocals, Value.category]; done) | rfl
set_option maxRecDepth 65536 in
set_option maxHeartbeats 40000000 in
theorem own_wsr (l : Launch) (Z : State) (a0 : Array Value) (hw : ∀ d ∈ tables_1, d.before a0 Z = true) (ws : List Jvm.Cond) (p1 : Int32) (h0 : Heap) (n0 : Nat) (Z0 : n0 ≤ h0.size) :
    own_Met l Z (⟨"com/example/libxqtype/libxqtype/XmlCharacters", "isWhitespace", "(C)Z"⟩ : MethodName) prog_147_method_4_code 1 (some .boolean) ws ({ frames := 0, cells := 0, slots := 0, locals := 0 } : Room) #[(.int p1)] h0 (fun v h L => v = some (.int (own_ws p1)) ∧ Fr n0 L ∧ h = h0) := by
  refine own_enter (plainFor_of_name own_pn3) ?_
  intro p e s m below meth c s₁ X0 hx hZ hby hml hown hnm hret hlk e0
  have N0 := Fr.nil n0
  rw [own_wsr_ef m p1]
  show own_Fin _ _ _ _ _ _ (s₁.setTop (mkF m 0 #[.val (.int p1)] []))
  refine own_to (fun t k => XS.iloadN X0.here hx rfl (hb hby own_d17_0) rfl k) ?_
  refine own_to (fun t k => XS.bipush X0.here hx rfl (hb hby own_d17_1) k) ?_
  by_cases hc3_195 : p1 = (32 : Int32)
  ·
    show own_Fin _ _ _ _ _ _ (s₁.setTop (mkF m 3 #[.val (.int p1)] [(.int (32 : Int32)), (.int p1)]))
    refine own_to (fun t k => XS.icmpYes X0.here hx rfl (pc0 := 3) (pc' := 24) rfl (hb hby own_d17_3) rfl (teq hc3_195).1 (by decide) (by decide) k) ?_
    show own_Fin _ _ _ _ _ _ (s₁.setTop (mkF m 24 #[.val (.int p1)] []))
    refine own_to (fun t k => XS.iconst X0.here hx rfl (hb hby own_d17_24) k) ?_
    show own_Fin _ _ _ _ _ _ (s₁.setTop (mkF m 25 #[.val (.int p1)] [(.int (1 : Int32))]))
    refine own_to (fun t k => XS.goto X0.here hx rfl (pc0 := 25) (pc' := 29) rfl (hb hby own_d17_25) (by decide) (by decide) k) ?_
    show own_Fin _ _ _ _ _ _ (s₁.setTop (mkF m 29 #[.val (.int p1)] [(.int (1 : Int32))]))
    refine own_retN X0 hx hlk (t := .boolean) hret (by simp) (hb hby own_d17_29) (by decide) (by decide) ?_
    try rw [e0]
    exact ⟨congrArg (fun z => some (Value.int z)) (Eq.symm (show own_ws p1 = _ from ((if_pos hc3_195).trans rfl))), N0, rfl⟩
  ·
    show own_Fin _ _ _ _ _ _ (s₁.setTop (mkF m 3 #[.val (.int p1)] [(.int (32 : Int32)), (.int p1)]))
    refine own_to (fun t k => XS.icmpNo X0.here hx rfl (hb hby own_d17_3) rfl (feq hc3_195).1 k) ?_
    show own_Fin _ _ _ _ _ _ (s₁.setTop (mkF m 6 #[.val (.int p1)] []))
    refine own_to (fun t k => XS.iloadN X0.here hx rfl (hb hby own_d17_6) rfl k) ?_
    show own_Fin _ _ _ _ _ _ (s₁.setTop (mkF m 7 #[.val (.int p1)] [(.int p1)]))
    refine own_to (fun t k => XS.bipush X0.here hx rfl (hb hby own_d17_7) k) ?_
    by_cases hc9_196 : p1 = (9 : Int32)
    ·
      show own_Fin _ _ _ _ _ _ (s₁.setTop (mkF m 9 #[.val (.int p1)] [(.int (9 : Int32)), (.int p1)]))
      refine own_to (fun t k => XS.icmpYes X0.here hx rfl (pc0 := 9) (pc' := 24) rfl (hb hby own_d17_9) rfl (teq hc9_196).1 (by decide) (by decide) k) ?_
      show own_Fin _ _ _ _ _ _ (s₁.setTop (mkF m 24 #[.val (.int p1)] []))
      refine own_to (fun t k => XS.iconst X0.here hx rfl (hb hby own_d17_24) k) ?_
      refine own_to (fun t k => XS.goto X0.here hx rfl (pc0 := 25) (pc' := 29) rfl (hb hby own_d17_25) (by decide) (by decide) k) ?_
      show own_Fin _ _ _ _ _ _ (s₁.setTop (mkF m 29 #[.val (.int p1)] [(.int (1 : Int32))]))
      refine own_retN X0 hx hlk (t := .boolean) hret (by simp) (hb hby own_d17_29) (by decide) (by decide) ?_
      try rw [e0]
      exact ⟨congrArg (fun z => some (Value.int z)) (Eq.symm (show own_ws p1 = _ from ((if_neg hc3_195).trans ((if_pos hc9_196).trans rfl)))), N0, rfl⟩
    ·
      show own_Fin _ _ _ _ _ _ (s₁.setTop (mkF m 9 #[.val (.int p1)] [(.int (9 : Int32)), (.int p1)]))
      refine own_to (fun t k => XS.icmpNo X0.here hx rfl (hb hby own_d17_9) rfl (feq hc9_196).1 k) ?_
      show own_Fin _ _ _ _ _ _ (s₁.setTop (mkF m 12 #[.val (.int p1)] []))
      refine own_to (fun t k => XS.iloadN X0.here hx rfl (hb hby own_d17_12) rfl k) ?_
      refine own_to (fun t k => XS.bipush X0.here hx rfl (hb hby own_d17_13) k) ?_
      show own_Fin _ _ _ _ _ _ (s₁.setTop (mkF m 15 #[.val (.int p1)] [(.int (10 : Int32)), (.int p1)]))
      by_cases hc15_197 : p1 = (10 : Int32)
      ·
        show own_Fin _ _ _ _ _ _ (s₁.setTop (mkF m 15 #[.val (.int p1)] [(.int (10 : Int32)), (.int p1)]))
        refine own_to (fun t k => XS.icmpYes X0.here hx rfl (pc0 := 15) (pc' := 24) rfl (hb hby own_d17_15) rfl (teq hc15_197).1 (by decide) (by decide) k) ?_
        show own_Fin _ _ _ _ _ _ (s₁.setTop (mkF m 24 #[.val (.int p1)] []))
        refine own_to (fun t k => XS.iconst X0.here hx rfl (hb hby own_d17_24) k) ?_
        refine own_to (fun t k => XS.goto X0.here hx rfl (pc0 := 25) (pc' := 29) rfl (hb hby own_d17_25) (by decide) (by decide) k) ?_
        show own_Fin _ _ _ _ _ _ (s₁.setTop (mkF m 29 #[.val (.int p1)] [(.int (1 : Int32))]))
        refine own_retN X0 hx hlk (t := .boolean) hret (by simp) (hb hby own_d17_29) (by decide) (by decide) ?_
        try rw [e0]
        exact ⟨congrArg (fun z => some (Value.int z)) (Eq.symm (show own_ws p1 = _ from ((if_neg hc3_195).trans ((if_neg hc9_196).trans ((if_pos hc15_197).trans rfl))))), N0, rfl⟩
      ·
        show own_Fin _ _ _ _ _ _ (s₁.setTop (mkF m 15 #[.val (.int p1)] [(.int (10 : Int32)), (.int p1)]))
        refine own_to (fun t k => XS.icmpNo X0.here hx rfl (hb hby own_d17_15) rfl (feq hc15_197).1 k) ?_
        show own_Fin _ _ _ _ _ _ (s₁.setTop (mkF m 18 #[.val (.int p1)] []))
        refine own_to (fun t k => XS.iloadN X0.here hx rfl (hb hby own_d17_18) rfl k) ?_
        refine own_to (fun t k => XS.bipush X0.here hx rfl (hb hby own_d17_19) k) ?_
        by_cases hc21_198 : p1 = (13 : Int32)
        ·
          show own_Fin _ _ _ _ _ _ (s₁.setTop (mkF m 21 #[.val (.int p1)] [(.int (13 : Int32)), (.int p1)]))
          refine own_to (fun t k => XS.icmpNo X0.here hx rfl (hb hby own_d17_21) rfl (teq hc21_198).2 k) ?_
          show own_Fin _ _ _ _ _ _ (s₁.setTop (mkF m 24 #[.val (.int p1)] []))
          refine own_to (fun t k => XS.iconst X0.here hx rfl (hb hby own_d17_24) k) ?_
          show own_Fin _ _ _ _ _ _ (s₁.setTop (mkF m 25 #[.val (.int p1)] [(.int (1 : Int32))]))
          refine own_to (fun t k => XS.goto X0.here hx rfl (pc0 := 25) (pc' := 29) rfl (hb hby own_d17_25) (by decide) (by decide) k) ?_
          show own_Fin _ _ _ _ _ _ (s₁.setTop (mkF m 29 #[.val (.int p1)] [(.int (1 : Int32))]))
          refine own_retN X0 hx hlk (t := .boolean) hret (by simp) (hb hby own_d17_29) (by decide) (by decide) ?_
          try rw [e0]
          exact ⟨congrArg (fun z => some (Value.int z)) (Eq.symm (show own_ws p1 = _ from ((if_neg hc3_195).trans ((if_neg hc9_196).trans ((if_neg hc15_197).trans ((if_pos hc21_198).trans rfl)))))), N0, rfl⟩
        ·
          show own_Fin _ _ _ _ _ _ (s₁.setTop (mkF m 21 #[.val (.int p1)] [(.int (13 : Int32)), (.int p1)]))
          refine own_to (fun t k => XS.icmpYes X0.here hx rfl (pc0 := 21) (pc' := 28) rfl (hb hby own_d17_21) rfl (feq hc21_198).2 (by decide) (by decide) k) ?_
          show own_Fin _ _ _ _ _ _ (s₁.setTop (mkF m 28 #[.val (.int p1)] []))
          refine own_to (fun t k => XS.iconst X0.here hx rfl (hb hby own_d17_28) k) ?_
          show own_Fin _ _ _ _ _ _ (s₁.setTop (mkF m 29 #[.val (.int p1)] [(.int (0 : Int32))]))
          refine own_retN X0 hx hlk (t := .boolean) hret (by simp) (hb hby own_d17_29) (by decide) (by decide) ?_
          try rw [e0]
          exact ⟨congrArg (fun z => some (Value.int z)) (Eq.symm (show own_ws p1 = _ from ((if_neg hc3_195).trans ((if_neg hc9_196).trans ((if_neg hc15_197).trans ((if_neg hc21_198).trans rfl)))))), N0, rfl⟩
def own_dg (p1 : Int32) : Int32 := (if p1 < (48 : Int32) then (0 : Int32) else (if (57 : Int32) < p1 then (0 : Int32) else (1 : Int32)))
theorem own_d18_0 : decode prog_147_method_2_code 0 = .ok (.iload_n 0, 1) := by decide +kernel
theorem own_d18_1 : decode prog_147_method_2_code 1 = .ok (.bipush 48, 2) := by decide +kernel
theorem own_d18_3 : decode prog_147_method_2_code 3 = .ok (.if_icmp .lt 13, 3) := by decide +kernel
theorem own_d18_6 : decode prog_147_method_2_code 6 = .ok (.iload_n 0, 1) := by decide +kernel
theorem own_d18_7 : decode prog_147_method_2_code 7 = .ok (.bipush 57, 2) := by decide +kernel
theorem own_d18_9 : decode prog_147_method_2_code 9 = .ok (.if_icmp .gt 7, 3) := by decide +kernel
theorem own_d18_12 : decode prog_147_method_2_code 12 = .ok (.iconst 1, 1) := by decide +kernel
theorem own_d18_13 : decode prog_147_method_2_code 13 = .ok (.goto 4, 3) := by decide +kernel
theorem own_d18_16 : decode prog_147_method_2_code 16 = .ok (.iconst 0, 1) := by decide +kernel
theorem own_d18_17 : decode prog_147_method_2_code 17 = .ok (.ireturn, 1) := by decide +kernel
theorem own_dgr_ef (m : MethodId) (p1 : Int32) : entryFrame m #[(.int p1)] 1 = mkF m 0 #[.val (.int p1)] [] := by first | (simp [entryFrame, mkF, argsToLocals, Value.category]; done) | rfl
set_option maxRecDepth 65536 in
set_option maxHeartbeats 40000000 in
theorem own_dgr (l : Launch) (Z : State) (a0 : Array Value) (hw : ∀ d ∈ tables_1, d.before a0 Z = true) (ws : List Jvm.Cond) (p1 : Int32) (h0 : Heap) (n0 : Nat) (Z0 : n0 ≤ h0.size) :
    own_Met l Z (⟨"com/example/libxqtype/libxqtype/XmlCharacters", "isDigit", "(C)Z"⟩ : MethodName) prog_147_method_2_code 1 (some .boolean) ws ({ frames := 0, cells := 0, slots := 0, locals := 0 } : Room) #[(.int p1)] h0 (fun v h L => v = some (.int (own_dg p1)) ∧ Fr n0 L ∧ h = h0) := by
  refine own_enter (plainFor_of_name own_pn3) ?_
  intro p e s m below meth c s₁ X0 hx hZ hby hml hown hnm hret hlk e0
  have N0 := Fr.nil n0
  rw [own_dgr_ef m p1]
  show own_Fin _ _ _ _ _ _ (s₁.setTop (mkF m 0 #[.val (.int p1)] []))
  refine own_to (fun t k => XS.iloadN X0.here hx rfl (hb hby own_d18_0) rfl k) ?_
  refine own_to (fun t k => XS.bipush X0.here hx rfl (hb hby own_d18_1) k) ?_
  by_cases hc3_199 : p1 < (48 : Int32)
  ·
    show own_Fin _ _ _ _ _ _ (s₁.setTop (mkF m 3 #[.val (.int p1)] [(.int (48 : Int32)), (.int p1)]))
    refine own_to (fun t k => XS.icmpYes X0.here hx rfl (pc0 := 3) (pc' := 16) rfl (hb hby own_d18_3) rfl (tlt hc3_199).1 (by decide) (by decide) k) ?_
    show own_Fin _ _ _ _ _ _ (s₁.setTop (mkF m 16 #[.val (.int p1)] []))
    refine own_to (fun t k => XS.iconst X0.here hx rfl (hb hby own_d18_16) k) ?_
    show own_Fin _ _ _ _ _ _ (s₁.setTop (mkF m 17 #[.val (.int p1)] [(.int (0 : Int32))]))
    refine own_retN X0 hx hlk (t := .boolean) hret (by simp) (hb hby own_d18_17) (by decide) (by decide) ?_
    try rw [e0]
    exact ⟨congrArg (fun z => some (Value.int z)) (Eq.symm (show own_dg p1 = _ from ((if_pos hc3_199).trans rfl))), N0, rfl⟩
  ·
    show own_Fin _ _ _ _ _ _ (s₁.setTop (mkF m 3 #[.val (.int p1)] [(.int (48 : Int32)), (.int p1)]))
    refine own_to (fun t k => XS.icmpNo X0.here hx rfl (hb hby own_d18_3) rfl (flt hc3_199).1 k) ?_
    show own_Fin _ _ _ _ _ _ (s₁.setTop (mkF m 6 #[.val (.int p1)] []))
    refine own_to (fun t k => XS.iloadN X0.here hx rfl (hb hby own_d18_6) rfl k) ?_
    show own_Fin _ _ _ _ _ _ (s₁.setTop (mkF m 7 #[.val (.int p1)] [(.int p1)]))
    refine own_to (fun t k => XS.bipush X0.here hx rfl (hb hby own_d18_7) k) ?_
    by_cases hc9_200 : (57 : Int32) < p1
    ·
      show own_Fin _ _ _ _ _ _ (s₁.setTop (mkF m 9 #[.val (.int p1)] [(.int (57 : Int32)), (.int p1)]))
      refine own_to (fun t k => XS.icmpYes X0.here hx rfl (pc0 := 9) (pc' := 16) rfl (hb hby own_d18_9) rfl (tlt hc9_200).2.2.1 (by decide) (by decide) k) ?_
      show own_Fin _ _ _ _ _ _ (s₁.setTop (mkF m 16 #[.val (.int p1)] []))
      refine own_to (fun t k => XS.iconst X0.here hx rfl (hb hby own_d18_16) k) ?_
      refine own_retN X0 hx hlk (t := .boolean) hret (by simp) (hb hby own_d18_17) (by decide) (by decide) ?_
      try rw [e0]
      exact ⟨congrArg (fun z => some (Value.int z)) (Eq.symm (show own_dg p1 = _ from ((if_neg hc3_199).trans ((if_pos hc9_200).trans rfl)))), N0, rfl⟩
    ·
      show own_Fin _ _ _ _ _ _ (s₁.setTop (mkF m 9 #[.val (.int p1)] [(.int (57 : Int32)), (.int p1)]))
      refine own_to (fun t k => XS.icmpNo X0.here hx rfl (hb hby own_d18_9) rfl (flt hc9_200).2.2.1 k) ?_
      show own_Fin _ _ _ _ _ _ (s₁.setTop (mkF m 12 #[.val (.int p1)] []))
      refine own_to (fun t k => XS.iconst X0.here hx rfl (hb hby own_d18_12) k) ?_
      refine own_to (fun t k => XS.goto X0.here hx rfl (pc0 := 13) (pc' := 17) rfl (hb hby own_d18_13) (by decide) (by decide) k) ?_
      show own_Fin _ _ _ _ _ _ (s₁.setTop (mkF m 17 #[.val (.int p1)] [(.int (1 : Int32))]))
      refine own_retN X0 hx hlk (t := .boolean) hret (by simp) (hb hby own_d18_17) (by decide) (by decide) ?_
      try rw [e0]
      exact ⟨congrArg (fun z => some (Value.int z)) (Eq.symm (show own_dg p1 = _ from ((if_neg hc3_199).trans ((if_neg hc9_200).trans rfl)))), N0, rfl⟩
theorem own_d21_0 : decode prog_59_method_32_code 0 = .ok (.iload_n 1, 1) := by decide +kernel
theorem own_d21_1 : decode prog_59_method_32_code 1 = .ok (.aload_n 0, 1) := by decide +kernel
theorem own_d21_2 : decode prog_59_method_32_code 2 = .ok (.getfield 26, 3) := by decide +kernel
theorem own_d21_5 : decode prog_59_method_32_code 5 = .ok (.arraylength, 1) := by decide +kernel
theorem own_d21_6 : decode prog_59_method_32_code 6 = .ok (.if_icmp .ge 12, 3) := by decide +kernel
theorem own_d21_9 : decode prog_59_method_32_code 9 = .ok (.aload_n 0, 1) := by decide +kernel
theorem own_d21_10 : decode prog_59_method_32_code 10 = .ok (.getfield 26, 3) := by decide +kernel
theorem own_d21_13 : decode prog_59_method_32_code 13 = .ok (.iload_n 1, 1) := by decide +kernel
theorem own_d21_14 : decode prog_59_method_32_code 14 = .ok (.caload, 1) := by decide +kernel
theorem own_d21_15 : decode prog_59_method_32_code 15 = .ok (.goto 4, 3) := by decide +kernel
theorem own_d21_18 : decode prog_59_method_32_code 18 = .ok (.iconst 0, 1) := by decide +kernel
theorem own_d21_19 : decode prog_59_method_32_code 19 = .ok (.ireturn, 1) := by decide +kernel
theorem own_pn4 : plainName "com/example/libxqtype/libxqtype/ExpressionLexer" = true := by first | (simp [plainName, overriddenIn]; done) | decide +kernel
theorem own_car_ef (m : MethodId) (a1 : Addr) (j : Int32) : entryFrame m #[(.ref a1), (.int j)] 2 = mkF m 0 #[rv a1, .val (.int j)] [] := by first | (simp [entryFrame, mkF, argsToLocals, Value.category]; done) | rfl
set_option maxRecDepth 65536 in
set_option maxHeartbeats 40000000 in
theorem own_car (l : Launch) (Z : State) (a0 : Array Value) (hw : ∀ d ∈ tables_1, d.before a0 Z = true) (ws : List Jvm.Cond) (a1 : Addr) (a2 : Addr) (k2 : ClassId) (xs : List Int32) (j : Int32) (h0 : Heap) (n0 : Nat) (Z0 : n0 ≤ h0.size) (E1 : Exa Z h0 a1 "com/example/libxqtype/libxqtype/ExpressionLexer") (Fc : Fld Z h0 a1 "com/example/libxqtype/libxqtype/ExpressionLexer" "chars" "[C" (.ref a2)) (V2 : Arv Z h0 a2 k2 .char (20 : Int32) (xs.map Value.int) (.int (0 : Int32))) (hj : ¬ j < 0) (hk : j < (20 : Int32) → ¬ own_at xs j < 0 ∧ ¬ (255 : Int32) < own_at xs j) :
    own_Met l Z (⟨"com/example/libxqtype/libxqtype/ExpressionLexer", "charAt", "(I)C"⟩ : MethodName) prog_59_method_32_code 2 (some .char) ws ({ frames := 0, cells := 0, slots := 0, locals := 0 } : Room) #[(.ref a1), (.int j)] h0 (fun v h L => v = some (.int (own_ca xs j)) ∧ Fr n0 L ∧ h = h0) := by
  refine own_enter (plainFor_of_name own_pn4) ?_
  intro p e s m below meth c s₁ X0 hx hZ hby hml hown hnm hret hlk e0
  have N0 := Fr.nil n0
  rw [own_car_ef m a1 j]
  show own_Fin _ _ _ _ _ _ (s₁.setTop (mkF m 0 #[rv a1, .val (.int j)] []))
  refine own_to (fun t k => XS.iloadN X0.here hx rfl (hb hby own_d21_0) rfl k) ?_
  refine own_to (fun t k => XS.aloadN X0.here hx rfl (hb hby own_d21_1) rfl rfl k) ?_
  obtain ⟨T201, X201, e201, st201⟩ := getF X0 hx hZ hown (host := "") (Or.inl (own_W hw 94 rfl)) Via.refl e0 Fc (g := (mkF m 2 #[rv a1, .val (.int j)] [(.ref a1), (.int j)])) rfl rfl (hb hby own_d21_2)
  refine own_to (fun t k => st201 t k) ?_
  show own_Fin _ _ _ _ _ _ (T201.setTop (mkF m 5 #[rv a1, .val (.int j)] [(.ref a2), (.int j)]))
  obtain ⟨cl202, Ar202, qa202, Sa202, Na202, Ha202, Ga202⟩ := id V2
  refine own_to (fun t k => X201.arraylength hx (by rw [e201]; exact Ar202.1) (State.isArrayOf_alike hZ.alike Ar202.2.1) (g := (mkF m 5 #[rv a1, .val (.int j)] [(.ref a2), (.int j)])) rfl rfl (hb hby own_d21_5) _ k) ?_
  rw [len_of Sa202 Na202]
  show own_Fin _ _ _ _ _ _ (T201.setTop (mkF m 6 #[rv a1, .val (.int j)] [(.int (20 : Int32)), (.int j)]))
  by_cases hc6_203 : j < (20 : Int32)
  ·
    show own_Fin _ _ _ _ _ _ (T201.setTop (mkF m 6 #[rv a1, .val (.int j)] [(.int (20 : Int32)), (.int j)]))
    refine own_to (fun t k => XS.icmpNo X201.here hx rfl (hb hby own_d21_6) rfl (tlt hc6_203).2.1 k) ?_
    show own_Fin _ _ _ _ _ _ (T201.setTop (mkF m 9 #[rv a1, .val (.int j)] []))
    refine own_to (fun t k => XS.aloadN X201.here hx rfl (hb hby own_d21_9) rfl rfl k) ?_
    show own_Fin _ _ _ _ _ _ (T201.setTop (mkF m 10 #[rv a1, .val (.int j)] [(.ref a1)]))
    obtain ⟨T204, X204, e204, st204⟩ := getF X201 hx hZ hown (host := "") (Or.inl (own_W hw 94 rfl)) Via.refl e201 Fc (g := (mkF m 10 #[rv a1, .val (.int j)] [(.ref a1)])) rfl rfl (hb hby own_d21_10)
    refine own_to (fun t k => st204 t k) ?_
    show own_Fin _ _ _ _ _ _ (T204.setTop (mkF m 13 #[rv a1, .val (.int j)] [(.ref a2)]))
    refine own_to (fun t k => XS.iloadN X204.here hx rfl (hb hby own_d21_13) rfl k) ?_
    obtain ⟨cl205, Ar205, qa205, Sa205, Na205, Ha205, Ga205⟩ := id V2
    have hin206 : ¬ (j < 0 ∨ cl205.slots.size ≤ (j).toNatClampNeg) := inb_of Sa205 ⟨hj, hc6_203⟩
    refine own_to (fun t k => X204.caload hx (j := j) (v := (.int (own_at xs j))) (by rw [e204]; exact Ar205.1) (State.isArrayOf_alike hZ.alike Ar205.2.1) Ar205.2.2 hin206 (Has.at Ha205 hin206 (own_getm xs _)) (g := (mkF m 14 #[rv a1, .val (.int j)] [(.int j), (.ref a2)])) rfl rfl (hb hby own_d21_14) _ k) ?_
    show own_Fin _ _ _ _ _ _ (T204.setTop (mkF m 15 #[rv a1, .val (.int j)] [(.int (own_at xs j))]))
    refine own_to (fun t k => XS.goto X204.here hx rfl (pc0 := 15) (pc' := 19) rfl (hb hby own_d21_15) (by decide) (by decide) k) ?_
    show own_Fin _ _ _ _ _ _ (T204.setTop (mkF m 19 #[rv a1, .val (.int j)] [(.int (own_at xs j))]))
    refine own_retN X204 hx hlk (t := .char) hret (by simp) (hb hby own_d21_19) (by decide) (by decide) ?_
    try rw [e204]
    exact ⟨by rw [own_nb (hk hc6_203).1 (hk hc6_203).2]; exact congrArg (fun z => some (Value.int z)) (show own_ca xs j = _ from if_pos hc6_203).symm, N0, rfl⟩
  ·
    show own_Fin _ _ _ _ _ _ (T201.setTop (mkF m 6 #[rv a1, .val (.int j)] [(.int (20 : Int32)), (.int j)]))
    refine own_to (fun t k => XS.icmpYes X201.here hx rfl (pc0 := 6) (pc' := 18) rfl (hb hby own_d21_6) rfl (flt hc6_203).2.1 (by decide) (by decide) k) ?_
    show own_Fin _ _ _ _ _ _ (T201.setTop (mkF m 18 #[rv a1, .val (.int j)] []))
    refine own_to (fun t k => XS.iconst X201.here hx rfl (hb hby own_d21_18) k) ?_
    show own_Fin _ _ _ _ _ _ (T201.setTop (mkF m 19 #[rv a1, .val (.int j)] [(.int (0 : Int32))]))
    refine own_retN X201 hx hlk (t := .char) hret (by simp) (hb hby own_d21_19) (by decide) (by decide) ?_
    try rw [e201]
    exact ⟨congrArg (fun z => some (Value.int z)) (show own_ca xs j = _ from if_neg hc6_203).symm, N0, rfl⟩
theorem own_in128 {cT : Cell} {p1 : Int32} (hT : cT.slots.size = 128) (hp0 : ¬ p1 < 0) (hp1 : p1 < (128 : Int32)) : ¬ (p1 < 0 ∨ cT.slots.size ≤ p1.toNatClampNeg) := by
  rw [own_lt32, show (0 : Int32).toInt = 0 from rfl] at hp0
  rw [own_lt32, show (128 : Int32).toInt = 128 from by decide] at hp1
  rw [hT, own_lt32, show (0 : Int32).toInt = 0 from rfl]
  simp only [Int32.toNatClampNeg]; omega
theorem own_d23_0 : decode prog_147_method_8_code 0 = .ok (.iload_n 0, 1) := by decide +kernel
theorem own_d23_1 : decode prog_147_method_8_code 1 = .ok (.sipush 128, 3) := by decide +kernel
theorem own_d23_4 : decode prog_147_method_8_code 4 = .ok (.if_icmp .ge 18, 3) := by decide +kernel
theorem own_d23_7 : decode prog_147_method_8_code 7 = .ok (.getstatic 52, 3) := by decide +kernel
theorem own_d23_10 : decode prog_147_method_8_code 10 = .ok (.iload_n 0, 1) := by decide +kernel
theorem own_d23_11 : decode prog_147_method_8_code 11 = .ok (.baload, 1) := by decide +kernel
theorem own_d23_12 : decode prog_147_method_8_code 12 = .ok (.iconst 2, 1) := by decide +kernel
theorem own_d23_13 : decode prog_147_method_8_code 13 = .ok (.if_icmp .ne 7, 3) := by decide +kernel
theorem own_d23_16 : decode prog_147_method_8_code 16 = .ok (.iconst 1, 1) := by decide +kernel
theorem own_d23_17 : decode prog_147_method_8_code 17 = .ok (.goto 4, 3) := by decide +kernel
theorem own_d23_20 : decode prog_147_method_8_code 20 = .ok (.iconst 0, 1) := by decide +kernel
theorem own_d23_21 : decode prog_147_method_8_code 21 = .ok (.ireturn, 1) := by decide +kernel
theorem own_d23_22 : decode prog_147_method_8_code 22 = .ok (.iload_n 0, 1) := by decide +kernel
theorem own_d23_23 : decode prog_147_method_8_code 23 = .ok (.invokestatic 56, 3) := by decide +kernel
theorem own_d23_26 : decode prog_147_method_8_code 26 = .ok (.ireturn, 1) := by decide +kernel
theorem own_isn_ef (m : MethodId) (p1 : Int32) : entryFrame m #[(.int p1)] 1 = mkF m 0 #[.val (.int p1)] [] := by first | (simp [entryFrame, mkF, argsToLocals, Value.category]; done) | rfl
set_option maxRecDepth 65536 in
set_option maxHeartbeats 40000000 in
theorem own_isn (l : Launch) (Z : State) (a0 : Array Value) (hw : ∀ d ∈ tables_1, d.before a0 Z = true) (ws : List Jvm.Cond) (wT : Addr) (cT : Cell) (p1 : Int32) (b : Int32) (h0 : Heap) (n0 : Nat) (Z0 : n0 ≤ h0.size) (O0 : Old Z n0 h0) (ST : Sta Z Z.heap "com/example/libxqtype/libxqtype/XmlCharacters" "ASCII_NAME_CHARACTERS" "[B" (.ref wT)) (AT : Arr Z Z.heap wT cT .byte) (hT : cT.slots.size = 128) (hp0 : ¬ p1 < 0) (hp1 : p1 < (128 : Int32)) (hbT : cT.slots[p1.toNatClampNeg]? = some (.int b)) (hb2 : ¬ b = (2 : Int32)) :
    own_Met l Z (⟨"com/example/libxqtype/libxqtype/XmlCharacters", "isNameStartChar", "(I)Z"⟩ : MethodName) prog_147_method_8_code 1 (some .boolean) ws ({ frames := 0, cells := 0, slots := 0, locals := 0 } : Room) #[(.int p1)] h0 (fun v h L => v = some (.int (0 : Int32)) ∧ Fr n0 L ∧ h = h0) := by
  refine own_enter (plainFor_of_name own_pn3) ?_
  intro p e s m below meth c s₁ X0 hx hZ hby hml hown hnm hret hlk e0
  have N0 := Fr.nil n0
  rw [own_isn_ef m p1]
  show own_Fin _ _ _ _ _ _ (s₁.setTop (mkF m 0 #[.val (.int p1)] []))
  refine own_to (fun t k => XS.iloadN X0.here hx rfl (hb hby own_d23_0) rfl k) ?_
  refine own_to (fun t k => XS.sipush X0.here hx rfl (hb hby own_d23_1) k) ?_
  refine own_to (fun t k => XS.icmpNo X0.here hx rfl (hb hby own_d23_4) rfl (tlt hp1).2.1 k) ?_
  show own_Fin _ _ _ _ _ _ (s₁.setTop (mkF m 7 #[.val (.int p1)] []))
  obtain ⟨T207, X207, e207, st207⟩ := getS2 X0 hx hZ hown (host := "") (Or.inl (own_W hw 139 rfl)) Via.refl e0 (ST.ext O0.2) (g := (mkF m 7 #[.val (.int p1)] [])) rfl (hb hby own_d23_7)
  refine own_to (fun t k => st207 t k) ?_
  show own_Fin _ _ _ _ _ _ (T207.setTop (mkF m 10 #[.val (.int p1)] [(.ref wT)]))
  refine own_to (fun t k => XS.iloadN X207.here hx rfl (hb hby own_d23_10) rfl k) ?_
  show own_Fin _ _ _ _ _ _ (T207.setTop (mkF m 11 #[.val (.int p1)] [(.int p1), (.ref wT)]))
  have hin208 : ¬ (p1 < 0 ∨ cT.slots.size ≤ p1.toNatClampNeg) := own_in128 hT hp0 hp1
  refine own_to (fun t k => X207.baloadBytes hx (j := p1) (v := .int b) (by rw [e207]; exact (AT.ext O0.2).1) (State.isArrayOf_alike hZ.alike AT.2.1) AT.2.2 hin208 hbT (g := (mkF m 11 #[.val (.int p1)] [(.int p1), (.ref wT)])) rfl rfl (hb hby own_d23_11) _ k) ?_
  show own_Fin _ _ _ _ _ _ (T207.setTop (mkF m 12 #[.val (.int p1)] [(.int b)]))
  refine own_to (fun t k => XS.iconst X207.here hx rfl (hb hby own_d23_12) k) ?_
  refine own_to (fun t k => XS.icmpYes X207.here hx rfl (pc0 := 13) (pc' := 20) rfl (hb hby own_d23_13) rfl (feq hb2).2 (by decide) (by decide) k) ?_
  show own_Fin _ _ _ _ _ _ (T207.setTop (mkF m 20 #[.val (.int p1)] []))
  refine own_to (fun t k => XS.iconst X207.here hx rfl (hb hby own_d23_20) k) ?_
  refine own_retN X207 hx hlk (t := .boolean) hret (by simp) (hb hby own_d23_21) (by decide) (by decide) ?_
  try rw [e207]
  exact ⟨rfl, N0, rfl⟩
theorem own_d22_0 : decode prog_59_method_29_code 0 = .ok (.aload_n 0, 1) := by decide +kernel
theorem own_d22_1 : decode prog_59_method_29_code 1 = .ok (.getfield 26, 3) := by decide +kernel
theorem own_d22_4 : decode prog_59_method_29_code 4 = .ok (.iload_n 1, 1) := by decide +kernel
theorem own_d22_5 : decode prog_59_method_29_code 5 = .ok (.caload, 1) := by decide +kernel
theorem own_d22_6 : decode prog_59_method_29_code 6 = .ok (.istore_n 2, 1) := by decide +kernel
theorem own_d22_7 : decode prog_59_method_29_code 7 = .ok (.iload_n 2, 1) := by decide +kernel
theorem own_d22_8 : decode prog_59_method_29_code 8 = .ok (.sipush 128, 3) := by decide +kernel
theorem own_d22_11 : decode prog_59_method_29_code 11 = .ok (.if_icmp .ge 7, 3) := by decide +kernel
theorem own_d22_14 : decode prog_59_method_29_code 14 = .ok (.iload_n 2, 1) := by decide +kernel
theorem own_d22_15 : decode prog_59_method_29_code 15 = .ok (.goto 11, 3) := by decide +kernel
theorem own_d22_18 : decode prog_59_method_29_code 18 = .ok (.aload_n 0, 1) := by decide +kernel
theorem own_d22_19 : decode prog_59_method_29_code 19 = .ok (.getfield 26, 3) := by decide +kernel
theorem own_d22_22 : decode prog_59_method_29_code 22 = .ok (.iload_n 1, 1) := by decide +kernel
theorem own_d22_23 : decode prog_59_method_29_code 23 = .ok (.invokestatic 359, 3) := by decide +kernel
theorem own_d22_26 : decode prog_59_method_29_code 26 = .ok (.invokestatic 363, 3) := by decide +kernel
theorem own_d22_29 : decode prog_59_method_29_code 29 = .ok (.ireturn, 1) := by decide +kernel
theorem own_pd8 : parseMethodDescriptor "(I)Z" = some ⟨[.int], some .boolean⟩ := by decide +kernel
theorem own_sna_ef (m : MethodId) (a1 : Addr) (j : Int32) : entryFrame m #[(.ref a1), (.int j)] 3 = mkF m 0 #[rv a1, .val (.int j), .unset] [] := by first | (simp [entryFrame, mkF, argsToLocals, Value.category]; done) | rfl
set_option maxRecDepth 65536 in
set_option maxHeartbeats 40000000 in
theorem own_sna (l : Launch) (Z : State) (a0 : Array Value) (hw : ∀ d ∈ tables_1, d.before a0 Z = true) (ws : List Jvm.Cond) (wT : Addr) (cT : Cell) (a1 : Addr) (a2 : Addr) (k2 : ClassId) (xs : List Int32) (j : Int32) (b : Int32) (h0 : Heap) (n0 : Nat) (Z0 : n0 ≤ h0.size) (O0 : Old Z n0 h0) (ST : Sta Z Z.heap "com/example/libxqtype/libxqtype/XmlCharacters" "ASCII_NAME_CHARACTERS" "[B" (.ref wT)) (AT : Arr Z Z.heap wT cT .byte) (hT : cT.slots.size = 128) (E1 : Exa Z h0 a1 "com/example/libxqtype/libxqtype/ExpressionLexer") (Fc : Fld Z h0 a1 "com/example/libxqtype/libxqtype/ExpressionLexer" "chars" "[C" (.ref a2)) (V2 : Arv Z h0 a2 k2 .char (20 : Int32) (xs.map Value.int) (.int (0 : Int32))) (hj : ¬ j < 0) (hj2 : j < (20 : Int32)) (hp0 : ¬ own_at xs j < 0) (hp1 : own_at xs j < (128 : Int32)) (hbT : cT.slots[(own_at xs j).toNatClampNeg]? = some (.int b)) (hb2 : ¬ b = (2 : Int32)) :
    own_Met l Z (⟨"com/example/libxqtype/libxqtype/ExpressionLexer", "startsName", "(I)Z"⟩ : MethodName) prog_59_method_29_code 3 (some .boolean) ws ({ frames := 1, cells := 0, slots := 0, locals := 16 } : Room) #[(.ref a1), (.int j)] h0 (fun v h L => v = some (.int (0 : Int32)) ∧ Fr n0 L ∧ h = h0) := by
  refine own_enter (plainFor_of_name own_pn4) ?_
  intro p e s m below meth c s₁ X0 hx hZ hby hml hown hnm hret hlk e0
  have N0 := Fr.nil n0
  rw [own_sna_ef m a1 j]
  show own_Fin _ _ _ _ _ _ (s₁.setTop (mkF m 0 #[rv a1, .val (.int j), .unset] []))
  refine own_to (fun t k => XS.aloadN X0.here hx rfl (hb hby own_d22_0) rfl rfl k) ?_
  obtain ⟨T209, X209, e209, st209⟩ := getF X0 hx hZ hown (host := "") (Or.inl (own_W hw 94 rfl)) Via.refl e0 Fc (g := (mkF m 1 #[rv a1, .val (.int j), .unset] [(.ref a1)])) rfl rfl (hb hby own_d22_1)
  refine own_to (fun t k => st209 t k) ?_
  show own_Fin _ _ _ _ _ _ (T209.setTop (mkF m 4 #[rv a1, .val (.int j), .unset] [(.ref a2)]))
  refine own_to (fun t k => XS.iloadN X209.here hx rfl (hb hby own_d22_4) rfl k) ?_
  obtain ⟨cl210, Ar210, qa210, Sa210, Na210, Ha210, Ga210⟩ := id V2
  have hin211 : ¬ (j < 0 ∨ cl210.slots.size ≤ (j).toNatClampNeg) := inb_of Sa210 ⟨hj, hj2⟩
  refine own_to (fun t k => X209.caload hx (j := j) (v := (.int (own_at xs j))) (by rw [e209]; exact Ar210.1) (State.isArrayOf_alike hZ.alike Ar210.2.1) Ar210.2.2 hin211 (Has.at Ha210 hin211 (own_getm xs _)) (g := (mkF m 5 #[rv a1, .val (.int j), .unset] [(.int j), (.ref a2)])) rfl rfl (hb hby own_d22_5) _ k) ?_
  show own_Fin _ _ _ _ _ _ (T209.setTop (mkF m 6 #[rv a1, .val (.int j), .unset] [(.int (own_at xs j))]))
  refine own_to (fun t k => XS.istoreN X209.here hx rfl (hb hby own_d22_6) rfl (l' := #[rv a1, .val (.int j), .val (.int (own_at xs j))]) rfl k) ?_
  show own_Fin _ _ _ _ _ _ (T209.setTop (mkF m 7 #[rv a1, .val (.int j), .val (.int (own_at xs j))] []))
  refine own_to (fun t k => XS.iloadN X209.here hx rfl (hb hby own_d22_7) rfl k) ?_
  refine own_to (fun t k => XS.sipush X209.here hx rfl (hb hby own_d22_8) k) ?_
  refine own_to (fun t k => XS.icmpNo X209.here hx rfl (hb hby own_d22_11) rfl (tlt hp1).2.1 k) ?_
  show own_Fin _ _ _ _ _ _ (T209.setTop (mkF m 14 #[rv a1, .val (.int j), .val (.int (own_at xs j))] []))
  refine own_to (fun t k => XS.iloadN X209.here hx rfl (hb hby own_d22_14) rfl k) ?_
  show own_Fin _ _ _ _ _ _ (T209.setTop (mkF m 15 #[rv a1, .val (.int j), .val (.int (own_at xs j))] [(.int (own_at xs j))]))
  refine own_to (fun t k => XS.goto X209.here hx rfl (pc0 := 15) (pc' := 26) rfl (hb hby own_d22_15) (by decide) (by decide) k) ?_
  show own_Fin _ _ _ _ _ _ (T209.setTop (mkF m 26 #[rv a1, .val (.int j), .val (.int (own_at xs j))] [(.int (own_at xs j))]))
  obtain ⟨_, _, ⟨T212, L212, k212, n212⟩, -, X212, ⟨Lc212, hQ212, l212, y212, z212⟩, st212⟩ := Jvm.LawKit.callS X209 hx (y := (⟨"com/example/libxqtype/libxqtype/XmlCharacters", "isNameStartChar", "(I)Z"⟩ : MethodName)) hown (mvT hZ (own_W hw 136 rfl)) (mvT hZ (own_W hw 137 rfl)) (mvT hZ (own_W hw 106 rfl)) (mvT hZ (own_W hw 138 rfl)) (by decide) (own_back (W := 0) (own_isn l Z a0 hw [] wT cT (own_at xs j) b h0 n0 Z0 O0 ST AT hT hp0 hp1 hbT hb2) hZ (own_W hw 138 rfl) (own_W hw 106 rfl) (by decide) (by decide)) (g := (mkF m 26 #[rv a1, .val (.int j), .val (.int (own_at xs j))] [(.int (own_at xs j))])) rfl (by rw [hml]; rfl) (argsL := [(.int (own_at xs j))]) (rest := []) (lenOf own_pd8 rfl) rfl (by show 2 * 0 + _ ≤ _; exact Nat.le_of_eq rfl) (hb hby own_d22_26) (fun _ _ => ⟨rfl, e209, (by decide : 0 + 0 ≤ _), (by decide : 0 + 0 ≤ _)⟩)
  dsimp only [Pt.U, Pt.locs, Pt.cells, Pt.slots] at X212 l212 y212 z212 st212 hQ212
  rw [l212, y212, z212] at X212
  obtain ⟨rfl, N212q, eh212⟩ := hQ212
  have N212 := Fr.app N0 N212q
  refine own_to (fun t k => st212 t k) ?_
  show own_Fin _ _ _ _ _ _ (T212.setTop (mkF m 29 #[rv a1, .val (.int j), .val (.int (own_at xs j))] [(.int (0 : Int32))]))
  refine own_retN X212 hx hlk (t := .boolean) hret (by simp) (hb hby own_d22_29) (by decide) (by decide) ?_
  try rw [eh212]
  exact ⟨rfl, N212, rfl⟩
theorem own_nn {a j : Int32} (h : ¬ a < 0) (q : a.toInt ≤ j.toInt) : ¬ j < 0 := by
  rw [own_lt32, show (0 : Int32).toInt = 0 from rfl] at h ⊢; omega
theorem own_d20_0 : decode prog_59_method_31_code 0 = .ok (.aload_n 0, 1) := by decide +kernel
theorem own_d20_1 : decode prog_59_method_31_code 1 = .ok (.getfield 26, 3) := by decide +kernel
theorem own_d20_4 : decode prog_59_method_31_code 4 = .ok (.astore_n 2, 1) := by decide +kernel
theorem own_d20_5 : decode prog_59_method_31_code 5 = .ok (.iload_n 1, 1) := by decide +kernel
theorem own_d20_6 : decode prog_59_method_31_code 6 = .ok (.istore_n 3, 1) := by decide +kernel
theorem own_d20_7 : decode prog_59_method_31_code 7 = .ok (.iload_n 3, 1) := by decide +kernel
theorem own_d20_8 : decode prog_59_method_31_code 8 = .ok (.aload_n 2, 1) := by decide +kernel
theorem own_d20_9 : decode prog_59_method_31_code 9 = .ok (.arraylength, 1) := by decide +kernel
theorem own_d20_10 : decode prog_59_method_31_code 10 = .ok (.if_icmp .ge 25, 3) := by decide +kernel
theorem own_d20_13 : decode prog_59_method_31_code 13 = .ok (.aload_n 2, 1) := by decide +kernel
theorem own_d20_14 : decode prog_59_method_31_code 14 = .ok (.iload_n 3, 1) := by decide +kernel
theorem own_d20_15 : decode prog_59_method_31_code 15 = .ok (.caload, 1) := by decide +kernel
theorem own_d20_16 : decode prog_59_method_31_code 16 = .ok (.bipush 48, 2) := by decide +kernel
theorem own_d20_18 : decode prog_59_method_31_code 18 = .ok (.if_icmp .lt 17, 3) := by decide +kernel
theorem own_d20_21 : decode prog_59_method_31_code 21 = .ok (.aload_n 2, 1) := by decide +kernel
theorem own_d20_22 : decode prog_59_method_31_code 22 = .ok (.iload_n 3, 1) := by decide +kernel
theorem own_d20_23 : decode prog_59_method_31_code 23 = .ok (.caload, 1) := by decide +kernel
theorem own_d20_24 : decode prog_59_method_31_code 24 = .ok (.bipush 57, 2) := by decide +kernel
theorem own_d20_26 : decode prog_59_method_31_code 26 = .ok (.if_icmp .gt 9, 3) := by decide +kernel
theorem own_d20_29 : decode prog_59_method_31_code 29 = .ok (.iinc 3 1, 3) := by decide +kernel
theorem own_d20_32 : decode prog_59_method_31_code 32 = .ok (.goto (-25), 3) := by decide +kernel
theorem own_d20_35 : decode prog_59_method_31_code 35 = .ok (.iload_n 3, 1) := by decide +kernel
theorem own_d20_36 : decode prog_59_method_31_code 36 = .ok (.ireturn, 1) := by decide +kernel
theorem own_dge_ef (m : MethodId) (a1 : Addr) (a : Int32) : entryFrame m #[(.ref a1), (.int a)] 4 = mkF m 0 #[rv a1, .val (.int a), .unset, .unset] [] := by first | (simp [entryFrame, mkF, argsToLocals, Value.category]; done) | rfl
set_option maxRecDepth 65536 in
set_option maxHeartbeats 40000000 in
theorem own_dge (l : Launch) (Z : State) (a0 : Array Value) (hw : ∀ d ∈ tables_1, d.before a0 Z = true) (ws : List Jvm.Cond) (a1 : Addr) (a2 : Addr) (k2 : ClassId) (xs : List Int32) (a : Int32) (b : Int32) (h0 : Heap) (n0 : Nat) (Z0 : n0 ≤ h0.size) (E1 : Exa Z h0 a1 "com/example/libxqtype/libxqtype/ExpressionLexer") (Fc : Fld Z h0 a1 "com/example/libxqtype/libxqtype/ExpressionLexer" "chars" "[C" (.ref a2)) (V2 : Arv Z h0 a2 k2 .char (20 : Int32) (xs.map Value.int) (.int (0 : Int32))) (hd : own_dig xs a b) :
    own_Met l Z (⟨"com/example/libxqtype/libxqtype/ExpressionLexer", "digitsEnd", "(I)I"⟩ : MethodName) prog_59_method_31_code 4 (some .int) ws ({ frames := 0, cells := 0, slots := 0, locals := 0 } : Room) #[(.ref a1), (.int a)] h0 (fun v h L => v = some (.int b) ∧ Fr n0 L ∧ h = h0) := by
  refine own_enter (plainFor_of_name own_pn4) ?_
  intro p e s m below meth c s₁ X0 hx hZ hby hml hown hnm hret hlk e0
  have N0 := Fr.nil n0
  rw [own_dge_ef m a1 a]
  show own_Fin _ _ _ _ _ _ (s₁.setTop (mkF m 0 #[rv a1, .val (.int a), .unset, .unset] []))
  refine own_to (fun t k => XS.aloadN X0.here hx rfl (hb hby own_d20_0) rfl rfl k) ?_
  obtain ⟨T213, X213, e213, st213⟩ := getF X0 hx hZ hown (host := "") (Or.inl (own_W hw 94 rfl)) Via.refl e0 Fc (g := (mkF m 1 #[rv a1, .val (.int a), .unset, .unset] [(.ref a1)])) rfl rfl (hb hby own_d20_1)
  refine own_to (fun t k => st213 t k) ?_
  show own_Fin _ _ _ _ _ _ (T213.setTop (mkF m 4 #[rv a1, .val (.int a), .unset, .unset] [(.ref a2)]))
  refine own_to (fun t k => XS.astoreN X213.here hx rfl (hb hby own_d20_4) rfl rfl (l' := #[rv a1, .val (.int a), rv a2, .unset]) rfl k) ?_
  show own_Fin _ _ _ _ _ _ (T213.setTop (mkF m 5 #[rv a1, .val (.int a), rv a2, .unset] []))
  refine own_to (fun t k => XS.iloadN X213.here hx rfl (hb hby own_d20_5) rfl k) ?_
  refine own_to (fun t k => XS.istoreN X213.here hx rfl (hb hby own_d20_6) rfl (l' := #[rv a1, .val (.int a), rv a2, .val (.int a)]) rfl k) ?_
  show own_Fin _ _ _ _ _ _ (T213.setTop (mkF m 7 #[rv a1, .val (.int a), rv a2, .val (.int a)] []))
  have loop : ∀ (r : Nat) (j : Int32), a.toInt ≤ j.toInt → j.toInt + r = b.toInt → own_Fin p e below s ({ frames := 0, cells := 0, slots := 0, locals := 0 } : Room) (fun v h L => v = some (.int b) ∧ Fr n0 L ∧ h = h0) (T213.setTop (mkF m 7 #[rv a1, .val (.int a), rv a2, .val (.int j)] [])) := by
    intro r
    induction r with
    | zero =>
      intro j ha hr
      have hj := own_nn hd.1 ha
      have hjb : j = b := Int32.toInt_inj.mp (by omega)
      show own_Fin _ _ _ _ _ _ (T213.setTop (mkF m 7 #[rv a1, .val (.int a), rv a2, .val (.int j)] []))
      refine own_to (fun t k => XS.iloadN X213.here hx rfl (hb hby own_d20_7) rfl k) ?_
      refine own_to (fun t k => XS.aloadN X213.here hx rfl (hb hby own_d20_8) rfl rfl k) ?_
      obtain ⟨cl214, Ar214, qa214, Sa214, Na214, Ha214, Ga214⟩ := id V2
      refine own_to (fun t k => X213.arraylength hx (by rw [e213]; exact Ar214.1) (State.isArrayOf_alike hZ.alike Ar214.2.1) (g := (mkF m 9 #[rv a1, .val (.int a), rv a2, .val (.int j)] [(.ref a2), (.int j)])) rfl rfl (hb hby own_d20_9) _ k) ?_
      rw [len_of Sa214 Na214]
      show own_Fin _ _ _ _ _ _ (T213.setTop (mkF m 10 #[rv a1, .val (.int a), rv a2, .val (.int j)] [(.int (20 : Int32)), (.int j)]))
      by_cases hc10_215 : j < (20 : Int32)
      ·
        show own_Fin _ _ _ _ _ _ (T213.setTop (mkF m 10 #[rv a1, .val (.int a), rv a2, .val (.int j)] [(.int (20 : Int32)), (.int j)]))
        refine own_to (fun t k => XS.icmpNo X213.here hx rfl (hb hby own_d20_10) rfl (tlt hc10_215).2.1 k) ?_
        show own_Fin _ _ _ _ _ _ (T213.setTop (mkF m 13 #[rv a1, .val (.int a), rv a2, .val (.int j)] []))
        refine own_to (fun t k => XS.aloadN X213.here hx rfl (hb hby own_d20_13) rfl rfl k) ?_
        show own_Fin _ _ _ _ _ _ (T213.setTop (mkF m 14 #[rv a1, .val (.int a), rv a2, .val (.int j)] [(.ref a2)]))
        refine own_to (fun t k => XS.iloadN X213.here hx rfl (hb hby own_d20_14) rfl k) ?_
        obtain ⟨cl216, Ar216, qa216, Sa216, Na216, Ha216, Ga216⟩ := id V2
        have hin217 : ¬ (j < 0 ∨ cl216.slots.size ≤ (j).toNatClampNeg) := inb_of Sa216 ⟨hj, hc10_215⟩
        refine own_to (fun t k => X213.caload hx (j := j) (v := (.int (own_at xs j))) (by rw [e213]; exact Ar216.1) (State.isArrayOf_alike hZ.alike Ar216.2.1) Ar216.2.2 hin217 (Has.at Ha216 hin217 (own_getm xs _)) (g := (mkF m 15 #[rv a1, .val (.int a), rv a2, .val (.int j)] [(.int j), (.ref a2)])) rfl rfl (hb hby own_d20_15) _ k) ?_
        show own_Fin _ _ _ _ _ _ (T213.setTop (mkF m 16 #[rv a1, .val (.int a), rv a2, .val (.int j)] [(.int (own_at xs j))]))
        refine own_to (fun t k => XS.bipush X213.here hx rfl (hb hby own_d20_16) k) ?_
        by_cases hc18_218 : (own_at xs j) < (48 : Int32)
        ·
          show own_Fin _ _ _ _ _ _ (T213.setTop (mkF m 18 #[rv a1, .val (.int a), rv a2, .val (.int j)] [(.int (48 : Int32)), (.int (own_at xs j))]))
          refine own_to (fun t k => XS.icmpYes X213.here hx rfl (pc0 := 18) (pc' := 35) rfl (hb hby own_d20_18) rfl (tlt hc18_218).1 (by decide) (by decide) k) ?_
          show own_Fin _ _ _ _ _ _ (T213.setTop (mkF m 35 #[rv a1, .val (.int a), rv a2, .val (.int j)] []))
          refine own_to (fun t k => XS.iloadN X213.here hx rfl (hb hby own_d20_35) rfl k) ?_
          show own_Fin _ _ _ _ _ _ (T213.setTop (mkF m 36 #[rv a1, .val (.int a), rv a2, .val (.int j)] [(.int j)]))
          refine own_retI X213 hx hlk hret (hb hby own_d20_36) (by decide) (by decide) ?_
          try rw [e213]
          exact ⟨by rw [hjb], N0, rfl⟩
        ·
          show own_Fin _ _ _ _ _ _ (T213.setTop (mkF m 18 #[rv a1, .val (.int a), rv a2, .val (.int j)] [(.int (48 : Int32)), (.int (own_at xs j))]))
          refine own_to (fun t k => XS.icmpNo X213.here hx rfl (hb hby own_d20_18) rfl (flt hc18_218).1 k) ?_
          show own_Fin _ _ _ _ _ _ (T213.setTop (mkF m 21 #[rv a1, .val (.int a), rv a2, .val (.int j)] []))
          refine own_to (fun t k => XS.aloadN X213.here hx rfl (hb hby own_d20_21) rfl rfl k) ?_
          show own_Fin _ _ _ _ _ _ (T213.setTop (mkF m 22 #[rv a1, .val (.int a), rv a2, .val (.int j)] [(.ref a2)]))
          refine own_to (fun t k => XS.iloadN X213.here hx rfl (hb hby own_d20_22) rfl k) ?_
          obtain ⟨cl219, Ar219, qa219, Sa219, Na219, Ha219, Ga219⟩ := id V2
          have hin220 : ¬ (j < 0 ∨ cl219.slots.size ≤ (j).toNatClampNeg) := inb_of Sa219 ⟨hj, hc10_215⟩
          refine own_to (fun t k => X213.caload hx (j := j) (v := (.int (own_at xs j))) (by rw [e213]; exact Ar219.1) (State.isArrayOf_alike hZ.alike Ar219.2.1) Ar219.2.2 hin220 (Has.at Ha219 hin220 (own_getm xs _)) (g := (mkF m 23 #[rv a1, .val (.int a), rv a2, .val (.int j)] [(.int j), (.ref a2)])) rfl rfl (hb hby own_d20_23) _ k) ?_
          show own_Fin _ _ _ _ _ _ (T213.setTop (mkF m 24 #[rv a1, .val (.int a), rv a2, .val (.int j)] [(.int (own_at xs j))]))
          refine own_to (fun t k => XS.bipush X213.here hx rfl (hb hby own_d20_24) k) ?_
          by_cases hc26_221 : (57 : Int32) < (own_at xs j)
          ·
            show own_Fin _ _ _ _ _ _ (T213.setTop (mkF m 26 #[rv a1, .val (.int a), rv a2, .val (.int j)] [(.int (57 : Int32)), (.int (own_at xs j))]))
            refine own_to (fun t k => XS.icmpYes X213.here hx rfl (pc0 := 26) (pc' := 35) rfl (hb hby own_d20_26) rfl (tlt hc26_221).2.2.1 (by decide) (by decide) k) ?_
            show own_Fin _ _ _ _ _ _ (T213.setTop (mkF m 35 #[rv a1, .val (.int a), rv a2, .val (.int j)] []))
            refine own_to (fun t k => XS.iloadN X213.here hx rfl (hb hby own_d20_35) rfl k) ?_
            show own_Fin _ _ _ _ _ _ (T213.setTop (mkF m 36 #[rv a1, .val (.int a), rv a2, .val (.int j)] [(.int j)]))
            refine own_retI X213 hx hlk hret (hb hby own_d20_36) (by decide) (by decide) ?_
            try rw [e213]
            exact ⟨by rw [hjb], N0, rfl⟩
          ·
            show own_Fin _ _ _ _ _ _ (T213.setTop (mkF m 26 #[rv a1, .val (.int a), rv a2, .val (.int j)] [(.int (57 : Int32)), (.int (own_at xs j))]))
            refine own_to (fun t k => XS.icmpNo X213.here hx rfl (hb hby own_d20_26) rfl (flt hc26_221).2.2.1 k) ?_
            show own_Fin _ _ _ _ _ _ (T213.setTop (mkF m 29 #[rv a1, .val (.int a), rv a2, .val (.int j)] []))
            exact absurd (hd.2.2.2.2 (hjb ▸ hc10_215)) (fun q => q.elim (hjb ▸ hc18_218) (hjb ▸ hc26_221))
      ·
        show own_Fin _ _ _ _ _ _ (T213.setTop (mkF m 10 #[rv a1, .val (.int a), rv a2, .val (.int j)] [(.int (20 : Int32)), (.int j)]))
        refine own_to (fun t k => XS.icmpYes X213.here hx rfl (pc0 := 10) (pc' := 35) rfl (hb hby own_d20_10) rfl (flt hc10_215).2.1 (by decide) (by decide) k) ?_
        show own_Fin _ _ _ _ _ _ (T213.setTop (mkF m 35 #[rv a1, .val (.int a), rv a2, .val (.int j)] []))
        refine own_to (fun t k => XS.iloadN X213.here hx rfl (hb hby own_d20_35) rfl k) ?_
        show own_Fin _ _ _ _ _ _ (T213.setTop (mkF m 36 #[rv a1, .val (.int a), rv a2, .val (.int j)] [(.int j)]))
        refine own_retI X213 hx hlk hret (hb hby own_d20_36) (by decide) (by decide) ?_
        try rw [e213]
        exact ⟨by rw [hjb], N0, rfl⟩
    | succ r ih =>
      intro j ha hr
      have hj := own_nn hd.1 ha
      have hlt : j.toInt < b.toInt := by omega
      have hjn := own_ltn hlt hd.2.2.1
      have hdj := hd.2.2.2.1 j ha hlt
      have hinc := own_inc hj hlt hd.2.2.1
      show own_Fin _ _ _ _ _ _ (T213.setTop (mkF m 7 #[rv a1, .val (.int a), rv a2, .val (.int j)] []))
      refine own_to (fun t k => XS.iloadN X213.here hx rfl (hb hby own_d20_7) rfl k) ?_
      refine own_to (fun t k => XS.aloadN X213.here hx rfl (hb hby own_d20_8) rfl rfl k) ?_
      obtain ⟨cl222, Ar222, qa222, Sa222, Na222, Ha222, Ga222⟩ := id V2
      refine own_to (fun t k => X213.arraylength hx (by rw [e213]; exact Ar222.1) (State.isArrayOf_alike hZ.alike Ar222.2.1) (g := (mkF m 9 #[rv a1, .val (.int a), rv a2, .val (.int j)] [(.ref a2), (.int j)])) rfl rfl (hb hby own_d20_9) _ k) ?_
      rw [len_of Sa222 Na222]
      show own_Fin _ _ _ _ _ _ (T213.setTop (mkF m 10 #[rv a1, .val (.int a), rv a2, .val (.int j)] [(.int (20 : Int32)), (.int j)]))
      refine own_to (fun t k => XS.icmpNo X213.here hx rfl (hb hby own_d20_10) rfl (tlt hjn).2.1 k) ?_
      show own_Fin _ _ _ _ _ _ (T213.setTop (mkF m 13 #[rv a1, .val (.int a), rv a2, .val (.int j)] []))
      refine own_to (fun t k => XS.aloadN X213.here hx rfl (hb hby own_d20_13) rfl rfl k) ?_
      show own_Fin _ _ _ _ _ _ (T213.setTop (mkF m 14 #[rv a1, .val (.int a), rv a2, .val (.int j)] [(.ref a2)]))
      refine own_to (fun t k => XS.iloadN X213.here hx rfl (hb hby own_d20_14) rfl k) ?_
      obtain ⟨cl223, Ar223, qa223, Sa223, Na223, Ha223, Ga223⟩ := id V2
      have hin224 : ¬ (j < 0 ∨ cl223.slots.size ≤ (j).toNatClampNeg) := inb_of Sa223 ⟨hj, hjn⟩
      refine own_to (fun t k => X213.caload hx (j := j) (v := (.int (own_at xs j))) (by rw [e213]; exact Ar223.1) (State.isArrayOf_alike hZ.alike Ar223.2.1) Ar223.2.2 hin224 (Has.at Ha223 hin224 (own_getm xs _)) (g := (mkF m 15 #[rv a1, .val (.int a), rv a2, .val (.int j)] [(.int j), (.ref a2)])) rfl rfl (hb hby own_d20_15) _ k) ?_
      show own_Fin _ _ _ _ _ _ (T213.setTop (mkF m 16 #[rv a1, .val (.int a), rv a2, .val (.int j)] [(.int (own_at xs j))]))
      refine own_to (fun t k => XS.bipush X213.here hx rfl (hb hby own_d20_16) k) ?_
      refine own_to (fun t k => XS.icmpNo X213.here hx rfl (hb hby own_d20_18) rfl (flt hdj.1).1 k) ?_
      show own_Fin _ _ _ _ _ _ (T213.setTop (mkF m 21 #[rv a1, .val (.int a), rv a2, .val (.int j)] []))
      refine own_to (fun t k => XS.aloadN X213.here hx rfl (hb hby own_d20_21) rfl rfl k) ?_
      show own_Fin _ _ _ _ _ _ (T213.setTop (mkF m 22 #[rv a1, .val (.int a), rv a2, .val (.int j)] [(.ref a2)]))
      refine own_to (fun t k => XS.iloadN X213.here hx rfl (hb hby own_d20_22) rfl k) ?_
      obtain ⟨cl225, Ar225, qa225, Sa225, Na225, Ha225, Ga225⟩ := id V2
      have hin226 : ¬ (j < 0 ∨ cl225.slots.size ≤ (j).toNatClampNeg) := inb_of Sa225 ⟨hj, hjn⟩
      refine own_to (fun t k => X213.caload hx (j := j) (v := (.int (own_at xs j))) (by rw [e213]; exact Ar225.1) (State.isArrayOf_alike hZ.alike Ar225.2.1) Ar225.2.2 hin226 (Has.at Ha225 hin226 (own_getm xs _)) (g := (mkF m 23 #[rv a1, .val (.int a), rv a2, .val (.int j)] [(.int j), (.ref a2)])) rfl rfl (hb hby own_d20_23) _ k) ?_
      show own_Fin _ _ _ _ _ _ (T213.setTop (mkF m 24 #[rv a1, .val (.int a), rv a2, .val (.int j)] [(.int (own_at xs j))]))
      refine own_to (fun t k => XS.bipush X213.here hx rfl (hb hby own_d20_24) k) ?_
      refine own_to (fun t k => XS.icmpNo X213.here hx rfl (hb hby own_d20_26) rfl (flt hdj.2).2.2.1 k) ?_
      show own_Fin _ _ _ _ _ _ (T213.setTop (mkF m 29 #[rv a1, .val (.int a), rv a2, .val (.int j)] []))
      refine own_to (fun t k => XS.iinc X213.here hx rfl (hb hby own_d20_29) rfl (l' := #[rv a1, .val (.int a), rv a2, .val (.int (j + (1 : Int32)))]) rfl k) ?_
      show own_Fin _ _ _ _ _ _ (T213.setTop (mkF m 32 #[rv a1, .val (.int a), rv a2, .val (.int (j + (1 : Int32)))] []))
      refine own_to (fun t k => XS.goto X213.here hx rfl (pc0 := 32) (pc' := 7) rfl (hb hby own_d20_32) (by decide) (by decide) k) ?_
      show own_Fin _ _ _ _ _ _ (T213.setTop (mkF m 7 #[rv a1, .val (.int a), rv a2, .val (.int (j + (1 : Int32)))] []))
      exact ih _ (by rw [hinc.1]; omega) (by rw [hinc.1]; omega)
  exact loop _ a (Int.le_refl _) (by have := hd.2.1; omega : a.toInt + ((b.toInt - a.toInt).toNat : Nat) = b.toInt)
theorem own_d19_0 : decode prog_59_method_20_code 0 = .ok (.aload_n 0, 1) := by decide +kernel
theorem own_d19_1 : decode prog_59_method_20_code 1 = .ok (.aload_n 0, 1) := by decide +kernel
theorem own_d19_2 : decode prog_59_method_20_code 2 = .ok (.getfield 38, 3) := by decide +kernel
theorem own_d19_5 : decode prog_59_method_20_code 5 = .ok (.invokevirtual 210, 3) := by decide +kernel
theorem own_d19_8 : decode prog_59_method_20_code 8 = .ok (.istore_n 1, 1) := by decide +kernel
theorem own_d19_9 : decode prog_59_method_20_code 9 = .ok (.aload_n 0, 1) := by decide +kernel
theorem own_d19_10 : decode prog_59_method_20_code 10 = .ok (.getstatic 213, 3) := by decide +kernel
theorem own_d19_13 : decode prog_59_method_20_code 13 = .ok (.putfield 34, 3) := by decide +kernel
theorem own_d19_16 : decode prog_59_method_20_code 16 = .ok (.aload_n 0, 1) := by decide +kernel
theorem own_d19_17 : decode prog_59_method_20_code 17 = .ok (.iload_n 1, 1) := by decide +kernel
theorem own_d19_18 : decode prog_59_method_20_code 18 = .ok (.invokevirtual 109, 3) := by decide +kernel
theorem own_d19_21 : decode prog_59_method_20_code 21 = .ok (.bipush 46, 2) := by decide +kernel
theorem own_d19_23 : decode prog_59_method_20_code 23 = .ok (.if_icmp .ne 18, 3) := by decide +kernel
theorem own_d19_26 : decode prog_59_method_20_code 26 = .ok (.aload_n 0, 1) := by decide +kernel
theorem own_d19_27 : decode prog_59_method_20_code 27 = .ok (.iload_n 1, 1) := by decide +kernel
theorem own_d19_28 : decode prog_59_method_20_code 28 = .ok (.iconst 1, 1) := by decide +kernel
theorem own_d19_29 : decode prog_59_method_20_code 29 = .ok (.iadd, 1) := by decide +kernel
theorem own_d19_30 : decode prog_59_method_20_code 30 = .ok (.invokevirtual 210, 3) := by decide +kernel
theorem own_d19_33 : decode prog_59_method_20_code 33 = .ok (.istore_n 1, 1) := by decide +kernel
theorem own_d19_34 : decode prog_59_method_20_code 34 = .ok (.aload_n 0, 1) := by decide +kernel
theorem own_d19_35 : decode prog_59_method_20_code 35 = .ok (.getstatic 216, 3) := by decide +kernel
theorem own_d19_38 : decode prog_59_method_20_code 38 = .ok (.putfield 34, 3) := by decide +kernel
theorem own_d19_41 : decode prog_59_method_20_code 41 = .ok (.aload_n 0, 1) := by decide +kernel
theorem own_d19_42 : decode prog_59_method_20_code 42 = .ok (.iload_n 1, 1) := by decide +kernel
theorem own_d19_43 : decode prog_59_method_20_code 43 = .ok (.invokevirtual 109, 3) := by decide +kernel
theorem own_d19_46 : decode prog_59_method_20_code 46 = .ok (.bipush 101, 2) := by decide +kernel
theorem own_d19_48 : decode prog_59_method_20_code 48 = .ok (.if_icmp .eq 13, 3) := by decide +kernel
theorem own_d19_51 : decode prog_59_method_20_code 51 = .ok (.aload_n 0, 1) := by decide +kernel
theorem own_d19_52 : decode prog_59_method_20_code 52 = .ok (.iload_n 1, 1) := by decide +kernel
theorem own_d19_53 : decode prog_59_method_20_code 53 = .ok (.invokevirtual 109, 3) := by decide +kernel
theorem own_d19_56 : decode prog_59_method_20_code 56 = .ok (.bipush 69, 2) := by decide +kernel
theorem own_d19_58 : decode prog_59_method_20_code 58 = .ok (.if_icmp .ne 54, 3) := by decide +kernel
theorem own_d19_61 : decode prog_59_method_20_code 61 = .ok (.iload_n 1, 1) := by decide +kernel
theorem own_d19_62 : decode prog_59_method_20_code 62 = .ok (.iconst 1, 1) := by decide +kernel
theorem own_d19_63 : decode prog_59_method_20_code 63 = .ok (.iadd, 1) := by decide +kernel
theorem own_d19_64 : decode prog_59_method_20_code 64 = .ok (.istore_n 2, 1) := by decide +kernel
theorem own_d19_65 : decode prog_59_method_20_code 65 = .ok (.aload_n 0, 1) := by decide +kernel
theorem own_d19_66 : decode prog_59_method_20_code 66 = .ok (.iload_n 2, 1) := by decide +kernel
theorem own_d19_67 : decode prog_59_method_20_code 67 = .ok (.invokevirtual 109, 3) := by decide +kernel
theorem own_d19_70 : decode prog_59_method_20_code 70 = .ok (.bipush 43, 2) := by decide +kernel
theorem own_d19_72 : decode prog_59_method_20_code 72 = .ok (.if_icmp .eq 13, 3) := by decide +kernel
theorem own_d19_75 : decode prog_59_method_20_code 75 = .ok (.aload_n 0, 1) := by decide +kernel
theorem own_d19_76 : decode prog_59_method_20_code 76 = .ok (.iload_n 2, 1) := by decide +kernel
theorem own_d19_77 : decode prog_59_method_20_code 77 = .ok (.invokevirtual 109, 3) := by decide +kernel
theorem own_d19_80 : decode prog_59_method_20_code 80 = .ok (.bipush 45, 2) := by decide +kernel
theorem own_d19_82 : decode prog_59_method_20_code 82 = .ok (.if_icmp .ne 6, 3) := by decide +kernel
theorem own_d19_85 : decode prog_59_method_20_code 85 = .ok (.iinc 2 1, 3) := by decide +kernel
theorem own_d19_88 : decode prog_59_method_20_code 88 = .ok (.aload_n 0, 1) := by decide +kernel
theorem own_d19_89 : decode prog_59_method_20_code 89 = .ok (.iload_n 2, 1) := by decide +kernel
theorem own_d19_90 : decode prog_59_method_20_code 90 = .ok (.invokevirtual 109, 3) := by decide +kernel
theorem own_d19_93 : decode prog_59_method_20_code 93 = .ok (.invokestatic 179, 3) := by decide +kernel
theorem own_d19_96 : decode prog_59_method_20_code 96 = .ok (.ifCond .eq 16, 3) := by decide +kernel
theorem own_d19_99 : decode prog_59_method_20_code 99 = .ok (.aload_n 0, 1) := by decide +kernel
theorem own_d19_100 : decode prog_59_method_20_code 100 = .ok (.iload_n 2, 1) := by decide +kernel
theorem own_d19_101 : decode prog_59_method_20_code 101 = .ok (.invokevirtual 210, 3) := by decide +kernel
theorem own_d19_104 : decode prog_59_method_20_code 104 = .ok (.istore_n 1, 1) := by decide +kernel
theorem own_d19_105 : decode prog_59_method_20_code 105 = .ok (.aload_n 0, 1) := by decide +kernel
theorem own_d19_106 : decode prog_59_method_20_code 106 = .ok (.getstatic 219, 3) := by decide +kernel
theorem own_d19_109 : decode prog_59_method_20_code 109 = .ok (.putfield 34, 3) := by decide +kernel
theorem own_d19_112 : decode prog_59_method_20_code 112 = .ok (.aload_n 0, 1) := by decide +kernel
theorem own_d19_113 : decode prog_59_method_20_code 113 = .ok (.iload_n 1, 1) := by decide +kernel
theorem own_d19_114 : decode prog_59_method_20_code 114 = .ok (.putfield 41, 3) := by decide +kernel
theorem own_d19_117 : decode prog_59_method_20_code 117 = .ok (.iload_n 1, 1) := by decide +kernel
theorem own_d19_118 : decode prog_59_method_20_code 118 = .ok (.aload_n 0, 1) := by decide +kernel
theorem own_d19_119 : decode prog_59_method_20_code 119 = .ok (.getfield 26, 3) := by decide +kernel
theorem own_d19_122 : decode prog_59_method_20_code 122 = .ok (.arraylength, 1) := by decide +kernel
theorem own_d19_123 : decode prog_59_method_20_code 123 = .ok (.if_icmp .ge 16, 3) := by decide +kernel
theorem own_d19_126 : decode prog_59_method_20_code 126 = .ok (.aload_n 0, 1) := by decide +kernel
theorem own_d19_127 : decode prog_59_method_20_code 127 = .ok (.iload_n 1, 1) := by decide +kernel
theorem own_d19_128 : decode prog_59_method_20_code 128 = .ok (.invokevirtual 185, 3) := by decide +kernel
theorem own_d19_131 : decode prog_59_method_20_code 131 = .ok (.ifCond .eq 8, 3) := by decide +kernel
theorem own_d19_134 : decode prog_59_method_20_code 134 = .ok (.aload_n 0, 1) := by decide +kernel
theorem own_d19_135 : decode prog_59_method_20_code 135 = .ok (.invokevirtual 222, 3) := by decide +kernel
theorem own_d19_138 : decode prog_59_method_20_code 138 = .ok (.athrow, 1) := by decide +kernel
theorem own_d19_139 : decode prog_59_method_20_code 139 = .ok (.return_, 1) := by decide +kernel
theorem own_pd9 : parseMethodDescriptor "(I)I" = some ⟨[.int], some .int⟩ := by decide +kernel
theorem own_pd10 : parseMethodDescriptor "(I)C" = some ⟨[.int], some .char⟩ := by decide +kernel
theorem own_pd11 : parseMethodDescriptor "(C)Z" = some ⟨[.char], some .boolean⟩ := by decide +kernel
theorem own_num_ef (m : MethodId) (a1 : Addr) : entryFrame m #[(.ref a1)] 3 = mkF m 0 #[rv a1, .unset, .unset] [] := by first | (simp [entryFrame, mkF, argsToLocals, Value.category]; done) | rfl
set_option maxRecDepth 65536 in
set_option maxHeartbeats 40000000 in
theorem own_num (l : Launch) (Z : State) (a0 : Array Value) (hw : ∀ d ∈ tables_1, d.before a0 Z = true) (ws : List Jvm.Cond) (wI : Addr) (wT : Addr) (cT : Cell) (a1 : Addr) (a2 : Addr) (k2 : ClassId) (xs : List Int32) (st : Int32) (en : Int32) (h0 : Heap) (n0 : Nat) (Z0 : n0 ≤ h0.size) (SI : Sta Z Z.heap "com/example/libxqtype/libxqtype/ExpressionLexer$Kind" "INTEGER_LITERAL" "Lcom/example/libxqtype/libxqtype/ExpressionLexer$Kind;" (.ref wI)) (O0 : Old Z n0 h0) (ST : Sta Z Z.heap "com/example/libxqtype/libxqtype/XmlCharacters" "ASCII_NAME_CHARACTERS" "[B" (.ref wT)) (AT : Arr Z Z.heap wT cT .byte) (hT : cT.slots.size = 128) (E1 : Exa Z h0 a1 "com/example/libxqtype/libxqtype/ExpressionLexer") (Fc : Fld Z h0 a1 "com/example/libxqtype/libxqtype/ExpressionLexer" "chars" "[C" (.ref a2)) (V2 : Arv Z h0 a2 k2 .char (20 : Int32) (xs.map Value.int) (.int (0 : Int32))) (Fk : Fld Z h0 a1 "com/example/libxqtype/libxqtype/ExpressionLexer" "kind" "Lcom/example/libxqtype/libxqtype/ExpressionLexer$Kind;" .null) (Fs : Fld Z h0 a1 "com/example/libxqtype/libxqtype/ExpressionLexer" "start" "I" (.int st)) (Fe : Fld Z h0 a1 "com/example/libxqtype/libxqtype/ExpressionLexer" "end" "I" (.int (0 : Int32))) (g_a1 : n0 ≤ a1) (ne12 : a1 ≠ a2) (hk : ∀ t : Int32, ¬ t < 0 → t < (20 : Int32) → ¬ own_at xs t < 0 ∧ ¬ (255 : Int32) < own_at xs t) (d1 : own_dig xs st en) (c1 : ¬ own_ca xs en = (46 : Int32)) (c2 : ¬ own_ca xs en = (101 : Int32)) (c3 : ¬ own_ca xs en = (69 : Int32)) (c4 : en < (20 : Int32) → own_at xs en < (128 : Int32) ∧ ∃ b, cT.slots[(own_at xs en).toNatClampNeg]? = some (.int b) ∧ ¬ b = (2 : Int32)) :
    own_Met l Z (⟨"com/example/libxqtype/libxqtype/ExpressionLexer", "numericLiteral", "()V"⟩ : MethodName) prog_59_method_20_code 3 none ws ({ frames := 2, cells := 0, slots := 0, locals := 32 } : Room) #[(.ref a1)] h0 (fun v h L => v = none ∧ Fr n0 L ∧ Keep h0 h [a1] ∧ Fld Z h a1 "com/example/libxqtype/libxqtype/ExpressionLexer" "chars" "[C" (.ref a2) ∧ Fld Z h a1 "com/example/libxqtype/libxqtype/ExpressionLexer" "start" "I" (.int st) ∧ Fld Z h a1 "com/example/libxqtype/libxqtype/ExpressionLexer" "end" "I" (.int en)) := by
  refine own_enter (plainFor_of_name own_pn4) ?_
  intro p e s m below meth c s₁ X0 hx hZ hby hml hown hnm hret hlk e0
  have N0 := Fr.nil n0
  rw [own_num_ef m a1]
  have KK0 : Keep h0 h0 [a1] := Keep.refl _ _
  show own_Fin _ _ _ _ _ _ (s₁.setTop (mkF m 0 #[rv a1, .unset, .unset] []))
  refine own_to (fun t k => XS.aloadN X0.here hx rfl (hb hby own_d19_0) rfl rfl k) ?_
  refine own_to (fun t k => XS.aloadN X0.here hx rfl (hb hby own_d19_1) rfl rfl k) ?_
  obtain ⟨T227, X227, e227, st227⟩ := getF X0 hx hZ hown (host := "") (Or.inl (own_W hw 108 rfl)) Via.refl e0 Fs (g := (mkF m 2 #[rv a1, .unset, .unset] [(.ref a1), (.ref a1)])) rfl rfl (hb hby own_d19_2)
  refine own_to (fun t k => st227 t k) ?_
  show own_Fin _ _ _ _ _ _ (T227.setTop (mkF m 5 #[rv a1, .unset, .unset] [(.int st), (.ref a1)]))
  obtain ⟨cq228, cqa228, cqb228⟩ := E1.cell
  obtain ⟨_, _, ⟨T228, L228, k228, n228⟩, -, X228, ⟨Lc228, hQ228, l228, y228, z228⟩, st228⟩ := X227.privateBack hx (y := (⟨"com/example/libxqtype/libxqtype/ExpressionLexer", "digitsEnd", "(I)I"⟩ : MethodName)) hown (mvT hZ (own_W hw 117 rfl)) (mvT hZ (own_W hw 118 rfl)) (own_selP (y' := (⟨"com/example/libxqtype/libxqtype/ExpressionLexer", "integerValue", "()J"⟩ : MethodName)) (mvT hZ (own_W hw 144 rfl)) rfl (Cond.privateMethod_at (mvP hZ (own_W hw 119 rfl) (args := #[]))) (mvT hZ (own_W hw 118 rfl)) (by decide)) (Cond.privateMethod_at (mvP hZ (own_W hw 119 rfl) (args := #[]))) (mvT hZ (own_W hw 120 rfl)) (by decide) (own_back (W := 0) (own_dge l Z a0 hw [] a1 a2 k2 xs st en h0 n0 Z0 E1 Fc V2 d1) hZ (own_W hw 120 rfl) (own_W hw 38 rfl) (by decide) (by decide)) (g := (mkF m 5 #[rv a1, .unset, .unset] [(.int st), (.ref a1)])) rfl (by rw [hml]; rfl) (Steps.refl _) (a := a1) (by rw [e227]; exact cqa228) cqb228 (argsL := [(.int st)]) (rest := []) (lenOf own_pd9 rfl) rfl (by show 2 * 0 + _ ≤ _; exact Nat.le_of_eq rfl) (hb hby own_d19_5) (fun _ _ => ⟨rfl, e227, (by decide : 0 + 0 ≤ _), (by decide : 0 + 0 ≤ _)⟩)
  dsimp only [Pt.U, Pt.locs, Pt.cells, Pt.slots] at X228 l228 y228 z228 st228 hQ228
  rw [l228, y228, z228] at X228
  obtain ⟨rfl, N228q, eh228⟩ := hQ228
  have N228 := Fr.app N0 N228q
  refine own_to (fun t k => st228.trans k) ?_
  show own_Fin _ _ _ _ _ _ (T228.setTop (mkF m 8 #[rv a1, .unset, .unset] [(.int en)]))
  refine own_to (fun t k => XS.istoreN X228.here hx rfl (hb hby own_d19_8) rfl (l' := #[rv a1, .val (.int en), .unset]) rfl k) ?_
  show own_Fin _ _ _ _ _ _ (T228.setTop (mkF m 9 #[rv a1, .val (.int en), .unset] []))
  refine own_to (fun t k => XS.aloadN X228.here hx rfl (hb hby own_d19_9) rfl rfl k) ?_
  obtain ⟨T229, X229, e229, st229⟩ := getS2 X228 hx hZ hown (host := "") (Or.inl (own_W hw 121 rfl)) Via.refl eh228 (SI.ext O0.2) (g := (mkF m 10 #[rv a1, .val (.int en), .unset] [(.ref a1)])) rfl (hb hby own_d19_10)
  refine own_to (fun t k => st229 t k) ?_
  show own_Fin _ _ _ _ _ _ (T229.setTop (mkF m 13 #[rv a1, .val (.int en), .unset] [(.ref wI), (.ref a1)]))
  obtain ⟨T230, h230, X230, e230, W230, st230⟩ := putF X229 hx hZ hown (host := "") (Or.inl (own_W hw 124 rfl)) Via.refl e229 Fk E1 (Or.inl (own_W hw 125 rfl)) (own_W hw 37 rfl) (ty := (.object "com/example/libxqtype/libxqtype/ExpressionLexer$Kind")) (by decide) rfl rfl (g := (mkF m 13 #[rv a1, .val (.int en), .unset] [(.ref wI), (.ref a1)])) rfl rfl (hb hby own_d19_13)
  have Fw230 := Fk.same W230
  have N230 := Fr.snoc X230 N228 g_a1
  have O230 := O0.wr W230 g_a1
  have KK230 : Keep h0 h230 [a1] := KK0.wr W230 (Or.inl (List.mem_of_getElem? (i := 0) rfl))
  have E1_e230 := E1.wr W230
  have Fc_e230 := Fc.other W230 (Or.inr (slot_ne (Or.inr (own_W hw 95 rfl)) (Or.inl (own_W hw 125 rfl)) (by decide) (t := (.array .char)) (t' := (.object "com/example/libxqtype/libxqtype/ExpressionLexer$Kind")) (by decide) (by decide)))
  have V2_e230 := V2.other W230 (Ne.symm ne12)
  have Fs_e230 := Fs.other W230 (Or.inr (slot_ne (Or.inl (own_W hw 109 rfl)) (Or.inl (own_W hw 125 rfl)) (by decide) (t := .int) (t' := (.object "com/example/libxqtype/libxqtype/ExpressionLexer$Kind")) (by decide) (by decide)))
  have Fe_e230 := Fe.other W230 (Or.inr (slot_ne (Or.inl (own_W hw 131 rfl)) (Or.inl (own_W hw 125 rfl)) (by decide) (t := .int) (t' := (.object "com/example/libxqtype/libxqtype/ExpressionLexer$Kind")) (by decide) (by decide)))
  refine own_to (fun t k => st230 t k) ?_
  show own_Fin _ _ _ _ _ _ (T230.setTop (mkF m 16 #[rv a1, .val (.int en), .unset] []))
  refine own_to (fun t k => XS.aloadN X230.here hx rfl (hb hby own_d19_16) rfl rfl k) ?_
  refine own_to (fun t k => XS.iloadN X230.here hx rfl (hb hby own_d19_17) rfl k) ?_
  show own_Fin _ _ _ _ _ _ (T230.setTop (mkF m 18 #[rv a1, .val (.int en), .unset] [(.int en), (.ref a1)]))
  obtain ⟨cq231, cqa231, cqb231⟩ := E1_e230.cell
  obtain ⟨_, _, ⟨T231, L231, k231, n231⟩, -, X231, ⟨Lc231, hQ231, l231, y231, z231⟩, st231⟩ := X230.privateBack hx (y := (⟨"com/example/libxqtype/libxqtype/ExpressionLexer", "charAt", "(I)C"⟩ : MethodName)) hown (mvT hZ (own_W hw 126 rfl)) (mvT hZ (own_W hw 127 rfl)) (own_selP (y' := (⟨"com/example/libxqtype/libxqtype/ExpressionLexer", "integerValue", "()J"⟩ : MethodName)) (mvT hZ (own_W hw 144 rfl)) rfl (Cond.privateMethod_at (mvP hZ (own_W hw 128 rfl) (args := #[]))) (mvT hZ (own_W hw 127 rfl)) (by decide)) (Cond.privateMethod_at (mvP hZ (own_W hw 128 rfl) (args := #[]))) (mvT hZ (own_W hw 129 rfl)) (by decide) (own_back (W := 0) (own_car l Z a0 hw [] a1 a2 k2 xs en h230 n0 (Nat.le_trans Z0 (Keep.of_wr W230).1) E1_e230 Fc_e230 V2_e230 (own_nn d1.1 d1.2.1) (fun q => hk _ (own_nn d1.1 d1.2.1) q)) hZ (own_W hw 129 rfl) (own_W hw 38 rfl) (by decide) (by decide)) (g := (mkF m 18 #[rv a1, .val (.int en), .unset] [(.int en), (.ref a1)])) rfl (by rw [hml]; rfl) (Steps.refl _) (a := a1) (by rw [e230]; exact cqa231) cqb231 (argsL := [(.int en)]) (rest := []) (lenOf own_pd10 rfl) rfl (by show 2 * 0 + _ ≤ _; exact Nat.le_of_eq rfl) (hb hby own_d19_18) (fun _ _ => ⟨rfl, e230, (by decide : 0 + 0 ≤ _), (by decide : 0 + 0 ≤ _)⟩)
  dsimp only [Pt.U, Pt.locs, Pt.cells, Pt.slots] at X231 l231 y231 z231 st231 hQ231
  rw [l231, y231, z231] at X231
  obtain ⟨rfl, N231q, eh231⟩ := hQ231
  have N231 := Fr.app N230 N231q
  refine own_to (fun t k => st231.trans k) ?_
  show own_Fin _ _ _ _ _ _ (T231.setTop (mkF m 21 #[rv a1, .val (.int en), .unset] [(.int (own_ca xs en))]))
  refine own_to (fun t k => XS.bipush X231.here hx rfl (hb hby own_d19_21) k) ?_
  refine own_to (fun t k => XS.icmpYes X231.here hx rfl (pc0 := 23) (pc' := 41) rfl (hb hby own_d19_23) rfl (feq c1).2 (by decide) (by decide) k) ?_
  show own_Fin _ _ _ _ _ _ (T231.setTop (mkF m 41 #[rv a1, .val (.int en), .unset] []))
  refine own_to (fun t k => XS.aloadN X231.here hx rfl (hb hby own_d19_41) rfl rfl k) ?_
  refine own_to (fun t k => XS.iloadN X231.here hx rfl (hb hby own_d19_42) rfl k) ?_
  show own_Fin _ _ _ _ _ _ (T231.setTop (mkF m 43 #[rv a1, .val (.int en), .unset] [(.int en), (.ref a1)]))
  obtain ⟨cq232, cqa232, cqb232⟩ := E1_e230.cell
  obtain ⟨_, _, ⟨T232, L232, k232, n232⟩, -, X232, ⟨Lc232, hQ232, l232, y232, z232⟩, st232⟩ := X231.privateBack hx (y := (⟨"com/example/libxqtype/libxqtype/ExpressionLexer", "charAt", "(I)C"⟩ : MethodName)) hown (mvT hZ (own_W hw 126 rfl)) (mvT hZ (own_W hw 127 rfl)) (own_selP (y' := (⟨"com/example/libxqtype/libxqtype/ExpressionLexer", "integerValue", "()J"⟩ : MethodName)) (mvT hZ (own_W hw 144 rfl)) rfl (Cond.privateMethod_at (mvP hZ (own_W hw 128 rfl) (args := #[]))) (mvT hZ (own_W hw 127 rfl)) (by decide)) (Cond.privateMethod_at (mvP hZ (own_W hw 128 rfl) (args := #[]))) (mvT hZ (own_W hw 129 rfl)) (by decide) (own_back (W := 0) (own_car l Z a0 hw [] a1 a2 k2 xs en h230 n0 (Nat.le_trans Z0 (Keep.of_wr W230).1) E1_e230 Fc_e230 V2_e230 (own_nn d1.1 d1.2.1) (fun q => hk _ (own_nn d1.1 d1.2.1) q)) hZ (own_W hw 129 rfl) (own_W hw 38 rfl) (by decide) (by decide)) (g := (mkF m 43 #[rv a1, .val (.int en), .unset] [(.int en), (.ref a1)])) rfl (by rw [hml]; rfl) (Steps.refl _) (a := a1) (by rw [eh231]; exact cqa232) cqb232 (argsL := [(.int en)]) (rest := []) (lenOf own_pd10 rfl) rfl (by show 2 * 0 + _ ≤ _; exact Nat.le_of_eq rfl) (hb hby own_d19_43) (fun _ _ => ⟨rfl, eh231, (by decide : 0 + 0 ≤ _), (by decide : 0 + 0 ≤ _)⟩)
  dsimp only [Pt.U, Pt.locs, Pt.cells, Pt.slots] at X232 l232 y232 z232 st232 hQ232
  rw [l232, y232, z232] at X232
  obtain ⟨rfl, N232q, eh232⟩ := hQ232
  have N232 := Fr.app N231 N232q
  refine own_to (fun t k => st232.trans k) ?_
  show own_Fin _ _ _ _ _ _ (T232.setTop (mkF m 46 #[rv a1, .val (.int en), .unset] [(.int (own_ca xs en))]))
  refine own_to (fun t k => XS.bipush X232.here hx rfl (hb hby own_d19_46) k) ?_
  refine own_to (fun t k => XS.icmpNo X232.here hx rfl (hb hby own_d19_48) rfl (feq c2).1 k) ?_
  show own_Fin _ _ _ _ _ _ (T232.setTop (mkF m 51 #[rv a1, .val (.int en), .unset] []))
  refine own_to (fun t k => XS.aloadN X232.here hx rfl (hb hby own_d19_51) rfl rfl k) ?_
  refine own_to (fun t k => XS.iloadN X232.here hx rfl (hb hby own_d19_52) rfl k) ?_
  show own_Fin _ _ _ _ _ _ (T232.setTop (mkF m 53 #[rv a1, .val (.int en), .unset] [(.int en), (.ref a1)]))
  obtain ⟨cq233, cqa233, cqb233⟩ := E1_e230.cell
  obtain ⟨_, _, ⟨T233, L233, k233, n233⟩, -, X233, ⟨Lc233, hQ233, l233, y233, z233⟩, st233⟩ := X232.privateBack hx (y := (⟨"com/example/libxqtype/libxqtype/ExpressionLexer", "charAt", "(I)C"⟩ : MethodName)) hown (mvT hZ (own_W hw 126 rfl)) (mvT hZ (own_W hw 127 rfl)) (own_selP (y' := (⟨"com/example/libxqtype/libxqtype/ExpressionLexer", "integerValue", "()J"⟩ : MethodName)) (mvT hZ (own_W hw 144 rfl)) rfl (Cond.privateMethod_at (mvP hZ (own_W hw 128 rfl) (args := #[]))) (mvT hZ (own_W hw 127 rfl)) (by decide)) (Cond.privateMethod_at (mvP hZ (own_W hw 128 rfl) (args := #[]))) (mvT hZ (own_W hw 129 rfl)) (by decide) (own_back (W := 0) (own_car l Z a0 hw [] a1 a2 k2 xs en h230 n0 (Nat.le_trans Z0 (Keep.of_wr W230).1) E1_e230 Fc_e230 V2_e230 (own_nn d1.1 d1.2.1) (fun q => hk _ (own_nn d1.1 d1.2.1) q)) hZ (own_W hw 129 rfl) (own_W hw 38 rfl) (by decide) (by decide)) (g := (mkF m 53 #[rv a1, .val (.int en), .unset] [(.int en), (.ref a1)])) rfl (by rw [hml]; rfl) (Steps.refl _) (a := a1) (by rw [eh232]; exact cqa233) cqb233 (argsL := [(.int en)]) (rest := []) (lenOf own_pd10 rfl) rfl (by show 2 * 0 + _ ≤ _; exact Nat.le_of_eq rfl) (hb hby own_d19_53) (fun _ _ => ⟨rfl, eh232, (by decide : 0 + 0 ≤ _), (by decide : 0 + 0 ≤ _)⟩)
  dsimp only [Pt.U, Pt.locs, Pt.cells, Pt.slots] at X233 l233 y233 z233 st233 hQ233
  rw [l233, y233, z233] at X233
  obtain ⟨rfl, N233q, eh233⟩ := hQ233
  have N233 := Fr.app N232 N233q
  refine own_to (fun t k => st233.trans k) ?_
  show own_Fin _ _ _ _ _ _ (T233.setTop (mkF m 56 #[rv a1, .val (.int en), .unset] [(.int (own_ca xs en))]))
  refine own_to (fun t k => XS.bipush X233.here hx rfl (hb hby own_d19_56) k) ?_
  refine own_to (fun t k => XS.icmpYes X233.here hx rfl (pc0 := 58) (pc' := 112) rfl (hb hby own_d19_58) rfl (feq c3).2 (by decide) (by decide) k) ?_
  show own_Fin _ _ _ _ _ _ (T233.setTop (mkF m 112 #[rv a1, .val (.int en), .unset] []))
  refine own_to (fun t k => XS.aloadN X233.here hx rfl (hb hby own_d19_112) rfl rfl k) ?_
  refine own_to (fun t k => XS.iloadN X233.here hx rfl (hb hby own_d19_113) rfl k) ?_
  show own_Fin _ _ _ _ _ _ (T233.setTop (mkF m 114 #[rv a1, .val (.int en), .unset] [(.int en), (.ref a1)]))
  obtain ⟨T234, h234, X234, e234, W234, st234⟩ := putF X233 hx hZ hown (host := "") (Or.inl (own_W hw 130 rfl)) Via.refl eh233 Fe_e230 E1_e230 (Or.inl (own_W hw 131 rfl)) (own_W hw 37 rfl) (ty := .int) (by decide) rfl rfl (g := (mkF m 114 #[rv a1, .val (.int en), .unset] [(.int en), (.ref a1)])) rfl rfl (hb hby own_d19_114)
  have Fw234 := Fe_e230.same W234
  have N234 := Fr.snoc X234 N233 g_a1
  have O234 := O230.wr W234 g_a1
  have KK234 : Keep h0 h234 [a1] := KK230.wr W234 (Or.inl (List.mem_of_getElem? (i := 0) rfl))
  have E1_e234 := E1_e230.wr W234
  have Fc_e234 := Fc_e230.other W234 (Or.inr (slot_ne (Or.inr (own_W hw 95 rfl)) (Or.inl (own_W hw 131 rfl)) (by decide) (t := (.array .char)) (t' := .int) (by decide) (by decide)))
  have V2_e234 := V2_e230.other W234 (Ne.symm ne12)
  have Fw230_e234 := Fw230.other W234 (Or.inr (slot_ne (Or.inl (own_W hw 125 rfl)) (Or.inl (own_W hw 131 rfl)) (by decide) (t := (.object "com/example/libxqtype/libxqtype/ExpressionLexer$Kind")) (t' := .int) (by decide) (by decide)))
  have Fs_e234 := Fs_e230.other W234 (Or.inr (slot_ne (Or.inl (own_W hw 109 rfl)) (Or.inl (own_W hw 131 rfl)) (by decide) (t := .int) (t' := .int) (by decide) (by decide)))
  refine own_to (fun t k => st234 t k) ?_
  show own_Fin _ _ _ _ _ _ (T234.setTop (mkF m 117 #[rv a1, .val (.int en), .unset] []))
  refine own_to (fun t k => XS.iloadN X234.here hx rfl (hb hby own_d19_117) rfl k) ?_
  refine own_to (fun t k => XS.aloadN X234.here hx rfl (hb hby own_d19_118) rfl rfl k) ?_
  obtain ⟨T235, X235, e235, st235⟩ := getF X234 hx hZ hown (host := "") (Or.inl (own_W hw 94 rfl)) Via.refl e234 Fc_e234 (g := (mkF m 119 #[rv a1, .val (.int en), .unset] [(.ref a1), (.int en)])) rfl rfl (hb hby own_d19_119)
  refine own_to (fun t k => st235 t k) ?_
  show own_Fin _ _ _ _ _ _ (T235.setTop (mkF m 122 #[rv a1, .val (.int en), .unset] [(.ref a2), (.int en)]))
  obtain ⟨cl236, Ar236, qa236, Sa236, Na236, Ha236, Ga236⟩ := id V2_e234
  refine own_to (fun t k => X235.arraylength hx (by rw [e235]; exact Ar236.1) (State.isArrayOf_alike hZ.alike Ar236.2.1) (g := (mkF m 122 #[rv a1, .val (.int en), .unset] [(.ref a2), (.int en)])) rfl rfl (hb hby own_d19_122) _ k) ?_
  rw [len_of Sa236 Na236]
  show own_Fin _ _ _ _ _ _ (T235.setTop (mkF m 123 #[rv a1, .val (.int en), .unset] [(.int (20 : Int32)), (.int en)]))
  by_cases hc123_237 : en < (20 : Int32)
  ·
    show own_Fin _ _ _ _ _ _ (T235.setTop (mkF m 123 #[rv a1, .val (.int en), .unset] [(.int (20 : Int32)), (.int en)]))
    refine own_to (fun t k => XS.icmpNo X235.here hx rfl (hb hby own_d19_123) rfl (tlt hc123_237).2.1 k) ?_
    show own_Fin _ _ _ _ _ _ (T235.setTop (mkF m 126 #[rv a1, .val (.int en), .unset] []))
    refine own_to (fun t k => XS.aloadN X235.here hx rfl (hb hby own_d19_126) rfl rfl k) ?_
    show own_Fin _ _ _ _ _ _ (T235.setTop (mkF m 127 #[rv a1, .val (.int en), .unset] [(.ref a1)]))
    refine own_to (fun t k => XS.iloadN X235.here hx rfl (hb hby own_d19_127) rfl k) ?_
    obtain ⟨hp238, b238, hb238, hq238⟩ := c4 hc123_237
    obtain ⟨cq239, cqa239, cqb239⟩ := E1_e234.cell
    obtain ⟨_, _, ⟨T239, L239, k239, n239⟩, -, X239, ⟨Lc239, hQ239, l239, y239, z239⟩, st239⟩ := X235.privateBack hx (y := (⟨"com/example/libxqtype/libxqtype/ExpressionLexer", "startsName", "(I)Z"⟩ : MethodName)) hown (mvT hZ (own_W hw 132 rfl)) (mvT hZ (own_W hw 133 rfl)) (own_selP (y' := (⟨"com/example/libxqtype/libxqtype/ExpressionLexer", "integerValue", "()J"⟩ : MethodName)) (mvT hZ (own_W hw 144 rfl)) rfl (Cond.privateMethod_at (mvP hZ (own_W hw 134 rfl) (args := #[]))) (mvT hZ (own_W hw 133 rfl)) (by decide)) (Cond.privateMethod_at (mvP hZ (own_W hw 134 rfl) (args := #[]))) (mvT hZ (own_W hw 135 rfl)) (by decide) (own_back (W := 0) (own_sna l Z a0 hw [] wT cT a1 a2 k2 xs en b238 h234 n0 (Nat.le_trans (Nat.le_trans Z0 (Keep.of_wr W230).1) (Keep.of_wr W234).1) O234 ST AT hT E1_e234 Fc_e234 V2_e234 (own_nn d1.1 d1.2.1) hc123_237 (hk _ (own_nn d1.1 d1.2.1) hc123_237).1 hp238 hb238 hq238) hZ (own_W hw 135 rfl) (own_W hw 38 rfl) (by decide) (by decide)) (g := (mkF m 128 #[rv a1, .val (.int en), .unset] [(.int en), (.ref a1)])) rfl (by rw [hml]; rfl) (Steps.refl _) (a := a1) (by rw [e235]; exact cqa239) cqb239 (argsL := [(.int en)]) (rest := []) (lenOf own_pd8 rfl) rfl (by show 2 * 0 + _ ≤ _; exact Nat.le_of_eq rfl) (hb hby own_d19_128) (fun _ _ => ⟨rfl, e235, (by decide : 0 + 0 ≤ _), (by decide : 0 + 0 ≤ _)⟩)
    dsimp only [Pt.U, Pt.locs, Pt.cells, Pt.slots] at X239 l239 y239 z239 st239 hQ239
    rw [l239, y239, z239] at X239
    obtain ⟨rfl, N239q, eh239⟩ := hQ239
    have N239 := Fr.app N234 N239q
    refine own_to (fun t k => st239.trans k) ?_
    show own_Fin _ _ _ _ _ _ (T239.setTop (mkF m 131 #[rv a1, .val (.int en), .unset] [(.int (0 : Int32))]))
    refine own_to (fun t k => XS.ifYes X239.here hx rfl (pc0 := 131) (pc' := 139) rfl (hb hby own_d19_131) rfl ((if0 _ _).trans (teq rfl).1) (by decide) (by decide) k) ?_
    show own_Fin _ _ _ _ _ _ (T239.setTop (mkF m 139 #[rv a1, .val (.int en), .unset] []))
    refine own_retV X239 hx hlk hret (hb hby own_d19_139) (by decide) (by decide) ?_
    try rw [eh239]
    exact ⟨rfl, N239, KK234, Fc_e234, Fs_e234, Fw234⟩
  ·
    show own_Fin _ _ _ _ _ _ (T235.setTop (mkF m 123 #[rv a1, .val (.int en), .unset] [(.int (20 : Int32)), (.int en)]))
    refine own_to (fun t k => XS.icmpYes X235.here hx rfl (pc0 := 123) (pc' := 139) rfl (hb hby own_d19_123) rfl (flt hc123_237).2.1 (by decide) (by decide) k) ?_
    show own_Fin _ _ _ _ _ _ (T235.setTop (mkF m 139 #[rv a1, .val (.int en), .unset] []))
    refine own_retV X235 hx hlk hret (hb hby own_d19_139) (by decide) (by decide) ?_
    try rw [e235]
    exact ⟨rfl, N234, KK234, Fc_e234, Fs_e234, Fw234⟩
def own_offs : Array Int := #[227, 280, 287, 287, 287, 287, 280, 137, 147, 207, 187, 157, 177, 287, 287, 287, 287, 287, 287, 287, 287, 287, 287, 287, 287, 287, 167, 254, 217, 267, 197]
theorem own_tsw {c : Int32} (h : ¬ own_dg c = 0 ∨ c = 46) : ¬ (c.toInt < 33 ∨ c.toInt > 63) ∧ own_offs[(c.toInt - 33).toNat]? = some 287 := by
  have hr : c.toInt = 46 ∨ 48 ≤ c.toInt ∧ c.toInt ≤ 57 := by
    rcases h with h | h
    · right
      unfold own_dg at h
      by_cases q : c < (48 : Int32)
      · rw [if_pos q] at h; exact absurd rfl h
      rw [if_neg q] at h
      by_cases q2 : (57 : Int32) < c
      · rw [if_pos q2] at h; exact absurd rfl h
      rw [own_lt32, show (48 : Int32).toInt = 48 from by decide] at q
      rw [own_lt32, show (57 : Int32).toInt = 57 from by decide] at q2
      omega
    · left; rw [h]; decide
  refine ⟨by omega, ?_⟩
  obtain ⟨t, ht⟩ : ∃ t : Nat, t = (c.toInt - 33).toNat := ⟨_, rfl⟩
  rw [← ht]
  have hb : t = 13 ∨ t = 15 ∨ t = 16 ∨ t = 17 ∨ t = 18 ∨ t = 19 ∨ t = 20 ∨ t = 21 ∨ t = 22 ∨ t = 23 ∨ t = 24 := by omega
  rcases hb with rfl | rfl | rfl | rfl | rfl | rfl | rfl | rfl | rfl | rfl | rfl <;> rfl
theorem own_d16_0 : decode prog_59_method_15_code 0 = .ok (.aload_n 0, 1) := by decide +kernel
theorem own_d16_1 : decode prog_59_method_15_code 1 = .ok (.aconst_null, 1) := by decide +kernel
theorem own_d16_2 : decode prog_59_method_15_code 2 = .ok (.putfield 82, 3) := by decide +kernel
theorem own_d16_5 : decode prog_59_method_15_code 5 = .ok (.aload_n 0, 1) := by decide +kernel
theorem own_d16_6 : decode prog_59_method_15_code 6 = .ok (.aconst_null, 1) := by decide +kernel
theorem own_d16_7 : decode prog_59_method_15_code 7 = .ok (.putfield 88, 3) := by decide +kernel
theorem own_d16_10 : decode prog_59_method_15_code 10 = .ok (.iload_n 1, 1) := by decide +kernel
theorem own_d16_11 : decode prog_59_method_15_code 11 = .ok (.istore_n 2, 1) := by decide +kernel
theorem own_d16_12 : decode prog_59_method_15_code 12 = .ok (.iload_n 2, 1) := by decide +kernel
theorem own_d16_13 : decode prog_59_method_15_code 13 = .ok (.aload_n 0, 1) := by decide +kernel
theorem own_d16_14 : decode prog_59_method_15_code 14 = .ok (.getfield 26, 3) := by decide +kernel
theorem own_d16_17 : decode prog_59_method_15_code 17 = .ok (.arraylength, 1) := by decide +kernel
theorem own_d16_18 : decode prog_59_method_15_code 18 = .ok (.if_icmp .ge 50, 3) := by decide +kernel
theorem own_d16_21 : decode prog_59_method_15_code 21 = .ok (.aload_n 0, 1) := by decide +kernel
theorem own_d16_22 : decode prog_59_method_15_code 22 = .ok (.getfield 26, 3) := by decide +kernel
theorem own_d16_25 : decode prog_59_method_15_code 25 = .ok (.iload_n 2, 1) := by decide +kernel
theorem own_d16_26 : decode prog_59_method_15_code 26 = .ok (.caload, 1) := by decide +kernel
theorem own_d16_27 : decode prog_59_method_15_code 27 = .ok (.istore_n 3, 1) := by decide +kernel
theorem own_d16_28 : decode prog_59_method_15_code 28 = .ok (.iload_n 3, 1) := by decide +kernel
theorem own_d16_29 : decode prog_59_method_15_code 29 = .ok (.invokestatic 103, 3) := by decide +kernel
theorem own_d16_32 : decode prog_59_method_15_code 32 = .ok (.ifCond .eq 9, 3) := by decide +kernel
theorem own_d16_35 : decode prog_59_method_15_code 35 = .ok (.iinc 2 1, 3) := by decide +kernel
theorem own_d16_38 : decode prog_59_method_15_code 38 = .ok (.goto 27, 3) := by decide +kernel
theorem own_d16_41 : decode prog_59_method_15_code 41 = .ok (.iload_n 3, 1) := by decide +kernel
theorem own_d16_42 : decode prog_59_method_15_code 42 = .ok (.bipush 40, 2) := by decide +kernel
theorem own_d16_44 : decode prog_59_method_15_code 44 = .ok (.if_icmp .ne 24, 3) := by decide +kernel
theorem own_d16_47 : decode prog_59_method_15_code 47 = .ok (.aload_n 0, 1) := by decide +kernel
theorem own_d16_48 : decode prog_59_method_15_code 48 = .ok (.iload_n 2, 1) := by decide +kernel
theorem own_d16_49 : decode prog_59_method_15_code 49 = .ok (.iconst 1, 1) := by decide +kernel
theorem own_d16_50 : decode prog_59_method_15_code 50 = .ok (.iadd, 1) := by decide +kernel
theorem own_d16_51 : decode prog_59_method_15_code 51 = .ok (.invokevirtual 109, 3) := by decide +kernel
theorem own_d16_54 : decode prog_59_method_15_code 54 = .ok (.bipush 58, 2) := by decide +kernel
theorem own_d16_56 : decode prog_59_method_15_code 56 = .ok (.if_icmp .ne 12, 3) := by decide +kernel
theorem own_d16_59 : decode prog_59_method_15_code 59 = .ok (.aload_n 0, 1) := by decide +kernel
theorem own_d16_60 : decode prog_59_method_15_code 60 = .ok (.iload_n 2, 1) := by decide +kernel
theorem own_d16_61 : decode prog_59_method_15_code 61 = .ok (.invokevirtual 113, 3) := by decide +kernel
theorem own_d16_64 : decode prog_59_method_15_code 64 = .ok (.istore_n 2, 1) := by decide +kernel
theorem own_d16_65 : decode prog_59_method_15_code 65 = .ok (.goto (-53), 3) := by decide +kernel
theorem own_d16_68 : decode prog_59_method_15_code 68 = .ok (.aload_n 0, 1) := by decide +kernel
theorem own_d16_69 : decode prog_59_method_15_code 69 = .ok (.iload_n 2, 1) := by decide +kernel
theorem own_d16_70 : decode prog_59_method_15_code 70 = .ok (.putfield 38, 3) := by decide +kernel
theorem own_d16_73 : decode prog_59_method_15_code 73 = .ok (.iload_n 2, 1) := by decide +kernel
theorem own_d16_74 : decode prog_59_method_15_code 74 = .ok (.aload_n 0, 1) := by decide +kernel
theorem own_d16_75 : decode prog_59_method_15_code 75 = .ok (.getfield 26, 3) := by decide +kernel
theorem own_d16_78 : decode prog_59_method_15_code 78 = .ok (.arraylength, 1) := by decide +kernel
theorem own_d16_79 : decode prog_59_method_15_code 79 = .ok (.if_icmp .ne 16, 3) := by decide +kernel
theorem own_d16_82 : decode prog_59_method_15_code 82 = .ok (.aload_n 0, 1) := by decide +kernel
theorem own_d16_83 : decode prog_59_method_15_code 83 = .ok (.getstatic 116, 3) := by decide +kernel
theorem own_d16_86 : decode prog_59_method_15_code 86 = .ok (.putfield 34, 3) := by decide +kernel
theorem own_d16_89 : decode prog_59_method_15_code 89 = .ok (.aload_n 0, 1) := by decide +kernel
theorem own_d16_90 : decode prog_59_method_15_code 90 = .ok (.iload_n 2, 1) := by decide +kernel
theorem own_d16_91 : decode prog_59_method_15_code 91 = .ok (.putfield 41, 3) := by decide +kernel
theorem own_d16_94 : decode prog_59_method_15_code 94 = .ok (.return_, 1) := by decide +kernel
theorem own_d16_95 : decode prog_59_method_15_code 95 = .ok (.aload_n 0, 1) := by decide +kernel
theorem own_d16_96 : decode prog_59_method_15_code 96 = .ok (.getfield 26, 3) := by decide +kernel
theorem own_d16_99 : decode prog_59_method_15_code 99 = .ok (.iload_n 2, 1) := by decide +kernel
theorem own_d16_100 : decode prog_59_method_15_code 100 = .ok (.caload, 1) := by decide +kernel
theorem own_d16_101 : decode prog_59_method_15_code 101 = .ok (.istore_n 3, 1) := by decide +kernel
theorem own_d16_102 : decode prog_59_method_15_code 102 = .ok (.iload_n 3, 1) := by decide +kernel
theorem own_d16_103 : decode prog_59_method_15_code 103 = .ok (.tableswitch 287 33 63 #[227, 280, 287, 287, 287, 287, 280, 137, 147, 207, 187, 157, 177, 287, 287, 287, 287, 287, 287, 287, 287, 287, 287, 287, 287, 287, 167, 254, 217, 267, 197], 137) := by decide +kernel
theorem own_d16_240 : decode prog_59_method_15_code 240 = .ok (.aload_n 0, 1) := by decide +kernel
theorem own_d16_241 : decode prog_59_method_15_code 241 = .ok (.getstatic 119, 3) := by decide +kernel
theorem own_d16_244 : decode prog_59_method_15_code 244 = .ok (.invokevirtual 122, 3) := by decide +kernel
theorem own_d16_247 : decode prog_59_method_15_code 247 = .ok (.goto 196, 3) := by decide +kernel
theorem own_d16_250 : decode prog_59_method_15_code 250 = .ok (.aload_n 0, 1) := by decide +kernel
theorem own_d16_251 : decode prog_59_method_15_code 251 = .ok (.getstatic 126, 3) := by decide +kernel
theorem own_d16_254 : decode prog_59_method_15_code 254 = .ok (.invokevirtual 122, 3) := by decide +kernel
theorem own_d16_257 : decode prog_59_method_15_code 257 = .ok (.goto 186, 3) := by decide +kernel
theorem own_d16_260 : decode prog_59_method_15_code 260 = .ok (.aload_n 0, 1) := by decide +kernel
theorem own_d16_261 : decode prog_59_method_15_code 261 = .ok (.getstatic 129, 3) := by decide +kernel
theorem own_d16_264 : decode prog_59_method_15_code 264 = .ok (.invokevirtual 122, 3) := by decide +kernel
theorem own_d16_267 : decode prog_59_method_15_code 267 = .ok (.goto 176, 3) := by decide +kernel
theorem own_d16_270 : decode prog_59_method_15_code 270 = .ok (.aload_n 0, 1) := by decide +kernel
theorem own_d16_271 : decode prog_59_method_15_code 271 = .ok (.getstatic 132, 3) := by decide +kernel
theorem own_d16_274 : decode prog_59_method_15_code 274 = .ok (.invokevirtual 122, 3) := by decide +kernel
theorem own_d16_277 : decode prog_59_method_15_code 277 = .ok (.goto 166, 3) := by decide +kernel
theorem own_d16_280 : decode prog_59_method_15_code 280 = .ok (.aload_n 0, 1) := by decide +kernel
theorem own_d16_281 : decode prog_59_method_15_code 281 = .ok (.getstatic 135, 3) := by decide +kernel
theorem own_d16_284 : decode prog_59_method_15_code 284 = .ok (.invokevirtual 122, 3) := by decide +kernel
theorem own_d16_287 : decode prog_59_method_15_code 287 = .ok (.goto 156, 3) := by decide +kernel
theorem own_d16_290 : decode prog_59_method_15_code 290 = .ok (.aload_n 0, 1) := by decide +kernel
theorem own_d16_291 : decode prog_59_method_15_code 291 = .ok (.getstatic 138, 3) := by decide +kernel
theorem own_d16_294 : decode prog_59_method_15_code 294 = .ok (.invokevirtual 122, 3) := by decide +kernel
theorem own_d16_297 : decode prog_59_method_15_code 297 = .ok (.goto 146, 3) := by decide +kernel
theorem own_d16_300 : decode prog_59_method_15_code 300 = .ok (.aload_n 0, 1) := by decide +kernel
theorem own_d16_301 : decode prog_59_method_15_code 301 = .ok (.getstatic 141, 3) := by decide +kernel
theorem own_d16_304 : decode prog_59_method_15_code 304 = .ok (.invokevirtual 122, 3) := by decide +kernel
theorem own_d16_307 : decode prog_59_method_15_code 307 = .ok (.goto 136, 3) := by decide +kernel
theorem own_d16_310 : decode prog_59_method_15_code 310 = .ok (.aload_n 0, 1) := by decide +kernel
theorem own_d16_311 : decode prog_59_method_15_code 311 = .ok (.getstatic 144, 3) := by decide +kernel
theorem own_d16_314 : decode prog_59_method_15_code 314 = .ok (.invokevirtual 122, 3) := by decide +kernel
theorem own_d16_317 : decode prog_59_method_15_code 317 = .ok (.goto 126, 3) := by decide +kernel
theorem own_d16_320 : decode prog_59_method_15_code 320 = .ok (.aload_n 0, 1) := by decide +kernel
theorem own_d16_321 : decode prog_59_method_15_code 321 = .ok (.getstatic 147, 3) := by decide +kernel
theorem own_d16_324 : decode prog_59_method_15_code 324 = .ok (.invokevirtual 122, 3) := by decide +kernel
theorem own_d16_327 : decode prog_59_method_15_code 327 = .ok (.goto 116, 3) := by decide +kernel
theorem own_d16_330 : decode prog_59_method_15_code 330 = .ok (.aload_n 0, 1) := by decide +kernel
theorem own_d16_331 : decode prog_59_method_15_code 331 = .ok (.iload_n 2, 1) := by decide +kernel
theorem own_d16_332 : decode prog_59_method_15_code 332 = .ok (.iconst 1, 1) := by decide +kernel
theorem own_d16_333 : decode prog_59_method_15_code 333 = .ok (.iadd, 1) := by decide +kernel
theorem own_d16_334 : decode prog_59_method_15_code 334 = .ok (.invokevirtual 109, 3) := by decide +kernel
theorem own_d16_337 : decode prog_59_method_15_code 337 = .ok (.bipush 61, 2) := by decide +kernel
theorem own_d16_339 : decode prog_59_method_15_code 339 = .ok (.if_icmp .eq 8, 3) := by decide +kernel
theorem own_d16_342 : decode prog_59_method_15_code 342 = .ok (.aload_n 0, 1) := by decide +kernel
theorem own_d16_343 : decode prog_59_method_15_code 343 = .ok (.invokevirtual 150, 3) := by decide +kernel
theorem own_d16_346 : decode prog_59_method_15_code 346 = .ok (.athrow, 1) := by decide +kernel
theorem own_d16_347 : decode prog_59_method_15_code 347 = .ok (.aload_n 0, 1) := by decide +kernel
theorem own_d16_348 : decode prog_59_method_15_code 348 = .ok (.getstatic 154, 3) := by decide +kernel
theorem own_d16_351 : decode prog_59_method_15_code 351 = .ok (.invokevirtual 157, 3) := by decide +kernel
theorem own_d16_354 : decode prog_59_method_15_code 354 = .ok (.goto 89, 3) := by decide +kernel
theorem own_d16_357 : decode prog_59_method_15_code 357 = .ok (.aload_n 0, 1) := by decide +kernel
theorem own_d16_358 : decode prog_59_method_15_code 358 = .ok (.getstatic 160, 3) := by decide +kernel
theorem own_d16_361 : decode prog_59_method_15_code 361 = .ok (.getstatic 163, 3) := by decide +kernel
theorem own_d16_364 : decode prog_59_method_15_code 364 = .ok (.invokevirtual 166, 3) := by decide +kernel
theorem own_d16_367 : decode prog_59_method_15_code 367 = .ok (.goto 76, 3) := by decide +kernel
theorem own_d16_370 : decode prog_59_method_15_code 370 = .ok (.aload_n 0, 1) := by decide +kernel
theorem own_d16_371 : decode prog_59_method_15_code 371 = .ok (.getstatic 170, 3) := by decide +kernel
theorem own_d16_374 : decode prog_59_method_15_code 374 = .ok (.getstatic 173, 3) := by decide +kernel
theorem own_d16_377 : decode prog_59_method_15_code 377 = .ok (.invokevirtual 166, 3) := by decide +kernel
theorem own_d16_380 : decode prog_59_method_15_code 380 = .ok (.goto 63, 3) := by decide +kernel
theorem own_d16_383 : decode prog_59_method_15_code 383 = .ok (.aload_n 0, 1) := by decide +kernel
theorem own_d16_384 : decode prog_59_method_15_code 384 = .ok (.invokevirtual 176, 3) := by decide +kernel
theorem own_d16_387 : decode prog_59_method_15_code 387 = .ok (.goto 56, 3) := by decide +kernel
theorem own_d16_390 : decode prog_59_method_15_code 390 = .ok (.iload_n 3, 1) := by decide +kernel
theorem own_d16_391 : decode prog_59_method_15_code 391 = .ok (.invokestatic 179, 3) := by decide +kernel
theorem own_d16_394 : decode prog_59_method_15_code 394 = .ok (.ifCond .ne 22, 3) := by decide +kernel
theorem own_d16_397 : decode prog_59_method_15_code 397 = .ok (.iload_n 3, 1) := by decide +kernel
theorem own_d16_398 : decode prog_59_method_15_code 398 = .ok (.bipush 46, 2) := by decide +kernel
theorem own_d16_400 : decode prog_59_method_15_code 400 = .ok (.if_icmp .ne 23, 3) := by decide +kernel
theorem own_d16_403 : decode prog_59_method_15_code 403 = .ok (.aload_n 0, 1) := by decide +kernel
theorem own_d16_404 : decode prog_59_method_15_code 404 = .ok (.iload_n 2, 1) := by decide +kernel
theorem own_d16_405 : decode prog_59_method_15_code 405 = .ok (.iconst 1, 1) := by decide +kernel
theorem own_d16_406 : decode prog_59_method_15_code 406 = .ok (.iadd, 1) := by decide +kernel
theorem own_d16_407 : decode prog_59_method_15_code 407 = .ok (.invokevirtual 109, 3) := by decide +kernel
theorem own_d16_410 : decode prog_59_method_15_code 410 = .ok (.invokestatic 179, 3) := by decide +kernel
theorem own_d16_413 : decode prog_59_method_15_code 413 = .ok (.ifCond .eq 10, 3) := by decide +kernel
theorem own_d16_416 : decode prog_59_method_15_code 416 = .ok (.aload_n 0, 1) := by decide +kernel
theorem own_d16_417 : decode prog_59_method_15_code 417 = .ok (.invokevirtual 182, 3) := by decide +kernel
theorem own_d16_420 : decode prog_59_method_15_code 420 = .ok (.goto 23, 3) := by decide +kernel
theorem own_d16_423 : decode prog_59_method_15_code 423 = .ok (.aload_n 0, 1) := by decide +kernel
theorem own_d16_424 : decode prog_59_method_15_code 424 = .ok (.iload_n 2, 1) := by decide +kernel
theorem own_d16_425 : decode prog_59_method_15_code 425 = .ok (.invokevirtual 185, 3) := by decide +kernel
theorem own_d16_428 : decode prog_59_method_15_code 428 = .ok (.ifCond .eq 10, 3) := by decide +kernel
theorem own_d16_431 : decode prog_59_method_15_code 431 = .ok (.aload_n 0, 1) := by decide +kernel
theorem own_d16_432 : decode prog_59_method_15_code 432 = .ok (.invokevirtual 189, 3) := by decide +kernel
theorem own_d16_435 : decode prog_59_method_15_code 435 = .ok (.goto 8, 3) := by decide +kernel
theorem own_d16_438 : decode prog_59_method_15_code 438 = .ok (.aload_n 0, 1) := by decide +kernel
theorem own_d16_439 : decode prog_59_method_15_code 439 = .ok (.invokevirtual 150, 3) := by decide +kernel
theorem own_d16_442 : decode prog_59_method_15_code 442 = .ok (.athrow, 1) := by decide +kernel
theorem own_d16_443 : decode prog_59_method_15_code 443 = .ok (.return_, 1) := by decide +kernel
theorem own_scan_ef (m : MethodId) (a1 : Addr) : entryFrame m #[(.ref a1), (.int (0 : Int32))] 4 = mkF m 0 #[rv a1, own_i 0, .unset, .unset] [] := by first | (simp [entryFrame, mkF, argsToLocals, Value.category]; done) | rfl
set_option maxRecDepth 65536 in
set_option maxHeartbeats 40000000 in
theorem own_scan (l : Launch) (Z : State) (a0 : Array Value) (hw : ∀ d ∈ tables_1, d.before a0 Z = true) (ws : List Jvm.Cond) (wI : Addr) (wT : Addr) (cT : Cell) (a1 : Addr) (a2 : Addr) (k2 : ClassId) (xs : List Int32) (st : Int32) (en : Int32) (h0 : Heap) (n0 : Nat) (Z0 : n0 ≤ h0.size) (SI : Sta Z Z.heap "com/example/libxqtype/libxqtype/ExpressionLexer$Kind" "INTEGER_LITERAL" "Lcom/example/libxqtype/libxqtype/ExpressionLexer$Kind;" (.ref wI)) (O0 : Old Z n0 h0) (ST : Sta Z Z.heap "com/example/libxqtype/libxqtype/XmlCharacters" "ASCII_NAME_CHARACTERS" "[B" (.ref wT)) (AT : Arr Z Z.heap wT cT .byte) (hT : cT.slots.size = 128) (E1 : Exa Z h0 a1 "com/example/libxqtype/libxqtype/ExpressionLexer") (Fc : Fld Z h0 a1 "com/example/libxqtype/libxqtype/ExpressionLexer" "chars" "[C" (.ref a2)) (V2 : Arv Z h0 a2 k2 .char (20 : Int32) (xs.map Value.int) (.int (0 : Int32))) (Fk : Fld Z h0 a1 "com/example/libxqtype/libxqtype/ExpressionLexer" "kind" "Lcom/example/libxqtype/libxqtype/ExpressionLexer$Kind;" .null) (Fs : Fld Z h0 a1 "com/example/libxqtype/libxqtype/ExpressionLexer" "start" "I" (.int (0 : Int32))) (Fe : Fld Z h0 a1 "com/example/libxqtype/libxqtype/ExpressionLexer" "end" "I" (.int (0 : Int32))) (Fg : Fld Z h0 a1 "com/example/libxqtype/libxqtype/ExpressionLexer" "spelling" "Ljava/lang/String;" .null) (Fy : Fld Z h0 a1 "com/example/libxqtype/libxqtype/ExpressionLexer" "keyword" "Lcom/example/libxqtype/libxqtype/ExpressionLexer$Keyword;" .null) (g_a1 : n0 ≤ a1) (ne12 : a1 ≠ a2) (hs : st = (0 : Int32) ∨ st = (1 : Int32) ∧ ¬ own_ws (own_at xs (0 : Int32)) = (0 : Int32) ∨ st = (2 : Int32) ∧ ¬ own_ws (own_at xs (0 : Int32)) = (0 : Int32) ∧ ¬ own_ws (own_at xs (1 : Int32)) = (0 : Int32)) (hn : own_ws (own_at xs st) = (0 : Int32)) (h40 : ¬ own_at xs st = (40 : Int32)) (hf : ¬ own_dg (own_at xs st) = (0 : Int32)) (hk : ∀ t : Int32, ¬ t < 0 → t < (20 : Int32) → ¬ own_at xs t < 0 ∧ ¬ (255 : Int32) < own_at xs t) (d1 : own_dig xs st en) (c1 : ¬ own_ca xs en = (46 : Int32)) (c2 : ¬ own_ca xs en = (101 : Int32)) (c3 : ¬ own_ca xs en = (69 : Int32)) (c4 : en < (20 : Int32) → own_at xs en < (128 : Int32) ∧ ∃ b, cT.slots[(own_at xs en).toNatClampNeg]? = some (.int b) ∧ ¬ b = (2 : Int32)) :
    own_Met l Z (⟨"com/example/libxqtype/libxqtype/ExpressionLexer", "scan", "(I)V"⟩ : MethodName) prog_59_method_15_code 4 none ws ({ frames := 3, cells := 0, slots := 0, locals := 64 } : Room) #[(.ref a1), (.int (0 : Int32))] h0 (fun v h L => v = none ∧ Fr n0 L ∧ Keep h0 h [a1] ∧ Fld Z h a1 "com/example/libxqtype/libxqtype/ExpressionLexer" "chars" "[C" (.ref a2) ∧ Fld Z h a1 "com/example/libxqtype/libxqtype/ExpressionLexer" "start" "I" (.int st) ∧ Fld Z h a1 "com/example/libxqtype/libxqtype/ExpressionLexer" "end" "I" (.int en)) := by
  refine own_enter (plainFor_of_name own_pn4) ?_
  intro p e s m below meth c s₁ X0 hx hZ hby hml hown hnm hret hlk e0
  have N0 := Fr.nil n0
  rw [own_scan_ef m a1]
  have KK0 : Keep h0 h0 [a1] := Keep.refl _ _
  show own_Fin _ _ _ _ _ _ (s₁.setTop (mkF m 0 #[rv a1, own_i 0, .unset, .unset] []))
  rcases hs with rfl | ⟨rfl, hw0⟩ | ⟨rfl, hw0, hw1⟩
  ·
    have htw := own_tsw (c := (own_at xs (0 : Int32))) (Or.inl hf)
    show own_Fin _ _ _ _ _ _ (s₁.setTop (mkF m 0 #[rv a1, own_i 0, .unset, .unset] []))
    refine own_to (fun t k => XS.aloadN X0.here hx rfl (hb hby own_d16_0) rfl rfl k) ?_
    refine own_to (fun t k => XS.aconstNull X0.here hx rfl (hb hby own_d16_1) k) ?_
    show own_Fin _ _ _ _ _ _ (s₁.setTop (mkF m 2 #[rv a1, own_i 0, .unset, .unset] [.null, (.ref a1)]))
    obtain ⟨T240, h240, X240, e240, W240, st240⟩ := putF X0 hx hZ hown (host := "") (Or.inl (own_W hw 100 rfl)) Via.refl e0 Fg E1 (Or.inl (own_W hw 101 rfl)) (own_W hw 37 rfl) (ty := (.object "java/lang/String")) (by decide) rfl rfl (g := (mkF m 2 #[rv a1, own_i 0, .unset, .unset] [.null, (.ref a1)])) rfl rfl (hb hby own_d16_2)
    have Fw240 := Fg.same W240
    have N240 := Fr.snoc X240 N0 g_a1
    have O240 := O0.wr W240 g_a1
    have KK240 : Keep h0 h240 [a1] := KK0.wr W240 (Or.inl (List.mem_of_getElem? (i := 0) rfl))
    have E1_e240 := E1.wr W240
    have Fc_e240 := Fc.other W240 (Or.inr (slot_ne (Or.inr (own_W hw 95 rfl)) (Or.inl (own_W hw 101 rfl)) (by decide) (t := (.array .char)) (t' := (.object "java/lang/String")) (by decide) (by decide)))
    have V2_e240 := V2.other W240 (Ne.symm ne12)
    have Fk_e240 := Fk.other W240 (Or.inr (slot_ne (Or.inl (own_W hw 125 rfl)) (Or.inl (own_W hw 101 rfl)) (by decide) (t := (.object "com/example/libxqtype/libxqtype/ExpressionLexer$Kind")) (t' := (.object "java/lang/String")) (by decide) (by decide)))
    have Fs_e240 := Fs.other W240 (Or.inr (slot_ne (Or.inl (own_W hw 109 rfl)) (Or.inl (own_W hw 101 rfl)) (by decide) (t := .int) (t' := (.object "java/lang/String")) (by decide) (by decide)))
    have Fe_e240 := Fe.other W240 (Or.inr (slot_ne (Or.inl (own_W hw 131 rfl)) (Or.inl (own_W hw 101 rfl)) (by decide) (t := .int) (t' := (.object "java/lang/String")) (by decide) (by decide)))
    have Fy_e240 := Fy.other W240 (Or.inr (slot_ne (Or.inl (own_W hw 103 rfl)) (Or.inl (own_W hw 101 rfl)) (by decide) (t := (.object "com/example/libxqtype/libxqtype/ExpressionLexer$Keyword")) (t' := (.object "java/lang/String")) (by decide) (by decide)))
    refine own_to (fun t k => st240 t k) ?_
    show own_Fin _ _ _ _ _ _ (T240.setTop (mkF m 5 #[rv a1, own_i 0, .unset, .unset] []))
    refine own_to (fun t k => XS.aloadN X240.here hx rfl (hb hby own_d16_5) rfl rfl k) ?_
    refine own_to (fun t k => XS.aconstNull X240.here hx rfl (hb hby own_d16_6) k) ?_
    show own_Fin _ _ _ _ _ _ (T240.setTop (mkF m 7 #[rv a1, own_i 0, .unset, .unset] [.null, (.ref a1)]))
    obtain ⟨T241, h241, X241, e241, W241, st241⟩ := putF X240 hx hZ hown (host := "") (Or.inl (own_W hw 102 rfl)) Via.refl e240 Fy_e240 E1_e240 (Or.inl (own_W hw 103 rfl)) (own_W hw 37 rfl) (ty := (.object "com/example/libxqtype/libxqtype/ExpressionLexer$Keyword")) (by decide) rfl rfl (g := (mkF m 7 #[rv a1, own_i 0, .unset, .unset] [.null, (.ref a1)])) rfl rfl (hb hby own_d16_7)
    have Fw241 := Fy_e240.same W241
    have N241 := Fr.snoc X241 N240 g_a1
    have O241 := O240.wr W241 g_a1
    have KK241 : Keep h0 h241 [a1] := KK240.wr W241 (Or.inl (List.mem_of_getElem? (i := 0) rfl))
    have E1_e241 := E1_e240.wr W241
    have Fc_e241 := Fc_e240.other W241 (Or.inr (slot_ne (Or.inr (own_W hw 95 rfl)) (Or.inl (own_W hw 103 rfl)) (by decide) (t := (.array .char)) (t' := (.object "com/example/libxqtype/libxqtype/ExpressionLexer$Keyword")) (by decide) (by decide)))
    have V2_e241 := V2_e240.other W241 (Ne.symm ne12)
    have Fk_e241 := Fk_e240.other W241 (Or.inr (slot_ne (Or.inl (own_W hw 125 rfl)) (Or.inl (own_W hw 103 rfl)) (by decide) (t := (.object "com/example/libxqtype/libxqtype/ExpressionLexer$Kind")) (t' := (.object "com/example/libxqtype/libxqtype/ExpressionLexer$Keyword")) (by decide) (by decide)))
    have Fs_e241 := Fs_e240.other W241 (Or.inr (slot_ne (Or.inl (own_W hw 109 rfl)) (Or.inl (own_W hw 103 rfl)) (by decide) (t := .int) (t' := (.object "com/example/libxqtype/libxqtype/ExpressionLexer$Keyword")) (by decide) (by decide)))
    have Fe_e241 := Fe_e240.other W241 (Or.inr (slot_ne (Or.inl (own_W hw 131 rfl)) (Or.inl (own_W hw 103 rfl)) (by decide) (t := .int) (t' := (.object "com/example/libxqtype/libxqtype/ExpressionLexer$Keyword")) (by decide) (by decide)))
    have Fw240_e241 := Fw240.other W241 (Or.inr (slot_ne (Or.inl (own_W hw 101 rfl)) (Or.inl (own_W hw 103 rfl)) (by decide) (t := (.object "java/lang/String")) (t' := (.object "com/example/libxqtype/libxqtype/ExpressionLexer$Keyword")) (by decide) (by decide)))
    refine own_to (fun t k => st241 t k) ?_
    show own_Fin _ _ _ _ _ _ (T241.setTop (mkF m 10 #[rv a1, own_i 0, .unset, .unset] []))
    refine own_to (fun t k => XS.iloadN X241.here hx rfl (hb hby own_d16_10) rfl k) ?_
    refine own_to (fun t k => XS.istoreN X241.here hx rfl (hb hby own_d16_11) rfl (l' := #[rv a1, own_i 0, own_i 0, .unset]) rfl k) ?_
    show own_Fin _ _ _ _ _ _ (T241.setTop (mkF m 12 #[rv a1, own_i 0, own_i 0, .unset] []))
    refine own_to (fun t k => XS.iloadN X241.here hx rfl (hb hby own_d16_12) rfl k) ?_
    refine own_to (fun t k => XS.aloadN X241.here hx rfl (hb hby own_d16_13) rfl rfl k) ?_
    obtain ⟨T242, X242, e242, st242⟩ := getF X241 hx hZ hown (host := "") (Or.inl (own_W hw 94 rfl)) Via.refl e241 Fc_e241 (g := (mkF m 14 #[rv a1, own_i 0, own_i 0, .unset] [(.ref a1), (.int (0 : Int32))])) rfl rfl (hb hby own_d16_14)
    refine own_to (fun t k => st242 t k) ?_
    show own_Fin _ _ _ _ _ _ (T242.setTop (mkF m 17 #[rv a1, own_i 0, own_i 0, .unset] [(.ref a2), (.int (0 : Int32))]))
    obtain ⟨cl243, Ar243, qa243, Sa243, Na243, Ha243, Ga243⟩ := id V2_e241
    refine own_to (fun t k => X242.arraylength hx (by rw [e242]; exact Ar243.1) (State.isArrayOf_alike hZ.alike Ar243.2.1) (g := (mkF m 17 #[rv a1, own_i 0, own_i 0, .unset] [(.ref a2), (.int (0 : Int32))])) rfl rfl (hb hby own_d16_17) _ k) ?_
    rw [len_of Sa243 Na243]
    show own_Fin _ _ _ _ _ _ (T242.setTop (mkF m 18 #[rv a1, own_i 0, own_i 0, .unset] [(.int (20 : Int32)), (.int (0 : Int32))]))
    refine own_to (fun t k => XS.icmpNo X242.here hx rfl (hb hby own_d16_18) rfl (tlt (by decide)).2.1 k) ?_
    show own_Fin _ _ _ _ _ _ (T242.setTop (mkF m 21 #[rv a1, own_i 0, own_i 0, .unset] []))
    refine own_to (fun t k => XS.aloadN X242.here hx rfl (hb hby own_d16_21) rfl rfl k) ?_
    show own_Fin _ _ _ _ _ _ (T242.setTop (mkF m 22 #[rv a1, own_i 0, own_i 0, .unset] [(.ref a1)]))
    obtain ⟨T244, X244, e244, st244⟩ := getF X242 hx hZ hown (host := "") (Or.inl (own_W hw 94 rfl)) Via.refl e242 Fc_e241 (g := (mkF m 22 #[rv a1, own_i 0, own_i 0, .unset] [(.ref a1)])) rfl rfl (hb hby own_d16_22)
    refine own_to (fun t k => st244 t k) ?_
    show own_Fin _ _ _ _ _ _ (T244.setTop (mkF m 25 #[rv a1, own_i 0, own_i 0, .unset] [(.ref a2)]))
    refine own_to (fun t k => XS.iloadN X244.here hx rfl (hb hby own_d16_25) rfl k) ?_
    obtain ⟨cl245, Ar245, qa245, Sa245, Na245, Ha245, Ga245⟩ := id V2_e241
    have hin246 : ¬ ((0 : Int32) < 0 ∨ cl245.slots.size ≤ ((0 : Int32)).toNatClampNeg) := inb_of Sa245 ⟨(by decide), (by decide)⟩
    refine own_to (fun t k => X244.caload hx (j := (0 : Int32)) (v := (.int (own_at xs (0 : Int32)))) (by rw [e244]; exact Ar245.1) (State.isArrayOf_alike hZ.alike Ar245.2.1) Ar245.2.2 hin246 (Has.at Ha245 hin246 (own_getm xs _)) (g := (mkF m 26 #[rv a1, own_i 0, own_i 0, .unset] [(.int (0 : Int32)), (.ref a2)])) rfl rfl (hb hby own_d16_26) _ k) ?_
    show own_Fin _ _ _ _ _ _ (T244.setTop (mkF m 27 #[rv a1, own_i 0, own_i 0, .unset] [(.int (own_at xs (0 : Int32)))]))
    refine own_to (fun t k => XS.istoreN X244.here hx rfl (hb hby own_d16_27) rfl (l' := #[rv a1, own_i 0, own_i 0, .val (.int (own_at xs (0 : Int32)))]) rfl k) ?_
    show own_Fin _ _ _ _ _ _ (T244.setTop (mkF m 28 #[rv a1, own_i 0, own_i 0, .val (.int (own_at xs (0 : Int32)))] []))
    refine own_to (fun t k => XS.iloadN X244.here hx rfl (hb hby own_d16_28) rfl k) ?_
    obtain ⟨_, _, ⟨T247, L247, k247, n247⟩, -, X247, ⟨Lc247, hQ247, l247, y247, z247⟩, st247⟩ := Jvm.LawKit.callS X244 hx (y := (⟨"com/example/libxqtype/libxqtype/XmlCharacters", "isWhitespace", "(C)Z"⟩ : MethodName)) hown (mvT hZ (own_W hw 104 rfl)) (mvT hZ (own_W hw 105 rfl)) (mvT hZ (own_W hw 106 rfl)) (mvT hZ (own_W hw 107 rfl)) (by decide) (own_back (W := 0) (own_wsr l Z a0 hw [] (own_at xs (0 : Int32)) h241 n0 (Nat.le_trans (Nat.le_trans Z0 (Keep.of_wr W240).1) (Keep.of_wr W241).1)) hZ (own_W hw 107 rfl) (own_W hw 106 rfl) (by decide) (by decide)) (g := (mkF m 29 #[rv a1, own_i 0, own_i 0, .val (.int (own_at xs (0 : Int32)))] [(.int (own_at xs (0 : Int32)))])) rfl (by rw [hml]; rfl) (argsL := [(.int (own_at xs (0 : Int32)))]) (rest := []) (lenOf own_pd11 rfl) rfl (by show 2 * 0 + _ ≤ _; exact Nat.le_of_eq rfl) (hb hby own_d16_29) (fun _ _ => ⟨rfl, e244, (by decide : 0 + 0 ≤ _), (by decide : 0 + 0 ≤ _)⟩)
    dsimp only [Pt.U, Pt.locs, Pt.cells, Pt.slots] at X247 l247 y247 z247 st247 hQ247
    rw [l247, y247, z247] at X247
    obtain ⟨rfl, N247q, eh247⟩ := hQ247
    have N247 := Fr.app N241 N247q
    refine own_to (fun t k => st247 t k) ?_
    show own_Fin _ _ _ _ _ _ (T247.setTop (mkF m 32 #[rv a1, own_i 0, own_i 0, .val (.int (own_at xs (0 : Int32)))] [(.int (own_ws (own_at xs (0 : Int32))))]))
    refine own_to (fun t k => XS.ifYes X247.here hx rfl (pc0 := 32) (pc' := 41) rfl (hb hby own_d16_32) rfl ((if0 _ _).trans (teq hn).1) (by decide) (by decide) k) ?_
    show own_Fin _ _ _ _ _ _ (T247.setTop (mkF m 41 #[rv a1, own_i 0, own_i 0, .val (.int (own_at xs (0 : Int32)))] []))
    refine own_to (fun t k => XS.iloadN X247.here hx rfl (hb hby own_d16_41) rfl k) ?_
    refine own_to (fun t k => XS.bipush X247.here hx rfl (hb hby own_d16_42) k) ?_
    show own_Fin _ _ _ _ _ _ (T247.setTop (mkF m 44 #[rv a1, own_i 0, own_i 0, .val (.int (own_at xs (0 : Int32)))] [(.int (40 : Int32)), (.int (own_at xs (0 : Int32)))]))
    refine own_to (fun t k => XS.icmpYes X247.here hx rfl (pc0 := 44) (pc' := 68) rfl (hb hby own_d16_44) rfl (feq h40).2 (by decide) (by decide) k) ?_
    show own_Fin _ _ _ _ _ _ (T247.setTop (mkF m 68 #[rv a1, own_i 0, own_i 0, .val (.int (own_at xs (0 : Int32)))] []))
    refine own_to (fun t k => XS.aloadN X247.here hx rfl (hb hby own_d16_68) rfl rfl k) ?_
    refine own_to (fun t k => XS.iloadN X247.here hx rfl (hb hby own_d16_69) rfl k) ?_
    obtain ⟨T248, h248, X248, e248, W248, st248⟩ := putF X247 hx hZ hown (host := "") (Or.inl (own_W hw 108 rfl)) Via.refl eh247 Fs_e241 E1_e241 (Or.inl (own_W hw 109 rfl)) (own_W hw 37 rfl) (ty := .int) (by decide) rfl rfl (g := (mkF m 70 #[rv a1, own_i 0, own_i 0, .val (.int (own_at xs (0 : Int32)))] [(.int (0 : Int32)), (.ref a1)])) rfl rfl (hb hby own_d16_70)
    have Fw248 := Fs_e241.same W248
    have N248 := Fr.snoc X248 N247 g_a1
    have O248 := O241.wr W248 g_a1
    have KK248 : Keep h0 h248 [a1] := KK241.wr W248 (Or.inl (List.mem_of_getElem? (i := 0) rfl))
    have E1_e248 := E1_e241.wr W248
    have Fc_e248 := Fc_e241.other W248 (Or.inr (slot_ne (Or.inr (own_W hw 95 rfl)) (Or.inl (own_W hw 109 rfl)) (by decide) (t := (.array .char)) (t' := .int) (by decide) (by decide)))
    have V2_e248 := V2_e241.other W248 (Ne.symm ne12)
    have Fk_e248 := Fk_e241.other W248 (Or.inr (slot_ne (Or.inl (own_W hw 125 rfl)) (Or.inl (own_W hw 109 rfl)) (by decide) (t := (.object "com/example/libxqtype/libxqtype/ExpressionLexer$Kind")) (t' := .int) (by decide) (by decide)))
    have Fe_e248 := Fe_e241.other W248 (Or.inr (slot_ne (Or.inl (own_W hw 131 rfl)) (Or.inl (own_W hw 109 rfl)) (by decide) (t := .int) (t' := .int) (by decide) (by decide)))
    have Fw240_e248 := Fw240_e241.other W248 (Or.inr (slot_ne (Or.inl (own_W hw 101 rfl)) (Or.inl (own_W hw 109 rfl)) (by decide) (t := (.object "java/lang/String")) (t' := .int) (by decide) (by decide)))
    have Fw241_e248 := Fw241.other W248 (Or.inr (slot_ne (Or.inl (own_W hw 103 rfl)) (Or.inl (own_W hw 109 rfl)) (by decide) (t := (.object "com/example/libxqtype/libxqtype/ExpressionLexer$Keyword")) (t' := .int) (by decide) (by decide)))
    refine own_to (fun t k => st248 t k) ?_
    show own_Fin _ _ _ _ _ _ (T248.setTop (mkF m 73 #[rv a1, own_i 0, own_i 0, .val (.int (own_at xs (0 : Int32)))] []))
    refine own_to (fun t k => XS.iloadN X248.here hx rfl (hb hby own_d16_73) rfl k) ?_
    show own_Fin _ _ _ _ _ _ (T248.setTop (mkF m 74 #[rv a1, own_i 0, own_i 0, .val (.int (own_at xs (0 : Int32)))] [(.int (0 : Int32))]))
    refine own_to (fun t k => XS.aloadN X248.here hx rfl (hb hby own_d16_74) rfl rfl k) ?_
    obtain ⟨T249, X249, e249, st249⟩ := getF X248 hx hZ hown (host := "") (Or.inl (own_W hw 94 rfl)) Via.refl e248 Fc_e248 (g := (mkF m 75 #[rv a1, own_i 0, own_i 0, .val (.int (own_at xs (0 : Int32)))] [(.ref a1), (.int (0 : Int32))])) rfl rfl (hb hby own_d16_75)
    refine own_to (fun t k => st249 t k) ?_
    show own_Fin _ _ _ _ _ _ (T249.setTop (mkF m 78 #[rv a1, own_i 0, own_i 0, .val (.int (own_at xs (0 : Int32)))] [(.ref a2), (.int (0 : Int32))]))
    obtain ⟨cl250, Ar250, qa250, Sa250, Na250, Ha250, Ga250⟩ := id V2_e248
    refine own_to (fun t k => X249.arraylength hx (by rw [e249]; exact Ar250.1) (State.isArrayOf_alike hZ.alike Ar250.2.1) (g := (mkF m 78 #[rv a1, own_i 0, own_i 0, .val (.int (own_at xs (0 : Int32)))] [(.ref a2), (.int (0 : Int32))])) rfl rfl (hb hby own_d16_78) _ k) ?_
    rw [len_of Sa250 Na250]
    show own_Fin _ _ _ _ _ _ (T249.setTop (mkF m 79 #[rv a1, own_i 0, own_i 0, .val (.int (own_at xs (0 : Int32)))] [(.int (20 : Int32)), (.int (0 : Int32))]))
    refine own_to (fun t k => XS.icmpYes X249.here hx rfl (pc0 := 79) (pc' := 95) rfl (hb hby own_d16_79) rfl (feq (by decide)).2 (by decide) (by decide) k) ?_
    show own_Fin _ _ _ _ _ _ (T249.setTop (mkF m 95 #[rv a1, own_i 0, own_i 0, .val (.int (own_at xs (0 : Int32)))] []))
    refine own_to (fun t k => XS.aloadN X249.here hx rfl (hb hby own_d16_95) rfl rfl k) ?_
    obtain ⟨T251, X251, e251, st251⟩ := getF X249 hx hZ hown (host := "") (Or.inl (own_W hw 94 rfl)) Via.refl e249 Fc_e248 (g := (mkF m 96 #[rv a1, own_i 0, own_i 0, .val (.int (own_at xs (0 : Int32)))] [(.ref a1)])) rfl rfl (hb hby own_d16_96)
    refine own_to (fun t k => st251 t k) ?_
    show own_Fin _ _ _ _ _ _ (T251.setTop (mkF m 99 #[rv a1, own_i 0, own_i 0, .val (.int (own_at xs (0 : Int32)))] [(.ref a2)]))
    refine own_to (fun t k => XS.iloadN X251.here hx rfl (hb hby own_d16_99) rfl k) ?_
    show own_Fin _ _ _ _ _ _ (T251.setTop (mkF m 100 #[rv a1, own_i 0, own_i 0, .val (.int (own_at xs (0 : Int32)))] [(.int (0 : Int32)), (.ref a2)]))
    obtain ⟨cl252, Ar252, qa252, Sa252, Na252, Ha252, Ga252⟩ := id V2_e248
    have hin253 : ¬ ((0 : Int32) < 0 ∨ cl252.slots.size ≤ ((0 : Int32)).toNatClampNeg) := inb_of Sa252 ⟨(by decide), (by decide)⟩
    refine own_to (fun t k => X251.caload hx (j := (0 : Int32)) (v := (.int (own_at xs (0 : Int32)))) (by rw [e251]; exact Ar252.1) (State.isArrayOf_alike hZ.alike Ar252.2.1) Ar252.2.2 hin253 (Has.at Ha252 hin253 (own_getm xs _)) (g := (mkF m 100 #[rv a1, own_i 0, own_i 0, .val (.int (own_at xs (0 : Int32)))] [(.int (0 : Int32)), (.ref a2)])) rfl rfl (hb hby own_d16_100) _ k) ?_
    show own_Fin _ _ _ _ _ _ (T251.setTop (mkF m 101 #[rv a1, own_i 0, own_i 0, .val (.int (own_at xs (0 : Int32)))] [(.int (own_at xs (0 : Int32)))]))
    refine own_to (fun t k => XS.istoreN X251.here hx rfl (hb hby own_d16_101) rfl (l' := #[rv a1, own_i 0, own_i 0, .val (.int (own_at xs (0 : Int32)))]) rfl k) ?_
    show own_Fin _ _ _ _ _ _ (T251.setTop (mkF m 102 #[rv a1, own_i 0, own_i 0, .val (.int (own_at xs (0 : Int32)))] []))
    refine own_to (fun t k => XS.iloadN X251.here hx rfl (hb hby own_d16_102) rfl k) ?_
    refine own_to (fun t k => XS.tswIn X251.here hx rfl (pc0 := 103) (pc' := 390) rfl (hb hby own_d16_103) rfl htw.1 htw.2 (by decide) (by decide) k) ?_
    show own_Fin _ _ _ _ _ _ (T251.setTop (mkF m 390 #[rv a1, own_i 0, own_i 0, .val (.int (own_at xs (0 : Int32)))] []))
    refine own_to (fun t k => XS.iloadN X251.here hx rfl (hb hby own_d16_390) rfl k) ?_
    have zs254 := (Nat.le_trans (Nat.le_trans (Nat.le_trans Z0 (Keep.of_wr W240).1) (Keep.of_wr W241).1) (Keep.of_wr W248).1)
    obtain ⟨_, _, ⟨T255, L255, k255, n255⟩, -, X255, ⟨Lc255, hQ255, l255, y255, z255⟩, st255⟩ := Jvm.LawKit.callS X251 hx (y := (⟨"com/example/libxqtype/libxqtype/XmlCharacters", "isDigit", "(C)Z"⟩ : MethodName)) hown (mvT hZ (own_W hw 110 rfl)) (mvT hZ (own_W hw 111 rfl)) (mvT hZ (own_W hw 106 rfl)) (mvT hZ (own_W hw 112 rfl)) (by decide) (own_back (W := 0) (own_dgr l Z a0 hw [] (own_at xs (0 : Int32)) h248 n0 zs254) hZ (own_W hw 112 rfl) (own_W hw 106 rfl) (by decide) (by decide)) (g := (mkF m 391 #[rv a1, own_i 0, own_i 0, .val (.int (own_at xs (0 : Int32)))] [(.int (own_at xs (0 : Int32)))])) rfl (by rw [hml]; rfl) (argsL := [(.int (own_at xs (0 : Int32)))]) (rest := []) (lenOf own_pd11 rfl) rfl (by show 2 * 0 + _ ≤ _; exact Nat.le_of_eq rfl) (hb hby own_d16_391) (fun _ _ => ⟨rfl, e251, (by decide : 0 + 0 ≤ _), (by decide : 0 + 0 ≤ _)⟩)
    dsimp only [Pt.U, Pt.locs, Pt.cells, Pt.slots] at X255 l255 y255 z255 st255 hQ255
    rw [l255, y255, z255] at X255
    obtain ⟨rfl, N255q, eh255⟩ := hQ255
    have N255 := Fr.app N248 N255q
    refine own_to (fun t k => st255 t k) ?_
    show own_Fin _ _ _ _ _ _ (T255.setTop (mkF m 394 #[rv a1, own_i 0, own_i 0, .val (.int (own_at xs (0 : Int32)))] [(.int (own_dg (own_at xs (0 : Int32))))]))
    refine own_to (fun t k => XS.ifYes X255.here hx rfl (pc0 := 394) (pc' := 416) rfl (hb hby own_d16_394) rfl ((if0 _ _).trans (feq hf).2) (by decide) (by decide) k) ?_
    show own_Fin _ _ _ _ _ _ (T255.setTop (mkF m 416 #[rv a1, own_i 0, own_i 0, .val (.int (own_at xs (0 : Int32)))] []))
    refine own_to (fun t k => XS.aloadN X255.here hx rfl (hb hby own_d16_416) rfl rfl k) ?_
    show own_Fin _ _ _ _ _ _ (T255.setTop (mkF m 417 #[rv a1, own_i 0, own_i 0, .val (.int (own_at xs (0 : Int32)))] [(.ref a1)]))
    obtain ⟨cq256, cqa256, cqb256⟩ := E1_e248.cell
    obtain ⟨_, _, ⟨T256, L256, k256, n256⟩, -, X256, ⟨Lc256, hQ256, l256, y256, z256⟩, st256⟩ := X255.privateBack hx (y := (⟨"com/example/libxqtype/libxqtype/ExpressionLexer", "numericLiteral", "()V"⟩ : MethodName)) hown (mvT hZ (own_W hw 113 rfl)) (mvT hZ (own_W hw 114 rfl)) (own_selP (y' := (⟨"com/example/libxqtype/libxqtype/ExpressionLexer", "integerValue", "()J"⟩ : MethodName)) (mvT hZ (own_W hw 144 rfl)) rfl (Cond.privateMethod_at (mvP hZ (own_W hw 115 rfl) (args := #[]))) (mvT hZ (own_W hw 114 rfl)) (by decide)) (Cond.privateMethod_at (mvP hZ (own_W hw 115 rfl) (args := #[]))) (mvT hZ (own_W hw 116 rfl)) (by decide) (own_back (W := 0) (own_num l Z a0 hw [] wI wT cT a1 a2 k2 xs (0 : Int32) en h248 n0 zs254 SI O248 ST AT hT E1_e248 Fc_e248 V2_e248 Fk_e248 Fw248 Fe_e248 g_a1 ne12 hk d1 c1 c2 c3 c4) hZ (own_W hw 116 rfl) (own_W hw 38 rfl) (by decide) (by decide)) (g := (mkF m 417 #[rv a1, own_i 0, own_i 0, .val (.int (own_at xs (0 : Int32)))] [(.ref a1)])) rfl (by rw [hml]; rfl) (Steps.refl _) (a := a1) (by rw [eh255]; exact cqa256) cqb256 (argsL := []) (rest := []) (lenOf own_pd1 rfl) rfl (by show 2 * 0 + _ ≤ _; exact Nat.le_of_eq rfl) (hb hby own_d16_417) (fun _ _ => ⟨rfl, eh255, (by decide : 0 + 0 ≤ _), (by decide : 0 + 0 ≤ _)⟩)
    dsimp only [Pt.U, Pt.locs, Pt.cells, Pt.slots] at X256 l256 y256 z256 st256 hQ256
    rw [l256, y256, z256] at X256
    obtain ⟨rfl, N256q, K256, Fc1, Fs1, Fe1⟩ := hQ256
    have N256 := Fr.app N255 N256q
    have O256 := O248.keep K256 (allS g_a1 all0)
    have KK256 : Keep h0 T256.heap [a1] := KK248.trans K256 (allS (Or.inl (List.mem_of_getElem? (i := 0) rfl)) all0)
    have E1_e256 := E1_e248.keep K256
    have V2_e256 := V2_e248.keep K256 (ninS (Ne.symm ne12) nin0)
    refine own_to (fun t k => st256.trans k) ?_
    show own_Fin _ _ _ _ _ _ (T256.setTop (mkF m 420 #[rv a1, own_i 0, own_i 0, .val (.int (own_at xs (0 : Int32)))] []))
    refine own_to (fun t k => XS.goto X256.here hx rfl (pc0 := 420) (pc' := 443) rfl (hb hby own_d16_420) (by decide) (by decide) k) ?_
    show own_Fin _ _ _ _ _ _ (T256.setTop (mkF m 443 #[rv a1, own_i 0, own_i 0, .val (.int (own_at xs (0 : Int32)))] []))
    refine own_retV X256 hx hlk hret (hb hby own_d16_443) (by decide) (by decide) ?_
    exact ⟨rfl, N256, KK256, Fc1, Fs1, Fe1⟩
  ·
    have htw := own_tsw (c := (own_at xs (1 : Int32))) (Or.inl hf)
    show own_Fin _ _ _ _ _ _ (s₁.setTop (mkF m 0 #[rv a1, own_i 0, .unset, .unset] []))
    refine own_to (fun t k => XS.aloadN X0.here hx rfl (hb hby own_d16_0) rfl rfl k) ?_
    refine own_to (fun t k => XS.aconstNull X0.here hx rfl (hb hby own_d16_1) k) ?_
    show own_Fin _ _ _ _ _ _ (s₁.setTop (mkF m 2 #[rv a1, own_i 0, .unset, .unset] [.null, (.ref a1)]))
    obtain ⟨T257, h257, X257, e257, W257, st257⟩ := putF X0 hx hZ hown (host := "") (Or.inl (own_W hw 100 rfl)) Via.refl e0 Fg E1 (Or.inl (own_W hw 101 rfl)) (own_W hw 37 rfl) (ty := (.object "java/lang/String")) (by decide) rfl rfl (g := (mkF m 2 #[rv a1, own_i 0, .unset, .unset] [.null, (.ref a1)])) rfl rfl (hb hby own_d16_2)
    have Fw257 := Fg.same W257
    have N257 := Fr.snoc X257 N0 g_a1
    have O257 := O0.wr W257 g_a1
    have KK257 : Keep h0 h257 [a1] := KK0.wr W257 (Or.inl (List.mem_of_getElem? (i := 0) rfl))
    have E1_e257 := E1.wr W257
    have Fc_e257 := Fc.other W257 (Or.inr (slot_ne (Or.inr (own_W hw 95 rfl)) (Or.inl (own_W hw 101 rfl)) (by decide) (t := (.array .char)) (t' := (.object "java/lang/String")) (by decide) (by decide)))
    have V2_e257 := V2.other W257 (Ne.symm ne12)
    have Fk_e257 := Fk.other W257 (Or.inr (slot_ne (Or.inl (own_W hw 125 rfl)) (Or.inl (own_W hw 101 rfl)) (by decide) (t := (.object "com/example/libxqtype/libxqtype/ExpressionLexer$Kind")) (t' := (.object "java/lang/String")) (by decide) (by decide)))
    have Fs_e257 := Fs.other W257 (Or.inr (slot_ne (Or.inl (own_W hw 109 rfl)) (Or.inl (own_W hw 101 rfl)) (by decide) (t := .int) (t' := (.object "java/lang/String")) (by decide) (by decide)))
    have Fe_e257 := Fe.other W257 (Or.inr (slot_ne (Or.inl (own_W hw 131 rfl)) (Or.inl (own_W hw 101 rfl)) (by decide) (t := .int) (t' := (.object "java/lang/String")) (by decide) (by decide)))
    have Fy_e257 := Fy.other W257 (Or.inr (slot_ne (Or.inl (own_W hw 103 rfl)) (Or.inl (own_W hw 101 rfl)) (by decide) (t := (.object "com/example/libxqtype/libxqtype/ExpressionLexer$Keyword")) (t' := (.object "java/lang/String")) (by decide) (by decide)))
    refine own_to (fun t k => st257 t k) ?_
    show own_Fin _ _ _ _ _ _ (T257.setTop (mkF m 5 #[rv a1, own_i 0, .unset, .unset] []))
    refine own_to (fun t k => XS.aloadN X257.here hx rfl (hb hby own_d16_5) rfl rfl k) ?_
    refine own_to (fun t k => XS.aconstNull X257.here hx rfl (hb hby own_d16_6) k) ?_
    show own_Fin _ _ _ _ _ _ (T257.setTop (mkF m 7 #[rv a1, own_i 0, .unset, .unset] [.null, (.ref a1)]))
    obtain ⟨T258, h258, X258, e258, W258, st258⟩ := putF X257 hx hZ hown (host := "") (Or.inl (own_W hw 102 rfl)) Via.refl e257 Fy_e257 E1_e257 (Or.inl (own_W hw 103 rfl)) (own_W hw 37 rfl) (ty := (.object "com/example/libxqtype/libxqtype/ExpressionLexer$Keyword")) (by decide) rfl rfl (g := (mkF m 7 #[rv a1, own_i 0, .unset, .unset] [.null, (.ref a1)])) rfl rfl (hb hby own_d16_7)
    have Fw258 := Fy_e257.same W258
    have N258 := Fr.snoc X258 N257 g_a1
    have O258 := O257.wr W258 g_a1
    have KK258 : Keep h0 h258 [a1] := KK257.wr W258 (Or.inl (List.mem_of_getElem? (i := 0) rfl))
    have E1_e258 := E1_e257.wr W258
    have Fc_e258 := Fc_e257.other W258 (Or.inr (slot_ne (Or.inr (own_W hw 95 rfl)) (Or.inl (own_W hw 103 rfl)) (by decide) (t := (.array .char)) (t' := (.object "com/example/libxqtype/libxqtype/ExpressionLexer$Keyword")) (by decide) (by decide)))
    have V2_e258 := V2_e257.other W258 (Ne.symm ne12)
    have Fk_e258 := Fk_e257.other W258 (Or.inr (slot_ne (Or.inl (own_W hw 125 rfl)) (Or.inl (own_W hw 103 rfl)) (by decide) (t := (.object "com/example/libxqtype/libxqtype/ExpressionLexer$Kind")) (t' := (.object "com/example/libxqtype/libxqtype/ExpressionLexer$Keyword")) (by decide) (by decide)))
    have Fs_e258 := Fs_e257.other W258 (Or.inr (slot_ne (Or.inl (own_W hw 109 rfl)) (Or.inl (own_W hw 103 rfl)) (by decide) (t := .int) (t' := (.object "com/example/libxqtype/libxqtype/ExpressionLexer$Keyword")) (by decide) (by decide)))
    have Fe_e258 := Fe_e257.other W258 (Or.inr (slot_ne (Or.inl (own_W hw 131 rfl)) (Or.inl (own_W hw 103 rfl)) (by decide) (t := .int) (t' := (.object "com/example/libxqtype/libxqtype/ExpressionLexer$Keyword")) (by decide) (by decide)))
    have Fw257_e258 := Fw257.other W258 (Or.inr (slot_ne (Or.inl (own_W hw 101 rfl)) (Or.inl (own_W hw 103 rfl)) (by decide) (t := (.object "java/lang/String")) (t' := (.object "com/example/libxqtype/libxqtype/ExpressionLexer$Keyword")) (by decide) (by decide)))
    refine own_to (fun t k => st258 t k) ?_
    show own_Fin _ _ _ _ _ _ (T258.setTop (mkF m 10 #[rv a1, own_i 0, .unset, .unset] []))
    refine own_to (fun t k => XS.iloadN X258.here hx rfl (hb hby own_d16_10) rfl k) ?_
    refine own_to (fun t k => XS.istoreN X258.here hx rfl (hb hby own_d16_11) rfl (l' := #[rv a1, own_i 0, own_i 0, .unset]) rfl k) ?_
    show own_Fin _ _ _ _ _ _ (T258.setTop (mkF m 12 #[rv a1, own_i 0, own_i 0, .unset] []))
    refine own_to (fun t k => XS.iloadN X258.here hx rfl (hb hby own_d16_12) rfl k) ?_
    refine own_to (fun t k => XS.aloadN X258.here hx rfl (hb hby own_d16_13) rfl rfl k) ?_
    obtain ⟨T259, X259, e259, st259⟩ := getF X258 hx hZ hown (host := "") (Or.inl (own_W hw 94 rfl)) Via.refl e258 Fc_e258 (g := (mkF m 14 #[rv a1, own_i 0, own_i 0, .unset] [(.ref a1), (.int (0 : Int32))])) rfl rfl (hb hby own_d16_14)
    refine own_to (fun t k => st259 t k) ?_
    show own_Fin _ _ _ _ _ _ (T259.setTop (mkF m 17 #[rv a1, own_i 0, own_i 0, .unset] [(.ref a2), (.int (0 : Int32))]))
    obtain ⟨cl260, Ar260, qa260, Sa260, Na260, Ha260, Ga260⟩ := id V2_e258
    refine own_to (fun t k => X259.arraylength hx (by rw [e259]; exact Ar260.1) (State.isArrayOf_alike hZ.alike Ar260.2.1) (g := (mkF m 17 #[rv a1, own_i 0, own_i 0, .unset] [(.ref a2), (.int (0 : Int32))])) rfl rfl (hb hby own_d16_17) _ k) ?_
    rw [len_of Sa260 Na260]
    show own_Fin _ _ _ _ _ _ (T259.setTop (mkF m 18 #[rv a1, own_i 0, own_i 0, .unset] [(.int (20 : Int32)), (.int (0 : Int32))]))
    refine own_to (fun t k => XS.icmpNo X259.here hx rfl (hb hby own_d16_18) rfl (tlt (by decide)).2.1 k) ?_
    show own_Fin _ _ _ _ _ _ (T259.setTop (mkF m 21 #[rv a1, own_i 0, own_i 0, .unset] []))
    refine own_to (fun t k => XS.aloadN X259.here hx rfl (hb hby own_d16_21) rfl rfl k) ?_
    show own_Fin _ _ _ _ _ _ (T259.setTop (mkF m 22 #[rv a1, own_i 0, own_i 0, .unset] [(.ref a1)]))
    obtain ⟨T261, X261, e261, st261⟩ := getF X259 hx hZ hown (host := "") (Or.inl (own_W hw 94 rfl)) Via.refl e259 Fc_e258 (g := (mkF m 22 #[rv a1, own_i 0, own_i 0, .unset] [(.ref a1)])) rfl rfl (hb hby own_d16_22)
    refine own_to (fun t k => st261 t k) ?_
    show own_Fin _ _ _ _ _ _ (T261.setTop (mkF m 25 #[rv a1, own_i 0, own_i 0, .unset] [(.ref a2)]))
    refine own_to (fun t k => XS.iloadN X261.here hx rfl (hb hby own_d16_25) rfl k) ?_
    obtain ⟨cl262, Ar262, qa262, Sa262, Na262, Ha262, Ga262⟩ := id V2_e258
    have hin263 : ¬ ((0 : Int32) < 0 ∨ cl262.slots.size ≤ ((0 : Int32)).toNatClampNeg) := inb_of Sa262 ⟨(by decide), (by decide)⟩
    refine own_to (fun t k => X261.caload hx (j := (0 : Int32)) (v := (.int (own_at xs (0 : Int32)))) (by rw [e261]; exact Ar262.1) (State.isArrayOf_alike hZ.alike Ar262.2.1) Ar262.2.2 hin263 (Has.at Ha262 hin263 (own_getm xs _)) (g := (mkF m 26 #[rv a1, own_i 0, own_i 0, .unset] [(.int (0 : Int32)), (.ref a2)])) rfl rfl (hb hby own_d16_26) _ k) ?_
    show own_Fin _ _ _ _ _ _ (T261.setTop (mkF m 27 #[rv a1, own_i 0, own_i 0, .unset] [(.int (own_at xs (0 : Int32)))]))
    refine own_to (fun t k => XS.istoreN X261.here hx rfl (hb hby own_d16_27) rfl (l' := #[rv a1, own_i 0, own_i 0, .val (.int (own_at xs (0 : Int32)))]) rfl k) ?_
    show own_Fin _ _ _ _ _ _ (T261.setTop (mkF m 28 #[rv a1, own_i 0, own_i 0, .val (.int (own_at xs (0 : Int32)))] []))
    refine own_to (fun t k => XS.iloadN X261.here hx rfl (hb hby own_d16_28) rfl k) ?_
    obtain ⟨_, _, ⟨T264, L264, k264, n264⟩, -, X264, ⟨Lc264, hQ264, l264, y264, z264⟩, st264⟩ := Jvm.LawKit.callS X261 hx (y := (⟨"com/example/libxqtype/libxqtype/XmlCharacters", "isWhitespace", "(C)Z"⟩ : MethodName)) hown (mvT hZ (own_W hw 104 rfl)) (mvT hZ (own_W hw 105 rfl)) (mvT hZ (own_W hw 106 rfl)) (mvT hZ (own_W hw 107 rfl)) (by decide) (own_back (W := 0) (own_wsr l Z a0 hw [] (own_at xs (0 : Int32)) h258 n0 (Nat.le_trans (Nat.le_trans Z0 (Keep.of_wr W257).1) (Keep.of_wr W258).1)) hZ (own_W hw 107 rfl) (own_W hw 106 rfl) (by decide) (by decide)) (g := (mkF m 29 #[rv a1, own_i 0, own_i 0, .val (.int (own_at xs (0 : Int32)))] [(.int (own_at xs (0 : Int32)))])) rfl (by rw [hml]; rfl) (argsL := [(.int (own_at xs (0 : Int32)))]) (rest := []) (lenOf own_pd11 rfl) rfl (by show 2 * 0 + _ ≤ _; exact Nat.le_of_eq rfl) (hb hby own_d16_29) (fun _ _ => ⟨rfl, e261, (by decide : 0 + 0 ≤ _), (by decide : 0 + 0 ≤ _)⟩)
    dsimp only [Pt.U, Pt.locs, Pt.cells, Pt.slots] at X264 l264 y264 z264 st264 hQ264
    rw [l264, y264, z264] at X264
    obtain ⟨rfl, N264q, eh264⟩ := hQ264
    have N264 := Fr.app N258 N264q
    refine own_to (fun t k => st264 t k) ?_
    show own_Fin _ _ _ _ _ _ (T264.setTop (mkF m 32 #[rv a1, own_i 0, own_i 0, .val (.int (own_at xs (0 : Int32)))] [(.int (own_ws (own_at xs (0 : Int32))))]))
    refine own_to (fun t k => XS.ifNo X264.here hx rfl (hb hby own_d16_32) rfl ((if0 _ _).trans (feq hw0).1) k) ?_
    show own_Fin _ _ _ _ _ _ (T264.setTop (mkF m 35 #[rv a1, own_i 0, own_i 0, .val (.int (own_at xs (0 : Int32)))] []))
    refine own_to (fun t k => XS.iinc X264.here hx rfl (hb hby own_d16_35) rfl (l' := #[rv a1, own_i 0, own_i 1, .val (.int (own_at xs (0 : Int32)))]) rfl k) ?_
    show own_Fin _ _ _ _ _ _ (T264.setTop (mkF m 38 #[rv a1, own_i 0, own_i 1, .val (.int (own_at xs (0 : Int32)))] []))
    refine own_to (fun t k => XS.goto X264.here hx rfl (pc0 := 38) (pc' := 65) rfl (hb hby own_d16_38) (by decide) (by decide) k) ?_
    show own_Fin _ _ _ _ _ _ (T264.setTop (mkF m 65 #[rv a1, own_i 0, own_i 1, .val (.int (own_at xs (0 : Int32)))] []))
    refine own_to (fun t k => XS.goto X264.here hx rfl (pc0 := 65) (pc' := 12) rfl (hb hby own_d16_65) (by decide) (by decide) k) ?_
    show own_Fin _ _ _ _ _ _ (T264.setTop (mkF m 12 #[rv a1, own_i 0, own_i 1, .val (.int (own_at xs (0 : Int32)))] []))
    refine own_to (fun t k => XS.iloadN X264.here hx rfl (hb hby own_d16_12) rfl k) ?_
    refine own_to (fun t k => XS.aloadN X264.here hx rfl (hb hby own_d16_13) rfl rfl k) ?_
    obtain ⟨T265, X265, e265, st265⟩ := getF X264 hx hZ hown (host := "") (Or.inl (own_W hw 94 rfl)) Via.refl eh264 Fc_e258 (g := (mkF m 14 #[rv a1, own_i 0, own_i 1, .val (.int (own_at xs (0 : Int32)))] [(.ref a1), (.int (1 : Int32))])) rfl rfl (hb hby own_d16_14)
    refine own_to (fun t k => st265 t k) ?_
    show own_Fin _ _ _ _ _ _ (T265.setTop (mkF m 17 #[rv a1, own_i 0, own_i 1, .val (.int (own_at xs (0 : Int32)))] [(.ref a2), (.int (1 : Int32))]))
    obtain ⟨cl266, Ar266, qa266, Sa266, Na266, Ha266, Ga266⟩ := id V2_e258
    refine own_to (fun t k => X265.arraylength hx (by rw [e265]; exact Ar266.1) (State.isArrayOf_alike hZ.alike Ar266.2.1) (g := (mkF m 17 #[rv a1, own_i 0, own_i 1, .val (.int (own_at xs (0 : Int32)))] [(.ref a2), (.int (1 : Int32))])) rfl rfl (hb hby own_d16_17) _ k) ?_
    rw [len_of Sa266 Na266]
    show own_Fin _ _ _ _ _ _ (T265.setTop (mkF m 18 #[rv a1, own_i 0, own_i 1, .val (.int (own_at xs (0 : Int32)))] [(.int (20 : Int32)), (.int (1 : Int32))]))
    refine own_to (fun t k => XS.icmpNo X265.here hx rfl (hb hby own_d16_18) rfl (tlt (by decide)).2.1 k) ?_
    show own_Fin _ _ _ _ _ _ (T265.setTop (mkF m 21 #[rv a1, own_i 0, own_i 1, .val (.int (own_at xs (0 : Int32)))] []))
    refine own_to (fun t k => XS.aloadN X265.here hx rfl (hb hby own_d16_21) rfl rfl k) ?_
    show own_Fin _ _ _ _ _ _ (T265.setTop (mkF m 22 #[rv a1, own_i 0, own_i 1, .val (.int (own_at xs (0 : Int32)))] [(.ref a1)]))
    obtain ⟨T267, X267, e267, st267⟩ := getF X265 hx hZ hown (host := "") (Or.inl (own_W hw 94 rfl)) Via.refl e265 Fc_e258 (g := (mkF m 22 #[rv a1, own_i 0, own_i 1, .val (.int (own_at xs (0 : Int32)))] [(.ref a1)])) rfl rfl (hb hby own_d16_22)
    refine own_to (fun t k => st267 t k) ?_
    show own_Fin _ _ _ _ _ _ (T267.setTop (mkF m 25 #[rv a1, own_i 0, own_i 1, .val (.int (own_at xs (0 : Int32)))] [(.ref a2)]))
    refine own_to (fun t k => XS.iloadN X267.here hx rfl (hb hby own_d16_25) rfl k) ?_
    obtain ⟨cl268, Ar268, qa268, Sa268, Na268, Ha268, Ga268⟩ := id V2_e258
    have hin269 : ¬ ((1 : Int32) < 0 ∨ cl268.slots.size ≤ ((1 : Int32)).toNatClampNeg) := inb_of Sa268 ⟨(by decide), (by decide)⟩
    refine own_to (fun t k => X267.caload hx (j := (1 : Int32)) (v := (.int (own_at xs (1 : Int32)))) (by rw [e267]; exact Ar268.1) (State.isArrayOf_alike hZ.alike Ar268.2.1) Ar268.2.2 hin269 (Has.at Ha268 hin269 (own_getm xs _)) (g := (mkF m 26 #[rv a1, own_i 0, own_i 1, .val (.int (own_at xs (0 : Int32)))] [(.int (1 : Int32)), (.ref a2)])) rfl rfl (hb hby own_d16_26) _ k) ?_
    show own_Fin _ _ _ _ _ _ (T267.setTop (mkF m 27 #[rv a1, own_i 0, own_i 1, .val (.int (own_at xs (0 : Int32)))] [(.int (own_at xs (1 : Int32)))]))
    refine own_to (fun t k => XS.istoreN X267.here hx rfl (hb hby own_d16_27) rfl (l' := #[rv a1, own_i 0, own_i 1, .val (.int (own_at xs (1 : Int32)))]) rfl k) ?_
    show own_Fin _ _ _ _ _ _ (T267.setTop (mkF m 28 #[rv a1, own_i 0, own_i 1, .val (.int (own_at xs (1 : Int32)))] []))
    refine own_to (fun t k => XS.iloadN X267.here hx rfl (hb hby own_d16_28) rfl k) ?_
    obtain ⟨_, _, ⟨T270, L270, k270, n270⟩, -, X270, ⟨Lc270, hQ270, l270, y270, z270⟩, st270⟩ := Jvm.LawKit.callS X267 hx (y := (⟨"com/example/libxqtype/libxqtype/XmlCharacters", "isWhitespace", "(C)Z"⟩ : MethodName)) hown (mvT hZ (own_W hw 104 rfl)) (mvT hZ (own_W hw 105 rfl)) (mvT hZ (own_W hw 106 rfl)) (mvT hZ (own_W hw 107 rfl)) (by decide) (own_back (W := 0) (own_wsr l Z a0 hw [] (own_at xs (1 : Int32)) h258 n0 (Nat.le_trans (Nat.le_trans Z0 (Keep.of_wr W257).1) (Keep.of_wr W258).1)) hZ (own_W hw 107 rfl) (own_W hw 106 rfl) (by decide) (by decide)) (g := (mkF m 29 #[rv a1, own_i 0, own_i 1, .val (.int (own_at xs (1 : Int32)))] [(.int (own_at xs (1 : Int32)))])) rfl (by rw [hml]; rfl) (argsL := [(.int (own_at xs (1 : Int32)))]) (rest := []) (lenOf own_pd11 rfl) rfl (by show 2 * 0 + _ ≤ _; exact Nat.le_of_eq rfl) (hb hby own_d16_29) (fun _ _ => ⟨rfl, e267, (by decide : 0 + 0 ≤ _), (by decide : 0 + 0 ≤ _)⟩)
    dsimp only [Pt.U, Pt.locs, Pt.cells, Pt.slots] at X270 l270 y270 z270 st270 hQ270
    rw [l270, y270, z270] at X270
    obtain ⟨rfl, N270q, eh270⟩ := hQ270
    have N270 := Fr.app N264 N270q
    refine own_to (fun t k => st270 t k) ?_
    show own_Fin _ _ _ _ _ _ (T270.setTop (mkF m 32 #[rv a1, own_i 0, own_i 1, .val (.int (own_at xs (1 : Int32)))] [(.int (own_ws (own_at xs (1 : Int32))))]))
    refine own_to (fun t k => XS.ifYes X270.here hx rfl (pc0 := 32) (pc' := 41) rfl (hb hby own_d16_32) rfl ((if0 _ _).trans (teq hn).1) (by decide) (by decide) k) ?_
    show own_Fin _ _ _ _ _ _ (T270.setTop (mkF m 41 #[rv a1, own_i 0, own_i 1, .val (.int (own_at xs (1 : Int32)))] []))
    refine own_to (fun t k => XS.iloadN X270.here hx rfl (hb hby own_d16_41) rfl k) ?_
    refine own_to (fun t k => XS.bipush X270.here hx rfl (hb hby own_d16_42) k) ?_
    show own_Fin _ _ _ _ _ _ (T270.setTop (mkF m 44 #[rv a1, own_i 0, own_i 1, .val (.int (own_at xs (1 : Int32)))] [(.int (40 : Int32)), (.int (own_at xs (1 : Int32)))]))
    refine own_to (fun t k => XS.icmpYes X270.here hx rfl (pc0 := 44) (pc' := 68) rfl (hb hby own_d16_44) rfl (feq h40).2 (by decide) (by decide) k) ?_
    show own_Fin _ _ _ _ _ _ (T270.setTop (mkF m 68 #[rv a1, own_i 0, own_i 1, .val (.int (own_at xs (1 : Int32)))] []))
    refine own_to (fun t k => XS.aloadN X270.here hx rfl (hb hby own_d16_68) rfl rfl k) ?_
    refine own_to (fun t k => XS.iloadN X270.here hx rfl (hb hby own_d16_69) rfl k) ?_
    obtain ⟨T271, h271, X271, e271, W271, st271⟩ := putF X270 hx hZ hown (host := "") (Or.inl (own_W hw 108 rfl)) Via.refl eh270 Fs_e258 E1_e258 (Or.inl (own_W hw 109 rfl)) (own_W hw 37 rfl) (ty := .int) (by decide) rfl rfl (g := (mkF m 70 #[rv a1, own_i 0, own_i 1, .val (.int (own_at xs (1 : Int32)))] [(.int (1 : Int32)), (.ref a1)])) rfl rfl (hb hby own_d16_70)
    have Fw271 := Fs_e258.same W271
    have N271 := Fr.snoc X271 N270 g_a1
    have O271 := O258.wr W271 g_a1
    have KK271 : Keep h0 h271 [a1] := KK258.wr W271 (Or.inl (List.mem_of_getElem? (i := 0) rfl))
    have E1_e271 := E1_e258.wr W271
    have Fc_e271 := Fc_e258.other W271 (Or.inr (slot_ne (Or.inr (own_W hw 95 rfl)) (Or.inl (own_W hw 109 rfl)) (by decide) (t := (.array .char)) (t' := .int) (by decide) (by decide)))
    have V2_e271 := V2_e258.other W271 (Ne.symm ne12)
    have Fk_e271 := Fk_e258.other W271 (Or.inr (slot_ne (Or.inl (own_W hw 125 rfl)) (Or.inl (own_W hw 109 rfl)) (by decide) (t := (.object "com/example/libxqtype/libxqtype/ExpressionLexer$Kind")) (t' := .int) (by decide) (by decide)))
    have Fe_e271 := Fe_e258.other W271 (Or.inr (slot_ne (Or.inl (own_W hw 131 rfl)) (Or.inl (own_W hw 109 rfl)) (by decide) (t := .int) (t' := .int) (by decide) (by decide)))
    have Fw257_e271 := Fw257_e258.other W271 (Or.inr (slot_ne (Or.inl (own_W hw 101 rfl)) (Or.inl (own_W hw 109 rfl)) (by decide) (t := (.object "java/lang/String")) (t' := .int) (by decide) (by decide)))
    have Fw258_e271 := Fw258.other W271 (Or.inr (slot_ne (Or.inl (own_W hw 103 rfl)) (Or.inl (own_W hw 109 rfl)) (by decide) (t := (.object "com/example/libxqtype/libxqtype/ExpressionLexer$Keyword")) (t' := .int) (by decide) (by decide)))
    refine own_to (fun t k => st271 t k) ?_
    show own_Fin _ _ _ _ _ _ (T271.setTop (mkF m 73 #[rv a1, own_i 0, own_i 1, .val (.int (own_at xs (1 : Int32)))] []))
    refine own_to (fun t k => XS.iloadN X271.here hx rfl (hb hby own_d16_73) rfl k) ?_
    show own_Fin _ _ _ _ _ _ (T271.setTop (mkF m 74 #[rv a1, own_i 0, own_i 1, .val (.int (own_at xs (1 : Int32)))] [(.int (1 : Int32))]))
    refine own_to (fun t k => XS.aloadN X271.here hx rfl (hb hby own_d16_74) rfl rfl k) ?_
    obtain ⟨T272, X272, e272, st272⟩ := getF X271 hx hZ hown (host := "") (Or.inl (own_W hw 94 rfl)) Via.refl e271 Fc_e271 (g := (mkF m 75 #[rv a1, own_i 0, own_i 1, .val (.int (own_at xs (1 : Int32)))] [(.ref a1), (.int (1 : Int32))])) rfl rfl (hb hby own_d16_75)
    refine own_to (fun t k => st272 t k) ?_
    show own_Fin _ _ _ _ _ _ (T272.setTop (mkF m 78 #[rv a1, own_i 0, own_i 1, .val (.int (own_at xs (1 : Int32)))] [(.ref a2), (.int (1 : Int32))]))
    obtain ⟨cl273, Ar273, qa273, Sa273, Na273, Ha273, Ga273⟩ := id V2_e271
    refine own_to (fun t k => X272.arraylength hx (by rw [e272]; exact Ar273.1) (State.isArrayOf_alike hZ.alike Ar273.2.1) (g := (mkF m 78 #[rv a1, own_i 0, own_i 1, .val (.int (own_at xs (1 : Int32)))] [(.ref a2), (.int (1 : Int32))])) rfl rfl (hb hby own_d16_78) _ k) ?_
    rw [len_of Sa273 Na273]
    show own_Fin _ _ _ _ _ _ (T272.setTop (mkF m 79 #[rv a1, own_i 0, own_i 1, .val (.int (own_at xs (1 : Int32)))] [(.int (20 : Int32)), (.int (1 : Int32))]))
    refine own_to (fun t k => XS.icmpYes X272.here hx rfl (pc0 := 79) (pc' := 95) rfl (hb hby own_d16_79) rfl (feq (by decide)).2 (by decide) (by decide) k) ?_
    show own_Fin _ _ _ _ _ _ (T272.setTop (mkF m 95 #[rv a1, own_i 0, own_i 1, .val (.int (own_at xs (1 : Int32)))] []))
    refine own_to (fun t k => XS.aloadN X272.here hx rfl (hb hby own_d16_95) rfl rfl k) ?_
    obtain ⟨T274, X274, e274, st274⟩ := getF X272 hx hZ hown (host := "") (Or.inl (own_W hw 94 rfl)) Via.refl e272 Fc_e271 (g := (mkF m 96 #[rv a1, own_i 0, own_i 1, .val (.int (own_at xs (1 : Int32)))] [(.ref a1)])) rfl rfl (hb hby own_d16_96)
    refine own_to (fun t k => st274 t k) ?_
    show own_Fin _ _ _ _ _ _ (T274.setTop (mkF m 99 #[rv a1, own_i 0, own_i 1, .val (.int (own_at xs (1 : Int32)))] [(.ref a2)]))
    refine own_to (fun t k => XS.iloadN X274.here hx rfl (hb hby own_d16_99) rfl k) ?_
    show own_Fin _ _ _ _ _ _ (T274.setTop (mkF m 100 #[rv a1, own_i 0, own_i 1, .val (.int (own_at xs (1 : Int32)))] [(.int (1 : Int32)), (.ref a2)]))
    obtain ⟨cl275, Ar275, qa275, Sa275, Na275, Ha275, Ga275⟩ := id V2_e271
    have hin276 : ¬ ((1 : Int32) < 0 ∨ cl275.slots.size ≤ ((1 : Int32)).toNatClampNeg) := inb_of Sa275 ⟨(by decide), (by decide)⟩
    refine own_to (fun t k => X274.caload hx (j := (1 : Int32)) (v := (.int (own_at xs (1 : Int32)))) (by rw [e274]; exact Ar275.1) (State.isArrayOf_alike hZ.alike Ar275.2.1) Ar275.2.2 hin276 (Has.at Ha275 hin276 (own_getm xs _)) (g := (mkF m 100 #[rv a1, own_i 0, own_i 1, .val (.int (own_at xs (1 : Int32)))] [(.int (1 : Int32)), (.ref a2)])) rfl rfl (hb hby own_d16_100) _ k) ?_
    show own_Fin _ _ _ _ _ _ (T274.setTop (mkF m 101 #[rv a1, own_i 0, own_i 1, .val (.int (own_at xs (1 : Int32)))] [(.int (own_at xs (1 : Int32)))]))
    refine own_to (fun t k => XS.istoreN X274.here hx rfl (hb hby own_d16_101) rfl (l' := #[rv a1, own_i 0, own_i 1, .val (.int (own_at xs (1 : Int32)))]) rfl k) ?_
    show own_Fin _ _ _ _ _ _ (T274.setTop (mkF m 102 #[rv a1, own_i 0, own_i 1, .val (.int (own_at xs (1 : Int32)))] []))
    refine own_to (fun t k => XS.iloadN X274.here hx rfl (hb hby own_d16_102) rfl k) ?_
    refine own_to (fun t k => XS.tswIn X274.here hx rfl (pc0 := 103) (pc' := 390) rfl (hb hby own_d16_103) rfl htw.1 htw.2 (by decide) (by decide) k) ?_
    show own_Fin _ _ _ _ _ _ (T274.setTop (mkF m 390 #[rv a1, own_i 0, own_i 1, .val (.int (own_at xs (1 : Int32)))] []))
    refine own_to (fun t k => XS.iloadN X274.here hx rfl (hb hby own_d16_390) rfl k) ?_
    have zs277 := (Nat.le_trans (Nat.le_trans (Nat.le_trans Z0 (Keep.of_wr W257).1) (Keep.of_wr W258).1) (Keep.of_wr W271).1)
    obtain ⟨_, _, ⟨T278, L278, k278, n278⟩, -, X278, ⟨Lc278, hQ278, l278, y278, z278⟩, st278⟩ := Jvm.LawKit.callS X274 hx (y := (⟨"com/example/libxqtype/libxqtype/XmlCharacters", "isDigit", "(C)Z"⟩ : MethodName)) hown (mvT hZ (own_W hw 110 rfl)) (mvT hZ (own_W hw 111 rfl)) (mvT hZ (own_W hw 106 rfl)) (mvT hZ (own_W hw 112 rfl)) (by decide) (own_back (W := 0) (own_dgr l Z a0 hw [] (own_at xs (1 : Int32)) h271 n0 zs277) hZ (own_W hw 112 rfl) (own_W hw 106 rfl) (by decide) (by decide)) (g := (mkF m 391 #[rv a1, own_i 0, own_i 1, .val (.int (own_at xs (1 : Int32)))] [(.int (own_at xs (1 : Int32)))])) rfl (by rw [hml]; rfl) (argsL := [(.int (own_at xs (1 : Int32)))]) (rest := []) (lenOf own_pd11 rfl) rfl (by show 2 * 0 + _ ≤ _; exact Nat.le_of_eq rfl) (hb hby own_d16_391) (fun _ _ => ⟨rfl, e274, (by decide : 0 + 0 ≤ _), (by decide : 0 + 0 ≤ _)⟩)
    dsimp only [Pt.U, Pt.locs, Pt.cells, Pt.slots] at X278 l278 y278 z278 st278 hQ278
    rw [l278, y278, z278] at X278
    obtain ⟨rfl, N278q, eh278⟩ := hQ278
    have N278 := Fr.app N271 N278q
    refine own_to (fun t k => st278 t k) ?_
    show own_Fin _ _ _ _ _ _ (T278.setTop (mkF m 394 #[rv a1, own_i 0, own_i 1, .val (.int (own_at xs (1 : Int32)))] [(.int (own_dg (own_at xs (1 : Int32))))]))
    refine own_to (fun t k => XS.ifYes X278.here hx rfl (pc0 := 394) (pc' := 416) rfl (hb hby own_d16_394) rfl ((if0 _ _).trans (feq hf).2) (by decide) (by decide) k) ?_
    show own_Fin _ _ _ _ _ _ (T278.setTop (mkF m 416 #[rv a1, own_i 0, own_i 1, .val (.int (own_at xs (1 : Int32)))] []))
    refine own_to (fun t k => XS.aloadN X278.here hx rfl (hb hby own_d16_416) rfl rfl k) ?_
    show own_Fin _ _ _ _ _ _ (T278.setTop (mkF m 417 #[rv a1, own_i 0, own_i 1, .val (.int (own_at xs (1 : Int32)))] [(.ref a1)]))
    obtain ⟨cq279, cqa279, cqb279⟩ := E1_e271.cell
    obtain ⟨_, _, ⟨T279, L279, k279, n279⟩, -, X279, ⟨Lc279, hQ279, l279, y279, z279⟩, st279⟩ := X278.privateBack hx (y := (⟨"com/example/libxqtype/libxqtype/ExpressionLexer", "numericLiteral", "()V"⟩ : MethodName)) hown (mvT hZ (own_W hw 113 rfl)) (mvT hZ (own_W hw 114 rfl)) (own_selP (y' := (⟨"com/example/libxqtype/libxqtype/ExpressionLexer", "integerValue", "()J"⟩ : MethodName)) (mvT hZ (own_W hw 144 rfl)) rfl (Cond.privateMethod_at (mvP hZ (own_W hw 115 rfl) (args := #[]))) (mvT hZ (own_W hw 114 rfl)) (by decide)) (Cond.privateMethod_at (mvP hZ (own_W hw 115 rfl) (args := #[]))) (mvT hZ (own_W hw 116 rfl)) (by decide) (own_back (W := 0) (own_num l Z a0 hw [] wI wT cT a1 a2 k2 xs (1 : Int32) en h271 n0 zs277 SI O271 ST AT hT E1_e271 Fc_e271 V2_e271 Fk_e271 Fw271 Fe_e271 g_a1 ne12 hk d1 c1 c2 c3 c4) hZ (own_W hw 116 rfl) (own_W hw 38 rfl) (by decide) (by decide)) (g := (mkF m 417 #[rv a1, own_i 0, own_i 1, .val (.int (own_at xs (1 : Int32)))] [(.ref a1)])) rfl (by rw [hml]; rfl) (Steps.refl _) (a := a1) (by rw [eh278]; exact cqa279) cqb279 (argsL := []) (rest := []) (lenOf own_pd1 rfl) rfl (by show 2 * 0 + _ ≤ _; exact Nat.le_of_eq rfl) (hb hby own_d16_417) (fun _ _ => ⟨rfl, eh278, (by decide : 0 + 0 ≤ _), (by decide : 0 + 0 ≤ _)⟩)
    dsimp only [Pt.U, Pt.locs, Pt.cells, Pt.slots] at X279 l279 y279 z279 st279 hQ279
    rw [l279, y279, z279] at X279
    obtain ⟨rfl, N279q, K279, Fc1, Fs1, Fe1⟩ := hQ279
    have N279 := Fr.app N278 N279q
    have O279 := O271.keep K279 (allS g_a1 all0)
    have KK279 : Keep h0 T279.heap [a1] := KK271.trans K279 (allS (Or.inl (List.mem_of_getElem? (i := 0) rfl)) all0)
    have E1_e279 := E1_e271.keep K279
    have V2_e279 := V2_e271.keep K279 (ninS (Ne.symm ne12) nin0)
    refine own_to (fun t k => st279.trans k) ?_
    show own_Fin _ _ _ _ _ _ (T279.setTop (mkF m 420 #[rv a1, own_i 0, own_i 1, .val (.int (own_at xs (1 : Int32)))] []))
    refine own_to (fun t k => XS.goto X279.here hx rfl (pc0 := 420) (pc' := 443) rfl (hb hby own_d16_420) (by decide) (by decide) k) ?_
    show own_Fin _ _ _ _ _ _ (T279.setTop (mkF m 443 #[rv a1, own_i 0, own_i 1, .val (.int (own_at xs (1 : Int32)))] []))
    refine own_retV X279 hx hlk hret (hb hby own_d16_443) (by decide) (by decide) ?_
    exact ⟨rfl, N279, KK279, Fc1, Fs1, Fe1⟩
  ·
    have htw := own_tsw (c := (own_at xs (2 : Int32))) (Or.inl hf)
    show own_Fin _ _ _ _ _ _ (s₁.setTop (mkF m 0 #[rv a1, own_i 0, .unset, .unset] []))
    refine own_to (fun t k => XS.aloadN X0.here hx rfl (hb hby own_d16_0) rfl rfl k) ?_
    refine own_to (fun t k => XS.aconstNull X0.here hx rfl (hb hby own_d16_1) k) ?_
    show own_Fin _ _ _ _ _ _ (s₁.setTop (mkF m 2 #[rv a1, own_i 0, .unset, .unset] [.null, (.ref a1)]))
    obtain ⟨T280, h280, X280, e280, W280, st280⟩ := putF X0 hx hZ hown (host := "") (Or.inl (own_W hw 100 rfl)) Via.refl e0 Fg E1 (Or.inl (own_W hw 101 rfl)) (own_W hw 37 rfl) (ty := (.object "java/lang/String")) (by decide) rfl rfl (g := (mkF m 2 #[rv a1, own_i 0, .unset, .unset] [.null, (.ref a1)])) rfl rfl (hb hby own_d16_2)
    have Fw280 := Fg.same W280
    have N280 := Fr.snoc X280 N0 g_a1
    have O280 := O0.wr W280 g_a1
    have KK280 : Keep h0 h280 [a1] := KK0.wr W280 (Or.inl (List.mem_of_getElem? (i := 0) rfl))
    have E1_e280 := E1.wr W280
    have Fc_e280 := Fc.other W280 (Or.inr (slot_ne (Or.inr (own_W hw 95 rfl)) (Or.inl (own_W hw 101 rfl)) (by decide) (t := (.array .char)) (t' := (.object "java/lang/String")) (by decide) (by decide)))
    have V2_e280 := V2.other W280 (Ne.symm ne12)
    have Fk_e280 := Fk.other W280 (Or.inr (slot_ne (Or.inl (own_W hw 125 rfl)) (Or.inl (own_W hw 101 rfl)) (by decide) (t := (.object "com/example/libxqtype/libxqtype/ExpressionLexer$Kind")) (t' := (.object "java/lang/String")) (by decide) (by decide)))
    have Fs_e280 := Fs.other W280 (Or.inr (slot_ne (Or.inl (own_W hw 109 rfl)) (Or.inl (own_W hw 101 rfl)) (by decide) (t := .int) (t' := (.object "java/lang/String")) (by decide) (by decide)))
    have Fe_e280 := Fe.other W280 (Or.inr (slot_ne (Or.inl (own_W hw 131 rfl)) (Or.inl (own_W hw 101 rfl)) (by decide) (t := .int) (t' := (.object "java/lang/String")) (by decide) (by decide)))
    have Fy_e280 := Fy.other W280 (Or.inr (slot_ne (Or.inl (own_W hw 103 rfl)) (Or.inl (own_W hw 101 rfl)) (by decide) (t := (.object "com/example/libxqtype/libxqtype/ExpressionLexer$Keyword")) (t' := (.object "java/lang/String")) (by decide) (by decide)))
    refine own_to (fun t k => st280 t k) ?_
    show own_Fin _ _ _ _ _ _ (T280.setTop (mkF m 5 #[rv a1, own_i 0, .unset, .unset] []))
    refine own_to (fun t k => XS.aloadN X280.here hx rfl (hb hby own_d16_5) rfl rfl k) ?_
    refine own_to (fun t k => XS.aconstNull X280.here hx rfl (hb hby own_d16_6) k) ?_
    show own_Fin _ _ _ _ _ _ (T280.setTop (mkF m 7 #[rv a1, own_i 0, .unset, .unset] [.null, (.ref a1)]))
    obtain ⟨T281, h281, X281, e281, W281, st281⟩ := putF X280 hx hZ hown (host := "") (Or.inl (own_W hw 102 rfl)) Via.refl e280 Fy_e280 E1_e280 (Or.inl (own_W hw 103 rfl)) (own_W hw 37 rfl) (ty := (.object "com/example/libxqtype/libxqtype/ExpressionLexer$Keyword")) (by decide) rfl rfl (g := (mkF m 7 #[rv a1, own_i 0, .unset, .unset] [.null, (.ref a1)])) rfl rfl (hb hby own_d16_7)
    have Fw281 := Fy_e280.same W281
    have N281 := Fr.snoc X281 N280 g_a1
    have O281 := O280.wr W281 g_a1
    have KK281 : Keep h0 h281 [a1] := KK280.wr W281 (Or.inl (List.mem_of_getElem? (i := 0) rfl))
    have E1_e281 := E1_e280.wr W281
    have Fc_e281 := Fc_e280.other W281 (Or.inr (slot_ne (Or.inr (own_W hw 95 rfl)) (Or.inl (own_W hw 103 rfl)) (by decide) (t := (.array .char)) (t' := (.object "com/example/libxqtype/libxqtype/ExpressionLexer$Keyword")) (by decide) (by decide)))
    have V2_e281 := V2_e280.other W281 (Ne.symm ne12)
    have Fk_e281 := Fk_e280.other W281 (Or.inr (slot_ne (Or.inl (own_W hw 125 rfl)) (Or.inl (own_W hw 103 rfl)) (by decide) (t := (.object "com/example/libxqtype/libxqtype/ExpressionLexer$Kind")) (t' := (.object "com/example/libxqtype/libxqtype/ExpressionLexer$Keyword")) (by decide) (by decide)))
    have Fs_e281 := Fs_e280.other W281 (Or.inr (slot_ne (Or.inl (own_W hw 109 rfl)) (Or.inl (own_W hw 103 rfl)) (by decide) (t := .int) (t' := (.object "com/example/libxqtype/libxqtype/ExpressionLexer$Keyword")) (by decide) (by decide)))
    have Fe_e281 := Fe_e280.other W281 (Or.inr (slot_ne (Or.inl (own_W hw 131 rfl)) (Or.inl (own_W hw 103 rfl)) (by decide) (t := .int) (t' := (.object "com/example/libxqtype/libxqtype/ExpressionLexer$Keyword")) (by decide) (by decide)))
    have Fw280_e281 := Fw280.other W281 (Or.inr (slot_ne (Or.inl (own_W hw 101 rfl)) (Or.inl (own_W hw 103 rfl)) (by decide) (t := (.object "java/lang/String")) (t' := (.object "com/example/libxqtype/libxqtype/ExpressionLexer$Keyword")) (by decide) (by decide)))
    refine own_to (fun t k => st281 t k) ?_
    show own_Fin _ _ _ _ _ _ (T281.setTop (mkF m 10 #[rv a1, own_i 0, .unset, .unset] []))
    refine own_to (fun t k => XS.iloadN X281.here hx rfl (hb hby own_d16_10) rfl k) ?_
    refine own_to (fun t k => XS.istoreN X281.here hx rfl (hb hby own_d16_11) rfl (l' := #[rv a1, own_i 0, own_i 0, .unset]) rfl k) ?_
    show own_Fin _ _ _ _ _ _ (T281.setTop (mkF m 12 #[rv a1, own_i 0, own_i 0, .unset] []))
    refine own_to (fun t k => XS.iloadN X281.here hx rfl (hb hby own_d16_12) rfl k) ?_
    refine own_to (fun t k => XS.aloadN X281.here hx rfl (hb hby own_d16_13) rfl rfl k) ?_
    obtain ⟨T282, X282, e282, st282⟩ := getF X281 hx hZ hown (host := "") (Or.inl (own_W hw 94 rfl)) Via.refl e281 Fc_e281 (g := (mkF m 14 #[rv a1, own_i 0, own_i 0, .unset] [(.ref a1), (.int (0 : Int32))])) rfl rfl (hb hby own_d16_14)
    refine own_to (fun t k => st282 t k) ?_
    show own_Fin _ _ _ _ _ _ (T282.setTop (mkF m 17 #[rv a1, own_i 0, own_i 0, .unset] [(.ref a2), (.int (0 : Int32))]))
    obtain ⟨cl283, Ar283, qa283, Sa283, Na283, Ha283, Ga283⟩ := id V2_e281
    refine own_to (fun t k => X282.arraylength hx (by rw [e282]; exact Ar283.1) (State.isArrayOf_alike hZ.alike Ar283.2.1) (g := (mkF m 17 #[rv a1, own_i 0, own_i 0, .unset] [(.ref a2), (.int (0 : Int32))])) rfl rfl (hb hby own_d16_17) _ k) ?_
    rw [len_of Sa283 Na283]
    show own_Fin _ _ _ _ _ _ (T282.setTop (mkF m 18 #[rv a1, own_i 0, own_i 0, .unset] [(.int (20 : Int32)), (.int (0 : Int32))]))
    refine own_to (fun t k => XS.icmpNo X282.here hx rfl (hb hby own_d16_18) rfl (tlt (by decide)).2.1 k) ?_
    show own_Fin _ _ _ _ _ _ (T282.setTop (mkF m 21 #[rv a1, own_i 0, own_i 0, .unset] []))
    refine own_to (fun t k => XS.aloadN X282.here hx rfl (hb hby own_d16_21) rfl rfl k) ?_
    show own_Fin _ _ _ _ _ _ (T282.setTop (mkF m 22 #[rv a1, own_i 0, own_i 0, .unset] [(.ref a1)]))
    obtain ⟨T284, X284, e284, st284⟩ := getF X282 hx hZ hown (host := "") (Or.inl (own_W hw 94 rfl)) Via.refl e282 Fc_e281 (g := (mkF m 22 #[rv a1, own_i 0, own_i 0, .unset] [(.ref a1)])) rfl rfl (hb hby own_d16_22)
    refine own_to (fun t k => st284 t k) ?_
    show own_Fin _ _ _ _ _ _ (T284.setTop (mkF m 25 #[rv a1, own_i 0, own_i 0, .unset] [(.ref a2)]))
    refine own_to (fun t k => XS.iloadN X284.here hx rfl (hb hby own_d16_25) rfl k) ?_
    obtain ⟨cl285, Ar285, qa285, Sa285, Na285, Ha285, Ga285⟩ := id V2_e281
    have hin286 : ¬ ((0 : Int32) < 0 ∨ cl285.slots.size ≤ ((0 : Int32)).toNatClampNeg) := inb_of Sa285 ⟨(by decide), (by decide)⟩
    refine own_to (fun t k => X284.caload hx (j := (0 : Int32)) (v := (.int (own_at xs (0 : Int32)))) (by rw [e284]; exact Ar285.1) (State.isArrayOf_alike hZ.alike Ar285.2.1) Ar285.2.2 hin286 (Has.at Ha285 hin286 (own_getm xs _)) (g := (mkF m 26 #[rv a1, own_i 0, own_i 0, .unset] [(.int (0 : Int32)), (.ref a2)])) rfl rfl (hb hby own_d16_26) _ k) ?_
    show own_Fin _ _ _ _ _ _ (T284.setTop (mkF m 27 #[rv a1, own_i 0, own_i 0, .unset] [(.int (own_at xs (0 : Int32)))]))
    refine own_to (fun t k => XS.istoreN X284.here hx rfl (hb hby own_d16_27) rfl (l' := #[rv a1, own_i 0, own_i 0, .val (.int (own_at xs (0 : Int32)))]) rfl k) ?_
    show own_Fin _ _ _ _ _ _ (T284.setTop (mkF m 28 #[rv a1, own_i 0, own_i 0, .val (.int (own_at xs (0 : Int32)))] []))
    refine own_to (fun t k => XS.iloadN X284.here hx rfl (hb hby own_d16_28) rfl k) ?_
    obtain ⟨_, _, ⟨T287, L287, k287, n287⟩, -, X287, ⟨Lc287, hQ287, l287, y287, z287⟩, st287⟩ := Jvm.LawKit.callS X284 hx (y := (⟨"com/example/libxqtype/libxqtype/XmlCharacters", "isWhitespace", "(C)Z"⟩ : MethodName)) hown (mvT hZ (own_W hw 104 rfl)) (mvT hZ (own_W hw 105 rfl)) (mvT hZ (own_W hw 106 rfl)) (mvT hZ (own_W hw 107 rfl)) (by decide) (own_back (W := 0) (own_wsr l Z a0 hw [] (own_at xs (0 : Int32)) h281 n0 (Nat.le_trans (Nat.le_trans Z0 (Keep.of_wr W280).1) (Keep.of_wr W281).1)) hZ (own_W hw 107 rfl) (own_W hw 106 rfl) (by decide) (by decide)) (g := (mkF m 29 #[rv a1, own_i 0, own_i 0, .val (.int (own_at xs (0 : Int32)))] [(.int (own_at xs (0 : Int32)))])) rfl (by rw [hml]; rfl) (argsL := [(.int (own_at xs (0 : Int32)))]) (rest := []) (lenOf own_pd11 rfl) rfl (by show 2 * 0 + _ ≤ _; exact Nat.le_of_eq rfl) (hb hby own_d16_29) (fun _ _ => ⟨rfl, e284, (by decide : 0 + 0 ≤ _), (by decide : 0 + 0 ≤ _)⟩)
    dsimp only [Pt.U, Pt.locs, Pt.cells, Pt.slots] at X287 l287 y287 z287 st287 hQ287
    rw [l287, y287, z287] at X287
    obtain ⟨rfl, N287q, eh287⟩ := hQ287
    have N287 := Fr.app N281 N287q
    refine own_to (fun t k => st287 t k) ?_
    show own_Fin _ _ _ _ _ _ (T287.setTop (mkF m 32 #[rv a1, own_i 0, own_i 0, .val (.int (own_at xs (0 : Int32)))] [(.int (own_ws (own_at xs (0 : Int32))))]))
    refine own_to (fun t k => XS.ifNo X287.here hx rfl (hb hby own_d16_32) rfl ((if0 _ _).trans (feq hw0).1) k) ?_
    show own_Fin _ _ _ _ _ _ (T287.setTop (mkF m 35 #[rv a1, own_i 0, own_i 0, .val (.int (own_at xs (0 : Int32)))] []))
    refine own_to (fun t k => XS.iinc X287.here hx rfl (hb hby own_d16_35) rfl (l' := #[rv a1, own_i 0, own_i 1, .val (.int (own_at xs (0 : Int32)))]) rfl k) ?_
    show own_Fin _ _ _ _ _ _ (T287.setTop (mkF m 38 #[rv a1, own_i 0, own_i 1, .val (.int (own_at xs (0 : Int32)))] []))
    refine own_to (fun t k => XS.goto X287.here hx rfl (pc0 := 38) (pc' := 65) rfl (hb hby own_d16_38) (by decide) (by decide) k) ?_
    show own_Fin _ _ _ _ _ _ (T287.setTop (mkF m 65 #[rv a1, own_i 0, own_i 1, .val (.int (own_at xs (0 : Int32)))] []))
    refine own_to (fun t k => XS.goto X287.here hx rfl (pc0 := 65) (pc' := 12) rfl (hb hby own_d16_65) (by decide) (by decide) k) ?_
    show own_Fin _ _ _ _ _ _ (T287.setTop (mkF m 12 #[rv a1, own_i 0, own_i 1, .val (.int (own_at xs (0 : Int32)))] []))
    refine own_to (fun t k => XS.iloadN X287.here hx rfl (hb hby own_d16_12) rfl k) ?_
    refine own_to (fun t k => XS.aloadN X287.here hx rfl (hb hby own_d16_13) rfl rfl k) ?_
    obtain ⟨T288, X288, e288, st288⟩ := getF X287 hx hZ hown (host := "") (Or.inl (own_W hw 94 rfl)) Via.refl eh287 Fc_e281 (g := (mkF m 14 #[rv a1, own_i 0, own_i 1, .val (.int (own_at xs (0 : Int32)))] [(.ref a1), (.int (1 : Int32))])) rfl rfl (hb hby own_d16_14)
    refine own_to (fun t k => st288 t k) ?_
    show own_Fin _ _ _ _ _ _ (T288.setTop (mkF m 17 #[rv a1, own_i 0, own_i 1, .val (.int (own_at xs (0 : Int32)))] [(.ref a2), (.int (1 : Int32))]))
    obtain ⟨cl289, Ar289, qa289, Sa289, Na289, Ha289, Ga289⟩ := id V2_e281
    refine own_to (fun t k => X288.arraylength hx (by rw [e288]; exact Ar289.1) (State.isArrayOf_alike hZ.alike Ar289.2.1) (g := (mkF m 17 #[rv a1, own_i 0, own_i 1, .val (.int (own_at xs (0 : Int32)))] [(.ref a2), (.int (1 : Int32))])) rfl rfl (hb hby own_d16_17) _ k) ?_
    rw [len_of Sa289 Na289]
    show own_Fin _ _ _ _ _ _ (T288.setTop (mkF m 18 #[rv a1, own_i 0, own_i 1, .val (.int (own_at xs (0 : Int32)))] [(.int (20 : Int32)), (.int (1 : Int32))]))
    refine own_to (fun t k => XS.icmpNo X288.here hx rfl (hb hby own_d16_18) rfl (tlt (by decide)).2.1 k) ?_
    show own_Fin _ _ _ _ _ _ (T288.setTop (mkF m 21 #[rv a1, own_i 0, own_i 1, .val (.int (own_at xs (0 : Int32)))] []))
    refine own_to (fun t k => XS.aloadN X288.here hx rfl (hb hby own_d16_21) rfl rfl k) ?_
    show own_Fin _ _ _ _ _ _ (T288.setTop (mkF m 22 #[rv a1, own_i 0, own_i 1, .val (.int (own_at xs (0 : Int32)))] [(.ref a1)]))
    obtain ⟨T290, X290, e290, st290⟩ := getF X288 hx hZ hown (host := "") (Or.inl (own_W hw 94 rfl)) Via.refl e288 Fc_e281 (g := (mkF m 22 #[rv a1, own_i 0, own_i 1, .val (.int (own_at xs (0 : Int32)))] [(.ref a1)])) rfl rfl (hb hby own_d16_22)
    refine own_to (fun t k => st290 t k) ?_
    show own_Fin _ _ _ _ _ _ (T290.setTop (mkF m 25 #[rv a1, own_i 0, own_i 1, .val (.int (own_at xs (0 : Int32)))] [(.ref a2)]))
    refine own_to (fun t k => XS.iloadN X290.here hx rfl (hb hby own_d16_25) rfl k) ?_
    obtain ⟨cl291, Ar291, qa291, Sa291, Na291, Ha291, Ga291⟩ := id V2_e281
    have hin292 : ¬ ((1 : Int32) < 0 ∨ cl291.slots.size ≤ ((1 : Int32)).toNatClampNeg) := inb_of Sa291 ⟨(by decide), (by decide)⟩
    refine own_to (fun t k => X290.caload hx (j := (1 : Int32)) (v := (.int (own_at xs (1 : Int32)))) (by rw [e290]; exact Ar291.1) (State.isArrayOf_alike hZ.alike Ar291.2.1) Ar291.2.2 hin292 (Has.at Ha291 hin292 (own_getm xs _)) (g := (mkF m 26 #[rv a1, own_i 0, own_i 1, .val (.int (own_at xs (0 : Int32)))] [(.int (1 : Int32)), (.ref a2)])) rfl rfl (hb hby own_d16_26) _ k) ?_
    show own_Fin _ _ _ _ _ _ (T290.setTop (mkF m 27 #[rv a1, own_i 0, own_i 1, .val (.int (own_at xs (0 : Int32)))] [(.int (own_at xs (1 : Int32)))]))
    refine own_to (fun t k => XS.istoreN X290.here hx rfl (hb hby own_d16_27) rfl (l' := #[rv a1, own_i 0, own_i 1, .val (.int (own_at xs (1 : Int32)))]) rfl k) ?_
    show own_Fin _ _ _ _ _ _ (T290.setTop (mkF m 28 #[rv a1, own_i 0, own_i 1, .val (.int (own_at xs (1 : Int32)))] []))
    refine own_to (fun t k => XS.iloadN X290.here hx rfl (hb hby own_d16_28) rfl k) ?_
    obtain ⟨_, _, ⟨T293, L293, k293, n293⟩, -, X293, ⟨Lc293, hQ293, l293, y293, z293⟩, st293⟩ := Jvm.LawKit.callS X290 hx (y := (⟨"com/example/libxqtype/libxqtype/XmlCharacters", "isWhitespace", "(C)Z"⟩ : MethodName)) hown (mvT hZ (own_W hw 104 rfl)) (mvT hZ (own_W hw 105 rfl)) (mvT hZ (own_W hw 106 rfl)) (mvT hZ (own_W hw 107 rfl)) (by decide) (own_back (W := 0) (own_wsr l Z a0 hw [] (own_at xs (1 : Int32)) h281 n0 (Nat.le_trans (Nat.le_trans Z0 (Keep.of_wr W280).1) (Keep.of_wr W281).1)) hZ (own_W hw 107 rfl) (own_W hw 106 rfl) (by decide) (by decide)) (g := (mkF m 29 #[rv a1, own_i 0, own_i 1, .val (.int (own_at xs (1 : Int32)))] [(.int (own_at xs (1 : Int32)))])) rfl (by rw [hml]; rfl) (argsL := [(.int (own_at xs (1 : Int32)))]) (rest := []) (lenOf own_pd11 rfl) rfl (by show 2 * 0 + _ ≤ _; exact Nat.le_of_eq rfl) (hb hby own_d16_29) (fun _ _ => ⟨rfl, e290, (by decide : 0 + 0 ≤ _), (by decide : 0 + 0 ≤ _)⟩)
    dsimp only [Pt.U, Pt.locs, Pt.cells, Pt.slots] at X293 l293 y293 z293 st293 hQ293
    rw [l293, y293, z293] at X293
    obtain ⟨rfl, N293q, eh293⟩ := hQ293
    have N293 := Fr.app N287 N293q
    refine own_to (fun t k => st293 t k) ?_
    show own_Fin _ _ _ _ _ _ (T293.setTop (mkF m 32 #[rv a1, own_i 0, own_i 1, .val (.int (own_at xs (1 : Int32)))] [(.int (own_ws (own_at xs (1 : Int32))))]))
    refine own_to (fun t k => XS.ifNo X293.here hx rfl (hb hby own_d16_32) rfl ((if0 _ _).trans (feq hw1).1) k) ?_
    show own_Fin _ _ _ _ _ _ (T293.setTop (mkF m 35 #[rv a1, own_i 0, own_i 1, .val (.int (own_at xs (1 : Int32)))] []))
    refine own_to (fun t k => XS.iinc X293.here hx rfl (hb hby own_d16_35) rfl (l' := #[rv a1, own_i 0, own_i 2, .val (.int (own_at xs (1 : Int32)))]) rfl k) ?_
    show own_Fin _ _ _ _ _ _ (T293.setTop (mkF m 38 #[rv a1, own_i 0, own_i 2, .val (.int (own_at xs (1 : Int32)))] []))
    refine own_to (fun t k => XS.goto X293.here hx rfl (pc0 := 38) (pc' := 65) rfl (hb hby own_d16_38) (by decide) (by decide) k) ?_
    show own_Fin _ _ _ _ _ _ (T293.setTop (mkF m 65 #[rv a1, own_i 0, own_i 2, .val (.int (own_at xs (1 : Int32)))] []))
    refine own_to (fun t k => XS.goto X293.here hx rfl (pc0 := 65) (pc' := 12) rfl (hb hby own_d16_65) (by decide) (by decide) k) ?_
    show own_Fin _ _ _ _ _ _ (T293.setTop (mkF m 12 #[rv a1, own_i 0, own_i 2, .val (.int (own_at xs (1 : Int32)))] []))
    refine own_to (fun t k => XS.iloadN X293.here hx rfl (hb hby own_d16_12) rfl k) ?_
    refine own_to (fun t k => XS.aloadN X293.here hx rfl (hb hby own_d16_13) rfl rfl k) ?_
    obtain ⟨T294, X294, e294, st294⟩ := getF X293 hx hZ hown (host := "") (Or.inl (own_W hw 94 rfl)) Via.refl eh293 Fc_e281 (g := (mkF m 14 #[rv a1, own_i 0, own_i 2, .val (.int (own_at xs (1 : Int32)))] [(.ref a1), (.int (2 : Int32))])) rfl rfl (hb hby own_d16_14)
    refine own_to (fun t k => st294 t k) ?_
    show own_Fin _ _ _ _ _ _ (T294.setTop (mkF m 17 #[rv a1, own_i 0, own_i 2, .val (.int (own_at xs (1 : Int32)))] [(.ref a2), (.int (2 : Int32))]))
    obtain ⟨cl295, Ar295, qa295, Sa295, Na295, Ha295, Ga295⟩ := id V2_e281
    refine own_to (fun t k => X294.arraylength hx (by rw [e294]; exact Ar295.1) (State.isArrayOf_alike hZ.alike Ar295.2.1) (g := (mkF m 17 #[rv a1, own_i 0, own_i 2, .val (.int (own_at xs (1 : Int32)))] [(.ref a2), (.int (2 : Int32))])) rfl rfl (hb hby own_d16_17) _ k) ?_
    rw [len_of Sa295 Na295]
    show own_Fin _ _ _ _ _ _ (T294.setTop (mkF m 18 #[rv a1, own_i 0, own_i 2, .val (.int (own_at xs (1 : Int32)))] [(.int (20 : Int32)), (.int (2 : Int32))]))
    refine own_to (fun t k => XS.icmpNo X294.here hx rfl (hb hby own_d16_18) rfl (tlt (by decide)).2.1 k) ?_
    show own_Fin _ _ _ _ _ _ (T294.setTop (mkF m 21 #[rv a1, own_i 0, own_i 2, .val (.int (own_at xs (1 : Int32)))] []))
    refine own_to (fun t k => XS.aloadN X294.here hx rfl (hb hby own_d16_21) rfl rfl k) ?_
    show own_Fin _ _ _ _ _ _ (T294.setTop (mkF m 22 #[rv a1, own_i 0, own_i 2, .val (.int (own_at xs (1 : Int32)))] [(.ref a1)]))
    obtain ⟨T296, X296, e296, st296⟩ := getF X294 hx hZ hown (host := "") (Or.inl (own_W hw 94 rfl)) Via.refl e294 Fc_e281 (g := (mkF m 22 #[rv a1, own_i 0, own_i 2, .val (.int (own_at xs (1 : Int32)))] [(.ref a1)])) rfl rfl (hb hby own_d16_22)
    refine own_to (fun t k => st296 t k) ?_
    show own_Fin _ _ _ _ _ _ (T296.setTop (mkF m 25 #[rv a1, own_i 0, own_i 2, .val (.int (own_at xs (1 : Int32)))] [(.ref a2)]))
    refine own_to (fun t k => XS.iloadN X296.here hx rfl (hb hby own_d16_25) rfl k) ?_
    obtain ⟨cl297, Ar297, qa297, Sa297, Na297, Ha297, Ga297⟩ := id V2_e281
    have hin298 : ¬ ((2 : Int32) < 0 ∨ cl297.slots.size ≤ ((2 : Int32)).toNatClampNeg) := inb_of Sa297 ⟨(by decide), (by decide)⟩
    refine own_to (fun t k => X296.caload hx (j := (2 : Int32)) (v := (.int (own_at xs (2 : Int32)))) (by rw [e296]; exact Ar297.1) (State.isArrayOf_alike hZ.alike Ar297.2.1) Ar297.2.2 hin298 (Has.at Ha297 hin298 (own_getm xs _)) (g := (mkF m 26 #[rv a1, own_i 0, own_i 2, .val (.int (own_at xs (1 : Int32)))] [(.int (2 : Int32)), (.ref a2)])) rfl rfl (hb hby own_d16_26) _ k) ?_
    show own_Fin _ _ _ _ _ _ (T296.setTop (mkF m 27 #[rv a1, own_i 0, own_i 2, .val (.int (own_at xs (1 : Int32)))] [(.int (own_at xs (2 : Int32)))]))
    refine own_to (fun t k => XS.istoreN X296.here hx rfl (hb hby own_d16_27) rfl (l' := #[rv a1, own_i 0, own_i 2, .val (.int (own_at xs (2 : Int32)))]) rfl k) ?_
    show own_Fin _ _ _ _ _ _ (T296.setTop (mkF m 28 #[rv a1, own_i 0, own_i 2, .val (.int (own_at xs (2 : Int32)))] []))
    refine own_to (fun t k => XS.iloadN X296.here hx rfl (hb hby own_d16_28) rfl k) ?_
    obtain ⟨_, _, ⟨T299, L299, k299, n299⟩, -, X299, ⟨Lc299, hQ299, l299, y299, z299⟩, st299⟩ := Jvm.LawKit.callS X296 hx (y := (⟨"com/example/libxqtype/libxqtype/XmlCharacters", "isWhitespace", "(C)Z"⟩ : MethodName)) hown (mvT hZ (own_W hw 104 rfl)) (mvT hZ (own_W hw 105 rfl)) (mvT hZ (own_W hw 106 rfl)) (mvT hZ (own_W hw 107 rfl)) (by decide) (own_back (W := 0) (own_wsr l Z a0 hw [] (own_at xs (2 : Int32)) h281 n0 (Nat.le_trans (Nat.le_trans Z0 (Keep.of_wr W280).1) (Keep.of_wr W281).1)) hZ (own_W hw 107 rfl) (own_W hw 106 rfl) (by decide) (by decide)) (g := (mkF m 29 #[rv a1, own_i 0, own_i 2, .val (.int (own_at xs (2 : Int32)))] [(.int (own_at xs (2 : Int32)))])) rfl (by rw [hml]; rfl) (argsL := [(.int (own_at xs (2 : Int32)))]) (rest := []) (lenOf own_pd11 rfl) rfl (by show 2 * 0 + _ ≤ _; exact Nat.le_of_eq rfl) (hb hby own_d16_29) (fun _ _ => ⟨rfl, e296, (by decide : 0 + 0 ≤ _), (by decide : 0 + 0 ≤ _)⟩)
    dsimp only [Pt.U, Pt.locs, Pt.cells, Pt.slots] at X299 l299 y299 z299 st299 hQ299
    rw [l299, y299, z299] at X299
    obtain ⟨rfl, N299q, eh299⟩ := hQ299
    have N299 := Fr.app N293 N299q
    refine own_to (fun t k => st299 t k) ?_
    show own_Fin _ _ _ _ _ _ (T299.setTop (mkF m 32 #[rv a1, own_i 0, own_i 2, .val (.int (own_at xs (2 : Int32)))] [(.int (own_ws (own_at xs (2 : Int32))))]))
    refine own_to (fun t k => XS.ifYes X299.here hx rfl (pc0 := 32) (pc' := 41) rfl (hb hby own_d16_32) rfl ((if0 _ _).trans (teq hn).1) (by decide) (by decide) k) ?_
    show own_Fin _ _ _ _ _ _ (T299.setTop (mkF m 41 #[rv a1, own_i 0, own_i 2, .val (.int (own_at xs (2 : Int32)))] []))
    refine own_to (fun t k => XS.iloadN X299.here hx rfl (hb hby own_d16_41) rfl k) ?_
    refine own_to (fun t k => XS.bipush X299.here hx rfl (hb hby own_d16_42) k) ?_
    show own_Fin _ _ _ _ _ _ (T299.setTop (mkF m 44 #[rv a1, own_i 0, own_i 2, .val (.int (own_at xs (2 : Int32)))] [(.int (40 : Int32)), (.int (own_at xs (2 : Int32)))]))
    refine own_to (fun t k => XS.icmpYes X299.here hx rfl (pc0 := 44) (pc' := 68) rfl (hb hby own_d16_44) rfl (feq h40).2 (by decide) (by decide) k) ?_
    show own_Fin _ _ _ _ _ _ (T299.setTop (mkF m 68 #[rv a1, own_i 0, own_i 2, .val (.int (own_at xs (2 : Int32)))] []))
    refine own_to (fun t k => XS.aloadN X299.here hx rfl (hb hby own_d16_68) rfl rfl k) ?_
    refine own_to (fun t k => XS.iloadN X299.here hx rfl (hb hby own_d16_69) rfl k) ?_
    obtain ⟨T300, h300, X300, e300, W300, st300⟩ := putF X299 hx hZ hown (host := "") (Or.inl (own_W hw 108 rfl)) Via.refl eh299 Fs_e281 E1_e281 (Or.inl (own_W hw 109 rfl)) (own_W hw 37 rfl) (ty := .int) (by decide) rfl rfl (g := (mkF m 70 #[rv a1, own_i 0, own_i 2, .val (.int (own_at xs (2 : Int32)))] [(.int (2 : Int32)), (.ref a1)])) rfl rfl (hb hby own_d16_70)
    have Fw300 := Fs_e281.same W300
    have N300 := Fr.snoc X300 N299 g_a1
    have O300 := O281.wr W300 g_a1
    have KK300 : Keep h0 h300 [a1] := KK281.wr W300 (Or.inl (List.mem_of_getElem? (i := 0) rfl))
    have E1_e300 := E1_e281.wr W300
    have Fc_e300 := Fc_e281.other W300 (Or.inr (slot_ne (Or.inr (own_W hw 95 rfl)) (Or.inl (own_W hw 109 rfl)) (by decide) (t := (.array .char)) (t' := .int) (by decide) (by decide)))
    have V2_e300 := V2_e281.other W300 (Ne.symm ne12)
    have Fk_e300 := Fk_e281.other W300 (Or.inr (slot_ne (Or.inl (own_W hw 125 rfl)) (Or.inl (own_W hw 109 rfl)) (by decide) (t := (.object "com/example/libxqtype/libxqtype/ExpressionLexer$Kind")) (t' := .int) (by decide) (by decide)))
    have Fe_e300 := Fe_e281.other W300 (Or.inr (slot_ne (Or.inl (own_W hw 131 rfl)) (Or.inl (own_W hw 109 rfl)) (by decide) (t := .int) (t' := .int) (by decide) (by decide)))
    have Fw280_e300 := Fw280_e281.other W300 (Or.inr (slot_ne (Or.inl (own_W hw 101 rfl)) (Or.inl (own_W hw 109 rfl)) (by decide) (t := (.object "java/lang/String")) (t' := .int) (by decide) (by decide)))
    have Fw281_e300 := Fw281.other W300 (Or.inr (slot_ne (Or.inl (own_W hw 103 rfl)) (Or.inl (own_W hw 109 rfl)) (by decide) (t := (.object "com/example/libxqtype/libxqtype/ExpressionLexer$Keyword")) (t' := .int) (by decide) (by decide)))
    refine own_to (fun t k => st300 t k) ?_
    show own_Fin _ _ _ _ _ _ (T300.setTop (mkF m 73 #[rv a1, own_i 0, own_i 2, .val (.int (own_at xs (2 : Int32)))] []))
    refine own_to (fun t k => XS.iloadN X300.here hx rfl (hb hby own_d16_73) rfl k) ?_
    show own_Fin _ _ _ _ _ _ (T300.setTop (mkF m 74 #[rv a1, own_i 0, own_i 2, .val (.int (own_at xs (2 : Int32)))] [(.int (2 : Int32))]))
    refine own_to (fun t k => XS.aloadN X300.here hx rfl (hb hby own_d16_74) rfl rfl k) ?_
    obtain ⟨T301, X301, e301, st301⟩ := getF X300 hx hZ hown (host := "") (Or.inl (own_W hw 94 rfl)) Via.refl e300 Fc_e300 (g := (mkF m 75 #[rv a1, own_i 0, own_i 2, .val (.int (own_at xs (2 : Int32)))] [(.ref a1), (.int (2 : Int32))])) rfl rfl (hb hby own_d16_75)
    refine own_to (fun t k => st301 t k) ?_
    show own_Fin _ _ _ _ _ _ (T301.setTop (mkF m 78 #[rv a1, own_i 0, own_i 2, .val (.int (own_at xs (2 : Int32)))] [(.ref a2), (.int (2 : Int32))]))
    obtain ⟨cl302, Ar302, qa302, Sa302, Na302, Ha302, Ga302⟩ := id V2_e300
    refine own_to (fun t k => X301.arraylength hx (by rw [e301]; exact Ar302.1) (State.isArrayOf_alike hZ.alike Ar302.2.1) (g := (mkF m 78 #[rv a1, own_i 0, own_i 2, .val (.int (own_at xs (2 : Int32)))] [(.ref a2), (.int (2 : Int32))])) rfl rfl (hb hby own_d16_78) _ k) ?_
    rw [len_of Sa302 Na302]
    show own_Fin _ _ _ _ _ _ (T301.setTop (mkF m 79 #[rv a1, own_i 0, own_i 2, .val (.int (own_at xs (2 : Int32)))] [(.int (20 : Int32)), (.int (2 : Int32))]))
    refine own_to (fun t k => XS.icmpYes X301.here hx rfl (pc0 := 79) (pc' := 95) rfl (hb hby own_d16_79) rfl (feq (by decide)).2 (by decide) (by decide) k) ?_
    show own_Fin _ _ _ _ _ _ (T301.setTop (mkF m 95 #[rv a1, own_i 0, own_i 2, .val (.int (own_at xs (2 : Int32)))] []))
    refine own_to (fun t k => XS.aloadN X301.here hx rfl (hb hby own_d16_95) rfl rfl k) ?_
    obtain ⟨T303, X303, e303, st303⟩ := getF X301 hx hZ hown (host := "") (Or.inl (own_W hw 94 rfl)) Via.refl e301 Fc_e300 (g := (mkF m 96 #[rv a1, own_i 0, own_i 2, .val (.int (own_at xs (2 : Int32)))] [(.ref a1)])) rfl rfl (hb hby own_d16_96)
    refine own_to (fun t k => st303 t k) ?_
    show own_Fin _ _ _ _ _ _ (T303.setTop (mkF m 99 #[rv a1, own_i 0, own_i 2, .val (.int (own_at xs (2 : Int32)))] [(.ref a2)]))
    refine own_to (fun t k => XS.iloadN X303.here hx rfl (hb hby own_d16_99) rfl k) ?_
    show own_Fin _ _ _ _ _ _ (T303.setTop (mkF m 100 #[rv a1, own_i 0, own_i 2, .val (.int (own_at xs (2 : Int32)))] [(.int (2 : Int32)), (.ref a2)]))
    obtain ⟨cl304, Ar304, qa304, Sa304, Na304, Ha304, Ga304⟩ := id V2_e300
    have hin305 : ¬ ((2 : Int32) < 0 ∨ cl304.slots.size ≤ ((2 : Int32)).toNatClampNeg) := inb_of Sa304 ⟨(by decide), (by decide)⟩
    refine own_to (fun t k => X303.caload hx (j := (2 : Int32)) (v := (.int (own_at xs (2 : Int32)))) (by rw [e303]; exact Ar304.1) (State.isArrayOf_alike hZ.alike Ar304.2.1) Ar304.2.2 hin305 (Has.at Ha304 hin305 (own_getm xs _)) (g := (mkF m 100 #[rv a1, own_i 0, own_i 2, .val (.int (own_at xs (2 : Int32)))] [(.int (2 : Int32)), (.ref a2)])) rfl rfl (hb hby own_d16_100) _ k) ?_
    show own_Fin _ _ _ _ _ _ (T303.setTop (mkF m 101 #[rv a1, own_i 0, own_i 2, .val (.int (own_at xs (2 : Int32)))] [(.int (own_at xs (2 : Int32)))]))
    refine own_to (fun t k => XS.istoreN X303.here hx rfl (hb hby own_d16_101) rfl (l' := #[rv a1, own_i 0, own_i 2, .val (.int (own_at xs (2 : Int32)))]) rfl k) ?_
    show own_Fin _ _ _ _ _ _ (T303.setTop (mkF m 102 #[rv a1, own_i 0, own_i 2, .val (.int (own_at xs (2 : Int32)))] []))
    refine own_to (fun t k => XS.iloadN X303.here hx rfl (hb hby own_d16_102) rfl k) ?_
    refine own_to (fun t k => XS.tswIn X303.here hx rfl (pc0 := 103) (pc' := 390) rfl (hb hby own_d16_103) rfl htw.1 htw.2 (by decide) (by decide) k) ?_
    show own_Fin _ _ _ _ _ _ (T303.setTop (mkF m 390 #[rv a1, own_i 0, own_i 2, .val (.int (own_at xs (2 : Int32)))] []))
    refine own_to (fun t k => XS.iloadN X303.here hx rfl (hb hby own_d16_390) rfl k) ?_
    have zs306 := (Nat.le_trans (Nat.le_trans (Nat.le_trans Z0 (Keep.of_wr W280).1) (Keep.of_wr W281).1) (Keep.of_wr W300).1)
    obtain ⟨_, _, ⟨T307, L307, k307, n307⟩, -, X307, ⟨Lc307, hQ307, l307, y307, z307⟩, st307⟩ := Jvm.LawKit.callS X303 hx (y := (⟨"com/example/libxqtype/libxqtype/XmlCharacters", "isDigit", "(C)Z"⟩ : MethodName)) hown (mvT hZ (own_W hw 110 rfl)) (mvT hZ (own_W hw 111 rfl)) (mvT hZ (own_W hw 106 rfl)) (mvT hZ (own_W hw 112 rfl)) (by decide) (own_back (W := 0) (own_dgr l Z a0 hw [] (own_at xs (2 : Int32)) h300 n0 zs306) hZ (own_W hw 112 rfl) (own_W hw 106 rfl) (by decide) (by decide)) (g := (mkF m 391 #[rv a1, own_i 0, own_i 2, .val (.int (own_at xs (2 : Int32)))] [(.int (own_at xs (2 : Int32)))])) rfl (by rw [hml]; rfl) (argsL := [(.int (own_at xs (2 : Int32)))]) (rest := []) (lenOf own_pd11 rfl) rfl (by show 2 * 0 + _ ≤ _; exact Nat.le_of_eq rfl) (hb hby own_d16_391) (fun _ _ => ⟨rfl, e303, (by decide : 0 + 0 ≤ _), (by decide : 0 + 0 ≤ _)⟩)
    dsimp only [Pt.U, Pt.locs, Pt.cells, Pt.slots] at X307 l307 y307 z307 st307 hQ307
    rw [l307, y307, z307] at X307
    obtain ⟨rfl, N307q, eh307⟩ := hQ307
    have N307 := Fr.app N300 N307q
    refine own_to (fun t k => st307 t k) ?_
    show own_Fin _ _ _ _ _ _ (T307.setTop (mkF m 394 #[rv a1, own_i 0, own_i 2, .val (.int (own_at xs (2 : Int32)))] [(.int (own_dg (own_at xs (2 : Int32))))]))
    refine own_to (fun t k => XS.ifYes X307.here hx rfl (pc0 := 394) (pc' := 416) rfl (hb hby own_d16_394) rfl ((if0 _ _).trans (feq hf).2) (by decide) (by decide) k) ?_
    show own_Fin _ _ _ _ _ _ (T307.setTop (mkF m 416 #[rv a1, own_i 0, own_i 2, .val (.int (own_at xs (2 : Int32)))] []))
    refine own_to (fun t k => XS.aloadN X307.here hx rfl (hb hby own_d16_416) rfl rfl k) ?_
    show own_Fin _ _ _ _ _ _ (T307.setTop (mkF m 417 #[rv a1, own_i 0, own_i 2, .val (.int (own_at xs (2 : Int32)))] [(.ref a1)]))
    obtain ⟨cq308, cqa308, cqb308⟩ := E1_e300.cell
    obtain ⟨_, _, ⟨T308, L308, k308, n308⟩, -, X308, ⟨Lc308, hQ308, l308, y308, z308⟩, st308⟩ := X307.privateBack hx (y := (⟨"com/example/libxqtype/libxqtype/ExpressionLexer", "numericLiteral", "()V"⟩ : MethodName)) hown (mvT hZ (own_W hw 113 rfl)) (mvT hZ (own_W hw 114 rfl)) (own_selP (y' := (⟨"com/example/libxqtype/libxqtype/ExpressionLexer", "integerValue", "()J"⟩ : MethodName)) (mvT hZ (own_W hw 144 rfl)) rfl (Cond.privateMethod_at (mvP hZ (own_W hw 115 rfl) (args := #[]))) (mvT hZ (own_W hw 114 rfl)) (by decide)) (Cond.privateMethod_at (mvP hZ (own_W hw 115 rfl) (args := #[]))) (mvT hZ (own_W hw 116 rfl)) (by decide) (own_back (W := 0) (own_num l Z a0 hw [] wI wT cT a1 a2 k2 xs (2 : Int32) en h300 n0 zs306 SI O300 ST AT hT E1_e300 Fc_e300 V2_e300 Fk_e300 Fw300 Fe_e300 g_a1 ne12 hk d1 c1 c2 c3 c4) hZ (own_W hw 116 rfl) (own_W hw 38 rfl) (by decide) (by decide)) (g := (mkF m 417 #[rv a1, own_i 0, own_i 2, .val (.int (own_at xs (2 : Int32)))] [(.ref a1)])) rfl (by rw [hml]; rfl) (Steps.refl _) (a := a1) (by rw [eh307]; exact cqa308) cqb308 (argsL := []) (rest := []) (lenOf own_pd1 rfl) rfl (by show 2 * 0 + _ ≤ _; exact Nat.le_of_eq rfl) (hb hby own_d16_417) (fun _ _ => ⟨rfl, eh307, (by decide : 0 + 0 ≤ _), (by decide : 0 + 0 ≤ _)⟩)
    dsimp only [Pt.U, Pt.locs, Pt.cells, Pt.slots] at X308 l308 y308 z308 st308 hQ308
    rw [l308, y308, z308] at X308
    obtain ⟨rfl, N308q, K308, Fc1, Fs1, Fe1⟩ := hQ308
    have N308 := Fr.app N307 N308q
    have O308 := O300.keep K308 (allS g_a1 all0)
    have KK308 : Keep h0 T308.heap [a1] := KK300.trans K308 (allS (Or.inl (List.mem_of_getElem? (i := 0) rfl)) all0)
    have E1_e308 := E1_e300.keep K308
    have V2_e308 := V2_e300.keep K308 (ninS (Ne.symm ne12) nin0)
    refine own_to (fun t k => st308.trans k) ?_
    show own_Fin _ _ _ _ _ _ (T308.setTop (mkF m 420 #[rv a1, own_i 0, own_i 2, .val (.int (own_at xs (2 : Int32)))] []))
    refine own_to (fun t k => XS.goto X308.here hx rfl (pc0 := 420) (pc' := 443) rfl (hb hby own_d16_420) (by decide) (by decide) k) ?_
    show own_Fin _ _ _ _ _ _ (T308.setTop (mkF m 443 #[rv a1, own_i 0, own_i 2, .val (.int (own_at xs (2 : Int32)))] []))
    refine own_retV X308 hx hlk hret (hb hby own_d16_443) (by decide) (by decide) ?_
    exact ⟨rfl, N308, KK308, Fc1, Fs1, Fe1⟩
theorem own_d11_0 : decode prog_59_method_1_code 0 = .ok (.aload_n 0, 1) := by decide +kernel
theorem own_d11_1 : decode prog_59_method_1_code 1 = .ok (.invokespecial 1, 3) := by decide +kernel
theorem own_d11_4 : decode prog_59_method_1_code 4 = .ok (.aload_n 0, 1) := by decide +kernel
theorem own_d11_5 : decode prog_59_method_1_code 5 = .ok (.ldc 9, 2) := by decide +kernel
theorem own_d11_7 : decode prog_59_method_1_code 7 = .ok (.putfield 10, 3) := by decide +kernel
theorem own_d11_10 : decode prog_59_method_1_code 10 = .ok (.aload_n 0, 1) := by decide +kernel
theorem own_d11_11 : decode prog_59_method_1_code 11 = .ok (.aload_n 1, 1) := by decide +kernel
theorem own_d11_12 : decode prog_59_method_1_code 12 = .ok (.putfield 16, 3) := by decide +kernel
theorem own_d11_15 : decode prog_59_method_1_code 15 = .ok (.aload_n 0, 1) := by decide +kernel
theorem own_d11_16 : decode prog_59_method_1_code 16 = .ok (.aload_n 1, 1) := by decide +kernel
theorem own_d11_17 : decode prog_59_method_1_code 17 = .ok (.invokevirtual 20, 3) := by decide +kernel
theorem own_d11_20 : decode prog_59_method_1_code 20 = .ok (.putfield 26, 3) := by decide +kernel
theorem own_d11_23 : decode prog_59_method_1_code 23 = .ok (.aload_n 0, 1) := by decide +kernel
theorem own_d11_24 : decode prog_59_method_1_code 24 = .ok (.iconst 0, 1) := by decide +kernel
theorem own_d11_25 : decode prog_59_method_1_code 25 = .ok (.invokevirtual 30, 3) := by decide +kernel
theorem own_d11_28 : decode prog_59_method_1_code 28 = .ok (.return_, 1) := by decide +kernel
theorem own_pd12 : parseMethodDescriptor "()[C" = some ⟨[], some (.array .char)⟩ := by decide +kernel
theorem own_pd13 : parseMethodDescriptor "(I)V" = some ⟨[.int], none⟩ := by decide +kernel
theorem own_lxi_ef (m : MethodId) (a1 : Addr) (a5 : Addr) : entryFrame m #[(.ref a1), (.ref a5)] 2 = mkF m 0 #[rv a1, rv a5] [] := by first | (simp [entryFrame, mkF, argsToLocals, Value.category]; done) | rfl
set_option maxRecDepth 65536 in
set_option maxHeartbeats 40000000 in
theorem own_lxi (l : Launch) (Z : State) (a0 : Array Value) (hw : ∀ d ∈ tables_1, d.before a0 Z = true) (ws : List Jvm.Cond) (cs : Int32) (wI : Addr) (wT : Addr) (cT : Cell) (a1 : Addr) (a5 : Addr) (d : Addr) (k3 : ClassId) (x0 : Int32) (x1 : Int32) (x2 : Int32) (x3 : Int32) (x4 : Int32) (x5 : Int32) (x6 : Int32) (x7 : Int32) (x8 : Int32) (x9 : Int32) (x10 : Int32) (x11 : Int32) (x12 : Int32) (x13 : Int32) (x14 : Int32) (x15 : Int32) (x16 : Int32) (x17 : Int32) (x18 : Int32) (x19 : Int32) (st : Int32) (en : Int32) (h0 : Heap) (n0 : Nat) (Z0 : n0 ≤ h0.size) (O0 : Old Z n0 h0) (SS : Sta Z Z.heap "java/lang/String" "COMPACT_STRINGS" "Z" (.int cs)) (hcs : ¬ cs = (0 : Int32)) (SI : Sta Z Z.heap "com/example/libxqtype/libxqtype/ExpressionLexer$Kind" "INTEGER_LITERAL" "Lcom/example/libxqtype/libxqtype/ExpressionLexer$Kind;" (.ref wI)) (ST : Sta Z Z.heap "com/example/libxqtype/libxqtype/XmlCharacters" "ASCII_NAME_CHARACTERS" "[B" (.ref wT)) (AT : Arr Z Z.heap wT cT .byte) (hT : cT.slots.size = 128) (E1 : Exa Z h0 a1 "com/example/libxqtype/libxqtype/ExpressionLexer") (L0 : Fld Z h0 a1 "com/example/libxqtype/libxqtype/ExpressionLexer" "text" "Ljava/lang/String;" .null) (L1 : Fld Z h0 a1 "com/example/libxqtype/libxqtype/ExpressionLexer" "chars" "[C" .null) (L2 : Fld Z h0 a1 "com/example/libxqtype/libxqtype/ExpressionLexer" "kind" "Lcom/example/libxqtype/libxqtype/ExpressionLexer$Kind;" .null) (L3 : Fld Z h0 a1 "com/example/libxqtype/libxqtype/ExpressionLexer" "start" "I" (.int (0 : Int32))) (L4 : Fld Z h0 a1 "com/example/libxqtype/libxqtype/ExpressionLexer" "end" "I" (.int (0 : Int32))) (L5 : Fld Z h0 a1 "com/example/libxqtype/libxqtype/ExpressionLexer" "spelling" "Ljava/lang/String;" .null) (L6 : Fld Z h0 a1 "com/example/libxqtype/libxqtype/ExpressionLexer" "keyword" "Lcom/example/libxqtype/libxqtype/ExpressionLexer$Keyword;" .null) (L7 : Fld Z h0 a1 "com/example/libxqtype/libxqtype/ExpressionLexer" "ampersandSearchedFrom" "I" (.int (0 : Int32))) (g_a1 : n0 ≤ a1) (sE1 : Exa Z h0 a5 "java/lang/String") (sF1 : Fld Z h0 a5 "java/lang/String" "value" "[B" (.ref d)) (sF2 : Fld Z h0 a5 "java/lang/String" "coder" "B" (.int (0 : Int32))) (sV2 : Arv Z h0 d k3 .byte (20 : Int32) [(.int (x0.toInt8.toInt32)), (.int (x1.toInt8.toInt32)), (.int (x2.toInt8.toInt32)), (.int (x3.toInt8.toInt32)), (.int (x4.toInt8.toInt32)), (.int (x5.toInt8.toInt32)), (.int (x6.toInt8.toInt32)), (.int (x7.toInt8.toInt32)), (.int (x8.toInt8.toInt32)), (.int (x9.toInt8.toInt32)), (.int (x10.toInt8.toInt32)), (.int (x11.toInt8.toInt32)), (.int (x12.toInt8.toInt32)), (.int (x13.toInt8.toInt32)), (.int (x14.toInt8.toInt32)), (.int (x15.toInt8.toInt32)), (.int (x16.toInt8.toInt32)), (.int (x17.toInt8.toInt32)), (.int (x18.toInt8.toInt32)), (.int (x19.toInt8.toInt32))] (.int (0 : Int32))) (ne15 : a1 ≠ a5) (ne1d : a1 ≠ d) (hs : st = (0 : Int32) ∨ st = (1 : Int32) ∧ ¬ own_ws (own_at ([x0, x1, x2, x3, x4, x5, x6, x7, x8, x9, x10, x11, x12, x13, x14, x15, x16, x17, x18, x19] : List Int32) (0 : Int32)) = (0 : Int32) ∨ st = (2 : Int32) ∧ ¬ own_ws (own_at ([x0, x1, x2, x3, x4, x5, x6, x7, x8, x9, x10, x11, x12, x13, x14, x15, x16, x17, x18, x19] : List Int32) (0 : Int32)) = (0 : Int32) ∧ ¬ own_ws (own_at ([x0, x1, x2, x3, x4, x5, x6, x7, x8, x9, x10, x11, x12, x13, x14, x15, x16, x17, x18, x19] : List Int32) (1 : Int32)) = (0 : Int32)) (hn : own_ws (own_at ([x0, x1, x2, x3, x4, x5, x6, x7, x8, x9, x10, x11, x12, x13, x14, x15, x16, x17, x18, x19] : List Int32) st) = (0 : Int32)) (h40 : ¬ own_at ([x0, x1, x2, x3, x4, x5, x6, x7, x8, x9, x10, x11, x12, x13, x14, x15, x16, x17, x18, x19] : List Int32) st = (40 : Int32)) (hf : ¬ own_dg (own_at ([x0, x1, x2, x3, x4, x5, x6, x7, x8, x9, x10, x11, x12, x13, x14, x15, x16, x17, x18, x19] : List Int32) st) = (0 : Int32)) (hk : ∀ t : Int32, ¬ t < 0 → t < (20 : Int32) → ¬ own_at ([x0, x1, x2, x3, x4, x5, x6, x7, x8, x9, x10, x11, x12, x13, x14, x15, x16, x17, x18, x19] : List Int32) t < 0 ∧ ¬ (255 : Int32) < own_at ([x0, x1, x2, x3, x4, x5, x6, x7, x8, x9, x10, x11, x12, x13, x14, x15, x16, x17, x18, x19] : List Int32) t) (d1 : own_dig ([x0, x1, x2, x3, x4, x5, x6, x7, x8, x9, x10, x11, x12, x13, x14, x15, x16, x17, x18, x19] : List Int32) st en) (c1 : ¬ own_ca ([x0, x1, x2, x3, x4, x5, x6, x7, x8, x9, x10, x11, x12, x13, x14, x15, x16, x17, x18, x19] : List Int32) en = (46 : Int32)) (c2 : ¬ own_ca ([x0, x1, x2, x3, x4, x5, x6, x7, x8, x9, x10, x11, x12, x13, x14, x15, x16, x17, x18, x19] : List Int32) en = (101 : Int32)) (c3 : ¬ own_ca ([x0, x1, x2, x3, x4, x5, x6, x7, x8, x9, x10, x11, x12, x13, x14, x15, x16, x17, x18, x19] : List Int32) en = (69 : Int32)) (c4 : en < (20 : Int32) → own_at ([x0, x1, x2, x3, x4, x5, x6, x7, x8, x9, x10, x11, x12, x13, x14, x15, x16, x17, x18, x19] : List Int32) en < (128 : Int32) ∧ ∃ b, cT.slots[(own_at ([x0, x1, x2, x3, x4, x5, x6, x7, x8, x9, x10, x11, x12, x13, x14, x15, x16, x17, x18, x19] : List Int32) en).toNatClampNeg]? = some (.int b) ∧ ¬ b = (2 : Int32)) (hx0 : ¬ (255 : Int32) < x0) (hx1 : ¬ (255 : Int32) < x1) (hx2 : ¬ (255 : Int32) < x2) (hx3 : ¬ (255 : Int32) < x3) (hx4 : ¬ (255 : Int32) < x4) (hx5 : ¬ (255 : Int32) < x5) (hx6 : ¬ (255 : Int32) < x6) (hx7 : ¬ (255 : Int32) < x7) (hx8 : ¬ (255 : Int32) < x8) (hx9 : ¬ (255 : Int32) < x9) (hx10 : ¬ (255 : Int32) < x10) (hx11 : ¬ (255 : Int32) < x11) (hx12 : ¬ (255 : Int32) < x12) (hx13 : ¬ (255 : Int32) < x13) (hx14 : ¬ (255 : Int32) < x14) (hx15 : ¬ (255 : Int32) < x15) (hx16 : ¬ (255 : Int32) < x16) (hx17 : ¬ (255 : Int32) < x17) (hx18 : ¬ (255 : Int32) < x18) (hx19 : ¬ (255 : Int32) < x19) (hl0 : ¬ x0 < 0) (hl1 : ¬ x1 < 0) (hl2 : ¬ x2 < 0) (hl3 : ¬ x3 < 0) (hl4 : ¬ x4 < 0) (hl5 : ¬ x5 < 0) (hl6 : ¬ x6 < 0) (hl7 : ¬ x7 < 0) (hl8 : ¬ x8 < 0) (hl9 : ¬ x9 < 0) (hl10 : ¬ x10 < 0) (hl11 : ¬ x11 < 0) (hl12 : ¬ x12 < 0) (hl13 : ¬ x13 < 0) (hl14 : ¬ x14 < 0) (hl15 : ¬ x15 < 0) (hl16 : ¬ x16 < 0) (hl17 : ¬ x17 < 0) (hl18 : ¬ x18 < 0) (hl19 : ¬ x19 < 0) :
    own_Met l Z (⟨"com/example/libxqtype/libxqtype/ExpressionLexer", "<init>", "(Ljava/lang/String;)V"⟩ : MethodName) prog_59_method_1_code 2 none ws ({ frames := 4, cells := 1, slots := 20, locals := 96 } : Room) #[(.ref a1), (.ref a5)] h0 (fun v h L => ∃ t kt, v = none ∧ Fr n0 L ∧ Keep h0 h [a1] ∧ n0 ≤ t ∧ h0.size ≤ t ∧ Fld Z h a1 "com/example/libxqtype/libxqtype/ExpressionLexer" "chars" "[C" (.ref t) ∧ Fld Z h a1 "com/example/libxqtype/libxqtype/ExpressionLexer" "start" "I" (.int st) ∧ Fld Z h a1 "com/example/libxqtype/libxqtype/ExpressionLexer" "end" "I" (.int en) ∧ Arv Z h t kt .char (20 : Int32) (([x0, x1, x2, x3, x4, x5, x6, x7, x8, x9, x10, x11, x12, x13, x14, x15, x16, x17, x18, x19] : List Int32).map Value.int) (.int (0 : Int32))) := by
  refine own_enter (plainFor_of_name own_pn4) ?_
  intro p e s m below meth c s₁ X0 hx hZ hby hml hown hnm hret hlk e0
  have N0 := Fr.nil n0
  rw [own_lxi_ef m a1 a5]
  have KK0 : Keep h0 h0 [a1] := Keep.refl _ _
  show own_Fin _ _ _ _ _ _ (s₁.setTop (mkF m 0 #[rv a1, rv a5] []))
  refine own_to (fun t k => XS.aloadN X0.here hx rfl (hb hby own_d11_0) rfl rfl k) ?_
  obtain ⟨T309, X309, e309, st309⟩ := initO X0 hx hZ hown (own_W hw 71 rfl) (own_W hw 50 rfl) (own_W hw 51 rfl) e0 (g := (mkF m 1 #[rv a1, rv a5] [(.ref a1)])) rfl (by rw [hml]; rfl) rfl (hb hby own_d11_1) (by decide) (W := 0) (by show 2 * 0 + _ ≤ _; exact Nat.le_of_eq rfl) (by decide)
  refine own_to (fun t k => st309 t k) ?_
  show own_Fin _ _ _ _ _ _ (T309.setTop (mkF m 4 #[rv a1, rv a5] []))
  refine own_to (fun t k => XS.aloadN X309.here hx rfl (hb hby own_d11_4) rfl rfl k) ?_
  refine own_to (fun t k => X309.ldcInt hx hown (mvT hZ (own_W hw 72 rfl)) (g := (mkF m 5 #[rv a1, rv a5] [(.ref a1)])) rfl (hb hby own_d11_5) _ k) ?_
  show own_Fin _ _ _ _ _ _ (T309.setTop (mkF m 7 #[rv a1, rv a5] [(.int (2147483647 : Int32)), (.ref a1)]))
  obtain ⟨T310, h310, X310, e310, W310, st310⟩ := putF X309 hx hZ hown (host := "") (Or.inl (own_W hw 73 rfl)) Via.refl e309 L7 E1 (Or.inl (own_W hw 74 rfl)) (own_W hw 37 rfl) (ty := .int) (by decide) rfl rfl (g := (mkF m 7 #[rv a1, rv a5] [(.int (2147483647 : Int32)), (.ref a1)])) rfl rfl (hb hby own_d11_7)
  have Fw310 := L7.same W310
  have N310 := Fr.snoc X310 N0 g_a1
  have O310 := O0.wr W310 g_a1
  have KK310 : Keep h0 h310 [a1] := KK0.wr W310 (Or.inl (List.mem_of_getElem? (i := 0) rfl))
  have E1_e310 := E1.wr W310
  have L0_e310 := L0.other W310 (Or.inr (slot_ne (Or.inr (own_W hw 76 rfl)) (Or.inl (own_W hw 74 rfl)) (by decide) (t := (.object "java/lang/String")) (t' := .int) (by decide) (by decide)))
  have L1_e310 := L1.other W310 (Or.inr (slot_ne (Or.inr (own_W hw 95 rfl)) (Or.inl (own_W hw 74 rfl)) (by decide) (t := (.array .char)) (t' := .int) (by decide) (by decide)))
  have L2_e310 := L2.other W310 (Or.inr (slot_ne (Or.inl (own_W hw 125 rfl)) (Or.inl (own_W hw 74 rfl)) (by decide) (t := (.object "com/example/libxqtype/libxqtype/ExpressionLexer$Kind")) (t' := .int) (by decide) (by decide)))
  have L3_e310 := L3.other W310 (Or.inr (slot_ne (Or.inl (own_W hw 109 rfl)) (Or.inl (own_W hw 74 rfl)) (by decide) (t := .int) (t' := .int) (by decide) (by decide)))
  have L4_e310 := L4.other W310 (Or.inr (slot_ne (Or.inl (own_W hw 131 rfl)) (Or.inl (own_W hw 74 rfl)) (by decide) (t := .int) (t' := .int) (by decide) (by decide)))
  have L5_e310 := L5.other W310 (Or.inr (slot_ne (Or.inl (own_W hw 101 rfl)) (Or.inl (own_W hw 74 rfl)) (by decide) (t := (.object "java/lang/String")) (t' := .int) (by decide) (by decide)))
  have L6_e310 := L6.other W310 (Or.inr (slot_ne (Or.inl (own_W hw 103 rfl)) (Or.inl (own_W hw 74 rfl)) (by decide) (t := (.object "com/example/libxqtype/libxqtype/ExpressionLexer$Keyword")) (t' := .int) (by decide) (by decide)))
  have sE1_e310 := sE1.wr W310
  have sF1_e310 := sF1.other W310 (Or.inl (Ne.symm ne15))
  have sF2_e310 := sF2.other W310 (Or.inl (Ne.symm ne15))
  have sV2_e310 := sV2.other W310 (Ne.symm ne1d)
  refine own_to (fun t k => st310 t k) ?_
  show own_Fin _ _ _ _ _ _ (T310.setTop (mkF m 10 #[rv a1, rv a5] []))
  refine own_to (fun t k => XS.aloadN X310.here hx rfl (hb hby own_d11_10) rfl rfl k) ?_
  show own_Fin _ _ _ _ _ _ (T310.setTop (mkF m 11 #[rv a1, rv a5] [(.ref a1)]))
  refine own_to (fun t k => XS.aloadN X310.here hx rfl (hb hby own_d11_11) rfl rfl k) ?_
  obtain ⟨T311, h311, X311, e311, W311, st311⟩ := putF X310 hx hZ hown (host := "") (Or.inl (own_W hw 75 rfl)) Via.refl e310 L0_e310 E1_e310 (Or.inr ⟨(own_W hw 76 rfl), rfl, hnm⟩) (own_W hw 37 rfl) (ty := (.object "java/lang/String")) (by decide) rfl rfl (g := (mkF m 12 #[rv a1, rv a5] [(.ref a5), (.ref a1)])) rfl rfl (hb hby own_d11_12)
  have Fw311 := L0_e310.same W311
  have N311 := Fr.snoc X311 N310 g_a1
  have O311 := O310.wr W311 g_a1
  have KK311 : Keep h0 h311 [a1] := KK310.wr W311 (Or.inl (List.mem_of_getElem? (i := 0) rfl))
  have E1_e311 := E1_e310.wr W311
  have L1_e311 := L1_e310.other W311 (Or.inr (slot_ne (Or.inr (own_W hw 95 rfl)) (Or.inr (own_W hw 76 rfl)) (by decide) (t := (.array .char)) (t' := (.object "java/lang/String")) (by decide) (by decide)))
  have L2_e311 := L2_e310.other W311 (Or.inr (slot_ne (Or.inl (own_W hw 125 rfl)) (Or.inr (own_W hw 76 rfl)) (by decide) (t := (.object "com/example/libxqtype/libxqtype/ExpressionLexer$Kind")) (t' := (.object "java/lang/String")) (by decide) (by decide)))
  have L3_e311 := L3_e310.other W311 (Or.inr (slot_ne (Or.inl (own_W hw 109 rfl)) (Or.inr (own_W hw 76 rfl)) (by decide) (t := .int) (t' := (.object "java/lang/String")) (by decide) (by decide)))
  have L4_e311 := L4_e310.other W311 (Or.inr (slot_ne (Or.inl (own_W hw 131 rfl)) (Or.inr (own_W hw 76 rfl)) (by decide) (t := .int) (t' := (.object "java/lang/String")) (by decide) (by decide)))
  have L5_e311 := L5_e310.other W311 (Or.inr (slot_ne (Or.inl (own_W hw 101 rfl)) (Or.inr (own_W hw 76 rfl)) (by decide) (t := (.object "java/lang/String")) (t' := (.object "java/lang/String")) (by decide) (by decide)))
  have L6_e311 := L6_e310.other W311 (Or.inr (slot_ne (Or.inl (own_W hw 103 rfl)) (Or.inr (own_W hw 76 rfl)) (by decide) (t := (.object "com/example/libxqtype/libxqtype/ExpressionLexer$Keyword")) (t' := (.object "java/lang/String")) (by decide) (by decide)))
  have Fw310_e311 := Fw310.other W311 (Or.inr (slot_ne (Or.inl (own_W hw 74 rfl)) (Or.inr (own_W hw 76 rfl)) (by decide) (t := .int) (t' := (.object "java/lang/String")) (by decide) (by decide)))
  have sE1_e311 := sE1_e310.wr W311
  have sF1_e311 := sF1_e310.other W311 (Or.inl (Ne.symm ne15))
  have sF2_e311 := sF2_e310.other W311 (Or.inl (Ne.symm ne15))
  have sV2_e311 := sV2_e310.other W311 (Ne.symm ne1d)
  refine own_to (fun t k => st311 t k) ?_
  show own_Fin _ _ _ _ _ _ (T311.setTop (mkF m 15 #[rv a1, rv a5] []))
  refine own_to (fun t k => XS.aloadN X311.here hx rfl (hb hby own_d11_15) rfl rfl k) ?_
  refine own_to (fun t k => XS.aloadN X311.here hx rfl (hb hby own_d11_16) rfl rfl k) ?_
  show own_Fin _ _ _ _ _ _ (T311.setTop (mkF m 17 #[rv a1, rv a5] [(.ref a5), (.ref a1)]))
  obtain ⟨cq312, kq312, q312a, q312b, q312c⟩ := isOf hZ e311 sE1_e311
  obtain ⟨_, _, ⟨T312, L312, k312, n312⟩, -, X312, ⟨Lc312, hQ312, l312, y312, z312⟩, st312⟩ := X311.virtualBack hx (y := (⟨"java/lang/String", "toCharArray", "()[C"⟩ : MethodName)) (z := (⟨"java/lang/String", "toCharArray", "()[C"⟩ : MethodName)) hown (mvT hZ (own_W hw 77 rfl)) (mvT hZ (own_W hw 78 rfl)) (notFace_of_selects (args := #[]) (mvT hZ (own_W hw 80 rfl))) (mvT hZ (own_W hw 80 rfl)) (mvT hZ (own_W hw 79 rfl)) (by decide) (own_back (W := 1) (own_tca l Z a0 hw [] cs a5 d k3 x0 x1 x2 x3 x4 x5 x6 x7 x8 x9 x10 x11 x12 x13 x14 x15 x16 x17 x18 x19 h311 n0 (Nat.le_trans (Nat.le_trans Z0 (Keep.of_wr W310).1) (Keep.of_wr W311).1) O311 SS hcs sE1_e311 sF1_e311 sF2_e311 sV2_e311 hx0 hx1 hx2 hx3 hx4 hx5 hx6 hx7 hx8 hx9 hx10 hx11 hx12 hx13 hx14 hx15 hx16 hx17 hx18 hx19 hl0 hl1 hl2 hl3 hl4 hl5 hl6 hl7 hl8 hl9 hl10 hl11 hl12 hl13 hl14 hl15 hl16 hl17 hl18 hl19) hZ (own_W hw 81 rfl) (own_W hw 41 rfl) (by decide) (by decide)) q312a q312c (g := (mkF m 17 #[rv a1, rv a5] [(.ref a5), (.ref a1)])) rfl (by rw [hml]; rfl) (Steps.refl _) (argsL := []) (rest := [(.ref a1)]) (lenOf own_pd12 rfl) rfl (by show 2 * 0 + _ ≤ _; exact Nat.le_of_eq rfl) (hb hby own_d11_17) (fun _ _ => ⟨rfl, e311, (by decide : 0 + 1 ≤ _), (by decide : 0 + 20 ≤ _)⟩)
  dsimp only [Pt.U, Pt.locs, Pt.cells, Pt.slots] at X312 l312 y312 z312 st312 hQ312
  rw [l312, y312, z312] at X312
  obtain ⟨t, kt, rfl, N312q, K312, g_t, szt, V_t, E_t⟩ := hQ312
  have N312 := Fr.app N311 N312q
  have ne_a1_t : a1 ≠ t := Nat.ne_of_lt (Nat.lt_of_lt_of_le E1_e311.lt szt)
  have ne_a5_t : a5 ≠ t := Nat.ne_of_lt (Nat.lt_of_lt_of_le sE1_e311.lt szt)
  have ne_d_t : d ≠ t := Nat.ne_of_lt (Nat.lt_of_lt_of_le sV2_e311.lt szt)
  have sz_t : h0.size ≤ t := Nat.le_trans KK311.1 szt
  have O312 := O311.keep K312 all0
  have KK312 : Keep h0 T312.heap [a1] := KK311.trans K312 all0
  have E1_e312 := E1_e311.keep K312
  have Fw311_e312 := Fw311.keep K312 nin0
  have L1_e312 := L1_e311.keep K312 nin0
  have L2_e312 := L2_e311.keep K312 nin0
  have L3_e312 := L3_e311.keep K312 nin0
  have L4_e312 := L4_e311.keep K312 nin0
  have L5_e312 := L5_e311.keep K312 nin0
  have L6_e312 := L6_e311.keep K312 nin0
  have Fw310_e312 := Fw310_e311.keep K312 nin0
  have sE1_e312 := sE1_e311.keep K312
  have sF1_e312 := sF1_e311.keep K312 nin0
  have sF2_e312 := sF2_e311.keep K312 nin0
  have sV2_e312 := sV2_e311.keep K312 nin0
  refine own_to (fun t k => st312.trans k) ?_
  show own_Fin _ _ _ _ _ _ (T312.setTop (mkF m 20 #[rv a1, rv a5] [(.ref t), (.ref a1)]))
  obtain ⟨T313, h313, X313, e313, W313, st313⟩ := putF X312 hx hZ hown (host := "") (Or.inl (own_W hw 94 rfl)) Via.refl rfl L1_e312 E1_e312 (Or.inr ⟨(own_W hw 95 rfl), rfl, hnm⟩) (own_W hw 37 rfl) (ty := (.array .char)) (by decide) rfl rfl (g := (mkF m 20 #[rv a1, rv a5] [(.ref t), (.ref a1)])) rfl rfl (hb hby own_d11_20)
  have Fw313 := L1_e312.same W313
  have N313 := Fr.snoc X313 N312 g_a1
  have O313 := O312.wr W313 g_a1
  have KK313 : Keep h0 h313 [a1] := KK312.wr W313 (Or.inl (List.mem_of_getElem? (i := 0) rfl))
  have E1_e313 := E1_e312.wr W313
  have Fw311_e313 := Fw311_e312.other W313 (Or.inr (slot_ne (Or.inr (own_W hw 76 rfl)) (Or.inr (own_W hw 95 rfl)) (by decide) (t := (.object "java/lang/String")) (t' := (.array .char)) (by decide) (by decide)))
  have L2_e313 := L2_e312.other W313 (Or.inr (slot_ne (Or.inl (own_W hw 125 rfl)) (Or.inr (own_W hw 95 rfl)) (by decide) (t := (.object "com/example/libxqtype/libxqtype/ExpressionLexer$Kind")) (t' := (.array .char)) (by decide) (by decide)))
  have L3_e313 := L3_e312.other W313 (Or.inr (slot_ne (Or.inl (own_W hw 109 rfl)) (Or.inr (own_W hw 95 rfl)) (by decide) (t := .int) (t' := (.array .char)) (by decide) (by decide)))
  have L4_e313 := L4_e312.other W313 (Or.inr (slot_ne (Or.inl (own_W hw 131 rfl)) (Or.inr (own_W hw 95 rfl)) (by decide) (t := .int) (t' := (.array .char)) (by decide) (by decide)))
  have L5_e313 := L5_e312.other W313 (Or.inr (slot_ne (Or.inl (own_W hw 101 rfl)) (Or.inr (own_W hw 95 rfl)) (by decide) (t := (.object "java/lang/String")) (t' := (.array .char)) (by decide) (by decide)))
  have L6_e313 := L6_e312.other W313 (Or.inr (slot_ne (Or.inl (own_W hw 103 rfl)) (Or.inr (own_W hw 95 rfl)) (by decide) (t := (.object "com/example/libxqtype/libxqtype/ExpressionLexer$Keyword")) (t' := (.array .char)) (by decide) (by decide)))
  have Fw310_e313 := Fw310_e312.other W313 (Or.inr (slot_ne (Or.inl (own_W hw 74 rfl)) (Or.inr (own_W hw 95 rfl)) (by decide) (t := .int) (t' := (.array .char)) (by decide) (by decide)))
  have sE1_e313 := sE1_e312.wr W313
  have sF1_e313 := sF1_e312.other W313 (Or.inl (Ne.symm ne15))
  have sF2_e313 := sF2_e312.other W313 (Or.inl (Ne.symm ne15))
  have sV2_e313 := sV2_e312.other W313 (Ne.symm ne1d)
  have V_t_e313 := V_t.other W313 (Ne.symm ne_a1_t)
  have E_t_e313 := E_t.wr W313
  have zs314 := (Nat.le_trans (Nat.le_trans (Nat.le_trans Z0 (Keep.of_wr W310).1) (Keep.of_wr W311).1) K312.1)
  refine own_to (fun t k => st313 t k) ?_
  show own_Fin _ _ _ _ _ _ (T313.setTop (mkF m 23 #[rv a1, rv a5] []))
  refine own_to (fun t k => XS.aloadN X313.here hx rfl (hb hby own_d11_23) rfl rfl k) ?_
  refine own_to (fun t k => XS.iconst X313.here hx rfl (hb hby own_d11_24) k) ?_
  have Vm315 : Arv Z h313 t kt .char (20 : Int32) (([x0, x1, x2, x3, x4, x5, x6, x7, x8, x9, x10, x11, x12, x13, x14, x15, x16, x17, x18, x19] : List Int32).map Value.int) (.int (0 : Int32)) := V_t_e313
  obtain ⟨cq316, cqa316, cqb316⟩ := E1_e313.cell
  obtain ⟨_, _, ⟨T316, L316, k316, n316⟩, -, X316, ⟨Lc316, hQ316, l316, y316, z316⟩, st316⟩ := X313.privateBack hx (y := (⟨"com/example/libxqtype/libxqtype/ExpressionLexer", "scan", "(I)V"⟩ : MethodName)) hown (mvT hZ (own_W hw 96 rfl)) (mvT hZ (own_W hw 97 rfl)) (own_selP (y' := (⟨"com/example/libxqtype/libxqtype/ExpressionLexer", "integerValue", "()J"⟩ : MethodName)) (mvT hZ (own_W hw 144 rfl)) rfl (Cond.privateMethod_at (mvP hZ (own_W hw 98 rfl) (args := #[]))) (mvT hZ (own_W hw 97 rfl)) (by decide)) (Cond.privateMethod_at (mvP hZ (own_W hw 98 rfl) (args := #[]))) (mvT hZ (own_W hw 99 rfl)) (by decide) (own_back (W := 0) (own_scan l Z a0 hw [] wI wT cT a1 t kt ([x0, x1, x2, x3, x4, x5, x6, x7, x8, x9, x10, x11, x12, x13, x14, x15, x16, x17, x18, x19] : List Int32) st en h313 n0 (Nat.le_trans zs314 (Keep.of_wr W313).1) SI O313 ST AT hT E1_e313 Fw313 Vm315 L2_e313 L3_e313 L4_e313 L5_e313 L6_e313 g_a1 ne_a1_t hs hn h40 hf hk d1 c1 c2 c3 c4) hZ (own_W hw 99 rfl) (own_W hw 38 rfl) (by decide) (by decide)) (g := (mkF m 25 #[rv a1, rv a5] [(.int (0 : Int32)), (.ref a1)])) rfl (by rw [hml]; rfl) (Steps.refl _) (a := a1) (by rw [e313]; exact cqa316) cqb316 (argsL := [(.int (0 : Int32))]) (rest := []) (lenOf own_pd13 rfl) rfl (by show 2 * 0 + _ ≤ _; exact Nat.le_of_eq rfl) (hb hby own_d11_25) (fun _ _ => ⟨rfl, e313, (by decide : 1 + 0 ≤ _), (by decide : 20 + 0 ≤ _)⟩)
  dsimp only [Pt.U, Pt.locs, Pt.cells, Pt.slots] at X316 l316 y316 z316 st316 hQ316
  rw [l316, y316, z316] at X316
  obtain ⟨rfl, N316q, K316, Fc1, Fs1, Fe1⟩ := hQ316
  have N316 := Fr.app N313 N316q
  have O316 := O313.keep K316 (allS g_a1 all0)
  have KK316 : Keep h0 T316.heap [a1] := KK313.trans K316 (allS (Or.inl (List.mem_of_getElem? (i := 0) rfl)) all0)
  have E1_e316 := E1_e313.keep K316
  have sE1_e316 := sE1_e313.keep K316
  have sF1_e316 := sF1_e313.keep K316 (ninS (Ne.symm ne15) nin0)
  have sF2_e316 := sF2_e313.keep K316 (ninS (Ne.symm ne15) nin0)
  have sV2_e316 := sV2_e313.keep K316 (ninS (Ne.symm ne1d) nin0)
  have Vm315_e316 := Vm315.keep K316 (ninS (Ne.symm ne_a1_t) nin0)
  have E_t_e316 := E_t_e313.keep K316
  refine own_to (fun t k => st316.trans k) ?_
  show own_Fin _ _ _ _ _ _ (T316.setTop (mkF m 28 #[rv a1, rv a5] []))
  refine own_retV X316 hx hlk hret (hb hby own_d11_28) (by decide) (by decide) ?_
  exact ⟨t, kt, rfl, N316, KK316, g_t, sz_t, Fc1, Fs1, Fe1, Vm315_e316⟩
def own_iv (xs : List Int32) : Nat → Int32 → Int64 → Int64
  | 0, _, v => v
  | r + 1, j, v => own_iv xs r (j + (1 : Int32)) (v * (10 : Int64) + (own_at xs j - (48 : Int32)).toInt64)
theorem own_rem32 {x y : Int32} (hx : 0 ≤ x.toInt) (hy : 0 < y.toInt) : (x - ((x / y) * y)).toInt = x.toInt % y.toInt := by
  have e1 : (x / y).toInt = x.toInt / y.toInt := by rw [Jvm.Kit.i32_div (by omega), Int.tdiv_eq_ediv_of_nonneg hx]
  have hd : x.toInt % y.toInt = x.toInt - y.toInt * (x.toInt / y.toInt) := Int.emod_def _ _
  have m0 := Int.emod_nonneg x.toInt (show y.toInt ≠ 0 by omega)
  have m1 := Int.emod_lt_of_pos x.toInt hy
  have q0 : 0 ≤ y.toInt * (x.toInt / y.toInt) := Int.mul_nonneg (by omega) (Int.ediv_nonneg hx (by omega))
  have b := x.toInt_lt
  rw [Int.mul_comm] at hd q0
  have e2 : ((x / y) * y).toInt = x.toInt / y.toInt * y.toInt := by
    rw [Jvm.Kit.i32_mul (by rw [e1]; omega) (by rw [e1]; omega), e1]
  rw [Jvm.Kit.i32_sub (by rw [e2]; omega) (by rw [e2]; omega), e2]; omega
def own_P : List Int64 := [(1 : Int64), (10 : Int64), (100 : Int64), (1000 : Int64), (10000 : Int64), (100000 : Int64), (1000000 : Int64), (10000000 : Int64), (100000000 : Int64), (1000000000 : Int64), (10000000000 : Int64), (100000000000 : Int64), (1000000000000 : Int64), (10000000000000 : Int64), (100000000000000 : Int64), (1000000000000000 : Int64), (10000000000000000 : Int64), (100000000000000000 : Int64), (1000000000000000000 : Int64)]
def own_pw (j : Int32) : Int64 := own_P.getD j.toNatClampNeg 0
theorem own_getp (j : Nat) : (own_P.map Value.long).getD j (.long (0 : Int64)) = .long (own_P.getD j 0) := by
  simp only [List.getD_eq_getElem?_getD, List.getElem?_map]
  cases own_P[j]? <;> rfl
theorem own_Pv : ∀ t, t < 19 → (own_P.getD t 0).toInt = ((10 ^ t : Nat) : Int) := by decide +kernel
theorem own_pwv {j : Int32} {J : Nat} (h : j.toInt = J) (h1 : J ≤ 18) : (own_pw j).toInt = ((10 ^ J : Nat) : Int) := by
  have e : j.toNatClampNeg = J := by simp only [Int32.toNatClampNeg, h]; rfl
  show (own_P.getD j.toNatClampNeg 0).toInt = _
  rw [e]; exact own_Pv J (by omega)
theorem own_pos (J : Nat) : 0 < 10 ^ J := Nat.pow_pos (by decide)
theorem own_pwz {j : Int32} {J : Nat} (h : j.toInt = J) (h1 : J ≤ 18) : ¬ own_pw j = 0 := fun q => by
  have e := own_pwv h h1
  rw [q, Int64.toInt_zero] at e
  have := own_pos J; omega
def own_dgt (w : Int64) (j : Int32) : Int32 := ((48 : Int64) + ((w / own_pw j) - (((w / own_pw j) / (10 : Int64)) * (10 : Int64)))).toInt32
theorem own_dgtv {w : Int64} {j : Int32} {J W : Nat} (hw : w.toInt = W) (h : j.toInt = J) (h1 : J ≤ 18) : (own_dgt w j).toInt = ((48 + W / 10 ^ J % 10 : Nat) : Int) := by
  have e := own_pwv h h1
  have hp := own_pos J
  have e1 : (w / own_pw j).toInt = ((W / 10 ^ J : Nat) : Int) := by
    rw [Jvm.Kit.i64_div (by rw [e, hw]; omega), e, hw, Int.tdiv_eq_ediv_of_nonneg (by omega)]; rfl
  have e2 : ((w / own_pw j) - (((w / own_pw j) / (10 : Int64)) * (10 : Int64))).toInt = ((W / 10 ^ J % 10 : Nat) : Int) := by
    rw [Jvm.Kit.i64_rem_nonneg (by rw [e1]; exact Int.natCast_nonneg _), e1, show (10 : Int64).toInt = 10 from by decide]; rfl
  have hm := Nat.mod_lt (W / 10 ^ J) (show 0 < 10 by decide)
  have e48 : (48 : Int64).toInt = 48 := by decide
  have e3 : ((48 : Int64) + ((w / own_pw j) - (((w / own_pw j) / (10 : Int64)) * (10 : Int64)))).toInt = ((48 + W / 10 ^ J % 10 : Nat) : Int) := by
    rw [Jvm.Kit.i64_add (by rw [e48, e2]; omega) (by rw [e48, e2]; omega), e48, e2]; omega
  show ((48 : Int64) + _).toInt32.toInt = _
  rw [Jvm.Kit.i32_of_i64 (by rw [e3]; omega) (by rw [e3]; omega), e3]
theorem own_b8 {x : Int32} {A : Nat} (h : x.toInt = A) (h1 : A ≤ 255) : ¬ x < 0 ∧ ¬ (255 : Int32) < x := by
  rw [own_lt32, own_lt32, show (0 : Int32).toInt = 0 from rfl, show (255 : Int32).toInt = 255 from by decide, h]; omega
theorem own_c2 {x : Int32} (h0 : ¬ x < 0) (h1 : ¬ (255 : Int32) < x) : nar .char (x.toUInt32.toUInt16.toUInt32.toInt32) = x := by
  have e : x.toUInt32.toUInt16.toUInt32.toInt32 = x := own_nb h0 h1
  rw [e]; exact own_nb h0 h1
def own_ch (i s n : Int32) (w : Int64) (wz tm : Int32) : Int32 := if i < s then wz else if i < (s + n) then own_dgt w ((n - (1 : Int32)) - (i - s)) else tm
def own_wK (x : Int32) : Prop := x = 32 ∨ x = 9 ∨ x = 10 ∨ x = 13
def own_tK (x : Int32) : Prop := x = 32 ∨ x = 41 ∨ x = 44 ∨ x = 59 ∨ x = 43 ∨ x = 45 ∨ x = 61 ∨ x = 60
def own_ok (s n : Int32) (w : Int64) (wz tm : Int32) (S N W : Nat) : Prop := s.toInt = S ∧ n.toInt = N ∧ w.toInt = W ∧ S ≤ 2 ∧ 1 ≤ N ∧ N ≤ 18 ∧ W < 10 ^ N ∧ own_wK wz ∧ own_tK tm
theorem own_wB {x : Int32} (h : own_wK x) : ¬ x < 0 ∧ ¬ (255 : Int32) < x := by
  rcases h with rfl | rfl | rfl | rfl <;> decide
theorem own_tB {x : Int32} (h : own_tK x) : ¬ x < 0 ∧ ¬ (255 : Int32) < x := by
  rcases h with rfl | rfl | rfl | rfl | rfl | rfl | rfl | rfl <;> decide
theorem own_tD {x : Int32} (h : own_tK x) : (x < (48 : Int32) ∨ (57 : Int32) < x) ∧ ¬ x = 46 ∧ ¬ x = 101 ∧ ¬ x = 69 ∧ x < (128 : Int32) := by
  rcases h with rfl | rfl | rfl | rfl | rfl | rfl | rfl | rfl <;> decide
section
variable {s n : Int32} {w : Int64} {wz tm : Int32} {S N W : Nat}
theorem own_sn (H : own_ok s n w wz tm S N W) : (s + n).toInt = ((S + N : Nat) : Int) := by
  obtain ⟨hs, hn, hw, g1, g2, g3, g4, g5, g6⟩ := H
  rw [Jvm.Kit.i32_add (by rw [hs, hn]; omega) (by rw [hs, hn]; omega), hs, hn]; rfl
/-- the index of a digit -/
theorem own_ia (H : own_ok s n w wz tm S N W) {i : Int32} {I : Nat} (hi : i.toInt = I) (h : I ≤ 19) (h0 : ¬ i < s) (h1 : i < (s + n)) : S ≤ I ∧ I - S < N ∧ ((n - (1 : Int32)) - (i - s)).toInt = ((N - 1 - (I - S) : Nat) : Int) := by
  have esn := own_sn H
  obtain ⟨hs, hn, hw, g1, g2, g3, g4, g5, g6⟩ := H
  have e1 : (1 : Int32).toInt = 1 := rfl
  rw [own_lt32, hi, hs] at h0
  rw [own_lt32, hi, esn] at h1
  have en : (n - (1 : Int32)).toInt = (N : Int) - 1 := by rw [Jvm.Kit.i32_sub (by rw [hn, e1]; omega) (by rw [hn, e1]; omega), hn, e1]
  have ek : (i - s).toInt = (I : Int) - S := by rw [Jvm.Kit.i32_sub (by rw [hi, hs]; omega) (by rw [hi, hs]; omega), hi, hs]
  refine ⟨by omega, by omega, ?_⟩
  rw [Jvm.Kit.i32_sub (by rw [en, ek]; omega) (by rw [en, ek]; omega), en, ek]; omega
theorem own_chW (H : own_ok s n w wz tm S N W) {i : Int32} {I : Nat} (hi : i.toInt = I) (q : I < S) : own_ch i s n w wz tm = wz := by
  obtain ⟨hs, hn, hw, g1, g2, g3, g4, g5, g6⟩ := H
  exact if_pos (by rw [own_lt32, hi, hs]; omega)
theorem own_chT (H : own_ok s n w wz tm S N W) {i : Int32} {I : Nat} (hi : i.toInt = I) (q : S + N ≤ I) : own_ch i s n w wz tm = tm := by
  have esn := own_sn H
  obtain ⟨hs, hn, hw, g1, g2, g3, g4, g5, g6⟩ := H
  unfold own_ch
  rw [if_neg (by rw [own_lt32, hi, hs]; omega), if_neg (by rw [own_lt32, hi, esn]; omega)]
theorem own_chD (H : own_ok s n w wz tm S N W) {i : Int32} {I c : Nat} (hi : i.toInt = I) (q : I = S + c) (hc : c < N) : (own_ch i s n w wz tm).toInt = ((48 + W / 10 ^ (N - 1 - c) % 10 : Nat) : Int) := by
  have esn := own_sn H
  have HH := H
  obtain ⟨hs, hn, hw, g1, g2, g3, g4, g5, g6⟩ := H
  have h0 : ¬ i < s := by rw [own_lt32, hi, hs]; omega
  have h1 : i < (s + n) := by rw [own_lt32, hi, esn]; omega
  obtain ⟨a1, a2, a3⟩ := own_ia HH hi (by omega) h0 h1
  unfold own_ch
  rw [if_neg h0, if_pos h1, own_dgtv hw a3 (by omega), show N - 1 - (I - S) = N - 1 - c by omega]
theorem own_chB (H : own_ok s n w wz tm S N W) {i : Int32} {I : Nat} (hi : i.toInt = I) (h : I ≤ 19) : ¬ own_ch i s n w wz tm < 0 ∧ ¬ (255 : Int32) < own_ch i s n w wz tm := by
  by_cases q1 : I < S
  · rw [own_chW H hi q1]; exact own_wB H.2.2.2.2.2.2.2.1
  by_cases q2 : S + N ≤ I
  · rw [own_chT H hi q2]; exact own_tB H.2.2.2.2.2.2.2.2
  have e := own_chD H (c := I - S) hi (by omega) (by omega)
  exact own_b8 e (by have := Nat.mod_lt (W / 10 ^ (N - 1 - (I - S))) (show 0 < 10 by decide); omega)
def own_idx : List Int32 := [0, 1, 2, 3, 4, 5, 6, 7, 8, 9, 10, 11, 12, 13, 14, 15, 16, 17, 18, 19]
def own_xs (s n : Int32) (w : Int64) (wz tm : Int32) : List Int32 := own_idx.map fun i => own_ch i s n w wz tm
theorem own_idv : ∀ t, t < 20 → own_idx[t]? = some (Int32.ofNat t) := by decide +kernel
theorem own_ofn : ∀ t, t < 22 → (Int32.ofNat t).toInt = (t : Int) := by decide +kernel
theorem own_eqn {i : Int32} {I : Nat} (hi : i.toInt = I) (h : I < 22) : i = Int32.ofNat I := Int32.toInt_inj.mp (hi.trans (own_ofn I h).symm)
theorem own_xat {i : Int32} {I : Nat} (hi : i.toInt = I) (h : I ≤ 19) : own_at (own_xs s n w wz tm) i = own_ch i s n w wz tm := by
  have e : i.toNatClampNeg = I := by simp only [Int32.toNatClampNeg, hi]; rfl
  unfold own_at own_xs
  rw [e, List.getD_eq_getElem?_getD, List.getElem?_map, own_idv I (by omega), own_eqn hi (by omega)]; rfl
theorem own_ivv (H : own_ok s n w wz tm S N W) : ∀ (r : Nat) (j : Int32) (J c : Nat) (v : Int64), j.toInt = J → J + r = S + N → J = S + c → v.toInt = ((W / 10 ^ (N - c) : Nat) : Int) → own_iv (own_xs s n w wz tm) r j v = w := by
  have HH := H
  obtain ⟨hs, hn, hw, g1, g2, g3, g4, g5, g6⟩ := H
  have hW63 : W < 2 ^ 63 := by have := w.toInt_lt; omega
  intro r
  induction r with
  | zero =>
    intro j J c v hj hr hc hv
    have ec : c = N := by omega
    subst ec
    show v = w
    exact Int64.toInt_inj.mp (by rw [hv, hw, Nat.sub_self, Nat.pow_zero, Nat.div_one])
  | succ r ih =>
    intro j J c v hj hr hc hv
    have ej : (j + (1 : Int32)).toInt = ((J + 1 : Nat) : Int) := by
      rw [Jvm.Kit.i32_add (by rw [hj, show (1 : Int32).toInt = 1 from rfl]; omega) (by rw [hj, show (1 : Int32).toInt = 1 from rfl]; omega), hj]; rfl
    have ea := own_xat (s := s) (n := n) (w := w) (wz := wz) (tm := tm) hj (by omega)
    show own_iv (own_xs s n w wz tm) r (j + (1 : Int32)) (v * (10 : Int64) + (own_at (own_xs s n w wz tm) j - (48 : Int32)).toInt64) = _
    have hD := own_chD HH (c := c) hj hc (by omega)
    rw [← ea] at hD
    have hm := Nat.mod_lt (W / 10 ^ (N - 1 - c)) (show 0 < 10 by decide)
    have hsplit : W / 10 ^ (N - c) * 10 + W / 10 ^ (N - 1 - c) % 10 = W / 10 ^ (N - 1 - c) := by
      have e1 : 10 ^ (N - c) = 10 ^ (N - 1 - c) * 10 := by rw [show N - c = (N - 1 - c) + 1 by omega, Nat.pow_succ]
      rw [e1, ← Nat.div_div_eq_div_mul]; omega
    have hQ : W / 10 ^ (N - 1 - c) ≤ W := Nat.div_le_self _ _
    have e48 : (48 : Int32).toInt = 48 := by decide
    have e10 : (10 : Int64).toInt = 10 := by decide
    have es : (own_at (own_xs s n w wz tm) j - (48 : Int32)).toInt64.toInt = ((W / 10 ^ (N - 1 - c) % 10 : Nat) : Int) := by
      rw [Jvm.Kit.i64_of_i32, Jvm.Kit.i32_sub (by rw [hD, e48]; omega) (by rw [hD, e48]; omega), hD, e48]; omega
    have em : (v * (10 : Int64)).toInt = ((W / 10 ^ (N - c) : Nat) : Int) * 10 := by
      rw [Jvm.Kit.i64_mul (by rw [hv, e10]; omega) (by rw [hv, e10]; omega), hv, e10]
    have ev : (v * (10 : Int64) + (own_at (own_xs s n w wz tm) j - (48 : Int32)).toInt64).toInt = ((W / 10 ^ (N - 1 - c) : Nat) : Int) := by
      rw [Jvm.Kit.i64_add (by rw [em, es]; omega) (by rw [em, es]; omega), em, es]; omega
    exact ih _ (J + 1) (c + 1) _ ej (by omega) (by omega) (by rw [ev, show N - (c + 1) = N - 1 - c by omega])
theorem own_main (H : own_ok s n w wz tm S N W) : own_iv (own_xs s n w wz tm) N s (0 : Int64) = w := by
  obtain ⟨hs, hn, hw, g1, g2, g3, g4, g5, g6⟩ := id H
  refine own_ivv H N s S 0 _ hs rfl rfl ?_
  rw [Nat.sub_zero, Nat.div_eq_of_lt g4]; rfl
theorem own_wsN {x : Int32} (h : 32 < x.toInt) : own_ws x = 0 := by
  have f : ∀ y : Int32, y.toInt ≤ 32 → ¬ x = y := fun y hy q => by rw [q] at h; omega
  unfold own_ws
  rw [if_neg (f _ (by decide)), if_neg (f _ (by decide)), if_neg (f _ (by decide)), if_neg (f _ (by decide))]
theorem own_dgY {x : Int32} (h0 : ¬ x < (48 : Int32)) (h1 : ¬ (57 : Int32) < x) : ¬ own_dg x = 0 := by
  unfold own_dg
  rw [if_neg h0, if_neg h1]; decide
theorem own_dgr' {x : Int32} {D : Nat} (h : x.toInt = ((48 + D % 10 : Nat) : Int)) : ¬ x < (48 : Int32) ∧ ¬ (57 : Int32) < x := by
  rw [own_lt32, own_lt32, show (48 : Int32).toInt = 48 from by decide, show (57 : Int32).toInt = 57 from by decide, h]
  have := Nat.mod_lt D (show 0 < 10 by decide); omega
theorem own_nz {x : Int32} (h : ¬ x < 0) : ∃ I : Nat, x.toInt = I := by
  rw [own_lt32, show (0 : Int32).toInt = 0 from rfl] at h
  exact ⟨x.toInt.toNat, by omega⟩
theorem own_wsY {x : Int32} (h : own_wK x) : ¬ own_ws x = 0 := by
  rcases h with rfl | rfl | rfl | rfl <;> decide
theorem own_lt20 {x : Int32} {I : Nat} (h : x.toInt = I) : (x < (20 : Int32)) = (I < 20) := by
  rw [own_lt32, h, show (20 : Int32).toInt = 20 from by decide]; apply propext; omega
theorem own_cav {xs : List Int32} {j : Int32} {J : Nat} (h : j.toInt = J) (h1 : J ≤ 19) : own_ca xs j = own_at xs j := if_pos (by rw [own_lt20 h]; omega)
theorem own_pl (H : own_ok s n w wz tm S N W) : (s = (0 : Int32) ∨ s = (1 : Int32) ∧ ¬ own_ws (own_at (own_xs s n w wz tm) (0 : Int32)) = (0 : Int32) ∨ s = (2 : Int32) ∧ ¬ own_ws (own_at (own_xs s n w wz tm) (0 : Int32)) = (0 : Int32) ∧ ¬ own_ws (own_at (own_xs s n w wz tm) (1 : Int32)) = (0 : Int32)) ∧ own_ws (own_at (own_xs s n w wz tm) s) = (0 : Int32) ∧ ¬ own_at (own_xs s n w wz tm) s = (40 : Int32) ∧ ¬ own_dg (own_at (own_xs s n w wz tm) s) = (0 : Int32) ∧ (∀ t : Int32, ¬ t < 0 → t < (20 : Int32) → ¬ own_at (own_xs s n w wz tm) t < 0 ∧ ¬ (255 : Int32) < own_at (own_xs s n w wz tm) t) ∧ own_dig (own_xs s n w wz tm) s (s + n) ∧ ¬ own_ca (own_xs s n w wz tm) (s + n) = (46 : Int32) ∧ ¬ own_ca (own_xs s n w wz tm) (s + n) = (101 : Int32) ∧ ¬ own_ca (own_xs s n w wz tm) (s + n) = (69 : Int32) ∧ (s + n < (20 : Int32) → own_at (own_xs s n w wz tm) (s + n) = tm) ∧ s.toInt + (N : Int) = (s + n).toInt := by
  have HH := H
  have esn := own_sn H
  obtain ⟨hs, hn, hw, g1, g2, g3, g4, g5, g6⟩ := H
  have A : ∀ {t : Int32} {I : Nat}, t.toInt = I → I ≤ 19 → own_at (own_xs s n w wz tm) t = own_ch t s n w wz tm := fun h h' => own_xat h h'
  have dg : ∀ {t : Int32} {I : Nat}, t.toInt = I → S ≤ I → I < S + N → ¬ own_at (own_xs s n w wz tm) t < (48 : Int32) ∧ ¬ (57 : Int32) < own_at (own_xs s n w wz tm) t := fun {t I} h a1 a2 => by
    rw [A h (by omega)]
    exact own_dgr' (own_chD HH (c := I - S) h (by omega) (by omega))
  have first := dg hs (by omega) (by omega)
  have fbig : 40 < (own_at (own_xs s n w wz tm) s).toInt := by
    have q := first.1
    rw [own_lt32, show (48 : Int32).toInt = 48 from by decide] at q; omega
  have wsp : ∀ {t : Int32} {I : Nat}, t.toInt = I → I < S → ¬ own_ws (own_at (own_xs s n w wz tm) t) = (0 : Int32) := fun h q => by
    rw [A h (by omega), own_chW HH h q]; exact own_wsY g5
  have tmv : s + n < (20 : Int32) → own_at (own_xs s n w wz tm) (s + n) = tm := fun q => by
    rw [own_lt20 esn] at q
    rw [A esn (by omega)]; exact own_chT HH esn (Nat.le_refl _)
  have cen : own_ca (own_xs s n w wz tm) (s + n) = tm ∨ own_ca (own_xs s n w wz tm) (s + n) = 0 := by
    by_cases q : s + n < (20 : Int32)
    · left; exact (if_pos q).trans (tmv q)
    · right; exact if_neg q
  have nn0 : ∀ {t : Int32} {I : Nat}, t.toInt = I → ¬ t < 0 := fun h => by rw [own_lt32, h, show (0 : Int32).toInt = 0 from rfl]; omega
  refine ⟨?_, own_wsN (by omega), fun q => by rw [q] at fbig; exact absurd fbig (by decide), own_dgY first.1 first.2, ?_, ⟨nn0 hs, by rw [hs, esn]; omega, by rw [esn]; omega, fun t h1 h2 => ?_, fun q => ?_⟩, ?_, ?_, ?_, tmv, by rw [hs, esn]; omega⟩
  · rcases (show S = 0 ∨ S = 1 ∨ S = 2 by omega) with q | q | q
    · left; exact Int32.toInt_inj.mp (by rw [hs, q]; rfl)
    · right; left
      exact ⟨Int32.toInt_inj.mp (by rw [hs, q]; rfl), wsp (I := 0) rfl (by omega)⟩
    · right; right
      exact ⟨Int32.toInt_inj.mp (by rw [hs, q]; rfl), wsp (I := 0) rfl (by omega), wsp (I := 1) rfl (by omega)⟩
  · intro t h1 h2
    obtain ⟨I, hI⟩ := own_nz h1
    rw [own_lt20 hI] at h2
    rw [A hI (by omega)]; exact own_chB HH hI (by omega)
  · rw [hs] at h1; rw [esn] at h2
    exact dg (I := t.toInt.toNat) (by omega) (by omega) (by omega)
  · rw [tmv q]; exact (own_tD g6).1
  · rcases cen with q | q <;> rw [q]
    · exact (own_tD g6).2.1
    · decide
  · rcases cen with q | q <;> rw [q]
    · exact (own_tD g6).2.2.1
    · decide
  · rcases cen with q | q <;> rw [q]
    · exact (own_tD g6).2.2.2.1
    · decide
end
theorem own_m31 (x : Int32) : 0 ≤ (x &&& (2147483647 : Int32)).toInt := by
  rw [Jvm.Kit.i32_mask x 2147483647 (k := 31) (by decide) (by decide)]; omega
theorem own_remb (x y : Int32) (hy : 0 < y.toInt) : 0 ≤ ((x &&& (2147483647 : Int32)) - (((x &&& (2147483647 : Int32)) / y) * y)).toInt ∧ ((x &&& (2147483647 : Int32)) - (((x &&& (2147483647 : Int32)) / y) * y)).toInt < y.toInt := by
  rw [own_rem32 (own_m31 x) hy]
  exact ⟨Int.emod_nonneg _ (by omega), Int.emod_lt_of_pos _ hy⟩
theorem own_nv (x : Int32) : 1 ≤ ((1 : Int32) + ((x &&& (2147483647 : Int32)) - (((x &&& (2147483647 : Int32)) / (18 : Int32)) * (18 : Int32)))).toInt ∧ ((1 : Int32) + ((x &&& (2147483647 : Int32)) - (((x &&& (2147483647 : Int32)) / (18 : Int32)) * (18 : Int32)))).toInt ≤ 18 := by
  have e := own_remb x 18 (by decide)
  rw [show (18 : Int32).toInt = 18 from by decide] at e
  have o1 : (1 : Int32).toInt = 1 := rfl
  rw [Jvm.Kit.i32_add (by rw [o1]; omega) (by rw [o1]; omega), o1]; omega
theorem own_nin {n : Int32} (h : 1 ≤ n.toInt ∧ n.toInt ≤ 18) : ¬ n < 0 ∧ n < (19 : Int32) := by
  rw [own_lt32, own_lt32, show (19 : Int32).toInt = 19 from by decide, show (0 : Int32).toInt = 0 from rfl]; omega
theorem own_npz {n : Int32} (h : 1 ≤ n.toInt ∧ n.toInt ≤ 18) : ¬ own_pw n = 0 := own_pwz (J := n.toInt.toNat) (by omega) (by omega)
theorem own_mk {n s : Int32} {w x : Int64} {wz tm : Int32} (h : 1 ≤ n.toInt ∧ n.toInt ≤ 18) (hs : 0 ≤ s.toInt ∧ s.toInt < 3) (hw : w = ((x &&& (9223372036854775807 : Int64)) - (((x &&& (9223372036854775807 : Int64)) / (own_pw n)) * (own_pw n)))) (hz : own_wK wz) (ht : own_tK tm) : ∃ S N W, own_ok s n w wz tm S N W := by
  have ex : (x &&& (9223372036854775807 : Int64)).toInt = x.toInt % 2 ^ 63 := Jvm.Kit.i64_mask x 9223372036854775807 (k := 63) (by decide) (by decide)
  have e1 := own_pwv (j := n) (J := n.toInt.toNat) (by omega) (by omega)
  have hpos := own_pos n.toInt.toNat
  have hwv : 0 ≤ w.toInt ∧ w.toInt < ((10 ^ n.toInt.toNat : Nat) : Int) := by
    rw [hw, Jvm.Kit.i64_rem_nonneg (by omega), e1]
    exact ⟨Int.emod_nonneg _ (by omega), Int.emod_lt_of_pos _ (by omega)⟩
  refine ⟨s.toInt.toNat, n.toInt.toNat, w.toInt.toNat, by omega, by omega, by omega, by omega, by omega, by omega, ?_, hz, ht⟩
  have := hwv.2; omega
theorem own_inI {j : Int32} {J : Nat} (h : j.toInt = J) (h1 : J ≤ 18) : ¬ j < 0 ∧ j < (19 : Int32) := by
  rw [own_lt32, own_lt32, show (19 : Int32).toInt = 19 from by decide, show (0 : Int32).toInt = 0 from rfl, h]; omega
theorem own_b0 {x : Int32} {A : Nat} (h : x.toInt = A) : ¬ x < 0 := by
  rw [own_lt32, h, show (0 : Int32).toInt = 0 from rfl]; omega
theorem own_d24_0 : decode prog_59_method_5_code 0 = .ok (.lconst 0, 1) := by decide +kernel
theorem own_d24_1 : decode prog_59_method_5_code 1 = .ok (.lstore_n 1, 1) := by decide +kernel
theorem own_d24_2 : decode prog_59_method_5_code 2 = .ok (.aload_n 0, 1) := by decide +kernel
theorem own_d24_3 : decode prog_59_method_5_code 3 = .ok (.getfield 38, 3) := by decide +kernel
theorem own_d24_6 : decode prog_59_method_5_code 6 = .ok (.istore_n 3, 1) := by decide +kernel
theorem own_d24_7 : decode prog_59_method_5_code 7 = .ok (.iload_n 3, 1) := by decide +kernel
theorem own_d24_8 : decode prog_59_method_5_code 8 = .ok (.aload_n 0, 1) := by decide +kernel
theorem own_d24_9 : decode prog_59_method_5_code 9 = .ok (.getfield 41, 3) := by decide +kernel
theorem own_d24_12 : decode prog_59_method_5_code 12 = .ok (.if_icmp .ge 26, 3) := by decide +kernel
theorem own_d24_15 : decode prog_59_method_5_code 15 = .ok (.lload_n 1, 1) := by decide +kernel
theorem own_d24_16 : decode prog_59_method_5_code 16 = .ok (.ldc2_w 44, 3) := by decide +kernel
theorem own_d24_19 : decode prog_59_method_5_code 19 = .ok (.lmul, 1) := by decide +kernel
theorem own_d24_20 : decode prog_59_method_5_code 20 = .ok (.aload_n 0, 1) := by decide +kernel
theorem own_d24_21 : decode prog_59_method_5_code 21 = .ok (.getfield 26, 3) := by decide +kernel
theorem own_d24_24 : decode prog_59_method_5_code 24 = .ok (.iload_n 3, 1) := by decide +kernel
theorem own_d24_25 : decode prog_59_method_5_code 25 = .ok (.caload, 1) := by decide +kernel
theorem own_d24_26 : decode prog_59_method_5_code 26 = .ok (.bipush 48, 2) := by decide +kernel
theorem own_d24_28 : decode prog_59_method_5_code 28 = .ok (.isub, 1) := by decide +kernel
theorem own_d24_29 : decode prog_59_method_5_code 29 = .ok (.i2l, 1) := by decide +kernel
theorem own_d24_30 : decode prog_59_method_5_code 30 = .ok (.ladd, 1) := by decide +kernel
theorem own_d24_31 : decode prog_59_method_5_code 31 = .ok (.lstore_n 1, 1) := by decide +kernel
theorem own_d24_32 : decode prog_59_method_5_code 32 = .ok (.iinc 3 1, 3) := by decide +kernel
theorem own_d24_35 : decode prog_59_method_5_code 35 = .ok (.goto (-28), 3) := by decide +kernel
theorem own_d24_38 : decode prog_59_method_5_code 38 = .ok (.lload_n 1, 1) := by decide +kernel
theorem own_d24_39 : decode prog_59_method_5_code 39 = .ok (.lreturn, 1) := by decide +kernel
theorem own_ivr_ef (m : MethodId) (a1 : Addr) : entryFrame m #[(.ref a1)] 4 = mkF m 0 #[rv a1, .unset, .unset, .unset] [] := by first | (simp [entryFrame, mkF, argsToLocals, Value.category]; done) | rfl
set_option maxRecDepth 65536 in
set_option maxHeartbeats 40000000 in
theorem own_ivr (l : Launch) (Z : State) (a0 : Array Value) (hw : ∀ d ∈ tables_1, d.before a0 Z = true) (ws : List Jvm.Cond) (a1 : Addr) (a2 : Addr) (k2 : ClassId) (xs : List Int32) (st : Int32) (en : Int32) (r0 : Nat) (h0 : Heap) (n0 : Nat) (Z0 : n0 ≤ h0.size) (E1 : Exa Z h0 a1 "com/example/libxqtype/libxqtype/ExpressionLexer") (Fc : Fld Z h0 a1 "com/example/libxqtype/libxqtype/ExpressionLexer" "chars" "[C" (.ref a2)) (V2 : Arv Z h0 a2 k2 .char (20 : Int32) (xs.map Value.int) (.int (0 : Int32))) (Fs : Fld Z h0 a1 "com/example/libxqtype/libxqtype/ExpressionLexer" "start" "I" (.int st)) (Fe : Fld Z h0 a1 "com/example/libxqtype/libxqtype/ExpressionLexer" "end" "I" (.int en)) (hst : ¬ st < 0) (hr : st.toInt + (r0 : Int) = en.toInt) (hen : en.toInt ≤ 20) :
    own_Met l Z (⟨"com/example/libxqtype/libxqtype/ExpressionLexer", "integerValue", "()J"⟩ : MethodName) prog_59_method_5_code 4 (some .long) ws ({ frames := 0, cells := 0, slots := 0, locals := 0 } : Room) #[(.ref a1)] h0 (fun v h L => v = some (.long (own_iv xs r0 st (0 : Int64))) ∧ Fr n0 L ∧ h = h0) := by
  refine own_enter (plainFor_of_name own_pn4) ?_
  intro p e s m below meth c s₁ X0 hx hZ hby hml hown hnm hret hlk e0
  have N0 := Fr.nil n0
  rw [own_ivr_ef m a1]
  show own_Fin _ _ _ _ _ _ (s₁.setTop (mkF m 0 #[rv a1, .unset, .unset, .unset] []))
  refine own_to (fun t k => XS.lconst X0.here hx rfl (hb hby own_d24_0) k) ?_
  refine own_to (fun t k => XS.lstoreN X0.here hx rfl (hb hby own_d24_1) rfl (l' := #[rv a1, .val (.long (0 : Int64)), .second, .unset]) rfl k) ?_
  show own_Fin _ _ _ _ _ _ (s₁.setTop (mkF m 2 #[rv a1, .val (.long (0 : Int64)), .second, .unset] []))
  refine own_to (fun t k => XS.aloadN X0.here hx rfl (hb hby own_d24_2) rfl rfl k) ?_
  obtain ⟨T317, X317, e317, st317⟩ := getF X0 hx hZ hown (host := "") (Or.inl (own_W hw 108 rfl)) Via.refl e0 Fs (g := (mkF m 3 #[rv a1, .val (.long (0 : Int64)), .second, .unset] [(.ref a1)])) rfl rfl (hb hby own_d24_3)
  refine own_to (fun t k => st317 t k) ?_
  show own_Fin _ _ _ _ _ _ (T317.setTop (mkF m 6 #[rv a1, .val (.long (0 : Int64)), .second, .unset] [(.int st)]))
  refine own_to (fun t k => XS.istoreN X317.here hx rfl (hb hby own_d24_6) rfl (l' := #[rv a1, .val (.long (0 : Int64)), .second, .val (.int st)]) rfl k) ?_
  show own_Fin _ _ _ _ _ _ (T317.setTop (mkF m 7 #[rv a1, .val (.long (0 : Int64)), .second, .val (.int st)] []))
  have loop : ∀ (r : Nat) (T : State) (j : Int32) (v : Int64), Stand p l e ({ frames := 0, cells := 0, slots := 0, locals := 0 } : Room) s m #[(.ref a1)] below meth c T [] 0 0 → T.heap = h0 → ¬ j < 0 → j.toInt + r = en.toInt → own_iv xs r j v = own_iv xs r0 st (0 : Int64) → own_Fin p e below s ({ frames := 0, cells := 0, slots := 0, locals := 0 } : Room) (fun v h L => v = some (.long (own_iv xs r0 st (0 : Int64))) ∧ Fr n0 L ∧ h = h0) (T.setTop (mkF m 7 #[rv a1, .val (.long v), .second, .val (.int j)] [])) := by
    intro r
    induction r with
    | zero =>
      intro T j v XT eT hj hr hq
      have hje : ¬ j < en := by rw [own_lt32]; omega
      show own_Fin _ _ _ _ _ _ (T.setTop (mkF m 7 #[rv a1, .val (.long v), .second, .val (.int j)] []))
      refine own_to (fun t k => XS.iloadN XT.here hx rfl (hb hby own_d24_7) rfl k) ?_
      refine own_to (fun t k => XS.aloadN XT.here hx rfl (hb hby own_d24_8) rfl rfl k) ?_
      obtain ⟨T318, X318, e318, st318⟩ := getF XT hx hZ hown (host := "") (Or.inl (own_W hw 130 rfl)) Via.refl eT Fe (g := (mkF m 9 #[rv a1, .val (.long v), .second, .val (.int j)] [(.ref a1), (.int j)])) rfl rfl (hb hby own_d24_9)
      refine own_to (fun t k => st318 t k) ?_
      show own_Fin _ _ _ _ _ _ (T318.setTop (mkF m 12 #[rv a1, .val (.long v), .second, .val (.int j)] [(.int en), (.int j)]))
      refine own_to (fun t k => XS.icmpYes X318.here hx rfl (pc0 := 12) (pc' := 38) rfl (hb hby own_d24_12) rfl (flt hje).2.1 (by decide) (by decide) k) ?_
      show own_Fin _ _ _ _ _ _ (T318.setTop (mkF m 38 #[rv a1, .val (.long v), .second, .val (.int j)] []))
      refine own_to (fun t k => XS.lloadN X318.here hx rfl (hb hby own_d24_38) rfl k) ?_
      show own_Fin _ _ _ _ _ _ (T318.setTop (mkF m 39 #[rv a1, .val (.long v), .second, .val (.int j)] [(.long v)]))
      refine own_retJ X318 hx hlk hret (hb hby own_d24_39) (by decide) (by decide) ?_
      try rw [e318]
      exact ⟨congrArg (fun z => some (Value.long z)) hq, N0, rfl⟩
    | succ r ih =>
      intro T j v XT eT hj hr hq
      have hlt : j.toInt < en.toInt := by omega
      have hje : j < en := by rw [own_lt32]; exact hlt
      have hjn := own_ltn hlt hen
      have hinc := own_inc hj hlt hen
      show own_Fin _ _ _ _ _ _ (T.setTop (mkF m 7 #[rv a1, .val (.long v), .second, .val (.int j)] []))
      refine own_to (fun t k => XS.iloadN XT.here hx rfl (hb hby own_d24_7) rfl k) ?_
      refine own_to (fun t k => XS.aloadN XT.here hx rfl (hb hby own_d24_8) rfl rfl k) ?_
      obtain ⟨T319, X319, e319, st319⟩ := getF XT hx hZ hown (host := "") (Or.inl (own_W hw 130 rfl)) Via.refl eT Fe (g := (mkF m 9 #[rv a1, .val (.long v), .second, .val (.int j)] [(.ref a1), (.int j)])) rfl rfl (hb hby own_d24_9)
      refine own_to (fun t k => st319 t k) ?_
      show own_Fin _ _ _ _ _ _ (T319.setTop (mkF m 12 #[rv a1, .val (.long v), .second, .val (.int j)] [(.int en), (.int j)]))
      refine own_to (fun t k => XS.icmpNo X319.here hx rfl (hb hby own_d24_12) rfl (tlt hje).2.1 k) ?_
      show own_Fin _ _ _ _ _ _ (T319.setTop (mkF m 15 #[rv a1, .val (.long v), .second, .val (.int j)] []))
      refine own_to (fun t k => XS.lloadN X319.here hx rfl (hb hby own_d24_15) rfl k) ?_
      show own_Fin _ _ _ _ _ _ (T319.setTop (mkF m 16 #[rv a1, .val (.long v), .second, .val (.int j)] [(.long v)]))
      refine own_to (fun t k => X319.ldc2Long hx hown (mvT hZ (own_W hw 146 rfl)) (g := (mkF m 16 #[rv a1, .val (.long v), .second, .val (.int j)] [(.long v)])) rfl (hb hby own_d24_16) _ k) ?_
      show own_Fin _ _ _ _ _ _ (T319.setTop (mkF m 19 #[rv a1, .val (.long v), .second, .val (.int j)] [(.long (10 : Int64)), (.long v)]))
      refine own_to (fun t k => XS.lmul X319.here hx rfl (hb hby own_d24_19) rfl k) ?_
      show own_Fin _ _ _ _ _ _ (T319.setTop (mkF m 20 #[rv a1, .val (.long v), .second, .val (.int j)] [(.long (v * (10 : Int64)))]))
      refine own_to (fun t k => XS.aloadN X319.here hx rfl (hb hby own_d24_20) rfl rfl k) ?_
      obtain ⟨T320, X320, e320, st320⟩ := getF X319 hx hZ hown (host := "") (Or.inl (own_W hw 94 rfl)) Via.refl e319 Fc (g := (mkF m 21 #[rv a1, .val (.long v), .second, .val (.int j)] [(.ref a1), (.long (v * (10 : Int64)))])) rfl rfl (hb hby own_d24_21)
      refine own_to (fun t k => st320 t k) ?_
      show own_Fin _ _ _ _ _ _ (T320.setTop (mkF m 24 #[rv a1, .val (.long v), .second, .val (.int j)] [(.ref a2), (.long (v * (10 : Int64)))]))
      refine own_to (fun t k => XS.iloadN X320.here hx rfl (hb hby own_d24_24) rfl k) ?_
      obtain ⟨cl321, Ar321, qa321, Sa321, Na321, Ha321, Ga321⟩ := id V2
      have hin322 : ¬ (j < 0 ∨ cl321.slots.size ≤ (j).toNatClampNeg) := inb_of Sa321 ⟨hj, hjn⟩
      refine own_to (fun t k => X320.caload hx (j := j) (v := (.int (own_at xs j))) (by rw [e320]; exact Ar321.1) (State.isArrayOf_alike hZ.alike Ar321.2.1) Ar321.2.2 hin322 (Has.at Ha321 hin322 (own_getm xs _)) (g := (mkF m 25 #[rv a1, .val (.long v), .second, .val (.int j)] [(.int j), (.ref a2), (.long (v * (10 : Int64)))])) rfl rfl (hb hby own_d24_25) _ k) ?_
      show own_Fin _ _ _ _ _ _ (T320.setTop (mkF m 26 #[rv a1, .val (.long v), .second, .val (.int j)] [(.int (own_at xs j)), (.long (v * (10 : Int64)))]))
      refine own_to (fun t k => XS.bipush X320.here hx rfl (hb hby own_d24_26) k) ?_
      show own_Fin _ _ _ _ _ _ (T320.setTop (mkF m 28 #[rv a1, .val (.long v), .second, .val (.int j)] [(.int (48 : Int32)), (.int (own_at xs j)), (.long (v * (10 : Int64)))]))
      refine own_to (fun t k => XS.isub X320.here hx rfl (hb hby own_d24_28) rfl k) ?_
      show own_Fin _ _ _ _ _ _ (T320.setTop (mkF m 29 #[rv a1, .val (.long v), .second, .val (.int j)] [(.int ((own_at xs j) - (48 : Int32))), (.long (v * (10 : Int64)))]))
      refine own_to (fun t k => XS.i2l X320.here hx rfl (hb hby own_d24_29) rfl k) ?_
      show own_Fin _ _ _ _ _ _ (T320.setTop (mkF m 30 #[rv a1, .val (.long v), .second, .val (.int j)] [(.long (((own_at xs j) - (48 : Int32)).toInt64)), (.long (v * (10 : Int64)))]))
      refine own_to (fun t k => XS.ladd X320.here hx rfl (hb hby own_d24_30) rfl k) ?_
      show own_Fin _ _ _ _ _ _ (T320.setTop (mkF m 31 #[rv a1, .val (.long v), .second, .val (.int j)] [(.long ((v * (10 : Int64)) + (((own_at xs j) - (48 : Int32)).toInt64)))]))
      refine own_to (fun t k => XS.lstoreN X320.here hx rfl (hb hby own_d24_31) rfl (l' := #[rv a1, .val (.long ((v * (10 : Int64)) + (((own_at xs j) - (48 : Int32)).toInt64))), .second, .val (.int j)]) rfl k) ?_
      show own_Fin _ _ _ _ _ _ (T320.setTop (mkF m 32 #[rv a1, .val (.long ((v * (10 : Int64)) + (((own_at xs j) - (48 : Int32)).toInt64))), .second, .val (.int j)] []))
      refine own_to (fun t k => XS.iinc X320.here hx rfl (hb hby own_d24_32) rfl (l' := #[rv a1, .val (.long ((v * (10 : Int64)) + (((own_at xs j) - (48 : Int32)).toInt64))), .second, .val (.int (j + (1 : Int32)))]) rfl k) ?_
      show own_Fin _ _ _ _ _ _ (T320.setTop (mkF m 35 #[rv a1, .val (.long ((v * (10 : Int64)) + (((own_at xs j) - (48 : Int32)).toInt64))), .second, .val (.int (j + (1 : Int32)))] []))
      refine own_to (fun t k => XS.goto X320.here hx rfl (pc0 := 35) (pc' := 7) rfl (hb hby own_d24_35) (by decide) (by decide) k) ?_
      show own_Fin _ _ _ _ _ _ (T320.setTop (mkF m 7 #[rv a1, .val (.long ((v * (10 : Int64)) + (((own_at xs j) - (48 : Int32)).toInt64))), .second, .val (.int (j + (1 : Int32)))] []))
      exact ih _ (j + (1 : Int32)) ((v * (10 : Int64)) + (((own_at xs j) - (48 : Int32)).toInt64)) X320 e320 hinc.2 (by rw [hinc.1]; omega) hq
  exact loop r0 _ st (0 : Int64) X317 e317 hst hr rfl
theorem own_d1_0 : decode method_4_code 0 = .ok (.bipush 19, 2) := by decide +kernel
theorem own_d1_2 : decode method_4_code 2 = .ok (.newarray .long, 2) := by decide +kernel
theorem own_d1_4 : decode method_4_code 4 = .ok (.dup, 1) := by decide +kernel
theorem own_d1_5 : decode method_4_code 5 = .ok (.iconst 0, 1) := by decide +kernel
theorem own_d1_6 : decode method_4_code 6 = .ok (.lconst 1, 1) := by decide +kernel
theorem own_d1_7 : decode method_4_code 7 = .ok (.lastore, 1) := by decide +kernel
theorem own_d1_8 : decode method_4_code 8 = .ok (.dup, 1) := by decide +kernel
theorem own_d1_9 : decode method_4_code 9 = .ok (.iconst 1, 1) := by decide +kernel
theorem own_d1_10 : decode method_4_code 10 = .ok (.ldc2_w 45, 3) := by decide +kernel
theorem own_d1_13 : decode method_4_code 13 = .ok (.lastore, 1) := by decide +kernel
theorem own_d1_14 : decode method_4_code 14 = .ok (.dup, 1) := by decide +kernel
theorem own_d1_15 : decode method_4_code 15 = .ok (.iconst 2, 1) := by decide +kernel
theorem own_d1_16 : decode method_4_code 16 = .ok (.ldc2_w 47, 3) := by decide +kernel
theorem own_d1_19 : decode method_4_code 19 = .ok (.lastore, 1) := by decide +kernel
theorem own_d1_20 : decode method_4_code 20 = .ok (.dup, 1) := by decide +kernel
theorem own_d1_21 : decode method_4_code 21 = .ok (.iconst 3, 1) := by decide +kernel
theorem own_d1_22 : decode method_4_code 22 = .ok (.ldc2_w 49, 3) := by decide +kernel
theorem own_d1_25 : decode method_4_code 25 = .ok (.lastore, 1) := by decide +kernel
theorem own_d1_26 : decode method_4_code 26 = .ok (.dup, 1) := by decide +kernel
theorem own_d1_27 : decode method_4_code 27 = .ok (.iconst 4, 1) := by decide +kernel
theorem own_d1_28 : decode method_4_code 28 = .ok (.ldc2_w 51, 3) := by decide +kernel
theorem own_d1_31 : decode method_4_code 31 = .ok (.lastore, 1) := by decide +kernel
theorem own_d1_32 : decode method_4_code 32 = .ok (.dup, 1) := by decide +kernel
theorem own_d1_33 : decode method_4_code 33 = .ok (.iconst 5, 1) := by decide +kernel
theorem own_d1_34 : decode method_4_code 34 = .ok (.ldc2_w 53, 3) := by decide +kernel
theorem own_d1_37 : decode method_4_code 37 = .ok (.lastore, 1) := by decide +kernel
theorem own_d1_38 : decode method_4_code 38 = .ok (.dup, 1) := by decide +kernel
theorem own_d1_39 : decode method_4_code 39 = .ok (.bipush 6, 2) := by decide +kernel
theorem own_d1_41 : decode method_4_code 41 = .ok (.ldc2_w 55, 3) := by decide +kernel
theorem own_d1_44 : decode method_4_code 44 = .ok (.lastore, 1) := by decide +kernel
theorem own_d1_45 : decode method_4_code 45 = .ok (.dup, 1) := by decide +kernel
theorem own_d1_46 : decode method_4_code 46 = .ok (.bipush 7, 2) := by decide +kernel
theorem own_d1_48 : decode method_4_code 48 = .ok (.ldc2_w 57, 3) := by decide +kernel
theorem own_d1_51 : decode method_4_code 51 = .ok (.lastore, 1) := by decide +kernel
theorem own_d1_52 : decode method_4_code 52 = .ok (.dup, 1) := by decide +kernel
theorem own_d1_53 : decode method_4_code 53 = .ok (.bipush 8, 2) := by decide +kernel
theorem own_d1_55 : decode method_4_code 55 = .ok (.ldc2_w 59, 3) := by decide +kernel
theorem own_d1_58 : decode method_4_code 58 = .ok (.lastore, 1) := by decide +kernel
theorem own_d1_59 : decode method_4_code 59 = .ok (.dup, 1) := by decide +kernel
theorem own_d1_60 : decode method_4_code 60 = .ok (.bipush 9, 2) := by decide +kernel
theorem own_d1_62 : decode method_4_code 62 = .ok (.ldc2_w 61, 3) := by decide +kernel
theorem own_d1_65 : decode method_4_code 65 = .ok (.lastore, 1) := by decide +kernel
theorem own_d1_66 : decode method_4_code 66 = .ok (.dup, 1) := by decide +kernel
theorem own_d1_67 : decode method_4_code 67 = .ok (.bipush 10, 2) := by decide +kernel
theorem own_d1_69 : decode method_4_code 69 = .ok (.ldc2_w 63, 3) := by decide +kernel
theorem own_d1_72 : decode method_4_code 72 = .ok (.lastore, 1) := by decide +kernel
theorem own_d1_73 : decode method_4_code 73 = .ok (.dup, 1) := by decide +kernel
theorem own_d1_74 : decode method_4_code 74 = .ok (.bipush 11, 2) := by decide +kernel
theorem own_d1_76 : decode method_4_code 76 = .ok (.ldc2_w 65, 3) := by decide +kernel
theorem own_d1_79 : decode method_4_code 79 = .ok (.lastore, 1) := by decide +kernel
theorem own_d1_80 : decode method_4_code 80 = .ok (.dup, 1) := by decide +kernel
theorem own_d1_81 : decode method_4_code 81 = .ok (.bipush 12, 2) := by decide +kernel
theorem own_d1_83 : decode method_4_code 83 = .ok (.ldc2_w 67, 3) := by decide +kernel
theorem own_d1_86 : decode method_4_code 86 = .ok (.lastore, 1) := by decide +kernel
theorem own_d1_87 : decode method_4_code 87 = .ok (.dup, 1) := by decide +kernel
theorem own_d1_88 : decode method_4_code 88 = .ok (.bipush 13, 2) := by decide +kernel
theorem own_d1_90 : decode method_4_code 90 = .ok (.ldc2_w 69, 3) := by decide +kernel
theorem own_d1_93 : decode method_4_code 93 = .ok (.lastore, 1) := by decide +kernel
theorem own_d1_94 : decode method_4_code 94 = .ok (.dup, 1) := by decide +kernel
theorem own_d1_95 : decode method_4_code 95 = .ok (.bipush 14, 2) := by decide +kernel
theorem own_d1_97 : decode method_4_code 97 = .ok (.ldc2_w 71, 3) := by decide +kernel
theorem own_d1_100 : decode method_4_code 100 = .ok (.lastore, 1) := by decide +kernel
theorem own_d1_101 : decode method_4_code 101 = .ok (.dup, 1) := by decide +kernel
theorem own_d1_102 : decode method_4_code 102 = .ok (.bipush 15, 2) := by decide +kernel
theorem own_d1_104 : decode method_4_code 104 = .ok (.ldc2_w 73, 3) := by decide +kernel
theorem own_d1_107 : decode method_4_code 107 = .ok (.lastore, 1) := by decide +kernel
theorem own_d1_108 : decode method_4_code 108 = .ok (.dup, 1) := by decide +kernel
theorem own_d1_109 : decode method_4_code 109 = .ok (.bipush 16, 2) := by decide +kernel
theorem own_d1_111 : decode method_4_code 111 = .ok (.ldc2_w 75, 3) := by decide +kernel
theorem own_d1_114 : decode method_4_code 114 = .ok (.lastore, 1) := by decide +kernel
theorem own_d1_115 : decode method_4_code 115 = .ok (.dup, 1) := by decide +kernel
theorem own_d1_116 : decode method_4_code 116 = .ok (.bipush 17, 2) := by decide +kernel
theorem own_d1_118 : decode method_4_code 118 = .ok (.ldc2_w 77, 3) := by decide +kernel
theorem own_d1_121 : decode method_4_code 121 = .ok (.lastore, 1) := by decide +kernel
theorem own_d1_122 : decode method_4_code 122 = .ok (.dup, 1) := by decide +kernel
theorem own_d1_123 : decode method_4_code 123 = .ok (.bipush 18, 2) := by decide +kernel
theorem own_d1_125 : decode method_4_code 125 = .ok (.ldc2_w 79, 3) := by decide +kernel
theorem own_d1_128 : decode method_4_code 128 = .ok (.lastore, 1) := by decide +kernel
theorem own_d1_129 : decode method_4_code 129 = .ok (.astore_n 1, 1) := by decide +kernel
theorem own_d1_130 : decode method_4_code 130 = .ok (.aload_n 1, 1) := by decide +kernel
theorem own_d1_131 : decode method_4_code 131 = .ok (.iload_n 0, 1) := by decide +kernel
theorem own_d1_132 : decode method_4_code 132 = .ok (.laload, 1) := by decide +kernel
theorem own_d1_133 : decode method_4_code 133 = .ok (.lreturn, 1) := by decide +kernel
theorem own_pn5 : plainName "com/example/libxqtype/libxqtype/ExpressionLexerIntegerValuePinLaw" = true := by first | (simp [plainName, overriddenIn]; done) | decide +kernel
theorem own_p10_ef (m : MethodId) (pk : Int32) : entryFrame m #[(.int pk)] 2 = mkF m 0 #[.val (.int pk), .unset] [] := by first | (simp [entryFrame, mkF, argsToLocals, Value.category]; done) | rfl
set_option maxRecDepth 65536 in
set_option maxHeartbeats 40000000 in
theorem own_p10 (l : Launch) (Z : State) (a0 : Array Value) (hw : ∀ d ∈ tables_1, d.before a0 Z = true) (ws : List Jvm.Cond) (pk : Int32) (h0 : Heap) (n0 : Nat) (Z0 : n0 ≤ h0.size) (hk : ¬ pk < 0 ∧ pk < (19 : Int32)) :
    own_Met l Z (⟨"com/example/libxqtype/libxqtype/ExpressionLexerIntegerValuePinLaw", "pow10", "(I)J"⟩ : MethodName) method_4_code 2 (some .long) ws ({ frames := 0, cells := 1, slots := 19, locals := 0 } : Room) #[(.int pk)] h0 (fun v h L => v = some (.long (own_pw pk)) ∧ Fr n0 L ∧ Keep h0 h []) := by
  refine own_enter (plainFor_of_name own_pn5) ?_
  intro p e s m below meth c s₁ X0 hx hZ hby hml hown hnm hret hlk e0
  have N0 := Fr.nil n0
  rw [own_p10_ef m pk]
  have KK0 : Keep h0 h0 [] := Keep.refl _ _
  show own_Fin _ _ _ _ _ _ (s₁.setTop (mkF m 0 #[.val (.int pk), .unset] []))
  refine own_to (fun t k => XS.bipush X0.here hx rfl (hb hby own_d1_0) k) ?_
  obtain ⟨T323, h323, k323, X323, e323, E323, A323, A323x, st323⟩ := newPE X0 hx hZ (own_W hw 6 rfl) e0 (g := (mkF m 2 #[.val (.int pk), .unset] [(.int (19 : Int32))])) rfl (hb hby own_d1_2) rfl (by decide) (cap := 19) (by decide) (by decide) (by decide) (by decide) (ad := "[J") (by decide)
  obtain ⟨bp, q323⟩ : ∃ z, z = h0.size := ⟨_, rfl⟩
  rw [← q323] at A323 A323x st323
  have g_bp : n0 ≤ bp := Nat.le_trans Z0 (Nat.le_of_eq q323.symm)
  have sz_bp : h0.size ≤ bp := Nat.le_trans KK0.1 (Nat.le_of_eq q323.symm)
  have KK323 : Keep h0 h323 [] := KK0.ext E323
  have V323 := Arv.new A323 (by decide)
  refine own_to (fun t k => st323 t k) ?_
  show own_Fin _ _ _ _ _ _ (T323.setTop (mkF m 4 #[.val (.int pk), .unset] [(.ref bp)]))
  have V324p : Arv Z h323 bp k323 .long (19 : Int32) [(.long (0 : Int64)), (.long (0 : Int64)), (.long (0 : Int64)), (.long (0 : Int64)), (.long (0 : Int64)), (.long (0 : Int64)), (.long (0 : Int64)), (.long (0 : Int64)), (.long (0 : Int64)), (.long (0 : Int64)), (.long (0 : Int64)), (.long (0 : Int64)), (.long (0 : Int64)), (.long (0 : Int64)), (.long (0 : Int64)), (.long (0 : Int64)), (.long (0 : Int64)), (.long (0 : Int64)), (.long (0 : Int64))] (.long (0 : Int64)) := V323.pad (pad_rep [] (.long (0 : Int64)) 19)
  refine own_to (fun t k => XS.dup X323.here hx rfl (hb hby own_d1_4) rfl rfl k) ?_
  refine own_to (fun t k => XS.iconst X323.here hx rfl (hb hby own_d1_5) k) ?_
  show own_Fin _ _ _ _ _ _ (T323.setTop (mkF m 6 #[.val (.int pk), .unset] [(.int (0 : Int32)), (.ref bp), (.ref bp)]))
  refine own_to (fun t k => XS.lconst X323.here hx rfl (hb hby own_d1_6) k) ?_
  obtain ⟨cl325, Ar325, qa325, Sa325, Na325, Ha325, Ga325⟩ := id V324p
  have hin326 : ¬ ((0 : Int32) < 0 ∨ cl325.slots.size ≤ ((0 : Int32)).toNatClampNeg) := inb_of Sa325 ⟨by decide, by decide⟩
  obtain ⟨T326, h326, X326, e326, W326, st326⟩ := stJ X323 hx hZ e323 Ar325 (j := (0 : Int32)) hin326 (g := (mkF m 7 #[.val (.int pk), .unset] [(.long (1 : Int64)), (.int (0 : Int32)), (.ref bp), (.ref bp)])) rfl rfl (hb hby own_d1_7)
  have N326 := Fr.snoc X326 N0 g_bp
  have KK326 : Keep h0 h326 [] := KK323.wr W326 (Or.inr sz_bp)
  have A323x_e326 := A323x.wr W326
  have V326 : Arv Z h326 bp k323 .long (19 : Int32) [(.long (1 : Int64)), (.long (0 : Int64)), (.long (0 : Int64)), (.long (0 : Int64)), (.long (0 : Int64)), (.long (0 : Int64)), (.long (0 : Int64)), (.long (0 : Int64)), (.long (0 : Int64)), (.long (0 : Int64)), (.long (0 : Int64)), (.long (0 : Int64)), (.long (0 : Int64)), (.long (0 : Int64)), (.long (0 : Int64)), (.long (0 : Int64)), (.long (0 : Int64)), (.long (0 : Int64)), (.long (0 : Int64))] (.long (0 : Int64)) := Arv.set Ar325 qa325 Sa325 Na325 Ha325 Ga325 rfl W326 0 rfl (Nat.le_of_ble_eq_true rfl)
  refine own_to (fun t k => st326 t k) ?_
  show own_Fin _ _ _ _ _ _ (T326.setTop (mkF m 8 #[.val (.int pk), .unset] [(.ref bp)]))
  refine own_to (fun t k => XS.dup X326.here hx rfl (hb hby own_d1_8) rfl rfl k) ?_
  refine own_to (fun t k => XS.iconst X326.here hx rfl (hb hby own_d1_9) k) ?_
  show own_Fin _ _ _ _ _ _ (T326.setTop (mkF m 10 #[.val (.int pk), .unset] [(.int (1 : Int32)), (.ref bp), (.ref bp)]))
  refine own_to (fun t k => X326.ldc2Long hx hown (mvT hZ (own_W hw 7 rfl)) (g := (mkF m 10 #[.val (.int pk), .unset] [(.int (1 : Int32)), (.ref bp), (.ref bp)])) rfl (hb hby own_d1_10) _ k) ?_
  show own_Fin _ _ _ _ _ _ (T326.setTop (mkF m 13 #[.val (.int pk), .unset] [(.long (10 : Int64)), (.int (1 : Int32)), (.ref bp), (.ref bp)]))
  obtain ⟨cl327, Ar327, qa327, Sa327, Na327, Ha327, Ga327⟩ := id V326
  have hin328 : ¬ ((1 : Int32) < 0 ∨ cl327.slots.size ≤ ((1 : Int32)).toNatClampNeg) := inb_of Sa327 ⟨by decide, by decide⟩
  obtain ⟨T328, h328, X328, e328, W328, st328⟩ := stJ X326 hx hZ e326 Ar327 (j := (1 : Int32)) hin328 (g := (mkF m 13 #[.val (.int pk), .unset] [(.long (10 : Int64)), (.int (1 : Int32)), (.ref bp), (.ref bp)])) rfl rfl (hb hby own_d1_13)
  have N328 := Fr.snoc X328 N326 g_bp
  have KK328 : Keep h0 h328 [] := KK326.wr W328 (Or.inr sz_bp)
  have A323x_e328 := A323x_e326.wr W328
  have V328 : Arv Z h328 bp k323 .long (19 : Int32) [(.long (1 : Int64)), (.long (10 : Int64)), (.long (0 : Int64)), (.long (0 : Int64)), (.long (0 : Int64)), (.long (0 : Int64)), (.long (0 : Int64)), (.long (0 : Int64)), (.long (0 : Int64)), (.long (0 : Int64)), (.long (0 : Int64)), (.long (0 : Int64)), (.long (0 : Int64)), (.long (0 : Int64)), (.long (0 : Int64)), (.long (0 : Int64)), (.long (0 : Int64)), (.long (0 : Int64)), (.long (0 : Int64))] (.long (0 : Int64)) := Arv.set Ar327 qa327 Sa327 Na327 Ha327 Ga327 rfl W328 1 rfl (Nat.le_of_ble_eq_true rfl)
  refine own_to (fun t k => st328 t k) ?_
  show own_Fin _ _ _ _ _ _ (T328.setTop (mkF m 14 #[.val (.int pk), .unset] [(.ref bp)]))
  refine own_to (fun t k => XS.dup X328.here hx rfl (hb hby own_d1_14) rfl rfl k) ?_
  refine own_to (fun t k => XS.iconst X328.here hx rfl (hb hby own_d1_15) k) ?_
  refine own_to (fun t k => X328.ldc2Long hx hown (mvT hZ (own_W hw 8 rfl)) (g := (mkF m 16 #[.val (.int pk), .unset] [(.int (2 : Int32)), (.ref bp), (.ref bp)])) rfl (hb hby own_d1_16) _ k) ?_
  show own_Fin _ _ _ _ _ _ (T328.setTop (mkF m 19 #[.val (.int pk), .unset] [(.long (100 : Int64)), (.int (2 : Int32)), (.ref bp), (.ref bp)]))
  obtain ⟨cl329, Ar329, qa329, Sa329, Na329, Ha329, Ga329⟩ := id V328
  have hin330 : ¬ ((2 : Int32) < 0 ∨ cl329.slots.size ≤ ((2 : Int32)).toNatClampNeg) := inb_of Sa329 ⟨by decide, by decide⟩
  obtain ⟨T330, h330, X330, e330, W330, st330⟩ := stJ X328 hx hZ e328 Ar329 (j := (2 : Int32)) hin330 (g := (mkF m 19 #[.val (.int pk), .unset] [(.long (100 : Int64)), (.int (2 : Int32)), (.ref bp), (.ref bp)])) rfl rfl (hb hby own_d1_19)
  have N330 := Fr.snoc X330 N328 g_bp
  have KK330 : Keep h0 h330 [] := KK328.wr W330 (Or.inr sz_bp)
  have A323x_e330 := A323x_e328.wr W330
  have V330 : Arv Z h330 bp k323 .long (19 : Int32) [(.long (1 : Int64)), (.long (10 : Int64)), (.long (100 : Int64)), (.long (0 : Int64)), (.long (0 : Int64)), (.long (0 : Int64)), (.long (0 : Int64)), (.long (0 : Int64)), (.long (0 : Int64)), (.long (0 : Int64)), (.long (0 : Int64)), (.long (0 : Int64)), (.long (0 : Int64)), (.long (0 : Int64)), (.long (0 : Int64)), (.long (0 : Int64)), (.long (0 : Int64)), (.long (0 : Int64)), (.long (0 : Int64))] (.long (0 : Int64)) := Arv.set Ar329 qa329 Sa329 Na329 Ha329 Ga329 rfl W330 2 rfl (Nat.le_of_ble_eq_true rfl)
  have zs331 := (Nat.le_trans (Nat.le_trans (Nat.le_trans Z0 E323.1) (Keep.of_wr W326).1) (Keep.of_wr W328).1)
  refine own_to (fun t k => st330 t k) ?_
  show own_Fin _ _ _ _ _ _ (T330.setTop (mkF m 20 #[.val (.int pk), .unset] [(.ref bp)]))
  refine own_to (fun t k => XS.dup X330.here hx rfl (hb hby own_d1_20) rfl rfl k) ?_
  show own_Fin _ _ _ _ _ _ (T330.setTop (mkF m 21 #[.val (.int pk), .unset] [(.ref bp), (.ref bp)]))
  refine own_to (fun t k => XS.iconst X330.here hx rfl (hb hby own_d1_21) k) ?_
  refine own_to (fun t k => X330.ldc2Long hx hown (mvT hZ (own_W hw 9 rfl)) (g := (mkF m 22 #[.val (.int pk), .unset] [(.int (3 : Int32)), (.ref bp), (.ref bp)])) rfl (hb hby own_d1_22) _ k) ?_
  show own_Fin _ _ _ _ _ _ (T330.setTop (mkF m 25 #[.val (.int pk), .unset] [(.long (1000 : Int64)), (.int (3 : Int32)), (.ref bp), (.ref bp)]))
  obtain ⟨cl332, Ar332, qa332, Sa332, Na332, Ha332, Ga332⟩ := id V330
  have hin333 : ¬ ((3 : Int32) < 0 ∨ cl332.slots.size ≤ ((3 : Int32)).toNatClampNeg) := inb_of Sa332 ⟨by decide, by decide⟩
  obtain ⟨T333, h333, X333, e333, W333, st333⟩ := stJ X330 hx hZ e330 Ar332 (j := (3 : Int32)) hin333 (g := (mkF m 25 #[.val (.int pk), .unset] [(.long (1000 : Int64)), (.int (3 : Int32)), (.ref bp), (.ref bp)])) rfl rfl (hb hby own_d1_25)
  have N333 := Fr.snoc X333 N330 g_bp
  have KK333 : Keep h0 h333 [] := KK330.wr W333 (Or.inr sz_bp)
  have A323x_e333 := A323x_e330.wr W333
  have V333 : Arv Z h333 bp k323 .long (19 : Int32) [(.long (1 : Int64)), (.long (10 : Int64)), (.long (100 : Int64)), (.long (1000 : Int64)), (.long (0 : Int64)), (.long (0 : Int64)), (.long (0 : Int64)), (.long (0 : Int64)), (.long (0 : Int64)), (.long (0 : Int64)), (.long (0 : Int64)), (.long (0 : Int64)), (.long (0 : Int64)), (.long (0 : Int64)), (.long (0 : Int64)), (.long (0 : Int64)), (.long (0 : Int64)), (.long (0 : Int64)), (.long (0 : Int64))] (.long (0 : Int64)) := Arv.set Ar332 qa332 Sa332 Na332 Ha332 Ga332 rfl W333 3 rfl (Nat.le_of_ble_eq_true rfl)
  refine own_to (fun t k => st333 t k) ?_
  show own_Fin _ _ _ _ _ _ (T333.setTop (mkF m 26 #[.val (.int pk), .unset] [(.ref bp)]))
  refine own_to (fun t k => XS.dup X333.here hx rfl (hb hby own_d1_26) rfl rfl k) ?_
  refine own_to (fun t k => XS.iconst X333.here hx rfl (hb hby own_d1_27) k) ?_
  show own_Fin _ _ _ _ _ _ (T333.setTop (mkF m 28 #[.val (.int pk), .unset] [(.int (4 : Int32)), (.ref bp), (.ref bp)]))
  refine own_to (fun t k => X333.ldc2Long hx hown (mvT hZ (own_W hw 10 rfl)) (g := (mkF m 28 #[.val (.int pk), .unset] [(.int (4 : Int32)), (.ref bp), (.ref bp)])) rfl (hb hby own_d1_28) _ k) ?_
  show own_Fin _ _ _ _ _ _ (T333.setTop (mkF m 31 #[.val (.int pk), .unset] [(.long (10000 : Int64)), (.int (4 : Int32)), (.ref bp), (.ref bp)]))
  obtain ⟨cl334, Ar334, qa334, Sa334, Na334, Ha334, Ga334⟩ := id V333
  have hin335 : ¬ ((4 : Int32) < 0 ∨ cl334.slots.size ≤ ((4 : Int32)).toNatClampNeg) := inb_of Sa334 ⟨by decide, by decide⟩
  obtain ⟨T335, h335, X335, e335, W335, st335⟩ := stJ X333 hx hZ e333 Ar334 (j := (4 : Int32)) hin335 (g := (mkF m 31 #[.val (.int pk), .unset] [(.long (10000 : Int64)), (.int (4 : Int32)), (.ref bp), (.ref bp)])) rfl rfl (hb hby own_d1_31)
  have N335 := Fr.snoc X335 N333 g_bp
  have KK335 : Keep h0 h335 [] := KK333.wr W335 (Or.inr sz_bp)
  have A323x_e335 := A323x_e333.wr W335
  have V335 : Arv Z h335 bp k323 .long (19 : Int32) [(.long (1 : Int64)), (.long (10 : Int64)), (.long (100 : Int64)), (.long (1000 : Int64)), (.long (10000 : Int64)), (.long (0 : Int64)), (.long (0 : Int64)), (.long (0 : Int64)), (.long (0 : Int64)), (.long (0 : Int64)), (.long (0 : Int64)), (.long (0 : Int64)), (.long (0 : Int64)), (.long (0 : Int64)), (.long (0 : Int64)), (.long (0 : Int64)), (.long (0 : Int64)), (.long (0 : Int64)), (.long (0 : Int64))] (.long (0 : Int64)) := Arv.set Ar334 qa334 Sa334 Na334 Ha334 Ga334 rfl W335 4 rfl (Nat.le_of_ble_eq_true rfl)
  refine own_to (fun t k => st335 t k) ?_
  show own_Fin _ _ _ _ _ _ (T335.setTop (mkF m 32 #[.val (.int pk), .unset] [(.ref bp)]))
  refine own_to (fun t k => XS.dup X335.here hx rfl (hb hby own_d1_32) rfl rfl k) ?_
  refine own_to (fun t k => XS.iconst X335.here hx rfl (hb hby own_d1_33) k) ?_
  refine own_to (fun t k => X335.ldc2Long hx hown (mvT hZ (own_W hw 11 rfl)) (g := (mkF m 34 #[.val (.int pk), .unset] [(.int (5 : Int32)), (.ref bp), (.ref bp)])) rfl (hb hby own_d1_34) _ k) ?_
  show own_Fin _ _ _ _ _ _ (T335.setTop (mkF m 37 #[.val (.int pk), .unset] [(.long (100000 : Int64)), (.int (5 : Int32)), (.ref bp), (.ref bp)]))
  obtain ⟨cl336, Ar336, qa336, Sa336, Na336, Ha336, Ga336⟩ := id V335
  have hin337 : ¬ ((5 : Int32) < 0 ∨ cl336.slots.size ≤ ((5 : Int32)).toNatClampNeg) := inb_of Sa336 ⟨by decide, by decide⟩
  obtain ⟨T337, h337, X337, e337, W337, st337⟩ := stJ X335 hx hZ e335 Ar336 (j := (5 : Int32)) hin337 (g := (mkF m 37 #[.val (.int pk), .unset] [(.long (100000 : Int64)), (.int (5 : Int32)), (.ref bp), (.ref bp)])) rfl rfl (hb hby own_d1_37)
  have N337 := Fr.snoc X337 N335 g_bp
  have KK337 : Keep h0 h337 [] := KK335.wr W337 (Or.inr sz_bp)
  have A323x_e337 := A323x_e335.wr W337
  have V337 : Arv Z h337 bp k323 .long (19 : Int32) [(.long (1 : Int64)), (.long (10 : Int64)), (.long (100 : Int64)), (.long (1000 : Int64)), (.long (10000 : Int64)), (.long (100000 : Int64)), (.long (0 : Int64)), (.long (0 : Int64)), (.long (0 : Int64)), (.long (0 : Int64)), (.long (0 : Int64)), (.long (0 : Int64)), (.long (0 : Int64)), (.long (0 : Int64)), (.long (0 : Int64)), (.long (0 : Int64)), (.long (0 : Int64)), (.long (0 : Int64)), (.long (0 : Int64))] (.long (0 : Int64)) := Arv.set Ar336 qa336 Sa336 Na336 Ha336 Ga336 rfl W337 5 rfl (Nat.le_of_ble_eq_true rfl)
  have zs338 := (Nat.le_trans (Nat.le_trans (Nat.le_trans zs331 (Keep.of_wr W330).1) (Keep.of_wr W333).1) (Keep.of_wr W335).1)
  refine own_to (fun t k => st337 t k) ?_
  show own_Fin _ _ _ _ _ _ (T337.setTop (mkF m 38 #[.val (.int pk), .unset] [(.ref bp)]))
  refine own_to (fun t k => XS.dup X337.here hx rfl (hb hby own_d1_38) rfl rfl k) ?_
  show own_Fin _ _ _ _ _ _ (T337.setTop (mkF m 39 #[.val (.int pk), .unset] [(.ref bp), (.ref bp)]))
  refine own_to (fun t k => XS.bipush X337.here hx rfl (hb hby own_d1_39) k) ?_
  refine own_to (fun t k => X337.ldc2Long hx hown (mvT hZ (own_W hw 12 rfl)) (g := (mkF m 41 #[.val (.int pk), .unset] [(.int (6 : Int32)), (.ref bp), (.ref bp)])) rfl (hb hby own_d1_41) _ k) ?_
  show own_Fin _ _ _ _ _ _ (T337.setTop (mkF m 44 #[.val (.int pk), .unset] [(.long (1000000 : Int64)), (.int (6 : Int32)), (.ref bp), (.ref bp)]))
  obtain ⟨cl339, Ar339, qa339, Sa339, Na339, Ha339, Ga339⟩ := id V337
  have hin340 : ¬ ((6 : Int32) < 0 ∨ cl339.slots.size ≤ ((6 : Int32)).toNatClampNeg) := inb_of Sa339 ⟨by decide, by decide⟩
  obtain ⟨T340, h340, X340, e340, W340, st340⟩ := stJ X337 hx hZ e337 Ar339 (j := (6 : Int32)) hin340 (g := (mkF m 44 #[.val (.int pk), .unset] [(.long (1000000 : Int64)), (.int (6 : Int32)), (.ref bp), (.ref bp)])) rfl rfl (hb hby own_d1_44)
  have N340 := Fr.snoc X340 N337 g_bp
  have KK340 : Keep h0 h340 [] := KK337.wr W340 (Or.inr sz_bp)
  have A323x_e340 := A323x_e337.wr W340
  have V340 : Arv Z h340 bp k323 .long (19 : Int32) [(.long (1 : Int64)), (.long (10 : Int64)), (.long (100 : Int64)), (.long (1000 : Int64)), (.long (10000 : Int64)), (.long (100000 : Int64)), (.long (1000000 : Int64)), (.long (0 : Int64)), (.long (0 : Int64)), (.long (0 : Int64)), (.long (0 : Int64)), (.long (0 : Int64)), (.long (0 : Int64)), (.long (0 : Int64)), (.long (0 : Int64)), (.long (0 : Int64)), (.long (0 : Int64)), (.long (0 : Int64)), (.long (0 : Int64))] (.long (0 : Int64)) := Arv.set Ar339 qa339 Sa339 Na339 Ha339 Ga339 rfl W340 6 rfl (Nat.le_of_ble_eq_true rfl)
  refine own_to (fun t k => st340 t k) ?_
  show own_Fin _ _ _ _ _ _ (T340.setTop (mkF m 45 #[.val (.int pk), .unset] [(.ref bp)]))
  refine own_to (fun t k => XS.dup X340.here hx rfl (hb hby own_d1_45) rfl rfl k) ?_
  refine own_to (fun t k => XS.bipush X340.here hx rfl (hb hby own_d1_46) k) ?_
  show own_Fin _ _ _ _ _ _ (T340.setTop (mkF m 48 #[.val (.int pk), .unset] [(.int (7 : Int32)), (.ref bp), (.ref bp)]))
  refine own_to (fun t k => X340.ldc2Long hx hown (mvT hZ (own_W hw 13 rfl)) (g := (mkF m 48 #[.val (.int pk), .unset] [(.int (7 : Int32)), (.ref bp), (.ref bp)])) rfl (hb hby own_d1_48) _ k) ?_
  show own_Fin _ _ _ _ _ _ (T340.setTop (mkF m 51 #[.val (.int pk), .unset] [(.long (10000000 : Int64)), (.int (7 : Int32)), (.ref bp), (.ref bp)]))
  obtain ⟨cl341, Ar341, qa341, Sa341, Na341, Ha341, Ga341⟩ := id V340
  have hin342 : ¬ ((7 : Int32) < 0 ∨ cl341.slots.size ≤ ((7 : Int32)).toNatClampNeg) := inb_of Sa341 ⟨by decide, by decide⟩
  obtain ⟨T342, h342, X342, e342, W342, st342⟩ := stJ X340 hx hZ e340 Ar341 (j := (7 : Int32)) hin342 (g := (mkF m 51 #[.val (.int pk), .unset] [(.long (10000000 : Int64)), (.int (7 : Int32)), (.ref bp), (.ref bp)])) rfl rfl (hb hby own_d1_51)
  have N342 := Fr.snoc X342 N340 g_bp
  have KK342 : Keep h0 h342 [] := KK340.wr W342 (Or.inr sz_bp)
  have A323x_e342 := A323x_e340.wr W342
  have V342 : Arv Z h342 bp k323 .long (19 : Int32) [(.long (1 : Int64)), (.long (10 : Int64)), (.long (100 : Int64)), (.long (1000 : Int64)), (.long (10000 : Int64)), (.long (100000 : Int64)), (.long (1000000 : Int64)), (.long (10000000 : Int64)), (.long (0 : Int64)), (.long (0 : Int64)), (.long (0 : Int64)), (.long (0 : Int64)), (.long (0 : Int64)), (.long (0 : Int64)), (.long (0 : Int64)), (.long (0 : Int64)), (.long (0 : Int64)), (.long (0 : Int64)), (.long (0 : Int64))] (.long (0 : Int64)) := Arv.set Ar341 qa341 Sa341 Na341 Ha341 Ga341 rfl W342 7 rfl (Nat.le_of_ble_eq_true rfl)
  refine own_to (fun t k => st342 t k) ?_
  show own_Fin _ _ _ _ _ _ (T342.setTop (mkF m 52 #[.val (.int pk), .unset] [(.ref bp)]))
  refine own_to (fun t k => XS.dup X342.here hx rfl (hb hby own_d1_52) rfl rfl k) ?_
  refine own_to (fun t k => XS.bipush X342.here hx rfl (hb hby own_d1_53) k) ?_
  refine own_to (fun t k => X342.ldc2Long hx hown (mvT hZ (own_W hw 14 rfl)) (g := (mkF m 55 #[.val (.int pk), .unset] [(.int (8 : Int32)), (.ref bp), (.ref bp)])) rfl (hb hby own_d1_55) _ k) ?_
  show own_Fin _ _ _ _ _ _ (T342.setTop (mkF m 58 #[.val (.int pk), .unset] [(.long (100000000 : Int64)), (.int (8 : Int32)), (.ref bp), (.ref bp)]))
  obtain ⟨cl343, Ar343, qa343, Sa343, Na343, Ha343, Ga343⟩ := id V342
  have hin344 : ¬ ((8 : Int32) < 0 ∨ cl343.slots.size ≤ ((8 : Int32)).toNatClampNeg) := inb_of Sa343 ⟨by decide, by decide⟩
  obtain ⟨T344, h344, X344, e344, W344, st344⟩ := stJ X342 hx hZ e342 Ar343 (j := (8 : Int32)) hin344 (g := (mkF m 58 #[.val (.int pk), .unset] [(.long (100000000 : Int64)), (.int (8 : Int32)), (.ref bp), (.ref bp)])) rfl rfl (hb hby own_d1_58)
  have N344 := Fr.snoc X344 N342 g_bp
  have KK344 : Keep h0 h344 [] := KK342.wr W344 (Or.inr sz_bp)
  have A323x_e344 := A323x_e342.wr W344
  have V344 : Arv Z h344 bp k323 .long (19 : Int32) [(.long (1 : Int64)), (.long (10 : Int64)), (.long (100 : Int64)), (.long (1000 : Int64)), (.long (10000 : Int64)), (.long (100000 : Int64)), (.long (1000000 : Int64)), (.long (10000000 : Int64)), (.long (100000000 : Int64)), (.long (0 : Int64)), (.long (0 : Int64)), (.long (0 : Int64)), (.long (0 : Int64)), (.long (0 : Int64)), (.long (0 : Int64)), (.long (0 : Int64)), (.long (0 : Int64)), (.long (0 : Int64)), (.long (0 : Int64))] (.long (0 : Int64)) := Arv.set Ar343 qa343 Sa343 Na343 Ha343 Ga343 rfl W344 8 rfl (Nat.le_of_ble_eq_true rfl)
  have zs345 := (Nat.le_trans (Nat.le_trans (Nat.le_trans zs338 (Keep.of_wr W337).1) (Keep.of_wr W340).1) (Keep.of_wr W342).1)
  refine own_to (fun t k => st344 t k) ?_
  show own_Fin _ _ _ _ _ _ (T344.setTop (mkF m 59 #[.val (.int pk), .unset] [(.ref bp)]))
  refine own_to (fun t k => XS.dup X344.here hx rfl (hb hby own_d1_59) rfl rfl k) ?_
  show own_Fin _ _ _ _ _ _ (T344.setTop (mkF m 60 #[.val (.int pk), .unset] [(.ref bp), (.ref bp)]))
  refine own_to (fun t k => XS.bipush X344.here hx rfl (hb hby own_d1_60) k) ?_
  refine own_to (fun t k => X344.ldc2Long hx hown (mvT hZ (own_W hw 15 rfl)) (g := (mkF m 62 #[.val (.int pk), .unset] [(.int (9 : Int32)), (.ref bp), (.ref bp)])) rfl (hb hby own_d1_62) _ k) ?_
  show own_Fin _ _ _ _ _ _ (T344.setTop (mkF m 65 #[.val (.int pk), .unset] [(.long (1000000000 : Int64)), (.int (9 : Int32)), (.ref bp), (.ref bp)]))
  obtain ⟨cl346, Ar346, qa346, Sa346, Na346, Ha346, Ga346⟩ := id V344
  have hin347 : ¬ ((9 : Int32) < 0 ∨ cl346.slots.size ≤ ((9 : Int32)).toNatClampNeg) := inb_of Sa346 ⟨by decide, by decide⟩
  obtain ⟨T347, h347, X347, e347, W347, st347⟩ := stJ X344 hx hZ e344 Ar346 (j := (9 : Int32)) hin347 (g := (mkF m 65 #[.val (.int pk), .unset] [(.long (1000000000 : Int64)), (.int (9 : Int32)), (.ref bp), (.ref bp)])) rfl rfl (hb hby own_d1_65)
  have N347 := Fr.snoc X347 N344 g_bp
  have KK347 : Keep h0 h347 [] := KK344.wr W347 (Or.inr sz_bp)
  have A323x_e347 := A323x_e344.wr W347
  have V347 : Arv Z h347 bp k323 .long (19 : Int32) [(.long (1 : Int64)), (.long (10 : Int64)), (.long (100 : Int64)), (.long (1000 : Int64)), (.long (10000 : Int64)), (.long (100000 : Int64)), (.long (1000000 : Int64)), (.long (10000000 : Int64)), (.long (100000000 : Int64)), (.long (1000000000 : Int64)), (.long (0 : Int64)), (.long (0 : Int64)), (.long (0 : Int64)), (.long (0 : Int64)), (.long (0 : Int64)), (.long (0 : Int64)), (.long (0 : Int64)), (.long (0 : Int64)), (.long (0 : Int64))] (.long (0 : Int64)) := Arv.set Ar346 qa346 Sa346 Na346 Ha346 Ga346 rfl W347 9 rfl (Nat.le_of_ble_eq_true rfl)
  refine own_to (fun t k => st347 t k) ?_
  show own_Fin _ _ _ _ _ _ (T347.setTop (mkF m 66 #[.val (.int pk), .unset] [(.ref bp)]))
  refine own_to (fun t k => XS.dup X347.here hx rfl (hb hby own_d1_66) rfl rfl k) ?_
  refine own_to (fun t k => XS.bipush X347.here hx rfl (hb hby own_d1_67) k) ?_
  show own_Fin _ _ _ _ _ _ (T347.setTop (mkF m 69 #[.val (.int pk), .unset] [(.int (10 : Int32)), (.ref bp), (.ref bp)]))
  refine own_to (fun t k => X347.ldc2Long hx hown (mvT hZ (own_W hw 16 rfl)) (g := (mkF m 69 #[.val (.int pk), .unset] [(.int (10 : Int32)), (.ref bp), (.ref bp)])) rfl (hb hby own_d1_69) _ k) ?_
  show own_Fin _ _ _ _ _ _ (T347.setTop (mkF m 72 #[.val (.int pk), .unset] [(.long (10000000000 : Int64)), (.int (10 : Int32)), (.ref bp), (.ref bp)]))
  obtain ⟨cl348, Ar348, qa348, Sa348, Na348, Ha348, Ga348⟩ := id V347
  have hin349 : ¬ ((10 : Int32) < 0 ∨ cl348.slots.size ≤ ((10 : Int32)).toNatClampNeg) := inb_of Sa348 ⟨by decide, by decide⟩
  obtain ⟨T349, h349, X349, e349, W349, st349⟩ := stJ X347 hx hZ e347 Ar348 (j := (10 : Int32)) hin349 (g := (mkF m 72 #[.val (.int pk), .unset] [(.long (10000000000 : Int64)), (.int (10 : Int32)), (.ref bp), (.ref bp)])) rfl rfl (hb hby own_d1_72)
  have N349 := Fr.snoc X349 N347 g_bp
  have KK349 : Keep h0 h349 [] := KK347.wr W349 (Or.inr sz_bp)
  have A323x_e349 := A323x_e347.wr W349
  have V349 : Arv Z h349 bp k323 .long (19 : Int32) [(.long (1 : Int64)), (.long (10 : Int64)), (.long (100 : Int64)), (.long (1000 : Int64)), (.long (10000 : Int64)), (.long (100000 : Int64)), (.long (1000000 : Int64)), (.long (10000000 : Int64)), (.long (100000000 : Int64)), (.long (1000000000 : Int64)), (.long (10000000000 : Int64)), (.long (0 : Int64)), (.long (0 : Int64)), (.long (0 : Int64)), (.long (0 : Int64)), (.long (0 : Int64)), (.long (0 : Int64)), (.long (0 : Int64)), (.long (0 : Int64))] (.long (0 : Int64)) := Arv.set Ar348 qa348 Sa348 Na348 Ha348 Ga348 rfl W349 10 rfl (Nat.le_of_ble_eq_true rfl)
  refine own_to (fun t k => st349 t k) ?_
  show own_Fin _ _ _ _ _ _ (T349.setTop (mkF m 73 #[.val (.int pk), .unset] [(.ref bp)]))
  refine own_to (fun t k => XS.dup X349.here hx rfl (hb hby own_d1_73) rfl rfl k) ?_
  refine own_to (fun t k => XS.bipush X349.here hx rfl (hb hby own_d1_74) k) ?_
  refine own_to (fun t k => X349.ldc2Long hx hown (mvT hZ (own_W hw 17 rfl)) (g := (mkF m 76 #[.val (.int pk), .unset] [(.int (11 : Int32)), (.ref bp), (.ref bp)])) rfl (hb hby own_d1_76) _ k) ?_
  show own_Fin _ _ _ _ _ _ (T349.setTop (mkF m 79 #[.val (.int pk), .unset] [(.long (100000000000 : Int64)), (.int (11 : Int32)), (.ref bp), (.ref bp)]))
  obtain ⟨cl350, Ar350, qa350, Sa350, Na350, Ha350, Ga350⟩ := id V349
  have hin351 : ¬ ((11 : Int32) < 0 ∨ cl350.slots.size ≤ ((11 : Int32)).toNatClampNeg) := inb_of Sa350 ⟨by decide, by decide⟩
  obtain ⟨T351, h351, X351, e351, W351, st351⟩ := stJ X349 hx hZ e349 Ar350 (j := (11 : Int32)) hin351 (g := (mkF m 79 #[.val (.int pk), .unset] [(.long (100000000000 : Int64)), (.int (11 : Int32)), (.ref bp), (.ref bp)])) rfl rfl (hb hby own_d1_79)
  have N351 := Fr.snoc X351 N349 g_bp
  have KK351 : Keep h0 h351 [] := KK349.wr W351 (Or.inr sz_bp)
  have A323x_e351 := A323x_e349.wr W351
  have V351 : Arv Z h351 bp k323 .long (19 : Int32) [(.long (1 : Int64)), (.long (10 : Int64)), (.long (100 : Int64)), (.long (1000 : Int64)), (.long (10000 : Int64)), (.long (100000 : Int64)), (.long (1000000 : Int64)), (.long (10000000 : Int64)), (.long (100000000 : Int64)), (.long (1000000000 : Int64)), (.long (10000000000 : Int64)), (.long (100000000000 : Int64)), (.long (0 : Int64)), (.long (0 : Int64)), (.long (0 : Int64)), (.long (0 : Int64)), (.long (0 : Int64)), (.long (0 : Int64)), (.long (0 : Int64))] (.long (0 : Int64)) := Arv.set Ar350 qa350 Sa350 Na350 Ha350 Ga350 rfl W351 11 rfl (Nat.le_of_ble_eq_true rfl)
  have zs352 := (Nat.le_trans (Nat.le_trans (Nat.le_trans zs345 (Keep.of_wr W344).1) (Keep.of_wr W347).1) (Keep.of_wr W349).1)
  refine own_to (fun t k => st351 t k) ?_
  show own_Fin _ _ _ _ _ _ (T351.setTop (mkF m 80 #[.val (.int pk), .unset] [(.ref bp)]))
  refine own_to (fun t k => XS.dup X351.here hx rfl (hb hby own_d1_80) rfl rfl k) ?_
  show own_Fin _ _ _ _ _ _ (T351.setTop (mkF m 81 #[.val (.int pk), .unset] [(.ref bp), (.ref bp)]))
  refine own_to (fun t k => XS.bipush X351.here hx rfl (hb hby own_d1_81) k) ?_
  refine own_to (fun t k => X351.ldc2Long hx hown (mvT hZ (own_W hw 18 rfl)) (g := (mkF m 83 #[.val (.int pk), .unset] [(.int (12 : Int32)), (.ref bp), (.ref bp)])) rfl (hb hby own_d1_83) _ k) ?_
  show own_Fin _ _ _ _ _ _ (T351.setTop (mkF m 86 #[.val (.int pk), .unset] [(.long (1000000000000 : Int64)), (.int (12 : Int32)), (.ref bp), (.ref bp)]))
  obtain ⟨cl353, Ar353, qa353, Sa353, Na353, Ha353, Ga353⟩ := id V351
  have hin354 : ¬ ((12 : Int32) < 0 ∨ cl353.slots.size ≤ ((12 : Int32)).toNatClampNeg) := inb_of Sa353 ⟨by decide, by decide⟩
  obtain ⟨T354, h354, X354, e354, W354, st354⟩ := stJ X351 hx hZ e351 Ar353 (j := (12 : Int32)) hin354 (g := (mkF m 86 #[.val (.int pk), .unset] [(.long (1000000000000 : Int64)), (.int (12 : Int32)), (.ref bp), (.ref bp)])) rfl rfl (hb hby own_d1_86)
  have N354 := Fr.snoc X354 N351 g_bp
  have KK354 : Keep h0 h354 [] := KK351.wr W354 (Or.inr sz_bp)
  have A323x_e354 := A323x_e351.wr W354
  have V354 : Arv Z h354 bp k323 .long (19 : Int32) [(.long (1 : Int64)), (.long (10 : Int64)), (.long (100 : Int64)), (.long (1000 : Int64)), (.long (10000 : Int64)), (.long (100000 : Int64)), (.long (1000000 : Int64)), (.long (10000000 : Int64)), (.long (100000000 : Int64)), (.long (1000000000 : Int64)), (.long (10000000000 : Int64)), (.long (100000000000 : Int64)), (.long (1000000000000 : Int64)), (.long (0 : Int64)), (.long (0 : Int64)), (.long (0 : Int64)), (.long (0 : Int64)), (.long (0 : Int64)), (.long (0 : Int64))] (.long (0 : Int64)) := Arv.set Ar353 qa353 Sa353 Na353 Ha353 Ga353 rfl W354 12 rfl (Nat.le_of_ble_eq_true rfl)
  refine own_to (fun t k => st354 t k) ?_
  show own_Fin _ _ _ _ _ _ (T354.setTop (mkF m 87 #[.val (.int pk), .unset] [(.ref bp)]))
  refine own_to (fun t k => XS.dup X354.here hx rfl (hb hby own_d1_87) rfl rfl k) ?_
  refine own_to (fun t k => XS.bipush X354.here hx rfl (hb hby own_d1_88) k) ?_
  show own_Fin _ _ _ _ _ _ (T354.setTop (mkF m 90 #[.val (.int pk), .unset] [(.int (13 : Int32)), (.ref bp), (.ref bp)]))
  refine own_to (fun t k => X354.ldc2Long hx hown (mvT hZ (own_W hw 19 rfl)) (g := (mkF m 90 #[.val (.int pk), .unset] [(.int (13 : Int32)), (.ref bp), (.ref bp)])) rfl (hb hby own_d1_90) _ k) ?_
  show own_Fin _ _ _ _ _ _ (T354.setTop (mkF m 93 #[.val (.int pk), .unset] [(.long (10000000000000 : Int64)), (.int (13 : Int32)), (.ref bp), (.ref bp)]))
  obtain ⟨cl355, Ar355, qa355, Sa355, Na355, Ha355, Ga355⟩ := id V354
  have hin356 : ¬ ((13 : Int32) < 0 ∨ cl355.slots.size ≤ ((13 : Int32)).toNatClampNeg) := inb_of Sa355 ⟨by decide, by decide⟩
  obtain ⟨T356, h356, X356, e356, W356, st356⟩ := stJ X354 hx hZ e354 Ar355 (j := (13 : Int32)) hin356 (g := (mkF m 93 #[.val (.int pk), .unset] [(.long (10000000000000 : Int64)), (.int (13 : Int32)), (.ref bp), (.ref bp)])) rfl rfl (hb hby own_d1_93)
  have N356 := Fr.snoc X356 N354 g_bp
  have KK356 : Keep h0 h356 [] := KK354.wr W356 (Or.inr sz_bp)
  have A323x_e356 := A323x_e354.wr W356
  have V356 : Arv Z h356 bp k323 .long (19 : Int32) [(.long (1 : Int64)), (.long (10 : Int64)), (.long (100 : Int64)), (.long (1000 : Int64)), (.long (10000 : Int64)), (.long (100000 : Int64)), (.long (1000000 : Int64)), (.long (10000000 : Int64)), (.long (100000000 : Int64)), (.long (1000000000 : Int64)), (.long (10000000000 : Int64)), (.long (100000000000 : Int64)), (.long (1000000000000 : Int64)), (.long (10000000000000 : Int64)), (.long (0 : Int64)), (.long (0 : Int64)), (.long (0 : Int64)), (.long (0 : Int64)), (.long (0 : Int64))] (.long (0 : Int64)) := Arv.set Ar355 qa355 Sa355 Na355 Ha355 Ga355 rfl W356 13 rfl (Nat.le_of_ble_eq_true rfl)
  refine own_to (fun t k => st356 t k) ?_
  show own_Fin _ _ _ _ _ _ (T356.setTop (mkF m 94 #[.val (.int pk), .unset] [(.ref bp)]))
  refine own_to (fun t k => XS.dup X356.here hx rfl (hb hby own_d1_94) rfl rfl k) ?_
  refine own_to (fun t k => XS.bipush X356.here hx rfl (hb hby own_d1_95) k) ?_
  refine own_to (fun t k => X356.ldc2Long hx hown (mvT hZ (own_W hw 20 rfl)) (g := (mkF m 97 #[.val (.int pk), .unset] [(.int (14 : Int32)), (.ref bp), (.ref bp)])) rfl (hb hby own_d1_97) _ k) ?_
  show own_Fin _ _ _ _ _ _ (T356.setTop (mkF m 100 #[.val (.int pk), .unset] [(.long (100000000000000 : Int64)), (.int (14 : Int32)), (.ref bp), (.ref bp)]))
  obtain ⟨cl357, Ar357, qa357, Sa357, Na357, Ha357, Ga357⟩ := id V356
  have hin358 : ¬ ((14 : Int32) < 0 ∨ cl357.slots.size ≤ ((14 : Int32)).toNatClampNeg) := inb_of Sa357 ⟨by decide, by decide⟩
  obtain ⟨T358, h358, X358, e358, W358, st358⟩ := stJ X356 hx hZ e356 Ar357 (j := (14 : Int32)) hin358 (g := (mkF m 100 #[.val (.int pk), .unset] [(.long (100000000000000 : Int64)), (.int (14 : Int32)), (.ref bp), (.ref bp)])) rfl rfl (hb hby own_d1_100)
  have N358 := Fr.snoc X358 N356 g_bp
  have KK358 : Keep h0 h358 [] := KK356.wr W358 (Or.inr sz_bp)
  have A323x_e358 := A323x_e356.wr W358
  have V358 : Arv Z h358 bp k323 .long (19 : Int32) [(.long (1 : Int64)), (.long (10 : Int64)), (.long (100 : Int64)), (.long (1000 : Int64)), (.long (10000 : Int64)), (.long (100000 : Int64)), (.long (1000000 : Int64)), (.long (10000000 : Int64)), (.long (100000000 : Int64)), (.long (1000000000 : Int64)), (.long (10000000000 : Int64)), (.long (100000000000 : Int64)), (.long (1000000000000 : Int64)), (.long (10000000000000 : Int64)), (.long (100000000000000 : Int64)), (.long (0 : Int64)), (.long (0 : Int64)), (.long (0 : Int64)), (.long (0 : Int64))] (.long (0 : Int64)) := Arv.set Ar357 qa357 Sa357 Na357 Ha357 Ga357 rfl W358 14 rfl (Nat.le_of_ble_eq_true rfl)
  have zs359 := (Nat.le_trans (Nat.le_trans (Nat.le_trans zs352 (Keep.of_wr W351).1) (Keep.of_wr W354).1) (Keep.of_wr W356).1)
  refine own_to (fun t k => st358 t k) ?_
  show own_Fin _ _ _ _ _ _ (T358.setTop (mkF m 101 #[.val (.int pk), .unset] [(.ref bp)]))
  refine own_to (fun t k => XS.dup X358.here hx rfl (hb hby own_d1_101) rfl rfl k) ?_
  show own_Fin _ _ _ _ _ _ (T358.setTop (mkF m 102 #[.val (.int pk), .unset] [(.ref bp), (.ref bp)]))
  refine own_to (fun t k => XS.bipush X358.here hx rfl (hb hby own_d1_102) k) ?_
  refine own_to (fun t k => X358.ldc2Long hx hown (mvT hZ (own_W hw 21 rfl)) (g := (mkF m 104 #[.val (.int pk), .unset] [(.int (15 : Int32)), (.ref bp), (.ref bp)])) rfl (hb hby own_d1_104) _ k) ?_
  show own_Fin _ _ _ _ _ _ (T358.setTop (mkF m 107 #[.val (.int pk), .unset] [(.long (1000000000000000 : Int64)), (.int (15 : Int32)), (.ref bp), (.ref bp)]))
  obtain ⟨cl360, Ar360, qa360, Sa360, Na360, Ha360, Ga360⟩ := id V358
  have hin361 : ¬ ((15 : Int32) < 0 ∨ cl360.slots.size ≤ ((15 : Int32)).toNatClampNeg) := inb_of Sa360 ⟨by decide, by decide⟩
  obtain ⟨T361, h361, X361, e361, W361, st361⟩ := stJ X358 hx hZ e358 Ar360 (j := (15 : Int32)) hin361 (g := (mkF m 107 #[.val (.int pk), .unset] [(.long (1000000000000000 : Int64)), (.int (15 : Int32)), (.ref bp), (.ref bp)])) rfl rfl (hb hby own_d1_107)
  have N361 := Fr.snoc X361 N358 g_bp
  have KK361 : Keep h0 h361 [] := KK358.wr W361 (Or.inr sz_bp)
  have A323x_e361 := A323x_e358.wr W361
  have V361 : Arv Z h361 bp k323 .long (19 : Int32) [(.long (1 : Int64)), (.long (10 : Int64)), (.long (100 : Int64)), (.long (1000 : Int64)), (.long (10000 : Int64)), (.long (100000 : Int64)), (.long (1000000 : Int64)), (.long (10000000 : Int64)), (.long (100000000 : Int64)), (.long (1000000000 : Int64)), (.long (10000000000 : Int64)), (.long (100000000000 : Int64)), (.long (1000000000000 : Int64)), (.long (10000000000000 : Int64)), (.long (100000000000000 : Int64)), (.long (1000000000000000 : Int64)), (.long (0 : Int64)), (.long (0 : Int64)), (.long (0 : Int64))] (.long (0 : Int64)) := Arv.set Ar360 qa360 Sa360 Na360 Ha360 Ga360 rfl W361 15 rfl (Nat.le_of_ble_eq_true rfl)
  refine own_to (fun t k => st361 t k) ?_
  show own_Fin _ _ _ _ _ _ (T361.setTop (mkF m 108 #[.val (.int pk), .unset] [(.ref bp)]))
  refine own_to (fun t k => XS.dup X361.here hx rfl (hb hby own_d1_108) rfl rfl k) ?_
  refine own_to (fun t k => XS.bipush X361.here hx rfl (hb hby own_d1_109) k) ?_
  show own_Fin _ _ _ _ _ _ (T361.setTop (mkF m 111 #[.val (.int pk), .unset] [(.int (16 : Int32)), (.ref bp), (.ref bp)]))
  refine own_to (fun t k => X361.ldc2Long hx hown (mvT hZ (own_W hw 22 rfl)) (g := (mkF m 111 #[.val (.int pk), .unset] [(.int (16 : Int32)), (.ref bp), (.ref bp)])) rfl (hb hby own_d1_111) _ k) ?_
  show own_Fin _ _ _ _ _ _ (T361.setTop (mkF m 114 #[.val (.int pk), .unset] [(.long (10000000000000000 : Int64)), (.int (16 : Int32)), (.ref bp), (.ref bp)]))
  obtain ⟨cl362, Ar362, qa362, Sa362, Na362, Ha362, Ga362⟩ := id V361
  have hin363 : ¬ ((16 : Int32) < 0 ∨ cl362.slots.size ≤ ((16 : Int32)).toNatClampNeg) := inb_of Sa362 ⟨by decide, by decide⟩
  obtain ⟨T363, h363, X363, e363, W363, st363⟩ := stJ X361 hx hZ e361 Ar362 (j := (16 : Int32)) hin363 (g := (mkF m 114 #[.val (.int pk), .unset] [(.long (10000000000000000 : Int64)), (.int (16 : Int32)), (.ref bp), (.ref bp)])) rfl rfl (hb hby own_d1_114)
  have N363 := Fr.snoc X363 N361 g_bp
  have KK363 : Keep h0 h363 [] := KK361.wr W363 (Or.inr sz_bp)
  have A323x_e363 := A323x_e361.wr W363
  have V363 : Arv Z h363 bp k323 .long (19 : Int32) [(.long (1 : Int64)), (.long (10 : Int64)), (.long (100 : Int64)), (.long (1000 : Int64)), (.long (10000 : Int64)), (.long (100000 : Int64)), (.long (1000000 : Int64)), (.long (10000000 : Int64)), (.long (100000000 : Int64)), (.long (1000000000 : Int64)), (.long (10000000000 : Int64)), (.long (100000000000 : Int64)), (.long (1000000000000 : Int64)), (.long (10000000000000 : Int64)), (.long (100000000000000 : Int64)), (.long (1000000000000000 : Int64)), (.long (10000000000000000 : Int64)), (.long (0 : Int64)), (.long (0 : Int64))] (.long (0 : Int64)) := Arv.set Ar362 qa362 Sa362 Na362 Ha362 Ga362 rfl W363 16 rfl (Nat.le_of_ble_eq_true rfl)
  refine own_to (fun t k => st363 t k) ?_
  show own_Fin _ _ _ _ _ _ (T363.setTop (mkF m 115 #[.val (.int pk), .unset] [(.ref bp)]))
  refine own_to (fun t k => XS.dup X363.here hx rfl (hb hby own_d1_115) rfl rfl k) ?_
  refine own_to (fun t k => XS.bipush X363.here hx rfl (hb hby own_d1_116) k) ?_
  refine own_to (fun t k => X363.ldc2Long hx hown (mvT hZ (own_W hw 23 rfl)) (g := (mkF m 118 #[.val (.int pk), .unset] [(.int (17 : Int32)), (.ref bp), (.ref bp)])) rfl (hb hby own_d1_118) _ k) ?_
  show own_Fin _ _ _ _ _ _ (T363.setTop (mkF m 121 #[.val (.int pk), .unset] [(.long (100000000000000000 : Int64)), (.int (17 : Int32)), (.ref bp), (.ref bp)]))
  obtain ⟨cl364, Ar364, qa364, Sa364, Na364, Ha364, Ga364⟩ := id V363
  have hin365 : ¬ ((17 : Int32) < 0 ∨ cl364.slots.size ≤ ((17 : Int32)).toNatClampNeg) := inb_of Sa364 ⟨by decide, by decide⟩
  obtain ⟨T365, h365, X365, e365, W365, st365⟩ := stJ X363 hx hZ e363 Ar364 (j := (17 : Int32)) hin365 (g := (mkF m 121 #[.val (.int pk), .unset] [(.long (100000000000000000 : Int64)), (.int (17 : Int32)), (.ref bp), (.ref bp)])) rfl rfl (hb hby own_d1_121)
  have N365 := Fr.snoc X365 N363 g_bp
  have KK365 : Keep h0 h365 [] := KK363.wr W365 (Or.inr sz_bp)
  have A323x_e365 := A323x_e363.wr W365
  have V365 : Arv Z h365 bp k323 .long (19 : Int32) [(.long (1 : Int64)), (.long (10 : Int64)), (.long (100 : Int64)), (.long (1000 : Int64)), (.long (10000 : Int64)), (.long (100000 : Int64)), (.long (1000000 : Int64)), (.long (10000000 : Int64)), (.long (100000000 : Int64)), (.long (1000000000 : Int64)), (.long (10000000000 : Int64)), (.long (100000000000 : Int64)), (.long (1000000000000 : Int64)), (.long (10000000000000 : Int64)), (.long (100000000000000 : Int64)), (.long (1000000000000000 : Int64)), (.long (10000000000000000 : Int64)), (.long (100000000000000000 : Int64)), (.long (0 : Int64))] (.long (0 : Int64)) := Arv.set Ar364 qa364 Sa364 Na364 Ha364 Ga364 rfl W365 17 rfl (Nat.le_of_ble_eq_true rfl)
  have zs366 := (Nat.le_trans (Nat.le_trans (Nat.le_trans zs359 (Keep.of_wr W358).1) (Keep.of_wr W361).1) (Keep.of_wr W363).1)
  refine own_to (fun t k => st365 t k) ?_
  show own_Fin _ _ _ _ _ _ (T365.setTop (mkF m 122 #[.val (.int pk), .unset] [(.ref bp)]))
  refine own_to (fun t k => XS.dup X365.here hx rfl (hb hby own_d1_122) rfl rfl k) ?_
  show own_Fin _ _ _ _ _ _ (T365.setTop (mkF m 123 #[.val (.int pk), .unset] [(.ref bp), (.ref bp)]))
  refine own_to (fun t k => XS.bipush X365.here hx rfl (hb hby own_d1_123) k) ?_
  refine own_to (fun t k => X365.ldc2Long hx hown (mvT hZ (own_W hw 24 rfl)) (g := (mkF m 125 #[.val (.int pk), .unset] [(.int (18 : Int32)), (.ref bp), (.ref bp)])) rfl (hb hby own_d1_125) _ k) ?_
  show own_Fin _ _ _ _ _ _ (T365.setTop (mkF m 128 #[.val (.int pk), .unset] [(.long (1000000000000000000 : Int64)), (.int (18 : Int32)), (.ref bp), (.ref bp)]))
  obtain ⟨cl367, Ar367, qa367, Sa367, Na367, Ha367, Ga367⟩ := id V365
  have hin368 : ¬ ((18 : Int32) < 0 ∨ cl367.slots.size ≤ ((18 : Int32)).toNatClampNeg) := inb_of Sa367 ⟨by decide, by decide⟩
  obtain ⟨T368, h368, X368, e368, W368, st368⟩ := stJ X365 hx hZ e365 Ar367 (j := (18 : Int32)) hin368 (g := (mkF m 128 #[.val (.int pk), .unset] [(.long (1000000000000000000 : Int64)), (.int (18 : Int32)), (.ref bp), (.ref bp)])) rfl rfl (hb hby own_d1_128)
  have N368 := Fr.snoc X368 N365 g_bp
  have KK368 : Keep h0 h368 [] := KK365.wr W368 (Or.inr sz_bp)
  have A323x_e368 := A323x_e365.wr W368
  have V368 : Arv Z h368 bp k323 .long (19 : Int32) [(.long (1 : Int64)), (.long (10 : Int64)), (.long (100 : Int64)), (.long (1000 : Int64)), (.long (10000 : Int64)), (.long (100000 : Int64)), (.long (1000000 : Int64)), (.long (10000000 : Int64)), (.long (100000000 : Int64)), (.long (1000000000 : Int64)), (.long (10000000000 : Int64)), (.long (100000000000 : Int64)), (.long (1000000000000 : Int64)), (.long (10000000000000 : Int64)), (.long (100000000000000 : Int64)), (.long (1000000000000000 : Int64)), (.long (10000000000000000 : Int64)), (.long (100000000000000000 : Int64)), (.long (1000000000000000000 : Int64))] (.long (0 : Int64)) := Arv.set Ar367 qa367 Sa367 Na367 Ha367 Ga367 rfl W368 18 rfl (Nat.le_of_ble_eq_true rfl)
  refine own_to (fun t k => st368 t k) ?_
  show own_Fin _ _ _ _ _ _ (T368.setTop (mkF m 129 #[.val (.int pk), .unset] [(.ref bp)]))
  have Vp369 : Arv Z h368 bp k323 .long (19 : Int32) (own_P.map Value.long) (.long (0 : Int64)) := V368
  refine own_to (fun t k => XS.astoreN X368.here hx rfl (hb hby own_d1_129) rfl rfl (l' := #[.val (.int pk), rv bp]) rfl k) ?_
  show own_Fin _ _ _ _ _ _ (T368.setTop (mkF m 130 #[.val (.int pk), rv bp] []))
  refine own_to (fun t k => XS.aloadN X368.here hx rfl (hb hby own_d1_130) rfl rfl k) ?_
  refine own_to (fun t k => XS.iloadN X368.here hx rfl (hb hby own_d1_131) rfl k) ?_
  obtain ⟨cl370, Ar370, qa370, Sa370, Na370, Ha370, Ga370⟩ := id Vp369
  have hin371 : ¬ (pk < 0 ∨ cl370.slots.size ≤ (pk).toNatClampNeg) := inb_of Sa370 hk
  refine own_to (fun t k => X368.laload hx (j := pk) (v := (.long (own_pw pk))) (by rw [e368]; exact Ar370.1) (State.isArrayOf_alike hZ.alike Ar370.2.1) Ar370.2.2 hin371 (Has.at Ha370 hin371 (own_getp _)) (g := (mkF m 132 #[.val (.int pk), rv bp] [(.int pk), (.ref bp)])) rfl rfl (hb hby own_d1_132) _ k) ?_
  show own_Fin _ _ _ _ _ _ (T368.setTop (mkF m 133 #[.val (.int pk), rv bp] [(.long (own_pw pk))]))
  refine own_retJ X368 hx hlk hret (hb hby own_d1_133) (by decide) (by decide) ?_
  try rw [e368]
  exact ⟨rfl, N368, KK368⟩
def own_wsp (p1 : Int32) : Int32 := (if (p1 &&& (3 : Int32)) = (0 : Int32) then (32 : Int32) else (if (p1 &&& (3 : Int32)) = (1 : Int32) then (9 : Int32) else (if (p1 &&& (3 : Int32)) = (2 : Int32) then (10 : Int32) else (13 : Int32))))
theorem own_d2_0 : decode method_5_code 0 = .ok (.iload_n 0, 1) := by decide +kernel
theorem own_d2_1 : decode method_5_code 1 = .ok (.iconst 3, 1) := by decide +kernel
theorem own_d2_2 : decode method_5_code 2 = .ok (.iand, 1) := by decide +kernel
theorem own_d2_3 : decode method_5_code 3 = .ok (.istore_n 1, 1) := by decide +kernel
theorem own_d2_4 : decode method_5_code 4 = .ok (.iload_n 1, 1) := by decide +kernel
theorem own_d2_5 : decode method_5_code 5 = .ok (.ifCond .ne 6, 3) := by decide +kernel
theorem own_d2_8 : decode method_5_code 8 = .ok (.bipush 32, 2) := by decide +kernel
theorem own_d2_10 : decode method_5_code 10 = .ok (.ireturn, 1) := by decide +kernel
theorem own_d2_11 : decode method_5_code 11 = .ok (.iload_n 1, 1) := by decide +kernel
theorem own_d2_12 : decode method_5_code 12 = .ok (.iconst 1, 1) := by decide +kernel
theorem own_d2_13 : decode method_5_code 13 = .ok (.if_icmp .ne 6, 3) := by decide +kernel
theorem own_d2_16 : decode method_5_code 16 = .ok (.bipush 9, 2) := by decide +kernel
theorem own_d2_18 : decode method_5_code 18 = .ok (.ireturn, 1) := by decide +kernel
theorem own_d2_19 : decode method_5_code 19 = .ok (.iload_n 1, 1) := by decide +kernel
theorem own_d2_20 : decode method_5_code 20 = .ok (.iconst 2, 1) := by decide +kernel
theorem own_d2_21 : decode method_5_code 21 = .ok (.if_icmp .ne 6, 3) := by decide +kernel
theorem own_d2_24 : decode method_5_code 24 = .ok (.bipush 10, 2) := by decide +kernel
theorem own_d2_26 : decode method_5_code 26 = .ok (.ireturn, 1) := by decide +kernel
theorem own_d2_27 : decode method_5_code 27 = .ok (.bipush 13, 2) := by decide +kernel
theorem own_d2_29 : decode method_5_code 29 = .ok (.ireturn, 1) := by decide +kernel
theorem own_wspr_ef (m : MethodId) (p1 : Int32) : entryFrame m #[(.int p1)] 2 = mkF m 0 #[.val (.int p1), .unset] [] := by first | (simp [entryFrame, mkF, argsToLocals, Value.category]; done) | rfl
set_option maxRecDepth 65536 in
set_option maxHeartbeats 40000000 in
theorem own_wspr (l : Launch) (Z : State) (a0 : Array Value) (hw : ∀ d ∈ tables_1, d.before a0 Z = true) (ws : List Jvm.Cond) (p1 : Int32) (h0 : Heap) (n0 : Nat) (Z0 : n0 ≤ h0.size) :
    own_Met l Z (⟨"com/example/libxqtype/libxqtype/ExpressionLexerIntegerValuePinLaw", "whitespace", "(I)C"⟩ : MethodName) method_5_code 2 (some .char) ws ({ frames := 0, cells := 0, slots := 0, locals := 0 } : Room) #[(.int p1)] h0 (fun v h L => v = some (.int (own_wsp p1)) ∧ Fr n0 L ∧ h = h0) := by
  refine own_enter (plainFor_of_name own_pn5) ?_
  intro p e s m below meth c s₁ X0 hx hZ hby hml hown hnm hret hlk e0
  have N0 := Fr.nil n0
  rw [own_wspr_ef m p1]
  show own_Fin _ _ _ _ _ _ (s₁.setTop (mkF m 0 #[.val (.int p1), .unset] []))
  refine own_to (fun t k => XS.iloadN X0.here hx rfl (hb hby own_d2_0) rfl k) ?_
  refine own_to (fun t k => XS.iconst X0.here hx rfl (hb hby own_d2_1) k) ?_
  refine own_to (fun t k => XS.iand X0.here hx rfl (hb hby own_d2_2) rfl k) ?_
  show own_Fin _ _ _ _ _ _ (s₁.setTop (mkF m 3 #[.val (.int p1), .unset] [(.int (p1 &&& (3 : Int32)))]))
  refine own_to (fun t k => XS.istoreN X0.here hx rfl (hb hby own_d2_3) rfl (l' := #[.val (.int p1), .val (.int (p1 &&& (3 : Int32)))]) rfl k) ?_
  show own_Fin _ _ _ _ _ _ (s₁.setTop (mkF m 4 #[.val (.int p1), .val (.int (p1 &&& (3 : Int32)))] []))
  refine own_to (fun t k => XS.iloadN X0.here hx rfl (hb hby own_d2_4) rfl k) ?_
  by_cases hc5_372 : (p1 &&& (3 : Int32)) = (0 : Int32)
  ·
    show own_Fin _ _ _ _ _ _ (s₁.setTop (mkF m 5 #[.val (.int p1), .val (.int (p1 &&& (3 : Int32)))] [(.int (p1 &&& (3 : Int32)))]))
    refine own_to (fun t k => XS.ifNo X0.here hx rfl (hb hby own_d2_5) rfl ((if0 _ _).trans (teq hc5_372).2) k) ?_
    show own_Fin _ _ _ _ _ _ (s₁.setTop (mkF m 8 #[.val (.int p1), .val (.int (p1 &&& (3 : Int32)))] []))
    refine own_to (fun t k => XS.bipush X0.here hx rfl (hb hby own_d2_8) k) ?_
    refine own_retN X0 hx hlk (t := .char) hret (by simp) (hb hby own_d2_10) (by decide) (by decide) ?_
    try rw [e0]
    exact ⟨congrArg (fun z => some (Value.int z)) (Eq.symm (show own_wsp p1 = _ from ((if_pos hc5_372).trans rfl))), N0, rfl⟩
  ·
    show own_Fin _ _ _ _ _ _ (s₁.setTop (mkF m 5 #[.val (.int p1), .val (.int (p1 &&& (3 : Int32)))] [(.int (p1 &&& (3 : Int32)))]))
    refine own_to (fun t k => XS.ifYes X0.here hx rfl (pc0 := 5) (pc' := 11) rfl (hb hby own_d2_5) rfl ((if0 _ _).trans (feq hc5_372).2) (by decide) (by decide) k) ?_
    show own_Fin _ _ _ _ _ _ (s₁.setTop (mkF m 11 #[.val (.int p1), .val (.int (p1 &&& (3 : Int32)))] []))
    refine own_to (fun t k => XS.iloadN X0.here hx rfl (hb hby own_d2_11) rfl k) ?_
    refine own_to (fun t k => XS.iconst X0.here hx rfl (hb hby own_d2_12) k) ?_
    show own_Fin _ _ _ _ _ _ (s₁.setTop (mkF m 13 #[.val (.int p1), .val (.int (p1 &&& (3 : Int32)))] [(.int (1 : Int32)), (.int (p1 &&& (3 : Int32)))]))
    by_cases hc13_373 : (p1 &&& (3 : Int32)) = (1 : Int32)
    ·
      show own_Fin _ _ _ _ _ _ (s₁.setTop (mkF m 13 #[.val (.int p1), .val (.int (p1 &&& (3 : Int32)))] [(.int (1 : Int32)), (.int (p1 &&& (3 : Int32)))]))
      refine own_to (fun t k => XS.icmpNo X0.here hx rfl (hb hby own_d2_13) rfl (teq hc13_373).2 k) ?_
      show own_Fin _ _ _ _ _ _ (s₁.setTop (mkF m 16 #[.val (.int p1), .val (.int (p1 &&& (3 : Int32)))] []))
      refine own_to (fun t k => XS.bipush X0.here hx rfl (hb hby own_d2_16) k) ?_
      refine own_retN X0 hx hlk (t := .char) hret (by simp) (hb hby own_d2_18) (by decide) (by decide) ?_
      try rw [e0]
      exact ⟨congrArg (fun z => some (Value.int z)) (Eq.symm (show own_wsp p1 = _ from ((if_neg hc5_372).trans ((if_pos hc13_373).trans rfl)))), N0, rfl⟩
    ·
      show own_Fin _ _ _ _ _ _ (s₁.setTop (mkF m 13 #[.val (.int p1), .val (.int (p1 &&& (3 : Int32)))] [(.int (1 : Int32)), (.int (p1 &&& (3 : Int32)))]))
      refine own_to (fun t k => XS.icmpYes X0.here hx rfl (pc0 := 13) (pc' := 19) rfl (hb hby own_d2_13) rfl (feq hc13_373).2 (by decide) (by decide) k) ?_
      show own_Fin _ _ _ _ _ _ (s₁.setTop (mkF m 19 #[.val (.int p1), .val (.int (p1 &&& (3 : Int32)))] []))
      refine own_to (fun t k => XS.iloadN X0.here hx rfl (hb hby own_d2_19) rfl k) ?_
      refine own_to (fun t k => XS.iconst X0.here hx rfl (hb hby own_d2_20) k) ?_
      by_cases hc21_374 : (p1 &&& (3 : Int32)) = (2 : Int32)
      ·
        show own_Fin _ _ _ _ _ _ (s₁.setTop (mkF m 21 #[.val (.int p1), .val (.int (p1 &&& (3 : Int32)))] [(.int (2 : Int32)), (.int (p1 &&& (3 : Int32)))]))
        refine own_to (fun t k => XS.icmpNo X0.here hx rfl (hb hby own_d2_21) rfl (teq hc21_374).2 k) ?_
        show own_Fin _ _ _ _ _ _ (s₁.setTop (mkF m 24 #[.val (.int p1), .val (.int (p1 &&& (3 : Int32)))] []))
        refine own_to (fun t k => XS.bipush X0.here hx rfl (hb hby own_d2_24) k) ?_
        show own_Fin _ _ _ _ _ _ (s₁.setTop (mkF m 26 #[.val (.int p1), .val (.int (p1 &&& (3 : Int32)))] [(.int (10 : Int32))]))
        refine own_retN X0 hx hlk (t := .char) hret (by simp) (hb hby own_d2_26) (by decide) (by decide) ?_
        try rw [e0]
        exact ⟨congrArg (fun z => some (Value.int z)) (Eq.symm (show own_wsp p1 = _ from ((if_neg hc5_372).trans ((if_neg hc13_373).trans ((if_pos hc21_374).trans rfl))))), N0, rfl⟩
      ·
        show own_Fin _ _ _ _ _ _ (s₁.setTop (mkF m 21 #[.val (.int p1), .val (.int (p1 &&& (3 : Int32)))] [(.int (2 : Int32)), (.int (p1 &&& (3 : Int32)))]))
        refine own_to (fun t k => XS.icmpYes X0.here hx rfl (pc0 := 21) (pc' := 27) rfl (hb hby own_d2_21) rfl (feq hc21_374).2 (by decide) (by decide) k) ?_
        show own_Fin _ _ _ _ _ _ (s₁.setTop (mkF m 27 #[.val (.int p1), .val (.int (p1 &&& (3 : Int32)))] []))
        refine own_to (fun t k => XS.bipush X0.here hx rfl (hb hby own_d2_27) k) ?_
        show own_Fin _ _ _ _ _ _ (s₁.setTop (mkF m 29 #[.val (.int p1), .val (.int (p1 &&& (3 : Int32)))] [(.int (13 : Int32))]))
        refine own_retN X0 hx hlk (t := .char) hret (by simp) (hb hby own_d2_29) (by decide) (by decide) ?_
        try rw [e0]
        exact ⟨congrArg (fun z => some (Value.int z)) (Eq.symm (show own_wsp p1 = _ from ((if_neg hc5_372).trans ((if_neg hc13_373).trans ((if_neg hc21_374).trans rfl))))), N0, rfl⟩
def own_trm (p1 : Int32) : Int32 := (if (p1 &&& (7 : Int32)) = (0 : Int32) then (32 : Int32) else (if (p1 &&& (7 : Int32)) = (1 : Int32) then (41 : Int32) else (if (p1 &&& (7 : Int32)) = (2 : Int32) then (44 : Int32) else (if (p1 &&& (7 : Int32)) = (3 : Int32) then (59 : Int32) else (if (p1 &&& (7 : Int32)) = (4 : Int32) then (43 : Int32) else (if (p1 &&& (7 : Int32)) = (5 : Int32) then (45 : Int32) else (if (p1 &&& (7 : Int32)) = (6 : Int32) then (61 : Int32) else (60 : Int32))))))))
theorem own_d3_0 : decode method_6_code 0 = .ok (.iload_n 0, 1) := by decide +kernel
theorem own_d3_1 : decode method_6_code 1 = .ok (.bipush 7, 2) := by decide +kernel
theorem own_d3_3 : decode method_6_code 3 = .ok (.iand, 1) := by decide +kernel
theorem own_d3_4 : decode method_6_code 4 = .ok (.istore_n 1, 1) := by decide +kernel
theorem own_d3_5 : decode method_6_code 5 = .ok (.iload_n 1, 1) := by decide +kernel
theorem own_d3_6 : decode method_6_code 6 = .ok (.ifCond .ne 6, 3) := by decide +kernel
theorem own_d3_9 : decode method_6_code 9 = .ok (.bipush 32, 2) := by decide +kernel
theorem own_d3_11 : decode method_6_code 11 = .ok (.ireturn, 1) := by decide +kernel
theorem own_d3_12 : decode method_6_code 12 = .ok (.iload_n 1, 1) := by decide +kernel
theorem own_d3_13 : decode method_6_code 13 = .ok (.iconst 1, 1) := by decide +kernel
theorem own_d3_14 : decode method_6_code 14 = .ok (.if_icmp .ne 6, 3) := by decide +kernel
theorem own_d3_17 : decode method_6_code 17 = .ok (.bipush 41, 2) := by decide +kernel
theorem own_d3_19 : decode method_6_code 19 = .ok (.ireturn, 1) := by decide +kernel
theorem own_d3_20 : decode method_6_code 20 = .ok (.iload_n 1, 1) := by decide +kernel
theorem own_d3_21 : decode method_6_code 21 = .ok (.iconst 2, 1) := by decide +kernel
theorem own_d3_22 : decode method_6_code 22 = .ok (.if_icmp .ne 6, 3) := by decide +kernel
theorem own_d3_25 : decode method_6_code 25 = .ok (.bipush 44, 2) := by decide +kernel
theorem own_d3_27 : decode method_6_code 27 = .ok (.ireturn, 1) := by decide +kernel
theorem own_d3_28 : decode method_6_code 28 = .ok (.iload_n 1, 1) := by decide +kernel
theorem own_d3_29 : decode method_6_code 29 = .ok (.iconst 3, 1) := by decide +kernel
theorem own_d3_30 : decode method_6_code 30 = .ok (.if_icmp .ne 6, 3) := by decide +kernel
theorem own_d3_33 : decode method_6_code 33 = .ok (.bipush 59, 2) := by decide +kernel
theorem own_d3_35 : decode method_6_code 35 = .ok (.ireturn, 1) := by decide +kernel
theorem own_d3_36 : decode method_6_code 36 = .ok (.iload_n 1, 1) := by decide +kernel
theorem own_d3_37 : decode method_6_code 37 = .ok (.iconst 4, 1) := by decide +kernel
theorem own_d3_38 : decode method_6_code 38 = .ok (.if_icmp .ne 6, 3) := by decide +kernel
theorem own_d3_41 : decode method_6_code 41 = .ok (.bipush 43, 2) := by decide +kernel
theorem own_d3_43 : decode method_6_code 43 = .ok (.ireturn, 1) := by decide +kernel
theorem own_d3_44 : decode method_6_code 44 = .ok (.iload_n 1, 1) := by decide +kernel
theorem own_d3_45 : decode method_6_code 45 = .ok (.iconst 5, 1) := by decide +kernel
theorem own_d3_46 : decode method_6_code 46 = .ok (.if_icmp .ne 6, 3) := by decide +kernel
theorem own_d3_49 : decode method_6_code 49 = .ok (.bipush 45, 2) := by decide +kernel
theorem own_d3_51 : decode method_6_code 51 = .ok (.ireturn, 1) := by decide +kernel
theorem own_d3_52 : decode method_6_code 52 = .ok (.iload_n 1, 1) := by decide +kernel
theorem own_d3_53 : decode method_6_code 53 = .ok (.bipush 6, 2) := by decide +kernel
theorem own_d3_55 : decode method_6_code 55 = .ok (.if_icmp .ne 6, 3) := by decide +kernel
theorem own_d3_58 : decode method_6_code 58 = .ok (.bipush 61, 2) := by decide +kernel
theorem own_d3_60 : decode method_6_code 60 = .ok (.ireturn, 1) := by decide +kernel
theorem own_d3_61 : decode method_6_code 61 = .ok (.bipush 60, 2) := by decide +kernel
theorem own_d3_63 : decode method_6_code 63 = .ok (.ireturn, 1) := by decide +kernel
theorem own_trmr_ef (m : MethodId) (p1 : Int32) : entryFrame m #[(.int p1)] 2 = mkF m 0 #[.val (.int p1), .unset] [] := by first | (simp [entryFrame, mkF, argsToLocals, Value.category]; done) | rfl
set_option maxRecDepth 65536 in
set_option maxHeartbeats 40000000 in
theorem own_trmr (l : Launch) (Z : State) (a0 : Array Value) (hw : ∀ d ∈ tables_1, d.before a0 Z = true) (ws : List Jvm.Cond) (p1 : Int32) (h0 : Heap) (n0 : Nat) (Z0 : n0 ≤ h0.size) :
    own_Met l Z (⟨"com/example/libxqtype/libxqtype/ExpressionLexerIntegerValuePinLaw", "terminator", "(I)C"⟩ : MethodName) method_6_code 2 (some .char) ws ({ frames := 0, cells := 0, slots := 0, locals := 0 } : Room) #[(.int p1)] h0 (fun v h L => v = some (.int (own_trm p1)) ∧ Fr n0 L ∧ h = h0) := by
  refine own_enter (plainFor_of_name own_pn5) ?_
  intro p e s m below meth c s₁ X0 hx hZ hby hml hown hnm hret hlk e0
  have N0 := Fr.nil n0
  rw [own_trmr_ef m p1]
  show own_Fin _ _ _ _ _ _ (s₁.setTop (mkF m 0 #[.val (.int p1), .unset] []))
  refine own_to (fun t k => XS.iloadN X0.here hx rfl (hb hby own_d3_0) rfl k) ?_
  refine own_to (fun t k => XS.bipush X0.here hx rfl (hb hby own_d3_1) k) ?_
  refine own_to (fun t k => XS.iand X0.here hx rfl (hb hby own_d3_3) rfl k) ?_
  show own_Fin _ _ _ _ _ _ (s₁.setTop (mkF m 4 #[.val (.int p1), .unset] [(.int (p1 &&& (7 : Int32)))]))
  refine own_to (fun t k => XS.istoreN X0.here hx rfl (hb hby own_d3_4) rfl (l' := #[.val (.int p1), .val (.int (p1 &&& (7 : Int32)))]) rfl k) ?_
  show own_Fin _ _ _ _ _ _ (s₁.setTop (mkF m 5 #[.val (.int p1), .val (.int (p1 &&& (7 : Int32)))] []))
  refine own_to (fun t k => XS.iloadN X0.here hx rfl (hb hby own_d3_5) rfl k) ?_
  by_cases hc6_375 : (p1 &&& (7 : Int32)) = (0 : Int32)
  ·
    show own_Fin _ _ _ _ _ _ (s₁.setTop (mkF m 6 #[.val (.int p1), .val (.int (p1 &&& (7 : Int32)))] [(.int (p1 &&& (7 : Int32)))]))
    refine own_to (fun t k => XS.ifNo X0.here hx rfl (hb hby own_d3_6) rfl ((if0 _ _).trans (teq hc6_375).2) k) ?_
    show own_Fin _ _ _ _ _ _ (s₁.setTop (mkF m 9 #[.val (.int p1), .val (.int (p1 &&& (7 : Int32)))] []))
    refine own_to (fun t k => XS.bipush X0.here hx rfl (hb hby own_d3_9) k) ?_
    refine own_retN X0 hx hlk (t := .char) hret (by simp) (hb hby own_d3_11) (by decide) (by decide) ?_
    try rw [e0]
    exact ⟨congrArg (fun z => some (Value.int z)) (Eq.symm (show own_trm p1 = _ from ((if_pos hc6_375).trans rfl))), N0, rfl⟩
  ·
    show own_Fin _ _ _ _ _ _ (s₁.setTop (mkF m 6 #[.val (.int p1), .val (.int (p1 &&& (7 : Int32)))] [(.int (p1 &&& (7 : Int32)))]))
    refine own_to (fun t k => XS.ifYes X0.here hx rfl (pc0 := 6) (pc' := 12) rfl (hb hby own_d3_6) rfl ((if0 _ _).trans (feq hc6_375).2) (by decide) (by decide) k) ?_
    show own_Fin _ _ _ _ _ _ (s₁.setTop (mkF m 12 #[.val (.int p1), .val (.int (p1 &&& (7 : Int32)))] []))
    refine own_to (fun t k => XS.iloadN X0.here hx rfl (hb hby own_d3_12) rfl k) ?_
    refine own_to (fun t k => XS.iconst X0.here hx rfl (hb hby own_d3_13) k) ?_
    show own_Fin _ _ _ _ _ _ (s₁.setTop (mkF m 14 #[.val (.int p1), .val (.int (p1 &&& (7 : Int32)))] [(.int (1 : Int32)), (.int (p1 &&& (7 : Int32)))]))
    by_cases hc14_376 : (p1 &&& (7 : Int32)) = (1 : Int32)
    ·
      show own_Fin _ _ _ _ _ _ (s₁.setTop (mkF m 14 #[.val (.int p1), .val (.int (p1 &&& (7 : Int32)))] [(.int (1 : Int32)), (.int (p1 &&& (7 : Int32)))]))
      refine own_to (fun t k => XS.icmpNo X0.here hx rfl (hb hby own_d3_14) rfl (teq hc14_376).2 k) ?_
      show own_Fin _ _ _ _ _ _ (s₁.setTop (mkF m 17 #[.val (.int p1), .val (.int (p1 &&& (7 : Int32)))] []))
      refine own_to (fun t k => XS.bipush X0.here hx rfl (hb hby own_d3_17) k) ?_
      refine own_retN X0 hx hlk (t := .char) hret (by simp) (hb hby own_d3_19) (by decide) (by decide) ?_
      try rw [e0]
      exact ⟨congrArg (fun z => some (Value.int z)) (Eq.symm (show own_trm p1 = _ from ((if_neg hc6_375).trans ((if_pos hc14_376).trans rfl)))), N0, rfl⟩
    ·
      show own_Fin _ _ _ _ _ _ (s₁.setTop (mkF m 14 #[.val (.int p1), .val (.int (p1 &&& (7 : Int32)))] [(.int (1 : Int32)), (.int (p1 &&& (7 : Int32)))]))
      refine own_to (fun t k => XS.icmpYes X0.here hx rfl (pc0 := 14) (pc' := 20) rfl (hb hby own_d3_14) rfl (feq hc14_376).2 (by decide) (by decide) k) ?_
      show own_Fin _ _ _ _ _ _ (s₁.setTop (mkF m 20 #[.val (.int p1), .val (.int (p1 &&& (7 : Int32)))] []))
      refine own_to (fun t k => XS.iloadN X0.here hx rfl (hb hby own_d3_20) rfl k) ?_
      refine own_to (fun t k => XS.iconst X0.here hx rfl (hb hby own_d3_21) k) ?_
      by_cases hc22_377 : (p1 &&& (7 : Int32)) = (2 : Int32)
      ·
        show own_Fin _ _ _ _ _ _ (s₁.setTop (mkF m 22 #[.val (.int p1), .val (.int (p1 &&& (7 : Int32)))] [(.int (2 : Int32)), (.int (p1 &&& (7 : Int32)))]))
        refine own_to (fun t k => XS.icmpNo X0.here hx rfl (hb hby own_d3_22) rfl (teq hc22_377).2 k) ?_
        show own_Fin _ _ _ _ _ _ (s₁.setTop (mkF m 25 #[.val (.int p1), .val (.int (p1 &&& (7 : Int32)))] []))
        refine own_to (fun t k => XS.bipush X0.here hx rfl (hb hby own_d3_25) k) ?_
        show own_Fin _ _ _ _ _ _ (s₁.setTop (mkF m 27 #[.val (.int p1), .val (.int (p1 &&& (7 : Int32)))] [(.int (44 : Int32))]))
        refine own_retN X0 hx hlk (t := .char) hret (by simp) (hb hby own_d3_27) (by decide) (by decide) ?_
        try rw [e0]
        exact ⟨congrArg (fun z => some (Value.int z)) (Eq.symm (show own_trm p1 = _ from ((if_neg hc6_375).trans ((if_neg hc14_376).trans ((if_pos hc22_377).trans rfl))))), N0, rfl⟩
      ·
        show own_Fin _ _ _ _ _ _ (s₁.setTop (mkF m 22 #[.val (.int p1), .val (.int (p1 &&& (7 : Int32)))] [(.int (2 : Int32)), (.int (p1 &&& (7 : Int32)))]))
        refine own_to (fun t k => XS.icmpYes X0.here hx rfl (pc0 := 22) (pc' := 28) rfl (hb hby own_d3_22) rfl (feq hc22_377).2 (by decide) (by decide) k) ?_
        show own_Fin _ _ _ _ _ _ (s₁.setTop (mkF m 28 #[.val (.int p1), .val (.int (p1 &&& (7 : Int32)))] []))
        refine own_to (fun t k => XS.iloadN X0.here hx rfl (hb hby own_d3_28) rfl k) ?_
        show own_Fin _ _ _ _ _ _ (s₁.setTop (mkF m 29 #[.val (.int p1), .val (.int (p1 &&& (7 : Int32)))] [(.int (p1 &&& (7 : Int32)))]))
        refine own_to (fun t k => XS.iconst X0.here hx rfl (hb hby own_d3_29) k) ?_
        by_cases hc30_378 : (p1 &&& (7 : Int32)) = (3 : Int32)
        ·
          show own_Fin _ _ _ _ _ _ (s₁.setTop (mkF m 30 #[.val (.int p1), .val (.int (p1 &&& (7 : Int32)))] [(.int (3 : Int32)), (.int (p1 &&& (7 : Int32)))]))
          refine own_to (fun t k => XS.icmpNo X0.here hx rfl (hb hby own_d3_30) rfl (teq hc30_378).2 k) ?_
          show own_Fin _ _ _ _ _ _ (s₁.setTop (mkF m 33 #[.val (.int p1), .val (.int (p1 &&& (7 : Int32)))] []))
          refine own_to (fun t k => XS.bipush X0.here hx rfl (hb hby own_d3_33) k) ?_
          refine own_retN X0 hx hlk (t := .char) hret (by simp) (hb hby own_d3_35) (by decide) (by decide) ?_
          try rw [e0]
          exact ⟨congrArg (fun z => some (Value.int z)) (Eq.symm (show own_trm p1 = _ from ((if_neg hc6_375).trans ((if_neg hc14_376).trans ((if_neg hc22_377).trans ((if_pos hc30_378).trans rfl)))))), N0, rfl⟩
        ·
          show own_Fin _ _ _ _ _ _ (s₁.setTop (mkF m 30 #[.val (.int p1), .val (.int (p1 &&& (7 : Int32)))] [(.int (3 : Int32)), (.int (p1 &&& (7 : Int32)))]))
          refine own_to (fun t k => XS.icmpYes X0.here hx rfl (pc0 := 30) (pc' := 36) rfl (hb hby own_d3_30) rfl (feq hc30_378).2 (by decide) (by decide) k) ?_
          show own_Fin _ _ _ _ _ _ (s₁.setTop (mkF m 36 #[.val (.int p1), .val (.int (p1 &&& (7 : Int32)))] []))
          refine own_to (fun t k => XS.iloadN X0.here hx rfl (hb hby own_d3_36) rfl k) ?_
          refine own_to (fun t k => XS.iconst X0.here hx rfl (hb hby own_d3_37) k) ?_
          show own_Fin _ _ _ _ _ _ (s₁.setTop (mkF m 38 #[.val (.int p1), .val (.int (p1 &&& (7 : Int32)))] [(.int (4 : Int32)), (.int (p1 &&& (7 : Int32)))]))
          by_cases hc38_379 : (p1 &&& (7 : Int32)) = (4 : Int32)
          ·
            show own_Fin _ _ _ _ _ _ (s₁.setTop (mkF m 38 #[.val (.int p1), .val (.int (p1 &&& (7 : Int32)))] [(.int (4 : Int32)), (.int (p1 &&& (7 : Int32)))]))
            refine own_to (fun t k => XS.icmpNo X0.here hx rfl (hb hby own_d3_38) rfl (teq hc38_379).2 k) ?_
            show own_Fin _ _ _ _ _ _ (s₁.setTop (mkF m 41 #[.val (.int p1), .val (.int (p1 &&& (7 : Int32)))] []))
            refine own_to (fun t k => XS.bipush X0.here hx rfl (hb hby own_d3_41) k) ?_
            refine own_retN X0 hx hlk (t := .char) hret (by simp) (hb hby own_d3_43) (by decide) (by decide) ?_
            try rw [e0]
            exact ⟨congrArg (fun z => some (Value.int z)) (Eq.symm (show own_trm p1 = _ from ((if_neg hc6_375).trans ((if_neg hc14_376).trans ((if_neg hc22_377).trans ((if_neg hc30_378).trans ((if_pos hc38_379).trans rfl))))))), N0, rfl⟩
          ·
            show own_Fin _ _ _ _ _ _ (s₁.setTop (mkF m 38 #[.val (.int p1), .val (.int (p1 &&& (7 : Int32)))] [(.int (4 : Int32)), (.int (p1 &&& (7 : Int32)))]))
            refine own_to (fun t k => XS.icmpYes X0.here hx rfl (pc0 := 38) (pc' := 44) rfl (hb hby own_d3_38) rfl (feq hc38_379).2 (by decide) (by decide) k) ?_
            show own_Fin _ _ _ _ _ _ (s₁.setTop (mkF m 44 #[.val (.int p1), .val (.int (p1 &&& (7 : Int32)))] []))
            refine own_to (fun t k => XS.iloadN X0.here hx rfl (hb hby own_d3_44) rfl k) ?_
            refine own_to (fun t k => XS.iconst X0.here hx rfl (hb hby own_d3_45) k) ?_
            by_cases hc46_380 : (p1 &&& (7 : Int32)) = (5 : Int32)
            ·
              show own_Fin _ _ _ _ _ _ (s₁.setTop (mkF m 46 #[.val (.int p1), .val (.int (p1 &&& (7 : Int32)))] [(.int (5 : Int32)), (.int (p1 &&& (7 : Int32)))]))
              refine own_to (fun t k => XS.icmpNo X0.here hx rfl (hb hby own_d3_46) rfl (teq hc46_380).2 k) ?_
              show own_Fin _ _ _ _ _ _ (s₁.setTop (mkF m 49 #[.val (.int p1), .val (.int (p1 &&& (7 : Int32)))] []))
              refine own_to (fun t k => XS.bipush X0.here hx rfl (hb hby own_d3_49) k) ?_
              show own_Fin _ _ _ _ _ _ (s₁.setTop (mkF m 51 #[.val (.int p1), .val (.int (p1 &&& (7 : Int32)))] [(.int (45 : Int32))]))
              refine own_retN X0 hx hlk (t := .char) hret (by simp) (hb hby own_d3_51) (by decide) (by decide) ?_
              try rw [e0]
              exact ⟨congrArg (fun z => some (Value.int z)) (Eq.symm (show own_trm p1 = _ from ((if_neg hc6_375).trans ((if_neg hc14_376).trans ((if_neg hc22_377).trans ((if_neg hc30_378).trans ((if_neg hc38_379).trans ((if_pos hc46_380).trans rfl)))))))), N0, rfl⟩
            ·
              show own_Fin _ _ _ _ _ _ (s₁.setTop (mkF m 46 #[.val (.int p1), .val (.int (p1 &&& (7 : Int32)))] [(.int (5 : Int32)), (.int (p1 &&& (7 : Int32)))]))
              refine own_to (fun t k => XS.icmpYes X0.here hx rfl (pc0 := 46) (pc' := 52) rfl (hb hby own_d3_46) rfl (feq hc46_380).2 (by decide) (by decide) k) ?_
              show own_Fin _ _ _ _ _ _ (s₁.setTop (mkF m 52 #[.val (.int p1), .val (.int (p1 &&& (7 : Int32)))] []))
              refine own_to (fun t k => XS.iloadN X0.here hx rfl (hb hby own_d3_52) rfl k) ?_
              show own_Fin _ _ _ _ _ _ (s₁.setTop (mkF m 53 #[.val (.int p1), .val (.int (p1 &&& (7 : Int32)))] [(.int (p1 &&& (7 : Int32)))]))
              refine own_to (fun t k => XS.bipush X0.here hx rfl (hb hby own_d3_53) k) ?_
              by_cases hc55_381 : (p1 &&& (7 : Int32)) = (6 : Int32)
              ·
                show own_Fin _ _ _ _ _ _ (s₁.setTop (mkF m 55 #[.val (.int p1), .val (.int (p1 &&& (7 : Int32)))] [(.int (6 : Int32)), (.int (p1 &&& (7 : Int32)))]))
                refine own_to (fun t k => XS.icmpNo X0.here hx rfl (hb hby own_d3_55) rfl (teq hc55_381).2 k) ?_
                show own_Fin _ _ _ _ _ _ (s₁.setTop (mkF m 58 #[.val (.int p1), .val (.int (p1 &&& (7 : Int32)))] []))
                refine own_to (fun t k => XS.bipush X0.here hx rfl (hb hby own_d3_58) k) ?_
                refine own_retN X0 hx hlk (t := .char) hret (by simp) (hb hby own_d3_60) (by decide) (by decide) ?_
                try rw [e0]
                exact ⟨congrArg (fun z => some (Value.int z)) (Eq.symm (show own_trm p1 = _ from ((if_neg hc6_375).trans ((if_neg hc14_376).trans ((if_neg hc22_377).trans ((if_neg hc30_378).trans ((if_neg hc38_379).trans ((if_neg hc46_380).trans ((if_pos hc55_381).trans rfl))))))))), N0, rfl⟩
              ·
                show own_Fin _ _ _ _ _ _ (s₁.setTop (mkF m 55 #[.val (.int p1), .val (.int (p1 &&& (7 : Int32)))] [(.int (6 : Int32)), (.int (p1 &&& (7 : Int32)))]))
                refine own_to (fun t k => XS.icmpYes X0.here hx rfl (pc0 := 55) (pc' := 61) rfl (hb hby own_d3_55) rfl (feq hc55_381).2 (by decide) (by decide) k) ?_
                show own_Fin _ _ _ _ _ _ (s₁.setTop (mkF m 61 #[.val (.int p1), .val (.int (p1 &&& (7 : Int32)))] []))
                refine own_to (fun t k => XS.bipush X0.here hx rfl (hb hby own_d3_61) k) ?_
                refine own_retN X0 hx hlk (t := .char) hret (by simp) (hb hby own_d3_63) (by decide) (by decide) ?_
                try rw [e0]
                exact ⟨congrArg (fun z => some (Value.int z)) (Eq.symm (show own_trm p1 = _ from ((if_neg hc6_375).trans ((if_neg hc14_376).trans ((if_neg hc22_377).trans ((if_neg hc30_378).trans ((if_neg hc38_379).trans ((if_neg hc46_380).trans ((if_neg hc55_381).trans rfl))))))))), N0, rfl⟩
theorem own_wspK (x : Int32) : own_wK (own_wsp x) := by
  unfold own_wsp
  by_cases q0 : (x &&& (3 : Int32)) = (0 : Int32)
  · rw [if_pos q0]; exact Or.inl rfl
  rw [if_neg q0]
  by_cases q1 : (x &&& (3 : Int32)) = (1 : Int32)
  · rw [if_pos q1]; exact Or.inr (Or.inl rfl)
  rw [if_neg q1]
  by_cases q2 : (x &&& (3 : Int32)) = (2 : Int32)
  · rw [if_pos q2]; exact Or.inr (Or.inr (Or.inl rfl))
  rw [if_neg q2]
  exact Or.inr (Or.inr (Or.inr (rfl)))
theorem own_trmK (x : Int32) : own_tK (own_trm x) := by
  unfold own_trm
  by_cases q0 : (x &&& (7 : Int32)) = (0 : Int32)
  · rw [if_pos q0]; exact Or.inl rfl
  rw [if_neg q0]
  by_cases q1 : (x &&& (7 : Int32)) = (1 : Int32)
  · rw [if_pos q1]; exact Or.inr (Or.inl rfl)
  rw [if_neg q1]
  by_cases q2 : (x &&& (7 : Int32)) = (2 : Int32)
  · rw [if_pos q2]; exact Or.inr (Or.inr (Or.inl rfl))
  rw [if_neg q2]
  by_cases q3 : (x &&& (7 : Int32)) = (3 : Int32)
  · rw [if_pos q3]; exact Or.inr (Or.inr (Or.inr (Or.inl rfl)))
  rw [if_neg q3]
  by_cases q4 : (x &&& (7 : Int32)) = (4 : Int32)
  · rw [if_pos q4]; exact Or.inr (Or.inr (Or.inr (Or.inr (Or.inl rfl))))
  rw [if_neg q4]
  by_cases q5 : (x &&& (7 : Int32)) = (5 : Int32)
  · rw [if_pos q5]; exact Or.inr (Or.inr (Or.inr (Or.inr (Or.inr (Or.inl rfl)))))
  rw [if_neg q5]
  by_cases q6 : (x &&& (7 : Int32)) = (6 : Int32)
  · rw [if_pos q6]; exact Or.inr (Or.inr (Or.inr (Or.inr (Or.inr (Or.inr (Or.inl rfl))))))
  rw [if_neg q6]
  exact Or.inr (Or.inr (Or.inr (Or.inr (Or.inr (Or.inr (Or.inr (rfl)))))))
theorem own_d4_0 : decode method_3_code 0 = .ok (.iload_n 0, 1) := by decide +kernel
theorem own_d4_1 : decode method_3_code 1 = .ok (.iload_n 1, 1) := by decide +kernel
theorem own_d4_2 : decode method_3_code 2 = .ok (.if_icmp .ge 6, 3) := by decide +kernel
theorem own_d4_5 : decode method_3_code 5 = .ok (.iload 5, 2) := by decide +kernel
theorem own_d4_7 : decode method_3_code 7 = .ok (.ireturn, 1) := by decide +kernel
theorem own_d4_8 : decode method_3_code 8 = .ok (.iload_n 0, 1) := by decide +kernel
theorem own_d4_9 : decode method_3_code 9 = .ok (.iload_n 1, 1) := by decide +kernel
theorem own_d4_10 : decode method_3_code 10 = .ok (.iload_n 2, 1) := by decide +kernel
theorem own_d4_11 : decode method_3_code 11 = .ok (.iadd, 1) := by decide +kernel
theorem own_d4_12 : decode method_3_code 12 = .ok (.if_icmp .ge 30, 3) := by decide +kernel
theorem own_d4_15 : decode method_3_code 15 = .ok (.iload_n 2, 1) := by decide +kernel
theorem own_d4_16 : decode method_3_code 16 = .ok (.iconst 1, 1) := by decide +kernel
theorem own_d4_17 : decode method_3_code 17 = .ok (.isub, 1) := by decide +kernel
theorem own_d4_18 : decode method_3_code 18 = .ok (.iload_n 0, 1) := by decide +kernel
theorem own_d4_19 : decode method_3_code 19 = .ok (.iload_n 1, 1) := by decide +kernel
theorem own_d4_20 : decode method_3_code 20 = .ok (.isub, 1) := by decide +kernel
theorem own_d4_21 : decode method_3_code 21 = .ok (.isub, 1) := by decide +kernel
theorem own_d4_22 : decode method_3_code 22 = .ok (.istore 7, 2) := by decide +kernel
theorem own_d4_24 : decode method_3_code 24 = .ok (.ldc2_w 43, 3) := by decide +kernel
theorem own_d4_27 : decode method_3_code 27 = .ok (.lload_n 3, 1) := by decide +kernel
theorem own_d4_28 : decode method_3_code 28 = .ok (.iload 7, 2) := by decide +kernel
theorem own_d4_30 : decode method_3_code 30 = .ok (.invokestatic 12, 3) := by decide +kernel
theorem own_d4_33 : decode method_3_code 33 = .ok (.ldiv, 1) := by decide +kernel
theorem own_d4_34 : decode method_3_code 34 = .ok (.ldc2_w 45, 3) := by decide +kernel
theorem own_d4_37 : decode method_3_code 37 = .ok (.lrem, 1) := by decide +kernel
theorem own_d4_38 : decode method_3_code 38 = .ok (.ladd, 1) := by decide +kernel
theorem own_d4_39 : decode method_3_code 39 = .ok (.l2i, 1) := by decide +kernel
theorem own_d4_40 : decode method_3_code 40 = .ok (.i2c, 1) := by decide +kernel
theorem own_d4_41 : decode method_3_code 41 = .ok (.ireturn, 1) := by decide +kernel
theorem own_d4_42 : decode method_3_code 42 = .ok (.iload 6, 2) := by decide +kernel
theorem own_d4_44 : decode method_3_code 44 = .ok (.ireturn, 1) := by decide +kernel
theorem own_pd14 : parseMethodDescriptor "(I)J" = some ⟨[.int], some .long⟩ := by decide +kernel
theorem own_chr_ef (m : MethodId) (i : Int32) (pd : Int32) (n : Int32) (vv : Int64) (wz : Int32) (tm : Int32) : entryFrame m #[(.int i), (.int pd), (.int n), (.long vv), (.int wz), (.int tm)] 8 = mkF m 0 #[.val (.int i), .val (.int pd), .val (.int n), .val (.long vv), .second, .val (.int wz), .val (.int tm), .unset] [] := by first | (simp [entryFrame, mkF, argsToLocals, Value.category]; done) | rfl
set_option maxRecDepth 65536 in
set_option maxHeartbeats 40000000 in
theorem own_chr (l : Launch) (Z : State) (a0 : Array Value) (hw : ∀ d ∈ tables_1, d.before a0 Z = true) (ws : List Jvm.Cond) (i : Int32) (pd : Int32) (n : Int32) (vv : Int64) (wz : Int32) (tm : Int32) (S : Nat) (N : Nat) (W : Nat) (I : Nat) (h0 : Heap) (n0 : Nat) (Z0 : n0 ≤ h0.size) (HK : own_ok pd n vv wz tm S N W) (hi : i.toInt = I) (h19 : I ≤ 19) :
    own_Met l Z (⟨"com/example/libxqtype/libxqtype/ExpressionLexerIntegerValuePinLaw", "at", "(IIIJCC)C"⟩ : MethodName) method_3_code 8 (some .char) ws ({ frames := 1, cells := 1, slots := 19, locals := 24 } : Room) #[(.int i), (.int pd), (.int n), (.long vv), (.int wz), (.int tm)] h0 (fun v h L => v = some (.int (own_ch i pd n vv wz tm)) ∧ Fr n0 L ∧ Keep h0 h []) := by
  refine own_enter (plainFor_of_name own_pn5) ?_
  intro p e s m below meth c s₁ X0 hx hZ hby hml hown hnm hret hlk e0
  have N0 := Fr.nil n0
  rw [own_chr_ef m i pd n vv wz tm]
  have KK0 : Keep h0 h0 [] := Keep.refl _ _
  show own_Fin _ _ _ _ _ _ (s₁.setTop (mkF m 0 #[.val (.int i), .val (.int pd), .val (.int n), .val (.long vv), .second, .val (.int wz), .val (.int tm), .unset] []))
  refine own_to (fun t k => XS.iloadN X0.here hx rfl (hb hby own_d4_0) rfl k) ?_
  refine own_to (fun t k => XS.iloadN X0.here hx rfl (hb hby own_d4_1) rfl k) ?_
  by_cases hc2_382 : i < pd
  ·
    show own_Fin _ _ _ _ _ _ (s₁.setTop (mkF m 2 #[.val (.int i), .val (.int pd), .val (.int n), .val (.long vv), .second, .val (.int wz), .val (.int tm), .unset] [(.int pd), (.int i)]))
    refine own_to (fun t k => XS.icmpNo X0.here hx rfl (hb hby own_d4_2) rfl (tlt hc2_382).2.1 k) ?_
    show own_Fin _ _ _ _ _ _ (s₁.setTop (mkF m 5 #[.val (.int i), .val (.int pd), .val (.int n), .val (.long vv), .second, .val (.int wz), .val (.int tm), .unset] []))
    refine own_to (fun t k => XS.iload X0.here hx rfl (hb hby own_d4_5) rfl k) ?_
    show own_Fin _ _ _ _ _ _ (s₁.setTop (mkF m 7 #[.val (.int i), .val (.int pd), .val (.int n), .val (.long vv), .second, .val (.int wz), .val (.int tm), .unset] [(.int wz)]))
    refine own_retN X0 hx hlk (t := .char) hret (by simp) (hb hby own_d4_7) (by decide) (by decide) ?_
    try rw [e0]
    have b8 := own_wB HK.2.2.2.2.2.2.2.1
    exact ⟨congrArg (fun z => some (Value.int z)) ((own_nb b8.1 b8.2).trans (Eq.symm (show own_ch i pd n vv wz tm = _ from ((if_pos hc2_382).trans rfl)))), N0, KK0⟩
  ·
    show own_Fin _ _ _ _ _ _ (s₁.setTop (mkF m 2 #[.val (.int i), .val (.int pd), .val (.int n), .val (.long vv), .second, .val (.int wz), .val (.int tm), .unset] [(.int pd), (.int i)]))
    refine own_to (fun t k => XS.icmpYes X0.here hx rfl (pc0 := 2) (pc' := 8) rfl (hb hby own_d4_2) rfl (flt hc2_382).2.1 (by decide) (by decide) k) ?_
    show own_Fin _ _ _ _ _ _ (s₁.setTop (mkF m 8 #[.val (.int i), .val (.int pd), .val (.int n), .val (.long vv), .second, .val (.int wz), .val (.int tm), .unset] []))
    refine own_to (fun t k => XS.iloadN X0.here hx rfl (hb hby own_d4_8) rfl k) ?_
    show own_Fin _ _ _ _ _ _ (s₁.setTop (mkF m 9 #[.val (.int i), .val (.int pd), .val (.int n), .val (.long vv), .second, .val (.int wz), .val (.int tm), .unset] [(.int i)]))
    refine own_to (fun t k => XS.iloadN X0.here hx rfl (hb hby own_d4_9) rfl k) ?_
    refine own_to (fun t k => XS.iloadN X0.here hx rfl (hb hby own_d4_10) rfl k) ?_
    refine own_to (fun t k => XS.iadd X0.here hx rfl (hb hby own_d4_11) rfl k) ?_
    show own_Fin _ _ _ _ _ _ (s₁.setTop (mkF m 12 #[.val (.int i), .val (.int pd), .val (.int n), .val (.long vv), .second, .val (.int wz), .val (.int tm), .unset] [(.int (pd + n)), (.int i)]))
    by_cases hc12_383 : i < (pd + n)
    ·
      show own_Fin _ _ _ _ _ _ (s₁.setTop (mkF m 12 #[.val (.int i), .val (.int pd), .val (.int n), .val (.long vv), .second, .val (.int wz), .val (.int tm), .unset] [(.int (pd + n)), (.int i)]))
      refine own_to (fun t k => XS.icmpNo X0.here hx rfl (hb hby own_d4_12) rfl (tlt hc12_383).2.1 k) ?_
      show own_Fin _ _ _ _ _ _ (s₁.setTop (mkF m 15 #[.val (.int i), .val (.int pd), .val (.int n), .val (.long vv), .second, .val (.int wz), .val (.int tm), .unset] []))
      refine own_to (fun t k => XS.iloadN X0.here hx rfl (hb hby own_d4_15) rfl k) ?_
      refine own_to (fun t k => XS.iconst X0.here hx rfl (hb hby own_d4_16) k) ?_
      refine own_to (fun t k => XS.isub X0.here hx rfl (hb hby own_d4_17) rfl k) ?_
      show own_Fin _ _ _ _ _ _ (s₁.setTop (mkF m 18 #[.val (.int i), .val (.int pd), .val (.int n), .val (.long vv), .second, .val (.int wz), .val (.int tm), .unset] [(.int (n - (1 : Int32)))]))
      refine own_to (fun t k => XS.iloadN X0.here hx rfl (hb hby own_d4_18) rfl k) ?_
      refine own_to (fun t k => XS.iloadN X0.here hx rfl (hb hby own_d4_19) rfl k) ?_
      refine own_to (fun t k => XS.isub X0.here hx rfl (hb hby own_d4_20) rfl k) ?_
      show own_Fin _ _ _ _ _ _ (s₁.setTop (mkF m 21 #[.val (.int i), .val (.int pd), .val (.int n), .val (.long vv), .second, .val (.int wz), .val (.int tm), .unset] [(.int (i - pd)), (.int (n - (1 : Int32)))]))
      refine own_to (fun t k => XS.isub X0.here hx rfl (hb hby own_d4_21) rfl k) ?_
      show own_Fin _ _ _ _ _ _ (s₁.setTop (mkF m 22 #[.val (.int i), .val (.int pd), .val (.int n), .val (.long vv), .second, .val (.int wz), .val (.int tm), .unset] [(.int ((n - (1 : Int32)) - (i - pd)))]))
      refine own_to (fun t k => XS.istore X0.here hx rfl (hb hby own_d4_22) rfl (l' := #[.val (.int i), .val (.int pd), .val (.int n), .val (.long vv), .second, .val (.int wz), .val (.int tm), .val (.int ((n - (1 : Int32)) - (i - pd)))]) rfl k) ?_
      show own_Fin _ _ _ _ _ _ (s₁.setTop (mkF m 24 #[.val (.int i), .val (.int pd), .val (.int n), .val (.long vv), .second, .val (.int wz), .val (.int tm), .val (.int ((n - (1 : Int32)) - (i - pd)))] []))
      refine own_to (fun t k => X0.ldc2Long hx hown (mvT hZ (own_W hw 35 rfl)) (g := (mkF m 24 #[.val (.int i), .val (.int pd), .val (.int n), .val (.long vv), .second, .val (.int wz), .val (.int tm), .val (.int ((n - (1 : Int32)) - (i - pd)))] [])) rfl (hb hby own_d4_24) _ k) ?_
      show own_Fin _ _ _ _ _ _ (s₁.setTop (mkF m 27 #[.val (.int i), .val (.int pd), .val (.int n), .val (.long vv), .second, .val (.int wz), .val (.int tm), .val (.int ((n - (1 : Int32)) - (i - pd)))] [(.long (48 : Int64))]))
      refine own_to (fun t k => XS.lloadN X0.here hx rfl (hb hby own_d4_27) rfl k) ?_
      refine own_to (fun t k => XS.iload X0.here hx rfl (hb hby own_d4_28) rfl k) ?_
      have ix := own_ia HK hi h19 hc2_382 hc12_383
      have hN : N ≤ 18 := HK.2.2.2.2.2.1
      have iv : ((n - (1 : Int32)) - (i - pd)).toInt = ((N - 1 - (I - S) : Nat) : Int) := ix.2.2
      have il : N - 1 - (I - S) ≤ 18 := by omega
      obtain ⟨_, _, ⟨T384, L384, k384, n384⟩, -, X384, ⟨Lc384, hQ384, l384, y384, z384⟩, st384⟩ := Jvm.LawKit.callS X0 hx (y := (⟨"com/example/libxqtype/libxqtype/ExpressionLexerIntegerValuePinLaw", "pow10", "(I)J"⟩ : MethodName)) hown (mvT hZ (own_W hw 2 rfl)) (mvT hZ (own_W hw 3 rfl)) (mvT hZ (own_W hw 4 rfl)) (mvT hZ (own_W hw 5 rfl)) (by decide) (own_back (W := 4) (own_p10 l Z a0 hw [] ((n - (1 : Int32)) - (i - pd)) h0 n0 Z0 (own_inI iv il)) hZ (own_W hw 5 rfl) (own_W hw 4 rfl) (by decide) (by decide)) (g := (mkF m 30 #[.val (.int i), .val (.int pd), .val (.int n), .val (.long vv), .second, .val (.int wz), .val (.int tm), .val (.int ((n - (1 : Int32)) - (i - pd)))] [(.int ((n - (1 : Int32)) - (i - pd))), (.long vv), (.long (48 : Int64))])) rfl (by rw [hml]; rfl) (argsL := [(.int ((n - (1 : Int32)) - (i - pd)))]) (rest := [(.long vv), (.long (48 : Int64))]) (lenOf own_pd14 rfl) rfl (by show 2 * 0 + _ ≤ _; exact Nat.le_of_eq rfl) (hb hby own_d4_30) (fun _ _ => ⟨rfl, e0, (by decide : 0 + 1 ≤ _), (by decide : 0 + 19 ≤ _)⟩)
      dsimp only [Pt.U, Pt.locs, Pt.cells, Pt.slots] at X384 l384 y384 z384 st384 hQ384
      rw [l384, y384, z384] at X384
      obtain ⟨rfl, N384q, K384⟩ := hQ384
      have N384 := Fr.app N0 N384q
      have KK384 : Keep h0 T384.heap [] := KK0.trans K384 all0
      refine own_to (fun t k => st384 t k) ?_
      show own_Fin _ _ _ _ _ _ (T384.setTop (mkF m 33 #[.val (.int i), .val (.int pd), .val (.int n), .val (.long vv), .second, .val (.int wz), .val (.int tm), .val (.int ((n - (1 : Int32)) - (i - pd)))] [(.long (own_pw ((n - (1 : Int32)) - (i - pd)))), (.long vv), (.long (48 : Int64))]))
      refine own_to (fun t k => XS.ldiv X384.here hx rfl (hb hby own_d4_33) rfl (own_pwz iv il) k) ?_
      show own_Fin _ _ _ _ _ _ (T384.setTop (mkF m 34 #[.val (.int i), .val (.int pd), .val (.int n), .val (.long vv), .second, .val (.int wz), .val (.int tm), .val (.int ((n - (1 : Int32)) - (i - pd)))] [(.long (vv / (own_pw ((n - (1 : Int32)) - (i - pd))))), (.long (48 : Int64))]))
      refine own_to (fun t k => X384.ldc2Long hx hown (mvT hZ (own_W hw 7 rfl)) (g := (mkF m 34 #[.val (.int i), .val (.int pd), .val (.int n), .val (.long vv), .second, .val (.int wz), .val (.int tm), .val (.int ((n - (1 : Int32)) - (i - pd)))] [(.long (vv / (own_pw ((n - (1 : Int32)) - (i - pd))))), (.long (48 : Int64))])) rfl (hb hby own_d4_34) _ k) ?_
      show own_Fin _ _ _ _ _ _ (T384.setTop (mkF m 37 #[.val (.int i), .val (.int pd), .val (.int n), .val (.long vv), .second, .val (.int wz), .val (.int tm), .val (.int ((n - (1 : Int32)) - (i - pd)))] [(.long (10 : Int64)), (.long (vv / (own_pw ((n - (1 : Int32)) - (i - pd))))), (.long (48 : Int64))]))
      refine own_to (fun t k => XS.lrem X384.here hx rfl (hb hby own_d4_37) rfl (by decide) k) ?_
      show own_Fin _ _ _ _ _ _ (T384.setTop (mkF m 38 #[.val (.int i), .val (.int pd), .val (.int n), .val (.long vv), .second, .val (.int wz), .val (.int tm), .val (.int ((n - (1 : Int32)) - (i - pd)))] [(.long ((vv / (own_pw ((n - (1 : Int32)) - (i - pd)))) - (((vv / (own_pw ((n - (1 : Int32)) - (i - pd)))) / (10 : Int64)) * (10 : Int64)))), (.long (48 : Int64))]))
      refine own_to (fun t k => XS.ladd X384.here hx rfl (hb hby own_d4_38) rfl k) ?_
      show own_Fin _ _ _ _ _ _ (T384.setTop (mkF m 39 #[.val (.int i), .val (.int pd), .val (.int n), .val (.long vv), .second, .val (.int wz), .val (.int tm), .val (.int ((n - (1 : Int32)) - (i - pd)))] [(.long ((48 : Int64) + ((vv / (own_pw ((n - (1 : Int32)) - (i - pd)))) - (((vv / (own_pw ((n - (1 : Int32)) - (i - pd)))) / (10 : Int64)) * (10 : Int64)))))]))
      refine own_to (fun t k => XS.l2i X384.here hx rfl (hb hby own_d4_39) rfl k) ?_
      show own_Fin _ _ _ _ _ _ (T384.setTop (mkF m 40 #[.val (.int i), .val (.int pd), .val (.int n), .val (.long vv), .second, .val (.int wz), .val (.int tm), .val (.int ((n - (1 : Int32)) - (i - pd)))] [(.int (((48 : Int64) + ((vv / (own_pw ((n - (1 : Int32)) - (i - pd)))) - (((vv / (own_pw ((n - (1 : Int32)) - (i - pd)))) / (10 : Int64)) * (10 : Int64)))).toInt32))]))
      refine own_to (fun t k => XS.i2c X384.here hx rfl (hb hby own_d4_40) rfl k) ?_
      show own_Fin _ _ _ _ _ _ (T384.setTop (mkF m 41 #[.val (.int i), .val (.int pd), .val (.int n), .val (.long vv), .second, .val (.int wz), .val (.int tm), .val (.int ((n - (1 : Int32)) - (i - pd)))] [(.int ((((48 : Int64) + ((vv / (own_pw ((n - (1 : Int32)) - (i - pd)))) - (((vv / (own_pw ((n - (1 : Int32)) - (i - pd)))) / (10 : Int64)) * (10 : Int64)))).toInt32).toUInt32.toUInt16.toUInt32.toInt32))]))
      refine own_retN X384 hx hlk (t := .char) hret (by simp) (hb hby own_d4_41) (by decide) (by decide) ?_
      have b8 := own_b8 (own_dgtv HK.2.2.1 iv il) (by have := Nat.mod_lt (W / 10 ^ (N - 1 - (I - S))) (show 0 < 10 by decide); omega)
      exact ⟨congrArg (fun z => some (Value.int z)) ((own_c2 b8.1 b8.2).trans (Eq.symm (show own_ch i pd n vv wz tm = _ from ((if_neg hc2_382).trans ((if_pos hc12_383).trans rfl))))), N384, KK384⟩
    ·
      show own_Fin _ _ _ _ _ _ (s₁.setTop (mkF m 12 #[.val (.int i), .val (.int pd), .val (.int n), .val (.long vv), .second, .val (.int wz), .val (.int tm), .unset] [(.int (pd + n)), (.int i)]))
      refine own_to (fun t k => XS.icmpYes X0.here hx rfl (pc0 := 12) (pc' := 42) rfl (hb hby own_d4_12) rfl (flt hc12_383).2.1 (by decide) (by decide) k) ?_
      show own_Fin _ _ _ _ _ _ (s₁.setTop (mkF m 42 #[.val (.int i), .val (.int pd), .val (.int n), .val (.long vv), .second, .val (.int wz), .val (.int tm), .unset] []))
      refine own_to (fun t k => XS.iload X0.here hx rfl (hb hby own_d4_42) rfl k) ?_
      refine own_retN X0 hx hlk (t := .char) hret (by simp) (hb hby own_d4_44) (by decide) (by decide) ?_
      try rw [e0]
      have b8 := own_tB HK.2.2.2.2.2.2.2.2
      exact ⟨congrArg (fun z => some (Value.int z)) ((own_nb b8.1 b8.2).trans (Eq.symm (show own_ch i pd n vv wz tm = _ from ((if_neg hc2_382).trans ((if_neg hc12_383).trans rfl))))), N0, KK0⟩
theorem own_pd15 : parseMethodDescriptor "(IIIJCC)C" = some ⟨[.int, .int, .int, .long, .char, .char], some .char⟩ := by decide +kernel
theorem own_pd16 : parseMethodDescriptor "([C)V" = some ⟨[(.array .char)], none⟩ := by decide +kernel
theorem own_pd17 : parseMethodDescriptor "(Ljava/lang/String;)V" = some ⟨[(.object "java/lang/String")], none⟩ := by decide +kernel
theorem own_pd18 : parseMethodDescriptor "()J" = some ⟨[], some .long⟩ := by decide +kernel
theorem own_rm0_ef (m : MethodId) (q1 : Int64) (p2 : Int32) (p3 : Int32) (p4 : Int32) (p5 : Int32) : entryFrame m #[(.long q1), (.int p2), (.int p3), (.int p4), (.int p5)] maxLocals = mkF m 0 #[.val (.long q1), .second, .val (.int p2), .val (.int p3), .val (.int p4), .val (.int p5), .unset, .unset, .unset, .unset, .unset, .unset, .unset, .unset] [] := by first | (simp [entryFrame, mkF, argsToLocals, Value.category, maxLocals]; done) | rfl
set_option maxRecDepth 65536 in
set_option maxHeartbeats 40000000 in
theorem own_rm0 (l : Launch) (Z : State) (a0 : Array Value) (hw : ∀ d ∈ tables_1, d.before a0 Z = true) (ws : List Jvm.Cond) (cs : Int32) (wI : Addr) (wT : Addr) (cT : Cell) (q1 : Int64) (p2 : Int32) (p3 : Int32) (p4 : Int32) (p5 : Int32) (h0 : Heap) (n0 : Nat) (Z0 : n0 ≤ h0.size) (O0 : Old Z n0 h0) (SS : Sta Z Z.heap "java/lang/String" "COMPACT_STRINGS" "Z" (.int cs)) (hcs : ¬ cs = (0 : Int32)) (SI : Sta Z Z.heap "com/example/libxqtype/libxqtype/ExpressionLexer$Kind" "INTEGER_LITERAL" "Lcom/example/libxqtype/libxqtype/ExpressionLexer$Kind;" (.ref wI)) (ST : Sta Z Z.heap "com/example/libxqtype/libxqtype/XmlCharacters" "ASCII_NAME_CHARACTERS" "[B" (.ref wT)) (AT : Arr Z Z.heap wT cT .byte) (hT : cT.slots.size = 128) (hTT : ∀ t : Int32, own_tK t → ∃ b, cT.slots[t.toNatClampNeg]? = some (.int b) ∧ ¬ b = (2 : Int32)) :
    own_Met l Z x code maxLocals ret ws room_1 #[(.long q1), (.int p2), (.int p3), (.int p4), (.int p5)] h0 (fun v h L => v = some (.int 1) ∧ Fr n0 L) := by
  refine own_enter (plainFor_of_name own_pn5) ?_
  intro p e s m below meth c s₁ X0 hx hZ hby hml hown hnm hret hlk e0
  have N0 := Fr.nil n0
  rw [own_rm0_ef m q1 p2 p3 p4 p5]
  show own_Fin _ _ _ _ _ _ (s₁.setTop (mkF m 0 #[.val (.long q1), .second, .val (.int p2), .val (.int p3), .val (.int p4), .val (.int p5), .unset, .unset, .unset, .unset, .unset, .unset, .unset, .unset] []))
  refine own_to (fun t k => XS.iconst X0.here hx rfl (hb hby at_0) k) ?_
  refine own_to (fun t k => XS.iloadN X0.here hx rfl (hb hby at_1) rfl k) ?_
  refine own_to (fun t k => X0.ldcInt hx hown (mvT hZ (own_W hw 0 rfl)) (g := (mkF m 2 #[.val (.long q1), .second, .val (.int p2), .val (.int p3), .val (.int p4), .val (.int p5), .unset, .unset, .unset, .unset, .unset, .unset, .unset, .unset] [(.int p2), (.int (1 : Int32))])) rfl (hb hby at_2) _ k) ?_
  show own_Fin _ _ _ _ _ _ (s₁.setTop (mkF m 4 #[.val (.long q1), .second, .val (.int p2), .val (.int p3), .val (.int p4), .val (.int p5), .unset, .unset, .unset, .unset, .unset, .unset, .unset, .unset] [(.int (2147483647 : Int32)), (.int p2), (.int (1 : Int32))]))
  refine own_to (fun t k => XS.iand X0.here hx rfl (hb hby at_4) rfl k) ?_
  show own_Fin _ _ _ _ _ _ (s₁.setTop (mkF m 5 #[.val (.long q1), .second, .val (.int p2), .val (.int p3), .val (.int p4), .val (.int p5), .unset, .unset, .unset, .unset, .unset, .unset, .unset, .unset] [(.int (p2 &&& (2147483647 : Int32))), (.int (1 : Int32))]))
  refine own_to (fun t k => XS.bipush X0.here hx rfl (hb hby at_5) k) ?_
  refine own_to (fun t k => XS.irem X0.here hx rfl (hb hby at_7) rfl (by decide) k) ?_
  show own_Fin _ _ _ _ _ _ (s₁.setTop (mkF m 8 #[.val (.long q1), .second, .val (.int p2), .val (.int p3), .val (.int p4), .val (.int p5), .unset, .unset, .unset, .unset, .unset, .unset, .unset, .unset] [(.int ((p2 &&& (2147483647 : Int32)) - (((p2 &&& (2147483647 : Int32)) / (18 : Int32)) * (18 : Int32)))), (.int (1 : Int32))]))
  refine own_to (fun t k => XS.iadd X0.here hx rfl (hb hby at_8) rfl k) ?_
  show own_Fin _ _ _ _ _ _ (s₁.setTop (mkF m 9 #[.val (.long q1), .second, .val (.int p2), .val (.int p3), .val (.int p4), .val (.int p5), .unset, .unset, .unset, .unset, .unset, .unset, .unset, .unset] [(.int ((1 : Int32) + ((p2 &&& (2147483647 : Int32)) - (((p2 &&& (2147483647 : Int32)) / (18 : Int32)) * (18 : Int32)))))]))
  obtain ⟨n, hn0⟩ : ∃ z, z = ((1 : Int32) + ((p2 &&& (2147483647 : Int32)) - (((p2 &&& (2147483647 : Int32)) / (18 : Int32)) * (18 : Int32)))) := ⟨_, rfl⟩
  rw [← hn0]
  show own_Fin _ _ _ _ _ _ (s₁.setTop (mkF m 9 #[.val (.long q1), .second, .val (.int p2), .val (.int p3), .val (.int p4), .val (.int p5), .unset, .unset, .unset, .unset, .unset, .unset, .unset, .unset] [(.int n)]))
  have hnb : 1 ≤ n.toInt ∧ n.toInt ≤ 18 := by rw [hn0]; exact own_nv _
  refine own_to (fun t k => XS.istore X0.here hx rfl (hb hby at_9) rfl (l' := #[.val (.long q1), .second, .val (.int p2), .val (.int p3), .val (.int p4), .val (.int p5), .val (.int n), .unset, .unset, .unset, .unset, .unset, .unset, .unset]) rfl k) ?_
  show own_Fin _ _ _ _ _ _ (s₁.setTop (mkF m 11 #[.val (.long q1), .second, .val (.int p2), .val (.int p3), .val (.int p4), .val (.int p5), .val (.int n), .unset, .unset, .unset, .unset, .unset, .unset, .unset] []))
  refine own_to (fun t k => XS.iloadN X0.here hx rfl (hb hby at_11) rfl k) ?_
  refine own_to (fun t k => X0.ldcInt hx hown (mvT hZ (own_W hw 0 rfl)) (g := (mkF m 12 #[.val (.long q1), .second, .val (.int p2), .val (.int p3), .val (.int p4), .val (.int p5), .val (.int n), .unset, .unset, .unset, .unset, .unset, .unset, .unset] [(.int p3)])) rfl (hb hby at_12) _ k) ?_
  show own_Fin _ _ _ _ _ _ (s₁.setTop (mkF m 14 #[.val (.long q1), .second, .val (.int p2), .val (.int p3), .val (.int p4), .val (.int p5), .val (.int n), .unset, .unset, .unset, .unset, .unset, .unset, .unset] [(.int (2147483647 : Int32)), (.int p3)]))
  refine own_to (fun t k => XS.iand X0.here hx rfl (hb hby at_14) rfl k) ?_
  show own_Fin _ _ _ _ _ _ (s₁.setTop (mkF m 15 #[.val (.long q1), .second, .val (.int p2), .val (.int p3), .val (.int p4), .val (.int p5), .val (.int n), .unset, .unset, .unset, .unset, .unset, .unset, .unset] [(.int (p3 &&& (2147483647 : Int32)))]))
  refine own_to (fun t k => XS.iconst X0.here hx rfl (hb hby at_15) k) ?_
  refine own_to (fun t k => XS.irem X0.here hx rfl (hb hby at_16) rfl (by decide) k) ?_
  show own_Fin _ _ _ _ _ _ (s₁.setTop (mkF m 17 #[.val (.long q1), .second, .val (.int p2), .val (.int p3), .val (.int p4), .val (.int p5), .val (.int n), .unset, .unset, .unset, .unset, .unset, .unset, .unset] [(.int ((p3 &&& (2147483647 : Int32)) - (((p3 &&& (2147483647 : Int32)) / (3 : Int32)) * (3 : Int32))))]))
  obtain ⟨pd, hpd⟩ : ∃ z, z = ((p3 &&& (2147483647 : Int32)) - (((p3 &&& (2147483647 : Int32)) / (3 : Int32)) * (3 : Int32))) := ⟨_, rfl⟩
  rw [← hpd]
  show own_Fin _ _ _ _ _ _ (s₁.setTop (mkF m 17 #[.val (.long q1), .second, .val (.int p2), .val (.int p3), .val (.int p4), .val (.int p5), .val (.int n), .unset, .unset, .unset, .unset, .unset, .unset, .unset] [(.int pd)]))
  have hpb : 0 ≤ pd.toInt ∧ pd.toInt < 3 := by rw [hpd]; exact own_remb _ 3 (by decide)
  refine own_to (fun t k => XS.istore X0.here hx rfl (hb hby at_17) rfl (l' := #[.val (.long q1), .second, .val (.int p2), .val (.int p3), .val (.int p4), .val (.int p5), .val (.int n), .val (.int pd), .unset, .unset, .unset, .unset, .unset, .unset]) rfl k) ?_
  show own_Fin _ _ _ _ _ _ (s₁.setTop (mkF m 19 #[.val (.long q1), .second, .val (.int p2), .val (.int p3), .val (.int p4), .val (.int p5), .val (.int n), .val (.int pd), .unset, .unset, .unset, .unset, .unset, .unset] []))
  refine own_to (fun t k => XS.lloadN X0.here hx rfl (hb hby at_19) rfl k) ?_
  refine own_to (fun t k => X0.ldc2Long hx hown (mvT hZ (own_W hw 1 rfl)) (g := (mkF m 20 #[.val (.long q1), .second, .val (.int p2), .val (.int p3), .val (.int p4), .val (.int p5), .val (.int n), .val (.int pd), .unset, .unset, .unset, .unset, .unset, .unset] [(.long q1)])) rfl (hb hby at_20) _ k) ?_
  show own_Fin _ _ _ _ _ _ (s₁.setTop (mkF m 23 #[.val (.long q1), .second, .val (.int p2), .val (.int p3), .val (.int p4), .val (.int p5), .val (.int n), .val (.int pd), .unset, .unset, .unset, .unset, .unset, .unset] [(.long (9223372036854775807 : Int64)), (.long q1)]))
  refine own_to (fun t k => XS.land X0.here hx rfl (hb hby at_23) rfl k) ?_
  show own_Fin _ _ _ _ _ _ (s₁.setTop (mkF m 24 #[.val (.long q1), .second, .val (.int p2), .val (.int p3), .val (.int p4), .val (.int p5), .val (.int n), .val (.int pd), .unset, .unset, .unset, .unset, .unset, .unset] [(.long (q1 &&& (9223372036854775807 : Int64)))]))
  refine own_to (fun t k => XS.iload X0.here hx rfl (hb hby at_24) rfl k) ?_
  obtain ⟨_, _, ⟨T385, L385, k385, n385⟩, -, X385, ⟨Lc385, hQ385, l385, y385, z385⟩, st385⟩ := Jvm.LawKit.callS X0 hx (y := (⟨"com/example/libxqtype/libxqtype/ExpressionLexerIntegerValuePinLaw", "pow10", "(I)J"⟩ : MethodName)) hown (mvT hZ (own_W hw 2 rfl)) (mvT hZ (own_W hw 3 rfl)) (mvT hZ (own_W hw 4 rfl)) (mvT hZ (own_W hw 5 rfl)) (by decide) (own_back (W := 2) (own_p10 l Z a0 hw [] n h0 n0 Z0 (own_nin hnb)) hZ (own_W hw 5 rfl) (own_W hw 4 rfl) (by decide) (by decide)) (g := (mkF m 26 #[.val (.long q1), .second, .val (.int p2), .val (.int p3), .val (.int p4), .val (.int p5), .val (.int n), .val (.int pd), .unset, .unset, .unset, .unset, .unset, .unset] [(.int n), (.long (q1 &&& (9223372036854775807 : Int64)))])) rfl (by rw [hml]; rfl) (argsL := [(.int n)]) (rest := [(.long (q1 &&& (9223372036854775807 : Int64)))]) (lenOf own_pd14 rfl) rfl (by show 2 * 0 + _ ≤ _; exact Nat.le_of_eq rfl) (hb hby at_26) (fun _ _ => ⟨rfl, e0, (by decide : 0 + 1 ≤ _), (by decide : 0 + 19 ≤ _)⟩)
  dsimp only [Pt.U, Pt.locs, Pt.cells, Pt.slots] at X385 l385 y385 z385 st385 hQ385
  rw [l385, y385, z385] at X385
  obtain ⟨rfl, N385q, K385⟩ := hQ385
  have N385 := Fr.app N0 N385q
  have O385 := O0.keep K385 all0
  refine own_to (fun t k => st385 t k) ?_
  show own_Fin _ _ _ _ _ _ (T385.setTop (mkF m 29 #[.val (.long q1), .second, .val (.int p2), .val (.int p3), .val (.int p4), .val (.int p5), .val (.int n), .val (.int pd), .unset, .unset, .unset, .unset, .unset, .unset] [(.long (own_pw n)), (.long (q1 &&& (9223372036854775807 : Int64)))]))
  refine own_to (fun t k => XS.lrem X385.here hx rfl (hb hby at_29) rfl (own_npz hnb) k) ?_
  show own_Fin _ _ _ _ _ _ (T385.setTop (mkF m 30 #[.val (.long q1), .second, .val (.int p2), .val (.int p3), .val (.int p4), .val (.int p5), .val (.int n), .val (.int pd), .unset, .unset, .unset, .unset, .unset, .unset] [(.long ((q1 &&& (9223372036854775807 : Int64)) - (((q1 &&& (9223372036854775807 : Int64)) / (own_pw n)) * (own_pw n))))]))
  obtain ⟨vv, hvv⟩ : ∃ z, z = ((q1 &&& (9223372036854775807 : Int64)) - (((q1 &&& (9223372036854775807 : Int64)) / (own_pw n)) * (own_pw n))) := ⟨_, rfl⟩
  rw [← hvv]
  show own_Fin _ _ _ _ _ _ (T385.setTop (mkF m 30 #[.val (.long q1), .second, .val (.int p2), .val (.int p3), .val (.int p4), .val (.int p5), .val (.int n), .val (.int pd), .unset, .unset, .unset, .unset, .unset, .unset] [(.long vv)]))
  refine own_to (fun t k => XS.lstore X385.here hx rfl (hb hby at_30) rfl (l' := #[.val (.long q1), .second, .val (.int p2), .val (.int p3), .val (.int p4), .val (.int p5), .val (.int n), .val (.int pd), .val (.long vv), .second, .unset, .unset, .unset, .unset]) rfl k) ?_
  show own_Fin _ _ _ _ _ _ (T385.setTop (mkF m 32 #[.val (.long q1), .second, .val (.int p2), .val (.int p3), .val (.int p4), .val (.int p5), .val (.int n), .val (.int pd), .val (.long vv), .second, .unset, .unset, .unset, .unset] []))
  refine own_to (fun t k => XS.iload X385.here hx rfl (hb hby at_32) rfl k) ?_
  obtain ⟨_, _, ⟨T386, L386, k386, n386⟩, -, X386, ⟨Lc386, hQ386, l386, y386, z386⟩, st386⟩ := Jvm.LawKit.callS X385 hx (y := (⟨"com/example/libxqtype/libxqtype/ExpressionLexerIntegerValuePinLaw", "whitespace", "(I)C"⟩ : MethodName)) hown (mvT hZ (own_W hw 25 rfl)) (mvT hZ (own_W hw 26 rfl)) (mvT hZ (own_W hw 4 rfl)) (mvT hZ (own_W hw 27 rfl)) (by decide) (own_back (W := 0) (own_wspr l Z a0 hw [] p4 T385.heap n0 (Nat.le_trans Z0 K385.1)) hZ (own_W hw 27 rfl) (own_W hw 4 rfl) (by decide) (by decide)) (g := (mkF m 34 #[.val (.long q1), .second, .val (.int p2), .val (.int p3), .val (.int p4), .val (.int p5), .val (.int n), .val (.int pd), .val (.long vv), .second, .unset, .unset, .unset, .unset] [(.int p4)])) rfl (by rw [hml]; rfl) (argsL := [(.int p4)]) (rest := []) (lenOf own_pd10 rfl) rfl (by show 2 * 0 + _ ≤ _; exact Nat.le_of_eq rfl) (hb hby at_34) (fun _ _ => ⟨rfl, rfl, (by decide : 1 + 0 ≤ _), (by decide : 19 + 0 ≤ _)⟩)
  dsimp only [Pt.U, Pt.locs, Pt.cells, Pt.slots] at X386 l386 y386 z386 st386 hQ386
  rw [l386, y386, z386] at X386
  obtain ⟨rfl, N386q, eh386⟩ := hQ386
  have N386 := Fr.app N385 N386q
  refine own_to (fun t k => st386 t k) ?_
  show own_Fin _ _ _ _ _ _ (T386.setTop (mkF m 37 #[.val (.long q1), .second, .val (.int p2), .val (.int p3), .val (.int p4), .val (.int p5), .val (.int n), .val (.int pd), .val (.long vv), .second, .unset, .unset, .unset, .unset] [(.int (own_wsp p4))]))
  obtain ⟨wz, hwz⟩ : ∃ z, z = (own_wsp p4) := ⟨_, rfl⟩
  rw [← hwz]
  show own_Fin _ _ _ _ _ _ (T386.setTop (mkF m 37 #[.val (.long q1), .second, .val (.int p2), .val (.int p3), .val (.int p4), .val (.int p5), .val (.int n), .val (.int pd), .val (.long vv), .second, .unset, .unset, .unset, .unset] [(.int wz)]))
  have hzK : own_wK wz := by rw [hwz]; exact own_wspK _
  refine own_to (fun t k => XS.istore X386.here hx rfl (hb hby at_37) rfl (l' := #[.val (.long q1), .second, .val (.int p2), .val (.int p3), .val (.int p4), .val (.int p5), .val (.int n), .val (.int pd), .val (.long vv), .second, .val (.int wz), .unset, .unset, .unset]) rfl k) ?_
  show own_Fin _ _ _ _ _ _ (T386.setTop (mkF m 39 #[.val (.long q1), .second, .val (.int p2), .val (.int p3), .val (.int p4), .val (.int p5), .val (.int n), .val (.int pd), .val (.long vv), .second, .val (.int wz), .unset, .unset, .unset] []))
  refine own_to (fun t k => XS.iload X386.here hx rfl (hb hby at_39) rfl k) ?_
  obtain ⟨_, _, ⟨T387, L387, k387, n387⟩, -, X387, ⟨Lc387, hQ387, l387, y387, z387⟩, st387⟩ := Jvm.LawKit.callS X386 hx (y := (⟨"com/example/libxqtype/libxqtype/ExpressionLexerIntegerValuePinLaw", "terminator", "(I)C"⟩ : MethodName)) hown (mvT hZ (own_W hw 28 rfl)) (mvT hZ (own_W hw 29 rfl)) (mvT hZ (own_W hw 4 rfl)) (mvT hZ (own_W hw 30 rfl)) (by decide) (own_back (W := 0) (own_trmr l Z a0 hw [] p5 T385.heap n0 (Nat.le_trans Z0 K385.1)) hZ (own_W hw 30 rfl) (own_W hw 4 rfl) (by decide) (by decide)) (g := (mkF m 41 #[.val (.long q1), .second, .val (.int p2), .val (.int p3), .val (.int p4), .val (.int p5), .val (.int n), .val (.int pd), .val (.long vv), .second, .val (.int wz), .unset, .unset, .unset] [(.int p5)])) rfl (by rw [hml]; rfl) (argsL := [(.int p5)]) (rest := []) (lenOf own_pd10 rfl) rfl (by show 2 * 0 + _ ≤ _; exact Nat.le_of_eq rfl) (hb hby at_41) (fun _ _ => ⟨rfl, eh386, (by decide : 1 + 0 ≤ _), (by decide : 19 + 0 ≤ _)⟩)
  dsimp only [Pt.U, Pt.locs, Pt.cells, Pt.slots] at X387 l387 y387 z387 st387 hQ387
  rw [l387, y387, z387] at X387
  obtain ⟨rfl, N387q, eh387⟩ := hQ387
  have N387 := Fr.app N386 N387q
  refine own_to (fun t k => st387 t k) ?_
  show own_Fin _ _ _ _ _ _ (T387.setTop (mkF m 44 #[.val (.long q1), .second, .val (.int p2), .val (.int p3), .val (.int p4), .val (.int p5), .val (.int n), .val (.int pd), .val (.long vv), .second, .val (.int wz), .unset, .unset, .unset] [(.int (own_trm p5))]))
  obtain ⟨tm, htm⟩ : ∃ z, z = (own_trm p5) := ⟨_, rfl⟩
  rw [← htm]
  show own_Fin _ _ _ _ _ _ (T387.setTop (mkF m 44 #[.val (.long q1), .second, .val (.int p2), .val (.int p3), .val (.int p4), .val (.int p5), .val (.int n), .val (.int pd), .val (.long vv), .second, .val (.int wz), .unset, .unset, .unset] [(.int tm)]))
  have htK : own_tK tm := by rw [htm]; exact own_trmK _
  obtain ⟨S, N, W, HK⟩ := own_mk hnb hpb hvv hzK htK
  refine own_to (fun t k => XS.istore X387.here hx rfl (hb hby at_44) rfl (l' := #[.val (.long q1), .second, .val (.int p2), .val (.int p3), .val (.int p4), .val (.int p5), .val (.int n), .val (.int pd), .val (.long vv), .second, .val (.int wz), .val (.int tm), .unset, .unset]) rfl k) ?_
  show own_Fin _ _ _ _ _ _ (T387.setTop (mkF m 46 #[.val (.long q1), .second, .val (.int p2), .val (.int p3), .val (.int p4), .val (.int p5), .val (.int n), .val (.int pd), .val (.long vv), .second, .val (.int wz), .val (.int tm), .unset, .unset] []))
  refine own_to (fun t k => XS.bipush X387.here hx rfl (hb hby at_46) k) ?_
  obtain ⟨T388, h388, k388, X388, e388, E388, A388, A388x, st388⟩ := newPE X387 hx hZ (own_W hw 31 rfl) eh387 (g := (mkF m 48 #[.val (.long q1), .second, .val (.int p2), .val (.int p3), .val (.int p4), .val (.int p5), .val (.int n), .val (.int pd), .val (.long vv), .second, .val (.int wz), .val (.int tm), .unset, .unset] [(.int (20 : Int32))])) rfl (hb hby at_48) rfl (by decide) (cap := 20) (by decide) (by decide) (by decide) (by decide) (ad := "[C") (by decide)
  obtain ⟨bc, q388⟩ : ∃ z, z = T385.heap.size := ⟨_, rfl⟩
  rw [← q388] at A388 A388x st388
  have g_bc : n0 ≤ bc := Nat.le_trans (Nat.le_trans Z0 K385.1) (Nat.le_of_eq q388.symm)
  have O388 := O385.ext E388
  have V388 := Arv.new A388 (by decide)
  refine own_to (fun t k => st388 t k) ?_
  show own_Fin _ _ _ _ _ _ (T388.setTop (mkF m 50 #[.val (.long q1), .second, .val (.int p2), .val (.int p3), .val (.int p4), .val (.int p5), .val (.int n), .val (.int pd), .val (.long vv), .second, .val (.int wz), .val (.int tm), .unset, .unset] [(.ref bc)]))
  have V389p : Arv Z h388 bc k388 .char (20 : Int32) [(.int (0 : Int32)), (.int (0 : Int32)), (.int (0 : Int32)), (.int (0 : Int32)), (.int (0 : Int32)), (.int (0 : Int32)), (.int (0 : Int32)), (.int (0 : Int32)), (.int (0 : Int32)), (.int (0 : Int32)), (.int (0 : Int32)), (.int (0 : Int32)), (.int (0 : Int32)), (.int (0 : Int32)), (.int (0 : Int32)), (.int (0 : Int32)), (.int (0 : Int32)), (.int (0 : Int32)), (.int (0 : Int32)), (.int (0 : Int32))] (.int (0 : Int32)) := V388.pad (pad_rep [] (.int (0 : Int32)) 20)
  refine own_to (fun t k => XS.astore X388.here hx rfl (hb hby at_50) rfl rfl (l' := #[.val (.long q1), .second, .val (.int p2), .val (.int p3), .val (.int p4), .val (.int p5), .val (.int n), .val (.int pd), .val (.long vv), .second, .val (.int wz), .val (.int tm), rv bc, .unset]) rfl k) ?_
  show own_Fin _ _ _ _ _ _ (T388.setTop (mkF m 52 #[.val (.long q1), .second, .val (.int p2), .val (.int p3), .val (.int p4), .val (.int p5), .val (.int n), .val (.int pd), .val (.long vv), .second, .val (.int wz), .val (.int tm), rv bc, .unset] []))
  refine own_to (fun t k => XS.aload X388.here hx rfl (hb hby at_52) rfl rfl k) ?_
  refine own_to (fun t k => XS.iconst X388.here hx rfl (hb hby at_54) k) ?_
  refine own_to (fun t k => XS.iconst X388.here hx rfl (hb hby at_55) k) ?_
  show own_Fin _ _ _ _ _ _ (T388.setTop (mkF m 56 #[.val (.long q1), .second, .val (.int p2), .val (.int p3), .val (.int p4), .val (.int p5), .val (.int n), .val (.int pd), .val (.long vv), .second, .val (.int wz), .val (.int tm), rv bc, .unset] [(.int (0 : Int32)), (.int (0 : Int32)), (.ref bc)]))
  refine own_to (fun t k => XS.iload X388.here hx rfl (hb hby at_56) rfl k) ?_
  refine own_to (fun t k => XS.iload X388.here hx rfl (hb hby at_58) rfl k) ?_
  refine own_to (fun t k => XS.lload X388.here hx rfl (hb hby at_60) rfl k) ?_
  show own_Fin _ _ _ _ _ _ (T388.setTop (mkF m 62 #[.val (.long q1), .second, .val (.int p2), .val (.int p3), .val (.int p4), .val (.int p5), .val (.int n), .val (.int pd), .val (.long vv), .second, .val (.int wz), .val (.int tm), rv bc, .unset] [(.long vv), (.int n), (.int pd), (.int (0 : Int32)), (.int (0 : Int32)), (.ref bc)]))
  refine own_to (fun t k => XS.iload X388.here hx rfl (hb hby at_62) rfl k) ?_
  refine own_to (fun t k => XS.iload X388.here hx rfl (hb hby at_64) rfl k) ?_
  obtain ⟨_, _, ⟨T390, L390, k390, n390⟩, -, X390, ⟨Lc390, hQ390, l390, y390, z390⟩, st390⟩ := Jvm.LawKit.callS X388 hx (y := (⟨"com/example/libxqtype/libxqtype/ExpressionLexerIntegerValuePinLaw", "at", "(IIIJCC)C"⟩ : MethodName)) hown (mvT hZ (own_W hw 32 rfl)) (mvT hZ (own_W hw 33 rfl)) (mvT hZ (own_W hw 4 rfl)) (mvT hZ (own_W hw 34 rfl)) (by decide) (own_back (W := 2) (own_chr l Z a0 hw [] (0 : Int32) pd n vv wz tm S N W 0 h388 n0 (Nat.le_trans (Nat.le_trans Z0 K385.1) E388.1) HK rfl (by decide)) hZ (own_W hw 34 rfl) (own_W hw 4 rfl) (by decide) (by decide)) (g := (mkF m 66 #[.val (.long q1), .second, .val (.int p2), .val (.int p3), .val (.int p4), .val (.int p5), .val (.int n), .val (.int pd), .val (.long vv), .second, .val (.int wz), .val (.int tm), rv bc, .unset] [(.int tm), (.int wz), (.long vv), (.int n), (.int pd), (.int (0 : Int32)), (.int (0 : Int32)), (.ref bc)])) rfl (by rw [hml]; rfl) (argsL := [(.int (0 : Int32)), (.int pd), (.int n), (.long vv), (.int wz), (.int tm)]) (rest := [(.int (0 : Int32)), (.ref bc)]) (lenOf own_pd15 rfl) rfl (by show 2 * 0 + _ ≤ _; exact Nat.le_of_eq rfl) (hb hby at_66) (fun _ _ => ⟨rfl, e388, (by decide : 2 + 1 ≤ _), (by decide : 39 + 19 ≤ _)⟩)
  dsimp only [Pt.U, Pt.locs, Pt.cells, Pt.slots] at X390 l390 y390 z390 st390 hQ390
  rw [l390, y390, z390] at X390
  obtain ⟨rfl, N390q, K390⟩ := hQ390
  have N390 := Fr.app N387 N390q
  have O390 := O388.keep K390 all0
  have V389p_e390 := V389p.keep K390 nin0
  have A388x_e390 := A388x.keep K390
  refine own_to (fun t k => st390 t k) ?_
  show own_Fin _ _ _ _ _ _ (T390.setTop (mkF m 69 #[.val (.long q1), .second, .val (.int p2), .val (.int p3), .val (.int p4), .val (.int p5), .val (.int n), .val (.int pd), .val (.long vv), .second, .val (.int wz), .val (.int tm), rv bc, .unset] [(.int (own_ch (0 : Int32) pd n vv wz tm)), (.int (0 : Int32)), (.ref bc)]))
  obtain ⟨x0, ex0⟩ : ∃ z, z = (own_ch (0 : Int32) pd n vv wz tm) := ⟨_, rfl⟩
  rw [← ex0]
  have hB0 := own_chB HK (i := (0 : Int32)) (I := 0) rfl (by decide)
  rw [← ex0] at hB0
  show own_Fin _ _ _ _ _ _ (T390.setTop (mkF m 69 #[.val (.long q1), .second, .val (.int p2), .val (.int p3), .val (.int p4), .val (.int p5), .val (.int n), .val (.int pd), .val (.long vv), .second, .val (.int wz), .val (.int tm), rv bc, .unset] [(.int x0), (.int (0 : Int32)), (.ref bc)]))
  obtain ⟨cl391, Ar391, qa391, Sa391, Na391, Ha391, Ga391⟩ := id V389p_e390
  have hin392 : ¬ ((0 : Int32) < 0 ∨ cl391.slots.size ≤ ((0 : Int32)).toNatClampNeg) := inb_of Sa391 ⟨by decide, by decide⟩
  obtain ⟨T392, h392, X392, e392, W392, st392⟩ := stC X390 hx hZ rfl Ar391 (j := (0 : Int32)) hin392 (g := (mkF m 69 #[.val (.long q1), .second, .val (.int p2), .val (.int p3), .val (.int p4), .val (.int p5), .val (.int n), .val (.int pd), .val (.long vv), .second, .val (.int wz), .val (.int tm), rv bc, .unset] [(.int x0), (.int (0 : Int32)), (.ref bc)])) rfl rfl (hb hby at_69)
  rw [own_nb hB0.1 hB0.2] at W392
  have N392 := Fr.snoc X392 N390 g_bc
  have O392 := O390.wr W392 g_bc
  have A388x_e392 := A388x_e390.wr W392
  have V392 : Arv Z h392 bc k388 .char (20 : Int32) [(.int x0), (.int (0 : Int32)), (.int (0 : Int32)), (.int (0 : Int32)), (.int (0 : Int32)), (.int (0 : Int32)), (.int (0 : Int32)), (.int (0 : Int32)), (.int (0 : Int32)), (.int (0 : Int32)), (.int (0 : Int32)), (.int (0 : Int32)), (.int (0 : Int32)), (.int (0 : Int32)), (.int (0 : Int32)), (.int (0 : Int32)), (.int (0 : Int32)), (.int (0 : Int32)), (.int (0 : Int32)), (.int (0 : Int32))] (.int (0 : Int32)) := Arv.set Ar391 qa391 Sa391 Na391 Ha391 Ga391 (own_fx hB0.1 hB0.2) W392 0 rfl (Nat.le_of_ble_eq_true rfl)
  refine own_to (fun t k => st392 t k) ?_
  show own_Fin _ _ _ _ _ _ (T392.setTop (mkF m 70 #[.val (.long q1), .second, .val (.int p2), .val (.int p3), .val (.int p4), .val (.int p5), .val (.int n), .val (.int pd), .val (.long vv), .second, .val (.int wz), .val (.int tm), rv bc, .unset] []))
  refine own_to (fun t k => XS.aload X392.here hx rfl (hb hby at_70) rfl rfl k) ?_
  show own_Fin _ _ _ _ _ _ (T392.setTop (mkF m 72 #[.val (.long q1), .second, .val (.int p2), .val (.int p3), .val (.int p4), .val (.int p5), .val (.int n), .val (.int pd), .val (.long vv), .second, .val (.int wz), .val (.int tm), rv bc, .unset] [(.ref bc)]))
  refine own_to (fun t k => XS.iconst X392.here hx rfl (hb hby at_72) k) ?_
  refine own_to (fun t k => XS.iconst X392.here hx rfl (hb hby at_73) k) ?_
  refine own_to (fun t k => XS.iload X392.here hx rfl (hb hby at_74) rfl k) ?_
  show own_Fin _ _ _ _ _ _ (T392.setTop (mkF m 76 #[.val (.long q1), .second, .val (.int p2), .val (.int p3), .val (.int p4), .val (.int p5), .val (.int n), .val (.int pd), .val (.long vv), .second, .val (.int wz), .val (.int tm), rv bc, .unset] [(.int pd), (.int (1 : Int32)), (.int (1 : Int32)), (.ref bc)]))
  refine own_to (fun t k => XS.iload X392.here hx rfl (hb hby at_76) rfl k) ?_
  refine own_to (fun t k => XS.lload X392.here hx rfl (hb hby at_78) rfl k) ?_
  refine own_to (fun t k => XS.iload X392.here hx rfl (hb hby at_80) rfl k) ?_
  show own_Fin _ _ _ _ _ _ (T392.setTop (mkF m 82 #[.val (.long q1), .second, .val (.int p2), .val (.int p3), .val (.int p4), .val (.int p5), .val (.int n), .val (.int pd), .val (.long vv), .second, .val (.int wz), .val (.int tm), rv bc, .unset] [(.int wz), (.long vv), (.int n), (.int pd), (.int (1 : Int32)), (.int (1 : Int32)), (.ref bc)]))
  refine own_to (fun t k => XS.iload X392.here hx rfl (hb hby at_82) rfl k) ?_
  have zs393 := (Nat.le_trans (Nat.le_trans (Nat.le_trans (Nat.le_trans Z0 K385.1) E388.1) K390.1) (Keep.of_wr W392).1)
  obtain ⟨_, _, ⟨T394, L394, k394, n394⟩, -, X394, ⟨Lc394, hQ394, l394, y394, z394⟩, st394⟩ := Jvm.LawKit.callS X392 hx (y := (⟨"com/example/libxqtype/libxqtype/ExpressionLexerIntegerValuePinLaw", "at", "(IIIJCC)C"⟩ : MethodName)) hown (mvT hZ (own_W hw 32 rfl)) (mvT hZ (own_W hw 33 rfl)) (mvT hZ (own_W hw 4 rfl)) (mvT hZ (own_W hw 34 rfl)) (by decide) (own_back (W := 2) (own_chr l Z a0 hw [] (1 : Int32) pd n vv wz tm S N W 1 h392 n0 zs393 HK rfl (by decide)) hZ (own_W hw 34 rfl) (own_W hw 4 rfl) (by decide) (by decide)) (g := (mkF m 84 #[.val (.long q1), .second, .val (.int p2), .val (.int p3), .val (.int p4), .val (.int p5), .val (.int n), .val (.int pd), .val (.long vv), .second, .val (.int wz), .val (.int tm), rv bc, .unset] [(.int tm), (.int wz), (.long vv), (.int n), (.int pd), (.int (1 : Int32)), (.int (1 : Int32)), (.ref bc)])) rfl (by rw [hml]; rfl) (argsL := [(.int (1 : Int32)), (.int pd), (.int n), (.long vv), (.int wz), (.int tm)]) (rest := [(.int (1 : Int32)), (.ref bc)]) (lenOf own_pd15 rfl) rfl (by show 2 * 0 + _ ≤ _; exact Nat.le_of_eq rfl) (hb hby at_84) (fun _ _ => ⟨rfl, e392, (by decide : 3 + 1 ≤ _), (by decide : 58 + 19 ≤ _)⟩)
  dsimp only [Pt.U, Pt.locs, Pt.cells, Pt.slots] at X394 l394 y394 z394 st394 hQ394
  rw [l394, y394, z394] at X394
  obtain ⟨rfl, N394q, K394⟩ := hQ394
  have N394 := Fr.app N392 N394q
  have O394 := O392.keep K394 all0
  have A388x_e394 := A388x_e392.keep K394
  have V392_e394 := V392.keep K394 nin0
  refine own_to (fun t k => st394 t k) ?_
  show own_Fin _ _ _ _ _ _ (T394.setTop (mkF m 87 #[.val (.long q1), .second, .val (.int p2), .val (.int p3), .val (.int p4), .val (.int p5), .val (.int n), .val (.int pd), .val (.long vv), .second, .val (.int wz), .val (.int tm), rv bc, .unset] [(.int (own_ch (1 : Int32) pd n vv wz tm)), (.int (1 : Int32)), (.ref bc)]))
  obtain ⟨x1, ex1⟩ : ∃ z, z = (own_ch (1 : Int32) pd n vv wz tm) := ⟨_, rfl⟩
  rw [← ex1]
  have hB1 := own_chB HK (i := (1 : Int32)) (I := 1) rfl (by decide)
  rw [← ex1] at hB1
  show own_Fin _ _ _ _ _ _ (T394.setTop (mkF m 87 #[.val (.long q1), .second, .val (.int p2), .val (.int p3), .val (.int p4), .val (.int p5), .val (.int n), .val (.int pd), .val (.long vv), .second, .val (.int wz), .val (.int tm), rv bc, .unset] [(.int x1), (.int (1 : Int32)), (.ref bc)]))
  obtain ⟨cl395, Ar395, qa395, Sa395, Na395, Ha395, Ga395⟩ := id V392_e394
  have hin396 : ¬ ((1 : Int32) < 0 ∨ cl395.slots.size ≤ ((1 : Int32)).toNatClampNeg) := inb_of Sa395 ⟨by decide, by decide⟩
  obtain ⟨T396, h396, X396, e396, W396, st396⟩ := stC X394 hx hZ rfl Ar395 (j := (1 : Int32)) hin396 (g := (mkF m 87 #[.val (.long q1), .second, .val (.int p2), .val (.int p3), .val (.int p4), .val (.int p5), .val (.int n), .val (.int pd), .val (.long vv), .second, .val (.int wz), .val (.int tm), rv bc, .unset] [(.int x1), (.int (1 : Int32)), (.ref bc)])) rfl rfl (hb hby at_87)
  rw [own_nb hB1.1 hB1.2] at W396
  have N396 := Fr.snoc X396 N394 g_bc
  have O396 := O394.wr W396 g_bc
  have A388x_e396 := A388x_e394.wr W396
  have V396 : Arv Z h396 bc k388 .char (20 : Int32) [(.int x0), (.int x1), (.int (0 : Int32)), (.int (0 : Int32)), (.int (0 : Int32)), (.int (0 : Int32)), (.int (0 : Int32)), (.int (0 : Int32)), (.int (0 : Int32)), (.int (0 : Int32)), (.int (0 : Int32)), (.int (0 : Int32)), (.int (0 : Int32)), (.int (0 : Int32)), (.int (0 : Int32)), (.int (0 : Int32)), (.int (0 : Int32)), (.int (0 : Int32)), (.int (0 : Int32)), (.int (0 : Int32))] (.int (0 : Int32)) := Arv.set Ar395 qa395 Sa395 Na395 Ha395 Ga395 (own_fx hB1.1 hB1.2) W396 1 rfl (Nat.le_of_ble_eq_true rfl)
  refine own_to (fun t k => st396 t k) ?_
  show own_Fin _ _ _ _ _ _ (T396.setTop (mkF m 88 #[.val (.long q1), .second, .val (.int p2), .val (.int p3), .val (.int p4), .val (.int p5), .val (.int n), .val (.int pd), .val (.long vv), .second, .val (.int wz), .val (.int tm), rv bc, .unset] []))
  refine own_to (fun t k => XS.aload X396.here hx rfl (hb hby at_88) rfl rfl k) ?_
  refine own_to (fun t k => XS.iconst X396.here hx rfl (hb hby at_90) k) ?_
  show own_Fin _ _ _ _ _ _ (T396.setTop (mkF m 91 #[.val (.long q1), .second, .val (.int p2), .val (.int p3), .val (.int p4), .val (.int p5), .val (.int n), .val (.int pd), .val (.long vv), .second, .val (.int wz), .val (.int tm), rv bc, .unset] [(.int (2 : Int32)), (.ref bc)]))
  refine own_to (fun t k => XS.iconst X396.here hx rfl (hb hby at_91) k) ?_
  refine own_to (fun t k => XS.iload X396.here hx rfl (hb hby at_92) rfl k) ?_
  refine own_to (fun t k => XS.iload X396.here hx rfl (hb hby at_94) rfl k) ?_
  show own_Fin _ _ _ _ _ _ (T396.setTop (mkF m 96 #[.val (.long q1), .second, .val (.int p2), .val (.int p3), .val (.int p4), .val (.int p5), .val (.int n), .val (.int pd), .val (.long vv), .second, .val (.int wz), .val (.int tm), rv bc, .unset] [(.int n), (.int pd), (.int (2 : Int32)), (.int (2 : Int32)), (.ref bc)]))
  refine own_to (fun t k => XS.lload X396.here hx rfl (hb hby at_96) rfl k) ?_
  refine own_to (fun t k => XS.iload X396.here hx rfl (hb hby at_98) rfl k) ?_
  refine own_to (fun t k => XS.iload X396.here hx rfl (hb hby at_100) rfl k) ?_
  show own_Fin _ _ _ _ _ _ (T396.setTop (mkF m 102 #[.val (.long q1), .second, .val (.int p2), .val (.int p3), .val (.int p4), .val (.int p5), .val (.int n), .val (.int pd), .val (.long vv), .second, .val (.int wz), .val (.int tm), rv bc, .unset] [(.int tm), (.int wz), (.long vv), (.int n), (.int pd), (.int (2 : Int32)), (.int (2 : Int32)), (.ref bc)]))
  obtain ⟨_, _, ⟨T397, L397, k397, n397⟩, -, X397, ⟨Lc397, hQ397, l397, y397, z397⟩, st397⟩ := Jvm.LawKit.callS X396 hx (y := (⟨"com/example/libxqtype/libxqtype/ExpressionLexerIntegerValuePinLaw", "at", "(IIIJCC)C"⟩ : MethodName)) hown (mvT hZ (own_W hw 32 rfl)) (mvT hZ (own_W hw 33 rfl)) (mvT hZ (own_W hw 4 rfl)) (mvT hZ (own_W hw 34 rfl)) (by decide) (own_back (W := 2) (own_chr l Z a0 hw [] (2 : Int32) pd n vv wz tm S N W 2 h396 n0 (Nat.le_trans (Nat.le_trans zs393 K394.1) (Keep.of_wr W396).1) HK rfl (by decide)) hZ (own_W hw 34 rfl) (own_W hw 4 rfl) (by decide) (by decide)) (g := (mkF m 102 #[.val (.long q1), .second, .val (.int p2), .val (.int p3), .val (.int p4), .val (.int p5), .val (.int n), .val (.int pd), .val (.long vv), .second, .val (.int wz), .val (.int tm), rv bc, .unset] [(.int tm), (.int wz), (.long vv), (.int n), (.int pd), (.int (2 : Int32)), (.int (2 : Int32)), (.ref bc)])) rfl (by rw [hml]; rfl) (argsL := [(.int (2 : Int32)), (.int pd), (.int n), (.long vv), (.int wz), (.int tm)]) (rest := [(.int (2 : Int32)), (.ref bc)]) (lenOf own_pd15 rfl) rfl (by show 2 * 0 + _ ≤ _; exact Nat.le_of_eq rfl) (hb hby at_102) (fun _ _ => ⟨rfl, e396, (by decide : 4 + 1 ≤ _), (by decide : 77 + 19 ≤ _)⟩)
  dsimp only [Pt.U, Pt.locs, Pt.cells, Pt.slots] at X397 l397 y397 z397 st397 hQ397
  rw [l397, y397, z397] at X397
  obtain ⟨rfl, N397q, K397⟩ := hQ397
  have N397 := Fr.app N396 N397q
  have O397 := O396.keep K397 all0
  have A388x_e397 := A388x_e396.keep K397
  have V396_e397 := V396.keep K397 nin0
  refine own_to (fun t k => st397 t k) ?_
  show own_Fin _ _ _ _ _ _ (T397.setTop (mkF m 105 #[.val (.long q1), .second, .val (.int p2), .val (.int p3), .val (.int p4), .val (.int p5), .val (.int n), .val (.int pd), .val (.long vv), .second, .val (.int wz), .val (.int tm), rv bc, .unset] [(.int (own_ch (2 : Int32) pd n vv wz tm)), (.int (2 : Int32)), (.ref bc)]))
  obtain ⟨x2, ex2⟩ : ∃ z, z = (own_ch (2 : Int32) pd n vv wz tm) := ⟨_, rfl⟩
  rw [← ex2]
  have hB2 := own_chB HK (i := (2 : Int32)) (I := 2) rfl (by decide)
  rw [← ex2] at hB2
  show own_Fin _ _ _ _ _ _ (T397.setTop (mkF m 105 #[.val (.long q1), .second, .val (.int p2), .val (.int p3), .val (.int p4), .val (.int p5), .val (.int n), .val (.int pd), .val (.long vv), .second, .val (.int wz), .val (.int tm), rv bc, .unset] [(.int x2), (.int (2 : Int32)), (.ref bc)]))
  obtain ⟨cl398, Ar398, qa398, Sa398, Na398, Ha398, Ga398⟩ := id V396_e397
  have hin399 : ¬ ((2 : Int32) < 0 ∨ cl398.slots.size ≤ ((2 : Int32)).toNatClampNeg) := inb_of Sa398 ⟨by decide, by decide⟩
  obtain ⟨T399, h399, X399, e399, W399, st399⟩ := stC X397 hx hZ rfl Ar398 (j := (2 : Int32)) hin399 (g := (mkF m 105 #[.val (.long q1), .second, .val (.int p2), .val (.int p3), .val (.int p4), .val (.int p5), .val (.int n), .val (.int pd), .val (.long vv), .second, .val (.int wz), .val (.int tm), rv bc, .unset] [(.int x2), (.int (2 : Int32)), (.ref bc)])) rfl rfl (hb hby at_105)
  rw [own_nb hB2.1 hB2.2] at W399
  have N399 := Fr.snoc X399 N397 g_bc
  have O399 := O397.wr W399 g_bc
  have A388x_e399 := A388x_e397.wr W399
  have V399 : Arv Z h399 bc k388 .char (20 : Int32) [(.int x0), (.int x1), (.int x2), (.int (0 : Int32)), (.int (0 : Int32)), (.int (0 : Int32)), (.int (0 : Int32)), (.int (0 : Int32)), (.int (0 : Int32)), (.int (0 : Int32)), (.int (0 : Int32)), (.int (0 : Int32)), (.int (0 : Int32)), (.int (0 : Int32)), (.int (0 : Int32)), (.int (0 : Int32)), (.int (0 : Int32)), (.int (0 : Int32)), (.int (0 : Int32)), (.int (0 : Int32))] (.int (0 : Int32)) := Arv.set Ar398 qa398 Sa398 Na398 Ha398 Ga398 (own_fx hB2.1 hB2.2) W399 2 rfl (Nat.le_of_ble_eq_true rfl)
  refine own_to (fun t k => st399 t k) ?_
  show own_Fin _ _ _ _ _ _ (T399.setTop (mkF m 106 #[.val (.long q1), .second, .val (.int p2), .val (.int p3), .val (.int p4), .val (.int p5), .val (.int n), .val (.int pd), .val (.long vv), .second, .val (.int wz), .val (.int tm), rv bc, .unset] []))
  refine own_to (fun t k => XS.aload X399.here hx rfl (hb hby at_106) rfl rfl k) ?_
  refine own_to (fun t k => XS.iconst X399.here hx rfl (hb hby at_108) k) ?_
  refine own_to (fun t k => XS.iconst X399.here hx rfl (hb hby at_109) k) ?_
  show own_Fin _ _ _ _ _ _ (T399.setTop (mkF m 110 #[.val (.long q1), .second, .val (.int p2), .val (.int p3), .val (.int p4), .val (.int p5), .val (.int n), .val (.int pd), .val (.long vv), .second, .val (.int wz), .val (.int tm), rv bc, .unset] [(.int (3 : Int32)), (.int (3 : Int32)), (.ref bc)]))
  refine own_to (fun t k => XS.iload X399.here hx rfl (hb hby at_110) rfl k) ?_
  refine own_to (fun t k => XS.iload X399.here hx rfl (hb hby at_112) rfl k) ?_
  refine own_to (fun t k => XS.lload X399.here hx rfl (hb hby at_114) rfl k) ?_
  show own_Fin _ _ _ _ _ _ (T399.setTop (mkF m 116 #[.val (.long q1), .second, .val (.int p2), .val (.int p3), .val (.int p4), .val (.int p5), .val (.int n), .val (.int pd), .val (.long vv), .second, .val (.int wz), .val (.int tm), rv bc, .unset] [(.long vv), (.int n), (.int pd), (.int (3 : Int32)), (.int (3 : Int32)), (.ref bc)]))
  refine own_to (fun t k => XS.iload X399.here hx rfl (hb hby at_116) rfl k) ?_
  refine own_to (fun t k => XS.iload X399.here hx rfl (hb hby at_118) rfl k) ?_
  have zs400 := (Nat.le_trans (Nat.le_trans (Nat.le_trans (Nat.le_trans zs393 K394.1) (Keep.of_wr W396).1) K397.1) (Keep.of_wr W399).1)
  obtain ⟨_, _, ⟨T401, L401, k401, n401⟩, -, X401, ⟨Lc401, hQ401, l401, y401, z401⟩, st401⟩ := Jvm.LawKit.callS X399 hx (y := (⟨"com/example/libxqtype/libxqtype/ExpressionLexerIntegerValuePinLaw", "at", "(IIIJCC)C"⟩ : MethodName)) hown (mvT hZ (own_W hw 32 rfl)) (mvT hZ (own_W hw 33 rfl)) (mvT hZ (own_W hw 4 rfl)) (mvT hZ (own_W hw 34 rfl)) (by decide) (own_back (W := 2) (own_chr l Z a0 hw [] (3 : Int32) pd n vv wz tm S N W 3 h399 n0 zs400 HK rfl (by decide)) hZ (own_W hw 34 rfl) (own_W hw 4 rfl) (by decide) (by decide)) (g := (mkF m 120 #[.val (.long q1), .second, .val (.int p2), .val (.int p3), .val (.int p4), .val (.int p5), .val (.int n), .val (.int pd), .val (.long vv), .second, .val (.int wz), .val (.int tm), rv bc, .unset] [(.int tm), (.int wz), (.long vv), (.int n), (.int pd), (.int (3 : Int32)), (.int (3 : Int32)), (.ref bc)])) rfl (by rw [hml]; rfl) (argsL := [(.int (3 : Int32)), (.int pd), (.int n), (.long vv), (.int wz), (.int tm)]) (rest := [(.int (3 : Int32)), (.ref bc)]) (lenOf own_pd15 rfl) rfl (by show 2 * 0 + _ ≤ _; exact Nat.le_of_eq rfl) (hb hby at_120) (fun _ _ => ⟨rfl, e399, (by decide : 5 + 1 ≤ _), (by decide : 96 + 19 ≤ _)⟩)
  dsimp only [Pt.U, Pt.locs, Pt.cells, Pt.slots] at X401 l401 y401 z401 st401 hQ401
  rw [l401, y401, z401] at X401
  obtain ⟨rfl, N401q, K401⟩ := hQ401
  have N401 := Fr.app N399 N401q
  have O401 := O399.keep K401 all0
  have A388x_e401 := A388x_e399.keep K401
  have V399_e401 := V399.keep K401 nin0
  refine own_to (fun t k => st401 t k) ?_
  show own_Fin _ _ _ _ _ _ (T401.setTop (mkF m 123 #[.val (.long q1), .second, .val (.int p2), .val (.int p3), .val (.int p4), .val (.int p5), .val (.int n), .val (.int pd), .val (.long vv), .second, .val (.int wz), .val (.int tm), rv bc, .unset] [(.int (own_ch (3 : Int32) pd n vv wz tm)), (.int (3 : Int32)), (.ref bc)]))
  obtain ⟨x3, ex3⟩ : ∃ z, z = (own_ch (3 : Int32) pd n vv wz tm) := ⟨_, rfl⟩
  rw [← ex3]
  have hB3 := own_chB HK (i := (3 : Int32)) (I := 3) rfl (by decide)
  rw [← ex3] at hB3
  show own_Fin _ _ _ _ _ _ (T401.setTop (mkF m 123 #[.val (.long q1), .second, .val (.int p2), .val (.int p3), .val (.int p4), .val (.int p5), .val (.int n), .val (.int pd), .val (.long vv), .second, .val (.int wz), .val (.int tm), rv bc, .unset] [(.int x3), (.int (3 : Int32)), (.ref bc)]))
  obtain ⟨cl402, Ar402, qa402, Sa402, Na402, Ha402, Ga402⟩ := id V399_e401
  have hin403 : ¬ ((3 : Int32) < 0 ∨ cl402.slots.size ≤ ((3 : Int32)).toNatClampNeg) := inb_of Sa402 ⟨by decide, by decide⟩
  obtain ⟨T403, h403, X403, e403, W403, st403⟩ := stC X401 hx hZ rfl Ar402 (j := (3 : Int32)) hin403 (g := (mkF m 123 #[.val (.long q1), .second, .val (.int p2), .val (.int p3), .val (.int p4), .val (.int p5), .val (.int n), .val (.int pd), .val (.long vv), .second, .val (.int wz), .val (.int tm), rv bc, .unset] [(.int x3), (.int (3 : Int32)), (.ref bc)])) rfl rfl (hb hby at_123)
  rw [own_nb hB3.1 hB3.2] at W403
  have N403 := Fr.snoc X403 N401 g_bc
  have O403 := O401.wr W403 g_bc
  have A388x_e403 := A388x_e401.wr W403
  have V403 : Arv Z h403 bc k388 .char (20 : Int32) [(.int x0), (.int x1), (.int x2), (.int x3), (.int (0 : Int32)), (.int (0 : Int32)), (.int (0 : Int32)), (.int (0 : Int32)), (.int (0 : Int32)), (.int (0 : Int32)), (.int (0 : Int32)), (.int (0 : Int32)), (.int (0 : Int32)), (.int (0 : Int32)), (.int (0 : Int32)), (.int (0 : Int32)), (.int (0 : Int32)), (.int (0 : Int32)), (.int (0 : Int32)), (.int (0 : Int32))] (.int (0 : Int32)) := Arv.set Ar402 qa402 Sa402 Na402 Ha402 Ga402 (own_fx hB3.1 hB3.2) W403 3 rfl (Nat.le_of_ble_eq_true rfl)
  refine own_to (fun t k => st403 t k) ?_
  show own_Fin _ _ _ _ _ _ (T403.setTop (mkF m 124 #[.val (.long q1), .second, .val (.int p2), .val (.int p3), .val (.int p4), .val (.int p5), .val (.int n), .val (.int pd), .val (.long vv), .second, .val (.int wz), .val (.int tm), rv bc, .unset] []))
  refine own_to (fun t k => XS.aload X403.here hx rfl (hb hby at_124) rfl rfl k) ?_
  show own_Fin _ _ _ _ _ _ (T403.setTop (mkF m 126 #[.val (.long q1), .second, .val (.int p2), .val (.int p3), .val (.int p4), .val (.int p5), .val (.int n), .val (.int pd), .val (.long vv), .second, .val (.int wz), .val (.int tm), rv bc, .unset] [(.ref bc)]))
  refine own_to (fun t k => XS.iconst X403.here hx rfl (hb hby at_126) k) ?_
  refine own_to (fun t k => XS.iconst X403.here hx rfl (hb hby at_127) k) ?_
  refine own_to (fun t k => XS.iload X403.here hx rfl (hb hby at_128) rfl k) ?_
  show own_Fin _ _ _ _ _ _ (T403.setTop (mkF m 130 #[.val (.long q1), .second, .val (.int p2), .val (.int p3), .val (.int p4), .val (.int p5), .val (.int n), .val (.int pd), .val (.long vv), .second, .val (.int wz), .val (.int tm), rv bc, .unset] [(.int pd), (.int (4 : Int32)), (.int (4 : Int32)), (.ref bc)]))
  refine own_to (fun t k => XS.iload X403.here hx rfl (hb hby at_130) rfl k) ?_
  refine own_to (fun t k => XS.lload X403.here hx rfl (hb hby at_132) rfl k) ?_
  refine own_to (fun t k => XS.iload X403.here hx rfl (hb hby at_134) rfl k) ?_
  show own_Fin _ _ _ _ _ _ (T403.setTop (mkF m 136 #[.val (.long q1), .second, .val (.int p2), .val (.int p3), .val (.int p4), .val (.int p5), .val (.int n), .val (.int pd), .val (.long vv), .second, .val (.int wz), .val (.int tm), rv bc, .unset] [(.int wz), (.long vv), (.int n), (.int pd), (.int (4 : Int32)), (.int (4 : Int32)), (.ref bc)]))
  refine own_to (fun t k => XS.iload X403.here hx rfl (hb hby at_136) rfl k) ?_
  obtain ⟨_, _, ⟨T404, L404, k404, n404⟩, -, X404, ⟨Lc404, hQ404, l404, y404, z404⟩, st404⟩ := Jvm.LawKit.callS X403 hx (y := (⟨"com/example/libxqtype/libxqtype/ExpressionLexerIntegerValuePinLaw", "at", "(IIIJCC)C"⟩ : MethodName)) hown (mvT hZ (own_W hw 32 rfl)) (mvT hZ (own_W hw 33 rfl)) (mvT hZ (own_W hw 4 rfl)) (mvT hZ (own_W hw 34 rfl)) (by decide) (own_back (W := 2) (own_chr l Z a0 hw [] (4 : Int32) pd n vv wz tm S N W 4 h403 n0 (Nat.le_trans (Nat.le_trans zs400 K401.1) (Keep.of_wr W403).1) HK rfl (by decide)) hZ (own_W hw 34 rfl) (own_W hw 4 rfl) (by decide) (by decide)) (g := (mkF m 138 #[.val (.long q1), .second, .val (.int p2), .val (.int p3), .val (.int p4), .val (.int p5), .val (.int n), .val (.int pd), .val (.long vv), .second, .val (.int wz), .val (.int tm), rv bc, .unset] [(.int tm), (.int wz), (.long vv), (.int n), (.int pd), (.int (4 : Int32)), (.int (4 : Int32)), (.ref bc)])) rfl (by rw [hml]; rfl) (argsL := [(.int (4 : Int32)), (.int pd), (.int n), (.long vv), (.int wz), (.int tm)]) (rest := [(.int (4 : Int32)), (.ref bc)]) (lenOf own_pd15 rfl) rfl (by show 2 * 0 + _ ≤ _; exact Nat.le_of_eq rfl) (hb hby at_138) (fun _ _ => ⟨rfl, e403, (by decide : 6 + 1 ≤ _), (by decide : 115 + 19 ≤ _)⟩)
  dsimp only [Pt.U, Pt.locs, Pt.cells, Pt.slots] at X404 l404 y404 z404 st404 hQ404
  rw [l404, y404, z404] at X404
  obtain ⟨rfl, N404q, K404⟩ := hQ404
  have N404 := Fr.app N403 N404q
  have O404 := O403.keep K404 all0
  have A388x_e404 := A388x_e403.keep K404
  have V403_e404 := V403.keep K404 nin0
  refine own_to (fun t k => st404 t k) ?_
  show own_Fin _ _ _ _ _ _ (T404.setTop (mkF m 141 #[.val (.long q1), .second, .val (.int p2), .val (.int p3), .val (.int p4), .val (.int p5), .val (.int n), .val (.int pd), .val (.long vv), .second, .val (.int wz), .val (.int tm), rv bc, .unset] [(.int (own_ch (4 : Int32) pd n vv wz tm)), (.int (4 : Int32)), (.ref bc)]))
  obtain ⟨x4, ex4⟩ : ∃ z, z = (own_ch (4 : Int32) pd n vv wz tm) := ⟨_, rfl⟩
  rw [← ex4]
  have hB4 := own_chB HK (i := (4 : Int32)) (I := 4) rfl (by decide)
  rw [← ex4] at hB4
  show own_Fin _ _ _ _ _ _ (T404.setTop (mkF m 141 #[.val (.long q1), .second, .val (.int p2), .val (.int p3), .val (.int p4), .val (.int p5), .val (.int n), .val (.int pd), .val (.long vv), .second, .val (.int wz), .val (.int tm), rv bc, .unset] [(.int x4), (.int (4 : Int32)), (.ref bc)]))
  obtain ⟨cl405, Ar405, qa405, Sa405, Na405, Ha405, Ga405⟩ := id V403_e404
  have hin406 : ¬ ((4 : Int32) < 0 ∨ cl405.slots.size ≤ ((4 : Int32)).toNatClampNeg) := inb_of Sa405 ⟨by decide, by decide⟩
  obtain ⟨T406, h406, X406, e406, W406, st406⟩ := stC X404 hx hZ rfl Ar405 (j := (4 : Int32)) hin406 (g := (mkF m 141 #[.val (.long q1), .second, .val (.int p2), .val (.int p3), .val (.int p4), .val (.int p5), .val (.int n), .val (.int pd), .val (.long vv), .second, .val (.int wz), .val (.int tm), rv bc, .unset] [(.int x4), (.int (4 : Int32)), (.ref bc)])) rfl rfl (hb hby at_141)
  rw [own_nb hB4.1 hB4.2] at W406
  have N406 := Fr.snoc X406 N404 g_bc
  have O406 := O404.wr W406 g_bc
  have A388x_e406 := A388x_e404.wr W406
  have V406 : Arv Z h406 bc k388 .char (20 : Int32) [(.int x0), (.int x1), (.int x2), (.int x3), (.int x4), (.int (0 : Int32)), (.int (0 : Int32)), (.int (0 : Int32)), (.int (0 : Int32)), (.int (0 : Int32)), (.int (0 : Int32)), (.int (0 : Int32)), (.int (0 : Int32)), (.int (0 : Int32)), (.int (0 : Int32)), (.int (0 : Int32)), (.int (0 : Int32)), (.int (0 : Int32)), (.int (0 : Int32)), (.int (0 : Int32))] (.int (0 : Int32)) := Arv.set Ar405 qa405 Sa405 Na405 Ha405 Ga405 (own_fx hB4.1 hB4.2) W406 4 rfl (Nat.le_of_ble_eq_true rfl)
  refine own_to (fun t k => st406 t k) ?_
  show own_Fin _ _ _ _ _ _ (T406.setTop (mkF m 142 #[.val (.long q1), .second, .val (.int p2), .val (.int p3), .val (.int p4), .val (.int p5), .val (.int n), .val (.int pd), .val (.long vv), .second, .val (.int wz), .val (.int tm), rv bc, .unset] []))
  refine own_to (fun t k => XS.aload X406.here hx rfl (hb hby at_142) rfl rfl k) ?_
  refine own_to (fun t k => XS.iconst X406.here hx rfl (hb hby at_144) k) ?_
  show own_Fin _ _ _ _ _ _ (T406.setTop (mkF m 145 #[.val (.long q1), .second, .val (.int p2), .val (.int p3), .val (.int p4), .val (.int p5), .val (.int n), .val (.int pd), .val (.long vv), .second, .val (.int wz), .val (.int tm), rv bc, .unset] [(.int (5 : Int32)), (.ref bc)]))
  refine own_to (fun t k => XS.iconst X406.here hx rfl (hb hby at_145) k) ?_
  refine own_to (fun t k => XS.iload X406.here hx rfl (hb hby at_146) rfl k) ?_
  refine own_to (fun t k => XS.iload X406.here hx rfl (hb hby at_148) rfl k) ?_
  show own_Fin _ _ _ _ _ _ (T406.setTop (mkF m 150 #[.val (.long q1), .second, .val (.int p2), .val (.int p3), .val (.int p4), .val (.int p5), .val (.int n), .val (.int pd), .val (.long vv), .second, .val (.int wz), .val (.int tm), rv bc, .unset] [(.int n), (.int pd), (.int (5 : Int32)), (.int (5 : Int32)), (.ref bc)]))
  refine own_to (fun t k => XS.lload X406.here hx rfl (hb hby at_150) rfl k) ?_
  refine own_to (fun t k => XS.iload X406.here hx rfl (hb hby at_152) rfl k) ?_
  refine own_to (fun t k => XS.iload X406.here hx rfl (hb hby at_154) rfl k) ?_
  show own_Fin _ _ _ _ _ _ (T406.setTop (mkF m 156 #[.val (.long q1), .second, .val (.int p2), .val (.int p3), .val (.int p4), .val (.int p5), .val (.int n), .val (.int pd), .val (.long vv), .second, .val (.int wz), .val (.int tm), rv bc, .unset] [(.int tm), (.int wz), (.long vv), (.int n), (.int pd), (.int (5 : Int32)), (.int (5 : Int32)), (.ref bc)]))
  have zs407 := (Nat.le_trans (Nat.le_trans (Nat.le_trans (Nat.le_trans zs400 K401.1) (Keep.of_wr W403).1) K404.1) (Keep.of_wr W406).1)
  obtain ⟨_, _, ⟨T408, L408, k408, n408⟩, -, X408, ⟨Lc408, hQ408, l408, y408, z408⟩, st408⟩ := Jvm.LawKit.callS X406 hx (y := (⟨"com/example/libxqtype/libxqtype/ExpressionLexerIntegerValuePinLaw", "at", "(IIIJCC)C"⟩ : MethodName)) hown (mvT hZ (own_W hw 32 rfl)) (mvT hZ (own_W hw 33 rfl)) (mvT hZ (own_W hw 4 rfl)) (mvT hZ (own_W hw 34 rfl)) (by decide) (own_back (W := 2) (own_chr l Z a0 hw [] (5 : Int32) pd n vv wz tm S N W 5 h406 n0 zs407 HK rfl (by decide)) hZ (own_W hw 34 rfl) (own_W hw 4 rfl) (by decide) (by decide)) (g := (mkF m 156 #[.val (.long q1), .second, .val (.int p2), .val (.int p3), .val (.int p4), .val (.int p5), .val (.int n), .val (.int pd), .val (.long vv), .second, .val (.int wz), .val (.int tm), rv bc, .unset] [(.int tm), (.int wz), (.long vv), (.int n), (.int pd), (.int (5 : Int32)), (.int (5 : Int32)), (.ref bc)])) rfl (by rw [hml]; rfl) (argsL := [(.int (5 : Int32)), (.int pd), (.int n), (.long vv), (.int wz), (.int tm)]) (rest := [(.int (5 : Int32)), (.ref bc)]) (lenOf own_pd15 rfl) rfl (by show 2 * 0 + _ ≤ _; exact Nat.le_of_eq rfl) (hb hby at_156) (fun _ _ => ⟨rfl, e406, (by decide : 7 + 1 ≤ _), (by decide : 134 + 19 ≤ _)⟩)
  dsimp only [Pt.U, Pt.locs, Pt.cells, Pt.slots] at X408 l408 y408 z408 st408 hQ408
  rw [l408, y408, z408] at X408
  obtain ⟨rfl, N408q, K408⟩ := hQ408
  have N408 := Fr.app N406 N408q
  have O408 := O406.keep K408 all0
  have A388x_e408 := A388x_e406.keep K408
  have V406_e408 := V406.keep K408 nin0
  refine own_to (fun t k => st408 t k) ?_
  show own_Fin _ _ _ _ _ _ (T408.setTop (mkF m 159 #[.val (.long q1), .second, .val (.int p2), .val (.int p3), .val (.int p4), .val (.int p5), .val (.int n), .val (.int pd), .val (.long vv), .second, .val (.int wz), .val (.int tm), rv bc, .unset] [(.int (own_ch (5 : Int32) pd n vv wz tm)), (.int (5 : Int32)), (.ref bc)]))
  obtain ⟨x5, ex5⟩ : ∃ z, z = (own_ch (5 : Int32) pd n vv wz tm) := ⟨_, rfl⟩
  rw [← ex5]
  have hB5 := own_chB HK (i := (5 : Int32)) (I := 5) rfl (by decide)
  rw [← ex5] at hB5
  show own_Fin _ _ _ _ _ _ (T408.setTop (mkF m 159 #[.val (.long q1), .second, .val (.int p2), .val (.int p3), .val (.int p4), .val (.int p5), .val (.int n), .val (.int pd), .val (.long vv), .second, .val (.int wz), .val (.int tm), rv bc, .unset] [(.int x5), (.int (5 : Int32)), (.ref bc)]))
  obtain ⟨cl409, Ar409, qa409, Sa409, Na409, Ha409, Ga409⟩ := id V406_e408
  have hin410 : ¬ ((5 : Int32) < 0 ∨ cl409.slots.size ≤ ((5 : Int32)).toNatClampNeg) := inb_of Sa409 ⟨by decide, by decide⟩
  obtain ⟨T410, h410, X410, e410, W410, st410⟩ := stC X408 hx hZ rfl Ar409 (j := (5 : Int32)) hin410 (g := (mkF m 159 #[.val (.long q1), .second, .val (.int p2), .val (.int p3), .val (.int p4), .val (.int p5), .val (.int n), .val (.int pd), .val (.long vv), .second, .val (.int wz), .val (.int tm), rv bc, .unset] [(.int x5), (.int (5 : Int32)), (.ref bc)])) rfl rfl (hb hby at_159)
  rw [own_nb hB5.1 hB5.2] at W410
  have N410 := Fr.snoc X410 N408 g_bc
  have O410 := O408.wr W410 g_bc
  have A388x_e410 := A388x_e408.wr W410
  have V410 : Arv Z h410 bc k388 .char (20 : Int32) [(.int x0), (.int x1), (.int x2), (.int x3), (.int x4), (.int x5), (.int (0 : Int32)), (.int (0 : Int32)), (.int (0 : Int32)), (.int (0 : Int32)), (.int (0 : Int32)), (.int (0 : Int32)), (.int (0 : Int32)), (.int (0 : Int32)), (.int (0 : Int32)), (.int (0 : Int32)), (.int (0 : Int32)), (.int (0 : Int32)), (.int (0 : Int32)), (.int (0 : Int32))] (.int (0 : Int32)) := Arv.set Ar409 qa409 Sa409 Na409 Ha409 Ga409 (own_fx hB5.1 hB5.2) W410 5 rfl (Nat.le_of_ble_eq_true rfl)
  refine own_to (fun t k => st410 t k) ?_
  show own_Fin _ _ _ _ _ _ (T410.setTop (mkF m 160 #[.val (.long q1), .second, .val (.int p2), .val (.int p3), .val (.int p4), .val (.int p5), .val (.int n), .val (.int pd), .val (.long vv), .second, .val (.int wz), .val (.int tm), rv bc, .unset] []))
  refine own_to (fun t k => XS.aload X410.here hx rfl (hb hby at_160) rfl rfl k) ?_
  refine own_to (fun t k => XS.bipush X410.here hx rfl (hb hby at_162) k) ?_
  refine own_to (fun t k => XS.bipush X410.here hx rfl (hb hby at_164) k) ?_
  show own_Fin _ _ _ _ _ _ (T410.setTop (mkF m 166 #[.val (.long q1), .second, .val (.int p2), .val (.int p3), .val (.int p4), .val (.int p5), .val (.int n), .val (.int pd), .val (.long vv), .second, .val (.int wz), .val (.int tm), rv bc, .unset] [(.int (6 : Int32)), (.int (6 : Int32)), (.ref bc)]))
  refine own_to (fun t k => XS.iload X410.here hx rfl (hb hby at_166) rfl k) ?_
  refine own_to (fun t k => XS.iload X410.here hx rfl (hb hby at_168) rfl k) ?_
  refine own_to (fun t k => XS.lload X410.here hx rfl (hb hby at_170) rfl k) ?_
  show own_Fin _ _ _ _ _ _ (T410.setTop (mkF m 172 #[.val (.long q1), .second, .val (.int p2), .val (.int p3), .val (.int p4), .val (.int p5), .val (.int n), .val (.int pd), .val (.long vv), .second, .val (.int wz), .val (.int tm), rv bc, .unset] [(.long vv), (.int n), (.int pd), (.int (6 : Int32)), (.int (6 : Int32)), (.ref bc)]))
  refine own_to (fun t k => XS.iload X410.here hx rfl (hb hby at_172) rfl k) ?_
  refine own_to (fun t k => XS.iload X410.here hx rfl (hb hby at_174) rfl k) ?_
  obtain ⟨_, _, ⟨T411, L411, k411, n411⟩, -, X411, ⟨Lc411, hQ411, l411, y411, z411⟩, st411⟩ := Jvm.LawKit.callS X410 hx (y := (⟨"com/example/libxqtype/libxqtype/ExpressionLexerIntegerValuePinLaw", "at", "(IIIJCC)C"⟩ : MethodName)) hown (mvT hZ (own_W hw 32 rfl)) (mvT hZ (own_W hw 33 rfl)) (mvT hZ (own_W hw 4 rfl)) (mvT hZ (own_W hw 34 rfl)) (by decide) (own_back (W := 2) (own_chr l Z a0 hw [] (6 : Int32) pd n vv wz tm S N W 6 h410 n0 (Nat.le_trans (Nat.le_trans zs407 K408.1) (Keep.of_wr W410).1) HK rfl (by decide)) hZ (own_W hw 34 rfl) (own_W hw 4 rfl) (by decide) (by decide)) (g := (mkF m 176 #[.val (.long q1), .second, .val (.int p2), .val (.int p3), .val (.int p4), .val (.int p5), .val (.int n), .val (.int pd), .val (.long vv), .second, .val (.int wz), .val (.int tm), rv bc, .unset] [(.int tm), (.int wz), (.long vv), (.int n), (.int pd), (.int (6 : Int32)), (.int (6 : Int32)), (.ref bc)])) rfl (by rw [hml]; rfl) (argsL := [(.int (6 : Int32)), (.int pd), (.int n), (.long vv), (.int wz), (.int tm)]) (rest := [(.int (6 : Int32)), (.ref bc)]) (lenOf own_pd15 rfl) rfl (by show 2 * 0 + _ ≤ _; exact Nat.le_of_eq rfl) (hb hby at_176) (fun _ _ => ⟨rfl, e410, (by decide : 8 + 1 ≤ _), (by decide : 153 + 19 ≤ _)⟩)
  dsimp only [Pt.U, Pt.locs, Pt.cells, Pt.slots] at X411 l411 y411 z411 st411 hQ411
  rw [l411, y411, z411] at X411
  obtain ⟨rfl, N411q, K411⟩ := hQ411
  have N411 := Fr.app N410 N411q
  have O411 := O410.keep K411 all0
  have A388x_e411 := A388x_e410.keep K411
  have V410_e411 := V410.keep K411 nin0
  refine own_to (fun t k => st411 t k) ?_
  show own_Fin _ _ _ _ _ _ (T411.setTop (mkF m 179 #[.val (.long q1), .second, .val (.int p2), .val (.int p3), .val (.int p4), .val (.int p5), .val (.int n), .val (.int pd), .val (.long vv), .second, .val (.int wz), .val (.int tm), rv bc, .unset] [(.int (own_ch (6 : Int32) pd n vv wz tm)), (.int (6 : Int32)), (.ref bc)]))
  obtain ⟨x6, ex6⟩ : ∃ z, z = (own_ch (6 : Int32) pd n vv wz tm) := ⟨_, rfl⟩
  rw [← ex6]
  have hB6 := own_chB HK (i := (6 : Int32)) (I := 6) rfl (by decide)
  rw [← ex6] at hB6
  show own_Fin _ _ _ _ _ _ (T411.setTop (mkF m 179 #[.val (.long q1), .second, .val (.int p2), .val (.int p3), .val (.int p4), .val (.int p5), .val (.int n), .val (.int pd), .val (.long vv), .second, .val (.int wz), .val (.int tm), rv bc, .unset] [(.int x6), (.int (6 : Int32)), (.ref bc)]))
  obtain ⟨cl412, Ar412, qa412, Sa412, Na412, Ha412, Ga412⟩ := id V410_e411
  have hin413 : ¬ ((6 : Int32) < 0 ∨ cl412.slots.size ≤ ((6 : Int32)).toNatClampNeg) := inb_of Sa412 ⟨by decide, by decide⟩
  obtain ⟨T413, h413, X413, e413, W413, st413⟩ := stC X411 hx hZ rfl Ar412 (j := (6 : Int32)) hin413 (g := (mkF m 179 #[.val (.long q1), .second, .val (.int p2), .val (.int p3), .val (.int p4), .val (.int p5), .val (.int n), .val (.int pd), .val (.long vv), .second, .val (.int wz), .val (.int tm), rv bc, .unset] [(.int x6), (.int (6 : Int32)), (.ref bc)])) rfl rfl (hb hby at_179)
  rw [own_nb hB6.1 hB6.2] at W413
  have N413 := Fr.snoc X413 N411 g_bc
  have O413 := O411.wr W413 g_bc
  have A388x_e413 := A388x_e411.wr W413
  have V413 : Arv Z h413 bc k388 .char (20 : Int32) [(.int x0), (.int x1), (.int x2), (.int x3), (.int x4), (.int x5), (.int x6), (.int (0 : Int32)), (.int (0 : Int32)), (.int (0 : Int32)), (.int (0 : Int32)), (.int (0 : Int32)), (.int (0 : Int32)), (.int (0 : Int32)), (.int (0 : Int32)), (.int (0 : Int32)), (.int (0 : Int32)), (.int (0 : Int32)), (.int (0 : Int32)), (.int (0 : Int32))] (.int (0 : Int32)) := Arv.set Ar412 qa412 Sa412 Na412 Ha412 Ga412 (own_fx hB6.1 hB6.2) W413 6 rfl (Nat.le_of_ble_eq_true rfl)
  refine own_to (fun t k => st413 t k) ?_
  show own_Fin _ _ _ _ _ _ (T413.setTop (mkF m 180 #[.val (.long q1), .second, .val (.int p2), .val (.int p3), .val (.int p4), .val (.int p5), .val (.int n), .val (.int pd), .val (.long vv), .second, .val (.int wz), .val (.int tm), rv bc, .unset] []))
  refine own_to (fun t k => XS.aload X413.here hx rfl (hb hby at_180) rfl rfl k) ?_
  show own_Fin _ _ _ _ _ _ (T413.setTop (mkF m 182 #[.val (.long q1), .second, .val (.int p2), .val (.int p3), .val (.int p4), .val (.int p5), .val (.int n), .val (.int pd), .val (.long vv), .second, .val (.int wz), .val (.int tm), rv bc, .unset] [(.ref bc)]))
  refine own_to (fun t k => XS.bipush X413.here hx rfl (hb hby at_182) k) ?_
  refine own_to (fun t k => XS.bipush X413.here hx rfl (hb hby at_184) k) ?_
  refine own_to (fun t k => XS.iload X413.here hx rfl (hb hby at_186) rfl k) ?_
  show own_Fin _ _ _ _ _ _ (T413.setTop (mkF m 188 #[.val (.long q1), .second, .val (.int p2), .val (.int p3), .val (.int p4), .val (.int p5), .val (.int n), .val (.int pd), .val (.long vv), .second, .val (.int wz), .val (.int tm), rv bc, .unset] [(.int pd), (.int (7 : Int32)), (.int (7 : Int32)), (.ref bc)]))
  refine own_to (fun t k => XS.iload X413.here hx rfl (hb hby at_188) rfl k) ?_
  refine own_to (fun t k => XS.lload X413.here hx rfl (hb hby at_190) rfl k) ?_
  refine own_to (fun t k => XS.iload X413.here hx rfl (hb hby at_192) rfl k) ?_
  show own_Fin _ _ _ _ _ _ (T413.setTop (mkF m 194 #[.val (.long q1), .second, .val (.int p2), .val (.int p3), .val (.int p4), .val (.int p5), .val (.int n), .val (.int pd), .val (.long vv), .second, .val (.int wz), .val (.int tm), rv bc, .unset] [(.int wz), (.long vv), (.int n), (.int pd), (.int (7 : Int32)), (.int (7 : Int32)), (.ref bc)]))
  refine own_to (fun t k => XS.iload X413.here hx rfl (hb hby at_194) rfl k) ?_
  have zs414 := (Nat.le_trans (Nat.le_trans (Nat.le_trans (Nat.le_trans zs407 K408.1) (Keep.of_wr W410).1) K411.1) (Keep.of_wr W413).1)
  obtain ⟨_, _, ⟨T415, L415, k415, n415⟩, -, X415, ⟨Lc415, hQ415, l415, y415, z415⟩, st415⟩ := Jvm.LawKit.callS X413 hx (y := (⟨"com/example/libxqtype/libxqtype/ExpressionLexerIntegerValuePinLaw", "at", "(IIIJCC)C"⟩ : MethodName)) hown (mvT hZ (own_W hw 32 rfl)) (mvT hZ (own_W hw 33 rfl)) (mvT hZ (own_W hw 4 rfl)) (mvT hZ (own_W hw 34 rfl)) (by decide) (own_back (W := 2) (own_chr l Z a0 hw [] (7 : Int32) pd n vv wz tm S N W 7 h413 n0 zs414 HK rfl (by decide)) hZ (own_W hw 34 rfl) (own_W hw 4 rfl) (by decide) (by decide)) (g := (mkF m 196 #[.val (.long q1), .second, .val (.int p2), .val (.int p3), .val (.int p4), .val (.int p5), .val (.int n), .val (.int pd), .val (.long vv), .second, .val (.int wz), .val (.int tm), rv bc, .unset] [(.int tm), (.int wz), (.long vv), (.int n), (.int pd), (.int (7 : Int32)), (.int (7 : Int32)), (.ref bc)])) rfl (by rw [hml]; rfl) (argsL := [(.int (7 : Int32)), (.int pd), (.int n), (.long vv), (.int wz), (.int tm)]) (rest := [(.int (7 : Int32)), (.ref bc)]) (lenOf own_pd15 rfl) rfl (by show 2 * 0 + _ ≤ _; exact Nat.le_of_eq rfl) (hb hby at_196) (fun _ _ => ⟨rfl, e413, (by decide : 9 + 1 ≤ _), (by decide : 172 + 19 ≤ _)⟩)
  dsimp only [Pt.U, Pt.locs, Pt.cells, Pt.slots] at X415 l415 y415 z415 st415 hQ415
  rw [l415, y415, z415] at X415
  obtain ⟨rfl, N415q, K415⟩ := hQ415
  have N415 := Fr.app N413 N415q
  have O415 := O413.keep K415 all0
  have A388x_e415 := A388x_e413.keep K415
  have V413_e415 := V413.keep K415 nin0
  refine own_to (fun t k => st415 t k) ?_
  show own_Fin _ _ _ _ _ _ (T415.setTop (mkF m 199 #[.val (.long q1), .second, .val (.int p2), .val (.int p3), .val (.int p4), .val (.int p5), .val (.int n), .val (.int pd), .val (.long vv), .second, .val (.int wz), .val (.int tm), rv bc, .unset] [(.int (own_ch (7 : Int32) pd n vv wz tm)), (.int (7 : Int32)), (.ref bc)]))
  obtain ⟨x7, ex7⟩ : ∃ z, z = (own_ch (7 : Int32) pd n vv wz tm) := ⟨_, rfl⟩
  rw [← ex7]
  have hB7 := own_chB HK (i := (7 : Int32)) (I := 7) rfl (by decide)
  rw [← ex7] at hB7
  show own_Fin _ _ _ _ _ _ (T415.setTop (mkF m 199 #[.val (.long q1), .second, .val (.int p2), .val (.int p3), .val (.int p4), .val (.int p5), .val (.int n), .val (.int pd), .val (.long vv), .second, .val (.int wz), .val (.int tm), rv bc, .unset] [(.int x7), (.int (7 : Int32)), (.ref bc)]))
  obtain ⟨cl416, Ar416, qa416, Sa416, Na416, Ha416, Ga416⟩ := id V413_e415
  have hin417 : ¬ ((7 : Int32) < 0 ∨ cl416.slots.size ≤ ((7 : Int32)).toNatClampNeg) := inb_of Sa416 ⟨by decide, by decide⟩
  obtain ⟨T417, h417, X417, e417, W417, st417⟩ := stC X415 hx hZ rfl Ar416 (j := (7 : Int32)) hin417 (g := (mkF m 199 #[.val (.long q1), .second, .val (.int p2), .val (.int p3), .val (.int p4), .val (.int p5), .val (.int n), .val (.int pd), .val (.long vv), .second, .val (.int wz), .val (.int tm), rv bc, .unset] [(.int x7), (.int (7 : Int32)), (.ref bc)])) rfl rfl (hb hby at_199)
  rw [own_nb hB7.1 hB7.2] at W417
  have N417 := Fr.snoc X417 N415 g_bc
  have O417 := O415.wr W417 g_bc
  have A388x_e417 := A388x_e415.wr W417
  have V417 : Arv Z h417 bc k388 .char (20 : Int32) [(.int x0), (.int x1), (.int x2), (.int x3), (.int x4), (.int x5), (.int x6), (.int x7), (.int (0 : Int32)), (.int (0 : Int32)), (.int (0 : Int32)), (.int (0 : Int32)), (.int (0 : Int32)), (.int (0 : Int32)), (.int (0 : Int32)), (.int (0 : Int32)), (.int (0 : Int32)), (.int (0 : Int32)), (.int (0 : Int32)), (.int (0 : Int32))] (.int (0 : Int32)) := Arv.set Ar416 qa416 Sa416 Na416 Ha416 Ga416 (own_fx hB7.1 hB7.2) W417 7 rfl (Nat.le_of_ble_eq_true rfl)
  refine own_to (fun t k => st417 t k) ?_
  show own_Fin _ _ _ _ _ _ (T417.setTop (mkF m 200 #[.val (.long q1), .second, .val (.int p2), .val (.int p3), .val (.int p4), .val (.int p5), .val (.int n), .val (.int pd), .val (.long vv), .second, .val (.int wz), .val (.int tm), rv bc, .unset] []))
  refine own_to (fun t k => XS.aload X417.here hx rfl (hb hby at_200) rfl rfl k) ?_
  refine own_to (fun t k => XS.bipush X417.here hx rfl (hb hby at_202) k) ?_
  show own_Fin _ _ _ _ _ _ (T417.setTop (mkF m 204 #[.val (.long q1), .second, .val (.int p2), .val (.int p3), .val (.int p4), .val (.int p5), .val (.int n), .val (.int pd), .val (.long vv), .second, .val (.int wz), .val (.int tm), rv bc, .unset] [(.int (8 : Int32)), (.ref bc)]))
  refine own_to (fun t k => XS.bipush X417.here hx rfl (hb hby at_204) k) ?_
  refine own_to (fun t k => XS.iload X417.here hx rfl (hb hby at_206) rfl k) ?_
  refine own_to (fun t k => XS.iload X417.here hx rfl (hb hby at_208) rfl k) ?_
  show own_Fin _ _ _ _ _ _ (T417.setTop (mkF m 210 #[.val (.long q1), .second, .val (.int p2), .val (.int p3), .val (.int p4), .val (.int p5), .val (.int n), .val (.int pd), .val (.long vv), .second, .val (.int wz), .val (.int tm), rv bc, .unset] [(.int n), (.int pd), (.int (8 : Int32)), (.int (8 : Int32)), (.ref bc)]))
  refine own_to (fun t k => XS.lload X417.here hx rfl (hb hby at_210) rfl k) ?_
  refine own_to (fun t k => XS.iload X417.here hx rfl (hb hby at_212) rfl k) ?_
  refine own_to (fun t k => XS.iload X417.here hx rfl (hb hby at_214) rfl k) ?_
  show own_Fin _ _ _ _ _ _ (T417.setTop (mkF m 216 #[.val (.long q1), .second, .val (.int p2), .val (.int p3), .val (.int p4), .val (.int p5), .val (.int n), .val (.int pd), .val (.long vv), .second, .val (.int wz), .val (.int tm), rv bc, .unset] [(.int tm), (.int wz), (.long vv), (.int n), (.int pd), (.int (8 : Int32)), (.int (8 : Int32)), (.ref bc)]))
  obtain ⟨_, _, ⟨T418, L418, k418, n418⟩, -, X418, ⟨Lc418, hQ418, l418, y418, z418⟩, st418⟩ := Jvm.LawKit.callS X417 hx (y := (⟨"com/example/libxqtype/libxqtype/ExpressionLexerIntegerValuePinLaw", "at", "(IIIJCC)C"⟩ : MethodName)) hown (mvT hZ (own_W hw 32 rfl)) (mvT hZ (own_W hw 33 rfl)) (mvT hZ (own_W hw 4 rfl)) (mvT hZ (own_W hw 34 rfl)) (by decide) (own_back (W := 2) (own_chr l Z a0 hw [] (8 : Int32) pd n vv wz tm S N W 8 h417 n0 (Nat.le_trans (Nat.le_trans zs414 K415.1) (Keep.of_wr W417).1) HK rfl (by decide)) hZ (own_W hw 34 rfl) (own_W hw 4 rfl) (by decide) (by decide)) (g := (mkF m 216 #[.val (.long q1), .second, .val (.int p2), .val (.int p3), .val (.int p4), .val (.int p5), .val (.int n), .val (.int pd), .val (.long vv), .second, .val (.int wz), .val (.int tm), rv bc, .unset] [(.int tm), (.int wz), (.long vv), (.int n), (.int pd), (.int (8 : Int32)), (.int (8 : Int32)), (.ref bc)])) rfl (by rw [hml]; rfl) (argsL := [(.int (8 : Int32)), (.int pd), (.int n), (.long vv), (.int wz), (.int tm)]) (rest := [(.int (8 : Int32)), (.ref bc)]) (lenOf own_pd15 rfl) rfl (by show 2 * 0 + _ ≤ _; exact Nat.le_of_eq rfl) (hb hby at_216) (fun _ _ => ⟨rfl, e417, (by decide : 10 + 1 ≤ _), (by decide : 191 + 19 ≤ _)⟩)
  dsimp only [Pt.U, Pt.locs, Pt.cells, Pt.slots] at X418 l418 y418 z418 st418 hQ418
  rw [l418, y418, z418] at X418
  obtain ⟨rfl, N418q, K418⟩ := hQ418
  have N418 := Fr.app N417 N418q
  have O418 := O417.keep K418 all0
  have A388x_e418 := A388x_e417.keep K418
  have V417_e418 := V417.keep K418 nin0
  refine own_to (fun t k => st418 t k) ?_
  show own_Fin _ _ _ _ _ _ (T418.setTop (mkF m 219 #[.val (.long q1), .second, .val (.int p2), .val (.int p3), .val (.int p4), .val (.int p5), .val (.int n), .val (.int pd), .val (.long vv), .second, .val (.int wz), .val (.int tm), rv bc, .unset] [(.int (own_ch (8 : Int32) pd n vv wz tm)), (.int (8 : Int32)), (.ref bc)]))
  obtain ⟨x8, ex8⟩ : ∃ z, z = (own_ch (8 : Int32) pd n vv wz tm) := ⟨_, rfl⟩
  rw [← ex8]
  have hB8 := own_chB HK (i := (8 : Int32)) (I := 8) rfl (by decide)
  rw [← ex8] at hB8
  show own_Fin _ _ _ _ _ _ (T418.setTop (mkF m 219 #[.val (.long q1), .second, .val (.int p2), .val (.int p3), .val (.int p4), .val (.int p5), .val (.int n), .val (.int pd), .val (.long vv), .second, .val (.int wz), .val (.int tm), rv bc, .unset] [(.int x8), (.int (8 : Int32)), (.ref bc)]))
  obtain ⟨cl419, Ar419, qa419, Sa419, Na419, Ha419, Ga419⟩ := id V417_e418
  have hin420 : ¬ ((8 : Int32) < 0 ∨ cl419.slots.size ≤ ((8 : Int32)).toNatClampNeg) := inb_of Sa419 ⟨by decide, by decide⟩
  obtain ⟨T420, h420, X420, e420, W420, st420⟩ := stC X418 hx hZ rfl Ar419 (j := (8 : Int32)) hin420 (g := (mkF m 219 #[.val (.long q1), .second, .val (.int p2), .val (.int p3), .val (.int p4), .val (.int p5), .val (.int n), .val (.int pd), .val (.long vv), .second, .val (.int wz), .val (.int tm), rv bc, .unset] [(.int x8), (.int (8 : Int32)), (.ref bc)])) rfl rfl (hb hby at_219)
  rw [own_nb hB8.1 hB8.2] at W420
  have N420 := Fr.snoc X420 N418 g_bc
  have O420 := O418.wr W420 g_bc
  have A388x_e420 := A388x_e418.wr W420
  have V420 : Arv Z h420 bc k388 .char (20 : Int32) [(.int x0), (.int x1), (.int x2), (.int x3), (.int x4), (.int x5), (.int x6), (.int x7), (.int x8), (.int (0 : Int32)), (.int (0 : Int32)), (.int (0 : Int32)), (.int (0 : Int32)), (.int (0 : Int32)), (.int (0 : Int32)), (.int (0 : Int32)), (.int (0 : Int32)), (.int (0 : Int32)), (.int (0 : Int32)), (.int (0 : Int32))] (.int (0 : Int32)) := Arv.set Ar419 qa419 Sa419 Na419 Ha419 Ga419 (own_fx hB8.1 hB8.2) W420 8 rfl (Nat.le_of_ble_eq_true rfl)
  refine own_to (fun t k => st420 t k) ?_
  show own_Fin _ _ _ _ _ _ (T420.setTop (mkF m 220 #[.val (.long q1), .second, .val (.int p2), .val (.int p3), .val (.int p4), .val (.int p5), .val (.int n), .val (.int pd), .val (.long vv), .second, .val (.int wz), .val (.int tm), rv bc, .unset] []))
  refine own_to (fun t k => XS.aload X420.here hx rfl (hb hby at_220) rfl rfl k) ?_
  refine own_to (fun t k => XS.bipush X420.here hx rfl (hb hby at_222) k) ?_
  refine own_to (fun t k => XS.bipush X420.here hx rfl (hb hby at_224) k) ?_
  show own_Fin _ _ _ _ _ _ (T420.setTop (mkF m 226 #[.val (.long q1), .second, .val (.int p2), .val (.int p3), .val (.int p4), .val (.int p5), .val (.int n), .val (.int pd), .val (.long vv), .second, .val (.int wz), .val (.int tm), rv bc, .unset] [(.int (9 : Int32)), (.int (9 : Int32)), (.ref bc)]))
  refine own_to (fun t k => XS.iload X420.here hx rfl (hb hby at_226) rfl k) ?_
  refine own_to (fun t k => XS.iload X420.here hx rfl (hb hby at_228) rfl k) ?_
  refine own_to (fun t k => XS.lload X420.here hx rfl (hb hby at_230) rfl k) ?_
  show own_Fin _ _ _ _ _ _ (T420.setTop (mkF m 232 #[.val (.long q1), .second, .val (.int p2), .val (.int p3), .val (.int p4), .val (.int p5), .val (.int n), .val (.int pd), .val (.long vv), .second, .val (.int wz), .val (.int tm), rv bc, .unset] [(.long vv), (.int n), (.int pd), (.int (9 : Int32)), (.int (9 : Int32)), (.ref bc)]))
  refine own_to (fun t k => XS.iload X420.here hx rfl (hb hby at_232) rfl k) ?_
  refine own_to (fun t k => XS.iload X420.here hx rfl (hb hby at_234) rfl k) ?_
  have zs421 := (Nat.le_trans (Nat.le_trans (Nat.le_trans (Nat.le_trans zs414 K415.1) (Keep.of_wr W417).1) K418.1) (Keep.of_wr W420).1)
  obtain ⟨_, _, ⟨T422, L422, k422, n422⟩, -, X422, ⟨Lc422, hQ422, l422, y422, z422⟩, st422⟩ := Jvm.LawKit.callS X420 hx (y := (⟨"com/example/libxqtype/libxqtype/ExpressionLexerIntegerValuePinLaw", "at", "(IIIJCC)C"⟩ : MethodName)) hown (mvT hZ (own_W hw 32 rfl)) (mvT hZ (own_W hw 33 rfl)) (mvT hZ (own_W hw 4 rfl)) (mvT hZ (own_W hw 34 rfl)) (by decide) (own_back (W := 2) (own_chr l Z a0 hw [] (9 : Int32) pd n vv wz tm S N W 9 h420 n0 zs421 HK rfl (by decide)) hZ (own_W hw 34 rfl) (own_W hw 4 rfl) (by decide) (by decide)) (g := (mkF m 236 #[.val (.long q1), .second, .val (.int p2), .val (.int p3), .val (.int p4), .val (.int p5), .val (.int n), .val (.int pd), .val (.long vv), .second, .val (.int wz), .val (.int tm), rv bc, .unset] [(.int tm), (.int wz), (.long vv), (.int n), (.int pd), (.int (9 : Int32)), (.int (9 : Int32)), (.ref bc)])) rfl (by rw [hml]; rfl) (argsL := [(.int (9 : Int32)), (.int pd), (.int n), (.long vv), (.int wz), (.int tm)]) (rest := [(.int (9 : Int32)), (.ref bc)]) (lenOf own_pd15 rfl) rfl (by show 2 * 0 + _ ≤ _; exact Nat.le_of_eq rfl) (hb hby at_236) (fun _ _ => ⟨rfl, e420, (by decide : 11 + 1 ≤ _), (by decide : 210 + 19 ≤ _)⟩)
  dsimp only [Pt.U, Pt.locs, Pt.cells, Pt.slots] at X422 l422 y422 z422 st422 hQ422
  rw [l422, y422, z422] at X422
  obtain ⟨rfl, N422q, K422⟩ := hQ422
  have N422 := Fr.app N420 N422q
  have O422 := O420.keep K422 all0
  have A388x_e422 := A388x_e420.keep K422
  have V420_e422 := V420.keep K422 nin0
  refine own_to (fun t k => st422 t k) ?_
  show own_Fin _ _ _ _ _ _ (T422.setTop (mkF m 239 #[.val (.long q1), .second, .val (.int p2), .val (.int p3), .val (.int p4), .val (.int p5), .val (.int n), .val (.int pd), .val (.long vv), .second, .val (.int wz), .val (.int tm), rv bc, .unset] [(.int (own_ch (9 : Int32) pd n vv wz tm)), (.int (9 : Int32)), (.ref bc)]))
  obtain ⟨x9, ex9⟩ : ∃ z, z = (own_ch (9 : Int32) pd n vv wz tm) := ⟨_, rfl⟩
  rw [← ex9]
  have hB9 := own_chB HK (i := (9 : Int32)) (I := 9) rfl (by decide)
  rw [← ex9] at hB9
  show own_Fin _ _ _ _ _ _ (T422.setTop (mkF m 239 #[.val (.long q1), .second, .val (.int p2), .val (.int p3), .val (.int p4), .val (.int p5), .val (.int n), .val (.int pd), .val (.long vv), .second, .val (.int wz), .val (.int tm), rv bc, .unset] [(.int x9), (.int (9 : Int32)), (.ref bc)]))
  obtain ⟨cl423, Ar423, qa423, Sa423, Na423, Ha423, Ga423⟩ := id V420_e422
  have hin424 : ¬ ((9 : Int32) < 0 ∨ cl423.slots.size ≤ ((9 : Int32)).toNatClampNeg) := inb_of Sa423 ⟨by decide, by decide⟩
  obtain ⟨T424, h424, X424, e424, W424, st424⟩ := stC X422 hx hZ rfl Ar423 (j := (9 : Int32)) hin424 (g := (mkF m 239 #[.val (.long q1), .second, .val (.int p2), .val (.int p3), .val (.int p4), .val (.int p5), .val (.int n), .val (.int pd), .val (.long vv), .second, .val (.int wz), .val (.int tm), rv bc, .unset] [(.int x9), (.int (9 : Int32)), (.ref bc)])) rfl rfl (hb hby at_239)
  rw [own_nb hB9.1 hB9.2] at W424
  have N424 := Fr.snoc X424 N422 g_bc
  have O424 := O422.wr W424 g_bc
  have A388x_e424 := A388x_e422.wr W424
  have V424 : Arv Z h424 bc k388 .char (20 : Int32) [(.int x0), (.int x1), (.int x2), (.int x3), (.int x4), (.int x5), (.int x6), (.int x7), (.int x8), (.int x9), (.int (0 : Int32)), (.int (0 : Int32)), (.int (0 : Int32)), (.int (0 : Int32)), (.int (0 : Int32)), (.int (0 : Int32)), (.int (0 : Int32)), (.int (0 : Int32)), (.int (0 : Int32)), (.int (0 : Int32))] (.int (0 : Int32)) := Arv.set Ar423 qa423 Sa423 Na423 Ha423 Ga423 (own_fx hB9.1 hB9.2) W424 9 rfl (Nat.le_of_ble_eq_true rfl)
  refine own_to (fun t k => st424 t k) ?_
  show own_Fin _ _ _ _ _ _ (T424.setTop (mkF m 240 #[.val (.long q1), .second, .val (.int p2), .val (.int p3), .val (.int p4), .val (.int p5), .val (.int n), .val (.int pd), .val (.long vv), .second, .val (.int wz), .val (.int tm), rv bc, .unset] []))
  refine own_to (fun t k => XS.aload X424.here hx rfl (hb hby at_240) rfl rfl k) ?_
  show own_Fin _ _ _ _ _ _ (T424.setTop (mkF m 242 #[.val (.long q1), .second, .val (.int p2), .val (.int p3), .val (.int p4), .val (.int p5), .val (.int n), .val (.int pd), .val (.long vv), .second, .val (.int wz), .val (.int tm), rv bc, .unset] [(.ref bc)]))
  refine own_to (fun t k => XS.bipush X424.here hx rfl (hb hby at_242) k) ?_
  refine own_to (fun t k => XS.bipush X424.here hx rfl (hb hby at_244) k) ?_
  refine own_to (fun t k => XS.iload X424.here hx rfl (hb hby at_246) rfl k) ?_
  show own_Fin _ _ _ _ _ _ (T424.setTop (mkF m 248 #[.val (.long q1), .second, .val (.int p2), .val (.int p3), .val (.int p4), .val (.int p5), .val (.int n), .val (.int pd), .val (.long vv), .second, .val (.int wz), .val (.int tm), rv bc, .unset] [(.int pd), (.int (10 : Int32)), (.int (10 : Int32)), (.ref bc)]))
  refine own_to (fun t k => XS.iload X424.here hx rfl (hb hby at_248) rfl k) ?_
  refine own_to (fun t k => XS.lload X424.here hx rfl (hb hby at_250) rfl k) ?_
  refine own_to (fun t k => XS.iload X424.here hx rfl (hb hby at_252) rfl k) ?_
  show own_Fin _ _ _ _ _ _ (T424.setTop (mkF m 254 #[.val (.long q1), .second, .val (.int p2), .val (.int p3), .val (.int p4), .val (.int p5), .val (.int n), .val (.int pd), .val (.long vv), .second, .val (.int wz), .val (.int tm), rv bc, .unset] [(.int wz), (.long vv), (.int n), (.int pd), (.int (10 : Int32)), (.int (10 : Int32)), (.ref bc)]))
  refine own_to (fun t k => XS.iload X424.here hx rfl (hb hby at_254) rfl k) ?_
  obtain ⟨_, _, ⟨T425, L425, k425, n425⟩, -, X425, ⟨Lc425, hQ425, l425, y425, z425⟩, st425⟩ := Jvm.LawKit.callS X424 hx (y := (⟨"com/example/libxqtype/libxqtype/ExpressionLexerIntegerValuePinLaw", "at", "(IIIJCC)C"⟩ : MethodName)) hown (mvT hZ (own_W hw 32 rfl)) (mvT hZ (own_W hw 33 rfl)) (mvT hZ (own_W hw 4 rfl)) (mvT hZ (own_W hw 34 rfl)) (by decide) (own_back (W := 2) (own_chr l Z a0 hw [] (10 : Int32) pd n vv wz tm S N W 10 h424 n0 (Nat.le_trans (Nat.le_trans zs421 K422.1) (Keep.of_wr W424).1) HK rfl (by decide)) hZ (own_W hw 34 rfl) (own_W hw 4 rfl) (by decide) (by decide)) (g := (mkF m 256 #[.val (.long q1), .second, .val (.int p2), .val (.int p3), .val (.int p4), .val (.int p5), .val (.int n), .val (.int pd), .val (.long vv), .second, .val (.int wz), .val (.int tm), rv bc, .unset] [(.int tm), (.int wz), (.long vv), (.int n), (.int pd), (.int (10 : Int32)), (.int (10 : Int32)), (.ref bc)])) rfl (by rw [hml]; rfl) (argsL := [(.int (10 : Int32)), (.int pd), (.int n), (.long vv), (.int wz), (.int tm)]) (rest := [(.int (10 : Int32)), (.ref bc)]) (lenOf own_pd15 rfl) rfl (by show 2 * 0 + _ ≤ _; exact Nat.le_of_eq rfl) (hb hby at_256) (fun _ _ => ⟨rfl, e424, (by decide : 12 + 1 ≤ _), (by decide : 229 + 19 ≤ _)⟩)
  dsimp only [Pt.U, Pt.locs, Pt.cells, Pt.slots] at X425 l425 y425 z425 st425 hQ425
  rw [l425, y425, z425] at X425
  obtain ⟨rfl, N425q, K425⟩ := hQ425
  have N425 := Fr.app N424 N425q
  have O425 := O424.keep K425 all0
  have A388x_e425 := A388x_e424.keep K425
  have V424_e425 := V424.keep K425 nin0
  refine own_to (fun t k => st425 t k) ?_
  show own_Fin _ _ _ _ _ _ (T425.setTop (mkF m 259 #[.val (.long q1), .second, .val (.int p2), .val (.int p3), .val (.int p4), .val (.int p5), .val (.int n), .val (.int pd), .val (.long vv), .second, .val (.int wz), .val (.int tm), rv bc, .unset] [(.int (own_ch (10 : Int32) pd n vv wz tm)), (.int (10 : Int32)), (.ref bc)]))
  obtain ⟨x10, ex10⟩ : ∃ z, z = (own_ch (10 : Int32) pd n vv wz tm) := ⟨_, rfl⟩
  rw [← ex10]
  have hB10 := own_chB HK (i := (10 : Int32)) (I := 10) rfl (by decide)
  rw [← ex10] at hB10
  show own_Fin _ _ _ _ _ _ (T425.setTop (mkF m 259 #[.val (.long q1), .second, .val (.int p2), .val (.int p3), .val (.int p4), .val (.int p5), .val (.int n), .val (.int pd), .val (.long vv), .second, .val (.int wz), .val (.int tm), rv bc, .unset] [(.int x10), (.int (10 : Int32)), (.ref bc)]))
  obtain ⟨cl426, Ar426, qa426, Sa426, Na426, Ha426, Ga426⟩ := id V424_e425
  have hin427 : ¬ ((10 : Int32) < 0 ∨ cl426.slots.size ≤ ((10 : Int32)).toNatClampNeg) := inb_of Sa426 ⟨by decide, by decide⟩
  obtain ⟨T427, h427, X427, e427, W427, st427⟩ := stC X425 hx hZ rfl Ar426 (j := (10 : Int32)) hin427 (g := (mkF m 259 #[.val (.long q1), .second, .val (.int p2), .val (.int p3), .val (.int p4), .val (.int p5), .val (.int n), .val (.int pd), .val (.long vv), .second, .val (.int wz), .val (.int tm), rv bc, .unset] [(.int x10), (.int (10 : Int32)), (.ref bc)])) rfl rfl (hb hby at_259)
  rw [own_nb hB10.1 hB10.2] at W427
  have N427 := Fr.snoc X427 N425 g_bc
  have O427 := O425.wr W427 g_bc
  have A388x_e427 := A388x_e425.wr W427
  have V427 : Arv Z h427 bc k388 .char (20 : Int32) [(.int x0), (.int x1), (.int x2), (.int x3), (.int x4), (.int x5), (.int x6), (.int x7), (.int x8), (.int x9), (.int x10), (.int (0 : Int32)), (.int (0 : Int32)), (.int (0 : Int32)), (.int (0 : Int32)), (.int (0 : Int32)), (.int (0 : Int32)), (.int (0 : Int32)), (.int (0 : Int32)), (.int (0 : Int32))] (.int (0 : Int32)) := Arv.set Ar426 qa426 Sa426 Na426 Ha426 Ga426 (own_fx hB10.1 hB10.2) W427 10 rfl (Nat.le_of_ble_eq_true rfl)
  refine own_to (fun t k => st427 t k) ?_
  show own_Fin _ _ _ _ _ _ (T427.setTop (mkF m 260 #[.val (.long q1), .second, .val (.int p2), .val (.int p3), .val (.int p4), .val (.int p5), .val (.int n), .val (.int pd), .val (.long vv), .second, .val (.int wz), .val (.int tm), rv bc, .unset] []))
  refine own_to (fun t k => XS.aload X427.here hx rfl (hb hby at_260) rfl rfl k) ?_
  refine own_to (fun t k => XS.bipush X427.here hx rfl (hb hby at_262) k) ?_
  show own_Fin _ _ _ _ _ _ (T427.setTop (mkF m 264 #[.val (.long q1), .second, .val (.int p2), .val (.int p3), .val (.int p4), .val (.int p5), .val (.int n), .val (.int pd), .val (.long vv), .second, .val (.int wz), .val (.int tm), rv bc, .unset] [(.int (11 : Int32)), (.ref bc)]))
  refine own_to (fun t k => XS.bipush X427.here hx rfl (hb hby at_264) k) ?_
  refine own_to (fun t k => XS.iload X427.here hx rfl (hb hby at_266) rfl k) ?_
  refine own_to (fun t k => XS.iload X427.here hx rfl (hb hby at_268) rfl k) ?_
  show own_Fin _ _ _ _ _ _ (T427.setTop (mkF m 270 #[.val (.long q1), .second, .val (.int p2), .val (.int p3), .val (.int p4), .val (.int p5), .val (.int n), .val (.int pd), .val (.long vv), .second, .val (.int wz), .val (.int tm), rv bc, .unset] [(.int n), (.int pd), (.int (11 : Int32)), (.int (11 : Int32)), (.ref bc)]))
  refine own_to (fun t k => XS.lload X427.here hx rfl (hb hby at_270) rfl k) ?_
  refine own_to (fun t k => XS.iload X427.here hx rfl (hb hby at_272) rfl k) ?_
  refine own_to (fun t k => XS.iload X427.here hx rfl (hb hby at_274) rfl k) ?_
  show own_Fin _ _ _ _ _ _ (T427.setTop (mkF m 276 #[.val (.long q1), .second, .val (.int p2), .val (.int p3), .val (.int p4), .val (.int p5), .val (.int n), .val (.int pd), .val (.long vv), .second, .val (.int wz), .val (.int tm), rv bc, .unset] [(.int tm), (.int wz), (.long vv), (.int n), (.int pd), (.int (11 : Int32)), (.int (11 : Int32)), (.ref bc)]))
  have zs428 := (Nat.le_trans (Nat.le_trans (Nat.le_trans (Nat.le_trans zs421 K422.1) (Keep.of_wr W424).1) K425.1) (Keep.of_wr W427).1)
  obtain ⟨_, _, ⟨T429, L429, k429, n429⟩, -, X429, ⟨Lc429, hQ429, l429, y429, z429⟩, st429⟩ := Jvm.LawKit.callS X427 hx (y := (⟨"com/example/libxqtype/libxqtype/ExpressionLexerIntegerValuePinLaw", "at", "(IIIJCC)C"⟩ : MethodName)) hown (mvT hZ (own_W hw 32 rfl)) (mvT hZ (own_W hw 33 rfl)) (mvT hZ (own_W hw 4 rfl)) (mvT hZ (own_W hw 34 rfl)) (by decide) (own_back (W := 2) (own_chr l Z a0 hw [] (11 : Int32) pd n vv wz tm S N W 11 h427 n0 zs428 HK rfl (by decide)) hZ (own_W hw 34 rfl) (own_W hw 4 rfl) (by decide) (by decide)) (g := (mkF m 276 #[.val (.long q1), .second, .val (.int p2), .val (.int p3), .val (.int p4), .val (.int p5), .val (.int n), .val (.int pd), .val (.long vv), .second, .val (.int wz), .val (.int tm), rv bc, .unset] [(.int tm), (.int wz), (.long vv), (.int n), (.int pd), (.int (11 : Int32)), (.int (11 : Int32)), (.ref bc)])) rfl (by rw [hml]; rfl) (argsL := [(.int (11 : Int32)), (.int pd), (.int n), (.long vv), (.int wz), (.int tm)]) (rest := [(.int (11 : Int32)), (.ref bc)]) (lenOf own_pd15 rfl) rfl (by show 2 * 0 + _ ≤ _; exact Nat.le_of_eq rfl) (hb hby at_276) (fun _ _ => ⟨rfl, e427, (by decide : 13 + 1 ≤ _), (by decide : 248 + 19 ≤ _)⟩)
  dsimp only [Pt.U, Pt.locs, Pt.cells, Pt.slots] at X429 l429 y429 z429 st429 hQ429
  rw [l429, y429, z429] at X429
  obtain ⟨rfl, N429q, K429⟩ := hQ429
  have N429 := Fr.app N427 N429q
  have O429 := O427.keep K429 all0
  have A388x_e429 := A388x_e427.keep K429
  have V427_e429 := V427.keep K429 nin0
  refine own_to (fun t k => st429 t k) ?_
  show own_Fin _ _ _ _ _ _ (T429.setTop (mkF m 279 #[.val (.long q1), .second, .val (.int p2), .val (.int p3), .val (.int p4), .val (.int p5), .val (.int n), .val (.int pd), .val (.long vv), .second, .val (.int wz), .val (.int tm), rv bc, .unset] [(.int (own_ch (11 : Int32) pd n vv wz tm)), (.int (11 : Int32)), (.ref bc)]))
  obtain ⟨x11, ex11⟩ : ∃ z, z = (own_ch (11 : Int32) pd n vv wz tm) := ⟨_, rfl⟩
  rw [← ex11]
  have hB11 := own_chB HK (i := (11 : Int32)) (I := 11) rfl (by decide)
  rw [← ex11] at hB11
  show own_Fin _ _ _ _ _ _ (T429.setTop (mkF m 279 #[.val (.long q1), .second, .val (.int p2), .val (.int p3), .val (.int p4), .val (.int p5), .val (.int n), .val (.int pd), .val (.long vv), .second, .val (.int wz), .val (.int tm), rv bc, .unset] [(.int x11), (.int (11 : Int32)), (.ref bc)]))
  obtain ⟨cl430, Ar430, qa430, Sa430, Na430, Ha430, Ga430⟩ := id V427_e429
  have hin431 : ¬ ((11 : Int32) < 0 ∨ cl430.slots.size ≤ ((11 : Int32)).toNatClampNeg) := inb_of Sa430 ⟨by decide, by decide⟩
  obtain ⟨T431, h431, X431, e431, W431, st431⟩ := stC X429 hx hZ rfl Ar430 (j := (11 : Int32)) hin431 (g := (mkF m 279 #[.val (.long q1), .second, .val (.int p2), .val (.int p3), .val (.int p4), .val (.int p5), .val (.int n), .val (.int pd), .val (.long vv), .second, .val (.int wz), .val (.int tm), rv bc, .unset] [(.int x11), (.int (11 : Int32)), (.ref bc)])) rfl rfl (hb hby at_279)
  rw [own_nb hB11.1 hB11.2] at W431
  have N431 := Fr.snoc X431 N429 g_bc
  have O431 := O429.wr W431 g_bc
  have A388x_e431 := A388x_e429.wr W431
  have V431 : Arv Z h431 bc k388 .char (20 : Int32) [(.int x0), (.int x1), (.int x2), (.int x3), (.int x4), (.int x5), (.int x6), (.int x7), (.int x8), (.int x9), (.int x10), (.int x11), (.int (0 : Int32)), (.int (0 : Int32)), (.int (0 : Int32)), (.int (0 : Int32)), (.int (0 : Int32)), (.int (0 : Int32)), (.int (0 : Int32)), (.int (0 : Int32))] (.int (0 : Int32)) := Arv.set Ar430 qa430 Sa430 Na430 Ha430 Ga430 (own_fx hB11.1 hB11.2) W431 11 rfl (Nat.le_of_ble_eq_true rfl)
  refine own_to (fun t k => st431 t k) ?_
  show own_Fin _ _ _ _ _ _ (T431.setTop (mkF m 280 #[.val (.long q1), .second, .val (.int p2), .val (.int p3), .val (.int p4), .val (.int p5), .val (.int n), .val (.int pd), .val (.long vv), .second, .val (.int wz), .val (.int tm), rv bc, .unset] []))
  refine own_to (fun t k => XS.aload X431.here hx rfl (hb hby at_280) rfl rfl k) ?_
  refine own_to (fun t k => XS.bipush X431.here hx rfl (hb hby at_282) k) ?_
  refine own_to (fun t k => XS.bipush X431.here hx rfl (hb hby at_284) k) ?_
  show own_Fin _ _ _ _ _ _ (T431.setTop (mkF m 286 #[.val (.long q1), .second, .val (.int p2), .val (.int p3), .val (.int p4), .val (.int p5), .val (.int n), .val (.int pd), .val (.long vv), .second, .val (.int wz), .val (.int tm), rv bc, .unset] [(.int (12 : Int32)), (.int (12 : Int32)), (.ref bc)]))
  refine own_to (fun t k => XS.iload X431.here hx rfl (hb hby at_286) rfl k) ?_
  refine own_to (fun t k => XS.iload X431.here hx rfl (hb hby at_288) rfl k) ?_
  refine own_to (fun t k => XS.lload X431.here hx rfl (hb hby at_290) rfl k) ?_
  show own_Fin _ _ _ _ _ _ (T431.setTop (mkF m 292 #[.val (.long q1), .second, .val (.int p2), .val (.int p3), .val (.int p4), .val (.int p5), .val (.int n), .val (.int pd), .val (.long vv), .second, .val (.int wz), .val (.int tm), rv bc, .unset] [(.long vv), (.int n), (.int pd), (.int (12 : Int32)), (.int (12 : Int32)), (.ref bc)]))
  refine own_to (fun t k => XS.iload X431.here hx rfl (hb hby at_292) rfl k) ?_
  refine own_to (fun t k => XS.iload X431.here hx rfl (hb hby at_294) rfl k) ?_
  obtain ⟨_, _, ⟨T432, L432, k432, n432⟩, -, X432, ⟨Lc432, hQ432, l432, y432, z432⟩, st432⟩ := Jvm.LawKit.callS X431 hx (y := (⟨"com/example/libxqtype/libxqtype/ExpressionLexerIntegerValuePinLaw", "at", "(IIIJCC)C"⟩ : MethodName)) hown (mvT hZ (own_W hw 32 rfl)) (mvT hZ (own_W hw 33 rfl)) (mvT hZ (own_W hw 4 rfl)) (mvT hZ (own_W hw 34 rfl)) (by decide) (own_back (W := 2) (own_chr l Z a0 hw [] (12 : Int32) pd n vv wz tm S N W 12 h431 n0 (Nat.le_trans (Nat.le_trans zs428 K429.1) (Keep.of_wr W431).1) HK rfl (by decide)) hZ (own_W hw 34 rfl) (own_W hw 4 rfl) (by decide) (by decide)) (g := (mkF m 296 #[.val (.long q1), .second, .val (.int p2), .val (.int p3), .val (.int p4), .val (.int p5), .val (.int n), .val (.int pd), .val (.long vv), .second, .val (.int wz), .val (.int tm), rv bc, .unset] [(.int tm), (.int wz), (.long vv), (.int n), (.int pd), (.int (12 : Int32)), (.int (12 : Int32)), (.ref bc)])) rfl (by rw [hml]; rfl) (argsL := [(.int (12 : Int32)), (.int pd), (.int n), (.long vv), (.int wz), (.int tm)]) (rest := [(.int (12 : Int32)), (.ref bc)]) (lenOf own_pd15 rfl) rfl (by show 2 * 0 + _ ≤ _; exact Nat.le_of_eq rfl) (hb hby at_296) (fun _ _ => ⟨rfl, e431, (by decide : 14 + 1 ≤ _), (by decide : 267 + 19 ≤ _)⟩)
  dsimp only [Pt.U, Pt.locs, Pt.cells, Pt.slots] at X432 l432 y432 z432 st432 hQ432
  rw [l432, y432, z432] at X432
  obtain ⟨rfl, N432q, K432⟩ := hQ432
  have N432 := Fr.app N431 N432q
  have O432 := O431.keep K432 all0
  have A388x_e432 := A388x_e431.keep K432
  have V431_e432 := V431.keep K432 nin0
  refine own_to (fun t k => st432 t k) ?_
  show own_Fin _ _ _ _ _ _ (T432.setTop (mkF m 299 #[.val (.long q1), .second, .val (.int p2), .val (.int p3), .val (.int p4), .val (.int p5), .val (.int n), .val (.int pd), .val (.long vv), .second, .val (.int wz), .val (.int tm), rv bc, .unset] [(.int (own_ch (12 : Int32) pd n vv wz tm)), (.int (12 : Int32)), (.ref bc)]))
  obtain ⟨x12, ex12⟩ : ∃ z, z = (own_ch (12 : Int32) pd n vv wz tm) := ⟨_, rfl⟩
  rw [← ex12]
  have hB12 := own_chB HK (i := (12 : Int32)) (I := 12) rfl (by decide)
  rw [← ex12] at hB12
  show own_Fin _ _ _ _ _ _ (T432.setTop (mkF m 299 #[.val (.long q1), .second, .val (.int p2), .val (.int p3), .val (.int p4), .val (.int p5), .val (.int n), .val (.int pd), .val (.long vv), .second, .val (.int wz), .val (.int tm), rv bc, .unset] [(.int x12), (.int (12 : Int32)), (.ref bc)]))
  obtain ⟨cl433, Ar433, qa433, Sa433, Na433, Ha433, Ga433⟩ := id V431_e432
  have hin434 : ¬ ((12 : Int32) < 0 ∨ cl433.slots.size ≤ ((12 : Int32)).toNatClampNeg) := inb_of Sa433 ⟨by decide, by decide⟩
  obtain ⟨T434, h434, X434, e434, W434, st434⟩ := stC X432 hx hZ rfl Ar433 (j := (12 : Int32)) hin434 (g := (mkF m 299 #[.val (.long q1), .second, .val (.int p2), .val (.int p3), .val (.int p4), .val (.int p5), .val (.int n), .val (.int pd), .val (.long vv), .second, .val (.int wz), .val (.int tm), rv bc, .unset] [(.int x12), (.int (12 : Int32)), (.ref bc)])) rfl rfl (hb hby at_299)
  rw [own_nb hB12.1 hB12.2] at W434
  have N434 := Fr.snoc X434 N432 g_bc
  have O434 := O432.wr W434 g_bc
  have A388x_e434 := A388x_e432.wr W434
  have V434 : Arv Z h434 bc k388 .char (20 : Int32) [(.int x0), (.int x1), (.int x2), (.int x3), (.int x4), (.int x5), (.int x6), (.int x7), (.int x8), (.int x9), (.int x10), (.int x11), (.int x12), (.int (0 : Int32)), (.int (0 : Int32)), (.int (0 : Int32)), (.int (0 : Int32)), (.int (0 : Int32)), (.int (0 : Int32)), (.int (0 : Int32))] (.int (0 : Int32)) := Arv.set Ar433 qa433 Sa433 Na433 Ha433 Ga433 (own_fx hB12.1 hB12.2) W434 12 rfl (Nat.le_of_ble_eq_true rfl)
  refine own_to (fun t k => st434 t k) ?_
  show own_Fin _ _ _ _ _ _ (T434.setTop (mkF m 300 #[.val (.long q1), .second, .val (.int p2), .val (.int p3), .val (.int p4), .val (.int p5), .val (.int n), .val (.int pd), .val (.long vv), .second, .val (.int wz), .val (.int tm), rv bc, .unset] []))
  refine own_to (fun t k => XS.aload X434.here hx rfl (hb hby at_300) rfl rfl k) ?_
  show own_Fin _ _ _ _ _ _ (T434.setTop (mkF m 302 #[.val (.long q1), .second, .val (.int p2), .val (.int p3), .val (.int p4), .val (.int p5), .val (.int n), .val (.int pd), .val (.long vv), .second, .val (.int wz), .val (.int tm), rv bc, .unset] [(.ref bc)]))
  refine own_to (fun t k => XS.bipush X434.here hx rfl (hb hby at_302) k) ?_
  refine own_to (fun t k => XS.bipush X434.here hx rfl (hb hby at_304) k) ?_
  refine own_to (fun t k => XS.iload X434.here hx rfl (hb hby at_306) rfl k) ?_
  show own_Fin _ _ _ _ _ _ (T434.setTop (mkF m 308 #[.val (.long q1), .second, .val (.int p2), .val (.int p3), .val (.int p4), .val (.int p5), .val (.int n), .val (.int pd), .val (.long vv), .second, .val (.int wz), .val (.int tm), rv bc, .unset] [(.int pd), (.int (13 : Int32)), (.int (13 : Int32)), (.ref bc)]))
  refine own_to (fun t k => XS.iload X434.here hx rfl (hb hby at_308) rfl k) ?_
  refine own_to (fun t k => XS.lload X434.here hx rfl (hb hby at_310) rfl k) ?_
  refine own_to (fun t k => XS.iload X434.here hx rfl (hb hby at_312) rfl k) ?_
  show own_Fin _ _ _ _ _ _ (T434.setTop (mkF m 314 #[.val (.long q1), .second, .val (.int p2), .val (.int p3), .val (.int p4), .val (.int p5), .val (.int n), .val (.int pd), .val (.long vv), .second, .val (.int wz), .val (.int tm), rv bc, .unset] [(.int wz), (.long vv), (.int n), (.int pd), (.int (13 : Int32)), (.int (13 : Int32)), (.ref bc)]))
  refine own_to (fun t k => XS.iload X434.here hx rfl (hb hby at_314) rfl k) ?_
  have zs435 := (Nat.le_trans (Nat.le_trans (Nat.le_trans (Nat.le_trans zs428 K429.1) (Keep.of_wr W431).1) K432.1) (Keep.of_wr W434).1)
  obtain ⟨_, _, ⟨T436, L436, k436, n436⟩, -, X436, ⟨Lc436, hQ436, l436, y436, z436⟩, st436⟩ := Jvm.LawKit.callS X434 hx (y := (⟨"com/example/libxqtype/libxqtype/ExpressionLexerIntegerValuePinLaw", "at", "(IIIJCC)C"⟩ : MethodName)) hown (mvT hZ (own_W hw 32 rfl)) (mvT hZ (own_W hw 33 rfl)) (mvT hZ (own_W hw 4 rfl)) (mvT hZ (own_W hw 34 rfl)) (by decide) (own_back (W := 2) (own_chr l Z a0 hw [] (13 : Int32) pd n vv wz tm S N W 13 h434 n0 zs435 HK rfl (by decide)) hZ (own_W hw 34 rfl) (own_W hw 4 rfl) (by decide) (by decide)) (g := (mkF m 316 #[.val (.long q1), .second, .val (.int p2), .val (.int p3), .val (.int p4), .val (.int p5), .val (.int n), .val (.int pd), .val (.long vv), .second, .val (.int wz), .val (.int tm), rv bc, .unset] [(.int tm), (.int wz), (.long vv), (.int n), (.int pd), (.int (13 : Int32)), (.int (13 : Int32)), (.ref bc)])) rfl (by rw [hml]; rfl) (argsL := [(.int (13 : Int32)), (.int pd), (.int n), (.long vv), (.int wz), (.int tm)]) (rest := [(.int (13 : Int32)), (.ref bc)]) (lenOf own_pd15 rfl) rfl (by show 2 * 0 + _ ≤ _; exact Nat.le_of_eq rfl) (hb hby at_316) (fun _ _ => ⟨rfl, e434, (by decide : 15 + 1 ≤ _), (by decide : 286 + 19 ≤ _)⟩)
  dsimp only [Pt.U, Pt.locs, Pt.cells, Pt.slots] at X436 l436 y436 z436 st436 hQ436
  rw [l436, y436, z436] at X436
  obtain ⟨rfl, N436q, K436⟩ := hQ436
  have N436 := Fr.app N434 N436q
  have O436 := O434.keep K436 all0
  have A388x_e436 := A388x_e434.keep K436
  have V434_e436 := V434.keep K436 nin0
  refine own_to (fun t k => st436 t k) ?_
  show own_Fin _ _ _ _ _ _ (T436.setTop (mkF m 319 #[.val (.long q1), .second, .val (.int p2), .val (.int p3), .val (.int p4), .val (.int p5), .val (.int n), .val (.int pd), .val (.long vv), .second, .val (.int wz), .val (.int tm), rv bc, .unset] [(.int (own_ch (13 : Int32) pd n vv wz tm)), (.int (13 : Int32)), (.ref bc)]))
  obtain ⟨x13, ex13⟩ : ∃ z, z = (own_ch (13 : Int32) pd n vv wz tm) := ⟨_, rfl⟩
  rw [← ex13]
  have hB13 := own_chB HK (i := (13 : Int32)) (I := 13) rfl (by decide)
  rw [← ex13] at hB13
  show own_Fin _ _ _ _ _ _ (T436.setTop (mkF m 319 #[.val (.long q1), .second, .val (.int p2), .val (.int p3), .val (.int p4), .val (.int p5), .val (.int n), .val (.int pd), .val (.long vv), .second, .val (.int wz), .val (.int tm), rv bc, .unset] [(.int x13), (.int (13 : Int32)), (.ref bc)]))
  obtain ⟨cl437, Ar437, qa437, Sa437, Na437, Ha437, Ga437⟩ := id V434_e436
  have hin438 : ¬ ((13 : Int32) < 0 ∨ cl437.slots.size ≤ ((13 : Int32)).toNatClampNeg) := inb_of Sa437 ⟨by decide, by decide⟩
  obtain ⟨T438, h438, X438, e438, W438, st438⟩ := stC X436 hx hZ rfl Ar437 (j := (13 : Int32)) hin438 (g := (mkF m 319 #[.val (.long q1), .second, .val (.int p2), .val (.int p3), .val (.int p4), .val (.int p5), .val (.int n), .val (.int pd), .val (.long vv), .second, .val (.int wz), .val (.int tm), rv bc, .unset] [(.int x13), (.int (13 : Int32)), (.ref bc)])) rfl rfl (hb hby at_319)
  rw [own_nb hB13.1 hB13.2] at W438
  have N438 := Fr.snoc X438 N436 g_bc
  have O438 := O436.wr W438 g_bc
  have A388x_e438 := A388x_e436.wr W438
  have V438 : Arv Z h438 bc k388 .char (20 : Int32) [(.int x0), (.int x1), (.int x2), (.int x3), (.int x4), (.int x5), (.int x6), (.int x7), (.int x8), (.int x9), (.int x10), (.int x11), (.int x12), (.int x13), (.int (0 : Int32)), (.int (0 : Int32)), (.int (0 : Int32)), (.int (0 : Int32)), (.int (0 : Int32)), (.int (0 : Int32))] (.int (0 : Int32)) := Arv.set Ar437 qa437 Sa437 Na437 Ha437 Ga437 (own_fx hB13.1 hB13.2) W438 13 rfl (Nat.le_of_ble_eq_true rfl)
  refine own_to (fun t k => st438 t k) ?_
  show own_Fin _ _ _ _ _ _ (T438.setTop (mkF m 320 #[.val (.long q1), .second, .val (.int p2), .val (.int p3), .val (.int p4), .val (.int p5), .val (.int n), .val (.int pd), .val (.long vv), .second, .val (.int wz), .val (.int tm), rv bc, .unset] []))
  refine own_to (fun t k => XS.aload X438.here hx rfl (hb hby at_320) rfl rfl k) ?_
  refine own_to (fun t k => XS.bipush X438.here hx rfl (hb hby at_322) k) ?_
  show own_Fin _ _ _ _ _ _ (T438.setTop (mkF m 324 #[.val (.long q1), .second, .val (.int p2), .val (.int p3), .val (.int p4), .val (.int p5), .val (.int n), .val (.int pd), .val (.long vv), .second, .val (.int wz), .val (.int tm), rv bc, .unset] [(.int (14 : Int32)), (.ref bc)]))
  refine own_to (fun t k => XS.bipush X438.here hx rfl (hb hby at_324) k) ?_
  refine own_to (fun t k => XS.iload X438.here hx rfl (hb hby at_326) rfl k) ?_
  refine own_to (fun t k => XS.iload X438.here hx rfl (hb hby at_328) rfl k) ?_
  show own_Fin _ _ _ _ _ _ (T438.setTop (mkF m 330 #[.val (.long q1), .second, .val (.int p2), .val (.int p3), .val (.int p4), .val (.int p5), .val (.int n), .val (.int pd), .val (.long vv), .second, .val (.int wz), .val (.int tm), rv bc, .unset] [(.int n), (.int pd), (.int (14 : Int32)), (.int (14 : Int32)), (.ref bc)]))
  refine own_to (fun t k => XS.lload X438.here hx rfl (hb hby at_330) rfl k) ?_
  refine own_to (fun t k => XS.iload X438.here hx rfl (hb hby at_332) rfl k) ?_
  refine own_to (fun t k => XS.iload X438.here hx rfl (hb hby at_334) rfl k) ?_
  show own_Fin _ _ _ _ _ _ (T438.setTop (mkF m 336 #[.val (.long q1), .second, .val (.int p2), .val (.int p3), .val (.int p4), .val (.int p5), .val (.int n), .val (.int pd), .val (.long vv), .second, .val (.int wz), .val (.int tm), rv bc, .unset] [(.int tm), (.int wz), (.long vv), (.int n), (.int pd), (.int (14 : Int32)), (.int (14 : Int32)), (.ref bc)]))
  obtain ⟨_, _, ⟨T439, L439, k439, n439⟩, -, X439, ⟨Lc439, hQ439, l439, y439, z439⟩, st439⟩ := Jvm.LawKit.callS X438 hx (y := (⟨"com/example/libxqtype/libxqtype/ExpressionLexerIntegerValuePinLaw", "at", "(IIIJCC)C"⟩ : MethodName)) hown (mvT hZ (own_W hw 32 rfl)) (mvT hZ (own_W hw 33 rfl)) (mvT hZ (own_W hw 4 rfl)) (mvT hZ (own_W hw 34 rfl)) (by decide) (own_back (W := 2) (own_chr l Z a0 hw [] (14 : Int32) pd n vv wz tm S N W 14 h438 n0 (Nat.le_trans (Nat.le_trans zs435 K436.1) (Keep.of_wr W438).1) HK rfl (by decide)) hZ (own_W hw 34 rfl) (own_W hw 4 rfl) (by decide) (by decide)) (g := (mkF m 336 #[.val (.long q1), .second, .val (.int p2), .val (.int p3), .val (.int p4), .val (.int p5), .val (.int n), .val (.int pd), .val (.long vv), .second, .val (.int wz), .val (.int tm), rv bc, .unset] [(.int tm), (.int wz), (.long vv), (.int n), (.int pd), (.int (14 : Int32)), (.int (14 : Int32)), (.ref bc)])) rfl (by rw [hml]; rfl) (argsL := [(.int (14 : Int32)), (.int pd), (.int n), (.long vv), (.int wz), (.int tm)]) (rest := [(.int (14 : Int32)), (.ref bc)]) (lenOf own_pd15 rfl) rfl (by show 2 * 0 + _ ≤ _; exact Nat.le_of_eq rfl) (hb hby at_336) (fun _ _ => ⟨rfl, e438, (by decide : 16 + 1 ≤ _), (by decide : 305 + 19 ≤ _)⟩)
  dsimp only [Pt.U, Pt.locs, Pt.cells, Pt.slots] at X439 l439 y439 z439 st439 hQ439
  rw [l439, y439, z439] at X439
  obtain ⟨rfl, N439q, K439⟩ := hQ439
  have N439 := Fr.app N438 N439q
  have O439 := O438.keep K439 all0
  have A388x_e439 := A388x_e438.keep K439
  have V438_e439 := V438.keep K439 nin0
  refine own_to (fun t k => st439 t k) ?_
  show own_Fin _ _ _ _ _ _ (T439.setTop (mkF m 339 #[.val (.long q1), .second, .val (.int p2), .val (.int p3), .val (.int p4), .val (.int p5), .val (.int n), .val (.int pd), .val (.long vv), .second, .val (.int wz), .val (.int tm), rv bc, .unset] [(.int (own_ch (14 : Int32) pd n vv wz tm)), (.int (14 : Int32)), (.ref bc)]))
  obtain ⟨x14, ex14⟩ : ∃ z, z = (own_ch (14 : Int32) pd n vv wz tm) := ⟨_, rfl⟩
  rw [← ex14]
  have hB14 := own_chB HK (i := (14 : Int32)) (I := 14) rfl (by decide)
  rw [← ex14] at hB14
  show own_Fin _ _ _ _ _ _ (T439.setTop (mkF m 339 #[.val (.long q1), .second, .val (.int p2), .val (.int p3), .val (.int p4), .val (.int p5), .val (.int n), .val (.int pd), .val (.long vv), .second, .val (.int wz), .val (.int tm), rv bc, .unset] [(.int x14), (.int (14 : Int32)), (.ref bc)]))
  obtain ⟨cl440, Ar440, qa440, Sa440, Na440, Ha440, Ga440⟩ := id V438_e439
  have hin441 : ¬ ((14 : Int32) < 0 ∨ cl440.slots.size ≤ ((14 : Int32)).toNatClampNeg) := inb_of Sa440 ⟨by decide, by decide⟩
  obtain ⟨T441, h441, X441, e441, W441, st441⟩ := stC X439 hx hZ rfl Ar440 (j := (14 : Int32)) hin441 (g := (mkF m 339 #[.val (.long q1), .second, .val (.int p2), .val (.int p3), .val (.int p4), .val (.int p5), .val (.int n), .val (.int pd), .val (.long vv), .second, .val (.int wz), .val (.int tm), rv bc, .unset] [(.int x14), (.int (14 : Int32)), (.ref bc)])) rfl rfl (hb hby at_339)
  rw [own_nb hB14.1 hB14.2] at W441
  have N441 := Fr.snoc X441 N439 g_bc
  have O441 := O439.wr W441 g_bc
  have A388x_e441 := A388x_e439.wr W441
  have V441 : Arv Z h441 bc k388 .char (20 : Int32) [(.int x0), (.int x1), (.int x2), (.int x3), (.int x4), (.int x5), (.int x6), (.int x7), (.int x8), (.int x9), (.int x10), (.int x11), (.int x12), (.int x13), (.int x14), (.int (0 : Int32)), (.int (0 : Int32)), (.int (0 : Int32)), (.int (0 : Int32)), (.int (0 : Int32))] (.int (0 : Int32)) := Arv.set Ar440 qa440 Sa440 Na440 Ha440 Ga440 (own_fx hB14.1 hB14.2) W441 14 rfl (Nat.le_of_ble_eq_true rfl)
  refine own_to (fun t k => st441 t k) ?_
  show own_Fin _ _ _ _ _ _ (T441.setTop (mkF m 340 #[.val (.long q1), .second, .val (.int p2), .val (.int p3), .val (.int p4), .val (.int p5), .val (.int n), .val (.int pd), .val (.long vv), .second, .val (.int wz), .val (.int tm), rv bc, .unset] []))
  refine own_to (fun t k => XS.aload X441.here hx rfl (hb hby at_340) rfl rfl k) ?_
  refine own_to (fun t k => XS.bipush X441.here hx rfl (hb hby at_342) k) ?_
  refine own_to (fun t k => XS.bipush X441.here hx rfl (hb hby at_344) k) ?_
  show own_Fin _ _ _ _ _ _ (T441.setTop (mkF m 346 #[.val (.long q1), .second, .val (.int p2), .val (.int p3), .val (.int p4), .val (.int p5), .val (.int n), .val (.int pd), .val (.long vv), .second, .val (.int wz), .val (.int tm), rv bc, .unset] [(.int (15 : Int32)), (.int (15 : Int32)), (.ref bc)]))
  refine own_to (fun t k => XS.iload X441.here hx rfl (hb hby at_346) rfl k) ?_
  refine own_to (fun t k => XS.iload X441.here hx rfl (hb hby at_348) rfl k) ?_
  refine own_to (fun t k => XS.lload X441.here hx rfl (hb hby at_350) rfl k) ?_
  show own_Fin _ _ _ _ _ _ (T441.setTop (mkF m 352 #[.val (.long q1), .second, .val (.int p2), .val (.int p3), .val (.int p4), .val (.int p5), .val (.int n), .val (.int pd), .val (.long vv), .second, .val (.int wz), .val (.int tm), rv bc, .unset] [(.long vv), (.int n), (.int pd), (.int (15 : Int32)), (.int (15 : Int32)), (.ref bc)]))
  refine own_to (fun t k => XS.iload X441.here hx rfl (hb hby at_352) rfl k) ?_
  refine own_to (fun t k => XS.iload X441.here hx rfl (hb hby at_354) rfl k) ?_
  have zs442 := (Nat.le_trans (Nat.le_trans (Nat.le_trans (Nat.le_trans zs435 K436.1) (Keep.of_wr W438).1) K439.1) (Keep.of_wr W441).1)
  obtain ⟨_, _, ⟨T443, L443, k443, n443⟩, -, X443, ⟨Lc443, hQ443, l443, y443, z443⟩, st443⟩ := Jvm.LawKit.callS X441 hx (y := (⟨"com/example/libxqtype/libxqtype/ExpressionLexerIntegerValuePinLaw", "at", "(IIIJCC)C"⟩ : MethodName)) hown (mvT hZ (own_W hw 32 rfl)) (mvT hZ (own_W hw 33 rfl)) (mvT hZ (own_W hw 4 rfl)) (mvT hZ (own_W hw 34 rfl)) (by decide) (own_back (W := 2) (own_chr l Z a0 hw [] (15 : Int32) pd n vv wz tm S N W 15 h441 n0 zs442 HK rfl (by decide)) hZ (own_W hw 34 rfl) (own_W hw 4 rfl) (by decide) (by decide)) (g := (mkF m 356 #[.val (.long q1), .second, .val (.int p2), .val (.int p3), .val (.int p4), .val (.int p5), .val (.int n), .val (.int pd), .val (.long vv), .second, .val (.int wz), .val (.int tm), rv bc, .unset] [(.int tm), (.int wz), (.long vv), (.int n), (.int pd), (.int (15 : Int32)), (.int (15 : Int32)), (.ref bc)])) rfl (by rw [hml]; rfl) (argsL := [(.int (15 : Int32)), (.int pd), (.int n), (.long vv), (.int wz), (.int tm)]) (rest := [(.int (15 : Int32)), (.ref bc)]) (lenOf own_pd15 rfl) rfl (by show 2 * 0 + _ ≤ _; exact Nat.le_of_eq rfl) (hb hby at_356) (fun _ _ => ⟨rfl, e441, (by decide : 17 + 1 ≤ _), (by decide : 324 + 19 ≤ _)⟩)
  dsimp only [Pt.U, Pt.locs, Pt.cells, Pt.slots] at X443 l443 y443 z443 st443 hQ443
  rw [l443, y443, z443] at X443
  obtain ⟨rfl, N443q, K443⟩ := hQ443
  have N443 := Fr.app N441 N443q
  have O443 := O441.keep K443 all0
  have A388x_e443 := A388x_e441.keep K443
  have V441_e443 := V441.keep K443 nin0
  refine own_to (fun t k => st443 t k) ?_
  show own_Fin _ _ _ _ _ _ (T443.setTop (mkF m 359 #[.val (.long q1), .second, .val (.int p2), .val (.int p3), .val (.int p4), .val (.int p5), .val (.int n), .val (.int pd), .val (.long vv), .second, .val (.int wz), .val (.int tm), rv bc, .unset] [(.int (own_ch (15 : Int32) pd n vv wz tm)), (.int (15 : Int32)), (.ref bc)]))
  obtain ⟨x15, ex15⟩ : ∃ z, z = (own_ch (15 : Int32) pd n vv wz tm) := ⟨_, rfl⟩
  rw [← ex15]
  have hB15 := own_chB HK (i := (15 : Int32)) (I := 15) rfl (by decide)
  rw [← ex15] at hB15
  show own_Fin _ _ _ _ _ _ (T443.setTop (mkF m 359 #[.val (.long q1), .second, .val (.int p2), .val (.int p3), .val (.int p4), .val (.int p5), .val (.int n), .val (.int pd), .val (.long vv), .second, .val (.int wz), .val (.int tm), rv bc, .unset] [(.int x15), (.int (15 : Int32)), (.ref bc)]))
  obtain ⟨cl444, Ar444, qa444, Sa444, Na444, Ha444, Ga444⟩ := id V441_e443
  have hin445 : ¬ ((15 : Int32) < 0 ∨ cl444.slots.size ≤ ((15 : Int32)).toNatClampNeg) := inb_of Sa444 ⟨by decide, by decide⟩
  obtain ⟨T445, h445, X445, e445, W445, st445⟩ := stC X443 hx hZ rfl Ar444 (j := (15 : Int32)) hin445 (g := (mkF m 359 #[.val (.long q1), .second, .val (.int p2), .val (.int p3), .val (.int p4), .val (.int p5), .val (.int n), .val (.int pd), .val (.long vv), .second, .val (.int wz), .val (.int tm), rv bc, .unset] [(.int x15), (.int (15 : Int32)), (.ref bc)])) rfl rfl (hb hby at_359)
  rw [own_nb hB15.1 hB15.2] at W445
  have N445 := Fr.snoc X445 N443 g_bc
  have O445 := O443.wr W445 g_bc
  have A388x_e445 := A388x_e443.wr W445
  have V445 : Arv Z h445 bc k388 .char (20 : Int32) [(.int x0), (.int x1), (.int x2), (.int x3), (.int x4), (.int x5), (.int x6), (.int x7), (.int x8), (.int x9), (.int x10), (.int x11), (.int x12), (.int x13), (.int x14), (.int x15), (.int (0 : Int32)), (.int (0 : Int32)), (.int (0 : Int32)), (.int (0 : Int32))] (.int (0 : Int32)) := Arv.set Ar444 qa444 Sa444 Na444 Ha444 Ga444 (own_fx hB15.1 hB15.2) W445 15 rfl (Nat.le_of_ble_eq_true rfl)
  refine own_to (fun t k => st445 t k) ?_
  show own_Fin _ _ _ _ _ _ (T445.setTop (mkF m 360 #[.val (.long q1), .second, .val (.int p2), .val (.int p3), .val (.int p4), .val (.int p5), .val (.int n), .val (.int pd), .val (.long vv), .second, .val (.int wz), .val (.int tm), rv bc, .unset] []))
  refine own_to (fun t k => XS.aload X445.here hx rfl (hb hby at_360) rfl rfl k) ?_
  show own_Fin _ _ _ _ _ _ (T445.setTop (mkF m 362 #[.val (.long q1), .second, .val (.int p2), .val (.int p3), .val (.int p4), .val (.int p5), .val (.int n), .val (.int pd), .val (.long vv), .second, .val (.int wz), .val (.int tm), rv bc, .unset] [(.ref bc)]))
  refine own_to (fun t k => XS.bipush X445.here hx rfl (hb hby at_362) k) ?_
  refine own_to (fun t k => XS.bipush X445.here hx rfl (hb hby at_364) k) ?_
  refine own_to (fun t k => XS.iload X445.here hx rfl (hb hby at_366) rfl k) ?_
  show own_Fin _ _ _ _ _ _ (T445.setTop (mkF m 368 #[.val (.long q1), .second, .val (.int p2), .val (.int p3), .val (.int p4), .val (.int p5), .val (.int n), .val (.int pd), .val (.long vv), .second, .val (.int wz), .val (.int tm), rv bc, .unset] [(.int pd), (.int (16 : Int32)), (.int (16 : Int32)), (.ref bc)]))
  refine own_to (fun t k => XS.iload X445.here hx rfl (hb hby at_368) rfl k) ?_
  refine own_to (fun t k => XS.lload X445.here hx rfl (hb hby at_370) rfl k) ?_
  refine own_to (fun t k => XS.iload X445.here hx rfl (hb hby at_372) rfl k) ?_
  show own_Fin _ _ _ _ _ _ (T445.setTop (mkF m 374 #[.val (.long q1), .second, .val (.int p2), .val (.int p3), .val (.int p4), .val (.int p5), .val (.int n), .val (.int pd), .val (.long vv), .second, .val (.int wz), .val (.int tm), rv bc, .unset] [(.int wz), (.long vv), (.int n), (.int pd), (.int (16 : Int32)), (.int (16 : Int32)), (.ref bc)]))
  refine own_to (fun t k => XS.iload X445.here hx rfl (hb hby at_374) rfl k) ?_
  obtain ⟨_, _, ⟨T446, L446, k446, n446⟩, -, X446, ⟨Lc446, hQ446, l446, y446, z446⟩, st446⟩ := Jvm.LawKit.callS X445 hx (y := (⟨"com/example/libxqtype/libxqtype/ExpressionLexerIntegerValuePinLaw", "at", "(IIIJCC)C"⟩ : MethodName)) hown (mvT hZ (own_W hw 32 rfl)) (mvT hZ (own_W hw 33 rfl)) (mvT hZ (own_W hw 4 rfl)) (mvT hZ (own_W hw 34 rfl)) (by decide) (own_back (W := 2) (own_chr l Z a0 hw [] (16 : Int32) pd n vv wz tm S N W 16 h445 n0 (Nat.le_trans (Nat.le_trans zs442 K443.1) (Keep.of_wr W445).1) HK rfl (by decide)) hZ (own_W hw 34 rfl) (own_W hw 4 rfl) (by decide) (by decide)) (g := (mkF m 376 #[.val (.long q1), .second, .val (.int p2), .val (.int p3), .val (.int p4), .val (.int p5), .val (.int n), .val (.int pd), .val (.long vv), .second, .val (.int wz), .val (.int tm), rv bc, .unset] [(.int tm), (.int wz), (.long vv), (.int n), (.int pd), (.int (16 : Int32)), (.int (16 : Int32)), (.ref bc)])) rfl (by rw [hml]; rfl) (argsL := [(.int (16 : Int32)), (.int pd), (.int n), (.long vv), (.int wz), (.int tm)]) (rest := [(.int (16 : Int32)), (.ref bc)]) (lenOf own_pd15 rfl) rfl (by show 2 * 0 + _ ≤ _; exact Nat.le_of_eq rfl) (hb hby at_376) (fun _ _ => ⟨rfl, e445, (by decide : 18 + 1 ≤ _), (by decide : 343 + 19 ≤ _)⟩)
  dsimp only [Pt.U, Pt.locs, Pt.cells, Pt.slots] at X446 l446 y446 z446 st446 hQ446
  rw [l446, y446, z446] at X446
  obtain ⟨rfl, N446q, K446⟩ := hQ446
  have N446 := Fr.app N445 N446q
  have O446 := O445.keep K446 all0
  have A388x_e446 := A388x_e445.keep K446
  have V445_e446 := V445.keep K446 nin0
  refine own_to (fun t k => st446 t k) ?_
  show own_Fin _ _ _ _ _ _ (T446.setTop (mkF m 379 #[.val (.long q1), .second, .val (.int p2), .val (.int p3), .val (.int p4), .val (.int p5), .val (.int n), .val (.int pd), .val (.long vv), .second, .val (.int wz), .val (.int tm), rv bc, .unset] [(.int (own_ch (16 : Int32) pd n vv wz tm)), (.int (16 : Int32)), (.ref bc)]))
  obtain ⟨x16, ex16⟩ : ∃ z, z = (own_ch (16 : Int32) pd n vv wz tm) := ⟨_, rfl⟩
  rw [← ex16]
  have hB16 := own_chB HK (i := (16 : Int32)) (I := 16) rfl (by decide)
  rw [← ex16] at hB16
  show own_Fin _ _ _ _ _ _ (T446.setTop (mkF m 379 #[.val (.long q1), .second, .val (.int p2), .val (.int p3), .val (.int p4), .val (.int p5), .val (.int n), .val (.int pd), .val (.long vv), .second, .val (.int wz), .val (.int tm), rv bc, .unset] [(.int x16), (.int (16 : Int32)), (.ref bc)]))
  obtain ⟨cl447, Ar447, qa447, Sa447, Na447, Ha447, Ga447⟩ := id V445_e446
  have hin448 : ¬ ((16 : Int32) < 0 ∨ cl447.slots.size ≤ ((16 : Int32)).toNatClampNeg) := inb_of Sa447 ⟨by decide, by decide⟩
  obtain ⟨T448, h448, X448, e448, W448, st448⟩ := stC X446 hx hZ rfl Ar447 (j := (16 : Int32)) hin448 (g := (mkF m 379 #[.val (.long q1), .second, .val (.int p2), .val (.int p3), .val (.int p4), .val (.int p5), .val (.int n), .val (.int pd), .val (.long vv), .second, .val (.int wz), .val (.int tm), rv bc, .unset] [(.int x16), (.int (16 : Int32)), (.ref bc)])) rfl rfl (hb hby at_379)
  rw [own_nb hB16.1 hB16.2] at W448
  have N448 := Fr.snoc X448 N446 g_bc
  have O448 := O446.wr W448 g_bc
  have A388x_e448 := A388x_e446.wr W448
  have V448 : Arv Z h448 bc k388 .char (20 : Int32) [(.int x0), (.int x1), (.int x2), (.int x3), (.int x4), (.int x5), (.int x6), (.int x7), (.int x8), (.int x9), (.int x10), (.int x11), (.int x12), (.int x13), (.int x14), (.int x15), (.int x16), (.int (0 : Int32)), (.int (0 : Int32)), (.int (0 : Int32))] (.int (0 : Int32)) := Arv.set Ar447 qa447 Sa447 Na447 Ha447 Ga447 (own_fx hB16.1 hB16.2) W448 16 rfl (Nat.le_of_ble_eq_true rfl)
  refine own_to (fun t k => st448 t k) ?_
  show own_Fin _ _ _ _ _ _ (T448.setTop (mkF m 380 #[.val (.long q1), .second, .val (.int p2), .val (.int p3), .val (.int p4), .val (.int p5), .val (.int n), .val (.int pd), .val (.long vv), .second, .val (.int wz), .val (.int tm), rv bc, .unset] []))
  refine own_to (fun t k => XS.aload X448.here hx rfl (hb hby at_380) rfl rfl k) ?_
  refine own_to (fun t k => XS.bipush X448.here hx rfl (hb hby at_382) k) ?_
  show own_Fin _ _ _ _ _ _ (T448.setTop (mkF m 384 #[.val (.long q1), .second, .val (.int p2), .val (.int p3), .val (.int p4), .val (.int p5), .val (.int n), .val (.int pd), .val (.long vv), .second, .val (.int wz), .val (.int tm), rv bc, .unset] [(.int (17 : Int32)), (.ref bc)]))
  refine own_to (fun t k => XS.bipush X448.here hx rfl (hb hby at_384) k) ?_
  refine own_to (fun t k => XS.iload X448.here hx rfl (hb hby at_386) rfl k) ?_
  refine own_to (fun t k => XS.iload X448.here hx rfl (hb hby at_388) rfl k) ?_
  show own_Fin _ _ _ _ _ _ (T448.setTop (mkF m 390 #[.val (.long q1), .second, .val (.int p2), .val (.int p3), .val (.int p4), .val (.int p5), .val (.int n), .val (.int pd), .val (.long vv), .second, .val (.int wz), .val (.int tm), rv bc, .unset] [(.int n), (.int pd), (.int (17 : Int32)), (.int (17 : Int32)), (.ref bc)]))
  refine own_to (fun t k => XS.lload X448.here hx rfl (hb hby at_390) rfl k) ?_
  refine own_to (fun t k => XS.iload X448.here hx rfl (hb hby at_392) rfl k) ?_
  refine own_to (fun t k => XS.iload X448.here hx rfl (hb hby at_394) rfl k) ?_
  show own_Fin _ _ _ _ _ _ (T448.setTop (mkF m 396 #[.val (.long q1), .second, .val (.int p2), .val (.int p3), .val (.int p4), .val (.int p5), .val (.int n), .val (.int pd), .val (.long vv), .second, .val (.int wz), .val (.int tm), rv bc, .unset] [(.int tm), (.int wz), (.long vv), (.int n), (.int pd), (.int (17 : Int32)), (.int (17 : Int32)), (.ref bc)]))
  have zs449 := (Nat.le_trans (Nat.le_trans (Nat.le_trans (Nat.le_trans zs442 K443.1) (Keep.of_wr W445).1) K446.1) (Keep.of_wr W448).1)
  obtain ⟨_, _, ⟨T450, L450, k450, n450⟩, -, X450, ⟨Lc450, hQ450, l450, y450, z450⟩, st450⟩ := Jvm.LawKit.callS X448 hx (y := (⟨"com/example/libxqtype/libxqtype/ExpressionLexerIntegerValuePinLaw", "at", "(IIIJCC)C"⟩ : MethodName)) hown (mvT hZ (own_W hw 32 rfl)) (mvT hZ (own_W hw 33 rfl)) (mvT hZ (own_W hw 4 rfl)) (mvT hZ (own_W hw 34 rfl)) (by decide) (own_back (W := 2) (own_chr l Z a0 hw [] (17 : Int32) pd n vv wz tm S N W 17 h448 n0 zs449 HK rfl (by decide)) hZ (own_W hw 34 rfl) (own_W hw 4 rfl) (by decide) (by decide)) (g := (mkF m 396 #[.val (.long q1), .second, .val (.int p2), .val (.int p3), .val (.int p4), .val (.int p5), .val (.int n), .val (.int pd), .val (.long vv), .second, .val (.int wz), .val (.int tm), rv bc, .unset] [(.int tm), (.int wz), (.long vv), (.int n), (.int pd), (.int (17 : Int32)), (.int (17 : Int32)), (.ref bc)])) rfl (by rw [hml]; rfl) (argsL := [(.int (17 : Int32)), (.int pd), (.int n), (.long vv), (.int wz), (.int tm)]) (rest := [(.int (17 : Int32)), (.ref bc)]) (lenOf own_pd15 rfl) rfl (by show 2 * 0 + _ ≤ _; exact Nat.le_of_eq rfl) (hb hby at_396) (fun _ _ => ⟨rfl, e448, (by decide : 19 + 1 ≤ _), (by decide : 362 + 19 ≤ _)⟩)
  dsimp only [Pt.U, Pt.locs, Pt.cells, Pt.slots] at X450 l450 y450 z450 st450 hQ450
  rw [l450, y450, z450] at X450
  obtain ⟨rfl, N450q, K450⟩ := hQ450
  have N450 := Fr.app N448 N450q
  have O450 := O448.keep K450 all0
  have A388x_e450 := A388x_e448.keep K450
  have V448_e450 := V448.keep K450 nin0
  refine own_to (fun t k => st450 t k) ?_
  show own_Fin _ _ _ _ _ _ (T450.setTop (mkF m 399 #[.val (.long q1), .second, .val (.int p2), .val (.int p3), .val (.int p4), .val (.int p5), .val (.int n), .val (.int pd), .val (.long vv), .second, .val (.int wz), .val (.int tm), rv bc, .unset] [(.int (own_ch (17 : Int32) pd n vv wz tm)), (.int (17 : Int32)), (.ref bc)]))
  obtain ⟨x17, ex17⟩ : ∃ z, z = (own_ch (17 : Int32) pd n vv wz tm) := ⟨_, rfl⟩
  rw [← ex17]
  have hB17 := own_chB HK (i := (17 : Int32)) (I := 17) rfl (by decide)
  rw [← ex17] at hB17
  show own_Fin _ _ _ _ _ _ (T450.setTop (mkF m 399 #[.val (.long q1), .second, .val (.int p2), .val (.int p3), .val (.int p4), .val (.int p5), .val (.int n), .val (.int pd), .val (.long vv), .second, .val (.int wz), .val (.int tm), rv bc, .unset] [(.int x17), (.int (17 : Int32)), (.ref bc)]))
  obtain ⟨cl451, Ar451, qa451, Sa451, Na451, Ha451, Ga451⟩ := id V448_e450
  have hin452 : ¬ ((17 : Int32) < 0 ∨ cl451.slots.size ≤ ((17 : Int32)).toNatClampNeg) := inb_of Sa451 ⟨by decide, by decide⟩
  obtain ⟨T452, h452, X452, e452, W452, st452⟩ := stC X450 hx hZ rfl Ar451 (j := (17 : Int32)) hin452 (g := (mkF m 399 #[.val (.long q1), .second, .val (.int p2), .val (.int p3), .val (.int p4), .val (.int p5), .val (.int n), .val (.int pd), .val (.long vv), .second, .val (.int wz), .val (.int tm), rv bc, .unset] [(.int x17), (.int (17 : Int32)), (.ref bc)])) rfl rfl (hb hby at_399)
  rw [own_nb hB17.1 hB17.2] at W452
  have N452 := Fr.snoc X452 N450 g_bc
  have O452 := O450.wr W452 g_bc
  have A388x_e452 := A388x_e450.wr W452
  have V452 : Arv Z h452 bc k388 .char (20 : Int32) [(.int x0), (.int x1), (.int x2), (.int x3), (.int x4), (.int x5), (.int x6), (.int x7), (.int x8), (.int x9), (.int x10), (.int x11), (.int x12), (.int x13), (.int x14), (.int x15), (.int x16), (.int x17), (.int (0 : Int32)), (.int (0 : Int32))] (.int (0 : Int32)) := Arv.set Ar451 qa451 Sa451 Na451 Ha451 Ga451 (own_fx hB17.1 hB17.2) W452 17 rfl (Nat.le_of_ble_eq_true rfl)
  refine own_to (fun t k => st452 t k) ?_
  show own_Fin _ _ _ _ _ _ (T452.setTop (mkF m 400 #[.val (.long q1), .second, .val (.int p2), .val (.int p3), .val (.int p4), .val (.int p5), .val (.int n), .val (.int pd), .val (.long vv), .second, .val (.int wz), .val (.int tm), rv bc, .unset] []))
  refine own_to (fun t k => XS.aload X452.here hx rfl (hb hby at_400) rfl rfl k) ?_
  refine own_to (fun t k => XS.bipush X452.here hx rfl (hb hby at_402) k) ?_
  refine own_to (fun t k => XS.bipush X452.here hx rfl (hb hby at_404) k) ?_
  show own_Fin _ _ _ _ _ _ (T452.setTop (mkF m 406 #[.val (.long q1), .second, .val (.int p2), .val (.int p3), .val (.int p4), .val (.int p5), .val (.int n), .val (.int pd), .val (.long vv), .second, .val (.int wz), .val (.int tm), rv bc, .unset] [(.int (18 : Int32)), (.int (18 : Int32)), (.ref bc)]))
  refine own_to (fun t k => XS.iload X452.here hx rfl (hb hby at_406) rfl k) ?_
  refine own_to (fun t k => XS.iload X452.here hx rfl (hb hby at_408) rfl k) ?_
  refine own_to (fun t k => XS.lload X452.here hx rfl (hb hby at_410) rfl k) ?_
  show own_Fin _ _ _ _ _ _ (T452.setTop (mkF m 412 #[.val (.long q1), .second, .val (.int p2), .val (.int p3), .val (.int p4), .val (.int p5), .val (.int n), .val (.int pd), .val (.long vv), .second, .val (.int wz), .val (.int tm), rv bc, .unset] [(.long vv), (.int n), (.int pd), (.int (18 : Int32)), (.int (18 : Int32)), (.ref bc)]))
  refine own_to (fun t k => XS.iload X452.here hx rfl (hb hby at_412) rfl k) ?_
  refine own_to (fun t k => XS.iload X452.here hx rfl (hb hby at_414) rfl k) ?_
  obtain ⟨_, _, ⟨T453, L453, k453, n453⟩, -, X453, ⟨Lc453, hQ453, l453, y453, z453⟩, st453⟩ := Jvm.LawKit.callS X452 hx (y := (⟨"com/example/libxqtype/libxqtype/ExpressionLexerIntegerValuePinLaw", "at", "(IIIJCC)C"⟩ : MethodName)) hown (mvT hZ (own_W hw 32 rfl)) (mvT hZ (own_W hw 33 rfl)) (mvT hZ (own_W hw 4 rfl)) (mvT hZ (own_W hw 34 rfl)) (by decide) (own_back (W := 2) (own_chr l Z a0 hw [] (18 : Int32) pd n vv wz tm S N W 18 h452 n0 (Nat.le_trans (Nat.le_trans zs449 K450.1) (Keep.of_wr W452).1) HK rfl (by decide)) hZ (own_W hw 34 rfl) (own_W hw 4 rfl) (by decide) (by decide)) (g := (mkF m 416 #[.val (.long q1), .second, .val (.int p2), .val (.int p3), .val (.int p4), .val (.int p5), .val (.int n), .val (.int pd), .val (.long vv), .second, .val (.int wz), .val (.int tm), rv bc, .unset] [(.int tm), (.int wz), (.long vv), (.int n), (.int pd), (.int (18 : Int32)), (.int (18 : Int32)), (.ref bc)])) rfl (by rw [hml]; rfl) (argsL := [(.int (18 : Int32)), (.int pd), (.int n), (.long vv), (.int wz), (.int tm)]) (rest := [(.int (18 : Int32)), (.ref bc)]) (lenOf own_pd15 rfl) rfl (by show 2 * 0 + _ ≤ _; exact Nat.le_of_eq rfl) (hb hby at_416) (fun _ _ => ⟨rfl, e452, (by decide : 20 + 1 ≤ _), (by decide : 381 + 19 ≤ _)⟩)
  dsimp only [Pt.U, Pt.locs, Pt.cells, Pt.slots] at X453 l453 y453 z453 st453 hQ453
  rw [l453, y453, z453] at X453
  obtain ⟨rfl, N453q, K453⟩ := hQ453
  have N453 := Fr.app N452 N453q
  have O453 := O452.keep K453 all0
  have A388x_e453 := A388x_e452.keep K453
  have V452_e453 := V452.keep K453 nin0
  refine own_to (fun t k => st453 t k) ?_
  show own_Fin _ _ _ _ _ _ (T453.setTop (mkF m 419 #[.val (.long q1), .second, .val (.int p2), .val (.int p3), .val (.int p4), .val (.int p5), .val (.int n), .val (.int pd), .val (.long vv), .second, .val (.int wz), .val (.int tm), rv bc, .unset] [(.int (own_ch (18 : Int32) pd n vv wz tm)), (.int (18 : Int32)), (.ref bc)]))
  obtain ⟨x18, ex18⟩ : ∃ z, z = (own_ch (18 : Int32) pd n vv wz tm) := ⟨_, rfl⟩
  rw [← ex18]
  have hB18 := own_chB HK (i := (18 : Int32)) (I := 18) rfl (by decide)
  rw [← ex18] at hB18
  show own_Fin _ _ _ _ _ _ (T453.setTop (mkF m 419 #[.val (.long q1), .second, .val (.int p2), .val (.int p3), .val (.int p4), .val (.int p5), .val (.int n), .val (.int pd), .val (.long vv), .second, .val (.int wz), .val (.int tm), rv bc, .unset] [(.int x18), (.int (18 : Int32)), (.ref bc)]))
  obtain ⟨cl454, Ar454, qa454, Sa454, Na454, Ha454, Ga454⟩ := id V452_e453
  have hin455 : ¬ ((18 : Int32) < 0 ∨ cl454.slots.size ≤ ((18 : Int32)).toNatClampNeg) := inb_of Sa454 ⟨by decide, by decide⟩
  obtain ⟨T455, h455, X455, e455, W455, st455⟩ := stC X453 hx hZ rfl Ar454 (j := (18 : Int32)) hin455 (g := (mkF m 419 #[.val (.long q1), .second, .val (.int p2), .val (.int p3), .val (.int p4), .val (.int p5), .val (.int n), .val (.int pd), .val (.long vv), .second, .val (.int wz), .val (.int tm), rv bc, .unset] [(.int x18), (.int (18 : Int32)), (.ref bc)])) rfl rfl (hb hby at_419)
  rw [own_nb hB18.1 hB18.2] at W455
  have N455 := Fr.snoc X455 N453 g_bc
  have O455 := O453.wr W455 g_bc
  have A388x_e455 := A388x_e453.wr W455
  have V455 : Arv Z h455 bc k388 .char (20 : Int32) [(.int x0), (.int x1), (.int x2), (.int x3), (.int x4), (.int x5), (.int x6), (.int x7), (.int x8), (.int x9), (.int x10), (.int x11), (.int x12), (.int x13), (.int x14), (.int x15), (.int x16), (.int x17), (.int x18), (.int (0 : Int32))] (.int (0 : Int32)) := Arv.set Ar454 qa454 Sa454 Na454 Ha454 Ga454 (own_fx hB18.1 hB18.2) W455 18 rfl (Nat.le_of_ble_eq_true rfl)
  refine own_to (fun t k => st455 t k) ?_
  show own_Fin _ _ _ _ _ _ (T455.setTop (mkF m 420 #[.val (.long q1), .second, .val (.int p2), .val (.int p3), .val (.int p4), .val (.int p5), .val (.int n), .val (.int pd), .val (.long vv), .second, .val (.int wz), .val (.int tm), rv bc, .unset] []))
  refine own_to (fun t k => XS.aload X455.here hx rfl (hb hby at_420) rfl rfl k) ?_
  show own_Fin _ _ _ _ _ _ (T455.setTop (mkF m 422 #[.val (.long q1), .second, .val (.int p2), .val (.int p3), .val (.int p4), .val (.int p5), .val (.int n), .val (.int pd), .val (.long vv), .second, .val (.int wz), .val (.int tm), rv bc, .unset] [(.ref bc)]))
  refine own_to (fun t k => XS.bipush X455.here hx rfl (hb hby at_422) k) ?_
  refine own_to (fun t k => XS.bipush X455.here hx rfl (hb hby at_424) k) ?_
  refine own_to (fun t k => XS.iload X455.here hx rfl (hb hby at_426) rfl k) ?_
  show own_Fin _ _ _ _ _ _ (T455.setTop (mkF m 428 #[.val (.long q1), .second, .val (.int p2), .val (.int p3), .val (.int p4), .val (.int p5), .val (.int n), .val (.int pd), .val (.long vv), .second, .val (.int wz), .val (.int tm), rv bc, .unset] [(.int pd), (.int (19 : Int32)), (.int (19 : Int32)), (.ref bc)]))
  refine own_to (fun t k => XS.iload X455.here hx rfl (hb hby at_428) rfl k) ?_
  refine own_to (fun t k => XS.lload X455.here hx rfl (hb hby at_430) rfl k) ?_
  refine own_to (fun t k => XS.iload X455.here hx rfl (hb hby at_432) rfl k) ?_
  show own_Fin _ _ _ _ _ _ (T455.setTop (mkF m 434 #[.val (.long q1), .second, .val (.int p2), .val (.int p3), .val (.int p4), .val (.int p5), .val (.int n), .val (.int pd), .val (.long vv), .second, .val (.int wz), .val (.int tm), rv bc, .unset] [(.int wz), (.long vv), (.int n), (.int pd), (.int (19 : Int32)), (.int (19 : Int32)), (.ref bc)]))
  refine own_to (fun t k => XS.iload X455.here hx rfl (hb hby at_434) rfl k) ?_
  have zs456 := (Nat.le_trans (Nat.le_trans (Nat.le_trans (Nat.le_trans zs449 K450.1) (Keep.of_wr W452).1) K453.1) (Keep.of_wr W455).1)
  obtain ⟨_, _, ⟨T457, L457, k457, n457⟩, -, X457, ⟨Lc457, hQ457, l457, y457, z457⟩, st457⟩ := Jvm.LawKit.callS X455 hx (y := (⟨"com/example/libxqtype/libxqtype/ExpressionLexerIntegerValuePinLaw", "at", "(IIIJCC)C"⟩ : MethodName)) hown (mvT hZ (own_W hw 32 rfl)) (mvT hZ (own_W hw 33 rfl)) (mvT hZ (own_W hw 4 rfl)) (mvT hZ (own_W hw 34 rfl)) (by decide) (own_back (W := 2) (own_chr l Z a0 hw [] (19 : Int32) pd n vv wz tm S N W 19 h455 n0 zs456 HK rfl (by decide)) hZ (own_W hw 34 rfl) (own_W hw 4 rfl) (by decide) (by decide)) (g := (mkF m 436 #[.val (.long q1), .second, .val (.int p2), .val (.int p3), .val (.int p4), .val (.int p5), .val (.int n), .val (.int pd), .val (.long vv), .second, .val (.int wz), .val (.int tm), rv bc, .unset] [(.int tm), (.int wz), (.long vv), (.int n), (.int pd), (.int (19 : Int32)), (.int (19 : Int32)), (.ref bc)])) rfl (by rw [hml]; rfl) (argsL := [(.int (19 : Int32)), (.int pd), (.int n), (.long vv), (.int wz), (.int tm)]) (rest := [(.int (19 : Int32)), (.ref bc)]) (lenOf own_pd15 rfl) rfl (by show 2 * 0 + _ ≤ _; exact Nat.le_of_eq rfl) (hb hby at_436) (fun _ _ => ⟨rfl, e455, (by decide : 21 + 1 ≤ _), (by decide : 400 + 19 ≤ _)⟩)
  dsimp only [Pt.U, Pt.locs, Pt.cells, Pt.slots] at X457 l457 y457 z457 st457 hQ457
  rw [l457, y457, z457] at X457
  obtain ⟨rfl, N457q, K457⟩ := hQ457
  have N457 := Fr.app N455 N457q
  have O457 := O455.keep K457 all0
  have A388x_e457 := A388x_e455.keep K457
  have V455_e457 := V455.keep K457 nin0
  refine own_to (fun t k => st457 t k) ?_
  show own_Fin _ _ _ _ _ _ (T457.setTop (mkF m 439 #[.val (.long q1), .second, .val (.int p2), .val (.int p3), .val (.int p4), .val (.int p5), .val (.int n), .val (.int pd), .val (.long vv), .second, .val (.int wz), .val (.int tm), rv bc, .unset] [(.int (own_ch (19 : Int32) pd n vv wz tm)), (.int (19 : Int32)), (.ref bc)]))
  obtain ⟨x19, ex19⟩ : ∃ z, z = (own_ch (19 : Int32) pd n vv wz tm) := ⟨_, rfl⟩
  rw [← ex19]
  have hB19 := own_chB HK (i := (19 : Int32)) (I := 19) rfl (by decide)
  rw [← ex19] at hB19
  show own_Fin _ _ _ _ _ _ (T457.setTop (mkF m 439 #[.val (.long q1), .second, .val (.int p2), .val (.int p3), .val (.int p4), .val (.int p5), .val (.int n), .val (.int pd), .val (.long vv), .second, .val (.int wz), .val (.int tm), rv bc, .unset] [(.int x19), (.int (19 : Int32)), (.ref bc)]))
  obtain ⟨cl458, Ar458, qa458, Sa458, Na458, Ha458, Ga458⟩ := id V455_e457
  have hin459 : ¬ ((19 : Int32) < 0 ∨ cl458.slots.size ≤ ((19 : Int32)).toNatClampNeg) := inb_of Sa458 ⟨by decide, by decide⟩
  obtain ⟨T459, h459, X459, e459, W459, st459⟩ := stC X457 hx hZ rfl Ar458 (j := (19 : Int32)) hin459 (g := (mkF m 439 #[.val (.long q1), .second, .val (.int p2), .val (.int p3), .val (.int p4), .val (.int p5), .val (.int n), .val (.int pd), .val (.long vv), .second, .val (.int wz), .val (.int tm), rv bc, .unset] [(.int x19), (.int (19 : Int32)), (.ref bc)])) rfl rfl (hb hby at_439)
  rw [own_nb hB19.1 hB19.2] at W459
  have N459 := Fr.snoc X459 N457 g_bc
  have O459 := O457.wr W459 g_bc
  have A388x_e459 := A388x_e457.wr W459
  have V459 : Arv Z h459 bc k388 .char (20 : Int32) [(.int x0), (.int x1), (.int x2), (.int x3), (.int x4), (.int x5), (.int x6), (.int x7), (.int x8), (.int x9), (.int x10), (.int x11), (.int x12), (.int x13), (.int x14), (.int x15), (.int x16), (.int x17), (.int x18), (.int x19)] (.int (0 : Int32)) := Arv.set Ar458 qa458 Sa458 Na458 Ha458 Ga458 (own_fx hB19.1 hB19.2) W459 19 rfl (Nat.le_of_ble_eq_true rfl)
  refine own_to (fun t k => st459 t k) ?_
  show own_Fin _ _ _ _ _ _ (T459.setTop (mkF m 440 #[.val (.long q1), .second, .val (.int p2), .val (.int p3), .val (.int p4), .val (.int p5), .val (.int n), .val (.int pd), .val (.long vv), .second, .val (.int wz), .val (.int tm), rv bc, .unset] []))
  obtain ⟨T460, h460, X460, e460, E460, A460, D460, U460, st460⟩ := newO X459 hx hZ hown (own_W hw 36 rfl) (own_W hw 37 rfl) (own_W hw 38 rfl) e459 (g := (mkF m 440 #[.val (.long q1), .second, .val (.int p2), .val (.int p3), .val (.int p4), .val (.int p5), .val (.int n), .val (.int pd), .val (.long vv), .second, .val (.int wz), .val (.int tm), rv bc, .unset] [])) rfl (hb hby at_440) (by decide) (by decide)
  obtain ⟨b460, q460⟩ : ∃ z, z = h459.size := ⟨_, rfl⟩
  rw [← q460] at A460 D460 U460 st460
  have ne_bc_b460 : bc ≠ b460 := Nat.ne_of_lt (Nat.lt_of_lt_of_le A388x_e459.lt (Nat.le_of_eq q460.symm))
  have g_b460 : n0 ≤ b460 := Nat.le_trans (Nat.le_trans (Nat.le_trans zs456 K457.1) (Keep.of_wr W459).1) (Nat.le_of_eq q460.symm)
  have O460 := O459.ext E460
  have A388x_e460 := A388x_e459.ext E460
  have V459_e460 := V459.ext E460
  have FnampersandSearchedFrom_460 : Fld Z h460 b460 "com/example/libxqtype/libxqtype/ExpressionLexer" "ampersandSearchedFrom" "I" (.int (0 : Int32)) := D460 (Or.inl (own_W hw 74 rfl)) (ty := .int) (by decide)
  have Fntext_460 : Fld Z h460 b460 "com/example/libxqtype/libxqtype/ExpressionLexer" "text" "Ljava/lang/String;" .null := D460 (Or.inr (own_W hw 76 rfl)) (ty := (.object "java/lang/String")) (by decide)
  have Fnchars_460 : Fld Z h460 b460 "com/example/libxqtype/libxqtype/ExpressionLexer" "chars" "[C" .null := D460 (Or.inr (own_W hw 95 rfl)) (ty := (.array .char)) (by decide)
  have Fnspelling_460 : Fld Z h460 b460 "com/example/libxqtype/libxqtype/ExpressionLexer" "spelling" "Ljava/lang/String;" .null := D460 (Or.inl (own_W hw 101 rfl)) (ty := (.object "java/lang/String")) (by decide)
  have Fnkeyword_460 : Fld Z h460 b460 "com/example/libxqtype/libxqtype/ExpressionLexer" "keyword" "Lcom/example/libxqtype/libxqtype/ExpressionLexer$Keyword;" .null := D460 (Or.inl (own_W hw 103 rfl)) (ty := (.object "com/example/libxqtype/libxqtype/ExpressionLexer$Keyword")) (by decide)
  have Fnstart_460 : Fld Z h460 b460 "com/example/libxqtype/libxqtype/ExpressionLexer" "start" "I" (.int (0 : Int32)) := D460 (Or.inl (own_W hw 109 rfl)) (ty := .int) (by decide)
  have Fnkind_460 : Fld Z h460 b460 "com/example/libxqtype/libxqtype/ExpressionLexer" "kind" "Lcom/example/libxqtype/libxqtype/ExpressionLexer$Kind;" .null := D460 (Or.inl (own_W hw 125 rfl)) (ty := (.object "com/example/libxqtype/libxqtype/ExpressionLexer$Kind")) (by decide)
  have Fnend_460 : Fld Z h460 b460 "com/example/libxqtype/libxqtype/ExpressionLexer" "end" "I" (.int (0 : Int32)) := D460 (Or.inl (own_W hw 131 rfl)) (ty := .int) (by decide)
  refine own_to (fun t k => st460 t k) ?_
  show own_Fin _ _ _ _ _ _ (T460.setTop (mkF m 443 #[.val (.long q1), .second, .val (.int p2), .val (.int p3), .val (.int p4), .val (.int p5), .val (.int n), .val (.int pd), .val (.long vv), .second, .val (.int wz), .val (.int tm), rv bc, .unset] [(.ref b460)]))
  refine own_to (fun t k => XS.dup X460.here hx rfl (hb hby at_443) rfl rfl k) ?_
  obtain ⟨T461, h461, X461, e461, E461, A461, D461, U461, st461⟩ := newO X460 hx hZ hown (own_W hw 39 rfl) (own_W hw 40 rfl) (own_W hw 41 rfl) e460 (g := (mkF m 444 #[.val (.long q1), .second, .val (.int p2), .val (.int p3), .val (.int p4), .val (.int p5), .val (.int n), .val (.int pd), .val (.long vv), .second, .val (.int wz), .val (.int tm), rv bc, .unset] [(.ref b460), (.ref b460)])) rfl (hb hby at_444) (by decide) (by decide)
  obtain ⟨b461, q461⟩ : ∃ z, z = h460.size := ⟨_, rfl⟩
  rw [← q461] at A461 D461 U461 st461
  have ne_bc_b461 : bc ≠ b461 := Nat.ne_of_lt (Nat.lt_of_lt_of_le A388x_e460.lt (Nat.le_of_eq q461.symm))
  have ne_b460_b461 : b460 ≠ b461 := Nat.ne_of_lt (Nat.lt_of_lt_of_le A460.lt (Nat.le_of_eq q461.symm))
  have g_b461 : n0 ≤ b461 := Nat.le_trans (Nat.le_trans (Nat.le_trans (Nat.le_trans zs456 K457.1) (Keep.of_wr W459).1) E460.1) (Nat.le_of_eq q461.symm)
  have O461 := O460.ext E461
  have A388x_e461 := A388x_e460.ext E461
  have V459_e461 := V459_e460.ext E461
  have A460_e461 := A460.ext E461
  have FnampersandSearchedFrom_460_e461 := FnampersandSearchedFrom_460.ext E461
  have Fntext_460_e461 := Fntext_460.ext E461
  have Fnchars_460_e461 := Fnchars_460.ext E461
  have Fnspelling_460_e461 := Fnspelling_460.ext E461
  have Fnkeyword_460_e461 := Fnkeyword_460.ext E461
  have Fnstart_460_e461 := Fnstart_460.ext E461
  have Fnkind_460_e461 := Fnkind_460.ext E461
  have Fnend_460_e461 := Fnend_460.ext E461
  have Fncoder_461 : Fld Z h461 b461 "java/lang/String" "coder" "B" (.int (0 : Int32)) := D461 (Or.inr (own_W hw 65 rfl)) (ty := .byte) (by decide)
  have Fnvalue_461 : Fld Z h461 b461 "java/lang/String" "value" "[B" .null := D461 (Or.inr (own_W hw 67 rfl)) (ty := (.array .byte)) (by decide)
  refine own_to (fun t k => st461 t k) ?_
  show own_Fin _ _ _ _ _ _ (T461.setTop (mkF m 447 #[.val (.long q1), .second, .val (.int p2), .val (.int p3), .val (.int p4), .val (.int p5), .val (.int n), .val (.int pd), .val (.long vv), .second, .val (.int wz), .val (.int tm), rv bc, .unset] [(.ref b461), (.ref b460), (.ref b460)]))
  refine own_to (fun t k => XS.dup X461.here hx rfl (hb hby at_447) rfl rfl k) ?_
  show own_Fin _ _ _ _ _ _ (T461.setTop (mkF m 448 #[.val (.long q1), .second, .val (.int p2), .val (.int p3), .val (.int p4), .val (.int p5), .val (.int n), .val (.int pd), .val (.long vv), .second, .val (.int wz), .val (.int tm), rv bc, .unset] [(.ref b461), (.ref b461), (.ref b460), (.ref b460)]))
  refine own_to (fun t k => XS.aload X461.here hx rfl (hb hby at_448) rfl rfl k) ?_
  have zs462 := (Nat.le_trans (Nat.le_trans (Nat.le_trans (Nat.le_trans zs456 K457.1) (Keep.of_wr W459).1) E460.1) E461.1)
  obtain ⟨_, _, ⟨T463, L463, k463, n463⟩, -, X463, ⟨Lc463, hQ463, l463, y463, z463⟩, st463⟩ := X461.specialBack hx (y := (⟨"java/lang/String", "<init>", "([C)V"⟩ : MethodName)) rfl hown (mvT hZ (own_W hw 42 rfl)) (mvT hZ (own_W hw 43 rfl)) (mvT hZ (own_W hw 44 rfl)) (by decide) (own_back (W := 3) (own_init l Z a0 hw [] cs b461 bc k388 x0 x1 x2 x3 x4 x5 x6 x7 x8 x9 x10 x11 x12 x13 x14 x15 x16 x17 x18 x19 h461 n0 zs462 O461 SS hcs A461 Fnvalue_461 Fncoder_461 g_b461 V459_e461 (Ne.symm ne_bc_b461) hB0.2 hB1.2 hB2.2 hB3.2 hB4.2 hB5.2 hB6.2 hB7.2 hB8.2 hB9.2 hB10.2 hB11.2 hB12.2 hB13.2 hB14.2 hB15.2 hB16.2 hB17.2 hB18.2 hB19.2) hZ (own_W hw 44 rfl) (own_W hw 41 rfl) (by decide) (by decide)) (g := (mkF m 450 #[.val (.long q1), .second, .val (.int p2), .val (.int p3), .val (.int p4), .val (.int p5), .val (.int n), .val (.int pd), .val (.long vv), .second, .val (.int wz), .val (.int tm), rv bc, .unset] [(.ref bc), (.ref b461), (.ref b461), (.ref b460), (.ref b460)])) rfl (by rw [hml]; rfl) (Steps.refl _) (a := b461) (argsL := [(.ref bc)]) (rest := [(.ref b461), (.ref b460), (.ref b460)]) (lenOf own_pd16 rfl) rfl (by show 2 * 0 + _ ≤ _; exact Nat.le_of_eq rfl) (hb hby at_450) (fun _ _ => ⟨rfl, e461, (by decide : 24 + 1 ≤ _), (by decide : 434 + 20 ≤ _)⟩)
  dsimp only [Pt.U, Pt.locs, Pt.cells, Pt.slots] at X463 l463 y463 z463 st463 hQ463
  rw [l463, y463, z463] at X463
  obtain ⟨d, k3, rfl, N463q, K463, sz_d0, Fv1, Fc0, V_d⟩ := hQ463
  have N463 := Fr.app N459 N463q
  have ne_bc_d : bc ≠ d := Nat.ne_of_lt (Nat.lt_of_lt_of_le A388x_e461.lt sz_d0)
  have ne_b460_d : b460 ≠ d := Nat.ne_of_lt (Nat.lt_of_lt_of_le A460_e461.lt sz_d0)
  have ne_b461_d : b461 ≠ d := Nat.ne_of_lt (Nat.lt_of_lt_of_le A461.lt sz_d0)
  have O463 := O461.keep K463 (allS g_b461 all0)
  have A388x_e463 := A388x_e461.keep K463
  have V459_e463 := V459_e461.keep K463 (ninS ne_bc_b461 nin0)
  have A460_e463 := A460_e461.keep K463
  have FnampersandSearchedFrom_460_e463 := FnampersandSearchedFrom_460_e461.keep K463 (ninS ne_b460_b461 nin0)
  have Fntext_460_e463 := Fntext_460_e461.keep K463 (ninS ne_b460_b461 nin0)
  have Fnchars_460_e463 := Fnchars_460_e461.keep K463 (ninS ne_b460_b461 nin0)
  have Fnspelling_460_e463 := Fnspelling_460_e461.keep K463 (ninS ne_b460_b461 nin0)
  have Fnkeyword_460_e463 := Fnkeyword_460_e461.keep K463 (ninS ne_b460_b461 nin0)
  have Fnstart_460_e463 := Fnstart_460_e461.keep K463 (ninS ne_b460_b461 nin0)
  have Fnkind_460_e463 := Fnkind_460_e461.keep K463 (ninS ne_b460_b461 nin0)
  have Fnend_460_e463 := Fnend_460_e461.keep K463 (ninS ne_b460_b461 nin0)
  have A461_e463 := A461.keep K463
  refine own_to (fun t k => st463.trans k) ?_
  show own_Fin _ _ _ _ _ _ (T463.setTop (mkF m 453 #[.val (.long q1), .second, .val (.int p2), .val (.int p3), .val (.int p4), .val (.int p5), .val (.int n), .val (.int pd), .val (.long vv), .second, .val (.int wz), .val (.int tm), rv bc, .unset] [(.ref b461), (.ref b460), (.ref b460)]))
  have hX : ([x0, x1, x2, x3, x4, x5, x6, x7, x8, x9, x10, x11, x12, x13, x14, x15, x16, x17, x18, x19] : List Int32) = own_xs pd n vv wz tm := by rw [ex0, ex1, ex2, ex3, ex4, ex5, ex6, ex7, ex8, ex9, ex10, ex11, ex12, ex13, ex14, ex15, ex16, ex17, ex18, ex19]; rfl
  obtain ⟨l1, l2, l3, l4, l5, l6, l7, l8, l9, l10, l11⟩ := own_pl HK
  have hm := own_main HK
  rw [← hX] at l1 l2 l3 l4 l5 l6 l7 l8 l9 l10 hm
  have c4 : pd + n < (20 : Int32) → own_at ([x0, x1, x2, x3, x4, x5, x6, x7, x8, x9, x10, x11, x12, x13, x14, x15, x16, x17, x18, x19] : List Int32) (pd + n) < (128 : Int32) ∧ ∃ b, cT.slots[(own_at ([x0, x1, x2, x3, x4, x5, x6, x7, x8, x9, x10, x11, x12, x13, x14, x15, x16, x17, x18, x19] : List Int32) (pd + n)).toNatClampNeg]? = some (.int b) ∧ ¬ b = (2 : Int32) := fun q => by rw [l10 q]; exact ⟨(own_tD htK).2.2.2.2, hTT _ htK⟩
  obtain ⟨_, _, ⟨T464, L464, k464, n464⟩, -, X464, ⟨Lc464, hQ464, l464, y464, z464⟩, st464⟩ := X463.specialBack hx (y := (⟨"com/example/libxqtype/libxqtype/ExpressionLexer", "<init>", "(Ljava/lang/String;)V"⟩ : MethodName)) rfl hown (mvT hZ (own_W hw 68 rfl)) (mvT hZ (own_W hw 69 rfl)) (mvT hZ (own_W hw 70 rfl)) (by decide) (own_back (W := 1) (own_lxi l Z a0 hw [] cs wI wT cT b460 b461 d k3 x0 x1 x2 x3 x4 x5 x6 x7 x8 x9 x10 x11 x12 x13 x14 x15 x16 x17 x18 x19 pd (pd + n) T463.heap n0 (Nat.le_trans zs462 K463.1) O463 SS hcs SI ST AT hT A460_e463 Fntext_460_e463 Fnchars_460_e463 Fnkind_460_e463 Fnstart_460_e463 Fnend_460_e463 Fnspelling_460_e463 Fnkeyword_460_e463 FnampersandSearchedFrom_460_e463 g_b460 A461_e463 Fv1 Fc0 V_d ne_b460_b461 ne_b460_d l1 l2 l3 l4 l5 l6 l7 l8 l9 c4 hB0.2 hB1.2 hB2.2 hB3.2 hB4.2 hB5.2 hB6.2 hB7.2 hB8.2 hB9.2 hB10.2 hB11.2 hB12.2 hB13.2 hB14.2 hB15.2 hB16.2 hB17.2 hB18.2 hB19.2 hB0.1 hB1.1 hB2.1 hB3.1 hB4.1 hB5.1 hB6.1 hB7.1 hB8.1 hB9.1 hB10.1 hB11.1 hB12.1 hB13.1 hB14.1 hB15.1 hB16.1 hB17.1 hB18.1 hB19.1) hZ (own_W hw 70 rfl) (own_W hw 38 rfl) (by decide) (by decide)) (g := (mkF m 453 #[.val (.long q1), .second, .val (.int p2), .val (.int p3), .val (.int p4), .val (.int p5), .val (.int n), .val (.int pd), .val (.long vv), .second, .val (.int wz), .val (.int tm), rv bc, .unset] [(.ref b461), (.ref b460), (.ref b460)])) rfl (by rw [hml]; rfl) (Steps.refl _) (a := b460) (argsL := [(.ref b461)]) (rest := [(.ref b460)]) (lenOf own_pd17 rfl) rfl (by show 2 * 0 + _ ≤ _; exact Nat.le_of_eq rfl) (hb hby at_453) (fun _ _ => ⟨rfl, rfl, (by decide : 25 + 1 ≤ _), (by decide : 454 + 20 ≤ _)⟩)
  dsimp only [Pt.U, Pt.locs, Pt.cells, Pt.slots] at X464 l464 y464 z464 st464 hQ464
  rw [l464, y464, z464] at X464
  obtain ⟨t, kt, rfl, N464q, K464, g_t, szt, Fc1, Fs1, Fe1, V_t⟩ := hQ464
  have N464 := Fr.app N463 N464q
  have ne_bc_t : bc ≠ t := Nat.ne_of_lt (Nat.lt_of_lt_of_le A388x_e463.lt szt)
  have ne_b460_t : b460 ≠ t := Nat.ne_of_lt (Nat.lt_of_lt_of_le A460_e463.lt szt)
  have ne_b461_t : b461 ≠ t := Nat.ne_of_lt (Nat.lt_of_lt_of_le A461_e463.lt szt)
  have ne_d_t : d ≠ t := Nat.ne_of_lt (Nat.lt_of_lt_of_le V_d.lt szt)
  have O464 := O463.keep K464 (allS g_b460 all0)
  have A388x_e464 := A388x_e463.keep K464
  have V459_e464 := V459_e463.keep K464 (ninS ne_bc_b460 nin0)
  have A460_e464 := A460_e463.keep K464
  have A461_e464 := A461_e463.keep K464
  have Fv1_e464 := Fv1.keep K464 (ninS (Ne.symm ne_b460_b461) nin0)
  have Fc0_e464 := Fc0.keep K464 (ninS (Ne.symm ne_b460_b461) nin0)
  have V_d_e464 := V_d.keep K464 (ninS (Ne.symm ne_b460_d) nin0)
  refine own_to (fun t k => st464.trans k) ?_
  show own_Fin _ _ _ _ _ _ (T464.setTop (mkF m 456 #[.val (.long q1), .second, .val (.int p2), .val (.int p3), .val (.int p4), .val (.int p5), .val (.int n), .val (.int pd), .val (.long vv), .second, .val (.int wz), .val (.int tm), rv bc, .unset] [(.ref b460)]))
  have hne0 : ¬ pd < 0 := own_b0 HK.1
  have hen : (pd + n).toInt ≤ 20 := by rw [← l11]; have := HK; unfold own_ok at this; omega
  refine own_to (fun t k => XS.astore X464.here hx rfl (hb hby at_456) rfl rfl (l' := #[.val (.long q1), .second, .val (.int p2), .val (.int p3), .val (.int p4), .val (.int p5), .val (.int n), .val (.int pd), .val (.long vv), .second, .val (.int wz), .val (.int tm), rv bc, rv b460]) rfl k) ?_
  show own_Fin _ _ _ _ _ _ (T464.setTop (mkF m 458 #[.val (.long q1), .second, .val (.int p2), .val (.int p3), .val (.int p4), .val (.int p5), .val (.int n), .val (.int pd), .val (.long vv), .second, .val (.int wz), .val (.int tm), rv bc, rv b460] []))
  refine own_to (fun t k => XS.aload X464.here hx rfl (hb hby at_458) rfl rfl k) ?_
  obtain ⟨cq465, kq465, q465a, q465b, q465c⟩ := isOf hZ rfl A460_e464
  obtain ⟨_, _, ⟨T465, L465, k465, n465⟩, -, X465, ⟨Lc465, hQ465, l465, y465, z465⟩, st465⟩ := X464.virtualBack hx (y := (⟨"com/example/libxqtype/libxqtype/ExpressionLexer", "integerValue", "()J"⟩ : MethodName)) (z := (⟨"com/example/libxqtype/libxqtype/ExpressionLexer", "integerValue", "()J"⟩ : MethodName)) hown (mvT hZ (own_W hw 141 rfl)) (mvT hZ (own_W hw 142 rfl)) (notFace_of_selects (args := #[]) (mvT hZ (own_W hw 144 rfl))) (mvT hZ (own_W hw 144 rfl)) (mvT hZ (own_W hw 143 rfl)) (by decide) (own_back (W := 0) (own_ivr l Z a0 hw [] b460 t kt ([x0, x1, x2, x3, x4, x5, x6, x7, x8, x9, x10, x11, x12, x13, x14, x15, x16, x17, x18, x19] : List Int32) pd (pd + n) N T464.heap n0 (Nat.le_trans (Nat.le_trans zs462 K463.1) K464.1) A460_e464 Fc1 V_t Fs1 Fe1 hne0 l11 hen) hZ (own_W hw 145 rfl) (own_W hw 38 rfl) (by decide) (by decide)) q465a q465c (g := (mkF m 460 #[.val (.long q1), .second, .val (.int p2), .val (.int p3), .val (.int p4), .val (.int p5), .val (.int n), .val (.int pd), .val (.long vv), .second, .val (.int wz), .val (.int tm), rv bc, rv b460] [(.ref b460)])) rfl (by rw [hml]; rfl) (Steps.refl _) (argsL := []) (rest := []) (lenOf own_pd18 rfl) rfl (by show 2 * 0 + _ ≤ _; exact Nat.le_of_eq rfl) (hb hby at_460) (fun _ _ => ⟨rfl, rfl, (by decide : 26 + 0 ≤ _), (by decide : 474 + 0 ≤ _)⟩)
  dsimp only [Pt.U, Pt.locs, Pt.cells, Pt.slots] at X465 l465 y465 z465 st465 hQ465
  rw [l465, y465, z465] at X465
  obtain ⟨rfl, N465q, eh465⟩ := hQ465
  have N465 := Fr.app N464 N465q
  refine own_to (fun t k => st465.trans k) ?_
  show own_Fin _ _ _ _ _ _ (T465.setTop (mkF m 463 #[.val (.long q1), .second, .val (.int p2), .val (.int p3), .val (.int p4), .val (.int p5), .val (.int n), .val (.int pd), .val (.long vv), .second, .val (.int wz), .val (.int tm), rv bc, rv b460] [(.long (own_iv ([x0, x1, x2, x3, x4, x5, x6, x7, x8, x9, x10, x11, x12, x13, x14, x15, x16, x17, x18, x19] : List Int32) N pd (0 : Int64)))]))
  rw [hm]
  show own_Fin _ _ _ _ _ _ (T465.setTop (mkF m 463 #[.val (.long q1), .second, .val (.int p2), .val (.int p3), .val (.int p4), .val (.int p5), .val (.int n), .val (.int pd), .val (.long vv), .second, .val (.int wz), .val (.int tm), rv bc, rv b460] [(.long vv)]))
  refine own_to (fun t k => XS.lload X465.here hx rfl (hb hby at_463) rfl k) ?_
  refine own_to (fun t k => XS.lcmp X465.here hx rfl (hb hby at_465) rfl k) ?_
  show own_Fin _ _ _ _ _ _ (T465.setTop (mkF m 466 #[.val (.long q1), .second, .val (.int p2), .val (.int p3), .val (.int p4), .val (.int p5), .val (.int n), .val (.int pd), .val (.long vv), .second, .val (.int wz), .val (.int tm), rv bc, rv b460] [(.int (lcmpW vv vv))]))
  refine own_to (fun t k => XS.ifNo X465.here hx rfl (hb hby at_466) rfl ((if0 _ _).trans (teq ((lw_eq _ _).mpr rfl)).2) k) ?_
  show own_Fin _ _ _ _ _ _ (T465.setTop (mkF m 469 #[.val (.long q1), .second, .val (.int p2), .val (.int p3), .val (.int p4), .val (.int p5), .val (.int n), .val (.int pd), .val (.long vv), .second, .val (.int wz), .val (.int tm), rv bc, rv b460] []))
  refine own_to (fun t k => XS.iconst X465.here hx rfl (hb hby at_469) k) ?_
  refine own_to (fun t k => XS.goto X465.here hx rfl (pc0 := 470) (pc' := 474) rfl (hb hby at_470) (by decide) (by decide) k) ?_
  show own_Fin _ _ _ _ _ _ (T465.setTop (mkF m 474 #[.val (.long q1), .second, .val (.int p2), .val (.int p3), .val (.int p4), .val (.int p5), .val (.int n), .val (.int pd), .val (.long vv), .second, .val (.int wz), .val (.int tm), rv bc, rv b460] [(.int (1 : Int32))]))
  refine own_retN X465 hx hlk (t := .boolean) hret (by simp) (hb hby at_474) (by decide) (by decide) ?_
  try rw [eh465]
  exact ⟨rfl, N465⟩
theorem own_sz {s : State} {args : Array Value} {t : Term} {a : Addr} {c : Cell} (ht : t.eval args s none [] s = some (.ref a)) (ha : s.arrayAt? a = some c) (h : (Term.length t).eval args s none [] s = some (.int 128)) : c.slots.size = 128 := by
  by_cases hl : c.slots.size < 2 ^ 31
  · rw [len_f ht ha hl] at h
    have e1 := Value.int.inj (Option.some.inj h)
    have e2 := len_toInt hl
    rw [e1, show (128 : Int32).toInt = 128 from by decide] at e2
    omega
  · simp [Term.eval, ht, ha, hl] at h
theorem own_lowp {s : State} {args : Array Value} {t : Term} {a : Addr} {c : Cell} {lim : Int32} {k : Int32} (ht : ∀ idx, t.eval args s none idx s = some (.ref a)) (A : Arr s s.heap a c .byte) (h : (Cond.all t (Cond.or (.le (.int lim) (.index 0)) (.eq (.elem t (.index 0)) (.int 0)))).value args s none s [] = some true) (hk0 : ¬ k < 0) (hk : k.toNatClampNeg < c.slots.size) (hl : decide (lim ≤ k) = false) : c.slots[k.toNatClampNeg]? = some (.int 0) := by
  have h1 := Cond.all_elim (ht []) (A.fin (Vm.Alike.refl _)) h k.toNatClampNeg hk
  rw [Cond.or_of_right ((Cond.le_ints (Term.int_eval lim) (idx_at hk0)).trans (congrArg some hl))] at h1
  exact (elem_f (ht _) (idx_at hk0) (A.fin (Vm.Alike.refl _)) hk0).symm.trans (eqv_i (Term.int_eval 0) h1)
theorem own_midp {s : State} {args : Array Value} {t : Term} {a : Addr} {c : Cell} {lo lim : Int32} {k : Int32} (ht : ∀ idx, t.eval args s none idx s = some (.ref a)) (A : Arr s s.heap a c .byte) (h : (Cond.all t (Cond.or (.lt (.index 0) (.int lo)) (Cond.or (.le (.int lim) (.index 0)) (.eq (.elem t (.index 0)) (.int 0))))).value args s none s [] = some true) (hk0 : ¬ k < 0) (hk : k.toNatClampNeg < c.slots.size) (hlo : decide (k < lo) = false) (hl : decide (lim ≤ k) = false) : c.slots[k.toNatClampNeg]? = some (.int 0) := by
  have h1 := Cond.all_elim (ht []) (A.fin (Vm.Alike.refl _)) h k.toNatClampNeg hk
  rw [Cond.or_of_right ((Cond.lt_ints (idx_at hk0) (Term.int_eval lo)).trans (congrArg some hlo)), Cond.or_of_right ((Cond.le_ints (Term.int_eval lim) (idx_at hk0)).trans (congrArg some hl))] at h1
  exact (elem_f (ht _) (idx_at hk0) (A.fin (Vm.Alike.refl _)) hk0).symm.trans (eqv_i (Term.int_eval 0) h1)
theorem own_elp {s : State} {args : Array Value} {t : Term} {a : Addr} {c : Cell} {k v : Int32} (ht : ∀ idx, t.eval args s none idx s = some (.ref a)) (A : Arr s s.heap a c .byte) (h : (Cond.eq (.elem t (.int k)) (.int v)).value args s none s [] = some true) (hk0 : ¬ k < 0) : c.slots[k.toNatClampNeg]? = some (.int v) :=
  (elem_f (ht _) (Term.int_eval k) (A.fin (Vm.Alike.refl _)) hk0).symm.trans (eqv_i (Term.int_eval v) h)
set_option maxRecDepth 65536 in
set_option maxHeartbeats 40000000 in
theorem comes_1 {Post : Tables → Env → Array Value → State → Outcome → State → Prop} (hpost : ∀ tb e args s v u, (limb_1_1.after args s (.returned v) u = true ∧ limb_1_2.after args s (.returned v) u = true ∧ True) → FrameEnd s (.returned v) u (Jvm.fieldLocs frame_1_writes args s ++ Jvm.arrayLocs frame_1_arrays args s ++ Jvm.staticLocs frame_1_statics s) 56 960 → Post tb e args s (.returned v) u) :
    ArmFor flags0 classFile x code maxLocals ret World_1 tables_1 room_1 Calls_1 rest_1 Pre_1 Post := by
  intro l hfl _ _ p e ha hc hk s m args below hf hA hF happ hP
  obtain ⟨hcalls, hrest, hpre⟩ := hP
  obtain ⟨-, -, -, hnamed, -, -, -, hat⟩ := (Spec.applies_iff hf).mp happ
  obtain ⟨hg, hn⟩ := and_e (Cond.before_iff.mp (show (Jvm.Cond.and given_1 narrow_1).before args s = true from hpre))
  obtain ⟨g1, g2⟩ := and_e hg
  obtain ⟨g3, g4⟩ := and_e g2
  obtain ⟨g5, g6⟩ := and_e g4
  obtain ⟨g7, g8⟩ := and_e g6
  obtain ⟨g9, g10⟩ := and_e g8
  obtain ⟨w0, w1, w2, w3, w4, rfl⟩ : ∃ w0 w1 w2 w3 w4 : Value, args = #[w0, w1, w2, w3, w4] := by
    have hs : args.size = 5 := by simpa [Cond.value, given_1] using g1
    obtain ⟨L⟩ := args
    match L, hs with
    | [w0, w1, w2, w3, w4], _ => exact ⟨w0, w1, w2, w3, w4, rfl⟩
  have hw := fun d (hd : d ∈ tables_1) => atoms_spec (ws := Jvm.Cond.code x code maxLocals ret :: tables_1) hat d (List.mem_cons_of_mem _ hd)
  have hfit : Fit s := fun {y c} hc i hi => by
    obtain ⟨ha, rfl⟩ := Array.getElem?_eq_some_iff.mp hc
    have q := List.all_eq_true.mp ((Array.all_eq_true_iff_forall_mem.mp hF) _ (Array.getElem_mem ha)) i (List.mem_range.mpr hi)
    simpa [Array.getElem?_eq_getElem hi] using q
  obtain ⟨hsets, hown0⟩ := atoms_of _ (rest_1_c_eq ▸ (show rest_1_c.before _ s = true from hrest))
  have hr0 := Cond.before_iff.mp hown0
  obtain ⟨i0, ei0⟩ := isL_v g3
  obtain rfl : w0 = (.long i0) := Option.some.inj ei0
  obtain ⟨i1, ei1⟩ := is_v g5
  obtain rfl : w1 = (.int i1) := Option.some.inj ei1
  obtain ⟨i2, ei2⟩ := is_v g7
  obtain rfl : w2 = (.int i2) := Option.some.inj ei2
  obtain ⟨i3, ei3⟩ := is_v g9
  obtain rfl : w3 = (.int i3) := Option.some.inj ei3
  obtain ⟨i4, ei4⟩ := is_v g10
  obtain rfl : w4 = (.int i4) := Option.some.inj ei4
  obtain ⟨cs, ecs⟩ := is_v (Cond.before_iff.mp (hsets _ (List.mem_of_getElem? (i := 1) rfl)))
  have hcs : ¬ cs = (0 : Int32) := fun q => by
    have h2 := not_v (Cond.before_iff.mp (hsets _ (List.mem_of_getElem? (i := 2) rfl)))
    subst q
    rw [eq_i ecs (Term.int_eval 0) rfl] at h2
    exact absurd h2 (by decide)
  obtain ⟨n1, n2⟩ := and_e (show (narrow_1).value _ s none s [] = some true from hn)
  obtain ⟨n3, n4⟩ := and_e n2
  obtain ⟨n5, n6⟩ := and_e n4
  obtain ⟨n7, n8⟩ := and_e n6
  obtain ⟨n9, n10⟩ := and_e n8
  obtain ⟨n11, n12⟩ := and_e n10
  obtain ⟨n13, n14⟩ := and_e n12
  obtain ⟨n15, n16⟩ := and_e n14
  obtain ⟨n17, n18⟩ := and_e n16
  obtain ⟨wI, eI⟩ := exa_v n1
  obtain ⟨wT, eT⟩ := arr_v n3
  obtain ⟨cT, AT⟩ := Arr.start eT n3
  have hT := own_sz eT (AT.fin (Vm.Alike.refl _)) (eqv_i (Term.int_eval 128) n5)
  have hTT : ∀ t : Int32, own_tK t → ∃ b, cT.slots[t.toNatClampNeg]? = some (.int b) ∧ ¬ b = (2 : Int32) := by
    intro t ht
    rcases ht with rfl | rfl | rfl | rfl | rfl | rfl | rfl | rfl
    · exact ⟨0, own_lowp (k := 32) (fun _ => eT) AT n7 (by decide) (by rw [hT]; decide) (by decide), by decide⟩
    · exact ⟨0, own_lowp (k := 41) (fun _ => eT) AT n7 (by decide) (by rw [hT]; decide) (by decide), by decide⟩
    · exact ⟨0, own_lowp (k := 44) (fun _ => eT) AT n7 (by decide) (by rw [hT]; decide) (by decide), by decide⟩
    · exact ⟨0, own_midp (k := 59) (fun _ => eT) AT n17 (by decide) (by rw [hT]; decide) (by decide) (by decide), by decide⟩
    · exact ⟨0, own_lowp (k := 43) (fun _ => eT) AT n7 (by decide) (by rw [hT]; decide) (by decide), by decide⟩
    · exact ⟨1, own_elp (k := 45) (fun _ => eT) AT n9 (by decide), by decide⟩
    · exact ⟨0, own_midp (k := 61) (fun _ => eT) AT n17 (by decide) (by rw [hT]; decide) (by decide) (by decide), by decide⟩
    · exact ⟨0, own_midp (k := 60) (fun _ => eT) AT n17 (by decide) (by rw [hT]; decide) (by decide) (by decide), by decide⟩
  obtain ⟨n, o, h1, h2, h3, _, L, rfl, ⟨rfl, N⟩, hq⟩ := own_rm0 l s _ hw tables_1 cs wI wT cT i0 i1 i2 i3 i4 s.heap s.heap.size (Nat.le_refl _) (Old.start s) (Sta.start ecs (Or.inl (hsets _ (List.mem_of_getElem? (i := 0) rfl)))) hcs (Sta.start eI (Or.inr ⟨(own_W hw 122 rfl), (own_W hw 123 rfl)⟩)) (Sta.start eT (Or.inr ⟨(own_W hw 106 rfl), (own_W hw 140 rfl)⟩)) AT hT hTT p e ha hc hk s m _ below hf ((Spec.applies_iff_loose hf).mp happ).1 ⟨rfl, State.Warmed39.refl s, rfl⟩ trivial
  refine ⟨n, _, h1, h2, h3, hpost _ _ _ _ _ _ ⟨Cond.after_iff.mpr rfl, Cond.after_iff.mpr (eq_i res_at (Term.int_eval (1)) rfl), trivial⟩ ⟨hq.1, hq.2.1, (hq.2.2.sift fun y hy => Or.inr (N y hy)).mono (by decide) (by decide)⟩⟩
theorem main_1_1 : Claimed_1_1 := comes_1 fun _ _ _ _ _ _ h hF => ⟨h.1, hF⟩
theorem main_1_2 : Claimed_1_2 := comes_1 fun _ _ _ _ _ _ h hF => ⟨h.2.1, hF⟩
end Jvm.Pilot.@@N@@
namespace Jvm.Pilot.@@N@@
open Jvm Jvm.ClassFile Sem Op Lib Jvm.Free Jvm.Stand Jvm.Pilot.@@N@@.Jvm.D
/-! MADE BY PROGRAM (witnessworld.py) out of the Statement's table words and the real class files: 25 classes; the members and pool entries that the words name. The judged class is class 1, her method 1. -/
namespace start1
open Jvm.ClassFile
def u (s : String) : CpInfo := .utf8 (stringToUtf16 s)
/-- a pool by its gaps: so many unusable entries, then the entry; so many at the end -/
def gap : Nat → List CpInfo → List CpInfo
  | 0, r => r
  | n + 1, r => .unusable :: gap n r
def poolList (es : List (Nat × CpInfo)) (last : Nat) : List CpInfo := es.foldr (fun e r => gap e.1 (e.2 :: r)) (gap last [])
def pool (es : List (Nat × CpInfo)) (last : Nat) : Array CpInfo := ⟨poolList es last⟩
def fileOf (pool : Array CpInfo) (this : Nat) (attrs : Array Attribute := #[]) (ms : Array MethodInfo := #[]) (fl : Nat := 33) (sup : Nat := 0) (ifs : Array Nat := #[]) (fds : Array FieldInfo := #[]) : ClassFile where
  minorVersion := 0
  majorVersion := 65
  constantPool := pool
  accessFlags := fl
  thisClass := this
  superClass := sup
  interfaces := ifs
  fields := fds
  methods := ms
  attributes := attrs
def plain (name : String) (sup : Option ClassId) : Class where
  name := name
  kind := .ordinary
  loader := none
  accessFlags := 33
  super := sup
  interfaces := #[]
  cf := none
  fields := #[]
  methods := #[]
  instanceTypes := #[]
  staticTypes := #[]
  resolved := #[]
  callSites := []
  init := .initialized
  statics := none
  mirror := none

def pool0 : Array CpInfo := pool [(5, u "<init>"), (0, u "()V"), (1, .class_ 10), (1, u "java/lang/Object")] 113

def k0c0 : Code := { maxStack := 0, maxLocals := 1, code := object_method_1_code, exceptionTable := #[], attributes := #[] }
def k0m0 : Method := { name := "<init>", desc := "()V", sig := { parameters := [], returnType := none }, accessFlags := 1, code := some k0c0 }
/-- java/lang/Object -/
def k0 : Class := { plain "java/lang/Object" none with
  accessFlags := 33
  interfaces := #[]
  cf := some (fileOf pool0 8 #[] #[{ accessFlags := 1, nameIndex := 5, descriptorIndex := 6, attributes := #[] }] 33 0 #[] #[])
  fields := #[]
  methods := #[k0m0]
  instanceTypes := #[]
  staticTypes := #[]
  resolved := Array.replicate 124 none
  statics := none }

def pool1 : Array CpInfo := pool [(2, .class_ 4), (1, u "java/lang/Object"), (0, u "<init>"), (0, u "()V"), (0, .integer 2147483647), (2, .long 9223372036854775807), (1, .methodref 13 14), (0, .class_ 15), (0, .nameAndType 16 17), (0, u "com/example/libxqtype/libxqtype/ExpressionLexerIntegerValuePinLaw"), (0, u "pow10"), (0, u "(I)J"), (0, .methodref 13 19), (0, .nameAndType 20 21), (0, u "whitespace"), (0, u "(I)C"), (0, .methodref 13 23), (0, .nameAndType 24 21), (0, u "terminator"), (0, .methodref 13 26), (0, .nameAndType 27 28), (0, u "at"), (0, u "(IIIJCC)C"), (0, .class_ 30), (0, u "com/example/libxqtype/libxqtype/ExpressionLexer"), (0, .class_ 32), (0, u "java/lang/String"), (0, .methodref 31 34), (0, .nameAndType 5 35), (0, u "([C)V"), (0, .methodref 29 37), (0, .nameAndType 5 38), (0, u "(Ljava/lang/String;)V"), (0, .methodref 29 40), (0, .nameAndType 41 42), (0, u "integerValue"), (0, u "()J"), (0, .long 48), (1, .long 10), (1, .long 100), (1, .long 1000), (1, .long 10000), (1, .long 100000), (1, .long 1000000), (1, .long 10000000), (1, .long 100000000), (1, .long 1000000000), (1, .long 10000000000), (1, .long 100000000000), (1, .long 1000000000000), (1, .long 10000000000000), (1, .long 100000000000000), (1, .long 1000000000000000), (1, .long 10000000000000000), (1, .long 100000000000000000), (1, .long 1000000000000000000), (3, u "law"), (0, u "(JIIII)Z")] 5

def k1m0 : Method := { name := "<init>", desc := "()V", sig := { parameters := [], returnType := none }, accessFlags := 1, code := none }
def k1c1 : Code := { maxStack := 9, maxLocals := 14, code := code, exceptionTable := #[], attributes := #[] }
def k1m1 : Method := { name := "law", desc := "(JIIII)Z", sig := { parameters := [.long, .int, .int, .int, .int], returnType := some .boolean }, accessFlags := 9, code := some k1c1 }
def k1c2 : Code := { maxStack := 6, maxLocals := 8, code := method_3_code, exceptionTable := #[], attributes := #[] }
def k1m2 : Method := { name := "at", desc := "(IIIJCC)C", sig := { parameters := [.int, .int, .int, .long, .char, .char], returnType := some .char }, accessFlags := 10, code := some k1c2 }
def k1c3 : Code := { maxStack := 5, maxLocals := 2, code := method_4_code, exceptionTable := #[], attributes := #[] }
def k1m3 : Method := { name := "pow10", desc := "(I)J", sig := { parameters := [.int], returnType := some .long }, accessFlags := 10, code := some k1c3 }
def k1c4 : Code := { maxStack := 2, maxLocals := 2, code := method_5_code, exceptionTable := #[], attributes := #[] }
def k1m4 : Method := { name := "whitespace", desc := "(I)C", sig := { parameters := [.int], returnType := some .char }, accessFlags := 10, code := some k1c4 }
def k1c5 : Code := { maxStack := 2, maxLocals := 2, code := method_6_code, exceptionTable := #[], attributes := #[] }
def k1m5 : Method := { name := "terminator", desc := "(I)C", sig := { parameters := [.int], returnType := some .char }, accessFlags := 10, code := some k1c5 }
/-- com/example/libxqtype/libxqtype/ExpressionLexerIntegerValuePinLaw -/
def k1 : Class := { plain "com/example/libxqtype/libxqtype/ExpressionLexerIntegerValuePinLaw" (some 0) with
  accessFlags := 49
  interfaces := #[]
  cf := some (fileOf pool1 13 #[] #[{ accessFlags := 1, nameIndex := 5, descriptorIndex := 6, attributes := #[] }, { accessFlags := 9, nameIndex := 83, descriptorIndex := 84, attributes := #[] }, { accessFlags := 10, nameIndex := 27, descriptorIndex := 28, attributes := #[] }, { accessFlags := 10, nameIndex := 16, descriptorIndex := 17, attributes := #[] }, { accessFlags := 10, nameIndex := 20, descriptorIndex := 21, attributes := #[] }, { accessFlags := 10, nameIndex := 24, descriptorIndex := 21, attributes := #[] }] 49 2 #[] #[])
  fields := #[]
  methods := #[k1m0, k1m1, k1m2, k1m3, k1m4, k1m5]
  instanceTypes := #[]
  staticTypes := #[]
  resolved := Array.replicate 90 none
  statics := none }

def pool2 : Array CpInfo := pool [(1, .methodref 2 3), (0, .class_ 4), (0, .nameAndType 5 6), (0, u "java/lang/Object"), (0, u "<init>"), (0, u "()V"), (2, .integer 2147483647), (0, .fieldref 11 12), (0, .class_ 13), (0, .nameAndType 14 15), (0, u "com/example/libxqtype/libxqtype/ExpressionLexer"), (0, u "ampersandSearchedFrom"), (0, u "I"), (0, .fieldref 11 17), (0, .nameAndType 18 19), (0, u "text"), (0, u "Ljava/lang/String;"), (0, .methodref 21 22), (0, .class_ 23), (0, .nameAndType 24 25), (0, u "java/lang/String"), (0, u "toCharArray"), (0, u "()[C"), (0, .fieldref 11 27), (0, .nameAndType 28 29), (0, u "chars"), (0, u "[C"), (0, .methodref 11 31), (0, .nameAndType 32 33), (0, u "scan"), (0, u "(I)V"), (0, .fieldref 11 35), (0, .nameAndType 36 37), (0, u "kind"), (0, u "Lcom/example/libxqtype/libxqtype/ExpressionLexer$Kind;"), (0, .fieldref 11 39), (0, .nameAndType 40 15), (0, u "start"), (0, .fieldref 11 42), (0, .nameAndType 43 15), (0, u "end"), (0, .long 10), (15, u "escaped"), (0, u "Z"), (2, u "(I)I"), (10, u "nameHash"), (6, .fieldref 11 83), (0, .nameAndType 84 19), (0, u "spelling"), (1, .class_ 87), (0, u "com/example/libxqtype/libxqtype/ExpressionLexer$Kind"), (0, .fieldref 11 89), (0, .nameAndType 90 91), (0, u "keyword"), (0, u "Lcom/example/libxqtype/libxqtype/ExpressionLexer$Keyword;"), (1, .class_ 95), (1, u "com/example/libxqtype/libxqtype/ExpressionLexer$Keyword"), (7, .methodref 104 105), (0, .class_ 106), (0, .nameAndType 107 108), (0, u "com/example/libxqtype/libxqtype/XmlCharacters"), (0, u "isWhitespace"), (0, u "(C)Z"), (0, .methodref 11 110), (0, .nameAndType 111 112), (0, u "charAt"), (0, u "(I)C"), (66, .methodref 104 180), (0, .nameAndType 181 108), (0, u "isDigit"), (0, .methodref 11 183), (0, .nameAndType 184 6), (0, u "numericLiteral"), (0, .methodref 11 186), (0, .nameAndType 187 188), (0, u "startsName"), (0, u "(I)Z"), (21, .methodref 11 211), (0, .nameAndType 212 64), (0, u "digitsEnd"), (0, .fieldref 86 214), (0, .nameAndType 215 37), (0, u "INTEGER_LITERAL"), (22, u "nextAmpersand"), (2, u "ENTITY_REFERENCES"), (0, u "[Lcom/example/libxqtype/libxqtype/ExpressionLexer$EntityReference;"), (1, .class_ 246), (1, u "com/example/libxqtype/libxqtype/ExpressionLexer$EntityReference"), (100, u "KEYWORD_LENGTH"), (2, u "KEYWORD_INITIALS"), (2, u "KEYWORDS"), (0, u "Lcom/example/libxqtype/libxqtype/NameTable;"), (8, .methodref 104 364), (0, .nameAndType 365 188), (0, u "isNameStartChar"), (38, u "(Ljava/lang/String;)V"), (3, u "integerValue"), (0, u "()J")] 46

def k2c0 : Code := { maxStack := 2, maxLocals := 2, code := prog_59_method_1_code, exceptionTable := #[], attributes := #[] }
def k2m0 : Method := { name := "<init>", desc := "(Ljava/lang/String;)V", sig := { parameters := [(.object "java/lang/String")], returnType := none }, accessFlags := 0, code := some k2c0 }
def k2c1 : Code := { maxStack := 4, maxLocals := 4, code := prog_59_method_5_code, exceptionTable := #[], attributes := #[] }
def k2m1 : Method := { name := "integerValue", desc := "()J", sig := { parameters := [], returnType := some .long }, accessFlags := 0, code := some k2c1 }
def k2c2 : Code := { maxStack := 3, maxLocals := 4, code := prog_59_method_15_code, exceptionTable := #[], attributes := #[] }
def k2m2 : Method := { name := "scan", desc := "(I)V", sig := { parameters := [.int], returnType := none }, accessFlags := 2, code := some k2c2 }
def k2c3 : Code := { maxStack := 3, maxLocals := 3, code := prog_59_method_20_code, exceptionTable := #[], attributes := #[] }
def k2m3 : Method := { name := "numericLiteral", desc := "()V", sig := { parameters := [], returnType := none }, accessFlags := 2, code := some k2c3 }
def k2c4 : Code := { maxStack := 2, maxLocals := 3, code := prog_59_method_29_code, exceptionTable := #[], attributes := #[] }
def k2m4 : Method := { name := "startsName", desc := "(I)Z", sig := { parameters := [.int], returnType := some .boolean }, accessFlags := 2, code := some k2c4 }
def k2c5 : Code := { maxStack := 2, maxLocals := 4, code := prog_59_method_31_code, exceptionTable := #[], attributes := #[] }
def k2m5 : Method := { name := "digitsEnd", desc := "(I)I", sig := { parameters := [.int], returnType := some .int }, accessFlags := 2, code := some k2c5 }
def k2c6 : Code := { maxStack := 2, maxLocals := 2, code := prog_59_method_32_code, exceptionTable := #[], attributes := #[] }
def k2m6 : Method := { name := "charAt", desc := "(I)C", sig := { parameters := [.int], returnType := some .char }, accessFlags := 2, code := some k2c6 }
/-- com/example/libxqtype/libxqtype/ExpressionLexer -/
def k2 : Class := { plain "com/example/libxqtype/libxqtype/ExpressionLexer" (some 0) with
  accessFlags := 48
  interfaces := #[]
  cf := some (fileOf pool2 11 #[.nestMembers #[244, 93, 86]] #[{ accessFlags := 0, nameIndex := 5, descriptorIndex := 404, attributes := #[] }, { accessFlags := 0, nameIndex := 408, descriptorIndex := 409, attributes := #[] }, { accessFlags := 2, nameIndex := 32, descriptorIndex := 33, attributes := #[] }, { accessFlags := 2, nameIndex := 184, descriptorIndex := 6, attributes := #[] }, { accessFlags := 2, nameIndex := 187, descriptorIndex := 188, attributes := #[] }, { accessFlags := 2, nameIndex := 212, descriptorIndex := 64, attributes := #[] }, { accessFlags := 2, nameIndex := 111, descriptorIndex := 112, attributes := #[] }] 48 2 #[] #[{ accessFlags := 26, nameIndex := 353, descriptorIndex := 354, attributes := #[] }, { accessFlags := 26, nameIndex := 350, descriptorIndex := 15, attributes := #[] }, { accessFlags := 26, nameIndex := 347, descriptorIndex := 15, attributes := #[] }, { accessFlags := 26, nameIndex := 241, descriptorIndex := 242, attributes := #[] }, { accessFlags := 18, nameIndex := 18, descriptorIndex := 19, attributes := #[] }, { accessFlags := 18, nameIndex := 28, descriptorIndex := 29, attributes := #[] }, { accessFlags := 2, nameIndex := 36, descriptorIndex := 37, attributes := #[] }, { accessFlags := 2, nameIndex := 40, descriptorIndex := 15, attributes := #[] }, { accessFlags := 2, nameIndex := 43, descriptorIndex := 15, attributes := #[] }, { accessFlags := 2, nameIndex := 84, descriptorIndex := 19, attributes := #[] }, { accessFlags := 2, nameIndex := 90, descriptorIndex := 91, attributes := #[] }, { accessFlags := 2, nameIndex := 75, descriptorIndex := 15, attributes := #[] }, { accessFlags := 2, nameIndex := 60, descriptorIndex := 61, attributes := #[] }, { accessFlags := 2, nameIndex := 238, descriptorIndex := 15, attributes := #[] }, { accessFlags := 2, nameIndex := 14, descriptorIndex := 15, attributes := #[] }])
  fields := #[{ name := "KEYWORDS", type := (.object "com/example/libxqtype/libxqtype/NameTable"), accessFlags := 26, slot := 0, constantValue := 0 }, { name := "KEYWORD_INITIALS", type := .int, accessFlags := 26, slot := 1, constantValue := 0 }, { name := "KEYWORD_LENGTH", type := .int, accessFlags := 26, slot := 2, constantValue := 0 }, { name := "ENTITY_REFERENCES", type := (.array (.object "com/example/libxqtype/libxqtype/ExpressionLexer$EntityReference")), accessFlags := 26, slot := 3, constantValue := 0 }, { name := "text", type := (.object "java/lang/String"), accessFlags := 18, slot := 0, constantValue := 0 }, { name := "chars", type := (.array .char), accessFlags := 18, slot := 1, constantValue := 0 }, { name := "kind", type := (.object "com/example/libxqtype/libxqtype/ExpressionLexer$Kind"), accessFlags := 2, slot := 2, constantValue := 0 }, { name := "start", type := .int, accessFlags := 2, slot := 3, constantValue := 0 }, { name := "end", type := .int, accessFlags := 2, slot := 4, constantValue := 0 }, { name := "spelling", type := (.object "java/lang/String"), accessFlags := 2, slot := 5, constantValue := 0 }, { name := "keyword", type := (.object "com/example/libxqtype/libxqtype/ExpressionLexer$Keyword"), accessFlags := 2, slot := 6, constantValue := 0 }, { name := "nameHash", type := .int, accessFlags := 2, slot := 7, constantValue := 0 }, { name := "escaped", type := .boolean, accessFlags := 2, slot := 8, constantValue := 0 }, { name := "nextAmpersand", type := .int, accessFlags := 2, slot := 9, constantValue := 0 }, { name := "ampersandSearchedFrom", type := .int, accessFlags := 2, slot := 10, constantValue := 0 }]
  methods := #[k2m0, k2m1, k2m2, k2m3, k2m4, k2m5, k2m6]
  instanceTypes := #[(.object "java/lang/String"), (.array .char), (.object "com/example/libxqtype/libxqtype/ExpressionLexer$Kind"), .int, .int, (.object "java/lang/String"), (.object "com/example/libxqtype/libxqtype/ExpressionLexer$Keyword"), .int, .boolean, .int, .int]
  staticTypes := #[(.object "com/example/libxqtype/libxqtype/NameTable"), .int, .int, (.array (.object "com/example/libxqtype/libxqtype/ExpressionLexer$EntityReference"))]
  resolved := Array.replicate 456 none
  statics := none }

def pool3 : Array CpInfo := pool [(1, .class_ 2), (0, u "java/io/Serializable"), (0, .class_ 4), (0, u "java/lang/Object")] 2

/-- java/io/Serializable -/
def k3 : Class := { plain "java/io/Serializable" (some 0) with
  accessFlags := 1537
  interfaces := #[]
  cf := some (fileOf pool3 1 #[] #[] 1537 3 #[] #[])
  fields := #[]
  methods := #[]
  instanceTypes := #[]
  staticTypes := #[]
  resolved := Array.replicate 7 none
  statics := none }

def pool4 : Array CpInfo := pool [(1, .class_ 2), (0, u "java/lang/Comparable"), (0, .class_ 4), (0, u "java/lang/Object")] 7

/-- java/lang/Comparable -/
def k4 : Class := { plain "java/lang/Comparable" (some 0) with
  accessFlags := 1537
  interfaces := #[]
  cf := some (fileOf pool4 1 #[] #[] 1537 3 #[] #[])
  fields := #[]
  methods := #[]
  instanceTypes := #[]
  staticTypes := #[]
  resolved := Array.replicate 12 none
  statics := none }

def pool5 : Array CpInfo := pool [(2, .class_ 4), (1, u "java/lang/CharSequence"), (42, .class_ 48), (0, u "java/lang/CharSequence$1CodePointIterator"), (10, .class_ 60), (0, u "java/lang/CharSequence$1CharIterator"), (5, .class_ 67), (0, u "java/lang/Object")] 63

/-- java/lang/CharSequence -/
def k5 : Class := { plain "java/lang/CharSequence" (some 0) with
  accessFlags := 1537
  interfaces := #[]
  cf := some (fileOf pool5 2 #[.nestMembers #[47, 59]] #[] 1537 66 #[] #[])
  fields := #[]
  methods := #[]
  instanceTypes := #[]
  staticTypes := #[]
  resolved := Array.replicate 131 none
  statics := none }

def pool6 : Array CpInfo := pool [(1, .class_ 2), (0, u "java/lang/constant/Constable"), (0, .class_ 4), (0, u "java/lang/Object")] 6

/-- java/lang/constant/Constable -/
def k6 : Class := { plain "java/lang/constant/Constable" (some 0) with
  accessFlags := 1537
  interfaces := #[]
  cf := some (fileOf pool6 1 #[] #[] 1537 3 #[] #[])
  fields := #[]
  methods := #[]
  instanceTypes := #[]
  staticTypes := #[]
  resolved := Array.replicate 11 none
  statics := none }

def pool7 : Array CpInfo := pool [(1, .class_ 2), (0, u "java/lang/constant/ConstantDesc"), (0, .class_ 4), (0, u "java/lang/Object")] 32

/-- java/lang/constant/ConstantDesc -/
def k7 : Class := { plain "java/lang/constant/ConstantDesc" (some 0) with
  accessFlags := 1537
  interfaces := #[]
  cf := some (fileOf pool7 1 #[] #[] 1537 3 #[] #[])
  fields := #[]
  methods := #[]
  instanceTypes := #[]
  staticTypes := #[]
  resolved := Array.replicate 37 none
  statics := none }

def pool8 : Array CpInfo := pool [(1, .methodref 2 3), (0, .class_ 4), (0, .nameAndType 5 6), (0, u "java/lang/Object"), (0, u "<init>"), (0, u "()V"), (2, .fieldref 10 11), (0, .class_ 12), (0, .nameAndType 13 14), (0, u "java/lang/String"), (0, u "value"), (0, u "[B"), (0, .fieldref 10 16), (0, .nameAndType 17 18), (0, u "coder"), (0, u "B"), (2, u "hash"), (0, u "I"), (2, u "hashIsZero"), (0, u "Z"), (0, .methodref 10 28), (0, .nameAndType 5 29), (0, u "([CIILjava/lang/Void;)V"), (8, .fieldref 10 39), (0, .nameAndType 40 26), (0, u "COMPACT_STRINGS"), (1, .class_ 44), (1, u "java/lang/StringUTF16"), (0, u "compress"), (1, .methodref 42 48), (0, .nameAndType 49 50), (0, u "coderFromArrayLen"), (0, u "([BI)B"), (56, .class_ 109), (1, u "java/lang/StringLatin1"), (32, u "()Z"), (34, .methodref 42 178), (0, .nameAndType 45 179), (0, u "([CII)[B"), (119, .methodref 107 300), (0, .nameAndType 301 302), (0, u "toChars"), (0, u "([B)[C"), (189, .methodref 10 493), (0, .nameAndType 494 142), (0, u "isLatin1"), (80, .class_ 576), (0, u "java/lang/CharSequence"), (22, u "CASE_INSENSITIVE_ORDER"), (0, u "Ljava/util/Comparator;"), (354, u "toCharArray"), (0, u "()[C"), (53, u "([C)V"), (90, u "serialPersistentFields"), (0, u "[Ljava/io/ObjectStreamField;"), (0, .class_ 1104), (0, u "java/lang/String$CaseInsensitiveComparator"), (1, .class_ 1107), (0, u "java/io/Serializable"), (0, .class_ 1109), (0, u "java/lang/Comparable"), (0, .class_ 1111), (0, u "java/lang/constant/Constable"), (0, .class_ 1113), (0, u "java/lang/constant/ConstantDesc"), (2, u "serialVersionUID"), (0, u "J"), (3, u "REPL"), (0, u "C"), (2, u "LATIN1"), (1, u "UTF16")] 323

def k8m0 : Method := { name := "<init>", desc := "()V", sig := { parameters := [], returnType := none }, accessFlags := 1, code := none }
def k8c1 : Code := { maxStack := 5, maxLocals := 2, code := jdk_42_method_3_code, exceptionTable := #[], attributes := #[] }
def k8m1 : Method := { name := "<init>", desc := "([C)V", sig := { parameters := [(.array .char)], returnType := none }, accessFlags := 1, code := some k8c1 }
def k8c2 : Code := { maxStack := 1, maxLocals := 1, code := jdk_42_method_129_code, exceptionTable := #[], attributes := #[] }
def k8m2 : Method := { name := "toCharArray", desc := "()[C", sig := { parameters := [], returnType := some (.array .char) }, accessFlags := 1, code := some k8c2 }
def k8c3 : Code := { maxStack := 4, maxLocals := 6, code := jdk_42_method_149_code, exceptionTable := #[], attributes := #[] }
def k8m3 : Method := { name := "<init>", desc := "([CIILjava/lang/Void;)V", sig := { parameters := [(.array .char), .int, .int, (.object "java/lang/Void")], returnType := none }, accessFlags := 2, code := some k8c3 }
def k8c4 : Code := { maxStack := 1, maxLocals := 1, code := jdk_42_method_154_code, exceptionTable := #[], attributes := #[] }
def k8m4 : Method := { name := "isLatin1", desc := "()Z", sig := { parameters := [], returnType := some .boolean }, accessFlags := 0, code := some k8c4 }
/-- java/lang/String -/
def k8 : Class := { plain "java/lang/String" (some 0) with
  accessFlags := 49
  interfaces := #[3, 4, 5, 6, 7]
  cf := some (fileOf pool8 10 #[.nestMembers #[1103]] #[{ accessFlags := 1, nameIndex := 5, descriptorIndex := 6, attributes := #[] }, { accessFlags := 1, nameIndex := 5, descriptorIndex := 1010, attributes := #[] }, { accessFlags := 1, nameIndex := 955, descriptorIndex := 956, attributes := #[] }, { accessFlags := 2, nameIndex := 5, descriptorIndex := 29, attributes := #[] }, { accessFlags := 0, nameIndex := 494, descriptorIndex := 142, attributes := #[] }] 49 2 #[1106, 1108, 575, 1110, 1112] #[{ accessFlags := 18, nameIndex := 13, descriptorIndex := 14, attributes := #[] }, { accessFlags := 18, nameIndex := 17, descriptorIndex := 18, attributes := #[] }, { accessFlags := 2, nameIndex := 21, descriptorIndex := 22, attributes := #[] }, { accessFlags := 2, nameIndex := 25, descriptorIndex := 26, attributes := #[] }, { accessFlags := 26, nameIndex := 1116, descriptorIndex := 1117, attributes := #[] }, { accessFlags := 24, nameIndex := 40, descriptorIndex := 26, attributes := #[] }, { accessFlags := 26, nameIndex := 1101, descriptorIndex := 1102, attributes := #[] }, { accessFlags := 26, nameIndex := 1121, descriptorIndex := 1122, attributes := #[] }, { accessFlags := 25, nameIndex := 599, descriptorIndex := 600, attributes := #[] }, { accessFlags := 24, nameIndex := 1125, descriptorIndex := 18, attributes := #[] }, { accessFlags := 24, nameIndex := 1127, descriptorIndex := 18, attributes := #[] }])
  fields := #[{ name := "value", type := (.array .byte), accessFlags := 18, slot := 0, constantValue := 0 }, { name := "coder", type := .byte, accessFlags := 18, slot := 1, constantValue := 0 }, { name := "hash", type := .int, accessFlags := 2, slot := 2, constantValue := 0 }, { name := "hashIsZero", type := .boolean, accessFlags := 2, slot := 3, constantValue := 0 }, { name := "serialVersionUID", type := .long, accessFlags := 26, slot := 0, constantValue := 0 }, { name := "COMPACT_STRINGS", type := .boolean, accessFlags := 24, slot := 1, constantValue := 0 }, { name := "serialPersistentFields", type := (.array (.object "java/io/ObjectStreamField")), accessFlags := 26, slot := 2, constantValue := 0 }, { name := "REPL", type := .char, accessFlags := 26, slot := 3, constantValue := 0 }, { name := "CASE_INSENSITIVE_ORDER", type := (.object "java/util/Comparator"), accessFlags := 25, slot := 4, constantValue := 0 }, { name := "LATIN1", type := .byte, accessFlags := 24, slot := 5, constantValue := 0 }, { name := "UTF16", type := .byte, accessFlags := 24, slot := 6, constantValue := 0 }]
  methods := #[k8m0, k8m1, k8m2, k8m3, k8m4]
  instanceTypes := #[(.array .byte), .byte, .int, .boolean]
  staticTypes := #[.long, .boolean, (.array (.object "java/io/ObjectStreamField")), .char, (.object "java/util/Comparator"), .byte, .byte]
  resolved := Array.replicate 1451 none
  statics := some 0 }

def pool9 : Array CpInfo := pool [(6, .class_ 8), (1, u "java/lang/Object"), (0, u "<init>"), (0, u "()V"), (1, .class_ 14), (1, u "java/lang/StringUTF16"), (31, u "$assertionsDisabled"), (0, u "Z"), (13, u "HI_BYTE_SHIFT"), (0, u "I"), (2, u "LO_BYTE_SHIFT"), (49, .methodref 12 116), (0, .nameAndType 117 118), (0, u "compress"), (0, u "([CI[BII)I"), (3, u "([CII)[B"), (138, u "coderFromArrayLen"), (0, u "([BI)B"), (106, .class_ 371), (1, u "java/lang/StringUTF16$LinesSpliterator"), (58, u "MAX_LENGTH"), (196, .class_ 628), (0, u "java/lang/StringUTF16$CodePointsSpliterator"), (0, .class_ 630), (0, u "java/lang/StringUTF16$CharsSpliterator")] 4

def k9m0 : Method := { name := "<init>", desc := "()V", sig := { parameters := [], returnType := none }, accessFlags := 0, code := none }
def k9c1 : Code := { maxStack := 2, maxLocals := 2, code := jdk_52_method_15_code, exceptionTable := #[], attributes := #[] }
def k9m1 : Method := { name := "coderFromArrayLen", desc := "([BI)B", sig := { parameters := [(.array .byte), .int], returnType := some .byte }, accessFlags := 8, code := some k9c1 }
def k9c2 : Code := { maxStack := 5, maxLocals := 6, code := jdk_52_method_16_code, exceptionTable := #[], attributes := #[] }
def k9m2 : Method := { name := "compress", desc := "([CII)[B", sig := { parameters := [(.array .char), .int, .int], returnType := some (.array .byte) }, accessFlags := 9, code := some k9c2 }
def k9c3 : Code := { maxStack := 3, maxLocals := 7, code := jdk_52_method_21_code, exceptionTable := #[], attributes := #[] }
def k9m3 : Method := { name := "compress", desc := "([CI[BII)I", sig := { parameters := [(.array .char), .int, (.array .byte), .int, .int], returnType := some .int }, accessFlags := 9, code := some k9c3 }
/-- java/lang/StringUTF16 -/
def k9 : Class := { plain "java/lang/StringUTF16" (some 0) with
  accessFlags := 48
  interfaces := #[]
  cf := some (fileOf pool9 12 #[.nestMembers #[627, 629, 369]] #[{ accessFlags := 0, nameIndex := 9, descriptorIndex := 10, attributes := #[] }, { accessFlags := 8, nameIndex := 261, descriptorIndex := 262, attributes := #[] }, { accessFlags := 9, nameIndex := 117, descriptorIndex := 122, attributes := #[] }, { accessFlags := 9, nameIndex := 117, descriptorIndex := 118, attributes := #[] }] 48 6 #[] #[{ accessFlags := 26, nameIndex := 61, descriptorIndex := 62, attributes := #[] }, { accessFlags := 26, nameIndex := 65, descriptorIndex := 62, attributes := #[] }, { accessFlags := 24, nameIndex := 430, descriptorIndex := 62, attributes := #[] }, { accessFlags := 4120, nameIndex := 46, descriptorIndex := 47, attributes := #[] }])
  fields := #[{ name := "HI_BYTE_SHIFT", type := .int, accessFlags := 26, slot := 0, constantValue := 0 }, { name := "LO_BYTE_SHIFT", type := .int, accessFlags := 26, slot := 1, constantValue := 0 }, { name := "MAX_LENGTH", type := .int, accessFlags := 24, slot := 2, constantValue := 0 }, { name := "$assertionsDisabled", type := .boolean, accessFlags := 4120, slot := 3, constantValue := 0 }]
  methods := #[k9m0, k9m1, k9m2, k9m3]
  instanceTypes := #[]
  staticTypes := #[.int, .int, .int, .boolean]
  resolved := Array.replicate 635 none
  statics := none }

def pool10 : Array CpInfo := pool [(4, .class_ 6), (1, u "java/lang/Object"), (0, u "<init>"), (0, u "()V"), (4, .methodref 14 15), (0, .class_ 16), (0, .nameAndType 17 18), (0, u "java/lang/StringLatin1"), (0, u "inflate"), (0, u "([BI[CII)V"), (102, u "$assertionsDisabled"), (0, u "Z"), (69, u "toChars"), (28, .class_ 223), (1, u "java/lang/StringLatin1$LinesSpliterator"), (44, u "([B)[C"), (121, .class_ 391), (0, u "java/lang/StringLatin1$CharsSpliterator")] 3

def k10m0 : Method := { name := "<init>", desc := "()V", sig := { parameters := [], returnType := none }, accessFlags := 0, code := none }
def k10c1 : Code := { maxStack := 5, maxLocals := 2, code := jdk_43_method_9_code, exceptionTable := #[], attributes := #[] }
def k10m1 : Method := { name := "toChars", desc := "([B)[C", sig := { parameters := [(.array .byte)], returnType := some (.array .char) }, accessFlags := 9, code := some k10c1 }
def k10c2 : Code := { maxStack := 4, maxLocals := 6, code := jdk_43_method_49_code, exceptionTable := #[], attributes := #[] }
def k10m2 : Method := { name := "inflate", desc := "([BI[CII)V", sig := { parameters := [(.array .byte), .int, (.array .char), .int, .int], returnType := none }, accessFlags := 9, code := some k10c2 }
/-- java/lang/StringLatin1 -/
def k10 : Class := { plain "java/lang/StringLatin1" (some 0) with
  accessFlags := 48
  interfaces := #[]
  cf := some (fileOf pool10 14 #[.nestMembers #[390, 221]] #[{ accessFlags := 0, nameIndex := 7, descriptorIndex := 8, attributes := #[] }, { accessFlags := 9, nameIndex := 192, descriptorIndex := 268, attributes := #[] }, { accessFlags := 9, nameIndex := 17, descriptorIndex := 18, attributes := #[] }] 48 4 #[] #[{ accessFlags := 4120, nameIndex := 121, descriptorIndex := 122, attributes := #[] }])
  fields := #[{ name := "$assertionsDisabled", type := .boolean, accessFlags := 4120, slot := 0, constantValue := 0 }]
  methods := #[k10m0, k10m1, k10m2]
  instanceTypes := #[]
  staticTypes := #[.boolean]
  resolved := Array.replicate 395 none
  statics := none }

def pool11 : Array CpInfo := pool [(2, .class_ 4), (1, u "java/lang/Object"), (0, u "<init>"), (0, u "()V"), (1, .class_ 10), (1, u "com/example/libxqtype/libxqtype/XmlCharacters"), (0, u "isDigit"), (0, u "(C)Z"), (12, u "isWhitespace"), (26, .fieldref 8 53), (0, .nameAndType 54 55), (0, u "ASCII_NAME_CHARACTERS"), (0, u "[B"), (3, u "(I)Z"), (31, u "isNameStartChar"), (6, u "NAME"), (0, u "B"), (2, u "NAME_START")] 18

def k11m0 : Method := { name := "<init>", desc := "()V", sig := { parameters := [], returnType := none }, accessFlags := 2, code := none }
def k11c1 : Code := { maxStack := 2, maxLocals := 1, code := prog_147_method_2_code, exceptionTable := #[], attributes := #[] }
def k11m1 : Method := { name := "isDigit", desc := "(C)Z", sig := { parameters := [.char], returnType := some .boolean }, accessFlags := 8, code := some k11c1 }
def k11c2 : Code := { maxStack := 2, maxLocals := 1, code := prog_147_method_4_code, exceptionTable := #[], attributes := #[] }
def k11m2 : Method := { name := "isWhitespace", desc := "(C)Z", sig := { parameters := [.char], returnType := some .boolean }, accessFlags := 8, code := some k11c2 }
def k11c3 : Code := { maxStack := 2, maxLocals := 1, code := prog_147_method_8_code, exceptionTable := #[], attributes := #[] }
def k11m3 : Method := { name := "isNameStartChar", desc := "(I)Z", sig := { parameters := [.int], returnType := some .boolean }, accessFlags := 8, code := some k11c3 }
/-- com/example/libxqtype/libxqtype/XmlCharacters -/
def k11 : Class := { plain "com/example/libxqtype/libxqtype/XmlCharacters" (some 0) with
  accessFlags := 48
  interfaces := #[]
  cf := some (fileOf pool11 8 #[] #[{ accessFlags := 2, nameIndex := 5, descriptorIndex := 6, attributes := #[] }, { accessFlags := 8, nameIndex := 11, descriptorIndex := 12, attributes := #[] }, { accessFlags := 8, nameIndex := 25, descriptorIndex := 12, attributes := #[] }, { accessFlags := 8, nameIndex := 91, descriptorIndex := 59, attributes := #[] }] 48 2 #[] #[{ accessFlags := 26, nameIndex := 98, descriptorIndex := 99, attributes := #[] }, { accessFlags := 26, nameIndex := 102, descriptorIndex := 99, attributes := #[] }, { accessFlags := 26, nameIndex := 54, descriptorIndex := 55, attributes := #[] }])
  fields := #[{ name := "NAME", type := .byte, accessFlags := 26, slot := 0, constantValue := 0 }, { name := "NAME_START", type := .byte, accessFlags := 26, slot := 1, constantValue := 0 }, { name := "ASCII_NAME_CHARACTERS", type := (.array .byte), accessFlags := 26, slot := 2, constantValue := 0 }]
  methods := #[k11m0, k11m1, k11m2, k11m3]
  instanceTypes := #[]
  staticTypes := #[.byte, .byte, (.array .byte)]
  resolved := Array.replicate 121 none
  statics := some 1 }

def pool12 : Array CpInfo := pool [(2, .class_ 4), (1, u "java/lang/Enum"), (0, u "name"), (0, u "Ljava/lang/String;"), (2, u "ordinal"), (0, u "I"), (1, .class_ 14), (1, u "java/lang/Object"), (4, u "hash"), (86, .class_ 108), (1, u "java/lang/Enum$EnumDesc"), (2, .class_ 112), (0, u "java/lang/constant/Constable"), (0, .class_ 114), (0, u "java/lang/Comparable"), (0, .class_ 116), (0, u "java/io/Serializable")] 87

/-- java/lang/Enum -/
def k12 : Class := { plain "java/lang/Enum" (some 0) with
  accessFlags := 1057
  interfaces := #[6, 4, 3]
  cf := some (fileOf pool12 2 #[.nestMembers #[106]] #[] 1057 12 #[111, 113, 115] #[{ accessFlags := 18, nameIndex := 5, descriptorIndex := 6, attributes := #[] }, { accessFlags := 18, nameIndex := 9, descriptorIndex := 10, attributes := #[] }, { accessFlags := 2, nameIndex := 19, descriptorIndex := 10, attributes := #[] }])
  fields := #[{ name := "name", type := (.object "java/lang/String"), accessFlags := 18, slot := 0, constantValue := 0 }, { name := "ordinal", type := .int, accessFlags := 18, slot := 1, constantValue := 0 }, { name := "hash", type := .int, accessFlags := 2, slot := 2, constantValue := 0 }]
  methods := #[]
  instanceTypes := #[(.object "java/lang/String"), .int, .int]
  staticTypes := #[]
  resolved := Array.replicate 204 none
  statics := none }

def pool13 : Array CpInfo := pool [(1, .class_ 2), (0, u "com/example/libxqtype/libxqtype/ExpressionLexer$Kind"), (2, u "INTEGER_LITERAL"), (0, u "Lcom/example/libxqtype/libxqtype/ExpressionLexer$Kind;"), (2, u "DECIMAL_LITERAL"), (2, u "DOUBLE_LITERAL"), (2, u "STRING_LITERAL"), (2, u "NAME"), (2, u "PREFIXED_NAME"), (2, u "LEFT_PARENTHESIS"), (2, u "RIGHT_PARENTHESIS"), (2, u "COMMA"), (2, u "SEMICOLON"), (2, u "MINUS"), (2, u "PLUS"), (2, u "QUESTION_MARK"), (2, u "ASTERISK"), (2, u "EQUALS"), (2, u "NOT_EQUALS"), (2, u "LESS_THAN"), (2, u "LESS_THAN_OR_EQUAL"), (2, u "GREATER_THAN"), (2, u "GREATER_THAN_OR_EQUAL"), (2, u "END"), (2, u "$VALUES"), (0, u "[Lcom/example/libxqtype/libxqtype/ExpressionLexer$Kind;"), (6, .class_ 79), (1, u "java/lang/Enum"), (8, u "spelling"), (0, u "Ljava/lang/String;"), (69, .class_ 160), (0, u "com/example/libxqtype/libxqtype/ExpressionLexer")] 2

/-- com/example/libxqtype/libxqtype/ExpressionLexer$Kind -/
def k13 : Class := { plain "com/example/libxqtype/libxqtype/ExpressionLexer$Kind" (some 12) with
  accessFlags := 16432
  interfaces := #[]
  cf := some (fileOf pool13 1 #[.nestHost 159] #[] 16432 77 #[] #[{ accessFlags := 16409, nameIndex := 5, descriptorIndex := 6, attributes := #[] }, { accessFlags := 16409, nameIndex := 9, descriptorIndex := 6, attributes := #[] }, { accessFlags := 16409, nameIndex := 12, descriptorIndex := 6, attributes := #[] }, { accessFlags := 16409, nameIndex := 15, descriptorIndex := 6, attributes := #[] }, { accessFlags := 16409, nameIndex := 18, descriptorIndex := 6, attributes := #[] }, { accessFlags := 16409, nameIndex := 21, descriptorIndex := 6, attributes := #[] }, { accessFlags := 16409, nameIndex := 24, descriptorIndex := 6, attributes := #[] }, { accessFlags := 16409, nameIndex := 27, descriptorIndex := 6, attributes := #[] }, { accessFlags := 16409, nameIndex := 30, descriptorIndex := 6, attributes := #[] }, { accessFlags := 16409, nameIndex := 33, descriptorIndex := 6, attributes := #[] }, { accessFlags := 16409, nameIndex := 36, descriptorIndex := 6, attributes := #[] }, { accessFlags := 16409, nameIndex := 39, descriptorIndex := 6, attributes := #[] }, { accessFlags := 16409, nameIndex := 42, descriptorIndex := 6, attributes := #[] }, { accessFlags := 16409, nameIndex := 45, descriptorIndex := 6, attributes := #[] }, { accessFlags := 16409, nameIndex := 48, descriptorIndex := 6, attributes := #[] }, { accessFlags := 16409, nameIndex := 51, descriptorIndex := 6, attributes := #[] }, { accessFlags := 16409, nameIndex := 54, descriptorIndex := 6, attributes := #[] }, { accessFlags := 16409, nameIndex := 57, descriptorIndex := 6, attributes := #[] }, { accessFlags := 16409, nameIndex := 60, descriptorIndex := 6, attributes := #[] }, { accessFlags := 16409, nameIndex := 63, descriptorIndex := 6, attributes := #[] }, { accessFlags := 16409, nameIndex := 66, descriptorIndex := 6, attributes := #[] }, { accessFlags := 18, nameIndex := 88, descriptorIndex := 89, attributes := #[] }, { accessFlags := 4122, nameIndex := 69, descriptorIndex := 70, attributes := #[] }])
  fields := #[{ name := "INTEGER_LITERAL", type := (.object "com/example/libxqtype/libxqtype/ExpressionLexer$Kind"), accessFlags := 16409, slot := 0, constantValue := 0 }, { name := "DECIMAL_LITERAL", type := (.object "com/example/libxqtype/libxqtype/ExpressionLexer$Kind"), accessFlags := 16409, slot := 1, constantValue := 0 }, { name := "DOUBLE_LITERAL", type := (.object "com/example/libxqtype/libxqtype/ExpressionLexer$Kind"), accessFlags := 16409, slot := 2, constantValue := 0 }, { name := "STRING_LITERAL", type := (.object "com/example/libxqtype/libxqtype/ExpressionLexer$Kind"), accessFlags := 16409, slot := 3, constantValue := 0 }, { name := "NAME", type := (.object "com/example/libxqtype/libxqtype/ExpressionLexer$Kind"), accessFlags := 16409, slot := 4, constantValue := 0 }, { name := "PREFIXED_NAME", type := (.object "com/example/libxqtype/libxqtype/ExpressionLexer$Kind"), accessFlags := 16409, slot := 5, constantValue := 0 }, { name := "LEFT_PARENTHESIS", type := (.object "com/example/libxqtype/libxqtype/ExpressionLexer$Kind"), accessFlags := 16409, slot := 6, constantValue := 0 }, { name := "RIGHT_PARENTHESIS", type := (.object "com/example/libxqtype/libxqtype/ExpressionLexer$Kind"), accessFlags := 16409, slot := 7, constantValue := 0 }, { name := "COMMA", type := (.object "com/example/libxqtype/libxqtype/ExpressionLexer$Kind"), accessFlags := 16409, slot := 8, constantValue := 0 }, { name := "SEMICOLON", type := (.object "com/example/libxqtype/libxqtype/ExpressionLexer$Kind"), accessFlags := 16409, slot := 9, constantValue := 0 }, { name := "MINUS", type := (.object "com/example/libxqtype/libxqtype/ExpressionLexer$Kind"), accessFlags := 16409, slot := 10, constantValue := 0 }, { name := "PLUS", type := (.object "com/example/libxqtype/libxqtype/ExpressionLexer$Kind"), accessFlags := 16409, slot := 11, constantValue := 0 }, { name := "QUESTION_MARK", type := (.object "com/example/libxqtype/libxqtype/ExpressionLexer$Kind"), accessFlags := 16409, slot := 12, constantValue := 0 }, { name := "ASTERISK", type := (.object "com/example/libxqtype/libxqtype/ExpressionLexer$Kind"), accessFlags := 16409, slot := 13, constantValue := 0 }, { name := "EQUALS", type := (.object "com/example/libxqtype/libxqtype/ExpressionLexer$Kind"), accessFlags := 16409, slot := 14, constantValue := 0 }, { name := "NOT_EQUALS", type := (.object "com/example/libxqtype/libxqtype/ExpressionLexer$Kind"), accessFlags := 16409, slot := 15, constantValue := 0 }, { name := "LESS_THAN", type := (.object "com/example/libxqtype/libxqtype/ExpressionLexer$Kind"), accessFlags := 16409, slot := 16, constantValue := 0 }, { name := "LESS_THAN_OR_EQUAL", type := (.object "com/example/libxqtype/libxqtype/ExpressionLexer$Kind"), accessFlags := 16409, slot := 17, constantValue := 0 }, { name := "GREATER_THAN", type := (.object "com/example/libxqtype/libxqtype/ExpressionLexer$Kind"), accessFlags := 16409, slot := 18, constantValue := 0 }, { name := "GREATER_THAN_OR_EQUAL", type := (.object "com/example/libxqtype/libxqtype/ExpressionLexer$Kind"), accessFlags := 16409, slot := 19, constantValue := 0 }, { name := "END", type := (.object "com/example/libxqtype/libxqtype/ExpressionLexer$Kind"), accessFlags := 16409, slot := 20, constantValue := 0 }, { name := "spelling", type := (.object "java/lang/String"), accessFlags := 18, slot := 3, constantValue := 0 }, { name := "$VALUES", type := (.array (.object "com/example/libxqtype/libxqtype/ExpressionLexer$Kind")), accessFlags := 4122, slot := 21, constantValue := 0 }]
  methods := #[]
  instanceTypes := #[(.object "java/lang/String"), .int, .int, (.object "java/lang/String")]
  staticTypes := #[(.object "com/example/libxqtype/libxqtype/ExpressionLexer$Kind"), (.object "com/example/libxqtype/libxqtype/ExpressionLexer$Kind"), (.object "com/example/libxqtype/libxqtype/ExpressionLexer$Kind"), (.object "com/example/libxqtype/libxqtype/ExpressionLexer$Kind"), (.object "com/example/libxqtype/libxqtype/ExpressionLexer$Kind"), (.object "com/example/libxqtype/libxqtype/ExpressionLexer$Kind"), (.object "com/example/libxqtype/libxqtype/ExpressionLexer$Kind"), (.object "com/example/libxqtype/libxqtype/ExpressionLexer$Kind"), (.object "com/example/libxqtype/libxqtype/ExpressionLexer$Kind"), (.object "com/example/libxqtype/libxqtype/ExpressionLexer$Kind"), (.object "com/example/libxqtype/libxqtype/ExpressionLexer$Kind"), (.object "com/example/libxqtype/libxqtype/ExpressionLexer$Kind"), (.object "com/example/libxqtype/libxqtype/ExpressionLexer$Kind"), (.object "com/example/libxqtype/libxqtype/ExpressionLexer$Kind"), (.object "com/example/libxqtype/libxqtype/ExpressionLexer$Kind"), (.object "com/example/libxqtype/libxqtype/ExpressionLexer$Kind"), (.object "com/example/libxqtype/libxqtype/ExpressionLexer$Kind"), (.object "com/example/libxqtype/libxqtype/ExpressionLexer$Kind"), (.object "com/example/libxqtype/libxqtype/ExpressionLexer$Kind"), (.object "com/example/libxqtype/libxqtype/ExpressionLexer$Kind"), (.object "com/example/libxqtype/libxqtype/ExpressionLexer$Kind"), (.array (.object "com/example/libxqtype/libxqtype/ExpressionLexer$Kind"))]
  resolved := Array.replicate 163 none
  statics := some 2 }

def pool14 : Array CpInfo := pool [(2, .class_ 4), (1, u "java/lang/Object"), (0, u "<init>"), (0, u "()V"), (17, .class_ 26), (1, u "jdk/internal/util/Preconditions"), (28, .class_ 56), (0, u "jdk/internal/util/Preconditions$4"), (57, .class_ 115), (0, u "jdk/internal/util/Preconditions$1"), (7, u "SIOOBE_FORMATTER"), (0, u "Ljava/util/function/BiFunction;"), (0, .class_ 126), (0, u "jdk/internal/util/Preconditions$2"), (3, u "AIOOBE_FORMATTER"), (0, .class_ 132), (0, u "jdk/internal/util/Preconditions$3"), (3, u "IOOBE_FORMATTER")] 57

def k14m0 : Method := { name := "<init>", desc := "()V", sig := { parameters := [], returnType := none }, accessFlags := 1, code := none }
/-- jdk/internal/util/Preconditions -/
def k14 : Class := { plain "jdk/internal/util/Preconditions" (some 0) with
  accessFlags := 33
  interfaces := #[]
  cf := some (fileOf pool14 24 #[.nestMembers #[55, 131, 125, 114]] #[{ accessFlags := 1, nameIndex := 5, descriptorIndex := 6, attributes := #[] }] 33 2 #[] #[{ accessFlags := 25, nameIndex := 123, descriptorIndex := 124, attributes := #[] }, { accessFlags := 25, nameIndex := 130, descriptorIndex := 124, attributes := #[] }, { accessFlags := 25, nameIndex := 136, descriptorIndex := 124, attributes := #[] }])
  fields := #[{ name := "SIOOBE_FORMATTER", type := (.object "java/util/function/BiFunction"), accessFlags := 25, slot := 0, constantValue := 0 }, { name := "AIOOBE_FORMATTER", type := (.object "java/util/function/BiFunction"), accessFlags := 25, slot := 1, constantValue := 0 }, { name := "IOOBE_FORMATTER", type := (.object "java/util/function/BiFunction"), accessFlags := 25, slot := 2, constantValue := 0 }]
  methods := #[k14m0]
  instanceTypes := #[]
  staticTypes := #[(.object "java/util/function/BiFunction"), (.object "java/util/function/BiFunction"), (.object "java/util/function/BiFunction")]
  resolved := Array.replicate 194 none
  statics := some 3 }

def pool15 : Array CpInfo := pool [(9, u "<init>"), (6, .class_ 18), (1, u "java/lang/Object"), (0, u "()V"), (1, .class_ 23), (1, u "jdk/internal/util/ArraysSupport"), (0, u "LOG2_ARRAY_LONG_INDEX_SCALE"), (0, u "I"), (2, u "U"), (0, u "Ljdk/internal/misc/Unsafe;"), (8, u "BIG_ENDIAN"), (0, u "Z"), (8, u "LOG2_BYTE_BIT_SIZE"), (4, u "LOG2_ARRAY_INT_INDEX_SCALE"), (54, u "JLA"), (0, u "Ljdk/internal/access/JavaLangAccess;"), (11, u "LOG2_ARRAY_BOOLEAN_INDEX_SCALE"), (9, u "LOG2_ARRAY_BYTE_INDEX_SCALE"), (5, u "LOG2_ARRAY_CHAR_INDEX_SCALE"), (5, u "LOG2_ARRAY_SHORT_INDEX_SCALE"), (18, u "LOG2_ARRAY_FLOAT_INDEX_SCALE"), (24, u "LOG2_ARRAY_DOUBLE_INDEX_SCALE"), (89, u "T_BOOLEAN"), (2, u "T_CHAR"), (1, u "T_FLOAT"), (1, u "T_DOUBLE"), (1, u "T_BYTE"), (1, u "T_SHORT"), (1, u "T_INT"), (1, u "T_LONG"), (1, u "SOFT_MAX_ARRAY_LENGTH")] 83

def k15m0 : Method := { name := "<init>", desc := "()V", sig := { parameters := [], returnType := none }, accessFlags := 2, code := none }
/-- jdk/internal/util/ArraysSupport -/
def k15 : Class := { plain "jdk/internal/util/ArraysSupport" (some 0) with
  accessFlags := 33
  interfaces := #[]
  cf := some (fileOf pool15 21 #[] #[{ accessFlags := 2, nameIndex := 9, descriptorIndex := 19, attributes := #[] }] 33 16 #[] #[{ accessFlags := 24, nameIndex := 28, descriptorIndex := 29, attributes := #[] }, { accessFlags := 26, nameIndex := 38, descriptorIndex := 39, attributes := #[] }, { accessFlags := 25, nameIndex := 121, descriptorIndex := 25, attributes := #[] }, { accessFlags := 25, nameIndex := 131, descriptorIndex := 25, attributes := #[] }, { accessFlags := 25, nameIndex := 137, descriptorIndex := 25, attributes := #[] }, { accessFlags := 25, nameIndex := 143, descriptorIndex := 25, attributes := #[] }, { accessFlags := 25, nameIndex := 53, descriptorIndex := 25, attributes := #[] }, { accessFlags := 25, nameIndex := 24, descriptorIndex := 25, attributes := #[] }, { accessFlags := 25, nameIndex := 162, descriptorIndex := 25, attributes := #[] }, { accessFlags := 25, nameIndex := 187, descriptorIndex := 25, attributes := #[] }, { accessFlags := 26, nameIndex := 48, descriptorIndex := 25, attributes := #[] }, { accessFlags := 25, nameIndex := 277, descriptorIndex := 25, attributes := #[] }, { accessFlags := 25, nameIndex := 280, descriptorIndex := 25, attributes := #[] }, { accessFlags := 25, nameIndex := 282, descriptorIndex := 25, attributes := #[] }, { accessFlags := 25, nameIndex := 284, descriptorIndex := 25, attributes := #[] }, { accessFlags := 25, nameIndex := 286, descriptorIndex := 25, attributes := #[] }, { accessFlags := 25, nameIndex := 288, descriptorIndex := 25, attributes := #[] }, { accessFlags := 25, nameIndex := 290, descriptorIndex := 25, attributes := #[] }, { accessFlags := 25, nameIndex := 292, descriptorIndex := 25, attributes := #[] }, { accessFlags := 26, nameIndex := 108, descriptorIndex := 109, attributes := #[] }, { accessFlags := 25, nameIndex := 294, descriptorIndex := 25, attributes := #[] }])
  fields := #[{ name := "U", type := (.object "jdk/internal/misc/Unsafe"), accessFlags := 24, slot := 0, constantValue := 0 }, { name := "BIG_ENDIAN", type := .boolean, accessFlags := 26, slot := 1, constantValue := 0 }, { name := "LOG2_ARRAY_BOOLEAN_INDEX_SCALE", type := .int, accessFlags := 25, slot := 2, constantValue := 0 }, { name := "LOG2_ARRAY_BYTE_INDEX_SCALE", type := .int, accessFlags := 25, slot := 3, constantValue := 0 }, { name := "LOG2_ARRAY_CHAR_INDEX_SCALE", type := .int, accessFlags := 25, slot := 4, constantValue := 0 }, { name := "LOG2_ARRAY_SHORT_INDEX_SCALE", type := .int, accessFlags := 25, slot := 5, constantValue := 0 }, { name := "LOG2_ARRAY_INT_INDEX_SCALE", type := .int, accessFlags := 25, slot := 6, constantValue := 0 }, { name := "LOG2_ARRAY_LONG_INDEX_SCALE", type := .int, accessFlags := 25, slot := 7, constantValue := 0 }, { name := "LOG2_ARRAY_FLOAT_INDEX_SCALE", type := .int, accessFlags := 25, slot := 8, constantValue := 0 }, { name := "LOG2_ARRAY_DOUBLE_INDEX_SCALE", type := .int, accessFlags := 25, slot := 9, constantValue := 0 }, { name := "LOG2_BYTE_BIT_SIZE", type := .int, accessFlags := 26, slot := 10, constantValue := 0 }, { name := "T_BOOLEAN", type := .int, accessFlags := 25, slot := 11, constantValue := 0 }, { name := "T_CHAR", type := .int, accessFlags := 25, slot := 12, constantValue := 0 }, { name := "T_FLOAT", type := .int, accessFlags := 25, slot := 13, constantValue := 0 }, { name := "T_DOUBLE", type := .int, accessFlags := 25, slot := 14, constantValue := 0 }, { name := "T_BYTE", type := .int, accessFlags := 25, slot := 15, constantValue := 0 }, { name := "T_SHORT", type := .int, accessFlags := 25, slot := 16, constantValue := 0 }, { name := "T_INT", type := .int, accessFlags := 25, slot := 17, constantValue := 0 }, { name := "T_LONG", type := .int, accessFlags := 25, slot := 18, constantValue := 0 }, { name := "JLA", type := (.object "jdk/internal/access/JavaLangAccess"), accessFlags := 26, slot := 19, constantValue := 0 }, { name := "SOFT_MAX_ARRAY_LENGTH", type := .int, accessFlags := 25, slot := 20, constantValue := 0 }]
  methods := #[k15m0]
  instanceTypes := #[]
  staticTypes := #[(.object "jdk/internal/misc/Unsafe"), .boolean, .int, .int, .int, .int, .int, .int, .int, .int, .int, .int, .int, .int, .int, .int, .int, .int, .int, (.object "jdk/internal/access/JavaLangAccess"), .int]
  resolved := Array.replicate 378 none
  statics := none }

def pool16 : Array CpInfo := pool [(1, u "java/lang/Cloneable"), (0, .class_ 1), (0, u "java/lang/Object"), (0, .class_ 3)] 3

/-- java/lang/Cloneable -/
def k16 : Class := { plain "java/lang/Cloneable" (some 0) with
  accessFlags := 1537
  interfaces := #[]
  cf := some (fileOf pool16 2 #[] #[] 1537 4 #[] #[])
  fields := #[]
  methods := #[]
  instanceTypes := #[]
  staticTypes := #[]
  resolved := Array.replicate 8 none
  statics := none }

/-- the primitive byte -/
def k17 : Class := { plain "byte" none with kind := .primitive 'B', accessFlags := 0x411 }
/-- [B -/
def k18 : Class := { plain "[B" (some 0) with kind := .array 17 .byte, interfaces := #[16, 3], accessFlags := 1041 }

/-- the primitive char -/
def k19 : Class := { plain "char" none with kind := .primitive 'C', accessFlags := 0x411 }
/-- [C -/
def k20 : Class := { plain "[C" (some 0) with kind := .array 19 .char, interfaces := #[16, 3], accessFlags := 1041 }

/-- the primitive int -/
def k21 : Class := { plain "int" none with kind := .primitive 'I', accessFlags := 0x411 }
/-- [I -/
def k22 : Class := { plain "[I" (some 0) with kind := .array 21 .int, interfaces := #[16, 3], accessFlags := 1041 }

/-- the primitive long -/
def k23 : Class := { plain "long" none with kind := .primitive 'J', accessFlags := 0x411 }
/-- [J -/
def k24 : Class := { plain "[J" (some 0) with kind := .array 23 .long, interfaces := #[16, 3], accessFlags := 1041 }

def heap : Heap := #[{ cls := 8, slots := #[.long 0, .int 1, .null, .int 0, .null, .int 0, .int 0], vm := .statics 8 },
  { cls := 11, slots := #[.int 0, .int 0, .ref 5], vm := .statics 11 },
  { cls := 13, slots := #[.ref 4, .null, .null, .null, .null, .null, .null, .null, .null, .null, .null, .null, .null, .null, .null, .null, .null, .null, .null, .null, .null, .null], vm := .statics 13 },
  { cls := 14, slots := #[.null, .null, .null], vm := .statics 14 },
  { cls := 13, slots := #[.null, .int 0, .int 0, .null], vm := .none },
  { cls := 18, slots := #[.int 0, .int 0, .int 0, .int 0, .int 0, .int 0, .int 0, .int 0, .int 0, .int 0, .int 0, .int 0, .int 0, .int 0, .int 0, .int 0, .int 0, .int 0, .int 0, .int 0, .int 0, .int 0, .int 0, .int 0, .int 0, .int 0, .int 0, .int 0, .int 0, .int 0, .int 0, .int 0, .int 0, .int 0, .int 0, .int 0, .int 0, .int 0, .int 0, .int 0, .int 0, .int 0, .int 0, .int 0, .int 0, .int 1, .int 1, .int 0, .int 1, .int 1, .int 1, .int 1, .int 1, .int 1, .int 1, .int 1, .int 1, .int 1, .int 0, .int 0, .int 0, .int 0, .int 0, .int 0, .int 0, .int 2, .int 2, .int 2, .int 2, .int 2, .int 2, .int 2, .int 2, .int 2, .int 2, .int 2, .int 2, .int 2, .int 2, .int 2, .int 2, .int 2, .int 2, .int 2, .int 2, .int 2, .int 2, .int 2, .int 2, .int 2, .int 2, .int 0, .int 0, .int 0, .int 0, .int 2, .int 0, .int 2, .int 2, .int 2, .int 2, .int 2, .int 2, .int 2, .int 2, .int 2, .int 2, .int 2, .int 2, .int 2, .int 2, .int 2, .int 2, .int 2, .int 2, .int 2, .int 2, .int 2, .int 2, .int 2, .int 2, .int 2, .int 2, .int 0, .int 0, .int 0, .int 0, .int 0], vm := .none }]
def classes : Array Class := #[k0, k1, k2, k3, k4, k5, k6, k7, k8, k9, k10, k11, k12, k13, k14, k15, k16, k17, k18, k19, k20, k21, k22, k23, k24]
def interned : List (Array UInt16 × Addr) := []
def slotsUsed : Nat := 167
def theMethod : MethodId := ⟨1, 1⟩
def args0 : Array Value := #[.long 7188221419849223263, .int 5, .int 2, .int 1, .int 3]
def aboutOver (below : List Frame) : State where
  vm := { classes := classes, interned := interned.toArray }
  heap := heap
  slotsUsed := slotsUsed
  threads := #[{ frames := .invoking theMethod args0 :: below }]
def below0 : List Frame := [.native { method := ⟨0, 0⟩, args := #[] }]
def about1 : State := aboutOver below0
def p0 : Program := .bare "" "" ""
def e0 : Env := launch0.env 0 0 0
theorem w_frames : about1.frames = Frame.invoking theMethod args0 :: below0 := rfl
set_option maxRecDepth 65536 in
theorem w_args : argsFit about1.vm theMethod args0 = true := by decide +kernel
set_option maxRecDepth 65536 in
theorem w_heap : heapFits about1 = true := by decide +kernel
set_option maxRecDepth 65536 in
theorem w_runnable : about1.curStatus? = some .runnable := by decide +kernel
set_option maxRecDepth 65536 in
theorem w_alone : about1.alone = true := by decide +kernel
set_option maxRecDepth 65536 in
theorem w_named : about1.methodNamed? x = some theMethod := by decide +kernel
set_option maxRecDepth 65536 in
theorem w_hears : about1.hears theMethod below0 = true := by decide +kernel
set_option maxRecDepth 65536 in
theorem w_ripe : about1.ripe theMethod args0 below0 = true := by decide +kernel
theorem w_running : about1.status = .running := rfl
set_option maxRecDepth 65536 in
theorem w_room : about1.hasRoom e0.platform room_1 = true :=
  launch0.hasRoom_least _ room_1 (by decide +kernel) (by decide +kernel) (by decide +kernel) (by decide +kernel) (by decide +kernel) (by decide +kernel)
theorem allAtoms_all (ts : List Jvm.Cond) (a : Array Jvm.Value) (st : Jvm.State) : (allAtoms ts).before a st = ts.all (fun c => c.before a st) := by
  induction ts with
  | nil => rfl
  | cons c t ih =>
    show (Jvm.Cond.and c (allAtoms t)).before a st = _
    rw [Jvm.Cond.before_and, ih, List.all_cons]
def words1 : List Jvm.Cond := Jvm.Cond.code x code maxLocals ret :: tables_1
/-- a 'code' word, met by the world's own term for the bytes: nothing is compared byte by byte -/
theorem code_word {y : MethodName} {bytes : ByteArray} {mx : Nat} {rt : Option FieldType} {a : Array Value} {s : State} {m : MethodId} {meth : Method} {c : Code} (h1 : s.methodNamed? y = some m) (h2 : s.vm.method? m = some meth) (h3 : meth.code = some c) (h4 : c.code = bytes)
    (h5 : (c.maxLocals == mx && c.exceptionTable.isEmpty && decide (c.maxStack ≤ mostOperands) && decide (meth.sig.returnType = rt) && !meth.locks && decide (parseMethodDescriptor y.desc = some meth.sig)) = true) : (Jvm.Cond.code y bytes mx rt).before a s = true := by
  simp only [Bool.and_eq_true, beq_iff_eq, Bool.not_eq_true', decide_eq_true_eq] at h5
  obtain ⟨⟨⟨⟨⟨g1, g2⟩, g3⟩, g4⟩, g5⟩, g6⟩ := h5
  simp [Cond.before, Cond.holds, Cond.value, h1, h2, h3, h4, g1, g2, g3, g4, g5, g6]
def isCode : Jvm.Cond → Bool
  | .code _ _ _ _ => true
  | _ => false
theorem all_split {L : List Jvm.Cond} {P : Jvm.Cond → Bool} (h1 : L.all (fun c => isCode c || P c) = true) (h2 : ∀ c ∈ L.filter isCode, P c = true) : L.all P = true := by
  refine List.all_eq_true.mpr fun c hc => ?_
  have h := List.all_eq_true.mp h1 c hc
  rcases Bool.eq_false_or_eq_true (isCode c) with hi | hi
  · exact h2 c (List.mem_filter.mpr ⟨hc, hi⟩)
  · simpa [hi] using h
set_option maxRecDepth 65536 in
theorem w_c0 : (Jvm.Cond.code x code maxLocals ret).before args0 about1 = true := code_word (m := ⟨1, 1⟩) (meth := k1m1) (c := k1c1) (by decide +kernel) rfl rfl rfl (by decide +kernel)
set_option maxRecDepth 65536 in
theorem w_c1 : (Jvm.Cond.code ({ cls := "com/example/libxqtype/libxqtype/ExpressionLexerIntegerValuePinLaw", name := "pow10", desc := "(I)J" } : Jvm.MethodName) method_4_code (2 : Nat) (Option.some Jvm.ClassFile.FieldType.long)).before args0 about1 = true := code_word (m := ⟨1, 3⟩) (meth := k1m3) (c := k1c3) (by decide +kernel) rfl rfl rfl (by decide +kernel)
set_option maxRecDepth 65536 in
theorem w_c2 : (Jvm.Cond.code ({ cls := "com/example/libxqtype/libxqtype/ExpressionLexerIntegerValuePinLaw", name := "whitespace", desc := "(I)C" } : Jvm.MethodName) method_5_code (2 : Nat) (Option.some Jvm.ClassFile.FieldType.char)).before args0 about1 = true := code_word (m := ⟨1, 4⟩) (meth := k1m4) (c := k1c4) (by decide +kernel) rfl rfl rfl (by decide +kernel)
set_option maxRecDepth 65536 in
theorem w_c3 : (Jvm.Cond.code ({ cls := "com/example/libxqtype/libxqtype/ExpressionLexerIntegerValuePinLaw", name := "terminator", desc := "(I)C" } : Jvm.MethodName) method_6_code (2 : Nat) (Option.some Jvm.ClassFile.FieldType.char)).before args0 about1 = true := code_word (m := ⟨1, 5⟩) (meth := k1m5) (c := k1c5) (by decide +kernel) rfl rfl rfl (by decide +kernel)
set_option maxRecDepth 65536 in
theorem w_c4 : (Jvm.Cond.code ({ cls := "com/example/libxqtype/libxqtype/ExpressionLexerIntegerValuePinLaw", name := "at", desc := "(IIIJCC)C" } : Jvm.MethodName) method_3_code (8 : Nat) (Option.some Jvm.ClassFile.FieldType.char)).before args0 about1 = true := code_word (m := ⟨1, 2⟩) (meth := k1m2) (c := k1c2) (by decide +kernel) rfl rfl rfl (by decide +kernel)
set_option maxRecDepth 65536 in
theorem w_c5 : (Jvm.Cond.code ({ cls := "java/lang/String", name := "<init>", desc := "([C)V" } : Jvm.MethodName) jdk_42_method_3_code (2 : Nat) (Option.none : Option Jvm.ClassFile.FieldType)).before args0 about1 = true := code_word (m := ⟨8, 1⟩) (meth := k8m1) (c := k8c1) (by decide +kernel) rfl rfl rfl (by decide +kernel)
set_option maxRecDepth 65536 in
theorem w_c6 : (Jvm.Cond.code ({ cls := "java/lang/String", name := "<init>", desc := "([CIILjava/lang/Void;)V" } : Jvm.MethodName) jdk_42_method_149_code (6 : Nat) (Option.none : Option Jvm.ClassFile.FieldType)).before args0 about1 = true := code_word (m := ⟨8, 3⟩) (meth := k8m3) (c := k8c3) (by decide +kernel) rfl rfl rfl (by decide +kernel)
set_option maxRecDepth 65536 in
theorem w_c7 : (Jvm.Cond.code ({ cls := "java/lang/Object", name := "<init>", desc := "()V" } : Jvm.MethodName) object_method_1_code (1 : Nat) (Option.none : Option Jvm.ClassFile.FieldType)).before args0 about1 = true := code_word (m := ⟨0, 0⟩) (meth := k0m0) (c := k0c0) (by decide +kernel) rfl rfl rfl (by decide +kernel)
set_option maxRecDepth 65536 in
theorem w_c8 : (Jvm.Cond.code ({ cls := "java/lang/StringUTF16", name := "compress", desc := "([CII)[B" } : Jvm.MethodName) jdk_52_method_16_code (6 : Nat) (Option.some (Jvm.ClassFile.FieldType.array Jvm.ClassFile.FieldType.byte))).before args0 about1 = true := code_word (m := ⟨9, 2⟩) (meth := k9m2) (c := k9c2) (by decide +kernel) rfl rfl rfl (by decide +kernel)
set_option maxRecDepth 65536 in
theorem w_c9 : (Jvm.Cond.code ({ cls := "java/lang/StringUTF16", name := "compress", desc := "([CI[BII)I" } : Jvm.MethodName) jdk_52_method_21_code (7 : Nat) (Option.some Jvm.ClassFile.FieldType.int)).before args0 about1 = true := code_word (m := ⟨9, 3⟩) (meth := k9m3) (c := k9c3) (by decide +kernel) rfl rfl rfl (by decide +kernel)
set_option maxRecDepth 65536 in
theorem w_c10 : (Jvm.Cond.code ({ cls := "java/lang/StringUTF16", name := "coderFromArrayLen", desc := "([BI)B" } : Jvm.MethodName) jdk_52_method_15_code (2 : Nat) (Option.some Jvm.ClassFile.FieldType.byte)).before args0 about1 = true := code_word (m := ⟨9, 1⟩) (meth := k9m1) (c := k9c1) (by decide +kernel) rfl rfl rfl (by decide +kernel)
set_option maxRecDepth 65536 in
theorem w_c11 : (Jvm.Cond.code ({ cls := "com/example/libxqtype/libxqtype/ExpressionLexer", name := "<init>", desc := "(Ljava/lang/String;)V" } : Jvm.MethodName) prog_59_method_1_code (2 : Nat) (Option.none : Option Jvm.ClassFile.FieldType)).before args0 about1 = true := code_word (m := ⟨2, 0⟩) (meth := k2m0) (c := k2c0) (by decide +kernel) rfl rfl rfl (by decide +kernel)
set_option maxRecDepth 65536 in
theorem w_c12 : (Jvm.Cond.code ({ cls := "java/lang/String", name := "toCharArray", desc := "()[C" } : Jvm.MethodName) jdk_42_method_129_code (1 : Nat) (Option.some (Jvm.ClassFile.FieldType.array Jvm.ClassFile.FieldType.char))).before args0 about1 = true := code_word (m := ⟨8, 2⟩) (meth := k8m2) (c := k8c2) (by decide +kernel) rfl rfl rfl (by decide +kernel)
set_option maxRecDepth 65536 in
theorem w_c13 : (Jvm.Cond.code ({ cls := "java/lang/String", name := "isLatin1", desc := "()Z" } : Jvm.MethodName) jdk_42_method_154_code (1 : Nat) (Option.some Jvm.ClassFile.FieldType.boolean)).before args0 about1 = true := code_word (m := ⟨8, 4⟩) (meth := k8m4) (c := k8c4) (by decide +kernel) rfl rfl rfl (by decide +kernel)
set_option maxRecDepth 65536 in
theorem w_c14 : (Jvm.Cond.code ({ cls := "java/lang/StringLatin1", name := "toChars", desc := "([B)[C" } : Jvm.MethodName) jdk_43_method_9_code (2 : Nat) (Option.some (Jvm.ClassFile.FieldType.array Jvm.ClassFile.FieldType.char))).before args0 about1 = true := code_word (m := ⟨10, 1⟩) (meth := k10m1) (c := k10c1) (by decide +kernel) rfl rfl rfl (by decide +kernel)
set_option maxRecDepth 65536 in
theorem w_c15 : (Jvm.Cond.code ({ cls := "java/lang/StringLatin1", name := "inflate", desc := "([BI[CII)V" } : Jvm.MethodName) jdk_43_method_49_code (6 : Nat) (Option.none : Option Jvm.ClassFile.FieldType)).before args0 about1 = true := code_word (m := ⟨10, 2⟩) (meth := k10m2) (c := k10c2) (by decide +kernel) rfl rfl rfl (by decide +kernel)
set_option maxRecDepth 65536 in
theorem w_c16 : (Jvm.Cond.code ({ cls := "com/example/libxqtype/libxqtype/ExpressionLexer", name := "scan", desc := "(I)V" } : Jvm.MethodName) prog_59_method_15_code (4 : Nat) (Option.none : Option Jvm.ClassFile.FieldType)).before args0 about1 = true := code_word (m := ⟨2, 2⟩) (meth := k2m2) (c := k2c2) (by decide +kernel) rfl rfl rfl (by decide +kernel)
set_option maxRecDepth 65536 in
theorem w_c17 : (Jvm.Cond.code ({ cls := "com/example/libxqtype/libxqtype/XmlCharacters", name := "isWhitespace", desc := "(C)Z" } : Jvm.MethodName) prog_147_method_4_code (1 : Nat) (Option.some Jvm.ClassFile.FieldType.boolean)).before args0 about1 = true := code_word (m := ⟨11, 2⟩) (meth := k11m2) (c := k11c2) (by decide +kernel) rfl rfl rfl (by decide +kernel)
set_option maxRecDepth 65536 in
theorem w_c18 : (Jvm.Cond.code ({ cls := "com/example/libxqtype/libxqtype/XmlCharacters", name := "isDigit", desc := "(C)Z" } : Jvm.MethodName) prog_147_method_2_code (1 : Nat) (Option.some Jvm.ClassFile.FieldType.boolean)).before args0 about1 = true := code_word (m := ⟨11, 1⟩) (meth := k11m1) (c := k11c1) (by decide +kernel) rfl rfl rfl (by decide +kernel)
set_option maxRecDepth 65536 in
theorem w_c19 : (Jvm.Cond.code ({ cls := "com/example/libxqtype/libxqtype/ExpressionLexer", name := "numericLiteral", desc := "()V" } : Jvm.MethodName) prog_59_method_20_code (3 : Nat) (Option.none : Option Jvm.ClassFile.FieldType)).before args0 about1 = true := code_word (m := ⟨2, 3⟩) (meth := k2m3) (c := k2c3) (by decide +kernel) rfl rfl rfl (by decide +kernel)
set_option maxRecDepth 65536 in
theorem w_c20 : (Jvm.Cond.code ({ cls := "com/example/libxqtype/libxqtype/ExpressionLexer", name := "digitsEnd", desc := "(I)I" } : Jvm.MethodName) prog_59_method_31_code (4 : Nat) (Option.some Jvm.ClassFile.FieldType.int)).before args0 about1 = true := code_word (m := ⟨2, 5⟩) (meth := k2m5) (c := k2c5) (by decide +kernel) rfl rfl rfl (by decide +kernel)
set_option maxRecDepth 65536 in
theorem w_c21 : (Jvm.Cond.code ({ cls := "com/example/libxqtype/libxqtype/ExpressionLexer", name := "charAt", desc := "(I)C" } : Jvm.MethodName) prog_59_method_32_code (2 : Nat) (Option.some Jvm.ClassFile.FieldType.char)).before args0 about1 = true := code_word (m := ⟨2, 6⟩) (meth := k2m6) (c := k2c6) (by decide +kernel) rfl rfl rfl (by decide +kernel)
set_option maxRecDepth 65536 in
theorem w_c22 : (Jvm.Cond.code ({ cls := "com/example/libxqtype/libxqtype/ExpressionLexer", name := "startsName", desc := "(I)Z" } : Jvm.MethodName) prog_59_method_29_code (3 : Nat) (Option.some Jvm.ClassFile.FieldType.boolean)).before args0 about1 = true := code_word (m := ⟨2, 4⟩) (meth := k2m4) (c := k2c4) (by decide +kernel) rfl rfl rfl (by decide +kernel)
set_option maxRecDepth 65536 in
theorem w_c23 : (Jvm.Cond.code ({ cls := "com/example/libxqtype/libxqtype/XmlCharacters", name := "isNameStartChar", desc := "(I)Z" } : Jvm.MethodName) prog_147_method_8_code (1 : Nat) (Option.some Jvm.ClassFile.FieldType.boolean)).before args0 about1 = true := code_word (m := ⟨11, 3⟩) (meth := k11m3) (c := k11c3) (by decide +kernel) rfl rfl rfl (by decide +kernel)
set_option maxRecDepth 65536 in
theorem w_c24 : (Jvm.Cond.code ({ cls := "com/example/libxqtype/libxqtype/ExpressionLexer", name := "integerValue", desc := "()J" } : Jvm.MethodName) prog_59_method_5_code (4 : Nat) (Option.some Jvm.ClassFile.FieldType.long)).before args0 about1 = true := code_word (m := ⟨2, 1⟩) (meth := k2m1) (c := k2c1) (by decide +kernel) rfl rfl rfl (by decide +kernel)
def codes1 : List Jvm.Cond := [Jvm.Cond.code x code maxLocals ret, Jvm.Cond.code ({ cls := "com/example/libxqtype/libxqtype/ExpressionLexerIntegerValuePinLaw", name := "pow10", desc := "(I)J" } : Jvm.MethodName) method_4_code (2 : Nat) (Option.some Jvm.ClassFile.FieldType.long), Jvm.Cond.code ({ cls := "com/example/libxqtype/libxqtype/ExpressionLexerIntegerValuePinLaw", name := "whitespace", desc := "(I)C" } : Jvm.MethodName) method_5_code (2 : Nat) (Option.some Jvm.ClassFile.FieldType.char), Jvm.Cond.code ({ cls := "com/example/libxqtype/libxqtype/ExpressionLexerIntegerValuePinLaw", name := "terminator", desc := "(I)C" } : Jvm.MethodName) method_6_code (2 : Nat) (Option.some Jvm.ClassFile.FieldType.char), Jvm.Cond.code ({ cls := "com/example/libxqtype/libxqtype/ExpressionLexerIntegerValuePinLaw", name := "at", desc := "(IIIJCC)C" } : Jvm.MethodName) method_3_code (8 : Nat) (Option.some Jvm.ClassFile.FieldType.char), Jvm.Cond.code ({ cls := "java/lang/String", name := "<init>", desc := "([C)V" } : Jvm.MethodName) jdk_42_method_3_code (2 : Nat) (Option.none : Option Jvm.ClassFile.FieldType), Jvm.Cond.code ({ cls := "java/lang/String", name := "<init>", desc := "([CIILjava/lang/Void;)V" } : Jvm.MethodName) jdk_42_method_149_code (6 : Nat) (Option.none : Option Jvm.ClassFile.FieldType), Jvm.Cond.code ({ cls := "java/lang/Object", name := "<init>", desc := "()V" } : Jvm.MethodName) object_method_1_code (1 : Nat) (Option.none : Option Jvm.ClassFile.FieldType), Jvm.Cond.code ({ cls := "java/lang/StringUTF16", name := "compress", desc := "([CII)[B" } : Jvm.MethodName) jdk_52_method_16_code (6 : Nat) (Option.some (Jvm.ClassFile.FieldType.array Jvm.ClassFile.FieldType.byte)), Jvm.Cond.code ({ cls := "java/lang/StringUTF16", name := "compress", desc := "([CI[BII)I" } : Jvm.MethodName) jdk_52_method_21_code (7 : Nat) (Option.some Jvm.ClassFile.FieldType.int), Jvm.Cond.code ({ cls := "java/lang/StringUTF16", name := "coderFromArrayLen", desc := "([BI)B" } : Jvm.MethodName) jdk_52_method_15_code (2 : Nat) (Option.some Jvm.ClassFile.FieldType.byte), Jvm.Cond.code ({ cls := "com/example/libxqtype/libxqtype/ExpressionLexer", name := "<init>", desc := "(Ljava/lang/String;)V" } : Jvm.MethodName) prog_59_method_1_code (2 : Nat) (Option.none : Option Jvm.ClassFile.FieldType), Jvm.Cond.code ({ cls := "java/lang/String", name := "toCharArray", desc := "()[C" } : Jvm.MethodName) jdk_42_method_129_code (1 : Nat) (Option.some (Jvm.ClassFile.FieldType.array Jvm.ClassFile.FieldType.char)), Jvm.Cond.code ({ cls := "java/lang/String", name := "isLatin1", desc := "()Z" } : Jvm.MethodName) jdk_42_method_154_code (1 : Nat) (Option.some Jvm.ClassFile.FieldType.boolean), Jvm.Cond.code ({ cls := "java/lang/StringLatin1", name := "toChars", desc := "([B)[C" } : Jvm.MethodName) jdk_43_method_9_code (2 : Nat) (Option.some (Jvm.ClassFile.FieldType.array Jvm.ClassFile.FieldType.char)), Jvm.Cond.code ({ cls := "java/lang/StringLatin1", name := "inflate", desc := "([BI[CII)V" } : Jvm.MethodName) jdk_43_method_49_code (6 : Nat) (Option.none : Option Jvm.ClassFile.FieldType), Jvm.Cond.code ({ cls := "com/example/libxqtype/libxqtype/ExpressionLexer", name := "scan", desc := "(I)V" } : Jvm.MethodName) prog_59_method_15_code (4 : Nat) (Option.none : Option Jvm.ClassFile.FieldType), Jvm.Cond.code ({ cls := "com/example/libxqtype/libxqtype/XmlCharacters", name := "isWhitespace", desc := "(C)Z" } : Jvm.MethodName) prog_147_method_4_code (1 : Nat) (Option.some Jvm.ClassFile.FieldType.boolean), Jvm.Cond.code ({ cls := "com/example/libxqtype/libxqtype/XmlCharacters", name := "isDigit", desc := "(C)Z" } : Jvm.MethodName) prog_147_method_2_code (1 : Nat) (Option.some Jvm.ClassFile.FieldType.boolean), Jvm.Cond.code ({ cls := "com/example/libxqtype/libxqtype/ExpressionLexer", name := "numericLiteral", desc := "()V" } : Jvm.MethodName) prog_59_method_20_code (3 : Nat) (Option.none : Option Jvm.ClassFile.FieldType), Jvm.Cond.code ({ cls := "com/example/libxqtype/libxqtype/ExpressionLexer", name := "digitsEnd", desc := "(I)I" } : Jvm.MethodName) prog_59_method_31_code (4 : Nat) (Option.some Jvm.ClassFile.FieldType.int), Jvm.Cond.code ({ cls := "com/example/libxqtype/libxqtype/ExpressionLexer", name := "charAt", desc := "(I)C" } : Jvm.MethodName) prog_59_method_32_code (2 : Nat) (Option.some Jvm.ClassFile.FieldType.char), Jvm.Cond.code ({ cls := "com/example/libxqtype/libxqtype/ExpressionLexer", name := "startsName", desc := "(I)Z" } : Jvm.MethodName) prog_59_method_29_code (3 : Nat) (Option.some Jvm.ClassFile.FieldType.boolean), Jvm.Cond.code ({ cls := "com/example/libxqtype/libxqtype/XmlCharacters", name := "isNameStartChar", desc := "(I)Z" } : Jvm.MethodName) prog_147_method_8_code (1 : Nat) (Option.some Jvm.ClassFile.FieldType.boolean), Jvm.Cond.code ({ cls := "com/example/libxqtype/libxqtype/ExpressionLexer", name := "integerValue", desc := "()J" } : Jvm.MethodName) prog_59_method_5_code (4 : Nat) (Option.some Jvm.ClassFile.FieldType.long)]
set_option maxRecDepth 65536 in
theorem codes_eq : words1.filter isCode = codes1 := rfl
theorem w_codes : ∀ c ∈ words1.filter isCode, c.before args0 about1 = true := by
  rw [codes_eq]
  intro c hc
  simp only [codes1, List.mem_cons, List.not_mem_nil, or_false] at hc
  rcases hc with rfl | rfl | rfl | rfl | rfl | rfl | rfl | rfl | rfl | rfl | rfl | rfl | rfl | rfl | rfl | rfl | rfl | rfl | rfl | rfl | rfl | rfl | rfl | rfl | rfl
  · exact w_c0
  · exact w_c1
  · exact w_c2
  · exact w_c3
  · exact w_c4
  · exact w_c5
  · exact w_c6
  · exact w_c7
  · exact w_c8
  · exact w_c9
  · exact w_c10
  · exact w_c11
  · exact w_c12
  · exact w_c13
  · exact w_c14
  · exact w_c15
  · exact w_c16
  · exact w_c17
  · exact w_c18
  · exact w_c19
  · exact w_c20
  · exact w_c21
  · exact w_c22
  · exact w_c23
  · exact w_c24
set_option maxRecDepth 65536 in
theorem w_t1 : (words1.take 24).all (fun c => isCode c || c.before args0 about1) = true := by decide +kernel
set_option maxRecDepth 65536 in
theorem w_t2 : ((words1.drop 24).take 24).all (fun c => isCode c || c.before args0 about1) = true := by decide +kernel
set_option maxRecDepth 65536 in
theorem w_t3 : (((words1.drop 24).drop 24).take 24).all (fun c => isCode c || c.before args0 about1) = true := by decide +kernel
set_option maxRecDepth 65536 in
theorem w_t4 : ((((words1.drop 24).drop 24).drop 24).take 24).all (fun c => isCode c || c.before args0 about1) = true := by decide +kernel
set_option maxRecDepth 65536 in
theorem w_t5 : (((((words1.drop 24).drop 24).drop 24).drop 24).take 24).all (fun c => isCode c || c.before args0 about1) = true := by decide +kernel
set_option maxRecDepth 65536 in
theorem w_t6 : ((((((words1.drop 24).drop 24).drop 24).drop 24).drop 24).take 24).all (fun c => isCode c || c.before args0 about1) = true := by decide +kernel
set_option maxRecDepth 65536 in
theorem w_t7 : ((((((words1.drop 24).drop 24).drop 24).drop 24).drop 24).drop 24).all (fun c => isCode c || c.before args0 about1) = true := by decide +kernel
theorem w_tables : (allAtoms (Jvm.Cond.code x code maxLocals ret :: tables_1)).before args0 about1 = true := by
  rw [allAtoms_all]
  show words1.all (fun c => c.before args0 about1) = true
  refine all_split ?_ w_codes
  rw [← List.take_append_drop 24 words1, List.all_append, w_t1, ← List.take_append_drop 24 (words1.drop 24), List.all_append, w_t2, ← List.take_append_drop 24 ((words1.drop 24).drop 24), List.all_append, w_t3, ← List.take_append_drop 24 (((words1.drop 24).drop 24).drop 24), List.all_append, w_t4, ← List.take_append_drop 24 ((((words1.drop 24).drop 24).drop 24).drop 24), List.all_append, w_t5, ← List.take_append_drop 24 (((((words1.drop 24).drop 24).drop 24).drop 24).drop 24), List.all_append, w_t6, w_t7]
  rfl
set_option maxRecDepth 65536 in
theorem w_rest : rest_1_c.before args0 about1 = true := by decide +kernel
set_option maxRecDepth 65536 in
theorem w_case : (Jvm.Cond.and given_1 narrow_1).before args0 about1 = true := by decide +kernel
theorem w_applies : (headSpec (Jvm.Cond.code x code maxLocals ret :: tables_1) room_1).applies x e0.platform about1 = true :=
  (Spec.applies_iff w_frames).mpr ⟨w_running, w_runnable, w_alone, w_named, w_hears, w_ripe, w_room, w_tables⟩
theorem atStart : AtStart classFile x code maxLocals ret World_1 tables_1 room_1 Calls_1 rest_1 Pre_1 launch0 p0 e0 about1 theMethod args0 below0 :=
  ⟨lists_1, trivial, launch0.admits_env _ _ _, launch0.least_env, fairChoices_fair.cas, fairChoices_fair.clock, w_frames, w_args, w_heap, w_applies, trivial, w_rest, w_case⟩
end start1
theorem witness_1 : WitnessClaimed_1 := ⟨start1.p0, start1.e0, start1.about1, start1.theMethod, start1.args0, start1.below0, start1.atStart⟩
end Jvm.Pilot.@@N@@
