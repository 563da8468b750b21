import JvmDerived
import JvmDerived.Pilot.@@N@@Statement
import JvmDerived.Pilot.@@N@@Code
set_option linter.unusedVariables false
set_option linter.unusedSimpArgs false
@@BLOCK:NumsL.lean.txt@@
namespace Jvm.Pilot.@@N@@
open Jvm Jvm.ClassFile Sem Op Lib Jvm.Free Jvm.Stand Jvm.LawKit Jvm.RoadKit Bundle Jvm.Pilot.@@N@@.Jvm.D
section Own
variable {p : Program} {l : Launch} {e : Env} {R : Room} {s Z : State} {m : MethodId} {args : Array Value} {below : List Frame} {meth : Method} {c : Code} {T : State} {locs : List Loc} {cells slots : Nat} {q : Option Value → Heap → List Loc → Prop}
/-- from U the run ends in a return, as q says -/
def own_Fin (p : Program) (e : Env) (below : List Frame) (s : State) (R : Room) (q : Option Value → Heap → List Loc → Prop) (U : State) : Prop :=
  ∃ s₂ o, Steps p.tables e below U s₂ ∧ s₂.status = .running ∧ Ended s₂ below o ∧ ∃ v L, o = .returned v ∧ q v s₂.heap L ∧ FrameEnd s o s₂ L R.cells R.slots
theorem own_to {U U' : State} (h : ∀ t, Steps p.tables e below U' t → Steps p.tables e below U t) (k : own_Fin p e below s R q U') : own_Fin p e below s R q U := by
  obtain ⟨s₂, o, h1, r⟩ := k
  exact ⟨s₂, o, h _ h1, r⟩
theorem own_ite {C : Prop} [Decidable C] {G : Int32 → State} {U : State} {v1 v0 : Int32} (k : own_Fin p e below s R q (G (if C then v1 else v0))) (h1 : C → own_Fin p e below s R q (G v1) → own_Fin p e below s R q U) (h0 : ¬ C → own_Fin p e below s R q (G v0) → own_Fin p e below s R q U) : own_Fin p e below s R q U := by
  by_cases h : C
  · rw [if_pos h] at k; exact h1 h k
  · rw [if_neg h] at k; exact h0 h k
theorem own_cut {U V : State} (k : own_Fin p e below s R q V) (h : own_Fin p e below s R q V → own_Fin p e below s R q U) : own_Fin p e below s R q U := h k
theorem own_retN (X : Stand p l e R s m args below meth c T locs cells slots) (hx : p.tables.exec = Jvm.exec) (hlk : meth.locks = false) {pc : Nat} {Ls : Array Slot} {z : Int32} {t : FieldType} {rest : List Value} (hret : meth.sig.returnType = some t) (ht : t = .boolean ∨ t = .byte ∨ t = .char ∨ t = .short) (hd : decode c.code pc = .ok (.ireturn, 1)) (hc : cells ≤ R.cells) (hs : slots ≤ R.slots) (hq : q (some (.int (nar t z))) T.heap locs) :
    own_Fin p e below s R q (T.setTop (mkF m pc Ls (.int z :: rest))) := by
  obtain ⟨fs, hr, hrun, hended, hW, hsame⟩ := X.leave (v := some (.int (nar t z))) (fun h => by rw [hret] at h; cases h)
  exact ⟨_, _, retN X hx hret ht hd hr, hrun, hended, _, _, rfl, hq, ⟨_, rfl⟩, hW, hsame.mono hc hs⟩
theorem own_retI (X : Stand p l e R s m args below meth c T locs cells slots) (hx : p.tables.exec = Jvm.exec) (hlk : meth.locks = false) {pc : Nat} {Ls : Array Slot} {z : Int32} {rest : List Value} (hret : meth.sig.returnType = some .int) (hd : decode c.code pc = .ok (.ireturn, 1)) (hc : cells ≤ R.cells) (hs : slots ≤ R.slots) (hq : q (some (.int z)) T.heap locs) :
    own_Fin p e below s R q (T.setTop (mkF m pc Ls (.int z :: rest))) := by
  obtain ⟨fs, hr, hrun, hended, hW, hsame⟩ := X.leave (v := some (.int z)) (fun h => by rw [hret] at h; cases h)
  exact ⟨_, _, retOut X hx hret rfl (Or.inl ⟨rfl, Or.inl rfl, z, rfl⟩) hd hr, hrun, hended, _, _, rfl, hq, ⟨_, rfl⟩, hW, hsame.mono hc hs⟩
theorem own_retJ (X : Stand p l e R s m args below meth c T locs cells slots) (hx : p.tables.exec = Jvm.exec) (hlk : meth.locks = false) {pc : Nat} {Ls : Array Slot} {z : Int64} {rest : List Value} (hret : meth.sig.returnType = some .long) (hd : decode c.code pc = .ok (.lreturn, 1)) (hc : cells ≤ R.cells) (hs : slots ≤ R.slots) (hq : q (some (.long z)) T.heap locs) :
    own_Fin p e below s R q (T.setTop (mkF m pc Ls (.long z :: rest))) := by
  obtain ⟨fs, hr, hrun, hended, hW, hsame⟩ := X.leave (v := some (.long z)) (fun h => by rw [hret] at h; cases h)
  exact ⟨_, _, retOut X hx hret rfl (Or.inr (Or.inl ⟨rfl, rfl, z, rfl⟩)) hd hr, hrun, hended, _, _, rfl, hq, ⟨_, rfl⟩, hW, hsame.mono hc hs⟩
theorem own_retR (X : Stand p l e R s m args below meth c T locs cells slots) (hx : p.tables.exec = Jvm.exec) (hlk : meth.locks = false) {pc : Nat} {Ls : Array Slot} {w : Value} {t : FieldType} {rest : List Value} (hret : meth.sig.returnType = some t) (ht : t.isReference = true) (hw : w.isRef = true) (hn : narrow t w = w) (hd : decode c.code pc = .ok (.areturn, 1)) (hc : cells ≤ R.cells) (hs : slots ≤ R.slots) (hq : q (some w) T.heap locs) :
    own_Fin p e below s R q (T.setTop (mkF m pc Ls (w :: rest))) := by
  obtain ⟨fs, hr, hrun, hended, hW, hsame⟩ := X.leave (v := some w) (fun h => by rw [hret] at h; cases h)
  exact ⟨_, _, retOut X hx hret hn (Or.inr (Or.inr (Or.inr (Or.inr ⟨rfl, ht, hw⟩)))) hd hr, hrun, hended, _, _, rfl, hq, ⟨_, rfl⟩, hW, hsame.mono hc hs⟩
theorem own_retV (X : Stand p l e R s m args below meth c T locs cells slots) (hx : p.tables.exec = Jvm.exec) (hlk : meth.locks = false) {pc : Nat} {Ls : Array Slot} (hret : meth.sig.returnType = none) (hd : decode c.code pc = .ok (.return_, 1)) (hc : cells ≤ R.cells) (hs : slots ≤ R.slots) (hq : q none T.heap locs) :
    own_Fin p e below s R q (T.setTop (mkF m pc Ls [])) := by
  obtain ⟨fs, hr, hrun, hended, hW, hsame⟩ := X.leave (v := none) (fun _ => rfl)
  exact ⟨_, _, X.returnOut hx hret hd hr, hrun, hended, _, _, rfl, hq, ⟨_, rfl⟩, hW, hsame.mono hc hs⟩
/-- the contract of a body at given arguments and a given heap -/
abbrev own_Met (l : Launch) (Z : State) (y : MethodName) (bytes : ByteArray) (maxL : Nat) (ret : Option FieldType) (ws : List Jvm.Cond) (rm : Room) (as' : Array Value) (h0 : Heap) (q : Option Value → Heap → List Loc → Prop) : Prop :=
  MetFree l y (head1 (Jvm.Cond.code y bytes maxL ret :: ws) rm) (fun a U => a = as' ∧ Z.Warmed39 U.vm ∧ U.heap = h0) (fun _ _ _ _ _ => True) (fun _ U o U' => ∃ v L, o = .returned v ∧ q v U'.heap L ∧ FrameEnd U o U' L rm.cells rm.slots)
theorem own_back {a0 : Array Value} {h : Heap} {y : MethodName} {bytes : ByteArray} {maxL : Nat} {ret : Option FieldType} {rm : Room} {len W : Nat} {as' : Array Value} (hM : own_Met l Z y bytes maxL ret [] rm as' h q)
    (hZ : Z.Warmed39 s.vm) (wc : (Jvm.Cond.code y bytes maxL ret).before a0 Z = true) (wz : (Jvm.Cond.initialized y.cls).before a0 Z = true) (hf : rm.frames + 1 ≤ R.frames) (hl : W + (maxL + 11) + rm.locals ≤ R.locals) :
    Back l R p e below s args y len W (fun A a => a = as' ∧ A.U.heap = h ∧ A.cells + rm.cells ≤ R.cells ∧ A.slots + rm.slots ≤ R.slots)
      (fun A _ v B => ∃ L, q v B.U.heap L ∧ B.locs = A.locs ++ L ∧ B.cells = A.cells + rm.cells ∧ B.slots = A.slots + rm.slots) := backOf (Q := q) hM hZ wc wz hf hl
theorem own_enter {y : MethodName} {bytes : ByteArray} {maxL : Nat} {ret : Option FieldType} {ws : List Jvm.Cond} {rm : Room} {as' : Array Value} {h0 : Heap} (hpl : plainFor y = true)
    (k : ∀ (p : Program) (e : Env) (s : State) (m : MethodId) (below : List Frame) (meth : Method) (c : Code) (s₁ : State), Stand p l e rm s m as' below meth c s₁ [] 0 0 → p.tables.exec = Jvm.exec → Z.Warmed39 s.vm → c.code = bytes → c.maxLocals = maxL → s.vm.findClass y.cls = some m.cls → meth.name = y.name → meth.sig.returnType = ret → meth.locks = false → s₁.heap = h0 → own_Fin p e below s rm q (s₁.setTop (entryFrame m as' maxL))) :
    own_Met l Z y bytes maxL ret ws rm as' h0 q := by
  refine MetFree.of_bodySF hpl hisR ?_
  intro p e s m args below meth c s₁ Bd hml0 hP hK
  obtain ⟨rfl, hZ, hh⟩ := hP
  exact k p e s m below meth c s₁ (Stand.of_body Bd) Bd.exec hZ Bd.bytes hml0 (findClass_of_methodNamed Bd.named) (name_of_methodNamed Bd.named Bd.method).1 Bd.returns Bd.notSynchronized (by rw [← hh, Bd.state]; rfl)
theorem own_selP {a : Array Value} {y y' : MethodName} (w : (Jvm.Cond.selects y'.cls y' y').before a s = true) (hc : y'.cls = y.cls) (hp : s.PrivateAt y) (hi : (Jvm.Cond.instanceMethod y).before a s = true) (hy : y.cls ≠ "java/lang/invoke/MethodHandle" ∧ y.cls ≠ "java/lang/invoke/VarHandle") : (Jvm.Cond.selects y.cls y y).before a s = true := by
  obtain ⟨c, r, m, h1, -, h3, -, mk, h4, h5⟩ := Cond.selects_spec w
  exact selects_self_of_private (c := m.cls) (k := mk) (hc ▸ findClass_of_methodNamed h3) h4 h5 hp hi hy
end Own
/-! floats: the quotient of two positive whole numbers is finite and above 0 -/
theorem own_w32 {a : Int64} (h1 : 0 < a.toInt) (h2 : a.toInt < 16777216) : ∃ c q, FP.Core.val32 (FP.l2f a) = .fin false c q ∧ FP.Core.b32.qmin ≤ q ∧ c * 2 ^ (q - FP.Core.b32.qmin).toNat = a.toInt.natAbs * 2 ^ 149 := by
  obtain ⟨c, q, e⟩ := FP.Core.l2f_shape a
  have w := FP.Core.l2f_whole (a := a) ⟨by omega, h2⟩
  have f := FP.Core.val32_fits (FP.l2f a)
  have e' : FP.Core.val32 (FP.l2f a) = .fin (decide (a.toInt < 0)) c q := e
  rw [e'] at f
  have w' : FP.Core.Whole a.toInt (.fin (decide (a.toInt < 0)) c q) := e' ▸ w
  have hq : FP.Core.b32.qmin ≤ q := f.2.1
  have u := FP.Core.whole_units w' hq
  have hd : decide (a.toInt < 0) = false := by rw [decide_eq_false_iff_not]; omega
  rw [hd] at u e'
  refine ⟨c, q, e', hq, ?_⟩
  have k1 : (FP.Core.b32.qmin).toNat = 0 := by decide
  have k2 : (-FP.Core.b32.qmin).toNat = 149 := by decide
  rw [k1, k2] at u
  have u2 : ((FP.Core.inUnits c q FP.Core.b32.qmin : Nat) : Int) = a.toInt * ((2 ^ 149 : Nat) : Int) := by
    have : FP.Core.signed false (FP.Core.inUnits c q FP.Core.b32.qmin) = ((FP.Core.inUnits c q FP.Core.b32.qmin : Nat) : Int) := rfl
    rw [this] at u
    simpa using u
  have u3 : (a.toInt.natAbs : Int) = a.toInt := by omega
  rw [← u3, ← Int.natCast_mul] at u2
  exact Int.ofNat.inj u2
theorem own_fq {a b : Int64} (a1 : 0 < a.toInt) (a2 : a.toInt < 16777216) (b1 : 0 < b.toInt) (b2 : b.toInt < 16777216) : FP.fcmp (FP.fdiv (FP.l2f a) (FP.l2f b)) 0 = some .gt := by
  obtain ⟨c, q, ea, hq, hc⟩ := own_w32 a1 a2
  obtain ⟨d, r, eb, hr, hd⟩ := own_w32 b1 b2
  have hd0 : d ≠ 0 := by
    rintro rfl
    rw [Nat.zero_mul] at hd
    have := Nat.mul_pos (show 0 < b.toInt.natAbs by omega) (Nat.two_pow_pos 149)
    omega
  have hv : FP.Core.val32 (FP.fdiv (FP.l2f a) (FP.l2f b)) = FP.Core.roundRatio FP.Core.b32 false c d (q - r) := by
    have := FP.Core.val32_fdiv (FP.l2f a) (FP.l2f b)
    rw [this, ea, eb]
    simp only [FP.Core.quotient, if_neg hd0]
    rfl
  have hqm : FP.Core.b32.qmin = -149 := by decide
  have hm : 1 ≤ FP.Core.mag FP.Core.b32 (FP.fdiv (FP.l2f a) (FP.l2f b)).toNat := by
    refine FP.Core.mag_ge FP.Core.good_b32 hv (Nat.pos_of_ne_zero hd0) (e0 := 2 * FP.Core.b32.qmin - r) (by omega) (by omega) (by decide) ?_
    have k3 : FP.Core.unitsOf FP.Core.b32 1 = 1 := by decide
    rw [k3, Nat.one_mul]
    show 2 ^ (FP.Core.b32.qmin - (2 * FP.Core.b32.qmin - r)).toNat * d ≤ c * 2 ^ (q - r - (2 * FP.Core.b32.qmin - r)).toNat
    have k4 : (FP.Core.b32.qmin - (2 * FP.Core.b32.qmin - r)).toNat = (r - FP.Core.b32.qmin).toNat := by omega
    have k5 : (q - r - (2 * FP.Core.b32.qmin - r)).toNat = (q - FP.Core.b32.qmin).toNat + 149 := by
      have : FP.Core.b32.qmin = -149 := by decide
      omega
    rw [k4, k5, Nat.pow_add, ← Nat.mul_assoc, hc, Nat.mul_comm, hd]
    have e1 : b.toInt.natAbs ≤ 2 ^ 149 := by omega
    have e2 : 1 ≤ a.toInt.natAbs := by omega
    calc b.toInt.natAbs * 2 ^ 149 ≤ 2 ^ 149 * 2 ^ 149 := Nat.mul_le_mul_right _ e1
      _ = 1 * 2 ^ 149 * 2 ^ 149 := by rw [Nat.one_mul]
      _ ≤ a.toInt.natAbs * 2 ^ 149 * 2 ^ 149 := Nat.mul_le_mul_right _ (Nat.mul_le_mul_right _ e2)
  have hn : FP.Core.val32 (FP.fdiv (FP.l2f a) (FP.l2f b)) ≠ .nan := by rw [hv]; exact FP.Core.roundRatio_ne_nan _ _ _ _ _
  have h0 : FP.Core.val32 0 ≠ .nan := by decide
  have hs : FP.Core.sgn (FP.Core.val32 (FP.fdiv (FP.l2f a) (FP.l2f b))) = false := by rw [hv]; exact FP.Core.sgn_roundRatio _ _ _ _ _
  generalize FP.fdiv (FP.l2f a) (FP.l2f b) = f at *
  have hf : FP.fcmp f 0 = FP.Core.order (FP.Core.val32 f) (FP.Core.val32 0) := rfl
  have z : FP.Core.val32 0 = .fin false 0 (-149) := by decide
  have nz : FP.fcmp f 0 ≠ some .eq := fun q => by
    rcases FP.Core.zero_bits32 q with rfl | rfl
    · revert hm; decide
    · revert hm; decide
  rw [hf, z] at nz ⊢
  revert hs hn nz
  cases FP.Core.val32 f with
  | nan => intro hn hs; exact absurd rfl hn
  | inf s => intro hn hs nz; cases s
             · rfl
             · exact absurd hs (by decide)
  | fin s c' q' =>
    intro hn hs nz
    have hs' : s = false := hs
    subst hs'
    simp only [FP.Core.order] at nz ⊢
    have e1 : FP.Core.signed false (FP.Core.inUnits 0 (-149) (min q' (-149))) = 0 := by simp [FP.Core.signed, FP.Core.inUnits]
    rw [e1] at nz ⊢
    have e2 : 0 ≤ FP.Core.signed false (FP.Core.inUnits c' q' (min q' (-149))) := by
      show (0 : Int) ≤ ((FP.Core.inUnits c' q' (min q' (-149)) : Nat) : Int); omega
    generalize FP.Core.signed false (FP.Core.inUnits c' q' (min q' (-149))) = k at nz e2 ⊢
    rw [FP.Core.compare_ite] at nz ⊢
    rw [if_neg (by omega)] at nz ⊢
    by_cases hk : k = 0
    · rw [if_pos hk] at nz; exact absurd rfl nz
    · rw [if_neg hk]
theorem own_ffin {a b : Int64} (b1 : 0 < b.toInt) : Jvm.Free.Fl.Fin32 (FP.fdiv (FP.l2f a) (FP.l2f b)) := by
  have h1 : (FP.l2f a).toNat % 2 ^ 31 < 192 * 2 ^ 23 := Jvm.Free.Fl.l2f_mag a
  have h2 := FP.Core.fromInt_ge32 (FP.Core.toNat_l2f b) (by omega)
  have h3 : (FP.l2f b).toNat % 2 ^ 31 < 192 * 2 ^ 23 := Jvm.Free.Fl.l2f_mag b
  have h := FP.Core.fdiv_mag (a := FP.l2f a) (b := FP.l2f b) (K := 192) (L := 127) h1 h2 (by omega) (by decide) (by decide)
  have m : Jvm.Free.Fl.Mag32 193 (FP.fdiv (FP.l2f a) (FP.l2f b)) := by
    show (FP.fdiv (FP.l2f a) (FP.l2f b)).toNat % 2147483648 < 193 * 8388608
    have e : (192 + (149 - 23 - 1) - 127 + 3) = 193 := by decide
    rw [e] at h
    exact h
  exact m.fin (by decide)
def own_G (p : Int32) (f : UInt32) (n : Int32) : Int32 := cmpValue (FP.dcmp (FP.dmul (FP.i2d n) (FP.f2d f)) (FP.i2d p)) .g
def own_L (p : Int32) (f : UInt32) (n : Int32) : Int32 := cmpValue (FP.dcmp (FP.dmul (FP.i2d n) (FP.f2d f)) (FP.i2d p)) .l
theorem own_lt32 (x y : Int32) : (x < y) = (x.toInt < y.toInt) := propext Int32.lt_iff_toInt_lt
/-- what the sizing loop leaves -/
def own_T (p : Int32) (f : UInt32) (n : Int32) : Prop := ¬ n < (2 : Int32) ∧ ¬ (1073741824 : Int32) < n ∧ (n &&& (n - (1 : Int32))) = (0 : Int32) ∧ (¬ n = (1073741824 : Int32) → ¬ own_G p f n < (0 : Int32)) ∧ (¬ n = (2 : Int32) → own_G p f (n / (2 : Int32)) < (0 : Int32))
/-- a load factor: finite, above 0 -/
def own_F (f : UInt32) : Prop := Jvm.Free.Fl.Fin32 f ∧ FP.fcmp f 0 = some .gt
theorem own_F.gt {f : UInt32} (h : own_F f) : (0 : Int32) < cmpValue (FP.fcmp f FP.fconst0) .l := by
  rw [show FP.fconst0 = (0 : UInt32) from by decide, h.2]; decide
theorem own_i2dfin (n : Int32) : Jvm.Free.Fl.Fin64 (FP.i2d n) := Jvm.Free.Fl.i2d_fin n
theorem own_F.nd {f : UInt32} (h : own_F f) : Jvm.Free.Fl.NoNaN64 (FP.f2d f) := Jvm.Free.Fl.f2d_out h.1.noNaN
theorem own_F.nm {f : UInt32} (h : own_F f) (n : Int32) : Jvm.Free.Fl.NoNaN64 (FP.dmul (FP.i2d n) (FP.f2d f)) := Jvm.Free.Fl.dmul_out (own_i2dfin n) (Jvm.Free.Fl.f2d_fin h.1)
theorem own_nn {x : UInt64} (h : Jvm.Free.Fl.NoNaN64 x) : FP.Core.val64 x ≠ .nan := by
  have q := Jvm.Free.Fl.noNaN64_no.mp h
  intro z
  have : FP.Core.dIsNaN x = true := by
    show FP.Core.isNaN FP.Core.b64 x.toNat = true
    unfold FP.Core.isNaN
    rw [show FP.Core.decode FP.Core.b64 x.toNat = .nan from z]
    rfl
  rw [this] at q; cases q
theorem own_LG {p : Int32} {f : UInt32} (h : own_F f) (n : Int32) : own_L p f n = own_G p f n := by
  unfold own_L own_G
  have a := own_nn (h.nm n)
  have b := own_nn (own_i2dfin p).noNaN
  cases hc : FP.dcmp (FP.dmul (FP.i2d n) (FP.f2d f)) (FP.i2d p) with
  | none => rcases (FP.Core.dcmp_none _ _).mp hc with q | q
            · exact absurd q a
            · exact absurd q b
  | some o => cases o <;> rfl
theorem own_d2_0 : decode prog_6_method_2_code 0 = .ok (.iload_n 0, 1) := by decide +kernel
theorem own_d2_1 : decode prog_6_method_2_code 1 = .ok (.ifCond .ge 17, 3) := by decide +kernel
theorem own_d2_4 : decode prog_6_method_2_code 4 = .ok (.new 7, 3) := by decide +kernel
theorem own_d2_7 : decode prog_6_method_2_code 7 = .ok (.dup, 1) := by decide +kernel
theorem own_d2_8 : decode prog_6_method_2_code 8 = .ok (.iload_n 0, 1) := by decide +kernel
theorem own_d2_14 : decode prog_6_method_2_code 14 = .ok (.invokespecial 13, 3) := by decide +kernel
theorem own_d2_17 : decode prog_6_method_2_code 17 = .ok (.athrow, 1) := by decide +kernel
theorem own_d2_18 : decode prog_6_method_2_code 18 = .ok (.fload_n 1, 1) := by decide +kernel
theorem own_d2_19 : decode prog_6_method_2_code 19 = .ok (.fconst 0, 1) := by decide +kernel
theorem own_d2_20 : decode prog_6_method_2_code 20 = .ok (.fcmp .l, 1) := by decide +kernel
theorem own_d2_21 : decode prog_6_method_2_code 21 = .ok (.ifCond .gt 17, 3) := by decide +kernel
theorem own_d2_24 : decode prog_6_method_2_code 24 = .ok (.new 7, 3) := by decide +kernel
theorem own_d2_27 : decode prog_6_method_2_code 27 = .ok (.dup, 1) := by decide +kernel
theorem own_d2_28 : decode prog_6_method_2_code 28 = .ok (.fload_n 1, 1) := by decide +kernel
theorem own_d2_34 : decode prog_6_method_2_code 34 = .ok (.invokespecial 13, 3) := by decide +kernel
theorem own_d2_37 : decode prog_6_method_2_code 37 = .ok (.athrow, 1) := by decide +kernel
theorem own_d2_38 : decode prog_6_method_2_code 38 = .ok (.iconst 2, 1) := by decide +kernel
theorem own_d2_39 : decode prog_6_method_2_code 39 = .ok (.istore_n 2, 1) := by decide +kernel
theorem own_d2_40 : decode prog_6_method_2_code 40 = .ok (.iload_n 2, 1) := by decide +kernel
theorem own_d2_41 : decode prog_6_method_2_code 41 = .ok (.ldc 21, 2) := by decide +kernel
theorem own_d2_43 : decode prog_6_method_2_code 43 = .ok (.if_icmp .ge 21, 3) := by decide +kernel
theorem own_d2_46 : decode prog_6_method_2_code 46 = .ok (.iload_n 2, 1) := by decide +kernel
theorem own_d2_47 : decode prog_6_method_2_code 47 = .ok (.i2d, 1) := by decide +kernel
theorem own_d2_48 : decode prog_6_method_2_code 48 = .ok (.fload_n 1, 1) := by decide +kernel
theorem own_d2_49 : decode prog_6_method_2_code 49 = .ok (.f2d, 1) := by decide +kernel
theorem own_d2_50 : decode prog_6_method_2_code 50 = .ok (.dmul, 1) := by decide +kernel
theorem own_d2_51 : decode prog_6_method_2_code 51 = .ok (.iload_n 0, 1) := by decide +kernel
theorem own_d2_52 : decode prog_6_method_2_code 52 = .ok (.i2d, 1) := by decide +kernel
theorem own_d2_53 : decode prog_6_method_2_code 53 = .ok (.dcmp .g, 1) := by decide +kernel
theorem own_d2_54 : decode prog_6_method_2_code 54 = .ok (.ifCond .ge 10, 3) := by decide +kernel
theorem own_d2_57 : decode prog_6_method_2_code 57 = .ok (.iload_n 2, 1) := by decide +kernel
theorem own_d2_58 : decode prog_6_method_2_code 58 = .ok (.iconst 1, 1) := by decide +kernel
theorem own_d2_59 : decode prog_6_method_2_code 59 = .ok (.ishl, 1) := by decide +kernel
theorem own_d2_60 : decode prog_6_method_2_code 60 = .ok (.istore_n 2, 1) := by decide +kernel
theorem own_d2_61 : decode prog_6_method_2_code 61 = .ok (.goto (-21), 3) := by decide +kernel
theorem own_d2_64 : decode prog_6_method_2_code 64 = .ok (.iload_n 2, 1) := by decide +kernel
theorem own_d2_65 : decode prog_6_method_2_code 65 = .ok (.ireturn, 1) := by decide +kernel
theorem own_pn0 : plainName "com/example/stripeline/stripeline/Sizing" = true := by first | (simp [plainName, overriddenIn]; done) | decide +kernel
theorem own_tl_ef (m : MethodId) (p1 : Int32) (f : UInt32) : entryFrame m #[(.int p1), (.float f)] 3 = mkF m 0 #[.val (.int p1), .val (.float f), .unset] [] := by first | (simp [entryFrame, mkF, argsToLocals, Value.category]; done) | rfl
set_option maxRecDepth 65536 in
set_option maxHeartbeats 40000000 in
theorem own_tl (l : Launch) (Z : State) (a0 : Array Value) (hw : ∀ d ∈ tables_1, d.before a0 Z = true) (ws : List Jvm.Cond) (p1 : Int32) (f : UInt32) (h0 : Heap) (n0 : Nat) (Z0 : n0 ≤ h0.size) (hc : ¬ p1 < (0 : Int32)) (hF : own_F f) :
    own_Met l Z (⟨"com/example/stripeline/stripeline/Sizing", "tableLength", "(IF)I"⟩ : MethodName) prog_6_method_2_code 3 (some .int) ws ({ frames := 0, cells := 0, slots := 0, locals := 0 } : Room) #[(.int p1), (.float f)] h0 (fun v h L => ∃ n, v = some (.int n) ∧ Fr n0 L ∧ h = h0 ∧ own_T p1 f n) := by
  refine own_enter (plainFor_of_name own_pn0) ?_
  intro p e s m below meth c s₁ X0 hx hZ hby hml hown hnm hret hlk e0
  have N0 := Fr.nil n0
  rw [own_tl_ef m p1 f]
  show own_Fin _ _ _ _ _ _ (s₁.setTop (mkF m 0 #[.val (.int p1), .val (.float f), .unset] []))
  refine own_to (fun t k => XS.iloadN X0.here hx rfl (hb hby own_d2_0) rfl k) ?_
  show own_Fin _ _ _ _ _ _ (s₁.setTop (mkF m 1 #[.val (.int p1), .val (.float f), .unset] [(.int p1)]))
  refine own_to (fun t k => XS.ifYes X0.here hx rfl (pc0 := 1) (pc' := 18) rfl (hb hby own_d2_1) rfl ((if0 _ _).trans (flt hc).2.1) (by decide) (by decide) k) ?_
  show own_Fin _ _ _ _ _ _ (s₁.setTop (mkF m 18 #[.val (.int p1), .val (.float f), .unset] []))
  refine own_to (fun t k => XS.floadN X0.here hx rfl (hb hby own_d2_18) rfl k) ?_
  show own_Fin _ _ _ _ _ _ (s₁.setTop (mkF m 19 #[.val (.int p1), .val (.float f), .unset] [(.float f)]))
  refine own_to (fun t k => XS.fconst0 X0.here hx rfl (hb hby own_d2_19) rfl k) ?_
  show own_Fin _ _ _ _ _ _ (s₁.setTop (mkF m 20 #[.val (.int p1), .val (.float f), .unset] [(.float FP.fconst0), (.float f)]))
  refine own_to (fun t k => XS.fcmpS X0.here hx rfl (hb hby own_d2_20) rfl rfl k) ?_
  show own_Fin _ _ _ _ _ _ (s₁.setTop (mkF m 21 #[.val (.int p1), .val (.float f), .unset] [(.int (cmpValue (FP.fcmp f FP.fconst0) .l))]))
  have hgt := hF.gt
  refine own_to (fun t k => XS.ifYes X0.here hx rfl (pc0 := 21) (pc' := 38) rfl (hb hby own_d2_21) rfl ((if0 _ _).trans (tlt hgt).2.2.1) (by decide) (by decide) k) ?_
  show own_Fin _ _ _ _ _ _ (s₁.setTop (mkF m 38 #[.val (.int p1), .val (.float f), .unset] []))
  refine own_to (fun t k => XS.iconst X0.here hx rfl (hb hby own_d2_38) k) ?_
  show own_Fin _ _ _ _ _ _ (s₁.setTop (mkF m 39 #[.val (.int p1), .val (.float f), .unset] [(.int (2 : Int32))]))
  refine own_to (fun t k => XS.istoreN X0.here hx rfl (hb hby own_d2_39) rfl (l' := #[.val (.int p1), .val (.float f), .val (.int (2 : Int32))]) rfl k) ?_
  show own_Fin _ _ _ _ _ _ (s₁.setTop (mkF m 40 #[.val (.int p1), .val (.float f), .val (.int (2 : Int32))] []))
  refine own_to (fun t k => XS.iloadN X0.here hx rfl (hb hby own_d2_40) rfl k) ?_
  show own_Fin _ _ _ _ _ _ (s₁.setTop (mkF m 41 #[.val (.int p1), .val (.float f), .val (.int (2 : Int32))] [(.int (2 : Int32))]))
  refine own_to (fun t k => X0.ldcInt hx hown (mvT hZ (hw _ (List.mem_of_getElem? (i := 8) rfl))) (g := (mkF m 41 #[.val (.int p1), .val (.float f), .val (.int (2 : Int32))] [(.int (2 : Int32))])) rfl (hb hby own_d2_41) _ k) ?_
  show own_Fin _ _ _ _ _ _ (s₁.setTop (mkF m 43 #[.val (.int p1), .val (.float f), .val (.int (2 : Int32))] [(.int (1073741824 : Int32)), (.int (2 : Int32))]))
  refine own_to (fun t k => XS.icmpNo X0.here hx rfl (hb hby own_d2_43) rfl (tlt (by decide)).2.1 k) ?_
  show own_Fin _ _ _ _ _ _ (s₁.setTop (mkF m 46 #[.val (.int p1), .val (.float f), .val (.int (2 : Int32))] []))
  refine own_to (fun t k => XS.iloadN X0.here hx rfl (hb hby own_d2_46) rfl k) ?_
  show own_Fin _ _ _ _ _ _ (s₁.setTop (mkF m 47 #[.val (.int p1), .val (.float f), .val (.int (2 : Int32))] [(.int (2 : Int32))]))
  refine own_to (fun t k => XS.i2dS X0.here hx rfl (hb hby own_d2_47) rfl rfl k) ?_
  show own_Fin _ _ _ _ _ _ (s₁.setTop (mkF m 48 #[.val (.int p1), .val (.float f), .val (.int (2 : Int32))] [(.double (FP.i2d (2 : Int32)))]))
  refine own_to (fun t k => XS.floadN X0.here hx rfl (hb hby own_d2_48) rfl k) ?_
  show own_Fin _ _ _ _ _ _ (s₁.setTop (mkF m 49 #[.val (.int p1), .val (.float f), .val (.int (2 : Int32))] [(.float f), (.double (FP.i2d (2 : Int32)))]))
  refine own_to (fun t k => XS.f2dS X0.here hx rfl (hb hby own_d2_49) rfl hF.nd rfl k) ?_
  show own_Fin _ _ _ _ _ _ (s₁.setTop (mkF m 50 #[.val (.int p1), .val (.float f), .val (.int (2 : Int32))] [(.double (FP.f2d f)), (.double (FP.i2d (2 : Int32)))]))
  refine own_to (fun t k => XS.dmulS X0.here hx rfl (hb hby own_d2_50) rfl (hF.nm _) rfl k) ?_
  show own_Fin _ _ _ _ _ _ (s₁.setTop (mkF m 51 #[.val (.int p1), .val (.float f), .val (.int (2 : Int32))] [(.double (FP.dmul (FP.i2d (2 : Int32)) (FP.f2d f)))]))
  refine own_to (fun t k => XS.iloadN X0.here hx rfl (hb hby own_d2_51) rfl k) ?_
  show own_Fin _ _ _ _ _ _ (s₁.setTop (mkF m 52 #[.val (.int p1), .val (.float f), .val (.int (2 : Int32))] [(.int p1), (.double (FP.dmul (FP.i2d (2 : Int32)) (FP.f2d f)))]))
  refine own_to (fun t k => XS.i2dS X0.here hx rfl (hb hby own_d2_52) rfl rfl k) ?_
  show own_Fin _ _ _ _ _ _ (s₁.setTop (mkF m 53 #[.val (.int p1), .val (.float f), .val (.int (2 : Int32))] [(.double (FP.i2d p1)), (.double (FP.dmul (FP.i2d (2 : Int32)) (FP.f2d f)))]))
  refine own_to (fun t k => XS.dcmpS X0.here hx rfl (hb hby own_d2_53) rfl rfl k) ?_
  show own_Fin _ _ _ _ _ _ (s₁.setTop (mkF m 54 #[.val (.int p1), .val (.float f), .val (.int (2 : Int32))] [(.int (cmpValue (FP.dcmp (FP.dmul (FP.i2d (2 : Int32)) (FP.f2d f)) (FP.i2d p1)) .g))]))
  show own_Fin _ _ _ _ _ _ (s₁.setTop (mkF m 54 #[.val (.int p1), .val (.float f), .val (.int (2 : Int32))] [(.int (own_G p1 f (2 : Int32)))]))
  by_cases hc54_1 : (own_G p1 f (2 : Int32)) < (0 : Int32)
  ·
    show own_Fin _ _ _ _ _ _ (s₁.setTop (mkF m 54 #[.val (.int p1), .val (.float f), .val (.int (2 : Int32))] [(.int (own_G p1 f (2 : Int32)))]))
    refine own_to (fun t k => XS.ifNo X0.here hx rfl (hb hby own_d2_54) rfl ((if0 _ _).trans (tlt hc54_1).2.1) k) ?_
    show own_Fin _ _ _ _ _ _ (s₁.setTop (mkF m 57 #[.val (.int p1), .val (.float f), .val (.int (2 : Int32))] []))
    refine own_to (fun t k => XS.iloadN X0.here hx rfl (hb hby own_d2_57) rfl k) ?_
    show own_Fin _ _ _ _ _ _ (s₁.setTop (mkF m 58 #[.val (.int p1), .val (.float f), .val (.int (2 : Int32))] [(.int (2 : Int32))]))
    refine own_to (fun t k => XS.iconst X0.here hx rfl (hb hby own_d2_58) k) ?_
    show own_Fin _ _ _ _ _ _ (s₁.setTop (mkF m 59 #[.val (.int p1), .val (.float f), .val (.int (2 : Int32))] [(.int (1 : Int32)), (.int (2 : Int32))]))
    refine own_to (fun t k => XS.ishl X0.here hx rfl (hb hby own_d2_59) rfl k) ?_
    show own_Fin _ _ _ _ _ _ (s₁.setTop (mkF m 60 #[.val (.int p1), .val (.float f), .val (.int (2 : Int32))] [(.int (4 : Int32))]))
    refine own_to (fun t k => XS.istoreN X0.here hx rfl (hb hby own_d2_60) rfl (l' := #[.val (.int p1), .val (.float f), .val (.int (4 : Int32))]) rfl k) ?_
    show own_Fin _ _ _ _ _ _ (s₁.setTop (mkF m 61 #[.val (.int p1), .val (.float f), .val (.int (4 : Int32))] []))
    refine own_to (fun t k => XS.goto X0.here hx rfl (pc0 := 61) (pc' := 40) rfl (hb hby own_d2_61) (by decide) (by decide) k) ?_
    show own_Fin _ _ _ _ _ _ (s₁.setTop (mkF m 40 #[.val (.int p1), .val (.float f), .val (.int (4 : Int32))] []))
    refine own_to (fun t k => XS.iloadN X0.here hx rfl (hb hby own_d2_40) rfl k) ?_
    show own_Fin _ _ _ _ _ _ (s₁.setTop (mkF m 41 #[.val (.int p1), .val (.float f), .val (.int (4 : Int32))] [(.int (4 : Int32))]))
    refine own_to (fun t k => X0.ldcInt hx hown (mvT hZ (hw _ (List.mem_of_getElem? (i := 8) rfl))) (g := (mkF m 41 #[.val (.int p1), .val (.float f), .val (.int (4 : Int32))] [(.int (4 : Int32))])) rfl (hb hby own_d2_41) _ k) ?_
    show own_Fin _ _ _ _ _ _ (s₁.setTop (mkF m 43 #[.val (.int p1), .val (.float f), .val (.int (4 : Int32))] [(.int (1073741824 : Int32)), (.int (4 : Int32))]))
    refine own_to (fun t k => XS.icmpNo X0.here hx rfl (hb hby own_d2_43) rfl (tlt (by decide)).2.1 k) ?_
    show own_Fin _ _ _ _ _ _ (s₁.setTop (mkF m 46 #[.val (.int p1), .val (.float f), .val (.int (4 : Int32))] []))
    refine own_to (fun t k => XS.iloadN X0.here hx rfl (hb hby own_d2_46) rfl k) ?_
    show own_Fin _ _ _ _ _ _ (s₁.setTop (mkF m 47 #[.val (.int p1), .val (.float f), .val (.int (4 : Int32))] [(.int (4 : Int32))]))
    refine own_to (fun t k => XS.i2dS X0.here hx rfl (hb hby own_d2_47) rfl rfl k) ?_
    show own_Fin _ _ _ _ _ _ (s₁.setTop (mkF m 48 #[.val (.int p1), .val (.float f), .val (.int (4 : Int32))] [(.double (FP.i2d (4 : Int32)))]))
    refine own_to (fun t k => XS.floadN X0.here hx rfl (hb hby own_d2_48) rfl k) ?_
    show own_Fin _ _ _ _ _ _ (s₁.setTop (mkF m 49 #[.val (.int p1), .val (.float f), .val (.int (4 : Int32))] [(.float f), (.double (FP.i2d (4 : Int32)))]))
    refine own_to (fun t k => XS.f2dS X0.here hx rfl (hb hby own_d2_49) rfl hF.nd rfl k) ?_
    show own_Fin _ _ _ _ _ _ (s₁.setTop (mkF m 50 #[.val (.int p1), .val (.float f), .val (.int (4 : Int32))] [(.double (FP.f2d f)), (.double (FP.i2d (4 : Int32)))]))
    refine own_to (fun t k => XS.dmulS X0.here hx rfl (hb hby own_d2_50) rfl (hF.nm _) rfl k) ?_
    show own_Fin _ _ _ _ _ _ (s₁.setTop (mkF m 51 #[.val (.int p1), .val (.float f), .val (.int (4 : Int32))] [(.double (FP.dmul (FP.i2d (4 : Int32)) (FP.f2d f)))]))
    refine own_to (fun t k => XS.iloadN X0.here hx rfl (hb hby own_d2_51) rfl k) ?_
    show own_Fin _ _ _ _ _ _ (s₁.setTop (mkF m 52 #[.val (.int p1), .val (.float f), .val (.int (4 : Int32))] [(.int p1), (.double (FP.dmul (FP.i2d (4 : Int32)) (FP.f2d f)))]))
    refine own_to (fun t k => XS.i2dS X0.here hx rfl (hb hby own_d2_52) rfl rfl k) ?_
    show own_Fin _ _ _ _ _ _ (s₁.setTop (mkF m 53 #[.val (.int p1), .val (.float f), .val (.int (4 : Int32))] [(.double (FP.i2d p1)), (.double (FP.dmul (FP.i2d (4 : Int32)) (FP.f2d f)))]))
    refine own_to (fun t k => XS.dcmpS X0.here hx rfl (hb hby own_d2_53) rfl rfl k) ?_
    show own_Fin _ _ _ _ _ _ (s₁.setTop (mkF m 54 #[.val (.int p1), .val (.float f), .val (.int (4 : Int32))] [(.int (cmpValue (FP.dcmp (FP.dmul (FP.i2d (4 : Int32)) (FP.f2d f)) (FP.i2d p1)) .g))]))
    show own_Fin _ _ _ _ _ _ (s₁.setTop (mkF m 54 #[.val (.int p1), .val (.float f), .val (.int (4 : Int32))] [(.int (own_G p1 f (4 : Int32)))]))
    by_cases hc54_2 : (own_G p1 f (4 : Int32)) < (0 : Int32)
    ·
      show own_Fin _ _ _ _ _ _ (s₁.setTop (mkF m 54 #[.val (.int p1), .val (.float f), .val (.int (4 : Int32))] [(.int (own_G p1 f (4 : Int32)))]))
      refine own_to (fun t k => XS.ifNo X0.here hx rfl (hb hby own_d2_54) rfl ((if0 _ _).trans (tlt hc54_2).2.1) k) ?_
      show own_Fin _ _ _ _ _ _ (s₁.setTop (mkF m 57 #[.val (.int p1), .val (.float f), .val (.int (4 : Int32))] []))
      refine own_to (fun t k => XS.iloadN X0.here hx rfl (hb hby own_d2_57) rfl k) ?_
      show own_Fin _ _ _ _ _ _ (s₁.setTop (mkF m 58 #[.val (.int p1), .val (.float f), .val (.int (4 : Int32))] [(.int (4 : Int32))]))
      refine own_to (fun t k => XS.iconst X0.here hx rfl (hb hby own_d2_58) k) ?_
      show own_Fin _ _ _ _ _ _ (s₁.setTop (mkF m 59 #[.val (.int p1), .val (.float f), .val (.int (4 : Int32))] [(.int (1 : Int32)), (.int (4 : Int32))]))
      refine own_to (fun t k => XS.ishl X0.here hx rfl (hb hby own_d2_59) rfl k) ?_
      show own_Fin _ _ _ _ _ _ (s₁.setTop (mkF m 60 #[.val (.int p1), .val (.float f), .val (.int (4 : Int32))] [(.int (8 : Int32))]))
      refine own_to (fun t k => XS.istoreN X0.here hx rfl (hb hby own_d2_60) rfl (l' := #[.val (.int p1), .val (.float f), .val (.int (8 : Int32))]) rfl k) ?_
      show own_Fin _ _ _ _ _ _ (s₁.setTop (mkF m 61 #[.val (.int p1), .val (.float f), .val (.int (8 : Int32))] []))
      refine own_to (fun t k => XS.goto X0.here hx rfl (pc0 := 61) (pc' := 40) rfl (hb hby own_d2_61) (by decide) (by decide) k) ?_
      show own_Fin _ _ _ _ _ _ (s₁.setTop (mkF m 40 #[.val (.int p1), .val (.float f), .val (.int (8 : Int32))] []))
      refine own_to (fun t k => XS.iloadN X0.here hx rfl (hb hby own_d2_40) rfl k) ?_
      show own_Fin _ _ _ _ _ _ (s₁.setTop (mkF m 41 #[.val (.int p1), .val (.float f), .val (.int (8 : Int32))] [(.int (8 : Int32))]))
      refine own_to (fun t k => X0.ldcInt hx hown (mvT hZ (hw _ (List.mem_of_getElem? (i := 8) rfl))) (g := (mkF m 41 #[.val (.int p1), .val (.float f), .val (.int (8 : Int32))] [(.int (8 : Int32))])) rfl (hb hby own_d2_41) _ k) ?_
      show own_Fin _ _ _ _ _ _ (s₁.setTop (mkF m 43 #[.val (.int p1), .val (.float f), .val (.int (8 : Int32))] [(.int (1073741824 : Int32)), (.int (8 : Int32))]))
      refine own_to (fun t k => XS.icmpNo X0.here hx rfl (hb hby own_d2_43) rfl (tlt (by decide)).2.1 k) ?_
      show own_Fin _ _ _ _ _ _ (s₁.setTop (mkF m 46 #[.val (.int p1), .val (.float f), .val (.int (8 : Int32))] []))
      refine own_to (fun t k => XS.iloadN X0.here hx rfl (hb hby own_d2_46) rfl k) ?_
      show own_Fin _ _ _ _ _ _ (s₁.setTop (mkF m 47 #[.val (.int p1), .val (.float f), .val (.int (8 : Int32))] [(.int (8 : Int32))]))
      refine own_to (fun t k => XS.i2dS X0.here hx rfl (hb hby own_d2_47) rfl rfl k) ?_
      show own_Fin _ _ _ _ _ _ (s₁.setTop (mkF m 48 #[.val (.int p1), .val (.float f), .val (.int (8 : Int32))] [(.double (FP.i2d (8 : Int32)))]))
      refine own_to (fun t k => XS.floadN X0.here hx rfl (hb hby own_d2_48) rfl k) ?_
      show own_Fin _ _ _ _ _ _ (s₁.setTop (mkF m 49 #[.val (.int p1), .val (.float f), .val (.int (8 : Int32))] [(.float f), (.double (FP.i2d (8 : Int32)))]))
      refine own_to (fun t k => XS.f2dS X0.here hx rfl (hb hby own_d2_49) rfl hF.nd rfl k) ?_
      show own_Fin _ _ _ _ _ _ (s₁.setTop (mkF m 50 #[.val (.int p1), .val (.float f), .val (.int (8 : Int32))] [(.double (FP.f2d f)), (.double (FP.i2d (8 : Int32)))]))
      refine own_to (fun t k => XS.dmulS X0.here hx rfl (hb hby own_d2_50) rfl (hF.nm _) rfl k) ?_
      show own_Fin _ _ _ _ _ _ (s₁.setTop (mkF m 51 #[.val (.int p1), .val (.float f), .val (.int (8 : Int32))] [(.double (FP.dmul (FP.i2d (8 : Int32)) (FP.f2d f)))]))
      refine own_to (fun t k => XS.iloadN X0.here hx rfl (hb hby own_d2_51) rfl k) ?_
      show own_Fin _ _ _ _ _ _ (s₁.setTop (mkF m 52 #[.val (.int p1), .val (.float f), .val (.int (8 : Int32))] [(.int p1), (.double (FP.dmul (FP.i2d (8 : Int32)) (FP.f2d f)))]))
      refine own_to (fun t k => XS.i2dS X0.here hx rfl (hb hby own_d2_52) rfl rfl k) ?_
      show own_Fin _ _ _ _ _ _ (s₁.setTop (mkF m 53 #[.val (.int p1), .val (.float f), .val (.int (8 : Int32))] [(.double (FP.i2d p1)), (.double (FP.dmul (FP.i2d (8 : Int32)) (FP.f2d f)))]))
      refine own_to (fun t k => XS.dcmpS X0.here hx rfl (hb hby own_d2_53) rfl rfl k) ?_
      show own_Fin _ _ _ _ _ _ (s₁.setTop (mkF m 54 #[.val (.int p1), .val (.float f), .val (.int (8 : Int32))] [(.int (cmpValue (FP.dcmp (FP.dmul (FP.i2d (8 : Int32)) (FP.f2d f)) (FP.i2d p1)) .g))]))
      show own_Fin _ _ _ _ _ _ (s₁.setTop (mkF m 54 #[.val (.int p1), .val (.float f), .val (.int (8 : Int32))] [(.int (own_G p1 f (8 : Int32)))]))
      by_cases hc54_3 : (own_G p1 f (8 : Int32)) < (0 : Int32)
      ·
        show own_Fin _ _ _ _ _ _ (s₁.setTop (mkF m 54 #[.val (.int p1), .val (.float f), .val (.int (8 : Int32))] [(.int (own_G p1 f (8 : Int32)))]))
        refine own_to (fun t k => XS.ifNo X0.here hx rfl (hb hby own_d2_54) rfl ((if0 _ _).trans (tlt hc54_3).2.1) k) ?_
        show own_Fin _ _ _ _ _ _ (s₁.setTop (mkF m 57 #[.val (.int p1), .val (.float f), .val (.int (8 : Int32))] []))
        refine own_to (fun t k => XS.iloadN X0.here hx rfl (hb hby own_d2_57) rfl k) ?_
        show own_Fin _ _ _ _ _ _ (s₁.setTop (mkF m 58 #[.val (.int p1), .val (.float f), .val (.int (8 : Int32))] [(.int (8 : Int32))]))
        refine own_to (fun t k => XS.iconst X0.here hx rfl (hb hby own_d2_58) k) ?_
        show own_Fin _ _ _ _ _ _ (s₁.setTop (mkF m 59 #[.val (.int p1), .val (.float f), .val (.int (8 : Int32))] [(.int (1 : Int32)), (.int (8 : Int32))]))
        refine own_to (fun t k => XS.ishl X0.here hx rfl (hb hby own_d2_59) rfl k) ?_
        show own_Fin _ _ _ _ _ _ (s₁.setTop (mkF m 60 #[.val (.int p1), .val (.float f), .val (.int (8 : Int32))] [(.int (16 : Int32))]))
        refine own_to (fun t k => XS.istoreN X0.here hx rfl (hb hby own_d2_60) rfl (l' := #[.val (.int p1), .val (.float f), .val (.int (16 : Int32))]) rfl k) ?_
        show own_Fin _ _ _ _ _ _ (s₁.setTop (mkF m 61 #[.val (.int p1), .val (.float f), .val (.int (16 : Int32))] []))
        refine own_to (fun t k => XS.goto X0.here hx rfl (pc0 := 61) (pc' := 40) rfl (hb hby own_d2_61) (by decide) (by decide) k) ?_
        show own_Fin _ _ _ _ _ _ (s₁.setTop (mkF m 40 #[.val (.int p1), .val (.float f), .val (.int (16 : Int32))] []))
        refine own_to (fun t k => XS.iloadN X0.here hx rfl (hb hby own_d2_40) rfl k) ?_
        show own_Fin _ _ _ _ _ _ (s₁.setTop (mkF m 41 #[.val (.int p1), .val (.float f), .val (.int (16 : Int32))] [(.int (16 : Int32))]))
        refine own_to (fun t k => X0.ldcInt hx hown (mvT hZ (hw _ (List.mem_of_getElem? (i := 8) rfl))) (g := (mkF m 41 #[.val (.int p1), .val (.float f), .val (.int (16 : Int32))] [(.int (16 : Int32))])) rfl (hb hby own_d2_41) _ k) ?_
        show own_Fin _ _ _ _ _ _ (s₁.setTop (mkF m 43 #[.val (.int p1), .val (.float f), .val (.int (16 : Int32))] [(.int (1073741824 : Int32)), (.int (16 : Int32))]))
        refine own_to (fun t k => XS.icmpNo X0.here hx rfl (hb hby own_d2_43) rfl (tlt (by decide)).2.1 k) ?_
        show own_Fin _ _ _ _ _ _ (s₁.setTop (mkF m 46 #[.val (.int p1), .val (.float f), .val (.int (16 : Int32))] []))
        refine own_to (fun t k => XS.iloadN X0.here hx rfl (hb hby own_d2_46) rfl k) ?_
        show own_Fin _ _ _ _ _ _ (s₁.setTop (mkF m 47 #[.val (.int p1), .val (.float f), .val (.int (16 : Int32))] [(.int (16 : Int32))]))
        refine own_to (fun t k => XS.i2dS X0.here hx rfl (hb hby own_d2_47) rfl rfl k) ?_
        show own_Fin _ _ _ _ _ _ (s₁.setTop (mkF m 48 #[.val (.int p1), .val (.float f), .val (.int (16 : Int32))] [(.double (FP.i2d (16 : Int32)))]))
        refine own_to (fun t k => XS.floadN X0.here hx rfl (hb hby own_d2_48) rfl k) ?_
        show own_Fin _ _ _ _ _ _ (s₁.setTop (mkF m 49 #[.val (.int p1), .val (.float f), .val (.int (16 : Int32))] [(.float f), (.double (FP.i2d (16 : Int32)))]))
        refine own_to (fun t k => XS.f2dS X0.here hx rfl (hb hby own_d2_49) rfl hF.nd rfl k) ?_
        show own_Fin _ _ _ _ _ _ (s₁.setTop (mkF m 50 #[.val (.int p1), .val (.float f), .val (.int (16 : Int32))] [(.double (FP.f2d f)), (.double (FP.i2d (16 : Int32)))]))
        refine own_to (fun t k => XS.dmulS X0.here hx rfl (hb hby own_d2_50) rfl (hF.nm _) rfl k) ?_
        show own_Fin _ _ _ _ _ _ (s₁.setTop (mkF m 51 #[.val (.int p1), .val (.float f), .val (.int (16 : Int32))] [(.double (FP.dmul (FP.i2d (16 : Int32)) (FP.f2d f)))]))
        refine own_to (fun t k => XS.iloadN X0.here hx rfl (hb hby own_d2_51) rfl k) ?_
        show own_Fin _ _ _ _ _ _ (s₁.setTop (mkF m 52 #[.val (.int p1), .val (.float f), .val (.int (16 : Int32))] [(.int p1), (.double (FP.dmul (FP.i2d (16 : Int32)) (FP.f2d f)))]))
        refine own_to (fun t k => XS.i2dS X0.here hx rfl (hb hby own_d2_52) rfl rfl k) ?_
        show own_Fin _ _ _ _ _ _ (s₁.setTop (mkF m 53 #[.val (.int p1), .val (.float f), .val (.int (16 : Int32))] [(.double (FP.i2d p1)), (.double (FP.dmul (FP.i2d (16 : Int32)) (FP.f2d f)))]))
        refine own_to (fun t k => XS.dcmpS X0.here hx rfl (hb hby own_d2_53) rfl rfl k) ?_
        show own_Fin _ _ _ _ _ _ (s₁.setTop (mkF m 54 #[.val (.int p1), .val (.float f), .val (.int (16 : Int32))] [(.int (cmpValue (FP.dcmp (FP.dmul (FP.i2d (16 : Int32)) (FP.f2d f)) (FP.i2d p1)) .g))]))
        show own_Fin _ _ _ _ _ _ (s₁.setTop (mkF m 54 #[.val (.int p1), .val (.float f), .val (.int (16 : Int32))] [(.int (own_G p1 f (16 : Int32)))]))
        by_cases hc54_4 : (own_G p1 f (16 : Int32)) < (0 : Int32)
        ·
          show own_Fin _ _ _ _ _ _ (s₁.setTop (mkF m 54 #[.val (.int p1), .val (.float f), .val (.int (16 : Int32))] [(.int (own_G p1 f (16 : Int32)))]))
          refine own_to (fun t k => XS.ifNo X0.here hx rfl (hb hby own_d2_54) rfl ((if0 _ _).trans (tlt hc54_4).2.1) k) ?_
          show own_Fin _ _ _ _ _ _ (s₁.setTop (mkF m 57 #[.val (.int p1), .val (.float f), .val (.int (16 : Int32))] []))
          refine own_to (fun t k => XS.iloadN X0.here hx rfl (hb hby own_d2_57) rfl k) ?_
          show own_Fin _ _ _ _ _ _ (s₁.setTop (mkF m 58 #[.val (.int p1), .val (.float f), .val (.int (16 : Int32))] [(.int (16 : Int32))]))
          refine own_to (fun t k => XS.iconst X0.here hx rfl (hb hby own_d2_58) k) ?_
          show own_Fin _ _ _ _ _ _ (s₁.setTop (mkF m 59 #[.val (.int p1), .val (.float f), .val (.int (16 : Int32))] [(.int (1 : Int32)), (.int (16 : Int32))]))
          refine own_to (fun t k => XS.ishl X0.here hx rfl (hb hby own_d2_59) rfl k) ?_
          show own_Fin _ _ _ _ _ _ (s₁.setTop (mkF m 60 #[.val (.int p1), .val (.float f), .val (.int (16 : Int32))] [(.int (32 : Int32))]))
          refine own_to (fun t k => XS.istoreN X0.here hx rfl (hb hby own_d2_60) rfl (l' := #[.val (.int p1), .val (.float f), .val (.int (32 : Int32))]) rfl k) ?_
          show own_Fin _ _ _ _ _ _ (s₁.setTop (mkF m 61 #[.val (.int p1), .val (.float f), .val (.int (32 : Int32))] []))
          refine own_to (fun t k => XS.goto X0.here hx rfl (pc0 := 61) (pc' := 40) rfl (hb hby own_d2_61) (by decide) (by decide) k) ?_
          show own_Fin _ _ _ _ _ _ (s₁.setTop (mkF m 40 #[.val (.int p1), .val (.float f), .val (.int (32 : Int32))] []))
          refine own_to (fun t k => XS.iloadN X0.here hx rfl (hb hby own_d2_40) rfl k) ?_
          show own_Fin _ _ _ _ _ _ (s₁.setTop (mkF m 41 #[.val (.int p1), .val (.float f), .val (.int (32 : Int32))] [(.int (32 : Int32))]))
          refine own_to (fun t k => X0.ldcInt hx hown (mvT hZ (hw _ (List.mem_of_getElem? (i := 8) rfl))) (g := (mkF m 41 #[.val (.int p1), .val (.float f), .val (.int (32 : Int32))] [(.int (32 : Int32))])) rfl (hb hby own_d2_41) _ k) ?_
          show own_Fin _ _ _ _ _ _ (s₁.setTop (mkF m 43 #[.val (.int p1), .val (.float f), .val (.int (32 : Int32))] [(.int (1073741824 : Int32)), (.int (32 : Int32))]))
          refine own_to (fun t k => XS.icmpNo X0.here hx rfl (hb hby own_d2_43) rfl (tlt (by decide)).2.1 k) ?_
          show own_Fin _ _ _ _ _ _ (s₁.setTop (mkF m 46 #[.val (.int p1), .val (.float f), .val (.int (32 : Int32))] []))
          refine own_to (fun t k => XS.iloadN X0.here hx rfl (hb hby own_d2_46) rfl k) ?_
          show own_Fin _ _ _ _ _ _ (s₁.setTop (mkF m 47 #[.val (.int p1), .val (.float f), .val (.int (32 : Int32))] [(.int (32 : Int32))]))
          refine own_to (fun t k => XS.i2dS X0.here hx rfl (hb hby own_d2_47) rfl rfl k) ?_
          show own_Fin _ _ _ _ _ _ (s₁.setTop (mkF m 48 #[.val (.int p1), .val (.float f), .val (.int (32 : Int32))] [(.double (FP.i2d (32 : Int32)))]))
          refine own_to (fun t k => XS.floadN X0.here hx rfl (hb hby own_d2_48) rfl k) ?_
          show own_Fin _ _ _ _ _ _ (s₁.setTop (mkF m 49 #[.val (.int p1), .val (.float f), .val (.int (32 : Int32))] [(.float f), (.double (FP.i2d (32 : Int32)))]))
          refine own_to (fun t k => XS.f2dS X0.here hx rfl (hb hby own_d2_49) rfl hF.nd rfl k) ?_
          show own_Fin _ _ _ _ _ _ (s₁.setTop (mkF m 50 #[.val (.int p1), .val (.float f), .val (.int (32 : Int32))] [(.double (FP.f2d f)), (.double (FP.i2d (32 : Int32)))]))
          refine own_to (fun t k => XS.dmulS X0.here hx rfl (hb hby own_d2_50) rfl (hF.nm _) rfl k) ?_
          show own_Fin _ _ _ _ _ _ (s₁.setTop (mkF m 51 #[.val (.int p1), .val (.float f), .val (.int (32 : Int32))] [(.double (FP.dmul (FP.i2d (32 : Int32)) (FP.f2d f)))]))
          refine own_to (fun t k => XS.iloadN X0.here hx rfl (hb hby own_d2_51) rfl k) ?_
          show own_Fin _ _ _ _ _ _ (s₁.setTop (mkF m 52 #[.val (.int p1), .val (.float f), .val (.int (32 : Int32))] [(.int p1), (.double (FP.dmul (FP.i2d (32 : Int32)) (FP.f2d f)))]))
          refine own_to (fun t k => XS.i2dS X0.here hx rfl (hb hby own_d2_52) rfl rfl k) ?_
          show own_Fin _ _ _ _ _ _ (s₁.setTop (mkF m 53 #[.val (.int p1), .val (.float f), .val (.int (32 : Int32))] [(.double (FP.i2d p1)), (.double (FP.dmul (FP.i2d (32 : Int32)) (FP.f2d f)))]))
          refine own_to (fun t k => XS.dcmpS X0.here hx rfl (hb hby own_d2_53) rfl rfl k) ?_
          show own_Fin _ _ _ _ _ _ (s₁.setTop (mkF m 54 #[.val (.int p1), .val (.float f), .val (.int (32 : Int32))] [(.int (cmpValue (FP.dcmp (FP.dmul (FP.i2d (32 : Int32)) (FP.f2d f)) (FP.i2d p1)) .g))]))
          show own_Fin _ _ _ _ _ _ (s₁.setTop (mkF m 54 #[.val (.int p1), .val (.float f), .val (.int (32 : Int32))] [(.int (own_G p1 f (32 : Int32)))]))
          by_cases hc54_5 : (own_G p1 f (32 : Int32)) < (0 : Int32)
          ·
            show own_Fin _ _ _ _ _ _ (s₁.setTop (mkF m 54 #[.val (.int p1), .val (.float f), .val (.int (32 : Int32))] [(.int (own_G p1 f (32 : Int32)))]))
            refine own_to (fun t k => XS.ifNo X0.here hx rfl (hb hby own_d2_54) rfl ((if0 _ _).trans (tlt hc54_5).2.1) k) ?_
            show own_Fin _ _ _ _ _ _ (s₁.setTop (mkF m 57 #[.val (.int p1), .val (.float f), .val (.int (32 : Int32))] []))
            refine own_to (fun t k => XS.iloadN X0.here hx rfl (hb hby own_d2_57) rfl k) ?_
            show own_Fin _ _ _ _ _ _ (s₁.setTop (mkF m 58 #[.val (.int p1), .val (.float f), .val (.int (32 : Int32))] [(.int (32 : Int32))]))
            refine own_to (fun t k => XS.iconst X0.here hx rfl (hb hby own_d2_58) k) ?_
            show own_Fin _ _ _ _ _ _ (s₁.setTop (mkF m 59 #[.val (.int p1), .val (.float f), .val (.int (32 : Int32))] [(.int (1 : Int32)), (.int (32 : Int32))]))
            refine own_to (fun t k => XS.ishl X0.here hx rfl (hb hby own_d2_59) rfl k) ?_
            show own_Fin _ _ _ _ _ _ (s₁.setTop (mkF m 60 #[.val (.int p1), .val (.float f), .val (.int (32 : Int32))] [(.int (64 : Int32))]))
            refine own_to (fun t k => XS.istoreN X0.here hx rfl (hb hby own_d2_60) rfl (l' := #[.val (.int p1), .val (.float f), .val (.int (64 : Int32))]) rfl k) ?_
            show own_Fin _ _ _ _ _ _ (s₁.setTop (mkF m 61 #[.val (.int p1), .val (.float f), .val (.int (64 : Int32))] []))
            refine own_to (fun t k => XS.goto X0.here hx rfl (pc0 := 61) (pc' := 40) rfl (hb hby own_d2_61) (by decide) (by decide) k) ?_
            show own_Fin _ _ _ _ _ _ (s₁.setTop (mkF m 40 #[.val (.int p1), .val (.float f), .val (.int (64 : Int32))] []))
            refine own_to (fun t k => XS.iloadN X0.here hx rfl (hb hby own_d2_40) rfl k) ?_
            show own_Fin _ _ _ _ _ _ (s₁.setTop (mkF m 41 #[.val (.int p1), .val (.float f), .val (.int (64 : Int32))] [(.int (64 : Int32))]))
            refine own_to (fun t k => X0.ldcInt hx hown (mvT hZ (hw _ (List.mem_of_getElem? (i := 8) rfl))) (g := (mkF m 41 #[.val (.int p1), .val (.float f), .val (.int (64 : Int32))] [(.int (64 : Int32))])) rfl (hb hby own_d2_41) _ k) ?_
            show own_Fin _ _ _ _ _ _ (s₁.setTop (mkF m 43 #[.val (.int p1), .val (.float f), .val (.int (64 : Int32))] [(.int (1073741824 : Int32)), (.int (64 : Int32))]))
            refine own_to (fun t k => XS.icmpNo X0.here hx rfl (hb hby own_d2_43) rfl (tlt (by decide)).2.1 k) ?_
            show own_Fin _ _ _ _ _ _ (s₁.setTop (mkF m 46 #[.val (.int p1), .val (.float f), .val (.int (64 : Int32))] []))
            refine own_to (fun t k => XS.iloadN X0.here hx rfl (hb hby own_d2_46) rfl k) ?_
            show own_Fin _ _ _ _ _ _ (s₁.setTop (mkF m 47 #[.val (.int p1), .val (.float f), .val (.int (64 : Int32))] [(.int (64 : Int32))]))
            refine own_to (fun t k => XS.i2dS X0.here hx rfl (hb hby own_d2_47) rfl rfl k) ?_
            show own_Fin _ _ _ _ _ _ (s₁.setTop (mkF m 48 #[.val (.int p1), .val (.float f), .val (.int (64 : Int32))] [(.double (FP.i2d (64 : Int32)))]))
            refine own_to (fun t k => XS.floadN X0.here hx rfl (hb hby own_d2_48) rfl k) ?_
            show own_Fin _ _ _ _ _ _ (s₁.setTop (mkF m 49 #[.val (.int p1), .val (.float f), .val (.int (64 : Int32))] [(.float f), (.double (FP.i2d (64 : Int32)))]))
            refine own_to (fun t k => XS.f2dS X0.here hx rfl (hb hby own_d2_49) rfl hF.nd rfl k) ?_
            show own_Fin _ _ _ _ _ _ (s₁.setTop (mkF m 50 #[.val (.int p1), .val (.float f), .val (.int (64 : Int32))] [(.double (FP.f2d f)), (.double (FP.i2d (64 : Int32)))]))
            refine own_to (fun t k => XS.dmulS X0.here hx rfl (hb hby own_d2_50) rfl (hF.nm _) rfl k) ?_
            show own_Fin _ _ _ _ _ _ (s₁.setTop (mkF m 51 #[.val (.int p1), .val (.float f), .val (.int (64 : Int32))] [(.double (FP.dmul (FP.i2d (64 : Int32)) (FP.f2d f)))]))
            refine own_to (fun t k => XS.iloadN X0.here hx rfl (hb hby own_d2_51) rfl k) ?_
            show own_Fin _ _ _ _ _ _ (s₁.setTop (mkF m 52 #[.val (.int p1), .val (.float f), .val (.int (64 : Int32))] [(.int p1), (.double (FP.dmul (FP.i2d (64 : Int32)) (FP.f2d f)))]))
            refine own_to (fun t k => XS.i2dS X0.here hx rfl (hb hby own_d2_52) rfl rfl k) ?_
            show own_Fin _ _ _ _ _ _ (s₁.setTop (mkF m 53 #[.val (.int p1), .val (.float f), .val (.int (64 : Int32))] [(.double (FP.i2d p1)), (.double (FP.dmul (FP.i2d (64 : Int32)) (FP.f2d f)))]))
            refine own_to (fun t k => XS.dcmpS X0.here hx rfl (hb hby own_d2_53) rfl rfl k) ?_
            show own_Fin _ _ _ _ _ _ (s₁.setTop (mkF m 54 #[.val (.int p1), .val (.float f), .val (.int (64 : Int32))] [(.int (cmpValue (FP.dcmp (FP.dmul (FP.i2d (64 : Int32)) (FP.f2d f)) (FP.i2d p1)) .g))]))
            show own_Fin _ _ _ _ _ _ (s₁.setTop (mkF m 54 #[.val (.int p1), .val (.float f), .val (.int (64 : Int32))] [(.int (own_G p1 f (64 : Int32)))]))
            by_cases hc54_6 : (own_G p1 f (64 : Int32)) < (0 : Int32)
            ·
              show own_Fin _ _ _ _ _ _ (s₁.setTop (mkF m 54 #[.val (.int p1), .val (.float f), .val (.int (64 : Int32))] [(.int (own_G p1 f (64 : Int32)))]))
              refine own_to (fun t k => XS.ifNo X0.here hx rfl (hb hby own_d2_54) rfl ((if0 _ _).trans (tlt hc54_6).2.1) k) ?_
              show own_Fin _ _ _ _ _ _ (s₁.setTop (mkF m 57 #[.val (.int p1), .val (.float f), .val (.int (64 : Int32))] []))
              refine own_to (fun t k => XS.iloadN X0.here hx rfl (hb hby own_d2_57) rfl k) ?_
              show own_Fin _ _ _ _ _ _ (s₁.setTop (mkF m 58 #[.val (.int p1), .val (.float f), .val (.int (64 : Int32))] [(.int (64 : Int32))]))
              refine own_to (fun t k => XS.iconst X0.here hx rfl (hb hby own_d2_58) k) ?_
              show own_Fin _ _ _ _ _ _ (s₁.setTop (mkF m 59 #[.val (.int p1), .val (.float f), .val (.int (64 : Int32))] [(.int (1 : Int32)), (.int (64 : Int32))]))
              refine own_to (fun t k => XS.ishl X0.here hx rfl (hb hby own_d2_59) rfl k) ?_
              show own_Fin _ _ _ _ _ _ (s₁.setTop (mkF m 60 #[.val (.int p1), .val (.float f), .val (.int (64 : Int32))] [(.int (128 : Int32))]))
              refine own_to (fun t k => XS.istoreN X0.here hx rfl (hb hby own_d2_60) rfl (l' := #[.val (.int p1), .val (.float f), .val (.int (128 : Int32))]) rfl k) ?_
              show own_Fin _ _ _ _ _ _ (s₁.setTop (mkF m 61 #[.val (.int p1), .val (.float f), .val (.int (128 : Int32))] []))
              refine own_to (fun t k => XS.goto X0.here hx rfl (pc0 := 61) (pc' := 40) rfl (hb hby own_d2_61) (by decide) (by decide) k) ?_
              show own_Fin _ _ _ _ _ _ (s₁.setTop (mkF m 40 #[.val (.int p1), .val (.float f), .val (.int (128 : Int32))] []))
              refine own_to (fun t k => XS.iloadN X0.here hx rfl (hb hby own_d2_40) rfl k) ?_
              show own_Fin _ _ _ _ _ _ (s₁.setTop (mkF m 41 #[.val (.int p1), .val (.float f), .val (.int (128 : Int32))] [(.int (128 : Int32))]))
              refine own_to (fun t k => X0.ldcInt hx hown (mvT hZ (hw _ (List.mem_of_getElem? (i := 8) rfl))) (g := (mkF m 41 #[.val (.int p1), .val (.float f), .val (.int (128 : Int32))] [(.int (128 : Int32))])) rfl (hb hby own_d2_41) _ k) ?_
              show own_Fin _ _ _ _ _ _ (s₁.setTop (mkF m 43 #[.val (.int p1), .val (.float f), .val (.int (128 : Int32))] [(.int (1073741824 : Int32)), (.int (128 : Int32))]))
              refine own_to (fun t k => XS.icmpNo X0.here hx rfl (hb hby own_d2_43) rfl (tlt (by decide)).2.1 k) ?_
              show own_Fin _ _ _ _ _ _ (s₁.setTop (mkF m 46 #[.val (.int p1), .val (.float f), .val (.int (128 : Int32))] []))
              refine own_to (fun t k => XS.iloadN X0.here hx rfl (hb hby own_d2_46) rfl k) ?_
              show own_Fin _ _ _ _ _ _ (s₁.setTop (mkF m 47 #[.val (.int p1), .val (.float f), .val (.int (128 : Int32))] [(.int (128 : Int32))]))
              refine own_to (fun t k => XS.i2dS X0.here hx rfl (hb hby own_d2_47) rfl rfl k) ?_
              show own_Fin _ _ _ _ _ _ (s₁.setTop (mkF m 48 #[.val (.int p1), .val (.float f), .val (.int (128 : Int32))] [(.double (FP.i2d (128 : Int32)))]))
              refine own_to (fun t k => XS.floadN X0.here hx rfl (hb hby own_d2_48) rfl k) ?_
              show own_Fin _ _ _ _ _ _ (s₁.setTop (mkF m 49 #[.val (.int p1), .val (.float f), .val (.int (128 : Int32))] [(.float f), (.double (FP.i2d (128 : Int32)))]))
              refine own_to (fun t k => XS.f2dS X0.here hx rfl (hb hby own_d2_49) rfl hF.nd rfl k) ?_
              show own_Fin _ _ _ _ _ _ (s₁.setTop (mkF m 50 #[.val (.int p1), .val (.float f), .val (.int (128 : Int32))] [(.double (FP.f2d f)), (.double (FP.i2d (128 : Int32)))]))
              refine own_to (fun t k => XS.dmulS X0.here hx rfl (hb hby own_d2_50) rfl (hF.nm _) rfl k) ?_
              show own_Fin _ _ _ _ _ _ (s₁.setTop (mkF m 51 #[.val (.int p1), .val (.float f), .val (.int (128 : Int32))] [(.double (FP.dmul (FP.i2d (128 : Int32)) (FP.f2d f)))]))
              refine own_to (fun t k => XS.iloadN X0.here hx rfl (hb hby own_d2_51) rfl k) ?_
              show own_Fin _ _ _ _ _ _ (s₁.setTop (mkF m 52 #[.val (.int p1), .val (.float f), .val (.int (128 : Int32))] [(.int p1), (.double (FP.dmul (FP.i2d (128 : Int32)) (FP.f2d f)))]))
              refine own_to (fun t k => XS.i2dS X0.here hx rfl (hb hby own_d2_52) rfl rfl k) ?_
              show own_Fin _ _ _ _ _ _ (s₁.setTop (mkF m 53 #[.val (.int p1), .val (.float f), .val (.int (128 : Int32))] [(.double (FP.i2d p1)), (.double (FP.dmul (FP.i2d (128 : Int32)) (FP.f2d f)))]))
              refine own_to (fun t k => XS.dcmpS X0.here hx rfl (hb hby own_d2_53) rfl rfl k) ?_
              show own_Fin _ _ _ _ _ _ (s₁.setTop (mkF m 54 #[.val (.int p1), .val (.float f), .val (.int (128 : Int32))] [(.int (cmpValue (FP.dcmp (FP.dmul (FP.i2d (128 : Int32)) (FP.f2d f)) (FP.i2d p1)) .g))]))
              show own_Fin _ _ _ _ _ _ (s₁.setTop (mkF m 54 #[.val (.int p1), .val (.float f), .val (.int (128 : Int32))] [(.int (own_G p1 f (128 : Int32)))]))
              by_cases hc54_7 : (own_G p1 f (128 : Int32)) < (0 : Int32)
              ·
                show own_Fin _ _ _ _ _ _ (s₁.setTop (mkF m 54 #[.val (.int p1), .val (.float f), .val (.int (128 : Int32))] [(.int (own_G p1 f (128 : Int32)))]))
                refine own_to (fun t k => XS.ifNo X0.here hx rfl (hb hby own_d2_54) rfl ((if0 _ _).trans (tlt hc54_7).2.1) k) ?_
                show own_Fin _ _ _ _ _ _ (s₁.setTop (mkF m 57 #[.val (.int p1), .val (.float f), .val (.int (128 : Int32))] []))
                refine own_to (fun t k => XS.iloadN X0.here hx rfl (hb hby own_d2_57) rfl k) ?_
                show own_Fin _ _ _ _ _ _ (s₁.setTop (mkF m 58 #[.val (.int p1), .val (.float f), .val (.int (128 : Int32))] [(.int (128 : Int32))]))
                refine own_to (fun t k => XS.iconst X0.here hx rfl (hb hby own_d2_58) k) ?_
                show own_Fin _ _ _ _ _ _ (s₁.setTop (mkF m 59 #[.val (.int p1), .val (.float f), .val (.int (128 : Int32))] [(.int (1 : Int32)), (.int (128 : Int32))]))
                refine own_to (fun t k => XS.ishl X0.here hx rfl (hb hby own_d2_59) rfl k) ?_
                show own_Fin _ _ _ _ _ _ (s₁.setTop (mkF m 60 #[.val (.int p1), .val (.float f), .val (.int (128 : Int32))] [(.int (256 : Int32))]))
                refine own_to (fun t k => XS.istoreN X0.here hx rfl (hb hby own_d2_60) rfl (l' := #[.val (.int p1), .val (.float f), .val (.int (256 : Int32))]) rfl k) ?_
                show own_Fin _ _ _ _ _ _ (s₁.setTop (mkF m 61 #[.val (.int p1), .val (.float f), .val (.int (256 : Int32))] []))
                refine own_to (fun t k => XS.goto X0.here hx rfl (pc0 := 61) (pc' := 40) rfl (hb hby own_d2_61) (by decide) (by decide) k) ?_
                show own_Fin _ _ _ _ _ _ (s₁.setTop (mkF m 40 #[.val (.int p1), .val (.float f), .val (.int (256 : Int32))] []))
                refine own_to (fun t k => XS.iloadN X0.here hx rfl (hb hby own_d2_40) rfl k) ?_
                show own_Fin _ _ _ _ _ _ (s₁.setTop (mkF m 41 #[.val (.int p1), .val (.float f), .val (.int (256 : Int32))] [(.int (256 : Int32))]))
                refine own_to (fun t k => X0.ldcInt hx hown (mvT hZ (hw _ (List.mem_of_getElem? (i := 8) rfl))) (g := (mkF m 41 #[.val (.int p1), .val (.float f), .val (.int (256 : Int32))] [(.int (256 : Int32))])) rfl (hb hby own_d2_41) _ k) ?_
                show own_Fin _ _ _ _ _ _ (s₁.setTop (mkF m 43 #[.val (.int p1), .val (.float f), .val (.int (256 : Int32))] [(.int (1073741824 : Int32)), (.int (256 : Int32))]))
                refine own_to (fun t k => XS.icmpNo X0.here hx rfl (hb hby own_d2_43) rfl (tlt (by decide)).2.1 k) ?_
                show own_Fin _ _ _ _ _ _ (s₁.setTop (mkF m 46 #[.val (.int p1), .val (.float f), .val (.int (256 : Int32))] []))
                refine own_to (fun t k => XS.iloadN X0.here hx rfl (hb hby own_d2_46) rfl k) ?_
                show own_Fin _ _ _ _ _ _ (s₁.setTop (mkF m 47 #[.val (.int p1), .val (.float f), .val (.int (256 : Int32))] [(.int (256 : Int32))]))
                refine own_to (fun t k => XS.i2dS X0.here hx rfl (hb hby own_d2_47) rfl rfl k) ?_
                show own_Fin _ _ _ _ _ _ (s₁.setTop (mkF m 48 #[.val (.int p1), .val (.float f), .val (.int (256 : Int32))] [(.double (FP.i2d (256 : Int32)))]))
                refine own_to (fun t k => XS.floadN X0.here hx rfl (hb hby own_d2_48) rfl k) ?_
                show own_Fin _ _ _ _ _ _ (s₁.setTop (mkF m 49 #[.val (.int p1), .val (.float f), .val (.int (256 : Int32))] [(.float f), (.double (FP.i2d (256 : Int32)))]))
                refine own_to (fun t k => XS.f2dS X0.here hx rfl (hb hby own_d2_49) rfl hF.nd rfl k) ?_
                show own_Fin _ _ _ _ _ _ (s₁.setTop (mkF m 50 #[.val (.int p1), .val (.float f), .val (.int (256 : Int32))] [(.double (FP.f2d f)), (.double (FP.i2d (256 : Int32)))]))
                refine own_to (fun t k => XS.dmulS X0.here hx rfl (hb hby own_d2_50) rfl (hF.nm _) rfl k) ?_
                show own_Fin _ _ _ _ _ _ (s₁.setTop (mkF m 51 #[.val (.int p1), .val (.float f), .val (.int (256 : Int32))] [(.double (FP.dmul (FP.i2d (256 : Int32)) (FP.f2d f)))]))
                refine own_to (fun t k => XS.iloadN X0.here hx rfl (hb hby own_d2_51) rfl k) ?_
                show own_Fin _ _ _ _ _ _ (s₁.setTop (mkF m 52 #[.val (.int p1), .val (.float f), .val (.int (256 : Int32))] [(.int p1), (.double (FP.dmul (FP.i2d (256 : Int32)) (FP.f2d f)))]))
                refine own_to (fun t k => XS.i2dS X0.here hx rfl (hb hby own_d2_52) rfl rfl k) ?_
                show own_Fin _ _ _ _ _ _ (s₁.setTop (mkF m 53 #[.val (.int p1), .val (.float f), .val (.int (256 : Int32))] [(.double (FP.i2d p1)), (.double (FP.dmul (FP.i2d (256 : Int32)) (FP.f2d f)))]))
                refine own_to (fun t k => XS.dcmpS X0.here hx rfl (hb hby own_d2_53) rfl rfl k) ?_
                show own_Fin _ _ _ _ _ _ (s₁.setTop (mkF m 54 #[.val (.int p1), .val (.float f), .val (.int (256 : Int32))] [(.int (cmpValue (FP.dcmp (FP.dmul (FP.i2d (256 : Int32)) (FP.f2d f)) (FP.i2d p1)) .g))]))
                show own_Fin _ _ _ _ _ _ (s₁.setTop (mkF m 54 #[.val (.int p1), .val (.float f), .val (.int (256 : Int32))] [(.int (own_G p1 f (256 : Int32)))]))
                by_cases hc54_8 : (own_G p1 f (256 : Int32)) < (0 : Int32)
                ·
                  show own_Fin _ _ _ _ _ _ (s₁.setTop (mkF m 54 #[.val (.int p1), .val (.float f), .val (.int (256 : Int32))] [(.int (own_G p1 f (256 : Int32)))]))
                  refine own_to (fun t k => XS.ifNo X0.here hx rfl (hb hby own_d2_54) rfl ((if0 _ _).trans (tlt hc54_8).2.1) k) ?_
                  show own_Fin _ _ _ _ _ _ (s₁.setTop (mkF m 57 #[.val (.int p1), .val (.float f), .val (.int (256 : Int32))] []))
                  refine own_to (fun t k => XS.iloadN X0.here hx rfl (hb hby own_d2_57) rfl k) ?_
                  show own_Fin _ _ _ _ _ _ (s₁.setTop (mkF m 58 #[.val (.int p1), .val (.float f), .val (.int (256 : Int32))] [(.int (256 : Int32))]))
                  refine own_to (fun t k => XS.iconst X0.here hx rfl (hb hby own_d2_58) k) ?_
                  show own_Fin _ _ _ _ _ _ (s₁.setTop (mkF m 59 #[.val (.int p1), .val (.float f), .val (.int (256 : Int32))] [(.int (1 : Int32)), (.int (256 : Int32))]))
                  refine own_to (fun t k => XS.ishl X0.here hx rfl (hb hby own_d2_59) rfl k) ?_
                  show own_Fin _ _ _ _ _ _ (s₁.setTop (mkF m 60 #[.val (.int p1), .val (.float f), .val (.int (256 : Int32))] [(.int (512 : Int32))]))
                  refine own_to (fun t k => XS.istoreN X0.here hx rfl (hb hby own_d2_60) rfl (l' := #[.val (.int p1), .val (.float f), .val (.int (512 : Int32))]) rfl k) ?_
                  show own_Fin _ _ _ _ _ _ (s₁.setTop (mkF m 61 #[.val (.int p1), .val (.float f), .val (.int (512 : Int32))] []))
                  refine own_to (fun t k => XS.goto X0.here hx rfl (pc0 := 61) (pc' := 40) rfl (hb hby own_d2_61) (by decide) (by decide) k) ?_
                  show own_Fin _ _ _ _ _ _ (s₁.setTop (mkF m 40 #[.val (.int p1), .val (.float f), .val (.int (512 : Int32))] []))
                  refine own_to (fun t k => XS.iloadN X0.here hx rfl (hb hby own_d2_40) rfl k) ?_
                  show own_Fin _ _ _ _ _ _ (s₁.setTop (mkF m 41 #[.val (.int p1), .val (.float f), .val (.int (512 : Int32))] [(.int (512 : Int32))]))
                  refine own_to (fun t k => X0.ldcInt hx hown (mvT hZ (hw _ (List.mem_of_getElem? (i := 8) rfl))) (g := (mkF m 41 #[.val (.int p1), .val (.float f), .val (.int (512 : Int32))] [(.int (512 : Int32))])) rfl (hb hby own_d2_41) _ k) ?_
                  show own_Fin _ _ _ _ _ _ (s₁.setTop (mkF m 43 #[.val (.int p1), .val (.float f), .val (.int (512 : Int32))] [(.int (1073741824 : Int32)), (.int (512 : Int32))]))
                  refine own_to (fun t k => XS.icmpNo X0.here hx rfl (hb hby own_d2_43) rfl (tlt (by decide)).2.1 k) ?_
                  show own_Fin _ _ _ _ _ _ (s₁.setTop (mkF m 46 #[.val (.int p1), .val (.float f), .val (.int (512 : Int32))] []))
                  refine own_to (fun t k => XS.iloadN X0.here hx rfl (hb hby own_d2_46) rfl k) ?_
                  show own_Fin _ _ _ _ _ _ (s₁.setTop (mkF m 47 #[.val (.int p1), .val (.float f), .val (.int (512 : Int32))] [(.int (512 : Int32))]))
                  refine own_to (fun t k => XS.i2dS X0.here hx rfl (hb hby own_d2_47) rfl rfl k) ?_
                  show own_Fin _ _ _ _ _ _ (s₁.setTop (mkF m 48 #[.val (.int p1), .val (.float f), .val (.int (512 : Int32))] [(.double (FP.i2d (512 : Int32)))]))
                  refine own_to (fun t k => XS.floadN X0.here hx rfl (hb hby own_d2_48) rfl k) ?_
                  show own_Fin _ _ _ _ _ _ (s₁.setTop (mkF m 49 #[.val (.int p1), .val (.float f), .val (.int (512 : Int32))] [(.float f), (.double (FP.i2d (512 : Int32)))]))
                  refine own_to (fun t k => XS.f2dS X0.here hx rfl (hb hby own_d2_49) rfl hF.nd rfl k) ?_
                  show own_Fin _ _ _ _ _ _ (s₁.setTop (mkF m 50 #[.val (.int p1), .val (.float f), .val (.int (512 : Int32))] [(.double (FP.f2d f)), (.double (FP.i2d (512 : Int32)))]))
                  refine own_to (fun t k => XS.dmulS X0.here hx rfl (hb hby own_d2_50) rfl (hF.nm _) rfl k) ?_
                  show own_Fin _ _ _ _ _ _ (s₁.setTop (mkF m 51 #[.val (.int p1), .val (.float f), .val (.int (512 : Int32))] [(.double (FP.dmul (FP.i2d (512 : Int32)) (FP.f2d f)))]))
                  refine own_to (fun t k => XS.iloadN X0.here hx rfl (hb hby own_d2_51) rfl k) ?_
                  show own_Fin _ _ _ _ _ _ (s₁.setTop (mkF m 52 #[.val (.int p1), .val (.float f), .val (.int (512 : Int32))] [(.int p1), (.double (FP.dmul (FP.i2d (512 : Int32)) (FP.f2d f)))]))
                  refine own_to (fun t k => XS.i2dS X0.here hx rfl (hb hby own_d2_52) rfl rfl k) ?_
                  show own_Fin _ _ _ _ _ _ (s₁.setTop (mkF m 53 #[.val (.int p1), .val (.float f), .val (.int (512 : Int32))] [(.double (FP.i2d p1)), (.double (FP.dmul (FP.i2d (512 : Int32)) (FP.f2d f)))]))
                  refine own_to (fun t k => XS.dcmpS X0.here hx rfl (hb hby own_d2_53) rfl rfl k) ?_
                  show own_Fin _ _ _ _ _ _ (s₁.setTop (mkF m 54 #[.val (.int p1), .val (.float f), .val (.int (512 : Int32))] [(.int (cmpValue (FP.dcmp (FP.dmul (FP.i2d (512 : Int32)) (FP.f2d f)) (FP.i2d p1)) .g))]))
                  show own_Fin _ _ _ _ _ _ (s₁.setTop (mkF m 54 #[.val (.int p1), .val (.float f), .val (.int (512 : Int32))] [(.int (own_G p1 f (512 : Int32)))]))
                  by_cases hc54_9 : (own_G p1 f (512 : Int32)) < (0 : Int32)
                  ·
                    show own_Fin _ _ _ _ _ _ (s₁.setTop (mkF m 54 #[.val (.int p1), .val (.float f), .val (.int (512 : Int32))] [(.int (own_G p1 f (512 : Int32)))]))
                    refine own_to (fun t k => XS.ifNo X0.here hx rfl (hb hby own_d2_54) rfl ((if0 _ _).trans (tlt hc54_9).2.1) k) ?_
                    show own_Fin _ _ _ _ _ _ (s₁.setTop (mkF m 57 #[.val (.int p1), .val (.float f), .val (.int (512 : Int32))] []))
                    refine own_to (fun t k => XS.iloadN X0.here hx rfl (hb hby own_d2_57) rfl k) ?_
                    show own_Fin _ _ _ _ _ _ (s₁.setTop (mkF m 58 #[.val (.int p1), .val (.float f), .val (.int (512 : Int32))] [(.int (512 : Int32))]))
                    refine own_to (fun t k => XS.iconst X0.here hx rfl (hb hby own_d2_58) k) ?_
                    show own_Fin _ _ _ _ _ _ (s₁.setTop (mkF m 59 #[.val (.int p1), .val (.float f), .val (.int (512 : Int32))] [(.int (1 : Int32)), (.int (512 : Int32))]))
                    refine own_to (fun t k => XS.ishl X0.here hx rfl (hb hby own_d2_59) rfl k) ?_
                    show own_Fin _ _ _ _ _ _ (s₁.setTop (mkF m 60 #[.val (.int p1), .val (.float f), .val (.int (512 : Int32))] [(.int (1024 : Int32))]))
                    refine own_to (fun t k => XS.istoreN X0.here hx rfl (hb hby own_d2_60) rfl (l' := #[.val (.int p1), .val (.float f), .val (.int (1024 : Int32))]) rfl k) ?_
                    show own_Fin _ _ _ _ _ _ (s₁.setTop (mkF m 61 #[.val (.int p1), .val (.float f), .val (.int (1024 : Int32))] []))
                    refine own_to (fun t k => XS.goto X0.here hx rfl (pc0 := 61) (pc' := 40) rfl (hb hby own_d2_61) (by decide) (by decide) k) ?_
                    show own_Fin _ _ _ _ _ _ (s₁.setTop (mkF m 40 #[.val (.int p1), .val (.float f), .val (.int (1024 : Int32))] []))
                    refine own_to (fun t k => XS.iloadN X0.here hx rfl (hb hby own_d2_40) rfl k) ?_
                    show own_Fin _ _ _ _ _ _ (s₁.setTop (mkF m 41 #[.val (.int p1), .val (.float f), .val (.int (1024 : Int32))] [(.int (1024 : Int32))]))
                    refine own_to (fun t k => X0.ldcInt hx hown (mvT hZ (hw _ (List.mem_of_getElem? (i := 8) rfl))) (g := (mkF m 41 #[.val (.int p1), .val (.float f), .val (.int (1024 : Int32))] [(.int (1024 : Int32))])) rfl (hb hby own_d2_41) _ k) ?_
                    show own_Fin _ _ _ _ _ _ (s₁.setTop (mkF m 43 #[.val (.int p1), .val (.float f), .val (.int (1024 : Int32))] [(.int (1073741824 : Int32)), (.int (1024 : Int32))]))
                    refine own_to (fun t k => XS.icmpNo X0.here hx rfl (hb hby own_d2_43) rfl (tlt (by decide)).2.1 k) ?_
                    show own_Fin _ _ _ _ _ _ (s₁.setTop (mkF m 46 #[.val (.int p1), .val (.float f), .val (.int (1024 : Int32))] []))
                    refine own_to (fun t k => XS.iloadN X0.here hx rfl (hb hby own_d2_46) rfl k) ?_
                    show own_Fin _ _ _ _ _ _ (s₁.setTop (mkF m 47 #[.val (.int p1), .val (.float f), .val (.int (1024 : Int32))] [(.int (1024 : Int32))]))
                    refine own_to (fun t k => XS.i2dS X0.here hx rfl (hb hby own_d2_47) rfl rfl k) ?_
                    show own_Fin _ _ _ _ _ _ (s₁.setTop (mkF m 48 #[.val (.int p1), .val (.float f), .val (.int (1024 : Int32))] [(.double (FP.i2d (1024 : Int32)))]))
                    refine own_to (fun t k => XS.floadN X0.here hx rfl (hb hby own_d2_48) rfl k) ?_
                    show own_Fin _ _ _ _ _ _ (s₁.setTop (mkF m 49 #[.val (.int p1), .val (.float f), .val (.int (1024 : Int32))] [(.float f), (.double (FP.i2d (1024 : Int32)))]))
                    refine own_to (fun t k => XS.f2dS X0.here hx rfl (hb hby own_d2_49) rfl hF.nd rfl k) ?_
                    show own_Fin _ _ _ _ _ _ (s₁.setTop (mkF m 50 #[.val (.int p1), .val (.float f), .val (.int (1024 : Int32))] [(.double (FP.f2d f)), (.double (FP.i2d (1024 : Int32)))]))
                    refine own_to (fun t k => XS.dmulS X0.here hx rfl (hb hby own_d2_50) rfl (hF.nm _) rfl k) ?_
                    show own_Fin _ _ _ _ _ _ (s₁.setTop (mkF m 51 #[.val (.int p1), .val (.float f), .val (.int (1024 : Int32))] [(.double (FP.dmul (FP.i2d (1024 : Int32)) (FP.f2d f)))]))
                    refine own_to (fun t k => XS.iloadN X0.here hx rfl (hb hby own_d2_51) rfl k) ?_
                    show own_Fin _ _ _ _ _ _ (s₁.setTop (mkF m 52 #[.val (.int p1), .val (.float f), .val (.int (1024 : Int32))] [(.int p1), (.double (FP.dmul (FP.i2d (1024 : Int32)) (FP.f2d f)))]))
                    refine own_to (fun t k => XS.i2dS X0.here hx rfl (hb hby own_d2_52) rfl rfl k) ?_
                    show own_Fin _ _ _ _ _ _ (s₁.setTop (mkF m 53 #[.val (.int p1), .val (.float f), .val (.int (1024 : Int32))] [(.double (FP.i2d p1)), (.double (FP.dmul (FP.i2d (1024 : Int32)) (FP.f2d f)))]))
                    refine own_to (fun t k => XS.dcmpS X0.here hx rfl (hb hby own_d2_53) rfl rfl k) ?_
                    show own_Fin _ _ _ _ _ _ (s₁.setTop (mkF m 54 #[.val (.int p1), .val (.float f), .val (.int (1024 : Int32))] [(.int (cmpValue (FP.dcmp (FP.dmul (FP.i2d (1024 : Int32)) (FP.f2d f)) (FP.i2d p1)) .g))]))
                    show own_Fin _ _ _ _ _ _ (s₁.setTop (mkF m 54 #[.val (.int p1), .val (.float f), .val (.int (1024 : Int32))] [(.int (own_G p1 f (1024 : Int32)))]))
                    by_cases hc54_10 : (own_G p1 f (1024 : Int32)) < (0 : Int32)
                    ·
                      show own_Fin _ _ _ _ _ _ (s₁.setTop (mkF m 54 #[.val (.int p1), .val (.float f), .val (.int (1024 : Int32))] [(.int (own_G p1 f (1024 : Int32)))]))
                      refine own_to (fun t k => XS.ifNo X0.here hx rfl (hb hby own_d2_54) rfl ((if0 _ _).trans (tlt hc54_10).2.1) k) ?_
                      show own_Fin _ _ _ _ _ _ (s₁.setTop (mkF m 57 #[.val (.int p1), .val (.float f), .val (.int (1024 : Int32))] []))
                      refine own_to (fun t k => XS.iloadN X0.here hx rfl (hb hby own_d2_57) rfl k) ?_
                      show own_Fin _ _ _ _ _ _ (s₁.setTop (mkF m 58 #[.val (.int p1), .val (.float f), .val (.int (1024 : Int32))] [(.int (1024 : Int32))]))
                      refine own_to (fun t k => XS.iconst X0.here hx rfl (hb hby own_d2_58) k) ?_
                      show own_Fin _ _ _ _ _ _ (s₁.setTop (mkF m 59 #[.val (.int p1), .val (.float f), .val (.int (1024 : Int32))] [(.int (1 : Int32)), (.int (1024 : Int32))]))
                      refine own_to (fun t k => XS.ishl X0.here hx rfl (hb hby own_d2_59) rfl k) ?_
                      show own_Fin _ _ _ _ _ _ (s₁.setTop (mkF m 60 #[.val (.int p1), .val (.float f), .val (.int (1024 : Int32))] [(.int (2048 : Int32))]))
                      refine own_to (fun t k => XS.istoreN X0.here hx rfl (hb hby own_d2_60) rfl (l' := #[.val (.int p1), .val (.float f), .val (.int (2048 : Int32))]) rfl k) ?_
                      show own_Fin _ _ _ _ _ _ (s₁.setTop (mkF m 61 #[.val (.int p1), .val (.float f), .val (.int (2048 : Int32))] []))
                      refine own_to (fun t k => XS.goto X0.here hx rfl (pc0 := 61) (pc' := 40) rfl (hb hby own_d2_61) (by decide) (by decide) k) ?_
                      show own_Fin _ _ _ _ _ _ (s₁.setTop (mkF m 40 #[.val (.int p1), .val (.float f), .val (.int (2048 : Int32))] []))
                      refine own_to (fun t k => XS.iloadN X0.here hx rfl (hb hby own_d2_40) rfl k) ?_
                      show own_Fin _ _ _ _ _ _ (s₁.setTop (mkF m 41 #[.val (.int p1), .val (.float f), .val (.int (2048 : Int32))] [(.int (2048 : Int32))]))
                      refine own_to (fun t k => X0.ldcInt hx hown (mvT hZ (hw _ (List.mem_of_getElem? (i := 8) rfl))) (g := (mkF m 41 #[.val (.int p1), .val (.float f), .val (.int (2048 : Int32))] [(.int (2048 : Int32))])) rfl (hb hby own_d2_41) _ k) ?_
                      show own_Fin _ _ _ _ _ _ (s₁.setTop (mkF m 43 #[.val (.int p1), .val (.float f), .val (.int (2048 : Int32))] [(.int (1073741824 : Int32)), (.int (2048 : Int32))]))
                      refine own_to (fun t k => XS.icmpNo X0.here hx rfl (hb hby own_d2_43) rfl (tlt (by decide)).2.1 k) ?_
                      show own_Fin _ _ _ _ _ _ (s₁.setTop (mkF m 46 #[.val (.int p1), .val (.float f), .val (.int (2048 : Int32))] []))
                      refine own_to (fun t k => XS.iloadN X0.here hx rfl (hb hby own_d2_46) rfl k) ?_
                      show own_Fin _ _ _ _ _ _ (s₁.setTop (mkF m 47 #[.val (.int p1), .val (.float f), .val (.int (2048 : Int32))] [(.int (2048 : Int32))]))
                      refine own_to (fun t k => XS.i2dS X0.here hx rfl (hb hby own_d2_47) rfl rfl k) ?_
                      show own_Fin _ _ _ _ _ _ (s₁.setTop (mkF m 48 #[.val (.int p1), .val (.float f), .val (.int (2048 : Int32))] [(.double (FP.i2d (2048 : Int32)))]))
                      refine own_to (fun t k => XS.floadN X0.here hx rfl (hb hby own_d2_48) rfl k) ?_
                      show own_Fin _ _ _ _ _ _ (s₁.setTop (mkF m 49 #[.val (.int p1), .val (.float f), .val (.int (2048 : Int32))] [(.float f), (.double (FP.i2d (2048 : Int32)))]))
                      refine own_to (fun t k => XS.f2dS X0.here hx rfl (hb hby own_d2_49) rfl hF.nd rfl k) ?_
                      show own_Fin _ _ _ _ _ _ (s₁.setTop (mkF m 50 #[.val (.int p1), .val (.float f), .val (.int (2048 : Int32))] [(.double (FP.f2d f)), (.double (FP.i2d (2048 : Int32)))]))
                      refine own_to (fun t k => XS.dmulS X0.here hx rfl (hb hby own_d2_50) rfl (hF.nm _) rfl k) ?_
                      show own_Fin _ _ _ _ _ _ (s₁.setTop (mkF m 51 #[.val (.int p1), .val (.float f), .val (.int (2048 : Int32))] [(.double (FP.dmul (FP.i2d (2048 : Int32)) (FP.f2d f)))]))
                      refine own_to (fun t k => XS.iloadN X0.here hx rfl (hb hby own_d2_51) rfl k) ?_
                      show own_Fin _ _ _ _ _ _ (s₁.setTop (mkF m 52 #[.val (.int p1), .val (.float f), .val (.int (2048 : Int32))] [(.int p1), (.double (FP.dmul (FP.i2d (2048 : Int32)) (FP.f2d f)))]))
                      refine own_to (fun t k => XS.i2dS X0.here hx rfl (hb hby own_d2_52) rfl rfl k) ?_
                      show own_Fin _ _ _ _ _ _ (s₁.setTop (mkF m 53 #[.val (.int p1), .val (.float f), .val (.int (2048 : Int32))] [(.double (FP.i2d p1)), (.double (FP.dmul (FP.i2d (2048 : Int32)) (FP.f2d f)))]))
                      refine own_to (fun t k => XS.dcmpS X0.here hx rfl (hb hby own_d2_53) rfl rfl k) ?_
                      show own_Fin _ _ _ _ _ _ (s₁.setTop (mkF m 54 #[.val (.int p1), .val (.float f), .val (.int (2048 : Int32))] [(.int (cmpValue (FP.dcmp (FP.dmul (FP.i2d (2048 : Int32)) (FP.f2d f)) (FP.i2d p1)) .g))]))
                      show own_Fin _ _ _ _ _ _ (s₁.setTop (mkF m 54 #[.val (.int p1), .val (.float f), .val (.int (2048 : Int32))] [(.int (own_G p1 f (2048 : Int32)))]))
                      by_cases hc54_11 : (own_G p1 f (2048 : Int32)) < (0 : Int32)
                      ·
                        show own_Fin _ _ _ _ _ _ (s₁.setTop (mkF m 54 #[.val (.int p1), .val (.float f), .val (.int (2048 : Int32))] [(.int (own_G p1 f (2048 : Int32)))]))
                        refine own_to (fun t k => XS.ifNo X0.here hx rfl (hb hby own_d2_54) rfl ((if0 _ _).trans (tlt hc54_11).2.1) k) ?_
                        show own_Fin _ _ _ _ _ _ (s₁.setTop (mkF m 57 #[.val (.int p1), .val (.float f), .val (.int (2048 : Int32))] []))
                        refine own_to (fun t k => XS.iloadN X0.here hx rfl (hb hby own_d2_57) rfl k) ?_
                        show own_Fin _ _ _ _ _ _ (s₁.setTop (mkF m 58 #[.val (.int p1), .val (.float f), .val (.int (2048 : Int32))] [(.int (2048 : Int32))]))
                        refine own_to (fun t k => XS.iconst X0.here hx rfl (hb hby own_d2_58) k) ?_
                        show own_Fin _ _ _ _ _ _ (s₁.setTop (mkF m 59 #[.val (.int p1), .val (.float f), .val (.int (2048 : Int32))] [(.int (1 : Int32)), (.int (2048 : Int32))]))
                        refine own_to (fun t k => XS.ishl X0.here hx rfl (hb hby own_d2_59) rfl k) ?_
                        show own_Fin _ _ _ _ _ _ (s₁.setTop (mkF m 60 #[.val (.int p1), .val (.float f), .val (.int (2048 : Int32))] [(.int (4096 : Int32))]))
                        refine own_to (fun t k => XS.istoreN X0.here hx rfl (hb hby own_d2_60) rfl (l' := #[.val (.int p1), .val (.float f), .val (.int (4096 : Int32))]) rfl k) ?_
                        show own_Fin _ _ _ _ _ _ (s₁.setTop (mkF m 61 #[.val (.int p1), .val (.float f), .val (.int (4096 : Int32))] []))
                        refine own_to (fun t k => XS.goto X0.here hx rfl (pc0 := 61) (pc' := 40) rfl (hb hby own_d2_61) (by decide) (by decide) k) ?_
                        show own_Fin _ _ _ _ _ _ (s₁.setTop (mkF m 40 #[.val (.int p1), .val (.float f), .val (.int (4096 : Int32))] []))
                        refine own_to (fun t k => XS.iloadN X0.here hx rfl (hb hby own_d2_40) rfl k) ?_
                        show own_Fin _ _ _ _ _ _ (s₁.setTop (mkF m 41 #[.val (.int p1), .val (.float f), .val (.int (4096 : Int32))] [(.int (4096 : Int32))]))
                        refine own_to (fun t k => X0.ldcInt hx hown (mvT hZ (hw _ (List.mem_of_getElem? (i := 8) rfl))) (g := (mkF m 41 #[.val (.int p1), .val (.float f), .val (.int (4096 : Int32))] [(.int (4096 : Int32))])) rfl (hb hby own_d2_41) _ k) ?_
                        show own_Fin _ _ _ _ _ _ (s₁.setTop (mkF m 43 #[.val (.int p1), .val (.float f), .val (.int (4096 : Int32))] [(.int (1073741824 : Int32)), (.int (4096 : Int32))]))
                        refine own_to (fun t k => XS.icmpNo X0.here hx rfl (hb hby own_d2_43) rfl (tlt (by decide)).2.1 k) ?_
                        show own_Fin _ _ _ _ _ _ (s₁.setTop (mkF m 46 #[.val (.int p1), .val (.float f), .val (.int (4096 : Int32))] []))
                        refine own_to (fun t k => XS.iloadN X0.here hx rfl (hb hby own_d2_46) rfl k) ?_
                        show own_Fin _ _ _ _ _ _ (s₁.setTop (mkF m 47 #[.val (.int p1), .val (.float f), .val (.int (4096 : Int32))] [(.int (4096 : Int32))]))
                        refine own_to (fun t k => XS.i2dS X0.here hx rfl (hb hby own_d2_47) rfl rfl k) ?_
                        show own_Fin _ _ _ _ _ _ (s₁.setTop (mkF m 48 #[.val (.int p1), .val (.float f), .val (.int (4096 : Int32))] [(.double (FP.i2d (4096 : Int32)))]))
                        refine own_to (fun t k => XS.floadN X0.here hx rfl (hb hby own_d2_48) rfl k) ?_
                        show own_Fin _ _ _ _ _ _ (s₁.setTop (mkF m 49 #[.val (.int p1), .val (.float f), .val (.int (4096 : Int32))] [(.float f), (.double (FP.i2d (4096 : Int32)))]))
                        refine own_to (fun t k => XS.f2dS X0.here hx rfl (hb hby own_d2_49) rfl hF.nd rfl k) ?_
                        show own_Fin _ _ _ _ _ _ (s₁.setTop (mkF m 50 #[.val (.int p1), .val (.float f), .val (.int (4096 : Int32))] [(.double (FP.f2d f)), (.double (FP.i2d (4096 : Int32)))]))
                        refine own_to (fun t k => XS.dmulS X0.here hx rfl (hb hby own_d2_50) rfl (hF.nm _) rfl k) ?_
                        show own_Fin _ _ _ _ _ _ (s₁.setTop (mkF m 51 #[.val (.int p1), .val (.float f), .val (.int (4096 : Int32))] [(.double (FP.dmul (FP.i2d (4096 : Int32)) (FP.f2d f)))]))
                        refine own_to (fun t k => XS.iloadN X0.here hx rfl (hb hby own_d2_51) rfl k) ?_
                        show own_Fin _ _ _ _ _ _ (s₁.setTop (mkF m 52 #[.val (.int p1), .val (.float f), .val (.int (4096 : Int32))] [(.int p1), (.double (FP.dmul (FP.i2d (4096 : Int32)) (FP.f2d f)))]))
                        refine own_to (fun t k => XS.i2dS X0.here hx rfl (hb hby own_d2_52) rfl rfl k) ?_
                        show own_Fin _ _ _ _ _ _ (s₁.setTop (mkF m 53 #[.val (.int p1), .val (.float f), .val (.int (4096 : Int32))] [(.double (FP.i2d p1)), (.double (FP.dmul (FP.i2d (4096 : Int32)) (FP.f2d f)))]))
                        refine own_to (fun t k => XS.dcmpS X0.here hx rfl (hb hby own_d2_53) rfl rfl k) ?_
                        show own_Fin _ _ _ _ _ _ (s₁.setTop (mkF m 54 #[.val (.int p1), .val (.float f), .val (.int (4096 : Int32))] [(.int (cmpValue (FP.dcmp (FP.dmul (FP.i2d (4096 : Int32)) (FP.f2d f)) (FP.i2d p1)) .g))]))
                        show own_Fin _ _ _ _ _ _ (s₁.setTop (mkF m 54 #[.val (.int p1), .val (.float f), .val (.int (4096 : Int32))] [(.int (own_G p1 f (4096 : Int32)))]))
                        by_cases hc54_12 : (own_G p1 f (4096 : Int32)) < (0 : Int32)
                        ·
                          show own_Fin _ _ _ _ _ _ (s₁.setTop (mkF m 54 #[.val (.int p1), .val (.float f), .val (.int (4096 : Int32))] [(.int (own_G p1 f (4096 : Int32)))]))
                          refine own_to (fun t k => XS.ifNo X0.here hx rfl (hb hby own_d2_54) rfl ((if0 _ _).trans (tlt hc54_12).2.1) k) ?_
                          show own_Fin _ _ _ _ _ _ (s₁.setTop (mkF m 57 #[.val (.int p1), .val (.float f), .val (.int (4096 : Int32))] []))
                          refine own_to (fun t k => XS.iloadN X0.here hx rfl (hb hby own_d2_57) rfl k) ?_
                          show own_Fin _ _ _ _ _ _ (s₁.setTop (mkF m 58 #[.val (.int p1), .val (.float f), .val (.int (4096 : Int32))] [(.int (4096 : Int32))]))
                          refine own_to (fun t k => XS.iconst X0.here hx rfl (hb hby own_d2_58) k) ?_
                          show own_Fin _ _ _ _ _ _ (s₁.setTop (mkF m 59 #[.val (.int p1), .val (.float f), .val (.int (4096 : Int32))] [(.int (1 : Int32)), (.int (4096 : Int32))]))
                          refine own_to (fun t k => XS.ishl X0.here hx rfl (hb hby own_d2_59) rfl k) ?_
                          show own_Fin _ _ _ _ _ _ (s₁.setTop (mkF m 60 #[.val (.int p1), .val (.float f), .val (.int (4096 : Int32))] [(.int (8192 : Int32))]))
                          refine own_to (fun t k => XS.istoreN X0.here hx rfl (hb hby own_d2_60) rfl (l' := #[.val (.int p1), .val (.float f), .val (.int (8192 : Int32))]) rfl k) ?_
                          show own_Fin _ _ _ _ _ _ (s₁.setTop (mkF m 61 #[.val (.int p1), .val (.float f), .val (.int (8192 : Int32))] []))
                          refine own_to (fun t k => XS.goto X0.here hx rfl (pc0 := 61) (pc' := 40) rfl (hb hby own_d2_61) (by decide) (by decide) k) ?_
                          show own_Fin _ _ _ _ _ _ (s₁.setTop (mkF m 40 #[.val (.int p1), .val (.float f), .val (.int (8192 : Int32))] []))
                          refine own_to (fun t k => XS.iloadN X0.here hx rfl (hb hby own_d2_40) rfl k) ?_
                          show own_Fin _ _ _ _ _ _ (s₁.setTop (mkF m 41 #[.val (.int p1), .val (.float f), .val (.int (8192 : Int32))] [(.int (8192 : Int32))]))
                          refine own_to (fun t k => X0.ldcInt hx hown (mvT hZ (hw _ (List.mem_of_getElem? (i := 8) rfl))) (g := (mkF m 41 #[.val (.int p1), .val (.float f), .val (.int (8192 : Int32))] [(.int (8192 : Int32))])) rfl (hb hby own_d2_41) _ k) ?_
                          show own_Fin _ _ _ _ _ _ (s₁.setTop (mkF m 43 #[.val (.int p1), .val (.float f), .val (.int (8192 : Int32))] [(.int (1073741824 : Int32)), (.int (8192 : Int32))]))
                          refine own_to (fun t k => XS.icmpNo X0.here hx rfl (hb hby own_d2_43) rfl (tlt (by decide)).2.1 k) ?_
                          show own_Fin _ _ _ _ _ _ (s₁.setTop (mkF m 46 #[.val (.int p1), .val (.float f), .val (.int (8192 : Int32))] []))
                          refine own_to (fun t k => XS.iloadN X0.here hx rfl (hb hby own_d2_46) rfl k) ?_
                          show own_Fin _ _ _ _ _ _ (s₁.setTop (mkF m 47 #[.val (.int p1), .val (.float f), .val (.int (8192 : Int32))] [(.int (8192 : Int32))]))
                          refine own_to (fun t k => XS.i2dS X0.here hx rfl (hb hby own_d2_47) rfl rfl k) ?_
                          show own_Fin _ _ _ _ _ _ (s₁.setTop (mkF m 48 #[.val (.int p1), .val (.float f), .val (.int (8192 : Int32))] [(.double (FP.i2d (8192 : Int32)))]))
                          refine own_to (fun t k => XS.floadN X0.here hx rfl (hb hby own_d2_48) rfl k) ?_
                          show own_Fin _ _ _ _ _ _ (s₁.setTop (mkF m 49 #[.val (.int p1), .val (.float f), .val (.int (8192 : Int32))] [(.float f), (.double (FP.i2d (8192 : Int32)))]))
                          refine own_to (fun t k => XS.f2dS X0.here hx rfl (hb hby own_d2_49) rfl hF.nd rfl k) ?_
                          show own_Fin _ _ _ _ _ _ (s₁.setTop (mkF m 50 #[.val (.int p1), .val (.float f), .val (.int (8192 : Int32))] [(.double (FP.f2d f)), (.double (FP.i2d (8192 : Int32)))]))
                          refine own_to (fun t k => XS.dmulS X0.here hx rfl (hb hby own_d2_50) rfl (hF.nm _) rfl k) ?_
                          show own_Fin _ _ _ _ _ _ (s₁.setTop (mkF m 51 #[.val (.int p1), .val (.float f), .val (.int (8192 : Int32))] [(.double (FP.dmul (FP.i2d (8192 : Int32)) (FP.f2d f)))]))
                          refine own_to (fun t k => XS.iloadN X0.here hx rfl (hb hby own_d2_51) rfl k) ?_
                          show own_Fin _ _ _ _ _ _ (s₁.setTop (mkF m 52 #[.val (.int p1), .val (.float f), .val (.int (8192 : Int32))] [(.int p1), (.double (FP.dmul (FP.i2d (8192 : Int32)) (FP.f2d f)))]))
                          refine own_to (fun t k => XS.i2dS X0.here hx rfl (hb hby own_d2_52) rfl rfl k) ?_
                          show own_Fin _ _ _ _ _ _ (s₁.setTop (mkF m 53 #[.val (.int p1), .val (.float f), .val (.int (8192 : Int32))] [(.double (FP.i2d p1)), (.double (FP.dmul (FP.i2d (8192 : Int32)) (FP.f2d f)))]))
                          refine own_to (fun t k => XS.dcmpS X0.here hx rfl (hb hby own_d2_53) rfl rfl k) ?_
                          show own_Fin _ _ _ _ _ _ (s₁.setTop (mkF m 54 #[.val (.int p1), .val (.float f), .val (.int (8192 : Int32))] [(.int (cmpValue (FP.dcmp (FP.dmul (FP.i2d (8192 : Int32)) (FP.f2d f)) (FP.i2d p1)) .g))]))
                          show own_Fin _ _ _ _ _ _ (s₁.setTop (mkF m 54 #[.val (.int p1), .val (.float f), .val (.int (8192 : Int32))] [(.int (own_G p1 f (8192 : Int32)))]))
                          by_cases hc54_13 : (own_G p1 f (8192 : Int32)) < (0 : Int32)
                          ·
                            show own_Fin _ _ _ _ _ _ (s₁.setTop (mkF m 54 #[.val (.int p1), .val (.float f), .val (.int (8192 : Int32))] [(.int (own_G p1 f (8192 : Int32)))]))
                            refine own_to (fun t k => XS.ifNo X0.here hx rfl (hb hby own_d2_54) rfl ((if0 _ _).trans (tlt hc54_13).2.1) k) ?_
                            show own_Fin _ _ _ _ _ _ (s₁.setTop (mkF m 57 #[.val (.int p1), .val (.float f), .val (.int (8192 : Int32))] []))
                            refine own_to (fun t k => XS.iloadN X0.here hx rfl (hb hby own_d2_57) rfl k) ?_
                            show own_Fin _ _ _ _ _ _ (s₁.setTop (mkF m 58 #[.val (.int p1), .val (.float f), .val (.int (8192 : Int32))] [(.int (8192 : Int32))]))
                            refine own_to (fun t k => XS.iconst X0.here hx rfl (hb hby own_d2_58) k) ?_
                            show own_Fin _ _ _ _ _ _ (s₁.setTop (mkF m 59 #[.val (.int p1), .val (.float f), .val (.int (8192 : Int32))] [(.int (1 : Int32)), (.int (8192 : Int32))]))
                            refine own_to (fun t k => XS.ishl X0.here hx rfl (hb hby own_d2_59) rfl k) ?_
                            show own_Fin _ _ _ _ _ _ (s₁.setTop (mkF m 60 #[.val (.int p1), .val (.float f), .val (.int (8192 : Int32))] [(.int (16384 : Int32))]))
                            refine own_to (fun t k => XS.istoreN X0.here hx rfl (hb hby own_d2_60) rfl (l' := #[.val (.int p1), .val (.float f), .val (.int (16384 : Int32))]) rfl k) ?_
                            show own_Fin _ _ _ _ _ _ (s₁.setTop (mkF m 61 #[.val (.int p1), .val (.float f), .val (.int (16384 : Int32))] []))
                            refine own_to (fun t k => XS.goto X0.here hx rfl (pc0 := 61) (pc' := 40) rfl (hb hby own_d2_61) (by decide) (by decide) k) ?_
                            show own_Fin _ _ _ _ _ _ (s₁.setTop (mkF m 40 #[.val (.int p1), .val (.float f), .val (.int (16384 : Int32))] []))
                            refine own_to (fun t k => XS.iloadN X0.here hx rfl (hb hby own_d2_40) rfl k) ?_
                            show own_Fin _ _ _ _ _ _ (s₁.setTop (mkF m 41 #[.val (.int p1), .val (.float f), .val (.int (16384 : Int32))] [(.int (16384 : Int32))]))
                            refine own_to (fun t k => X0.ldcInt hx hown (mvT hZ (hw _ (List.mem_of_getElem? (i := 8) rfl))) (g := (mkF m 41 #[.val (.int p1), .val (.float f), .val (.int (16384 : Int32))] [(.int (16384 : Int32))])) rfl (hb hby own_d2_41) _ k) ?_
                            show own_Fin _ _ _ _ _ _ (s₁.setTop (mkF m 43 #[.val (.int p1), .val (.float f), .val (.int (16384 : Int32))] [(.int (1073741824 : Int32)), (.int (16384 : Int32))]))
                            refine own_to (fun t k => XS.icmpNo X0.here hx rfl (hb hby own_d2_43) rfl (tlt (by decide)).2.1 k) ?_
                            show own_Fin _ _ _ _ _ _ (s₁.setTop (mkF m 46 #[.val (.int p1), .val (.float f), .val (.int (16384 : Int32))] []))
                            refine own_to (fun t k => XS.iloadN X0.here hx rfl (hb hby own_d2_46) rfl k) ?_
                            show own_Fin _ _ _ _ _ _ (s₁.setTop (mkF m 47 #[.val (.int p1), .val (.float f), .val (.int (16384 : Int32))] [(.int (16384 : Int32))]))
                            refine own_to (fun t k => XS.i2dS X0.here hx rfl (hb hby own_d2_47) rfl rfl k) ?_
                            show own_Fin _ _ _ _ _ _ (s₁.setTop (mkF m 48 #[.val (.int p1), .val (.float f), .val (.int (16384 : Int32))] [(.double (FP.i2d (16384 : Int32)))]))
                            refine own_to (fun t k => XS.floadN X0.here hx rfl (hb hby own_d2_48) rfl k) ?_
                            show own_Fin _ _ _ _ _ _ (s₁.setTop (mkF m 49 #[.val (.int p1), .val (.float f), .val (.int (16384 : Int32))] [(.float f), (.double (FP.i2d (16384 : Int32)))]))
                            refine own_to (fun t k => XS.f2dS X0.here hx rfl (hb hby own_d2_49) rfl hF.nd rfl k) ?_
                            show own_Fin _ _ _ _ _ _ (s₁.setTop (mkF m 50 #[.val (.int p1), .val (.float f), .val (.int (16384 : Int32))] [(.double (FP.f2d f)), (.double (FP.i2d (16384 : Int32)))]))
                            refine own_to (fun t k => XS.dmulS X0.here hx rfl (hb hby own_d2_50) rfl (hF.nm _) rfl k) ?_
                            show own_Fin _ _ _ _ _ _ (s₁.setTop (mkF m 51 #[.val (.int p1), .val (.float f), .val (.int (16384 : Int32))] [(.double (FP.dmul (FP.i2d (16384 : Int32)) (FP.f2d f)))]))
                            refine own_to (fun t k => XS.iloadN X0.here hx rfl (hb hby own_d2_51) rfl k) ?_
                            show own_Fin _ _ _ _ _ _ (s₁.setTop (mkF m 52 #[.val (.int p1), .val (.float f), .val (.int (16384 : Int32))] [(.int p1), (.double (FP.dmul (FP.i2d (16384 : Int32)) (FP.f2d f)))]))
                            refine own_to (fun t k => XS.i2dS X0.here hx rfl (hb hby own_d2_52) rfl rfl k) ?_
                            show own_Fin _ _ _ _ _ _ (s₁.setTop (mkF m 53 #[.val (.int p1), .val (.float f), .val (.int (16384 : Int32))] [(.double (FP.i2d p1)), (.double (FP.dmul (FP.i2d (16384 : Int32)) (FP.f2d f)))]))
                            refine own_to (fun t k => XS.dcmpS X0.here hx rfl (hb hby own_d2_53) rfl rfl k) ?_
                            show own_Fin _ _ _ _ _ _ (s₁.setTop (mkF m 54 #[.val (.int p1), .val (.float f), .val (.int (16384 : Int32))] [(.int (cmpValue (FP.dcmp (FP.dmul (FP.i2d (16384 : Int32)) (FP.f2d f)) (FP.i2d p1)) .g))]))
                            show own_Fin _ _ _ _ _ _ (s₁.setTop (mkF m 54 #[.val (.int p1), .val (.float f), .val (.int (16384 : Int32))] [(.int (own_G p1 f (16384 : Int32)))]))
                            by_cases hc54_14 : (own_G p1 f (16384 : Int32)) < (0 : Int32)
                            ·
                              show own_Fin _ _ _ _ _ _ (s₁.setTop (mkF m 54 #[.val (.int p1), .val (.float f), .val (.int (16384 : Int32))] [(.int (own_G p1 f (16384 : Int32)))]))
                              refine own_to (fun t k => XS.ifNo X0.here hx rfl (hb hby own_d2_54) rfl ((if0 _ _).trans (tlt hc54_14).2.1) k) ?_
                              show own_Fin _ _ _ _ _ _ (s₁.setTop (mkF m 57 #[.val (.int p1), .val (.float f), .val (.int (16384 : Int32))] []))
                              refine own_to (fun t k => XS.iloadN X0.here hx rfl (hb hby own_d2_57) rfl k) ?_
                              show own_Fin _ _ _ _ _ _ (s₁.setTop (mkF m 58 #[.val (.int p1), .val (.float f), .val (.int (16384 : Int32))] [(.int (16384 : Int32))]))
                              refine own_to (fun t k => XS.iconst X0.here hx rfl (hb hby own_d2_58) k) ?_
                              show own_Fin _ _ _ _ _ _ (s₁.setTop (mkF m 59 #[.val (.int p1), .val (.float f), .val (.int (16384 : Int32))] [(.int (1 : Int32)), (.int (16384 : Int32))]))
                              refine own_to (fun t k => XS.ishl X0.here hx rfl (hb hby own_d2_59) rfl k) ?_
                              show own_Fin _ _ _ _ _ _ (s₁.setTop (mkF m 60 #[.val (.int p1), .val (.float f), .val (.int (16384 : Int32))] [(.int (32768 : Int32))]))
                              refine own_to (fun t k => XS.istoreN X0.here hx rfl (hb hby own_d2_60) rfl (l' := #[.val (.int p1), .val (.float f), .val (.int (32768 : Int32))]) rfl k) ?_
                              show own_Fin _ _ _ _ _ _ (s₁.setTop (mkF m 61 #[.val (.int p1), .val (.float f), .val (.int (32768 : Int32))] []))
                              refine own_to (fun t k => XS.goto X0.here hx rfl (pc0 := 61) (pc' := 40) rfl (hb hby own_d2_61) (by decide) (by decide) k) ?_
                              show own_Fin _ _ _ _ _ _ (s₁.setTop (mkF m 40 #[.val (.int p1), .val (.float f), .val (.int (32768 : Int32))] []))
                              refine own_to (fun t k => XS.iloadN X0.here hx rfl (hb hby own_d2_40) rfl k) ?_
                              show own_Fin _ _ _ _ _ _ (s₁.setTop (mkF m 41 #[.val (.int p1), .val (.float f), .val (.int (32768 : Int32))] [(.int (32768 : Int32))]))
                              refine own_to (fun t k => X0.ldcInt hx hown (mvT hZ (hw _ (List.mem_of_getElem? (i := 8) rfl))) (g := (mkF m 41 #[.val (.int p1), .val (.float f), .val (.int (32768 : Int32))] [(.int (32768 : Int32))])) rfl (hb hby own_d2_41) _ k) ?_
                              show own_Fin _ _ _ _ _ _ (s₁.setTop (mkF m 43 #[.val (.int p1), .val (.float f), .val (.int (32768 : Int32))] [(.int (1073741824 : Int32)), (.int (32768 : Int32))]))
                              refine own_to (fun t k => XS.icmpNo X0.here hx rfl (hb hby own_d2_43) rfl (tlt (by decide)).2.1 k) ?_
                              show own_Fin _ _ _ _ _ _ (s₁.setTop (mkF m 46 #[.val (.int p1), .val (.float f), .val (.int (32768 : Int32))] []))
                              refine own_to (fun t k => XS.iloadN X0.here hx rfl (hb hby own_d2_46) rfl k) ?_
                              show own_Fin _ _ _ _ _ _ (s₁.setTop (mkF m 47 #[.val (.int p1), .val (.float f), .val (.int (32768 : Int32))] [(.int (32768 : Int32))]))
                              refine own_to (fun t k => XS.i2dS X0.here hx rfl (hb hby own_d2_47) rfl rfl k) ?_
                              show own_Fin _ _ _ _ _ _ (s₁.setTop (mkF m 48 #[.val (.int p1), .val (.float f), .val (.int (32768 : Int32))] [(.double (FP.i2d (32768 : Int32)))]))
                              refine own_to (fun t k => XS.floadN X0.here hx rfl (hb hby own_d2_48) rfl k) ?_
                              show own_Fin _ _ _ _ _ _ (s₁.setTop (mkF m 49 #[.val (.int p1), .val (.float f), .val (.int (32768 : Int32))] [(.float f), (.double (FP.i2d (32768 : Int32)))]))
                              refine own_to (fun t k => XS.f2dS X0.here hx rfl (hb hby own_d2_49) rfl hF.nd rfl k) ?_
                              show own_Fin _ _ _ _ _ _ (s₁.setTop (mkF m 50 #[.val (.int p1), .val (.float f), .val (.int (32768 : Int32))] [(.double (FP.f2d f)), (.double (FP.i2d (32768 : Int32)))]))
                              refine own_to (fun t k => XS.dmulS X0.here hx rfl (hb hby own_d2_50) rfl (hF.nm _) rfl k) ?_
                              show own_Fin _ _ _ _ _ _ (s₁.setTop (mkF m 51 #[.val (.int p1), .val (.float f), .val (.int (32768 : Int32))] [(.double (FP.dmul (FP.i2d (32768 : Int32)) (FP.f2d f)))]))
                              refine own_to (fun t k => XS.iloadN X0.here hx rfl (hb hby own_d2_51) rfl k) ?_
                              show own_Fin _ _ _ _ _ _ (s₁.setTop (mkF m 52 #[.val (.int p1), .val (.float f), .val (.int (32768 : Int32))] [(.int p1), (.double (FP.dmul (FP.i2d (32768 : Int32)) (FP.f2d f)))]))
                              refine own_to (fun t k => XS.i2dS X0.here hx rfl (hb hby own_d2_52) rfl rfl k) ?_
                              show own_Fin _ _ _ _ _ _ (s₁.setTop (mkF m 53 #[.val (.int p1), .val (.float f), .val (.int (32768 : Int32))] [(.double (FP.i2d p1)), (.double (FP.dmul (FP.i2d (32768 : Int32)) (FP.f2d f)))]))
                              refine own_to (fun t k => XS.dcmpS X0.here hx rfl (hb hby own_d2_53) rfl rfl k) ?_
                              show own_Fin _ _ _ _ _ _ (s₁.setTop (mkF m 54 #[.val (.int p1), .val (.float f), .val (.int (32768 : Int32))] [(.int (cmpValue (FP.dcmp (FP.dmul (FP.i2d (32768 : Int32)) (FP.f2d f)) (FP.i2d p1)) .g))]))
                              show own_Fin _ _ _ _ _ _ (s₁.setTop (mkF m 54 #[.val (.int p1), .val (.float f), .val (.int (32768 : Int32))] [(.int (own_G p1 f (32768 : Int32)))]))
                              by_cases hc54_15 : (own_G p1 f (32768 : Int32)) < (0 : Int32)
                              ·
                                show own_Fin _ _ _ _ _ _ (s₁.setTop (mkF m 54 #[.val (.int p1), .val (.float f), .val (.int (32768 : Int32))] [(.int (own_G p1 f (32768 : Int32)))]))
                                refine own_to (fun t k => XS.ifNo X0.here hx rfl (hb hby own_d2_54) rfl ((if0 _ _).trans (tlt hc54_15).2.1) k) ?_
                                show own_Fin _ _ _ _ _ _ (s₁.setTop (mkF m 57 #[.val (.int p1), .val (.float f), .val (.int (32768 : Int32))] []))
                                refine own_to (fun t k => XS.iloadN X0.here hx rfl (hb hby own_d2_57) rfl k) ?_
                                show own_Fin _ _ _ _ _ _ (s₁.setTop (mkF m 58 #[.val (.int p1), .val (.float f), .val (.int (32768 : Int32))] [(.int (32768 : Int32))]))
                                refine own_to (fun t k => XS.iconst X0.here hx rfl (hb hby own_d2_58) k) ?_
                                show own_Fin _ _ _ _ _ _ (s₁.setTop (mkF m 59 #[.val (.int p1), .val (.float f), .val (.int (32768 : Int32))] [(.int (1 : Int32)), (.int (32768 : Int32))]))
                                refine own_to (fun t k => XS.ishl X0.here hx rfl (hb hby own_d2_59) rfl k) ?_
                                show own_Fin _ _ _ _ _ _ (s₁.setTop (mkF m 60 #[.val (.int p1), .val (.float f), .val (.int (32768 : Int32))] [(.int (65536 : Int32))]))
                                refine own_to (fun t k => XS.istoreN X0.here hx rfl (hb hby own_d2_60) rfl (l' := #[.val (.int p1), .val (.float f), .val (.int (65536 : Int32))]) rfl k) ?_
                                show own_Fin _ _ _ _ _ _ (s₁.setTop (mkF m 61 #[.val (.int p1), .val (.float f), .val (.int (65536 : Int32))] []))
                                refine own_to (fun t k => XS.goto X0.here hx rfl (pc0 := 61) (pc' := 40) rfl (hb hby own_d2_61) (by decide) (by decide) k) ?_
                                show own_Fin _ _ _ _ _ _ (s₁.setTop (mkF m 40 #[.val (.int p1), .val (.float f), .val (.int (65536 : Int32))] []))
                                refine own_to (fun t k => XS.iloadN X0.here hx rfl (hb hby own_d2_40) rfl k) ?_
                                show own_Fin _ _ _ _ _ _ (s₁.setTop (mkF m 41 #[.val (.int p1), .val (.float f), .val (.int (65536 : Int32))] [(.int (65536 : Int32))]))
                                refine own_to (fun t k => X0.ldcInt hx hown (mvT hZ (hw _ (List.mem_of_getElem? (i := 8) rfl))) (g := (mkF m 41 #[.val (.int p1), .val (.float f), .val (.int (65536 : Int32))] [(.int (65536 : Int32))])) rfl (hb hby own_d2_41) _ k) ?_
                                show own_Fin _ _ _ _ _ _ (s₁.setTop (mkF m 43 #[.val (.int p1), .val (.float f), .val (.int (65536 : Int32))] [(.int (1073741824 : Int32)), (.int (65536 : Int32))]))
                                refine own_to (fun t k => XS.icmpNo X0.here hx rfl (hb hby own_d2_43) rfl (tlt (by decide)).2.1 k) ?_
                                show own_Fin _ _ _ _ _ _ (s₁.setTop (mkF m 46 #[.val (.int p1), .val (.float f), .val (.int (65536 : Int32))] []))
                                refine own_to (fun t k => XS.iloadN X0.here hx rfl (hb hby own_d2_46) rfl k) ?_
                                show own_Fin _ _ _ _ _ _ (s₁.setTop (mkF m 47 #[.val (.int p1), .val (.float f), .val (.int (65536 : Int32))] [(.int (65536 : Int32))]))
                                refine own_to (fun t k => XS.i2dS X0.here hx rfl (hb hby own_d2_47) rfl rfl k) ?_
                                show own_Fin _ _ _ _ _ _ (s₁.setTop (mkF m 48 #[.val (.int p1), .val (.float f), .val (.int (65536 : Int32))] [(.double (FP.i2d (65536 : Int32)))]))
                                refine own_to (fun t k => XS.floadN X0.here hx rfl (hb hby own_d2_48) rfl k) ?_
                                show own_Fin _ _ _ _ _ _ (s₁.setTop (mkF m 49 #[.val (.int p1), .val (.float f), .val (.int (65536 : Int32))] [(.float f), (.double (FP.i2d (65536 : Int32)))]))
                                refine own_to (fun t k => XS.f2dS X0.here hx rfl (hb hby own_d2_49) rfl hF.nd rfl k) ?_
                                show own_Fin _ _ _ _ _ _ (s₁.setTop (mkF m 50 #[.val (.int p1), .val (.float f), .val (.int (65536 : Int32))] [(.double (FP.f2d f)), (.double (FP.i2d (65536 : Int32)))]))
                                refine own_to (fun t k => XS.dmulS X0.here hx rfl (hb hby own_d2_50) rfl (hF.nm _) rfl k) ?_
                                show own_Fin _ _ _ _ _ _ (s₁.setTop (mkF m 51 #[.val (.int p1), .val (.float f), .val (.int (65536 : Int32))] [(.double (FP.dmul (FP.i2d (65536 : Int32)) (FP.f2d f)))]))
                                refine own_to (fun t k => XS.iloadN X0.here hx rfl (hb hby own_d2_51) rfl k) ?_
                                show own_Fin _ _ _ _ _ _ (s₁.setTop (mkF m 52 #[.val (.int p1), .val (.float f), .val (.int (65536 : Int32))] [(.int p1), (.double (FP.dmul (FP.i2d (65536 : Int32)) (FP.f2d f)))]))
                                refine own_to (fun t k => XS.i2dS X0.here hx rfl (hb hby own_d2_52) rfl rfl k) ?_
                                show own_Fin _ _ _ _ _ _ (s₁.setTop (mkF m 53 #[.val (.int p1), .val (.float f), .val (.int (65536 : Int32))] [(.double (FP.i2d p1)), (.double (FP.dmul (FP.i2d (65536 : Int32)) (FP.f2d f)))]))
                                refine own_to (fun t k => XS.dcmpS X0.here hx rfl (hb hby own_d2_53) rfl rfl k) ?_
                                show own_Fin _ _ _ _ _ _ (s₁.setTop (mkF m 54 #[.val (.int p1), .val (.float f), .val (.int (65536 : Int32))] [(.int (cmpValue (FP.dcmp (FP.dmul (FP.i2d (65536 : Int32)) (FP.f2d f)) (FP.i2d p1)) .g))]))
                                show own_Fin _ _ _ _ _ _ (s₁.setTop (mkF m 54 #[.val (.int p1), .val (.float f), .val (.int (65536 : Int32))] [(.int (own_G p1 f (65536 : Int32)))]))
                                by_cases hc54_16 : (own_G p1 f (65536 : Int32)) < (0 : Int32)
                                ·
                                  show own_Fin _ _ _ _ _ _ (s₁.setTop (mkF m 54 #[.val (.int p1), .val (.float f), .val (.int (65536 : Int32))] [(.int (own_G p1 f (65536 : Int32)))]))
                                  refine own_to (fun t k => XS.ifNo X0.here hx rfl (hb hby own_d2_54) rfl ((if0 _ _).trans (tlt hc54_16).2.1) k) ?_
                                  show own_Fin _ _ _ _ _ _ (s₁.setTop (mkF m 57 #[.val (.int p1), .val (.float f), .val (.int (65536 : Int32))] []))
                                  refine own_to (fun t k => XS.iloadN X0.here hx rfl (hb hby own_d2_57) rfl k) ?_
                                  show own_Fin _ _ _ _ _ _ (s₁.setTop (mkF m 58 #[.val (.int p1), .val (.float f), .val (.int (65536 : Int32))] [(.int (65536 : Int32))]))
                                  refine own_to (fun t k => XS.iconst X0.here hx rfl (hb hby own_d2_58) k) ?_
                                  show own_Fin _ _ _ _ _ _ (s₁.setTop (mkF m 59 #[.val (.int p1), .val (.float f), .val (.int (65536 : Int32))] [(.int (1 : Int32)), (.int (65536 : Int32))]))
                                  refine own_to (fun t k => XS.ishl X0.here hx rfl (hb hby own_d2_59) rfl k) ?_
                                  show own_Fin _ _ _ _ _ _ (s₁.setTop (mkF m 60 #[.val (.int p1), .val (.float f), .val (.int (65536 : Int32))] [(.int (131072 : Int32))]))
                                  refine own_to (fun t k => XS.istoreN X0.here hx rfl (hb hby own_d2_60) rfl (l' := #[.val (.int p1), .val (.float f), .val (.int (131072 : Int32))]) rfl k) ?_
                                  show own_Fin _ _ _ _ _ _ (s₁.setTop (mkF m 61 #[.val (.int p1), .val (.float f), .val (.int (131072 : Int32))] []))
                                  refine own_to (fun t k => XS.goto X0.here hx rfl (pc0 := 61) (pc' := 40) rfl (hb hby own_d2_61) (by decide) (by decide) k) ?_
                                  show own_Fin _ _ _ _ _ _ (s₁.setTop (mkF m 40 #[.val (.int p1), .val (.float f), .val (.int (131072 : Int32))] []))
                                  refine own_to (fun t k => XS.iloadN X0.here hx rfl (hb hby own_d2_40) rfl k) ?_
                                  show own_Fin _ _ _ _ _ _ (s₁.setTop (mkF m 41 #[.val (.int p1), .val (.float f), .val (.int (131072 : Int32))] [(.int (131072 : Int32))]))
                                  refine own_to (fun t k => X0.ldcInt hx hown (mvT hZ (hw _ (List.mem_of_getElem? (i := 8) rfl))) (g := (mkF m 41 #[.val (.int p1), .val (.float f), .val (.int (131072 : Int32))] [(.int (131072 : Int32))])) rfl (hb hby own_d2_41) _ k) ?_
                                  show own_Fin _ _ _ _ _ _ (s₁.setTop (mkF m 43 #[.val (.int p1), .val (.float f), .val (.int (131072 : Int32))] [(.int (1073741824 : Int32)), (.int (131072 : Int32))]))
                                  refine own_to (fun t k => XS.icmpNo X0.here hx rfl (hb hby own_d2_43) rfl (tlt (by decide)).2.1 k) ?_
                                  show own_Fin _ _ _ _ _ _ (s₁.setTop (mkF m 46 #[.val (.int p1), .val (.float f), .val (.int (131072 : Int32))] []))
                                  refine own_to (fun t k => XS.iloadN X0.here hx rfl (hb hby own_d2_46) rfl k) ?_
                                  show own_Fin _ _ _ _ _ _ (s₁.setTop (mkF m 47 #[.val (.int p1), .val (.float f), .val (.int (131072 : Int32))] [(.int (131072 : Int32))]))
                                  refine own_to (fun t k => XS.i2dS X0.here hx rfl (hb hby own_d2_47) rfl rfl k) ?_
                                  show own_Fin _ _ _ _ _ _ (s₁.setTop (mkF m 48 #[.val (.int p1), .val (.float f), .val (.int (131072 : Int32))] [(.double (FP.i2d (131072 : Int32)))]))
                                  refine own_to (fun t k => XS.floadN X0.here hx rfl (hb hby own_d2_48) rfl k) ?_
                                  show own_Fin _ _ _ _ _ _ (s₁.setTop (mkF m 49 #[.val (.int p1), .val (.float f), .val (.int (131072 : Int32))] [(.float f), (.double (FP.i2d (131072 : Int32)))]))
                                  refine own_to (fun t k => XS.f2dS X0.here hx rfl (hb hby own_d2_49) rfl hF.nd rfl k) ?_
                                  show own_Fin _ _ _ _ _ _ (s₁.setTop (mkF m 50 #[.val (.int p1), .val (.float f), .val (.int (131072 : Int32))] [(.double (FP.f2d f)), (.double (FP.i2d (131072 : Int32)))]))
                                  refine own_to (fun t k => XS.dmulS X0.here hx rfl (hb hby own_d2_50) rfl (hF.nm _) rfl k) ?_
                                  show own_Fin _ _ _ _ _ _ (s₁.setTop (mkF m 51 #[.val (.int p1), .val (.float f), .val (.int (131072 : Int32))] [(.double (FP.dmul (FP.i2d (131072 : Int32)) (FP.f2d f)))]))
                                  refine own_to (fun t k => XS.iloadN X0.here hx rfl (hb hby own_d2_51) rfl k) ?_
                                  show own_Fin _ _ _ _ _ _ (s₁.setTop (mkF m 52 #[.val (.int p1), .val (.float f), .val (.int (131072 : Int32))] [(.int p1), (.double (FP.dmul (FP.i2d (131072 : Int32)) (FP.f2d f)))]))
                                  refine own_to (fun t k => XS.i2dS X0.here hx rfl (hb hby own_d2_52) rfl rfl k) ?_
                                  show own_Fin _ _ _ _ _ _ (s₁.setTop (mkF m 53 #[.val (.int p1), .val (.float f), .val (.int (131072 : Int32))] [(.double (FP.i2d p1)), (.double (FP.dmul (FP.i2d (131072 : Int32)) (FP.f2d f)))]))
                                  refine own_to (fun t k => XS.dcmpS X0.here hx rfl (hb hby own_d2_53) rfl rfl k) ?_
                                  show own_Fin _ _ _ _ _ _ (s₁.setTop (mkF m 54 #[.val (.int p1), .val (.float f), .val (.int (131072 : Int32))] [(.int (cmpValue (FP.dcmp (FP.dmul (FP.i2d (131072 : Int32)) (FP.f2d f)) (FP.i2d p1)) .g))]))
                                  show own_Fin _ _ _ _ _ _ (s₁.setTop (mkF m 54 #[.val (.int p1), .val (.float f), .val (.int (131072 : Int32))] [(.int (own_G p1 f (131072 : Int32)))]))
                                  by_cases hc54_17 : (own_G p1 f (131072 : Int32)) < (0 : Int32)
                                  ·
                                    show own_Fin _ _ _ _ _ _ (s₁.setTop (mkF m 54 #[.val (.int p1), .val (.float f), .val (.int (131072 : Int32))] [(.int (own_G p1 f (131072 : Int32)))]))
                                    refine own_to (fun t k => XS.ifNo X0.here hx rfl (hb hby own_d2_54) rfl ((if0 _ _).trans (tlt hc54_17).2.1) k) ?_
                                    show own_Fin _ _ _ _ _ _ (s₁.setTop (mkF m 57 #[.val (.int p1), .val (.float f), .val (.int (131072 : Int32))] []))
                                    refine own_to (fun t k => XS.iloadN X0.here hx rfl (hb hby own_d2_57) rfl k) ?_
                                    show own_Fin _ _ _ _ _ _ (s₁.setTop (mkF m 58 #[.val (.int p1), .val (.float f), .val (.int (131072 : Int32))] [(.int (131072 : Int32))]))
                                    refine own_to (fun t k => XS.iconst X0.here hx rfl (hb hby own_d2_58) k) ?_
                                    show own_Fin _ _ _ _ _ _ (s₁.setTop (mkF m 59 #[.val (.int p1), .val (.float f), .val (.int (131072 : Int32))] [(.int (1 : Int32)), (.int (131072 : Int32))]))
                                    refine own_to (fun t k => XS.ishl X0.here hx rfl (hb hby own_d2_59) rfl k) ?_
                                    show own_Fin _ _ _ _ _ _ (s₁.setTop (mkF m 60 #[.val (.int p1), .val (.float f), .val (.int (131072 : Int32))] [(.int (262144 : Int32))]))
                                    refine own_to (fun t k => XS.istoreN X0.here hx rfl (hb hby own_d2_60) rfl (l' := #[.val (.int p1), .val (.float f), .val (.int (262144 : Int32))]) rfl k) ?_
                                    show own_Fin _ _ _ _ _ _ (s₁.setTop (mkF m 61 #[.val (.int p1), .val (.float f), .val (.int (262144 : Int32))] []))
                                    refine own_to (fun t k => XS.goto X0.here hx rfl (pc0 := 61) (pc' := 40) rfl (hb hby own_d2_61) (by decide) (by decide) k) ?_
                                    show own_Fin _ _ _ _ _ _ (s₁.setTop (mkF m 40 #[.val (.int p1), .val (.float f), .val (.int (262144 : Int32))] []))
                                    refine own_to (fun t k => XS.iloadN X0.here hx rfl (hb hby own_d2_40) rfl k) ?_
                                    show own_Fin _ _ _ _ _ _ (s₁.setTop (mkF m 41 #[.val (.int p1), .val (.float f), .val (.int (262144 : Int32))] [(.int (262144 : Int32))]))
                                    refine own_to (fun t k => X0.ldcInt hx hown (mvT hZ (hw _ (List.mem_of_getElem? (i := 8) rfl))) (g := (mkF m 41 #[.val (.int p1), .val (.float f), .val (.int (262144 : Int32))] [(.int (262144 : Int32))])) rfl (hb hby own_d2_41) _ k) ?_
                                    show own_Fin _ _ _ _ _ _ (s₁.setTop (mkF m 43 #[.val (.int p1), .val (.float f), .val (.int (262144 : Int32))] [(.int (1073741824 : Int32)), (.int (262144 : Int32))]))
                                    refine own_to (fun t k => XS.icmpNo X0.here hx rfl (hb hby own_d2_43) rfl (tlt (by decide)).2.1 k) ?_
                                    show own_Fin _ _ _ _ _ _ (s₁.setTop (mkF m 46 #[.val (.int p1), .val (.float f), .val (.int (262144 : Int32))] []))
                                    refine own_to (fun t k => XS.iloadN X0.here hx rfl (hb hby own_d2_46) rfl k) ?_
                                    show own_Fin _ _ _ _ _ _ (s₁.setTop (mkF m 47 #[.val (.int p1), .val (.float f), .val (.int (262144 : Int32))] [(.int (262144 : Int32))]))
                                    refine own_to (fun t k => XS.i2dS X0.here hx rfl (hb hby own_d2_47) rfl rfl k) ?_
                                    show own_Fin _ _ _ _ _ _ (s₁.setTop (mkF m 48 #[.val (.int p1), .val (.float f), .val (.int (262144 : Int32))] [(.double (FP.i2d (262144 : Int32)))]))
                                    refine own_to (fun t k => XS.floadN X0.here hx rfl (hb hby own_d2_48) rfl k) ?_
                                    show own_Fin _ _ _ _ _ _ (s₁.setTop (mkF m 49 #[.val (.int p1), .val (.float f), .val (.int (262144 : Int32))] [(.float f), (.double (FP.i2d (262144 : Int32)))]))
                                    refine own_to (fun t k => XS.f2dS X0.here hx rfl (hb hby own_d2_49) rfl hF.nd rfl k) ?_
                                    show own_Fin _ _ _ _ _ _ (s₁.setTop (mkF m 50 #[.val (.int p1), .val (.float f), .val (.int (262144 : Int32))] [(.double (FP.f2d f)), (.double (FP.i2d (262144 : Int32)))]))
                                    refine own_to (fun t k => XS.dmulS X0.here hx rfl (hb hby own_d2_50) rfl (hF.nm _) rfl k) ?_
                                    show own_Fin _ _ _ _ _ _ (s₁.setTop (mkF m 51 #[.val (.int p1), .val (.float f), .val (.int (262144 : Int32))] [(.double (FP.dmul (FP.i2d (262144 : Int32)) (FP.f2d f)))]))
                                    refine own_to (fun t k => XS.iloadN X0.here hx rfl (hb hby own_d2_51) rfl k) ?_
                                    show own_Fin _ _ _ _ _ _ (s₁.setTop (mkF m 52 #[.val (.int p1), .val (.float f), .val (.int (262144 : Int32))] [(.int p1), (.double (FP.dmul (FP.i2d (262144 : Int32)) (FP.f2d f)))]))
                                    refine own_to (fun t k => XS.i2dS X0.here hx rfl (hb hby own_d2_52) rfl rfl k) ?_
                                    show own_Fin _ _ _ _ _ _ (s₁.setTop (mkF m 53 #[.val (.int p1), .val (.float f), .val (.int (262144 : Int32))] [(.double (FP.i2d p1)), (.double (FP.dmul (FP.i2d (262144 : Int32)) (FP.f2d f)))]))
                                    refine own_to (fun t k => XS.dcmpS X0.here hx rfl (hb hby own_d2_53) rfl rfl k) ?_
                                    show own_Fin _ _ _ _ _ _ (s₁.setTop (mkF m 54 #[.val (.int p1), .val (.float f), .val (.int (262144 : Int32))] [(.int (cmpValue (FP.dcmp (FP.dmul (FP.i2d (262144 : Int32)) (FP.f2d f)) (FP.i2d p1)) .g))]))
                                    show own_Fin _ _ _ _ _ _ (s₁.setTop (mkF m 54 #[.val (.int p1), .val (.float f), .val (.int (262144 : Int32))] [(.int (own_G p1 f (262144 : Int32)))]))
                                    by_cases hc54_18 : (own_G p1 f (262144 : Int32)) < (0 : Int32)
                                    ·
                                      show own_Fin _ _ _ _ _ _ (s₁.setTop (mkF m 54 #[.val (.int p1), .val (.float f), .val (.int (262144 : Int32))] [(.int (own_G p1 f (262144 : Int32)))]))
                                      refine own_to (fun t k => XS.ifNo X0.here hx rfl (hb hby own_d2_54) rfl ((if0 _ _).trans (tlt hc54_18).2.1) k) ?_
                                      show own_Fin _ _ _ _ _ _ (s₁.setTop (mkF m 57 #[.val (.int p1), .val (.float f), .val (.int (262144 : Int32))] []))
                                      refine own_to (fun t k => XS.iloadN X0.here hx rfl (hb hby own_d2_57) rfl k) ?_
                                      show own_Fin _ _ _ _ _ _ (s₁.setTop (mkF m 58 #[.val (.int p1), .val (.float f), .val (.int (262144 : Int32))] [(.int (262144 : Int32))]))
                                      refine own_to (fun t k => XS.iconst X0.here hx rfl (hb hby own_d2_58) k) ?_
                                      show own_Fin _ _ _ _ _ _ (s₁.setTop (mkF m 59 #[.val (.int p1), .val (.float f), .val (.int (262144 : Int32))] [(.int (1 : Int32)), (.int (262144 : Int32))]))
                                      refine own_to (fun t k => XS.ishl X0.here hx rfl (hb hby own_d2_59) rfl k) ?_
                                      show own_Fin _ _ _ _ _ _ (s₁.setTop (mkF m 60 #[.val (.int p1), .val (.float f), .val (.int (262144 : Int32))] [(.int (524288 : Int32))]))
                                      refine own_to (fun t k => XS.istoreN X0.here hx rfl (hb hby own_d2_60) rfl (l' := #[.val (.int p1), .val (.float f), .val (.int (524288 : Int32))]) rfl k) ?_
                                      show own_Fin _ _ _ _ _ _ (s₁.setTop (mkF m 61 #[.val (.int p1), .val (.float f), .val (.int (524288 : Int32))] []))
                                      refine own_to (fun t k => XS.goto X0.here hx rfl (pc0 := 61) (pc' := 40) rfl (hb hby own_d2_61) (by decide) (by decide) k) ?_
                                      show own_Fin _ _ _ _ _ _ (s₁.setTop (mkF m 40 #[.val (.int p1), .val (.float f), .val (.int (524288 : Int32))] []))
                                      refine own_to (fun t k => XS.iloadN X0.here hx rfl (hb hby own_d2_40) rfl k) ?_
                                      show own_Fin _ _ _ _ _ _ (s₁.setTop (mkF m 41 #[.val (.int p1), .val (.float f), .val (.int (524288 : Int32))] [(.int (524288 : Int32))]))
                                      refine own_to (fun t k => X0.ldcInt hx hown (mvT hZ (hw _ (List.mem_of_getElem? (i := 8) rfl))) (g := (mkF m 41 #[.val (.int p1), .val (.float f), .val (.int (524288 : Int32))] [(.int (524288 : Int32))])) rfl (hb hby own_d2_41) _ k) ?_
                                      show own_Fin _ _ _ _ _ _ (s₁.setTop (mkF m 43 #[.val (.int p1), .val (.float f), .val (.int (524288 : Int32))] [(.int (1073741824 : Int32)), (.int (524288 : Int32))]))
                                      refine own_to (fun t k => XS.icmpNo X0.here hx rfl (hb hby own_d2_43) rfl (tlt (by decide)).2.1 k) ?_
                                      show own_Fin _ _ _ _ _ _ (s₁.setTop (mkF m 46 #[.val (.int p1), .val (.float f), .val (.int (524288 : Int32))] []))
                                      refine own_to (fun t k => XS.iloadN X0.here hx rfl (hb hby own_d2_46) rfl k) ?_
                                      show own_Fin _ _ _ _ _ _ (s₁.setTop (mkF m 47 #[.val (.int p1), .val (.float f), .val (.int (524288 : Int32))] [(.int (524288 : Int32))]))
                                      refine own_to (fun t k => XS.i2dS X0.here hx rfl (hb hby own_d2_47) rfl rfl k) ?_
                                      show own_Fin _ _ _ _ _ _ (s₁.setTop (mkF m 48 #[.val (.int p1), .val (.float f), .val (.int (524288 : Int32))] [(.double (FP.i2d (524288 : Int32)))]))
                                      refine own_to (fun t k => XS.floadN X0.here hx rfl (hb hby own_d2_48) rfl k) ?_
                                      show own_Fin _ _ _ _ _ _ (s₁.setTop (mkF m 49 #[.val (.int p1), .val (.float f), .val (.int (524288 : Int32))] [(.float f), (.double (FP.i2d (524288 : Int32)))]))
                                      refine own_to (fun t k => XS.f2dS X0.here hx rfl (hb hby own_d2_49) rfl hF.nd rfl k) ?_
                                      show own_Fin _ _ _ _ _ _ (s₁.setTop (mkF m 50 #[.val (.int p1), .val (.float f), .val (.int (524288 : Int32))] [(.double (FP.f2d f)), (.double (FP.i2d (524288 : Int32)))]))
                                      refine own_to (fun t k => XS.dmulS X0.here hx rfl (hb hby own_d2_50) rfl (hF.nm _) rfl k) ?_
                                      show own_Fin _ _ _ _ _ _ (s₁.setTop (mkF m 51 #[.val (.int p1), .val (.float f), .val (.int (524288 : Int32))] [(.double (FP.dmul (FP.i2d (524288 : Int32)) (FP.f2d f)))]))
                                      refine own_to (fun t k => XS.iloadN X0.here hx rfl (hb hby own_d2_51) rfl k) ?_
                                      show own_Fin _ _ _ _ _ _ (s₁.setTop (mkF m 52 #[.val (.int p1), .val (.float f), .val (.int (524288 : Int32))] [(.int p1), (.double (FP.dmul (FP.i2d (524288 : Int32)) (FP.f2d f)))]))
                                      refine own_to (fun t k => XS.i2dS X0.here hx rfl (hb hby own_d2_52) rfl rfl k) ?_
                                      show own_Fin _ _ _ _ _ _ (s₁.setTop (mkF m 53 #[.val (.int p1), .val (.float f), .val (.int (524288 : Int32))] [(.double (FP.i2d p1)), (.double (FP.dmul (FP.i2d (524288 : Int32)) (FP.f2d f)))]))
                                      refine own_to (fun t k => XS.dcmpS X0.here hx rfl (hb hby own_d2_53) rfl rfl k) ?_
                                      show own_Fin _ _ _ _ _ _ (s₁.setTop (mkF m 54 #[.val (.int p1), .val (.float f), .val (.int (524288 : Int32))] [(.int (cmpValue (FP.dcmp (FP.dmul (FP.i2d (524288 : Int32)) (FP.f2d f)) (FP.i2d p1)) .g))]))
                                      show own_Fin _ _ _ _ _ _ (s₁.setTop (mkF m 54 #[.val (.int p1), .val (.float f), .val (.int (524288 : Int32))] [(.int (own_G p1 f (524288 : Int32)))]))
                                      by_cases hc54_19 : (own_G p1 f (524288 : Int32)) < (0 : Int32)
                                      ·
                                        show own_Fin _ _ _ _ _ _ (s₁.setTop (mkF m 54 #[.val (.int p1), .val (.float f), .val (.int (524288 : Int32))] [(.int (own_G p1 f (524288 : Int32)))]))
                                        refine own_to (fun t k => XS.ifNo X0.here hx rfl (hb hby own_d2_54) rfl ((if0 _ _).trans (tlt hc54_19).2.1) k) ?_
                                        show own_Fin _ _ _ _ _ _ (s₁.setTop (mkF m 57 #[.val (.int p1), .val (.float f), .val (.int (524288 : Int32))] []))
                                        refine own_to (fun t k => XS.iloadN X0.here hx rfl (hb hby own_d2_57) rfl k) ?_
                                        show own_Fin _ _ _ _ _ _ (s₁.setTop (mkF m 58 #[.val (.int p1), .val (.float f), .val (.int (524288 : Int32))] [(.int (524288 : Int32))]))
                                        refine own_to (fun t k => XS.iconst X0.here hx rfl (hb hby own_d2_58) k) ?_
                                        show own_Fin _ _ _ _ _ _ (s₁.setTop (mkF m 59 #[.val (.int p1), .val (.float f), .val (.int (524288 : Int32))] [(.int (1 : Int32)), (.int (524288 : Int32))]))
                                        refine own_to (fun t k => XS.ishl X0.here hx rfl (hb hby own_d2_59) rfl k) ?_
                                        show own_Fin _ _ _ _ _ _ (s₁.setTop (mkF m 60 #[.val (.int p1), .val (.float f), .val (.int (524288 : Int32))] [(.int (1048576 : Int32))]))
                                        refine own_to (fun t k => XS.istoreN X0.here hx rfl (hb hby own_d2_60) rfl (l' := #[.val (.int p1), .val (.float f), .val (.int (1048576 : Int32))]) rfl k) ?_
                                        show own_Fin _ _ _ _ _ _ (s₁.setTop (mkF m 61 #[.val (.int p1), .val (.float f), .val (.int (1048576 : Int32))] []))
                                        refine own_to (fun t k => XS.goto X0.here hx rfl (pc0 := 61) (pc' := 40) rfl (hb hby own_d2_61) (by decide) (by decide) k) ?_
                                        show own_Fin _ _ _ _ _ _ (s₁.setTop (mkF m 40 #[.val (.int p1), .val (.float f), .val (.int (1048576 : Int32))] []))
                                        refine own_to (fun t k => XS.iloadN X0.here hx rfl (hb hby own_d2_40) rfl k) ?_
                                        show own_Fin _ _ _ _ _ _ (s₁.setTop (mkF m 41 #[.val (.int p1), .val (.float f), .val (.int (1048576 : Int32))] [(.int (1048576 : Int32))]))
                                        refine own_to (fun t k => X0.ldcInt hx hown (mvT hZ (hw _ (List.mem_of_getElem? (i := 8) rfl))) (g := (mkF m 41 #[.val (.int p1), .val (.float f), .val (.int (1048576 : Int32))] [(.int (1048576 : Int32))])) rfl (hb hby own_d2_41) _ k) ?_
                                        show own_Fin _ _ _ _ _ _ (s₁.setTop (mkF m 43 #[.val (.int p1), .val (.float f), .val (.int (1048576 : Int32))] [(.int (1073741824 : Int32)), (.int (1048576 : Int32))]))
                                        refine own_to (fun t k => XS.icmpNo X0.here hx rfl (hb hby own_d2_43) rfl (tlt (by decide)).2.1 k) ?_
                                        show own_Fin _ _ _ _ _ _ (s₁.setTop (mkF m 46 #[.val (.int p1), .val (.float f), .val (.int (1048576 : Int32))] []))
                                        refine own_to (fun t k => XS.iloadN X0.here hx rfl (hb hby own_d2_46) rfl k) ?_
                                        show own_Fin _ _ _ _ _ _ (s₁.setTop (mkF m 47 #[.val (.int p1), .val (.float f), .val (.int (1048576 : Int32))] [(.int (1048576 : Int32))]))
                                        refine own_to (fun t k => XS.i2dS X0.here hx rfl (hb hby own_d2_47) rfl rfl k) ?_
                                        show own_Fin _ _ _ _ _ _ (s₁.setTop (mkF m 48 #[.val (.int p1), .val (.float f), .val (.int (1048576 : Int32))] [(.double (FP.i2d (1048576 : Int32)))]))
                                        refine own_to (fun t k => XS.floadN X0.here hx rfl (hb hby own_d2_48) rfl k) ?_
                                        show own_Fin _ _ _ _ _ _ (s₁.setTop (mkF m 49 #[.val (.int p1), .val (.float f), .val (.int (1048576 : Int32))] [(.float f), (.double (FP.i2d (1048576 : Int32)))]))
                                        refine own_to (fun t k => XS.f2dS X0.here hx rfl (hb hby own_d2_49) rfl hF.nd rfl k) ?_
                                        show own_Fin _ _ _ _ _ _ (s₁.setTop (mkF m 50 #[.val (.int p1), .val (.float f), .val (.int (1048576 : Int32))] [(.double (FP.f2d f)), (.double (FP.i2d (1048576 : Int32)))]))
                                        refine own_to (fun t k => XS.dmulS X0.here hx rfl (hb hby own_d2_50) rfl (hF.nm _) rfl k) ?_
                                        show own_Fin _ _ _ _ _ _ (s₁.setTop (mkF m 51 #[.val (.int p1), .val (.float f), .val (.int (1048576 : Int32))] [(.double (FP.dmul (FP.i2d (1048576 : Int32)) (FP.f2d f)))]))
                                        refine own_to (fun t k => XS.iloadN X0.here hx rfl (hb hby own_d2_51) rfl k) ?_
                                        show own_Fin _ _ _ _ _ _ (s₁.setTop (mkF m 52 #[.val (.int p1), .val (.float f), .val (.int (1048576 : Int32))] [(.int p1), (.double (FP.dmul (FP.i2d (1048576 : Int32)) (FP.f2d f)))]))
                                        refine own_to (fun t k => XS.i2dS X0.here hx rfl (hb hby own_d2_52) rfl rfl k) ?_
                                        show own_Fin _ _ _ _ _ _ (s₁.setTop (mkF m 53 #[.val (.int p1), .val (.float f), .val (.int (1048576 : Int32))] [(.double (FP.i2d p1)), (.double (FP.dmul (FP.i2d (1048576 : Int32)) (FP.f2d f)))]))
                                        refine own_to (fun t k => XS.dcmpS X0.here hx rfl (hb hby own_d2_53) rfl rfl k) ?_
                                        show own_Fin _ _ _ _ _ _ (s₁.setTop (mkF m 54 #[.val (.int p1), .val (.float f), .val (.int (1048576 : Int32))] [(.int (cmpValue (FP.dcmp (FP.dmul (FP.i2d (1048576 : Int32)) (FP.f2d f)) (FP.i2d p1)) .g))]))
                                        show own_Fin _ _ _ _ _ _ (s₁.setTop (mkF m 54 #[.val (.int p1), .val (.float f), .val (.int (1048576 : Int32))] [(.int (own_G p1 f (1048576 : Int32)))]))
                                        by_cases hc54_20 : (own_G p1 f (1048576 : Int32)) < (0 : Int32)
                                        ·
                                          show own_Fin _ _ _ _ _ _ (s₁.setTop (mkF m 54 #[.val (.int p1), .val (.float f), .val (.int (1048576 : Int32))] [(.int (own_G p1 f (1048576 : Int32)))]))
                                          refine own_to (fun t k => XS.ifNo X0.here hx rfl (hb hby own_d2_54) rfl ((if0 _ _).trans (tlt hc54_20).2.1) k) ?_
                                          show own_Fin _ _ _ _ _ _ (s₁.setTop (mkF m 57 #[.val (.int p1), .val (.float f), .val (.int (1048576 : Int32))] []))
                                          refine own_to (fun t k => XS.iloadN X0.here hx rfl (hb hby own_d2_57) rfl k) ?_
                                          show own_Fin _ _ _ _ _ _ (s₁.setTop (mkF m 58 #[.val (.int p1), .val (.float f), .val (.int (1048576 : Int32))] [(.int (1048576 : Int32))]))
                                          refine own_to (fun t k => XS.iconst X0.here hx rfl (hb hby own_d2_58) k) ?_
                                          show own_Fin _ _ _ _ _ _ (s₁.setTop (mkF m 59 #[.val (.int p1), .val (.float f), .val (.int (1048576 : Int32))] [(.int (1 : Int32)), (.int (1048576 : Int32))]))
                                          refine own_to (fun t k => XS.ishl X0.here hx rfl (hb hby own_d2_59) rfl k) ?_
                                          show own_Fin _ _ _ _ _ _ (s₁.setTop (mkF m 60 #[.val (.int p1), .val (.float f), .val (.int (1048576 : Int32))] [(.int (2097152 : Int32))]))
                                          refine own_to (fun t k => XS.istoreN X0.here hx rfl (hb hby own_d2_60) rfl (l' := #[.val (.int p1), .val (.float f), .val (.int (2097152 : Int32))]) rfl k) ?_
                                          show own_Fin _ _ _ _ _ _ (s₁.setTop (mkF m 61 #[.val (.int p1), .val (.float f), .val (.int (2097152 : Int32))] []))
                                          refine own_to (fun t k => XS.goto X0.here hx rfl (pc0 := 61) (pc' := 40) rfl (hb hby own_d2_61) (by decide) (by decide) k) ?_
                                          show own_Fin _ _ _ _ _ _ (s₁.setTop (mkF m 40 #[.val (.int p1), .val (.float f), .val (.int (2097152 : Int32))] []))
                                          refine own_to (fun t k => XS.iloadN X0.here hx rfl (hb hby own_d2_40) rfl k) ?_
                                          show own_Fin _ _ _ _ _ _ (s₁.setTop (mkF m 41 #[.val (.int p1), .val (.float f), .val (.int (2097152 : Int32))] [(.int (2097152 : Int32))]))
                                          refine own_to (fun t k => X0.ldcInt hx hown (mvT hZ (hw _ (List.mem_of_getElem? (i := 8) rfl))) (g := (mkF m 41 #[.val (.int p1), .val (.float f), .val (.int (2097152 : Int32))] [(.int (2097152 : Int32))])) rfl (hb hby own_d2_41) _ k) ?_
                                          show own_Fin _ _ _ _ _ _ (s₁.setTop (mkF m 43 #[.val (.int p1), .val (.float f), .val (.int (2097152 : Int32))] [(.int (1073741824 : Int32)), (.int (2097152 : Int32))]))
                                          refine own_to (fun t k => XS.icmpNo X0.here hx rfl (hb hby own_d2_43) rfl (tlt (by decide)).2.1 k) ?_
                                          show own_Fin _ _ _ _ _ _ (s₁.setTop (mkF m 46 #[.val (.int p1), .val (.float f), .val (.int (2097152 : Int32))] []))
                                          refine own_to (fun t k => XS.iloadN X0.here hx rfl (hb hby own_d2_46) rfl k) ?_
                                          show own_Fin _ _ _ _ _ _ (s₁.setTop (mkF m 47 #[.val (.int p1), .val (.float f), .val (.int (2097152 : Int32))] [(.int (2097152 : Int32))]))
                                          refine own_to (fun t k => XS.i2dS X0.here hx rfl (hb hby own_d2_47) rfl rfl k) ?_
                                          show own_Fin _ _ _ _ _ _ (s₁.setTop (mkF m 48 #[.val (.int p1), .val (.float f), .val (.int (2097152 : Int32))] [(.double (FP.i2d (2097152 : Int32)))]))
                                          refine own_to (fun t k => XS.floadN X0.here hx rfl (hb hby own_d2_48) rfl k) ?_
                                          show own_Fin _ _ _ _ _ _ (s₁.setTop (mkF m 49 #[.val (.int p1), .val (.float f), .val (.int (2097152 : Int32))] [(.float f), (.double (FP.i2d (2097152 : Int32)))]))
                                          refine own_to (fun t k => XS.f2dS X0.here hx rfl (hb hby own_d2_49) rfl hF.nd rfl k) ?_
                                          show own_Fin _ _ _ _ _ _ (s₁.setTop (mkF m 50 #[.val (.int p1), .val (.float f), .val (.int (2097152 : Int32))] [(.double (FP.f2d f)), (.double (FP.i2d (2097152 : Int32)))]))
                                          refine own_to (fun t k => XS.dmulS X0.here hx rfl (hb hby own_d2_50) rfl (hF.nm _) rfl k) ?_
                                          show own_Fin _ _ _ _ _ _ (s₁.setTop (mkF m 51 #[.val (.int p1), .val (.float f), .val (.int (2097152 : Int32))] [(.double (FP.dmul (FP.i2d (2097152 : Int32)) (FP.f2d f)))]))
                                          refine own_to (fun t k => XS.iloadN X0.here hx rfl (hb hby own_d2_51) rfl k) ?_
                                          show own_Fin _ _ _ _ _ _ (s₁.setTop (mkF m 52 #[.val (.int p1), .val (.float f), .val (.int (2097152 : Int32))] [(.int p1), (.double (FP.dmul (FP.i2d (2097152 : Int32)) (FP.f2d f)))]))
                                          refine own_to (fun t k => XS.i2dS X0.here hx rfl (hb hby own_d2_52) rfl rfl k) ?_
                                          show own_Fin _ _ _ _ _ _ (s₁.setTop (mkF m 53 #[.val (.int p1), .val (.float f), .val (.int (2097152 : Int32))] [(.double (FP.i2d p1)), (.double (FP.dmul (FP.i2d (2097152 : Int32)) (FP.f2d f)))]))
                                          refine own_to (fun t k => XS.dcmpS X0.here hx rfl (hb hby own_d2_53) rfl rfl k) ?_
                                          show own_Fin _ _ _ _ _ _ (s₁.setTop (mkF m 54 #[.val (.int p1), .val (.float f), .val (.int (2097152 : Int32))] [(.int (cmpValue (FP.dcmp (FP.dmul (FP.i2d (2097152 : Int32)) (FP.f2d f)) (FP.i2d p1)) .g))]))
                                          show own_Fin _ _ _ _ _ _ (s₁.setTop (mkF m 54 #[.val (.int p1), .val (.float f), .val (.int (2097152 : Int32))] [(.int (own_G p1 f (2097152 : Int32)))]))
                                          by_cases hc54_21 : (own_G p1 f (2097152 : Int32)) < (0 : Int32)
                                          ·
                                            show own_Fin _ _ _ _ _ _ (s₁.setTop (mkF m 54 #[.val (.int p1), .val (.float f), .val (.int (2097152 : Int32))] [(.int (own_G p1 f (2097152 : Int32)))]))
                                            refine own_to (fun t k => XS.ifNo X0.here hx rfl (hb hby own_d2_54) rfl ((if0 _ _).trans (tlt hc54_21).2.1) k) ?_
                                            show own_Fin _ _ _ _ _ _ (s₁.setTop (mkF m 57 #[.val (.int p1), .val (.float f), .val (.int (2097152 : Int32))] []))
                                            refine own_to (fun t k => XS.iloadN X0.here hx rfl (hb hby own_d2_57) rfl k) ?_
                                            show own_Fin _ _ _ _ _ _ (s₁.setTop (mkF m 58 #[.val (.int p1), .val (.float f), .val (.int (2097152 : Int32))] [(.int (2097152 : Int32))]))
                                            refine own_to (fun t k => XS.iconst X0.here hx rfl (hb hby own_d2_58) k) ?_
                                            show own_Fin _ _ _ _ _ _ (s₁.setTop (mkF m 59 #[.val (.int p1), .val (.float f), .val (.int (2097152 : Int32))] [(.int (1 : Int32)), (.int (2097152 : Int32))]))
                                            refine own_to (fun t k => XS.ishl X0.here hx rfl (hb hby own_d2_59) rfl k) ?_
                                            show own_Fin _ _ _ _ _ _ (s₁.setTop (mkF m 60 #[.val (.int p1), .val (.float f), .val (.int (2097152 : Int32))] [(.int (4194304 : Int32))]))
                                            refine own_to (fun t k => XS.istoreN X0.here hx rfl (hb hby own_d2_60) rfl (l' := #[.val (.int p1), .val (.float f), .val (.int (4194304 : Int32))]) rfl k) ?_
                                            show own_Fin _ _ _ _ _ _ (s₁.setTop (mkF m 61 #[.val (.int p1), .val (.float f), .val (.int (4194304 : Int32))] []))
                                            refine own_to (fun t k => XS.goto X0.here hx rfl (pc0 := 61) (pc' := 40) rfl (hb hby own_d2_61) (by decide) (by decide) k) ?_
                                            show own_Fin _ _ _ _ _ _ (s₁.setTop (mkF m 40 #[.val (.int p1), .val (.float f), .val (.int (4194304 : Int32))] []))
                                            refine own_to (fun t k => XS.iloadN X0.here hx rfl (hb hby own_d2_40) rfl k) ?_
                                            show own_Fin _ _ _ _ _ _ (s₁.setTop (mkF m 41 #[.val (.int p1), .val (.float f), .val (.int (4194304 : Int32))] [(.int (4194304 : Int32))]))
                                            refine own_to (fun t k => X0.ldcInt hx hown (mvT hZ (hw _ (List.mem_of_getElem? (i := 8) rfl))) (g := (mkF m 41 #[.val (.int p1), .val (.float f), .val (.int (4194304 : Int32))] [(.int (4194304 : Int32))])) rfl (hb hby own_d2_41) _ k) ?_
                                            show own_Fin _ _ _ _ _ _ (s₁.setTop (mkF m 43 #[.val (.int p1), .val (.float f), .val (.int (4194304 : Int32))] [(.int (1073741824 : Int32)), (.int (4194304 : Int32))]))
                                            refine own_to (fun t k => XS.icmpNo X0.here hx rfl (hb hby own_d2_43) rfl (tlt (by decide)).2.1 k) ?_
                                            show own_Fin _ _ _ _ _ _ (s₁.setTop (mkF m 46 #[.val (.int p1), .val (.float f), .val (.int (4194304 : Int32))] []))
                                            refine own_to (fun t k => XS.iloadN X0.here hx rfl (hb hby own_d2_46) rfl k) ?_
                                            show own_Fin _ _ _ _ _ _ (s₁.setTop (mkF m 47 #[.val (.int p1), .val (.float f), .val (.int (4194304 : Int32))] [(.int (4194304 : Int32))]))
                                            refine own_to (fun t k => XS.i2dS X0.here hx rfl (hb hby own_d2_47) rfl rfl k) ?_
                                            show own_Fin _ _ _ _ _ _ (s₁.setTop (mkF m 48 #[.val (.int p1), .val (.float f), .val (.int (4194304 : Int32))] [(.double (FP.i2d (4194304 : Int32)))]))
                                            refine own_to (fun t k => XS.floadN X0.here hx rfl (hb hby own_d2_48) rfl k) ?_
                                            show own_Fin _ _ _ _ _ _ (s₁.setTop (mkF m 49 #[.val (.int p1), .val (.float f), .val (.int (4194304 : Int32))] [(.float f), (.double (FP.i2d (4194304 : Int32)))]))
                                            refine own_to (fun t k => XS.f2dS X0.here hx rfl (hb hby own_d2_49) rfl hF.nd rfl k) ?_
                                            show own_Fin _ _ _ _ _ _ (s₁.setTop (mkF m 50 #[.val (.int p1), .val (.float f), .val (.int (4194304 : Int32))] [(.double (FP.f2d f)), (.double (FP.i2d (4194304 : Int32)))]))
                                            refine own_to (fun t k => XS.dmulS X0.here hx rfl (hb hby own_d2_50) rfl (hF.nm _) rfl k) ?_
                                            show own_Fin _ _ _ _ _ _ (s₁.setTop (mkF m 51 #[.val (.int p1), .val (.float f), .val (.int (4194304 : Int32))] [(.double (FP.dmul (FP.i2d (4194304 : Int32)) (FP.f2d f)))]))
                                            refine own_to (fun t k => XS.iloadN X0.here hx rfl (hb hby own_d2_51) rfl k) ?_
                                            show own_Fin _ _ _ _ _ _ (s₁.setTop (mkF m 52 #[.val (.int p1), .val (.float f), .val (.int (4194304 : Int32))] [(.int p1), (.double (FP.dmul (FP.i2d (4194304 : Int32)) (FP.f2d f)))]))
                                            refine own_to (fun t k => XS.i2dS X0.here hx rfl (hb hby own_d2_52) rfl rfl k) ?_
                                            show own_Fin _ _ _ _ _ _ (s₁.setTop (mkF m 53 #[.val (.int p1), .val (.float f), .val (.int (4194304 : Int32))] [(.double (FP.i2d p1)), (.double (FP.dmul (FP.i2d (4194304 : Int32)) (FP.f2d f)))]))
                                            refine own_to (fun t k => XS.dcmpS X0.here hx rfl (hb hby own_d2_53) rfl rfl k) ?_
                                            show own_Fin _ _ _ _ _ _ (s₁.setTop (mkF m 54 #[.val (.int p1), .val (.float f), .val (.int (4194304 : Int32))] [(.int (cmpValue (FP.dcmp (FP.dmul (FP.i2d (4194304 : Int32)) (FP.f2d f)) (FP.i2d p1)) .g))]))
                                            show own_Fin _ _ _ _ _ _ (s₁.setTop (mkF m 54 #[.val (.int p1), .val (.float f), .val (.int (4194304 : Int32))] [(.int (own_G p1 f (4194304 : Int32)))]))
                                            by_cases hc54_22 : (own_G p1 f (4194304 : Int32)) < (0 : Int32)
                                            ·
                                              show own_Fin _ _ _ _ _ _ (s₁.setTop (mkF m 54 #[.val (.int p1), .val (.float f), .val (.int (4194304 : Int32))] [(.int (own_G p1 f (4194304 : Int32)))]))
                                              refine own_to (fun t k => XS.ifNo X0.here hx rfl (hb hby own_d2_54) rfl ((if0 _ _).trans (tlt hc54_22).2.1) k) ?_
                                              show own_Fin _ _ _ _ _ _ (s₁.setTop (mkF m 57 #[.val (.int p1), .val (.float f), .val (.int (4194304 : Int32))] []))
                                              refine own_to (fun t k => XS.iloadN X0.here hx rfl (hb hby own_d2_57) rfl k) ?_
                                              show own_Fin _ _ _ _ _ _ (s₁.setTop (mkF m 58 #[.val (.int p1), .val (.float f), .val (.int (4194304 : Int32))] [(.int (4194304 : Int32))]))
                                              refine own_to (fun t k => XS.iconst X0.here hx rfl (hb hby own_d2_58) k) ?_
                                              show own_Fin _ _ _ _ _ _ (s₁.setTop (mkF m 59 #[.val (.int p1), .val (.float f), .val (.int (4194304 : Int32))] [(.int (1 : Int32)), (.int (4194304 : Int32))]))
                                              refine own_to (fun t k => XS.ishl X0.here hx rfl (hb hby own_d2_59) rfl k) ?_
                                              show own_Fin _ _ _ _ _ _ (s₁.setTop (mkF m 60 #[.val (.int p1), .val (.float f), .val (.int (4194304 : Int32))] [(.int (8388608 : Int32))]))
                                              refine own_to (fun t k => XS.istoreN X0.here hx rfl (hb hby own_d2_60) rfl (l' := #[.val (.int p1), .val (.float f), .val (.int (8388608 : Int32))]) rfl k) ?_
                                              show own_Fin _ _ _ _ _ _ (s₁.setTop (mkF m 61 #[.val (.int p1), .val (.float f), .val (.int (8388608 : Int32))] []))
                                              refine own_to (fun t k => XS.goto X0.here hx rfl (pc0 := 61) (pc' := 40) rfl (hb hby own_d2_61) (by decide) (by decide) k) ?_
                                              show own_Fin _ _ _ _ _ _ (s₁.setTop (mkF m 40 #[.val (.int p1), .val (.float f), .val (.int (8388608 : Int32))] []))
                                              refine own_to (fun t k => XS.iloadN X0.here hx rfl (hb hby own_d2_40) rfl k) ?_
                                              show own_Fin _ _ _ _ _ _ (s₁.setTop (mkF m 41 #[.val (.int p1), .val (.float f), .val (.int (8388608 : Int32))] [(.int (8388608 : Int32))]))
                                              refine own_to (fun t k => X0.ldcInt hx hown (mvT hZ (hw _ (List.mem_of_getElem? (i := 8) rfl))) (g := (mkF m 41 #[.val (.int p1), .val (.float f), .val (.int (8388608 : Int32))] [(.int (8388608 : Int32))])) rfl (hb hby own_d2_41) _ k) ?_
                                              show own_Fin _ _ _ _ _ _ (s₁.setTop (mkF m 43 #[.val (.int p1), .val (.float f), .val (.int (8388608 : Int32))] [(.int (1073741824 : Int32)), (.int (8388608 : Int32))]))
                                              refine own_to (fun t k => XS.icmpNo X0.here hx rfl (hb hby own_d2_43) rfl (tlt (by decide)).2.1 k) ?_
                                              show own_Fin _ _ _ _ _ _ (s₁.setTop (mkF m 46 #[.val (.int p1), .val (.float f), .val (.int (8388608 : Int32))] []))
                                              refine own_to (fun t k => XS.iloadN X0.here hx rfl (hb hby own_d2_46) rfl k) ?_
                                              show own_Fin _ _ _ _ _ _ (s₁.setTop (mkF m 47 #[.val (.int p1), .val (.float f), .val (.int (8388608 : Int32))] [(.int (8388608 : Int32))]))
                                              refine own_to (fun t k => XS.i2dS X0.here hx rfl (hb hby own_d2_47) rfl rfl k) ?_
                                              show own_Fin _ _ _ _ _ _ (s₁.setTop (mkF m 48 #[.val (.int p1), .val (.float f), .val (.int (8388608 : Int32))] [(.double (FP.i2d (8388608 : Int32)))]))
                                              refine own_to (fun t k => XS.floadN X0.here hx rfl (hb hby own_d2_48) rfl k) ?_
                                              show own_Fin _ _ _ _ _ _ (s₁.setTop (mkF m 49 #[.val (.int p1), .val (.float f), .val (.int (8388608 : Int32))] [(.float f), (.double (FP.i2d (8388608 : Int32)))]))
                                              refine own_to (fun t k => XS.f2dS X0.here hx rfl (hb hby own_d2_49) rfl hF.nd rfl k) ?_
                                              show own_Fin _ _ _ _ _ _ (s₁.setTop (mkF m 50 #[.val (.int p1), .val (.float f), .val (.int (8388608 : Int32))] [(.double (FP.f2d f)), (.double (FP.i2d (8388608 : Int32)))]))
                                              refine own_to (fun t k => XS.dmulS X0.here hx rfl (hb hby own_d2_50) rfl (hF.nm _) rfl k) ?_
                                              show own_Fin _ _ _ _ _ _ (s₁.setTop (mkF m 51 #[.val (.int p1), .val (.float f), .val (.int (8388608 : Int32))] [(.double (FP.dmul (FP.i2d (8388608 : Int32)) (FP.f2d f)))]))
                                              refine own_to (fun t k => XS.iloadN X0.here hx rfl (hb hby own_d2_51) rfl k) ?_
                                              show own_Fin _ _ _ _ _ _ (s₁.setTop (mkF m 52 #[.val (.int p1), .val (.float f), .val (.int (8388608 : Int32))] [(.int p1), (.double (FP.dmul (FP.i2d (8388608 : Int32)) (FP.f2d f)))]))
                                              refine own_to (fun t k => XS.i2dS X0.here hx rfl (hb hby own_d2_52) rfl rfl k) ?_
                                              show own_Fin _ _ _ _ _ _ (s₁.setTop (mkF m 53 #[.val (.int p1), .val (.float f), .val (.int (8388608 : Int32))] [(.double (FP.i2d p1)), (.double (FP.dmul (FP.i2d (8388608 : Int32)) (FP.f2d f)))]))
                                              refine own_to (fun t k => XS.dcmpS X0.here hx rfl (hb hby own_d2_53) rfl rfl k) ?_
                                              show own_Fin _ _ _ _ _ _ (s₁.setTop (mkF m 54 #[.val (.int p1), .val (.float f), .val (.int (8388608 : Int32))] [(.int (cmpValue (FP.dcmp (FP.dmul (FP.i2d (8388608 : Int32)) (FP.f2d f)) (FP.i2d p1)) .g))]))
                                              show own_Fin _ _ _ _ _ _ (s₁.setTop (mkF m 54 #[.val (.int p1), .val (.float f), .val (.int (8388608 : Int32))] [(.int (own_G p1 f (8388608 : Int32)))]))
                                              by_cases hc54_23 : (own_G p1 f (8388608 : Int32)) < (0 : Int32)
                                              ·
                                                show own_Fin _ _ _ _ _ _ (s₁.setTop (mkF m 54 #[.val (.int p1), .val (.float f), .val (.int (8388608 : Int32))] [(.int (own_G p1 f (8388608 : Int32)))]))
                                                refine own_to (fun t k => XS.ifNo X0.here hx rfl (hb hby own_d2_54) rfl ((if0 _ _).trans (tlt hc54_23).2.1) k) ?_
                                                show own_Fin _ _ _ _ _ _ (s₁.setTop (mkF m 57 #[.val (.int p1), .val (.float f), .val (.int (8388608 : Int32))] []))
                                                refine own_to (fun t k => XS.iloadN X0.here hx rfl (hb hby own_d2_57) rfl k) ?_
                                                show own_Fin _ _ _ _ _ _ (s₁.setTop (mkF m 58 #[.val (.int p1), .val (.float f), .val (.int (8388608 : Int32))] [(.int (8388608 : Int32))]))
                                                refine own_to (fun t k => XS.iconst X0.here hx rfl (hb hby own_d2_58) k) ?_
                                                show own_Fin _ _ _ _ _ _ (s₁.setTop (mkF m 59 #[.val (.int p1), .val (.float f), .val (.int (8388608 : Int32))] [(.int (1 : Int32)), (.int (8388608 : Int32))]))
                                                refine own_to (fun t k => XS.ishl X0.here hx rfl (hb hby own_d2_59) rfl k) ?_
                                                show own_Fin _ _ _ _ _ _ (s₁.setTop (mkF m 60 #[.val (.int p1), .val (.float f), .val (.int (8388608 : Int32))] [(.int (16777216 : Int32))]))
                                                refine own_to (fun t k => XS.istoreN X0.here hx rfl (hb hby own_d2_60) rfl (l' := #[.val (.int p1), .val (.float f), .val (.int (16777216 : Int32))]) rfl k) ?_
                                                show own_Fin _ _ _ _ _ _ (s₁.setTop (mkF m 61 #[.val (.int p1), .val (.float f), .val (.int (16777216 : Int32))] []))
                                                refine own_to (fun t k => XS.goto X0.here hx rfl (pc0 := 61) (pc' := 40) rfl (hb hby own_d2_61) (by decide) (by decide) k) ?_
                                                show own_Fin _ _ _ _ _ _ (s₁.setTop (mkF m 40 #[.val (.int p1), .val (.float f), .val (.int (16777216 : Int32))] []))
                                                refine own_to (fun t k => XS.iloadN X0.here hx rfl (hb hby own_d2_40) rfl k) ?_
                                                show own_Fin _ _ _ _ _ _ (s₁.setTop (mkF m 41 #[.val (.int p1), .val (.float f), .val (.int (16777216 : Int32))] [(.int (16777216 : Int32))]))
                                                refine own_to (fun t k => X0.ldcInt hx hown (mvT hZ (hw _ (List.mem_of_getElem? (i := 8) rfl))) (g := (mkF m 41 #[.val (.int p1), .val (.float f), .val (.int (16777216 : Int32))] [(.int (16777216 : Int32))])) rfl (hb hby own_d2_41) _ k) ?_
                                                show own_Fin _ _ _ _ _ _ (s₁.setTop (mkF m 43 #[.val (.int p1), .val (.float f), .val (.int (16777216 : Int32))] [(.int (1073741824 : Int32)), (.int (16777216 : Int32))]))
                                                refine own_to (fun t k => XS.icmpNo X0.here hx rfl (hb hby own_d2_43) rfl (tlt (by decide)).2.1 k) ?_
                                                show own_Fin _ _ _ _ _ _ (s₁.setTop (mkF m 46 #[.val (.int p1), .val (.float f), .val (.int (16777216 : Int32))] []))
                                                refine own_to (fun t k => XS.iloadN X0.here hx rfl (hb hby own_d2_46) rfl k) ?_
                                                show own_Fin _ _ _ _ _ _ (s₁.setTop (mkF m 47 #[.val (.int p1), .val (.float f), .val (.int (16777216 : Int32))] [(.int (16777216 : Int32))]))
                                                refine own_to (fun t k => XS.i2dS X0.here hx rfl (hb hby own_d2_47) rfl rfl k) ?_
                                                show own_Fin _ _ _ _ _ _ (s₁.setTop (mkF m 48 #[.val (.int p1), .val (.float f), .val (.int (16777216 : Int32))] [(.double (FP.i2d (16777216 : Int32)))]))
                                                refine own_to (fun t k => XS.floadN X0.here hx rfl (hb hby own_d2_48) rfl k) ?_
                                                show own_Fin _ _ _ _ _ _ (s₁.setTop (mkF m 49 #[.val (.int p1), .val (.float f), .val (.int (16777216 : Int32))] [(.float f), (.double (FP.i2d (16777216 : Int32)))]))
                                                refine own_to (fun t k => XS.f2dS X0.here hx rfl (hb hby own_d2_49) rfl hF.nd rfl k) ?_
                                                show own_Fin _ _ _ _ _ _ (s₁.setTop (mkF m 50 #[.val (.int p1), .val (.float f), .val (.int (16777216 : Int32))] [(.double (FP.f2d f)), (.double (FP.i2d (16777216 : Int32)))]))
                                                refine own_to (fun t k => XS.dmulS X0.here hx rfl (hb hby own_d2_50) rfl (hF.nm _) rfl k) ?_
                                                show own_Fin _ _ _ _ _ _ (s₁.setTop (mkF m 51 #[.val (.int p1), .val (.float f), .val (.int (16777216 : Int32))] [(.double (FP.dmul (FP.i2d (16777216 : Int32)) (FP.f2d f)))]))
                                                refine own_to (fun t k => XS.iloadN X0.here hx rfl (hb hby own_d2_51) rfl k) ?_
                                                show own_Fin _ _ _ _ _ _ (s₁.setTop (mkF m 52 #[.val (.int p1), .val (.float f), .val (.int (16777216 : Int32))] [(.int p1), (.double (FP.dmul (FP.i2d (16777216 : Int32)) (FP.f2d f)))]))
                                                refine own_to (fun t k => XS.i2dS X0.here hx rfl (hb hby own_d2_52) rfl rfl k) ?_
                                                show own_Fin _ _ _ _ _ _ (s₁.setTop (mkF m 53 #[.val (.int p1), .val (.float f), .val (.int (16777216 : Int32))] [(.double (FP.i2d p1)), (.double (FP.dmul (FP.i2d (16777216 : Int32)) (FP.f2d f)))]))
                                                refine own_to (fun t k => XS.dcmpS X0.here hx rfl (hb hby own_d2_53) rfl rfl k) ?_
                                                show own_Fin _ _ _ _ _ _ (s₁.setTop (mkF m 54 #[.val (.int p1), .val (.float f), .val (.int (16777216 : Int32))] [(.int (cmpValue (FP.dcmp (FP.dmul (FP.i2d (16777216 : Int32)) (FP.f2d f)) (FP.i2d p1)) .g))]))
                                                show own_Fin _ _ _ _ _ _ (s₁.setTop (mkF m 54 #[.val (.int p1), .val (.float f), .val (.int (16777216 : Int32))] [(.int (own_G p1 f (16777216 : Int32)))]))
                                                by_cases hc54_24 : (own_G p1 f (16777216 : Int32)) < (0 : Int32)
                                                ·
                                                  show own_Fin _ _ _ _ _ _ (s₁.setTop (mkF m 54 #[.val (.int p1), .val (.float f), .val (.int (16777216 : Int32))] [(.int (own_G p1 f (16777216 : Int32)))]))
                                                  refine own_to (fun t k => XS.ifNo X0.here hx rfl (hb hby own_d2_54) rfl ((if0 _ _).trans (tlt hc54_24).2.1) k) ?_
                                                  show own_Fin _ _ _ _ _ _ (s₁.setTop (mkF m 57 #[.val (.int p1), .val (.float f), .val (.int (16777216 : Int32))] []))
                                                  refine own_to (fun t k => XS.iloadN X0.here hx rfl (hb hby own_d2_57) rfl k) ?_
                                                  show own_Fin _ _ _ _ _ _ (s₁.setTop (mkF m 58 #[.val (.int p1), .val (.float f), .val (.int (16777216 : Int32))] [(.int (16777216 : Int32))]))
                                                  refine own_to (fun t k => XS.iconst X0.here hx rfl (hb hby own_d2_58) k) ?_
                                                  show own_Fin _ _ _ _ _ _ (s₁.setTop (mkF m 59 #[.val (.int p1), .val (.float f), .val (.int (16777216 : Int32))] [(.int (1 : Int32)), (.int (16777216 : Int32))]))
                                                  refine own_to (fun t k => XS.ishl X0.here hx rfl (hb hby own_d2_59) rfl k) ?_
                                                  show own_Fin _ _ _ _ _ _ (s₁.setTop (mkF m 60 #[.val (.int p1), .val (.float f), .val (.int (16777216 : Int32))] [(.int (33554432 : Int32))]))
                                                  refine own_to (fun t k => XS.istoreN X0.here hx rfl (hb hby own_d2_60) rfl (l' := #[.val (.int p1), .val (.float f), .val (.int (33554432 : Int32))]) rfl k) ?_
                                                  show own_Fin _ _ _ _ _ _ (s₁.setTop (mkF m 61 #[.val (.int p1), .val (.float f), .val (.int (33554432 : Int32))] []))
                                                  refine own_to (fun t k => XS.goto X0.here hx rfl (pc0 := 61) (pc' := 40) rfl (hb hby own_d2_61) (by decide) (by decide) k) ?_
                                                  show own_Fin _ _ _ _ _ _ (s₁.setTop (mkF m 40 #[.val (.int p1), .val (.float f), .val (.int (33554432 : Int32))] []))
                                                  refine own_to (fun t k => XS.iloadN X0.here hx rfl (hb hby own_d2_40) rfl k) ?_
                                                  show own_Fin _ _ _ _ _ _ (s₁.setTop (mkF m 41 #[.val (.int p1), .val (.float f), .val (.int (33554432 : Int32))] [(.int (33554432 : Int32))]))
                                                  refine own_to (fun t k => X0.ldcInt hx hown (mvT hZ (hw _ (List.mem_of_getElem? (i := 8) rfl))) (g := (mkF m 41 #[.val (.int p1), .val (.float f), .val (.int (33554432 : Int32))] [(.int (33554432 : Int32))])) rfl (hb hby own_d2_41) _ k) ?_
                                                  show own_Fin _ _ _ _ _ _ (s₁.setTop (mkF m 43 #[.val (.int p1), .val (.float f), .val (.int (33554432 : Int32))] [(.int (1073741824 : Int32)), (.int (33554432 : Int32))]))
                                                  refine own_to (fun t k => XS.icmpNo X0.here hx rfl (hb hby own_d2_43) rfl (tlt (by decide)).2.1 k) ?_
                                                  show own_Fin _ _ _ _ _ _ (s₁.setTop (mkF m 46 #[.val (.int p1), .val (.float f), .val (.int (33554432 : Int32))] []))
                                                  refine own_to (fun t k => XS.iloadN X0.here hx rfl (hb hby own_d2_46) rfl k) ?_
                                                  show own_Fin _ _ _ _ _ _ (s₁.setTop (mkF m 47 #[.val (.int p1), .val (.float f), .val (.int (33554432 : Int32))] [(.int (33554432 : Int32))]))
                                                  refine own_to (fun t k => XS.i2dS X0.here hx rfl (hb hby own_d2_47) rfl rfl k) ?_
                                                  show own_Fin _ _ _ _ _ _ (s₁.setTop (mkF m 48 #[.val (.int p1), .val (.float f), .val (.int (33554432 : Int32))] [(.double (FP.i2d (33554432 : Int32)))]))
                                                  refine own_to (fun t k => XS.floadN X0.here hx rfl (hb hby own_d2_48) rfl k) ?_
                                                  show own_Fin _ _ _ _ _ _ (s₁.setTop (mkF m 49 #[.val (.int p1), .val (.float f), .val (.int (33554432 : Int32))] [(.float f), (.double (FP.i2d (33554432 : Int32)))]))
                                                  refine own_to (fun t k => XS.f2dS X0.here hx rfl (hb hby own_d2_49) rfl hF.nd rfl k) ?_
                                                  show own_Fin _ _ _ _ _ _ (s₁.setTop (mkF m 50 #[.val (.int p1), .val (.float f), .val (.int (33554432 : Int32))] [(.double (FP.f2d f)), (.double (FP.i2d (33554432 : Int32)))]))
                                                  refine own_to (fun t k => XS.dmulS X0.here hx rfl (hb hby own_d2_50) rfl (hF.nm _) rfl k) ?_
                                                  show own_Fin _ _ _ _ _ _ (s₁.setTop (mkF m 51 #[.val (.int p1), .val (.float f), .val (.int (33554432 : Int32))] [(.double (FP.dmul (FP.i2d (33554432 : Int32)) (FP.f2d f)))]))
                                                  refine own_to (fun t k => XS.iloadN X0.here hx rfl (hb hby own_d2_51) rfl k) ?_
                                                  show own_Fin _ _ _ _ _ _ (s₁.setTop (mkF m 52 #[.val (.int p1), .val (.float f), .val (.int (33554432 : Int32))] [(.int p1), (.double (FP.dmul (FP.i2d (33554432 : Int32)) (FP.f2d f)))]))
                                                  refine own_to (fun t k => XS.i2dS X0.here hx rfl (hb hby own_d2_52) rfl rfl k) ?_
                                                  show own_Fin _ _ _ _ _ _ (s₁.setTop (mkF m 53 #[.val (.int p1), .val (.float f), .val (.int (33554432 : Int32))] [(.double (FP.i2d p1)), (.double (FP.dmul (FP.i2d (33554432 : Int32)) (FP.f2d f)))]))
                                                  refine own_to (fun t k => XS.dcmpS X0.here hx rfl (hb hby own_d2_53) rfl rfl k) ?_
                                                  show own_Fin _ _ _ _ _ _ (s₁.setTop (mkF m 54 #[.val (.int p1), .val (.float f), .val (.int (33554432 : Int32))] [(.int (cmpValue (FP.dcmp (FP.dmul (FP.i2d (33554432 : Int32)) (FP.f2d f)) (FP.i2d p1)) .g))]))
                                                  show own_Fin _ _ _ _ _ _ (s₁.setTop (mkF m 54 #[.val (.int p1), .val (.float f), .val (.int (33554432 : Int32))] [(.int (own_G p1 f (33554432 : Int32)))]))
                                                  by_cases hc54_25 : (own_G p1 f (33554432 : Int32)) < (0 : Int32)
                                                  ·
                                                    show own_Fin _ _ _ _ _ _ (s₁.setTop (mkF m 54 #[.val (.int p1), .val (.float f), .val (.int (33554432 : Int32))] [(.int (own_G p1 f (33554432 : Int32)))]))
                                                    refine own_to (fun t k => XS.ifNo X0.here hx rfl (hb hby own_d2_54) rfl ((if0 _ _).trans (tlt hc54_25).2.1) k) ?_
                                                    show own_Fin _ _ _ _ _ _ (s₁.setTop (mkF m 57 #[.val (.int p1), .val (.float f), .val (.int (33554432 : Int32))] []))
                                                    refine own_to (fun t k => XS.iloadN X0.here hx rfl (hb hby own_d2_57) rfl k) ?_
                                                    show own_Fin _ _ _ _ _ _ (s₁.setTop (mkF m 58 #[.val (.int p1), .val (.float f), .val (.int (33554432 : Int32))] [(.int (33554432 : Int32))]))
                                                    refine own_to (fun t k => XS.iconst X0.here hx rfl (hb hby own_d2_58) k) ?_
                                                    show own_Fin _ _ _ _ _ _ (s₁.setTop (mkF m 59 #[.val (.int p1), .val (.float f), .val (.int (33554432 : Int32))] [(.int (1 : Int32)), (.int (33554432 : Int32))]))
                                                    refine own_to (fun t k => XS.ishl X0.here hx rfl (hb hby own_d2_59) rfl k) ?_
                                                    show own_Fin _ _ _ _ _ _ (s₁.setTop (mkF m 60 #[.val (.int p1), .val (.float f), .val (.int (33554432 : Int32))] [(.int (67108864 : Int32))]))
                                                    refine own_to (fun t k => XS.istoreN X0.here hx rfl (hb hby own_d2_60) rfl (l' := #[.val (.int p1), .val (.float f), .val (.int (67108864 : Int32))]) rfl k) ?_
                                                    show own_Fin _ _ _ _ _ _ (s₁.setTop (mkF m 61 #[.val (.int p1), .val (.float f), .val (.int (67108864 : Int32))] []))
                                                    refine own_to (fun t k => XS.goto X0.here hx rfl (pc0 := 61) (pc' := 40) rfl (hb hby own_d2_61) (by decide) (by decide) k) ?_
                                                    show own_Fin _ _ _ _ _ _ (s₁.setTop (mkF m 40 #[.val (.int p1), .val (.float f), .val (.int (67108864 : Int32))] []))
                                                    refine own_to (fun t k => XS.iloadN X0.here hx rfl (hb hby own_d2_40) rfl k) ?_
                                                    show own_Fin _ _ _ _ _ _ (s₁.setTop (mkF m 41 #[.val (.int p1), .val (.float f), .val (.int (67108864 : Int32))] [(.int (67108864 : Int32))]))
                                                    refine own_to (fun t k => X0.ldcInt hx hown (mvT hZ (hw _ (List.mem_of_getElem? (i := 8) rfl))) (g := (mkF m 41 #[.val (.int p1), .val (.float f), .val (.int (67108864 : Int32))] [(.int (67108864 : Int32))])) rfl (hb hby own_d2_41) _ k) ?_
                                                    show own_Fin _ _ _ _ _ _ (s₁.setTop (mkF m 43 #[.val (.int p1), .val (.float f), .val (.int (67108864 : Int32))] [(.int (1073741824 : Int32)), (.int (67108864 : Int32))]))
                                                    refine own_to (fun t k => XS.icmpNo X0.here hx rfl (hb hby own_d2_43) rfl (tlt (by decide)).2.1 k) ?_
                                                    show own_Fin _ _ _ _ _ _ (s₁.setTop (mkF m 46 #[.val (.int p1), .val (.float f), .val (.int (67108864 : Int32))] []))
                                                    refine own_to (fun t k => XS.iloadN X0.here hx rfl (hb hby own_d2_46) rfl k) ?_
                                                    show own_Fin _ _ _ _ _ _ (s₁.setTop (mkF m 47 #[.val (.int p1), .val (.float f), .val (.int (67108864 : Int32))] [(.int (67108864 : Int32))]))
                                                    refine own_to (fun t k => XS.i2dS X0.here hx rfl (hb hby own_d2_47) rfl rfl k) ?_
                                                    show own_Fin _ _ _ _ _ _ (s₁.setTop (mkF m 48 #[.val (.int p1), .val (.float f), .val (.int (67108864 : Int32))] [(.double (FP.i2d (67108864 : Int32)))]))
                                                    refine own_to (fun t k => XS.floadN X0.here hx rfl (hb hby own_d2_48) rfl k) ?_
                                                    show own_Fin _ _ _ _ _ _ (s₁.setTop (mkF m 49 #[.val (.int p1), .val (.float f), .val (.int (67108864 : Int32))] [(.float f), (.double (FP.i2d (67108864 : Int32)))]))
                                                    refine own_to (fun t k => XS.f2dS X0.here hx rfl (hb hby own_d2_49) rfl hF.nd rfl k) ?_
                                                    show own_Fin _ _ _ _ _ _ (s₁.setTop (mkF m 50 #[.val (.int p1), .val (.float f), .val (.int (67108864 : Int32))] [(.double (FP.f2d f)), (.double (FP.i2d (67108864 : Int32)))]))
                                                    refine own_to (fun t k => XS.dmulS X0.here hx rfl (hb hby own_d2_50) rfl (hF.nm _) rfl k) ?_
                                                    show own_Fin _ _ _ _ _ _ (s₁.setTop (mkF m 51 #[.val (.int p1), .val (.float f), .val (.int (67108864 : Int32))] [(.double (FP.dmul (FP.i2d (67108864 : Int32)) (FP.f2d f)))]))
                                                    refine own_to (fun t k => XS.iloadN X0.here hx rfl (hb hby own_d2_51) rfl k) ?_
                                                    show own_Fin _ _ _ _ _ _ (s₁.setTop (mkF m 52 #[.val (.int p1), .val (.float f), .val (.int (67108864 : Int32))] [(.int p1), (.double (FP.dmul (FP.i2d (67108864 : Int32)) (FP.f2d f)))]))
                                                    refine own_to (fun t k => XS.i2dS X0.here hx rfl (hb hby own_d2_52) rfl rfl k) ?_
                                                    show own_Fin _ _ _ _ _ _ (s₁.setTop (mkF m 53 #[.val (.int p1), .val (.float f), .val (.int (67108864 : Int32))] [(.double (FP.i2d p1)), (.double (FP.dmul (FP.i2d (67108864 : Int32)) (FP.f2d f)))]))
                                                    refine own_to (fun t k => XS.dcmpS X0.here hx rfl (hb hby own_d2_53) rfl rfl k) ?_
                                                    show own_Fin _ _ _ _ _ _ (s₁.setTop (mkF m 54 #[.val (.int p1), .val (.float f), .val (.int (67108864 : Int32))] [(.int (cmpValue (FP.dcmp (FP.dmul (FP.i2d (67108864 : Int32)) (FP.f2d f)) (FP.i2d p1)) .g))]))
                                                    show own_Fin _ _ _ _ _ _ (s₁.setTop (mkF m 54 #[.val (.int p1), .val (.float f), .val (.int (67108864 : Int32))] [(.int (own_G p1 f (67108864 : Int32)))]))
                                                    by_cases hc54_26 : (own_G p1 f (67108864 : Int32)) < (0 : Int32)
                                                    ·
                                                      show own_Fin _ _ _ _ _ _ (s₁.setTop (mkF m 54 #[.val (.int p1), .val (.float f), .val (.int (67108864 : Int32))] [(.int (own_G p1 f (67108864 : Int32)))]))
                                                      refine own_to (fun t k => XS.ifNo X0.here hx rfl (hb hby own_d2_54) rfl ((if0 _ _).trans (tlt hc54_26).2.1) k) ?_
                                                      show own_Fin _ _ _ _ _ _ (s₁.setTop (mkF m 57 #[.val (.int p1), .val (.float f), .val (.int (67108864 : Int32))] []))
                                                      refine own_to (fun t k => XS.iloadN X0.here hx rfl (hb hby own_d2_57) rfl k) ?_
                                                      show own_Fin _ _ _ _ _ _ (s₁.setTop (mkF m 58 #[.val (.int p1), .val (.float f), .val (.int (67108864 : Int32))] [(.int (67108864 : Int32))]))
                                                      refine own_to (fun t k => XS.iconst X0.here hx rfl (hb hby own_d2_58) k) ?_
                                                      show own_Fin _ _ _ _ _ _ (s₁.setTop (mkF m 59 #[.val (.int p1), .val (.float f), .val (.int (67108864 : Int32))] [(.int (1 : Int32)), (.int (67108864 : Int32))]))
                                                      refine own_to (fun t k => XS.ishl X0.here hx rfl (hb hby own_d2_59) rfl k) ?_
                                                      show own_Fin _ _ _ _ _ _ (s₁.setTop (mkF m 60 #[.val (.int p1), .val (.float f), .val (.int (67108864 : Int32))] [(.int (134217728 : Int32))]))
                                                      refine own_to (fun t k => XS.istoreN X0.here hx rfl (hb hby own_d2_60) rfl (l' := #[.val (.int p1), .val (.float f), .val (.int (134217728 : Int32))]) rfl k) ?_
                                                      show own_Fin _ _ _ _ _ _ (s₁.setTop (mkF m 61 #[.val (.int p1), .val (.float f), .val (.int (134217728 : Int32))] []))
                                                      refine own_to (fun t k => XS.goto X0.here hx rfl (pc0 := 61) (pc' := 40) rfl (hb hby own_d2_61) (by decide) (by decide) k) ?_
                                                      show own_Fin _ _ _ _ _ _ (s₁.setTop (mkF m 40 #[.val (.int p1), .val (.float f), .val (.int (134217728 : Int32))] []))
                                                      refine own_to (fun t k => XS.iloadN X0.here hx rfl (hb hby own_d2_40) rfl k) ?_
                                                      show own_Fin _ _ _ _ _ _ (s₁.setTop (mkF m 41 #[.val (.int p1), .val (.float f), .val (.int (134217728 : Int32))] [(.int (134217728 : Int32))]))
                                                      refine own_to (fun t k => X0.ldcInt hx hown (mvT hZ (hw _ (List.mem_of_getElem? (i := 8) rfl))) (g := (mkF m 41 #[.val (.int p1), .val (.float f), .val (.int (134217728 : Int32))] [(.int (134217728 : Int32))])) rfl (hb hby own_d2_41) _ k) ?_
                                                      show own_Fin _ _ _ _ _ _ (s₁.setTop (mkF m 43 #[.val (.int p1), .val (.float f), .val (.int (134217728 : Int32))] [(.int (1073741824 : Int32)), (.int (134217728 : Int32))]))
                                                      refine own_to (fun t k => XS.icmpNo X0.here hx rfl (hb hby own_d2_43) rfl (tlt (by decide)).2.1 k) ?_
                                                      show own_Fin _ _ _ _ _ _ (s₁.setTop (mkF m 46 #[.val (.int p1), .val (.float f), .val (.int (134217728 : Int32))] []))
                                                      refine own_to (fun t k => XS.iloadN X0.here hx rfl (hb hby own_d2_46) rfl k) ?_
                                                      show own_Fin _ _ _ _ _ _ (s₁.setTop (mkF m 47 #[.val (.int p1), .val (.float f), .val (.int (134217728 : Int32))] [(.int (134217728 : Int32))]))
                                                      refine own_to (fun t k => XS.i2dS X0.here hx rfl (hb hby own_d2_47) rfl rfl k) ?_
                                                      show own_Fin _ _ _ _ _ _ (s₁.setTop (mkF m 48 #[.val (.int p1), .val (.float f), .val (.int (134217728 : Int32))] [(.double (FP.i2d (134217728 : Int32)))]))
                                                      refine own_to (fun t k => XS.floadN X0.here hx rfl (hb hby own_d2_48) rfl k) ?_
                                                      show own_Fin _ _ _ _ _ _ (s₁.setTop (mkF m 49 #[.val (.int p1), .val (.float f), .val (.int (134217728 : Int32))] [(.float f), (.double (FP.i2d (134217728 : Int32)))]))
                                                      refine own_to (fun t k => XS.f2dS X0.here hx rfl (hb hby own_d2_49) rfl hF.nd rfl k) ?_
                                                      show own_Fin _ _ _ _ _ _ (s₁.setTop (mkF m 50 #[.val (.int p1), .val (.float f), .val (.int (134217728 : Int32))] [(.double (FP.f2d f)), (.double (FP.i2d (134217728 : Int32)))]))
                                                      refine own_to (fun t k => XS.dmulS X0.here hx rfl (hb hby own_d2_50) rfl (hF.nm _) rfl k) ?_
                                                      show own_Fin _ _ _ _ _ _ (s₁.setTop (mkF m 51 #[.val (.int p1), .val (.float f), .val (.int (134217728 : Int32))] [(.double (FP.dmul (FP.i2d (134217728 : Int32)) (FP.f2d f)))]))
                                                      refine own_to (fun t k => XS.iloadN X0.here hx rfl (hb hby own_d2_51) rfl k) ?_
                                                      show own_Fin _ _ _ _ _ _ (s₁.setTop (mkF m 52 #[.val (.int p1), .val (.float f), .val (.int (134217728 : Int32))] [(.int p1), (.double (FP.dmul (FP.i2d (134217728 : Int32)) (FP.f2d f)))]))
                                                      refine own_to (fun t k => XS.i2dS X0.here hx rfl (hb hby own_d2_52) rfl rfl k) ?_
                                                      show own_Fin _ _ _ _ _ _ (s₁.setTop (mkF m 53 #[.val (.int p1), .val (.float f), .val (.int (134217728 : Int32))] [(.double (FP.i2d p1)), (.double (FP.dmul (FP.i2d (134217728 : Int32)) (FP.f2d f)))]))
                                                      refine own_to (fun t k => XS.dcmpS X0.here hx rfl (hb hby own_d2_53) rfl rfl k) ?_
                                                      show own_Fin _ _ _ _ _ _ (s₁.setTop (mkF m 54 #[.val (.int p1), .val (.float f), .val (.int (134217728 : Int32))] [(.int (cmpValue (FP.dcmp (FP.dmul (FP.i2d (134217728 : Int32)) (FP.f2d f)) (FP.i2d p1)) .g))]))
                                                      show own_Fin _ _ _ _ _ _ (s₁.setTop (mkF m 54 #[.val (.int p1), .val (.float f), .val (.int (134217728 : Int32))] [(.int (own_G p1 f (134217728 : Int32)))]))
                                                      by_cases hc54_27 : (own_G p1 f (134217728 : Int32)) < (0 : Int32)
                                                      ·
                                                        show own_Fin _ _ _ _ _ _ (s₁.setTop (mkF m 54 #[.val (.int p1), .val (.float f), .val (.int (134217728 : Int32))] [(.int (own_G p1 f (134217728 : Int32)))]))
                                                        refine own_to (fun t k => XS.ifNo X0.here hx rfl (hb hby own_d2_54) rfl ((if0 _ _).trans (tlt hc54_27).2.1) k) ?_
                                                        show own_Fin _ _ _ _ _ _ (s₁.setTop (mkF m 57 #[.val (.int p1), .val (.float f), .val (.int (134217728 : Int32))] []))
                                                        refine own_to (fun t k => XS.iloadN X0.here hx rfl (hb hby own_d2_57) rfl k) ?_
                                                        show own_Fin _ _ _ _ _ _ (s₁.setTop (mkF m 58 #[.val (.int p1), .val (.float f), .val (.int (134217728 : Int32))] [(.int (134217728 : Int32))]))
                                                        refine own_to (fun t k => XS.iconst X0.here hx rfl (hb hby own_d2_58) k) ?_
                                                        show own_Fin _ _ _ _ _ _ (s₁.setTop (mkF m 59 #[.val (.int p1), .val (.float f), .val (.int (134217728 : Int32))] [(.int (1 : Int32)), (.int (134217728 : Int32))]))
                                                        refine own_to (fun t k => XS.ishl X0.here hx rfl (hb hby own_d2_59) rfl k) ?_
                                                        show own_Fin _ _ _ _ _ _ (s₁.setTop (mkF m 60 #[.val (.int p1), .val (.float f), .val (.int (134217728 : Int32))] [(.int (268435456 : Int32))]))
                                                        refine own_to (fun t k => XS.istoreN X0.here hx rfl (hb hby own_d2_60) rfl (l' := #[.val (.int p1), .val (.float f), .val (.int (268435456 : Int32))]) rfl k) ?_
                                                        show own_Fin _ _ _ _ _ _ (s₁.setTop (mkF m 61 #[.val (.int p1), .val (.float f), .val (.int (268435456 : Int32))] []))
                                                        refine own_to (fun t k => XS.goto X0.here hx rfl (pc0 := 61) (pc' := 40) rfl (hb hby own_d2_61) (by decide) (by decide) k) ?_
                                                        show own_Fin _ _ _ _ _ _ (s₁.setTop (mkF m 40 #[.val (.int p1), .val (.float f), .val (.int (268435456 : Int32))] []))
                                                        refine own_to (fun t k => XS.iloadN X0.here hx rfl (hb hby own_d2_40) rfl k) ?_
                                                        show own_Fin _ _ _ _ _ _ (s₁.setTop (mkF m 41 #[.val (.int p1), .val (.float f), .val (.int (268435456 : Int32))] [(.int (268435456 : Int32))]))
                                                        refine own_to (fun t k => X0.ldcInt hx hown (mvT hZ (hw _ (List.mem_of_getElem? (i := 8) rfl))) (g := (mkF m 41 #[.val (.int p1), .val (.float f), .val (.int (268435456 : Int32))] [(.int (268435456 : Int32))])) rfl (hb hby own_d2_41) _ k) ?_
                                                        show own_Fin _ _ _ _ _ _ (s₁.setTop (mkF m 43 #[.val (.int p1), .val (.float f), .val (.int (268435456 : Int32))] [(.int (1073741824 : Int32)), (.int (268435456 : Int32))]))
                                                        refine own_to (fun t k => XS.icmpNo X0.here hx rfl (hb hby own_d2_43) rfl (tlt (by decide)).2.1 k) ?_
                                                        show own_Fin _ _ _ _ _ _ (s₁.setTop (mkF m 46 #[.val (.int p1), .val (.float f), .val (.int (268435456 : Int32))] []))
                                                        refine own_to (fun t k => XS.iloadN X0.here hx rfl (hb hby own_d2_46) rfl k) ?_
                                                        show own_Fin _ _ _ _ _ _ (s₁.setTop (mkF m 47 #[.val (.int p1), .val (.float f), .val (.int (268435456 : Int32))] [(.int (268435456 : Int32))]))
                                                        refine own_to (fun t k => XS.i2dS X0.here hx rfl (hb hby own_d2_47) rfl rfl k) ?_
                                                        show own_Fin _ _ _ _ _ _ (s₁.setTop (mkF m 48 #[.val (.int p1), .val (.float f), .val (.int (268435456 : Int32))] [(.double (FP.i2d (268435456 : Int32)))]))
                                                        refine own_to (fun t k => XS.floadN X0.here hx rfl (hb hby own_d2_48) rfl k) ?_
                                                        show own_Fin _ _ _ _ _ _ (s₁.setTop (mkF m 49 #[.val (.int p1), .val (.float f), .val (.int (268435456 : Int32))] [(.float f), (.double (FP.i2d (268435456 : Int32)))]))
                                                        refine own_to (fun t k => XS.f2dS X0.here hx rfl (hb hby own_d2_49) rfl hF.nd rfl k) ?_
                                                        show own_Fin _ _ _ _ _ _ (s₁.setTop (mkF m 50 #[.val (.int p1), .val (.float f), .val (.int (268435456 : Int32))] [(.double (FP.f2d f)), (.double (FP.i2d (268435456 : Int32)))]))
                                                        refine own_to (fun t k => XS.dmulS X0.here hx rfl (hb hby own_d2_50) rfl (hF.nm _) rfl k) ?_
                                                        show own_Fin _ _ _ _ _ _ (s₁.setTop (mkF m 51 #[.val (.int p1), .val (.float f), .val (.int (268435456 : Int32))] [(.double (FP.dmul (FP.i2d (268435456 : Int32)) (FP.f2d f)))]))
                                                        refine own_to (fun t k => XS.iloadN X0.here hx rfl (hb hby own_d2_51) rfl k) ?_
                                                        show own_Fin _ _ _ _ _ _ (s₁.setTop (mkF m 52 #[.val (.int p1), .val (.float f), .val (.int (268435456 : Int32))] [(.int p1), (.double (FP.dmul (FP.i2d (268435456 : Int32)) (FP.f2d f)))]))
                                                        refine own_to (fun t k => XS.i2dS X0.here hx rfl (hb hby own_d2_52) rfl rfl k) ?_
                                                        show own_Fin _ _ _ _ _ _ (s₁.setTop (mkF m 53 #[.val (.int p1), .val (.float f), .val (.int (268435456 : Int32))] [(.double (FP.i2d p1)), (.double (FP.dmul (FP.i2d (268435456 : Int32)) (FP.f2d f)))]))
                                                        refine own_to (fun t k => XS.dcmpS X0.here hx rfl (hb hby own_d2_53) rfl rfl k) ?_
                                                        show own_Fin _ _ _ _ _ _ (s₁.setTop (mkF m 54 #[.val (.int p1), .val (.float f), .val (.int (268435456 : Int32))] [(.int (cmpValue (FP.dcmp (FP.dmul (FP.i2d (268435456 : Int32)) (FP.f2d f)) (FP.i2d p1)) .g))]))
                                                        show own_Fin _ _ _ _ _ _ (s₁.setTop (mkF m 54 #[.val (.int p1), .val (.float f), .val (.int (268435456 : Int32))] [(.int (own_G p1 f (268435456 : Int32)))]))
                                                        by_cases hc54_28 : (own_G p1 f (268435456 : Int32)) < (0 : Int32)
                                                        ·
                                                          show own_Fin _ _ _ _ _ _ (s₁.setTop (mkF m 54 #[.val (.int p1), .val (.float f), .val (.int (268435456 : Int32))] [(.int (own_G p1 f (268435456 : Int32)))]))
                                                          refine own_to (fun t k => XS.ifNo X0.here hx rfl (hb hby own_d2_54) rfl ((if0 _ _).trans (tlt hc54_28).2.1) k) ?_
                                                          show own_Fin _ _ _ _ _ _ (s₁.setTop (mkF m 57 #[.val (.int p1), .val (.float f), .val (.int (268435456 : Int32))] []))
                                                          refine own_to (fun t k => XS.iloadN X0.here hx rfl (hb hby own_d2_57) rfl k) ?_
                                                          show own_Fin _ _ _ _ _ _ (s₁.setTop (mkF m 58 #[.val (.int p1), .val (.float f), .val (.int (268435456 : Int32))] [(.int (268435456 : Int32))]))
                                                          refine own_to (fun t k => XS.iconst X0.here hx rfl (hb hby own_d2_58) k) ?_
                                                          show own_Fin _ _ _ _ _ _ (s₁.setTop (mkF m 59 #[.val (.int p1), .val (.float f), .val (.int (268435456 : Int32))] [(.int (1 : Int32)), (.int (268435456 : Int32))]))
                                                          refine own_to (fun t k => XS.ishl X0.here hx rfl (hb hby own_d2_59) rfl k) ?_
                                                          show own_Fin _ _ _ _ _ _ (s₁.setTop (mkF m 60 #[.val (.int p1), .val (.float f), .val (.int (268435456 : Int32))] [(.int (536870912 : Int32))]))
                                                          refine own_to (fun t k => XS.istoreN X0.here hx rfl (hb hby own_d2_60) rfl (l' := #[.val (.int p1), .val (.float f), .val (.int (536870912 : Int32))]) rfl k) ?_
                                                          show own_Fin _ _ _ _ _ _ (s₁.setTop (mkF m 61 #[.val (.int p1), .val (.float f), .val (.int (536870912 : Int32))] []))
                                                          refine own_to (fun t k => XS.goto X0.here hx rfl (pc0 := 61) (pc' := 40) rfl (hb hby own_d2_61) (by decide) (by decide) k) ?_
                                                          show own_Fin _ _ _ _ _ _ (s₁.setTop (mkF m 40 #[.val (.int p1), .val (.float f), .val (.int (536870912 : Int32))] []))
                                                          refine own_to (fun t k => XS.iloadN X0.here hx rfl (hb hby own_d2_40) rfl k) ?_
                                                          show own_Fin _ _ _ _ _ _ (s₁.setTop (mkF m 41 #[.val (.int p1), .val (.float f), .val (.int (536870912 : Int32))] [(.int (536870912 : Int32))]))
                                                          refine own_to (fun t k => X0.ldcInt hx hown (mvT hZ (hw _ (List.mem_of_getElem? (i := 8) rfl))) (g := (mkF m 41 #[.val (.int p1), .val (.float f), .val (.int (536870912 : Int32))] [(.int (536870912 : Int32))])) rfl (hb hby own_d2_41) _ k) ?_
                                                          show own_Fin _ _ _ _ _ _ (s₁.setTop (mkF m 43 #[.val (.int p1), .val (.float f), .val (.int (536870912 : Int32))] [(.int (1073741824 : Int32)), (.int (536870912 : Int32))]))
                                                          refine own_to (fun t k => XS.icmpNo X0.here hx rfl (hb hby own_d2_43) rfl (tlt (by decide)).2.1 k) ?_
                                                          show own_Fin _ _ _ _ _ _ (s₁.setTop (mkF m 46 #[.val (.int p1), .val (.float f), .val (.int (536870912 : Int32))] []))
                                                          refine own_to (fun t k => XS.iloadN X0.here hx rfl (hb hby own_d2_46) rfl k) ?_
                                                          show own_Fin _ _ _ _ _ _ (s₁.setTop (mkF m 47 #[.val (.int p1), .val (.float f), .val (.int (536870912 : Int32))] [(.int (536870912 : Int32))]))
                                                          refine own_to (fun t k => XS.i2dS X0.here hx rfl (hb hby own_d2_47) rfl rfl k) ?_
                                                          show own_Fin _ _ _ _ _ _ (s₁.setTop (mkF m 48 #[.val (.int p1), .val (.float f), .val (.int (536870912 : Int32))] [(.double (FP.i2d (536870912 : Int32)))]))
                                                          refine own_to (fun t k => XS.floadN X0.here hx rfl (hb hby own_d2_48) rfl k) ?_
                                                          show own_Fin _ _ _ _ _ _ (s₁.setTop (mkF m 49 #[.val (.int p1), .val (.float f), .val (.int (536870912 : Int32))] [(.float f), (.double (FP.i2d (536870912 : Int32)))]))
                                                          refine own_to (fun t k => XS.f2dS X0.here hx rfl (hb hby own_d2_49) rfl hF.nd rfl k) ?_
                                                          show own_Fin _ _ _ _ _ _ (s₁.setTop (mkF m 50 #[.val (.int p1), .val (.float f), .val (.int (536870912 : Int32))] [(.double (FP.f2d f)), (.double (FP.i2d (536870912 : Int32)))]))
                                                          refine own_to (fun t k => XS.dmulS X0.here hx rfl (hb hby own_d2_50) rfl (hF.nm _) rfl k) ?_
                                                          show own_Fin _ _ _ _ _ _ (s₁.setTop (mkF m 51 #[.val (.int p1), .val (.float f), .val (.int (536870912 : Int32))] [(.double (FP.dmul (FP.i2d (536870912 : Int32)) (FP.f2d f)))]))
                                                          refine own_to (fun t k => XS.iloadN X0.here hx rfl (hb hby own_d2_51) rfl k) ?_
                                                          show own_Fin _ _ _ _ _ _ (s₁.setTop (mkF m 52 #[.val (.int p1), .val (.float f), .val (.int (536870912 : Int32))] [(.int p1), (.double (FP.dmul (FP.i2d (536870912 : Int32)) (FP.f2d f)))]))
                                                          refine own_to (fun t k => XS.i2dS X0.here hx rfl (hb hby own_d2_52) rfl rfl k) ?_
                                                          show own_Fin _ _ _ _ _ _ (s₁.setTop (mkF m 53 #[.val (.int p1), .val (.float f), .val (.int (536870912 : Int32))] [(.double (FP.i2d p1)), (.double (FP.dmul (FP.i2d (536870912 : Int32)) (FP.f2d f)))]))
                                                          refine own_to (fun t k => XS.dcmpS X0.here hx rfl (hb hby own_d2_53) rfl rfl k) ?_
                                                          show own_Fin _ _ _ _ _ _ (s₁.setTop (mkF m 54 #[.val (.int p1), .val (.float f), .val (.int (536870912 : Int32))] [(.int (cmpValue (FP.dcmp (FP.dmul (FP.i2d (536870912 : Int32)) (FP.f2d f)) (FP.i2d p1)) .g))]))
                                                          show own_Fin _ _ _ _ _ _ (s₁.setTop (mkF m 54 #[.val (.int p1), .val (.float f), .val (.int (536870912 : Int32))] [(.int (own_G p1 f (536870912 : Int32)))]))
                                                          by_cases hc54_29 : (own_G p1 f (536870912 : Int32)) < (0 : Int32)
                                                          ·
                                                            show own_Fin _ _ _ _ _ _ (s₁.setTop (mkF m 54 #[.val (.int p1), .val (.float f), .val (.int (536870912 : Int32))] [(.int (own_G p1 f (536870912 : Int32)))]))
                                                            refine own_to (fun t k => XS.ifNo X0.here hx rfl (hb hby own_d2_54) rfl ((if0 _ _).trans (tlt hc54_29).2.1) k) ?_
                                                            show own_Fin _ _ _ _ _ _ (s₁.setTop (mkF m 57 #[.val (.int p1), .val (.float f), .val (.int (536870912 : Int32))] []))
                                                            refine own_to (fun t k => XS.iloadN X0.here hx rfl (hb hby own_d2_57) rfl k) ?_
                                                            show own_Fin _ _ _ _ _ _ (s₁.setTop (mkF m 58 #[.val (.int p1), .val (.float f), .val (.int (536870912 : Int32))] [(.int (536870912 : Int32))]))
                                                            refine own_to (fun t k => XS.iconst X0.here hx rfl (hb hby own_d2_58) k) ?_
                                                            show own_Fin _ _ _ _ _ _ (s₁.setTop (mkF m 59 #[.val (.int p1), .val (.float f), .val (.int (536870912 : Int32))] [(.int (1 : Int32)), (.int (536870912 : Int32))]))
                                                            refine own_to (fun t k => XS.ishl X0.here hx rfl (hb hby own_d2_59) rfl k) ?_
                                                            show own_Fin _ _ _ _ _ _ (s₁.setTop (mkF m 60 #[.val (.int p1), .val (.float f), .val (.int (536870912 : Int32))] [(.int (1073741824 : Int32))]))
                                                            refine own_to (fun t k => XS.istoreN X0.here hx rfl (hb hby own_d2_60) rfl (l' := #[.val (.int p1), .val (.float f), .val (.int (1073741824 : Int32))]) rfl k) ?_
                                                            show own_Fin _ _ _ _ _ _ (s₁.setTop (mkF m 61 #[.val (.int p1), .val (.float f), .val (.int (1073741824 : Int32))] []))
                                                            refine own_to (fun t k => XS.goto X0.here hx rfl (pc0 := 61) (pc' := 40) rfl (hb hby own_d2_61) (by decide) (by decide) k) ?_
                                                            show own_Fin _ _ _ _ _ _ (s₁.setTop (mkF m 40 #[.val (.int p1), .val (.float f), .val (.int (1073741824 : Int32))] []))
                                                            refine own_to (fun t k => XS.iloadN X0.here hx rfl (hb hby own_d2_40) rfl k) ?_
                                                            show own_Fin _ _ _ _ _ _ (s₁.setTop (mkF m 41 #[.val (.int p1), .val (.float f), .val (.int (1073741824 : Int32))] [(.int (1073741824 : Int32))]))
                                                            refine own_to (fun t k => X0.ldcInt hx hown (mvT hZ (hw _ (List.mem_of_getElem? (i := 8) rfl))) (g := (mkF m 41 #[.val (.int p1), .val (.float f), .val (.int (1073741824 : Int32))] [(.int (1073741824 : Int32))])) rfl (hb hby own_d2_41) _ k) ?_
                                                            show own_Fin _ _ _ _ _ _ (s₁.setTop (mkF m 43 #[.val (.int p1), .val (.float f), .val (.int (1073741824 : Int32))] [(.int (1073741824 : Int32)), (.int (1073741824 : Int32))]))
                                                            refine own_to (fun t k => XS.icmpYes X0.here hx rfl (pc0 := 43) (pc' := 64) rfl (hb hby own_d2_43) rfl (flt (Int32.lt_irrefl)).2.1 (by decide) (by decide) k) ?_
                                                            show own_Fin _ _ _ _ _ _ (s₁.setTop (mkF m 64 #[.val (.int p1), .val (.float f), .val (.int (1073741824 : Int32))] []))
                                                            refine own_to (fun t k => XS.iloadN X0.here hx rfl (hb hby own_d2_64) rfl k) ?_
                                                            show own_Fin _ _ _ _ _ _ (s₁.setTop (mkF m 65 #[.val (.int p1), .val (.float f), .val (.int (1073741824 : Int32))] [(.int (1073741824 : Int32))]))
                                                            refine own_retI X0 hx hlk hret (hb hby own_d2_65) (by decide) (by decide) ?_
                                                            try rw [e0]
                                                            exact ⟨(1073741824 : Int32), rfl, N0, rfl, by decide, by decide, by decide, fun q => absurd rfl q, fun _ => by rw [show ((1073741824 : Int32) / (2 : Int32)) = (536870912 : Int32) from by decide]; exact hc54_29⟩
                                                          ·
                                                            show own_Fin _ _ _ _ _ _ (s₁.setTop (mkF m 54 #[.val (.int p1), .val (.float f), .val (.int (536870912 : Int32))] [(.int (own_G p1 f (536870912 : Int32)))]))
                                                            refine own_to (fun t k => XS.ifYes X0.here hx rfl (pc0 := 54) (pc' := 64) rfl (hb hby own_d2_54) rfl ((if0 _ _).trans (flt hc54_29).2.1) (by decide) (by decide) k) ?_
                                                            show own_Fin _ _ _ _ _ _ (s₁.setTop (mkF m 64 #[.val (.int p1), .val (.float f), .val (.int (536870912 : Int32))] []))
                                                            refine own_to (fun t k => XS.iloadN X0.here hx rfl (hb hby own_d2_64) rfl k) ?_
                                                            show own_Fin _ _ _ _ _ _ (s₁.setTop (mkF m 65 #[.val (.int p1), .val (.float f), .val (.int (536870912 : Int32))] [(.int (536870912 : Int32))]))
                                                            refine own_retI X0 hx hlk hret (hb hby own_d2_65) (by decide) (by decide) ?_
                                                            try rw [e0]
                                                            exact ⟨(536870912 : Int32), rfl, N0, rfl, by decide, by decide, by decide, fun _ => hc54_29, fun _ => by rw [show ((536870912 : Int32) / (2 : Int32)) = (268435456 : Int32) from by decide]; exact hc54_28⟩
                                                        ·
                                                          show own_Fin _ _ _ _ _ _ (s₁.setTop (mkF m 54 #[.val (.int p1), .val (.float f), .val (.int (268435456 : Int32))] [(.int (own_G p1 f (268435456 : Int32)))]))
                                                          refine own_to (fun t k => XS.ifYes X0.here hx rfl (pc0 := 54) (pc' := 64) rfl (hb hby own_d2_54) rfl ((if0 _ _).trans (flt hc54_28).2.1) (by decide) (by decide) k) ?_
                                                          show own_Fin _ _ _ _ _ _ (s₁.setTop (mkF m 64 #[.val (.int p1), .val (.float f), .val (.int (268435456 : Int32))] []))
                                                          refine own_to (fun t k => XS.iloadN X0.here hx rfl (hb hby own_d2_64) rfl k) ?_
                                                          show own_Fin _ _ _ _ _ _ (s₁.setTop (mkF m 65 #[.val (.int p1), .val (.float f), .val (.int (268435456 : Int32))] [(.int (268435456 : Int32))]))
                                                          refine own_retI X0 hx hlk hret (hb hby own_d2_65) (by decide) (by decide) ?_
                                                          try rw [e0]
                                                          exact ⟨(268435456 : Int32), rfl, N0, rfl, by decide, by decide, by decide, fun _ => hc54_28, fun _ => by rw [show ((268435456 : Int32) / (2 : Int32)) = (134217728 : Int32) from by decide]; exact hc54_27⟩
                                                      ·
                                                        show own_Fin _ _ _ _ _ _ (s₁.setTop (mkF m 54 #[.val (.int p1), .val (.float f), .val (.int (134217728 : Int32))] [(.int (own_G p1 f (134217728 : Int32)))]))
                                                        refine own_to (fun t k => XS.ifYes X0.here hx rfl (pc0 := 54) (pc' := 64) rfl (hb hby own_d2_54) rfl ((if0 _ _).trans (flt hc54_27).2.1) (by decide) (by decide) k) ?_
                                                        show own_Fin _ _ _ _ _ _ (s₁.setTop (mkF m 64 #[.val (.int p1), .val (.float f), .val (.int (134217728 : Int32))] []))
                                                        refine own_to (fun t k => XS.iloadN X0.here hx rfl (hb hby own_d2_64) rfl k) ?_
                                                        show own_Fin _ _ _ _ _ _ (s₁.setTop (mkF m 65 #[.val (.int p1), .val (.float f), .val (.int (134217728 : Int32))] [(.int (134217728 : Int32))]))
                                                        refine own_retI X0 hx hlk hret (hb hby own_d2_65) (by decide) (by decide) ?_
                                                        try rw [e0]
                                                        exact ⟨(134217728 : Int32), rfl, N0, rfl, by decide, by decide, by decide, fun _ => hc54_27, fun _ => by rw [show ((134217728 : Int32) / (2 : Int32)) = (67108864 : Int32) from by decide]; exact hc54_26⟩
                                                    ·
                                                      show own_Fin _ _ _ _ _ _ (s₁.setTop (mkF m 54 #[.val (.int p1), .val (.float f), .val (.int (67108864 : Int32))] [(.int (own_G p1 f (67108864 : Int32)))]))
                                                      refine own_to (fun t k => XS.ifYes X0.here hx rfl (pc0 := 54) (pc' := 64) rfl (hb hby own_d2_54) rfl ((if0 _ _).trans (flt hc54_26).2.1) (by decide) (by decide) k) ?_
                                                      show own_Fin _ _ _ _ _ _ (s₁.setTop (mkF m 64 #[.val (.int p1), .val (.float f), .val (.int (67108864 : Int32))] []))
                                                      refine own_to (fun t k => XS.iloadN X0.here hx rfl (hb hby own_d2_64) rfl k) ?_
                                                      show own_Fin _ _ _ _ _ _ (s₁.setTop (mkF m 65 #[.val (.int p1), .val (.float f), .val (.int (67108864 : Int32))] [(.int (67108864 : Int32))]))
                                                      refine own_retI X0 hx hlk hret (hb hby own_d2_65) (by decide) (by decide) ?_
                                                      try rw [e0]
                                                      exact ⟨(67108864 : Int32), rfl, N0, rfl, by decide, by decide, by decide, fun _ => hc54_26, fun _ => by rw [show ((67108864 : Int32) / (2 : Int32)) = (33554432 : Int32) from by decide]; exact hc54_25⟩
                                                  ·
                                                    show own_Fin _ _ _ _ _ _ (s₁.setTop (mkF m 54 #[.val (.int p1), .val (.float f), .val (.int (33554432 : Int32))] [(.int (own_G p1 f (33554432 : Int32)))]))
                                                    refine own_to (fun t k => XS.ifYes X0.here hx rfl (pc0 := 54) (pc' := 64) rfl (hb hby own_d2_54) rfl ((if0 _ _).trans (flt hc54_25).2.1) (by decide) (by decide) k) ?_
                                                    show own_Fin _ _ _ _ _ _ (s₁.setTop (mkF m 64 #[.val (.int p1), .val (.float f), .val (.int (33554432 : Int32))] []))
                                                    refine own_to (fun t k => XS.iloadN X0.here hx rfl (hb hby own_d2_64) rfl k) ?_
                                                    show own_Fin _ _ _ _ _ _ (s₁.setTop (mkF m 65 #[.val (.int p1), .val (.float f), .val (.int (33554432 : Int32))] [(.int (33554432 : Int32))]))
                                                    refine own_retI X0 hx hlk hret (hb hby own_d2_65) (by decide) (by decide) ?_
                                                    try rw [e0]
                                                    exact ⟨(33554432 : Int32), rfl, N0, rfl, by decide, by decide, by decide, fun _ => hc54_25, fun _ => by rw [show ((33554432 : Int32) / (2 : Int32)) = (16777216 : Int32) from by decide]; exact hc54_24⟩
                                                ·
                                                  show own_Fin _ _ _ _ _ _ (s₁.setTop (mkF m 54 #[.val (.int p1), .val (.float f), .val (.int (16777216 : Int32))] [(.int (own_G p1 f (16777216 : Int32)))]))
                                                  refine own_to (fun t k => XS.ifYes X0.here hx rfl (pc0 := 54) (pc' := 64) rfl (hb hby own_d2_54) rfl ((if0 _ _).trans (flt hc54_24).2.1) (by decide) (by decide) k) ?_
                                                  show own_Fin _ _ _ _ _ _ (s₁.setTop (mkF m 64 #[.val (.int p1), .val (.float f), .val (.int (16777216 : Int32))] []))
                                                  refine own_to (fun t k => XS.iloadN X0.here hx rfl (hb hby own_d2_64) rfl k) ?_
                                                  show own_Fin _ _ _ _ _ _ (s₁.setTop (mkF m 65 #[.val (.int p1), .val (.float f), .val (.int (16777216 : Int32))] [(.int (16777216 : Int32))]))
                                                  refine own_retI X0 hx hlk hret (hb hby own_d2_65) (by decide) (by decide) ?_
                                                  try rw [e0]
                                                  exact ⟨(16777216 : Int32), rfl, N0, rfl, by decide, by decide, by decide, fun _ => hc54_24, fun _ => by rw [show ((16777216 : Int32) / (2 : Int32)) = (8388608 : Int32) from by decide]; exact hc54_23⟩
                                              ·
                                                show own_Fin _ _ _ _ _ _ (s₁.setTop (mkF m 54 #[.val (.int p1), .val (.float f), .val (.int (8388608 : Int32))] [(.int (own_G p1 f (8388608 : Int32)))]))
                                                refine own_to (fun t k => XS.ifYes X0.here hx rfl (pc0 := 54) (pc' := 64) rfl (hb hby own_d2_54) rfl ((if0 _ _).trans (flt hc54_23).2.1) (by decide) (by decide) k) ?_
                                                show own_Fin _ _ _ _ _ _ (s₁.setTop (mkF m 64 #[.val (.int p1), .val (.float f), .val (.int (8388608 : Int32))] []))
                                                refine own_to (fun t k => XS.iloadN X0.here hx rfl (hb hby own_d2_64) rfl k) ?_
                                                show own_Fin _ _ _ _ _ _ (s₁.setTop (mkF m 65 #[.val (.int p1), .val (.float f), .val (.int (8388608 : Int32))] [(.int (8388608 : Int32))]))
                                                refine own_retI X0 hx hlk hret (hb hby own_d2_65) (by decide) (by decide) ?_
                                                try rw [e0]
                                                exact ⟨(8388608 : Int32), rfl, N0, rfl, by decide, by decide, by decide, fun _ => hc54_23, fun _ => by rw [show ((8388608 : Int32) / (2 : Int32)) = (4194304 : Int32) from by decide]; exact hc54_22⟩
                                            ·
                                              show own_Fin _ _ _ _ _ _ (s₁.setTop (mkF m 54 #[.val (.int p1), .val (.float f), .val (.int (4194304 : Int32))] [(.int (own_G p1 f (4194304 : Int32)))]))
                                              refine own_to (fun t k => XS.ifYes X0.here hx rfl (pc0 := 54) (pc' := 64) rfl (hb hby own_d2_54) rfl ((if0 _ _).trans (flt hc54_22).2.1) (by decide) (by decide) k) ?_
                                              show own_Fin _ _ _ _ _ _ (s₁.setTop (mkF m 64 #[.val (.int p1), .val (.float f), .val (.int (4194304 : Int32))] []))
                                              refine own_to (fun t k => XS.iloadN X0.here hx rfl (hb hby own_d2_64) rfl k) ?_
                                              show own_Fin _ _ _ _ _ _ (s₁.setTop (mkF m 65 #[.val (.int p1), .val (.float f), .val (.int (4194304 : Int32))] [(.int (4194304 : Int32))]))
                                              refine own_retI X0 hx hlk hret (hb hby own_d2_65) (by decide) (by decide) ?_
                                              try rw [e0]
                                              exact ⟨(4194304 : Int32), rfl, N0, rfl, by decide, by decide, by decide, fun _ => hc54_22, fun _ => by rw [show ((4194304 : Int32) / (2 : Int32)) = (2097152 : Int32) from by decide]; exact hc54_21⟩
                                          ·
                                            show own_Fin _ _ _ _ _ _ (s₁.setTop (mkF m 54 #[.val (.int p1), .val (.float f), .val (.int (2097152 : Int32))] [(.int (own_G p1 f (2097152 : Int32)))]))
                                            refine own_to (fun t k => XS.ifYes X0.here hx rfl (pc0 := 54) (pc' := 64) rfl (hb hby own_d2_54) rfl ((if0 _ _).trans (flt hc54_21).2.1) (by decide) (by decide) k) ?_
                                            show own_Fin _ _ _ _ _ _ (s₁.setTop (mkF m 64 #[.val (.int p1), .val (.float f), .val (.int (2097152 : Int32))] []))
                                            refine own_to (fun t k => XS.iloadN X0.here hx rfl (hb hby own_d2_64) rfl k) ?_
                                            show own_Fin _ _ _ _ _ _ (s₁.setTop (mkF m 65 #[.val (.int p1), .val (.float f), .val (.int (2097152 : Int32))] [(.int (2097152 : Int32))]))
                                            refine own_retI X0 hx hlk hret (hb hby own_d2_65) (by decide) (by decide) ?_
                                            try rw [e0]
                                            exact ⟨(2097152 : Int32), rfl, N0, rfl, by decide, by decide, by decide, fun _ => hc54_21, fun _ => by rw [show ((2097152 : Int32) / (2 : Int32)) = (1048576 : Int32) from by decide]; exact hc54_20⟩
                                        ·
                                          show own_Fin _ _ _ _ _ _ (s₁.setTop (mkF m 54 #[.val (.int p1), .val (.float f), .val (.int (1048576 : Int32))] [(.int (own_G p1 f (1048576 : Int32)))]))
                                          refine own_to (fun t k => XS.ifYes X0.here hx rfl (pc0 := 54) (pc' := 64) rfl (hb hby own_d2_54) rfl ((if0 _ _).trans (flt hc54_20).2.1) (by decide) (by decide) k) ?_
                                          show own_Fin _ _ _ _ _ _ (s₁.setTop (mkF m 64 #[.val (.int p1), .val (.float f), .val (.int (1048576 : Int32))] []))
                                          refine own_to (fun t k => XS.iloadN X0.here hx rfl (hb hby own_d2_64) rfl k) ?_
                                          show own_Fin _ _ _ _ _ _ (s₁.setTop (mkF m 65 #[.val (.int p1), .val (.float f), .val (.int (1048576 : Int32))] [(.int (1048576 : Int32))]))
                                          refine own_retI X0 hx hlk hret (hb hby own_d2_65) (by decide) (by decide) ?_
                                          try rw [e0]
                                          exact ⟨(1048576 : Int32), rfl, N0, rfl, by decide, by decide, by decide, fun _ => hc54_20, fun _ => by rw [show ((1048576 : Int32) / (2 : Int32)) = (524288 : Int32) from by decide]; exact hc54_19⟩
                                      ·
                                        show own_Fin _ _ _ _ _ _ (s₁.setTop (mkF m 54 #[.val (.int p1), .val (.float f), .val (.int (524288 : Int32))] [(.int (own_G p1 f (524288 : Int32)))]))
                                        refine own_to (fun t k => XS.ifYes X0.here hx rfl (pc0 := 54) (pc' := 64) rfl (hb hby own_d2_54) rfl ((if0 _ _).trans (flt hc54_19).2.1) (by decide) (by decide) k) ?_
                                        show own_Fin _ _ _ _ _ _ (s₁.setTop (mkF m 64 #[.val (.int p1), .val (.float f), .val (.int (524288 : Int32))] []))
                                        refine own_to (fun t k => XS.iloadN X0.here hx rfl (hb hby own_d2_64) rfl k) ?_
                                        show own_Fin _ _ _ _ _ _ (s₁.setTop (mkF m 65 #[.val (.int p1), .val (.float f), .val (.int (524288 : Int32))] [(.int (524288 : Int32))]))
                                        refine own_retI X0 hx hlk hret (hb hby own_d2_65) (by decide) (by decide) ?_
                                        try rw [e0]
                                        exact ⟨(524288 : Int32), rfl, N0, rfl, by decide, by decide, by decide, fun _ => hc54_19, fun _ => by rw [show ((524288 : Int32) / (2 : Int32)) = (262144 : Int32) from by decide]; exact hc54_18⟩
                                    ·
                                      show own_Fin _ _ _ _ _ _ (s₁.setTop (mkF m 54 #[.val (.int p1), .val (.float f), .val (.int (262144 : Int32))] [(.int (own_G p1 f (262144 : Int32)))]))
                                      refine own_to (fun t k => XS.ifYes X0.here hx rfl (pc0 := 54) (pc' := 64) rfl (hb hby own_d2_54) rfl ((if0 _ _).trans (flt hc54_18).2.1) (by decide) (by decide) k) ?_
                                      show own_Fin _ _ _ _ _ _ (s₁.setTop (mkF m 64 #[.val (.int p1), .val (.float f), .val (.int (262144 : Int32))] []))
                                      refine own_to (fun t k => XS.iloadN X0.here hx rfl (hb hby own_d2_64) rfl k) ?_
                                      show own_Fin _ _ _ _ _ _ (s₁.setTop (mkF m 65 #[.val (.int p1), .val (.float f), .val (.int (262144 : Int32))] [(.int (262144 : Int32))]))
                                      refine own_retI X0 hx hlk hret (hb hby own_d2_65) (by decide) (by decide) ?_
                                      try rw [e0]
                                      exact ⟨(262144 : Int32), rfl, N0, rfl, by decide, by decide, by decide, fun _ => hc54_18, fun _ => by rw [show ((262144 : Int32) / (2 : Int32)) = (131072 : Int32) from by decide]; exact hc54_17⟩
                                  ·
                                    show own_Fin _ _ _ _ _ _ (s₁.setTop (mkF m 54 #[.val (.int p1), .val (.float f), .val (.int (131072 : Int32))] [(.int (own_G p1 f (131072 : Int32)))]))
                                    refine own_to (fun t k => XS.ifYes X0.here hx rfl (pc0 := 54) (pc' := 64) rfl (hb hby own_d2_54) rfl ((if0 _ _).trans (flt hc54_17).2.1) (by decide) (by decide) k) ?_
                                    show own_Fin _ _ _ _ _ _ (s₁.setTop (mkF m 64 #[.val (.int p1), .val (.float f), .val (.int (131072 : Int32))] []))
                                    refine own_to (fun t k => XS.iloadN X0.here hx rfl (hb hby own_d2_64) rfl k) ?_
                                    show own_Fin _ _ _ _ _ _ (s₁.setTop (mkF m 65 #[.val (.int p1), .val (.float f), .val (.int (131072 : Int32))] [(.int (131072 : Int32))]))
                                    refine own_retI X0 hx hlk hret (hb hby own_d2_65) (by decide) (by decide) ?_
                                    try rw [e0]
                                    exact ⟨(131072 : Int32), rfl, N0, rfl, by decide, by decide, by decide, fun _ => hc54_17, fun _ => by rw [show ((131072 : Int32) / (2 : Int32)) = (65536 : Int32) from by decide]; exact hc54_16⟩
                                ·
                                  show own_Fin _ _ _ _ _ _ (s₁.setTop (mkF m 54 #[.val (.int p1), .val (.float f), .val (.int (65536 : Int32))] [(.int (own_G p1 f (65536 : Int32)))]))
                                  refine own_to (fun t k => XS.ifYes X0.here hx rfl (pc0 := 54) (pc' := 64) rfl (hb hby own_d2_54) rfl ((if0 _ _).trans (flt hc54_16).2.1) (by decide) (by decide) k) ?_
                                  show own_Fin _ _ _ _ _ _ (s₁.setTop (mkF m 64 #[.val (.int p1), .val (.float f), .val (.int (65536 : Int32))] []))
                                  refine own_to (fun t k => XS.iloadN X0.here hx rfl (hb hby own_d2_64) rfl k) ?_
                                  show own_Fin _ _ _ _ _ _ (s₁.setTop (mkF m 65 #[.val (.int p1), .val (.float f), .val (.int (65536 : Int32))] [(.int (65536 : Int32))]))
                                  refine own_retI X0 hx hlk hret (hb hby own_d2_65) (by decide) (by decide) ?_
                                  try rw [e0]
                                  exact ⟨(65536 : Int32), rfl, N0, rfl, by decide, by decide, by decide, fun _ => hc54_16, fun _ => by rw [show ((65536 : Int32) / (2 : Int32)) = (32768 : Int32) from by decide]; exact hc54_15⟩
                              ·
                                show own_Fin _ _ _ _ _ _ (s₁.setTop (mkF m 54 #[.val (.int p1), .val (.float f), .val (.int (32768 : Int32))] [(.int (own_G p1 f (32768 : Int32)))]))
                                refine own_to (fun t k => XS.ifYes X0.here hx rfl (pc0 := 54) (pc' := 64) rfl (hb hby own_d2_54) rfl ((if0 _ _).trans (flt hc54_15).2.1) (by decide) (by decide) k) ?_
                                show own_Fin _ _ _ _ _ _ (s₁.setTop (mkF m 64 #[.val (.int p1), .val (.float f), .val (.int (32768 : Int32))] []))
                                refine own_to (fun t k => XS.iloadN X0.here hx rfl (hb hby own_d2_64) rfl k) ?_
                                show own_Fin _ _ _ _ _ _ (s₁.setTop (mkF m 65 #[.val (.int p1), .val (.float f), .val (.int (32768 : Int32))] [(.int (32768 : Int32))]))
                                refine own_retI X0 hx hlk hret (hb hby own_d2_65) (by decide) (by decide) ?_
                                try rw [e0]
                                exact ⟨(32768 : Int32), rfl, N0, rfl, by decide, by decide, by decide, fun _ => hc54_15, fun _ => by rw [show ((32768 : Int32) / (2 : Int32)) = (16384 : Int32) from by decide]; exact hc54_14⟩
                            ·
                              show own_Fin _ _ _ _ _ _ (s₁.setTop (mkF m 54 #[.val (.int p1), .val (.float f), .val (.int (16384 : Int32))] [(.int (own_G p1 f (16384 : Int32)))]))
                              refine own_to (fun t k => XS.ifYes X0.here hx rfl (pc0 := 54) (pc' := 64) rfl (hb hby own_d2_54) rfl ((if0 _ _).trans (flt hc54_14).2.1) (by decide) (by decide) k) ?_
                              show own_Fin _ _ _ _ _ _ (s₁.setTop (mkF m 64 #[.val (.int p1), .val (.float f), .val (.int (16384 : Int32))] []))
                              refine own_to (fun t k => XS.iloadN X0.here hx rfl (hb hby own_d2_64) rfl k) ?_
                              show own_Fin _ _ _ _ _ _ (s₁.setTop (mkF m 65 #[.val (.int p1), .val (.float f), .val (.int (16384 : Int32))] [(.int (16384 : Int32))]))
                              refine own_retI X0 hx hlk hret (hb hby own_d2_65) (by decide) (by decide) ?_
                              try rw [e0]
                              exact ⟨(16384 : Int32), rfl, N0, rfl, by decide, by decide, by decide, fun _ => hc54_14, fun _ => by rw [show ((16384 : Int32) / (2 : Int32)) = (8192 : Int32) from by decide]; exact hc54_13⟩
                          ·
                            show own_Fin _ _ _ _ _ _ (s₁.setTop (mkF m 54 #[.val (.int p1), .val (.float f), .val (.int (8192 : Int32))] [(.int (own_G p1 f (8192 : Int32)))]))
                            refine own_to (fun t k => XS.ifYes X0.here hx rfl (pc0 := 54) (pc' := 64) rfl (hb hby own_d2_54) rfl ((if0 _ _).trans (flt hc54_13).2.1) (by decide) (by decide) k) ?_
                            show own_Fin _ _ _ _ _ _ (s₁.setTop (mkF m 64 #[.val (.int p1), .val (.float f), .val (.int (8192 : Int32))] []))
                            refine own_to (fun t k => XS.iloadN X0.here hx rfl (hb hby own_d2_64) rfl k) ?_
                            show own_Fin _ _ _ _ _ _ (s₁.setTop (mkF m 65 #[.val (.int p1), .val (.float f), .val (.int (8192 : Int32))] [(.int (8192 : Int32))]))
                            refine own_retI X0 hx hlk hret (hb hby own_d2_65) (by decide) (by decide) ?_
                            try rw [e0]
                            exact ⟨(8192 : Int32), rfl, N0, rfl, by decide, by decide, by decide, fun _ => hc54_13, fun _ => by rw [show ((8192 : Int32) / (2 : Int32)) = (4096 : Int32) from by decide]; exact hc54_12⟩
                        ·
                          show own_Fin _ _ _ _ _ _ (s₁.setTop (mkF m 54 #[.val (.int p1), .val (.float f), .val (.int (4096 : Int32))] [(.int (own_G p1 f (4096 : Int32)))]))
                          refine own_to (fun t k => XS.ifYes X0.here hx rfl (pc0 := 54) (pc' := 64) rfl (hb hby own_d2_54) rfl ((if0 _ _).trans (flt hc54_12).2.1) (by decide) (by decide) k) ?_
                          show own_Fin _ _ _ _ _ _ (s₁.setTop (mkF m 64 #[.val (.int p1), .val (.float f), .val (.int (4096 : Int32))] []))
                          refine own_to (fun t k => XS.iloadN X0.here hx rfl (hb hby own_d2_64) rfl k) ?_
                          show own_Fin _ _ _ _ _ _ (s₁.setTop (mkF m 65 #[.val (.int p1), .val (.float f), .val (.int (4096 : Int32))] [(.int (4096 : Int32))]))
                          refine own_retI X0 hx hlk hret (hb hby own_d2_65) (by decide) (by decide) ?_
                          try rw [e0]
                          exact ⟨(4096 : Int32), rfl, N0, rfl, by decide, by decide, by decide, fun _ => hc54_12, fun _ => by rw [show ((4096 : Int32) / (2 : Int32)) = (2048 : Int32) from by decide]; exact hc54_11⟩
                      ·
                        show own_Fin _ _ _ _ _ _ (s₁.setTop (mkF m 54 #[.val (.int p1), .val (.float f), .val (.int (2048 : Int32))] [(.int (own_G p1 f (2048 : Int32)))]))
                        refine own_to (fun t k => XS.ifYes X0.here hx rfl (pc0 := 54) (pc' := 64) rfl (hb hby own_d2_54) rfl ((if0 _ _).trans (flt hc54_11).2.1) (by decide) (by decide) k) ?_
                        show own_Fin _ _ _ _ _ _ (s₁.setTop (mkF m 64 #[.val (.int p1), .val (.float f), .val (.int (2048 : Int32))] []))
                        refine own_to (fun t k => XS.iloadN X0.here hx rfl (hb hby own_d2_64) rfl k) ?_
                        show own_Fin _ _ _ _ _ _ (s₁.setTop (mkF m 65 #[.val (.int p1), .val (.float f), .val (.int (2048 : Int32))] [(.int (2048 : Int32))]))
                        refine own_retI X0 hx hlk hret (hb hby own_d2_65) (by decide) (by decide) ?_
                        try rw [e0]
                        exact ⟨(2048 : Int32), rfl, N0, rfl, by decide, by decide, by decide, fun _ => hc54_11, fun _ => by rw [show ((2048 : Int32) / (2 : Int32)) = (1024 : Int32) from by decide]; exact hc54_10⟩
                    ·
                      show own_Fin _ _ _ _ _ _ (s₁.setTop (mkF m 54 #[.val (.int p1), .val (.float f), .val (.int (1024 : Int32))] [(.int (own_G p1 f (1024 : Int32)))]))
                      refine own_to (fun t k => XS.ifYes X0.here hx rfl (pc0 := 54) (pc' := 64) rfl (hb hby own_d2_54) rfl ((if0 _ _).trans (flt hc54_10).2.1) (by decide) (by decide) k) ?_
                      show own_Fin _ _ _ _ _ _ (s₁.setTop (mkF m 64 #[.val (.int p1), .val (.float f), .val (.int (1024 : Int32))] []))
                      refine own_to (fun t k => XS.iloadN X0.here hx rfl (hb hby own_d2_64) rfl k) ?_
                      show own_Fin _ _ _ _ _ _ (s₁.setTop (mkF m 65 #[.val (.int p1), .val (.float f), .val (.int (1024 : Int32))] [(.int (1024 : Int32))]))
                      refine own_retI X0 hx hlk hret (hb hby own_d2_65) (by decide) (by decide) ?_
                      try rw [e0]
                      exact ⟨(1024 : Int32), rfl, N0, rfl, by decide, by decide, by decide, fun _ => hc54_10, fun _ => by rw [show ((1024 : Int32) / (2 : Int32)) = (512 : Int32) from by decide]; exact hc54_9⟩
                  ·
                    show own_Fin _ _ _ _ _ _ (s₁.setTop (mkF m 54 #[.val (.int p1), .val (.float f), .val (.int (512 : Int32))] [(.int (own_G p1 f (512 : Int32)))]))
                    refine own_to (fun t k => XS.ifYes X0.here hx rfl (pc0 := 54) (pc' := 64) rfl (hb hby own_d2_54) rfl ((if0 _ _).trans (flt hc54_9).2.1) (by decide) (by decide) k) ?_
                    show own_Fin _ _ _ _ _ _ (s₁.setTop (mkF m 64 #[.val (.int p1), .val (.float f), .val (.int (512 : Int32))] []))
                    refine own_to (fun t k => XS.iloadN X0.here hx rfl (hb hby own_d2_64) rfl k) ?_
                    show own_Fin _ _ _ _ _ _ (s₁.setTop (mkF m 65 #[.val (.int p1), .val (.float f), .val (.int (512 : Int32))] [(.int (512 : Int32))]))
                    refine own_retI X0 hx hlk hret (hb hby own_d2_65) (by decide) (by decide) ?_
                    try rw [e0]
                    exact ⟨(512 : Int32), rfl, N0, rfl, by decide, by decide, by decide, fun _ => hc54_9, fun _ => by rw [show ((512 : Int32) / (2 : Int32)) = (256 : Int32) from by decide]; exact hc54_8⟩
                ·
                  show own_Fin _ _ _ _ _ _ (s₁.setTop (mkF m 54 #[.val (.int p1), .val (.float f), .val (.int (256 : Int32))] [(.int (own_G p1 f (256 : Int32)))]))
                  refine own_to (fun t k => XS.ifYes X0.here hx rfl (pc0 := 54) (pc' := 64) rfl (hb hby own_d2_54) rfl ((if0 _ _).trans (flt hc54_8).2.1) (by decide) (by decide) k) ?_
                  show own_Fin _ _ _ _ _ _ (s₁.setTop (mkF m 64 #[.val (.int p1), .val (.float f), .val (.int (256 : Int32))] []))
                  refine own_to (fun t k => XS.iloadN X0.here hx rfl (hb hby own_d2_64) rfl k) ?_
                  show own_Fin _ _ _ _ _ _ (s₁.setTop (mkF m 65 #[.val (.int p1), .val (.float f), .val (.int (256 : Int32))] [(.int (256 : Int32))]))
                  refine own_retI X0 hx hlk hret (hb hby own_d2_65) (by decide) (by decide) ?_
                  try rw [e0]
                  exact ⟨(256 : Int32), rfl, N0, rfl, by decide, by decide, by decide, fun _ => hc54_8, fun _ => by rw [show ((256 : Int32) / (2 : Int32)) = (128 : Int32) from by decide]; exact hc54_7⟩
              ·
                show own_Fin _ _ _ _ _ _ (s₁.setTop (mkF m 54 #[.val (.int p1), .val (.float f), .val (.int (128 : Int32))] [(.int (own_G p1 f (128 : Int32)))]))
                refine own_to (fun t k => XS.ifYes X0.here hx rfl (pc0 := 54) (pc' := 64) rfl (hb hby own_d2_54) rfl ((if0 _ _).trans (flt hc54_7).2.1) (by decide) (by decide) k) ?_
                show own_Fin _ _ _ _ _ _ (s₁.setTop (mkF m 64 #[.val (.int p1), .val (.float f), .val (.int (128 : Int32))] []))
                refine own_to (fun t k => XS.iloadN X0.here hx rfl (hb hby own_d2_64) rfl k) ?_
                show own_Fin _ _ _ _ _ _ (s₁.setTop (mkF m 65 #[.val (.int p1), .val (.float f), .val (.int (128 : Int32))] [(.int (128 : Int32))]))
                refine own_retI X0 hx hlk hret (hb hby own_d2_65) (by decide) (by decide) ?_
                try rw [e0]
                exact ⟨(128 : Int32), rfl, N0, rfl, by decide, by decide, by decide, fun _ => hc54_7, fun _ => by rw [show ((128 : Int32) / (2 : Int32)) = (64 : Int32) from by decide]; exact hc54_6⟩
            ·
              show own_Fin _ _ _ _ _ _ (s₁.setTop (mkF m 54 #[.val (.int p1), .val (.float f), .val (.int (64 : Int32))] [(.int (own_G p1 f (64 : Int32)))]))
              refine own_to (fun t k => XS.ifYes X0.here hx rfl (pc0 := 54) (pc' := 64) rfl (hb hby own_d2_54) rfl ((if0 _ _).trans (flt hc54_6).2.1) (by decide) (by decide) k) ?_
              show own_Fin _ _ _ _ _ _ (s₁.setTop (mkF m 64 #[.val (.int p1), .val (.float f), .val (.int (64 : Int32))] []))
              refine own_to (fun t k => XS.iloadN X0.here hx rfl (hb hby own_d2_64) rfl k) ?_
              show own_Fin _ _ _ _ _ _ (s₁.setTop (mkF m 65 #[.val (.int p1), .val (.float f), .val (.int (64 : Int32))] [(.int (64 : Int32))]))
              refine own_retI X0 hx hlk hret (hb hby own_d2_65) (by decide) (by decide) ?_
              try rw [e0]
              exact ⟨(64 : Int32), rfl, N0, rfl, by decide, by decide, by decide, fun _ => hc54_6, fun _ => by rw [show ((64 : Int32) / (2 : Int32)) = (32 : Int32) from by decide]; exact hc54_5⟩
          ·
            show own_Fin _ _ _ _ _ _ (s₁.setTop (mkF m 54 #[.val (.int p1), .val (.float f), .val (.int (32 : Int32))] [(.int (own_G p1 f (32 : Int32)))]))
            refine own_to (fun t k => XS.ifYes X0.here hx rfl (pc0 := 54) (pc' := 64) rfl (hb hby own_d2_54) rfl ((if0 _ _).trans (flt hc54_5).2.1) (by decide) (by decide) k) ?_
            show own_Fin _ _ _ _ _ _ (s₁.setTop (mkF m 64 #[.val (.int p1), .val (.float f), .val (.int (32 : Int32))] []))
            refine own_to (fun t k => XS.iloadN X0.here hx rfl (hb hby own_d2_64) rfl k) ?_
            show own_Fin _ _ _ _ _ _ (s₁.setTop (mkF m 65 #[.val (.int p1), .val (.float f), .val (.int (32 : Int32))] [(.int (32 : Int32))]))
            refine own_retI X0 hx hlk hret (hb hby own_d2_65) (by decide) (by decide) ?_
            try rw [e0]
            exact ⟨(32 : Int32), rfl, N0, rfl, by decide, by decide, by decide, fun _ => hc54_5, fun _ => by rw [show ((32 : Int32) / (2 : Int32)) = (16 : Int32) from by decide]; exact hc54_4⟩
        ·
          show own_Fin _ _ _ _ _ _ (s₁.setTop (mkF m 54 #[.val (.int p1), .val (.float f), .val (.int (16 : Int32))] [(.int (own_G p1 f (16 : Int32)))]))
          refine own_to (fun t k => XS.ifYes X0.here hx rfl (pc0 := 54) (pc' := 64) rfl (hb hby own_d2_54) rfl ((if0 _ _).trans (flt hc54_4).2.1) (by decide) (by decide) k) ?_
          show own_Fin _ _ _ _ _ _ (s₁.setTop (mkF m 64 #[.val (.int p1), .val (.float f), .val (.int (16 : Int32))] []))
          refine own_to (fun t k => XS.iloadN X0.here hx rfl (hb hby own_d2_64) rfl k) ?_
          show own_Fin _ _ _ _ _ _ (s₁.setTop (mkF m 65 #[.val (.int p1), .val (.float f), .val (.int (16 : Int32))] [(.int (16 : Int32))]))
          refine own_retI X0 hx hlk hret (hb hby own_d2_65) (by decide) (by decide) ?_
          try rw [e0]
          exact ⟨(16 : Int32), rfl, N0, rfl, by decide, by decide, by decide, fun _ => hc54_4, fun _ => by rw [show ((16 : Int32) / (2 : Int32)) = (8 : Int32) from by decide]; exact hc54_3⟩
      ·
        show own_Fin _ _ _ _ _ _ (s₁.setTop (mkF m 54 #[.val (.int p1), .val (.float f), .val (.int (8 : Int32))] [(.int (own_G p1 f (8 : Int32)))]))
        refine own_to (fun t k => XS.ifYes X0.here hx rfl (pc0 := 54) (pc' := 64) rfl (hb hby own_d2_54) rfl ((if0 _ _).trans (flt hc54_3).2.1) (by decide) (by decide) k) ?_
        show own_Fin _ _ _ _ _ _ (s₁.setTop (mkF m 64 #[.val (.int p1), .val (.float f), .val (.int (8 : Int32))] []))
        refine own_to (fun t k => XS.iloadN X0.here hx rfl (hb hby own_d2_64) rfl k) ?_
        show own_Fin _ _ _ _ _ _ (s₁.setTop (mkF m 65 #[.val (.int p1), .val (.float f), .val (.int (8 : Int32))] [(.int (8 : Int32))]))
        refine own_retI X0 hx hlk hret (hb hby own_d2_65) (by decide) (by decide) ?_
        try rw [e0]
        exact ⟨(8 : Int32), rfl, N0, rfl, by decide, by decide, by decide, fun _ => hc54_3, fun _ => by rw [show ((8 : Int32) / (2 : Int32)) = (4 : Int32) from by decide]; exact hc54_2⟩
    ·
      show own_Fin _ _ _ _ _ _ (s₁.setTop (mkF m 54 #[.val (.int p1), .val (.float f), .val (.int (4 : Int32))] [(.int (own_G p1 f (4 : Int32)))]))
      refine own_to (fun t k => XS.ifYes X0.here hx rfl (pc0 := 54) (pc' := 64) rfl (hb hby own_d2_54) rfl ((if0 _ _).trans (flt hc54_2).2.1) (by decide) (by decide) k) ?_
      show own_Fin _ _ _ _ _ _ (s₁.setTop (mkF m 64 #[.val (.int p1), .val (.float f), .val (.int (4 : Int32))] []))
      refine own_to (fun t k => XS.iloadN X0.here hx rfl (hb hby own_d2_64) rfl k) ?_
      show own_Fin _ _ _ _ _ _ (s₁.setTop (mkF m 65 #[.val (.int p1), .val (.float f), .val (.int (4 : Int32))] [(.int (4 : Int32))]))
      refine own_retI X0 hx hlk hret (hb hby own_d2_65) (by decide) (by decide) ?_
      try rw [e0]
      exact ⟨(4 : Int32), rfl, N0, rfl, by decide, by decide, by decide, fun _ => hc54_2, fun _ => by rw [show ((4 : Int32) / (2 : Int32)) = (2 : Int32) from by decide]; exact hc54_1⟩
  ·
    show own_Fin _ _ _ _ _ _ (s₁.setTop (mkF m 54 #[.val (.int p1), .val (.float f), .val (.int (2 : Int32))] [(.int (own_G p1 f (2 : Int32)))]))
    refine own_to (fun t k => XS.ifYes X0.here hx rfl (pc0 := 54) (pc' := 64) rfl (hb hby own_d2_54) rfl ((if0 _ _).trans (flt hc54_1).2.1) (by decide) (by decide) k) ?_
    show own_Fin _ _ _ _ _ _ (s₁.setTop (mkF m 64 #[.val (.int p1), .val (.float f), .val (.int (2 : Int32))] []))
    refine own_to (fun t k => XS.iloadN X0.here hx rfl (hb hby own_d2_64) rfl k) ?_
    show own_Fin _ _ _ _ _ _ (s₁.setTop (mkF m 65 #[.val (.int p1), .val (.float f), .val (.int (2 : Int32))] [(.int (2 : Int32))]))
    refine own_retI X0 hx hlk hret (hb hby own_d2_65) (by decide) (by decide) ?_
    try rw [e0]
    exact ⟨(2 : Int32), rfl, N0, rfl, by decide, by decide, by decide, fun _ => hc54_1, fun q => absurd rfl q⟩
def own_max (p1 : Int32) (p2 : Int32) : Int32 := (if p1 < p2 then p2 else p1)
theorem own_d3_0 : decode jdk_29_method_65_code 0 = .ok (.iload_n 0, 1) := by decide +kernel
theorem own_d3_1 : decode jdk_29_method_65_code 1 = .ok (.iload_n 1, 1) := by decide +kernel
theorem own_d3_2 : decode jdk_29_method_65_code 2 = .ok (.if_icmp .lt 7, 3) := by decide +kernel
theorem own_d3_5 : decode jdk_29_method_65_code 5 = .ok (.iload_n 0, 1) := by decide +kernel
theorem own_d3_6 : decode jdk_29_method_65_code 6 = .ok (.goto 4, 3) := by decide +kernel
theorem own_d3_9 : decode jdk_29_method_65_code 9 = .ok (.iload_n 1, 1) := by decide +kernel
theorem own_d3_10 : decode jdk_29_method_65_code 10 = .ok (.ireturn, 1) := by decide +kernel
theorem own_rm3_ef (m : MethodId) (p1 : Int32) (p2 : Int32) : entryFrame m #[(.int p1), (.int p2)] 2 = mkF m 0 #[.val (.int p1), .val (.int p2)] [] := by first | (simp [entryFrame, mkF, argsToLocals, Value.category]; done) | rfl
set_option maxRecDepth 65536 in
set_option maxHeartbeats 40000000 in
theorem own_rm3 (l : Launch) (Z : State) (a0 : Array Value) (hw : ∀ d ∈ tables_1, d.before a0 Z = true) (ws : List Jvm.Cond) (p1 : Int32) (p2 : Int32) (h0 : Heap) (n0 : Nat) (Z0 : n0 ≤ h0.size) :
    own_Met l Z (⟨"java/lang/Math", "max", "(II)I"⟩ : MethodName) jdk_29_method_65_code 2 (some .int) ws ({ frames := 0, cells := 0, slots := 0, locals := 0 } : Room) #[(.int p1), (.int p2)] h0 (fun v h L => v = some (.int (own_max p1 p2)) ∧ Fr n0 L ∧ h = h0) := by
  refine own_enter (Jvm.Free.JP.mathPlain rfl (by decide +kernel)) ?_
  intro p e s m below meth c s₁ X0 hx hZ hby hml hown hnm hret hlk e0
  have N0 := Fr.nil n0
  rw [own_rm3_ef m p1 p2]
  show own_Fin _ _ _ _ _ _ (s₁.setTop (mkF m 0 #[.val (.int p1), .val (.int p2)] []))
  refine own_to (fun t k => XS.iloadN X0.here hx rfl (hb hby own_d3_0) rfl k) ?_
  show own_Fin _ _ _ _ _ _ (s₁.setTop (mkF m 1 #[.val (.int p1), .val (.int p2)] [(.int p1)]))
  refine own_to (fun t k => XS.iloadN X0.here hx rfl (hb hby own_d3_1) rfl k) ?_
  show own_Fin _ _ _ _ _ _ (s₁.setTop (mkF m 2 #[.val (.int p1), .val (.int p2)] [(.int p2), (.int p1)]))
  by_cases hc2_30 : p1 < p2
  ·
    show own_Fin _ _ _ _ _ _ (s₁.setTop (mkF m 2 #[.val (.int p1), .val (.int p2)] [(.int p2), (.int p1)]))
    refine own_to (fun t k => XS.icmpYes X0.here hx rfl (pc0 := 2) (pc' := 9) rfl (hb hby own_d3_2) rfl (tlt hc2_30).1 (by decide) (by decide) k) ?_
    show own_Fin _ _ _ _ _ _ (s₁.setTop (mkF m 9 #[.val (.int p1), .val (.int p2)] []))
    refine own_to (fun t k => XS.iloadN X0.here hx rfl (hb hby own_d3_9) rfl k) ?_
    show own_Fin _ _ _ _ _ _ (s₁.setTop (mkF m 10 #[.val (.int p1), .val (.int p2)] [(.int p2)]))
    refine own_retI X0 hx hlk hret (hb hby own_d3_10) (by decide) (by decide) ?_
    try rw [e0]
    exact ⟨congrArg (fun z => some (Value.int z)) (Eq.symm (show own_max p1 p2 = _ from ((if_pos hc2_30).trans rfl))), N0, rfl⟩
  ·
    show own_Fin _ _ _ _ _ _ (s₁.setTop (mkF m 2 #[.val (.int p1), .val (.int p2)] [(.int p2), (.int p1)]))
    refine own_to (fun t k => XS.icmpNo X0.here hx rfl (hb hby own_d3_2) rfl (flt hc2_30).1 k) ?_
    show own_Fin _ _ _ _ _ _ (s₁.setTop (mkF m 5 #[.val (.int p1), .val (.int p2)] []))
    refine own_to (fun t k => XS.iloadN X0.here hx rfl (hb hby own_d3_5) rfl k) ?_
    show own_Fin _ _ _ _ _ _ (s₁.setTop (mkF m 6 #[.val (.int p1), .val (.int p2)] [(.int p1)]))
    refine own_to (fun t k => XS.goto X0.here hx rfl (pc0 := 6) (pc' := 10) rfl (hb hby own_d3_6) (by decide) (by decide) k) ?_
    show own_Fin _ _ _ _ _ _ (s₁.setTop (mkF m 10 #[.val (.int p1), .val (.int p2)] [(.int p1)]))
    refine own_retI X0 hx hlk hret (hb hby own_d3_10) (by decide) (by decide) ?_
    try rw [e0]
    exact ⟨congrArg (fun z => some (Value.int z)) (Eq.symm (show own_max p1 p2 = _ from ((if_neg hc2_30).trans rfl))), N0, rfl⟩
theorem own_neg {p : Int32} (h : ¬ p < (1 : Int32)) : ¬ p < (0 : Int32) := by
  rw [own_lt32, show (1 : Int32).toInt = 1 from by decide] at h; rw [own_lt32, Int32.toInt_zero]; omega
theorem own_d1_0 : decode prog_6_method_3_code 0 = .ok (.iload_n 2, 1) := by decide +kernel
theorem own_d1_1 : decode prog_6_method_3_code 1 = .ok (.iconst 1, 1) := by decide +kernel
theorem own_d1_2 : decode prog_6_method_3_code 2 = .ok (.if_icmp .ge 17, 3) := by decide +kernel
theorem own_d1_5 : decode prog_6_method_3_code 5 = .ok (.new 7, 3) := by decide +kernel
theorem own_d1_8 : decode prog_6_method_3_code 8 = .ok (.dup, 1) := by decide +kernel
theorem own_d1_9 : decode prog_6_method_3_code 9 = .ok (.iload_n 2, 1) := by decide +kernel
theorem own_d1_15 : decode prog_6_method_3_code 15 = .ok (.invokespecial 13, 3) := by decide +kernel
theorem own_d1_18 : decode prog_6_method_3_code 18 = .ok (.athrow, 1) := by decide +kernel
theorem own_d1_19 : decode prog_6_method_3_code 19 = .ok (.iload_n 0, 1) := by decide +kernel
theorem own_d1_20 : decode prog_6_method_3_code 20 = .ok (.fload_n 1, 1) := by decide +kernel
theorem own_d1_21 : decode prog_6_method_3_code 21 = .ok (.invokestatic 23, 3) := by decide +kernel
theorem own_d1_24 : decode prog_6_method_3_code 24 = .ok (.istore_n 3, 1) := by decide +kernel
theorem own_d1_25 : decode prog_6_method_3_code 25 = .ok (.iload_n 2, 1) := by decide +kernel
theorem own_d1_26 : decode prog_6_method_3_code 26 = .ok (.iload_n 0, 1) := by decide +kernel
theorem own_d1_27 : decode prog_6_method_3_code 27 = .ok (.if_icmp .le 11, 3) := by decide +kernel
theorem own_d1_30 : decode prog_6_method_3_code 30 = .ok (.iload_n 2, 1) := by decide +kernel
theorem own_d1_31 : decode prog_6_method_3_code 31 = .ok (.fload_n 1, 1) := by decide +kernel
theorem own_d1_32 : decode prog_6_method_3_code 32 = .ok (.invokestatic 23, 3) := by decide +kernel
theorem own_d1_35 : decode prog_6_method_3_code 35 = .ok (.goto 4, 3) := by decide +kernel
theorem own_d1_38 : decode prog_6_method_3_code 38 = .ok (.iload_n 3, 1) := by decide +kernel
theorem own_d1_39 : decode prog_6_method_3_code 39 = .ok (.ireturn, 1) := by decide +kernel
theorem own_pd0 : parseMethodDescriptor "(IF)I" = some ⟨[.int, .float], some .int⟩ := by decide +kernel
theorem own_rm1_ef (m : MethodId) (p1 : Int32) (f : UInt32) (p2 : Int32) : entryFrame m #[(.int p1), (.float f), (.int p2)] 4 = mkF m 0 #[.val (.int p1), .val (.float f), .val (.int p2), .unset] [] := by first | (simp [entryFrame, mkF, argsToLocals, Value.category]; done) | rfl
set_option maxRecDepth 65536 in
set_option maxHeartbeats 40000000 in
theorem own_rm1 (l : Launch) (Z : State) (a0 : Array Value) (hw : ∀ d ∈ tables_1, d.before a0 Z = true) (ws : List Jvm.Cond) (p1 : Int32) (f : UInt32) (p2 : Int32) (h0 : Heap) (n0 : Nat) (Z0 : n0 ≤ h0.size) (hc : ¬ p1 < (0 : Int32)) (hF : own_F f) (hl : ¬ p2 < (1 : Int32)) :
    own_Met l Z (⟨"com/example/stripeline/stripeline/Sizing", "tableLength", "(IFI)I"⟩ : MethodName) prog_6_method_3_code 4 (some .int) ws ({ frames := 1, cells := 0, slots := 0, locals := 24 } : Room) #[(.int p1), (.float f), (.int p2)] h0 (fun v h L => ∃ n, v = some (.int n) ∧ Fr n0 L ∧ h = h0 ∧ own_T (own_max p1 p2) f n) := by
  refine own_enter (plainFor_of_name own_pn0) ?_
  intro p e s m below meth c s₁ X0 hx hZ hby hml hown hnm hret hlk e0
  have N0 := Fr.nil n0
  rw [own_rm1_ef m p1 f p2]
  show own_Fin _ _ _ _ _ _ (s₁.setTop (mkF m 0 #[.val (.int p1), .val (.float f), .val (.int p2), .unset] []))
  refine own_to (fun t k => XS.iloadN X0.here hx rfl (hb hby own_d1_0) rfl k) ?_
  show own_Fin _ _ _ _ _ _ (s₁.setTop (mkF m 1 #[.val (.int p1), .val (.float f), .val (.int p2), .unset] [(.int p2)]))
  refine own_to (fun t k => XS.iconst X0.here hx rfl (hb hby own_d1_1) k) ?_
  show own_Fin _ _ _ _ _ _ (s₁.setTop (mkF m 2 #[.val (.int p1), .val (.float f), .val (.int p2), .unset] [(.int (1 : Int32)), (.int p2)]))
  refine own_to (fun t k => XS.icmpYes X0.here hx rfl (pc0 := 2) (pc' := 19) rfl (hb hby own_d1_2) rfl (flt hl).2.1 (by decide) (by decide) k) ?_
  show own_Fin _ _ _ _ _ _ (s₁.setTop (mkF m 19 #[.val (.int p1), .val (.float f), .val (.int p2), .unset] []))
  refine own_to (fun t k => XS.iloadN X0.here hx rfl (hb hby own_d1_19) rfl k) ?_
  show own_Fin _ _ _ _ _ _ (s₁.setTop (mkF m 20 #[.val (.int p1), .val (.float f), .val (.int p2), .unset] [(.int p1)]))
  refine own_to (fun t k => XS.floadN X0.here hx rfl (hb hby own_d1_20) rfl k) ?_
  show own_Fin _ _ _ _ _ _ (s₁.setTop (mkF m 21 #[.val (.int p1), .val (.float f), .val (.int p2), .unset] [(.float f), (.int p1)]))
  obtain ⟨_, _, ⟨T31, L31, k31, n31⟩, -, X31, ⟨Lc31, hQ31, l31, y31, z31⟩, st31⟩ := Jvm.LawKit.callS X0 hx (y := (⟨"com/example/stripeline/stripeline/Sizing", "tableLength", "(IF)I"⟩ : MethodName)) hown (mvT hZ (hw _ (List.mem_of_getElem? (i := 5) rfl))) (mvT hZ (hw _ (List.mem_of_getElem? (i := 6) rfl))) (mvT hZ (hw _ (List.mem_of_getElem? (i := 3) rfl))) (mvT hZ (hw _ (List.mem_of_getElem? (i := 7) rfl))) (by decide) (own_back (W := 0) (own_tl l Z a0 hw [] p1 f h0 n0 Z0 hc hF) hZ (hw _ (List.mem_of_getElem? (i := 7) rfl)) (hw _ (List.mem_of_getElem? (i := 3) rfl)) (by decide) (by decide)) (g := (mkF m 21 #[.val (.int p1), .val (.float f), .val (.int p2), .unset] [(.float f), (.int p1)])) rfl (by rw [hml]; rfl) (argsL := [(.int p1), (.float f)]) (rest := []) (lenOf own_pd0 rfl) rfl (by show 2 * 0 + _ ≤ _; exact Nat.le_of_eq rfl) (hb hby own_d1_21) (fun _ _ => ⟨rfl, e0, (by decide : 0 + 0 ≤ _), (by decide : 0 + 0 ≤ _)⟩)
  dsimp only [Pt.U, Pt.locs, Pt.cells, Pt.slots] at X31 l31 y31 z31 st31 hQ31
  subst l31 y31 z31
  obtain ⟨n31, rfl, N31q, eh31, hT31⟩ := hQ31
  have N31 := Fr.app N0 N31q
  refine own_to (fun t k => st31 t k) ?_
  show own_Fin _ _ _ _ _ _ (T31.setTop (mkF m 24 #[.val (.int p1), .val (.float f), .val (.int p2), .unset] [(.int n31)]))
  refine own_to (fun t k => XS.istoreN X31.here hx rfl (hb hby own_d1_24) rfl (l' := #[.val (.int p1), .val (.float f), .val (.int p2), .val (.int n31)]) rfl k) ?_
  show own_Fin _ _ _ _ _ _ (T31.setTop (mkF m 25 #[.val (.int p1), .val (.float f), .val (.int p2), .val (.int n31)] []))
  refine own_to (fun t k => XS.iloadN X31.here hx rfl (hb hby own_d1_25) rfl k) ?_
  show own_Fin _ _ _ _ _ _ (T31.setTop (mkF m 26 #[.val (.int p1), .val (.float f), .val (.int p2), .val (.int n31)] [(.int p2)]))
  refine own_to (fun t k => XS.iloadN X31.here hx rfl (hb hby own_d1_26) rfl k) ?_
  show own_Fin _ _ _ _ _ _ (T31.setTop (mkF m 27 #[.val (.int p1), .val (.float f), .val (.int p2), .val (.int n31)] [(.int p1), (.int p2)]))
  by_cases hc27_32 : p1 < p2
  ·
    show own_Fin _ _ _ _ _ _ (T31.setTop (mkF m 27 #[.val (.int p1), .val (.float f), .val (.int p2), .val (.int n31)] [(.int p1), (.int p2)]))
    refine own_to (fun t k => XS.icmpNo X31.here hx rfl (hb hby own_d1_27) rfl (tlt hc27_32).2.2.2 k) ?_
    show own_Fin _ _ _ _ _ _ (T31.setTop (mkF m 30 #[.val (.int p1), .val (.float f), .val (.int p2), .val (.int n31)] []))
    refine own_to (fun t k => XS.iloadN X31.here hx rfl (hb hby own_d1_30) rfl k) ?_
    show own_Fin _ _ _ _ _ _ (T31.setTop (mkF m 31 #[.val (.int p1), .val (.float f), .val (.int p2), .val (.int n31)] [(.int p2)]))
    refine own_to (fun t k => XS.floadN X31.here hx rfl (hb hby own_d1_31) rfl k) ?_
    show own_Fin _ _ _ _ _ _ (T31.setTop (mkF m 32 #[.val (.int p1), .val (.float f), .val (.int p2), .val (.int n31)] [(.float f), (.int p2)]))
    obtain ⟨_, _, ⟨T33, L33, k33, n33⟩, -, X33, ⟨Lc33, hQ33, l33, y33, z33⟩, st33⟩ := Jvm.LawKit.callS X31 hx (y := (⟨"com/example/stripeline/stripeline/Sizing", "tableLength", "(IF)I"⟩ : MethodName)) hown (mvT hZ (hw _ (List.mem_of_getElem? (i := 5) rfl))) (mvT hZ (hw _ (List.mem_of_getElem? (i := 6) rfl))) (mvT hZ (hw _ (List.mem_of_getElem? (i := 3) rfl))) (mvT hZ (hw _ (List.mem_of_getElem? (i := 7) rfl))) (by decide) (own_back (W := 0) (own_tl l Z a0 hw [] p2 f h0 n0 Z0 (own_neg hl) hF) hZ (hw _ (List.mem_of_getElem? (i := 7) rfl)) (hw _ (List.mem_of_getElem? (i := 3) rfl)) (by decide) (by decide)) (g := (mkF m 32 #[.val (.int p1), .val (.float f), .val (.int p2), .val (.int n31)] [(.float f), (.int p2)])) rfl (by rw [hml]; rfl) (argsL := [(.int p2), (.float f)]) (rest := []) (lenOf own_pd0 rfl) rfl (by show 2 * 0 + _ ≤ _; exact Nat.le_of_eq rfl) (hb hby own_d1_32) (fun _ _ => ⟨rfl, eh31, (by decide : 0 + 0 ≤ _), (by decide : 0 + 0 ≤ _)⟩)
    dsimp only [Pt.U, Pt.locs, Pt.cells, Pt.slots] at X33 l33 y33 z33 st33 hQ33
    subst l33 y33 z33
    obtain ⟨n33, rfl, N33q, eh33, hT33⟩ := hQ33
    have N33 := Fr.app N31 N33q
    refine own_to (fun t k => st33 t k) ?_
    show own_Fin _ _ _ _ _ _ (T33.setTop (mkF m 35 #[.val (.int p1), .val (.float f), .val (.int p2), .val (.int n31)] [(.int n33)]))
    refine own_to (fun t k => XS.goto X33.here hx rfl (pc0 := 35) (pc' := 39) rfl (hb hby own_d1_35) (by decide) (by decide) k) ?_
    show own_Fin _ _ _ _ _ _ (T33.setTop (mkF m 39 #[.val (.int p1), .val (.float f), .val (.int p2), .val (.int n31)] [(.int n33)]))
    refine own_retI X33 hx hlk hret (hb hby own_d1_39) (by decide) (by decide) ?_
    try rw [eh33]
    exact ⟨n33, rfl, N33, rfl, by rw [show own_max p1 p2 = p2 from if_pos hc27_32]; exact hT33⟩
  ·
    show own_Fin _ _ _ _ _ _ (T31.setTop (mkF m 27 #[.val (.int p1), .val (.float f), .val (.int p2), .val (.int n31)] [(.int p1), (.int p2)]))
    refine own_to (fun t k => XS.icmpYes X31.here hx rfl (pc0 := 27) (pc' := 38) rfl (hb hby own_d1_27) rfl (flt hc27_32).2.2.2 (by decide) (by decide) k) ?_
    show own_Fin _ _ _ _ _ _ (T31.setTop (mkF m 38 #[.val (.int p1), .val (.float f), .val (.int p2), .val (.int n31)] []))
    refine own_to (fun t k => XS.iloadN X31.here hx rfl (hb hby own_d1_38) rfl k) ?_
    show own_Fin _ _ _ _ _ _ (T31.setTop (mkF m 39 #[.val (.int p1), .val (.float f), .val (.int p2), .val (.int n31)] [(.int n31)]))
    refine own_retI X31 hx hlk hret (hb hby own_d1_39) (by decide) (by decide) ?_
    try rw [eh31]
    exact ⟨n31, rfl, N31, rfl, by rw [show own_max p1 p2 = p1 from if_neg hc27_32]; exact hT31⟩
theorem own_m31 (p : Int32) : ¬ (p &&& (2147483647 : Int32)) < (0 : Int32) := by
  have e : (p &&& (2147483647 : Int32)).toInt = p.toInt % 2 ^ 31 := Jvm.Kit.i32_mask p 2147483647 (k := 31) (by decide) (by decide)
  rw [own_lt32, Int32.toInt_zero, e]; omega
theorem own_one {x : Int32} (h : ¬ x < (0 : Int32)) (h0 : ¬ x = (0 : Int32)) : ¬ x < (1 : Int32) := by
  rw [own_lt32, Int32.toInt_zero] at h; rw [own_lt32, show (1 : Int32).toInt = 1 from by decide]
  have : x.toInt ≠ 0 := fun q => h0 (Int32.toInt_inj.mp q)
  omega
theorem own_aa (p : Int32) : 0 < (((p &&& (255 : Int32)) + (1 : Int32)).toInt64).toInt ∧ (((p &&& (255 : Int32)) + (1 : Int32)).toInt64).toInt < 16777216 := by
  have e : (p &&& (255 : Int32)).toInt = p.toInt % 2 ^ 8 := Jvm.Kit.i32_mask p 255 (k := 8) (by decide) (by decide)
  have h1 : (1 : Int32).toInt = 1 := by decide
  have e1 : ((p &&& (255 : Int32)) + (1 : Int32)).toInt = (p &&& (255 : Int32)).toInt + 1 := by rw [Jvm.Kit.i32_add (by rw [h1]; omega) (by rw [h1]; omega), h1]
  rw [Jvm.Kit.i64_of_i32, e1]; omega
theorem own_bb (p : Int32) : 0 < (((p &&& (15 : Int32)) + (1 : Int32)).toInt64).toInt ∧ (((p &&& (15 : Int32)) + (1 : Int32)).toInt64).toInt < 16777216 := by
  have e : (p &&& (15 : Int32)).toInt = p.toInt % 2 ^ 4 := Jvm.Kit.i32_mask p 15 (k := 4) (by decide) (by decide)
  have h1 : (1 : Int32).toInt = 1 := by decide
  have e1 : ((p &&& (15 : Int32)) + (1 : Int32)).toInt = (p &&& (15 : Int32)).toInt + 1 := by rw [Jvm.Kit.i32_add (by rw [h1]; omega) (by rw [h1]; omega), h1]
  rw [Jvm.Kit.i64_of_i32, e1]; omega
theorem own_pn1 : plainName "com/example/stripeline/stripeline/SizingTableLength421PinLaw" = true := by first | (simp [plainName, overriddenIn]; done) | decide +kernel
theorem own_pd1 : parseMethodDescriptor "(IFI)I" = some ⟨[.int, .float, .int], some .int⟩ := by decide +kernel
theorem own_pd2 : parseMethodDescriptor "(II)I" = some ⟨[.int, .int], some .int⟩ := by decide +kernel
theorem own_rm0_ef (m : MethodId) (p1 : Int32) (p2 : Int32) (p3 : Int32) (p4 : Int32) : entryFrame m #[(.int p1), (.int p2), (.int p3), (.int p4)] maxLocals = mkF m 0 #[.val (.int p1), .val (.int p2), .val (.int p3), .val (.int p4), .unset, .unset, .unset, .unset, .unset, .unset, .unset] [] := by first | (simp [entryFrame, mkF, argsToLocals, Value.category, maxLocals]; done) | rfl
set_option maxRecDepth 65536 in
set_option maxHeartbeats 40000000 in
theorem own_rm0 (l : Launch) (Z : State) (a0 : Array Value) (hw : ∀ d ∈ tables_1, d.before a0 Z = true) (ws : List Jvm.Cond) (p1 : Int32) (p2 : Int32) (p3 : Int32) (p4 : Int32) (h0 : Heap) (n0 : Nat) (Z0 : n0 ≤ h0.size) :
    own_Met l Z x code maxLocals ret ws room_1 #[(.int p1), (.int p2), (.int p3), (.int p4)] h0 (fun v h L => v = some (.int 1) ∧ Fr n0 L) := by
  refine own_enter (plainFor_of_name own_pn1) ?_
  intro p e s m below meth c s₁ X0 hx hZ hby hml hown hnm hret hlk e0
  have N0 := Fr.nil n0
  rw [own_rm0_ef m p1 p2 p3 p4]
  show own_Fin _ _ _ _ _ _ (s₁.setTop (mkF m 0 #[.val (.int p1), .val (.int p2), .val (.int p3), .val (.int p4), .unset, .unset, .unset, .unset, .unset, .unset, .unset] []))
  refine own_to (fun t k => XS.iloadN X0.here hx rfl (hb hby at_0) rfl k) ?_
  show own_Fin _ _ _ _ _ _ (s₁.setTop (mkF m 1 #[.val (.int p1), .val (.int p2), .val (.int p3), .val (.int p4), .unset, .unset, .unset, .unset, .unset, .unset, .unset] [(.int p1)]))
  refine own_to (fun t k => X0.ldcInt hx hown (mvT hZ (hw _ (List.mem_of_getElem? (i := 0) rfl))) (g := (mkF m 1 #[.val (.int p1), .val (.int p2), .val (.int p3), .val (.int p4), .unset, .unset, .unset, .unset, .unset, .unset, .unset] [(.int p1)])) rfl (hb hby at_1) _ k) ?_
  show own_Fin _ _ _ _ _ _ (s₁.setTop (mkF m 3 #[.val (.int p1), .val (.int p2), .val (.int p3), .val (.int p4), .unset, .unset, .unset, .unset, .unset, .unset, .unset] [(.int (2147483647 : Int32)), (.int p1)]))
  refine own_to (fun t k => XS.iand X0.here hx rfl (hb hby at_3) rfl k) ?_
  show own_Fin _ _ _ _ _ _ (s₁.setTop (mkF m 4 #[.val (.int p1), .val (.int p2), .val (.int p3), .val (.int p4), .unset, .unset, .unset, .unset, .unset, .unset, .unset] [(.int (p1 &&& (2147483647 : Int32)))]))
  refine own_to (fun t k => XS.istore X0.here hx rfl (hb hby at_4) rfl (l' := #[.val (.int p1), .val (.int p2), .val (.int p3), .val (.int p4), .val (.int (p1 &&& (2147483647 : Int32))), .unset, .unset, .unset, .unset, .unset, .unset]) rfl k) ?_
  show own_Fin _ _ _ _ _ _ (s₁.setTop (mkF m 6 #[.val (.int p1), .val (.int p2), .val (.int p3), .val (.int p4), .val (.int (p1 &&& (2147483647 : Int32))), .unset, .unset, .unset, .unset, .unset, .unset] []))
  refine own_to (fun t k => XS.iloadN X0.here hx rfl (hb hby at_6) rfl k) ?_
  show own_Fin _ _ _ _ _ _ (s₁.setTop (mkF m 7 #[.val (.int p1), .val (.int p2), .val (.int p3), .val (.int p4), .val (.int (p1 &&& (2147483647 : Int32))), .unset, .unset, .unset, .unset, .unset, .unset] [(.int p2)]))
  refine own_to (fun t k => X0.ldcInt hx hown (mvT hZ (hw _ (List.mem_of_getElem? (i := 0) rfl))) (g := (mkF m 7 #[.val (.int p1), .val (.int p2), .val (.int p3), .val (.int p4), .val (.int (p1 &&& (2147483647 : Int32))), .unset, .unset, .unset, .unset, .unset, .unset] [(.int p2)])) rfl (hb hby at_7) _ k) ?_
  show own_Fin _ _ _ _ _ _ (s₁.setTop (mkF m 9 #[.val (.int p1), .val (.int p2), .val (.int p3), .val (.int p4), .val (.int (p1 &&& (2147483647 : Int32))), .unset, .unset, .unset, .unset, .unset, .unset] [(.int (2147483647 : Int32)), (.int p2)]))
  refine own_to (fun t k => XS.iand X0.here hx rfl (hb hby at_9) rfl k) ?_
  show own_Fin _ _ _ _ _ _ (s₁.setTop (mkF m 10 #[.val (.int p1), .val (.int p2), .val (.int p3), .val (.int p4), .val (.int (p1 &&& (2147483647 : Int32))), .unset, .unset, .unset, .unset, .unset, .unset] [(.int (p2 &&& (2147483647 : Int32)))]))
  refine own_to (fun t k => XS.istore X0.here hx rfl (hb hby at_10) rfl (l' := #[.val (.int p1), .val (.int p2), .val (.int p3), .val (.int p4), .val (.int (p1 &&& (2147483647 : Int32))), .val (.int (p2 &&& (2147483647 : Int32))), .unset, .unset, .unset, .unset, .unset]) rfl k) ?_
  show own_Fin _ _ _ _ _ _ (s₁.setTop (mkF m 12 #[.val (.int p1), .val (.int p2), .val (.int p3), .val (.int p4), .val (.int (p1 &&& (2147483647 : Int32))), .val (.int (p2 &&& (2147483647 : Int32))), .unset, .unset, .unset, .unset, .unset] []))
  refine own_to (fun t k => XS.iload X0.here hx rfl (hb hby at_12) rfl k) ?_
  show own_Fin _ _ _ _ _ _ (s₁.setTop (mkF m 14 #[.val (.int p1), .val (.int p2), .val (.int p3), .val (.int p4), .val (.int (p1 &&& (2147483647 : Int32))), .val (.int (p2 &&& (2147483647 : Int32))), .unset, .unset, .unset, .unset, .unset] [(.int (p2 &&& (2147483647 : Int32)))]))
  by_cases hc14_34 : (p2 &&& (2147483647 : Int32)) = (0 : Int32)
  ·
    show own_Fin _ _ _ _ _ _ (s₁.setTop (mkF m 14 #[.val (.int p1), .val (.int p2), .val (.int p3), .val (.int p4), .val (.int (p1 &&& (2147483647 : Int32))), .val (.int (p2 &&& (2147483647 : Int32))), .unset, .unset, .unset, .unset, .unset] [(.int (p2 &&& (2147483647 : Int32)))]))
    refine own_to (fun t k => XS.ifNo X0.here hx rfl (hb hby at_14) rfl ((if0 _ _).trans (teq hc14_34).2) k) ?_
    show own_Fin _ _ _ _ _ _ (s₁.setTop (mkF m 17 #[.val (.int p1), .val (.int p2), .val (.int p3), .val (.int p4), .val (.int (p1 &&& (2147483647 : Int32))), .val (.int (p2 &&& (2147483647 : Int32))), .unset, .unset, .unset, .unset, .unset] []))
    refine own_to (fun t k => XS.iconst X0.here hx rfl (hb hby at_17) k) ?_
    show own_Fin _ _ _ _ _ _ (s₁.setTop (mkF m 18 #[.val (.int p1), .val (.int p2), .val (.int p3), .val (.int p4), .val (.int (p1 &&& (2147483647 : Int32))), .val (.int (p2 &&& (2147483647 : Int32))), .unset, .unset, .unset, .unset, .unset] [(.int (1 : Int32))]))
    refine own_to (fun t k => XS.istore X0.here hx rfl (hb hby at_18) rfl (l' := #[.val (.int p1), .val (.int p2), .val (.int p3), .val (.int p4), .val (.int (p1 &&& (2147483647 : Int32))), .val (.int (1 : Int32)), .unset, .unset, .unset, .unset, .unset]) rfl k) ?_
    show own_Fin _ _ _ _ _ _ (s₁.setTop (mkF m 20 #[.val (.int p1), .val (.int p2), .val (.int p3), .val (.int p4), .val (.int (p1 &&& (2147483647 : Int32))), .val (.int (1 : Int32)), .unset, .unset, .unset, .unset, .unset] []))
    refine own_to (fun t k => XS.iloadN X0.here hx rfl (hb hby at_20) rfl k) ?_
    show own_Fin _ _ _ _ _ _ (s₁.setTop (mkF m 21 #[.val (.int p1), .val (.int p2), .val (.int p3), .val (.int p4), .val (.int (p1 &&& (2147483647 : Int32))), .val (.int (1 : Int32)), .unset, .unset, .unset, .unset, .unset] [(.int p3)]))
    refine own_to (fun t k => XS.sipush X0.here hx rfl (hb hby at_21) k) ?_
    show own_Fin _ _ _ _ _ _ (s₁.setTop (mkF m 24 #[.val (.int p1), .val (.int p2), .val (.int p3), .val (.int p4), .val (.int (p1 &&& (2147483647 : Int32))), .val (.int (1 : Int32)), .unset, .unset, .unset, .unset, .unset] [(.int (255 : Int32)), (.int p3)]))
    refine own_to (fun t k => XS.iand X0.here hx rfl (hb hby at_24) rfl k) ?_
    show own_Fin _ _ _ _ _ _ (s₁.setTop (mkF m 25 #[.val (.int p1), .val (.int p2), .val (.int p3), .val (.int p4), .val (.int (p1 &&& (2147483647 : Int32))), .val (.int (1 : Int32)), .unset, .unset, .unset, .unset, .unset] [(.int (p3 &&& (255 : Int32)))]))
    refine own_to (fun t k => XS.iconst X0.here hx rfl (hb hby at_25) k) ?_
    show own_Fin _ _ _ _ _ _ (s₁.setTop (mkF m 26 #[.val (.int p1), .val (.int p2), .val (.int p3), .val (.int p4), .val (.int (p1 &&& (2147483647 : Int32))), .val (.int (1 : Int32)), .unset, .unset, .unset, .unset, .unset] [(.int (1 : Int32)), (.int (p3 &&& (255 : Int32)))]))
    refine own_to (fun t k => XS.iadd X0.here hx rfl (hb hby at_26) rfl k) ?_
    show own_Fin _ _ _ _ _ _ (s₁.setTop (mkF m 27 #[.val (.int p1), .val (.int p2), .val (.int p3), .val (.int p4), .val (.int (p1 &&& (2147483647 : Int32))), .val (.int (1 : Int32)), .unset, .unset, .unset, .unset, .unset] [(.int ((p3 &&& (255 : Int32)) + (1 : Int32)))]))
    refine own_to (fun t k => XS.i2fS X0.here hx rfl (hb hby at_27) rfl (i2f_w _) k) ?_
    show own_Fin _ _ _ _ _ _ (s₁.setTop (mkF m 28 #[.val (.int p1), .val (.int p2), .val (.int p3), .val (.int p4), .val (.int (p1 &&& (2147483647 : Int32))), .val (.int (1 : Int32)), .unset, .unset, .unset, .unset, .unset] [(.float (FP.l2f (((p3 &&& (255 : Int32)) + (1 : Int32)).toInt64)))]))
    refine own_to (fun t k => XS.iloadN X0.here hx rfl (hb hby at_28) rfl k) ?_
    show own_Fin _ _ _ _ _ _ (s₁.setTop (mkF m 29 #[.val (.int p1), .val (.int p2), .val (.int p3), .val (.int p4), .val (.int (p1 &&& (2147483647 : Int32))), .val (.int (1 : Int32)), .unset, .unset, .unset, .unset, .unset] [(.int p4), (.float (FP.l2f (((p3 &&& (255 : Int32)) + (1 : Int32)).toInt64)))]))
    refine own_to (fun t k => XS.bipush X0.here hx rfl (hb hby at_29) k) ?_
    show own_Fin _ _ _ _ _ _ (s₁.setTop (mkF m 31 #[.val (.int p1), .val (.int p2), .val (.int p3), .val (.int p4), .val (.int (p1 &&& (2147483647 : Int32))), .val (.int (1 : Int32)), .unset, .unset, .unset, .unset, .unset] [(.int (15 : Int32)), (.int p4), (.float (FP.l2f (((p3 &&& (255 : Int32)) + (1 : Int32)).toInt64)))]))
    refine own_to (fun t k => XS.iand X0.here hx rfl (hb hby at_31) rfl k) ?_
    show own_Fin _ _ _ _ _ _ (s₁.setTop (mkF m 32 #[.val (.int p1), .val (.int p2), .val (.int p3), .val (.int p4), .val (.int (p1 &&& (2147483647 : Int32))), .val (.int (1 : Int32)), .unset, .unset, .unset, .unset, .unset] [(.int (p4 &&& (15 : Int32))), (.float (FP.l2f (((p3 &&& (255 : Int32)) + (1 : Int32)).toInt64)))]))
    refine own_to (fun t k => XS.iconst X0.here hx rfl (hb hby at_32) k) ?_
    show own_Fin _ _ _ _ _ _ (s₁.setTop (mkF m 33 #[.val (.int p1), .val (.int p2), .val (.int p3), .val (.int p4), .val (.int (p1 &&& (2147483647 : Int32))), .val (.int (1 : Int32)), .unset, .unset, .unset, .unset, .unset] [(.int (1 : Int32)), (.int (p4 &&& (15 : Int32))), (.float (FP.l2f (((p3 &&& (255 : Int32)) + (1 : Int32)).toInt64)))]))
    refine own_to (fun t k => XS.iadd X0.here hx rfl (hb hby at_33) rfl k) ?_
    show own_Fin _ _ _ _ _ _ (s₁.setTop (mkF m 34 #[.val (.int p1), .val (.int p2), .val (.int p3), .val (.int p4), .val (.int (p1 &&& (2147483647 : Int32))), .val (.int (1 : Int32)), .unset, .unset, .unset, .unset, .unset] [(.int ((p4 &&& (15 : Int32)) + (1 : Int32))), (.float (FP.l2f (((p3 &&& (255 : Int32)) + (1 : Int32)).toInt64)))]))
    refine own_to (fun t k => XS.i2fS X0.here hx rfl (hb hby at_34) rfl (i2f_w _) k) ?_
    show own_Fin _ _ _ _ _ _ (s₁.setTop (mkF m 35 #[.val (.int p1), .val (.int p2), .val (.int p3), .val (.int p4), .val (.int (p1 &&& (2147483647 : Int32))), .val (.int (1 : Int32)), .unset, .unset, .unset, .unset, .unset] [(.float (FP.l2f (((p4 &&& (15 : Int32)) + (1 : Int32)).toInt64))), (.float (FP.l2f (((p3 &&& (255 : Int32)) + (1 : Int32)).toInt64)))]))
    have hF : own_F (FP.fdiv (FP.l2f (((p3 &&& (255 : Int32)) + (1 : Int32)).toInt64)) (FP.l2f (((p4 &&& (15 : Int32)) + (1 : Int32)).toInt64))) := ⟨own_ffin (own_bb p4).1, own_fq (own_aa p3).1 (own_aa p3).2 (own_bb p4).1 (own_bb p4).2⟩
    refine own_to (fun t k => XS.fdivS X0.here hx rfl (hb hby at_35) rfl hF.1.noNaN rfl k) ?_
    show own_Fin _ _ _ _ _ _ (s₁.setTop (mkF m 36 #[.val (.int p1), .val (.int p2), .val (.int p3), .val (.int p4), .val (.int (p1 &&& (2147483647 : Int32))), .val (.int (1 : Int32)), .unset, .unset, .unset, .unset, .unset] [(.float (FP.fdiv (FP.l2f (((p3 &&& (255 : Int32)) + (1 : Int32)).toInt64)) (FP.l2f (((p4 &&& (15 : Int32)) + (1 : Int32)).toInt64))))]))
    obtain ⟨f, ef⟩ : ∃ z, z = (FP.fdiv (FP.l2f (((p3 &&& (255 : Int32)) + (1 : Int32)).toInt64)) (FP.l2f (((p4 &&& (15 : Int32)) + (1 : Int32)).toInt64))) := ⟨_, rfl⟩
    rw [← ef] at hF ⊢
    show own_Fin _ _ _ _ _ _ (s₁.setTop (mkF m 36 #[.val (.int p1), .val (.int p2), .val (.int p3), .val (.int p4), .val (.int (p1 &&& (2147483647 : Int32))), .val (.int (1 : Int32)), .unset, .unset, .unset, .unset, .unset] [(.float f)]))
    have hl : ¬ (1 : Int32) < (1 : Int32) := by decide
    obtain ⟨lv, el⟩ : ∃ z, z = (1 : Int32) := ⟨_, rfl⟩
    show own_Fin _ _ _ _ _ _ (s₁.setTop (mkF m 36 #[.val (.int p1), .val (.int p2), .val (.int p3), .val (.int p4), .val (.int (p1 &&& (2147483647 : Int32))), .val (.int (1 : Int32)), .unset, .unset, .unset, .unset, .unset] [(.float f)]))
    rw [← el] at hl
    have hc := own_m31 p1
    obtain ⟨cp, ec⟩ : ∃ z, z = (p1 &&& (2147483647 : Int32)) := ⟨_, rfl⟩
    rw [← ec] at hc ⊢
    show own_Fin _ _ _ _ _ _ (s₁.setTop (mkF m 36 #[.val (.int p1), .val (.int p2), .val (.int p3), .val (.int p4), .val (.int cp), .val (.int (1 : Int32)), .unset, .unset, .unset, .unset, .unset] [(.float f)]))
    refine own_to (fun t k => XS.fstore X0.here hx rfl (hb hby at_36) rfl (l' := #[.val (.int p1), .val (.int p2), .val (.int p3), .val (.int p4), .val (.int cp), .val (.int (1 : Int32)), .val (.float f), .unset, .unset, .unset, .unset]) rfl k) ?_
    show own_Fin _ _ _ _ _ _ (s₁.setTop (mkF m 38 #[.val (.int p1), .val (.int p2), .val (.int p3), .val (.int p4), .val (.int cp), .val (.int (1 : Int32)), .val (.float f), .unset, .unset, .unset, .unset] []))
    refine own_to (fun t k => XS.iload X0.here hx rfl (hb hby at_38) rfl k) ?_
    show own_Fin _ _ _ _ _ _ (s₁.setTop (mkF m 40 #[.val (.int p1), .val (.int p2), .val (.int p3), .val (.int p4), .val (.int cp), .val (.int (1 : Int32)), .val (.float f), .unset, .unset, .unset, .unset] [(.int cp)]))
    refine own_to (fun t k => XS.fload X0.here hx rfl (hb hby at_40) rfl k) ?_
    show own_Fin _ _ _ _ _ _ (s₁.setTop (mkF m 42 #[.val (.int p1), .val (.int p2), .val (.int p3), .val (.int p4), .val (.int cp), .val (.int (1 : Int32)), .val (.float f), .unset, .unset, .unset, .unset] [(.float f), (.int cp)]))
    refine own_to (fun t k => XS.iload X0.here hx rfl (hb hby at_42) rfl k) ?_
    show own_Fin _ _ _ _ _ _ (s₁.setTop (mkF m 44 #[.val (.int p1), .val (.int p2), .val (.int p3), .val (.int p4), .val (.int cp), .val (.int (1 : Int32)), .val (.float f), .unset, .unset, .unset, .unset] [(.int (1 : Int32)), (.float f), (.int cp)]))
    obtain ⟨_, _, ⟨T35, L35, k35, n35⟩, -, X35, ⟨Lc35, hQ35, l35, y35, z35⟩, st35⟩ := Jvm.LawKit.callS X0 hx (y := (⟨"com/example/stripeline/stripeline/Sizing", "tableLength", "(IFI)I"⟩ : MethodName)) hown (mvT hZ (hw _ (List.mem_of_getElem? (i := 1) rfl))) (mvT hZ (hw _ (List.mem_of_getElem? (i := 2) rfl))) (mvT hZ (hw _ (List.mem_of_getElem? (i := 3) rfl))) (mvT hZ (hw _ (List.mem_of_getElem? (i := 4) rfl))) (by decide) (own_back (W := 0) (own_rm1 l Z a0 hw [] cp f (1 : Int32) h0 n0 Z0 hc hF (el ▸ hl)) hZ (hw _ (List.mem_of_getElem? (i := 4) rfl)) (hw _ (List.mem_of_getElem? (i := 3) rfl)) (by decide) (by decide)) (g := (mkF m 44 #[.val (.int p1), .val (.int p2), .val (.int p3), .val (.int p4), .val (.int cp), .val (.int (1 : Int32)), .val (.float f), .unset, .unset, .unset, .unset] [(.int (1 : Int32)), (.float f), (.int cp)])) rfl (by rw [hml]; rfl) (argsL := [(.int cp), (.float f), (.int (1 : Int32))]) (rest := []) (lenOf own_pd1 rfl) rfl (by show 2 * 0 + _ ≤ _; exact Nat.le_of_eq rfl) (hb hby at_44) (fun _ _ => ⟨rfl, e0, (by decide : 0 + 0 ≤ _), (by decide : 0 + 0 ≤ _)⟩)
    dsimp only [Pt.U, Pt.locs, Pt.cells, Pt.slots] at X35 l35 y35 z35 st35 hQ35
    subst l35 y35 z35
    obtain ⟨n, rfl, N35q, eh35, hT⟩ := hQ35
    have N35 := Fr.app N0 N35q
    refine own_to (fun t k => st35 t k) ?_
    show own_Fin _ _ _ _ _ _ (T35.setTop (mkF m 47 #[.val (.int p1), .val (.int p2), .val (.int p3), .val (.int p4), .val (.int cp), .val (.int (1 : Int32)), .val (.float f), .unset, .unset, .unset, .unset] [(.int n)]))
    obtain ⟨mx, em⟩ : ∃ z, z = own_max cp (1 : Int32) := ⟨_, rfl⟩
    rw [← em] at hT
    obtain ⟨t1, t2, t3, t4, t5⟩ := hT
    refine own_to (fun t k => XS.istore X35.here hx rfl (hb hby at_47) rfl (l' := #[.val (.int p1), .val (.int p2), .val (.int p3), .val (.int p4), .val (.int cp), .val (.int (1 : Int32)), .val (.float f), .val (.int n), .unset, .unset, .unset]) rfl k) ?_
    show own_Fin _ _ _ _ _ _ (T35.setTop (mkF m 49 #[.val (.int p1), .val (.int p2), .val (.int p3), .val (.int p4), .val (.int cp), .val (.int (1 : Int32)), .val (.float f), .val (.int n), .unset, .unset, .unset] []))
    refine own_to (fun t k => XS.iload X35.here hx rfl (hb hby at_49) rfl k) ?_
    show own_Fin _ _ _ _ _ _ (T35.setTop (mkF m 51 #[.val (.int p1), .val (.int p2), .val (.int p3), .val (.int p4), .val (.int cp), .val (.int (1 : Int32)), .val (.float f), .val (.int n), .unset, .unset, .unset] [(.int cp)]))
    refine own_to (fun t k => XS.iload X35.here hx rfl (hb hby at_51) rfl k) ?_
    show own_Fin _ _ _ _ _ _ (T35.setTop (mkF m 53 #[.val (.int p1), .val (.int p2), .val (.int p3), .val (.int p4), .val (.int cp), .val (.int (1 : Int32)), .val (.float f), .val (.int n), .unset, .unset, .unset] [(.int (1 : Int32)), (.int cp)]))
    obtain ⟨_, _, ⟨T36, L36, k36, n36⟩, -, X36, ⟨Lc36, hQ36, l36, y36, z36⟩, st36⟩ := Jvm.LawKit.callS X35 hx (y := (⟨"java/lang/Math", "max", "(II)I"⟩ : MethodName)) hown (mvT hZ (hw _ (List.mem_of_getElem? (i := 9) rfl))) (mvT hZ (hw _ (List.mem_of_getElem? (i := 10) rfl))) (mvT hZ (hw _ (List.mem_of_getElem? (i := 11) rfl))) (mvT hZ (hw _ (List.mem_of_getElem? (i := 12) rfl))) (by decide) (own_back (W := 0) (own_rm3 l Z a0 hw [] cp (1 : Int32) h0 n0 Z0) hZ (hw _ (List.mem_of_getElem? (i := 12) rfl)) (hw _ (List.mem_of_getElem? (i := 11) rfl)) (by decide) (by decide)) (g := (mkF m 53 #[.val (.int p1), .val (.int p2), .val (.int p3), .val (.int p4), .val (.int cp), .val (.int (1 : Int32)), .val (.float f), .val (.int n), .unset, .unset, .unset] [(.int (1 : Int32)), (.int cp)])) rfl (by rw [hml]; rfl) (argsL := [(.int cp), (.int (1 : Int32))]) (rest := []) (lenOf own_pd2 rfl) rfl (by show 2 * 0 + _ ≤ _; exact Nat.le_of_eq rfl) (hb hby at_53) (fun _ _ => ⟨rfl, eh35, (by decide : 0 + 0 ≤ _), (by decide : 0 + 0 ≤ _)⟩)
    dsimp only [Pt.U, Pt.locs, Pt.cells, Pt.slots] at X36 l36 y36 z36 st36 hQ36
    subst l36 y36 z36
    obtain ⟨rfl, N36q, eh36⟩ := hQ36
    have N36 := Fr.app N35 N36q
    refine own_to (fun t k => st36 t k) ?_
    show own_Fin _ _ _ _ _ _ (T36.setTop (mkF m 56 #[.val (.int p1), .val (.int p2), .val (.int p3), .val (.int p4), .val (.int cp), .val (.int (1 : Int32)), .val (.float f), .val (.int n), .unset, .unset, .unset] [(.int (own_max cp (1 : Int32)))]))
    rw [← em]
    show own_Fin _ _ _ _ _ _ (T36.setTop (mkF m 56 #[.val (.int p1), .val (.int p2), .val (.int p3), .val (.int p4), .val (.int cp), .val (.int (1 : Int32)), .val (.float f), .val (.int n), .unset, .unset, .unset] [(.int mx)]))
    refine own_to (fun t k => XS.istore X36.here hx rfl (hb hby at_56) rfl (l' := #[.val (.int p1), .val (.int p2), .val (.int p3), .val (.int p4), .val (.int cp), .val (.int (1 : Int32)), .val (.float f), .val (.int n), .val (.int mx), .unset, .unset]) rfl k) ?_
    show own_Fin _ _ _ _ _ _ (T36.setTop (mkF m 58 #[.val (.int p1), .val (.int p2), .val (.int p3), .val (.int p4), .val (.int cp), .val (.int (1 : Int32)), .val (.float f), .val (.int n), .val (.int mx), .unset, .unset] []))
    refine own_to (fun t k => XS.iload X36.here hx rfl (hb hby at_58) rfl k) ?_
    show own_Fin _ _ _ _ _ _ (T36.setTop (mkF m 60 #[.val (.int p1), .val (.int p2), .val (.int p3), .val (.int p4), .val (.int cp), .val (.int (1 : Int32)), .val (.float f), .val (.int n), .val (.int mx), .unset, .unset] [(.int n)]))
    refine own_to (fun t k => XS.iconst X36.here hx rfl (hb hby at_60) k) ?_
    show own_Fin _ _ _ _ _ _ (T36.setTop (mkF m 61 #[.val (.int p1), .val (.int p2), .val (.int p3), .val (.int p4), .val (.int cp), .val (.int (1 : Int32)), .val (.float f), .val (.int n), .val (.int mx), .unset, .unset] [(.int (2 : Int32)), (.int n)]))
    refine own_to (fun t k => XS.icmpNo X36.here hx rfl (hb hby at_61) rfl (flt t1).1 k) ?_
    show own_Fin _ _ _ _ _ _ (T36.setTop (mkF m 64 #[.val (.int p1), .val (.int p2), .val (.int p3), .val (.int p4), .val (.int cp), .val (.int (1 : Int32)), .val (.float f), .val (.int n), .val (.int mx), .unset, .unset] []))
    refine own_to (fun t k => XS.iload X36.here hx rfl (hb hby at_64) rfl k) ?_
    show own_Fin _ _ _ _ _ _ (T36.setTop (mkF m 66 #[.val (.int p1), .val (.int p2), .val (.int p3), .val (.int p4), .val (.int cp), .val (.int (1 : Int32)), .val (.float f), .val (.int n), .val (.int mx), .unset, .unset] [(.int n)]))
    refine own_to (fun t k => X36.ldcInt hx hown (mvT hZ (hw _ (List.mem_of_getElem? (i := 13) rfl))) (g := (mkF m 66 #[.val (.int p1), .val (.int p2), .val (.int p3), .val (.int p4), .val (.int cp), .val (.int (1 : Int32)), .val (.float f), .val (.int n), .val (.int mx), .unset, .unset] [(.int n)])) rfl (hb hby at_66) _ k) ?_
    show own_Fin _ _ _ _ _ _ (T36.setTop (mkF m 68 #[.val (.int p1), .val (.int p2), .val (.int p3), .val (.int p4), .val (.int cp), .val (.int (1 : Int32)), .val (.float f), .val (.int n), .val (.int mx), .unset, .unset] [(.int (1073741824 : Int32)), (.int n)]))
    refine own_to (fun t k => XS.icmpYes X36.here hx rfl (pc0 := 68) (pc' := 73) rfl (hb hby at_68) rfl (flt t2).2.2.2 (by decide) (by decide) k) ?_
    show own_Fin _ _ _ _ _ _ (T36.setTop (mkF m 73 #[.val (.int p1), .val (.int p2), .val (.int p3), .val (.int p4), .val (.int cp), .val (.int (1 : Int32)), .val (.float f), .val (.int n), .val (.int mx), .unset, .unset] []))
    refine own_to (fun t k => XS.iload X36.here hx rfl (hb hby at_73) rfl k) ?_
    show own_Fin _ _ _ _ _ _ (T36.setTop (mkF m 75 #[.val (.int p1), .val (.int p2), .val (.int p3), .val (.int p4), .val (.int cp), .val (.int (1 : Int32)), .val (.float f), .val (.int n), .val (.int mx), .unset, .unset] [(.int n)]))
    refine own_to (fun t k => XS.iload X36.here hx rfl (hb hby at_75) rfl k) ?_
    show own_Fin _ _ _ _ _ _ (T36.setTop (mkF m 77 #[.val (.int p1), .val (.int p2), .val (.int p3), .val (.int p4), .val (.int cp), .val (.int (1 : Int32)), .val (.float f), .val (.int n), .val (.int mx), .unset, .unset] [(.int n), (.int n)]))
    refine own_to (fun t k => XS.iconst X36.here hx rfl (hb hby at_77) k) ?_
    show own_Fin _ _ _ _ _ _ (T36.setTop (mkF m 78 #[.val (.int p1), .val (.int p2), .val (.int p3), .val (.int p4), .val (.int cp), .val (.int (1 : Int32)), .val (.float f), .val (.int n), .val (.int mx), .unset, .unset] [(.int (1 : Int32)), (.int n), (.int n)]))
    refine own_to (fun t k => XS.isub X36.here hx rfl (hb hby at_78) rfl k) ?_
    show own_Fin _ _ _ _ _ _ (T36.setTop (mkF m 79 #[.val (.int p1), .val (.int p2), .val (.int p3), .val (.int p4), .val (.int cp), .val (.int (1 : Int32)), .val (.float f), .val (.int n), .val (.int mx), .unset, .unset] [(.int (n - (1 : Int32))), (.int n)]))
    refine own_to (fun t k => XS.iand X36.here hx rfl (hb hby at_79) rfl k) ?_
    show own_Fin _ _ _ _ _ _ (T36.setTop (mkF m 80 #[.val (.int p1), .val (.int p2), .val (.int p3), .val (.int p4), .val (.int cp), .val (.int (1 : Int32)), .val (.float f), .val (.int n), .val (.int mx), .unset, .unset] [(.int (n &&& (n - (1 : Int32))))]))
    refine own_to (fun t k => XS.ifYes X36.here hx rfl (pc0 := 80) (pc' := 85) rfl (hb hby at_80) rfl ((if0 _ _).trans (teq t3).1) (by decide) (by decide) k) ?_
    show own_Fin _ _ _ _ _ _ (T36.setTop (mkF m 85 #[.val (.int p1), .val (.int p2), .val (.int p3), .val (.int p4), .val (.int cp), .val (.int (1 : Int32)), .val (.float f), .val (.int n), .val (.int mx), .unset, .unset] []))
    refine own_to (fun t k => XS.iload X36.here hx rfl (hb hby at_85) rfl k) ?_
    show own_Fin _ _ _ _ _ _ (T36.setTop (mkF m 87 #[.val (.int p1), .val (.int p2), .val (.int p3), .val (.int p4), .val (.int cp), .val (.int (1 : Int32)), .val (.float f), .val (.int n), .val (.int mx), .unset, .unset] [(.int n)]))
    refine own_to (fun t k => X36.ldcInt hx hown (mvT hZ (hw _ (List.mem_of_getElem? (i := 13) rfl))) (g := (mkF m 87 #[.val (.int p1), .val (.int p2), .val (.int p3), .val (.int p4), .val (.int cp), .val (.int (1 : Int32)), .val (.float f), .val (.int n), .val (.int mx), .unset, .unset] [(.int n)])) rfl (hb hby at_87) _ k) ?_
    show own_Fin _ _ _ _ _ _ (T36.setTop (mkF m 89 #[.val (.int p1), .val (.int p2), .val (.int p3), .val (.int p4), .val (.int cp), .val (.int (1 : Int32)), .val (.float f), .val (.int n), .val (.int mx), .unset, .unset] [(.int (1073741824 : Int32)), (.int n)]))
    by_cases hc89_37 : n = (1073741824 : Int32)
    ·
      show own_Fin _ _ _ _ _ _ (T36.setTop (mkF m 89 #[.val (.int p1), .val (.int p2), .val (.int p3), .val (.int p4), .val (.int cp), .val (.int (1 : Int32)), .val (.float f), .val (.int n), .val (.int mx), .unset, .unset] [(.int (1073741824 : Int32)), (.int n)]))
      refine own_to (fun t k => XS.icmpYes X36.here hx rfl (pc0 := 89) (pc' := 106) rfl (hb hby at_89) rfl (teq hc89_37).1 (by decide) (by decide) k) ?_
      show own_Fin _ _ _ _ _ _ (T36.setTop (mkF m 106 #[.val (.int p1), .val (.int p2), .val (.int p3), .val (.int p4), .val (.int cp), .val (.int (1 : Int32)), .val (.float f), .val (.int n), .val (.int mx), .unset, .unset] []))
      refine own_to (fun t k => XS.iconst X36.here hx rfl (hb hby at_106) k) ?_
      show own_Fin _ _ _ _ _ _ (T36.setTop (mkF m 107 #[.val (.int p1), .val (.int p2), .val (.int p3), .val (.int p4), .val (.int cp), .val (.int (1 : Int32)), .val (.float f), .val (.int n), .val (.int mx), .unset, .unset] [(.int (1 : Int32))]))
      refine own_to (fun t k => XS.goto X36.here hx rfl (pc0 := 107) (pc' := 111) rfl (hb hby at_107) (by decide) (by decide) k) ?_
      show own_Fin _ _ _ _ _ _ (T36.setTop (mkF m 111 #[.val (.int p1), .val (.int p2), .val (.int p3), .val (.int p4), .val (.int cp), .val (.int (1 : Int32)), .val (.float f), .val (.int n), .val (.int mx), .unset, .unset] [(.int (1 : Int32))]))
      refine own_to (fun t k => XS.istore X36.here hx rfl (hb hby at_111) rfl (l' := #[.val (.int p1), .val (.int p2), .val (.int p3), .val (.int p4), .val (.int cp), .val (.int (1 : Int32)), .val (.float f), .val (.int n), .val (.int mx), .val (.int (1 : Int32)), .unset]) rfl k) ?_
      show own_Fin _ _ _ _ _ _ (T36.setTop (mkF m 113 #[.val (.int p1), .val (.int p2), .val (.int p3), .val (.int p4), .val (.int cp), .val (.int (1 : Int32)), .val (.float f), .val (.int n), .val (.int mx), .val (.int (1 : Int32)), .unset] []))
      refine own_to (fun t k => XS.iload X36.here hx rfl (hb hby at_113) rfl k) ?_
      show own_Fin _ _ _ _ _ _ (T36.setTop (mkF m 115 #[.val (.int p1), .val (.int p2), .val (.int p3), .val (.int p4), .val (.int cp), .val (.int (1 : Int32)), .val (.float f), .val (.int n), .val (.int mx), .val (.int (1 : Int32)), .unset] [(.int n)]))
      refine own_to (fun t k => XS.iconst X36.here hx rfl (hb hby at_115) k) ?_
      show own_Fin _ _ _ _ _ _ (T36.setTop (mkF m 116 #[.val (.int p1), .val (.int p2), .val (.int p3), .val (.int p4), .val (.int cp), .val (.int (1 : Int32)), .val (.float f), .val (.int n), .val (.int mx), .val (.int (1 : Int32)), .unset] [(.int (2 : Int32)), (.int n)]))
      by_cases hc116_38 : n = (2 : Int32)
      ·
        show own_Fin _ _ _ _ _ _ (T36.setTop (mkF m 116 #[.val (.int p1), .val (.int p2), .val (.int p3), .val (.int p4), .val (.int cp), .val (.int (1 : Int32)), .val (.float f), .val (.int n), .val (.int mx), .val (.int (1 : Int32)), .unset] [(.int (2 : Int32)), (.int n)]))
        refine own_to (fun t k => XS.icmpYes X36.here hx rfl (pc0 := 116) (pc' := 135) rfl (hb hby at_116) rfl (teq hc116_38).1 (by decide) (by decide) k) ?_
        show own_Fin _ _ _ _ _ _ (T36.setTop (mkF m 135 #[.val (.int p1), .val (.int p2), .val (.int p3), .val (.int p4), .val (.int cp), .val (.int (1 : Int32)), .val (.float f), .val (.int n), .val (.int mx), .val (.int (1 : Int32)), .unset] []))
        refine own_to (fun t k => XS.iconst X36.here hx rfl (hb hby at_135) k) ?_
        show own_Fin _ _ _ _ _ _ (T36.setTop (mkF m 136 #[.val (.int p1), .val (.int p2), .val (.int p3), .val (.int p4), .val (.int cp), .val (.int (1 : Int32)), .val (.float f), .val (.int n), .val (.int mx), .val (.int (1 : Int32)), .unset] [(.int (1 : Int32))]))
        refine own_to (fun t k => XS.goto X36.here hx rfl (pc0 := 136) (pc' := 140) rfl (hb hby at_136) (by decide) (by decide) k) ?_
        show own_Fin _ _ _ _ _ _ (T36.setTop (mkF m 140 #[.val (.int p1), .val (.int p2), .val (.int p3), .val (.int p4), .val (.int cp), .val (.int (1 : Int32)), .val (.float f), .val (.int n), .val (.int mx), .val (.int (1 : Int32)), .unset] [(.int (1 : Int32))]))
        refine own_to (fun t k => XS.istore X36.here hx rfl (hb hby at_140) rfl (l' := #[.val (.int p1), .val (.int p2), .val (.int p3), .val (.int p4), .val (.int cp), .val (.int (1 : Int32)), .val (.float f), .val (.int n), .val (.int mx), .val (.int (1 : Int32)), .val (.int (1 : Int32))]) rfl k) ?_
        show own_Fin _ _ _ _ _ _ (T36.setTop (mkF m 142 #[.val (.int p1), .val (.int p2), .val (.int p3), .val (.int p4), .val (.int cp), .val (.int (1 : Int32)), .val (.float f), .val (.int n), .val (.int mx), .val (.int (1 : Int32)), .val (.int (1 : Int32))] []))
        refine own_to (fun t k => XS.iload X36.here hx rfl (hb hby at_142) rfl k) ?_
        show own_Fin _ _ _ _ _ _ (T36.setTop (mkF m 144 #[.val (.int p1), .val (.int p2), .val (.int p3), .val (.int p4), .val (.int cp), .val (.int (1 : Int32)), .val (.float f), .val (.int n), .val (.int mx), .val (.int (1 : Int32)), .val (.int (1 : Int32))] [(.int (1 : Int32))]))
        refine own_to (fun t k => XS.ifNo X36.here hx rfl (hb hby at_144) rfl ((if0 _ _).trans (feq (by decide)).1) k) ?_
        show own_Fin _ _ _ _ _ _ (T36.setTop (mkF m 147 #[.val (.int p1), .val (.int p2), .val (.int p3), .val (.int p4), .val (.int cp), .val (.int (1 : Int32)), .val (.float f), .val (.int n), .val (.int mx), .val (.int (1 : Int32)), .val (.int (1 : Int32))] []))
        refine own_to (fun t k => XS.iload X36.here hx rfl (hb hby at_147) rfl k) ?_
        show own_Fin _ _ _ _ _ _ (T36.setTop (mkF m 149 #[.val (.int p1), .val (.int p2), .val (.int p3), .val (.int p4), .val (.int cp), .val (.int (1 : Int32)), .val (.float f), .val (.int n), .val (.int mx), .val (.int (1 : Int32)), .val (.int (1 : Int32))] [(.int (1 : Int32))]))
        refine own_to (fun t k => XS.ifNo X36.here hx rfl (hb hby at_149) rfl ((if0 _ _).trans (feq (by decide)).1) k) ?_
        show own_Fin _ _ _ _ _ _ (T36.setTop (mkF m 152 #[.val (.int p1), .val (.int p2), .val (.int p3), .val (.int p4), .val (.int cp), .val (.int (1 : Int32)), .val (.float f), .val (.int n), .val (.int mx), .val (.int (1 : Int32)), .val (.int (1 : Int32))] []))
        refine own_to (fun t k => XS.iconst X36.here hx rfl (hb hby at_152) k) ?_
        show own_Fin _ _ _ _ _ _ (T36.setTop (mkF m 153 #[.val (.int p1), .val (.int p2), .val (.int p3), .val (.int p4), .val (.int cp), .val (.int (1 : Int32)), .val (.float f), .val (.int n), .val (.int mx), .val (.int (1 : Int32)), .val (.int (1 : Int32))] [(.int (1 : Int32))]))
        refine own_to (fun t k => XS.goto X36.here hx rfl (pc0 := 153) (pc' := 157) rfl (hb hby at_153) (by decide) (by decide) k) ?_
        show own_Fin _ _ _ _ _ _ (T36.setTop (mkF m 157 #[.val (.int p1), .val (.int p2), .val (.int p3), .val (.int p4), .val (.int cp), .val (.int (1 : Int32)), .val (.float f), .val (.int n), .val (.int mx), .val (.int (1 : Int32)), .val (.int (1 : Int32))] [(.int (1 : Int32))]))
        refine own_retN X36 hx hlk (t := .boolean) hret (by simp) (hb hby at_157) (by decide) (by decide) ?_
        try rw [eh36]
        exact ⟨rfl, N36⟩
      ·
        show own_Fin _ _ _ _ _ _ (T36.setTop (mkF m 116 #[.val (.int p1), .val (.int p2), .val (.int p3), .val (.int p4), .val (.int cp), .val (.int (1 : Int32)), .val (.float f), .val (.int n), .val (.int mx), .val (.int (1 : Int32)), .unset] [(.int (2 : Int32)), (.int n)]))
        refine own_to (fun t k => XS.icmpNo X36.here hx rfl (hb hby at_116) rfl (feq hc116_38).1 k) ?_
        show own_Fin _ _ _ _ _ _ (T36.setTop (mkF m 119 #[.val (.int p1), .val (.int p2), .val (.int p3), .val (.int p4), .val (.int cp), .val (.int (1 : Int32)), .val (.float f), .val (.int n), .val (.int mx), .val (.int (1 : Int32)), .unset] []))
        refine own_to (fun t k => XS.iload X36.here hx rfl (hb hby at_119) rfl k) ?_
        show own_Fin _ _ _ _ _ _ (T36.setTop (mkF m 121 #[.val (.int p1), .val (.int p2), .val (.int p3), .val (.int p4), .val (.int cp), .val (.int (1 : Int32)), .val (.float f), .val (.int n), .val (.int mx), .val (.int (1 : Int32)), .unset] [(.int n)]))
        refine own_to (fun t k => XS.iconst X36.here hx rfl (hb hby at_121) k) ?_
        show own_Fin _ _ _ _ _ _ (T36.setTop (mkF m 122 #[.val (.int p1), .val (.int p2), .val (.int p3), .val (.int p4), .val (.int cp), .val (.int (1 : Int32)), .val (.float f), .val (.int n), .val (.int mx), .val (.int (1 : Int32)), .unset] [(.int (2 : Int32)), (.int n)]))
        refine own_to (fun t k => XS.idiv X36.here hx rfl (hb hby at_122) rfl (by decide) k) ?_
        show own_Fin _ _ _ _ _ _ (T36.setTop (mkF m 123 #[.val (.int p1), .val (.int p2), .val (.int p3), .val (.int p4), .val (.int cp), .val (.int (1 : Int32)), .val (.float f), .val (.int n), .val (.int mx), .val (.int (1 : Int32)), .unset] [(.int (n / (2 : Int32)))]))
        refine own_to (fun t k => XS.i2dS X36.here hx rfl (hb hby at_123) rfl rfl k) ?_
        show own_Fin _ _ _ _ _ _ (T36.setTop (mkF m 124 #[.val (.int p1), .val (.int p2), .val (.int p3), .val (.int p4), .val (.int cp), .val (.int (1 : Int32)), .val (.float f), .val (.int n), .val (.int mx), .val (.int (1 : Int32)), .unset] [(.double (FP.i2d (n / (2 : Int32))))]))
        refine own_to (fun t k => XS.fload X36.here hx rfl (hb hby at_124) rfl k) ?_
        show own_Fin _ _ _ _ _ _ (T36.setTop (mkF m 126 #[.val (.int p1), .val (.int p2), .val (.int p3), .val (.int p4), .val (.int cp), .val (.int (1 : Int32)), .val (.float f), .val (.int n), .val (.int mx), .val (.int (1 : Int32)), .unset] [(.float f), (.double (FP.i2d (n / (2 : Int32))))]))
        refine own_to (fun t k => XS.f2dS X36.here hx rfl (hb hby at_126) rfl hF.nd rfl k) ?_
        show own_Fin _ _ _ _ _ _ (T36.setTop (mkF m 127 #[.val (.int p1), .val (.int p2), .val (.int p3), .val (.int p4), .val (.int cp), .val (.int (1 : Int32)), .val (.float f), .val (.int n), .val (.int mx), .val (.int (1 : Int32)), .unset] [(.double (FP.f2d f)), (.double (FP.i2d (n / (2 : Int32))))]))
        refine own_to (fun t k => XS.dmulS X36.here hx rfl (hb hby at_127) rfl (hF.nm _) rfl k) ?_
        show own_Fin _ _ _ _ _ _ (T36.setTop (mkF m 128 #[.val (.int p1), .val (.int p2), .val (.int p3), .val (.int p4), .val (.int cp), .val (.int (1 : Int32)), .val (.float f), .val (.int n), .val (.int mx), .val (.int (1 : Int32)), .unset] [(.double (FP.dmul (FP.i2d (n / (2 : Int32))) (FP.f2d f)))]))
        refine own_to (fun t k => XS.iload X36.here hx rfl (hb hby at_128) rfl k) ?_
        show own_Fin _ _ _ _ _ _ (T36.setTop (mkF m 130 #[.val (.int p1), .val (.int p2), .val (.int p3), .val (.int p4), .val (.int cp), .val (.int (1 : Int32)), .val (.float f), .val (.int n), .val (.int mx), .val (.int (1 : Int32)), .unset] [(.int mx), (.double (FP.dmul (FP.i2d (n / (2 : Int32))) (FP.f2d f)))]))
        refine own_to (fun t k => XS.i2dS X36.here hx rfl (hb hby at_130) rfl rfl k) ?_
        show own_Fin _ _ _ _ _ _ (T36.setTop (mkF m 131 #[.val (.int p1), .val (.int p2), .val (.int p3), .val (.int p4), .val (.int cp), .val (.int (1 : Int32)), .val (.float f), .val (.int n), .val (.int mx), .val (.int (1 : Int32)), .unset] [(.double (FP.i2d mx)), (.double (FP.dmul (FP.i2d (n / (2 : Int32))) (FP.f2d f)))]))
        refine own_to (fun t k => XS.dcmpS X36.here hx rfl (hb hby at_131) rfl rfl k) ?_
        show own_Fin _ _ _ _ _ _ (T36.setTop (mkF m 132 #[.val (.int p1), .val (.int p2), .val (.int p3), .val (.int p4), .val (.int cp), .val (.int (1 : Int32)), .val (.float f), .val (.int n), .val (.int mx), .val (.int (1 : Int32)), .unset] [(.int (cmpValue (FP.dcmp (FP.dmul (FP.i2d (n / (2 : Int32))) (FP.f2d f)) (FP.i2d mx)) .g))]))
        have tg := t5 hc116_38
        show own_Fin _ _ _ _ _ _ (T36.setTop (mkF m 132 #[.val (.int p1), .val (.int p2), .val (.int p3), .val (.int p4), .val (.int cp), .val (.int (1 : Int32)), .val (.float f), .val (.int n), .val (.int mx), .val (.int (1 : Int32)), .unset] [(.int (own_G mx f (n / (2 : Int32))))]))
        refine own_to (fun t k => XS.ifNo X36.here hx rfl (hb hby at_132) rfl ((if0 _ _).trans (tlt tg).2.1) k) ?_
        show own_Fin _ _ _ _ _ _ (T36.setTop (mkF m 135 #[.val (.int p1), .val (.int p2), .val (.int p3), .val (.int p4), .val (.int cp), .val (.int (1 : Int32)), .val (.float f), .val (.int n), .val (.int mx), .val (.int (1 : Int32)), .unset] []))
        refine own_to (fun t k => XS.iconst X36.here hx rfl (hb hby at_135) k) ?_
        show own_Fin _ _ _ _ _ _ (T36.setTop (mkF m 136 #[.val (.int p1), .val (.int p2), .val (.int p3), .val (.int p4), .val (.int cp), .val (.int (1 : Int32)), .val (.float f), .val (.int n), .val (.int mx), .val (.int (1 : Int32)), .unset] [(.int (1 : Int32))]))
        refine own_to (fun t k => XS.goto X36.here hx rfl (pc0 := 136) (pc' := 140) rfl (hb hby at_136) (by decide) (by decide) k) ?_
        show own_Fin _ _ _ _ _ _ (T36.setTop (mkF m 140 #[.val (.int p1), .val (.int p2), .val (.int p3), .val (.int p4), .val (.int cp), .val (.int (1 : Int32)), .val (.float f), .val (.int n), .val (.int mx), .val (.int (1 : Int32)), .unset] [(.int (1 : Int32))]))
        refine own_to (fun t k => XS.istore X36.here hx rfl (hb hby at_140) rfl (l' := #[.val (.int p1), .val (.int p2), .val (.int p3), .val (.int p4), .val (.int cp), .val (.int (1 : Int32)), .val (.float f), .val (.int n), .val (.int mx), .val (.int (1 : Int32)), .val (.int (1 : Int32))]) rfl k) ?_
        show own_Fin _ _ _ _ _ _ (T36.setTop (mkF m 142 #[.val (.int p1), .val (.int p2), .val (.int p3), .val (.int p4), .val (.int cp), .val (.int (1 : Int32)), .val (.float f), .val (.int n), .val (.int mx), .val (.int (1 : Int32)), .val (.int (1 : Int32))] []))
        refine own_to (fun t k => XS.iload X36.here hx rfl (hb hby at_142) rfl k) ?_
        show own_Fin _ _ _ _ _ _ (T36.setTop (mkF m 144 #[.val (.int p1), .val (.int p2), .val (.int p3), .val (.int p4), .val (.int cp), .val (.int (1 : Int32)), .val (.float f), .val (.int n), .val (.int mx), .val (.int (1 : Int32)), .val (.int (1 : Int32))] [(.int (1 : Int32))]))
        refine own_to (fun t k => XS.ifNo X36.here hx rfl (hb hby at_144) rfl ((if0 _ _).trans (feq (by decide)).1) k) ?_
        show own_Fin _ _ _ _ _ _ (T36.setTop (mkF m 147 #[.val (.int p1), .val (.int p2), .val (.int p3), .val (.int p4), .val (.int cp), .val (.int (1 : Int32)), .val (.float f), .val (.int n), .val (.int mx), .val (.int (1 : Int32)), .val (.int (1 : Int32))] []))
        refine own_to (fun t k => XS.iload X36.here hx rfl (hb hby at_147) rfl k) ?_
        show own_Fin _ _ _ _ _ _ (T36.setTop (mkF m 149 #[.val (.int p1), .val (.int p2), .val (.int p3), .val (.int p4), .val (.int cp), .val (.int (1 : Int32)), .val (.float f), .val (.int n), .val (.int mx), .val (.int (1 : Int32)), .val (.int (1 : Int32))] [(.int (1 : Int32))]))
        refine own_to (fun t k => XS.ifNo X36.here hx rfl (hb hby at_149) rfl ((if0 _ _).trans (feq (by decide)).1) k) ?_
        show own_Fin _ _ _ _ _ _ (T36.setTop (mkF m 152 #[.val (.int p1), .val (.int p2), .val (.int p3), .val (.int p4), .val (.int cp), .val (.int (1 : Int32)), .val (.float f), .val (.int n), .val (.int mx), .val (.int (1 : Int32)), .val (.int (1 : Int32))] []))
        refine own_to (fun t k => XS.iconst X36.here hx rfl (hb hby at_152) k) ?_
        show own_Fin _ _ _ _ _ _ (T36.setTop (mkF m 153 #[.val (.int p1), .val (.int p2), .val (.int p3), .val (.int p4), .val (.int cp), .val (.int (1 : Int32)), .val (.float f), .val (.int n), .val (.int mx), .val (.int (1 : Int32)), .val (.int (1 : Int32))] [(.int (1 : Int32))]))
        refine own_to (fun t k => XS.goto X36.here hx rfl (pc0 := 153) (pc' := 157) rfl (hb hby at_153) (by decide) (by decide) k) ?_
        show own_Fin _ _ _ _ _ _ (T36.setTop (mkF m 157 #[.val (.int p1), .val (.int p2), .val (.int p3), .val (.int p4), .val (.int cp), .val (.int (1 : Int32)), .val (.float f), .val (.int n), .val (.int mx), .val (.int (1 : Int32)), .val (.int (1 : Int32))] [(.int (1 : Int32))]))
        refine own_retN X36 hx hlk (t := .boolean) hret (by simp) (hb hby at_157) (by decide) (by decide) ?_
        try rw [eh36]
        exact ⟨rfl, N36⟩
    ·
      show own_Fin _ _ _ _ _ _ (T36.setTop (mkF m 89 #[.val (.int p1), .val (.int p2), .val (.int p3), .val (.int p4), .val (.int cp), .val (.int (1 : Int32)), .val (.float f), .val (.int n), .val (.int mx), .unset, .unset] [(.int (1073741824 : Int32)), (.int n)]))
      refine own_to (fun t k => XS.icmpNo X36.here hx rfl (hb hby at_89) rfl (feq hc89_37).1 k) ?_
      show own_Fin _ _ _ _ _ _ (T36.setTop (mkF m 92 #[.val (.int p1), .val (.int p2), .val (.int p3), .val (.int p4), .val (.int cp), .val (.int (1 : Int32)), .val (.float f), .val (.int n), .val (.int mx), .unset, .unset] []))
      refine own_to (fun t k => XS.iload X36.here hx rfl (hb hby at_92) rfl k) ?_
      show own_Fin _ _ _ _ _ _ (T36.setTop (mkF m 94 #[.val (.int p1), .val (.int p2), .val (.int p3), .val (.int p4), .val (.int cp), .val (.int (1 : Int32)), .val (.float f), .val (.int n), .val (.int mx), .unset, .unset] [(.int n)]))
      refine own_to (fun t k => XS.i2dS X36.here hx rfl (hb hby at_94) rfl rfl k) ?_
      show own_Fin _ _ _ _ _ _ (T36.setTop (mkF m 95 #[.val (.int p1), .val (.int p2), .val (.int p3), .val (.int p4), .val (.int cp), .val (.int (1 : Int32)), .val (.float f), .val (.int n), .val (.int mx), .unset, .unset] [(.double (FP.i2d n))]))
      refine own_to (fun t k => XS.fload X36.here hx rfl (hb hby at_95) rfl k) ?_
      show own_Fin _ _ _ _ _ _ (T36.setTop (mkF m 97 #[.val (.int p1), .val (.int p2), .val (.int p3), .val (.int p4), .val (.int cp), .val (.int (1 : Int32)), .val (.float f), .val (.int n), .val (.int mx), .unset, .unset] [(.float f), (.double (FP.i2d n))]))
      refine own_to (fun t k => XS.f2dS X36.here hx rfl (hb hby at_97) rfl hF.nd rfl k) ?_
      show own_Fin _ _ _ _ _ _ (T36.setTop (mkF m 98 #[.val (.int p1), .val (.int p2), .val (.int p3), .val (.int p4), .val (.int cp), .val (.int (1 : Int32)), .val (.float f), .val (.int n), .val (.int mx), .unset, .unset] [(.double (FP.f2d f)), (.double (FP.i2d n))]))
      refine own_to (fun t k => XS.dmulS X36.here hx rfl (hb hby at_98) rfl (hF.nm _) rfl k) ?_
      show own_Fin _ _ _ _ _ _ (T36.setTop (mkF m 99 #[.val (.int p1), .val (.int p2), .val (.int p3), .val (.int p4), .val (.int cp), .val (.int (1 : Int32)), .val (.float f), .val (.int n), .val (.int mx), .unset, .unset] [(.double (FP.dmul (FP.i2d n) (FP.f2d f)))]))
      refine own_to (fun t k => XS.iload X36.here hx rfl (hb hby at_99) rfl k) ?_
      show own_Fin _ _ _ _ _ _ (T36.setTop (mkF m 101 #[.val (.int p1), .val (.int p2), .val (.int p3), .val (.int p4), .val (.int cp), .val (.int (1 : Int32)), .val (.float f), .val (.int n), .val (.int mx), .unset, .unset] [(.int mx), (.double (FP.dmul (FP.i2d n) (FP.f2d f)))]))
      refine own_to (fun t k => XS.i2dS X36.here hx rfl (hb hby at_101) rfl rfl k) ?_
      show own_Fin _ _ _ _ _ _ (T36.setTop (mkF m 102 #[.val (.int p1), .val (.int p2), .val (.int p3), .val (.int p4), .val (.int cp), .val (.int (1 : Int32)), .val (.float f), .val (.int n), .val (.int mx), .unset, .unset] [(.double (FP.i2d mx)), (.double (FP.dmul (FP.i2d n) (FP.f2d f)))]))
      refine own_to (fun t k => XS.dcmpS X36.here hx rfl (hb hby at_102) rfl rfl k) ?_
      show own_Fin _ _ _ _ _ _ (T36.setTop (mkF m 103 #[.val (.int p1), .val (.int p2), .val (.int p3), .val (.int p4), .val (.int cp), .val (.int (1 : Int32)), .val (.float f), .val (.int n), .val (.int mx), .unset, .unset] [(.int (cmpValue (FP.dcmp (FP.dmul (FP.i2d n) (FP.f2d f)) (FP.i2d mx)) .l))]))
      have tl : ¬ own_L mx f n < (0 : Int32) := by rw [own_LG hF]; exact t4 hc89_37
      show own_Fin _ _ _ _ _ _ (T36.setTop (mkF m 103 #[.val (.int p1), .val (.int p2), .val (.int p3), .val (.int p4), .val (.int cp), .val (.int (1 : Int32)), .val (.float f), .val (.int n), .val (.int mx), .unset, .unset] [(.int (own_L mx f n))]))
      refine own_to (fun t k => XS.ifNo X36.here hx rfl (hb hby at_103) rfl ((if0 _ _).trans (flt tl).1) k) ?_
      show own_Fin _ _ _ _ _ _ (T36.setTop (mkF m 106 #[.val (.int p1), .val (.int p2), .val (.int p3), .val (.int p4), .val (.int cp), .val (.int (1 : Int32)), .val (.float f), .val (.int n), .val (.int mx), .unset, .unset] []))
      refine own_to (fun t k => XS.iconst X36.here hx rfl (hb hby at_106) k) ?_
      show own_Fin _ _ _ _ _ _ (T36.setTop (mkF m 107 #[.val (.int p1), .val (.int p2), .val (.int p3), .val (.int p4), .val (.int cp), .val (.int (1 : Int32)), .val (.float f), .val (.int n), .val (.int mx), .unset, .unset] [(.int (1 : Int32))]))
      refine own_to (fun t k => XS.goto X36.here hx rfl (pc0 := 107) (pc' := 111) rfl (hb hby at_107) (by decide) (by decide) k) ?_
      show own_Fin _ _ _ _ _ _ (T36.setTop (mkF m 111 #[.val (.int p1), .val (.int p2), .val (.int p3), .val (.int p4), .val (.int cp), .val (.int (1 : Int32)), .val (.float f), .val (.int n), .val (.int mx), .unset, .unset] [(.int (1 : Int32))]))
      refine own_to (fun t k => XS.istore X36.here hx rfl (hb hby at_111) rfl (l' := #[.val (.int p1), .val (.int p2), .val (.int p3), .val (.int p4), .val (.int cp), .val (.int (1 : Int32)), .val (.float f), .val (.int n), .val (.int mx), .val (.int (1 : Int32)), .unset]) rfl k) ?_
      show own_Fin _ _ _ _ _ _ (T36.setTop (mkF m 113 #[.val (.int p1), .val (.int p2), .val (.int p3), .val (.int p4), .val (.int cp), .val (.int (1 : Int32)), .val (.float f), .val (.int n), .val (.int mx), .val (.int (1 : Int32)), .unset] []))
      refine own_to (fun t k => XS.iload X36.here hx rfl (hb hby at_113) rfl k) ?_
      show own_Fin _ _ _ _ _ _ (T36.setTop (mkF m 115 #[.val (.int p1), .val (.int p2), .val (.int p3), .val (.int p4), .val (.int cp), .val (.int (1 : Int32)), .val (.float f), .val (.int n), .val (.int mx), .val (.int (1 : Int32)), .unset] [(.int n)]))
      refine own_to (fun t k => XS.iconst X36.here hx rfl (hb hby at_115) k) ?_
      show own_Fin _ _ _ _ _ _ (T36.setTop (mkF m 116 #[.val (.int p1), .val (.int p2), .val (.int p3), .val (.int p4), .val (.int cp), .val (.int (1 : Int32)), .val (.float f), .val (.int n), .val (.int mx), .val (.int (1 : Int32)), .unset] [(.int (2 : Int32)), (.int n)]))
      by_cases hc116_39 : n = (2 : Int32)
      ·
        show own_Fin _ _ _ _ _ _ (T36.setTop (mkF m 116 #[.val (.int p1), .val (.int p2), .val (.int p3), .val (.int p4), .val (.int cp), .val (.int (1 : Int32)), .val (.float f), .val (.int n), .val (.int mx), .val (.int (1 : Int32)), .unset] [(.int (2 : Int32)), (.int n)]))
        refine own_to (fun t k => XS.icmpYes X36.here hx rfl (pc0 := 116) (pc' := 135) rfl (hb hby at_116) rfl (teq hc116_39).1 (by decide) (by decide) k) ?_
        show own_Fin _ _ _ _ _ _ (T36.setTop (mkF m 135 #[.val (.int p1), .val (.int p2), .val (.int p3), .val (.int p4), .val (.int cp), .val (.int (1 : Int32)), .val (.float f), .val (.int n), .val (.int mx), .val (.int (1 : Int32)), .unset] []))
        refine own_to (fun t k => XS.iconst X36.here hx rfl (hb hby at_135) k) ?_
        show own_Fin _ _ _ _ _ _ (T36.setTop (mkF m 136 #[.val (.int p1), .val (.int p2), .val (.int p3), .val (.int p4), .val (.int cp), .val (.int (1 : Int32)), .val (.float f), .val (.int n), .val (.int mx), .val (.int (1 : Int32)), .unset] [(.int (1 : Int32))]))
        refine own_to (fun t k => XS.goto X36.here hx rfl (pc0 := 136) (pc' := 140) rfl (hb hby at_136) (by decide) (by decide) k) ?_
        show own_Fin _ _ _ _ _ _ (T36.setTop (mkF m 140 #[.val (.int p1), .val (.int p2), .val (.int p3), .val (.int p4), .val (.int cp), .val (.int (1 : Int32)), .val (.float f), .val (.int n), .val (.int mx), .val (.int (1 : Int32)), .unset] [(.int (1 : Int32))]))
        refine own_to (fun t k => XS.istore X36.here hx rfl (hb hby at_140) rfl (l' := #[.val (.int p1), .val (.int p2), .val (.int p3), .val (.int p4), .val (.int cp), .val (.int (1 : Int32)), .val (.float f), .val (.int n), .val (.int mx), .val (.int (1 : Int32)), .val (.int (1 : Int32))]) rfl k) ?_
        show own_Fin _ _ _ _ _ _ (T36.setTop (mkF m 142 #[.val (.int p1), .val (.int p2), .val (.int p3), .val (.int p4), .val (.int cp), .val (.int (1 : Int32)), .val (.float f), .val (.int n), .val (.int mx), .val (.int (1 : Int32)), .val (.int (1 : Int32))] []))
        refine own_to (fun t k => XS.iload X36.here hx rfl (hb hby at_142) rfl k) ?_
        show own_Fin _ _ _ _ _ _ (T36.setTop (mkF m 144 #[.val (.int p1), .val (.int p2), .val (.int p3), .val (.int p4), .val (.int cp), .val (.int (1 : Int32)), .val (.float f), .val (.int n), .val (.int mx), .val (.int (1 : Int32)), .val (.int (1 : Int32))] [(.int (1 : Int32))]))
        refine own_to (fun t k => XS.ifNo X36.here hx rfl (hb hby at_144) rfl ((if0 _ _).trans (feq (by decide)).1) k) ?_
        show own_Fin _ _ _ _ _ _ (T36.setTop (mkF m 147 #[.val (.int p1), .val (.int p2), .val (.int p3), .val (.int p4), .val (.int cp), .val (.int (1 : Int32)), .val (.float f), .val (.int n), .val (.int mx), .val (.int (1 : Int32)), .val (.int (1 : Int32))] []))
        refine own_to (fun t k => XS.iload X36.here hx rfl (hb hby at_147) rfl k) ?_
        show own_Fin _ _ _ _ _ _ (T36.setTop (mkF m 149 #[.val (.int p1), .val (.int p2), .val (.int p3), .val (.int p4), .val (.int cp), .val (.int (1 : Int32)), .val (.float f), .val (.int n), .val (.int mx), .val (.int (1 : Int32)), .val (.int (1 : Int32))] [(.int (1 : Int32))]))
        refine own_to (fun t k => XS.ifNo X36.here hx rfl (hb hby at_149) rfl ((if0 _ _).trans (feq (by decide)).1) k) ?_
        show own_Fin _ _ _ _ _ _ (T36.setTop (mkF m 152 #[.val (.int p1), .val (.int p2), .val (.int p3), .val (.int p4), .val (.int cp), .val (.int (1 : Int32)), .val (.float f), .val (.int n), .val (.int mx), .val (.int (1 : Int32)), .val (.int (1 : Int32))] []))
        refine own_to (fun t k => XS.iconst X36.here hx rfl (hb hby at_152) k) ?_
        show own_Fin _ _ _ _ _ _ (T36.setTop (mkF m 153 #[.val (.int p1), .val (.int p2), .val (.int p3), .val (.int p4), .val (.int cp), .val (.int (1 : Int32)), .val (.float f), .val (.int n), .val (.int mx), .val (.int (1 : Int32)), .val (.int (1 : Int32))] [(.int (1 : Int32))]))
        refine own_to (fun t k => XS.goto X36.here hx rfl (pc0 := 153) (pc' := 157) rfl (hb hby at_153) (by decide) (by decide) k) ?_
        show own_Fin _ _ _ _ _ _ (T36.setTop (mkF m 157 #[.val (.int p1), .val (.int p2), .val (.int p3), .val (.int p4), .val (.int cp), .val (.int (1 : Int32)), .val (.float f), .val (.int n), .val (.int mx), .val (.int (1 : Int32)), .val (.int (1 : Int32))] [(.int (1 : Int32))]))
        refine own_retN X36 hx hlk (t := .boolean) hret (by simp) (hb hby at_157) (by decide) (by decide) ?_
        try rw [eh36]
        exact ⟨rfl, N36⟩
      ·
        show own_Fin _ _ _ _ _ _ (T36.setTop (mkF m 116 #[.val (.int p1), .val (.int p2), .val (.int p3), .val (.int p4), .val (.int cp), .val (.int (1 : Int32)), .val (.float f), .val (.int n), .val (.int mx), .val (.int (1 : Int32)), .unset] [(.int (2 : Int32)), (.int n)]))
        refine own_to (fun t k => XS.icmpNo X36.here hx rfl (hb hby at_116) rfl (feq hc116_39).1 k) ?_
        show own_Fin _ _ _ _ _ _ (T36.setTop (mkF m 119 #[.val (.int p1), .val (.int p2), .val (.int p3), .val (.int p4), .val (.int cp), .val (.int (1 : Int32)), .val (.float f), .val (.int n), .val (.int mx), .val (.int (1 : Int32)), .unset] []))
        refine own_to (fun t k => XS.iload X36.here hx rfl (hb hby at_119) rfl k) ?_
        show own_Fin _ _ _ _ _ _ (T36.setTop (mkF m 121 #[.val (.int p1), .val (.int p2), .val (.int p3), .val (.int p4), .val (.int cp), .val (.int (1 : Int32)), .val (.float f), .val (.int n), .val (.int mx), .val (.int (1 : Int32)), .unset] [(.int n)]))
        refine own_to (fun t k => XS.iconst X36.here hx rfl (hb hby at_121) k) ?_
        show own_Fin _ _ _ _ _ _ (T36.setTop (mkF m 122 #[.val (.int p1), .val (.int p2), .val (.int p3), .val (.int p4), .val (.int cp), .val (.int (1 : Int32)), .val (.float f), .val (.int n), .val (.int mx), .val (.int (1 : Int32)), .unset] [(.int (2 : Int32)), (.int n)]))
        refine own_to (fun t k => XS.idiv X36.here hx rfl (hb hby at_122) rfl (by decide) k) ?_
        show own_Fin _ _ _ _ _ _ (T36.setTop (mkF m 123 #[.val (.int p1), .val (.int p2), .val (.int p3), .val (.int p4), .val (.int cp), .val (.int (1 : Int32)), .val (.float f), .val (.int n), .val (.int mx), .val (.int (1 : Int32)), .unset] [(.int (n / (2 : Int32)))]))
        refine own_to (fun t k => XS.i2dS X36.here hx rfl (hb hby at_123) rfl rfl k) ?_
        show own_Fin _ _ _ _ _ _ (T36.setTop (mkF m 124 #[.val (.int p1), .val (.int p2), .val (.int p3), .val (.int p4), .val (.int cp), .val (.int (1 : Int32)), .val (.float f), .val (.int n), .val (.int mx), .val (.int (1 : Int32)), .unset] [(.double (FP.i2d (n / (2 : Int32))))]))
        refine own_to (fun t k => XS.fload X36.here hx rfl (hb hby at_124) rfl k) ?_
        show own_Fin _ _ _ _ _ _ (T36.setTop (mkF m 126 #[.val (.int p1), .val (.int p2), .val (.int p3), .val (.int p4), .val (.int cp), .val (.int (1 : Int32)), .val (.float f), .val (.int n), .val (.int mx), .val (.int (1 : Int32)), .unset] [(.float f), (.double (FP.i2d (n / (2 : Int32))))]))
        refine own_to (fun t k => XS.f2dS X36.here hx rfl (hb hby at_126) rfl hF.nd rfl k) ?_
        show own_Fin _ _ _ _ _ _ (T36.setTop (mkF m 127 #[.val (.int p1), .val (.int p2), .val (.int p3), .val (.int p4), .val (.int cp), .val (.int (1 : Int32)), .val (.float f), .val (.int n), .val (.int mx), .val (.int (1 : Int32)), .unset] [(.double (FP.f2d f)), (.double (FP.i2d (n / (2 : Int32))))]))
        refine own_to (fun t k => XS.dmulS X36.here hx rfl (hb hby at_127) rfl (hF.nm _) rfl k) ?_
        show own_Fin _ _ _ _ _ _ (T36.setTop (mkF m 128 #[.val (.int p1), .val (.int p2), .val (.int p3), .val (.int p4), .val (.int cp), .val (.int (1 : Int32)), .val (.float f), .val (.int n), .val (.int mx), .val (.int (1 : Int32)), .unset] [(.double (FP.dmul (FP.i2d (n / (2 : Int32))) (FP.f2d f)))]))
        refine own_to (fun t k => XS.iload X36.here hx rfl (hb hby at_128) rfl k) ?_
        show own_Fin _ _ _ _ _ _ (T36.setTop (mkF m 130 #[.val (.int p1), .val (.int p2), .val (.int p3), .val (.int p4), .val (.int cp), .val (.int (1 : Int32)), .val (.float f), .val (.int n), .val (.int mx), .val (.int (1 : Int32)), .unset] [(.int mx), (.double (FP.dmul (FP.i2d (n / (2 : Int32))) (FP.f2d f)))]))
        refine own_to (fun t k => XS.i2dS X36.here hx rfl (hb hby at_130) rfl rfl k) ?_
        show own_Fin _ _ _ _ _ _ (T36.setTop (mkF m 131 #[.val (.int p1), .val (.int p2), .val (.int p3), .val (.int p4), .val (.int cp), .val (.int (1 : Int32)), .val (.float f), .val (.int n), .val (.int mx), .val (.int (1 : Int32)), .unset] [(.double (FP.i2d mx)), (.double (FP.dmul (FP.i2d (n / (2 : Int32))) (FP.f2d f)))]))
        refine own_to (fun t k => XS.dcmpS X36.here hx rfl (hb hby at_131) rfl rfl k) ?_
        show own_Fin _ _ _ _ _ _ (T36.setTop (mkF m 132 #[.val (.int p1), .val (.int p2), .val (.int p3), .val (.int p4), .val (.int cp), .val (.int (1 : Int32)), .val (.float f), .val (.int n), .val (.int mx), .val (.int (1 : Int32)), .unset] [(.int (cmpValue (FP.dcmp (FP.dmul (FP.i2d (n / (2 : Int32))) (FP.f2d f)) (FP.i2d mx)) .g))]))
        have tg := t5 hc116_39
        show own_Fin _ _ _ _ _ _ (T36.setTop (mkF m 132 #[.val (.int p1), .val (.int p2), .val (.int p3), .val (.int p4), .val (.int cp), .val (.int (1 : Int32)), .val (.float f), .val (.int n), .val (.int mx), .val (.int (1 : Int32)), .unset] [(.int (own_G mx f (n / (2 : Int32))))]))
        refine own_to (fun t k => XS.ifNo X36.here hx rfl (hb hby at_132) rfl ((if0 _ _).trans (tlt tg).2.1) k) ?_
        show own_Fin _ _ _ _ _ _ (T36.setTop (mkF m 135 #[.val (.int p1), .val (.int p2), .val (.int p3), .val (.int p4), .val (.int cp), .val (.int (1 : Int32)), .val (.float f), .val (.int n), .val (.int mx), .val (.int (1 : Int32)), .unset] []))
        refine own_to (fun t k => XS.iconst X36.here hx rfl (hb hby at_135) k) ?_
        show own_Fin _ _ _ _ _ _ (T36.setTop (mkF m 136 #[.val (.int p1), .val (.int p2), .val (.int p3), .val (.int p4), .val (.int cp), .val (.int (1 : Int32)), .val (.float f), .val (.int n), .val (.int mx), .val (.int (1 : Int32)), .unset] [(.int (1 : Int32))]))
        refine own_to (fun t k => XS.goto X36.here hx rfl (pc0 := 136) (pc' := 140) rfl (hb hby at_136) (by decide) (by decide) k) ?_
        show own_Fin _ _ _ _ _ _ (T36.setTop (mkF m 140 #[.val (.int p1), .val (.int p2), .val (.int p3), .val (.int p4), .val (.int cp), .val (.int (1 : Int32)), .val (.float f), .val (.int n), .val (.int mx), .val (.int (1 : Int32)), .unset] [(.int (1 : Int32))]))
        refine own_to (fun t k => XS.istore X36.here hx rfl (hb hby at_140) rfl (l' := #[.val (.int p1), .val (.int p2), .val (.int p3), .val (.int p4), .val (.int cp), .val (.int (1 : Int32)), .val (.float f), .val (.int n), .val (.int mx), .val (.int (1 : Int32)), .val (.int (1 : Int32))]) rfl k) ?_
        show own_Fin _ _ _ _ _ _ (T36.setTop (mkF m 142 #[.val (.int p1), .val (.int p2), .val (.int p3), .val (.int p4), .val (.int cp), .val (.int (1 : Int32)), .val (.float f), .val (.int n), .val (.int mx), .val (.int (1 : Int32)), .val (.int (1 : Int32))] []))
        refine own_to (fun t k => XS.iload X36.here hx rfl (hb hby at_142) rfl k) ?_
        show own_Fin _ _ _ _ _ _ (T36.setTop (mkF m 144 #[.val (.int p1), .val (.int p2), .val (.int p3), .val (.int p4), .val (.int cp), .val (.int (1 : Int32)), .val (.float f), .val (.int n), .val (.int mx), .val (.int (1 : Int32)), .val (.int (1 : Int32))] [(.int (1 : Int32))]))
        refine own_to (fun t k => XS.ifNo X36.here hx rfl (hb hby at_144) rfl ((if0 _ _).trans (feq (by decide)).1) k) ?_
        show own_Fin _ _ _ _ _ _ (T36.setTop (mkF m 147 #[.val (.int p1), .val (.int p2), .val (.int p3), .val (.int p4), .val (.int cp), .val (.int (1 : Int32)), .val (.float f), .val (.int n), .val (.int mx), .val (.int (1 : Int32)), .val (.int (1 : Int32))] []))
        refine own_to (fun t k => XS.iload X36.here hx rfl (hb hby at_147) rfl k) ?_
        show own_Fin _ _ _ _ _ _ (T36.setTop (mkF m 149 #[.val (.int p1), .val (.int p2), .val (.int p3), .val (.int p4), .val (.int cp), .val (.int (1 : Int32)), .val (.float f), .val (.int n), .val (.int mx), .val (.int (1 : Int32)), .val (.int (1 : Int32))] [(.int (1 : Int32))]))
        refine own_to (fun t k => XS.ifNo X36.here hx rfl (hb hby at_149) rfl ((if0 _ _).trans (feq (by decide)).1) k) ?_
        show own_Fin _ _ _ _ _ _ (T36.setTop (mkF m 152 #[.val (.int p1), .val (.int p2), .val (.int p3), .val (.int p4), .val (.int cp), .val (.int (1 : Int32)), .val (.float f), .val (.int n), .val (.int mx), .val (.int (1 : Int32)), .val (.int (1 : Int32))] []))
        refine own_to (fun t k => XS.iconst X36.here hx rfl (hb hby at_152) k) ?_
        show own_Fin _ _ _ _ _ _ (T36.setTop (mkF m 153 #[.val (.int p1), .val (.int p2), .val (.int p3), .val (.int p4), .val (.int cp), .val (.int (1 : Int32)), .val (.float f), .val (.int n), .val (.int mx), .val (.int (1 : Int32)), .val (.int (1 : Int32))] [(.int (1 : Int32))]))
        refine own_to (fun t k => XS.goto X36.here hx rfl (pc0 := 153) (pc' := 157) rfl (hb hby at_153) (by decide) (by decide) k) ?_
        show own_Fin _ _ _ _ _ _ (T36.setTop (mkF m 157 #[.val (.int p1), .val (.int p2), .val (.int p3), .val (.int p4), .val (.int cp), .val (.int (1 : Int32)), .val (.float f), .val (.int n), .val (.int mx), .val (.int (1 : Int32)), .val (.int (1 : Int32))] [(.int (1 : Int32))]))
        refine own_retN X36 hx hlk (t := .boolean) hret (by simp) (hb hby at_157) (by decide) (by decide) ?_
        try rw [eh36]
        exact ⟨rfl, N36⟩
  ·
    show own_Fin _ _ _ _ _ _ (s₁.setTop (mkF m 14 #[.val (.int p1), .val (.int p2), .val (.int p3), .val (.int p4), .val (.int (p1 &&& (2147483647 : Int32))), .val (.int (p2 &&& (2147483647 : Int32))), .unset, .unset, .unset, .unset, .unset] [(.int (p2 &&& (2147483647 : Int32)))]))
    refine own_to (fun t k => XS.ifYes X0.here hx rfl (pc0 := 14) (pc' := 20) rfl (hb hby at_14) rfl ((if0 _ _).trans (feq hc14_34).2) (by decide) (by decide) k) ?_
    show own_Fin _ _ _ _ _ _ (s₁.setTop (mkF m 20 #[.val (.int p1), .val (.int p2), .val (.int p3), .val (.int p4), .val (.int (p1 &&& (2147483647 : Int32))), .val (.int (p2 &&& (2147483647 : Int32))), .unset, .unset, .unset, .unset, .unset] []))
    refine own_to (fun t k => XS.iloadN X0.here hx rfl (hb hby at_20) rfl k) ?_
    show own_Fin _ _ _ _ _ _ (s₁.setTop (mkF m 21 #[.val (.int p1), .val (.int p2), .val (.int p3), .val (.int p4), .val (.int (p1 &&& (2147483647 : Int32))), .val (.int (p2 &&& (2147483647 : Int32))), .unset, .unset, .unset, .unset, .unset] [(.int p3)]))
    refine own_to (fun t k => XS.sipush X0.here hx rfl (hb hby at_21) k) ?_
    show own_Fin _ _ _ _ _ _ (s₁.setTop (mkF m 24 #[.val (.int p1), .val (.int p2), .val (.int p3), .val (.int p4), .val (.int (p1 &&& (2147483647 : Int32))), .val (.int (p2 &&& (2147483647 : Int32))), .unset, .unset, .unset, .unset, .unset] [(.int (255 : Int32)), (.int p3)]))
    refine own_to (fun t k => XS.iand X0.here hx rfl (hb hby at_24) rfl k) ?_
    show own_Fin _ _ _ _ _ _ (s₁.setTop (mkF m 25 #[.val (.int p1), .val (.int p2), .val (.int p3), .val (.int p4), .val (.int (p1 &&& (2147483647 : Int32))), .val (.int (p2 &&& (2147483647 : Int32))), .unset, .unset, .unset, .unset, .unset] [(.int (p3 &&& (255 : Int32)))]))
    refine own_to (fun t k => XS.iconst X0.here hx rfl (hb hby at_25) k) ?_
    show own_Fin _ _ _ _ _ _ (s₁.setTop (mkF m 26 #[.val (.int p1), .val (.int p2), .val (.int p3), .val (.int p4), .val (.int (p1 &&& (2147483647 : Int32))), .val (.int (p2 &&& (2147483647 : Int32))), .unset, .unset, .unset, .unset, .unset] [(.int (1 : Int32)), (.int (p3 &&& (255 : Int32)))]))
    refine own_to (fun t k => XS.iadd X0.here hx rfl (hb hby at_26) rfl k) ?_
    show own_Fin _ _ _ _ _ _ (s₁.setTop (mkF m 27 #[.val (.int p1), .val (.int p2), .val (.int p3), .val (.int p4), .val (.int (p1 &&& (2147483647 : Int32))), .val (.int (p2 &&& (2147483647 : Int32))), .unset, .unset, .unset, .unset, .unset] [(.int ((p3 &&& (255 : Int32)) + (1 : Int32)))]))
    refine own_to (fun t k => XS.i2fS X0.here hx rfl (hb hby at_27) rfl (i2f_w _) k) ?_
    show own_Fin _ _ _ _ _ _ (s₁.setTop (mkF m 28 #[.val (.int p1), .val (.int p2), .val (.int p3), .val (.int p4), .val (.int (p1 &&& (2147483647 : Int32))), .val (.int (p2 &&& (2147483647 : Int32))), .unset, .unset, .unset, .unset, .unset] [(.float (FP.l2f (((p3 &&& (255 : Int32)) + (1 : Int32)).toInt64)))]))
    refine own_to (fun t k => XS.iloadN X0.here hx rfl (hb hby at_28) rfl k) ?_
    show own_Fin _ _ _ _ _ _ (s₁.setTop (mkF m 29 #[.val (.int p1), .val (.int p2), .val (.int p3), .val (.int p4), .val (.int (p1 &&& (2147483647 : Int32))), .val (.int (p2 &&& (2147483647 : Int32))), .unset, .unset, .unset, .unset, .unset] [(.int p4), (.float (FP.l2f (((p3 &&& (255 : Int32)) + (1 : Int32)).toInt64)))]))
    refine own_to (fun t k => XS.bipush X0.here hx rfl (hb hby at_29) k) ?_
    show own_Fin _ _ _ _ _ _ (s₁.setTop (mkF m 31 #[.val (.int p1), .val (.int p2), .val (.int p3), .val (.int p4), .val (.int (p1 &&& (2147483647 : Int32))), .val (.int (p2 &&& (2147483647 : Int32))), .unset, .unset, .unset, .unset, .unset] [(.int (15 : Int32)), (.int p4), (.float (FP.l2f (((p3 &&& (255 : Int32)) + (1 : Int32)).toInt64)))]))
    refine own_to (fun t k => XS.iand X0.here hx rfl (hb hby at_31) rfl k) ?_
    show own_Fin _ _ _ _ _ _ (s₁.setTop (mkF m 32 #[.val (.int p1), .val (.int p2), .val (.int p3), .val (.int p4), .val (.int (p1 &&& (2147483647 : Int32))), .val (.int (p2 &&& (2147483647 : Int32))), .unset, .unset, .unset, .unset, .unset] [(.int (p4 &&& (15 : Int32))), (.float (FP.l2f (((p3 &&& (255 : Int32)) + (1 : Int32)).toInt64)))]))
    refine own_to (fun t k => XS.iconst X0.here hx rfl (hb hby at_32) k) ?_
    show own_Fin _ _ _ _ _ _ (s₁.setTop (mkF m 33 #[.val (.int p1), .val (.int p2), .val (.int p3), .val (.int p4), .val (.int (p1 &&& (2147483647 : Int32))), .val (.int (p2 &&& (2147483647 : Int32))), .unset, .unset, .unset, .unset, .unset] [(.int (1 : Int32)), (.int (p4 &&& (15 : Int32))), (.float (FP.l2f (((p3 &&& (255 : Int32)) + (1 : Int32)).toInt64)))]))
    refine own_to (fun t k => XS.iadd X0.here hx rfl (hb hby at_33) rfl k) ?_
    show own_Fin _ _ _ _ _ _ (s₁.setTop (mkF m 34 #[.val (.int p1), .val (.int p2), .val (.int p3), .val (.int p4), .val (.int (p1 &&& (2147483647 : Int32))), .val (.int (p2 &&& (2147483647 : Int32))), .unset, .unset, .unset, .unset, .unset] [(.int ((p4 &&& (15 : Int32)) + (1 : Int32))), (.float (FP.l2f (((p3 &&& (255 : Int32)) + (1 : Int32)).toInt64)))]))
    refine own_to (fun t k => XS.i2fS X0.here hx rfl (hb hby at_34) rfl (i2f_w _) k) ?_
    show own_Fin _ _ _ _ _ _ (s₁.setTop (mkF m 35 #[.val (.int p1), .val (.int p2), .val (.int p3), .val (.int p4), .val (.int (p1 &&& (2147483647 : Int32))), .val (.int (p2 &&& (2147483647 : Int32))), .unset, .unset, .unset, .unset, .unset] [(.float (FP.l2f (((p4 &&& (15 : Int32)) + (1 : Int32)).toInt64))), (.float (FP.l2f (((p3 &&& (255 : Int32)) + (1 : Int32)).toInt64)))]))
    have hF : own_F (FP.fdiv (FP.l2f (((p3 &&& (255 : Int32)) + (1 : Int32)).toInt64)) (FP.l2f (((p4 &&& (15 : Int32)) + (1 : Int32)).toInt64))) := ⟨own_ffin (own_bb p4).1, own_fq (own_aa p3).1 (own_aa p3).2 (own_bb p4).1 (own_bb p4).2⟩
    refine own_to (fun t k => XS.fdivS X0.here hx rfl (hb hby at_35) rfl hF.1.noNaN rfl k) ?_
    show own_Fin _ _ _ _ _ _ (s₁.setTop (mkF m 36 #[.val (.int p1), .val (.int p2), .val (.int p3), .val (.int p4), .val (.int (p1 &&& (2147483647 : Int32))), .val (.int (p2 &&& (2147483647 : Int32))), .unset, .unset, .unset, .unset, .unset] [(.float (FP.fdiv (FP.l2f (((p3 &&& (255 : Int32)) + (1 : Int32)).toInt64)) (FP.l2f (((p4 &&& (15 : Int32)) + (1 : Int32)).toInt64))))]))
    obtain ⟨f, ef⟩ : ∃ z, z = (FP.fdiv (FP.l2f (((p3 &&& (255 : Int32)) + (1 : Int32)).toInt64)) (FP.l2f (((p4 &&& (15 : Int32)) + (1 : Int32)).toInt64))) := ⟨_, rfl⟩
    rw [← ef] at hF ⊢
    show own_Fin _ _ _ _ _ _ (s₁.setTop (mkF m 36 #[.val (.int p1), .val (.int p2), .val (.int p3), .val (.int p4), .val (.int (p1 &&& (2147483647 : Int32))), .val (.int (p2 &&& (2147483647 : Int32))), .unset, .unset, .unset, .unset, .unset] [(.float f)]))
    have hl : ¬ (p2 &&& (2147483647 : Int32)) < (1 : Int32) := own_one (own_m31 p2) hc14_34
    obtain ⟨lv, el⟩ : ∃ z, z = (p2 &&& (2147483647 : Int32)) := ⟨_, rfl⟩
    rw [← el] at hl ⊢
    have hc := own_m31 p1
    obtain ⟨cp, ec⟩ : ∃ z, z = (p1 &&& (2147483647 : Int32)) := ⟨_, rfl⟩
    rw [← ec] at hc ⊢
    show own_Fin _ _ _ _ _ _ (s₁.setTop (mkF m 36 #[.val (.int p1), .val (.int p2), .val (.int p3), .val (.int p4), .val (.int cp), .val (.int lv), .unset, .unset, .unset, .unset, .unset] [(.float f)]))
    refine own_to (fun t k => XS.fstore X0.here hx rfl (hb hby at_36) rfl (l' := #[.val (.int p1), .val (.int p2), .val (.int p3), .val (.int p4), .val (.int cp), .val (.int lv), .val (.float f), .unset, .unset, .unset, .unset]) rfl k) ?_
    show own_Fin _ _ _ _ _ _ (s₁.setTop (mkF m 38 #[.val (.int p1), .val (.int p2), .val (.int p3), .val (.int p4), .val (.int cp), .val (.int lv), .val (.float f), .unset, .unset, .unset, .unset] []))
    refine own_to (fun t k => XS.iload X0.here hx rfl (hb hby at_38) rfl k) ?_
    show own_Fin _ _ _ _ _ _ (s₁.setTop (mkF m 40 #[.val (.int p1), .val (.int p2), .val (.int p3), .val (.int p4), .val (.int cp), .val (.int lv), .val (.float f), .unset, .unset, .unset, .unset] [(.int cp)]))
    refine own_to (fun t k => XS.fload X0.here hx rfl (hb hby at_40) rfl k) ?_
    show own_Fin _ _ _ _ _ _ (s₁.setTop (mkF m 42 #[.val (.int p1), .val (.int p2), .val (.int p3), .val (.int p4), .val (.int cp), .val (.int lv), .val (.float f), .unset, .unset, .unset, .unset] [(.float f), (.int cp)]))
    refine own_to (fun t k => XS.iload X0.here hx rfl (hb hby at_42) rfl k) ?_
    show own_Fin _ _ _ _ _ _ (s₁.setTop (mkF m 44 #[.val (.int p1), .val (.int p2), .val (.int p3), .val (.int p4), .val (.int cp), .val (.int lv), .val (.float f), .unset, .unset, .unset, .unset] [(.int lv), (.float f), (.int cp)]))
    obtain ⟨_, _, ⟨T40, L40, k40, n40⟩, -, X40, ⟨Lc40, hQ40, l40, y40, z40⟩, st40⟩ := Jvm.LawKit.callS X0 hx (y := (⟨"com/example/stripeline/stripeline/Sizing", "tableLength", "(IFI)I"⟩ : MethodName)) hown (mvT hZ (hw _ (List.mem_of_getElem? (i := 1) rfl))) (mvT hZ (hw _ (List.mem_of_getElem? (i := 2) rfl))) (mvT hZ (hw _ (List.mem_of_getElem? (i := 3) rfl))) (mvT hZ (hw _ (List.mem_of_getElem? (i := 4) rfl))) (by decide) (own_back (W := 0) (own_rm1 l Z a0 hw [] cp f lv h0 n0 Z0 hc hF hl) hZ (hw _ (List.mem_of_getElem? (i := 4) rfl)) (hw _ (List.mem_of_getElem? (i := 3) rfl)) (by decide) (by decide)) (g := (mkF m 44 #[.val (.int p1), .val (.int p2), .val (.int p3), .val (.int p4), .val (.int cp), .val (.int lv), .val (.float f), .unset, .unset, .unset, .unset] [(.int lv), (.float f), (.int cp)])) rfl (by rw [hml]; rfl) (argsL := [(.int cp), (.float f), (.int lv)]) (rest := []) (lenOf own_pd1 rfl) rfl (by show 2 * 0 + _ ≤ _; exact Nat.le_of_eq rfl) (hb hby at_44) (fun _ _ => ⟨rfl, e0, (by decide : 0 + 0 ≤ _), (by decide : 0 + 0 ≤ _)⟩)
    dsimp only [Pt.U, Pt.locs, Pt.cells, Pt.slots] at X40 l40 y40 z40 st40 hQ40
    subst l40 y40 z40
    obtain ⟨n, rfl, N40q, eh40, hT⟩ := hQ40
    have N40 := Fr.app N0 N40q
    refine own_to (fun t k => st40 t k) ?_
    show own_Fin _ _ _ _ _ _ (T40.setTop (mkF m 47 #[.val (.int p1), .val (.int p2), .val (.int p3), .val (.int p4), .val (.int cp), .val (.int lv), .val (.float f), .unset, .unset, .unset, .unset] [(.int n)]))
    obtain ⟨mx, em⟩ : ∃ z, z = own_max cp lv := ⟨_, rfl⟩
    rw [← em] at hT
    obtain ⟨t1, t2, t3, t4, t5⟩ := hT
    refine own_to (fun t k => XS.istore X40.here hx rfl (hb hby at_47) rfl (l' := #[.val (.int p1), .val (.int p2), .val (.int p3), .val (.int p4), .val (.int cp), .val (.int lv), .val (.float f), .val (.int n), .unset, .unset, .unset]) rfl k) ?_
    show own_Fin _ _ _ _ _ _ (T40.setTop (mkF m 49 #[.val (.int p1), .val (.int p2), .val (.int p3), .val (.int p4), .val (.int cp), .val (.int lv), .val (.float f), .val (.int n), .unset, .unset, .unset] []))
    refine own_to (fun t k => XS.iload X40.here hx rfl (hb hby at_49) rfl k) ?_
    show own_Fin _ _ _ _ _ _ (T40.setTop (mkF m 51 #[.val (.int p1), .val (.int p2), .val (.int p3), .val (.int p4), .val (.int cp), .val (.int lv), .val (.float f), .val (.int n), .unset, .unset, .unset] [(.int cp)]))
    refine own_to (fun t k => XS.iload X40.here hx rfl (hb hby at_51) rfl k) ?_
    show own_Fin _ _ _ _ _ _ (T40.setTop (mkF m 53 #[.val (.int p1), .val (.int p2), .val (.int p3), .val (.int p4), .val (.int cp), .val (.int lv), .val (.float f), .val (.int n), .unset, .unset, .unset] [(.int lv), (.int cp)]))
    obtain ⟨_, _, ⟨T41, L41, k41, n41⟩, -, X41, ⟨Lc41, hQ41, l41, y41, z41⟩, st41⟩ := Jvm.LawKit.callS X40 hx (y := (⟨"java/lang/Math", "max", "(II)I"⟩ : MethodName)) hown (mvT hZ (hw _ (List.mem_of_getElem? (i := 9) rfl))) (mvT hZ (hw _ (List.mem_of_getElem? (i := 10) rfl))) (mvT hZ (hw _ (List.mem_of_getElem? (i := 11) rfl))) (mvT hZ (hw _ (List.mem_of_getElem? (i := 12) rfl))) (by decide) (own_back (W := 0) (own_rm3 l Z a0 hw [] cp lv h0 n0 Z0) hZ (hw _ (List.mem_of_getElem? (i := 12) rfl)) (hw _ (List.mem_of_getElem? (i := 11) rfl)) (by decide) (by decide)) (g := (mkF m 53 #[.val (.int p1), .val (.int p2), .val (.int p3), .val (.int p4), .val (.int cp), .val (.int lv), .val (.float f), .val (.int n), .unset, .unset, .unset] [(.int lv), (.int cp)])) rfl (by rw [hml]; rfl) (argsL := [(.int cp), (.int lv)]) (rest := []) (lenOf own_pd2 rfl) rfl (by show 2 * 0 + _ ≤ _; exact Nat.le_of_eq rfl) (hb hby at_53) (fun _ _ => ⟨rfl, eh40, (by decide : 0 + 0 ≤ _), (by decide : 0 + 0 ≤ _)⟩)
    dsimp only [Pt.U, Pt.locs, Pt.cells, Pt.slots] at X41 l41 y41 z41 st41 hQ41
    subst l41 y41 z41
    obtain ⟨rfl, N41q, eh41⟩ := hQ41
    have N41 := Fr.app N40 N41q
    refine own_to (fun t k => st41 t k) ?_
    show own_Fin _ _ _ _ _ _ (T41.setTop (mkF m 56 #[.val (.int p1), .val (.int p2), .val (.int p3), .val (.int p4), .val (.int cp), .val (.int lv), .val (.float f), .val (.int n), .unset, .unset, .unset] [(.int (own_max cp lv))]))
    rw [← em]
    show own_Fin _ _ _ _ _ _ (T41.setTop (mkF m 56 #[.val (.int p1), .val (.int p2), .val (.int p3), .val (.int p4), .val (.int cp), .val (.int lv), .val (.float f), .val (.int n), .unset, .unset, .unset] [(.int mx)]))
    refine own_to (fun t k => XS.istore X41.here hx rfl (hb hby at_56) rfl (l' := #[.val (.int p1), .val (.int p2), .val (.int p3), .val (.int p4), .val (.int cp), .val (.int lv), .val (.float f), .val (.int n), .val (.int mx), .unset, .unset]) rfl k) ?_
    show own_Fin _ _ _ _ _ _ (T41.setTop (mkF m 58 #[.val (.int p1), .val (.int p2), .val (.int p3), .val (.int p4), .val (.int cp), .val (.int lv), .val (.float f), .val (.int n), .val (.int mx), .unset, .unset] []))
    refine own_to (fun t k => XS.iload X41.here hx rfl (hb hby at_58) rfl k) ?_
    show own_Fin _ _ _ _ _ _ (T41.setTop (mkF m 60 #[.val (.int p1), .val (.int p2), .val (.int p3), .val (.int p4), .val (.int cp), .val (.int lv), .val (.float f), .val (.int n), .val (.int mx), .unset, .unset] [(.int n)]))
    refine own_to (fun t k => XS.iconst X41.here hx rfl (hb hby at_60) k) ?_
    show own_Fin _ _ _ _ _ _ (T41.setTop (mkF m 61 #[.val (.int p1), .val (.int p2), .val (.int p3), .val (.int p4), .val (.int cp), .val (.int lv), .val (.float f), .val (.int n), .val (.int mx), .unset, .unset] [(.int (2 : Int32)), (.int n)]))
    refine own_to (fun t k => XS.icmpNo X41.here hx rfl (hb hby at_61) rfl (flt t1).1 k) ?_
    show own_Fin _ _ _ _ _ _ (T41.setTop (mkF m 64 #[.val (.int p1), .val (.int p2), .val (.int p3), .val (.int p4), .val (.int cp), .val (.int lv), .val (.float f), .val (.int n), .val (.int mx), .unset, .unset] []))
    refine own_to (fun t k => XS.iload X41.here hx rfl (hb hby at_64) rfl k) ?_
    show own_Fin _ _ _ _ _ _ (T41.setTop (mkF m 66 #[.val (.int p1), .val (.int p2), .val (.int p3), .val (.int p4), .val (.int cp), .val (.int lv), .val (.float f), .val (.int n), .val (.int mx), .unset, .unset] [(.int n)]))
    refine own_to (fun t k => X41.ldcInt hx hown (mvT hZ (hw _ (List.mem_of_getElem? (i := 13) rfl))) (g := (mkF m 66 #[.val (.int p1), .val (.int p2), .val (.int p3), .val (.int p4), .val (.int cp), .val (.int lv), .val (.float f), .val (.int n), .val (.int mx), .unset, .unset] [(.int n)])) rfl (hb hby at_66) _ k) ?_
    show own_Fin _ _ _ _ _ _ (T41.setTop (mkF m 68 #[.val (.int p1), .val (.int p2), .val (.int p3), .val (.int p4), .val (.int cp), .val (.int lv), .val (.float f), .val (.int n), .val (.int mx), .unset, .unset] [(.int (1073741824 : Int32)), (.int n)]))
    refine own_to (fun t k => XS.icmpYes X41.here hx rfl (pc0 := 68) (pc' := 73) rfl (hb hby at_68) rfl (flt t2).2.2.2 (by decide) (by decide) k) ?_
    show own_Fin _ _ _ _ _ _ (T41.setTop (mkF m 73 #[.val (.int p1), .val (.int p2), .val (.int p3), .val (.int p4), .val (.int cp), .val (.int lv), .val (.float f), .val (.int n), .val (.int mx), .unset, .unset] []))
    refine own_to (fun t k => XS.iload X41.here hx rfl (hb hby at_73) rfl k) ?_
    show own_Fin _ _ _ _ _ _ (T41.setTop (mkF m 75 #[.val (.int p1), .val (.int p2), .val (.int p3), .val (.int p4), .val (.int cp), .val (.int lv), .val (.float f), .val (.int n), .val (.int mx), .unset, .unset] [(.int n)]))
    refine own_to (fun t k => XS.iload X41.here hx rfl (hb hby at_75) rfl k) ?_
    show own_Fin _ _ _ _ _ _ (T41.setTop (mkF m 77 #[.val (.int p1), .val (.int p2), .val (.int p3), .val (.int p4), .val (.int cp), .val (.int lv), .val (.float f), .val (.int n), .val (.int mx), .unset, .unset] [(.int n), (.int n)]))
    refine own_to (fun t k => XS.iconst X41.here hx rfl (hb hby at_77) k) ?_
    show own_Fin _ _ _ _ _ _ (T41.setTop (mkF m 78 #[.val (.int p1), .val (.int p2), .val (.int p3), .val (.int p4), .val (.int cp), .val (.int lv), .val (.float f), .val (.int n), .val (.int mx), .unset, .unset] [(.int (1 : Int32)), (.int n), (.int n)]))
    refine own_to (fun t k => XS.isub X41.here hx rfl (hb hby at_78) rfl k) ?_
    show own_Fin _ _ _ _ _ _ (T41.setTop (mkF m 79 #[.val (.int p1), .val (.int p2), .val (.int p3), .val (.int p4), .val (.int cp), .val (.int lv), .val (.float f), .val (.int n), .val (.int mx), .unset, .unset] [(.int (n - (1 : Int32))), (.int n)]))
    refine own_to (fun t k => XS.iand X41.here hx rfl (hb hby at_79) rfl k) ?_
    show own_Fin _ _ _ _ _ _ (T41.setTop (mkF m 80 #[.val (.int p1), .val (.int p2), .val (.int p3), .val (.int p4), .val (.int cp), .val (.int lv), .val (.float f), .val (.int n), .val (.int mx), .unset, .unset] [(.int (n &&& (n - (1 : Int32))))]))
    refine own_to (fun t k => XS.ifYes X41.here hx rfl (pc0 := 80) (pc' := 85) rfl (hb hby at_80) rfl ((if0 _ _).trans (teq t3).1) (by decide) (by decide) k) ?_
    show own_Fin _ _ _ _ _ _ (T41.setTop (mkF m 85 #[.val (.int p1), .val (.int p2), .val (.int p3), .val (.int p4), .val (.int cp), .val (.int lv), .val (.float f), .val (.int n), .val (.int mx), .unset, .unset] []))
    refine own_to (fun t k => XS.iload X41.here hx rfl (hb hby at_85) rfl k) ?_
    show own_Fin _ _ _ _ _ _ (T41.setTop (mkF m 87 #[.val (.int p1), .val (.int p2), .val (.int p3), .val (.int p4), .val (.int cp), .val (.int lv), .val (.float f), .val (.int n), .val (.int mx), .unset, .unset] [(.int n)]))
    refine own_to (fun t k => X41.ldcInt hx hown (mvT hZ (hw _ (List.mem_of_getElem? (i := 13) rfl))) (g := (mkF m 87 #[.val (.int p1), .val (.int p2), .val (.int p3), .val (.int p4), .val (.int cp), .val (.int lv), .val (.float f), .val (.int n), .val (.int mx), .unset, .unset] [(.int n)])) rfl (hb hby at_87) _ k) ?_
    show own_Fin _ _ _ _ _ _ (T41.setTop (mkF m 89 #[.val (.int p1), .val (.int p2), .val (.int p3), .val (.int p4), .val (.int cp), .val (.int lv), .val (.float f), .val (.int n), .val (.int mx), .unset, .unset] [(.int (1073741824 : Int32)), (.int n)]))
    by_cases hc89_42 : n = (1073741824 : Int32)
    ·
      show own_Fin _ _ _ _ _ _ (T41.setTop (mkF m 89 #[.val (.int p1), .val (.int p2), .val (.int p3), .val (.int p4), .val (.int cp), .val (.int lv), .val (.float f), .val (.int n), .val (.int mx), .unset, .unset] [(.int (1073741824 : Int32)), (.int n)]))
      refine own_to (fun t k => XS.icmpYes X41.here hx rfl (pc0 := 89) (pc' := 106) rfl (hb hby at_89) rfl (teq hc89_42).1 (by decide) (by decide) k) ?_
      show own_Fin _ _ _ _ _ _ (T41.setTop (mkF m 106 #[.val (.int p1), .val (.int p2), .val (.int p3), .val (.int p4), .val (.int cp), .val (.int lv), .val (.float f), .val (.int n), .val (.int mx), .unset, .unset] []))
      refine own_to (fun t k => XS.iconst X41.here hx rfl (hb hby at_106) k) ?_
      show own_Fin _ _ _ _ _ _ (T41.setTop (mkF m 107 #[.val (.int p1), .val (.int p2), .val (.int p3), .val (.int p4), .val (.int cp), .val (.int lv), .val (.float f), .val (.int n), .val (.int mx), .unset, .unset] [(.int (1 : Int32))]))
      refine own_to (fun t k => XS.goto X41.here hx rfl (pc0 := 107) (pc' := 111) rfl (hb hby at_107) (by decide) (by decide) k) ?_
      show own_Fin _ _ _ _ _ _ (T41.setTop (mkF m 111 #[.val (.int p1), .val (.int p2), .val (.int p3), .val (.int p4), .val (.int cp), .val (.int lv), .val (.float f), .val (.int n), .val (.int mx), .unset, .unset] [(.int (1 : Int32))]))
      refine own_to (fun t k => XS.istore X41.here hx rfl (hb hby at_111) rfl (l' := #[.val (.int p1), .val (.int p2), .val (.int p3), .val (.int p4), .val (.int cp), .val (.int lv), .val (.float f), .val (.int n), .val (.int mx), .val (.int (1 : Int32)), .unset]) rfl k) ?_
      show own_Fin _ _ _ _ _ _ (T41.setTop (mkF m 113 #[.val (.int p1), .val (.int p2), .val (.int p3), .val (.int p4), .val (.int cp), .val (.int lv), .val (.float f), .val (.int n), .val (.int mx), .val (.int (1 : Int32)), .unset] []))
      refine own_to (fun t k => XS.iload X41.here hx rfl (hb hby at_113) rfl k) ?_
      show own_Fin _ _ _ _ _ _ (T41.setTop (mkF m 115 #[.val (.int p1), .val (.int p2), .val (.int p3), .val (.int p4), .val (.int cp), .val (.int lv), .val (.float f), .val (.int n), .val (.int mx), .val (.int (1 : Int32)), .unset] [(.int n)]))
      refine own_to (fun t k => XS.iconst X41.here hx rfl (hb hby at_115) k) ?_
      show own_Fin _ _ _ _ _ _ (T41.setTop (mkF m 116 #[.val (.int p1), .val (.int p2), .val (.int p3), .val (.int p4), .val (.int cp), .val (.int lv), .val (.float f), .val (.int n), .val (.int mx), .val (.int (1 : Int32)), .unset] [(.int (2 : Int32)), (.int n)]))
      by_cases hc116_43 : n = (2 : Int32)
      ·
        show own_Fin _ _ _ _ _ _ (T41.setTop (mkF m 116 #[.val (.int p1), .val (.int p2), .val (.int p3), .val (.int p4), .val (.int cp), .val (.int lv), .val (.float f), .val (.int n), .val (.int mx), .val (.int (1 : Int32)), .unset] [(.int (2 : Int32)), (.int n)]))
        refine own_to (fun t k => XS.icmpYes X41.here hx rfl (pc0 := 116) (pc' := 135) rfl (hb hby at_116) rfl (teq hc116_43).1 (by decide) (by decide) k) ?_
        show own_Fin _ _ _ _ _ _ (T41.setTop (mkF m 135 #[.val (.int p1), .val (.int p2), .val (.int p3), .val (.int p4), .val (.int cp), .val (.int lv), .val (.float f), .val (.int n), .val (.int mx), .val (.int (1 : Int32)), .unset] []))
        refine own_to (fun t k => XS.iconst X41.here hx rfl (hb hby at_135) k) ?_
        show own_Fin _ _ _ _ _ _ (T41.setTop (mkF m 136 #[.val (.int p1), .val (.int p2), .val (.int p3), .val (.int p4), .val (.int cp), .val (.int lv), .val (.float f), .val (.int n), .val (.int mx), .val (.int (1 : Int32)), .unset] [(.int (1 : Int32))]))
        refine own_to (fun t k => XS.goto X41.here hx rfl (pc0 := 136) (pc' := 140) rfl (hb hby at_136) (by decide) (by decide) k) ?_
        show own_Fin _ _ _ _ _ _ (T41.setTop (mkF m 140 #[.val (.int p1), .val (.int p2), .val (.int p3), .val (.int p4), .val (.int cp), .val (.int lv), .val (.float f), .val (.int n), .val (.int mx), .val (.int (1 : Int32)), .unset] [(.int (1 : Int32))]))
        refine own_to (fun t k => XS.istore X41.here hx rfl (hb hby at_140) rfl (l' := #[.val (.int p1), .val (.int p2), .val (.int p3), .val (.int p4), .val (.int cp), .val (.int lv), .val (.float f), .val (.int n), .val (.int mx), .val (.int (1 : Int32)), .val (.int (1 : Int32))]) rfl k) ?_
        show own_Fin _ _ _ _ _ _ (T41.setTop (mkF m 142 #[.val (.int p1), .val (.int p2), .val (.int p3), .val (.int p4), .val (.int cp), .val (.int lv), .val (.float f), .val (.int n), .val (.int mx), .val (.int (1 : Int32)), .val (.int (1 : Int32))] []))
        refine own_to (fun t k => XS.iload X41.here hx rfl (hb hby at_142) rfl k) ?_
        show own_Fin _ _ _ _ _ _ (T41.setTop (mkF m 144 #[.val (.int p1), .val (.int p2), .val (.int p3), .val (.int p4), .val (.int cp), .val (.int lv), .val (.float f), .val (.int n), .val (.int mx), .val (.int (1 : Int32)), .val (.int (1 : Int32))] [(.int (1 : Int32))]))
        refine own_to (fun t k => XS.ifNo X41.here hx rfl (hb hby at_144) rfl ((if0 _ _).trans (feq (by decide)).1) k) ?_
        show own_Fin _ _ _ _ _ _ (T41.setTop (mkF m 147 #[.val (.int p1), .val (.int p2), .val (.int p3), .val (.int p4), .val (.int cp), .val (.int lv), .val (.float f), .val (.int n), .val (.int mx), .val (.int (1 : Int32)), .val (.int (1 : Int32))] []))
        refine own_to (fun t k => XS.iload X41.here hx rfl (hb hby at_147) rfl k) ?_
        show own_Fin _ _ _ _ _ _ (T41.setTop (mkF m 149 #[.val (.int p1), .val (.int p2), .val (.int p3), .val (.int p4), .val (.int cp), .val (.int lv), .val (.float f), .val (.int n), .val (.int mx), .val (.int (1 : Int32)), .val (.int (1 : Int32))] [(.int (1 : Int32))]))
        refine own_to (fun t k => XS.ifNo X41.here hx rfl (hb hby at_149) rfl ((if0 _ _).trans (feq (by decide)).1) k) ?_
        show own_Fin _ _ _ _ _ _ (T41.setTop (mkF m 152 #[.val (.int p1), .val (.int p2), .val (.int p3), .val (.int p4), .val (.int cp), .val (.int lv), .val (.float f), .val (.int n), .val (.int mx), .val (.int (1 : Int32)), .val (.int (1 : Int32))] []))
        refine own_to (fun t k => XS.iconst X41.here hx rfl (hb hby at_152) k) ?_
        show own_Fin _ _ _ _ _ _ (T41.setTop (mkF m 153 #[.val (.int p1), .val (.int p2), .val (.int p3), .val (.int p4), .val (.int cp), .val (.int lv), .val (.float f), .val (.int n), .val (.int mx), .val (.int (1 : Int32)), .val (.int (1 : Int32))] [(.int (1 : Int32))]))
        refine own_to (fun t k => XS.goto X41.here hx rfl (pc0 := 153) (pc' := 157) rfl (hb hby at_153) (by decide) (by decide) k) ?_
        show own_Fin _ _ _ _ _ _ (T41.setTop (mkF m 157 #[.val (.int p1), .val (.int p2), .val (.int p3), .val (.int p4), .val (.int cp), .val (.int lv), .val (.float f), .val (.int n), .val (.int mx), .val (.int (1 : Int32)), .val (.int (1 : Int32))] [(.int (1 : Int32))]))
        refine own_retN X41 hx hlk (t := .boolean) hret (by simp) (hb hby at_157) (by decide) (by decide) ?_
        try rw [eh41]
        exact ⟨rfl, N41⟩
      ·
        show own_Fin _ _ _ _ _ _ (T41.setTop (mkF m 116 #[.val (.int p1), .val (.int p2), .val (.int p3), .val (.int p4), .val (.int cp), .val (.int lv), .val (.float f), .val (.int n), .val (.int mx), .val (.int (1 : Int32)), .unset] [(.int (2 : Int32)), (.int n)]))
        refine own_to (fun t k => XS.icmpNo X41.here hx rfl (hb hby at_116) rfl (feq hc116_43).1 k) ?_
        show own_Fin _ _ _ _ _ _ (T41.setTop (mkF m 119 #[.val (.int p1), .val (.int p2), .val (.int p3), .val (.int p4), .val (.int cp), .val (.int lv), .val (.float f), .val (.int n), .val (.int mx), .val (.int (1 : Int32)), .unset] []))
        refine own_to (fun t k => XS.iload X41.here hx rfl (hb hby at_119) rfl k) ?_
        show own_Fin _ _ _ _ _ _ (T41.setTop (mkF m 121 #[.val (.int p1), .val (.int p2), .val (.int p3), .val (.int p4), .val (.int cp), .val (.int lv), .val (.float f), .val (.int n), .val (.int mx), .val (.int (1 : Int32)), .unset] [(.int n)]))
        refine own_to (fun t k => XS.iconst X41.here hx rfl (hb hby at_121) k) ?_
        show own_Fin _ _ _ _ _ _ (T41.setTop (mkF m 122 #[.val (.int p1), .val (.int p2), .val (.int p3), .val (.int p4), .val (.int cp), .val (.int lv), .val (.float f), .val (.int n), .val (.int mx), .val (.int (1 : Int32)), .unset] [(.int (2 : Int32)), (.int n)]))
        refine own_to (fun t k => XS.idiv X41.here hx rfl (hb hby at_122) rfl (by decide) k) ?_
        show own_Fin _ _ _ _ _ _ (T41.setTop (mkF m 123 #[.val (.int p1), .val (.int p2), .val (.int p3), .val (.int p4), .val (.int cp), .val (.int lv), .val (.float f), .val (.int n), .val (.int mx), .val (.int (1 : Int32)), .unset] [(.int (n / (2 : Int32)))]))
        refine own_to (fun t k => XS.i2dS X41.here hx rfl (hb hby at_123) rfl rfl k) ?_
        show own_Fin _ _ _ _ _ _ (T41.setTop (mkF m 124 #[.val (.int p1), .val (.int p2), .val (.int p3), .val (.int p4), .val (.int cp), .val (.int lv), .val (.float f), .val (.int n), .val (.int mx), .val (.int (1 : Int32)), .unset] [(.double (FP.i2d (n / (2 : Int32))))]))
        refine own_to (fun t k => XS.fload X41.here hx rfl (hb hby at_124) rfl k) ?_
        show own_Fin _ _ _ _ _ _ (T41.setTop (mkF m 126 #[.val (.int p1), .val (.int p2), .val (.int p3), .val (.int p4), .val (.int cp), .val (.int lv), .val (.float f), .val (.int n), .val (.int mx), .val (.int (1 : Int32)), .unset] [(.float f), (.double (FP.i2d (n / (2 : Int32))))]))
        refine own_to (fun t k => XS.f2dS X41.here hx rfl (hb hby at_126) rfl hF.nd rfl k) ?_
        show own_Fin _ _ _ _ _ _ (T41.setTop (mkF m 127 #[.val (.int p1), .val (.int p2), .val (.int p3), .val (.int p4), .val (.int cp), .val (.int lv), .val (.float f), .val (.int n), .val (.int mx), .val (.int (1 : Int32)), .unset] [(.double (FP.f2d f)), (.double (FP.i2d (n / (2 : Int32))))]))
        refine own_to (fun t k => XS.dmulS X41.here hx rfl (hb hby at_127) rfl (hF.nm _) rfl k) ?_
        show own_Fin _ _ _ _ _ _ (T41.setTop (mkF m 128 #[.val (.int p1), .val (.int p2), .val (.int p3), .val (.int p4), .val (.int cp), .val (.int lv), .val (.float f), .val (.int n), .val (.int mx), .val (.int (1 : Int32)), .unset] [(.double (FP.dmul (FP.i2d (n / (2 : Int32))) (FP.f2d f)))]))
        refine own_to (fun t k => XS.iload X41.here hx rfl (hb hby at_128) rfl k) ?_
        show own_Fin _ _ _ _ _ _ (T41.setTop (mkF m 130 #[.val (.int p1), .val (.int p2), .val (.int p3), .val (.int p4), .val (.int cp), .val (.int lv), .val (.float f), .val (.int n), .val (.int mx), .val (.int (1 : Int32)), .unset] [(.int mx), (.double (FP.dmul (FP.i2d (n / (2 : Int32))) (FP.f2d f)))]))
        refine own_to (fun t k => XS.i2dS X41.here hx rfl (hb hby at_130) rfl rfl k) ?_
        show own_Fin _ _ _ _ _ _ (T41.setTop (mkF m 131 #[.val (.int p1), .val (.int p2), .val (.int p3), .val (.int p4), .val (.int cp), .val (.int lv), .val (.float f), .val (.int n), .val (.int mx), .val (.int (1 : Int32)), .unset] [(.double (FP.i2d mx)), (.double (FP.dmul (FP.i2d (n / (2 : Int32))) (FP.f2d f)))]))
        refine own_to (fun t k => XS.dcmpS X41.here hx rfl (hb hby at_131) rfl rfl k) ?_
        show own_Fin _ _ _ _ _ _ (T41.setTop (mkF m 132 #[.val (.int p1), .val (.int p2), .val (.int p3), .val (.int p4), .val (.int cp), .val (.int lv), .val (.float f), .val (.int n), .val (.int mx), .val (.int (1 : Int32)), .unset] [(.int (cmpValue (FP.dcmp (FP.dmul (FP.i2d (n / (2 : Int32))) (FP.f2d f)) (FP.i2d mx)) .g))]))
        have tg := t5 hc116_43
        show own_Fin _ _ _ _ _ _ (T41.setTop (mkF m 132 #[.val (.int p1), .val (.int p2), .val (.int p3), .val (.int p4), .val (.int cp), .val (.int lv), .val (.float f), .val (.int n), .val (.int mx), .val (.int (1 : Int32)), .unset] [(.int (own_G mx f (n / (2 : Int32))))]))
        refine own_to (fun t k => XS.ifNo X41.here hx rfl (hb hby at_132) rfl ((if0 _ _).trans (tlt tg).2.1) k) ?_
        show own_Fin _ _ _ _ _ _ (T41.setTop (mkF m 135 #[.val (.int p1), .val (.int p2), .val (.int p3), .val (.int p4), .val (.int cp), .val (.int lv), .val (.float f), .val (.int n), .val (.int mx), .val (.int (1 : Int32)), .unset] []))
        refine own_to (fun t k => XS.iconst X41.here hx rfl (hb hby at_135) k) ?_
        show own_Fin _ _ _ _ _ _ (T41.setTop (mkF m 136 #[.val (.int p1), .val (.int p2), .val (.int p3), .val (.int p4), .val (.int cp), .val (.int lv), .val (.float f), .val (.int n), .val (.int mx), .val (.int (1 : Int32)), .unset] [(.int (1 : Int32))]))
        refine own_to (fun t k => XS.goto X41.here hx rfl (pc0 := 136) (pc' := 140) rfl (hb hby at_136) (by decide) (by decide) k) ?_
        show own_Fin _ _ _ _ _ _ (T41.setTop (mkF m 140 #[.val (.int p1), .val (.int p2), .val (.int p3), .val (.int p4), .val (.int cp), .val (.int lv), .val (.float f), .val (.int n), .val (.int mx), .val (.int (1 : Int32)), .unset] [(.int (1 : Int32))]))
        refine own_to (fun t k => XS.istore X41.here hx rfl (hb hby at_140) rfl (l' := #[.val (.int p1), .val (.int p2), .val (.int p3), .val (.int p4), .val (.int cp), .val (.int lv), .val (.float f), .val (.int n), .val (.int mx), .val (.int (1 : Int32)), .val (.int (1 : Int32))]) rfl k) ?_
        show own_Fin _ _ _ _ _ _ (T41.setTop (mkF m 142 #[.val (.int p1), .val (.int p2), .val (.int p3), .val (.int p4), .val (.int cp), .val (.int lv), .val (.float f), .val (.int n), .val (.int mx), .val (.int (1 : Int32)), .val (.int (1 : Int32))] []))
        refine own_to (fun t k => XS.iload X41.here hx rfl (hb hby at_142) rfl k) ?_
        show own_Fin _ _ _ _ _ _ (T41.setTop (mkF m 144 #[.val (.int p1), .val (.int p2), .val (.int p3), .val (.int p4), .val (.int cp), .val (.int lv), .val (.float f), .val (.int n), .val (.int mx), .val (.int (1 : Int32)), .val (.int (1 : Int32))] [(.int (1 : Int32))]))
        refine own_to (fun t k => XS.ifNo X41.here hx rfl (hb hby at_144) rfl ((if0 _ _).trans (feq (by decide)).1) k) ?_
        show own_Fin _ _ _ _ _ _ (T41.setTop (mkF m 147 #[.val (.int p1), .val (.int p2), .val (.int p3), .val (.int p4), .val (.int cp), .val (.int lv), .val (.float f), .val (.int n), .val (.int mx), .val (.int (1 : Int32)), .val (.int (1 : Int32))] []))
        refine own_to (fun t k => XS.iload X41.here hx rfl (hb hby at_147) rfl k) ?_
        show own_Fin _ _ _ _ _ _ (T41.setTop (mkF m 149 #[.val (.int p1), .val (.int p2), .val (.int p3), .val (.int p4), .val (.int cp), .val (.int lv), .val (.float f), .val (.int n), .val (.int mx), .val (.int (1 : Int32)), .val (.int (1 : Int32))] [(.int (1 : Int32))]))
        refine own_to (fun t k => XS.ifNo X41.here hx rfl (hb hby at_149) rfl ((if0 _ _).trans (feq (by decide)).1) k) ?_
        show own_Fin _ _ _ _ _ _ (T41.setTop (mkF m 152 #[.val (.int p1), .val (.int p2), .val (.int p3), .val (.int p4), .val (.int cp), .val (.int lv), .val (.float f), .val (.int n), .val (.int mx), .val (.int (1 : Int32)), .val (.int (1 : Int32))] []))
        refine own_to (fun t k => XS.iconst X41.here hx rfl (hb hby at_152) k) ?_
        show own_Fin _ _ _ _ _ _ (T41.setTop (mkF m 153 #[.val (.int p1), .val (.int p2), .val (.int p3), .val (.int p4), .val (.int cp), .val (.int lv), .val (.float f), .val (.int n), .val (.int mx), .val (.int (1 : Int32)), .val (.int (1 : Int32))] [(.int (1 : Int32))]))
        refine own_to (fun t k => XS.goto X41.here hx rfl (pc0 := 153) (pc' := 157) rfl (hb hby at_153) (by decide) (by decide) k) ?_
        show own_Fin _ _ _ _ _ _ (T41.setTop (mkF m 157 #[.val (.int p1), .val (.int p2), .val (.int p3), .val (.int p4), .val (.int cp), .val (.int lv), .val (.float f), .val (.int n), .val (.int mx), .val (.int (1 : Int32)), .val (.int (1 : Int32))] [(.int (1 : Int32))]))
        refine own_retN X41 hx hlk (t := .boolean) hret (by simp) (hb hby at_157) (by decide) (by decide) ?_
        try rw [eh41]
        exact ⟨rfl, N41⟩
    ·
      show own_Fin _ _ _ _ _ _ (T41.setTop (mkF m 89 #[.val (.int p1), .val (.int p2), .val (.int p3), .val (.int p4), .val (.int cp), .val (.int lv), .val (.float f), .val (.int n), .val (.int mx), .unset, .unset] [(.int (1073741824 : Int32)), (.int n)]))
      refine own_to (fun t k => XS.icmpNo X41.here hx rfl (hb hby at_89) rfl (feq hc89_42).1 k) ?_
      show own_Fin _ _ _ _ _ _ (T41.setTop (mkF m 92 #[.val (.int p1), .val (.int p2), .val (.int p3), .val (.int p4), .val (.int cp), .val (.int lv), .val (.float f), .val (.int n), .val (.int mx), .unset, .unset] []))
      refine own_to (fun t k => XS.iload X41.here hx rfl (hb hby at_92) rfl k) ?_
      show own_Fin _ _ _ _ _ _ (T41.setTop (mkF m 94 #[.val (.int p1), .val (.int p2), .val (.int p3), .val (.int p4), .val (.int cp), .val (.int lv), .val (.float f), .val (.int n), .val (.int mx), .unset, .unset] [(.int n)]))
      refine own_to (fun t k => XS.i2dS X41.here hx rfl (hb hby at_94) rfl rfl k) ?_
      show own_Fin _ _ _ _ _ _ (T41.setTop (mkF m 95 #[.val (.int p1), .val (.int p2), .val (.int p3), .val (.int p4), .val (.int cp), .val (.int lv), .val (.float f), .val (.int n), .val (.int mx), .unset, .unset] [(.double (FP.i2d n))]))
      refine own_to (fun t k => XS.fload X41.here hx rfl (hb hby at_95) rfl k) ?_
      show own_Fin _ _ _ _ _ _ (T41.setTop (mkF m 97 #[.val (.int p1), .val (.int p2), .val (.int p3), .val (.int p4), .val (.int cp), .val (.int lv), .val (.float f), .val (.int n), .val (.int mx), .unset, .unset] [(.float f), (.double (FP.i2d n))]))
      refine own_to (fun t k => XS.f2dS X41.here hx rfl (hb hby at_97) rfl hF.nd rfl k) ?_
      show own_Fin _ _ _ _ _ _ (T41.setTop (mkF m 98 #[.val (.int p1), .val (.int p2), .val (.int p3), .val (.int p4), .val (.int cp), .val (.int lv), .val (.float f), .val (.int n), .val (.int mx), .unset, .unset] [(.double (FP.f2d f)), (.double (FP.i2d n))]))
      refine own_to (fun t k => XS.dmulS X41.here hx rfl (hb hby at_98) rfl (hF.nm _) rfl k) ?_
      show own_Fin _ _ _ _ _ _ (T41.setTop (mkF m 99 #[.val (.int p1), .val (.int p2), .val (.int p3), .val (.int p4), .val (.int cp), .val (.int lv), .val (.float f), .val (.int n), .val (.int mx), .unset, .unset] [(.double (FP.dmul (FP.i2d n) (FP.f2d f)))]))
      refine own_to (fun t k => XS.iload X41.here hx rfl (hb hby at_99) rfl k) ?_
      show own_Fin _ _ _ _ _ _ (T41.setTop (mkF m 101 #[.val (.int p1), .val (.int p2), .val (.int p3), .val (.int p4), .val (.int cp), .val (.int lv), .val (.float f), .val (.int n), .val (.int mx), .unset, .unset] [(.int mx), (.double (FP.dmul (FP.i2d n) (FP.f2d f)))]))
      refine own_to (fun t k => XS.i2dS X41.here hx rfl (hb hby at_101) rfl rfl k) ?_
      show own_Fin _ _ _ _ _ _ (T41.setTop (mkF m 102 #[.val (.int p1), .val (.int p2), .val (.int p3), .val (.int p4), .val (.int cp), .val (.int lv), .val (.float f), .val (.int n), .val (.int mx), .unset, .unset] [(.double (FP.i2d mx)), (.double (FP.dmul (FP.i2d n) (FP.f2d f)))]))
      refine own_to (fun t k => XS.dcmpS X41.here hx rfl (hb hby at_102) rfl rfl k) ?_
      show own_Fin _ _ _ _ _ _ (T41.setTop (mkF m 103 #[.val (.int p1), .val (.int p2), .val (.int p3), .val (.int p4), .val (.int cp), .val (.int lv), .val (.float f), .val (.int n), .val (.int mx), .unset, .unset] [(.int (cmpValue (FP.dcmp (FP.dmul (FP.i2d n) (FP.f2d f)) (FP.i2d mx)) .l))]))
      have tl : ¬ own_L mx f n < (0 : Int32) := by rw [own_LG hF]; exact t4 hc89_42
      show own_Fin _ _ _ _ _ _ (T41.setTop (mkF m 103 #[.val (.int p1), .val (.int p2), .val (.int p3), .val (.int p4), .val (.int cp), .val (.int lv), .val (.float f), .val (.int n), .val (.int mx), .unset, .unset] [(.int (own_L mx f n))]))
      refine own_to (fun t k => XS.ifNo X41.here hx rfl (hb hby at_103) rfl ((if0 _ _).trans (flt tl).1) k) ?_
      show own_Fin _ _ _ _ _ _ (T41.setTop (mkF m 106 #[.val (.int p1), .val (.int p2), .val (.int p3), .val (.int p4), .val (.int cp), .val (.int lv), .val (.float f), .val (.int n), .val (.int mx), .unset, .unset] []))
      refine own_to (fun t k => XS.iconst X41.here hx rfl (hb hby at_106) k) ?_
      show own_Fin _ _ _ _ _ _ (T41.setTop (mkF m 107 #[.val (.int p1), .val (.int p2), .val (.int p3), .val (.int p4), .val (.int cp), .val (.int lv), .val (.float f), .val (.int n), .val (.int mx), .unset, .unset] [(.int (1 : Int32))]))
      refine own_to (fun t k => XS.goto X41.here hx rfl (pc0 := 107) (pc' := 111) rfl (hb hby at_107) (by decide) (by decide) k) ?_
      show own_Fin _ _ _ _ _ _ (T41.setTop (mkF m 111 #[.val (.int p1), .val (.int p2), .val (.int p3), .val (.int p4), .val (.int cp), .val (.int lv), .val (.float f), .val (.int n), .val (.int mx), .unset, .unset] [(.int (1 : Int32))]))
      refine own_to (fun t k => XS.istore X41.here hx rfl (hb hby at_111) rfl (l' := #[.val (.int p1), .val (.int p2), .val (.int p3), .val (.int p4), .val (.int cp), .val (.int lv), .val (.float f), .val (.int n), .val (.int mx), .val (.int (1 : Int32)), .unset]) rfl k) ?_
      show own_Fin _ _ _ _ _ _ (T41.setTop (mkF m 113 #[.val (.int p1), .val (.int p2), .val (.int p3), .val (.int p4), .val (.int cp), .val (.int lv), .val (.float f), .val (.int n), .val (.int mx), .val (.int (1 : Int32)), .unset] []))
      refine own_to (fun t k => XS.iload X41.here hx rfl (hb hby at_113) rfl k) ?_
      show own_Fin _ _ _ _ _ _ (T41.setTop (mkF m 115 #[.val (.int p1), .val (.int p2), .val (.int p3), .val (.int p4), .val (.int cp), .val (.int lv), .val (.float f), .val (.int n), .val (.int mx), .val (.int (1 : Int32)), .unset] [(.int n)]))
      refine own_to (fun t k => XS.iconst X41.here hx rfl (hb hby at_115) k) ?_
      show own_Fin _ _ _ _ _ _ (T41.setTop (mkF m 116 #[.val (.int p1), .val (.int p2), .val (.int p3), .val (.int p4), .val (.int cp), .val (.int lv), .val (.float f), .val (.int n), .val (.int mx), .val (.int (1 : Int32)), .unset] [(.int (2 : Int32)), (.int n)]))
      by_cases hc116_44 : n = (2 : Int32)
      ·
        show own_Fin _ _ _ _ _ _ (T41.setTop (mkF m 116 #[.val (.int p1), .val (.int p2), .val (.int p3), .val (.int p4), .val (.int cp), .val (.int lv), .val (.float f), .val (.int n), .val (.int mx), .val (.int (1 : Int32)), .unset] [(.int (2 : Int32)), (.int n)]))
        refine own_to (fun t k => XS.icmpYes X41.here hx rfl (pc0 := 116) (pc' := 135) rfl (hb hby at_116) rfl (teq hc116_44).1 (by decide) (by decide) k) ?_
        show own_Fin _ _ _ _ _ _ (T41.setTop (mkF m 135 #[.val (.int p1), .val (.int p2), .val (.int p3), .val (.int p4), .val (.int cp), .val (.int lv), .val (.float f), .val (.int n), .val (.int mx), .val (.int (1 : Int32)), .unset] []))
        refine own_to (fun t k => XS.iconst X41.here hx rfl (hb hby at_135) k) ?_
        show own_Fin _ _ _ _ _ _ (T41.setTop (mkF m 136 #[.val (.int p1), .val (.int p2), .val (.int p3), .val (.int p4), .val (.int cp), .val (.int lv), .val (.float f), .val (.int n), .val (.int mx), .val (.int (1 : Int32)), .unset] [(.int (1 : Int32))]))
        refine own_to (fun t k => XS.goto X41.here hx rfl (pc0 := 136) (pc' := 140) rfl (hb hby at_136) (by decide) (by decide) k) ?_
        show own_Fin _ _ _ _ _ _ (T41.setTop (mkF m 140 #[.val (.int p1), .val (.int p2), .val (.int p3), .val (.int p4), .val (.int cp), .val (.int lv), .val (.float f), .val (.int n), .val (.int mx), .val (.int (1 : Int32)), .unset] [(.int (1 : Int32))]))
        refine own_to (fun t k => XS.istore X41.here hx rfl (hb hby at_140) rfl (l' := #[.val (.int p1), .val (.int p2), .val (.int p3), .val (.int p4), .val (.int cp), .val (.int lv), .val (.float f), .val (.int n), .val (.int mx), .val (.int (1 : Int32)), .val (.int (1 : Int32))]) rfl k) ?_
        show own_Fin _ _ _ _ _ _ (T41.setTop (mkF m 142 #[.val (.int p1), .val (.int p2), .val (.int p3), .val (.int p4), .val (.int cp), .val (.int lv), .val (.float f), .val (.int n), .val (.int mx), .val (.int (1 : Int32)), .val (.int (1 : Int32))] []))
        refine own_to (fun t k => XS.iload X41.here hx rfl (hb hby at_142) rfl k) ?_
        show own_Fin _ _ _ _ _ _ (T41.setTop (mkF m 144 #[.val (.int p1), .val (.int p2), .val (.int p3), .val (.int p4), .val (.int cp), .val (.int lv), .val (.float f), .val (.int n), .val (.int mx), .val (.int (1 : Int32)), .val (.int (1 : Int32))] [(.int (1 : Int32))]))
        refine own_to (fun t k => XS.ifNo X41.here hx rfl (hb hby at_144) rfl ((if0 _ _).trans (feq (by decide)).1) k) ?_
        show own_Fin _ _ _ _ _ _ (T41.setTop (mkF m 147 #[.val (.int p1), .val (.int p2), .val (.int p3), .val (.int p4), .val (.int cp), .val (.int lv), .val (.float f), .val (.int n), .val (.int mx), .val (.int (1 : Int32)), .val (.int (1 : Int32))] []))
        refine own_to (fun t k => XS.iload X41.here hx rfl (hb hby at_147) rfl k) ?_
        show own_Fin _ _ _ _ _ _ (T41.setTop (mkF m 149 #[.val (.int p1), .val (.int p2), .val (.int p3), .val (.int p4), .val (.int cp), .val (.int lv), .val (.float f), .val (.int n), .val (.int mx), .val (.int (1 : Int32)), .val (.int (1 : Int32))] [(.int (1 : Int32))]))
        refine own_to (fun t k => XS.ifNo X41.here hx rfl (hb hby at_149) rfl ((if0 _ _).trans (feq (by decide)).1) k) ?_
        show own_Fin _ _ _ _ _ _ (T41.setTop (mkF m 152 #[.val (.int p1), .val (.int p2), .val (.int p3), .val (.int p4), .val (.int cp), .val (.int lv), .val (.float f), .val (.int n), .val (.int mx), .val (.int (1 : Int32)), .val (.int (1 : Int32))] []))
        refine own_to (fun t k => XS.iconst X41.here hx rfl (hb hby at_152) k) ?_
        show own_Fin _ _ _ _ _ _ (T41.setTop (mkF m 153 #[.val (.int p1), .val (.int p2), .val (.int p3), .val (.int p4), .val (.int cp), .val (.int lv), .val (.float f), .val (.int n), .val (.int mx), .val (.int (1 : Int32)), .val (.int (1 : Int32))] [(.int (1 : Int32))]))
        refine own_to (fun t k => XS.goto X41.here hx rfl (pc0 := 153) (pc' := 157) rfl (hb hby at_153) (by decide) (by decide) k) ?_
        show own_Fin _ _ _ _ _ _ (T41.setTop (mkF m 157 #[.val (.int p1), .val (.int p2), .val (.int p3), .val (.int p4), .val (.int cp), .val (.int lv), .val (.float f), .val (.int n), .val (.int mx), .val (.int (1 : Int32)), .val (.int (1 : Int32))] [(.int (1 : Int32))]))
        refine own_retN X41 hx hlk (t := .boolean) hret (by simp) (hb hby at_157) (by decide) (by decide) ?_
        try rw [eh41]
        exact ⟨rfl, N41⟩
      ·
        show own_Fin _ _ _ _ _ _ (T41.setTop (mkF m 116 #[.val (.int p1), .val (.int p2), .val (.int p3), .val (.int p4), .val (.int cp), .val (.int lv), .val (.float f), .val (.int n), .val (.int mx), .val (.int (1 : Int32)), .unset] [(.int (2 : Int32)), (.int n)]))
        refine own_to (fun t k => XS.icmpNo X41.here hx rfl (hb hby at_116) rfl (feq hc116_44).1 k) ?_
        show own_Fin _ _ _ _ _ _ (T41.setTop (mkF m 119 #[.val (.int p1), .val (.int p2), .val (.int p3), .val (.int p4), .val (.int cp), .val (.int lv), .val (.float f), .val (.int n), .val (.int mx), .val (.int (1 : Int32)), .unset] []))
        refine own_to (fun t k => XS.iload X41.here hx rfl (hb hby at_119) rfl k) ?_
        show own_Fin _ _ _ _ _ _ (T41.setTop (mkF m 121 #[.val (.int p1), .val (.int p2), .val (.int p3), .val (.int p4), .val (.int cp), .val (.int lv), .val (.float f), .val (.int n), .val (.int mx), .val (.int (1 : Int32)), .unset] [(.int n)]))
        refine own_to (fun t k => XS.iconst X41.here hx rfl (hb hby at_121) k) ?_
        show own_Fin _ _ _ _ _ _ (T41.setTop (mkF m 122 #[.val (.int p1), .val (.int p2), .val (.int p3), .val (.int p4), .val (.int cp), .val (.int lv), .val (.float f), .val (.int n), .val (.int mx), .val (.int (1 : Int32)), .unset] [(.int (2 : Int32)), (.int n)]))
        refine own_to (fun t k => XS.idiv X41.here hx rfl (hb hby at_122) rfl (by decide) k) ?_
        show own_Fin _ _ _ _ _ _ (T41.setTop (mkF m 123 #[.val (.int p1), .val (.int p2), .val (.int p3), .val (.int p4), .val (.int cp), .val (.int lv), .val (.float f), .val (.int n), .val (.int mx), .val (.int (1 : Int32)), .unset] [(.int (n / (2 : Int32)))]))
        refine own_to (fun t k => XS.i2dS X41.here hx rfl (hb hby at_123) rfl rfl k) ?_
        show own_Fin _ _ _ _ _ _ (T41.setTop (mkF m 124 #[.val (.int p1), .val (.int p2), .val (.int p3), .val (.int p4), .val (.int cp), .val (.int lv), .val (.float f), .val (.int n), .val (.int mx), .val (.int (1 : Int32)), .unset] [(.double (FP.i2d (n / (2 : Int32))))]))
        refine own_to (fun t k => XS.fload X41.here hx rfl (hb hby at_124) rfl k) ?_
        show own_Fin _ _ _ _ _ _ (T41.setTop (mkF m 126 #[.val (.int p1), .val (.int p2), .val (.int p3), .val (.int p4), .val (.int cp), .val (.int lv), .val (.float f), .val (.int n), .val (.int mx), .val (.int (1 : Int32)), .unset] [(.float f), (.double (FP.i2d (n / (2 : Int32))))]))
        refine own_to (fun t k => XS.f2dS X41.here hx rfl (hb hby at_126) rfl hF.nd rfl k) ?_
        show own_Fin _ _ _ _ _ _ (T41.setTop (mkF m 127 #[.val (.int p1), .val (.int p2), .val (.int p3), .val (.int p4), .val (.int cp), .val (.int lv), .val (.float f), .val (.int n), .val (.int mx), .val (.int (1 : Int32)), .unset] [(.double (FP.f2d f)), (.double (FP.i2d (n / (2 : Int32))))]))
        refine own_to (fun t k => XS.dmulS X41.here hx rfl (hb hby at_127) rfl (hF.nm _) rfl k) ?_
        show own_Fin _ _ _ _ _ _ (T41.setTop (mkF m 128 #[.val (.int p1), .val (.int p2), .val (.int p3), .val (.int p4), .val (.int cp), .val (.int lv), .val (.float f), .val (.int n), .val (.int mx), .val (.int (1 : Int32)), .unset] [(.double (FP.dmul (FP.i2d (n / (2 : Int32))) (FP.f2d f)))]))
        refine own_to (fun t k => XS.iload X41.here hx rfl (hb hby at_128) rfl k) ?_
        show own_Fin _ _ _ _ _ _ (T41.setTop (mkF m 130 #[.val (.int p1), .val (.int p2), .val (.int p3), .val (.int p4), .val (.int cp), .val (.int lv), .val (.float f), .val (.int n), .val (.int mx), .val (.int (1 : Int32)), .unset] [(.int mx), (.double (FP.dmul (FP.i2d (n / (2 : Int32))) (FP.f2d f)))]))
        refine own_to (fun t k => XS.i2dS X41.here hx rfl (hb hby at_130) rfl rfl k) ?_
        show own_Fin _ _ _ _ _ _ (T41.setTop (mkF m 131 #[.val (.int p1), .val (.int p2), .val (.int p3), .val (.int p4), .val (.int cp), .val (.int lv), .val (.float f), .val (.int n), .val (.int mx), .val (.int (1 : Int32)), .unset] [(.double (FP.i2d mx)), (.double (FP.dmul (FP.i2d (n / (2 : Int32))) (FP.f2d f)))]))
        refine own_to (fun t k => XS.dcmpS X41.here hx rfl (hb hby at_131) rfl rfl k) ?_
        show own_Fin _ _ _ _ _ _ (T41.setTop (mkF m 132 #[.val (.int p1), .val (.int p2), .val (.int p3), .val (.int p4), .val (.int cp), .val (.int lv), .val (.float f), .val (.int n), .val (.int mx), .val (.int (1 : Int32)), .unset] [(.int (cmpValue (FP.dcmp (FP.dmul (FP.i2d (n / (2 : Int32))) (FP.f2d f)) (FP.i2d mx)) .g))]))
        have tg := t5 hc116_44
        show own_Fin _ _ _ _ _ _ (T41.setTop (mkF m 132 #[.val (.int p1), .val (.int p2), .val (.int p3), .val (.int p4), .val (.int cp), .val (.int lv), .val (.float f), .val (.int n), .val (.int mx), .val (.int (1 : Int32)), .unset] [(.int (own_G mx f (n / (2 : Int32))))]))
        refine own_to (fun t k => XS.ifNo X41.here hx rfl (hb hby at_132) rfl ((if0 _ _).trans (tlt tg).2.1) k) ?_
        show own_Fin _ _ _ _ _ _ (T41.setTop (mkF m 135 #[.val (.int p1), .val (.int p2), .val (.int p3), .val (.int p4), .val (.int cp), .val (.int lv), .val (.float f), .val (.int n), .val (.int mx), .val (.int (1 : Int32)), .unset] []))
        refine own_to (fun t k => XS.iconst X41.here hx rfl (hb hby at_135) k) ?_
        show own_Fin _ _ _ _ _ _ (T41.setTop (mkF m 136 #[.val (.int p1), .val (.int p2), .val (.int p3), .val (.int p4), .val (.int cp), .val (.int lv), .val (.float f), .val (.int n), .val (.int mx), .val (.int (1 : Int32)), .unset] [(.int (1 : Int32))]))
        refine own_to (fun t k => XS.goto X41.here hx rfl (pc0 := 136) (pc' := 140) rfl (hb hby at_136) (by decide) (by decide) k) ?_
        show own_Fin _ _ _ _ _ _ (T41.setTop (mkF m 140 #[.val (.int p1), .val (.int p2), .val (.int p3), .val (.int p4), .val (.int cp), .val (.int lv), .val (.float f), .val (.int n), .val (.int mx), .val (.int (1 : Int32)), .unset] [(.int (1 : Int32))]))
        refine own_to (fun t k => XS.istore X41.here hx rfl (hb hby at_140) rfl (l' := #[.val (.int p1), .val (.int p2), .val (.int p3), .val (.int p4), .val (.int cp), .val (.int lv), .val (.float f), .val (.int n), .val (.int mx), .val (.int (1 : Int32)), .val (.int (1 : Int32))]) rfl k) ?_
        show own_Fin _ _ _ _ _ _ (T41.setTop (mkF m 142 #[.val (.int p1), .val (.int p2), .val (.int p3), .val (.int p4), .val (.int cp), .val (.int lv), .val (.float f), .val (.int n), .val (.int mx), .val (.int (1 : Int32)), .val (.int (1 : Int32))] []))
        refine own_to (fun t k => XS.iload X41.here hx rfl (hb hby at_142) rfl k) ?_
        show own_Fin _ _ _ _ _ _ (T41.setTop (mkF m 144 #[.val (.int p1), .val (.int p2), .val (.int p3), .val (.int p4), .val (.int cp), .val (.int lv), .val (.float f), .val (.int n), .val (.int mx), .val (.int (1 : Int32)), .val (.int (1 : Int32))] [(.int (1 : Int32))]))
        refine own_to (fun t k => XS.ifNo X41.here hx rfl (hb hby at_144) rfl ((if0 _ _).trans (feq (by decide)).1) k) ?_
        show own_Fin _ _ _ _ _ _ (T41.setTop (mkF m 147 #[.val (.int p1), .val (.int p2), .val (.int p3), .val (.int p4), .val (.int cp), .val (.int lv), .val (.float f), .val (.int n), .val (.int mx), .val (.int (1 : Int32)), .val (.int (1 : Int32))] []))
        refine own_to (fun t k => XS.iload X41.here hx rfl (hb hby at_147) rfl k) ?_
        show own_Fin _ _ _ _ _ _ (T41.setTop (mkF m 149 #[.val (.int p1), .val (.int p2), .val (.int p3), .val (.int p4), .val (.int cp), .val (.int lv), .val (.float f), .val (.int n), .val (.int mx), .val (.int (1 : Int32)), .val (.int (1 : Int32))] [(.int (1 : Int32))]))
        refine own_to (fun t k => XS.ifNo X41.here hx rfl (hb hby at_149) rfl ((if0 _ _).trans (feq (by decide)).1) k) ?_
        show own_Fin _ _ _ _ _ _ (T41.setTop (mkF m 152 #[.val (.int p1), .val (.int p2), .val (.int p3), .val (.int p4), .val (.int cp), .val (.int lv), .val (.float f), .val (.int n), .val (.int mx), .val (.int (1 : Int32)), .val (.int (1 : Int32))] []))
        refine own_to (fun t k => XS.iconst X41.here hx rfl (hb hby at_152) k) ?_
        show own_Fin _ _ _ _ _ _ (T41.setTop (mkF m 153 #[.val (.int p1), .val (.int p2), .val (.int p3), .val (.int p4), .val (.int cp), .val (.int lv), .val (.float f), .val (.int n), .val (.int mx), .val (.int (1 : Int32)), .val (.int (1 : Int32))] [(.int (1 : Int32))]))
        refine own_to (fun t k => XS.goto X41.here hx rfl (pc0 := 153) (pc' := 157) rfl (hb hby at_153) (by decide) (by decide) k) ?_
        show own_Fin _ _ _ _ _ _ (T41.setTop (mkF m 157 #[.val (.int p1), .val (.int p2), .val (.int p3), .val (.int p4), .val (.int cp), .val (.int lv), .val (.float f), .val (.int n), .val (.int mx), .val (.int (1 : Int32)), .val (.int (1 : Int32))] [(.int (1 : Int32))]))
        refine own_retN X41 hx hlk (t := .boolean) hret (by simp) (hb hby at_157) (by decide) (by decide) ?_
        try rw [eh41]
        exact ⟨rfl, N41⟩
set_option maxRecDepth 65536 in
set_option maxHeartbeats 40000000 in
theorem comes_1 {Post : Tables → Env → Array Value → State → Outcome → State → Prop} (hpost : ∀ tb e args s v u, (limb_1_1.after args s (.returned v) u = true ∧ limb_1_2.after args s (.returned v) u = true ∧ True) → FrameEnd s (.returned v) u (Jvm.fieldLocs frame_1_writes args s ++ Jvm.arrayLocs frame_1_arrays args s ++ Jvm.staticLocs frame_1_statics s) 0 0 → Post tb e args s (.returned v) u) :
    ArmFor flags0 classFile x code maxLocals ret World_1 tables_1 room_1 Calls_1 rest_1 Pre_1 Post := by
  intro l hfl _ _ p e ha hc hk s m args below hf hA hF happ hP
  obtain ⟨hcalls, hrest, hpre⟩ := hP
  obtain ⟨-, -, -, hnamed, -, -, -, hat⟩ := (Spec.applies_iff hf).mp happ
  obtain ⟨hg, hn⟩ := and_e (Cond.before_iff.mp (show (Jvm.Cond.and given_1 narrow_1).before args s = true from hpre))
  obtain ⟨g1, g2⟩ := and_e hg
  obtain ⟨g3, g4⟩ := and_e g2
  obtain ⟨g5, g6⟩ := and_e g4
  obtain ⟨g7, g8⟩ := and_e g6
  obtain ⟨w0, w1, w2, w3, rfl⟩ : ∃ w0 w1 w2 w3 : Value, args = #[w0, w1, w2, w3] := by
    have hs : args.size = 4 := by simpa [Cond.value, given_1] using g1
    obtain ⟨L⟩ := args
    match L, hs with
    | [w0, w1, w2, w3], _ => exact ⟨w0, w1, w2, w3, rfl⟩
  have hw := fun d (hd : d ∈ tables_1) => atoms_spec (ws := Jvm.Cond.code x code maxLocals ret :: tables_1) hat d (List.mem_cons_of_mem _ hd)
  have hfit : Fit s := fun {y c} hc i hi => by
    obtain ⟨ha, rfl⟩ := Array.getElem?_eq_some_iff.mp hc
    have q := List.all_eq_true.mp ((Array.all_eq_true_iff_forall_mem.mp hF) _ (Array.getElem_mem ha)) i (List.mem_range.mpr hi)
    simpa [Array.getElem?_eq_getElem hi] using q
  obtain ⟨i0, ei0⟩ := is_v g3
  obtain rfl : w0 = (.int i0) := Option.some.inj ei0
  obtain ⟨i1, ei1⟩ := is_v g5
  obtain rfl : w1 = (.int i1) := Option.some.inj ei1
  obtain ⟨i2, ei2⟩ := is_v g7
  obtain rfl : w2 = (.int i2) := Option.some.inj ei2
  obtain ⟨i3, ei3⟩ := is_v g8
  obtain rfl : w3 = (.int i3) := Option.some.inj ei3
  obtain ⟨n, o, h1, h2, h3, _, L, rfl, ⟨rfl, N⟩, hq⟩ := own_rm0 l s _ hw tables_1 i0 i1 i2 i3 s.heap s.heap.size (Nat.le_refl _) p e ha hc hk s m _ below hf ((Spec.applies_iff_loose hf).mp happ).1 ⟨rfl, State.Warmed39.refl s, rfl⟩ trivial
  refine ⟨n, _, h1, h2, h3, hpost _ _ _ _ _ _ ⟨Cond.after_iff.mpr rfl, Cond.after_iff.mpr (eq_i res_at (Term.int_eval (1)) rfl), trivial⟩ ⟨hq.1, hq.2.1, (hq.2.2.sift fun y hy => Or.inr (N y hy)).mono (by decide) (by decide)⟩⟩
theorem main_1_1 : Claimed_1_1 := comes_1 fun _ _ _ _ _ _ h hF => ⟨h.1, hF⟩
theorem main_1_2 : Claimed_1_2 := comes_1 fun _ _ _ _ _ _ h hF => ⟨h.2.1, hF⟩
end Jvm.Pilot.@@N@@
namespace Jvm.Pilot.@@N@@
open Jvm Jvm.ClassFile Sem Op Lib Jvm.Free Jvm.Stand Jvm.Pilot.@@N@@.Jvm.D
/-! MADE BY PROGRAM (witnessworld.py) out of the Statement's table words and the real class files: 10 classes; the members and pool entries that the words name. The judged class is class 1, her method 1. -/
namespace start1
open Jvm.ClassFile
def u (s : String) : CpInfo := .utf8 (stringToUtf16 s)
/-- a pool by its gaps: so many unusable entries, then the entry; so many at the end -/
def gap : Nat → List CpInfo → List CpInfo
  | 0, r => r
  | n + 1, r => .unusable :: gap n r
def poolList (es : List (Nat × CpInfo)) (last : Nat) : List CpInfo := es.foldr (fun e r => gap e.1 (e.2 :: r)) (gap last [])
def pool (es : List (Nat × CpInfo)) (last : Nat) : Array CpInfo := ⟨poolList es last⟩
def fileOf (pool : Array CpInfo) (this : Nat) (attrs : Array Attribute := #[]) (ms : Array MethodInfo := #[]) (fl : Nat := 33) (sup : Nat := 0) (ifs : Array Nat := #[]) (fds : Array FieldInfo := #[]) : ClassFile where
  minorVersion := 0
  majorVersion := 65
  constantPool := pool
  accessFlags := fl
  thisClass := this
  superClass := sup
  interfaces := ifs
  fields := fds
  methods := ms
  attributes := attrs
def plain (name : String) (sup : Option ClassId) : Class where
  name := name
  kind := .ordinary
  loader := none
  accessFlags := 33
  super := sup
  interfaces := #[]
  cf := none
  fields := #[]
  methods := #[]
  instanceTypes := #[]
  staticTypes := #[]
  resolved := #[]
  callSites := []
  init := .initialized
  statics := none
  mirror := none

def pool0 : Array CpInfo := pool [(5, u "<init>"), (0, u "()V"), (1, .class_ 10), (1, u "java/lang/Object")] 113

def k0m0 : Method := { name := "<init>", desc := "()V", sig := { parameters := [], returnType := none }, accessFlags := 1, code := none }
/-- java/lang/Object -/
def k0 : Class := { plain "java/lang/Object" none with
  accessFlags := 33
  interfaces := #[]
  cf := some (fileOf pool0 8 #[] #[{ accessFlags := 1, nameIndex := 5, descriptorIndex := 6, attributes := #[] }] 33 0 #[] #[])
  fields := #[]
  methods := #[k0m0]
  instanceTypes := #[]
  staticTypes := #[]
  resolved := Array.replicate 124 none
  statics := none }

def pool1 : Array CpInfo := pool [(2, .class_ 4), (1, u "java/lang/Object"), (0, u "<init>"), (0, u "()V"), (0, .integer 2147483647), (0, .methodref 9 10), (0, .class_ 11), (0, .nameAndType 12 13), (0, u "com/example/stripeline/stripeline/Sizing"), (0, u "tableLength"), (0, u "(IFI)I"), (0, .methodref 15 16), (0, .class_ 17), (0, .nameAndType 18 19), (0, u "java/lang/Math"), (0, u "max"), (0, u "(II)I"), (0, .integer 1073741824), (0, .class_ 22), (0, u "com/example/stripeline/stripeline/SizingTableLength421PinLaw"), (2, u "law"), (0, u "(IIII)Z")] 3

def k1m0 : Method := { name := "<init>", desc := "()V", sig := { parameters := [], returnType := none }, accessFlags := 2, code := none }
def k1c1 : Code := { maxStack := 4, maxLocals := 11, code := code, exceptionTable := #[], attributes := #[] }
def k1m1 : Method := { name := "law", desc := "(IIII)Z", sig := { parameters := [.int, .int, .int, .int], returnType := some .boolean }, accessFlags := 9, code := some k1c1 }
/-- com/example/stripeline/stripeline/SizingTableLength421PinLaw -/
def k1 : Class := { plain "com/example/stripeline/stripeline/SizingTableLength421PinLaw" (some 0) with
  accessFlags := 49
  interfaces := #[]
  cf := some (fileOf pool1 21 #[] #[{ accessFlags := 2, nameIndex := 5, descriptorIndex := 6, attributes := #[] }, { accessFlags := 9, nameIndex := 25, descriptorIndex := 26, attributes := #[] }] 49 2 #[] #[])
  fields := #[]
  methods := #[k1m0, k1m1]
  instanceTypes := #[]
  staticTypes := #[]
  resolved := Array.replicate 30 none
  statics := none }

def pool2 : Array CpInfo := pool [(2, .class_ 4), (1, u "java/lang/Object"), (0, u "<init>"), (0, u "()V"), (12, .class_ 20), (0, u "com/example/stripeline/stripeline/Sizing"), (0, .integer 1073741824), (1, .methodref 19 24), (0, .nameAndType 25 26), (0, u "tableLength"), (0, u "(IF)I"), (7, u "MAX_TABLE_LENGTH"), (0, u "I"), (1, u "MIN_TABLE_LENGTH"), (1, u "MAX_STRIPES"), (3, u "(IFI)I")] 22

def k2m0 : Method := { name := "<init>", desc := "()V", sig := { parameters := [], returnType := none }, accessFlags := 2, code := none }
def k2c1 : Code := { maxStack := 4, maxLocals := 3, code := prog_6_method_2_code, exceptionTable := #[], attributes := #[] }
def k2m1 : Method := { name := "tableLength", desc := "(IF)I", sig := { parameters := [.int, .float], returnType := some .int }, accessFlags := 8, code := some k2c1 }
def k2c2 : Code := { maxStack := 3, maxLocals := 4, code := prog_6_method_3_code, exceptionTable := #[], attributes := #[] }
def k2m2 : Method := { name := "tableLength", desc := "(IFI)I", sig := { parameters := [.int, .float, .int], returnType := some .int }, accessFlags := 8, code := some k2c2 }
/-- com/example/stripeline/stripeline/Sizing -/
def k2 : Class := { plain "com/example/stripeline/stripeline/Sizing" (some 0) with
  accessFlags := 48
  interfaces := #[]
  cf := some (fileOf pool2 19 #[] #[{ accessFlags := 2, nameIndex := 5, descriptorIndex := 6, attributes := #[] }, { accessFlags := 8, nameIndex := 25, descriptorIndex := 26, attributes := #[] }, { accessFlags := 8, nameIndex := 25, descriptorIndex := 43, attributes := #[] }] 48 2 #[] #[{ accessFlags := 24, nameIndex := 34, descriptorIndex := 35, attributes := #[] }, { accessFlags := 24, nameIndex := 37, descriptorIndex := 35, attributes := #[] }, { accessFlags := 24, nameIndex := 39, descriptorIndex := 35, attributes := #[] }])
  fields := #[{ name := "MAX_TABLE_LENGTH", type := .int, accessFlags := 24, slot := 0, constantValue := 0 }, { name := "MIN_TABLE_LENGTH", type := .int, accessFlags := 24, slot := 1, constantValue := 0 }, { name := "MAX_STRIPES", type := .int, accessFlags := 24, slot := 2, constantValue := 0 }]
  methods := #[k2m0, k2m1, k2m2]
  instanceTypes := #[]
  staticTypes := #[.int, .int, .int]
  resolved := Array.replicate 66 none
  statics := none }

def pool3 : Array CpInfo := pool [(1, .class_ 2), (0, u "java/lang/Math"), (1, .class_ 6), (1, u "java/lang/Object"), (0, u "<init>"), (0, u "()V"), (89, .class_ 100), (1, u "java/lang/Math$RandomNumberGeneratorHolder"), (71, u "negativeZeroFloatBits"), (0, u "J"), (2, u "negativeZeroDoubleBits"), (21, u "max"), (46, u "$assertionsDisabled"), (0, u "Z"), (88, u "(II)I"), (2, u "twoToTheDoubleScaleDown"), (0, u "D"), (4, u "twoToTheDoubleScaleUp"), (9, u "E"), (3, u "PI"), (2, u "TAU"), (2, u "DEGREES_TO_RADIANS"), (0, u "RADIANS_TO_DEGREES")] 94

def k3m0 : Method := { name := "<init>", desc := "()V", sig := { parameters := [], returnType := none }, accessFlags := 2, code := none }
def k3c1 : Code := { maxStack := 2, maxLocals := 2, code := jdk_29_method_65_code, exceptionTable := #[], attributes := #[] }
def k3m1 : Method := { name := "max", desc := "(II)I", sig := { parameters := [.int, .int], returnType := some .int }, accessFlags := 9, code := some k3c1 }
/-- java/lang/Math -/
def k3 : Class := { plain "java/lang/Math" (some 0) with
  accessFlags := 49
  interfaces := #[]
  cf := some (fileOf pool3 1 #[.nestMembers #[98]] #[{ accessFlags := 2, nameIndex := 7, descriptorIndex := 8, attributes := #[] }, { accessFlags := 9, nameIndex := 198, descriptorIndex := 335, attributes := #[] }] 49 4 #[] #[{ accessFlags := 25, nameIndex := 354, descriptorIndex := 339, attributes := #[] }, { accessFlags := 25, nameIndex := 358, descriptorIndex := 339, attributes := #[] }, { accessFlags := 25, nameIndex := 361, descriptorIndex := 339, attributes := #[] }, { accessFlags := 26, nameIndex := 364, descriptorIndex := 339, attributes := #[] }, { accessFlags := 26, nameIndex := 365, descriptorIndex := 339, attributes := #[] }, { accessFlags := 26, nameIndex := 172, descriptorIndex := 173, attributes := #[] }, { accessFlags := 26, nameIndex := 176, descriptorIndex := 173, attributes := #[] }, { accessFlags := 8, nameIndex := 344, descriptorIndex := 339, attributes := #[] }, { accessFlags := 8, nameIndex := 338, descriptorIndex := 339, attributes := #[] }, { accessFlags := 4120, nameIndex := 245, descriptorIndex := 246, attributes := #[] }])
  fields := #[{ name := "E", type := .double, accessFlags := 25, slot := 0, constantValue := 0 }, { name := "PI", type := .double, accessFlags := 25, slot := 1, constantValue := 0 }, { name := "TAU", type := .double, accessFlags := 25, slot := 2, constantValue := 0 }, { name := "DEGREES_TO_RADIANS", type := .double, accessFlags := 26, slot := 3, constantValue := 0 }, { name := "RADIANS_TO_DEGREES", type := .double, accessFlags := 26, slot := 4, constantValue := 0 }, { name := "negativeZeroFloatBits", type := .long, accessFlags := 26, slot := 5, constantValue := 0 }, { name := "negativeZeroDoubleBits", type := .long, accessFlags := 26, slot := 6, constantValue := 0 }, { name := "twoToTheDoubleScaleUp", type := .double, accessFlags := 8, slot := 7, constantValue := 0 }, { name := "twoToTheDoubleScaleDown", type := .double, accessFlags := 8, slot := 8, constantValue := 0 }, { name := "$assertionsDisabled", type := .boolean, accessFlags := 4120, slot := 9, constantValue := 0 }]
  methods := #[k3m0, k3m1]
  instanceTypes := #[]
  staticTypes := #[.double, .double, .double, .double, .double, .long, .long, .double, .double, .boolean]
  resolved := Array.replicate 460 none
  statics := none }

def pool4 : Array CpInfo := pool [(1, u "java/lang/Cloneable"), (0, .class_ 1), (0, u "java/lang/Object"), (0, .class_ 3)] 3

/-- java/lang/Cloneable -/
def k4 : Class := { plain "java/lang/Cloneable" (some 0) with
  accessFlags := 1537
  interfaces := #[]
  cf := some (fileOf pool4 2 #[] #[] 1537 4 #[] #[])
  fields := #[]
  methods := #[]
  instanceTypes := #[]
  staticTypes := #[]
  resolved := Array.replicate 8 none
  statics := none }

def pool5 : Array CpInfo := pool [(1, u "java/io/Serializable"), (0, .class_ 1), (0, u "java/lang/Object"), (0, .class_ 3)] 3

/-- java/io/Serializable -/
def k5 : Class := { plain "java/io/Serializable" (some 0) with
  accessFlags := 1537
  interfaces := #[]
  cf := some (fileOf pool5 2 #[] #[] 1537 4 #[] #[])
  fields := #[]
  methods := #[]
  instanceTypes := #[]
  staticTypes := #[]
  resolved := Array.replicate 8 none
  statics := none }

/-- the primitive byte -/
def k6 : Class := { plain "byte" none with kind := .primitive 'B', accessFlags := 0x411 }
/-- [B -/
def k7 : Class := { plain "[B" (some 0) with kind := .array 6 .byte, interfaces := #[4, 5], accessFlags := 1041 }

/-- the primitive int -/
def k8 : Class := { plain "int" none with kind := .primitive 'I', accessFlags := 0x411 }
/-- [I -/
def k9 : Class := { plain "[I" (some 0) with kind := .array 8 .int, interfaces := #[4, 5], accessFlags := 1041 }

def heap : Heap := #[]
def classes : Array Class := #[k0, k1, k2, k3, k4, k5, k6, k7, k8, k9]
def interned : List (Array UInt16 × Addr) := []
def slotsUsed : Nat := 0
def theMethod : MethodId := ⟨1, 1⟩
def args0 : Array Value := #[.int 5, .int 7, .int 9, .int 3]
def aboutOver (below : List Frame) : State where
  vm := { classes := classes, interned := interned.toArray }
  heap := heap
  slotsUsed := slotsUsed
  threads := #[{ frames := .invoking theMethod args0 :: below }]
def below0 : List Frame := [.native { method := ⟨0, 0⟩, args := #[] }]
def about1 : State := aboutOver below0
def p0 : Program := .bare "" "" ""
def e0 : Env := launch0.env 0 0 0
theorem w_frames : about1.frames = Frame.invoking theMethod args0 :: below0 := rfl
set_option maxRecDepth 65536 in
theorem w_args : argsFit about1.vm theMethod args0 = true := by decide +kernel
set_option maxRecDepth 65536 in
theorem w_heap : heapFits about1 = true := by decide +kernel
set_option maxRecDepth 65536 in
theorem w_runnable : about1.curStatus? = some .runnable := by decide +kernel
set_option maxRecDepth 65536 in
theorem w_alone : about1.alone = true := by decide +kernel
set_option maxRecDepth 65536 in
theorem w_named : about1.methodNamed? x = some theMethod := by decide +kernel
set_option maxRecDepth 65536 in
theorem w_hears : about1.hears theMethod below0 = true := by decide +kernel
set_option maxRecDepth 65536 in
theorem w_ripe : about1.ripe theMethod args0 below0 = true := by decide +kernel
theorem w_running : about1.status = .running := rfl
set_option maxRecDepth 65536 in
theorem w_room : about1.hasRoom e0.platform room_1 = true :=
  launch0.hasRoom_least _ room_1 (by decide +kernel) (by decide +kernel) (by decide +kernel) (by decide +kernel) (by decide +kernel) (by decide +kernel)
theorem allAtoms_all (ts : List Jvm.Cond) (a : Array Jvm.Value) (st : Jvm.State) : (allAtoms ts).before a st = ts.all (fun c => c.before a st) := by
  induction ts with
  | nil => rfl
  | cons c t ih =>
    show (Jvm.Cond.and c (allAtoms t)).before a st = _
    rw [Jvm.Cond.before_and, ih, List.all_cons]
def words1 : List Jvm.Cond := Jvm.Cond.code x code maxLocals ret :: tables_1
/-- a 'code' word, met by the world's own term for the bytes: nothing is compared byte by byte -/
theorem code_word {y : MethodName} {bytes : ByteArray} {mx : Nat} {rt : Option FieldType} {a : Array Value} {s : State} {m : MethodId} {meth : Method} {c : Code} (h1 : s.methodNamed? y = some m) (h2 : s.vm.method? m = some meth) (h3 : meth.code = some c) (h4 : c.code = bytes)
    (h5 : (c.maxLocals == mx && c.exceptionTable.isEmpty && decide (c.maxStack ≤ mostOperands) && decide (meth.sig.returnType = rt) && !meth.locks && decide (parseMethodDescriptor y.desc = some meth.sig)) = true) : (Jvm.Cond.code y bytes mx rt).before a s = true := by
  simp only [Bool.and_eq_true, beq_iff_eq, Bool.not_eq_true', decide_eq_true_eq] at h5
  obtain ⟨⟨⟨⟨⟨g1, g2⟩, g3⟩, g4⟩, g5⟩, g6⟩ := h5
  simp [Cond.before, Cond.holds, Cond.value, h1, h2, h3, h4, g1, g2, g3, g4, g5, g6]
def isCode : Jvm.Cond → Bool
  | .code _ _ _ _ => true
  | _ => false
theorem all_split {L : List Jvm.Cond} {P : Jvm.Cond → Bool} (h1 : L.all (fun c => isCode c || P c) = true) (h2 : ∀ c ∈ L.filter isCode, P c = true) : L.all P = true := by
  refine List.all_eq_true.mpr fun c hc => ?_
  have h := List.all_eq_true.mp h1 c hc
  rcases Bool.eq_false_or_eq_true (isCode c) with hi | hi
  · exact h2 c (List.mem_filter.mpr ⟨hc, hi⟩)
  · simpa [hi] using h
set_option maxRecDepth 65536 in
theorem w_c0 : (Jvm.Cond.code x code maxLocals ret).before args0 about1 = true := code_word (m := ⟨1, 1⟩) (meth := k1m1) (c := k1c1) (by decide +kernel) rfl rfl rfl (by decide +kernel)
set_option maxRecDepth 65536 in
theorem w_c1 : (Jvm.Cond.code ({ cls := "com/example/stripeline/stripeline/Sizing", name := "tableLength", desc := "(IFI)I" } : Jvm.MethodName) prog_6_method_3_code (4 : Nat) (Option.some Jvm.ClassFile.FieldType.int)).before args0 about1 = true := code_word (m := ⟨2, 2⟩) (meth := k2m2) (c := k2c2) (by decide +kernel) rfl rfl rfl (by decide +kernel)
set_option maxRecDepth 65536 in
theorem w_c2 : (Jvm.Cond.code ({ cls := "com/example/stripeline/stripeline/Sizing", name := "tableLength", desc := "(IF)I" } : Jvm.MethodName) prog_6_method_2_code (3 : Nat) (Option.some Jvm.ClassFile.FieldType.int)).before args0 about1 = true := code_word (m := ⟨2, 1⟩) (meth := k2m1) (c := k2c1) (by decide +kernel) rfl rfl rfl (by decide +kernel)
set_option maxRecDepth 65536 in
theorem w_c3 : (Jvm.Cond.code ({ cls := "java/lang/Math", name := "max", desc := "(II)I" } : Jvm.MethodName) jdk_29_method_65_code (2 : Nat) (Option.some Jvm.ClassFile.FieldType.int)).before args0 about1 = true := code_word (m := ⟨3, 1⟩) (meth := k3m1) (c := k3c1) (by decide +kernel) rfl rfl rfl (by decide +kernel)
def codes1 : List Jvm.Cond := [Jvm.Cond.code x code maxLocals ret, Jvm.Cond.code ({ cls := "com/example/stripeline/stripeline/Sizing", name := "tableLength", desc := "(IFI)I" } : Jvm.MethodName) prog_6_method_3_code (4 : Nat) (Option.some Jvm.ClassFile.FieldType.int), Jvm.Cond.code ({ cls := "com/example/stripeline/stripeline/Sizing", name := "tableLength", desc := "(IF)I" } : Jvm.MethodName) prog_6_method_2_code (3 : Nat) (Option.some Jvm.ClassFile.FieldType.int), Jvm.Cond.code ({ cls := "java/lang/Math", name := "max", desc := "(II)I" } : Jvm.MethodName) jdk_29_method_65_code (2 : Nat) (Option.some Jvm.ClassFile.FieldType.int)]
set_option maxRecDepth 65536 in
theorem codes_eq : words1.filter isCode = codes1 := rfl
theorem w_codes : ∀ c ∈ words1.filter isCode, c.before args0 about1 = true := by
  rw [codes_eq]
  intro c hc
  simp only [codes1, List.mem_cons, List.not_mem_nil, or_false] at hc
  rcases hc with rfl | rfl | rfl | rfl
  · exact w_c0
  · exact w_c1
  · exact w_c2
  · exact w_c3
set_option maxRecDepth 65536 in
theorem w_t1 : words1.all (fun c => isCode c || c.before args0 about1) = true := by decide +kernel
theorem w_tables : (allAtoms (Jvm.Cond.code x code maxLocals ret :: tables_1)).before args0 about1 = true := by
  rw [allAtoms_all]
  show words1.all (fun c => c.before args0 about1) = true
  refine all_split ?_ w_codes
  rw [w_t1]
set_option maxRecDepth 65536 in
theorem w_case : (Jvm.Cond.and given_1 narrow_1).before args0 about1 = true := by decide +kernel
theorem w_applies : (headSpec (Jvm.Cond.code x code maxLocals ret :: tables_1) room_1).applies x e0.platform about1 = true :=
  (Spec.applies_iff w_frames).mpr ⟨w_running, w_runnable, w_alone, w_named, w_hears, w_ripe, w_room, w_tables⟩
theorem atStart : AtStart classFile x code maxLocals ret World_1 tables_1 room_1 Calls_1 rest_1 Pre_1 launch0 p0 e0 about1 theMethod args0 below0 :=
  ⟨lists_1, trivial, launch0.admits_env _ _ _, launch0.least_env, fairChoices_fair.cas, fairChoices_fair.clock, w_frames, w_args, w_heap, w_applies, trivial, trivial, w_case⟩
end start1
theorem witness_1 : WitnessClaimed_1 := ⟨start1.p0, start1.e0, start1.about1, start1.theMethod, start1.args0, start1.below0, start1.atStart⟩
end Jvm.Pilot.@@N@@
