import JvmDerived
import JvmDerived.Pilot.@@N@@Statement
import JvmDerived.Pilot.@@N@@Code
set_option linter.unusedVariables false
set_option linter.unusedSimpArgs false
@@BLOCK:NumsL.lean.txt@@
namespace Jvm.Pilot.@@N@@
open Jvm Jvm.ClassFile Sem Op Lib Jvm.Free Jvm.Stand Jvm.LawKit Jvm.RoadKit Bundle Jvm.Pilot.@@N@@.Jvm.D
section Own
variable {p : Program} {l : Launch} {e : Env} {R : Room} {s Z : State} {m : MethodId} {args : Array Value} {below : List Frame} {meth : Method} {c : Code} {T : State} {locs : List Loc} {cells slots : Nat} {q : Option Value → Heap → List Loc → Prop}
/-- from U the run ends in a return, as q says -/
def own_Fin (p : Program) (e : Env) (below : List Frame) (s : State) (R : Room) (q : Option Value → Heap → List Loc → Prop) (U : State) : Prop :=
  ∃ s₂ o, Steps p.tables e below U s₂ ∧ s₂.status = .running ∧ Ended s₂ below o ∧ ∃ v L, o = .returned v ∧ q v s₂.heap L ∧ FrameEnd s o s₂ L R.cells R.slots
theorem own_to {U U' : State} (h : ∀ t, Steps p.tables e below U' t → Steps p.tables e below U t) (k : own_Fin p e below s R q U') : own_Fin p e below s R q U := by
  obtain ⟨s₂, o, h1, r⟩ := k
  exact ⟨s₂, o, h _ h1, r⟩
theorem own_ite {C : Prop} [Decidable C] {G : Int32 → State} {U : State} {v1 v0 : Int32} (k : own_Fin p e below s R q (G (if C then v1 else v0))) (h1 : C → own_Fin p e below s R q (G v1) → own_Fin p e below s R q U) (h0 : ¬ C → own_Fin p e below s R q (G v0) → own_Fin p e below s R q U) : own_Fin p e below s R q U := by
  by_cases h : C
  · rw [if_pos h] at k; exact h1 h k
  · rw [if_neg h] at k; exact h0 h k
theorem own_cut {U V : State} (k : own_Fin p e below s R q V) (h : own_Fin p e below s R q V → own_Fin p e below s R q U) : own_Fin p e below s R q U := h k
theorem own_retN (X : Stand p l e R s m args below meth c T locs cells slots) (hx : p.tables.exec = Jvm.exec) (hlk : meth.locks = false) {pc : Nat} {Ls : Array Slot} {z : Int32} {t : FieldType} {rest : List Value} (hret : meth.sig.returnType = some t) (ht : t = .boolean ∨ t = .byte ∨ t = .char ∨ t = .short) (hd : decode c.code pc = .ok (.ireturn, 1)) (hc : cells ≤ R.cells) (hs : slots ≤ R.slots) (hq : q (some (.int (nar t z))) T.heap locs) :
    own_Fin p e below s R q (T.setTop (mkF m pc Ls (.int z :: rest))) := by
  obtain ⟨fs, hr, hrun, hended, hW, hsame⟩ := X.leave (v := some (.int (nar t z))) (fun h => by rw [hret] at h; cases h)
  exact ⟨_, _, retN X hx hret ht hd hr, hrun, hended, _, _, rfl, hq, ⟨_, rfl⟩, hW, hsame.mono hc hs⟩
theorem own_retI (X : Stand p l e R s m args below meth c T locs cells slots) (hx : p.tables.exec = Jvm.exec) (hlk : meth.locks = false) {pc : Nat} {Ls : Array Slot} {z : Int32} {rest : List Value} (hret : meth.sig.returnType = some .int) (hd : decode c.code pc = .ok (.ireturn, 1)) (hc : cells ≤ R.cells) (hs : slots ≤ R.slots) (hq : q (some (.int z)) T.heap locs) :
    own_Fin p e below s R q (T.setTop (mkF m pc Ls (.int z :: rest))) := by
  obtain ⟨fs, hr, hrun, hended, hW, hsame⟩ := X.leave (v := some (.int z)) (fun h => by rw [hret] at h; cases h)
  exact ⟨_, _, retOut X hx hret rfl (Or.inl ⟨rfl, Or.inl rfl, z, rfl⟩) hd hr, hrun, hended, _, _, rfl, hq, ⟨_, rfl⟩, hW, hsame.mono hc hs⟩
theorem own_retJ (X : Stand p l e R s m args below meth c T locs cells slots) (hx : p.tables.exec = Jvm.exec) (hlk : meth.locks = false) {pc : Nat} {Ls : Array Slot} {z : Int64} {rest : List Value} (hret : meth.sig.returnType = some .long) (hd : decode c.code pc = .ok (.lreturn, 1)) (hc : cells ≤ R.cells) (hs : slots ≤ R.slots) (hq : q (some (.long z)) T.heap locs) :
    own_Fin p e below s R q (T.setTop (mkF m pc Ls (.long z :: rest))) := by
  obtain ⟨fs, hr, hrun, hended, hW, hsame⟩ := X.leave (v := some (.long z)) (fun h => by rw [hret] at h; cases h)
  exact ⟨_, _, retOut X hx hret rfl (Or.inr (Or.inl ⟨rfl, rfl, z, rfl⟩)) hd hr, hrun, hended, _, _, rfl, hq, ⟨_, rfl⟩, hW, hsame.mono hc hs⟩
theorem own_retR (X : Stand p l e R s m args below meth c T locs cells slots) (hx : p.tables.exec = Jvm.exec) (hlk : meth.locks = false) {pc : Nat} {Ls : Array Slot} {w : Value} {t : FieldType} {rest : List Value} (hret : meth.sig.returnType = some t) (ht : t.isReference = true) (hw : w.isRef = true) (hn : narrow t w = w) (hd : decode c.code pc = .ok (.areturn, 1)) (hc : cells ≤ R.cells) (hs : slots ≤ R.slots) (hq : q (some w) T.heap locs) :
    own_Fin p e below s R q (T.setTop (mkF m pc Ls (w :: rest))) := by
  obtain ⟨fs, hr, hrun, hended, hW, hsame⟩ := X.leave (v := some w) (fun h => by rw [hret] at h; cases h)
  exact ⟨_, _, retOut X hx hret hn (Or.inr (Or.inr (Or.inr (Or.inr ⟨rfl, ht, hw⟩)))) hd hr, hrun, hended, _, _, rfl, hq, ⟨_, rfl⟩, hW, hsame.mono hc hs⟩
theorem own_retV (X : Stand p l e R s m args below meth c T locs cells slots) (hx : p.tables.exec = Jvm.exec) (hlk : meth.locks = false) {pc : Nat} {Ls : Array Slot} (hret : meth.sig.returnType = none) (hd : decode c.code pc = .ok (.return_, 1)) (hc : cells ≤ R.cells) (hs : slots ≤ R.slots) (hq : q none T.heap locs) :
    own_Fin p e below s R q (T.setTop (mkF m pc Ls [])) := by
  obtain ⟨fs, hr, hrun, hended, hW, hsame⟩ := X.leave (v := none) (fun _ => rfl)
  exact ⟨_, _, X.returnOut hx hret hd hr, hrun, hended, _, _, rfl, hq, ⟨_, rfl⟩, hW, hsame.mono hc hs⟩
/-- the contract of a body at given arguments and a given heap -/
abbrev own_Met (l : Launch) (Z : State) (y : MethodName) (bytes : ByteArray) (maxL : Nat) (ret : Option FieldType) (ws : List Jvm.Cond) (rm : Room) (as' : Array Value) (h0 : Heap) (q : Option Value → Heap → List Loc → Prop) : Prop :=
  MetFree l y (head1 (Jvm.Cond.code y bytes maxL ret :: ws) rm) (fun a U => a = as' ∧ Z.Warmed39 U.vm ∧ U.heap = h0) (fun _ _ _ _ _ => True) (fun _ U o U' => ∃ v L, o = .returned v ∧ q v U'.heap L ∧ FrameEnd U o U' L rm.cells rm.slots)
theorem own_back {a0 : Array Value} {h : Heap} {y : MethodName} {bytes : ByteArray} {maxL : Nat} {ret : Option FieldType} {rm : Room} {len W : Nat} {as' : Array Value} (hM : own_Met l Z y bytes maxL ret [] rm as' h q)
    (hZ : Z.Warmed39 s.vm) (wc : (Jvm.Cond.code y bytes maxL ret).before a0 Z = true) (wz : (Jvm.Cond.initialized y.cls).before a0 Z = true) (hf : rm.frames + 1 ≤ R.frames) (hl : W + (maxL + 11) + rm.locals ≤ R.locals) :
    Back l R p e below s args y len W (fun A a => a = as' ∧ A.U.heap = h ∧ A.cells + rm.cells ≤ R.cells ∧ A.slots + rm.slots ≤ R.slots)
      (fun A _ v B => ∃ L, q v B.U.heap L ∧ B.locs = A.locs ++ L ∧ B.cells = A.cells + rm.cells ∧ B.slots = A.slots + rm.slots) := backOf (Q := q) hM hZ wc wz hf hl
theorem own_enter {y : MethodName} {bytes : ByteArray} {maxL : Nat} {ret : Option FieldType} {ws : List Jvm.Cond} {rm : Room} {as' : Array Value} {h0 : Heap} (hpl : plainFor y = true)
    (k : ∀ (p : Program) (e : Env) (s : State) (m : MethodId) (below : List Frame) (meth : Method) (c : Code) (s₁ : State), Stand p l e rm s m as' below meth c s₁ [] 0 0 → p.tables.exec = Jvm.exec → Z.Warmed39 s.vm → c.code = bytes → c.maxLocals = maxL → s.vm.findClass y.cls = some m.cls → meth.name = y.name → meth.sig.returnType = ret → meth.locks = false → s₁.heap = h0 → own_Fin p e below s rm q (s₁.setTop (entryFrame m as' maxL))) :
    own_Met l Z y bytes maxL ret ws rm as' h0 q := by
  refine MetFree.of_bodySF hpl hisR ?_
  intro p e s m args below meth c s₁ Bd hml0 hP hK
  obtain ⟨rfl, hZ, hh⟩ := hP
  exact k p e s m below meth c s₁ (Stand.of_body Bd) Bd.exec hZ Bd.bytes hml0 (findClass_of_methodNamed Bd.named) (name_of_methodNamed Bd.named Bd.method).1 Bd.returns Bd.notSynchronized (by rw [← hh, Bd.state]; rfl)
theorem own_selP {a : Array Value} {y y' : MethodName} (w : (Jvm.Cond.selects y'.cls y' y').before a s = true) (hc : y'.cls = y.cls) (hp : s.PrivateAt y) (hi : (Jvm.Cond.instanceMethod y).before a s = true) (hy : y.cls ≠ "java/lang/invoke/MethodHandle" ∧ y.cls ≠ "java/lang/invoke/VarHandle") : (Jvm.Cond.selects y.cls y y).before a s = true := by
  obtain ⟨c, r, m, h1, -, h3, -, mk, h4, h5⟩ := Cond.selects_spec w
  exact selects_self_of_private (c := m.cls) (k := mk) (hc ▸ findClass_of_methodNamed h3) h4 h5 hp hi hy
end Own
/-! doubles: whole numbers below 2^53 are multiplied and divided exactly -/
theorem own_w64 {a : Int64} (h : B53 a) : ∃ c q, FP.Core.val64 (FP.l2d a) = .fin (decide (a.toInt < 0)) c q ∧ c * 2 ^ q.toNat = a.toInt.natAbs * 2 ^ (-q).toNat := by
  obtain ⟨c, q, e⟩ := FP.Core.l2d_shape a
  have w := FP.Core.l2d_whole (a := a) (sm h)
  have e' : FP.Core.val64 (FP.l2d a) = .fin (decide (a.toInt < 0)) c q := e
  have w' : FP.Core.Whole a.toInt (.fin (decide (a.toInt < 0)) c q) := e' ▸ w
  exact ⟨c, q, e', FP.Core.whole_natAbs w'⟩
theorem own_pp (x y : Int) : 2 ^ x.toNat * 2 ^ (-y).toNat * 2 ^ (y - x).toNat = 2 ^ (-x).toNat * 2 ^ y.toNat * 2 ^ (x - y).toNat := by
  rw [← Nat.pow_add, ← Nat.pow_add, ← Nat.pow_add, ← Nat.pow_add]
  congr 1
  omega
theorem own_quo {a b : Int64} (ha : B53 (a * b)) (hb : B53 b) (hp : 0 < b.toInt) (hm : (a * b).toInt = a.toInt * b.toInt) : FP.ddiv (FP.l2d (a * b)) (FP.l2d b) = FP.l2d a := by
  obtain ⟨c, q, ec, hc⟩ := own_w64 ha
  obtain ⟨d, r, ed, hd⟩ := own_w64 hb
  have hd0 : d ≠ 0 := by
    rintro rfl
    rw [Nat.zero_mul] at hd
    have := Nat.mul_pos (show 0 < b.toInt.natAbs by omega) (Nat.two_pow_pos (-r).toNat)
    omega
  have hs : (decide ((a * b).toInt < 0) != decide (b.toInt < 0)) = decide (a.toInt < 0) := by
    have h1 : decide (b.toInt < 0) = false := by rw [decide_eq_false_iff_not]; omega
    rw [h1, hm]
    have h2 : decide (a.toInt * b.toInt < 0) = decide (a.toInt < 0) := by
      rw [decide_eq_decide]
      constructor
      · intro h
        refine Int.lt_of_not_ge fun hge => ?_
        have := Int.mul_nonneg hge (Int.le_of_lt hp)
        omega
      · intro h; exact Int.mul_neg_of_neg_of_pos h hp
    rw [h2]; simp
  have hv : FP.Core.val64 (FP.ddiv (FP.l2d (a * b)) (FP.l2d b)) = FP.Core.val64 (FP.l2d a) := by
    have e1 := FP.Core.val64_ddiv (FP.l2d (a * b)) (FP.l2d b)
    have e2 : FP.Core.val64 (FP.l2d a) = FP.Core.roundRatio FP.Core.b64 (decide (a.toInt < 0)) a.toInt.natAbs 1 0 := FP.Core.val64_l2d a
    rw [e1, e2, ec, ed]
    simp only [FP.Core.quotient, if_neg hd0]
    rw [hs]
    refine FP.Core.roundRatio_congr (Nat.pos_of_ne_zero hd0) (by decide) ?_
    rw [hm, Int.natAbs_mul] at hc
    rw [Nat.mul_one, show (q - r - 0).toNat = (q - r).toNat by omega, show (0 - (q - r)).toNat = (r - q).toNat by omega]
    have key : (c * 2 ^ (q - r).toNat) * (2 ^ q.toNat * 2 ^ (-r).toNat * 2 ^ r.toNat * 2 ^ (-q).toNat) = (a.toInt.natAbs * d * 2 ^ (r - q).toNat) * (2 ^ q.toNat * 2 ^ (-r).toNat * 2 ^ r.toNat * 2 ^ (-q).toNat) := by
      have pq := own_pp q r
      have l : (c * 2 ^ (q - r).toNat) * (2 ^ q.toNat * 2 ^ (-r).toNat * 2 ^ r.toNat * 2 ^ (-q).toNat) = (c * 2 ^ q.toNat) * (2 ^ (-r).toNat) * (2 ^ (-q).toNat * 2 ^ r.toNat * 2 ^ (q - r).toNat) := by
        simp only [Nat.mul_assoc, Nat.mul_comm, Nat.mul_left_comm]
      have m : (a.toInt.natAbs * d * 2 ^ (r - q).toNat) * (2 ^ q.toNat * 2 ^ (-r).toNat * 2 ^ r.toNat * 2 ^ (-q).toNat) = a.toInt.natAbs * (d * 2 ^ r.toNat) * 2 ^ (-q).toNat * (2 ^ q.toNat * 2 ^ (-r).toNat * 2 ^ (r - q).toNat) := by
        simp only [Nat.mul_assoc, Nat.mul_comm, Nat.mul_left_comm]
      rw [l, m, hc, hd, pq]
      simp only [Nat.mul_assoc, Nat.mul_comm, Nat.mul_left_comm]
    exact Nat.eq_of_mul_eq_mul_right (by
      have := Nat.two_pow_pos q.toNat; have := Nat.two_pow_pos (-r).toNat; have := Nat.two_pow_pos r.toNat; have := Nat.two_pow_pos (-q).toNat
      exact Nat.mul_pos (Nat.mul_pos (Nat.mul_pos (by assumption) (by assumption)) (by assumption)) (by assumption)) key
  have hn1 : FP.Core.val64 (FP.l2d a) ≠ .nan := by
    have e2 : FP.Core.val64 (FP.l2d a) = FP.Core.roundRatio FP.Core.b64 (decide (a.toInt < 0)) a.toInt.natAbs 1 0 := FP.Core.val64_l2d a
    rw [e2]; exact FP.Core.roundRatio_ne_nan _ _ _ _ _
  exact (FP.Core.val64_inj hn1 hv.symm).symm
theorem own_x64 (x : Int32) : -2147483648 ≤ x.toInt64.toInt ∧ x.toInt64.toInt < 2147483648 := by
  rw [Int32.toInt_toInt64]; exact ⟨x.le_toInt, x.toInt_lt⟩
theorem own_prod (x n : Int32) (h1 : 0 < n.toInt) (h2 : n.toInt ≤ 3) : (x.toInt64 * n.toInt64).toInt = x.toInt64.toInt * n.toInt64.toInt ∧ B53 (x.toInt64 * n.toInt64) := by
  have hx := own_x64 x
  have hn : n.toInt64.toInt = n.toInt := Int32.toInt_toInt64 n
  have b : -6442450944 ≤ x.toInt64.toInt * n.toInt64.toInt ∧ x.toInt64.toInt * n.toInt64.toInt ≤ 6442450944 := by
    rw [hn]
    have : n.toInt = 1 ∨ n.toInt = 2 ∨ n.toInt = 3 := by omega
    rcases this with h | h | h <;> rw [h] <;> omega
  have e : (x.toInt64 * n.toInt64).toInt = x.toInt64.toInt * n.toInt64.toInt := Jvm.Kit.i64_mul (by omega) (by omega)
  exact ⟨e, by unfold B53; rw [e]; omega⟩
theorem own_mul (x n : Int32) (h1 : 0 < n.toInt) (h2 : n.toInt ≤ 3) : FP.dmul (FP.i2d x) (FP.i2d n) = FP.l2d (x.toInt64 * n.toInt64) := by
  have hx := own_x64 x
  have hn : n.toInt64.toInt = n.toInt := Int32.toInt_toInt64 n
  rw [i2d_w, i2d_w]
  refine dmul_k (A := 2147483648) (B := 3) (by omega) (by omega) (by omega) (by omega) (by decide) (by decide) (by decide) ?_ ?_
  · rintro ⟨-, q⟩; rw [Int64.lt_iff_toInt_lt, Int64.toInt_zero] at q; omega
  · rintro ⟨q, -⟩; have := congrArg Int64.toInt q; rw [Int64.toInt_zero] at this; omega
theorem own_div (x n : Int32) (h1 : 0 < n.toInt) (h2 : n.toInt ≤ 3) : FP.ddiv (FP.l2d (x.toInt64 * n.toInt64)) (FP.i2d n) = FP.i2d x := by
  have hn : n.toInt64.toInt = n.toInt := Int32.toInt_toInt64 n
  obtain ⟨e, hb⟩ := own_prod x n h1 h2
  rw [i2d_w n, i2d_w x]
  exact own_quo hb ⟨by omega, by omega⟩ (by omega) e
theorem own_nl (a : Int64) : Jvm.Free.Fl.NoNaN64 (FP.l2d a) := (Jvm.Free.Fl.l2d_fin a).noNaN
theorem own_ni (x : Int32) : Jvm.Free.Fl.NoNaN64 (FP.i2d x) := (Jvm.Free.Fl.i2d_fin x).noNaN
theorem own_vi (x : Int32) : FP.Core.val64 (FP.i2d x) ≠ .nan := by
  have q := Jvm.Free.Fl.noNaN64_no.mp (own_ni x)
  intro z
  have : FP.Core.dIsNaN (FP.i2d x) = true := by
    show FP.Core.isNaN FP.Core.b64 (FP.i2d x).toNat = true
    unfold FP.Core.isNaN
    rw [show FP.Core.decode FP.Core.b64 (FP.i2d x).toNat = .nan from z]
    rfl
  rw [this] at q; cases q
theorem own_same (x : Int32) : cmpValue (FP.dcmp (FP.i2d x) (FP.i2d x)) .l = 0 := by
  rw [show FP.dcmp (FP.i2d x) (FP.i2d x) = some .eq from FP.Core.dcmp_self (own_vi x)]; rfl
theorem own_mul1 (x : Int32) : FP.dmul (FP.i2d x) FP.dconst1 = FP.i2d x := FP.Core.dmul_one (own_vi x)
theorem own_lt32 (x y : Int32) : (x < y) = (x.toInt < y.toInt) := propext Int32.lt_iff_toInt_lt
theorem own_four (p : Int32) : (p &&& (3 : Int32)) = (0 : Int32) ∨ (p &&& (3 : Int32)) = (1 : Int32) ∨ (p &&& (3 : Int32)) = (2 : Int32) ∨ (p &&& (3 : Int32)) = (3 : Int32) := by
  have e : (p &&& 3).toInt = p.toInt % 2 ^ 2 := Jvm.Kit.i32_mask p 3 (k := 2) (by decide) (by decide)
  have h : p.toInt % 2 ^ 2 = 0 ∨ p.toInt % 2 ^ 2 = 1 ∨ p.toInt % 2 ^ 2 = 2 ∨ p.toInt % 2 ^ 2 = 3 := by omega
  rcases h with h | h | h | h
  · exact Or.inl (Int32.toInt_inj.mp (e.trans h))
  · exact Or.inr (Or.inl (Int32.toInt_inj.mp (e.trans h)))
  · exact Or.inr (Or.inr (Or.inl (Int32.toInt_inj.mp (e.trans h))))
  · exact Or.inr (Or.inr (Or.inr (Int32.toInt_inj.mp (e.trans h))))
theorem own_d1_0 : decode prog_26_method_4_code 0 = .ok (.aload_n 0, 1) := by decide +kernel
theorem own_d1_1 : decode prog_26_method_4_code 1 = .ok (.getstatic 7, 3) := by decide +kernel
theorem own_d1_4 : decode prog_26_method_4_code 4 = .ok (.if_acmp .ne 27, 3) := by decide +kernel
theorem own_d1_7 : decode prog_26_method_4_code 7 = .ok (.aload_n 1, 1) := by decide +kernel
theorem own_d1_8 : decode prog_26_method_4_code 8 = .ok (.arraylength, 1) := by decide +kernel
theorem own_d1_9 : decode prog_26_method_4_code 9 = .ok (.istore_n 2, 1) := by decide +kernel
theorem own_d1_10 : decode prog_26_method_4_code 10 = .ok (.iconst 0, 1) := by decide +kernel
theorem own_d1_11 : decode prog_26_method_4_code 11 = .ok (.istore_n 3, 1) := by decide +kernel
theorem own_d1_12 : decode prog_26_method_4_code 12 = .ok (.iload_n 3, 1) := by decide +kernel
theorem own_d1_13 : decode prog_26_method_4_code 13 = .ok (.iload_n 2, 1) := by decide +kernel
theorem own_d1_14 : decode prog_26_method_4_code 14 = .ok (.if_icmp .ge 17, 3) := by decide +kernel
theorem own_d1_17 : decode prog_26_method_4_code 17 = .ok (.aload_n 1, 1) := by decide +kernel
theorem own_d1_18 : decode prog_26_method_4_code 18 = .ok (.iload_n 3, 1) := by decide +kernel
theorem own_d1_19 : decode prog_26_method_4_code 19 = .ok (.dup2, 1) := by decide +kernel
theorem own_d1_20 : decode prog_26_method_4_code 20 = .ok (.daload, 1) := by decide +kernel
theorem own_d1_21 : decode prog_26_method_4_code 21 = .ok (.iload_n 2, 1) := by decide +kernel
theorem own_d1_22 : decode prog_26_method_4_code 22 = .ok (.i2d, 1) := by decide +kernel
theorem own_d1_23 : decode prog_26_method_4_code 23 = .ok (.ddiv, 1) := by decide +kernel
theorem own_d1_24 : decode prog_26_method_4_code 24 = .ok (.dastore, 1) := by decide +kernel
theorem own_d1_25 : decode prog_26_method_4_code 25 = .ok (.iinc 3 1, 3) := by decide +kernel
theorem own_d1_28 : decode prog_26_method_4_code 28 = .ok (.goto (-16), 3) := by decide +kernel
theorem own_d1_31 : decode prog_26_method_4_code 31 = .ok (.return_, 1) := by decide +kernel
theorem own_pn0 : plainName "com/example/walk_to_worth/walktoworth/solver/Scale" = true := by first | (simp [plainName, overriddenIn]; done) | decide +kernel
theorem own_resP0_ef (m : MethodId) (wP : Addr) (a1 : Addr) : entryFrame m #[(.ref wP), (.ref a1)] 4 = mkF m 0 #[.val (.ref wP), .val (.ref a1), .unset, .unset] [] := by first | (simp [entryFrame, mkF, argsToLocals, Value.category]; done) | rfl
set_option maxRecDepth 65536 in
set_option maxHeartbeats 40000000 in
theorem own_resP0 (l : Launch) (Z : State) (a0 : Array Value) (hw : ∀ d ∈ tables_1, d.before a0 Z = true) (ws : List Jvm.Cond) (wP : Addr) (a1 : Addr) (k : ClassId) (h0 : Heap) (n0 : Nat) (Z0 : n0 ≤ h0.size) (O0 : Old Z n0 h0) (SS : Sta Z Z.heap "com/example/walk_to_worth/walktoworth/solver/Scale" "PROBABILITY" "Lcom/example/walk_to_worth/walktoworth/solver/Scale;" (.ref wP)) (V1 : Arv Z h0 a1 k .double (0 : Int32) [] (.double (0 : UInt64))) (g_a1 : n0 ≤ a1) :
    own_Met l Z (⟨"com/example/walk_to_worth/walktoworth/solver/Scale", "rescale", "([D)V"⟩ : MethodName) prog_26_method_4_code 4 none ws ({ frames := 0, cells := 0, slots := 0, locals := 0 } : Room) #[(.ref wP), (.ref a1)] h0 (fun v h L => v = none ∧ Fr n0 L ∧ Keep h0 h [a1] ∧ Arv Z h a1 k .double (0 : Int32) [] (.double (0 : UInt64))) := by
  refine own_enter (plainFor_of_name own_pn0) ?_
  intro p e s m below meth c s₁ X0 hx hZ hby hml hown hnm hret hlk e0
  have N0 := Fr.nil n0
  rw [own_resP0_ef m wP a1]
  have KK0 : Keep h0 h0 [a1] := Keep.refl _ _
  show own_Fin _ _ _ _ _ _ (s₁.setTop (mkF m 0 #[.val (.ref wP), .val (.ref a1), .unset, .unset] []))
  refine own_to (fun t k => XS.aloadN X0.here hx rfl (hb hby own_d1_0) rfl rfl k) ?_
  show own_Fin _ _ _ _ _ _ (s₁.setTop (mkF m 1 #[.val (.ref wP), .val (.ref a1), .unset, .unset] [(.ref wP)]))
  obtain ⟨T1, X1, e1, st1⟩ := getS2 X0 hx hZ hown (host := "") (Or.inl (hw _ (List.mem_of_getElem? (i := 9) rfl))) Via.refl e0 (SS.ext O0.2) (g := (mkF m 1 #[.val (.ref wP), .val (.ref a1), .unset, .unset] [(.ref wP)])) rfl (hb hby own_d1_1)
  refine own_to (fun t k => st1 t k) ?_
  show own_Fin _ _ _ _ _ _ (T1.setTop (mkF m 4 #[.val (.ref wP), .val (.ref a1), .unset, .unset] [(.ref wP), (.ref wP)]))
  refine own_to (fun t k => Jvm.RoadKit.acmp (g := (mkF m 4 #[.val (.ref wP), .val (.ref a1), .unset, .unset] [(.ref wP), (.ref wP)])) X1 hx rfl rfl rfl (pc0 := 4) (pc' := 7) (same := true) rfl (hb hby own_d1_4) rfl (decide_eq_true rfl) (by decide) (by decide) k) ?_
  show own_Fin _ _ _ _ _ _ (T1.setTop (mkF m 7 #[.val (.ref wP), .val (.ref a1), .unset, .unset] []))
  refine own_to (fun t k => XS.aloadN X1.here hx rfl (hb hby own_d1_7) rfl rfl k) ?_
  show own_Fin _ _ _ _ _ _ (T1.setTop (mkF m 8 #[.val (.ref wP), .val (.ref a1), .unset, .unset] [(.ref a1)]))
  obtain ⟨cl2, Ar2, qa2, Sa2, Na2, Ha2, Ga2⟩ := id V1
  refine own_to (fun t k => X1.arraylength hx (by rw [e1]; exact Ar2.1) (State.isArrayOf_alike hZ.alike Ar2.2.1) (g := (mkF m 8 #[.val (.ref wP), .val (.ref a1), .unset, .unset] [(.ref a1)])) rfl rfl (hb hby own_d1_8) _ k) ?_
  rw [len_of Sa2 Na2]
  show own_Fin _ _ _ _ _ _ (T1.setTop (mkF m 9 #[.val (.ref wP), .val (.ref a1), .unset, .unset] [(.int (0 : Int32))]))
  refine own_to (fun t k => XS.istoreN X1.here hx rfl (hb hby own_d1_9) rfl (l' := #[.val (.ref wP), .val (.ref a1), .val (.int (0 : Int32)), .unset]) rfl k) ?_
  show own_Fin _ _ _ _ _ _ (T1.setTop (mkF m 10 #[.val (.ref wP), .val (.ref a1), .val (.int (0 : Int32)), .unset] []))
  refine own_to (fun t k => XS.iconst X1.here hx rfl (hb hby own_d1_10) k) ?_
  show own_Fin _ _ _ _ _ _ (T1.setTop (mkF m 11 #[.val (.ref wP), .val (.ref a1), .val (.int (0 : Int32)), .unset] [(.int (0 : Int32))]))
  refine own_to (fun t k => XS.istoreN X1.here hx rfl (hb hby own_d1_11) rfl (l' := #[.val (.ref wP), .val (.ref a1), .val (.int (0 : Int32)), .val (.int (0 : Int32))]) rfl k) ?_
  show own_Fin _ _ _ _ _ _ (T1.setTop (mkF m 12 #[.val (.ref wP), .val (.ref a1), .val (.int (0 : Int32)), .val (.int (0 : Int32))] []))
  refine own_to (fun t k => XS.iloadN X1.here hx rfl (hb hby own_d1_12) rfl k) ?_
  show own_Fin _ _ _ _ _ _ (T1.setTop (mkF m 13 #[.val (.ref wP), .val (.ref a1), .val (.int (0 : Int32)), .val (.int (0 : Int32))] [(.int (0 : Int32))]))
  refine own_to (fun t k => XS.iloadN X1.here hx rfl (hb hby own_d1_13) rfl k) ?_
  show own_Fin _ _ _ _ _ _ (T1.setTop (mkF m 14 #[.val (.ref wP), .val (.ref a1), .val (.int (0 : Int32)), .val (.int (0 : Int32))] [(.int (0 : Int32)), (.int (0 : Int32))]))
  refine own_to (fun t k => XS.icmpYes X1.here hx rfl (pc0 := 14) (pc' := 31) rfl (hb hby own_d1_14) rfl (flt (Int32.lt_irrefl)).2.1 (by decide) (by decide) k) ?_
  show own_Fin _ _ _ _ _ _ (T1.setTop (mkF m 31 #[.val (.ref wP), .val (.ref a1), .val (.int (0 : Int32)), .val (.int (0 : Int32))] []))
  refine own_retV X1 hx hlk hret (hb hby own_d1_31) (by decide) (by decide) ?_
  try rw [e1]
  exact ⟨rfl, N0, KK0, V1⟩
theorem own_resP1_ef (m : MethodId) (wP : Addr) (a1 : Addr) : entryFrame m #[(.ref wP), (.ref a1)] 4 = mkF m 0 #[.val (.ref wP), .val (.ref a1), .unset, .unset] [] := by first | (simp [entryFrame, mkF, argsToLocals, Value.category]; done) | rfl
set_option maxRecDepth 65536 in
set_option maxHeartbeats 40000000 in
theorem own_resP1 (l : Launch) (Z : State) (a0 : Array Value) (hw : ∀ d ∈ tables_1, d.before a0 Z = true) (ws : List Jvm.Cond) (wP : Addr) (a1 : Addr) (k : ClassId) (x0 : Int32) (h0 : Heap) (n0 : Nat) (Z0 : n0 ≤ h0.size) (O0 : Old Z n0 h0) (SS : Sta Z Z.heap "com/example/walk_to_worth/walktoworth/solver/Scale" "PROBABILITY" "Lcom/example/walk_to_worth/walktoworth/solver/Scale;" (.ref wP)) (V1 : Arv Z h0 a1 k .double (1 : Int32) [(.double (FP.l2d (x0.toInt64 * (1 : Int32).toInt64)))] (.double (0 : UInt64))) (g_a1 : n0 ≤ a1) :
    own_Met l Z (⟨"com/example/walk_to_worth/walktoworth/solver/Scale", "rescale", "([D)V"⟩ : MethodName) prog_26_method_4_code 4 none ws ({ frames := 0, cells := 0, slots := 0, locals := 0 } : Room) #[(.ref wP), (.ref a1)] h0 (fun v h L => v = none ∧ Fr n0 L ∧ Keep h0 h [a1] ∧ Arv Z h a1 k .double (1 : Int32) [(.double (FP.i2d x0))] (.double (0 : UInt64))) := by
  refine own_enter (plainFor_of_name own_pn0) ?_
  intro p e s m below meth c s₁ X0 hx hZ hby hml hown hnm hret hlk e0
  have N0 := Fr.nil n0
  rw [own_resP1_ef m wP a1]
  have KK0 : Keep h0 h0 [a1] := Keep.refl _ _
  show own_Fin _ _ _ _ _ _ (s₁.setTop (mkF m 0 #[.val (.ref wP), .val (.ref a1), .unset, .unset] []))
  refine own_to (fun t k => XS.aloadN X0.here hx rfl (hb hby own_d1_0) rfl rfl k) ?_
  show own_Fin _ _ _ _ _ _ (s₁.setTop (mkF m 1 #[.val (.ref wP), .val (.ref a1), .unset, .unset] [(.ref wP)]))
  obtain ⟨T3, X3, e3, st3⟩ := getS2 X0 hx hZ hown (host := "") (Or.inl (hw _ (List.mem_of_getElem? (i := 9) rfl))) Via.refl e0 (SS.ext O0.2) (g := (mkF m 1 #[.val (.ref wP), .val (.ref a1), .unset, .unset] [(.ref wP)])) rfl (hb hby own_d1_1)
  refine own_to (fun t k => st3 t k) ?_
  show own_Fin _ _ _ _ _ _ (T3.setTop (mkF m 4 #[.val (.ref wP), .val (.ref a1), .unset, .unset] [(.ref wP), (.ref wP)]))
  refine own_to (fun t k => Jvm.RoadKit.acmp (g := (mkF m 4 #[.val (.ref wP), .val (.ref a1), .unset, .unset] [(.ref wP), (.ref wP)])) X3 hx rfl rfl rfl (pc0 := 4) (pc' := 7) (same := true) rfl (hb hby own_d1_4) rfl (decide_eq_true rfl) (by decide) (by decide) k) ?_
  show own_Fin _ _ _ _ _ _ (T3.setTop (mkF m 7 #[.val (.ref wP), .val (.ref a1), .unset, .unset] []))
  refine own_to (fun t k => XS.aloadN X3.here hx rfl (hb hby own_d1_7) rfl rfl k) ?_
  show own_Fin _ _ _ _ _ _ (T3.setTop (mkF m 8 #[.val (.ref wP), .val (.ref a1), .unset, .unset] [(.ref a1)]))
  obtain ⟨cl4, Ar4, qa4, Sa4, Na4, Ha4, Ga4⟩ := id V1
  refine own_to (fun t k => X3.arraylength hx (by rw [e3]; exact Ar4.1) (State.isArrayOf_alike hZ.alike Ar4.2.1) (g := (mkF m 8 #[.val (.ref wP), .val (.ref a1), .unset, .unset] [(.ref a1)])) rfl rfl (hb hby own_d1_8) _ k) ?_
  rw [len_of Sa4 Na4]
  show own_Fin _ _ _ _ _ _ (T3.setTop (mkF m 9 #[.val (.ref wP), .val (.ref a1), .unset, .unset] [(.int (1 : Int32))]))
  refine own_to (fun t k => XS.istoreN X3.here hx rfl (hb hby own_d1_9) rfl (l' := #[.val (.ref wP), .val (.ref a1), .val (.int (1 : Int32)), .unset]) rfl k) ?_
  show own_Fin _ _ _ _ _ _ (T3.setTop (mkF m 10 #[.val (.ref wP), .val (.ref a1), .val (.int (1 : Int32)), .unset] []))
  refine own_to (fun t k => XS.iconst X3.here hx rfl (hb hby own_d1_10) k) ?_
  show own_Fin _ _ _ _ _ _ (T3.setTop (mkF m 11 #[.val (.ref wP), .val (.ref a1), .val (.int (1 : Int32)), .unset] [(.int (0 : Int32))]))
  refine own_to (fun t k => XS.istoreN X3.here hx rfl (hb hby own_d1_11) rfl (l' := #[.val (.ref wP), .val (.ref a1), .val (.int (1 : Int32)), .val (.int (0 : Int32))]) rfl k) ?_
  show own_Fin _ _ _ _ _ _ (T3.setTop (mkF m 12 #[.val (.ref wP), .val (.ref a1), .val (.int (1 : Int32)), .val (.int (0 : Int32))] []))
  refine own_to (fun t k => XS.iloadN X3.here hx rfl (hb hby own_d1_12) rfl k) ?_
  show own_Fin _ _ _ _ _ _ (T3.setTop (mkF m 13 #[.val (.ref wP), .val (.ref a1), .val (.int (1 : Int32)), .val (.int (0 : Int32))] [(.int (0 : Int32))]))
  refine own_to (fun t k => XS.iloadN X3.here hx rfl (hb hby own_d1_13) rfl k) ?_
  show own_Fin _ _ _ _ _ _ (T3.setTop (mkF m 14 #[.val (.ref wP), .val (.ref a1), .val (.int (1 : Int32)), .val (.int (0 : Int32))] [(.int (1 : Int32)), (.int (0 : Int32))]))
  refine own_to (fun t k => XS.icmpNo X3.here hx rfl (hb hby own_d1_14) rfl (tlt (by decide)).2.1 k) ?_
  show own_Fin _ _ _ _ _ _ (T3.setTop (mkF m 17 #[.val (.ref wP), .val (.ref a1), .val (.int (1 : Int32)), .val (.int (0 : Int32))] []))
  refine own_to (fun t k => XS.aloadN X3.here hx rfl (hb hby own_d1_17) rfl rfl k) ?_
  show own_Fin _ _ _ _ _ _ (T3.setTop (mkF m 18 #[.val (.ref wP), .val (.ref a1), .val (.int (1 : Int32)), .val (.int (0 : Int32))] [(.ref a1)]))
  refine own_to (fun t k => XS.iloadN X3.here hx rfl (hb hby own_d1_18) rfl k) ?_
  show own_Fin _ _ _ _ _ _ (T3.setTop (mkF m 19 #[.val (.ref wP), .val (.ref a1), .val (.int (1 : Int32)), .val (.int (0 : Int32))] [(.int (0 : Int32)), (.ref a1)]))
  refine own_to (fun t k => XT.dup2 X3.here hx rfl (hb hby own_d1_19) rfl rfl rfl k) ?_
  show own_Fin _ _ _ _ _ _ (T3.setTop (mkF m 20 #[.val (.ref wP), .val (.ref a1), .val (.int (1 : Int32)), .val (.int (0 : Int32))] [(.int (0 : Int32)), (.ref a1), (.int (0 : Int32)), (.ref a1)]))
  obtain ⟨cl5, Ar5, qa5, Sa5, Na5, Ha5, Ga5⟩ := id V1
  have hin6 : ¬ ((0 : Int32) < 0 ∨ cl5.slots.size ≤ ((0 : Int32)).toNatClampNeg) := inb_of Sa5 ⟨by decide, by decide⟩
  refine own_to (fun t k => X3.daload hx (j := (0 : Int32)) (v := (.double (FP.l2d (x0.toInt64 * (1 : Int32).toInt64)))) (by rw [e3]; exact Ar5.1) (State.isArrayOf_alike hZ.alike Ar5.2.1) Ar5.2.2 hin6 (Has.at Ha5 hin6 rfl) (g := (mkF m 20 #[.val (.ref wP), .val (.ref a1), .val (.int (1 : Int32)), .val (.int (0 : Int32))] [(.int (0 : Int32)), (.ref a1), (.int (0 : Int32)), (.ref a1)])) rfl rfl (hb hby own_d1_20) _ k) ?_
  show own_Fin _ _ _ _ _ _ (T3.setTop (mkF m 21 #[.val (.ref wP), .val (.ref a1), .val (.int (1 : Int32)), .val (.int (0 : Int32))] [(.double (FP.l2d (x0.toInt64 * (1 : Int32).toInt64))), (.int (0 : Int32)), (.ref a1)]))
  refine own_to (fun t k => XS.iloadN X3.here hx rfl (hb hby own_d1_21) rfl k) ?_
  show own_Fin _ _ _ _ _ _ (T3.setTop (mkF m 22 #[.val (.ref wP), .val (.ref a1), .val (.int (1 : Int32)), .val (.int (0 : Int32))] [(.int (1 : Int32)), (.double (FP.l2d (x0.toInt64 * (1 : Int32).toInt64))), (.int (0 : Int32)), (.ref a1)]))
  refine own_to (fun t k => XS.i2dS X3.here hx rfl (hb hby own_d1_22) rfl rfl k) ?_
  show own_Fin _ _ _ _ _ _ (T3.setTop (mkF m 23 #[.val (.ref wP), .val (.ref a1), .val (.int (1 : Int32)), .val (.int (0 : Int32))] [(.double (FP.i2d (1 : Int32))), (.double (FP.l2d (x0.toInt64 * (1 : Int32).toInt64))), (.int (0 : Int32)), (.ref a1)]))
  refine own_to (fun t k => XS.ddivS X3.here hx rfl (hb hby own_d1_23) rfl (by rw [own_div x0 (1 : Int32) (by decide) (by decide)]; exact own_ni _) (own_div x0 (1 : Int32) (by decide) (by decide)) k) ?_
  show own_Fin _ _ _ _ _ _ (T3.setTop (mkF m 24 #[.val (.ref wP), .val (.ref a1), .val (.int (1 : Int32)), .val (.int (0 : Int32))] [(.double (FP.i2d x0)), (.int (0 : Int32)), (.ref a1)]))
  obtain ⟨cl7, Ar7, qa7, Sa7, Na7, Ha7, Ga7⟩ := id V1
  have hin8 : ¬ ((0 : Int32) < 0 ∨ cl7.slots.size ≤ ((0 : Int32)).toNatClampNeg) := inb_of Sa7 ⟨by decide, by decide⟩
  obtain ⟨T8, h8, X8, e8, W8, st8⟩ := stD X3 hx hZ e3 Ar7 (j := (0 : Int32)) hin8 (g := (mkF m 24 #[.val (.ref wP), .val (.ref a1), .val (.int (1 : Int32)), .val (.int (0 : Int32))] [(.double (FP.i2d x0)), (.int (0 : Int32)), (.ref a1)])) rfl rfl (hb hby own_d1_24)
  have N8 := Fr.snoc X8 N0 g_a1
  have O8 := O0.wr W8 g_a1
  have KK8 : Keep h0 h8 [a1] := KK0.wr W8 (Or.inl (List.mem_of_getElem? (i := 0) rfl))
  have V8 : Arv Z h8 a1 k .double (1 : Int32) [(.double (FP.i2d x0))] (.double (0 : UInt64)) := Arv.set Ar7 qa7 Sa7 Na7 Ha7 Ga7 rfl W8 0 rfl (Nat.le_of_ble_eq_true rfl)
  refine own_to (fun t k => st8 t k) ?_
  show own_Fin _ _ _ _ _ _ (T8.setTop (mkF m 25 #[.val (.ref wP), .val (.ref a1), .val (.int (1 : Int32)), .val (.int (0 : Int32))] []))
  refine own_to (fun t k => XS.iinc X8.here hx rfl (hb hby own_d1_25) rfl (l' := #[.val (.ref wP), .val (.ref a1), .val (.int (1 : Int32)), .val (.int (1 : Int32))]) rfl k) ?_
  show own_Fin _ _ _ _ _ _ (T8.setTop (mkF m 28 #[.val (.ref wP), .val (.ref a1), .val (.int (1 : Int32)), .val (.int (1 : Int32))] []))
  refine own_to (fun t k => XS.goto X8.here hx rfl (pc0 := 28) (pc' := 12) rfl (hb hby own_d1_28) (by decide) (by decide) k) ?_
  show own_Fin _ _ _ _ _ _ (T8.setTop (mkF m 12 #[.val (.ref wP), .val (.ref a1), .val (.int (1 : Int32)), .val (.int (1 : Int32))] []))
  refine own_to (fun t k => XS.iloadN X8.here hx rfl (hb hby own_d1_12) rfl k) ?_
  show own_Fin _ _ _ _ _ _ (T8.setTop (mkF m 13 #[.val (.ref wP), .val (.ref a1), .val (.int (1 : Int32)), .val (.int (1 : Int32))] [(.int (1 : Int32))]))
  refine own_to (fun t k => XS.iloadN X8.here hx rfl (hb hby own_d1_13) rfl k) ?_
  show own_Fin _ _ _ _ _ _ (T8.setTop (mkF m 14 #[.val (.ref wP), .val (.ref a1), .val (.int (1 : Int32)), .val (.int (1 : Int32))] [(.int (1 : Int32)), (.int (1 : Int32))]))
  refine own_to (fun t k => XS.icmpYes X8.here hx rfl (pc0 := 14) (pc' := 31) rfl (hb hby own_d1_14) rfl (flt (Int32.lt_irrefl)).2.1 (by decide) (by decide) k) ?_
  show own_Fin _ _ _ _ _ _ (T8.setTop (mkF m 31 #[.val (.ref wP), .val (.ref a1), .val (.int (1 : Int32)), .val (.int (1 : Int32))] []))
  refine own_retV X8 hx hlk hret (hb hby own_d1_31) (by decide) (by decide) ?_
  try rw [e8]
  exact ⟨rfl, N8, KK8, V8⟩
theorem own_resP2_ef (m : MethodId) (wP : Addr) (a1 : Addr) : entryFrame m #[(.ref wP), (.ref a1)] 4 = mkF m 0 #[.val (.ref wP), .val (.ref a1), .unset, .unset] [] := by first | (simp [entryFrame, mkF, argsToLocals, Value.category]; done) | rfl
set_option maxRecDepth 65536 in
set_option maxHeartbeats 40000000 in
theorem own_resP2 (l : Launch) (Z : State) (a0 : Array Value) (hw : ∀ d ∈ tables_1, d.before a0 Z = true) (ws : List Jvm.Cond) (wP : Addr) (a1 : Addr) (k : ClassId) (x0 : Int32) (x1 : Int32) (h0 : Heap) (n0 : Nat) (Z0 : n0 ≤ h0.size) (O0 : Old Z n0 h0) (SS : Sta Z Z.heap "com/example/walk_to_worth/walktoworth/solver/Scale" "PROBABILITY" "Lcom/example/walk_to_worth/walktoworth/solver/Scale;" (.ref wP)) (V1 : Arv Z h0 a1 k .double (2 : Int32) [(.double (FP.l2d (x0.toInt64 * (2 : Int32).toInt64))), (.double (FP.l2d (x1.toInt64 * (2 : Int32).toInt64)))] (.double (0 : UInt64))) (g_a1 : n0 ≤ a1) :
    own_Met l Z (⟨"com/example/walk_to_worth/walktoworth/solver/Scale", "rescale", "([D)V"⟩ : MethodName) prog_26_method_4_code 4 none ws ({ frames := 0, cells := 0, slots := 0, locals := 0 } : Room) #[(.ref wP), (.ref a1)] h0 (fun v h L => v = none ∧ Fr n0 L ∧ Keep h0 h [a1] ∧ Arv Z h a1 k .double (2 : Int32) [(.double (FP.i2d x0)), (.double (FP.i2d x1))] (.double (0 : UInt64))) := by
  refine own_enter (plainFor_of_name own_pn0) ?_
  intro p e s m below meth c s₁ X0 hx hZ hby hml hown hnm hret hlk e0
  have N0 := Fr.nil n0
  rw [own_resP2_ef m wP a1]
  have KK0 : Keep h0 h0 [a1] := Keep.refl _ _
  show own_Fin _ _ _ _ _ _ (s₁.setTop (mkF m 0 #[.val (.ref wP), .val (.ref a1), .unset, .unset] []))
  refine own_to (fun t k => XS.aloadN X0.here hx rfl (hb hby own_d1_0) rfl rfl k) ?_
  show own_Fin _ _ _ _ _ _ (s₁.setTop (mkF m 1 #[.val (.ref wP), .val (.ref a1), .unset, .unset] [(.ref wP)]))
  obtain ⟨T9, X9, e9, st9⟩ := getS2 X0 hx hZ hown (host := "") (Or.inl (hw _ (List.mem_of_getElem? (i := 9) rfl))) Via.refl e0 (SS.ext O0.2) (g := (mkF m 1 #[.val (.ref wP), .val (.ref a1), .unset, .unset] [(.ref wP)])) rfl (hb hby own_d1_1)
  refine own_to (fun t k => st9 t k) ?_
  show own_Fin _ _ _ _ _ _ (T9.setTop (mkF m 4 #[.val (.ref wP), .val (.ref a1), .unset, .unset] [(.ref wP), (.ref wP)]))
  refine own_to (fun t k => Jvm.RoadKit.acmp (g := (mkF m 4 #[.val (.ref wP), .val (.ref a1), .unset, .unset] [(.ref wP), (.ref wP)])) X9 hx rfl rfl rfl (pc0 := 4) (pc' := 7) (same := true) rfl (hb hby own_d1_4) rfl (decide_eq_true rfl) (by decide) (by decide) k) ?_
  show own_Fin _ _ _ _ _ _ (T9.setTop (mkF m 7 #[.val (.ref wP), .val (.ref a1), .unset, .unset] []))
  refine own_to (fun t k => XS.aloadN X9.here hx rfl (hb hby own_d1_7) rfl rfl k) ?_
  show own_Fin _ _ _ _ _ _ (T9.setTop (mkF m 8 #[.val (.ref wP), .val (.ref a1), .unset, .unset] [(.ref a1)]))
  obtain ⟨cl10, Ar10, qa10, Sa10, Na10, Ha10, Ga10⟩ := id V1
  refine own_to (fun t k => X9.arraylength hx (by rw [e9]; exact Ar10.1) (State.isArrayOf_alike hZ.alike Ar10.2.1) (g := (mkF m 8 #[.val (.ref wP), .val (.ref a1), .unset, .unset] [(.ref a1)])) rfl rfl (hb hby own_d1_8) _ k) ?_
  rw [len_of Sa10 Na10]
  show own_Fin _ _ _ _ _ _ (T9.setTop (mkF m 9 #[.val (.ref wP), .val (.ref a1), .unset, .unset] [(.int (2 : Int32))]))
  refine own_to (fun t k => XS.istoreN X9.here hx rfl (hb hby own_d1_9) rfl (l' := #[.val (.ref wP), .val (.ref a1), .val (.int (2 : Int32)), .unset]) rfl k) ?_
  show own_Fin _ _ _ _ _ _ (T9.setTop (mkF m 10 #[.val (.ref wP), .val (.ref a1), .val (.int (2 : Int32)), .unset] []))
  refine own_to (fun t k => XS.iconst X9.here hx rfl (hb hby own_d1_10) k) ?_
  show own_Fin _ _ _ _ _ _ (T9.setTop (mkF m 11 #[.val (.ref wP), .val (.ref a1), .val (.int (2 : Int32)), .unset] [(.int (0 : Int32))]))
  refine own_to (fun t k => XS.istoreN X9.here hx rfl (hb hby own_d1_11) rfl (l' := #[.val (.ref wP), .val (.ref a1), .val (.int (2 : Int32)), .val (.int (0 : Int32))]) rfl k) ?_
  show own_Fin _ _ _ _ _ _ (T9.setTop (mkF m 12 #[.val (.ref wP), .val (.ref a1), .val (.int (2 : Int32)), .val (.int (0 : Int32))] []))
  refine own_to (fun t k => XS.iloadN X9.here hx rfl (hb hby own_d1_12) rfl k) ?_
  show own_Fin _ _ _ _ _ _ (T9.setTop (mkF m 13 #[.val (.ref wP), .val (.ref a1), .val (.int (2 : Int32)), .val (.int (0 : Int32))] [(.int (0 : Int32))]))
  refine own_to (fun t k => XS.iloadN X9.here hx rfl (hb hby own_d1_13) rfl k) ?_
  show own_Fin _ _ _ _ _ _ (T9.setTop (mkF m 14 #[.val (.ref wP), .val (.ref a1), .val (.int (2 : Int32)), .val (.int (0 : Int32))] [(.int (2 : Int32)), (.int (0 : Int32))]))
  refine own_to (fun t k => XS.icmpNo X9.here hx rfl (hb hby own_d1_14) rfl (tlt (by decide)).2.1 k) ?_
  show own_Fin _ _ _ _ _ _ (T9.setTop (mkF m 17 #[.val (.ref wP), .val (.ref a1), .val (.int (2 : Int32)), .val (.int (0 : Int32))] []))
  refine own_to (fun t k => XS.aloadN X9.here hx rfl (hb hby own_d1_17) rfl rfl k) ?_
  show own_Fin _ _ _ _ _ _ (T9.setTop (mkF m 18 #[.val (.ref wP), .val (.ref a1), .val (.int (2 : Int32)), .val (.int (0 : Int32))] [(.ref a1)]))
  refine own_to (fun t k => XS.iloadN X9.here hx rfl (hb hby own_d1_18) rfl k) ?_
  show own_Fin _ _ _ _ _ _ (T9.setTop (mkF m 19 #[.val (.ref wP), .val (.ref a1), .val (.int (2 : Int32)), .val (.int (0 : Int32))] [(.int (0 : Int32)), (.ref a1)]))
  refine own_to (fun t k => XT.dup2 X9.here hx rfl (hb hby own_d1_19) rfl rfl rfl k) ?_
  show own_Fin _ _ _ _ _ _ (T9.setTop (mkF m 20 #[.val (.ref wP), .val (.ref a1), .val (.int (2 : Int32)), .val (.int (0 : Int32))] [(.int (0 : Int32)), (.ref a1), (.int (0 : Int32)), (.ref a1)]))
  obtain ⟨cl11, Ar11, qa11, Sa11, Na11, Ha11, Ga11⟩ := id V1
  have hin12 : ¬ ((0 : Int32) < 0 ∨ cl11.slots.size ≤ ((0 : Int32)).toNatClampNeg) := inb_of Sa11 ⟨by decide, by decide⟩
  refine own_to (fun t k => X9.daload hx (j := (0 : Int32)) (v := (.double (FP.l2d (x0.toInt64 * (2 : Int32).toInt64)))) (by rw [e9]; exact Ar11.1) (State.isArrayOf_alike hZ.alike Ar11.2.1) Ar11.2.2 hin12 (Has.at Ha11 hin12 rfl) (g := (mkF m 20 #[.val (.ref wP), .val (.ref a1), .val (.int (2 : Int32)), .val (.int (0 : Int32))] [(.int (0 : Int32)), (.ref a1), (.int (0 : Int32)), (.ref a1)])) rfl rfl (hb hby own_d1_20) _ k) ?_
  show own_Fin _ _ _ _ _ _ (T9.setTop (mkF m 21 #[.val (.ref wP), .val (.ref a1), .val (.int (2 : Int32)), .val (.int (0 : Int32))] [(.double (FP.l2d (x0.toInt64 * (2 : Int32).toInt64))), (.int (0 : Int32)), (.ref a1)]))
  refine own_to (fun t k => XS.iloadN X9.here hx rfl (hb hby own_d1_21) rfl k) ?_
  show own_Fin _ _ _ _ _ _ (T9.setTop (mkF m 22 #[.val (.ref wP), .val (.ref a1), .val (.int (2 : Int32)), .val (.int (0 : Int32))] [(.int (2 : Int32)), (.double (FP.l2d (x0.toInt64 * (2 : Int32).toInt64))), (.int (0 : Int32)), (.ref a1)]))
  refine own_to (fun t k => XS.i2dS X9.here hx rfl (hb hby own_d1_22) rfl rfl k) ?_
  show own_Fin _ _ _ _ _ _ (T9.setTop (mkF m 23 #[.val (.ref wP), .val (.ref a1), .val (.int (2 : Int32)), .val (.int (0 : Int32))] [(.double (FP.i2d (2 : Int32))), (.double (FP.l2d (x0.toInt64 * (2 : Int32).toInt64))), (.int (0 : Int32)), (.ref a1)]))
  refine own_to (fun t k => XS.ddivS X9.here hx rfl (hb hby own_d1_23) rfl (by rw [own_div x0 (2 : Int32) (by decide) (by decide)]; exact own_ni _) (own_div x0 (2 : Int32) (by decide) (by decide)) k) ?_
  show own_Fin _ _ _ _ _ _ (T9.setTop (mkF m 24 #[.val (.ref wP), .val (.ref a1), .val (.int (2 : Int32)), .val (.int (0 : Int32))] [(.double (FP.i2d x0)), (.int (0 : Int32)), (.ref a1)]))
  obtain ⟨cl13, Ar13, qa13, Sa13, Na13, Ha13, Ga13⟩ := id V1
  have hin14 : ¬ ((0 : Int32) < 0 ∨ cl13.slots.size ≤ ((0 : Int32)).toNatClampNeg) := inb_of Sa13 ⟨by decide, by decide⟩
  obtain ⟨T14, h14, X14, e14, W14, st14⟩ := stD X9 hx hZ e9 Ar13 (j := (0 : Int32)) hin14 (g := (mkF m 24 #[.val (.ref wP), .val (.ref a1), .val (.int (2 : Int32)), .val (.int (0 : Int32))] [(.double (FP.i2d x0)), (.int (0 : Int32)), (.ref a1)])) rfl rfl (hb hby own_d1_24)
  have N14 := Fr.snoc X14 N0 g_a1
  have O14 := O0.wr W14 g_a1
  have KK14 : Keep h0 h14 [a1] := KK0.wr W14 (Or.inl (List.mem_of_getElem? (i := 0) rfl))
  have V14 : Arv Z h14 a1 k .double (2 : Int32) [(.double (FP.i2d x0)), (.double (FP.l2d (x1.toInt64 * (2 : Int32).toInt64)))] (.double (0 : UInt64)) := Arv.set Ar13 qa13 Sa13 Na13 Ha13 Ga13 rfl W14 0 rfl (Nat.le_of_ble_eq_true rfl)
  refine own_to (fun t k => st14 t k) ?_
  show own_Fin _ _ _ _ _ _ (T14.setTop (mkF m 25 #[.val (.ref wP), .val (.ref a1), .val (.int (2 : Int32)), .val (.int (0 : Int32))] []))
  refine own_to (fun t k => XS.iinc X14.here hx rfl (hb hby own_d1_25) rfl (l' := #[.val (.ref wP), .val (.ref a1), .val (.int (2 : Int32)), .val (.int (1 : Int32))]) rfl k) ?_
  show own_Fin _ _ _ _ _ _ (T14.setTop (mkF m 28 #[.val (.ref wP), .val (.ref a1), .val (.int (2 : Int32)), .val (.int (1 : Int32))] []))
  refine own_to (fun t k => XS.goto X14.here hx rfl (pc0 := 28) (pc' := 12) rfl (hb hby own_d1_28) (by decide) (by decide) k) ?_
  show own_Fin _ _ _ _ _ _ (T14.setTop (mkF m 12 #[.val (.ref wP), .val (.ref a1), .val (.int (2 : Int32)), .val (.int (1 : Int32))] []))
  refine own_to (fun t k => XS.iloadN X14.here hx rfl (hb hby own_d1_12) rfl k) ?_
  show own_Fin _ _ _ _ _ _ (T14.setTop (mkF m 13 #[.val (.ref wP), .val (.ref a1), .val (.int (2 : Int32)), .val (.int (1 : Int32))] [(.int (1 : Int32))]))
  refine own_to (fun t k => XS.iloadN X14.here hx rfl (hb hby own_d1_13) rfl k) ?_
  show own_Fin _ _ _ _ _ _ (T14.setTop (mkF m 14 #[.val (.ref wP), .val (.ref a1), .val (.int (2 : Int32)), .val (.int (1 : Int32))] [(.int (2 : Int32)), (.int (1 : Int32))]))
  refine own_to (fun t k => XS.icmpNo X14.here hx rfl (hb hby own_d1_14) rfl (tlt (by decide)).2.1 k) ?_
  show own_Fin _ _ _ _ _ _ (T14.setTop (mkF m 17 #[.val (.ref wP), .val (.ref a1), .val (.int (2 : Int32)), .val (.int (1 : Int32))] []))
  refine own_to (fun t k => XS.aloadN X14.here hx rfl (hb hby own_d1_17) rfl rfl k) ?_
  show own_Fin _ _ _ _ _ _ (T14.setTop (mkF m 18 #[.val (.ref wP), .val (.ref a1), .val (.int (2 : Int32)), .val (.int (1 : Int32))] [(.ref a1)]))
  refine own_to (fun t k => XS.iloadN X14.here hx rfl (hb hby own_d1_18) rfl k) ?_
  show own_Fin _ _ _ _ _ _ (T14.setTop (mkF m 19 #[.val (.ref wP), .val (.ref a1), .val (.int (2 : Int32)), .val (.int (1 : Int32))] [(.int (1 : Int32)), (.ref a1)]))
  refine own_to (fun t k => XT.dup2 X14.here hx rfl (hb hby own_d1_19) rfl rfl rfl k) ?_
  show own_Fin _ _ _ _ _ _ (T14.setTop (mkF m 20 #[.val (.ref wP), .val (.ref a1), .val (.int (2 : Int32)), .val (.int (1 : Int32))] [(.int (1 : Int32)), (.ref a1), (.int (1 : Int32)), (.ref a1)]))
  obtain ⟨cl15, Ar15, qa15, Sa15, Na15, Ha15, Ga15⟩ := id V14
  have hin16 : ¬ ((1 : Int32) < 0 ∨ cl15.slots.size ≤ ((1 : Int32)).toNatClampNeg) := inb_of Sa15 ⟨by decide, by decide⟩
  refine own_to (fun t k => X14.daload hx (j := (1 : Int32)) (v := (.double (FP.l2d (x1.toInt64 * (2 : Int32).toInt64)))) (by rw [e14]; exact Ar15.1) (State.isArrayOf_alike hZ.alike Ar15.2.1) Ar15.2.2 hin16 (Has.at Ha15 hin16 rfl) (g := (mkF m 20 #[.val (.ref wP), .val (.ref a1), .val (.int (2 : Int32)), .val (.int (1 : Int32))] [(.int (1 : Int32)), (.ref a1), (.int (1 : Int32)), (.ref a1)])) rfl rfl (hb hby own_d1_20) _ k) ?_
  show own_Fin _ _ _ _ _ _ (T14.setTop (mkF m 21 #[.val (.ref wP), .val (.ref a1), .val (.int (2 : Int32)), .val (.int (1 : Int32))] [(.double (FP.l2d (x1.toInt64 * (2 : Int32).toInt64))), (.int (1 : Int32)), (.ref a1)]))
  refine own_to (fun t k => XS.iloadN X14.here hx rfl (hb hby own_d1_21) rfl k) ?_
  show own_Fin _ _ _ _ _ _ (T14.setTop (mkF m 22 #[.val (.ref wP), .val (.ref a1), .val (.int (2 : Int32)), .val (.int (1 : Int32))] [(.int (2 : Int32)), (.double (FP.l2d (x1.toInt64 * (2 : Int32).toInt64))), (.int (1 : Int32)), (.ref a1)]))
  refine own_to (fun t k => XS.i2dS X14.here hx rfl (hb hby own_d1_22) rfl rfl k) ?_
  show own_Fin _ _ _ _ _ _ (T14.setTop (mkF m 23 #[.val (.ref wP), .val (.ref a1), .val (.int (2 : Int32)), .val (.int (1 : Int32))] [(.double (FP.i2d (2 : Int32))), (.double (FP.l2d (x1.toInt64 * (2 : Int32).toInt64))), (.int (1 : Int32)), (.ref a1)]))
  refine own_to (fun t k => XS.ddivS X14.here hx rfl (hb hby own_d1_23) rfl (by rw [own_div x1 (2 : Int32) (by decide) (by decide)]; exact own_ni _) (own_div x1 (2 : Int32) (by decide) (by decide)) k) ?_
  show own_Fin _ _ _ _ _ _ (T14.setTop (mkF m 24 #[.val (.ref wP), .val (.ref a1), .val (.int (2 : Int32)), .val (.int (1 : Int32))] [(.double (FP.i2d x1)), (.int (1 : Int32)), (.ref a1)]))
  obtain ⟨cl17, Ar17, qa17, Sa17, Na17, Ha17, Ga17⟩ := id V14
  have hin18 : ¬ ((1 : Int32) < 0 ∨ cl17.slots.size ≤ ((1 : Int32)).toNatClampNeg) := inb_of Sa17 ⟨by decide, by decide⟩
  obtain ⟨T18, h18, X18, e18, W18, st18⟩ := stD X14 hx hZ e14 Ar17 (j := (1 : Int32)) hin18 (g := (mkF m 24 #[.val (.ref wP), .val (.ref a1), .val (.int (2 : Int32)), .val (.int (1 : Int32))] [(.double (FP.i2d x1)), (.int (1 : Int32)), (.ref a1)])) rfl rfl (hb hby own_d1_24)
  have N18 := Fr.snoc X18 N14 g_a1
  have O18 := O14.wr W18 g_a1
  have KK18 : Keep h0 h18 [a1] := KK14.wr W18 (Or.inl (List.mem_of_getElem? (i := 0) rfl))
  have V18 : Arv Z h18 a1 k .double (2 : Int32) [(.double (FP.i2d x0)), (.double (FP.i2d x1))] (.double (0 : UInt64)) := Arv.set Ar17 qa17 Sa17 Na17 Ha17 Ga17 rfl W18 1 rfl (Nat.le_of_ble_eq_true rfl)
  refine own_to (fun t k => st18 t k) ?_
  show own_Fin _ _ _ _ _ _ (T18.setTop (mkF m 25 #[.val (.ref wP), .val (.ref a1), .val (.int (2 : Int32)), .val (.int (1 : Int32))] []))
  refine own_to (fun t k => XS.iinc X18.here hx rfl (hb hby own_d1_25) rfl (l' := #[.val (.ref wP), .val (.ref a1), .val (.int (2 : Int32)), .val (.int (2 : Int32))]) rfl k) ?_
  show own_Fin _ _ _ _ _ _ (T18.setTop (mkF m 28 #[.val (.ref wP), .val (.ref a1), .val (.int (2 : Int32)), .val (.int (2 : Int32))] []))
  refine own_to (fun t k => XS.goto X18.here hx rfl (pc0 := 28) (pc' := 12) rfl (hb hby own_d1_28) (by decide) (by decide) k) ?_
  show own_Fin _ _ _ _ _ _ (T18.setTop (mkF m 12 #[.val (.ref wP), .val (.ref a1), .val (.int (2 : Int32)), .val (.int (2 : Int32))] []))
  refine own_to (fun t k => XS.iloadN X18.here hx rfl (hb hby own_d1_12) rfl k) ?_
  show own_Fin _ _ _ _ _ _ (T18.setTop (mkF m 13 #[.val (.ref wP), .val (.ref a1), .val (.int (2 : Int32)), .val (.int (2 : Int32))] [(.int (2 : Int32))]))
  refine own_to (fun t k => XS.iloadN X18.here hx rfl (hb hby own_d1_13) rfl k) ?_
  show own_Fin _ _ _ _ _ _ (T18.setTop (mkF m 14 #[.val (.ref wP), .val (.ref a1), .val (.int (2 : Int32)), .val (.int (2 : Int32))] [(.int (2 : Int32)), (.int (2 : Int32))]))
  refine own_to (fun t k => XS.icmpYes X18.here hx rfl (pc0 := 14) (pc' := 31) rfl (hb hby own_d1_14) rfl (flt (Int32.lt_irrefl)).2.1 (by decide) (by decide) k) ?_
  show own_Fin _ _ _ _ _ _ (T18.setTop (mkF m 31 #[.val (.ref wP), .val (.ref a1), .val (.int (2 : Int32)), .val (.int (2 : Int32))] []))
  refine own_retV X18 hx hlk hret (hb hby own_d1_31) (by decide) (by decide) ?_
  try rw [e18]
  exact ⟨rfl, N18, KK18, V18⟩
theorem own_resP3_ef (m : MethodId) (wP : Addr) (a1 : Addr) : entryFrame m #[(.ref wP), (.ref a1)] 4 = mkF m 0 #[.val (.ref wP), .val (.ref a1), .unset, .unset] [] := by first | (simp [entryFrame, mkF, argsToLocals, Value.category]; done) | rfl
set_option maxRecDepth 65536 in
set_option maxHeartbeats 40000000 in
theorem own_resP3 (l : Launch) (Z : State) (a0 : Array Value) (hw : ∀ d ∈ tables_1, d.before a0 Z = true) (ws : List Jvm.Cond) (wP : Addr) (a1 : Addr) (k : ClassId) (x0 : Int32) (x1 : Int32) (x2 : Int32) (h0 : Heap) (n0 : Nat) (Z0 : n0 ≤ h0.size) (O0 : Old Z n0 h0) (SS : Sta Z Z.heap "com/example/walk_to_worth/walktoworth/solver/Scale" "PROBABILITY" "Lcom/example/walk_to_worth/walktoworth/solver/Scale;" (.ref wP)) (V1 : Arv Z h0 a1 k .double (3 : Int32) [(.double (FP.l2d (x0.toInt64 * (3 : Int32).toInt64))), (.double (FP.l2d (x1.toInt64 * (3 : Int32).toInt64))), (.double (FP.l2d (x2.toInt64 * (3 : Int32).toInt64)))] (.double (0 : UInt64))) (g_a1 : n0 ≤ a1) :
    own_Met l Z (⟨"com/example/walk_to_worth/walktoworth/solver/Scale", "rescale", "([D)V"⟩ : MethodName) prog_26_method_4_code 4 none ws ({ frames := 0, cells := 0, slots := 0, locals := 0 } : Room) #[(.ref wP), (.ref a1)] h0 (fun v h L => v = none ∧ Fr n0 L ∧ Keep h0 h [a1] ∧ Arv Z h a1 k .double (3 : Int32) [(.double (FP.i2d x0)), (.double (FP.i2d x1)), (.double (FP.i2d x2))] (.double (0 : UInt64))) := by
  refine own_enter (plainFor_of_name own_pn0) ?_
  intro p e s m below meth c s₁ X0 hx hZ hby hml hown hnm hret hlk e0
  have N0 := Fr.nil n0
  rw [own_resP3_ef m wP a1]
  have KK0 : Keep h0 h0 [a1] := Keep.refl _ _
  show own_Fin _ _ _ _ _ _ (s₁.setTop (mkF m 0 #[.val (.ref wP), .val (.ref a1), .unset, .unset] []))
  refine own_to (fun t k => XS.aloadN X0.here hx rfl (hb hby own_d1_0) rfl rfl k) ?_
  show own_Fin _ _ _ _ _ _ (s₁.setTop (mkF m 1 #[.val (.ref wP), .val (.ref a1), .unset, .unset] [(.ref wP)]))
  obtain ⟨T19, X19, e19, st19⟩ := getS2 X0 hx hZ hown (host := "") (Or.inl (hw _ (List.mem_of_getElem? (i := 9) rfl))) Via.refl e0 (SS.ext O0.2) (g := (mkF m 1 #[.val (.ref wP), .val (.ref a1), .unset, .unset] [(.ref wP)])) rfl (hb hby own_d1_1)
  refine own_to (fun t k => st19 t k) ?_
  show own_Fin _ _ _ _ _ _ (T19.setTop (mkF m 4 #[.val (.ref wP), .val (.ref a1), .unset, .unset] [(.ref wP), (.ref wP)]))
  refine own_to (fun t k => Jvm.RoadKit.acmp (g := (mkF m 4 #[.val (.ref wP), .val (.ref a1), .unset, .unset] [(.ref wP), (.ref wP)])) X19 hx rfl rfl rfl (pc0 := 4) (pc' := 7) (same := true) rfl (hb hby own_d1_4) rfl (decide_eq_true rfl) (by decide) (by decide) k) ?_
  show own_Fin _ _ _ _ _ _ (T19.setTop (mkF m 7 #[.val (.ref wP), .val (.ref a1), .unset, .unset] []))
  refine own_to (fun t k => XS.aloadN X19.here hx rfl (hb hby own_d1_7) rfl rfl k) ?_
  show own_Fin _ _ _ _ _ _ (T19.setTop (mkF m 8 #[.val (.ref wP), .val (.ref a1), .unset, .unset] [(.ref a1)]))
  obtain ⟨cl20, Ar20, qa20, Sa20, Na20, Ha20, Ga20⟩ := id V1
  refine own_to (fun t k => X19.arraylength hx (by rw [e19]; exact Ar20.1) (State.isArrayOf_alike hZ.alike Ar20.2.1) (g := (mkF m 8 #[.val (.ref wP), .val (.ref a1), .unset, .unset] [(.ref a1)])) rfl rfl (hb hby own_d1_8) _ k) ?_
  rw [len_of Sa20 Na20]
  show own_Fin _ _ _ _ _ _ (T19.setTop (mkF m 9 #[.val (.ref wP), .val (.ref a1), .unset, .unset] [(.int (3 : Int32))]))
  refine own_to (fun t k => XS.istoreN X19.here hx rfl (hb hby own_d1_9) rfl (l' := #[.val (.ref wP), .val (.ref a1), .val (.int (3 : Int32)), .unset]) rfl k) ?_
  show own_Fin _ _ _ _ _ _ (T19.setTop (mkF m 10 #[.val (.ref wP), .val (.ref a1), .val (.int (3 : Int32)), .unset] []))
  refine own_to (fun t k => XS.iconst X19.here hx rfl (hb hby own_d1_10) k) ?_
  show own_Fin _ _ _ _ _ _ (T19.setTop (mkF m 11 #[.val (.ref wP), .val (.ref a1), .val (.int (3 : Int32)), .unset] [(.int (0 : Int32))]))
  refine own_to (fun t k => XS.istoreN X19.here hx rfl (hb hby own_d1_11) rfl (l' := #[.val (.ref wP), .val (.ref a1), .val (.int (3 : Int32)), .val (.int (0 : Int32))]) rfl k) ?_
  show own_Fin _ _ _ _ _ _ (T19.setTop (mkF m 12 #[.val (.ref wP), .val (.ref a1), .val (.int (3 : Int32)), .val (.int (0 : Int32))] []))
  refine own_to (fun t k => XS.iloadN X19.here hx rfl (hb hby own_d1_12) rfl k) ?_
  show own_Fin _ _ _ _ _ _ (T19.setTop (mkF m 13 #[.val (.ref wP), .val (.ref a1), .val (.int (3 : Int32)), .val (.int (0 : Int32))] [(.int (0 : Int32))]))
  refine own_to (fun t k => XS.iloadN X19.here hx rfl (hb hby own_d1_13) rfl k) ?_
  show own_Fin _ _ _ _ _ _ (T19.setTop (mkF m 14 #[.val (.ref wP), .val (.ref a1), .val (.int (3 : Int32)), .val (.int (0 : Int32))] [(.int (3 : Int32)), (.int (0 : Int32))]))
  refine own_to (fun t k => XS.icmpNo X19.here hx rfl (hb hby own_d1_14) rfl (tlt (by decide)).2.1 k) ?_
  show own_Fin _ _ _ _ _ _ (T19.setTop (mkF m 17 #[.val (.ref wP), .val (.ref a1), .val (.int (3 : Int32)), .val (.int (0 : Int32))] []))
  refine own_to (fun t k => XS.aloadN X19.here hx rfl (hb hby own_d1_17) rfl rfl k) ?_
  show own_Fin _ _ _ _ _ _ (T19.setTop (mkF m 18 #[.val (.ref wP), .val (.ref a1), .val (.int (3 : Int32)), .val (.int (0 : Int32))] [(.ref a1)]))
  refine own_to (fun t k => XS.iloadN X19.here hx rfl (hb hby own_d1_18) rfl k) ?_
  show own_Fin _ _ _ _ _ _ (T19.setTop (mkF m 19 #[.val (.ref wP), .val (.ref a1), .val (.int (3 : Int32)), .val (.int (0 : Int32))] [(.int (0 : Int32)), (.ref a1)]))
  refine own_to (fun t k => XT.dup2 X19.here hx rfl (hb hby own_d1_19) rfl rfl rfl k) ?_
  show own_Fin _ _ _ _ _ _ (T19.setTop (mkF m 20 #[.val (.ref wP), .val (.ref a1), .val (.int (3 : Int32)), .val (.int (0 : Int32))] [(.int (0 : Int32)), (.ref a1), (.int (0 : Int32)), (.ref a1)]))
  obtain ⟨cl21, Ar21, qa21, Sa21, Na21, Ha21, Ga21⟩ := id V1
  have hin22 : ¬ ((0 : Int32) < 0 ∨ cl21.slots.size ≤ ((0 : Int32)).toNatClampNeg) := inb_of Sa21 ⟨by decide, by decide⟩
  refine own_to (fun t k => X19.daload hx (j := (0 : Int32)) (v := (.double (FP.l2d (x0.toInt64 * (3 : Int32).toInt64)))) (by rw [e19]; exact Ar21.1) (State.isArrayOf_alike hZ.alike Ar21.2.1) Ar21.2.2 hin22 (Has.at Ha21 hin22 rfl) (g := (mkF m 20 #[.val (.ref wP), .val (.ref a1), .val (.int (3 : Int32)), .val (.int (0 : Int32))] [(.int (0 : Int32)), (.ref a1), (.int (0 : Int32)), (.ref a1)])) rfl rfl (hb hby own_d1_20) _ k) ?_
  show own_Fin _ _ _ _ _ _ (T19.setTop (mkF m 21 #[.val (.ref wP), .val (.ref a1), .val (.int (3 : Int32)), .val (.int (0 : Int32))] [(.double (FP.l2d (x0.toInt64 * (3 : Int32).toInt64))), (.int (0 : Int32)), (.ref a1)]))
  refine own_to (fun t k => XS.iloadN X19.here hx rfl (hb hby own_d1_21) rfl k) ?_
  show own_Fin _ _ _ _ _ _ (T19.setTop (mkF m 22 #[.val (.ref wP), .val (.ref a1), .val (.int (3 : Int32)), .val (.int (0 : Int32))] [(.int (3 : Int32)), (.double (FP.l2d (x0.toInt64 * (3 : Int32).toInt64))), (.int (0 : Int32)), (.ref a1)]))
  refine own_to (fun t k => XS.i2dS X19.here hx rfl (hb hby own_d1_22) rfl rfl k) ?_
  show own_Fin _ _ _ _ _ _ (T19.setTop (mkF m 23 #[.val (.ref wP), .val (.ref a1), .val (.int (3 : Int32)), .val (.int (0 : Int32))] [(.double (FP.i2d (3 : Int32))), (.double (FP.l2d (x0.toInt64 * (3 : Int32).toInt64))), (.int (0 : Int32)), (.ref a1)]))
  refine own_to (fun t k => XS.ddivS X19.here hx rfl (hb hby own_d1_23) rfl (by rw [own_div x0 (3 : Int32) (by decide) (by decide)]; exact own_ni _) (own_div x0 (3 : Int32) (by decide) (by decide)) k) ?_
  show own_Fin _ _ _ _ _ _ (T19.setTop (mkF m 24 #[.val (.ref wP), .val (.ref a1), .val (.int (3 : Int32)), .val (.int (0 : Int32))] [(.double (FP.i2d x0)), (.int (0 : Int32)), (.ref a1)]))
  obtain ⟨cl23, Ar23, qa23, Sa23, Na23, Ha23, Ga23⟩ := id V1
  have hin24 : ¬ ((0 : Int32) < 0 ∨ cl23.slots.size ≤ ((0 : Int32)).toNatClampNeg) := inb_of Sa23 ⟨by decide, by decide⟩
  obtain ⟨T24, h24, X24, e24, W24, st24⟩ := stD X19 hx hZ e19 Ar23 (j := (0 : Int32)) hin24 (g := (mkF m 24 #[.val (.ref wP), .val (.ref a1), .val (.int (3 : Int32)), .val (.int (0 : Int32))] [(.double (FP.i2d x0)), (.int (0 : Int32)), (.ref a1)])) rfl rfl (hb hby own_d1_24)
  have N24 := Fr.snoc X24 N0 g_a1
  have O24 := O0.wr W24 g_a1
  have KK24 : Keep h0 h24 [a1] := KK0.wr W24 (Or.inl (List.mem_of_getElem? (i := 0) rfl))
  have V24 : Arv Z h24 a1 k .double (3 : Int32) [(.double (FP.i2d x0)), (.double (FP.l2d (x1.toInt64 * (3 : Int32).toInt64))), (.double (FP.l2d (x2.toInt64 * (3 : Int32).toInt64)))] (.double (0 : UInt64)) := Arv.set Ar23 qa23 Sa23 Na23 Ha23 Ga23 rfl W24 0 rfl (Nat.le_of_ble_eq_true rfl)
  refine own_to (fun t k => st24 t k) ?_
  show own_Fin _ _ _ _ _ _ (T24.setTop (mkF m 25 #[.val (.ref wP), .val (.ref a1), .val (.int (3 : Int32)), .val (.int (0 : Int32))] []))
  refine own_to (fun t k => XS.iinc X24.here hx rfl (hb hby own_d1_25) rfl (l' := #[.val (.ref wP), .val (.ref a1), .val (.int (3 : Int32)), .val (.int (1 : Int32))]) rfl k) ?_
  show own_Fin _ _ _ _ _ _ (T24.setTop (mkF m 28 #[.val (.ref wP), .val (.ref a1), .val (.int (3 : Int32)), .val (.int (1 : Int32))] []))
  refine own_to (fun t k => XS.goto X24.here hx rfl (pc0 := 28) (pc' := 12) rfl (hb hby own_d1_28) (by decide) (by decide) k) ?_
  show own_Fin _ _ _ _ _ _ (T24.setTop (mkF m 12 #[.val (.ref wP), .val (.ref a1), .val (.int (3 : Int32)), .val (.int (1 : Int32))] []))
  refine own_to (fun t k => XS.iloadN X24.here hx rfl (hb hby own_d1_12) rfl k) ?_
  show own_Fin _ _ _ _ _ _ (T24.setTop (mkF m 13 #[.val (.ref wP), .val (.ref a1), .val (.int (3 : Int32)), .val (.int (1 : Int32))] [(.int (1 : Int32))]))
  refine own_to (fun t k => XS.iloadN X24.here hx rfl (hb hby own_d1_13) rfl k) ?_
  show own_Fin _ _ _ _ _ _ (T24.setTop (mkF m 14 #[.val (.ref wP), .val (.ref a1), .val (.int (3 : Int32)), .val (.int (1 : Int32))] [(.int (3 : Int32)), (.int (1 : Int32))]))
  refine own_to (fun t k => XS.icmpNo X24.here hx rfl (hb hby own_d1_14) rfl (tlt (by decide)).2.1 k) ?_
  show own_Fin _ _ _ _ _ _ (T24.setTop (mkF m 17 #[.val (.ref wP), .val (.ref a1), .val (.int (3 : Int32)), .val (.int (1 : Int32))] []))
  refine own_to (fun t k => XS.aloadN X24.here hx rfl (hb hby own_d1_17) rfl rfl k) ?_
  show own_Fin _ _ _ _ _ _ (T24.setTop (mkF m 18 #[.val (.ref wP), .val (.ref a1), .val (.int (3 : Int32)), .val (.int (1 : Int32))] [(.ref a1)]))
  refine own_to (fun t k => XS.iloadN X24.here hx rfl (hb hby own_d1_18) rfl k) ?_
  show own_Fin _ _ _ _ _ _ (T24.setTop (mkF m 19 #[.val (.ref wP), .val (.ref a1), .val (.int (3 : Int32)), .val (.int (1 : Int32))] [(.int (1 : Int32)), (.ref a1)]))
  refine own_to (fun t k => XT.dup2 X24.here hx rfl (hb hby own_d1_19) rfl rfl rfl k) ?_
  show own_Fin _ _ _ _ _ _ (T24.setTop (mkF m 20 #[.val (.ref wP), .val (.ref a1), .val (.int (3 : Int32)), .val (.int (1 : Int32))] [(.int (1 : Int32)), (.ref a1), (.int (1 : Int32)), (.ref a1)]))
  obtain ⟨cl25, Ar25, qa25, Sa25, Na25, Ha25, Ga25⟩ := id V24
  have hin26 : ¬ ((1 : Int32) < 0 ∨ cl25.slots.size ≤ ((1 : Int32)).toNatClampNeg) := inb_of Sa25 ⟨by decide, by decide⟩
  refine own_to (fun t k => X24.daload hx (j := (1 : Int32)) (v := (.double (FP.l2d (x1.toInt64 * (3 : Int32).toInt64)))) (by rw [e24]; exact Ar25.1) (State.isArrayOf_alike hZ.alike Ar25.2.1) Ar25.2.2 hin26 (Has.at Ha25 hin26 rfl) (g := (mkF m 20 #[.val (.ref wP), .val (.ref a1), .val (.int (3 : Int32)), .val (.int (1 : Int32))] [(.int (1 : Int32)), (.ref a1), (.int (1 : Int32)), (.ref a1)])) rfl rfl (hb hby own_d1_20) _ k) ?_
  show own_Fin _ _ _ _ _ _ (T24.setTop (mkF m 21 #[.val (.ref wP), .val (.ref a1), .val (.int (3 : Int32)), .val (.int (1 : Int32))] [(.double (FP.l2d (x1.toInt64 * (3 : Int32).toInt64))), (.int (1 : Int32)), (.ref a1)]))
  refine own_to (fun t k => XS.iloadN X24.here hx rfl (hb hby own_d1_21) rfl k) ?_
  show own_Fin _ _ _ _ _ _ (T24.setTop (mkF m 22 #[.val (.ref wP), .val (.ref a1), .val (.int (3 : Int32)), .val (.int (1 : Int32))] [(.int (3 : Int32)), (.double (FP.l2d (x1.toInt64 * (3 : Int32).toInt64))), (.int (1 : Int32)), (.ref a1)]))
  refine own_to (fun t k => XS.i2dS X24.here hx rfl (hb hby own_d1_22) rfl rfl k) ?_
  show own_Fin _ _ _ _ _ _ (T24.setTop (mkF m 23 #[.val (.ref wP), .val (.ref a1), .val (.int (3 : Int32)), .val (.int (1 : Int32))] [(.double (FP.i2d (3 : Int32))), (.double (FP.l2d (x1.toInt64 * (3 : Int32).toInt64))), (.int (1 : Int32)), (.ref a1)]))
  refine own_to (fun t k => XS.ddivS X24.here hx rfl (hb hby own_d1_23) rfl (by rw [own_div x1 (3 : Int32) (by decide) (by decide)]; exact own_ni _) (own_div x1 (3 : Int32) (by decide) (by decide)) k) ?_
  show own_Fin _ _ _ _ _ _ (T24.setTop (mkF m 24 #[.val (.ref wP), .val (.ref a1), .val (.int (3 : Int32)), .val (.int (1 : Int32))] [(.double (FP.i2d x1)), (.int (1 : Int32)), (.ref a1)]))
  obtain ⟨cl27, Ar27, qa27, Sa27, Na27, Ha27, Ga27⟩ := id V24
  have hin28 : ¬ ((1 : Int32) < 0 ∨ cl27.slots.size ≤ ((1 : Int32)).toNatClampNeg) := inb_of Sa27 ⟨by decide, by decide⟩
  obtain ⟨T28, h28, X28, e28, W28, st28⟩ := stD X24 hx hZ e24 Ar27 (j := (1 : Int32)) hin28 (g := (mkF m 24 #[.val (.ref wP), .val (.ref a1), .val (.int (3 : Int32)), .val (.int (1 : Int32))] [(.double (FP.i2d x1)), (.int (1 : Int32)), (.ref a1)])) rfl rfl (hb hby own_d1_24)
  have N28 := Fr.snoc X28 N24 g_a1
  have O28 := O24.wr W28 g_a1
  have KK28 : Keep h0 h28 [a1] := KK24.wr W28 (Or.inl (List.mem_of_getElem? (i := 0) rfl))
  have V28 : Arv Z h28 a1 k .double (3 : Int32) [(.double (FP.i2d x0)), (.double (FP.i2d x1)), (.double (FP.l2d (x2.toInt64 * (3 : Int32).toInt64)))] (.double (0 : UInt64)) := Arv.set Ar27 qa27 Sa27 Na27 Ha27 Ga27 rfl W28 1 rfl (Nat.le_of_ble_eq_true rfl)
  refine own_to (fun t k => st28 t k) ?_
  show own_Fin _ _ _ _ _ _ (T28.setTop (mkF m 25 #[.val (.ref wP), .val (.ref a1), .val (.int (3 : Int32)), .val (.int (1 : Int32))] []))
  refine own_to (fun t k => XS.iinc X28.here hx rfl (hb hby own_d1_25) rfl (l' := #[.val (.ref wP), .val (.ref a1), .val (.int (3 : Int32)), .val (.int (2 : Int32))]) rfl k) ?_
  show own_Fin _ _ _ _ _ _ (T28.setTop (mkF m 28 #[.val (.ref wP), .val (.ref a1), .val (.int (3 : Int32)), .val (.int (2 : Int32))] []))
  refine own_to (fun t k => XS.goto X28.here hx rfl (pc0 := 28) (pc' := 12) rfl (hb hby own_d1_28) (by decide) (by decide) k) ?_
  show own_Fin _ _ _ _ _ _ (T28.setTop (mkF m 12 #[.val (.ref wP), .val (.ref a1), .val (.int (3 : Int32)), .val (.int (2 : Int32))] []))
  refine own_to (fun t k => XS.iloadN X28.here hx rfl (hb hby own_d1_12) rfl k) ?_
  show own_Fin _ _ _ _ _ _ (T28.setTop (mkF m 13 #[.val (.ref wP), .val (.ref a1), .val (.int (3 : Int32)), .val (.int (2 : Int32))] [(.int (2 : Int32))]))
  refine own_to (fun t k => XS.iloadN X28.here hx rfl (hb hby own_d1_13) rfl k) ?_
  show own_Fin _ _ _ _ _ _ (T28.setTop (mkF m 14 #[.val (.ref wP), .val (.ref a1), .val (.int (3 : Int32)), .val (.int (2 : Int32))] [(.int (3 : Int32)), (.int (2 : Int32))]))
  refine own_to (fun t k => XS.icmpNo X28.here hx rfl (hb hby own_d1_14) rfl (tlt (by decide)).2.1 k) ?_
  show own_Fin _ _ _ _ _ _ (T28.setTop (mkF m 17 #[.val (.ref wP), .val (.ref a1), .val (.int (3 : Int32)), .val (.int (2 : Int32))] []))
  refine own_to (fun t k => XS.aloadN X28.here hx rfl (hb hby own_d1_17) rfl rfl k) ?_
  show own_Fin _ _ _ _ _ _ (T28.setTop (mkF m 18 #[.val (.ref wP), .val (.ref a1), .val (.int (3 : Int32)), .val (.int (2 : Int32))] [(.ref a1)]))
  refine own_to (fun t k => XS.iloadN X28.here hx rfl (hb hby own_d1_18) rfl k) ?_
  show own_Fin _ _ _ _ _ _ (T28.setTop (mkF m 19 #[.val (.ref wP), .val (.ref a1), .val (.int (3 : Int32)), .val (.int (2 : Int32))] [(.int (2 : Int32)), (.ref a1)]))
  refine own_to (fun t k => XT.dup2 X28.here hx rfl (hb hby own_d1_19) rfl rfl rfl k) ?_
  show own_Fin _ _ _ _ _ _ (T28.setTop (mkF m 20 #[.val (.ref wP), .val (.ref a1), .val (.int (3 : Int32)), .val (.int (2 : Int32))] [(.int (2 : Int32)), (.ref a1), (.int (2 : Int32)), (.ref a1)]))
  obtain ⟨cl29, Ar29, qa29, Sa29, Na29, Ha29, Ga29⟩ := id V28
  have hin30 : ¬ ((2 : Int32) < 0 ∨ cl29.slots.size ≤ ((2 : Int32)).toNatClampNeg) := inb_of Sa29 ⟨by decide, by decide⟩
  refine own_to (fun t k => X28.daload hx (j := (2 : Int32)) (v := (.double (FP.l2d (x2.toInt64 * (3 : Int32).toInt64)))) (by rw [e28]; exact Ar29.1) (State.isArrayOf_alike hZ.alike Ar29.2.1) Ar29.2.2 hin30 (Has.at Ha29 hin30 rfl) (g := (mkF m 20 #[.val (.ref wP), .val (.ref a1), .val (.int (3 : Int32)), .val (.int (2 : Int32))] [(.int (2 : Int32)), (.ref a1), (.int (2 : Int32)), (.ref a1)])) rfl rfl (hb hby own_d1_20) _ k) ?_
  show own_Fin _ _ _ _ _ _ (T28.setTop (mkF m 21 #[.val (.ref wP), .val (.ref a1), .val (.int (3 : Int32)), .val (.int (2 : Int32))] [(.double (FP.l2d (x2.toInt64 * (3 : Int32).toInt64))), (.int (2 : Int32)), (.ref a1)]))
  refine own_to (fun t k => XS.iloadN X28.here hx rfl (hb hby own_d1_21) rfl k) ?_
  show own_Fin _ _ _ _ _ _ (T28.setTop (mkF m 22 #[.val (.ref wP), .val (.ref a1), .val (.int (3 : Int32)), .val (.int (2 : Int32))] [(.int (3 : Int32)), (.double (FP.l2d (x2.toInt64 * (3 : Int32).toInt64))), (.int (2 : Int32)), (.ref a1)]))
  refine own_to (fun t k => XS.i2dS X28.here hx rfl (hb hby own_d1_22) rfl rfl k) ?_
  show own_Fin _ _ _ _ _ _ (T28.setTop (mkF m 23 #[.val (.ref wP), .val (.ref a1), .val (.int (3 : Int32)), .val (.int (2 : Int32))] [(.double (FP.i2d (3 : Int32))), (.double (FP.l2d (x2.toInt64 * (3 : Int32).toInt64))), (.int (2 : Int32)), (.ref a1)]))
  refine own_to (fun t k => XS.ddivS X28.here hx rfl (hb hby own_d1_23) rfl (by rw [own_div x2 (3 : Int32) (by decide) (by decide)]; exact own_ni _) (own_div x2 (3 : Int32) (by decide) (by decide)) k) ?_
  show own_Fin _ _ _ _ _ _ (T28.setTop (mkF m 24 #[.val (.ref wP), .val (.ref a1), .val (.int (3 : Int32)), .val (.int (2 : Int32))] [(.double (FP.i2d x2)), (.int (2 : Int32)), (.ref a1)]))
  obtain ⟨cl31, Ar31, qa31, Sa31, Na31, Ha31, Ga31⟩ := id V28
  have hin32 : ¬ ((2 : Int32) < 0 ∨ cl31.slots.size ≤ ((2 : Int32)).toNatClampNeg) := inb_of Sa31 ⟨by decide, by decide⟩
  obtain ⟨T32, h32, X32, e32, W32, st32⟩ := stD X28 hx hZ e28 Ar31 (j := (2 : Int32)) hin32 (g := (mkF m 24 #[.val (.ref wP), .val (.ref a1), .val (.int (3 : Int32)), .val (.int (2 : Int32))] [(.double (FP.i2d x2)), (.int (2 : Int32)), (.ref a1)])) rfl rfl (hb hby own_d1_24)
  have N32 := Fr.snoc X32 N28 g_a1
  have O32 := O28.wr W32 g_a1
  have KK32 : Keep h0 h32 [a1] := KK28.wr W32 (Or.inl (List.mem_of_getElem? (i := 0) rfl))
  have V32 : Arv Z h32 a1 k .double (3 : Int32) [(.double (FP.i2d x0)), (.double (FP.i2d x1)), (.double (FP.i2d x2))] (.double (0 : UInt64)) := Arv.set Ar31 qa31 Sa31 Na31 Ha31 Ga31 rfl W32 2 rfl (Nat.le_of_ble_eq_true rfl)
  refine own_to (fun t k => st32 t k) ?_
  show own_Fin _ _ _ _ _ _ (T32.setTop (mkF m 25 #[.val (.ref wP), .val (.ref a1), .val (.int (3 : Int32)), .val (.int (2 : Int32))] []))
  refine own_to (fun t k => XS.iinc X32.here hx rfl (hb hby own_d1_25) rfl (l' := #[.val (.ref wP), .val (.ref a1), .val (.int (3 : Int32)), .val (.int (3 : Int32))]) rfl k) ?_
  show own_Fin _ _ _ _ _ _ (T32.setTop (mkF m 28 #[.val (.ref wP), .val (.ref a1), .val (.int (3 : Int32)), .val (.int (3 : Int32))] []))
  refine own_to (fun t k => XS.goto X32.here hx rfl (pc0 := 28) (pc' := 12) rfl (hb hby own_d1_28) (by decide) (by decide) k) ?_
  show own_Fin _ _ _ _ _ _ (T32.setTop (mkF m 12 #[.val (.ref wP), .val (.ref a1), .val (.int (3 : Int32)), .val (.int (3 : Int32))] []))
  refine own_to (fun t k => XS.iloadN X32.here hx rfl (hb hby own_d1_12) rfl k) ?_
  show own_Fin _ _ _ _ _ _ (T32.setTop (mkF m 13 #[.val (.ref wP), .val (.ref a1), .val (.int (3 : Int32)), .val (.int (3 : Int32))] [(.int (3 : Int32))]))
  refine own_to (fun t k => XS.iloadN X32.here hx rfl (hb hby own_d1_13) rfl k) ?_
  show own_Fin _ _ _ _ _ _ (T32.setTop (mkF m 14 #[.val (.ref wP), .val (.ref a1), .val (.int (3 : Int32)), .val (.int (3 : Int32))] [(.int (3 : Int32)), (.int (3 : Int32))]))
  refine own_to (fun t k => XS.icmpYes X32.here hx rfl (pc0 := 14) (pc' := 31) rfl (hb hby own_d1_14) rfl (flt (Int32.lt_irrefl)).2.1 (by decide) (by decide) k) ?_
  show own_Fin _ _ _ _ _ _ (T32.setTop (mkF m 31 #[.val (.ref wP), .val (.ref a1), .val (.int (3 : Int32)), .val (.int (3 : Int32))] []))
  refine own_retV X32 hx hlk hret (hb hby own_d1_31) (by decide) (by decide) ?_
  try rw [e32]
  exact ⟨rfl, N32, KK32, V32⟩
theorem own_resC_ef (m : MethodId) (wC : Addr) (a1 : Addr) : entryFrame m #[(.ref wC), (.ref a1)] 4 = mkF m 0 #[.val (.ref wC), .val (.ref a1), .unset, .unset] [] := by first | (simp [entryFrame, mkF, argsToLocals, Value.category]; done) | rfl
set_option maxRecDepth 65536 in
set_option maxHeartbeats 40000000 in
theorem own_resC (l : Launch) (Z : State) (a0 : Array Value) (hw : ∀ d ∈ tables_1, d.before a0 Z = true) (ws : List Jvm.Cond) (wP : Addr) (wC : Addr) (a1 : Addr) (h0 : Heap) (n0 : Nat) (Z0 : n0 ≤ h0.size) (O0 : Old Z n0 h0) (SS : Sta Z Z.heap "com/example/walk_to_worth/walktoworth/solver/Scale" "PROBABILITY" "Lcom/example/walk_to_worth/walktoworth/solver/Scale;" (.ref wP)) (neC : wC ≠ wP) :
    own_Met l Z (⟨"com/example/walk_to_worth/walktoworth/solver/Scale", "rescale", "([D)V"⟩ : MethodName) prog_26_method_4_code 4 none ws ({ frames := 0, cells := 0, slots := 0, locals := 0 } : Room) #[(.ref wC), (.ref a1)] h0 (fun v h L => v = none ∧ Fr n0 L ∧ h = h0) := by
  refine own_enter (plainFor_of_name own_pn0) ?_
  intro p e s m below meth c s₁ X0 hx hZ hby hml hown hnm hret hlk e0
  have N0 := Fr.nil n0
  rw [own_resC_ef m wC a1]
  show own_Fin _ _ _ _ _ _ (s₁.setTop (mkF m 0 #[.val (.ref wC), .val (.ref a1), .unset, .unset] []))
  refine own_to (fun t k => XS.aloadN X0.here hx rfl (hb hby own_d1_0) rfl rfl k) ?_
  show own_Fin _ _ _ _ _ _ (s₁.setTop (mkF m 1 #[.val (.ref wC), .val (.ref a1), .unset, .unset] [(.ref wC)]))
  obtain ⟨T33, X33, e33, st33⟩ := getS2 X0 hx hZ hown (host := "") (Or.inl (hw _ (List.mem_of_getElem? (i := 9) rfl))) Via.refl e0 (SS.ext O0.2) (g := (mkF m 1 #[.val (.ref wC), .val (.ref a1), .unset, .unset] [(.ref wC)])) rfl (hb hby own_d1_1)
  refine own_to (fun t k => st33 t k) ?_
  show own_Fin _ _ _ _ _ _ (T33.setTop (mkF m 4 #[.val (.ref wC), .val (.ref a1), .unset, .unset] [(.ref wP), (.ref wC)]))
  refine own_to (fun t k => Jvm.RoadKit.acmp (g := (mkF m 4 #[.val (.ref wC), .val (.ref a1), .unset, .unset] [(.ref wP), (.ref wC)])) X33 hx rfl rfl rfl (pc0 := 4) (pc' := 31) (same := false) rfl (hb hby own_d1_4) rfl (decide_eq_false fun q => neC (Value.ref.inj q)) (by decide) (by decide) k) ?_
  show own_Fin _ _ _ _ _ _ (T33.setTop (mkF m 31 #[.val (.ref wC), .val (.ref a1), .unset, .unset] []))
  refine own_retV X33 hx hlk hret (hb hby own_d1_31) (by decide) (by decide) ?_
  try rw [e33]
  exact ⟨rfl, N0, rfl⟩
theorem own_pn1 : plainName "com/example/walk_to_worth/walktoworth/solver/ScaleRescalePinLaw" = true := by first | (simp [plainName, overriddenIn]; done) | decide +kernel
theorem own_pd0 : parseMethodDescriptor "([D)V" = some ⟨[(.array .double)], none⟩ := by decide +kernel
theorem own_rm0_ef (m : MethodId) (p1 : Int32) (p2 : Int32) (p3 : Int32) (p4 : Int32) : entryFrame m #[(.int p1), (.int p2), (.int p3), (.int p4)] maxLocals = mkF m 0 #[.val (.int p1), .val (.int p2), .val (.int p3), .val (.int p4), .unset, .unset, .unset, .unset, .unset, .unset, .unset] [] := by first | (simp [entryFrame, mkF, argsToLocals, Value.category, maxLocals]; done) | rfl
set_option maxRecDepth 65536 in
set_option maxHeartbeats 40000000 in
theorem own_rm0 (l : Launch) (Z : State) (a0 : Array Value) (hw : ∀ d ∈ tables_1, d.before a0 Z = true) (ws : List Jvm.Cond) (wP : Addr) (wC : Addr) (p1 : Int32) (p2 : Int32) (p3 : Int32) (p4 : Int32) (h0 : Heap) (n0 : Nat) (Z0 : n0 ≤ h0.size) (O0 : Old Z n0 h0) (SS : Sta Z Z.heap "com/example/walk_to_worth/walktoworth/solver/Scale" "PROBABILITY" "Lcom/example/walk_to_worth/walktoworth/solver/Scale;" (.ref wP)) (SC : Sta Z Z.heap "com/example/walk_to_worth/walktoworth/solver/Scale" "CLASSIC" "Lcom/example/walk_to_worth/walktoworth/solver/Scale;" (.ref wC)) (EP : Exa Z h0 wP "com/example/walk_to_worth/walktoworth/solver/Scale") (EC : Exa Z h0 wC "com/example/walk_to_worth/walktoworth/solver/Scale") (neC : wC ≠ wP) :
    own_Met l Z x code maxLocals ret ws room_1 #[(.int p1), (.int p2), (.int p3), (.int p4)] h0 (fun v h L => v = some (.int 1) ∧ Fr n0 L) := by
  refine own_enter (plainFor_of_name own_pn1) ?_
  intro p e s m below meth c s₁ X0 hx hZ hby hml hown hnm hret hlk e0
  have N0 := Fr.nil n0
  rw [own_rm0_ef m p1 p2 p3 p4]
  show own_Fin _ _ _ _ _ _ (s₁.setTop (mkF m 0 #[.val (.int p1), .val (.int p2), .val (.int p3), .val (.int p4), .unset, .unset, .unset, .unset, .unset, .unset, .unset] []))
  refine own_to (fun t k => XS.iloadN X0.here hx rfl (hb hby at_0) rfl k) ?_
  show own_Fin _ _ _ _ _ _ (s₁.setTop (mkF m 1 #[.val (.int p1), .val (.int p2), .val (.int p3), .val (.int p4), .unset, .unset, .unset, .unset, .unset, .unset, .unset] [(.int p4)]))
  refine own_to (fun t k => XS.iconst X0.here hx rfl (hb hby at_1) k) ?_
  show own_Fin _ _ _ _ _ _ (s₁.setTop (mkF m 2 #[.val (.int p1), .val (.int p2), .val (.int p3), .val (.int p4), .unset, .unset, .unset, .unset, .unset, .unset, .unset] [(.int (1 : Int32)), (.int p4)]))
  refine own_to (fun t k => XS.iand X0.here hx rfl (hb hby at_2) rfl k) ?_
  show own_Fin _ _ _ _ _ _ (s₁.setTop (mkF m 3 #[.val (.int p1), .val (.int p2), .val (.int p3), .val (.int p4), .unset, .unset, .unset, .unset, .unset, .unset, .unset] [(.int (p4 &&& (1 : Int32)))]))
  by_cases hc3_34 : (p4 &&& (1 : Int32)) = (0 : Int32)
  ·
    show own_Fin _ _ _ _ _ _ (s₁.setTop (mkF m 3 #[.val (.int p1), .val (.int p2), .val (.int p3), .val (.int p4), .unset, .unset, .unset, .unset, .unset, .unset, .unset] [(.int (p4 &&& (1 : Int32)))]))
    refine own_to (fun t k => XS.ifYes X0.here hx rfl (pc0 := 3) (pc' := 10) rfl (hb hby at_3) rfl ((if0 _ _).trans (teq hc3_34).1) (by decide) (by decide) k) ?_
    show own_Fin _ _ _ _ _ _ (s₁.setTop (mkF m 10 #[.val (.int p1), .val (.int p2), .val (.int p3), .val (.int p4), .unset, .unset, .unset, .unset, .unset, .unset, .unset] []))
    refine own_to (fun t k => XS.iconst X0.here hx rfl (hb hby at_10) k) ?_
    show own_Fin _ _ _ _ _ _ (s₁.setTop (mkF m 11 #[.val (.int p1), .val (.int p2), .val (.int p3), .val (.int p4), .unset, .unset, .unset, .unset, .unset, .unset, .unset] [(.int (0 : Int32))]))
    refine own_to (fun t k => XS.istore X0.here hx rfl (hb hby at_11) rfl (l' := #[.val (.int p1), .val (.int p2), .val (.int p3), .val (.int p4), .val (.int (0 : Int32)), .unset, .unset, .unset, .unset, .unset, .unset]) rfl k) ?_
    show own_Fin _ _ _ _ _ _ (s₁.setTop (mkF m 13 #[.val (.int p1), .val (.int p2), .val (.int p3), .val (.int p4), .val (.int (0 : Int32)), .unset, .unset, .unset, .unset, .unset, .unset] []))
    refine own_to (fun t k => XS.iloadN X0.here hx rfl (hb hby at_13) rfl k) ?_
    show own_Fin _ _ _ _ _ _ (s₁.setTop (mkF m 14 #[.val (.int p1), .val (.int p2), .val (.int p3), .val (.int p4), .val (.int (0 : Int32)), .unset, .unset, .unset, .unset, .unset, .unset] [(.int p4)]))
    refine own_to (fun t k => XS.iconst X0.here hx rfl (hb hby at_14) k) ?_
    show own_Fin _ _ _ _ _ _ (s₁.setTop (mkF m 15 #[.val (.int p1), .val (.int p2), .val (.int p3), .val (.int p4), .val (.int (0 : Int32)), .unset, .unset, .unset, .unset, .unset, .unset] [(.int (1 : Int32)), (.int p4)]))
    refine own_to (fun t k => XS.iushr X0.here hx rfl (hb hby at_15) rfl k) ?_
    show own_Fin _ _ _ _ _ _ (s₁.setTop (mkF m 16 #[.val (.int p1), .val (.int p2), .val (.int p3), .val (.int p4), .val (.int (0 : Int32)), .unset, .unset, .unset, .unset, .unset, .unset] [(.int ((p4.toUInt32 >>> ((1 : Int32) &&& 31).toUInt32).toInt32))]))
    refine own_to (fun t k => XS.iconst X0.here hx rfl (hb hby at_16) k) ?_
    show own_Fin _ _ _ _ _ _ (s₁.setTop (mkF m 17 #[.val (.int p1), .val (.int p2), .val (.int p3), .val (.int p4), .val (.int (0 : Int32)), .unset, .unset, .unset, .unset, .unset, .unset] [(.int (3 : Int32)), (.int ((p4.toUInt32 >>> ((1 : Int32) &&& 31).toUInt32).toInt32))]))
    refine own_to (fun t k => XS.iand X0.here hx rfl (hb hby at_17) rfl k) ?_
    show own_Fin _ _ _ _ _ _ (s₁.setTop (mkF m 18 #[.val (.int p1), .val (.int p2), .val (.int p3), .val (.int p4), .val (.int (0 : Int32)), .unset, .unset, .unset, .unset, .unset, .unset] [(.int (((p4.toUInt32 >>> ((1 : Int32) &&& 31).toUInt32).toInt32) &&& (3 : Int32)))]))
    refine own_to (fun t k => XS.istore X0.here hx rfl (hb hby at_18) rfl (l' := #[.val (.int p1), .val (.int p2), .val (.int p3), .val (.int p4), .val (.int (0 : Int32)), .val (.int (((p4.toUInt32 >>> ((1 : Int32) &&& 31).toUInt32).toInt32) &&& (3 : Int32))), .unset, .unset, .unset, .unset, .unset]) rfl k) ?_
    show own_Fin _ _ _ _ _ _ (s₁.setTop (mkF m 20 #[.val (.int p1), .val (.int p2), .val (.int p3), .val (.int p4), .val (.int (0 : Int32)), .val (.int (((p4.toUInt32 >>> ((1 : Int32) &&& 31).toUInt32).toInt32) &&& (3 : Int32))), .unset, .unset, .unset, .unset, .unset] []))
    refine own_to (fun t k => XS.iload X0.here hx rfl (hb hby at_20) rfl k) ?_
    show own_Fin _ _ _ _ _ _ (s₁.setTop (mkF m 22 #[.val (.int p1), .val (.int p2), .val (.int p3), .val (.int p4), .val (.int (0 : Int32)), .val (.int (((p4.toUInt32 >>> ((1 : Int32) &&& 31).toUInt32).toInt32) &&& (3 : Int32))), .unset, .unset, .unset, .unset, .unset] [(.int (0 : Int32))]))
    refine own_to (fun t k => XS.ifYes X0.here hx rfl (pc0 := 22) (pc' := 31) rfl (hb hby at_22) rfl ((if0 _ _).trans (teq rfl).1) (by decide) (by decide) k) ?_
    show own_Fin _ _ _ _ _ _ (s₁.setTop (mkF m 31 #[.val (.int p1), .val (.int p2), .val (.int p3), .val (.int p4), .val (.int (0 : Int32)), .val (.int (((p4.toUInt32 >>> ((1 : Int32) &&& 31).toUInt32).toInt32) &&& (3 : Int32))), .unset, .unset, .unset, .unset, .unset] []))
    obtain ⟨T35, X35, e35, st35⟩ := getS2 X0 hx hZ hown (host := "") (Or.inl (hw _ (List.mem_of_getElem? (i := 10) rfl))) Via.refl e0 (SC.ext O0.2) (g := (mkF m 31 #[.val (.int p1), .val (.int p2), .val (.int p3), .val (.int p4), .val (.int (0 : Int32)), .val (.int (((p4.toUInt32 >>> ((1 : Int32) &&& 31).toUInt32).toInt32) &&& (3 : Int32))), .unset, .unset, .unset, .unset, .unset] [])) rfl (hb hby at_31)
    refine own_to (fun t k => st35 t k) ?_
    show own_Fin _ _ _ _ _ _ (T35.setTop (mkF m 34 #[.val (.int p1), .val (.int p2), .val (.int p3), .val (.int p4), .val (.int (0 : Int32)), .val (.int (((p4.toUInt32 >>> ((1 : Int32) &&& 31).toUInt32).toInt32) &&& (3 : Int32))), .unset, .unset, .unset, .unset, .unset] [(.ref wC)]))
    refine own_to (fun t k => XS.astore X35.here hx rfl (hb hby at_34) rfl rfl (l' := #[.val (.int p1), .val (.int p2), .val (.int p3), .val (.int p4), .val (.int (0 : Int32)), .val (.int (((p4.toUInt32 >>> ((1 : Int32) &&& 31).toUInt32).toInt32) &&& (3 : Int32))), .val (.ref wC), .unset, .unset, .unset, .unset]) rfl k) ?_
    show own_Fin _ _ _ _ _ _ (T35.setTop (mkF m 36 #[.val (.int p1), .val (.int p2), .val (.int p3), .val (.int p4), .val (.int (0 : Int32)), .val (.int (((p4.toUInt32 >>> ((1 : Int32) &&& 31).toUInt32).toInt32) &&& (3 : Int32))), .val (.ref wC), .unset, .unset, .unset, .unset] []))
    refine own_to (fun t k => XS.iload X35.here hx rfl (hb hby at_36) rfl k) ?_
    show own_Fin _ _ _ _ _ _ (T35.setTop (mkF m 38 #[.val (.int p1), .val (.int p2), .val (.int p3), .val (.int p4), .val (.int (0 : Int32)), .val (.int (((p4.toUInt32 >>> ((1 : Int32) &&& 31).toUInt32).toInt32) &&& (3 : Int32))), .val (.ref wC), .unset, .unset, .unset, .unset] [(.int (((p4.toUInt32 >>> ((1 : Int32) &&& 31).toUInt32).toInt32) &&& (3 : Int32)))]))
    rcases own_four ((p4.toUInt32 >>> ((1 : Int32) &&& 31).toUInt32).toInt32) with hl | hl | hl | hl
    ·
      rw [hl]
      show own_Fin _ _ _ _ _ _ (T35.setTop (mkF m 38 #[.val (.int p1), .val (.int p2), .val (.int p3), .val (.int p4), .val (.int (0 : Int32)), .val (.int (0 : Int32)), .val (.ref wC), .unset, .unset, .unset, .unset] [(.int (0 : Int32))]))
      obtain ⟨T36, h36, k36, X36, e36, E36, A36, A36x, st36⟩ := newPE X35 hx hZ (hw _ (List.mem_of_getElem? (i := 3) rfl)) e35 (g := (mkF m 38 #[.val (.int p1), .val (.int p2), .val (.int p3), .val (.int p4), .val (.int (0 : Int32)), .val (.int (0 : Int32)), .val (.ref wC), .unset, .unset, .unset, .unset] [(.int (0 : Int32))])) rfl (hb hby at_38) rfl (by decide) (cap := 0) (by decide) (by decide) (by decide) (by decide) (ad := "[D") (by decide)
      obtain ⟨b, q36⟩ : ∃ z, z = h0.size := ⟨_, rfl⟩
      rw [← q36] at A36 A36x st36
      have ne_wP_b : wP ≠ b := Nat.ne_of_lt (Nat.lt_of_lt_of_le EP.lt (Nat.le_of_eq q36.symm))
      have ne_wC_b : wC ≠ b := Nat.ne_of_lt (Nat.lt_of_lt_of_le EC.lt (Nat.le_of_eq q36.symm))
      have g_b : n0 ≤ b := Nat.le_trans Z0 (Nat.le_of_eq q36.symm)
      have O36 := O0.ext E36
      have EP_e36 := EP.ext E36
      have EC_e36 := EC.ext E36
      have V36 := Arv.new A36 (by decide)
      refine own_to (fun t k => st36 t k) ?_
      show own_Fin _ _ _ _ _ _ (T36.setTop (mkF m 40 #[.val (.int p1), .val (.int p2), .val (.int p3), .val (.int p4), .val (.int (0 : Int32)), .val (.int (0 : Int32)), .val (.ref wC), .unset, .unset, .unset, .unset] [(.ref b)]))
      have V37p : Arv Z h36 b k36 .double (0 : Int32) [] (.double (0 : UInt64)) := V36.pad (pad_rep [] (.double (0 : UInt64)) 0)
      refine own_to (fun t k => XS.astore X36.here hx rfl (hb hby at_40) rfl rfl (l' := #[.val (.int p1), .val (.int p2), .val (.int p3), .val (.int p4), .val (.int (0 : Int32)), .val (.int (0 : Int32)), .val (.ref wC), .val (.ref b), .unset, .unset, .unset]) rfl k) ?_
      show own_Fin _ _ _ _ _ _ (T36.setTop (mkF m 42 #[.val (.int p1), .val (.int p2), .val (.int p3), .val (.int p4), .val (.int (0 : Int32)), .val (.int (0 : Int32)), .val (.ref wC), .val (.ref b), .unset, .unset, .unset] []))
      refine own_to (fun t k => XS.iload X36.here hx rfl (hb hby at_42) rfl k) ?_
      show own_Fin _ _ _ _ _ _ (T36.setTop (mkF m 44 #[.val (.int p1), .val (.int p2), .val (.int p3), .val (.int p4), .val (.int (0 : Int32)), .val (.int (0 : Int32)), .val (.ref wC), .val (.ref b), .unset, .unset, .unset] [(.int (0 : Int32))]))
      refine own_to (fun t k => XS.ifYes X36.here hx rfl (pc0 := 44) (pc' := 53) rfl (hb hby at_44) rfl ((if0 _ _).trans (teq rfl).1) (by decide) (by decide) k) ?_
      show own_Fin _ _ _ _ _ _ (T36.setTop (mkF m 53 #[.val (.int p1), .val (.int p2), .val (.int p3), .val (.int p4), .val (.int (0 : Int32)), .val (.int (0 : Int32)), .val (.ref wC), .val (.ref b), .unset, .unset, .unset] []))
      refine own_to (fun t k => XS.dconst1 X36.here hx rfl (hb hby at_53) rfl k) ?_
      show own_Fin _ _ _ _ _ _ (T36.setTop (mkF m 54 #[.val (.int p1), .val (.int p2), .val (.int p3), .val (.int p4), .val (.int (0 : Int32)), .val (.int (0 : Int32)), .val (.ref wC), .val (.ref b), .unset, .unset, .unset] [(.double FP.dconst1)]))
      refine own_to (fun t k => XS.dstore X36.here hx rfl (hb hby at_54) rfl (l' := #[.val (.int p1), .val (.int p2), .val (.int p3), .val (.int p4), .val (.int (0 : Int32)), .val (.int (0 : Int32)), .val (.ref wC), .val (.ref b), .val (.double FP.dconst1), .second, .unset]) rfl k) ?_
      show own_Fin _ _ _ _ _ _ (T36.setTop (mkF m 56 #[.val (.int p1), .val (.int p2), .val (.int p3), .val (.int p4), .val (.int (0 : Int32)), .val (.int (0 : Int32)), .val (.ref wC), .val (.ref b), .val (.double FP.dconst1), .second, .unset] []))
      refine own_to (fun t k => XS.iload X36.here hx rfl (hb hby at_56) rfl k) ?_
      show own_Fin _ _ _ _ _ _ (T36.setTop (mkF m 58 #[.val (.int p1), .val (.int p2), .val (.int p3), .val (.int p4), .val (.int (0 : Int32)), .val (.int (0 : Int32)), .val (.ref wC), .val (.ref b), .val (.double FP.dconst1), .second, .unset] [(.int (0 : Int32))]))
      refine own_to (fun t k => XS.ifYes X36.here hx rfl (pc0 := 58) (pc' := 70) rfl (hb hby at_58) rfl ((if0 _ _).trans (flt (Int32.lt_irrefl)).2.2.2) (by decide) (by decide) k) ?_
      show own_Fin _ _ _ _ _ _ (T36.setTop (mkF m 70 #[.val (.int p1), .val (.int p2), .val (.int p3), .val (.int p4), .val (.int (0 : Int32)), .val (.int (0 : Int32)), .val (.ref wC), .val (.ref b), .val (.double FP.dconst1), .second, .unset] []))
      refine own_to (fun t k => XS.iload X36.here hx rfl (hb hby at_70) rfl k) ?_
      show own_Fin _ _ _ _ _ _ (T36.setTop (mkF m 72 #[.val (.int p1), .val (.int p2), .val (.int p3), .val (.int p4), .val (.int (0 : Int32)), .val (.int (0 : Int32)), .val (.ref wC), .val (.ref b), .val (.double FP.dconst1), .second, .unset] [(.int (0 : Int32))]))
      refine own_to (fun t k => XS.iconst X36.here hx rfl (hb hby at_72) k) ?_
      show own_Fin _ _ _ _ _ _ (T36.setTop (mkF m 73 #[.val (.int p1), .val (.int p2), .val (.int p3), .val (.int p4), .val (.int (0 : Int32)), .val (.int (0 : Int32)), .val (.ref wC), .val (.ref b), .val (.double FP.dconst1), .second, .unset] [(.int (1 : Int32)), (.int (0 : Int32))]))
      refine own_to (fun t k => XS.icmpYes X36.here hx rfl (pc0 := 73) (pc' := 85) rfl (hb hby at_73) rfl (flt (by decide)).2.2.2 (by decide) (by decide) k) ?_
      show own_Fin _ _ _ _ _ _ (T36.setTop (mkF m 85 #[.val (.int p1), .val (.int p2), .val (.int p3), .val (.int p4), .val (.int (0 : Int32)), .val (.int (0 : Int32)), .val (.ref wC), .val (.ref b), .val (.double FP.dconst1), .second, .unset] []))
      refine own_to (fun t k => XS.iload X36.here hx rfl (hb hby at_85) rfl k) ?_
      show own_Fin _ _ _ _ _ _ (T36.setTop (mkF m 87 #[.val (.int p1), .val (.int p2), .val (.int p3), .val (.int p4), .val (.int (0 : Int32)), .val (.int (0 : Int32)), .val (.ref wC), .val (.ref b), .val (.double FP.dconst1), .second, .unset] [(.int (0 : Int32))]))
      refine own_to (fun t k => XS.iconst X36.here hx rfl (hb hby at_87) k) ?_
      show own_Fin _ _ _ _ _ _ (T36.setTop (mkF m 88 #[.val (.int p1), .val (.int p2), .val (.int p3), .val (.int p4), .val (.int (0 : Int32)), .val (.int (0 : Int32)), .val (.ref wC), .val (.ref b), .val (.double FP.dconst1), .second, .unset] [(.int (2 : Int32)), (.int (0 : Int32))]))
      refine own_to (fun t k => XS.icmpYes X36.here hx rfl (pc0 := 88) (pc' := 100) rfl (hb hby at_88) rfl (flt (by decide)).2.2.2 (by decide) (by decide) k) ?_
      show own_Fin _ _ _ _ _ _ (T36.setTop (mkF m 100 #[.val (.int p1), .val (.int p2), .val (.int p3), .val (.int p4), .val (.int (0 : Int32)), .val (.int (0 : Int32)), .val (.ref wC), .val (.ref b), .val (.double FP.dconst1), .second, .unset] []))
      refine own_to (fun t k => XS.aload X36.here hx rfl (hb hby at_100) rfl rfl k) ?_
      show own_Fin _ _ _ _ _ _ (T36.setTop (mkF m 102 #[.val (.int p1), .val (.int p2), .val (.int p3), .val (.int p4), .val (.int (0 : Int32)), .val (.int (0 : Int32)), .val (.ref wC), .val (.ref b), .val (.double FP.dconst1), .second, .unset] [(.ref wC)]))
      refine own_to (fun t k => XS.aload X36.here hx rfl (hb hby at_102) rfl rfl k) ?_
      show own_Fin _ _ _ _ _ _ (T36.setTop (mkF m 104 #[.val (.int p1), .val (.int p2), .val (.int p3), .val (.int p4), .val (.int (0 : Int32)), .val (.int (0 : Int32)), .val (.ref wC), .val (.ref b), .val (.double FP.dconst1), .second, .unset] [(.ref b), (.ref wC)]))
      obtain ⟨cq38, kq38, q38a, q38b, q38c⟩ := isOf hZ e36 EC_e36
      obtain ⟨_, _, ⟨T38, L38, k38, n38⟩, -, X38, ⟨Lc38, hQ38, l38, y38, z38⟩, st38⟩ := X36.virtualBack hx (y := (⟨"com/example/walk_to_worth/walktoworth/solver/Scale", "rescale", "([D)V"⟩ : MethodName)) (z := (⟨"com/example/walk_to_worth/walktoworth/solver/Scale", "rescale", "([D)V"⟩ : MethodName)) hown (mvT hZ (hw _ (List.mem_of_getElem? (i := 4) rfl))) (mvT hZ (hw _ (List.mem_of_getElem? (i := 5) rfl))) (notFace_of_selects (args := #[]) (mvT hZ (hw _ (List.mem_of_getElem? (i := 7) rfl)))) (mvT hZ (hw _ (List.mem_of_getElem? (i := 7) rfl))) (mvT hZ (hw _ (List.mem_of_getElem? (i := 6) rfl))) (by decide) (own_back (W := 0) (own_resC l Z a0 hw [] wP wC b h36 n0 (Nat.le_trans Z0 E36.1) O36 SS neC) hZ (hw _ (List.mem_of_getElem? (i := 8) rfl)) (hw _ (List.mem_of_getElem? (i := 1) rfl)) (by decide) (by decide)) q38a q38c (g := (mkF m 104 #[.val (.int p1), .val (.int p2), .val (.int p3), .val (.int p4), .val (.int (0 : Int32)), .val (.int (0 : Int32)), .val (.ref wC), .val (.ref b), .val (.double FP.dconst1), .second, .unset] [(.ref b), (.ref wC)])) rfl (by rw [hml]; rfl) (Steps.refl _) (argsL := [(.ref b)]) (rest := []) (lenOf own_pd0 rfl) rfl (by show 2 * 0 + _ ≤ _; exact Nat.le_of_eq rfl) (hb hby at_104) (fun _ _ => ⟨rfl, e36, (by decide : 1 + 0 ≤ _), (by decide : 0 + 0 ≤ _)⟩)
      dsimp only [Pt.U, Pt.locs, Pt.cells, Pt.slots] at X38 l38 y38 z38 st38 hQ38
      subst l38 y38 z38
      obtain ⟨rfl, N38q, eh38⟩ := hQ38
      have N38 := Fr.app N0 N38q
      refine own_to (fun t k => st38.trans k) ?_
      show own_Fin _ _ _ _ _ _ (T38.setTop (mkF m 107 #[.val (.int p1), .val (.int p2), .val (.int p3), .val (.int p4), .val (.int (0 : Int32)), .val (.int (0 : Int32)), .val (.ref wC), .val (.ref b), .val (.double FP.dconst1), .second, .unset] []))
      refine own_to (fun t k => XS.aload X38.here hx rfl (hb hby at_107) rfl rfl k) ?_
      show own_Fin _ _ _ _ _ _ (T38.setTop (mkF m 109 #[.val (.int p1), .val (.int p2), .val (.int p3), .val (.int p4), .val (.int (0 : Int32)), .val (.int (0 : Int32)), .val (.ref wC), .val (.ref b), .val (.double FP.dconst1), .second, .unset] [(.ref b)]))
      obtain ⟨cl39, Ar39, qa39, Sa39, Na39, Ha39, Ga39⟩ := id V37p
      refine own_to (fun t k => X38.arraylength hx (by rw [eh38]; exact Ar39.1) (State.isArrayOf_alike hZ.alike Ar39.2.1) (g := (mkF m 109 #[.val (.int p1), .val (.int p2), .val (.int p3), .val (.int p4), .val (.int (0 : Int32)), .val (.int (0 : Int32)), .val (.ref wC), .val (.ref b), .val (.double FP.dconst1), .second, .unset] [(.ref b)])) rfl rfl (hb hby at_109) _ k) ?_
      rw [len_of Sa39 Na39]
      show own_Fin _ _ _ _ _ _ (T38.setTop (mkF m 110 #[.val (.int p1), .val (.int p2), .val (.int p3), .val (.int p4), .val (.int (0 : Int32)), .val (.int (0 : Int32)), .val (.ref wC), .val (.ref b), .val (.double FP.dconst1), .second, .unset] [(.int (0 : Int32))]))
      refine own_to (fun t k => XS.iload X38.here hx rfl (hb hby at_110) rfl k) ?_
      show own_Fin _ _ _ _ _ _ (T38.setTop (mkF m 112 #[.val (.int p1), .val (.int p2), .val (.int p3), .val (.int p4), .val (.int (0 : Int32)), .val (.int (0 : Int32)), .val (.ref wC), .val (.ref b), .val (.double FP.dconst1), .second, .unset] [(.int (0 : Int32)), (.int (0 : Int32))]))
      refine own_to (fun t k => XS.icmpNo X38.here hx rfl (hb hby at_112) rfl (teq rfl).2 k) ?_
      show own_Fin _ _ _ _ _ _ (T38.setTop (mkF m 115 #[.val (.int p1), .val (.int p2), .val (.int p3), .val (.int p4), .val (.int (0 : Int32)), .val (.int (0 : Int32)), .val (.ref wC), .val (.ref b), .val (.double FP.dconst1), .second, .unset] []))
      refine own_to (fun t k => XS.iconst X38.here hx rfl (hb hby at_115) k) ?_
      show own_Fin _ _ _ _ _ _ (T38.setTop (mkF m 116 #[.val (.int p1), .val (.int p2), .val (.int p3), .val (.int p4), .val (.int (0 : Int32)), .val (.int (0 : Int32)), .val (.ref wC), .val (.ref b), .val (.double FP.dconst1), .second, .unset] [(.int (1 : Int32))]))
      refine own_to (fun t k => XS.goto X38.here hx rfl (pc0 := 116) (pc' := 120) rfl (hb hby at_116) (by decide) (by decide) k) ?_
      show own_Fin _ _ _ _ _ _ (T38.setTop (mkF m 120 #[.val (.int p1), .val (.int p2), .val (.int p3), .val (.int p4), .val (.int (0 : Int32)), .val (.int (0 : Int32)), .val (.ref wC), .val (.ref b), .val (.double FP.dconst1), .second, .unset] [(.int (1 : Int32))]))
      refine own_to (fun t k => XS.istore X38.here hx rfl (hb hby at_120) rfl (l' := #[.val (.int p1), .val (.int p2), .val (.int p3), .val (.int p4), .val (.int (0 : Int32)), .val (.int (0 : Int32)), .val (.ref wC), .val (.ref b), .val (.double FP.dconst1), .second, .val (.int (1 : Int32))]) rfl k) ?_
      show own_Fin _ _ _ _ _ _ (T38.setTop (mkF m 122 #[.val (.int p1), .val (.int p2), .val (.int p3), .val (.int p4), .val (.int (0 : Int32)), .val (.int (0 : Int32)), .val (.ref wC), .val (.ref b), .val (.double FP.dconst1), .second, .val (.int (1 : Int32))] []))
      refine own_to (fun t k => XS.iload X38.here hx rfl (hb hby at_122) rfl k) ?_
      show own_Fin _ _ _ _ _ _ (T38.setTop (mkF m 124 #[.val (.int p1), .val (.int p2), .val (.int p3), .val (.int p4), .val (.int (0 : Int32)), .val (.int (0 : Int32)), .val (.ref wC), .val (.ref b), .val (.double FP.dconst1), .second, .val (.int (1 : Int32))] [(.int (0 : Int32))]))
      refine own_to (fun t k => XS.ifYes X38.here hx rfl (pc0 := 124) (pc' := 149) rfl (hb hby at_124) rfl ((if0 _ _).trans (flt (Int32.lt_irrefl)).2.2.2) (by decide) (by decide) k) ?_
      show own_Fin _ _ _ _ _ _ (T38.setTop (mkF m 149 #[.val (.int p1), .val (.int p2), .val (.int p3), .val (.int p4), .val (.int (0 : Int32)), .val (.int (0 : Int32)), .val (.ref wC), .val (.ref b), .val (.double FP.dconst1), .second, .val (.int (1 : Int32))] []))
      refine own_to (fun t k => XS.iload X38.here hx rfl (hb hby at_149) rfl k) ?_
      show own_Fin _ _ _ _ _ _ (T38.setTop (mkF m 151 #[.val (.int p1), .val (.int p2), .val (.int p3), .val (.int p4), .val (.int (0 : Int32)), .val (.int (0 : Int32)), .val (.ref wC), .val (.ref b), .val (.double FP.dconst1), .second, .val (.int (1 : Int32))] [(.int (0 : Int32))]))
      refine own_to (fun t k => XS.iconst X38.here hx rfl (hb hby at_151) k) ?_
      show own_Fin _ _ _ _ _ _ (T38.setTop (mkF m 152 #[.val (.int p1), .val (.int p2), .val (.int p3), .val (.int p4), .val (.int (0 : Int32)), .val (.int (0 : Int32)), .val (.ref wC), .val (.ref b), .val (.double FP.dconst1), .second, .val (.int (1 : Int32))] [(.int (1 : Int32)), (.int (0 : Int32))]))
      refine own_to (fun t k => XS.icmpYes X38.here hx rfl (pc0 := 152) (pc' := 177) rfl (hb hby at_152) rfl (flt (by decide)).2.2.2 (by decide) (by decide) k) ?_
      show own_Fin _ _ _ _ _ _ (T38.setTop (mkF m 177 #[.val (.int p1), .val (.int p2), .val (.int p3), .val (.int p4), .val (.int (0 : Int32)), .val (.int (0 : Int32)), .val (.ref wC), .val (.ref b), .val (.double FP.dconst1), .second, .val (.int (1 : Int32))] []))
      refine own_to (fun t k => XS.iload X38.here hx rfl (hb hby at_177) rfl k) ?_
      show own_Fin _ _ _ _ _ _ (T38.setTop (mkF m 179 #[.val (.int p1), .val (.int p2), .val (.int p3), .val (.int p4), .val (.int (0 : Int32)), .val (.int (0 : Int32)), .val (.ref wC), .val (.ref b), .val (.double FP.dconst1), .second, .val (.int (1 : Int32))] [(.int (0 : Int32))]))
      refine own_to (fun t k => XS.iconst X38.here hx rfl (hb hby at_179) k) ?_
      show own_Fin _ _ _ _ _ _ (T38.setTop (mkF m 180 #[.val (.int p1), .val (.int p2), .val (.int p3), .val (.int p4), .val (.int (0 : Int32)), .val (.int (0 : Int32)), .val (.ref wC), .val (.ref b), .val (.double FP.dconst1), .second, .val (.int (1 : Int32))] [(.int (2 : Int32)), (.int (0 : Int32))]))
      refine own_to (fun t k => XS.icmpYes X38.here hx rfl (pc0 := 180) (pc' := 205) rfl (hb hby at_180) rfl (flt (by decide)).2.2.2 (by decide) (by decide) k) ?_
      show own_Fin _ _ _ _ _ _ (T38.setTop (mkF m 205 #[.val (.int p1), .val (.int p2), .val (.int p3), .val (.int p4), .val (.int (0 : Int32)), .val (.int (0 : Int32)), .val (.ref wC), .val (.ref b), .val (.double FP.dconst1), .second, .val (.int (1 : Int32))] []))
      refine own_to (fun t k => XS.iload X38.here hx rfl (hb hby at_205) rfl k) ?_
      show own_Fin _ _ _ _ _ _ (T38.setTop (mkF m 207 #[.val (.int p1), .val (.int p2), .val (.int p3), .val (.int p4), .val (.int (0 : Int32)), .val (.int (0 : Int32)), .val (.ref wC), .val (.ref b), .val (.double FP.dconst1), .second, .val (.int (1 : Int32))] [(.int (1 : Int32))]))
      refine own_retN X38 hx hlk (t := .boolean) hret (by simp) (hb hby at_207) (by decide) (by decide) ?_
      try rw [eh38]
      exact ⟨rfl, N38⟩
    ·
      rw [hl]
      show own_Fin _ _ _ _ _ _ (T35.setTop (mkF m 38 #[.val (.int p1), .val (.int p2), .val (.int p3), .val (.int p4), .val (.int (0 : Int32)), .val (.int (1 : Int32)), .val (.ref wC), .unset, .unset, .unset, .unset] [(.int (1 : Int32))]))
      obtain ⟨T40, h40, k40, X40, e40, E40, A40, A40x, st40⟩ := newPE X35 hx hZ (hw _ (List.mem_of_getElem? (i := 3) rfl)) e35 (g := (mkF m 38 #[.val (.int p1), .val (.int p2), .val (.int p3), .val (.int p4), .val (.int (0 : Int32)), .val (.int (1 : Int32)), .val (.ref wC), .unset, .unset, .unset, .unset] [(.int (1 : Int32))])) rfl (hb hby at_38) rfl (by decide) (cap := 1) (by decide) (by decide) (by decide) (by decide) (ad := "[D") (by decide)
      obtain ⟨b, q40⟩ : ∃ z, z = h0.size := ⟨_, rfl⟩
      rw [← q40] at A40 A40x st40
      have ne_wP_b : wP ≠ b := Nat.ne_of_lt (Nat.lt_of_lt_of_le EP.lt (Nat.le_of_eq q40.symm))
      have ne_wC_b : wC ≠ b := Nat.ne_of_lt (Nat.lt_of_lt_of_le EC.lt (Nat.le_of_eq q40.symm))
      have g_b : n0 ≤ b := Nat.le_trans Z0 (Nat.le_of_eq q40.symm)
      have O40 := O0.ext E40
      have EP_e40 := EP.ext E40
      have EC_e40 := EC.ext E40
      have V40 := Arv.new A40 (by decide)
      refine own_to (fun t k => st40 t k) ?_
      show own_Fin _ _ _ _ _ _ (T40.setTop (mkF m 40 #[.val (.int p1), .val (.int p2), .val (.int p3), .val (.int p4), .val (.int (0 : Int32)), .val (.int (1 : Int32)), .val (.ref wC), .unset, .unset, .unset, .unset] [(.ref b)]))
      have V41p : Arv Z h40 b k40 .double (1 : Int32) [(.double (0 : UInt64))] (.double (0 : UInt64)) := V40.pad (pad_rep [] (.double (0 : UInt64)) 1)
      refine own_to (fun t k => XS.astore X40.here hx rfl (hb hby at_40) rfl rfl (l' := #[.val (.int p1), .val (.int p2), .val (.int p3), .val (.int p4), .val (.int (0 : Int32)), .val (.int (1 : Int32)), .val (.ref wC), .val (.ref b), .unset, .unset, .unset]) rfl k) ?_
      show own_Fin _ _ _ _ _ _ (T40.setTop (mkF m 42 #[.val (.int p1), .val (.int p2), .val (.int p3), .val (.int p4), .val (.int (0 : Int32)), .val (.int (1 : Int32)), .val (.ref wC), .val (.ref b), .unset, .unset, .unset] []))
      refine own_to (fun t k => XS.iload X40.here hx rfl (hb hby at_42) rfl k) ?_
      show own_Fin _ _ _ _ _ _ (T40.setTop (mkF m 44 #[.val (.int p1), .val (.int p2), .val (.int p3), .val (.int p4), .val (.int (0 : Int32)), .val (.int (1 : Int32)), .val (.ref wC), .val (.ref b), .unset, .unset, .unset] [(.int (0 : Int32))]))
      refine own_to (fun t k => XS.ifYes X40.here hx rfl (pc0 := 44) (pc' := 53) rfl (hb hby at_44) rfl ((if0 _ _).trans (teq rfl).1) (by decide) (by decide) k) ?_
      show own_Fin _ _ _ _ _ _ (T40.setTop (mkF m 53 #[.val (.int p1), .val (.int p2), .val (.int p3), .val (.int p4), .val (.int (0 : Int32)), .val (.int (1 : Int32)), .val (.ref wC), .val (.ref b), .unset, .unset, .unset] []))
      refine own_to (fun t k => XS.dconst1 X40.here hx rfl (hb hby at_53) rfl k) ?_
      show own_Fin _ _ _ _ _ _ (T40.setTop (mkF m 54 #[.val (.int p1), .val (.int p2), .val (.int p3), .val (.int p4), .val (.int (0 : Int32)), .val (.int (1 : Int32)), .val (.ref wC), .val (.ref b), .unset, .unset, .unset] [(.double FP.dconst1)]))
      refine own_to (fun t k => XS.dstore X40.here hx rfl (hb hby at_54) rfl (l' := #[.val (.int p1), .val (.int p2), .val (.int p3), .val (.int p4), .val (.int (0 : Int32)), .val (.int (1 : Int32)), .val (.ref wC), .val (.ref b), .val (.double FP.dconst1), .second, .unset]) rfl k) ?_
      show own_Fin _ _ _ _ _ _ (T40.setTop (mkF m 56 #[.val (.int p1), .val (.int p2), .val (.int p3), .val (.int p4), .val (.int (0 : Int32)), .val (.int (1 : Int32)), .val (.ref wC), .val (.ref b), .val (.double FP.dconst1), .second, .unset] []))
      refine own_to (fun t k => XS.iload X40.here hx rfl (hb hby at_56) rfl k) ?_
      show own_Fin _ _ _ _ _ _ (T40.setTop (mkF m 58 #[.val (.int p1), .val (.int p2), .val (.int p3), .val (.int p4), .val (.int (0 : Int32)), .val (.int (1 : Int32)), .val (.ref wC), .val (.ref b), .val (.double FP.dconst1), .second, .unset] [(.int (1 : Int32))]))
      refine own_to (fun t k => XS.ifNo X40.here hx rfl (hb hby at_58) rfl ((if0 _ _).trans (tlt (by decide)).2.2.2) k) ?_
      show own_Fin _ _ _ _ _ _ (T40.setTop (mkF m 61 #[.val (.int p1), .val (.int p2), .val (.int p3), .val (.int p4), .val (.int (0 : Int32)), .val (.int (1 : Int32)), .val (.ref wC), .val (.ref b), .val (.double FP.dconst1), .second, .unset] []))
      refine own_to (fun t k => XS.aload X40.here hx rfl (hb hby at_61) rfl rfl k) ?_
      show own_Fin _ _ _ _ _ _ (T40.setTop (mkF m 63 #[.val (.int p1), .val (.int p2), .val (.int p3), .val (.int p4), .val (.int (0 : Int32)), .val (.int (1 : Int32)), .val (.ref wC), .val (.ref b), .val (.double FP.dconst1), .second, .unset] [(.ref b)]))
      refine own_to (fun t k => XS.iconst X40.here hx rfl (hb hby at_63) k) ?_
      show own_Fin _ _ _ _ _ _ (T40.setTop (mkF m 64 #[.val (.int p1), .val (.int p2), .val (.int p3), .val (.int p4), .val (.int (0 : Int32)), .val (.int (1 : Int32)), .val (.ref wC), .val (.ref b), .val (.double FP.dconst1), .second, .unset] [(.int (0 : Int32)), (.ref b)]))
      refine own_to (fun t k => XS.iloadN X40.here hx rfl (hb hby at_64) rfl k) ?_
      show own_Fin _ _ _ _ _ _ (T40.setTop (mkF m 65 #[.val (.int p1), .val (.int p2), .val (.int p3), .val (.int p4), .val (.int (0 : Int32)), .val (.int (1 : Int32)), .val (.ref wC), .val (.ref b), .val (.double FP.dconst1), .second, .unset] [(.int p1), (.int (0 : Int32)), (.ref b)]))
      refine own_to (fun t k => XS.i2dS X40.here hx rfl (hb hby at_65) rfl rfl k) ?_
      show own_Fin _ _ _ _ _ _ (T40.setTop (mkF m 66 #[.val (.int p1), .val (.int p2), .val (.int p3), .val (.int p4), .val (.int (0 : Int32)), .val (.int (1 : Int32)), .val (.ref wC), .val (.ref b), .val (.double FP.dconst1), .second, .unset] [(.double (FP.i2d p1)), (.int (0 : Int32)), (.ref b)]))
      refine own_to (fun t k => XS.dload X40.here hx rfl (hb hby at_66) rfl k) ?_
      show own_Fin _ _ _ _ _ _ (T40.setTop (mkF m 68 #[.val (.int p1), .val (.int p2), .val (.int p3), .val (.int p4), .val (.int (0 : Int32)), .val (.int (1 : Int32)), .val (.ref wC), .val (.ref b), .val (.double FP.dconst1), .second, .unset] [(.double FP.dconst1), (.double (FP.i2d p1)), (.int (0 : Int32)), (.ref b)]))
      refine own_to (fun t k => XS.dmulS X40.here hx rfl (hb hby at_68) rfl (by rw [own_mul1 p1]; exact own_ni _) (own_mul1 p1) k) ?_
      show own_Fin _ _ _ _ _ _ (T40.setTop (mkF m 69 #[.val (.int p1), .val (.int p2), .val (.int p3), .val (.int p4), .val (.int (0 : Int32)), .val (.int (1 : Int32)), .val (.ref wC), .val (.ref b), .val (.double FP.dconst1), .second, .unset] [(.double (FP.i2d p1)), (.int (0 : Int32)), (.ref b)]))
      obtain ⟨cl42, Ar42, qa42, Sa42, Na42, Ha42, Ga42⟩ := id V41p
      have hin43 : ¬ ((0 : Int32) < 0 ∨ cl42.slots.size ≤ ((0 : Int32)).toNatClampNeg) := inb_of Sa42 ⟨by decide, by decide⟩
      obtain ⟨T43, h43, X43, e43, W43, st43⟩ := stD X40 hx hZ e40 Ar42 (j := (0 : Int32)) hin43 (g := (mkF m 69 #[.val (.int p1), .val (.int p2), .val (.int p3), .val (.int p4), .val (.int (0 : Int32)), .val (.int (1 : Int32)), .val (.ref wC), .val (.ref b), .val (.double FP.dconst1), .second, .unset] [(.double (FP.i2d p1)), (.int (0 : Int32)), (.ref b)])) rfl rfl (hb hby at_69)
      have N43 := Fr.snoc X43 N0 g_b
      have O43 := O40.wr W43 g_b
      have EP_e43 := EP_e40.wr W43
      have EC_e43 := EC_e40.wr W43
      have A40x_e43 := A40x.wr W43
      have V43 : Arv Z h43 b k40 .double (1 : Int32) [(.double (FP.i2d p1))] (.double (0 : UInt64)) := Arv.set Ar42 qa42 Sa42 Na42 Ha42 Ga42 rfl W43 0 rfl (Nat.le_of_ble_eq_true rfl)
      refine own_to (fun t k => st43 t k) ?_
      show own_Fin _ _ _ _ _ _ (T43.setTop (mkF m 70 #[.val (.int p1), .val (.int p2), .val (.int p3), .val (.int p4), .val (.int (0 : Int32)), .val (.int (1 : Int32)), .val (.ref wC), .val (.ref b), .val (.double FP.dconst1), .second, .unset] []))
      refine own_to (fun t k => XS.iload X43.here hx rfl (hb hby at_70) rfl k) ?_
      show own_Fin _ _ _ _ _ _ (T43.setTop (mkF m 72 #[.val (.int p1), .val (.int p2), .val (.int p3), .val (.int p4), .val (.int (0 : Int32)), .val (.int (1 : Int32)), .val (.ref wC), .val (.ref b), .val (.double FP.dconst1), .second, .unset] [(.int (1 : Int32))]))
      refine own_to (fun t k => XS.iconst X43.here hx rfl (hb hby at_72) k) ?_
      show own_Fin _ _ _ _ _ _ (T43.setTop (mkF m 73 #[.val (.int p1), .val (.int p2), .val (.int p3), .val (.int p4), .val (.int (0 : Int32)), .val (.int (1 : Int32)), .val (.ref wC), .val (.ref b), .val (.double FP.dconst1), .second, .unset] [(.int (1 : Int32)), (.int (1 : Int32))]))
      refine own_to (fun t k => XS.icmpYes X43.here hx rfl (pc0 := 73) (pc' := 85) rfl (hb hby at_73) rfl (flt (Int32.lt_irrefl)).2.2.2 (by decide) (by decide) k) ?_
      show own_Fin _ _ _ _ _ _ (T43.setTop (mkF m 85 #[.val (.int p1), .val (.int p2), .val (.int p3), .val (.int p4), .val (.int (0 : Int32)), .val (.int (1 : Int32)), .val (.ref wC), .val (.ref b), .val (.double FP.dconst1), .second, .unset] []))
      refine own_to (fun t k => XS.iload X43.here hx rfl (hb hby at_85) rfl k) ?_
      show own_Fin _ _ _ _ _ _ (T43.setTop (mkF m 87 #[.val (.int p1), .val (.int p2), .val (.int p3), .val (.int p4), .val (.int (0 : Int32)), .val (.int (1 : Int32)), .val (.ref wC), .val (.ref b), .val (.double FP.dconst1), .second, .unset] [(.int (1 : Int32))]))
      refine own_to (fun t k => XS.iconst X43.here hx rfl (hb hby at_87) k) ?_
      show own_Fin _ _ _ _ _ _ (T43.setTop (mkF m 88 #[.val (.int p1), .val (.int p2), .val (.int p3), .val (.int p4), .val (.int (0 : Int32)), .val (.int (1 : Int32)), .val (.ref wC), .val (.ref b), .val (.double FP.dconst1), .second, .unset] [(.int (2 : Int32)), (.int (1 : Int32))]))
      refine own_to (fun t k => XS.icmpYes X43.here hx rfl (pc0 := 88) (pc' := 100) rfl (hb hby at_88) rfl (flt (by decide)).2.2.2 (by decide) (by decide) k) ?_
      show own_Fin _ _ _ _ _ _ (T43.setTop (mkF m 100 #[.val (.int p1), .val (.int p2), .val (.int p3), .val (.int p4), .val (.int (0 : Int32)), .val (.int (1 : Int32)), .val (.ref wC), .val (.ref b), .val (.double FP.dconst1), .second, .unset] []))
      refine own_to (fun t k => XS.aload X43.here hx rfl (hb hby at_100) rfl rfl k) ?_
      show own_Fin _ _ _ _ _ _ (T43.setTop (mkF m 102 #[.val (.int p1), .val (.int p2), .val (.int p3), .val (.int p4), .val (.int (0 : Int32)), .val (.int (1 : Int32)), .val (.ref wC), .val (.ref b), .val (.double FP.dconst1), .second, .unset] [(.ref wC)]))
      refine own_to (fun t k => XS.aload X43.here hx rfl (hb hby at_102) rfl rfl k) ?_
      show own_Fin _ _ _ _ _ _ (T43.setTop (mkF m 104 #[.val (.int p1), .val (.int p2), .val (.int p3), .val (.int p4), .val (.int (0 : Int32)), .val (.int (1 : Int32)), .val (.ref wC), .val (.ref b), .val (.double FP.dconst1), .second, .unset] [(.ref b), (.ref wC)]))
      obtain ⟨cq44, kq44, q44a, q44b, q44c⟩ := isOf hZ e43 EC_e43
      obtain ⟨_, _, ⟨T44, L44, k44, n44⟩, -, X44, ⟨Lc44, hQ44, l44, y44, z44⟩, st44⟩ := X43.virtualBack hx (y := (⟨"com/example/walk_to_worth/walktoworth/solver/Scale", "rescale", "([D)V"⟩ : MethodName)) (z := (⟨"com/example/walk_to_worth/walktoworth/solver/Scale", "rescale", "([D)V"⟩ : MethodName)) hown (mvT hZ (hw _ (List.mem_of_getElem? (i := 4) rfl))) (mvT hZ (hw _ (List.mem_of_getElem? (i := 5) rfl))) (notFace_of_selects (args := #[]) (mvT hZ (hw _ (List.mem_of_getElem? (i := 7) rfl)))) (mvT hZ (hw _ (List.mem_of_getElem? (i := 7) rfl))) (mvT hZ (hw _ (List.mem_of_getElem? (i := 6) rfl))) (by decide) (own_back (W := 0) (own_resC l Z a0 hw [] wP wC b h43 n0 (Nat.le_trans (Nat.le_trans Z0 E40.1) (Keep.of_wr W43).1) O43 SS neC) hZ (hw _ (List.mem_of_getElem? (i := 8) rfl)) (hw _ (List.mem_of_getElem? (i := 1) rfl)) (by decide) (by decide)) q44a q44c (g := (mkF m 104 #[.val (.int p1), .val (.int p2), .val (.int p3), .val (.int p4), .val (.int (0 : Int32)), .val (.int (1 : Int32)), .val (.ref wC), .val (.ref b), .val (.double FP.dconst1), .second, .unset] [(.ref b), (.ref wC)])) rfl (by rw [hml]; rfl) (Steps.refl _) (argsL := [(.ref b)]) (rest := []) (lenOf own_pd0 rfl) rfl (by show 2 * 0 + _ ≤ _; exact Nat.le_of_eq rfl) (hb hby at_104) (fun _ _ => ⟨rfl, e43, (by decide : 1 + 0 ≤ _), (by decide : 1 + 0 ≤ _)⟩)
      dsimp only [Pt.U, Pt.locs, Pt.cells, Pt.slots] at X44 l44 y44 z44 st44 hQ44
      subst l44 y44 z44
      obtain ⟨rfl, N44q, eh44⟩ := hQ44
      have N44 := Fr.app N43 N44q
      refine own_to (fun t k => st44.trans k) ?_
      show own_Fin _ _ _ _ _ _ (T44.setTop (mkF m 107 #[.val (.int p1), .val (.int p2), .val (.int p3), .val (.int p4), .val (.int (0 : Int32)), .val (.int (1 : Int32)), .val (.ref wC), .val (.ref b), .val (.double FP.dconst1), .second, .unset] []))
      refine own_to (fun t k => XS.aload X44.here hx rfl (hb hby at_107) rfl rfl k) ?_
      show own_Fin _ _ _ _ _ _ (T44.setTop (mkF m 109 #[.val (.int p1), .val (.int p2), .val (.int p3), .val (.int p4), .val (.int (0 : Int32)), .val (.int (1 : Int32)), .val (.ref wC), .val (.ref b), .val (.double FP.dconst1), .second, .unset] [(.ref b)]))
      obtain ⟨cl45, Ar45, qa45, Sa45, Na45, Ha45, Ga45⟩ := id V43
      refine own_to (fun t k => X44.arraylength hx (by rw [eh44]; exact Ar45.1) (State.isArrayOf_alike hZ.alike Ar45.2.1) (g := (mkF m 109 #[.val (.int p1), .val (.int p2), .val (.int p3), .val (.int p4), .val (.int (0 : Int32)), .val (.int (1 : Int32)), .val (.ref wC), .val (.ref b), .val (.double FP.dconst1), .second, .unset] [(.ref b)])) rfl rfl (hb hby at_109) _ k) ?_
      rw [len_of Sa45 Na45]
      show own_Fin _ _ _ _ _ _ (T44.setTop (mkF m 110 #[.val (.int p1), .val (.int p2), .val (.int p3), .val (.int p4), .val (.int (0 : Int32)), .val (.int (1 : Int32)), .val (.ref wC), .val (.ref b), .val (.double FP.dconst1), .second, .unset] [(.int (1 : Int32))]))
      refine own_to (fun t k => XS.iload X44.here hx rfl (hb hby at_110) rfl k) ?_
      show own_Fin _ _ _ _ _ _ (T44.setTop (mkF m 112 #[.val (.int p1), .val (.int p2), .val (.int p3), .val (.int p4), .val (.int (0 : Int32)), .val (.int (1 : Int32)), .val (.ref wC), .val (.ref b), .val (.double FP.dconst1), .second, .unset] [(.int (1 : Int32)), (.int (1 : Int32))]))
      refine own_to (fun t k => XS.icmpNo X44.here hx rfl (hb hby at_112) rfl (teq rfl).2 k) ?_
      show own_Fin _ _ _ _ _ _ (T44.setTop (mkF m 115 #[.val (.int p1), .val (.int p2), .val (.int p3), .val (.int p4), .val (.int (0 : Int32)), .val (.int (1 : Int32)), .val (.ref wC), .val (.ref b), .val (.double FP.dconst1), .second, .unset] []))
      refine own_to (fun t k => XS.iconst X44.here hx rfl (hb hby at_115) k) ?_
      show own_Fin _ _ _ _ _ _ (T44.setTop (mkF m 116 #[.val (.int p1), .val (.int p2), .val (.int p3), .val (.int p4), .val (.int (0 : Int32)), .val (.int (1 : Int32)), .val (.ref wC), .val (.ref b), .val (.double FP.dconst1), .second, .unset] [(.int (1 : Int32))]))
      refine own_to (fun t k => XS.goto X44.here hx rfl (pc0 := 116) (pc' := 120) rfl (hb hby at_116) (by decide) (by decide) k) ?_
      show own_Fin _ _ _ _ _ _ (T44.setTop (mkF m 120 #[.val (.int p1), .val (.int p2), .val (.int p3), .val (.int p4), .val (.int (0 : Int32)), .val (.int (1 : Int32)), .val (.ref wC), .val (.ref b), .val (.double FP.dconst1), .second, .unset] [(.int (1 : Int32))]))
      refine own_to (fun t k => XS.istore X44.here hx rfl (hb hby at_120) rfl (l' := #[.val (.int p1), .val (.int p2), .val (.int p3), .val (.int p4), .val (.int (0 : Int32)), .val (.int (1 : Int32)), .val (.ref wC), .val (.ref b), .val (.double FP.dconst1), .second, .val (.int (1 : Int32))]) rfl k) ?_
      show own_Fin _ _ _ _ _ _ (T44.setTop (mkF m 122 #[.val (.int p1), .val (.int p2), .val (.int p3), .val (.int p4), .val (.int (0 : Int32)), .val (.int (1 : Int32)), .val (.ref wC), .val (.ref b), .val (.double FP.dconst1), .second, .val (.int (1 : Int32))] []))
      refine own_to (fun t k => XS.iload X44.here hx rfl (hb hby at_122) rfl k) ?_
      show own_Fin _ _ _ _ _ _ (T44.setTop (mkF m 124 #[.val (.int p1), .val (.int p2), .val (.int p3), .val (.int p4), .val (.int (0 : Int32)), .val (.int (1 : Int32)), .val (.ref wC), .val (.ref b), .val (.double FP.dconst1), .second, .val (.int (1 : Int32))] [(.int (1 : Int32))]))
      refine own_to (fun t k => XS.ifNo X44.here hx rfl (hb hby at_124) rfl ((if0 _ _).trans (tlt (by decide)).2.2.2) k) ?_
      show own_Fin _ _ _ _ _ _ (T44.setTop (mkF m 127 #[.val (.int p1), .val (.int p2), .val (.int p3), .val (.int p4), .val (.int (0 : Int32)), .val (.int (1 : Int32)), .val (.ref wC), .val (.ref b), .val (.double FP.dconst1), .second, .val (.int (1 : Int32))] []))
      refine own_to (fun t k => XS.iload X44.here hx rfl (hb hby at_127) rfl k) ?_
      show own_Fin _ _ _ _ _ _ (T44.setTop (mkF m 129 #[.val (.int p1), .val (.int p2), .val (.int p3), .val (.int p4), .val (.int (0 : Int32)), .val (.int (1 : Int32)), .val (.ref wC), .val (.ref b), .val (.double FP.dconst1), .second, .val (.int (1 : Int32))] [(.int (1 : Int32))]))
      refine own_to (fun t k => XS.ifNo X44.here hx rfl (hb hby at_129) rfl ((if0 _ _).trans (feq (by decide)).1) k) ?_
      show own_Fin _ _ _ _ _ _ (T44.setTop (mkF m 132 #[.val (.int p1), .val (.int p2), .val (.int p3), .val (.int p4), .val (.int (0 : Int32)), .val (.int (1 : Int32)), .val (.ref wC), .val (.ref b), .val (.double FP.dconst1), .second, .val (.int (1 : Int32))] []))
      refine own_to (fun t k => XS.aload X44.here hx rfl (hb hby at_132) rfl rfl k) ?_
      show own_Fin _ _ _ _ _ _ (T44.setTop (mkF m 134 #[.val (.int p1), .val (.int p2), .val (.int p3), .val (.int p4), .val (.int (0 : Int32)), .val (.int (1 : Int32)), .val (.ref wC), .val (.ref b), .val (.double FP.dconst1), .second, .val (.int (1 : Int32))] [(.ref b)]))
      refine own_to (fun t k => XS.iconst X44.here hx rfl (hb hby at_134) k) ?_
      show own_Fin _ _ _ _ _ _ (T44.setTop (mkF m 135 #[.val (.int p1), .val (.int p2), .val (.int p3), .val (.int p4), .val (.int (0 : Int32)), .val (.int (1 : Int32)), .val (.ref wC), .val (.ref b), .val (.double FP.dconst1), .second, .val (.int (1 : Int32))] [(.int (0 : Int32)), (.ref b)]))
      obtain ⟨cl46, Ar46, qa46, Sa46, Na46, Ha46, Ga46⟩ := id V43
      have hin47 : ¬ ((0 : Int32) < 0 ∨ cl46.slots.size ≤ ((0 : Int32)).toNatClampNeg) := inb_of Sa46 ⟨by decide, by decide⟩
      refine own_to (fun t k => X44.daload hx (j := (0 : Int32)) (v := (.double (FP.i2d p1))) (by rw [eh44]; exact Ar46.1) (State.isArrayOf_alike hZ.alike Ar46.2.1) Ar46.2.2 hin47 (Has.at Ha46 hin47 rfl) (g := (mkF m 135 #[.val (.int p1), .val (.int p2), .val (.int p3), .val (.int p4), .val (.int (0 : Int32)), .val (.int (1 : Int32)), .val (.ref wC), .val (.ref b), .val (.double FP.dconst1), .second, .val (.int (1 : Int32))] [(.int (0 : Int32)), (.ref b)])) rfl rfl (hb hby at_135) _ k) ?_
      show own_Fin _ _ _ _ _ _ (T44.setTop (mkF m 136 #[.val (.int p1), .val (.int p2), .val (.int p3), .val (.int p4), .val (.int (0 : Int32)), .val (.int (1 : Int32)), .val (.ref wC), .val (.ref b), .val (.double FP.dconst1), .second, .val (.int (1 : Int32))] [(.double (FP.i2d p1))]))
      refine own_to (fun t k => XS.iloadN X44.here hx rfl (hb hby at_136) rfl k) ?_
      show own_Fin _ _ _ _ _ _ (T44.setTop (mkF m 137 #[.val (.int p1), .val (.int p2), .val (.int p3), .val (.int p4), .val (.int (0 : Int32)), .val (.int (1 : Int32)), .val (.ref wC), .val (.ref b), .val (.double FP.dconst1), .second, .val (.int (1 : Int32))] [(.int p1), (.double (FP.i2d p1))]))
      refine own_to (fun t k => XS.i2dS X44.here hx rfl (hb hby at_137) rfl rfl k) ?_
      show own_Fin _ _ _ _ _ _ (T44.setTop (mkF m 138 #[.val (.int p1), .val (.int p2), .val (.int p3), .val (.int p4), .val (.int (0 : Int32)), .val (.int (1 : Int32)), .val (.ref wC), .val (.ref b), .val (.double FP.dconst1), .second, .val (.int (1 : Int32))] [(.double (FP.i2d p1)), (.double (FP.i2d p1))]))
      refine own_to (fun t k => XS.dcmpS X44.here hx rfl (hb hby at_138) rfl rfl k) ?_
      show own_Fin _ _ _ _ _ _ (T44.setTop (mkF m 139 #[.val (.int p1), .val (.int p2), .val (.int p3), .val (.int p4), .val (.int (0 : Int32)), .val (.int (1 : Int32)), .val (.ref wC), .val (.ref b), .val (.double FP.dconst1), .second, .val (.int (1 : Int32))] [(.int (cmpValue (FP.dcmp (FP.i2d p1) (FP.i2d p1)) .l))]))
      refine own_to (fun t k => XS.ifNo X44.here hx rfl (hb hby at_139) rfl ((if0 _ _).trans (teq (own_same p1)).2) k) ?_
      show own_Fin _ _ _ _ _ _ (T44.setTop (mkF m 142 #[.val (.int p1), .val (.int p2), .val (.int p3), .val (.int p4), .val (.int (0 : Int32)), .val (.int (1 : Int32)), .val (.ref wC), .val (.ref b), .val (.double FP.dconst1), .second, .val (.int (1 : Int32))] []))
      refine own_to (fun t k => XS.iconst X44.here hx rfl (hb hby at_142) k) ?_
      show own_Fin _ _ _ _ _ _ (T44.setTop (mkF m 143 #[.val (.int p1), .val (.int p2), .val (.int p3), .val (.int p4), .val (.int (0 : Int32)), .val (.int (1 : Int32)), .val (.ref wC), .val (.ref b), .val (.double FP.dconst1), .second, .val (.int (1 : Int32))] [(.int (1 : Int32))]))
      refine own_to (fun t k => XS.goto X44.here hx rfl (pc0 := 143) (pc' := 147) rfl (hb hby at_143) (by decide) (by decide) k) ?_
      show own_Fin _ _ _ _ _ _ (T44.setTop (mkF m 147 #[.val (.int p1), .val (.int p2), .val (.int p3), .val (.int p4), .val (.int (0 : Int32)), .val (.int (1 : Int32)), .val (.ref wC), .val (.ref b), .val (.double FP.dconst1), .second, .val (.int (1 : Int32))] [(.int (1 : Int32))]))
      refine own_to (fun t k => XS.istore X44.here hx rfl (hb hby at_147) rfl (l' := #[.val (.int p1), .val (.int p2), .val (.int p3), .val (.int p4), .val (.int (0 : Int32)), .val (.int (1 : Int32)), .val (.ref wC), .val (.ref b), .val (.double FP.dconst1), .second, .val (.int (1 : Int32))]) rfl k) ?_
      show own_Fin _ _ _ _ _ _ (T44.setTop (mkF m 149 #[.val (.int p1), .val (.int p2), .val (.int p3), .val (.int p4), .val (.int (0 : Int32)), .val (.int (1 : Int32)), .val (.ref wC), .val (.ref b), .val (.double FP.dconst1), .second, .val (.int (1 : Int32))] []))
      refine own_to (fun t k => XS.iload X44.here hx rfl (hb hby at_149) rfl k) ?_
      show own_Fin _ _ _ _ _ _ (T44.setTop (mkF m 151 #[.val (.int p1), .val (.int p2), .val (.int p3), .val (.int p4), .val (.int (0 : Int32)), .val (.int (1 : Int32)), .val (.ref wC), .val (.ref b), .val (.double FP.dconst1), .second, .val (.int (1 : Int32))] [(.int (1 : Int32))]))
      refine own_to (fun t k => XS.iconst X44.here hx rfl (hb hby at_151) k) ?_
      show own_Fin _ _ _ _ _ _ (T44.setTop (mkF m 152 #[.val (.int p1), .val (.int p2), .val (.int p3), .val (.int p4), .val (.int (0 : Int32)), .val (.int (1 : Int32)), .val (.ref wC), .val (.ref b), .val (.double FP.dconst1), .second, .val (.int (1 : Int32))] [(.int (1 : Int32)), (.int (1 : Int32))]))
      refine own_to (fun t k => XS.icmpYes X44.here hx rfl (pc0 := 152) (pc' := 177) rfl (hb hby at_152) rfl (flt (Int32.lt_irrefl)).2.2.2 (by decide) (by decide) k) ?_
      show own_Fin _ _ _ _ _ _ (T44.setTop (mkF m 177 #[.val (.int p1), .val (.int p2), .val (.int p3), .val (.int p4), .val (.int (0 : Int32)), .val (.int (1 : Int32)), .val (.ref wC), .val (.ref b), .val (.double FP.dconst1), .second, .val (.int (1 : Int32))] []))
      refine own_to (fun t k => XS.iload X44.here hx rfl (hb hby at_177) rfl k) ?_
      show own_Fin _ _ _ _ _ _ (T44.setTop (mkF m 179 #[.val (.int p1), .val (.int p2), .val (.int p3), .val (.int p4), .val (.int (0 : Int32)), .val (.int (1 : Int32)), .val (.ref wC), .val (.ref b), .val (.double FP.dconst1), .second, .val (.int (1 : Int32))] [(.int (1 : Int32))]))
      refine own_to (fun t k => XS.iconst X44.here hx rfl (hb hby at_179) k) ?_
      show own_Fin _ _ _ _ _ _ (T44.setTop (mkF m 180 #[.val (.int p1), .val (.int p2), .val (.int p3), .val (.int p4), .val (.int (0 : Int32)), .val (.int (1 : Int32)), .val (.ref wC), .val (.ref b), .val (.double FP.dconst1), .second, .val (.int (1 : Int32))] [(.int (2 : Int32)), (.int (1 : Int32))]))
      refine own_to (fun t k => XS.icmpYes X44.here hx rfl (pc0 := 180) (pc' := 205) rfl (hb hby at_180) rfl (flt (by decide)).2.2.2 (by decide) (by decide) k) ?_
      show own_Fin _ _ _ _ _ _ (T44.setTop (mkF m 205 #[.val (.int p1), .val (.int p2), .val (.int p3), .val (.int p4), .val (.int (0 : Int32)), .val (.int (1 : Int32)), .val (.ref wC), .val (.ref b), .val (.double FP.dconst1), .second, .val (.int (1 : Int32))] []))
      refine own_to (fun t k => XS.iload X44.here hx rfl (hb hby at_205) rfl k) ?_
      show own_Fin _ _ _ _ _ _ (T44.setTop (mkF m 207 #[.val (.int p1), .val (.int p2), .val (.int p3), .val (.int p4), .val (.int (0 : Int32)), .val (.int (1 : Int32)), .val (.ref wC), .val (.ref b), .val (.double FP.dconst1), .second, .val (.int (1 : Int32))] [(.int (1 : Int32))]))
      refine own_retN X44 hx hlk (t := .boolean) hret (by simp) (hb hby at_207) (by decide) (by decide) ?_
      try rw [eh44]
      exact ⟨rfl, N44⟩
    ·
      rw [hl]
      show own_Fin _ _ _ _ _ _ (T35.setTop (mkF m 38 #[.val (.int p1), .val (.int p2), .val (.int p3), .val (.int p4), .val (.int (0 : Int32)), .val (.int (2 : Int32)), .val (.ref wC), .unset, .unset, .unset, .unset] [(.int (2 : Int32))]))
      obtain ⟨T48, h48, k48, X48, e48, E48, A48, A48x, st48⟩ := newPE X35 hx hZ (hw _ (List.mem_of_getElem? (i := 3) rfl)) e35 (g := (mkF m 38 #[.val (.int p1), .val (.int p2), .val (.int p3), .val (.int p4), .val (.int (0 : Int32)), .val (.int (2 : Int32)), .val (.ref wC), .unset, .unset, .unset, .unset] [(.int (2 : Int32))])) rfl (hb hby at_38) rfl (by decide) (cap := 2) (by decide) (by decide) (by decide) (by decide) (ad := "[D") (by decide)
      obtain ⟨b, q48⟩ : ∃ z, z = h0.size := ⟨_, rfl⟩
      rw [← q48] at A48 A48x st48
      have ne_wP_b : wP ≠ b := Nat.ne_of_lt (Nat.lt_of_lt_of_le EP.lt (Nat.le_of_eq q48.symm))
      have ne_wC_b : wC ≠ b := Nat.ne_of_lt (Nat.lt_of_lt_of_le EC.lt (Nat.le_of_eq q48.symm))
      have g_b : n0 ≤ b := Nat.le_trans Z0 (Nat.le_of_eq q48.symm)
      have O48 := O0.ext E48
      have EP_e48 := EP.ext E48
      have EC_e48 := EC.ext E48
      have V48 := Arv.new A48 (by decide)
      refine own_to (fun t k => st48 t k) ?_
      show own_Fin _ _ _ _ _ _ (T48.setTop (mkF m 40 #[.val (.int p1), .val (.int p2), .val (.int p3), .val (.int p4), .val (.int (0 : Int32)), .val (.int (2 : Int32)), .val (.ref wC), .unset, .unset, .unset, .unset] [(.ref b)]))
      have V49p : Arv Z h48 b k48 .double (2 : Int32) [(.double (0 : UInt64)), (.double (0 : UInt64))] (.double (0 : UInt64)) := V48.pad (pad_rep [] (.double (0 : UInt64)) 2)
      refine own_to (fun t k => XS.astore X48.here hx rfl (hb hby at_40) rfl rfl (l' := #[.val (.int p1), .val (.int p2), .val (.int p3), .val (.int p4), .val (.int (0 : Int32)), .val (.int (2 : Int32)), .val (.ref wC), .val (.ref b), .unset, .unset, .unset]) rfl k) ?_
      show own_Fin _ _ _ _ _ _ (T48.setTop (mkF m 42 #[.val (.int p1), .val (.int p2), .val (.int p3), .val (.int p4), .val (.int (0 : Int32)), .val (.int (2 : Int32)), .val (.ref wC), .val (.ref b), .unset, .unset, .unset] []))
      refine own_to (fun t k => XS.iload X48.here hx rfl (hb hby at_42) rfl k) ?_
      show own_Fin _ _ _ _ _ _ (T48.setTop (mkF m 44 #[.val (.int p1), .val (.int p2), .val (.int p3), .val (.int p4), .val (.int (0 : Int32)), .val (.int (2 : Int32)), .val (.ref wC), .val (.ref b), .unset, .unset, .unset] [(.int (0 : Int32))]))
      refine own_to (fun t k => XS.ifYes X48.here hx rfl (pc0 := 44) (pc' := 53) rfl (hb hby at_44) rfl ((if0 _ _).trans (teq rfl).1) (by decide) (by decide) k) ?_
      show own_Fin _ _ _ _ _ _ (T48.setTop (mkF m 53 #[.val (.int p1), .val (.int p2), .val (.int p3), .val (.int p4), .val (.int (0 : Int32)), .val (.int (2 : Int32)), .val (.ref wC), .val (.ref b), .unset, .unset, .unset] []))
      refine own_to (fun t k => XS.dconst1 X48.here hx rfl (hb hby at_53) rfl k) ?_
      show own_Fin _ _ _ _ _ _ (T48.setTop (mkF m 54 #[.val (.int p1), .val (.int p2), .val (.int p3), .val (.int p4), .val (.int (0 : Int32)), .val (.int (2 : Int32)), .val (.ref wC), .val (.ref b), .unset, .unset, .unset] [(.double FP.dconst1)]))
      refine own_to (fun t k => XS.dstore X48.here hx rfl (hb hby at_54) rfl (l' := #[.val (.int p1), .val (.int p2), .val (.int p3), .val (.int p4), .val (.int (0 : Int32)), .val (.int (2 : Int32)), .val (.ref wC), .val (.ref b), .val (.double FP.dconst1), .second, .unset]) rfl k) ?_
      show own_Fin _ _ _ _ _ _ (T48.setTop (mkF m 56 #[.val (.int p1), .val (.int p2), .val (.int p3), .val (.int p4), .val (.int (0 : Int32)), .val (.int (2 : Int32)), .val (.ref wC), .val (.ref b), .val (.double FP.dconst1), .second, .unset] []))
      refine own_to (fun t k => XS.iload X48.here hx rfl (hb hby at_56) rfl k) ?_
      show own_Fin _ _ _ _ _ _ (T48.setTop (mkF m 58 #[.val (.int p1), .val (.int p2), .val (.int p3), .val (.int p4), .val (.int (0 : Int32)), .val (.int (2 : Int32)), .val (.ref wC), .val (.ref b), .val (.double FP.dconst1), .second, .unset] [(.int (2 : Int32))]))
      refine own_to (fun t k => XS.ifNo X48.here hx rfl (hb hby at_58) rfl ((if0 _ _).trans (tlt (by decide)).2.2.2) k) ?_
      show own_Fin _ _ _ _ _ _ (T48.setTop (mkF m 61 #[.val (.int p1), .val (.int p2), .val (.int p3), .val (.int p4), .val (.int (0 : Int32)), .val (.int (2 : Int32)), .val (.ref wC), .val (.ref b), .val (.double FP.dconst1), .second, .unset] []))
      refine own_to (fun t k => XS.aload X48.here hx rfl (hb hby at_61) rfl rfl k) ?_
      show own_Fin _ _ _ _ _ _ (T48.setTop (mkF m 63 #[.val (.int p1), .val (.int p2), .val (.int p3), .val (.int p4), .val (.int (0 : Int32)), .val (.int (2 : Int32)), .val (.ref wC), .val (.ref b), .val (.double FP.dconst1), .second, .unset] [(.ref b)]))
      refine own_to (fun t k => XS.iconst X48.here hx rfl (hb hby at_63) k) ?_
      show own_Fin _ _ _ _ _ _ (T48.setTop (mkF m 64 #[.val (.int p1), .val (.int p2), .val (.int p3), .val (.int p4), .val (.int (0 : Int32)), .val (.int (2 : Int32)), .val (.ref wC), .val (.ref b), .val (.double FP.dconst1), .second, .unset] [(.int (0 : Int32)), (.ref b)]))
      refine own_to (fun t k => XS.iloadN X48.here hx rfl (hb hby at_64) rfl k) ?_
      show own_Fin _ _ _ _ _ _ (T48.setTop (mkF m 65 #[.val (.int p1), .val (.int p2), .val (.int p3), .val (.int p4), .val (.int (0 : Int32)), .val (.int (2 : Int32)), .val (.ref wC), .val (.ref b), .val (.double FP.dconst1), .second, .unset] [(.int p1), (.int (0 : Int32)), (.ref b)]))
      refine own_to (fun t k => XS.i2dS X48.here hx rfl (hb hby at_65) rfl rfl k) ?_
      show own_Fin _ _ _ _ _ _ (T48.setTop (mkF m 66 #[.val (.int p1), .val (.int p2), .val (.int p3), .val (.int p4), .val (.int (0 : Int32)), .val (.int (2 : Int32)), .val (.ref wC), .val (.ref b), .val (.double FP.dconst1), .second, .unset] [(.double (FP.i2d p1)), (.int (0 : Int32)), (.ref b)]))
      refine own_to (fun t k => XS.dload X48.here hx rfl (hb hby at_66) rfl k) ?_
      show own_Fin _ _ _ _ _ _ (T48.setTop (mkF m 68 #[.val (.int p1), .val (.int p2), .val (.int p3), .val (.int p4), .val (.int (0 : Int32)), .val (.int (2 : Int32)), .val (.ref wC), .val (.ref b), .val (.double FP.dconst1), .second, .unset] [(.double FP.dconst1), (.double (FP.i2d p1)), (.int (0 : Int32)), (.ref b)]))
      refine own_to (fun t k => XS.dmulS X48.here hx rfl (hb hby at_68) rfl (by rw [own_mul1 p1]; exact own_ni _) (own_mul1 p1) k) ?_
      show own_Fin _ _ _ _ _ _ (T48.setTop (mkF m 69 #[.val (.int p1), .val (.int p2), .val (.int p3), .val (.int p4), .val (.int (0 : Int32)), .val (.int (2 : Int32)), .val (.ref wC), .val (.ref b), .val (.double FP.dconst1), .second, .unset] [(.double (FP.i2d p1)), (.int (0 : Int32)), (.ref b)]))
      obtain ⟨cl50, Ar50, qa50, Sa50, Na50, Ha50, Ga50⟩ := id V49p
      have hin51 : ¬ ((0 : Int32) < 0 ∨ cl50.slots.size ≤ ((0 : Int32)).toNatClampNeg) := inb_of Sa50 ⟨by decide, by decide⟩
      obtain ⟨T51, h51, X51, e51, W51, st51⟩ := stD X48 hx hZ e48 Ar50 (j := (0 : Int32)) hin51 (g := (mkF m 69 #[.val (.int p1), .val (.int p2), .val (.int p3), .val (.int p4), .val (.int (0 : Int32)), .val (.int (2 : Int32)), .val (.ref wC), .val (.ref b), .val (.double FP.dconst1), .second, .unset] [(.double (FP.i2d p1)), (.int (0 : Int32)), (.ref b)])) rfl rfl (hb hby at_69)
      have N51 := Fr.snoc X51 N0 g_b
      have O51 := O48.wr W51 g_b
      have EP_e51 := EP_e48.wr W51
      have EC_e51 := EC_e48.wr W51
      have A48x_e51 := A48x.wr W51
      have V51 : Arv Z h51 b k48 .double (2 : Int32) [(.double (FP.i2d p1)), (.double (0 : UInt64))] (.double (0 : UInt64)) := Arv.set Ar50 qa50 Sa50 Na50 Ha50 Ga50 rfl W51 0 rfl (Nat.le_of_ble_eq_true rfl)
      refine own_to (fun t k => st51 t k) ?_
      show own_Fin _ _ _ _ _ _ (T51.setTop (mkF m 70 #[.val (.int p1), .val (.int p2), .val (.int p3), .val (.int p4), .val (.int (0 : Int32)), .val (.int (2 : Int32)), .val (.ref wC), .val (.ref b), .val (.double FP.dconst1), .second, .unset] []))
      refine own_to (fun t k => XS.iload X51.here hx rfl (hb hby at_70) rfl k) ?_
      show own_Fin _ _ _ _ _ _ (T51.setTop (mkF m 72 #[.val (.int p1), .val (.int p2), .val (.int p3), .val (.int p4), .val (.int (0 : Int32)), .val (.int (2 : Int32)), .val (.ref wC), .val (.ref b), .val (.double FP.dconst1), .second, .unset] [(.int (2 : Int32))]))
      refine own_to (fun t k => XS.iconst X51.here hx rfl (hb hby at_72) k) ?_
      show own_Fin _ _ _ _ _ _ (T51.setTop (mkF m 73 #[.val (.int p1), .val (.int p2), .val (.int p3), .val (.int p4), .val (.int (0 : Int32)), .val (.int (2 : Int32)), .val (.ref wC), .val (.ref b), .val (.double FP.dconst1), .second, .unset] [(.int (1 : Int32)), (.int (2 : Int32))]))
      refine own_to (fun t k => XS.icmpNo X51.here hx rfl (hb hby at_73) rfl (tlt (by decide)).2.2.2 k) ?_
      show own_Fin _ _ _ _ _ _ (T51.setTop (mkF m 76 #[.val (.int p1), .val (.int p2), .val (.int p3), .val (.int p4), .val (.int (0 : Int32)), .val (.int (2 : Int32)), .val (.ref wC), .val (.ref b), .val (.double FP.dconst1), .second, .unset] []))
      refine own_to (fun t k => XS.aload X51.here hx rfl (hb hby at_76) rfl rfl k) ?_
      show own_Fin _ _ _ _ _ _ (T51.setTop (mkF m 78 #[.val (.int p1), .val (.int p2), .val (.int p3), .val (.int p4), .val (.int (0 : Int32)), .val (.int (2 : Int32)), .val (.ref wC), .val (.ref b), .val (.double FP.dconst1), .second, .unset] [(.ref b)]))
      refine own_to (fun t k => XS.iconst X51.here hx rfl (hb hby at_78) k) ?_
      show own_Fin _ _ _ _ _ _ (T51.setTop (mkF m 79 #[.val (.int p1), .val (.int p2), .val (.int p3), .val (.int p4), .val (.int (0 : Int32)), .val (.int (2 : Int32)), .val (.ref wC), .val (.ref b), .val (.double FP.dconst1), .second, .unset] [(.int (1 : Int32)), (.ref b)]))
      refine own_to (fun t k => XS.iloadN X51.here hx rfl (hb hby at_79) rfl k) ?_
      show own_Fin _ _ _ _ _ _ (T51.setTop (mkF m 80 #[.val (.int p1), .val (.int p2), .val (.int p3), .val (.int p4), .val (.int (0 : Int32)), .val (.int (2 : Int32)), .val (.ref wC), .val (.ref b), .val (.double FP.dconst1), .second, .unset] [(.int p2), (.int (1 : Int32)), (.ref b)]))
      refine own_to (fun t k => XS.i2dS X51.here hx rfl (hb hby at_80) rfl rfl k) ?_
      show own_Fin _ _ _ _ _ _ (T51.setTop (mkF m 81 #[.val (.int p1), .val (.int p2), .val (.int p3), .val (.int p4), .val (.int (0 : Int32)), .val (.int (2 : Int32)), .val (.ref wC), .val (.ref b), .val (.double FP.dconst1), .second, .unset] [(.double (FP.i2d p2)), (.int (1 : Int32)), (.ref b)]))
      refine own_to (fun t k => XS.dload X51.here hx rfl (hb hby at_81) rfl k) ?_
      show own_Fin _ _ _ _ _ _ (T51.setTop (mkF m 83 #[.val (.int p1), .val (.int p2), .val (.int p3), .val (.int p4), .val (.int (0 : Int32)), .val (.int (2 : Int32)), .val (.ref wC), .val (.ref b), .val (.double FP.dconst1), .second, .unset] [(.double FP.dconst1), (.double (FP.i2d p2)), (.int (1 : Int32)), (.ref b)]))
      refine own_to (fun t k => XS.dmulS X51.here hx rfl (hb hby at_83) rfl (by rw [own_mul1 p2]; exact own_ni _) (own_mul1 p2) k) ?_
      show own_Fin _ _ _ _ _ _ (T51.setTop (mkF m 84 #[.val (.int p1), .val (.int p2), .val (.int p3), .val (.int p4), .val (.int (0 : Int32)), .val (.int (2 : Int32)), .val (.ref wC), .val (.ref b), .val (.double FP.dconst1), .second, .unset] [(.double (FP.i2d p2)), (.int (1 : Int32)), (.ref b)]))
      obtain ⟨cl52, Ar52, qa52, Sa52, Na52, Ha52, Ga52⟩ := id V51
      have hin53 : ¬ ((1 : Int32) < 0 ∨ cl52.slots.size ≤ ((1 : Int32)).toNatClampNeg) := inb_of Sa52 ⟨by decide, by decide⟩
      obtain ⟨T53, h53, X53, e53, W53, st53⟩ := stD X51 hx hZ e51 Ar52 (j := (1 : Int32)) hin53 (g := (mkF m 84 #[.val (.int p1), .val (.int p2), .val (.int p3), .val (.int p4), .val (.int (0 : Int32)), .val (.int (2 : Int32)), .val (.ref wC), .val (.ref b), .val (.double FP.dconst1), .second, .unset] [(.double (FP.i2d p2)), (.int (1 : Int32)), (.ref b)])) rfl rfl (hb hby at_84)
      have N53 := Fr.snoc X53 N51 g_b
      have O53 := O51.wr W53 g_b
      have EP_e53 := EP_e51.wr W53
      have EC_e53 := EC_e51.wr W53
      have A48x_e53 := A48x_e51.wr W53
      have V53 : Arv Z h53 b k48 .double (2 : Int32) [(.double (FP.i2d p1)), (.double (FP.i2d p2))] (.double (0 : UInt64)) := Arv.set Ar52 qa52 Sa52 Na52 Ha52 Ga52 rfl W53 1 rfl (Nat.le_of_ble_eq_true rfl)
      refine own_to (fun t k => st53 t k) ?_
      show own_Fin _ _ _ _ _ _ (T53.setTop (mkF m 85 #[.val (.int p1), .val (.int p2), .val (.int p3), .val (.int p4), .val (.int (0 : Int32)), .val (.int (2 : Int32)), .val (.ref wC), .val (.ref b), .val (.double FP.dconst1), .second, .unset] []))
      refine own_to (fun t k => XS.iload X53.here hx rfl (hb hby at_85) rfl k) ?_
      show own_Fin _ _ _ _ _ _ (T53.setTop (mkF m 87 #[.val (.int p1), .val (.int p2), .val (.int p3), .val (.int p4), .val (.int (0 : Int32)), .val (.int (2 : Int32)), .val (.ref wC), .val (.ref b), .val (.double FP.dconst1), .second, .unset] [(.int (2 : Int32))]))
      refine own_to (fun t k => XS.iconst X53.here hx rfl (hb hby at_87) k) ?_
      show own_Fin _ _ _ _ _ _ (T53.setTop (mkF m 88 #[.val (.int p1), .val (.int p2), .val (.int p3), .val (.int p4), .val (.int (0 : Int32)), .val (.int (2 : Int32)), .val (.ref wC), .val (.ref b), .val (.double FP.dconst1), .second, .unset] [(.int (2 : Int32)), (.int (2 : Int32))]))
      refine own_to (fun t k => XS.icmpYes X53.here hx rfl (pc0 := 88) (pc' := 100) rfl (hb hby at_88) rfl (flt (Int32.lt_irrefl)).2.2.2 (by decide) (by decide) k) ?_
      show own_Fin _ _ _ _ _ _ (T53.setTop (mkF m 100 #[.val (.int p1), .val (.int p2), .val (.int p3), .val (.int p4), .val (.int (0 : Int32)), .val (.int (2 : Int32)), .val (.ref wC), .val (.ref b), .val (.double FP.dconst1), .second, .unset] []))
      refine own_to (fun t k => XS.aload X53.here hx rfl (hb hby at_100) rfl rfl k) ?_
      show own_Fin _ _ _ _ _ _ (T53.setTop (mkF m 102 #[.val (.int p1), .val (.int p2), .val (.int p3), .val (.int p4), .val (.int (0 : Int32)), .val (.int (2 : Int32)), .val (.ref wC), .val (.ref b), .val (.double FP.dconst1), .second, .unset] [(.ref wC)]))
      refine own_to (fun t k => XS.aload X53.here hx rfl (hb hby at_102) rfl rfl k) ?_
      show own_Fin _ _ _ _ _ _ (T53.setTop (mkF m 104 #[.val (.int p1), .val (.int p2), .val (.int p3), .val (.int p4), .val (.int (0 : Int32)), .val (.int (2 : Int32)), .val (.ref wC), .val (.ref b), .val (.double FP.dconst1), .second, .unset] [(.ref b), (.ref wC)]))
      obtain ⟨cq54, kq54, q54a, q54b, q54c⟩ := isOf hZ e53 EC_e53
      obtain ⟨_, _, ⟨T54, L54, k54, n54⟩, -, X54, ⟨Lc54, hQ54, l54, y54, z54⟩, st54⟩ := X53.virtualBack hx (y := (⟨"com/example/walk_to_worth/walktoworth/solver/Scale", "rescale", "([D)V"⟩ : MethodName)) (z := (⟨"com/example/walk_to_worth/walktoworth/solver/Scale", "rescale", "([D)V"⟩ : MethodName)) hown (mvT hZ (hw _ (List.mem_of_getElem? (i := 4) rfl))) (mvT hZ (hw _ (List.mem_of_getElem? (i := 5) rfl))) (notFace_of_selects (args := #[]) (mvT hZ (hw _ (List.mem_of_getElem? (i := 7) rfl)))) (mvT hZ (hw _ (List.mem_of_getElem? (i := 7) rfl))) (mvT hZ (hw _ (List.mem_of_getElem? (i := 6) rfl))) (by decide) (own_back (W := 0) (own_resC l Z a0 hw [] wP wC b h53 n0 (Nat.le_trans (Nat.le_trans (Nat.le_trans Z0 E48.1) (Keep.of_wr W51).1) (Keep.of_wr W53).1) O53 SS neC) hZ (hw _ (List.mem_of_getElem? (i := 8) rfl)) (hw _ (List.mem_of_getElem? (i := 1) rfl)) (by decide) (by decide)) q54a q54c (g := (mkF m 104 #[.val (.int p1), .val (.int p2), .val (.int p3), .val (.int p4), .val (.int (0 : Int32)), .val (.int (2 : Int32)), .val (.ref wC), .val (.ref b), .val (.double FP.dconst1), .second, .unset] [(.ref b), (.ref wC)])) rfl (by rw [hml]; rfl) (Steps.refl _) (argsL := [(.ref b)]) (rest := []) (lenOf own_pd0 rfl) rfl (by show 2 * 0 + _ ≤ _; exact Nat.le_of_eq rfl) (hb hby at_104) (fun _ _ => ⟨rfl, e53, (by decide : 1 + 0 ≤ _), (by decide : 2 + 0 ≤ _)⟩)
      dsimp only [Pt.U, Pt.locs, Pt.cells, Pt.slots] at X54 l54 y54 z54 st54 hQ54
      subst l54 y54 z54
      obtain ⟨rfl, N54q, eh54⟩ := hQ54
      have N54 := Fr.app N53 N54q
      refine own_to (fun t k => st54.trans k) ?_
      show own_Fin _ _ _ _ _ _ (T54.setTop (mkF m 107 #[.val (.int p1), .val (.int p2), .val (.int p3), .val (.int p4), .val (.int (0 : Int32)), .val (.int (2 : Int32)), .val (.ref wC), .val (.ref b), .val (.double FP.dconst1), .second, .unset] []))
      refine own_to (fun t k => XS.aload X54.here hx rfl (hb hby at_107) rfl rfl k) ?_
      show own_Fin _ _ _ _ _ _ (T54.setTop (mkF m 109 #[.val (.int p1), .val (.int p2), .val (.int p3), .val (.int p4), .val (.int (0 : Int32)), .val (.int (2 : Int32)), .val (.ref wC), .val (.ref b), .val (.double FP.dconst1), .second, .unset] [(.ref b)]))
      obtain ⟨cl55, Ar55, qa55, Sa55, Na55, Ha55, Ga55⟩ := id V53
      refine own_to (fun t k => X54.arraylength hx (by rw [eh54]; exact Ar55.1) (State.isArrayOf_alike hZ.alike Ar55.2.1) (g := (mkF m 109 #[.val (.int p1), .val (.int p2), .val (.int p3), .val (.int p4), .val (.int (0 : Int32)), .val (.int (2 : Int32)), .val (.ref wC), .val (.ref b), .val (.double FP.dconst1), .second, .unset] [(.ref b)])) rfl rfl (hb hby at_109) _ k) ?_
      rw [len_of Sa55 Na55]
      show own_Fin _ _ _ _ _ _ (T54.setTop (mkF m 110 #[.val (.int p1), .val (.int p2), .val (.int p3), .val (.int p4), .val (.int (0 : Int32)), .val (.int (2 : Int32)), .val (.ref wC), .val (.ref b), .val (.double FP.dconst1), .second, .unset] [(.int (2 : Int32))]))
      refine own_to (fun t k => XS.iload X54.here hx rfl (hb hby at_110) rfl k) ?_
      show own_Fin _ _ _ _ _ _ (T54.setTop (mkF m 112 #[.val (.int p1), .val (.int p2), .val (.int p3), .val (.int p4), .val (.int (0 : Int32)), .val (.int (2 : Int32)), .val (.ref wC), .val (.ref b), .val (.double FP.dconst1), .second, .unset] [(.int (2 : Int32)), (.int (2 : Int32))]))
      refine own_to (fun t k => XS.icmpNo X54.here hx rfl (hb hby at_112) rfl (teq rfl).2 k) ?_
      show own_Fin _ _ _ _ _ _ (T54.setTop (mkF m 115 #[.val (.int p1), .val (.int p2), .val (.int p3), .val (.int p4), .val (.int (0 : Int32)), .val (.int (2 : Int32)), .val (.ref wC), .val (.ref b), .val (.double FP.dconst1), .second, .unset] []))
      refine own_to (fun t k => XS.iconst X54.here hx rfl (hb hby at_115) k) ?_
      show own_Fin _ _ _ _ _ _ (T54.setTop (mkF m 116 #[.val (.int p1), .val (.int p2), .val (.int p3), .val (.int p4), .val (.int (0 : Int32)), .val (.int (2 : Int32)), .val (.ref wC), .val (.ref b), .val (.double FP.dconst1), .second, .unset] [(.int (1 : Int32))]))
      refine own_to (fun t k => XS.goto X54.here hx rfl (pc0 := 116) (pc' := 120) rfl (hb hby at_116) (by decide) (by decide) k) ?_
      show own_Fin _ _ _ _ _ _ (T54.setTop (mkF m 120 #[.val (.int p1), .val (.int p2), .val (.int p3), .val (.int p4), .val (.int (0 : Int32)), .val (.int (2 : Int32)), .val (.ref wC), .val (.ref b), .val (.double FP.dconst1), .second, .unset] [(.int (1 : Int32))]))
      refine own_to (fun t k => XS.istore X54.here hx rfl (hb hby at_120) rfl (l' := #[.val (.int p1), .val (.int p2), .val (.int p3), .val (.int p4), .val (.int (0 : Int32)), .val (.int (2 : Int32)), .val (.ref wC), .val (.ref b), .val (.double FP.dconst1), .second, .val (.int (1 : Int32))]) rfl k) ?_
      show own_Fin _ _ _ _ _ _ (T54.setTop (mkF m 122 #[.val (.int p1), .val (.int p2), .val (.int p3), .val (.int p4), .val (.int (0 : Int32)), .val (.int (2 : Int32)), .val (.ref wC), .val (.ref b), .val (.double FP.dconst1), .second, .val (.int (1 : Int32))] []))
      refine own_to (fun t k => XS.iload X54.here hx rfl (hb hby at_122) rfl k) ?_
      show own_Fin _ _ _ _ _ _ (T54.setTop (mkF m 124 #[.val (.int p1), .val (.int p2), .val (.int p3), .val (.int p4), .val (.int (0 : Int32)), .val (.int (2 : Int32)), .val (.ref wC), .val (.ref b), .val (.double FP.dconst1), .second, .val (.int (1 : Int32))] [(.int (2 : Int32))]))
      refine own_to (fun t k => XS.ifNo X54.here hx rfl (hb hby at_124) rfl ((if0 _ _).trans (tlt (by decide)).2.2.2) k) ?_
      show own_Fin _ _ _ _ _ _ (T54.setTop (mkF m 127 #[.val (.int p1), .val (.int p2), .val (.int p3), .val (.int p4), .val (.int (0 : Int32)), .val (.int (2 : Int32)), .val (.ref wC), .val (.ref b), .val (.double FP.dconst1), .second, .val (.int (1 : Int32))] []))
      refine own_to (fun t k => XS.iload X54.here hx rfl (hb hby at_127) rfl k) ?_
      show own_Fin _ _ _ _ _ _ (T54.setTop (mkF m 129 #[.val (.int p1), .val (.int p2), .val (.int p3), .val (.int p4), .val (.int (0 : Int32)), .val (.int (2 : Int32)), .val (.ref wC), .val (.ref b), .val (.double FP.dconst1), .second, .val (.int (1 : Int32))] [(.int (1 : Int32))]))
      refine own_to (fun t k => XS.ifNo X54.here hx rfl (hb hby at_129) rfl ((if0 _ _).trans (feq (by decide)).1) k) ?_
      show own_Fin _ _ _ _ _ _ (T54.setTop (mkF m 132 #[.val (.int p1), .val (.int p2), .val (.int p3), .val (.int p4), .val (.int (0 : Int32)), .val (.int (2 : Int32)), .val (.ref wC), .val (.ref b), .val (.double FP.dconst1), .second, .val (.int (1 : Int32))] []))
      refine own_to (fun t k => XS.aload X54.here hx rfl (hb hby at_132) rfl rfl k) ?_
      show own_Fin _ _ _ _ _ _ (T54.setTop (mkF m 134 #[.val (.int p1), .val (.int p2), .val (.int p3), .val (.int p4), .val (.int (0 : Int32)), .val (.int (2 : Int32)), .val (.ref wC), .val (.ref b), .val (.double FP.dconst1), .second, .val (.int (1 : Int32))] [(.ref b)]))
      refine own_to (fun t k => XS.iconst X54.here hx rfl (hb hby at_134) k) ?_
      show own_Fin _ _ _ _ _ _ (T54.setTop (mkF m 135 #[.val (.int p1), .val (.int p2), .val (.int p3), .val (.int p4), .val (.int (0 : Int32)), .val (.int (2 : Int32)), .val (.ref wC), .val (.ref b), .val (.double FP.dconst1), .second, .val (.int (1 : Int32))] [(.int (0 : Int32)), (.ref b)]))
      obtain ⟨cl56, Ar56, qa56, Sa56, Na56, Ha56, Ga56⟩ := id V53
      have hin57 : ¬ ((0 : Int32) < 0 ∨ cl56.slots.size ≤ ((0 : Int32)).toNatClampNeg) := inb_of Sa56 ⟨by decide, by decide⟩
      refine own_to (fun t k => X54.daload hx (j := (0 : Int32)) (v := (.double (FP.i2d p1))) (by rw [eh54]; exact Ar56.1) (State.isArrayOf_alike hZ.alike Ar56.2.1) Ar56.2.2 hin57 (Has.at Ha56 hin57 rfl) (g := (mkF m 135 #[.val (.int p1), .val (.int p2), .val (.int p3), .val (.int p4), .val (.int (0 : Int32)), .val (.int (2 : Int32)), .val (.ref wC), .val (.ref b), .val (.double FP.dconst1), .second, .val (.int (1 : Int32))] [(.int (0 : Int32)), (.ref b)])) rfl rfl (hb hby at_135) _ k) ?_
      show own_Fin _ _ _ _ _ _ (T54.setTop (mkF m 136 #[.val (.int p1), .val (.int p2), .val (.int p3), .val (.int p4), .val (.int (0 : Int32)), .val (.int (2 : Int32)), .val (.ref wC), .val (.ref b), .val (.double FP.dconst1), .second, .val (.int (1 : Int32))] [(.double (FP.i2d p1))]))
      refine own_to (fun t k => XS.iloadN X54.here hx rfl (hb hby at_136) rfl k) ?_
      show own_Fin _ _ _ _ _ _ (T54.setTop (mkF m 137 #[.val (.int p1), .val (.int p2), .val (.int p3), .val (.int p4), .val (.int (0 : Int32)), .val (.int (2 : Int32)), .val (.ref wC), .val (.ref b), .val (.double FP.dconst1), .second, .val (.int (1 : Int32))] [(.int p1), (.double (FP.i2d p1))]))
      refine own_to (fun t k => XS.i2dS X54.here hx rfl (hb hby at_137) rfl rfl k) ?_
      show own_Fin _ _ _ _ _ _ (T54.setTop (mkF m 138 #[.val (.int p1), .val (.int p2), .val (.int p3), .val (.int p4), .val (.int (0 : Int32)), .val (.int (2 : Int32)), .val (.ref wC), .val (.ref b), .val (.double FP.dconst1), .second, .val (.int (1 : Int32))] [(.double (FP.i2d p1)), (.double (FP.i2d p1))]))
      refine own_to (fun t k => XS.dcmpS X54.here hx rfl (hb hby at_138) rfl rfl k) ?_
      show own_Fin _ _ _ _ _ _ (T54.setTop (mkF m 139 #[.val (.int p1), .val (.int p2), .val (.int p3), .val (.int p4), .val (.int (0 : Int32)), .val (.int (2 : Int32)), .val (.ref wC), .val (.ref b), .val (.double FP.dconst1), .second, .val (.int (1 : Int32))] [(.int (cmpValue (FP.dcmp (FP.i2d p1) (FP.i2d p1)) .l))]))
      refine own_to (fun t k => XS.ifNo X54.here hx rfl (hb hby at_139) rfl ((if0 _ _).trans (teq (own_same p1)).2) k) ?_
      show own_Fin _ _ _ _ _ _ (T54.setTop (mkF m 142 #[.val (.int p1), .val (.int p2), .val (.int p3), .val (.int p4), .val (.int (0 : Int32)), .val (.int (2 : Int32)), .val (.ref wC), .val (.ref b), .val (.double FP.dconst1), .second, .val (.int (1 : Int32))] []))
      refine own_to (fun t k => XS.iconst X54.here hx rfl (hb hby at_142) k) ?_
      show own_Fin _ _ _ _ _ _ (T54.setTop (mkF m 143 #[.val (.int p1), .val (.int p2), .val (.int p3), .val (.int p4), .val (.int (0 : Int32)), .val (.int (2 : Int32)), .val (.ref wC), .val (.ref b), .val (.double FP.dconst1), .second, .val (.int (1 : Int32))] [(.int (1 : Int32))]))
      refine own_to (fun t k => XS.goto X54.here hx rfl (pc0 := 143) (pc' := 147) rfl (hb hby at_143) (by decide) (by decide) k) ?_
      show own_Fin _ _ _ _ _ _ (T54.setTop (mkF m 147 #[.val (.int p1), .val (.int p2), .val (.int p3), .val (.int p4), .val (.int (0 : Int32)), .val (.int (2 : Int32)), .val (.ref wC), .val (.ref b), .val (.double FP.dconst1), .second, .val (.int (1 : Int32))] [(.int (1 : Int32))]))
      refine own_to (fun t k => XS.istore X54.here hx rfl (hb hby at_147) rfl (l' := #[.val (.int p1), .val (.int p2), .val (.int p3), .val (.int p4), .val (.int (0 : Int32)), .val (.int (2 : Int32)), .val (.ref wC), .val (.ref b), .val (.double FP.dconst1), .second, .val (.int (1 : Int32))]) rfl k) ?_
      show own_Fin _ _ _ _ _ _ (T54.setTop (mkF m 149 #[.val (.int p1), .val (.int p2), .val (.int p3), .val (.int p4), .val (.int (0 : Int32)), .val (.int (2 : Int32)), .val (.ref wC), .val (.ref b), .val (.double FP.dconst1), .second, .val (.int (1 : Int32))] []))
      refine own_to (fun t k => XS.iload X54.here hx rfl (hb hby at_149) rfl k) ?_
      show own_Fin _ _ _ _ _ _ (T54.setTop (mkF m 151 #[.val (.int p1), .val (.int p2), .val (.int p3), .val (.int p4), .val (.int (0 : Int32)), .val (.int (2 : Int32)), .val (.ref wC), .val (.ref b), .val (.double FP.dconst1), .second, .val (.int (1 : Int32))] [(.int (2 : Int32))]))
      refine own_to (fun t k => XS.iconst X54.here hx rfl (hb hby at_151) k) ?_
      show own_Fin _ _ _ _ _ _ (T54.setTop (mkF m 152 #[.val (.int p1), .val (.int p2), .val (.int p3), .val (.int p4), .val (.int (0 : Int32)), .val (.int (2 : Int32)), .val (.ref wC), .val (.ref b), .val (.double FP.dconst1), .second, .val (.int (1 : Int32))] [(.int (1 : Int32)), (.int (2 : Int32))]))
      refine own_to (fun t k => XS.icmpNo X54.here hx rfl (hb hby at_152) rfl (tlt (by decide)).2.2.2 k) ?_
      show own_Fin _ _ _ _ _ _ (T54.setTop (mkF m 155 #[.val (.int p1), .val (.int p2), .val (.int p3), .val (.int p4), .val (.int (0 : Int32)), .val (.int (2 : Int32)), .val (.ref wC), .val (.ref b), .val (.double FP.dconst1), .second, .val (.int (1 : Int32))] []))
      refine own_to (fun t k => XS.iload X54.here hx rfl (hb hby at_155) rfl k) ?_
      show own_Fin _ _ _ _ _ _ (T54.setTop (mkF m 157 #[.val (.int p1), .val (.int p2), .val (.int p3), .val (.int p4), .val (.int (0 : Int32)), .val (.int (2 : Int32)), .val (.ref wC), .val (.ref b), .val (.double FP.dconst1), .second, .val (.int (1 : Int32))] [(.int (1 : Int32))]))
      refine own_to (fun t k => XS.ifNo X54.here hx rfl (hb hby at_157) rfl ((if0 _ _).trans (feq (by decide)).1) k) ?_
      show own_Fin _ _ _ _ _ _ (T54.setTop (mkF m 160 #[.val (.int p1), .val (.int p2), .val (.int p3), .val (.int p4), .val (.int (0 : Int32)), .val (.int (2 : Int32)), .val (.ref wC), .val (.ref b), .val (.double FP.dconst1), .second, .val (.int (1 : Int32))] []))
      refine own_to (fun t k => XS.aload X54.here hx rfl (hb hby at_160) rfl rfl k) ?_
      show own_Fin _ _ _ _ _ _ (T54.setTop (mkF m 162 #[.val (.int p1), .val (.int p2), .val (.int p3), .val (.int p4), .val (.int (0 : Int32)), .val (.int (2 : Int32)), .val (.ref wC), .val (.ref b), .val (.double FP.dconst1), .second, .val (.int (1 : Int32))] [(.ref b)]))
      refine own_to (fun t k => XS.iconst X54.here hx rfl (hb hby at_162) k) ?_
      show own_Fin _ _ _ _ _ _ (T54.setTop (mkF m 163 #[.val (.int p1), .val (.int p2), .val (.int p3), .val (.int p4), .val (.int (0 : Int32)), .val (.int (2 : Int32)), .val (.ref wC), .val (.ref b), .val (.double FP.dconst1), .second, .val (.int (1 : Int32))] [(.int (1 : Int32)), (.ref b)]))
      obtain ⟨cl58, Ar58, qa58, Sa58, Na58, Ha58, Ga58⟩ := id V53
      have hin59 : ¬ ((1 : Int32) < 0 ∨ cl58.slots.size ≤ ((1 : Int32)).toNatClampNeg) := inb_of Sa58 ⟨by decide, by decide⟩
      refine own_to (fun t k => X54.daload hx (j := (1 : Int32)) (v := (.double (FP.i2d p2))) (by rw [eh54]; exact Ar58.1) (State.isArrayOf_alike hZ.alike Ar58.2.1) Ar58.2.2 hin59 (Has.at Ha58 hin59 rfl) (g := (mkF m 163 #[.val (.int p1), .val (.int p2), .val (.int p3), .val (.int p4), .val (.int (0 : Int32)), .val (.int (2 : Int32)), .val (.ref wC), .val (.ref b), .val (.double FP.dconst1), .second, .val (.int (1 : Int32))] [(.int (1 : Int32)), (.ref b)])) rfl rfl (hb hby at_163) _ k) ?_
      show own_Fin _ _ _ _ _ _ (T54.setTop (mkF m 164 #[.val (.int p1), .val (.int p2), .val (.int p3), .val (.int p4), .val (.int (0 : Int32)), .val (.int (2 : Int32)), .val (.ref wC), .val (.ref b), .val (.double FP.dconst1), .second, .val (.int (1 : Int32))] [(.double (FP.i2d p2))]))
      refine own_to (fun t k => XS.iloadN X54.here hx rfl (hb hby at_164) rfl k) ?_
      show own_Fin _ _ _ _ _ _ (T54.setTop (mkF m 165 #[.val (.int p1), .val (.int p2), .val (.int p3), .val (.int p4), .val (.int (0 : Int32)), .val (.int (2 : Int32)), .val (.ref wC), .val (.ref b), .val (.double FP.dconst1), .second, .val (.int (1 : Int32))] [(.int p2), (.double (FP.i2d p2))]))
      refine own_to (fun t k => XS.i2dS X54.here hx rfl (hb hby at_165) rfl rfl k) ?_
      show own_Fin _ _ _ _ _ _ (T54.setTop (mkF m 166 #[.val (.int p1), .val (.int p2), .val (.int p3), .val (.int p4), .val (.int (0 : Int32)), .val (.int (2 : Int32)), .val (.ref wC), .val (.ref b), .val (.double FP.dconst1), .second, .val (.int (1 : Int32))] [(.double (FP.i2d p2)), (.double (FP.i2d p2))]))
      refine own_to (fun t k => XS.dcmpS X54.here hx rfl (hb hby at_166) rfl rfl k) ?_
      show own_Fin _ _ _ _ _ _ (T54.setTop (mkF m 167 #[.val (.int p1), .val (.int p2), .val (.int p3), .val (.int p4), .val (.int (0 : Int32)), .val (.int (2 : Int32)), .val (.ref wC), .val (.ref b), .val (.double FP.dconst1), .second, .val (.int (1 : Int32))] [(.int (cmpValue (FP.dcmp (FP.i2d p2) (FP.i2d p2)) .l))]))
      refine own_to (fun t k => XS.ifNo X54.here hx rfl (hb hby at_167) rfl ((if0 _ _).trans (teq (own_same p2)).2) k) ?_
      show own_Fin _ _ _ _ _ _ (T54.setTop (mkF m 170 #[.val (.int p1), .val (.int p2), .val (.int p3), .val (.int p4), .val (.int (0 : Int32)), .val (.int (2 : Int32)), .val (.ref wC), .val (.ref b), .val (.double FP.dconst1), .second, .val (.int (1 : Int32))] []))
      refine own_to (fun t k => XS.iconst X54.here hx rfl (hb hby at_170) k) ?_
      show own_Fin _ _ _ _ _ _ (T54.setTop (mkF m 171 #[.val (.int p1), .val (.int p2), .val (.int p3), .val (.int p4), .val (.int (0 : Int32)), .val (.int (2 : Int32)), .val (.ref wC), .val (.ref b), .val (.double FP.dconst1), .second, .val (.int (1 : Int32))] [(.int (1 : Int32))]))
      refine own_to (fun t k => XS.goto X54.here hx rfl (pc0 := 171) (pc' := 175) rfl (hb hby at_171) (by decide) (by decide) k) ?_
      show own_Fin _ _ _ _ _ _ (T54.setTop (mkF m 175 #[.val (.int p1), .val (.int p2), .val (.int p3), .val (.int p4), .val (.int (0 : Int32)), .val (.int (2 : Int32)), .val (.ref wC), .val (.ref b), .val (.double FP.dconst1), .second, .val (.int (1 : Int32))] [(.int (1 : Int32))]))
      refine own_to (fun t k => XS.istore X54.here hx rfl (hb hby at_175) rfl (l' := #[.val (.int p1), .val (.int p2), .val (.int p3), .val (.int p4), .val (.int (0 : Int32)), .val (.int (2 : Int32)), .val (.ref wC), .val (.ref b), .val (.double FP.dconst1), .second, .val (.int (1 : Int32))]) rfl k) ?_
      show own_Fin _ _ _ _ _ _ (T54.setTop (mkF m 177 #[.val (.int p1), .val (.int p2), .val (.int p3), .val (.int p4), .val (.int (0 : Int32)), .val (.int (2 : Int32)), .val (.ref wC), .val (.ref b), .val (.double FP.dconst1), .second, .val (.int (1 : Int32))] []))
      refine own_to (fun t k => XS.iload X54.here hx rfl (hb hby at_177) rfl k) ?_
      show own_Fin _ _ _ _ _ _ (T54.setTop (mkF m 179 #[.val (.int p1), .val (.int p2), .val (.int p3), .val (.int p4), .val (.int (0 : Int32)), .val (.int (2 : Int32)), .val (.ref wC), .val (.ref b), .val (.double FP.dconst1), .second, .val (.int (1 : Int32))] [(.int (2 : Int32))]))
      refine own_to (fun t k => XS.iconst X54.here hx rfl (hb hby at_179) k) ?_
      show own_Fin _ _ _ _ _ _ (T54.setTop (mkF m 180 #[.val (.int p1), .val (.int p2), .val (.int p3), .val (.int p4), .val (.int (0 : Int32)), .val (.int (2 : Int32)), .val (.ref wC), .val (.ref b), .val (.double FP.dconst1), .second, .val (.int (1 : Int32))] [(.int (2 : Int32)), (.int (2 : Int32))]))
      refine own_to (fun t k => XS.icmpYes X54.here hx rfl (pc0 := 180) (pc' := 205) rfl (hb hby at_180) rfl (flt (Int32.lt_irrefl)).2.2.2 (by decide) (by decide) k) ?_
      show own_Fin _ _ _ _ _ _ (T54.setTop (mkF m 205 #[.val (.int p1), .val (.int p2), .val (.int p3), .val (.int p4), .val (.int (0 : Int32)), .val (.int (2 : Int32)), .val (.ref wC), .val (.ref b), .val (.double FP.dconst1), .second, .val (.int (1 : Int32))] []))
      refine own_to (fun t k => XS.iload X54.here hx rfl (hb hby at_205) rfl k) ?_
      show own_Fin _ _ _ _ _ _ (T54.setTop (mkF m 207 #[.val (.int p1), .val (.int p2), .val (.int p3), .val (.int p4), .val (.int (0 : Int32)), .val (.int (2 : Int32)), .val (.ref wC), .val (.ref b), .val (.double FP.dconst1), .second, .val (.int (1 : Int32))] [(.int (1 : Int32))]))
      refine own_retN X54 hx hlk (t := .boolean) hret (by simp) (hb hby at_207) (by decide) (by decide) ?_
      try rw [eh54]
      exact ⟨rfl, N54⟩
    ·
      rw [hl]
      show own_Fin _ _ _ _ _ _ (T35.setTop (mkF m 38 #[.val (.int p1), .val (.int p2), .val (.int p3), .val (.int p4), .val (.int (0 : Int32)), .val (.int (3 : Int32)), .val (.ref wC), .unset, .unset, .unset, .unset] [(.int (3 : Int32))]))
      obtain ⟨T60, h60, k60, X60, e60, E60, A60, A60x, st60⟩ := newPE X35 hx hZ (hw _ (List.mem_of_getElem? (i := 3) rfl)) e35 (g := (mkF m 38 #[.val (.int p1), .val (.int p2), .val (.int p3), .val (.int p4), .val (.int (0 : Int32)), .val (.int (3 : Int32)), .val (.ref wC), .unset, .unset, .unset, .unset] [(.int (3 : Int32))])) rfl (hb hby at_38) rfl (by decide) (cap := 3) (by decide) (by decide) (by decide) (by decide) (ad := "[D") (by decide)
      obtain ⟨b, q60⟩ : ∃ z, z = h0.size := ⟨_, rfl⟩
      rw [← q60] at A60 A60x st60
      have ne_wP_b : wP ≠ b := Nat.ne_of_lt (Nat.lt_of_lt_of_le EP.lt (Nat.le_of_eq q60.symm))
      have ne_wC_b : wC ≠ b := Nat.ne_of_lt (Nat.lt_of_lt_of_le EC.lt (Nat.le_of_eq q60.symm))
      have g_b : n0 ≤ b := Nat.le_trans Z0 (Nat.le_of_eq q60.symm)
      have O60 := O0.ext E60
      have EP_e60 := EP.ext E60
      have EC_e60 := EC.ext E60
      have V60 := Arv.new A60 (by decide)
      refine own_to (fun t k => st60 t k) ?_
      show own_Fin _ _ _ _ _ _ (T60.setTop (mkF m 40 #[.val (.int p1), .val (.int p2), .val (.int p3), .val (.int p4), .val (.int (0 : Int32)), .val (.int (3 : Int32)), .val (.ref wC), .unset, .unset, .unset, .unset] [(.ref b)]))
      have V61p : Arv Z h60 b k60 .double (3 : Int32) [(.double (0 : UInt64)), (.double (0 : UInt64)), (.double (0 : UInt64))] (.double (0 : UInt64)) := V60.pad (pad_rep [] (.double (0 : UInt64)) 3)
      refine own_to (fun t k => XS.astore X60.here hx rfl (hb hby at_40) rfl rfl (l' := #[.val (.int p1), .val (.int p2), .val (.int p3), .val (.int p4), .val (.int (0 : Int32)), .val (.int (3 : Int32)), .val (.ref wC), .val (.ref b), .unset, .unset, .unset]) rfl k) ?_
      show own_Fin _ _ _ _ _ _ (T60.setTop (mkF m 42 #[.val (.int p1), .val (.int p2), .val (.int p3), .val (.int p4), .val (.int (0 : Int32)), .val (.int (3 : Int32)), .val (.ref wC), .val (.ref b), .unset, .unset, .unset] []))
      refine own_to (fun t k => XS.iload X60.here hx rfl (hb hby at_42) rfl k) ?_
      show own_Fin _ _ _ _ _ _ (T60.setTop (mkF m 44 #[.val (.int p1), .val (.int p2), .val (.int p3), .val (.int p4), .val (.int (0 : Int32)), .val (.int (3 : Int32)), .val (.ref wC), .val (.ref b), .unset, .unset, .unset] [(.int (0 : Int32))]))
      refine own_to (fun t k => XS.ifYes X60.here hx rfl (pc0 := 44) (pc' := 53) rfl (hb hby at_44) rfl ((if0 _ _).trans (teq rfl).1) (by decide) (by decide) k) ?_
      show own_Fin _ _ _ _ _ _ (T60.setTop (mkF m 53 #[.val (.int p1), .val (.int p2), .val (.int p3), .val (.int p4), .val (.int (0 : Int32)), .val (.int (3 : Int32)), .val (.ref wC), .val (.ref b), .unset, .unset, .unset] []))
      refine own_to (fun t k => XS.dconst1 X60.here hx rfl (hb hby at_53) rfl k) ?_
      show own_Fin _ _ _ _ _ _ (T60.setTop (mkF m 54 #[.val (.int p1), .val (.int p2), .val (.int p3), .val (.int p4), .val (.int (0 : Int32)), .val (.int (3 : Int32)), .val (.ref wC), .val (.ref b), .unset, .unset, .unset] [(.double FP.dconst1)]))
      refine own_to (fun t k => XS.dstore X60.here hx rfl (hb hby at_54) rfl (l' := #[.val (.int p1), .val (.int p2), .val (.int p3), .val (.int p4), .val (.int (0 : Int32)), .val (.int (3 : Int32)), .val (.ref wC), .val (.ref b), .val (.double FP.dconst1), .second, .unset]) rfl k) ?_
      show own_Fin _ _ _ _ _ _ (T60.setTop (mkF m 56 #[.val (.int p1), .val (.int p2), .val (.int p3), .val (.int p4), .val (.int (0 : Int32)), .val (.int (3 : Int32)), .val (.ref wC), .val (.ref b), .val (.double FP.dconst1), .second, .unset] []))
      refine own_to (fun t k => XS.iload X60.here hx rfl (hb hby at_56) rfl k) ?_
      show own_Fin _ _ _ _ _ _ (T60.setTop (mkF m 58 #[.val (.int p1), .val (.int p2), .val (.int p3), .val (.int p4), .val (.int (0 : Int32)), .val (.int (3 : Int32)), .val (.ref wC), .val (.ref b), .val (.double FP.dconst1), .second, .unset] [(.int (3 : Int32))]))
      refine own_to (fun t k => XS.ifNo X60.here hx rfl (hb hby at_58) rfl ((if0 _ _).trans (tlt (by decide)).2.2.2) k) ?_
      show own_Fin _ _ _ _ _ _ (T60.setTop (mkF m 61 #[.val (.int p1), .val (.int p2), .val (.int p3), .val (.int p4), .val (.int (0 : Int32)), .val (.int (3 : Int32)), .val (.ref wC), .val (.ref b), .val (.double FP.dconst1), .second, .unset] []))
      refine own_to (fun t k => XS.aload X60.here hx rfl (hb hby at_61) rfl rfl k) ?_
      show own_Fin _ _ _ _ _ _ (T60.setTop (mkF m 63 #[.val (.int p1), .val (.int p2), .val (.int p3), .val (.int p4), .val (.int (0 : Int32)), .val (.int (3 : Int32)), .val (.ref wC), .val (.ref b), .val (.double FP.dconst1), .second, .unset] [(.ref b)]))
      refine own_to (fun t k => XS.iconst X60.here hx rfl (hb hby at_63) k) ?_
      show own_Fin _ _ _ _ _ _ (T60.setTop (mkF m 64 #[.val (.int p1), .val (.int p2), .val (.int p3), .val (.int p4), .val (.int (0 : Int32)), .val (.int (3 : Int32)), .val (.ref wC), .val (.ref b), .val (.double FP.dconst1), .second, .unset] [(.int (0 : Int32)), (.ref b)]))
      refine own_to (fun t k => XS.iloadN X60.here hx rfl (hb hby at_64) rfl k) ?_
      show own_Fin _ _ _ _ _ _ (T60.setTop (mkF m 65 #[.val (.int p1), .val (.int p2), .val (.int p3), .val (.int p4), .val (.int (0 : Int32)), .val (.int (3 : Int32)), .val (.ref wC), .val (.ref b), .val (.double FP.dconst1), .second, .unset] [(.int p1), (.int (0 : Int32)), (.ref b)]))
      refine own_to (fun t k => XS.i2dS X60.here hx rfl (hb hby at_65) rfl rfl k) ?_
      show own_Fin _ _ _ _ _ _ (T60.setTop (mkF m 66 #[.val (.int p1), .val (.int p2), .val (.int p3), .val (.int p4), .val (.int (0 : Int32)), .val (.int (3 : Int32)), .val (.ref wC), .val (.ref b), .val (.double FP.dconst1), .second, .unset] [(.double (FP.i2d p1)), (.int (0 : Int32)), (.ref b)]))
      refine own_to (fun t k => XS.dload X60.here hx rfl (hb hby at_66) rfl k) ?_
      show own_Fin _ _ _ _ _ _ (T60.setTop (mkF m 68 #[.val (.int p1), .val (.int p2), .val (.int p3), .val (.int p4), .val (.int (0 : Int32)), .val (.int (3 : Int32)), .val (.ref wC), .val (.ref b), .val (.double FP.dconst1), .second, .unset] [(.double FP.dconst1), (.double (FP.i2d p1)), (.int (0 : Int32)), (.ref b)]))
      refine own_to (fun t k => XS.dmulS X60.here hx rfl (hb hby at_68) rfl (by rw [own_mul1 p1]; exact own_ni _) (own_mul1 p1) k) ?_
      show own_Fin _ _ _ _ _ _ (T60.setTop (mkF m 69 #[.val (.int p1), .val (.int p2), .val (.int p3), .val (.int p4), .val (.int (0 : Int32)), .val (.int (3 : Int32)), .val (.ref wC), .val (.ref b), .val (.double FP.dconst1), .second, .unset] [(.double (FP.i2d p1)), (.int (0 : Int32)), (.ref b)]))
      obtain ⟨cl62, Ar62, qa62, Sa62, Na62, Ha62, Ga62⟩ := id V61p
      have hin63 : ¬ ((0 : Int32) < 0 ∨ cl62.slots.size ≤ ((0 : Int32)).toNatClampNeg) := inb_of Sa62 ⟨by decide, by decide⟩
      obtain ⟨T63, h63, X63, e63, W63, st63⟩ := stD X60 hx hZ e60 Ar62 (j := (0 : Int32)) hin63 (g := (mkF m 69 #[.val (.int p1), .val (.int p2), .val (.int p3), .val (.int p4), .val (.int (0 : Int32)), .val (.int (3 : Int32)), .val (.ref wC), .val (.ref b), .val (.double FP.dconst1), .second, .unset] [(.double (FP.i2d p1)), (.int (0 : Int32)), (.ref b)])) rfl rfl (hb hby at_69)
      have N63 := Fr.snoc X63 N0 g_b
      have O63 := O60.wr W63 g_b
      have EP_e63 := EP_e60.wr W63
      have EC_e63 := EC_e60.wr W63
      have A60x_e63 := A60x.wr W63
      have V63 : Arv Z h63 b k60 .double (3 : Int32) [(.double (FP.i2d p1)), (.double (0 : UInt64)), (.double (0 : UInt64))] (.double (0 : UInt64)) := Arv.set Ar62 qa62 Sa62 Na62 Ha62 Ga62 rfl W63 0 rfl (Nat.le_of_ble_eq_true rfl)
      refine own_to (fun t k => st63 t k) ?_
      show own_Fin _ _ _ _ _ _ (T63.setTop (mkF m 70 #[.val (.int p1), .val (.int p2), .val (.int p3), .val (.int p4), .val (.int (0 : Int32)), .val (.int (3 : Int32)), .val (.ref wC), .val (.ref b), .val (.double FP.dconst1), .second, .unset] []))
      refine own_to (fun t k => XS.iload X63.here hx rfl (hb hby at_70) rfl k) ?_
      show own_Fin _ _ _ _ _ _ (T63.setTop (mkF m 72 #[.val (.int p1), .val (.int p2), .val (.int p3), .val (.int p4), .val (.int (0 : Int32)), .val (.int (3 : Int32)), .val (.ref wC), .val (.ref b), .val (.double FP.dconst1), .second, .unset] [(.int (3 : Int32))]))
      refine own_to (fun t k => XS.iconst X63.here hx rfl (hb hby at_72) k) ?_
      show own_Fin _ _ _ _ _ _ (T63.setTop (mkF m 73 #[.val (.int p1), .val (.int p2), .val (.int p3), .val (.int p4), .val (.int (0 : Int32)), .val (.int (3 : Int32)), .val (.ref wC), .val (.ref b), .val (.double FP.dconst1), .second, .unset] [(.int (1 : Int32)), (.int (3 : Int32))]))
      refine own_to (fun t k => XS.icmpNo X63.here hx rfl (hb hby at_73) rfl (tlt (by decide)).2.2.2 k) ?_
      show own_Fin _ _ _ _ _ _ (T63.setTop (mkF m 76 #[.val (.int p1), .val (.int p2), .val (.int p3), .val (.int p4), .val (.int (0 : Int32)), .val (.int (3 : Int32)), .val (.ref wC), .val (.ref b), .val (.double FP.dconst1), .second, .unset] []))
      refine own_to (fun t k => XS.aload X63.here hx rfl (hb hby at_76) rfl rfl k) ?_
      show own_Fin _ _ _ _ _ _ (T63.setTop (mkF m 78 #[.val (.int p1), .val (.int p2), .val (.int p3), .val (.int p4), .val (.int (0 : Int32)), .val (.int (3 : Int32)), .val (.ref wC), .val (.ref b), .val (.double FP.dconst1), .second, .unset] [(.ref b)]))
      refine own_to (fun t k => XS.iconst X63.here hx rfl (hb hby at_78) k) ?_
      show own_Fin _ _ _ _ _ _ (T63.setTop (mkF m 79 #[.val (.int p1), .val (.int p2), .val (.int p3), .val (.int p4), .val (.int (0 : Int32)), .val (.int (3 : Int32)), .val (.ref wC), .val (.ref b), .val (.double FP.dconst1), .second, .unset] [(.int (1 : Int32)), (.ref b)]))
      refine own_to (fun t k => XS.iloadN X63.here hx rfl (hb hby at_79) rfl k) ?_
      show own_Fin _ _ _ _ _ _ (T63.setTop (mkF m 80 #[.val (.int p1), .val (.int p2), .val (.int p3), .val (.int p4), .val (.int (0 : Int32)), .val (.int (3 : Int32)), .val (.ref wC), .val (.ref b), .val (.double FP.dconst1), .second, .unset] [(.int p2), (.int (1 : Int32)), (.ref b)]))
      refine own_to (fun t k => XS.i2dS X63.here hx rfl (hb hby at_80) rfl rfl k) ?_
      show own_Fin _ _ _ _ _ _ (T63.setTop (mkF m 81 #[.val (.int p1), .val (.int p2), .val (.int p3), .val (.int p4), .val (.int (0 : Int32)), .val (.int (3 : Int32)), .val (.ref wC), .val (.ref b), .val (.double FP.dconst1), .second, .unset] [(.double (FP.i2d p2)), (.int (1 : Int32)), (.ref b)]))
      refine own_to (fun t k => XS.dload X63.here hx rfl (hb hby at_81) rfl k) ?_
      show own_Fin _ _ _ _ _ _ (T63.setTop (mkF m 83 #[.val (.int p1), .val (.int p2), .val (.int p3), .val (.int p4), .val (.int (0 : Int32)), .val (.int (3 : Int32)), .val (.ref wC), .val (.ref b), .val (.double FP.dconst1), .second, .unset] [(.double FP.dconst1), (.double (FP.i2d p2)), (.int (1 : Int32)), (.ref b)]))
      refine own_to (fun t k => XS.dmulS X63.here hx rfl (hb hby at_83) rfl (by rw [own_mul1 p2]; exact own_ni _) (own_mul1 p2) k) ?_
      show own_Fin _ _ _ _ _ _ (T63.setTop (mkF m 84 #[.val (.int p1), .val (.int p2), .val (.int p3), .val (.int p4), .val (.int (0 : Int32)), .val (.int (3 : Int32)), .val (.ref wC), .val (.ref b), .val (.double FP.dconst1), .second, .unset] [(.double (FP.i2d p2)), (.int (1 : Int32)), (.ref b)]))
      obtain ⟨cl64, Ar64, qa64, Sa64, Na64, Ha64, Ga64⟩ := id V63
      have hin65 : ¬ ((1 : Int32) < 0 ∨ cl64.slots.size ≤ ((1 : Int32)).toNatClampNeg) := inb_of Sa64 ⟨by decide, by decide⟩
      obtain ⟨T65, h65, X65, e65, W65, st65⟩ := stD X63 hx hZ e63 Ar64 (j := (1 : Int32)) hin65 (g := (mkF m 84 #[.val (.int p1), .val (.int p2), .val (.int p3), .val (.int p4), .val (.int (0 : Int32)), .val (.int (3 : Int32)), .val (.ref wC), .val (.ref b), .val (.double FP.dconst1), .second, .unset] [(.double (FP.i2d p2)), (.int (1 : Int32)), (.ref b)])) rfl rfl (hb hby at_84)
      have N65 := Fr.snoc X65 N63 g_b
      have O65 := O63.wr W65 g_b
      have EP_e65 := EP_e63.wr W65
      have EC_e65 := EC_e63.wr W65
      have A60x_e65 := A60x_e63.wr W65
      have V65 : Arv Z h65 b k60 .double (3 : Int32) [(.double (FP.i2d p1)), (.double (FP.i2d p2)), (.double (0 : UInt64))] (.double (0 : UInt64)) := Arv.set Ar64 qa64 Sa64 Na64 Ha64 Ga64 rfl W65 1 rfl (Nat.le_of_ble_eq_true rfl)
      refine own_to (fun t k => st65 t k) ?_
      show own_Fin _ _ _ _ _ _ (T65.setTop (mkF m 85 #[.val (.int p1), .val (.int p2), .val (.int p3), .val (.int p4), .val (.int (0 : Int32)), .val (.int (3 : Int32)), .val (.ref wC), .val (.ref b), .val (.double FP.dconst1), .second, .unset] []))
      refine own_to (fun t k => XS.iload X65.here hx rfl (hb hby at_85) rfl k) ?_
      show own_Fin _ _ _ _ _ _ (T65.setTop (mkF m 87 #[.val (.int p1), .val (.int p2), .val (.int p3), .val (.int p4), .val (.int (0 : Int32)), .val (.int (3 : Int32)), .val (.ref wC), .val (.ref b), .val (.double FP.dconst1), .second, .unset] [(.int (3 : Int32))]))
      refine own_to (fun t k => XS.iconst X65.here hx rfl (hb hby at_87) k) ?_
      show own_Fin _ _ _ _ _ _ (T65.setTop (mkF m 88 #[.val (.int p1), .val (.int p2), .val (.int p3), .val (.int p4), .val (.int (0 : Int32)), .val (.int (3 : Int32)), .val (.ref wC), .val (.ref b), .val (.double FP.dconst1), .second, .unset] [(.int (2 : Int32)), (.int (3 : Int32))]))
      refine own_to (fun t k => XS.icmpNo X65.here hx rfl (hb hby at_88) rfl (tlt (by decide)).2.2.2 k) ?_
      show own_Fin _ _ _ _ _ _ (T65.setTop (mkF m 91 #[.val (.int p1), .val (.int p2), .val (.int p3), .val (.int p4), .val (.int (0 : Int32)), .val (.int (3 : Int32)), .val (.ref wC), .val (.ref b), .val (.double FP.dconst1), .second, .unset] []))
      refine own_to (fun t k => XS.aload X65.here hx rfl (hb hby at_91) rfl rfl k) ?_
      show own_Fin _ _ _ _ _ _ (T65.setTop (mkF m 93 #[.val (.int p1), .val (.int p2), .val (.int p3), .val (.int p4), .val (.int (0 : Int32)), .val (.int (3 : Int32)), .val (.ref wC), .val (.ref b), .val (.double FP.dconst1), .second, .unset] [(.ref b)]))
      refine own_to (fun t k => XS.iconst X65.here hx rfl (hb hby at_93) k) ?_
      show own_Fin _ _ _ _ _ _ (T65.setTop (mkF m 94 #[.val (.int p1), .val (.int p2), .val (.int p3), .val (.int p4), .val (.int (0 : Int32)), .val (.int (3 : Int32)), .val (.ref wC), .val (.ref b), .val (.double FP.dconst1), .second, .unset] [(.int (2 : Int32)), (.ref b)]))
      refine own_to (fun t k => XS.iloadN X65.here hx rfl (hb hby at_94) rfl k) ?_
      show own_Fin _ _ _ _ _ _ (T65.setTop (mkF m 95 #[.val (.int p1), .val (.int p2), .val (.int p3), .val (.int p4), .val (.int (0 : Int32)), .val (.int (3 : Int32)), .val (.ref wC), .val (.ref b), .val (.double FP.dconst1), .second, .unset] [(.int p3), (.int (2 : Int32)), (.ref b)]))
      refine own_to (fun t k => XS.i2dS X65.here hx rfl (hb hby at_95) rfl rfl k) ?_
      show own_Fin _ _ _ _ _ _ (T65.setTop (mkF m 96 #[.val (.int p1), .val (.int p2), .val (.int p3), .val (.int p4), .val (.int (0 : Int32)), .val (.int (3 : Int32)), .val (.ref wC), .val (.ref b), .val (.double FP.dconst1), .second, .unset] [(.double (FP.i2d p3)), (.int (2 : Int32)), (.ref b)]))
      refine own_to (fun t k => XS.dload X65.here hx rfl (hb hby at_96) rfl k) ?_
      show own_Fin _ _ _ _ _ _ (T65.setTop (mkF m 98 #[.val (.int p1), .val (.int p2), .val (.int p3), .val (.int p4), .val (.int (0 : Int32)), .val (.int (3 : Int32)), .val (.ref wC), .val (.ref b), .val (.double FP.dconst1), .second, .unset] [(.double FP.dconst1), (.double (FP.i2d p3)), (.int (2 : Int32)), (.ref b)]))
      refine own_to (fun t k => XS.dmulS X65.here hx rfl (hb hby at_98) rfl (by rw [own_mul1 p3]; exact own_ni _) (own_mul1 p3) k) ?_
      show own_Fin _ _ _ _ _ _ (T65.setTop (mkF m 99 #[.val (.int p1), .val (.int p2), .val (.int p3), .val (.int p4), .val (.int (0 : Int32)), .val (.int (3 : Int32)), .val (.ref wC), .val (.ref b), .val (.double FP.dconst1), .second, .unset] [(.double (FP.i2d p3)), (.int (2 : Int32)), (.ref b)]))
      obtain ⟨cl66, Ar66, qa66, Sa66, Na66, Ha66, Ga66⟩ := id V65
      have hin67 : ¬ ((2 : Int32) < 0 ∨ cl66.slots.size ≤ ((2 : Int32)).toNatClampNeg) := inb_of Sa66 ⟨by decide, by decide⟩
      obtain ⟨T67, h67, X67, e67, W67, st67⟩ := stD X65 hx hZ e65 Ar66 (j := (2 : Int32)) hin67 (g := (mkF m 99 #[.val (.int p1), .val (.int p2), .val (.int p3), .val (.int p4), .val (.int (0 : Int32)), .val (.int (3 : Int32)), .val (.ref wC), .val (.ref b), .val (.double FP.dconst1), .second, .unset] [(.double (FP.i2d p3)), (.int (2 : Int32)), (.ref b)])) rfl rfl (hb hby at_99)
      have N67 := Fr.snoc X67 N65 g_b
      have O67 := O65.wr W67 g_b
      have EP_e67 := EP_e65.wr W67
      have EC_e67 := EC_e65.wr W67
      have A60x_e67 := A60x_e65.wr W67
      have V67 : Arv Z h67 b k60 .double (3 : Int32) [(.double (FP.i2d p1)), (.double (FP.i2d p2)), (.double (FP.i2d p3))] (.double (0 : UInt64)) := Arv.set Ar66 qa66 Sa66 Na66 Ha66 Ga66 rfl W67 2 rfl (Nat.le_of_ble_eq_true rfl)
      refine own_to (fun t k => st67 t k) ?_
      show own_Fin _ _ _ _ _ _ (T67.setTop (mkF m 100 #[.val (.int p1), .val (.int p2), .val (.int p3), .val (.int p4), .val (.int (0 : Int32)), .val (.int (3 : Int32)), .val (.ref wC), .val (.ref b), .val (.double FP.dconst1), .second, .unset] []))
      refine own_to (fun t k => XS.aload X67.here hx rfl (hb hby at_100) rfl rfl k) ?_
      show own_Fin _ _ _ _ _ _ (T67.setTop (mkF m 102 #[.val (.int p1), .val (.int p2), .val (.int p3), .val (.int p4), .val (.int (0 : Int32)), .val (.int (3 : Int32)), .val (.ref wC), .val (.ref b), .val (.double FP.dconst1), .second, .unset] [(.ref wC)]))
      refine own_to (fun t k => XS.aload X67.here hx rfl (hb hby at_102) rfl rfl k) ?_
      show own_Fin _ _ _ _ _ _ (T67.setTop (mkF m 104 #[.val (.int p1), .val (.int p2), .val (.int p3), .val (.int p4), .val (.int (0 : Int32)), .val (.int (3 : Int32)), .val (.ref wC), .val (.ref b), .val (.double FP.dconst1), .second, .unset] [(.ref b), (.ref wC)]))
      obtain ⟨cq68, kq68, q68a, q68b, q68c⟩ := isOf hZ e67 EC_e67
      obtain ⟨_, _, ⟨T68, L68, k68, n68⟩, -, X68, ⟨Lc68, hQ68, l68, y68, z68⟩, st68⟩ := X67.virtualBack hx (y := (⟨"com/example/walk_to_worth/walktoworth/solver/Scale", "rescale", "([D)V"⟩ : MethodName)) (z := (⟨"com/example/walk_to_worth/walktoworth/solver/Scale", "rescale", "([D)V"⟩ : MethodName)) hown (mvT hZ (hw _ (List.mem_of_getElem? (i := 4) rfl))) (mvT hZ (hw _ (List.mem_of_getElem? (i := 5) rfl))) (notFace_of_selects (args := #[]) (mvT hZ (hw _ (List.mem_of_getElem? (i := 7) rfl)))) (mvT hZ (hw _ (List.mem_of_getElem? (i := 7) rfl))) (mvT hZ (hw _ (List.mem_of_getElem? (i := 6) rfl))) (by decide) (own_back (W := 0) (own_resC l Z a0 hw [] wP wC b h67 n0 (Nat.le_trans (Nat.le_trans (Nat.le_trans (Nat.le_trans Z0 E60.1) (Keep.of_wr W63).1) (Keep.of_wr W65).1) (Keep.of_wr W67).1) O67 SS neC) hZ (hw _ (List.mem_of_getElem? (i := 8) rfl)) (hw _ (List.mem_of_getElem? (i := 1) rfl)) (by decide) (by decide)) q68a q68c (g := (mkF m 104 #[.val (.int p1), .val (.int p2), .val (.int p3), .val (.int p4), .val (.int (0 : Int32)), .val (.int (3 : Int32)), .val (.ref wC), .val (.ref b), .val (.double FP.dconst1), .second, .unset] [(.ref b), (.ref wC)])) rfl (by rw [hml]; rfl) (Steps.refl _) (argsL := [(.ref b)]) (rest := []) (lenOf own_pd0 rfl) rfl (by show 2 * 0 + _ ≤ _; exact Nat.le_of_eq rfl) (hb hby at_104) (fun _ _ => ⟨rfl, e67, (by decide : 1 + 0 ≤ _), (by decide : 3 + 0 ≤ _)⟩)
      dsimp only [Pt.U, Pt.locs, Pt.cells, Pt.slots] at X68 l68 y68 z68 st68 hQ68
      subst l68 y68 z68
      obtain ⟨rfl, N68q, eh68⟩ := hQ68
      have N68 := Fr.app N67 N68q
      refine own_to (fun t k => st68.trans k) ?_
      show own_Fin _ _ _ _ _ _ (T68.setTop (mkF m 107 #[.val (.int p1), .val (.int p2), .val (.int p3), .val (.int p4), .val (.int (0 : Int32)), .val (.int (3 : Int32)), .val (.ref wC), .val (.ref b), .val (.double FP.dconst1), .second, .unset] []))
      refine own_to (fun t k => XS.aload X68.here hx rfl (hb hby at_107) rfl rfl k) ?_
      show own_Fin _ _ _ _ _ _ (T68.setTop (mkF m 109 #[.val (.int p1), .val (.int p2), .val (.int p3), .val (.int p4), .val (.int (0 : Int32)), .val (.int (3 : Int32)), .val (.ref wC), .val (.ref b), .val (.double FP.dconst1), .second, .unset] [(.ref b)]))
      obtain ⟨cl69, Ar69, qa69, Sa69, Na69, Ha69, Ga69⟩ := id V67
      refine own_to (fun t k => X68.arraylength hx (by rw [eh68]; exact Ar69.1) (State.isArrayOf_alike hZ.alike Ar69.2.1) (g := (mkF m 109 #[.val (.int p1), .val (.int p2), .val (.int p3), .val (.int p4), .val (.int (0 : Int32)), .val (.int (3 : Int32)), .val (.ref wC), .val (.ref b), .val (.double FP.dconst1), .second, .unset] [(.ref b)])) rfl rfl (hb hby at_109) _ k) ?_
      rw [len_of Sa69 Na69]
      show own_Fin _ _ _ _ _ _ (T68.setTop (mkF m 110 #[.val (.int p1), .val (.int p2), .val (.int p3), .val (.int p4), .val (.int (0 : Int32)), .val (.int (3 : Int32)), .val (.ref wC), .val (.ref b), .val (.double FP.dconst1), .second, .unset] [(.int (3 : Int32))]))
      refine own_to (fun t k => XS.iload X68.here hx rfl (hb hby at_110) rfl k) ?_
      show own_Fin _ _ _ _ _ _ (T68.setTop (mkF m 112 #[.val (.int p1), .val (.int p2), .val (.int p3), .val (.int p4), .val (.int (0 : Int32)), .val (.int (3 : Int32)), .val (.ref wC), .val (.ref b), .val (.double FP.dconst1), .second, .unset] [(.int (3 : Int32)), (.int (3 : Int32))]))
      refine own_to (fun t k => XS.icmpNo X68.here hx rfl (hb hby at_112) rfl (teq rfl).2 k) ?_
      show own_Fin _ _ _ _ _ _ (T68.setTop (mkF m 115 #[.val (.int p1), .val (.int p2), .val (.int p3), .val (.int p4), .val (.int (0 : Int32)), .val (.int (3 : Int32)), .val (.ref wC), .val (.ref b), .val (.double FP.dconst1), .second, .unset] []))
      refine own_to (fun t k => XS.iconst X68.here hx rfl (hb hby at_115) k) ?_
      show own_Fin _ _ _ _ _ _ (T68.setTop (mkF m 116 #[.val (.int p1), .val (.int p2), .val (.int p3), .val (.int p4), .val (.int (0 : Int32)), .val (.int (3 : Int32)), .val (.ref wC), .val (.ref b), .val (.double FP.dconst1), .second, .unset] [(.int (1 : Int32))]))
      refine own_to (fun t k => XS.goto X68.here hx rfl (pc0 := 116) (pc' := 120) rfl (hb hby at_116) (by decide) (by decide) k) ?_
      show own_Fin _ _ _ _ _ _ (T68.setTop (mkF m 120 #[.val (.int p1), .val (.int p2), .val (.int p3), .val (.int p4), .val (.int (0 : Int32)), .val (.int (3 : Int32)), .val (.ref wC), .val (.ref b), .val (.double FP.dconst1), .second, .unset] [(.int (1 : Int32))]))
      refine own_to (fun t k => XS.istore X68.here hx rfl (hb hby at_120) rfl (l' := #[.val (.int p1), .val (.int p2), .val (.int p3), .val (.int p4), .val (.int (0 : Int32)), .val (.int (3 : Int32)), .val (.ref wC), .val (.ref b), .val (.double FP.dconst1), .second, .val (.int (1 : Int32))]) rfl k) ?_
      show own_Fin _ _ _ _ _ _ (T68.setTop (mkF m 122 #[.val (.int p1), .val (.int p2), .val (.int p3), .val (.int p4), .val (.int (0 : Int32)), .val (.int (3 : Int32)), .val (.ref wC), .val (.ref b), .val (.double FP.dconst1), .second, .val (.int (1 : Int32))] []))
      refine own_to (fun t k => XS.iload X68.here hx rfl (hb hby at_122) rfl k) ?_
      show own_Fin _ _ _ _ _ _ (T68.setTop (mkF m 124 #[.val (.int p1), .val (.int p2), .val (.int p3), .val (.int p4), .val (.int (0 : Int32)), .val (.int (3 : Int32)), .val (.ref wC), .val (.ref b), .val (.double FP.dconst1), .second, .val (.int (1 : Int32))] [(.int (3 : Int32))]))
      refine own_to (fun t k => XS.ifNo X68.here hx rfl (hb hby at_124) rfl ((if0 _ _).trans (tlt (by decide)).2.2.2) k) ?_
      show own_Fin _ _ _ _ _ _ (T68.setTop (mkF m 127 #[.val (.int p1), .val (.int p2), .val (.int p3), .val (.int p4), .val (.int (0 : Int32)), .val (.int (3 : Int32)), .val (.ref wC), .val (.ref b), .val (.double FP.dconst1), .second, .val (.int (1 : Int32))] []))
      refine own_to (fun t k => XS.iload X68.here hx rfl (hb hby at_127) rfl k) ?_
      show own_Fin _ _ _ _ _ _ (T68.setTop (mkF m 129 #[.val (.int p1), .val (.int p2), .val (.int p3), .val (.int p4), .val (.int (0 : Int32)), .val (.int (3 : Int32)), .val (.ref wC), .val (.ref b), .val (.double FP.dconst1), .second, .val (.int (1 : Int32))] [(.int (1 : Int32))]))
      refine own_to (fun t k => XS.ifNo X68.here hx rfl (hb hby at_129) rfl ((if0 _ _).trans (feq (by decide)).1) k) ?_
      show own_Fin _ _ _ _ _ _ (T68.setTop (mkF m 132 #[.val (.int p1), .val (.int p2), .val (.int p3), .val (.int p4), .val (.int (0 : Int32)), .val (.int (3 : Int32)), .val (.ref wC), .val (.ref b), .val (.double FP.dconst1), .second, .val (.int (1 : Int32))] []))
      refine own_to (fun t k => XS.aload X68.here hx rfl (hb hby at_132) rfl rfl k) ?_
      show own_Fin _ _ _ _ _ _ (T68.setTop (mkF m 134 #[.val (.int p1), .val (.int p2), .val (.int p3), .val (.int p4), .val (.int (0 : Int32)), .val (.int (3 : Int32)), .val (.ref wC), .val (.ref b), .val (.double FP.dconst1), .second, .val (.int (1 : Int32))] [(.ref b)]))
      refine own_to (fun t k => XS.iconst X68.here hx rfl (hb hby at_134) k) ?_
      show own_Fin _ _ _ _ _ _ (T68.setTop (mkF m 135 #[.val (.int p1), .val (.int p2), .val (.int p3), .val (.int p4), .val (.int (0 : Int32)), .val (.int (3 : Int32)), .val (.ref wC), .val (.ref b), .val (.double FP.dconst1), .second, .val (.int (1 : Int32))] [(.int (0 : Int32)), (.ref b)]))
      obtain ⟨cl70, Ar70, qa70, Sa70, Na70, Ha70, Ga70⟩ := id V67
      have hin71 : ¬ ((0 : Int32) < 0 ∨ cl70.slots.size ≤ ((0 : Int32)).toNatClampNeg) := inb_of Sa70 ⟨by decide, by decide⟩
      refine own_to (fun t k => X68.daload hx (j := (0 : Int32)) (v := (.double (FP.i2d p1))) (by rw [eh68]; exact Ar70.1) (State.isArrayOf_alike hZ.alike Ar70.2.1) Ar70.2.2 hin71 (Has.at Ha70 hin71 rfl) (g := (mkF m 135 #[.val (.int p1), .val (.int p2), .val (.int p3), .val (.int p4), .val (.int (0 : Int32)), .val (.int (3 : Int32)), .val (.ref wC), .val (.ref b), .val (.double FP.dconst1), .second, .val (.int (1 : Int32))] [(.int (0 : Int32)), (.ref b)])) rfl rfl (hb hby at_135) _ k) ?_
      show own_Fin _ _ _ _ _ _ (T68.setTop (mkF m 136 #[.val (.int p1), .val (.int p2), .val (.int p3), .val (.int p4), .val (.int (0 : Int32)), .val (.int (3 : Int32)), .val (.ref wC), .val (.ref b), .val (.double FP.dconst1), .second, .val (.int (1 : Int32))] [(.double (FP.i2d p1))]))
      refine own_to (fun t k => XS.iloadN X68.here hx rfl (hb hby at_136) rfl k) ?_
      show own_Fin _ _ _ _ _ _ (T68.setTop (mkF m 137 #[.val (.int p1), .val (.int p2), .val (.int p3), .val (.int p4), .val (.int (0 : Int32)), .val (.int (3 : Int32)), .val (.ref wC), .val (.ref b), .val (.double FP.dconst1), .second, .val (.int (1 : Int32))] [(.int p1), (.double (FP.i2d p1))]))
      refine own_to (fun t k => XS.i2dS X68.here hx rfl (hb hby at_137) rfl rfl k) ?_
      show own_Fin _ _ _ _ _ _ (T68.setTop (mkF m 138 #[.val (.int p1), .val (.int p2), .val (.int p3), .val (.int p4), .val (.int (0 : Int32)), .val (.int (3 : Int32)), .val (.ref wC), .val (.ref b), .val (.double FP.dconst1), .second, .val (.int (1 : Int32))] [(.double (FP.i2d p1)), (.double (FP.i2d p1))]))
      refine own_to (fun t k => XS.dcmpS X68.here hx rfl (hb hby at_138) rfl rfl k) ?_
      show own_Fin _ _ _ _ _ _ (T68.setTop (mkF m 139 #[.val (.int p1), .val (.int p2), .val (.int p3), .val (.int p4), .val (.int (0 : Int32)), .val (.int (3 : Int32)), .val (.ref wC), .val (.ref b), .val (.double FP.dconst1), .second, .val (.int (1 : Int32))] [(.int (cmpValue (FP.dcmp (FP.i2d p1) (FP.i2d p1)) .l))]))
      refine own_to (fun t k => XS.ifNo X68.here hx rfl (hb hby at_139) rfl ((if0 _ _).trans (teq (own_same p1)).2) k) ?_
      show own_Fin _ _ _ _ _ _ (T68.setTop (mkF m 142 #[.val (.int p1), .val (.int p2), .val (.int p3), .val (.int p4), .val (.int (0 : Int32)), .val (.int (3 : Int32)), .val (.ref wC), .val (.ref b), .val (.double FP.dconst1), .second, .val (.int (1 : Int32))] []))
      refine own_to (fun t k => XS.iconst X68.here hx rfl (hb hby at_142) k) ?_
      show own_Fin _ _ _ _ _ _ (T68.setTop (mkF m 143 #[.val (.int p1), .val (.int p2), .val (.int p3), .val (.int p4), .val (.int (0 : Int32)), .val (.int (3 : Int32)), .val (.ref wC), .val (.ref b), .val (.double FP.dconst1), .second, .val (.int (1 : Int32))] [(.int (1 : Int32))]))
      refine own_to (fun t k => XS.goto X68.here hx rfl (pc0 := 143) (pc' := 147) rfl (hb hby at_143) (by decide) (by decide) k) ?_
      show own_Fin _ _ _ _ _ _ (T68.setTop (mkF m 147 #[.val (.int p1), .val (.int p2), .val (.int p3), .val (.int p4), .val (.int (0 : Int32)), .val (.int (3 : Int32)), .val (.ref wC), .val (.ref b), .val (.double FP.dconst1), .second, .val (.int (1 : Int32))] [(.int (1 : Int32))]))
      refine own_to (fun t k => XS.istore X68.here hx rfl (hb hby at_147) rfl (l' := #[.val (.int p1), .val (.int p2), .val (.int p3), .val (.int p4), .val (.int (0 : Int32)), .val (.int (3 : Int32)), .val (.ref wC), .val (.ref b), .val (.double FP.dconst1), .second, .val (.int (1 : Int32))]) rfl k) ?_
      show own_Fin _ _ _ _ _ _ (T68.setTop (mkF m 149 #[.val (.int p1), .val (.int p2), .val (.int p3), .val (.int p4), .val (.int (0 : Int32)), .val (.int (3 : Int32)), .val (.ref wC), .val (.ref b), .val (.double FP.dconst1), .second, .val (.int (1 : Int32))] []))
      refine own_to (fun t k => XS.iload X68.here hx rfl (hb hby at_149) rfl k) ?_
      show own_Fin _ _ _ _ _ _ (T68.setTop (mkF m 151 #[.val (.int p1), .val (.int p2), .val (.int p3), .val (.int p4), .val (.int (0 : Int32)), .val (.int (3 : Int32)), .val (.ref wC), .val (.ref b), .val (.double FP.dconst1), .second, .val (.int (1 : Int32))] [(.int (3 : Int32))]))
      refine own_to (fun t k => XS.iconst X68.here hx rfl (hb hby at_151) k) ?_
      show own_Fin _ _ _ _ _ _ (T68.setTop (mkF m 152 #[.val (.int p1), .val (.int p2), .val (.int p3), .val (.int p4), .val (.int (0 : Int32)), .val (.int (3 : Int32)), .val (.ref wC), .val (.ref b), .val (.double FP.dconst1), .second, .val (.int (1 : Int32))] [(.int (1 : Int32)), (.int (3 : Int32))]))
      refine own_to (fun t k => XS.icmpNo X68.here hx rfl (hb hby at_152) rfl (tlt (by decide)).2.2.2 k) ?_
      show own_Fin _ _ _ _ _ _ (T68.setTop (mkF m 155 #[.val (.int p1), .val (.int p2), .val (.int p3), .val (.int p4), .val (.int (0 : Int32)), .val (.int (3 : Int32)), .val (.ref wC), .val (.ref b), .val (.double FP.dconst1), .second, .val (.int (1 : Int32))] []))
      refine own_to (fun t k => XS.iload X68.here hx rfl (hb hby at_155) rfl k) ?_
      show own_Fin _ _ _ _ _ _ (T68.setTop (mkF m 157 #[.val (.int p1), .val (.int p2), .val (.int p3), .val (.int p4), .val (.int (0 : Int32)), .val (.int (3 : Int32)), .val (.ref wC), .val (.ref b), .val (.double FP.dconst1), .second, .val (.int (1 : Int32))] [(.int (1 : Int32))]))
      refine own_to (fun t k => XS.ifNo X68.here hx rfl (hb hby at_157) rfl ((if0 _ _).trans (feq (by decide)).1) k) ?_
      show own_Fin _ _ _ _ _ _ (T68.setTop (mkF m 160 #[.val (.int p1), .val (.int p2), .val (.int p3), .val (.int p4), .val (.int (0 : Int32)), .val (.int (3 : Int32)), .val (.ref wC), .val (.ref b), .val (.double FP.dconst1), .second, .val (.int (1 : Int32))] []))
      refine own_to (fun t k => XS.aload X68.here hx rfl (hb hby at_160) rfl rfl k) ?_
      show own_Fin _ _ _ _ _ _ (T68.setTop (mkF m 162 #[.val (.int p1), .val (.int p2), .val (.int p3), .val (.int p4), .val (.int (0 : Int32)), .val (.int (3 : Int32)), .val (.ref wC), .val (.ref b), .val (.double FP.dconst1), .second, .val (.int (1 : Int32))] [(.ref b)]))
      refine own_to (fun t k => XS.iconst X68.here hx rfl (hb hby at_162) k) ?_
      show own_Fin _ _ _ _ _ _ (T68.setTop (mkF m 163 #[.val (.int p1), .val (.int p2), .val (.int p3), .val (.int p4), .val (.int (0 : Int32)), .val (.int (3 : Int32)), .val (.ref wC), .val (.ref b), .val (.double FP.dconst1), .second, .val (.int (1 : Int32))] [(.int (1 : Int32)), (.ref b)]))
      obtain ⟨cl72, Ar72, qa72, Sa72, Na72, Ha72, Ga72⟩ := id V67
      have hin73 : ¬ ((1 : Int32) < 0 ∨ cl72.slots.size ≤ ((1 : Int32)).toNatClampNeg) := inb_of Sa72 ⟨by decide, by decide⟩
      refine own_to (fun t k => X68.daload hx (j := (1 : Int32)) (v := (.double (FP.i2d p2))) (by rw [eh68]; exact Ar72.1) (State.isArrayOf_alike hZ.alike Ar72.2.1) Ar72.2.2 hin73 (Has.at Ha72 hin73 rfl) (g := (mkF m 163 #[.val (.int p1), .val (.int p2), .val (.int p3), .val (.int p4), .val (.int (0 : Int32)), .val (.int (3 : Int32)), .val (.ref wC), .val (.ref b), .val (.double FP.dconst1), .second, .val (.int (1 : Int32))] [(.int (1 : Int32)), (.ref b)])) rfl rfl (hb hby at_163) _ k) ?_
      show own_Fin _ _ _ _ _ _ (T68.setTop (mkF m 164 #[.val (.int p1), .val (.int p2), .val (.int p3), .val (.int p4), .val (.int (0 : Int32)), .val (.int (3 : Int32)), .val (.ref wC), .val (.ref b), .val (.double FP.dconst1), .second, .val (.int (1 : Int32))] [(.double (FP.i2d p2))]))
      refine own_to (fun t k => XS.iloadN X68.here hx rfl (hb hby at_164) rfl k) ?_
      show own_Fin _ _ _ _ _ _ (T68.setTop (mkF m 165 #[.val (.int p1), .val (.int p2), .val (.int p3), .val (.int p4), .val (.int (0 : Int32)), .val (.int (3 : Int32)), .val (.ref wC), .val (.ref b), .val (.double FP.dconst1), .second, .val (.int (1 : Int32))] [(.int p2), (.double (FP.i2d p2))]))
      refine own_to (fun t k => XS.i2dS X68.here hx rfl (hb hby at_165) rfl rfl k) ?_
      show own_Fin _ _ _ _ _ _ (T68.setTop (mkF m 166 #[.val (.int p1), .val (.int p2), .val (.int p3), .val (.int p4), .val (.int (0 : Int32)), .val (.int (3 : Int32)), .val (.ref wC), .val (.ref b), .val (.double FP.dconst1), .second, .val (.int (1 : Int32))] [(.double (FP.i2d p2)), (.double (FP.i2d p2))]))
      refine own_to (fun t k => XS.dcmpS X68.here hx rfl (hb hby at_166) rfl rfl k) ?_
      show own_Fin _ _ _ _ _ _ (T68.setTop (mkF m 167 #[.val (.int p1), .val (.int p2), .val (.int p3), .val (.int p4), .val (.int (0 : Int32)), .val (.int (3 : Int32)), .val (.ref wC), .val (.ref b), .val (.double FP.dconst1), .second, .val (.int (1 : Int32))] [(.int (cmpValue (FP.dcmp (FP.i2d p2) (FP.i2d p2)) .l))]))
      refine own_to (fun t k => XS.ifNo X68.here hx rfl (hb hby at_167) rfl ((if0 _ _).trans (teq (own_same p2)).2) k) ?_
      show own_Fin _ _ _ _ _ _ (T68.setTop (mkF m 170 #[.val (.int p1), .val (.int p2), .val (.int p3), .val (.int p4), .val (.int (0 : Int32)), .val (.int (3 : Int32)), .val (.ref wC), .val (.ref b), .val (.double FP.dconst1), .second, .val (.int (1 : Int32))] []))
      refine own_to (fun t k => XS.iconst X68.here hx rfl (hb hby at_170) k) ?_
      show own_Fin _ _ _ _ _ _ (T68.setTop (mkF m 171 #[.val (.int p1), .val (.int p2), .val (.int p3), .val (.int p4), .val (.int (0 : Int32)), .val (.int (3 : Int32)), .val (.ref wC), .val (.ref b), .val (.double FP.dconst1), .second, .val (.int (1 : Int32))] [(.int (1 : Int32))]))
      refine own_to (fun t k => XS.goto X68.here hx rfl (pc0 := 171) (pc' := 175) rfl (hb hby at_171) (by decide) (by decide) k) ?_
      show own_Fin _ _ _ _ _ _ (T68.setTop (mkF m 175 #[.val (.int p1), .val (.int p2), .val (.int p3), .val (.int p4), .val (.int (0 : Int32)), .val (.int (3 : Int32)), .val (.ref wC), .val (.ref b), .val (.double FP.dconst1), .second, .val (.int (1 : Int32))] [(.int (1 : Int32))]))
      refine own_to (fun t k => XS.istore X68.here hx rfl (hb hby at_175) rfl (l' := #[.val (.int p1), .val (.int p2), .val (.int p3), .val (.int p4), .val (.int (0 : Int32)), .val (.int (3 : Int32)), .val (.ref wC), .val (.ref b), .val (.double FP.dconst1), .second, .val (.int (1 : Int32))]) rfl k) ?_
      show own_Fin _ _ _ _ _ _ (T68.setTop (mkF m 177 #[.val (.int p1), .val (.int p2), .val (.int p3), .val (.int p4), .val (.int (0 : Int32)), .val (.int (3 : Int32)), .val (.ref wC), .val (.ref b), .val (.double FP.dconst1), .second, .val (.int (1 : Int32))] []))
      refine own_to (fun t k => XS.iload X68.here hx rfl (hb hby at_177) rfl k) ?_
      show own_Fin _ _ _ _ _ _ (T68.setTop (mkF m 179 #[.val (.int p1), .val (.int p2), .val (.int p3), .val (.int p4), .val (.int (0 : Int32)), .val (.int (3 : Int32)), .val (.ref wC), .val (.ref b), .val (.double FP.dconst1), .second, .val (.int (1 : Int32))] [(.int (3 : Int32))]))
      refine own_to (fun t k => XS.iconst X68.here hx rfl (hb hby at_179) k) ?_
      show own_Fin _ _ _ _ _ _ (T68.setTop (mkF m 180 #[.val (.int p1), .val (.int p2), .val (.int p3), .val (.int p4), .val (.int (0 : Int32)), .val (.int (3 : Int32)), .val (.ref wC), .val (.ref b), .val (.double FP.dconst1), .second, .val (.int (1 : Int32))] [(.int (2 : Int32)), (.int (3 : Int32))]))
      refine own_to (fun t k => XS.icmpNo X68.here hx rfl (hb hby at_180) rfl (tlt (by decide)).2.2.2 k) ?_
      show own_Fin _ _ _ _ _ _ (T68.setTop (mkF m 183 #[.val (.int p1), .val (.int p2), .val (.int p3), .val (.int p4), .val (.int (0 : Int32)), .val (.int (3 : Int32)), .val (.ref wC), .val (.ref b), .val (.double FP.dconst1), .second, .val (.int (1 : Int32))] []))
      refine own_to (fun t k => XS.iload X68.here hx rfl (hb hby at_183) rfl k) ?_
      show own_Fin _ _ _ _ _ _ (T68.setTop (mkF m 185 #[.val (.int p1), .val (.int p2), .val (.int p3), .val (.int p4), .val (.int (0 : Int32)), .val (.int (3 : Int32)), .val (.ref wC), .val (.ref b), .val (.double FP.dconst1), .second, .val (.int (1 : Int32))] [(.int (1 : Int32))]))
      refine own_to (fun t k => XS.ifNo X68.here hx rfl (hb hby at_185) rfl ((if0 _ _).trans (feq (by decide)).1) k) ?_
      show own_Fin _ _ _ _ _ _ (T68.setTop (mkF m 188 #[.val (.int p1), .val (.int p2), .val (.int p3), .val (.int p4), .val (.int (0 : Int32)), .val (.int (3 : Int32)), .val (.ref wC), .val (.ref b), .val (.double FP.dconst1), .second, .val (.int (1 : Int32))] []))
      refine own_to (fun t k => XS.aload X68.here hx rfl (hb hby at_188) rfl rfl k) ?_
      show own_Fin _ _ _ _ _ _ (T68.setTop (mkF m 190 #[.val (.int p1), .val (.int p2), .val (.int p3), .val (.int p4), .val (.int (0 : Int32)), .val (.int (3 : Int32)), .val (.ref wC), .val (.ref b), .val (.double FP.dconst1), .second, .val (.int (1 : Int32))] [(.ref b)]))
      refine own_to (fun t k => XS.iconst X68.here hx rfl (hb hby at_190) k) ?_
      show own_Fin _ _ _ _ _ _ (T68.setTop (mkF m 191 #[.val (.int p1), .val (.int p2), .val (.int p3), .val (.int p4), .val (.int (0 : Int32)), .val (.int (3 : Int32)), .val (.ref wC), .val (.ref b), .val (.double FP.dconst1), .second, .val (.int (1 : Int32))] [(.int (2 : Int32)), (.ref b)]))
      obtain ⟨cl74, Ar74, qa74, Sa74, Na74, Ha74, Ga74⟩ := id V67
      have hin75 : ¬ ((2 : Int32) < 0 ∨ cl74.slots.size ≤ ((2 : Int32)).toNatClampNeg) := inb_of Sa74 ⟨by decide, by decide⟩
      refine own_to (fun t k => X68.daload hx (j := (2 : Int32)) (v := (.double (FP.i2d p3))) (by rw [eh68]; exact Ar74.1) (State.isArrayOf_alike hZ.alike Ar74.2.1) Ar74.2.2 hin75 (Has.at Ha74 hin75 rfl) (g := (mkF m 191 #[.val (.int p1), .val (.int p2), .val (.int p3), .val (.int p4), .val (.int (0 : Int32)), .val (.int (3 : Int32)), .val (.ref wC), .val (.ref b), .val (.double FP.dconst1), .second, .val (.int (1 : Int32))] [(.int (2 : Int32)), (.ref b)])) rfl rfl (hb hby at_191) _ k) ?_
      show own_Fin _ _ _ _ _ _ (T68.setTop (mkF m 192 #[.val (.int p1), .val (.int p2), .val (.int p3), .val (.int p4), .val (.int (0 : Int32)), .val (.int (3 : Int32)), .val (.ref wC), .val (.ref b), .val (.double FP.dconst1), .second, .val (.int (1 : Int32))] [(.double (FP.i2d p3))]))
      refine own_to (fun t k => XS.iloadN X68.here hx rfl (hb hby at_192) rfl k) ?_
      show own_Fin _ _ _ _ _ _ (T68.setTop (mkF m 193 #[.val (.int p1), .val (.int p2), .val (.int p3), .val (.int p4), .val (.int (0 : Int32)), .val (.int (3 : Int32)), .val (.ref wC), .val (.ref b), .val (.double FP.dconst1), .second, .val (.int (1 : Int32))] [(.int p3), (.double (FP.i2d p3))]))
      refine own_to (fun t k => XS.i2dS X68.here hx rfl (hb hby at_193) rfl rfl k) ?_
      show own_Fin _ _ _ _ _ _ (T68.setTop (mkF m 194 #[.val (.int p1), .val (.int p2), .val (.int p3), .val (.int p4), .val (.int (0 : Int32)), .val (.int (3 : Int32)), .val (.ref wC), .val (.ref b), .val (.double FP.dconst1), .second, .val (.int (1 : Int32))] [(.double (FP.i2d p3)), (.double (FP.i2d p3))]))
      refine own_to (fun t k => XS.dcmpS X68.here hx rfl (hb hby at_194) rfl rfl k) ?_
      show own_Fin _ _ _ _ _ _ (T68.setTop (mkF m 195 #[.val (.int p1), .val (.int p2), .val (.int p3), .val (.int p4), .val (.int (0 : Int32)), .val (.int (3 : Int32)), .val (.ref wC), .val (.ref b), .val (.double FP.dconst1), .second, .val (.int (1 : Int32))] [(.int (cmpValue (FP.dcmp (FP.i2d p3) (FP.i2d p3)) .l))]))
      refine own_to (fun t k => XS.ifNo X68.here hx rfl (hb hby at_195) rfl ((if0 _ _).trans (teq (own_same p3)).2) k) ?_
      show own_Fin _ _ _ _ _ _ (T68.setTop (mkF m 198 #[.val (.int p1), .val (.int p2), .val (.int p3), .val (.int p4), .val (.int (0 : Int32)), .val (.int (3 : Int32)), .val (.ref wC), .val (.ref b), .val (.double FP.dconst1), .second, .val (.int (1 : Int32))] []))
      refine own_to (fun t k => XS.iconst X68.here hx rfl (hb hby at_198) k) ?_
      show own_Fin _ _ _ _ _ _ (T68.setTop (mkF m 199 #[.val (.int p1), .val (.int p2), .val (.int p3), .val (.int p4), .val (.int (0 : Int32)), .val (.int (3 : Int32)), .val (.ref wC), .val (.ref b), .val (.double FP.dconst1), .second, .val (.int (1 : Int32))] [(.int (1 : Int32))]))
      refine own_to (fun t k => XS.goto X68.here hx rfl (pc0 := 199) (pc' := 203) rfl (hb hby at_199) (by decide) (by decide) k) ?_
      show own_Fin _ _ _ _ _ _ (T68.setTop (mkF m 203 #[.val (.int p1), .val (.int p2), .val (.int p3), .val (.int p4), .val (.int (0 : Int32)), .val (.int (3 : Int32)), .val (.ref wC), .val (.ref b), .val (.double FP.dconst1), .second, .val (.int (1 : Int32))] [(.int (1 : Int32))]))
      refine own_to (fun t k => XS.istore X68.here hx rfl (hb hby at_203) rfl (l' := #[.val (.int p1), .val (.int p2), .val (.int p3), .val (.int p4), .val (.int (0 : Int32)), .val (.int (3 : Int32)), .val (.ref wC), .val (.ref b), .val (.double FP.dconst1), .second, .val (.int (1 : Int32))]) rfl k) ?_
      show own_Fin _ _ _ _ _ _ (T68.setTop (mkF m 205 #[.val (.int p1), .val (.int p2), .val (.int p3), .val (.int p4), .val (.int (0 : Int32)), .val (.int (3 : Int32)), .val (.ref wC), .val (.ref b), .val (.double FP.dconst1), .second, .val (.int (1 : Int32))] []))
      refine own_to (fun t k => XS.iload X68.here hx rfl (hb hby at_205) rfl k) ?_
      show own_Fin _ _ _ _ _ _ (T68.setTop (mkF m 207 #[.val (.int p1), .val (.int p2), .val (.int p3), .val (.int p4), .val (.int (0 : Int32)), .val (.int (3 : Int32)), .val (.ref wC), .val (.ref b), .val (.double FP.dconst1), .second, .val (.int (1 : Int32))] [(.int (1 : Int32))]))
      refine own_retN X68 hx hlk (t := .boolean) hret (by simp) (hb hby at_207) (by decide) (by decide) ?_
      try rw [eh68]
      exact ⟨rfl, N68⟩
  ·
    show own_Fin _ _ _ _ _ _ (s₁.setTop (mkF m 3 #[.val (.int p1), .val (.int p2), .val (.int p3), .val (.int p4), .unset, .unset, .unset, .unset, .unset, .unset, .unset] [(.int (p4 &&& (1 : Int32)))]))
    refine own_to (fun t k => XS.ifNo X0.here hx rfl (hb hby at_3) rfl ((if0 _ _).trans (feq hc3_34).1) k) ?_
    show own_Fin _ _ _ _ _ _ (s₁.setTop (mkF m 6 #[.val (.int p1), .val (.int p2), .val (.int p3), .val (.int p4), .unset, .unset, .unset, .unset, .unset, .unset, .unset] []))
    refine own_to (fun t k => XS.iconst X0.here hx rfl (hb hby at_6) k) ?_
    show own_Fin _ _ _ _ _ _ (s₁.setTop (mkF m 7 #[.val (.int p1), .val (.int p2), .val (.int p3), .val (.int p4), .unset, .unset, .unset, .unset, .unset, .unset, .unset] [(.int (1 : Int32))]))
    refine own_to (fun t k => XS.goto X0.here hx rfl (pc0 := 7) (pc' := 11) rfl (hb hby at_7) (by decide) (by decide) k) ?_
    show own_Fin _ _ _ _ _ _ (s₁.setTop (mkF m 11 #[.val (.int p1), .val (.int p2), .val (.int p3), .val (.int p4), .unset, .unset, .unset, .unset, .unset, .unset, .unset] [(.int (1 : Int32))]))
    refine own_to (fun t k => XS.istore X0.here hx rfl (hb hby at_11) rfl (l' := #[.val (.int p1), .val (.int p2), .val (.int p3), .val (.int p4), .val (.int (1 : Int32)), .unset, .unset, .unset, .unset, .unset, .unset]) rfl k) ?_
    show own_Fin _ _ _ _ _ _ (s₁.setTop (mkF m 13 #[.val (.int p1), .val (.int p2), .val (.int p3), .val (.int p4), .val (.int (1 : Int32)), .unset, .unset, .unset, .unset, .unset, .unset] []))
    refine own_to (fun t k => XS.iloadN X0.here hx rfl (hb hby at_13) rfl k) ?_
    show own_Fin _ _ _ _ _ _ (s₁.setTop (mkF m 14 #[.val (.int p1), .val (.int p2), .val (.int p3), .val (.int p4), .val (.int (1 : Int32)), .unset, .unset, .unset, .unset, .unset, .unset] [(.int p4)]))
    refine own_to (fun t k => XS.iconst X0.here hx rfl (hb hby at_14) k) ?_
    show own_Fin _ _ _ _ _ _ (s₁.setTop (mkF m 15 #[.val (.int p1), .val (.int p2), .val (.int p3), .val (.int p4), .val (.int (1 : Int32)), .unset, .unset, .unset, .unset, .unset, .unset] [(.int (1 : Int32)), (.int p4)]))
    refine own_to (fun t k => XS.iushr X0.here hx rfl (hb hby at_15) rfl k) ?_
    show own_Fin _ _ _ _ _ _ (s₁.setTop (mkF m 16 #[.val (.int p1), .val (.int p2), .val (.int p3), .val (.int p4), .val (.int (1 : Int32)), .unset, .unset, .unset, .unset, .unset, .unset] [(.int ((p4.toUInt32 >>> ((1 : Int32) &&& 31).toUInt32).toInt32))]))
    refine own_to (fun t k => XS.iconst X0.here hx rfl (hb hby at_16) k) ?_
    show own_Fin _ _ _ _ _ _ (s₁.setTop (mkF m 17 #[.val (.int p1), .val (.int p2), .val (.int p3), .val (.int p4), .val (.int (1 : Int32)), .unset, .unset, .unset, .unset, .unset, .unset] [(.int (3 : Int32)), (.int ((p4.toUInt32 >>> ((1 : Int32) &&& 31).toUInt32).toInt32))]))
    refine own_to (fun t k => XS.iand X0.here hx rfl (hb hby at_17) rfl k) ?_
    show own_Fin _ _ _ _ _ _ (s₁.setTop (mkF m 18 #[.val (.int p1), .val (.int p2), .val (.int p3), .val (.int p4), .val (.int (1 : Int32)), .unset, .unset, .unset, .unset, .unset, .unset] [(.int (((p4.toUInt32 >>> ((1 : Int32) &&& 31).toUInt32).toInt32) &&& (3 : Int32)))]))
    refine own_to (fun t k => XS.istore X0.here hx rfl (hb hby at_18) rfl (l' := #[.val (.int p1), .val (.int p2), .val (.int p3), .val (.int p4), .val (.int (1 : Int32)), .val (.int (((p4.toUInt32 >>> ((1 : Int32) &&& 31).toUInt32).toInt32) &&& (3 : Int32))), .unset, .unset, .unset, .unset, .unset]) rfl k) ?_
    show own_Fin _ _ _ _ _ _ (s₁.setTop (mkF m 20 #[.val (.int p1), .val (.int p2), .val (.int p3), .val (.int p4), .val (.int (1 : Int32)), .val (.int (((p4.toUInt32 >>> ((1 : Int32) &&& 31).toUInt32).toInt32) &&& (3 : Int32))), .unset, .unset, .unset, .unset, .unset] []))
    refine own_to (fun t k => XS.iload X0.here hx rfl (hb hby at_20) rfl k) ?_
    show own_Fin _ _ _ _ _ _ (s₁.setTop (mkF m 22 #[.val (.int p1), .val (.int p2), .val (.int p3), .val (.int p4), .val (.int (1 : Int32)), .val (.int (((p4.toUInt32 >>> ((1 : Int32) &&& 31).toUInt32).toInt32) &&& (3 : Int32))), .unset, .unset, .unset, .unset, .unset] [(.int (1 : Int32))]))
    refine own_to (fun t k => XS.ifNo X0.here hx rfl (hb hby at_22) rfl ((if0 _ _).trans (feq (by decide)).1) k) ?_
    show own_Fin _ _ _ _ _ _ (s₁.setTop (mkF m 25 #[.val (.int p1), .val (.int p2), .val (.int p3), .val (.int p4), .val (.int (1 : Int32)), .val (.int (((p4.toUInt32 >>> ((1 : Int32) &&& 31).toUInt32).toInt32) &&& (3 : Int32))), .unset, .unset, .unset, .unset, .unset] []))
    obtain ⟨T76, X76, e76, st76⟩ := getS2 X0 hx hZ hown (host := "") (Or.inl (hw _ (List.mem_of_getElem? (i := 0) rfl))) Via.refl e0 (SS.ext O0.2) (g := (mkF m 25 #[.val (.int p1), .val (.int p2), .val (.int p3), .val (.int p4), .val (.int (1 : Int32)), .val (.int (((p4.toUInt32 >>> ((1 : Int32) &&& 31).toUInt32).toInt32) &&& (3 : Int32))), .unset, .unset, .unset, .unset, .unset] [])) rfl (hb hby at_25)
    refine own_to (fun t k => st76 t k) ?_
    show own_Fin _ _ _ _ _ _ (T76.setTop (mkF m 28 #[.val (.int p1), .val (.int p2), .val (.int p3), .val (.int p4), .val (.int (1 : Int32)), .val (.int (((p4.toUInt32 >>> ((1 : Int32) &&& 31).toUInt32).toInt32) &&& (3 : Int32))), .unset, .unset, .unset, .unset, .unset] [(.ref wP)]))
    refine own_to (fun t k => XS.goto X76.here hx rfl (pc0 := 28) (pc' := 34) rfl (hb hby at_28) (by decide) (by decide) k) ?_
    show own_Fin _ _ _ _ _ _ (T76.setTop (mkF m 34 #[.val (.int p1), .val (.int p2), .val (.int p3), .val (.int p4), .val (.int (1 : Int32)), .val (.int (((p4.toUInt32 >>> ((1 : Int32) &&& 31).toUInt32).toInt32) &&& (3 : Int32))), .unset, .unset, .unset, .unset, .unset] [(.ref wP)]))
    refine own_to (fun t k => XS.astore X76.here hx rfl (hb hby at_34) rfl rfl (l' := #[.val (.int p1), .val (.int p2), .val (.int p3), .val (.int p4), .val (.int (1 : Int32)), .val (.int (((p4.toUInt32 >>> ((1 : Int32) &&& 31).toUInt32).toInt32) &&& (3 : Int32))), .val (.ref wP), .unset, .unset, .unset, .unset]) rfl k) ?_
    show own_Fin _ _ _ _ _ _ (T76.setTop (mkF m 36 #[.val (.int p1), .val (.int p2), .val (.int p3), .val (.int p4), .val (.int (1 : Int32)), .val (.int (((p4.toUInt32 >>> ((1 : Int32) &&& 31).toUInt32).toInt32) &&& (3 : Int32))), .val (.ref wP), .unset, .unset, .unset, .unset] []))
    refine own_to (fun t k => XS.iload X76.here hx rfl (hb hby at_36) rfl k) ?_
    show own_Fin _ _ _ _ _ _ (T76.setTop (mkF m 38 #[.val (.int p1), .val (.int p2), .val (.int p3), .val (.int p4), .val (.int (1 : Int32)), .val (.int (((p4.toUInt32 >>> ((1 : Int32) &&& 31).toUInt32).toInt32) &&& (3 : Int32))), .val (.ref wP), .unset, .unset, .unset, .unset] [(.int (((p4.toUInt32 >>> ((1 : Int32) &&& 31).toUInt32).toInt32) &&& (3 : Int32)))]))
    rcases own_four ((p4.toUInt32 >>> ((1 : Int32) &&& 31).toUInt32).toInt32) with hl | hl | hl | hl
    ·
      rw [hl]
      show own_Fin _ _ _ _ _ _ (T76.setTop (mkF m 38 #[.val (.int p1), .val (.int p2), .val (.int p3), .val (.int p4), .val (.int (1 : Int32)), .val (.int (0 : Int32)), .val (.ref wP), .unset, .unset, .unset, .unset] [(.int (0 : Int32))]))
      obtain ⟨T77, h77, k77, X77, e77, E77, A77, A77x, st77⟩ := newPE X76 hx hZ (hw _ (List.mem_of_getElem? (i := 3) rfl)) e76 (g := (mkF m 38 #[.val (.int p1), .val (.int p2), .val (.int p3), .val (.int p4), .val (.int (1 : Int32)), .val (.int (0 : Int32)), .val (.ref wP), .unset, .unset, .unset, .unset] [(.int (0 : Int32))])) rfl (hb hby at_38) rfl (by decide) (cap := 0) (by decide) (by decide) (by decide) (by decide) (ad := "[D") (by decide)
      obtain ⟨b, q77⟩ : ∃ z, z = h0.size := ⟨_, rfl⟩
      rw [← q77] at A77 A77x st77
      have ne_wP_b : wP ≠ b := Nat.ne_of_lt (Nat.lt_of_lt_of_le EP.lt (Nat.le_of_eq q77.symm))
      have ne_wC_b : wC ≠ b := Nat.ne_of_lt (Nat.lt_of_lt_of_le EC.lt (Nat.le_of_eq q77.symm))
      have g_b : n0 ≤ b := Nat.le_trans Z0 (Nat.le_of_eq q77.symm)
      have O77 := O0.ext E77
      have EP_e77 := EP.ext E77
      have EC_e77 := EC.ext E77
      have V77 := Arv.new A77 (by decide)
      refine own_to (fun t k => st77 t k) ?_
      show own_Fin _ _ _ _ _ _ (T77.setTop (mkF m 40 #[.val (.int p1), .val (.int p2), .val (.int p3), .val (.int p4), .val (.int (1 : Int32)), .val (.int (0 : Int32)), .val (.ref wP), .unset, .unset, .unset, .unset] [(.ref b)]))
      have V78p : Arv Z h77 b k77 .double (0 : Int32) [] (.double (0 : UInt64)) := V77.pad (pad_rep [] (.double (0 : UInt64)) 0)
      refine own_to (fun t k => XS.astore X77.here hx rfl (hb hby at_40) rfl rfl (l' := #[.val (.int p1), .val (.int p2), .val (.int p3), .val (.int p4), .val (.int (1 : Int32)), .val (.int (0 : Int32)), .val (.ref wP), .val (.ref b), .unset, .unset, .unset]) rfl k) ?_
      show own_Fin _ _ _ _ _ _ (T77.setTop (mkF m 42 #[.val (.int p1), .val (.int p2), .val (.int p3), .val (.int p4), .val (.int (1 : Int32)), .val (.int (0 : Int32)), .val (.ref wP), .val (.ref b), .unset, .unset, .unset] []))
      refine own_to (fun t k => XS.iload X77.here hx rfl (hb hby at_42) rfl k) ?_
      show own_Fin _ _ _ _ _ _ (T77.setTop (mkF m 44 #[.val (.int p1), .val (.int p2), .val (.int p3), .val (.int p4), .val (.int (1 : Int32)), .val (.int (0 : Int32)), .val (.ref wP), .val (.ref b), .unset, .unset, .unset] [(.int (1 : Int32))]))
      refine own_to (fun t k => XS.ifNo X77.here hx rfl (hb hby at_44) rfl ((if0 _ _).trans (feq (by decide)).1) k) ?_
      show own_Fin _ _ _ _ _ _ (T77.setTop (mkF m 47 #[.val (.int p1), .val (.int p2), .val (.int p3), .val (.int p4), .val (.int (1 : Int32)), .val (.int (0 : Int32)), .val (.ref wP), .val (.ref b), .unset, .unset, .unset] []))
      refine own_to (fun t k => XS.iload X77.here hx rfl (hb hby at_47) rfl k) ?_
      show own_Fin _ _ _ _ _ _ (T77.setTop (mkF m 49 #[.val (.int p1), .val (.int p2), .val (.int p3), .val (.int p4), .val (.int (1 : Int32)), .val (.int (0 : Int32)), .val (.ref wP), .val (.ref b), .unset, .unset, .unset] [(.int (0 : Int32))]))
      refine own_to (fun t k => XS.i2dS X77.here hx rfl (hb hby at_49) rfl rfl k) ?_
      show own_Fin _ _ _ _ _ _ (T77.setTop (mkF m 50 #[.val (.int p1), .val (.int p2), .val (.int p3), .val (.int p4), .val (.int (1 : Int32)), .val (.int (0 : Int32)), .val (.ref wP), .val (.ref b), .unset, .unset, .unset] [(.double (FP.i2d (0 : Int32)))]))
      refine own_to (fun t k => XS.goto X77.here hx rfl (pc0 := 50) (pc' := 54) rfl (hb hby at_50) (by decide) (by decide) k) ?_
      show own_Fin _ _ _ _ _ _ (T77.setTop (mkF m 54 #[.val (.int p1), .val (.int p2), .val (.int p3), .val (.int p4), .val (.int (1 : Int32)), .val (.int (0 : Int32)), .val (.ref wP), .val (.ref b), .unset, .unset, .unset] [(.double (FP.i2d (0 : Int32)))]))
      refine own_to (fun t k => XS.dstore X77.here hx rfl (hb hby at_54) rfl (l' := #[.val (.int p1), .val (.int p2), .val (.int p3), .val (.int p4), .val (.int (1 : Int32)), .val (.int (0 : Int32)), .val (.ref wP), .val (.ref b), .val (.double (FP.i2d (0 : Int32))), .second, .unset]) rfl k) ?_
      show own_Fin _ _ _ _ _ _ (T77.setTop (mkF m 56 #[.val (.int p1), .val (.int p2), .val (.int p3), .val (.int p4), .val (.int (1 : Int32)), .val (.int (0 : Int32)), .val (.ref wP), .val (.ref b), .val (.double (FP.i2d (0 : Int32))), .second, .unset] []))
      refine own_to (fun t k => XS.iload X77.here hx rfl (hb hby at_56) rfl k) ?_
      show own_Fin _ _ _ _ _ _ (T77.setTop (mkF m 58 #[.val (.int p1), .val (.int p2), .val (.int p3), .val (.int p4), .val (.int (1 : Int32)), .val (.int (0 : Int32)), .val (.ref wP), .val (.ref b), .val (.double (FP.i2d (0 : Int32))), .second, .unset] [(.int (0 : Int32))]))
      refine own_to (fun t k => XS.ifYes X77.here hx rfl (pc0 := 58) (pc' := 70) rfl (hb hby at_58) rfl ((if0 _ _).trans (flt (Int32.lt_irrefl)).2.2.2) (by decide) (by decide) k) ?_
      show own_Fin _ _ _ _ _ _ (T77.setTop (mkF m 70 #[.val (.int p1), .val (.int p2), .val (.int p3), .val (.int p4), .val (.int (1 : Int32)), .val (.int (0 : Int32)), .val (.ref wP), .val (.ref b), .val (.double (FP.i2d (0 : Int32))), .second, .unset] []))
      refine own_to (fun t k => XS.iload X77.here hx rfl (hb hby at_70) rfl k) ?_
      show own_Fin _ _ _ _ _ _ (T77.setTop (mkF m 72 #[.val (.int p1), .val (.int p2), .val (.int p3), .val (.int p4), .val (.int (1 : Int32)), .val (.int (0 : Int32)), .val (.ref wP), .val (.ref b), .val (.double (FP.i2d (0 : Int32))), .second, .unset] [(.int (0 : Int32))]))
      refine own_to (fun t k => XS.iconst X77.here hx rfl (hb hby at_72) k) ?_
      show own_Fin _ _ _ _ _ _ (T77.setTop (mkF m 73 #[.val (.int p1), .val (.int p2), .val (.int p3), .val (.int p4), .val (.int (1 : Int32)), .val (.int (0 : Int32)), .val (.ref wP), .val (.ref b), .val (.double (FP.i2d (0 : Int32))), .second, .unset] [(.int (1 : Int32)), (.int (0 : Int32))]))
      refine own_to (fun t k => XS.icmpYes X77.here hx rfl (pc0 := 73) (pc' := 85) rfl (hb hby at_73) rfl (flt (by decide)).2.2.2 (by decide) (by decide) k) ?_
      show own_Fin _ _ _ _ _ _ (T77.setTop (mkF m 85 #[.val (.int p1), .val (.int p2), .val (.int p3), .val (.int p4), .val (.int (1 : Int32)), .val (.int (0 : Int32)), .val (.ref wP), .val (.ref b), .val (.double (FP.i2d (0 : Int32))), .second, .unset] []))
      refine own_to (fun t k => XS.iload X77.here hx rfl (hb hby at_85) rfl k) ?_
      show own_Fin _ _ _ _ _ _ (T77.setTop (mkF m 87 #[.val (.int p1), .val (.int p2), .val (.int p3), .val (.int p4), .val (.int (1 : Int32)), .val (.int (0 : Int32)), .val (.ref wP), .val (.ref b), .val (.double (FP.i2d (0 : Int32))), .second, .unset] [(.int (0 : Int32))]))
      refine own_to (fun t k => XS.iconst X77.here hx rfl (hb hby at_87) k) ?_
      show own_Fin _ _ _ _ _ _ (T77.setTop (mkF m 88 #[.val (.int p1), .val (.int p2), .val (.int p3), .val (.int p4), .val (.int (1 : Int32)), .val (.int (0 : Int32)), .val (.ref wP), .val (.ref b), .val (.double (FP.i2d (0 : Int32))), .second, .unset] [(.int (2 : Int32)), (.int (0 : Int32))]))
      refine own_to (fun t k => XS.icmpYes X77.here hx rfl (pc0 := 88) (pc' := 100) rfl (hb hby at_88) rfl (flt (by decide)).2.2.2 (by decide) (by decide) k) ?_
      show own_Fin _ _ _ _ _ _ (T77.setTop (mkF m 100 #[.val (.int p1), .val (.int p2), .val (.int p3), .val (.int p4), .val (.int (1 : Int32)), .val (.int (0 : Int32)), .val (.ref wP), .val (.ref b), .val (.double (FP.i2d (0 : Int32))), .second, .unset] []))
      refine own_to (fun t k => XS.aload X77.here hx rfl (hb hby at_100) rfl rfl k) ?_
      show own_Fin _ _ _ _ _ _ (T77.setTop (mkF m 102 #[.val (.int p1), .val (.int p2), .val (.int p3), .val (.int p4), .val (.int (1 : Int32)), .val (.int (0 : Int32)), .val (.ref wP), .val (.ref b), .val (.double (FP.i2d (0 : Int32))), .second, .unset] [(.ref wP)]))
      refine own_to (fun t k => XS.aload X77.here hx rfl (hb hby at_102) rfl rfl k) ?_
      show own_Fin _ _ _ _ _ _ (T77.setTop (mkF m 104 #[.val (.int p1), .val (.int p2), .val (.int p3), .val (.int p4), .val (.int (1 : Int32)), .val (.int (0 : Int32)), .val (.ref wP), .val (.ref b), .val (.double (FP.i2d (0 : Int32))), .second, .unset] [(.ref b), (.ref wP)]))
      obtain ⟨cq79, kq79, q79a, q79b, q79c⟩ := isOf hZ e77 EP_e77
      obtain ⟨_, _, ⟨T79, L79, k79, n79⟩, -, X79, ⟨Lc79, hQ79, l79, y79, z79⟩, st79⟩ := X77.virtualBack hx (y := (⟨"com/example/walk_to_worth/walktoworth/solver/Scale", "rescale", "([D)V"⟩ : MethodName)) (z := (⟨"com/example/walk_to_worth/walktoworth/solver/Scale", "rescale", "([D)V"⟩ : MethodName)) hown (mvT hZ (hw _ (List.mem_of_getElem? (i := 4) rfl))) (mvT hZ (hw _ (List.mem_of_getElem? (i := 5) rfl))) (notFace_of_selects (args := #[]) (mvT hZ (hw _ (List.mem_of_getElem? (i := 7) rfl)))) (mvT hZ (hw _ (List.mem_of_getElem? (i := 7) rfl))) (mvT hZ (hw _ (List.mem_of_getElem? (i := 6) rfl))) (by decide) (own_back (W := 0) (own_resP0 l Z a0 hw [] wP b k77  h77 n0 (Nat.le_trans Z0 E77.1) O77 SS V78p g_b) hZ (hw _ (List.mem_of_getElem? (i := 8) rfl)) (hw _ (List.mem_of_getElem? (i := 1) rfl)) (by decide) (by decide)) q79a q79c (g := (mkF m 104 #[.val (.int p1), .val (.int p2), .val (.int p3), .val (.int p4), .val (.int (1 : Int32)), .val (.int (0 : Int32)), .val (.ref wP), .val (.ref b), .val (.double (FP.i2d (0 : Int32))), .second, .unset] [(.ref b), (.ref wP)])) rfl (by rw [hml]; rfl) (Steps.refl _) (argsL := [(.ref b)]) (rest := []) (lenOf own_pd0 rfl) rfl (by show 2 * 0 + _ ≤ _; exact Nat.le_of_eq rfl) (hb hby at_104) (fun _ _ => ⟨rfl, e77, (by decide : 1 + 0 ≤ _), (by decide : 0 + 0 ≤ _)⟩)
      dsimp only [Pt.U, Pt.locs, Pt.cells, Pt.slots] at X79 l79 y79 z79 st79 hQ79
      subst l79 y79 z79
      obtain ⟨rfl, N79q, K79, Vr79⟩ := hQ79
      have N79 := Fr.app N0 N79q
      have O79 := O77.keep K79 (allS g_b all0)
      have EP_e79 := EP_e77.keep K79
      have EC_e79 := EC_e77.keep K79
      have A77x_e79 := A77x.keep K79
      refine own_to (fun t k => st79.trans k) ?_
      show own_Fin _ _ _ _ _ _ (T79.setTop (mkF m 107 #[.val (.int p1), .val (.int p2), .val (.int p3), .val (.int p4), .val (.int (1 : Int32)), .val (.int (0 : Int32)), .val (.ref wP), .val (.ref b), .val (.double (FP.i2d (0 : Int32))), .second, .unset] []))
      refine own_to (fun t k => XS.aload X79.here hx rfl (hb hby at_107) rfl rfl k) ?_
      show own_Fin _ _ _ _ _ _ (T79.setTop (mkF m 109 #[.val (.int p1), .val (.int p2), .val (.int p3), .val (.int p4), .val (.int (1 : Int32)), .val (.int (0 : Int32)), .val (.ref wP), .val (.ref b), .val (.double (FP.i2d (0 : Int32))), .second, .unset] [(.ref b)]))
      obtain ⟨cl80, Ar80, qa80, Sa80, Na80, Ha80, Ga80⟩ := id Vr79
      refine own_to (fun t k => X79.arraylength hx Ar80.1 (State.isArrayOf_alike hZ.alike Ar80.2.1) (g := (mkF m 109 #[.val (.int p1), .val (.int p2), .val (.int p3), .val (.int p4), .val (.int (1 : Int32)), .val (.int (0 : Int32)), .val (.ref wP), .val (.ref b), .val (.double (FP.i2d (0 : Int32))), .second, .unset] [(.ref b)])) rfl rfl (hb hby at_109) _ k) ?_
      rw [len_of Sa80 Na80]
      show own_Fin _ _ _ _ _ _ (T79.setTop (mkF m 110 #[.val (.int p1), .val (.int p2), .val (.int p3), .val (.int p4), .val (.int (1 : Int32)), .val (.int (0 : Int32)), .val (.ref wP), .val (.ref b), .val (.double (FP.i2d (0 : Int32))), .second, .unset] [(.int (0 : Int32))]))
      refine own_to (fun t k => XS.iload X79.here hx rfl (hb hby at_110) rfl k) ?_
      show own_Fin _ _ _ _ _ _ (T79.setTop (mkF m 112 #[.val (.int p1), .val (.int p2), .val (.int p3), .val (.int p4), .val (.int (1 : Int32)), .val (.int (0 : Int32)), .val (.ref wP), .val (.ref b), .val (.double (FP.i2d (0 : Int32))), .second, .unset] [(.int (0 : Int32)), (.int (0 : Int32))]))
      refine own_to (fun t k => XS.icmpNo X79.here hx rfl (hb hby at_112) rfl (teq rfl).2 k) ?_
      show own_Fin _ _ _ _ _ _ (T79.setTop (mkF m 115 #[.val (.int p1), .val (.int p2), .val (.int p3), .val (.int p4), .val (.int (1 : Int32)), .val (.int (0 : Int32)), .val (.ref wP), .val (.ref b), .val (.double (FP.i2d (0 : Int32))), .second, .unset] []))
      refine own_to (fun t k => XS.iconst X79.here hx rfl (hb hby at_115) k) ?_
      show own_Fin _ _ _ _ _ _ (T79.setTop (mkF m 116 #[.val (.int p1), .val (.int p2), .val (.int p3), .val (.int p4), .val (.int (1 : Int32)), .val (.int (0 : Int32)), .val (.ref wP), .val (.ref b), .val (.double (FP.i2d (0 : Int32))), .second, .unset] [(.int (1 : Int32))]))
      refine own_to (fun t k => XS.goto X79.here hx rfl (pc0 := 116) (pc' := 120) rfl (hb hby at_116) (by decide) (by decide) k) ?_
      show own_Fin _ _ _ _ _ _ (T79.setTop (mkF m 120 #[.val (.int p1), .val (.int p2), .val (.int p3), .val (.int p4), .val (.int (1 : Int32)), .val (.int (0 : Int32)), .val (.ref wP), .val (.ref b), .val (.double (FP.i2d (0 : Int32))), .second, .unset] [(.int (1 : Int32))]))
      refine own_to (fun t k => XS.istore X79.here hx rfl (hb hby at_120) rfl (l' := #[.val (.int p1), .val (.int p2), .val (.int p3), .val (.int p4), .val (.int (1 : Int32)), .val (.int (0 : Int32)), .val (.ref wP), .val (.ref b), .val (.double (FP.i2d (0 : Int32))), .second, .val (.int (1 : Int32))]) rfl k) ?_
      show own_Fin _ _ _ _ _ _ (T79.setTop (mkF m 122 #[.val (.int p1), .val (.int p2), .val (.int p3), .val (.int p4), .val (.int (1 : Int32)), .val (.int (0 : Int32)), .val (.ref wP), .val (.ref b), .val (.double (FP.i2d (0 : Int32))), .second, .val (.int (1 : Int32))] []))
      refine own_to (fun t k => XS.iload X79.here hx rfl (hb hby at_122) rfl k) ?_
      show own_Fin _ _ _ _ _ _ (T79.setTop (mkF m 124 #[.val (.int p1), .val (.int p2), .val (.int p3), .val (.int p4), .val (.int (1 : Int32)), .val (.int (0 : Int32)), .val (.ref wP), .val (.ref b), .val (.double (FP.i2d (0 : Int32))), .second, .val (.int (1 : Int32))] [(.int (0 : Int32))]))
      refine own_to (fun t k => XS.ifYes X79.here hx rfl (pc0 := 124) (pc' := 149) rfl (hb hby at_124) rfl ((if0 _ _).trans (flt (Int32.lt_irrefl)).2.2.2) (by decide) (by decide) k) ?_
      show own_Fin _ _ _ _ _ _ (T79.setTop (mkF m 149 #[.val (.int p1), .val (.int p2), .val (.int p3), .val (.int p4), .val (.int (1 : Int32)), .val (.int (0 : Int32)), .val (.ref wP), .val (.ref b), .val (.double (FP.i2d (0 : Int32))), .second, .val (.int (1 : Int32))] []))
      refine own_to (fun t k => XS.iload X79.here hx rfl (hb hby at_149) rfl k) ?_
      show own_Fin _ _ _ _ _ _ (T79.setTop (mkF m 151 #[.val (.int p1), .val (.int p2), .val (.int p3), .val (.int p4), .val (.int (1 : Int32)), .val (.int (0 : Int32)), .val (.ref wP), .val (.ref b), .val (.double (FP.i2d (0 : Int32))), .second, .val (.int (1 : Int32))] [(.int (0 : Int32))]))
      refine own_to (fun t k => XS.iconst X79.here hx rfl (hb hby at_151) k) ?_
      show own_Fin _ _ _ _ _ _ (T79.setTop (mkF m 152 #[.val (.int p1), .val (.int p2), .val (.int p3), .val (.int p4), .val (.int (1 : Int32)), .val (.int (0 : Int32)), .val (.ref wP), .val (.ref b), .val (.double (FP.i2d (0 : Int32))), .second, .val (.int (1 : Int32))] [(.int (1 : Int32)), (.int (0 : Int32))]))
      refine own_to (fun t k => XS.icmpYes X79.here hx rfl (pc0 := 152) (pc' := 177) rfl (hb hby at_152) rfl (flt (by decide)).2.2.2 (by decide) (by decide) k) ?_
      show own_Fin _ _ _ _ _ _ (T79.setTop (mkF m 177 #[.val (.int p1), .val (.int p2), .val (.int p3), .val (.int p4), .val (.int (1 : Int32)), .val (.int (0 : Int32)), .val (.ref wP), .val (.ref b), .val (.double (FP.i2d (0 : Int32))), .second, .val (.int (1 : Int32))] []))
      refine own_to (fun t k => XS.iload X79.here hx rfl (hb hby at_177) rfl k) ?_
      show own_Fin _ _ _ _ _ _ (T79.setTop (mkF m 179 #[.val (.int p1), .val (.int p2), .val (.int p3), .val (.int p4), .val (.int (1 : Int32)), .val (.int (0 : Int32)), .val (.ref wP), .val (.ref b), .val (.double (FP.i2d (0 : Int32))), .second, .val (.int (1 : Int32))] [(.int (0 : Int32))]))
      refine own_to (fun t k => XS.iconst X79.here hx rfl (hb hby at_179) k) ?_
      show own_Fin _ _ _ _ _ _ (T79.setTop (mkF m 180 #[.val (.int p1), .val (.int p2), .val (.int p3), .val (.int p4), .val (.int (1 : Int32)), .val (.int (0 : Int32)), .val (.ref wP), .val (.ref b), .val (.double (FP.i2d (0 : Int32))), .second, .val (.int (1 : Int32))] [(.int (2 : Int32)), (.int (0 : Int32))]))
      refine own_to (fun t k => XS.icmpYes X79.here hx rfl (pc0 := 180) (pc' := 205) rfl (hb hby at_180) rfl (flt (by decide)).2.2.2 (by decide) (by decide) k) ?_
      show own_Fin _ _ _ _ _ _ (T79.setTop (mkF m 205 #[.val (.int p1), .val (.int p2), .val (.int p3), .val (.int p4), .val (.int (1 : Int32)), .val (.int (0 : Int32)), .val (.ref wP), .val (.ref b), .val (.double (FP.i2d (0 : Int32))), .second, .val (.int (1 : Int32))] []))
      refine own_to (fun t k => XS.iload X79.here hx rfl (hb hby at_205) rfl k) ?_
      show own_Fin _ _ _ _ _ _ (T79.setTop (mkF m 207 #[.val (.int p1), .val (.int p2), .val (.int p3), .val (.int p4), .val (.int (1 : Int32)), .val (.int (0 : Int32)), .val (.ref wP), .val (.ref b), .val (.double (FP.i2d (0 : Int32))), .second, .val (.int (1 : Int32))] [(.int (1 : Int32))]))
      refine own_retN X79 hx hlk (t := .boolean) hret (by simp) (hb hby at_207) (by decide) (by decide) ?_
      exact ⟨rfl, N79⟩
    ·
      rw [hl]
      show own_Fin _ _ _ _ _ _ (T76.setTop (mkF m 38 #[.val (.int p1), .val (.int p2), .val (.int p3), .val (.int p4), .val (.int (1 : Int32)), .val (.int (1 : Int32)), .val (.ref wP), .unset, .unset, .unset, .unset] [(.int (1 : Int32))]))
      obtain ⟨T81, h81, k81, X81, e81, E81, A81, A81x, st81⟩ := newPE X76 hx hZ (hw _ (List.mem_of_getElem? (i := 3) rfl)) e76 (g := (mkF m 38 #[.val (.int p1), .val (.int p2), .val (.int p3), .val (.int p4), .val (.int (1 : Int32)), .val (.int (1 : Int32)), .val (.ref wP), .unset, .unset, .unset, .unset] [(.int (1 : Int32))])) rfl (hb hby at_38) rfl (by decide) (cap := 1) (by decide) (by decide) (by decide) (by decide) (ad := "[D") (by decide)
      obtain ⟨b, q81⟩ : ∃ z, z = h0.size := ⟨_, rfl⟩
      rw [← q81] at A81 A81x st81
      have ne_wP_b : wP ≠ b := Nat.ne_of_lt (Nat.lt_of_lt_of_le EP.lt (Nat.le_of_eq q81.symm))
      have ne_wC_b : wC ≠ b := Nat.ne_of_lt (Nat.lt_of_lt_of_le EC.lt (Nat.le_of_eq q81.symm))
      have g_b : n0 ≤ b := Nat.le_trans Z0 (Nat.le_of_eq q81.symm)
      have O81 := O0.ext E81
      have EP_e81 := EP.ext E81
      have EC_e81 := EC.ext E81
      have V81 := Arv.new A81 (by decide)
      refine own_to (fun t k => st81 t k) ?_
      show own_Fin _ _ _ _ _ _ (T81.setTop (mkF m 40 #[.val (.int p1), .val (.int p2), .val (.int p3), .val (.int p4), .val (.int (1 : Int32)), .val (.int (1 : Int32)), .val (.ref wP), .unset, .unset, .unset, .unset] [(.ref b)]))
      have V82p : Arv Z h81 b k81 .double (1 : Int32) [(.double (0 : UInt64))] (.double (0 : UInt64)) := V81.pad (pad_rep [] (.double (0 : UInt64)) 1)
      refine own_to (fun t k => XS.astore X81.here hx rfl (hb hby at_40) rfl rfl (l' := #[.val (.int p1), .val (.int p2), .val (.int p3), .val (.int p4), .val (.int (1 : Int32)), .val (.int (1 : Int32)), .val (.ref wP), .val (.ref b), .unset, .unset, .unset]) rfl k) ?_
      show own_Fin _ _ _ _ _ _ (T81.setTop (mkF m 42 #[.val (.int p1), .val (.int p2), .val (.int p3), .val (.int p4), .val (.int (1 : Int32)), .val (.int (1 : Int32)), .val (.ref wP), .val (.ref b), .unset, .unset, .unset] []))
      refine own_to (fun t k => XS.iload X81.here hx rfl (hb hby at_42) rfl k) ?_
      show own_Fin _ _ _ _ _ _ (T81.setTop (mkF m 44 #[.val (.int p1), .val (.int p2), .val (.int p3), .val (.int p4), .val (.int (1 : Int32)), .val (.int (1 : Int32)), .val (.ref wP), .val (.ref b), .unset, .unset, .unset] [(.int (1 : Int32))]))
      refine own_to (fun t k => XS.ifNo X81.here hx rfl (hb hby at_44) rfl ((if0 _ _).trans (feq (by decide)).1) k) ?_
      show own_Fin _ _ _ _ _ _ (T81.setTop (mkF m 47 #[.val (.int p1), .val (.int p2), .val (.int p3), .val (.int p4), .val (.int (1 : Int32)), .val (.int (1 : Int32)), .val (.ref wP), .val (.ref b), .unset, .unset, .unset] []))
      refine own_to (fun t k => XS.iload X81.here hx rfl (hb hby at_47) rfl k) ?_
      show own_Fin _ _ _ _ _ _ (T81.setTop (mkF m 49 #[.val (.int p1), .val (.int p2), .val (.int p3), .val (.int p4), .val (.int (1 : Int32)), .val (.int (1 : Int32)), .val (.ref wP), .val (.ref b), .unset, .unset, .unset] [(.int (1 : Int32))]))
      refine own_to (fun t k => XS.i2dS X81.here hx rfl (hb hby at_49) rfl rfl k) ?_
      show own_Fin _ _ _ _ _ _ (T81.setTop (mkF m 50 #[.val (.int p1), .val (.int p2), .val (.int p3), .val (.int p4), .val (.int (1 : Int32)), .val (.int (1 : Int32)), .val (.ref wP), .val (.ref b), .unset, .unset, .unset] [(.double (FP.i2d (1 : Int32)))]))
      refine own_to (fun t k => XS.goto X81.here hx rfl (pc0 := 50) (pc' := 54) rfl (hb hby at_50) (by decide) (by decide) k) ?_
      show own_Fin _ _ _ _ _ _ (T81.setTop (mkF m 54 #[.val (.int p1), .val (.int p2), .val (.int p3), .val (.int p4), .val (.int (1 : Int32)), .val (.int (1 : Int32)), .val (.ref wP), .val (.ref b), .unset, .unset, .unset] [(.double (FP.i2d (1 : Int32)))]))
      refine own_to (fun t k => XS.dstore X81.here hx rfl (hb hby at_54) rfl (l' := #[.val (.int p1), .val (.int p2), .val (.int p3), .val (.int p4), .val (.int (1 : Int32)), .val (.int (1 : Int32)), .val (.ref wP), .val (.ref b), .val (.double (FP.i2d (1 : Int32))), .second, .unset]) rfl k) ?_
      show own_Fin _ _ _ _ _ _ (T81.setTop (mkF m 56 #[.val (.int p1), .val (.int p2), .val (.int p3), .val (.int p4), .val (.int (1 : Int32)), .val (.int (1 : Int32)), .val (.ref wP), .val (.ref b), .val (.double (FP.i2d (1 : Int32))), .second, .unset] []))
      refine own_to (fun t k => XS.iload X81.here hx rfl (hb hby at_56) rfl k) ?_
      show own_Fin _ _ _ _ _ _ (T81.setTop (mkF m 58 #[.val (.int p1), .val (.int p2), .val (.int p3), .val (.int p4), .val (.int (1 : Int32)), .val (.int (1 : Int32)), .val (.ref wP), .val (.ref b), .val (.double (FP.i2d (1 : Int32))), .second, .unset] [(.int (1 : Int32))]))
      refine own_to (fun t k => XS.ifNo X81.here hx rfl (hb hby at_58) rfl ((if0 _ _).trans (tlt (by decide)).2.2.2) k) ?_
      show own_Fin _ _ _ _ _ _ (T81.setTop (mkF m 61 #[.val (.int p1), .val (.int p2), .val (.int p3), .val (.int p4), .val (.int (1 : Int32)), .val (.int (1 : Int32)), .val (.ref wP), .val (.ref b), .val (.double (FP.i2d (1 : Int32))), .second, .unset] []))
      refine own_to (fun t k => XS.aload X81.here hx rfl (hb hby at_61) rfl rfl k) ?_
      show own_Fin _ _ _ _ _ _ (T81.setTop (mkF m 63 #[.val (.int p1), .val (.int p2), .val (.int p3), .val (.int p4), .val (.int (1 : Int32)), .val (.int (1 : Int32)), .val (.ref wP), .val (.ref b), .val (.double (FP.i2d (1 : Int32))), .second, .unset] [(.ref b)]))
      refine own_to (fun t k => XS.iconst X81.here hx rfl (hb hby at_63) k) ?_
      show own_Fin _ _ _ _ _ _ (T81.setTop (mkF m 64 #[.val (.int p1), .val (.int p2), .val (.int p3), .val (.int p4), .val (.int (1 : Int32)), .val (.int (1 : Int32)), .val (.ref wP), .val (.ref b), .val (.double (FP.i2d (1 : Int32))), .second, .unset] [(.int (0 : Int32)), (.ref b)]))
      refine own_to (fun t k => XS.iloadN X81.here hx rfl (hb hby at_64) rfl k) ?_
      show own_Fin _ _ _ _ _ _ (T81.setTop (mkF m 65 #[.val (.int p1), .val (.int p2), .val (.int p3), .val (.int p4), .val (.int (1 : Int32)), .val (.int (1 : Int32)), .val (.ref wP), .val (.ref b), .val (.double (FP.i2d (1 : Int32))), .second, .unset] [(.int p1), (.int (0 : Int32)), (.ref b)]))
      refine own_to (fun t k => XS.i2dS X81.here hx rfl (hb hby at_65) rfl rfl k) ?_
      show own_Fin _ _ _ _ _ _ (T81.setTop (mkF m 66 #[.val (.int p1), .val (.int p2), .val (.int p3), .val (.int p4), .val (.int (1 : Int32)), .val (.int (1 : Int32)), .val (.ref wP), .val (.ref b), .val (.double (FP.i2d (1 : Int32))), .second, .unset] [(.double (FP.i2d p1)), (.int (0 : Int32)), (.ref b)]))
      refine own_to (fun t k => XS.dload X81.here hx rfl (hb hby at_66) rfl k) ?_
      show own_Fin _ _ _ _ _ _ (T81.setTop (mkF m 68 #[.val (.int p1), .val (.int p2), .val (.int p3), .val (.int p4), .val (.int (1 : Int32)), .val (.int (1 : Int32)), .val (.ref wP), .val (.ref b), .val (.double (FP.i2d (1 : Int32))), .second, .unset] [(.double (FP.i2d (1 : Int32))), (.double (FP.i2d p1)), (.int (0 : Int32)), (.ref b)]))
      refine own_to (fun t k => XS.dmulS X81.here hx rfl (hb hby at_68) rfl (by rw [own_mul p1 (1 : Int32) (by decide) (by decide)]; exact own_nl _) (own_mul p1 (1 : Int32) (by decide) (by decide)) k) ?_
      show own_Fin _ _ _ _ _ _ (T81.setTop (mkF m 69 #[.val (.int p1), .val (.int p2), .val (.int p3), .val (.int p4), .val (.int (1 : Int32)), .val (.int (1 : Int32)), .val (.ref wP), .val (.ref b), .val (.double (FP.i2d (1 : Int32))), .second, .unset] [(.double (FP.l2d (p1.toInt64 * (1 : Int32).toInt64))), (.int (0 : Int32)), (.ref b)]))
      obtain ⟨cl83, Ar83, qa83, Sa83, Na83, Ha83, Ga83⟩ := id V82p
      have hin84 : ¬ ((0 : Int32) < 0 ∨ cl83.slots.size ≤ ((0 : Int32)).toNatClampNeg) := inb_of Sa83 ⟨by decide, by decide⟩
      obtain ⟨T84, h84, X84, e84, W84, st84⟩ := stD X81 hx hZ e81 Ar83 (j := (0 : Int32)) hin84 (g := (mkF m 69 #[.val (.int p1), .val (.int p2), .val (.int p3), .val (.int p4), .val (.int (1 : Int32)), .val (.int (1 : Int32)), .val (.ref wP), .val (.ref b), .val (.double (FP.i2d (1 : Int32))), .second, .unset] [(.double (FP.l2d (p1.toInt64 * (1 : Int32).toInt64))), (.int (0 : Int32)), (.ref b)])) rfl rfl (hb hby at_69)
      have N84 := Fr.snoc X84 N0 g_b
      have O84 := O81.wr W84 g_b
      have EP_e84 := EP_e81.wr W84
      have EC_e84 := EC_e81.wr W84
      have A81x_e84 := A81x.wr W84
      have V84 : Arv Z h84 b k81 .double (1 : Int32) [(.double (FP.l2d (p1.toInt64 * (1 : Int32).toInt64)))] (.double (0 : UInt64)) := Arv.set Ar83 qa83 Sa83 Na83 Ha83 Ga83 rfl W84 0 rfl (Nat.le_of_ble_eq_true rfl)
      refine own_to (fun t k => st84 t k) ?_
      show own_Fin _ _ _ _ _ _ (T84.setTop (mkF m 70 #[.val (.int p1), .val (.int p2), .val (.int p3), .val (.int p4), .val (.int (1 : Int32)), .val (.int (1 : Int32)), .val (.ref wP), .val (.ref b), .val (.double (FP.i2d (1 : Int32))), .second, .unset] []))
      refine own_to (fun t k => XS.iload X84.here hx rfl (hb hby at_70) rfl k) ?_
      show own_Fin _ _ _ _ _ _ (T84.setTop (mkF m 72 #[.val (.int p1), .val (.int p2), .val (.int p3), .val (.int p4), .val (.int (1 : Int32)), .val (.int (1 : Int32)), .val (.ref wP), .val (.ref b), .val (.double (FP.i2d (1 : Int32))), .second, .unset] [(.int (1 : Int32))]))
      refine own_to (fun t k => XS.iconst X84.here hx rfl (hb hby at_72) k) ?_
      show own_Fin _ _ _ _ _ _ (T84.setTop (mkF m 73 #[.val (.int p1), .val (.int p2), .val (.int p3), .val (.int p4), .val (.int (1 : Int32)), .val (.int (1 : Int32)), .val (.ref wP), .val (.ref b), .val (.double (FP.i2d (1 : Int32))), .second, .unset] [(.int (1 : Int32)), (.int (1 : Int32))]))
      refine own_to (fun t k => XS.icmpYes X84.here hx rfl (pc0 := 73) (pc' := 85) rfl (hb hby at_73) rfl (flt (Int32.lt_irrefl)).2.2.2 (by decide) (by decide) k) ?_
      show own_Fin _ _ _ _ _ _ (T84.setTop (mkF m 85 #[.val (.int p1), .val (.int p2), .val (.int p3), .val (.int p4), .val (.int (1 : Int32)), .val (.int (1 : Int32)), .val (.ref wP), .val (.ref b), .val (.double (FP.i2d (1 : Int32))), .second, .unset] []))
      refine own_to (fun t k => XS.iload X84.here hx rfl (hb hby at_85) rfl k) ?_
      show own_Fin _ _ _ _ _ _ (T84.setTop (mkF m 87 #[.val (.int p1), .val (.int p2), .val (.int p3), .val (.int p4), .val (.int (1 : Int32)), .val (.int (1 : Int32)), .val (.ref wP), .val (.ref b), .val (.double (FP.i2d (1 : Int32))), .second, .unset] [(.int (1 : Int32))]))
      refine own_to (fun t k => XS.iconst X84.here hx rfl (hb hby at_87) k) ?_
      show own_Fin _ _ _ _ _ _ (T84.setTop (mkF m 88 #[.val (.int p1), .val (.int p2), .val (.int p3), .val (.int p4), .val (.int (1 : Int32)), .val (.int (1 : Int32)), .val (.ref wP), .val (.ref b), .val (.double (FP.i2d (1 : Int32))), .second, .unset] [(.int (2 : Int32)), (.int (1 : Int32))]))
      refine own_to (fun t k => XS.icmpYes X84.here hx rfl (pc0 := 88) (pc' := 100) rfl (hb hby at_88) rfl (flt (by decide)).2.2.2 (by decide) (by decide) k) ?_
      show own_Fin _ _ _ _ _ _ (T84.setTop (mkF m 100 #[.val (.int p1), .val (.int p2), .val (.int p3), .val (.int p4), .val (.int (1 : Int32)), .val (.int (1 : Int32)), .val (.ref wP), .val (.ref b), .val (.double (FP.i2d (1 : Int32))), .second, .unset] []))
      refine own_to (fun t k => XS.aload X84.here hx rfl (hb hby at_100) rfl rfl k) ?_
      show own_Fin _ _ _ _ _ _ (T84.setTop (mkF m 102 #[.val (.int p1), .val (.int p2), .val (.int p3), .val (.int p4), .val (.int (1 : Int32)), .val (.int (1 : Int32)), .val (.ref wP), .val (.ref b), .val (.double (FP.i2d (1 : Int32))), .second, .unset] [(.ref wP)]))
      refine own_to (fun t k => XS.aload X84.here hx rfl (hb hby at_102) rfl rfl k) ?_
      show own_Fin _ _ _ _ _ _ (T84.setTop (mkF m 104 #[.val (.int p1), .val (.int p2), .val (.int p3), .val (.int p4), .val (.int (1 : Int32)), .val (.int (1 : Int32)), .val (.ref wP), .val (.ref b), .val (.double (FP.i2d (1 : Int32))), .second, .unset] [(.ref b), (.ref wP)]))
      obtain ⟨cq85, kq85, q85a, q85b, q85c⟩ := isOf hZ e84 EP_e84
      obtain ⟨_, _, ⟨T85, L85, k85, n85⟩, -, X85, ⟨Lc85, hQ85, l85, y85, z85⟩, st85⟩ := X84.virtualBack hx (y := (⟨"com/example/walk_to_worth/walktoworth/solver/Scale", "rescale", "([D)V"⟩ : MethodName)) (z := (⟨"com/example/walk_to_worth/walktoworth/solver/Scale", "rescale", "([D)V"⟩ : MethodName)) hown (mvT hZ (hw _ (List.mem_of_getElem? (i := 4) rfl))) (mvT hZ (hw _ (List.mem_of_getElem? (i := 5) rfl))) (notFace_of_selects (args := #[]) (mvT hZ (hw _ (List.mem_of_getElem? (i := 7) rfl)))) (mvT hZ (hw _ (List.mem_of_getElem? (i := 7) rfl))) (mvT hZ (hw _ (List.mem_of_getElem? (i := 6) rfl))) (by decide) (own_back (W := 0) (own_resP1 l Z a0 hw [] wP b k81 p1 h84 n0 (Nat.le_trans (Nat.le_trans Z0 E81.1) (Keep.of_wr W84).1) O84 SS V84 g_b) hZ (hw _ (List.mem_of_getElem? (i := 8) rfl)) (hw _ (List.mem_of_getElem? (i := 1) rfl)) (by decide) (by decide)) q85a q85c (g := (mkF m 104 #[.val (.int p1), .val (.int p2), .val (.int p3), .val (.int p4), .val (.int (1 : Int32)), .val (.int (1 : Int32)), .val (.ref wP), .val (.ref b), .val (.double (FP.i2d (1 : Int32))), .second, .unset] [(.ref b), (.ref wP)])) rfl (by rw [hml]; rfl) (Steps.refl _) (argsL := [(.ref b)]) (rest := []) (lenOf own_pd0 rfl) rfl (by show 2 * 0 + _ ≤ _; exact Nat.le_of_eq rfl) (hb hby at_104) (fun _ _ => ⟨rfl, e84, (by decide : 1 + 0 ≤ _), (by decide : 1 + 0 ≤ _)⟩)
      dsimp only [Pt.U, Pt.locs, Pt.cells, Pt.slots] at X85 l85 y85 z85 st85 hQ85
      subst l85 y85 z85
      obtain ⟨rfl, N85q, K85, Vr85⟩ := hQ85
      have N85 := Fr.app N84 N85q
      have O85 := O84.keep K85 (allS g_b all0)
      have EP_e85 := EP_e84.keep K85
      have EC_e85 := EC_e84.keep K85
      have A81x_e85 := A81x_e84.keep K85
      refine own_to (fun t k => st85.trans k) ?_
      show own_Fin _ _ _ _ _ _ (T85.setTop (mkF m 107 #[.val (.int p1), .val (.int p2), .val (.int p3), .val (.int p4), .val (.int (1 : Int32)), .val (.int (1 : Int32)), .val (.ref wP), .val (.ref b), .val (.double (FP.i2d (1 : Int32))), .second, .unset] []))
      refine own_to (fun t k => XS.aload X85.here hx rfl (hb hby at_107) rfl rfl k) ?_
      show own_Fin _ _ _ _ _ _ (T85.setTop (mkF m 109 #[.val (.int p1), .val (.int p2), .val (.int p3), .val (.int p4), .val (.int (1 : Int32)), .val (.int (1 : Int32)), .val (.ref wP), .val (.ref b), .val (.double (FP.i2d (1 : Int32))), .second, .unset] [(.ref b)]))
      obtain ⟨cl86, Ar86, qa86, Sa86, Na86, Ha86, Ga86⟩ := id Vr85
      refine own_to (fun t k => X85.arraylength hx Ar86.1 (State.isArrayOf_alike hZ.alike Ar86.2.1) (g := (mkF m 109 #[.val (.int p1), .val (.int p2), .val (.int p3), .val (.int p4), .val (.int (1 : Int32)), .val (.int (1 : Int32)), .val (.ref wP), .val (.ref b), .val (.double (FP.i2d (1 : Int32))), .second, .unset] [(.ref b)])) rfl rfl (hb hby at_109) _ k) ?_
      rw [len_of Sa86 Na86]
      show own_Fin _ _ _ _ _ _ (T85.setTop (mkF m 110 #[.val (.int p1), .val (.int p2), .val (.int p3), .val (.int p4), .val (.int (1 : Int32)), .val (.int (1 : Int32)), .val (.ref wP), .val (.ref b), .val (.double (FP.i2d (1 : Int32))), .second, .unset] [(.int (1 : Int32))]))
      refine own_to (fun t k => XS.iload X85.here hx rfl (hb hby at_110) rfl k) ?_
      show own_Fin _ _ _ _ _ _ (T85.setTop (mkF m 112 #[.val (.int p1), .val (.int p2), .val (.int p3), .val (.int p4), .val (.int (1 : Int32)), .val (.int (1 : Int32)), .val (.ref wP), .val (.ref b), .val (.double (FP.i2d (1 : Int32))), .second, .unset] [(.int (1 : Int32)), (.int (1 : Int32))]))
      refine own_to (fun t k => XS.icmpNo X85.here hx rfl (hb hby at_112) rfl (teq rfl).2 k) ?_
      show own_Fin _ _ _ _ _ _ (T85.setTop (mkF m 115 #[.val (.int p1), .val (.int p2), .val (.int p3), .val (.int p4), .val (.int (1 : Int32)), .val (.int (1 : Int32)), .val (.ref wP), .val (.ref b), .val (.double (FP.i2d (1 : Int32))), .second, .unset] []))
      refine own_to (fun t k => XS.iconst X85.here hx rfl (hb hby at_115) k) ?_
      show own_Fin _ _ _ _ _ _ (T85.setTop (mkF m 116 #[.val (.int p1), .val (.int p2), .val (.int p3), .val (.int p4), .val (.int (1 : Int32)), .val (.int (1 : Int32)), .val (.ref wP), .val (.ref b), .val (.double (FP.i2d (1 : Int32))), .second, .unset] [(.int (1 : Int32))]))
      refine own_to (fun t k => XS.goto X85.here hx rfl (pc0 := 116) (pc' := 120) rfl (hb hby at_116) (by decide) (by decide) k) ?_
      show own_Fin _ _ _ _ _ _ (T85.setTop (mkF m 120 #[.val (.int p1), .val (.int p2), .val (.int p3), .val (.int p4), .val (.int (1 : Int32)), .val (.int (1 : Int32)), .val (.ref wP), .val (.ref b), .val (.double (FP.i2d (1 : Int32))), .second, .unset] [(.int (1 : Int32))]))
      refine own_to (fun t k => XS.istore X85.here hx rfl (hb hby at_120) rfl (l' := #[.val (.int p1), .val (.int p2), .val (.int p3), .val (.int p4), .val (.int (1 : Int32)), .val (.int (1 : Int32)), .val (.ref wP), .val (.ref b), .val (.double (FP.i2d (1 : Int32))), .second, .val (.int (1 : Int32))]) rfl k) ?_
      show own_Fin _ _ _ _ _ _ (T85.setTop (mkF m 122 #[.val (.int p1), .val (.int p2), .val (.int p3), .val (.int p4), .val (.int (1 : Int32)), .val (.int (1 : Int32)), .val (.ref wP), .val (.ref b), .val (.double (FP.i2d (1 : Int32))), .second, .val (.int (1 : Int32))] []))
      refine own_to (fun t k => XS.iload X85.here hx rfl (hb hby at_122) rfl k) ?_
      show own_Fin _ _ _ _ _ _ (T85.setTop (mkF m 124 #[.val (.int p1), .val (.int p2), .val (.int p3), .val (.int p4), .val (.int (1 : Int32)), .val (.int (1 : Int32)), .val (.ref wP), .val (.ref b), .val (.double (FP.i2d (1 : Int32))), .second, .val (.int (1 : Int32))] [(.int (1 : Int32))]))
      refine own_to (fun t k => XS.ifNo X85.here hx rfl (hb hby at_124) rfl ((if0 _ _).trans (tlt (by decide)).2.2.2) k) ?_
      show own_Fin _ _ _ _ _ _ (T85.setTop (mkF m 127 #[.val (.int p1), .val (.int p2), .val (.int p3), .val (.int p4), .val (.int (1 : Int32)), .val (.int (1 : Int32)), .val (.ref wP), .val (.ref b), .val (.double (FP.i2d (1 : Int32))), .second, .val (.int (1 : Int32))] []))
      refine own_to (fun t k => XS.iload X85.here hx rfl (hb hby at_127) rfl k) ?_
      show own_Fin _ _ _ _ _ _ (T85.setTop (mkF m 129 #[.val (.int p1), .val (.int p2), .val (.int p3), .val (.int p4), .val (.int (1 : Int32)), .val (.int (1 : Int32)), .val (.ref wP), .val (.ref b), .val (.double (FP.i2d (1 : Int32))), .second, .val (.int (1 : Int32))] [(.int (1 : Int32))]))
      refine own_to (fun t k => XS.ifNo X85.here hx rfl (hb hby at_129) rfl ((if0 _ _).trans (feq (by decide)).1) k) ?_
      show own_Fin _ _ _ _ _ _ (T85.setTop (mkF m 132 #[.val (.int p1), .val (.int p2), .val (.int p3), .val (.int p4), .val (.int (1 : Int32)), .val (.int (1 : Int32)), .val (.ref wP), .val (.ref b), .val (.double (FP.i2d (1 : Int32))), .second, .val (.int (1 : Int32))] []))
      refine own_to (fun t k => XS.aload X85.here hx rfl (hb hby at_132) rfl rfl k) ?_
      show own_Fin _ _ _ _ _ _ (T85.setTop (mkF m 134 #[.val (.int p1), .val (.int p2), .val (.int p3), .val (.int p4), .val (.int (1 : Int32)), .val (.int (1 : Int32)), .val (.ref wP), .val (.ref b), .val (.double (FP.i2d (1 : Int32))), .second, .val (.int (1 : Int32))] [(.ref b)]))
      refine own_to (fun t k => XS.iconst X85.here hx rfl (hb hby at_134) k) ?_
      show own_Fin _ _ _ _ _ _ (T85.setTop (mkF m 135 #[.val (.int p1), .val (.int p2), .val (.int p3), .val (.int p4), .val (.int (1 : Int32)), .val (.int (1 : Int32)), .val (.ref wP), .val (.ref b), .val (.double (FP.i2d (1 : Int32))), .second, .val (.int (1 : Int32))] [(.int (0 : Int32)), (.ref b)]))
      obtain ⟨cl87, Ar87, qa87, Sa87, Na87, Ha87, Ga87⟩ := id Vr85
      have hin88 : ¬ ((0 : Int32) < 0 ∨ cl87.slots.size ≤ ((0 : Int32)).toNatClampNeg) := inb_of Sa87 ⟨by decide, by decide⟩
      refine own_to (fun t k => X85.daload hx (j := (0 : Int32)) (v := (.double (FP.i2d p1))) Ar87.1 (State.isArrayOf_alike hZ.alike Ar87.2.1) Ar87.2.2 hin88 (Has.at Ha87 hin88 rfl) (g := (mkF m 135 #[.val (.int p1), .val (.int p2), .val (.int p3), .val (.int p4), .val (.int (1 : Int32)), .val (.int (1 : Int32)), .val (.ref wP), .val (.ref b), .val (.double (FP.i2d (1 : Int32))), .second, .val (.int (1 : Int32))] [(.int (0 : Int32)), (.ref b)])) rfl rfl (hb hby at_135) _ k) ?_
      show own_Fin _ _ _ _ _ _ (T85.setTop (mkF m 136 #[.val (.int p1), .val (.int p2), .val (.int p3), .val (.int p4), .val (.int (1 : Int32)), .val (.int (1 : Int32)), .val (.ref wP), .val (.ref b), .val (.double (FP.i2d (1 : Int32))), .second, .val (.int (1 : Int32))] [(.double (FP.i2d p1))]))
      refine own_to (fun t k => XS.iloadN X85.here hx rfl (hb hby at_136) rfl k) ?_
      show own_Fin _ _ _ _ _ _ (T85.setTop (mkF m 137 #[.val (.int p1), .val (.int p2), .val (.int p3), .val (.int p4), .val (.int (1 : Int32)), .val (.int (1 : Int32)), .val (.ref wP), .val (.ref b), .val (.double (FP.i2d (1 : Int32))), .second, .val (.int (1 : Int32))] [(.int p1), (.double (FP.i2d p1))]))
      refine own_to (fun t k => XS.i2dS X85.here hx rfl (hb hby at_137) rfl rfl k) ?_
      show own_Fin _ _ _ _ _ _ (T85.setTop (mkF m 138 #[.val (.int p1), .val (.int p2), .val (.int p3), .val (.int p4), .val (.int (1 : Int32)), .val (.int (1 : Int32)), .val (.ref wP), .val (.ref b), .val (.double (FP.i2d (1 : Int32))), .second, .val (.int (1 : Int32))] [(.double (FP.i2d p1)), (.double (FP.i2d p1))]))
      refine own_to (fun t k => XS.dcmpS X85.here hx rfl (hb hby at_138) rfl rfl k) ?_
      show own_Fin _ _ _ _ _ _ (T85.setTop (mkF m 139 #[.val (.int p1), .val (.int p2), .val (.int p3), .val (.int p4), .val (.int (1 : Int32)), .val (.int (1 : Int32)), .val (.ref wP), .val (.ref b), .val (.double (FP.i2d (1 : Int32))), .second, .val (.int (1 : Int32))] [(.int (cmpValue (FP.dcmp (FP.i2d p1) (FP.i2d p1)) .l))]))
      refine own_to (fun t k => XS.ifNo X85.here hx rfl (hb hby at_139) rfl ((if0 _ _).trans (teq (own_same p1)).2) k) ?_
      show own_Fin _ _ _ _ _ _ (T85.setTop (mkF m 142 #[.val (.int p1), .val (.int p2), .val (.int p3), .val (.int p4), .val (.int (1 : Int32)), .val (.int (1 : Int32)), .val (.ref wP), .val (.ref b), .val (.double (FP.i2d (1 : Int32))), .second, .val (.int (1 : Int32))] []))
      refine own_to (fun t k => XS.iconst X85.here hx rfl (hb hby at_142) k) ?_
      show own_Fin _ _ _ _ _ _ (T85.setTop (mkF m 143 #[.val (.int p1), .val (.int p2), .val (.int p3), .val (.int p4), .val (.int (1 : Int32)), .val (.int (1 : Int32)), .val (.ref wP), .val (.ref b), .val (.double (FP.i2d (1 : Int32))), .second, .val (.int (1 : Int32))] [(.int (1 : Int32))]))
      refine own_to (fun t k => XS.goto X85.here hx rfl (pc0 := 143) (pc' := 147) rfl (hb hby at_143) (by decide) (by decide) k) ?_
      show own_Fin _ _ _ _ _ _ (T85.setTop (mkF m 147 #[.val (.int p1), .val (.int p2), .val (.int p3), .val (.int p4), .val (.int (1 : Int32)), .val (.int (1 : Int32)), .val (.ref wP), .val (.ref b), .val (.double (FP.i2d (1 : Int32))), .second, .val (.int (1 : Int32))] [(.int (1 : Int32))]))
      refine own_to (fun t k => XS.istore X85.here hx rfl (hb hby at_147) rfl (l' := #[.val (.int p1), .val (.int p2), .val (.int p3), .val (.int p4), .val (.int (1 : Int32)), .val (.int (1 : Int32)), .val (.ref wP), .val (.ref b), .val (.double (FP.i2d (1 : Int32))), .second, .val (.int (1 : Int32))]) rfl k) ?_
      show own_Fin _ _ _ _ _ _ (T85.setTop (mkF m 149 #[.val (.int p1), .val (.int p2), .val (.int p3), .val (.int p4), .val (.int (1 : Int32)), .val (.int (1 : Int32)), .val (.ref wP), .val (.ref b), .val (.double (FP.i2d (1 : Int32))), .second, .val (.int (1 : Int32))] []))
      refine own_to (fun t k => XS.iload X85.here hx rfl (hb hby at_149) rfl k) ?_
      show own_Fin _ _ _ _ _ _ (T85.setTop (mkF m 151 #[.val (.int p1), .val (.int p2), .val (.int p3), .val (.int p4), .val (.int (1 : Int32)), .val (.int (1 : Int32)), .val (.ref wP), .val (.ref b), .val (.double (FP.i2d (1 : Int32))), .second, .val (.int (1 : Int32))] [(.int (1 : Int32))]))
      refine own_to (fun t k => XS.iconst X85.here hx rfl (hb hby at_151) k) ?_
      show own_Fin _ _ _ _ _ _ (T85.setTop (mkF m 152 #[.val (.int p1), .val (.int p2), .val (.int p3), .val (.int p4), .val (.int (1 : Int32)), .val (.int (1 : Int32)), .val (.ref wP), .val (.ref b), .val (.double (FP.i2d (1 : Int32))), .second, .val (.int (1 : Int32))] [(.int (1 : Int32)), (.int (1 : Int32))]))
      refine own_to (fun t k => XS.icmpYes X85.here hx rfl (pc0 := 152) (pc' := 177) rfl (hb hby at_152) rfl (flt (Int32.lt_irrefl)).2.2.2 (by decide) (by decide) k) ?_
      show own_Fin _ _ _ _ _ _ (T85.setTop (mkF m 177 #[.val (.int p1), .val (.int p2), .val (.int p3), .val (.int p4), .val (.int (1 : Int32)), .val (.int (1 : Int32)), .val (.ref wP), .val (.ref b), .val (.double (FP.i2d (1 : Int32))), .second, .val (.int (1 : Int32))] []))
      refine own_to (fun t k => XS.iload X85.here hx rfl (hb hby at_177) rfl k) ?_
      show own_Fin _ _ _ _ _ _ (T85.setTop (mkF m 179 #[.val (.int p1), .val (.int p2), .val (.int p3), .val (.int p4), .val (.int (1 : Int32)), .val (.int (1 : Int32)), .val (.ref wP), .val (.ref b), .val (.double (FP.i2d (1 : Int32))), .second, .val (.int (1 : Int32))] [(.int (1 : Int32))]))
      refine own_to (fun t k => XS.iconst X85.here hx rfl (hb hby at_179) k) ?_
      show own_Fin _ _ _ _ _ _ (T85.setTop (mkF m 180 #[.val (.int p1), .val (.int p2), .val (.int p3), .val (.int p4), .val (.int (1 : Int32)), .val (.int (1 : Int32)), .val (.ref wP), .val (.ref b), .val (.double (FP.i2d (1 : Int32))), .second, .val (.int (1 : Int32))] [(.int (2 : Int32)), (.int (1 : Int32))]))
      refine own_to (fun t k => XS.icmpYes X85.here hx rfl (pc0 := 180) (pc' := 205) rfl (hb hby at_180) rfl (flt (by decide)).2.2.2 (by decide) (by decide) k) ?_
      show own_Fin _ _ _ _ _ _ (T85.setTop (mkF m 205 #[.val (.int p1), .val (.int p2), .val (.int p3), .val (.int p4), .val (.int (1 : Int32)), .val (.int (1 : Int32)), .val (.ref wP), .val (.ref b), .val (.double (FP.i2d (1 : Int32))), .second, .val (.int (1 : Int32))] []))
      refine own_to (fun t k => XS.iload X85.here hx rfl (hb hby at_205) rfl k) ?_
      show own_Fin _ _ _ _ _ _ (T85.setTop (mkF m 207 #[.val (.int p1), .val (.int p2), .val (.int p3), .val (.int p4), .val (.int (1 : Int32)), .val (.int (1 : Int32)), .val (.ref wP), .val (.ref b), .val (.double (FP.i2d (1 : Int32))), .second, .val (.int (1 : Int32))] [(.int (1 : Int32))]))
      refine own_retN X85 hx hlk (t := .boolean) hret (by simp) (hb hby at_207) (by decide) (by decide) ?_
      exact ⟨rfl, N85⟩
    ·
      rw [hl]
      show own_Fin _ _ _ _ _ _ (T76.setTop (mkF m 38 #[.val (.int p1), .val (.int p2), .val (.int p3), .val (.int p4), .val (.int (1 : Int32)), .val (.int (2 : Int32)), .val (.ref wP), .unset, .unset, .unset, .unset] [(.int (2 : Int32))]))
      obtain ⟨T89, h89, k89, X89, e89, E89, A89, A89x, st89⟩ := newPE X76 hx hZ (hw _ (List.mem_of_getElem? (i := 3) rfl)) e76 (g := (mkF m 38 #[.val (.int p1), .val (.int p2), .val (.int p3), .val (.int p4), .val (.int (1 : Int32)), .val (.int (2 : Int32)), .val (.ref wP), .unset, .unset, .unset, .unset] [(.int (2 : Int32))])) rfl (hb hby at_38) rfl (by decide) (cap := 2) (by decide) (by decide) (by decide) (by decide) (ad := "[D") (by decide)
      obtain ⟨b, q89⟩ : ∃ z, z = h0.size := ⟨_, rfl⟩
      rw [← q89] at A89 A89x st89
      have ne_wP_b : wP ≠ b := Nat.ne_of_lt (Nat.lt_of_lt_of_le EP.lt (Nat.le_of_eq q89.symm))
      have ne_wC_b : wC ≠ b := Nat.ne_of_lt (Nat.lt_of_lt_of_le EC.lt (Nat.le_of_eq q89.symm))
      have g_b : n0 ≤ b := Nat.le_trans Z0 (Nat.le_of_eq q89.symm)
      have O89 := O0.ext E89
      have EP_e89 := EP.ext E89
      have EC_e89 := EC.ext E89
      have V89 := Arv.new A89 (by decide)
      refine own_to (fun t k => st89 t k) ?_
      show own_Fin _ _ _ _ _ _ (T89.setTop (mkF m 40 #[.val (.int p1), .val (.int p2), .val (.int p3), .val (.int p4), .val (.int (1 : Int32)), .val (.int (2 : Int32)), .val (.ref wP), .unset, .unset, .unset, .unset] [(.ref b)]))
      have V90p : Arv Z h89 b k89 .double (2 : Int32) [(.double (0 : UInt64)), (.double (0 : UInt64))] (.double (0 : UInt64)) := V89.pad (pad_rep [] (.double (0 : UInt64)) 2)
      refine own_to (fun t k => XS.astore X89.here hx rfl (hb hby at_40) rfl rfl (l' := #[.val (.int p1), .val (.int p2), .val (.int p3), .val (.int p4), .val (.int (1 : Int32)), .val (.int (2 : Int32)), .val (.ref wP), .val (.ref b), .unset, .unset, .unset]) rfl k) ?_
      show own_Fin _ _ _ _ _ _ (T89.setTop (mkF m 42 #[.val (.int p1), .val (.int p2), .val (.int p3), .val (.int p4), .val (.int (1 : Int32)), .val (.int (2 : Int32)), .val (.ref wP), .val (.ref b), .unset, .unset, .unset] []))
      refine own_to (fun t k => XS.iload X89.here hx rfl (hb hby at_42) rfl k) ?_
      show own_Fin _ _ _ _ _ _ (T89.setTop (mkF m 44 #[.val (.int p1), .val (.int p2), .val (.int p3), .val (.int p4), .val (.int (1 : Int32)), .val (.int (2 : Int32)), .val (.ref wP), .val (.ref b), .unset, .unset, .unset] [(.int (1 : Int32))]))
      refine own_to (fun t k => XS.ifNo X89.here hx rfl (hb hby at_44) rfl ((if0 _ _).trans (feq (by decide)).1) k) ?_
      show own_Fin _ _ _ _ _ _ (T89.setTop (mkF m 47 #[.val (.int p1), .val (.int p2), .val (.int p3), .val (.int p4), .val (.int (1 : Int32)), .val (.int (2 : Int32)), .val (.ref wP), .val (.ref b), .unset, .unset, .unset] []))
      refine own_to (fun t k => XS.iload X89.here hx rfl (hb hby at_47) rfl k) ?_
      show own_Fin _ _ _ _ _ _ (T89.setTop (mkF m 49 #[.val (.int p1), .val (.int p2), .val (.int p3), .val (.int p4), .val (.int (1 : Int32)), .val (.int (2 : Int32)), .val (.ref wP), .val (.ref b), .unset, .unset, .unset] [(.int (2 : Int32))]))
      refine own_to (fun t k => XS.i2dS X89.here hx rfl (hb hby at_49) rfl rfl k) ?_
      show own_Fin _ _ _ _ _ _ (T89.setTop (mkF m 50 #[.val (.int p1), .val (.int p2), .val (.int p3), .val (.int p4), .val (.int (1 : Int32)), .val (.int (2 : Int32)), .val (.ref wP), .val (.ref b), .unset, .unset, .unset] [(.double (FP.i2d (2 : Int32)))]))
      refine own_to (fun t k => XS.goto X89.here hx rfl (pc0 := 50) (pc' := 54) rfl (hb hby at_50) (by decide) (by decide) k) ?_
      show own_Fin _ _ _ _ _ _ (T89.setTop (mkF m 54 #[.val (.int p1), .val (.int p2), .val (.int p3), .val (.int p4), .val (.int (1 : Int32)), .val (.int (2 : Int32)), .val (.ref wP), .val (.ref b), .unset, .unset, .unset] [(.double (FP.i2d (2 : Int32)))]))
      refine own_to (fun t k => XS.dstore X89.here hx rfl (hb hby at_54) rfl (l' := #[.val (.int p1), .val (.int p2), .val (.int p3), .val (.int p4), .val (.int (1 : Int32)), .val (.int (2 : Int32)), .val (.ref wP), .val (.ref b), .val (.double (FP.i2d (2 : Int32))), .second, .unset]) rfl k) ?_
      show own_Fin _ _ _ _ _ _ (T89.setTop (mkF m 56 #[.val (.int p1), .val (.int p2), .val (.int p3), .val (.int p4), .val (.int (1 : Int32)), .val (.int (2 : Int32)), .val (.ref wP), .val (.ref b), .val (.double (FP.i2d (2 : Int32))), .second, .unset] []))
      refine own_to (fun t k => XS.iload X89.here hx rfl (hb hby at_56) rfl k) ?_
      show own_Fin _ _ _ _ _ _ (T89.setTop (mkF m 58 #[.val (.int p1), .val (.int p2), .val (.int p3), .val (.int p4), .val (.int (1 : Int32)), .val (.int (2 : Int32)), .val (.ref wP), .val (.ref b), .val (.double (FP.i2d (2 : Int32))), .second, .unset] [(.int (2 : Int32))]))
      refine own_to (fun t k => XS.ifNo X89.here hx rfl (hb hby at_58) rfl ((if0 _ _).trans (tlt (by decide)).2.2.2) k) ?_
      show own_Fin _ _ _ _ _ _ (T89.setTop (mkF m 61 #[.val (.int p1), .val (.int p2), .val (.int p3), .val (.int p4), .val (.int (1 : Int32)), .val (.int (2 : Int32)), .val (.ref wP), .val (.ref b), .val (.double (FP.i2d (2 : Int32))), .second, .unset] []))
      refine own_to (fun t k => XS.aload X89.here hx rfl (hb hby at_61) rfl rfl k) ?_
      show own_Fin _ _ _ _ _ _ (T89.setTop (mkF m 63 #[.val (.int p1), .val (.int p2), .val (.int p3), .val (.int p4), .val (.int (1 : Int32)), .val (.int (2 : Int32)), .val (.ref wP), .val (.ref b), .val (.double (FP.i2d (2 : Int32))), .second, .unset] [(.ref b)]))
      refine own_to (fun t k => XS.iconst X89.here hx rfl (hb hby at_63) k) ?_
      show own_Fin _ _ _ _ _ _ (T89.setTop (mkF m 64 #[.val (.int p1), .val (.int p2), .val (.int p3), .val (.int p4), .val (.int (1 : Int32)), .val (.int (2 : Int32)), .val (.ref wP), .val (.ref b), .val (.double (FP.i2d (2 : Int32))), .second, .unset] [(.int (0 : Int32)), (.ref b)]))
      refine own_to (fun t k => XS.iloadN X89.here hx rfl (hb hby at_64) rfl k) ?_
      show own_Fin _ _ _ _ _ _ (T89.setTop (mkF m 65 #[.val (.int p1), .val (.int p2), .val (.int p3), .val (.int p4), .val (.int (1 : Int32)), .val (.int (2 : Int32)), .val (.ref wP), .val (.ref b), .val (.double (FP.i2d (2 : Int32))), .second, .unset] [(.int p1), (.int (0 : Int32)), (.ref b)]))
      refine own_to (fun t k => XS.i2dS X89.here hx rfl (hb hby at_65) rfl rfl k) ?_
      show own_Fin _ _ _ _ _ _ (T89.setTop (mkF m 66 #[.val (.int p1), .val (.int p2), .val (.int p3), .val (.int p4), .val (.int (1 : Int32)), .val (.int (2 : Int32)), .val (.ref wP), .val (.ref b), .val (.double (FP.i2d (2 : Int32))), .second, .unset] [(.double (FP.i2d p1)), (.int (0 : Int32)), (.ref b)]))
      refine own_to (fun t k => XS.dload X89.here hx rfl (hb hby at_66) rfl k) ?_
      show own_Fin _ _ _ _ _ _ (T89.setTop (mkF m 68 #[.val (.int p1), .val (.int p2), .val (.int p3), .val (.int p4), .val (.int (1 : Int32)), .val (.int (2 : Int32)), .val (.ref wP), .val (.ref b), .val (.double (FP.i2d (2 : Int32))), .second, .unset] [(.double (FP.i2d (2 : Int32))), (.double (FP.i2d p1)), (.int (0 : Int32)), (.ref b)]))
      refine own_to (fun t k => XS.dmulS X89.here hx rfl (hb hby at_68) rfl (by rw [own_mul p1 (2 : Int32) (by decide) (by decide)]; exact own_nl _) (own_mul p1 (2 : Int32) (by decide) (by decide)) k) ?_
      show own_Fin _ _ _ _ _ _ (T89.setTop (mkF m 69 #[.val (.int p1), .val (.int p2), .val (.int p3), .val (.int p4), .val (.int (1 : Int32)), .val (.int (2 : Int32)), .val (.ref wP), .val (.ref b), .val (.double (FP.i2d (2 : Int32))), .second, .unset] [(.double (FP.l2d (p1.toInt64 * (2 : Int32).toInt64))), (.int (0 : Int32)), (.ref b)]))
      obtain ⟨cl91, Ar91, qa91, Sa91, Na91, Ha91, Ga91⟩ := id V90p
      have hin92 : ¬ ((0 : Int32) < 0 ∨ cl91.slots.size ≤ ((0 : Int32)).toNatClampNeg) := inb_of Sa91 ⟨by decide, by decide⟩
      obtain ⟨T92, h92, X92, e92, W92, st92⟩ := stD X89 hx hZ e89 Ar91 (j := (0 : Int32)) hin92 (g := (mkF m 69 #[.val (.int p1), .val (.int p2), .val (.int p3), .val (.int p4), .val (.int (1 : Int32)), .val (.int (2 : Int32)), .val (.ref wP), .val (.ref b), .val (.double (FP.i2d (2 : Int32))), .second, .unset] [(.double (FP.l2d (p1.toInt64 * (2 : Int32).toInt64))), (.int (0 : Int32)), (.ref b)])) rfl rfl (hb hby at_69)
      have N92 := Fr.snoc X92 N0 g_b
      have O92 := O89.wr W92 g_b
      have EP_e92 := EP_e89.wr W92
      have EC_e92 := EC_e89.wr W92
      have A89x_e92 := A89x.wr W92
      have V92 : Arv Z h92 b k89 .double (2 : Int32) [(.double (FP.l2d (p1.toInt64 * (2 : Int32).toInt64))), (.double (0 : UInt64))] (.double (0 : UInt64)) := Arv.set Ar91 qa91 Sa91 Na91 Ha91 Ga91 rfl W92 0 rfl (Nat.le_of_ble_eq_true rfl)
      refine own_to (fun t k => st92 t k) ?_
      show own_Fin _ _ _ _ _ _ (T92.setTop (mkF m 70 #[.val (.int p1), .val (.int p2), .val (.int p3), .val (.int p4), .val (.int (1 : Int32)), .val (.int (2 : Int32)), .val (.ref wP), .val (.ref b), .val (.double (FP.i2d (2 : Int32))), .second, .unset] []))
      refine own_to (fun t k => XS.iload X92.here hx rfl (hb hby at_70) rfl k) ?_
      show own_Fin _ _ _ _ _ _ (T92.setTop (mkF m 72 #[.val (.int p1), .val (.int p2), .val (.int p3), .val (.int p4), .val (.int (1 : Int32)), .val (.int (2 : Int32)), .val (.ref wP), .val (.ref b), .val (.double (FP.i2d (2 : Int32))), .second, .unset] [(.int (2 : Int32))]))
      refine own_to (fun t k => XS.iconst X92.here hx rfl (hb hby at_72) k) ?_
      show own_Fin _ _ _ _ _ _ (T92.setTop (mkF m 73 #[.val (.int p1), .val (.int p2), .val (.int p3), .val (.int p4), .val (.int (1 : Int32)), .val (.int (2 : Int32)), .val (.ref wP), .val (.ref b), .val (.double (FP.i2d (2 : Int32))), .second, .unset] [(.int (1 : Int32)), (.int (2 : Int32))]))
      refine own_to (fun t k => XS.icmpNo X92.here hx rfl (hb hby at_73) rfl (tlt (by decide)).2.2.2 k) ?_
      show own_Fin _ _ _ _ _ _ (T92.setTop (mkF m 76 #[.val (.int p1), .val (.int p2), .val (.int p3), .val (.int p4), .val (.int (1 : Int32)), .val (.int (2 : Int32)), .val (.ref wP), .val (.ref b), .val (.double (FP.i2d (2 : Int32))), .second, .unset] []))
      refine own_to (fun t k => XS.aload X92.here hx rfl (hb hby at_76) rfl rfl k) ?_
      show own_Fin _ _ _ _ _ _ (T92.setTop (mkF m 78 #[.val (.int p1), .val (.int p2), .val (.int p3), .val (.int p4), .val (.int (1 : Int32)), .val (.int (2 : Int32)), .val (.ref wP), .val (.ref b), .val (.double (FP.i2d (2 : Int32))), .second, .unset] [(.ref b)]))
      refine own_to (fun t k => XS.iconst X92.here hx rfl (hb hby at_78) k) ?_
      show own_Fin _ _ _ _ _ _ (T92.setTop (mkF m 79 #[.val (.int p1), .val (.int p2), .val (.int p3), .val (.int p4), .val (.int (1 : Int32)), .val (.int (2 : Int32)), .val (.ref wP), .val (.ref b), .val (.double (FP.i2d (2 : Int32))), .second, .unset] [(.int (1 : Int32)), (.ref b)]))
      refine own_to (fun t k => XS.iloadN X92.here hx rfl (hb hby at_79) rfl k) ?_
      show own_Fin _ _ _ _ _ _ (T92.setTop (mkF m 80 #[.val (.int p1), .val (.int p2), .val (.int p3), .val (.int p4), .val (.int (1 : Int32)), .val (.int (2 : Int32)), .val (.ref wP), .val (.ref b), .val (.double (FP.i2d (2 : Int32))), .second, .unset] [(.int p2), (.int (1 : Int32)), (.ref b)]))
      refine own_to (fun t k => XS.i2dS X92.here hx rfl (hb hby at_80) rfl rfl k) ?_
      show own_Fin _ _ _ _ _ _ (T92.setTop (mkF m 81 #[.val (.int p1), .val (.int p2), .val (.int p3), .val (.int p4), .val (.int (1 : Int32)), .val (.int (2 : Int32)), .val (.ref wP), .val (.ref b), .val (.double (FP.i2d (2 : Int32))), .second, .unset] [(.double (FP.i2d p2)), (.int (1 : Int32)), (.ref b)]))
      refine own_to (fun t k => XS.dload X92.here hx rfl (hb hby at_81) rfl k) ?_
      show own_Fin _ _ _ _ _ _ (T92.setTop (mkF m 83 #[.val (.int p1), .val (.int p2), .val (.int p3), .val (.int p4), .val (.int (1 : Int32)), .val (.int (2 : Int32)), .val (.ref wP), .val (.ref b), .val (.double (FP.i2d (2 : Int32))), .second, .unset] [(.double (FP.i2d (2 : Int32))), (.double (FP.i2d p2)), (.int (1 : Int32)), (.ref b)]))
      refine own_to (fun t k => XS.dmulS X92.here hx rfl (hb hby at_83) rfl (by rw [own_mul p2 (2 : Int32) (by decide) (by decide)]; exact own_nl _) (own_mul p2 (2 : Int32) (by decide) (by decide)) k) ?_
      show own_Fin _ _ _ _ _ _ (T92.setTop (mkF m 84 #[.val (.int p1), .val (.int p2), .val (.int p3), .val (.int p4), .val (.int (1 : Int32)), .val (.int (2 : Int32)), .val (.ref wP), .val (.ref b), .val (.double (FP.i2d (2 : Int32))), .second, .unset] [(.double (FP.l2d (p2.toInt64 * (2 : Int32).toInt64))), (.int (1 : Int32)), (.ref b)]))
      obtain ⟨cl93, Ar93, qa93, Sa93, Na93, Ha93, Ga93⟩ := id V92
      have hin94 : ¬ ((1 : Int32) < 0 ∨ cl93.slots.size ≤ ((1 : Int32)).toNatClampNeg) := inb_of Sa93 ⟨by decide, by decide⟩
      obtain ⟨T94, h94, X94, e94, W94, st94⟩ := stD X92 hx hZ e92 Ar93 (j := (1 : Int32)) hin94 (g := (mkF m 84 #[.val (.int p1), .val (.int p2), .val (.int p3), .val (.int p4), .val (.int (1 : Int32)), .val (.int (2 : Int32)), .val (.ref wP), .val (.ref b), .val (.double (FP.i2d (2 : Int32))), .second, .unset] [(.double (FP.l2d (p2.toInt64 * (2 : Int32).toInt64))), (.int (1 : Int32)), (.ref b)])) rfl rfl (hb hby at_84)
      have N94 := Fr.snoc X94 N92 g_b
      have O94 := O92.wr W94 g_b
      have EP_e94 := EP_e92.wr W94
      have EC_e94 := EC_e92.wr W94
      have A89x_e94 := A89x_e92.wr W94
      have V94 : Arv Z h94 b k89 .double (2 : Int32) [(.double (FP.l2d (p1.toInt64 * (2 : Int32).toInt64))), (.double (FP.l2d (p2.toInt64 * (2 : Int32).toInt64)))] (.double (0 : UInt64)) := Arv.set Ar93 qa93 Sa93 Na93 Ha93 Ga93 rfl W94 1 rfl (Nat.le_of_ble_eq_true rfl)
      refine own_to (fun t k => st94 t k) ?_
      show own_Fin _ _ _ _ _ _ (T94.setTop (mkF m 85 #[.val (.int p1), .val (.int p2), .val (.int p3), .val (.int p4), .val (.int (1 : Int32)), .val (.int (2 : Int32)), .val (.ref wP), .val (.ref b), .val (.double (FP.i2d (2 : Int32))), .second, .unset] []))
      refine own_to (fun t k => XS.iload X94.here hx rfl (hb hby at_85) rfl k) ?_
      show own_Fin _ _ _ _ _ _ (T94.setTop (mkF m 87 #[.val (.int p1), .val (.int p2), .val (.int p3), .val (.int p4), .val (.int (1 : Int32)), .val (.int (2 : Int32)), .val (.ref wP), .val (.ref b), .val (.double (FP.i2d (2 : Int32))), .second, .unset] [(.int (2 : Int32))]))
      refine own_to (fun t k => XS.iconst X94.here hx rfl (hb hby at_87) k) ?_
      show own_Fin _ _ _ _ _ _ (T94.setTop (mkF m 88 #[.val (.int p1), .val (.int p2), .val (.int p3), .val (.int p4), .val (.int (1 : Int32)), .val (.int (2 : Int32)), .val (.ref wP), .val (.ref b), .val (.double (FP.i2d (2 : Int32))), .second, .unset] [(.int (2 : Int32)), (.int (2 : Int32))]))
      refine own_to (fun t k => XS.icmpYes X94.here hx rfl (pc0 := 88) (pc' := 100) rfl (hb hby at_88) rfl (flt (Int32.lt_irrefl)).2.2.2 (by decide) (by decide) k) ?_
      show own_Fin _ _ _ _ _ _ (T94.setTop (mkF m 100 #[.val (.int p1), .val (.int p2), .val (.int p3), .val (.int p4), .val (.int (1 : Int32)), .val (.int (2 : Int32)), .val (.ref wP), .val (.ref b), .val (.double (FP.i2d (2 : Int32))), .second, .unset] []))
      refine own_to (fun t k => XS.aload X94.here hx rfl (hb hby at_100) rfl rfl k) ?_
      show own_Fin _ _ _ _ _ _ (T94.setTop (mkF m 102 #[.val (.int p1), .val (.int p2), .val (.int p3), .val (.int p4), .val (.int (1 : Int32)), .val (.int (2 : Int32)), .val (.ref wP), .val (.ref b), .val (.double (FP.i2d (2 : Int32))), .second, .unset] [(.ref wP)]))
      refine own_to (fun t k => XS.aload X94.here hx rfl (hb hby at_102) rfl rfl k) ?_
      show own_Fin _ _ _ _ _ _ (T94.setTop (mkF m 104 #[.val (.int p1), .val (.int p2), .val (.int p3), .val (.int p4), .val (.int (1 : Int32)), .val (.int (2 : Int32)), .val (.ref wP), .val (.ref b), .val (.double (FP.i2d (2 : Int32))), .second, .unset] [(.ref b), (.ref wP)]))
      obtain ⟨cq95, kq95, q95a, q95b, q95c⟩ := isOf hZ e94 EP_e94
      obtain ⟨_, _, ⟨T95, L95, k95, n95⟩, -, X95, ⟨Lc95, hQ95, l95, y95, z95⟩, st95⟩ := X94.virtualBack hx (y := (⟨"com/example/walk_to_worth/walktoworth/solver/Scale", "rescale", "([D)V"⟩ : MethodName)) (z := (⟨"com/example/walk_to_worth/walktoworth/solver/Scale", "rescale", "([D)V"⟩ : MethodName)) hown (mvT hZ (hw _ (List.mem_of_getElem? (i := 4) rfl))) (mvT hZ (hw _ (List.mem_of_getElem? (i := 5) rfl))) (notFace_of_selects (args := #[]) (mvT hZ (hw _ (List.mem_of_getElem? (i := 7) rfl)))) (mvT hZ (hw _ (List.mem_of_getElem? (i := 7) rfl))) (mvT hZ (hw _ (List.mem_of_getElem? (i := 6) rfl))) (by decide) (own_back (W := 0) (own_resP2 l Z a0 hw [] wP b k89 p1 p2 h94 n0 (Nat.le_trans (Nat.le_trans (Nat.le_trans Z0 E89.1) (Keep.of_wr W92).1) (Keep.of_wr W94).1) O94 SS V94 g_b) hZ (hw _ (List.mem_of_getElem? (i := 8) rfl)) (hw _ (List.mem_of_getElem? (i := 1) rfl)) (by decide) (by decide)) q95a q95c (g := (mkF m 104 #[.val (.int p1), .val (.int p2), .val (.int p3), .val (.int p4), .val (.int (1 : Int32)), .val (.int (2 : Int32)), .val (.ref wP), .val (.ref b), .val (.double (FP.i2d (2 : Int32))), .second, .unset] [(.ref b), (.ref wP)])) rfl (by rw [hml]; rfl) (Steps.refl _) (argsL := [(.ref b)]) (rest := []) (lenOf own_pd0 rfl) rfl (by show 2 * 0 + _ ≤ _; exact Nat.le_of_eq rfl) (hb hby at_104) (fun _ _ => ⟨rfl, e94, (by decide : 1 + 0 ≤ _), (by decide : 2 + 0 ≤ _)⟩)
      dsimp only [Pt.U, Pt.locs, Pt.cells, Pt.slots] at X95 l95 y95 z95 st95 hQ95
      subst l95 y95 z95
      obtain ⟨rfl, N95q, K95, Vr95⟩ := hQ95
      have N95 := Fr.app N94 N95q
      have O95 := O94.keep K95 (allS g_b all0)
      have EP_e95 := EP_e94.keep K95
      have EC_e95 := EC_e94.keep K95
      have A89x_e95 := A89x_e94.keep K95
      refine own_to (fun t k => st95.trans k) ?_
      show own_Fin _ _ _ _ _ _ (T95.setTop (mkF m 107 #[.val (.int p1), .val (.int p2), .val (.int p3), .val (.int p4), .val (.int (1 : Int32)), .val (.int (2 : Int32)), .val (.ref wP), .val (.ref b), .val (.double (FP.i2d (2 : Int32))), .second, .unset] []))
      refine own_to (fun t k => XS.aload X95.here hx rfl (hb hby at_107) rfl rfl k) ?_
      show own_Fin _ _ _ _ _ _ (T95.setTop (mkF m 109 #[.val (.int p1), .val (.int p2), .val (.int p3), .val (.int p4), .val (.int (1 : Int32)), .val (.int (2 : Int32)), .val (.ref wP), .val (.ref b), .val (.double (FP.i2d (2 : Int32))), .second, .unset] [(.ref b)]))
      obtain ⟨cl96, Ar96, qa96, Sa96, Na96, Ha96, Ga96⟩ := id Vr95
      refine own_to (fun t k => X95.arraylength hx Ar96.1 (State.isArrayOf_alike hZ.alike Ar96.2.1) (g := (mkF m 109 #[.val (.int p1), .val (.int p2), .val (.int p3), .val (.int p4), .val (.int (1 : Int32)), .val (.int (2 : Int32)), .val (.ref wP), .val (.ref b), .val (.double (FP.i2d (2 : Int32))), .second, .unset] [(.ref b)])) rfl rfl (hb hby at_109) _ k) ?_
      rw [len_of Sa96 Na96]
      show own_Fin _ _ _ _ _ _ (T95.setTop (mkF m 110 #[.val (.int p1), .val (.int p2), .val (.int p3), .val (.int p4), .val (.int (1 : Int32)), .val (.int (2 : Int32)), .val (.ref wP), .val (.ref b), .val (.double (FP.i2d (2 : Int32))), .second, .unset] [(.int (2 : Int32))]))
      refine own_to (fun t k => XS.iload X95.here hx rfl (hb hby at_110) rfl k) ?_
      show own_Fin _ _ _ _ _ _ (T95.setTop (mkF m 112 #[.val (.int p1), .val (.int p2), .val (.int p3), .val (.int p4), .val (.int (1 : Int32)), .val (.int (2 : Int32)), .val (.ref wP), .val (.ref b), .val (.double (FP.i2d (2 : Int32))), .second, .unset] [(.int (2 : Int32)), (.int (2 : Int32))]))
      refine own_to (fun t k => XS.icmpNo X95.here hx rfl (hb hby at_112) rfl (teq rfl).2 k) ?_
      show own_Fin _ _ _ _ _ _ (T95.setTop (mkF m 115 #[.val (.int p1), .val (.int p2), .val (.int p3), .val (.int p4), .val (.int (1 : Int32)), .val (.int (2 : Int32)), .val (.ref wP), .val (.ref b), .val (.double (FP.i2d (2 : Int32))), .second, .unset] []))
      refine own_to (fun t k => XS.iconst X95.here hx rfl (hb hby at_115) k) ?_
      show own_Fin _ _ _ _ _ _ (T95.setTop (mkF m 116 #[.val (.int p1), .val (.int p2), .val (.int p3), .val (.int p4), .val (.int (1 : Int32)), .val (.int (2 : Int32)), .val (.ref wP), .val (.ref b), .val (.double (FP.i2d (2 : Int32))), .second, .unset] [(.int (1 : Int32))]))
      refine own_to (fun t k => XS.goto X95.here hx rfl (pc0 := 116) (pc' := 120) rfl (hb hby at_116) (by decide) (by decide) k) ?_
      show own_Fin _ _ _ _ _ _ (T95.setTop (mkF m 120 #[.val (.int p1), .val (.int p2), .val (.int p3), .val (.int p4), .val (.int (1 : Int32)), .val (.int (2 : Int32)), .val (.ref wP), .val (.ref b), .val (.double (FP.i2d (2 : Int32))), .second, .unset] [(.int (1 : Int32))]))
      refine own_to (fun t k => XS.istore X95.here hx rfl (hb hby at_120) rfl (l' := #[.val (.int p1), .val (.int p2), .val (.int p3), .val (.int p4), .val (.int (1 : Int32)), .val (.int (2 : Int32)), .val (.ref wP), .val (.ref b), .val (.double (FP.i2d (2 : Int32))), .second, .val (.int (1 : Int32))]) rfl k) ?_
      show own_Fin _ _ _ _ _ _ (T95.setTop (mkF m 122 #[.val (.int p1), .val (.int p2), .val (.int p3), .val (.int p4), .val (.int (1 : Int32)), .val (.int (2 : Int32)), .val (.ref wP), .val (.ref b), .val (.double (FP.i2d (2 : Int32))), .second, .val (.int (1 : Int32))] []))
      refine own_to (fun t k => XS.iload X95.here hx rfl (hb hby at_122) rfl k) ?_
      show own_Fin _ _ _ _ _ _ (T95.setTop (mkF m 124 #[.val (.int p1), .val (.int p2), .val (.int p3), .val (.int p4), .val (.int (1 : Int32)), .val (.int (2 : Int32)), .val (.ref wP), .val (.ref b), .val (.double (FP.i2d (2 : Int32))), .second, .val (.int (1 : Int32))] [(.int (2 : Int32))]))
      refine own_to (fun t k => XS.ifNo X95.here hx rfl (hb hby at_124) rfl ((if0 _ _).trans (tlt (by decide)).2.2.2) k) ?_
      show own_Fin _ _ _ _ _ _ (T95.setTop (mkF m 127 #[.val (.int p1), .val (.int p2), .val (.int p3), .val (.int p4), .val (.int (1 : Int32)), .val (.int (2 : Int32)), .val (.ref wP), .val (.ref b), .val (.double (FP.i2d (2 : Int32))), .second, .val (.int (1 : Int32))] []))
      refine own_to (fun t k => XS.iload X95.here hx rfl (hb hby at_127) rfl k) ?_
      show own_Fin _ _ _ _ _ _ (T95.setTop (mkF m 129 #[.val (.int p1), .val (.int p2), .val (.int p3), .val (.int p4), .val (.int (1 : Int32)), .val (.int (2 : Int32)), .val (.ref wP), .val (.ref b), .val (.double (FP.i2d (2 : Int32))), .second, .val (.int (1 : Int32))] [(.int (1 : Int32))]))
      refine own_to (fun t k => XS.ifNo X95.here hx rfl (hb hby at_129) rfl ((if0 _ _).trans (feq (by decide)).1) k) ?_
      show own_Fin _ _ _ _ _ _ (T95.setTop (mkF m 132 #[.val (.int p1), .val (.int p2), .val (.int p3), .val (.int p4), .val (.int (1 : Int32)), .val (.int (2 : Int32)), .val (.ref wP), .val (.ref b), .val (.double (FP.i2d (2 : Int32))), .second, .val (.int (1 : Int32))] []))
      refine own_to (fun t k => XS.aload X95.here hx rfl (hb hby at_132) rfl rfl k) ?_
      show own_Fin _ _ _ _ _ _ (T95.setTop (mkF m 134 #[.val (.int p1), .val (.int p2), .val (.int p3), .val (.int p4), .val (.int (1 : Int32)), .val (.int (2 : Int32)), .val (.ref wP), .val (.ref b), .val (.double (FP.i2d (2 : Int32))), .second, .val (.int (1 : Int32))] [(.ref b)]))
      refine own_to (fun t k => XS.iconst X95.here hx rfl (hb hby at_134) k) ?_
      show own_Fin _ _ _ _ _ _ (T95.setTop (mkF m 135 #[.val (.int p1), .val (.int p2), .val (.int p3), .val (.int p4), .val (.int (1 : Int32)), .val (.int (2 : Int32)), .val (.ref wP), .val (.ref b), .val (.double (FP.i2d (2 : Int32))), .second, .val (.int (1 : Int32))] [(.int (0 : Int32)), (.ref b)]))
      obtain ⟨cl97, Ar97, qa97, Sa97, Na97, Ha97, Ga97⟩ := id Vr95
      have hin98 : ¬ ((0 : Int32) < 0 ∨ cl97.slots.size ≤ ((0 : Int32)).toNatClampNeg) := inb_of Sa97 ⟨by decide, by decide⟩
      refine own_to (fun t k => X95.daload hx (j := (0 : Int32)) (v := (.double (FP.i2d p1))) Ar97.1 (State.isArrayOf_alike hZ.alike Ar97.2.1) Ar97.2.2 hin98 (Has.at Ha97 hin98 rfl) (g := (mkF m 135 #[.val (.int p1), .val (.int p2), .val (.int p3), .val (.int p4), .val (.int (1 : Int32)), .val (.int (2 : Int32)), .val (.ref wP), .val (.ref b), .val (.double (FP.i2d (2 : Int32))), .second, .val (.int (1 : Int32))] [(.int (0 : Int32)), (.ref b)])) rfl rfl (hb hby at_135) _ k) ?_
      show own_Fin _ _ _ _ _ _ (T95.setTop (mkF m 136 #[.val (.int p1), .val (.int p2), .val (.int p3), .val (.int p4), .val (.int (1 : Int32)), .val (.int (2 : Int32)), .val (.ref wP), .val (.ref b), .val (.double (FP.i2d (2 : Int32))), .second, .val (.int (1 : Int32))] [(.double (FP.i2d p1))]))
      refine own_to (fun t k => XS.iloadN X95.here hx rfl (hb hby at_136) rfl k) ?_
      show own_Fin _ _ _ _ _ _ (T95.setTop (mkF m 137 #[.val (.int p1), .val (.int p2), .val (.int p3), .val (.int p4), .val (.int (1 : Int32)), .val (.int (2 : Int32)), .val (.ref wP), .val (.ref b), .val (.double (FP.i2d (2 : Int32))), .second, .val (.int (1 : Int32))] [(.int p1), (.double (FP.i2d p1))]))
      refine own_to (fun t k => XS.i2dS X95.here hx rfl (hb hby at_137) rfl rfl k) ?_
      show own_Fin _ _ _ _ _ _ (T95.setTop (mkF m 138 #[.val (.int p1), .val (.int p2), .val (.int p3), .val (.int p4), .val (.int (1 : Int32)), .val (.int (2 : Int32)), .val (.ref wP), .val (.ref b), .val (.double (FP.i2d (2 : Int32))), .second, .val (.int (1 : Int32))] [(.double (FP.i2d p1)), (.double (FP.i2d p1))]))
      refine own_to (fun t k => XS.dcmpS X95.here hx rfl (hb hby at_138) rfl rfl k) ?_
      show own_Fin _ _ _ _ _ _ (T95.setTop (mkF m 139 #[.val (.int p1), .val (.int p2), .val (.int p3), .val (.int p4), .val (.int (1 : Int32)), .val (.int (2 : Int32)), .val (.ref wP), .val (.ref b), .val (.double (FP.i2d (2 : Int32))), .second, .val (.int (1 : Int32))] [(.int (cmpValue (FP.dcmp (FP.i2d p1) (FP.i2d p1)) .l))]))
      refine own_to (fun t k => XS.ifNo X95.here hx rfl (hb hby at_139) rfl ((if0 _ _).trans (teq (own_same p1)).2) k) ?_
      show own_Fin _ _ _ _ _ _ (T95.setTop (mkF m 142 #[.val (.int p1), .val (.int p2), .val (.int p3), .val (.int p4), .val (.int (1 : Int32)), .val (.int (2 : Int32)), .val (.ref wP), .val (.ref b), .val (.double (FP.i2d (2 : Int32))), .second, .val (.int (1 : Int32))] []))
      refine own_to (fun t k => XS.iconst X95.here hx rfl (hb hby at_142) k) ?_
      show own_Fin _ _ _ _ _ _ (T95.setTop (mkF m 143 #[.val (.int p1), .val (.int p2), .val (.int p3), .val (.int p4), .val (.int (1 : Int32)), .val (.int (2 : Int32)), .val (.ref wP), .val (.ref b), .val (.double (FP.i2d (2 : Int32))), .second, .val (.int (1 : Int32))] [(.int (1 : Int32))]))
      refine own_to (fun t k => XS.goto X95.here hx rfl (pc0 := 143) (pc' := 147) rfl (hb hby at_143) (by decide) (by decide) k) ?_
      show own_Fin _ _ _ _ _ _ (T95.setTop (mkF m 147 #[.val (.int p1), .val (.int p2), .val (.int p3), .val (.int p4), .val (.int (1 : Int32)), .val (.int (2 : Int32)), .val (.ref wP), .val (.ref b), .val (.double (FP.i2d (2 : Int32))), .second, .val (.int (1 : Int32))] [(.int (1 : Int32))]))
      refine own_to (fun t k => XS.istore X95.here hx rfl (hb hby at_147) rfl (l' := #[.val (.int p1), .val (.int p2), .val (.int p3), .val (.int p4), .val (.int (1 : Int32)), .val (.int (2 : Int32)), .val (.ref wP), .val (.ref b), .val (.double (FP.i2d (2 : Int32))), .second, .val (.int (1 : Int32))]) rfl k) ?_
      show own_Fin _ _ _ _ _ _ (T95.setTop (mkF m 149 #[.val (.int p1), .val (.int p2), .val (.int p3), .val (.int p4), .val (.int (1 : Int32)), .val (.int (2 : Int32)), .val (.ref wP), .val (.ref b), .val (.double (FP.i2d (2 : Int32))), .second, .val (.int (1 : Int32))] []))
      refine own_to (fun t k => XS.iload X95.here hx rfl (hb hby at_149) rfl k) ?_
      show own_Fin _ _ _ _ _ _ (T95.setTop (mkF m 151 #[.val (.int p1), .val (.int p2), .val (.int p3), .val (.int p4), .val (.int (1 : Int32)), .val (.int (2 : Int32)), .val (.ref wP), .val (.ref b), .val (.double (FP.i2d (2 : Int32))), .second, .val (.int (1 : Int32))] [(.int (2 : Int32))]))
      refine own_to (fun t k => XS.iconst X95.here hx rfl (hb hby at_151) k) ?_
      show own_Fin _ _ _ _ _ _ (T95.setTop (mkF m 152 #[.val (.int p1), .val (.int p2), .val (.int p3), .val (.int p4), .val (.int (1 : Int32)), .val (.int (2 : Int32)), .val (.ref wP), .val (.ref b), .val (.double (FP.i2d (2 : Int32))), .second, .val (.int (1 : Int32))] [(.int (1 : Int32)), (.int (2 : Int32))]))
      refine own_to (fun t k => XS.icmpNo X95.here hx rfl (hb hby at_152) rfl (tlt (by decide)).2.2.2 k) ?_
      show own_Fin _ _ _ _ _ _ (T95.setTop (mkF m 155 #[.val (.int p1), .val (.int p2), .val (.int p3), .val (.int p4), .val (.int (1 : Int32)), .val (.int (2 : Int32)), .val (.ref wP), .val (.ref b), .val (.double (FP.i2d (2 : Int32))), .second, .val (.int (1 : Int32))] []))
      refine own_to (fun t k => XS.iload X95.here hx rfl (hb hby at_155) rfl k) ?_
      show own_Fin _ _ _ _ _ _ (T95.setTop (mkF m 157 #[.val (.int p1), .val (.int p2), .val (.int p3), .val (.int p4), .val (.int (1 : Int32)), .val (.int (2 : Int32)), .val (.ref wP), .val (.ref b), .val (.double (FP.i2d (2 : Int32))), .second, .val (.int (1 : Int32))] [(.int (1 : Int32))]))
      refine own_to (fun t k => XS.ifNo X95.here hx rfl (hb hby at_157) rfl ((if0 _ _).trans (feq (by decide)).1) k) ?_
      show own_Fin _ _ _ _ _ _ (T95.setTop (mkF m 160 #[.val (.int p1), .val (.int p2), .val (.int p3), .val (.int p4), .val (.int (1 : Int32)), .val (.int (2 : Int32)), .val (.ref wP), .val (.ref b), .val (.double (FP.i2d (2 : Int32))), .second, .val (.int (1 : Int32))] []))
      refine own_to (fun t k => XS.aload X95.here hx rfl (hb hby at_160) rfl rfl k) ?_
      show own_Fin _ _ _ _ _ _ (T95.setTop (mkF m 162 #[.val (.int p1), .val (.int p2), .val (.int p3), .val (.int p4), .val (.int (1 : Int32)), .val (.int (2 : Int32)), .val (.ref wP), .val (.ref b), .val (.double (FP.i2d (2 : Int32))), .second, .val (.int (1 : Int32))] [(.ref b)]))
      refine own_to (fun t k => XS.iconst X95.here hx rfl (hb hby at_162) k) ?_
      show own_Fin _ _ _ _ _ _ (T95.setTop (mkF m 163 #[.val (.int p1), .val (.int p2), .val (.int p3), .val (.int p4), .val (.int (1 : Int32)), .val (.int (2 : Int32)), .val (.ref wP), .val (.ref b), .val (.double (FP.i2d (2 : Int32))), .second, .val (.int (1 : Int32))] [(.int (1 : Int32)), (.ref b)]))
      obtain ⟨cl99, Ar99, qa99, Sa99, Na99, Ha99, Ga99⟩ := id Vr95
      have hin100 : ¬ ((1 : Int32) < 0 ∨ cl99.slots.size ≤ ((1 : Int32)).toNatClampNeg) := inb_of Sa99 ⟨by decide, by decide⟩
      refine own_to (fun t k => X95.daload hx (j := (1 : Int32)) (v := (.double (FP.i2d p2))) Ar99.1 (State.isArrayOf_alike hZ.alike Ar99.2.1) Ar99.2.2 hin100 (Has.at Ha99 hin100 rfl) (g := (mkF m 163 #[.val (.int p1), .val (.int p2), .val (.int p3), .val (.int p4), .val (.int (1 : Int32)), .val (.int (2 : Int32)), .val (.ref wP), .val (.ref b), .val (.double (FP.i2d (2 : Int32))), .second, .val (.int (1 : Int32))] [(.int (1 : Int32)), (.ref b)])) rfl rfl (hb hby at_163) _ k) ?_
      show own_Fin _ _ _ _ _ _ (T95.setTop (mkF m 164 #[.val (.int p1), .val (.int p2), .val (.int p3), .val (.int p4), .val (.int (1 : Int32)), .val (.int (2 : Int32)), .val (.ref wP), .val (.ref b), .val (.double (FP.i2d (2 : Int32))), .second, .val (.int (1 : Int32))] [(.double (FP.i2d p2))]))
      refine own_to (fun t k => XS.iloadN X95.here hx rfl (hb hby at_164) rfl k) ?_
      show own_Fin _ _ _ _ _ _ (T95.setTop (mkF m 165 #[.val (.int p1), .val (.int p2), .val (.int p3), .val (.int p4), .val (.int (1 : Int32)), .val (.int (2 : Int32)), .val (.ref wP), .val (.ref b), .val (.double (FP.i2d (2 : Int32))), .second, .val (.int (1 : Int32))] [(.int p2), (.double (FP.i2d p2))]))
      refine own_to (fun t k => XS.i2dS X95.here hx rfl (hb hby at_165) rfl rfl k) ?_
      show own_Fin _ _ _ _ _ _ (T95.setTop (mkF m 166 #[.val (.int p1), .val (.int p2), .val (.int p3), .val (.int p4), .val (.int (1 : Int32)), .val (.int (2 : Int32)), .val (.ref wP), .val (.ref b), .val (.double (FP.i2d (2 : Int32))), .second, .val (.int (1 : Int32))] [(.double (FP.i2d p2)), (.double (FP.i2d p2))]))
      refine own_to (fun t k => XS.dcmpS X95.here hx rfl (hb hby at_166) rfl rfl k) ?_
      show own_Fin _ _ _ _ _ _ (T95.setTop (mkF m 167 #[.val (.int p1), .val (.int p2), .val (.int p3), .val (.int p4), .val (.int (1 : Int32)), .val (.int (2 : Int32)), .val (.ref wP), .val (.ref b), .val (.double (FP.i2d (2 : Int32))), .second, .val (.int (1 : Int32))] [(.int (cmpValue (FP.dcmp (FP.i2d p2) (FP.i2d p2)) .l))]))
      refine own_to (fun t k => XS.ifNo X95.here hx rfl (hb hby at_167) rfl ((if0 _ _).trans (teq (own_same p2)).2) k) ?_
      show own_Fin _ _ _ _ _ _ (T95.setTop (mkF m 170 #[.val (.int p1), .val (.int p2), .val (.int p3), .val (.int p4), .val (.int (1 : Int32)), .val (.int (2 : Int32)), .val (.ref wP), .val (.ref b), .val (.double (FP.i2d (2 : Int32))), .second, .val (.int (1 : Int32))] []))
      refine own_to (fun t k => XS.iconst X95.here hx rfl (hb hby at_170) k) ?_
      show own_Fin _ _ _ _ _ _ (T95.setTop (mkF m 171 #[.val (.int p1), .val (.int p2), .val (.int p3), .val (.int p4), .val (.int (1 : Int32)), .val (.int (2 : Int32)), .val (.ref wP), .val (.ref b), .val (.double (FP.i2d (2 : Int32))), .second, .val (.int (1 : Int32))] [(.int (1 : Int32))]))
      refine own_to (fun t k => XS.goto X95.here hx rfl (pc0 := 171) (pc' := 175) rfl (hb hby at_171) (by decide) (by decide) k) ?_
      show own_Fin _ _ _ _ _ _ (T95.setTop (mkF m 175 #[.val (.int p1), .val (.int p2), .val (.int p3), .val (.int p4), .val (.int (1 : Int32)), .val (.int (2 : Int32)), .val (.ref wP), .val (.ref b), .val (.double (FP.i2d (2 : Int32))), .second, .val (.int (1 : Int32))] [(.int (1 : Int32))]))
      refine own_to (fun t k => XS.istore X95.here hx rfl (hb hby at_175) rfl (l' := #[.val (.int p1), .val (.int p2), .val (.int p3), .val (.int p4), .val (.int (1 : Int32)), .val (.int (2 : Int32)), .val (.ref wP), .val (.ref b), .val (.double (FP.i2d (2 : Int32))), .second, .val (.int (1 : Int32))]) rfl k) ?_
      show own_Fin _ _ _ _ _ _ (T95.setTop (mkF m 177 #[.val (.int p1), .val (.int p2), .val (.int p3), .val (.int p4), .val (.int (1 : Int32)), .val (.int (2 : Int32)), .val (.ref wP), .val (.ref b), .val (.double (FP.i2d (2 : Int32))), .second, .val (.int (1 : Int32))] []))
      refine own_to (fun t k => XS.iload X95.here hx rfl (hb hby at_177) rfl k) ?_
      show own_Fin _ _ _ _ _ _ (T95.setTop (mkF m 179 #[.val (.int p1), .val (.int p2), .val (.int p3), .val (.int p4), .val (.int (1 : Int32)), .val (.int (2 : Int32)), .val (.ref wP), .val (.ref b), .val (.double (FP.i2d (2 : Int32))), .second, .val (.int (1 : Int32))] [(.int (2 : Int32))]))
      refine own_to (fun t k => XS.iconst X95.here hx rfl (hb hby at_179) k) ?_
      show own_Fin _ _ _ _ _ _ (T95.setTop (mkF m 180 #[.val (.int p1), .val (.int p2), .val (.int p3), .val (.int p4), .val (.int (1 : Int32)), .val (.int (2 : Int32)), .val (.ref wP), .val (.ref b), .val (.double (FP.i2d (2 : Int32))), .second, .val (.int (1 : Int32))] [(.int (2 : Int32)), (.int (2 : Int32))]))
      refine own_to (fun t k => XS.icmpYes X95.here hx rfl (pc0 := 180) (pc' := 205) rfl (hb hby at_180) rfl (flt (Int32.lt_irrefl)).2.2.2 (by decide) (by decide) k) ?_
      show own_Fin _ _ _ _ _ _ (T95.setTop (mkF m 205 #[.val (.int p1), .val (.int p2), .val (.int p3), .val (.int p4), .val (.int (1 : Int32)), .val (.int (2 : Int32)), .val (.ref wP), .val (.ref b), .val (.double (FP.i2d (2 : Int32))), .second, .val (.int (1 : Int32))] []))
      refine own_to (fun t k => XS.iload X95.here hx rfl (hb hby at_205) rfl k) ?_
      show own_Fin _ _ _ _ _ _ (T95.setTop (mkF m 207 #[.val (.int p1), .val (.int p2), .val (.int p3), .val (.int p4), .val (.int (1 : Int32)), .val (.int (2 : Int32)), .val (.ref wP), .val (.ref b), .val (.double (FP.i2d (2 : Int32))), .second, .val (.int (1 : Int32))] [(.int (1 : Int32))]))
      refine own_retN X95 hx hlk (t := .boolean) hret (by simp) (hb hby at_207) (by decide) (by decide) ?_
      exact ⟨rfl, N95⟩
    ·
      rw [hl]
      show own_Fin _ _ _ _ _ _ (T76.setTop (mkF m 38 #[.val (.int p1), .val (.int p2), .val (.int p3), .val (.int p4), .val (.int (1 : Int32)), .val (.int (3 : Int32)), .val (.ref wP), .unset, .unset, .unset, .unset] [(.int (3 : Int32))]))
      obtain ⟨T101, h101, k101, X101, e101, E101, A101, A101x, st101⟩ := newPE X76 hx hZ (hw _ (List.mem_of_getElem? (i := 3) rfl)) e76 (g := (mkF m 38 #[.val (.int p1), .val (.int p2), .val (.int p3), .val (.int p4), .val (.int (1 : Int32)), .val (.int (3 : Int32)), .val (.ref wP), .unset, .unset, .unset, .unset] [(.int (3 : Int32))])) rfl (hb hby at_38) rfl (by decide) (cap := 3) (by decide) (by decide) (by decide) (by decide) (ad := "[D") (by decide)
      obtain ⟨b, q101⟩ : ∃ z, z = h0.size := ⟨_, rfl⟩
      rw [← q101] at A101 A101x st101
      have ne_wP_b : wP ≠ b := Nat.ne_of_lt (Nat.lt_of_lt_of_le EP.lt (Nat.le_of_eq q101.symm))
      have ne_wC_b : wC ≠ b := Nat.ne_of_lt (Nat.lt_of_lt_of_le EC.lt (Nat.le_of_eq q101.symm))
      have g_b : n0 ≤ b := Nat.le_trans Z0 (Nat.le_of_eq q101.symm)
      have O101 := O0.ext E101
      have EP_e101 := EP.ext E101
      have EC_e101 := EC.ext E101
      have V101 := Arv.new A101 (by decide)
      refine own_to (fun t k => st101 t k) ?_
      show own_Fin _ _ _ _ _ _ (T101.setTop (mkF m 40 #[.val (.int p1), .val (.int p2), .val (.int p3), .val (.int p4), .val (.int (1 : Int32)), .val (.int (3 : Int32)), .val (.ref wP), .unset, .unset, .unset, .unset] [(.ref b)]))
      have V102p : Arv Z h101 b k101 .double (3 : Int32) [(.double (0 : UInt64)), (.double (0 : UInt64)), (.double (0 : UInt64))] (.double (0 : UInt64)) := V101.pad (pad_rep [] (.double (0 : UInt64)) 3)
      refine own_to (fun t k => XS.astore X101.here hx rfl (hb hby at_40) rfl rfl (l' := #[.val (.int p1), .val (.int p2), .val (.int p3), .val (.int p4), .val (.int (1 : Int32)), .val (.int (3 : Int32)), .val (.ref wP), .val (.ref b), .unset, .unset, .unset]) rfl k) ?_
      show own_Fin _ _ _ _ _ _ (T101.setTop (mkF m 42 #[.val (.int p1), .val (.int p2), .val (.int p3), .val (.int p4), .val (.int (1 : Int32)), .val (.int (3 : Int32)), .val (.ref wP), .val (.ref b), .unset, .unset, .unset] []))
      refine own_to (fun t k => XS.iload X101.here hx rfl (hb hby at_42) rfl k) ?_
      show own_Fin _ _ _ _ _ _ (T101.setTop (mkF m 44 #[.val (.int p1), .val (.int p2), .val (.int p3), .val (.int p4), .val (.int (1 : Int32)), .val (.int (3 : Int32)), .val (.ref wP), .val (.ref b), .unset, .unset, .unset] [(.int (1 : Int32))]))
      refine own_to (fun t k => XS.ifNo X101.here hx rfl (hb hby at_44) rfl ((if0 _ _).trans (feq (by decide)).1) k) ?_
      show own_Fin _ _ _ _ _ _ (T101.setTop (mkF m 47 #[.val (.int p1), .val (.int p2), .val (.int p3), .val (.int p4), .val (.int (1 : Int32)), .val (.int (3 : Int32)), .val (.ref wP), .val (.ref b), .unset, .unset, .unset] []))
      refine own_to (fun t k => XS.iload X101.here hx rfl (hb hby at_47) rfl k) ?_
      show own_Fin _ _ _ _ _ _ (T101.setTop (mkF m 49 #[.val (.int p1), .val (.int p2), .val (.int p3), .val (.int p4), .val (.int (1 : Int32)), .val (.int (3 : Int32)), .val (.ref wP), .val (.ref b), .unset, .unset, .unset] [(.int (3 : Int32))]))
      refine own_to (fun t k => XS.i2dS X101.here hx rfl (hb hby at_49) rfl rfl k) ?_
      show own_Fin _ _ _ _ _ _ (T101.setTop (mkF m 50 #[.val (.int p1), .val (.int p2), .val (.int p3), .val (.int p4), .val (.int (1 : Int32)), .val (.int (3 : Int32)), .val (.ref wP), .val (.ref b), .unset, .unset, .unset] [(.double (FP.i2d (3 : Int32)))]))
      refine own_to (fun t k => XS.goto X101.here hx rfl (pc0 := 50) (pc' := 54) rfl (hb hby at_50) (by decide) (by decide) k) ?_
      show own_Fin _ _ _ _ _ _ (T101.setTop (mkF m 54 #[.val (.int p1), .val (.int p2), .val (.int p3), .val (.int p4), .val (.int (1 : Int32)), .val (.int (3 : Int32)), .val (.ref wP), .val (.ref b), .unset, .unset, .unset] [(.double (FP.i2d (3 : Int32)))]))
      refine own_to (fun t k => XS.dstore X101.here hx rfl (hb hby at_54) rfl (l' := #[.val (.int p1), .val (.int p2), .val (.int p3), .val (.int p4), .val (.int (1 : Int32)), .val (.int (3 : Int32)), .val (.ref wP), .val (.ref b), .val (.double (FP.i2d (3 : Int32))), .second, .unset]) rfl k) ?_
      show own_Fin _ _ _ _ _ _ (T101.setTop (mkF m 56 #[.val (.int p1), .val (.int p2), .val (.int p3), .val (.int p4), .val (.int (1 : Int32)), .val (.int (3 : Int32)), .val (.ref wP), .val (.ref b), .val (.double (FP.i2d (3 : Int32))), .second, .unset] []))
      refine own_to (fun t k => XS.iload X101.here hx rfl (hb hby at_56) rfl k) ?_
      show own_Fin _ _ _ _ _ _ (T101.setTop (mkF m 58 #[.val (.int p1), .val (.int p2), .val (.int p3), .val (.int p4), .val (.int (1 : Int32)), .val (.int (3 : Int32)), .val (.ref wP), .val (.ref b), .val (.double (FP.i2d (3 : Int32))), .second, .unset] [(.int (3 : Int32))]))
      refine own_to (fun t k => XS.ifNo X101.here hx rfl (hb hby at_58) rfl ((if0 _ _).trans (tlt (by decide)).2.2.2) k) ?_
      show own_Fin _ _ _ _ _ _ (T101.setTop (mkF m 61 #[.val (.int p1), .val (.int p2), .val (.int p3), .val (.int p4), .val (.int (1 : Int32)), .val (.int (3 : Int32)), .val (.ref wP), .val (.ref b), .val (.double (FP.i2d (3 : Int32))), .second, .unset] []))
      refine own_to (fun t k => XS.aload X101.here hx rfl (hb hby at_61) rfl rfl k) ?_
      show own_Fin _ _ _ _ _ _ (T101.setTop (mkF m 63 #[.val (.int p1), .val (.int p2), .val (.int p3), .val (.int p4), .val (.int (1 : Int32)), .val (.int (3 : Int32)), .val (.ref wP), .val (.ref b), .val (.double (FP.i2d (3 : Int32))), .second, .unset] [(.ref b)]))
      refine own_to (fun t k => XS.iconst X101.here hx rfl (hb hby at_63) k) ?_
      show own_Fin _ _ _ _ _ _ (T101.setTop (mkF m 64 #[.val (.int p1), .val (.int p2), .val (.int p3), .val (.int p4), .val (.int (1 : Int32)), .val (.int (3 : Int32)), .val (.ref wP), .val (.ref b), .val (.double (FP.i2d (3 : Int32))), .second, .unset] [(.int (0 : Int32)), (.ref b)]))
      refine own_to (fun t k => XS.iloadN X101.here hx rfl (hb hby at_64) rfl k) ?_
      show own_Fin _ _ _ _ _ _ (T101.setTop (mkF m 65 #[.val (.int p1), .val (.int p2), .val (.int p3), .val (.int p4), .val (.int (1 : Int32)), .val (.int (3 : Int32)), .val (.ref wP), .val (.ref b), .val (.double (FP.i2d (3 : Int32))), .second, .unset] [(.int p1), (.int (0 : Int32)), (.ref b)]))
      refine own_to (fun t k => XS.i2dS X101.here hx rfl (hb hby at_65) rfl rfl k) ?_
      show own_Fin _ _ _ _ _ _ (T101.setTop (mkF m 66 #[.val (.int p1), .val (.int p2), .val (.int p3), .val (.int p4), .val (.int (1 : Int32)), .val (.int (3 : Int32)), .val (.ref wP), .val (.ref b), .val (.double (FP.i2d (3 : Int32))), .second, .unset] [(.double (FP.i2d p1)), (.int (0 : Int32)), (.ref b)]))
      refine own_to (fun t k => XS.dload X101.here hx rfl (hb hby at_66) rfl k) ?_
      show own_Fin _ _ _ _ _ _ (T101.setTop (mkF m 68 #[.val (.int p1), .val (.int p2), .val (.int p3), .val (.int p4), .val (.int (1 : Int32)), .val (.int (3 : Int32)), .val (.ref wP), .val (.ref b), .val (.double (FP.i2d (3 : Int32))), .second, .unset] [(.double (FP.i2d (3 : Int32))), (.double (FP.i2d p1)), (.int (0 : Int32)), (.ref b)]))
      refine own_to (fun t k => XS.dmulS X101.here hx rfl (hb hby at_68) rfl (by rw [own_mul p1 (3 : Int32) (by decide) (by decide)]; exact own_nl _) (own_mul p1 (3 : Int32) (by decide) (by decide)) k) ?_
      show own_Fin _ _ _ _ _ _ (T101.setTop (mkF m 69 #[.val (.int p1), .val (.int p2), .val (.int p3), .val (.int p4), .val (.int (1 : Int32)), .val (.int (3 : Int32)), .val (.ref wP), .val (.ref b), .val (.double (FP.i2d (3 : Int32))), .second, .unset] [(.double (FP.l2d (p1.toInt64 * (3 : Int32).toInt64))), (.int (0 : Int32)), (.ref b)]))
      obtain ⟨cl103, Ar103, qa103, Sa103, Na103, Ha103, Ga103⟩ := id V102p
      have hin104 : ¬ ((0 : Int32) < 0 ∨ cl103.slots.size ≤ ((0 : Int32)).toNatClampNeg) := inb_of Sa103 ⟨by decide, by decide⟩
      obtain ⟨T104, h104, X104, e104, W104, st104⟩ := stD X101 hx hZ e101 Ar103 (j := (0 : Int32)) hin104 (g := (mkF m 69 #[.val (.int p1), .val (.int p2), .val (.int p3), .val (.int p4), .val (.int (1 : Int32)), .val (.int (3 : Int32)), .val (.ref wP), .val (.ref b), .val (.double (FP.i2d (3 : Int32))), .second, .unset] [(.double (FP.l2d (p1.toInt64 * (3 : Int32).toInt64))), (.int (0 : Int32)), (.ref b)])) rfl rfl (hb hby at_69)
      have N104 := Fr.snoc X104 N0 g_b
      have O104 := O101.wr W104 g_b
      have EP_e104 := EP_e101.wr W104
      have EC_e104 := EC_e101.wr W104
      have A101x_e104 := A101x.wr W104
      have V104 : Arv Z h104 b k101 .double (3 : Int32) [(.double (FP.l2d (p1.toInt64 * (3 : Int32).toInt64))), (.double (0 : UInt64)), (.double (0 : UInt64))] (.double (0 : UInt64)) := Arv.set Ar103 qa103 Sa103 Na103 Ha103 Ga103 rfl W104 0 rfl (Nat.le_of_ble_eq_true rfl)
      refine own_to (fun t k => st104 t k) ?_
      show own_Fin _ _ _ _ _ _ (T104.setTop (mkF m 70 #[.val (.int p1), .val (.int p2), .val (.int p3), .val (.int p4), .val (.int (1 : Int32)), .val (.int (3 : Int32)), .val (.ref wP), .val (.ref b), .val (.double (FP.i2d (3 : Int32))), .second, .unset] []))
      refine own_to (fun t k => XS.iload X104.here hx rfl (hb hby at_70) rfl k) ?_
      show own_Fin _ _ _ _ _ _ (T104.setTop (mkF m 72 #[.val (.int p1), .val (.int p2), .val (.int p3), .val (.int p4), .val (.int (1 : Int32)), .val (.int (3 : Int32)), .val (.ref wP), .val (.ref b), .val (.double (FP.i2d (3 : Int32))), .second, .unset] [(.int (3 : Int32))]))
      refine own_to (fun t k => XS.iconst X104.here hx rfl (hb hby at_72) k) ?_
      show own_Fin _ _ _ _ _ _ (T104.setTop (mkF m 73 #[.val (.int p1), .val (.int p2), .val (.int p3), .val (.int p4), .val (.int (1 : Int32)), .val (.int (3 : Int32)), .val (.ref wP), .val (.ref b), .val (.double (FP.i2d (3 : Int32))), .second, .unset] [(.int (1 : Int32)), (.int (3 : Int32))]))
      refine own_to (fun t k => XS.icmpNo X104.here hx rfl (hb hby at_73) rfl (tlt (by decide)).2.2.2 k) ?_
      show own_Fin _ _ _ _ _ _ (T104.setTop (mkF m 76 #[.val (.int p1), .val (.int p2), .val (.int p3), .val (.int p4), .val (.int (1 : Int32)), .val (.int (3 : Int32)), .val (.ref wP), .val (.ref b), .val (.double (FP.i2d (3 : Int32))), .second, .unset] []))
      refine own_to (fun t k => XS.aload X104.here hx rfl (hb hby at_76) rfl rfl k) ?_
      show own_Fin _ _ _ _ _ _ (T104.setTop (mkF m 78 #[.val (.int p1), .val (.int p2), .val (.int p3), .val (.int p4), .val (.int (1 : Int32)), .val (.int (3 : Int32)), .val (.ref wP), .val (.ref b), .val (.double (FP.i2d (3 : Int32))), .second, .unset] [(.ref b)]))
      refine own_to (fun t k => XS.iconst X104.here hx rfl (hb hby at_78) k) ?_
      show own_Fin _ _ _ _ _ _ (T104.setTop (mkF m 79 #[.val (.int p1), .val (.int p2), .val (.int p3), .val (.int p4), .val (.int (1 : Int32)), .val (.int (3 : Int32)), .val (.ref wP), .val (.ref b), .val (.double (FP.i2d (3 : Int32))), .second, .unset] [(.int (1 : Int32)), (.ref b)]))
      refine own_to (fun t k => XS.iloadN X104.here hx rfl (hb hby at_79) rfl k) ?_
      show own_Fin _ _ _ _ _ _ (T104.setTop (mkF m 80 #[.val (.int p1), .val (.int p2), .val (.int p3), .val (.int p4), .val (.int (1 : Int32)), .val (.int (3 : Int32)), .val (.ref wP), .val (.ref b), .val (.double (FP.i2d (3 : Int32))), .second, .unset] [(.int p2), (.int (1 : Int32)), (.ref b)]))
      refine own_to (fun t k => XS.i2dS X104.here hx rfl (hb hby at_80) rfl rfl k) ?_
      show own_Fin _ _ _ _ _ _ (T104.setTop (mkF m 81 #[.val (.int p1), .val (.int p2), .val (.int p3), .val (.int p4), .val (.int (1 : Int32)), .val (.int (3 : Int32)), .val (.ref wP), .val (.ref b), .val (.double (FP.i2d (3 : Int32))), .second, .unset] [(.double (FP.i2d p2)), (.int (1 : Int32)), (.ref b)]))
      refine own_to (fun t k => XS.dload X104.here hx rfl (hb hby at_81) rfl k) ?_
      show own_Fin _ _ _ _ _ _ (T104.setTop (mkF m 83 #[.val (.int p1), .val (.int p2), .val (.int p3), .val (.int p4), .val (.int (1 : Int32)), .val (.int (3 : Int32)), .val (.ref wP), .val (.ref b), .val (.double (FP.i2d (3 : Int32))), .second, .unset] [(.double (FP.i2d (3 : Int32))), (.double (FP.i2d p2)), (.int (1 : Int32)), (.ref b)]))
      refine own_to (fun t k => XS.dmulS X104.here hx rfl (hb hby at_83) rfl (by rw [own_mul p2 (3 : Int32) (by decide) (by decide)]; exact own_nl _) (own_mul p2 (3 : Int32) (by decide) (by decide)) k) ?_
      show own_Fin _ _ _ _ _ _ (T104.setTop (mkF m 84 #[.val (.int p1), .val (.int p2), .val (.int p3), .val (.int p4), .val (.int (1 : Int32)), .val (.int (3 : Int32)), .val (.ref wP), .val (.ref b), .val (.double (FP.i2d (3 : Int32))), .second, .unset] [(.double (FP.l2d (p2.toInt64 * (3 : Int32).toInt64))), (.int (1 : Int32)), (.ref b)]))
      obtain ⟨cl105, Ar105, qa105, Sa105, Na105, Ha105, Ga105⟩ := id V104
      have hin106 : ¬ ((1 : Int32) < 0 ∨ cl105.slots.size ≤ ((1 : Int32)).toNatClampNeg) := inb_of Sa105 ⟨by decide, by decide⟩
      obtain ⟨T106, h106, X106, e106, W106, st106⟩ := stD X104 hx hZ e104 Ar105 (j := (1 : Int32)) hin106 (g := (mkF m 84 #[.val (.int p1), .val (.int p2), .val (.int p3), .val (.int p4), .val (.int (1 : Int32)), .val (.int (3 : Int32)), .val (.ref wP), .val (.ref b), .val (.double (FP.i2d (3 : Int32))), .second, .unset] [(.double (FP.l2d (p2.toInt64 * (3 : Int32).toInt64))), (.int (1 : Int32)), (.ref b)])) rfl rfl (hb hby at_84)
      have N106 := Fr.snoc X106 N104 g_b
      have O106 := O104.wr W106 g_b
      have EP_e106 := EP_e104.wr W106
      have EC_e106 := EC_e104.wr W106
      have A101x_e106 := A101x_e104.wr W106
      have V106 : Arv Z h106 b k101 .double (3 : Int32) [(.double (FP.l2d (p1.toInt64 * (3 : Int32).toInt64))), (.double (FP.l2d (p2.toInt64 * (3 : Int32).toInt64))), (.double (0 : UInt64))] (.double (0 : UInt64)) := Arv.set Ar105 qa105 Sa105 Na105 Ha105 Ga105 rfl W106 1 rfl (Nat.le_of_ble_eq_true rfl)
      refine own_to (fun t k => st106 t k) ?_
      show own_Fin _ _ _ _ _ _ (T106.setTop (mkF m 85 #[.val (.int p1), .val (.int p2), .val (.int p3), .val (.int p4), .val (.int (1 : Int32)), .val (.int (3 : Int32)), .val (.ref wP), .val (.ref b), .val (.double (FP.i2d (3 : Int32))), .second, .unset] []))
      refine own_to (fun t k => XS.iload X106.here hx rfl (hb hby at_85) rfl k) ?_
      show own_Fin _ _ _ _ _ _ (T106.setTop (mkF m 87 #[.val (.int p1), .val (.int p2), .val (.int p3), .val (.int p4), .val (.int (1 : Int32)), .val (.int (3 : Int32)), .val (.ref wP), .val (.ref b), .val (.double (FP.i2d (3 : Int32))), .second, .unset] [(.int (3 : Int32))]))
      refine own_to (fun t k => XS.iconst X106.here hx rfl (hb hby at_87) k) ?_
      show own_Fin _ _ _ _ _ _ (T106.setTop (mkF m 88 #[.val (.int p1), .val (.int p2), .val (.int p3), .val (.int p4), .val (.int (1 : Int32)), .val (.int (3 : Int32)), .val (.ref wP), .val (.ref b), .val (.double (FP.i2d (3 : Int32))), .second, .unset] [(.int (2 : Int32)), (.int (3 : Int32))]))
      refine own_to (fun t k => XS.icmpNo X106.here hx rfl (hb hby at_88) rfl (tlt (by decide)).2.2.2 k) ?_
      show own_Fin _ _ _ _ _ _ (T106.setTop (mkF m 91 #[.val (.int p1), .val (.int p2), .val (.int p3), .val (.int p4), .val (.int (1 : Int32)), .val (.int (3 : Int32)), .val (.ref wP), .val (.ref b), .val (.double (FP.i2d (3 : Int32))), .second, .unset] []))
      refine own_to (fun t k => XS.aload X106.here hx rfl (hb hby at_91) rfl rfl k) ?_
      show own_Fin _ _ _ _ _ _ (T106.setTop (mkF m 93 #[.val (.int p1), .val (.int p2), .val (.int p3), .val (.int p4), .val (.int (1 : Int32)), .val (.int (3 : Int32)), .val (.ref wP), .val (.ref b), .val (.double (FP.i2d (3 : Int32))), .second, .unset] [(.ref b)]))
      refine own_to (fun t k => XS.iconst X106.here hx rfl (hb hby at_93) k) ?_
      show own_Fin _ _ _ _ _ _ (T106.setTop (mkF m 94 #[.val (.int p1), .val (.int p2), .val (.int p3), .val (.int p4), .val (.int (1 : Int32)), .val (.int (3 : Int32)), .val (.ref wP), .val (.ref b), .val (.double (FP.i2d (3 : Int32))), .second, .unset] [(.int (2 : Int32)), (.ref b)]))
      refine own_to (fun t k => XS.iloadN X106.here hx rfl (hb hby at_94) rfl k) ?_
      show own_Fin _ _ _ _ _ _ (T106.setTop (mkF m 95 #[.val (.int p1), .val (.int p2), .val (.int p3), .val (.int p4), .val (.int (1 : Int32)), .val (.int (3 : Int32)), .val (.ref wP), .val (.ref b), .val (.double (FP.i2d (3 : Int32))), .second, .unset] [(.int p3), (.int (2 : Int32)), (.ref b)]))
      refine own_to (fun t k => XS.i2dS X106.here hx rfl (hb hby at_95) rfl rfl k) ?_
      show own_Fin _ _ _ _ _ _ (T106.setTop (mkF m 96 #[.val (.int p1), .val (.int p2), .val (.int p3), .val (.int p4), .val (.int (1 : Int32)), .val (.int (3 : Int32)), .val (.ref wP), .val (.ref b), .val (.double (FP.i2d (3 : Int32))), .second, .unset] [(.double (FP.i2d p3)), (.int (2 : Int32)), (.ref b)]))
      refine own_to (fun t k => XS.dload X106.here hx rfl (hb hby at_96) rfl k) ?_
      show own_Fin _ _ _ _ _ _ (T106.setTop (mkF m 98 #[.val (.int p1), .val (.int p2), .val (.int p3), .val (.int p4), .val (.int (1 : Int32)), .val (.int (3 : Int32)), .val (.ref wP), .val (.ref b), .val (.double (FP.i2d (3 : Int32))), .second, .unset] [(.double (FP.i2d (3 : Int32))), (.double (FP.i2d p3)), (.int (2 : Int32)), (.ref b)]))
      refine own_to (fun t k => XS.dmulS X106.here hx rfl (hb hby at_98) rfl (by rw [own_mul p3 (3 : Int32) (by decide) (by decide)]; exact own_nl _) (own_mul p3 (3 : Int32) (by decide) (by decide)) k) ?_
      show own_Fin _ _ _ _ _ _ (T106.setTop (mkF m 99 #[.val (.int p1), .val (.int p2), .val (.int p3), .val (.int p4), .val (.int (1 : Int32)), .val (.int (3 : Int32)), .val (.ref wP), .val (.ref b), .val (.double (FP.i2d (3 : Int32))), .second, .unset] [(.double (FP.l2d (p3.toInt64 * (3 : Int32).toInt64))), (.int (2 : Int32)), (.ref b)]))
      obtain ⟨cl107, Ar107, qa107, Sa107, Na107, Ha107, Ga107⟩ := id V106
      have hin108 : ¬ ((2 : Int32) < 0 ∨ cl107.slots.size ≤ ((2 : Int32)).toNatClampNeg) := inb_of Sa107 ⟨by decide, by decide⟩
      obtain ⟨T108, h108, X108, e108, W108, st108⟩ := stD X106 hx hZ e106 Ar107 (j := (2 : Int32)) hin108 (g := (mkF m 99 #[.val (.int p1), .val (.int p2), .val (.int p3), .val (.int p4), .val (.int (1 : Int32)), .val (.int (3 : Int32)), .val (.ref wP), .val (.ref b), .val (.double (FP.i2d (3 : Int32))), .second, .unset] [(.double (FP.l2d (p3.toInt64 * (3 : Int32).toInt64))), (.int (2 : Int32)), (.ref b)])) rfl rfl (hb hby at_99)
      have N108 := Fr.snoc X108 N106 g_b
      have O108 := O106.wr W108 g_b
      have EP_e108 := EP_e106.wr W108
      have EC_e108 := EC_e106.wr W108
      have A101x_e108 := A101x_e106.wr W108
      have V108 : Arv Z h108 b k101 .double (3 : Int32) [(.double (FP.l2d (p1.toInt64 * (3 : Int32).toInt64))), (.double (FP.l2d (p2.toInt64 * (3 : Int32).toInt64))), (.double (FP.l2d (p3.toInt64 * (3 : Int32).toInt64)))] (.double (0 : UInt64)) := Arv.set Ar107 qa107 Sa107 Na107 Ha107 Ga107 rfl W108 2 rfl (Nat.le_of_ble_eq_true rfl)
      refine own_to (fun t k => st108 t k) ?_
      show own_Fin _ _ _ _ _ _ (T108.setTop (mkF m 100 #[.val (.int p1), .val (.int p2), .val (.int p3), .val (.int p4), .val (.int (1 : Int32)), .val (.int (3 : Int32)), .val (.ref wP), .val (.ref b), .val (.double (FP.i2d (3 : Int32))), .second, .unset] []))
      refine own_to (fun t k => XS.aload X108.here hx rfl (hb hby at_100) rfl rfl k) ?_
      show own_Fin _ _ _ _ _ _ (T108.setTop (mkF m 102 #[.val (.int p1), .val (.int p2), .val (.int p3), .val (.int p4), .val (.int (1 : Int32)), .val (.int (3 : Int32)), .val (.ref wP), .val (.ref b), .val (.double (FP.i2d (3 : Int32))), .second, .unset] [(.ref wP)]))
      refine own_to (fun t k => XS.aload X108.here hx rfl (hb hby at_102) rfl rfl k) ?_
      show own_Fin _ _ _ _ _ _ (T108.setTop (mkF m 104 #[.val (.int p1), .val (.int p2), .val (.int p3), .val (.int p4), .val (.int (1 : Int32)), .val (.int (3 : Int32)), .val (.ref wP), .val (.ref b), .val (.double (FP.i2d (3 : Int32))), .second, .unset] [(.ref b), (.ref wP)]))
      obtain ⟨cq109, kq109, q109a, q109b, q109c⟩ := isOf hZ e108 EP_e108
      obtain ⟨_, _, ⟨T109, L109, k109, n109⟩, -, X109, ⟨Lc109, hQ109, l109, y109, z109⟩, st109⟩ := X108.virtualBack hx (y := (⟨"com/example/walk_to_worth/walktoworth/solver/Scale", "rescale", "([D)V"⟩ : MethodName)) (z := (⟨"com/example/walk_to_worth/walktoworth/solver/Scale", "rescale", "([D)V"⟩ : MethodName)) hown (mvT hZ (hw _ (List.mem_of_getElem? (i := 4) rfl))) (mvT hZ (hw _ (List.mem_of_getElem? (i := 5) rfl))) (notFace_of_selects (args := #[]) (mvT hZ (hw _ (List.mem_of_getElem? (i := 7) rfl)))) (mvT hZ (hw _ (List.mem_of_getElem? (i := 7) rfl))) (mvT hZ (hw _ (List.mem_of_getElem? (i := 6) rfl))) (by decide) (own_back (W := 0) (own_resP3 l Z a0 hw [] wP b k101 p1 p2 p3 h108 n0 (Nat.le_trans (Nat.le_trans (Nat.le_trans (Nat.le_trans Z0 E101.1) (Keep.of_wr W104).1) (Keep.of_wr W106).1) (Keep.of_wr W108).1) O108 SS V108 g_b) hZ (hw _ (List.mem_of_getElem? (i := 8) rfl)) (hw _ (List.mem_of_getElem? (i := 1) rfl)) (by decide) (by decide)) q109a q109c (g := (mkF m 104 #[.val (.int p1), .val (.int p2), .val (.int p3), .val (.int p4), .val (.int (1 : Int32)), .val (.int (3 : Int32)), .val (.ref wP), .val (.ref b), .val (.double (FP.i2d (3 : Int32))), .second, .unset] [(.ref b), (.ref wP)])) rfl (by rw [hml]; rfl) (Steps.refl _) (argsL := [(.ref b)]) (rest := []) (lenOf own_pd0 rfl) rfl (by show 2 * 0 + _ ≤ _; exact Nat.le_of_eq rfl) (hb hby at_104) (fun _ _ => ⟨rfl, e108, (by decide : 1 + 0 ≤ _), (by decide : 3 + 0 ≤ _)⟩)
      dsimp only [Pt.U, Pt.locs, Pt.cells, Pt.slots] at X109 l109 y109 z109 st109 hQ109
      subst l109 y109 z109
      obtain ⟨rfl, N109q, K109, Vr109⟩ := hQ109
      have N109 := Fr.app N108 N109q
      have O109 := O108.keep K109 (allS g_b all0)
      have EP_e109 := EP_e108.keep K109
      have EC_e109 := EC_e108.keep K109
      have A101x_e109 := A101x_e108.keep K109
      refine own_to (fun t k => st109.trans k) ?_
      show own_Fin _ _ _ _ _ _ (T109.setTop (mkF m 107 #[.val (.int p1), .val (.int p2), .val (.int p3), .val (.int p4), .val (.int (1 : Int32)), .val (.int (3 : Int32)), .val (.ref wP), .val (.ref b), .val (.double (FP.i2d (3 : Int32))), .second, .unset] []))
      refine own_to (fun t k => XS.aload X109.here hx rfl (hb hby at_107) rfl rfl k) ?_
      show own_Fin _ _ _ _ _ _ (T109.setTop (mkF m 109 #[.val (.int p1), .val (.int p2), .val (.int p3), .val (.int p4), .val (.int (1 : Int32)), .val (.int (3 : Int32)), .val (.ref wP), .val (.ref b), .val (.double (FP.i2d (3 : Int32))), .second, .unset] [(.ref b)]))
      obtain ⟨cl110, Ar110, qa110, Sa110, Na110, Ha110, Ga110⟩ := id Vr109
      refine own_to (fun t k => X109.arraylength hx Ar110.1 (State.isArrayOf_alike hZ.alike Ar110.2.1) (g := (mkF m 109 #[.val (.int p1), .val (.int p2), .val (.int p3), .val (.int p4), .val (.int (1 : Int32)), .val (.int (3 : Int32)), .val (.ref wP), .val (.ref b), .val (.double (FP.i2d (3 : Int32))), .second, .unset] [(.ref b)])) rfl rfl (hb hby at_109) _ k) ?_
      rw [len_of Sa110 Na110]
      show own_Fin _ _ _ _ _ _ (T109.setTop (mkF m 110 #[.val (.int p1), .val (.int p2), .val (.int p3), .val (.int p4), .val (.int (1 : Int32)), .val (.int (3 : Int32)), .val (.ref wP), .val (.ref b), .val (.double (FP.i2d (3 : Int32))), .second, .unset] [(.int (3 : Int32))]))
      refine own_to (fun t k => XS.iload X109.here hx rfl (hb hby at_110) rfl k) ?_
      show own_Fin _ _ _ _ _ _ (T109.setTop (mkF m 112 #[.val (.int p1), .val (.int p2), .val (.int p3), .val (.int p4), .val (.int (1 : Int32)), .val (.int (3 : Int32)), .val (.ref wP), .val (.ref b), .val (.double (FP.i2d (3 : Int32))), .second, .unset] [(.int (3 : Int32)), (.int (3 : Int32))]))
      refine own_to (fun t k => XS.icmpNo X109.here hx rfl (hb hby at_112) rfl (teq rfl).2 k) ?_
      show own_Fin _ _ _ _ _ _ (T109.setTop (mkF m 115 #[.val (.int p1), .val (.int p2), .val (.int p3), .val (.int p4), .val (.int (1 : Int32)), .val (.int (3 : Int32)), .val (.ref wP), .val (.ref b), .val (.double (FP.i2d (3 : Int32))), .second, .unset] []))
      refine own_to (fun t k => XS.iconst X109.here hx rfl (hb hby at_115) k) ?_
      show own_Fin _ _ _ _ _ _ (T109.setTop (mkF m 116 #[.val (.int p1), .val (.int p2), .val (.int p3), .val (.int p4), .val (.int (1 : Int32)), .val (.int (3 : Int32)), .val (.ref wP), .val (.ref b), .val (.double (FP.i2d (3 : Int32))), .second, .unset] [(.int (1 : Int32))]))
      refine own_to (fun t k => XS.goto X109.here hx rfl (pc0 := 116) (pc' := 120) rfl (hb hby at_116) (by decide) (by decide) k) ?_
      show own_Fin _ _ _ _ _ _ (T109.setTop (mkF m 120 #[.val (.int p1), .val (.int p2), .val (.int p3), .val (.int p4), .val (.int (1 : Int32)), .val (.int (3 : Int32)), .val (.ref wP), .val (.ref b), .val (.double (FP.i2d (3 : Int32))), .second, .unset] [(.int (1 : Int32))]))
      refine own_to (fun t k => XS.istore X109.here hx rfl (hb hby at_120) rfl (l' := #[.val (.int p1), .val (.int p2), .val (.int p3), .val (.int p4), .val (.int (1 : Int32)), .val (.int (3 : Int32)), .val (.ref wP), .val (.ref b), .val (.double (FP.i2d (3 : Int32))), .second, .val (.int (1 : Int32))]) rfl k) ?_
      show own_Fin _ _ _ _ _ _ (T109.setTop (mkF m 122 #[.val (.int p1), .val (.int p2), .val (.int p3), .val (.int p4), .val (.int (1 : Int32)), .val (.int (3 : Int32)), .val (.ref wP), .val (.ref b), .val (.double (FP.i2d (3 : Int32))), .second, .val (.int (1 : Int32))] []))
      refine own_to (fun t k => XS.iload X109.here hx rfl (hb hby at_122) rfl k) ?_
      show own_Fin _ _ _ _ _ _ (T109.setTop (mkF m 124 #[.val (.int p1), .val (.int p2), .val (.int p3), .val (.int p4), .val (.int (1 : Int32)), .val (.int (3 : Int32)), .val (.ref wP), .val (.ref b), .val (.double (FP.i2d (3 : Int32))), .second, .val (.int (1 : Int32))] [(.int (3 : Int32))]))
      refine own_to (fun t k => XS.ifNo X109.here hx rfl (hb hby at_124) rfl ((if0 _ _).trans (tlt (by decide)).2.2.2) k) ?_
      show own_Fin _ _ _ _ _ _ (T109.setTop (mkF m 127 #[.val (.int p1), .val (.int p2), .val (.int p3), .val (.int p4), .val (.int (1 : Int32)), .val (.int (3 : Int32)), .val (.ref wP), .val (.ref b), .val (.double (FP.i2d (3 : Int32))), .second, .val (.int (1 : Int32))] []))
      refine own_to (fun t k => XS.iload X109.here hx rfl (hb hby at_127) rfl k) ?_
      show own_Fin _ _ _ _ _ _ (T109.setTop (mkF m 129 #[.val (.int p1), .val (.int p2), .val (.int p3), .val (.int p4), .val (.int (1 : Int32)), .val (.int (3 : Int32)), .val (.ref wP), .val (.ref b), .val (.double (FP.i2d (3 : Int32))), .second, .val (.int (1 : Int32))] [(.int (1 : Int32))]))
      refine own_to (fun t k => XS.ifNo X109.here hx rfl (hb hby at_129) rfl ((if0 _ _).trans (feq (by decide)).1) k) ?_
      show own_Fin _ _ _ _ _ _ (T109.setTop (mkF m 132 #[.val (.int p1), .val (.int p2), .val (.int p3), .val (.int p4), .val (.int (1 : Int32)), .val (.int (3 : Int32)), .val (.ref wP), .val (.ref b), .val (.double (FP.i2d (3 : Int32))), .second, .val (.int (1 : Int32))] []))
      refine own_to (fun t k => XS.aload X109.here hx rfl (hb hby at_132) rfl rfl k) ?_
      show own_Fin _ _ _ _ _ _ (T109.setTop (mkF m 134 #[.val (.int p1), .val (.int p2), .val (.int p3), .val (.int p4), .val (.int (1 : Int32)), .val (.int (3 : Int32)), .val (.ref wP), .val (.ref b), .val (.double (FP.i2d (3 : Int32))), .second, .val (.int (1 : Int32))] [(.ref b)]))
      refine own_to (fun t k => XS.iconst X109.here hx rfl (hb hby at_134) k) ?_
      show own_Fin _ _ _ _ _ _ (T109.setTop (mkF m 135 #[.val (.int p1), .val (.int p2), .val (.int p3), .val (.int p4), .val (.int (1 : Int32)), .val (.int (3 : Int32)), .val (.ref wP), .val (.ref b), .val (.double (FP.i2d (3 : Int32))), .second, .val (.int (1 : Int32))] [(.int (0 : Int32)), (.ref b)]))
      obtain ⟨cl111, Ar111, qa111, Sa111, Na111, Ha111, Ga111⟩ := id Vr109
      have hin112 : ¬ ((0 : Int32) < 0 ∨ cl111.slots.size ≤ ((0 : Int32)).toNatClampNeg) := inb_of Sa111 ⟨by decide, by decide⟩
      refine own_to (fun t k => X109.daload hx (j := (0 : Int32)) (v := (.double (FP.i2d p1))) Ar111.1 (State.isArrayOf_alike hZ.alike Ar111.2.1) Ar111.2.2 hin112 (Has.at Ha111 hin112 rfl) (g := (mkF m 135 #[.val (.int p1), .val (.int p2), .val (.int p3), .val (.int p4), .val (.int (1 : Int32)), .val (.int (3 : Int32)), .val (.ref wP), .val (.ref b), .val (.double (FP.i2d (3 : Int32))), .second, .val (.int (1 : Int32))] [(.int (0 : Int32)), (.ref b)])) rfl rfl (hb hby at_135) _ k) ?_
      show own_Fin _ _ _ _ _ _ (T109.setTop (mkF m 136 #[.val (.int p1), .val (.int p2), .val (.int p3), .val (.int p4), .val (.int (1 : Int32)), .val (.int (3 : Int32)), .val (.ref wP), .val (.ref b), .val (.double (FP.i2d (3 : Int32))), .second, .val (.int (1 : Int32))] [(.double (FP.i2d p1))]))
      refine own_to (fun t k => XS.iloadN X109.here hx rfl (hb hby at_136) rfl k) ?_
      show own_Fin _ _ _ _ _ _ (T109.setTop (mkF m 137 #[.val (.int p1), .val (.int p2), .val (.int p3), .val (.int p4), .val (.int (1 : Int32)), .val (.int (3 : Int32)), .val (.ref wP), .val (.ref b), .val (.double (FP.i2d (3 : Int32))), .second, .val (.int (1 : Int32))] [(.int p1), (.double (FP.i2d p1))]))
      refine own_to (fun t k => XS.i2dS X109.here hx rfl (hb hby at_137) rfl rfl k) ?_
      show own_Fin _ _ _ _ _ _ (T109.setTop (mkF m 138 #[.val (.int p1), .val (.int p2), .val (.int p3), .val (.int p4), .val (.int (1 : Int32)), .val (.int (3 : Int32)), .val (.ref wP), .val (.ref b), .val (.double (FP.i2d (3 : Int32))), .second, .val (.int (1 : Int32))] [(.double (FP.i2d p1)), (.double (FP.i2d p1))]))
      refine own_to (fun t k => XS.dcmpS X109.here hx rfl (hb hby at_138) rfl rfl k) ?_
      show own_Fin _ _ _ _ _ _ (T109.setTop (mkF m 139 #[.val (.int p1), .val (.int p2), .val (.int p3), .val (.int p4), .val (.int (1 : Int32)), .val (.int (3 : Int32)), .val (.ref wP), .val (.ref b), .val (.double (FP.i2d (3 : Int32))), .second, .val (.int (1 : Int32))] [(.int (cmpValue (FP.dcmp (FP.i2d p1) (FP.i2d p1)) .l))]))
      refine own_to (fun t k => XS.ifNo X109.here hx rfl (hb hby at_139) rfl ((if0 _ _).trans (teq (own_same p1)).2) k) ?_
      show own_Fin _ _ _ _ _ _ (T109.setTop (mkF m 142 #[.val (.int p1), .val (.int p2), .val (.int p3), .val (.int p4), .val (.int (1 : Int32)), .val (.int (3 : Int32)), .val (.ref wP), .val (.ref b), .val (.double (FP.i2d (3 : Int32))), .second, .val (.int (1 : Int32))] []))
      refine own_to (fun t k => XS.iconst X109.here hx rfl (hb hby at_142) k) ?_
      show own_Fin _ _ _ _ _ _ (T109.setTop (mkF m 143 #[.val (.int p1), .val (.int p2), .val (.int p3), .val (.int p4), .val (.int (1 : Int32)), .val (.int (3 : Int32)), .val (.ref wP), .val (.ref b), .val (.double (FP.i2d (3 : Int32))), .second, .val (.int (1 : Int32))] [(.int (1 : Int32))]))
      refine own_to (fun t k => XS.goto X109.here hx rfl (pc0 := 143) (pc' := 147) rfl (hb hby at_143) (by decide) (by decide) k) ?_
      show own_Fin _ _ _ _ _ _ (T109.setTop (mkF m 147 #[.val (.int p1), .val (.int p2), .val (.int p3), .val (.int p4), .val (.int (1 : Int32)), .val (.int (3 : Int32)), .val (.ref wP), .val (.ref b), .val (.double (FP.i2d (3 : Int32))), .second, .val (.int (1 : Int32))] [(.int (1 : Int32))]))
      refine own_to (fun t k => XS.istore X109.here hx rfl (hb hby at_147) rfl (l' := #[.val (.int p1), .val (.int p2), .val (.int p3), .val (.int p4), .val (.int (1 : Int32)), .val (.int (3 : Int32)), .val (.ref wP), .val (.ref b), .val (.double (FP.i2d (3 : Int32))), .second, .val (.int (1 : Int32))]) rfl k) ?_
      show own_Fin _ _ _ _ _ _ (T109.setTop (mkF m 149 #[.val (.int p1), .val (.int p2), .val (.int p3), .val (.int p4), .val (.int (1 : Int32)), .val (.int (3 : Int32)), .val (.ref wP), .val (.ref b), .val (.double (FP.i2d (3 : Int32))), .second, .val (.int (1 : Int32))] []))
      refine own_to (fun t k => XS.iload X109.here hx rfl (hb hby at_149) rfl k) ?_
      show own_Fin _ _ _ _ _ _ (T109.setTop (mkF m 151 #[.val (.int p1), .val (.int p2), .val (.int p3), .val (.int p4), .val (.int (1 : Int32)), .val (.int (3 : Int32)), .val (.ref wP), .val (.ref b), .val (.double (FP.i2d (3 : Int32))), .second, .val (.int (1 : Int32))] [(.int (3 : Int32))]))
      refine own_to (fun t k => XS.iconst X109.here hx rfl (hb hby at_151) k) ?_
      show own_Fin _ _ _ _ _ _ (T109.setTop (mkF m 152 #[.val (.int p1), .val (.int p2), .val (.int p3), .val (.int p4), .val (.int (1 : Int32)), .val (.int (3 : Int32)), .val (.ref wP), .val (.ref b), .val (.double (FP.i2d (3 : Int32))), .second, .val (.int (1 : Int32))] [(.int (1 : Int32)), (.int (3 : Int32))]))
      refine own_to (fun t k => XS.icmpNo X109.here hx rfl (hb hby at_152) rfl (tlt (by decide)).2.2.2 k) ?_
      show own_Fin _ _ _ _ _ _ (T109.setTop (mkF m 155 #[.val (.int p1), .val (.int p2), .val (.int p3), .val (.int p4), .val (.int (1 : Int32)), .val (.int (3 : Int32)), .val (.ref wP), .val (.ref b), .val (.double (FP.i2d (3 : Int32))), .second, .val (.int (1 : Int32))] []))
      refine own_to (fun t k => XS.iload X109.here hx rfl (hb hby at_155) rfl k) ?_
      show own_Fin _ _ _ _ _ _ (T109.setTop (mkF m 157 #[.val (.int p1), .val (.int p2), .val (.int p3), .val (.int p4), .val (.int (1 : Int32)), .val (.int (3 : Int32)), .val (.ref wP), .val (.ref b), .val (.double (FP.i2d (3 : Int32))), .second, .val (.int (1 : Int32))] [(.int (1 : Int32))]))
      refine own_to (fun t k => XS.ifNo X109.here hx rfl (hb hby at_157) rfl ((if0 _ _).trans (feq (by decide)).1) k) ?_
      show own_Fin _ _ _ _ _ _ (T109.setTop (mkF m 160 #[.val (.int p1), .val (.int p2), .val (.int p3), .val (.int p4), .val (.int (1 : Int32)), .val (.int (3 : Int32)), .val (.ref wP), .val (.ref b), .val (.double (FP.i2d (3 : Int32))), .second, .val (.int (1 : Int32))] []))
      refine own_to (fun t k => XS.aload X109.here hx rfl (hb hby at_160) rfl rfl k) ?_
      show own_Fin _ _ _ _ _ _ (T109.setTop (mkF m 162 #[.val (.int p1), .val (.int p2), .val (.int p3), .val (.int p4), .val (.int (1 : Int32)), .val (.int (3 : Int32)), .val (.ref wP), .val (.ref b), .val (.double (FP.i2d (3 : Int32))), .second, .val (.int (1 : Int32))] [(.ref b)]))
      refine own_to (fun t k => XS.iconst X109.here hx rfl (hb hby at_162) k) ?_
      show own_Fin _ _ _ _ _ _ (T109.setTop (mkF m 163 #[.val (.int p1), .val (.int p2), .val (.int p3), .val (.int p4), .val (.int (1 : Int32)), .val (.int (3 : Int32)), .val (.ref wP), .val (.ref b), .val (.double (FP.i2d (3 : Int32))), .second, .val (.int (1 : Int32))] [(.int (1 : Int32)), (.ref b)]))
      obtain ⟨cl113, Ar113, qa113, Sa113, Na113, Ha113, Ga113⟩ := id Vr109
      have hin114 : ¬ ((1 : Int32) < 0 ∨ cl113.slots.size ≤ ((1 : Int32)).toNatClampNeg) := inb_of Sa113 ⟨by decide, by decide⟩
      refine own_to (fun t k => X109.daload hx (j := (1 : Int32)) (v := (.double (FP.i2d p2))) Ar113.1 (State.isArrayOf_alike hZ.alike Ar113.2.1) Ar113.2.2 hin114 (Has.at Ha113 hin114 rfl) (g := (mkF m 163 #[.val (.int p1), .val (.int p2), .val (.int p3), .val (.int p4), .val (.int (1 : Int32)), .val (.int (3 : Int32)), .val (.ref wP), .val (.ref b), .val (.double (FP.i2d (3 : Int32))), .second, .val (.int (1 : Int32))] [(.int (1 : Int32)), (.ref b)])) rfl rfl (hb hby at_163) _ k) ?_
      show own_Fin _ _ _ _ _ _ (T109.setTop (mkF m 164 #[.val (.int p1), .val (.int p2), .val (.int p3), .val (.int p4), .val (.int (1 : Int32)), .val (.int (3 : Int32)), .val (.ref wP), .val (.ref b), .val (.double (FP.i2d (3 : Int32))), .second, .val (.int (1 : Int32))] [(.double (FP.i2d p2))]))
      refine own_to (fun t k => XS.iloadN X109.here hx rfl (hb hby at_164) rfl k) ?_
      show own_Fin _ _ _ _ _ _ (T109.setTop (mkF m 165 #[.val (.int p1), .val (.int p2), .val (.int p3), .val (.int p4), .val (.int (1 : Int32)), .val (.int (3 : Int32)), .val (.ref wP), .val (.ref b), .val (.double (FP.i2d (3 : Int32))), .second, .val (.int (1 : Int32))] [(.int p2), (.double (FP.i2d p2))]))
      refine own_to (fun t k => XS.i2dS X109.here hx rfl (hb hby at_165) rfl rfl k) ?_
      show own_Fin _ _ _ _ _ _ (T109.setTop (mkF m 166 #[.val (.int p1), .val (.int p2), .val (.int p3), .val (.int p4), .val (.int (1 : Int32)), .val (.int (3 : Int32)), .val (.ref wP), .val (.ref b), .val (.double (FP.i2d (3 : Int32))), .second, .val (.int (1 : Int32))] [(.double (FP.i2d p2)), (.double (FP.i2d p2))]))
      refine own_to (fun t k => XS.dcmpS X109.here hx rfl (hb hby at_166) rfl rfl k) ?_
      show own_Fin _ _ _ _ _ _ (T109.setTop (mkF m 167 #[.val (.int p1), .val (.int p2), .val (.int p3), .val (.int p4), .val (.int (1 : Int32)), .val (.int (3 : Int32)), .val (.ref wP), .val (.ref b), .val (.double (FP.i2d (3 : Int32))), .second, .val (.int (1 : Int32))] [(.int (cmpValue (FP.dcmp (FP.i2d p2) (FP.i2d p2)) .l))]))
      refine own_to (fun t k => XS.ifNo X109.here hx rfl (hb hby at_167) rfl ((if0 _ _).trans (teq (own_same p2)).2) k) ?_
      show own_Fin _ _ _ _ _ _ (T109.setTop (mkF m 170 #[.val (.int p1), .val (.int p2), .val (.int p3), .val (.int p4), .val (.int (1 : Int32)), .val (.int (3 : Int32)), .val (.ref wP), .val (.ref b), .val (.double (FP.i2d (3 : Int32))), .second, .val (.int (1 : Int32))] []))
      refine own_to (fun t k => XS.iconst X109.here hx rfl (hb hby at_170) k) ?_
      show own_Fin _ _ _ _ _ _ (T109.setTop (mkF m 171 #[.val (.int p1), .val (.int p2), .val (.int p3), .val (.int p4), .val (.int (1 : Int32)), .val (.int (3 : Int32)), .val (.ref wP), .val (.ref b), .val (.double (FP.i2d (3 : Int32))), .second, .val (.int (1 : Int32))] [(.int (1 : Int32))]))
      refine own_to (fun t k => XS.goto X109.here hx rfl (pc0 := 171) (pc' := 175) rfl (hb hby at_171) (by decide) (by decide) k) ?_
      show own_Fin _ _ _ _ _ _ (T109.setTop (mkF m 175 #[.val (.int p1), .val (.int p2), .val (.int p3), .val (.int p4), .val (.int (1 : Int32)), .val (.int (3 : Int32)), .val (.ref wP), .val (.ref b), .val (.double (FP.i2d (3 : Int32))), .second, .val (.int (1 : Int32))] [(.int (1 : Int32))]))
      refine own_to (fun t k => XS.istore X109.here hx rfl (hb hby at_175) rfl (l' := #[.val (.int p1), .val (.int p2), .val (.int p3), .val (.int p4), .val (.int (1 : Int32)), .val (.int (3 : Int32)), .val (.ref wP), .val (.ref b), .val (.double (FP.i2d (3 : Int32))), .second, .val (.int (1 : Int32))]) rfl k) ?_
      show own_Fin _ _ _ _ _ _ (T109.setTop (mkF m 177 #[.val (.int p1), .val (.int p2), .val (.int p3), .val (.int p4), .val (.int (1 : Int32)), .val (.int (3 : Int32)), .val (.ref wP), .val (.ref b), .val (.double (FP.i2d (3 : Int32))), .second, .val (.int (1 : Int32))] []))
      refine own_to (fun t k => XS.iload X109.here hx rfl (hb hby at_177) rfl k) ?_
      show own_Fin _ _ _ _ _ _ (T109.setTop (mkF m 179 #[.val (.int p1), .val (.int p2), .val (.int p3), .val (.int p4), .val (.int (1 : Int32)), .val (.int (3 : Int32)), .val (.ref wP), .val (.ref b), .val (.double (FP.i2d (3 : Int32))), .second, .val (.int (1 : Int32))] [(.int (3 : Int32))]))
      refine own_to (fun t k => XS.iconst X109.here hx rfl (hb hby at_179) k) ?_
      show own_Fin _ _ _ _ _ _ (T109.setTop (mkF m 180 #[.val (.int p1), .val (.int p2), .val (.int p3), .val (.int p4), .val (.int (1 : Int32)), .val (.int (3 : Int32)), .val (.ref wP), .val (.ref b), .val (.double (FP.i2d (3 : Int32))), .second, .val (.int (1 : Int32))] [(.int (2 : Int32)), (.int (3 : Int32))]))
      refine own_to (fun t k => XS.icmpNo X109.here hx rfl (hb hby at_180) rfl (tlt (by decide)).2.2.2 k) ?_
      show own_Fin _ _ _ _ _ _ (T109.setTop (mkF m 183 #[.val (.int p1), .val (.int p2), .val (.int p3), .val (.int p4), .val (.int (1 : Int32)), .val (.int (3 : Int32)), .val (.ref wP), .val (.ref b), .val (.double (FP.i2d (3 : Int32))), .second, .val (.int (1 : Int32))] []))
      refine own_to (fun t k => XS.iload X109.here hx rfl (hb hby at_183) rfl k) ?_
      show own_Fin _ _ _ _ _ _ (T109.setTop (mkF m 185 #[.val (.int p1), .val (.int p2), .val (.int p3), .val (.int p4), .val (.int (1 : Int32)), .val (.int (3 : Int32)), .val (.ref wP), .val (.ref b), .val (.double (FP.i2d (3 : Int32))), .second, .val (.int (1 : Int32))] [(.int (1 : Int32))]))
      refine own_to (fun t k => XS.ifNo X109.here hx rfl (hb hby at_185) rfl ((if0 _ _).trans (feq (by decide)).1) k) ?_
      show own_Fin _ _ _ _ _ _ (T109.setTop (mkF m 188 #[.val (.int p1), .val (.int p2), .val (.int p3), .val (.int p4), .val (.int (1 : Int32)), .val (.int (3 : Int32)), .val (.ref wP), .val (.ref b), .val (.double (FP.i2d (3 : Int32))), .second, .val (.int (1 : Int32))] []))
      refine own_to (fun t k => XS.aload X109.here hx rfl (hb hby at_188) rfl rfl k) ?_
      show own_Fin _ _ _ _ _ _ (T109.setTop (mkF m 190 #[.val (.int p1), .val (.int p2), .val (.int p3), .val (.int p4), .val (.int (1 : Int32)), .val (.int (3 : Int32)), .val (.ref wP), .val (.ref b), .val (.double (FP.i2d (3 : Int32))), .second, .val (.int (1 : Int32))] [(.ref b)]))
      refine own_to (fun t k => XS.iconst X109.here hx rfl (hb hby at_190) k) ?_
      show own_Fin _ _ _ _ _ _ (T109.setTop (mkF m 191 #[.val (.int p1), .val (.int p2), .val (.int p3), .val (.int p4), .val (.int (1 : Int32)), .val (.int (3 : Int32)), .val (.ref wP), .val (.ref b), .val (.double (FP.i2d (3 : Int32))), .second, .val (.int (1 : Int32))] [(.int (2 : Int32)), (.ref b)]))
      obtain ⟨cl115, Ar115, qa115, Sa115, Na115, Ha115, Ga115⟩ := id Vr109
      have hin116 : ¬ ((2 : Int32) < 0 ∨ cl115.slots.size ≤ ((2 : Int32)).toNatClampNeg) := inb_of Sa115 ⟨by decide, by decide⟩
      refine own_to (fun t k => X109.daload hx (j := (2 : Int32)) (v := (.double (FP.i2d p3))) Ar115.1 (State.isArrayOf_alike hZ.alike Ar115.2.1) Ar115.2.2 hin116 (Has.at Ha115 hin116 rfl) (g := (mkF m 191 #[.val (.int p1), .val (.int p2), .val (.int p3), .val (.int p4), .val (.int (1 : Int32)), .val (.int (3 : Int32)), .val (.ref wP), .val (.ref b), .val (.double (FP.i2d (3 : Int32))), .second, .val (.int (1 : Int32))] [(.int (2 : Int32)), (.ref b)])) rfl rfl (hb hby at_191) _ k) ?_
      show own_Fin _ _ _ _ _ _ (T109.setTop (mkF m 192 #[.val (.int p1), .val (.int p2), .val (.int p3), .val (.int p4), .val (.int (1 : Int32)), .val (.int (3 : Int32)), .val (.ref wP), .val (.ref b), .val (.double (FP.i2d (3 : Int32))), .second, .val (.int (1 : Int32))] [(.double (FP.i2d p3))]))
      refine own_to (fun t k => XS.iloadN X109.here hx rfl (hb hby at_192) rfl k) ?_
      show own_Fin _ _ _ _ _ _ (T109.setTop (mkF m 193 #[.val (.int p1), .val (.int p2), .val (.int p3), .val (.int p4), .val (.int (1 : Int32)), .val (.int (3 : Int32)), .val (.ref wP), .val (.ref b), .val (.double (FP.i2d (3 : Int32))), .second, .val (.int (1 : Int32))] [(.int p3), (.double (FP.i2d p3))]))
      refine own_to (fun t k => XS.i2dS X109.here hx rfl (hb hby at_193) rfl rfl k) ?_
      show own_Fin _ _ _ _ _ _ (T109.setTop (mkF m 194 #[.val (.int p1), .val (.int p2), .val (.int p3), .val (.int p4), .val (.int (1 : Int32)), .val (.int (3 : Int32)), .val (.ref wP), .val (.ref b), .val (.double (FP.i2d (3 : Int32))), .second, .val (.int (1 : Int32))] [(.double (FP.i2d p3)), (.double (FP.i2d p3))]))
      refine own_to (fun t k => XS.dcmpS X109.here hx rfl (hb hby at_194) rfl rfl k) ?_
      show own_Fin _ _ _ _ _ _ (T109.setTop (mkF m 195 #[.val (.int p1), .val (.int p2), .val (.int p3), .val (.int p4), .val (.int (1 : Int32)), .val (.int (3 : Int32)), .val (.ref wP), .val (.ref b), .val (.double (FP.i2d (3 : Int32))), .second, .val (.int (1 : Int32))] [(.int (cmpValue (FP.dcmp (FP.i2d p3) (FP.i2d p3)) .l))]))
      refine own_to (fun t k => XS.ifNo X109.here hx rfl (hb hby at_195) rfl ((if0 _ _).trans (teq (own_same p3)).2) k) ?_
      show own_Fin _ _ _ _ _ _ (T109.setTop (mkF m 198 #[.val (.int p1), .val (.int p2), .val (.int p3), .val (.int p4), .val (.int (1 : Int32)), .val (.int (3 : Int32)), .val (.ref wP), .val (.ref b), .val (.double (FP.i2d (3 : Int32))), .second, .val (.int (1 : Int32))] []))
      refine own_to (fun t k => XS.iconst X109.here hx rfl (hb hby at_198) k) ?_
      show own_Fin _ _ _ _ _ _ (T109.setTop (mkF m 199 #[.val (.int p1), .val (.int p2), .val (.int p3), .val (.int p4), .val (.int (1 : Int32)), .val (.int (3 : Int32)), .val (.ref wP), .val (.ref b), .val (.double (FP.i2d (3 : Int32))), .second, .val (.int (1 : Int32))] [(.int (1 : Int32))]))
      refine own_to (fun t k => XS.goto X109.here hx rfl (pc0 := 199) (pc' := 203) rfl (hb hby at_199) (by decide) (by decide) k) ?_
      show own_Fin _ _ _ _ _ _ (T109.setTop (mkF m 203 #[.val (.int p1), .val (.int p2), .val (.int p3), .val (.int p4), .val (.int (1 : Int32)), .val (.int (3 : Int32)), .val (.ref wP), .val (.ref b), .val (.double (FP.i2d (3 : Int32))), .second, .val (.int (1 : Int32))] [(.int (1 : Int32))]))
      refine own_to (fun t k => XS.istore X109.here hx rfl (hb hby at_203) rfl (l' := #[.val (.int p1), .val (.int p2), .val (.int p3), .val (.int p4), .val (.int (1 : Int32)), .val (.int (3 : Int32)), .val (.ref wP), .val (.ref b), .val (.double (FP.i2d (3 : Int32))), .second, .val (.int (1 : Int32))]) rfl k) ?_
      show own_Fin _ _ _ _ _ _ (T109.setTop (mkF m 205 #[.val (.int p1), .val (.int p2), .val (.int p3), .val (.int p4), .val (.int (1 : Int32)), .val (.int (3 : Int32)), .val (.ref wP), .val (.ref b), .val (.double (FP.i2d (3 : Int32))), .second, .val (.int (1 : Int32))] []))
      refine own_to (fun t k => XS.iload X109.here hx rfl (hb hby at_205) rfl k) ?_
      show own_Fin _ _ _ _ _ _ (T109.setTop (mkF m 207 #[.val (.int p1), .val (.int p2), .val (.int p3), .val (.int p4), .val (.int (1 : Int32)), .val (.int (3 : Int32)), .val (.ref wP), .val (.ref b), .val (.double (FP.i2d (3 : Int32))), .second, .val (.int (1 : Int32))] [(.int (1 : Int32))]))
      refine own_retN X109 hx hlk (t := .boolean) hret (by simp) (hb hby at_207) (by decide) (by decide) ?_
      exact ⟨rfl, N109⟩
set_option maxRecDepth 65536 in
set_option maxHeartbeats 40000000 in
theorem comes_1 {Post : Tables → Env → Array Value → State → Outcome → State → Prop} (hpost : ∀ tb e args s v u, (limb_1_1.after args s (.returned v) u = true ∧ limb_1_2.after args s (.returned v) u = true ∧ True) → FrameEnd s (.returned v) u (Jvm.fieldLocs frame_1_writes args s ++ Jvm.arrayLocs frame_1_arrays args s ++ Jvm.staticLocs frame_1_statics s) 16 128 → Post tb e args s (.returned v) u) :
    ArmFor flags0 classFile x code maxLocals ret World_1 tables_1 room_1 Calls_1 rest_1 Pre_1 Post := by
  intro l hfl _ _ p e ha hc hk s m args below hf hA hF happ hP
  obtain ⟨hcalls, hrest, hpre⟩ := hP
  obtain ⟨-, -, -, hnamed, -, -, -, hat⟩ := (Spec.applies_iff hf).mp happ
  obtain ⟨hg, hn⟩ := and_e (Cond.before_iff.mp (show (Jvm.Cond.and given_1 narrow_1).before args s = true from hpre))
  obtain ⟨g1, g2⟩ := and_e hg
  obtain ⟨g3, g4⟩ := and_e g2
  obtain ⟨g5, g6⟩ := and_e g4
  obtain ⟨g7, g8⟩ := and_e g6
  obtain ⟨w0, w1, w2, w3, rfl⟩ : ∃ w0 w1 w2 w3 : Value, args = #[w0, w1, w2, w3] := by
    have hs : args.size = 4 := by simpa [Cond.value, given_1] using g1
    obtain ⟨L⟩ := args
    match L, hs with
    | [w0, w1, w2, w3], _ => exact ⟨w0, w1, w2, w3, rfl⟩
  have hw := fun d (hd : d ∈ tables_1) => atoms_spec (ws := Jvm.Cond.code x code maxLocals ret :: tables_1) hat d (List.mem_cons_of_mem _ hd)
  have hfit : Fit s := fun {y c} hc i hi => by
    obtain ⟨ha, rfl⟩ := Array.getElem?_eq_some_iff.mp hc
    have q := List.all_eq_true.mp ((Array.all_eq_true_iff_forall_mem.mp hF) _ (Array.getElem_mem ha)) i (List.mem_range.mpr hi)
    simpa [Array.getElem?_eq_getElem hi] using q
  obtain ⟨i0, ei0⟩ := is_v g3
  obtain rfl : w0 = (.int i0) := Option.some.inj ei0
  obtain ⟨i1, ei1⟩ := is_v g5
  obtain rfl : w1 = (.int i1) := Option.some.inj ei1
  obtain ⟨i2, ei2⟩ := is_v g7
  obtain rfl : w2 = (.int i2) := Option.some.inj ei2
  obtain ⟨i3, ei3⟩ := is_v g8
  obtain rfl : w3 = (.int i3) := Option.some.inj ei3
  obtain ⟨n1, n2⟩ := and_e (show (narrow_1).value _ s none s [] = some true from hn)
  obtain ⟨n3, n4⟩ := and_e n2
  obtain ⟨n5, n6⟩ := and_e n4
  obtain ⟨wP, eP⟩ := exa_v n1
  obtain ⟨wC, eC⟩ := exa_v n3
  have f0 := (fld_at eC).symm.trans (eqv_i (Term.int_eval 0) n5)
  have f1 := (fld_at eP).symm.trans (eqv_i (Term.int_eval 1) n6)
  have neC : wC ≠ wP := fun q => by
    rw [q, f1] at f0
    exact absurd (Value.int.inj (Option.some.inj f0)) (by decide)
  obtain ⟨n, o, h1, h2, h3, _, L, rfl, ⟨rfl, N⟩, hq⟩ := own_rm0 l s _ hw tables_1 wP wC i0 i1 i2 i3 s.heap s.heap.size (Nat.le_refl _) (Old.start s) (Sta.start eP (Or.inr ⟨(hw _ (List.mem_of_getElem? (i := 1) rfl)), (hw _ (List.mem_of_getElem? (i := 2) rfl))⟩)) (Sta.start eC (Or.inr ⟨(hw _ (List.mem_of_getElem? (i := 1) rfl)), (hw _ (List.mem_of_getElem? (i := 11) rfl))⟩)) (Exa.start eP n1) (Exa.start eC n3) neC p e ha hc hk s m _ below hf ((Spec.applies_iff_loose hf).mp happ).1 ⟨rfl, State.Warmed39.refl s, rfl⟩ trivial
  refine ⟨n, _, h1, h2, h3, hpost _ _ _ _ _ _ ⟨Cond.after_iff.mpr rfl, Cond.after_iff.mpr (eq_i res_at (Term.int_eval (1)) rfl), trivial⟩ ⟨hq.1, hq.2.1, (hq.2.2.sift fun y hy => Or.inr (N y hy)).mono (by decide) (by decide)⟩⟩
theorem main_1_1 : Claimed_1_1 := comes_1 fun _ _ _ _ _ _ h hF => ⟨h.1, hF⟩
theorem main_1_2 : Claimed_1_2 := comes_1 fun _ _ _ _ _ _ h hF => ⟨h.2.1, hF⟩
end Jvm.Pilot.@@N@@
namespace Jvm.Pilot.@@N@@
open Jvm Jvm.ClassFile Sem Op Lib Jvm.Free Jvm.Stand Jvm.Pilot.@@N@@.Jvm.D
/-! MADE BY PROGRAM (witnessworld.py) out of the Statement's table words and the real class files: 12 classes; the members and pool entries that the words name. The judged class is class 1, her method 1. -/
namespace start1
open Jvm.ClassFile
def u (s : String) : CpInfo := .utf8 (stringToUtf16 s)
/-- a pool by its gaps: so many unusable entries, then the entry; so many at the end -/
def gap : Nat → List CpInfo → List CpInfo
  | 0, r => r
  | n + 1, r => .unusable :: gap n r
def poolList (es : List (Nat × CpInfo)) (last : Nat) : List CpInfo := es.foldr (fun e r => gap e.1 (e.2 :: r)) (gap last [])
def pool (es : List (Nat × CpInfo)) (last : Nat) : Array CpInfo := ⟨poolList es last⟩
def fileOf (pool : Array CpInfo) (this : Nat) (attrs : Array Attribute := #[]) (ms : Array MethodInfo := #[]) (fl : Nat := 33) (sup : Nat := 0) (ifs : Array Nat := #[]) (fds : Array FieldInfo := #[]) : ClassFile where
  minorVersion := 0
  majorVersion := 65
  constantPool := pool
  accessFlags := fl
  thisClass := this
  superClass := sup
  interfaces := ifs
  fields := fds
  methods := ms
  attributes := attrs
def plain (name : String) (sup : Option ClassId) : Class where
  name := name
  kind := .ordinary
  loader := none
  accessFlags := 33
  super := sup
  interfaces := #[]
  cf := none
  fields := #[]
  methods := #[]
  instanceTypes := #[]
  staticTypes := #[]
  resolved := #[]
  callSites := []
  init := .initialized
  statics := none
  mirror := none

def pool0 : Array CpInfo := pool [(5, u "<init>"), (0, u "()V"), (1, .class_ 10), (1, u "java/lang/Object")] 113

def k0m0 : Method := { name := "<init>", desc := "()V", sig := { parameters := [], returnType := none }, accessFlags := 1, code := none }
/-- java/lang/Object -/
def k0 : Class := { plain "java/lang/Object" none with
  accessFlags := 33
  interfaces := #[]
  cf := some (fileOf pool0 8 #[] #[{ accessFlags := 1, nameIndex := 5, descriptorIndex := 6, attributes := #[] }] 33 0 #[] #[])
  fields := #[]
  methods := #[k0m0]
  instanceTypes := #[]
  staticTypes := #[]
  resolved := Array.replicate 124 none
  statics := none }

def pool1 : Array CpInfo := pool [(2, .class_ 4), (1, u "java/lang/Object"), (0, u "<init>"), (0, u "()V"), (0, .fieldref 8 9), (0, .class_ 10), (0, .nameAndType 11 12), (0, u "com/example/walk_to_worth/walktoworth/solver/Scale"), (0, u "PROBABILITY"), (0, u "Lcom/example/walk_to_worth/walktoworth/solver/Scale;"), (0, .fieldref 8 14), (0, .nameAndType 15 12), (0, u "CLASSIC"), (0, .methodref 8 17), (0, .nameAndType 18 19), (0, u "rescale"), (0, u "([D)V"), (0, .class_ 21), (0, u "com/example/walk_to_worth/walktoworth/solver/ScaleRescalePinLaw"), (2, u "law"), (0, u "(IIII)Z")] 5

def k1m0 : Method := { name := "<init>", desc := "()V", sig := { parameters := [], returnType := none }, accessFlags := 1, code := none }
def k1c1 : Code := { maxStack := 6, maxLocals := 11, code := code, exceptionTable := #[], attributes := #[] }
def k1m1 : Method := { name := "law", desc := "(IIII)Z", sig := { parameters := [.int, .int, .int, .int], returnType := some .boolean }, accessFlags := 9, code := some k1c1 }
/-- com/example/walk_to_worth/walktoworth/solver/ScaleRescalePinLaw -/
def k1 : Class := { plain "com/example/walk_to_worth/walktoworth/solver/ScaleRescalePinLaw" (some 0) with
  accessFlags := 49
  interfaces := #[]
  cf := some (fileOf pool1 20 #[] #[{ accessFlags := 1, nameIndex := 5, descriptorIndex := 6, attributes := #[] }, { accessFlags := 9, nameIndex := 24, descriptorIndex := 25, attributes := #[] }] 49 2 #[] #[])
  fields := #[]
  methods := #[k1m0, k1m1]
  instanceTypes := #[]
  staticTypes := #[]
  resolved := Array.replicate 31 none
  statics := none }

def pool2 : Array CpInfo := pool [(1, .class_ 2), (0, u "java/lang/constant/Constable"), (0, .class_ 4), (0, u "java/lang/Object")] 6

/-- java/lang/constant/Constable -/
def k2 : Class := { plain "java/lang/constant/Constable" (some 0) with
  accessFlags := 1537
  interfaces := #[]
  cf := some (fileOf pool2 1 #[] #[] 1537 3 #[] #[])
  fields := #[]
  methods := #[]
  instanceTypes := #[]
  staticTypes := #[]
  resolved := Array.replicate 11 none
  statics := none }

def pool3 : Array CpInfo := pool [(1, .class_ 2), (0, u "java/lang/Comparable"), (0, .class_ 4), (0, u "java/lang/Object")] 7

/-- java/lang/Comparable -/
def k3 : Class := { plain "java/lang/Comparable" (some 0) with
  accessFlags := 1537
  interfaces := #[]
  cf := some (fileOf pool3 1 #[] #[] 1537 3 #[] #[])
  fields := #[]
  methods := #[]
  instanceTypes := #[]
  staticTypes := #[]
  resolved := Array.replicate 12 none
  statics := none }

def pool4 : Array CpInfo := pool [(1, .class_ 2), (0, u "java/io/Serializable"), (0, .class_ 4), (0, u "java/lang/Object")] 2

/-- java/io/Serializable -/
def k4 : Class := { plain "java/io/Serializable" (some 0) with
  accessFlags := 1537
  interfaces := #[]
  cf := some (fileOf pool4 1 #[] #[] 1537 3 #[] #[])
  fields := #[]
  methods := #[]
  instanceTypes := #[]
  staticTypes := #[]
  resolved := Array.replicate 7 none
  statics := none }

def pool5 : Array CpInfo := pool [(2, .class_ 4), (1, u "java/lang/Enum"), (0, u "name"), (0, u "Ljava/lang/String;"), (2, u "ordinal"), (0, u "I"), (1, .class_ 14), (1, u "java/lang/Object"), (4, u "hash"), (86, .class_ 108), (1, u "java/lang/Enum$EnumDesc"), (2, .class_ 112), (0, u "java/lang/constant/Constable"), (0, .class_ 114), (0, u "java/lang/Comparable"), (0, .class_ 116), (0, u "java/io/Serializable")] 87

/-- java/lang/Enum -/
def k5 : Class := { plain "java/lang/Enum" (some 0) with
  accessFlags := 1057
  interfaces := #[2, 3, 4]
  cf := some (fileOf pool5 2 #[.nestMembers #[106]] #[] 1057 12 #[111, 113, 115] #[{ accessFlags := 18, nameIndex := 5, descriptorIndex := 6, attributes := #[] }, { accessFlags := 18, nameIndex := 9, descriptorIndex := 10, attributes := #[] }, { accessFlags := 2, nameIndex := 19, descriptorIndex := 10, attributes := #[] }])
  fields := #[{ name := "name", type := (.object "java/lang/String"), accessFlags := 18, slot := 0, constantValue := 0 }, { name := "ordinal", type := .int, accessFlags := 18, slot := 1, constantValue := 0 }, { name := "hash", type := .int, accessFlags := 2, slot := 2, constantValue := 0 }]
  methods := #[]
  instanceTypes := #[(.object "java/lang/String"), .int, .int]
  staticTypes := #[]
  resolved := Array.replicate 204 none
  statics := none }

def pool6 : Array CpInfo := pool [(1, .class_ 2), (0, u "com/example/walk_to_worth/walktoworth/solver/Scale"), (2, u "CLASSIC"), (0, u "Lcom/example/walk_to_worth/walktoworth/solver/Scale;"), (0, .fieldref 1 8), (0, .nameAndType 9 6), (0, u "PROBABILITY"), (2, u "$VALUES"), (0, u "[Lcom/example/walk_to_worth/walktoworth/solver/Scale;"), (6, .class_ 22), (1, u "java/lang/Enum"), (20, u "rescale"), (0, u "([D)V")] 5

def k6c0 : Code := { maxStack := 6, maxLocals := 4, code := prog_26_method_4_code, exceptionTable := #[], attributes := #[] }
def k6m0 : Method := { name := "rescale", desc := "([D)V", sig := { parameters := [(.array .double)], returnType := none }, accessFlags := 0, code := some k6c0 }
/-- com/example/walk_to_worth/walktoworth/solver/Scale -/
def k6 : Class := { plain "com/example/walk_to_worth/walktoworth/solver/Scale" (some 5) with
  accessFlags := 16433
  interfaces := #[]
  cf := some (fileOf pool6 1 #[] #[{ accessFlags := 0, nameIndex := 43, descriptorIndex := 44, attributes := #[] }] 16433 20 #[] #[{ accessFlags := 16409, nameIndex := 5, descriptorIndex := 6, attributes := #[] }, { accessFlags := 16409, nameIndex := 9, descriptorIndex := 6, attributes := #[] }, { accessFlags := 4122, nameIndex := 12, descriptorIndex := 13, attributes := #[] }])
  fields := #[{ name := "CLASSIC", type := (.object "com/example/walk_to_worth/walktoworth/solver/Scale"), accessFlags := 16409, slot := 0, constantValue := 0 }, { name := "PROBABILITY", type := (.object "com/example/walk_to_worth/walktoworth/solver/Scale"), accessFlags := 16409, slot := 1, constantValue := 0 }, { name := "$VALUES", type := (.array (.object "com/example/walk_to_worth/walktoworth/solver/Scale")), accessFlags := 4122, slot := 2, constantValue := 0 }]
  methods := #[k6m0]
  instanceTypes := #[(.object "java/lang/String"), .int, .int]
  staticTypes := #[(.object "com/example/walk_to_worth/walktoworth/solver/Scale"), (.object "com/example/walk_to_worth/walktoworth/solver/Scale"), (.array (.object "com/example/walk_to_worth/walktoworth/solver/Scale"))]
  resolved := Array.replicate 50 none
  statics := some 0 }

def pool7 : Array CpInfo := pool [(1, u "java/lang/Cloneable"), (0, .class_ 1), (0, u "java/lang/Object"), (0, .class_ 3)] 3

/-- java/lang/Cloneable -/
def k7 : Class := { plain "java/lang/Cloneable" (some 0) with
  accessFlags := 1537
  interfaces := #[]
  cf := some (fileOf pool7 2 #[] #[] 1537 4 #[] #[])
  fields := #[]
  methods := #[]
  instanceTypes := #[]
  staticTypes := #[]
  resolved := Array.replicate 8 none
  statics := none }

/-- the primitive byte -/
def k8 : Class := { plain "byte" none with kind := .primitive 'B', accessFlags := 0x411 }
/-- [B -/
def k9 : Class := { plain "[B" (some 0) with kind := .array 8 .byte, interfaces := #[7, 4], accessFlags := 1041 }

/-- the primitive int -/
def k10 : Class := { plain "int" none with kind := .primitive 'I', accessFlags := 0x411 }
/-- [I -/
def k11 : Class := { plain "[I" (some 0) with kind := .array 10 .int, interfaces := #[7, 4], accessFlags := 1041 }

def heap : Heap := #[{ cls := 6, slots := #[.ref 2, .ref 1, .null], vm := .statics 6 },
  { cls := 6, slots := #[.null, .int 1, .int 0], vm := .none },
  { cls := 6, slots := #[.null, .int 0, .int 0], vm := .none }]
def k12 : Class := { plain "double" none with kind := .primitive 'D', accessFlags := 0x411 }
def k13 : Class := { plain "[D" (some 0) with kind := .array 12 .double, interfaces := #[7, 4], accessFlags := 1041 }
def classes : Array Class := #[k0, k1, k2, k3, k4, k5, k6, k7, k8, k9, k10, k11, k12, k13]
def interned : List (Array UInt16 × Addr) := []
def slotsUsed : Nat := 9
def theMethod : MethodId := ⟨1, 1⟩
def args0 : Array Value := #[.int 5, .int 7, .int 9, .int 3]
def aboutOver (below : List Frame) : State where
  vm := { classes := classes, interned := interned.toArray }
  heap := heap
  slotsUsed := slotsUsed
  threads := #[{ frames := .invoking theMethod args0 :: below }]
def below0 : List Frame := [.native { method := ⟨0, 0⟩, args := #[] }]
def about1 : State := aboutOver below0
def p0 : Program := .bare "" "" ""
def e0 : Env := launch0.env 0 0 0
theorem w_frames : about1.frames = Frame.invoking theMethod args0 :: below0 := rfl
set_option maxRecDepth 65536 in
theorem w_args : argsFit about1.vm theMethod args0 = true := by decide +kernel
set_option maxRecDepth 65536 in
theorem w_heap : heapFits about1 = true := by decide +kernel
set_option maxRecDepth 65536 in
theorem w_runnable : about1.curStatus? = some .runnable := by decide +kernel
set_option maxRecDepth 65536 in
theorem w_alone : about1.alone = true := by decide +kernel
set_option maxRecDepth 65536 in
theorem w_named : about1.methodNamed? x = some theMethod := by decide +kernel
set_option maxRecDepth 65536 in
theorem w_hears : about1.hears theMethod below0 = true := by decide +kernel
set_option maxRecDepth 65536 in
theorem w_ripe : about1.ripe theMethod args0 below0 = true := by decide +kernel
theorem w_running : about1.status = .running := rfl
set_option maxRecDepth 65536 in
theorem w_room : about1.hasRoom e0.platform room_1 = true :=
  launch0.hasRoom_least _ room_1 (by decide +kernel) (by decide +kernel) (by decide +kernel) (by decide +kernel) (by decide +kernel) (by decide +kernel)
theorem allAtoms_all (ts : List Jvm.Cond) (a : Array Jvm.Value) (st : Jvm.State) : (allAtoms ts).before a st = ts.all (fun c => c.before a st) := by
  induction ts with
  | nil => rfl
  | cons c t ih =>
    show (Jvm.Cond.and c (allAtoms t)).before a st = _
    rw [Jvm.Cond.before_and, ih, List.all_cons]
def words1 : List Jvm.Cond := Jvm.Cond.code x code maxLocals ret :: tables_1
/-- a 'code' word, met by the world's own term for the bytes: nothing is compared byte by byte -/
theorem code_word {y : MethodName} {bytes : ByteArray} {mx : Nat} {rt : Option FieldType} {a : Array Value} {s : State} {m : MethodId} {meth : Method} {c : Code} (h1 : s.methodNamed? y = some m) (h2 : s.vm.method? m = some meth) (h3 : meth.code = some c) (h4 : c.code = bytes)
    (h5 : (c.maxLocals == mx && c.exceptionTable.isEmpty && decide (c.maxStack ≤ mostOperands) && decide (meth.sig.returnType = rt) && !meth.locks && decide (parseMethodDescriptor y.desc = some meth.sig)) = true) : (Jvm.Cond.code y bytes mx rt).before a s = true := by
  simp only [Bool.and_eq_true, beq_iff_eq, Bool.not_eq_true', decide_eq_true_eq] at h5
  obtain ⟨⟨⟨⟨⟨g1, g2⟩, g3⟩, g4⟩, g5⟩, g6⟩ := h5
  simp [Cond.before, Cond.holds, Cond.value, h1, h2, h3, h4, g1, g2, g3, g4, g5, g6]
def isCode : Jvm.Cond → Bool
  | .code _ _ _ _ => true
  | _ => false
theorem all_split {L : List Jvm.Cond} {P : Jvm.Cond → Bool} (h1 : L.all (fun c => isCode c || P c) = true) (h2 : ∀ c ∈ L.filter isCode, P c = true) : L.all P = true := by
  refine List.all_eq_true.mpr fun c hc => ?_
  have h := List.all_eq_true.mp h1 c hc
  rcases Bool.eq_false_or_eq_true (isCode c) with hi | hi
  · exact h2 c (List.mem_filter.mpr ⟨hc, hi⟩)
  · simpa [hi] using h
set_option maxRecDepth 65536 in
theorem w_c0 : (Jvm.Cond.code x code maxLocals ret).before args0 about1 = true := code_word (m := ⟨1, 1⟩) (meth := k1m1) (c := k1c1) (by decide +kernel) rfl rfl rfl (by decide +kernel)
set_option maxRecDepth 65536 in
theorem w_c1 : (Jvm.Cond.code ({ cls := "com/example/walk_to_worth/walktoworth/solver/Scale", name := "rescale", desc := "([D)V" } : Jvm.MethodName) prog_26_method_4_code (4 : Nat) (Option.none : Option Jvm.ClassFile.FieldType)).before args0 about1 = true := code_word (m := ⟨6, 0⟩) (meth := k6m0) (c := k6c0) (by decide +kernel) rfl rfl rfl (by decide +kernel)
def codes1 : List Jvm.Cond := [Jvm.Cond.code x code maxLocals ret, Jvm.Cond.code ({ cls := "com/example/walk_to_worth/walktoworth/solver/Scale", name := "rescale", desc := "([D)V" } : Jvm.MethodName) prog_26_method_4_code (4 : Nat) (Option.none : Option Jvm.ClassFile.FieldType)]
set_option maxRecDepth 65536 in
theorem codes_eq : words1.filter isCode = codes1 := rfl
theorem w_codes : ∀ c ∈ words1.filter isCode, c.before args0 about1 = true := by
  rw [codes_eq]
  intro c hc
  simp only [codes1, List.mem_cons, List.not_mem_nil, or_false] at hc
  rcases hc with rfl | rfl
  · exact w_c0
  · exact w_c1
set_option maxRecDepth 65536 in
theorem w_t1 : words1.all (fun c => isCode c || c.before args0 about1) = true := by decide +kernel
theorem w_tables : (allAtoms (Jvm.Cond.code x code maxLocals ret :: tables_1)).before args0 about1 = true := by
  rw [allAtoms_all]
  show words1.all (fun c => c.before args0 about1) = true
  refine all_split ?_ w_codes
  rw [w_t1]
set_option maxRecDepth 65536 in
theorem w_case : (Jvm.Cond.and given_1 narrow_1).before args0 about1 = true := by decide +kernel
theorem w_applies : (headSpec (Jvm.Cond.code x code maxLocals ret :: tables_1) room_1).applies x e0.platform about1 = true :=
  (Spec.applies_iff w_frames).mpr ⟨w_running, w_runnable, w_alone, w_named, w_hears, w_ripe, w_room, w_tables⟩
theorem atStart : AtStart classFile x code maxLocals ret World_1 tables_1 room_1 Calls_1 rest_1 Pre_1 launch0 p0 e0 about1 theMethod args0 below0 :=
  ⟨lists_1, trivial, launch0.admits_env _ _ _, launch0.least_env, fairChoices_fair.cas, fairChoices_fair.clock, w_frames, w_args, w_heap, w_applies, trivial, trivial, w_case⟩
end start1
theorem witness_1 : WitnessClaimed_1 := ⟨start1.p0, start1.e0, start1.about1, start1.theMethod, start1.args0, start1.below0, start1.atStart⟩
end Jvm.Pilot.@@N@@
