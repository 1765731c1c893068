import JvmDerived
import JvmDerived.Pilot.@@N@@Statement
import JvmDerived.Pilot.@@N@@Code
set_option linter.unusedVariables false
set_option linter.unusedSimpArgs false
namespace Jvm.RoadKit
open Sem ClassFile Op Lib Jvm.Stand Jvm.Free Jvm.LawKit
section New
variable {p : Program} {l : Launch} {e : Env} {R : Room} {s : State} {m : MethodId} {args : Array Value} {below : List Frame} {meth : Method} {c : Code} {T : State} {locs : List Loc} {cells slots : Nat}
theorem retI (X : Stand p l e R s m args below meth c T locs cells slots) (hx : p.tables.exec = Jvm.exec) {pc : Nat} {Ls : Array Slot} {z : Int32} {rest : List Value} (hret : meth.sig.returnType = some .int) (hd : decode c.code pc = .ok (.ireturn, 1)) {fs : List Frame}
    (hl : ∀ (f : JFrame) (acts : List Action), f.method = m → f.locked = none → f.entered = [] → (doReturn e (T.setTop f) acts (some (.int z))).1 = T.setFrames fs) : Steps p.tables e below (T.setTop (mkF m pc Ls (.int z :: rest))) (T.setFrames fs) := by
  have hm' : T.vm.method? m = some meth := X.method'
  have hn : narrow .int (.int z) = .int z := rfl
  show Steps p.tables e below (T.setTop { method := m, pc := pc, locals := Ls, stack := _ :: rest, locked := none }) _
  jvm_step X.here [X.here.top, hx, hd, hm', hret, hn]
  first | (intro acts; rw [hl _ acts rfl rfl rfl]) | rw [hl _ _ rfl rfl rfl]
  exact Steps.refl _
end New
end Jvm.RoadKit
/- laws to paste: pair_says, chr8_lo8 (cut by pick.py; bodies as the Statement names them) -/
namespace Jvm.Pilot.@@N@@
namespace StrChars
open Jvm Sem ClassFile Op Lib Jvm.Stand Jvm.Free.XT Jvm.Free.ALB Jvm.Free.JM Jvm.Free
open Jvm.Lib.Cold (StaticIs)
/-- the byte that i2b leaves of a char -/
def lo8 (x : Int32) : Int32 := x.toInt8.toInt32
/-- the byte, read back as charAt reads it, is the char -/
theorem lo8_mask {x : Int32} (h0 : ¬ x < 0) (h1 : ¬ 255 < x) : lo8 x &&& 255 = x := by
  have t : ∀ k : Fin 256, lo8 (Int32.ofNat k.val) &&& 255 = Int32.ofNat k.val := by decide +kernel
  rw [Int32.lt_iff_toInt_lt] at h0 h1
  have e0 : (0 : Int32).toInt = 0 := rfl
  have e1 : (255 : Int32).toInt = 255 := rfl
  obtain ⟨k, hk⟩ : ∃ k : Nat, x.toInt = k := ⟨x.toInt.toNat, by omega⟩
  have hx : x = Int32.ofNat k := Int32.toInt_inj.mp (by rw [hk, Int32.toInt_ofNat_small (by omega)])
  rw [hx]
  exact t ⟨k, by omega⟩
end StrChars
namespace StrChars
open Jvm Sem ClassFile Op Lib Jvm.Stand Jvm.Free.XT Jvm.Free.ALB Jvm.Free.JM Jvm.Free
open Jvm.Lib.Cold (StaticIs)
def hi8 (x : Int32) : Int32 := lo8 (x >>> ((8 : Int32) &&& 31))
/-- what StringUTF16.getChar makes of two bytes -/
def pairCh (u v : Int32) : Int32 := (((u &&& 255) <<< ((0 : Int32) &&& 31)) ||| ((v &&& 255) <<< ((8 : Int32) &&& 31))).toUInt32.toUInt16.toUInt32.toInt32
theorem lo8_and (x : Int32) : (lo8 x &&& 255).toBitVec.toNat = x.toBitVec.toNat % 256 := by
  have h : (lo8 x).toBitVec = (x.toBitVec.signExtend 8).signExtend 32 := by rw [lo8, Int8.toBitVec_toInt32, Int32.toBitVec_toInt8]
  rw [Int32.toBitVec_and, BitVec.toNat_and, h]
  have e : ((x.toBitVec.signExtend 8).signExtend 32).toNat % 256 = x.toBitVec.toNat % 256 := by
    rw [BitVec.toNat_signExtend]
    have hlt := x.toBitVec.isLt
    simp only [BitVec.toNat_setWidth, BitVec.toNat_signExtend]
    split <;> split <;> omega
  rw [← e]
  exact Nat.and_two_pow_sub_one_eq_mod _ 8
theorem pair_says {c : Int32} (h0 : ¬ c < 0) (h1 : ¬ 65535 < c) : pairCh (lo8 c) (hi8 c) = c := by
  rw [Int32.lt_iff_toInt_lt] at h0 h1
  have e0 : (0 : Int32).toInt = 0 := rfl
  have e1 : (65535 : Int32).toInt = 65535 := rfl
  have hc : c.toInt = c.toBitVec.toNat := by
    have := c.toBitVec.isLt
    have e : c.toInt = c.toBitVec.toInt := rfl
    rw [e] at h0 h1
    rw [e]
    rw [BitVec.toInt_eq_toNat_cond] at h0 h1 ⊢
    split at h0 <;> split <;> omega
  have hn : c.toBitVec.toNat < 65536 := by omega
  have a1 := lo8_and c
  have a2 : (hi8 c &&& 255).toBitVec.toNat = c.toBitVec.toNat / 256 := by
    rw [hi8, lo8_and]
    have e : ((8 : Int32) &&& 31) = 8 := by decide
    rw [e, Int32.toBitVec_shiftRight]
    have e2 : ((8 : Int32).toBitVec.smod 32) = 8#32 := by decide
    rw [e2, BitVec.sshiftRight_eq', BitVec.toNat_sshiftRight_of_msb_false (by rw [BitVec.msb_eq_false_iff_two_mul_lt]; omega)]
    show c.toBitVec.toNat >>> 8 % 256 = _
    rw [Nat.shiftRight_eq_div_pow]
    omega
  unfold pairCh
  apply Int32.toBitVec_inj.mp
  apply BitVec.eq_of_toNat_eq
  have f0 : ((0 : Int32) &&& 31) = 0 := by decide
  have f8 : ((8 : Int32) &&& 31) = 8 := by decide
  rw [f0, f8]
  have g : (((lo8 c &&& 255) <<< (0 : Int32)) ||| ((hi8 c &&& 255) <<< (8 : Int32))).toBitVec.toNat = c.toBitVec.toNat := by
    rw [Int32.toBitVec_or, Int32.toBitVec_shiftLeft, Int32.toBitVec_shiftLeft]
    have s0 : ((0 : Int32).toBitVec.smod 32) = 0#32 := by decide
    have s8 : ((8 : Int32).toBitVec.smod 32) = 8#32 := by decide
    rw [s0, s8, BitVec.toNat_or]
    simp only [BitVec.shiftLeft_eq', BitVec.toNat_shiftLeft, a1, a2]
    show (c.toBitVec.toNat % 256) <<< 0 % 2 ^ 32 ||| (c.toBitVec.toNat / 256) <<< 8 % 2 ^ 32 = _
    rw [Nat.shiftLeft_zero, Nat.mod_eq_of_lt (show c.toBitVec.toNat % 256 < 2 ^ 32 by omega), Nat.mod_eq_of_lt (show (c.toBitVec.toNat / 256) <<< 8 < 2 ^ 32 by rw [Nat.shiftLeft_eq]; omega), Nat.or_comm, ← Nat.shiftLeft_add_eq_or_of_lt (by omega), Nat.shiftLeft_eq]
    omega
  show BitVec.toNat (((((lo8 c &&& 255) <<< (0 : Int32)) ||| ((hi8 c &&& 255) <<< (8 : Int32))).toBitVec.setWidth 16).setWidth 32) = _
  rw [BitVec.toNat_setWidth, BitVec.toNat_setWidth, g]
  omega
end StrChars
namespace StrChars
open Jvm Sem ClassFile Op Lib Jvm.Stand Jvm.Free.XT Jvm.Free.ALB Jvm.Free.JM Jvm.Free
open Jvm.Lib.Cold (StaticIs)
/-- charAt's cast of a byte read back -/
def chr8 (u : Int32) : Int32 := (u &&& 255).toUInt32.toUInt16.toUInt32.toInt32
theorem chr8_lo8 {c : Int32} (h0 : ¬ c < 0) (h1 : ¬ 255 < c) : chr8 (lo8 c) = c := by
  have t : ∀ k : Fin 256, (Int32.ofNat k.val).toUInt32.toUInt16.toUInt32.toInt32 = Int32.ofNat k.val := by decide +kernel
  unfold chr8
  rw [lo8_mask h0 h1]
  rw [Int32.lt_iff_toInt_lt] at h0 h1
  have e0 : (0 : Int32).toInt = 0 := rfl
  have e1 : (255 : Int32).toInt = 255 := rfl
  obtain ⟨k, hk⟩ : ∃ k : Nat, c.toInt = k := ⟨c.toInt.toNat, by omega⟩
  have hx : c = Int32.ofNat k := Int32.toInt_inj.mp (by rw [hk, Int32.toInt_ofNat_small (by omega)])
  rw [hx]
  exact t ⟨k, by omega⟩
end StrChars
end Jvm.Pilot.@@N@@

namespace Jvm.Pilot.@@N@@
open Jvm Jvm.ClassFile Sem Op Lib Jvm.Free Jvm.Stand Jvm.LawKit Jvm.RoadKit Bundle Jvm.Pilot.@@N@@.Jvm.D
abbrev EL1 : List (String × Nat) := [("java/lang/String", 7)]
theorem own_EW {Z : State} {a0 : Array Value} (hw : ∀ d ∈ tables_1, d.before a0 Z = true) : EW Z a0 EL1 := (EW.cons (hw _ (List.mem_of_getElem? (i := 65) rfl)) (by decide +kernel) EW.nil)
theorem own_ELin : ∀ p ∈ EL1, p ∈ consts_1 := by decide +kernel
theorem own_wSin : ∀ a ∈ Bundle.stringAtoms, a ∈ tables_1 := by decide +kernel
theorem own_wS {Z : State} {a0 : Array Value} (hw : ∀ d ∈ tables_1, d.before a0 Z = true) : ∀ a ∈ Bundle.stringAtoms, a.before a0 Z = true := fun a h => hw a (own_wSin a h)
theorem own_backS {p : Program} {l : Launch} {e : Env} {R : Room} {s : State} {args : Array Value} {below : List Frame} {Z : State} {a0 : Array Value} {EL : List (String × Nat)} {h : Heap} {vm0 : Vm} {sf : List Addr} {y : MethodName} {bytes : ByteArray} {maxL : Nat} {ret : Option FieldType} {rm : Room} {len W : Nat} {as' : Array Value} {Q : Option Value → Heap → List Loc → Prop}
    (hM : MetFree l y (head1 [Cond.code y bytes maxL ret] rm) (fun a U => a = as' ∧ Z.Warmed39 U.vm ∧ U.heap = h ∧ CHv Z EL U.vm h ∧ ∀ x ∈ sf, Safe Z EL U.vm h x) (fun _ _ _ _ _ => True) (fun _ U o U' => ∃ v L, o = .returned v ∧ Q v U'.heap L ∧ CHr Z EL U.vm U.heap U'.vm U'.heap ∧ ReturnedEndW U o U' L rm.cells rm.slots))
    (hZ : Z.Warmed39 vm0) (wc : (Cond.code y bytes maxL ret).before a0 Z = true) (wz : (Cond.initialized y.cls).before a0 Z = true) (hf : rm.frames + 1 ≤ R.frames) (hl : W + (maxL + 11) + rm.locals ≤ R.locals) (hEL : EW Z a0 EL) (H : CHv Z EL vm0 h) (hsf : ∀ x ∈ sf, Safe Z EL vm0 h x) (hlt : ∀ x ∈ sf, x < h.size) :
    BackS l R p e below (s.setVm vm0) args y len W (fun A a => a = as' ∧ A.U.heap = h ∧ A.cells + rm.cells ≤ R.cells ∧ A.slots + rm.slots ≤ R.slots)
      (fun A _ v B => ∃ L, Q v B.U.heap L ∧ B.locs = A.locs ++ L ∧ B.cells = A.cells + rm.cells ∧ B.slots = A.slots + rm.slots ∧ CHr Z EL vm0 h B.U.vm B.U.heap) := by
  have key : ∀ {m : MethodId} {meth : Method} {c : Code} {A : Pt}, Stand p l e R (s.setVm vm0) m args below meth c A.U A.locs A.cells A.slots → CHr Z EL vm0 h A.U.vm h := fun Y => CHv.at Y hZ hEL H
  refine BackS.of_freeW (bytes := bytes) (maxL := maxL) (ret := ret) (E := fun _ first o t L k n => k = rm.cells ∧ n = rm.slots ∧ (∃ v, o = .returned v ∧ Q v t.heap L) ∧ CHr Z EL first.vm first.heap t.vm t.heap) hM hf hl ?_ ?_ (fun _ _ _ _ _ _ _ _ _ => trivial) ?_ ?_
  · intro m meth c A a Y hp
    have hU : Z.Warmed39 A.U.vm := wtrans (s := s.setVm vm0) hZ Y.warmed
    exact ⟨by show (Cond.and _ .tt).before a A.U = true; rw [Cond.before_and, mv hU wc]; rfl, mv hU wc, mv hU wz, hp.2.2.1, hp.2.2.2⟩
  · intro m meth c A a g mk Y hp
    exact ⟨hp.1, wtrans (s := s.setVm vm0) hZ Y.warmed, hp.2.1, (key Y).1, fun x hx => (key Y).safe (hlt x hx) (hsf x hx)⟩
  · rintro _ _ _ _ ⟨v, L, h1, h2, h3, h4⟩
    exact ⟨L, _, _, h4, rfl, rfl, ⟨v, h1, h2⟩, h3⟩
  · rintro m meth c A a g mk v t L k n Y hp _ _ ⟨e1, e2, ⟨v', e3, e4⟩, e5⟩
    cases e3; subst e1 e2
    refine ⟨L, e4, rfl, rfl, rfl, (key Y).trans ?_⟩
    rw [← hp.2.1]; exact e5
theorem own_nf {s : State} {args : Array Value} {C : String} {y z : MethodName} (hsel : (Jvm.Cond.selects C z z).before args s = true) (e : y.cls = z.cls) : NotFace s y := fun r0 h0 => by
  obtain ⟨c2, r2, m2, q1, q2, q3, q4, kP, hkP, hkPi⟩ := Cond.selects_spec hsel
  have h1 := findClass_of_methodNamed h0
  have h2 := findClass_of_methodNamed q3
  rw [e] at h1
  have e2 : r0.cls = m2.cls := Option.some.inj (h1.symm.trans h2)
  exact ⟨kP, by rw [e2]; exact hkP, hkPi⟩
theorem own_sameM {Z : State} {a0 : Array Value} {C : String} {y z : MethodName} (w3 : (Jvm.Cond.instanceMethod y).before a0 Z = true) (w4 : (Jvm.Cond.selects C z z).before a0 Z = true) (e : y.cls = z.cls) (hy : y.cls ≠ "java/lang/invoke/MethodHandle" ∧ y.cls ≠ "java/lang/invoke/VarHandle") : (Jvm.Cond.sameMethod y.cls y.cls y.name y.desc).before a0 Z = true := by
  obtain ⟨mk, methM, hnamed, hmethM, -, -⟩ := Cond.instanceMethod_spec w3
  have hf := State.methodFound?_of_named hnamed hy
  have hc := findClass_of_methodNamed hnamed
  obtain ⟨k, hk, hi⟩ := own_nf w4 e mk hnamed
  have hnamed' : Z.methodNamed? ⟨y.cls, y.name, y.desc⟩ = some mk := hnamed
  simp [Cond.before, Cond.holds, Cond.value, hc, hf, hnamed', hk, hi]
theorem own_selfsel {Z : State} {a0 : Array Value} {C : String} {y : MethodName} (w : (Jvm.Cond.selects C y y).before a0 Z = true) (wp : (Jvm.Cond.privateMethod y).before a0 Z = true) (wi : (Jvm.Cond.instanceMethod y).before a0 Z = true) (hy : y.cls ≠ "java/lang/invoke/MethodHandle" ∧ y.cls ≠ "java/lang/invoke/VarHandle") : (Jvm.Cond.selects y.cls y y).before a0 Z = true := by
  obtain ⟨c2, r2, m2, -, -, q3, -, kP, hkP, hkPi⟩ := Cond.selects_spec w
  exact Jvm.Stand.selects_self_of_private (findClass_of_methodNamed q3) hkP hkPi (Cond.privateMethod_at wp) wi hy
theorem own_ref {v : Value} (h : v.isRef = true) : v = .null ∨ ∃ a, v = .ref a := by
  cases v <;> first | exact Or.inl rfl | exact Or.inr ⟨_, rfl⟩ | (exfalso; simp [Value.isRef] at h; done)
theorem own_eqi {t : Term} {k : Int32} {s : State} {a0 : Array Value} (h : (Jvm.Cond.eq t (Jvm.Term.int k)).value a0 s none s [] = some true) : t.eval a0 s none [] s = some (.int k) := by
  obtain ⟨x, y, hx, hy, hk, -⟩ := cmp_v (Or.inl h)
  have e : y = .int k := by
    have := Term.int_eval (args := a0) (first := s) (o := none) (idx := []) (s := s) k
    rw [this] at hy; exact (Option.some.inj hy).symm
  subst e
  cases x <;> first | (exfalso; simp [Kin, Value.isRef] at hk; done) | skip
  rename_i x
  have := gotT (Cond.eq_ints hx hy) h
  rw [hx, this]
theorem own_nb (x : Int32) : nar .byte (x.toInt8.toInt32) = x.toInt8.toInt32 := by
  show (x.toInt8.toInt32).toInt8.toInt32 = x.toInt8.toInt32
  rw [Int8.toInt8_toInt32]
theorem own_nat {x : Int32} {m : Nat} (hm : m < 100000) (h0 : ¬ x < 0) (h1 : ¬ (Int32.ofNat m) < x) : ∃ n : Nat, n ≤ m ∧ x = Int32.ofNat n := by
  have e := nat_of h0
  rw [Int32.lt_iff_toInt_lt, Int32.toInt_ofNat_of_lt (by omega)] at h1
  refine ⟨x.toNatClampNeg, by omega, Int32.toInt_inj.mp ?_⟩
  rw [Int32.toInt_ofNat_of_lt (by omega), e]
theorem own_i2c {n : Nat} (h : n ≤ 65535) : (Int32.ofNat n).toUInt32.toUInt16.toUInt32.toInt32 = Int32.ofNat n := by
  apply Int32.toBitVec_inj.mp
  apply BitVec.eq_of_toNat_eq
  have e : (Int32.ofNat n).toBitVec.toNat = n := by
    show (BitVec.ofNat 32 n).toNat = n
    rw [BitVec.toNat_ofNat]; omega
  show (((Int32.ofNat n).toBitVec.setWidth 16).setWidth 32).toNat = _
  rw [BitVec.toNat_setWidth, BitVec.toNat_setWidth, e]; omega
theorem own_narid {x : Int32} (h0 : ¬ x < 0) (h1 : ¬ (65535 : Int32) < x) : nar .char x = x := by
  obtain ⟨n, hn, rfl⟩ := own_nat (m := 65535) (by omega) h0 h1
  exact own_i2c hn
theorem own_narc (x y : Int32) (h : y = nar .char x) : ¬ y < 0 ∧ ¬ (65535 : Int32) < y := by
  have e : y.toBitVec.toNat < 65536 := by
    rw [h]
    show ((x.toBitVec.setWidth 16).setWidth 32).toNat < 65536
    rw [BitVec.toNat_setWidth, BitVec.toNat_setWidth]; omega
  have e2 : y.toInt = y.toBitVec.toNat := by
    show y.toBitVec.toInt = _
    rw [BitVec.toInt_eq_toNat_cond, if_pos (by omega)]
  rw [Int32.lt_iff_toInt_lt, Int32.lt_iff_toInt_lt, show (0 : Int32).toInt = 0 by decide, show (65535 : Int32).toInt = 65535 by decide]
  omega
theorem own_pair {c : Int32} (h0 : ¬ c < 0) (h1 : ¬ (65535 : Int32) < c) : nar .char ((((((c >>> ((0 : Int32) &&& 31)).toInt8.toInt32) &&& (255 : Int32)) <<< ((0 : Int32) &&& 31)) ||| ((((c >>> ((8 : Int32) &&& 31)).toInt8.toInt32) &&& (255 : Int32)) <<< ((8 : Int32) &&& 31))).toUInt32.toUInt16.toUInt32.toInt32) = c := by
  have q := StrChars.pair_says h0 h1
  have e : (c >>> ((0 : Int32) &&& 31)) = c := by
    obtain ⟨n, hn, rfl⟩ := own_nat (m := 65535) (by omega) h0 h1
    apply Int32.toBitVec_inj.mp
    show (BitVec.ofNat 32 n).sshiftRight _ = _
    simp
  rw [e]
  have q2 : (((((c.toInt8.toInt32) &&& (255 : Int32)) <<< ((0 : Int32) &&& 31)) ||| (((((c >>> ((8 : Int32) &&& 31)).toInt8.toInt32) &&& (255 : Int32)) <<< ((8 : Int32) &&& 31)))).toUInt32.toUInt16.toUInt32.toInt32) = c := q
  rw [q2]; exact own_narid h0 h1
theorem own_ch8 {c : Int32} (h0 : ¬ c < 0) (h1 : ¬ ((255 : Int32) < c)) : nar .char (((c.toInt8.toInt32) &&& (255 : Int32)).toUInt32.toUInt16.toUInt32.toInt32) = c := by
  have q : (((c.toInt8.toInt32) &&& (255 : Int32)).toUInt32.toUInt16.toUInt32.toInt32) = c := StrChars.chr8_lo8 h0 h1
  rw [q]
  refine own_narid h0 (fun h => h1 ?_)
  rw [Int32.lt_iff_toInt_lt, show (65535 : Int32).toInt = 65535 by decide] at h
  rw [Int32.lt_iff_toInt_lt, show (255 : Int32).toInt = 255 by decide]; omega
theorem own_mod3 (x : Int32) : ((x &&& (2147483647 : Int32)) % (3 : Int32)) = (0 : Int32) ∨ ((x &&& (2147483647 : Int32)) % (3 : Int32)) = (1 : Int32) ∨ ((x &&& (2147483647 : Int32)) % (3 : Int32)) = (2 : Int32) := by
  have d1 := c_mask x 2147483647 31 (by decide) (by decide)
  have hx : 0 ≤ (x &&& (2147483647 : Int32)).toInt := by omega
  have r : ((x &&& (2147483647 : Int32)) % (3 : Int32)).toInt = (x &&& (2147483647 : Int32)).toInt % 3 := by
    rw [Int32.toInt_mod, show (3 : Int32).toInt = 3 by decide, Int.tmod_eq_emod_of_nonneg hx]
  generalize (x &&& (2147483647 : Int32)) % (3 : Int32) = y at *
  have : y.toInt = 0 ∨ y.toInt = 1 ∨ y.toInt = 2 := by omega
  rcases this with h | h | h
  · exact Or.inl (Int32.toInt_inj.mp h)
  · exact Or.inr (Or.inl (Int32.toInt_inj.mp h))
  · exact Or.inr (Or.inr (Int32.toInt_inj.mp h))
theorem own_three (x y : Int32) (h : y = ((x &&& (2147483647 : Int32)) % (3 : Int32))) : y = (0 : Int32) ∨ y = (1 : Int32) ∨ y = (2 : Int32) := h ▸ own_mod3 x
theorem own_get8 {y0 y1 y2 y3 y4 y5 y6 y7 : Int32} (b0 : ¬ y0 < 0 ∧ ¬ (65535 : Int32) < y0) (b1 : ¬ y1 < 0 ∧ ¬ (65535 : Int32) < y1) (b2 : ¬ y2 < 0 ∧ ¬ (65535 : Int32) < y2) (b3 : ¬ y3 < 0 ∧ ¬ (65535 : Int32) < y3) (b4 : ¬ y4 < 0 ∧ ¬ (65535 : Int32) < y4) (b5 : ¬ y5 < 0 ∧ ¬ (65535 : Int32) < y5) (b6 : ¬ y6 < 0 ∧ ¬ (65535 : Int32) < y6) (b7 : ¬ y7 < 0 ∧ ¬ (65535 : Int32) < y7) (k : Nat) :
    ∃ x : Int32, ([(.int y0), (.int y1), (.int y2), (.int y3), (.int y4), (.int y5), (.int y6), (.int y7)] : List Value).getD k (.int (0 : Int32)) = (.int x) ∧ (¬ x < 0 ∧ ¬ (65535 : Int32) < x) := by
  match k with
  | 0 => exact ⟨y0, rfl, b0⟩
  | 1 => exact ⟨y1, rfl, b1⟩
  | 2 => exact ⟨y2, rfl, b2⟩
  | 3 => exact ⟨y3, rfl, b3⟩
  | 4 => exact ⟨y4, rfl, b4⟩
  | 5 => exact ⟨y5, rfl, b5⟩
  | 6 => exact ⟨y6, rfl, b6⟩
  | 7 => exact ⟨y7, rfl, b7⟩
  | k + 8 => exact ⟨0, rfl, by decide, by decide⟩
def OwnPl (ii oo ln e0 e1 e2 : Int32) : Prop := (¬ oo < 0 ∧ oo < (8 : Int32)) ∧ (ln = (2 : Int32) → (¬ (oo + (1 : Int32)) < 0 ∧ (oo + (1 : Int32)) < (8 : Int32))) ∧ (ln = (0 : Int32) ∨ ln = (1 : Int32) ∨ ln = (2 : Int32)) ∧ ¬ (((8 : Int32) ||| oo) ||| ln) < 0 ∧ ¬ ((8 : Int32) - oo) < ln ∧ (ii = (0 : Int32) → oo = (0 : Int32)) ∧
  (¬ ii = (0 : Int32) → ∃ e, ([(.int e0), (.int e1), (.int e2)] : List Value).getD ((ii - (1 : Int32))).toNatClampNeg (.int (0 : Int32)) = (.int e) ∧ (e + (1 : Int32)) = oo ∧ (¬ (ii - (1 : Int32)) < 0 ∧ (ii - (1 : Int32)) < (3 : Int32))) ∧
  ∃ e, ([(.int e0), (.int e1), (.int e2)] : List Value).getD (ii).toNatClampNeg (.int (0 : Int32)) = (.int e) ∧ (e - oo) = ln ∧ (¬ ii < 0 ∧ ii < (3 : Int32))
theorem own_pl0 {l0 l1 l2 ee1 ee2 : Int32} (g0 : l0 = (0 : Int32) ∨ l0 = (1 : Int32) ∨ l0 = (2 : Int32)) (g1 : l1 = (0 : Int32) ∨ l1 = (1 : Int32) ∨ l1 = (2 : Int32)) (g2 : l2 = (0 : Int32) ∨ l2 = (1 : Int32) ∨ l2 = (2 : Int32)) (h1 : ee1 = ((l0 + (1 : Int32)) + l1)) (h2 : ee2 = ((ee1 + (1 : Int32)) + l2)) : OwnPl (0 : Int32) (0 : Int32) l0 l0 ee1 ee2 := by
  rcases g0 with rfl | rfl | rfl <;> exact ⟨by decide, by decide, by decide, by decide, by decide, fun _ => rfl, fun h => absurd rfl h, _, rfl, by decide, by decide⟩
theorem own_pl1 {l0 l1 l2 ee1 ee2 : Int32} (g0 : l0 = (0 : Int32) ∨ l0 = (1 : Int32) ∨ l0 = (2 : Int32)) (g1 : l1 = (0 : Int32) ∨ l1 = (1 : Int32) ∨ l1 = (2 : Int32)) (g2 : l2 = (0 : Int32) ∨ l2 = (1 : Int32) ∨ l2 = (2 : Int32)) (h1 : ee1 = ((l0 + (1 : Int32)) + l1)) (h2 : ee2 = ((ee1 + (1 : Int32)) + l2)) : OwnPl (1 : Int32) (l0 + (1 : Int32)) l1 l0 ee1 ee2 := by
  subst h2; subst h1
  rcases g0 with rfl | rfl | rfl <;> rcases g1 with rfl | rfl | rfl <;> exact ⟨by decide, by decide, by decide, by decide, by decide, fun h => absurd h (by decide), fun _ => ⟨_, rfl, by decide, by decide⟩, _, rfl, by decide, by decide⟩
theorem own_pl2 {l0 l1 l2 ee1 ee2 : Int32} (g0 : l0 = (0 : Int32) ∨ l0 = (1 : Int32) ∨ l0 = (2 : Int32)) (g1 : l1 = (0 : Int32) ∨ l1 = (1 : Int32) ∨ l1 = (2 : Int32)) (g2 : l2 = (0 : Int32) ∨ l2 = (1 : Int32) ∨ l2 = (2 : Int32)) (h1 : ee1 = ((l0 + (1 : Int32)) + l1)) (h2 : ee2 = ((ee1 + (1 : Int32)) + l2)) : OwnPl (2 : Int32) ((l0 + l1) + (2 : Int32)) l2 l0 ee1 ee2 := by
  subst h2; subst h1
  rcases g0 with rfl | rfl | rfl <;> rcases g1 with rfl | rfl | rfl <;> rcases g2 with rfl | rfl | rfl <;> exact ⟨by decide, by decide, by decide, by decide, by decide, fun h => absurd h (by decide), fun _ => ⟨_, rfl, by decide, by decide⟩, _, rfl, by decide, by decide⟩

theorem own_wb {Z : State} {a0 : Array Value} (hw : ∀ d ∈ tables_1, d.before a0 Z = true) : (Jvm.Cond.arrayClass .byte).before a0 Z = true := (hw _ (List.mem_of_getElem? (i := 66) rfl))
theorem own_wi {Z : State} {a0 : Array Value} (hw : ∀ d ∈ tables_1, d.before a0 Z = true) : (Jvm.Cond.instantiable "java/lang/String" 4).before a0 Z = true := (hw _ (List.mem_of_getElem? (i := 45) rfl))
theorem ltA {a b : Nat} (h : @LT.lt Addr instLTNat a b) : @LT.lt Nat instLTNat a b := h
theorem ltN {a b : Nat} (h : @LT.lt Nat instLTNat a b) : @LT.lt Addr instLTNat a b := h
theorem wz {a b : Nat} (h : a = b) : a ≤ b := Nat.le_of_eq h
theorem neN {a b : Nat} (h : @Ne Nat a b) : @Ne Addr a b := h
abbrev HW (Z : State) (a0 : Array Value) : Prop := ∀ d ∈ tables_1, d.before a0 Z = true
abbrev RM (f c s l : Nat) : Room := { frames := f, cells := c, slots := s, locals := l }
abbrev OwnM (l : Launch) (Z : State) (h0 : Heap) (y : MethodName) (cs : List Jvm.Cond) (rm : Room) (as' : Array Value) (Q : Option Value → Heap → List Loc → Prop) : Prop := MetFree l y (head1 cs rm) (fun a U => a = as' ∧ Z.Warmed39 U.vm ∧ U.heap = h0) (fun _ _ _ _ _ => True) (fun _ U o U' => ∃ v L, o = .returned v ∧ Q v U'.heap L ∧ FrameEnd U o U' L rm.cells rm.slots)
abbrev OwnW (l : Launch) (Z : State) (h0 : Heap) (y : MethodName) (cs : List Jvm.Cond) (rm : Room) (as' : Array Value) (sf : List Addr) (Q : Option Value → Heap → List Loc → Prop) : Prop := MetFree l y (head1 cs rm) (fun a U => a = as' ∧ Z.Warmed39 U.vm ∧ U.heap = h0 ∧ CHv Z EL1 U.vm h0 ∧ ∀ x ∈ sf, Safe Z EL1 U.vm h0 x) (fun _ _ _ _ _ => True) (fun _ U o U' => ∃ v L, o = .returned v ∧ Q v U'.heap L ∧ CHr Z EL1 U.vm U.heap U'.vm U'.heap ∧ ReturnedEndW U o U' L rm.cells rm.slots)
set_option maxRecDepth 65536
set_option maxHeartbeats 40000000
abbrev GO (p : Program) (e : Env) (below : List Frame) (T : State) (g : JFrame) (t : State) : Prop := Steps p.tables e below (T.setTop g) t
theorem wd {Z : State} {a0 : Array Value} (hw : ∀ d ∈ tables_1, d.before a0 Z = true) (i : Nat) {d : Jvm.Cond} (h : tables_1[i]? = some d) : d.before a0 Z = true := hw _ (List.mem_of_getElem? h)
abbrev la0 (x0 : Int32) (x1 : Int32) : Array Slot := #[.val (.int x0), .val (.int x1), .val .null]
abbrev la1 (x0 : Int32) (x1 : Int32) (x2 : Addr) : Array Slot := #[.val (.int x0), .val (.int x1), .val (.ref x2)]
abbrev la2 (x0 : Int32) (x1 : Int32) (x2 : Int32) : Array Slot := #[.val (.int x0), .val (.int x1), .val (.int x2), .val .null]
abbrev la3 (x0 : Int32) (x1 : Int32) (x2 : Int32) (x3 : Addr) : Array Slot := #[.val (.int x0), .val (.int x1), .val (.int x2), .val (.ref x3)]
abbrev la4 (x0 : Int32) (x1 : Int32) (x2 : Int32) : Array Slot := #[.val (.int x0), .val (.int x1), .val (.int x2)]
abbrev la5 (x0 : Addr) (x1 : Int32) (x2 : Int32) : Array Slot := #[.val (.ref x0), .val (.int x1), .val (.int x2)]
abbrev la6 (x0 : Addr) (x1 : Int32) (x2 : Addr) (x3 : Int32) (x4 : Int32) : Array Slot := #[.val (.ref x0), .val (.int x1), .val (.ref x2), .val (.int x3), .val (.int x4), .unset, .unset]
abbrev la7 (x0 : Addr) (x1 : Int32) (x2 : Addr) (x3 : Int32) (x4 : Int32) (x5 : Int32) : Array Slot := #[.val (.ref x0), .val (.int x1), .val (.ref x2), .val (.int x3), .val (.int x4), .val (.int x5), .unset]
abbrev la8 (x0 : Addr) (x1 : Int32) (x2 : Addr) (x3 : Int32) (x4 : Int32) (x5 : Int32) (x6 : Int32) : Array Slot := #[.val (.ref x0), .val (.int x1), .val (.ref x2), .val (.int x3), .val (.int x4), .val (.int x5), .val (.int x6)]
abbrev la9 (x0 : Addr) (x1 : Int32) (x2 : Int32) : Array Slot := #[.val (.ref x0), .val (.int x1), .val (.int x2), .unset, .unset]
abbrev la10 (x0 : Addr) (x1 : Int32) (x2 : Int32) (x3 : Addr) : Array Slot := #[.val (.ref x0), .val (.int x1), .val (.int x2), .val (.ref x3), .unset]
abbrev la11 (x0 : Addr) (x1 : Int32) (x2 : Int32) (x3 : Addr) (x4 : Int32) : Array Slot := #[.val (.ref x0), .val (.int x1), .val (.int x2), .val (.ref x3), .val (.int x4)]
abbrev la12 (x0 : Addr) (x1 : Int32) (x2 : Int32) : Array Slot := #[.val (.ref x0), .val (.int x1), .val (.int x2), .unset, .unset, .unset]
abbrev la13 (x0 : Addr) (x1 : Int32) (x2 : Int32) (x3 : Addr) : Array Slot := #[.val (.ref x0), .val (.int x1), .val (.int x2), .val (.ref x3), .unset, .unset]
abbrev la14 (x0 : Addr) (x1 : Int32) (x2 : Int32) (x3 : Addr) (x4 : Int32) : Array Slot := #[.val (.ref x0), .val (.int x1), .val (.int x2), .val (.ref x3), .val (.int x4), .unset]
abbrev la15 (x0 : Addr) (x1 : Addr) (x2 : Int32) (x3 : Int32) : Array Slot := #[.val (.ref x0), .val (.ref x1), .val (.int x2), .val (.int x3), .val .null, .unset]
abbrev la16 (x0 : Addr) (x1 : Addr) (x2 : Int32) (x3 : Int32) (x5 : Addr) : Array Slot := #[.val (.ref x0), .val (.ref x1), .val (.int x2), .val (.int x3), .val .null, .val (.ref x5)]
abbrev la17 (x0 : Addr) (x1 : Addr) (x2 : Int32) (x3 : Int32) : Array Slot := #[.val (.ref x0), .val (.ref x1), .val (.int x2), .val (.int x3)]
abbrev la18 (x0 : Addr) (x1 : Int32) (x2 : Int32) (x3 : Addr) (x4 : Int32) (x5 : Addr) : Array Slot := #[.val (.ref x0), .val (.int x1), .val (.int x2), .val (.ref x3), .val (.int x4), .val (.ref x5)]
abbrev la19 (x0 : Addr) (x1 : Addr) (x2 : Addr) (x3 : Int32) : Array Slot := #[.val (.ref x0), .val (.ref x1), .val (.ref x2), .val (.int x3)]
abbrev la20 (x0 : Addr) (x1 : Int32) : Array Slot := #[.val (.ref x0), .val (.int x1), .unset]
abbrev la21 (x0 : Int64) (x2 : Int64) (x4 : Int32) (x5 : Int32) (x6 : Int32) : Array Slot := #[.val (.long x0), .second, .val (.long x2), .second, .val (.int x4), .val (.int x5), .val (.int x6), .unset, .unset, .unset, .unset, .unset, .unset, .unset, .unset, .unset, .unset, .unset, .unset, .unset]
abbrev la22 (x0 : Int64) (x2 : Int64) (x4 : Int32) (x5 : Int32) (x6 : Int32) (x7 : Addr) : Array Slot := #[.val (.long x0), .second, .val (.long x2), .second, .val (.int x4), .val (.int x5), .val (.int x6), .val (.ref x7), .unset, .unset, .unset, .unset, .unset, .unset, .unset, .unset, .unset, .unset, .unset, .unset]
abbrev la23 (x0 : Int64) (x2 : Int64) (x4 : Int32) (x5 : Int32) (x6 : Int32) (x7 : Addr) (x8 : Int32) : Array Slot := #[.val (.long x0), .second, .val (.long x2), .second, .val (.int x4), .val (.int x5), .val (.int x6), .val (.ref x7), .val (.int x8), .unset, .unset, .unset, .unset, .unset, .unset, .unset, .unset, .unset, .unset, .unset]
abbrev la24 (x0 : Int64) (x2 : Int64) (x4 : Int32) (x5 : Int32) (x6 : Int32) (x7 : Addr) (x8 : Int32) (x9 : Int32) : Array Slot := #[.val (.long x0), .second, .val (.long x2), .second, .val (.int x4), .val (.int x5), .val (.int x6), .val (.ref x7), .val (.int x8), .val (.int x9), .unset, .unset, .unset, .unset, .unset, .unset, .unset, .unset, .unset, .unset]
abbrev la25 (x0 : Int64) (x2 : Int64) (x4 : Int32) (x5 : Int32) (x6 : Int32) (x7 : Addr) (x8 : Int32) (x9 : Int32) (x10 : Int32) : Array Slot := #[.val (.long x0), .second, .val (.long x2), .second, .val (.int x4), .val (.int x5), .val (.int x6), .val (.ref x7), .val (.int x8), .val (.int x9), .val (.int x10), .unset, .unset, .unset, .unset, .unset, .unset, .unset, .unset, .unset]
abbrev la26 (x0 : Int64) (x2 : Int64) (x4 : Int32) (x5 : Int32) (x6 : Int32) (x7 : Addr) (x8 : Int32) (x9 : Int32) (x10 : Int32) (x11 : Int32) : Array Slot := #[.val (.long x0), .second, .val (.long x2), .second, .val (.int x4), .val (.int x5), .val (.int x6), .val (.ref x7), .val (.int x8), .val (.int x9), .val (.int x10), .val (.int x11), .unset, .unset, .unset, .unset, .unset, .unset, .unset, .unset]
abbrev la27 (x0 : Int64) (x2 : Int64) (x4 : Int32) (x5 : Int32) (x6 : Int32) (x7 : Addr) (x8 : Int32) (x9 : Int32) (x10 : Int32) (x11 : Int32) (x12 : Int32) : Array Slot := #[.val (.long x0), .second, .val (.long x2), .second, .val (.int x4), .val (.int x5), .val (.int x6), .val (.ref x7), .val (.int x8), .val (.int x9), .val (.int x10), .val (.int x11), .val (.int x12), .unset, .unset, .unset, .unset, .unset, .unset, .unset]
abbrev la28 (x0 : Int64) (x2 : Int64) (x4 : Int32) (x5 : Int32) (x6 : Int32) (x7 : Addr) (x8 : Int32) (x9 : Int32) (x10 : Int32) (x11 : Int32) (x12 : Int32) (x13 : Int32) : Array Slot := #[.val (.long x0), .second, .val (.long x2), .second, .val (.int x4), .val (.int x5), .val (.int x6), .val (.ref x7), .val (.int x8), .val (.int x9), .val (.int x10), .val (.int x11), .val (.int x12), .val (.int x13), .unset, .unset, .unset, .unset, .unset, .unset]
abbrev la29 (x0 : Int64) (x2 : Int64) (x4 : Int32) (x5 : Int32) (x6 : Int32) (x7 : Addr) (x8 : Int32) (x9 : Int32) (x10 : Int32) (x11 : Int32) (x12 : Int32) (x13 : Int32) (x14 : Addr) : Array Slot := #[.val (.long x0), .second, .val (.long x2), .second, .val (.int x4), .val (.int x5), .val (.int x6), .val (.ref x7), .val (.int x8), .val (.int x9), .val (.int x10), .val (.int x11), .val (.int x12), .val (.int x13), .val (.ref x14), .unset, .unset, .unset, .unset, .unset]
abbrev la30 (x0 : Int64) (x2 : Int64) (x4 : Int32) (x5 : Int32) (x6 : Int32) (x7 : Addr) (x8 : Int32) (x9 : Int32) (x10 : Int32) (x11 : Int32) (x12 : Int32) (x13 : Int32) (x14 : Addr) (x15 : Int32) : Array Slot := #[.val (.long x0), .second, .val (.long x2), .second, .val (.int x4), .val (.int x5), .val (.int x6), .val (.ref x7), .val (.int x8), .val (.int x9), .val (.int x10), .val (.int x11), .val (.int x12), .val (.int x13), .val (.ref x14), .val (.int x15), .unset, .unset, .unset, .unset]
abbrev la31 (x0 : Int64) (x2 : Int64) (x4 : Int32) (x5 : Int32) (x6 : Int32) (x7 : Addr) (x8 : Int32) (x9 : Int32) (x10 : Int32) (x11 : Int32) (x12 : Int32) (x13 : Int32) (x14 : Addr) (x15 : Int32) (x16 : Int32) : Array Slot := #[.val (.long x0), .second, .val (.long x2), .second, .val (.int x4), .val (.int x5), .val (.int x6), .val (.ref x7), .val (.int x8), .val (.int x9), .val (.int x10), .val (.int x11), .val (.int x12), .val (.int x13), .val (.ref x14), .val (.int x15), .val (.int x16), .unset, .unset, .unset]
abbrev la32 (x0 : Int64) (x2 : Int64) (x4 : Int32) (x5 : Int32) (x6 : Int32) (x7 : Addr) (x8 : Int32) (x9 : Int32) (x10 : Int32) (x11 : Int32) (x12 : Int32) (x13 : Int32) (x14 : Addr) (x15 : Int32) (x16 : Int32) (x17 : Int32) : Array Slot := #[.val (.long x0), .second, .val (.long x2), .second, .val (.int x4), .val (.int x5), .val (.int x6), .val (.ref x7), .val (.int x8), .val (.int x9), .val (.int x10), .val (.int x11), .val (.int x12), .val (.int x13), .val (.ref x14), .val (.int x15), .val (.int x16), .val (.int x17), .unset, .unset]
abbrev la33 (x0 : Int64) (x2 : Int64) (x4 : Int32) (x5 : Int32) (x6 : Int32) (x7 : Addr) (x8 : Int32) (x9 : Int32) (x10 : Int32) (x11 : Int32) (x12 : Int32) (x13 : Int32) (x14 : Addr) (x15 : Int32) (x16 : Int32) (x17 : Int32) (x18 : Addr) : Array Slot := #[.val (.long x0), .second, .val (.long x2), .second, .val (.int x4), .val (.int x5), .val (.int x6), .val (.ref x7), .val (.int x8), .val (.int x9), .val (.int x10), .val (.int x11), .val (.int x12), .val (.int x13), .val (.ref x14), .val (.int x15), .val (.int x16), .val (.int x17), .val (.ref x18), .unset]
abbrev la34 (x0 : Int64) (x2 : Int64) (x4 : Int32) (x5 : Int32) (x6 : Int32) (x7 : Addr) (x8 : Int32) (x9 : Int32) (x10 : Int32) (x11 : Int32) (x12 : Int32) (x13 : Int32) (x14 : Addr) (x15 : Int32) (x16 : Int32) (x17 : Int32) (x18 : Addr) (x19 : Addr) : Array Slot := #[.val (.long x0), .second, .val (.long x2), .second, .val (.int x4), .val (.int x5), .val (.int x6), .val (.ref x7), .val (.int x8), .val (.int x9), .val (.int x10), .val (.int x11), .val (.int x12), .val (.int x13), .val (.ref x14), .val (.int x15), .val (.int x16), .val (.int x17), .val (.ref x18), .val (.ref x19)]
theorem pd_0 : parseMethodDescriptor "(IILjava/util/function/BiFunction;)I" = some ⟨[.int, .int, (.object "java/util/function/BiFunction")], some .int⟩ := by decide +kernel
theorem pd_1 : parseMethodDescriptor "(IIILjava/util/function/BiFunction;)I" = some ⟨[.int, .int, .int, (.object "java/util/function/BiFunction")], some .int⟩ := by decide +kernel
theorem pd_2 : parseMethodDescriptor "(III)I" = some ⟨[.int, .int, .int], some .int⟩ := by decide +kernel
theorem pd_3 : parseMethodDescriptor "(I)I" = some ⟨[.int], some .int⟩ := by decide +kernel
theorem pd_4 : parseMethodDescriptor "(I)[B" = some ⟨[.int], some (.array .byte)⟩ := by decide +kernel
theorem pd_5 : parseMethodDescriptor "([BII)V" = some ⟨[(.array .byte), .int, .int], none⟩ := by decide +kernel
theorem pd_6 : parseMethodDescriptor "([CI[BII)I" = some ⟨[(.array .char), .int, (.array .byte), .int, .int], some .int⟩ := by decide +kernel
theorem pd_7 : parseMethodDescriptor "([CII)[B" = some ⟨[(.array .char), .int, .int], some (.array .byte)⟩ := by decide +kernel
theorem pd_8 : parseMethodDescriptor "([BI)B" = some ⟨[(.array .byte), .int], some .byte⟩ := by decide +kernel
theorem pd_9 : parseMethodDescriptor "([CII)Ljava/lang/Void;" = some ⟨[(.array .char), .int, .int], some (.object "java/lang/Void")⟩ := by decide +kernel
theorem pd_10 : parseMethodDescriptor "([CIILjava/lang/Void;)V" = some ⟨[(.array .char), .int, .int, (.object "java/lang/Void")], none⟩ := by decide +kernel
theorem pd_11 : parseMethodDescriptor "([BI)C" = some ⟨[(.array .byte), .int], some .char⟩ := by decide +kernel
theorem pd_12 : parseMethodDescriptor "()B" = some ⟨[], some .byte⟩ := by decide +kernel
theorem pd_13 : parseMethodDescriptor "(II)V" = some ⟨[.int, .int], none⟩ := by decide +kernel
theorem pd_14 : parseMethodDescriptor "()Z" = some ⟨[], some .boolean⟩ := by decide +kernel
theorem pd_15 : parseMethodDescriptor "([B)I" = some ⟨[(.array .byte)], some .int⟩ := by decide +kernel
theorem pd_16 : parseMethodDescriptor "(I[B)V" = some ⟨[.int, (.array .byte)], none⟩ := by decide +kernel
theorem pd_17 : parseMethodDescriptor "()V" = some ⟨[], none⟩ := by decide +kernel
theorem pd_18 : parseMethodDescriptor "(II)I" = some ⟨[.int, .int], some .int⟩ := by decide +kernel
theorem pd_19 : parseMethodDescriptor "([CII)V" = some ⟨[(.array .char), .int, .int], none⟩ := by decide +kernel
theorem pd_20 : parseMethodDescriptor "([C[IZ)V" = some ⟨[(.array .char), (.array .int), .boolean], none⟩ := by decide +kernel
theorem pd_21 : parseMethodDescriptor "(I)Ljava/lang/String;" = some ⟨[.int], some (.object "java/lang/String")⟩ := by decide +kernel
theorem pd_22 : parseMethodDescriptor "()I" = some ⟨[], some .int⟩ := by decide +kernel
theorem pd_23 : parseMethodDescriptor "(I)C" = some ⟨[.int], some .char⟩ := by decide +kernel
theorem pn_0 : plainName "jdk/internal/util/Preconditions" = true := by first | (simp [plainName, overriddenIn]; done) | decide +kernel
theorem pn_1 : plainName "java/util/Objects" = true := by first | (simp [plainName, overriddenIn]; done) | decide +kernel
theorem pn_2 : plainName "java/lang/String" = true := by first | (simp [plainName, overriddenIn]; done) | decide +kernel
theorem pn_3 : plainName "java/lang/StringUTF16" = true := by first | (simp [plainName, overriddenIn]; done) | decide +kernel
theorem pn_4 : plainName "java/lang/StringLatin1" = true := by first | (simp [plainName, overriddenIn]; done) | decide +kernel
theorem pn_5 : plainName "java/util/AbstractCollection" = true := by first | (simp [plainName, overriddenIn]; done) | decide +kernel
theorem pn_6 : plainName "java/util/AbstractList" = true := by first | (simp [plainName, overriddenIn]; done) | decide +kernel
theorem pn_7 : plainName "com/example/rungwise/rungwise/formats/CsvRecord" = true := by first | (simp [plainName, overriddenIn]; done) | decide +kernel
theorem pn_8 : plainName "com/example/rungwise/rungwise/formats/CsvRecordGetPinLaw" = true := by first | (simp [plainName, overriddenIn]; done) | decide +kernel
theorem d7_0 : decode jdk_41_method_11_code 0 = .ok (.iload_n 0, 1) := by decide +kernel
theorem d7_1 : decode jdk_41_method_11_code 1 = .ok (.ifCond .lt 8, 3) := by decide +kernel
theorem d7_4 : decode jdk_41_method_11_code 4 = .ok (.iload_n 0, 1) := by decide +kernel
theorem d7_5 : decode jdk_41_method_11_code 5 = .ok (.iload_n 1, 1) := by decide +kernel
theorem d7_6 : decode jdk_41_method_11_code 6 = .ok (.if_icmp .lt 10, 3) := by decide +kernel
theorem d7_16 : decode jdk_41_method_11_code 16 = .ok (.iload_n 0, 1) := by decide +kernel
theorem d7_17 : decode jdk_41_method_11_code 17 = .ok (.ireturn, 1) := by decide +kernel
theorem d6_0 : decode jdk_31_method_17_code 0 = .ok (.iload_n 0, 1) := by decide +kernel
theorem d6_1 : decode jdk_31_method_17_code 1 = .ok (.iload_n 1, 1) := by decide +kernel
theorem d6_2 : decode jdk_31_method_17_code 2 = .ok (.aconst_null, 1) := by decide +kernel
theorem d6_3 : decode jdk_31_method_17_code 3 = .ok (.invokestatic 105, 3) := by decide +kernel
theorem d6_6 : decode jdk_31_method_17_code 6 = .ok (.ireturn, 1) := by decide +kernel
theorem d28_0 : decode jdk_42_method_155_code 0 = .ok (.iload_n 0, 1) := by decide +kernel
theorem d28_1 : decode jdk_42_method_155_code 1 = .ok (.iload_n 1, 1) := by decide +kernel
theorem d28_2 : decode jdk_42_method_155_code 2 = .ok (.getstatic 1053, 3) := by decide +kernel
theorem d28_5 : decode jdk_42_method_155_code 5 = .ok (.invokestatic 1059, 3) := by decide +kernel
theorem d28_8 : decode jdk_42_method_155_code 8 = .ok (.pop, 1) := by decide +kernel
theorem d28_9 : decode jdk_42_method_155_code 9 = .ok (.return_, 1) := by decide +kernel
theorem d11_0 : decode jdk_41_method_13_code 0 = .ok (.iload_n 2, 1) := by decide +kernel
theorem d11_1 : decode jdk_41_method_13_code 1 = .ok (.iload_n 0, 1) := by decide +kernel
theorem d11_2 : decode jdk_41_method_13_code 2 = .ok (.ior, 1) := by decide +kernel
theorem d11_3 : decode jdk_41_method_13_code 3 = .ok (.iload_n 1, 1) := by decide +kernel
theorem d11_4 : decode jdk_41_method_13_code 4 = .ok (.ior, 1) := by decide +kernel
theorem d11_5 : decode jdk_41_method_13_code 5 = .ok (.ifCond .lt 10, 3) := by decide +kernel
theorem d11_8 : decode jdk_41_method_13_code 8 = .ok (.iload_n 1, 1) := by decide +kernel
theorem d11_9 : decode jdk_41_method_13_code 9 = .ok (.iload_n 2, 1) := by decide +kernel
theorem d11_10 : decode jdk_41_method_13_code 10 = .ok (.iload_n 0, 1) := by decide +kernel
theorem d11_11 : decode jdk_41_method_13_code 11 = .ok (.isub, 1) := by decide +kernel
theorem d11_12 : decode jdk_41_method_13_code 12 = .ok (.if_icmp .le 11, 3) := by decide +kernel
theorem d11_23 : decode jdk_41_method_13_code 23 = .ok (.iload_n 0, 1) := by decide +kernel
theorem d11_24 : decode jdk_41_method_13_code 24 = .ok (.ireturn, 1) := by decide +kernel
theorem d10_0 : decode jdk_42_method_157_code 0 = .ok (.iload_n 0, 1) := by decide +kernel
theorem d10_1 : decode jdk_42_method_157_code 1 = .ok (.iload_n 1, 1) := by decide +kernel
theorem d10_2 : decode jdk_42_method_157_code 2 = .ok (.iload_n 2, 1) := by decide +kernel
theorem d10_3 : decode jdk_42_method_157_code 3 = .ok (.getstatic 1053, 3) := by decide +kernel
theorem d10_6 : decode jdk_42_method_157_code 6 = .ok (.invokestatic 1065, 3) := by decide +kernel
theorem d10_9 : decode jdk_42_method_157_code 9 = .ok (.ireturn, 1) := by decide +kernel
theorem d9_0 : decode jdk_42_method_5_code 0 = .ok (.iload_n 1, 1) := by decide +kernel
theorem d9_1 : decode jdk_42_method_5_code 1 = .ok (.iload_n 2, 1) := by decide +kernel
theorem d9_2 : decode jdk_42_method_5_code 2 = .ok (.aload_n 0, 1) := by decide +kernel
theorem d9_3 : decode jdk_42_method_5_code 3 = .ok (.arraylength, 1) := by decide +kernel
theorem d9_4 : decode jdk_42_method_5_code 4 = .ok (.invokestatic 34, 3) := by decide +kernel
theorem d9_7 : decode jdk_42_method_5_code 7 = .ok (.pop, 1) := by decide +kernel
theorem d9_8 : decode jdk_42_method_5_code 8 = .ok (.aconst_null, 1) := by decide +kernel
theorem d9_9 : decode jdk_42_method_5_code 9 = .ok (.areturn, 1) := by decide +kernel
theorem d16_0 : decode jdk_52_method_21_code 0 = .ok (.iconst 0, 1) := by decide +kernel
theorem d16_1 : decode jdk_52_method_21_code 1 = .ok (.istore 5, 2) := by decide +kernel
theorem d16_3 : decode jdk_52_method_21_code 3 = .ok (.iload 5, 2) := by decide +kernel
theorem d16_5 : decode jdk_52_method_21_code 5 = .ok (.iload 4, 2) := by decide +kernel
theorem d16_7 : decode jdk_52_method_21_code 7 = .ok (.if_icmp .ge 37, 3) := by decide +kernel
theorem d16_10 : decode jdk_52_method_21_code 10 = .ok (.aload_n 0, 1) := by decide +kernel
theorem d16_11 : decode jdk_52_method_21_code 11 = .ok (.iload_n 1, 1) := by decide +kernel
theorem d16_12 : decode jdk_52_method_21_code 12 = .ok (.caload, 1) := by decide +kernel
theorem d16_13 : decode jdk_52_method_21_code 13 = .ok (.istore 6, 2) := by decide +kernel
theorem d16_15 : decode jdk_52_method_21_code 15 = .ok (.iload 6, 2) := by decide +kernel
theorem d16_17 : decode jdk_52_method_21_code 17 = .ok (.sipush 255, 3) := by decide +kernel
theorem d16_20 : decode jdk_52_method_21_code 20 = .ok (.if_icmp .le 6, 3) := by decide +kernel
theorem d16_26 : decode jdk_52_method_21_code 26 = .ok (.aload_n 2, 1) := by decide +kernel
theorem d16_27 : decode jdk_52_method_21_code 27 = .ok (.iload_n 3, 1) := by decide +kernel
theorem d16_28 : decode jdk_52_method_21_code 28 = .ok (.iload 6, 2) := by decide +kernel
theorem d16_30 : decode jdk_52_method_21_code 30 = .ok (.i2b, 1) := by decide +kernel
theorem d16_31 : decode jdk_52_method_21_code 31 = .ok (.bastore, 1) := by decide +kernel
theorem d16_32 : decode jdk_52_method_21_code 32 = .ok (.iinc 1 1, 3) := by decide +kernel
theorem d16_35 : decode jdk_52_method_21_code 35 = .ok (.iinc 3 1, 3) := by decide +kernel
theorem d16_38 : decode jdk_52_method_21_code 38 = .ok (.iinc 5 1, 3) := by decide +kernel
theorem d16_41 : decode jdk_52_method_21_code 41 = .ok (.goto (-38), 3) := by decide +kernel
theorem d16_44 : decode jdk_52_method_21_code 44 = .ok (.iload 4, 2) := by decide +kernel
theorem d16_46 : decode jdk_52_method_21_code 46 = .ok (.ireturn, 1) := by decide +kernel
theorem d16_23 : decode jdk_52_method_21_code 23 = .ok (.iload 5, 2) := by decide +kernel
theorem d16_25 : decode jdk_52_method_21_code 25 = .ok (.ireturn, 1) := by decide +kernel
theorem d21_0 : decode jdk_52_method_5_code 0 = .ok (.getstatic 44, 3) := by decide +kernel
theorem d21_3 : decode jdk_52_method_5_code 3 = .ok (.ifCond .ne 25, 3) := by decide +kernel
theorem d21_28 : decode jdk_52_method_5_code 28 = .ok (.iload_n 1, 1) := by decide +kernel
theorem d21_29 : decode jdk_52_method_5_code 29 = .ok (.iconst 1, 1) := by decide +kernel
theorem d21_30 : decode jdk_52_method_5_code 30 = .ok (.ishl, 1) := by decide +kernel
theorem d21_31 : decode jdk_52_method_5_code 31 = .ok (.istore_n 1, 1) := by decide +kernel
theorem d21_32 : decode jdk_52_method_5_code 32 = .ok (.aload_n 0, 1) := by decide +kernel
theorem d21_33 : decode jdk_52_method_5_code 33 = .ok (.iload_n 1, 1) := by decide +kernel
theorem d21_34 : decode jdk_52_method_5_code 34 = .ok (.iinc 1 1, 3) := by decide +kernel
theorem d21_37 : decode jdk_52_method_5_code 37 = .ok (.baload, 1) := by decide +kernel
theorem d21_38 : decode jdk_52_method_5_code 38 = .ok (.sipush 255, 3) := by decide +kernel
theorem d21_41 : decode jdk_52_method_5_code 41 = .ok (.iand, 1) := by decide +kernel
theorem d21_42 : decode jdk_52_method_5_code 42 = .ok (.getstatic 59, 3) := by decide +kernel
theorem d21_45 : decode jdk_52_method_5_code 45 = .ok (.ishl, 1) := by decide +kernel
theorem d21_46 : decode jdk_52_method_5_code 46 = .ok (.aload_n 0, 1) := by decide +kernel
theorem d21_47 : decode jdk_52_method_5_code 47 = .ok (.iload_n 1, 1) := by decide +kernel
theorem d21_48 : decode jdk_52_method_5_code 48 = .ok (.baload, 1) := by decide +kernel
theorem d21_49 : decode jdk_52_method_5_code 49 = .ok (.sipush 255, 3) := by decide +kernel
theorem d21_52 : decode jdk_52_method_5_code 52 = .ok (.iand, 1) := by decide +kernel
theorem d21_53 : decode jdk_52_method_5_code 53 = .ok (.getstatic 63, 3) := by decide +kernel
theorem d21_56 : decode jdk_52_method_5_code 56 = .ok (.ishl, 1) := by decide +kernel
theorem d21_57 : decode jdk_52_method_5_code 57 = .ok (.ior, 1) := by decide +kernel
theorem d21_58 : decode jdk_52_method_5_code 58 = .ok (.i2c, 1) := by decide +kernel
theorem d19_0 : decode jdk_52_method_3_code 0 = .ok (.iload_n 0, 1) := by decide +kernel
theorem d19_1 : decode jdk_52_method_3_code 1 = .ok (.ifCond .ge 11, 3) := by decide +kernel
theorem d19_12 : decode jdk_52_method_3_code 12 = .ok (.iload_n 0, 1) := by decide +kernel
theorem d19_13 : decode jdk_52_method_3_code 13 = .ok (.ldc 20, 2) := by decide +kernel
theorem d19_15 : decode jdk_52_method_3_code 15 = .ok (.if_icmp .lt 40, 3) := by decide +kernel
theorem d19_55 : decode jdk_52_method_3_code 55 = .ok (.iload_n 0, 1) := by decide +kernel
theorem d19_56 : decode jdk_52_method_3_code 56 = .ok (.iconst 1, 1) := by decide +kernel
theorem d19_57 : decode jdk_52_method_3_code 57 = .ok (.ishl, 1) := by decide +kernel
theorem d19_58 : decode jdk_52_method_3_code 58 = .ok (.ireturn, 1) := by decide +kernel
theorem d18_0 : decode jdk_52_method_2_code 0 = .ok (.iload_n 0, 1) := by decide +kernel
theorem d18_1 : decode jdk_52_method_2_code 1 = .ok (.invokestatic 11, 3) := by decide +kernel
theorem d18_4 : decode jdk_52_method_2_code 4 = .ok (.newarray .byte, 2) := by decide +kernel
theorem d18_6 : decode jdk_52_method_2_code 6 = .ok (.areturn, 1) := by decide +kernel
theorem d20_0 : decode jdk_52_method_4_code 0 = .ok (.getstatic 44, 3) := by decide +kernel
theorem d20_3 : decode jdk_52_method_4_code 3 = .ok (.ifCond .ne 25, 3) := by decide +kernel
theorem d20_28 : decode jdk_52_method_4_code 28 = .ok (.iload_n 1, 1) := by decide +kernel
theorem d20_29 : decode jdk_52_method_4_code 29 = .ok (.iconst 1, 1) := by decide +kernel
theorem d20_30 : decode jdk_52_method_4_code 30 = .ok (.ishl, 1) := by decide +kernel
theorem d20_31 : decode jdk_52_method_4_code 31 = .ok (.istore_n 1, 1) := by decide +kernel
theorem d20_32 : decode jdk_52_method_4_code 32 = .ok (.aload_n 0, 1) := by decide +kernel
theorem d20_33 : decode jdk_52_method_4_code 33 = .ok (.iload_n 1, 1) := by decide +kernel
theorem d20_34 : decode jdk_52_method_4_code 34 = .ok (.iinc 1 1, 3) := by decide +kernel
theorem d20_37 : decode jdk_52_method_4_code 37 = .ok (.iload_n 2, 1) := by decide +kernel
theorem d20_38 : decode jdk_52_method_4_code 38 = .ok (.getstatic 59, 3) := by decide +kernel
theorem d20_41 : decode jdk_52_method_4_code 41 = .ok (.ishr, 1) := by decide +kernel
theorem d20_42 : decode jdk_52_method_4_code 42 = .ok (.i2b, 1) := by decide +kernel
theorem d20_43 : decode jdk_52_method_4_code 43 = .ok (.bastore, 1) := by decide +kernel
theorem d20_44 : decode jdk_52_method_4_code 44 = .ok (.aload_n 0, 1) := by decide +kernel
theorem d20_45 : decode jdk_52_method_4_code 45 = .ok (.iload_n 1, 1) := by decide +kernel
theorem d20_46 : decode jdk_52_method_4_code 46 = .ok (.iload_n 2, 1) := by decide +kernel
theorem d20_47 : decode jdk_52_method_4_code 47 = .ok (.getstatic 63, 3) := by decide +kernel
theorem d20_50 : decode jdk_52_method_4_code 50 = .ok (.ishr, 1) := by decide +kernel
theorem d20_51 : decode jdk_52_method_4_code 51 = .ok (.i2b, 1) := by decide +kernel
theorem d20_52 : decode jdk_52_method_4_code 52 = .ok (.bastore, 1) := by decide +kernel
theorem d20_53 : decode jdk_52_method_4_code 53 = .ok (.return_, 1) := by decide +kernel
theorem d21_59 : decode jdk_52_method_5_code 59 = .ok (.ireturn, 1) := by decide +kernel
theorem d27_0 : decode jdk_52_method_6_code 0 = .ok (.aload_n 0, 1) := by decide +kernel
theorem d27_1 : decode jdk_52_method_6_code 1 = .ok (.arraylength, 1) := by decide +kernel
theorem d27_2 : decode jdk_52_method_6_code 2 = .ok (.iconst 1, 1) := by decide +kernel
theorem d27_3 : decode jdk_52_method_6_code 3 = .ok (.ishr, 1) := by decide +kernel
theorem d27_4 : decode jdk_52_method_6_code 4 = .ok (.ireturn, 1) := by decide +kernel
theorem d17_0 : decode jdk_52_method_14_code 0 = .ok (.iload_n 2, 1) := by decide +kernel
theorem d17_1 : decode jdk_52_method_14_code 1 = .ok (.invokestatic 107, 3) := by decide +kernel
theorem d17_4 : decode jdk_52_method_14_code 4 = .ok (.astore_n 3, 1) := by decide +kernel
theorem d17_5 : decode jdk_52_method_14_code 5 = .ok (.iconst 0, 1) := by decide +kernel
theorem d17_6 : decode jdk_52_method_14_code 6 = .ok (.istore 4, 2) := by decide +kernel
theorem d17_8 : decode jdk_52_method_14_code 8 = .ok (.iload 4, 2) := by decide +kernel
theorem d17_10 : decode jdk_52_method_14_code 10 = .ok (.iload_n 2, 1) := by decide +kernel
theorem d17_11 : decode jdk_52_method_14_code 11 = .ok (.if_icmp .ge 21, 3) := by decide +kernel
theorem d17_14 : decode jdk_52_method_14_code 14 = .ok (.aload_n 3, 1) := by decide +kernel
theorem d17_15 : decode jdk_52_method_14_code 15 = .ok (.iload 4, 2) := by decide +kernel
theorem d17_17 : decode jdk_52_method_14_code 17 = .ok (.aload_n 0, 1) := by decide +kernel
theorem d17_18 : decode jdk_52_method_14_code 18 = .ok (.iload_n 1, 1) := by decide +kernel
theorem d17_19 : decode jdk_52_method_14_code 19 = .ok (.caload, 1) := by decide +kernel
theorem d17_20 : decode jdk_52_method_14_code 20 = .ok (.invokestatic 111, 3) := by decide +kernel
theorem d17_23 : decode jdk_52_method_14_code 23 = .ok (.iinc 1 1, 3) := by decide +kernel
theorem d17_26 : decode jdk_52_method_14_code 26 = .ok (.iinc 4 1, 3) := by decide +kernel
theorem d17_29 : decode jdk_52_method_14_code 29 = .ok (.goto (-21), 3) := by decide +kernel
theorem d17_32 : decode jdk_52_method_14_code 32 = .ok (.aload_n 3, 1) := by decide +kernel
theorem d17_33 : decode jdk_52_method_14_code 33 = .ok (.areturn, 1) := by decide +kernel
theorem d15_0 : decode jdk_52_method_16_code 0 = .ok (.iload_n 2, 1) := by decide +kernel
theorem d15_1 : decode jdk_52_method_16_code 1 = .ok (.newarray .byte, 2) := by decide +kernel
theorem d15_3 : decode jdk_52_method_16_code 3 = .ok (.astore_n 3, 1) := by decide +kernel
theorem d15_4 : decode jdk_52_method_16_code 4 = .ok (.aload_n 0, 1) := by decide +kernel
theorem d15_5 : decode jdk_52_method_16_code 5 = .ok (.iload_n 1, 1) := by decide +kernel
theorem d15_6 : decode jdk_52_method_16_code 6 = .ok (.aload_n 3, 1) := by decide +kernel
theorem d15_7 : decode jdk_52_method_16_code 7 = .ok (.iconst 0, 1) := by decide +kernel
theorem d15_8 : decode jdk_52_method_16_code 8 = .ok (.iload_n 2, 1) := by decide +kernel
theorem d15_9 : decode jdk_52_method_16_code 9 = .ok (.invokestatic 115, 3) := by decide +kernel
theorem d15_12 : decode jdk_52_method_16_code 12 = .ok (.istore 4, 2) := by decide +kernel
theorem d15_14 : decode jdk_52_method_16_code 14 = .ok (.iload 4, 2) := by decide +kernel
theorem d15_16 : decode jdk_52_method_16_code 16 = .ok (.iload_n 2, 1) := by decide +kernel
theorem d15_17 : decode jdk_52_method_16_code 17 = .ok (.if_icmp .eq 40, 3) := by decide +kernel
theorem d15_57 : decode jdk_52_method_16_code 57 = .ok (.aload_n 3, 1) := by decide +kernel
theorem d15_58 : decode jdk_52_method_16_code 58 = .ok (.areturn, 1) := by decide +kernel
theorem d22_0 : decode jdk_52_method_15_code 0 = .ok (.iload_n 1, 1) := by decide +kernel
theorem d22_1 : decode jdk_52_method_15_code 1 = .ok (.aload_n 0, 1) := by decide +kernel
theorem d22_2 : decode jdk_52_method_15_code 2 = .ok (.arraylength, 1) := by decide +kernel
theorem d22_3 : decode jdk_52_method_15_code 3 = .ok (.isub, 1) := by decide +kernel
theorem d22_4 : decode jdk_52_method_15_code 4 = .ok (.bipush 31, 2) := by decide +kernel
theorem d22_6 : decode jdk_52_method_15_code 6 = .ok (.iushr, 1) := by decide +kernel
theorem d22_7 : decode jdk_52_method_15_code 7 = .ok (.i2b, 1) := by decide +kernel
theorem d22_8 : decode jdk_52_method_15_code 8 = .ok (.ireturn, 1) := by decide +kernel
theorem d12_0 : decode jdk_42_method_149_code 0 = .ok (.aload_n 0, 1) := by decide +kernel
theorem d12_1 : decode jdk_42_method_149_code 1 = .ok (.invokespecial 1, 3) := by decide +kernel
theorem d12_4 : decode jdk_42_method_149_code 4 = .ok (.iload_n 3, 1) := by decide +kernel
theorem d12_5 : decode jdk_42_method_149_code 5 = .ok (.ifCond .ne 22, 3) := by decide +kernel
theorem d12_27 : decode jdk_42_method_149_code 27 = .ok (.getstatic 38, 3) := by decide +kernel
theorem d12_30 : decode jdk_42_method_149_code 30 = .ok (.ifCond .eq 28, 3) := by decide +kernel
theorem d12_33 : decode jdk_42_method_149_code 33 = .ok (.aload_n 1, 1) := by decide +kernel
theorem d12_34 : decode jdk_42_method_149_code 34 = .ok (.iload_n 2, 1) := by decide +kernel
theorem d12_35 : decode jdk_42_method_149_code 35 = .ok (.iload_n 3, 1) := by decide +kernel
theorem d12_36 : decode jdk_42_method_149_code 36 = .ok (.invokestatic 177, 3) := by decide +kernel
theorem d12_39 : decode jdk_42_method_149_code 39 = .ok (.astore 5, 2) := by decide +kernel
theorem d12_41 : decode jdk_42_method_149_code 41 = .ok (.aload_n 0, 1) := by decide +kernel
theorem d12_42 : decode jdk_42_method_149_code 42 = .ok (.aload 5, 2) := by decide +kernel
theorem d12_44 : decode jdk_42_method_149_code 44 = .ok (.iload_n 3, 1) := by decide +kernel
theorem d12_45 : decode jdk_42_method_149_code 45 = .ok (.invokestatic 47, 3) := by decide +kernel
theorem d12_48 : decode jdk_42_method_149_code 48 = .ok (.putfield 15, 3) := by decide +kernel
theorem d12_51 : decode jdk_42_method_149_code 51 = .ok (.aload_n 0, 1) := by decide +kernel
theorem d12_52 : decode jdk_42_method_149_code 52 = .ok (.aload 5, 2) := by decide +kernel
theorem d12_54 : decode jdk_42_method_149_code 54 = .ok (.putfield 9, 3) := by decide +kernel
theorem d12_57 : decode jdk_42_method_149_code 57 = .ok (.return_, 1) := by decide +kernel
theorem d8_0 : decode jdk_42_method_4_code 0 = .ok (.aload_n 0, 1) := by decide +kernel
theorem d8_1 : decode jdk_42_method_4_code 1 = .ok (.aload_n 1, 1) := by decide +kernel
theorem d8_2 : decode jdk_42_method_4_code 2 = .ok (.iload_n 2, 1) := by decide +kernel
theorem d8_3 : decode jdk_42_method_4_code 3 = .ok (.iload_n 3, 1) := by decide +kernel
theorem d8_4 : decode jdk_42_method_4_code 4 = .ok (.aload_n 1, 1) := by decide +kernel
theorem d8_5 : decode jdk_42_method_4_code 5 = .ok (.iload_n 2, 1) := by decide +kernel
theorem d8_6 : decode jdk_42_method_4_code 6 = .ok (.iload_n 3, 1) := by decide +kernel
theorem d8_7 : decode jdk_42_method_4_code 7 = .ok (.invokestatic 30, 3) := by decide +kernel
theorem d8_10 : decode jdk_42_method_4_code 10 = .ok (.invokespecial 27, 3) := by decide +kernel
theorem d8_13 : decode jdk_42_method_4_code 13 = .ok (.return_, 1) := by decide +kernel
theorem d15_20 : decode jdk_52_method_16_code 20 = .ok (.aload_n 0, 1) := by decide +kernel
theorem d15_21 : decode jdk_52_method_16_code 21 = .ok (.iload_n 1, 1) := by decide +kernel
theorem d15_22 : decode jdk_52_method_16_code 22 = .ok (.iload_n 2, 1) := by decide +kernel
theorem d15_23 : decode jdk_52_method_16_code 23 = .ok (.invokestatic 119, 3) := by decide +kernel
theorem d15_26 : decode jdk_52_method_16_code 26 = .ok (.astore 5, 2) := by decide +kernel
theorem d15_28 : decode jdk_52_method_16_code 28 = .ok (.aload 5, 2) := by decide +kernel
theorem d15_30 : decode jdk_52_method_16_code 30 = .ok (.iload 4, 2) := by decide +kernel
theorem d15_32 : decode jdk_52_method_16_code 32 = .ok (.invokestatic 71, 3) := by decide +kernel
theorem d15_35 : decode jdk_52_method_16_code 35 = .ok (.sipush 255, 3) := by decide +kernel
theorem d15_38 : decode jdk_52_method_16_code 38 = .ok (.if_icmp .gt 16, 3) := by decide +kernel
theorem d15_54 : decode jdk_52_method_16_code 54 = .ok (.aload 5, 2) := by decide +kernel
theorem d15_56 : decode jdk_52_method_16_code 56 = .ok (.areturn, 1) := by decide +kernel
theorem d12_8 : decode jdk_42_method_149_code 8 = .ok (.aload_n 0, 1) := by decide +kernel
theorem d12_9 : decode jdk_42_method_149_code 9 = .ok (.ldc 7, 2) := by decide +kernel
theorem d12_11 : decode jdk_42_method_149_code 11 = .ok (.getfield 9, 3) := by decide +kernel
theorem d12_14 : decode jdk_42_method_149_code 14 = .ok (.putfield 9, 3) := by decide +kernel
theorem d12_17 : decode jdk_42_method_149_code 17 = .ok (.aload_n 0, 1) := by decide +kernel
theorem d12_18 : decode jdk_42_method_149_code 18 = .ok (.ldc 7, 2) := by decide +kernel
theorem d12_20 : decode jdk_42_method_149_code 20 = .ok (.getfield 15, 3) := by decide +kernel
theorem d12_23 : decode jdk_42_method_149_code 23 = .ok (.putfield 15, 3) := by decide +kernel
theorem d12_26 : decode jdk_42_method_149_code 26 = .ok (.return_, 1) := by decide +kernel
theorem d14_0 : decode jdk_42_method_152_code 0 = .ok (.getstatic 38, 3) := by decide +kernel
theorem d14_3 : decode jdk_42_method_152_code 3 = .ok (.ifCond .eq 10, 3) := by decide +kernel
theorem d14_6 : decode jdk_42_method_152_code 6 = .ok (.aload_n 0, 1) := by decide +kernel
theorem d14_7 : decode jdk_42_method_152_code 7 = .ok (.getfield 15, 3) := by decide +kernel
theorem d14_10 : decode jdk_42_method_152_code 10 = .ok (.goto 4, 3) := by decide +kernel
theorem d14_14 : decode jdk_42_method_152_code 14 = .ok (.ireturn, 1) := by decide +kernel
theorem d24_0 : decode jdk_42_method_154_code 0 = .ok (.getstatic 38, 3) := by decide +kernel
theorem d24_3 : decode jdk_42_method_154_code 3 = .ok (.ifCond .eq 14, 3) := by decide +kernel
theorem d24_6 : decode jdk_42_method_154_code 6 = .ok (.aload_n 0, 1) := by decide +kernel
theorem d24_7 : decode jdk_42_method_154_code 7 = .ok (.getfield 15, 3) := by decide +kernel
theorem d24_10 : decode jdk_42_method_154_code 10 = .ok (.ifCond .ne 7, 3) := by decide +kernel
theorem d24_13 : decode jdk_42_method_154_code 13 = .ok (.iconst 1, 1) := by decide +kernel
theorem d24_14 : decode jdk_42_method_154_code 14 = .ok (.goto 4, 3) := by decide +kernel
theorem d24_18 : decode jdk_42_method_154_code 18 = .ok (.ireturn, 1) := by decide +kernel
theorem d13_0 : decode jdk_42_method_54_code 0 = .ok (.aload_n 0, 1) := by decide +kernel
theorem d13_1 : decode jdk_42_method_54_code 1 = .ok (.getfield 9, 3) := by decide +kernel
theorem d13_4 : decode jdk_42_method_54_code 4 = .ok (.arraylength, 1) := by decide +kernel
theorem d13_5 : decode jdk_42_method_54_code 5 = .ok (.aload_n 0, 1) := by decide +kernel
theorem d13_6 : decode jdk_42_method_54_code 6 = .ok (.invokevirtual 335, 3) := by decide +kernel
theorem d13_9 : decode jdk_42_method_54_code 9 = .ok (.ishr, 1) := by decide +kernel
theorem d13_10 : decode jdk_42_method_54_code 10 = .ok (.ireturn, 1) := by decide +kernel
theorem d29_0 : decode jdk_43_method_2_code 0 = .ok (.iload_n 1, 1) := by decide +kernel
theorem d29_1 : decode jdk_43_method_2_code 1 = .ok (.aload_n 0, 1) := by decide +kernel
theorem d29_2 : decode jdk_43_method_2_code 2 = .ok (.arraylength, 1) := by decide +kernel
theorem d29_3 : decode jdk_43_method_2_code 3 = .ok (.invokestatic 9, 3) := by decide +kernel
theorem d29_6 : decode jdk_43_method_2_code 6 = .ok (.aload_n 0, 1) := by decide +kernel
theorem d29_7 : decode jdk_43_method_2_code 7 = .ok (.iload_n 1, 1) := by decide +kernel
theorem d29_8 : decode jdk_43_method_2_code 8 = .ok (.baload, 1) := by decide +kernel
theorem d29_9 : decode jdk_43_method_2_code 9 = .ok (.sipush 255, 3) := by decide +kernel
theorem d29_12 : decode jdk_43_method_2_code 12 = .ok (.iand, 1) := by decide +kernel
theorem d29_13 : decode jdk_43_method_2_code 13 = .ok (.i2c, 1) := by decide +kernel
theorem d29_14 : decode jdk_43_method_2_code 14 = .ok (.ireturn, 1) := by decide +kernel
theorem d23_0 : decode jdk_42_method_56_code 0 = .ok (.aload_n 0, 1) := by decide +kernel
theorem d23_1 : decode jdk_42_method_56_code 1 = .ok (.invokevirtual 492, 3) := by decide +kernel
theorem d23_4 : decode jdk_42_method_56_code 4 = .ok (.ifCond .eq 12, 3) := by decide +kernel
theorem d23_7 : decode jdk_42_method_56_code 7 = .ok (.aload_n 0, 1) := by decide +kernel
theorem d23_8 : decode jdk_42_method_56_code 8 = .ok (.getfield 9, 3) := by decide +kernel
theorem d23_11 : decode jdk_42_method_56_code 11 = .ok (.iload_n 1, 1) := by decide +kernel
theorem d23_12 : decode jdk_42_method_56_code 12 = .ok (.invokestatic 495, 3) := by decide +kernel
theorem d23_15 : decode jdk_42_method_56_code 15 = .ok (.ireturn, 1) := by decide +kernel
theorem d24_17 : decode jdk_42_method_154_code 17 = .ok (.iconst 0, 1) := by decide +kernel
theorem d26_0 : decode jdk_52_method_91_code 0 = .ok (.iload_n 0, 1) := by decide +kernel
theorem d26_1 : decode jdk_52_method_91_code 1 = .ok (.aload_n 1, 1) := by decide +kernel
theorem d26_2 : decode jdk_52_method_91_code 2 = .ok (.invokestatic 48, 3) := by decide +kernel
theorem d26_5 : decode jdk_52_method_91_code 5 = .ok (.invokestatic 414, 3) := by decide +kernel
theorem d26_8 : decode jdk_52_method_91_code 8 = .ok (.return_, 1) := by decide +kernel
theorem d25_0 : decode jdk_52_method_83_code 0 = .ok (.iload_n 1, 1) := by decide +kernel
theorem d25_1 : decode jdk_52_method_83_code 1 = .ok (.aload_n 0, 1) := by decide +kernel
theorem d25_2 : decode jdk_52_method_83_code 2 = .ok (.invokestatic 67, 3) := by decide +kernel
theorem d25_5 : decode jdk_52_method_83_code 5 = .ok (.aload_n 0, 1) := by decide +kernel
theorem d25_6 : decode jdk_52_method_83_code 6 = .ok (.iload_n 1, 1) := by decide +kernel
theorem d25_7 : decode jdk_52_method_83_code 7 = .ok (.invokestatic 71, 3) := by decide +kernel
theorem d25_10 : decode jdk_52_method_83_code 10 = .ok (.ireturn, 1) := by decide +kernel
theorem d23_16 : decode jdk_42_method_56_code 16 = .ok (.aload_n 0, 1) := by decide +kernel
theorem d23_17 : decode jdk_42_method_56_code 17 = .ok (.getfield 9, 3) := by decide +kernel
theorem d23_20 : decode jdk_42_method_56_code 20 = .ok (.iload_n 1, 1) := by decide +kernel
theorem d23_21 : decode jdk_42_method_56_code 21 = .ok (.invokestatic 498, 3) := by decide +kernel
theorem d23_24 : decode jdk_42_method_56_code 24 = .ok (.ireturn, 1) := by decide +kernel
theorem d3_0 : decode jdk_22_method_1_code 0 = .ok (.aload_n 0, 1) := by decide +kernel
theorem d3_1 : decode jdk_22_method_1_code 1 = .ok (.invokespecial 1, 3) := by decide +kernel
theorem d3_4 : decode jdk_22_method_1_code 4 = .ok (.return_, 1) := by decide +kernel
theorem d2_0 : decode jdk_39_method_1_code 0 = .ok (.aload_n 0, 1) := by decide +kernel
theorem d2_1 : decode jdk_39_method_1_code 1 = .ok (.invokespecial 1, 3) := by decide +kernel
theorem d2_4 : decode jdk_39_method_1_code 4 = .ok (.aload_n 0, 1) := by decide +kernel
theorem d2_5 : decode jdk_39_method_1_code 5 = .ok (.iconst 0, 1) := by decide +kernel
theorem d2_6 : decode jdk_39_method_1_code 6 = .ok (.putfield 7, 3) := by decide +kernel
theorem d2_9 : decode jdk_39_method_1_code 9 = .ok (.return_, 1) := by decide +kernel
theorem d1_0 : decode prog_30_method_1_code 0 = .ok (.aload_n 0, 1) := by decide +kernel
theorem d1_1 : decode prog_30_method_1_code 1 = .ok (.invokespecial 1, 3) := by decide +kernel
theorem d1_4 : decode prog_30_method_1_code 4 = .ok (.aload_n 0, 1) := by decide +kernel
theorem d1_5 : decode prog_30_method_1_code 5 = .ok (.aload_n 1, 1) := by decide +kernel
theorem d1_6 : decode prog_30_method_1_code 6 = .ok (.putfield 7, 3) := by decide +kernel
theorem d1_9 : decode prog_30_method_1_code 9 = .ok (.aload_n 0, 1) := by decide +kernel
theorem d1_10 : decode prog_30_method_1_code 10 = .ok (.aload_n 2, 1) := by decide +kernel
theorem d1_11 : decode prog_30_method_1_code 11 = .ok (.putfield 13, 3) := by decide +kernel
theorem d1_14 : decode prog_30_method_1_code 14 = .ok (.aload_n 0, 1) := by decide +kernel
theorem d1_15 : decode prog_30_method_1_code 15 = .ok (.iload_n 3, 1) := by decide +kernel
theorem d1_16 : decode prog_30_method_1_code 16 = .ok (.putfield 17, 3) := by decide +kernel
theorem d1_19 : decode prog_30_method_1_code 19 = .ok (.return_, 1) := by decide +kernel
theorem d5_0 : decode prog_30_method_2_code 0 = .ok (.iload_n 1, 1) := by decide +kernel
theorem d5_1 : decode prog_30_method_2_code 1 = .ok (.aload_n 0, 1) := by decide +kernel
theorem d5_2 : decode prog_30_method_2_code 2 = .ok (.getfield 13, 3) := by decide +kernel
theorem d5_5 : decode prog_30_method_2_code 5 = .ok (.arraylength, 1) := by decide +kernel
theorem d5_6 : decode prog_30_method_2_code 6 = .ok (.invokestatic 21, 3) := by decide +kernel
theorem d5_9 : decode prog_30_method_2_code 9 = .ok (.pop, 1) := by decide +kernel
theorem d5_10 : decode prog_30_method_2_code 10 = .ok (.iload_n 1, 1) := by decide +kernel
theorem d5_11 : decode prog_30_method_2_code 11 = .ok (.ifCond .ne 7, 3) := by decide +kernel
theorem d5_14 : decode prog_30_method_2_code 14 = .ok (.iconst 0, 1) := by decide +kernel
theorem d5_15 : decode prog_30_method_2_code 15 = .ok (.goto 13, 3) := by decide +kernel
theorem d5_28 : decode prog_30_method_2_code 28 = .ok (.istore_n 2, 1) := by decide +kernel
theorem d5_29 : decode prog_30_method_2_code 29 = .ok (.new 27, 3) := by decide +kernel
theorem d5_32 : decode prog_30_method_2_code 32 = .ok (.dup, 1) := by decide +kernel
theorem d5_33 : decode prog_30_method_2_code 33 = .ok (.aload_n 0, 1) := by decide +kernel
theorem d5_34 : decode prog_30_method_2_code 34 = .ok (.getfield 7, 3) := by decide +kernel
theorem d5_37 : decode prog_30_method_2_code 37 = .ok (.iload_n 2, 1) := by decide +kernel
theorem d5_38 : decode prog_30_method_2_code 38 = .ok (.aload_n 0, 1) := by decide +kernel
theorem d5_39 : decode prog_30_method_2_code 39 = .ok (.getfield 13, 3) := by decide +kernel
theorem d5_42 : decode prog_30_method_2_code 42 = .ok (.iload_n 1, 1) := by decide +kernel
theorem d5_43 : decode prog_30_method_2_code 43 = .ok (.iaload, 1) := by decide +kernel
theorem d5_44 : decode prog_30_method_2_code 44 = .ok (.iload_n 2, 1) := by decide +kernel
theorem d5_45 : decode prog_30_method_2_code 45 = .ok (.isub, 1) := by decide +kernel
theorem d5_46 : decode prog_30_method_2_code 46 = .ok (.invokespecial 29, 3) := by decide +kernel
theorem d5_49 : decode prog_30_method_2_code 49 = .ok (.areturn, 1) := by decide +kernel
theorem d5_18 : decode prog_30_method_2_code 18 = .ok (.aload_n 0, 1) := by decide +kernel
theorem d5_19 : decode prog_30_method_2_code 19 = .ok (.getfield 13, 3) := by decide +kernel
theorem d5_22 : decode prog_30_method_2_code 22 = .ok (.iload_n 1, 1) := by decide +kernel
theorem d5_23 : decode prog_30_method_2_code 23 = .ok (.iconst 1, 1) := by decide +kernel
theorem d5_24 : decode prog_30_method_2_code 24 = .ok (.isub, 1) := by decide +kernel
theorem d5_25 : decode prog_30_method_2_code 25 = .ok (.iaload, 1) := by decide +kernel
theorem d5_26 : decode prog_30_method_2_code 26 = .ok (.iconst 1, 1) := by decide +kernel
theorem d5_27 : decode prog_30_method_2_code 27 = .ok (.iadd, 1) := by decide +kernel
abbrev kS0 : String := "java/lang/String"
abbrev kS1 : String := "java/lang/StringUTF16"
abbrev kS2 : String := "com/example/rungwise/rungwise/formats/CsvRecord"
abbrev kS3 : String := "jdk/internal/util/Preconditions"
def Qrm_ckn (Z : State) (p0 : Int32) (p1 : Int32) (h0 : Heap) (n0 : Nat) (v : Option Value) (h : Heap) (L : List Loc) : Prop := v = some (.int p0) ∧ Fr n0 L ∧ h = h0
theorem ef_rm_ckn (m : MethodId) (x0 : Int32) (x1 : Int32) : entryFrame m #[(.int x0), (.int x1), .null] 3 = mkF m 0 (la0 x0 x1) [] := by first | rfl | (simp [entryFrame, mkF, argsToLocals, Value.category]; done)
theorem rm_ckn (l : Launch) (Z : State) (a0 : Array Value) (hw : HW Z a0) (ws : List Jvm.Cond) (p0 : Int32) (p1 : Int32) (h0 : Heap) (n0 : Nat) (Z0 : n0 ≤ h0.size) (h1 : ¬ p0 < 0) (h2 : p0 < p1) :
  OwnM l Z h0 (⟨kS3, "checkIndex", "(IILjava/util/function/BiFunction;)I"⟩ : MethodName) (Jvm.Cond.code (⟨kS3, "checkIndex", "(IILjava/util/function/BiFunction;)I"⟩ : MethodName) jdk_41_method_11_code 3 (some .int) :: ws) (RM 0 0 0 0) #[(.int p0), (.int p1), .null] (Qrm_ckn Z p0 p1 h0 n0) := by
 refine MetFree.of_bodySF (plainFor_of_name pn_0) hisR ?_
 intro p e s m args below meth c s₁ Bd hml0 hP hK
 obtain ⟨rfl, hZ, hh⟩ := hP
 have hx := Bd.exec
 have hby := Bd.bytes
 have hml : c.maxLocals = 3 := hml0
 have hown : s.vm.findClass kS3 = some m.cls := findClass_of_methodNamed Bd.named
 have hnm := (name_of_methodNamed Bd.named Bd.method).1
 have X0 : Stand p l e (RM 0 0 0 0) s m #[(.int p0), (.int p1), .null] below meth c s₁ [] 0 0 := Stand.of_body Bd
 have e0 : s₁.heap = h0 := by rw [← hh, Bd.state]; rfl
 have N0 := Fr.nil n0
 have pre0 : ∀ t, GO p e below s₁ (mkF m 0 (la0 p0 p1) []) t → GO p e below s₁ (entryFrame m #[(.int p0), (.int p1), .null] 3) t := fun t k => castTop (ef_rm_ckn m p0 p1) k
 obtain ⟨fs, hr, hrun, hended, hW, hsame⟩ := X0.leave (v := some (.int p0)) (fun h => by rw [Bd.returns] at h; cases h)
 refine ⟨_, _, pre0 _ ?_, hrun, hended, _, _, rfl, ?_, ⟨_, rfl⟩, hW, hsame.mono (by decide) (by decide)⟩
 ·show GO p e below s₁ (mkF m 0 (la0 p0 p1) []) _
  refine XS.iloadN X0.here hx rfl (hb hby d7_0) rfl ?_
  show GO p e below s₁ (mkF m 1 (la0 p0 p1) [(.int p0)]) _
  refine XS.ifNo X0.here hx rfl (hb hby d7_1) rfl ((if0 _ _).trans (flt (h1 : ¬ (p0 < (0 : Int32)))).1) ?_
  show GO p e below s₁ (mkF m 4 (la0 p0 p1) []) _
  refine XS.iloadN X0.here hx rfl (hb hby d7_4) rfl ?_
  show GO p e below s₁ (mkF m 5 (la0 p0 p1) [(.int p0)]) _
  refine XS.iloadN X0.here hx rfl (hb hby d7_5) rfl ?_
  show GO p e below s₁ (mkF m 6 (la0 p0 p1) [(.int p1), (.int p0)]) _
  refine XS.icmpYes X0.here hx rfl (pc0 := 6) (pc' := 16) rfl (hb hby d7_6) rfl (tlt (h2 : p0 < p1)).1 (by decide) (by decide) ?_
  show GO p e below s₁ (mkF m 16 (la0 p0 p1) []) _
  refine XS.iloadN X0.here hx rfl (hb hby d7_16) rfl ?_
  show GO p e below s₁ (mkF m 17 (la0 p0 p1) [(.int p0)]) _
  exact retI X0 hx Bd.returns (hb hby d7_17) hr
 ·show Qrm_ckn Z p0 p1 h0 n0 _ s₁.heap _
  rw [e0]
  exact ⟨rfl, N0, rfl⟩
def Qrm_ckr (Z : State) (p0 : Int32) (p1 : Int32) (fa : Addr) (h0 : Heap) (n0 : Nat) (v : Option Value) (h : Heap) (L : List Loc) : Prop := v = some (.int p0) ∧ Fr n0 L ∧ h = h0
theorem ef_rm_ckr (m : MethodId) (x0 : Int32) (x1 : Int32) (x2 : Addr) : entryFrame m #[(.int x0), (.int x1), (.ref x2)] 3 = mkF m 0 (la1 x0 x1 x2) [] := by first | rfl | (simp [entryFrame, mkF, argsToLocals, Value.category]; done)
theorem rm_ckr (l : Launch) (Z : State) (a0 : Array Value) (hw : HW Z a0) (ws : List Jvm.Cond) (p0 : Int32) (p1 : Int32) (fa : Addr) (h0 : Heap) (n0 : Nat) (Z0 : n0 ≤ h0.size) (h1 : ¬ p0 < 0) (h2 : p0 < p1) :
  OwnM l Z h0 (⟨kS3, "checkIndex", "(IILjava/util/function/BiFunction;)I"⟩ : MethodName) (Jvm.Cond.code (⟨kS3, "checkIndex", "(IILjava/util/function/BiFunction;)I"⟩ : MethodName) jdk_41_method_11_code 3 (some .int) :: ws) (RM 0 0 0 0) #[(.int p0), (.int p1), (.ref fa)] (Qrm_ckr Z p0 p1 fa h0 n0) := by
 refine MetFree.of_bodySF (plainFor_of_name pn_0) hisR ?_
 intro p e s m args below meth c s₁ Bd hml0 hP hK
 obtain ⟨rfl, hZ, hh⟩ := hP
 have hx := Bd.exec
 have hby := Bd.bytes
 have hml : c.maxLocals = 3 := hml0
 have hown : s.vm.findClass kS3 = some m.cls := findClass_of_methodNamed Bd.named
 have hnm := (name_of_methodNamed Bd.named Bd.method).1
 have X0 : Stand p l e (RM 0 0 0 0) s m #[(.int p0), (.int p1), (.ref fa)] below meth c s₁ [] 0 0 := Stand.of_body Bd
 have e0 : s₁.heap = h0 := by rw [← hh, Bd.state]; rfl
 have N0 := Fr.nil n0
 have pre0 : ∀ t, GO p e below s₁ (mkF m 0 (la1 p0 p1 fa) []) t → GO p e below s₁ (entryFrame m #[(.int p0), (.int p1), (.ref fa)] 3) t := fun t k => castTop (ef_rm_ckr m p0 p1 fa) k
 obtain ⟨fs, hr, hrun, hended, hW, hsame⟩ := X0.leave (v := some (.int p0)) (fun h => by rw [Bd.returns] at h; cases h)
 refine ⟨_, _, pre0 _ ?_, hrun, hended, _, _, rfl, ?_, ⟨_, rfl⟩, hW, hsame.mono (by decide) (by decide)⟩
 ·show GO p e below s₁ (mkF m 0 (la1 p0 p1 fa) []) _
  refine XS.iloadN X0.here hx rfl (hb hby d7_0) rfl ?_
  show GO p e below s₁ (mkF m 1 (la1 p0 p1 fa) [(.int p0)]) _
  refine XS.ifNo X0.here hx rfl (hb hby d7_1) rfl ((if0 _ _).trans (flt (h1 : ¬ (p0 < (0 : Int32)))).1) ?_
  show GO p e below s₁ (mkF m 4 (la1 p0 p1 fa) []) _
  refine XS.iloadN X0.here hx rfl (hb hby d7_4) rfl ?_
  show GO p e below s₁ (mkF m 5 (la1 p0 p1 fa) [(.int p0)]) _
  refine XS.iloadN X0.here hx rfl (hb hby d7_5) rfl ?_
  show GO p e below s₁ (mkF m 6 (la1 p0 p1 fa) [(.int p1), (.int p0)]) _
  refine XS.icmpYes X0.here hx rfl (pc0 := 6) (pc' := 16) rfl (hb hby d7_6) rfl (tlt (h2 : p0 < p1)).1 (by decide) (by decide) ?_
  show GO p e below s₁ (mkF m 16 (la1 p0 p1 fa) []) _
  refine XS.iloadN X0.here hx rfl (hb hby d7_16) rfl ?_
  show GO p e below s₁ (mkF m 17 (la1 p0 p1 fa) [(.int p0)]) _
  exact retI X0 hx Bd.returns (hb hby d7_17) hr
 ·show Qrm_ckr Z p0 p1 fa h0 n0 _ s₁.heap _
  rw [e0]
  exact ⟨rfl, N0, rfl⟩
def Qrm_oc (Z : State) (p0 : Int32) (p1 : Int32) (h0 : Heap) (n0 : Nat) (v : Option Value) (h : Heap) (L : List Loc) : Prop := v = some (.int p0) ∧ Fr n0 L ∧ h = h0
theorem ef_rm_oc (m : MethodId) (x0 : Int32) (x1 : Int32) : entryFrame m #[(.int x0), (.int x1)] 2 = mkF m 0 #[.val (.int x0), .val (.int x1)] [] := by first | rfl | (simp [entryFrame, mkF, argsToLocals, Value.category]; done)
theorem rm_oc (l : Launch) (Z : State) (a0 : Array Value) (hw : HW Z a0) (ws : List Jvm.Cond) (p0 : Int32) (p1 : Int32) (h0 : Heap) (n0 : Nat) (Z0 : n0 ≤ h0.size) (h1 : ¬ p0 < 0) (h2 : p0 < p1) :
  OwnM l Z h0 (⟨"java/util/Objects", "checkIndex", "(II)I"⟩ : MethodName) (Jvm.Cond.code (⟨"java/util/Objects", "checkIndex", "(II)I"⟩ : MethodName) jdk_31_method_17_code 2 (some .int) :: ws) (RM 1 0 0 14) #[(.int p0), (.int p1)] (Qrm_oc Z p0 p1 h0 n0) := by
 refine MetFree.of_bodySF (plainFor_of_name pn_1) hisR ?_
 intro p e s m args below meth c s₁ Bd hml0 hP hK
 obtain ⟨rfl, hZ, hh⟩ := hP
 have hx := Bd.exec
 have hby := Bd.bytes
 have hml : c.maxLocals = 2 := hml0
 have hown : s.vm.findClass "java/util/Objects" = some m.cls := findClass_of_methodNamed Bd.named
 have hnm := (name_of_methodNamed Bd.named Bd.method).1
 have X0 : Stand p l e (RM 1 0 0 14) s m #[(.int p0), (.int p1)] below meth c s₁ [] 0 0 := Stand.of_body Bd
 have e0 : s₁.heap = h0 := by rw [← hh, Bd.state]; rfl
 have N0 := Fr.nil n0
 have pre0 : ∀ t, GO p e below s₁ (mkF m 0 #[.val (.int p0), .val (.int p1)] []) t → GO p e below s₁ (entryFrame m #[(.int p0), (.int p1)] 2) t := fun t k => castTop (ef_rm_oc m p0 p1) k
 -- pc 3: Preconditions.checkIndex by rm_ckn
 obtain ⟨_, _, ⟨T1, L1, k1, n1⟩, -, X1, ⟨Lc1, hQ1, l1, y1, z1⟩, st1⟩ := Jvm.LawKit.callS X0 hx (y := (⟨kS3, "checkIndex", "(IILjava/util/function/BiFunction;)I"⟩ : MethodName)) hown (mvT hZ (wd hw 40 rfl)) (mvT hZ (wd hw 41 rfl)) (mvT hZ (wd hw 42 rfl)) (mvT hZ (wd hw 43 rfl)) (by decide) (backOf (W := 0) (rm_ckn l Z a0 hw [] p0 p1 h0 n0 Z0 (by first | assumption | decide | omega) (by first | assumption | decide | omega)) hZ (wd hw 43 rfl) (wd hw 42 rfl) (by decide) (by decide)) (g := (mkF m 3 #[.val (.int p0), .val (.int p1)] [.null, (.int p1), (.int p0)])) rfl (by rw [hml]; rfl) (argsL := [(.int p0), (.int p1), .null]) (rest := []) (lenOf pd_0 rfl) rfl (wz rfl) (hb hby d6_3) (fun _ _ => ⟨rfl, e0, (by decide : 0 + 0 ≤ _), (by decide : 0 + 0 ≤ _)⟩)
 dsimp only [Pt.U, Pt.locs, Pt.cells, Pt.slots] at X1 l1 y1 z1 st1 hQ1
 subst l1 y1 z1
 obtain ⟨rfl, N1q, e1⟩ := hQ1
 have N1 := Fr.app N0 N1q
 obtain ⟨fs, hr, hrun, hended, hW, hsame⟩ := X1.leave (v := some (.int p0)) (fun h => by rw [Bd.returns] at h; cases h)
 refine ⟨_, _, pre0 _ ?_, hrun, hended, _, _, rfl, ?_, ⟨_, rfl⟩, hW, hsame.mono (by decide) (by decide)⟩
 ·show GO p e below s₁ (mkF m 0 #[.val (.int p0), .val (.int p1)] []) _
  refine XS.iloadN X0.here hx rfl (hb hby d6_0) rfl ?_
  show GO p e below s₁ (mkF m 1 #[.val (.int p0), .val (.int p1)] [(.int p0)]) _
  refine XS.iloadN X0.here hx rfl (hb hby d6_1) rfl ?_
  show GO p e below s₁ (mkF m 2 #[.val (.int p0), .val (.int p1)] [(.int p1), (.int p0)]) _
  refine XS.aconstNull X0.here hx rfl (hb hby d6_2) ?_
  show GO p e below s₁ (mkF m 3 #[.val (.int p0), .val (.int p1)] [.null, (.int p1), (.int p0)]) _
  refine st1 _ ?_
  show GO p e below T1 (mkF m 6 #[.val (.int p0), .val (.int p1)] [(.int p0)]) _
  exact retI X1 hx Bd.returns (hb hby d6_6) hr
 ·show Qrm_oc Z p0 p1 h0 n0 _ T1.heap _
  rw [e1]
  exact ⟨rfl, N1, rfl⟩
def Qrm_sck (Z : State) (p0 : Int32) (p1 : Int32) (f0 : Value) (h0 : Heap) (n0 : Nat) (v : Option Value) (h : Heap) (L : List Loc) : Prop := v = none ∧ Fr n0 L ∧ h = h0
theorem ef_rm_sck (m : MethodId) (x0 : Int32) (x1 : Int32) : entryFrame m #[(.int x0), (.int x1)] 2 = mkF m 0 #[.val (.int x0), .val (.int x1)] [] := by first | rfl | (simp [entryFrame, mkF, argsToLocals, Value.category]; done)
theorem rm_sck (l : Launch) (Z : State) (a0 : Array Value) (hw : HW Z a0) (ws : List Jvm.Cond) (p0 : Int32) (p1 : Int32) (f0 : Value) (h0 : Heap) (n0 : Nat) (Z0 : n0 ≤ h0.size) (O0 : Old Z n0 h0) (SZf : Sta Z Z.heap kS3 "SIOOBE_FORMATTER" "Ljava/util/function/BiFunction;" f0) (rf0 : f0.isRef = true) (h1 : ¬ p0 < 0) (h2 : p0 < p1) :
  OwnM l Z h0 (⟨kS0, "checkIndex", "(II)V"⟩ : MethodName) (Jvm.Cond.code (⟨kS0, "checkIndex", "(II)V"⟩ : MethodName) jdk_42_method_155_code 2 none :: ws) (RM 1 0 0 14) #[(.int p0), (.int p1)] (Qrm_sck Z p0 p1 f0 h0 n0) := by
 refine MetFree.of_bodySF (plainFor_of_name pn_2) hisR ?_
 intro p e s m args below meth c s₁ Bd hml0 hP hK
 obtain ⟨rfl, hZ, hh⟩ := hP
 have hx := Bd.exec
 have hby := Bd.bytes
 have hml : c.maxLocals = 2 := hml0
 have hown : s.vm.findClass kS0 = some m.cls := findClass_of_methodNamed Bd.named
 have hnm := (name_of_methodNamed Bd.named Bd.method).1
 have X0 : Stand p l e (RM 1 0 0 14) s m #[(.int p0), (.int p1)] below meth c s₁ [] 0 0 := Stand.of_body Bd
 have e0 : s₁.heap = h0 := by rw [← hh, Bd.state]; rfl
 have N0 := Fr.nil n0
 have pre0 : ∀ t, GO p e below s₁ (mkF m 0 #[.val (.int p0), .val (.int p1)] []) t → GO p e below s₁ (entryFrame m #[(.int p0), (.int p1)] 2) t := fun t k => castTop (ef_rm_sck m p0 p1) k
 rcases own_ref rf0 with rfl | ⟨fa, rfl⟩
 ·have S2 : Sta Z h0 kS3 "SIOOBE_FORMATTER" "Ljava/util/function/BiFunction;" .null := SZf.ext O0.2
  obtain ⟨T3, X3, e3, st3⟩ := getS2 X0 hx hZ hown (host := "") (Or.inl (wd hw 56 rfl)) Via.refl e0 S2 (g := (mkF m 2 #[.val (.int p0), .val (.int p1)] [(.int p1), (.int p0)])) rfl (hb hby d28_2)
  -- pc 5: Preconditions.checkIndex by rm_ckn
  obtain ⟨_, _, ⟨T4, L4, k4, n4⟩, -, X4, ⟨Lc4, hQ4, l4, y4, z4⟩, st4⟩ := Jvm.LawKit.callS X3 hx (y := (⟨kS3, "checkIndex", "(IILjava/util/function/BiFunction;)I"⟩ : MethodName)) hown (mvT hZ (wd hw 135 rfl)) (mvT hZ (wd hw 41 rfl)) (mvT hZ (wd hw 42 rfl)) (mvT hZ (wd hw 43 rfl)) (by decide) (backOf (W := 0) (rm_ckn l Z a0 hw [] p0 p1 h0 n0 Z0 (by first | assumption | decide | omega) (by first | assumption | decide | omega)) hZ (wd hw 43 rfl) (wd hw 42 rfl) (by decide) (by decide)) (g := (mkF m 5 #[.val (.int p0), .val (.int p1)] [.null, (.int p1), (.int p0)])) rfl (by rw [hml]; rfl) (argsL := [(.int p0), (.int p1), .null]) (rest := []) (lenOf pd_0 rfl) rfl (wz rfl) (hb hby d28_5) (fun _ _ => ⟨rfl, e3, (by decide : 0 + 0 ≤ _), (by decide : 0 + 0 ≤ _)⟩)
  dsimp only [Pt.U, Pt.locs, Pt.cells, Pt.slots] at X4 l4 y4 z4 st4 hQ4
  subst l4 y4 z4
  obtain ⟨rfl, N4q, e4⟩ := hQ4
  have N4 := Fr.app N0 N4q
  obtain ⟨fs, hr, hrun, hended, hW, hsame⟩ := X4.leave (v := none) (fun _ => rfl)
  refine ⟨_, _, pre0 _ ?_, hrun, hended, _, _, rfl, ?_, ⟨_, rfl⟩, hW, hsame.mono (by decide) (by decide)⟩
  ·show GO p e below s₁ (mkF m 0 #[.val (.int p0), .val (.int p1)] []) _
   refine XS.iloadN X0.here hx rfl (hb hby d28_0) rfl ?_
   show GO p e below s₁ (mkF m 1 #[.val (.int p0), .val (.int p1)] [(.int p0)]) _
   refine XS.iloadN X0.here hx rfl (hb hby d28_1) rfl ?_
   show GO p e below s₁ (mkF m 2 #[.val (.int p0), .val (.int p1)] [(.int p1), (.int p0)]) _
   refine st3 _ ?_
   show GO p e below T3 (mkF m 5 #[.val (.int p0), .val (.int p1)] [.null, (.int p1), (.int p0)]) _
   refine st4 _ ?_
   show GO p e below T4 (mkF m 8 #[.val (.int p0), .val (.int p1)] [(.int p0)]) _
   refine XS.pop X4.here hx rfl (hb hby d28_8) rfl rfl ?_
   show GO p e below T4 (mkF m 9 #[.val (.int p0), .val (.int p1)] []) _
   exact X4.returnOut hx Bd.returns (hb hby d28_9) hr
  ·show Qrm_sck Z p0 p1 .null h0 n0 _ T4.heap _
   rw [e4]
   exact ⟨rfl, N4, rfl⟩
 ·have S5 : Sta Z h0 kS3 "SIOOBE_FORMATTER" "Ljava/util/function/BiFunction;" (.ref fa) := SZf.ext O0.2
  obtain ⟨T6, X6, e6, st6⟩ := getS2 X0 hx hZ hown (host := "") (Or.inl (wd hw 56 rfl)) Via.refl e0 S5 (g := (mkF m 2 #[.val (.int p0), .val (.int p1)] [(.int p1), (.int p0)])) rfl (hb hby d28_2)
  -- pc 5: Preconditions.checkIndex by rm_ckr
  obtain ⟨_, _, ⟨T7, L7, k7, n7⟩, -, X7, ⟨Lc7, hQ7, l7, y7, z7⟩, st7⟩ := Jvm.LawKit.callS X6 hx (y := (⟨kS3, "checkIndex", "(IILjava/util/function/BiFunction;)I"⟩ : MethodName)) hown (mvT hZ (wd hw 135 rfl)) (mvT hZ (wd hw 41 rfl)) (mvT hZ (wd hw 42 rfl)) (mvT hZ (wd hw 43 rfl)) (by decide) (backOf (W := 0) (rm_ckr l Z a0 hw [] p0 p1 fa h0 n0 Z0 (by first | assumption | decide | omega) (by first | assumption | decide | omega)) hZ (wd hw 43 rfl) (wd hw 42 rfl) (by decide) (by decide)) (g := (mkF m 5 #[.val (.int p0), .val (.int p1)] [(.ref fa), (.int p1), (.int p0)])) rfl (by rw [hml]; rfl) (argsL := [(.int p0), (.int p1), (.ref fa)]) (rest := []) (lenOf pd_0 rfl) rfl (wz rfl) (hb hby d28_5) (fun _ _ => ⟨rfl, e6, (by decide : 0 + 0 ≤ _), (by decide : 0 + 0 ≤ _)⟩)
  dsimp only [Pt.U, Pt.locs, Pt.cells, Pt.slots] at X7 l7 y7 z7 st7 hQ7
  subst l7 y7 z7
  obtain ⟨rfl, N7q, e7⟩ := hQ7
  have N7 := Fr.app N0 N7q
  obtain ⟨fs, hr, hrun, hended, hW, hsame⟩ := X7.leave (v := none) (fun _ => rfl)
  refine ⟨_, _, pre0 _ ?_, hrun, hended, _, _, rfl, ?_, ⟨_, rfl⟩, hW, hsame.mono (by decide) (by decide)⟩
  ·show GO p e below s₁ (mkF m 0 #[.val (.int p0), .val (.int p1)] []) _
   refine XS.iloadN X0.here hx rfl (hb hby d28_0) rfl ?_
   show GO p e below s₁ (mkF m 1 #[.val (.int p0), .val (.int p1)] [(.int p0)]) _
   refine XS.iloadN X0.here hx rfl (hb hby d28_1) rfl ?_
   show GO p e below s₁ (mkF m 2 #[.val (.int p0), .val (.int p1)] [(.int p1), (.int p0)]) _
   refine st6 _ ?_
   show GO p e below T6 (mkF m 5 #[.val (.int p0), .val (.int p1)] [(.ref fa), (.int p1), (.int p0)]) _
   refine st7 _ ?_
   show GO p e below T7 (mkF m 8 #[.val (.int p0), .val (.int p1)] [(.int p0)]) _
   refine XS.pop X7.here hx rfl (hb hby d28_8) rfl rfl ?_
   show GO p e below T7 (mkF m 9 #[.val (.int p0), .val (.int p1)] []) _
   exact X7.returnOut hx Bd.returns (hb hby d28_9) hr
  ·show Qrm_sck Z p0 p1 (.ref fa) h0 n0 _ T7.heap _
   rw [e7]
   exact ⟨rfl, N7, rfl⟩
def Qrm_cfn (Z : State) (p0 : Int32) (p1 : Int32) (p2 : Int32) (h0 : Heap) (n0 : Nat) (v : Option Value) (h : Heap) (L : List Loc) : Prop := v = some (.int p0) ∧ Fr n0 L ∧ h = h0
theorem ef_rm_cfn (m : MethodId) (x0 : Int32) (x1 : Int32) (x2 : Int32) : entryFrame m #[(.int x0), (.int x1), (.int x2), .null] 4 = mkF m 0 (la2 x0 x1 x2) [] := by first | rfl | (simp [entryFrame, mkF, argsToLocals, Value.category]; done)
theorem rm_cfn (l : Launch) (Z : State) (a0 : Array Value) (hw : HW Z a0) (ws : List Jvm.Cond) (p0 : Int32) (p1 : Int32) (p2 : Int32) (h0 : Heap) (n0 : Nat) (Z0 : n0 ≤ h0.size) (h1 : ¬ ((p2 ||| p0) ||| p1) < 0) (h2 : ¬ (p2 - p0) < p1) :
  OwnM l Z h0 (⟨kS3, "checkFromIndexSize", "(IIILjava/util/function/BiFunction;)I"⟩ : MethodName) (Jvm.Cond.code (⟨kS3, "checkFromIndexSize", "(IIILjava/util/function/BiFunction;)I"⟩ : MethodName) jdk_41_method_13_code 4 (some .int) :: ws) (RM 0 0 0 0) #[(.int p0), (.int p1), (.int p2), .null] (Qrm_cfn Z p0 p1 p2 h0 n0) := by
 refine MetFree.of_bodySF (plainFor_of_name pn_0) hisR ?_
 intro p e s m args below meth c s₁ Bd hml0 hP hK
 obtain ⟨rfl, hZ, hh⟩ := hP
 have hx := Bd.exec
 have hby := Bd.bytes
 have hml : c.maxLocals = 4 := hml0
 have hown : s.vm.findClass kS3 = some m.cls := findClass_of_methodNamed Bd.named
 have hnm := (name_of_methodNamed Bd.named Bd.method).1
 have X0 : Stand p l e (RM 0 0 0 0) s m #[(.int p0), (.int p1), (.int p2), .null] below meth c s₁ [] 0 0 := Stand.of_body Bd
 have e0 : s₁.heap = h0 := by rw [← hh, Bd.state]; rfl
 have N0 := Fr.nil n0
 have pre0 : ∀ t, GO p e below s₁ (mkF m 0 (la2 p0 p1 p2) []) t → GO p e below s₁ (entryFrame m #[(.int p0), (.int p1), (.int p2), .null] 4) t := fun t k => castTop (ef_rm_cfn m p0 p1 p2) k
 obtain ⟨fs, hr, hrun, hended, hW, hsame⟩ := X0.leave (v := some (.int p0)) (fun h => by rw [Bd.returns] at h; cases h)
 refine ⟨_, _, pre0 _ ?_, hrun, hended, _, _, rfl, ?_, ⟨_, rfl⟩, hW, hsame.mono (by decide) (by decide)⟩
 ·show GO p e below s₁ (mkF m 0 (la2 p0 p1 p2) []) _
  refine XS.iloadN X0.here hx rfl (hb hby d11_0) rfl ?_
  show GO p e below s₁ (mkF m 1 (la2 p0 p1 p2) [(.int p2)]) _
  refine XS.iloadN X0.here hx rfl (hb hby d11_1) rfl ?_
  show GO p e below s₁ (mkF m 2 (la2 p0 p1 p2) [(.int p0), (.int p2)]) _
  refine XS.ior X0.here hx rfl (hb hby d11_2) rfl ?_
  show GO p e below s₁ (mkF m 3 (la2 p0 p1 p2) [(.int (p2 ||| p0))]) _
  refine XS.iloadN X0.here hx rfl (hb hby d11_3) rfl ?_
  show GO p e below s₁ (mkF m 4 (la2 p0 p1 p2) [(.int p1), (.int (p2 ||| p0))]) _
  refine XS.ior X0.here hx rfl (hb hby d11_4) rfl ?_
  show GO p e below s₁ (mkF m 5 (la2 p0 p1 p2) [(.int ((p2 ||| p0) ||| p1))]) _
  refine XS.ifNo X0.here hx rfl (hb hby d11_5) rfl ((if0 _ _).trans (flt (h1 : ¬ (((p2 ||| p0) ||| p1) < (0 : Int32)))).1) ?_
  show GO p e below s₁ (mkF m 8 (la2 p0 p1 p2) []) _
  refine XS.iloadN X0.here hx rfl (hb hby d11_8) rfl ?_
  show GO p e below s₁ (mkF m 9 (la2 p0 p1 p2) [(.int p1)]) _
  refine XS.iloadN X0.here hx rfl (hb hby d11_9) rfl ?_
  show GO p e below s₁ (mkF m 10 (la2 p0 p1 p2) [(.int p2), (.int p1)]) _
  refine XS.iloadN X0.here hx rfl (hb hby d11_10) rfl ?_
  show GO p e below s₁ (mkF m 11 (la2 p0 p1 p2) [(.int p0), (.int p2), (.int p1)]) _
  refine XS.isub X0.here hx rfl (hb hby d11_11) rfl ?_
  show GO p e below s₁ (mkF m 12 (la2 p0 p1 p2) [(.int (p2 - p0)), (.int p1)]) _
  refine XS.icmpYes X0.here hx rfl (pc0 := 12) (pc' := 23) rfl (hb hby d11_12) rfl (flt (h2 : ¬ ((p2 - p0) < p1))).2.2.2 (by decide) (by decide) ?_
  show GO p e below s₁ (mkF m 23 (la2 p0 p1 p2) []) _
  refine XS.iloadN X0.here hx rfl (hb hby d11_23) rfl ?_
  show GO p e below s₁ (mkF m 24 (la2 p0 p1 p2) [(.int p0)]) _
  exact retI X0 hx Bd.returns (hb hby d11_24) hr
 ·show Qrm_cfn Z p0 p1 p2 h0 n0 _ s₁.heap _
  rw [e0]
  exact ⟨rfl, N0, rfl⟩
def Qrm_cfr (Z : State) (p0 : Int32) (p1 : Int32) (p2 : Int32) (fa : Addr) (h0 : Heap) (n0 : Nat) (v : Option Value) (h : Heap) (L : List Loc) : Prop := v = some (.int p0) ∧ Fr n0 L ∧ h = h0
theorem ef_rm_cfr (m : MethodId) (x0 : Int32) (x1 : Int32) (x2 : Int32) (x3 : Addr) : entryFrame m #[(.int x0), (.int x1), (.int x2), (.ref x3)] 4 = mkF m 0 (la3 x0 x1 x2 x3) [] := by first | rfl | (simp [entryFrame, mkF, argsToLocals, Value.category]; done)
theorem rm_cfr (l : Launch) (Z : State) (a0 : Array Value) (hw : HW Z a0) (ws : List Jvm.Cond) (p0 : Int32) (p1 : Int32) (p2 : Int32) (fa : Addr) (h0 : Heap) (n0 : Nat) (Z0 : n0 ≤ h0.size) (h1 : ¬ ((p2 ||| p0) ||| p1) < 0) (h2 : ¬ (p2 - p0) < p1) :
  OwnM l Z h0 (⟨kS3, "checkFromIndexSize", "(IIILjava/util/function/BiFunction;)I"⟩ : MethodName) (Jvm.Cond.code (⟨kS3, "checkFromIndexSize", "(IIILjava/util/function/BiFunction;)I"⟩ : MethodName) jdk_41_method_13_code 4 (some .int) :: ws) (RM 0 0 0 0) #[(.int p0), (.int p1), (.int p2), (.ref fa)] (Qrm_cfr Z p0 p1 p2 fa h0 n0) := by
 refine MetFree.of_bodySF (plainFor_of_name pn_0) hisR ?_
 intro p e s m args below meth c s₁ Bd hml0 hP hK
 obtain ⟨rfl, hZ, hh⟩ := hP
 have hx := Bd.exec
 have hby := Bd.bytes
 have hml : c.maxLocals = 4 := hml0
 have hown : s.vm.findClass kS3 = some m.cls := findClass_of_methodNamed Bd.named
 have hnm := (name_of_methodNamed Bd.named Bd.method).1
 have X0 : Stand p l e (RM 0 0 0 0) s m #[(.int p0), (.int p1), (.int p2), (.ref fa)] below meth c s₁ [] 0 0 := Stand.of_body Bd
 have e0 : s₁.heap = h0 := by rw [← hh, Bd.state]; rfl
 have N0 := Fr.nil n0
 have pre0 : ∀ t, GO p e below s₁ (mkF m 0 (la3 p0 p1 p2 fa) []) t → GO p e below s₁ (entryFrame m #[(.int p0), (.int p1), (.int p2), (.ref fa)] 4) t := fun t k => castTop (ef_rm_cfr m p0 p1 p2 fa) k
 obtain ⟨fs, hr, hrun, hended, hW, hsame⟩ := X0.leave (v := some (.int p0)) (fun h => by rw [Bd.returns] at h; cases h)
 refine ⟨_, _, pre0 _ ?_, hrun, hended, _, _, rfl, ?_, ⟨_, rfl⟩, hW, hsame.mono (by decide) (by decide)⟩
 ·show GO p e below s₁ (mkF m 0 (la3 p0 p1 p2 fa) []) _
  refine XS.iloadN X0.here hx rfl (hb hby d11_0) rfl ?_
  show GO p e below s₁ (mkF m 1 (la3 p0 p1 p2 fa) [(.int p2)]) _
  refine XS.iloadN X0.here hx rfl (hb hby d11_1) rfl ?_
  show GO p e below s₁ (mkF m 2 (la3 p0 p1 p2 fa) [(.int p0), (.int p2)]) _
  refine XS.ior X0.here hx rfl (hb hby d11_2) rfl ?_
  show GO p e below s₁ (mkF m 3 (la3 p0 p1 p2 fa) [(.int (p2 ||| p0))]) _
  refine XS.iloadN X0.here hx rfl (hb hby d11_3) rfl ?_
  show GO p e below s₁ (mkF m 4 (la3 p0 p1 p2 fa) [(.int p1), (.int (p2 ||| p0))]) _
  refine XS.ior X0.here hx rfl (hb hby d11_4) rfl ?_
  show GO p e below s₁ (mkF m 5 (la3 p0 p1 p2 fa) [(.int ((p2 ||| p0) ||| p1))]) _
  refine XS.ifNo X0.here hx rfl (hb hby d11_5) rfl ((if0 _ _).trans (flt (h1 : ¬ (((p2 ||| p0) ||| p1) < (0 : Int32)))).1) ?_
  show GO p e below s₁ (mkF m 8 (la3 p0 p1 p2 fa) []) _
  refine XS.iloadN X0.here hx rfl (hb hby d11_8) rfl ?_
  show GO p e below s₁ (mkF m 9 (la3 p0 p1 p2 fa) [(.int p1)]) _
  refine XS.iloadN X0.here hx rfl (hb hby d11_9) rfl ?_
  show GO p e below s₁ (mkF m 10 (la3 p0 p1 p2 fa) [(.int p2), (.int p1)]) _
  refine XS.iloadN X0.here hx rfl (hb hby d11_10) rfl ?_
  show GO p e below s₁ (mkF m 11 (la3 p0 p1 p2 fa) [(.int p0), (.int p2), (.int p1)]) _
  refine XS.isub X0.here hx rfl (hb hby d11_11) rfl ?_
  show GO p e below s₁ (mkF m 12 (la3 p0 p1 p2 fa) [(.int (p2 - p0)), (.int p1)]) _
  refine XS.icmpYes X0.here hx rfl (pc0 := 12) (pc' := 23) rfl (hb hby d11_12) rfl (flt (h2 : ¬ ((p2 - p0) < p1))).2.2.2 (by decide) (by decide) ?_
  show GO p e below s₁ (mkF m 23 (la3 p0 p1 p2 fa) []) _
  refine XS.iloadN X0.here hx rfl (hb hby d11_23) rfl ?_
  show GO p e below s₁ (mkF m 24 (la3 p0 p1 p2 fa) [(.int p0)]) _
  exact retI X0 hx Bd.returns (hb hby d11_24) hr
 ·show Qrm_cfr Z p0 p1 p2 fa h0 n0 _ s₁.heap _
  rw [e0]
  exact ⟨rfl, N0, rfl⟩
def Qrm_cb (Z : State) (p0 : Int32) (p1 : Int32) (p2 : Int32) (f0 : Value) (h0 : Heap) (n0 : Nat) (v : Option Value) (h : Heap) (L : List Loc) : Prop := v = some (.int p0) ∧ Fr n0 L ∧ h = h0
theorem ef_rm_cb (m : MethodId) (x0 : Int32) (x1 : Int32) (x2 : Int32) : entryFrame m #[(.int x0), (.int x1), (.int x2)] 3 = mkF m 0 (la4 x0 x1 x2) [] := by first | rfl | (simp [entryFrame, mkF, argsToLocals, Value.category]; done)
theorem rm_cb (l : Launch) (Z : State) (a0 : Array Value) (hw : HW Z a0) (ws : List Jvm.Cond) (p0 : Int32) (p1 : Int32) (p2 : Int32) (f0 : Value) (h0 : Heap) (n0 : Nat) (Z0 : n0 ≤ h0.size) (O0 : Old Z n0 h0) (SZf : Sta Z Z.heap kS3 "SIOOBE_FORMATTER" "Ljava/util/function/BiFunction;" f0) (rf0 : f0.isRef = true) (h1 : ¬ ((p2 ||| p0) ||| p1) < 0) (h2 : ¬ (p2 - p0) < p1) :
  OwnM l Z h0 (⟨kS0, "checkBoundsOffCount", "(III)I"⟩ : MethodName) (Jvm.Cond.code (⟨kS0, "checkBoundsOffCount", "(III)I"⟩ : MethodName) jdk_42_method_157_code 3 (some .int) :: ws) (RM 1 0 0 15) #[(.int p0), (.int p1), (.int p2)] (Qrm_cb Z p0 p1 p2 f0 h0 n0) := by
 refine MetFree.of_bodySF (plainFor_of_name pn_2) hisR ?_
 intro p e s m args below meth c s₁ Bd hml0 hP hK
 obtain ⟨rfl, hZ, hh⟩ := hP
 have hx := Bd.exec
 have hby := Bd.bytes
 have hml : c.maxLocals = 3 := hml0
 have hown : s.vm.findClass kS0 = some m.cls := findClass_of_methodNamed Bd.named
 have hnm := (name_of_methodNamed Bd.named Bd.method).1
 have X0 : Stand p l e (RM 1 0 0 15) s m #[(.int p0), (.int p1), (.int p2)] below meth c s₁ [] 0 0 := Stand.of_body Bd
 have e0 : s₁.heap = h0 := by rw [← hh, Bd.state]; rfl
 have N0 := Fr.nil n0
 have pre0 : ∀ t, GO p e below s₁ (mkF m 0 (la4 p0 p1 p2) []) t → GO p e below s₁ (entryFrame m #[(.int p0), (.int p1), (.int p2)] 3) t := fun t k => castTop (ef_rm_cb m p0 p1 p2) k
 rcases own_ref rf0 with rfl | ⟨fa, rfl⟩
 ·have S8 : Sta Z h0 kS3 "SIOOBE_FORMATTER" "Ljava/util/function/BiFunction;" .null := SZf.ext O0.2
  obtain ⟨T9, X9, e9, st9⟩ := getS2 X0 hx hZ hown (host := "") (Or.inl (wd hw 56 rfl)) Via.refl e0 S8 (g := (mkF m 3 (la4 p0 p1 p2) [(.int p2), (.int p1), (.int p0)])) rfl (hb hby d10_3)
  -- pc 6: Preconditions.checkFromIndexSize by rm_cfn
  obtain ⟨_, _, ⟨T10, L10, k10, n10⟩, -, X10, ⟨Lc10, hQ10, l10, y10, z10⟩, st10⟩ := Jvm.LawKit.callS X9 hx (y := (⟨kS3, "checkFromIndexSize", "(IIILjava/util/function/BiFunction;)I"⟩ : MethodName)) hown (mvT hZ (wd hw 57 rfl)) (mvT hZ (wd hw 58 rfl)) (mvT hZ (wd hw 42 rfl)) (mvT hZ (wd hw 59 rfl)) (by decide) (backOf (W := 0) (rm_cfn l Z a0 hw [] p0 p1 p2 h0 n0 Z0 (by first | assumption | decide | omega) (by first | assumption | decide | omega)) hZ (wd hw 59 rfl) (wd hw 42 rfl) (by decide) (by decide)) (g := (mkF m 6 (la4 p0 p1 p2) [.null, (.int p2), (.int p1), (.int p0)])) rfl (by rw [hml]; rfl) (argsL := [(.int p0), (.int p1), (.int p2), .null]) (rest := []) (lenOf pd_1 rfl) rfl (wz rfl) (hb hby d10_6) (fun _ _ => ⟨rfl, e9, (by decide : 0 + 0 ≤ _), (by decide : 0 + 0 ≤ _)⟩)
  dsimp only [Pt.U, Pt.locs, Pt.cells, Pt.slots] at X10 l10 y10 z10 st10 hQ10
  subst l10 y10 z10
  obtain ⟨rfl, N10q, e10⟩ := hQ10
  have N10 := Fr.app N0 N10q
  obtain ⟨fs, hr, hrun, hended, hW, hsame⟩ := X10.leave (v := some (.int p0)) (fun h => by rw [Bd.returns] at h; cases h)
  refine ⟨_, _, pre0 _ ?_, hrun, hended, _, _, rfl, ?_, ⟨_, rfl⟩, hW, hsame.mono (by decide) (by decide)⟩
  ·show GO p e below s₁ (mkF m 0 (la4 p0 p1 p2) []) _
   refine XS.iloadN X0.here hx rfl (hb hby d10_0) rfl ?_
   show GO p e below s₁ (mkF m 1 (la4 p0 p1 p2) [(.int p0)]) _
   refine XS.iloadN X0.here hx rfl (hb hby d10_1) rfl ?_
   show GO p e below s₁ (mkF m 2 (la4 p0 p1 p2) [(.int p1), (.int p0)]) _
   refine XS.iloadN X0.here hx rfl (hb hby d10_2) rfl ?_
   show GO p e below s₁ (mkF m 3 (la4 p0 p1 p2) [(.int p2), (.int p1), (.int p0)]) _
   refine st9 _ ?_
   show GO p e below T9 (mkF m 6 (la4 p0 p1 p2) [.null, (.int p2), (.int p1), (.int p0)]) _
   refine st10 _ ?_
   show GO p e below T10 (mkF m 9 (la4 p0 p1 p2) [(.int p0)]) _
   exact retI X10 hx Bd.returns (hb hby d10_9) hr
  ·show Qrm_cb Z p0 p1 p2 .null h0 n0 _ T10.heap _
   rw [e10]
   exact ⟨rfl, N10, rfl⟩
 ·have S11 : Sta Z h0 kS3 "SIOOBE_FORMATTER" "Ljava/util/function/BiFunction;" (.ref fa) := SZf.ext O0.2
  obtain ⟨T12, X12, e12, st12⟩ := getS2 X0 hx hZ hown (host := "") (Or.inl (wd hw 56 rfl)) Via.refl e0 S11 (g := (mkF m 3 (la4 p0 p1 p2) [(.int p2), (.int p1), (.int p0)])) rfl (hb hby d10_3)
  -- pc 6: Preconditions.checkFromIndexSize by rm_cfr
  obtain ⟨_, _, ⟨T13, L13, k13, n13⟩, -, X13, ⟨Lc13, hQ13, l13, y13, z13⟩, st13⟩ := Jvm.LawKit.callS X12 hx (y := (⟨kS3, "checkFromIndexSize", "(IIILjava/util/function/BiFunction;)I"⟩ : MethodName)) hown (mvT hZ (wd hw 57 rfl)) (mvT hZ (wd hw 58 rfl)) (mvT hZ (wd hw 42 rfl)) (mvT hZ (wd hw 59 rfl)) (by decide) (backOf (W := 0) (rm_cfr l Z a0 hw [] p0 p1 p2 fa h0 n0 Z0 (by first | assumption | decide | omega) (by first | assumption | decide | omega)) hZ (wd hw 59 rfl) (wd hw 42 rfl) (by decide) (by decide)) (g := (mkF m 6 (la4 p0 p1 p2) [(.ref fa), (.int p2), (.int p1), (.int p0)])) rfl (by rw [hml]; rfl) (argsL := [(.int p0), (.int p1), (.int p2), (.ref fa)]) (rest := []) (lenOf pd_1 rfl) rfl (wz rfl) (hb hby d10_6) (fun _ _ => ⟨rfl, e12, (by decide : 0 + 0 ≤ _), (by decide : 0 + 0 ≤ _)⟩)
  dsimp only [Pt.U, Pt.locs, Pt.cells, Pt.slots] at X13 l13 y13 z13 st13 hQ13
  subst l13 y13 z13
  obtain ⟨rfl, N13q, e13⟩ := hQ13
  have N13 := Fr.app N0 N13q
  obtain ⟨fs, hr, hrun, hended, hW, hsame⟩ := X13.leave (v := some (.int p0)) (fun h => by rw [Bd.returns] at h; cases h)
  refine ⟨_, _, pre0 _ ?_, hrun, hended, _, _, rfl, ?_, ⟨_, rfl⟩, hW, hsame.mono (by decide) (by decide)⟩
  ·show GO p e below s₁ (mkF m 0 (la4 p0 p1 p2) []) _
   refine XS.iloadN X0.here hx rfl (hb hby d10_0) rfl ?_
   show GO p e below s₁ (mkF m 1 (la4 p0 p1 p2) [(.int p0)]) _
   refine XS.iloadN X0.here hx rfl (hb hby d10_1) rfl ?_
   show GO p e below s₁ (mkF m 2 (la4 p0 p1 p2) [(.int p1), (.int p0)]) _
   refine XS.iloadN X0.here hx rfl (hb hby d10_2) rfl ?_
   show GO p e below s₁ (mkF m 3 (la4 p0 p1 p2) [(.int p2), (.int p1), (.int p0)]) _
   refine st12 _ ?_
   show GO p e below T12 (mkF m 6 (la4 p0 p1 p2) [(.ref fa), (.int p2), (.int p1), (.int p0)]) _
   refine st13 _ ?_
   show GO p e below T13 (mkF m 9 (la4 p0 p1 p2) [(.int p0)]) _
   exact retI X13 hx Bd.returns (hb hby d10_9) hr
  ·show Qrm_cb Z p0 p1 p2 (.ref fa) h0 n0 _ T13.heap _
   rw [e13]
   exact ⟨rfl, N13, rfl⟩
def Qrm_rc (Z : State) (a2 : Addr) (k2 : ClassId) (vs2 : List Value) (p0 : Int32) (p1 : Int32) (p2 : Int32) (f0 : Value) (h0 : Heap) (n0 : Nat) (v : Option Value) (h : Heap) (L : List Loc) : Prop := v = some .null ∧ Fr n0 L ∧ h = h0
theorem ef_rm_rc (m : MethodId) (x0 : Addr) (x1 : Int32) (x2 : Int32) : entryFrame m #[(.ref x0), (.int x1), (.int x2)] 3 = mkF m 0 (la5 x0 x1 x2) [] := by first | rfl | (simp [entryFrame, mkF, argsToLocals, Value.category]; done)
theorem rm_rc (l : Launch) (Z : State) (a0 : Array Value) (hw : HW Z a0) (ws : List Jvm.Cond) (a2 : Addr) (k2 : ClassId) (vs2 : List Value) (p0 : Int32) (p1 : Int32) (p2 : Int32) (f0 : Value) (h0 : Heap) (n0 : Nat) (Z0 : n0 ≤ h0.size) (O0 : Old Z n0 h0) (V2 : Arv Z h0 a2 k2 .char p2 vs2 (.int 0)) (SZf : Sta Z Z.heap kS3 "SIOOBE_FORMATTER" "Ljava/util/function/BiFunction;" f0) (rf0 : f0.isRef = true) (h1 : ¬ ((p2 ||| p0) ||| p1) < 0) (h2 : ¬ (p2 - p0) < p1) :
  OwnM l Z h0 (⟨kS0, "rangeCheck", "([CII)Ljava/lang/Void;"⟩ : MethodName) (Jvm.Cond.code (⟨kS0, "rangeCheck", "([CII)Ljava/lang/Void;"⟩ : MethodName) jdk_42_method_5_code 3 (some (.object "java/lang/Void")) :: ws) (RM 2 0 0 29) #[(.ref a2), (.int p0), (.int p1)] (Qrm_rc Z a2 k2 vs2 p0 p1 p2 f0 h0 n0) := by
 refine MetFree.of_bodySF (plainFor_of_name pn_2) hisR ?_
 intro p e s m args below meth c s₁ Bd hml0 hP hK
 obtain ⟨rfl, hZ, hh⟩ := hP
 have hx := Bd.exec
 have hby := Bd.bytes
 have hml : c.maxLocals = 3 := hml0
 have hown : s.vm.findClass kS0 = some m.cls := findClass_of_methodNamed Bd.named
 have hnm := (name_of_methodNamed Bd.named Bd.method).1
 have X0 : Stand p l e (RM 2 0 0 29) s m #[(.ref a2), (.int p0), (.int p1)] below meth c s₁ [] 0 0 := Stand.of_body Bd
 have e0 : s₁.heap = h0 := by rw [← hh, Bd.state]; rfl
 have N0 := Fr.nil n0
 have pre0 : ∀ t, GO p e below s₁ (mkF m 0 (la5 a2 p0 p1) []) t → GO p e below s₁ (entryFrame m #[(.ref a2), (.int p0), (.int p1)] 3) t := fun t k => castTop (ef_rm_rc m a2 p0 p1) k
 have lt_V2 := ltA V2.lt
 obtain ⟨cl14, Ar14, -, S14, M14, -, -⟩ := id V2
 -- pc 4: String.checkBoundsOffCount by rm_cb
 obtain ⟨_, _, ⟨T15, L15, k15, n15⟩, -, X15, ⟨Lc15, hQ15, l15, y15, z15⟩, st15⟩ := Jvm.LawKit.callS X0 hx (y := (⟨kS0, "checkBoundsOffCount", "(III)I"⟩ : MethodName)) hown (mvT hZ (wd hw 53 rfl)) (mvT hZ (wd hw 54 rfl)) (mvT hZ (wd hw 46 rfl)) (mvT hZ (wd hw 55 rfl)) (by decide) (backOf (W := 0) (rm_cb l Z a0 hw [] p0 p1 p2 f0 h0 n0 Z0 O0 (by first | assumption | decide | omega) (by first | assumption | decide | omega) (by first | assumption | decide | omega) (by first | assumption | decide | omega)) hZ (wd hw 55 rfl) (wd hw 46 rfl) (by decide) (by decide)) (g := (mkF m 4 (la5 a2 p0 p1) [(.int p2), (.int p1), (.int p0)])) rfl (by rw [hml]; rfl) (argsL := [(.int p0), (.int p1), (.int p2)]) (rest := []) (lenOf pd_2 rfl) rfl (wz rfl) (hb hby d9_4) (fun _ _ => ⟨rfl, e0, (by decide : 0 + 0 ≤ _), (by decide : 0 + 0 ≤ _)⟩)
 dsimp only [Pt.U, Pt.locs, Pt.cells, Pt.slots] at X15 l15 y15 z15 st15 hQ15
 subst l15 y15 z15
 obtain ⟨rfl, N15q, e15⟩ := hQ15
 have N15 := Fr.app N0 N15q
 obtain ⟨fs, hr, hrun, hended, hW, hsame⟩ := X15.leave (v := some .null) (fun h => by rw [Bd.returns] at h; cases h)
 refine ⟨_, _, pre0 _ ?_, hrun, hended, _, _, rfl, ?_, ⟨_, rfl⟩, hW, hsame.mono (by decide) (by decide)⟩
 ·show GO p e below s₁ (mkF m 0 (la5 a2 p0 p1) []) _
  refine XS.iloadN X0.here hx rfl (hb hby d9_0) rfl ?_
  show GO p e below s₁ (mkF m 1 (la5 a2 p0 p1) [(.int p0)]) _
  refine XS.iloadN X0.here hx rfl (hb hby d9_1) rfl ?_
  show GO p e below s₁ (mkF m 2 (la5 a2 p0 p1) [(.int p1), (.int p0)]) _
  refine XS.aloadN X0.here hx rfl (hb hby d9_2) rfl rfl ?_
  show GO p e below s₁ (mkF m 3 (la5 a2 p0 p1) [(.ref a2), (.int p1), (.int p0)]) _
  refine X0.arraylength hx (by rw [e0]; exact Ar14.1) (State.isArrayOf_alike hZ.alike Ar14.2.1) (g := (mkF m 3 (la5 a2 p0 p1) [(.ref a2), (.int p1), (.int p0)])) rfl rfl (hb hby d9_3) _ ?_
  rw [len_of S14 M14]
  show GO p e below s₁ (mkF m 4 (la5 a2 p0 p1) [(.int p2), (.int p1), (.int p0)]) _
  refine st15 _ ?_
  show GO p e below T15 (mkF m 7 (la5 a2 p0 p1) [(.int p0)]) _
  refine XS.pop X15.here hx rfl (hb hby d9_7) rfl rfl ?_
  show GO p e below T15 (mkF m 8 (la5 a2 p0 p1) []) _
  refine XS.aconstNull X15.here hx rfl (hb hby d9_8) ?_
  show GO p e below T15 (mkF m 9 (la5 a2 p0 p1) [.null]) _
  exact retOut X15 hx Bd.returns rfl (Or.inr (Or.inr (Or.inr (Or.inr ⟨rfl, rfl, rfl⟩)))) (hb hby d9_9) hr
 ·show Qrm_rc Z a2 k2 vs2 p0 p1 p2 f0 h0 n0 _ T15.heap _
  rw [e15]
  exact ⟨rfl, N15, rfl⟩
def Qrm_c5_1L (Z : State) (a2 : Addr) (k2 : ClassId) (vs2 : List Value) (o1 : Int32) (x0 : Int32) (d1 : Addr) (kd : ClassId) (h0 : Heap) (n0 : Nat) (v : Option Value) (h : Heap) (L : List Loc) : Prop := v = some (.int 1) ∧ Fr n0 L ∧ Keep h0 h [d1] ∧ Arv Z h d1 kd .byte (1 : Int32) [(.int (x0.toInt8.toInt32))] (.int 0)
theorem ef_rm_c5_1L (m : MethodId) (x0 : Addr) (x1 : Int32) (x2 : Addr) (x3 : Int32) (x4 : Int32) : entryFrame m #[(.ref x0), (.int x1), (.ref x2), (.int x3), (.int x4)] 7 = mkF m 0 (la6 x0 x1 x2 x3 x4) [] := by first | rfl | (simp [entryFrame, mkF, argsToLocals, Value.category]; done)
theorem rm_c5_1L (l : Launch) (Z : State) (a0 : Array Value) (hw : HW Z a0) (ws : List Jvm.Cond) (a2 : Addr) (k2 : ClassId) (vs2 : List Value) (o1 : Int32) (x0 : Int32) (d1 : Addr) (kd : ClassId) (h0 : Heap) (n0 : Nat) (Z0 : n0 ≤ h0.size) (V2 : Arv Z h0 a2 k2 .char (8 : Int32) vs2 (.int 0)) (Vd : Arv Z h0 d1 kd .byte (1 : Int32) [(.int 0)] (.int 0)) (ob0 : (¬ o1 < 0 ∧ o1 < (8 : Int32))) (hx0 : vs2.getD (o1).toNatClampNeg (.int 0) = (.int x0)) (lb0 : (¬ x0 < 0 ∧ ¬ (65535 : Int32) < x0)) (c0 : ¬ ((255 : Int32) < x0)) (gd : n0 ≤ d1) (ned : a2 ≠ d1) :
  OwnM l Z h0 (⟨kS1, "compress", "([CI[BII)I"⟩ : MethodName) (Jvm.Cond.code (⟨kS1, "compress", "([CI[BII)I"⟩ : MethodName) jdk_52_method_21_code 7 (some .int) :: ws) (RM 0 0 0 0) #[(.ref a2), (.int o1), (.ref d1), (.int 0), (.int 1)] (Qrm_c5_1L Z a2 k2 vs2 o1 x0 d1 kd h0 n0) := by
 refine MetFree.of_bodySF (plainFor_of_name pn_3) hisR ?_
 intro p e s m args below meth c s₁ Bd hml0 hP hK
 obtain ⟨rfl, hZ, hh⟩ := hP
 have hx := Bd.exec
 have hby := Bd.bytes
 have hml : c.maxLocals = 7 := hml0
 have hown : s.vm.findClass kS1 = some m.cls := findClass_of_methodNamed Bd.named
 have hnm := (name_of_methodNamed Bd.named Bd.method).1
 have X0 : Stand p l e (RM 0 0 0 0) s m #[(.ref a2), (.int o1), (.ref d1), (.int 0), (.int 1)] below meth c s₁ [] 0 0 := Stand.of_body Bd
 have e0 : s₁.heap = h0 := by rw [← hh, Bd.state]; rfl
 have N0 := Fr.nil n0
 have pre0 : ∀ t, GO p e below s₁ (mkF m 0 (la6 a2 o1 d1 (0 : Int32) (1 : Int32)) []) t → GO p e below s₁ (entryFrame m #[(.ref a2), (.int o1), (.ref d1), (.int 0), (.int 1)] 7) t := fun t k => castTop (ef_rm_c5_1L m a2 o1 d1 ((0 : Int32)) ((1 : Int32))) k
 have lt_V2 := ltA V2.lt
 have lt_Vd := ltA Vd.lt
 obtain ⟨cl16, Ar16, q16, S16, M16, H16, G16⟩ := id V2
 have hin16 : ¬ (o1 < 0 ∨ cl16.slots.size ≤ (o1).toNatClampNeg) := inb_of S16 ob0
 have hat16 : cl16.slots[(o1).toNatClampNeg]? = some (.int x0) := Has.at H16 hin16 hx0
 obtain ⟨cl17, Ar17, q17, S17, M17, H17, G17⟩ := id Vd
 have hin17 : ¬ ((0 : Int32) < 0 ∨ cl17.slots.size ≤ ((0 : Int32)).toNatClampNeg) := inb_of S17 ⟨by decide, by decide⟩
 obtain ⟨T18, h18, X18, e18, W18, st18⟩ := stB X0 hx hZ e0 Ar17 (j := (0 : Int32)) hin17 (g := (mkF m 31 (la8 a2 o1 d1 (0 : Int32) (1 : Int32) (0 : Int32) x0) [(.int (x0.toInt8.toInt32)), (.int 0), (.ref d1)])) rfl rfl (hb hby d16_31)
 have ge19 : n0 ≤ d1 := by omega
 have N18 := Fr.snoc X18 N0 ge19
 have sz18 : h0.size ≤ h18.size := Nat.le_of_eq W18.size.symm
 have nz18 := Nat.le_trans Z0 sz18
 have V18 : Arv Z h18 d1 kd .byte (1 : Int32) [(.int (nar .byte (x0.toInt8.toInt32)))] (.int 0) := Arv.set Ar17 q17 S17 M17 H17 G17 (fits_nar_byte _) W18 0 rfl (Nat.le_of_ble_eq_true rfl)
 have V20 : Arv Z h18 d1 kd .byte (1 : Int32) [(.int (x0.toInt8.toInt32))] (.int 0) := by
  have q := V18
  rw [own_nb x0] at q
  exact q
 obtain ⟨fs, hr, hrun, hended, hW, hsame⟩ := X18.leave (v := some (.int 1)) (fun h => by rw [Bd.returns] at h; cases h)
 refine ⟨_, _, pre0 _ ?_, hrun, hended, _, _, rfl, ?_, ⟨_, rfl⟩, hW, hsame.mono (by decide) (by decide)⟩
 ·show GO p e below s₁ (mkF m 0 (la6 a2 o1 d1 (0 : Int32) (1 : Int32)) []) _
  refine XS.iconst X0.here hx rfl (hb hby d16_0) ?_
  show GO p e below s₁ (mkF m 1 (la6 a2 o1 d1 (0 : Int32) (1 : Int32)) [(.int 0)]) _
  refine XS.istore X0.here hx rfl (hb hby d16_1) rfl (l' := (la7 a2 o1 d1 (0 : Int32) (1 : Int32) (0 : Int32))) rfl ?_
  show GO p e below s₁ (mkF m 3 (la7 a2 o1 d1 (0 : Int32) (1 : Int32) (0 : Int32)) []) _
  refine XS.iload X0.here hx rfl (hb hby d16_3) rfl ?_
  show GO p e below s₁ (mkF m 5 (la7 a2 o1 d1 (0 : Int32) (1 : Int32) (0 : Int32)) [(.int 0)]) _
  refine XS.iload X0.here hx rfl (hb hby d16_5) rfl ?_
  show GO p e below s₁ (mkF m 7 (la7 a2 o1 d1 (0 : Int32) (1 : Int32) (0 : Int32)) [(.int 1), (.int 0)]) _
  refine XS.icmpNo X0.here hx rfl (hb hby d16_7) rfl (tlt ((by decide) : (0 : Int32) < (1 : Int32))).2.1 ?_
  show GO p e below s₁ (mkF m 10 (la7 a2 o1 d1 (0 : Int32) (1 : Int32) (0 : Int32)) []) _
  refine XS.aloadN X0.here hx rfl (hb hby d16_10) rfl rfl ?_
  show GO p e below s₁ (mkF m 11 (la7 a2 o1 d1 (0 : Int32) (1 : Int32) (0 : Int32)) [(.ref a2)]) _
  refine XS.iloadN X0.here hx rfl (hb hby d16_11) rfl ?_
  show GO p e below s₁ (mkF m 12 (la7 a2 o1 d1 (0 : Int32) (1 : Int32) (0 : Int32)) [(.int o1), (.ref a2)]) _
  refine X0.caload hx (j := o1) (v := (.int x0)) (by rw [e0]; exact Ar16.1) (State.isArrayOf_alike hZ.alike Ar16.2.1) Ar16.2.2 hin16 hat16 (g := (mkF m 12 (la7 a2 o1 d1 (0 : Int32) (1 : Int32) (0 : Int32)) [(.int o1), (.ref a2)])) rfl rfl (hb hby d16_12) _ ?_
  show GO p e below s₁ (mkF m 13 (la7 a2 o1 d1 (0 : Int32) (1 : Int32) (0 : Int32)) [(.int x0)]) _
  refine XS.istore X0.here hx rfl (hb hby d16_13) rfl (l' := (la8 a2 o1 d1 (0 : Int32) (1 : Int32) (0 : Int32) x0)) rfl ?_
  show GO p e below s₁ (mkF m 15 (la8 a2 o1 d1 (0 : Int32) (1 : Int32) (0 : Int32) x0) []) _
  refine XS.iload X0.here hx rfl (hb hby d16_15) rfl ?_
  show GO p e below s₁ (mkF m 17 (la8 a2 o1 d1 (0 : Int32) (1 : Int32) (0 : Int32) x0) [(.int x0)]) _
  refine XS.sipush X0.here hx rfl (hb hby d16_17) ?_
  show GO p e below s₁ (mkF m 20 (la8 a2 o1 d1 (0 : Int32) (1 : Int32) (0 : Int32) x0) [(.int 255), (.int x0)]) _
  refine XS.icmpYes X0.here hx rfl (pc0 := 20) (pc' := 26) rfl (hb hby d16_20) rfl (flt (c0 : ¬ ((255 : Int32) < x0))).2.2.2 (by decide) (by decide) ?_
  show GO p e below s₁ (mkF m 26 (la8 a2 o1 d1 (0 : Int32) (1 : Int32) (0 : Int32) x0) []) _
  refine XS.aloadN X0.here hx rfl (hb hby d16_26) rfl rfl ?_
  show GO p e below s₁ (mkF m 27 (la8 a2 o1 d1 (0 : Int32) (1 : Int32) (0 : Int32) x0) [(.ref d1)]) _
  refine XS.iloadN X0.here hx rfl (hb hby d16_27) rfl ?_
  show GO p e below s₁ (mkF m 28 (la8 a2 o1 d1 (0 : Int32) (1 : Int32) (0 : Int32) x0) [(.int 0), (.ref d1)]) _
  refine XS.iload X0.here hx rfl (hb hby d16_28) rfl ?_
  show GO p e below s₁ (mkF m 30 (la8 a2 o1 d1 (0 : Int32) (1 : Int32) (0 : Int32) x0) [(.int x0), (.int 0), (.ref d1)]) _
  refine XS.i2b X0.here hx rfl (hb hby d16_30) rfl ?_
  show GO p e below s₁ (mkF m 31 (la8 a2 o1 d1 (0 : Int32) (1 : Int32) (0 : Int32) x0) [(.int (x0.toInt8.toInt32)), (.int 0), (.ref d1)]) _
  refine st18 _ ?_
  show GO p e below T18 (mkF m 32 (la8 a2 o1 d1 (0 : Int32) (1 : Int32) (0 : Int32) x0) []) _
  refine XS.iinc X18.here hx rfl (hb hby d16_32) rfl (l' := (la8 a2 (o1 + (1 : Int32)) d1 (0 : Int32) (1 : Int32) (0 : Int32) x0)) rfl ?_
  show GO p e below T18 (mkF m 35 (la8 a2 (o1 + (1 : Int32)) d1 (0 : Int32) (1 : Int32) (0 : Int32) x0) []) _
  refine XS.iinc X18.here hx rfl (hb hby d16_35) rfl (l' := (la8 a2 (o1 + (1 : Int32)) d1 ((0 : Int32) + (1 : Int32)) (1 : Int32) (0 : Int32) x0)) rfl ?_
  rw [show ((0 : Int32) + (1 : Int32)) = (1 : Int32) from by decide]
  show GO p e below T18 (mkF m 38 (la8 a2 (o1 + (1 : Int32)) d1 (1 : Int32) (1 : Int32) (0 : Int32) x0) []) _
  refine XS.iinc X18.here hx rfl (hb hby d16_38) rfl (l' := (la8 a2 (o1 + (1 : Int32)) d1 (1 : Int32) (1 : Int32) ((0 : Int32) + (1 : Int32)) x0)) rfl ?_
  rw [show ((0 : Int32) + (1 : Int32)) = (1 : Int32) from by decide]
  show GO p e below T18 (mkF m 41 (la8 a2 (o1 + (1 : Int32)) d1 (1 : Int32) (1 : Int32) (1 : Int32) x0) []) _
  refine XS.goto X18.here hx rfl (pc0 := 41) (pc' := 3) rfl (hb hby d16_41) (by decide) (by decide) ?_
  show GO p e below T18 (mkF m 3 (la8 a2 (o1 + (1 : Int32)) d1 (1 : Int32) (1 : Int32) (1 : Int32) x0) []) _
  refine XS.iload X18.here hx rfl (hb hby d16_3) rfl ?_
  show GO p e below T18 (mkF m 5 (la8 a2 (o1 + (1 : Int32)) d1 (1 : Int32) (1 : Int32) (1 : Int32) x0) [(.int 1)]) _
  refine XS.iload X18.here hx rfl (hb hby d16_5) rfl ?_
  show GO p e below T18 (mkF m 7 (la8 a2 (o1 + (1 : Int32)) d1 (1 : Int32) (1 : Int32) (1 : Int32) x0) [(.int 1), (.int 1)]) _
  refine XS.icmpYes X18.here hx rfl (pc0 := 7) (pc' := 44) rfl (hb hby d16_7) rfl (flt ((by decide) : ¬ ((1 : Int32) < (1 : Int32)))).2.1 (by decide) (by decide) ?_
  show GO p e below T18 (mkF m 44 (la8 a2 (o1 + (1 : Int32)) d1 (1 : Int32) (1 : Int32) (1 : Int32) x0) []) _
  refine XS.iload X18.here hx rfl (hb hby d16_44) rfl ?_
  show GO p e below T18 (mkF m 46 (la8 a2 (o1 + (1 : Int32)) d1 (1 : Int32) (1 : Int32) (1 : Int32) x0) [(.int 1)]) _
  exact retI X18 hx Bd.returns (hb hby d16_46) hr
 ·show Qrm_c5_1L Z a2 k2 vs2 o1 x0 d1 kd h0 n0 _ T18.heap _
  rw [e18]
  exact ⟨rfl, N18, ((Keep.refl h0 [d1]).wr W18 (Or.inl (List.mem_of_getElem? (i := 0) rfl))), V20⟩
def Qrm_c5_1A (Z : State) (a2 : Addr) (k2 : ClassId) (vs2 : List Value) (o1 : Int32) (x0 : Int32) (d1 : Addr) (kd : ClassId) (h0 : Heap) (n0 : Nat) (v : Option Value) (h : Heap) (L : List Loc) : Prop := v = some (.int 0) ∧ Fr n0 L ∧ h = h0
theorem ef_rm_c5_1A (m : MethodId) (x0 : Addr) (x1 : Int32) (x2 : Addr) (x3 : Int32) (x4 : Int32) : entryFrame m #[(.ref x0), (.int x1), (.ref x2), (.int x3), (.int x4)] 7 = mkF m 0 (la6 x0 x1 x2 x3 x4) [] := by first | rfl | (simp [entryFrame, mkF, argsToLocals, Value.category]; done)
theorem rm_c5_1A (l : Launch) (Z : State) (a0 : Array Value) (hw : HW Z a0) (ws : List Jvm.Cond) (a2 : Addr) (k2 : ClassId) (vs2 : List Value) (o1 : Int32) (x0 : Int32) (d1 : Addr) (kd : ClassId) (h0 : Heap) (n0 : Nat) (Z0 : n0 ≤ h0.size) (V2 : Arv Z h0 a2 k2 .char (8 : Int32) vs2 (.int 0)) (Vd : Arv Z h0 d1 kd .byte (1 : Int32) [(.int 0)] (.int 0)) (ob0 : (¬ o1 < 0 ∧ o1 < (8 : Int32))) (hx0 : vs2.getD (o1).toNatClampNeg (.int 0) = (.int x0)) (lb0 : (¬ x0 < 0 ∧ ¬ (65535 : Int32) < x0)) (c0 : (255 : Int32) < x0) (gd : n0 ≤ d1) (ned : a2 ≠ d1) :
  OwnM l Z h0 (⟨kS1, "compress", "([CI[BII)I"⟩ : MethodName) (Jvm.Cond.code (⟨kS1, "compress", "([CI[BII)I"⟩ : MethodName) jdk_52_method_21_code 7 (some .int) :: ws) (RM 0 0 0 0) #[(.ref a2), (.int o1), (.ref d1), (.int 0), (.int 1)] (Qrm_c5_1A Z a2 k2 vs2 o1 x0 d1 kd h0 n0) := by
 refine MetFree.of_bodySF (plainFor_of_name pn_3) hisR ?_
 intro p e s m args below meth c s₁ Bd hml0 hP hK
 obtain ⟨rfl, hZ, hh⟩ := hP
 have hx := Bd.exec
 have hby := Bd.bytes
 have hml : c.maxLocals = 7 := hml0
 have hown : s.vm.findClass kS1 = some m.cls := findClass_of_methodNamed Bd.named
 have hnm := (name_of_methodNamed Bd.named Bd.method).1
 have X0 : Stand p l e (RM 0 0 0 0) s m #[(.ref a2), (.int o1), (.ref d1), (.int 0), (.int 1)] below meth c s₁ [] 0 0 := Stand.of_body Bd
 have e0 : s₁.heap = h0 := by rw [← hh, Bd.state]; rfl
 have N0 := Fr.nil n0
 have pre0 : ∀ t, GO p e below s₁ (mkF m 0 (la6 a2 o1 d1 (0 : Int32) (1 : Int32)) []) t → GO p e below s₁ (entryFrame m #[(.ref a2), (.int o1), (.ref d1), (.int 0), (.int 1)] 7) t := fun t k => castTop (ef_rm_c5_1A m a2 o1 d1 ((0 : Int32)) ((1 : Int32))) k
 have lt_V2 := ltA V2.lt
 have lt_Vd := ltA Vd.lt
 obtain ⟨cl21, Ar21, q21, S21, M21, H21, G21⟩ := id V2
 have hin21 : ¬ (o1 < 0 ∨ cl21.slots.size ≤ (o1).toNatClampNeg) := inb_of S21 ob0
 have hat21 : cl21.slots[(o1).toNatClampNeg]? = some (.int x0) := Has.at H21 hin21 hx0
 obtain ⟨fs, hr, hrun, hended, hW, hsame⟩ := X0.leave (v := some (.int 0)) (fun h => by rw [Bd.returns] at h; cases h)
 refine ⟨_, _, pre0 _ ?_, hrun, hended, _, _, rfl, ?_, ⟨_, rfl⟩, hW, hsame.mono (by decide) (by decide)⟩
 ·show GO p e below s₁ (mkF m 0 (la6 a2 o1 d1 (0 : Int32) (1 : Int32)) []) _
  refine XS.iconst X0.here hx rfl (hb hby d16_0) ?_
  show GO p e below s₁ (mkF m 1 (la6 a2 o1 d1 (0 : Int32) (1 : Int32)) [(.int 0)]) _
  refine XS.istore X0.here hx rfl (hb hby d16_1) rfl (l' := (la7 a2 o1 d1 (0 : Int32) (1 : Int32) (0 : Int32))) rfl ?_
  show GO p e below s₁ (mkF m 3 (la7 a2 o1 d1 (0 : Int32) (1 : Int32) (0 : Int32)) []) _
  refine XS.iload X0.here hx rfl (hb hby d16_3) rfl ?_
  show GO p e below s₁ (mkF m 5 (la7 a2 o1 d1 (0 : Int32) (1 : Int32) (0 : Int32)) [(.int 0)]) _
  refine XS.iload X0.here hx rfl (hb hby d16_5) rfl ?_
  show GO p e below s₁ (mkF m 7 (la7 a2 o1 d1 (0 : Int32) (1 : Int32) (0 : Int32)) [(.int 1), (.int 0)]) _
  refine XS.icmpNo X0.here hx rfl (hb hby d16_7) rfl (tlt ((by decide) : (0 : Int32) < (1 : Int32))).2.1 ?_
  show GO p e below s₁ (mkF m 10 (la7 a2 o1 d1 (0 : Int32) (1 : Int32) (0 : Int32)) []) _
  refine XS.aloadN X0.here hx rfl (hb hby d16_10) rfl rfl ?_
  show GO p e below s₁ (mkF m 11 (la7 a2 o1 d1 (0 : Int32) (1 : Int32) (0 : Int32)) [(.ref a2)]) _
  refine XS.iloadN X0.here hx rfl (hb hby d16_11) rfl ?_
  show GO p e below s₁ (mkF m 12 (la7 a2 o1 d1 (0 : Int32) (1 : Int32) (0 : Int32)) [(.int o1), (.ref a2)]) _
  refine X0.caload hx (j := o1) (v := (.int x0)) (by rw [e0]; exact Ar21.1) (State.isArrayOf_alike hZ.alike Ar21.2.1) Ar21.2.2 hin21 hat21 (g := (mkF m 12 (la7 a2 o1 d1 (0 : Int32) (1 : Int32) (0 : Int32)) [(.int o1), (.ref a2)])) rfl rfl (hb hby d16_12) _ ?_
  show GO p e below s₁ (mkF m 13 (la7 a2 o1 d1 (0 : Int32) (1 : Int32) (0 : Int32)) [(.int x0)]) _
  refine XS.istore X0.here hx rfl (hb hby d16_13) rfl (l' := (la8 a2 o1 d1 (0 : Int32) (1 : Int32) (0 : Int32) x0)) rfl ?_
  show GO p e below s₁ (mkF m 15 (la8 a2 o1 d1 (0 : Int32) (1 : Int32) (0 : Int32) x0) []) _
  refine XS.iload X0.here hx rfl (hb hby d16_15) rfl ?_
  show GO p e below s₁ (mkF m 17 (la8 a2 o1 d1 (0 : Int32) (1 : Int32) (0 : Int32) x0) [(.int x0)]) _
  refine XS.sipush X0.here hx rfl (hb hby d16_17) ?_
  show GO p e below s₁ (mkF m 20 (la8 a2 o1 d1 (0 : Int32) (1 : Int32) (0 : Int32) x0) [(.int 255), (.int x0)]) _
  refine XS.icmpNo X0.here hx rfl (hb hby d16_20) rfl (tlt (c0 : (255 : Int32) < x0)).2.2.2 ?_
  show GO p e below s₁ (mkF m 23 (la8 a2 o1 d1 (0 : Int32) (1 : Int32) (0 : Int32) x0) []) _
  refine XS.iload X0.here hx rfl (hb hby d16_23) rfl ?_
  show GO p e below s₁ (mkF m 25 (la8 a2 o1 d1 (0 : Int32) (1 : Int32) (0 : Int32) x0) [(.int 0)]) _
  exact retI X0 hx Bd.returns (hb hby d16_25) hr
 ·show Qrm_c5_1A Z a2 k2 vs2 o1 x0 d1 kd h0 n0 _ s₁.heap _
  rw [e0]
  exact ⟨rfl, N0, rfl⟩
def Qrm_c5_2L (Z : State) (a2 : Addr) (k2 : ClassId) (vs2 : List Value) (o1 : Int32) (x0 : Int32) (x1 : Int32) (d1 : Addr) (kd : ClassId) (h0 : Heap) (n0 : Nat) (v : Option Value) (h : Heap) (L : List Loc) : Prop := v = some (.int 2) ∧ Fr n0 L ∧ Keep h0 h [d1] ∧ Arv Z h d1 kd .byte (2 : Int32) [(.int (x0.toInt8.toInt32)), (.int (x1.toInt8.toInt32))] (.int 0)
theorem ef_rm_c5_2L (m : MethodId) (x0 : Addr) (x1 : Int32) (x2 : Addr) (x3 : Int32) (x4 : Int32) : entryFrame m #[(.ref x0), (.int x1), (.ref x2), (.int x3), (.int x4)] 7 = mkF m 0 (la6 x0 x1 x2 x3 x4) [] := by first | rfl | (simp [entryFrame, mkF, argsToLocals, Value.category]; done)
theorem rm_c5_2L (l : Launch) (Z : State) (a0 : Array Value) (hw : HW Z a0) (ws : List Jvm.Cond) (a2 : Addr) (k2 : ClassId) (vs2 : List Value) (o1 : Int32) (x0 : Int32) (x1 : Int32) (d1 : Addr) (kd : ClassId) (h0 : Heap) (n0 : Nat) (Z0 : n0 ≤ h0.size) (V2 : Arv Z h0 a2 k2 .char (8 : Int32) vs2 (.int 0)) (Vd : Arv Z h0 d1 kd .byte (2 : Int32) [(.int 0), (.int 0)] (.int 0)) (ob0 : (¬ o1 < 0 ∧ o1 < (8 : Int32))) (hx0 : vs2.getD (o1).toNatClampNeg (.int 0) = (.int x0)) (lb0 : (¬ x0 < 0 ∧ ¬ (65535 : Int32) < x0)) (ob1 : (¬ (o1 + (1 : Int32)) < 0 ∧ (o1 + (1 : Int32)) < (8 : Int32))) (hx1 : vs2.getD ((o1 + (1 : Int32))).toNatClampNeg (.int 0) = (.int x1)) (lb1 : (¬ x1 < 0 ∧ ¬ (65535 : Int32) < x1)) (c0 : ¬ ((255 : Int32) < x0)) (c1 : ¬ ((255 : Int32) < x1)) (gd : n0 ≤ d1) (ned : a2 ≠ d1) :
  OwnM l Z h0 (⟨kS1, "compress", "([CI[BII)I"⟩ : MethodName) (Jvm.Cond.code (⟨kS1, "compress", "([CI[BII)I"⟩ : MethodName) jdk_52_method_21_code 7 (some .int) :: ws) (RM 0 0 0 0) #[(.ref a2), (.int o1), (.ref d1), (.int 0), (.int 2)] (Qrm_c5_2L Z a2 k2 vs2 o1 x0 x1 d1 kd h0 n0) := by
 refine MetFree.of_bodySF (plainFor_of_name pn_3) hisR ?_
 intro p e s m args below meth c s₁ Bd hml0 hP hK
 obtain ⟨rfl, hZ, hh⟩ := hP
 have hx := Bd.exec
 have hby := Bd.bytes
 have hml : c.maxLocals = 7 := hml0
 have hown : s.vm.findClass kS1 = some m.cls := findClass_of_methodNamed Bd.named
 have hnm := (name_of_methodNamed Bd.named Bd.method).1
 have X0 : Stand p l e (RM 0 0 0 0) s m #[(.ref a2), (.int o1), (.ref d1), (.int 0), (.int 2)] below meth c s₁ [] 0 0 := Stand.of_body Bd
 have e0 : s₁.heap = h0 := by rw [← hh, Bd.state]; rfl
 have N0 := Fr.nil n0
 have pre0 : ∀ t, GO p e below s₁ (mkF m 0 (la6 a2 o1 d1 (0 : Int32) (2 : Int32)) []) t → GO p e below s₁ (entryFrame m #[(.ref a2), (.int o1), (.ref d1), (.int 0), (.int 2)] 7) t := fun t k => castTop (ef_rm_c5_2L m a2 o1 d1 ((0 : Int32)) ((2 : Int32))) k
 have lt_V2 := ltA V2.lt
 have lt_Vd := ltA Vd.lt
 obtain ⟨cl22, Ar22, q22, S22, M22, H22, G22⟩ := id V2
 have hin22 : ¬ (o1 < 0 ∨ cl22.slots.size ≤ (o1).toNatClampNeg) := inb_of S22 ob0
 have hat22 : cl22.slots[(o1).toNatClampNeg]? = some (.int x0) := Has.at H22 hin22 hx0
 obtain ⟨cl23, Ar23, q23, S23, M23, H23, G23⟩ := id Vd
 have hin23 : ¬ ((0 : Int32) < 0 ∨ cl23.slots.size ≤ ((0 : Int32)).toNatClampNeg) := inb_of S23 ⟨by decide, by decide⟩
 obtain ⟨T24, h24, X24, e24, W24, st24⟩ := stB X0 hx hZ e0 Ar23 (j := (0 : Int32)) hin23 (g := (mkF m 31 (la8 a2 o1 d1 (0 : Int32) (2 : Int32) (0 : Int32) x0) [(.int (x0.toInt8.toInt32)), (.int 0), (.ref d1)])) rfl rfl (hb hby d16_31)
 have ge25 : n0 ≤ d1 := by omega
 have N24 := Fr.snoc X24 N0 ge25
 have sz24 : h0.size ≤ h24.size := Nat.le_of_eq W24.size.symm
 have nz24 := Nat.le_trans Z0 sz24
 have V24 : Arv Z h24 d1 kd .byte (2 : Int32) [(.int (nar .byte (x0.toInt8.toInt32))), (.int 0)] (.int 0) := Arv.set Ar23 q23 S23 M23 H23 G23 (fits_nar_byte _) W24 0 rfl (Nat.le_of_ble_eq_true rfl)
 have f26 : Arv Z h24 a2 k2 .char (8 : Int32) vs2 (.int 0) := (V2.other W24 ned)
 obtain ⟨cl27, Ar27, q27, S27, M27, H27, G27⟩ := id f26
 have hin27 : ¬ ((o1 + (1 : Int32)) < 0 ∨ cl27.slots.size ≤ ((o1 + (1 : Int32))).toNatClampNeg) := inb_of S27 ob1
 have hat27 : cl27.slots[((o1 + (1 : Int32))).toNatClampNeg]? = some (.int x1) := Has.at H27 hin27 hx1
 obtain ⟨cl28, Ar28, q28, S28, M28, H28, G28⟩ := id V24
 have hin28 : ¬ ((1 : Int32) < 0 ∨ cl28.slots.size ≤ ((1 : Int32)).toNatClampNeg) := inb_of S28 ⟨by decide, by decide⟩
 obtain ⟨T29, h29, X29, e29, W29, st29⟩ := stB X24 hx hZ e24 Ar28 (j := (1 : Int32)) hin28 (g := (mkF m 31 (la8 a2 (o1 + (1 : Int32)) d1 (1 : Int32) (2 : Int32) (1 : Int32) x1) [(.int (x1.toInt8.toInt32)), (.int 1), (.ref d1)])) rfl rfl (hb hby d16_31)
 have N29 := Fr.snoc X29 N24 ge25
 have sz29 : h24.size ≤ h29.size := Nat.le_of_eq W29.size.symm
 have nz29 := Nat.le_trans nz24 sz29
 have V29 : Arv Z h29 d1 kd .byte (2 : Int32) [(.int (nar .byte (x0.toInt8.toInt32))), (.int (nar .byte (x1.toInt8.toInt32)))] (.int 0) := Arv.set Ar28 q28 S28 M28 H28 G28 (fits_nar_byte _) W29 1 rfl (Nat.le_of_ble_eq_true rfl)
 have V30 : Arv Z h29 d1 kd .byte (2 : Int32) [(.int (x0.toInt8.toInt32)), (.int (x1.toInt8.toInt32))] (.int 0) := by
  have q := V29
  rw [own_nb x0, own_nb x1] at q
  exact q
 obtain ⟨fs, hr, hrun, hended, hW, hsame⟩ := X29.leave (v := some (.int 2)) (fun h => by rw [Bd.returns] at h; cases h)
 refine ⟨_, _, pre0 _ ?_, hrun, hended, _, _, rfl, ?_, ⟨_, rfl⟩, hW, hsame.mono (by decide) (by decide)⟩
 ·show GO p e below s₁ (mkF m 0 (la6 a2 o1 d1 (0 : Int32) (2 : Int32)) []) _
  refine XS.iconst X0.here hx rfl (hb hby d16_0) ?_
  show GO p e below s₁ (mkF m 1 (la6 a2 o1 d1 (0 : Int32) (2 : Int32)) [(.int 0)]) _
  refine XS.istore X0.here hx rfl (hb hby d16_1) rfl (l' := (la7 a2 o1 d1 (0 : Int32) (2 : Int32) (0 : Int32))) rfl ?_
  show GO p e below s₁ (mkF m 3 (la7 a2 o1 d1 (0 : Int32) (2 : Int32) (0 : Int32)) []) _
  refine XS.iload X0.here hx rfl (hb hby d16_3) rfl ?_
  show GO p e below s₁ (mkF m 5 (la7 a2 o1 d1 (0 : Int32) (2 : Int32) (0 : Int32)) [(.int 0)]) _
  refine XS.iload X0.here hx rfl (hb hby d16_5) rfl ?_
  show GO p e below s₁ (mkF m 7 (la7 a2 o1 d1 (0 : Int32) (2 : Int32) (0 : Int32)) [(.int 2), (.int 0)]) _
  refine XS.icmpNo X0.here hx rfl (hb hby d16_7) rfl (tlt ((by decide) : (0 : Int32) < (2 : Int32))).2.1 ?_
  show GO p e below s₁ (mkF m 10 (la7 a2 o1 d1 (0 : Int32) (2 : Int32) (0 : Int32)) []) _
  refine XS.aloadN X0.here hx rfl (hb hby d16_10) rfl rfl ?_
  show GO p e below s₁ (mkF m 11 (la7 a2 o1 d1 (0 : Int32) (2 : Int32) (0 : Int32)) [(.ref a2)]) _
  refine XS.iloadN X0.here hx rfl (hb hby d16_11) rfl ?_
  show GO p e below s₁ (mkF m 12 (la7 a2 o1 d1 (0 : Int32) (2 : Int32) (0 : Int32)) [(.int o1), (.ref a2)]) _
  refine X0.caload hx (j := o1) (v := (.int x0)) (by rw [e0]; exact Ar22.1) (State.isArrayOf_alike hZ.alike Ar22.2.1) Ar22.2.2 hin22 hat22 (g := (mkF m 12 (la7 a2 o1 d1 (0 : Int32) (2 : Int32) (0 : Int32)) [(.int o1), (.ref a2)])) rfl rfl (hb hby d16_12) _ ?_
  show GO p e below s₁ (mkF m 13 (la7 a2 o1 d1 (0 : Int32) (2 : Int32) (0 : Int32)) [(.int x0)]) _
  refine XS.istore X0.here hx rfl (hb hby d16_13) rfl (l' := (la8 a2 o1 d1 (0 : Int32) (2 : Int32) (0 : Int32) x0)) rfl ?_
  show GO p e below s₁ (mkF m 15 (la8 a2 o1 d1 (0 : Int32) (2 : Int32) (0 : Int32) x0) []) _
  refine XS.iload X0.here hx rfl (hb hby d16_15) rfl ?_
  show GO p e below s₁ (mkF m 17 (la8 a2 o1 d1 (0 : Int32) (2 : Int32) (0 : Int32) x0) [(.int x0)]) _
  refine XS.sipush X0.here hx rfl (hb hby d16_17) ?_
  show GO p e below s₁ (mkF m 20 (la8 a2 o1 d1 (0 : Int32) (2 : Int32) (0 : Int32) x0) [(.int 255), (.int x0)]) _
  refine XS.icmpYes X0.here hx rfl (pc0 := 20) (pc' := 26) rfl (hb hby d16_20) rfl (flt (c0 : ¬ ((255 : Int32) < x0))).2.2.2 (by decide) (by decide) ?_
  show GO p e below s₁ (mkF m 26 (la8 a2 o1 d1 (0 : Int32) (2 : Int32) (0 : Int32) x0) []) _
  refine XS.aloadN X0.here hx rfl (hb hby d16_26) rfl rfl ?_
  show GO p e below s₁ (mkF m 27 (la8 a2 o1 d1 (0 : Int32) (2 : Int32) (0 : Int32) x0) [(.ref d1)]) _
  refine XS.iloadN X0.here hx rfl (hb hby d16_27) rfl ?_
  show GO p e below s₁ (mkF m 28 (la8 a2 o1 d1 (0 : Int32) (2 : Int32) (0 : Int32) x0) [(.int 0), (.ref d1)]) _
  refine XS.iload X0.here hx rfl (hb hby d16_28) rfl ?_
  show GO p e below s₁ (mkF m 30 (la8 a2 o1 d1 (0 : Int32) (2 : Int32) (0 : Int32) x0) [(.int x0), (.int 0), (.ref d1)]) _
  refine XS.i2b X0.here hx rfl (hb hby d16_30) rfl ?_
  show GO p e below s₁ (mkF m 31 (la8 a2 o1 d1 (0 : Int32) (2 : Int32) (0 : Int32) x0) [(.int (x0.toInt8.toInt32)), (.int 0), (.ref d1)]) _
  refine st24 _ ?_
  show GO p e below T24 (mkF m 32 (la8 a2 o1 d1 (0 : Int32) (2 : Int32) (0 : Int32) x0) []) _
  refine XS.iinc X24.here hx rfl (hb hby d16_32) rfl (l' := (la8 a2 (o1 + (1 : Int32)) d1 (0 : Int32) (2 : Int32) (0 : Int32) x0)) rfl ?_
  show GO p e below T24 (mkF m 35 (la8 a2 (o1 + (1 : Int32)) d1 (0 : Int32) (2 : Int32) (0 : Int32) x0) []) _
  refine XS.iinc X24.here hx rfl (hb hby d16_35) rfl (l' := (la8 a2 (o1 + (1 : Int32)) d1 ((0 : Int32) + (1 : Int32)) (2 : Int32) (0 : Int32) x0)) rfl ?_
  rw [show ((0 : Int32) + (1 : Int32)) = (1 : Int32) from by decide]
  show GO p e below T24 (mkF m 38 (la8 a2 (o1 + (1 : Int32)) d1 (1 : Int32) (2 : Int32) (0 : Int32) x0) []) _
  refine XS.iinc X24.here hx rfl (hb hby d16_38) rfl (l' := (la8 a2 (o1 + (1 : Int32)) d1 (1 : Int32) (2 : Int32) ((0 : Int32) + (1 : Int32)) x0)) rfl ?_
  rw [show ((0 : Int32) + (1 : Int32)) = (1 : Int32) from by decide]
  show GO p e below T24 (mkF m 41 (la8 a2 (o1 + (1 : Int32)) d1 (1 : Int32) (2 : Int32) (1 : Int32) x0) []) _
  refine XS.goto X24.here hx rfl (pc0 := 41) (pc' := 3) rfl (hb hby d16_41) (by decide) (by decide) ?_
  show GO p e below T24 (mkF m 3 (la8 a2 (o1 + (1 : Int32)) d1 (1 : Int32) (2 : Int32) (1 : Int32) x0) []) _
  refine XS.iload X24.here hx rfl (hb hby d16_3) rfl ?_
  show GO p e below T24 (mkF m 5 (la8 a2 (o1 + (1 : Int32)) d1 (1 : Int32) (2 : Int32) (1 : Int32) x0) [(.int 1)]) _
  refine XS.iload X24.here hx rfl (hb hby d16_5) rfl ?_
  show GO p e below T24 (mkF m 7 (la8 a2 (o1 + (1 : Int32)) d1 (1 : Int32) (2 : Int32) (1 : Int32) x0) [(.int 2), (.int 1)]) _
  refine XS.icmpNo X24.here hx rfl (hb hby d16_7) rfl (tlt ((by decide) : (1 : Int32) < (2 : Int32))).2.1 ?_
  show GO p e below T24 (mkF m 10 (la8 a2 (o1 + (1 : Int32)) d1 (1 : Int32) (2 : Int32) (1 : Int32) x0) []) _
  refine XS.aloadN X24.here hx rfl (hb hby d16_10) rfl rfl ?_
  show GO p e below T24 (mkF m 11 (la8 a2 (o1 + (1 : Int32)) d1 (1 : Int32) (2 : Int32) (1 : Int32) x0) [(.ref a2)]) _
  refine XS.iloadN X24.here hx rfl (hb hby d16_11) rfl ?_
  show GO p e below T24 (mkF m 12 (la8 a2 (o1 + (1 : Int32)) d1 (1 : Int32) (2 : Int32) (1 : Int32) x0) [(.int (o1 + (1 : Int32))), (.ref a2)]) _
  refine X24.caload hx (j := (o1 + (1 : Int32))) (v := (.int x1)) (by rw [e24]; exact Ar27.1) (State.isArrayOf_alike hZ.alike Ar27.2.1) Ar27.2.2 hin27 hat27 (g := (mkF m 12 (la8 a2 (o1 + (1 : Int32)) d1 (1 : Int32) (2 : Int32) (1 : Int32) x0) [(.int (o1 + (1 : Int32))), (.ref a2)])) rfl rfl (hb hby d16_12) _ ?_
  show GO p e below T24 (mkF m 13 (la8 a2 (o1 + (1 : Int32)) d1 (1 : Int32) (2 : Int32) (1 : Int32) x0) [(.int x1)]) _
  refine XS.istore X24.here hx rfl (hb hby d16_13) rfl (l' := (la8 a2 (o1 + (1 : Int32)) d1 (1 : Int32) (2 : Int32) (1 : Int32) x1)) rfl ?_
  show GO p e below T24 (mkF m 15 (la8 a2 (o1 + (1 : Int32)) d1 (1 : Int32) (2 : Int32) (1 : Int32) x1) []) _
  refine XS.iload X24.here hx rfl (hb hby d16_15) rfl ?_
  show GO p e below T24 (mkF m 17 (la8 a2 (o1 + (1 : Int32)) d1 (1 : Int32) (2 : Int32) (1 : Int32) x1) [(.int x1)]) _
  refine XS.sipush X24.here hx rfl (hb hby d16_17) ?_
  show GO p e below T24 (mkF m 20 (la8 a2 (o1 + (1 : Int32)) d1 (1 : Int32) (2 : Int32) (1 : Int32) x1) [(.int 255), (.int x1)]) _
  refine XS.icmpYes X24.here hx rfl (pc0 := 20) (pc' := 26) rfl (hb hby d16_20) rfl (flt (c1 : ¬ ((255 : Int32) < x1))).2.2.2 (by decide) (by decide) ?_
  show GO p e below T24 (mkF m 26 (la8 a2 (o1 + (1 : Int32)) d1 (1 : Int32) (2 : Int32) (1 : Int32) x1) []) _
  refine XS.aloadN X24.here hx rfl (hb hby d16_26) rfl rfl ?_
  show GO p e below T24 (mkF m 27 (la8 a2 (o1 + (1 : Int32)) d1 (1 : Int32) (2 : Int32) (1 : Int32) x1) [(.ref d1)]) _
  refine XS.iloadN X24.here hx rfl (hb hby d16_27) rfl ?_
  show GO p e below T24 (mkF m 28 (la8 a2 (o1 + (1 : Int32)) d1 (1 : Int32) (2 : Int32) (1 : Int32) x1) [(.int 1), (.ref d1)]) _
  refine XS.iload X24.here hx rfl (hb hby d16_28) rfl ?_
  show GO p e below T24 (mkF m 30 (la8 a2 (o1 + (1 : Int32)) d1 (1 : Int32) (2 : Int32) (1 : Int32) x1) [(.int x1), (.int 1), (.ref d1)]) _
  refine XS.i2b X24.here hx rfl (hb hby d16_30) rfl ?_
  show GO p e below T24 (mkF m 31 (la8 a2 (o1 + (1 : Int32)) d1 (1 : Int32) (2 : Int32) (1 : Int32) x1) [(.int (x1.toInt8.toInt32)), (.int 1), (.ref d1)]) _
  refine st29 _ ?_
  show GO p e below T29 (mkF m 32 (la8 a2 (o1 + (1 : Int32)) d1 (1 : Int32) (2 : Int32) (1 : Int32) x1) []) _
  refine XS.iinc X29.here hx rfl (hb hby d16_32) rfl (l' := (la8 a2 ((o1 + (1 : Int32)) + (1 : Int32)) d1 (1 : Int32) (2 : Int32) (1 : Int32) x1)) rfl ?_
  show GO p e below T29 (mkF m 35 (la8 a2 ((o1 + (1 : Int32)) + (1 : Int32)) d1 (1 : Int32) (2 : Int32) (1 : Int32) x1) []) _
  refine XS.iinc X29.here hx rfl (hb hby d16_35) rfl (l' := (la8 a2 ((o1 + (1 : Int32)) + (1 : Int32)) d1 ((1 : Int32) + (1 : Int32)) (2 : Int32) (1 : Int32) x1)) rfl ?_
  rw [show ((1 : Int32) + (1 : Int32)) = (2 : Int32) from by decide]
  show GO p e below T29 (mkF m 38 (la8 a2 ((o1 + (1 : Int32)) + (1 : Int32)) d1 (2 : Int32) (2 : Int32) (1 : Int32) x1) []) _
  refine XS.iinc X29.here hx rfl (hb hby d16_38) rfl (l' := (la8 a2 ((o1 + (1 : Int32)) + (1 : Int32)) d1 (2 : Int32) (2 : Int32) ((1 : Int32) + (1 : Int32)) x1)) rfl ?_
  rw [show ((1 : Int32) + (1 : Int32)) = (2 : Int32) from by decide]
  show GO p e below T29 (mkF m 41 (la8 a2 ((o1 + (1 : Int32)) + (1 : Int32)) d1 (2 : Int32) (2 : Int32) (2 : Int32) x1) []) _
  refine XS.goto X29.here hx rfl (pc0 := 41) (pc' := 3) rfl (hb hby d16_41) (by decide) (by decide) ?_
  show GO p e below T29 (mkF m 3 (la8 a2 ((o1 + (1 : Int32)) + (1 : Int32)) d1 (2 : Int32) (2 : Int32) (2 : Int32) x1) []) _
  refine XS.iload X29.here hx rfl (hb hby d16_3) rfl ?_
  show GO p e below T29 (mkF m 5 (la8 a2 ((o1 + (1 : Int32)) + (1 : Int32)) d1 (2 : Int32) (2 : Int32) (2 : Int32) x1) [(.int 2)]) _
  refine XS.iload X29.here hx rfl (hb hby d16_5) rfl ?_
  show GO p e below T29 (mkF m 7 (la8 a2 ((o1 + (1 : Int32)) + (1 : Int32)) d1 (2 : Int32) (2 : Int32) (2 : Int32) x1) [(.int 2), (.int 2)]) _
  refine XS.icmpYes X29.here hx rfl (pc0 := 7) (pc' := 44) rfl (hb hby d16_7) rfl (flt ((by decide) : ¬ ((2 : Int32) < (2 : Int32)))).2.1 (by decide) (by decide) ?_
  show GO p e below T29 (mkF m 44 (la8 a2 ((o1 + (1 : Int32)) + (1 : Int32)) d1 (2 : Int32) (2 : Int32) (2 : Int32) x1) []) _
  refine XS.iload X29.here hx rfl (hb hby d16_44) rfl ?_
  show GO p e below T29 (mkF m 46 (la8 a2 ((o1 + (1 : Int32)) + (1 : Int32)) d1 (2 : Int32) (2 : Int32) (2 : Int32) x1) [(.int 2)]) _
  exact retI X29 hx Bd.returns (hb hby d16_46) hr
 ·show Qrm_c5_2L Z a2 k2 vs2 o1 x0 x1 d1 kd h0 n0 _ T29.heap _
  rw [e29]
  exact ⟨rfl, N29, (((Keep.refl h0 [d1]).wr W24 (Or.inl (List.mem_of_getElem? (i := 0) rfl))).wr W29 (Or.inl (List.mem_of_getElem? (i := 0) rfl))), V30⟩
def Qrm_c5_2A (Z : State) (a2 : Addr) (k2 : ClassId) (vs2 : List Value) (o1 : Int32) (x0 : Int32) (x1 : Int32) (d1 : Addr) (kd : ClassId) (h0 : Heap) (n0 : Nat) (v : Option Value) (h : Heap) (L : List Loc) : Prop := v = some (.int 0) ∧ Fr n0 L ∧ h = h0
theorem ef_rm_c5_2A (m : MethodId) (x0 : Addr) (x1 : Int32) (x2 : Addr) (x3 : Int32) (x4 : Int32) : entryFrame m #[(.ref x0), (.int x1), (.ref x2), (.int x3), (.int x4)] 7 = mkF m 0 (la6 x0 x1 x2 x3 x4) [] := by first | rfl | (simp [entryFrame, mkF, argsToLocals, Value.category]; done)
theorem rm_c5_2A (l : Launch) (Z : State) (a0 : Array Value) (hw : HW Z a0) (ws : List Jvm.Cond) (a2 : Addr) (k2 : ClassId) (vs2 : List Value) (o1 : Int32) (x0 : Int32) (x1 : Int32) (d1 : Addr) (kd : ClassId) (h0 : Heap) (n0 : Nat) (Z0 : n0 ≤ h0.size) (V2 : Arv Z h0 a2 k2 .char (8 : Int32) vs2 (.int 0)) (Vd : Arv Z h0 d1 kd .byte (2 : Int32) [(.int 0), (.int 0)] (.int 0)) (ob0 : (¬ o1 < 0 ∧ o1 < (8 : Int32))) (hx0 : vs2.getD (o1).toNatClampNeg (.int 0) = (.int x0)) (lb0 : (¬ x0 < 0 ∧ ¬ (65535 : Int32) < x0)) (ob1 : (¬ (o1 + (1 : Int32)) < 0 ∧ (o1 + (1 : Int32)) < (8 : Int32))) (hx1 : vs2.getD ((o1 + (1 : Int32))).toNatClampNeg (.int 0) = (.int x1)) (lb1 : (¬ x1 < 0 ∧ ¬ (65535 : Int32) < x1)) (c0 : (255 : Int32) < x0) (gd : n0 ≤ d1) (ned : a2 ≠ d1) :
  OwnM l Z h0 (⟨kS1, "compress", "([CI[BII)I"⟩ : MethodName) (Jvm.Cond.code (⟨kS1, "compress", "([CI[BII)I"⟩ : MethodName) jdk_52_method_21_code 7 (some .int) :: ws) (RM 0 0 0 0) #[(.ref a2), (.int o1), (.ref d1), (.int 0), (.int 2)] (Qrm_c5_2A Z a2 k2 vs2 o1 x0 x1 d1 kd h0 n0) := by
 refine MetFree.of_bodySF (plainFor_of_name pn_3) hisR ?_
 intro p e s m args below meth c s₁ Bd hml0 hP hK
 obtain ⟨rfl, hZ, hh⟩ := hP
 have hx := Bd.exec
 have hby := Bd.bytes
 have hml : c.maxLocals = 7 := hml0
 have hown : s.vm.findClass kS1 = some m.cls := findClass_of_methodNamed Bd.named
 have hnm := (name_of_methodNamed Bd.named Bd.method).1
 have X0 : Stand p l e (RM 0 0 0 0) s m #[(.ref a2), (.int o1), (.ref d1), (.int 0), (.int 2)] below meth c s₁ [] 0 0 := Stand.of_body Bd
 have e0 : s₁.heap = h0 := by rw [← hh, Bd.state]; rfl
 have N0 := Fr.nil n0
 have pre0 : ∀ t, GO p e below s₁ (mkF m 0 (la6 a2 o1 d1 (0 : Int32) (2 : Int32)) []) t → GO p e below s₁ (entryFrame m #[(.ref a2), (.int o1), (.ref d1), (.int 0), (.int 2)] 7) t := fun t k => castTop (ef_rm_c5_2A m a2 o1 d1 ((0 : Int32)) ((2 : Int32))) k
 have lt_V2 := ltA V2.lt
 have lt_Vd := ltA Vd.lt
 obtain ⟨cl31, Ar31, q31, S31, M31, H31, G31⟩ := id V2
 have hin31 : ¬ (o1 < 0 ∨ cl31.slots.size ≤ (o1).toNatClampNeg) := inb_of S31 ob0
 have hat31 : cl31.slots[(o1).toNatClampNeg]? = some (.int x0) := Has.at H31 hin31 hx0
 obtain ⟨fs, hr, hrun, hended, hW, hsame⟩ := X0.leave (v := some (.int 0)) (fun h => by rw [Bd.returns] at h; cases h)
 refine ⟨_, _, pre0 _ ?_, hrun, hended, _, _, rfl, ?_, ⟨_, rfl⟩, hW, hsame.mono (by decide) (by decide)⟩
 ·show GO p e below s₁ (mkF m 0 (la6 a2 o1 d1 (0 : Int32) (2 : Int32)) []) _
  refine XS.iconst X0.here hx rfl (hb hby d16_0) ?_
  show GO p e below s₁ (mkF m 1 (la6 a2 o1 d1 (0 : Int32) (2 : Int32)) [(.int 0)]) _
  refine XS.istore X0.here hx rfl (hb hby d16_1) rfl (l' := (la7 a2 o1 d1 (0 : Int32) (2 : Int32) (0 : Int32))) rfl ?_
  show GO p e below s₁ (mkF m 3 (la7 a2 o1 d1 (0 : Int32) (2 : Int32) (0 : Int32)) []) _
  refine XS.iload X0.here hx rfl (hb hby d16_3) rfl ?_
  show GO p e below s₁ (mkF m 5 (la7 a2 o1 d1 (0 : Int32) (2 : Int32) (0 : Int32)) [(.int 0)]) _
  refine XS.iload X0.here hx rfl (hb hby d16_5) rfl ?_
  show GO p e below s₁ (mkF m 7 (la7 a2 o1 d1 (0 : Int32) (2 : Int32) (0 : Int32)) [(.int 2), (.int 0)]) _
  refine XS.icmpNo X0.here hx rfl (hb hby d16_7) rfl (tlt ((by decide) : (0 : Int32) < (2 : Int32))).2.1 ?_
  show GO p e below s₁ (mkF m 10 (la7 a2 o1 d1 (0 : Int32) (2 : Int32) (0 : Int32)) []) _
  refine XS.aloadN X0.here hx rfl (hb hby d16_10) rfl rfl ?_
  show GO p e below s₁ (mkF m 11 (la7 a2 o1 d1 (0 : Int32) (2 : Int32) (0 : Int32)) [(.ref a2)]) _
  refine XS.iloadN X0.here hx rfl (hb hby d16_11) rfl ?_
  show GO p e below s₁ (mkF m 12 (la7 a2 o1 d1 (0 : Int32) (2 : Int32) (0 : Int32)) [(.int o1), (.ref a2)]) _
  refine X0.caload hx (j := o1) (v := (.int x0)) (by rw [e0]; exact Ar31.1) (State.isArrayOf_alike hZ.alike Ar31.2.1) Ar31.2.2 hin31 hat31 (g := (mkF m 12 (la7 a2 o1 d1 (0 : Int32) (2 : Int32) (0 : Int32)) [(.int o1), (.ref a2)])) rfl rfl (hb hby d16_12) _ ?_
  show GO p e below s₁ (mkF m 13 (la7 a2 o1 d1 (0 : Int32) (2 : Int32) (0 : Int32)) [(.int x0)]) _
  refine XS.istore X0.here hx rfl (hb hby d16_13) rfl (l' := (la8 a2 o1 d1 (0 : Int32) (2 : Int32) (0 : Int32) x0)) rfl ?_
  show GO p e below s₁ (mkF m 15 (la8 a2 o1 d1 (0 : Int32) (2 : Int32) (0 : Int32) x0) []) _
  refine XS.iload X0.here hx rfl (hb hby d16_15) rfl ?_
  show GO p e below s₁ (mkF m 17 (la8 a2 o1 d1 (0 : Int32) (2 : Int32) (0 : Int32) x0) [(.int x0)]) _
  refine XS.sipush X0.here hx rfl (hb hby d16_17) ?_
  show GO p e below s₁ (mkF m 20 (la8 a2 o1 d1 (0 : Int32) (2 : Int32) (0 : Int32) x0) [(.int 255), (.int x0)]) _
  refine XS.icmpNo X0.here hx rfl (hb hby d16_20) rfl (tlt (c0 : (255 : Int32) < x0)).2.2.2 ?_
  show GO p e below s₁ (mkF m 23 (la8 a2 o1 d1 (0 : Int32) (2 : Int32) (0 : Int32) x0) []) _
  refine XS.iload X0.here hx rfl (hb hby d16_23) rfl ?_
  show GO p e below s₁ (mkF m 25 (la8 a2 o1 d1 (0 : Int32) (2 : Int32) (0 : Int32) x0) [(.int 0)]) _
  exact retI X0 hx Bd.returns (hb hby d16_25) hr
 ·show Qrm_c5_2A Z a2 k2 vs2 o1 x0 x1 d1 kd h0 n0 _ s₁.heap _
  rw [e0]
  exact ⟨rfl, N0, rfl⟩
def Qrm_c5_2B (Z : State) (a2 : Addr) (k2 : ClassId) (vs2 : List Value) (o1 : Int32) (x0 : Int32) (x1 : Int32) (d1 : Addr) (kd : ClassId) (h0 : Heap) (n0 : Nat) (v : Option Value) (h : Heap) (L : List Loc) : Prop := v = some (.int 1) ∧ Fr n0 L ∧ Keep h0 h [d1] ∧ Arv Z h d1 kd .byte (2 : Int32) [(.int (x0.toInt8.toInt32)), (.int 0)] (.int 0)
theorem ef_rm_c5_2B (m : MethodId) (x0 : Addr) (x1 : Int32) (x2 : Addr) (x3 : Int32) (x4 : Int32) : entryFrame m #[(.ref x0), (.int x1), (.ref x2), (.int x3), (.int x4)] 7 = mkF m 0 (la6 x0 x1 x2 x3 x4) [] := by first | rfl | (simp [entryFrame, mkF, argsToLocals, Value.category]; done)
theorem rm_c5_2B (l : Launch) (Z : State) (a0 : Array Value) (hw : HW Z a0) (ws : List Jvm.Cond) (a2 : Addr) (k2 : ClassId) (vs2 : List Value) (o1 : Int32) (x0 : Int32) (x1 : Int32) (d1 : Addr) (kd : ClassId) (h0 : Heap) (n0 : Nat) (Z0 : n0 ≤ h0.size) (V2 : Arv Z h0 a2 k2 .char (8 : Int32) vs2 (.int 0)) (Vd : Arv Z h0 d1 kd .byte (2 : Int32) [(.int 0), (.int 0)] (.int 0)) (ob0 : (¬ o1 < 0 ∧ o1 < (8 : Int32))) (hx0 : vs2.getD (o1).toNatClampNeg (.int 0) = (.int x0)) (lb0 : (¬ x0 < 0 ∧ ¬ (65535 : Int32) < x0)) (ob1 : (¬ (o1 + (1 : Int32)) < 0 ∧ (o1 + (1 : Int32)) < (8 : Int32))) (hx1 : vs2.getD ((o1 + (1 : Int32))).toNatClampNeg (.int 0) = (.int x1)) (lb1 : (¬ x1 < 0 ∧ ¬ (65535 : Int32) < x1)) (c0 : ¬ ((255 : Int32) < x0)) (c1 : (255 : Int32) < x1) (gd : n0 ≤ d1) (ned : a2 ≠ d1) :
  OwnM l Z h0 (⟨kS1, "compress", "([CI[BII)I"⟩ : MethodName) (Jvm.Cond.code (⟨kS1, "compress", "([CI[BII)I"⟩ : MethodName) jdk_52_method_21_code 7 (some .int) :: ws) (RM 0 0 0 0) #[(.ref a2), (.int o1), (.ref d1), (.int 0), (.int 2)] (Qrm_c5_2B Z a2 k2 vs2 o1 x0 x1 d1 kd h0 n0) := by
 refine MetFree.of_bodySF (plainFor_of_name pn_3) hisR ?_
 intro p e s m args below meth c s₁ Bd hml0 hP hK
 obtain ⟨rfl, hZ, hh⟩ := hP
 have hx := Bd.exec
 have hby := Bd.bytes
 have hml : c.maxLocals = 7 := hml0
 have hown : s.vm.findClass kS1 = some m.cls := findClass_of_methodNamed Bd.named
 have hnm := (name_of_methodNamed Bd.named Bd.method).1
 have X0 : Stand p l e (RM 0 0 0 0) s m #[(.ref a2), (.int o1), (.ref d1), (.int 0), (.int 2)] below meth c s₁ [] 0 0 := Stand.of_body Bd
 have e0 : s₁.heap = h0 := by rw [← hh, Bd.state]; rfl
 have N0 := Fr.nil n0
 have pre0 : ∀ t, GO p e below s₁ (mkF m 0 (la6 a2 o1 d1 (0 : Int32) (2 : Int32)) []) t → GO p e below s₁ (entryFrame m #[(.ref a2), (.int o1), (.ref d1), (.int 0), (.int 2)] 7) t := fun t k => castTop (ef_rm_c5_2B m a2 o1 d1 ((0 : Int32)) ((2 : Int32))) k
 have lt_V2 := ltA V2.lt
 have lt_Vd := ltA Vd.lt
 obtain ⟨cl32, Ar32, q32, S32, M32, H32, G32⟩ := id V2
 have hin32 : ¬ (o1 < 0 ∨ cl32.slots.size ≤ (o1).toNatClampNeg) := inb_of S32 ob0
 have hat32 : cl32.slots[(o1).toNatClampNeg]? = some (.int x0) := Has.at H32 hin32 hx0
 obtain ⟨cl33, Ar33, q33, S33, M33, H33, G33⟩ := id Vd
 have hin33 : ¬ ((0 : Int32) < 0 ∨ cl33.slots.size ≤ ((0 : Int32)).toNatClampNeg) := inb_of S33 ⟨by decide, by decide⟩
 obtain ⟨T34, h34, X34, e34, W34, st34⟩ := stB X0 hx hZ e0 Ar33 (j := (0 : Int32)) hin33 (g := (mkF m 31 (la8 a2 o1 d1 (0 : Int32) (2 : Int32) (0 : Int32) x0) [(.int (x0.toInt8.toInt32)), (.int 0), (.ref d1)])) rfl rfl (hb hby d16_31)
 have ge35 : n0 ≤ d1 := by omega
 have N34 := Fr.snoc X34 N0 ge35
 have sz34 : h0.size ≤ h34.size := Nat.le_of_eq W34.size.symm
 have nz34 := Nat.le_trans Z0 sz34
 have V34 : Arv Z h34 d1 kd .byte (2 : Int32) [(.int (nar .byte (x0.toInt8.toInt32))), (.int 0)] (.int 0) := Arv.set Ar33 q33 S33 M33 H33 G33 (fits_nar_byte _) W34 0 rfl (Nat.le_of_ble_eq_true rfl)
 have f36 : Arv Z h34 a2 k2 .char (8 : Int32) vs2 (.int 0) := (V2.other W34 ned)
 obtain ⟨cl37, Ar37, q37, S37, M37, H37, G37⟩ := id f36
 have hin37 : ¬ ((o1 + (1 : Int32)) < 0 ∨ cl37.slots.size ≤ ((o1 + (1 : Int32))).toNatClampNeg) := inb_of S37 ob1
 have hat37 : cl37.slots[((o1 + (1 : Int32))).toNatClampNeg]? = some (.int x1) := Has.at H37 hin37 hx1
 have V38 : Arv Z h34 d1 kd .byte (2 : Int32) [(.int (x0.toInt8.toInt32)), (.int 0)] (.int 0) := by
  have q := V34
  rw [own_nb x0] at q
  exact q
 obtain ⟨fs, hr, hrun, hended, hW, hsame⟩ := X34.leave (v := some (.int 1)) (fun h => by rw [Bd.returns] at h; cases h)
 refine ⟨_, _, pre0 _ ?_, hrun, hended, _, _, rfl, ?_, ⟨_, rfl⟩, hW, hsame.mono (by decide) (by decide)⟩
 ·show GO p e below s₁ (mkF m 0 (la6 a2 o1 d1 (0 : Int32) (2 : Int32)) []) _
  refine XS.iconst X0.here hx rfl (hb hby d16_0) ?_
  show GO p e below s₁ (mkF m 1 (la6 a2 o1 d1 (0 : Int32) (2 : Int32)) [(.int 0)]) _
  refine XS.istore X0.here hx rfl (hb hby d16_1) rfl (l' := (la7 a2 o1 d1 (0 : Int32) (2 : Int32) (0 : Int32))) rfl ?_
  show GO p e below s₁ (mkF m 3 (la7 a2 o1 d1 (0 : Int32) (2 : Int32) (0 : Int32)) []) _
  refine XS.iload X0.here hx rfl (hb hby d16_3) rfl ?_
  show GO p e below s₁ (mkF m 5 (la7 a2 o1 d1 (0 : Int32) (2 : Int32) (0 : Int32)) [(.int 0)]) _
  refine XS.iload X0.here hx rfl (hb hby d16_5) rfl ?_
  show GO p e below s₁ (mkF m 7 (la7 a2 o1 d1 (0 : Int32) (2 : Int32) (0 : Int32)) [(.int 2), (.int 0)]) _
  refine XS.icmpNo X0.here hx rfl (hb hby d16_7) rfl (tlt ((by decide) : (0 : Int32) < (2 : Int32))).2.1 ?_
  show GO p e below s₁ (mkF m 10 (la7 a2 o1 d1 (0 : Int32) (2 : Int32) (0 : Int32)) []) _
  refine XS.aloadN X0.here hx rfl (hb hby d16_10) rfl rfl ?_
  show GO p e below s₁ (mkF m 11 (la7 a2 o1 d1 (0 : Int32) (2 : Int32) (0 : Int32)) [(.ref a2)]) _
  refine XS.iloadN X0.here hx rfl (hb hby d16_11) rfl ?_
  show GO p e below s₁ (mkF m 12 (la7 a2 o1 d1 (0 : Int32) (2 : Int32) (0 : Int32)) [(.int o1), (.ref a2)]) _
  refine X0.caload hx (j := o1) (v := (.int x0)) (by rw [e0]; exact Ar32.1) (State.isArrayOf_alike hZ.alike Ar32.2.1) Ar32.2.2 hin32 hat32 (g := (mkF m 12 (la7 a2 o1 d1 (0 : Int32) (2 : Int32) (0 : Int32)) [(.int o1), (.ref a2)])) rfl rfl (hb hby d16_12) _ ?_
  show GO p e below s₁ (mkF m 13 (la7 a2 o1 d1 (0 : Int32) (2 : Int32) (0 : Int32)) [(.int x0)]) _
  refine XS.istore X0.here hx rfl (hb hby d16_13) rfl (l' := (la8 a2 o1 d1 (0 : Int32) (2 : Int32) (0 : Int32) x0)) rfl ?_
  show GO p e below s₁ (mkF m 15 (la8 a2 o1 d1 (0 : Int32) (2 : Int32) (0 : Int32) x0) []) _
  refine XS.iload X0.here hx rfl (hb hby d16_15) rfl ?_
  show GO p e below s₁ (mkF m 17 (la8 a2 o1 d1 (0 : Int32) (2 : Int32) (0 : Int32) x0) [(.int x0)]) _
  refine XS.sipush X0.here hx rfl (hb hby d16_17) ?_
  show GO p e below s₁ (mkF m 20 (la8 a2 o1 d1 (0 : Int32) (2 : Int32) (0 : Int32) x0) [(.int 255), (.int x0)]) _
  refine XS.icmpYes X0.here hx rfl (pc0 := 20) (pc' := 26) rfl (hb hby d16_20) rfl (flt (c0 : ¬ ((255 : Int32) < x0))).2.2.2 (by decide) (by decide) ?_
  show GO p e below s₁ (mkF m 26 (la8 a2 o1 d1 (0 : Int32) (2 : Int32) (0 : Int32) x0) []) _
  refine XS.aloadN X0.here hx rfl (hb hby d16_26) rfl rfl ?_
  show GO p e below s₁ (mkF m 27 (la8 a2 o1 d1 (0 : Int32) (2 : Int32) (0 : Int32) x0) [(.ref d1)]) _
  refine XS.iloadN X0.here hx rfl (hb hby d16_27) rfl ?_
  show GO p e below s₁ (mkF m 28 (la8 a2 o1 d1 (0 : Int32) (2 : Int32) (0 : Int32) x0) [(.int 0), (.ref d1)]) _
  refine XS.iload X0.here hx rfl (hb hby d16_28) rfl ?_
  show GO p e below s₁ (mkF m 30 (la8 a2 o1 d1 (0 : Int32) (2 : Int32) (0 : Int32) x0) [(.int x0), (.int 0), (.ref d1)]) _
  refine XS.i2b X0.here hx rfl (hb hby d16_30) rfl ?_
  show GO p e below s₁ (mkF m 31 (la8 a2 o1 d1 (0 : Int32) (2 : Int32) (0 : Int32) x0) [(.int (x0.toInt8.toInt32)), (.int 0), (.ref d1)]) _
  refine st34 _ ?_
  show GO p e below T34 (mkF m 32 (la8 a2 o1 d1 (0 : Int32) (2 : Int32) (0 : Int32) x0) []) _
  refine XS.iinc X34.here hx rfl (hb hby d16_32) rfl (l' := (la8 a2 (o1 + (1 : Int32)) d1 (0 : Int32) (2 : Int32) (0 : Int32) x0)) rfl ?_
  show GO p e below T34 (mkF m 35 (la8 a2 (o1 + (1 : Int32)) d1 (0 : Int32) (2 : Int32) (0 : Int32) x0) []) _
  refine XS.iinc X34.here hx rfl (hb hby d16_35) rfl (l' := (la8 a2 (o1 + (1 : Int32)) d1 ((0 : Int32) + (1 : Int32)) (2 : Int32) (0 : Int32) x0)) rfl ?_
  rw [show ((0 : Int32) + (1 : Int32)) = (1 : Int32) from by decide]
  show GO p e below T34 (mkF m 38 (la8 a2 (o1 + (1 : Int32)) d1 (1 : Int32) (2 : Int32) (0 : Int32) x0) []) _
  refine XS.iinc X34.here hx rfl (hb hby d16_38) rfl (l' := (la8 a2 (o1 + (1 : Int32)) d1 (1 : Int32) (2 : Int32) ((0 : Int32) + (1 : Int32)) x0)) rfl ?_
  rw [show ((0 : Int32) + (1 : Int32)) = (1 : Int32) from by decide]
  show GO p e below T34 (mkF m 41 (la8 a2 (o1 + (1 : Int32)) d1 (1 : Int32) (2 : Int32) (1 : Int32) x0) []) _
  refine XS.goto X34.here hx rfl (pc0 := 41) (pc' := 3) rfl (hb hby d16_41) (by decide) (by decide) ?_
  show GO p e below T34 (mkF m 3 (la8 a2 (o1 + (1 : Int32)) d1 (1 : Int32) (2 : Int32) (1 : Int32) x0) []) _
  refine XS.iload X34.here hx rfl (hb hby d16_3) rfl ?_
  show GO p e below T34 (mkF m 5 (la8 a2 (o1 + (1 : Int32)) d1 (1 : Int32) (2 : Int32) (1 : Int32) x0) [(.int 1)]) _
  refine XS.iload X34.here hx rfl (hb hby d16_5) rfl ?_
  show GO p e below T34 (mkF m 7 (la8 a2 (o1 + (1 : Int32)) d1 (1 : Int32) (2 : Int32) (1 : Int32) x0) [(.int 2), (.int 1)]) _
  refine XS.icmpNo X34.here hx rfl (hb hby d16_7) rfl (tlt ((by decide) : (1 : Int32) < (2 : Int32))).2.1 ?_
  show GO p e below T34 (mkF m 10 (la8 a2 (o1 + (1 : Int32)) d1 (1 : Int32) (2 : Int32) (1 : Int32) x0) []) _
  refine XS.aloadN X34.here hx rfl (hb hby d16_10) rfl rfl ?_
  show GO p e below T34 (mkF m 11 (la8 a2 (o1 + (1 : Int32)) d1 (1 : Int32) (2 : Int32) (1 : Int32) x0) [(.ref a2)]) _
  refine XS.iloadN X34.here hx rfl (hb hby d16_11) rfl ?_
  show GO p e below T34 (mkF m 12 (la8 a2 (o1 + (1 : Int32)) d1 (1 : Int32) (2 : Int32) (1 : Int32) x0) [(.int (o1 + (1 : Int32))), (.ref a2)]) _
  refine X34.caload hx (j := (o1 + (1 : Int32))) (v := (.int x1)) (by rw [e34]; exact Ar37.1) (State.isArrayOf_alike hZ.alike Ar37.2.1) Ar37.2.2 hin37 hat37 (g := (mkF m 12 (la8 a2 (o1 + (1 : Int32)) d1 (1 : Int32) (2 : Int32) (1 : Int32) x0) [(.int (o1 + (1 : Int32))), (.ref a2)])) rfl rfl (hb hby d16_12) _ ?_
  show GO p e below T34 (mkF m 13 (la8 a2 (o1 + (1 : Int32)) d1 (1 : Int32) (2 : Int32) (1 : Int32) x0) [(.int x1)]) _
  refine XS.istore X34.here hx rfl (hb hby d16_13) rfl (l' := (la8 a2 (o1 + (1 : Int32)) d1 (1 : Int32) (2 : Int32) (1 : Int32) x1)) rfl ?_
  show GO p e below T34 (mkF m 15 (la8 a2 (o1 + (1 : Int32)) d1 (1 : Int32) (2 : Int32) (1 : Int32) x1) []) _
  refine XS.iload X34.here hx rfl (hb hby d16_15) rfl ?_
  show GO p e below T34 (mkF m 17 (la8 a2 (o1 + (1 : Int32)) d1 (1 : Int32) (2 : Int32) (1 : Int32) x1) [(.int x1)]) _
  refine XS.sipush X34.here hx rfl (hb hby d16_17) ?_
  show GO p e below T34 (mkF m 20 (la8 a2 (o1 + (1 : Int32)) d1 (1 : Int32) (2 : Int32) (1 : Int32) x1) [(.int 255), (.int x1)]) _
  refine XS.icmpNo X34.here hx rfl (hb hby d16_20) rfl (tlt (c1 : (255 : Int32) < x1)).2.2.2 ?_
  show GO p e below T34 (mkF m 23 (la8 a2 (o1 + (1 : Int32)) d1 (1 : Int32) (2 : Int32) (1 : Int32) x1) []) _
  refine XS.iload X34.here hx rfl (hb hby d16_23) rfl ?_
  show GO p e below T34 (mkF m 25 (la8 a2 (o1 + (1 : Int32)) d1 (1 : Int32) (2 : Int32) (1 : Int32) x1) [(.int 1)]) _
  exact retI X34 hx Bd.returns (hb hby d16_25) hr
 ·show Qrm_c5_2B Z a2 k2 vs2 o1 x0 x1 d1 kd h0 n0 _ T34.heap _
  rw [e34]
  exact ⟨rfl, N34, ((Keep.refl h0 [d1]).wr W34 (Or.inl (List.mem_of_getElem? (i := 0) rfl))), V38⟩
def Qrm_nbl1 (Z : State)  (h0 : Heap) (n0 : Nat) (v : Option Value) (h : Heap) (L : List Loc) : Prop := v = some (.int 2) ∧ Fr n0 L ∧ h = h0
theorem ef_rm_nbl1 (m : MethodId) (x0 : Int32) : entryFrame m #[(.int x0)] 1 = mkF m 0 #[.val (.int x0)] [] := by first | rfl | (simp [entryFrame, mkF, argsToLocals, Value.category]; done)
theorem rm_nbl1 (l : Launch) (Z : State) (a0 : Array Value) (hw : HW Z a0) (ws : List Jvm.Cond)  (h0 : Heap) (n0 : Nat) (Z0 : n0 ≤ h0.size) :
  OwnM l Z h0 (⟨kS1, "newBytesLength", "(I)I"⟩ : MethodName) (Jvm.Cond.code (⟨kS1, "newBytesLength", "(I)I"⟩ : MethodName) jdk_52_method_3_code 1 (some .int) :: ws) (RM 0 0 0 0) #[(.int 1)] (Qrm_nbl1 Z  h0 n0) := by
 refine MetFree.of_bodySF (plainFor_of_name pn_3) hisR ?_
 intro p e s m args below meth c s₁ Bd hml0 hP hK
 obtain ⟨rfl, hZ, hh⟩ := hP
 have hx := Bd.exec
 have hby := Bd.bytes
 have hml : c.maxLocals = 1 := hml0
 have hown : s.vm.findClass kS1 = some m.cls := findClass_of_methodNamed Bd.named
 have hnm := (name_of_methodNamed Bd.named Bd.method).1
 have X0 : Stand p l e (RM 0 0 0 0) s m #[(.int 1)] below meth c s₁ [] 0 0 := Stand.of_body Bd
 have e0 : s₁.heap = h0 := by rw [← hh, Bd.state]; rfl
 have N0 := Fr.nil n0
 have pre0 : ∀ t, GO p e below s₁ (mkF m 0 #[.val (.int 1)] []) t → GO p e below s₁ (entryFrame m #[(.int 1)] 1) t := fun t k => castTop (ef_rm_nbl1 m ((1 : Int32))) k
 obtain ⟨fs, hr, hrun, hended, hW, hsame⟩ := X0.leave (v := some (.int 2)) (fun h => by rw [Bd.returns] at h; cases h)
 refine ⟨_, _, pre0 _ ?_, hrun, hended, _, _, rfl, ?_, ⟨_, rfl⟩, hW, hsame.mono (by decide) (by decide)⟩
 ·show GO p e below s₁ (mkF m 0 #[.val (.int 1)] []) _
  refine XS.iloadN X0.here hx rfl (hb hby d19_0) rfl ?_
  show GO p e below s₁ (mkF m 1 #[.val (.int 1)] [(.int 1)]) _
  refine XS.ifYes X0.here hx rfl (pc0 := 1) (pc' := 12) rfl (hb hby d19_1) rfl ((if0 _ _).trans (flt ((by decide) : ¬ ((1 : Int32) < (0 : Int32)))).2.1) (by decide) (by decide) ?_
  show GO p e below s₁ (mkF m 12 #[.val (.int 1)] []) _
  refine XS.iloadN X0.here hx rfl (hb hby d19_12) rfl ?_
  show GO p e below s₁ (mkF m 13 #[.val (.int 1)] [(.int 1)]) _
  refine X0.ldcInt hx hown (mvT hZ (wd hw 100 rfl)) (g := (mkF m 13 #[.val (.int 1)] [(.int 1)])) rfl (hb hby d19_13) _ ?_
  show GO p e below s₁ (mkF m 15 #[.val (.int 1)] [(.int 1073741823), (.int 1)]) _
  refine XS.icmpYes X0.here hx rfl (pc0 := 15) (pc' := 55) rfl (hb hby d19_15) rfl (tlt ((by decide) : (1 : Int32) < (1073741823 : Int32))).1 (by decide) (by decide) ?_
  show GO p e below s₁ (mkF m 55 #[.val (.int 1)] []) _
  refine XS.iloadN X0.here hx rfl (hb hby d19_55) rfl ?_
  show GO p e below s₁ (mkF m 56 #[.val (.int 1)] [(.int 1)]) _
  refine XS.iconst X0.here hx rfl (hb hby d19_56) ?_
  show GO p e below s₁ (mkF m 57 #[.val (.int 1)] [(.int 1), (.int 1)]) _
  refine XS.ishl X0.here hx rfl (hb hby d19_57) rfl ?_
  rw [show ((1 : Int32) <<< ((1 : Int32) &&& 31)) = (2 : Int32) from by decide]
  show GO p e below s₁ (mkF m 58 #[.val (.int 1)] [(.int 2)]) _
  exact retI X0 hx Bd.returns (hb hby d19_58) hr
 ·show Qrm_nbl1 Z  h0 n0 _ s₁.heap _
  rw [e0]
  exact ⟨rfl, N0, rfl⟩
def Qrm_nbf1 (Z : State)  (h0 : Heap) (n0 : Nat) (v : Option Value) (h : Heap) (L : List Loc) : Prop := ∃ t : Addr, ∃ k : ClassId, v = some (.ref t) ∧ Fr n0 L ∧ Keep h0 h [] ∧ Arv Z h t k .byte (2 : Int32) [(.int 0), (.int 0)] (.int 0) ∧ h0.size ≤ t
theorem ef_rm_nbf1 (m : MethodId) (x0 : Int32) : entryFrame m #[(.int x0)] 1 = mkF m 0 #[.val (.int x0)] [] := by first | rfl | (simp [entryFrame, mkF, argsToLocals, Value.category]; done)
theorem rm_nbf1 (l : Launch) (Z : State) (a0 : Array Value) (hw : HW Z a0) (ws : List Jvm.Cond)  (h0 : Heap) (n0 : Nat) (Z0 : n0 ≤ h0.size) :
  OwnM l Z h0 (⟨kS1, "newBytesFor", "(I)[B"⟩ : MethodName) (Jvm.Cond.code (⟨kS1, "newBytesFor", "(I)[B"⟩ : MethodName) jdk_52_method_2_code 1 (some (.array .byte)) :: ws) (RM 1 1 2 12) #[(.int 1)] (Qrm_nbf1 Z  h0 n0) := by
 refine MetFree.of_bodySF (plainFor_of_name pn_3) hisR ?_
 intro p e s m args below meth c s₁ Bd hml0 hP hK
 obtain ⟨rfl, hZ, hh⟩ := hP
 have hx := Bd.exec
 have hby := Bd.bytes
 have hml : c.maxLocals = 1 := hml0
 have hown : s.vm.findClass kS1 = some m.cls := findClass_of_methodNamed Bd.named
 have hnm := (name_of_methodNamed Bd.named Bd.method).1
 have X0 : Stand p l e (RM 1 1 2 12) s m #[(.int 1)] below meth c s₁ [] 0 0 := Stand.of_body Bd
 have e0 : s₁.heap = h0 := by rw [← hh, Bd.state]; rfl
 have N0 := Fr.nil n0
 have pre0 : ∀ t, GO p e below s₁ (mkF m 0 #[.val (.int 1)] []) t → GO p e below s₁ (entryFrame m #[(.int 1)] 1) t := fun t k => castTop (ef_rm_nbf1 m ((1 : Int32))) k
 -- pc 1: StringUTF16.newBytesLength by rm_nbl1
 obtain ⟨_, _, ⟨T47, L47, k47, n47⟩, -, X47, ⟨Lc47, hQ47, l47, y47, z47⟩, st47⟩ := Jvm.LawKit.callS X0 hx (y := (⟨kS1, "newBytesLength", "(I)I"⟩ : MethodName)) hown (mvT hZ (wd hw 97 rfl)) (mvT hZ (wd hw 98 rfl)) (mvT hZ (wd hw 86 rfl)) (mvT hZ (wd hw 99 rfl)) (by decide) (backOf (W := 0) (rm_nbl1 l Z a0 hw []  h0 n0 Z0) hZ (wd hw 99 rfl) (wd hw 86 rfl) (by decide) (by decide)) (g := (mkF m 1 #[.val (.int 1)] [(.int 1)])) rfl (by rw [hml]; rfl) (argsL := [(.int 1)]) (rest := []) (lenOf pd_3 rfl) rfl (wz rfl) (hb hby d18_1) (fun _ _ => ⟨rfl, e0, (by decide : 0 + 0 ≤ _), (by decide : 0 + 0 ≤ _)⟩)
 dsimp only [Pt.U, Pt.locs, Pt.cells, Pt.slots] at X47 l47 y47 z47 st47 hQ47
 subst l47 y47 z47
 obtain ⟨rfl, N47q, e47⟩ := hQ47
 have N47 := Fr.app N0 N47q
 obtain ⟨T48, h48, k48, X48, e48, E48, A48, st48⟩ := newP X47 hx hZ (wd hw 66 rfl) e47 (g := (mkF m 4 #[.val (.int 1)] [(.int 2)])) rfl (hb hby d18_4) rfl (by decide) (cap := 2) (by decide) (by decide) (by decide) (by decide)
 obtain ⟨b48, g48⟩ : ∃ z, z = h0.size := ⟨_, rfl⟩
 rw [← g48] at A48 st48
 have sz48 : h0.size ≤ h48.size := E48.1
 have nz48 := Nat.le_trans Z0 sz48
 have lt48 := ltA A48.lt
 have V48 : Arv Z h48 b48 k48 .byte (2 : Int32) [(.int 0), (.int 0)] (.int 0) := (Arv.new A48 (by decide)).pad (pad_rep [] (.int 0) 2)
 obtain ⟨fs, hr, hrun, hended, hW, hsame⟩ := X48.leave (v := some (.ref b48)) (fun h => by rw [Bd.returns] at h; cases h)
 refine ⟨_, _, pre0 _ ?_, hrun, hended, _, _, rfl, ?_, ⟨_, rfl⟩, hW, hsame.mono (by decide) (by decide)⟩
 ·show GO p e below s₁ (mkF m 0 #[.val (.int 1)] []) _
  refine XS.iloadN X0.here hx rfl (hb hby d18_0) rfl ?_
  show GO p e below s₁ (mkF m 1 #[.val (.int 1)] [(.int 1)]) _
  refine st47 _ ?_
  show GO p e below T47 (mkF m 4 #[.val (.int 1)] [(.int 2)]) _
  refine st48 _ ?_
  show GO p e below T48 (mkF m 6 #[.val (.int 1)] [(.ref b48)]) _
  exact retOut X48 hx Bd.returns rfl (Or.inr (Or.inr (Or.inr (Or.inr ⟨rfl, rfl, rfl⟩)))) (hb hby d18_6) hr
 ·show Qrm_nbf1 Z  h0 n0 _ T48.heap _
  rw [e48]
  exact ⟨b48, k48, rfl, N47, ((Keep.refl h0 []).ext E48), V48, (by omega)⟩
def Qrm_pc_1_0 (Z : State) (d1 : Addr) (kd : ClassId) (x1 : Int32) (u0 : Int32) (u1 : Int32) (h0 : Heap) (n0 : Nat) (v : Option Value) (h : Heap) (L : List Loc) : Prop := v = none ∧ Fr n0 L ∧ Keep h0 h [d1] ∧ Arv Z h d1 kd .byte (2 : Int32) [(.int ((x1 >>> ((0 : Int32) &&& 31)).toInt8.toInt32)), (.int ((x1 >>> ((8 : Int32) &&& 31)).toInt8.toInt32))] (.int 0)
theorem ef_rm_pc_1_0 (m : MethodId) (x0 : Addr) (x1 : Int32) (x2 : Int32) : entryFrame m #[(.ref x0), (.int x1), (.int x2)] 3 = mkF m 0 (la5 x0 x1 x2) [] := by first | rfl | (simp [entryFrame, mkF, argsToLocals, Value.category]; done)
theorem rm_pc_1_0 (l : Launch) (Z : State) (a0 : Array Value) (hw : HW Z a0) (ws : List Jvm.Cond) (d1 : Addr) (kd : ClassId) (x1 : Int32) (u0 : Int32) (u1 : Int32) (h0 : Heap) (n0 : Nat) (Z0 : n0 ≤ h0.size) (O0 : Old Z n0 h0) (Vd : Arv Z h0 d1 kd .byte (2 : Int32) [(.int u0), (.int u1)] (.int 0)) (SZad : Sta Z Z.heap kS1 "$assertionsDisabled" "Z" (.int 1)) (SZhi : Sta Z Z.heap kS1 "HI_BYTE_SHIFT" "I" (.int 0)) (SZlo : Sta Z Z.heap kS1 "LO_BYTE_SHIFT" "I" (.int 8)) (gd : n0 ≤ d1) :
  OwnM l Z h0 (⟨kS1, "putChar", "([BII)V"⟩ : MethodName) (Jvm.Cond.code (⟨kS1, "putChar", "([BII)V"⟩ : MethodName) jdk_52_method_4_code 3 none :: ws) (RM 0 0 0 0) #[(.ref d1), (.int 0), (.int x1)] (Qrm_pc_1_0 Z d1 kd x1 u0 u1 h0 n0) := by
 refine MetFree.of_bodySF (plainFor_of_name pn_3) hisR ?_
 intro p e s m args below meth c s₁ Bd hml0 hP hK
 obtain ⟨rfl, hZ, hh⟩ := hP
 have hx := Bd.exec
 have hby := Bd.bytes
 have hml : c.maxLocals = 3 := hml0
 have hown : s.vm.findClass kS1 = some m.cls := findClass_of_methodNamed Bd.named
 have hnm := (name_of_methodNamed Bd.named Bd.method).1
 have X0 : Stand p l e (RM 0 0 0 0) s m #[(.ref d1), (.int 0), (.int x1)] below meth c s₁ [] 0 0 := Stand.of_body Bd
 have e0 : s₁.heap = h0 := by rw [← hh, Bd.state]; rfl
 have N0 := Fr.nil n0
 have pre0 : ∀ t, GO p e below s₁ (mkF m 0 (la5 d1 (0 : Int32) x1) []) t → GO p e below s₁ (entryFrame m #[(.ref d1), (.int 0), (.int x1)] 3) t := fun t k => castTop (ef_rm_pc_1_0 m d1 ((0 : Int32)) x1) k
 have lt_Vd := ltA Vd.lt
 have S49 : Sta Z h0 kS1 "$assertionsDisabled" "Z" (.int 1) := SZad.ext O0.2
 obtain ⟨T50, X50, e50, st50⟩ := getS2 X0 hx hZ hown (host := "") (Or.inl (wd hw 104 rfl)) Via.refl e0 S49 (g := (mkF m 0 (la5 d1 (0 : Int32) x1) [])) rfl (hb hby d20_0)
 have S51 : Sta Z h0 kS1 "HI_BYTE_SHIFT" "I" (.int 0) := SZhi.ext O0.2
 obtain ⟨T52, X52, e52, st52⟩ := getS2 X50 hx hZ hown (host := "") (Or.inl (wd hw 105 rfl)) Via.refl e50 S51 (g := (mkF m 38 (la5 d1 (1 : Int32) x1) [(.int x1), (.int 0), (.ref d1)])) rfl (hb hby d20_38)
 obtain ⟨cl53, Ar53, q53, S53, M53, H53, G53⟩ := id Vd
 have hin53 : ¬ ((0 : Int32) < 0 ∨ cl53.slots.size ≤ ((0 : Int32)).toNatClampNeg) := inb_of S53 ⟨by decide, by decide⟩
 obtain ⟨T54, h54, X54, e54, W54, st54⟩ := stB X52 hx hZ e52 Ar53 (j := (0 : Int32)) hin53 (g := (mkF m 43 (la5 d1 (1 : Int32) x1) [(.int ((x1 >>> ((0 : Int32) &&& 31)).toInt8.toInt32)), (.int 0), (.ref d1)])) rfl rfl (hb hby d20_43)
 have ge55 : n0 ≤ d1 := by omega
 have N54 := Fr.snoc X54 N0 ge55
 have sz54 : h0.size ≤ h54.size := Nat.le_of_eq W54.size.symm
 have nz54 := Nat.le_trans Z0 sz54
 have V54 : Arv Z h54 d1 kd .byte (2 : Int32) [(.int (nar .byte ((x1 >>> ((0 : Int32) &&& 31)).toInt8.toInt32))), (.int u1)] (.int 0) := Arv.set Ar53 q53 S53 M53 H53 G53 (fits_nar_byte _) W54 0 rfl (Nat.le_of_ble_eq_true rfl)
 have f56 : Old Z n0 h54 := (O0.wr W54 ge55)
 have S57 : Sta Z h54 kS1 "LO_BYTE_SHIFT" "I" (.int 8) := SZlo.ext f56.2
 obtain ⟨T58, X58, e58, st58⟩ := getS2 X54 hx hZ hown (host := "") (Or.inl (wd hw 106 rfl)) Via.refl e54 S57 (g := (mkF m 47 (la5 d1 (1 : Int32) x1) [(.int x1), (.int 1), (.ref d1)])) rfl (hb hby d20_47)
 obtain ⟨cl59, Ar59, q59, S59, M59, H59, G59⟩ := id V54
 have hin59 : ¬ ((1 : Int32) < 0 ∨ cl59.slots.size ≤ ((1 : Int32)).toNatClampNeg) := inb_of S59 ⟨by decide, by decide⟩
 obtain ⟨T60, h60, X60, e60, W60, st60⟩ := stB X58 hx hZ e58 Ar59 (j := (1 : Int32)) hin59 (g := (mkF m 52 (la5 d1 (1 : Int32) x1) [(.int ((x1 >>> ((8 : Int32) &&& 31)).toInt8.toInt32)), (.int 1), (.ref d1)])) rfl rfl (hb hby d20_52)
 have N60 := Fr.snoc X60 N54 ge55
 have sz60 : h54.size ≤ h60.size := Nat.le_of_eq W60.size.symm
 have nz60 := Nat.le_trans nz54 sz60
 have V60 : Arv Z h60 d1 kd .byte (2 : Int32) [(.int (nar .byte ((x1 >>> ((0 : Int32) &&& 31)).toInt8.toInt32))), (.int (nar .byte ((x1 >>> ((8 : Int32) &&& 31)).toInt8.toInt32)))] (.int 0) := Arv.set Ar59 q59 S59 M59 H59 G59 (fits_nar_byte _) W60 1 rfl (Nat.le_of_ble_eq_true rfl)
 have V61 : Arv Z h60 d1 kd .byte (2 : Int32) [(.int ((x1 >>> ((0 : Int32) &&& 31)).toInt8.toInt32)), (.int ((x1 >>> ((8 : Int32) &&& 31)).toInt8.toInt32))] (.int 0) := by
  have q := V60
  rw [own_nb (x1 >>> ((0 : Int32) &&& 31)), own_nb (x1 >>> ((8 : Int32) &&& 31))] at q
  exact q
 obtain ⟨fs, hr, hrun, hended, hW, hsame⟩ := X60.leave (v := none) (fun _ => rfl)
 refine ⟨_, _, pre0 _ ?_, hrun, hended, _, _, rfl, ?_, ⟨_, rfl⟩, hW, hsame.mono (by decide) (by decide)⟩
 ·show GO p e below s₁ (mkF m 0 (la5 d1 (0 : Int32) x1) []) _
  refine st50 _ ?_
  show GO p e below T50 (mkF m 3 (la5 d1 (0 : Int32) x1) [(.int 1)]) _
  refine XS.ifYes X50.here hx rfl (pc0 := 3) (pc' := 28) rfl (hb hby d20_3) rfl ((if0 _ _).trans (feq ((by decide) : ¬ ((1 : Int32) = (0 : Int32)))).2) (by decide) (by decide) ?_
  show GO p e below T50 (mkF m 28 (la5 d1 (0 : Int32) x1) []) _
  refine XS.iloadN X50.here hx rfl (hb hby d20_28) rfl ?_
  show GO p e below T50 (mkF m 29 (la5 d1 (0 : Int32) x1) [(.int 0)]) _
  refine XS.iconst X50.here hx rfl (hb hby d20_29) ?_
  show GO p e below T50 (mkF m 30 (la5 d1 (0 : Int32) x1) [(.int 1), (.int 0)]) _
  refine XS.ishl X50.here hx rfl (hb hby d20_30) rfl ?_
  rw [show ((0 : Int32) <<< ((1 : Int32) &&& 31)) = (0 : Int32) from by decide]
  show GO p e below T50 (mkF m 31 (la5 d1 (0 : Int32) x1) [(.int 0)]) _
  refine XS.istoreN X50.here hx rfl (hb hby d20_31) rfl (l' := (la5 d1 (0 : Int32) x1)) rfl ?_
  show GO p e below T50 (mkF m 32 (la5 d1 (0 : Int32) x1) []) _
  refine XS.aloadN X50.here hx rfl (hb hby d20_32) rfl rfl ?_
  show GO p e below T50 (mkF m 33 (la5 d1 (0 : Int32) x1) [(.ref d1)]) _
  refine XS.iloadN X50.here hx rfl (hb hby d20_33) rfl ?_
  show GO p e below T50 (mkF m 34 (la5 d1 (0 : Int32) x1) [(.int 0), (.ref d1)]) _
  refine XS.iinc X50.here hx rfl (hb hby d20_34) rfl (l' := (la5 d1 ((0 : Int32) + (1 : Int32)) x1)) rfl ?_
  rw [show ((0 : Int32) + (1 : Int32)) = (1 : Int32) from by decide]
  show GO p e below T50 (mkF m 37 (la5 d1 (1 : Int32) x1) [(.int 0), (.ref d1)]) _
  refine XS.iloadN X50.here hx rfl (hb hby d20_37) rfl ?_
  show GO p e below T50 (mkF m 38 (la5 d1 (1 : Int32) x1) [(.int x1), (.int 0), (.ref d1)]) _
  refine st52 _ ?_
  show GO p e below T52 (mkF m 41 (la5 d1 (1 : Int32) x1) [(.int 0), (.int x1), (.int 0), (.ref d1)]) _
  refine XS.ishr X52.here hx rfl (hb hby d20_41) rfl ?_
  show GO p e below T52 (mkF m 42 (la5 d1 (1 : Int32) x1) [(.int (x1 >>> ((0 : Int32) &&& 31))), (.int 0), (.ref d1)]) _
  refine XS.i2b X52.here hx rfl (hb hby d20_42) rfl ?_
  show GO p e below T52 (mkF m 43 (la5 d1 (1 : Int32) x1) [(.int ((x1 >>> ((0 : Int32) &&& 31)).toInt8.toInt32)), (.int 0), (.ref d1)]) _
  refine st54 _ ?_
  show GO p e below T54 (mkF m 44 (la5 d1 (1 : Int32) x1) []) _
  refine XS.aloadN X54.here hx rfl (hb hby d20_44) rfl rfl ?_
  show GO p e below T54 (mkF m 45 (la5 d1 (1 : Int32) x1) [(.ref d1)]) _
  refine XS.iloadN X54.here hx rfl (hb hby d20_45) rfl ?_
  show GO p e below T54 (mkF m 46 (la5 d1 (1 : Int32) x1) [(.int 1), (.ref d1)]) _
  refine XS.iloadN X54.here hx rfl (hb hby d20_46) rfl ?_
  show GO p e below T54 (mkF m 47 (la5 d1 (1 : Int32) x1) [(.int x1), (.int 1), (.ref d1)]) _
  refine st58 _ ?_
  show GO p e below T58 (mkF m 50 (la5 d1 (1 : Int32) x1) [(.int 8), (.int x1), (.int 1), (.ref d1)]) _
  refine XS.ishr X58.here hx rfl (hb hby d20_50) rfl ?_
  show GO p e below T58 (mkF m 51 (la5 d1 (1 : Int32) x1) [(.int (x1 >>> ((8 : Int32) &&& 31))), (.int 1), (.ref d1)]) _
  refine XS.i2b X58.here hx rfl (hb hby d20_51) rfl ?_
  show GO p e below T58 (mkF m 52 (la5 d1 (1 : Int32) x1) [(.int ((x1 >>> ((8 : Int32) &&& 31)).toInt8.toInt32)), (.int 1), (.ref d1)]) _
  refine st60 _ ?_
  show GO p e below T60 (mkF m 53 (la5 d1 (1 : Int32) x1) []) _
  exact X60.returnOut hx Bd.returns (hb hby d20_53) hr
 ·show Qrm_pc_1_0 Z d1 kd x1 u0 u1 h0 n0 _ T60.heap _
  rw [e60]
  exact ⟨rfl, N60, (((Keep.refl h0 [d1]).wr W54 (Or.inl (List.mem_of_getElem? (i := 0) rfl))).wr W60 (Or.inl (List.mem_of_getElem? (i := 0) rfl))), V61⟩
def Qrm_gc_1_0 (Z : State) (d1 : Addr) (kd : ClassId) (c1 : Int32) (u0 : Int32) (u1 : Int32) (h0 : Heap) (n0 : Nat) (v : Option Value) (h : Heap) (L : List Loc) : Prop := v = some (.int c1) ∧ Fr n0 L ∧ h = h0
theorem ef_rm_gc_1_0 (m : MethodId) (x0 : Addr) (x1 : Int32) : entryFrame m #[(.ref x0), (.int x1)] 2 = mkF m 0 #[.val (.ref x0), .val (.int x1)] [] := by first | rfl | (simp [entryFrame, mkF, argsToLocals, Value.category]; done)
theorem rm_gc_1_0 (l : Launch) (Z : State) (a0 : Array Value) (hw : HW Z a0) (ws : List Jvm.Cond) (d1 : Addr) (kd : ClassId) (c1 : Int32) (u0 : Int32) (u1 : Int32) (h0 : Heap) (n0 : Nat) (Z0 : n0 ≤ h0.size) (O0 : Old Z n0 h0) (Vd : Arv Z h0 d1 kd .byte (2 : Int32) [(.int u0), (.int u1)] (.int 0)) (SZad : Sta Z Z.heap kS1 "$assertionsDisabled" "Z" (.int 1)) (SZhi : Sta Z Z.heap kS1 "HI_BYTE_SHIFT" "I" (.int 0)) (SZlo : Sta Z Z.heap kS1 "LO_BYTE_SHIFT" "I" (.int 8)) (hc : nar .char ((((u0 &&& (255 : Int32)) <<< ((0 : Int32) &&& 31)) ||| ((u1 &&& (255 : Int32)) <<< ((8 : Int32) &&& 31))).toUInt32.toUInt16.toUInt32.toInt32) = c1) :
  OwnM l Z h0 (⟨kS1, "getChar", "([BI)C"⟩ : MethodName) (Jvm.Cond.code (⟨kS1, "getChar", "([BI)C"⟩ : MethodName) jdk_52_method_5_code 2 (some .char) :: ws) (RM 0 0 0 0) #[(.ref d1), (.int 0)] (Qrm_gc_1_0 Z d1 kd c1 u0 u1 h0 n0) := by
 refine MetFree.of_bodySF (plainFor_of_name pn_3) hisR ?_
 intro p e s m args below meth c s₁ Bd hml0 hP hK
 obtain ⟨rfl, hZ, hh⟩ := hP
 have hx := Bd.exec
 have hby := Bd.bytes
 have hml : c.maxLocals = 2 := hml0
 have hown : s.vm.findClass kS1 = some m.cls := findClass_of_methodNamed Bd.named
 have hnm := (name_of_methodNamed Bd.named Bd.method).1
 have X0 : Stand p l e (RM 0 0 0 0) s m #[(.ref d1), (.int 0)] below meth c s₁ [] 0 0 := Stand.of_body Bd
 have e0 : s₁.heap = h0 := by rw [← hh, Bd.state]; rfl
 have N0 := Fr.nil n0
 have pre0 : ∀ t, GO p e below s₁ (mkF m 0 #[.val (.ref d1), .val (.int 0)] []) t → GO p e below s₁ (entryFrame m #[(.ref d1), (.int 0)] 2) t := fun t k => castTop (ef_rm_gc_1_0 m d1 ((0 : Int32))) k
 have lt_Vd := ltA Vd.lt
 have S62 : Sta Z h0 kS1 "$assertionsDisabled" "Z" (.int 1) := SZad.ext O0.2
 obtain ⟨T63, X63, e63, st63⟩ := getS2 X0 hx hZ hown (host := "") (Or.inl (wd hw 104 rfl)) Via.refl e0 S62 (g := (mkF m 0 #[.val (.ref d1), .val (.int 0)] [])) rfl (hb hby d21_0)
 obtain ⟨cl64, Ar64, q64, S64, M64, H64, G64⟩ := id Vd
 have hin64 : ¬ ((0 : Int32) < 0 ∨ cl64.slots.size ≤ ((0 : Int32)).toNatClampNeg) := inb_of S64 ⟨by decide, by decide⟩
 have hat64 : cl64.slots[((0 : Int32)).toNatClampNeg]? = some (.int u0) := Has.at H64 hin64 rfl
 have S65 : Sta Z h0 kS1 "HI_BYTE_SHIFT" "I" (.int 0) := SZhi.ext O0.2
 obtain ⟨T66, X66, e66, st66⟩ := getS2 X63 hx hZ hown (host := "") (Or.inl (wd hw 105 rfl)) Via.refl e63 S65 (g := (mkF m 42 #[.val (.ref d1), .val (.int 1)] [(.int (u0 &&& (255 : Int32)))])) rfl (hb hby d21_42)
 obtain ⟨cl67, Ar67, q67, S67, M67, H67, G67⟩ := id Vd
 have hin67 : ¬ ((1 : Int32) < 0 ∨ cl67.slots.size ≤ ((1 : Int32)).toNatClampNeg) := inb_of S67 ⟨by decide, by decide⟩
 have hat67 : cl67.slots[((1 : Int32)).toNatClampNeg]? = some (.int u1) := Has.at H67 hin67 rfl
 have S68 : Sta Z h0 kS1 "LO_BYTE_SHIFT" "I" (.int 8) := SZlo.ext O0.2
 obtain ⟨T69, X69, e69, st69⟩ := getS2 X66 hx hZ hown (host := "") (Or.inl (wd hw 106 rfl)) Via.refl e66 S68 (g := (mkF m 53 #[.val (.ref d1), .val (.int 1)] [(.int (u1 &&& (255 : Int32))), (.int ((u0 &&& (255 : Int32)) <<< ((0 : Int32) &&& 31)))])) rfl (hb hby d21_53)
 obtain ⟨fs, hr, hrun, hended, hW, hsame⟩ := X69.leave (v := some (.int (nar .char ((((u0 &&& (255 : Int32)) <<< ((0 : Int32) &&& 31)) ||| ((u1 &&& (255 : Int32)) <<< ((8 : Int32) &&& 31))).toUInt32.toUInt16.toUInt32.toInt32)))) (fun h => by rw [Bd.returns] at h; cases h)
 refine ⟨_, _, pre0 _ ?_, hrun, hended, _, _, rfl, ?_, ⟨_, rfl⟩, hW, hsame.mono (by decide) (by decide)⟩
 ·show GO p e below s₁ (mkF m 0 #[.val (.ref d1), .val (.int 0)] []) _
  refine st63 _ ?_
  show GO p e below T63 (mkF m 3 #[.val (.ref d1), .val (.int 0)] [(.int 1)]) _
  refine XS.ifYes X63.here hx rfl (pc0 := 3) (pc' := 28) rfl (hb hby d21_3) rfl ((if0 _ _).trans (feq ((by decide) : ¬ ((1 : Int32) = (0 : Int32)))).2) (by decide) (by decide) ?_
  show GO p e below T63 (mkF m 28 #[.val (.ref d1), .val (.int 0)] []) _
  refine XS.iloadN X63.here hx rfl (hb hby d21_28) rfl ?_
  show GO p e below T63 (mkF m 29 #[.val (.ref d1), .val (.int 0)] [(.int 0)]) _
  refine XS.iconst X63.here hx rfl (hb hby d21_29) ?_
  show GO p e below T63 (mkF m 30 #[.val (.ref d1), .val (.int 0)] [(.int 1), (.int 0)]) _
  refine XS.ishl X63.here hx rfl (hb hby d21_30) rfl ?_
  rw [show ((0 : Int32) <<< ((1 : Int32) &&& 31)) = (0 : Int32) from by decide]
  show GO p e below T63 (mkF m 31 #[.val (.ref d1), .val (.int 0)] [(.int 0)]) _
  refine XS.istoreN X63.here hx rfl (hb hby d21_31) rfl (l' := #[.val (.ref d1), .val (.int 0)]) rfl ?_
  show GO p e below T63 (mkF m 32 #[.val (.ref d1), .val (.int 0)] []) _
  refine XS.aloadN X63.here hx rfl (hb hby d21_32) rfl rfl ?_
  show GO p e below T63 (mkF m 33 #[.val (.ref d1), .val (.int 0)] [(.ref d1)]) _
  refine XS.iloadN X63.here hx rfl (hb hby d21_33) rfl ?_
  show GO p e below T63 (mkF m 34 #[.val (.ref d1), .val (.int 0)] [(.int 0), (.ref d1)]) _
  refine XS.iinc X63.here hx rfl (hb hby d21_34) rfl (l' := #[.val (.ref d1), .val (.int ((0 : Int32) + (1 : Int32)))]) rfl ?_
  rw [show ((0 : Int32) + (1 : Int32)) = (1 : Int32) from by decide]
  show GO p e below T63 (mkF m 37 #[.val (.ref d1), .val (.int 1)] [(.int 0), (.ref d1)]) _
  refine X63.baloadBytes hx (j := (0 : Int32)) (v := (.int u0)) (by rw [e63]; exact Ar64.1) (State.isArrayOf_alike hZ.alike Ar64.2.1) Ar64.2.2 hin64 hat64 (g := (mkF m 37 #[.val (.ref d1), .val (.int 1)] [(.int 0), (.ref d1)])) rfl rfl (hb hby d21_37) _ ?_
  show GO p e below T63 (mkF m 38 #[.val (.ref d1), .val (.int 1)] [(.int u0)]) _
  refine XS.sipush X63.here hx rfl (hb hby d21_38) ?_
  show GO p e below T63 (mkF m 41 #[.val (.ref d1), .val (.int 1)] [(.int 255), (.int u0)]) _
  refine XS.iand X63.here hx rfl (hb hby d21_41) rfl ?_
  show GO p e below T63 (mkF m 42 #[.val (.ref d1), .val (.int 1)] [(.int (u0 &&& (255 : Int32)))]) _
  refine st66 _ ?_
  show GO p e below T66 (mkF m 45 #[.val (.ref d1), .val (.int 1)] [(.int 0), (.int (u0 &&& (255 : Int32)))]) _
  refine XS.ishl X66.here hx rfl (hb hby d21_45) rfl ?_
  show GO p e below T66 (mkF m 46 #[.val (.ref d1), .val (.int 1)] [(.int ((u0 &&& (255 : Int32)) <<< ((0 : Int32) &&& 31)))]) _
  refine XS.aloadN X66.here hx rfl (hb hby d21_46) rfl rfl ?_
  show GO p e below T66 (mkF m 47 #[.val (.ref d1), .val (.int 1)] [(.ref d1), (.int ((u0 &&& (255 : Int32)) <<< ((0 : Int32) &&& 31)))]) _
  refine XS.iloadN X66.here hx rfl (hb hby d21_47) rfl ?_
  show GO p e below T66 (mkF m 48 #[.val (.ref d1), .val (.int 1)] [(.int 1), (.ref d1), (.int ((u0 &&& (255 : Int32)) <<< ((0 : Int32) &&& 31)))]) _
  refine X66.baloadBytes hx (j := (1 : Int32)) (v := (.int u1)) (by rw [e66]; exact Ar67.1) (State.isArrayOf_alike hZ.alike Ar67.2.1) Ar67.2.2 hin67 hat67 (g := (mkF m 48 #[.val (.ref d1), .val (.int 1)] [(.int 1), (.ref d1), (.int ((u0 &&& (255 : Int32)) <<< ((0 : Int32) &&& 31)))])) rfl rfl (hb hby d21_48) _ ?_
  show GO p e below T66 (mkF m 49 #[.val (.ref d1), .val (.int 1)] [(.int u1), (.int ((u0 &&& (255 : Int32)) <<< ((0 : Int32) &&& 31)))]) _
  refine XS.sipush X66.here hx rfl (hb hby d21_49) ?_
  show GO p e below T66 (mkF m 52 #[.val (.ref d1), .val (.int 1)] [(.int 255), (.int u1), (.int ((u0 &&& (255 : Int32)) <<< ((0 : Int32) &&& 31)))]) _
  refine XS.iand X66.here hx rfl (hb hby d21_52) rfl ?_
  show GO p e below T66 (mkF m 53 #[.val (.ref d1), .val (.int 1)] [(.int (u1 &&& (255 : Int32))), (.int ((u0 &&& (255 : Int32)) <<< ((0 : Int32) &&& 31)))]) _
  refine st69 _ ?_
  show GO p e below T69 (mkF m 56 #[.val (.ref d1), .val (.int 1)] [(.int 8), (.int (u1 &&& (255 : Int32))), (.int ((u0 &&& (255 : Int32)) <<< ((0 : Int32) &&& 31)))]) _
  refine XS.ishl X69.here hx rfl (hb hby d21_56) rfl ?_
  show GO p e below T69 (mkF m 57 #[.val (.ref d1), .val (.int 1)] [(.int ((u1 &&& (255 : Int32)) <<< ((8 : Int32) &&& 31))), (.int ((u0 &&& (255 : Int32)) <<< ((0 : Int32) &&& 31)))]) _
  refine XS.ior X69.here hx rfl (hb hby d21_57) rfl ?_
  show GO p e below T69 (mkF m 58 #[.val (.ref d1), .val (.int 1)] [(.int (((u0 &&& (255 : Int32)) <<< ((0 : Int32) &&& 31)) ||| ((u1 &&& (255 : Int32)) <<< ((8 : Int32) &&& 31))))]) _
  refine XS.i2c X69.here hx rfl (hb hby d21_58) rfl ?_
  show GO p e below T69 (mkF m 59 #[.val (.ref d1), .val (.int 1)] [(.int ((((u0 &&& (255 : Int32)) <<< ((0 : Int32) &&& 31)) ||| ((u1 &&& (255 : Int32)) <<< ((8 : Int32) &&& 31))).toUInt32.toUInt16.toUInt32.toInt32))]) _
  exact retN X69 hx (t := .char) Bd.returns (by simp) (hb hby d21_59) hr
 ·show Qrm_gc_1_0 Z d1 kd c1 u0 u1 h0 n0 _ T69.heap _
  rw [e69]
  exact ⟨(by rw [hc]), N0, rfl⟩
def Qrm_l16_1 (Z : State) (d1 : Addr) (kd : ClassId) (v1 : List Value) (h0 : Heap) (n0 : Nat) (v : Option Value) (h : Heap) (L : List Loc) : Prop := v = some (.int 1) ∧ Fr n0 L ∧ h = h0
theorem ef_rm_l16_1 (m : MethodId) (x0 : Addr) : entryFrame m #[(.ref x0)] 1 = mkF m 0 #[.val (.ref x0)] [] := by first | rfl | (simp [entryFrame, mkF, argsToLocals, Value.category]; done)
theorem rm_l16_1 (l : Launch) (Z : State) (a0 : Array Value) (hw : HW Z a0) (ws : List Jvm.Cond) (d1 : Addr) (kd : ClassId) (v1 : List Value) (h0 : Heap) (n0 : Nat) (Z0 : n0 ≤ h0.size) (Vd : Arv Z h0 d1 kd .byte (2 : Int32) v1 (.int 0)) :
  OwnM l Z h0 (⟨kS1, "length", "([B)I"⟩ : MethodName) (Jvm.Cond.code (⟨kS1, "length", "([B)I"⟩ : MethodName) jdk_52_method_6_code 1 (some .int) :: ws) (RM 0 0 0 0) #[(.ref d1)] (Qrm_l16_1 Z d1 kd v1 h0 n0) := by
 refine MetFree.of_bodySF (plainFor_of_name pn_3) hisR ?_
 intro p e s m args below meth c s₁ Bd hml0 hP hK
 obtain ⟨rfl, hZ, hh⟩ := hP
 have hx := Bd.exec
 have hby := Bd.bytes
 have hml : c.maxLocals = 1 := hml0
 have hown : s.vm.findClass kS1 = some m.cls := findClass_of_methodNamed Bd.named
 have hnm := (name_of_methodNamed Bd.named Bd.method).1
 have X0 : Stand p l e (RM 0 0 0 0) s m #[(.ref d1)] below meth c s₁ [] 0 0 := Stand.of_body Bd
 have e0 : s₁.heap = h0 := by rw [← hh, Bd.state]; rfl
 have N0 := Fr.nil n0
 have pre0 : ∀ t, GO p e below s₁ (mkF m 0 #[.val (.ref d1)] []) t → GO p e below s₁ (entryFrame m #[(.ref d1)] 1) t := fun t k => castTop (ef_rm_l16_1 m d1) k
 have lt_Vd := ltA Vd.lt
 obtain ⟨cl70, Ar70, -, S70, M70, -, -⟩ := id Vd
 obtain ⟨fs, hr, hrun, hended, hW, hsame⟩ := X0.leave (v := some (.int 1)) (fun h => by rw [Bd.returns] at h; cases h)
 refine ⟨_, _, pre0 _ ?_, hrun, hended, _, _, rfl, ?_, ⟨_, rfl⟩, hW, hsame.mono (by decide) (by decide)⟩
 ·show GO p e below s₁ (mkF m 0 #[.val (.ref d1)] []) _
  refine XS.aloadN X0.here hx rfl (hb hby d27_0) rfl rfl ?_
  show GO p e below s₁ (mkF m 1 #[.val (.ref d1)] [(.ref d1)]) _
  refine X0.arraylength hx (by rw [e0]; exact Ar70.1) (State.isArrayOf_alike hZ.alike Ar70.2.1) (g := (mkF m 1 #[.val (.ref d1)] [(.ref d1)])) rfl rfl (hb hby d27_1) _ ?_
  rw [len_of S70 M70]
  show GO p e below s₁ (mkF m 2 #[.val (.ref d1)] [(.int 2)]) _
  refine XS.iconst X0.here hx rfl (hb hby d27_2) ?_
  show GO p e below s₁ (mkF m 3 #[.val (.ref d1)] [(.int 1), (.int 2)]) _
  refine XS.ishr X0.here hx rfl (hb hby d27_3) rfl ?_
  rw [show ((2 : Int32) >>> ((1 : Int32) &&& 31)) = (1 : Int32) from by decide]
  show GO p e below s₁ (mkF m 4 #[.val (.ref d1)] [(.int 1)]) _
  exact retI X0 hx Bd.returns (hb hby d27_4) hr
 ·show Qrm_l16_1 Z d1 kd v1 h0 n0 _ s₁.heap _
  rw [e0]
  exact ⟨rfl, N0, rfl⟩
def Qrm_tob1 (Z : State) (a2 : Addr) (k2 : ClassId) (vs2 : List Value) (o1 : Int32) (x0 : Int32) (h0 : Heap) (n0 : Nat) (v : Option Value) (h : Heap) (L : List Loc) : Prop := ∃ t : Addr, ∃ k : ClassId, v = some (.ref t) ∧ Fr n0 L ∧ Keep h0 h [] ∧ Arv Z h t k .byte (2 : Int32) [(.int ((x0 >>> ((0 : Int32) &&& 31)).toInt8.toInt32)), (.int ((x0 >>> ((8 : Int32) &&& 31)).toInt8.toInt32))] (.int 0) ∧ h0.size ≤ t
theorem ef_rm_tob1 (m : MethodId) (x0 : Addr) (x1 : Int32) (x2 : Int32) : entryFrame m #[(.ref x0), (.int x1), (.int x2)] 5 = mkF m 0 (la9 x0 x1 x2) [] := by first | rfl | (simp [entryFrame, mkF, argsToLocals, Value.category]; done)
theorem rm_tob1 (l : Launch) (Z : State) (a0 : Array Value) (hw : HW Z a0) (ws : List Jvm.Cond) (a2 : Addr) (k2 : ClassId) (vs2 : List Value) (o1 : Int32) (x0 : Int32) (h0 : Heap) (n0 : Nat) (Z0 : n0 ≤ h0.size) (O0 : Old Z n0 h0) (V2 : Arv Z h0 a2 k2 .char (8 : Int32) vs2 (.int 0)) (SZad : Sta Z Z.heap kS1 "$assertionsDisabled" "Z" (.int 1)) (SZhi : Sta Z Z.heap kS1 "HI_BYTE_SHIFT" "I" (.int 0)) (SZlo : Sta Z Z.heap kS1 "LO_BYTE_SHIFT" "I" (.int 8)) (ob0 : (¬ o1 < 0 ∧ o1 < (8 : Int32))) (hx0 : vs2.getD (o1).toNatClampNeg (.int 0) = (.int x0)) (lb0 : (¬ x0 < 0 ∧ ¬ (65535 : Int32) < x0)) :
  OwnM l Z h0 (⟨kS1, "toBytes", "([CII)[B"⟩ : MethodName) (Jvm.Cond.code (⟨kS1, "toBytes", "([CII)[B"⟩ : MethodName) jdk_52_method_14_code 5 (some (.array .byte)) :: ws) (RM 2 1 2 24) #[(.ref a2), (.int o1), (.int 1)] (Qrm_tob1 Z a2 k2 vs2 o1 x0 h0 n0) := by
 refine MetFree.of_bodySF (plainFor_of_name pn_3) hisR ?_
 intro p e s m args below meth c s₁ Bd hml0 hP hK
 obtain ⟨rfl, hZ, hh⟩ := hP
 have hx := Bd.exec
 have hby := Bd.bytes
 have hml : c.maxLocals = 5 := hml0
 have hown : s.vm.findClass kS1 = some m.cls := findClass_of_methodNamed Bd.named
 have hnm := (name_of_methodNamed Bd.named Bd.method).1
 have X0 : Stand p l e (RM 2 1 2 24) s m #[(.ref a2), (.int o1), (.int 1)] below meth c s₁ [] 0 0 := Stand.of_body Bd
 have e0 : s₁.heap = h0 := by rw [← hh, Bd.state]; rfl
 have N0 := Fr.nil n0
 have pre0 : ∀ t, GO p e below s₁ (mkF m 0 (la9 a2 o1 (1 : Int32)) []) t → GO p e below s₁ (entryFrame m #[(.ref a2), (.int o1), (.int 1)] 5) t := fun t k => castTop (ef_rm_tob1 m a2 o1 ((1 : Int32))) k
 have lt_V2 := ltA V2.lt
 -- pc 1: StringUTF16.newBytesFor by rm_nbf1
 obtain ⟨_, _, ⟨T71, L71, k71, n71⟩, -, X71, ⟨Lc71, hQ71, l71, y71, z71⟩, st71⟩ := Jvm.LawKit.callS X0 hx (y := (⟨kS1, "newBytesFor", "(I)[B"⟩ : MethodName)) hown (mvT hZ (wd hw 94 rfl)) (mvT hZ (wd hw 95 rfl)) (mvT hZ (wd hw 86 rfl)) (mvT hZ (wd hw 96 rfl)) (by decide) (backOf (W := 0) (rm_nbf1 l Z a0 hw []  h0 n0 Z0) hZ (wd hw 96 rfl) (wd hw 86 rfl) (by decide) (by decide)) (g := (mkF m 1 (la9 a2 o1 (1 : Int32)) [(.int 1)])) rfl (by rw [hml]; rfl) (argsL := [(.int 1)]) (rest := []) (lenOf pd_4 rfl) rfl (wz rfl) (hb hby d17_1) (fun _ _ => ⟨rfl, e0, (by decide : 0 + 1 ≤ _), (by decide : 0 + 2 ≤ _)⟩)
 dsimp only [Pt.U, Pt.locs, Pt.cells, Pt.slots] at X71 l71 y71 z71 st71 hQ71
 subst l71 y71 z71
 obtain ⟨h71, e71⟩ : ∃ z, T71.heap = z := ⟨_, rfl⟩
 rw [e71] at hQ71
 obtain ⟨t_71, k_71, rfl, N71q, K71, p71_0, r71_0⟩ := hQ71
 have N71 := Fr.app N0 N71q
 have sz71 : h0.size ≤ h71.size := K71.1
 have nz71 := Nat.le_trans Z0 sz71
 have lt71_0 := ltA p71_0.lt
 have f72 : Arv Z h71 a2 k2 .char (8 : Int32) vs2 (.int 0) := (V2.keep K71 nin0)
 obtain ⟨cl73, Ar73, q73, S73, M73, H73, G73⟩ := id f72
 have hin73 : ¬ (o1 < 0 ∨ cl73.slots.size ≤ (o1).toNatClampNeg) := inb_of S73 ob0
 have hat73 : cl73.slots[(o1).toNatClampNeg]? = some (.int x0) := Has.at H73 hin73 hx0
 -- pc 20: StringUTF16.putChar by rm_pc_1_0
 have f75 : Old Z n0 h71 := (O0.keep K71 all0)
 obtain ⟨_, _, ⟨T74, L74, k74, n74⟩, -, X74, ⟨Lc74, hQ74, l74, y74, z74⟩, st74⟩ := Jvm.LawKit.callS X71 hx (y := (⟨kS1, "putChar", "([BII)V"⟩ : MethodName)) hown (mvT hZ (wd hw 101 rfl)) (mvT hZ (wd hw 102 rfl)) (mvT hZ (wd hw 86 rfl)) (mvT hZ (wd hw 103 rfl)) (by decide) (backOf (W := 0) (rm_pc_1_0 l Z a0 hw [] t_71 k_71 x0 (0 : Int32) (0 : Int32) h71 n0 nz71 f75 p71_0 (by first | assumption | decide | omega) (by first | assumption | decide | omega) (by first | assumption | decide | omega) (by first | assumption | decide | omega)) hZ (wd hw 103 rfl) (wd hw 86 rfl) (by decide) (by decide)) (g := (mkF m 20 (la11 a2 o1 (1 : Int32) t_71 (0 : Int32)) [(.int x0), (.int 0), (.ref t_71)])) rfl (by rw [hml]; rfl) (argsL := [(.ref t_71), (.int 0), (.int x0)]) (rest := []) (lenOf pd_5 rfl) rfl (wz rfl) (hb hby d17_20) (fun _ _ => ⟨rfl, e71, (by decide : 1 + 0 ≤ _), (by decide : 2 + 0 ≤ _)⟩)
 dsimp only [Pt.U, Pt.locs, Pt.cells, Pt.slots] at X74 l74 y74 z74 st74 hQ74
 subst l74 y74 z74
 obtain ⟨h74, e74⟩ : ∃ z, T74.heap = z := ⟨_, rfl⟩
 rw [e74] at hQ74
 obtain ⟨rfl, N74q, K74, p74_0⟩ := hQ74
 have N74 := Fr.app N71 N74q
 have sz74 : h71.size ≤ h74.size := K74.1
 have nz74 := Nat.le_trans nz71 sz74
 have lt74_0 := ltA p74_0.lt
 obtain ⟨fs, hr, hrun, hended, hW, hsame⟩ := X74.leave (v := some (.ref t_71)) (fun h => by rw [Bd.returns] at h; cases h)
 refine ⟨_, _, pre0 _ ?_, hrun, hended, _, _, rfl, ?_, ⟨_, rfl⟩, hW, hsame.mono (by decide) (by decide)⟩
 ·show GO p e below s₁ (mkF m 0 (la9 a2 o1 (1 : Int32)) []) _
  refine XS.iloadN X0.here hx rfl (hb hby d17_0) rfl ?_
  show GO p e below s₁ (mkF m 1 (la9 a2 o1 (1 : Int32)) [(.int 1)]) _
  refine st71 _ ?_
  show GO p e below T71 (mkF m 4 (la9 a2 o1 (1 : Int32)) [(.ref t_71)]) _
  refine XS.astoreN X71.here hx rfl (hb hby d17_4) rfl rfl (l' := (la10 a2 o1 (1 : Int32) t_71)) rfl ?_
  show GO p e below T71 (mkF m 5 (la10 a2 o1 (1 : Int32) t_71) []) _
  refine XS.iconst X71.here hx rfl (hb hby d17_5) ?_
  show GO p e below T71 (mkF m 6 (la10 a2 o1 (1 : Int32) t_71) [(.int 0)]) _
  refine XS.istore X71.here hx rfl (hb hby d17_6) rfl (l' := (la11 a2 o1 (1 : Int32) t_71 (0 : Int32))) rfl ?_
  show GO p e below T71 (mkF m 8 (la11 a2 o1 (1 : Int32) t_71 (0 : Int32)) []) _
  refine XS.iload X71.here hx rfl (hb hby d17_8) rfl ?_
  show GO p e below T71 (mkF m 10 (la11 a2 o1 (1 : Int32) t_71 (0 : Int32)) [(.int 0)]) _
  refine XS.iloadN X71.here hx rfl (hb hby d17_10) rfl ?_
  show GO p e below T71 (mkF m 11 (la11 a2 o1 (1 : Int32) t_71 (0 : Int32)) [(.int 1), (.int 0)]) _
  refine XS.icmpNo X71.here hx rfl (hb hby d17_11) rfl (tlt ((by decide) : (0 : Int32) < (1 : Int32))).2.1 ?_
  show GO p e below T71 (mkF m 14 (la11 a2 o1 (1 : Int32) t_71 (0 : Int32)) []) _
  refine XS.aloadN X71.here hx rfl (hb hby d17_14) rfl rfl ?_
  show GO p e below T71 (mkF m 15 (la11 a2 o1 (1 : Int32) t_71 (0 : Int32)) [(.ref t_71)]) _
  refine XS.iload X71.here hx rfl (hb hby d17_15) rfl ?_
  show GO p e below T71 (mkF m 17 (la11 a2 o1 (1 : Int32) t_71 (0 : Int32)) [(.int 0), (.ref t_71)]) _
  refine XS.aloadN X71.here hx rfl (hb hby d17_17) rfl rfl ?_
  show GO p e below T71 (mkF m 18 (la11 a2 o1 (1 : Int32) t_71 (0 : Int32)) [(.ref a2), (.int 0), (.ref t_71)]) _
  refine XS.iloadN X71.here hx rfl (hb hby d17_18) rfl ?_
  show GO p e below T71 (mkF m 19 (la11 a2 o1 (1 : Int32) t_71 (0 : Int32)) [(.int o1), (.ref a2), (.int 0), (.ref t_71)]) _
  refine X71.caload hx (j := o1) (v := (.int x0)) (by rw [e71]; exact Ar73.1) (State.isArrayOf_alike hZ.alike Ar73.2.1) Ar73.2.2 hin73 hat73 (g := (mkF m 19 (la11 a2 o1 (1 : Int32) t_71 (0 : Int32)) [(.int o1), (.ref a2), (.int 0), (.ref t_71)])) rfl rfl (hb hby d17_19) _ ?_
  show GO p e below T71 (mkF m 20 (la11 a2 o1 (1 : Int32) t_71 (0 : Int32)) [(.int x0), (.int 0), (.ref t_71)]) _
  refine st74 _ ?_
  show GO p e below T74 (mkF m 23 (la11 a2 o1 (1 : Int32) t_71 (0 : Int32)) []) _
  refine XS.iinc X74.here hx rfl (hb hby d17_23) rfl (l' := (la11 a2 (o1 + (1 : Int32)) (1 : Int32) t_71 (0 : Int32))) rfl ?_
  show GO p e below T74 (mkF m 26 (la11 a2 (o1 + (1 : Int32)) (1 : Int32) t_71 (0 : Int32)) []) _
  refine XS.iinc X74.here hx rfl (hb hby d17_26) rfl (l' := (la11 a2 (o1 + (1 : Int32)) (1 : Int32) t_71 ((0 : Int32) + (1 : Int32)))) rfl ?_
  rw [show ((0 : Int32) + (1 : Int32)) = (1 : Int32) from by decide]
  show GO p e below T74 (mkF m 29 (la11 a2 (o1 + (1 : Int32)) (1 : Int32) t_71 (1 : Int32)) []) _
  refine XS.goto X74.here hx rfl (pc0 := 29) (pc' := 8) rfl (hb hby d17_29) (by decide) (by decide) ?_
  show GO p e below T74 (mkF m 8 (la11 a2 (o1 + (1 : Int32)) (1 : Int32) t_71 (1 : Int32)) []) _
  refine XS.iload X74.here hx rfl (hb hby d17_8) rfl ?_
  show GO p e below T74 (mkF m 10 (la11 a2 (o1 + (1 : Int32)) (1 : Int32) t_71 (1 : Int32)) [(.int 1)]) _
  refine XS.iloadN X74.here hx rfl (hb hby d17_10) rfl ?_
  show GO p e below T74 (mkF m 11 (la11 a2 (o1 + (1 : Int32)) (1 : Int32) t_71 (1 : Int32)) [(.int 1), (.int 1)]) _
  refine XS.icmpYes X74.here hx rfl (pc0 := 11) (pc' := 32) rfl (hb hby d17_11) rfl (flt ((by decide) : ¬ ((1 : Int32) < (1 : Int32)))).2.1 (by decide) (by decide) ?_
  show GO p e below T74 (mkF m 32 (la11 a2 (o1 + (1 : Int32)) (1 : Int32) t_71 (1 : Int32)) []) _
  refine XS.aloadN X74.here hx rfl (hb hby d17_32) rfl rfl ?_
  show GO p e below T74 (mkF m 33 (la11 a2 (o1 + (1 : Int32)) (1 : Int32) t_71 (1 : Int32)) [(.ref t_71)]) _
  exact retOut X74 hx Bd.returns rfl (Or.inr (Or.inr (Or.inr (Or.inr ⟨rfl, rfl, rfl⟩)))) (hb hby d17_33) hr
 ·show Qrm_tob1 Z a2 k2 vs2 o1 x0 h0 n0 _ T74.heap _
  rw [e74]
  exact ⟨t_71, k_71, rfl, N74, (((Keep.refl h0 []).trans K71 all0).trans K74 (allS (P := fun x => x ∈ _ ∨ _) (Or.inr (by omega)) all0)), p74_0, (by omega)⟩
def Qrm_nbl2 (Z : State)  (h0 : Heap) (n0 : Nat) (v : Option Value) (h : Heap) (L : List Loc) : Prop := v = some (.int 4) ∧ Fr n0 L ∧ h = h0
theorem ef_rm_nbl2 (m : MethodId) (x0 : Int32) : entryFrame m #[(.int x0)] 1 = mkF m 0 #[.val (.int x0)] [] := by first | rfl | (simp [entryFrame, mkF, argsToLocals, Value.category]; done)
theorem rm_nbl2 (l : Launch) (Z : State) (a0 : Array Value) (hw : HW Z a0) (ws : List Jvm.Cond)  (h0 : Heap) (n0 : Nat) (Z0 : n0 ≤ h0.size) :
  OwnM l Z h0 (⟨kS1, "newBytesLength", "(I)I"⟩ : MethodName) (Jvm.Cond.code (⟨kS1, "newBytesLength", "(I)I"⟩ : MethodName) jdk_52_method_3_code 1 (some .int) :: ws) (RM 0 0 0 0) #[(.int 2)] (Qrm_nbl2 Z  h0 n0) := by
 refine MetFree.of_bodySF (plainFor_of_name pn_3) hisR ?_
 intro p e s m args below meth c s₁ Bd hml0 hP hK
 obtain ⟨rfl, hZ, hh⟩ := hP
 have hx := Bd.exec
 have hby := Bd.bytes
 have hml : c.maxLocals = 1 := hml0
 have hown : s.vm.findClass kS1 = some m.cls := findClass_of_methodNamed Bd.named
 have hnm := (name_of_methodNamed Bd.named Bd.method).1
 have X0 : Stand p l e (RM 0 0 0 0) s m #[(.int 2)] below meth c s₁ [] 0 0 := Stand.of_body Bd
 have e0 : s₁.heap = h0 := by rw [← hh, Bd.state]; rfl
 have N0 := Fr.nil n0
 have pre0 : ∀ t, GO p e below s₁ (mkF m 0 #[.val (.int 2)] []) t → GO p e below s₁ (entryFrame m #[(.int 2)] 1) t := fun t k => castTop (ef_rm_nbl2 m ((2 : Int32))) k
 obtain ⟨fs, hr, hrun, hended, hW, hsame⟩ := X0.leave (v := some (.int 4)) (fun h => by rw [Bd.returns] at h; cases h)
 refine ⟨_, _, pre0 _ ?_, hrun, hended, _, _, rfl, ?_, ⟨_, rfl⟩, hW, hsame.mono (by decide) (by decide)⟩
 ·show GO p e below s₁ (mkF m 0 #[.val (.int 2)] []) _
  refine XS.iloadN X0.here hx rfl (hb hby d19_0) rfl ?_
  show GO p e below s₁ (mkF m 1 #[.val (.int 2)] [(.int 2)]) _
  refine XS.ifYes X0.here hx rfl (pc0 := 1) (pc' := 12) rfl (hb hby d19_1) rfl ((if0 _ _).trans (flt ((by decide) : ¬ ((2 : Int32) < (0 : Int32)))).2.1) (by decide) (by decide) ?_
  show GO p e below s₁ (mkF m 12 #[.val (.int 2)] []) _
  refine XS.iloadN X0.here hx rfl (hb hby d19_12) rfl ?_
  show GO p e below s₁ (mkF m 13 #[.val (.int 2)] [(.int 2)]) _
  refine X0.ldcInt hx hown (mvT hZ (wd hw 100 rfl)) (g := (mkF m 13 #[.val (.int 2)] [(.int 2)])) rfl (hb hby d19_13) _ ?_
  show GO p e below s₁ (mkF m 15 #[.val (.int 2)] [(.int 1073741823), (.int 2)]) _
  refine XS.icmpYes X0.here hx rfl (pc0 := 15) (pc' := 55) rfl (hb hby d19_15) rfl (tlt ((by decide) : (2 : Int32) < (1073741823 : Int32))).1 (by decide) (by decide) ?_
  show GO p e below s₁ (mkF m 55 #[.val (.int 2)] []) _
  refine XS.iloadN X0.here hx rfl (hb hby d19_55) rfl ?_
  show GO p e below s₁ (mkF m 56 #[.val (.int 2)] [(.int 2)]) _
  refine XS.iconst X0.here hx rfl (hb hby d19_56) ?_
  show GO p e below s₁ (mkF m 57 #[.val (.int 2)] [(.int 1), (.int 2)]) _
  refine XS.ishl X0.here hx rfl (hb hby d19_57) rfl ?_
  rw [show ((2 : Int32) <<< ((1 : Int32) &&& 31)) = (4 : Int32) from by decide]
  show GO p e below s₁ (mkF m 58 #[.val (.int 2)] [(.int 4)]) _
  exact retI X0 hx Bd.returns (hb hby d19_58) hr
 ·show Qrm_nbl2 Z  h0 n0 _ s₁.heap _
  rw [e0]
  exact ⟨rfl, N0, rfl⟩
def Qrm_nbf2 (Z : State)  (h0 : Heap) (n0 : Nat) (v : Option Value) (h : Heap) (L : List Loc) : Prop := ∃ t : Addr, ∃ k : ClassId, v = some (.ref t) ∧ Fr n0 L ∧ Keep h0 h [] ∧ Arv Z h t k .byte (4 : Int32) [(.int 0), (.int 0), (.int 0), (.int 0)] (.int 0) ∧ h0.size ≤ t
theorem ef_rm_nbf2 (m : MethodId) (x0 : Int32) : entryFrame m #[(.int x0)] 1 = mkF m 0 #[.val (.int x0)] [] := by first | rfl | (simp [entryFrame, mkF, argsToLocals, Value.category]; done)
theorem rm_nbf2 (l : Launch) (Z : State) (a0 : Array Value) (hw : HW Z a0) (ws : List Jvm.Cond)  (h0 : Heap) (n0 : Nat) (Z0 : n0 ≤ h0.size) :
  OwnM l Z h0 (⟨kS1, "newBytesFor", "(I)[B"⟩ : MethodName) (Jvm.Cond.code (⟨kS1, "newBytesFor", "(I)[B"⟩ : MethodName) jdk_52_method_2_code 1 (some (.array .byte)) :: ws) (RM 1 1 4 12) #[(.int 2)] (Qrm_nbf2 Z  h0 n0) := by
 refine MetFree.of_bodySF (plainFor_of_name pn_3) hisR ?_
 intro p e s m args below meth c s₁ Bd hml0 hP hK
 obtain ⟨rfl, hZ, hh⟩ := hP
 have hx := Bd.exec
 have hby := Bd.bytes
 have hml : c.maxLocals = 1 := hml0
 have hown : s.vm.findClass kS1 = some m.cls := findClass_of_methodNamed Bd.named
 have hnm := (name_of_methodNamed Bd.named Bd.method).1
 have X0 : Stand p l e (RM 1 1 4 12) s m #[(.int 2)] below meth c s₁ [] 0 0 := Stand.of_body Bd
 have e0 : s₁.heap = h0 := by rw [← hh, Bd.state]; rfl
 have N0 := Fr.nil n0
 have pre0 : ∀ t, GO p e below s₁ (mkF m 0 #[.val (.int 2)] []) t → GO p e below s₁ (entryFrame m #[(.int 2)] 1) t := fun t k => castTop (ef_rm_nbf2 m ((2 : Int32))) k
 -- pc 1: StringUTF16.newBytesLength by rm_nbl2
 obtain ⟨_, _, ⟨T76, L76, k76, n76⟩, -, X76, ⟨Lc76, hQ76, l76, y76, z76⟩, st76⟩ := Jvm.LawKit.callS X0 hx (y := (⟨kS1, "newBytesLength", "(I)I"⟩ : MethodName)) hown (mvT hZ (wd hw 97 rfl)) (mvT hZ (wd hw 98 rfl)) (mvT hZ (wd hw 86 rfl)) (mvT hZ (wd hw 99 rfl)) (by decide) (backOf (W := 0) (rm_nbl2 l Z a0 hw []  h0 n0 Z0) hZ (wd hw 99 rfl) (wd hw 86 rfl) (by decide) (by decide)) (g := (mkF m 1 #[.val (.int 2)] [(.int 2)])) rfl (by rw [hml]; rfl) (argsL := [(.int 2)]) (rest := []) (lenOf pd_3 rfl) rfl (wz rfl) (hb hby d18_1) (fun _ _ => ⟨rfl, e0, (by decide : 0 + 0 ≤ _), (by decide : 0 + 0 ≤ _)⟩)
 dsimp only [Pt.U, Pt.locs, Pt.cells, Pt.slots] at X76 l76 y76 z76 st76 hQ76
 subst l76 y76 z76
 obtain ⟨rfl, N76q, e76⟩ := hQ76
 have N76 := Fr.app N0 N76q
 obtain ⟨T77, h77, k77, X77, e77, E77, A77, st77⟩ := newP X76 hx hZ (wd hw 66 rfl) e76 (g := (mkF m 4 #[.val (.int 2)] [(.int 4)])) rfl (hb hby d18_4) rfl (by decide) (cap := 4) (by decide) (by decide) (by decide) (by decide)
 obtain ⟨b77, g77⟩ : ∃ z, z = h0.size := ⟨_, rfl⟩
 rw [← g77] at A77 st77
 have sz77 : h0.size ≤ h77.size := E77.1
 have nz77 := Nat.le_trans Z0 sz77
 have lt77 := ltA A77.lt
 have V77 : Arv Z h77 b77 k77 .byte (4 : Int32) [(.int 0), (.int 0), (.int 0), (.int 0)] (.int 0) := (Arv.new A77 (by decide)).pad (pad_rep [] (.int 0) 4)
 obtain ⟨fs, hr, hrun, hended, hW, hsame⟩ := X77.leave (v := some (.ref b77)) (fun h => by rw [Bd.returns] at h; cases h)
 refine ⟨_, _, pre0 _ ?_, hrun, hended, _, _, rfl, ?_, ⟨_, rfl⟩, hW, hsame.mono (by decide) (by decide)⟩
 ·show GO p e below s₁ (mkF m 0 #[.val (.int 2)] []) _
  refine XS.iloadN X0.here hx rfl (hb hby d18_0) rfl ?_
  show GO p e below s₁ (mkF m 1 #[.val (.int 2)] [(.int 2)]) _
  refine st76 _ ?_
  show GO p e below T76 (mkF m 4 #[.val (.int 2)] [(.int 4)]) _
  refine st77 _ ?_
  show GO p e below T77 (mkF m 6 #[.val (.int 2)] [(.ref b77)]) _
  exact retOut X77 hx Bd.returns rfl (Or.inr (Or.inr (Or.inr (Or.inr ⟨rfl, rfl, rfl⟩)))) (hb hby d18_6) hr
 ·show Qrm_nbf2 Z  h0 n0 _ T77.heap _
  rw [e77]
  exact ⟨b77, k77, rfl, N76, ((Keep.refl h0 []).ext E77), V77, (by omega)⟩
def Qrm_pc_2_0 (Z : State) (d1 : Addr) (kd : ClassId) (x1 : Int32) (u0 : Int32) (u1 : Int32) (u2 : Int32) (u3 : Int32) (h0 : Heap) (n0 : Nat) (v : Option Value) (h : Heap) (L : List Loc) : Prop := v = none ∧ Fr n0 L ∧ Keep h0 h [d1] ∧ Arv Z h d1 kd .byte (4 : Int32) [(.int ((x1 >>> ((0 : Int32) &&& 31)).toInt8.toInt32)), (.int ((x1 >>> ((8 : Int32) &&& 31)).toInt8.toInt32)), (.int u2), (.int u3)] (.int 0)
theorem ef_rm_pc_2_0 (m : MethodId) (x0 : Addr) (x1 : Int32) (x2 : Int32) : entryFrame m #[(.ref x0), (.int x1), (.int x2)] 3 = mkF m 0 (la5 x0 x1 x2) [] := by first | rfl | (simp [entryFrame, mkF, argsToLocals, Value.category]; done)
theorem rm_pc_2_0 (l : Launch) (Z : State) (a0 : Array Value) (hw : HW Z a0) (ws : List Jvm.Cond) (d1 : Addr) (kd : ClassId) (x1 : Int32) (u0 : Int32) (u1 : Int32) (u2 : Int32) (u3 : Int32) (h0 : Heap) (n0 : Nat) (Z0 : n0 ≤ h0.size) (O0 : Old Z n0 h0) (Vd : Arv Z h0 d1 kd .byte (4 : Int32) [(.int u0), (.int u1), (.int u2), (.int u3)] (.int 0)) (SZad : Sta Z Z.heap kS1 "$assertionsDisabled" "Z" (.int 1)) (SZhi : Sta Z Z.heap kS1 "HI_BYTE_SHIFT" "I" (.int 0)) (SZlo : Sta Z Z.heap kS1 "LO_BYTE_SHIFT" "I" (.int 8)) (gd : n0 ≤ d1) :
  OwnM l Z h0 (⟨kS1, "putChar", "([BII)V"⟩ : MethodName) (Jvm.Cond.code (⟨kS1, "putChar", "([BII)V"⟩ : MethodName) jdk_52_method_4_code 3 none :: ws) (RM 0 0 0 0) #[(.ref d1), (.int 0), (.int x1)] (Qrm_pc_2_0 Z d1 kd x1 u0 u1 u2 u3 h0 n0) := by
 refine MetFree.of_bodySF (plainFor_of_name pn_3) hisR ?_
 intro p e s m args below meth c s₁ Bd hml0 hP hK
 obtain ⟨rfl, hZ, hh⟩ := hP
 have hx := Bd.exec
 have hby := Bd.bytes
 have hml : c.maxLocals = 3 := hml0
 have hown : s.vm.findClass kS1 = some m.cls := findClass_of_methodNamed Bd.named
 have hnm := (name_of_methodNamed Bd.named Bd.method).1
 have X0 : Stand p l e (RM 0 0 0 0) s m #[(.ref d1), (.int 0), (.int x1)] below meth c s₁ [] 0 0 := Stand.of_body Bd
 have e0 : s₁.heap = h0 := by rw [← hh, Bd.state]; rfl
 have N0 := Fr.nil n0
 have pre0 : ∀ t, GO p e below s₁ (mkF m 0 (la5 d1 (0 : Int32) x1) []) t → GO p e below s₁ (entryFrame m #[(.ref d1), (.int 0), (.int x1)] 3) t := fun t k => castTop (ef_rm_pc_2_0 m d1 ((0 : Int32)) x1) k
 have lt_Vd := ltA Vd.lt
 have S78 : Sta Z h0 kS1 "$assertionsDisabled" "Z" (.int 1) := SZad.ext O0.2
 obtain ⟨T79, X79, e79, st79⟩ := getS2 X0 hx hZ hown (host := "") (Or.inl (wd hw 104 rfl)) Via.refl e0 S78 (g := (mkF m 0 (la5 d1 (0 : Int32) x1) [])) rfl (hb hby d20_0)
 have S80 : Sta Z h0 kS1 "HI_BYTE_SHIFT" "I" (.int 0) := SZhi.ext O0.2
 obtain ⟨T81, X81, e81, st81⟩ := getS2 X79 hx hZ hown (host := "") (Or.inl (wd hw 105 rfl)) Via.refl e79 S80 (g := (mkF m 38 (la5 d1 (1 : Int32) x1) [(.int x1), (.int 0), (.ref d1)])) rfl (hb hby d20_38)
 obtain ⟨cl82, Ar82, q82, S82, M82, H82, G82⟩ := id Vd
 have hin82 : ¬ ((0 : Int32) < 0 ∨ cl82.slots.size ≤ ((0 : Int32)).toNatClampNeg) := inb_of S82 ⟨by decide, by decide⟩
 obtain ⟨T83, h83, X83, e83, W83, st83⟩ := stB X81 hx hZ e81 Ar82 (j := (0 : Int32)) hin82 (g := (mkF m 43 (la5 d1 (1 : Int32) x1) [(.int ((x1 >>> ((0 : Int32) &&& 31)).toInt8.toInt32)), (.int 0), (.ref d1)])) rfl rfl (hb hby d20_43)
 have ge84 : n0 ≤ d1 := by omega
 have N83 := Fr.snoc X83 N0 ge84
 have sz83 : h0.size ≤ h83.size := Nat.le_of_eq W83.size.symm
 have nz83 := Nat.le_trans Z0 sz83
 have V83 : Arv Z h83 d1 kd .byte (4 : Int32) [(.int (nar .byte ((x1 >>> ((0 : Int32) &&& 31)).toInt8.toInt32))), (.int u1), (.int u2), (.int u3)] (.int 0) := Arv.set Ar82 q82 S82 M82 H82 G82 (fits_nar_byte _) W83 0 rfl (Nat.le_of_ble_eq_true rfl)
 have f85 : Old Z n0 h83 := (O0.wr W83 ge84)
 have S86 : Sta Z h83 kS1 "LO_BYTE_SHIFT" "I" (.int 8) := SZlo.ext f85.2
 obtain ⟨T87, X87, e87, st87⟩ := getS2 X83 hx hZ hown (host := "") (Or.inl (wd hw 106 rfl)) Via.refl e83 S86 (g := (mkF m 47 (la5 d1 (1 : Int32) x1) [(.int x1), (.int 1), (.ref d1)])) rfl (hb hby d20_47)
 obtain ⟨cl88, Ar88, q88, S88, M88, H88, G88⟩ := id V83
 have hin88 : ¬ ((1 : Int32) < 0 ∨ cl88.slots.size ≤ ((1 : Int32)).toNatClampNeg) := inb_of S88 ⟨by decide, by decide⟩
 obtain ⟨T89, h89, X89, e89, W89, st89⟩ := stB X87 hx hZ e87 Ar88 (j := (1 : Int32)) hin88 (g := (mkF m 52 (la5 d1 (1 : Int32) x1) [(.int ((x1 >>> ((8 : Int32) &&& 31)).toInt8.toInt32)), (.int 1), (.ref d1)])) rfl rfl (hb hby d20_52)
 have N89 := Fr.snoc X89 N83 ge84
 have sz89 : h83.size ≤ h89.size := Nat.le_of_eq W89.size.symm
 have nz89 := Nat.le_trans nz83 sz89
 have V89 : Arv Z h89 d1 kd .byte (4 : Int32) [(.int (nar .byte ((x1 >>> ((0 : Int32) &&& 31)).toInt8.toInt32))), (.int (nar .byte ((x1 >>> ((8 : Int32) &&& 31)).toInt8.toInt32))), (.int u2), (.int u3)] (.int 0) := Arv.set Ar88 q88 S88 M88 H88 G88 (fits_nar_byte _) W89 1 rfl (Nat.le_of_ble_eq_true rfl)
 have V90 : Arv Z h89 d1 kd .byte (4 : Int32) [(.int ((x1 >>> ((0 : Int32) &&& 31)).toInt8.toInt32)), (.int ((x1 >>> ((8 : Int32) &&& 31)).toInt8.toInt32)), (.int u2), (.int u3)] (.int 0) := by
  have q := V89
  rw [own_nb (x1 >>> ((0 : Int32) &&& 31)), own_nb (x1 >>> ((8 : Int32) &&& 31))] at q
  exact q
 obtain ⟨fs, hr, hrun, hended, hW, hsame⟩ := X89.leave (v := none) (fun _ => rfl)
 refine ⟨_, _, pre0 _ ?_, hrun, hended, _, _, rfl, ?_, ⟨_, rfl⟩, hW, hsame.mono (by decide) (by decide)⟩
 ·show GO p e below s₁ (mkF m 0 (la5 d1 (0 : Int32) x1) []) _
  refine st79 _ ?_
  show GO p e below T79 (mkF m 3 (la5 d1 (0 : Int32) x1) [(.int 1)]) _
  refine XS.ifYes X79.here hx rfl (pc0 := 3) (pc' := 28) rfl (hb hby d20_3) rfl ((if0 _ _).trans (feq ((by decide) : ¬ ((1 : Int32) = (0 : Int32)))).2) (by decide) (by decide) ?_
  show GO p e below T79 (mkF m 28 (la5 d1 (0 : Int32) x1) []) _
  refine XS.iloadN X79.here hx rfl (hb hby d20_28) rfl ?_
  show GO p e below T79 (mkF m 29 (la5 d1 (0 : Int32) x1) [(.int 0)]) _
  refine XS.iconst X79.here hx rfl (hb hby d20_29) ?_
  show GO p e below T79 (mkF m 30 (la5 d1 (0 : Int32) x1) [(.int 1), (.int 0)]) _
  refine XS.ishl X79.here hx rfl (hb hby d20_30) rfl ?_
  rw [show ((0 : Int32) <<< ((1 : Int32) &&& 31)) = (0 : Int32) from by decide]
  show GO p e below T79 (mkF m 31 (la5 d1 (0 : Int32) x1) [(.int 0)]) _
  refine XS.istoreN X79.here hx rfl (hb hby d20_31) rfl (l' := (la5 d1 (0 : Int32) x1)) rfl ?_
  show GO p e below T79 (mkF m 32 (la5 d1 (0 : Int32) x1) []) _
  refine XS.aloadN X79.here hx rfl (hb hby d20_32) rfl rfl ?_
  show GO p e below T79 (mkF m 33 (la5 d1 (0 : Int32) x1) [(.ref d1)]) _
  refine XS.iloadN X79.here hx rfl (hb hby d20_33) rfl ?_
  show GO p e below T79 (mkF m 34 (la5 d1 (0 : Int32) x1) [(.int 0), (.ref d1)]) _
  refine XS.iinc X79.here hx rfl (hb hby d20_34) rfl (l' := (la5 d1 ((0 : Int32) + (1 : Int32)) x1)) rfl ?_
  rw [show ((0 : Int32) + (1 : Int32)) = (1 : Int32) from by decide]
  show GO p e below T79 (mkF m 37 (la5 d1 (1 : Int32) x1) [(.int 0), (.ref d1)]) _
  refine XS.iloadN X79.here hx rfl (hb hby d20_37) rfl ?_
  show GO p e below T79 (mkF m 38 (la5 d1 (1 : Int32) x1) [(.int x1), (.int 0), (.ref d1)]) _
  refine st81 _ ?_
  show GO p e below T81 (mkF m 41 (la5 d1 (1 : Int32) x1) [(.int 0), (.int x1), (.int 0), (.ref d1)]) _
  refine XS.ishr X81.here hx rfl (hb hby d20_41) rfl ?_
  show GO p e below T81 (mkF m 42 (la5 d1 (1 : Int32) x1) [(.int (x1 >>> ((0 : Int32) &&& 31))), (.int 0), (.ref d1)]) _
  refine XS.i2b X81.here hx rfl (hb hby d20_42) rfl ?_
  show GO p e below T81 (mkF m 43 (la5 d1 (1 : Int32) x1) [(.int ((x1 >>> ((0 : Int32) &&& 31)).toInt8.toInt32)), (.int 0), (.ref d1)]) _
  refine st83 _ ?_
  show GO p e below T83 (mkF m 44 (la5 d1 (1 : Int32) x1) []) _
  refine XS.aloadN X83.here hx rfl (hb hby d20_44) rfl rfl ?_
  show GO p e below T83 (mkF m 45 (la5 d1 (1 : Int32) x1) [(.ref d1)]) _
  refine XS.iloadN X83.here hx rfl (hb hby d20_45) rfl ?_
  show GO p e below T83 (mkF m 46 (la5 d1 (1 : Int32) x1) [(.int 1), (.ref d1)]) _
  refine XS.iloadN X83.here hx rfl (hb hby d20_46) rfl ?_
  show GO p e below T83 (mkF m 47 (la5 d1 (1 : Int32) x1) [(.int x1), (.int 1), (.ref d1)]) _
  refine st87 _ ?_
  show GO p e below T87 (mkF m 50 (la5 d1 (1 : Int32) x1) [(.int 8), (.int x1), (.int 1), (.ref d1)]) _
  refine XS.ishr X87.here hx rfl (hb hby d20_50) rfl ?_
  show GO p e below T87 (mkF m 51 (la5 d1 (1 : Int32) x1) [(.int (x1 >>> ((8 : Int32) &&& 31))), (.int 1), (.ref d1)]) _
  refine XS.i2b X87.here hx rfl (hb hby d20_51) rfl ?_
  show GO p e below T87 (mkF m 52 (la5 d1 (1 : Int32) x1) [(.int ((x1 >>> ((8 : Int32) &&& 31)).toInt8.toInt32)), (.int 1), (.ref d1)]) _
  refine st89 _ ?_
  show GO p e below T89 (mkF m 53 (la5 d1 (1 : Int32) x1) []) _
  exact X89.returnOut hx Bd.returns (hb hby d20_53) hr
 ·show Qrm_pc_2_0 Z d1 kd x1 u0 u1 u2 u3 h0 n0 _ T89.heap _
  rw [e89]
  exact ⟨rfl, N89, (((Keep.refl h0 [d1]).wr W83 (Or.inl (List.mem_of_getElem? (i := 0) rfl))).wr W89 (Or.inl (List.mem_of_getElem? (i := 0) rfl))), V90⟩
def Qrm_gc_2_0 (Z : State) (d1 : Addr) (kd : ClassId) (c1 : Int32) (u0 : Int32) (u1 : Int32) (u2 : Int32) (u3 : Int32) (h0 : Heap) (n0 : Nat) (v : Option Value) (h : Heap) (L : List Loc) : Prop := v = some (.int c1) ∧ Fr n0 L ∧ h = h0
theorem ef_rm_gc_2_0 (m : MethodId) (x0 : Addr) (x1 : Int32) : entryFrame m #[(.ref x0), (.int x1)] 2 = mkF m 0 #[.val (.ref x0), .val (.int x1)] [] := by first | rfl | (simp [entryFrame, mkF, argsToLocals, Value.category]; done)
theorem rm_gc_2_0 (l : Launch) (Z : State) (a0 : Array Value) (hw : HW Z a0) (ws : List Jvm.Cond) (d1 : Addr) (kd : ClassId) (c1 : Int32) (u0 : Int32) (u1 : Int32) (u2 : Int32) (u3 : Int32) (h0 : Heap) (n0 : Nat) (Z0 : n0 ≤ h0.size) (O0 : Old Z n0 h0) (Vd : Arv Z h0 d1 kd .byte (4 : Int32) [(.int u0), (.int u1), (.int u2), (.int u3)] (.int 0)) (SZad : Sta Z Z.heap kS1 "$assertionsDisabled" "Z" (.int 1)) (SZhi : Sta Z Z.heap kS1 "HI_BYTE_SHIFT" "I" (.int 0)) (SZlo : Sta Z Z.heap kS1 "LO_BYTE_SHIFT" "I" (.int 8)) (hc : nar .char ((((u0 &&& (255 : Int32)) <<< ((0 : Int32) &&& 31)) ||| ((u1 &&& (255 : Int32)) <<< ((8 : Int32) &&& 31))).toUInt32.toUInt16.toUInt32.toInt32) = c1) :
  OwnM l Z h0 (⟨kS1, "getChar", "([BI)C"⟩ : MethodName) (Jvm.Cond.code (⟨kS1, "getChar", "([BI)C"⟩ : MethodName) jdk_52_method_5_code 2 (some .char) :: ws) (RM 0 0 0 0) #[(.ref d1), (.int 0)] (Qrm_gc_2_0 Z d1 kd c1 u0 u1 u2 u3 h0 n0) := by
 refine MetFree.of_bodySF (plainFor_of_name pn_3) hisR ?_
 intro p e s m args below meth c s₁ Bd hml0 hP hK
 obtain ⟨rfl, hZ, hh⟩ := hP
 have hx := Bd.exec
 have hby := Bd.bytes
 have hml : c.maxLocals = 2 := hml0
 have hown : s.vm.findClass kS1 = some m.cls := findClass_of_methodNamed Bd.named
 have hnm := (name_of_methodNamed Bd.named Bd.method).1
 have X0 : Stand p l e (RM 0 0 0 0) s m #[(.ref d1), (.int 0)] below meth c s₁ [] 0 0 := Stand.of_body Bd
 have e0 : s₁.heap = h0 := by rw [← hh, Bd.state]; rfl
 have N0 := Fr.nil n0
 have pre0 : ∀ t, GO p e below s₁ (mkF m 0 #[.val (.ref d1), .val (.int 0)] []) t → GO p e below s₁ (entryFrame m #[(.ref d1), (.int 0)] 2) t := fun t k => castTop (ef_rm_gc_2_0 m d1 ((0 : Int32))) k
 have lt_Vd := ltA Vd.lt
 have S91 : Sta Z h0 kS1 "$assertionsDisabled" "Z" (.int 1) := SZad.ext O0.2
 obtain ⟨T92, X92, e92, st92⟩ := getS2 X0 hx hZ hown (host := "") (Or.inl (wd hw 104 rfl)) Via.refl e0 S91 (g := (mkF m 0 #[.val (.ref d1), .val (.int 0)] [])) rfl (hb hby d21_0)
 obtain ⟨cl93, Ar93, q93, S93, M93, H93, G93⟩ := id Vd
 have hin93 : ¬ ((0 : Int32) < 0 ∨ cl93.slots.size ≤ ((0 : Int32)).toNatClampNeg) := inb_of S93 ⟨by decide, by decide⟩
 have hat93 : cl93.slots[((0 : Int32)).toNatClampNeg]? = some (.int u0) := Has.at H93 hin93 rfl
 have S94 : Sta Z h0 kS1 "HI_BYTE_SHIFT" "I" (.int 0) := SZhi.ext O0.2
 obtain ⟨T95, X95, e95, st95⟩ := getS2 X92 hx hZ hown (host := "") (Or.inl (wd hw 105 rfl)) Via.refl e92 S94 (g := (mkF m 42 #[.val (.ref d1), .val (.int 1)] [(.int (u0 &&& (255 : Int32)))])) rfl (hb hby d21_42)
 obtain ⟨cl96, Ar96, q96, S96, M96, H96, G96⟩ := id Vd
 have hin96 : ¬ ((1 : Int32) < 0 ∨ cl96.slots.size ≤ ((1 : Int32)).toNatClampNeg) := inb_of S96 ⟨by decide, by decide⟩
 have hat96 : cl96.slots[((1 : Int32)).toNatClampNeg]? = some (.int u1) := Has.at H96 hin96 rfl
 have S97 : Sta Z h0 kS1 "LO_BYTE_SHIFT" "I" (.int 8) := SZlo.ext O0.2
 obtain ⟨T98, X98, e98, st98⟩ := getS2 X95 hx hZ hown (host := "") (Or.inl (wd hw 106 rfl)) Via.refl e95 S97 (g := (mkF m 53 #[.val (.ref d1), .val (.int 1)] [(.int (u1 &&& (255 : Int32))), (.int ((u0 &&& (255 : Int32)) <<< ((0 : Int32) &&& 31)))])) rfl (hb hby d21_53)
 obtain ⟨fs, hr, hrun, hended, hW, hsame⟩ := X98.leave (v := some (.int (nar .char ((((u0 &&& (255 : Int32)) <<< ((0 : Int32) &&& 31)) ||| ((u1 &&& (255 : Int32)) <<< ((8 : Int32) &&& 31))).toUInt32.toUInt16.toUInt32.toInt32)))) (fun h => by rw [Bd.returns] at h; cases h)
 refine ⟨_, _, pre0 _ ?_, hrun, hended, _, _, rfl, ?_, ⟨_, rfl⟩, hW, hsame.mono (by decide) (by decide)⟩
 ·show GO p e below s₁ (mkF m 0 #[.val (.ref d1), .val (.int 0)] []) _
  refine st92 _ ?_
  show GO p e below T92 (mkF m 3 #[.val (.ref d1), .val (.int 0)] [(.int 1)]) _
  refine XS.ifYes X92.here hx rfl (pc0 := 3) (pc' := 28) rfl (hb hby d21_3) rfl ((if0 _ _).trans (feq ((by decide) : ¬ ((1 : Int32) = (0 : Int32)))).2) (by decide) (by decide) ?_
  show GO p e below T92 (mkF m 28 #[.val (.ref d1), .val (.int 0)] []) _
  refine XS.iloadN X92.here hx rfl (hb hby d21_28) rfl ?_
  show GO p e below T92 (mkF m 29 #[.val (.ref d1), .val (.int 0)] [(.int 0)]) _
  refine XS.iconst X92.here hx rfl (hb hby d21_29) ?_
  show GO p e below T92 (mkF m 30 #[.val (.ref d1), .val (.int 0)] [(.int 1), (.int 0)]) _
  refine XS.ishl X92.here hx rfl (hb hby d21_30) rfl ?_
  rw [show ((0 : Int32) <<< ((1 : Int32) &&& 31)) = (0 : Int32) from by decide]
  show GO p e below T92 (mkF m 31 #[.val (.ref d1), .val (.int 0)] [(.int 0)]) _
  refine XS.istoreN X92.here hx rfl (hb hby d21_31) rfl (l' := #[.val (.ref d1), .val (.int 0)]) rfl ?_
  show GO p e below T92 (mkF m 32 #[.val (.ref d1), .val (.int 0)] []) _
  refine XS.aloadN X92.here hx rfl (hb hby d21_32) rfl rfl ?_
  show GO p e below T92 (mkF m 33 #[.val (.ref d1), .val (.int 0)] [(.ref d1)]) _
  refine XS.iloadN X92.here hx rfl (hb hby d21_33) rfl ?_
  show GO p e below T92 (mkF m 34 #[.val (.ref d1), .val (.int 0)] [(.int 0), (.ref d1)]) _
  refine XS.iinc X92.here hx rfl (hb hby d21_34) rfl (l' := #[.val (.ref d1), .val (.int ((0 : Int32) + (1 : Int32)))]) rfl ?_
  rw [show ((0 : Int32) + (1 : Int32)) = (1 : Int32) from by decide]
  show GO p e below T92 (mkF m 37 #[.val (.ref d1), .val (.int 1)] [(.int 0), (.ref d1)]) _
  refine X92.baloadBytes hx (j := (0 : Int32)) (v := (.int u0)) (by rw [e92]; exact Ar93.1) (State.isArrayOf_alike hZ.alike Ar93.2.1) Ar93.2.2 hin93 hat93 (g := (mkF m 37 #[.val (.ref d1), .val (.int 1)] [(.int 0), (.ref d1)])) rfl rfl (hb hby d21_37) _ ?_
  show GO p e below T92 (mkF m 38 #[.val (.ref d1), .val (.int 1)] [(.int u0)]) _
  refine XS.sipush X92.here hx rfl (hb hby d21_38) ?_
  show GO p e below T92 (mkF m 41 #[.val (.ref d1), .val (.int 1)] [(.int 255), (.int u0)]) _
  refine XS.iand X92.here hx rfl (hb hby d21_41) rfl ?_
  show GO p e below T92 (mkF m 42 #[.val (.ref d1), .val (.int 1)] [(.int (u0 &&& (255 : Int32)))]) _
  refine st95 _ ?_
  show GO p e below T95 (mkF m 45 #[.val (.ref d1), .val (.int 1)] [(.int 0), (.int (u0 &&& (255 : Int32)))]) _
  refine XS.ishl X95.here hx rfl (hb hby d21_45) rfl ?_
  show GO p e below T95 (mkF m 46 #[.val (.ref d1), .val (.int 1)] [(.int ((u0 &&& (255 : Int32)) <<< ((0 : Int32) &&& 31)))]) _
  refine XS.aloadN X95.here hx rfl (hb hby d21_46) rfl rfl ?_
  show GO p e below T95 (mkF m 47 #[.val (.ref d1), .val (.int 1)] [(.ref d1), (.int ((u0 &&& (255 : Int32)) <<< ((0 : Int32) &&& 31)))]) _
  refine XS.iloadN X95.here hx rfl (hb hby d21_47) rfl ?_
  show GO p e below T95 (mkF m 48 #[.val (.ref d1), .val (.int 1)] [(.int 1), (.ref d1), (.int ((u0 &&& (255 : Int32)) <<< ((0 : Int32) &&& 31)))]) _
  refine X95.baloadBytes hx (j := (1 : Int32)) (v := (.int u1)) (by rw [e95]; exact Ar96.1) (State.isArrayOf_alike hZ.alike Ar96.2.1) Ar96.2.2 hin96 hat96 (g := (mkF m 48 #[.val (.ref d1), .val (.int 1)] [(.int 1), (.ref d1), (.int ((u0 &&& (255 : Int32)) <<< ((0 : Int32) &&& 31)))])) rfl rfl (hb hby d21_48) _ ?_
  show GO p e below T95 (mkF m 49 #[.val (.ref d1), .val (.int 1)] [(.int u1), (.int ((u0 &&& (255 : Int32)) <<< ((0 : Int32) &&& 31)))]) _
  refine XS.sipush X95.here hx rfl (hb hby d21_49) ?_
  show GO p e below T95 (mkF m 52 #[.val (.ref d1), .val (.int 1)] [(.int 255), (.int u1), (.int ((u0 &&& (255 : Int32)) <<< ((0 : Int32) &&& 31)))]) _
  refine XS.iand X95.here hx rfl (hb hby d21_52) rfl ?_
  show GO p e below T95 (mkF m 53 #[.val (.ref d1), .val (.int 1)] [(.int (u1 &&& (255 : Int32))), (.int ((u0 &&& (255 : Int32)) <<< ((0 : Int32) &&& 31)))]) _
  refine st98 _ ?_
  show GO p e below T98 (mkF m 56 #[.val (.ref d1), .val (.int 1)] [(.int 8), (.int (u1 &&& (255 : Int32))), (.int ((u0 &&& (255 : Int32)) <<< ((0 : Int32) &&& 31)))]) _
  refine XS.ishl X98.here hx rfl (hb hby d21_56) rfl ?_
  show GO p e below T98 (mkF m 57 #[.val (.ref d1), .val (.int 1)] [(.int ((u1 &&& (255 : Int32)) <<< ((8 : Int32) &&& 31))), (.int ((u0 &&& (255 : Int32)) <<< ((0 : Int32) &&& 31)))]) _
  refine XS.ior X98.here hx rfl (hb hby d21_57) rfl ?_
  show GO p e below T98 (mkF m 58 #[.val (.ref d1), .val (.int 1)] [(.int (((u0 &&& (255 : Int32)) <<< ((0 : Int32) &&& 31)) ||| ((u1 &&& (255 : Int32)) <<< ((8 : Int32) &&& 31))))]) _
  refine XS.i2c X98.here hx rfl (hb hby d21_58) rfl ?_
  show GO p e below T98 (mkF m 59 #[.val (.ref d1), .val (.int 1)] [(.int ((((u0 &&& (255 : Int32)) <<< ((0 : Int32) &&& 31)) ||| ((u1 &&& (255 : Int32)) <<< ((8 : Int32) &&& 31))).toUInt32.toUInt16.toUInt32.toInt32))]) _
  exact retN X98 hx (t := .char) Bd.returns (by simp) (hb hby d21_59) hr
 ·show Qrm_gc_2_0 Z d1 kd c1 u0 u1 u2 u3 h0 n0 _ T98.heap _
  rw [e98]
  exact ⟨(by rw [hc]), N0, rfl⟩
def Qrm_pc_2_1 (Z : State) (d1 : Addr) (kd : ClassId) (x1 : Int32) (u0 : Int32) (u1 : Int32) (u2 : Int32) (u3 : Int32) (h0 : Heap) (n0 : Nat) (v : Option Value) (h : Heap) (L : List Loc) : Prop := v = none ∧ Fr n0 L ∧ Keep h0 h [d1] ∧ Arv Z h d1 kd .byte (4 : Int32) [(.int u0), (.int u1), (.int ((x1 >>> ((0 : Int32) &&& 31)).toInt8.toInt32)), (.int ((x1 >>> ((8 : Int32) &&& 31)).toInt8.toInt32))] (.int 0)
theorem ef_rm_pc_2_1 (m : MethodId) (x0 : Addr) (x1 : Int32) (x2 : Int32) : entryFrame m #[(.ref x0), (.int x1), (.int x2)] 3 = mkF m 0 (la5 x0 x1 x2) [] := by first | rfl | (simp [entryFrame, mkF, argsToLocals, Value.category]; done)
theorem rm_pc_2_1 (l : Launch) (Z : State) (a0 : Array Value) (hw : HW Z a0) (ws : List Jvm.Cond) (d1 : Addr) (kd : ClassId) (x1 : Int32) (u0 : Int32) (u1 : Int32) (u2 : Int32) (u3 : Int32) (h0 : Heap) (n0 : Nat) (Z0 : n0 ≤ h0.size) (O0 : Old Z n0 h0) (Vd : Arv Z h0 d1 kd .byte (4 : Int32) [(.int u0), (.int u1), (.int u2), (.int u3)] (.int 0)) (SZad : Sta Z Z.heap kS1 "$assertionsDisabled" "Z" (.int 1)) (SZhi : Sta Z Z.heap kS1 "HI_BYTE_SHIFT" "I" (.int 0)) (SZlo : Sta Z Z.heap kS1 "LO_BYTE_SHIFT" "I" (.int 8)) (gd : n0 ≤ d1) :
  OwnM l Z h0 (⟨kS1, "putChar", "([BII)V"⟩ : MethodName) (Jvm.Cond.code (⟨kS1, "putChar", "([BII)V"⟩ : MethodName) jdk_52_method_4_code 3 none :: ws) (RM 0 0 0 0) #[(.ref d1), (.int 1), (.int x1)] (Qrm_pc_2_1 Z d1 kd x1 u0 u1 u2 u3 h0 n0) := by
 refine MetFree.of_bodySF (plainFor_of_name pn_3) hisR ?_
 intro p e s m args below meth c s₁ Bd hml0 hP hK
 obtain ⟨rfl, hZ, hh⟩ := hP
 have hx := Bd.exec
 have hby := Bd.bytes
 have hml : c.maxLocals = 3 := hml0
 have hown : s.vm.findClass kS1 = some m.cls := findClass_of_methodNamed Bd.named
 have hnm := (name_of_methodNamed Bd.named Bd.method).1
 have X0 : Stand p l e (RM 0 0 0 0) s m #[(.ref d1), (.int 1), (.int x1)] below meth c s₁ [] 0 0 := Stand.of_body Bd
 have e0 : s₁.heap = h0 := by rw [← hh, Bd.state]; rfl
 have N0 := Fr.nil n0
 have pre0 : ∀ t, GO p e below s₁ (mkF m 0 (la5 d1 (1 : Int32) x1) []) t → GO p e below s₁ (entryFrame m #[(.ref d1), (.int 1), (.int x1)] 3) t := fun t k => castTop (ef_rm_pc_2_1 m d1 ((1 : Int32)) x1) k
 have lt_Vd := ltA Vd.lt
 have S99 : Sta Z h0 kS1 "$assertionsDisabled" "Z" (.int 1) := SZad.ext O0.2
 obtain ⟨T100, X100, e100, st100⟩ := getS2 X0 hx hZ hown (host := "") (Or.inl (wd hw 104 rfl)) Via.refl e0 S99 (g := (mkF m 0 (la5 d1 (1 : Int32) x1) [])) rfl (hb hby d20_0)
 have S101 : Sta Z h0 kS1 "HI_BYTE_SHIFT" "I" (.int 0) := SZhi.ext O0.2
 obtain ⟨T102, X102, e102, st102⟩ := getS2 X100 hx hZ hown (host := "") (Or.inl (wd hw 105 rfl)) Via.refl e100 S101 (g := (mkF m 38 (la5 d1 (3 : Int32) x1) [(.int x1), (.int 2), (.ref d1)])) rfl (hb hby d20_38)
 obtain ⟨cl103, Ar103, q103, S103, M103, H103, G103⟩ := id Vd
 have hin103 : ¬ ((2 : Int32) < 0 ∨ cl103.slots.size ≤ ((2 : Int32)).toNatClampNeg) := inb_of S103 ⟨by decide, by decide⟩
 obtain ⟨T104, h104, X104, e104, W104, st104⟩ := stB X102 hx hZ e102 Ar103 (j := (2 : Int32)) hin103 (g := (mkF m 43 (la5 d1 (3 : Int32) x1) [(.int ((x1 >>> ((0 : Int32) &&& 31)).toInt8.toInt32)), (.int 2), (.ref d1)])) rfl rfl (hb hby d20_43)
 have ge105 : n0 ≤ d1 := by omega
 have N104 := Fr.snoc X104 N0 ge105
 have sz104 : h0.size ≤ h104.size := Nat.le_of_eq W104.size.symm
 have nz104 := Nat.le_trans Z0 sz104
 have V104 : Arv Z h104 d1 kd .byte (4 : Int32) [(.int u0), (.int u1), (.int (nar .byte ((x1 >>> ((0 : Int32) &&& 31)).toInt8.toInt32))), (.int u3)] (.int 0) := Arv.set Ar103 q103 S103 M103 H103 G103 (fits_nar_byte _) W104 2 rfl (Nat.le_of_ble_eq_true rfl)
 have f106 : Old Z n0 h104 := (O0.wr W104 ge105)
 have S107 : Sta Z h104 kS1 "LO_BYTE_SHIFT" "I" (.int 8) := SZlo.ext f106.2
 obtain ⟨T108, X108, e108, st108⟩ := getS2 X104 hx hZ hown (host := "") (Or.inl (wd hw 106 rfl)) Via.refl e104 S107 (g := (mkF m 47 (la5 d1 (3 : Int32) x1) [(.int x1), (.int 3), (.ref d1)])) rfl (hb hby d20_47)
 obtain ⟨cl109, Ar109, q109, S109, M109, H109, G109⟩ := id V104
 have hin109 : ¬ ((3 : Int32) < 0 ∨ cl109.slots.size ≤ ((3 : Int32)).toNatClampNeg) := inb_of S109 ⟨by decide, by decide⟩
 obtain ⟨T110, h110, X110, e110, W110, st110⟩ := stB X108 hx hZ e108 Ar109 (j := (3 : Int32)) hin109 (g := (mkF m 52 (la5 d1 (3 : Int32) x1) [(.int ((x1 >>> ((8 : Int32) &&& 31)).toInt8.toInt32)), (.int 3), (.ref d1)])) rfl rfl (hb hby d20_52)
 have N110 := Fr.snoc X110 N104 ge105
 have sz110 : h104.size ≤ h110.size := Nat.le_of_eq W110.size.symm
 have nz110 := Nat.le_trans nz104 sz110
 have V110 : Arv Z h110 d1 kd .byte (4 : Int32) [(.int u0), (.int u1), (.int (nar .byte ((x1 >>> ((0 : Int32) &&& 31)).toInt8.toInt32))), (.int (nar .byte ((x1 >>> ((8 : Int32) &&& 31)).toInt8.toInt32)))] (.int 0) := Arv.set Ar109 q109 S109 M109 H109 G109 (fits_nar_byte _) W110 3 rfl (Nat.le_of_ble_eq_true rfl)
 have V111 : Arv Z h110 d1 kd .byte (4 : Int32) [(.int u0), (.int u1), (.int ((x1 >>> ((0 : Int32) &&& 31)).toInt8.toInt32)), (.int ((x1 >>> ((8 : Int32) &&& 31)).toInt8.toInt32))] (.int 0) := by
  have q := V110
  rw [own_nb (x1 >>> ((0 : Int32) &&& 31)), own_nb (x1 >>> ((8 : Int32) &&& 31))] at q
  exact q
 obtain ⟨fs, hr, hrun, hended, hW, hsame⟩ := X110.leave (v := none) (fun _ => rfl)
 refine ⟨_, _, pre0 _ ?_, hrun, hended, _, _, rfl, ?_, ⟨_, rfl⟩, hW, hsame.mono (by decide) (by decide)⟩
 ·show GO p e below s₁ (mkF m 0 (la5 d1 (1 : Int32) x1) []) _
  refine st100 _ ?_
  show GO p e below T100 (mkF m 3 (la5 d1 (1 : Int32) x1) [(.int 1)]) _
  refine XS.ifYes X100.here hx rfl (pc0 := 3) (pc' := 28) rfl (hb hby d20_3) rfl ((if0 _ _).trans (feq ((by decide) : ¬ ((1 : Int32) = (0 : Int32)))).2) (by decide) (by decide) ?_
  show GO p e below T100 (mkF m 28 (la5 d1 (1 : Int32) x1) []) _
  refine XS.iloadN X100.here hx rfl (hb hby d20_28) rfl ?_
  show GO p e below T100 (mkF m 29 (la5 d1 (1 : Int32) x1) [(.int 1)]) _
  refine XS.iconst X100.here hx rfl (hb hby d20_29) ?_
  show GO p e below T100 (mkF m 30 (la5 d1 (1 : Int32) x1) [(.int 1), (.int 1)]) _
  refine XS.ishl X100.here hx rfl (hb hby d20_30) rfl ?_
  rw [show ((1 : Int32) <<< ((1 : Int32) &&& 31)) = (2 : Int32) from by decide]
  show GO p e below T100 (mkF m 31 (la5 d1 (1 : Int32) x1) [(.int 2)]) _
  refine XS.istoreN X100.here hx rfl (hb hby d20_31) rfl (l' := (la5 d1 (2 : Int32) x1)) rfl ?_
  show GO p e below T100 (mkF m 32 (la5 d1 (2 : Int32) x1) []) _
  refine XS.aloadN X100.here hx rfl (hb hby d20_32) rfl rfl ?_
  show GO p e below T100 (mkF m 33 (la5 d1 (2 : Int32) x1) [(.ref d1)]) _
  refine XS.iloadN X100.here hx rfl (hb hby d20_33) rfl ?_
  show GO p e below T100 (mkF m 34 (la5 d1 (2 : Int32) x1) [(.int 2), (.ref d1)]) _
  refine XS.iinc X100.here hx rfl (hb hby d20_34) rfl (l' := (la5 d1 ((2 : Int32) + (1 : Int32)) x1)) rfl ?_
  rw [show ((2 : Int32) + (1 : Int32)) = (3 : Int32) from by decide]
  show GO p e below T100 (mkF m 37 (la5 d1 (3 : Int32) x1) [(.int 2), (.ref d1)]) _
  refine XS.iloadN X100.here hx rfl (hb hby d20_37) rfl ?_
  show GO p e below T100 (mkF m 38 (la5 d1 (3 : Int32) x1) [(.int x1), (.int 2), (.ref d1)]) _
  refine st102 _ ?_
  show GO p e below T102 (mkF m 41 (la5 d1 (3 : Int32) x1) [(.int 0), (.int x1), (.int 2), (.ref d1)]) _
  refine XS.ishr X102.here hx rfl (hb hby d20_41) rfl ?_
  show GO p e below T102 (mkF m 42 (la5 d1 (3 : Int32) x1) [(.int (x1 >>> ((0 : Int32) &&& 31))), (.int 2), (.ref d1)]) _
  refine XS.i2b X102.here hx rfl (hb hby d20_42) rfl ?_
  show GO p e below T102 (mkF m 43 (la5 d1 (3 : Int32) x1) [(.int ((x1 >>> ((0 : Int32) &&& 31)).toInt8.toInt32)), (.int 2), (.ref d1)]) _
  refine st104 _ ?_
  show GO p e below T104 (mkF m 44 (la5 d1 (3 : Int32) x1) []) _
  refine XS.aloadN X104.here hx rfl (hb hby d20_44) rfl rfl ?_
  show GO p e below T104 (mkF m 45 (la5 d1 (3 : Int32) x1) [(.ref d1)]) _
  refine XS.iloadN X104.here hx rfl (hb hby d20_45) rfl ?_
  show GO p e below T104 (mkF m 46 (la5 d1 (3 : Int32) x1) [(.int 3), (.ref d1)]) _
  refine XS.iloadN X104.here hx rfl (hb hby d20_46) rfl ?_
  show GO p e below T104 (mkF m 47 (la5 d1 (3 : Int32) x1) [(.int x1), (.int 3), (.ref d1)]) _
  refine st108 _ ?_
  show GO p e below T108 (mkF m 50 (la5 d1 (3 : Int32) x1) [(.int 8), (.int x1), (.int 3), (.ref d1)]) _
  refine XS.ishr X108.here hx rfl (hb hby d20_50) rfl ?_
  show GO p e below T108 (mkF m 51 (la5 d1 (3 : Int32) x1) [(.int (x1 >>> ((8 : Int32) &&& 31))), (.int 3), (.ref d1)]) _
  refine XS.i2b X108.here hx rfl (hb hby d20_51) rfl ?_
  show GO p e below T108 (mkF m 52 (la5 d1 (3 : Int32) x1) [(.int ((x1 >>> ((8 : Int32) &&& 31)).toInt8.toInt32)), (.int 3), (.ref d1)]) _
  refine st110 _ ?_
  show GO p e below T110 (mkF m 53 (la5 d1 (3 : Int32) x1) []) _
  exact X110.returnOut hx Bd.returns (hb hby d20_53) hr
 ·show Qrm_pc_2_1 Z d1 kd x1 u0 u1 u2 u3 h0 n0 _ T110.heap _
  rw [e110]
  exact ⟨rfl, N110, (((Keep.refl h0 [d1]).wr W104 (Or.inl (List.mem_of_getElem? (i := 0) rfl))).wr W110 (Or.inl (List.mem_of_getElem? (i := 0) rfl))), V111⟩
def Qrm_gc_2_1 (Z : State) (d1 : Addr) (kd : ClassId) (c1 : Int32) (u0 : Int32) (u1 : Int32) (u2 : Int32) (u3 : Int32) (h0 : Heap) (n0 : Nat) (v : Option Value) (h : Heap) (L : List Loc) : Prop := v = some (.int c1) ∧ Fr n0 L ∧ h = h0
theorem ef_rm_gc_2_1 (m : MethodId) (x0 : Addr) (x1 : Int32) : entryFrame m #[(.ref x0), (.int x1)] 2 = mkF m 0 #[.val (.ref x0), .val (.int x1)] [] := by first | rfl | (simp [entryFrame, mkF, argsToLocals, Value.category]; done)
theorem rm_gc_2_1 (l : Launch) (Z : State) (a0 : Array Value) (hw : HW Z a0) (ws : List Jvm.Cond) (d1 : Addr) (kd : ClassId) (c1 : Int32) (u0 : Int32) (u1 : Int32) (u2 : Int32) (u3 : Int32) (h0 : Heap) (n0 : Nat) (Z0 : n0 ≤ h0.size) (O0 : Old Z n0 h0) (Vd : Arv Z h0 d1 kd .byte (4 : Int32) [(.int u0), (.int u1), (.int u2), (.int u3)] (.int 0)) (SZad : Sta Z Z.heap kS1 "$assertionsDisabled" "Z" (.int 1)) (SZhi : Sta Z Z.heap kS1 "HI_BYTE_SHIFT" "I" (.int 0)) (SZlo : Sta Z Z.heap kS1 "LO_BYTE_SHIFT" "I" (.int 8)) (hc : nar .char ((((u2 &&& (255 : Int32)) <<< ((0 : Int32) &&& 31)) ||| ((u3 &&& (255 : Int32)) <<< ((8 : Int32) &&& 31))).toUInt32.toUInt16.toUInt32.toInt32) = c1) :
  OwnM l Z h0 (⟨kS1, "getChar", "([BI)C"⟩ : MethodName) (Jvm.Cond.code (⟨kS1, "getChar", "([BI)C"⟩ : MethodName) jdk_52_method_5_code 2 (some .char) :: ws) (RM 0 0 0 0) #[(.ref d1), (.int 1)] (Qrm_gc_2_1 Z d1 kd c1 u0 u1 u2 u3 h0 n0) := by
 refine MetFree.of_bodySF (plainFor_of_name pn_3) hisR ?_
 intro p e s m args below meth c s₁ Bd hml0 hP hK
 obtain ⟨rfl, hZ, hh⟩ := hP
 have hx := Bd.exec
 have hby := Bd.bytes
 have hml : c.maxLocals = 2 := hml0
 have hown : s.vm.findClass kS1 = some m.cls := findClass_of_methodNamed Bd.named
 have hnm := (name_of_methodNamed Bd.named Bd.method).1
 have X0 : Stand p l e (RM 0 0 0 0) s m #[(.ref d1), (.int 1)] below meth c s₁ [] 0 0 := Stand.of_body Bd
 have e0 : s₁.heap = h0 := by rw [← hh, Bd.state]; rfl
 have N0 := Fr.nil n0
 have pre0 : ∀ t, GO p e below s₁ (mkF m 0 #[.val (.ref d1), .val (.int 1)] []) t → GO p e below s₁ (entryFrame m #[(.ref d1), (.int 1)] 2) t := fun t k => castTop (ef_rm_gc_2_1 m d1 ((1 : Int32))) k
 have lt_Vd := ltA Vd.lt
 have S112 : Sta Z h0 kS1 "$assertionsDisabled" "Z" (.int 1) := SZad.ext O0.2
 obtain ⟨T113, X113, e113, st113⟩ := getS2 X0 hx hZ hown (host := "") (Or.inl (wd hw 104 rfl)) Via.refl e0 S112 (g := (mkF m 0 #[.val (.ref d1), .val (.int 1)] [])) rfl (hb hby d21_0)
 obtain ⟨cl114, Ar114, q114, S114, M114, H114, G114⟩ := id Vd
 have hin114 : ¬ ((2 : Int32) < 0 ∨ cl114.slots.size ≤ ((2 : Int32)).toNatClampNeg) := inb_of S114 ⟨by decide, by decide⟩
 have hat114 : cl114.slots[((2 : Int32)).toNatClampNeg]? = some (.int u2) := Has.at H114 hin114 rfl
 have S115 : Sta Z h0 kS1 "HI_BYTE_SHIFT" "I" (.int 0) := SZhi.ext O0.2
 obtain ⟨T116, X116, e116, st116⟩ := getS2 X113 hx hZ hown (host := "") (Or.inl (wd hw 105 rfl)) Via.refl e113 S115 (g := (mkF m 42 #[.val (.ref d1), .val (.int 3)] [(.int (u2 &&& (255 : Int32)))])) rfl (hb hby d21_42)
 obtain ⟨cl117, Ar117, q117, S117, M117, H117, G117⟩ := id Vd
 have hin117 : ¬ ((3 : Int32) < 0 ∨ cl117.slots.size ≤ ((3 : Int32)).toNatClampNeg) := inb_of S117 ⟨by decide, by decide⟩
 have hat117 : cl117.slots[((3 : Int32)).toNatClampNeg]? = some (.int u3) := Has.at H117 hin117 rfl
 have S118 : Sta Z h0 kS1 "LO_BYTE_SHIFT" "I" (.int 8) := SZlo.ext O0.2
 obtain ⟨T119, X119, e119, st119⟩ := getS2 X116 hx hZ hown (host := "") (Or.inl (wd hw 106 rfl)) Via.refl e116 S118 (g := (mkF m 53 #[.val (.ref d1), .val (.int 3)] [(.int (u3 &&& (255 : Int32))), (.int ((u2 &&& (255 : Int32)) <<< ((0 : Int32) &&& 31)))])) rfl (hb hby d21_53)
 obtain ⟨fs, hr, hrun, hended, hW, hsame⟩ := X119.leave (v := some (.int (nar .char ((((u2 &&& (255 : Int32)) <<< ((0 : Int32) &&& 31)) ||| ((u3 &&& (255 : Int32)) <<< ((8 : Int32) &&& 31))).toUInt32.toUInt16.toUInt32.toInt32)))) (fun h => by rw [Bd.returns] at h; cases h)
 refine ⟨_, _, pre0 _ ?_, hrun, hended, _, _, rfl, ?_, ⟨_, rfl⟩, hW, hsame.mono (by decide) (by decide)⟩
 ·show GO p e below s₁ (mkF m 0 #[.val (.ref d1), .val (.int 1)] []) _
  refine st113 _ ?_
  show GO p e below T113 (mkF m 3 #[.val (.ref d1), .val (.int 1)] [(.int 1)]) _
  refine XS.ifYes X113.here hx rfl (pc0 := 3) (pc' := 28) rfl (hb hby d21_3) rfl ((if0 _ _).trans (feq ((by decide) : ¬ ((1 : Int32) = (0 : Int32)))).2) (by decide) (by decide) ?_
  show GO p e below T113 (mkF m 28 #[.val (.ref d1), .val (.int 1)] []) _
  refine XS.iloadN X113.here hx rfl (hb hby d21_28) rfl ?_
  show GO p e below T113 (mkF m 29 #[.val (.ref d1), .val (.int 1)] [(.int 1)]) _
  refine XS.iconst X113.here hx rfl (hb hby d21_29) ?_
  show GO p e below T113 (mkF m 30 #[.val (.ref d1), .val (.int 1)] [(.int 1), (.int 1)]) _
  refine XS.ishl X113.here hx rfl (hb hby d21_30) rfl ?_
  rw [show ((1 : Int32) <<< ((1 : Int32) &&& 31)) = (2 : Int32) from by decide]
  show GO p e below T113 (mkF m 31 #[.val (.ref d1), .val (.int 1)] [(.int 2)]) _
  refine XS.istoreN X113.here hx rfl (hb hby d21_31) rfl (l' := #[.val (.ref d1), .val (.int 2)]) rfl ?_
  show GO p e below T113 (mkF m 32 #[.val (.ref d1), .val (.int 2)] []) _
  refine XS.aloadN X113.here hx rfl (hb hby d21_32) rfl rfl ?_
  show GO p e below T113 (mkF m 33 #[.val (.ref d1), .val (.int 2)] [(.ref d1)]) _
  refine XS.iloadN X113.here hx rfl (hb hby d21_33) rfl ?_
  show GO p e below T113 (mkF m 34 #[.val (.ref d1), .val (.int 2)] [(.int 2), (.ref d1)]) _
  refine XS.iinc X113.here hx rfl (hb hby d21_34) rfl (l' := #[.val (.ref d1), .val (.int ((2 : Int32) + (1 : Int32)))]) rfl ?_
  rw [show ((2 : Int32) + (1 : Int32)) = (3 : Int32) from by decide]
  show GO p e below T113 (mkF m 37 #[.val (.ref d1), .val (.int 3)] [(.int 2), (.ref d1)]) _
  refine X113.baloadBytes hx (j := (2 : Int32)) (v := (.int u2)) (by rw [e113]; exact Ar114.1) (State.isArrayOf_alike hZ.alike Ar114.2.1) Ar114.2.2 hin114 hat114 (g := (mkF m 37 #[.val (.ref d1), .val (.int 3)] [(.int 2), (.ref d1)])) rfl rfl (hb hby d21_37) _ ?_
  show GO p e below T113 (mkF m 38 #[.val (.ref d1), .val (.int 3)] [(.int u2)]) _
  refine XS.sipush X113.here hx rfl (hb hby d21_38) ?_
  show GO p e below T113 (mkF m 41 #[.val (.ref d1), .val (.int 3)] [(.int 255), (.int u2)]) _
  refine XS.iand X113.here hx rfl (hb hby d21_41) rfl ?_
  show GO p e below T113 (mkF m 42 #[.val (.ref d1), .val (.int 3)] [(.int (u2 &&& (255 : Int32)))]) _
  refine st116 _ ?_
  show GO p e below T116 (mkF m 45 #[.val (.ref d1), .val (.int 3)] [(.int 0), (.int (u2 &&& (255 : Int32)))]) _
  refine XS.ishl X116.here hx rfl (hb hby d21_45) rfl ?_
  show GO p e below T116 (mkF m 46 #[.val (.ref d1), .val (.int 3)] [(.int ((u2 &&& (255 : Int32)) <<< ((0 : Int32) &&& 31)))]) _
  refine XS.aloadN X116.here hx rfl (hb hby d21_46) rfl rfl ?_
  show GO p e below T116 (mkF m 47 #[.val (.ref d1), .val (.int 3)] [(.ref d1), (.int ((u2 &&& (255 : Int32)) <<< ((0 : Int32) &&& 31)))]) _
  refine XS.iloadN X116.here hx rfl (hb hby d21_47) rfl ?_
  show GO p e below T116 (mkF m 48 #[.val (.ref d1), .val (.int 3)] [(.int 3), (.ref d1), (.int ((u2 &&& (255 : Int32)) <<< ((0 : Int32) &&& 31)))]) _
  refine X116.baloadBytes hx (j := (3 : Int32)) (v := (.int u3)) (by rw [e116]; exact Ar117.1) (State.isArrayOf_alike hZ.alike Ar117.2.1) Ar117.2.2 hin117 hat117 (g := (mkF m 48 #[.val (.ref d1), .val (.int 3)] [(.int 3), (.ref d1), (.int ((u2 &&& (255 : Int32)) <<< ((0 : Int32) &&& 31)))])) rfl rfl (hb hby d21_48) _ ?_
  show GO p e below T116 (mkF m 49 #[.val (.ref d1), .val (.int 3)] [(.int u3), (.int ((u2 &&& (255 : Int32)) <<< ((0 : Int32) &&& 31)))]) _
  refine XS.sipush X116.here hx rfl (hb hby d21_49) ?_
  show GO p e below T116 (mkF m 52 #[.val (.ref d1), .val (.int 3)] [(.int 255), (.int u3), (.int ((u2 &&& (255 : Int32)) <<< ((0 : Int32) &&& 31)))]) _
  refine XS.iand X116.here hx rfl (hb hby d21_52) rfl ?_
  show GO p e below T116 (mkF m 53 #[.val (.ref d1), .val (.int 3)] [(.int (u3 &&& (255 : Int32))), (.int ((u2 &&& (255 : Int32)) <<< ((0 : Int32) &&& 31)))]) _
  refine st119 _ ?_
  show GO p e below T119 (mkF m 56 #[.val (.ref d1), .val (.int 3)] [(.int 8), (.int (u3 &&& (255 : Int32))), (.int ((u2 &&& (255 : Int32)) <<< ((0 : Int32) &&& 31)))]) _
  refine XS.ishl X119.here hx rfl (hb hby d21_56) rfl ?_
  show GO p e below T119 (mkF m 57 #[.val (.ref d1), .val (.int 3)] [(.int ((u3 &&& (255 : Int32)) <<< ((8 : Int32) &&& 31))), (.int ((u2 &&& (255 : Int32)) <<< ((0 : Int32) &&& 31)))]) _
  refine XS.ior X119.here hx rfl (hb hby d21_57) rfl ?_
  show GO p e below T119 (mkF m 58 #[.val (.ref d1), .val (.int 3)] [(.int (((u2 &&& (255 : Int32)) <<< ((0 : Int32) &&& 31)) ||| ((u3 &&& (255 : Int32)) <<< ((8 : Int32) &&& 31))))]) _
  refine XS.i2c X119.here hx rfl (hb hby d21_58) rfl ?_
  show GO p e below T119 (mkF m 59 #[.val (.ref d1), .val (.int 3)] [(.int ((((u2 &&& (255 : Int32)) <<< ((0 : Int32) &&& 31)) ||| ((u3 &&& (255 : Int32)) <<< ((8 : Int32) &&& 31))).toUInt32.toUInt16.toUInt32.toInt32))]) _
  exact retN X119 hx (t := .char) Bd.returns (by simp) (hb hby d21_59) hr
 ·show Qrm_gc_2_1 Z d1 kd c1 u0 u1 u2 u3 h0 n0 _ T119.heap _
  rw [e119]
  exact ⟨(by rw [hc]), N0, rfl⟩
def Qrm_l16_2 (Z : State) (d1 : Addr) (kd : ClassId) (v1 : List Value) (h0 : Heap) (n0 : Nat) (v : Option Value) (h : Heap) (L : List Loc) : Prop := v = some (.int 2) ∧ Fr n0 L ∧ h = h0
theorem ef_rm_l16_2 (m : MethodId) (x0 : Addr) : entryFrame m #[(.ref x0)] 1 = mkF m 0 #[.val (.ref x0)] [] := by first | rfl | (simp [entryFrame, mkF, argsToLocals, Value.category]; done)
theorem rm_l16_2 (l : Launch) (Z : State) (a0 : Array Value) (hw : HW Z a0) (ws : List Jvm.Cond) (d1 : Addr) (kd : ClassId) (v1 : List Value) (h0 : Heap) (n0 : Nat) (Z0 : n0 ≤ h0.size) (Vd : Arv Z h0 d1 kd .byte (4 : Int32) v1 (.int 0)) :
  OwnM l Z h0 (⟨kS1, "length", "([B)I"⟩ : MethodName) (Jvm.Cond.code (⟨kS1, "length", "([B)I"⟩ : MethodName) jdk_52_method_6_code 1 (some .int) :: ws) (RM 0 0 0 0) #[(.ref d1)] (Qrm_l16_2 Z d1 kd v1 h0 n0) := by
 refine MetFree.of_bodySF (plainFor_of_name pn_3) hisR ?_
 intro p e s m args below meth c s₁ Bd hml0 hP hK
 obtain ⟨rfl, hZ, hh⟩ := hP
 have hx := Bd.exec
 have hby := Bd.bytes
 have hml : c.maxLocals = 1 := hml0
 have hown : s.vm.findClass kS1 = some m.cls := findClass_of_methodNamed Bd.named
 have hnm := (name_of_methodNamed Bd.named Bd.method).1
 have X0 : Stand p l e (RM 0 0 0 0) s m #[(.ref d1)] below meth c s₁ [] 0 0 := Stand.of_body Bd
 have e0 : s₁.heap = h0 := by rw [← hh, Bd.state]; rfl
 have N0 := Fr.nil n0
 have pre0 : ∀ t, GO p e below s₁ (mkF m 0 #[.val (.ref d1)] []) t → GO p e below s₁ (entryFrame m #[(.ref d1)] 1) t := fun t k => castTop (ef_rm_l16_2 m d1) k
 have lt_Vd := ltA Vd.lt
 obtain ⟨cl120, Ar120, -, S120, M120, -, -⟩ := id Vd
 obtain ⟨fs, hr, hrun, hended, hW, hsame⟩ := X0.leave (v := some (.int 2)) (fun h => by rw [Bd.returns] at h; cases h)
 refine ⟨_, _, pre0 _ ?_, hrun, hended, _, _, rfl, ?_, ⟨_, rfl⟩, hW, hsame.mono (by decide) (by decide)⟩
 ·show GO p e below s₁ (mkF m 0 #[.val (.ref d1)] []) _
  refine XS.aloadN X0.here hx rfl (hb hby d27_0) rfl rfl ?_
  show GO p e below s₁ (mkF m 1 #[.val (.ref d1)] [(.ref d1)]) _
  refine X0.arraylength hx (by rw [e0]; exact Ar120.1) (State.isArrayOf_alike hZ.alike Ar120.2.1) (g := (mkF m 1 #[.val (.ref d1)] [(.ref d1)])) rfl rfl (hb hby d27_1) _ ?_
  rw [len_of S120 M120]
  show GO p e below s₁ (mkF m 2 #[.val (.ref d1)] [(.int 4)]) _
  refine XS.iconst X0.here hx rfl (hb hby d27_2) ?_
  show GO p e below s₁ (mkF m 3 #[.val (.ref d1)] [(.int 1), (.int 4)]) _
  refine XS.ishr X0.here hx rfl (hb hby d27_3) rfl ?_
  rw [show ((4 : Int32) >>> ((1 : Int32) &&& 31)) = (2 : Int32) from by decide]
  show GO p e below s₁ (mkF m 4 #[.val (.ref d1)] [(.int 2)]) _
  exact retI X0 hx Bd.returns (hb hby d27_4) hr
 ·show Qrm_l16_2 Z d1 kd v1 h0 n0 _ s₁.heap _
  rw [e0]
  exact ⟨rfl, N0, rfl⟩
def Qrm_tob2 (Z : State) (a2 : Addr) (k2 : ClassId) (vs2 : List Value) (o1 : Int32) (x0 : Int32) (x1 : Int32) (h0 : Heap) (n0 : Nat) (v : Option Value) (h : Heap) (L : List Loc) : Prop := ∃ t : Addr, ∃ k : ClassId, v = some (.ref t) ∧ Fr n0 L ∧ Keep h0 h [] ∧ Arv Z h t k .byte (4 : Int32) [(.int ((x0 >>> ((0 : Int32) &&& 31)).toInt8.toInt32)), (.int ((x0 >>> ((8 : Int32) &&& 31)).toInt8.toInt32)), (.int ((x1 >>> ((0 : Int32) &&& 31)).toInt8.toInt32)), (.int ((x1 >>> ((8 : Int32) &&& 31)).toInt8.toInt32))] (.int 0) ∧ h0.size ≤ t
theorem ef_rm_tob2 (m : MethodId) (x0 : Addr) (x1 : Int32) (x2 : Int32) : entryFrame m #[(.ref x0), (.int x1), (.int x2)] 5 = mkF m 0 (la9 x0 x1 x2) [] := by first | rfl | (simp [entryFrame, mkF, argsToLocals, Value.category]; done)
theorem rm_tob2 (l : Launch) (Z : State) (a0 : Array Value) (hw : HW Z a0) (ws : List Jvm.Cond) (a2 : Addr) (k2 : ClassId) (vs2 : List Value) (o1 : Int32) (x0 : Int32) (x1 : Int32) (h0 : Heap) (n0 : Nat) (Z0 : n0 ≤ h0.size) (O0 : Old Z n0 h0) (V2 : Arv Z h0 a2 k2 .char (8 : Int32) vs2 (.int 0)) (SZad : Sta Z Z.heap kS1 "$assertionsDisabled" "Z" (.int 1)) (SZhi : Sta Z Z.heap kS1 "HI_BYTE_SHIFT" "I" (.int 0)) (SZlo : Sta Z Z.heap kS1 "LO_BYTE_SHIFT" "I" (.int 8)) (ob0 : (¬ o1 < 0 ∧ o1 < (8 : Int32))) (hx0 : vs2.getD (o1).toNatClampNeg (.int 0) = (.int x0)) (lb0 : (¬ x0 < 0 ∧ ¬ (65535 : Int32) < x0)) (ob1 : (¬ (o1 + (1 : Int32)) < 0 ∧ (o1 + (1 : Int32)) < (8 : Int32))) (hx1 : vs2.getD ((o1 + (1 : Int32))).toNatClampNeg (.int 0) = (.int x1)) (lb1 : (¬ x1 < 0 ∧ ¬ (65535 : Int32) < x1)) :
  OwnM l Z h0 (⟨kS1, "toBytes", "([CII)[B"⟩ : MethodName) (Jvm.Cond.code (⟨kS1, "toBytes", "([CII)[B"⟩ : MethodName) jdk_52_method_14_code 5 (some (.array .byte)) :: ws) (RM 2 1 4 24) #[(.ref a2), (.int o1), (.int 2)] (Qrm_tob2 Z a2 k2 vs2 o1 x0 x1 h0 n0) := by
 refine MetFree.of_bodySF (plainFor_of_name pn_3) hisR ?_
 intro p e s m args below meth c s₁ Bd hml0 hP hK
 obtain ⟨rfl, hZ, hh⟩ := hP
 have hx := Bd.exec
 have hby := Bd.bytes
 have hml : c.maxLocals = 5 := hml0
 have hown : s.vm.findClass kS1 = some m.cls := findClass_of_methodNamed Bd.named
 have hnm := (name_of_methodNamed Bd.named Bd.method).1
 have X0 : Stand p l e (RM 2 1 4 24) s m #[(.ref a2), (.int o1), (.int 2)] below meth c s₁ [] 0 0 := Stand.of_body Bd
 have e0 : s₁.heap = h0 := by rw [← hh, Bd.state]; rfl
 have N0 := Fr.nil n0
 have pre0 : ∀ t, GO p e below s₁ (mkF m 0 (la9 a2 o1 (2 : Int32)) []) t → GO p e below s₁ (entryFrame m #[(.ref a2), (.int o1), (.int 2)] 5) t := fun t k => castTop (ef_rm_tob2 m a2 o1 ((2 : Int32))) k
 have lt_V2 := ltA V2.lt
 -- pc 1: StringUTF16.newBytesFor by rm_nbf2
 obtain ⟨_, _, ⟨T121, L121, k121, n121⟩, -, X121, ⟨Lc121, hQ121, l121, y121, z121⟩, st121⟩ := Jvm.LawKit.callS X0 hx (y := (⟨kS1, "newBytesFor", "(I)[B"⟩ : MethodName)) hown (mvT hZ (wd hw 94 rfl)) (mvT hZ (wd hw 95 rfl)) (mvT hZ (wd hw 86 rfl)) (mvT hZ (wd hw 96 rfl)) (by decide) (backOf (W := 0) (rm_nbf2 l Z a0 hw []  h0 n0 Z0) hZ (wd hw 96 rfl) (wd hw 86 rfl) (by decide) (by decide)) (g := (mkF m 1 (la9 a2 o1 (2 : Int32)) [(.int 2)])) rfl (by rw [hml]; rfl) (argsL := [(.int 2)]) (rest := []) (lenOf pd_4 rfl) rfl (wz rfl) (hb hby d17_1) (fun _ _ => ⟨rfl, e0, (by decide : 0 + 1 ≤ _), (by decide : 0 + 4 ≤ _)⟩)
 dsimp only [Pt.U, Pt.locs, Pt.cells, Pt.slots] at X121 l121 y121 z121 st121 hQ121
 subst l121 y121 z121
 obtain ⟨h121, e121⟩ : ∃ z, T121.heap = z := ⟨_, rfl⟩
 rw [e121] at hQ121
 obtain ⟨t_121, k_121, rfl, N121q, K121, p121_0, r121_0⟩ := hQ121
 have N121 := Fr.app N0 N121q
 have sz121 : h0.size ≤ h121.size := K121.1
 have nz121 := Nat.le_trans Z0 sz121
 have lt121_0 := ltA p121_0.lt
 have f122 : Arv Z h121 a2 k2 .char (8 : Int32) vs2 (.int 0) := (V2.keep K121 nin0)
 obtain ⟨cl123, Ar123, q123, S123, M123, H123, G123⟩ := id f122
 have hin123 : ¬ (o1 < 0 ∨ cl123.slots.size ≤ (o1).toNatClampNeg) := inb_of S123 ob0
 have hat123 : cl123.slots[(o1).toNatClampNeg]? = some (.int x0) := Has.at H123 hin123 hx0
 -- pc 20: StringUTF16.putChar by rm_pc_2_0
 have f125 : Old Z n0 h121 := (O0.keep K121 all0)
 obtain ⟨_, _, ⟨T124, L124, k124, n124⟩, -, X124, ⟨Lc124, hQ124, l124, y124, z124⟩, st124⟩ := Jvm.LawKit.callS X121 hx (y := (⟨kS1, "putChar", "([BII)V"⟩ : MethodName)) hown (mvT hZ (wd hw 101 rfl)) (mvT hZ (wd hw 102 rfl)) (mvT hZ (wd hw 86 rfl)) (mvT hZ (wd hw 103 rfl)) (by decide) (backOf (W := 0) (rm_pc_2_0 l Z a0 hw [] t_121 k_121 x0 (0 : Int32) (0 : Int32) (0 : Int32) (0 : Int32) h121 n0 nz121 f125 p121_0 (by first | assumption | decide | omega) (by first | assumption | decide | omega) (by first | assumption | decide | omega) (by first | assumption | decide | omega)) hZ (wd hw 103 rfl) (wd hw 86 rfl) (by decide) (by decide)) (g := (mkF m 20 (la11 a2 o1 (2 : Int32) t_121 (0 : Int32)) [(.int x0), (.int 0), (.ref t_121)])) rfl (by rw [hml]; rfl) (argsL := [(.ref t_121), (.int 0), (.int x0)]) (rest := []) (lenOf pd_5 rfl) rfl (wz rfl) (hb hby d17_20) (fun _ _ => ⟨rfl, e121, (by decide : 1 + 0 ≤ _), (by decide : 4 + 0 ≤ _)⟩)
 dsimp only [Pt.U, Pt.locs, Pt.cells, Pt.slots] at X124 l124 y124 z124 st124 hQ124
 subst l124 y124 z124
 obtain ⟨h124, e124⟩ : ∃ z, T124.heap = z := ⟨_, rfl⟩
 rw [e124] at hQ124
 obtain ⟨rfl, N124q, K124, p124_0⟩ := hQ124
 have N124 := Fr.app N121 N124q
 have sz124 : h121.size ≤ h124.size := K124.1
 have nz124 := Nat.le_trans nz121 sz124
 have lt124_0 := ltA p124_0.lt
 have ne126 : a2 ≠ t_121 := neN (by omega)
 have f127 : Arv Z h124 a2 k2 .char (8 : Int32) vs2 (.int 0) := (f122.keep K124 (ninS ne126 nin0))
 obtain ⟨cl128, Ar128, q128, S128, M128, H128, G128⟩ := id f127
 have hin128 : ¬ ((o1 + (1 : Int32)) < 0 ∨ cl128.slots.size ≤ ((o1 + (1 : Int32))).toNatClampNeg) := inb_of S128 ob1
 have hat128 : cl128.slots[((o1 + (1 : Int32))).toNatClampNeg]? = some (.int x1) := Has.at H128 hin128 hx1
 -- pc 20: StringUTF16.putChar by rm_pc_2_1
 have ge130 : n0 ≤ t_121 := by omega
 have f131 : Old Z n0 h124 := (f125.keep K124 (allS ge130 all0))
 obtain ⟨_, _, ⟨T129, L129, k129, n129⟩, -, X129, ⟨Lc129, hQ129, l129, y129, z129⟩, st129⟩ := Jvm.LawKit.callS X124 hx (y := (⟨kS1, "putChar", "([BII)V"⟩ : MethodName)) hown (mvT hZ (wd hw 101 rfl)) (mvT hZ (wd hw 102 rfl)) (mvT hZ (wd hw 86 rfl)) (mvT hZ (wd hw 103 rfl)) (by decide) (backOf (W := 0) (rm_pc_2_1 l Z a0 hw [] t_121 k_121 x1 ((x0 >>> ((0 : Int32) &&& 31)).toInt8.toInt32) ((x0 >>> ((8 : Int32) &&& 31)).toInt8.toInt32) (0 : Int32) (0 : Int32) h124 n0 nz124 f131 p124_0 (by first | assumption | decide | omega) (by first | assumption | decide | omega) (by first | assumption | decide | omega) (by first | assumption | decide | omega)) hZ (wd hw 103 rfl) (wd hw 86 rfl) (by decide) (by decide)) (g := (mkF m 20 (la11 a2 (o1 + (1 : Int32)) (2 : Int32) t_121 (1 : Int32)) [(.int x1), (.int 1), (.ref t_121)])) rfl (by rw [hml]; rfl) (argsL := [(.ref t_121), (.int 1), (.int x1)]) (rest := []) (lenOf pd_5 rfl) rfl (wz rfl) (hb hby d17_20) (fun _ _ => ⟨rfl, e124, (by decide : 1 + 0 ≤ _), (by decide : 4 + 0 ≤ _)⟩)
 dsimp only [Pt.U, Pt.locs, Pt.cells, Pt.slots] at X129 l129 y129 z129 st129 hQ129
 subst l129 y129 z129
 obtain ⟨h129, e129⟩ : ∃ z, T129.heap = z := ⟨_, rfl⟩
 rw [e129] at hQ129
 obtain ⟨rfl, N129q, K129, p129_0⟩ := hQ129
 have N129 := Fr.app N124 N129q
 have sz129 : h124.size ≤ h129.size := K129.1
 have nz129 := Nat.le_trans nz124 sz129
 have lt129_0 := ltA p129_0.lt
 obtain ⟨fs, hr, hrun, hended, hW, hsame⟩ := X129.leave (v := some (.ref t_121)) (fun h => by rw [Bd.returns] at h; cases h)
 refine ⟨_, _, pre0 _ ?_, hrun, hended, _, _, rfl, ?_, ⟨_, rfl⟩, hW, hsame.mono (by decide) (by decide)⟩
 ·show GO p e below s₁ (mkF m 0 (la9 a2 o1 (2 : Int32)) []) _
  refine XS.iloadN X0.here hx rfl (hb hby d17_0) rfl ?_
  show GO p e below s₁ (mkF m 1 (la9 a2 o1 (2 : Int32)) [(.int 2)]) _
  refine st121 _ ?_
  show GO p e below T121 (mkF m 4 (la9 a2 o1 (2 : Int32)) [(.ref t_121)]) _
  refine XS.astoreN X121.here hx rfl (hb hby d17_4) rfl rfl (l' := (la10 a2 o1 (2 : Int32) t_121)) rfl ?_
  show GO p e below T121 (mkF m 5 (la10 a2 o1 (2 : Int32) t_121) []) _
  refine XS.iconst X121.here hx rfl (hb hby d17_5) ?_
  show GO p e below T121 (mkF m 6 (la10 a2 o1 (2 : Int32) t_121) [(.int 0)]) _
  refine XS.istore X121.here hx rfl (hb hby d17_6) rfl (l' := (la11 a2 o1 (2 : Int32) t_121 (0 : Int32))) rfl ?_
  show GO p e below T121 (mkF m 8 (la11 a2 o1 (2 : Int32) t_121 (0 : Int32)) []) _
  refine XS.iload X121.here hx rfl (hb hby d17_8) rfl ?_
  show GO p e below T121 (mkF m 10 (la11 a2 o1 (2 : Int32) t_121 (0 : Int32)) [(.int 0)]) _
  refine XS.iloadN X121.here hx rfl (hb hby d17_10) rfl ?_
  show GO p e below T121 (mkF m 11 (la11 a2 o1 (2 : Int32) t_121 (0 : Int32)) [(.int 2), (.int 0)]) _
  refine XS.icmpNo X121.here hx rfl (hb hby d17_11) rfl (tlt ((by decide) : (0 : Int32) < (2 : Int32))).2.1 ?_
  show GO p e below T121 (mkF m 14 (la11 a2 o1 (2 : Int32) t_121 (0 : Int32)) []) _
  refine XS.aloadN X121.here hx rfl (hb hby d17_14) rfl rfl ?_
  show GO p e below T121 (mkF m 15 (la11 a2 o1 (2 : Int32) t_121 (0 : Int32)) [(.ref t_121)]) _
  refine XS.iload X121.here hx rfl (hb hby d17_15) rfl ?_
  show GO p e below T121 (mkF m 17 (la11 a2 o1 (2 : Int32) t_121 (0 : Int32)) [(.int 0), (.ref t_121)]) _
  refine XS.aloadN X121.here hx rfl (hb hby d17_17) rfl rfl ?_
  show GO p e below T121 (mkF m 18 (la11 a2 o1 (2 : Int32) t_121 (0 : Int32)) [(.ref a2), (.int 0), (.ref t_121)]) _
  refine XS.iloadN X121.here hx rfl (hb hby d17_18) rfl ?_
  show GO p e below T121 (mkF m 19 (la11 a2 o1 (2 : Int32) t_121 (0 : Int32)) [(.int o1), (.ref a2), (.int 0), (.ref t_121)]) _
  refine X121.caload hx (j := o1) (v := (.int x0)) (by rw [e121]; exact Ar123.1) (State.isArrayOf_alike hZ.alike Ar123.2.1) Ar123.2.2 hin123 hat123 (g := (mkF m 19 (la11 a2 o1 (2 : Int32) t_121 (0 : Int32)) [(.int o1), (.ref a2), (.int 0), (.ref t_121)])) rfl rfl (hb hby d17_19) _ ?_
  show GO p e below T121 (mkF m 20 (la11 a2 o1 (2 : Int32) t_121 (0 : Int32)) [(.int x0), (.int 0), (.ref t_121)]) _
  refine st124 _ ?_
  show GO p e below T124 (mkF m 23 (la11 a2 o1 (2 : Int32) t_121 (0 : Int32)) []) _
  refine XS.iinc X124.here hx rfl (hb hby d17_23) rfl (l' := (la11 a2 (o1 + (1 : Int32)) (2 : Int32) t_121 (0 : Int32))) rfl ?_
  show GO p e below T124 (mkF m 26 (la11 a2 (o1 + (1 : Int32)) (2 : Int32) t_121 (0 : Int32)) []) _
  refine XS.iinc X124.here hx rfl (hb hby d17_26) rfl (l' := (la11 a2 (o1 + (1 : Int32)) (2 : Int32) t_121 ((0 : Int32) + (1 : Int32)))) rfl ?_
  rw [show ((0 : Int32) + (1 : Int32)) = (1 : Int32) from by decide]
  show GO p e below T124 (mkF m 29 (la11 a2 (o1 + (1 : Int32)) (2 : Int32) t_121 (1 : Int32)) []) _
  refine XS.goto X124.here hx rfl (pc0 := 29) (pc' := 8) rfl (hb hby d17_29) (by decide) (by decide) ?_
  show GO p e below T124 (mkF m 8 (la11 a2 (o1 + (1 : Int32)) (2 : Int32) t_121 (1 : Int32)) []) _
  refine XS.iload X124.here hx rfl (hb hby d17_8) rfl ?_
  show GO p e below T124 (mkF m 10 (la11 a2 (o1 + (1 : Int32)) (2 : Int32) t_121 (1 : Int32)) [(.int 1)]) _
  refine XS.iloadN X124.here hx rfl (hb hby d17_10) rfl ?_
  show GO p e below T124 (mkF m 11 (la11 a2 (o1 + (1 : Int32)) (2 : Int32) t_121 (1 : Int32)) [(.int 2), (.int 1)]) _
  refine XS.icmpNo X124.here hx rfl (hb hby d17_11) rfl (tlt ((by decide) : (1 : Int32) < (2 : Int32))).2.1 ?_
  show GO p e below T124 (mkF m 14 (la11 a2 (o1 + (1 : Int32)) (2 : Int32) t_121 (1 : Int32)) []) _
  refine XS.aloadN X124.here hx rfl (hb hby d17_14) rfl rfl ?_
  show GO p e below T124 (mkF m 15 (la11 a2 (o1 + (1 : Int32)) (2 : Int32) t_121 (1 : Int32)) [(.ref t_121)]) _
  refine XS.iload X124.here hx rfl (hb hby d17_15) rfl ?_
  show GO p e below T124 (mkF m 17 (la11 a2 (o1 + (1 : Int32)) (2 : Int32) t_121 (1 : Int32)) [(.int 1), (.ref t_121)]) _
  refine XS.aloadN X124.here hx rfl (hb hby d17_17) rfl rfl ?_
  show GO p e below T124 (mkF m 18 (la11 a2 (o1 + (1 : Int32)) (2 : Int32) t_121 (1 : Int32)) [(.ref a2), (.int 1), (.ref t_121)]) _
  refine XS.iloadN X124.here hx rfl (hb hby d17_18) rfl ?_
  show GO p e below T124 (mkF m 19 (la11 a2 (o1 + (1 : Int32)) (2 : Int32) t_121 (1 : Int32)) [(.int (o1 + (1 : Int32))), (.ref a2), (.int 1), (.ref t_121)]) _
  refine X124.caload hx (j := (o1 + (1 : Int32))) (v := (.int x1)) (by rw [e124]; exact Ar128.1) (State.isArrayOf_alike hZ.alike Ar128.2.1) Ar128.2.2 hin128 hat128 (g := (mkF m 19 (la11 a2 (o1 + (1 : Int32)) (2 : Int32) t_121 (1 : Int32)) [(.int (o1 + (1 : Int32))), (.ref a2), (.int 1), (.ref t_121)])) rfl rfl (hb hby d17_19) _ ?_
  show GO p e below T124 (mkF m 20 (la11 a2 (o1 + (1 : Int32)) (2 : Int32) t_121 (1 : Int32)) [(.int x1), (.int 1), (.ref t_121)]) _
  refine st129 _ ?_
  show GO p e below T129 (mkF m 23 (la11 a2 (o1 + (1 : Int32)) (2 : Int32) t_121 (1 : Int32)) []) _
  refine XS.iinc X129.here hx rfl (hb hby d17_23) rfl (l' := (la11 a2 ((o1 + (1 : Int32)) + (1 : Int32)) (2 : Int32) t_121 (1 : Int32))) rfl ?_
  show GO p e below T129 (mkF m 26 (la11 a2 ((o1 + (1 : Int32)) + (1 : Int32)) (2 : Int32) t_121 (1 : Int32)) []) _
  refine XS.iinc X129.here hx rfl (hb hby d17_26) rfl (l' := (la11 a2 ((o1 + (1 : Int32)) + (1 : Int32)) (2 : Int32) t_121 ((1 : Int32) + (1 : Int32)))) rfl ?_
  rw [show ((1 : Int32) + (1 : Int32)) = (2 : Int32) from by decide]
  show GO p e below T129 (mkF m 29 (la11 a2 ((o1 + (1 : Int32)) + (1 : Int32)) (2 : Int32) t_121 (2 : Int32)) []) _
  refine XS.goto X129.here hx rfl (pc0 := 29) (pc' := 8) rfl (hb hby d17_29) (by decide) (by decide) ?_
  show GO p e below T129 (mkF m 8 (la11 a2 ((o1 + (1 : Int32)) + (1 : Int32)) (2 : Int32) t_121 (2 : Int32)) []) _
  refine XS.iload X129.here hx rfl (hb hby d17_8) rfl ?_
  show GO p e below T129 (mkF m 10 (la11 a2 ((o1 + (1 : Int32)) + (1 : Int32)) (2 : Int32) t_121 (2 : Int32)) [(.int 2)]) _
  refine XS.iloadN X129.here hx rfl (hb hby d17_10) rfl ?_
  show GO p e below T129 (mkF m 11 (la11 a2 ((o1 + (1 : Int32)) + (1 : Int32)) (2 : Int32) t_121 (2 : Int32)) [(.int 2), (.int 2)]) _
  refine XS.icmpYes X129.here hx rfl (pc0 := 11) (pc' := 32) rfl (hb hby d17_11) rfl (flt ((by decide) : ¬ ((2 : Int32) < (2 : Int32)))).2.1 (by decide) (by decide) ?_
  show GO p e below T129 (mkF m 32 (la11 a2 ((o1 + (1 : Int32)) + (1 : Int32)) (2 : Int32) t_121 (2 : Int32)) []) _
  refine XS.aloadN X129.here hx rfl (hb hby d17_32) rfl rfl ?_
  show GO p e below T129 (mkF m 33 (la11 a2 ((o1 + (1 : Int32)) + (1 : Int32)) (2 : Int32) t_121 (2 : Int32)) [(.ref t_121)]) _
  exact retOut X129 hx Bd.returns rfl (Or.inr (Or.inr (Or.inr (Or.inr ⟨rfl, rfl, rfl⟩)))) (hb hby d17_33) hr
 ·show Qrm_tob2 Z a2 k2 vs2 o1 x0 x1 h0 n0 _ T129.heap _
  rw [e129]
  exact ⟨t_121, k_121, rfl, N129, ((((Keep.refl h0 []).trans K121 all0).trans K124 (allS (P := fun x => x ∈ _ ∨ _) (Or.inr (by omega)) all0)).trans K129 (allS (P := fun x => x ∈ _ ∨ _) (Or.inr (by omega)) all0)), p129_0, (by omega)⟩
def Qrm_c3_1L (Z : State) (a2 : Addr) (k2 : ClassId) (vs2 : List Value) (o1 : Int32) (x0 : Int32) (h0 : Heap) (n0 : Nat) (v : Option Value) (h : Heap) (L : List Loc) : Prop := ∃ t : Addr, ∃ k : ClassId, v = some (.ref t) ∧ Fr n0 L ∧ Keep h0 h [] ∧ Arv Z h t k .byte (1 : Int32) [(.int (x0.toInt8.toInt32))] (.int 0) ∧ h0.size ≤ t
theorem ef_rm_c3_1L (m : MethodId) (x0 : Addr) (x1 : Int32) (x2 : Int32) : entryFrame m #[(.ref x0), (.int x1), (.int x2)] 6 = mkF m 0 (la12 x0 x1 x2) [] := by first | rfl | (simp [entryFrame, mkF, argsToLocals, Value.category]; done)
theorem rm_c3_1L (l : Launch) (Z : State) (a0 : Array Value) (hw : HW Z a0) (ws : List Jvm.Cond) (a2 : Addr) (k2 : ClassId) (vs2 : List Value) (o1 : Int32) (x0 : Int32) (h0 : Heap) (n0 : Nat) (Z0 : n0 ≤ h0.size) (O0 : Old Z n0 h0) (V2 : Arv Z h0 a2 k2 .char (8 : Int32) vs2 (.int 0)) (SZad : Sta Z Z.heap kS1 "$assertionsDisabled" "Z" (.int 1)) (SZhi : Sta Z Z.heap kS1 "HI_BYTE_SHIFT" "I" (.int 0)) (SZlo : Sta Z Z.heap kS1 "LO_BYTE_SHIFT" "I" (.int 8)) (ob0 : (¬ o1 < 0 ∧ o1 < (8 : Int32))) (hx0 : vs2.getD (o1).toNatClampNeg (.int 0) = (.int x0)) (lb0 : (¬ x0 < 0 ∧ ¬ (65535 : Int32) < x0)) (c0 : ¬ ((255 : Int32) < x0)) :
  OwnM l Z h0 (⟨kS1, "compress", "([CII)[B"⟩ : MethodName) (Jvm.Cond.code (⟨kS1, "compress", "([CII)[B"⟩ : MethodName) jdk_52_method_16_code 6 (some (.array .byte)) :: ws) (RM 1 1 1 18) #[(.ref a2), (.int o1), (.int 1)] (Qrm_c3_1L Z a2 k2 vs2 o1 x0 h0 n0) := by
 refine MetFree.of_bodySF (plainFor_of_name pn_3) hisR ?_
 intro p e s m args below meth c s₁ Bd hml0 hP hK
 obtain ⟨rfl, hZ, hh⟩ := hP
 have hx := Bd.exec
 have hby := Bd.bytes
 have hml : c.maxLocals = 6 := hml0
 have hown : s.vm.findClass kS1 = some m.cls := findClass_of_methodNamed Bd.named
 have hnm := (name_of_methodNamed Bd.named Bd.method).1
 have X0 : Stand p l e (RM 1 1 1 18) s m #[(.ref a2), (.int o1), (.int 1)] below meth c s₁ [] 0 0 := Stand.of_body Bd
 have e0 : s₁.heap = h0 := by rw [← hh, Bd.state]; rfl
 have N0 := Fr.nil n0
 have pre0 : ∀ t, GO p e below s₁ (mkF m 0 (la12 a2 o1 (1 : Int32)) []) t → GO p e below s₁ (entryFrame m #[(.ref a2), (.int o1), (.int 1)] 6) t := fun t k => castTop (ef_rm_c3_1L m a2 o1 ((1 : Int32))) k
 have lt_V2 := ltA V2.lt
 obtain ⟨T132, h132, k132, X132, e132, E132, A132, st132⟩ := newP X0 hx hZ (wd hw 66 rfl) e0 (g := (mkF m 1 (la12 a2 o1 (1 : Int32)) [(.int 1)])) rfl (hb hby d15_1) rfl (by decide) (cap := 1) (by decide) (by decide) (by decide) (by decide)
 obtain ⟨b132, g132⟩ : ∃ z, z = h0.size := ⟨_, rfl⟩
 rw [← g132] at A132 st132
 have sz132 : h0.size ≤ h132.size := E132.1
 have nz132 := Nat.le_trans Z0 sz132
 have lt132 := ltA A132.lt
 have V132 : Arv Z h132 b132 k132 .byte (1 : Int32) [(.int 0)] (.int 0) := (Arv.new A132 (by decide)).pad (pad_rep [] (.int 0) 1)
 -- pc 9: StringUTF16.compress by rm_c5_1L
 have f134 : Arv Z h132 a2 k2 .char (8 : Int32) vs2 (.int 0) := (V2.ext E132)
 have ne135 : a2 ≠ b132 := neN (by omega)
 obtain ⟨_, _, ⟨T133, L133, k133, n133⟩, -, X133, ⟨Lc133, hQ133, l133, y133, z133⟩, st133⟩ := Jvm.LawKit.callS X132 hx (y := (⟨kS1, "compress", "([CI[BII)I"⟩ : MethodName)) hown (mvT hZ (wd hw 88 rfl)) (mvT hZ (wd hw 89 rfl)) (mvT hZ (wd hw 86 rfl)) (mvT hZ (wd hw 90 rfl)) (by decide) (backOf (W := 0) (rm_c5_1L l Z a0 hw [] a2 k2 vs2 o1 x0 b132 k132 h132 n0 nz132 f134 V132 (by first | assumption | decide | omega) (by first | assumption | decide | omega) (by first | assumption | decide | omega) (by first | assumption | decide | omega) (by first | assumption | decide | omega) ne135) hZ (wd hw 90 rfl) (wd hw 86 rfl) (by decide) (by decide)) (g := (mkF m 9 (la13 a2 o1 (1 : Int32) b132) [(.int 1), (.int 0), (.ref b132), (.int o1), (.ref a2)])) rfl (by rw [hml]; rfl) (argsL := [(.ref a2), (.int o1), (.ref b132), (.int 0), (.int 1)]) (rest := []) (lenOf pd_6 rfl) rfl (wz rfl) (hb hby d15_9) (fun _ _ => ⟨rfl, e132, (by decide : 1 + 0 ≤ _), (by decide : 1 + 0 ≤ _)⟩)
 dsimp only [Pt.U, Pt.locs, Pt.cells, Pt.slots] at X133 l133 y133 z133 st133 hQ133
 subst l133 y133 z133
 obtain ⟨h133, e133⟩ : ∃ z, T133.heap = z := ⟨_, rfl⟩
 rw [e133] at hQ133
 obtain ⟨rfl, N133q, K133, p133_0⟩ := hQ133
 have N133 := Fr.app N0 N133q
 have sz133 : h132.size ≤ h133.size := K133.1
 have nz133 := Nat.le_trans nz132 sz133
 have lt133_0 := ltA p133_0.lt
 obtain ⟨fs, hr, hrun, hended, hW, hsame⟩ := X133.leave (v := some (.ref b132)) (fun h => by rw [Bd.returns] at h; cases h)
 refine ⟨_, _, pre0 _ ?_, hrun, hended, _, _, rfl, ?_, ⟨_, rfl⟩, hW, hsame.mono (by decide) (by decide)⟩
 ·show GO p e below s₁ (mkF m 0 (la12 a2 o1 (1 : Int32)) []) _
  refine XS.iloadN X0.here hx rfl (hb hby d15_0) rfl ?_
  show GO p e below s₁ (mkF m 1 (la12 a2 o1 (1 : Int32)) [(.int 1)]) _
  refine st132 _ ?_
  show GO p e below T132 (mkF m 3 (la12 a2 o1 (1 : Int32)) [(.ref b132)]) _
  refine XS.astoreN X132.here hx rfl (hb hby d15_3) rfl rfl (l' := (la13 a2 o1 (1 : Int32) b132)) rfl ?_
  show GO p e below T132 (mkF m 4 (la13 a2 o1 (1 : Int32) b132) []) _
  refine XS.aloadN X132.here hx rfl (hb hby d15_4) rfl rfl ?_
  show GO p e below T132 (mkF m 5 (la13 a2 o1 (1 : Int32) b132) [(.ref a2)]) _
  refine XS.iloadN X132.here hx rfl (hb hby d15_5) rfl ?_
  show GO p e below T132 (mkF m 6 (la13 a2 o1 (1 : Int32) b132) [(.int o1), (.ref a2)]) _
  refine XS.aloadN X132.here hx rfl (hb hby d15_6) rfl rfl ?_
  show GO p e below T132 (mkF m 7 (la13 a2 o1 (1 : Int32) b132) [(.ref b132), (.int o1), (.ref a2)]) _
  refine XS.iconst X132.here hx rfl (hb hby d15_7) ?_
  show GO p e below T132 (mkF m 8 (la13 a2 o1 (1 : Int32) b132) [(.int 0), (.ref b132), (.int o1), (.ref a2)]) _
  refine XS.iloadN X132.here hx rfl (hb hby d15_8) rfl ?_
  show GO p e below T132 (mkF m 9 (la13 a2 o1 (1 : Int32) b132) [(.int 1), (.int 0), (.ref b132), (.int o1), (.ref a2)]) _
  refine st133 _ ?_
  show GO p e below T133 (mkF m 12 (la13 a2 o1 (1 : Int32) b132) [(.int 1)]) _
  refine XS.istore X133.here hx rfl (hb hby d15_12) rfl (l' := (la14 a2 o1 (1 : Int32) b132 (1 : Int32))) rfl ?_
  show GO p e below T133 (mkF m 14 (la14 a2 o1 (1 : Int32) b132 (1 : Int32)) []) _
  refine XS.iload X133.here hx rfl (hb hby d15_14) rfl ?_
  show GO p e below T133 (mkF m 16 (la14 a2 o1 (1 : Int32) b132 (1 : Int32)) [(.int 1)]) _
  refine XS.iloadN X133.here hx rfl (hb hby d15_16) rfl ?_
  show GO p e below T133 (mkF m 17 (la14 a2 o1 (1 : Int32) b132 (1 : Int32)) [(.int 1), (.int 1)]) _
  refine XS.icmpYes X133.here hx rfl (pc0 := 17) (pc' := 57) rfl (hb hby d15_17) rfl (teq (rfl : (1 : Int32) = (1 : Int32))).1 (by decide) (by decide) ?_
  show GO p e below T133 (mkF m 57 (la14 a2 o1 (1 : Int32) b132 (1 : Int32)) []) _
  refine XS.aloadN X133.here hx rfl (hb hby d15_57) rfl rfl ?_
  show GO p e below T133 (mkF m 58 (la14 a2 o1 (1 : Int32) b132 (1 : Int32)) [(.ref b132)]) _
  exact retOut X133 hx Bd.returns rfl (Or.inr (Or.inr (Or.inr (Or.inr ⟨rfl, rfl, rfl⟩)))) (hb hby d15_58) hr
 ·show Qrm_c3_1L Z a2 k2 vs2 o1 x0 h0 n0 _ T133.heap _
  rw [e133]
  exact ⟨b132, k132, rfl, N133, (((Keep.refl h0 []).ext E132).trans K133 (allS (P := fun x => x ∈ _ ∨ _) (Or.inr (by omega)) all0)), p133_0, (by omega)⟩
def Qrm_ca_1_1 (Z : State) (d1 : Addr) (kd : ClassId) (v1 : List Value) (h0 : Heap) (n0 : Nat) (v : Option Value) (h : Heap) (L : List Loc) : Prop := v = some (.int 0) ∧ Fr n0 L ∧ h = h0
theorem ef_rm_ca_1_1 (m : MethodId) (x0 : Addr) (x1 : Int32) : entryFrame m #[(.ref x0), (.int x1)] 2 = mkF m 0 #[.val (.ref x0), .val (.int x1)] [] := by first | rfl | (simp [entryFrame, mkF, argsToLocals, Value.category]; done)
theorem rm_ca_1_1 (l : Launch) (Z : State) (a0 : Array Value) (hw : HW Z a0) (ws : List Jvm.Cond) (d1 : Addr) (kd : ClassId) (v1 : List Value) (h0 : Heap) (n0 : Nat) (Z0 : n0 ≤ h0.size) (Vd : Arv Z h0 d1 kd .byte (1 : Int32) v1 (.int 0)) :
  OwnM l Z h0 (⟨kS1, "coderFromArrayLen", "([BI)B"⟩ : MethodName) (Jvm.Cond.code (⟨kS1, "coderFromArrayLen", "([BI)B"⟩ : MethodName) jdk_52_method_15_code 2 (some .byte) :: ws) (RM 0 0 0 0) #[(.ref d1), (.int 1)] (Qrm_ca_1_1 Z d1 kd v1 h0 n0) := by
 refine MetFree.of_bodySF (plainFor_of_name pn_3) hisR ?_
 intro p e s m args below meth c s₁ Bd hml0 hP hK
 obtain ⟨rfl, hZ, hh⟩ := hP
 have hx := Bd.exec
 have hby := Bd.bytes
 have hml : c.maxLocals = 2 := hml0
 have hown : s.vm.findClass kS1 = some m.cls := findClass_of_methodNamed Bd.named
 have hnm := (name_of_methodNamed Bd.named Bd.method).1
 have X0 : Stand p l e (RM 0 0 0 0) s m #[(.ref d1), (.int 1)] below meth c s₁ [] 0 0 := Stand.of_body Bd
 have e0 : s₁.heap = h0 := by rw [← hh, Bd.state]; rfl
 have N0 := Fr.nil n0
 have pre0 : ∀ t, GO p e below s₁ (mkF m 0 #[.val (.ref d1), .val (.int 1)] []) t → GO p e below s₁ (entryFrame m #[(.ref d1), (.int 1)] 2) t := fun t k => castTop (ef_rm_ca_1_1 m d1 ((1 : Int32))) k
 have lt_Vd := ltA Vd.lt
 obtain ⟨cl136, Ar136, -, S136, M136, -, -⟩ := id Vd
 obtain ⟨fs, hr, hrun, hended, hW, hsame⟩ := X0.leave (v := some (.int (nar .byte (0 : Int32)))) (fun h => by rw [Bd.returns] at h; cases h)
 refine ⟨_, _, pre0 _ ?_, hrun, hended, _, _, rfl, ?_, ⟨_, rfl⟩, hW, hsame.mono (by decide) (by decide)⟩
 ·show GO p e below s₁ (mkF m 0 #[.val (.ref d1), .val (.int 1)] []) _
  refine XS.iloadN X0.here hx rfl (hb hby d22_0) rfl ?_
  show GO p e below s₁ (mkF m 1 #[.val (.ref d1), .val (.int 1)] [(.int 1)]) _
  refine XS.aloadN X0.here hx rfl (hb hby d22_1) rfl rfl ?_
  show GO p e below s₁ (mkF m 2 #[.val (.ref d1), .val (.int 1)] [(.ref d1), (.int 1)]) _
  refine X0.arraylength hx (by rw [e0]; exact Ar136.1) (State.isArrayOf_alike hZ.alike Ar136.2.1) (g := (mkF m 2 #[.val (.ref d1), .val (.int 1)] [(.ref d1), (.int 1)])) rfl rfl (hb hby d22_2) _ ?_
  rw [len_of S136 M136]
  show GO p e below s₁ (mkF m 3 #[.val (.ref d1), .val (.int 1)] [(.int 1), (.int 1)]) _
  refine XS.isub X0.here hx rfl (hb hby d22_3) rfl ?_
  rw [show ((1 : Int32) - (1 : Int32)) = (0 : Int32) from by decide]
  show GO p e below s₁ (mkF m 4 #[.val (.ref d1), .val (.int 1)] [(.int 0)]) _
  refine XS.bipush X0.here hx rfl (hb hby d22_4) ?_
  show GO p e below s₁ (mkF m 6 #[.val (.ref d1), .val (.int 1)] [(.int 31), (.int 0)]) _
  refine XS.iushr X0.here hx rfl (hb hby d22_6) rfl ?_
  rw [show (((0 : Int32).toUInt32 >>> ((31 : Int32) &&& 31).toUInt32).toInt32) = (0 : Int32) from by decide]
  show GO p e below s₁ (mkF m 7 #[.val (.ref d1), .val (.int 1)] [(.int 0)]) _
  refine XS.i2b X0.here hx rfl (hb hby d22_7) rfl ?_
  rw [show ((0 : Int32).toInt8.toInt32) = (0 : Int32) from by decide]
  show GO p e below s₁ (mkF m 8 #[.val (.ref d1), .val (.int 1)] [(.int 0)]) _
  exact retN X0 hx (t := .byte) Bd.returns (by simp) (hb hby d22_8) hr
 ·show Qrm_ca_1_1 Z d1 kd v1 h0 n0 _ s₁.heap _
  rw [e0]
  exact ⟨rfl, N0, rfl⟩
def Qrm_s4_1L (Z : State) (y1 : Addr) (w1 : Value) (w2 : Value) (a2 : Addr) (k2 : ClassId) (vs2 : List Value) (o1 : Int32) (x0 : Int32) (z0 : Int32) (h0 : Heap) (n0 : Nat) (v : Option Value) (h : Heap) (L : List Loc) : Prop := ∃ t : Addr, ∃ k : ClassId, v = none ∧ Fr n0 L ∧ Keep h0 h [y1] ∧ Exa Z h y1 kS0 ∧ Fld Z h y1 kS0 "coder" "B" (.int 0) ∧ Fld Z h y1 kS0 "value" "[B" (.ref t) ∧ Arv Z h t k .byte (1 : Int32) [(.int (x0.toInt8.toInt32))] (.int 0) ∧ h0.size ≤ t
theorem ef_rm_s4_1L (m : MethodId) (x0 : Addr) (x1 : Addr) (x2 : Int32) (x3 : Int32) : entryFrame m #[(.ref x0), (.ref x1), (.int x2), (.int x3), .null] 6 = mkF m 0 (la15 x0 x1 x2 x3) [] := by first | rfl | (simp [entryFrame, mkF, argsToLocals, Value.category]; done)
theorem rm_s4_1L (l : Launch) (Z : State) (a0 : Array Value) (hw : HW Z a0) (ws : List Jvm.Cond) (y1 : Addr) (w1 : Value) (w2 : Value) (a2 : Addr) (k2 : ClassId) (vs2 : List Value) (o1 : Int32) (x0 : Int32) (z0 : Int32) (h0 : Heap) (n0 : Nat) (Z0 : n0 ≤ h0.size) (O0 : Old Z n0 h0) (Es : Exa Z h0 y1 kS0) (Fv1 : Fld Z h0 y1 kS0 "value" "[B" w1) (Fc1 : Fld Z h0 y1 kS0 "coder" "B" w2) (V2 : Arv Z h0 a2 k2 .char (8 : Int32) vs2 (.int 0)) (SZc : Sta Z Z.heap kS0 "COMPACT_STRINGS" "Z" (.int z0)) (hz0 : ¬ z0 = 0) (SZad : Sta Z Z.heap kS1 "$assertionsDisabled" "Z" (.int 1)) (SZhi : Sta Z Z.heap kS1 "HI_BYTE_SHIFT" "I" (.int 0)) (SZlo : Sta Z Z.heap kS1 "LO_BYTE_SHIFT" "I" (.int 8)) (ob0 : (¬ o1 < 0 ∧ o1 < (8 : Int32))) (hx0 : vs2.getD (o1).toNatClampNeg (.int 0) = (.int x0)) (lb0 : (¬ x0 < 0 ∧ ¬ (65535 : Int32) < x0)) (c0 : ¬ ((255 : Int32) < x0)) (gy : n0 ≤ y1) :
  OwnM l Z h0 (⟨kS0, "<init>", "([CIILjava/lang/Void;)V"⟩ : MethodName) (Jvm.Cond.code (⟨kS0, "<init>", "([CIILjava/lang/Void;)V"⟩ : MethodName) jdk_42_method_149_code 6 none :: ws) (RM 2 1 1 35) #[(.ref y1), (.ref a2), (.int o1), (.int 1), .null] (Qrm_s4_1L Z y1 w1 w2 a2 k2 vs2 o1 x0 z0 h0 n0) := by
 refine MetFree.of_bodySF (plainFor_of_name pn_2) hisR ?_
 intro p e s m args below meth c s₁ Bd hml0 hP hK
 obtain ⟨rfl, hZ, hh⟩ := hP
 have hx := Bd.exec
 have hby := Bd.bytes
 have hml : c.maxLocals = 6 := hml0
 have hown : s.vm.findClass kS0 = some m.cls := findClass_of_methodNamed Bd.named
 have hnm := (name_of_methodNamed Bd.named Bd.method).1
 have X0 : Stand p l e (RM 2 1 1 35) s m #[(.ref y1), (.ref a2), (.int o1), (.int 1), .null] below meth c s₁ [] 0 0 := Stand.of_body Bd
 have e0 : s₁.heap = h0 := by rw [← hh, Bd.state]; rfl
 have N0 := Fr.nil n0
 have pre0 : ∀ t, GO p e below s₁ (mkF m 0 (la15 y1 a2 o1 (1 : Int32)) []) t → GO p e below s₁ (entryFrame m #[(.ref y1), (.ref a2), (.int o1), (.int 1), .null] 6) t := fun t k => castTop (ef_rm_s4_1L m y1 a2 o1 ((1 : Int32))) k
 have lt_Es := ltA Es.lt
 have lt_Fv1 := ltA Fv1.lt
 have lt_Fc1 := ltA Fc1.lt
 have lt_V2 := ltA V2.lt
 obtain ⟨T137, X137, e137, st137⟩ := initO X0 hx hZ hown (wd hw 64 rfl) (wd hw 21 rfl) (wd hw 22 rfl) e0 (g := (mkF m 1 (la15 y1 a2 o1 (1 : Int32)) [(.ref y1)])) rfl (by rw [hml]; rfl) rfl (hb hby d12_1) (by decide) (W := 0) (wz rfl) (by decide)
 have S138 : Sta Z h0 kS0 "COMPACT_STRINGS" "Z" (.int z0) := SZc.ext O0.2
 obtain ⟨T139, X139, e139, st139⟩ := getS2 X137 hx hZ hown (host := "") (Or.inl (wd hw 83 rfl)) Via.refl e137 S138 (g := (mkF m 27 (la15 y1 a2 o1 (1 : Int32)) [])) rfl (hb hby d12_27)
 -- pc 36: StringUTF16.compress by rm_c3_1L
 obtain ⟨_, _, ⟨T140, L140, k140, n140⟩, -, X140, ⟨Lc140, hQ140, l140, y140, z140⟩, st140⟩ := Jvm.LawKit.callS X139 hx (y := (⟨kS1, "compress", "([CII)[B"⟩ : MethodName)) hown (mvT hZ (wd hw 84 rfl)) (mvT hZ (wd hw 85 rfl)) (mvT hZ (wd hw 86 rfl)) (mvT hZ (wd hw 87 rfl)) (by decide) (backOf (W := 0) (rm_c3_1L l Z a0 hw [] a2 k2 vs2 o1 x0 h0 n0 Z0 O0 V2 (by first | assumption | decide | omega) (by first | assumption | decide | omega) (by first | assumption | decide | omega) (by first | assumption | decide | omega) (by first | assumption | decide | omega) (by first | assumption | decide | omega) (by first | assumption | decide | omega)) hZ (wd hw 87 rfl) (wd hw 86 rfl) (by decide) (by decide)) (g := (mkF m 36 (la15 y1 a2 o1 (1 : Int32)) [(.int 1), (.int o1), (.ref a2)])) rfl (by rw [hml]; rfl) (argsL := [(.ref a2), (.int o1), (.int 1)]) (rest := []) (lenOf pd_7 rfl) rfl (wz rfl) (hb hby d12_36) (fun _ _ => ⟨rfl, e139, (by decide : 0 + 1 ≤ _), (by decide : 0 + 1 ≤ _)⟩)
 dsimp only [Pt.U, Pt.locs, Pt.cells, Pt.slots] at X140 l140 y140 z140 st140 hQ140
 subst l140 y140 z140
 obtain ⟨h140, e140⟩ : ∃ z, T140.heap = z := ⟨_, rfl⟩
 rw [e140] at hQ140
 obtain ⟨t_140, k_140, rfl, N140q, K140, p140_0, r140_0⟩ := hQ140
 have N140 := Fr.app N0 N140q
 have sz140 : h0.size ≤ h140.size := K140.1
 have nz140 := Nat.le_trans Z0 sz140
 have lt140_0 := ltA p140_0.lt
 -- pc 45: StringUTF16.coderFromArrayLen by rm_ca_1_1
 obtain ⟨_, _, ⟨T141, L141, k141, n141⟩, -, X141, ⟨Lc141, hQ141, l141, y141, z141⟩, st141⟩ := Jvm.LawKit.callS X140 hx (y := (⟨kS1, "coderFromArrayLen", "([BI)B"⟩ : MethodName)) hown (mvT hZ (wd hw 110 rfl)) (mvT hZ (wd hw 111 rfl)) (mvT hZ (wd hw 86 rfl)) (mvT hZ (wd hw 112 rfl)) (by decide) (backOf (W := 1) (rm_ca_1_1 l Z a0 hw [] t_140 k_140 ([(.int (x0.toInt8.toInt32))]) h140 n0 nz140 p140_0) hZ (wd hw 112 rfl) (wd hw 86 rfl) (by decide) (by decide)) (g := (mkF m 45 (la16 y1 a2 o1 (1 : Int32) t_140) [(.int 1), (.ref t_140), (.ref y1)])) rfl (by rw [hml]; rfl) (argsL := [(.ref t_140), (.int 1)]) (rest := [(.ref y1)]) (lenOf pd_8 rfl) rfl (wz rfl) (hb hby d12_45) (fun _ _ => ⟨rfl, e140, (by decide : 1 + 0 ≤ _), (by decide : 1 + 0 ≤ _)⟩)
 dsimp only [Pt.U, Pt.locs, Pt.cells, Pt.slots] at X141 l141 y141 z141 st141 hQ141
 subst l141 y141 z141
 obtain ⟨rfl, N141q, e141⟩ := hQ141
 have N141 := Fr.app N140 N141q
 have f142 : Fld Z h140 y1 kS0 "coder" "B" w2 := (Fc1.keep K140 nin0)
 have f143 : Exa Z h140 y1 kS0 := (Es.keep K140)
 obtain ⟨T144, h144, X144, e144, W144, st144⟩ := putFN X141 hx hZ hown (wd hw 72 rfl) Via.refl e141 f142 f143 (Or.inr ⟨(wd hw 68 rfl), rfl, hnm⟩) (wd hw 45 rfl) (ty := .byte) (v' := (.int 0)) (by decide) rfl rfl (g := (mkF m 48 (la16 y1 a2 o1 (1 : Int32) t_140) [(.int 0), (.ref y1)])) rfl rfl (hb hby d12_48)
 have ge145 : n0 ≤ y1 := by omega
 have N144 := Fr.snoc X144 N141 ge145
 have f146 : Arv Z h140 a2 k2 .char (8 : Int32) vs2 (.int 0) := (V2.keep K140 nin0)
 have ne147 : y1 ≠ a2 := Exa.neArv f143 f146 (wd hw 45 rfl)
 have ne148 : y1 ≠ t_140 := Exa.neArv f143 p140_0 (wd hw 45 rfl)
 have sz144 : h140.size ≤ h144.size := Nat.le_of_eq W144.size.symm
 have nz144 := Nat.le_trans nz140 sz144
 have f144 : Fld Z h144 y1 kS0 "coder" "B" (.int 0) := f142.same W144
 have f149 : Fld Z h144 y1 kS0 "value" "[B" w1 := ((Fv1.keep K140 nin0).other W144 (Or.inr (slot_ne (Or.inr (wd hw 67 rfl)) (Or.inr (wd hw 68 rfl)) (by decide) (t := (.array .byte)) (t' := .byte) (by decide) (by decide))))
 have f150 : Exa Z h144 y1 kS0 := (f143.wr W144)
 obtain ⟨T151, h151, X151, e151, W151, st151⟩ := putF X144 hx hZ hown (host := "") (Or.inl (wd hw 71 rfl)) Via.refl e144 f149 f150 (Or.inr ⟨(wd hw 67 rfl), rfl, hnm⟩) (wd hw 45 rfl) (ty := (.array .byte)) (by decide) rfl rfl (g := (mkF m 54 (la16 y1 a2 o1 (1 : Int32) t_140) [(.ref t_140), (.ref y1)])) rfl rfl (hb hby d12_54)
 have N151 := Fr.snoc X151 N144 ge145
 have sz151 : h144.size ≤ h151.size := Nat.le_of_eq W151.size.symm
 have nz151 := Nat.le_trans nz144 sz151
 have f151 : Fld Z h151 y1 kS0 "value" "[B" (.ref t_140) := f149.same W151
 have f152 : Exa Z h151 y1 kS0 := (f150.wr W151)
 have f153 : Fld Z h151 y1 kS0 "coder" "B" (.int 0) := (f144.other W151 (Or.inr (slot_ne (Or.inr (wd hw 68 rfl)) (Or.inr (wd hw 67 rfl)) (by decide) (t := .byte) (t' := (.array .byte)) (by decide) (by decide))))
 have f154 : Arv Z h151 t_140 k_140 .byte (1 : Int32) [(.int (x0.toInt8.toInt32))] (.int 0) := ((p140_0.other W144 (Ne.symm ne148)).other W151 (Ne.symm ne148))
 obtain ⟨fs, hr, hrun, hended, hW, hsame⟩ := X151.leave (v := none) (fun _ => rfl)
 refine ⟨_, _, pre0 _ ?_, hrun, hended, _, _, rfl, ?_, ⟨_, rfl⟩, hW, hsame.mono (by decide) (by decide)⟩
 ·show GO p e below s₁ (mkF m 0 (la15 y1 a2 o1 (1 : Int32)) []) _
  refine XS.aloadN X0.here hx rfl (hb hby d12_0) rfl rfl ?_
  show GO p e below s₁ (mkF m 1 (la15 y1 a2 o1 (1 : Int32)) [(.ref y1)]) _
  refine st137 _ ?_
  show GO p e below T137 (mkF m 4 (la15 y1 a2 o1 (1 : Int32)) []) _
  refine XS.iloadN X137.here hx rfl (hb hby d12_4) rfl ?_
  show GO p e below T137 (mkF m 5 (la15 y1 a2 o1 (1 : Int32)) [(.int 1)]) _
  refine XS.ifYes X137.here hx rfl (pc0 := 5) (pc' := 27) rfl (hb hby d12_5) rfl ((if0 _ _).trans (feq ((by decide) : ¬ ((1 : Int32) = (0 : Int32)))).2) (by decide) (by decide) ?_
  show GO p e below T137 (mkF m 27 (la15 y1 a2 o1 (1 : Int32)) []) _
  refine st139 _ ?_
  show GO p e below T139 (mkF m 30 (la15 y1 a2 o1 (1 : Int32)) [(.int z0)]) _
  refine XS.ifNo X139.here hx rfl (hb hby d12_30) rfl ((if0 _ _).trans (feq ((by first | assumption | decide) : ¬ (z0 = (0 : Int32)))).1) ?_
  show GO p e below T139 (mkF m 33 (la15 y1 a2 o1 (1 : Int32)) []) _
  refine XS.aloadN X139.here hx rfl (hb hby d12_33) rfl rfl ?_
  show GO p e below T139 (mkF m 34 (la15 y1 a2 o1 (1 : Int32)) [(.ref a2)]) _
  refine XS.iloadN X139.here hx rfl (hb hby d12_34) rfl ?_
  show GO p e below T139 (mkF m 35 (la15 y1 a2 o1 (1 : Int32)) [(.int o1), (.ref a2)]) _
  refine XS.iloadN X139.here hx rfl (hb hby d12_35) rfl ?_
  show GO p e below T139 (mkF m 36 (la15 y1 a2 o1 (1 : Int32)) [(.int 1), (.int o1), (.ref a2)]) _
  refine st140 _ ?_
  show GO p e below T140 (mkF m 39 (la15 y1 a2 o1 (1 : Int32)) [(.ref t_140)]) _
  refine XS.astore X140.here hx rfl (hb hby d12_39) rfl rfl (l' := (la16 y1 a2 o1 (1 : Int32) t_140)) rfl ?_
  show GO p e below T140 (mkF m 41 (la16 y1 a2 o1 (1 : Int32) t_140) []) _
  refine XS.aloadN X140.here hx rfl (hb hby d12_41) rfl rfl ?_
  show GO p e below T140 (mkF m 42 (la16 y1 a2 o1 (1 : Int32) t_140) [(.ref y1)]) _
  refine XS.aload X140.here hx rfl (hb hby d12_42) rfl rfl ?_
  show GO p e below T140 (mkF m 44 (la16 y1 a2 o1 (1 : Int32) t_140) [(.ref t_140), (.ref y1)]) _
  refine XS.iloadN X140.here hx rfl (hb hby d12_44) rfl ?_
  show GO p e below T140 (mkF m 45 (la16 y1 a2 o1 (1 : Int32) t_140) [(.int 1), (.ref t_140), (.ref y1)]) _
  refine st141 _ ?_
  show GO p e below T141 (mkF m 48 (la16 y1 a2 o1 (1 : Int32) t_140) [(.int 0), (.ref y1)]) _
  refine st144 _ ?_
  show GO p e below T144 (mkF m 51 (la16 y1 a2 o1 (1 : Int32) t_140) []) _
  refine XS.aloadN X144.here hx rfl (hb hby d12_51) rfl rfl ?_
  show GO p e below T144 (mkF m 52 (la16 y1 a2 o1 (1 : Int32) t_140) [(.ref y1)]) _
  refine XS.aload X144.here hx rfl (hb hby d12_52) rfl rfl ?_
  show GO p e below T144 (mkF m 54 (la16 y1 a2 o1 (1 : Int32) t_140) [(.ref t_140), (.ref y1)]) _
  refine st151 _ ?_
  show GO p e below T151 (mkF m 57 (la16 y1 a2 o1 (1 : Int32) t_140) []) _
  exact X151.returnOut hx Bd.returns (hb hby d12_57) hr
 ·show Qrm_s4_1L Z y1 w1 w2 a2 k2 vs2 o1 x0 z0 h0 n0 _ T151.heap _
  rw [e151]
  exact ⟨t_140, k_140, rfl, N151, ((((Keep.refl h0 [y1]).trans K140 all0).wr W144 (Or.inl (List.mem_of_getElem? (i := 0) rfl))).wr W151 (Or.inl (List.mem_of_getElem? (i := 0) rfl))), f152, f153, f151, f154, (by omega)⟩
def Qrm_s3_1L (Z : State) (y1 : Addr) (w1 : Value) (w2 : Value) (a2 : Addr) (k2 : ClassId) (vs2 : List Value) (o1 : Int32) (x0 : Int32) (z0 : Int32) (f0 : Value) (h0 : Heap) (n0 : Nat) (v : Option Value) (h : Heap) (L : List Loc) : Prop := ∃ t : Addr, ∃ k : ClassId, v = none ∧ Fr n0 L ∧ Keep h0 h [y1] ∧ Exa Z h y1 kS0 ∧ Fld Z h y1 kS0 "coder" "B" (.int 0) ∧ Fld Z h y1 kS0 "value" "[B" (.ref t) ∧ Arv Z h t k .byte (1 : Int32) [(.int (x0.toInt8.toInt32))] (.int 0) ∧ h0.size ≤ t
theorem ef_rm_s3_1L (m : MethodId) (x0 : Addr) (x1 : Addr) (x2 : Int32) (x3 : Int32) : entryFrame m #[(.ref x0), (.ref x1), (.int x2), (.int x3)] 4 = mkF m 0 (la17 x0 x1 x2 x3) [] := by first | rfl | (simp [entryFrame, mkF, argsToLocals, Value.category]; done)
theorem rm_s3_1L (l : Launch) (Z : State) (a0 : Array Value) (hw : HW Z a0) (ws : List Jvm.Cond) (y1 : Addr) (w1 : Value) (w2 : Value) (a2 : Addr) (k2 : ClassId) (vs2 : List Value) (o1 : Int32) (x0 : Int32) (z0 : Int32) (f0 : Value) (h0 : Heap) (n0 : Nat) (Z0 : n0 ≤ h0.size) (O0 : Old Z n0 h0) (Es : Exa Z h0 y1 kS0) (Fv1 : Fld Z h0 y1 kS0 "value" "[B" w1) (Fc1 : Fld Z h0 y1 kS0 "coder" "B" w2) (V2 : Arv Z h0 a2 k2 .char (8 : Int32) vs2 (.int 0)) (SZc : Sta Z Z.heap kS0 "COMPACT_STRINGS" "Z" (.int z0)) (hz0 : ¬ z0 = 0) (SZf : Sta Z Z.heap kS3 "SIOOBE_FORMATTER" "Ljava/util/function/BiFunction;" f0) (rf0 : f0.isRef = true) (hr1 : ¬ (((8 : Int32) ||| o1) ||| (1 : Int32)) < 0) (hr2 : ¬ ((8 : Int32) - o1) < (1 : Int32)) (SZad : Sta Z Z.heap kS1 "$assertionsDisabled" "Z" (.int 1)) (SZhi : Sta Z Z.heap kS1 "HI_BYTE_SHIFT" "I" (.int 0)) (SZlo : Sta Z Z.heap kS1 "LO_BYTE_SHIFT" "I" (.int 8)) (ob0 : (¬ o1 < 0 ∧ o1 < (8 : Int32))) (hx0 : vs2.getD (o1).toNatClampNeg (.int 0) = (.int x0)) (lb0 : (¬ x0 < 0 ∧ ¬ (65535 : Int32) < x0)) (c0 : ¬ ((255 : Int32) < x0)) (gy : n0 ≤ y1) :
  OwnM l Z h0 (⟨kS0, "<init>", "([CII)V"⟩ : MethodName) (Jvm.Cond.code (⟨kS0, "<init>", "([CII)V"⟩ : MethodName) jdk_42_method_4_code 4 none :: ws) (RM 3 1 1 52) #[(.ref y1), (.ref a2), (.int o1), (.int 1)] (Qrm_s3_1L Z y1 w1 w2 a2 k2 vs2 o1 x0 z0 f0 h0 n0) := by
 refine MetFree.of_bodySF (plainFor_of_name pn_2) hisR ?_
 intro p e s m args below meth c s₁ Bd hml0 hP hK
 obtain ⟨rfl, hZ, hh⟩ := hP
 have hx := Bd.exec
 have hby := Bd.bytes
 have hml : c.maxLocals = 4 := hml0
 have hown : s.vm.findClass kS0 = some m.cls := findClass_of_methodNamed Bd.named
 have hnm := (name_of_methodNamed Bd.named Bd.method).1
 have X0 : Stand p l e (RM 3 1 1 52) s m #[(.ref y1), (.ref a2), (.int o1), (.int 1)] below meth c s₁ [] 0 0 := Stand.of_body Bd
 have e0 : s₁.heap = h0 := by rw [← hh, Bd.state]; rfl
 have N0 := Fr.nil n0
 have pre0 : ∀ t, GO p e below s₁ (mkF m 0 (la17 y1 a2 o1 (1 : Int32)) []) t → GO p e below s₁ (entryFrame m #[(.ref y1), (.ref a2), (.int o1), (.int 1)] 4) t := fun t k => castTop (ef_rm_s3_1L m y1 a2 o1 ((1 : Int32))) k
 have lt_Es := ltA Es.lt
 have lt_Fv1 := ltA Fv1.lt
 have lt_Fc1 := ltA Fc1.lt
 have lt_V2 := ltA V2.lt
 -- pc 7: String.rangeCheck by rm_rc
 obtain ⟨_, _, ⟨T155, L155, k155, n155⟩, -, X155, ⟨Lc155, hQ155, l155, y155, z155⟩, st155⟩ := Jvm.LawKit.callS X0 hx (y := (⟨kS0, "rangeCheck", "([CII)Ljava/lang/Void;"⟩ : MethodName)) hown (mvT hZ (wd hw 50 rfl)) (mvT hZ (wd hw 51 rfl)) (mvT hZ (wd hw 46 rfl)) (mvT hZ (wd hw 52 rfl)) (by decide) (backOf (W := 4) (rm_rc l Z a0 hw [] a2 k2 vs2 o1 (1 : Int32) (8 : Int32) f0 h0 n0 Z0 O0 V2 (by first | assumption | decide | omega) (by first | assumption | decide | omega) hr1 hr2) hZ (wd hw 52 rfl) (wd hw 46 rfl) (by decide) (by decide)) (g := (mkF m 7 (la17 y1 a2 o1 (1 : Int32)) [(.int 1), (.int o1), (.ref a2), (.int 1), (.int o1), (.ref a2), (.ref y1)])) rfl (by rw [hml]; rfl) (argsL := [(.ref a2), (.int o1), (.int 1)]) (rest := [(.int 1), (.int o1), (.ref a2), (.ref y1)]) (lenOf pd_9 rfl) rfl (wz rfl) (hb hby d8_7) (fun _ _ => ⟨rfl, e0, (by decide : 0 + 0 ≤ _), (by decide : 0 + 0 ≤ _)⟩)
 dsimp only [Pt.U, Pt.locs, Pt.cells, Pt.slots] at X155 l155 y155 z155 st155 hQ155
 subst l155 y155 z155
 obtain ⟨rfl, N155q, e155⟩ := hQ155
 have N155 := Fr.app N0 N155q
 -- pc 10: String.<init> by rm_s4_1L
 obtain ⟨_, _, ⟨T156, L156, k156, n156⟩, -, X156, ⟨Lc156, hQ156, l156, y156, z156⟩, st156⟩ := X155.specialBack hx (y := (⟨kS0, "<init>", "([CIILjava/lang/Void;)V"⟩ : MethodName)) rfl hown (mvT hZ (wd hw 60 rfl)) (mvT hZ (wd hw 61 rfl)) (mvT hZ (wd hw 63 rfl)) (by decide) (backOf (W := 0) (rm_s4_1L l Z a0 hw [] y1 w1 w2 a2 k2 vs2 o1 x0 z0 h0 n0 Z0 O0 Es Fv1 Fc1 V2 (by first | assumption | decide | omega) (by first | assumption | decide | omega) (by first | assumption | decide | omega) (by first | assumption | decide | omega) (by first | assumption | decide | omega) (by first | assumption | decide | omega) (by first | assumption | decide | omega) (by first | assumption | decide | omega) (by first | assumption | decide | omega) (by first | assumption | decide | omega)) hZ (wd hw 63 rfl) (wd hw 46 rfl) (by decide) (by decide)) (g := (mkF m 10 (la17 y1 a2 o1 (1 : Int32)) [.null, (.int 1), (.int o1), (.ref a2), (.ref y1)])) rfl (by rw [hml]; rfl) (Steps.refl _) (a := y1) (argsL := [(.ref a2), (.int o1), (.int 1), .null]) (rest := []) (lenOf pd_10 rfl) rfl (wz rfl) (hb hby d8_10) (fun _ _ => ⟨rfl, e155, (by decide : 0 + 1 ≤ _), (by decide : 0 + 1 ≤ _)⟩)
 dsimp only [Pt.U, Pt.locs, Pt.cells, Pt.slots] at X156 l156 y156 z156 st156 hQ156
 subst l156 y156 z156
 obtain ⟨h156, e156⟩ : ∃ z, T156.heap = z := ⟨_, rfl⟩
 rw [e156] at hQ156
 obtain ⟨t_156, k_156, rfl, N156q, K156, p156_0, p156_1, p156_2, p156_3, r156_0⟩ := hQ156
 have N156 := Fr.app N155 N156q
 have ne157 : y1 ≠ a2 := Exa.neArv Es V2 (wd hw 45 rfl)
 have sz156 : h0.size ≤ h156.size := K156.1
 have nz156 := Nat.le_trans Z0 sz156
 have lt156_0 := ltA p156_0.lt
 have lt156_3 := ltA p156_3.lt
 obtain ⟨fs, hr, hrun, hended, hW, hsame⟩ := X156.leave (v := none) (fun _ => rfl)
 refine ⟨_, _, pre0 _ ?_, hrun, hended, _, _, rfl, ?_, ⟨_, rfl⟩, hW, hsame.mono (by decide) (by decide)⟩
 ·show GO p e below s₁ (mkF m 0 (la17 y1 a2 o1 (1 : Int32)) []) _
  refine XS.aloadN X0.here hx rfl (hb hby d8_0) rfl rfl ?_
  show GO p e below s₁ (mkF m 1 (la17 y1 a2 o1 (1 : Int32)) [(.ref y1)]) _
  refine XS.aloadN X0.here hx rfl (hb hby d8_1) rfl rfl ?_
  show GO p e below s₁ (mkF m 2 (la17 y1 a2 o1 (1 : Int32)) [(.ref a2), (.ref y1)]) _
  refine XS.iloadN X0.here hx rfl (hb hby d8_2) rfl ?_
  show GO p e below s₁ (mkF m 3 (la17 y1 a2 o1 (1 : Int32)) [(.int o1), (.ref a2), (.ref y1)]) _
  refine XS.iloadN X0.here hx rfl (hb hby d8_3) rfl ?_
  show GO p e below s₁ (mkF m 4 (la17 y1 a2 o1 (1 : Int32)) [(.int 1), (.int o1), (.ref a2), (.ref y1)]) _
  refine XS.aloadN X0.here hx rfl (hb hby d8_4) rfl rfl ?_
  show GO p e below s₁ (mkF m 5 (la17 y1 a2 o1 (1 : Int32)) [(.ref a2), (.int 1), (.int o1), (.ref a2), (.ref y1)]) _
  refine XS.iloadN X0.here hx rfl (hb hby d8_5) rfl ?_
  show GO p e below s₁ (mkF m 6 (la17 y1 a2 o1 (1 : Int32)) [(.int o1), (.ref a2), (.int 1), (.int o1), (.ref a2), (.ref y1)]) _
  refine XS.iloadN X0.here hx rfl (hb hby d8_6) rfl ?_
  show GO p e below s₁ (mkF m 7 (la17 y1 a2 o1 (1 : Int32)) [(.int 1), (.int o1), (.ref a2), (.int 1), (.int o1), (.ref a2), (.ref y1)]) _
  refine st155 _ ?_
  show GO p e below T155 (mkF m 10 (la17 y1 a2 o1 (1 : Int32)) [.null, (.int 1), (.int o1), (.ref a2), (.ref y1)]) _
  refine st156.trans ?_
  show GO p e below T156 (mkF m 13 (la17 y1 a2 o1 (1 : Int32)) []) _
  exact X156.returnOut hx Bd.returns (hb hby d8_13) hr
 ·show Qrm_s3_1L Z y1 w1 w2 a2 k2 vs2 o1 x0 z0 f0 h0 n0 _ T156.heap _
  rw [e156]
  exact ⟨t_156, k_156, rfl, N156, ((Keep.refl h0 [y1]).trans K156 (allS (P := fun x => x ∈ _ ∨ _) (Or.inl (List.mem_of_getElem? (i := 0) rfl)) all0)), p156_0, p156_1, p156_2, p156_3, r156_0⟩
def Qrm_c3_1A (Z : State) (a2 : Addr) (k2 : ClassId) (vs2 : List Value) (o1 : Int32) (x0 : Int32) (h0 : Heap) (n0 : Nat) (v : Option Value) (h : Heap) (L : List Loc) : Prop := ∃ t : Addr, ∃ k : ClassId, v = some (.ref t) ∧ Fr n0 L ∧ Keep h0 h [] ∧ Arv Z h t k .byte (2 : Int32) [(.int ((x0 >>> ((0 : Int32) &&& 31)).toInt8.toInt32)), (.int ((x0 >>> ((8 : Int32) &&& 31)).toInt8.toInt32))] (.int 0) ∧ h0.size ≤ t
theorem ef_rm_c3_1A (m : MethodId) (x0 : Addr) (x1 : Int32) (x2 : Int32) : entryFrame m #[(.ref x0), (.int x1), (.int x2)] 6 = mkF m 0 (la12 x0 x1 x2) [] := by first | rfl | (simp [entryFrame, mkF, argsToLocals, Value.category]; done)
theorem rm_c3_1A (l : Launch) (Z : State) (a0 : Array Value) (hw : HW Z a0) (ws : List Jvm.Cond) (a2 : Addr) (k2 : ClassId) (vs2 : List Value) (o1 : Int32) (x0 : Int32) (h0 : Heap) (n0 : Nat) (Z0 : n0 ≤ h0.size) (O0 : Old Z n0 h0) (V2 : Arv Z h0 a2 k2 .char (8 : Int32) vs2 (.int 0)) (SZad : Sta Z Z.heap kS1 "$assertionsDisabled" "Z" (.int 1)) (SZhi : Sta Z Z.heap kS1 "HI_BYTE_SHIFT" "I" (.int 0)) (SZlo : Sta Z Z.heap kS1 "LO_BYTE_SHIFT" "I" (.int 8)) (ob0 : (¬ o1 < 0 ∧ o1 < (8 : Int32))) (hx0 : vs2.getD (o1).toNatClampNeg (.int 0) = (.int x0)) (lb0 : (¬ x0 < 0 ∧ ¬ (65535 : Int32) < x0)) (c0 : (255 : Int32) < x0) :
  OwnM l Z h0 (⟨kS1, "compress", "([CII)[B"⟩ : MethodName) (Jvm.Cond.code (⟨kS1, "compress", "([CII)[B"⟩ : MethodName) jdk_52_method_16_code 6 (some (.array .byte)) :: ws) (RM 3 2 3 40) #[(.ref a2), (.int o1), (.int 1)] (Qrm_c3_1A Z a2 k2 vs2 o1 x0 h0 n0) := by
 refine MetFree.of_bodySF (plainFor_of_name pn_3) hisR ?_
 intro p e s m args below meth c s₁ Bd hml0 hP hK
 obtain ⟨rfl, hZ, hh⟩ := hP
 have hx := Bd.exec
 have hby := Bd.bytes
 have hml : c.maxLocals = 6 := hml0
 have hown : s.vm.findClass kS1 = some m.cls := findClass_of_methodNamed Bd.named
 have hnm := (name_of_methodNamed Bd.named Bd.method).1
 have X0 : Stand p l e (RM 3 2 3 40) s m #[(.ref a2), (.int o1), (.int 1)] below meth c s₁ [] 0 0 := Stand.of_body Bd
 have e0 : s₁.heap = h0 := by rw [← hh, Bd.state]; rfl
 have N0 := Fr.nil n0
 have pre0 : ∀ t, GO p e below s₁ (mkF m 0 (la12 a2 o1 (1 : Int32)) []) t → GO p e below s₁ (entryFrame m #[(.ref a2), (.int o1), (.int 1)] 6) t := fun t k => castTop (ef_rm_c3_1A m a2 o1 ((1 : Int32))) k
 have lt_V2 := ltA V2.lt
 obtain ⟨T158, h158, k158, X158, e158, E158, A158, st158⟩ := newP X0 hx hZ (wd hw 66 rfl) e0 (g := (mkF m 1 (la12 a2 o1 (1 : Int32)) [(.int 1)])) rfl (hb hby d15_1) rfl (by decide) (cap := 1) (by decide) (by decide) (by decide) (by decide)
 obtain ⟨b158, g158⟩ : ∃ z, z = h0.size := ⟨_, rfl⟩
 rw [← g158] at A158 st158
 have sz158 : h0.size ≤ h158.size := E158.1
 have nz158 := Nat.le_trans Z0 sz158
 have lt158 := ltA A158.lt
 have V158 : Arv Z h158 b158 k158 .byte (1 : Int32) [(.int 0)] (.int 0) := (Arv.new A158 (by decide)).pad (pad_rep [] (.int 0) 1)
 -- pc 9: StringUTF16.compress by rm_c5_1A
 have f160 : Arv Z h158 a2 k2 .char (8 : Int32) vs2 (.int 0) := (V2.ext E158)
 have ne161 : a2 ≠ b158 := neN (by omega)
 obtain ⟨_, _, ⟨T159, L159, k159, n159⟩, -, X159, ⟨Lc159, hQ159, l159, y159, z159⟩, st159⟩ := Jvm.LawKit.callS X158 hx (y := (⟨kS1, "compress", "([CI[BII)I"⟩ : MethodName)) hown (mvT hZ (wd hw 88 rfl)) (mvT hZ (wd hw 89 rfl)) (mvT hZ (wd hw 86 rfl)) (mvT hZ (wd hw 90 rfl)) (by decide) (backOf (W := 0) (rm_c5_1A l Z a0 hw [] a2 k2 vs2 o1 x0 b158 k158 h158 n0 nz158 f160 V158 (by first | assumption | decide | omega) (by first | assumption | decide | omega) (by first | assumption | decide | omega) (by first | assumption | decide | omega) (by first | assumption | decide | omega) ne161) hZ (wd hw 90 rfl) (wd hw 86 rfl) (by decide) (by decide)) (g := (mkF m 9 (la13 a2 o1 (1 : Int32) b158) [(.int 1), (.int 0), (.ref b158), (.int o1), (.ref a2)])) rfl (by rw [hml]; rfl) (argsL := [(.ref a2), (.int o1), (.ref b158), (.int 0), (.int 1)]) (rest := []) (lenOf pd_6 rfl) rfl (wz rfl) (hb hby d15_9) (fun _ _ => ⟨rfl, e158, (by decide : 1 + 0 ≤ _), (by decide : 1 + 0 ≤ _)⟩)
 dsimp only [Pt.U, Pt.locs, Pt.cells, Pt.slots] at X159 l159 y159 z159 st159 hQ159
 subst l159 y159 z159
 obtain ⟨rfl, N159q, e159⟩ := hQ159
 have N159 := Fr.app N0 N159q
 -- pc 23: StringUTF16.toBytes by rm_tob1
 have f163 : Old Z n0 h158 := (O0.ext E158)
 obtain ⟨_, _, ⟨T162, L162, k162, n162⟩, -, X162, ⟨Lc162, hQ162, l162, y162, z162⟩, st162⟩ := Jvm.LawKit.callS X159 hx (y := (⟨kS1, "toBytes", "([CII)[B"⟩ : MethodName)) hown (mvT hZ (wd hw 91 rfl)) (mvT hZ (wd hw 92 rfl)) (mvT hZ (wd hw 86 rfl)) (mvT hZ (wd hw 93 rfl)) (by decide) (backOf (W := 0) (rm_tob1 l Z a0 hw [] a2 k2 vs2 o1 x0 h158 n0 nz158 f163 f160 (by first | assumption | decide | omega) (by first | assumption | decide | omega) (by first | assumption | decide | omega) (by first | assumption | decide | omega) (by first | assumption | decide | omega) (by first | assumption | decide | omega)) hZ (wd hw 93 rfl) (wd hw 86 rfl) (by decide) (by decide)) (g := (mkF m 23 (la14 a2 o1 (1 : Int32) b158 (0 : Int32)) [(.int 1), (.int o1), (.ref a2)])) rfl (by rw [hml]; rfl) (argsL := [(.ref a2), (.int o1), (.int 1)]) (rest := []) (lenOf pd_7 rfl) rfl (wz rfl) (hb hby d15_23) (fun _ _ => ⟨rfl, e159, (by decide : 1 + 1 ≤ _), (by decide : 1 + 2 ≤ _)⟩)
 dsimp only [Pt.U, Pt.locs, Pt.cells, Pt.slots] at X162 l162 y162 z162 st162 hQ162
 subst l162 y162 z162
 obtain ⟨h162, e162⟩ : ∃ z, T162.heap = z := ⟨_, rfl⟩
 rw [e162] at hQ162
 obtain ⟨t_162, k_162, rfl, N162q, K162, p162_0, r162_0⟩ := hQ162
 have N162 := Fr.app N159 N162q
 have sz162 : h158.size ≤ h162.size := K162.1
 have nz162 := Nat.le_trans nz158 sz162
 have lt162_0 := ltA p162_0.lt
 -- pc 32: StringUTF16.getChar by rm_gc_1_0
 have f165 : Old Z n0 h162 := (f163.keep K162 all0)
 obtain ⟨_, _, ⟨T164, L164, k164, n164⟩, -, X164, ⟨Lc164, hQ164, l164, y164, z164⟩, st164⟩ := Jvm.LawKit.callS X162 hx (y := (⟨kS1, "getChar", "([BI)C"⟩ : MethodName)) hown (mvT hZ (wd hw 107 rfl)) (mvT hZ (wd hw 108 rfl)) (mvT hZ (wd hw 86 rfl)) (mvT hZ (wd hw 109 rfl)) (by decide) (backOf (W := 0) (rm_gc_1_0 l Z a0 hw [] t_162 k_162 x0 ((x0 >>> ((0 : Int32) &&& 31)).toInt8.toInt32) ((x0 >>> ((8 : Int32) &&& 31)).toInt8.toInt32) h162 n0 nz162 f165 p162_0 (by first | assumption | decide | omega) (by first | assumption | decide | omega) (by first | assumption | decide | omega) (own_pair lb0.1 lb0.2)) hZ (wd hw 109 rfl) (wd hw 86 rfl) (by decide) (by decide)) (g := (mkF m 32 (la18 a2 o1 (1 : Int32) b158 (0 : Int32) t_162) [(.int 0), (.ref t_162)])) rfl (by rw [hml]; rfl) (argsL := [(.ref t_162), (.int 0)]) (rest := []) (lenOf pd_11 rfl) rfl (wz rfl) (hb hby d15_32) (fun _ _ => ⟨rfl, e162, (by decide : 2 + 0 ≤ _), (by decide : 3 + 0 ≤ _)⟩)
 dsimp only [Pt.U, Pt.locs, Pt.cells, Pt.slots] at X164 l164 y164 z164 st164 hQ164
 subst l164 y164 z164
 obtain ⟨rfl, N164q, e164⟩ := hQ164
 have N164 := Fr.app N162 N164q
 obtain ⟨fs, hr, hrun, hended, hW, hsame⟩ := X164.leave (v := some (.ref t_162)) (fun h => by rw [Bd.returns] at h; cases h)
 refine ⟨_, _, pre0 _ ?_, hrun, hended, _, _, rfl, ?_, ⟨_, rfl⟩, hW, hsame.mono (by decide) (by decide)⟩
 ·show GO p e below s₁ (mkF m 0 (la12 a2 o1 (1 : Int32)) []) _
  refine XS.iloadN X0.here hx rfl (hb hby d15_0) rfl ?_
  show GO p e below s₁ (mkF m 1 (la12 a2 o1 (1 : Int32)) [(.int 1)]) _
  refine st158 _ ?_
  show GO p e below T158 (mkF m 3 (la12 a2 o1 (1 : Int32)) [(.ref b158)]) _
  refine XS.astoreN X158.here hx rfl (hb hby d15_3) rfl rfl (l' := (la13 a2 o1 (1 : Int32) b158)) rfl ?_
  show GO p e below T158 (mkF m 4 (la13 a2 o1 (1 : Int32) b158) []) _
  refine XS.aloadN X158.here hx rfl (hb hby d15_4) rfl rfl ?_
  show GO p e below T158 (mkF m 5 (la13 a2 o1 (1 : Int32) b158) [(.ref a2)]) _
  refine XS.iloadN X158.here hx rfl (hb hby d15_5) rfl ?_
  show GO p e below T158 (mkF m 6 (la13 a2 o1 (1 : Int32) b158) [(.int o1), (.ref a2)]) _
  refine XS.aloadN X158.here hx rfl (hb hby d15_6) rfl rfl ?_
  show GO p e below T158 (mkF m 7 (la13 a2 o1 (1 : Int32) b158) [(.ref b158), (.int o1), (.ref a2)]) _
  refine XS.iconst X158.here hx rfl (hb hby d15_7) ?_
  show GO p e below T158 (mkF m 8 (la13 a2 o1 (1 : Int32) b158) [(.int 0), (.ref b158), (.int o1), (.ref a2)]) _
  refine XS.iloadN X158.here hx rfl (hb hby d15_8) rfl ?_
  show GO p e below T158 (mkF m 9 (la13 a2 o1 (1 : Int32) b158) [(.int 1), (.int 0), (.ref b158), (.int o1), (.ref a2)]) _
  refine st159 _ ?_
  show GO p e below T159 (mkF m 12 (la13 a2 o1 (1 : Int32) b158) [(.int 0)]) _
  refine XS.istore X159.here hx rfl (hb hby d15_12) rfl (l' := (la14 a2 o1 (1 : Int32) b158 (0 : Int32))) rfl ?_
  show GO p e below T159 (mkF m 14 (la14 a2 o1 (1 : Int32) b158 (0 : Int32)) []) _
  refine XS.iload X159.here hx rfl (hb hby d15_14) rfl ?_
  show GO p e below T159 (mkF m 16 (la14 a2 o1 (1 : Int32) b158 (0 : Int32)) [(.int 0)]) _
  refine XS.iloadN X159.here hx rfl (hb hby d15_16) rfl ?_
  show GO p e below T159 (mkF m 17 (la14 a2 o1 (1 : Int32) b158 (0 : Int32)) [(.int 1), (.int 0)]) _
  refine XS.icmpNo X159.here hx rfl (hb hby d15_17) rfl (feq ((by decide) : ¬ ((0 : Int32) = (1 : Int32)))).1 ?_
  show GO p e below T159 (mkF m 20 (la14 a2 o1 (1 : Int32) b158 (0 : Int32)) []) _
  refine XS.aloadN X159.here hx rfl (hb hby d15_20) rfl rfl ?_
  show GO p e below T159 (mkF m 21 (la14 a2 o1 (1 : Int32) b158 (0 : Int32)) [(.ref a2)]) _
  refine XS.iloadN X159.here hx rfl (hb hby d15_21) rfl ?_
  show GO p e below T159 (mkF m 22 (la14 a2 o1 (1 : Int32) b158 (0 : Int32)) [(.int o1), (.ref a2)]) _
  refine XS.iloadN X159.here hx rfl (hb hby d15_22) rfl ?_
  show GO p e below T159 (mkF m 23 (la14 a2 o1 (1 : Int32) b158 (0 : Int32)) [(.int 1), (.int o1), (.ref a2)]) _
  refine st162 _ ?_
  show GO p e below T162 (mkF m 26 (la14 a2 o1 (1 : Int32) b158 (0 : Int32)) [(.ref t_162)]) _
  refine XS.astore X162.here hx rfl (hb hby d15_26) rfl rfl (l' := (la18 a2 o1 (1 : Int32) b158 (0 : Int32) t_162)) rfl ?_
  show GO p e below T162 (mkF m 28 (la18 a2 o1 (1 : Int32) b158 (0 : Int32) t_162) []) _
  refine XS.aload X162.here hx rfl (hb hby d15_28) rfl rfl ?_
  show GO p e below T162 (mkF m 30 (la18 a2 o1 (1 : Int32) b158 (0 : Int32) t_162) [(.ref t_162)]) _
  refine XS.iload X162.here hx rfl (hb hby d15_30) rfl ?_
  show GO p e below T162 (mkF m 32 (la18 a2 o1 (1 : Int32) b158 (0 : Int32) t_162) [(.int 0), (.ref t_162)]) _
  refine st164 _ ?_
  show GO p e below T164 (mkF m 35 (la18 a2 o1 (1 : Int32) b158 (0 : Int32) t_162) [(.int x0)]) _
  refine XS.sipush X164.here hx rfl (hb hby d15_35) ?_
  show GO p e below T164 (mkF m 38 (la18 a2 o1 (1 : Int32) b158 (0 : Int32) t_162) [(.int 255), (.int x0)]) _
  refine XS.icmpYes X164.here hx rfl (pc0 := 38) (pc' := 54) rfl (hb hby d15_38) rfl (tlt (c0 : (255 : Int32) < x0)).2.2.1 (by decide) (by decide) ?_
  show GO p e below T164 (mkF m 54 (la18 a2 o1 (1 : Int32) b158 (0 : Int32) t_162) []) _
  refine XS.aload X164.here hx rfl (hb hby d15_54) rfl rfl ?_
  show GO p e below T164 (mkF m 56 (la18 a2 o1 (1 : Int32) b158 (0 : Int32) t_162) [(.ref t_162)]) _
  exact retOut X164 hx Bd.returns rfl (Or.inr (Or.inr (Or.inr (Or.inr ⟨rfl, rfl, rfl⟩)))) (hb hby d15_56) hr
 ·show Qrm_c3_1A Z a2 k2 vs2 o1 x0 h0 n0 _ T164.heap _
  rw [e164]
  exact ⟨t_162, k_162, rfl, N164, (((Keep.refl h0 []).ext E158).trans K162 all0), p162_0, (by omega)⟩
def Qrm_ca_1_2 (Z : State) (d1 : Addr) (kd : ClassId) (v1 : List Value) (h0 : Heap) (n0 : Nat) (v : Option Value) (h : Heap) (L : List Loc) : Prop := v = some (.int 1) ∧ Fr n0 L ∧ h = h0
theorem ef_rm_ca_1_2 (m : MethodId) (x0 : Addr) (x1 : Int32) : entryFrame m #[(.ref x0), (.int x1)] 2 = mkF m 0 #[.val (.ref x0), .val (.int x1)] [] := by first | rfl | (simp [entryFrame, mkF, argsToLocals, Value.category]; done)
theorem rm_ca_1_2 (l : Launch) (Z : State) (a0 : Array Value) (hw : HW Z a0) (ws : List Jvm.Cond) (d1 : Addr) (kd : ClassId) (v1 : List Value) (h0 : Heap) (n0 : Nat) (Z0 : n0 ≤ h0.size) (Vd : Arv Z h0 d1 kd .byte (2 : Int32) v1 (.int 0)) :
  OwnM l Z h0 (⟨kS1, "coderFromArrayLen", "([BI)B"⟩ : MethodName) (Jvm.Cond.code (⟨kS1, "coderFromArrayLen", "([BI)B"⟩ : MethodName) jdk_52_method_15_code 2 (some .byte) :: ws) (RM 0 0 0 0) #[(.ref d1), (.int 1)] (Qrm_ca_1_2 Z d1 kd v1 h0 n0) := by
 refine MetFree.of_bodySF (plainFor_of_name pn_3) hisR ?_
 intro p e s m args below meth c s₁ Bd hml0 hP hK
 obtain ⟨rfl, hZ, hh⟩ := hP
 have hx := Bd.exec
 have hby := Bd.bytes
 have hml : c.maxLocals = 2 := hml0
 have hown : s.vm.findClass kS1 = some m.cls := findClass_of_methodNamed Bd.named
 have hnm := (name_of_methodNamed Bd.named Bd.method).1
 have X0 : Stand p l e (RM 0 0 0 0) s m #[(.ref d1), (.int 1)] below meth c s₁ [] 0 0 := Stand.of_body Bd
 have e0 : s₁.heap = h0 := by rw [← hh, Bd.state]; rfl
 have N0 := Fr.nil n0
 have pre0 : ∀ t, GO p e below s₁ (mkF m 0 #[.val (.ref d1), .val (.int 1)] []) t → GO p e below s₁ (entryFrame m #[(.ref d1), (.int 1)] 2) t := fun t k => castTop (ef_rm_ca_1_2 m d1 ((1 : Int32))) k
 have lt_Vd := ltA Vd.lt
 obtain ⟨cl166, Ar166, -, S166, M166, -, -⟩ := id Vd
 obtain ⟨fs, hr, hrun, hended, hW, hsame⟩ := X0.leave (v := some (.int (nar .byte (1 : Int32)))) (fun h => by rw [Bd.returns] at h; cases h)
 refine ⟨_, _, pre0 _ ?_, hrun, hended, _, _, rfl, ?_, ⟨_, rfl⟩, hW, hsame.mono (by decide) (by decide)⟩
 ·show GO p e below s₁ (mkF m 0 #[.val (.ref d1), .val (.int 1)] []) _
  refine XS.iloadN X0.here hx rfl (hb hby d22_0) rfl ?_
  show GO p e below s₁ (mkF m 1 #[.val (.ref d1), .val (.int 1)] [(.int 1)]) _
  refine XS.aloadN X0.here hx rfl (hb hby d22_1) rfl rfl ?_
  show GO p e below s₁ (mkF m 2 #[.val (.ref d1), .val (.int 1)] [(.ref d1), (.int 1)]) _
  refine X0.arraylength hx (by rw [e0]; exact Ar166.1) (State.isArrayOf_alike hZ.alike Ar166.2.1) (g := (mkF m 2 #[.val (.ref d1), .val (.int 1)] [(.ref d1), (.int 1)])) rfl rfl (hb hby d22_2) _ ?_
  rw [len_of S166 M166]
  show GO p e below s₁ (mkF m 3 #[.val (.ref d1), .val (.int 1)] [(.int 2), (.int 1)]) _
  refine XS.isub X0.here hx rfl (hb hby d22_3) rfl ?_
  rw [show ((1 : Int32) - (2 : Int32)) = (-1 : Int32) from by decide]
  show GO p e below s₁ (mkF m 4 #[.val (.ref d1), .val (.int 1)] [(.int (-1))]) _
  refine XS.bipush X0.here hx rfl (hb hby d22_4) ?_
  show GO p e below s₁ (mkF m 6 #[.val (.ref d1), .val (.int 1)] [(.int 31), (.int (-1))]) _
  refine XS.iushr X0.here hx rfl (hb hby d22_6) rfl ?_
  rw [show (((-1 : Int32).toUInt32 >>> ((31 : Int32) &&& 31).toUInt32).toInt32) = (1 : Int32) from by decide]
  show GO p e below s₁ (mkF m 7 #[.val (.ref d1), .val (.int 1)] [(.int 1)]) _
  refine XS.i2b X0.here hx rfl (hb hby d22_7) rfl ?_
  rw [show ((1 : Int32).toInt8.toInt32) = (1 : Int32) from by decide]
  show GO p e below s₁ (mkF m 8 #[.val (.ref d1), .val (.int 1)] [(.int 1)]) _
  exact retN X0 hx (t := .byte) Bd.returns (by simp) (hb hby d22_8) hr
 ·show Qrm_ca_1_2 Z d1 kd v1 h0 n0 _ s₁.heap _
  rw [e0]
  exact ⟨rfl, N0, rfl⟩
def Qrm_s4_1A (Z : State) (y1 : Addr) (w1 : Value) (w2 : Value) (a2 : Addr) (k2 : ClassId) (vs2 : List Value) (o1 : Int32) (x0 : Int32) (z0 : Int32) (h0 : Heap) (n0 : Nat) (v : Option Value) (h : Heap) (L : List Loc) : Prop := ∃ t : Addr, ∃ k : ClassId, v = none ∧ Fr n0 L ∧ Keep h0 h [y1] ∧ Exa Z h y1 kS0 ∧ Fld Z h y1 kS0 "coder" "B" (.int 1) ∧ Fld Z h y1 kS0 "value" "[B" (.ref t) ∧ Arv Z h t k .byte (2 : Int32) [(.int ((x0 >>> ((0 : Int32) &&& 31)).toInt8.toInt32)), (.int ((x0 >>> ((8 : Int32) &&& 31)).toInt8.toInt32))] (.int 0) ∧ h0.size ≤ t
theorem ef_rm_s4_1A (m : MethodId) (x0 : Addr) (x1 : Addr) (x2 : Int32) (x3 : Int32) : entryFrame m #[(.ref x0), (.ref x1), (.int x2), (.int x3), .null] 6 = mkF m 0 (la15 x0 x1 x2 x3) [] := by first | rfl | (simp [entryFrame, mkF, argsToLocals, Value.category]; done)
theorem rm_s4_1A (l : Launch) (Z : State) (a0 : Array Value) (hw : HW Z a0) (ws : List Jvm.Cond) (y1 : Addr) (w1 : Value) (w2 : Value) (a2 : Addr) (k2 : ClassId) (vs2 : List Value) (o1 : Int32) (x0 : Int32) (z0 : Int32) (h0 : Heap) (n0 : Nat) (Z0 : n0 ≤ h0.size) (O0 : Old Z n0 h0) (Es : Exa Z h0 y1 kS0) (Fv1 : Fld Z h0 y1 kS0 "value" "[B" w1) (Fc1 : Fld Z h0 y1 kS0 "coder" "B" w2) (V2 : Arv Z h0 a2 k2 .char (8 : Int32) vs2 (.int 0)) (SZc : Sta Z Z.heap kS0 "COMPACT_STRINGS" "Z" (.int z0)) (hz0 : ¬ z0 = 0) (SZad : Sta Z Z.heap kS1 "$assertionsDisabled" "Z" (.int 1)) (SZhi : Sta Z Z.heap kS1 "HI_BYTE_SHIFT" "I" (.int 0)) (SZlo : Sta Z Z.heap kS1 "LO_BYTE_SHIFT" "I" (.int 8)) (ob0 : (¬ o1 < 0 ∧ o1 < (8 : Int32))) (hx0 : vs2.getD (o1).toNatClampNeg (.int 0) = (.int x0)) (lb0 : (¬ x0 < 0 ∧ ¬ (65535 : Int32) < x0)) (c0 : (255 : Int32) < x0) (gy : n0 ≤ y1) :
  OwnM l Z h0 (⟨kS0, "<init>", "([CIILjava/lang/Void;)V"⟩ : MethodName) (Jvm.Cond.code (⟨kS0, "<init>", "([CIILjava/lang/Void;)V"⟩ : MethodName) jdk_42_method_149_code 6 none :: ws) (RM 4 2 3 57) #[(.ref y1), (.ref a2), (.int o1), (.int 1), .null] (Qrm_s4_1A Z y1 w1 w2 a2 k2 vs2 o1 x0 z0 h0 n0) := by
 refine MetFree.of_bodySF (plainFor_of_name pn_2) hisR ?_
 intro p e s m args below meth c s₁ Bd hml0 hP hK
 obtain ⟨rfl, hZ, hh⟩ := hP
 have hx := Bd.exec
 have hby := Bd.bytes
 have hml : c.maxLocals = 6 := hml0
 have hown : s.vm.findClass kS0 = some m.cls := findClass_of_methodNamed Bd.named
 have hnm := (name_of_methodNamed Bd.named Bd.method).1
 have X0 : Stand p l e (RM 4 2 3 57) s m #[(.ref y1), (.ref a2), (.int o1), (.int 1), .null] below meth c s₁ [] 0 0 := Stand.of_body Bd
 have e0 : s₁.heap = h0 := by rw [← hh, Bd.state]; rfl
 have N0 := Fr.nil n0
 have pre0 : ∀ t, GO p e below s₁ (mkF m 0 (la15 y1 a2 o1 (1 : Int32)) []) t → GO p e below s₁ (entryFrame m #[(.ref y1), (.ref a2), (.int o1), (.int 1), .null] 6) t := fun t k => castTop (ef_rm_s4_1A m y1 a2 o1 ((1 : Int32))) k
 have lt_Es := ltA Es.lt
 have lt_Fv1 := ltA Fv1.lt
 have lt_Fc1 := ltA Fc1.lt
 have lt_V2 := ltA V2.lt
 obtain ⟨T167, X167, e167, st167⟩ := initO X0 hx hZ hown (wd hw 64 rfl) (wd hw 21 rfl) (wd hw 22 rfl) e0 (g := (mkF m 1 (la15 y1 a2 o1 (1 : Int32)) [(.ref y1)])) rfl (by rw [hml]; rfl) rfl (hb hby d12_1) (by decide) (W := 0) (wz rfl) (by decide)
 have S168 : Sta Z h0 kS0 "COMPACT_STRINGS" "Z" (.int z0) := SZc.ext O0.2
 obtain ⟨T169, X169, e169, st169⟩ := getS2 X167 hx hZ hown (host := "") (Or.inl (wd hw 83 rfl)) Via.refl e167 S168 (g := (mkF m 27 (la15 y1 a2 o1 (1 : Int32)) [])) rfl (hb hby d12_27)
 -- pc 36: StringUTF16.compress by rm_c3_1A
 obtain ⟨_, _, ⟨T170, L170, k170, n170⟩, -, X170, ⟨Lc170, hQ170, l170, y170, z170⟩, st170⟩ := Jvm.LawKit.callS X169 hx (y := (⟨kS1, "compress", "([CII)[B"⟩ : MethodName)) hown (mvT hZ (wd hw 84 rfl)) (mvT hZ (wd hw 85 rfl)) (mvT hZ (wd hw 86 rfl)) (mvT hZ (wd hw 87 rfl)) (by decide) (backOf (W := 0) (rm_c3_1A l Z a0 hw [] a2 k2 vs2 o1 x0 h0 n0 Z0 O0 V2 (by first | assumption | decide | omega) (by first | assumption | decide | omega) (by first | assumption | decide | omega) (by first | assumption | decide | omega) (by first | assumption | decide | omega) (by first | assumption | decide | omega) (by first | assumption | decide | omega)) hZ (wd hw 87 rfl) (wd hw 86 rfl) (by decide) (by decide)) (g := (mkF m 36 (la15 y1 a2 o1 (1 : Int32)) [(.int 1), (.int o1), (.ref a2)])) rfl (by rw [hml]; rfl) (argsL := [(.ref a2), (.int o1), (.int 1)]) (rest := []) (lenOf pd_7 rfl) rfl (wz rfl) (hb hby d12_36) (fun _ _ => ⟨rfl, e169, (by decide : 0 + 2 ≤ _), (by decide : 0 + 3 ≤ _)⟩)
 dsimp only [Pt.U, Pt.locs, Pt.cells, Pt.slots] at X170 l170 y170 z170 st170 hQ170
 subst l170 y170 z170
 obtain ⟨h170, e170⟩ : ∃ z, T170.heap = z := ⟨_, rfl⟩
 rw [e170] at hQ170
 obtain ⟨t_170, k_170, rfl, N170q, K170, p170_0, r170_0⟩ := hQ170
 have N170 := Fr.app N0 N170q
 have sz170 : h0.size ≤ h170.size := K170.1
 have nz170 := Nat.le_trans Z0 sz170
 have lt170_0 := ltA p170_0.lt
 -- pc 45: StringUTF16.coderFromArrayLen by rm_ca_1_2
 obtain ⟨_, _, ⟨T171, L171, k171, n171⟩, -, X171, ⟨Lc171, hQ171, l171, y171, z171⟩, st171⟩ := Jvm.LawKit.callS X170 hx (y := (⟨kS1, "coderFromArrayLen", "([BI)B"⟩ : MethodName)) hown (mvT hZ (wd hw 110 rfl)) (mvT hZ (wd hw 111 rfl)) (mvT hZ (wd hw 86 rfl)) (mvT hZ (wd hw 112 rfl)) (by decide) (backOf (W := 1) (rm_ca_1_2 l Z a0 hw [] t_170 k_170 ([(.int ((x0 >>> ((0 : Int32) &&& 31)).toInt8.toInt32)), (.int ((x0 >>> ((8 : Int32) &&& 31)).toInt8.toInt32))]) h170 n0 nz170 p170_0) hZ (wd hw 112 rfl) (wd hw 86 rfl) (by decide) (by decide)) (g := (mkF m 45 (la16 y1 a2 o1 (1 : Int32) t_170) [(.int 1), (.ref t_170), (.ref y1)])) rfl (by rw [hml]; rfl) (argsL := [(.ref t_170), (.int 1)]) (rest := [(.ref y1)]) (lenOf pd_8 rfl) rfl (wz rfl) (hb hby d12_45) (fun _ _ => ⟨rfl, e170, (by decide : 2 + 0 ≤ _), (by decide : 3 + 0 ≤ _)⟩)
 dsimp only [Pt.U, Pt.locs, Pt.cells, Pt.slots] at X171 l171 y171 z171 st171 hQ171
 subst l171 y171 z171
 obtain ⟨rfl, N171q, e171⟩ := hQ171
 have N171 := Fr.app N170 N171q
 have f172 : Fld Z h170 y1 kS0 "coder" "B" w2 := (Fc1.keep K170 nin0)
 have f173 : Exa Z h170 y1 kS0 := (Es.keep K170)
 obtain ⟨T174, h174, X174, e174, W174, st174⟩ := putFN X171 hx hZ hown (wd hw 72 rfl) Via.refl e171 f172 f173 (Or.inr ⟨(wd hw 68 rfl), rfl, hnm⟩) (wd hw 45 rfl) (ty := .byte) (v' := (.int 1)) (by decide) rfl rfl (g := (mkF m 48 (la16 y1 a2 o1 (1 : Int32) t_170) [(.int 1), (.ref y1)])) rfl rfl (hb hby d12_48)
 have ge175 : n0 ≤ y1 := by omega
 have N174 := Fr.snoc X174 N171 ge175
 have f176 : Arv Z h170 a2 k2 .char (8 : Int32) vs2 (.int 0) := (V2.keep K170 nin0)
 have ne177 : y1 ≠ a2 := Exa.neArv f173 f176 (wd hw 45 rfl)
 have ne178 : y1 ≠ t_170 := Exa.neArv f173 p170_0 (wd hw 45 rfl)
 have sz174 : h170.size ≤ h174.size := Nat.le_of_eq W174.size.symm
 have nz174 := Nat.le_trans nz170 sz174
 have f174 : Fld Z h174 y1 kS0 "coder" "B" (.int 1) := f172.same W174
 have f179 : Fld Z h174 y1 kS0 "value" "[B" w1 := ((Fv1.keep K170 nin0).other W174 (Or.inr (slot_ne (Or.inr (wd hw 67 rfl)) (Or.inr (wd hw 68 rfl)) (by decide) (t := (.array .byte)) (t' := .byte) (by decide) (by decide))))
 have f180 : Exa Z h174 y1 kS0 := (f173.wr W174)
 obtain ⟨T181, h181, X181, e181, W181, st181⟩ := putF X174 hx hZ hown (host := "") (Or.inl (wd hw 71 rfl)) Via.refl e174 f179 f180 (Or.inr ⟨(wd hw 67 rfl), rfl, hnm⟩) (wd hw 45 rfl) (ty := (.array .byte)) (by decide) rfl rfl (g := (mkF m 54 (la16 y1 a2 o1 (1 : Int32) t_170) [(.ref t_170), (.ref y1)])) rfl rfl (hb hby d12_54)
 have N181 := Fr.snoc X181 N174 ge175
 have sz181 : h174.size ≤ h181.size := Nat.le_of_eq W181.size.symm
 have nz181 := Nat.le_trans nz174 sz181
 have f181 : Fld Z h181 y1 kS0 "value" "[B" (.ref t_170) := f179.same W181
 have f182 : Exa Z h181 y1 kS0 := (f180.wr W181)
 have f183 : Fld Z h181 y1 kS0 "coder" "B" (.int 1) := (f174.other W181 (Or.inr (slot_ne (Or.inr (wd hw 68 rfl)) (Or.inr (wd hw 67 rfl)) (by decide) (t := .byte) (t' := (.array .byte)) (by decide) (by decide))))
 have f184 : Arv Z h181 t_170 k_170 .byte (2 : Int32) [(.int ((x0 >>> ((0 : Int32) &&& 31)).toInt8.toInt32)), (.int ((x0 >>> ((8 : Int32) &&& 31)).toInt8.toInt32))] (.int 0) := ((p170_0.other W174 (Ne.symm ne178)).other W181 (Ne.symm ne178))
 obtain ⟨fs, hr, hrun, hended, hW, hsame⟩ := X181.leave (v := none) (fun _ => rfl)
 refine ⟨_, _, pre0 _ ?_, hrun, hended, _, _, rfl, ?_, ⟨_, rfl⟩, hW, hsame.mono (by decide) (by decide)⟩
 ·show GO p e below s₁ (mkF m 0 (la15 y1 a2 o1 (1 : Int32)) []) _
  refine XS.aloadN X0.here hx rfl (hb hby d12_0) rfl rfl ?_
  show GO p e below s₁ (mkF m 1 (la15 y1 a2 o1 (1 : Int32)) [(.ref y1)]) _
  refine st167 _ ?_
  show GO p e below T167 (mkF m 4 (la15 y1 a2 o1 (1 : Int32)) []) _
  refine XS.iloadN X167.here hx rfl (hb hby d12_4) rfl ?_
  show GO p e below T167 (mkF m 5 (la15 y1 a2 o1 (1 : Int32)) [(.int 1)]) _
  refine XS.ifYes X167.here hx rfl (pc0 := 5) (pc' := 27) rfl (hb hby d12_5) rfl ((if0 _ _).trans (feq ((by decide) : ¬ ((1 : Int32) = (0 : Int32)))).2) (by decide) (by decide) ?_
  show GO p e below T167 (mkF m 27 (la15 y1 a2 o1 (1 : Int32)) []) _
  refine st169 _ ?_
  show GO p e below T169 (mkF m 30 (la15 y1 a2 o1 (1 : Int32)) [(.int z0)]) _
  refine XS.ifNo X169.here hx rfl (hb hby d12_30) rfl ((if0 _ _).trans (feq ((by first | assumption | decide) : ¬ (z0 = (0 : Int32)))).1) ?_
  show GO p e below T169 (mkF m 33 (la15 y1 a2 o1 (1 : Int32)) []) _
  refine XS.aloadN X169.here hx rfl (hb hby d12_33) rfl rfl ?_
  show GO p e below T169 (mkF m 34 (la15 y1 a2 o1 (1 : Int32)) [(.ref a2)]) _
  refine XS.iloadN X169.here hx rfl (hb hby d12_34) rfl ?_
  show GO p e below T169 (mkF m 35 (la15 y1 a2 o1 (1 : Int32)) [(.int o1), (.ref a2)]) _
  refine XS.iloadN X169.here hx rfl (hb hby d12_35) rfl ?_
  show GO p e below T169 (mkF m 36 (la15 y1 a2 o1 (1 : Int32)) [(.int 1), (.int o1), (.ref a2)]) _
  refine st170 _ ?_
  show GO p e below T170 (mkF m 39 (la15 y1 a2 o1 (1 : Int32)) [(.ref t_170)]) _
  refine XS.astore X170.here hx rfl (hb hby d12_39) rfl rfl (l' := (la16 y1 a2 o1 (1 : Int32) t_170)) rfl ?_
  show GO p e below T170 (mkF m 41 (la16 y1 a2 o1 (1 : Int32) t_170) []) _
  refine XS.aloadN X170.here hx rfl (hb hby d12_41) rfl rfl ?_
  show GO p e below T170 (mkF m 42 (la16 y1 a2 o1 (1 : Int32) t_170) [(.ref y1)]) _
  refine XS.aload X170.here hx rfl (hb hby d12_42) rfl rfl ?_
  show GO p e below T170 (mkF m 44 (la16 y1 a2 o1 (1 : Int32) t_170) [(.ref t_170), (.ref y1)]) _
  refine XS.iloadN X170.here hx rfl (hb hby d12_44) rfl ?_
  show GO p e below T170 (mkF m 45 (la16 y1 a2 o1 (1 : Int32) t_170) [(.int 1), (.ref t_170), (.ref y1)]) _
  refine st171 _ ?_
  show GO p e below T171 (mkF m 48 (la16 y1 a2 o1 (1 : Int32) t_170) [(.int 1), (.ref y1)]) _
  refine st174 _ ?_
  show GO p e below T174 (mkF m 51 (la16 y1 a2 o1 (1 : Int32) t_170) []) _
  refine XS.aloadN X174.here hx rfl (hb hby d12_51) rfl rfl ?_
  show GO p e below T174 (mkF m 52 (la16 y1 a2 o1 (1 : Int32) t_170) [(.ref y1)]) _
  refine XS.aload X174.here hx rfl (hb hby d12_52) rfl rfl ?_
  show GO p e below T174 (mkF m 54 (la16 y1 a2 o1 (1 : Int32) t_170) [(.ref t_170), (.ref y1)]) _
  refine st181 _ ?_
  show GO p e below T181 (mkF m 57 (la16 y1 a2 o1 (1 : Int32) t_170) []) _
  exact X181.returnOut hx Bd.returns (hb hby d12_57) hr
 ·show Qrm_s4_1A Z y1 w1 w2 a2 k2 vs2 o1 x0 z0 h0 n0 _ T181.heap _
  rw [e181]
  exact ⟨t_170, k_170, rfl, N181, ((((Keep.refl h0 [y1]).trans K170 all0).wr W174 (Or.inl (List.mem_of_getElem? (i := 0) rfl))).wr W181 (Or.inl (List.mem_of_getElem? (i := 0) rfl))), f182, f183, f181, f184, (by omega)⟩
def Qrm_s3_1A (Z : State) (y1 : Addr) (w1 : Value) (w2 : Value) (a2 : Addr) (k2 : ClassId) (vs2 : List Value) (o1 : Int32) (x0 : Int32) (z0 : Int32) (f0 : Value) (h0 : Heap) (n0 : Nat) (v : Option Value) (h : Heap) (L : List Loc) : Prop := ∃ t : Addr, ∃ k : ClassId, v = none ∧ Fr n0 L ∧ Keep h0 h [y1] ∧ Exa Z h y1 kS0 ∧ Fld Z h y1 kS0 "coder" "B" (.int 1) ∧ Fld Z h y1 kS0 "value" "[B" (.ref t) ∧ Arv Z h t k .byte (2 : Int32) [(.int ((x0 >>> ((0 : Int32) &&& 31)).toInt8.toInt32)), (.int ((x0 >>> ((8 : Int32) &&& 31)).toInt8.toInt32))] (.int 0) ∧ h0.size ≤ t
theorem ef_rm_s3_1A (m : MethodId) (x0 : Addr) (x1 : Addr) (x2 : Int32) (x3 : Int32) : entryFrame m #[(.ref x0), (.ref x1), (.int x2), (.int x3)] 4 = mkF m 0 (la17 x0 x1 x2 x3) [] := by first | rfl | (simp [entryFrame, mkF, argsToLocals, Value.category]; done)
theorem rm_s3_1A (l : Launch) (Z : State) (a0 : Array Value) (hw : HW Z a0) (ws : List Jvm.Cond) (y1 : Addr) (w1 : Value) (w2 : Value) (a2 : Addr) (k2 : ClassId) (vs2 : List Value) (o1 : Int32) (x0 : Int32) (z0 : Int32) (f0 : Value) (h0 : Heap) (n0 : Nat) (Z0 : n0 ≤ h0.size) (O0 : Old Z n0 h0) (Es : Exa Z h0 y1 kS0) (Fv1 : Fld Z h0 y1 kS0 "value" "[B" w1) (Fc1 : Fld Z h0 y1 kS0 "coder" "B" w2) (V2 : Arv Z h0 a2 k2 .char (8 : Int32) vs2 (.int 0)) (SZc : Sta Z Z.heap kS0 "COMPACT_STRINGS" "Z" (.int z0)) (hz0 : ¬ z0 = 0) (SZf : Sta Z Z.heap kS3 "SIOOBE_FORMATTER" "Ljava/util/function/BiFunction;" f0) (rf0 : f0.isRef = true) (hr1 : ¬ (((8 : Int32) ||| o1) ||| (1 : Int32)) < 0) (hr2 : ¬ ((8 : Int32) - o1) < (1 : Int32)) (SZad : Sta Z Z.heap kS1 "$assertionsDisabled" "Z" (.int 1)) (SZhi : Sta Z Z.heap kS1 "HI_BYTE_SHIFT" "I" (.int 0)) (SZlo : Sta Z Z.heap kS1 "LO_BYTE_SHIFT" "I" (.int 8)) (ob0 : (¬ o1 < 0 ∧ o1 < (8 : Int32))) (hx0 : vs2.getD (o1).toNatClampNeg (.int 0) = (.int x0)) (lb0 : (¬ x0 < 0 ∧ ¬ (65535 : Int32) < x0)) (c0 : (255 : Int32) < x0) (gy : n0 ≤ y1) :
  OwnM l Z h0 (⟨kS0, "<init>", "([CII)V"⟩ : MethodName) (Jvm.Cond.code (⟨kS0, "<init>", "([CII)V"⟩ : MethodName) jdk_42_method_4_code 4 none :: ws) (RM 5 2 3 74) #[(.ref y1), (.ref a2), (.int o1), (.int 1)] (Qrm_s3_1A Z y1 w1 w2 a2 k2 vs2 o1 x0 z0 f0 h0 n0) := by
 refine MetFree.of_bodySF (plainFor_of_name pn_2) hisR ?_
 intro p e s m args below meth c s₁ Bd hml0 hP hK
 obtain ⟨rfl, hZ, hh⟩ := hP
 have hx := Bd.exec
 have hby := Bd.bytes
 have hml : c.maxLocals = 4 := hml0
 have hown : s.vm.findClass kS0 = some m.cls := findClass_of_methodNamed Bd.named
 have hnm := (name_of_methodNamed Bd.named Bd.method).1
 have X0 : Stand p l e (RM 5 2 3 74) s m #[(.ref y1), (.ref a2), (.int o1), (.int 1)] below meth c s₁ [] 0 0 := Stand.of_body Bd
 have e0 : s₁.heap = h0 := by rw [← hh, Bd.state]; rfl
 have N0 := Fr.nil n0
 have pre0 : ∀ t, GO p e below s₁ (mkF m 0 (la17 y1 a2 o1 (1 : Int32)) []) t → GO p e below s₁ (entryFrame m #[(.ref y1), (.ref a2), (.int o1), (.int 1)] 4) t := fun t k => castTop (ef_rm_s3_1A m y1 a2 o1 ((1 : Int32))) k
 have lt_Es := ltA Es.lt
 have lt_Fv1 := ltA Fv1.lt
 have lt_Fc1 := ltA Fc1.lt
 have lt_V2 := ltA V2.lt
 -- pc 7: String.rangeCheck by rm_rc
 obtain ⟨_, _, ⟨T185, L185, k185, n185⟩, -, X185, ⟨Lc185, hQ185, l185, y185, z185⟩, st185⟩ := Jvm.LawKit.callS X0 hx (y := (⟨kS0, "rangeCheck", "([CII)Ljava/lang/Void;"⟩ : MethodName)) hown (mvT hZ (wd hw 50 rfl)) (mvT hZ (wd hw 51 rfl)) (mvT hZ (wd hw 46 rfl)) (mvT hZ (wd hw 52 rfl)) (by decide) (backOf (W := 4) (rm_rc l Z a0 hw [] a2 k2 vs2 o1 (1 : Int32) (8 : Int32) f0 h0 n0 Z0 O0 V2 (by first | assumption | decide | omega) (by first | assumption | decide | omega) hr1 hr2) hZ (wd hw 52 rfl) (wd hw 46 rfl) (by decide) (by decide)) (g := (mkF m 7 (la17 y1 a2 o1 (1 : Int32)) [(.int 1), (.int o1), (.ref a2), (.int 1), (.int o1), (.ref a2), (.ref y1)])) rfl (by rw [hml]; rfl) (argsL := [(.ref a2), (.int o1), (.int 1)]) (rest := [(.int 1), (.int o1), (.ref a2), (.ref y1)]) (lenOf pd_9 rfl) rfl (wz rfl) (hb hby d8_7) (fun _ _ => ⟨rfl, e0, (by decide : 0 + 0 ≤ _), (by decide : 0 + 0 ≤ _)⟩)
 dsimp only [Pt.U, Pt.locs, Pt.cells, Pt.slots] at X185 l185 y185 z185 st185 hQ185
 subst l185 y185 z185
 obtain ⟨rfl, N185q, e185⟩ := hQ185
 have N185 := Fr.app N0 N185q
 -- pc 10: String.<init> by rm_s4_1A
 obtain ⟨_, _, ⟨T186, L186, k186, n186⟩, -, X186, ⟨Lc186, hQ186, l186, y186, z186⟩, st186⟩ := X185.specialBack hx (y := (⟨kS0, "<init>", "([CIILjava/lang/Void;)V"⟩ : MethodName)) rfl hown (mvT hZ (wd hw 60 rfl)) (mvT hZ (wd hw 61 rfl)) (mvT hZ (wd hw 63 rfl)) (by decide) (backOf (W := 0) (rm_s4_1A l Z a0 hw [] y1 w1 w2 a2 k2 vs2 o1 x0 z0 h0 n0 Z0 O0 Es Fv1 Fc1 V2 (by first | assumption | decide | omega) (by first | assumption | decide | omega) (by first | assumption | decide | omega) (by first | assumption | decide | omega) (by first | assumption | decide | omega) (by first | assumption | decide | omega) (by first | assumption | decide | omega) (by first | assumption | decide | omega) (by first | assumption | decide | omega) (by first | assumption | decide | omega)) hZ (wd hw 63 rfl) (wd hw 46 rfl) (by decide) (by decide)) (g := (mkF m 10 (la17 y1 a2 o1 (1 : Int32)) [.null, (.int 1), (.int o1), (.ref a2), (.ref y1)])) rfl (by rw [hml]; rfl) (Steps.refl _) (a := y1) (argsL := [(.ref a2), (.int o1), (.int 1), .null]) (rest := []) (lenOf pd_10 rfl) rfl (wz rfl) (hb hby d8_10) (fun _ _ => ⟨rfl, e185, (by decide : 0 + 2 ≤ _), (by decide : 0 + 3 ≤ _)⟩)
 dsimp only [Pt.U, Pt.locs, Pt.cells, Pt.slots] at X186 l186 y186 z186 st186 hQ186
 subst l186 y186 z186
 obtain ⟨h186, e186⟩ : ∃ z, T186.heap = z := ⟨_, rfl⟩
 rw [e186] at hQ186
 obtain ⟨t_186, k_186, rfl, N186q, K186, p186_0, p186_1, p186_2, p186_3, r186_0⟩ := hQ186
 have N186 := Fr.app N185 N186q
 have ne187 : y1 ≠ a2 := Exa.neArv Es V2 (wd hw 45 rfl)
 have sz186 : h0.size ≤ h186.size := K186.1
 have nz186 := Nat.le_trans Z0 sz186
 have lt186_0 := ltA p186_0.lt
 have lt186_3 := ltA p186_3.lt
 obtain ⟨fs, hr, hrun, hended, hW, hsame⟩ := X186.leave (v := none) (fun _ => rfl)
 refine ⟨_, _, pre0 _ ?_, hrun, hended, _, _, rfl, ?_, ⟨_, rfl⟩, hW, hsame.mono (by decide) (by decide)⟩
 ·show GO p e below s₁ (mkF m 0 (la17 y1 a2 o1 (1 : Int32)) []) _
  refine XS.aloadN X0.here hx rfl (hb hby d8_0) rfl rfl ?_
  show GO p e below s₁ (mkF m 1 (la17 y1 a2 o1 (1 : Int32)) [(.ref y1)]) _
  refine XS.aloadN X0.here hx rfl (hb hby d8_1) rfl rfl ?_
  show GO p e below s₁ (mkF m 2 (la17 y1 a2 o1 (1 : Int32)) [(.ref a2), (.ref y1)]) _
  refine XS.iloadN X0.here hx rfl (hb hby d8_2) rfl ?_
  show GO p e below s₁ (mkF m 3 (la17 y1 a2 o1 (1 : Int32)) [(.int o1), (.ref a2), (.ref y1)]) _
  refine XS.iloadN X0.here hx rfl (hb hby d8_3) rfl ?_
  show GO p e below s₁ (mkF m 4 (la17 y1 a2 o1 (1 : Int32)) [(.int 1), (.int o1), (.ref a2), (.ref y1)]) _
  refine XS.aloadN X0.here hx rfl (hb hby d8_4) rfl rfl ?_
  show GO p e below s₁ (mkF m 5 (la17 y1 a2 o1 (1 : Int32)) [(.ref a2), (.int 1), (.int o1), (.ref a2), (.ref y1)]) _
  refine XS.iloadN X0.here hx rfl (hb hby d8_5) rfl ?_
  show GO p e below s₁ (mkF m 6 (la17 y1 a2 o1 (1 : Int32)) [(.int o1), (.ref a2), (.int 1), (.int o1), (.ref a2), (.ref y1)]) _
  refine XS.iloadN X0.here hx rfl (hb hby d8_6) rfl ?_
  show GO p e below s₁ (mkF m 7 (la17 y1 a2 o1 (1 : Int32)) [(.int 1), (.int o1), (.ref a2), (.int 1), (.int o1), (.ref a2), (.ref y1)]) _
  refine st185 _ ?_
  show GO p e below T185 (mkF m 10 (la17 y1 a2 o1 (1 : Int32)) [.null, (.int 1), (.int o1), (.ref a2), (.ref y1)]) _
  refine st186.trans ?_
  show GO p e below T186 (mkF m 13 (la17 y1 a2 o1 (1 : Int32)) []) _
  exact X186.returnOut hx Bd.returns (hb hby d8_13) hr
 ·show Qrm_s3_1A Z y1 w1 w2 a2 k2 vs2 o1 x0 z0 f0 h0 n0 _ T186.heap _
  rw [e186]
  exact ⟨t_186, k_186, rfl, N186, ((Keep.refl h0 [y1]).trans K186 (allS (P := fun x => x ∈ _ ∨ _) (Or.inl (List.mem_of_getElem? (i := 0) rfl)) all0)), p186_0, p186_1, p186_2, p186_3, r186_0⟩
def Qrm_c3_2L (Z : State) (a2 : Addr) (k2 : ClassId) (vs2 : List Value) (o1 : Int32) (x0 : Int32) (x1 : Int32) (h0 : Heap) (n0 : Nat) (v : Option Value) (h : Heap) (L : List Loc) : Prop := ∃ t : Addr, ∃ k : ClassId, v = some (.ref t) ∧ Fr n0 L ∧ Keep h0 h [] ∧ Arv Z h t k .byte (2 : Int32) [(.int (x0.toInt8.toInt32)), (.int (x1.toInt8.toInt32))] (.int 0) ∧ h0.size ≤ t
theorem ef_rm_c3_2L (m : MethodId) (x0 : Addr) (x1 : Int32) (x2 : Int32) : entryFrame m #[(.ref x0), (.int x1), (.int x2)] 6 = mkF m 0 (la12 x0 x1 x2) [] := by first | rfl | (simp [entryFrame, mkF, argsToLocals, Value.category]; done)
theorem rm_c3_2L (l : Launch) (Z : State) (a0 : Array Value) (hw : HW Z a0) (ws : List Jvm.Cond) (a2 : Addr) (k2 : ClassId) (vs2 : List Value) (o1 : Int32) (x0 : Int32) (x1 : Int32) (h0 : Heap) (n0 : Nat) (Z0 : n0 ≤ h0.size) (O0 : Old Z n0 h0) (V2 : Arv Z h0 a2 k2 .char (8 : Int32) vs2 (.int 0)) (SZad : Sta Z Z.heap kS1 "$assertionsDisabled" "Z" (.int 1)) (SZhi : Sta Z Z.heap kS1 "HI_BYTE_SHIFT" "I" (.int 0)) (SZlo : Sta Z Z.heap kS1 "LO_BYTE_SHIFT" "I" (.int 8)) (ob0 : (¬ o1 < 0 ∧ o1 < (8 : Int32))) (hx0 : vs2.getD (o1).toNatClampNeg (.int 0) = (.int x0)) (lb0 : (¬ x0 < 0 ∧ ¬ (65535 : Int32) < x0)) (ob1 : (¬ (o1 + (1 : Int32)) < 0 ∧ (o1 + (1 : Int32)) < (8 : Int32))) (hx1 : vs2.getD ((o1 + (1 : Int32))).toNatClampNeg (.int 0) = (.int x1)) (lb1 : (¬ x1 < 0 ∧ ¬ (65535 : Int32) < x1)) (c0 : ¬ ((255 : Int32) < x0)) (c1 : ¬ ((255 : Int32) < x1)) :
  OwnM l Z h0 (⟨kS1, "compress", "([CII)[B"⟩ : MethodName) (Jvm.Cond.code (⟨kS1, "compress", "([CII)[B"⟩ : MethodName) jdk_52_method_16_code 6 (some (.array .byte)) :: ws) (RM 1 1 2 18) #[(.ref a2), (.int o1), (.int 2)] (Qrm_c3_2L Z a2 k2 vs2 o1 x0 x1 h0 n0) := by
 refine MetFree.of_bodySF (plainFor_of_name pn_3) hisR ?_
 intro p e s m args below meth c s₁ Bd hml0 hP hK
 obtain ⟨rfl, hZ, hh⟩ := hP
 have hx := Bd.exec
 have hby := Bd.bytes
 have hml : c.maxLocals = 6 := hml0
 have hown : s.vm.findClass kS1 = some m.cls := findClass_of_methodNamed Bd.named
 have hnm := (name_of_methodNamed Bd.named Bd.method).1
 have X0 : Stand p l e (RM 1 1 2 18) s m #[(.ref a2), (.int o1), (.int 2)] below meth c s₁ [] 0 0 := Stand.of_body Bd
 have e0 : s₁.heap = h0 := by rw [← hh, Bd.state]; rfl
 have N0 := Fr.nil n0
 have pre0 : ∀ t, GO p e below s₁ (mkF m 0 (la12 a2 o1 (2 : Int32)) []) t → GO p e below s₁ (entryFrame m #[(.ref a2), (.int o1), (.int 2)] 6) t := fun t k => castTop (ef_rm_c3_2L m a2 o1 ((2 : Int32))) k
 have lt_V2 := ltA V2.lt
 obtain ⟨T188, h188, k188, X188, e188, E188, A188, st188⟩ := newP X0 hx hZ (wd hw 66 rfl) e0 (g := (mkF m 1 (la12 a2 o1 (2 : Int32)) [(.int 2)])) rfl (hb hby d15_1) rfl (by decide) (cap := 2) (by decide) (by decide) (by decide) (by decide)
 obtain ⟨b188, g188⟩ : ∃ z, z = h0.size := ⟨_, rfl⟩
 rw [← g188] at A188 st188
 have sz188 : h0.size ≤ h188.size := E188.1
 have nz188 := Nat.le_trans Z0 sz188
 have lt188 := ltA A188.lt
 have V188 : Arv Z h188 b188 k188 .byte (2 : Int32) [(.int 0), (.int 0)] (.int 0) := (Arv.new A188 (by decide)).pad (pad_rep [] (.int 0) 2)
 -- pc 9: StringUTF16.compress by rm_c5_2L
 have f190 : Arv Z h188 a2 k2 .char (8 : Int32) vs2 (.int 0) := (V2.ext E188)
 have ne191 : a2 ≠ b188 := neN (by omega)
 obtain ⟨_, _, ⟨T189, L189, k189, n189⟩, -, X189, ⟨Lc189, hQ189, l189, y189, z189⟩, st189⟩ := Jvm.LawKit.callS X188 hx (y := (⟨kS1, "compress", "([CI[BII)I"⟩ : MethodName)) hown (mvT hZ (wd hw 88 rfl)) (mvT hZ (wd hw 89 rfl)) (mvT hZ (wd hw 86 rfl)) (mvT hZ (wd hw 90 rfl)) (by decide) (backOf (W := 0) (rm_c5_2L l Z a0 hw [] a2 k2 vs2 o1 x0 x1 b188 k188 h188 n0 nz188 f190 V188 (by first | assumption | decide | omega) (by first | assumption | decide | omega) (by first | assumption | decide | omega) (by first | assumption | decide | omega) (by first | assumption | decide | omega) (by first | assumption | decide | omega) (by first | assumption | decide | omega) (by first | assumption | decide | omega) (by first | assumption | decide | omega) ne191) hZ (wd hw 90 rfl) (wd hw 86 rfl) (by decide) (by decide)) (g := (mkF m 9 (la13 a2 o1 (2 : Int32) b188) [(.int 2), (.int 0), (.ref b188), (.int o1), (.ref a2)])) rfl (by rw [hml]; rfl) (argsL := [(.ref a2), (.int o1), (.ref b188), (.int 0), (.int 2)]) (rest := []) (lenOf pd_6 rfl) rfl (wz rfl) (hb hby d15_9) (fun _ _ => ⟨rfl, e188, (by decide : 1 + 0 ≤ _), (by decide : 2 + 0 ≤ _)⟩)
 dsimp only [Pt.U, Pt.locs, Pt.cells, Pt.slots] at X189 l189 y189 z189 st189 hQ189
 subst l189 y189 z189
 obtain ⟨h189, e189⟩ : ∃ z, T189.heap = z := ⟨_, rfl⟩
 rw [e189] at hQ189
 obtain ⟨rfl, N189q, K189, p189_0⟩ := hQ189
 have N189 := Fr.app N0 N189q
 have sz189 : h188.size ≤ h189.size := K189.1
 have nz189 := Nat.le_trans nz188 sz189
 have lt189_0 := ltA p189_0.lt
 obtain ⟨fs, hr, hrun, hended, hW, hsame⟩ := X189.leave (v := some (.ref b188)) (fun h => by rw [Bd.returns] at h; cases h)
 refine ⟨_, _, pre0 _ ?_, hrun, hended, _, _, rfl, ?_, ⟨_, rfl⟩, hW, hsame.mono (by decide) (by decide)⟩
 ·show GO p e below s₁ (mkF m 0 (la12 a2 o1 (2 : Int32)) []) _
  refine XS.iloadN X0.here hx rfl (hb hby d15_0) rfl ?_
  show GO p e below s₁ (mkF m 1 (la12 a2 o1 (2 : Int32)) [(.int 2)]) _
  refine st188 _ ?_
  show GO p e below T188 (mkF m 3 (la12 a2 o1 (2 : Int32)) [(.ref b188)]) _
  refine XS.astoreN X188.here hx rfl (hb hby d15_3) rfl rfl (l' := (la13 a2 o1 (2 : Int32) b188)) rfl ?_
  show GO p e below T188 (mkF m 4 (la13 a2 o1 (2 : Int32) b188) []) _
  refine XS.aloadN X188.here hx rfl (hb hby d15_4) rfl rfl ?_
  show GO p e below T188 (mkF m 5 (la13 a2 o1 (2 : Int32) b188) [(.ref a2)]) _
  refine XS.iloadN X188.here hx rfl (hb hby d15_5) rfl ?_
  show GO p e below T188 (mkF m 6 (la13 a2 o1 (2 : Int32) b188) [(.int o1), (.ref a2)]) _
  refine XS.aloadN X188.here hx rfl (hb hby d15_6) rfl rfl ?_
  show GO p e below T188 (mkF m 7 (la13 a2 o1 (2 : Int32) b188) [(.ref b188), (.int o1), (.ref a2)]) _
  refine XS.iconst X188.here hx rfl (hb hby d15_7) ?_
  show GO p e below T188 (mkF m 8 (la13 a2 o1 (2 : Int32) b188) [(.int 0), (.ref b188), (.int o1), (.ref a2)]) _
  refine XS.iloadN X188.here hx rfl (hb hby d15_8) rfl ?_
  show GO p e below T188 (mkF m 9 (la13 a2 o1 (2 : Int32) b188) [(.int 2), (.int 0), (.ref b188), (.int o1), (.ref a2)]) _
  refine st189 _ ?_
  show GO p e below T189 (mkF m 12 (la13 a2 o1 (2 : Int32) b188) [(.int 2)]) _
  refine XS.istore X189.here hx rfl (hb hby d15_12) rfl (l' := (la14 a2 o1 (2 : Int32) b188 (2 : Int32))) rfl ?_
  show GO p e below T189 (mkF m 14 (la14 a2 o1 (2 : Int32) b188 (2 : Int32)) []) _
  refine XS.iload X189.here hx rfl (hb hby d15_14) rfl ?_
  show GO p e below T189 (mkF m 16 (la14 a2 o1 (2 : Int32) b188 (2 : Int32)) [(.int 2)]) _
  refine XS.iloadN X189.here hx rfl (hb hby d15_16) rfl ?_
  show GO p e below T189 (mkF m 17 (la14 a2 o1 (2 : Int32) b188 (2 : Int32)) [(.int 2), (.int 2)]) _
  refine XS.icmpYes X189.here hx rfl (pc0 := 17) (pc' := 57) rfl (hb hby d15_17) rfl (teq (rfl : (2 : Int32) = (2 : Int32))).1 (by decide) (by decide) ?_
  show GO p e below T189 (mkF m 57 (la14 a2 o1 (2 : Int32) b188 (2 : Int32)) []) _
  refine XS.aloadN X189.here hx rfl (hb hby d15_57) rfl rfl ?_
  show GO p e below T189 (mkF m 58 (la14 a2 o1 (2 : Int32) b188 (2 : Int32)) [(.ref b188)]) _
  exact retOut X189 hx Bd.returns rfl (Or.inr (Or.inr (Or.inr (Or.inr ⟨rfl, rfl, rfl⟩)))) (hb hby d15_58) hr
 ·show Qrm_c3_2L Z a2 k2 vs2 o1 x0 x1 h0 n0 _ T189.heap _
  rw [e189]
  exact ⟨b188, k188, rfl, N189, (((Keep.refl h0 []).ext E188).trans K189 (allS (P := fun x => x ∈ _ ∨ _) (Or.inr (by omega)) all0)), p189_0, (by omega)⟩
def Qrm_ca_2_2 (Z : State) (d1 : Addr) (kd : ClassId) (v1 : List Value) (h0 : Heap) (n0 : Nat) (v : Option Value) (h : Heap) (L : List Loc) : Prop := v = some (.int 0) ∧ Fr n0 L ∧ h = h0
theorem ef_rm_ca_2_2 (m : MethodId) (x0 : Addr) (x1 : Int32) : entryFrame m #[(.ref x0), (.int x1)] 2 = mkF m 0 #[.val (.ref x0), .val (.int x1)] [] := by first | rfl | (simp [entryFrame, mkF, argsToLocals, Value.category]; done)
theorem rm_ca_2_2 (l : Launch) (Z : State) (a0 : Array Value) (hw : HW Z a0) (ws : List Jvm.Cond) (d1 : Addr) (kd : ClassId) (v1 : List Value) (h0 : Heap) (n0 : Nat) (Z0 : n0 ≤ h0.size) (Vd : Arv Z h0 d1 kd .byte (2 : Int32) v1 (.int 0)) :
  OwnM l Z h0 (⟨kS1, "coderFromArrayLen", "([BI)B"⟩ : MethodName) (Jvm.Cond.code (⟨kS1, "coderFromArrayLen", "([BI)B"⟩ : MethodName) jdk_52_method_15_code 2 (some .byte) :: ws) (RM 0 0 0 0) #[(.ref d1), (.int 2)] (Qrm_ca_2_2 Z d1 kd v1 h0 n0) := by
 refine MetFree.of_bodySF (plainFor_of_name pn_3) hisR ?_
 intro p e s m args below meth c s₁ Bd hml0 hP hK
 obtain ⟨rfl, hZ, hh⟩ := hP
 have hx := Bd.exec
 have hby := Bd.bytes
 have hml : c.maxLocals = 2 := hml0
 have hown : s.vm.findClass kS1 = some m.cls := findClass_of_methodNamed Bd.named
 have hnm := (name_of_methodNamed Bd.named Bd.method).1
 have X0 : Stand p l e (RM 0 0 0 0) s m #[(.ref d1), (.int 2)] below meth c s₁ [] 0 0 := Stand.of_body Bd
 have e0 : s₁.heap = h0 := by rw [← hh, Bd.state]; rfl
 have N0 := Fr.nil n0
 have pre0 : ∀ t, GO p e below s₁ (mkF m 0 #[.val (.ref d1), .val (.int 2)] []) t → GO p e below s₁ (entryFrame m #[(.ref d1), (.int 2)] 2) t := fun t k => castTop (ef_rm_ca_2_2 m d1 ((2 : Int32))) k
 have lt_Vd := ltA Vd.lt
 obtain ⟨cl192, Ar192, -, S192, M192, -, -⟩ := id Vd
 obtain ⟨fs, hr, hrun, hended, hW, hsame⟩ := X0.leave (v := some (.int (nar .byte (0 : Int32)))) (fun h => by rw [Bd.returns] at h; cases h)
 refine ⟨_, _, pre0 _ ?_, hrun, hended, _, _, rfl, ?_, ⟨_, rfl⟩, hW, hsame.mono (by decide) (by decide)⟩
 ·show GO p e below s₁ (mkF m 0 #[.val (.ref d1), .val (.int 2)] []) _
  refine XS.iloadN X0.here hx rfl (hb hby d22_0) rfl ?_
  show GO p e below s₁ (mkF m 1 #[.val (.ref d1), .val (.int 2)] [(.int 2)]) _
  refine XS.aloadN X0.here hx rfl (hb hby d22_1) rfl rfl ?_
  show GO p e below s₁ (mkF m 2 #[.val (.ref d1), .val (.int 2)] [(.ref d1), (.int 2)]) _
  refine X0.arraylength hx (by rw [e0]; exact Ar192.1) (State.isArrayOf_alike hZ.alike Ar192.2.1) (g := (mkF m 2 #[.val (.ref d1), .val (.int 2)] [(.ref d1), (.int 2)])) rfl rfl (hb hby d22_2) _ ?_
  rw [len_of S192 M192]
  show GO p e below s₁ (mkF m 3 #[.val (.ref d1), .val (.int 2)] [(.int 2), (.int 2)]) _
  refine XS.isub X0.here hx rfl (hb hby d22_3) rfl ?_
  rw [show ((2 : Int32) - (2 : Int32)) = (0 : Int32) from by decide]
  show GO p e below s₁ (mkF m 4 #[.val (.ref d1), .val (.int 2)] [(.int 0)]) _
  refine XS.bipush X0.here hx rfl (hb hby d22_4) ?_
  show GO p e below s₁ (mkF m 6 #[.val (.ref d1), .val (.int 2)] [(.int 31), (.int 0)]) _
  refine XS.iushr X0.here hx rfl (hb hby d22_6) rfl ?_
  rw [show (((0 : Int32).toUInt32 >>> ((31 : Int32) &&& 31).toUInt32).toInt32) = (0 : Int32) from by decide]
  show GO p e below s₁ (mkF m 7 #[.val (.ref d1), .val (.int 2)] [(.int 0)]) _
  refine XS.i2b X0.here hx rfl (hb hby d22_7) rfl ?_
  rw [show ((0 : Int32).toInt8.toInt32) = (0 : Int32) from by decide]
  show GO p e below s₁ (mkF m 8 #[.val (.ref d1), .val (.int 2)] [(.int 0)]) _
  exact retN X0 hx (t := .byte) Bd.returns (by simp) (hb hby d22_8) hr
 ·show Qrm_ca_2_2 Z d1 kd v1 h0 n0 _ s₁.heap _
  rw [e0]
  exact ⟨rfl, N0, rfl⟩
def Qrm_s4_2L (Z : State) (y1 : Addr) (w1 : Value) (w2 : Value) (a2 : Addr) (k2 : ClassId) (vs2 : List Value) (o1 : Int32) (x0 : Int32) (x1 : Int32) (z0 : Int32) (h0 : Heap) (n0 : Nat) (v : Option Value) (h : Heap) (L : List Loc) : Prop := ∃ t : Addr, ∃ k : ClassId, v = none ∧ Fr n0 L ∧ Keep h0 h [y1] ∧ Exa Z h y1 kS0 ∧ Fld Z h y1 kS0 "coder" "B" (.int 0) ∧ Fld Z h y1 kS0 "value" "[B" (.ref t) ∧ Arv Z h t k .byte (2 : Int32) [(.int (x0.toInt8.toInt32)), (.int (x1.toInt8.toInt32))] (.int 0) ∧ h0.size ≤ t
theorem ef_rm_s4_2L (m : MethodId) (x0 : Addr) (x1 : Addr) (x2 : Int32) (x3 : Int32) : entryFrame m #[(.ref x0), (.ref x1), (.int x2), (.int x3), .null] 6 = mkF m 0 (la15 x0 x1 x2 x3) [] := by first | rfl | (simp [entryFrame, mkF, argsToLocals, Value.category]; done)
theorem rm_s4_2L (l : Launch) (Z : State) (a0 : Array Value) (hw : HW Z a0) (ws : List Jvm.Cond) (y1 : Addr) (w1 : Value) (w2 : Value) (a2 : Addr) (k2 : ClassId) (vs2 : List Value) (o1 : Int32) (x0 : Int32) (x1 : Int32) (z0 : Int32) (h0 : Heap) (n0 : Nat) (Z0 : n0 ≤ h0.size) (O0 : Old Z n0 h0) (Es : Exa Z h0 y1 kS0) (Fv1 : Fld Z h0 y1 kS0 "value" "[B" w1) (Fc1 : Fld Z h0 y1 kS0 "coder" "B" w2) (V2 : Arv Z h0 a2 k2 .char (8 : Int32) vs2 (.int 0)) (SZc : Sta Z Z.heap kS0 "COMPACT_STRINGS" "Z" (.int z0)) (hz0 : ¬ z0 = 0) (SZad : Sta Z Z.heap kS1 "$assertionsDisabled" "Z" (.int 1)) (SZhi : Sta Z Z.heap kS1 "HI_BYTE_SHIFT" "I" (.int 0)) (SZlo : Sta Z Z.heap kS1 "LO_BYTE_SHIFT" "I" (.int 8)) (ob0 : (¬ o1 < 0 ∧ o1 < (8 : Int32))) (hx0 : vs2.getD (o1).toNatClampNeg (.int 0) = (.int x0)) (lb0 : (¬ x0 < 0 ∧ ¬ (65535 : Int32) < x0)) (ob1 : (¬ (o1 + (1 : Int32)) < 0 ∧ (o1 + (1 : Int32)) < (8 : Int32))) (hx1 : vs2.getD ((o1 + (1 : Int32))).toNatClampNeg (.int 0) = (.int x1)) (lb1 : (¬ x1 < 0 ∧ ¬ (65535 : Int32) < x1)) (c0 : ¬ ((255 : Int32) < x0)) (c1 : ¬ ((255 : Int32) < x1)) (gy : n0 ≤ y1) :
  OwnM l Z h0 (⟨kS0, "<init>", "([CIILjava/lang/Void;)V"⟩ : MethodName) (Jvm.Cond.code (⟨kS0, "<init>", "([CIILjava/lang/Void;)V"⟩ : MethodName) jdk_42_method_149_code 6 none :: ws) (RM 2 1 2 35) #[(.ref y1), (.ref a2), (.int o1), (.int 2), .null] (Qrm_s4_2L Z y1 w1 w2 a2 k2 vs2 o1 x0 x1 z0 h0 n0) := by
 refine MetFree.of_bodySF (plainFor_of_name pn_2) hisR ?_
 intro p e s m args below meth c s₁ Bd hml0 hP hK
 obtain ⟨rfl, hZ, hh⟩ := hP
 have hx := Bd.exec
 have hby := Bd.bytes
 have hml : c.maxLocals = 6 := hml0
 have hown : s.vm.findClass kS0 = some m.cls := findClass_of_methodNamed Bd.named
 have hnm := (name_of_methodNamed Bd.named Bd.method).1
 have X0 : Stand p l e (RM 2 1 2 35) s m #[(.ref y1), (.ref a2), (.int o1), (.int 2), .null] below meth c s₁ [] 0 0 := Stand.of_body Bd
 have e0 : s₁.heap = h0 := by rw [← hh, Bd.state]; rfl
 have N0 := Fr.nil n0
 have pre0 : ∀ t, GO p e below s₁ (mkF m 0 (la15 y1 a2 o1 (2 : Int32)) []) t → GO p e below s₁ (entryFrame m #[(.ref y1), (.ref a2), (.int o1), (.int 2), .null] 6) t := fun t k => castTop (ef_rm_s4_2L m y1 a2 o1 ((2 : Int32))) k
 have lt_Es := ltA Es.lt
 have lt_Fv1 := ltA Fv1.lt
 have lt_Fc1 := ltA Fc1.lt
 have lt_V2 := ltA V2.lt
 obtain ⟨T193, X193, e193, st193⟩ := initO X0 hx hZ hown (wd hw 64 rfl) (wd hw 21 rfl) (wd hw 22 rfl) e0 (g := (mkF m 1 (la15 y1 a2 o1 (2 : Int32)) [(.ref y1)])) rfl (by rw [hml]; rfl) rfl (hb hby d12_1) (by decide) (W := 0) (wz rfl) (by decide)
 have S194 : Sta Z h0 kS0 "COMPACT_STRINGS" "Z" (.int z0) := SZc.ext O0.2
 obtain ⟨T195, X195, e195, st195⟩ := getS2 X193 hx hZ hown (host := "") (Or.inl (wd hw 83 rfl)) Via.refl e193 S194 (g := (mkF m 27 (la15 y1 a2 o1 (2 : Int32)) [])) rfl (hb hby d12_27)
 -- pc 36: StringUTF16.compress by rm_c3_2L
 obtain ⟨_, _, ⟨T196, L196, k196, n196⟩, -, X196, ⟨Lc196, hQ196, l196, y196, z196⟩, st196⟩ := Jvm.LawKit.callS X195 hx (y := (⟨kS1, "compress", "([CII)[B"⟩ : MethodName)) hown (mvT hZ (wd hw 84 rfl)) (mvT hZ (wd hw 85 rfl)) (mvT hZ (wd hw 86 rfl)) (mvT hZ (wd hw 87 rfl)) (by decide) (backOf (W := 0) (rm_c3_2L l Z a0 hw [] a2 k2 vs2 o1 x0 x1 h0 n0 Z0 O0 V2 (by first | assumption | decide | omega) (by first | assumption | decide | omega) (by first | assumption | decide | omega) (by first | assumption | decide | omega) (by first | assumption | decide | omega) (by first | assumption | decide | omega) (by first | assumption | decide | omega) (by first | assumption | decide | omega) (by first | assumption | decide | omega) (by first | assumption | decide | omega) (by first | assumption | decide | omega)) hZ (wd hw 87 rfl) (wd hw 86 rfl) (by decide) (by decide)) (g := (mkF m 36 (la15 y1 a2 o1 (2 : Int32)) [(.int 2), (.int o1), (.ref a2)])) rfl (by rw [hml]; rfl) (argsL := [(.ref a2), (.int o1), (.int 2)]) (rest := []) (lenOf pd_7 rfl) rfl (wz rfl) (hb hby d12_36) (fun _ _ => ⟨rfl, e195, (by decide : 0 + 1 ≤ _), (by decide : 0 + 2 ≤ _)⟩)
 dsimp only [Pt.U, Pt.locs, Pt.cells, Pt.slots] at X196 l196 y196 z196 st196 hQ196
 subst l196 y196 z196
 obtain ⟨h196, e196⟩ : ∃ z, T196.heap = z := ⟨_, rfl⟩
 rw [e196] at hQ196
 obtain ⟨t_196, k_196, rfl, N196q, K196, p196_0, r196_0⟩ := hQ196
 have N196 := Fr.app N0 N196q
 have sz196 : h0.size ≤ h196.size := K196.1
 have nz196 := Nat.le_trans Z0 sz196
 have lt196_0 := ltA p196_0.lt
 -- pc 45: StringUTF16.coderFromArrayLen by rm_ca_2_2
 obtain ⟨_, _, ⟨T197, L197, k197, n197⟩, -, X197, ⟨Lc197, hQ197, l197, y197, z197⟩, st197⟩ := Jvm.LawKit.callS X196 hx (y := (⟨kS1, "coderFromArrayLen", "([BI)B"⟩ : MethodName)) hown (mvT hZ (wd hw 110 rfl)) (mvT hZ (wd hw 111 rfl)) (mvT hZ (wd hw 86 rfl)) (mvT hZ (wd hw 112 rfl)) (by decide) (backOf (W := 1) (rm_ca_2_2 l Z a0 hw [] t_196 k_196 ([(.int (x0.toInt8.toInt32)), (.int (x1.toInt8.toInt32))]) h196 n0 nz196 p196_0) hZ (wd hw 112 rfl) (wd hw 86 rfl) (by decide) (by decide)) (g := (mkF m 45 (la16 y1 a2 o1 (2 : Int32) t_196) [(.int 2), (.ref t_196), (.ref y1)])) rfl (by rw [hml]; rfl) (argsL := [(.ref t_196), (.int 2)]) (rest := [(.ref y1)]) (lenOf pd_8 rfl) rfl (wz rfl) (hb hby d12_45) (fun _ _ => ⟨rfl, e196, (by decide : 1 + 0 ≤ _), (by decide : 2 + 0 ≤ _)⟩)
 dsimp only [Pt.U, Pt.locs, Pt.cells, Pt.slots] at X197 l197 y197 z197 st197 hQ197
 subst l197 y197 z197
 obtain ⟨rfl, N197q, e197⟩ := hQ197
 have N197 := Fr.app N196 N197q
 have f198 : Fld Z h196 y1 kS0 "coder" "B" w2 := (Fc1.keep K196 nin0)
 have f199 : Exa Z h196 y1 kS0 := (Es.keep K196)
 obtain ⟨T200, h200, X200, e200, W200, st200⟩ := putFN X197 hx hZ hown (wd hw 72 rfl) Via.refl e197 f198 f199 (Or.inr ⟨(wd hw 68 rfl), rfl, hnm⟩) (wd hw 45 rfl) (ty := .byte) (v' := (.int 0)) (by decide) rfl rfl (g := (mkF m 48 (la16 y1 a2 o1 (2 : Int32) t_196) [(.int 0), (.ref y1)])) rfl rfl (hb hby d12_48)
 have ge201 : n0 ≤ y1 := by omega
 have N200 := Fr.snoc X200 N197 ge201
 have f202 : Arv Z h196 a2 k2 .char (8 : Int32) vs2 (.int 0) := (V2.keep K196 nin0)
 have ne203 : y1 ≠ a2 := Exa.neArv f199 f202 (wd hw 45 rfl)
 have ne204 : y1 ≠ t_196 := Exa.neArv f199 p196_0 (wd hw 45 rfl)
 have sz200 : h196.size ≤ h200.size := Nat.le_of_eq W200.size.symm
 have nz200 := Nat.le_trans nz196 sz200
 have f200 : Fld Z h200 y1 kS0 "coder" "B" (.int 0) := f198.same W200
 have f205 : Fld Z h200 y1 kS0 "value" "[B" w1 := ((Fv1.keep K196 nin0).other W200 (Or.inr (slot_ne (Or.inr (wd hw 67 rfl)) (Or.inr (wd hw 68 rfl)) (by decide) (t := (.array .byte)) (t' := .byte) (by decide) (by decide))))
 have f206 : Exa Z h200 y1 kS0 := (f199.wr W200)
 obtain ⟨T207, h207, X207, e207, W207, st207⟩ := putF X200 hx hZ hown (host := "") (Or.inl (wd hw 71 rfl)) Via.refl e200 f205 f206 (Or.inr ⟨(wd hw 67 rfl), rfl, hnm⟩) (wd hw 45 rfl) (ty := (.array .byte)) (by decide) rfl rfl (g := (mkF m 54 (la16 y1 a2 o1 (2 : Int32) t_196) [(.ref t_196), (.ref y1)])) rfl rfl (hb hby d12_54)
 have N207 := Fr.snoc X207 N200 ge201
 have sz207 : h200.size ≤ h207.size := Nat.le_of_eq W207.size.symm
 have nz207 := Nat.le_trans nz200 sz207
 have f207 : Fld Z h207 y1 kS0 "value" "[B" (.ref t_196) := f205.same W207
 have f208 : Exa Z h207 y1 kS0 := (f206.wr W207)
 have f209 : Fld Z h207 y1 kS0 "coder" "B" (.int 0) := (f200.other W207 (Or.inr (slot_ne (Or.inr (wd hw 68 rfl)) (Or.inr (wd hw 67 rfl)) (by decide) (t := .byte) (t' := (.array .byte)) (by decide) (by decide))))
 have f210 : Arv Z h207 t_196 k_196 .byte (2 : Int32) [(.int (x0.toInt8.toInt32)), (.int (x1.toInt8.toInt32))] (.int 0) := ((p196_0.other W200 (Ne.symm ne204)).other W207 (Ne.symm ne204))
 obtain ⟨fs, hr, hrun, hended, hW, hsame⟩ := X207.leave (v := none) (fun _ => rfl)
 refine ⟨_, _, pre0 _ ?_, hrun, hended, _, _, rfl, ?_, ⟨_, rfl⟩, hW, hsame.mono (by decide) (by decide)⟩
 ·show GO p e below s₁ (mkF m 0 (la15 y1 a2 o1 (2 : Int32)) []) _
  refine XS.aloadN X0.here hx rfl (hb hby d12_0) rfl rfl ?_
  show GO p e below s₁ (mkF m 1 (la15 y1 a2 o1 (2 : Int32)) [(.ref y1)]) _
  refine st193 _ ?_
  show GO p e below T193 (mkF m 4 (la15 y1 a2 o1 (2 : Int32)) []) _
  refine XS.iloadN X193.here hx rfl (hb hby d12_4) rfl ?_
  show GO p e below T193 (mkF m 5 (la15 y1 a2 o1 (2 : Int32)) [(.int 2)]) _
  refine XS.ifYes X193.here hx rfl (pc0 := 5) (pc' := 27) rfl (hb hby d12_5) rfl ((if0 _ _).trans (feq ((by decide) : ¬ ((2 : Int32) = (0 : Int32)))).2) (by decide) (by decide) ?_
  show GO p e below T193 (mkF m 27 (la15 y1 a2 o1 (2 : Int32)) []) _
  refine st195 _ ?_
  show GO p e below T195 (mkF m 30 (la15 y1 a2 o1 (2 : Int32)) [(.int z0)]) _
  refine XS.ifNo X195.here hx rfl (hb hby d12_30) rfl ((if0 _ _).trans (feq ((by first | assumption | decide) : ¬ (z0 = (0 : Int32)))).1) ?_
  show GO p e below T195 (mkF m 33 (la15 y1 a2 o1 (2 : Int32)) []) _
  refine XS.aloadN X195.here hx rfl (hb hby d12_33) rfl rfl ?_
  show GO p e below T195 (mkF m 34 (la15 y1 a2 o1 (2 : Int32)) [(.ref a2)]) _
  refine XS.iloadN X195.here hx rfl (hb hby d12_34) rfl ?_
  show GO p e below T195 (mkF m 35 (la15 y1 a2 o1 (2 : Int32)) [(.int o1), (.ref a2)]) _
  refine XS.iloadN X195.here hx rfl (hb hby d12_35) rfl ?_
  show GO p e below T195 (mkF m 36 (la15 y1 a2 o1 (2 : Int32)) [(.int 2), (.int o1), (.ref a2)]) _
  refine st196 _ ?_
  show GO p e below T196 (mkF m 39 (la15 y1 a2 o1 (2 : Int32)) [(.ref t_196)]) _
  refine XS.astore X196.here hx rfl (hb hby d12_39) rfl rfl (l' := (la16 y1 a2 o1 (2 : Int32) t_196)) rfl ?_
  show GO p e below T196 (mkF m 41 (la16 y1 a2 o1 (2 : Int32) t_196) []) _
  refine XS.aloadN X196.here hx rfl (hb hby d12_41) rfl rfl ?_
  show GO p e below T196 (mkF m 42 (la16 y1 a2 o1 (2 : Int32) t_196) [(.ref y1)]) _
  refine XS.aload X196.here hx rfl (hb hby d12_42) rfl rfl ?_
  show GO p e below T196 (mkF m 44 (la16 y1 a2 o1 (2 : Int32) t_196) [(.ref t_196), (.ref y1)]) _
  refine XS.iloadN X196.here hx rfl (hb hby d12_44) rfl ?_
  show GO p e below T196 (mkF m 45 (la16 y1 a2 o1 (2 : Int32) t_196) [(.int 2), (.ref t_196), (.ref y1)]) _
  refine st197 _ ?_
  show GO p e below T197 (mkF m 48 (la16 y1 a2 o1 (2 : Int32) t_196) [(.int 0), (.ref y1)]) _
  refine st200 _ ?_
  show GO p e below T200 (mkF m 51 (la16 y1 a2 o1 (2 : Int32) t_196) []) _
  refine XS.aloadN X200.here hx rfl (hb hby d12_51) rfl rfl ?_
  show GO p e below T200 (mkF m 52 (la16 y1 a2 o1 (2 : Int32) t_196) [(.ref y1)]) _
  refine XS.aload X200.here hx rfl (hb hby d12_52) rfl rfl ?_
  show GO p e below T200 (mkF m 54 (la16 y1 a2 o1 (2 : Int32) t_196) [(.ref t_196), (.ref y1)]) _
  refine st207 _ ?_
  show GO p e below T207 (mkF m 57 (la16 y1 a2 o1 (2 : Int32) t_196) []) _
  exact X207.returnOut hx Bd.returns (hb hby d12_57) hr
 ·show Qrm_s4_2L Z y1 w1 w2 a2 k2 vs2 o1 x0 x1 z0 h0 n0 _ T207.heap _
  rw [e207]
  exact ⟨t_196, k_196, rfl, N207, ((((Keep.refl h0 [y1]).trans K196 all0).wr W200 (Or.inl (List.mem_of_getElem? (i := 0) rfl))).wr W207 (Or.inl (List.mem_of_getElem? (i := 0) rfl))), f208, f209, f207, f210, (by omega)⟩
def Qrm_s3_2L (Z : State) (y1 : Addr) (w1 : Value) (w2 : Value) (a2 : Addr) (k2 : ClassId) (vs2 : List Value) (o1 : Int32) (x0 : Int32) (x1 : Int32) (z0 : Int32) (f0 : Value) (h0 : Heap) (n0 : Nat) (v : Option Value) (h : Heap) (L : List Loc) : Prop := ∃ t : Addr, ∃ k : ClassId, v = none ∧ Fr n0 L ∧ Keep h0 h [y1] ∧ Exa Z h y1 kS0 ∧ Fld Z h y1 kS0 "coder" "B" (.int 0) ∧ Fld Z h y1 kS0 "value" "[B" (.ref t) ∧ Arv Z h t k .byte (2 : Int32) [(.int (x0.toInt8.toInt32)), (.int (x1.toInt8.toInt32))] (.int 0) ∧ h0.size ≤ t
theorem ef_rm_s3_2L (m : MethodId) (x0 : Addr) (x1 : Addr) (x2 : Int32) (x3 : Int32) : entryFrame m #[(.ref x0), (.ref x1), (.int x2), (.int x3)] 4 = mkF m 0 (la17 x0 x1 x2 x3) [] := by first | rfl | (simp [entryFrame, mkF, argsToLocals, Value.category]; done)
theorem rm_s3_2L (l : Launch) (Z : State) (a0 : Array Value) (hw : HW Z a0) (ws : List Jvm.Cond) (y1 : Addr) (w1 : Value) (w2 : Value) (a2 : Addr) (k2 : ClassId) (vs2 : List Value) (o1 : Int32) (x0 : Int32) (x1 : Int32) (z0 : Int32) (f0 : Value) (h0 : Heap) (n0 : Nat) (Z0 : n0 ≤ h0.size) (O0 : Old Z n0 h0) (Es : Exa Z h0 y1 kS0) (Fv1 : Fld Z h0 y1 kS0 "value" "[B" w1) (Fc1 : Fld Z h0 y1 kS0 "coder" "B" w2) (V2 : Arv Z h0 a2 k2 .char (8 : Int32) vs2 (.int 0)) (SZc : Sta Z Z.heap kS0 "COMPACT_STRINGS" "Z" (.int z0)) (hz0 : ¬ z0 = 0) (SZf : Sta Z Z.heap kS3 "SIOOBE_FORMATTER" "Ljava/util/function/BiFunction;" f0) (rf0 : f0.isRef = true) (hr1 : ¬ (((8 : Int32) ||| o1) ||| (2 : Int32)) < 0) (hr2 : ¬ ((8 : Int32) - o1) < (2 : Int32)) (SZad : Sta Z Z.heap kS1 "$assertionsDisabled" "Z" (.int 1)) (SZhi : Sta Z Z.heap kS1 "HI_BYTE_SHIFT" "I" (.int 0)) (SZlo : Sta Z Z.heap kS1 "LO_BYTE_SHIFT" "I" (.int 8)) (ob0 : (¬ o1 < 0 ∧ o1 < (8 : Int32))) (hx0 : vs2.getD (o1).toNatClampNeg (.int 0) = (.int x0)) (lb0 : (¬ x0 < 0 ∧ ¬ (65535 : Int32) < x0)) (ob1 : (¬ (o1 + (1 : Int32)) < 0 ∧ (o1 + (1 : Int32)) < (8 : Int32))) (hx1 : vs2.getD ((o1 + (1 : Int32))).toNatClampNeg (.int 0) = (.int x1)) (lb1 : (¬ x1 < 0 ∧ ¬ (65535 : Int32) < x1)) (c0 : ¬ ((255 : Int32) < x0)) (c1 : ¬ ((255 : Int32) < x1)) (gy : n0 ≤ y1) :
  OwnM l Z h0 (⟨kS0, "<init>", "([CII)V"⟩ : MethodName) (Jvm.Cond.code (⟨kS0, "<init>", "([CII)V"⟩ : MethodName) jdk_42_method_4_code 4 none :: ws) (RM 3 1 2 52) #[(.ref y1), (.ref a2), (.int o1), (.int 2)] (Qrm_s3_2L Z y1 w1 w2 a2 k2 vs2 o1 x0 x1 z0 f0 h0 n0) := by
 refine MetFree.of_bodySF (plainFor_of_name pn_2) hisR ?_
 intro p e s m args below meth c s₁ Bd hml0 hP hK
 obtain ⟨rfl, hZ, hh⟩ := hP
 have hx := Bd.exec
 have hby := Bd.bytes
 have hml : c.maxLocals = 4 := hml0
 have hown : s.vm.findClass kS0 = some m.cls := findClass_of_methodNamed Bd.named
 have hnm := (name_of_methodNamed Bd.named Bd.method).1
 have X0 : Stand p l e (RM 3 1 2 52) s m #[(.ref y1), (.ref a2), (.int o1), (.int 2)] below meth c s₁ [] 0 0 := Stand.of_body Bd
 have e0 : s₁.heap = h0 := by rw [← hh, Bd.state]; rfl
 have N0 := Fr.nil n0
 have pre0 : ∀ t, GO p e below s₁ (mkF m 0 (la17 y1 a2 o1 (2 : Int32)) []) t → GO p e below s₁ (entryFrame m #[(.ref y1), (.ref a2), (.int o1), (.int 2)] 4) t := fun t k => castTop (ef_rm_s3_2L m y1 a2 o1 ((2 : Int32))) k
 have lt_Es := ltA Es.lt
 have lt_Fv1 := ltA Fv1.lt
 have lt_Fc1 := ltA Fc1.lt
 have lt_V2 := ltA V2.lt
 -- pc 7: String.rangeCheck by rm_rc
 obtain ⟨_, _, ⟨T211, L211, k211, n211⟩, -, X211, ⟨Lc211, hQ211, l211, y211, z211⟩, st211⟩ := Jvm.LawKit.callS X0 hx (y := (⟨kS0, "rangeCheck", "([CII)Ljava/lang/Void;"⟩ : MethodName)) hown (mvT hZ (wd hw 50 rfl)) (mvT hZ (wd hw 51 rfl)) (mvT hZ (wd hw 46 rfl)) (mvT hZ (wd hw 52 rfl)) (by decide) (backOf (W := 4) (rm_rc l Z a0 hw [] a2 k2 vs2 o1 (2 : Int32) (8 : Int32) f0 h0 n0 Z0 O0 V2 (by first | assumption | decide | omega) (by first | assumption | decide | omega) hr1 hr2) hZ (wd hw 52 rfl) (wd hw 46 rfl) (by decide) (by decide)) (g := (mkF m 7 (la17 y1 a2 o1 (2 : Int32)) [(.int 2), (.int o1), (.ref a2), (.int 2), (.int o1), (.ref a2), (.ref y1)])) rfl (by rw [hml]; rfl) (argsL := [(.ref a2), (.int o1), (.int 2)]) (rest := [(.int 2), (.int o1), (.ref a2), (.ref y1)]) (lenOf pd_9 rfl) rfl (wz rfl) (hb hby d8_7) (fun _ _ => ⟨rfl, e0, (by decide : 0 + 0 ≤ _), (by decide : 0 + 0 ≤ _)⟩)
 dsimp only [Pt.U, Pt.locs, Pt.cells, Pt.slots] at X211 l211 y211 z211 st211 hQ211
 subst l211 y211 z211
 obtain ⟨rfl, N211q, e211⟩ := hQ211
 have N211 := Fr.app N0 N211q
 -- pc 10: String.<init> by rm_s4_2L
 obtain ⟨_, _, ⟨T212, L212, k212, n212⟩, -, X212, ⟨Lc212, hQ212, l212, y212, z212⟩, st212⟩ := X211.specialBack hx (y := (⟨kS0, "<init>", "([CIILjava/lang/Void;)V"⟩ : MethodName)) rfl hown (mvT hZ (wd hw 60 rfl)) (mvT hZ (wd hw 61 rfl)) (mvT hZ (wd hw 63 rfl)) (by decide) (backOf (W := 0) (rm_s4_2L l Z a0 hw [] y1 w1 w2 a2 k2 vs2 o1 x0 x1 z0 h0 n0 Z0 O0 Es Fv1 Fc1 V2 (by first | assumption | decide | omega) (by first | assumption | decide | omega) (by first | assumption | decide | omega) (by first | assumption | decide | omega) (by first | assumption | decide | omega) (by first | assumption | decide | omega) (by first | assumption | decide | omega) (by first | assumption | decide | omega) (by first | assumption | decide | omega) (by first | assumption | decide | omega) (by first | assumption | decide | omega) (by first | assumption | decide | omega) (by first | assumption | decide | omega) (by first | assumption | decide | omega)) hZ (wd hw 63 rfl) (wd hw 46 rfl) (by decide) (by decide)) (g := (mkF m 10 (la17 y1 a2 o1 (2 : Int32)) [.null, (.int 2), (.int o1), (.ref a2), (.ref y1)])) rfl (by rw [hml]; rfl) (Steps.refl _) (a := y1) (argsL := [(.ref a2), (.int o1), (.int 2), .null]) (rest := []) (lenOf pd_10 rfl) rfl (wz rfl) (hb hby d8_10) (fun _ _ => ⟨rfl, e211, (by decide : 0 + 1 ≤ _), (by decide : 0 + 2 ≤ _)⟩)
 dsimp only [Pt.U, Pt.locs, Pt.cells, Pt.slots] at X212 l212 y212 z212 st212 hQ212
 subst l212 y212 z212
 obtain ⟨h212, e212⟩ : ∃ z, T212.heap = z := ⟨_, rfl⟩
 rw [e212] at hQ212
 obtain ⟨t_212, k_212, rfl, N212q, K212, p212_0, p212_1, p212_2, p212_3, r212_0⟩ := hQ212
 have N212 := Fr.app N211 N212q
 have ne213 : y1 ≠ a2 := Exa.neArv Es V2 (wd hw 45 rfl)
 have sz212 : h0.size ≤ h212.size := K212.1
 have nz212 := Nat.le_trans Z0 sz212
 have lt212_0 := ltA p212_0.lt
 have lt212_3 := ltA p212_3.lt
 obtain ⟨fs, hr, hrun, hended, hW, hsame⟩ := X212.leave (v := none) (fun _ => rfl)
 refine ⟨_, _, pre0 _ ?_, hrun, hended, _, _, rfl, ?_, ⟨_, rfl⟩, hW, hsame.mono (by decide) (by decide)⟩
 ·show GO p e below s₁ (mkF m 0 (la17 y1 a2 o1 (2 : Int32)) []) _
  refine XS.aloadN X0.here hx rfl (hb hby d8_0) rfl rfl ?_
  show GO p e below s₁ (mkF m 1 (la17 y1 a2 o1 (2 : Int32)) [(.ref y1)]) _
  refine XS.aloadN X0.here hx rfl (hb hby d8_1) rfl rfl ?_
  show GO p e below s₁ (mkF m 2 (la17 y1 a2 o1 (2 : Int32)) [(.ref a2), (.ref y1)]) _
  refine XS.iloadN X0.here hx rfl (hb hby d8_2) rfl ?_
  show GO p e below s₁ (mkF m 3 (la17 y1 a2 o1 (2 : Int32)) [(.int o1), (.ref a2), (.ref y1)]) _
  refine XS.iloadN X0.here hx rfl (hb hby d8_3) rfl ?_
  show GO p e below s₁ (mkF m 4 (la17 y1 a2 o1 (2 : Int32)) [(.int 2), (.int o1), (.ref a2), (.ref y1)]) _
  refine XS.aloadN X0.here hx rfl (hb hby d8_4) rfl rfl ?_
  show GO p e below s₁ (mkF m 5 (la17 y1 a2 o1 (2 : Int32)) [(.ref a2), (.int 2), (.int o1), (.ref a2), (.ref y1)]) _
  refine XS.iloadN X0.here hx rfl (hb hby d8_5) rfl ?_
  show GO p e below s₁ (mkF m 6 (la17 y1 a2 o1 (2 : Int32)) [(.int o1), (.ref a2), (.int 2), (.int o1), (.ref a2), (.ref y1)]) _
  refine XS.iloadN X0.here hx rfl (hb hby d8_6) rfl ?_
  show GO p e below s₁ (mkF m 7 (la17 y1 a2 o1 (2 : Int32)) [(.int 2), (.int o1), (.ref a2), (.int 2), (.int o1), (.ref a2), (.ref y1)]) _
  refine st211 _ ?_
  show GO p e below T211 (mkF m 10 (la17 y1 a2 o1 (2 : Int32)) [.null, (.int 2), (.int o1), (.ref a2), (.ref y1)]) _
  refine st212.trans ?_
  show GO p e below T212 (mkF m 13 (la17 y1 a2 o1 (2 : Int32)) []) _
  exact X212.returnOut hx Bd.returns (hb hby d8_13) hr
 ·show Qrm_s3_2L Z y1 w1 w2 a2 k2 vs2 o1 x0 x1 z0 f0 h0 n0 _ T212.heap _
  rw [e212]
  exact ⟨t_212, k_212, rfl, N212, ((Keep.refl h0 [y1]).trans K212 (allS (P := fun x => x ∈ _ ∨ _) (Or.inl (List.mem_of_getElem? (i := 0) rfl)) all0)), p212_0, p212_1, p212_2, p212_3, r212_0⟩
def Qrm_c3_2A (Z : State) (a2 : Addr) (k2 : ClassId) (vs2 : List Value) (o1 : Int32) (x0 : Int32) (x1 : Int32) (h0 : Heap) (n0 : Nat) (v : Option Value) (h : Heap) (L : List Loc) : Prop := ∃ t : Addr, ∃ k : ClassId, v = some (.ref t) ∧ Fr n0 L ∧ Keep h0 h [] ∧ Arv Z h t k .byte (4 : Int32) [(.int ((x0 >>> ((0 : Int32) &&& 31)).toInt8.toInt32)), (.int ((x0 >>> ((8 : Int32) &&& 31)).toInt8.toInt32)), (.int ((x1 >>> ((0 : Int32) &&& 31)).toInt8.toInt32)), (.int ((x1 >>> ((8 : Int32) &&& 31)).toInt8.toInt32))] (.int 0) ∧ h0.size ≤ t
theorem ef_rm_c3_2A (m : MethodId) (x0 : Addr) (x1 : Int32) (x2 : Int32) : entryFrame m #[(.ref x0), (.int x1), (.int x2)] 6 = mkF m 0 (la12 x0 x1 x2) [] := by first | rfl | (simp [entryFrame, mkF, argsToLocals, Value.category]; done)
theorem rm_c3_2A (l : Launch) (Z : State) (a0 : Array Value) (hw : HW Z a0) (ws : List Jvm.Cond) (a2 : Addr) (k2 : ClassId) (vs2 : List Value) (o1 : Int32) (x0 : Int32) (x1 : Int32) (h0 : Heap) (n0 : Nat) (Z0 : n0 ≤ h0.size) (O0 : Old Z n0 h0) (V2 : Arv Z h0 a2 k2 .char (8 : Int32) vs2 (.int 0)) (SZad : Sta Z Z.heap kS1 "$assertionsDisabled" "Z" (.int 1)) (SZhi : Sta Z Z.heap kS1 "HI_BYTE_SHIFT" "I" (.int 0)) (SZlo : Sta Z Z.heap kS1 "LO_BYTE_SHIFT" "I" (.int 8)) (ob0 : (¬ o1 < 0 ∧ o1 < (8 : Int32))) (hx0 : vs2.getD (o1).toNatClampNeg (.int 0) = (.int x0)) (lb0 : (¬ x0 < 0 ∧ ¬ (65535 : Int32) < x0)) (ob1 : (¬ (o1 + (1 : Int32)) < 0 ∧ (o1 + (1 : Int32)) < (8 : Int32))) (hx1 : vs2.getD ((o1 + (1 : Int32))).toNatClampNeg (.int 0) = (.int x1)) (lb1 : (¬ x1 < 0 ∧ ¬ (65535 : Int32) < x1)) (c0 : (255 : Int32) < x0) :
  OwnM l Z h0 (⟨kS1, "compress", "([CII)[B"⟩ : MethodName) (Jvm.Cond.code (⟨kS1, "compress", "([CII)[B"⟩ : MethodName) jdk_52_method_16_code 6 (some (.array .byte)) :: ws) (RM 3 2 6 40) #[(.ref a2), (.int o1), (.int 2)] (Qrm_c3_2A Z a2 k2 vs2 o1 x0 x1 h0 n0) := by
 refine MetFree.of_bodySF (plainFor_of_name pn_3) hisR ?_
 intro p e s m args below meth c s₁ Bd hml0 hP hK
 obtain ⟨rfl, hZ, hh⟩ := hP
 have hx := Bd.exec
 have hby := Bd.bytes
 have hml : c.maxLocals = 6 := hml0
 have hown : s.vm.findClass kS1 = some m.cls := findClass_of_methodNamed Bd.named
 have hnm := (name_of_methodNamed Bd.named Bd.method).1
 have X0 : Stand p l e (RM 3 2 6 40) s m #[(.ref a2), (.int o1), (.int 2)] below meth c s₁ [] 0 0 := Stand.of_body Bd
 have e0 : s₁.heap = h0 := by rw [← hh, Bd.state]; rfl
 have N0 := Fr.nil n0
 have pre0 : ∀ t, GO p e below s₁ (mkF m 0 (la12 a2 o1 (2 : Int32)) []) t → GO p e below s₁ (entryFrame m #[(.ref a2), (.int o1), (.int 2)] 6) t := fun t k => castTop (ef_rm_c3_2A m a2 o1 ((2 : Int32))) k
 have lt_V2 := ltA V2.lt
 obtain ⟨T214, h214, k214, X214, e214, E214, A214, st214⟩ := newP X0 hx hZ (wd hw 66 rfl) e0 (g := (mkF m 1 (la12 a2 o1 (2 : Int32)) [(.int 2)])) rfl (hb hby d15_1) rfl (by decide) (cap := 2) (by decide) (by decide) (by decide) (by decide)
 obtain ⟨b214, g214⟩ : ∃ z, z = h0.size := ⟨_, rfl⟩
 rw [← g214] at A214 st214
 have sz214 : h0.size ≤ h214.size := E214.1
 have nz214 := Nat.le_trans Z0 sz214
 have lt214 := ltA A214.lt
 have V214 : Arv Z h214 b214 k214 .byte (2 : Int32) [(.int 0), (.int 0)] (.int 0) := (Arv.new A214 (by decide)).pad (pad_rep [] (.int 0) 2)
 -- pc 9: StringUTF16.compress by rm_c5_2A
 have f216 : Arv Z h214 a2 k2 .char (8 : Int32) vs2 (.int 0) := (V2.ext E214)
 have ne217 : a2 ≠ b214 := neN (by omega)
 obtain ⟨_, _, ⟨T215, L215, k215, n215⟩, -, X215, ⟨Lc215, hQ215, l215, y215, z215⟩, st215⟩ := Jvm.LawKit.callS X214 hx (y := (⟨kS1, "compress", "([CI[BII)I"⟩ : MethodName)) hown (mvT hZ (wd hw 88 rfl)) (mvT hZ (wd hw 89 rfl)) (mvT hZ (wd hw 86 rfl)) (mvT hZ (wd hw 90 rfl)) (by decide) (backOf (W := 0) (rm_c5_2A l Z a0 hw [] a2 k2 vs2 o1 x0 x1 b214 k214 h214 n0 nz214 f216 V214 (by first | assumption | decide | omega) (by first | assumption | decide | omega) (by first | assumption | decide | omega) (by first | assumption | decide | omega) (by first | assumption | decide | omega) (by first | assumption | decide | omega) (by first | assumption | decide | omega) (by first | assumption | decide | omega) ne217) hZ (wd hw 90 rfl) (wd hw 86 rfl) (by decide) (by decide)) (g := (mkF m 9 (la13 a2 o1 (2 : Int32) b214) [(.int 2), (.int 0), (.ref b214), (.int o1), (.ref a2)])) rfl (by rw [hml]; rfl) (argsL := [(.ref a2), (.int o1), (.ref b214), (.int 0), (.int 2)]) (rest := []) (lenOf pd_6 rfl) rfl (wz rfl) (hb hby d15_9) (fun _ _ => ⟨rfl, e214, (by decide : 1 + 0 ≤ _), (by decide : 2 + 0 ≤ _)⟩)
 dsimp only [Pt.U, Pt.locs, Pt.cells, Pt.slots] at X215 l215 y215 z215 st215 hQ215
 subst l215 y215 z215
 obtain ⟨rfl, N215q, e215⟩ := hQ215
 have N215 := Fr.app N0 N215q
 -- pc 23: StringUTF16.toBytes by rm_tob2
 have f219 : Old Z n0 h214 := (O0.ext E214)
 obtain ⟨_, _, ⟨T218, L218, k218, n218⟩, -, X218, ⟨Lc218, hQ218, l218, y218, z218⟩, st218⟩ := Jvm.LawKit.callS X215 hx (y := (⟨kS1, "toBytes", "([CII)[B"⟩ : MethodName)) hown (mvT hZ (wd hw 91 rfl)) (mvT hZ (wd hw 92 rfl)) (mvT hZ (wd hw 86 rfl)) (mvT hZ (wd hw 93 rfl)) (by decide) (backOf (W := 0) (rm_tob2 l Z a0 hw [] a2 k2 vs2 o1 x0 x1 h214 n0 nz214 f219 f216 (by first | assumption | decide | omega) (by first | assumption | decide | omega) (by first | assumption | decide | omega) (by first | assumption | decide | omega) (by first | assumption | decide | omega) (by first | assumption | decide | omega) (by first | assumption | decide | omega) (by first | assumption | decide | omega) (by first | assumption | decide | omega)) hZ (wd hw 93 rfl) (wd hw 86 rfl) (by decide) (by decide)) (g := (mkF m 23 (la14 a2 o1 (2 : Int32) b214 (0 : Int32)) [(.int 2), (.int o1), (.ref a2)])) rfl (by rw [hml]; rfl) (argsL := [(.ref a2), (.int o1), (.int 2)]) (rest := []) (lenOf pd_7 rfl) rfl (wz rfl) (hb hby d15_23) (fun _ _ => ⟨rfl, e215, (by decide : 1 + 1 ≤ _), (by decide : 2 + 4 ≤ _)⟩)
 dsimp only [Pt.U, Pt.locs, Pt.cells, Pt.slots] at X218 l218 y218 z218 st218 hQ218
 subst l218 y218 z218
 obtain ⟨h218, e218⟩ : ∃ z, T218.heap = z := ⟨_, rfl⟩
 rw [e218] at hQ218
 obtain ⟨t_218, k_218, rfl, N218q, K218, p218_0, r218_0⟩ := hQ218
 have N218 := Fr.app N215 N218q
 have sz218 : h214.size ≤ h218.size := K218.1
 have nz218 := Nat.le_trans nz214 sz218
 have lt218_0 := ltA p218_0.lt
 -- pc 32: StringUTF16.getChar by rm_gc_2_0
 have f221 : Old Z n0 h218 := (f219.keep K218 all0)
 obtain ⟨_, _, ⟨T220, L220, k220, n220⟩, -, X220, ⟨Lc220, hQ220, l220, y220, z220⟩, st220⟩ := Jvm.LawKit.callS X218 hx (y := (⟨kS1, "getChar", "([BI)C"⟩ : MethodName)) hown (mvT hZ (wd hw 107 rfl)) (mvT hZ (wd hw 108 rfl)) (mvT hZ (wd hw 86 rfl)) (mvT hZ (wd hw 109 rfl)) (by decide) (backOf (W := 0) (rm_gc_2_0 l Z a0 hw [] t_218 k_218 x0 ((x0 >>> ((0 : Int32) &&& 31)).toInt8.toInt32) ((x0 >>> ((8 : Int32) &&& 31)).toInt8.toInt32) ((x1 >>> ((0 : Int32) &&& 31)).toInt8.toInt32) ((x1 >>> ((8 : Int32) &&& 31)).toInt8.toInt32) h218 n0 nz218 f221 p218_0 (by first | assumption | decide | omega) (by first | assumption | decide | omega) (by first | assumption | decide | omega) (own_pair lb0.1 lb0.2)) hZ (wd hw 109 rfl) (wd hw 86 rfl) (by decide) (by decide)) (g := (mkF m 32 (la18 a2 o1 (2 : Int32) b214 (0 : Int32) t_218) [(.int 0), (.ref t_218)])) rfl (by rw [hml]; rfl) (argsL := [(.ref t_218), (.int 0)]) (rest := []) (lenOf pd_11 rfl) rfl (wz rfl) (hb hby d15_32) (fun _ _ => ⟨rfl, e218, (by decide : 2 + 0 ≤ _), (by decide : 6 + 0 ≤ _)⟩)
 dsimp only [Pt.U, Pt.locs, Pt.cells, Pt.slots] at X220 l220 y220 z220 st220 hQ220
 subst l220 y220 z220
 obtain ⟨rfl, N220q, e220⟩ := hQ220
 have N220 := Fr.app N218 N220q
 obtain ⟨fs, hr, hrun, hended, hW, hsame⟩ := X220.leave (v := some (.ref t_218)) (fun h => by rw [Bd.returns] at h; cases h)
 refine ⟨_, _, pre0 _ ?_, hrun, hended, _, _, rfl, ?_, ⟨_, rfl⟩, hW, hsame.mono (by decide) (by decide)⟩
 ·show GO p e below s₁ (mkF m 0 (la12 a2 o1 (2 : Int32)) []) _
  refine XS.iloadN X0.here hx rfl (hb hby d15_0) rfl ?_
  show GO p e below s₁ (mkF m 1 (la12 a2 o1 (2 : Int32)) [(.int 2)]) _
  refine st214 _ ?_
  show GO p e below T214 (mkF m 3 (la12 a2 o1 (2 : Int32)) [(.ref b214)]) _
  refine XS.astoreN X214.here hx rfl (hb hby d15_3) rfl rfl (l' := (la13 a2 o1 (2 : Int32) b214)) rfl ?_
  show GO p e below T214 (mkF m 4 (la13 a2 o1 (2 : Int32) b214) []) _
  refine XS.aloadN X214.here hx rfl (hb hby d15_4) rfl rfl ?_
  show GO p e below T214 (mkF m 5 (la13 a2 o1 (2 : Int32) b214) [(.ref a2)]) _
  refine XS.iloadN X214.here hx rfl (hb hby d15_5) rfl ?_
  show GO p e below T214 (mkF m 6 (la13 a2 o1 (2 : Int32) b214) [(.int o1), (.ref a2)]) _
  refine XS.aloadN X214.here hx rfl (hb hby d15_6) rfl rfl ?_
  show GO p e below T214 (mkF m 7 (la13 a2 o1 (2 : Int32) b214) [(.ref b214), (.int o1), (.ref a2)]) _
  refine XS.iconst X214.here hx rfl (hb hby d15_7) ?_
  show GO p e below T214 (mkF m 8 (la13 a2 o1 (2 : Int32) b214) [(.int 0), (.ref b214), (.int o1), (.ref a2)]) _
  refine XS.iloadN X214.here hx rfl (hb hby d15_8) rfl ?_
  show GO p e below T214 (mkF m 9 (la13 a2 o1 (2 : Int32) b214) [(.int 2), (.int 0), (.ref b214), (.int o1), (.ref a2)]) _
  refine st215 _ ?_
  show GO p e below T215 (mkF m 12 (la13 a2 o1 (2 : Int32) b214) [(.int 0)]) _
  refine XS.istore X215.here hx rfl (hb hby d15_12) rfl (l' := (la14 a2 o1 (2 : Int32) b214 (0 : Int32))) rfl ?_
  show GO p e below T215 (mkF m 14 (la14 a2 o1 (2 : Int32) b214 (0 : Int32)) []) _
  refine XS.iload X215.here hx rfl (hb hby d15_14) rfl ?_
  show GO p e below T215 (mkF m 16 (la14 a2 o1 (2 : Int32) b214 (0 : Int32)) [(.int 0)]) _
  refine XS.iloadN X215.here hx rfl (hb hby d15_16) rfl ?_
  show GO p e below T215 (mkF m 17 (la14 a2 o1 (2 : Int32) b214 (0 : Int32)) [(.int 2), (.int 0)]) _
  refine XS.icmpNo X215.here hx rfl (hb hby d15_17) rfl (feq ((by decide) : ¬ ((0 : Int32) = (2 : Int32)))).1 ?_
  show GO p e below T215 (mkF m 20 (la14 a2 o1 (2 : Int32) b214 (0 : Int32)) []) _
  refine XS.aloadN X215.here hx rfl (hb hby d15_20) rfl rfl ?_
  show GO p e below T215 (mkF m 21 (la14 a2 o1 (2 : Int32) b214 (0 : Int32)) [(.ref a2)]) _
  refine XS.iloadN X215.here hx rfl (hb hby d15_21) rfl ?_
  show GO p e below T215 (mkF m 22 (la14 a2 o1 (2 : Int32) b214 (0 : Int32)) [(.int o1), (.ref a2)]) _
  refine XS.iloadN X215.here hx rfl (hb hby d15_22) rfl ?_
  show GO p e below T215 (mkF m 23 (la14 a2 o1 (2 : Int32) b214 (0 : Int32)) [(.int 2), (.int o1), (.ref a2)]) _
  refine st218 _ ?_
  show GO p e below T218 (mkF m 26 (la14 a2 o1 (2 : Int32) b214 (0 : Int32)) [(.ref t_218)]) _
  refine XS.astore X218.here hx rfl (hb hby d15_26) rfl rfl (l' := (la18 a2 o1 (2 : Int32) b214 (0 : Int32) t_218)) rfl ?_
  show GO p e below T218 (mkF m 28 (la18 a2 o1 (2 : Int32) b214 (0 : Int32) t_218) []) _
  refine XS.aload X218.here hx rfl (hb hby d15_28) rfl rfl ?_
  show GO p e below T218 (mkF m 30 (la18 a2 o1 (2 : Int32) b214 (0 : Int32) t_218) [(.ref t_218)]) _
  refine XS.iload X218.here hx rfl (hb hby d15_30) rfl ?_
  show GO p e below T218 (mkF m 32 (la18 a2 o1 (2 : Int32) b214 (0 : Int32) t_218) [(.int 0), (.ref t_218)]) _
  refine st220 _ ?_
  show GO p e below T220 (mkF m 35 (la18 a2 o1 (2 : Int32) b214 (0 : Int32) t_218) [(.int x0)]) _
  refine XS.sipush X220.here hx rfl (hb hby d15_35) ?_
  show GO p e below T220 (mkF m 38 (la18 a2 o1 (2 : Int32) b214 (0 : Int32) t_218) [(.int 255), (.int x0)]) _
  refine XS.icmpYes X220.here hx rfl (pc0 := 38) (pc' := 54) rfl (hb hby d15_38) rfl (tlt (c0 : (255 : Int32) < x0)).2.2.1 (by decide) (by decide) ?_
  show GO p e below T220 (mkF m 54 (la18 a2 o1 (2 : Int32) b214 (0 : Int32) t_218) []) _
  refine XS.aload X220.here hx rfl (hb hby d15_54) rfl rfl ?_
  show GO p e below T220 (mkF m 56 (la18 a2 o1 (2 : Int32) b214 (0 : Int32) t_218) [(.ref t_218)]) _
  exact retOut X220 hx Bd.returns rfl (Or.inr (Or.inr (Or.inr (Or.inr ⟨rfl, rfl, rfl⟩)))) (hb hby d15_56) hr
 ·show Qrm_c3_2A Z a2 k2 vs2 o1 x0 x1 h0 n0 _ T220.heap _
  rw [e220]
  exact ⟨t_218, k_218, rfl, N220, (((Keep.refl h0 []).ext E214).trans K218 all0), p218_0, (by omega)⟩
def Qrm_ca_2_4 (Z : State) (d1 : Addr) (kd : ClassId) (v1 : List Value) (h0 : Heap) (n0 : Nat) (v : Option Value) (h : Heap) (L : List Loc) : Prop := v = some (.int 1) ∧ Fr n0 L ∧ h = h0
theorem ef_rm_ca_2_4 (m : MethodId) (x0 : Addr) (x1 : Int32) : entryFrame m #[(.ref x0), (.int x1)] 2 = mkF m 0 #[.val (.ref x0), .val (.int x1)] [] := by first | rfl | (simp [entryFrame, mkF, argsToLocals, Value.category]; done)
theorem rm_ca_2_4 (l : Launch) (Z : State) (a0 : Array Value) (hw : HW Z a0) (ws : List Jvm.Cond) (d1 : Addr) (kd : ClassId) (v1 : List Value) (h0 : Heap) (n0 : Nat) (Z0 : n0 ≤ h0.size) (Vd : Arv Z h0 d1 kd .byte (4 : Int32) v1 (.int 0)) :
  OwnM l Z h0 (⟨kS1, "coderFromArrayLen", "([BI)B"⟩ : MethodName) (Jvm.Cond.code (⟨kS1, "coderFromArrayLen", "([BI)B"⟩ : MethodName) jdk_52_method_15_code 2 (some .byte) :: ws) (RM 0 0 0 0) #[(.ref d1), (.int 2)] (Qrm_ca_2_4 Z d1 kd v1 h0 n0) := by
 refine MetFree.of_bodySF (plainFor_of_name pn_3) hisR ?_
 intro p e s m args below meth c s₁ Bd hml0 hP hK
 obtain ⟨rfl, hZ, hh⟩ := hP
 have hx := Bd.exec
 have hby := Bd.bytes
 have hml : c.maxLocals = 2 := hml0
 have hown : s.vm.findClass kS1 = some m.cls := findClass_of_methodNamed Bd.named
 have hnm := (name_of_methodNamed Bd.named Bd.method).1
 have X0 : Stand p l e (RM 0 0 0 0) s m #[(.ref d1), (.int 2)] below meth c s₁ [] 0 0 := Stand.of_body Bd
 have e0 : s₁.heap = h0 := by rw [← hh, Bd.state]; rfl
 have N0 := Fr.nil n0
 have pre0 : ∀ t, GO p e below s₁ (mkF m 0 #[.val (.ref d1), .val (.int 2)] []) t → GO p e below s₁ (entryFrame m #[(.ref d1), (.int 2)] 2) t := fun t k => castTop (ef_rm_ca_2_4 m d1 ((2 : Int32))) k
 have lt_Vd := ltA Vd.lt
 obtain ⟨cl222, Ar222, -, S222, M222, -, -⟩ := id Vd
 obtain ⟨fs, hr, hrun, hended, hW, hsame⟩ := X0.leave (v := some (.int (nar .byte (1 : Int32)))) (fun h => by rw [Bd.returns] at h; cases h)
 refine ⟨_, _, pre0 _ ?_, hrun, hended, _, _, rfl, ?_, ⟨_, rfl⟩, hW, hsame.mono (by decide) (by decide)⟩
 ·show GO p e below s₁ (mkF m 0 #[.val (.ref d1), .val (.int 2)] []) _
  refine XS.iloadN X0.here hx rfl (hb hby d22_0) rfl ?_
  show GO p e below s₁ (mkF m 1 #[.val (.ref d1), .val (.int 2)] [(.int 2)]) _
  refine XS.aloadN X0.here hx rfl (hb hby d22_1) rfl rfl ?_
  show GO p e below s₁ (mkF m 2 #[.val (.ref d1), .val (.int 2)] [(.ref d1), (.int 2)]) _
  refine X0.arraylength hx (by rw [e0]; exact Ar222.1) (State.isArrayOf_alike hZ.alike Ar222.2.1) (g := (mkF m 2 #[.val (.ref d1), .val (.int 2)] [(.ref d1), (.int 2)])) rfl rfl (hb hby d22_2) _ ?_
  rw [len_of S222 M222]
  show GO p e below s₁ (mkF m 3 #[.val (.ref d1), .val (.int 2)] [(.int 4), (.int 2)]) _
  refine XS.isub X0.here hx rfl (hb hby d22_3) rfl ?_
  rw [show ((2 : Int32) - (4 : Int32)) = (-2 : Int32) from by decide]
  show GO p e below s₁ (mkF m 4 #[.val (.ref d1), .val (.int 2)] [(.int (-2))]) _
  refine XS.bipush X0.here hx rfl (hb hby d22_4) ?_
  show GO p e below s₁ (mkF m 6 #[.val (.ref d1), .val (.int 2)] [(.int 31), (.int (-2))]) _
  refine XS.iushr X0.here hx rfl (hb hby d22_6) rfl ?_
  rw [show (((-2 : Int32).toUInt32 >>> ((31 : Int32) &&& 31).toUInt32).toInt32) = (1 : Int32) from by decide]
  show GO p e below s₁ (mkF m 7 #[.val (.ref d1), .val (.int 2)] [(.int 1)]) _
  refine XS.i2b X0.here hx rfl (hb hby d22_7) rfl ?_
  rw [show ((1 : Int32).toInt8.toInt32) = (1 : Int32) from by decide]
  show GO p e below s₁ (mkF m 8 #[.val (.ref d1), .val (.int 2)] [(.int 1)]) _
  exact retN X0 hx (t := .byte) Bd.returns (by simp) (hb hby d22_8) hr
 ·show Qrm_ca_2_4 Z d1 kd v1 h0 n0 _ s₁.heap _
  rw [e0]
  exact ⟨rfl, N0, rfl⟩
def Qrm_s4_2A (Z : State) (y1 : Addr) (w1 : Value) (w2 : Value) (a2 : Addr) (k2 : ClassId) (vs2 : List Value) (o1 : Int32) (x0 : Int32) (x1 : Int32) (z0 : Int32) (h0 : Heap) (n0 : Nat) (v : Option Value) (h : Heap) (L : List Loc) : Prop := ∃ t : Addr, ∃ k : ClassId, v = none ∧ Fr n0 L ∧ Keep h0 h [y1] ∧ Exa Z h y1 kS0 ∧ Fld Z h y1 kS0 "coder" "B" (.int 1) ∧ Fld Z h y1 kS0 "value" "[B" (.ref t) ∧ Arv Z h t k .byte (4 : Int32) [(.int ((x0 >>> ((0 : Int32) &&& 31)).toInt8.toInt32)), (.int ((x0 >>> ((8 : Int32) &&& 31)).toInt8.toInt32)), (.int ((x1 >>> ((0 : Int32) &&& 31)).toInt8.toInt32)), (.int ((x1 >>> ((8 : Int32) &&& 31)).toInt8.toInt32))] (.int 0) ∧ h0.size ≤ t
theorem ef_rm_s4_2A (m : MethodId) (x0 : Addr) (x1 : Addr) (x2 : Int32) (x3 : Int32) : entryFrame m #[(.ref x0), (.ref x1), (.int x2), (.int x3), .null] 6 = mkF m 0 (la15 x0 x1 x2 x3) [] := by first | rfl | (simp [entryFrame, mkF, argsToLocals, Value.category]; done)
theorem rm_s4_2A (l : Launch) (Z : State) (a0 : Array Value) (hw : HW Z a0) (ws : List Jvm.Cond) (y1 : Addr) (w1 : Value) (w2 : Value) (a2 : Addr) (k2 : ClassId) (vs2 : List Value) (o1 : Int32) (x0 : Int32) (x1 : Int32) (z0 : Int32) (h0 : Heap) (n0 : Nat) (Z0 : n0 ≤ h0.size) (O0 : Old Z n0 h0) (Es : Exa Z h0 y1 kS0) (Fv1 : Fld Z h0 y1 kS0 "value" "[B" w1) (Fc1 : Fld Z h0 y1 kS0 "coder" "B" w2) (V2 : Arv Z h0 a2 k2 .char (8 : Int32) vs2 (.int 0)) (SZc : Sta Z Z.heap kS0 "COMPACT_STRINGS" "Z" (.int z0)) (hz0 : ¬ z0 = 0) (SZad : Sta Z Z.heap kS1 "$assertionsDisabled" "Z" (.int 1)) (SZhi : Sta Z Z.heap kS1 "HI_BYTE_SHIFT" "I" (.int 0)) (SZlo : Sta Z Z.heap kS1 "LO_BYTE_SHIFT" "I" (.int 8)) (ob0 : (¬ o1 < 0 ∧ o1 < (8 : Int32))) (hx0 : vs2.getD (o1).toNatClampNeg (.int 0) = (.int x0)) (lb0 : (¬ x0 < 0 ∧ ¬ (65535 : Int32) < x0)) (ob1 : (¬ (o1 + (1 : Int32)) < 0 ∧ (o1 + (1 : Int32)) < (8 : Int32))) (hx1 : vs2.getD ((o1 + (1 : Int32))).toNatClampNeg (.int 0) = (.int x1)) (lb1 : (¬ x1 < 0 ∧ ¬ (65535 : Int32) < x1)) (c0 : (255 : Int32) < x0) (gy : n0 ≤ y1) :
  OwnM l Z h0 (⟨kS0, "<init>", "([CIILjava/lang/Void;)V"⟩ : MethodName) (Jvm.Cond.code (⟨kS0, "<init>", "([CIILjava/lang/Void;)V"⟩ : MethodName) jdk_42_method_149_code 6 none :: ws) (RM 4 2 6 57) #[(.ref y1), (.ref a2), (.int o1), (.int 2), .null] (Qrm_s4_2A Z y1 w1 w2 a2 k2 vs2 o1 x0 x1 z0 h0 n0) := by
 refine MetFree.of_bodySF (plainFor_of_name pn_2) hisR ?_
 intro p e s m args below meth c s₁ Bd hml0 hP hK
 obtain ⟨rfl, hZ, hh⟩ := hP
 have hx := Bd.exec
 have hby := Bd.bytes
 have hml : c.maxLocals = 6 := hml0
 have hown : s.vm.findClass kS0 = some m.cls := findClass_of_methodNamed Bd.named
 have hnm := (name_of_methodNamed Bd.named Bd.method).1
 have X0 : Stand p l e (RM 4 2 6 57) s m #[(.ref y1), (.ref a2), (.int o1), (.int 2), .null] below meth c s₁ [] 0 0 := Stand.of_body Bd
 have e0 : s₁.heap = h0 := by rw [← hh, Bd.state]; rfl
 have N0 := Fr.nil n0
 have pre0 : ∀ t, GO p e below s₁ (mkF m 0 (la15 y1 a2 o1 (2 : Int32)) []) t → GO p e below s₁ (entryFrame m #[(.ref y1), (.ref a2), (.int o1), (.int 2), .null] 6) t := fun t k => castTop (ef_rm_s4_2A m y1 a2 o1 ((2 : Int32))) k
 have lt_Es := ltA Es.lt
 have lt_Fv1 := ltA Fv1.lt
 have lt_Fc1 := ltA Fc1.lt
 have lt_V2 := ltA V2.lt
 obtain ⟨T223, X223, e223, st223⟩ := initO X0 hx hZ hown (wd hw 64 rfl) (wd hw 21 rfl) (wd hw 22 rfl) e0 (g := (mkF m 1 (la15 y1 a2 o1 (2 : Int32)) [(.ref y1)])) rfl (by rw [hml]; rfl) rfl (hb hby d12_1) (by decide) (W := 0) (wz rfl) (by decide)
 have S224 : Sta Z h0 kS0 "COMPACT_STRINGS" "Z" (.int z0) := SZc.ext O0.2
 obtain ⟨T225, X225, e225, st225⟩ := getS2 X223 hx hZ hown (host := "") (Or.inl (wd hw 83 rfl)) Via.refl e223 S224 (g := (mkF m 27 (la15 y1 a2 o1 (2 : Int32)) [])) rfl (hb hby d12_27)
 -- pc 36: StringUTF16.compress by rm_c3_2A
 obtain ⟨_, _, ⟨T226, L226, k226, n226⟩, -, X226, ⟨Lc226, hQ226, l226, y226, z226⟩, st226⟩ := Jvm.LawKit.callS X225 hx (y := (⟨kS1, "compress", "([CII)[B"⟩ : MethodName)) hown (mvT hZ (wd hw 84 rfl)) (mvT hZ (wd hw 85 rfl)) (mvT hZ (wd hw 86 rfl)) (mvT hZ (wd hw 87 rfl)) (by decide) (backOf (W := 0) (rm_c3_2A l Z a0 hw [] a2 k2 vs2 o1 x0 x1 h0 n0 Z0 O0 V2 (by first | assumption | decide | omega) (by first | assumption | decide | omega) (by first | assumption | decide | omega) (by first | assumption | decide | omega) (by first | assumption | decide | omega) (by first | assumption | decide | omega) (by first | assumption | decide | omega) (by first | assumption | decide | omega) (by first | assumption | decide | omega) (by first | assumption | decide | omega)) hZ (wd hw 87 rfl) (wd hw 86 rfl) (by decide) (by decide)) (g := (mkF m 36 (la15 y1 a2 o1 (2 : Int32)) [(.int 2), (.int o1), (.ref a2)])) rfl (by rw [hml]; rfl) (argsL := [(.ref a2), (.int o1), (.int 2)]) (rest := []) (lenOf pd_7 rfl) rfl (wz rfl) (hb hby d12_36) (fun _ _ => ⟨rfl, e225, (by decide : 0 + 2 ≤ _), (by decide : 0 + 6 ≤ _)⟩)
 dsimp only [Pt.U, Pt.locs, Pt.cells, Pt.slots] at X226 l226 y226 z226 st226 hQ226
 subst l226 y226 z226
 obtain ⟨h226, e226⟩ : ∃ z, T226.heap = z := ⟨_, rfl⟩
 rw [e226] at hQ226
 obtain ⟨t_226, k_226, rfl, N226q, K226, p226_0, r226_0⟩ := hQ226
 have N226 := Fr.app N0 N226q
 have sz226 : h0.size ≤ h226.size := K226.1
 have nz226 := Nat.le_trans Z0 sz226
 have lt226_0 := ltA p226_0.lt
 -- pc 45: StringUTF16.coderFromArrayLen by rm_ca_2_4
 obtain ⟨_, _, ⟨T227, L227, k227, n227⟩, -, X227, ⟨Lc227, hQ227, l227, y227, z227⟩, st227⟩ := Jvm.LawKit.callS X226 hx (y := (⟨kS1, "coderFromArrayLen", "([BI)B"⟩ : MethodName)) hown (mvT hZ (wd hw 110 rfl)) (mvT hZ (wd hw 111 rfl)) (mvT hZ (wd hw 86 rfl)) (mvT hZ (wd hw 112 rfl)) (by decide) (backOf (W := 1) (rm_ca_2_4 l Z a0 hw [] t_226 k_226 ([(.int ((x0 >>> ((0 : Int32) &&& 31)).toInt8.toInt32)), (.int ((x0 >>> ((8 : Int32) &&& 31)).toInt8.toInt32)), (.int ((x1 >>> ((0 : Int32) &&& 31)).toInt8.toInt32)), (.int ((x1 >>> ((8 : Int32) &&& 31)).toInt8.toInt32))]) h226 n0 nz226 p226_0) hZ (wd hw 112 rfl) (wd hw 86 rfl) (by decide) (by decide)) (g := (mkF m 45 (la16 y1 a2 o1 (2 : Int32) t_226) [(.int 2), (.ref t_226), (.ref y1)])) rfl (by rw [hml]; rfl) (argsL := [(.ref t_226), (.int 2)]) (rest := [(.ref y1)]) (lenOf pd_8 rfl) rfl (wz rfl) (hb hby d12_45) (fun _ _ => ⟨rfl, e226, (by decide : 2 + 0 ≤ _), (by decide : 6 + 0 ≤ _)⟩)
 dsimp only [Pt.U, Pt.locs, Pt.cells, Pt.slots] at X227 l227 y227 z227 st227 hQ227
 subst l227 y227 z227
 obtain ⟨rfl, N227q, e227⟩ := hQ227
 have N227 := Fr.app N226 N227q
 have f228 : Fld Z h226 y1 kS0 "coder" "B" w2 := (Fc1.keep K226 nin0)
 have f229 : Exa Z h226 y1 kS0 := (Es.keep K226)
 obtain ⟨T230, h230, X230, e230, W230, st230⟩ := putFN X227 hx hZ hown (wd hw 72 rfl) Via.refl e227 f228 f229 (Or.inr ⟨(wd hw 68 rfl), rfl, hnm⟩) (wd hw 45 rfl) (ty := .byte) (v' := (.int 1)) (by decide) rfl rfl (g := (mkF m 48 (la16 y1 a2 o1 (2 : Int32) t_226) [(.int 1), (.ref y1)])) rfl rfl (hb hby d12_48)
 have ge231 : n0 ≤ y1 := by omega
 have N230 := Fr.snoc X230 N227 ge231
 have f232 : Arv Z h226 a2 k2 .char (8 : Int32) vs2 (.int 0) := (V2.keep K226 nin0)
 have ne233 : y1 ≠ a2 := Exa.neArv f229 f232 (wd hw 45 rfl)
 have ne234 : y1 ≠ t_226 := Exa.neArv f229 p226_0 (wd hw 45 rfl)
 have sz230 : h226.size ≤ h230.size := Nat.le_of_eq W230.size.symm
 have nz230 := Nat.le_trans nz226 sz230
 have f230 : Fld Z h230 y1 kS0 "coder" "B" (.int 1) := f228.same W230
 have f235 : Fld Z h230 y1 kS0 "value" "[B" w1 := ((Fv1.keep K226 nin0).other W230 (Or.inr (slot_ne (Or.inr (wd hw 67 rfl)) (Or.inr (wd hw 68 rfl)) (by decide) (t := (.array .byte)) (t' := .byte) (by decide) (by decide))))
 have f236 : Exa Z h230 y1 kS0 := (f229.wr W230)
 obtain ⟨T237, h237, X237, e237, W237, st237⟩ := putF X230 hx hZ hown (host := "") (Or.inl (wd hw 71 rfl)) Via.refl e230 f235 f236 (Or.inr ⟨(wd hw 67 rfl), rfl, hnm⟩) (wd hw 45 rfl) (ty := (.array .byte)) (by decide) rfl rfl (g := (mkF m 54 (la16 y1 a2 o1 (2 : Int32) t_226) [(.ref t_226), (.ref y1)])) rfl rfl (hb hby d12_54)
 have N237 := Fr.snoc X237 N230 ge231
 have sz237 : h230.size ≤ h237.size := Nat.le_of_eq W237.size.symm
 have nz237 := Nat.le_trans nz230 sz237
 have f237 : Fld Z h237 y1 kS0 "value" "[B" (.ref t_226) := f235.same W237
 have f238 : Exa Z h237 y1 kS0 := (f236.wr W237)
 have f239 : Fld Z h237 y1 kS0 "coder" "B" (.int 1) := (f230.other W237 (Or.inr (slot_ne (Or.inr (wd hw 68 rfl)) (Or.inr (wd hw 67 rfl)) (by decide) (t := .byte) (t' := (.array .byte)) (by decide) (by decide))))
 have f240 : Arv Z h237 t_226 k_226 .byte (4 : Int32) [(.int ((x0 >>> ((0 : Int32) &&& 31)).toInt8.toInt32)), (.int ((x0 >>> ((8 : Int32) &&& 31)).toInt8.toInt32)), (.int ((x1 >>> ((0 : Int32) &&& 31)).toInt8.toInt32)), (.int ((x1 >>> ((8 : Int32) &&& 31)).toInt8.toInt32))] (.int 0) := ((p226_0.other W230 (Ne.symm ne234)).other W237 (Ne.symm ne234))
 obtain ⟨fs, hr, hrun, hended, hW, hsame⟩ := X237.leave (v := none) (fun _ => rfl)
 refine ⟨_, _, pre0 _ ?_, hrun, hended, _, _, rfl, ?_, ⟨_, rfl⟩, hW, hsame.mono (by decide) (by decide)⟩
 ·show GO p e below s₁ (mkF m 0 (la15 y1 a2 o1 (2 : Int32)) []) _
  refine XS.aloadN X0.here hx rfl (hb hby d12_0) rfl rfl ?_
  show GO p e below s₁ (mkF m 1 (la15 y1 a2 o1 (2 : Int32)) [(.ref y1)]) _
  refine st223 _ ?_
  show GO p e below T223 (mkF m 4 (la15 y1 a2 o1 (2 : Int32)) []) _
  refine XS.iloadN X223.here hx rfl (hb hby d12_4) rfl ?_
  show GO p e below T223 (mkF m 5 (la15 y1 a2 o1 (2 : Int32)) [(.int 2)]) _
  refine XS.ifYes X223.here hx rfl (pc0 := 5) (pc' := 27) rfl (hb hby d12_5) rfl ((if0 _ _).trans (feq ((by decide) : ¬ ((2 : Int32) = (0 : Int32)))).2) (by decide) (by decide) ?_
  show GO p e below T223 (mkF m 27 (la15 y1 a2 o1 (2 : Int32)) []) _
  refine st225 _ ?_
  show GO p e below T225 (mkF m 30 (la15 y1 a2 o1 (2 : Int32)) [(.int z0)]) _
  refine XS.ifNo X225.here hx rfl (hb hby d12_30) rfl ((if0 _ _).trans (feq ((by first | assumption | decide) : ¬ (z0 = (0 : Int32)))).1) ?_
  show GO p e below T225 (mkF m 33 (la15 y1 a2 o1 (2 : Int32)) []) _
  refine XS.aloadN X225.here hx rfl (hb hby d12_33) rfl rfl ?_
  show GO p e below T225 (mkF m 34 (la15 y1 a2 o1 (2 : Int32)) [(.ref a2)]) _
  refine XS.iloadN X225.here hx rfl (hb hby d12_34) rfl ?_
  show GO p e below T225 (mkF m 35 (la15 y1 a2 o1 (2 : Int32)) [(.int o1), (.ref a2)]) _
  refine XS.iloadN X225.here hx rfl (hb hby d12_35) rfl ?_
  show GO p e below T225 (mkF m 36 (la15 y1 a2 o1 (2 : Int32)) [(.int 2), (.int o1), (.ref a2)]) _
  refine st226 _ ?_
  show GO p e below T226 (mkF m 39 (la15 y1 a2 o1 (2 : Int32)) [(.ref t_226)]) _
  refine XS.astore X226.here hx rfl (hb hby d12_39) rfl rfl (l' := (la16 y1 a2 o1 (2 : Int32) t_226)) rfl ?_
  show GO p e below T226 (mkF m 41 (la16 y1 a2 o1 (2 : Int32) t_226) []) _
  refine XS.aloadN X226.here hx rfl (hb hby d12_41) rfl rfl ?_
  show GO p e below T226 (mkF m 42 (la16 y1 a2 o1 (2 : Int32) t_226) [(.ref y1)]) _
  refine XS.aload X226.here hx rfl (hb hby d12_42) rfl rfl ?_
  show GO p e below T226 (mkF m 44 (la16 y1 a2 o1 (2 : Int32) t_226) [(.ref t_226), (.ref y1)]) _
  refine XS.iloadN X226.here hx rfl (hb hby d12_44) rfl ?_
  show GO p e below T226 (mkF m 45 (la16 y1 a2 o1 (2 : Int32) t_226) [(.int 2), (.ref t_226), (.ref y1)]) _
  refine st227 _ ?_
  show GO p e below T227 (mkF m 48 (la16 y1 a2 o1 (2 : Int32) t_226) [(.int 1), (.ref y1)]) _
  refine st230 _ ?_
  show GO p e below T230 (mkF m 51 (la16 y1 a2 o1 (2 : Int32) t_226) []) _
  refine XS.aloadN X230.here hx rfl (hb hby d12_51) rfl rfl ?_
  show GO p e below T230 (mkF m 52 (la16 y1 a2 o1 (2 : Int32) t_226) [(.ref y1)]) _
  refine XS.aload X230.here hx rfl (hb hby d12_52) rfl rfl ?_
  show GO p e below T230 (mkF m 54 (la16 y1 a2 o1 (2 : Int32) t_226) [(.ref t_226), (.ref y1)]) _
  refine st237 _ ?_
  show GO p e below T237 (mkF m 57 (la16 y1 a2 o1 (2 : Int32) t_226) []) _
  exact X237.returnOut hx Bd.returns (hb hby d12_57) hr
 ·show Qrm_s4_2A Z y1 w1 w2 a2 k2 vs2 o1 x0 x1 z0 h0 n0 _ T237.heap _
  rw [e237]
  exact ⟨t_226, k_226, rfl, N237, ((((Keep.refl h0 [y1]).trans K226 all0).wr W230 (Or.inl (List.mem_of_getElem? (i := 0) rfl))).wr W237 (Or.inl (List.mem_of_getElem? (i := 0) rfl))), f238, f239, f237, f240, (by omega)⟩
def Qrm_s3_2A (Z : State) (y1 : Addr) (w1 : Value) (w2 : Value) (a2 : Addr) (k2 : ClassId) (vs2 : List Value) (o1 : Int32) (x0 : Int32) (x1 : Int32) (z0 : Int32) (f0 : Value) (h0 : Heap) (n0 : Nat) (v : Option Value) (h : Heap) (L : List Loc) : Prop := ∃ t : Addr, ∃ k : ClassId, v = none ∧ Fr n0 L ∧ Keep h0 h [y1] ∧ Exa Z h y1 kS0 ∧ Fld Z h y1 kS0 "coder" "B" (.int 1) ∧ Fld Z h y1 kS0 "value" "[B" (.ref t) ∧ Arv Z h t k .byte (4 : Int32) [(.int ((x0 >>> ((0 : Int32) &&& 31)).toInt8.toInt32)), (.int ((x0 >>> ((8 : Int32) &&& 31)).toInt8.toInt32)), (.int ((x1 >>> ((0 : Int32) &&& 31)).toInt8.toInt32)), (.int ((x1 >>> ((8 : Int32) &&& 31)).toInt8.toInt32))] (.int 0) ∧ h0.size ≤ t
theorem ef_rm_s3_2A (m : MethodId) (x0 : Addr) (x1 : Addr) (x2 : Int32) (x3 : Int32) : entryFrame m #[(.ref x0), (.ref x1), (.int x2), (.int x3)] 4 = mkF m 0 (la17 x0 x1 x2 x3) [] := by first | rfl | (simp [entryFrame, mkF, argsToLocals, Value.category]; done)
theorem rm_s3_2A (l : Launch) (Z : State) (a0 : Array Value) (hw : HW Z a0) (ws : List Jvm.Cond) (y1 : Addr) (w1 : Value) (w2 : Value) (a2 : Addr) (k2 : ClassId) (vs2 : List Value) (o1 : Int32) (x0 : Int32) (x1 : Int32) (z0 : Int32) (f0 : Value) (h0 : Heap) (n0 : Nat) (Z0 : n0 ≤ h0.size) (O0 : Old Z n0 h0) (Es : Exa Z h0 y1 kS0) (Fv1 : Fld Z h0 y1 kS0 "value" "[B" w1) (Fc1 : Fld Z h0 y1 kS0 "coder" "B" w2) (V2 : Arv Z h0 a2 k2 .char (8 : Int32) vs2 (.int 0)) (SZc : Sta Z Z.heap kS0 "COMPACT_STRINGS" "Z" (.int z0)) (hz0 : ¬ z0 = 0) (SZf : Sta Z Z.heap kS3 "SIOOBE_FORMATTER" "Ljava/util/function/BiFunction;" f0) (rf0 : f0.isRef = true) (hr1 : ¬ (((8 : Int32) ||| o1) ||| (2 : Int32)) < 0) (hr2 : ¬ ((8 : Int32) - o1) < (2 : Int32)) (SZad : Sta Z Z.heap kS1 "$assertionsDisabled" "Z" (.int 1)) (SZhi : Sta Z Z.heap kS1 "HI_BYTE_SHIFT" "I" (.int 0)) (SZlo : Sta Z Z.heap kS1 "LO_BYTE_SHIFT" "I" (.int 8)) (ob0 : (¬ o1 < 0 ∧ o1 < (8 : Int32))) (hx0 : vs2.getD (o1).toNatClampNeg (.int 0) = (.int x0)) (lb0 : (¬ x0 < 0 ∧ ¬ (65535 : Int32) < x0)) (ob1 : (¬ (o1 + (1 : Int32)) < 0 ∧ (o1 + (1 : Int32)) < (8 : Int32))) (hx1 : vs2.getD ((o1 + (1 : Int32))).toNatClampNeg (.int 0) = (.int x1)) (lb1 : (¬ x1 < 0 ∧ ¬ (65535 : Int32) < x1)) (c0 : (255 : Int32) < x0) (gy : n0 ≤ y1) :
  OwnM l Z h0 (⟨kS0, "<init>", "([CII)V"⟩ : MethodName) (Jvm.Cond.code (⟨kS0, "<init>", "([CII)V"⟩ : MethodName) jdk_42_method_4_code 4 none :: ws) (RM 5 2 6 74) #[(.ref y1), (.ref a2), (.int o1), (.int 2)] (Qrm_s3_2A Z y1 w1 w2 a2 k2 vs2 o1 x0 x1 z0 f0 h0 n0) := by
 refine MetFree.of_bodySF (plainFor_of_name pn_2) hisR ?_
 intro p e s m args below meth c s₁ Bd hml0 hP hK
 obtain ⟨rfl, hZ, hh⟩ := hP
 have hx := Bd.exec
 have hby := Bd.bytes
 have hml : c.maxLocals = 4 := hml0
 have hown : s.vm.findClass kS0 = some m.cls := findClass_of_methodNamed Bd.named
 have hnm := (name_of_methodNamed Bd.named Bd.method).1
 have X0 : Stand p l e (RM 5 2 6 74) s m #[(.ref y1), (.ref a2), (.int o1), (.int 2)] below meth c s₁ [] 0 0 := Stand.of_body Bd
 have e0 : s₁.heap = h0 := by rw [← hh, Bd.state]; rfl
 have N0 := Fr.nil n0
 have pre0 : ∀ t, GO p e below s₁ (mkF m 0 (la17 y1 a2 o1 (2 : Int32)) []) t → GO p e below s₁ (entryFrame m #[(.ref y1), (.ref a2), (.int o1), (.int 2)] 4) t := fun t k => castTop (ef_rm_s3_2A m y1 a2 o1 ((2 : Int32))) k
 have lt_Es := ltA Es.lt
 have lt_Fv1 := ltA Fv1.lt
 have lt_Fc1 := ltA Fc1.lt
 have lt_V2 := ltA V2.lt
 -- pc 7: String.rangeCheck by rm_rc
 obtain ⟨_, _, ⟨T241, L241, k241, n241⟩, -, X241, ⟨Lc241, hQ241, l241, y241, z241⟩, st241⟩ := Jvm.LawKit.callS X0 hx (y := (⟨kS0, "rangeCheck", "([CII)Ljava/lang/Void;"⟩ : MethodName)) hown (mvT hZ (wd hw 50 rfl)) (mvT hZ (wd hw 51 rfl)) (mvT hZ (wd hw 46 rfl)) (mvT hZ (wd hw 52 rfl)) (by decide) (backOf (W := 4) (rm_rc l Z a0 hw [] a2 k2 vs2 o1 (2 : Int32) (8 : Int32) f0 h0 n0 Z0 O0 V2 (by first | assumption | decide | omega) (by first | assumption | decide | omega) hr1 hr2) hZ (wd hw 52 rfl) (wd hw 46 rfl) (by decide) (by decide)) (g := (mkF m 7 (la17 y1 a2 o1 (2 : Int32)) [(.int 2), (.int o1), (.ref a2), (.int 2), (.int o1), (.ref a2), (.ref y1)])) rfl (by rw [hml]; rfl) (argsL := [(.ref a2), (.int o1), (.int 2)]) (rest := [(.int 2), (.int o1), (.ref a2), (.ref y1)]) (lenOf pd_9 rfl) rfl (wz rfl) (hb hby d8_7) (fun _ _ => ⟨rfl, e0, (by decide : 0 + 0 ≤ _), (by decide : 0 + 0 ≤ _)⟩)
 dsimp only [Pt.U, Pt.locs, Pt.cells, Pt.slots] at X241 l241 y241 z241 st241 hQ241
 subst l241 y241 z241
 obtain ⟨rfl, N241q, e241⟩ := hQ241
 have N241 := Fr.app N0 N241q
 -- pc 10: String.<init> by rm_s4_2A
 obtain ⟨_, _, ⟨T242, L242, k242, n242⟩, -, X242, ⟨Lc242, hQ242, l242, y242, z242⟩, st242⟩ := X241.specialBack hx (y := (⟨kS0, "<init>", "([CIILjava/lang/Void;)V"⟩ : MethodName)) rfl hown (mvT hZ (wd hw 60 rfl)) (mvT hZ (wd hw 61 rfl)) (mvT hZ (wd hw 63 rfl)) (by decide) (backOf (W := 0) (rm_s4_2A l Z a0 hw [] y1 w1 w2 a2 k2 vs2 o1 x0 x1 z0 h0 n0 Z0 O0 Es Fv1 Fc1 V2 (by first | assumption | decide | omega) (by first | assumption | decide | omega) (by first | assumption | decide | omega) (by first | assumption | decide | omega) (by first | assumption | decide | omega) (by first | assumption | decide | omega) (by first | assumption | decide | omega) (by first | assumption | decide | omega) (by first | assumption | decide | omega) (by first | assumption | decide | omega) (by first | assumption | decide | omega) (by first | assumption | decide | omega) (by first | assumption | decide | omega)) hZ (wd hw 63 rfl) (wd hw 46 rfl) (by decide) (by decide)) (g := (mkF m 10 (la17 y1 a2 o1 (2 : Int32)) [.null, (.int 2), (.int o1), (.ref a2), (.ref y1)])) rfl (by rw [hml]; rfl) (Steps.refl _) (a := y1) (argsL := [(.ref a2), (.int o1), (.int 2), .null]) (rest := []) (lenOf pd_10 rfl) rfl (wz rfl) (hb hby d8_10) (fun _ _ => ⟨rfl, e241, (by decide : 0 + 2 ≤ _), (by decide : 0 + 6 ≤ _)⟩)
 dsimp only [Pt.U, Pt.locs, Pt.cells, Pt.slots] at X242 l242 y242 z242 st242 hQ242
 subst l242 y242 z242
 obtain ⟨h242, e242⟩ : ∃ z, T242.heap = z := ⟨_, rfl⟩
 rw [e242] at hQ242
 obtain ⟨t_242, k_242, rfl, N242q, K242, p242_0, p242_1, p242_2, p242_3, r242_0⟩ := hQ242
 have N242 := Fr.app N241 N242q
 have ne243 : y1 ≠ a2 := Exa.neArv Es V2 (wd hw 45 rfl)
 have sz242 : h0.size ≤ h242.size := K242.1
 have nz242 := Nat.le_trans Z0 sz242
 have lt242_0 := ltA p242_0.lt
 have lt242_3 := ltA p242_3.lt
 obtain ⟨fs, hr, hrun, hended, hW, hsame⟩ := X242.leave (v := none) (fun _ => rfl)
 refine ⟨_, _, pre0 _ ?_, hrun, hended, _, _, rfl, ?_, ⟨_, rfl⟩, hW, hsame.mono (by decide) (by decide)⟩
 ·show GO p e below s₁ (mkF m 0 (la17 y1 a2 o1 (2 : Int32)) []) _
  refine XS.aloadN X0.here hx rfl (hb hby d8_0) rfl rfl ?_
  show GO p e below s₁ (mkF m 1 (la17 y1 a2 o1 (2 : Int32)) [(.ref y1)]) _
  refine XS.aloadN X0.here hx rfl (hb hby d8_1) rfl rfl ?_
  show GO p e below s₁ (mkF m 2 (la17 y1 a2 o1 (2 : Int32)) [(.ref a2), (.ref y1)]) _
  refine XS.iloadN X0.here hx rfl (hb hby d8_2) rfl ?_
  show GO p e below s₁ (mkF m 3 (la17 y1 a2 o1 (2 : Int32)) [(.int o1), (.ref a2), (.ref y1)]) _
  refine XS.iloadN X0.here hx rfl (hb hby d8_3) rfl ?_
  show GO p e below s₁ (mkF m 4 (la17 y1 a2 o1 (2 : Int32)) [(.int 2), (.int o1), (.ref a2), (.ref y1)]) _
  refine XS.aloadN X0.here hx rfl (hb hby d8_4) rfl rfl ?_
  show GO p e below s₁ (mkF m 5 (la17 y1 a2 o1 (2 : Int32)) [(.ref a2), (.int 2), (.int o1), (.ref a2), (.ref y1)]) _
  refine XS.iloadN X0.here hx rfl (hb hby d8_5) rfl ?_
  show GO p e below s₁ (mkF m 6 (la17 y1 a2 o1 (2 : Int32)) [(.int o1), (.ref a2), (.int 2), (.int o1), (.ref a2), (.ref y1)]) _
  refine XS.iloadN X0.here hx rfl (hb hby d8_6) rfl ?_
  show GO p e below s₁ (mkF m 7 (la17 y1 a2 o1 (2 : Int32)) [(.int 2), (.int o1), (.ref a2), (.int 2), (.int o1), (.ref a2), (.ref y1)]) _
  refine st241 _ ?_
  show GO p e below T241 (mkF m 10 (la17 y1 a2 o1 (2 : Int32)) [.null, (.int 2), (.int o1), (.ref a2), (.ref y1)]) _
  refine st242.trans ?_
  show GO p e below T242 (mkF m 13 (la17 y1 a2 o1 (2 : Int32)) []) _
  exact X242.returnOut hx Bd.returns (hb hby d8_13) hr
 ·show Qrm_s3_2A Z y1 w1 w2 a2 k2 vs2 o1 x0 x1 z0 f0 h0 n0 _ T242.heap _
  rw [e242]
  exact ⟨t_242, k_242, rfl, N242, ((Keep.refl h0 [y1]).trans K242 (allS (P := fun x => x ∈ _ ∨ _) (Or.inl (List.mem_of_getElem? (i := 0) rfl)) all0)), p242_0, p242_1, p242_2, p242_3, r242_0⟩
def Qrm_c3_2B (Z : State) (a2 : Addr) (k2 : ClassId) (vs2 : List Value) (o1 : Int32) (x0 : Int32) (x1 : Int32) (h0 : Heap) (n0 : Nat) (v : Option Value) (h : Heap) (L : List Loc) : Prop := ∃ t : Addr, ∃ k : ClassId, v = some (.ref t) ∧ Fr n0 L ∧ Keep h0 h [] ∧ Arv Z h t k .byte (4 : Int32) [(.int ((x0 >>> ((0 : Int32) &&& 31)).toInt8.toInt32)), (.int ((x0 >>> ((8 : Int32) &&& 31)).toInt8.toInt32)), (.int ((x1 >>> ((0 : Int32) &&& 31)).toInt8.toInt32)), (.int ((x1 >>> ((8 : Int32) &&& 31)).toInt8.toInt32))] (.int 0) ∧ h0.size ≤ t
theorem ef_rm_c3_2B (m : MethodId) (x0 : Addr) (x1 : Int32) (x2 : Int32) : entryFrame m #[(.ref x0), (.int x1), (.int x2)] 6 = mkF m 0 (la12 x0 x1 x2) [] := by first | rfl | (simp [entryFrame, mkF, argsToLocals, Value.category]; done)
theorem rm_c3_2B (l : Launch) (Z : State) (a0 : Array Value) (hw : HW Z a0) (ws : List Jvm.Cond) (a2 : Addr) (k2 : ClassId) (vs2 : List Value) (o1 : Int32) (x0 : Int32) (x1 : Int32) (h0 : Heap) (n0 : Nat) (Z0 : n0 ≤ h0.size) (O0 : Old Z n0 h0) (V2 : Arv Z h0 a2 k2 .char (8 : Int32) vs2 (.int 0)) (SZad : Sta Z Z.heap kS1 "$assertionsDisabled" "Z" (.int 1)) (SZhi : Sta Z Z.heap kS1 "HI_BYTE_SHIFT" "I" (.int 0)) (SZlo : Sta Z Z.heap kS1 "LO_BYTE_SHIFT" "I" (.int 8)) (ob0 : (¬ o1 < 0 ∧ o1 < (8 : Int32))) (hx0 : vs2.getD (o1).toNatClampNeg (.int 0) = (.int x0)) (lb0 : (¬ x0 < 0 ∧ ¬ (65535 : Int32) < x0)) (ob1 : (¬ (o1 + (1 : Int32)) < 0 ∧ (o1 + (1 : Int32)) < (8 : Int32))) (hx1 : vs2.getD ((o1 + (1 : Int32))).toNatClampNeg (.int 0) = (.int x1)) (lb1 : (¬ x1 < 0 ∧ ¬ (65535 : Int32) < x1)) (c0 : ¬ ((255 : Int32) < x0)) (c1 : (255 : Int32) < x1) :
  OwnM l Z h0 (⟨kS1, "compress", "([CII)[B"⟩ : MethodName) (Jvm.Cond.code (⟨kS1, "compress", "([CII)[B"⟩ : MethodName) jdk_52_method_16_code 6 (some (.array .byte)) :: ws) (RM 3 2 6 40) #[(.ref a2), (.int o1), (.int 2)] (Qrm_c3_2B Z a2 k2 vs2 o1 x0 x1 h0 n0) := by
 refine MetFree.of_bodySF (plainFor_of_name pn_3) hisR ?_
 intro p e s m args below meth c s₁ Bd hml0 hP hK
 obtain ⟨rfl, hZ, hh⟩ := hP
 have hx := Bd.exec
 have hby := Bd.bytes
 have hml : c.maxLocals = 6 := hml0
 have hown : s.vm.findClass kS1 = some m.cls := findClass_of_methodNamed Bd.named
 have hnm := (name_of_methodNamed Bd.named Bd.method).1
 have X0 : Stand p l e (RM 3 2 6 40) s m #[(.ref a2), (.int o1), (.int 2)] below meth c s₁ [] 0 0 := Stand.of_body Bd
 have e0 : s₁.heap = h0 := by rw [← hh, Bd.state]; rfl
 have N0 := Fr.nil n0
 have pre0 : ∀ t, GO p e below s₁ (mkF m 0 (la12 a2 o1 (2 : Int32)) []) t → GO p e below s₁ (entryFrame m #[(.ref a2), (.int o1), (.int 2)] 6) t := fun t k => castTop (ef_rm_c3_2B m a2 o1 ((2 : Int32))) k
 have lt_V2 := ltA V2.lt
 obtain ⟨T244, h244, k244, X244, e244, E244, A244, st244⟩ := newP X0 hx hZ (wd hw 66 rfl) e0 (g := (mkF m 1 (la12 a2 o1 (2 : Int32)) [(.int 2)])) rfl (hb hby d15_1) rfl (by decide) (cap := 2) (by decide) (by decide) (by decide) (by decide)
 obtain ⟨b244, g244⟩ : ∃ z, z = h0.size := ⟨_, rfl⟩
 rw [← g244] at A244 st244
 have sz244 : h0.size ≤ h244.size := E244.1
 have nz244 := Nat.le_trans Z0 sz244
 have lt244 := ltA A244.lt
 have V244 : Arv Z h244 b244 k244 .byte (2 : Int32) [(.int 0), (.int 0)] (.int 0) := (Arv.new A244 (by decide)).pad (pad_rep [] (.int 0) 2)
 -- pc 9: StringUTF16.compress by rm_c5_2B
 have f246 : Arv Z h244 a2 k2 .char (8 : Int32) vs2 (.int 0) := (V2.ext E244)
 have ne247 : a2 ≠ b244 := neN (by omega)
 obtain ⟨_, _, ⟨T245, L245, k245, n245⟩, -, X245, ⟨Lc245, hQ245, l245, y245, z245⟩, st245⟩ := Jvm.LawKit.callS X244 hx (y := (⟨kS1, "compress", "([CI[BII)I"⟩ : MethodName)) hown (mvT hZ (wd hw 88 rfl)) (mvT hZ (wd hw 89 rfl)) (mvT hZ (wd hw 86 rfl)) (mvT hZ (wd hw 90 rfl)) (by decide) (backOf (W := 0) (rm_c5_2B l Z a0 hw [] a2 k2 vs2 o1 x0 x1 b244 k244 h244 n0 nz244 f246 V244 (by first | assumption | decide | omega) (by first | assumption | decide | omega) (by first | assumption | decide | omega) (by first | assumption | decide | omega) (by first | assumption | decide | omega) (by first | assumption | decide | omega) (by first | assumption | decide | omega) (by first | assumption | decide | omega) (by first | assumption | decide | omega) ne247) hZ (wd hw 90 rfl) (wd hw 86 rfl) (by decide) (by decide)) (g := (mkF m 9 (la13 a2 o1 (2 : Int32) b244) [(.int 2), (.int 0), (.ref b244), (.int o1), (.ref a2)])) rfl (by rw [hml]; rfl) (argsL := [(.ref a2), (.int o1), (.ref b244), (.int 0), (.int 2)]) (rest := []) (lenOf pd_6 rfl) rfl (wz rfl) (hb hby d15_9) (fun _ _ => ⟨rfl, e244, (by decide : 1 + 0 ≤ _), (by decide : 2 + 0 ≤ _)⟩)
 dsimp only [Pt.U, Pt.locs, Pt.cells, Pt.slots] at X245 l245 y245 z245 st245 hQ245
 subst l245 y245 z245
 obtain ⟨h245, e245⟩ : ∃ z, T245.heap = z := ⟨_, rfl⟩
 rw [e245] at hQ245
 obtain ⟨rfl, N245q, K245, p245_0⟩ := hQ245
 have N245 := Fr.app N0 N245q
 have sz245 : h244.size ≤ h245.size := K245.1
 have nz245 := Nat.le_trans nz244 sz245
 have lt245_0 := ltA p245_0.lt
 -- pc 23: StringUTF16.toBytes by rm_tob2
 have ge249 : n0 ≤ b244 := by omega
 have f250 : Old Z n0 h245 := ((O0.ext E244).keep K245 (allS ge249 all0))
 have f251 : Arv Z h245 a2 k2 .char (8 : Int32) vs2 (.int 0) := (f246.keep K245 (ninS ne247 nin0))
 obtain ⟨_, _, ⟨T248, L248, k248, n248⟩, -, X248, ⟨Lc248, hQ248, l248, y248, z248⟩, st248⟩ := Jvm.LawKit.callS X245 hx (y := (⟨kS1, "toBytes", "([CII)[B"⟩ : MethodName)) hown (mvT hZ (wd hw 91 rfl)) (mvT hZ (wd hw 92 rfl)) (mvT hZ (wd hw 86 rfl)) (mvT hZ (wd hw 93 rfl)) (by decide) (backOf (W := 0) (rm_tob2 l Z a0 hw [] a2 k2 vs2 o1 x0 x1 h245 n0 nz245 f250 f251 (by first | assumption | decide | omega) (by first | assumption | decide | omega) (by first | assumption | decide | omega) (by first | assumption | decide | omega) (by first | assumption | decide | omega) (by first | assumption | decide | omega) (by first | assumption | decide | omega) (by first | assumption | decide | omega) (by first | assumption | decide | omega)) hZ (wd hw 93 rfl) (wd hw 86 rfl) (by decide) (by decide)) (g := (mkF m 23 (la14 a2 o1 (2 : Int32) b244 (1 : Int32)) [(.int 2), (.int o1), (.ref a2)])) rfl (by rw [hml]; rfl) (argsL := [(.ref a2), (.int o1), (.int 2)]) (rest := []) (lenOf pd_7 rfl) rfl (wz rfl) (hb hby d15_23) (fun _ _ => ⟨rfl, e245, (by decide : 1 + 1 ≤ _), (by decide : 2 + 4 ≤ _)⟩)
 dsimp only [Pt.U, Pt.locs, Pt.cells, Pt.slots] at X248 l248 y248 z248 st248 hQ248
 subst l248 y248 z248
 obtain ⟨h248, e248⟩ : ∃ z, T248.heap = z := ⟨_, rfl⟩
 rw [e248] at hQ248
 obtain ⟨t_248, k_248, rfl, N248q, K248, p248_0, r248_0⟩ := hQ248
 have N248 := Fr.app N245 N248q
 have sz248 : h245.size ≤ h248.size := K248.1
 have nz248 := Nat.le_trans nz245 sz248
 have lt248_0 := ltA p248_0.lt
 -- pc 32: StringUTF16.getChar by rm_gc_2_1
 have f253 : Old Z n0 h248 := (f250.keep K248 all0)
 obtain ⟨_, _, ⟨T252, L252, k252, n252⟩, -, X252, ⟨Lc252, hQ252, l252, y252, z252⟩, st252⟩ := Jvm.LawKit.callS X248 hx (y := (⟨kS1, "getChar", "([BI)C"⟩ : MethodName)) hown (mvT hZ (wd hw 107 rfl)) (mvT hZ (wd hw 108 rfl)) (mvT hZ (wd hw 86 rfl)) (mvT hZ (wd hw 109 rfl)) (by decide) (backOf (W := 0) (rm_gc_2_1 l Z a0 hw [] t_248 k_248 x1 ((x0 >>> ((0 : Int32) &&& 31)).toInt8.toInt32) ((x0 >>> ((8 : Int32) &&& 31)).toInt8.toInt32) ((x1 >>> ((0 : Int32) &&& 31)).toInt8.toInt32) ((x1 >>> ((8 : Int32) &&& 31)).toInt8.toInt32) h248 n0 nz248 f253 p248_0 (by first | assumption | decide | omega) (by first | assumption | decide | omega) (by first | assumption | decide | omega) (own_pair lb1.1 lb1.2)) hZ (wd hw 109 rfl) (wd hw 86 rfl) (by decide) (by decide)) (g := (mkF m 32 (la18 a2 o1 (2 : Int32) b244 (1 : Int32) t_248) [(.int 1), (.ref t_248)])) rfl (by rw [hml]; rfl) (argsL := [(.ref t_248), (.int 1)]) (rest := []) (lenOf pd_11 rfl) rfl (wz rfl) (hb hby d15_32) (fun _ _ => ⟨rfl, e248, (by decide : 2 + 0 ≤ _), (by decide : 6 + 0 ≤ _)⟩)
 dsimp only [Pt.U, Pt.locs, Pt.cells, Pt.slots] at X252 l252 y252 z252 st252 hQ252
 subst l252 y252 z252
 obtain ⟨rfl, N252q, e252⟩ := hQ252
 have N252 := Fr.app N248 N252q
 obtain ⟨fs, hr, hrun, hended, hW, hsame⟩ := X252.leave (v := some (.ref t_248)) (fun h => by rw [Bd.returns] at h; cases h)
 refine ⟨_, _, pre0 _ ?_, hrun, hended, _, _, rfl, ?_, ⟨_, rfl⟩, hW, hsame.mono (by decide) (by decide)⟩
 ·show GO p e below s₁ (mkF m 0 (la12 a2 o1 (2 : Int32)) []) _
  refine XS.iloadN X0.here hx rfl (hb hby d15_0) rfl ?_
  show GO p e below s₁ (mkF m 1 (la12 a2 o1 (2 : Int32)) [(.int 2)]) _
  refine st244 _ ?_
  show GO p e below T244 (mkF m 3 (la12 a2 o1 (2 : Int32)) [(.ref b244)]) _
  refine XS.astoreN X244.here hx rfl (hb hby d15_3) rfl rfl (l' := (la13 a2 o1 (2 : Int32) b244)) rfl ?_
  show GO p e below T244 (mkF m 4 (la13 a2 o1 (2 : Int32) b244) []) _
  refine XS.aloadN X244.here hx rfl (hb hby d15_4) rfl rfl ?_
  show GO p e below T244 (mkF m 5 (la13 a2 o1 (2 : Int32) b244) [(.ref a2)]) _
  refine XS.iloadN X244.here hx rfl (hb hby d15_5) rfl ?_
  show GO p e below T244 (mkF m 6 (la13 a2 o1 (2 : Int32) b244) [(.int o1), (.ref a2)]) _
  refine XS.aloadN X244.here hx rfl (hb hby d15_6) rfl rfl ?_
  show GO p e below T244 (mkF m 7 (la13 a2 o1 (2 : Int32) b244) [(.ref b244), (.int o1), (.ref a2)]) _
  refine XS.iconst X244.here hx rfl (hb hby d15_7) ?_
  show GO p e below T244 (mkF m 8 (la13 a2 o1 (2 : Int32) b244) [(.int 0), (.ref b244), (.int o1), (.ref a2)]) _
  refine XS.iloadN X244.here hx rfl (hb hby d15_8) rfl ?_
  show GO p e below T244 (mkF m 9 (la13 a2 o1 (2 : Int32) b244) [(.int 2), (.int 0), (.ref b244), (.int o1), (.ref a2)]) _
  refine st245 _ ?_
  show GO p e below T245 (mkF m 12 (la13 a2 o1 (2 : Int32) b244) [(.int 1)]) _
  refine XS.istore X245.here hx rfl (hb hby d15_12) rfl (l' := (la14 a2 o1 (2 : Int32) b244 (1 : Int32))) rfl ?_
  show GO p e below T245 (mkF m 14 (la14 a2 o1 (2 : Int32) b244 (1 : Int32)) []) _
  refine XS.iload X245.here hx rfl (hb hby d15_14) rfl ?_
  show GO p e below T245 (mkF m 16 (la14 a2 o1 (2 : Int32) b244 (1 : Int32)) [(.int 1)]) _
  refine XS.iloadN X245.here hx rfl (hb hby d15_16) rfl ?_
  show GO p e below T245 (mkF m 17 (la14 a2 o1 (2 : Int32) b244 (1 : Int32)) [(.int 2), (.int 1)]) _
  refine XS.icmpNo X245.here hx rfl (hb hby d15_17) rfl (feq ((by decide) : ¬ ((1 : Int32) = (2 : Int32)))).1 ?_
  show GO p e below T245 (mkF m 20 (la14 a2 o1 (2 : Int32) b244 (1 : Int32)) []) _
  refine XS.aloadN X245.here hx rfl (hb hby d15_20) rfl rfl ?_
  show GO p e below T245 (mkF m 21 (la14 a2 o1 (2 : Int32) b244 (1 : Int32)) [(.ref a2)]) _
  refine XS.iloadN X245.here hx rfl (hb hby d15_21) rfl ?_
  show GO p e below T245 (mkF m 22 (la14 a2 o1 (2 : Int32) b244 (1 : Int32)) [(.int o1), (.ref a2)]) _
  refine XS.iloadN X245.here hx rfl (hb hby d15_22) rfl ?_
  show GO p e below T245 (mkF m 23 (la14 a2 o1 (2 : Int32) b244 (1 : Int32)) [(.int 2), (.int o1), (.ref a2)]) _
  refine st248 _ ?_
  show GO p e below T248 (mkF m 26 (la14 a2 o1 (2 : Int32) b244 (1 : Int32)) [(.ref t_248)]) _
  refine XS.astore X248.here hx rfl (hb hby d15_26) rfl rfl (l' := (la18 a2 o1 (2 : Int32) b244 (1 : Int32) t_248)) rfl ?_
  show GO p e below T248 (mkF m 28 (la18 a2 o1 (2 : Int32) b244 (1 : Int32) t_248) []) _
  refine XS.aload X248.here hx rfl (hb hby d15_28) rfl rfl ?_
  show GO p e below T248 (mkF m 30 (la18 a2 o1 (2 : Int32) b244 (1 : Int32) t_248) [(.ref t_248)]) _
  refine XS.iload X248.here hx rfl (hb hby d15_30) rfl ?_
  show GO p e below T248 (mkF m 32 (la18 a2 o1 (2 : Int32) b244 (1 : Int32) t_248) [(.int 1), (.ref t_248)]) _
  refine st252 _ ?_
  show GO p e below T252 (mkF m 35 (la18 a2 o1 (2 : Int32) b244 (1 : Int32) t_248) [(.int x1)]) _
  refine XS.sipush X252.here hx rfl (hb hby d15_35) ?_
  show GO p e below T252 (mkF m 38 (la18 a2 o1 (2 : Int32) b244 (1 : Int32) t_248) [(.int 255), (.int x1)]) _
  refine XS.icmpYes X252.here hx rfl (pc0 := 38) (pc' := 54) rfl (hb hby d15_38) rfl (tlt (c1 : (255 : Int32) < x1)).2.2.1 (by decide) (by decide) ?_
  show GO p e below T252 (mkF m 54 (la18 a2 o1 (2 : Int32) b244 (1 : Int32) t_248) []) _
  refine XS.aload X252.here hx rfl (hb hby d15_54) rfl rfl ?_
  show GO p e below T252 (mkF m 56 (la18 a2 o1 (2 : Int32) b244 (1 : Int32) t_248) [(.ref t_248)]) _
  exact retOut X252 hx Bd.returns rfl (Or.inr (Or.inr (Or.inr (Or.inr ⟨rfl, rfl, rfl⟩)))) (hb hby d15_56) hr
 ·show Qrm_c3_2B Z a2 k2 vs2 o1 x0 x1 h0 n0 _ T252.heap _
  rw [e252]
  exact ⟨t_248, k_248, rfl, N252, ((((Keep.refl h0 []).ext E244).trans K245 (allS (P := fun x => x ∈ _ ∨ _) (Or.inr (by omega)) all0)).trans K248 all0), p248_0, (by omega)⟩
def Qrm_s4_2B (Z : State) (y1 : Addr) (w1 : Value) (w2 : Value) (a2 : Addr) (k2 : ClassId) (vs2 : List Value) (o1 : Int32) (x0 : Int32) (x1 : Int32) (z0 : Int32) (h0 : Heap) (n0 : Nat) (v : Option Value) (h : Heap) (L : List Loc) : Prop := ∃ t : Addr, ∃ k : ClassId, v = none ∧ Fr n0 L ∧ Keep h0 h [y1] ∧ Exa Z h y1 kS0 ∧ Fld Z h y1 kS0 "coder" "B" (.int 1) ∧ Fld Z h y1 kS0 "value" "[B" (.ref t) ∧ Arv Z h t k .byte (4 : Int32) [(.int ((x0 >>> ((0 : Int32) &&& 31)).toInt8.toInt32)), (.int ((x0 >>> ((8 : Int32) &&& 31)).toInt8.toInt32)), (.int ((x1 >>> ((0 : Int32) &&& 31)).toInt8.toInt32)), (.int ((x1 >>> ((8 : Int32) &&& 31)).toInt8.toInt32))] (.int 0) ∧ h0.size ≤ t
theorem ef_rm_s4_2B (m : MethodId) (x0 : Addr) (x1 : Addr) (x2 : Int32) (x3 : Int32) : entryFrame m #[(.ref x0), (.ref x1), (.int x2), (.int x3), .null] 6 = mkF m 0 (la15 x0 x1 x2 x3) [] := by first | rfl | (simp [entryFrame, mkF, argsToLocals, Value.category]; done)
theorem rm_s4_2B (l : Launch) (Z : State) (a0 : Array Value) (hw : HW Z a0) (ws : List Jvm.Cond) (y1 : Addr) (w1 : Value) (w2 : Value) (a2 : Addr) (k2 : ClassId) (vs2 : List Value) (o1 : Int32) (x0 : Int32) (x1 : Int32) (z0 : Int32) (h0 : Heap) (n0 : Nat) (Z0 : n0 ≤ h0.size) (O0 : Old Z n0 h0) (Es : Exa Z h0 y1 kS0) (Fv1 : Fld Z h0 y1 kS0 "value" "[B" w1) (Fc1 : Fld Z h0 y1 kS0 "coder" "B" w2) (V2 : Arv Z h0 a2 k2 .char (8 : Int32) vs2 (.int 0)) (SZc : Sta Z Z.heap kS0 "COMPACT_STRINGS" "Z" (.int z0)) (hz0 : ¬ z0 = 0) (SZad : Sta Z Z.heap kS1 "$assertionsDisabled" "Z" (.int 1)) (SZhi : Sta Z Z.heap kS1 "HI_BYTE_SHIFT" "I" (.int 0)) (SZlo : Sta Z Z.heap kS1 "LO_BYTE_SHIFT" "I" (.int 8)) (ob0 : (¬ o1 < 0 ∧ o1 < (8 : Int32))) (hx0 : vs2.getD (o1).toNatClampNeg (.int 0) = (.int x0)) (lb0 : (¬ x0 < 0 ∧ ¬ (65535 : Int32) < x0)) (ob1 : (¬ (o1 + (1 : Int32)) < 0 ∧ (o1 + (1 : Int32)) < (8 : Int32))) (hx1 : vs2.getD ((o1 + (1 : Int32))).toNatClampNeg (.int 0) = (.int x1)) (lb1 : (¬ x1 < 0 ∧ ¬ (65535 : Int32) < x1)) (c0 : ¬ ((255 : Int32) < x0)) (c1 : (255 : Int32) < x1) (gy : n0 ≤ y1) :
  OwnM l Z h0 (⟨kS0, "<init>", "([CIILjava/lang/Void;)V"⟩ : MethodName) (Jvm.Cond.code (⟨kS0, "<init>", "([CIILjava/lang/Void;)V"⟩ : MethodName) jdk_42_method_149_code 6 none :: ws) (RM 4 2 6 57) #[(.ref y1), (.ref a2), (.int o1), (.int 2), .null] (Qrm_s4_2B Z y1 w1 w2 a2 k2 vs2 o1 x0 x1 z0 h0 n0) := by
 refine MetFree.of_bodySF (plainFor_of_name pn_2) hisR ?_
 intro p e s m args below meth c s₁ Bd hml0 hP hK
 obtain ⟨rfl, hZ, hh⟩ := hP
 have hx := Bd.exec
 have hby := Bd.bytes
 have hml : c.maxLocals = 6 := hml0
 have hown : s.vm.findClass kS0 = some m.cls := findClass_of_methodNamed Bd.named
 have hnm := (name_of_methodNamed Bd.named Bd.method).1
 have X0 : Stand p l e (RM 4 2 6 57) s m #[(.ref y1), (.ref a2), (.int o1), (.int 2), .null] below meth c s₁ [] 0 0 := Stand.of_body Bd
 have e0 : s₁.heap = h0 := by rw [← hh, Bd.state]; rfl
 have N0 := Fr.nil n0
 have pre0 : ∀ t, GO p e below s₁ (mkF m 0 (la15 y1 a2 o1 (2 : Int32)) []) t → GO p e below s₁ (entryFrame m #[(.ref y1), (.ref a2), (.int o1), (.int 2), .null] 6) t := fun t k => castTop (ef_rm_s4_2B m y1 a2 o1 ((2 : Int32))) k
 have lt_Es := ltA Es.lt
 have lt_Fv1 := ltA Fv1.lt
 have lt_Fc1 := ltA Fc1.lt
 have lt_V2 := ltA V2.lt
 obtain ⟨T254, X254, e254, st254⟩ := initO X0 hx hZ hown (wd hw 64 rfl) (wd hw 21 rfl) (wd hw 22 rfl) e0 (g := (mkF m 1 (la15 y1 a2 o1 (2 : Int32)) [(.ref y1)])) rfl (by rw [hml]; rfl) rfl (hb hby d12_1) (by decide) (W := 0) (wz rfl) (by decide)
 have S255 : Sta Z h0 kS0 "COMPACT_STRINGS" "Z" (.int z0) := SZc.ext O0.2
 obtain ⟨T256, X256, e256, st256⟩ := getS2 X254 hx hZ hown (host := "") (Or.inl (wd hw 83 rfl)) Via.refl e254 S255 (g := (mkF m 27 (la15 y1 a2 o1 (2 : Int32)) [])) rfl (hb hby d12_27)
 -- pc 36: StringUTF16.compress by rm_c3_2B
 obtain ⟨_, _, ⟨T257, L257, k257, n257⟩, -, X257, ⟨Lc257, hQ257, l257, y257, z257⟩, st257⟩ := Jvm.LawKit.callS X256 hx (y := (⟨kS1, "compress", "([CII)[B"⟩ : MethodName)) hown (mvT hZ (wd hw 84 rfl)) (mvT hZ (wd hw 85 rfl)) (mvT hZ (wd hw 86 rfl)) (mvT hZ (wd hw 87 rfl)) (by decide) (backOf (W := 0) (rm_c3_2B l Z a0 hw [] a2 k2 vs2 o1 x0 x1 h0 n0 Z0 O0 V2 (by first | assumption | decide | omega) (by first | assumption | decide | omega) (by first | assumption | decide | omega) (by first | assumption | decide | omega) (by first | assumption | decide | omega) (by first | assumption | decide | omega) (by first | assumption | decide | omega) (by first | assumption | decide | omega) (by first | assumption | decide | omega) (by first | assumption | decide | omega) (by first | assumption | decide | omega)) hZ (wd hw 87 rfl) (wd hw 86 rfl) (by decide) (by decide)) (g := (mkF m 36 (la15 y1 a2 o1 (2 : Int32)) [(.int 2), (.int o1), (.ref a2)])) rfl (by rw [hml]; rfl) (argsL := [(.ref a2), (.int o1), (.int 2)]) (rest := []) (lenOf pd_7 rfl) rfl (wz rfl) (hb hby d12_36) (fun _ _ => ⟨rfl, e256, (by decide : 0 + 2 ≤ _), (by decide : 0 + 6 ≤ _)⟩)
 dsimp only [Pt.U, Pt.locs, Pt.cells, Pt.slots] at X257 l257 y257 z257 st257 hQ257
 subst l257 y257 z257
 obtain ⟨h257, e257⟩ : ∃ z, T257.heap = z := ⟨_, rfl⟩
 rw [e257] at hQ257
 obtain ⟨t_257, k_257, rfl, N257q, K257, p257_0, r257_0⟩ := hQ257
 have N257 := Fr.app N0 N257q
 have sz257 : h0.size ≤ h257.size := K257.1
 have nz257 := Nat.le_trans Z0 sz257
 have lt257_0 := ltA p257_0.lt
 -- pc 45: StringUTF16.coderFromArrayLen by rm_ca_2_4
 obtain ⟨_, _, ⟨T258, L258, k258, n258⟩, -, X258, ⟨Lc258, hQ258, l258, y258, z258⟩, st258⟩ := Jvm.LawKit.callS X257 hx (y := (⟨kS1, "coderFromArrayLen", "([BI)B"⟩ : MethodName)) hown (mvT hZ (wd hw 110 rfl)) (mvT hZ (wd hw 111 rfl)) (mvT hZ (wd hw 86 rfl)) (mvT hZ (wd hw 112 rfl)) (by decide) (backOf (W := 1) (rm_ca_2_4 l Z a0 hw [] t_257 k_257 ([(.int ((x0 >>> ((0 : Int32) &&& 31)).toInt8.toInt32)), (.int ((x0 >>> ((8 : Int32) &&& 31)).toInt8.toInt32)), (.int ((x1 >>> ((0 : Int32) &&& 31)).toInt8.toInt32)), (.int ((x1 >>> ((8 : Int32) &&& 31)).toInt8.toInt32))]) h257 n0 nz257 p257_0) hZ (wd hw 112 rfl) (wd hw 86 rfl) (by decide) (by decide)) (g := (mkF m 45 (la16 y1 a2 o1 (2 : Int32) t_257) [(.int 2), (.ref t_257), (.ref y1)])) rfl (by rw [hml]; rfl) (argsL := [(.ref t_257), (.int 2)]) (rest := [(.ref y1)]) (lenOf pd_8 rfl) rfl (wz rfl) (hb hby d12_45) (fun _ _ => ⟨rfl, e257, (by decide : 2 + 0 ≤ _), (by decide : 6 + 0 ≤ _)⟩)
 dsimp only [Pt.U, Pt.locs, Pt.cells, Pt.slots] at X258 l258 y258 z258 st258 hQ258
 subst l258 y258 z258
 obtain ⟨rfl, N258q, e258⟩ := hQ258
 have N258 := Fr.app N257 N258q
 have f259 : Fld Z h257 y1 kS0 "coder" "B" w2 := (Fc1.keep K257 nin0)
 have f260 : Exa Z h257 y1 kS0 := (Es.keep K257)
 obtain ⟨T261, h261, X261, e261, W261, st261⟩ := putFN X258 hx hZ hown (wd hw 72 rfl) Via.refl e258 f259 f260 (Or.inr ⟨(wd hw 68 rfl), rfl, hnm⟩) (wd hw 45 rfl) (ty := .byte) (v' := (.int 1)) (by decide) rfl rfl (g := (mkF m 48 (la16 y1 a2 o1 (2 : Int32) t_257) [(.int 1), (.ref y1)])) rfl rfl (hb hby d12_48)
 have ge262 : n0 ≤ y1 := by omega
 have N261 := Fr.snoc X261 N258 ge262
 have f263 : Arv Z h257 a2 k2 .char (8 : Int32) vs2 (.int 0) := (V2.keep K257 nin0)
 have ne264 : y1 ≠ a2 := Exa.neArv f260 f263 (wd hw 45 rfl)
 have ne265 : y1 ≠ t_257 := Exa.neArv f260 p257_0 (wd hw 45 rfl)
 have sz261 : h257.size ≤ h261.size := Nat.le_of_eq W261.size.symm
 have nz261 := Nat.le_trans nz257 sz261
 have f261 : Fld Z h261 y1 kS0 "coder" "B" (.int 1) := f259.same W261
 have f266 : Fld Z h261 y1 kS0 "value" "[B" w1 := ((Fv1.keep K257 nin0).other W261 (Or.inr (slot_ne (Or.inr (wd hw 67 rfl)) (Or.inr (wd hw 68 rfl)) (by decide) (t := (.array .byte)) (t' := .byte) (by decide) (by decide))))
 have f267 : Exa Z h261 y1 kS0 := (f260.wr W261)
 obtain ⟨T268, h268, X268, e268, W268, st268⟩ := putF X261 hx hZ hown (host := "") (Or.inl (wd hw 71 rfl)) Via.refl e261 f266 f267 (Or.inr ⟨(wd hw 67 rfl), rfl, hnm⟩) (wd hw 45 rfl) (ty := (.array .byte)) (by decide) rfl rfl (g := (mkF m 54 (la16 y1 a2 o1 (2 : Int32) t_257) [(.ref t_257), (.ref y1)])) rfl rfl (hb hby d12_54)
 have N268 := Fr.snoc X268 N261 ge262
 have sz268 : h261.size ≤ h268.size := Nat.le_of_eq W268.size.symm
 have nz268 := Nat.le_trans nz261 sz268
 have f268 : Fld Z h268 y1 kS0 "value" "[B" (.ref t_257) := f266.same W268
 have f269 : Exa Z h268 y1 kS0 := (f267.wr W268)
 have f270 : Fld Z h268 y1 kS0 "coder" "B" (.int 1) := (f261.other W268 (Or.inr (slot_ne (Or.inr (wd hw 68 rfl)) (Or.inr (wd hw 67 rfl)) (by decide) (t := .byte) (t' := (.array .byte)) (by decide) (by decide))))
 have f271 : Arv Z h268 t_257 k_257 .byte (4 : Int32) [(.int ((x0 >>> ((0 : Int32) &&& 31)).toInt8.toInt32)), (.int ((x0 >>> ((8 : Int32) &&& 31)).toInt8.toInt32)), (.int ((x1 >>> ((0 : Int32) &&& 31)).toInt8.toInt32)), (.int ((x1 >>> ((8 : Int32) &&& 31)).toInt8.toInt32))] (.int 0) := ((p257_0.other W261 (Ne.symm ne265)).other W268 (Ne.symm ne265))
 obtain ⟨fs, hr, hrun, hended, hW, hsame⟩ := X268.leave (v := none) (fun _ => rfl)
 refine ⟨_, _, pre0 _ ?_, hrun, hended, _, _, rfl, ?_, ⟨_, rfl⟩, hW, hsame.mono (by decide) (by decide)⟩
 ·show GO p e below s₁ (mkF m 0 (la15 y1 a2 o1 (2 : Int32)) []) _
  refine XS.aloadN X0.here hx rfl (hb hby d12_0) rfl rfl ?_
  show GO p e below s₁ (mkF m 1 (la15 y1 a2 o1 (2 : Int32)) [(.ref y1)]) _
  refine st254 _ ?_
  show GO p e below T254 (mkF m 4 (la15 y1 a2 o1 (2 : Int32)) []) _
  refine XS.iloadN X254.here hx rfl (hb hby d12_4) rfl ?_
  show GO p e below T254 (mkF m 5 (la15 y1 a2 o1 (2 : Int32)) [(.int 2)]) _
  refine XS.ifYes X254.here hx rfl (pc0 := 5) (pc' := 27) rfl (hb hby d12_5) rfl ((if0 _ _).trans (feq ((by decide) : ¬ ((2 : Int32) = (0 : Int32)))).2) (by decide) (by decide) ?_
  show GO p e below T254 (mkF m 27 (la15 y1 a2 o1 (2 : Int32)) []) _
  refine st256 _ ?_
  show GO p e below T256 (mkF m 30 (la15 y1 a2 o1 (2 : Int32)) [(.int z0)]) _
  refine XS.ifNo X256.here hx rfl (hb hby d12_30) rfl ((if0 _ _).trans (feq ((by first | assumption | decide) : ¬ (z0 = (0 : Int32)))).1) ?_
  show GO p e below T256 (mkF m 33 (la15 y1 a2 o1 (2 : Int32)) []) _
  refine XS.aloadN X256.here hx rfl (hb hby d12_33) rfl rfl ?_
  show GO p e below T256 (mkF m 34 (la15 y1 a2 o1 (2 : Int32)) [(.ref a2)]) _
  refine XS.iloadN X256.here hx rfl (hb hby d12_34) rfl ?_
  show GO p e below T256 (mkF m 35 (la15 y1 a2 o1 (2 : Int32)) [(.int o1), (.ref a2)]) _
  refine XS.iloadN X256.here hx rfl (hb hby d12_35) rfl ?_
  show GO p e below T256 (mkF m 36 (la15 y1 a2 o1 (2 : Int32)) [(.int 2), (.int o1), (.ref a2)]) _
  refine st257 _ ?_
  show GO p e below T257 (mkF m 39 (la15 y1 a2 o1 (2 : Int32)) [(.ref t_257)]) _
  refine XS.astore X257.here hx rfl (hb hby d12_39) rfl rfl (l' := (la16 y1 a2 o1 (2 : Int32) t_257)) rfl ?_
  show GO p e below T257 (mkF m 41 (la16 y1 a2 o1 (2 : Int32) t_257) []) _
  refine XS.aloadN X257.here hx rfl (hb hby d12_41) rfl rfl ?_
  show GO p e below T257 (mkF m 42 (la16 y1 a2 o1 (2 : Int32) t_257) [(.ref y1)]) _
  refine XS.aload X257.here hx rfl (hb hby d12_42) rfl rfl ?_
  show GO p e below T257 (mkF m 44 (la16 y1 a2 o1 (2 : Int32) t_257) [(.ref t_257), (.ref y1)]) _
  refine XS.iloadN X257.here hx rfl (hb hby d12_44) rfl ?_
  show GO p e below T257 (mkF m 45 (la16 y1 a2 o1 (2 : Int32) t_257) [(.int 2), (.ref t_257), (.ref y1)]) _
  refine st258 _ ?_
  show GO p e below T258 (mkF m 48 (la16 y1 a2 o1 (2 : Int32) t_257) [(.int 1), (.ref y1)]) _
  refine st261 _ ?_
  show GO p e below T261 (mkF m 51 (la16 y1 a2 o1 (2 : Int32) t_257) []) _
  refine XS.aloadN X261.here hx rfl (hb hby d12_51) rfl rfl ?_
  show GO p e below T261 (mkF m 52 (la16 y1 a2 o1 (2 : Int32) t_257) [(.ref y1)]) _
  refine XS.aload X261.here hx rfl (hb hby d12_52) rfl rfl ?_
  show GO p e below T261 (mkF m 54 (la16 y1 a2 o1 (2 : Int32) t_257) [(.ref t_257), (.ref y1)]) _
  refine st268 _ ?_
  show GO p e below T268 (mkF m 57 (la16 y1 a2 o1 (2 : Int32) t_257) []) _
  exact X268.returnOut hx Bd.returns (hb hby d12_57) hr
 ·show Qrm_s4_2B Z y1 w1 w2 a2 k2 vs2 o1 x0 x1 z0 h0 n0 _ T268.heap _
  rw [e268]
  exact ⟨t_257, k_257, rfl, N268, ((((Keep.refl h0 [y1]).trans K257 all0).wr W261 (Or.inl (List.mem_of_getElem? (i := 0) rfl))).wr W268 (Or.inl (List.mem_of_getElem? (i := 0) rfl))), f269, f270, f268, f271, (by omega)⟩
def Qrm_s3_2B (Z : State) (y1 : Addr) (w1 : Value) (w2 : Value) (a2 : Addr) (k2 : ClassId) (vs2 : List Value) (o1 : Int32) (x0 : Int32) (x1 : Int32) (z0 : Int32) (f0 : Value) (h0 : Heap) (n0 : Nat) (v : Option Value) (h : Heap) (L : List Loc) : Prop := ∃ t : Addr, ∃ k : ClassId, v = none ∧ Fr n0 L ∧ Keep h0 h [y1] ∧ Exa Z h y1 kS0 ∧ Fld Z h y1 kS0 "coder" "B" (.int 1) ∧ Fld Z h y1 kS0 "value" "[B" (.ref t) ∧ Arv Z h t k .byte (4 : Int32) [(.int ((x0 >>> ((0 : Int32) &&& 31)).toInt8.toInt32)), (.int ((x0 >>> ((8 : Int32) &&& 31)).toInt8.toInt32)), (.int ((x1 >>> ((0 : Int32) &&& 31)).toInt8.toInt32)), (.int ((x1 >>> ((8 : Int32) &&& 31)).toInt8.toInt32))] (.int 0) ∧ h0.size ≤ t
theorem ef_rm_s3_2B (m : MethodId) (x0 : Addr) (x1 : Addr) (x2 : Int32) (x3 : Int32) : entryFrame m #[(.ref x0), (.ref x1), (.int x2), (.int x3)] 4 = mkF m 0 (la17 x0 x1 x2 x3) [] := by first | rfl | (simp [entryFrame, mkF, argsToLocals, Value.category]; done)
theorem rm_s3_2B (l : Launch) (Z : State) (a0 : Array Value) (hw : HW Z a0) (ws : List Jvm.Cond) (y1 : Addr) (w1 : Value) (w2 : Value) (a2 : Addr) (k2 : ClassId) (vs2 : List Value) (o1 : Int32) (x0 : Int32) (x1 : Int32) (z0 : Int32) (f0 : Value) (h0 : Heap) (n0 : Nat) (Z0 : n0 ≤ h0.size) (O0 : Old Z n0 h0) (Es : Exa Z h0 y1 kS0) (Fv1 : Fld Z h0 y1 kS0 "value" "[B" w1) (Fc1 : Fld Z h0 y1 kS0 "coder" "B" w2) (V2 : Arv Z h0 a2 k2 .char (8 : Int32) vs2 (.int 0)) (SZc : Sta Z Z.heap kS0 "COMPACT_STRINGS" "Z" (.int z0)) (hz0 : ¬ z0 = 0) (SZf : Sta Z Z.heap kS3 "SIOOBE_FORMATTER" "Ljava/util/function/BiFunction;" f0) (rf0 : f0.isRef = true) (hr1 : ¬ (((8 : Int32) ||| o1) ||| (2 : Int32)) < 0) (hr2 : ¬ ((8 : Int32) - o1) < (2 : Int32)) (SZad : Sta Z Z.heap kS1 "$assertionsDisabled" "Z" (.int 1)) (SZhi : Sta Z Z.heap kS1 "HI_BYTE_SHIFT" "I" (.int 0)) (SZlo : Sta Z Z.heap kS1 "LO_BYTE_SHIFT" "I" (.int 8)) (ob0 : (¬ o1 < 0 ∧ o1 < (8 : Int32))) (hx0 : vs2.getD (o1).toNatClampNeg (.int 0) = (.int x0)) (lb0 : (¬ x0 < 0 ∧ ¬ (65535 : Int32) < x0)) (ob1 : (¬ (o1 + (1 : Int32)) < 0 ∧ (o1 + (1 : Int32)) < (8 : Int32))) (hx1 : vs2.getD ((o1 + (1 : Int32))).toNatClampNeg (.int 0) = (.int x1)) (lb1 : (¬ x1 < 0 ∧ ¬ (65535 : Int32) < x1)) (c0 : ¬ ((255 : Int32) < x0)) (c1 : (255 : Int32) < x1) (gy : n0 ≤ y1) :
  OwnM l Z h0 (⟨kS0, "<init>", "([CII)V"⟩ : MethodName) (Jvm.Cond.code (⟨kS0, "<init>", "([CII)V"⟩ : MethodName) jdk_42_method_4_code 4 none :: ws) (RM 5 2 6 74) #[(.ref y1), (.ref a2), (.int o1), (.int 2)] (Qrm_s3_2B Z y1 w1 w2 a2 k2 vs2 o1 x0 x1 z0 f0 h0 n0) := by
 refine MetFree.of_bodySF (plainFor_of_name pn_2) hisR ?_
 intro p e s m args below meth c s₁ Bd hml0 hP hK
 obtain ⟨rfl, hZ, hh⟩ := hP
 have hx := Bd.exec
 have hby := Bd.bytes
 have hml : c.maxLocals = 4 := hml0
 have hown : s.vm.findClass kS0 = some m.cls := findClass_of_methodNamed Bd.named
 have hnm := (name_of_methodNamed Bd.named Bd.method).1
 have X0 : Stand p l e (RM 5 2 6 74) s m #[(.ref y1), (.ref a2), (.int o1), (.int 2)] below meth c s₁ [] 0 0 := Stand.of_body Bd
 have e0 : s₁.heap = h0 := by rw [← hh, Bd.state]; rfl
 have N0 := Fr.nil n0
 have pre0 : ∀ t, GO p e below s₁ (mkF m 0 (la17 y1 a2 o1 (2 : Int32)) []) t → GO p e below s₁ (entryFrame m #[(.ref y1), (.ref a2), (.int o1), (.int 2)] 4) t := fun t k => castTop (ef_rm_s3_2B m y1 a2 o1 ((2 : Int32))) k
 have lt_Es := ltA Es.lt
 have lt_Fv1 := ltA Fv1.lt
 have lt_Fc1 := ltA Fc1.lt
 have lt_V2 := ltA V2.lt
 -- pc 7: String.rangeCheck by rm_rc
 obtain ⟨_, _, ⟨T272, L272, k272, n272⟩, -, X272, ⟨Lc272, hQ272, l272, y272, z272⟩, st272⟩ := Jvm.LawKit.callS X0 hx (y := (⟨kS0, "rangeCheck", "([CII)Ljava/lang/Void;"⟩ : MethodName)) hown (mvT hZ (wd hw 50 rfl)) (mvT hZ (wd hw 51 rfl)) (mvT hZ (wd hw 46 rfl)) (mvT hZ (wd hw 52 rfl)) (by decide) (backOf (W := 4) (rm_rc l Z a0 hw [] a2 k2 vs2 o1 (2 : Int32) (8 : Int32) f0 h0 n0 Z0 O0 V2 (by first | assumption | decide | omega) (by first | assumption | decide | omega) hr1 hr2) hZ (wd hw 52 rfl) (wd hw 46 rfl) (by decide) (by decide)) (g := (mkF m 7 (la17 y1 a2 o1 (2 : Int32)) [(.int 2), (.int o1), (.ref a2), (.int 2), (.int o1), (.ref a2), (.ref y1)])) rfl (by rw [hml]; rfl) (argsL := [(.ref a2), (.int o1), (.int 2)]) (rest := [(.int 2), (.int o1), (.ref a2), (.ref y1)]) (lenOf pd_9 rfl) rfl (wz rfl) (hb hby d8_7) (fun _ _ => ⟨rfl, e0, (by decide : 0 + 0 ≤ _), (by decide : 0 + 0 ≤ _)⟩)
 dsimp only [Pt.U, Pt.locs, Pt.cells, Pt.slots] at X272 l272 y272 z272 st272 hQ272
 subst l272 y272 z272
 obtain ⟨rfl, N272q, e272⟩ := hQ272
 have N272 := Fr.app N0 N272q
 -- pc 10: String.<init> by rm_s4_2B
 obtain ⟨_, _, ⟨T273, L273, k273, n273⟩, -, X273, ⟨Lc273, hQ273, l273, y273, z273⟩, st273⟩ := X272.specialBack hx (y := (⟨kS0, "<init>", "([CIILjava/lang/Void;)V"⟩ : MethodName)) rfl hown (mvT hZ (wd hw 60 rfl)) (mvT hZ (wd hw 61 rfl)) (mvT hZ (wd hw 63 rfl)) (by decide) (backOf (W := 0) (rm_s4_2B l Z a0 hw [] y1 w1 w2 a2 k2 vs2 o1 x0 x1 z0 h0 n0 Z0 O0 Es Fv1 Fc1 V2 (by first | assumption | decide | omega) (by first | assumption | decide | omega) (by first | assumption | decide | omega) (by first | assumption | decide | omega) (by first | assumption | decide | omega) (by first | assumption | decide | omega) (by first | assumption | decide | omega) (by first | assumption | decide | omega) (by first | assumption | decide | omega) (by first | assumption | decide | omega) (by first | assumption | decide | omega) (by first | assumption | decide | omega) (by first | assumption | decide | omega) (by first | assumption | decide | omega)) hZ (wd hw 63 rfl) (wd hw 46 rfl) (by decide) (by decide)) (g := (mkF m 10 (la17 y1 a2 o1 (2 : Int32)) [.null, (.int 2), (.int o1), (.ref a2), (.ref y1)])) rfl (by rw [hml]; rfl) (Steps.refl _) (a := y1) (argsL := [(.ref a2), (.int o1), (.int 2), .null]) (rest := []) (lenOf pd_10 rfl) rfl (wz rfl) (hb hby d8_10) (fun _ _ => ⟨rfl, e272, (by decide : 0 + 2 ≤ _), (by decide : 0 + 6 ≤ _)⟩)
 dsimp only [Pt.U, Pt.locs, Pt.cells, Pt.slots] at X273 l273 y273 z273 st273 hQ273
 subst l273 y273 z273
 obtain ⟨h273, e273⟩ : ∃ z, T273.heap = z := ⟨_, rfl⟩
 rw [e273] at hQ273
 obtain ⟨t_273, k_273, rfl, N273q, K273, p273_0, p273_1, p273_2, p273_3, r273_0⟩ := hQ273
 have N273 := Fr.app N272 N273q
 have ne274 : y1 ≠ a2 := Exa.neArv Es V2 (wd hw 45 rfl)
 have sz273 : h0.size ≤ h273.size := K273.1
 have nz273 := Nat.le_trans Z0 sz273
 have lt273_0 := ltA p273_0.lt
 have lt273_3 := ltA p273_3.lt
 obtain ⟨fs, hr, hrun, hended, hW, hsame⟩ := X273.leave (v := none) (fun _ => rfl)
 refine ⟨_, _, pre0 _ ?_, hrun, hended, _, _, rfl, ?_, ⟨_, rfl⟩, hW, hsame.mono (by decide) (by decide)⟩
 ·show GO p e below s₁ (mkF m 0 (la17 y1 a2 o1 (2 : Int32)) []) _
  refine XS.aloadN X0.here hx rfl (hb hby d8_0) rfl rfl ?_
  show GO p e below s₁ (mkF m 1 (la17 y1 a2 o1 (2 : Int32)) [(.ref y1)]) _
  refine XS.aloadN X0.here hx rfl (hb hby d8_1) rfl rfl ?_
  show GO p e below s₁ (mkF m 2 (la17 y1 a2 o1 (2 : Int32)) [(.ref a2), (.ref y1)]) _
  refine XS.iloadN X0.here hx rfl (hb hby d8_2) rfl ?_
  show GO p e below s₁ (mkF m 3 (la17 y1 a2 o1 (2 : Int32)) [(.int o1), (.ref a2), (.ref y1)]) _
  refine XS.iloadN X0.here hx rfl (hb hby d8_3) rfl ?_
  show GO p e below s₁ (mkF m 4 (la17 y1 a2 o1 (2 : Int32)) [(.int 2), (.int o1), (.ref a2), (.ref y1)]) _
  refine XS.aloadN X0.here hx rfl (hb hby d8_4) rfl rfl ?_
  show GO p e below s₁ (mkF m 5 (la17 y1 a2 o1 (2 : Int32)) [(.ref a2), (.int 2), (.int o1), (.ref a2), (.ref y1)]) _
  refine XS.iloadN X0.here hx rfl (hb hby d8_5) rfl ?_
  show GO p e below s₁ (mkF m 6 (la17 y1 a2 o1 (2 : Int32)) [(.int o1), (.ref a2), (.int 2), (.int o1), (.ref a2), (.ref y1)]) _
  refine XS.iloadN X0.here hx rfl (hb hby d8_6) rfl ?_
  show GO p e below s₁ (mkF m 7 (la17 y1 a2 o1 (2 : Int32)) [(.int 2), (.int o1), (.ref a2), (.int 2), (.int o1), (.ref a2), (.ref y1)]) _
  refine st272 _ ?_
  show GO p e below T272 (mkF m 10 (la17 y1 a2 o1 (2 : Int32)) [.null, (.int 2), (.int o1), (.ref a2), (.ref y1)]) _
  refine st273.trans ?_
  show GO p e below T273 (mkF m 13 (la17 y1 a2 o1 (2 : Int32)) []) _
  exact X273.returnOut hx Bd.returns (hb hby d8_13) hr
 ·show Qrm_s3_2B Z y1 w1 w2 a2 k2 vs2 o1 x0 x1 z0 f0 h0 n0 _ T273.heap _
  rw [e273]
  exact ⟨t_273, k_273, rfl, N273, ((Keep.refl h0 [y1]).trans K273 (allS (P := fun x => x ∈ _ ∨ _) (Or.inl (List.mem_of_getElem? (i := 0) rfl)) all0)), p273_0, p273_1, p273_2, p273_3, r273_0⟩
def Qrm_s4_0 (Z : State) (y1 : Addr) (w1 : Value) (w2 : Value) (a2 : Addr) (o1 : Int32) (h0 : Heap) (n0 : Nat) (v : Option Value) (h : Heap) (L : List Loc) : Prop := ∃ t : Addr, ∃ k : ClassId, v = none ∧ Fr n0 L ∧ Keep h0 h [y1] ∧ Exa Z h y1 kS0 ∧ Fld Z h y1 kS0 "coder" "B" (.int 0) ∧ Fld Z h y1 kS0 "value" "[B" (.ref t) ∧ Arv Z h t k .byte (0 : Int32) [] (.int 0)
theorem ef_rm_s4_0 (m : MethodId) (x0 : Addr) (x1 : Addr) (x2 : Int32) (x3 : Int32) : entryFrame m #[(.ref x0), (.ref x1), (.int x2), (.int x3), .null] 6 = mkF m 0 (la15 x0 x1 x2 x3) [] := by first | rfl | (simp [entryFrame, mkF, argsToLocals, Value.category]; done)
theorem rm_s4_0 (l : Launch) (Z : State) (a0 : Array Value) (hw : HW Z a0) (ws : List Jvm.Cond) (y1 : Addr) (w1 : Value) (w2 : Value) (a2 : Addr) (o1 : Int32) (h0 : Heap) (n0 : Nat) (Z0 : n0 ≤ h0.size) (Es : Exa Z h0 y1 kS0) (Fv1 : Fld Z h0 y1 kS0 "value" "[B" w1) (Fc1 : Fld Z h0 y1 kS0 "coder" "B" w2) (gy : n0 ≤ y1) :
  OwnW l Z h0 (⟨kS0, "<init>", "([CIILjava/lang/Void;)V"⟩ : MethodName) (Jvm.Cond.code (⟨kS0, "<init>", "([CIILjava/lang/Void;)V"⟩ : MethodName) jdk_42_method_149_code 6 none :: ws) (RM 1 4 8 12) #[(.ref y1), (.ref a2), (.int o1), (.int 0), .null] [y1] (Qrm_s4_0 Z y1 w1 w2 a2 o1 h0 n0) := by
 refine MetFree.of_bodySF (plainFor_of_name pn_2) hisR ?_
 intro p e s m args below meth c s₁ Bd hml0 hP hK
 obtain ⟨rfl, hZ, hh, H0, sf⟩ := hP
 have hx := Bd.exec
 have hby := Bd.bytes
 have hml : c.maxLocals = 6 := hml0
 have hown : s.vm.findClass kS0 = some m.cls := findClass_of_methodNamed Bd.named
 have hnm := (name_of_methodNamed Bd.named Bd.method).1
 have X0 : Stand p l e (RM 1 4 8 12) (s.setVm s.vm) m #[(.ref y1), (.ref a2), (.int o1), (.int 0), .null] below meth c s₁ [] 0 0 := Stand.of_body Bd
 have hS0 : s.Since s.vm h0.size := (State.WarmedH.refl s).since _
 have C0 : CHr Z EL1 s.vm h0 s.vm h0 := CHr.refl H0
 have sf_y1 : Safe Z EL1 s.vm h0 y1 := sf _ (List.mem_of_getElem? (i := 0) rfl)
 have e0 : s₁.heap = h0 := by rw [← hh, Bd.state]; rfl
 have N0 := Fr.nil n0
 have pre0 : ∀ t, GO p e below s₁ (mkF m 0 (la15 y1 a2 o1 (0 : Int32)) []) t → GO p e below s₁ (entryFrame m #[(.ref y1), (.ref a2), (.int o1), (.int 0), .null] 6) t := fun t k => castTop (ef_rm_s4_0 m y1 a2 o1 ((0 : Int32))) k
 have lt_Es := ltA Es.lt
 have lt_Fv1 := ltA Fv1.lt
 have lt_Fc1 := ltA Fc1.lt
 obtain ⟨T275, X275, e275, st275⟩ := initO X0 hx hZ hown (wd hw 64 rfl) (wd hw 21 rfl) (wd hw 22 rfl) e0 (g := (mkF m 1 (la15 y1 a2 o1 (0 : Int32)) [(.ref y1)])) rfl (by rw [hml]; rfl) rfl (hb hby d12_1) (by decide) (W := 0) (wz rfl) (by decide)
 obtain ⟨sa276, T276, h276, kk276, sb276, sk276, X276, e276, E276, hS276, hk276, hZ276, hown276, A276, Fc276, Fv276, V276, lt276, ltb276, C276w, Lt276, ne276, st276⟩ := ldcCH X275 hx hZ hown (wd hw 65 rfl) (own_wS hw) e275 hS0 (by omega) (own_EW hw) (by decide) C0.1 (vs := []) (z := (0 : Int32)) (by decide +kernel) (by decide) (by decide) (g := (mkF m 9 (la15 y1 a2 o1 (0 : Int32)) [(.ref y1)])) rfl (hb hby d12_9) (n := 0) (by decide) (by decide) (by decide) (by decide)
 have C277 : CHr Z EL1 s.vm h0 T276.vm h276 := C0.trans (C276w)
 have sz276 : h0.size ≤ h276.size := E276.1
 have nz276 := Nat.le_trans Z0 sz276
 have lv276 := ltA lt276
 have lw276 := ltA ltb276
 have f278 : Safe Z EL1 T276.vm h276 y1 := (CHr.safe C276w (ltN (by omega)) sf_y1)
 have nx276_y1 := ne276 y1 f278
 obtain ⟨T279, X279, e279, st279⟩ := getF X276 hx hZ276 hown276 (host := "") (Or.inl (wd hw 71 rfl)) Via.refl e276 Fv276 (g := (mkF m 11 (la15 y1 a2 o1 (0 : Int32)) [(.ref sa276), (.ref y1)])) rfl rfl (hb hby d12_11)
 have f280 : Fld Z h276 y1 kS0 "value" "[B" w1 := (Fv1.ext E276)
 have f281 : Exa Z h276 y1 kS0 := (Es.ext E276)
 obtain ⟨T282, h282, X282, e282, W282, st282⟩ := putF X279 hx hZ276 hown276 (host := "") (Or.inl (wd hw 71 rfl)) Via.refl e279 f280 f281 (Or.inr ⟨(wd hw 67 rfl), rfl, hnm⟩) (wd hw 45 rfl) (ty := (.array .byte)) (by decide) rfl rfl (g := (mkF m 14 (la15 y1 a2 o1 (0 : Int32)) [(.ref sb276), (.ref y1)])) rfl rfl (hb hby d12_14)
 have ge283 : n0 ≤ y1 := by omega
 have N282 := Fr.snoc X282 N0 ge283
 have C284 : CHr Z EL1 s.vm h0 T276.vm h282 := C277.trans (CHr.wr W282 f278 C277.1)
 have sz282 : h276.size ≤ h282.size := Nat.le_of_eq W282.size.symm
 have nz282 := Nat.le_trans nz276 sz282
 have f282 : Fld Z h282 y1 kS0 "value" "[B" (.ref sb276) := f280.same W282
 obtain ⟨sa285, T285, h285, kk285, sb285, sk285, X285, e285, E285, hS285, hk285, hZ285, hown285, A285, Fc285, Fv285, V285, lt285, ltb285, C285w, Lt285, ne285, st285⟩ := ldcCH X282 hx hZ276 hown276 (wd hw 65 rfl) (own_wS hw) e282 hS276 (by omega) (own_EW hw) (by decide) C284.1 (vs := []) (z := (0 : Int32)) (by decide +kernel) (by decide) (by decide) (g := (mkF m 18 (la15 y1 a2 o1 (0 : Int32)) [(.ref y1)])) rfl (hb hby d12_18) (n := 0) (by decide) (by decide) (by decide) (by decide)
 have C286 : CHr Z EL1 s.vm h0 T285.vm h285 := C284.trans (C285w)
 have sz285 : h282.size ≤ h285.size := E285.1
 have nz285 := Nat.le_trans nz282 sz285
 have lv285 := ltA lt285
 have lw285 := ltA ltb285
 have f287 : Safe Z EL1 T285.vm h285 y1 := (CHr.safe C285w (ltN (by omega)) (Safe.wr W282 f278 C277.1 f278))
 have nx285_y1 := ne285 y1 f287
 obtain ⟨T288, X288, e288, st288⟩ := getF X285 hx hZ285 hown285 (host := "") (Or.inl (wd hw 72 rfl)) Via.refl e285 Fc285 (g := (mkF m 20 (la15 y1 a2 o1 (0 : Int32)) [(.ref sa285), (.ref y1)])) rfl rfl (hb hby d12_20)
 have f289 : Fld Z h285 y1 kS0 "coder" "B" w2 := (((Fc1.ext E276).other W282 (Or.inr (slot_ne (Or.inr (wd hw 68 rfl)) (Or.inr (wd hw 67 rfl)) (by decide) (t := .byte) (t' := (.array .byte)) (by decide) (by decide)))).ext E285)
 have f290 : Exa Z h285 y1 kS0 := ((f281.wr W282).ext E285)
 obtain ⟨T291, h291, X291, e291, W291, st291⟩ := putFN X288 hx hZ285 hown285 (wd hw 72 rfl) Via.refl e288 f289 f290 (Or.inr ⟨(wd hw 68 rfl), rfl, hnm⟩) (wd hw 45 rfl) (ty := .byte) (v' := (.int 0)) (by decide) rfl rfl (g := (mkF m 23 (la15 y1 a2 o1 (0 : Int32)) [(.int 0), (.ref y1)])) rfl rfl (hb hby d12_23)
 have N291 := Fr.snoc X291 N282 ge283
 have C292 : CHr Z EL1 s.vm h0 T285.vm h291 := C286.trans (CHr.wr W291 f287 C286.1)
 have sz291 : h285.size ≤ h291.size := Nat.le_of_eq W291.size.symm
 have nz291 := Nat.le_trans nz285 sz291
 have f291 : Fld Z h291 y1 kS0 "coder" "B" (.int 0) := f289.same W291
 have f293 : Exa Z h291 y1 kS0 := (f290.wr W291)
 have f294 : Fld Z h291 y1 kS0 "value" "[B" (.ref sb276) := ((f282.ext E285).other W291 (Or.inr (slot_ne (Or.inr (wd hw 67 rfl)) (Or.inr (wd hw 68 rfl)) (by decide) (t := (.array .byte)) (t' := .byte) (by decide) (by decide))))
 have f295 : Arv Z h291 sb276 sk276 .byte (0 : Int32) [] (.int 0) := (((V276.other W282 (Ne.symm nx276_y1.2)).ext E285).other W291 (Ne.symm nx276_y1.2))
 obtain ⟨fs, hr, hrun, hended, hE⟩ := X291.leaveW hS285 (by rw [e291]; omega) (v := none) (fun _ => rfl)
 have CE := C292.trans (CHv.at X291 hZ285 (own_EW hw) C292.1)
 refine ⟨_, _, pre0 _ ?_, hrun, hended, _, _, rfl, ?_, ?_, ⟨hE.1, hE.2.1, hE.2.2.1, hE.2.2.2.mono (by decide) (by decide)⟩⟩
 ·show GO p e below s₁ (mkF m 0 (la15 y1 a2 o1 (0 : Int32)) []) _
  refine XS.aloadN X0.here hx rfl (hb hby d12_0) rfl rfl ?_
  show GO p e below s₁ (mkF m 1 (la15 y1 a2 o1 (0 : Int32)) [(.ref y1)]) _
  refine st275 _ ?_
  show GO p e below T275 (mkF m 4 (la15 y1 a2 o1 (0 : Int32)) []) _
  refine XS.iloadN X275.here hx rfl (hb hby d12_4) rfl ?_
  show GO p e below T275 (mkF m 5 (la15 y1 a2 o1 (0 : Int32)) [(.int 0)]) _
  refine XS.ifNo X275.here hx rfl (hb hby d12_5) rfl ((if0 _ _).trans (teq (rfl : (0 : Int32) = (0 : Int32))).2) ?_
  show GO p e below T275 (mkF m 8 (la15 y1 a2 o1 (0 : Int32)) []) _
  refine XS.aloadN X275.here hx rfl (hb hby d12_8) rfl rfl ?_
  show GO p e below T275 (mkF m 9 (la15 y1 a2 o1 (0 : Int32)) [(.ref y1)]) _
  refine st276 _ ?_
  show GO p e below T276 (mkF m 11 (la15 y1 a2 o1 (0 : Int32)) [(.ref sa276), (.ref y1)]) _
  refine st279 _ ?_
  show GO p e below T279 (mkF m 14 (la15 y1 a2 o1 (0 : Int32)) [(.ref sb276), (.ref y1)]) _
  refine st282 _ ?_
  show GO p e below T282 (mkF m 17 (la15 y1 a2 o1 (0 : Int32)) []) _
  refine XS.aloadN X282.here hx rfl (hb hby d12_17) rfl rfl ?_
  show GO p e below T282 (mkF m 18 (la15 y1 a2 o1 (0 : Int32)) [(.ref y1)]) _
  refine st285 _ ?_
  show GO p e below T285 (mkF m 20 (la15 y1 a2 o1 (0 : Int32)) [(.ref sa285), (.ref y1)]) _
  refine st288 _ ?_
  show GO p e below T288 (mkF m 23 (la15 y1 a2 o1 (0 : Int32)) [(.int 0), (.ref y1)]) _
  refine st291 _ ?_
  show GO p e below T291 (mkF m 26 (la15 y1 a2 o1 (0 : Int32)) []) _
  exact X291.returnOut hx Bd.returns (hb hby d12_26) hr
 ·show Qrm_s4_0 Z y1 w1 w2 a2 o1 h0 n0 _ T291.heap _
  rw [e291]
  exact ⟨sb276, sk276, rfl, N291, (((((Keep.refl h0 [y1]).ext E276).wr W282 (Or.inl (List.mem_of_getElem? (i := 0) rfl))).ext E285).wr W291 (Or.inl (List.mem_of_getElem? (i := 0) rfl))), f293, f291, f294, f295⟩
 ·show CHr Z EL1 s.vm s.heap T291.vm T291.heap
  rw [hh, e291]
  exact CE
def Qrm_s3_0 (Z : State) (y1 : Addr) (w1 : Value) (w2 : Value) (a2 : Addr) (k2 : ClassId) (vs2 : List Value) (o1 : Int32) (f0 : Value) (h0 : Heap) (n0 : Nat) (v : Option Value) (h : Heap) (L : List Loc) : Prop := ∃ t : Addr, ∃ k : ClassId, v = none ∧ Fr n0 L ∧ Keep h0 h [y1] ∧ Exa Z h y1 kS0 ∧ Fld Z h y1 kS0 "coder" "B" (.int 0) ∧ Fld Z h y1 kS0 "value" "[B" (.ref t) ∧ Arv Z h t k .byte (0 : Int32) [] (.int 0)
theorem ef_rm_s3_0 (m : MethodId) (x0 : Addr) (x1 : Addr) (x2 : Int32) (x3 : Int32) : entryFrame m #[(.ref x0), (.ref x1), (.int x2), (.int x3)] 4 = mkF m 0 (la17 x0 x1 x2 x3) [] := by first | rfl | (simp [entryFrame, mkF, argsToLocals, Value.category]; done)
theorem rm_s3_0 (l : Launch) (Z : State) (a0 : Array Value) (hw : HW Z a0) (ws : List Jvm.Cond) (y1 : Addr) (w1 : Value) (w2 : Value) (a2 : Addr) (k2 : ClassId) (vs2 : List Value) (o1 : Int32) (f0 : Value) (h0 : Heap) (n0 : Nat) (Z0 : n0 ≤ h0.size) (O0 : Old Z n0 h0) (Es : Exa Z h0 y1 kS0) (Fv1 : Fld Z h0 y1 kS0 "value" "[B" w1) (Fc1 : Fld Z h0 y1 kS0 "coder" "B" w2) (V2 : Arv Z h0 a2 k2 .char (8 : Int32) vs2 (.int 0)) (SZf : Sta Z Z.heap kS3 "SIOOBE_FORMATTER" "Ljava/util/function/BiFunction;" f0) (rf0 : f0.isRef = true) (hr1 : ¬ (((8 : Int32) ||| o1) ||| (0 : Int32)) < 0) (hr2 : ¬ ((8 : Int32) - o1) < (0 : Int32)) (gy : n0 ≤ y1) :
  OwnW l Z h0 (⟨kS0, "<init>", "([CII)V"⟩ : MethodName) (Jvm.Cond.code (⟨kS0, "<init>", "([CII)V"⟩ : MethodName) jdk_42_method_4_code 4 none :: ws) (RM 3 4 8 47) #[(.ref y1), (.ref a2), (.int o1), (.int 0)] [y1] (Qrm_s3_0 Z y1 w1 w2 a2 k2 vs2 o1 f0 h0 n0) := by
 refine MetFree.of_bodySF (plainFor_of_name pn_2) hisR ?_
 intro p e s m args below meth c s₁ Bd hml0 hP hK
 obtain ⟨rfl, hZ, hh, H0, sf⟩ := hP
 have hx := Bd.exec
 have hby := Bd.bytes
 have hml : c.maxLocals = 4 := hml0
 have hown : s.vm.findClass kS0 = some m.cls := findClass_of_methodNamed Bd.named
 have hnm := (name_of_methodNamed Bd.named Bd.method).1
 have X0 : Stand p l e (RM 3 4 8 47) (s.setVm s.vm) m #[(.ref y1), (.ref a2), (.int o1), (.int 0)] below meth c s₁ [] 0 0 := Stand.of_body Bd
 have hS0 : s.Since s.vm h0.size := (State.WarmedH.refl s).since _
 have C0 : CHr Z EL1 s.vm h0 s.vm h0 := CHr.refl H0
 have sf_y1 : Safe Z EL1 s.vm h0 y1 := sf _ (List.mem_of_getElem? (i := 0) rfl)
 have e0 : s₁.heap = h0 := by rw [← hh, Bd.state]; rfl
 have N0 := Fr.nil n0
 have pre0 : ∀ t, GO p e below s₁ (mkF m 0 (la17 y1 a2 o1 (0 : Int32)) []) t → GO p e below s₁ (entryFrame m #[(.ref y1), (.ref a2), (.int o1), (.int 0)] 4) t := fun t k => castTop (ef_rm_s3_0 m y1 a2 o1 ((0 : Int32))) k
 have lt_Es := ltA Es.lt
 have lt_Fv1 := ltA Fv1.lt
 have lt_Fc1 := ltA Fc1.lt
 have lt_V2 := ltA V2.lt
 -- pc 7: String.rangeCheck by rm_rc
 obtain ⟨_, _, ⟨T296, L296, k296, n296⟩, -, X296, ⟨Lc296, hQ296, l296, y296, z296⟩, st296⟩ := Jvm.LawKit.callS X0 hx (y := (⟨kS0, "rangeCheck", "([CII)Ljava/lang/Void;"⟩ : MethodName)) hown (mvT hZ (wd hw 50 rfl)) (mvT hZ (wd hw 51 rfl)) (mvT hZ (wd hw 46 rfl)) (mvT hZ (wd hw 52 rfl)) (by decide) (backOf (W := 4) (rm_rc l Z a0 hw [] a2 k2 vs2 o1 (0 : Int32) (8 : Int32) f0 h0 n0 Z0 O0 V2 (by first | assumption | decide | omega) (by first | assumption | decide | omega) hr1 hr2) hZ (wd hw 52 rfl) (wd hw 46 rfl) (by decide) (by decide)) (g := (mkF m 7 (la17 y1 a2 o1 (0 : Int32)) [(.int 0), (.int o1), (.ref a2), (.int 0), (.int o1), (.ref a2), (.ref y1)])) rfl (by rw [hml]; rfl) (argsL := [(.ref a2), (.int o1), (.int 0)]) (rest := [(.int 0), (.int o1), (.ref a2), (.ref y1)]) (lenOf pd_9 rfl) rfl (wz rfl) (hb hby d8_7) (fun _ _ => ⟨rfl, e0, (by decide : 0 + 0 ≤ _), (by decide : 0 + 0 ≤ _)⟩)
 dsimp only [Pt.U, Pt.locs, Pt.cells, Pt.slots] at X296 l296 y296 z296 st296 hQ296
 subst l296 y296 z296
 obtain ⟨rfl, N296q, e296⟩ := hQ296
 have N296 := Fr.app N0 N296q
 -- pc 10: String.<init> by rm_s4_0
 obtain ⟨_, _, ⟨T297, L297, k297, n297⟩, -, X297w, hS297w, gr297, ⟨Lc297, hQ297, l297, y297, z297, C297w⟩, st297⟩ := X296.specialBackS hx (y := (⟨kS0, "<init>", "([CIILjava/lang/Void;)V"⟩ : MethodName)) rfl hown (mvT hZ (wd hw 60 rfl)) (mvT hZ (wd hw 61 rfl)) (mvT hZ (wd hw 63 rfl)) (by decide) (own_backS (W := 0) (rm_s4_0 l Z a0 hw [] y1 w1 w2 a2 o1 h0 n0 Z0 Es Fv1 Fc1 (by first | assumption | decide | omega)) hZ (wd hw 63 rfl) (wd hw 46 rfl) (by decide) (by decide) (own_EW hw) C0.1 (sfS sf_y1 sf0) (allS (ltN (by omega)) all0)) (g := (mkF m 10 (la17 y1 a2 o1 (0 : Int32)) [.null, (.int 0), (.int o1), (.ref a2), (.ref y1)])) rfl (by rw [hml]; rfl) (Steps.refl _) (a := y1) (argsL := [(.ref a2), (.int o1), (.int 0), .null]) (rest := []) (lenOf pd_10 rfl) rfl (wz rfl) (hb hby d8_10) (fun _ _ => ⟨rfl, e296, (by decide : 0 + 4 ≤ _), (by decide : 0 + 8 ≤ _)⟩)
 dsimp only [Pt.U, Pt.locs, Pt.cells, Pt.slots] at X297w hS297w gr297 l297 y297 z297 st297 hQ297 C297w
 subst l297 y297 z297
 obtain ⟨X297, hS297, hZ297, hown297⟩ := rebS hS0 (by rw [e296]; omega) X297w hS297w gr297 hZ hown
 obtain ⟨h297, e297⟩ : ∃ z, T297.heap = z := ⟨_, rfl⟩
 rw [e297] at hQ297
 obtain ⟨t_297, k_297, rfl, N297q, K297, p297_0, p297_1, p297_2, p297_3⟩ := hQ297
 have N297 := Fr.app N296 N297q
 rw [e297] at C297w hS297
 have hk297 : h297.size ≤ h297.size := Nat.le_refl _
 have ne298 : y1 ≠ a2 := Exa.neArv Es V2 (wd hw 45 rfl)
 have C299 : CHr Z EL1 s.vm h0 T297.vm h297 := C0.trans (C297w)
 have sz297 : h0.size ≤ h297.size := K297.1
 have nz297 := Nat.le_trans Z0 sz297
 have lt297_0 := ltA p297_0.lt
 have lt297_3 := ltA p297_3.lt
 obtain ⟨fs, hr, hrun, hended, hE⟩ := X297.leaveW hS297 (by rw [e297]; omega) (v := none) (fun _ => rfl)
 have CE := C299.trans (CHv.at X297 hZ297 (own_EW hw) C299.1)
 refine ⟨_, _, pre0 _ ?_, hrun, hended, _, _, rfl, ?_, ?_, ⟨hE.1, hE.2.1, hE.2.2.1, hE.2.2.2.mono (by decide) (by decide)⟩⟩
 ·show GO p e below s₁ (mkF m 0 (la17 y1 a2 o1 (0 : Int32)) []) _
  refine XS.aloadN X0.here hx rfl (hb hby d8_0) rfl rfl ?_
  show GO p e below s₁ (mkF m 1 (la17 y1 a2 o1 (0 : Int32)) [(.ref y1)]) _
  refine XS.aloadN X0.here hx rfl (hb hby d8_1) rfl rfl ?_
  show GO p e below s₁ (mkF m 2 (la17 y1 a2 o1 (0 : Int32)) [(.ref a2), (.ref y1)]) _
  refine XS.iloadN X0.here hx rfl (hb hby d8_2) rfl ?_
  show GO p e below s₁ (mkF m 3 (la17 y1 a2 o1 (0 : Int32)) [(.int o1), (.ref a2), (.ref y1)]) _
  refine XS.iloadN X0.here hx rfl (hb hby d8_3) rfl ?_
  show GO p e below s₁ (mkF m 4 (la17 y1 a2 o1 (0 : Int32)) [(.int 0), (.int o1), (.ref a2), (.ref y1)]) _
  refine XS.aloadN X0.here hx rfl (hb hby d8_4) rfl rfl ?_
  show GO p e below s₁ (mkF m 5 (la17 y1 a2 o1 (0 : Int32)) [(.ref a2), (.int 0), (.int o1), (.ref a2), (.ref y1)]) _
  refine XS.iloadN X0.here hx rfl (hb hby d8_5) rfl ?_
  show GO p e below s₁ (mkF m 6 (la17 y1 a2 o1 (0 : Int32)) [(.int o1), (.ref a2), (.int 0), (.int o1), (.ref a2), (.ref y1)]) _
  refine XS.iloadN X0.here hx rfl (hb hby d8_6) rfl ?_
  show GO p e below s₁ (mkF m 7 (la17 y1 a2 o1 (0 : Int32)) [(.int 0), (.int o1), (.ref a2), (.int 0), (.int o1), (.ref a2), (.ref y1)]) _
  refine st296 _ ?_
  show GO p e below T296 (mkF m 10 (la17 y1 a2 o1 (0 : Int32)) [.null, (.int 0), (.int o1), (.ref a2), (.ref y1)]) _
  refine st297.trans ?_
  show GO p e below T297 (mkF m 13 (la17 y1 a2 o1 (0 : Int32)) []) _
  exact X297.returnOut hx Bd.returns (hb hby d8_13) hr
 ·show Qrm_s3_0 Z y1 w1 w2 a2 k2 vs2 o1 f0 h0 n0 _ T297.heap _
  rw [e297]
  exact ⟨t_297, k_297, rfl, N297, ((Keep.refl h0 [y1]).trans K297 (allS (P := fun x => x ∈ _ ∨ _) (Or.inl (List.mem_of_getElem? (i := 0) rfl)) all0)), p297_0, p297_1, p297_2, p297_3⟩
 ·show CHr Z EL1 s.vm s.heap T297.vm T297.heap
  rw [hh, e297]
  exact CE
def Qrm_sc0 (Z : State) (x1 : Addr) (z0 : Int32) (h0 : Heap) (n0 : Nat) (v : Option Value) (h : Heap) (L : List Loc) : Prop := v = some (.int 0) ∧ Fr n0 L ∧ h = h0
theorem ef_rm_sc0 (m : MethodId) (x0 : Addr) : entryFrame m #[(.ref x0)] 1 = mkF m 0 #[.val (.ref x0)] [] := by first | rfl | (simp [entryFrame, mkF, argsToLocals, Value.category]; done)
theorem rm_sc0 (l : Launch) (Z : State) (a0 : Array Value) (hw : HW Z a0) (ws : List Jvm.Cond) (x1 : Addr) (z0 : Int32) (h0 : Heap) (n0 : Nat) (Z0 : n0 ≤ h0.size) (O0 : Old Z n0 h0) (Fc : Fld Z h0 x1 kS0 "coder" "B" (.int 0)) (SZc : Sta Z Z.heap kS0 "COMPACT_STRINGS" "Z" (.int z0)) (hz0 : ¬ z0 = 0) :
  OwnM l Z h0 (⟨kS0, "coder", "()B"⟩ : MethodName) (Jvm.Cond.code (⟨kS0, "coder", "()B"⟩ : MethodName) jdk_42_method_152_code 1 (some .byte) :: ws) (RM 0 0 0 0) #[(.ref x1)] (Qrm_sc0 Z x1 z0 h0 n0) := by
 refine MetFree.of_bodySF (plainFor_of_name pn_2) hisR ?_
 intro p e s m args below meth c s₁ Bd hml0 hP hK
 obtain ⟨rfl, hZ, hh⟩ := hP
 have hx := Bd.exec
 have hby := Bd.bytes
 have hml : c.maxLocals = 1 := hml0
 have hown : s.vm.findClass kS0 = some m.cls := findClass_of_methodNamed Bd.named
 have hnm := (name_of_methodNamed Bd.named Bd.method).1
 have X0 : Stand p l e (RM 0 0 0 0) s m #[(.ref x1)] below meth c s₁ [] 0 0 := Stand.of_body Bd
 have e0 : s₁.heap = h0 := by rw [← hh, Bd.state]; rfl
 have N0 := Fr.nil n0
 have pre0 : ∀ t, GO p e below s₁ (mkF m 0 #[.val (.ref x1)] []) t → GO p e below s₁ (entryFrame m #[(.ref x1)] 1) t := fun t k => castTop (ef_rm_sc0 m x1) k
 have lt_Fc := ltA Fc.lt
 have S300 : Sta Z h0 kS0 "COMPACT_STRINGS" "Z" (.int z0) := SZc.ext O0.2
 obtain ⟨T301, X301, e301, st301⟩ := getS2 X0 hx hZ hown (host := "") (Or.inl (wd hw 83 rfl)) Via.refl e0 S300 (g := (mkF m 0 #[.val (.ref x1)] [])) rfl (hb hby d14_0)
 obtain ⟨T302, X302, e302, st302⟩ := getF X301 hx hZ hown (host := "") (Or.inl (wd hw 72 rfl)) Via.refl e301 Fc (g := (mkF m 7 #[.val (.ref x1)] [(.ref x1)])) rfl rfl (hb hby d14_7)
 obtain ⟨fs, hr, hrun, hended, hW, hsame⟩ := X302.leave (v := some (.int (nar .byte (0 : Int32)))) (fun h => by rw [Bd.returns] at h; cases h)
 refine ⟨_, _, pre0 _ ?_, hrun, hended, _, _, rfl, ?_, ⟨_, rfl⟩, hW, hsame.mono (by decide) (by decide)⟩
 ·show GO p e below s₁ (mkF m 0 #[.val (.ref x1)] []) _
  refine st301 _ ?_
  show GO p e below T301 (mkF m 3 #[.val (.ref x1)] [(.int z0)]) _
  refine XS.ifNo X301.here hx rfl (hb hby d14_3) rfl ((if0 _ _).trans (feq ((by first | assumption | decide) : ¬ (z0 = (0 : Int32)))).1) ?_
  show GO p e below T301 (mkF m 6 #[.val (.ref x1)] []) _
  refine XS.aloadN X301.here hx rfl (hb hby d14_6) rfl rfl ?_
  show GO p e below T301 (mkF m 7 #[.val (.ref x1)] [(.ref x1)]) _
  refine st302 _ ?_
  show GO p e below T302 (mkF m 10 #[.val (.ref x1)] [(.int 0)]) _
  refine XS.goto X302.here hx rfl (pc0 := 10) (pc' := 14) rfl (hb hby d14_10) (by decide) (by decide) ?_
  show GO p e below T302 (mkF m 14 #[.val (.ref x1)] [(.int 0)]) _
  exact retN X302 hx (t := .byte) Bd.returns (by simp) (hb hby d14_14) hr
 ·show Qrm_sc0 Z x1 z0 h0 n0 _ T302.heap _
  rw [e302]
  exact ⟨rfl, N0, rfl⟩
def Qrm_isl0 (Z : State) (x1 : Addr) (z0 : Int32) (h0 : Heap) (n0 : Nat) (v : Option Value) (h : Heap) (L : List Loc) : Prop := v = some (.int 1) ∧ Fr n0 L ∧ h = h0
theorem ef_rm_isl0 (m : MethodId) (x0 : Addr) : entryFrame m #[(.ref x0)] 1 = mkF m 0 #[.val (.ref x0)] [] := by first | rfl | (simp [entryFrame, mkF, argsToLocals, Value.category]; done)
theorem rm_isl0 (l : Launch) (Z : State) (a0 : Array Value) (hw : HW Z a0) (ws : List Jvm.Cond) (x1 : Addr) (z0 : Int32) (h0 : Heap) (n0 : Nat) (Z0 : n0 ≤ h0.size) (O0 : Old Z n0 h0) (Fc : Fld Z h0 x1 kS0 "coder" "B" (.int 0)) (SZc : Sta Z Z.heap kS0 "COMPACT_STRINGS" "Z" (.int z0)) (hz0 : ¬ z0 = 0) :
  OwnM l Z h0 (⟨kS0, "isLatin1", "()Z"⟩ : MethodName) (Jvm.Cond.code (⟨kS0, "isLatin1", "()Z"⟩ : MethodName) jdk_42_method_154_code 1 (some .boolean) :: ws) (RM 0 0 0 0) #[(.ref x1)] (Qrm_isl0 Z x1 z0 h0 n0) := by
 refine MetFree.of_bodySF (plainFor_of_name pn_2) hisR ?_
 intro p e s m args below meth c s₁ Bd hml0 hP hK
 obtain ⟨rfl, hZ, hh⟩ := hP
 have hx := Bd.exec
 have hby := Bd.bytes
 have hml : c.maxLocals = 1 := hml0
 have hown : s.vm.findClass kS0 = some m.cls := findClass_of_methodNamed Bd.named
 have hnm := (name_of_methodNamed Bd.named Bd.method).1
 have X0 : Stand p l e (RM 0 0 0 0) s m #[(.ref x1)] below meth c s₁ [] 0 0 := Stand.of_body Bd
 have e0 : s₁.heap = h0 := by rw [← hh, Bd.state]; rfl
 have N0 := Fr.nil n0
 have pre0 : ∀ t, GO p e below s₁ (mkF m 0 #[.val (.ref x1)] []) t → GO p e below s₁ (entryFrame m #[(.ref x1)] 1) t := fun t k => castTop (ef_rm_isl0 m x1) k
 have lt_Fc := ltA Fc.lt
 have S303 : Sta Z h0 kS0 "COMPACT_STRINGS" "Z" (.int z0) := SZc.ext O0.2
 obtain ⟨T304, X304, e304, st304⟩ := getS2 X0 hx hZ hown (host := "") (Or.inl (wd hw 83 rfl)) Via.refl e0 S303 (g := (mkF m 0 #[.val (.ref x1)] [])) rfl (hb hby d24_0)
 obtain ⟨T305, X305, e305, st305⟩ := getF X304 hx hZ hown (host := "") (Or.inl (wd hw 72 rfl)) Via.refl e304 Fc (g := (mkF m 7 #[.val (.ref x1)] [(.ref x1)])) rfl rfl (hb hby d24_7)
 obtain ⟨fs, hr, hrun, hended, hW, hsame⟩ := X305.leave (v := some (.int 1)) (fun h => by rw [Bd.returns] at h; cases h)
 refine ⟨_, _, pre0 _ ?_, hrun, hended, _, _, rfl, ?_, ⟨_, rfl⟩, hW, hsame.mono (by decide) (by decide)⟩
 ·show GO p e below s₁ (mkF m 0 #[.val (.ref x1)] []) _
  refine st304 _ ?_
  show GO p e below T304 (mkF m 3 #[.val (.ref x1)] [(.int z0)]) _
  refine XS.ifNo X304.here hx rfl (hb hby d24_3) rfl ((if0 _ _).trans (feq ((by first | assumption | decide) : ¬ (z0 = (0 : Int32)))).1) ?_
  show GO p e below T304 (mkF m 6 #[.val (.ref x1)] []) _
  refine XS.aloadN X304.here hx rfl (hb hby d24_6) rfl rfl ?_
  show GO p e below T304 (mkF m 7 #[.val (.ref x1)] [(.ref x1)]) _
  refine st305 _ ?_
  show GO p e below T305 (mkF m 10 #[.val (.ref x1)] [(.int 0)]) _
  refine XS.ifNo X305.here hx rfl (hb hby d24_10) rfl ((if0 _ _).trans (teq (rfl : (0 : Int32) = (0 : Int32))).2) ?_
  show GO p e below T305 (mkF m 13 #[.val (.ref x1)] []) _
  refine XS.iconst X305.here hx rfl (hb hby d24_13) ?_
  show GO p e below T305 (mkF m 14 #[.val (.ref x1)] [(.int 1)]) _
  refine XS.goto X305.here hx rfl (pc0 := 14) (pc' := 18) rfl (hb hby d24_14) (by decide) (by decide) ?_
  show GO p e below T305 (mkF m 18 #[.val (.ref x1)] [(.int 1)]) _
  exact retN X305 hx (t := .boolean) Bd.returns (by simp) (hb hby d24_18) hr
 ·show Qrm_isl0 Z x1 z0 h0 n0 _ T305.heap _
  rw [e305]
  exact ⟨rfl, N0, rfl⟩
def Qrm_sl_0_0 (Z : State) (x1 : Addr) (t1 : Addr) (k1 : ClassId) (v1 : List Value) (z0 : Int32) (h0 : Heap) (n0 : Nat) (v : Option Value) (h : Heap) (L : List Loc) : Prop := v = some (.int 0) ∧ Fr n0 L ∧ h = h0
theorem ef_rm_sl_0_0 (m : MethodId) (x0 : Addr) : entryFrame m #[(.ref x0)] 1 = mkF m 0 #[.val (.ref x0)] [] := by first | rfl | (simp [entryFrame, mkF, argsToLocals, Value.category]; done)
theorem rm_sl_0_0 (l : Launch) (Z : State) (a0 : Array Value) (hw : HW Z a0) (ws : List Jvm.Cond) (x1 : Addr) (t1 : Addr) (k1 : ClassId) (v1 : List Value) (z0 : Int32) (h0 : Heap) (n0 : Nat) (Z0 : n0 ≤ h0.size) (O0 : Old Z n0 h0) (Es : Exa Z h0 x1 kS0) (Fc : Fld Z h0 x1 kS0 "coder" "B" (.int 0)) (Fv : Fld Z h0 x1 kS0 "value" "[B" (.ref t1)) (Vt : Arv Z h0 t1 k1 .byte (0 : Int32) v1 (.int 0)) (SZc : Sta Z Z.heap kS0 "COMPACT_STRINGS" "Z" (.int z0)) (hz0 : ¬ z0 = 0) :
  OwnM l Z h0 (⟨kS0, "length", "()I"⟩ : MethodName) (Jvm.Cond.code (⟨kS0, "length", "()I"⟩ : MethodName) jdk_42_method_54_code 1 (some .int) :: ws) (RM 1 0 0 13) #[(.ref x1)] (Qrm_sl_0_0 Z x1 t1 k1 v1 z0 h0 n0) := by
 refine MetFree.of_bodySF (plainFor_of_name pn_2) hisR ?_
 intro p e s m args below meth c s₁ Bd hml0 hP hK
 obtain ⟨rfl, hZ, hh⟩ := hP
 have hx := Bd.exec
 have hby := Bd.bytes
 have hml : c.maxLocals = 1 := hml0
 have hown : s.vm.findClass kS0 = some m.cls := findClass_of_methodNamed Bd.named
 have hnm := (name_of_methodNamed Bd.named Bd.method).1
 have X0 : Stand p l e (RM 1 0 0 13) s m #[(.ref x1)] below meth c s₁ [] 0 0 := Stand.of_body Bd
 have e0 : s₁.heap = h0 := by rw [← hh, Bd.state]; rfl
 have N0 := Fr.nil n0
 have pre0 : ∀ t, GO p e below s₁ (mkF m 0 #[.val (.ref x1)] []) t → GO p e below s₁ (entryFrame m #[(.ref x1)] 1) t := fun t k => castTop (ef_rm_sl_0_0 m x1) k
 have lt_Es := ltA Es.lt
 have lt_Fc := ltA Fc.lt
 have lt_Fv := ltA Fv.lt
 have lt_Vt := ltA Vt.lt
 obtain ⟨T306, X306, e306, st306⟩ := getF X0 hx hZ hown (host := "") (Or.inl (wd hw 71 rfl)) Via.refl e0 Fv (g := (mkF m 1 #[.val (.ref x1)] [(.ref x1)])) rfl rfl (hb hby d13_1)
 obtain ⟨cl307, Ar307, -, S307, M307, -, -⟩ := id Vt
 -- pc 6: String.coder by rm_sc0
 obtain ⟨cq308, kq308, q308a, q308b, q308c⟩ := isOf hZ e306 Es
 obtain ⟨_, _, ⟨T308, L308, k308, n308⟩, -, X308, ⟨Lc308, hQ308, l308, y308, z308⟩, st308⟩ := X306.virtualBack hx (y := (⟨kS0, "coder", "()B"⟩ : MethodName)) (z := (⟨kS0, "coder", "()B"⟩ : MethodName)) hown (mvT hZ (wd hw 78 rfl)) (mvT hZ (wd hw 79 rfl)) (notFace_of_selects (args := #[]) (mvT hZ (wd hw 81 rfl))) (mvT hZ (wd hw 81 rfl)) (mvT hZ (wd hw 80 rfl)) (by decide) (backOf (W := 1) (rm_sc0 l Z a0 hw [] x1 z0 h0 n0 Z0 O0 Fc (by first | assumption | decide | omega) (by first | assumption | decide | omega)) hZ (wd hw 82 rfl) (wd hw 46 rfl) (by decide) (by decide)) q308a q308c (g := (mkF m 6 #[.val (.ref x1)] [(.ref x1), (.int 0)])) rfl (by rw [hml]; rfl) (Steps.refl _) (argsL := []) (rest := [(.int 0)]) (lenOf pd_12 rfl) rfl (wz rfl) (hb hby d13_6) (fun _ _ => ⟨rfl, e306, (by decide : 0 + 0 ≤ _), (by decide : 0 + 0 ≤ _)⟩)
 dsimp only [Pt.U, Pt.locs, Pt.cells, Pt.slots] at X308 l308 y308 z308 st308 hQ308
 subst l308 y308 z308
 obtain ⟨rfl, N308q, e308⟩ := hQ308
 have N308 := Fr.app N0 N308q
 obtain ⟨fs, hr, hrun, hended, hW, hsame⟩ := X308.leave (v := some (.int 0)) (fun h => by rw [Bd.returns] at h; cases h)
 refine ⟨_, _, pre0 _ ?_, hrun, hended, _, _, rfl, ?_, ⟨_, rfl⟩, hW, hsame.mono (by decide) (by decide)⟩
 ·show GO p e below s₁ (mkF m 0 #[.val (.ref x1)] []) _
  refine XS.aloadN X0.here hx rfl (hb hby d13_0) rfl rfl ?_
  show GO p e below s₁ (mkF m 1 #[.val (.ref x1)] [(.ref x1)]) _
  refine st306 _ ?_
  show GO p e below T306 (mkF m 4 #[.val (.ref x1)] [(.ref t1)]) _
  refine X306.arraylength hx (by rw [e306]; exact Ar307.1) (State.isArrayOf_alike hZ.alike Ar307.2.1) (g := (mkF m 4 #[.val (.ref x1)] [(.ref t1)])) rfl rfl (hb hby d13_4) _ ?_
  rw [len_of S307 M307]
  show GO p e below T306 (mkF m 5 #[.val (.ref x1)] [(.int 0)]) _
  refine XS.aloadN X306.here hx rfl (hb hby d13_5) rfl rfl ?_
  show GO p e below T306 (mkF m 6 #[.val (.ref x1)] [(.ref x1), (.int 0)]) _
  refine st308.trans ?_
  show GO p e below T308 (mkF m 9 #[.val (.ref x1)] [(.int 0), (.int 0)]) _
  refine XS.ishr X308.here hx rfl (hb hby d13_9) rfl ?_
  rw [show ((0 : Int32) >>> ((0 : Int32) &&& 31)) = (0 : Int32) from by decide]
  show GO p e below T308 (mkF m 10 #[.val (.ref x1)] [(.int 0)]) _
  exact retI X308 hx Bd.returns (hb hby d13_10) hr
 ·show Qrm_sl_0_0 Z x1 t1 k1 v1 z0 h0 n0 _ T308.heap _
  rw [e308]
  exact ⟨rfl, N308, rfl⟩
def Qrm_sl_1_0 (Z : State) (x1 : Addr) (t1 : Addr) (k1 : ClassId) (v1 : List Value) (z0 : Int32) (h0 : Heap) (n0 : Nat) (v : Option Value) (h : Heap) (L : List Loc) : Prop := v = some (.int 1) ∧ Fr n0 L ∧ h = h0
theorem ef_rm_sl_1_0 (m : MethodId) (x0 : Addr) : entryFrame m #[(.ref x0)] 1 = mkF m 0 #[.val (.ref x0)] [] := by first | rfl | (simp [entryFrame, mkF, argsToLocals, Value.category]; done)
theorem rm_sl_1_0 (l : Launch) (Z : State) (a0 : Array Value) (hw : HW Z a0) (ws : List Jvm.Cond) (x1 : Addr) (t1 : Addr) (k1 : ClassId) (v1 : List Value) (z0 : Int32) (h0 : Heap) (n0 : Nat) (Z0 : n0 ≤ h0.size) (O0 : Old Z n0 h0) (Es : Exa Z h0 x1 kS0) (Fc : Fld Z h0 x1 kS0 "coder" "B" (.int 0)) (Fv : Fld Z h0 x1 kS0 "value" "[B" (.ref t1)) (Vt : Arv Z h0 t1 k1 .byte (1 : Int32) v1 (.int 0)) (SZc : Sta Z Z.heap kS0 "COMPACT_STRINGS" "Z" (.int z0)) (hz0 : ¬ z0 = 0) :
  OwnM l Z h0 (⟨kS0, "length", "()I"⟩ : MethodName) (Jvm.Cond.code (⟨kS0, "length", "()I"⟩ : MethodName) jdk_42_method_54_code 1 (some .int) :: ws) (RM 1 0 0 13) #[(.ref x1)] (Qrm_sl_1_0 Z x1 t1 k1 v1 z0 h0 n0) := by
 refine MetFree.of_bodySF (plainFor_of_name pn_2) hisR ?_
 intro p e s m args below meth c s₁ Bd hml0 hP hK
 obtain ⟨rfl, hZ, hh⟩ := hP
 have hx := Bd.exec
 have hby := Bd.bytes
 have hml : c.maxLocals = 1 := hml0
 have hown : s.vm.findClass kS0 = some m.cls := findClass_of_methodNamed Bd.named
 have hnm := (name_of_methodNamed Bd.named Bd.method).1
 have X0 : Stand p l e (RM 1 0 0 13) s m #[(.ref x1)] below meth c s₁ [] 0 0 := Stand.of_body Bd
 have e0 : s₁.heap = h0 := by rw [← hh, Bd.state]; rfl
 have N0 := Fr.nil n0
 have pre0 : ∀ t, GO p e below s₁ (mkF m 0 #[.val (.ref x1)] []) t → GO p e below s₁ (entryFrame m #[(.ref x1)] 1) t := fun t k => castTop (ef_rm_sl_1_0 m x1) k
 have lt_Es := ltA Es.lt
 have lt_Fc := ltA Fc.lt
 have lt_Fv := ltA Fv.lt
 have lt_Vt := ltA Vt.lt
 obtain ⟨T309, X309, e309, st309⟩ := getF X0 hx hZ hown (host := "") (Or.inl (wd hw 71 rfl)) Via.refl e0 Fv (g := (mkF m 1 #[.val (.ref x1)] [(.ref x1)])) rfl rfl (hb hby d13_1)
 obtain ⟨cl310, Ar310, -, S310, M310, -, -⟩ := id Vt
 -- pc 6: String.coder by rm_sc0
 obtain ⟨cq311, kq311, q311a, q311b, q311c⟩ := isOf hZ e309 Es
 obtain ⟨_, _, ⟨T311, L311, k311, n311⟩, -, X311, ⟨Lc311, hQ311, l311, y311, z311⟩, st311⟩ := X309.virtualBack hx (y := (⟨kS0, "coder", "()B"⟩ : MethodName)) (z := (⟨kS0, "coder", "()B"⟩ : MethodName)) hown (mvT hZ (wd hw 78 rfl)) (mvT hZ (wd hw 79 rfl)) (notFace_of_selects (args := #[]) (mvT hZ (wd hw 81 rfl))) (mvT hZ (wd hw 81 rfl)) (mvT hZ (wd hw 80 rfl)) (by decide) (backOf (W := 1) (rm_sc0 l Z a0 hw [] x1 z0 h0 n0 Z0 O0 Fc (by first | assumption | decide | omega) (by first | assumption | decide | omega)) hZ (wd hw 82 rfl) (wd hw 46 rfl) (by decide) (by decide)) q311a q311c (g := (mkF m 6 #[.val (.ref x1)] [(.ref x1), (.int 1)])) rfl (by rw [hml]; rfl) (Steps.refl _) (argsL := []) (rest := [(.int 1)]) (lenOf pd_12 rfl) rfl (wz rfl) (hb hby d13_6) (fun _ _ => ⟨rfl, e309, (by decide : 0 + 0 ≤ _), (by decide : 0 + 0 ≤ _)⟩)
 dsimp only [Pt.U, Pt.locs, Pt.cells, Pt.slots] at X311 l311 y311 z311 st311 hQ311
 subst l311 y311 z311
 obtain ⟨rfl, N311q, e311⟩ := hQ311
 have N311 := Fr.app N0 N311q
 obtain ⟨fs, hr, hrun, hended, hW, hsame⟩ := X311.leave (v := some (.int 1)) (fun h => by rw [Bd.returns] at h; cases h)
 refine ⟨_, _, pre0 _ ?_, hrun, hended, _, _, rfl, ?_, ⟨_, rfl⟩, hW, hsame.mono (by decide) (by decide)⟩
 ·show GO p e below s₁ (mkF m 0 #[.val (.ref x1)] []) _
  refine XS.aloadN X0.here hx rfl (hb hby d13_0) rfl rfl ?_
  show GO p e below s₁ (mkF m 1 #[.val (.ref x1)] [(.ref x1)]) _
  refine st309 _ ?_
  show GO p e below T309 (mkF m 4 #[.val (.ref x1)] [(.ref t1)]) _
  refine X309.arraylength hx (by rw [e309]; exact Ar310.1) (State.isArrayOf_alike hZ.alike Ar310.2.1) (g := (mkF m 4 #[.val (.ref x1)] [(.ref t1)])) rfl rfl (hb hby d13_4) _ ?_
  rw [len_of S310 M310]
  show GO p e below T309 (mkF m 5 #[.val (.ref x1)] [(.int 1)]) _
  refine XS.aloadN X309.here hx rfl (hb hby d13_5) rfl rfl ?_
  show GO p e below T309 (mkF m 6 #[.val (.ref x1)] [(.ref x1), (.int 1)]) _
  refine st311.trans ?_
  show GO p e below T311 (mkF m 9 #[.val (.ref x1)] [(.int 0), (.int 1)]) _
  refine XS.ishr X311.here hx rfl (hb hby d13_9) rfl ?_
  rw [show ((1 : Int32) >>> ((0 : Int32) &&& 31)) = (1 : Int32) from by decide]
  show GO p e below T311 (mkF m 10 #[.val (.ref x1)] [(.int 1)]) _
  exact retI X311 hx Bd.returns (hb hby d13_10) hr
 ·show Qrm_sl_1_0 Z x1 t1 k1 v1 z0 h0 n0 _ T311.heap _
  rw [e311]
  exact ⟨rfl, N311, rfl⟩
def Qrm_lc_1_0 (Z : State) (t1 : Addr) (k1 : ClassId) (c1 : Int32) (u0 : Int32) (f0 : Value) (h0 : Heap) (n0 : Nat) (v : Option Value) (h : Heap) (L : List Loc) : Prop := v = some (.int c1) ∧ Fr n0 L ∧ h = h0
theorem ef_rm_lc_1_0 (m : MethodId) (x0 : Addr) (x1 : Int32) : entryFrame m #[(.ref x0), (.int x1)] 2 = mkF m 0 #[.val (.ref x0), .val (.int x1)] [] := by first | rfl | (simp [entryFrame, mkF, argsToLocals, Value.category]; done)
theorem rm_lc_1_0 (l : Launch) (Z : State) (a0 : Array Value) (hw : HW Z a0) (ws : List Jvm.Cond) (t1 : Addr) (k1 : ClassId) (c1 : Int32) (u0 : Int32) (f0 : Value) (h0 : Heap) (n0 : Nat) (Z0 : n0 ≤ h0.size) (O0 : Old Z n0 h0) (Vt : Arv Z h0 t1 k1 .byte (1 : Int32) [(.int u0)] (.int 0)) (SZf : Sta Z Z.heap kS3 "SIOOBE_FORMATTER" "Ljava/util/function/BiFunction;" f0) (rf0 : f0.isRef = true) (hc : nar .char ((u0 &&& (255 : Int32)).toUInt32.toUInt16.toUInt32.toInt32) = c1) :
  OwnM l Z h0 (⟨"java/lang/StringLatin1", "charAt", "([BI)C"⟩ : MethodName) (Jvm.Cond.code (⟨"java/lang/StringLatin1", "charAt", "([BI)C"⟩ : MethodName) jdk_43_method_2_code 2 (some .char) :: ws) (RM 2 0 0 27) #[(.ref t1), (.int 0)] (Qrm_lc_1_0 Z t1 k1 c1 u0 f0 h0 n0) := by
 refine MetFree.of_bodySF (plainFor_of_name pn_4) hisR ?_
 intro p e s m args below meth c s₁ Bd hml0 hP hK
 obtain ⟨rfl, hZ, hh⟩ := hP
 have hx := Bd.exec
 have hby := Bd.bytes
 have hml : c.maxLocals = 2 := hml0
 have hown : s.vm.findClass "java/lang/StringLatin1" = some m.cls := findClass_of_methodNamed Bd.named
 have hnm := (name_of_methodNamed Bd.named Bd.method).1
 have X0 : Stand p l e (RM 2 0 0 27) s m #[(.ref t1), (.int 0)] below meth c s₁ [] 0 0 := Stand.of_body Bd
 have e0 : s₁.heap = h0 := by rw [← hh, Bd.state]; rfl
 have N0 := Fr.nil n0
 have pre0 : ∀ t, GO p e below s₁ (mkF m 0 #[.val (.ref t1), .val (.int 0)] []) t → GO p e below s₁ (entryFrame m #[(.ref t1), (.int 0)] 2) t := fun t k => castTop (ef_rm_lc_1_0 m t1 ((0 : Int32))) k
 have lt_Vt := ltA Vt.lt
 obtain ⟨cl312, Ar312, -, S312, M312, -, -⟩ := id Vt
 -- pc 3: String.checkIndex by rm_sck
 obtain ⟨_, _, ⟨T313, L313, k313, n313⟩, -, X313, ⟨Lc313, hQ313, l313, y313, z313⟩, st313⟩ := Jvm.LawKit.callS X0 hx (y := (⟨kS0, "checkIndex", "(II)V"⟩ : MethodName)) hown (mvT hZ (wd hw 140 rfl)) (mvT hZ (wd hw 133 rfl)) (mvT hZ (wd hw 46 rfl)) (mvT hZ (wd hw 134 rfl)) (by decide) (backOf (W := 0) (rm_sck l Z a0 hw [] (0 : Int32) (1 : Int32) f0 h0 n0 Z0 O0 (by first | assumption | decide | omega) (by first | assumption | decide | omega) (by decide) (by decide)) hZ (wd hw 134 rfl) (wd hw 46 rfl) (by decide) (by decide)) (g := (mkF m 3 #[.val (.ref t1), .val (.int 0)] [(.int 1), (.int 0)])) rfl (by rw [hml]; rfl) (argsL := [(.int 0), (.int 1)]) (rest := []) (lenOf pd_13 rfl) rfl (wz rfl) (hb hby d29_3) (fun _ _ => ⟨rfl, e0, (by decide : 0 + 0 ≤ _), (by decide : 0 + 0 ≤ _)⟩)
 dsimp only [Pt.U, Pt.locs, Pt.cells, Pt.slots] at X313 l313 y313 z313 st313 hQ313
 subst l313 y313 z313
 obtain ⟨rfl, N313q, e313⟩ := hQ313
 have N313 := Fr.app N0 N313q
 obtain ⟨cl314, Ar314, q314, S314, M314, H314, G314⟩ := id Vt
 have hin314 : ¬ ((0 : Int32) < 0 ∨ cl314.slots.size ≤ ((0 : Int32)).toNatClampNeg) := inb_of S314 ⟨by decide, by decide⟩
 have hat314 : cl314.slots[((0 : Int32)).toNatClampNeg]? = some (.int u0) := Has.at H314 hin314 rfl
 obtain ⟨fs, hr, hrun, hended, hW, hsame⟩ := X313.leave (v := some (.int (nar .char ((u0 &&& (255 : Int32)).toUInt32.toUInt16.toUInt32.toInt32)))) (fun h => by rw [Bd.returns] at h; cases h)
 refine ⟨_, _, pre0 _ ?_, hrun, hended, _, _, rfl, ?_, ⟨_, rfl⟩, hW, hsame.mono (by decide) (by decide)⟩
 ·show GO p e below s₁ (mkF m 0 #[.val (.ref t1), .val (.int 0)] []) _
  refine XS.iloadN X0.here hx rfl (hb hby d29_0) rfl ?_
  show GO p e below s₁ (mkF m 1 #[.val (.ref t1), .val (.int 0)] [(.int 0)]) _
  refine XS.aloadN X0.here hx rfl (hb hby d29_1) rfl rfl ?_
  show GO p e below s₁ (mkF m 2 #[.val (.ref t1), .val (.int 0)] [(.ref t1), (.int 0)]) _
  refine X0.arraylength hx (by rw [e0]; exact Ar312.1) (State.isArrayOf_alike hZ.alike Ar312.2.1) (g := (mkF m 2 #[.val (.ref t1), .val (.int 0)] [(.ref t1), (.int 0)])) rfl rfl (hb hby d29_2) _ ?_
  rw [len_of S312 M312]
  show GO p e below s₁ (mkF m 3 #[.val (.ref t1), .val (.int 0)] [(.int 1), (.int 0)]) _
  refine st313 _ ?_
  show GO p e below T313 (mkF m 6 #[.val (.ref t1), .val (.int 0)] []) _
  refine XS.aloadN X313.here hx rfl (hb hby d29_6) rfl rfl ?_
  show GO p e below T313 (mkF m 7 #[.val (.ref t1), .val (.int 0)] [(.ref t1)]) _
  refine XS.iloadN X313.here hx rfl (hb hby d29_7) rfl ?_
  show GO p e below T313 (mkF m 8 #[.val (.ref t1), .val (.int 0)] [(.int 0), (.ref t1)]) _
  refine X313.baloadBytes hx (j := (0 : Int32)) (v := (.int u0)) (by rw [e313]; exact Ar314.1) (State.isArrayOf_alike hZ.alike Ar314.2.1) Ar314.2.2 hin314 hat314 (g := (mkF m 8 #[.val (.ref t1), .val (.int 0)] [(.int 0), (.ref t1)])) rfl rfl (hb hby d29_8) _ ?_
  show GO p e below T313 (mkF m 9 #[.val (.ref t1), .val (.int 0)] [(.int u0)]) _
  refine XS.sipush X313.here hx rfl (hb hby d29_9) ?_
  show GO p e below T313 (mkF m 12 #[.val (.ref t1), .val (.int 0)] [(.int 255), (.int u0)]) _
  refine XS.iand X313.here hx rfl (hb hby d29_12) rfl ?_
  show GO p e below T313 (mkF m 13 #[.val (.ref t1), .val (.int 0)] [(.int (u0 &&& (255 : Int32)))]) _
  refine XS.i2c X313.here hx rfl (hb hby d29_13) rfl ?_
  show GO p e below T313 (mkF m 14 #[.val (.ref t1), .val (.int 0)] [(.int ((u0 &&& (255 : Int32)).toUInt32.toUInt16.toUInt32.toInt32))]) _
  exact retN X313 hx (t := .char) Bd.returns (by simp) (hb hby d29_14) hr
 ·show Qrm_lc_1_0 Z t1 k1 c1 u0 f0 h0 n0 _ T313.heap _
  rw [e313]
  exact ⟨(by rw [hc]), N313, rfl⟩
def Qrm_at_1_0_0 (Z : State) (x1 : Addr) (t1 : Addr) (k1 : ClassId) (u0 : Int32) (c1 : Int32) (z0 : Int32) (f0 : Value) (h0 : Heap) (n0 : Nat) (v : Option Value) (h : Heap) (L : List Loc) : Prop := v = some (.int c1) ∧ Fr n0 L ∧ h = h0
theorem ef_rm_at_1_0_0 (m : MethodId) (x0 : Addr) (x1 : Int32) : entryFrame m #[(.ref x0), (.int x1)] 2 = mkF m 0 #[.val (.ref x0), .val (.int x1)] [] := by first | rfl | (simp [entryFrame, mkF, argsToLocals, Value.category]; done)
theorem rm_at_1_0_0 (l : Launch) (Z : State) (a0 : Array Value) (hw : HW Z a0) (ws : List Jvm.Cond) (x1 : Addr) (t1 : Addr) (k1 : ClassId) (u0 : Int32) (c1 : Int32) (z0 : Int32) (f0 : Value) (h0 : Heap) (n0 : Nat) (Z0 : n0 ≤ h0.size) (O0 : Old Z n0 h0) (Es : Exa Z h0 x1 kS0) (Fc : Fld Z h0 x1 kS0 "coder" "B" (.int 0)) (Fv : Fld Z h0 x1 kS0 "value" "[B" (.ref t1)) (Vt : Arv Z h0 t1 k1 .byte (1 : Int32) [(.int u0)] (.int 0)) (SZc : Sta Z Z.heap kS0 "COMPACT_STRINGS" "Z" (.int z0)) (hz0 : ¬ z0 = 0) (SZf : Sta Z Z.heap kS3 "SIOOBE_FORMATTER" "Ljava/util/function/BiFunction;" f0) (rf0 : f0.isRef = true) (hc : nar .char ((u0 &&& (255 : Int32)).toUInt32.toUInt16.toUInt32.toInt32) = c1) (hcc : nar .char c1 = c1) :
  OwnM l Z h0 (⟨kS0, "charAt", "(I)C"⟩ : MethodName) (Jvm.Cond.code (⟨kS0, "charAt", "(I)C"⟩ : MethodName) jdk_42_method_56_code 2 (some .char) :: ws) (RM 3 0 0 40) #[(.ref x1), (.int 0)] (Qrm_at_1_0_0 Z x1 t1 k1 u0 c1 z0 f0 h0 n0) := by
 refine MetFree.of_bodySF (plainFor_of_name pn_2) hisR ?_
 intro p e s m args below meth c s₁ Bd hml0 hP hK
 obtain ⟨rfl, hZ, hh⟩ := hP
 have hx := Bd.exec
 have hby := Bd.bytes
 have hml : c.maxLocals = 2 := hml0
 have hown : s.vm.findClass kS0 = some m.cls := findClass_of_methodNamed Bd.named
 have hnm := (name_of_methodNamed Bd.named Bd.method).1
 have X0 : Stand p l e (RM 3 0 0 40) s m #[(.ref x1), (.int 0)] below meth c s₁ [] 0 0 := Stand.of_body Bd
 have e0 : s₁.heap = h0 := by rw [← hh, Bd.state]; rfl
 have N0 := Fr.nil n0
 have pre0 : ∀ t, GO p e below s₁ (mkF m 0 #[.val (.ref x1), .val (.int 0)] []) t → GO p e below s₁ (entryFrame m #[(.ref x1), (.int 0)] 2) t := fun t k => castTop (ef_rm_at_1_0_0 m x1 ((0 : Int32))) k
 have lt_Es := ltA Es.lt
 have lt_Fc := ltA Fc.lt
 have lt_Fv := ltA Fv.lt
 have lt_Vt := ltA Vt.lt
 -- pc 1: String.isLatin1 by rm_isl0
 obtain ⟨cq315, kq315, q315a, q315b, q315c⟩ := isOf hZ e0 Es
 obtain ⟨_, _, ⟨T315, L315, k315, n315⟩, -, X315, ⟨Lc315, hQ315, l315, y315, z315⟩, st315⟩ := X0.virtualBack hx (y := (⟨kS0, "isLatin1", "()Z"⟩ : MethodName)) (z := (⟨kS0, "isLatin1", "()Z"⟩ : MethodName)) hown (mvT hZ (wd hw 118 rfl)) (mvT hZ (wd hw 119 rfl)) (notFace_of_selects (args := #[]) (mvT hZ (wd hw 121 rfl))) (mvT hZ (wd hw 121 rfl)) (mvT hZ (wd hw 120 rfl)) (by decide) (backOf (W := 0) (rm_isl0 l Z a0 hw [] x1 z0 h0 n0 Z0 O0 Fc (by first | assumption | decide | omega) (by first | assumption | decide | omega)) hZ (wd hw 122 rfl) (wd hw 46 rfl) (by decide) (by decide)) q315a q315c (g := (mkF m 1 #[.val (.ref x1), .val (.int 0)] [(.ref x1)])) rfl (by rw [hml]; rfl) (Steps.refl _) (argsL := []) (rest := []) (lenOf pd_14 rfl) rfl (wz rfl) (hb hby d23_1) (fun _ _ => ⟨rfl, e0, (by decide : 0 + 0 ≤ _), (by decide : 0 + 0 ≤ _)⟩)
 dsimp only [Pt.U, Pt.locs, Pt.cells, Pt.slots] at X315 l315 y315 z315 st315 hQ315
 subst l315 y315 z315
 obtain ⟨rfl, N315q, e315⟩ := hQ315
 have N315 := Fr.app N0 N315q
 obtain ⟨T316, X316, e316, st316⟩ := getF X315 hx hZ hown (host := "") (Or.inl (wd hw 71 rfl)) Via.refl e315 Fv (g := (mkF m 8 #[.val (.ref x1), .val (.int 0)] [(.ref x1)])) rfl rfl (hb hby d23_8)
 -- pc 12: StringLatin1.charAt by rm_lc_1_0
 obtain ⟨_, _, ⟨T317, L317, k317, n317⟩, -, X317, ⟨Lc317, hQ317, l317, y317, z317⟩, st317⟩ := Jvm.LawKit.callS X316 hx (y := (⟨"java/lang/StringLatin1", "charAt", "([BI)C"⟩ : MethodName)) hown (mvT hZ (wd hw 136 rfl)) (mvT hZ (wd hw 137 rfl)) (mvT hZ (wd hw 138 rfl)) (mvT hZ (wd hw 139 rfl)) (by decide) (backOf (W := 0) (rm_lc_1_0 l Z a0 hw [] t1 k1 c1 u0 f0 h0 n0 Z0 O0 Vt (by first | assumption | decide | omega) (by first | assumption | decide | omega) hc) hZ (wd hw 139 rfl) (wd hw 138 rfl) (by decide) (by decide)) (g := (mkF m 12 #[.val (.ref x1), .val (.int 0)] [(.int 0), (.ref t1)])) rfl (by rw [hml]; rfl) (argsL := [(.ref t1), (.int 0)]) (rest := []) (lenOf pd_11 rfl) rfl (wz rfl) (hb hby d23_12) (fun _ _ => ⟨rfl, e316, (by decide : 0 + 0 ≤ _), (by decide : 0 + 0 ≤ _)⟩)
 dsimp only [Pt.U, Pt.locs, Pt.cells, Pt.slots] at X317 l317 y317 z317 st317 hQ317
 subst l317 y317 z317
 obtain ⟨rfl, N317q, e317⟩ := hQ317
 have N317 := Fr.app N315 N317q
 obtain ⟨fs, hr, hrun, hended, hW, hsame⟩ := X317.leave (v := some (.int (nar .char c1))) (fun h => by rw [Bd.returns] at h; cases h)
 refine ⟨_, _, pre0 _ ?_, hrun, hended, _, _, rfl, ?_, ⟨_, rfl⟩, hW, hsame.mono (by decide) (by decide)⟩
 ·show GO p e below s₁ (mkF m 0 #[.val (.ref x1), .val (.int 0)] []) _
  refine XS.aloadN X0.here hx rfl (hb hby d23_0) rfl rfl ?_
  show GO p e below s₁ (mkF m 1 #[.val (.ref x1), .val (.int 0)] [(.ref x1)]) _
  refine st315.trans ?_
  show GO p e below T315 (mkF m 4 #[.val (.ref x1), .val (.int 0)] [(.int 1)]) _
  refine XS.ifNo X315.here hx rfl (hb hby d23_4) rfl ((if0 _ _).trans (feq ((by decide) : ¬ ((1 : Int32) = (0 : Int32)))).1) ?_
  show GO p e below T315 (mkF m 7 #[.val (.ref x1), .val (.int 0)] []) _
  refine XS.aloadN X315.here hx rfl (hb hby d23_7) rfl rfl ?_
  show GO p e below T315 (mkF m 8 #[.val (.ref x1), .val (.int 0)] [(.ref x1)]) _
  refine st316 _ ?_
  show GO p e below T316 (mkF m 11 #[.val (.ref x1), .val (.int 0)] [(.ref t1)]) _
  refine XS.iloadN X316.here hx rfl (hb hby d23_11) rfl ?_
  show GO p e below T316 (mkF m 12 #[.val (.ref x1), .val (.int 0)] [(.int 0), (.ref t1)]) _
  refine st317 _ ?_
  show GO p e below T317 (mkF m 15 #[.val (.ref x1), .val (.int 0)] [(.int c1)]) _
  exact retN X317 hx (t := .char) Bd.returns (by simp) (hb hby d23_15) hr
 ·show Qrm_at_1_0_0 Z x1 t1 k1 u0 c1 z0 f0 h0 n0 _ T317.heap _
  rw [e317]
  exact ⟨(by rw [hcc]), N317, rfl⟩
def Qrm_sl_2_0 (Z : State) (x1 : Addr) (t1 : Addr) (k1 : ClassId) (v1 : List Value) (z0 : Int32) (h0 : Heap) (n0 : Nat) (v : Option Value) (h : Heap) (L : List Loc) : Prop := v = some (.int 2) ∧ Fr n0 L ∧ h = h0
theorem ef_rm_sl_2_0 (m : MethodId) (x0 : Addr) : entryFrame m #[(.ref x0)] 1 = mkF m 0 #[.val (.ref x0)] [] := by first | rfl | (simp [entryFrame, mkF, argsToLocals, Value.category]; done)
theorem rm_sl_2_0 (l : Launch) (Z : State) (a0 : Array Value) (hw : HW Z a0) (ws : List Jvm.Cond) (x1 : Addr) (t1 : Addr) (k1 : ClassId) (v1 : List Value) (z0 : Int32) (h0 : Heap) (n0 : Nat) (Z0 : n0 ≤ h0.size) (O0 : Old Z n0 h0) (Es : Exa Z h0 x1 kS0) (Fc : Fld Z h0 x1 kS0 "coder" "B" (.int 0)) (Fv : Fld Z h0 x1 kS0 "value" "[B" (.ref t1)) (Vt : Arv Z h0 t1 k1 .byte (2 : Int32) v1 (.int 0)) (SZc : Sta Z Z.heap kS0 "COMPACT_STRINGS" "Z" (.int z0)) (hz0 : ¬ z0 = 0) :
  OwnM l Z h0 (⟨kS0, "length", "()I"⟩ : MethodName) (Jvm.Cond.code (⟨kS0, "length", "()I"⟩ : MethodName) jdk_42_method_54_code 1 (some .int) :: ws) (RM 1 0 0 13) #[(.ref x1)] (Qrm_sl_2_0 Z x1 t1 k1 v1 z0 h0 n0) := by
 refine MetFree.of_bodySF (plainFor_of_name pn_2) hisR ?_
 intro p e s m args below meth c s₁ Bd hml0 hP hK
 obtain ⟨rfl, hZ, hh⟩ := hP
 have hx := Bd.exec
 have hby := Bd.bytes
 have hml : c.maxLocals = 1 := hml0
 have hown : s.vm.findClass kS0 = some m.cls := findClass_of_methodNamed Bd.named
 have hnm := (name_of_methodNamed Bd.named Bd.method).1
 have X0 : Stand p l e (RM 1 0 0 13) s m #[(.ref x1)] below meth c s₁ [] 0 0 := Stand.of_body Bd
 have e0 : s₁.heap = h0 := by rw [← hh, Bd.state]; rfl
 have N0 := Fr.nil n0
 have pre0 : ∀ t, GO p e below s₁ (mkF m 0 #[.val (.ref x1)] []) t → GO p e below s₁ (entryFrame m #[(.ref x1)] 1) t := fun t k => castTop (ef_rm_sl_2_0 m x1) k
 have lt_Es := ltA Es.lt
 have lt_Fc := ltA Fc.lt
 have lt_Fv := ltA Fv.lt
 have lt_Vt := ltA Vt.lt
 obtain ⟨T318, X318, e318, st318⟩ := getF X0 hx hZ hown (host := "") (Or.inl (wd hw 71 rfl)) Via.refl e0 Fv (g := (mkF m 1 #[.val (.ref x1)] [(.ref x1)])) rfl rfl (hb hby d13_1)
 obtain ⟨cl319, Ar319, -, S319, M319, -, -⟩ := id Vt
 -- pc 6: String.coder by rm_sc0
 obtain ⟨cq320, kq320, q320a, q320b, q320c⟩ := isOf hZ e318 Es
 obtain ⟨_, _, ⟨T320, L320, k320, n320⟩, -, X320, ⟨Lc320, hQ320, l320, y320, z320⟩, st320⟩ := X318.virtualBack hx (y := (⟨kS0, "coder", "()B"⟩ : MethodName)) (z := (⟨kS0, "coder", "()B"⟩ : MethodName)) hown (mvT hZ (wd hw 78 rfl)) (mvT hZ (wd hw 79 rfl)) (notFace_of_selects (args := #[]) (mvT hZ (wd hw 81 rfl))) (mvT hZ (wd hw 81 rfl)) (mvT hZ (wd hw 80 rfl)) (by decide) (backOf (W := 1) (rm_sc0 l Z a0 hw [] x1 z0 h0 n0 Z0 O0 Fc (by first | assumption | decide | omega) (by first | assumption | decide | omega)) hZ (wd hw 82 rfl) (wd hw 46 rfl) (by decide) (by decide)) q320a q320c (g := (mkF m 6 #[.val (.ref x1)] [(.ref x1), (.int 2)])) rfl (by rw [hml]; rfl) (Steps.refl _) (argsL := []) (rest := [(.int 2)]) (lenOf pd_12 rfl) rfl (wz rfl) (hb hby d13_6) (fun _ _ => ⟨rfl, e318, (by decide : 0 + 0 ≤ _), (by decide : 0 + 0 ≤ _)⟩)
 dsimp only [Pt.U, Pt.locs, Pt.cells, Pt.slots] at X320 l320 y320 z320 st320 hQ320
 subst l320 y320 z320
 obtain ⟨rfl, N320q, e320⟩ := hQ320
 have N320 := Fr.app N0 N320q
 obtain ⟨fs, hr, hrun, hended, hW, hsame⟩ := X320.leave (v := some (.int 2)) (fun h => by rw [Bd.returns] at h; cases h)
 refine ⟨_, _, pre0 _ ?_, hrun, hended, _, _, rfl, ?_, ⟨_, rfl⟩, hW, hsame.mono (by decide) (by decide)⟩
 ·show GO p e below s₁ (mkF m 0 #[.val (.ref x1)] []) _
  refine XS.aloadN X0.here hx rfl (hb hby d13_0) rfl rfl ?_
  show GO p e below s₁ (mkF m 1 #[.val (.ref x1)] [(.ref x1)]) _
  refine st318 _ ?_
  show GO p e below T318 (mkF m 4 #[.val (.ref x1)] [(.ref t1)]) _
  refine X318.arraylength hx (by rw [e318]; exact Ar319.1) (State.isArrayOf_alike hZ.alike Ar319.2.1) (g := (mkF m 4 #[.val (.ref x1)] [(.ref t1)])) rfl rfl (hb hby d13_4) _ ?_
  rw [len_of S319 M319]
  show GO p e below T318 (mkF m 5 #[.val (.ref x1)] [(.int 2)]) _
  refine XS.aloadN X318.here hx rfl (hb hby d13_5) rfl rfl ?_
  show GO p e below T318 (mkF m 6 #[.val (.ref x1)] [(.ref x1), (.int 2)]) _
  refine st320.trans ?_
  show GO p e below T320 (mkF m 9 #[.val (.ref x1)] [(.int 0), (.int 2)]) _
  refine XS.ishr X320.here hx rfl (hb hby d13_9) rfl ?_
  rw [show ((2 : Int32) >>> ((0 : Int32) &&& 31)) = (2 : Int32) from by decide]
  show GO p e below T320 (mkF m 10 #[.val (.ref x1)] [(.int 2)]) _
  exact retI X320 hx Bd.returns (hb hby d13_10) hr
 ·show Qrm_sl_2_0 Z x1 t1 k1 v1 z0 h0 n0 _ T320.heap _
  rw [e320]
  exact ⟨rfl, N320, rfl⟩
def Qrm_lc_2_0 (Z : State) (t1 : Addr) (k1 : ClassId) (c1 : Int32) (u0 : Int32) (u1 : Int32) (f0 : Value) (h0 : Heap) (n0 : Nat) (v : Option Value) (h : Heap) (L : List Loc) : Prop := v = some (.int c1) ∧ Fr n0 L ∧ h = h0
theorem ef_rm_lc_2_0 (m : MethodId) (x0 : Addr) (x1 : Int32) : entryFrame m #[(.ref x0), (.int x1)] 2 = mkF m 0 #[.val (.ref x0), .val (.int x1)] [] := by first | rfl | (simp [entryFrame, mkF, argsToLocals, Value.category]; done)
theorem rm_lc_2_0 (l : Launch) (Z : State) (a0 : Array Value) (hw : HW Z a0) (ws : List Jvm.Cond) (t1 : Addr) (k1 : ClassId) (c1 : Int32) (u0 : Int32) (u1 : Int32) (f0 : Value) (h0 : Heap) (n0 : Nat) (Z0 : n0 ≤ h0.size) (O0 : Old Z n0 h0) (Vt : Arv Z h0 t1 k1 .byte (2 : Int32) [(.int u0), (.int u1)] (.int 0)) (SZf : Sta Z Z.heap kS3 "SIOOBE_FORMATTER" "Ljava/util/function/BiFunction;" f0) (rf0 : f0.isRef = true) (hc : nar .char ((u0 &&& (255 : Int32)).toUInt32.toUInt16.toUInt32.toInt32) = c1) :
  OwnM l Z h0 (⟨"java/lang/StringLatin1", "charAt", "([BI)C"⟩ : MethodName) (Jvm.Cond.code (⟨"java/lang/StringLatin1", "charAt", "([BI)C"⟩ : MethodName) jdk_43_method_2_code 2 (some .char) :: ws) (RM 2 0 0 27) #[(.ref t1), (.int 0)] (Qrm_lc_2_0 Z t1 k1 c1 u0 u1 f0 h0 n0) := by
 refine MetFree.of_bodySF (plainFor_of_name pn_4) hisR ?_
 intro p e s m args below meth c s₁ Bd hml0 hP hK
 obtain ⟨rfl, hZ, hh⟩ := hP
 have hx := Bd.exec
 have hby := Bd.bytes
 have hml : c.maxLocals = 2 := hml0
 have hown : s.vm.findClass "java/lang/StringLatin1" = some m.cls := findClass_of_methodNamed Bd.named
 have hnm := (name_of_methodNamed Bd.named Bd.method).1
 have X0 : Stand p l e (RM 2 0 0 27) s m #[(.ref t1), (.int 0)] below meth c s₁ [] 0 0 := Stand.of_body Bd
 have e0 : s₁.heap = h0 := by rw [← hh, Bd.state]; rfl
 have N0 := Fr.nil n0
 have pre0 : ∀ t, GO p e below s₁ (mkF m 0 #[.val (.ref t1), .val (.int 0)] []) t → GO p e below s₁ (entryFrame m #[(.ref t1), (.int 0)] 2) t := fun t k => castTop (ef_rm_lc_2_0 m t1 ((0 : Int32))) k
 have lt_Vt := ltA Vt.lt
 obtain ⟨cl321, Ar321, -, S321, M321, -, -⟩ := id Vt
 -- pc 3: String.checkIndex by rm_sck
 obtain ⟨_, _, ⟨T322, L322, k322, n322⟩, -, X322, ⟨Lc322, hQ322, l322, y322, z322⟩, st322⟩ := Jvm.LawKit.callS X0 hx (y := (⟨kS0, "checkIndex", "(II)V"⟩ : MethodName)) hown (mvT hZ (wd hw 140 rfl)) (mvT hZ (wd hw 133 rfl)) (mvT hZ (wd hw 46 rfl)) (mvT hZ (wd hw 134 rfl)) (by decide) (backOf (W := 0) (rm_sck l Z a0 hw [] (0 : Int32) (2 : Int32) f0 h0 n0 Z0 O0 (by first | assumption | decide | omega) (by first | assumption | decide | omega) (by decide) (by decide)) hZ (wd hw 134 rfl) (wd hw 46 rfl) (by decide) (by decide)) (g := (mkF m 3 #[.val (.ref t1), .val (.int 0)] [(.int 2), (.int 0)])) rfl (by rw [hml]; rfl) (argsL := [(.int 0), (.int 2)]) (rest := []) (lenOf pd_13 rfl) rfl (wz rfl) (hb hby d29_3) (fun _ _ => ⟨rfl, e0, (by decide : 0 + 0 ≤ _), (by decide : 0 + 0 ≤ _)⟩)
 dsimp only [Pt.U, Pt.locs, Pt.cells, Pt.slots] at X322 l322 y322 z322 st322 hQ322
 subst l322 y322 z322
 obtain ⟨rfl, N322q, e322⟩ := hQ322
 have N322 := Fr.app N0 N322q
 obtain ⟨cl323, Ar323, q323, S323, M323, H323, G323⟩ := id Vt
 have hin323 : ¬ ((0 : Int32) < 0 ∨ cl323.slots.size ≤ ((0 : Int32)).toNatClampNeg) := inb_of S323 ⟨by decide, by decide⟩
 have hat323 : cl323.slots[((0 : Int32)).toNatClampNeg]? = some (.int u0) := Has.at H323 hin323 rfl
 obtain ⟨fs, hr, hrun, hended, hW, hsame⟩ := X322.leave (v := some (.int (nar .char ((u0 &&& (255 : Int32)).toUInt32.toUInt16.toUInt32.toInt32)))) (fun h => by rw [Bd.returns] at h; cases h)
 refine ⟨_, _, pre0 _ ?_, hrun, hended, _, _, rfl, ?_, ⟨_, rfl⟩, hW, hsame.mono (by decide) (by decide)⟩
 ·show GO p e below s₁ (mkF m 0 #[.val (.ref t1), .val (.int 0)] []) _
  refine XS.iloadN X0.here hx rfl (hb hby d29_0) rfl ?_
  show GO p e below s₁ (mkF m 1 #[.val (.ref t1), .val (.int 0)] [(.int 0)]) _
  refine XS.aloadN X0.here hx rfl (hb hby d29_1) rfl rfl ?_
  show GO p e below s₁ (mkF m 2 #[.val (.ref t1), .val (.int 0)] [(.ref t1), (.int 0)]) _
  refine X0.arraylength hx (by rw [e0]; exact Ar321.1) (State.isArrayOf_alike hZ.alike Ar321.2.1) (g := (mkF m 2 #[.val (.ref t1), .val (.int 0)] [(.ref t1), (.int 0)])) rfl rfl (hb hby d29_2) _ ?_
  rw [len_of S321 M321]
  show GO p e below s₁ (mkF m 3 #[.val (.ref t1), .val (.int 0)] [(.int 2), (.int 0)]) _
  refine st322 _ ?_
  show GO p e below T322 (mkF m 6 #[.val (.ref t1), .val (.int 0)] []) _
  refine XS.aloadN X322.here hx rfl (hb hby d29_6) rfl rfl ?_
  show GO p e below T322 (mkF m 7 #[.val (.ref t1), .val (.int 0)] [(.ref t1)]) _
  refine XS.iloadN X322.here hx rfl (hb hby d29_7) rfl ?_
  show GO p e below T322 (mkF m 8 #[.val (.ref t1), .val (.int 0)] [(.int 0), (.ref t1)]) _
  refine X322.baloadBytes hx (j := (0 : Int32)) (v := (.int u0)) (by rw [e322]; exact Ar323.1) (State.isArrayOf_alike hZ.alike Ar323.2.1) Ar323.2.2 hin323 hat323 (g := (mkF m 8 #[.val (.ref t1), .val (.int 0)] [(.int 0), (.ref t1)])) rfl rfl (hb hby d29_8) _ ?_
  show GO p e below T322 (mkF m 9 #[.val (.ref t1), .val (.int 0)] [(.int u0)]) _
  refine XS.sipush X322.here hx rfl (hb hby d29_9) ?_
  show GO p e below T322 (mkF m 12 #[.val (.ref t1), .val (.int 0)] [(.int 255), (.int u0)]) _
  refine XS.iand X322.here hx rfl (hb hby d29_12) rfl ?_
  show GO p e below T322 (mkF m 13 #[.val (.ref t1), .val (.int 0)] [(.int (u0 &&& (255 : Int32)))]) _
  refine XS.i2c X322.here hx rfl (hb hby d29_13) rfl ?_
  show GO p e below T322 (mkF m 14 #[.val (.ref t1), .val (.int 0)] [(.int ((u0 &&& (255 : Int32)).toUInt32.toUInt16.toUInt32.toInt32))]) _
  exact retN X322 hx (t := .char) Bd.returns (by simp) (hb hby d29_14) hr
 ·show Qrm_lc_2_0 Z t1 k1 c1 u0 u1 f0 h0 n0 _ T322.heap _
  rw [e322]
  exact ⟨(by rw [hc]), N322, rfl⟩
def Qrm_at_2_0_0 (Z : State) (x1 : Addr) (t1 : Addr) (k1 : ClassId) (u0 : Int32) (u1 : Int32) (c1 : Int32) (z0 : Int32) (f0 : Value) (h0 : Heap) (n0 : Nat) (v : Option Value) (h : Heap) (L : List Loc) : Prop := v = some (.int c1) ∧ Fr n0 L ∧ h = h0
theorem ef_rm_at_2_0_0 (m : MethodId) (x0 : Addr) (x1 : Int32) : entryFrame m #[(.ref x0), (.int x1)] 2 = mkF m 0 #[.val (.ref x0), .val (.int x1)] [] := by first | rfl | (simp [entryFrame, mkF, argsToLocals, Value.category]; done)
theorem rm_at_2_0_0 (l : Launch) (Z : State) (a0 : Array Value) (hw : HW Z a0) (ws : List Jvm.Cond) (x1 : Addr) (t1 : Addr) (k1 : ClassId) (u0 : Int32) (u1 : Int32) (c1 : Int32) (z0 : Int32) (f0 : Value) (h0 : Heap) (n0 : Nat) (Z0 : n0 ≤ h0.size) (O0 : Old Z n0 h0) (Es : Exa Z h0 x1 kS0) (Fc : Fld Z h0 x1 kS0 "coder" "B" (.int 0)) (Fv : Fld Z h0 x1 kS0 "value" "[B" (.ref t1)) (Vt : Arv Z h0 t1 k1 .byte (2 : Int32) [(.int u0), (.int u1)] (.int 0)) (SZc : Sta Z Z.heap kS0 "COMPACT_STRINGS" "Z" (.int z0)) (hz0 : ¬ z0 = 0) (SZf : Sta Z Z.heap kS3 "SIOOBE_FORMATTER" "Ljava/util/function/BiFunction;" f0) (rf0 : f0.isRef = true) (hc : nar .char ((u0 &&& (255 : Int32)).toUInt32.toUInt16.toUInt32.toInt32) = c1) (hcc : nar .char c1 = c1) :
  OwnM l Z h0 (⟨kS0, "charAt", "(I)C"⟩ : MethodName) (Jvm.Cond.code (⟨kS0, "charAt", "(I)C"⟩ : MethodName) jdk_42_method_56_code 2 (some .char) :: ws) (RM 3 0 0 40) #[(.ref x1), (.int 0)] (Qrm_at_2_0_0 Z x1 t1 k1 u0 u1 c1 z0 f0 h0 n0) := by
 refine MetFree.of_bodySF (plainFor_of_name pn_2) hisR ?_
 intro p e s m args below meth c s₁ Bd hml0 hP hK
 obtain ⟨rfl, hZ, hh⟩ := hP
 have hx := Bd.exec
 have hby := Bd.bytes
 have hml : c.maxLocals = 2 := hml0
 have hown : s.vm.findClass kS0 = some m.cls := findClass_of_methodNamed Bd.named
 have hnm := (name_of_methodNamed Bd.named Bd.method).1
 have X0 : Stand p l e (RM 3 0 0 40) s m #[(.ref x1), (.int 0)] below meth c s₁ [] 0 0 := Stand.of_body Bd
 have e0 : s₁.heap = h0 := by rw [← hh, Bd.state]; rfl
 have N0 := Fr.nil n0
 have pre0 : ∀ t, GO p e below s₁ (mkF m 0 #[.val (.ref x1), .val (.int 0)] []) t → GO p e below s₁ (entryFrame m #[(.ref x1), (.int 0)] 2) t := fun t k => castTop (ef_rm_at_2_0_0 m x1 ((0 : Int32))) k
 have lt_Es := ltA Es.lt
 have lt_Fc := ltA Fc.lt
 have lt_Fv := ltA Fv.lt
 have lt_Vt := ltA Vt.lt
 -- pc 1: String.isLatin1 by rm_isl0
 obtain ⟨cq324, kq324, q324a, q324b, q324c⟩ := isOf hZ e0 Es
 obtain ⟨_, _, ⟨T324, L324, k324, n324⟩, -, X324, ⟨Lc324, hQ324, l324, y324, z324⟩, st324⟩ := X0.virtualBack hx (y := (⟨kS0, "isLatin1", "()Z"⟩ : MethodName)) (z := (⟨kS0, "isLatin1", "()Z"⟩ : MethodName)) hown (mvT hZ (wd hw 118 rfl)) (mvT hZ (wd hw 119 rfl)) (notFace_of_selects (args := #[]) (mvT hZ (wd hw 121 rfl))) (mvT hZ (wd hw 121 rfl)) (mvT hZ (wd hw 120 rfl)) (by decide) (backOf (W := 0) (rm_isl0 l Z a0 hw [] x1 z0 h0 n0 Z0 O0 Fc (by first | assumption | decide | omega) (by first | assumption | decide | omega)) hZ (wd hw 122 rfl) (wd hw 46 rfl) (by decide) (by decide)) q324a q324c (g := (mkF m 1 #[.val (.ref x1), .val (.int 0)] [(.ref x1)])) rfl (by rw [hml]; rfl) (Steps.refl _) (argsL := []) (rest := []) (lenOf pd_14 rfl) rfl (wz rfl) (hb hby d23_1) (fun _ _ => ⟨rfl, e0, (by decide : 0 + 0 ≤ _), (by decide : 0 + 0 ≤ _)⟩)
 dsimp only [Pt.U, Pt.locs, Pt.cells, Pt.slots] at X324 l324 y324 z324 st324 hQ324
 subst l324 y324 z324
 obtain ⟨rfl, N324q, e324⟩ := hQ324
 have N324 := Fr.app N0 N324q
 obtain ⟨T325, X325, e325, st325⟩ := getF X324 hx hZ hown (host := "") (Or.inl (wd hw 71 rfl)) Via.refl e324 Fv (g := (mkF m 8 #[.val (.ref x1), .val (.int 0)] [(.ref x1)])) rfl rfl (hb hby d23_8)
 -- pc 12: StringLatin1.charAt by rm_lc_2_0
 obtain ⟨_, _, ⟨T326, L326, k326, n326⟩, -, X326, ⟨Lc326, hQ326, l326, y326, z326⟩, st326⟩ := Jvm.LawKit.callS X325 hx (y := (⟨"java/lang/StringLatin1", "charAt", "([BI)C"⟩ : MethodName)) hown (mvT hZ (wd hw 136 rfl)) (mvT hZ (wd hw 137 rfl)) (mvT hZ (wd hw 138 rfl)) (mvT hZ (wd hw 139 rfl)) (by decide) (backOf (W := 0) (rm_lc_2_0 l Z a0 hw [] t1 k1 c1 u0 u1 f0 h0 n0 Z0 O0 Vt (by first | assumption | decide | omega) (by first | assumption | decide | omega) hc) hZ (wd hw 139 rfl) (wd hw 138 rfl) (by decide) (by decide)) (g := (mkF m 12 #[.val (.ref x1), .val (.int 0)] [(.int 0), (.ref t1)])) rfl (by rw [hml]; rfl) (argsL := [(.ref t1), (.int 0)]) (rest := []) (lenOf pd_11 rfl) rfl (wz rfl) (hb hby d23_12) (fun _ _ => ⟨rfl, e325, (by decide : 0 + 0 ≤ _), (by decide : 0 + 0 ≤ _)⟩)
 dsimp only [Pt.U, Pt.locs, Pt.cells, Pt.slots] at X326 l326 y326 z326 st326 hQ326
 subst l326 y326 z326
 obtain ⟨rfl, N326q, e326⟩ := hQ326
 have N326 := Fr.app N324 N326q
 obtain ⟨fs, hr, hrun, hended, hW, hsame⟩ := X326.leave (v := some (.int (nar .char c1))) (fun h => by rw [Bd.returns] at h; cases h)
 refine ⟨_, _, pre0 _ ?_, hrun, hended, _, _, rfl, ?_, ⟨_, rfl⟩, hW, hsame.mono (by decide) (by decide)⟩
 ·show GO p e below s₁ (mkF m 0 #[.val (.ref x1), .val (.int 0)] []) _
  refine XS.aloadN X0.here hx rfl (hb hby d23_0) rfl rfl ?_
  show GO p e below s₁ (mkF m 1 #[.val (.ref x1), .val (.int 0)] [(.ref x1)]) _
  refine st324.trans ?_
  show GO p e below T324 (mkF m 4 #[.val (.ref x1), .val (.int 0)] [(.int 1)]) _
  refine XS.ifNo X324.here hx rfl (hb hby d23_4) rfl ((if0 _ _).trans (feq ((by decide) : ¬ ((1 : Int32) = (0 : Int32)))).1) ?_
  show GO p e below T324 (mkF m 7 #[.val (.ref x1), .val (.int 0)] []) _
  refine XS.aloadN X324.here hx rfl (hb hby d23_7) rfl rfl ?_
  show GO p e below T324 (mkF m 8 #[.val (.ref x1), .val (.int 0)] [(.ref x1)]) _
  refine st325 _ ?_
  show GO p e below T325 (mkF m 11 #[.val (.ref x1), .val (.int 0)] [(.ref t1)]) _
  refine XS.iloadN X325.here hx rfl (hb hby d23_11) rfl ?_
  show GO p e below T325 (mkF m 12 #[.val (.ref x1), .val (.int 0)] [(.int 0), (.ref t1)]) _
  refine st326 _ ?_
  show GO p e below T326 (mkF m 15 #[.val (.ref x1), .val (.int 0)] [(.int c1)]) _
  exact retN X326 hx (t := .char) Bd.returns (by simp) (hb hby d23_15) hr
 ·show Qrm_at_2_0_0 Z x1 t1 k1 u0 u1 c1 z0 f0 h0 n0 _ T326.heap _
  rw [e326]
  exact ⟨(by rw [hcc]), N326, rfl⟩
def Qrm_lc_2_1 (Z : State) (t1 : Addr) (k1 : ClassId) (c1 : Int32) (u0 : Int32) (u1 : Int32) (f0 : Value) (h0 : Heap) (n0 : Nat) (v : Option Value) (h : Heap) (L : List Loc) : Prop := v = some (.int c1) ∧ Fr n0 L ∧ h = h0
theorem ef_rm_lc_2_1 (m : MethodId) (x0 : Addr) (x1 : Int32) : entryFrame m #[(.ref x0), (.int x1)] 2 = mkF m 0 #[.val (.ref x0), .val (.int x1)] [] := by first | rfl | (simp [entryFrame, mkF, argsToLocals, Value.category]; done)
theorem rm_lc_2_1 (l : Launch) (Z : State) (a0 : Array Value) (hw : HW Z a0) (ws : List Jvm.Cond) (t1 : Addr) (k1 : ClassId) (c1 : Int32) (u0 : Int32) (u1 : Int32) (f0 : Value) (h0 : Heap) (n0 : Nat) (Z0 : n0 ≤ h0.size) (O0 : Old Z n0 h0) (Vt : Arv Z h0 t1 k1 .byte (2 : Int32) [(.int u0), (.int u1)] (.int 0)) (SZf : Sta Z Z.heap kS3 "SIOOBE_FORMATTER" "Ljava/util/function/BiFunction;" f0) (rf0 : f0.isRef = true) (hc : nar .char ((u1 &&& (255 : Int32)).toUInt32.toUInt16.toUInt32.toInt32) = c1) :
  OwnM l Z h0 (⟨"java/lang/StringLatin1", "charAt", "([BI)C"⟩ : MethodName) (Jvm.Cond.code (⟨"java/lang/StringLatin1", "charAt", "([BI)C"⟩ : MethodName) jdk_43_method_2_code 2 (some .char) :: ws) (RM 2 0 0 27) #[(.ref t1), (.int 1)] (Qrm_lc_2_1 Z t1 k1 c1 u0 u1 f0 h0 n0) := by
 refine MetFree.of_bodySF (plainFor_of_name pn_4) hisR ?_
 intro p e s m args below meth c s₁ Bd hml0 hP hK
 obtain ⟨rfl, hZ, hh⟩ := hP
 have hx := Bd.exec
 have hby := Bd.bytes
 have hml : c.maxLocals = 2 := hml0
 have hown : s.vm.findClass "java/lang/StringLatin1" = some m.cls := findClass_of_methodNamed Bd.named
 have hnm := (name_of_methodNamed Bd.named Bd.method).1
 have X0 : Stand p l e (RM 2 0 0 27) s m #[(.ref t1), (.int 1)] below meth c s₁ [] 0 0 := Stand.of_body Bd
 have e0 : s₁.heap = h0 := by rw [← hh, Bd.state]; rfl
 have N0 := Fr.nil n0
 have pre0 : ∀ t, GO p e below s₁ (mkF m 0 #[.val (.ref t1), .val (.int 1)] []) t → GO p e below s₁ (entryFrame m #[(.ref t1), (.int 1)] 2) t := fun t k => castTop (ef_rm_lc_2_1 m t1 ((1 : Int32))) k
 have lt_Vt := ltA Vt.lt
 obtain ⟨cl327, Ar327, -, S327, M327, -, -⟩ := id Vt
 -- pc 3: String.checkIndex by rm_sck
 obtain ⟨_, _, ⟨T328, L328, k328, n328⟩, -, X328, ⟨Lc328, hQ328, l328, y328, z328⟩, st328⟩ := Jvm.LawKit.callS X0 hx (y := (⟨kS0, "checkIndex", "(II)V"⟩ : MethodName)) hown (mvT hZ (wd hw 140 rfl)) (mvT hZ (wd hw 133 rfl)) (mvT hZ (wd hw 46 rfl)) (mvT hZ (wd hw 134 rfl)) (by decide) (backOf (W := 0) (rm_sck l Z a0 hw [] (1 : Int32) (2 : Int32) f0 h0 n0 Z0 O0 (by first | assumption | decide | omega) (by first | assumption | decide | omega) (by decide) (by decide)) hZ (wd hw 134 rfl) (wd hw 46 rfl) (by decide) (by decide)) (g := (mkF m 3 #[.val (.ref t1), .val (.int 1)] [(.int 2), (.int 1)])) rfl (by rw [hml]; rfl) (argsL := [(.int 1), (.int 2)]) (rest := []) (lenOf pd_13 rfl) rfl (wz rfl) (hb hby d29_3) (fun _ _ => ⟨rfl, e0, (by decide : 0 + 0 ≤ _), (by decide : 0 + 0 ≤ _)⟩)
 dsimp only [Pt.U, Pt.locs, Pt.cells, Pt.slots] at X328 l328 y328 z328 st328 hQ328
 subst l328 y328 z328
 obtain ⟨rfl, N328q, e328⟩ := hQ328
 have N328 := Fr.app N0 N328q
 obtain ⟨cl329, Ar329, q329, S329, M329, H329, G329⟩ := id Vt
 have hin329 : ¬ ((1 : Int32) < 0 ∨ cl329.slots.size ≤ ((1 : Int32)).toNatClampNeg) := inb_of S329 ⟨by decide, by decide⟩
 have hat329 : cl329.slots[((1 : Int32)).toNatClampNeg]? = some (.int u1) := Has.at H329 hin329 rfl
 obtain ⟨fs, hr, hrun, hended, hW, hsame⟩ := X328.leave (v := some (.int (nar .char ((u1 &&& (255 : Int32)).toUInt32.toUInt16.toUInt32.toInt32)))) (fun h => by rw [Bd.returns] at h; cases h)
 refine ⟨_, _, pre0 _ ?_, hrun, hended, _, _, rfl, ?_, ⟨_, rfl⟩, hW, hsame.mono (by decide) (by decide)⟩
 ·show GO p e below s₁ (mkF m 0 #[.val (.ref t1), .val (.int 1)] []) _
  refine XS.iloadN X0.here hx rfl (hb hby d29_0) rfl ?_
  show GO p e below s₁ (mkF m 1 #[.val (.ref t1), .val (.int 1)] [(.int 1)]) _
  refine XS.aloadN X0.here hx rfl (hb hby d29_1) rfl rfl ?_
  show GO p e below s₁ (mkF m 2 #[.val (.ref t1), .val (.int 1)] [(.ref t1), (.int 1)]) _
  refine X0.arraylength hx (by rw [e0]; exact Ar327.1) (State.isArrayOf_alike hZ.alike Ar327.2.1) (g := (mkF m 2 #[.val (.ref t1), .val (.int 1)] [(.ref t1), (.int 1)])) rfl rfl (hb hby d29_2) _ ?_
  rw [len_of S327 M327]
  show GO p e below s₁ (mkF m 3 #[.val (.ref t1), .val (.int 1)] [(.int 2), (.int 1)]) _
  refine st328 _ ?_
  show GO p e below T328 (mkF m 6 #[.val (.ref t1), .val (.int 1)] []) _
  refine XS.aloadN X328.here hx rfl (hb hby d29_6) rfl rfl ?_
  show GO p e below T328 (mkF m 7 #[.val (.ref t1), .val (.int 1)] [(.ref t1)]) _
  refine XS.iloadN X328.here hx rfl (hb hby d29_7) rfl ?_
  show GO p e below T328 (mkF m 8 #[.val (.ref t1), .val (.int 1)] [(.int 1), (.ref t1)]) _
  refine X328.baloadBytes hx (j := (1 : Int32)) (v := (.int u1)) (by rw [e328]; exact Ar329.1) (State.isArrayOf_alike hZ.alike Ar329.2.1) Ar329.2.2 hin329 hat329 (g := (mkF m 8 #[.val (.ref t1), .val (.int 1)] [(.int 1), (.ref t1)])) rfl rfl (hb hby d29_8) _ ?_
  show GO p e below T328 (mkF m 9 #[.val (.ref t1), .val (.int 1)] [(.int u1)]) _
  refine XS.sipush X328.here hx rfl (hb hby d29_9) ?_
  show GO p e below T328 (mkF m 12 #[.val (.ref t1), .val (.int 1)] [(.int 255), (.int u1)]) _
  refine XS.iand X328.here hx rfl (hb hby d29_12) rfl ?_
  show GO p e below T328 (mkF m 13 #[.val (.ref t1), .val (.int 1)] [(.int (u1 &&& (255 : Int32)))]) _
  refine XS.i2c X328.here hx rfl (hb hby d29_13) rfl ?_
  show GO p e below T328 (mkF m 14 #[.val (.ref t1), .val (.int 1)] [(.int ((u1 &&& (255 : Int32)).toUInt32.toUInt16.toUInt32.toInt32))]) _
  exact retN X328 hx (t := .char) Bd.returns (by simp) (hb hby d29_14) hr
 ·show Qrm_lc_2_1 Z t1 k1 c1 u0 u1 f0 h0 n0 _ T328.heap _
  rw [e328]
  exact ⟨(by rw [hc]), N328, rfl⟩
def Qrm_at_2_0_1 (Z : State) (x1 : Addr) (t1 : Addr) (k1 : ClassId) (u0 : Int32) (u1 : Int32) (c1 : Int32) (z0 : Int32) (f0 : Value) (h0 : Heap) (n0 : Nat) (v : Option Value) (h : Heap) (L : List Loc) : Prop := v = some (.int c1) ∧ Fr n0 L ∧ h = h0
theorem ef_rm_at_2_0_1 (m : MethodId) (x0 : Addr) (x1 : Int32) : entryFrame m #[(.ref x0), (.int x1)] 2 = mkF m 0 #[.val (.ref x0), .val (.int x1)] [] := by first | rfl | (simp [entryFrame, mkF, argsToLocals, Value.category]; done)
theorem rm_at_2_0_1 (l : Launch) (Z : State) (a0 : Array Value) (hw : HW Z a0) (ws : List Jvm.Cond) (x1 : Addr) (t1 : Addr) (k1 : ClassId) (u0 : Int32) (u1 : Int32) (c1 : Int32) (z0 : Int32) (f0 : Value) (h0 : Heap) (n0 : Nat) (Z0 : n0 ≤ h0.size) (O0 : Old Z n0 h0) (Es : Exa Z h0 x1 kS0) (Fc : Fld Z h0 x1 kS0 "coder" "B" (.int 0)) (Fv : Fld Z h0 x1 kS0 "value" "[B" (.ref t1)) (Vt : Arv Z h0 t1 k1 .byte (2 : Int32) [(.int u0), (.int u1)] (.int 0)) (SZc : Sta Z Z.heap kS0 "COMPACT_STRINGS" "Z" (.int z0)) (hz0 : ¬ z0 = 0) (SZf : Sta Z Z.heap kS3 "SIOOBE_FORMATTER" "Ljava/util/function/BiFunction;" f0) (rf0 : f0.isRef = true) (hc : nar .char ((u1 &&& (255 : Int32)).toUInt32.toUInt16.toUInt32.toInt32) = c1) (hcc : nar .char c1 = c1) :
  OwnM l Z h0 (⟨kS0, "charAt", "(I)C"⟩ : MethodName) (Jvm.Cond.code (⟨kS0, "charAt", "(I)C"⟩ : MethodName) jdk_42_method_56_code 2 (some .char) :: ws) (RM 3 0 0 40) #[(.ref x1), (.int 1)] (Qrm_at_2_0_1 Z x1 t1 k1 u0 u1 c1 z0 f0 h0 n0) := by
 refine MetFree.of_bodySF (plainFor_of_name pn_2) hisR ?_
 intro p e s m args below meth c s₁ Bd hml0 hP hK
 obtain ⟨rfl, hZ, hh⟩ := hP
 have hx := Bd.exec
 have hby := Bd.bytes
 have hml : c.maxLocals = 2 := hml0
 have hown : s.vm.findClass kS0 = some m.cls := findClass_of_methodNamed Bd.named
 have hnm := (name_of_methodNamed Bd.named Bd.method).1
 have X0 : Stand p l e (RM 3 0 0 40) s m #[(.ref x1), (.int 1)] below meth c s₁ [] 0 0 := Stand.of_body Bd
 have e0 : s₁.heap = h0 := by rw [← hh, Bd.state]; rfl
 have N0 := Fr.nil n0
 have pre0 : ∀ t, GO p e below s₁ (mkF m 0 #[.val (.ref x1), .val (.int 1)] []) t → GO p e below s₁ (entryFrame m #[(.ref x1), (.int 1)] 2) t := fun t k => castTop (ef_rm_at_2_0_1 m x1 ((1 : Int32))) k
 have lt_Es := ltA Es.lt
 have lt_Fc := ltA Fc.lt
 have lt_Fv := ltA Fv.lt
 have lt_Vt := ltA Vt.lt
 -- pc 1: String.isLatin1 by rm_isl0
 obtain ⟨cq330, kq330, q330a, q330b, q330c⟩ := isOf hZ e0 Es
 obtain ⟨_, _, ⟨T330, L330, k330, n330⟩, -, X330, ⟨Lc330, hQ330, l330, y330, z330⟩, st330⟩ := X0.virtualBack hx (y := (⟨kS0, "isLatin1", "()Z"⟩ : MethodName)) (z := (⟨kS0, "isLatin1", "()Z"⟩ : MethodName)) hown (mvT hZ (wd hw 118 rfl)) (mvT hZ (wd hw 119 rfl)) (notFace_of_selects (args := #[]) (mvT hZ (wd hw 121 rfl))) (mvT hZ (wd hw 121 rfl)) (mvT hZ (wd hw 120 rfl)) (by decide) (backOf (W := 0) (rm_isl0 l Z a0 hw [] x1 z0 h0 n0 Z0 O0 Fc (by first | assumption | decide | omega) (by first | assumption | decide | omega)) hZ (wd hw 122 rfl) (wd hw 46 rfl) (by decide) (by decide)) q330a q330c (g := (mkF m 1 #[.val (.ref x1), .val (.int 1)] [(.ref x1)])) rfl (by rw [hml]; rfl) (Steps.refl _) (argsL := []) (rest := []) (lenOf pd_14 rfl) rfl (wz rfl) (hb hby d23_1) (fun _ _ => ⟨rfl, e0, (by decide : 0 + 0 ≤ _), (by decide : 0 + 0 ≤ _)⟩)
 dsimp only [Pt.U, Pt.locs, Pt.cells, Pt.slots] at X330 l330 y330 z330 st330 hQ330
 subst l330 y330 z330
 obtain ⟨rfl, N330q, e330⟩ := hQ330
 have N330 := Fr.app N0 N330q
 obtain ⟨T331, X331, e331, st331⟩ := getF X330 hx hZ hown (host := "") (Or.inl (wd hw 71 rfl)) Via.refl e330 Fv (g := (mkF m 8 #[.val (.ref x1), .val (.int 1)] [(.ref x1)])) rfl rfl (hb hby d23_8)
 -- pc 12: StringLatin1.charAt by rm_lc_2_1
 obtain ⟨_, _, ⟨T332, L332, k332, n332⟩, -, X332, ⟨Lc332, hQ332, l332, y332, z332⟩, st332⟩ := Jvm.LawKit.callS X331 hx (y := (⟨"java/lang/StringLatin1", "charAt", "([BI)C"⟩ : MethodName)) hown (mvT hZ (wd hw 136 rfl)) (mvT hZ (wd hw 137 rfl)) (mvT hZ (wd hw 138 rfl)) (mvT hZ (wd hw 139 rfl)) (by decide) (backOf (W := 0) (rm_lc_2_1 l Z a0 hw [] t1 k1 c1 u0 u1 f0 h0 n0 Z0 O0 Vt (by first | assumption | decide | omega) (by first | assumption | decide | omega) hc) hZ (wd hw 139 rfl) (wd hw 138 rfl) (by decide) (by decide)) (g := (mkF m 12 #[.val (.ref x1), .val (.int 1)] [(.int 1), (.ref t1)])) rfl (by rw [hml]; rfl) (argsL := [(.ref t1), (.int 1)]) (rest := []) (lenOf pd_11 rfl) rfl (wz rfl) (hb hby d23_12) (fun _ _ => ⟨rfl, e331, (by decide : 0 + 0 ≤ _), (by decide : 0 + 0 ≤ _)⟩)
 dsimp only [Pt.U, Pt.locs, Pt.cells, Pt.slots] at X332 l332 y332 z332 st332 hQ332
 subst l332 y332 z332
 obtain ⟨rfl, N332q, e332⟩ := hQ332
 have N332 := Fr.app N330 N332q
 obtain ⟨fs, hr, hrun, hended, hW, hsame⟩ := X332.leave (v := some (.int (nar .char c1))) (fun h => by rw [Bd.returns] at h; cases h)
 refine ⟨_, _, pre0 _ ?_, hrun, hended, _, _, rfl, ?_, ⟨_, rfl⟩, hW, hsame.mono (by decide) (by decide)⟩
 ·show GO p e below s₁ (mkF m 0 #[.val (.ref x1), .val (.int 1)] []) _
  refine XS.aloadN X0.here hx rfl (hb hby d23_0) rfl rfl ?_
  show GO p e below s₁ (mkF m 1 #[.val (.ref x1), .val (.int 1)] [(.ref x1)]) _
  refine st330.trans ?_
  show GO p e below T330 (mkF m 4 #[.val (.ref x1), .val (.int 1)] [(.int 1)]) _
  refine XS.ifNo X330.here hx rfl (hb hby d23_4) rfl ((if0 _ _).trans (feq ((by decide) : ¬ ((1 : Int32) = (0 : Int32)))).1) ?_
  show GO p e below T330 (mkF m 7 #[.val (.ref x1), .val (.int 1)] []) _
  refine XS.aloadN X330.here hx rfl (hb hby d23_7) rfl rfl ?_
  show GO p e below T330 (mkF m 8 #[.val (.ref x1), .val (.int 1)] [(.ref x1)]) _
  refine st331 _ ?_
  show GO p e below T331 (mkF m 11 #[.val (.ref x1), .val (.int 1)] [(.ref t1)]) _
  refine XS.iloadN X331.here hx rfl (hb hby d23_11) rfl ?_
  show GO p e below T331 (mkF m 12 #[.val (.ref x1), .val (.int 1)] [(.int 1), (.ref t1)]) _
  refine st332 _ ?_
  show GO p e below T332 (mkF m 15 #[.val (.ref x1), .val (.int 1)] [(.int c1)]) _
  exact retN X332 hx (t := .char) Bd.returns (by simp) (hb hby d23_15) hr
 ·show Qrm_at_2_0_1 Z x1 t1 k1 u0 u1 c1 z0 f0 h0 n0 _ T332.heap _
  rw [e332]
  exact ⟨(by rw [hcc]), N332, rfl⟩
def Qrm_sc1 (Z : State) (x1 : Addr) (z0 : Int32) (h0 : Heap) (n0 : Nat) (v : Option Value) (h : Heap) (L : List Loc) : Prop := v = some (.int 1) ∧ Fr n0 L ∧ h = h0
theorem ef_rm_sc1 (m : MethodId) (x0 : Addr) : entryFrame m #[(.ref x0)] 1 = mkF m 0 #[.val (.ref x0)] [] := by first | rfl | (simp [entryFrame, mkF, argsToLocals, Value.category]; done)
theorem rm_sc1 (l : Launch) (Z : State) (a0 : Array Value) (hw : HW Z a0) (ws : List Jvm.Cond) (x1 : Addr) (z0 : Int32) (h0 : Heap) (n0 : Nat) (Z0 : n0 ≤ h0.size) (O0 : Old Z n0 h0) (Fc : Fld Z h0 x1 kS0 "coder" "B" (.int 1)) (SZc : Sta Z Z.heap kS0 "COMPACT_STRINGS" "Z" (.int z0)) (hz0 : ¬ z0 = 0) :
  OwnM l Z h0 (⟨kS0, "coder", "()B"⟩ : MethodName) (Jvm.Cond.code (⟨kS0, "coder", "()B"⟩ : MethodName) jdk_42_method_152_code 1 (some .byte) :: ws) (RM 0 0 0 0) #[(.ref x1)] (Qrm_sc1 Z x1 z0 h0 n0) := by
 refine MetFree.of_bodySF (plainFor_of_name pn_2) hisR ?_
 intro p e s m args below meth c s₁ Bd hml0 hP hK
 obtain ⟨rfl, hZ, hh⟩ := hP
 have hx := Bd.exec
 have hby := Bd.bytes
 have hml : c.maxLocals = 1 := hml0
 have hown : s.vm.findClass kS0 = some m.cls := findClass_of_methodNamed Bd.named
 have hnm := (name_of_methodNamed Bd.named Bd.method).1
 have X0 : Stand p l e (RM 0 0 0 0) s m #[(.ref x1)] below meth c s₁ [] 0 0 := Stand.of_body Bd
 have e0 : s₁.heap = h0 := by rw [← hh, Bd.state]; rfl
 have N0 := Fr.nil n0
 have pre0 : ∀ t, GO p e below s₁ (mkF m 0 #[.val (.ref x1)] []) t → GO p e below s₁ (entryFrame m #[(.ref x1)] 1) t := fun t k => castTop (ef_rm_sc1 m x1) k
 have lt_Fc := ltA Fc.lt
 have S333 : Sta Z h0 kS0 "COMPACT_STRINGS" "Z" (.int z0) := SZc.ext O0.2
 obtain ⟨T334, X334, e334, st334⟩ := getS2 X0 hx hZ hown (host := "") (Or.inl (wd hw 83 rfl)) Via.refl e0 S333 (g := (mkF m 0 #[.val (.ref x1)] [])) rfl (hb hby d14_0)
 obtain ⟨T335, X335, e335, st335⟩ := getF X334 hx hZ hown (host := "") (Or.inl (wd hw 72 rfl)) Via.refl e334 Fc (g := (mkF m 7 #[.val (.ref x1)] [(.ref x1)])) rfl rfl (hb hby d14_7)
 obtain ⟨fs, hr, hrun, hended, hW, hsame⟩ := X335.leave (v := some (.int (nar .byte (1 : Int32)))) (fun h => by rw [Bd.returns] at h; cases h)
 refine ⟨_, _, pre0 _ ?_, hrun, hended, _, _, rfl, ?_, ⟨_, rfl⟩, hW, hsame.mono (by decide) (by decide)⟩
 ·show GO p e below s₁ (mkF m 0 #[.val (.ref x1)] []) _
  refine st334 _ ?_
  show GO p e below T334 (mkF m 3 #[.val (.ref x1)] [(.int z0)]) _
  refine XS.ifNo X334.here hx rfl (hb hby d14_3) rfl ((if0 _ _).trans (feq ((by first | assumption | decide) : ¬ (z0 = (0 : Int32)))).1) ?_
  show GO p e below T334 (mkF m 6 #[.val (.ref x1)] []) _
  refine XS.aloadN X334.here hx rfl (hb hby d14_6) rfl rfl ?_
  show GO p e below T334 (mkF m 7 #[.val (.ref x1)] [(.ref x1)]) _
  refine st335 _ ?_
  show GO p e below T335 (mkF m 10 #[.val (.ref x1)] [(.int 1)]) _
  refine XS.goto X335.here hx rfl (pc0 := 10) (pc' := 14) rfl (hb hby d14_10) (by decide) (by decide) ?_
  show GO p e below T335 (mkF m 14 #[.val (.ref x1)] [(.int 1)]) _
  exact retN X335 hx (t := .byte) Bd.returns (by simp) (hb hby d14_14) hr
 ·show Qrm_sc1 Z x1 z0 h0 n0 _ T335.heap _
  rw [e335]
  exact ⟨rfl, N0, rfl⟩
def Qrm_isl1 (Z : State) (x1 : Addr) (z0 : Int32) (h0 : Heap) (n0 : Nat) (v : Option Value) (h : Heap) (L : List Loc) : Prop := v = some (.int 0) ∧ Fr n0 L ∧ h = h0
theorem ef_rm_isl1 (m : MethodId) (x0 : Addr) : entryFrame m #[(.ref x0)] 1 = mkF m 0 #[.val (.ref x0)] [] := by first | rfl | (simp [entryFrame, mkF, argsToLocals, Value.category]; done)
theorem rm_isl1 (l : Launch) (Z : State) (a0 : Array Value) (hw : HW Z a0) (ws : List Jvm.Cond) (x1 : Addr) (z0 : Int32) (h0 : Heap) (n0 : Nat) (Z0 : n0 ≤ h0.size) (O0 : Old Z n0 h0) (Fc : Fld Z h0 x1 kS0 "coder" "B" (.int 1)) (SZc : Sta Z Z.heap kS0 "COMPACT_STRINGS" "Z" (.int z0)) (hz0 : ¬ z0 = 0) :
  OwnM l Z h0 (⟨kS0, "isLatin1", "()Z"⟩ : MethodName) (Jvm.Cond.code (⟨kS0, "isLatin1", "()Z"⟩ : MethodName) jdk_42_method_154_code 1 (some .boolean) :: ws) (RM 0 0 0 0) #[(.ref x1)] (Qrm_isl1 Z x1 z0 h0 n0) := by
 refine MetFree.of_bodySF (plainFor_of_name pn_2) hisR ?_
 intro p e s m args below meth c s₁ Bd hml0 hP hK
 obtain ⟨rfl, hZ, hh⟩ := hP
 have hx := Bd.exec
 have hby := Bd.bytes
 have hml : c.maxLocals = 1 := hml0
 have hown : s.vm.findClass kS0 = some m.cls := findClass_of_methodNamed Bd.named
 have hnm := (name_of_methodNamed Bd.named Bd.method).1
 have X0 : Stand p l e (RM 0 0 0 0) s m #[(.ref x1)] below meth c s₁ [] 0 0 := Stand.of_body Bd
 have e0 : s₁.heap = h0 := by rw [← hh, Bd.state]; rfl
 have N0 := Fr.nil n0
 have pre0 : ∀ t, GO p e below s₁ (mkF m 0 #[.val (.ref x1)] []) t → GO p e below s₁ (entryFrame m #[(.ref x1)] 1) t := fun t k => castTop (ef_rm_isl1 m x1) k
 have lt_Fc := ltA Fc.lt
 have S336 : Sta Z h0 kS0 "COMPACT_STRINGS" "Z" (.int z0) := SZc.ext O0.2
 obtain ⟨T337, X337, e337, st337⟩ := getS2 X0 hx hZ hown (host := "") (Or.inl (wd hw 83 rfl)) Via.refl e0 S336 (g := (mkF m 0 #[.val (.ref x1)] [])) rfl (hb hby d24_0)
 obtain ⟨T338, X338, e338, st338⟩ := getF X337 hx hZ hown (host := "") (Or.inl (wd hw 72 rfl)) Via.refl e337 Fc (g := (mkF m 7 #[.val (.ref x1)] [(.ref x1)])) rfl rfl (hb hby d24_7)
 obtain ⟨fs, hr, hrun, hended, hW, hsame⟩ := X338.leave (v := some (.int 0)) (fun h => by rw [Bd.returns] at h; cases h)
 refine ⟨_, _, pre0 _ ?_, hrun, hended, _, _, rfl, ?_, ⟨_, rfl⟩, hW, hsame.mono (by decide) (by decide)⟩
 ·show GO p e below s₁ (mkF m 0 #[.val (.ref x1)] []) _
  refine st337 _ ?_
  show GO p e below T337 (mkF m 3 #[.val (.ref x1)] [(.int z0)]) _
  refine XS.ifNo X337.here hx rfl (hb hby d24_3) rfl ((if0 _ _).trans (feq ((by first | assumption | decide) : ¬ (z0 = (0 : Int32)))).1) ?_
  show GO p e below T337 (mkF m 6 #[.val (.ref x1)] []) _
  refine XS.aloadN X337.here hx rfl (hb hby d24_6) rfl rfl ?_
  show GO p e below T337 (mkF m 7 #[.val (.ref x1)] [(.ref x1)]) _
  refine st338 _ ?_
  show GO p e below T338 (mkF m 10 #[.val (.ref x1)] [(.int 1)]) _
  refine XS.ifYes X338.here hx rfl (pc0 := 10) (pc' := 17) rfl (hb hby d24_10) rfl ((if0 _ _).trans (feq ((by decide) : ¬ ((1 : Int32) = (0 : Int32)))).2) (by decide) (by decide) ?_
  show GO p e below T338 (mkF m 17 #[.val (.ref x1)] []) _
  refine XS.iconst X338.here hx rfl (hb hby d24_17) ?_
  show GO p e below T338 (mkF m 18 #[.val (.ref x1)] [(.int 0)]) _
  exact retN X338 hx (t := .boolean) Bd.returns (by simp) (hb hby d24_18) hr
 ·show Qrm_isl1 Z x1 z0 h0 n0 _ T338.heap _
  rw [e338]
  exact ⟨rfl, N0, rfl⟩
def Qrm_sl_1_1 (Z : State) (x1 : Addr) (t1 : Addr) (k1 : ClassId) (v1 : List Value) (z0 : Int32) (h0 : Heap) (n0 : Nat) (v : Option Value) (h : Heap) (L : List Loc) : Prop := v = some (.int 1) ∧ Fr n0 L ∧ h = h0
theorem ef_rm_sl_1_1 (m : MethodId) (x0 : Addr) : entryFrame m #[(.ref x0)] 1 = mkF m 0 #[.val (.ref x0)] [] := by first | rfl | (simp [entryFrame, mkF, argsToLocals, Value.category]; done)
theorem rm_sl_1_1 (l : Launch) (Z : State) (a0 : Array Value) (hw : HW Z a0) (ws : List Jvm.Cond) (x1 : Addr) (t1 : Addr) (k1 : ClassId) (v1 : List Value) (z0 : Int32) (h0 : Heap) (n0 : Nat) (Z0 : n0 ≤ h0.size) (O0 : Old Z n0 h0) (Es : Exa Z h0 x1 kS0) (Fc : Fld Z h0 x1 kS0 "coder" "B" (.int 1)) (Fv : Fld Z h0 x1 kS0 "value" "[B" (.ref t1)) (Vt : Arv Z h0 t1 k1 .byte (2 : Int32) v1 (.int 0)) (SZc : Sta Z Z.heap kS0 "COMPACT_STRINGS" "Z" (.int z0)) (hz0 : ¬ z0 = 0) :
  OwnM l Z h0 (⟨kS0, "length", "()I"⟩ : MethodName) (Jvm.Cond.code (⟨kS0, "length", "()I"⟩ : MethodName) jdk_42_method_54_code 1 (some .int) :: ws) (RM 1 0 0 13) #[(.ref x1)] (Qrm_sl_1_1 Z x1 t1 k1 v1 z0 h0 n0) := by
 refine MetFree.of_bodySF (plainFor_of_name pn_2) hisR ?_
 intro p e s m args below meth c s₁ Bd hml0 hP hK
 obtain ⟨rfl, hZ, hh⟩ := hP
 have hx := Bd.exec
 have hby := Bd.bytes
 have hml : c.maxLocals = 1 := hml0
 have hown : s.vm.findClass kS0 = some m.cls := findClass_of_methodNamed Bd.named
 have hnm := (name_of_methodNamed Bd.named Bd.method).1
 have X0 : Stand p l e (RM 1 0 0 13) s m #[(.ref x1)] below meth c s₁ [] 0 0 := Stand.of_body Bd
 have e0 : s₁.heap = h0 := by rw [← hh, Bd.state]; rfl
 have N0 := Fr.nil n0
 have pre0 : ∀ t, GO p e below s₁ (mkF m 0 #[.val (.ref x1)] []) t → GO p e below s₁ (entryFrame m #[(.ref x1)] 1) t := fun t k => castTop (ef_rm_sl_1_1 m x1) k
 have lt_Es := ltA Es.lt
 have lt_Fc := ltA Fc.lt
 have lt_Fv := ltA Fv.lt
 have lt_Vt := ltA Vt.lt
 obtain ⟨T339, X339, e339, st339⟩ := getF X0 hx hZ hown (host := "") (Or.inl (wd hw 71 rfl)) Via.refl e0 Fv (g := (mkF m 1 #[.val (.ref x1)] [(.ref x1)])) rfl rfl (hb hby d13_1)
 obtain ⟨cl340, Ar340, -, S340, M340, -, -⟩ := id Vt
 -- pc 6: String.coder by rm_sc1
 obtain ⟨cq341, kq341, q341a, q341b, q341c⟩ := isOf hZ e339 Es
 obtain ⟨_, _, ⟨T341, L341, k341, n341⟩, -, X341, ⟨Lc341, hQ341, l341, y341, z341⟩, st341⟩ := X339.virtualBack hx (y := (⟨kS0, "coder", "()B"⟩ : MethodName)) (z := (⟨kS0, "coder", "()B"⟩ : MethodName)) hown (mvT hZ (wd hw 78 rfl)) (mvT hZ (wd hw 79 rfl)) (notFace_of_selects (args := #[]) (mvT hZ (wd hw 81 rfl))) (mvT hZ (wd hw 81 rfl)) (mvT hZ (wd hw 80 rfl)) (by decide) (backOf (W := 1) (rm_sc1 l Z a0 hw [] x1 z0 h0 n0 Z0 O0 Fc (by first | assumption | decide | omega) (by first | assumption | decide | omega)) hZ (wd hw 82 rfl) (wd hw 46 rfl) (by decide) (by decide)) q341a q341c (g := (mkF m 6 #[.val (.ref x1)] [(.ref x1), (.int 2)])) rfl (by rw [hml]; rfl) (Steps.refl _) (argsL := []) (rest := [(.int 2)]) (lenOf pd_12 rfl) rfl (wz rfl) (hb hby d13_6) (fun _ _ => ⟨rfl, e339, (by decide : 0 + 0 ≤ _), (by decide : 0 + 0 ≤ _)⟩)
 dsimp only [Pt.U, Pt.locs, Pt.cells, Pt.slots] at X341 l341 y341 z341 st341 hQ341
 subst l341 y341 z341
 obtain ⟨rfl, N341q, e341⟩ := hQ341
 have N341 := Fr.app N0 N341q
 obtain ⟨fs, hr, hrun, hended, hW, hsame⟩ := X341.leave (v := some (.int 1)) (fun h => by rw [Bd.returns] at h; cases h)
 refine ⟨_, _, pre0 _ ?_, hrun, hended, _, _, rfl, ?_, ⟨_, rfl⟩, hW, hsame.mono (by decide) (by decide)⟩
 ·show GO p e below s₁ (mkF m 0 #[.val (.ref x1)] []) _
  refine XS.aloadN X0.here hx rfl (hb hby d13_0) rfl rfl ?_
  show GO p e below s₁ (mkF m 1 #[.val (.ref x1)] [(.ref x1)]) _
  refine st339 _ ?_
  show GO p e below T339 (mkF m 4 #[.val (.ref x1)] [(.ref t1)]) _
  refine X339.arraylength hx (by rw [e339]; exact Ar340.1) (State.isArrayOf_alike hZ.alike Ar340.2.1) (g := (mkF m 4 #[.val (.ref x1)] [(.ref t1)])) rfl rfl (hb hby d13_4) _ ?_
  rw [len_of S340 M340]
  show GO p e below T339 (mkF m 5 #[.val (.ref x1)] [(.int 2)]) _
  refine XS.aloadN X339.here hx rfl (hb hby d13_5) rfl rfl ?_
  show GO p e below T339 (mkF m 6 #[.val (.ref x1)] [(.ref x1), (.int 2)]) _
  refine st341.trans ?_
  show GO p e below T341 (mkF m 9 #[.val (.ref x1)] [(.int 1), (.int 2)]) _
  refine XS.ishr X341.here hx rfl (hb hby d13_9) rfl ?_
  rw [show ((2 : Int32) >>> ((1 : Int32) &&& 31)) = (1 : Int32) from by decide]
  show GO p e below T341 (mkF m 10 #[.val (.ref x1)] [(.int 1)]) _
  exact retI X341 hx Bd.returns (hb hby d13_10) hr
 ·show Qrm_sl_1_1 Z x1 t1 k1 v1 z0 h0 n0 _ T341.heap _
  rw [e341]
  exact ⟨rfl, N341, rfl⟩
def Qrm_uci_1_0 (Z : State) (t1 : Addr) (k1 : ClassId) (v1 : List Value) (f0 : Value) (h0 : Heap) (n0 : Nat) (v : Option Value) (h : Heap) (L : List Loc) : Prop := v = none ∧ Fr n0 L ∧ h = h0
theorem ef_rm_uci_1_0 (m : MethodId) (x0 : Int32) (x1 : Addr) : entryFrame m #[(.int x0), (.ref x1)] 2 = mkF m 0 #[.val (.int x0), .val (.ref x1)] [] := by first | rfl | (simp [entryFrame, mkF, argsToLocals, Value.category]; done)
theorem rm_uci_1_0 (l : Launch) (Z : State) (a0 : Array Value) (hw : HW Z a0) (ws : List Jvm.Cond) (t1 : Addr) (k1 : ClassId) (v1 : List Value) (f0 : Value) (h0 : Heap) (n0 : Nat) (Z0 : n0 ≤ h0.size) (O0 : Old Z n0 h0) (Vt : Arv Z h0 t1 k1 .byte (2 : Int32) v1 (.int 0)) (SZf : Sta Z Z.heap kS3 "SIOOBE_FORMATTER" "Ljava/util/function/BiFunction;" f0) (rf0 : f0.isRef = true) :
  OwnM l Z h0 (⟨kS1, "checkIndex", "(I[B)V"⟩ : MethodName) (Jvm.Cond.code (⟨kS1, "checkIndex", "(I[B)V"⟩ : MethodName) jdk_52_method_91_code 2 none :: ws) (RM 2 0 0 27) #[(.int 0), (.ref t1)] (Qrm_uci_1_0 Z t1 k1 v1 f0 h0 n0) := by
 refine MetFree.of_bodySF (plainFor_of_name pn_3) hisR ?_
 intro p e s m args below meth c s₁ Bd hml0 hP hK
 obtain ⟨rfl, hZ, hh⟩ := hP
 have hx := Bd.exec
 have hby := Bd.bytes
 have hml : c.maxLocals = 2 := hml0
 have hown : s.vm.findClass kS1 = some m.cls := findClass_of_methodNamed Bd.named
 have hnm := (name_of_methodNamed Bd.named Bd.method).1
 have X0 : Stand p l e (RM 2 0 0 27) s m #[(.int 0), (.ref t1)] below meth c s₁ [] 0 0 := Stand.of_body Bd
 have e0 : s₁.heap = h0 := by rw [← hh, Bd.state]; rfl
 have N0 := Fr.nil n0
 have pre0 : ∀ t, GO p e below s₁ (mkF m 0 #[.val (.int 0), .val (.ref t1)] []) t → GO p e below s₁ (entryFrame m #[(.int 0), (.ref t1)] 2) t := fun t k => castTop (ef_rm_uci_1_0 m ((0 : Int32)) t1) k
 have lt_Vt := ltA Vt.lt
 -- pc 2: StringUTF16.length by rm_l16_1
 obtain ⟨_, _, ⟨T342, L342, k342, n342⟩, -, X342, ⟨Lc342, hQ342, l342, y342, z342⟩, st342⟩ := Jvm.LawKit.callS X0 hx (y := (⟨kS1, "length", "([B)I"⟩ : MethodName)) hown (mvT hZ (wd hw 129 rfl)) (mvT hZ (wd hw 130 rfl)) (mvT hZ (wd hw 86 rfl)) (mvT hZ (wd hw 131 rfl)) (by decide) (backOf (W := 1) (rm_l16_1 l Z a0 hw [] t1 k1 v1 h0 n0 Z0 Vt) hZ (wd hw 131 rfl) (wd hw 86 rfl) (by decide) (by decide)) (g := (mkF m 2 #[.val (.int 0), .val (.ref t1)] [(.ref t1), (.int 0)])) rfl (by rw [hml]; rfl) (argsL := [(.ref t1)]) (rest := [(.int 0)]) (lenOf pd_15 rfl) rfl (wz rfl) (hb hby d26_2) (fun _ _ => ⟨rfl, e0, (by decide : 0 + 0 ≤ _), (by decide : 0 + 0 ≤ _)⟩)
 dsimp only [Pt.U, Pt.locs, Pt.cells, Pt.slots] at X342 l342 y342 z342 st342 hQ342
 subst l342 y342 z342
 obtain ⟨rfl, N342q, e342⟩ := hQ342
 have N342 := Fr.app N0 N342q
 -- pc 5: String.checkIndex by rm_sck
 obtain ⟨_, _, ⟨T343, L343, k343, n343⟩, -, X343, ⟨Lc343, hQ343, l343, y343, z343⟩, st343⟩ := Jvm.LawKit.callS X342 hx (y := (⟨kS0, "checkIndex", "(II)V"⟩ : MethodName)) hown (mvT hZ (wd hw 132 rfl)) (mvT hZ (wd hw 133 rfl)) (mvT hZ (wd hw 46 rfl)) (mvT hZ (wd hw 134 rfl)) (by decide) (backOf (W := 0) (rm_sck l Z a0 hw [] (0 : Int32) (1 : Int32) f0 h0 n0 Z0 O0 (by first | assumption | decide | omega) (by first | assumption | decide | omega) (by decide) (by decide)) hZ (wd hw 134 rfl) (wd hw 46 rfl) (by decide) (by decide)) (g := (mkF m 5 #[.val (.int 0), .val (.ref t1)] [(.int 1), (.int 0)])) rfl (by rw [hml]; rfl) (argsL := [(.int 0), (.int 1)]) (rest := []) (lenOf pd_13 rfl) rfl (wz rfl) (hb hby d26_5) (fun _ _ => ⟨rfl, e342, (by decide : 0 + 0 ≤ _), (by decide : 0 + 0 ≤ _)⟩)
 dsimp only [Pt.U, Pt.locs, Pt.cells, Pt.slots] at X343 l343 y343 z343 st343 hQ343
 subst l343 y343 z343
 obtain ⟨rfl, N343q, e343⟩ := hQ343
 have N343 := Fr.app N342 N343q
 obtain ⟨fs, hr, hrun, hended, hW, hsame⟩ := X343.leave (v := none) (fun _ => rfl)
 refine ⟨_, _, pre0 _ ?_, hrun, hended, _, _, rfl, ?_, ⟨_, rfl⟩, hW, hsame.mono (by decide) (by decide)⟩
 ·show GO p e below s₁ (mkF m 0 #[.val (.int 0), .val (.ref t1)] []) _
  refine XS.iloadN X0.here hx rfl (hb hby d26_0) rfl ?_
  show GO p e below s₁ (mkF m 1 #[.val (.int 0), .val (.ref t1)] [(.int 0)]) _
  refine XS.aloadN X0.here hx rfl (hb hby d26_1) rfl rfl ?_
  show GO p e below s₁ (mkF m 2 #[.val (.int 0), .val (.ref t1)] [(.ref t1), (.int 0)]) _
  refine st342 _ ?_
  show GO p e below T342 (mkF m 5 #[.val (.int 0), .val (.ref t1)] [(.int 1), (.int 0)]) _
  refine st343 _ ?_
  show GO p e below T343 (mkF m 8 #[.val (.int 0), .val (.ref t1)] []) _
  exact X343.returnOut hx Bd.returns (hb hby d26_8) hr
 ·show Qrm_uci_1_0 Z t1 k1 v1 f0 h0 n0 _ T343.heap _
  rw [e343]
  exact ⟨rfl, N343, rfl⟩
def Qrm_uc_1_0 (Z : State) (t1 : Addr) (k1 : ClassId) (c1 : Int32) (u0 : Int32) (u1 : Int32) (f0 : Value) (h0 : Heap) (n0 : Nat) (v : Option Value) (h : Heap) (L : List Loc) : Prop := v = some (.int c1) ∧ Fr n0 L ∧ h = h0
theorem ef_rm_uc_1_0 (m : MethodId) (x0 : Addr) (x1 : Int32) : entryFrame m #[(.ref x0), (.int x1)] 2 = mkF m 0 #[.val (.ref x0), .val (.int x1)] [] := by first | rfl | (simp [entryFrame, mkF, argsToLocals, Value.category]; done)
theorem rm_uc_1_0 (l : Launch) (Z : State) (a0 : Array Value) (hw : HW Z a0) (ws : List Jvm.Cond) (t1 : Addr) (k1 : ClassId) (c1 : Int32) (u0 : Int32) (u1 : Int32) (f0 : Value) (h0 : Heap) (n0 : Nat) (Z0 : n0 ≤ h0.size) (O0 : Old Z n0 h0) (Vt : Arv Z h0 t1 k1 .byte (2 : Int32) [(.int u0), (.int u1)] (.int 0)) (SZad : Sta Z Z.heap kS1 "$assertionsDisabled" "Z" (.int 1)) (SZhi : Sta Z Z.heap kS1 "HI_BYTE_SHIFT" "I" (.int 0)) (SZlo : Sta Z Z.heap kS1 "LO_BYTE_SHIFT" "I" (.int 8)) (SZf : Sta Z Z.heap kS3 "SIOOBE_FORMATTER" "Ljava/util/function/BiFunction;" f0) (rf0 : f0.isRef = true) (hc : nar .char ((((u0 &&& (255 : Int32)) <<< ((0 : Int32) &&& 31)) ||| ((u1 &&& (255 : Int32)) <<< ((8 : Int32) &&& 31))).toUInt32.toUInt16.toUInt32.toInt32) = c1) (hcc : nar .char c1 = c1) :
  OwnM l Z h0 (⟨kS1, "charAt", "([BI)C"⟩ : MethodName) (Jvm.Cond.code (⟨kS1, "charAt", "([BI)C"⟩ : MethodName) jdk_52_method_83_code 2 (some .char) :: ws) (RM 3 0 0 40) #[(.ref t1), (.int 0)] (Qrm_uc_1_0 Z t1 k1 c1 u0 u1 f0 h0 n0) := by
 refine MetFree.of_bodySF (plainFor_of_name pn_3) hisR ?_
 intro p e s m args below meth c s₁ Bd hml0 hP hK
 obtain ⟨rfl, hZ, hh⟩ := hP
 have hx := Bd.exec
 have hby := Bd.bytes
 have hml : c.maxLocals = 2 := hml0
 have hown : s.vm.findClass kS1 = some m.cls := findClass_of_methodNamed Bd.named
 have hnm := (name_of_methodNamed Bd.named Bd.method).1
 have X0 : Stand p l e (RM 3 0 0 40) s m #[(.ref t1), (.int 0)] below meth c s₁ [] 0 0 := Stand.of_body Bd
 have e0 : s₁.heap = h0 := by rw [← hh, Bd.state]; rfl
 have N0 := Fr.nil n0
 have pre0 : ∀ t, GO p e below s₁ (mkF m 0 #[.val (.ref t1), .val (.int 0)] []) t → GO p e below s₁ (entryFrame m #[(.ref t1), (.int 0)] 2) t := fun t k => castTop (ef_rm_uc_1_0 m t1 ((0 : Int32))) k
 have lt_Vt := ltA Vt.lt
 -- pc 2: StringUTF16.checkIndex by rm_uci_1_0
 obtain ⟨_, _, ⟨T344, L344, k344, n344⟩, -, X344, ⟨Lc344, hQ344, l344, y344, z344⟩, st344⟩ := Jvm.LawKit.callS X0 hx (y := (⟨kS1, "checkIndex", "(I[B)V"⟩ : MethodName)) hown (mvT hZ (wd hw 126 rfl)) (mvT hZ (wd hw 127 rfl)) (mvT hZ (wd hw 86 rfl)) (mvT hZ (wd hw 128 rfl)) (by decide) (backOf (W := 0) (rm_uci_1_0 l Z a0 hw [] t1 k1 ([(.int u0), (.int u1)]) f0 h0 n0 Z0 O0 Vt (by first | assumption | decide | omega) (by first | assumption | decide | omega)) hZ (wd hw 128 rfl) (wd hw 86 rfl) (by decide) (by decide)) (g := (mkF m 2 #[.val (.ref t1), .val (.int 0)] [(.ref t1), (.int 0)])) rfl (by rw [hml]; rfl) (argsL := [(.int 0), (.ref t1)]) (rest := []) (lenOf pd_16 rfl) rfl (wz rfl) (hb hby d25_2) (fun _ _ => ⟨rfl, e0, (by decide : 0 + 0 ≤ _), (by decide : 0 + 0 ≤ _)⟩)
 dsimp only [Pt.U, Pt.locs, Pt.cells, Pt.slots] at X344 l344 y344 z344 st344 hQ344
 subst l344 y344 z344
 obtain ⟨rfl, N344q, e344⟩ := hQ344
 have N344 := Fr.app N0 N344q
 -- pc 7: StringUTF16.getChar by rm_gc_1_0
 obtain ⟨_, _, ⟨T345, L345, k345, n345⟩, -, X345, ⟨Lc345, hQ345, l345, y345, z345⟩, st345⟩ := Jvm.LawKit.callS X344 hx (y := (⟨kS1, "getChar", "([BI)C"⟩ : MethodName)) hown (mvT hZ (wd hw 107 rfl)) (mvT hZ (wd hw 108 rfl)) (mvT hZ (wd hw 86 rfl)) (mvT hZ (wd hw 109 rfl)) (by decide) (backOf (W := 0) (rm_gc_1_0 l Z a0 hw [] t1 k1 c1 u0 u1 h0 n0 Z0 O0 Vt (by first | assumption | decide | omega) (by first | assumption | decide | omega) (by first | assumption | decide | omega) hc) hZ (wd hw 109 rfl) (wd hw 86 rfl) (by decide) (by decide)) (g := (mkF m 7 #[.val (.ref t1), .val (.int 0)] [(.int 0), (.ref t1)])) rfl (by rw [hml]; rfl) (argsL := [(.ref t1), (.int 0)]) (rest := []) (lenOf pd_11 rfl) rfl (wz rfl) (hb hby d25_7) (fun _ _ => ⟨rfl, e344, (by decide : 0 + 0 ≤ _), (by decide : 0 + 0 ≤ _)⟩)
 dsimp only [Pt.U, Pt.locs, Pt.cells, Pt.slots] at X345 l345 y345 z345 st345 hQ345
 subst l345 y345 z345
 obtain ⟨rfl, N345q, e345⟩ := hQ345
 have N345 := Fr.app N344 N345q
 obtain ⟨fs, hr, hrun, hended, hW, hsame⟩ := X345.leave (v := some (.int (nar .char c1))) (fun h => by rw [Bd.returns] at h; cases h)
 refine ⟨_, _, pre0 _ ?_, hrun, hended, _, _, rfl, ?_, ⟨_, rfl⟩, hW, hsame.mono (by decide) (by decide)⟩
 ·show GO p e below s₁ (mkF m 0 #[.val (.ref t1), .val (.int 0)] []) _
  refine XS.iloadN X0.here hx rfl (hb hby d25_0) rfl ?_
  show GO p e below s₁ (mkF m 1 #[.val (.ref t1), .val (.int 0)] [(.int 0)]) _
  refine XS.aloadN X0.here hx rfl (hb hby d25_1) rfl rfl ?_
  show GO p e below s₁ (mkF m 2 #[.val (.ref t1), .val (.int 0)] [(.ref t1), (.int 0)]) _
  refine st344 _ ?_
  show GO p e below T344 (mkF m 5 #[.val (.ref t1), .val (.int 0)] []) _
  refine XS.aloadN X344.here hx rfl (hb hby d25_5) rfl rfl ?_
  show GO p e below T344 (mkF m 6 #[.val (.ref t1), .val (.int 0)] [(.ref t1)]) _
  refine XS.iloadN X344.here hx rfl (hb hby d25_6) rfl ?_
  show GO p e below T344 (mkF m 7 #[.val (.ref t1), .val (.int 0)] [(.int 0), (.ref t1)]) _
  refine st345 _ ?_
  show GO p e below T345 (mkF m 10 #[.val (.ref t1), .val (.int 0)] [(.int c1)]) _
  exact retN X345 hx (t := .char) Bd.returns (by simp) (hb hby d25_10) hr
 ·show Qrm_uc_1_0 Z t1 k1 c1 u0 u1 f0 h0 n0 _ T345.heap _
  rw [e345]
  exact ⟨(by rw [hcc]), N345, rfl⟩
def Qrm_at_1_1_0 (Z : State) (x1 : Addr) (t1 : Addr) (k1 : ClassId) (u0 : Int32) (u1 : Int32) (c1 : Int32) (z0 : Int32) (f0 : Value) (h0 : Heap) (n0 : Nat) (v : Option Value) (h : Heap) (L : List Loc) : Prop := v = some (.int c1) ∧ Fr n0 L ∧ h = h0
theorem ef_rm_at_1_1_0 (m : MethodId) (x0 : Addr) (x1 : Int32) : entryFrame m #[(.ref x0), (.int x1)] 2 = mkF m 0 #[.val (.ref x0), .val (.int x1)] [] := by first | rfl | (simp [entryFrame, mkF, argsToLocals, Value.category]; done)
theorem rm_at_1_1_0 (l : Launch) (Z : State) (a0 : Array Value) (hw : HW Z a0) (ws : List Jvm.Cond) (x1 : Addr) (t1 : Addr) (k1 : ClassId) (u0 : Int32) (u1 : Int32) (c1 : Int32) (z0 : Int32) (f0 : Value) (h0 : Heap) (n0 : Nat) (Z0 : n0 ≤ h0.size) (O0 : Old Z n0 h0) (Es : Exa Z h0 x1 kS0) (Fc : Fld Z h0 x1 kS0 "coder" "B" (.int 1)) (Fv : Fld Z h0 x1 kS0 "value" "[B" (.ref t1)) (Vt : Arv Z h0 t1 k1 .byte (2 : Int32) [(.int u0), (.int u1)] (.int 0)) (SZc : Sta Z Z.heap kS0 "COMPACT_STRINGS" "Z" (.int z0)) (hz0 : ¬ z0 = 0) (SZf : Sta Z Z.heap kS3 "SIOOBE_FORMATTER" "Ljava/util/function/BiFunction;" f0) (rf0 : f0.isRef = true) (hc : nar .char ((((u0 &&& (255 : Int32)) <<< ((0 : Int32) &&& 31)) ||| ((u1 &&& (255 : Int32)) <<< ((8 : Int32) &&& 31))).toUInt32.toUInt16.toUInt32.toInt32) = c1) (hcc : nar .char c1 = c1) (SZad : Sta Z Z.heap kS1 "$assertionsDisabled" "Z" (.int 1)) (SZhi : Sta Z Z.heap kS1 "HI_BYTE_SHIFT" "I" (.int 0)) (SZlo : Sta Z Z.heap kS1 "LO_BYTE_SHIFT" "I" (.int 8)) :
  OwnM l Z h0 (⟨kS0, "charAt", "(I)C"⟩ : MethodName) (Jvm.Cond.code (⟨kS0, "charAt", "(I)C"⟩ : MethodName) jdk_42_method_56_code 2 (some .char) :: ws) (RM 4 0 0 53) #[(.ref x1), (.int 0)] (Qrm_at_1_1_0 Z x1 t1 k1 u0 u1 c1 z0 f0 h0 n0) := by
 refine MetFree.of_bodySF (plainFor_of_name pn_2) hisR ?_
 intro p e s m args below meth c s₁ Bd hml0 hP hK
 obtain ⟨rfl, hZ, hh⟩ := hP
 have hx := Bd.exec
 have hby := Bd.bytes
 have hml : c.maxLocals = 2 := hml0
 have hown : s.vm.findClass kS0 = some m.cls := findClass_of_methodNamed Bd.named
 have hnm := (name_of_methodNamed Bd.named Bd.method).1
 have X0 : Stand p l e (RM 4 0 0 53) s m #[(.ref x1), (.int 0)] below meth c s₁ [] 0 0 := Stand.of_body Bd
 have e0 : s₁.heap = h0 := by rw [← hh, Bd.state]; rfl
 have N0 := Fr.nil n0
 have pre0 : ∀ t, GO p e below s₁ (mkF m 0 #[.val (.ref x1), .val (.int 0)] []) t → GO p e below s₁ (entryFrame m #[(.ref x1), (.int 0)] 2) t := fun t k => castTop (ef_rm_at_1_1_0 m x1 ((0 : Int32))) k
 have lt_Es := ltA Es.lt
 have lt_Fc := ltA Fc.lt
 have lt_Fv := ltA Fv.lt
 have lt_Vt := ltA Vt.lt
 -- pc 1: String.isLatin1 by rm_isl1
 obtain ⟨cq346, kq346, q346a, q346b, q346c⟩ := isOf hZ e0 Es
 obtain ⟨_, _, ⟨T346, L346, k346, n346⟩, -, X346, ⟨Lc346, hQ346, l346, y346, z346⟩, st346⟩ := X0.virtualBack hx (y := (⟨kS0, "isLatin1", "()Z"⟩ : MethodName)) (z := (⟨kS0, "isLatin1", "()Z"⟩ : MethodName)) hown (mvT hZ (wd hw 118 rfl)) (mvT hZ (wd hw 119 rfl)) (notFace_of_selects (args := #[]) (mvT hZ (wd hw 121 rfl))) (mvT hZ (wd hw 121 rfl)) (mvT hZ (wd hw 120 rfl)) (by decide) (backOf (W := 0) (rm_isl1 l Z a0 hw [] x1 z0 h0 n0 Z0 O0 Fc (by first | assumption | decide | omega) (by first | assumption | decide | omega)) hZ (wd hw 122 rfl) (wd hw 46 rfl) (by decide) (by decide)) q346a q346c (g := (mkF m 1 #[.val (.ref x1), .val (.int 0)] [(.ref x1)])) rfl (by rw [hml]; rfl) (Steps.refl _) (argsL := []) (rest := []) (lenOf pd_14 rfl) rfl (wz rfl) (hb hby d23_1) (fun _ _ => ⟨rfl, e0, (by decide : 0 + 0 ≤ _), (by decide : 0 + 0 ≤ _)⟩)
 dsimp only [Pt.U, Pt.locs, Pt.cells, Pt.slots] at X346 l346 y346 z346 st346 hQ346
 subst l346 y346 z346
 obtain ⟨rfl, N346q, e346⟩ := hQ346
 have N346 := Fr.app N0 N346q
 obtain ⟨T347, X347, e347, st347⟩ := getF X346 hx hZ hown (host := "") (Or.inl (wd hw 71 rfl)) Via.refl e346 Fv (g := (mkF m 17 #[.val (.ref x1), .val (.int 0)] [(.ref x1)])) rfl rfl (hb hby d23_17)
 -- pc 21: StringUTF16.charAt by rm_uc_1_0
 obtain ⟨_, _, ⟨T348, L348, k348, n348⟩, -, X348, ⟨Lc348, hQ348, l348, y348, z348⟩, st348⟩ := Jvm.LawKit.callS X347 hx (y := (⟨kS1, "charAt", "([BI)C"⟩ : MethodName)) hown (mvT hZ (wd hw 123 rfl)) (mvT hZ (wd hw 124 rfl)) (mvT hZ (wd hw 86 rfl)) (mvT hZ (wd hw 125 rfl)) (by decide) (backOf (W := 0) (rm_uc_1_0 l Z a0 hw [] t1 k1 c1 u0 u1 f0 h0 n0 Z0 O0 Vt (by first | assumption | decide | omega) (by first | assumption | decide | omega) (by first | assumption | decide | omega) (by first | assumption | decide | omega) (by first | assumption | decide | omega) hc hcc) hZ (wd hw 125 rfl) (wd hw 86 rfl) (by decide) (by decide)) (g := (mkF m 21 #[.val (.ref x1), .val (.int 0)] [(.int 0), (.ref t1)])) rfl (by rw [hml]; rfl) (argsL := [(.ref t1), (.int 0)]) (rest := []) (lenOf pd_11 rfl) rfl (wz rfl) (hb hby d23_21) (fun _ _ => ⟨rfl, e347, (by decide : 0 + 0 ≤ _), (by decide : 0 + 0 ≤ _)⟩)
 dsimp only [Pt.U, Pt.locs, Pt.cells, Pt.slots] at X348 l348 y348 z348 st348 hQ348
 subst l348 y348 z348
 obtain ⟨rfl, N348q, e348⟩ := hQ348
 have N348 := Fr.app N346 N348q
 obtain ⟨fs, hr, hrun, hended, hW, hsame⟩ := X348.leave (v := some (.int (nar .char c1))) (fun h => by rw [Bd.returns] at h; cases h)
 refine ⟨_, _, pre0 _ ?_, hrun, hended, _, _, rfl, ?_, ⟨_, rfl⟩, hW, hsame.mono (by decide) (by decide)⟩
 ·show GO p e below s₁ (mkF m 0 #[.val (.ref x1), .val (.int 0)] []) _
  refine XS.aloadN X0.here hx rfl (hb hby d23_0) rfl rfl ?_
  show GO p e below s₁ (mkF m 1 #[.val (.ref x1), .val (.int 0)] [(.ref x1)]) _
  refine st346.trans ?_
  show GO p e below T346 (mkF m 4 #[.val (.ref x1), .val (.int 0)] [(.int 0)]) _
  refine XS.ifYes X346.here hx rfl (pc0 := 4) (pc' := 16) rfl (hb hby d23_4) rfl ((if0 _ _).trans (teq (rfl : (0 : Int32) = (0 : Int32))).1) (by decide) (by decide) ?_
  show GO p e below T346 (mkF m 16 #[.val (.ref x1), .val (.int 0)] []) _
  refine XS.aloadN X346.here hx rfl (hb hby d23_16) rfl rfl ?_
  show GO p e below T346 (mkF m 17 #[.val (.ref x1), .val (.int 0)] [(.ref x1)]) _
  refine st347 _ ?_
  show GO p e below T347 (mkF m 20 #[.val (.ref x1), .val (.int 0)] [(.ref t1)]) _
  refine XS.iloadN X347.here hx rfl (hb hby d23_20) rfl ?_
  show GO p e below T347 (mkF m 21 #[.val (.ref x1), .val (.int 0)] [(.int 0), (.ref t1)]) _
  refine st348 _ ?_
  show GO p e below T348 (mkF m 24 #[.val (.ref x1), .val (.int 0)] [(.int c1)]) _
  exact retN X348 hx (t := .char) Bd.returns (by simp) (hb hby d23_24) hr
 ·show Qrm_at_1_1_0 Z x1 t1 k1 u0 u1 c1 z0 f0 h0 n0 _ T348.heap _
  rw [e348]
  exact ⟨(by rw [hcc]), N348, rfl⟩
def Qrm_sl_2_1 (Z : State) (x1 : Addr) (t1 : Addr) (k1 : ClassId) (v1 : List Value) (z0 : Int32) (h0 : Heap) (n0 : Nat) (v : Option Value) (h : Heap) (L : List Loc) : Prop := v = some (.int 2) ∧ Fr n0 L ∧ h = h0
theorem ef_rm_sl_2_1 (m : MethodId) (x0 : Addr) : entryFrame m #[(.ref x0)] 1 = mkF m 0 #[.val (.ref x0)] [] := by first | rfl | (simp [entryFrame, mkF, argsToLocals, Value.category]; done)
theorem rm_sl_2_1 (l : Launch) (Z : State) (a0 : Array Value) (hw : HW Z a0) (ws : List Jvm.Cond) (x1 : Addr) (t1 : Addr) (k1 : ClassId) (v1 : List Value) (z0 : Int32) (h0 : Heap) (n0 : Nat) (Z0 : n0 ≤ h0.size) (O0 : Old Z n0 h0) (Es : Exa Z h0 x1 kS0) (Fc : Fld Z h0 x1 kS0 "coder" "B" (.int 1)) (Fv : Fld Z h0 x1 kS0 "value" "[B" (.ref t1)) (Vt : Arv Z h0 t1 k1 .byte (4 : Int32) v1 (.int 0)) (SZc : Sta Z Z.heap kS0 "COMPACT_STRINGS" "Z" (.int z0)) (hz0 : ¬ z0 = 0) :
  OwnM l Z h0 (⟨kS0, "length", "()I"⟩ : MethodName) (Jvm.Cond.code (⟨kS0, "length", "()I"⟩ : MethodName) jdk_42_method_54_code 1 (some .int) :: ws) (RM 1 0 0 13) #[(.ref x1)] (Qrm_sl_2_1 Z x1 t1 k1 v1 z0 h0 n0) := by
 refine MetFree.of_bodySF (plainFor_of_name pn_2) hisR ?_
 intro p e s m args below meth c s₁ Bd hml0 hP hK
 obtain ⟨rfl, hZ, hh⟩ := hP
 have hx := Bd.exec
 have hby := Bd.bytes
 have hml : c.maxLocals = 1 := hml0
 have hown : s.vm.findClass kS0 = some m.cls := findClass_of_methodNamed Bd.named
 have hnm := (name_of_methodNamed Bd.named Bd.method).1
 have X0 : Stand p l e (RM 1 0 0 13) s m #[(.ref x1)] below meth c s₁ [] 0 0 := Stand.of_body Bd
 have e0 : s₁.heap = h0 := by rw [← hh, Bd.state]; rfl
 have N0 := Fr.nil n0
 have pre0 : ∀ t, GO p e below s₁ (mkF m 0 #[.val (.ref x1)] []) t → GO p e below s₁ (entryFrame m #[(.ref x1)] 1) t := fun t k => castTop (ef_rm_sl_2_1 m x1) k
 have lt_Es := ltA Es.lt
 have lt_Fc := ltA Fc.lt
 have lt_Fv := ltA Fv.lt
 have lt_Vt := ltA Vt.lt
 obtain ⟨T349, X349, e349, st349⟩ := getF X0 hx hZ hown (host := "") (Or.inl (wd hw 71 rfl)) Via.refl e0 Fv (g := (mkF m 1 #[.val (.ref x1)] [(.ref x1)])) rfl rfl (hb hby d13_1)
 obtain ⟨cl350, Ar350, -, S350, M350, -, -⟩ := id Vt
 -- pc 6: String.coder by rm_sc1
 obtain ⟨cq351, kq351, q351a, q351b, q351c⟩ := isOf hZ e349 Es
 obtain ⟨_, _, ⟨T351, L351, k351, n351⟩, -, X351, ⟨Lc351, hQ351, l351, y351, z351⟩, st351⟩ := X349.virtualBack hx (y := (⟨kS0, "coder", "()B"⟩ : MethodName)) (z := (⟨kS0, "coder", "()B"⟩ : MethodName)) hown (mvT hZ (wd hw 78 rfl)) (mvT hZ (wd hw 79 rfl)) (notFace_of_selects (args := #[]) (mvT hZ (wd hw 81 rfl))) (mvT hZ (wd hw 81 rfl)) (mvT hZ (wd hw 80 rfl)) (by decide) (backOf (W := 1) (rm_sc1 l Z a0 hw [] x1 z0 h0 n0 Z0 O0 Fc (by first | assumption | decide | omega) (by first | assumption | decide | omega)) hZ (wd hw 82 rfl) (wd hw 46 rfl) (by decide) (by decide)) q351a q351c (g := (mkF m 6 #[.val (.ref x1)] [(.ref x1), (.int 4)])) rfl (by rw [hml]; rfl) (Steps.refl _) (argsL := []) (rest := [(.int 4)]) (lenOf pd_12 rfl) rfl (wz rfl) (hb hby d13_6) (fun _ _ => ⟨rfl, e349, (by decide : 0 + 0 ≤ _), (by decide : 0 + 0 ≤ _)⟩)
 dsimp only [Pt.U, Pt.locs, Pt.cells, Pt.slots] at X351 l351 y351 z351 st351 hQ351
 subst l351 y351 z351
 obtain ⟨rfl, N351q, e351⟩ := hQ351
 have N351 := Fr.app N0 N351q
 obtain ⟨fs, hr, hrun, hended, hW, hsame⟩ := X351.leave (v := some (.int 2)) (fun h => by rw [Bd.returns] at h; cases h)
 refine ⟨_, _, pre0 _ ?_, hrun, hended, _, _, rfl, ?_, ⟨_, rfl⟩, hW, hsame.mono (by decide) (by decide)⟩
 ·show GO p e below s₁ (mkF m 0 #[.val (.ref x1)] []) _
  refine XS.aloadN X0.here hx rfl (hb hby d13_0) rfl rfl ?_
  show GO p e below s₁ (mkF m 1 #[.val (.ref x1)] [(.ref x1)]) _
  refine st349 _ ?_
  show GO p e below T349 (mkF m 4 #[.val (.ref x1)] [(.ref t1)]) _
  refine X349.arraylength hx (by rw [e349]; exact Ar350.1) (State.isArrayOf_alike hZ.alike Ar350.2.1) (g := (mkF m 4 #[.val (.ref x1)] [(.ref t1)])) rfl rfl (hb hby d13_4) _ ?_
  rw [len_of S350 M350]
  show GO p e below T349 (mkF m 5 #[.val (.ref x1)] [(.int 4)]) _
  refine XS.aloadN X349.here hx rfl (hb hby d13_5) rfl rfl ?_
  show GO p e below T349 (mkF m 6 #[.val (.ref x1)] [(.ref x1), (.int 4)]) _
  refine st351.trans ?_
  show GO p e below T351 (mkF m 9 #[.val (.ref x1)] [(.int 1), (.int 4)]) _
  refine XS.ishr X351.here hx rfl (hb hby d13_9) rfl ?_
  rw [show ((4 : Int32) >>> ((1 : Int32) &&& 31)) = (2 : Int32) from by decide]
  show GO p e below T351 (mkF m 10 #[.val (.ref x1)] [(.int 2)]) _
  exact retI X351 hx Bd.returns (hb hby d13_10) hr
 ·show Qrm_sl_2_1 Z x1 t1 k1 v1 z0 h0 n0 _ T351.heap _
  rw [e351]
  exact ⟨rfl, N351, rfl⟩
def Qrm_uci_2_0 (Z : State) (t1 : Addr) (k1 : ClassId) (v1 : List Value) (f0 : Value) (h0 : Heap) (n0 : Nat) (v : Option Value) (h : Heap) (L : List Loc) : Prop := v = none ∧ Fr n0 L ∧ h = h0
theorem ef_rm_uci_2_0 (m : MethodId) (x0 : Int32) (x1 : Addr) : entryFrame m #[(.int x0), (.ref x1)] 2 = mkF m 0 #[.val (.int x0), .val (.ref x1)] [] := by first | rfl | (simp [entryFrame, mkF, argsToLocals, Value.category]; done)
theorem rm_uci_2_0 (l : Launch) (Z : State) (a0 : Array Value) (hw : HW Z a0) (ws : List Jvm.Cond) (t1 : Addr) (k1 : ClassId) (v1 : List Value) (f0 : Value) (h0 : Heap) (n0 : Nat) (Z0 : n0 ≤ h0.size) (O0 : Old Z n0 h0) (Vt : Arv Z h0 t1 k1 .byte (4 : Int32) v1 (.int 0)) (SZf : Sta Z Z.heap kS3 "SIOOBE_FORMATTER" "Ljava/util/function/BiFunction;" f0) (rf0 : f0.isRef = true) :
  OwnM l Z h0 (⟨kS1, "checkIndex", "(I[B)V"⟩ : MethodName) (Jvm.Cond.code (⟨kS1, "checkIndex", "(I[B)V"⟩ : MethodName) jdk_52_method_91_code 2 none :: ws) (RM 2 0 0 27) #[(.int 0), (.ref t1)] (Qrm_uci_2_0 Z t1 k1 v1 f0 h0 n0) := by
 refine MetFree.of_bodySF (plainFor_of_name pn_3) hisR ?_
 intro p e s m args below meth c s₁ Bd hml0 hP hK
 obtain ⟨rfl, hZ, hh⟩ := hP
 have hx := Bd.exec
 have hby := Bd.bytes
 have hml : c.maxLocals = 2 := hml0
 have hown : s.vm.findClass kS1 = some m.cls := findClass_of_methodNamed Bd.named
 have hnm := (name_of_methodNamed Bd.named Bd.method).1
 have X0 : Stand p l e (RM 2 0 0 27) s m #[(.int 0), (.ref t1)] below meth c s₁ [] 0 0 := Stand.of_body Bd
 have e0 : s₁.heap = h0 := by rw [← hh, Bd.state]; rfl
 have N0 := Fr.nil n0
 have pre0 : ∀ t, GO p e below s₁ (mkF m 0 #[.val (.int 0), .val (.ref t1)] []) t → GO p e below s₁ (entryFrame m #[(.int 0), (.ref t1)] 2) t := fun t k => castTop (ef_rm_uci_2_0 m ((0 : Int32)) t1) k
 have lt_Vt := ltA Vt.lt
 -- pc 2: StringUTF16.length by rm_l16_2
 obtain ⟨_, _, ⟨T352, L352, k352, n352⟩, -, X352, ⟨Lc352, hQ352, l352, y352, z352⟩, st352⟩ := Jvm.LawKit.callS X0 hx (y := (⟨kS1, "length", "([B)I"⟩ : MethodName)) hown (mvT hZ (wd hw 129 rfl)) (mvT hZ (wd hw 130 rfl)) (mvT hZ (wd hw 86 rfl)) (mvT hZ (wd hw 131 rfl)) (by decide) (backOf (W := 1) (rm_l16_2 l Z a0 hw [] t1 k1 v1 h0 n0 Z0 Vt) hZ (wd hw 131 rfl) (wd hw 86 rfl) (by decide) (by decide)) (g := (mkF m 2 #[.val (.int 0), .val (.ref t1)] [(.ref t1), (.int 0)])) rfl (by rw [hml]; rfl) (argsL := [(.ref t1)]) (rest := [(.int 0)]) (lenOf pd_15 rfl) rfl (wz rfl) (hb hby d26_2) (fun _ _ => ⟨rfl, e0, (by decide : 0 + 0 ≤ _), (by decide : 0 + 0 ≤ _)⟩)
 dsimp only [Pt.U, Pt.locs, Pt.cells, Pt.slots] at X352 l352 y352 z352 st352 hQ352
 subst l352 y352 z352
 obtain ⟨rfl, N352q, e352⟩ := hQ352
 have N352 := Fr.app N0 N352q
 -- pc 5: String.checkIndex by rm_sck
 obtain ⟨_, _, ⟨T353, L353, k353, n353⟩, -, X353, ⟨Lc353, hQ353, l353, y353, z353⟩, st353⟩ := Jvm.LawKit.callS X352 hx (y := (⟨kS0, "checkIndex", "(II)V"⟩ : MethodName)) hown (mvT hZ (wd hw 132 rfl)) (mvT hZ (wd hw 133 rfl)) (mvT hZ (wd hw 46 rfl)) (mvT hZ (wd hw 134 rfl)) (by decide) (backOf (W := 0) (rm_sck l Z a0 hw [] (0 : Int32) (2 : Int32) f0 h0 n0 Z0 O0 (by first | assumption | decide | omega) (by first | assumption | decide | omega) (by decide) (by decide)) hZ (wd hw 134 rfl) (wd hw 46 rfl) (by decide) (by decide)) (g := (mkF m 5 #[.val (.int 0), .val (.ref t1)] [(.int 2), (.int 0)])) rfl (by rw [hml]; rfl) (argsL := [(.int 0), (.int 2)]) (rest := []) (lenOf pd_13 rfl) rfl (wz rfl) (hb hby d26_5) (fun _ _ => ⟨rfl, e352, (by decide : 0 + 0 ≤ _), (by decide : 0 + 0 ≤ _)⟩)
 dsimp only [Pt.U, Pt.locs, Pt.cells, Pt.slots] at X353 l353 y353 z353 st353 hQ353
 subst l353 y353 z353
 obtain ⟨rfl, N353q, e353⟩ := hQ353
 have N353 := Fr.app N352 N353q
 obtain ⟨fs, hr, hrun, hended, hW, hsame⟩ := X353.leave (v := none) (fun _ => rfl)
 refine ⟨_, _, pre0 _ ?_, hrun, hended, _, _, rfl, ?_, ⟨_, rfl⟩, hW, hsame.mono (by decide) (by decide)⟩
 ·show GO p e below s₁ (mkF m 0 #[.val (.int 0), .val (.ref t1)] []) _
  refine XS.iloadN X0.here hx rfl (hb hby d26_0) rfl ?_
  show GO p e below s₁ (mkF m 1 #[.val (.int 0), .val (.ref t1)] [(.int 0)]) _
  refine XS.aloadN X0.here hx rfl (hb hby d26_1) rfl rfl ?_
  show GO p e below s₁ (mkF m 2 #[.val (.int 0), .val (.ref t1)] [(.ref t1), (.int 0)]) _
  refine st352 _ ?_
  show GO p e below T352 (mkF m 5 #[.val (.int 0), .val (.ref t1)] [(.int 2), (.int 0)]) _
  refine st353 _ ?_
  show GO p e below T353 (mkF m 8 #[.val (.int 0), .val (.ref t1)] []) _
  exact X353.returnOut hx Bd.returns (hb hby d26_8) hr
 ·show Qrm_uci_2_0 Z t1 k1 v1 f0 h0 n0 _ T353.heap _
  rw [e353]
  exact ⟨rfl, N353, rfl⟩
def Qrm_uc_2_0 (Z : State) (t1 : Addr) (k1 : ClassId) (c1 : Int32) (u0 : Int32) (u1 : Int32) (u2 : Int32) (u3 : Int32) (f0 : Value) (h0 : Heap) (n0 : Nat) (v : Option Value) (h : Heap) (L : List Loc) : Prop := v = some (.int c1) ∧ Fr n0 L ∧ h = h0
theorem ef_rm_uc_2_0 (m : MethodId) (x0 : Addr) (x1 : Int32) : entryFrame m #[(.ref x0), (.int x1)] 2 = mkF m 0 #[.val (.ref x0), .val (.int x1)] [] := by first | rfl | (simp [entryFrame, mkF, argsToLocals, Value.category]; done)
theorem rm_uc_2_0 (l : Launch) (Z : State) (a0 : Array Value) (hw : HW Z a0) (ws : List Jvm.Cond) (t1 : Addr) (k1 : ClassId) (c1 : Int32) (u0 : Int32) (u1 : Int32) (u2 : Int32) (u3 : Int32) (f0 : Value) (h0 : Heap) (n0 : Nat) (Z0 : n0 ≤ h0.size) (O0 : Old Z n0 h0) (Vt : Arv Z h0 t1 k1 .byte (4 : Int32) [(.int u0), (.int u1), (.int u2), (.int u3)] (.int 0)) (SZad : Sta Z Z.heap kS1 "$assertionsDisabled" "Z" (.int 1)) (SZhi : Sta Z Z.heap kS1 "HI_BYTE_SHIFT" "I" (.int 0)) (SZlo : Sta Z Z.heap kS1 "LO_BYTE_SHIFT" "I" (.int 8)) (SZf : Sta Z Z.heap kS3 "SIOOBE_FORMATTER" "Ljava/util/function/BiFunction;" f0) (rf0 : f0.isRef = true) (hc : nar .char ((((u0 &&& (255 : Int32)) <<< ((0 : Int32) &&& 31)) ||| ((u1 &&& (255 : Int32)) <<< ((8 : Int32) &&& 31))).toUInt32.toUInt16.toUInt32.toInt32) = c1) (hcc : nar .char c1 = c1) :
  OwnM l Z h0 (⟨kS1, "charAt", "([BI)C"⟩ : MethodName) (Jvm.Cond.code (⟨kS1, "charAt", "([BI)C"⟩ : MethodName) jdk_52_method_83_code 2 (some .char) :: ws) (RM 3 0 0 40) #[(.ref t1), (.int 0)] (Qrm_uc_2_0 Z t1 k1 c1 u0 u1 u2 u3 f0 h0 n0) := by
 refine MetFree.of_bodySF (plainFor_of_name pn_3) hisR ?_
 intro p e s m args below meth c s₁ Bd hml0 hP hK
 obtain ⟨rfl, hZ, hh⟩ := hP
 have hx := Bd.exec
 have hby := Bd.bytes
 have hml : c.maxLocals = 2 := hml0
 have hown : s.vm.findClass kS1 = some m.cls := findClass_of_methodNamed Bd.named
 have hnm := (name_of_methodNamed Bd.named Bd.method).1
 have X0 : Stand p l e (RM 3 0 0 40) s m #[(.ref t1), (.int 0)] below meth c s₁ [] 0 0 := Stand.of_body Bd
 have e0 : s₁.heap = h0 := by rw [← hh, Bd.state]; rfl
 have N0 := Fr.nil n0
 have pre0 : ∀ t, GO p e below s₁ (mkF m 0 #[.val (.ref t1), .val (.int 0)] []) t → GO p e below s₁ (entryFrame m #[(.ref t1), (.int 0)] 2) t := fun t k => castTop (ef_rm_uc_2_0 m t1 ((0 : Int32))) k
 have lt_Vt := ltA Vt.lt
 -- pc 2: StringUTF16.checkIndex by rm_uci_2_0
 obtain ⟨_, _, ⟨T354, L354, k354, n354⟩, -, X354, ⟨Lc354, hQ354, l354, y354, z354⟩, st354⟩ := Jvm.LawKit.callS X0 hx (y := (⟨kS1, "checkIndex", "(I[B)V"⟩ : MethodName)) hown (mvT hZ (wd hw 126 rfl)) (mvT hZ (wd hw 127 rfl)) (mvT hZ (wd hw 86 rfl)) (mvT hZ (wd hw 128 rfl)) (by decide) (backOf (W := 0) (rm_uci_2_0 l Z a0 hw [] t1 k1 ([(.int u0), (.int u1), (.int u2), (.int u3)]) f0 h0 n0 Z0 O0 Vt (by first | assumption | decide | omega) (by first | assumption | decide | omega)) hZ (wd hw 128 rfl) (wd hw 86 rfl) (by decide) (by decide)) (g := (mkF m 2 #[.val (.ref t1), .val (.int 0)] [(.ref t1), (.int 0)])) rfl (by rw [hml]; rfl) (argsL := [(.int 0), (.ref t1)]) (rest := []) (lenOf pd_16 rfl) rfl (wz rfl) (hb hby d25_2) (fun _ _ => ⟨rfl, e0, (by decide : 0 + 0 ≤ _), (by decide : 0 + 0 ≤ _)⟩)
 dsimp only [Pt.U, Pt.locs, Pt.cells, Pt.slots] at X354 l354 y354 z354 st354 hQ354
 subst l354 y354 z354
 obtain ⟨rfl, N354q, e354⟩ := hQ354
 have N354 := Fr.app N0 N354q
 -- pc 7: StringUTF16.getChar by rm_gc_2_0
 obtain ⟨_, _, ⟨T355, L355, k355, n355⟩, -, X355, ⟨Lc355, hQ355, l355, y355, z355⟩, st355⟩ := Jvm.LawKit.callS X354 hx (y := (⟨kS1, "getChar", "([BI)C"⟩ : MethodName)) hown (mvT hZ (wd hw 107 rfl)) (mvT hZ (wd hw 108 rfl)) (mvT hZ (wd hw 86 rfl)) (mvT hZ (wd hw 109 rfl)) (by decide) (backOf (W := 0) (rm_gc_2_0 l Z a0 hw [] t1 k1 c1 u0 u1 u2 u3 h0 n0 Z0 O0 Vt (by first | assumption | decide | omega) (by first | assumption | decide | omega) (by first | assumption | decide | omega) hc) hZ (wd hw 109 rfl) (wd hw 86 rfl) (by decide) (by decide)) (g := (mkF m 7 #[.val (.ref t1), .val (.int 0)] [(.int 0), (.ref t1)])) rfl (by rw [hml]; rfl) (argsL := [(.ref t1), (.int 0)]) (rest := []) (lenOf pd_11 rfl) rfl (wz rfl) (hb hby d25_7) (fun _ _ => ⟨rfl, e354, (by decide : 0 + 0 ≤ _), (by decide : 0 + 0 ≤ _)⟩)
 dsimp only [Pt.U, Pt.locs, Pt.cells, Pt.slots] at X355 l355 y355 z355 st355 hQ355
 subst l355 y355 z355
 obtain ⟨rfl, N355q, e355⟩ := hQ355
 have N355 := Fr.app N354 N355q
 obtain ⟨fs, hr, hrun, hended, hW, hsame⟩ := X355.leave (v := some (.int (nar .char c1))) (fun h => by rw [Bd.returns] at h; cases h)
 refine ⟨_, _, pre0 _ ?_, hrun, hended, _, _, rfl, ?_, ⟨_, rfl⟩, hW, hsame.mono (by decide) (by decide)⟩
 ·show GO p e below s₁ (mkF m 0 #[.val (.ref t1), .val (.int 0)] []) _
  refine XS.iloadN X0.here hx rfl (hb hby d25_0) rfl ?_
  show GO p e below s₁ (mkF m 1 #[.val (.ref t1), .val (.int 0)] [(.int 0)]) _
  refine XS.aloadN X0.here hx rfl (hb hby d25_1) rfl rfl ?_
  show GO p e below s₁ (mkF m 2 #[.val (.ref t1), .val (.int 0)] [(.ref t1), (.int 0)]) _
  refine st354 _ ?_
  show GO p e below T354 (mkF m 5 #[.val (.ref t1), .val (.int 0)] []) _
  refine XS.aloadN X354.here hx rfl (hb hby d25_5) rfl rfl ?_
  show GO p e below T354 (mkF m 6 #[.val (.ref t1), .val (.int 0)] [(.ref t1)]) _
  refine XS.iloadN X354.here hx rfl (hb hby d25_6) rfl ?_
  show GO p e below T354 (mkF m 7 #[.val (.ref t1), .val (.int 0)] [(.int 0), (.ref t1)]) _
  refine st355 _ ?_
  show GO p e below T355 (mkF m 10 #[.val (.ref t1), .val (.int 0)] [(.int c1)]) _
  exact retN X355 hx (t := .char) Bd.returns (by simp) (hb hby d25_10) hr
 ·show Qrm_uc_2_0 Z t1 k1 c1 u0 u1 u2 u3 f0 h0 n0 _ T355.heap _
  rw [e355]
  exact ⟨(by rw [hcc]), N355, rfl⟩
def Qrm_at_2_1_0 (Z : State) (x1 : Addr) (t1 : Addr) (k1 : ClassId) (u0 : Int32) (u1 : Int32) (u2 : Int32) (u3 : Int32) (c1 : Int32) (z0 : Int32) (f0 : Value) (h0 : Heap) (n0 : Nat) (v : Option Value) (h : Heap) (L : List Loc) : Prop := v = some (.int c1) ∧ Fr n0 L ∧ h = h0
theorem ef_rm_at_2_1_0 (m : MethodId) (x0 : Addr) (x1 : Int32) : entryFrame m #[(.ref x0), (.int x1)] 2 = mkF m 0 #[.val (.ref x0), .val (.int x1)] [] := by first | rfl | (simp [entryFrame, mkF, argsToLocals, Value.category]; done)
theorem rm_at_2_1_0 (l : Launch) (Z : State) (a0 : Array Value) (hw : HW Z a0) (ws : List Jvm.Cond) (x1 : Addr) (t1 : Addr) (k1 : ClassId) (u0 : Int32) (u1 : Int32) (u2 : Int32) (u3 : Int32) (c1 : Int32) (z0 : Int32) (f0 : Value) (h0 : Heap) (n0 : Nat) (Z0 : n0 ≤ h0.size) (O0 : Old Z n0 h0) (Es : Exa Z h0 x1 kS0) (Fc : Fld Z h0 x1 kS0 "coder" "B" (.int 1)) (Fv : Fld Z h0 x1 kS0 "value" "[B" (.ref t1)) (Vt : Arv Z h0 t1 k1 .byte (4 : Int32) [(.int u0), (.int u1), (.int u2), (.int u3)] (.int 0)) (SZc : Sta Z Z.heap kS0 "COMPACT_STRINGS" "Z" (.int z0)) (hz0 : ¬ z0 = 0) (SZf : Sta Z Z.heap kS3 "SIOOBE_FORMATTER" "Ljava/util/function/BiFunction;" f0) (rf0 : f0.isRef = true) (hc : nar .char ((((u0 &&& (255 : Int32)) <<< ((0 : Int32) &&& 31)) ||| ((u1 &&& (255 : Int32)) <<< ((8 : Int32) &&& 31))).toUInt32.toUInt16.toUInt32.toInt32) = c1) (hcc : nar .char c1 = c1) (SZad : Sta Z Z.heap kS1 "$assertionsDisabled" "Z" (.int 1)) (SZhi : Sta Z Z.heap kS1 "HI_BYTE_SHIFT" "I" (.int 0)) (SZlo : Sta Z Z.heap kS1 "LO_BYTE_SHIFT" "I" (.int 8)) :
  OwnM l Z h0 (⟨kS0, "charAt", "(I)C"⟩ : MethodName) (Jvm.Cond.code (⟨kS0, "charAt", "(I)C"⟩ : MethodName) jdk_42_method_56_code 2 (some .char) :: ws) (RM 4 0 0 53) #[(.ref x1), (.int 0)] (Qrm_at_2_1_0 Z x1 t1 k1 u0 u1 u2 u3 c1 z0 f0 h0 n0) := by
 refine MetFree.of_bodySF (plainFor_of_name pn_2) hisR ?_
 intro p e s m args below meth c s₁ Bd hml0 hP hK
 obtain ⟨rfl, hZ, hh⟩ := hP
 have hx := Bd.exec
 have hby := Bd.bytes
 have hml : c.maxLocals = 2 := hml0
 have hown : s.vm.findClass kS0 = some m.cls := findClass_of_methodNamed Bd.named
 have hnm := (name_of_methodNamed Bd.named Bd.method).1
 have X0 : Stand p l e (RM 4 0 0 53) s m #[(.ref x1), (.int 0)] below meth c s₁ [] 0 0 := Stand.of_body Bd
 have e0 : s₁.heap = h0 := by rw [← hh, Bd.state]; rfl
 have N0 := Fr.nil n0
 have pre0 : ∀ t, GO p e below s₁ (mkF m 0 #[.val (.ref x1), .val (.int 0)] []) t → GO p e below s₁ (entryFrame m #[(.ref x1), (.int 0)] 2) t := fun t k => castTop (ef_rm_at_2_1_0 m x1 ((0 : Int32))) k
 have lt_Es := ltA Es.lt
 have lt_Fc := ltA Fc.lt
 have lt_Fv := ltA Fv.lt
 have lt_Vt := ltA Vt.lt
 -- pc 1: String.isLatin1 by rm_isl1
 obtain ⟨cq356, kq356, q356a, q356b, q356c⟩ := isOf hZ e0 Es
 obtain ⟨_, _, ⟨T356, L356, k356, n356⟩, -, X356, ⟨Lc356, hQ356, l356, y356, z356⟩, st356⟩ := X0.virtualBack hx (y := (⟨kS0, "isLatin1", "()Z"⟩ : MethodName)) (z := (⟨kS0, "isLatin1", "()Z"⟩ : MethodName)) hown (mvT hZ (wd hw 118 rfl)) (mvT hZ (wd hw 119 rfl)) (notFace_of_selects (args := #[]) (mvT hZ (wd hw 121 rfl))) (mvT hZ (wd hw 121 rfl)) (mvT hZ (wd hw 120 rfl)) (by decide) (backOf (W := 0) (rm_isl1 l Z a0 hw [] x1 z0 h0 n0 Z0 O0 Fc (by first | assumption | decide | omega) (by first | assumption | decide | omega)) hZ (wd hw 122 rfl) (wd hw 46 rfl) (by decide) (by decide)) q356a q356c (g := (mkF m 1 #[.val (.ref x1), .val (.int 0)] [(.ref x1)])) rfl (by rw [hml]; rfl) (Steps.refl _) (argsL := []) (rest := []) (lenOf pd_14 rfl) rfl (wz rfl) (hb hby d23_1) (fun _ _ => ⟨rfl, e0, (by decide : 0 + 0 ≤ _), (by decide : 0 + 0 ≤ _)⟩)
 dsimp only [Pt.U, Pt.locs, Pt.cells, Pt.slots] at X356 l356 y356 z356 st356 hQ356
 subst l356 y356 z356
 obtain ⟨rfl, N356q, e356⟩ := hQ356
 have N356 := Fr.app N0 N356q
 obtain ⟨T357, X357, e357, st357⟩ := getF X356 hx hZ hown (host := "") (Or.inl (wd hw 71 rfl)) Via.refl e356 Fv (g := (mkF m 17 #[.val (.ref x1), .val (.int 0)] [(.ref x1)])) rfl rfl (hb hby d23_17)
 -- pc 21: StringUTF16.charAt by rm_uc_2_0
 obtain ⟨_, _, ⟨T358, L358, k358, n358⟩, -, X358, ⟨Lc358, hQ358, l358, y358, z358⟩, st358⟩ := Jvm.LawKit.callS X357 hx (y := (⟨kS1, "charAt", "([BI)C"⟩ : MethodName)) hown (mvT hZ (wd hw 123 rfl)) (mvT hZ (wd hw 124 rfl)) (mvT hZ (wd hw 86 rfl)) (mvT hZ (wd hw 125 rfl)) (by decide) (backOf (W := 0) (rm_uc_2_0 l Z a0 hw [] t1 k1 c1 u0 u1 u2 u3 f0 h0 n0 Z0 O0 Vt (by first | assumption | decide | omega) (by first | assumption | decide | omega) (by first | assumption | decide | omega) (by first | assumption | decide | omega) (by first | assumption | decide | omega) hc hcc) hZ (wd hw 125 rfl) (wd hw 86 rfl) (by decide) (by decide)) (g := (mkF m 21 #[.val (.ref x1), .val (.int 0)] [(.int 0), (.ref t1)])) rfl (by rw [hml]; rfl) (argsL := [(.ref t1), (.int 0)]) (rest := []) (lenOf pd_11 rfl) rfl (wz rfl) (hb hby d23_21) (fun _ _ => ⟨rfl, e357, (by decide : 0 + 0 ≤ _), (by decide : 0 + 0 ≤ _)⟩)
 dsimp only [Pt.U, Pt.locs, Pt.cells, Pt.slots] at X358 l358 y358 z358 st358 hQ358
 subst l358 y358 z358
 obtain ⟨rfl, N358q, e358⟩ := hQ358
 have N358 := Fr.app N356 N358q
 obtain ⟨fs, hr, hrun, hended, hW, hsame⟩ := X358.leave (v := some (.int (nar .char c1))) (fun h => by rw [Bd.returns] at h; cases h)
 refine ⟨_, _, pre0 _ ?_, hrun, hended, _, _, rfl, ?_, ⟨_, rfl⟩, hW, hsame.mono (by decide) (by decide)⟩
 ·show GO p e below s₁ (mkF m 0 #[.val (.ref x1), .val (.int 0)] []) _
  refine XS.aloadN X0.here hx rfl (hb hby d23_0) rfl rfl ?_
  show GO p e below s₁ (mkF m 1 #[.val (.ref x1), .val (.int 0)] [(.ref x1)]) _
  refine st356.trans ?_
  show GO p e below T356 (mkF m 4 #[.val (.ref x1), .val (.int 0)] [(.int 0)]) _
  refine XS.ifYes X356.here hx rfl (pc0 := 4) (pc' := 16) rfl (hb hby d23_4) rfl ((if0 _ _).trans (teq (rfl : (0 : Int32) = (0 : Int32))).1) (by decide) (by decide) ?_
  show GO p e below T356 (mkF m 16 #[.val (.ref x1), .val (.int 0)] []) _
  refine XS.aloadN X356.here hx rfl (hb hby d23_16) rfl rfl ?_
  show GO p e below T356 (mkF m 17 #[.val (.ref x1), .val (.int 0)] [(.ref x1)]) _
  refine st357 _ ?_
  show GO p e below T357 (mkF m 20 #[.val (.ref x1), .val (.int 0)] [(.ref t1)]) _
  refine XS.iloadN X357.here hx rfl (hb hby d23_20) rfl ?_
  show GO p e below T357 (mkF m 21 #[.val (.ref x1), .val (.int 0)] [(.int 0), (.ref t1)]) _
  refine st358 _ ?_
  show GO p e below T358 (mkF m 24 #[.val (.ref x1), .val (.int 0)] [(.int c1)]) _
  exact retN X358 hx (t := .char) Bd.returns (by simp) (hb hby d23_24) hr
 ·show Qrm_at_2_1_0 Z x1 t1 k1 u0 u1 u2 u3 c1 z0 f0 h0 n0 _ T358.heap _
  rw [e358]
  exact ⟨(by rw [hcc]), N358, rfl⟩
def Qrm_uci_2_1 (Z : State) (t1 : Addr) (k1 : ClassId) (v1 : List Value) (f0 : Value) (h0 : Heap) (n0 : Nat) (v : Option Value) (h : Heap) (L : List Loc) : Prop := v = none ∧ Fr n0 L ∧ h = h0
theorem ef_rm_uci_2_1 (m : MethodId) (x0 : Int32) (x1 : Addr) : entryFrame m #[(.int x0), (.ref x1)] 2 = mkF m 0 #[.val (.int x0), .val (.ref x1)] [] := by first | rfl | (simp [entryFrame, mkF, argsToLocals, Value.category]; done)
theorem rm_uci_2_1 (l : Launch) (Z : State) (a0 : Array Value) (hw : HW Z a0) (ws : List Jvm.Cond) (t1 : Addr) (k1 : ClassId) (v1 : List Value) (f0 : Value) (h0 : Heap) (n0 : Nat) (Z0 : n0 ≤ h0.size) (O0 : Old Z n0 h0) (Vt : Arv Z h0 t1 k1 .byte (4 : Int32) v1 (.int 0)) (SZf : Sta Z Z.heap kS3 "SIOOBE_FORMATTER" "Ljava/util/function/BiFunction;" f0) (rf0 : f0.isRef = true) :
  OwnM l Z h0 (⟨kS1, "checkIndex", "(I[B)V"⟩ : MethodName) (Jvm.Cond.code (⟨kS1, "checkIndex", "(I[B)V"⟩ : MethodName) jdk_52_method_91_code 2 none :: ws) (RM 2 0 0 27) #[(.int 1), (.ref t1)] (Qrm_uci_2_1 Z t1 k1 v1 f0 h0 n0) := by
 refine MetFree.of_bodySF (plainFor_of_name pn_3) hisR ?_
 intro p e s m args below meth c s₁ Bd hml0 hP hK
 obtain ⟨rfl, hZ, hh⟩ := hP
 have hx := Bd.exec
 have hby := Bd.bytes
 have hml : c.maxLocals = 2 := hml0
 have hown : s.vm.findClass kS1 = some m.cls := findClass_of_methodNamed Bd.named
 have hnm := (name_of_methodNamed Bd.named Bd.method).1
 have X0 : Stand p l e (RM 2 0 0 27) s m #[(.int 1), (.ref t1)] below meth c s₁ [] 0 0 := Stand.of_body Bd
 have e0 : s₁.heap = h0 := by rw [← hh, Bd.state]; rfl
 have N0 := Fr.nil n0
 have pre0 : ∀ t, GO p e below s₁ (mkF m 0 #[.val (.int 1), .val (.ref t1)] []) t → GO p e below s₁ (entryFrame m #[(.int 1), (.ref t1)] 2) t := fun t k => castTop (ef_rm_uci_2_1 m ((1 : Int32)) t1) k
 have lt_Vt := ltA Vt.lt
 -- pc 2: StringUTF16.length by rm_l16_2
 obtain ⟨_, _, ⟨T359, L359, k359, n359⟩, -, X359, ⟨Lc359, hQ359, l359, y359, z359⟩, st359⟩ := Jvm.LawKit.callS X0 hx (y := (⟨kS1, "length", "([B)I"⟩ : MethodName)) hown (mvT hZ (wd hw 129 rfl)) (mvT hZ (wd hw 130 rfl)) (mvT hZ (wd hw 86 rfl)) (mvT hZ (wd hw 131 rfl)) (by decide) (backOf (W := 1) (rm_l16_2 l Z a0 hw [] t1 k1 v1 h0 n0 Z0 Vt) hZ (wd hw 131 rfl) (wd hw 86 rfl) (by decide) (by decide)) (g := (mkF m 2 #[.val (.int 1), .val (.ref t1)] [(.ref t1), (.int 1)])) rfl (by rw [hml]; rfl) (argsL := [(.ref t1)]) (rest := [(.int 1)]) (lenOf pd_15 rfl) rfl (wz rfl) (hb hby d26_2) (fun _ _ => ⟨rfl, e0, (by decide : 0 + 0 ≤ _), (by decide : 0 + 0 ≤ _)⟩)
 dsimp only [Pt.U, Pt.locs, Pt.cells, Pt.slots] at X359 l359 y359 z359 st359 hQ359
 subst l359 y359 z359
 obtain ⟨rfl, N359q, e359⟩ := hQ359
 have N359 := Fr.app N0 N359q
 -- pc 5: String.checkIndex by rm_sck
 obtain ⟨_, _, ⟨T360, L360, k360, n360⟩, -, X360, ⟨Lc360, hQ360, l360, y360, z360⟩, st360⟩ := Jvm.LawKit.callS X359 hx (y := (⟨kS0, "checkIndex", "(II)V"⟩ : MethodName)) hown (mvT hZ (wd hw 132 rfl)) (mvT hZ (wd hw 133 rfl)) (mvT hZ (wd hw 46 rfl)) (mvT hZ (wd hw 134 rfl)) (by decide) (backOf (W := 0) (rm_sck l Z a0 hw [] (1 : Int32) (2 : Int32) f0 h0 n0 Z0 O0 (by first | assumption | decide | omega) (by first | assumption | decide | omega) (by decide) (by decide)) hZ (wd hw 134 rfl) (wd hw 46 rfl) (by decide) (by decide)) (g := (mkF m 5 #[.val (.int 1), .val (.ref t1)] [(.int 2), (.int 1)])) rfl (by rw [hml]; rfl) (argsL := [(.int 1), (.int 2)]) (rest := []) (lenOf pd_13 rfl) rfl (wz rfl) (hb hby d26_5) (fun _ _ => ⟨rfl, e359, (by decide : 0 + 0 ≤ _), (by decide : 0 + 0 ≤ _)⟩)
 dsimp only [Pt.U, Pt.locs, Pt.cells, Pt.slots] at X360 l360 y360 z360 st360 hQ360
 subst l360 y360 z360
 obtain ⟨rfl, N360q, e360⟩ := hQ360
 have N360 := Fr.app N359 N360q
 obtain ⟨fs, hr, hrun, hended, hW, hsame⟩ := X360.leave (v := none) (fun _ => rfl)
 refine ⟨_, _, pre0 _ ?_, hrun, hended, _, _, rfl, ?_, ⟨_, rfl⟩, hW, hsame.mono (by decide) (by decide)⟩
 ·show GO p e below s₁ (mkF m 0 #[.val (.int 1), .val (.ref t1)] []) _
  refine XS.iloadN X0.here hx rfl (hb hby d26_0) rfl ?_
  show GO p e below s₁ (mkF m 1 #[.val (.int 1), .val (.ref t1)] [(.int 1)]) _
  refine XS.aloadN X0.here hx rfl (hb hby d26_1) rfl rfl ?_
  show GO p e below s₁ (mkF m 2 #[.val (.int 1), .val (.ref t1)] [(.ref t1), (.int 1)]) _
  refine st359 _ ?_
  show GO p e below T359 (mkF m 5 #[.val (.int 1), .val (.ref t1)] [(.int 2), (.int 1)]) _
  refine st360 _ ?_
  show GO p e below T360 (mkF m 8 #[.val (.int 1), .val (.ref t1)] []) _
  exact X360.returnOut hx Bd.returns (hb hby d26_8) hr
 ·show Qrm_uci_2_1 Z t1 k1 v1 f0 h0 n0 _ T360.heap _
  rw [e360]
  exact ⟨rfl, N360, rfl⟩
def Qrm_uc_2_1 (Z : State) (t1 : Addr) (k1 : ClassId) (c1 : Int32) (u0 : Int32) (u1 : Int32) (u2 : Int32) (u3 : Int32) (f0 : Value) (h0 : Heap) (n0 : Nat) (v : Option Value) (h : Heap) (L : List Loc) : Prop := v = some (.int c1) ∧ Fr n0 L ∧ h = h0
theorem ef_rm_uc_2_1 (m : MethodId) (x0 : Addr) (x1 : Int32) : entryFrame m #[(.ref x0), (.int x1)] 2 = mkF m 0 #[.val (.ref x0), .val (.int x1)] [] := by first | rfl | (simp [entryFrame, mkF, argsToLocals, Value.category]; done)
theorem rm_uc_2_1 (l : Launch) (Z : State) (a0 : Array Value) (hw : HW Z a0) (ws : List Jvm.Cond) (t1 : Addr) (k1 : ClassId) (c1 : Int32) (u0 : Int32) (u1 : Int32) (u2 : Int32) (u3 : Int32) (f0 : Value) (h0 : Heap) (n0 : Nat) (Z0 : n0 ≤ h0.size) (O0 : Old Z n0 h0) (Vt : Arv Z h0 t1 k1 .byte (4 : Int32) [(.int u0), (.int u1), (.int u2), (.int u3)] (.int 0)) (SZad : Sta Z Z.heap kS1 "$assertionsDisabled" "Z" (.int 1)) (SZhi : Sta Z Z.heap kS1 "HI_BYTE_SHIFT" "I" (.int 0)) (SZlo : Sta Z Z.heap kS1 "LO_BYTE_SHIFT" "I" (.int 8)) (SZf : Sta Z Z.heap kS3 "SIOOBE_FORMATTER" "Ljava/util/function/BiFunction;" f0) (rf0 : f0.isRef = true) (hc : nar .char ((((u2 &&& (255 : Int32)) <<< ((0 : Int32) &&& 31)) ||| ((u3 &&& (255 : Int32)) <<< ((8 : Int32) &&& 31))).toUInt32.toUInt16.toUInt32.toInt32) = c1) (hcc : nar .char c1 = c1) :
  OwnM l Z h0 (⟨kS1, "charAt", "([BI)C"⟩ : MethodName) (Jvm.Cond.code (⟨kS1, "charAt", "([BI)C"⟩ : MethodName) jdk_52_method_83_code 2 (some .char) :: ws) (RM 3 0 0 40) #[(.ref t1), (.int 1)] (Qrm_uc_2_1 Z t1 k1 c1 u0 u1 u2 u3 f0 h0 n0) := by
 refine MetFree.of_bodySF (plainFor_of_name pn_3) hisR ?_
 intro p e s m args below meth c s₁ Bd hml0 hP hK
 obtain ⟨rfl, hZ, hh⟩ := hP
 have hx := Bd.exec
 have hby := Bd.bytes
 have hml : c.maxLocals = 2 := hml0
 have hown : s.vm.findClass kS1 = some m.cls := findClass_of_methodNamed Bd.named
 have hnm := (name_of_methodNamed Bd.named Bd.method).1
 have X0 : Stand p l e (RM 3 0 0 40) s m #[(.ref t1), (.int 1)] below meth c s₁ [] 0 0 := Stand.of_body Bd
 have e0 : s₁.heap = h0 := by rw [← hh, Bd.state]; rfl
 have N0 := Fr.nil n0
 have pre0 : ∀ t, GO p e below s₁ (mkF m 0 #[.val (.ref t1), .val (.int 1)] []) t → GO p e below s₁ (entryFrame m #[(.ref t1), (.int 1)] 2) t := fun t k => castTop (ef_rm_uc_2_1 m t1 ((1 : Int32))) k
 have lt_Vt := ltA Vt.lt
 -- pc 2: StringUTF16.checkIndex by rm_uci_2_1
 obtain ⟨_, _, ⟨T361, L361, k361, n361⟩, -, X361, ⟨Lc361, hQ361, l361, y361, z361⟩, st361⟩ := Jvm.LawKit.callS X0 hx (y := (⟨kS1, "checkIndex", "(I[B)V"⟩ : MethodName)) hown (mvT hZ (wd hw 126 rfl)) (mvT hZ (wd hw 127 rfl)) (mvT hZ (wd hw 86 rfl)) (mvT hZ (wd hw 128 rfl)) (by decide) (backOf (W := 0) (rm_uci_2_1 l Z a0 hw [] t1 k1 ([(.int u0), (.int u1), (.int u2), (.int u3)]) f0 h0 n0 Z0 O0 Vt (by first | assumption | decide | omega) (by first | assumption | decide | omega)) hZ (wd hw 128 rfl) (wd hw 86 rfl) (by decide) (by decide)) (g := (mkF m 2 #[.val (.ref t1), .val (.int 1)] [(.ref t1), (.int 1)])) rfl (by rw [hml]; rfl) (argsL := [(.int 1), (.ref t1)]) (rest := []) (lenOf pd_16 rfl) rfl (wz rfl) (hb hby d25_2) (fun _ _ => ⟨rfl, e0, (by decide : 0 + 0 ≤ _), (by decide : 0 + 0 ≤ _)⟩)
 dsimp only [Pt.U, Pt.locs, Pt.cells, Pt.slots] at X361 l361 y361 z361 st361 hQ361
 subst l361 y361 z361
 obtain ⟨rfl, N361q, e361⟩ := hQ361
 have N361 := Fr.app N0 N361q
 -- pc 7: StringUTF16.getChar by rm_gc_2_1
 obtain ⟨_, _, ⟨T362, L362, k362, n362⟩, -, X362, ⟨Lc362, hQ362, l362, y362, z362⟩, st362⟩ := Jvm.LawKit.callS X361 hx (y := (⟨kS1, "getChar", "([BI)C"⟩ : MethodName)) hown (mvT hZ (wd hw 107 rfl)) (mvT hZ (wd hw 108 rfl)) (mvT hZ (wd hw 86 rfl)) (mvT hZ (wd hw 109 rfl)) (by decide) (backOf (W := 0) (rm_gc_2_1 l Z a0 hw [] t1 k1 c1 u0 u1 u2 u3 h0 n0 Z0 O0 Vt (by first | assumption | decide | omega) (by first | assumption | decide | omega) (by first | assumption | decide | omega) hc) hZ (wd hw 109 rfl) (wd hw 86 rfl) (by decide) (by decide)) (g := (mkF m 7 #[.val (.ref t1), .val (.int 1)] [(.int 1), (.ref t1)])) rfl (by rw [hml]; rfl) (argsL := [(.ref t1), (.int 1)]) (rest := []) (lenOf pd_11 rfl) rfl (wz rfl) (hb hby d25_7) (fun _ _ => ⟨rfl, e361, (by decide : 0 + 0 ≤ _), (by decide : 0 + 0 ≤ _)⟩)
 dsimp only [Pt.U, Pt.locs, Pt.cells, Pt.slots] at X362 l362 y362 z362 st362 hQ362
 subst l362 y362 z362
 obtain ⟨rfl, N362q, e362⟩ := hQ362
 have N362 := Fr.app N361 N362q
 obtain ⟨fs, hr, hrun, hended, hW, hsame⟩ := X362.leave (v := some (.int (nar .char c1))) (fun h => by rw [Bd.returns] at h; cases h)
 refine ⟨_, _, pre0 _ ?_, hrun, hended, _, _, rfl, ?_, ⟨_, rfl⟩, hW, hsame.mono (by decide) (by decide)⟩
 ·show GO p e below s₁ (mkF m 0 #[.val (.ref t1), .val (.int 1)] []) _
  refine XS.iloadN X0.here hx rfl (hb hby d25_0) rfl ?_
  show GO p e below s₁ (mkF m 1 #[.val (.ref t1), .val (.int 1)] [(.int 1)]) _
  refine XS.aloadN X0.here hx rfl (hb hby d25_1) rfl rfl ?_
  show GO p e below s₁ (mkF m 2 #[.val (.ref t1), .val (.int 1)] [(.ref t1), (.int 1)]) _
  refine st361 _ ?_
  show GO p e below T361 (mkF m 5 #[.val (.ref t1), .val (.int 1)] []) _
  refine XS.aloadN X361.here hx rfl (hb hby d25_5) rfl rfl ?_
  show GO p e below T361 (mkF m 6 #[.val (.ref t1), .val (.int 1)] [(.ref t1)]) _
  refine XS.iloadN X361.here hx rfl (hb hby d25_6) rfl ?_
  show GO p e below T361 (mkF m 7 #[.val (.ref t1), .val (.int 1)] [(.int 1), (.ref t1)]) _
  refine st362 _ ?_
  show GO p e below T362 (mkF m 10 #[.val (.ref t1), .val (.int 1)] [(.int c1)]) _
  exact retN X362 hx (t := .char) Bd.returns (by simp) (hb hby d25_10) hr
 ·show Qrm_uc_2_1 Z t1 k1 c1 u0 u1 u2 u3 f0 h0 n0 _ T362.heap _
  rw [e362]
  exact ⟨(by rw [hcc]), N362, rfl⟩
def Qrm_at_2_1_1 (Z : State) (x1 : Addr) (t1 : Addr) (k1 : ClassId) (u0 : Int32) (u1 : Int32) (u2 : Int32) (u3 : Int32) (c1 : Int32) (z0 : Int32) (f0 : Value) (h0 : Heap) (n0 : Nat) (v : Option Value) (h : Heap) (L : List Loc) : Prop := v = some (.int c1) ∧ Fr n0 L ∧ h = h0
theorem ef_rm_at_2_1_1 (m : MethodId) (x0 : Addr) (x1 : Int32) : entryFrame m #[(.ref x0), (.int x1)] 2 = mkF m 0 #[.val (.ref x0), .val (.int x1)] [] := by first | rfl | (simp [entryFrame, mkF, argsToLocals, Value.category]; done)
theorem rm_at_2_1_1 (l : Launch) (Z : State) (a0 : Array Value) (hw : HW Z a0) (ws : List Jvm.Cond) (x1 : Addr) (t1 : Addr) (k1 : ClassId) (u0 : Int32) (u1 : Int32) (u2 : Int32) (u3 : Int32) (c1 : Int32) (z0 : Int32) (f0 : Value) (h0 : Heap) (n0 : Nat) (Z0 : n0 ≤ h0.size) (O0 : Old Z n0 h0) (Es : Exa Z h0 x1 kS0) (Fc : Fld Z h0 x1 kS0 "coder" "B" (.int 1)) (Fv : Fld Z h0 x1 kS0 "value" "[B" (.ref t1)) (Vt : Arv Z h0 t1 k1 .byte (4 : Int32) [(.int u0), (.int u1), (.int u2), (.int u3)] (.int 0)) (SZc : Sta Z Z.heap kS0 "COMPACT_STRINGS" "Z" (.int z0)) (hz0 : ¬ z0 = 0) (SZf : Sta Z Z.heap kS3 "SIOOBE_FORMATTER" "Ljava/util/function/BiFunction;" f0) (rf0 : f0.isRef = true) (hc : nar .char ((((u2 &&& (255 : Int32)) <<< ((0 : Int32) &&& 31)) ||| ((u3 &&& (255 : Int32)) <<< ((8 : Int32) &&& 31))).toUInt32.toUInt16.toUInt32.toInt32) = c1) (hcc : nar .char c1 = c1) (SZad : Sta Z Z.heap kS1 "$assertionsDisabled" "Z" (.int 1)) (SZhi : Sta Z Z.heap kS1 "HI_BYTE_SHIFT" "I" (.int 0)) (SZlo : Sta Z Z.heap kS1 "LO_BYTE_SHIFT" "I" (.int 8)) :
  OwnM l Z h0 (⟨kS0, "charAt", "(I)C"⟩ : MethodName) (Jvm.Cond.code (⟨kS0, "charAt", "(I)C"⟩ : MethodName) jdk_42_method_56_code 2 (some .char) :: ws) (RM 4 0 0 53) #[(.ref x1), (.int 1)] (Qrm_at_2_1_1 Z x1 t1 k1 u0 u1 u2 u3 c1 z0 f0 h0 n0) := by
 refine MetFree.of_bodySF (plainFor_of_name pn_2) hisR ?_
 intro p e s m args below meth c s₁ Bd hml0 hP hK
 obtain ⟨rfl, hZ, hh⟩ := hP
 have hx := Bd.exec
 have hby := Bd.bytes
 have hml : c.maxLocals = 2 := hml0
 have hown : s.vm.findClass kS0 = some m.cls := findClass_of_methodNamed Bd.named
 have hnm := (name_of_methodNamed Bd.named Bd.method).1
 have X0 : Stand p l e (RM 4 0 0 53) s m #[(.ref x1), (.int 1)] below meth c s₁ [] 0 0 := Stand.of_body Bd
 have e0 : s₁.heap = h0 := by rw [← hh, Bd.state]; rfl
 have N0 := Fr.nil n0
 have pre0 : ∀ t, GO p e below s₁ (mkF m 0 #[.val (.ref x1), .val (.int 1)] []) t → GO p e below s₁ (entryFrame m #[(.ref x1), (.int 1)] 2) t := fun t k => castTop (ef_rm_at_2_1_1 m x1 ((1 : Int32))) k
 have lt_Es := ltA Es.lt
 have lt_Fc := ltA Fc.lt
 have lt_Fv := ltA Fv.lt
 have lt_Vt := ltA Vt.lt
 -- pc 1: String.isLatin1 by rm_isl1
 obtain ⟨cq363, kq363, q363a, q363b, q363c⟩ := isOf hZ e0 Es
 obtain ⟨_, _, ⟨T363, L363, k363, n363⟩, -, X363, ⟨Lc363, hQ363, l363, y363, z363⟩, st363⟩ := X0.virtualBack hx (y := (⟨kS0, "isLatin1", "()Z"⟩ : MethodName)) (z := (⟨kS0, "isLatin1", "()Z"⟩ : MethodName)) hown (mvT hZ (wd hw 118 rfl)) (mvT hZ (wd hw 119 rfl)) (notFace_of_selects (args := #[]) (mvT hZ (wd hw 121 rfl))) (mvT hZ (wd hw 121 rfl)) (mvT hZ (wd hw 120 rfl)) (by decide) (backOf (W := 0) (rm_isl1 l Z a0 hw [] x1 z0 h0 n0 Z0 O0 Fc (by first | assumption | decide | omega) (by first | assumption | decide | omega)) hZ (wd hw 122 rfl) (wd hw 46 rfl) (by decide) (by decide)) q363a q363c (g := (mkF m 1 #[.val (.ref x1), .val (.int 1)] [(.ref x1)])) rfl (by rw [hml]; rfl) (Steps.refl _) (argsL := []) (rest := []) (lenOf pd_14 rfl) rfl (wz rfl) (hb hby d23_1) (fun _ _ => ⟨rfl, e0, (by decide : 0 + 0 ≤ _), (by decide : 0 + 0 ≤ _)⟩)
 dsimp only [Pt.U, Pt.locs, Pt.cells, Pt.slots] at X363 l363 y363 z363 st363 hQ363
 subst l363 y363 z363
 obtain ⟨rfl, N363q, e363⟩ := hQ363
 have N363 := Fr.app N0 N363q
 obtain ⟨T364, X364, e364, st364⟩ := getF X363 hx hZ hown (host := "") (Or.inl (wd hw 71 rfl)) Via.refl e363 Fv (g := (mkF m 17 #[.val (.ref x1), .val (.int 1)] [(.ref x1)])) rfl rfl (hb hby d23_17)
 -- pc 21: StringUTF16.charAt by rm_uc_2_1
 obtain ⟨_, _, ⟨T365, L365, k365, n365⟩, -, X365, ⟨Lc365, hQ365, l365, y365, z365⟩, st365⟩ := Jvm.LawKit.callS X364 hx (y := (⟨kS1, "charAt", "([BI)C"⟩ : MethodName)) hown (mvT hZ (wd hw 123 rfl)) (mvT hZ (wd hw 124 rfl)) (mvT hZ (wd hw 86 rfl)) (mvT hZ (wd hw 125 rfl)) (by decide) (backOf (W := 0) (rm_uc_2_1 l Z a0 hw [] t1 k1 c1 u0 u1 u2 u3 f0 h0 n0 Z0 O0 Vt (by first | assumption | decide | omega) (by first | assumption | decide | omega) (by first | assumption | decide | omega) (by first | assumption | decide | omega) (by first | assumption | decide | omega) hc hcc) hZ (wd hw 125 rfl) (wd hw 86 rfl) (by decide) (by decide)) (g := (mkF m 21 #[.val (.ref x1), .val (.int 1)] [(.int 1), (.ref t1)])) rfl (by rw [hml]; rfl) (argsL := [(.ref t1), (.int 1)]) (rest := []) (lenOf pd_11 rfl) rfl (wz rfl) (hb hby d23_21) (fun _ _ => ⟨rfl, e364, (by decide : 0 + 0 ≤ _), (by decide : 0 + 0 ≤ _)⟩)
 dsimp only [Pt.U, Pt.locs, Pt.cells, Pt.slots] at X365 l365 y365 z365 st365 hQ365
 subst l365 y365 z365
 obtain ⟨rfl, N365q, e365⟩ := hQ365
 have N365 := Fr.app N363 N365q
 obtain ⟨fs, hr, hrun, hended, hW, hsame⟩ := X365.leave (v := some (.int (nar .char c1))) (fun h => by rw [Bd.returns] at h; cases h)
 refine ⟨_, _, pre0 _ ?_, hrun, hended, _, _, rfl, ?_, ⟨_, rfl⟩, hW, hsame.mono (by decide) (by decide)⟩
 ·show GO p e below s₁ (mkF m 0 #[.val (.ref x1), .val (.int 1)] []) _
  refine XS.aloadN X0.here hx rfl (hb hby d23_0) rfl rfl ?_
  show GO p e below s₁ (mkF m 1 #[.val (.ref x1), .val (.int 1)] [(.ref x1)]) _
  refine st363.trans ?_
  show GO p e below T363 (mkF m 4 #[.val (.ref x1), .val (.int 1)] [(.int 0)]) _
  refine XS.ifYes X363.here hx rfl (pc0 := 4) (pc' := 16) rfl (hb hby d23_4) rfl ((if0 _ _).trans (teq (rfl : (0 : Int32) = (0 : Int32))).1) (by decide) (by decide) ?_
  show GO p e below T363 (mkF m 16 #[.val (.ref x1), .val (.int 1)] []) _
  refine XS.aloadN X363.here hx rfl (hb hby d23_16) rfl rfl ?_
  show GO p e below T363 (mkF m 17 #[.val (.ref x1), .val (.int 1)] [(.ref x1)]) _
  refine st364 _ ?_
  show GO p e below T364 (mkF m 20 #[.val (.ref x1), .val (.int 1)] [(.ref t1)]) _
  refine XS.iloadN X364.here hx rfl (hb hby d23_20) rfl ?_
  show GO p e below T364 (mkF m 21 #[.val (.ref x1), .val (.int 1)] [(.int 1), (.ref t1)]) _
  refine st365 _ ?_
  show GO p e below T365 (mkF m 24 #[.val (.ref x1), .val (.int 1)] [(.int c1)]) _
  exact retN X365 hx (t := .char) Bd.returns (by simp) (hb hby d23_24) hr
 ·show Qrm_at_2_1_1 Z x1 t1 k1 u0 u1 u2 u3 c1 z0 f0 h0 n0 _ T365.heap _
  rw [e365]
  exact ⟨(by rw [hcc]), N365, rfl⟩
def Qrm_ac (Z : State) (a1 : Addr) (h0 : Heap) (n0 : Nat) (v : Option Value) (h : Heap) (L : List Loc) : Prop := v = none ∧ Fr n0 L ∧ h = h0
theorem ef_rm_ac (m : MethodId) (x0 : Addr) : entryFrame m #[(.ref x0)] 1 = mkF m 0 #[.val (.ref x0)] [] := by first | rfl | (simp [entryFrame, mkF, argsToLocals, Value.category]; done)
theorem rm_ac (l : Launch) (Z : State) (a0 : Array Value) (hw : HW Z a0) (ws : List Jvm.Cond) (a1 : Addr) (h0 : Heap) (n0 : Nat) (Z0 : n0 ≤ h0.size) :
  OwnM l Z h0 (⟨"java/util/AbstractCollection", "<init>", "()V"⟩ : MethodName) (Jvm.Cond.code (⟨"java/util/AbstractCollection", "<init>", "()V"⟩ : MethodName) jdk_22_method_1_code 1 none :: ws) (RM 1 0 0 12) #[(.ref a1)] (Qrm_ac Z a1 h0 n0) := by
 refine MetFree.of_bodySF (plainFor_of_name pn_5) hisR ?_
 intro p e s m args below meth c s₁ Bd hml0 hP hK
 obtain ⟨rfl, hZ, hh⟩ := hP
 have hx := Bd.exec
 have hby := Bd.bytes
 have hml : c.maxLocals = 1 := hml0
 have hown : s.vm.findClass "java/util/AbstractCollection" = some m.cls := findClass_of_methodNamed Bd.named
 have hnm := (name_of_methodNamed Bd.named Bd.method).1
 have X0 : Stand p l e (RM 1 0 0 12) s m #[(.ref a1)] below meth c s₁ [] 0 0 := Stand.of_body Bd
 have e0 : s₁.heap = h0 := by rw [← hh, Bd.state]; rfl
 have N0 := Fr.nil n0
 have pre0 : ∀ t, GO p e below s₁ (mkF m 0 #[.val (.ref a1)] []) t → GO p e below s₁ (entryFrame m #[(.ref a1)] 1) t := fun t k => castTop (ef_rm_ac m a1) k
 obtain ⟨T366, X366, e366, st366⟩ := initO X0 hx hZ hown (wd hw 20 rfl) (wd hw 21 rfl) (wd hw 22 rfl) e0 (g := (mkF m 1 #[.val (.ref a1)] [(.ref a1)])) rfl (by rw [hml]; rfl) rfl (hb hby d3_1) (by decide) (W := 0) (wz rfl) (by decide)
 obtain ⟨fs, hr, hrun, hended, hW, hsame⟩ := X366.leave (v := none) (fun _ => rfl)
 refine ⟨_, _, pre0 _ ?_, hrun, hended, _, _, rfl, ?_, ⟨_, rfl⟩, hW, hsame.mono (by decide) (by decide)⟩
 ·show GO p e below s₁ (mkF m 0 #[.val (.ref a1)] []) _
  refine XS.aloadN X0.here hx rfl (hb hby d3_0) rfl rfl ?_
  show GO p e below s₁ (mkF m 1 #[.val (.ref a1)] [(.ref a1)]) _
  refine st366 _ ?_
  show GO p e below T366 (mkF m 4 #[.val (.ref a1)] []) _
  exact X366.returnOut hx Bd.returns (hb hby d3_4) hr
 ·show Qrm_ac Z a1 h0 n0 _ T366.heap _
  rw [e366]
  exact ⟨rfl, N0, rfl⟩
def Qrm_al (Z : State) (a1 : Addr) (w0 : Value) (w1 : Value) (w2 : Value) (w3 : Value) (h0 : Heap) (n0 : Nat) (v : Option Value) (h : Heap) (L : List Loc) : Prop := v = none ∧ Fr n0 L ∧ Keep h0 h [a1] ∧ Exa Z h a1 kS2 ∧ Fld Z h a1 kS2 "text" "[C" w1 ∧ Fld Z h a1 kS2 "ends" "[I" w2 ∧ Fld Z h a1 kS2 "needsQuotes" "Z" w3
theorem ef_rm_al (m : MethodId) (x0 : Addr) : entryFrame m #[(.ref x0)] 1 = mkF m 0 #[.val (.ref x0)] [] := by first | rfl | (simp [entryFrame, mkF, argsToLocals, Value.category]; done)
theorem rm_al (l : Launch) (Z : State) (a0 : Array Value) (hw : HW Z a0) (ws : List Jvm.Cond) (a1 : Addr) (w0 : Value) (w1 : Value) (w2 : Value) (w3 : Value) (h0 : Heap) (n0 : Nat) (Z0 : n0 ≤ h0.size) (E1 : Exa Z h0 a1 kS2) (F0 : Fld Z h0 a1 "java/util/AbstractList" "modCount" "I" w0) (F1 : Fld Z h0 a1 kS2 "text" "[C" w1) (F2 : Fld Z h0 a1 kS2 "ends" "[I" w2) (F3 : Fld Z h0 a1 kS2 "needsQuotes" "Z" w3) (g1 : n0 ≤ a1) :
  OwnM l Z h0 (⟨"java/util/AbstractList", "<init>", "()V"⟩ : MethodName) (Jvm.Cond.code (⟨"java/util/AbstractList", "<init>", "()V"⟩ : MethodName) jdk_39_method_1_code 1 none :: ws) (RM 2 0 0 24) #[(.ref a1)] (Qrm_al Z a1 w0 w1 w2 w3 h0 n0) := by
 refine MetFree.of_bodySF (plainFor_of_name pn_6) hisR ?_
 intro p e s m args below meth c s₁ Bd hml0 hP hK
 obtain ⟨rfl, hZ, hh⟩ := hP
 have hx := Bd.exec
 have hby := Bd.bytes
 have hml : c.maxLocals = 1 := hml0
 have hown : s.vm.findClass "java/util/AbstractList" = some m.cls := findClass_of_methodNamed Bd.named
 have hnm := (name_of_methodNamed Bd.named Bd.method).1
 have X0 : Stand p l e (RM 2 0 0 24) s m #[(.ref a1)] below meth c s₁ [] 0 0 := Stand.of_body Bd
 have e0 : s₁.heap = h0 := by rw [← hh, Bd.state]; rfl
 have N0 := Fr.nil n0
 have pre0 : ∀ t, GO p e below s₁ (mkF m 0 #[.val (.ref a1)] []) t → GO p e below s₁ (entryFrame m #[(.ref a1)] 1) t := fun t k => castTop (ef_rm_al m a1) k
 have lt_E1 := ltA E1.lt
 have lt_F0 := ltA F0.lt
 have lt_F1 := ltA F1.lt
 have lt_F2 := ltA F2.lt
 have lt_F3 := ltA F3.lt
 -- pc 1: AbstractCollection.<init> by rm_ac
 obtain ⟨_, _, ⟨T367, L367, k367, n367⟩, -, X367, ⟨Lc367, hQ367, l367, y367, z367⟩, st367⟩ := X0.specialBack hx (y := (⟨"java/util/AbstractCollection", "<init>", "()V"⟩ : MethodName)) rfl hown (mvT hZ (wd hw 14 rfl)) (mvT hZ (wd hw 15 rfl)) (mvT hZ (wd hw 19 rfl)) (by decide) (backOf (W := 0) (rm_ac l Z a0 hw [] a1 h0 n0 Z0) hZ (wd hw 19 rfl) (wd hw 18 rfl) (by decide) (by decide)) (g := (mkF m 1 #[.val (.ref a1)] [(.ref a1)])) rfl (by rw [hml]; rfl) (Steps.refl _) (a := a1) (argsL := []) (rest := []) (lenOf pd_17 rfl) rfl (wz rfl) (hb hby d2_1) (fun _ _ => ⟨rfl, e0, (by decide : 0 + 0 ≤ _), (by decide : 0 + 0 ≤ _)⟩)
 dsimp only [Pt.U, Pt.locs, Pt.cells, Pt.slots] at X367 l367 y367 z367 st367 hQ367
 subst l367 y367 z367
 obtain ⟨rfl, N367q, e367⟩ := hQ367
 have N367 := Fr.app N0 N367q
 obtain ⟨T368, h368, X368, e368, W368, st368⟩ := putF X367 hx hZ hown (host := "") (Or.inl (wd hw 23 rfl)) Via.refl e367 F0 E1 (Or.inl (wd hw 24 rfl)) (wd hw 4 rfl) (ty := .int) (by decide) rfl rfl (g := (mkF m 6 #[.val (.ref a1)] [(.int 0), (.ref a1)])) rfl rfl (hb hby d2_6)
 have ge369 : n0 ≤ a1 := by omega
 have N368 := Fr.snoc X368 N367 ge369
 have sz368 : h0.size ≤ h368.size := Nat.le_of_eq W368.size.symm
 have nz368 := Nat.le_trans Z0 sz368
 have f368 : Fld Z h368 a1 "java/util/AbstractList" "modCount" "I" (.int 0) := F0.same W368
 have f370 : Exa Z h368 a1 kS2 := (E1.wr W368)
 have f371 : Fld Z h368 a1 kS2 "text" "[C" w1 := (F1.other W368 (Or.inr (slot_ne (Or.inr (wd hw 26 rfl)) (Or.inl (wd hw 24 rfl)) (by decide) (t := (.array .char)) (t' := .int) (by decide) (by decide))))
 have f372 : Fld Z h368 a1 kS2 "ends" "[I" w2 := (F2.other W368 (Or.inr (slot_ne (Or.inr (wd hw 28 rfl)) (Or.inl (wd hw 24 rfl)) (by decide) (t := (.array .int)) (t' := .int) (by decide) (by decide))))
 have f373 : Fld Z h368 a1 kS2 "needsQuotes" "Z" w3 := (F3.other W368 (Or.inr (slot_ne (Or.inr (wd hw 30 rfl)) (Or.inl (wd hw 24 rfl)) (by decide) (t := .boolean) (t' := .int) (by decide) (by decide))))
 obtain ⟨fs, hr, hrun, hended, hW, hsame⟩ := X368.leave (v := none) (fun _ => rfl)
 refine ⟨_, _, pre0 _ ?_, hrun, hended, _, _, rfl, ?_, ⟨_, rfl⟩, hW, hsame.mono (by decide) (by decide)⟩
 ·show GO p e below s₁ (mkF m 0 #[.val (.ref a1)] []) _
  refine XS.aloadN X0.here hx rfl (hb hby d2_0) rfl rfl ?_
  show GO p e below s₁ (mkF m 1 #[.val (.ref a1)] [(.ref a1)]) _
  refine st367.trans ?_
  show GO p e below T367 (mkF m 4 #[.val (.ref a1)] []) _
  refine XS.aloadN X367.here hx rfl (hb hby d2_4) rfl rfl ?_
  show GO p e below T367 (mkF m 5 #[.val (.ref a1)] [(.ref a1)]) _
  refine XS.iconst X367.here hx rfl (hb hby d2_5) ?_
  show GO p e below T367 (mkF m 6 #[.val (.ref a1)] [(.int 0), (.ref a1)]) _
  refine st368 _ ?_
  show GO p e below T368 (mkF m 9 #[.val (.ref a1)] []) _
  exact X368.returnOut hx Bd.returns (hb hby d2_9) hr
 ·show Qrm_al Z a1 w0 w1 w2 w3 h0 n0 _ T368.heap _
  rw [e368]
  exact ⟨rfl, N368, ((Keep.refl h0 [a1]).wr W368 (Or.inl (List.mem_of_getElem? (i := 0) rfl))), f370, f371, f372, f373⟩
def Qrm_cr (Z : State) (a1 : Addr) (a2 : Addr) (a3 : Addr) (p3 : Int32) (w0 : Value) (w1 : Value) (w2 : Value) (w3 : Value) (h0 : Heap) (n0 : Nat) (v : Option Value) (h : Heap) (L : List Loc) : Prop := v = none ∧ Fr n0 L ∧ Keep h0 h [a1] ∧ Exa Z h a1 kS2 ∧ Fld Z h a1 kS2 "text" "[C" (.ref a2) ∧ Fld Z h a1 kS2 "ends" "[I" (.ref a3)
theorem ef_rm_cr (m : MethodId) (x0 : Addr) (x1 : Addr) (x2 : Addr) (x3 : Int32) : entryFrame m #[(.ref x0), (.ref x1), (.ref x2), (.int x3)] 4 = mkF m 0 (la19 x0 x1 x2 x3) [] := by first | rfl | (simp [entryFrame, mkF, argsToLocals, Value.category]; done)
theorem rm_cr (l : Launch) (Z : State) (a0 : Array Value) (hw : HW Z a0) (ws : List Jvm.Cond) (a1 : Addr) (a2 : Addr) (a3 : Addr) (p3 : Int32) (w0 : Value) (w1 : Value) (w2 : Value) (w3 : Value) (h0 : Heap) (n0 : Nat) (Z0 : n0 ≤ h0.size) (E1 : Exa Z h0 a1 kS2) (F0 : Fld Z h0 a1 "java/util/AbstractList" "modCount" "I" w0) (F1 : Fld Z h0 a1 kS2 "text" "[C" w1) (F2 : Fld Z h0 a1 kS2 "ends" "[I" w2) (F3 : Fld Z h0 a1 kS2 "needsQuotes" "Z" w3) (g1 : n0 ≤ a1) :
  OwnM l Z h0 (⟨kS2, "<init>", "([C[IZ)V"⟩ : MethodName) (Jvm.Cond.code (⟨kS2, "<init>", "([C[IZ)V"⟩ : MethodName) prog_30_method_1_code 4 none :: ws) (RM 3 0 0 36) #[(.ref a1), (.ref a2), (.ref a3), (.int p3)] (Qrm_cr Z a1 a2 a3 p3 w0 w1 w2 w3 h0 n0) := by
 refine MetFree.of_bodySF (plainFor_of_name pn_7) hisR ?_
 intro p e s m args below meth c s₁ Bd hml0 hP hK
 obtain ⟨rfl, hZ, hh⟩ := hP
 have hx := Bd.exec
 have hby := Bd.bytes
 have hml : c.maxLocals = 4 := hml0
 have hown : s.vm.findClass kS2 = some m.cls := findClass_of_methodNamed Bd.named
 have hnm := (name_of_methodNamed Bd.named Bd.method).1
 have X0 : Stand p l e (RM 3 0 0 36) s m #[(.ref a1), (.ref a2), (.ref a3), (.int p3)] below meth c s₁ [] 0 0 := Stand.of_body Bd
 have e0 : s₁.heap = h0 := by rw [← hh, Bd.state]; rfl
 have N0 := Fr.nil n0
 have pre0 : ∀ t, GO p e below s₁ (mkF m 0 (la19 a1 a2 a3 p3) []) t → GO p e below s₁ (entryFrame m #[(.ref a1), (.ref a2), (.ref a3), (.int p3)] 4) t := fun t k => castTop (ef_rm_cr m a1 a2 a3 p3) k
 have lt_E1 := ltA E1.lt
 have lt_F0 := ltA F0.lt
 have lt_F1 := ltA F1.lt
 have lt_F2 := ltA F2.lt
 have lt_F3 := ltA F3.lt
 -- pc 1: AbstractList.<init> by rm_al
 obtain ⟨_, _, ⟨T374, L374, k374, n374⟩, -, X374, ⟨Lc374, hQ374, l374, y374, z374⟩, st374⟩ := X0.specialBack hx (y := (⟨"java/util/AbstractList", "<init>", "()V"⟩ : MethodName)) rfl hown (mvT hZ (wd hw 9 rfl)) (mvT hZ (wd hw 10 rfl)) (mvT hZ (wd hw 13 rfl)) (by decide) (backOf (W := 0) (rm_al l Z a0 hw [] a1 w0 w1 w2 w3 h0 n0 Z0 E1 F0 F1 F2 F3 (by first | assumption | decide | omega)) hZ (wd hw 13 rfl) (wd hw 12 rfl) (by decide) (by decide)) (g := (mkF m 1 (la19 a1 a2 a3 p3) [(.ref a1)])) rfl (by rw [hml]; rfl) (Steps.refl _) (a := a1) (argsL := []) (rest := []) (lenOf pd_17 rfl) rfl (wz rfl) (hb hby d1_1) (fun _ _ => ⟨rfl, e0, (by decide : 0 + 0 ≤ _), (by decide : 0 + 0 ≤ _)⟩)
 dsimp only [Pt.U, Pt.locs, Pt.cells, Pt.slots] at X374 l374 y374 z374 st374 hQ374
 subst l374 y374 z374
 obtain ⟨h374, e374⟩ : ∃ z, T374.heap = z := ⟨_, rfl⟩
 rw [e374] at hQ374
 obtain ⟨rfl, N374q, K374, p374_0, p374_1, p374_2, p374_3⟩ := hQ374
 have N374 := Fr.app N0 N374q
 have sz374 : h0.size ≤ h374.size := K374.1
 have nz374 := Nat.le_trans Z0 sz374
 have lt374_0 := ltA p374_0.lt
 obtain ⟨T375, h375, X375, e375, W375, st375⟩ := putF X374 hx hZ hown (host := "") (Or.inl (wd hw 25 rfl)) Via.refl e374 p374_1 p374_0 (Or.inr ⟨(wd hw 26 rfl), rfl, hnm⟩) (wd hw 4 rfl) (ty := (.array .char)) (by decide) rfl rfl (g := (mkF m 6 (la19 a1 a2 a3 p3) [(.ref a2), (.ref a1)])) rfl rfl (hb hby d1_6)
 have ge376 : n0 ≤ a1 := by omega
 have N375 := Fr.snoc X375 N374 ge376
 have sz375 : h374.size ≤ h375.size := Nat.le_of_eq W375.size.symm
 have nz375 := Nat.le_trans nz374 sz375
 have f375 : Fld Z h375 a1 kS2 "text" "[C" (.ref a2) := p374_1.same W375
 have f377 : Fld Z h375 a1 kS2 "ends" "[I" w2 := (p374_2.other W375 (Or.inr (slot_ne (Or.inr (wd hw 28 rfl)) (Or.inr (wd hw 26 rfl)) (by decide) (t := (.array .int)) (t' := (.array .char)) (by decide) (by decide))))
 have f378 : Exa Z h375 a1 kS2 := (p374_0.wr W375)
 obtain ⟨T379, h379, X379, e379, W379, st379⟩ := putF X375 hx hZ hown (host := "") (Or.inl (wd hw 27 rfl)) Via.refl e375 f377 f378 (Or.inr ⟨(wd hw 28 rfl), rfl, hnm⟩) (wd hw 4 rfl) (ty := (.array .int)) (by decide) rfl rfl (g := (mkF m 11 (la19 a1 a2 a3 p3) [(.ref a3), (.ref a1)])) rfl rfl (hb hby d1_11)
 have N379 := Fr.snoc X379 N375 ge376
 have sz379 : h375.size ≤ h379.size := Nat.le_of_eq W379.size.symm
 have nz379 := Nat.le_trans nz375 sz379
 have f379 : Fld Z h379 a1 kS2 "ends" "[I" (.ref a3) := f377.same W379
 have f380 : Fld Z h379 a1 kS2 "needsQuotes" "Z" w3 := ((p374_3.other W375 (Or.inr (slot_ne (Or.inr (wd hw 30 rfl)) (Or.inr (wd hw 26 rfl)) (by decide) (t := .boolean) (t' := (.array .char)) (by decide) (by decide)))).other W379 (Or.inr (slot_ne (Or.inr (wd hw 30 rfl)) (Or.inr (wd hw 28 rfl)) (by decide) (t := .boolean) (t' := (.array .int)) (by decide) (by decide))))
 have f381 : Exa Z h379 a1 kS2 := (f378.wr W379)
 obtain ⟨T382, h382, X382, e382, W382, st382⟩ := putFN X379 hx hZ hown (wd hw 29 rfl) Via.refl e379 f380 f381 (Or.inr ⟨(wd hw 30 rfl), rfl, hnm⟩) (wd hw 4 rfl) (ty := .boolean) (v' := (.int (nar .boolean p3))) (by decide) rfl (fits_nar_bool _) (g := (mkF m 16 (la19 a1 a2 a3 p3) [(.int p3), (.ref a1)])) rfl rfl (hb hby d1_16)
 have N382 := Fr.snoc X382 N379 ge376
 have sz382 : h379.size ≤ h382.size := Nat.le_of_eq W382.size.symm
 have nz382 := Nat.le_trans nz379 sz382
 have f382 : Fld Z h382 a1 kS2 "needsQuotes" "Z" (.int (nar .boolean p3)) := f380.same W382
 have f383 : Exa Z h382 a1 kS2 := (f381.wr W382)
 have f384 : Fld Z h382 a1 kS2 "text" "[C" (.ref a2) := ((f375.other W379 (Or.inr (slot_ne (Or.inr (wd hw 26 rfl)) (Or.inr (wd hw 28 rfl)) (by decide) (t := (.array .char)) (t' := (.array .int)) (by decide) (by decide)))).other W382 (Or.inr (slot_ne (Or.inr (wd hw 26 rfl)) (Or.inr (wd hw 30 rfl)) (by decide) (t := (.array .char)) (t' := .boolean) (by decide) (by decide))))
 have f385 : Fld Z h382 a1 kS2 "ends" "[I" (.ref a3) := (f379.other W382 (Or.inr (slot_ne (Or.inr (wd hw 28 rfl)) (Or.inr (wd hw 30 rfl)) (by decide) (t := (.array .int)) (t' := .boolean) (by decide) (by decide))))
 obtain ⟨fs, hr, hrun, hended, hW, hsame⟩ := X382.leave (v := none) (fun _ => rfl)
 refine ⟨_, _, pre0 _ ?_, hrun, hended, _, _, rfl, ?_, ⟨_, rfl⟩, hW, hsame.mono (by decide) (by decide)⟩
 ·show GO p e below s₁ (mkF m 0 (la19 a1 a2 a3 p3) []) _
  refine XS.aloadN X0.here hx rfl (hb hby d1_0) rfl rfl ?_
  show GO p e below s₁ (mkF m 1 (la19 a1 a2 a3 p3) [(.ref a1)]) _
  refine st374.trans ?_
  show GO p e below T374 (mkF m 4 (la19 a1 a2 a3 p3) []) _
  refine XS.aloadN X374.here hx rfl (hb hby d1_4) rfl rfl ?_
  show GO p e below T374 (mkF m 5 (la19 a1 a2 a3 p3) [(.ref a1)]) _
  refine XS.aloadN X374.here hx rfl (hb hby d1_5) rfl rfl ?_
  show GO p e below T374 (mkF m 6 (la19 a1 a2 a3 p3) [(.ref a2), (.ref a1)]) _
  refine st375 _ ?_
  show GO p e below T375 (mkF m 9 (la19 a1 a2 a3 p3) []) _
  refine XS.aloadN X375.here hx rfl (hb hby d1_9) rfl rfl ?_
  show GO p e below T375 (mkF m 10 (la19 a1 a2 a3 p3) [(.ref a1)]) _
  refine XS.aloadN X375.here hx rfl (hb hby d1_10) rfl rfl ?_
  show GO p e below T375 (mkF m 11 (la19 a1 a2 a3 p3) [(.ref a3), (.ref a1)]) _
  refine st379 _ ?_
  show GO p e below T379 (mkF m 14 (la19 a1 a2 a3 p3) []) _
  refine XS.aloadN X379.here hx rfl (hb hby d1_14) rfl rfl ?_
  show GO p e below T379 (mkF m 15 (la19 a1 a2 a3 p3) [(.ref a1)]) _
  refine XS.iloadN X379.here hx rfl (hb hby d1_15) rfl ?_
  show GO p e below T379 (mkF m 16 (la19 a1 a2 a3 p3) [(.int p3), (.ref a1)]) _
  refine st382 _ ?_
  show GO p e below T382 (mkF m 19 (la19 a1 a2 a3 p3) []) _
  exact X382.returnOut hx Bd.returns (hb hby d1_19) hr
 ·show Qrm_cr Z a1 a2 a3 p3 w0 w1 w2 w3 h0 n0 _ T382.heap _
  rw [e382]
  exact ⟨rfl, N382, (((((Keep.refl h0 [a1]).trans K374 (allS (P := fun x => x ∈ _ ∨ _) (Or.inl (List.mem_of_getElem? (i := 0) rfl)) all0)).wr W375 (Or.inl (List.mem_of_getElem? (i := 0) rfl))).wr W379 (Or.inl (List.mem_of_getElem? (i := 0) rfl))).wr W382 (Or.inl (List.mem_of_getElem? (i := 0) rfl))), f383, f384, f385⟩
def Qrm_get_0L (Z : State) (a1 : Addr) (p1 : Int32) (a3 : Addr) (k3 : ClassId) (en0 : Int32) (en1 : Int32) (en2 : Int32) (f0 : Value) (a2 : Addr) (k2 : ClassId) (vs2 : List Value) (o1 : Int32) (h0 : Heap) (n0 : Nat) (v : Option Value) (h : Heap) (L : List Loc) : Prop := ∃ yy : Addr, ∃ t : Addr, ∃ k : ClassId, v = some (.ref yy) ∧ Fr n0 L ∧ Keep h0 h [] ∧ Exa Z h yy kS0 ∧ Fld Z h yy kS0 "coder" "B" (.int 0) ∧ Fld Z h yy kS0 "value" "[B" (.ref t) ∧ Arv Z h t k .byte (0 : Int32) [] (.int 0)
theorem ef_rm_get_0L (m : MethodId) (x0 : Addr) (x1 : Int32) : entryFrame m #[(.ref x0), (.int x1)] 3 = mkF m 0 (la20 x0 x1) [] := by first | rfl | (simp [entryFrame, mkF, argsToLocals, Value.category]; done)
theorem rm_get_0L (l : Launch) (Z : State) (a0 : Array Value) (hw : HW Z a0) (ws : List Jvm.Cond) (a1 : Addr) (p1 : Int32) (a3 : Addr) (k3 : ClassId) (en0 : Int32) (en1 : Int32) (en2 : Int32) (f0 : Value) (a2 : Addr) (k2 : ClassId) (vs2 : List Value) (o1 : Int32) (h0 : Heap) (n0 : Nat) (Z0 : n0 ≤ h0.size) (O0 : Old Z n0 h0) (F1 : Fld Z h0 a1 kS2 "text" "[C" (.ref a2)) (F2 : Fld Z h0 a1 kS2 "ends" "[I" (.ref a3)) (V3 : Arv Z h0 a3 k3 .int (3 : Int32) [(.int en0), (.int en1), (.int en2)] (.int 0)) (V2 : Arv Z h0 a2 k2 .char (8 : Int32) vs2 (.int 0)) (SZf : Sta Z Z.heap kS3 "SIOOBE_FORMATTER" "Ljava/util/function/BiFunction;" f0) (rf0 : f0.isRef = true) (P : OwnPl p1 o1 (0 : Int32) en0 en1 en2) :
  OwnW l Z h0 (⟨kS2, "get", "(I)Ljava/lang/String;"⟩ : MethodName) (Jvm.Cond.code (⟨kS2, "get", "(I)Ljava/lang/String;"⟩ : MethodName) prog_30_method_2_code 3 (some (.object kS0)) :: ws) (RM 4 5 12 63) #[(.ref a1), (.int p1)] [] (Qrm_get_0L Z a1 p1 a3 k3 en0 en1 en2 f0 a2 k2 vs2 o1 h0 n0) := by
 refine MetFree.of_bodySF (plainFor_of_name pn_7) hisR ?_
 intro p e s m args below meth c s₁ Bd hml0 hP hK
 obtain ⟨rfl, hZ, hh, H0, sf⟩ := hP
 have hx := Bd.exec
 have hby := Bd.bytes
 have hml : c.maxLocals = 3 := hml0
 have hown : s.vm.findClass kS2 = some m.cls := findClass_of_methodNamed Bd.named
 have hnm := (name_of_methodNamed Bd.named Bd.method).1
 have X0 : Stand p l e (RM 4 5 12 63) (s.setVm s.vm) m #[(.ref a1), (.int p1)] below meth c s₁ [] 0 0 := Stand.of_body Bd
 have hS0 : s.Since s.vm h0.size := (State.WarmedH.refl s).since _
 have C0 : CHr Z EL1 s.vm h0 s.vm h0 := CHr.refl H0
 have e0 : s₁.heap = h0 := by rw [← hh, Bd.state]; rfl
 have N0 := Fr.nil n0
 have pre0 : ∀ t, GO p e below s₁ (mkF m 0 (la20 a1 p1) []) t → GO p e below s₁ (entryFrame m #[(.ref a1), (.int p1)] 3) t := fun t k => castTop (ef_rm_get_0L m a1 p1) k
 have lt_F1 := ltA F1.lt
 have lt_F2 := ltA F2.lt
 have lt_V3 := ltA V3.lt
 have lt_V2 := ltA V2.lt
 obtain ⟨ob0, ob1', -, hr1, hr2, hs0, hs1, em, hge, hlm, hib⟩ := id P
 obtain ⟨T386, X386, e386, st386⟩ := getF X0 hx hZ hown (host := "") (Or.inl (wd hw 27 rfl)) Via.refl e0 F2 (g := (mkF m 2 (la20 a1 p1) [(.ref a1), (.int p1)])) rfl rfl (hb hby d5_2)
 obtain ⟨cl387, Ar387, -, S387, M387, -, -⟩ := id V3
 -- pc 6: Objects.checkIndex by rm_oc
 obtain ⟨_, _, ⟨T388, L388, k388, n388⟩, -, X388, ⟨Lc388, hQ388, l388, y388, z388⟩, st388⟩ := Jvm.LawKit.callS X386 hx (y := (⟨"java/util/Objects", "checkIndex", "(II)I"⟩ : MethodName)) hown (mvT hZ (wd hw 36 rfl)) (mvT hZ (wd hw 37 rfl)) (mvT hZ (wd hw 38 rfl)) (mvT hZ (wd hw 39 rfl)) (by decide) (backOf (W := 0) (rm_oc l Z a0 hw [] p1 (3 : Int32) h0 n0 Z0 hib.1 hib.2) hZ (wd hw 39 rfl) (wd hw 38 rfl) (by decide) (by decide)) (g := (mkF m 6 (la20 a1 p1) [(.int 3), (.int p1)])) rfl (by rw [hml]; rfl) (argsL := [(.int p1), (.int 3)]) (rest := []) (lenOf pd_18 rfl) rfl (wz rfl) (hb hby d5_6) (fun _ _ => ⟨rfl, e386, (by decide : 0 + 0 ≤ _), (by decide : 0 + 0 ≤ _)⟩)
 dsimp only [Pt.U, Pt.locs, Pt.cells, Pt.slots] at X388 l388 y388 z388 st388 hQ388
 subst l388 y388 z388
 obtain ⟨rfl, N388q, e388⟩ := hQ388
 have N388 := Fr.app N0 N388q
 have pre389 : ∀ t, GO p e below T388 (mkF m 11 (la20 a1 p1) [(.int p1)]) t → GO p e below s₁ (entryFrame m #[(.ref a1), (.int p1)] 3) t := by
  intro t kt
  refine pre0 t ?_
  show GO p e below s₁ (mkF m 0 (la20 a1 p1) []) _
  refine XS.iloadN X0.here hx rfl (hb hby d5_0) rfl ?_
  show GO p e below s₁ (mkF m 1 (la20 a1 p1) [(.int p1)]) _
  refine XS.aloadN X0.here hx rfl (hb hby d5_1) rfl rfl ?_
  show GO p e below s₁ (mkF m 2 (la20 a1 p1) [(.ref a1), (.int p1)]) _
  refine st386 _ ?_
  show GO p e below T386 (mkF m 5 (la20 a1 p1) [(.ref a3), (.int p1)]) _
  refine X386.arraylength hx (by rw [e386]; exact Ar387.1) (State.isArrayOf_alike hZ.alike Ar387.2.1) (g := (mkF m 5 (la20 a1 p1) [(.ref a3), (.int p1)])) rfl rfl (hb hby d5_5) _ ?_
  rw [len_of S387 M387]
  show GO p e below T386 (mkF m 6 (la20 a1 p1) [(.int 3), (.int p1)]) _
  refine st388 _ ?_
  show GO p e below T388 (mkF m 9 (la20 a1 p1) [(.int p1)]) _
  refine XS.pop X388.here hx rfl (hb hby d5_9) rfl rfl ?_
  show GO p e below T388 (mkF m 10 (la20 a1 p1) []) _
  refine XS.iloadN X388.here hx rfl (hb hby d5_10) rfl ?_
  exact kt
 by_cases hb390 : p1 = (0 : Int32)
 ·have h0o := hs0 hb390
  subst h0o
  obtain ⟨T391, h391, X391, e391, E391, A391, D391, U391, st391⟩ := newO X388 hx hZ hown (wd hw 44 rfl) (wd hw 45 rfl) (wd hw 46 rfl) e388 (g := (mkF m 29 (la5 a1 p1 (0 : Int32)) [])) rfl (hb hby d5_29) (by decide) (by decide)
  obtain ⟨b391, g391⟩ : ∃ z, z = h0.size := ⟨_, rfl⟩
  rw [← g391] at A391 D391 U391 st391
  have C392 : CHr Z EL1 s.vm h0 s.vm h391 := C0.trans (CHr.ext E391 C0.1)
  have sz391 : h0.size ≤ h391.size := E391.1
  have nz391 := Nat.le_trans Z0 sz391
  have lt391 := ltA A391.lt
  have B391 : Safe Z EL1 s.vm h391 b391 := Safe.ext E391 C0.1 (Safe.new (by omega))
  have f393 : Fld Z h391 b391 kS0 "value" "[B" .null := D391 (Or.inr (wd hw 67 rfl)) (ty := (.array .byte)) (by decide)
  have f394 : Fld Z h391 b391 kS0 "coder" "B" (.int 0) := D391 (Or.inr (wd hw 68 rfl)) (ty := .byte) (by decide)
  have f395 : Fld Z h391 a1 kS2 "text" "[C" (.ref a2) := (F1.ext E391)
  obtain ⟨T396, X396, e396, st396⟩ := getF X391 hx hZ hown (host := "") (Or.inl (wd hw 25 rfl)) Via.refl e391 f395 (g := (mkF m 34 (la5 a1 p1 (0 : Int32)) [(.ref a1), (.ref b391), (.ref b391)])) rfl rfl (hb hby d5_34)
  have f397 : Fld Z h391 a1 kS2 "ends" "[I" (.ref a3) := (F2.ext E391)
  obtain ⟨T398, X398, e398, st398⟩ := getF X396 hx hZ hown (host := "") (Or.inl (wd hw 27 rfl)) Via.refl e396 f397 (g := (mkF m 39 (la5 a1 p1 (0 : Int32)) [(.ref a1), (.int 0), (.ref a2), (.ref b391), (.ref b391)])) rfl rfl (hb hby d5_39)
  have f399 : Arv Z h391 a3 k3 .int (3 : Int32) [(.int en0), (.int en1), (.int en2)] (.int 0) := (V3.ext E391)
  obtain ⟨cl400, Ar400, q400, S400, M400, H400, G400⟩ := id f399
  have hin400 : ¬ (p1 < 0 ∨ cl400.slots.size ≤ (p1).toNatClampNeg) := inb_of S400 hib
  have hat400 : cl400.slots[(p1).toNatClampNeg]? = some (.int em) := Has.at H400 hin400 hge
  -- pc 46: String.<init> by rm_s3_0
  have f402 : Old Z n0 h391 := (O0.ext E391)
  have f403 : Arv Z h391 a2 k2 .char (8 : Int32) vs2 (.int 0) := (V2.ext E391)
  obtain ⟨_, _, ⟨T401, L401, k401, n401⟩, -, X401w, hS401w, gr401, ⟨Lc401, hQ401, l401, y401, z401, C401w⟩, st401⟩ := X398.specialBackS hx (y := (⟨kS0, "<init>", "([CII)V"⟩ : MethodName)) rfl hown (mvT hZ (wd hw 47 rfl)) (mvT hZ (wd hw 48 rfl)) (mvT hZ (wd hw 49 rfl)) (by decide) (own_backS (W := 1) (rm_s3_0 l Z a0 hw [] b391 .null (.int 0) a2 k2 vs2 (0 : Int32) f0 h391 n0 nz391 f402 A391 f393 f394 f403 SZf rf0 hr1 hr2 (by first | assumption | decide | omega)) hZ (wd hw 49 rfl) (wd hw 46 rfl) (by decide) (by decide) (own_EW hw) C392.1 (sfS B391 sf0) (allS (ltN (by omega)) all0)) (g := (mkF m 46 (la5 a1 p1 (0 : Int32)) [(.int 0), (.int 0), (.ref a2), (.ref b391), (.ref b391)])) rfl (by rw [hml]; rfl) (Steps.refl _) (a := b391) (argsL := [(.ref a2), (.int 0), (.int 0)]) (rest := [(.ref b391)]) (lenOf pd_19 rfl) rfl (wz rfl) (hb hby d5_46) (fun _ _ => ⟨rfl, e398, (by decide : 1 + 4 ≤ _), (by decide : 4 + 8 ≤ _)⟩)
  dsimp only [Pt.U, Pt.locs, Pt.cells, Pt.slots] at X401w hS401w gr401 l401 y401 z401 st401 hQ401 C401w
  subst l401 y401 z401
  obtain ⟨X401, hS401, hZ401, hown401⟩ := rebS hS0 (by rw [e398]; omega) X401w hS401w gr401 hZ hown
  obtain ⟨h401, e401⟩ : ∃ z, T401.heap = z := ⟨_, rfl⟩
  rw [e401] at hQ401
  obtain ⟨t_401, k_401, rfl, N401q, K401, p401_0, p401_1, p401_2, p401_3⟩ := hQ401
  have N401 := Fr.app N388 N401q
  rw [e401] at C401w hS401
  have hk401 : h401.size ≤ h401.size := Nat.le_refl _
  have ne404 : b391 ≠ a3 := Exa.neArv A391 f399 (wd hw 45 rfl)
  have ne405 : b391 ≠ a2 := Exa.neArv A391 f403 (wd hw 45 rfl)
  have C406 : CHr Z EL1 s.vm h0 T401.vm h401 := C392.trans (C401w)
  have sz401 : h391.size ≤ h401.size := K401.1
  have nz401 := Nat.le_trans nz391 sz401
  have lt401_0 := ltA p401_0.lt
  have lt401_3 := ltA p401_3.lt
  obtain ⟨fs, hr, hrun, hended, hE⟩ := X401.leaveW hS401 (by rw [e401]; omega) (v := some (.ref b391)) (fun h => by rw [Bd.returns] at h; cases h)
  have CE := C406.trans (CHv.at X401 hZ401 (own_EW hw) C406.1)
  refine ⟨_, _, pre389 _ ?_, hrun, hended, _, _, rfl, ?_, ?_, ⟨hE.1, hE.2.1, hE.2.2.1, hE.2.2.2.mono (by decide) (by decide)⟩⟩
  ·show GO p e below T388 (mkF m 11 (la20 a1 p1) [(.int p1)]) _
   refine XS.ifNo X388.here hx rfl (hb hby d5_11) rfl ((if0 _ _).trans (teq (hb390 : p1 = (0 : Int32))).2) ?_
   show GO p e below T388 (mkF m 14 (la20 a1 p1) []) _
   refine XS.iconst X388.here hx rfl (hb hby d5_14) ?_
   show GO p e below T388 (mkF m 15 (la20 a1 p1) [(.int 0)]) _
   refine XS.goto X388.here hx rfl (pc0 := 15) (pc' := 28) rfl (hb hby d5_15) (by decide) (by decide) ?_
   show GO p e below T388 (mkF m 28 (la20 a1 p1) [(.int 0)]) _
   refine XS.istoreN X388.here hx rfl (hb hby d5_28) rfl (l' := (la5 a1 p1 (0 : Int32))) rfl ?_
   show GO p e below T388 (mkF m 29 (la5 a1 p1 (0 : Int32)) []) _
   refine st391 _ ?_
   show GO p e below T391 (mkF m 32 (la5 a1 p1 (0 : Int32)) [(.ref b391)]) _
   refine XS.dup X391.here hx rfl (hb hby d5_32) rfl rfl ?_
   show GO p e below T391 (mkF m 33 (la5 a1 p1 (0 : Int32)) [(.ref b391), (.ref b391)]) _
   refine XS.aloadN X391.here hx rfl (hb hby d5_33) rfl rfl ?_
   show GO p e below T391 (mkF m 34 (la5 a1 p1 (0 : Int32)) [(.ref a1), (.ref b391), (.ref b391)]) _
   refine st396 _ ?_
   show GO p e below T396 (mkF m 37 (la5 a1 p1 (0 : Int32)) [(.ref a2), (.ref b391), (.ref b391)]) _
   refine XS.iloadN X396.here hx rfl (hb hby d5_37) rfl ?_
   show GO p e below T396 (mkF m 38 (la5 a1 p1 (0 : Int32)) [(.int 0), (.ref a2), (.ref b391), (.ref b391)]) _
   refine XS.aloadN X396.here hx rfl (hb hby d5_38) rfl rfl ?_
   show GO p e below T396 (mkF m 39 (la5 a1 p1 (0 : Int32)) [(.ref a1), (.int 0), (.ref a2), (.ref b391), (.ref b391)]) _
   refine st398 _ ?_
   show GO p e below T398 (mkF m 42 (la5 a1 p1 (0 : Int32)) [(.ref a3), (.int 0), (.ref a2), (.ref b391), (.ref b391)]) _
   refine XS.iloadN X398.here hx rfl (hb hby d5_42) rfl ?_
   show GO p e below T398 (mkF m 43 (la5 a1 p1 (0 : Int32)) [(.int p1), (.ref a3), (.int 0), (.ref a2), (.ref b391), (.ref b391)]) _
   refine X398.iaload hx (j := p1) (v := (.int em)) (by rw [e398]; exact Ar400.1) (State.isArrayOf_alike hZ.alike Ar400.2.1) Ar400.2.2 hin400 hat400 (g := (mkF m 43 (la5 a1 p1 (0 : Int32)) [(.int p1), (.ref a3), (.int 0), (.ref a2), (.ref b391), (.ref b391)])) rfl rfl (hb hby d5_43) _ ?_
   show GO p e below T398 (mkF m 44 (la5 a1 p1 (0 : Int32)) [(.int em), (.int 0), (.ref a2), (.ref b391), (.ref b391)]) _
   refine XS.iloadN X398.here hx rfl (hb hby d5_44) rfl ?_
   show GO p e below T398 (mkF m 45 (la5 a1 p1 (0 : Int32)) [(.int 0), (.int em), (.int 0), (.ref a2), (.ref b391), (.ref b391)]) _
   refine XS.isub X398.here hx rfl (hb hby d5_45) rfl ?_
   rw [hlm]
   show GO p e below T398 (mkF m 46 (la5 a1 p1 (0 : Int32)) [(.int 0), (.int 0), (.ref a2), (.ref b391), (.ref b391)]) _
   refine st401.trans ?_
   show GO p e below T401 (mkF m 49 (la5 a1 p1 (0 : Int32)) [(.ref b391)]) _
   exact retOut X401 hx Bd.returns rfl (Or.inr (Or.inr (Or.inr (Or.inr ⟨rfl, rfl, rfl⟩)))) (hb hby d5_49) hr
  ·show Qrm_get_0L Z a1 p1 a3 k3 en0 en1 en2 f0 a2 k2 vs2 (0 : Int32) h0 n0 _ T401.heap _
   rw [e401]
   exact ⟨b391, t_401, k_401, rfl, N401, (((Keep.refl h0 []).ext E391).trans K401 (allS (P := fun x => x ∈ _ ∨ _) (Or.inr (by omega)) all0)), p401_0, p401_1, p401_2, p401_3⟩
  ·show CHr Z EL1 s.vm s.heap T401.vm T401.heap
   rw [hh, e401]
   exact CE
 ·obtain ⟨eq, hgq, hsq, hiq⟩ := hs1 hb390
  obtain ⟨T407, X407, e407, st407⟩ := getF X388 hx hZ hown (host := "") (Or.inl (wd hw 27 rfl)) Via.refl e388 F2 (g := (mkF m 19 (la20 a1 p1) [(.ref a1)])) rfl rfl (hb hby d5_19)
  obtain ⟨cl408, Ar408, q408, S408, M408, H408, G408⟩ := id V3
  have hin408 : ¬ ((p1 - (1 : Int32)) < 0 ∨ cl408.slots.size ≤ ((p1 - (1 : Int32))).toNatClampNeg) := inb_of S408 hiq
  have hat408 : cl408.slots[((p1 - (1 : Int32))).toNatClampNeg]? = some (.int eq) := Has.at H408 hin408 hgq
  obtain ⟨T409, h409, X409, e409, E409, A409, D409, U409, st409⟩ := newO X407 hx hZ hown (wd hw 44 rfl) (wd hw 45 rfl) (wd hw 46 rfl) e407 (g := (mkF m 29 (la5 a1 p1 o1) [])) rfl (hb hby d5_29) (by decide) (by decide)
  obtain ⟨b409, g409⟩ : ∃ z, z = h0.size := ⟨_, rfl⟩
  rw [← g409] at A409 D409 U409 st409
  have C410 : CHr Z EL1 s.vm h0 s.vm h409 := C0.trans (CHr.ext E409 C0.1)
  have sz409 : h0.size ≤ h409.size := E409.1
  have nz409 := Nat.le_trans Z0 sz409
  have lt409 := ltA A409.lt
  have B409 : Safe Z EL1 s.vm h409 b409 := Safe.ext E409 C0.1 (Safe.new (by omega))
  have f411 : Fld Z h409 b409 kS0 "value" "[B" .null := D409 (Or.inr (wd hw 67 rfl)) (ty := (.array .byte)) (by decide)
  have f412 : Fld Z h409 b409 kS0 "coder" "B" (.int 0) := D409 (Or.inr (wd hw 68 rfl)) (ty := .byte) (by decide)
  have f413 : Fld Z h409 a1 kS2 "text" "[C" (.ref a2) := (F1.ext E409)
  obtain ⟨T414, X414, e414, st414⟩ := getF X409 hx hZ hown (host := "") (Or.inl (wd hw 25 rfl)) Via.refl e409 f413 (g := (mkF m 34 (la5 a1 p1 o1) [(.ref a1), (.ref b409), (.ref b409)])) rfl rfl (hb hby d5_34)
  have f415 : Fld Z h409 a1 kS2 "ends" "[I" (.ref a3) := (F2.ext E409)
  obtain ⟨T416, X416, e416, st416⟩ := getF X414 hx hZ hown (host := "") (Or.inl (wd hw 27 rfl)) Via.refl e414 f415 (g := (mkF m 39 (la5 a1 p1 o1) [(.ref a1), (.int o1), (.ref a2), (.ref b409), (.ref b409)])) rfl rfl (hb hby d5_39)
  have f417 : Arv Z h409 a3 k3 .int (3 : Int32) [(.int en0), (.int en1), (.int en2)] (.int 0) := (V3.ext E409)
  obtain ⟨cl418, Ar418, q418, S418, M418, H418, G418⟩ := id f417
  have hin418 : ¬ (p1 < 0 ∨ cl418.slots.size ≤ (p1).toNatClampNeg) := inb_of S418 hib
  have hat418 : cl418.slots[(p1).toNatClampNeg]? = some (.int em) := Has.at H418 hin418 hge
  -- pc 46: String.<init> by rm_s3_0
  have f420 : Old Z n0 h409 := (O0.ext E409)
  have f421 : Arv Z h409 a2 k2 .char (8 : Int32) vs2 (.int 0) := (V2.ext E409)
  obtain ⟨_, _, ⟨T419, L419, k419, n419⟩, -, X419w, hS419w, gr419, ⟨Lc419, hQ419, l419, y419, z419, C419w⟩, st419⟩ := X416.specialBackS hx (y := (⟨kS0, "<init>", "([CII)V"⟩ : MethodName)) rfl hown (mvT hZ (wd hw 47 rfl)) (mvT hZ (wd hw 48 rfl)) (mvT hZ (wd hw 49 rfl)) (by decide) (own_backS (W := 1) (rm_s3_0 l Z a0 hw [] b409 .null (.int 0) a2 k2 vs2 o1 f0 h409 n0 nz409 f420 A409 f411 f412 f421 SZf rf0 hr1 hr2 (by first | assumption | decide | omega)) hZ (wd hw 49 rfl) (wd hw 46 rfl) (by decide) (by decide) (own_EW hw) C410.1 (sfS B409 sf0) (allS (ltN (by omega)) all0)) (g := (mkF m 46 (la5 a1 p1 o1) [(.int 0), (.int o1), (.ref a2), (.ref b409), (.ref b409)])) rfl (by rw [hml]; rfl) (Steps.refl _) (a := b409) (argsL := [(.ref a2), (.int o1), (.int 0)]) (rest := [(.ref b409)]) (lenOf pd_19 rfl) rfl (wz rfl) (hb hby d5_46) (fun _ _ => ⟨rfl, e416, (by decide : 1 + 4 ≤ _), (by decide : 4 + 8 ≤ _)⟩)
  dsimp only [Pt.U, Pt.locs, Pt.cells, Pt.slots] at X419w hS419w gr419 l419 y419 z419 st419 hQ419 C419w
  subst l419 y419 z419
  obtain ⟨X419, hS419, hZ419, hown419⟩ := rebS hS0 (by rw [e416]; omega) X419w hS419w gr419 hZ hown
  obtain ⟨h419, e419⟩ : ∃ z, T419.heap = z := ⟨_, rfl⟩
  rw [e419] at hQ419
  obtain ⟨t_419, k_419, rfl, N419q, K419, p419_0, p419_1, p419_2, p419_3⟩ := hQ419
  have N419 := Fr.app N388 N419q
  rw [e419] at C419w hS419
  have hk419 : h419.size ≤ h419.size := Nat.le_refl _
  have ne422 : b409 ≠ a3 := Exa.neArv A409 f417 (wd hw 45 rfl)
  have ne423 : b409 ≠ a2 := Exa.neArv A409 f421 (wd hw 45 rfl)
  have C424 : CHr Z EL1 s.vm h0 T419.vm h419 := C410.trans (C419w)
  have sz419 : h409.size ≤ h419.size := K419.1
  have nz419 := Nat.le_trans nz409 sz419
  have lt419_0 := ltA p419_0.lt
  have lt419_3 := ltA p419_3.lt
  obtain ⟨fs, hr, hrun, hended, hE⟩ := X419.leaveW hS419 (by rw [e419]; omega) (v := some (.ref b409)) (fun h => by rw [Bd.returns] at h; cases h)
  have CE := C424.trans (CHv.at X419 hZ419 (own_EW hw) C424.1)
  refine ⟨_, _, pre389 _ ?_, hrun, hended, _, _, rfl, ?_, ?_, ⟨hE.1, hE.2.1, hE.2.2.1, hE.2.2.2.mono (by decide) (by decide)⟩⟩
  ·show GO p e below T388 (mkF m 11 (la20 a1 p1) [(.int p1)]) _
   refine XS.ifYes X388.here hx rfl (pc0 := 11) (pc' := 18) rfl (hb hby d5_11) rfl ((if0 _ _).trans (feq (hb390 : ¬ (p1 = (0 : Int32)))).2) (by decide) (by decide) ?_
   show GO p e below T388 (mkF m 18 (la20 a1 p1) []) _
   refine XS.aloadN X388.here hx rfl (hb hby d5_18) rfl rfl ?_
   show GO p e below T388 (mkF m 19 (la20 a1 p1) [(.ref a1)]) _
   refine st407 _ ?_
   show GO p e below T407 (mkF m 22 (la20 a1 p1) [(.ref a3)]) _
   refine XS.iloadN X407.here hx rfl (hb hby d5_22) rfl ?_
   show GO p e below T407 (mkF m 23 (la20 a1 p1) [(.int p1), (.ref a3)]) _
   refine XS.iconst X407.here hx rfl (hb hby d5_23) ?_
   show GO p e below T407 (mkF m 24 (la20 a1 p1) [(.int 1), (.int p1), (.ref a3)]) _
   refine XS.isub X407.here hx rfl (hb hby d5_24) rfl ?_
   show GO p e below T407 (mkF m 25 (la20 a1 p1) [(.int (p1 - (1 : Int32))), (.ref a3)]) _
   refine X407.iaload hx (j := (p1 - (1 : Int32))) (v := (.int eq)) (by rw [e407]; exact Ar408.1) (State.isArrayOf_alike hZ.alike Ar408.2.1) Ar408.2.2 hin408 hat408 (g := (mkF m 25 (la20 a1 p1) [(.int (p1 - (1 : Int32))), (.ref a3)])) rfl rfl (hb hby d5_25) _ ?_
   show GO p e below T407 (mkF m 26 (la20 a1 p1) [(.int eq)]) _
   refine XS.iconst X407.here hx rfl (hb hby d5_26) ?_
   show GO p e below T407 (mkF m 27 (la20 a1 p1) [(.int 1), (.int eq)]) _
   refine XS.iadd X407.here hx rfl (hb hby d5_27) rfl ?_
   rw [hsq]
   show GO p e below T407 (mkF m 28 (la20 a1 p1) [(.int o1)]) _
   refine XS.istoreN X407.here hx rfl (hb hby d5_28) rfl (l' := (la5 a1 p1 o1)) rfl ?_
   show GO p e below T407 (mkF m 29 (la5 a1 p1 o1) []) _
   refine st409 _ ?_
   show GO p e below T409 (mkF m 32 (la5 a1 p1 o1) [(.ref b409)]) _
   refine XS.dup X409.here hx rfl (hb hby d5_32) rfl rfl ?_
   show GO p e below T409 (mkF m 33 (la5 a1 p1 o1) [(.ref b409), (.ref b409)]) _
   refine XS.aloadN X409.here hx rfl (hb hby d5_33) rfl rfl ?_
   show GO p e below T409 (mkF m 34 (la5 a1 p1 o1) [(.ref a1), (.ref b409), (.ref b409)]) _
   refine st414 _ ?_
   show GO p e below T414 (mkF m 37 (la5 a1 p1 o1) [(.ref a2), (.ref b409), (.ref b409)]) _
   refine XS.iloadN X414.here hx rfl (hb hby d5_37) rfl ?_
   show GO p e below T414 (mkF m 38 (la5 a1 p1 o1) [(.int o1), (.ref a2), (.ref b409), (.ref b409)]) _
   refine XS.aloadN X414.here hx rfl (hb hby d5_38) rfl rfl ?_
   show GO p e below T414 (mkF m 39 (la5 a1 p1 o1) [(.ref a1), (.int o1), (.ref a2), (.ref b409), (.ref b409)]) _
   refine st416 _ ?_
   show GO p e below T416 (mkF m 42 (la5 a1 p1 o1) [(.ref a3), (.int o1), (.ref a2), (.ref b409), (.ref b409)]) _
   refine XS.iloadN X416.here hx rfl (hb hby d5_42) rfl ?_
   show GO p e below T416 (mkF m 43 (la5 a1 p1 o1) [(.int p1), (.ref a3), (.int o1), (.ref a2), (.ref b409), (.ref b409)]) _
   refine X416.iaload hx (j := p1) (v := (.int em)) (by rw [e416]; exact Ar418.1) (State.isArrayOf_alike hZ.alike Ar418.2.1) Ar418.2.2 hin418 hat418 (g := (mkF m 43 (la5 a1 p1 o1) [(.int p1), (.ref a3), (.int o1), (.ref a2), (.ref b409), (.ref b409)])) rfl rfl (hb hby d5_43) _ ?_
   show GO p e below T416 (mkF m 44 (la5 a1 p1 o1) [(.int em), (.int o1), (.ref a2), (.ref b409), (.ref b409)]) _
   refine XS.iloadN X416.here hx rfl (hb hby d5_44) rfl ?_
   show GO p e below T416 (mkF m 45 (la5 a1 p1 o1) [(.int o1), (.int em), (.int o1), (.ref a2), (.ref b409), (.ref b409)]) _
   refine XS.isub X416.here hx rfl (hb hby d5_45) rfl ?_
   rw [hlm]
   show GO p e below T416 (mkF m 46 (la5 a1 p1 o1) [(.int 0), (.int o1), (.ref a2), (.ref b409), (.ref b409)]) _
   refine st419.trans ?_
   show GO p e below T419 (mkF m 49 (la5 a1 p1 o1) [(.ref b409)]) _
   exact retOut X419 hx Bd.returns rfl (Or.inr (Or.inr (Or.inr (Or.inr ⟨rfl, rfl, rfl⟩)))) (hb hby d5_49) hr
  ·show Qrm_get_0L Z a1 p1 a3 k3 en0 en1 en2 f0 a2 k2 vs2 o1 h0 n0 _ T419.heap _
   rw [e419]
   exact ⟨b409, t_419, k_419, rfl, N419, (((Keep.refl h0 []).ext E409).trans K419 (allS (P := fun x => x ∈ _ ∨ _) (Or.inr (by omega)) all0)), p419_0, p419_1, p419_2, p419_3⟩
  ·show CHr Z EL1 s.vm s.heap T419.vm T419.heap
   rw [hh, e419]
   exact CE
def Qrm_get_1L (Z : State) (a1 : Addr) (p1 : Int32) (a3 : Addr) (k3 : ClassId) (en0 : Int32) (en1 : Int32) (en2 : Int32) (z0 : Int32) (f0 : Value) (a2 : Addr) (k2 : ClassId) (vs2 : List Value) (o1 : Int32) (x0 : Int32) (h0 : Heap) (n0 : Nat) (v : Option Value) (h : Heap) (L : List Loc) : Prop := ∃ yy : Addr, ∃ t : Addr, ∃ k : ClassId, v = some (.ref yy) ∧ Fr n0 L ∧ Keep h0 h [] ∧ Exa Z h yy kS0 ∧ Fld Z h yy kS0 "coder" "B" (.int 0) ∧ Fld Z h yy kS0 "value" "[B" (.ref t) ∧ Arv Z h t k .byte (1 : Int32) [(.int (x0.toInt8.toInt32))] (.int 0)
theorem ef_rm_get_1L (m : MethodId) (x0 : Addr) (x1 : Int32) : entryFrame m #[(.ref x0), (.int x1)] 3 = mkF m 0 (la20 x0 x1) [] := by first | rfl | (simp [entryFrame, mkF, argsToLocals, Value.category]; done)
theorem rm_get_1L (l : Launch) (Z : State) (a0 : Array Value) (hw : HW Z a0) (ws : List Jvm.Cond) (a1 : Addr) (p1 : Int32) (a3 : Addr) (k3 : ClassId) (en0 : Int32) (en1 : Int32) (en2 : Int32) (z0 : Int32) (f0 : Value) (a2 : Addr) (k2 : ClassId) (vs2 : List Value) (o1 : Int32) (x0 : Int32) (h0 : Heap) (n0 : Nat) (Z0 : n0 ≤ h0.size) (O0 : Old Z n0 h0) (F1 : Fld Z h0 a1 kS2 "text" "[C" (.ref a2)) (F2 : Fld Z h0 a1 kS2 "ends" "[I" (.ref a3)) (V3 : Arv Z h0 a3 k3 .int (3 : Int32) [(.int en0), (.int en1), (.int en2)] (.int 0)) (V2 : Arv Z h0 a2 k2 .char (8 : Int32) vs2 (.int 0)) (SZf : Sta Z Z.heap kS3 "SIOOBE_FORMATTER" "Ljava/util/function/BiFunction;" f0) (rf0 : f0.isRef = true) (SZc : Sta Z Z.heap kS0 "COMPACT_STRINGS" "Z" (.int z0)) (hz0 : ¬ z0 = 0) (SZad : Sta Z Z.heap kS1 "$assertionsDisabled" "Z" (.int 1)) (SZhi : Sta Z Z.heap kS1 "HI_BYTE_SHIFT" "I" (.int 0)) (SZlo : Sta Z Z.heap kS1 "LO_BYTE_SHIFT" "I" (.int 8)) (hx0 : vs2.getD (o1).toNatClampNeg (.int 0) = (.int x0)) (lb0 : (¬ x0 < 0 ∧ ¬ (65535 : Int32) < x0)) (c0 : ¬ ((255 : Int32) < x0)) (P : OwnPl p1 o1 (1 : Int32) en0 en1 en2) :
  OwnM l Z h0 (⟨kS2, "get", "(I)Ljava/lang/String;"⟩ : MethodName) (Jvm.Cond.code (⟨kS2, "get", "(I)Ljava/lang/String;"⟩ : MethodName) prog_30_method_2_code 3 (some (.object kS0)) :: ws) (RM 4 2 5 68) #[(.ref a1), (.int p1)] (Qrm_get_1L Z a1 p1 a3 k3 en0 en1 en2 z0 f0 a2 k2 vs2 o1 x0 h0 n0) := by
 refine MetFree.of_bodySF (plainFor_of_name pn_7) hisR ?_
 intro p e s m args below meth c s₁ Bd hml0 hP hK
 obtain ⟨rfl, hZ, hh⟩ := hP
 have hx := Bd.exec
 have hby := Bd.bytes
 have hml : c.maxLocals = 3 := hml0
 have hown : s.vm.findClass kS2 = some m.cls := findClass_of_methodNamed Bd.named
 have hnm := (name_of_methodNamed Bd.named Bd.method).1
 have X0 : Stand p l e (RM 4 2 5 68) s m #[(.ref a1), (.int p1)] below meth c s₁ [] 0 0 := Stand.of_body Bd
 have e0 : s₁.heap = h0 := by rw [← hh, Bd.state]; rfl
 have N0 := Fr.nil n0
 have pre0 : ∀ t, GO p e below s₁ (mkF m 0 (la20 a1 p1) []) t → GO p e below s₁ (entryFrame m #[(.ref a1), (.int p1)] 3) t := fun t k => castTop (ef_rm_get_1L m a1 p1) k
 have lt_F1 := ltA F1.lt
 have lt_F2 := ltA F2.lt
 have lt_V3 := ltA V3.lt
 have lt_V2 := ltA V2.lt
 obtain ⟨ob0, ob1', -, hr1, hr2, hs0, hs1, em, hge, hlm, hib⟩ := id P
 obtain ⟨T425, X425, e425, st425⟩ := getF X0 hx hZ hown (host := "") (Or.inl (wd hw 27 rfl)) Via.refl e0 F2 (g := (mkF m 2 (la20 a1 p1) [(.ref a1), (.int p1)])) rfl rfl (hb hby d5_2)
 obtain ⟨cl426, Ar426, -, S426, M426, -, -⟩ := id V3
 -- pc 6: Objects.checkIndex by rm_oc
 obtain ⟨_, _, ⟨T427, L427, k427, n427⟩, -, X427, ⟨Lc427, hQ427, l427, y427, z427⟩, st427⟩ := Jvm.LawKit.callS X425 hx (y := (⟨"java/util/Objects", "checkIndex", "(II)I"⟩ : MethodName)) hown (mvT hZ (wd hw 36 rfl)) (mvT hZ (wd hw 37 rfl)) (mvT hZ (wd hw 38 rfl)) (mvT hZ (wd hw 39 rfl)) (by decide) (backOf (W := 0) (rm_oc l Z a0 hw [] p1 (3 : Int32) h0 n0 Z0 hib.1 hib.2) hZ (wd hw 39 rfl) (wd hw 38 rfl) (by decide) (by decide)) (g := (mkF m 6 (la20 a1 p1) [(.int 3), (.int p1)])) rfl (by rw [hml]; rfl) (argsL := [(.int p1), (.int 3)]) (rest := []) (lenOf pd_18 rfl) rfl (wz rfl) (hb hby d5_6) (fun _ _ => ⟨rfl, e425, (by decide : 0 + 0 ≤ _), (by decide : 0 + 0 ≤ _)⟩)
 dsimp only [Pt.U, Pt.locs, Pt.cells, Pt.slots] at X427 l427 y427 z427 st427 hQ427
 subst l427 y427 z427
 obtain ⟨rfl, N427q, e427⟩ := hQ427
 have N427 := Fr.app N0 N427q
 have pre428 : ∀ t, GO p e below T427 (mkF m 11 (la20 a1 p1) [(.int p1)]) t → GO p e below s₁ (entryFrame m #[(.ref a1), (.int p1)] 3) t := by
  intro t kt
  refine pre0 t ?_
  show GO p e below s₁ (mkF m 0 (la20 a1 p1) []) _
  refine XS.iloadN X0.here hx rfl (hb hby d5_0) rfl ?_
  show GO p e below s₁ (mkF m 1 (la20 a1 p1) [(.int p1)]) _
  refine XS.aloadN X0.here hx rfl (hb hby d5_1) rfl rfl ?_
  show GO p e below s₁ (mkF m 2 (la20 a1 p1) [(.ref a1), (.int p1)]) _
  refine st425 _ ?_
  show GO p e below T425 (mkF m 5 (la20 a1 p1) [(.ref a3), (.int p1)]) _
  refine X425.arraylength hx (by rw [e425]; exact Ar426.1) (State.isArrayOf_alike hZ.alike Ar426.2.1) (g := (mkF m 5 (la20 a1 p1) [(.ref a3), (.int p1)])) rfl rfl (hb hby d5_5) _ ?_
  rw [len_of S426 M426]
  show GO p e below T425 (mkF m 6 (la20 a1 p1) [(.int 3), (.int p1)]) _
  refine st427 _ ?_
  show GO p e below T427 (mkF m 9 (la20 a1 p1) [(.int p1)]) _
  refine XS.pop X427.here hx rfl (hb hby d5_9) rfl rfl ?_
  show GO p e below T427 (mkF m 10 (la20 a1 p1) []) _
  refine XS.iloadN X427.here hx rfl (hb hby d5_10) rfl ?_
  exact kt
 by_cases hb429 : p1 = (0 : Int32)
 ·have h0o := hs0 hb429
  subst h0o
  obtain ⟨T430, h430, X430, e430, E430, A430, D430, U430, st430⟩ := newO X427 hx hZ hown (wd hw 44 rfl) (wd hw 45 rfl) (wd hw 46 rfl) e427 (g := (mkF m 29 (la5 a1 p1 (0 : Int32)) [])) rfl (hb hby d5_29) (by decide) (by decide)
  obtain ⟨b430, g430⟩ : ∃ z, z = h0.size := ⟨_, rfl⟩
  rw [← g430] at A430 D430 U430 st430
  have sz430 : h0.size ≤ h430.size := E430.1
  have nz430 := Nat.le_trans Z0 sz430
  have lt430 := ltA A430.lt
  have f431 : Fld Z h430 b430 kS0 "value" "[B" .null := D430 (Or.inr (wd hw 67 rfl)) (ty := (.array .byte)) (by decide)
  have f432 : Fld Z h430 b430 kS0 "coder" "B" (.int 0) := D430 (Or.inr (wd hw 68 rfl)) (ty := .byte) (by decide)
  have f433 : Fld Z h430 a1 kS2 "text" "[C" (.ref a2) := (F1.ext E430)
  obtain ⟨T434, X434, e434, st434⟩ := getF X430 hx hZ hown (host := "") (Or.inl (wd hw 25 rfl)) Via.refl e430 f433 (g := (mkF m 34 (la5 a1 p1 (0 : Int32)) [(.ref a1), (.ref b430), (.ref b430)])) rfl rfl (hb hby d5_34)
  have f435 : Fld Z h430 a1 kS2 "ends" "[I" (.ref a3) := (F2.ext E430)
  obtain ⟨T436, X436, e436, st436⟩ := getF X434 hx hZ hown (host := "") (Or.inl (wd hw 27 rfl)) Via.refl e434 f435 (g := (mkF m 39 (la5 a1 p1 (0 : Int32)) [(.ref a1), (.int 0), (.ref a2), (.ref b430), (.ref b430)])) rfl rfl (hb hby d5_39)
  have f437 : Arv Z h430 a3 k3 .int (3 : Int32) [(.int en0), (.int en1), (.int en2)] (.int 0) := (V3.ext E430)
  obtain ⟨cl438, Ar438, q438, S438, M438, H438, G438⟩ := id f437
  have hin438 : ¬ (p1 < 0 ∨ cl438.slots.size ≤ (p1).toNatClampNeg) := inb_of S438 hib
  have hat438 : cl438.slots[(p1).toNatClampNeg]? = some (.int em) := Has.at H438 hin438 hge
  -- pc 46: String.<init> by rm_s3_1L
  have f440 : Old Z n0 h430 := (O0.ext E430)
  have f441 : Arv Z h430 a2 k2 .char (8 : Int32) vs2 (.int 0) := (V2.ext E430)
  obtain ⟨_, _, ⟨T439, L439, k439, n439⟩, -, X439, ⟨Lc439, hQ439, l439, y439, z439⟩, st439⟩ := X436.specialBack hx (y := (⟨kS0, "<init>", "([CII)V"⟩ : MethodName)) rfl hown (mvT hZ (wd hw 47 rfl)) (mvT hZ (wd hw 48 rfl)) (mvT hZ (wd hw 49 rfl)) (by decide) (backOf (W := 1) (rm_s3_1L l Z a0 hw [] b430 .null (.int 0) a2 k2 vs2 (0 : Int32) x0 z0 f0 h430 n0 nz430 f440 A430 f431 f432 f441 SZc hz0 SZf rf0 hr1 hr2 SZad SZhi SZlo ob0 hx0 lb0 c0 (by first | assumption | decide | omega)) hZ (wd hw 49 rfl) (wd hw 46 rfl) (by decide) (by decide)) (g := (mkF m 46 (la5 a1 p1 (0 : Int32)) [(.int 1), (.int 0), (.ref a2), (.ref b430), (.ref b430)])) rfl (by rw [hml]; rfl) (Steps.refl _) (a := b430) (argsL := [(.ref a2), (.int 0), (.int 1)]) (rest := [(.ref b430)]) (lenOf pd_19 rfl) rfl (wz rfl) (hb hby d5_46) (fun _ _ => ⟨rfl, e436, (by decide : 1 + 1 ≤ _), (by decide : 4 + 1 ≤ _)⟩)
  dsimp only [Pt.U, Pt.locs, Pt.cells, Pt.slots] at X439 l439 y439 z439 st439 hQ439
  subst l439 y439 z439
  obtain ⟨h439, e439⟩ : ∃ z, T439.heap = z := ⟨_, rfl⟩
  rw [e439] at hQ439
  obtain ⟨t_439, k_439, rfl, N439q, K439, p439_0, p439_1, p439_2, p439_3, r439_0⟩ := hQ439
  have N439 := Fr.app N427 N439q
  have ne442 : b430 ≠ a3 := Exa.neArv A430 f437 (wd hw 45 rfl)
  have ne443 : b430 ≠ a2 := Exa.neArv A430 f441 (wd hw 45 rfl)
  have sz439 : h430.size ≤ h439.size := K439.1
  have nz439 := Nat.le_trans nz430 sz439
  have lt439_0 := ltA p439_0.lt
  have lt439_3 := ltA p439_3.lt
  obtain ⟨fs, hr, hrun, hended, hW, hsame⟩ := X439.leave (v := some (.ref b430)) (fun h => by rw [Bd.returns] at h; cases h)
  refine ⟨_, _, pre428 _ ?_, hrun, hended, _, _, rfl, ?_, ⟨_, rfl⟩, hW, hsame.mono (by decide) (by decide)⟩
  ·show GO p e below T427 (mkF m 11 (la20 a1 p1) [(.int p1)]) _
   refine XS.ifNo X427.here hx rfl (hb hby d5_11) rfl ((if0 _ _).trans (teq (hb429 : p1 = (0 : Int32))).2) ?_
   show GO p e below T427 (mkF m 14 (la20 a1 p1) []) _
   refine XS.iconst X427.here hx rfl (hb hby d5_14) ?_
   show GO p e below T427 (mkF m 15 (la20 a1 p1) [(.int 0)]) _
   refine XS.goto X427.here hx rfl (pc0 := 15) (pc' := 28) rfl (hb hby d5_15) (by decide) (by decide) ?_
   show GO p e below T427 (mkF m 28 (la20 a1 p1) [(.int 0)]) _
   refine XS.istoreN X427.here hx rfl (hb hby d5_28) rfl (l' := (la5 a1 p1 (0 : Int32))) rfl ?_
   show GO p e below T427 (mkF m 29 (la5 a1 p1 (0 : Int32)) []) _
   refine st430 _ ?_
   show GO p e below T430 (mkF m 32 (la5 a1 p1 (0 : Int32)) [(.ref b430)]) _
   refine XS.dup X430.here hx rfl (hb hby d5_32) rfl rfl ?_
   show GO p e below T430 (mkF m 33 (la5 a1 p1 (0 : Int32)) [(.ref b430), (.ref b430)]) _
   refine XS.aloadN X430.here hx rfl (hb hby d5_33) rfl rfl ?_
   show GO p e below T430 (mkF m 34 (la5 a1 p1 (0 : Int32)) [(.ref a1), (.ref b430), (.ref b430)]) _
   refine st434 _ ?_
   show GO p e below T434 (mkF m 37 (la5 a1 p1 (0 : Int32)) [(.ref a2), (.ref b430), (.ref b430)]) _
   refine XS.iloadN X434.here hx rfl (hb hby d5_37) rfl ?_
   show GO p e below T434 (mkF m 38 (la5 a1 p1 (0 : Int32)) [(.int 0), (.ref a2), (.ref b430), (.ref b430)]) _
   refine XS.aloadN X434.here hx rfl (hb hby d5_38) rfl rfl ?_
   show GO p e below T434 (mkF m 39 (la5 a1 p1 (0 : Int32)) [(.ref a1), (.int 0), (.ref a2), (.ref b430), (.ref b430)]) _
   refine st436 _ ?_
   show GO p e below T436 (mkF m 42 (la5 a1 p1 (0 : Int32)) [(.ref a3), (.int 0), (.ref a2), (.ref b430), (.ref b430)]) _
   refine XS.iloadN X436.here hx rfl (hb hby d5_42) rfl ?_
   show GO p e below T436 (mkF m 43 (la5 a1 p1 (0 : Int32)) [(.int p1), (.ref a3), (.int 0), (.ref a2), (.ref b430), (.ref b430)]) _
   refine X436.iaload hx (j := p1) (v := (.int em)) (by rw [e436]; exact Ar438.1) (State.isArrayOf_alike hZ.alike Ar438.2.1) Ar438.2.2 hin438 hat438 (g := (mkF m 43 (la5 a1 p1 (0 : Int32)) [(.int p1), (.ref a3), (.int 0), (.ref a2), (.ref b430), (.ref b430)])) rfl rfl (hb hby d5_43) _ ?_
   show GO p e below T436 (mkF m 44 (la5 a1 p1 (0 : Int32)) [(.int em), (.int 0), (.ref a2), (.ref b430), (.ref b430)]) _
   refine XS.iloadN X436.here hx rfl (hb hby d5_44) rfl ?_
   show GO p e below T436 (mkF m 45 (la5 a1 p1 (0 : Int32)) [(.int 0), (.int em), (.int 0), (.ref a2), (.ref b430), (.ref b430)]) _
   refine XS.isub X436.here hx rfl (hb hby d5_45) rfl ?_
   rw [hlm]
   show GO p e below T436 (mkF m 46 (la5 a1 p1 (0 : Int32)) [(.int 1), (.int 0), (.ref a2), (.ref b430), (.ref b430)]) _
   refine st439.trans ?_
   show GO p e below T439 (mkF m 49 (la5 a1 p1 (0 : Int32)) [(.ref b430)]) _
   exact retOut X439 hx Bd.returns rfl (Or.inr (Or.inr (Or.inr (Or.inr ⟨rfl, rfl, rfl⟩)))) (hb hby d5_49) hr
  ·show Qrm_get_1L Z a1 p1 a3 k3 en0 en1 en2 z0 f0 a2 k2 vs2 (0 : Int32) x0 h0 n0 _ T439.heap _
   rw [e439]
   exact ⟨b430, t_439, k_439, rfl, N439, (((Keep.refl h0 []).ext E430).trans K439 (allS (P := fun x => x ∈ _ ∨ _) (Or.inr (by omega)) all0)), p439_0, p439_1, p439_2, p439_3⟩
 ·obtain ⟨eq, hgq, hsq, hiq⟩ := hs1 hb429
  obtain ⟨T444, X444, e444, st444⟩ := getF X427 hx hZ hown (host := "") (Or.inl (wd hw 27 rfl)) Via.refl e427 F2 (g := (mkF m 19 (la20 a1 p1) [(.ref a1)])) rfl rfl (hb hby d5_19)
  obtain ⟨cl445, Ar445, q445, S445, M445, H445, G445⟩ := id V3
  have hin445 : ¬ ((p1 - (1 : Int32)) < 0 ∨ cl445.slots.size ≤ ((p1 - (1 : Int32))).toNatClampNeg) := inb_of S445 hiq
  have hat445 : cl445.slots[((p1 - (1 : Int32))).toNatClampNeg]? = some (.int eq) := Has.at H445 hin445 hgq
  obtain ⟨T446, h446, X446, e446, E446, A446, D446, U446, st446⟩ := newO X444 hx hZ hown (wd hw 44 rfl) (wd hw 45 rfl) (wd hw 46 rfl) e444 (g := (mkF m 29 (la5 a1 p1 o1) [])) rfl (hb hby d5_29) (by decide) (by decide)
  obtain ⟨b446, g446⟩ : ∃ z, z = h0.size := ⟨_, rfl⟩
  rw [← g446] at A446 D446 U446 st446
  have sz446 : h0.size ≤ h446.size := E446.1
  have nz446 := Nat.le_trans Z0 sz446
  have lt446 := ltA A446.lt
  have f447 : Fld Z h446 b446 kS0 "value" "[B" .null := D446 (Or.inr (wd hw 67 rfl)) (ty := (.array .byte)) (by decide)
  have f448 : Fld Z h446 b446 kS0 "coder" "B" (.int 0) := D446 (Or.inr (wd hw 68 rfl)) (ty := .byte) (by decide)
  have f449 : Fld Z h446 a1 kS2 "text" "[C" (.ref a2) := (F1.ext E446)
  obtain ⟨T450, X450, e450, st450⟩ := getF X446 hx hZ hown (host := "") (Or.inl (wd hw 25 rfl)) Via.refl e446 f449 (g := (mkF m 34 (la5 a1 p1 o1) [(.ref a1), (.ref b446), (.ref b446)])) rfl rfl (hb hby d5_34)
  have f451 : Fld Z h446 a1 kS2 "ends" "[I" (.ref a3) := (F2.ext E446)
  obtain ⟨T452, X452, e452, st452⟩ := getF X450 hx hZ hown (host := "") (Or.inl (wd hw 27 rfl)) Via.refl e450 f451 (g := (mkF m 39 (la5 a1 p1 o1) [(.ref a1), (.int o1), (.ref a2), (.ref b446), (.ref b446)])) rfl rfl (hb hby d5_39)
  have f453 : Arv Z h446 a3 k3 .int (3 : Int32) [(.int en0), (.int en1), (.int en2)] (.int 0) := (V3.ext E446)
  obtain ⟨cl454, Ar454, q454, S454, M454, H454, G454⟩ := id f453
  have hin454 : ¬ (p1 < 0 ∨ cl454.slots.size ≤ (p1).toNatClampNeg) := inb_of S454 hib
  have hat454 : cl454.slots[(p1).toNatClampNeg]? = some (.int em) := Has.at H454 hin454 hge
  -- pc 46: String.<init> by rm_s3_1L
  have f456 : Old Z n0 h446 := (O0.ext E446)
  have f457 : Arv Z h446 a2 k2 .char (8 : Int32) vs2 (.int 0) := (V2.ext E446)
  obtain ⟨_, _, ⟨T455, L455, k455, n455⟩, -, X455, ⟨Lc455, hQ455, l455, y455, z455⟩, st455⟩ := X452.specialBack hx (y := (⟨kS0, "<init>", "([CII)V"⟩ : MethodName)) rfl hown (mvT hZ (wd hw 47 rfl)) (mvT hZ (wd hw 48 rfl)) (mvT hZ (wd hw 49 rfl)) (by decide) (backOf (W := 1) (rm_s3_1L l Z a0 hw [] b446 .null (.int 0) a2 k2 vs2 o1 x0 z0 f0 h446 n0 nz446 f456 A446 f447 f448 f457 SZc hz0 SZf rf0 hr1 hr2 SZad SZhi SZlo ob0 hx0 lb0 c0 (by first | assumption | decide | omega)) hZ (wd hw 49 rfl) (wd hw 46 rfl) (by decide) (by decide)) (g := (mkF m 46 (la5 a1 p1 o1) [(.int 1), (.int o1), (.ref a2), (.ref b446), (.ref b446)])) rfl (by rw [hml]; rfl) (Steps.refl _) (a := b446) (argsL := [(.ref a2), (.int o1), (.int 1)]) (rest := [(.ref b446)]) (lenOf pd_19 rfl) rfl (wz rfl) (hb hby d5_46) (fun _ _ => ⟨rfl, e452, (by decide : 1 + 1 ≤ _), (by decide : 4 + 1 ≤ _)⟩)
  dsimp only [Pt.U, Pt.locs, Pt.cells, Pt.slots] at X455 l455 y455 z455 st455 hQ455
  subst l455 y455 z455
  obtain ⟨h455, e455⟩ : ∃ z, T455.heap = z := ⟨_, rfl⟩
  rw [e455] at hQ455
  obtain ⟨t_455, k_455, rfl, N455q, K455, p455_0, p455_1, p455_2, p455_3, r455_0⟩ := hQ455
  have N455 := Fr.app N427 N455q
  have ne458 : b446 ≠ a3 := Exa.neArv A446 f453 (wd hw 45 rfl)
  have ne459 : b446 ≠ a2 := Exa.neArv A446 f457 (wd hw 45 rfl)
  have sz455 : h446.size ≤ h455.size := K455.1
  have nz455 := Nat.le_trans nz446 sz455
  have lt455_0 := ltA p455_0.lt
  have lt455_3 := ltA p455_3.lt
  obtain ⟨fs, hr, hrun, hended, hW, hsame⟩ := X455.leave (v := some (.ref b446)) (fun h => by rw [Bd.returns] at h; cases h)
  refine ⟨_, _, pre428 _ ?_, hrun, hended, _, _, rfl, ?_, ⟨_, rfl⟩, hW, hsame.mono (by decide) (by decide)⟩
  ·show GO p e below T427 (mkF m 11 (la20 a1 p1) [(.int p1)]) _
   refine XS.ifYes X427.here hx rfl (pc0 := 11) (pc' := 18) rfl (hb hby d5_11) rfl ((if0 _ _).trans (feq (hb429 : ¬ (p1 = (0 : Int32)))).2) (by decide) (by decide) ?_
   show GO p e below T427 (mkF m 18 (la20 a1 p1) []) _
   refine XS.aloadN X427.here hx rfl (hb hby d5_18) rfl rfl ?_
   show GO p e below T427 (mkF m 19 (la20 a1 p1) [(.ref a1)]) _
   refine st444 _ ?_
   show GO p e below T444 (mkF m 22 (la20 a1 p1) [(.ref a3)]) _
   refine XS.iloadN X444.here hx rfl (hb hby d5_22) rfl ?_
   show GO p e below T444 (mkF m 23 (la20 a1 p1) [(.int p1), (.ref a3)]) _
   refine XS.iconst X444.here hx rfl (hb hby d5_23) ?_
   show GO p e below T444 (mkF m 24 (la20 a1 p1) [(.int 1), (.int p1), (.ref a3)]) _
   refine XS.isub X444.here hx rfl (hb hby d5_24) rfl ?_
   show GO p e below T444 (mkF m 25 (la20 a1 p1) [(.int (p1 - (1 : Int32))), (.ref a3)]) _
   refine X444.iaload hx (j := (p1 - (1 : Int32))) (v := (.int eq)) (by rw [e444]; exact Ar445.1) (State.isArrayOf_alike hZ.alike Ar445.2.1) Ar445.2.2 hin445 hat445 (g := (mkF m 25 (la20 a1 p1) [(.int (p1 - (1 : Int32))), (.ref a3)])) rfl rfl (hb hby d5_25) _ ?_
   show GO p e below T444 (mkF m 26 (la20 a1 p1) [(.int eq)]) _
   refine XS.iconst X444.here hx rfl (hb hby d5_26) ?_
   show GO p e below T444 (mkF m 27 (la20 a1 p1) [(.int 1), (.int eq)]) _
   refine XS.iadd X444.here hx rfl (hb hby d5_27) rfl ?_
   rw [hsq]
   show GO p e below T444 (mkF m 28 (la20 a1 p1) [(.int o1)]) _
   refine XS.istoreN X444.here hx rfl (hb hby d5_28) rfl (l' := (la5 a1 p1 o1)) rfl ?_
   show GO p e below T444 (mkF m 29 (la5 a1 p1 o1) []) _
   refine st446 _ ?_
   show GO p e below T446 (mkF m 32 (la5 a1 p1 o1) [(.ref b446)]) _
   refine XS.dup X446.here hx rfl (hb hby d5_32) rfl rfl ?_
   show GO p e below T446 (mkF m 33 (la5 a1 p1 o1) [(.ref b446), (.ref b446)]) _
   refine XS.aloadN X446.here hx rfl (hb hby d5_33) rfl rfl ?_
   show GO p e below T446 (mkF m 34 (la5 a1 p1 o1) [(.ref a1), (.ref b446), (.ref b446)]) _
   refine st450 _ ?_
   show GO p e below T450 (mkF m 37 (la5 a1 p1 o1) [(.ref a2), (.ref b446), (.ref b446)]) _
   refine XS.iloadN X450.here hx rfl (hb hby d5_37) rfl ?_
   show GO p e below T450 (mkF m 38 (la5 a1 p1 o1) [(.int o1), (.ref a2), (.ref b446), (.ref b446)]) _
   refine XS.aloadN X450.here hx rfl (hb hby d5_38) rfl rfl ?_
   show GO p e below T450 (mkF m 39 (la5 a1 p1 o1) [(.ref a1), (.int o1), (.ref a2), (.ref b446), (.ref b446)]) _
   refine st452 _ ?_
   show GO p e below T452 (mkF m 42 (la5 a1 p1 o1) [(.ref a3), (.int o1), (.ref a2), (.ref b446), (.ref b446)]) _
   refine XS.iloadN X452.here hx rfl (hb hby d5_42) rfl ?_
   show GO p e below T452 (mkF m 43 (la5 a1 p1 o1) [(.int p1), (.ref a3), (.int o1), (.ref a2), (.ref b446), (.ref b446)]) _
   refine X452.iaload hx (j := p1) (v := (.int em)) (by rw [e452]; exact Ar454.1) (State.isArrayOf_alike hZ.alike Ar454.2.1) Ar454.2.2 hin454 hat454 (g := (mkF m 43 (la5 a1 p1 o1) [(.int p1), (.ref a3), (.int o1), (.ref a2), (.ref b446), (.ref b446)])) rfl rfl (hb hby d5_43) _ ?_
   show GO p e below T452 (mkF m 44 (la5 a1 p1 o1) [(.int em), (.int o1), (.ref a2), (.ref b446), (.ref b446)]) _
   refine XS.iloadN X452.here hx rfl (hb hby d5_44) rfl ?_
   show GO p e below T452 (mkF m 45 (la5 a1 p1 o1) [(.int o1), (.int em), (.int o1), (.ref a2), (.ref b446), (.ref b446)]) _
   refine XS.isub X452.here hx rfl (hb hby d5_45) rfl ?_
   rw [hlm]
   show GO p e below T452 (mkF m 46 (la5 a1 p1 o1) [(.int 1), (.int o1), (.ref a2), (.ref b446), (.ref b446)]) _
   refine st455.trans ?_
   show GO p e below T455 (mkF m 49 (la5 a1 p1 o1) [(.ref b446)]) _
   exact retOut X455 hx Bd.returns rfl (Or.inr (Or.inr (Or.inr (Or.inr ⟨rfl, rfl, rfl⟩)))) (hb hby d5_49) hr
  ·show Qrm_get_1L Z a1 p1 a3 k3 en0 en1 en2 z0 f0 a2 k2 vs2 o1 x0 h0 n0 _ T455.heap _
   rw [e455]
   exact ⟨b446, t_455, k_455, rfl, N455, (((Keep.refl h0 []).ext E446).trans K455 (allS (P := fun x => x ∈ _ ∨ _) (Or.inr (by omega)) all0)), p455_0, p455_1, p455_2, p455_3⟩
def Qrm_get_1A (Z : State) (a1 : Addr) (p1 : Int32) (a3 : Addr) (k3 : ClassId) (en0 : Int32) (en1 : Int32) (en2 : Int32) (z0 : Int32) (f0 : Value) (a2 : Addr) (k2 : ClassId) (vs2 : List Value) (o1 : Int32) (x0 : Int32) (h0 : Heap) (n0 : Nat) (v : Option Value) (h : Heap) (L : List Loc) : Prop := ∃ yy : Addr, ∃ t : Addr, ∃ k : ClassId, v = some (.ref yy) ∧ Fr n0 L ∧ Keep h0 h [] ∧ Exa Z h yy kS0 ∧ Fld Z h yy kS0 "coder" "B" (.int 1) ∧ Fld Z h yy kS0 "value" "[B" (.ref t) ∧ Arv Z h t k .byte (2 : Int32) [(.int ((x0 >>> ((0 : Int32) &&& 31)).toInt8.toInt32)), (.int ((x0 >>> ((8 : Int32) &&& 31)).toInt8.toInt32))] (.int 0)
theorem ef_rm_get_1A (m : MethodId) (x0 : Addr) (x1 : Int32) : entryFrame m #[(.ref x0), (.int x1)] 3 = mkF m 0 (la20 x0 x1) [] := by first | rfl | (simp [entryFrame, mkF, argsToLocals, Value.category]; done)
theorem rm_get_1A (l : Launch) (Z : State) (a0 : Array Value) (hw : HW Z a0) (ws : List Jvm.Cond) (a1 : Addr) (p1 : Int32) (a3 : Addr) (k3 : ClassId) (en0 : Int32) (en1 : Int32) (en2 : Int32) (z0 : Int32) (f0 : Value) (a2 : Addr) (k2 : ClassId) (vs2 : List Value) (o1 : Int32) (x0 : Int32) (h0 : Heap) (n0 : Nat) (Z0 : n0 ≤ h0.size) (O0 : Old Z n0 h0) (F1 : Fld Z h0 a1 kS2 "text" "[C" (.ref a2)) (F2 : Fld Z h0 a1 kS2 "ends" "[I" (.ref a3)) (V3 : Arv Z h0 a3 k3 .int (3 : Int32) [(.int en0), (.int en1), (.int en2)] (.int 0)) (V2 : Arv Z h0 a2 k2 .char (8 : Int32) vs2 (.int 0)) (SZf : Sta Z Z.heap kS3 "SIOOBE_FORMATTER" "Ljava/util/function/BiFunction;" f0) (rf0 : f0.isRef = true) (SZc : Sta Z Z.heap kS0 "COMPACT_STRINGS" "Z" (.int z0)) (hz0 : ¬ z0 = 0) (SZad : Sta Z Z.heap kS1 "$assertionsDisabled" "Z" (.int 1)) (SZhi : Sta Z Z.heap kS1 "HI_BYTE_SHIFT" "I" (.int 0)) (SZlo : Sta Z Z.heap kS1 "LO_BYTE_SHIFT" "I" (.int 8)) (hx0 : vs2.getD (o1).toNatClampNeg (.int 0) = (.int x0)) (lb0 : (¬ x0 < 0 ∧ ¬ (65535 : Int32) < x0)) (c0 : (255 : Int32) < x0) (P : OwnPl p1 o1 (1 : Int32) en0 en1 en2) :
  OwnM l Z h0 (⟨kS2, "get", "(I)Ljava/lang/String;"⟩ : MethodName) (Jvm.Cond.code (⟨kS2, "get", "(I)Ljava/lang/String;"⟩ : MethodName) prog_30_method_2_code 3 (some (.object kS0)) :: ws) (RM 6 3 7 90) #[(.ref a1), (.int p1)] (Qrm_get_1A Z a1 p1 a3 k3 en0 en1 en2 z0 f0 a2 k2 vs2 o1 x0 h0 n0) := by
 refine MetFree.of_bodySF (plainFor_of_name pn_7) hisR ?_
 intro p e s m args below meth c s₁ Bd hml0 hP hK
 obtain ⟨rfl, hZ, hh⟩ := hP
 have hx := Bd.exec
 have hby := Bd.bytes
 have hml : c.maxLocals = 3 := hml0
 have hown : s.vm.findClass kS2 = some m.cls := findClass_of_methodNamed Bd.named
 have hnm := (name_of_methodNamed Bd.named Bd.method).1
 have X0 : Stand p l e (RM 6 3 7 90) s m #[(.ref a1), (.int p1)] below meth c s₁ [] 0 0 := Stand.of_body Bd
 have e0 : s₁.heap = h0 := by rw [← hh, Bd.state]; rfl
 have N0 := Fr.nil n0
 have pre0 : ∀ t, GO p e below s₁ (mkF m 0 (la20 a1 p1) []) t → GO p e below s₁ (entryFrame m #[(.ref a1), (.int p1)] 3) t := fun t k => castTop (ef_rm_get_1A m a1 p1) k
 have lt_F1 := ltA F1.lt
 have lt_F2 := ltA F2.lt
 have lt_V3 := ltA V3.lt
 have lt_V2 := ltA V2.lt
 obtain ⟨ob0, ob1', -, hr1, hr2, hs0, hs1, em, hge, hlm, hib⟩ := id P
 obtain ⟨T460, X460, e460, st460⟩ := getF X0 hx hZ hown (host := "") (Or.inl (wd hw 27 rfl)) Via.refl e0 F2 (g := (mkF m 2 (la20 a1 p1) [(.ref a1), (.int p1)])) rfl rfl (hb hby d5_2)
 obtain ⟨cl461, Ar461, -, S461, M461, -, -⟩ := id V3
 -- pc 6: Objects.checkIndex by rm_oc
 obtain ⟨_, _, ⟨T462, L462, k462, n462⟩, -, X462, ⟨Lc462, hQ462, l462, y462, z462⟩, st462⟩ := Jvm.LawKit.callS X460 hx (y := (⟨"java/util/Objects", "checkIndex", "(II)I"⟩ : MethodName)) hown (mvT hZ (wd hw 36 rfl)) (mvT hZ (wd hw 37 rfl)) (mvT hZ (wd hw 38 rfl)) (mvT hZ (wd hw 39 rfl)) (by decide) (backOf (W := 0) (rm_oc l Z a0 hw [] p1 (3 : Int32) h0 n0 Z0 hib.1 hib.2) hZ (wd hw 39 rfl) (wd hw 38 rfl) (by decide) (by decide)) (g := (mkF m 6 (la20 a1 p1) [(.int 3), (.int p1)])) rfl (by rw [hml]; rfl) (argsL := [(.int p1), (.int 3)]) (rest := []) (lenOf pd_18 rfl) rfl (wz rfl) (hb hby d5_6) (fun _ _ => ⟨rfl, e460, (by decide : 0 + 0 ≤ _), (by decide : 0 + 0 ≤ _)⟩)
 dsimp only [Pt.U, Pt.locs, Pt.cells, Pt.slots] at X462 l462 y462 z462 st462 hQ462
 subst l462 y462 z462
 obtain ⟨rfl, N462q, e462⟩ := hQ462
 have N462 := Fr.app N0 N462q
 have pre463 : ∀ t, GO p e below T462 (mkF m 11 (la20 a1 p1) [(.int p1)]) t → GO p e below s₁ (entryFrame m #[(.ref a1), (.int p1)] 3) t := by
  intro t kt
  refine pre0 t ?_
  show GO p e below s₁ (mkF m 0 (la20 a1 p1) []) _
  refine XS.iloadN X0.here hx rfl (hb hby d5_0) rfl ?_
  show GO p e below s₁ (mkF m 1 (la20 a1 p1) [(.int p1)]) _
  refine XS.aloadN X0.here hx rfl (hb hby d5_1) rfl rfl ?_
  show GO p e below s₁ (mkF m 2 (la20 a1 p1) [(.ref a1), (.int p1)]) _
  refine st460 _ ?_
  show GO p e below T460 (mkF m 5 (la20 a1 p1) [(.ref a3), (.int p1)]) _
  refine X460.arraylength hx (by rw [e460]; exact Ar461.1) (State.isArrayOf_alike hZ.alike Ar461.2.1) (g := (mkF m 5 (la20 a1 p1) [(.ref a3), (.int p1)])) rfl rfl (hb hby d5_5) _ ?_
  rw [len_of S461 M461]
  show GO p e below T460 (mkF m 6 (la20 a1 p1) [(.int 3), (.int p1)]) _
  refine st462 _ ?_
  show GO p e below T462 (mkF m 9 (la20 a1 p1) [(.int p1)]) _
  refine XS.pop X462.here hx rfl (hb hby d5_9) rfl rfl ?_
  show GO p e below T462 (mkF m 10 (la20 a1 p1) []) _
  refine XS.iloadN X462.here hx rfl (hb hby d5_10) rfl ?_
  exact kt
 by_cases hb464 : p1 = (0 : Int32)
 ·have h0o := hs0 hb464
  subst h0o
  obtain ⟨T465, h465, X465, e465, E465, A465, D465, U465, st465⟩ := newO X462 hx hZ hown (wd hw 44 rfl) (wd hw 45 rfl) (wd hw 46 rfl) e462 (g := (mkF m 29 (la5 a1 p1 (0 : Int32)) [])) rfl (hb hby d5_29) (by decide) (by decide)
  obtain ⟨b465, g465⟩ : ∃ z, z = h0.size := ⟨_, rfl⟩
  rw [← g465] at A465 D465 U465 st465
  have sz465 : h0.size ≤ h465.size := E465.1
  have nz465 := Nat.le_trans Z0 sz465
  have lt465 := ltA A465.lt
  have f466 : Fld Z h465 b465 kS0 "value" "[B" .null := D465 (Or.inr (wd hw 67 rfl)) (ty := (.array .byte)) (by decide)
  have f467 : Fld Z h465 b465 kS0 "coder" "B" (.int 0) := D465 (Or.inr (wd hw 68 rfl)) (ty := .byte) (by decide)
  have f468 : Fld Z h465 a1 kS2 "text" "[C" (.ref a2) := (F1.ext E465)
  obtain ⟨T469, X469, e469, st469⟩ := getF X465 hx hZ hown (host := "") (Or.inl (wd hw 25 rfl)) Via.refl e465 f468 (g := (mkF m 34 (la5 a1 p1 (0 : Int32)) [(.ref a1), (.ref b465), (.ref b465)])) rfl rfl (hb hby d5_34)
  have f470 : Fld Z h465 a1 kS2 "ends" "[I" (.ref a3) := (F2.ext E465)
  obtain ⟨T471, X471, e471, st471⟩ := getF X469 hx hZ hown (host := "") (Or.inl (wd hw 27 rfl)) Via.refl e469 f470 (g := (mkF m 39 (la5 a1 p1 (0 : Int32)) [(.ref a1), (.int 0), (.ref a2), (.ref b465), (.ref b465)])) rfl rfl (hb hby d5_39)
  have f472 : Arv Z h465 a3 k3 .int (3 : Int32) [(.int en0), (.int en1), (.int en2)] (.int 0) := (V3.ext E465)
  obtain ⟨cl473, Ar473, q473, S473, M473, H473, G473⟩ := id f472
  have hin473 : ¬ (p1 < 0 ∨ cl473.slots.size ≤ (p1).toNatClampNeg) := inb_of S473 hib
  have hat473 : cl473.slots[(p1).toNatClampNeg]? = some (.int em) := Has.at H473 hin473 hge
  -- pc 46: String.<init> by rm_s3_1A
  have f475 : Old Z n0 h465 := (O0.ext E465)
  have f476 : Arv Z h465 a2 k2 .char (8 : Int32) vs2 (.int 0) := (V2.ext E465)
  obtain ⟨_, _, ⟨T474, L474, k474, n474⟩, -, X474, ⟨Lc474, hQ474, l474, y474, z474⟩, st474⟩ := X471.specialBack hx (y := (⟨kS0, "<init>", "([CII)V"⟩ : MethodName)) rfl hown (mvT hZ (wd hw 47 rfl)) (mvT hZ (wd hw 48 rfl)) (mvT hZ (wd hw 49 rfl)) (by decide) (backOf (W := 1) (rm_s3_1A l Z a0 hw [] b465 .null (.int 0) a2 k2 vs2 (0 : Int32) x0 z0 f0 h465 n0 nz465 f475 A465 f466 f467 f476 SZc hz0 SZf rf0 hr1 hr2 SZad SZhi SZlo ob0 hx0 lb0 c0 (by first | assumption | decide | omega)) hZ (wd hw 49 rfl) (wd hw 46 rfl) (by decide) (by decide)) (g := (mkF m 46 (la5 a1 p1 (0 : Int32)) [(.int 1), (.int 0), (.ref a2), (.ref b465), (.ref b465)])) rfl (by rw [hml]; rfl) (Steps.refl _) (a := b465) (argsL := [(.ref a2), (.int 0), (.int 1)]) (rest := [(.ref b465)]) (lenOf pd_19 rfl) rfl (wz rfl) (hb hby d5_46) (fun _ _ => ⟨rfl, e471, (by decide : 1 + 2 ≤ _), (by decide : 4 + 3 ≤ _)⟩)
  dsimp only [Pt.U, Pt.locs, Pt.cells, Pt.slots] at X474 l474 y474 z474 st474 hQ474
  subst l474 y474 z474
  obtain ⟨h474, e474⟩ : ∃ z, T474.heap = z := ⟨_, rfl⟩
  rw [e474] at hQ474
  obtain ⟨t_474, k_474, rfl, N474q, K474, p474_0, p474_1, p474_2, p474_3, r474_0⟩ := hQ474
  have N474 := Fr.app N462 N474q
  have ne477 : b465 ≠ a3 := Exa.neArv A465 f472 (wd hw 45 rfl)
  have ne478 : b465 ≠ a2 := Exa.neArv A465 f476 (wd hw 45 rfl)
  have sz474 : h465.size ≤ h474.size := K474.1
  have nz474 := Nat.le_trans nz465 sz474
  have lt474_0 := ltA p474_0.lt
  have lt474_3 := ltA p474_3.lt
  obtain ⟨fs, hr, hrun, hended, hW, hsame⟩ := X474.leave (v := some (.ref b465)) (fun h => by rw [Bd.returns] at h; cases h)
  refine ⟨_, _, pre463 _ ?_, hrun, hended, _, _, rfl, ?_, ⟨_, rfl⟩, hW, hsame.mono (by decide) (by decide)⟩
  ·show GO p e below T462 (mkF m 11 (la20 a1 p1) [(.int p1)]) _
   refine XS.ifNo X462.here hx rfl (hb hby d5_11) rfl ((if0 _ _).trans (teq (hb464 : p1 = (0 : Int32))).2) ?_
   show GO p e below T462 (mkF m 14 (la20 a1 p1) []) _
   refine XS.iconst X462.here hx rfl (hb hby d5_14) ?_
   show GO p e below T462 (mkF m 15 (la20 a1 p1) [(.int 0)]) _
   refine XS.goto X462.here hx rfl (pc0 := 15) (pc' := 28) rfl (hb hby d5_15) (by decide) (by decide) ?_
   show GO p e below T462 (mkF m 28 (la20 a1 p1) [(.int 0)]) _
   refine XS.istoreN X462.here hx rfl (hb hby d5_28) rfl (l' := (la5 a1 p1 (0 : Int32))) rfl ?_
   show GO p e below T462 (mkF m 29 (la5 a1 p1 (0 : Int32)) []) _
   refine st465 _ ?_
   show GO p e below T465 (mkF m 32 (la5 a1 p1 (0 : Int32)) [(.ref b465)]) _
   refine XS.dup X465.here hx rfl (hb hby d5_32) rfl rfl ?_
   show GO p e below T465 (mkF m 33 (la5 a1 p1 (0 : Int32)) [(.ref b465), (.ref b465)]) _
   refine XS.aloadN X465.here hx rfl (hb hby d5_33) rfl rfl ?_
   show GO p e below T465 (mkF m 34 (la5 a1 p1 (0 : Int32)) [(.ref a1), (.ref b465), (.ref b465)]) _
   refine st469 _ ?_
   show GO p e below T469 (mkF m 37 (la5 a1 p1 (0 : Int32)) [(.ref a2), (.ref b465), (.ref b465)]) _
   refine XS.iloadN X469.here hx rfl (hb hby d5_37) rfl ?_
   show GO p e below T469 (mkF m 38 (la5 a1 p1 (0 : Int32)) [(.int 0), (.ref a2), (.ref b465), (.ref b465)]) _
   refine XS.aloadN X469.here hx rfl (hb hby d5_38) rfl rfl ?_
   show GO p e below T469 (mkF m 39 (la5 a1 p1 (0 : Int32)) [(.ref a1), (.int 0), (.ref a2), (.ref b465), (.ref b465)]) _
   refine st471 _ ?_
   show GO p e below T471 (mkF m 42 (la5 a1 p1 (0 : Int32)) [(.ref a3), (.int 0), (.ref a2), (.ref b465), (.ref b465)]) _
   refine XS.iloadN X471.here hx rfl (hb hby d5_42) rfl ?_
   show GO p e below T471 (mkF m 43 (la5 a1 p1 (0 : Int32)) [(.int p1), (.ref a3), (.int 0), (.ref a2), (.ref b465), (.ref b465)]) _
   refine X471.iaload hx (j := p1) (v := (.int em)) (by rw [e471]; exact Ar473.1) (State.isArrayOf_alike hZ.alike Ar473.2.1) Ar473.2.2 hin473 hat473 (g := (mkF m 43 (la5 a1 p1 (0 : Int32)) [(.int p1), (.ref a3), (.int 0), (.ref a2), (.ref b465), (.ref b465)])) rfl rfl (hb hby d5_43) _ ?_
   show GO p e below T471 (mkF m 44 (la5 a1 p1 (0 : Int32)) [(.int em), (.int 0), (.ref a2), (.ref b465), (.ref b465)]) _
   refine XS.iloadN X471.here hx rfl (hb hby d5_44) rfl ?_
   show GO p e below T471 (mkF m 45 (la5 a1 p1 (0 : Int32)) [(.int 0), (.int em), (.int 0), (.ref a2), (.ref b465), (.ref b465)]) _
   refine XS.isub X471.here hx rfl (hb hby d5_45) rfl ?_
   rw [hlm]
   show GO p e below T471 (mkF m 46 (la5 a1 p1 (0 : Int32)) [(.int 1), (.int 0), (.ref a2), (.ref b465), (.ref b465)]) _
   refine st474.trans ?_
   show GO p e below T474 (mkF m 49 (la5 a1 p1 (0 : Int32)) [(.ref b465)]) _
   exact retOut X474 hx Bd.returns rfl (Or.inr (Or.inr (Or.inr (Or.inr ⟨rfl, rfl, rfl⟩)))) (hb hby d5_49) hr
  ·show Qrm_get_1A Z a1 p1 a3 k3 en0 en1 en2 z0 f0 a2 k2 vs2 (0 : Int32) x0 h0 n0 _ T474.heap _
   rw [e474]
   exact ⟨b465, t_474, k_474, rfl, N474, (((Keep.refl h0 []).ext E465).trans K474 (allS (P := fun x => x ∈ _ ∨ _) (Or.inr (by omega)) all0)), p474_0, p474_1, p474_2, p474_3⟩
 ·obtain ⟨eq, hgq, hsq, hiq⟩ := hs1 hb464
  obtain ⟨T479, X479, e479, st479⟩ := getF X462 hx hZ hown (host := "") (Or.inl (wd hw 27 rfl)) Via.refl e462 F2 (g := (mkF m 19 (la20 a1 p1) [(.ref a1)])) rfl rfl (hb hby d5_19)
  obtain ⟨cl480, Ar480, q480, S480, M480, H480, G480⟩ := id V3
  have hin480 : ¬ ((p1 - (1 : Int32)) < 0 ∨ cl480.slots.size ≤ ((p1 - (1 : Int32))).toNatClampNeg) := inb_of S480 hiq
  have hat480 : cl480.slots[((p1 - (1 : Int32))).toNatClampNeg]? = some (.int eq) := Has.at H480 hin480 hgq
  obtain ⟨T481, h481, X481, e481, E481, A481, D481, U481, st481⟩ := newO X479 hx hZ hown (wd hw 44 rfl) (wd hw 45 rfl) (wd hw 46 rfl) e479 (g := (mkF m 29 (la5 a1 p1 o1) [])) rfl (hb hby d5_29) (by decide) (by decide)
  obtain ⟨b481, g481⟩ : ∃ z, z = h0.size := ⟨_, rfl⟩
  rw [← g481] at A481 D481 U481 st481
  have sz481 : h0.size ≤ h481.size := E481.1
  have nz481 := Nat.le_trans Z0 sz481
  have lt481 := ltA A481.lt
  have f482 : Fld Z h481 b481 kS0 "value" "[B" .null := D481 (Or.inr (wd hw 67 rfl)) (ty := (.array .byte)) (by decide)
  have f483 : Fld Z h481 b481 kS0 "coder" "B" (.int 0) := D481 (Or.inr (wd hw 68 rfl)) (ty := .byte) (by decide)
  have f484 : Fld Z h481 a1 kS2 "text" "[C" (.ref a2) := (F1.ext E481)
  obtain ⟨T485, X485, e485, st485⟩ := getF X481 hx hZ hown (host := "") (Or.inl (wd hw 25 rfl)) Via.refl e481 f484 (g := (mkF m 34 (la5 a1 p1 o1) [(.ref a1), (.ref b481), (.ref b481)])) rfl rfl (hb hby d5_34)
  have f486 : Fld Z h481 a1 kS2 "ends" "[I" (.ref a3) := (F2.ext E481)
  obtain ⟨T487, X487, e487, st487⟩ := getF X485 hx hZ hown (host := "") (Or.inl (wd hw 27 rfl)) Via.refl e485 f486 (g := (mkF m 39 (la5 a1 p1 o1) [(.ref a1), (.int o1), (.ref a2), (.ref b481), (.ref b481)])) rfl rfl (hb hby d5_39)
  have f488 : Arv Z h481 a3 k3 .int (3 : Int32) [(.int en0), (.int en1), (.int en2)] (.int 0) := (V3.ext E481)
  obtain ⟨cl489, Ar489, q489, S489, M489, H489, G489⟩ := id f488
  have hin489 : ¬ (p1 < 0 ∨ cl489.slots.size ≤ (p1).toNatClampNeg) := inb_of S489 hib
  have hat489 : cl489.slots[(p1).toNatClampNeg]? = some (.int em) := Has.at H489 hin489 hge
  -- pc 46: String.<init> by rm_s3_1A
  have f491 : Old Z n0 h481 := (O0.ext E481)
  have f492 : Arv Z h481 a2 k2 .char (8 : Int32) vs2 (.int 0) := (V2.ext E481)
  obtain ⟨_, _, ⟨T490, L490, k490, n490⟩, -, X490, ⟨Lc490, hQ490, l490, y490, z490⟩, st490⟩ := X487.specialBack hx (y := (⟨kS0, "<init>", "([CII)V"⟩ : MethodName)) rfl hown (mvT hZ (wd hw 47 rfl)) (mvT hZ (wd hw 48 rfl)) (mvT hZ (wd hw 49 rfl)) (by decide) (backOf (W := 1) (rm_s3_1A l Z a0 hw [] b481 .null (.int 0) a2 k2 vs2 o1 x0 z0 f0 h481 n0 nz481 f491 A481 f482 f483 f492 SZc hz0 SZf rf0 hr1 hr2 SZad SZhi SZlo ob0 hx0 lb0 c0 (by first | assumption | decide | omega)) hZ (wd hw 49 rfl) (wd hw 46 rfl) (by decide) (by decide)) (g := (mkF m 46 (la5 a1 p1 o1) [(.int 1), (.int o1), (.ref a2), (.ref b481), (.ref b481)])) rfl (by rw [hml]; rfl) (Steps.refl _) (a := b481) (argsL := [(.ref a2), (.int o1), (.int 1)]) (rest := [(.ref b481)]) (lenOf pd_19 rfl) rfl (wz rfl) (hb hby d5_46) (fun _ _ => ⟨rfl, e487, (by decide : 1 + 2 ≤ _), (by decide : 4 + 3 ≤ _)⟩)
  dsimp only [Pt.U, Pt.locs, Pt.cells, Pt.slots] at X490 l490 y490 z490 st490 hQ490
  subst l490 y490 z490
  obtain ⟨h490, e490⟩ : ∃ z, T490.heap = z := ⟨_, rfl⟩
  rw [e490] at hQ490
  obtain ⟨t_490, k_490, rfl, N490q, K490, p490_0, p490_1, p490_2, p490_3, r490_0⟩ := hQ490
  have N490 := Fr.app N462 N490q
  have ne493 : b481 ≠ a3 := Exa.neArv A481 f488 (wd hw 45 rfl)
  have ne494 : b481 ≠ a2 := Exa.neArv A481 f492 (wd hw 45 rfl)
  have sz490 : h481.size ≤ h490.size := K490.1
  have nz490 := Nat.le_trans nz481 sz490
  have lt490_0 := ltA p490_0.lt
  have lt490_3 := ltA p490_3.lt
  obtain ⟨fs, hr, hrun, hended, hW, hsame⟩ := X490.leave (v := some (.ref b481)) (fun h => by rw [Bd.returns] at h; cases h)
  refine ⟨_, _, pre463 _ ?_, hrun, hended, _, _, rfl, ?_, ⟨_, rfl⟩, hW, hsame.mono (by decide) (by decide)⟩
  ·show GO p e below T462 (mkF m 11 (la20 a1 p1) [(.int p1)]) _
   refine XS.ifYes X462.here hx rfl (pc0 := 11) (pc' := 18) rfl (hb hby d5_11) rfl ((if0 _ _).trans (feq (hb464 : ¬ (p1 = (0 : Int32)))).2) (by decide) (by decide) ?_
   show GO p e below T462 (mkF m 18 (la20 a1 p1) []) _
   refine XS.aloadN X462.here hx rfl (hb hby d5_18) rfl rfl ?_
   show GO p e below T462 (mkF m 19 (la20 a1 p1) [(.ref a1)]) _
   refine st479 _ ?_
   show GO p e below T479 (mkF m 22 (la20 a1 p1) [(.ref a3)]) _
   refine XS.iloadN X479.here hx rfl (hb hby d5_22) rfl ?_
   show GO p e below T479 (mkF m 23 (la20 a1 p1) [(.int p1), (.ref a3)]) _
   refine XS.iconst X479.here hx rfl (hb hby d5_23) ?_
   show GO p e below T479 (mkF m 24 (la20 a1 p1) [(.int 1), (.int p1), (.ref a3)]) _
   refine XS.isub X479.here hx rfl (hb hby d5_24) rfl ?_
   show GO p e below T479 (mkF m 25 (la20 a1 p1) [(.int (p1 - (1 : Int32))), (.ref a3)]) _
   refine X479.iaload hx (j := (p1 - (1 : Int32))) (v := (.int eq)) (by rw [e479]; exact Ar480.1) (State.isArrayOf_alike hZ.alike Ar480.2.1) Ar480.2.2 hin480 hat480 (g := (mkF m 25 (la20 a1 p1) [(.int (p1 - (1 : Int32))), (.ref a3)])) rfl rfl (hb hby d5_25) _ ?_
   show GO p e below T479 (mkF m 26 (la20 a1 p1) [(.int eq)]) _
   refine XS.iconst X479.here hx rfl (hb hby d5_26) ?_
   show GO p e below T479 (mkF m 27 (la20 a1 p1) [(.int 1), (.int eq)]) _
   refine XS.iadd X479.here hx rfl (hb hby d5_27) rfl ?_
   rw [hsq]
   show GO p e below T479 (mkF m 28 (la20 a1 p1) [(.int o1)]) _
   refine XS.istoreN X479.here hx rfl (hb hby d5_28) rfl (l' := (la5 a1 p1 o1)) rfl ?_
   show GO p e below T479 (mkF m 29 (la5 a1 p1 o1) []) _
   refine st481 _ ?_
   show GO p e below T481 (mkF m 32 (la5 a1 p1 o1) [(.ref b481)]) _
   refine XS.dup X481.here hx rfl (hb hby d5_32) rfl rfl ?_
   show GO p e below T481 (mkF m 33 (la5 a1 p1 o1) [(.ref b481), (.ref b481)]) _
   refine XS.aloadN X481.here hx rfl (hb hby d5_33) rfl rfl ?_
   show GO p e below T481 (mkF m 34 (la5 a1 p1 o1) [(.ref a1), (.ref b481), (.ref b481)]) _
   refine st485 _ ?_
   show GO p e below T485 (mkF m 37 (la5 a1 p1 o1) [(.ref a2), (.ref b481), (.ref b481)]) _
   refine XS.iloadN X485.here hx rfl (hb hby d5_37) rfl ?_
   show GO p e below T485 (mkF m 38 (la5 a1 p1 o1) [(.int o1), (.ref a2), (.ref b481), (.ref b481)]) _
   refine XS.aloadN X485.here hx rfl (hb hby d5_38) rfl rfl ?_
   show GO p e below T485 (mkF m 39 (la5 a1 p1 o1) [(.ref a1), (.int o1), (.ref a2), (.ref b481), (.ref b481)]) _
   refine st487 _ ?_
   show GO p e below T487 (mkF m 42 (la5 a1 p1 o1) [(.ref a3), (.int o1), (.ref a2), (.ref b481), (.ref b481)]) _
   refine XS.iloadN X487.here hx rfl (hb hby d5_42) rfl ?_
   show GO p e below T487 (mkF m 43 (la5 a1 p1 o1) [(.int p1), (.ref a3), (.int o1), (.ref a2), (.ref b481), (.ref b481)]) _
   refine X487.iaload hx (j := p1) (v := (.int em)) (by rw [e487]; exact Ar489.1) (State.isArrayOf_alike hZ.alike Ar489.2.1) Ar489.2.2 hin489 hat489 (g := (mkF m 43 (la5 a1 p1 o1) [(.int p1), (.ref a3), (.int o1), (.ref a2), (.ref b481), (.ref b481)])) rfl rfl (hb hby d5_43) _ ?_
   show GO p e below T487 (mkF m 44 (la5 a1 p1 o1) [(.int em), (.int o1), (.ref a2), (.ref b481), (.ref b481)]) _
   refine XS.iloadN X487.here hx rfl (hb hby d5_44) rfl ?_
   show GO p e below T487 (mkF m 45 (la5 a1 p1 o1) [(.int o1), (.int em), (.int o1), (.ref a2), (.ref b481), (.ref b481)]) _
   refine XS.isub X487.here hx rfl (hb hby d5_45) rfl ?_
   rw [hlm]
   show GO p e below T487 (mkF m 46 (la5 a1 p1 o1) [(.int 1), (.int o1), (.ref a2), (.ref b481), (.ref b481)]) _
   refine st490.trans ?_
   show GO p e below T490 (mkF m 49 (la5 a1 p1 o1) [(.ref b481)]) _
   exact retOut X490 hx Bd.returns rfl (Or.inr (Or.inr (Or.inr (Or.inr ⟨rfl, rfl, rfl⟩)))) (hb hby d5_49) hr
  ·show Qrm_get_1A Z a1 p1 a3 k3 en0 en1 en2 z0 f0 a2 k2 vs2 o1 x0 h0 n0 _ T490.heap _
   rw [e490]
   exact ⟨b481, t_490, k_490, rfl, N490, (((Keep.refl h0 []).ext E481).trans K490 (allS (P := fun x => x ∈ _ ∨ _) (Or.inr (by omega)) all0)), p490_0, p490_1, p490_2, p490_3⟩
def Qrm_get_2L (Z : State) (a1 : Addr) (p1 : Int32) (a3 : Addr) (k3 : ClassId) (en0 : Int32) (en1 : Int32) (en2 : Int32) (z0 : Int32) (f0 : Value) (a2 : Addr) (k2 : ClassId) (vs2 : List Value) (o1 : Int32) (x0 : Int32) (x1 : Int32) (h0 : Heap) (n0 : Nat) (v : Option Value) (h : Heap) (L : List Loc) : Prop := ∃ yy : Addr, ∃ t : Addr, ∃ k : ClassId, v = some (.ref yy) ∧ Fr n0 L ∧ Keep h0 h [] ∧ Exa Z h yy kS0 ∧ Fld Z h yy kS0 "coder" "B" (.int 0) ∧ Fld Z h yy kS0 "value" "[B" (.ref t) ∧ Arv Z h t k .byte (2 : Int32) [(.int (x0.toInt8.toInt32)), (.int (x1.toInt8.toInt32))] (.int 0)
theorem ef_rm_get_2L (m : MethodId) (x0 : Addr) (x1 : Int32) : entryFrame m #[(.ref x0), (.int x1)] 3 = mkF m 0 (la20 x0 x1) [] := by first | rfl | (simp [entryFrame, mkF, argsToLocals, Value.category]; done)
theorem rm_get_2L (l : Launch) (Z : State) (a0 : Array Value) (hw : HW Z a0) (ws : List Jvm.Cond) (a1 : Addr) (p1 : Int32) (a3 : Addr) (k3 : ClassId) (en0 : Int32) (en1 : Int32) (en2 : Int32) (z0 : Int32) (f0 : Value) (a2 : Addr) (k2 : ClassId) (vs2 : List Value) (o1 : Int32) (x0 : Int32) (x1 : Int32) (h0 : Heap) (n0 : Nat) (Z0 : n0 ≤ h0.size) (O0 : Old Z n0 h0) (F1 : Fld Z h0 a1 kS2 "text" "[C" (.ref a2)) (F2 : Fld Z h0 a1 kS2 "ends" "[I" (.ref a3)) (V3 : Arv Z h0 a3 k3 .int (3 : Int32) [(.int en0), (.int en1), (.int en2)] (.int 0)) (V2 : Arv Z h0 a2 k2 .char (8 : Int32) vs2 (.int 0)) (SZf : Sta Z Z.heap kS3 "SIOOBE_FORMATTER" "Ljava/util/function/BiFunction;" f0) (rf0 : f0.isRef = true) (SZc : Sta Z Z.heap kS0 "COMPACT_STRINGS" "Z" (.int z0)) (hz0 : ¬ z0 = 0) (SZad : Sta Z Z.heap kS1 "$assertionsDisabled" "Z" (.int 1)) (SZhi : Sta Z Z.heap kS1 "HI_BYTE_SHIFT" "I" (.int 0)) (SZlo : Sta Z Z.heap kS1 "LO_BYTE_SHIFT" "I" (.int 8)) (hx0 : vs2.getD (o1).toNatClampNeg (.int 0) = (.int x0)) (lb0 : (¬ x0 < 0 ∧ ¬ (65535 : Int32) < x0)) (hx1 : vs2.getD ((o1 + (1 : Int32))).toNatClampNeg (.int 0) = (.int x1)) (lb1 : (¬ x1 < 0 ∧ ¬ (65535 : Int32) < x1)) (c0 : ¬ ((255 : Int32) < x0)) (c1 : ¬ ((255 : Int32) < x1)) (P : OwnPl p1 o1 (2 : Int32) en0 en1 en2) :
  OwnM l Z h0 (⟨kS2, "get", "(I)Ljava/lang/String;"⟩ : MethodName) (Jvm.Cond.code (⟨kS2, "get", "(I)Ljava/lang/String;"⟩ : MethodName) prog_30_method_2_code 3 (some (.object kS0)) :: ws) (RM 4 2 6 68) #[(.ref a1), (.int p1)] (Qrm_get_2L Z a1 p1 a3 k3 en0 en1 en2 z0 f0 a2 k2 vs2 o1 x0 x1 h0 n0) := by
 refine MetFree.of_bodySF (plainFor_of_name pn_7) hisR ?_
 intro p e s m args below meth c s₁ Bd hml0 hP hK
 obtain ⟨rfl, hZ, hh⟩ := hP
 have hx := Bd.exec
 have hby := Bd.bytes
 have hml : c.maxLocals = 3 := hml0
 have hown : s.vm.findClass kS2 = some m.cls := findClass_of_methodNamed Bd.named
 have hnm := (name_of_methodNamed Bd.named Bd.method).1
 have X0 : Stand p l e (RM 4 2 6 68) s m #[(.ref a1), (.int p1)] below meth c s₁ [] 0 0 := Stand.of_body Bd
 have e0 : s₁.heap = h0 := by rw [← hh, Bd.state]; rfl
 have N0 := Fr.nil n0
 have pre0 : ∀ t, GO p e below s₁ (mkF m 0 (la20 a1 p1) []) t → GO p e below s₁ (entryFrame m #[(.ref a1), (.int p1)] 3) t := fun t k => castTop (ef_rm_get_2L m a1 p1) k
 have lt_F1 := ltA F1.lt
 have lt_F2 := ltA F2.lt
 have lt_V3 := ltA V3.lt
 have lt_V2 := ltA V2.lt
 obtain ⟨ob0, ob1', -, hr1, hr2, hs0, hs1, em, hge, hlm, hib⟩ := id P
 have ob1 := ob1' rfl
 obtain ⟨T495, X495, e495, st495⟩ := getF X0 hx hZ hown (host := "") (Or.inl (wd hw 27 rfl)) Via.refl e0 F2 (g := (mkF m 2 (la20 a1 p1) [(.ref a1), (.int p1)])) rfl rfl (hb hby d5_2)
 obtain ⟨cl496, Ar496, -, S496, M496, -, -⟩ := id V3
 -- pc 6: Objects.checkIndex by rm_oc
 obtain ⟨_, _, ⟨T497, L497, k497, n497⟩, -, X497, ⟨Lc497, hQ497, l497, y497, z497⟩, st497⟩ := Jvm.LawKit.callS X495 hx (y := (⟨"java/util/Objects", "checkIndex", "(II)I"⟩ : MethodName)) hown (mvT hZ (wd hw 36 rfl)) (mvT hZ (wd hw 37 rfl)) (mvT hZ (wd hw 38 rfl)) (mvT hZ (wd hw 39 rfl)) (by decide) (backOf (W := 0) (rm_oc l Z a0 hw [] p1 (3 : Int32) h0 n0 Z0 hib.1 hib.2) hZ (wd hw 39 rfl) (wd hw 38 rfl) (by decide) (by decide)) (g := (mkF m 6 (la20 a1 p1) [(.int 3), (.int p1)])) rfl (by rw [hml]; rfl) (argsL := [(.int p1), (.int 3)]) (rest := []) (lenOf pd_18 rfl) rfl (wz rfl) (hb hby d5_6) (fun _ _ => ⟨rfl, e495, (by decide : 0 + 0 ≤ _), (by decide : 0 + 0 ≤ _)⟩)
 dsimp only [Pt.U, Pt.locs, Pt.cells, Pt.slots] at X497 l497 y497 z497 st497 hQ497
 subst l497 y497 z497
 obtain ⟨rfl, N497q, e497⟩ := hQ497
 have N497 := Fr.app N0 N497q
 have pre498 : ∀ t, GO p e below T497 (mkF m 11 (la20 a1 p1) [(.int p1)]) t → GO p e below s₁ (entryFrame m #[(.ref a1), (.int p1)] 3) t := by
  intro t kt
  refine pre0 t ?_
  show GO p e below s₁ (mkF m 0 (la20 a1 p1) []) _
  refine XS.iloadN X0.here hx rfl (hb hby d5_0) rfl ?_
  show GO p e below s₁ (mkF m 1 (la20 a1 p1) [(.int p1)]) _
  refine XS.aloadN X0.here hx rfl (hb hby d5_1) rfl rfl ?_
  show GO p e below s₁ (mkF m 2 (la20 a1 p1) [(.ref a1), (.int p1)]) _
  refine st495 _ ?_
  show GO p e below T495 (mkF m 5 (la20 a1 p1) [(.ref a3), (.int p1)]) _
  refine X495.arraylength hx (by rw [e495]; exact Ar496.1) (State.isArrayOf_alike hZ.alike Ar496.2.1) (g := (mkF m 5 (la20 a1 p1) [(.ref a3), (.int p1)])) rfl rfl (hb hby d5_5) _ ?_
  rw [len_of S496 M496]
  show GO p e below T495 (mkF m 6 (la20 a1 p1) [(.int 3), (.int p1)]) _
  refine st497 _ ?_
  show GO p e below T497 (mkF m 9 (la20 a1 p1) [(.int p1)]) _
  refine XS.pop X497.here hx rfl (hb hby d5_9) rfl rfl ?_
  show GO p e below T497 (mkF m 10 (la20 a1 p1) []) _
  refine XS.iloadN X497.here hx rfl (hb hby d5_10) rfl ?_
  exact kt
 by_cases hb499 : p1 = (0 : Int32)
 ·have h0o := hs0 hb499
  subst h0o
  obtain ⟨T500, h500, X500, e500, E500, A500, D500, U500, st500⟩ := newO X497 hx hZ hown (wd hw 44 rfl) (wd hw 45 rfl) (wd hw 46 rfl) e497 (g := (mkF m 29 (la5 a1 p1 (0 : Int32)) [])) rfl (hb hby d5_29) (by decide) (by decide)
  obtain ⟨b500, g500⟩ : ∃ z, z = h0.size := ⟨_, rfl⟩
  rw [← g500] at A500 D500 U500 st500
  have sz500 : h0.size ≤ h500.size := E500.1
  have nz500 := Nat.le_trans Z0 sz500
  have lt500 := ltA A500.lt
  have f501 : Fld Z h500 b500 kS0 "value" "[B" .null := D500 (Or.inr (wd hw 67 rfl)) (ty := (.array .byte)) (by decide)
  have f502 : Fld Z h500 b500 kS0 "coder" "B" (.int 0) := D500 (Or.inr (wd hw 68 rfl)) (ty := .byte) (by decide)
  have f503 : Fld Z h500 a1 kS2 "text" "[C" (.ref a2) := (F1.ext E500)
  obtain ⟨T504, X504, e504, st504⟩ := getF X500 hx hZ hown (host := "") (Or.inl (wd hw 25 rfl)) Via.refl e500 f503 (g := (mkF m 34 (la5 a1 p1 (0 : Int32)) [(.ref a1), (.ref b500), (.ref b500)])) rfl rfl (hb hby d5_34)
  have f505 : Fld Z h500 a1 kS2 "ends" "[I" (.ref a3) := (F2.ext E500)
  obtain ⟨T506, X506, e506, st506⟩ := getF X504 hx hZ hown (host := "") (Or.inl (wd hw 27 rfl)) Via.refl e504 f505 (g := (mkF m 39 (la5 a1 p1 (0 : Int32)) [(.ref a1), (.int 0), (.ref a2), (.ref b500), (.ref b500)])) rfl rfl (hb hby d5_39)
  have f507 : Arv Z h500 a3 k3 .int (3 : Int32) [(.int en0), (.int en1), (.int en2)] (.int 0) := (V3.ext E500)
  obtain ⟨cl508, Ar508, q508, S508, M508, H508, G508⟩ := id f507
  have hin508 : ¬ (p1 < 0 ∨ cl508.slots.size ≤ (p1).toNatClampNeg) := inb_of S508 hib
  have hat508 : cl508.slots[(p1).toNatClampNeg]? = some (.int em) := Has.at H508 hin508 hge
  -- pc 46: String.<init> by rm_s3_2L
  have f510 : Old Z n0 h500 := (O0.ext E500)
  have f511 : Arv Z h500 a2 k2 .char (8 : Int32) vs2 (.int 0) := (V2.ext E500)
  obtain ⟨_, _, ⟨T509, L509, k509, n509⟩, -, X509, ⟨Lc509, hQ509, l509, y509, z509⟩, st509⟩ := X506.specialBack hx (y := (⟨kS0, "<init>", "([CII)V"⟩ : MethodName)) rfl hown (mvT hZ (wd hw 47 rfl)) (mvT hZ (wd hw 48 rfl)) (mvT hZ (wd hw 49 rfl)) (by decide) (backOf (W := 1) (rm_s3_2L l Z a0 hw [] b500 .null (.int 0) a2 k2 vs2 (0 : Int32) x0 x1 z0 f0 h500 n0 nz500 f510 A500 f501 f502 f511 SZc hz0 SZf rf0 hr1 hr2 SZad SZhi SZlo ob0 hx0 lb0 ob1 hx1 lb1 c0 c1 (by first | assumption | decide | omega)) hZ (wd hw 49 rfl) (wd hw 46 rfl) (by decide) (by decide)) (g := (mkF m 46 (la5 a1 p1 (0 : Int32)) [(.int 2), (.int 0), (.ref a2), (.ref b500), (.ref b500)])) rfl (by rw [hml]; rfl) (Steps.refl _) (a := b500) (argsL := [(.ref a2), (.int 0), (.int 2)]) (rest := [(.ref b500)]) (lenOf pd_19 rfl) rfl (wz rfl) (hb hby d5_46) (fun _ _ => ⟨rfl, e506, (by decide : 1 + 1 ≤ _), (by decide : 4 + 2 ≤ _)⟩)
  dsimp only [Pt.U, Pt.locs, Pt.cells, Pt.slots] at X509 l509 y509 z509 st509 hQ509
  subst l509 y509 z509
  obtain ⟨h509, e509⟩ : ∃ z, T509.heap = z := ⟨_, rfl⟩
  rw [e509] at hQ509
  obtain ⟨t_509, k_509, rfl, N509q, K509, p509_0, p509_1, p509_2, p509_3, r509_0⟩ := hQ509
  have N509 := Fr.app N497 N509q
  have ne512 : b500 ≠ a3 := Exa.neArv A500 f507 (wd hw 45 rfl)
  have ne513 : b500 ≠ a2 := Exa.neArv A500 f511 (wd hw 45 rfl)
  have sz509 : h500.size ≤ h509.size := K509.1
  have nz509 := Nat.le_trans nz500 sz509
  have lt509_0 := ltA p509_0.lt
  have lt509_3 := ltA p509_3.lt
  obtain ⟨fs, hr, hrun, hended, hW, hsame⟩ := X509.leave (v := some (.ref b500)) (fun h => by rw [Bd.returns] at h; cases h)
  refine ⟨_, _, pre498 _ ?_, hrun, hended, _, _, rfl, ?_, ⟨_, rfl⟩, hW, hsame.mono (by decide) (by decide)⟩
  ·show GO p e below T497 (mkF m 11 (la20 a1 p1) [(.int p1)]) _
   refine XS.ifNo X497.here hx rfl (hb hby d5_11) rfl ((if0 _ _).trans (teq (hb499 : p1 = (0 : Int32))).2) ?_
   show GO p e below T497 (mkF m 14 (la20 a1 p1) []) _
   refine XS.iconst X497.here hx rfl (hb hby d5_14) ?_
   show GO p e below T497 (mkF m 15 (la20 a1 p1) [(.int 0)]) _
   refine XS.goto X497.here hx rfl (pc0 := 15) (pc' := 28) rfl (hb hby d5_15) (by decide) (by decide) ?_
   show GO p e below T497 (mkF m 28 (la20 a1 p1) [(.int 0)]) _
   refine XS.istoreN X497.here hx rfl (hb hby d5_28) rfl (l' := (la5 a1 p1 (0 : Int32))) rfl ?_
   show GO p e below T497 (mkF m 29 (la5 a1 p1 (0 : Int32)) []) _
   refine st500 _ ?_
   show GO p e below T500 (mkF m 32 (la5 a1 p1 (0 : Int32)) [(.ref b500)]) _
   refine XS.dup X500.here hx rfl (hb hby d5_32) rfl rfl ?_
   show GO p e below T500 (mkF m 33 (la5 a1 p1 (0 : Int32)) [(.ref b500), (.ref b500)]) _
   refine XS.aloadN X500.here hx rfl (hb hby d5_33) rfl rfl ?_
   show GO p e below T500 (mkF m 34 (la5 a1 p1 (0 : Int32)) [(.ref a1), (.ref b500), (.ref b500)]) _
   refine st504 _ ?_
   show GO p e below T504 (mkF m 37 (la5 a1 p1 (0 : Int32)) [(.ref a2), (.ref b500), (.ref b500)]) _
   refine XS.iloadN X504.here hx rfl (hb hby d5_37) rfl ?_
   show GO p e below T504 (mkF m 38 (la5 a1 p1 (0 : Int32)) [(.int 0), (.ref a2), (.ref b500), (.ref b500)]) _
   refine XS.aloadN X504.here hx rfl (hb hby d5_38) rfl rfl ?_
   show GO p e below T504 (mkF m 39 (la5 a1 p1 (0 : Int32)) [(.ref a1), (.int 0), (.ref a2), (.ref b500), (.ref b500)]) _
   refine st506 _ ?_
   show GO p e below T506 (mkF m 42 (la5 a1 p1 (0 : Int32)) [(.ref a3), (.int 0), (.ref a2), (.ref b500), (.ref b500)]) _
   refine XS.iloadN X506.here hx rfl (hb hby d5_42) rfl ?_
   show GO p e below T506 (mkF m 43 (la5 a1 p1 (0 : Int32)) [(.int p1), (.ref a3), (.int 0), (.ref a2), (.ref b500), (.ref b500)]) _
   refine X506.iaload hx (j := p1) (v := (.int em)) (by rw [e506]; exact Ar508.1) (State.isArrayOf_alike hZ.alike Ar508.2.1) Ar508.2.2 hin508 hat508 (g := (mkF m 43 (la5 a1 p1 (0 : Int32)) [(.int p1), (.ref a3), (.int 0), (.ref a2), (.ref b500), (.ref b500)])) rfl rfl (hb hby d5_43) _ ?_
   show GO p e below T506 (mkF m 44 (la5 a1 p1 (0 : Int32)) [(.int em), (.int 0), (.ref a2), (.ref b500), (.ref b500)]) _
   refine XS.iloadN X506.here hx rfl (hb hby d5_44) rfl ?_
   show GO p e below T506 (mkF m 45 (la5 a1 p1 (0 : Int32)) [(.int 0), (.int em), (.int 0), (.ref a2), (.ref b500), (.ref b500)]) _
   refine XS.isub X506.here hx rfl (hb hby d5_45) rfl ?_
   rw [hlm]
   show GO p e below T506 (mkF m 46 (la5 a1 p1 (0 : Int32)) [(.int 2), (.int 0), (.ref a2), (.ref b500), (.ref b500)]) _
   refine st509.trans ?_
   show GO p e below T509 (mkF m 49 (la5 a1 p1 (0 : Int32)) [(.ref b500)]) _
   exact retOut X509 hx Bd.returns rfl (Or.inr (Or.inr (Or.inr (Or.inr ⟨rfl, rfl, rfl⟩)))) (hb hby d5_49) hr
  ·show Qrm_get_2L Z a1 p1 a3 k3 en0 en1 en2 z0 f0 a2 k2 vs2 (0 : Int32) x0 x1 h0 n0 _ T509.heap _
   rw [e509]
   exact ⟨b500, t_509, k_509, rfl, N509, (((Keep.refl h0 []).ext E500).trans K509 (allS (P := fun x => x ∈ _ ∨ _) (Or.inr (by omega)) all0)), p509_0, p509_1, p509_2, p509_3⟩
 ·obtain ⟨eq, hgq, hsq, hiq⟩ := hs1 hb499
  obtain ⟨T514, X514, e514, st514⟩ := getF X497 hx hZ hown (host := "") (Or.inl (wd hw 27 rfl)) Via.refl e497 F2 (g := (mkF m 19 (la20 a1 p1) [(.ref a1)])) rfl rfl (hb hby d5_19)
  obtain ⟨cl515, Ar515, q515, S515, M515, H515, G515⟩ := id V3
  have hin515 : ¬ ((p1 - (1 : Int32)) < 0 ∨ cl515.slots.size ≤ ((p1 - (1 : Int32))).toNatClampNeg) := inb_of S515 hiq
  have hat515 : cl515.slots[((p1 - (1 : Int32))).toNatClampNeg]? = some (.int eq) := Has.at H515 hin515 hgq
  obtain ⟨T516, h516, X516, e516, E516, A516, D516, U516, st516⟩ := newO X514 hx hZ hown (wd hw 44 rfl) (wd hw 45 rfl) (wd hw 46 rfl) e514 (g := (mkF m 29 (la5 a1 p1 o1) [])) rfl (hb hby d5_29) (by decide) (by decide)
  obtain ⟨b516, g516⟩ : ∃ z, z = h0.size := ⟨_, rfl⟩
  rw [← g516] at A516 D516 U516 st516
  have sz516 : h0.size ≤ h516.size := E516.1
  have nz516 := Nat.le_trans Z0 sz516
  have lt516 := ltA A516.lt
  have f517 : Fld Z h516 b516 kS0 "value" "[B" .null := D516 (Or.inr (wd hw 67 rfl)) (ty := (.array .byte)) (by decide)
  have f518 : Fld Z h516 b516 kS0 "coder" "B" (.int 0) := D516 (Or.inr (wd hw 68 rfl)) (ty := .byte) (by decide)
  have f519 : Fld Z h516 a1 kS2 "text" "[C" (.ref a2) := (F1.ext E516)
  obtain ⟨T520, X520, e520, st520⟩ := getF X516 hx hZ hown (host := "") (Or.inl (wd hw 25 rfl)) Via.refl e516 f519 (g := (mkF m 34 (la5 a1 p1 o1) [(.ref a1), (.ref b516), (.ref b516)])) rfl rfl (hb hby d5_34)
  have f521 : Fld Z h516 a1 kS2 "ends" "[I" (.ref a3) := (F2.ext E516)
  obtain ⟨T522, X522, e522, st522⟩ := getF X520 hx hZ hown (host := "") (Or.inl (wd hw 27 rfl)) Via.refl e520 f521 (g := (mkF m 39 (la5 a1 p1 o1) [(.ref a1), (.int o1), (.ref a2), (.ref b516), (.ref b516)])) rfl rfl (hb hby d5_39)
  have f523 : Arv Z h516 a3 k3 .int (3 : Int32) [(.int en0), (.int en1), (.int en2)] (.int 0) := (V3.ext E516)
  obtain ⟨cl524, Ar524, q524, S524, M524, H524, G524⟩ := id f523
  have hin524 : ¬ (p1 < 0 ∨ cl524.slots.size ≤ (p1).toNatClampNeg) := inb_of S524 hib
  have hat524 : cl524.slots[(p1).toNatClampNeg]? = some (.int em) := Has.at H524 hin524 hge
  -- pc 46: String.<init> by rm_s3_2L
  have f526 : Old Z n0 h516 := (O0.ext E516)
  have f527 : Arv Z h516 a2 k2 .char (8 : Int32) vs2 (.int 0) := (V2.ext E516)
  obtain ⟨_, _, ⟨T525, L525, k525, n525⟩, -, X525, ⟨Lc525, hQ525, l525, y525, z525⟩, st525⟩ := X522.specialBack hx (y := (⟨kS0, "<init>", "([CII)V"⟩ : MethodName)) rfl hown (mvT hZ (wd hw 47 rfl)) (mvT hZ (wd hw 48 rfl)) (mvT hZ (wd hw 49 rfl)) (by decide) (backOf (W := 1) (rm_s3_2L l Z a0 hw [] b516 .null (.int 0) a2 k2 vs2 o1 x0 x1 z0 f0 h516 n0 nz516 f526 A516 f517 f518 f527 SZc hz0 SZf rf0 hr1 hr2 SZad SZhi SZlo ob0 hx0 lb0 ob1 hx1 lb1 c0 c1 (by first | assumption | decide | omega)) hZ (wd hw 49 rfl) (wd hw 46 rfl) (by decide) (by decide)) (g := (mkF m 46 (la5 a1 p1 o1) [(.int 2), (.int o1), (.ref a2), (.ref b516), (.ref b516)])) rfl (by rw [hml]; rfl) (Steps.refl _) (a := b516) (argsL := [(.ref a2), (.int o1), (.int 2)]) (rest := [(.ref b516)]) (lenOf pd_19 rfl) rfl (wz rfl) (hb hby d5_46) (fun _ _ => ⟨rfl, e522, (by decide : 1 + 1 ≤ _), (by decide : 4 + 2 ≤ _)⟩)
  dsimp only [Pt.U, Pt.locs, Pt.cells, Pt.slots] at X525 l525 y525 z525 st525 hQ525
  subst l525 y525 z525
  obtain ⟨h525, e525⟩ : ∃ z, T525.heap = z := ⟨_, rfl⟩
  rw [e525] at hQ525
  obtain ⟨t_525, k_525, rfl, N525q, K525, p525_0, p525_1, p525_2, p525_3, r525_0⟩ := hQ525
  have N525 := Fr.app N497 N525q
  have ne528 : b516 ≠ a3 := Exa.neArv A516 f523 (wd hw 45 rfl)
  have ne529 : b516 ≠ a2 := Exa.neArv A516 f527 (wd hw 45 rfl)
  have sz525 : h516.size ≤ h525.size := K525.1
  have nz525 := Nat.le_trans nz516 sz525
  have lt525_0 := ltA p525_0.lt
  have lt525_3 := ltA p525_3.lt
  obtain ⟨fs, hr, hrun, hended, hW, hsame⟩ := X525.leave (v := some (.ref b516)) (fun h => by rw [Bd.returns] at h; cases h)
  refine ⟨_, _, pre498 _ ?_, hrun, hended, _, _, rfl, ?_, ⟨_, rfl⟩, hW, hsame.mono (by decide) (by decide)⟩
  ·show GO p e below T497 (mkF m 11 (la20 a1 p1) [(.int p1)]) _
   refine XS.ifYes X497.here hx rfl (pc0 := 11) (pc' := 18) rfl (hb hby d5_11) rfl ((if0 _ _).trans (feq (hb499 : ¬ (p1 = (0 : Int32)))).2) (by decide) (by decide) ?_
   show GO p e below T497 (mkF m 18 (la20 a1 p1) []) _
   refine XS.aloadN X497.here hx rfl (hb hby d5_18) rfl rfl ?_
   show GO p e below T497 (mkF m 19 (la20 a1 p1) [(.ref a1)]) _
   refine st514 _ ?_
   show GO p e below T514 (mkF m 22 (la20 a1 p1) [(.ref a3)]) _
   refine XS.iloadN X514.here hx rfl (hb hby d5_22) rfl ?_
   show GO p e below T514 (mkF m 23 (la20 a1 p1) [(.int p1), (.ref a3)]) _
   refine XS.iconst X514.here hx rfl (hb hby d5_23) ?_
   show GO p e below T514 (mkF m 24 (la20 a1 p1) [(.int 1), (.int p1), (.ref a3)]) _
   refine XS.isub X514.here hx rfl (hb hby d5_24) rfl ?_
   show GO p e below T514 (mkF m 25 (la20 a1 p1) [(.int (p1 - (1 : Int32))), (.ref a3)]) _
   refine X514.iaload hx (j := (p1 - (1 : Int32))) (v := (.int eq)) (by rw [e514]; exact Ar515.1) (State.isArrayOf_alike hZ.alike Ar515.2.1) Ar515.2.2 hin515 hat515 (g := (mkF m 25 (la20 a1 p1) [(.int (p1 - (1 : Int32))), (.ref a3)])) rfl rfl (hb hby d5_25) _ ?_
   show GO p e below T514 (mkF m 26 (la20 a1 p1) [(.int eq)]) _
   refine XS.iconst X514.here hx rfl (hb hby d5_26) ?_
   show GO p e below T514 (mkF m 27 (la20 a1 p1) [(.int 1), (.int eq)]) _
   refine XS.iadd X514.here hx rfl (hb hby d5_27) rfl ?_
   rw [hsq]
   show GO p e below T514 (mkF m 28 (la20 a1 p1) [(.int o1)]) _
   refine XS.istoreN X514.here hx rfl (hb hby d5_28) rfl (l' := (la5 a1 p1 o1)) rfl ?_
   show GO p e below T514 (mkF m 29 (la5 a1 p1 o1) []) _
   refine st516 _ ?_
   show GO p e below T516 (mkF m 32 (la5 a1 p1 o1) [(.ref b516)]) _
   refine XS.dup X516.here hx rfl (hb hby d5_32) rfl rfl ?_
   show GO p e below T516 (mkF m 33 (la5 a1 p1 o1) [(.ref b516), (.ref b516)]) _
   refine XS.aloadN X516.here hx rfl (hb hby d5_33) rfl rfl ?_
   show GO p e below T516 (mkF m 34 (la5 a1 p1 o1) [(.ref a1), (.ref b516), (.ref b516)]) _
   refine st520 _ ?_
   show GO p e below T520 (mkF m 37 (la5 a1 p1 o1) [(.ref a2), (.ref b516), (.ref b516)]) _
   refine XS.iloadN X520.here hx rfl (hb hby d5_37) rfl ?_
   show GO p e below T520 (mkF m 38 (la5 a1 p1 o1) [(.int o1), (.ref a2), (.ref b516), (.ref b516)]) _
   refine XS.aloadN X520.here hx rfl (hb hby d5_38) rfl rfl ?_
   show GO p e below T520 (mkF m 39 (la5 a1 p1 o1) [(.ref a1), (.int o1), (.ref a2), (.ref b516), (.ref b516)]) _
   refine st522 _ ?_
   show GO p e below T522 (mkF m 42 (la5 a1 p1 o1) [(.ref a3), (.int o1), (.ref a2), (.ref b516), (.ref b516)]) _
   refine XS.iloadN X522.here hx rfl (hb hby d5_42) rfl ?_
   show GO p e below T522 (mkF m 43 (la5 a1 p1 o1) [(.int p1), (.ref a3), (.int o1), (.ref a2), (.ref b516), (.ref b516)]) _
   refine X522.iaload hx (j := p1) (v := (.int em)) (by rw [e522]; exact Ar524.1) (State.isArrayOf_alike hZ.alike Ar524.2.1) Ar524.2.2 hin524 hat524 (g := (mkF m 43 (la5 a1 p1 o1) [(.int p1), (.ref a3), (.int o1), (.ref a2), (.ref b516), (.ref b516)])) rfl rfl (hb hby d5_43) _ ?_
   show GO p e below T522 (mkF m 44 (la5 a1 p1 o1) [(.int em), (.int o1), (.ref a2), (.ref b516), (.ref b516)]) _
   refine XS.iloadN X522.here hx rfl (hb hby d5_44) rfl ?_
   show GO p e below T522 (mkF m 45 (la5 a1 p1 o1) [(.int o1), (.int em), (.int o1), (.ref a2), (.ref b516), (.ref b516)]) _
   refine XS.isub X522.here hx rfl (hb hby d5_45) rfl ?_
   rw [hlm]
   show GO p e below T522 (mkF m 46 (la5 a1 p1 o1) [(.int 2), (.int o1), (.ref a2), (.ref b516), (.ref b516)]) _
   refine st525.trans ?_
   show GO p e below T525 (mkF m 49 (la5 a1 p1 o1) [(.ref b516)]) _
   exact retOut X525 hx Bd.returns rfl (Or.inr (Or.inr (Or.inr (Or.inr ⟨rfl, rfl, rfl⟩)))) (hb hby d5_49) hr
  ·show Qrm_get_2L Z a1 p1 a3 k3 en0 en1 en2 z0 f0 a2 k2 vs2 o1 x0 x1 h0 n0 _ T525.heap _
   rw [e525]
   exact ⟨b516, t_525, k_525, rfl, N525, (((Keep.refl h0 []).ext E516).trans K525 (allS (P := fun x => x ∈ _ ∨ _) (Or.inr (by omega)) all0)), p525_0, p525_1, p525_2, p525_3⟩
def Qrm_get_2A (Z : State) (a1 : Addr) (p1 : Int32) (a3 : Addr) (k3 : ClassId) (en0 : Int32) (en1 : Int32) (en2 : Int32) (z0 : Int32) (f0 : Value) (a2 : Addr) (k2 : ClassId) (vs2 : List Value) (o1 : Int32) (x0 : Int32) (x1 : Int32) (h0 : Heap) (n0 : Nat) (v : Option Value) (h : Heap) (L : List Loc) : Prop := ∃ yy : Addr, ∃ t : Addr, ∃ k : ClassId, v = some (.ref yy) ∧ Fr n0 L ∧ Keep h0 h [] ∧ Exa Z h yy kS0 ∧ Fld Z h yy kS0 "coder" "B" (.int 1) ∧ Fld Z h yy kS0 "value" "[B" (.ref t) ∧ Arv Z h t k .byte (4 : Int32) [(.int ((x0 >>> ((0 : Int32) &&& 31)).toInt8.toInt32)), (.int ((x0 >>> ((8 : Int32) &&& 31)).toInt8.toInt32)), (.int ((x1 >>> ((0 : Int32) &&& 31)).toInt8.toInt32)), (.int ((x1 >>> ((8 : Int32) &&& 31)).toInt8.toInt32))] (.int 0)
theorem ef_rm_get_2A (m : MethodId) (x0 : Addr) (x1 : Int32) : entryFrame m #[(.ref x0), (.int x1)] 3 = mkF m 0 (la20 x0 x1) [] := by first | rfl | (simp [entryFrame, mkF, argsToLocals, Value.category]; done)
theorem rm_get_2A (l : Launch) (Z : State) (a0 : Array Value) (hw : HW Z a0) (ws : List Jvm.Cond) (a1 : Addr) (p1 : Int32) (a3 : Addr) (k3 : ClassId) (en0 : Int32) (en1 : Int32) (en2 : Int32) (z0 : Int32) (f0 : Value) (a2 : Addr) (k2 : ClassId) (vs2 : List Value) (o1 : Int32) (x0 : Int32) (x1 : Int32) (h0 : Heap) (n0 : Nat) (Z0 : n0 ≤ h0.size) (O0 : Old Z n0 h0) (F1 : Fld Z h0 a1 kS2 "text" "[C" (.ref a2)) (F2 : Fld Z h0 a1 kS2 "ends" "[I" (.ref a3)) (V3 : Arv Z h0 a3 k3 .int (3 : Int32) [(.int en0), (.int en1), (.int en2)] (.int 0)) (V2 : Arv Z h0 a2 k2 .char (8 : Int32) vs2 (.int 0)) (SZf : Sta Z Z.heap kS3 "SIOOBE_FORMATTER" "Ljava/util/function/BiFunction;" f0) (rf0 : f0.isRef = true) (SZc : Sta Z Z.heap kS0 "COMPACT_STRINGS" "Z" (.int z0)) (hz0 : ¬ z0 = 0) (SZad : Sta Z Z.heap kS1 "$assertionsDisabled" "Z" (.int 1)) (SZhi : Sta Z Z.heap kS1 "HI_BYTE_SHIFT" "I" (.int 0)) (SZlo : Sta Z Z.heap kS1 "LO_BYTE_SHIFT" "I" (.int 8)) (hx0 : vs2.getD (o1).toNatClampNeg (.int 0) = (.int x0)) (lb0 : (¬ x0 < 0 ∧ ¬ (65535 : Int32) < x0)) (hx1 : vs2.getD ((o1 + (1 : Int32))).toNatClampNeg (.int 0) = (.int x1)) (lb1 : (¬ x1 < 0 ∧ ¬ (65535 : Int32) < x1)) (c0 : (255 : Int32) < x0) (P : OwnPl p1 o1 (2 : Int32) en0 en1 en2) :
  OwnM l Z h0 (⟨kS2, "get", "(I)Ljava/lang/String;"⟩ : MethodName) (Jvm.Cond.code (⟨kS2, "get", "(I)Ljava/lang/String;"⟩ : MethodName) prog_30_method_2_code 3 (some (.object kS0)) :: ws) (RM 6 3 10 90) #[(.ref a1), (.int p1)] (Qrm_get_2A Z a1 p1 a3 k3 en0 en1 en2 z0 f0 a2 k2 vs2 o1 x0 x1 h0 n0) := by
 refine MetFree.of_bodySF (plainFor_of_name pn_7) hisR ?_
 intro p e s m args below meth c s₁ Bd hml0 hP hK
 obtain ⟨rfl, hZ, hh⟩ := hP
 have hx := Bd.exec
 have hby := Bd.bytes
 have hml : c.maxLocals = 3 := hml0
 have hown : s.vm.findClass kS2 = some m.cls := findClass_of_methodNamed Bd.named
 have hnm := (name_of_methodNamed Bd.named Bd.method).1
 have X0 : Stand p l e (RM 6 3 10 90) s m #[(.ref a1), (.int p1)] below meth c s₁ [] 0 0 := Stand.of_body Bd
 have e0 : s₁.heap = h0 := by rw [← hh, Bd.state]; rfl
 have N0 := Fr.nil n0
 have pre0 : ∀ t, GO p e below s₁ (mkF m 0 (la20 a1 p1) []) t → GO p e below s₁ (entryFrame m #[(.ref a1), (.int p1)] 3) t := fun t k => castTop (ef_rm_get_2A m a1 p1) k
 have lt_F1 := ltA F1.lt
 have lt_F2 := ltA F2.lt
 have lt_V3 := ltA V3.lt
 have lt_V2 := ltA V2.lt
 obtain ⟨ob0, ob1', -, hr1, hr2, hs0, hs1, em, hge, hlm, hib⟩ := id P
 have ob1 := ob1' rfl
 obtain ⟨T530, X530, e530, st530⟩ := getF X0 hx hZ hown (host := "") (Or.inl (wd hw 27 rfl)) Via.refl e0 F2 (g := (mkF m 2 (la20 a1 p1) [(.ref a1), (.int p1)])) rfl rfl (hb hby d5_2)
 obtain ⟨cl531, Ar531, -, S531, M531, -, -⟩ := id V3
 -- pc 6: Objects.checkIndex by rm_oc
 obtain ⟨_, _, ⟨T532, L532, k532, n532⟩, -, X532, ⟨Lc532, hQ532, l532, y532, z532⟩, st532⟩ := Jvm.LawKit.callS X530 hx (y := (⟨"java/util/Objects", "checkIndex", "(II)I"⟩ : MethodName)) hown (mvT hZ (wd hw 36 rfl)) (mvT hZ (wd hw 37 rfl)) (mvT hZ (wd hw 38 rfl)) (mvT hZ (wd hw 39 rfl)) (by decide) (backOf (W := 0) (rm_oc l Z a0 hw [] p1 (3 : Int32) h0 n0 Z0 hib.1 hib.2) hZ (wd hw 39 rfl) (wd hw 38 rfl) (by decide) (by decide)) (g := (mkF m 6 (la20 a1 p1) [(.int 3), (.int p1)])) rfl (by rw [hml]; rfl) (argsL := [(.int p1), (.int 3)]) (rest := []) (lenOf pd_18 rfl) rfl (wz rfl) (hb hby d5_6) (fun _ _ => ⟨rfl, e530, (by decide : 0 + 0 ≤ _), (by decide : 0 + 0 ≤ _)⟩)
 dsimp only [Pt.U, Pt.locs, Pt.cells, Pt.slots] at X532 l532 y532 z532 st532 hQ532
 subst l532 y532 z532
 obtain ⟨rfl, N532q, e532⟩ := hQ532
 have N532 := Fr.app N0 N532q
 have pre533 : ∀ t, GO p e below T532 (mkF m 11 (la20 a1 p1) [(.int p1)]) t → GO p e below s₁ (entryFrame m #[(.ref a1), (.int p1)] 3) t := by
  intro t kt
  refine pre0 t ?_
  show GO p e below s₁ (mkF m 0 (la20 a1 p1) []) _
  refine XS.iloadN X0.here hx rfl (hb hby d5_0) rfl ?_
  show GO p e below s₁ (mkF m 1 (la20 a1 p1) [(.int p1)]) _
  refine XS.aloadN X0.here hx rfl (hb hby d5_1) rfl rfl ?_
  show GO p e below s₁ (mkF m 2 (la20 a1 p1) [(.ref a1), (.int p1)]) _
  refine st530 _ ?_
  show GO p e below T530 (mkF m 5 (la20 a1 p1) [(.ref a3), (.int p1)]) _
  refine X530.arraylength hx (by rw [e530]; exact Ar531.1) (State.isArrayOf_alike hZ.alike Ar531.2.1) (g := (mkF m 5 (la20 a1 p1) [(.ref a3), (.int p1)])) rfl rfl (hb hby d5_5) _ ?_
  rw [len_of S531 M531]
  show GO p e below T530 (mkF m 6 (la20 a1 p1) [(.int 3), (.int p1)]) _
  refine st532 _ ?_
  show GO p e below T532 (mkF m 9 (la20 a1 p1) [(.int p1)]) _
  refine XS.pop X532.here hx rfl (hb hby d5_9) rfl rfl ?_
  show GO p e below T532 (mkF m 10 (la20 a1 p1) []) _
  refine XS.iloadN X532.here hx rfl (hb hby d5_10) rfl ?_
  exact kt
 by_cases hb534 : p1 = (0 : Int32)
 ·have h0o := hs0 hb534
  subst h0o
  obtain ⟨T535, h535, X535, e535, E535, A535, D535, U535, st535⟩ := newO X532 hx hZ hown (wd hw 44 rfl) (wd hw 45 rfl) (wd hw 46 rfl) e532 (g := (mkF m 29 (la5 a1 p1 (0 : Int32)) [])) rfl (hb hby d5_29) (by decide) (by decide)
  obtain ⟨b535, g535⟩ : ∃ z, z = h0.size := ⟨_, rfl⟩
  rw [← g535] at A535 D535 U535 st535
  have sz535 : h0.size ≤ h535.size := E535.1
  have nz535 := Nat.le_trans Z0 sz535
  have lt535 := ltA A535.lt
  have f536 : Fld Z h535 b535 kS0 "value" "[B" .null := D535 (Or.inr (wd hw 67 rfl)) (ty := (.array .byte)) (by decide)
  have f537 : Fld Z h535 b535 kS0 "coder" "B" (.int 0) := D535 (Or.inr (wd hw 68 rfl)) (ty := .byte) (by decide)
  have f538 : Fld Z h535 a1 kS2 "text" "[C" (.ref a2) := (F1.ext E535)
  obtain ⟨T539, X539, e539, st539⟩ := getF X535 hx hZ hown (host := "") (Or.inl (wd hw 25 rfl)) Via.refl e535 f538 (g := (mkF m 34 (la5 a1 p1 (0 : Int32)) [(.ref a1), (.ref b535), (.ref b535)])) rfl rfl (hb hby d5_34)
  have f540 : Fld Z h535 a1 kS2 "ends" "[I" (.ref a3) := (F2.ext E535)
  obtain ⟨T541, X541, e541, st541⟩ := getF X539 hx hZ hown (host := "") (Or.inl (wd hw 27 rfl)) Via.refl e539 f540 (g := (mkF m 39 (la5 a1 p1 (0 : Int32)) [(.ref a1), (.int 0), (.ref a2), (.ref b535), (.ref b535)])) rfl rfl (hb hby d5_39)
  have f542 : Arv Z h535 a3 k3 .int (3 : Int32) [(.int en0), (.int en1), (.int en2)] (.int 0) := (V3.ext E535)
  obtain ⟨cl543, Ar543, q543, S543, M543, H543, G543⟩ := id f542
  have hin543 : ¬ (p1 < 0 ∨ cl543.slots.size ≤ (p1).toNatClampNeg) := inb_of S543 hib
  have hat543 : cl543.slots[(p1).toNatClampNeg]? = some (.int em) := Has.at H543 hin543 hge
  -- pc 46: String.<init> by rm_s3_2A
  have f545 : Old Z n0 h535 := (O0.ext E535)
  have f546 : Arv Z h535 a2 k2 .char (8 : Int32) vs2 (.int 0) := (V2.ext E535)
  obtain ⟨_, _, ⟨T544, L544, k544, n544⟩, -, X544, ⟨Lc544, hQ544, l544, y544, z544⟩, st544⟩ := X541.specialBack hx (y := (⟨kS0, "<init>", "([CII)V"⟩ : MethodName)) rfl hown (mvT hZ (wd hw 47 rfl)) (mvT hZ (wd hw 48 rfl)) (mvT hZ (wd hw 49 rfl)) (by decide) (backOf (W := 1) (rm_s3_2A l Z a0 hw [] b535 .null (.int 0) a2 k2 vs2 (0 : Int32) x0 x1 z0 f0 h535 n0 nz535 f545 A535 f536 f537 f546 SZc hz0 SZf rf0 hr1 hr2 SZad SZhi SZlo ob0 hx0 lb0 ob1 hx1 lb1 c0 (by first | assumption | decide | omega)) hZ (wd hw 49 rfl) (wd hw 46 rfl) (by decide) (by decide)) (g := (mkF m 46 (la5 a1 p1 (0 : Int32)) [(.int 2), (.int 0), (.ref a2), (.ref b535), (.ref b535)])) rfl (by rw [hml]; rfl) (Steps.refl _) (a := b535) (argsL := [(.ref a2), (.int 0), (.int 2)]) (rest := [(.ref b535)]) (lenOf pd_19 rfl) rfl (wz rfl) (hb hby d5_46) (fun _ _ => ⟨rfl, e541, (by decide : 1 + 2 ≤ _), (by decide : 4 + 6 ≤ _)⟩)
  dsimp only [Pt.U, Pt.locs, Pt.cells, Pt.slots] at X544 l544 y544 z544 st544 hQ544
  subst l544 y544 z544
  obtain ⟨h544, e544⟩ : ∃ z, T544.heap = z := ⟨_, rfl⟩
  rw [e544] at hQ544
  obtain ⟨t_544, k_544, rfl, N544q, K544, p544_0, p544_1, p544_2, p544_3, r544_0⟩ := hQ544
  have N544 := Fr.app N532 N544q
  have ne547 : b535 ≠ a3 := Exa.neArv A535 f542 (wd hw 45 rfl)
  have ne548 : b535 ≠ a2 := Exa.neArv A535 f546 (wd hw 45 rfl)
  have sz544 : h535.size ≤ h544.size := K544.1
  have nz544 := Nat.le_trans nz535 sz544
  have lt544_0 := ltA p544_0.lt
  have lt544_3 := ltA p544_3.lt
  obtain ⟨fs, hr, hrun, hended, hW, hsame⟩ := X544.leave (v := some (.ref b535)) (fun h => by rw [Bd.returns] at h; cases h)
  refine ⟨_, _, pre533 _ ?_, hrun, hended, _, _, rfl, ?_, ⟨_, rfl⟩, hW, hsame.mono (by decide) (by decide)⟩
  ·show GO p e below T532 (mkF m 11 (la20 a1 p1) [(.int p1)]) _
   refine XS.ifNo X532.here hx rfl (hb hby d5_11) rfl ((if0 _ _).trans (teq (hb534 : p1 = (0 : Int32))).2) ?_
   show GO p e below T532 (mkF m 14 (la20 a1 p1) []) _
   refine XS.iconst X532.here hx rfl (hb hby d5_14) ?_
   show GO p e below T532 (mkF m 15 (la20 a1 p1) [(.int 0)]) _
   refine XS.goto X532.here hx rfl (pc0 := 15) (pc' := 28) rfl (hb hby d5_15) (by decide) (by decide) ?_
   show GO p e below T532 (mkF m 28 (la20 a1 p1) [(.int 0)]) _
   refine XS.istoreN X532.here hx rfl (hb hby d5_28) rfl (l' := (la5 a1 p1 (0 : Int32))) rfl ?_
   show GO p e below T532 (mkF m 29 (la5 a1 p1 (0 : Int32)) []) _
   refine st535 _ ?_
   show GO p e below T535 (mkF m 32 (la5 a1 p1 (0 : Int32)) [(.ref b535)]) _
   refine XS.dup X535.here hx rfl (hb hby d5_32) rfl rfl ?_
   show GO p e below T535 (mkF m 33 (la5 a1 p1 (0 : Int32)) [(.ref b535), (.ref b535)]) _
   refine XS.aloadN X535.here hx rfl (hb hby d5_33) rfl rfl ?_
   show GO p e below T535 (mkF m 34 (la5 a1 p1 (0 : Int32)) [(.ref a1), (.ref b535), (.ref b535)]) _
   refine st539 _ ?_
   show GO p e below T539 (mkF m 37 (la5 a1 p1 (0 : Int32)) [(.ref a2), (.ref b535), (.ref b535)]) _
   refine XS.iloadN X539.here hx rfl (hb hby d5_37) rfl ?_
   show GO p e below T539 (mkF m 38 (la5 a1 p1 (0 : Int32)) [(.int 0), (.ref a2), (.ref b535), (.ref b535)]) _
   refine XS.aloadN X539.here hx rfl (hb hby d5_38) rfl rfl ?_
   show GO p e below T539 (mkF m 39 (la5 a1 p1 (0 : Int32)) [(.ref a1), (.int 0), (.ref a2), (.ref b535), (.ref b535)]) _
   refine st541 _ ?_
   show GO p e below T541 (mkF m 42 (la5 a1 p1 (0 : Int32)) [(.ref a3), (.int 0), (.ref a2), (.ref b535), (.ref b535)]) _
   refine XS.iloadN X541.here hx rfl (hb hby d5_42) rfl ?_
   show GO p e below T541 (mkF m 43 (la5 a1 p1 (0 : Int32)) [(.int p1), (.ref a3), (.int 0), (.ref a2), (.ref b535), (.ref b535)]) _
   refine X541.iaload hx (j := p1) (v := (.int em)) (by rw [e541]; exact Ar543.1) (State.isArrayOf_alike hZ.alike Ar543.2.1) Ar543.2.2 hin543 hat543 (g := (mkF m 43 (la5 a1 p1 (0 : Int32)) [(.int p1), (.ref a3), (.int 0), (.ref a2), (.ref b535), (.ref b535)])) rfl rfl (hb hby d5_43) _ ?_
   show GO p e below T541 (mkF m 44 (la5 a1 p1 (0 : Int32)) [(.int em), (.int 0), (.ref a2), (.ref b535), (.ref b535)]) _
   refine XS.iloadN X541.here hx rfl (hb hby d5_44) rfl ?_
   show GO p e below T541 (mkF m 45 (la5 a1 p1 (0 : Int32)) [(.int 0), (.int em), (.int 0), (.ref a2), (.ref b535), (.ref b535)]) _
   refine XS.isub X541.here hx rfl (hb hby d5_45) rfl ?_
   rw [hlm]
   show GO p e below T541 (mkF m 46 (la5 a1 p1 (0 : Int32)) [(.int 2), (.int 0), (.ref a2), (.ref b535), (.ref b535)]) _
   refine st544.trans ?_
   show GO p e below T544 (mkF m 49 (la5 a1 p1 (0 : Int32)) [(.ref b535)]) _
   exact retOut X544 hx Bd.returns rfl (Or.inr (Or.inr (Or.inr (Or.inr ⟨rfl, rfl, rfl⟩)))) (hb hby d5_49) hr
  ·show Qrm_get_2A Z a1 p1 a3 k3 en0 en1 en2 z0 f0 a2 k2 vs2 (0 : Int32) x0 x1 h0 n0 _ T544.heap _
   rw [e544]
   exact ⟨b535, t_544, k_544, rfl, N544, (((Keep.refl h0 []).ext E535).trans K544 (allS (P := fun x => x ∈ _ ∨ _) (Or.inr (by omega)) all0)), p544_0, p544_1, p544_2, p544_3⟩
 ·obtain ⟨eq, hgq, hsq, hiq⟩ := hs1 hb534
  obtain ⟨T549, X549, e549, st549⟩ := getF X532 hx hZ hown (host := "") (Or.inl (wd hw 27 rfl)) Via.refl e532 F2 (g := (mkF m 19 (la20 a1 p1) [(.ref a1)])) rfl rfl (hb hby d5_19)
  obtain ⟨cl550, Ar550, q550, S550, M550, H550, G550⟩ := id V3
  have hin550 : ¬ ((p1 - (1 : Int32)) < 0 ∨ cl550.slots.size ≤ ((p1 - (1 : Int32))).toNatClampNeg) := inb_of S550 hiq
  have hat550 : cl550.slots[((p1 - (1 : Int32))).toNatClampNeg]? = some (.int eq) := Has.at H550 hin550 hgq
  obtain ⟨T551, h551, X551, e551, E551, A551, D551, U551, st551⟩ := newO X549 hx hZ hown (wd hw 44 rfl) (wd hw 45 rfl) (wd hw 46 rfl) e549 (g := (mkF m 29 (la5 a1 p1 o1) [])) rfl (hb hby d5_29) (by decide) (by decide)
  obtain ⟨b551, g551⟩ : ∃ z, z = h0.size := ⟨_, rfl⟩
  rw [← g551] at A551 D551 U551 st551
  have sz551 : h0.size ≤ h551.size := E551.1
  have nz551 := Nat.le_trans Z0 sz551
  have lt551 := ltA A551.lt
  have f552 : Fld Z h551 b551 kS0 "value" "[B" .null := D551 (Or.inr (wd hw 67 rfl)) (ty := (.array .byte)) (by decide)
  have f553 : Fld Z h551 b551 kS0 "coder" "B" (.int 0) := D551 (Or.inr (wd hw 68 rfl)) (ty := .byte) (by decide)
  have f554 : Fld Z h551 a1 kS2 "text" "[C" (.ref a2) := (F1.ext E551)
  obtain ⟨T555, X555, e555, st555⟩ := getF X551 hx hZ hown (host := "") (Or.inl (wd hw 25 rfl)) Via.refl e551 f554 (g := (mkF m 34 (la5 a1 p1 o1) [(.ref a1), (.ref b551), (.ref b551)])) rfl rfl (hb hby d5_34)
  have f556 : Fld Z h551 a1 kS2 "ends" "[I" (.ref a3) := (F2.ext E551)
  obtain ⟨T557, X557, e557, st557⟩ := getF X555 hx hZ hown (host := "") (Or.inl (wd hw 27 rfl)) Via.refl e555 f556 (g := (mkF m 39 (la5 a1 p1 o1) [(.ref a1), (.int o1), (.ref a2), (.ref b551), (.ref b551)])) rfl rfl (hb hby d5_39)
  have f558 : Arv Z h551 a3 k3 .int (3 : Int32) [(.int en0), (.int en1), (.int en2)] (.int 0) := (V3.ext E551)
  obtain ⟨cl559, Ar559, q559, S559, M559, H559, G559⟩ := id f558
  have hin559 : ¬ (p1 < 0 ∨ cl559.slots.size ≤ (p1).toNatClampNeg) := inb_of S559 hib
  have hat559 : cl559.slots[(p1).toNatClampNeg]? = some (.int em) := Has.at H559 hin559 hge
  -- pc 46: String.<init> by rm_s3_2A
  have f561 : Old Z n0 h551 := (O0.ext E551)
  have f562 : Arv Z h551 a2 k2 .char (8 : Int32) vs2 (.int 0) := (V2.ext E551)
  obtain ⟨_, _, ⟨T560, L560, k560, n560⟩, -, X560, ⟨Lc560, hQ560, l560, y560, z560⟩, st560⟩ := X557.specialBack hx (y := (⟨kS0, "<init>", "([CII)V"⟩ : MethodName)) rfl hown (mvT hZ (wd hw 47 rfl)) (mvT hZ (wd hw 48 rfl)) (mvT hZ (wd hw 49 rfl)) (by decide) (backOf (W := 1) (rm_s3_2A l Z a0 hw [] b551 .null (.int 0) a2 k2 vs2 o1 x0 x1 z0 f0 h551 n0 nz551 f561 A551 f552 f553 f562 SZc hz0 SZf rf0 hr1 hr2 SZad SZhi SZlo ob0 hx0 lb0 ob1 hx1 lb1 c0 (by first | assumption | decide | omega)) hZ (wd hw 49 rfl) (wd hw 46 rfl) (by decide) (by decide)) (g := (mkF m 46 (la5 a1 p1 o1) [(.int 2), (.int o1), (.ref a2), (.ref b551), (.ref b551)])) rfl (by rw [hml]; rfl) (Steps.refl _) (a := b551) (argsL := [(.ref a2), (.int o1), (.int 2)]) (rest := [(.ref b551)]) (lenOf pd_19 rfl) rfl (wz rfl) (hb hby d5_46) (fun _ _ => ⟨rfl, e557, (by decide : 1 + 2 ≤ _), (by decide : 4 + 6 ≤ _)⟩)
  dsimp only [Pt.U, Pt.locs, Pt.cells, Pt.slots] at X560 l560 y560 z560 st560 hQ560
  subst l560 y560 z560
  obtain ⟨h560, e560⟩ : ∃ z, T560.heap = z := ⟨_, rfl⟩
  rw [e560] at hQ560
  obtain ⟨t_560, k_560, rfl, N560q, K560, p560_0, p560_1, p560_2, p560_3, r560_0⟩ := hQ560
  have N560 := Fr.app N532 N560q
  have ne563 : b551 ≠ a3 := Exa.neArv A551 f558 (wd hw 45 rfl)
  have ne564 : b551 ≠ a2 := Exa.neArv A551 f562 (wd hw 45 rfl)
  have sz560 : h551.size ≤ h560.size := K560.1
  have nz560 := Nat.le_trans nz551 sz560
  have lt560_0 := ltA p560_0.lt
  have lt560_3 := ltA p560_3.lt
  obtain ⟨fs, hr, hrun, hended, hW, hsame⟩ := X560.leave (v := some (.ref b551)) (fun h => by rw [Bd.returns] at h; cases h)
  refine ⟨_, _, pre533 _ ?_, hrun, hended, _, _, rfl, ?_, ⟨_, rfl⟩, hW, hsame.mono (by decide) (by decide)⟩
  ·show GO p e below T532 (mkF m 11 (la20 a1 p1) [(.int p1)]) _
   refine XS.ifYes X532.here hx rfl (pc0 := 11) (pc' := 18) rfl (hb hby d5_11) rfl ((if0 _ _).trans (feq (hb534 : ¬ (p1 = (0 : Int32)))).2) (by decide) (by decide) ?_
   show GO p e below T532 (mkF m 18 (la20 a1 p1) []) _
   refine XS.aloadN X532.here hx rfl (hb hby d5_18) rfl rfl ?_
   show GO p e below T532 (mkF m 19 (la20 a1 p1) [(.ref a1)]) _
   refine st549 _ ?_
   show GO p e below T549 (mkF m 22 (la20 a1 p1) [(.ref a3)]) _
   refine XS.iloadN X549.here hx rfl (hb hby d5_22) rfl ?_
   show GO p e below T549 (mkF m 23 (la20 a1 p1) [(.int p1), (.ref a3)]) _
   refine XS.iconst X549.here hx rfl (hb hby d5_23) ?_
   show GO p e below T549 (mkF m 24 (la20 a1 p1) [(.int 1), (.int p1), (.ref a3)]) _
   refine XS.isub X549.here hx rfl (hb hby d5_24) rfl ?_
   show GO p e below T549 (mkF m 25 (la20 a1 p1) [(.int (p1 - (1 : Int32))), (.ref a3)]) _
   refine X549.iaload hx (j := (p1 - (1 : Int32))) (v := (.int eq)) (by rw [e549]; exact Ar550.1) (State.isArrayOf_alike hZ.alike Ar550.2.1) Ar550.2.2 hin550 hat550 (g := (mkF m 25 (la20 a1 p1) [(.int (p1 - (1 : Int32))), (.ref a3)])) rfl rfl (hb hby d5_25) _ ?_
   show GO p e below T549 (mkF m 26 (la20 a1 p1) [(.int eq)]) _
   refine XS.iconst X549.here hx rfl (hb hby d5_26) ?_
   show GO p e below T549 (mkF m 27 (la20 a1 p1) [(.int 1), (.int eq)]) _
   refine XS.iadd X549.here hx rfl (hb hby d5_27) rfl ?_
   rw [hsq]
   show GO p e below T549 (mkF m 28 (la20 a1 p1) [(.int o1)]) _
   refine XS.istoreN X549.here hx rfl (hb hby d5_28) rfl (l' := (la5 a1 p1 o1)) rfl ?_
   show GO p e below T549 (mkF m 29 (la5 a1 p1 o1) []) _
   refine st551 _ ?_
   show GO p e below T551 (mkF m 32 (la5 a1 p1 o1) [(.ref b551)]) _
   refine XS.dup X551.here hx rfl (hb hby d5_32) rfl rfl ?_
   show GO p e below T551 (mkF m 33 (la5 a1 p1 o1) [(.ref b551), (.ref b551)]) _
   refine XS.aloadN X551.here hx rfl (hb hby d5_33) rfl rfl ?_
   show GO p e below T551 (mkF m 34 (la5 a1 p1 o1) [(.ref a1), (.ref b551), (.ref b551)]) _
   refine st555 _ ?_
   show GO p e below T555 (mkF m 37 (la5 a1 p1 o1) [(.ref a2), (.ref b551), (.ref b551)]) _
   refine XS.iloadN X555.here hx rfl (hb hby d5_37) rfl ?_
   show GO p e below T555 (mkF m 38 (la5 a1 p1 o1) [(.int o1), (.ref a2), (.ref b551), (.ref b551)]) _
   refine XS.aloadN X555.here hx rfl (hb hby d5_38) rfl rfl ?_
   show GO p e below T555 (mkF m 39 (la5 a1 p1 o1) [(.ref a1), (.int o1), (.ref a2), (.ref b551), (.ref b551)]) _
   refine st557 _ ?_
   show GO p e below T557 (mkF m 42 (la5 a1 p1 o1) [(.ref a3), (.int o1), (.ref a2), (.ref b551), (.ref b551)]) _
   refine XS.iloadN X557.here hx rfl (hb hby d5_42) rfl ?_
   show GO p e below T557 (mkF m 43 (la5 a1 p1 o1) [(.int p1), (.ref a3), (.int o1), (.ref a2), (.ref b551), (.ref b551)]) _
   refine X557.iaload hx (j := p1) (v := (.int em)) (by rw [e557]; exact Ar559.1) (State.isArrayOf_alike hZ.alike Ar559.2.1) Ar559.2.2 hin559 hat559 (g := (mkF m 43 (la5 a1 p1 o1) [(.int p1), (.ref a3), (.int o1), (.ref a2), (.ref b551), (.ref b551)])) rfl rfl (hb hby d5_43) _ ?_
   show GO p e below T557 (mkF m 44 (la5 a1 p1 o1) [(.int em), (.int o1), (.ref a2), (.ref b551), (.ref b551)]) _
   refine XS.iloadN X557.here hx rfl (hb hby d5_44) rfl ?_
   show GO p e below T557 (mkF m 45 (la5 a1 p1 o1) [(.int o1), (.int em), (.int o1), (.ref a2), (.ref b551), (.ref b551)]) _
   refine XS.isub X557.here hx rfl (hb hby d5_45) rfl ?_
   rw [hlm]
   show GO p e below T557 (mkF m 46 (la5 a1 p1 o1) [(.int 2), (.int o1), (.ref a2), (.ref b551), (.ref b551)]) _
   refine st560.trans ?_
   show GO p e below T560 (mkF m 49 (la5 a1 p1 o1) [(.ref b551)]) _
   exact retOut X560 hx Bd.returns rfl (Or.inr (Or.inr (Or.inr (Or.inr ⟨rfl, rfl, rfl⟩)))) (hb hby d5_49) hr
  ·show Qrm_get_2A Z a1 p1 a3 k3 en0 en1 en2 z0 f0 a2 k2 vs2 o1 x0 x1 h0 n0 _ T560.heap _
   rw [e560]
   exact ⟨b551, t_560, k_560, rfl, N560, (((Keep.refl h0 []).ext E551).trans K560 (allS (P := fun x => x ∈ _ ∨ _) (Or.inr (by omega)) all0)), p560_0, p560_1, p560_2, p560_3⟩
def Qrm_get_2B (Z : State) (a1 : Addr) (p1 : Int32) (a3 : Addr) (k3 : ClassId) (en0 : Int32) (en1 : Int32) (en2 : Int32) (z0 : Int32) (f0 : Value) (a2 : Addr) (k2 : ClassId) (vs2 : List Value) (o1 : Int32) (x0 : Int32) (x1 : Int32) (h0 : Heap) (n0 : Nat) (v : Option Value) (h : Heap) (L : List Loc) : Prop := ∃ yy : Addr, ∃ t : Addr, ∃ k : ClassId, v = some (.ref yy) ∧ Fr n0 L ∧ Keep h0 h [] ∧ Exa Z h yy kS0 ∧ Fld Z h yy kS0 "coder" "B" (.int 1) ∧ Fld Z h yy kS0 "value" "[B" (.ref t) ∧ Arv Z h t k .byte (4 : Int32) [(.int ((x0 >>> ((0 : Int32) &&& 31)).toInt8.toInt32)), (.int ((x0 >>> ((8 : Int32) &&& 31)).toInt8.toInt32)), (.int ((x1 >>> ((0 : Int32) &&& 31)).toInt8.toInt32)), (.int ((x1 >>> ((8 : Int32) &&& 31)).toInt8.toInt32))] (.int 0)
theorem ef_rm_get_2B (m : MethodId) (x0 : Addr) (x1 : Int32) : entryFrame m #[(.ref x0), (.int x1)] 3 = mkF m 0 (la20 x0 x1) [] := by first | rfl | (simp [entryFrame, mkF, argsToLocals, Value.category]; done)
theorem rm_get_2B (l : Launch) (Z : State) (a0 : Array Value) (hw : HW Z a0) (ws : List Jvm.Cond) (a1 : Addr) (p1 : Int32) (a3 : Addr) (k3 : ClassId) (en0 : Int32) (en1 : Int32) (en2 : Int32) (z0 : Int32) (f0 : Value) (a2 : Addr) (k2 : ClassId) (vs2 : List Value) (o1 : Int32) (x0 : Int32) (x1 : Int32) (h0 : Heap) (n0 : Nat) (Z0 : n0 ≤ h0.size) (O0 : Old Z n0 h0) (F1 : Fld Z h0 a1 kS2 "text" "[C" (.ref a2)) (F2 : Fld Z h0 a1 kS2 "ends" "[I" (.ref a3)) (V3 : Arv Z h0 a3 k3 .int (3 : Int32) [(.int en0), (.int en1), (.int en2)] (.int 0)) (V2 : Arv Z h0 a2 k2 .char (8 : Int32) vs2 (.int 0)) (SZf : Sta Z Z.heap kS3 "SIOOBE_FORMATTER" "Ljava/util/function/BiFunction;" f0) (rf0 : f0.isRef = true) (SZc : Sta Z Z.heap kS0 "COMPACT_STRINGS" "Z" (.int z0)) (hz0 : ¬ z0 = 0) (SZad : Sta Z Z.heap kS1 "$assertionsDisabled" "Z" (.int 1)) (SZhi : Sta Z Z.heap kS1 "HI_BYTE_SHIFT" "I" (.int 0)) (SZlo : Sta Z Z.heap kS1 "LO_BYTE_SHIFT" "I" (.int 8)) (hx0 : vs2.getD (o1).toNatClampNeg (.int 0) = (.int x0)) (lb0 : (¬ x0 < 0 ∧ ¬ (65535 : Int32) < x0)) (hx1 : vs2.getD ((o1 + (1 : Int32))).toNatClampNeg (.int 0) = (.int x1)) (lb1 : (¬ x1 < 0 ∧ ¬ (65535 : Int32) < x1)) (c0 : ¬ ((255 : Int32) < x0)) (c1 : (255 : Int32) < x1) (P : OwnPl p1 o1 (2 : Int32) en0 en1 en2) :
  OwnM l Z h0 (⟨kS2, "get", "(I)Ljava/lang/String;"⟩ : MethodName) (Jvm.Cond.code (⟨kS2, "get", "(I)Ljava/lang/String;"⟩ : MethodName) prog_30_method_2_code 3 (some (.object kS0)) :: ws) (RM 6 3 10 90) #[(.ref a1), (.int p1)] (Qrm_get_2B Z a1 p1 a3 k3 en0 en1 en2 z0 f0 a2 k2 vs2 o1 x0 x1 h0 n0) := by
 refine MetFree.of_bodySF (plainFor_of_name pn_7) hisR ?_
 intro p e s m args below meth c s₁ Bd hml0 hP hK
 obtain ⟨rfl, hZ, hh⟩ := hP
 have hx := Bd.exec
 have hby := Bd.bytes
 have hml : c.maxLocals = 3 := hml0
 have hown : s.vm.findClass kS2 = some m.cls := findClass_of_methodNamed Bd.named
 have hnm := (name_of_methodNamed Bd.named Bd.method).1
 have X0 : Stand p l e (RM 6 3 10 90) s m #[(.ref a1), (.int p1)] below meth c s₁ [] 0 0 := Stand.of_body Bd
 have e0 : s₁.heap = h0 := by rw [← hh, Bd.state]; rfl
 have N0 := Fr.nil n0
 have pre0 : ∀ t, GO p e below s₁ (mkF m 0 (la20 a1 p1) []) t → GO p e below s₁ (entryFrame m #[(.ref a1), (.int p1)] 3) t := fun t k => castTop (ef_rm_get_2B m a1 p1) k
 have lt_F1 := ltA F1.lt
 have lt_F2 := ltA F2.lt
 have lt_V3 := ltA V3.lt
 have lt_V2 := ltA V2.lt
 obtain ⟨ob0, ob1', -, hr1, hr2, hs0, hs1, em, hge, hlm, hib⟩ := id P
 have ob1 := ob1' rfl
 obtain ⟨T565, X565, e565, st565⟩ := getF X0 hx hZ hown (host := "") (Or.inl (wd hw 27 rfl)) Via.refl e0 F2 (g := (mkF m 2 (la20 a1 p1) [(.ref a1), (.int p1)])) rfl rfl (hb hby d5_2)
 obtain ⟨cl566, Ar566, -, S566, M566, -, -⟩ := id V3
 -- pc 6: Objects.checkIndex by rm_oc
 obtain ⟨_, _, ⟨T567, L567, k567, n567⟩, -, X567, ⟨Lc567, hQ567, l567, y567, z567⟩, st567⟩ := Jvm.LawKit.callS X565 hx (y := (⟨"java/util/Objects", "checkIndex", "(II)I"⟩ : MethodName)) hown (mvT hZ (wd hw 36 rfl)) (mvT hZ (wd hw 37 rfl)) (mvT hZ (wd hw 38 rfl)) (mvT hZ (wd hw 39 rfl)) (by decide) (backOf (W := 0) (rm_oc l Z a0 hw [] p1 (3 : Int32) h0 n0 Z0 hib.1 hib.2) hZ (wd hw 39 rfl) (wd hw 38 rfl) (by decide) (by decide)) (g := (mkF m 6 (la20 a1 p1) [(.int 3), (.int p1)])) rfl (by rw [hml]; rfl) (argsL := [(.int p1), (.int 3)]) (rest := []) (lenOf pd_18 rfl) rfl (wz rfl) (hb hby d5_6) (fun _ _ => ⟨rfl, e565, (by decide : 0 + 0 ≤ _), (by decide : 0 + 0 ≤ _)⟩)
 dsimp only [Pt.U, Pt.locs, Pt.cells, Pt.slots] at X567 l567 y567 z567 st567 hQ567
 subst l567 y567 z567
 obtain ⟨rfl, N567q, e567⟩ := hQ567
 have N567 := Fr.app N0 N567q
 have pre568 : ∀ t, GO p e below T567 (mkF m 11 (la20 a1 p1) [(.int p1)]) t → GO p e below s₁ (entryFrame m #[(.ref a1), (.int p1)] 3) t := by
  intro t kt
  refine pre0 t ?_
  show GO p e below s₁ (mkF m 0 (la20 a1 p1) []) _
  refine XS.iloadN X0.here hx rfl (hb hby d5_0) rfl ?_
  show GO p e below s₁ (mkF m 1 (la20 a1 p1) [(.int p1)]) _
  refine XS.aloadN X0.here hx rfl (hb hby d5_1) rfl rfl ?_
  show GO p e below s₁ (mkF m 2 (la20 a1 p1) [(.ref a1), (.int p1)]) _
  refine st565 _ ?_
  show GO p e below T565 (mkF m 5 (la20 a1 p1) [(.ref a3), (.int p1)]) _
  refine X565.arraylength hx (by rw [e565]; exact Ar566.1) (State.isArrayOf_alike hZ.alike Ar566.2.1) (g := (mkF m 5 (la20 a1 p1) [(.ref a3), (.int p1)])) rfl rfl (hb hby d5_5) _ ?_
  rw [len_of S566 M566]
  show GO p e below T565 (mkF m 6 (la20 a1 p1) [(.int 3), (.int p1)]) _
  refine st567 _ ?_
  show GO p e below T567 (mkF m 9 (la20 a1 p1) [(.int p1)]) _
  refine XS.pop X567.here hx rfl (hb hby d5_9) rfl rfl ?_
  show GO p e below T567 (mkF m 10 (la20 a1 p1) []) _
  refine XS.iloadN X567.here hx rfl (hb hby d5_10) rfl ?_
  exact kt
 by_cases hb569 : p1 = (0 : Int32)
 ·have h0o := hs0 hb569
  subst h0o
  obtain ⟨T570, h570, X570, e570, E570, A570, D570, U570, st570⟩ := newO X567 hx hZ hown (wd hw 44 rfl) (wd hw 45 rfl) (wd hw 46 rfl) e567 (g := (mkF m 29 (la5 a1 p1 (0 : Int32)) [])) rfl (hb hby d5_29) (by decide) (by decide)
  obtain ⟨b570, g570⟩ : ∃ z, z = h0.size := ⟨_, rfl⟩
  rw [← g570] at A570 D570 U570 st570
  have sz570 : h0.size ≤ h570.size := E570.1
  have nz570 := Nat.le_trans Z0 sz570
  have lt570 := ltA A570.lt
  have f571 : Fld Z h570 b570 kS0 "value" "[B" .null := D570 (Or.inr (wd hw 67 rfl)) (ty := (.array .byte)) (by decide)
  have f572 : Fld Z h570 b570 kS0 "coder" "B" (.int 0) := D570 (Or.inr (wd hw 68 rfl)) (ty := .byte) (by decide)
  have f573 : Fld Z h570 a1 kS2 "text" "[C" (.ref a2) := (F1.ext E570)
  obtain ⟨T574, X574, e574, st574⟩ := getF X570 hx hZ hown (host := "") (Or.inl (wd hw 25 rfl)) Via.refl e570 f573 (g := (mkF m 34 (la5 a1 p1 (0 : Int32)) [(.ref a1), (.ref b570), (.ref b570)])) rfl rfl (hb hby d5_34)
  have f575 : Fld Z h570 a1 kS2 "ends" "[I" (.ref a3) := (F2.ext E570)
  obtain ⟨T576, X576, e576, st576⟩ := getF X574 hx hZ hown (host := "") (Or.inl (wd hw 27 rfl)) Via.refl e574 f575 (g := (mkF m 39 (la5 a1 p1 (0 : Int32)) [(.ref a1), (.int 0), (.ref a2), (.ref b570), (.ref b570)])) rfl rfl (hb hby d5_39)
  have f577 : Arv Z h570 a3 k3 .int (3 : Int32) [(.int en0), (.int en1), (.int en2)] (.int 0) := (V3.ext E570)
  obtain ⟨cl578, Ar578, q578, S578, M578, H578, G578⟩ := id f577
  have hin578 : ¬ (p1 < 0 ∨ cl578.slots.size ≤ (p1).toNatClampNeg) := inb_of S578 hib
  have hat578 : cl578.slots[(p1).toNatClampNeg]? = some (.int em) := Has.at H578 hin578 hge
  -- pc 46: String.<init> by rm_s3_2B
  have f580 : Old Z n0 h570 := (O0.ext E570)
  have f581 : Arv Z h570 a2 k2 .char (8 : Int32) vs2 (.int 0) := (V2.ext E570)
  obtain ⟨_, _, ⟨T579, L579, k579, n579⟩, -, X579, ⟨Lc579, hQ579, l579, y579, z579⟩, st579⟩ := X576.specialBack hx (y := (⟨kS0, "<init>", "([CII)V"⟩ : MethodName)) rfl hown (mvT hZ (wd hw 47 rfl)) (mvT hZ (wd hw 48 rfl)) (mvT hZ (wd hw 49 rfl)) (by decide) (backOf (W := 1) (rm_s3_2B l Z a0 hw [] b570 .null (.int 0) a2 k2 vs2 (0 : Int32) x0 x1 z0 f0 h570 n0 nz570 f580 A570 f571 f572 f581 SZc hz0 SZf rf0 hr1 hr2 SZad SZhi SZlo ob0 hx0 lb0 ob1 hx1 lb1 c0 c1 (by first | assumption | decide | omega)) hZ (wd hw 49 rfl) (wd hw 46 rfl) (by decide) (by decide)) (g := (mkF m 46 (la5 a1 p1 (0 : Int32)) [(.int 2), (.int 0), (.ref a2), (.ref b570), (.ref b570)])) rfl (by rw [hml]; rfl) (Steps.refl _) (a := b570) (argsL := [(.ref a2), (.int 0), (.int 2)]) (rest := [(.ref b570)]) (lenOf pd_19 rfl) rfl (wz rfl) (hb hby d5_46) (fun _ _ => ⟨rfl, e576, (by decide : 1 + 2 ≤ _), (by decide : 4 + 6 ≤ _)⟩)
  dsimp only [Pt.U, Pt.locs, Pt.cells, Pt.slots] at X579 l579 y579 z579 st579 hQ579
  subst l579 y579 z579
  obtain ⟨h579, e579⟩ : ∃ z, T579.heap = z := ⟨_, rfl⟩
  rw [e579] at hQ579
  obtain ⟨t_579, k_579, rfl, N579q, K579, p579_0, p579_1, p579_2, p579_3, r579_0⟩ := hQ579
  have N579 := Fr.app N567 N579q
  have ne582 : b570 ≠ a3 := Exa.neArv A570 f577 (wd hw 45 rfl)
  have ne583 : b570 ≠ a2 := Exa.neArv A570 f581 (wd hw 45 rfl)
  have sz579 : h570.size ≤ h579.size := K579.1
  have nz579 := Nat.le_trans nz570 sz579
  have lt579_0 := ltA p579_0.lt
  have lt579_3 := ltA p579_3.lt
  obtain ⟨fs, hr, hrun, hended, hW, hsame⟩ := X579.leave (v := some (.ref b570)) (fun h => by rw [Bd.returns] at h; cases h)
  refine ⟨_, _, pre568 _ ?_, hrun, hended, _, _, rfl, ?_, ⟨_, rfl⟩, hW, hsame.mono (by decide) (by decide)⟩
  ·show GO p e below T567 (mkF m 11 (la20 a1 p1) [(.int p1)]) _
   refine XS.ifNo X567.here hx rfl (hb hby d5_11) rfl ((if0 _ _).trans (teq (hb569 : p1 = (0 : Int32))).2) ?_
   show GO p e below T567 (mkF m 14 (la20 a1 p1) []) _
   refine XS.iconst X567.here hx rfl (hb hby d5_14) ?_
   show GO p e below T567 (mkF m 15 (la20 a1 p1) [(.int 0)]) _
   refine XS.goto X567.here hx rfl (pc0 := 15) (pc' := 28) rfl (hb hby d5_15) (by decide) (by decide) ?_
   show GO p e below T567 (mkF m 28 (la20 a1 p1) [(.int 0)]) _
   refine XS.istoreN X567.here hx rfl (hb hby d5_28) rfl (l' := (la5 a1 p1 (0 : Int32))) rfl ?_
   show GO p e below T567 (mkF m 29 (la5 a1 p1 (0 : Int32)) []) _
   refine st570 _ ?_
   show GO p e below T570 (mkF m 32 (la5 a1 p1 (0 : Int32)) [(.ref b570)]) _
   refine XS.dup X570.here hx rfl (hb hby d5_32) rfl rfl ?_
   show GO p e below T570 (mkF m 33 (la5 a1 p1 (0 : Int32)) [(.ref b570), (.ref b570)]) _
   refine XS.aloadN X570.here hx rfl (hb hby d5_33) rfl rfl ?_
   show GO p e below T570 (mkF m 34 (la5 a1 p1 (0 : Int32)) [(.ref a1), (.ref b570), (.ref b570)]) _
   refine st574 _ ?_
   show GO p e below T574 (mkF m 37 (la5 a1 p1 (0 : Int32)) [(.ref a2), (.ref b570), (.ref b570)]) _
   refine XS.iloadN X574.here hx rfl (hb hby d5_37) rfl ?_
   show GO p e below T574 (mkF m 38 (la5 a1 p1 (0 : Int32)) [(.int 0), (.ref a2), (.ref b570), (.ref b570)]) _
   refine XS.aloadN X574.here hx rfl (hb hby d5_38) rfl rfl ?_
   show GO p e below T574 (mkF m 39 (la5 a1 p1 (0 : Int32)) [(.ref a1), (.int 0), (.ref a2), (.ref b570), (.ref b570)]) _
   refine st576 _ ?_
   show GO p e below T576 (mkF m 42 (la5 a1 p1 (0 : Int32)) [(.ref a3), (.int 0), (.ref a2), (.ref b570), (.ref b570)]) _
   refine XS.iloadN X576.here hx rfl (hb hby d5_42) rfl ?_
   show GO p e below T576 (mkF m 43 (la5 a1 p1 (0 : Int32)) [(.int p1), (.ref a3), (.int 0), (.ref a2), (.ref b570), (.ref b570)]) _
   refine X576.iaload hx (j := p1) (v := (.int em)) (by rw [e576]; exact Ar578.1) (State.isArrayOf_alike hZ.alike Ar578.2.1) Ar578.2.2 hin578 hat578 (g := (mkF m 43 (la5 a1 p1 (0 : Int32)) [(.int p1), (.ref a3), (.int 0), (.ref a2), (.ref b570), (.ref b570)])) rfl rfl (hb hby d5_43) _ ?_
   show GO p e below T576 (mkF m 44 (la5 a1 p1 (0 : Int32)) [(.int em), (.int 0), (.ref a2), (.ref b570), (.ref b570)]) _
   refine XS.iloadN X576.here hx rfl (hb hby d5_44) rfl ?_
   show GO p e below T576 (mkF m 45 (la5 a1 p1 (0 : Int32)) [(.int 0), (.int em), (.int 0), (.ref a2), (.ref b570), (.ref b570)]) _
   refine XS.isub X576.here hx rfl (hb hby d5_45) rfl ?_
   rw [hlm]
   show GO p e below T576 (mkF m 46 (la5 a1 p1 (0 : Int32)) [(.int 2), (.int 0), (.ref a2), (.ref b570), (.ref b570)]) _
   refine st579.trans ?_
   show GO p e below T579 (mkF m 49 (la5 a1 p1 (0 : Int32)) [(.ref b570)]) _
   exact retOut X579 hx Bd.returns rfl (Or.inr (Or.inr (Or.inr (Or.inr ⟨rfl, rfl, rfl⟩)))) (hb hby d5_49) hr
  ·show Qrm_get_2B Z a1 p1 a3 k3 en0 en1 en2 z0 f0 a2 k2 vs2 (0 : Int32) x0 x1 h0 n0 _ T579.heap _
   rw [e579]
   exact ⟨b570, t_579, k_579, rfl, N579, (((Keep.refl h0 []).ext E570).trans K579 (allS (P := fun x => x ∈ _ ∨ _) (Or.inr (by omega)) all0)), p579_0, p579_1, p579_2, p579_3⟩
 ·obtain ⟨eq, hgq, hsq, hiq⟩ := hs1 hb569
  obtain ⟨T584, X584, e584, st584⟩ := getF X567 hx hZ hown (host := "") (Or.inl (wd hw 27 rfl)) Via.refl e567 F2 (g := (mkF m 19 (la20 a1 p1) [(.ref a1)])) rfl rfl (hb hby d5_19)
  obtain ⟨cl585, Ar585, q585, S585, M585, H585, G585⟩ := id V3
  have hin585 : ¬ ((p1 - (1 : Int32)) < 0 ∨ cl585.slots.size ≤ ((p1 - (1 : Int32))).toNatClampNeg) := inb_of S585 hiq
  have hat585 : cl585.slots[((p1 - (1 : Int32))).toNatClampNeg]? = some (.int eq) := Has.at H585 hin585 hgq
  obtain ⟨T586, h586, X586, e586, E586, A586, D586, U586, st586⟩ := newO X584 hx hZ hown (wd hw 44 rfl) (wd hw 45 rfl) (wd hw 46 rfl) e584 (g := (mkF m 29 (la5 a1 p1 o1) [])) rfl (hb hby d5_29) (by decide) (by decide)
  obtain ⟨b586, g586⟩ : ∃ z, z = h0.size := ⟨_, rfl⟩
  rw [← g586] at A586 D586 U586 st586
  have sz586 : h0.size ≤ h586.size := E586.1
  have nz586 := Nat.le_trans Z0 sz586
  have lt586 := ltA A586.lt
  have f587 : Fld Z h586 b586 kS0 "value" "[B" .null := D586 (Or.inr (wd hw 67 rfl)) (ty := (.array .byte)) (by decide)
  have f588 : Fld Z h586 b586 kS0 "coder" "B" (.int 0) := D586 (Or.inr (wd hw 68 rfl)) (ty := .byte) (by decide)
  have f589 : Fld Z h586 a1 kS2 "text" "[C" (.ref a2) := (F1.ext E586)
  obtain ⟨T590, X590, e590, st590⟩ := getF X586 hx hZ hown (host := "") (Or.inl (wd hw 25 rfl)) Via.refl e586 f589 (g := (mkF m 34 (la5 a1 p1 o1) [(.ref a1), (.ref b586), (.ref b586)])) rfl rfl (hb hby d5_34)
  have f591 : Fld Z h586 a1 kS2 "ends" "[I" (.ref a3) := (F2.ext E586)
  obtain ⟨T592, X592, e592, st592⟩ := getF X590 hx hZ hown (host := "") (Or.inl (wd hw 27 rfl)) Via.refl e590 f591 (g := (mkF m 39 (la5 a1 p1 o1) [(.ref a1), (.int o1), (.ref a2), (.ref b586), (.ref b586)])) rfl rfl (hb hby d5_39)
  have f593 : Arv Z h586 a3 k3 .int (3 : Int32) [(.int en0), (.int en1), (.int en2)] (.int 0) := (V3.ext E586)
  obtain ⟨cl594, Ar594, q594, S594, M594, H594, G594⟩ := id f593
  have hin594 : ¬ (p1 < 0 ∨ cl594.slots.size ≤ (p1).toNatClampNeg) := inb_of S594 hib
  have hat594 : cl594.slots[(p1).toNatClampNeg]? = some (.int em) := Has.at H594 hin594 hge
  -- pc 46: String.<init> by rm_s3_2B
  have f596 : Old Z n0 h586 := (O0.ext E586)
  have f597 : Arv Z h586 a2 k2 .char (8 : Int32) vs2 (.int 0) := (V2.ext E586)
  obtain ⟨_, _, ⟨T595, L595, k595, n595⟩, -, X595, ⟨Lc595, hQ595, l595, y595, z595⟩, st595⟩ := X592.specialBack hx (y := (⟨kS0, "<init>", "([CII)V"⟩ : MethodName)) rfl hown (mvT hZ (wd hw 47 rfl)) (mvT hZ (wd hw 48 rfl)) (mvT hZ (wd hw 49 rfl)) (by decide) (backOf (W := 1) (rm_s3_2B l Z a0 hw [] b586 .null (.int 0) a2 k2 vs2 o1 x0 x1 z0 f0 h586 n0 nz586 f596 A586 f587 f588 f597 SZc hz0 SZf rf0 hr1 hr2 SZad SZhi SZlo ob0 hx0 lb0 ob1 hx1 lb1 c0 c1 (by first | assumption | decide | omega)) hZ (wd hw 49 rfl) (wd hw 46 rfl) (by decide) (by decide)) (g := (mkF m 46 (la5 a1 p1 o1) [(.int 2), (.int o1), (.ref a2), (.ref b586), (.ref b586)])) rfl (by rw [hml]; rfl) (Steps.refl _) (a := b586) (argsL := [(.ref a2), (.int o1), (.int 2)]) (rest := [(.ref b586)]) (lenOf pd_19 rfl) rfl (wz rfl) (hb hby d5_46) (fun _ _ => ⟨rfl, e592, (by decide : 1 + 2 ≤ _), (by decide : 4 + 6 ≤ _)⟩)
  dsimp only [Pt.U, Pt.locs, Pt.cells, Pt.slots] at X595 l595 y595 z595 st595 hQ595
  subst l595 y595 z595
  obtain ⟨h595, e595⟩ : ∃ z, T595.heap = z := ⟨_, rfl⟩
  rw [e595] at hQ595
  obtain ⟨t_595, k_595, rfl, N595q, K595, p595_0, p595_1, p595_2, p595_3, r595_0⟩ := hQ595
  have N595 := Fr.app N567 N595q
  have ne598 : b586 ≠ a3 := Exa.neArv A586 f593 (wd hw 45 rfl)
  have ne599 : b586 ≠ a2 := Exa.neArv A586 f597 (wd hw 45 rfl)
  have sz595 : h586.size ≤ h595.size := K595.1
  have nz595 := Nat.le_trans nz586 sz595
  have lt595_0 := ltA p595_0.lt
  have lt595_3 := ltA p595_3.lt
  obtain ⟨fs, hr, hrun, hended, hW, hsame⟩ := X595.leave (v := some (.ref b586)) (fun h => by rw [Bd.returns] at h; cases h)
  refine ⟨_, _, pre568 _ ?_, hrun, hended, _, _, rfl, ?_, ⟨_, rfl⟩, hW, hsame.mono (by decide) (by decide)⟩
  ·show GO p e below T567 (mkF m 11 (la20 a1 p1) [(.int p1)]) _
   refine XS.ifYes X567.here hx rfl (pc0 := 11) (pc' := 18) rfl (hb hby d5_11) rfl ((if0 _ _).trans (feq (hb569 : ¬ (p1 = (0 : Int32)))).2) (by decide) (by decide) ?_
   show GO p e below T567 (mkF m 18 (la20 a1 p1) []) _
   refine XS.aloadN X567.here hx rfl (hb hby d5_18) rfl rfl ?_
   show GO p e below T567 (mkF m 19 (la20 a1 p1) [(.ref a1)]) _
   refine st584 _ ?_
   show GO p e below T584 (mkF m 22 (la20 a1 p1) [(.ref a3)]) _
   refine XS.iloadN X584.here hx rfl (hb hby d5_22) rfl ?_
   show GO p e below T584 (mkF m 23 (la20 a1 p1) [(.int p1), (.ref a3)]) _
   refine XS.iconst X584.here hx rfl (hb hby d5_23) ?_
   show GO p e below T584 (mkF m 24 (la20 a1 p1) [(.int 1), (.int p1), (.ref a3)]) _
   refine XS.isub X584.here hx rfl (hb hby d5_24) rfl ?_
   show GO p e below T584 (mkF m 25 (la20 a1 p1) [(.int (p1 - (1 : Int32))), (.ref a3)]) _
   refine X584.iaload hx (j := (p1 - (1 : Int32))) (v := (.int eq)) (by rw [e584]; exact Ar585.1) (State.isArrayOf_alike hZ.alike Ar585.2.1) Ar585.2.2 hin585 hat585 (g := (mkF m 25 (la20 a1 p1) [(.int (p1 - (1 : Int32))), (.ref a3)])) rfl rfl (hb hby d5_25) _ ?_
   show GO p e below T584 (mkF m 26 (la20 a1 p1) [(.int eq)]) _
   refine XS.iconst X584.here hx rfl (hb hby d5_26) ?_
   show GO p e below T584 (mkF m 27 (la20 a1 p1) [(.int 1), (.int eq)]) _
   refine XS.iadd X584.here hx rfl (hb hby d5_27) rfl ?_
   rw [hsq]
   show GO p e below T584 (mkF m 28 (la20 a1 p1) [(.int o1)]) _
   refine XS.istoreN X584.here hx rfl (hb hby d5_28) rfl (l' := (la5 a1 p1 o1)) rfl ?_
   show GO p e below T584 (mkF m 29 (la5 a1 p1 o1) []) _
   refine st586 _ ?_
   show GO p e below T586 (mkF m 32 (la5 a1 p1 o1) [(.ref b586)]) _
   refine XS.dup X586.here hx rfl (hb hby d5_32) rfl rfl ?_
   show GO p e below T586 (mkF m 33 (la5 a1 p1 o1) [(.ref b586), (.ref b586)]) _
   refine XS.aloadN X586.here hx rfl (hb hby d5_33) rfl rfl ?_
   show GO p e below T586 (mkF m 34 (la5 a1 p1 o1) [(.ref a1), (.ref b586), (.ref b586)]) _
   refine st590 _ ?_
   show GO p e below T590 (mkF m 37 (la5 a1 p1 o1) [(.ref a2), (.ref b586), (.ref b586)]) _
   refine XS.iloadN X590.here hx rfl (hb hby d5_37) rfl ?_
   show GO p e below T590 (mkF m 38 (la5 a1 p1 o1) [(.int o1), (.ref a2), (.ref b586), (.ref b586)]) _
   refine XS.aloadN X590.here hx rfl (hb hby d5_38) rfl rfl ?_
   show GO p e below T590 (mkF m 39 (la5 a1 p1 o1) [(.ref a1), (.int o1), (.ref a2), (.ref b586), (.ref b586)]) _
   refine st592 _ ?_
   show GO p e below T592 (mkF m 42 (la5 a1 p1 o1) [(.ref a3), (.int o1), (.ref a2), (.ref b586), (.ref b586)]) _
   refine XS.iloadN X592.here hx rfl (hb hby d5_42) rfl ?_
   show GO p e below T592 (mkF m 43 (la5 a1 p1 o1) [(.int p1), (.ref a3), (.int o1), (.ref a2), (.ref b586), (.ref b586)]) _
   refine X592.iaload hx (j := p1) (v := (.int em)) (by rw [e592]; exact Ar594.1) (State.isArrayOf_alike hZ.alike Ar594.2.1) Ar594.2.2 hin594 hat594 (g := (mkF m 43 (la5 a1 p1 o1) [(.int p1), (.ref a3), (.int o1), (.ref a2), (.ref b586), (.ref b586)])) rfl rfl (hb hby d5_43) _ ?_
   show GO p e below T592 (mkF m 44 (la5 a1 p1 o1) [(.int em), (.int o1), (.ref a2), (.ref b586), (.ref b586)]) _
   refine XS.iloadN X592.here hx rfl (hb hby d5_44) rfl ?_
   show GO p e below T592 (mkF m 45 (la5 a1 p1 o1) [(.int o1), (.int em), (.int o1), (.ref a2), (.ref b586), (.ref b586)]) _
   refine XS.isub X592.here hx rfl (hb hby d5_45) rfl ?_
   rw [hlm]
   show GO p e below T592 (mkF m 46 (la5 a1 p1 o1) [(.int 2), (.int o1), (.ref a2), (.ref b586), (.ref b586)]) _
   refine st595.trans ?_
   show GO p e below T595 (mkF m 49 (la5 a1 p1 o1) [(.ref b586)]) _
   exact retOut X595 hx Bd.returns rfl (Or.inr (Or.inr (Or.inr (Or.inr ⟨rfl, rfl, rfl⟩)))) (hb hby d5_49) hr
  ·show Qrm_get_2B Z a1 p1 a3 k3 en0 en1 en2 z0 f0 a2 k2 vs2 o1 x0 x1 h0 n0 _ T595.heap _
   rw [e595]
   exact ⟨b586, t_595, k_595, rfl, N595, (((Keep.refl h0 []).ext E586).trans K595 (allS (P := fun x => x ∈ _ ∨ _) (Or.inr (by omega)) all0)), p595_0, p595_1, p595_2, p595_3⟩
def Qrm0 (Z : State) (q0 : Int64) (q1 : Int64) (p2 : Int32) (p3 : Int32) (p4 : Int32) (z0 : Int32) (f0 : Value) (h0 : Heap) (n0 : Nat) (v : Option Value) (h : Heap) (L : List Loc) : Prop := v = some (.int 1) ∧ Fr n0 L
theorem ef_rm0 (m : MethodId) (x0 : Int64) (x1 : Int64) (x2 : Int32) (x3 : Int32) (x4 : Int32) : entryFrame m #[(.long x0), (.long x1), (.int x2), (.int x3), (.int x4)] maxLocals = mkF m 0 (la21 x0 x1 x2 x3 x4) [] := by first | (simp [entryFrame, mkF, argsToLocals, Value.category, maxLocals]; done) | rfl
theorem rm0 (l : Launch) (Z : State) (a0 : Array Value) (hw : HW Z a0) (ws : List Jvm.Cond) (q0 : Int64) (q1 : Int64) (p2 : Int32) (p3 : Int32) (p4 : Int32) (z0 : Int32) (f0 : Value) (h0 : Heap) (n0 : Nat) (Z0 : n0 ≤ h0.size) (O0 : Old Z n0 h0) (SZc : Sta Z Z.heap kS0 "COMPACT_STRINGS" "Z" (.int z0)) (hz0 : ¬ z0 = 0) (SZf : Sta Z Z.heap kS3 "SIOOBE_FORMATTER" "Ljava/util/function/BiFunction;" f0) (rf0 : f0.isRef = true) (SZad : Sta Z Z.heap kS1 "$assertionsDisabled" "Z" (.int 1)) (SZhi : Sta Z Z.heap kS1 "HI_BYTE_SHIFT" "I" (.int 0)) (SZlo : Sta Z Z.heap kS1 "LO_BYTE_SHIFT" "I" (.int 8)) :
  OwnW l Z h0 x (Jvm.Cond.code x code maxLocals ret :: ws) room_1 #[(.long q0), (.long q1), (.int p2), (.int p3), (.int p4)] [] (Qrm0 Z q0 q1 p2 p3 p4 z0 f0 h0 n0) := by
 refine MetFree.of_bodySF (plainFor_of_name pn_8) hisR ?_
 intro p e s m args below meth c s₁ Bd hml0 hP hK
 obtain ⟨rfl, hZ, hh, H0, sf⟩ := hP
 have hx := Bd.exec
 have hby := Bd.bytes
 have hml : c.maxLocals = 20 := hml0
 have hown : s.vm.findClass "com/example/rungwise/rungwise/formats/CsvRecordGetPinLaw" = some m.cls := findClass_of_methodNamed Bd.named
 have hnm := (name_of_methodNamed Bd.named Bd.method).1
 have X0 : Stand p l e room_1 (s.setVm s.vm) m #[(.long q0), (.long q1), (.int p2), (.int p3), (.int p4)] below meth c s₁ [] 0 0 := Stand.of_body Bd
 have hS0 : s.Since s.vm h0.size := (State.WarmedH.refl s).since _
 have C0 : CHr Z EL1 s.vm h0 s.vm h0 := CHr.refl H0
 have e0 : s₁.heap = h0 := by rw [← hh, Bd.state]; rfl
 have N0 := Fr.nil n0
 have pre0 : ∀ t, GO p e below s₁ (mkF m 0 (la21 q0 q1 p2 p3 p4) []) t → GO p e below s₁ (entryFrame m #[(.long q0), (.long q1), (.int p2), (.int p3), (.int p4)] maxLocals) t := fun t k => castTop (ef_rm0 m q0 q1 p2 p3 p4) k
 obtain ⟨T600, h600, k600, X600, e600, E600, A600, st600⟩ := newP X0 hx hZ (wd hw 0 rfl) e0 (g := (mkF m 2 (la21 q0 q1 p2 p3 p4) [(.int 8)])) rfl (hb hby at_2) rfl (by decide) (cap := 8) (by decide) (by decide) (by decide) (by decide)
 obtain ⟨b600, g600⟩ : ∃ z, z = h0.size := ⟨_, rfl⟩
 rw [← g600] at A600 st600
 have C601 : CHr Z EL1 s.vm h0 s.vm h600 := C0.trans (CHr.ext E600 C0.1)
 have sz600 : h0.size ≤ h600.size := E600.1
 have nz600 := Nat.le_trans Z0 sz600
 have lt600 := ltA A600.lt
 have V600 : Arv Z h600 b600 k600 .char (8 : Int32) [(.int 0), (.int 0), (.int 0), (.int 0), (.int 0), (.int 0), (.int 0), (.int 0)] (.int 0) := (Arv.new A600 (by decide)).pad (pad_rep [] (.int 0) 8)
 obtain ⟨cl602, Ar602, q602, S602, M602, H602, G602⟩ := id V600
 have hin602 : ¬ ((0 : Int32) < 0 ∨ cl602.slots.size ≤ ((0 : Int32)).toNatClampNeg) := inb_of S602 ⟨by decide, by decide⟩
 obtain ⟨T603, h603, X603, e603, W603, st603⟩ := stC X600 hx hZ e600 Ar602 (j := (0 : Int32)) hin602 (g := (mkF m 12 (la22 q0 q1 p2 p3 p4 b600) [(.int ((q0.toInt32).toUInt32.toUInt16.toUInt32.toInt32)), (.int 0), (.ref b600)])) rfl rfl (hb hby at_12)
 have ge604 : n0 ≤ b600 := by omega
 have N603 := Fr.snoc X603 N0 ge604
 have C605 : CHr Z EL1 s.vm h0 s.vm h603 := C601.trans (CHr.wr W603 (Safe.arv hZ.alike V600 (by decide)) C601.1)
 have sz603 : h600.size ≤ h603.size := Nat.le_of_eq W603.size.symm
 have nz603 := Nat.le_trans nz600 sz603
 have V603 : Arv Z h603 b600 k600 .char (8 : Int32) [(.int (nar .char ((q0.toInt32).toUInt32.toUInt16.toUInt32.toInt32))), (.int 0), (.int 0), (.int 0), (.int 0), (.int 0), (.int 0), (.int 0)] (.int 0) := Arv.set Ar602 q602 S602 M602 H602 G602 (fits_nar_char _) W603 0 rfl (Nat.le_of_ble_eq_true rfl)
 obtain ⟨cl606, Ar606, q606, S606, M606, H606, G606⟩ := id V603
 have hin606 : ¬ ((1 : Int32) < 0 ∨ cl606.slots.size ≤ ((1 : Int32)).toNatClampNeg) := inb_of S606 ⟨by decide, by decide⟩
 obtain ⟨T607, h607, X607, e607, W607, st607⟩ := stC X603 hx hZ e603 Ar606 (j := (1 : Int32)) hin606 (g := (mkF m 22 (la22 q0 q1 p2 p3 p4 b600) [(.int ((((q0.toUInt64 >>> ((16 : Int32) &&& 0x3f).toInt64.toUInt64).toInt64).toInt32).toUInt32.toUInt16.toUInt32.toInt32)), (.int 1), (.ref b600)])) rfl rfl (hb hby at_22)
 have N607 := Fr.snoc X607 N603 ge604
 have C608 : CHr Z EL1 s.vm h0 s.vm h607 := C605.trans (CHr.wr W607 (Safe.arv hZ.alike V603 (by decide)) C605.1)
 have sz607 : h603.size ≤ h607.size := Nat.le_of_eq W607.size.symm
 have nz607 := Nat.le_trans nz603 sz607
 have V607 : Arv Z h607 b600 k600 .char (8 : Int32) [(.int (nar .char ((q0.toInt32).toUInt32.toUInt16.toUInt32.toInt32))), (.int (nar .char ((((q0.toUInt64 >>> ((16 : Int32) &&& 0x3f).toInt64.toUInt64).toInt64).toInt32).toUInt32.toUInt16.toUInt32.toInt32))), (.int 0), (.int 0), (.int 0), (.int 0), (.int 0), (.int 0)] (.int 0) := Arv.set Ar606 q606 S606 M606 H606 G606 (fits_nar_char _) W607 1 rfl (Nat.le_of_ble_eq_true rfl)
 obtain ⟨cl609, Ar609, q609, S609, M609, H609, G609⟩ := id V607
 have hin609 : ¬ ((2 : Int32) < 0 ∨ cl609.slots.size ≤ ((2 : Int32)).toNatClampNeg) := inb_of S609 ⟨by decide, by decide⟩
 obtain ⟨T610, h610, X610, e610, W610, st610⟩ := stC X607 hx hZ e607 Ar609 (j := (2 : Int32)) hin609 (g := (mkF m 32 (la22 q0 q1 p2 p3 p4 b600) [(.int ((((q0.toUInt64 >>> ((32 : Int32) &&& 0x3f).toInt64.toUInt64).toInt64).toInt32).toUInt32.toUInt16.toUInt32.toInt32)), (.int 2), (.ref b600)])) rfl rfl (hb hby at_32)
 have N610 := Fr.snoc X610 N607 ge604
 have C611 : CHr Z EL1 s.vm h0 s.vm h610 := C608.trans (CHr.wr W610 (Safe.arv hZ.alike V607 (by decide)) C608.1)
 have sz610 : h607.size ≤ h610.size := Nat.le_of_eq W610.size.symm
 have nz610 := Nat.le_trans nz607 sz610
 have V610 : Arv Z h610 b600 k600 .char (8 : Int32) [(.int (nar .char ((q0.toInt32).toUInt32.toUInt16.toUInt32.toInt32))), (.int (nar .char ((((q0.toUInt64 >>> ((16 : Int32) &&& 0x3f).toInt64.toUInt64).toInt64).toInt32).toUInt32.toUInt16.toUInt32.toInt32))), (.int (nar .char ((((q0.toUInt64 >>> ((32 : Int32) &&& 0x3f).toInt64.toUInt64).toInt64).toInt32).toUInt32.toUInt16.toUInt32.toInt32))), (.int 0), (.int 0), (.int 0), (.int 0), (.int 0)] (.int 0) := Arv.set Ar609 q609 S609 M609 H609 G609 (fits_nar_char _) W610 2 rfl (Nat.le_of_ble_eq_true rfl)
 obtain ⟨cl612, Ar612, q612, S612, M612, H612, G612⟩ := id V610
 have hin612 : ¬ ((3 : Int32) < 0 ∨ cl612.slots.size ≤ ((3 : Int32)).toNatClampNeg) := inb_of S612 ⟨by decide, by decide⟩
 obtain ⟨T613, h613, X613, e613, W613, st613⟩ := stC X610 hx hZ e610 Ar612 (j := (3 : Int32)) hin612 (g := (mkF m 42 (la22 q0 q1 p2 p3 p4 b600) [(.int ((((q0.toUInt64 >>> ((48 : Int32) &&& 0x3f).toInt64.toUInt64).toInt64).toInt32).toUInt32.toUInt16.toUInt32.toInt32)), (.int 3), (.ref b600)])) rfl rfl (hb hby at_42)
 have N613 := Fr.snoc X613 N610 ge604
 have C614 : CHr Z EL1 s.vm h0 s.vm h613 := C611.trans (CHr.wr W613 (Safe.arv hZ.alike V610 (by decide)) C611.1)
 have sz613 : h610.size ≤ h613.size := Nat.le_of_eq W613.size.symm
 have nz613 := Nat.le_trans nz610 sz613
 have V613 : Arv Z h613 b600 k600 .char (8 : Int32) [(.int (nar .char ((q0.toInt32).toUInt32.toUInt16.toUInt32.toInt32))), (.int (nar .char ((((q0.toUInt64 >>> ((16 : Int32) &&& 0x3f).toInt64.toUInt64).toInt64).toInt32).toUInt32.toUInt16.toUInt32.toInt32))), (.int (nar .char ((((q0.toUInt64 >>> ((32 : Int32) &&& 0x3f).toInt64.toUInt64).toInt64).toInt32).toUInt32.toUInt16.toUInt32.toInt32))), (.int (nar .char ((((q0.toUInt64 >>> ((48 : Int32) &&& 0x3f).toInt64.toUInt64).toInt64).toInt32).toUInt32.toUInt16.toUInt32.toInt32))), (.int 0), (.int 0), (.int 0), (.int 0)] (.int 0) := Arv.set Ar612 q612 S612 M612 H612 G612 (fits_nar_char _) W613 3 rfl (Nat.le_of_ble_eq_true rfl)
 obtain ⟨cl615, Ar615, q615, S615, M615, H615, G615⟩ := id V613
 have hin615 : ¬ ((4 : Int32) < 0 ∨ cl615.slots.size ≤ ((4 : Int32)).toNatClampNeg) := inb_of S615 ⟨by decide, by decide⟩
 obtain ⟨T616, h616, X616, e616, W616, st616⟩ := stC X613 hx hZ e613 Ar615 (j := (4 : Int32)) hin615 (g := (mkF m 49 (la22 q0 q1 p2 p3 p4 b600) [(.int ((q1.toInt32).toUInt32.toUInt16.toUInt32.toInt32)), (.int 4), (.ref b600)])) rfl rfl (hb hby at_49)
 have N616 := Fr.snoc X616 N613 ge604
 have C617 : CHr Z EL1 s.vm h0 s.vm h616 := C614.trans (CHr.wr W616 (Safe.arv hZ.alike V613 (by decide)) C614.1)
 have sz616 : h613.size ≤ h616.size := Nat.le_of_eq W616.size.symm
 have nz616 := Nat.le_trans nz613 sz616
 have V616 : Arv Z h616 b600 k600 .char (8 : Int32) [(.int (nar .char ((q0.toInt32).toUInt32.toUInt16.toUInt32.toInt32))), (.int (nar .char ((((q0.toUInt64 >>> ((16 : Int32) &&& 0x3f).toInt64.toUInt64).toInt64).toInt32).toUInt32.toUInt16.toUInt32.toInt32))), (.int (nar .char ((((q0.toUInt64 >>> ((32 : Int32) &&& 0x3f).toInt64.toUInt64).toInt64).toInt32).toUInt32.toUInt16.toUInt32.toInt32))), (.int (nar .char ((((q0.toUInt64 >>> ((48 : Int32) &&& 0x3f).toInt64.toUInt64).toInt64).toInt32).toUInt32.toUInt16.toUInt32.toInt32))), (.int (nar .char ((q1.toInt32).toUInt32.toUInt16.toUInt32.toInt32))), (.int 0), (.int 0), (.int 0)] (.int 0) := Arv.set Ar615 q615 S615 M615 H615 G615 (fits_nar_char _) W616 4 rfl (Nat.le_of_ble_eq_true rfl)
 obtain ⟨cl618, Ar618, q618, S618, M618, H618, G618⟩ := id V616
 have hin618 : ¬ ((5 : Int32) < 0 ∨ cl618.slots.size ≤ ((5 : Int32)).toNatClampNeg) := inb_of S618 ⟨by decide, by decide⟩
 obtain ⟨T619, h619, X619, e619, W619, st619⟩ := stC X616 hx hZ e616 Ar618 (j := (5 : Int32)) hin618 (g := (mkF m 59 (la22 q0 q1 p2 p3 p4 b600) [(.int ((((q1.toUInt64 >>> ((16 : Int32) &&& 0x3f).toInt64.toUInt64).toInt64).toInt32).toUInt32.toUInt16.toUInt32.toInt32)), (.int 5), (.ref b600)])) rfl rfl (hb hby at_59)
 have N619 := Fr.snoc X619 N616 ge604
 have C620 : CHr Z EL1 s.vm h0 s.vm h619 := C617.trans (CHr.wr W619 (Safe.arv hZ.alike V616 (by decide)) C617.1)
 have sz619 : h616.size ≤ h619.size := Nat.le_of_eq W619.size.symm
 have nz619 := Nat.le_trans nz616 sz619
 have V619 : Arv Z h619 b600 k600 .char (8 : Int32) [(.int (nar .char ((q0.toInt32).toUInt32.toUInt16.toUInt32.toInt32))), (.int (nar .char ((((q0.toUInt64 >>> ((16 : Int32) &&& 0x3f).toInt64.toUInt64).toInt64).toInt32).toUInt32.toUInt16.toUInt32.toInt32))), (.int (nar .char ((((q0.toUInt64 >>> ((32 : Int32) &&& 0x3f).toInt64.toUInt64).toInt64).toInt32).toUInt32.toUInt16.toUInt32.toInt32))), (.int (nar .char ((((q0.toUInt64 >>> ((48 : Int32) &&& 0x3f).toInt64.toUInt64).toInt64).toInt32).toUInt32.toUInt16.toUInt32.toInt32))), (.int (nar .char ((q1.toInt32).toUInt32.toUInt16.toUInt32.toInt32))), (.int (nar .char ((((q1.toUInt64 >>> ((16 : Int32) &&& 0x3f).toInt64.toUInt64).toInt64).toInt32).toUInt32.toUInt16.toUInt32.toInt32))), (.int 0), (.int 0)] (.int 0) := Arv.set Ar618 q618 S618 M618 H618 G618 (fits_nar_char _) W619 5 rfl (Nat.le_of_ble_eq_true rfl)
 obtain ⟨cl621, Ar621, q621, S621, M621, H621, G621⟩ := id V619
 have hin621 : ¬ ((6 : Int32) < 0 ∨ cl621.slots.size ≤ ((6 : Int32)).toNatClampNeg) := inb_of S621 ⟨by decide, by decide⟩
 obtain ⟨T622, h622, X622, e622, W622, st622⟩ := stC X619 hx hZ e619 Ar621 (j := (6 : Int32)) hin621 (g := (mkF m 70 (la22 q0 q1 p2 p3 p4 b600) [(.int ((((q1.toUInt64 >>> ((32 : Int32) &&& 0x3f).toInt64.toUInt64).toInt64).toInt32).toUInt32.toUInt16.toUInt32.toInt32)), (.int 6), (.ref b600)])) rfl rfl (hb hby at_70)
 have N622 := Fr.snoc X622 N619 ge604
 have C623 : CHr Z EL1 s.vm h0 s.vm h622 := C620.trans (CHr.wr W622 (Safe.arv hZ.alike V619 (by decide)) C620.1)
 have sz622 : h619.size ≤ h622.size := Nat.le_of_eq W622.size.symm
 have nz622 := Nat.le_trans nz619 sz622
 have V622 : Arv Z h622 b600 k600 .char (8 : Int32) [(.int (nar .char ((q0.toInt32).toUInt32.toUInt16.toUInt32.toInt32))), (.int (nar .char ((((q0.toUInt64 >>> ((16 : Int32) &&& 0x3f).toInt64.toUInt64).toInt64).toInt32).toUInt32.toUInt16.toUInt32.toInt32))), (.int (nar .char ((((q0.toUInt64 >>> ((32 : Int32) &&& 0x3f).toInt64.toUInt64).toInt64).toInt32).toUInt32.toUInt16.toUInt32.toInt32))), (.int (nar .char ((((q0.toUInt64 >>> ((48 : Int32) &&& 0x3f).toInt64.toUInt64).toInt64).toInt32).toUInt32.toUInt16.toUInt32.toInt32))), (.int (nar .char ((q1.toInt32).toUInt32.toUInt16.toUInt32.toInt32))), (.int (nar .char ((((q1.toUInt64 >>> ((16 : Int32) &&& 0x3f).toInt64.toUInt64).toInt64).toInt32).toUInt32.toUInt16.toUInt32.toInt32))), (.int (nar .char ((((q1.toUInt64 >>> ((32 : Int32) &&& 0x3f).toInt64.toUInt64).toInt64).toInt32).toUInt32.toUInt16.toUInt32.toInt32))), (.int 0)] (.int 0) := Arv.set Ar621 q621 S621 M621 H621 G621 (fits_nar_char _) W622 6 rfl (Nat.le_of_ble_eq_true rfl)
 obtain ⟨cl624, Ar624, q624, S624, M624, H624, G624⟩ := id V622
 have hin624 : ¬ ((7 : Int32) < 0 ∨ cl624.slots.size ≤ ((7 : Int32)).toNatClampNeg) := inb_of S624 ⟨by decide, by decide⟩
 obtain ⟨T625, h625, X625, e625, W625, st625⟩ := stC X622 hx hZ e622 Ar624 (j := (7 : Int32)) hin624 (g := (mkF m 81 (la22 q0 q1 p2 p3 p4 b600) [(.int ((((q1.toUInt64 >>> ((48 : Int32) &&& 0x3f).toInt64.toUInt64).toInt64).toInt32).toUInt32.toUInt16.toUInt32.toInt32)), (.int 7), (.ref b600)])) rfl rfl (hb hby at_81)
 have N625 := Fr.snoc X625 N622 ge604
 have C626 : CHr Z EL1 s.vm h0 s.vm h625 := C623.trans (CHr.wr W625 (Safe.arv hZ.alike V622 (by decide)) C623.1)
 have sz625 : h622.size ≤ h625.size := Nat.le_of_eq W625.size.symm
 have nz625 := Nat.le_trans nz622 sz625
 have V625 : Arv Z h625 b600 k600 .char (8 : Int32) [(.int (nar .char ((q0.toInt32).toUInt32.toUInt16.toUInt32.toInt32))), (.int (nar .char ((((q0.toUInt64 >>> ((16 : Int32) &&& 0x3f).toInt64.toUInt64).toInt64).toInt32).toUInt32.toUInt16.toUInt32.toInt32))), (.int (nar .char ((((q0.toUInt64 >>> ((32 : Int32) &&& 0x3f).toInt64.toUInt64).toInt64).toInt32).toUInt32.toUInt16.toUInt32.toInt32))), (.int (nar .char ((((q0.toUInt64 >>> ((48 : Int32) &&& 0x3f).toInt64.toUInt64).toInt64).toInt32).toUInt32.toUInt16.toUInt32.toInt32))), (.int (nar .char ((q1.toInt32).toUInt32.toUInt16.toUInt32.toInt32))), (.int (nar .char ((((q1.toUInt64 >>> ((16 : Int32) &&& 0x3f).toInt64.toUInt64).toInt64).toInt32).toUInt32.toUInt16.toUInt32.toInt32))), (.int (nar .char ((((q1.toUInt64 >>> ((32 : Int32) &&& 0x3f).toInt64.toUInt64).toInt64).toInt32).toUInt32.toUInt16.toUInt32.toInt32))), (.int (nar .char ((((q1.toUInt64 >>> ((48 : Int32) &&& 0x3f).toInt64.toUInt64).toInt64).toInt32).toUInt32.toUInt16.toUInt32.toInt32)))] (.int 0) := Arv.set Ar624 q624 S624 M624 H624 G624 (fits_nar_char _) W625 7 rfl (Nat.le_of_ble_eq_true rfl)
 obtain ⟨y0, hy0⟩ : ∃ z, z = (nar .char ((q0.toInt32).toUInt32.toUInt16.toUInt32.toInt32)) := ⟨_, rfl⟩
 have f627 : Arv Z h625 b600 k600 .char (8 : Int32) [(.int y0), (.int (nar .char ((((q0.toUInt64 >>> ((16 : Int32) &&& 0x3f).toInt64.toUInt64).toInt64).toInt32).toUInt32.toUInt16.toUInt32.toInt32))), (.int (nar .char ((((q0.toUInt64 >>> ((32 : Int32) &&& 0x3f).toInt64.toUInt64).toInt64).toInt32).toUInt32.toUInt16.toUInt32.toInt32))), (.int (nar .char ((((q0.toUInt64 >>> ((48 : Int32) &&& 0x3f).toInt64.toUInt64).toInt64).toInt32).toUInt32.toUInt16.toUInt32.toInt32))), (.int (nar .char ((q1.toInt32).toUInt32.toUInt16.toUInt32.toInt32))), (.int (nar .char ((((q1.toUInt64 >>> ((16 : Int32) &&& 0x3f).toInt64.toUInt64).toInt64).toInt32).toUInt32.toUInt16.toUInt32.toInt32))), (.int (nar .char ((((q1.toUInt64 >>> ((32 : Int32) &&& 0x3f).toInt64.toUInt64).toInt64).toInt32).toUInt32.toUInt16.toUInt32.toInt32))), (.int (nar .char ((((q1.toUInt64 >>> ((48 : Int32) &&& 0x3f).toInt64.toUInt64).toInt64).toInt32).toUInt32.toUInt16.toUInt32.toInt32)))] (.int 0) := by rw [hy0]; exact V625
 have by0 := own_narc _ _ hy0
 obtain ⟨y1, hy1⟩ : ∃ z, z = (nar .char ((((q0.toUInt64 >>> ((16 : Int32) &&& 0x3f).toInt64.toUInt64).toInt64).toInt32).toUInt32.toUInt16.toUInt32.toInt32)) := ⟨_, rfl⟩
 have f628 : Arv Z h625 b600 k600 .char (8 : Int32) [(.int y0), (.int y1), (.int (nar .char ((((q0.toUInt64 >>> ((32 : Int32) &&& 0x3f).toInt64.toUInt64).toInt64).toInt32).toUInt32.toUInt16.toUInt32.toInt32))), (.int (nar .char ((((q0.toUInt64 >>> ((48 : Int32) &&& 0x3f).toInt64.toUInt64).toInt64).toInt32).toUInt32.toUInt16.toUInt32.toInt32))), (.int (nar .char ((q1.toInt32).toUInt32.toUInt16.toUInt32.toInt32))), (.int (nar .char ((((q1.toUInt64 >>> ((16 : Int32) &&& 0x3f).toInt64.toUInt64).toInt64).toInt32).toUInt32.toUInt16.toUInt32.toInt32))), (.int (nar .char ((((q1.toUInt64 >>> ((32 : Int32) &&& 0x3f).toInt64.toUInt64).toInt64).toInt32).toUInt32.toUInt16.toUInt32.toInt32))), (.int (nar .char ((((q1.toUInt64 >>> ((48 : Int32) &&& 0x3f).toInt64.toUInt64).toInt64).toInt32).toUInt32.toUInt16.toUInt32.toInt32)))] (.int 0) := by rw [hy1]; exact f627
 have by1 := own_narc _ _ hy1
 obtain ⟨y2, hy2⟩ : ∃ z, z = (nar .char ((((q0.toUInt64 >>> ((32 : Int32) &&& 0x3f).toInt64.toUInt64).toInt64).toInt32).toUInt32.toUInt16.toUInt32.toInt32)) := ⟨_, rfl⟩
 have f629 : Arv Z h625 b600 k600 .char (8 : Int32) [(.int y0), (.int y1), (.int y2), (.int (nar .char ((((q0.toUInt64 >>> ((48 : Int32) &&& 0x3f).toInt64.toUInt64).toInt64).toInt32).toUInt32.toUInt16.toUInt32.toInt32))), (.int (nar .char ((q1.toInt32).toUInt32.toUInt16.toUInt32.toInt32))), (.int (nar .char ((((q1.toUInt64 >>> ((16 : Int32) &&& 0x3f).toInt64.toUInt64).toInt64).toInt32).toUInt32.toUInt16.toUInt32.toInt32))), (.int (nar .char ((((q1.toUInt64 >>> ((32 : Int32) &&& 0x3f).toInt64.toUInt64).toInt64).toInt32).toUInt32.toUInt16.toUInt32.toInt32))), (.int (nar .char ((((q1.toUInt64 >>> ((48 : Int32) &&& 0x3f).toInt64.toUInt64).toInt64).toInt32).toUInt32.toUInt16.toUInt32.toInt32)))] (.int 0) := by rw [hy2]; exact f628
 have by2 := own_narc _ _ hy2
 obtain ⟨y3, hy3⟩ : ∃ z, z = (nar .char ((((q0.toUInt64 >>> ((48 : Int32) &&& 0x3f).toInt64.toUInt64).toInt64).toInt32).toUInt32.toUInt16.toUInt32.toInt32)) := ⟨_, rfl⟩
 have f630 : Arv Z h625 b600 k600 .char (8 : Int32) [(.int y0), (.int y1), (.int y2), (.int y3), (.int (nar .char ((q1.toInt32).toUInt32.toUInt16.toUInt32.toInt32))), (.int (nar .char ((((q1.toUInt64 >>> ((16 : Int32) &&& 0x3f).toInt64.toUInt64).toInt64).toInt32).toUInt32.toUInt16.toUInt32.toInt32))), (.int (nar .char ((((q1.toUInt64 >>> ((32 : Int32) &&& 0x3f).toInt64.toUInt64).toInt64).toInt32).toUInt32.toUInt16.toUInt32.toInt32))), (.int (nar .char ((((q1.toUInt64 >>> ((48 : Int32) &&& 0x3f).toInt64.toUInt64).toInt64).toInt32).toUInt32.toUInt16.toUInt32.toInt32)))] (.int 0) := by rw [hy3]; exact f629
 have by3 := own_narc _ _ hy3
 obtain ⟨y4, hy4⟩ : ∃ z, z = (nar .char ((q1.toInt32).toUInt32.toUInt16.toUInt32.toInt32)) := ⟨_, rfl⟩
 have f631 : Arv Z h625 b600 k600 .char (8 : Int32) [(.int y0), (.int y1), (.int y2), (.int y3), (.int y4), (.int (nar .char ((((q1.toUInt64 >>> ((16 : Int32) &&& 0x3f).toInt64.toUInt64).toInt64).toInt32).toUInt32.toUInt16.toUInt32.toInt32))), (.int (nar .char ((((q1.toUInt64 >>> ((32 : Int32) &&& 0x3f).toInt64.toUInt64).toInt64).toInt32).toUInt32.toUInt16.toUInt32.toInt32))), (.int (nar .char ((((q1.toUInt64 >>> ((48 : Int32) &&& 0x3f).toInt64.toUInt64).toInt64).toInt32).toUInt32.toUInt16.toUInt32.toInt32)))] (.int 0) := by rw [hy4]; exact f630
 have by4 := own_narc _ _ hy4
 obtain ⟨y5, hy5⟩ : ∃ z, z = (nar .char ((((q1.toUInt64 >>> ((16 : Int32) &&& 0x3f).toInt64.toUInt64).toInt64).toInt32).toUInt32.toUInt16.toUInt32.toInt32)) := ⟨_, rfl⟩
 have f632 : Arv Z h625 b600 k600 .char (8 : Int32) [(.int y0), (.int y1), (.int y2), (.int y3), (.int y4), (.int y5), (.int (nar .char ((((q1.toUInt64 >>> ((32 : Int32) &&& 0x3f).toInt64.toUInt64).toInt64).toInt32).toUInt32.toUInt16.toUInt32.toInt32))), (.int (nar .char ((((q1.toUInt64 >>> ((48 : Int32) &&& 0x3f).toInt64.toUInt64).toInt64).toInt32).toUInt32.toUInt16.toUInt32.toInt32)))] (.int 0) := by rw [hy5]; exact f631
 have by5 := own_narc _ _ hy5
 obtain ⟨y6, hy6⟩ : ∃ z, z = (nar .char ((((q1.toUInt64 >>> ((32 : Int32) &&& 0x3f).toInt64.toUInt64).toInt64).toInt32).toUInt32.toUInt16.toUInt32.toInt32)) := ⟨_, rfl⟩
 have f633 : Arv Z h625 b600 k600 .char (8 : Int32) [(.int y0), (.int y1), (.int y2), (.int y3), (.int y4), (.int y5), (.int y6), (.int (nar .char ((((q1.toUInt64 >>> ((48 : Int32) &&& 0x3f).toInt64.toUInt64).toInt64).toInt32).toUInt32.toUInt16.toUInt32.toInt32)))] (.int 0) := by rw [hy6]; exact f632
 have by6 := own_narc _ _ hy6
 obtain ⟨y7, hy7⟩ : ∃ z, z = (nar .char ((((q1.toUInt64 >>> ((48 : Int32) &&& 0x3f).toInt64.toUInt64).toInt64).toInt32).toUInt32.toUInt16.toUInt32.toInt32)) := ⟨_, rfl⟩
 have f634 : Arv Z h625 b600 k600 .char (8 : Int32) [(.int y0), (.int y1), (.int y2), (.int y3), (.int y4), (.int y5), (.int y6), (.int y7)] (.int 0) := by rw [hy7]; exact f633
 have by7 := own_narc _ _ hy7
 obtain ⟨l0, hl0⟩ : ∃ z, z = ((p2 &&& (2147483647 : Int32)) % (3 : Int32)) := ⟨_, rfl⟩
 have g0 := own_three _ _ hl0
 obtain ⟨l1, hl1⟩ : ∃ z, z = ((((p2.toUInt32 >>> ((8 : Int32) &&& 31).toUInt32).toInt32) &&& (2147483647 : Int32)) % (3 : Int32)) := ⟨_, rfl⟩
 have g1 := own_three _ _ hl1
 obtain ⟨l2, hl2⟩ : ∃ z, z = ((((p2.toUInt32 >>> ((16 : Int32) &&& 31).toUInt32).toInt32) &&& (2147483647 : Int32)) % (3 : Int32)) := ⟨_, rfl⟩
 have g2 := own_three _ _ hl2
 obtain ⟨ee1, hee1⟩ : ∃ z, z = ((l0 + (1 : Int32)) + l1) := ⟨_, rfl⟩
 obtain ⟨ee2, hee2⟩ : ∃ z, z = ((ee1 + (1 : Int32)) + l2) := ⟨_, rfl⟩
 obtain ⟨T635, h635, k635, X635, e635, E635, A635, st635⟩ := newP X625 hx hZ (wd hw 2 rfl) e625 (g := (mkF m 138 (la28 q0 q1 p2 p3 p4 b600 l0 l1 l2 l0 ee1 ee2) [(.int 3)])) rfl (hb hby at_138) rfl (by decide) (cap := 3) (by decide) (by decide) (by decide) (by decide)
 obtain ⟨b635, g635⟩ : ∃ z, z = h625.size := ⟨_, rfl⟩
 rw [← g635] at A635 st635
 have C636 : CHr Z EL1 s.vm h0 s.vm h635 := C626.trans (CHr.ext E635 C626.1)
 have sz635 : h625.size ≤ h635.size := E635.1
 have nz635 := Nat.le_trans nz625 sz635
 have lt635 := ltA A635.lt
 have V635 : Arv Z h635 b635 k635 .int (3 : Int32) [(.int 0), (.int 0), (.int 0)] (.int 0) := (Arv.new A635 (by decide)).pad (pad_rep [] (.int 0) 3)
 obtain ⟨cl637, Ar637, q637, S637, M637, H637, G637⟩ := id V635
 have hin637 : ¬ ((0 : Int32) < 0 ∨ cl637.slots.size ≤ ((0 : Int32)).toNatClampNeg) := inb_of S637 ⟨by decide, by decide⟩
 obtain ⟨T638, h638, X638, e638, W638, st638⟩ := stI X635 hx hZ e635 Ar637 (j := (0 : Int32)) hin637 (g := (mkF m 147 (la29 q0 q1 p2 p3 p4 b600 l0 l1 l2 l0 ee1 ee2 b635) [(.int l0), (.int 0), (.ref b635)])) rfl rfl (hb hby at_147)
 have ge639 : n0 ≤ b635 := by omega
 have N638 := Fr.snoc X638 N625 ge639
 have C640 : CHr Z EL1 s.vm h0 s.vm h638 := C636.trans (CHr.wr W638 (Safe.arv hZ.alike V635 (by decide)) C636.1)
 have sz638 : h635.size ≤ h638.size := Nat.le_of_eq W638.size.symm
 have nz638 := Nat.le_trans nz635 sz638
 have V638 : Arv Z h638 b635 k635 .int (3 : Int32) [(.int l0), (.int 0), (.int 0)] (.int 0) := Arv.set Ar637 q637 S637 M637 H637 G637 rfl W638 0 rfl (Nat.le_of_ble_eq_true rfl)
 obtain ⟨cl641, Ar641, q641, S641, M641, H641, G641⟩ := id V638
 have hin641 : ¬ ((1 : Int32) < 0 ∨ cl641.slots.size ≤ ((1 : Int32)).toNatClampNeg) := inb_of S641 ⟨by decide, by decide⟩
 obtain ⟨T642, h642, X642, e642, W642, st642⟩ := stI X638 hx hZ e638 Ar641 (j := (1 : Int32)) hin641 (g := (mkF m 153 (la29 q0 q1 p2 p3 p4 b600 l0 l1 l2 l0 ee1 ee2 b635) [(.int ee1), (.int 1), (.ref b635)])) rfl rfl (hb hby at_153)
 have N642 := Fr.snoc X642 N638 ge639
 have C643 : CHr Z EL1 s.vm h0 s.vm h642 := C640.trans (CHr.wr W642 (Safe.arv hZ.alike V638 (by decide)) C640.1)
 have sz642 : h638.size ≤ h642.size := Nat.le_of_eq W642.size.symm
 have nz642 := Nat.le_trans nz638 sz642
 have V642 : Arv Z h642 b635 k635 .int (3 : Int32) [(.int l0), (.int ee1), (.int 0)] (.int 0) := Arv.set Ar641 q641 S641 M641 H641 G641 rfl W642 1 rfl (Nat.le_of_ble_eq_true rfl)
 obtain ⟨cl644, Ar644, q644, S644, M644, H644, G644⟩ := id V642
 have hin644 : ¬ ((2 : Int32) < 0 ∨ cl644.slots.size ≤ ((2 : Int32)).toNatClampNeg) := inb_of S644 ⟨by decide, by decide⟩
 obtain ⟨T645, h645, X645, e645, W645, st645⟩ := stI X642 hx hZ e642 Ar644 (j := (2 : Int32)) hin644 (g := (mkF m 159 (la29 q0 q1 p2 p3 p4 b600 l0 l1 l2 l0 ee1 ee2 b635) [(.int ee2), (.int 2), (.ref b635)])) rfl rfl (hb hby at_159)
 have N645 := Fr.snoc X645 N642 ge639
 have C646 : CHr Z EL1 s.vm h0 s.vm h645 := C643.trans (CHr.wr W645 (Safe.arv hZ.alike V642 (by decide)) C643.1)
 have sz645 : h642.size ≤ h645.size := Nat.le_of_eq W645.size.symm
 have nz645 := Nat.le_trans nz642 sz645
 have V645 : Arv Z h645 b635 k635 .int (3 : Int32) [(.int l0), (.int ee1), (.int ee2)] (.int 0) := Arv.set Ar644 q644 S644 M644 H644 G644 rfl W645 2 rfl (Nat.le_of_ble_eq_true rfl)
 obtain ⟨ii, hii⟩ : ∃ z, z = ((p3 &&& (2147483647 : Int32)) % (3 : Int32)) := ⟨_, rfl⟩
 have gi := own_three _ _ hii
 have pre647 : ∀ t, GO p e below T645 (mkF m 169 (la30 q0 q1 p2 p3 p4 b600 l0 l1 l2 l0 ee1 ee2 b635 ii) []) t → GO p e below s₁ (entryFrame m #[(.long q0), (.long q1), (.int p2), (.int p3), (.int p4)] maxLocals) t := by
  intro t kt
  refine pre0 t ?_
  show GO p e below s₁ (mkF m 0 (la21 q0 q1 p2 p3 p4) []) _
  refine XS.bipush X0.here hx rfl (hb hby at_0) ?_
  show GO p e below s₁ (mkF m 2 (la21 q0 q1 p2 p3 p4) [(.int 8)]) _
  refine st600 _ ?_
  show GO p e below T600 (mkF m 4 (la21 q0 q1 p2 p3 p4) [(.ref b600)]) _
  refine XS.astore X600.here hx rfl (hb hby at_4) rfl rfl (l' := (la22 q0 q1 p2 p3 p4 b600)) rfl ?_
  show GO p e below T600 (mkF m 6 (la22 q0 q1 p2 p3 p4 b600) []) _
  refine XS.aload X600.here hx rfl (hb hby at_6) rfl rfl ?_
  show GO p e below T600 (mkF m 8 (la22 q0 q1 p2 p3 p4 b600) [(.ref b600)]) _
  refine XS.iconst X600.here hx rfl (hb hby at_8) ?_
  show GO p e below T600 (mkF m 9 (la22 q0 q1 p2 p3 p4 b600) [(.int 0), (.ref b600)]) _
  refine XS.lloadN X600.here hx rfl (hb hby at_9) rfl ?_
  show GO p e below T600 (mkF m 10 (la22 q0 q1 p2 p3 p4 b600) [(.long q0), (.int 0), (.ref b600)]) _
  refine XS.l2i X600.here hx rfl (hb hby at_10) rfl ?_
  show GO p e below T600 (mkF m 11 (la22 q0 q1 p2 p3 p4 b600) [(.int (q0.toInt32)), (.int 0), (.ref b600)]) _
  refine XS.i2c X600.here hx rfl (hb hby at_11) rfl ?_
  show GO p e below T600 (mkF m 12 (la22 q0 q1 p2 p3 p4 b600) [(.int ((q0.toInt32).toUInt32.toUInt16.toUInt32.toInt32)), (.int 0), (.ref b600)]) _
  refine st603 _ ?_
  show GO p e below T603 (mkF m 13 (la22 q0 q1 p2 p3 p4 b600) []) _
  refine XS.aload X603.here hx rfl (hb hby at_13) rfl rfl ?_
  show GO p e below T603 (mkF m 15 (la22 q0 q1 p2 p3 p4 b600) [(.ref b600)]) _
  refine XS.iconst X603.here hx rfl (hb hby at_15) ?_
  show GO p e below T603 (mkF m 16 (la22 q0 q1 p2 p3 p4 b600) [(.int 1), (.ref b600)]) _
  refine XS.lloadN X603.here hx rfl (hb hby at_16) rfl ?_
  show GO p e below T603 (mkF m 17 (la22 q0 q1 p2 p3 p4 b600) [(.long q0), (.int 1), (.ref b600)]) _
  refine XS.bipush X603.here hx rfl (hb hby at_17) ?_
  show GO p e below T603 (mkF m 19 (la22 q0 q1 p2 p3 p4 b600) [(.int 16), (.long q0), (.int 1), (.ref b600)]) _
  refine XS.lushr X603.here hx rfl (hb hby at_19) rfl ?_
  show GO p e below T603 (mkF m 20 (la22 q0 q1 p2 p3 p4 b600) [(.long ((q0.toUInt64 >>> ((16 : Int32) &&& 0x3f).toInt64.toUInt64).toInt64)), (.int 1), (.ref b600)]) _
  refine XS.l2i X603.here hx rfl (hb hby at_20) rfl ?_
  show GO p e below T603 (mkF m 21 (la22 q0 q1 p2 p3 p4 b600) [(.int (((q0.toUInt64 >>> ((16 : Int32) &&& 0x3f).toInt64.toUInt64).toInt64).toInt32)), (.int 1), (.ref b600)]) _
  refine XS.i2c X603.here hx rfl (hb hby at_21) rfl ?_
  show GO p e below T603 (mkF m 22 (la22 q0 q1 p2 p3 p4 b600) [(.int ((((q0.toUInt64 >>> ((16 : Int32) &&& 0x3f).toInt64.toUInt64).toInt64).toInt32).toUInt32.toUInt16.toUInt32.toInt32)), (.int 1), (.ref b600)]) _
  refine st607 _ ?_
  show GO p e below T607 (mkF m 23 (la22 q0 q1 p2 p3 p4 b600) []) _
  refine XS.aload X607.here hx rfl (hb hby at_23) rfl rfl ?_
  show GO p e below T607 (mkF m 25 (la22 q0 q1 p2 p3 p4 b600) [(.ref b600)]) _
  refine XS.iconst X607.here hx rfl (hb hby at_25) ?_
  show GO p e below T607 (mkF m 26 (la22 q0 q1 p2 p3 p4 b600) [(.int 2), (.ref b600)]) _
  refine XS.lloadN X607.here hx rfl (hb hby at_26) rfl ?_
  show GO p e below T607 (mkF m 27 (la22 q0 q1 p2 p3 p4 b600) [(.long q0), (.int 2), (.ref b600)]) _
  refine XS.bipush X607.here hx rfl (hb hby at_27) ?_
  show GO p e below T607 (mkF m 29 (la22 q0 q1 p2 p3 p4 b600) [(.int 32), (.long q0), (.int 2), (.ref b600)]) _
  refine XS.lushr X607.here hx rfl (hb hby at_29) rfl ?_
  show GO p e below T607 (mkF m 30 (la22 q0 q1 p2 p3 p4 b600) [(.long ((q0.toUInt64 >>> ((32 : Int32) &&& 0x3f).toInt64.toUInt64).toInt64)), (.int 2), (.ref b600)]) _
  refine XS.l2i X607.here hx rfl (hb hby at_30) rfl ?_
  show GO p e below T607 (mkF m 31 (la22 q0 q1 p2 p3 p4 b600) [(.int (((q0.toUInt64 >>> ((32 : Int32) &&& 0x3f).toInt64.toUInt64).toInt64).toInt32)), (.int 2), (.ref b600)]) _
  refine XS.i2c X607.here hx rfl (hb hby at_31) rfl ?_
  show GO p e below T607 (mkF m 32 (la22 q0 q1 p2 p3 p4 b600) [(.int ((((q0.toUInt64 >>> ((32 : Int32) &&& 0x3f).toInt64.toUInt64).toInt64).toInt32).toUInt32.toUInt16.toUInt32.toInt32)), (.int 2), (.ref b600)]) _
  refine st610 _ ?_
  show GO p e below T610 (mkF m 33 (la22 q0 q1 p2 p3 p4 b600) []) _
  refine XS.aload X610.here hx rfl (hb hby at_33) rfl rfl ?_
  show GO p e below T610 (mkF m 35 (la22 q0 q1 p2 p3 p4 b600) [(.ref b600)]) _
  refine XS.iconst X610.here hx rfl (hb hby at_35) ?_
  show GO p e below T610 (mkF m 36 (la22 q0 q1 p2 p3 p4 b600) [(.int 3), (.ref b600)]) _
  refine XS.lloadN X610.here hx rfl (hb hby at_36) rfl ?_
  show GO p e below T610 (mkF m 37 (la22 q0 q1 p2 p3 p4 b600) [(.long q0), (.int 3), (.ref b600)]) _
  refine XS.bipush X610.here hx rfl (hb hby at_37) ?_
  show GO p e below T610 (mkF m 39 (la22 q0 q1 p2 p3 p4 b600) [(.int 48), (.long q0), (.int 3), (.ref b600)]) _
  refine XS.lushr X610.here hx rfl (hb hby at_39) rfl ?_
  show GO p e below T610 (mkF m 40 (la22 q0 q1 p2 p3 p4 b600) [(.long ((q0.toUInt64 >>> ((48 : Int32) &&& 0x3f).toInt64.toUInt64).toInt64)), (.int 3), (.ref b600)]) _
  refine XS.l2i X610.here hx rfl (hb hby at_40) rfl ?_
  show GO p e below T610 (mkF m 41 (la22 q0 q1 p2 p3 p4 b600) [(.int (((q0.toUInt64 >>> ((48 : Int32) &&& 0x3f).toInt64.toUInt64).toInt64).toInt32)), (.int 3), (.ref b600)]) _
  refine XS.i2c X610.here hx rfl (hb hby at_41) rfl ?_
  show GO p e below T610 (mkF m 42 (la22 q0 q1 p2 p3 p4 b600) [(.int ((((q0.toUInt64 >>> ((48 : Int32) &&& 0x3f).toInt64.toUInt64).toInt64).toInt32).toUInt32.toUInt16.toUInt32.toInt32)), (.int 3), (.ref b600)]) _
  refine st613 _ ?_
  show GO p e below T613 (mkF m 43 (la22 q0 q1 p2 p3 p4 b600) []) _
  refine XS.aload X613.here hx rfl (hb hby at_43) rfl rfl ?_
  show GO p e below T613 (mkF m 45 (la22 q0 q1 p2 p3 p4 b600) [(.ref b600)]) _
  refine XS.iconst X613.here hx rfl (hb hby at_45) ?_
  show GO p e below T613 (mkF m 46 (la22 q0 q1 p2 p3 p4 b600) [(.int 4), (.ref b600)]) _
  refine XS.lloadN X613.here hx rfl (hb hby at_46) rfl ?_
  show GO p e below T613 (mkF m 47 (la22 q0 q1 p2 p3 p4 b600) [(.long q1), (.int 4), (.ref b600)]) _
  refine XS.l2i X613.here hx rfl (hb hby at_47) rfl ?_
  show GO p e below T613 (mkF m 48 (la22 q0 q1 p2 p3 p4 b600) [(.int (q1.toInt32)), (.int 4), (.ref b600)]) _
  refine XS.i2c X613.here hx rfl (hb hby at_48) rfl ?_
  show GO p e below T613 (mkF m 49 (la22 q0 q1 p2 p3 p4 b600) [(.int ((q1.toInt32).toUInt32.toUInt16.toUInt32.toInt32)), (.int 4), (.ref b600)]) _
  refine st616 _ ?_
  show GO p e below T616 (mkF m 50 (la22 q0 q1 p2 p3 p4 b600) []) _
  refine XS.aload X616.here hx rfl (hb hby at_50) rfl rfl ?_
  show GO p e below T616 (mkF m 52 (la22 q0 q1 p2 p3 p4 b600) [(.ref b600)]) _
  refine XS.iconst X616.here hx rfl (hb hby at_52) ?_
  show GO p e below T616 (mkF m 53 (la22 q0 q1 p2 p3 p4 b600) [(.int 5), (.ref b600)]) _
  refine XS.lloadN X616.here hx rfl (hb hby at_53) rfl ?_
  show GO p e below T616 (mkF m 54 (la22 q0 q1 p2 p3 p4 b600) [(.long q1), (.int 5), (.ref b600)]) _
  refine XS.bipush X616.here hx rfl (hb hby at_54) ?_
  show GO p e below T616 (mkF m 56 (la22 q0 q1 p2 p3 p4 b600) [(.int 16), (.long q1), (.int 5), (.ref b600)]) _
  refine XS.lushr X616.here hx rfl (hb hby at_56) rfl ?_
  show GO p e below T616 (mkF m 57 (la22 q0 q1 p2 p3 p4 b600) [(.long ((q1.toUInt64 >>> ((16 : Int32) &&& 0x3f).toInt64.toUInt64).toInt64)), (.int 5), (.ref b600)]) _
  refine XS.l2i X616.here hx rfl (hb hby at_57) rfl ?_
  show GO p e below T616 (mkF m 58 (la22 q0 q1 p2 p3 p4 b600) [(.int (((q1.toUInt64 >>> ((16 : Int32) &&& 0x3f).toInt64.toUInt64).toInt64).toInt32)), (.int 5), (.ref b600)]) _
  refine XS.i2c X616.here hx rfl (hb hby at_58) rfl ?_
  show GO p e below T616 (mkF m 59 (la22 q0 q1 p2 p3 p4 b600) [(.int ((((q1.toUInt64 >>> ((16 : Int32) &&& 0x3f).toInt64.toUInt64).toInt64).toInt32).toUInt32.toUInt16.toUInt32.toInt32)), (.int 5), (.ref b600)]) _
  refine st619 _ ?_
  show GO p e below T619 (mkF m 60 (la22 q0 q1 p2 p3 p4 b600) []) _
  refine XS.aload X619.here hx rfl (hb hby at_60) rfl rfl ?_
  show GO p e below T619 (mkF m 62 (la22 q0 q1 p2 p3 p4 b600) [(.ref b600)]) _
  refine XS.bipush X619.here hx rfl (hb hby at_62) ?_
  show GO p e below T619 (mkF m 64 (la22 q0 q1 p2 p3 p4 b600) [(.int 6), (.ref b600)]) _
  refine XS.lloadN X619.here hx rfl (hb hby at_64) rfl ?_
  show GO p e below T619 (mkF m 65 (la22 q0 q1 p2 p3 p4 b600) [(.long q1), (.int 6), (.ref b600)]) _
  refine XS.bipush X619.here hx rfl (hb hby at_65) ?_
  show GO p e below T619 (mkF m 67 (la22 q0 q1 p2 p3 p4 b600) [(.int 32), (.long q1), (.int 6), (.ref b600)]) _
  refine XS.lushr X619.here hx rfl (hb hby at_67) rfl ?_
  show GO p e below T619 (mkF m 68 (la22 q0 q1 p2 p3 p4 b600) [(.long ((q1.toUInt64 >>> ((32 : Int32) &&& 0x3f).toInt64.toUInt64).toInt64)), (.int 6), (.ref b600)]) _
  refine XS.l2i X619.here hx rfl (hb hby at_68) rfl ?_
  show GO p e below T619 (mkF m 69 (la22 q0 q1 p2 p3 p4 b600) [(.int (((q1.toUInt64 >>> ((32 : Int32) &&& 0x3f).toInt64.toUInt64).toInt64).toInt32)), (.int 6), (.ref b600)]) _
  refine XS.i2c X619.here hx rfl (hb hby at_69) rfl ?_
  show GO p e below T619 (mkF m 70 (la22 q0 q1 p2 p3 p4 b600) [(.int ((((q1.toUInt64 >>> ((32 : Int32) &&& 0x3f).toInt64.toUInt64).toInt64).toInt32).toUInt32.toUInt16.toUInt32.toInt32)), (.int 6), (.ref b600)]) _
  refine st622 _ ?_
  show GO p e below T622 (mkF m 71 (la22 q0 q1 p2 p3 p4 b600) []) _
  refine XS.aload X622.here hx rfl (hb hby at_71) rfl rfl ?_
  show GO p e below T622 (mkF m 73 (la22 q0 q1 p2 p3 p4 b600) [(.ref b600)]) _
  refine XS.bipush X622.here hx rfl (hb hby at_73) ?_
  show GO p e below T622 (mkF m 75 (la22 q0 q1 p2 p3 p4 b600) [(.int 7), (.ref b600)]) _
  refine XS.lloadN X622.here hx rfl (hb hby at_75) rfl ?_
  show GO p e below T622 (mkF m 76 (la22 q0 q1 p2 p3 p4 b600) [(.long q1), (.int 7), (.ref b600)]) _
  refine XS.bipush X622.here hx rfl (hb hby at_76) ?_
  show GO p e below T622 (mkF m 78 (la22 q0 q1 p2 p3 p4 b600) [(.int 48), (.long q1), (.int 7), (.ref b600)]) _
  refine XS.lushr X622.here hx rfl (hb hby at_78) rfl ?_
  show GO p e below T622 (mkF m 79 (la22 q0 q1 p2 p3 p4 b600) [(.long ((q1.toUInt64 >>> ((48 : Int32) &&& 0x3f).toInt64.toUInt64).toInt64)), (.int 7), (.ref b600)]) _
  refine XS.l2i X622.here hx rfl (hb hby at_79) rfl ?_
  show GO p e below T622 (mkF m 80 (la22 q0 q1 p2 p3 p4 b600) [(.int (((q1.toUInt64 >>> ((48 : Int32) &&& 0x3f).toInt64.toUInt64).toInt64).toInt32)), (.int 7), (.ref b600)]) _
  refine XS.i2c X622.here hx rfl (hb hby at_80) rfl ?_
  show GO p e below T622 (mkF m 81 (la22 q0 q1 p2 p3 p4 b600) [(.int ((((q1.toUInt64 >>> ((48 : Int32) &&& 0x3f).toInt64.toUInt64).toInt64).toInt32).toUInt32.toUInt16.toUInt32.toInt32)), (.int 7), (.ref b600)]) _
  refine st625 _ ?_
  show GO p e below T625 (mkF m 82 (la22 q0 q1 p2 p3 p4 b600) []) _
  refine XS.iload X625.here hx rfl (hb hby at_82) rfl ?_
  show GO p e below T625 (mkF m 84 (la22 q0 q1 p2 p3 p4 b600) [(.int p2)]) _
  refine X625.ldcInt hx hown (mvT hZ (wd hw 1 rfl)) (g := (mkF m 84 (la22 q0 q1 p2 p3 p4 b600) [(.int p2)])) rfl (hb hby at_84) _ ?_
  show GO p e below T625 (mkF m 86 (la22 q0 q1 p2 p3 p4 b600) [(.int 2147483647), (.int p2)]) _
  refine XS.iand X625.here hx rfl (hb hby at_86) rfl ?_
  show GO p e below T625 (mkF m 87 (la22 q0 q1 p2 p3 p4 b600) [(.int (p2 &&& (2147483647 : Int32)))]) _
  refine XS.iconst X625.here hx rfl (hb hby at_87) ?_
  show GO p e below T625 (mkF m 88 (la22 q0 q1 p2 p3 p4 b600) [(.int 3), (.int (p2 &&& (2147483647 : Int32)))]) _
  refine iremM X625 hx rfl (hb hby at_88) rfl (by decide) ?_
  show GO p e below T625 (mkF m 89 (la22 q0 q1 p2 p3 p4 b600) [(.int ((p2 &&& (2147483647 : Int32)) % (3 : Int32)))]) _
  refine XS.istore X625.here hx rfl (hb hby at_89) rfl (l' := (la23 q0 q1 p2 p3 p4 b600 ((p2 &&& (2147483647 : Int32)) % (3 : Int32)))) rfl ?_
  show GO p e below T625 (mkF m 91 (la23 q0 q1 p2 p3 p4 b600 ((p2 &&& (2147483647 : Int32)) % (3 : Int32))) []) _
  refine XS.iload X625.here hx rfl (hb hby at_91) rfl ?_
  show GO p e below T625 (mkF m 93 (la23 q0 q1 p2 p3 p4 b600 ((p2 &&& (2147483647 : Int32)) % (3 : Int32))) [(.int p2)]) _
  refine XS.bipush X625.here hx rfl (hb hby at_93) ?_
  show GO p e below T625 (mkF m 95 (la23 q0 q1 p2 p3 p4 b600 ((p2 &&& (2147483647 : Int32)) % (3 : Int32))) [(.int 8), (.int p2)]) _
  refine XS.iushr X625.here hx rfl (hb hby at_95) rfl ?_
  show GO p e below T625 (mkF m 96 (la23 q0 q1 p2 p3 p4 b600 ((p2 &&& (2147483647 : Int32)) % (3 : Int32))) [(.int ((p2.toUInt32 >>> ((8 : Int32) &&& 31).toUInt32).toInt32))]) _
  refine X625.ldcInt hx hown (mvT hZ (wd hw 1 rfl)) (g := (mkF m 96 (la23 q0 q1 p2 p3 p4 b600 ((p2 &&& (2147483647 : Int32)) % (3 : Int32))) [(.int ((p2.toUInt32 >>> ((8 : Int32) &&& 31).toUInt32).toInt32))])) rfl (hb hby at_96) _ ?_
  show GO p e below T625 (mkF m 98 (la23 q0 q1 p2 p3 p4 b600 ((p2 &&& (2147483647 : Int32)) % (3 : Int32))) [(.int 2147483647), (.int ((p2.toUInt32 >>> ((8 : Int32) &&& 31).toUInt32).toInt32))]) _
  refine XS.iand X625.here hx rfl (hb hby at_98) rfl ?_
  show GO p e below T625 (mkF m 99 (la23 q0 q1 p2 p3 p4 b600 ((p2 &&& (2147483647 : Int32)) % (3 : Int32))) [(.int (((p2.toUInt32 >>> ((8 : Int32) &&& 31).toUInt32).toInt32) &&& (2147483647 : Int32)))]) _
  refine XS.iconst X625.here hx rfl (hb hby at_99) ?_
  show GO p e below T625 (mkF m 100 (la23 q0 q1 p2 p3 p4 b600 ((p2 &&& (2147483647 : Int32)) % (3 : Int32))) [(.int 3), (.int (((p2.toUInt32 >>> ((8 : Int32) &&& 31).toUInt32).toInt32) &&& (2147483647 : Int32)))]) _
  refine iremM X625 hx rfl (hb hby at_100) rfl (by decide) ?_
  show GO p e below T625 (mkF m 101 (la23 q0 q1 p2 p3 p4 b600 ((p2 &&& (2147483647 : Int32)) % (3 : Int32))) [(.int ((((p2.toUInt32 >>> ((8 : Int32) &&& 31).toUInt32).toInt32) &&& (2147483647 : Int32)) % (3 : Int32)))]) _
  refine XS.istore X625.here hx rfl (hb hby at_101) rfl (l' := (la24 q0 q1 p2 p3 p4 b600 ((p2 &&& (2147483647 : Int32)) % (3 : Int32)) ((((p2.toUInt32 >>> ((8 : Int32) &&& 31).toUInt32).toInt32) &&& (2147483647 : Int32)) % (3 : Int32)))) rfl ?_
  show GO p e below T625 (mkF m 103 (la24 q0 q1 p2 p3 p4 b600 ((p2 &&& (2147483647 : Int32)) % (3 : Int32)) ((((p2.toUInt32 >>> ((8 : Int32) &&& 31).toUInt32).toInt32) &&& (2147483647 : Int32)) % (3 : Int32))) []) _
  refine XS.iload X625.here hx rfl (hb hby at_103) rfl ?_
  show GO p e below T625 (mkF m 105 (la24 q0 q1 p2 p3 p4 b600 ((p2 &&& (2147483647 : Int32)) % (3 : Int32)) ((((p2.toUInt32 >>> ((8 : Int32) &&& 31).toUInt32).toInt32) &&& (2147483647 : Int32)) % (3 : Int32))) [(.int p2)]) _
  refine XS.bipush X625.here hx rfl (hb hby at_105) ?_
  show GO p e below T625 (mkF m 107 (la24 q0 q1 p2 p3 p4 b600 ((p2 &&& (2147483647 : Int32)) % (3 : Int32)) ((((p2.toUInt32 >>> ((8 : Int32) &&& 31).toUInt32).toInt32) &&& (2147483647 : Int32)) % (3 : Int32))) [(.int 16), (.int p2)]) _
  refine XS.iushr X625.here hx rfl (hb hby at_107) rfl ?_
  show GO p e below T625 (mkF m 108 (la24 q0 q1 p2 p3 p4 b600 ((p2 &&& (2147483647 : Int32)) % (3 : Int32)) ((((p2.toUInt32 >>> ((8 : Int32) &&& 31).toUInt32).toInt32) &&& (2147483647 : Int32)) % (3 : Int32))) [(.int ((p2.toUInt32 >>> ((16 : Int32) &&& 31).toUInt32).toInt32))]) _
  refine X625.ldcInt hx hown (mvT hZ (wd hw 1 rfl)) (g := (mkF m 108 (la24 q0 q1 p2 p3 p4 b600 ((p2 &&& (2147483647 : Int32)) % (3 : Int32)) ((((p2.toUInt32 >>> ((8 : Int32) &&& 31).toUInt32).toInt32) &&& (2147483647 : Int32)) % (3 : Int32))) [(.int ((p2.toUInt32 >>> ((16 : Int32) &&& 31).toUInt32).toInt32))])) rfl (hb hby at_108) _ ?_
  show GO p e below T625 (mkF m 110 (la24 q0 q1 p2 p3 p4 b600 ((p2 &&& (2147483647 : Int32)) % (3 : Int32)) ((((p2.toUInt32 >>> ((8 : Int32) &&& 31).toUInt32).toInt32) &&& (2147483647 : Int32)) % (3 : Int32))) [(.int 2147483647), (.int ((p2.toUInt32 >>> ((16 : Int32) &&& 31).toUInt32).toInt32))]) _
  refine XS.iand X625.here hx rfl (hb hby at_110) rfl ?_
  show GO p e below T625 (mkF m 111 (la24 q0 q1 p2 p3 p4 b600 ((p2 &&& (2147483647 : Int32)) % (3 : Int32)) ((((p2.toUInt32 >>> ((8 : Int32) &&& 31).toUInt32).toInt32) &&& (2147483647 : Int32)) % (3 : Int32))) [(.int (((p2.toUInt32 >>> ((16 : Int32) &&& 31).toUInt32).toInt32) &&& (2147483647 : Int32)))]) _
  refine XS.iconst X625.here hx rfl (hb hby at_111) ?_
  show GO p e below T625 (mkF m 112 (la24 q0 q1 p2 p3 p4 b600 ((p2 &&& (2147483647 : Int32)) % (3 : Int32)) ((((p2.toUInt32 >>> ((8 : Int32) &&& 31).toUInt32).toInt32) &&& (2147483647 : Int32)) % (3 : Int32))) [(.int 3), (.int (((p2.toUInt32 >>> ((16 : Int32) &&& 31).toUInt32).toInt32) &&& (2147483647 : Int32)))]) _
  refine iremM X625 hx rfl (hb hby at_112) rfl (by decide) ?_
  show GO p e below T625 (mkF m 113 (la24 q0 q1 p2 p3 p4 b600 ((p2 &&& (2147483647 : Int32)) % (3 : Int32)) ((((p2.toUInt32 >>> ((8 : Int32) &&& 31).toUInt32).toInt32) &&& (2147483647 : Int32)) % (3 : Int32))) [(.int ((((p2.toUInt32 >>> ((16 : Int32) &&& 31).toUInt32).toInt32) &&& (2147483647 : Int32)) % (3 : Int32)))]) _
  refine XS.istore X625.here hx rfl (hb hby at_113) rfl (l' := (la25 q0 q1 p2 p3 p4 b600 ((p2 &&& (2147483647 : Int32)) % (3 : Int32)) ((((p2.toUInt32 >>> ((8 : Int32) &&& 31).toUInt32).toInt32) &&& (2147483647 : Int32)) % (3 : Int32)) ((((p2.toUInt32 >>> ((16 : Int32) &&& 31).toUInt32).toInt32) &&& (2147483647 : Int32)) % (3 : Int32)))) rfl ?_
  rw [← hl0]
  rw [← hl1]
  rw [← hl2]
  show GO p e below T625 (mkF m 115 (la25 q0 q1 p2 p3 p4 b600 l0 l1 l2) []) _
  refine XS.iload X625.here hx rfl (hb hby at_115) rfl ?_
  show GO p e below T625 (mkF m 117 (la25 q0 q1 p2 p3 p4 b600 l0 l1 l2) [(.int l0)]) _
  refine XS.istore X625.here hx rfl (hb hby at_117) rfl (l' := (la26 q0 q1 p2 p3 p4 b600 l0 l1 l2 l0)) rfl ?_
  show GO p e below T625 (mkF m 119 (la26 q0 q1 p2 p3 p4 b600 l0 l1 l2 l0) []) _
  refine XS.iload X625.here hx rfl (hb hby at_119) rfl ?_
  show GO p e below T625 (mkF m 121 (la26 q0 q1 p2 p3 p4 b600 l0 l1 l2 l0) [(.int l0)]) _
  refine XS.iconst X625.here hx rfl (hb hby at_121) ?_
  show GO p e below T625 (mkF m 122 (la26 q0 q1 p2 p3 p4 b600 l0 l1 l2 l0) [(.int 1), (.int l0)]) _
  refine XS.iadd X625.here hx rfl (hb hby at_122) rfl ?_
  show GO p e below T625 (mkF m 123 (la26 q0 q1 p2 p3 p4 b600 l0 l1 l2 l0) [(.int (l0 + (1 : Int32)))]) _
  refine XS.iload X625.here hx rfl (hb hby at_123) rfl ?_
  show GO p e below T625 (mkF m 125 (la26 q0 q1 p2 p3 p4 b600 l0 l1 l2 l0) [(.int l1), (.int (l0 + (1 : Int32)))]) _
  refine XS.iadd X625.here hx rfl (hb hby at_125) rfl ?_
  show GO p e below T625 (mkF m 126 (la26 q0 q1 p2 p3 p4 b600 l0 l1 l2 l0) [(.int ((l0 + (1 : Int32)) + l1))]) _
  refine XS.istore X625.here hx rfl (hb hby at_126) rfl (l' := (la27 q0 q1 p2 p3 p4 b600 l0 l1 l2 l0 ((l0 + (1 : Int32)) + l1))) rfl ?_
  rw [← hee1]
  show GO p e below T625 (mkF m 128 (la27 q0 q1 p2 p3 p4 b600 l0 l1 l2 l0 ee1) []) _
  refine XS.iload X625.here hx rfl (hb hby at_128) rfl ?_
  show GO p e below T625 (mkF m 130 (la27 q0 q1 p2 p3 p4 b600 l0 l1 l2 l0 ee1) [(.int ee1)]) _
  refine XS.iconst X625.here hx rfl (hb hby at_130) ?_
  show GO p e below T625 (mkF m 131 (la27 q0 q1 p2 p3 p4 b600 l0 l1 l2 l0 ee1) [(.int 1), (.int ee1)]) _
  refine XS.iadd X625.here hx rfl (hb hby at_131) rfl ?_
  show GO p e below T625 (mkF m 132 (la27 q0 q1 p2 p3 p4 b600 l0 l1 l2 l0 ee1) [(.int (ee1 + (1 : Int32)))]) _
  refine XS.iload X625.here hx rfl (hb hby at_132) rfl ?_
  show GO p e below T625 (mkF m 134 (la27 q0 q1 p2 p3 p4 b600 l0 l1 l2 l0 ee1) [(.int l2), (.int (ee1 + (1 : Int32)))]) _
  refine XS.iadd X625.here hx rfl (hb hby at_134) rfl ?_
  show GO p e below T625 (mkF m 135 (la27 q0 q1 p2 p3 p4 b600 l0 l1 l2 l0 ee1) [(.int ((ee1 + (1 : Int32)) + l2))]) _
  refine XS.istore X625.here hx rfl (hb hby at_135) rfl (l' := (la28 q0 q1 p2 p3 p4 b600 l0 l1 l2 l0 ee1 ((ee1 + (1 : Int32)) + l2))) rfl ?_
  rw [← hee2]
  show GO p e below T625 (mkF m 137 (la28 q0 q1 p2 p3 p4 b600 l0 l1 l2 l0 ee1 ee2) []) _
  refine XS.iconst X625.here hx rfl (hb hby at_137) ?_
  show GO p e below T625 (mkF m 138 (la28 q0 q1 p2 p3 p4 b600 l0 l1 l2 l0 ee1 ee2) [(.int 3)]) _
  refine st635 _ ?_
  show GO p e below T635 (mkF m 140 (la28 q0 q1 p2 p3 p4 b600 l0 l1 l2 l0 ee1 ee2) [(.ref b635)]) _
  refine XS.astore X635.here hx rfl (hb hby at_140) rfl rfl (l' := (la29 q0 q1 p2 p3 p4 b600 l0 l1 l2 l0 ee1 ee2 b635)) rfl ?_
  show GO p e below T635 (mkF m 142 (la29 q0 q1 p2 p3 p4 b600 l0 l1 l2 l0 ee1 ee2 b635) []) _
  refine XS.aload X635.here hx rfl (hb hby at_142) rfl rfl ?_
  show GO p e below T635 (mkF m 144 (la29 q0 q1 p2 p3 p4 b600 l0 l1 l2 l0 ee1 ee2 b635) [(.ref b635)]) _
  refine XS.iconst X635.here hx rfl (hb hby at_144) ?_
  show GO p e below T635 (mkF m 145 (la29 q0 q1 p2 p3 p4 b600 l0 l1 l2 l0 ee1 ee2 b635) [(.int 0), (.ref b635)]) _
  refine XS.iload X635.here hx rfl (hb hby at_145) rfl ?_
  show GO p e below T635 (mkF m 147 (la29 q0 q1 p2 p3 p4 b600 l0 l1 l2 l0 ee1 ee2 b635) [(.int l0), (.int 0), (.ref b635)]) _
  refine st638 _ ?_
  show GO p e below T638 (mkF m 148 (la29 q0 q1 p2 p3 p4 b600 l0 l1 l2 l0 ee1 ee2 b635) []) _
  refine XS.aload X638.here hx rfl (hb hby at_148) rfl rfl ?_
  show GO p e below T638 (mkF m 150 (la29 q0 q1 p2 p3 p4 b600 l0 l1 l2 l0 ee1 ee2 b635) [(.ref b635)]) _
  refine XS.iconst X638.here hx rfl (hb hby at_150) ?_
  show GO p e below T638 (mkF m 151 (la29 q0 q1 p2 p3 p4 b600 l0 l1 l2 l0 ee1 ee2 b635) [(.int 1), (.ref b635)]) _
  refine XS.iload X638.here hx rfl (hb hby at_151) rfl ?_
  show GO p e below T638 (mkF m 153 (la29 q0 q1 p2 p3 p4 b600 l0 l1 l2 l0 ee1 ee2 b635) [(.int ee1), (.int 1), (.ref b635)]) _
  refine st642 _ ?_
  show GO p e below T642 (mkF m 154 (la29 q0 q1 p2 p3 p4 b600 l0 l1 l2 l0 ee1 ee2 b635) []) _
  refine XS.aload X642.here hx rfl (hb hby at_154) rfl rfl ?_
  show GO p e below T642 (mkF m 156 (la29 q0 q1 p2 p3 p4 b600 l0 l1 l2 l0 ee1 ee2 b635) [(.ref b635)]) _
  refine XS.iconst X642.here hx rfl (hb hby at_156) ?_
  show GO p e below T642 (mkF m 157 (la29 q0 q1 p2 p3 p4 b600 l0 l1 l2 l0 ee1 ee2 b635) [(.int 2), (.ref b635)]) _
  refine XS.iload X642.here hx rfl (hb hby at_157) rfl ?_
  show GO p e below T642 (mkF m 159 (la29 q0 q1 p2 p3 p4 b600 l0 l1 l2 l0 ee1 ee2 b635) [(.int ee2), (.int 2), (.ref b635)]) _
  refine st645 _ ?_
  show GO p e below T645 (mkF m 160 (la29 q0 q1 p2 p3 p4 b600 l0 l1 l2 l0 ee1 ee2 b635) []) _
  refine XS.iload X645.here hx rfl (hb hby at_160) rfl ?_
  show GO p e below T645 (mkF m 162 (la29 q0 q1 p2 p3 p4 b600 l0 l1 l2 l0 ee1 ee2 b635) [(.int p3)]) _
  refine X645.ldcInt hx hown (mvT hZ (wd hw 1 rfl)) (g := (mkF m 162 (la29 q0 q1 p2 p3 p4 b600 l0 l1 l2 l0 ee1 ee2 b635) [(.int p3)])) rfl (hb hby at_162) _ ?_
  show GO p e below T645 (mkF m 164 (la29 q0 q1 p2 p3 p4 b600 l0 l1 l2 l0 ee1 ee2 b635) [(.int 2147483647), (.int p3)]) _
  refine XS.iand X645.here hx rfl (hb hby at_164) rfl ?_
  show GO p e below T645 (mkF m 165 (la29 q0 q1 p2 p3 p4 b600 l0 l1 l2 l0 ee1 ee2 b635) [(.int (p3 &&& (2147483647 : Int32)))]) _
  refine XS.iconst X645.here hx rfl (hb hby at_165) ?_
  show GO p e below T645 (mkF m 166 (la29 q0 q1 p2 p3 p4 b600 l0 l1 l2 l0 ee1 ee2 b635) [(.int 3), (.int (p3 &&& (2147483647 : Int32)))]) _
  refine iremM X645 hx rfl (hb hby at_166) rfl (by decide) ?_
  show GO p e below T645 (mkF m 167 (la29 q0 q1 p2 p3 p4 b600 l0 l1 l2 l0 ee1 ee2 b635) [(.int ((p3 &&& (2147483647 : Int32)) % (3 : Int32)))]) _
  refine XS.istore X645.here hx rfl (hb hby at_167) rfl (l' := (la30 q0 q1 p2 p3 p4 b600 l0 l1 l2 l0 ee1 ee2 b635 ((p3 &&& (2147483647 : Int32)) % (3 : Int32)))) rfl ?_
  rw [← hii]
  exact kt
 obtain ⟨oo, ln, P, pre648⟩ : ∃ oo ln : Int32, (OwnPl ii oo ln l0 ee1 ee2) ∧ ∀ t, GO p e below T645 (mkF m 216 (la32 q0 q1 p2 p3 p4 b600 l0 l1 l2 l0 ee1 ee2 b635 ii oo ln) []) t → GO p e below s₁ (entryFrame m #[(.long q0), (.long q1), (.int p2), (.int p3), (.int p4)] maxLocals) t := by
  rcases gi with hi0 | hi1 | hi2
  ·have pre649 : ∀ t, GO p e below T645 (mkF m 216 (la32 q0 q1 p2 p3 p4 b600 l0 l1 l2 l0 ee1 ee2 b635 ii (0 : Int32) l0) []) t → GO p e below s₁ (entryFrame m #[(.long q0), (.long q1), (.int p2), (.int p3), (.int p4)] maxLocals) t := by
    intro t kt
    refine pre647 t ?_
    show GO p e below T645 (mkF m 169 (la30 q0 q1 p2 p3 p4 b600 l0 l1 l2 l0 ee1 ee2 b635 ii) []) _
    refine XS.iload X645.here hx rfl (hb hby at_169) rfl ?_
    show GO p e below T645 (mkF m 171 (la30 q0 q1 p2 p3 p4 b600 l0 l1 l2 l0 ee1 ee2 b635 ii) [(.int ii)]) _
    refine XS.ifNo X645.here hx rfl (hb hby at_171) rfl ((if0 _ _).trans (teq (hi0 : ii = (0 : Int32))).2) ?_
    show GO p e below T645 (mkF m 174 (la30 q0 q1 p2 p3 p4 b600 l0 l1 l2 l0 ee1 ee2 b635 ii) []) _
    refine XS.iconst X645.here hx rfl (hb hby at_174) ?_
    show GO p e below T645 (mkF m 175 (la30 q0 q1 p2 p3 p4 b600 l0 l1 l2 l0 ee1 ee2 b635 ii) [(.int 0)]) _
    refine XS.istore X645.here hx rfl (hb hby at_175) rfl (l' := (la31 q0 q1 p2 p3 p4 b600 l0 l1 l2 l0 ee1 ee2 b635 ii (0 : Int32))) rfl ?_
    show GO p e below T645 (mkF m 177 (la31 q0 q1 p2 p3 p4 b600 l0 l1 l2 l0 ee1 ee2 b635 ii (0 : Int32)) []) _
    refine XS.iload X645.here hx rfl (hb hby at_177) rfl ?_
    show GO p e below T645 (mkF m 179 (la31 q0 q1 p2 p3 p4 b600 l0 l1 l2 l0 ee1 ee2 b635 ii (0 : Int32)) [(.int l0)]) _
    refine XS.istore X645.here hx rfl (hb hby at_179) rfl (l' := (la32 q0 q1 p2 p3 p4 b600 l0 l1 l2 l0 ee1 ee2 b635 ii (0 : Int32) l0)) rfl ?_
    show GO p e below T645 (mkF m 181 (la32 q0 q1 p2 p3 p4 b600 l0 l1 l2 l0 ee1 ee2 b635 ii (0 : Int32) l0) []) _
    refine XS.goto X645.here hx rfl (pc0 := 181) (pc' := 216) rfl (hb hby at_181) (by decide) (by decide) ?_
    exact kt
   exact ⟨(0 : Int32), l0, (by rw [hi0]; exact own_pl0 g0 g1 g2 hee1 hee2), fun t kt => pre649 t kt⟩
  ·have pre650 : ∀ t, GO p e below T645 (mkF m 216 (la32 q0 q1 p2 p3 p4 b600 l0 l1 l2 l0 ee1 ee2 b635 ii (l0 + (1 : Int32)) l1) []) t → GO p e below s₁ (entryFrame m #[(.long q0), (.long q1), (.int p2), (.int p3), (.int p4)] maxLocals) t := by
    intro t kt
    refine pre647 t ?_
    show GO p e below T645 (mkF m 169 (la30 q0 q1 p2 p3 p4 b600 l0 l1 l2 l0 ee1 ee2 b635 ii) []) _
    refine XS.iload X645.here hx rfl (hb hby at_169) rfl ?_
    show GO p e below T645 (mkF m 171 (la30 q0 q1 p2 p3 p4 b600 l0 l1 l2 l0 ee1 ee2 b635 ii) [(.int ii)]) _
    refine XS.ifYes X645.here hx rfl (pc0 := 171) (pc' := 184) rfl (hb hby at_171) rfl ((if0 _ _).trans (feq ((by rw [hi1]; decide) : ¬ (ii = (0 : Int32)))).2) (by decide) (by decide) ?_
    show GO p e below T645 (mkF m 184 (la30 q0 q1 p2 p3 p4 b600 l0 l1 l2 l0 ee1 ee2 b635 ii) []) _
    refine XS.iload X645.here hx rfl (hb hby at_184) rfl ?_
    show GO p e below T645 (mkF m 186 (la30 q0 q1 p2 p3 p4 b600 l0 l1 l2 l0 ee1 ee2 b635 ii) [(.int ii)]) _
    refine XS.iconst X645.here hx rfl (hb hby at_186) ?_
    show GO p e below T645 (mkF m 187 (la30 q0 q1 p2 p3 p4 b600 l0 l1 l2 l0 ee1 ee2 b635 ii) [(.int 1), (.int ii)]) _
    refine XS.icmpNo X645.here hx rfl (hb hby at_187) rfl (teq (hi1 : ii = (1 : Int32))).2 ?_
    show GO p e below T645 (mkF m 190 (la30 q0 q1 p2 p3 p4 b600 l0 l1 l2 l0 ee1 ee2 b635 ii) []) _
    refine XS.iload X645.here hx rfl (hb hby at_190) rfl ?_
    show GO p e below T645 (mkF m 192 (la30 q0 q1 p2 p3 p4 b600 l0 l1 l2 l0 ee1 ee2 b635 ii) [(.int l0)]) _
    refine XS.iconst X645.here hx rfl (hb hby at_192) ?_
    show GO p e below T645 (mkF m 193 (la30 q0 q1 p2 p3 p4 b600 l0 l1 l2 l0 ee1 ee2 b635 ii) [(.int 1), (.int l0)]) _
    refine XS.iadd X645.here hx rfl (hb hby at_193) rfl ?_
    show GO p e below T645 (mkF m 194 (la30 q0 q1 p2 p3 p4 b600 l0 l1 l2 l0 ee1 ee2 b635 ii) [(.int (l0 + (1 : Int32)))]) _
    refine XS.istore X645.here hx rfl (hb hby at_194) rfl (l' := (la31 q0 q1 p2 p3 p4 b600 l0 l1 l2 l0 ee1 ee2 b635 ii (l0 + (1 : Int32)))) rfl ?_
    show GO p e below T645 (mkF m 196 (la31 q0 q1 p2 p3 p4 b600 l0 l1 l2 l0 ee1 ee2 b635 ii (l0 + (1 : Int32))) []) _
    refine XS.iload X645.here hx rfl (hb hby at_196) rfl ?_
    show GO p e below T645 (mkF m 198 (la31 q0 q1 p2 p3 p4 b600 l0 l1 l2 l0 ee1 ee2 b635 ii (l0 + (1 : Int32))) [(.int l1)]) _
    refine XS.istore X645.here hx rfl (hb hby at_198) rfl (l' := (la32 q0 q1 p2 p3 p4 b600 l0 l1 l2 l0 ee1 ee2 b635 ii (l0 + (1 : Int32)) l1)) rfl ?_
    show GO p e below T645 (mkF m 200 (la32 q0 q1 p2 p3 p4 b600 l0 l1 l2 l0 ee1 ee2 b635 ii (l0 + (1 : Int32)) l1) []) _
    refine XS.goto X645.here hx rfl (pc0 := 200) (pc' := 216) rfl (hb hby at_200) (by decide) (by decide) ?_
    exact kt
   exact ⟨(l0 + (1 : Int32)), l1, (by rw [hi1]; exact own_pl1 g0 g1 g2 hee1 hee2), fun t kt => pre650 t kt⟩
  ·have pre651 : ∀ t, GO p e below T645 (mkF m 216 (la32 q0 q1 p2 p3 p4 b600 l0 l1 l2 l0 ee1 ee2 b635 ii ((l0 + l1) + (2 : Int32)) l2) []) t → GO p e below s₁ (entryFrame m #[(.long q0), (.long q1), (.int p2), (.int p3), (.int p4)] maxLocals) t := by
    intro t kt
    refine pre647 t ?_
    show GO p e below T645 (mkF m 169 (la30 q0 q1 p2 p3 p4 b600 l0 l1 l2 l0 ee1 ee2 b635 ii) []) _
    refine XS.iload X645.here hx rfl (hb hby at_169) rfl ?_
    show GO p e below T645 (mkF m 171 (la30 q0 q1 p2 p3 p4 b600 l0 l1 l2 l0 ee1 ee2 b635 ii) [(.int ii)]) _
    refine XS.ifYes X645.here hx rfl (pc0 := 171) (pc' := 184) rfl (hb hby at_171) rfl ((if0 _ _).trans (feq ((by rw [hi2]; decide) : ¬ (ii = (0 : Int32)))).2) (by decide) (by decide) ?_
    show GO p e below T645 (mkF m 184 (la30 q0 q1 p2 p3 p4 b600 l0 l1 l2 l0 ee1 ee2 b635 ii) []) _
    refine XS.iload X645.here hx rfl (hb hby at_184) rfl ?_
    show GO p e below T645 (mkF m 186 (la30 q0 q1 p2 p3 p4 b600 l0 l1 l2 l0 ee1 ee2 b635 ii) [(.int ii)]) _
    refine XS.iconst X645.here hx rfl (hb hby at_186) ?_
    show GO p e below T645 (mkF m 187 (la30 q0 q1 p2 p3 p4 b600 l0 l1 l2 l0 ee1 ee2 b635 ii) [(.int 1), (.int ii)]) _
    refine XS.icmpYes X645.here hx rfl (pc0 := 187) (pc' := 203) rfl (hb hby at_187) rfl (feq ((by rw [hi2]; decide) : ¬ (ii = (1 : Int32)))).2 (by decide) (by decide) ?_
    show GO p e below T645 (mkF m 203 (la30 q0 q1 p2 p3 p4 b600 l0 l1 l2 l0 ee1 ee2 b635 ii) []) _
    refine XS.iload X645.here hx rfl (hb hby at_203) rfl ?_
    show GO p e below T645 (mkF m 205 (la30 q0 q1 p2 p3 p4 b600 l0 l1 l2 l0 ee1 ee2 b635 ii) [(.int l0)]) _
    refine XS.iload X645.here hx rfl (hb hby at_205) rfl ?_
    show GO p e below T645 (mkF m 207 (la30 q0 q1 p2 p3 p4 b600 l0 l1 l2 l0 ee1 ee2 b635 ii) [(.int l1), (.int l0)]) _
    refine XS.iadd X645.here hx rfl (hb hby at_207) rfl ?_
    show GO p e below T645 (mkF m 208 (la30 q0 q1 p2 p3 p4 b600 l0 l1 l2 l0 ee1 ee2 b635 ii) [(.int (l0 + l1))]) _
    refine XS.iconst X645.here hx rfl (hb hby at_208) ?_
    show GO p e below T645 (mkF m 209 (la30 q0 q1 p2 p3 p4 b600 l0 l1 l2 l0 ee1 ee2 b635 ii) [(.int 2), (.int (l0 + l1))]) _
    refine XS.iadd X645.here hx rfl (hb hby at_209) rfl ?_
    show GO p e below T645 (mkF m 210 (la30 q0 q1 p2 p3 p4 b600 l0 l1 l2 l0 ee1 ee2 b635 ii) [(.int ((l0 + l1) + (2 : Int32)))]) _
    refine XS.istore X645.here hx rfl (hb hby at_210) rfl (l' := (la31 q0 q1 p2 p3 p4 b600 l0 l1 l2 l0 ee1 ee2 b635 ii ((l0 + l1) + (2 : Int32)))) rfl ?_
    show GO p e below T645 (mkF m 212 (la31 q0 q1 p2 p3 p4 b600 l0 l1 l2 l0 ee1 ee2 b635 ii ((l0 + l1) + (2 : Int32))) []) _
    refine XS.iload X645.here hx rfl (hb hby at_212) rfl ?_
    show GO p e below T645 (mkF m 214 (la31 q0 q1 p2 p3 p4 b600 l0 l1 l2 l0 ee1 ee2 b635 ii ((l0 + l1) + (2 : Int32))) [(.int l2)]) _
    refine XS.istore X645.here hx rfl (hb hby at_214) rfl (l' := (la32 q0 q1 p2 p3 p4 b600 l0 l1 l2 l0 ee1 ee2 b635 ii ((l0 + l1) + (2 : Int32)) l2)) rfl ?_
    exact kt
   exact ⟨((l0 + l1) + (2 : Int32)), l2, (by rw [hi2]; exact own_pl2 g0 g1 g2 hee1 hee2), fun t kt => pre651 t kt⟩
 obtain ⟨T652, h652, X652, e652, E652, A652, D652, U652, st652⟩ := newO X645 hx hZ hown (wd hw 3 rfl) (wd hw 4 rfl) (wd hw 5 rfl) e645 (g := (mkF m 216 (la32 q0 q1 p2 p3 p4 b600 l0 l1 l2 l0 ee1 ee2 b635 ii oo ln) [])) rfl (hb hby at_216) (by decide) (by decide)
 obtain ⟨b652, g652⟩ : ∃ z, z = h645.size := ⟨_, rfl⟩
 rw [← g652] at A652 D652 U652 st652
 have C653 : CHr Z EL1 s.vm h0 s.vm h652 := C646.trans (CHr.ext E652 C646.1)
 have sz652 : h645.size ≤ h652.size := E652.1
 have nz652 := Nat.le_trans nz645 sz652
 have lt652 := ltA A652.lt
 have f654 : Fld Z h652 b652 "java/util/AbstractList" "modCount" "I" (.int 0) := D652 (Or.inl (wd hw 24 rfl)) (ty := .int) (by decide)
 have f655 : Fld Z h652 b652 kS2 "text" "[C" .null := D652 (Or.inr (wd hw 26 rfl)) (ty := (.array .char)) (by decide)
 have f656 : Fld Z h652 b652 kS2 "ends" "[I" .null := D652 (Or.inr (wd hw 28 rfl)) (ty := (.array .int)) (by decide)
 have f657 : Fld Z h652 b652 kS2 "needsQuotes" "Z" (.int 0) := D652 (Or.inr (wd hw 30 rfl)) (ty := .boolean) (by decide)
 have pre658 : ∀ t, GO p e below T652 (mkF m 228 (la32 q0 q1 p2 p3 p4 b600 l0 l1 l2 l0 ee1 ee2 b635 ii oo ln) [(.int (p4 &&& (1 : Int32))), (.ref b635), (.ref b600), (.ref b652), (.ref b652)]) t → GO p e below s₁ (entryFrame m #[(.long q0), (.long q1), (.int p2), (.int p3), (.int p4)] maxLocals) t := by
  intro t kt
  refine pre648 t ?_
  show GO p e below T645 (mkF m 216 (la32 q0 q1 p2 p3 p4 b600 l0 l1 l2 l0 ee1 ee2 b635 ii oo ln) []) _
  refine st652 _ ?_
  show GO p e below T652 (mkF m 219 (la32 q0 q1 p2 p3 p4 b600 l0 l1 l2 l0 ee1 ee2 b635 ii oo ln) [(.ref b652)]) _
  refine XS.dup X652.here hx rfl (hb hby at_219) rfl rfl ?_
  show GO p e below T652 (mkF m 220 (la32 q0 q1 p2 p3 p4 b600 l0 l1 l2 l0 ee1 ee2 b635 ii oo ln) [(.ref b652), (.ref b652)]) _
  refine XS.aload X652.here hx rfl (hb hby at_220) rfl rfl ?_
  show GO p e below T652 (mkF m 222 (la32 q0 q1 p2 p3 p4 b600 l0 l1 l2 l0 ee1 ee2 b635 ii oo ln) [(.ref b600), (.ref b652), (.ref b652)]) _
  refine XS.aload X652.here hx rfl (hb hby at_222) rfl rfl ?_
  show GO p e below T652 (mkF m 224 (la32 q0 q1 p2 p3 p4 b600 l0 l1 l2 l0 ee1 ee2 b635 ii oo ln) [(.ref b635), (.ref b600), (.ref b652), (.ref b652)]) _
  refine XS.iload X652.here hx rfl (hb hby at_224) rfl ?_
  show GO p e below T652 (mkF m 226 (la32 q0 q1 p2 p3 p4 b600 l0 l1 l2 l0 ee1 ee2 b635 ii oo ln) [(.int p4), (.ref b635), (.ref b600), (.ref b652), (.ref b652)]) _
  refine XS.iconst X652.here hx rfl (hb hby at_226) ?_
  show GO p e below T652 (mkF m 227 (la32 q0 q1 p2 p3 p4 b600 l0 l1 l2 l0 ee1 ee2 b635 ii oo ln) [(.int 1), (.int p4), (.ref b635), (.ref b600), (.ref b652), (.ref b652)]) _
  refine XS.iand X652.here hx rfl (hb hby at_227) rfl ?_
  exact kt
 obtain ⟨nq, hnq, pre659⟩ : ∃ nq : Int32, (True) ∧ ∀ t, GO p e below T652 (mkF m 236 (la32 q0 q1 p2 p3 p4 b600 l0 l1 l2 l0 ee1 ee2 b635 ii oo ln) [(.int nq), (.ref b635), (.ref b600), (.ref b652), (.ref b652)]) t → GO p e below s₁ (entryFrame m #[(.long q0), (.long q1), (.int p2), (.int p3), (.int p4)] maxLocals) t := by
  by_cases hb660 : (p4 &&& (1 : Int32)) = (0 : Int32)
  ·have pre661 : ∀ t, GO p e below T652 (mkF m 236 (la32 q0 q1 p2 p3 p4 b600 l0 l1 l2 l0 ee1 ee2 b635 ii oo ln) [(.int 0), (.ref b635), (.ref b600), (.ref b652), (.ref b652)]) t → GO p e below s₁ (entryFrame m #[(.long q0), (.long q1), (.int p2), (.int p3), (.int p4)] maxLocals) t := by
    intro t kt
    refine pre658 t ?_
    show GO p e below T652 (mkF m 228 (la32 q0 q1 p2 p3 p4 b600 l0 l1 l2 l0 ee1 ee2 b635 ii oo ln) [(.int (p4 &&& (1 : Int32))), (.ref b635), (.ref b600), (.ref b652), (.ref b652)]) _
    refine XS.ifYes X652.here hx rfl (pc0 := 228) (pc' := 235) rfl (hb hby at_228) rfl ((if0 _ _).trans (teq (hb660 : (p4 &&& (1 : Int32)) = (0 : Int32))).1) (by decide) (by decide) ?_
    show GO p e below T652 (mkF m 235 (la32 q0 q1 p2 p3 p4 b600 l0 l1 l2 l0 ee1 ee2 b635 ii oo ln) [(.ref b635), (.ref b600), (.ref b652), (.ref b652)]) _
    refine XS.iconst X652.here hx rfl (hb hby at_235) ?_
    exact kt
   exact ⟨(0 : Int32), trivial, fun t kt => pre661 t kt⟩
  ·have pre662 : ∀ t, GO p e below T652 (mkF m 236 (la32 q0 q1 p2 p3 p4 b600 l0 l1 l2 l0 ee1 ee2 b635 ii oo ln) [(.int 1), (.ref b635), (.ref b600), (.ref b652), (.ref b652)]) t → GO p e below s₁ (entryFrame m #[(.long q0), (.long q1), (.int p2), (.int p3), (.int p4)] maxLocals) t := by
    intro t kt
    refine pre658 t ?_
    show GO p e below T652 (mkF m 228 (la32 q0 q1 p2 p3 p4 b600 l0 l1 l2 l0 ee1 ee2 b635 ii oo ln) [(.int (p4 &&& (1 : Int32))), (.ref b635), (.ref b600), (.ref b652), (.ref b652)]) _
    refine XS.ifNo X652.here hx rfl (hb hby at_228) rfl ((if0 _ _).trans (feq (hb660 : ¬ ((p4 &&& (1 : Int32)) = (0 : Int32)))).1) ?_
    show GO p e below T652 (mkF m 231 (la32 q0 q1 p2 p3 p4 b600 l0 l1 l2 l0 ee1 ee2 b635 ii oo ln) [(.ref b635), (.ref b600), (.ref b652), (.ref b652)]) _
    refine XS.iconst X652.here hx rfl (hb hby at_231) ?_
    show GO p e below T652 (mkF m 232 (la32 q0 q1 p2 p3 p4 b600 l0 l1 l2 l0 ee1 ee2 b635 ii oo ln) [(.int 1), (.ref b635), (.ref b600), (.ref b652), (.ref b652)]) _
    refine XS.goto X652.here hx rfl (pc0 := 232) (pc' := 236) rfl (hb hby at_232) (by decide) (by decide) ?_
    exact kt
   exact ⟨(1 : Int32), trivial, fun t kt => pre662 t kt⟩
 -- pc 236: CsvRecord.<init> by rm_cr
 obtain ⟨_, _, ⟨T663, L663, k663, n663⟩, -, X663, ⟨Lc663, hQ663, l663, y663, z663⟩, st663⟩ := X652.specialBack hx (y := (⟨kS2, "<init>", "([C[IZ)V"⟩ : MethodName)) rfl hown (mvT hZ (wd hw 6 rfl)) (mvT hZ (wd hw 7 rfl)) (mvT hZ (wd hw 8 rfl)) (by decide) (backOf (W := 1) (rm_cr l Z a0 hw [] b652 b600 b635 nq (.int 0) .null .null (.int 0) h652 n0 nz652 A652 f654 f655 f656 f657 (by first | assumption | decide | omega)) hZ (wd hw 8 rfl) (wd hw 5 rfl) (by decide) (by decide)) (g := (mkF m 236 (la32 q0 q1 p2 p3 p4 b600 l0 l1 l2 l0 ee1 ee2 b635 ii oo ln) [(.int nq), (.ref b635), (.ref b600), (.ref b652), (.ref b652)])) rfl (by rw [hml]; rfl) (Steps.refl _) (a := b652) (argsL := [(.ref b600), (.ref b635), (.int nq)]) (rest := [(.ref b652)]) (lenOf pd_20 rfl) rfl (wz rfl) (hb hby at_236) (fun _ _ => ⟨rfl, e652, (by decide : 3 + 0 ≤ _), (by decide : 15 + 0 ≤ _)⟩)
 dsimp only [Pt.U, Pt.locs, Pt.cells, Pt.slots] at X663 l663 y663 z663 st663 hQ663
 subst l663 y663 z663
 obtain ⟨h663, e663⟩ : ∃ z, T663.heap = z := ⟨_, rfl⟩
 rw [e663] at hQ663
 obtain ⟨rfl, N663q, K663, p663_0, p663_1, p663_2⟩ := hQ663
 have N663 := Fr.app N645 N663q
 have C664 : CHr Z EL1 s.vm h0 s.vm h663 := C653.trans (CHr.keep K663 (sfS (Safe.exa hZ.alike A652 (by decide) (by decide)) sf0) C653.1)
 have sz663 : h652.size ≤ h663.size := K663.1
 have nz663 := Nat.le_trans nz652 sz663
 have lt663_0 := ltA p663_0.lt
 have gl := P.2.2.1
 have pre665 : ∀ t, GO p e below T663 (mkF m 245 (la33 q0 q1 p2 p3 p4 b600 l0 l1 l2 l0 ee1 ee2 b635 ii oo ln b652) [(.int ii), (.ref b652)]) t → GO p e below s₁ (entryFrame m #[(.long q0), (.long q1), (.int p2), (.int p3), (.int p4)] maxLocals) t := by
  intro t kt
  refine pre659 t ?_
  show GO p e below T652 (mkF m 236 (la32 q0 q1 p2 p3 p4 b600 l0 l1 l2 l0 ee1 ee2 b635 ii oo ln) [(.int nq), (.ref b635), (.ref b600), (.ref b652), (.ref b652)]) _
  refine st663.trans ?_
  show GO p e below T663 (mkF m 239 (la32 q0 q1 p2 p3 p4 b600 l0 l1 l2 l0 ee1 ee2 b635 ii oo ln) [(.ref b652)]) _
  refine XS.astore X663.here hx rfl (hb hby at_239) rfl rfl (l' := (la33 q0 q1 p2 p3 p4 b600 l0 l1 l2 l0 ee1 ee2 b635 ii oo ln b652)) rfl ?_
  show GO p e below T663 (mkF m 241 (la33 q0 q1 p2 p3 p4 b600 l0 l1 l2 l0 ee1 ee2 b635 ii oo ln b652) []) _
  refine XS.aload X663.here hx rfl (hb hby at_241) rfl rfl ?_
  show GO p e below T663 (mkF m 243 (la33 q0 q1 p2 p3 p4 b600 l0 l1 l2 l0 ee1 ee2 b635 ii oo ln b652) [(.ref b652)]) _
  refine XS.iload X663.here hx rfl (hb hby at_243) rfl ?_
  exact kt
 rcases gl with rfl | rfl | rfl
 ·-- pc 245: CsvRecord.get by rm_get_0L
  have ge667 : n0 ≤ b652 := by omega
  have f668 : Old Z n0 h663 := (((((((((((((((O0.ext E600).wr W603 ge604).wr W607 ge604).wr W610 ge604).wr W613 ge604).wr W616 ge604).wr W619 ge604).wr W622 ge604).wr W625 ge604).ext E635).wr W638 ge639).wr W642 ge639).wr W645 ge639).ext E652).keep K663 (allS ge667 all0))
  have ne669 : b635 ≠ b652 := neN (by omega)
  have f670 : Arv Z h663 b635 k635 .int (3 : Int32) [(.int l0), (.int ee1), (.int ee2)] (.int 0) := ((V645.ext E652).keep K663 (ninS ne669 nin0))
  have ne671 : b600 ≠ b635 := neN (by omega)
  have ne672 : b600 ≠ b652 := neN (by omega)
  have f673 : Arv Z h663 b600 k600 .char (8 : Int32) [(.int y0), (.int y1), (.int y2), (.int y3), (.int y4), (.int y5), (.int y6), (.int y7)] (.int 0) := ((((((f634.ext E635).other W638 ne671).other W642 ne671).other W645 ne671).ext E652).keep K663 (ninS ne672 nin0))
  obtain ⟨cq666, kq666, q666a, q666b, q666c⟩ := isOf hZ e663 p663_0
  obtain ⟨_, _, ⟨T666, L666, k666, n666⟩, -, X666w, hS666w, gr666, ⟨Lc666, hQ666, l666, y666, z666, C666w⟩, st666⟩ := X663.virtualBackS hx (y := (⟨kS2, "get", "(I)Ljava/lang/String;"⟩ : MethodName)) (z := (⟨kS2, "get", "(I)Ljava/lang/String;"⟩ : MethodName)) hown (mvT hZ (wd hw 31 rfl)) (mvT hZ (wd hw 32 rfl)) (notFace_of_selects (args := #[]) (mvT hZ (wd hw 34 rfl))) (mvT hZ (wd hw 34 rfl)) (mvT hZ (wd hw 33 rfl)) (by decide) (own_backS (W := 0) (rm_get_0L l Z a0 hw [] b652 ii b635 k635 l0 ee1 ee2 f0 b600 k600 ([(.int y0), (.int y1), (.int y2), (.int y3), (.int y4), (.int y5), (.int y6), (.int y7)]) oo h663 n0 nz663 f668 p663_1 p663_2 f670 f673 (by first | assumption | decide | omega) (by first | assumption | decide | omega) P) hZ (wd hw 35 rfl) (wd hw 5 rfl) (by decide) (by decide) (own_EW hw) C664.1 sf0 all0) q666a q666c (g := (mkF m 245 (la33 q0 q1 p2 p3 p4 b600 l0 l1 l2 l0 ee1 ee2 b635 ii oo (0 : Int32) b652) [(.int ii), (.ref b652)])) rfl (by rw [hml]; rfl) (Steps.refl _) (argsL := [(.int ii)]) (rest := []) (lenOf pd_21 rfl) rfl (wz rfl) (hb hby at_245) (fun _ _ => ⟨rfl, e663, (by decide : 3 + 5 ≤ _), (by decide : 15 + 12 ≤ _)⟩)
  dsimp only [Pt.U, Pt.locs, Pt.cells, Pt.slots] at X666w hS666w gr666 l666 y666 z666 st666 hQ666 C666w
  subst l666 y666 z666
  obtain ⟨X666, hS666, hZ666, hown666⟩ := rebS hS0 (by rw [e663]; omega) X666w hS666w gr666 hZ hown
  obtain ⟨h666, e666⟩ : ∃ z, T666.heap = z := ⟨_, rfl⟩
  rw [e666] at hQ666
  obtain ⟨yy_666, t_666, k_666, rfl, N666q, K666, p666_0, p666_1, p666_2, p666_3⟩ := hQ666
  have N666 := Fr.app N663 N666q
  rw [e666] at C666w hS666
  have hk666 : h666.size ≤ h666.size := Nat.le_refl _
  have C674 : CHr Z EL1 s.vm h0 T666.vm h666 := C664.trans (C666w)
  have sz666 : h663.size ≤ h666.size := K666.1
  have nz666 := Nat.le_trans nz663 sz666
  have lt666_0 := ltA p666_0.lt
  have lt666_3 := ltA p666_3.lt
  -- pc 252: String.length by rm_sl_0_0
  have f676 : Old Z n0 h666 := (f668.keep K666 all0)
  obtain ⟨cq675, kq675, q675a, q675b, q675c⟩ := isOf hZ666 e666 p666_0
  obtain ⟨_, _, ⟨T675, L675, k675, n675⟩, -, X675, ⟨Lc675, hQ675, l675, y675, z675⟩, st675⟩ := X666.virtualBack hx (y := (⟨kS0, "length", "()I"⟩ : MethodName)) (z := (⟨kS0, "length", "()I"⟩ : MethodName)) hown666 (mvT hZ666 (wd hw 73 rfl)) (mvT hZ666 (wd hw 74 rfl)) (notFace_of_selects (args := #[]) (mvT hZ666 (wd hw 76 rfl))) (mvT hZ666 (wd hw 76 rfl)) (mvT hZ666 (wd hw 75 rfl)) (by decide) (backOf (W := 0) (rm_sl_0_0 l Z a0 hw [] yy_666 t_666 k_666 [] z0 h666 n0 nz666 f676 p666_0 p666_1 p666_2 p666_3 (by first | assumption | decide | omega) (by first | assumption | decide | omega)) hZ666 (wd hw 77 rfl) (wd hw 46 rfl) (by decide) (by decide)) q675a q675c (g := (mkF m 252 (la34 q0 q1 p2 p3 p4 b600 l0 l1 l2 l0 ee1 ee2 b635 ii oo (0 : Int32) b652 yy_666) [(.ref yy_666)])) rfl (by rw [hml]; rfl) (Steps.refl _) (argsL := []) (rest := []) (lenOf pd_22 rfl) rfl (wz rfl) (hb hby at_252) (fun _ _ => ⟨rfl, e666, (by decide : 8 + 0 ≤ _), (by decide : 27 + 0 ≤ _)⟩)
  dsimp only [Pt.U, Pt.locs, Pt.cells, Pt.slots] at X675 l675 y675 z675 st675 hQ675
  subst l675 y675 z675
  obtain ⟨rfl, N675q, e675⟩ := hQ675
  have N675 := Fr.app N666 N675q
  obtain ⟨fs, hr, hrun, hended, hE⟩ := X675.leaveW hS666 (by rw [e675]; omega) (v := some (.int 1)) (fun h => by rw [Bd.returns] at h; cases h)
  have CE := C674.trans (CHv.at X675 hZ666 (own_EW hw) C674.1)
  refine ⟨_, _, pre665 _ ?_, hrun, hended, _, _, rfl, ?_, ?_, ⟨hE.1, hE.2.1, hE.2.2.1, hE.2.2.2.mono (by decide) (by decide)⟩⟩
  ·show GO p e below T663 (mkF m 245 (la33 q0 q1 p2 p3 p4 b600 l0 l1 l2 l0 ee1 ee2 b635 ii oo (0 : Int32) b652) [(.int ii), (.ref b652)]) _
   refine st666.trans ?_
   show GO p e below T666 (mkF m 248 (la33 q0 q1 p2 p3 p4 b600 l0 l1 l2 l0 ee1 ee2 b635 ii oo (0 : Int32) b652) [(.ref yy_666)]) _
   refine XS.astore X666.here hx rfl (hb hby at_248) rfl rfl (l' := (la34 q0 q1 p2 p3 p4 b600 l0 l1 l2 l0 ee1 ee2 b635 ii oo (0 : Int32) b652 yy_666)) rfl ?_
   show GO p e below T666 (mkF m 250 (la34 q0 q1 p2 p3 p4 b600 l0 l1 l2 l0 ee1 ee2 b635 ii oo (0 : Int32) b652 yy_666) []) _
   refine XS.aload X666.here hx rfl (hb hby at_250) rfl rfl ?_
   show GO p e below T666 (mkF m 252 (la34 q0 q1 p2 p3 p4 b600 l0 l1 l2 l0 ee1 ee2 b635 ii oo (0 : Int32) b652 yy_666) [(.ref yy_666)]) _
   refine st675.trans ?_
   show GO p e below T675 (mkF m 255 (la34 q0 q1 p2 p3 p4 b600 l0 l1 l2 l0 ee1 ee2 b635 ii oo (0 : Int32) b652 yy_666) [(.int 0)]) _
   refine XS.iload X675.here hx rfl (hb hby at_255) rfl ?_
   show GO p e below T675 (mkF m 257 (la34 q0 q1 p2 p3 p4 b600 l0 l1 l2 l0 ee1 ee2 b635 ii oo (0 : Int32) b652 yy_666) [(.int 0), (.int 0)]) _
   refine XS.icmpYes X675.here hx rfl (pc0 := 257) (pc' := 262) rfl (hb hby at_257) rfl (teq (rfl : (0 : Int32) = (0 : Int32))).1 (by decide) (by decide) ?_
   show GO p e below T675 (mkF m 262 (la34 q0 q1 p2 p3 p4 b600 l0 l1 l2 l0 ee1 ee2 b635 ii oo (0 : Int32) b652 yy_666) []) _
   refine XS.iload X675.here hx rfl (hb hby at_262) rfl ?_
   show GO p e below T675 (mkF m 264 (la34 q0 q1 p2 p3 p4 b600 l0 l1 l2 l0 ee1 ee2 b635 ii oo (0 : Int32) b652 yy_666) [(.int 0)]) _
   refine XS.iconst X675.here hx rfl (hb hby at_264) ?_
   show GO p e below T675 (mkF m 265 (la34 q0 q1 p2 p3 p4 b600 l0 l1 l2 l0 ee1 ee2 b635 ii oo (0 : Int32) b652 yy_666) [(.int 1), (.int 0)]) _
   refine XS.icmpYes X675.here hx rfl (pc0 := 265) (pc' := 284) rfl (hb hby at_265) rfl (tlt ((by decide) : (0 : Int32) < (1 : Int32))).1 (by decide) (by decide) ?_
   show GO p e below T675 (mkF m 284 (la34 q0 q1 p2 p3 p4 b600 l0 l1 l2 l0 ee1 ee2 b635 ii oo (0 : Int32) b652 yy_666) []) _
   refine XS.iload X675.here hx rfl (hb hby at_284) rfl ?_
   show GO p e below T675 (mkF m 286 (la34 q0 q1 p2 p3 p4 b600 l0 l1 l2 l0 ee1 ee2 b635 ii oo (0 : Int32) b652 yy_666) [(.int 0)]) _
   refine XS.iconst X675.here hx rfl (hb hby at_286) ?_
   show GO p e below T675 (mkF m 287 (la34 q0 q1 p2 p3 p4 b600 l0 l1 l2 l0 ee1 ee2 b635 ii oo (0 : Int32) b652 yy_666) [(.int 2), (.int 0)]) _
   refine XS.icmpYes X675.here hx rfl (pc0 := 287) (pc' := 308) rfl (hb hby at_287) rfl (tlt ((by decide) : (0 : Int32) < (2 : Int32))).1 (by decide) (by decide) ?_
   show GO p e below T675 (mkF m 308 (la34 q0 q1 p2 p3 p4 b600 l0 l1 l2 l0 ee1 ee2 b635 ii oo (0 : Int32) b652 yy_666) []) _
   refine XS.iconst X675.here hx rfl (hb hby at_308) ?_
   show GO p e below T675 (mkF m 309 (la34 q0 q1 p2 p3 p4 b600 l0 l1 l2 l0 ee1 ee2 b635 ii oo (0 : Int32) b652 yy_666) [(.int 1)]) _
   exact retN X675 hx (t := .boolean) Bd.returns (by simp) (hb hby at_309) hr
  ·show Qrm0 Z q0 q1 p2 p3 p4 z0 f0 h0 n0 _ T675.heap _
   rw [e675]
   exact ⟨rfl, N675⟩
  ·show CHr Z EL1 s.vm s.heap T675.vm T675.heap
   rw [hh, e675]
   exact CE
 ·have ob0 := P.1
  obtain ⟨x0, hx0, lb0⟩ := own_get8 by0 by1 by2 by3 by4 by5 by6 by7 (oo).toNatClampNeg
  by_cases hb677 : (255 : Int32) < x0
  ·-- pc 245: CsvRecord.get by rm_get_1A
   have ge679 : n0 ≤ b652 := by omega
   have f680 : Old Z n0 h663 := (((((((((((((((O0.ext E600).wr W603 ge604).wr W607 ge604).wr W610 ge604).wr W613 ge604).wr W616 ge604).wr W619 ge604).wr W622 ge604).wr W625 ge604).ext E635).wr W638 ge639).wr W642 ge639).wr W645 ge639).ext E652).keep K663 (allS ge679 all0))
   have ne681 : b635 ≠ b652 := neN (by omega)
   have f682 : Arv Z h663 b635 k635 .int (3 : Int32) [(.int l0), (.int ee1), (.int ee2)] (.int 0) := ((V645.ext E652).keep K663 (ninS ne681 nin0))
   have ne683 : b600 ≠ b635 := neN (by omega)
   have ne684 : b600 ≠ b652 := neN (by omega)
   have f685 : Arv Z h663 b600 k600 .char (8 : Int32) [(.int y0), (.int y1), (.int y2), (.int y3), (.int y4), (.int y5), (.int y6), (.int y7)] (.int 0) := ((((((f634.ext E635).other W638 ne683).other W642 ne683).other W645 ne683).ext E652).keep K663 (ninS ne684 nin0))
   obtain ⟨cq678, kq678, q678a, q678b, q678c⟩ := isOf hZ e663 p663_0
   obtain ⟨_, _, ⟨T678, L678, k678, n678⟩, -, X678, ⟨Lc678, hQ678, l678, y678, z678⟩, st678⟩ := X663.virtualBack hx (y := (⟨kS2, "get", "(I)Ljava/lang/String;"⟩ : MethodName)) (z := (⟨kS2, "get", "(I)Ljava/lang/String;"⟩ : MethodName)) hown (mvT hZ (wd hw 31 rfl)) (mvT hZ (wd hw 32 rfl)) (notFace_of_selects (args := #[]) (mvT hZ (wd hw 34 rfl))) (mvT hZ (wd hw 34 rfl)) (mvT hZ (wd hw 33 rfl)) (by decide) (backOf (W := 0) (rm_get_1A l Z a0 hw [] b652 ii b635 k635 l0 ee1 ee2 z0 f0 b600 k600 ([(.int y0), (.int y1), (.int y2), (.int y3), (.int y4), (.int y5), (.int y6), (.int y7)]) oo x0 h663 n0 nz663 f680 p663_1 p663_2 f682 f685 (by first | assumption | decide | omega) (by first | assumption | decide | omega) (by first | assumption | decide | omega) (by first | assumption | decide | omega) (by first | assumption | decide | omega) (by first | assumption | decide | omega) (by first | assumption | decide | omega) hx0 lb0 hb677 P) hZ (wd hw 35 rfl) (wd hw 5 rfl) (by decide) (by decide)) q678a q678c (g := (mkF m 245 (la33 q0 q1 p2 p3 p4 b600 l0 l1 l2 l0 ee1 ee2 b635 ii oo (1 : Int32) b652) [(.int ii), (.ref b652)])) rfl (by rw [hml]; rfl) (Steps.refl _) (argsL := [(.int ii)]) (rest := []) (lenOf pd_21 rfl) rfl (wz rfl) (hb hby at_245) (fun _ _ => ⟨rfl, e663, (by decide : 3 + 3 ≤ _), (by decide : 15 + 7 ≤ _)⟩)
   dsimp only [Pt.U, Pt.locs, Pt.cells, Pt.slots] at X678 l678 y678 z678 st678 hQ678
   subst l678 y678 z678
   obtain ⟨h678, e678⟩ : ∃ z, T678.heap = z := ⟨_, rfl⟩
   rw [e678] at hQ678
   obtain ⟨yy_678, t_678, k_678, rfl, N678q, K678, p678_0, p678_1, p678_2, p678_3⟩ := hQ678
   have N678 := Fr.app N663 N678q
   have C686 : CHr Z EL1 s.vm h0 s.vm h678 := C664.trans (CHr.keep K678 sf0 C664.1)
   have sz678 : h663.size ≤ h678.size := K678.1
   have nz678 := Nat.le_trans nz663 sz678
   have lt678_0 := ltA p678_0.lt
   have lt678_3 := ltA p678_3.lt
   -- pc 252: String.length by rm_sl_1_1
   have f688 : Old Z n0 h678 := (f680.keep K678 all0)
   obtain ⟨cq687, kq687, q687a, q687b, q687c⟩ := isOf hZ e678 p678_0
   obtain ⟨_, _, ⟨T687, L687, k687, n687⟩, -, X687, ⟨Lc687, hQ687, l687, y687, z687⟩, st687⟩ := X678.virtualBack hx (y := (⟨kS0, "length", "()I"⟩ : MethodName)) (z := (⟨kS0, "length", "()I"⟩ : MethodName)) hown (mvT hZ (wd hw 73 rfl)) (mvT hZ (wd hw 74 rfl)) (notFace_of_selects (args := #[]) (mvT hZ (wd hw 76 rfl))) (mvT hZ (wd hw 76 rfl)) (mvT hZ (wd hw 75 rfl)) (by decide) (backOf (W := 0) (rm_sl_1_1 l Z a0 hw [] yy_678 t_678 k_678 ([(.int ((x0 >>> ((0 : Int32) &&& 31)).toInt8.toInt32)), (.int ((x0 >>> ((8 : Int32) &&& 31)).toInt8.toInt32))]) z0 h678 n0 nz678 f688 p678_0 p678_1 p678_2 p678_3 (by first | assumption | decide | omega) (by first | assumption | decide | omega)) hZ (wd hw 77 rfl) (wd hw 46 rfl) (by decide) (by decide)) q687a q687c (g := (mkF m 252 (la34 q0 q1 p2 p3 p4 b600 l0 l1 l2 l0 ee1 ee2 b635 ii oo (1 : Int32) b652 yy_678) [(.ref yy_678)])) rfl (by rw [hml]; rfl) (Steps.refl _) (argsL := []) (rest := []) (lenOf pd_22 rfl) rfl (wz rfl) (hb hby at_252) (fun _ _ => ⟨rfl, e678, (by decide : 6 + 0 ≤ _), (by decide : 22 + 0 ≤ _)⟩)
   dsimp only [Pt.U, Pt.locs, Pt.cells, Pt.slots] at X687 l687 y687 z687 st687 hQ687
   subst l687 y687 z687
   obtain ⟨rfl, N687q, e687⟩ := hQ687
   have N687 := Fr.app N678 N687q
   -- pc 271: String.charAt by rm_at_1_1_0
   obtain ⟨cq689, kq689, q689a, q689b, q689c⟩ := isOf hZ e687 p678_0
   obtain ⟨_, _, ⟨T689, L689, k689, n689⟩, -, X689, ⟨Lc689, hQ689, l689, y689, z689⟩, st689⟩ := X687.virtualBack hx (y := (⟨kS0, "charAt", "(I)C"⟩ : MethodName)) (z := (⟨kS0, "charAt", "(I)C"⟩ : MethodName)) hown (mvT hZ (wd hw 113 rfl)) (mvT hZ (wd hw 114 rfl)) (notFace_of_selects (args := #[]) (mvT hZ (wd hw 116 rfl))) (mvT hZ (wd hw 116 rfl)) (mvT hZ (wd hw 115 rfl)) (by decide) (backOf (W := 0) (rm_at_1_1_0 l Z a0 hw [] yy_678 t_678 k_678 ((x0 >>> ((0 : Int32) &&& 31)).toInt8.toInt32) ((x0 >>> ((8 : Int32) &&& 31)).toInt8.toInt32) x0 z0 f0 h678 n0 nz678 f688 p678_0 p678_1 p678_2 p678_3 (by first | assumption | decide | omega) (by first | assumption | decide | omega) (by first | assumption | decide | omega) (by first | assumption | decide | omega) (own_pair lb0.1 lb0.2) (own_narid lb0.1 lb0.2) (by first | assumption | decide | omega) (by first | assumption | decide | omega) (by first | assumption | decide | omega)) hZ (wd hw 117 rfl) (wd hw 46 rfl) (by decide) (by decide)) q689a q689c (g := (mkF m 271 (la34 q0 q1 p2 p3 p4 b600 l0 l1 l2 l0 ee1 ee2 b635 ii oo (1 : Int32) b652 yy_678) [(.int 0), (.ref yy_678)])) rfl (by rw [hml]; rfl) (Steps.refl _) (argsL := [(.int 0)]) (rest := []) (lenOf pd_23 rfl) rfl (wz rfl) (hb hby at_271) (fun _ _ => ⟨rfl, e687, (by decide : 6 + 0 ≤ _), (by decide : 22 + 0 ≤ _)⟩)
   dsimp only [Pt.U, Pt.locs, Pt.cells, Pt.slots] at X689 l689 y689 z689 st689 hQ689
   subst l689 y689 z689
   obtain ⟨rfl, N689q, e689⟩ := hQ689
   have N689 := Fr.app N687 N689q
   have f690 : Arv Z h678 b600 k600 .char (8 : Int32) [(.int y0), (.int y1), (.int y2), (.int y3), (.int y4), (.int y5), (.int y6), (.int y7)] (.int 0) := (f685.keep K678 nin0)
   obtain ⟨cl691, Ar691, q691, S691, M691, H691, G691⟩ := id f690
   have hin691 : ¬ (oo < 0 ∨ cl691.slots.size ≤ (oo).toNatClampNeg) := inb_of S691 ob0
   have hat691 : cl691.slots[(oo).toNatClampNeg]? = some (.int x0) := Has.at H691 hin691 hx0
   obtain ⟨fs, hr, hrun, hended, hE⟩ := X689.leaveW hS0 (by rw [e689]; omega) (v := some (.int 1)) (fun h => by rw [Bd.returns] at h; cases h)
   have CE := C686.trans (CHv.at X689 hZ (own_EW hw) C686.1)
   refine ⟨_, _, pre665 _ ?_, hrun, hended, _, _, rfl, ?_, ?_, ⟨hE.1, hE.2.1, hE.2.2.1, hE.2.2.2.mono (by decide) (by decide)⟩⟩
   ·show GO p e below T663 (mkF m 245 (la33 q0 q1 p2 p3 p4 b600 l0 l1 l2 l0 ee1 ee2 b635 ii oo (1 : Int32) b652) [(.int ii), (.ref b652)]) _
    refine st678.trans ?_
    show GO p e below T678 (mkF m 248 (la33 q0 q1 p2 p3 p4 b600 l0 l1 l2 l0 ee1 ee2 b635 ii oo (1 : Int32) b652) [(.ref yy_678)]) _
    refine XS.astore X678.here hx rfl (hb hby at_248) rfl rfl (l' := (la34 q0 q1 p2 p3 p4 b600 l0 l1 l2 l0 ee1 ee2 b635 ii oo (1 : Int32) b652 yy_678)) rfl ?_
    show GO p e below T678 (mkF m 250 (la34 q0 q1 p2 p3 p4 b600 l0 l1 l2 l0 ee1 ee2 b635 ii oo (1 : Int32) b652 yy_678) []) _
    refine XS.aload X678.here hx rfl (hb hby at_250) rfl rfl ?_
    show GO p e below T678 (mkF m 252 (la34 q0 q1 p2 p3 p4 b600 l0 l1 l2 l0 ee1 ee2 b635 ii oo (1 : Int32) b652 yy_678) [(.ref yy_678)]) _
    refine st687.trans ?_
    show GO p e below T687 (mkF m 255 (la34 q0 q1 p2 p3 p4 b600 l0 l1 l2 l0 ee1 ee2 b635 ii oo (1 : Int32) b652 yy_678) [(.int 1)]) _
    refine XS.iload X687.here hx rfl (hb hby at_255) rfl ?_
    show GO p e below T687 (mkF m 257 (la34 q0 q1 p2 p3 p4 b600 l0 l1 l2 l0 ee1 ee2 b635 ii oo (1 : Int32) b652 yy_678) [(.int 1), (.int 1)]) _
    refine XS.icmpYes X687.here hx rfl (pc0 := 257) (pc' := 262) rfl (hb hby at_257) rfl (teq (rfl : (1 : Int32) = (1 : Int32))).1 (by decide) (by decide) ?_
    show GO p e below T687 (mkF m 262 (la34 q0 q1 p2 p3 p4 b600 l0 l1 l2 l0 ee1 ee2 b635 ii oo (1 : Int32) b652 yy_678) []) _
    refine XS.iload X687.here hx rfl (hb hby at_262) rfl ?_
    show GO p e below T687 (mkF m 264 (la34 q0 q1 p2 p3 p4 b600 l0 l1 l2 l0 ee1 ee2 b635 ii oo (1 : Int32) b652 yy_678) [(.int 1)]) _
    refine XS.iconst X687.here hx rfl (hb hby at_264) ?_
    show GO p e below T687 (mkF m 265 (la34 q0 q1 p2 p3 p4 b600 l0 l1 l2 l0 ee1 ee2 b635 ii oo (1 : Int32) b652 yy_678) [(.int 1), (.int 1)]) _
    refine XS.icmpNo X687.here hx rfl (hb hby at_265) rfl (flt ((by decide) : ¬ ((1 : Int32) < (1 : Int32)))).1 ?_
    show GO p e below T687 (mkF m 268 (la34 q0 q1 p2 p3 p4 b600 l0 l1 l2 l0 ee1 ee2 b635 ii oo (1 : Int32) b652 yy_678) []) _
    refine XS.aload X687.here hx rfl (hb hby at_268) rfl rfl ?_
    show GO p e below T687 (mkF m 270 (la34 q0 q1 p2 p3 p4 b600 l0 l1 l2 l0 ee1 ee2 b635 ii oo (1 : Int32) b652 yy_678) [(.ref yy_678)]) _
    refine XS.iconst X687.here hx rfl (hb hby at_270) ?_
    show GO p e below T687 (mkF m 271 (la34 q0 q1 p2 p3 p4 b600 l0 l1 l2 l0 ee1 ee2 b635 ii oo (1 : Int32) b652 yy_678) [(.int 0), (.ref yy_678)]) _
    refine st689.trans ?_
    show GO p e below T689 (mkF m 274 (la34 q0 q1 p2 p3 p4 b600 l0 l1 l2 l0 ee1 ee2 b635 ii oo (1 : Int32) b652 yy_678) [(.int x0)]) _
    refine XS.aload X689.here hx rfl (hb hby at_274) rfl rfl ?_
    show GO p e below T689 (mkF m 276 (la34 q0 q1 p2 p3 p4 b600 l0 l1 l2 l0 ee1 ee2 b635 ii oo (1 : Int32) b652 yy_678) [(.ref b600), (.int x0)]) _
    refine XS.iload X689.here hx rfl (hb hby at_276) rfl ?_
    show GO p e below T689 (mkF m 278 (la34 q0 q1 p2 p3 p4 b600 l0 l1 l2 l0 ee1 ee2 b635 ii oo (1 : Int32) b652 yy_678) [(.int oo), (.ref b600), (.int x0)]) _
    refine X689.caload hx (j := oo) (v := (.int x0)) (by rw [e689]; exact Ar691.1) (State.isArrayOf_alike hZ.alike Ar691.2.1) Ar691.2.2 hin691 hat691 (g := (mkF m 278 (la34 q0 q1 p2 p3 p4 b600 l0 l1 l2 l0 ee1 ee2 b635 ii oo (1 : Int32) b652 yy_678) [(.int oo), (.ref b600), (.int x0)])) rfl rfl (hb hby at_278) _ ?_
    show GO p e below T689 (mkF m 279 (la34 q0 q1 p2 p3 p4 b600 l0 l1 l2 l0 ee1 ee2 b635 ii oo (1 : Int32) b652 yy_678) [(.int x0), (.int x0)]) _
    refine XS.icmpYes X689.here hx rfl (pc0 := 279) (pc' := 284) rfl (hb hby at_279) rfl (teq (rfl : x0 = x0)).1 (by decide) (by decide) ?_
    show GO p e below T689 (mkF m 284 (la34 q0 q1 p2 p3 p4 b600 l0 l1 l2 l0 ee1 ee2 b635 ii oo (1 : Int32) b652 yy_678) []) _
    refine XS.iload X689.here hx rfl (hb hby at_284) rfl ?_
    show GO p e below T689 (mkF m 286 (la34 q0 q1 p2 p3 p4 b600 l0 l1 l2 l0 ee1 ee2 b635 ii oo (1 : Int32) b652 yy_678) [(.int 1)]) _
    refine XS.iconst X689.here hx rfl (hb hby at_286) ?_
    show GO p e below T689 (mkF m 287 (la34 q0 q1 p2 p3 p4 b600 l0 l1 l2 l0 ee1 ee2 b635 ii oo (1 : Int32) b652 yy_678) [(.int 2), (.int 1)]) _
    refine XS.icmpYes X689.here hx rfl (pc0 := 287) (pc' := 308) rfl (hb hby at_287) rfl (tlt ((by decide) : (1 : Int32) < (2 : Int32))).1 (by decide) (by decide) ?_
    show GO p e below T689 (mkF m 308 (la34 q0 q1 p2 p3 p4 b600 l0 l1 l2 l0 ee1 ee2 b635 ii oo (1 : Int32) b652 yy_678) []) _
    refine XS.iconst X689.here hx rfl (hb hby at_308) ?_
    show GO p e below T689 (mkF m 309 (la34 q0 q1 p2 p3 p4 b600 l0 l1 l2 l0 ee1 ee2 b635 ii oo (1 : Int32) b652 yy_678) [(.int 1)]) _
    exact retN X689 hx (t := .boolean) Bd.returns (by simp) (hb hby at_309) hr
   ·show Qrm0 Z q0 q1 p2 p3 p4 z0 f0 h0 n0 _ T689.heap _
    rw [e689]
    exact ⟨rfl, N689⟩
   ·show CHr Z EL1 s.vm s.heap T689.vm T689.heap
    rw [hh, e689]
    exact CE
  ·-- pc 245: CsvRecord.get by rm_get_1L
   have ge693 : n0 ≤ b652 := by omega
   have f694 : Old Z n0 h663 := (((((((((((((((O0.ext E600).wr W603 ge604).wr W607 ge604).wr W610 ge604).wr W613 ge604).wr W616 ge604).wr W619 ge604).wr W622 ge604).wr W625 ge604).ext E635).wr W638 ge639).wr W642 ge639).wr W645 ge639).ext E652).keep K663 (allS ge693 all0))
   have ne695 : b635 ≠ b652 := neN (by omega)
   have f696 : Arv Z h663 b635 k635 .int (3 : Int32) [(.int l0), (.int ee1), (.int ee2)] (.int 0) := ((V645.ext E652).keep K663 (ninS ne695 nin0))
   have ne697 : b600 ≠ b635 := neN (by omega)
   have ne698 : b600 ≠ b652 := neN (by omega)
   have f699 : Arv Z h663 b600 k600 .char (8 : Int32) [(.int y0), (.int y1), (.int y2), (.int y3), (.int y4), (.int y5), (.int y6), (.int y7)] (.int 0) := ((((((f634.ext E635).other W638 ne697).other W642 ne697).other W645 ne697).ext E652).keep K663 (ninS ne698 nin0))
   obtain ⟨cq692, kq692, q692a, q692b, q692c⟩ := isOf hZ e663 p663_0
   obtain ⟨_, _, ⟨T692, L692, k692, n692⟩, -, X692, ⟨Lc692, hQ692, l692, y692, z692⟩, st692⟩ := X663.virtualBack hx (y := (⟨kS2, "get", "(I)Ljava/lang/String;"⟩ : MethodName)) (z := (⟨kS2, "get", "(I)Ljava/lang/String;"⟩ : MethodName)) hown (mvT hZ (wd hw 31 rfl)) (mvT hZ (wd hw 32 rfl)) (notFace_of_selects (args := #[]) (mvT hZ (wd hw 34 rfl))) (mvT hZ (wd hw 34 rfl)) (mvT hZ (wd hw 33 rfl)) (by decide) (backOf (W := 0) (rm_get_1L l Z a0 hw [] b652 ii b635 k635 l0 ee1 ee2 z0 f0 b600 k600 ([(.int y0), (.int y1), (.int y2), (.int y3), (.int y4), (.int y5), (.int y6), (.int y7)]) oo x0 h663 n0 nz663 f694 p663_1 p663_2 f696 f699 (by first | assumption | decide | omega) (by first | assumption | decide | omega) (by first | assumption | decide | omega) (by first | assumption | decide | omega) (by first | assumption | decide | omega) (by first | assumption | decide | omega) (by first | assumption | decide | omega) hx0 lb0 hb677 P) hZ (wd hw 35 rfl) (wd hw 5 rfl) (by decide) (by decide)) q692a q692c (g := (mkF m 245 (la33 q0 q1 p2 p3 p4 b600 l0 l1 l2 l0 ee1 ee2 b635 ii oo (1 : Int32) b652) [(.int ii), (.ref b652)])) rfl (by rw [hml]; rfl) (Steps.refl _) (argsL := [(.int ii)]) (rest := []) (lenOf pd_21 rfl) rfl (wz rfl) (hb hby at_245) (fun _ _ => ⟨rfl, e663, (by decide : 3 + 2 ≤ _), (by decide : 15 + 5 ≤ _)⟩)
   dsimp only [Pt.U, Pt.locs, Pt.cells, Pt.slots] at X692 l692 y692 z692 st692 hQ692
   subst l692 y692 z692
   obtain ⟨h692, e692⟩ : ∃ z, T692.heap = z := ⟨_, rfl⟩
   rw [e692] at hQ692
   obtain ⟨yy_692, t_692, k_692, rfl, N692q, K692, p692_0, p692_1, p692_2, p692_3⟩ := hQ692
   have N692 := Fr.app N663 N692q
   have C700 : CHr Z EL1 s.vm h0 s.vm h692 := C664.trans (CHr.keep K692 sf0 C664.1)
   have sz692 : h663.size ≤ h692.size := K692.1
   have nz692 := Nat.le_trans nz663 sz692
   have lt692_0 := ltA p692_0.lt
   have lt692_3 := ltA p692_3.lt
   -- pc 252: String.length by rm_sl_1_0
   have f702 : Old Z n0 h692 := (f694.keep K692 all0)
   obtain ⟨cq701, kq701, q701a, q701b, q701c⟩ := isOf hZ e692 p692_0
   obtain ⟨_, _, ⟨T701, L701, k701, n701⟩, -, X701, ⟨Lc701, hQ701, l701, y701, z701⟩, st701⟩ := X692.virtualBack hx (y := (⟨kS0, "length", "()I"⟩ : MethodName)) (z := (⟨kS0, "length", "()I"⟩ : MethodName)) hown (mvT hZ (wd hw 73 rfl)) (mvT hZ (wd hw 74 rfl)) (notFace_of_selects (args := #[]) (mvT hZ (wd hw 76 rfl))) (mvT hZ (wd hw 76 rfl)) (mvT hZ (wd hw 75 rfl)) (by decide) (backOf (W := 0) (rm_sl_1_0 l Z a0 hw [] yy_692 t_692 k_692 ([(.int (x0.toInt8.toInt32))]) z0 h692 n0 nz692 f702 p692_0 p692_1 p692_2 p692_3 (by first | assumption | decide | omega) (by first | assumption | decide | omega)) hZ (wd hw 77 rfl) (wd hw 46 rfl) (by decide) (by decide)) q701a q701c (g := (mkF m 252 (la34 q0 q1 p2 p3 p4 b600 l0 l1 l2 l0 ee1 ee2 b635 ii oo (1 : Int32) b652 yy_692) [(.ref yy_692)])) rfl (by rw [hml]; rfl) (Steps.refl _) (argsL := []) (rest := []) (lenOf pd_22 rfl) rfl (wz rfl) (hb hby at_252) (fun _ _ => ⟨rfl, e692, (by decide : 5 + 0 ≤ _), (by decide : 20 + 0 ≤ _)⟩)
   dsimp only [Pt.U, Pt.locs, Pt.cells, Pt.slots] at X701 l701 y701 z701 st701 hQ701
   subst l701 y701 z701
   obtain ⟨rfl, N701q, e701⟩ := hQ701
   have N701 := Fr.app N692 N701q
   -- pc 271: String.charAt by rm_at_1_0_0
   obtain ⟨cq703, kq703, q703a, q703b, q703c⟩ := isOf hZ e701 p692_0
   obtain ⟨_, _, ⟨T703, L703, k703, n703⟩, -, X703, ⟨Lc703, hQ703, l703, y703, z703⟩, st703⟩ := X701.virtualBack hx (y := (⟨kS0, "charAt", "(I)C"⟩ : MethodName)) (z := (⟨kS0, "charAt", "(I)C"⟩ : MethodName)) hown (mvT hZ (wd hw 113 rfl)) (mvT hZ (wd hw 114 rfl)) (notFace_of_selects (args := #[]) (mvT hZ (wd hw 116 rfl))) (mvT hZ (wd hw 116 rfl)) (mvT hZ (wd hw 115 rfl)) (by decide) (backOf (W := 0) (rm_at_1_0_0 l Z a0 hw [] yy_692 t_692 k_692 (x0.toInt8.toInt32) x0 z0 f0 h692 n0 nz692 f702 p692_0 p692_1 p692_2 p692_3 (by first | assumption | decide | omega) (by first | assumption | decide | omega) (by first | assumption | decide | omega) (by first | assumption | decide | omega) (own_ch8 lb0.1 hb677) (own_narid lb0.1 lb0.2)) hZ (wd hw 117 rfl) (wd hw 46 rfl) (by decide) (by decide)) q703a q703c (g := (mkF m 271 (la34 q0 q1 p2 p3 p4 b600 l0 l1 l2 l0 ee1 ee2 b635 ii oo (1 : Int32) b652 yy_692) [(.int 0), (.ref yy_692)])) rfl (by rw [hml]; rfl) (Steps.refl _) (argsL := [(.int 0)]) (rest := []) (lenOf pd_23 rfl) rfl (wz rfl) (hb hby at_271) (fun _ _ => ⟨rfl, e701, (by decide : 5 + 0 ≤ _), (by decide : 20 + 0 ≤ _)⟩)
   dsimp only [Pt.U, Pt.locs, Pt.cells, Pt.slots] at X703 l703 y703 z703 st703 hQ703
   subst l703 y703 z703
   obtain ⟨rfl, N703q, e703⟩ := hQ703
   have N703 := Fr.app N701 N703q
   have f704 : Arv Z h692 b600 k600 .char (8 : Int32) [(.int y0), (.int y1), (.int y2), (.int y3), (.int y4), (.int y5), (.int y6), (.int y7)] (.int 0) := (f699.keep K692 nin0)
   obtain ⟨cl705, Ar705, q705, S705, M705, H705, G705⟩ := id f704
   have hin705 : ¬ (oo < 0 ∨ cl705.slots.size ≤ (oo).toNatClampNeg) := inb_of S705 ob0
   have hat705 : cl705.slots[(oo).toNatClampNeg]? = some (.int x0) := Has.at H705 hin705 hx0
   obtain ⟨fs, hr, hrun, hended, hE⟩ := X703.leaveW hS0 (by rw [e703]; omega) (v := some (.int 1)) (fun h => by rw [Bd.returns] at h; cases h)
   have CE := C700.trans (CHv.at X703 hZ (own_EW hw) C700.1)
   refine ⟨_, _, pre665 _ ?_, hrun, hended, _, _, rfl, ?_, ?_, ⟨hE.1, hE.2.1, hE.2.2.1, hE.2.2.2.mono (by decide) (by decide)⟩⟩
   ·show GO p e below T663 (mkF m 245 (la33 q0 q1 p2 p3 p4 b600 l0 l1 l2 l0 ee1 ee2 b635 ii oo (1 : Int32) b652) [(.int ii), (.ref b652)]) _
    refine st692.trans ?_
    show GO p e below T692 (mkF m 248 (la33 q0 q1 p2 p3 p4 b600 l0 l1 l2 l0 ee1 ee2 b635 ii oo (1 : Int32) b652) [(.ref yy_692)]) _
    refine XS.astore X692.here hx rfl (hb hby at_248) rfl rfl (l' := (la34 q0 q1 p2 p3 p4 b600 l0 l1 l2 l0 ee1 ee2 b635 ii oo (1 : Int32) b652 yy_692)) rfl ?_
    show GO p e below T692 (mkF m 250 (la34 q0 q1 p2 p3 p4 b600 l0 l1 l2 l0 ee1 ee2 b635 ii oo (1 : Int32) b652 yy_692) []) _
    refine XS.aload X692.here hx rfl (hb hby at_250) rfl rfl ?_
    show GO p e below T692 (mkF m 252 (la34 q0 q1 p2 p3 p4 b600 l0 l1 l2 l0 ee1 ee2 b635 ii oo (1 : Int32) b652 yy_692) [(.ref yy_692)]) _
    refine st701.trans ?_
    show GO p e below T701 (mkF m 255 (la34 q0 q1 p2 p3 p4 b600 l0 l1 l2 l0 ee1 ee2 b635 ii oo (1 : Int32) b652 yy_692) [(.int 1)]) _
    refine XS.iload X701.here hx rfl (hb hby at_255) rfl ?_
    show GO p e below T701 (mkF m 257 (la34 q0 q1 p2 p3 p4 b600 l0 l1 l2 l0 ee1 ee2 b635 ii oo (1 : Int32) b652 yy_692) [(.int 1), (.int 1)]) _
    refine XS.icmpYes X701.here hx rfl (pc0 := 257) (pc' := 262) rfl (hb hby at_257) rfl (teq (rfl : (1 : Int32) = (1 : Int32))).1 (by decide) (by decide) ?_
    show GO p e below T701 (mkF m 262 (la34 q0 q1 p2 p3 p4 b600 l0 l1 l2 l0 ee1 ee2 b635 ii oo (1 : Int32) b652 yy_692) []) _
    refine XS.iload X701.here hx rfl (hb hby at_262) rfl ?_
    show GO p e below T701 (mkF m 264 (la34 q0 q1 p2 p3 p4 b600 l0 l1 l2 l0 ee1 ee2 b635 ii oo (1 : Int32) b652 yy_692) [(.int 1)]) _
    refine XS.iconst X701.here hx rfl (hb hby at_264) ?_
    show GO p e below T701 (mkF m 265 (la34 q0 q1 p2 p3 p4 b600 l0 l1 l2 l0 ee1 ee2 b635 ii oo (1 : Int32) b652 yy_692) [(.int 1), (.int 1)]) _
    refine XS.icmpNo X701.here hx rfl (hb hby at_265) rfl (flt ((by decide) : ¬ ((1 : Int32) < (1 : Int32)))).1 ?_
    show GO p e below T701 (mkF m 268 (la34 q0 q1 p2 p3 p4 b600 l0 l1 l2 l0 ee1 ee2 b635 ii oo (1 : Int32) b652 yy_692) []) _
    refine XS.aload X701.here hx rfl (hb hby at_268) rfl rfl ?_
    show GO p e below T701 (mkF m 270 (la34 q0 q1 p2 p3 p4 b600 l0 l1 l2 l0 ee1 ee2 b635 ii oo (1 : Int32) b652 yy_692) [(.ref yy_692)]) _
    refine XS.iconst X701.here hx rfl (hb hby at_270) ?_
    show GO p e below T701 (mkF m 271 (la34 q0 q1 p2 p3 p4 b600 l0 l1 l2 l0 ee1 ee2 b635 ii oo (1 : Int32) b652 yy_692) [(.int 0), (.ref yy_692)]) _
    refine st703.trans ?_
    show GO p e below T703 (mkF m 274 (la34 q0 q1 p2 p3 p4 b600 l0 l1 l2 l0 ee1 ee2 b635 ii oo (1 : Int32) b652 yy_692) [(.int x0)]) _
    refine XS.aload X703.here hx rfl (hb hby at_274) rfl rfl ?_
    show GO p e below T703 (mkF m 276 (la34 q0 q1 p2 p3 p4 b600 l0 l1 l2 l0 ee1 ee2 b635 ii oo (1 : Int32) b652 yy_692) [(.ref b600), (.int x0)]) _
    refine XS.iload X703.here hx rfl (hb hby at_276) rfl ?_
    show GO p e below T703 (mkF m 278 (la34 q0 q1 p2 p3 p4 b600 l0 l1 l2 l0 ee1 ee2 b635 ii oo (1 : Int32) b652 yy_692) [(.int oo), (.ref b600), (.int x0)]) _
    refine X703.caload hx (j := oo) (v := (.int x0)) (by rw [e703]; exact Ar705.1) (State.isArrayOf_alike hZ.alike Ar705.2.1) Ar705.2.2 hin705 hat705 (g := (mkF m 278 (la34 q0 q1 p2 p3 p4 b600 l0 l1 l2 l0 ee1 ee2 b635 ii oo (1 : Int32) b652 yy_692) [(.int oo), (.ref b600), (.int x0)])) rfl rfl (hb hby at_278) _ ?_
    show GO p e below T703 (mkF m 279 (la34 q0 q1 p2 p3 p4 b600 l0 l1 l2 l0 ee1 ee2 b635 ii oo (1 : Int32) b652 yy_692) [(.int x0), (.int x0)]) _
    refine XS.icmpYes X703.here hx rfl (pc0 := 279) (pc' := 284) rfl (hb hby at_279) rfl (teq (rfl : x0 = x0)).1 (by decide) (by decide) ?_
    show GO p e below T703 (mkF m 284 (la34 q0 q1 p2 p3 p4 b600 l0 l1 l2 l0 ee1 ee2 b635 ii oo (1 : Int32) b652 yy_692) []) _
    refine XS.iload X703.here hx rfl (hb hby at_284) rfl ?_
    show GO p e below T703 (mkF m 286 (la34 q0 q1 p2 p3 p4 b600 l0 l1 l2 l0 ee1 ee2 b635 ii oo (1 : Int32) b652 yy_692) [(.int 1)]) _
    refine XS.iconst X703.here hx rfl (hb hby at_286) ?_
    show GO p e below T703 (mkF m 287 (la34 q0 q1 p2 p3 p4 b600 l0 l1 l2 l0 ee1 ee2 b635 ii oo (1 : Int32) b652 yy_692) [(.int 2), (.int 1)]) _
    refine XS.icmpYes X703.here hx rfl (pc0 := 287) (pc' := 308) rfl (hb hby at_287) rfl (tlt ((by decide) : (1 : Int32) < (2 : Int32))).1 (by decide) (by decide) ?_
    show GO p e below T703 (mkF m 308 (la34 q0 q1 p2 p3 p4 b600 l0 l1 l2 l0 ee1 ee2 b635 ii oo (1 : Int32) b652 yy_692) []) _
    refine XS.iconst X703.here hx rfl (hb hby at_308) ?_
    show GO p e below T703 (mkF m 309 (la34 q0 q1 p2 p3 p4 b600 l0 l1 l2 l0 ee1 ee2 b635 ii oo (1 : Int32) b652 yy_692) [(.int 1)]) _
    exact retN X703 hx (t := .boolean) Bd.returns (by simp) (hb hby at_309) hr
   ·show Qrm0 Z q0 q1 p2 p3 p4 z0 f0 h0 n0 _ T703.heap _
    rw [e703]
    exact ⟨rfl, N703⟩
   ·show CHr Z EL1 s.vm s.heap T703.vm T703.heap
    rw [hh, e703]
    exact CE
 ·have ob0 := P.1
  have ob1 := P.2.1 rfl
  obtain ⟨x0, hx0, lb0⟩ := own_get8 by0 by1 by2 by3 by4 by5 by6 by7 (oo).toNatClampNeg
  obtain ⟨x1, hx1, lb1⟩ := own_get8 by0 by1 by2 by3 by4 by5 by6 by7 ((oo + (1 : Int32))).toNatClampNeg
  by_cases hb706 : (255 : Int32) < x0
  ·-- pc 245: CsvRecord.get by rm_get_2A
   have ge708 : n0 ≤ b652 := by omega
   have f709 : Old Z n0 h663 := (((((((((((((((O0.ext E600).wr W603 ge604).wr W607 ge604).wr W610 ge604).wr W613 ge604).wr W616 ge604).wr W619 ge604).wr W622 ge604).wr W625 ge604).ext E635).wr W638 ge639).wr W642 ge639).wr W645 ge639).ext E652).keep K663 (allS ge708 all0))
   have ne710 : b635 ≠ b652 := neN (by omega)
   have f711 : Arv Z h663 b635 k635 .int (3 : Int32) [(.int l0), (.int ee1), (.int ee2)] (.int 0) := ((V645.ext E652).keep K663 (ninS ne710 nin0))
   have ne712 : b600 ≠ b635 := neN (by omega)
   have ne713 : b600 ≠ b652 := neN (by omega)
   have f714 : Arv Z h663 b600 k600 .char (8 : Int32) [(.int y0), (.int y1), (.int y2), (.int y3), (.int y4), (.int y5), (.int y6), (.int y7)] (.int 0) := ((((((f634.ext E635).other W638 ne712).other W642 ne712).other W645 ne712).ext E652).keep K663 (ninS ne713 nin0))
   obtain ⟨cq707, kq707, q707a, q707b, q707c⟩ := isOf hZ e663 p663_0
   obtain ⟨_, _, ⟨T707, L707, k707, n707⟩, -, X707, ⟨Lc707, hQ707, l707, y707, z707⟩, st707⟩ := X663.virtualBack hx (y := (⟨kS2, "get", "(I)Ljava/lang/String;"⟩ : MethodName)) (z := (⟨kS2, "get", "(I)Ljava/lang/String;"⟩ : MethodName)) hown (mvT hZ (wd hw 31 rfl)) (mvT hZ (wd hw 32 rfl)) (notFace_of_selects (args := #[]) (mvT hZ (wd hw 34 rfl))) (mvT hZ (wd hw 34 rfl)) (mvT hZ (wd hw 33 rfl)) (by decide) (backOf (W := 0) (rm_get_2A l Z a0 hw [] b652 ii b635 k635 l0 ee1 ee2 z0 f0 b600 k600 ([(.int y0), (.int y1), (.int y2), (.int y3), (.int y4), (.int y5), (.int y6), (.int y7)]) oo x0 x1 h663 n0 nz663 f709 p663_1 p663_2 f711 f714 (by first | assumption | decide | omega) (by first | assumption | decide | omega) (by first | assumption | decide | omega) (by first | assumption | decide | omega) (by first | assumption | decide | omega) (by first | assumption | decide | omega) (by first | assumption | decide | omega) hx0 lb0 hx1 lb1 hb706 P) hZ (wd hw 35 rfl) (wd hw 5 rfl) (by decide) (by decide)) q707a q707c (g := (mkF m 245 (la33 q0 q1 p2 p3 p4 b600 l0 l1 l2 l0 ee1 ee2 b635 ii oo (2 : Int32) b652) [(.int ii), (.ref b652)])) rfl (by rw [hml]; rfl) (Steps.refl _) (argsL := [(.int ii)]) (rest := []) (lenOf pd_21 rfl) rfl (wz rfl) (hb hby at_245) (fun _ _ => ⟨rfl, e663, (by decide : 3 + 3 ≤ _), (by decide : 15 + 10 ≤ _)⟩)
   dsimp only [Pt.U, Pt.locs, Pt.cells, Pt.slots] at X707 l707 y707 z707 st707 hQ707
   subst l707 y707 z707
   obtain ⟨h707, e707⟩ : ∃ z, T707.heap = z := ⟨_, rfl⟩
   rw [e707] at hQ707
   obtain ⟨yy_707, t_707, k_707, rfl, N707q, K707, p707_0, p707_1, p707_2, p707_3⟩ := hQ707
   have N707 := Fr.app N663 N707q
   have C715 : CHr Z EL1 s.vm h0 s.vm h707 := C664.trans (CHr.keep K707 sf0 C664.1)
   have sz707 : h663.size ≤ h707.size := K707.1
   have nz707 := Nat.le_trans nz663 sz707
   have lt707_0 := ltA p707_0.lt
   have lt707_3 := ltA p707_3.lt
   -- pc 252: String.length by rm_sl_2_1
   have f717 : Old Z n0 h707 := (f709.keep K707 all0)
   obtain ⟨cq716, kq716, q716a, q716b, q716c⟩ := isOf hZ e707 p707_0
   obtain ⟨_, _, ⟨T716, L716, k716, n716⟩, -, X716, ⟨Lc716, hQ716, l716, y716, z716⟩, st716⟩ := X707.virtualBack hx (y := (⟨kS0, "length", "()I"⟩ : MethodName)) (z := (⟨kS0, "length", "()I"⟩ : MethodName)) hown (mvT hZ (wd hw 73 rfl)) (mvT hZ (wd hw 74 rfl)) (notFace_of_selects (args := #[]) (mvT hZ (wd hw 76 rfl))) (mvT hZ (wd hw 76 rfl)) (mvT hZ (wd hw 75 rfl)) (by decide) (backOf (W := 0) (rm_sl_2_1 l Z a0 hw [] yy_707 t_707 k_707 ([(.int ((x0 >>> ((0 : Int32) &&& 31)).toInt8.toInt32)), (.int ((x0 >>> ((8 : Int32) &&& 31)).toInt8.toInt32)), (.int ((x1 >>> ((0 : Int32) &&& 31)).toInt8.toInt32)), (.int ((x1 >>> ((8 : Int32) &&& 31)).toInt8.toInt32))]) z0 h707 n0 nz707 f717 p707_0 p707_1 p707_2 p707_3 (by first | assumption | decide | omega) (by first | assumption | decide | omega)) hZ (wd hw 77 rfl) (wd hw 46 rfl) (by decide) (by decide)) q716a q716c (g := (mkF m 252 (la34 q0 q1 p2 p3 p4 b600 l0 l1 l2 l0 ee1 ee2 b635 ii oo (2 : Int32) b652 yy_707) [(.ref yy_707)])) rfl (by rw [hml]; rfl) (Steps.refl _) (argsL := []) (rest := []) (lenOf pd_22 rfl) rfl (wz rfl) (hb hby at_252) (fun _ _ => ⟨rfl, e707, (by decide : 6 + 0 ≤ _), (by decide : 25 + 0 ≤ _)⟩)
   dsimp only [Pt.U, Pt.locs, Pt.cells, Pt.slots] at X716 l716 y716 z716 st716 hQ716
   subst l716 y716 z716
   obtain ⟨rfl, N716q, e716⟩ := hQ716
   have N716 := Fr.app N707 N716q
   -- pc 271: String.charAt by rm_at_2_1_0
   obtain ⟨cq718, kq718, q718a, q718b, q718c⟩ := isOf hZ e716 p707_0
   obtain ⟨_, _, ⟨T718, L718, k718, n718⟩, -, X718, ⟨Lc718, hQ718, l718, y718, z718⟩, st718⟩ := X716.virtualBack hx (y := (⟨kS0, "charAt", "(I)C"⟩ : MethodName)) (z := (⟨kS0, "charAt", "(I)C"⟩ : MethodName)) hown (mvT hZ (wd hw 113 rfl)) (mvT hZ (wd hw 114 rfl)) (notFace_of_selects (args := #[]) (mvT hZ (wd hw 116 rfl))) (mvT hZ (wd hw 116 rfl)) (mvT hZ (wd hw 115 rfl)) (by decide) (backOf (W := 0) (rm_at_2_1_0 l Z a0 hw [] yy_707 t_707 k_707 ((x0 >>> ((0 : Int32) &&& 31)).toInt8.toInt32) ((x0 >>> ((8 : Int32) &&& 31)).toInt8.toInt32) ((x1 >>> ((0 : Int32) &&& 31)).toInt8.toInt32) ((x1 >>> ((8 : Int32) &&& 31)).toInt8.toInt32) x0 z0 f0 h707 n0 nz707 f717 p707_0 p707_1 p707_2 p707_3 (by first | assumption | decide | omega) (by first | assumption | decide | omega) (by first | assumption | decide | omega) (by first | assumption | decide | omega) (own_pair lb0.1 lb0.2) (own_narid lb0.1 lb0.2) (by first | assumption | decide | omega) (by first | assumption | decide | omega) (by first | assumption | decide | omega)) hZ (wd hw 117 rfl) (wd hw 46 rfl) (by decide) (by decide)) q718a q718c (g := (mkF m 271 (la34 q0 q1 p2 p3 p4 b600 l0 l1 l2 l0 ee1 ee2 b635 ii oo (2 : Int32) b652 yy_707) [(.int 0), (.ref yy_707)])) rfl (by rw [hml]; rfl) (Steps.refl _) (argsL := [(.int 0)]) (rest := []) (lenOf pd_23 rfl) rfl (wz rfl) (hb hby at_271) (fun _ _ => ⟨rfl, e716, (by decide : 6 + 0 ≤ _), (by decide : 25 + 0 ≤ _)⟩)
   dsimp only [Pt.U, Pt.locs, Pt.cells, Pt.slots] at X718 l718 y718 z718 st718 hQ718
   subst l718 y718 z718
   obtain ⟨rfl, N718q, e718⟩ := hQ718
   have N718 := Fr.app N716 N718q
   have f719 : Arv Z h707 b600 k600 .char (8 : Int32) [(.int y0), (.int y1), (.int y2), (.int y3), (.int y4), (.int y5), (.int y6), (.int y7)] (.int 0) := (f714.keep K707 nin0)
   obtain ⟨cl720, Ar720, q720, S720, M720, H720, G720⟩ := id f719
   have hin720 : ¬ (oo < 0 ∨ cl720.slots.size ≤ (oo).toNatClampNeg) := inb_of S720 ob0
   have hat720 : cl720.slots[(oo).toNatClampNeg]? = some (.int x0) := Has.at H720 hin720 hx0
   -- pc 293: String.charAt by rm_at_2_1_1
   obtain ⟨cq721, kq721, q721a, q721b, q721c⟩ := isOf hZ e718 p707_0
   obtain ⟨_, _, ⟨T721, L721, k721, n721⟩, -, X721, ⟨Lc721, hQ721, l721, y721, z721⟩, st721⟩ := X718.virtualBack hx (y := (⟨kS0, "charAt", "(I)C"⟩ : MethodName)) (z := (⟨kS0, "charAt", "(I)C"⟩ : MethodName)) hown (mvT hZ (wd hw 113 rfl)) (mvT hZ (wd hw 114 rfl)) (notFace_of_selects (args := #[]) (mvT hZ (wd hw 116 rfl))) (mvT hZ (wd hw 116 rfl)) (mvT hZ (wd hw 115 rfl)) (by decide) (backOf (W := 0) (rm_at_2_1_1 l Z a0 hw [] yy_707 t_707 k_707 ((x0 >>> ((0 : Int32) &&& 31)).toInt8.toInt32) ((x0 >>> ((8 : Int32) &&& 31)).toInt8.toInt32) ((x1 >>> ((0 : Int32) &&& 31)).toInt8.toInt32) ((x1 >>> ((8 : Int32) &&& 31)).toInt8.toInt32) x1 z0 f0 h707 n0 nz707 f717 p707_0 p707_1 p707_2 p707_3 (by first | assumption | decide | omega) (by first | assumption | decide | omega) (by first | assumption | decide | omega) (by first | assumption | decide | omega) (own_pair lb1.1 lb1.2) (own_narid lb1.1 lb1.2) (by first | assumption | decide | omega) (by first | assumption | decide | omega) (by first | assumption | decide | omega)) hZ (wd hw 117 rfl) (wd hw 46 rfl) (by decide) (by decide)) q721a q721c (g := (mkF m 293 (la34 q0 q1 p2 p3 p4 b600 l0 l1 l2 l0 ee1 ee2 b635 ii oo (2 : Int32) b652 yy_707) [(.int 1), (.ref yy_707)])) rfl (by rw [hml]; rfl) (Steps.refl _) (argsL := [(.int 1)]) (rest := []) (lenOf pd_23 rfl) rfl (wz rfl) (hb hby at_293) (fun _ _ => ⟨rfl, e718, (by decide : 6 + 0 ≤ _), (by decide : 25 + 0 ≤ _)⟩)
   dsimp only [Pt.U, Pt.locs, Pt.cells, Pt.slots] at X721 l721 y721 z721 st721 hQ721
   subst l721 y721 z721
   obtain ⟨rfl, N721q, e721⟩ := hQ721
   have N721 := Fr.app N718 N721q
   obtain ⟨cl722, Ar722, q722, S722, M722, H722, G722⟩ := id f719
   have hin722 : ¬ ((oo + (1 : Int32)) < 0 ∨ cl722.slots.size ≤ ((oo + (1 : Int32))).toNatClampNeg) := inb_of S722 ob1
   have hat722 : cl722.slots[((oo + (1 : Int32))).toNatClampNeg]? = some (.int x1) := Has.at H722 hin722 hx1
   obtain ⟨fs, hr, hrun, hended, hE⟩ := X721.leaveW hS0 (by rw [e721]; omega) (v := some (.int 1)) (fun h => by rw [Bd.returns] at h; cases h)
   have CE := C715.trans (CHv.at X721 hZ (own_EW hw) C715.1)
   refine ⟨_, _, pre665 _ ?_, hrun, hended, _, _, rfl, ?_, ?_, ⟨hE.1, hE.2.1, hE.2.2.1, hE.2.2.2.mono (by decide) (by decide)⟩⟩
   ·show GO p e below T663 (mkF m 245 (la33 q0 q1 p2 p3 p4 b600 l0 l1 l2 l0 ee1 ee2 b635 ii oo (2 : Int32) b652) [(.int ii), (.ref b652)]) _
    refine st707.trans ?_
    show GO p e below T707 (mkF m 248 (la33 q0 q1 p2 p3 p4 b600 l0 l1 l2 l0 ee1 ee2 b635 ii oo (2 : Int32) b652) [(.ref yy_707)]) _
    refine XS.astore X707.here hx rfl (hb hby at_248) rfl rfl (l' := (la34 q0 q1 p2 p3 p4 b600 l0 l1 l2 l0 ee1 ee2 b635 ii oo (2 : Int32) b652 yy_707)) rfl ?_
    show GO p e below T707 (mkF m 250 (la34 q0 q1 p2 p3 p4 b600 l0 l1 l2 l0 ee1 ee2 b635 ii oo (2 : Int32) b652 yy_707) []) _
    refine XS.aload X707.here hx rfl (hb hby at_250) rfl rfl ?_
    show GO p e below T707 (mkF m 252 (la34 q0 q1 p2 p3 p4 b600 l0 l1 l2 l0 ee1 ee2 b635 ii oo (2 : Int32) b652 yy_707) [(.ref yy_707)]) _
    refine st716.trans ?_
    show GO p e below T716 (mkF m 255 (la34 q0 q1 p2 p3 p4 b600 l0 l1 l2 l0 ee1 ee2 b635 ii oo (2 : Int32) b652 yy_707) [(.int 2)]) _
    refine XS.iload X716.here hx rfl (hb hby at_255) rfl ?_
    show GO p e below T716 (mkF m 257 (la34 q0 q1 p2 p3 p4 b600 l0 l1 l2 l0 ee1 ee2 b635 ii oo (2 : Int32) b652 yy_707) [(.int 2), (.int 2)]) _
    refine XS.icmpYes X716.here hx rfl (pc0 := 257) (pc' := 262) rfl (hb hby at_257) rfl (teq (rfl : (2 : Int32) = (2 : Int32))).1 (by decide) (by decide) ?_
    show GO p e below T716 (mkF m 262 (la34 q0 q1 p2 p3 p4 b600 l0 l1 l2 l0 ee1 ee2 b635 ii oo (2 : Int32) b652 yy_707) []) _
    refine XS.iload X716.here hx rfl (hb hby at_262) rfl ?_
    show GO p e below T716 (mkF m 264 (la34 q0 q1 p2 p3 p4 b600 l0 l1 l2 l0 ee1 ee2 b635 ii oo (2 : Int32) b652 yy_707) [(.int 2)]) _
    refine XS.iconst X716.here hx rfl (hb hby at_264) ?_
    show GO p e below T716 (mkF m 265 (la34 q0 q1 p2 p3 p4 b600 l0 l1 l2 l0 ee1 ee2 b635 ii oo (2 : Int32) b652 yy_707) [(.int 1), (.int 2)]) _
    refine XS.icmpNo X716.here hx rfl (hb hby at_265) rfl (flt ((by decide) : ¬ ((2 : Int32) < (1 : Int32)))).1 ?_
    show GO p e below T716 (mkF m 268 (la34 q0 q1 p2 p3 p4 b600 l0 l1 l2 l0 ee1 ee2 b635 ii oo (2 : Int32) b652 yy_707) []) _
    refine XS.aload X716.here hx rfl (hb hby at_268) rfl rfl ?_
    show GO p e below T716 (mkF m 270 (la34 q0 q1 p2 p3 p4 b600 l0 l1 l2 l0 ee1 ee2 b635 ii oo (2 : Int32) b652 yy_707) [(.ref yy_707)]) _
    refine XS.iconst X716.here hx rfl (hb hby at_270) ?_
    show GO p e below T716 (mkF m 271 (la34 q0 q1 p2 p3 p4 b600 l0 l1 l2 l0 ee1 ee2 b635 ii oo (2 : Int32) b652 yy_707) [(.int 0), (.ref yy_707)]) _
    refine st718.trans ?_
    show GO p e below T718 (mkF m 274 (la34 q0 q1 p2 p3 p4 b600 l0 l1 l2 l0 ee1 ee2 b635 ii oo (2 : Int32) b652 yy_707) [(.int x0)]) _
    refine XS.aload X718.here hx rfl (hb hby at_274) rfl rfl ?_
    show GO p e below T718 (mkF m 276 (la34 q0 q1 p2 p3 p4 b600 l0 l1 l2 l0 ee1 ee2 b635 ii oo (2 : Int32) b652 yy_707) [(.ref b600), (.int x0)]) _
    refine XS.iload X718.here hx rfl (hb hby at_276) rfl ?_
    show GO p e below T718 (mkF m 278 (la34 q0 q1 p2 p3 p4 b600 l0 l1 l2 l0 ee1 ee2 b635 ii oo (2 : Int32) b652 yy_707) [(.int oo), (.ref b600), (.int x0)]) _
    refine X718.caload hx (j := oo) (v := (.int x0)) (by rw [e718]; exact Ar720.1) (State.isArrayOf_alike hZ.alike Ar720.2.1) Ar720.2.2 hin720 hat720 (g := (mkF m 278 (la34 q0 q1 p2 p3 p4 b600 l0 l1 l2 l0 ee1 ee2 b635 ii oo (2 : Int32) b652 yy_707) [(.int oo), (.ref b600), (.int x0)])) rfl rfl (hb hby at_278) _ ?_
    show GO p e below T718 (mkF m 279 (la34 q0 q1 p2 p3 p4 b600 l0 l1 l2 l0 ee1 ee2 b635 ii oo (2 : Int32) b652 yy_707) [(.int x0), (.int x0)]) _
    refine XS.icmpYes X718.here hx rfl (pc0 := 279) (pc' := 284) rfl (hb hby at_279) rfl (teq (rfl : x0 = x0)).1 (by decide) (by decide) ?_
    show GO p e below T718 (mkF m 284 (la34 q0 q1 p2 p3 p4 b600 l0 l1 l2 l0 ee1 ee2 b635 ii oo (2 : Int32) b652 yy_707) []) _
    refine XS.iload X718.here hx rfl (hb hby at_284) rfl ?_
    show GO p e below T718 (mkF m 286 (la34 q0 q1 p2 p3 p4 b600 l0 l1 l2 l0 ee1 ee2 b635 ii oo (2 : Int32) b652 yy_707) [(.int 2)]) _
    refine XS.iconst X718.here hx rfl (hb hby at_286) ?_
    show GO p e below T718 (mkF m 287 (la34 q0 q1 p2 p3 p4 b600 l0 l1 l2 l0 ee1 ee2 b635 ii oo (2 : Int32) b652 yy_707) [(.int 2), (.int 2)]) _
    refine XS.icmpNo X718.here hx rfl (hb hby at_287) rfl (flt ((by decide) : ¬ ((2 : Int32) < (2 : Int32)))).1 ?_
    show GO p e below T718 (mkF m 290 (la34 q0 q1 p2 p3 p4 b600 l0 l1 l2 l0 ee1 ee2 b635 ii oo (2 : Int32) b652 yy_707) []) _
    refine XS.aload X718.here hx rfl (hb hby at_290) rfl rfl ?_
    show GO p e below T718 (mkF m 292 (la34 q0 q1 p2 p3 p4 b600 l0 l1 l2 l0 ee1 ee2 b635 ii oo (2 : Int32) b652 yy_707) [(.ref yy_707)]) _
    refine XS.iconst X718.here hx rfl (hb hby at_292) ?_
    show GO p e below T718 (mkF m 293 (la34 q0 q1 p2 p3 p4 b600 l0 l1 l2 l0 ee1 ee2 b635 ii oo (2 : Int32) b652 yy_707) [(.int 1), (.ref yy_707)]) _
    refine st721.trans ?_
    show GO p e below T721 (mkF m 296 (la34 q0 q1 p2 p3 p4 b600 l0 l1 l2 l0 ee1 ee2 b635 ii oo (2 : Int32) b652 yy_707) [(.int x1)]) _
    refine XS.aload X721.here hx rfl (hb hby at_296) rfl rfl ?_
    show GO p e below T721 (mkF m 298 (la34 q0 q1 p2 p3 p4 b600 l0 l1 l2 l0 ee1 ee2 b635 ii oo (2 : Int32) b652 yy_707) [(.ref b600), (.int x1)]) _
    refine XS.iload X721.here hx rfl (hb hby at_298) rfl ?_
    show GO p e below T721 (mkF m 300 (la34 q0 q1 p2 p3 p4 b600 l0 l1 l2 l0 ee1 ee2 b635 ii oo (2 : Int32) b652 yy_707) [(.int oo), (.ref b600), (.int x1)]) _
    refine XS.iconst X721.here hx rfl (hb hby at_300) ?_
    show GO p e below T721 (mkF m 301 (la34 q0 q1 p2 p3 p4 b600 l0 l1 l2 l0 ee1 ee2 b635 ii oo (2 : Int32) b652 yy_707) [(.int 1), (.int oo), (.ref b600), (.int x1)]) _
    refine XS.iadd X721.here hx rfl (hb hby at_301) rfl ?_
    show GO p e below T721 (mkF m 302 (la34 q0 q1 p2 p3 p4 b600 l0 l1 l2 l0 ee1 ee2 b635 ii oo (2 : Int32) b652 yy_707) [(.int (oo + (1 : Int32))), (.ref b600), (.int x1)]) _
    refine X721.caload hx (j := (oo + (1 : Int32))) (v := (.int x1)) (by rw [e721]; exact Ar722.1) (State.isArrayOf_alike hZ.alike Ar722.2.1) Ar722.2.2 hin722 hat722 (g := (mkF m 302 (la34 q0 q1 p2 p3 p4 b600 l0 l1 l2 l0 ee1 ee2 b635 ii oo (2 : Int32) b652 yy_707) [(.int (oo + (1 : Int32))), (.ref b600), (.int x1)])) rfl rfl (hb hby at_302) _ ?_
    show GO p e below T721 (mkF m 303 (la34 q0 q1 p2 p3 p4 b600 l0 l1 l2 l0 ee1 ee2 b635 ii oo (2 : Int32) b652 yy_707) [(.int x1), (.int x1)]) _
    refine XS.icmpYes X721.here hx rfl (pc0 := 303) (pc' := 308) rfl (hb hby at_303) rfl (teq (rfl : x1 = x1)).1 (by decide) (by decide) ?_
    show GO p e below T721 (mkF m 308 (la34 q0 q1 p2 p3 p4 b600 l0 l1 l2 l0 ee1 ee2 b635 ii oo (2 : Int32) b652 yy_707) []) _
    refine XS.iconst X721.here hx rfl (hb hby at_308) ?_
    show GO p e below T721 (mkF m 309 (la34 q0 q1 p2 p3 p4 b600 l0 l1 l2 l0 ee1 ee2 b635 ii oo (2 : Int32) b652 yy_707) [(.int 1)]) _
    exact retN X721 hx (t := .boolean) Bd.returns (by simp) (hb hby at_309) hr
   ·show Qrm0 Z q0 q1 p2 p3 p4 z0 f0 h0 n0 _ T721.heap _
    rw [e721]
    exact ⟨rfl, N721⟩
   ·show CHr Z EL1 s.vm s.heap T721.vm T721.heap
    rw [hh, e721]
    exact CE
  ·by_cases hb723 : (255 : Int32) < x1
   ·-- pc 245: CsvRecord.get by rm_get_2B
    have ge725 : n0 ≤ b652 := by omega
    have f726 : Old Z n0 h663 := (((((((((((((((O0.ext E600).wr W603 ge604).wr W607 ge604).wr W610 ge604).wr W613 ge604).wr W616 ge604).wr W619 ge604).wr W622 ge604).wr W625 ge604).ext E635).wr W638 ge639).wr W642 ge639).wr W645 ge639).ext E652).keep K663 (allS ge725 all0))
    have ne727 : b635 ≠ b652 := neN (by omega)
    have f728 : Arv Z h663 b635 k635 .int (3 : Int32) [(.int l0), (.int ee1), (.int ee2)] (.int 0) := ((V645.ext E652).keep K663 (ninS ne727 nin0))
    have ne729 : b600 ≠ b635 := neN (by omega)
    have ne730 : b600 ≠ b652 := neN (by omega)
    have f731 : Arv Z h663 b600 k600 .char (8 : Int32) [(.int y0), (.int y1), (.int y2), (.int y3), (.int y4), (.int y5), (.int y6), (.int y7)] (.int 0) := ((((((f634.ext E635).other W638 ne729).other W642 ne729).other W645 ne729).ext E652).keep K663 (ninS ne730 nin0))
    obtain ⟨cq724, kq724, q724a, q724b, q724c⟩ := isOf hZ e663 p663_0
    obtain ⟨_, _, ⟨T724, L724, k724, n724⟩, -, X724, ⟨Lc724, hQ724, l724, y724, z724⟩, st724⟩ := X663.virtualBack hx (y := (⟨kS2, "get", "(I)Ljava/lang/String;"⟩ : MethodName)) (z := (⟨kS2, "get", "(I)Ljava/lang/String;"⟩ : MethodName)) hown (mvT hZ (wd hw 31 rfl)) (mvT hZ (wd hw 32 rfl)) (notFace_of_selects (args := #[]) (mvT hZ (wd hw 34 rfl))) (mvT hZ (wd hw 34 rfl)) (mvT hZ (wd hw 33 rfl)) (by decide) (backOf (W := 0) (rm_get_2B l Z a0 hw [] b652 ii b635 k635 l0 ee1 ee2 z0 f0 b600 k600 ([(.int y0), (.int y1), (.int y2), (.int y3), (.int y4), (.int y5), (.int y6), (.int y7)]) oo x0 x1 h663 n0 nz663 f726 p663_1 p663_2 f728 f731 (by first | assumption | decide | omega) (by first | assumption | decide | omega) (by first | assumption | decide | omega) (by first | assumption | decide | omega) (by first | assumption | decide | omega) (by first | assumption | decide | omega) (by first | assumption | decide | omega) hx0 lb0 hx1 lb1 hb706 hb723 P) hZ (wd hw 35 rfl) (wd hw 5 rfl) (by decide) (by decide)) q724a q724c (g := (mkF m 245 (la33 q0 q1 p2 p3 p4 b600 l0 l1 l2 l0 ee1 ee2 b635 ii oo (2 : Int32) b652) [(.int ii), (.ref b652)])) rfl (by rw [hml]; rfl) (Steps.refl _) (argsL := [(.int ii)]) (rest := []) (lenOf pd_21 rfl) rfl (wz rfl) (hb hby at_245) (fun _ _ => ⟨rfl, e663, (by decide : 3 + 3 ≤ _), (by decide : 15 + 10 ≤ _)⟩)
    dsimp only [Pt.U, Pt.locs, Pt.cells, Pt.slots] at X724 l724 y724 z724 st724 hQ724
    subst l724 y724 z724
    obtain ⟨h724, e724⟩ : ∃ z, T724.heap = z := ⟨_, rfl⟩
    rw [e724] at hQ724
    obtain ⟨yy_724, t_724, k_724, rfl, N724q, K724, p724_0, p724_1, p724_2, p724_3⟩ := hQ724
    have N724 := Fr.app N663 N724q
    have C732 : CHr Z EL1 s.vm h0 s.vm h724 := C664.trans (CHr.keep K724 sf0 C664.1)
    have sz724 : h663.size ≤ h724.size := K724.1
    have nz724 := Nat.le_trans nz663 sz724
    have lt724_0 := ltA p724_0.lt
    have lt724_3 := ltA p724_3.lt
    -- pc 252: String.length by rm_sl_2_1
    have f734 : Old Z n0 h724 := (f726.keep K724 all0)
    obtain ⟨cq733, kq733, q733a, q733b, q733c⟩ := isOf hZ e724 p724_0
    obtain ⟨_, _, ⟨T733, L733, k733, n733⟩, -, X733, ⟨Lc733, hQ733, l733, y733, z733⟩, st733⟩ := X724.virtualBack hx (y := (⟨kS0, "length", "()I"⟩ : MethodName)) (z := (⟨kS0, "length", "()I"⟩ : MethodName)) hown (mvT hZ (wd hw 73 rfl)) (mvT hZ (wd hw 74 rfl)) (notFace_of_selects (args := #[]) (mvT hZ (wd hw 76 rfl))) (mvT hZ (wd hw 76 rfl)) (mvT hZ (wd hw 75 rfl)) (by decide) (backOf (W := 0) (rm_sl_2_1 l Z a0 hw [] yy_724 t_724 k_724 ([(.int ((x0 >>> ((0 : Int32) &&& 31)).toInt8.toInt32)), (.int ((x0 >>> ((8 : Int32) &&& 31)).toInt8.toInt32)), (.int ((x1 >>> ((0 : Int32) &&& 31)).toInt8.toInt32)), (.int ((x1 >>> ((8 : Int32) &&& 31)).toInt8.toInt32))]) z0 h724 n0 nz724 f734 p724_0 p724_1 p724_2 p724_3 (by first | assumption | decide | omega) (by first | assumption | decide | omega)) hZ (wd hw 77 rfl) (wd hw 46 rfl) (by decide) (by decide)) q733a q733c (g := (mkF m 252 (la34 q0 q1 p2 p3 p4 b600 l0 l1 l2 l0 ee1 ee2 b635 ii oo (2 : Int32) b652 yy_724) [(.ref yy_724)])) rfl (by rw [hml]; rfl) (Steps.refl _) (argsL := []) (rest := []) (lenOf pd_22 rfl) rfl (wz rfl) (hb hby at_252) (fun _ _ => ⟨rfl, e724, (by decide : 6 + 0 ≤ _), (by decide : 25 + 0 ≤ _)⟩)
    dsimp only [Pt.U, Pt.locs, Pt.cells, Pt.slots] at X733 l733 y733 z733 st733 hQ733
    subst l733 y733 z733
    obtain ⟨rfl, N733q, e733⟩ := hQ733
    have N733 := Fr.app N724 N733q
    -- pc 271: String.charAt by rm_at_2_1_0
    obtain ⟨cq735, kq735, q735a, q735b, q735c⟩ := isOf hZ e733 p724_0
    obtain ⟨_, _, ⟨T735, L735, k735, n735⟩, -, X735, ⟨Lc735, hQ735, l735, y735, z735⟩, st735⟩ := X733.virtualBack hx (y := (⟨kS0, "charAt", "(I)C"⟩ : MethodName)) (z := (⟨kS0, "charAt", "(I)C"⟩ : MethodName)) hown (mvT hZ (wd hw 113 rfl)) (mvT hZ (wd hw 114 rfl)) (notFace_of_selects (args := #[]) (mvT hZ (wd hw 116 rfl))) (mvT hZ (wd hw 116 rfl)) (mvT hZ (wd hw 115 rfl)) (by decide) (backOf (W := 0) (rm_at_2_1_0 l Z a0 hw [] yy_724 t_724 k_724 ((x0 >>> ((0 : Int32) &&& 31)).toInt8.toInt32) ((x0 >>> ((8 : Int32) &&& 31)).toInt8.toInt32) ((x1 >>> ((0 : Int32) &&& 31)).toInt8.toInt32) ((x1 >>> ((8 : Int32) &&& 31)).toInt8.toInt32) x0 z0 f0 h724 n0 nz724 f734 p724_0 p724_1 p724_2 p724_3 (by first | assumption | decide | omega) (by first | assumption | decide | omega) (by first | assumption | decide | omega) (by first | assumption | decide | omega) (own_pair lb0.1 lb0.2) (own_narid lb0.1 lb0.2) (by first | assumption | decide | omega) (by first | assumption | decide | omega) (by first | assumption | decide | omega)) hZ (wd hw 117 rfl) (wd hw 46 rfl) (by decide) (by decide)) q735a q735c (g := (mkF m 271 (la34 q0 q1 p2 p3 p4 b600 l0 l1 l2 l0 ee1 ee2 b635 ii oo (2 : Int32) b652 yy_724) [(.int 0), (.ref yy_724)])) rfl (by rw [hml]; rfl) (Steps.refl _) (argsL := [(.int 0)]) (rest := []) (lenOf pd_23 rfl) rfl (wz rfl) (hb hby at_271) (fun _ _ => ⟨rfl, e733, (by decide : 6 + 0 ≤ _), (by decide : 25 + 0 ≤ _)⟩)
    dsimp only [Pt.U, Pt.locs, Pt.cells, Pt.slots] at X735 l735 y735 z735 st735 hQ735
    subst l735 y735 z735
    obtain ⟨rfl, N735q, e735⟩ := hQ735
    have N735 := Fr.app N733 N735q
    have f736 : Arv Z h724 b600 k600 .char (8 : Int32) [(.int y0), (.int y1), (.int y2), (.int y3), (.int y4), (.int y5), (.int y6), (.int y7)] (.int 0) := (f731.keep K724 nin0)
    obtain ⟨cl737, Ar737, q737, S737, M737, H737, G737⟩ := id f736
    have hin737 : ¬ (oo < 0 ∨ cl737.slots.size ≤ (oo).toNatClampNeg) := inb_of S737 ob0
    have hat737 : cl737.slots[(oo).toNatClampNeg]? = some (.int x0) := Has.at H737 hin737 hx0
    -- pc 293: String.charAt by rm_at_2_1_1
    obtain ⟨cq738, kq738, q738a, q738b, q738c⟩ := isOf hZ e735 p724_0
    obtain ⟨_, _, ⟨T738, L738, k738, n738⟩, -, X738, ⟨Lc738, hQ738, l738, y738, z738⟩, st738⟩ := X735.virtualBack hx (y := (⟨kS0, "charAt", "(I)C"⟩ : MethodName)) (z := (⟨kS0, "charAt", "(I)C"⟩ : MethodName)) hown (mvT hZ (wd hw 113 rfl)) (mvT hZ (wd hw 114 rfl)) (notFace_of_selects (args := #[]) (mvT hZ (wd hw 116 rfl))) (mvT hZ (wd hw 116 rfl)) (mvT hZ (wd hw 115 rfl)) (by decide) (backOf (W := 0) (rm_at_2_1_1 l Z a0 hw [] yy_724 t_724 k_724 ((x0 >>> ((0 : Int32) &&& 31)).toInt8.toInt32) ((x0 >>> ((8 : Int32) &&& 31)).toInt8.toInt32) ((x1 >>> ((0 : Int32) &&& 31)).toInt8.toInt32) ((x1 >>> ((8 : Int32) &&& 31)).toInt8.toInt32) x1 z0 f0 h724 n0 nz724 f734 p724_0 p724_1 p724_2 p724_3 (by first | assumption | decide | omega) (by first | assumption | decide | omega) (by first | assumption | decide | omega) (by first | assumption | decide | omega) (own_pair lb1.1 lb1.2) (own_narid lb1.1 lb1.2) (by first | assumption | decide | omega) (by first | assumption | decide | omega) (by first | assumption | decide | omega)) hZ (wd hw 117 rfl) (wd hw 46 rfl) (by decide) (by decide)) q738a q738c (g := (mkF m 293 (la34 q0 q1 p2 p3 p4 b600 l0 l1 l2 l0 ee1 ee2 b635 ii oo (2 : Int32) b652 yy_724) [(.int 1), (.ref yy_724)])) rfl (by rw [hml]; rfl) (Steps.refl _) (argsL := [(.int 1)]) (rest := []) (lenOf pd_23 rfl) rfl (wz rfl) (hb hby at_293) (fun _ _ => ⟨rfl, e735, (by decide : 6 + 0 ≤ _), (by decide : 25 + 0 ≤ _)⟩)
    dsimp only [Pt.U, Pt.locs, Pt.cells, Pt.slots] at X738 l738 y738 z738 st738 hQ738
    subst l738 y738 z738
    obtain ⟨rfl, N738q, e738⟩ := hQ738
    have N738 := Fr.app N735 N738q
    obtain ⟨cl739, Ar739, q739, S739, M739, H739, G739⟩ := id f736
    have hin739 : ¬ ((oo + (1 : Int32)) < 0 ∨ cl739.slots.size ≤ ((oo + (1 : Int32))).toNatClampNeg) := inb_of S739 ob1
    have hat739 : cl739.slots[((oo + (1 : Int32))).toNatClampNeg]? = some (.int x1) := Has.at H739 hin739 hx1
    obtain ⟨fs, hr, hrun, hended, hE⟩ := X738.leaveW hS0 (by rw [e738]; omega) (v := some (.int 1)) (fun h => by rw [Bd.returns] at h; cases h)
    have CE := C732.trans (CHv.at X738 hZ (own_EW hw) C732.1)
    refine ⟨_, _, pre665 _ ?_, hrun, hended, _, _, rfl, ?_, ?_, ⟨hE.1, hE.2.1, hE.2.2.1, hE.2.2.2.mono (by decide) (by decide)⟩⟩
    ·show GO p e below T663 (mkF m 245 (la33 q0 q1 p2 p3 p4 b600 l0 l1 l2 l0 ee1 ee2 b635 ii oo (2 : Int32) b652) [(.int ii), (.ref b652)]) _
     refine st724.trans ?_
     show GO p e below T724 (mkF m 248 (la33 q0 q1 p2 p3 p4 b600 l0 l1 l2 l0 ee1 ee2 b635 ii oo (2 : Int32) b652) [(.ref yy_724)]) _
     refine XS.astore X724.here hx rfl (hb hby at_248) rfl rfl (l' := (la34 q0 q1 p2 p3 p4 b600 l0 l1 l2 l0 ee1 ee2 b635 ii oo (2 : Int32) b652 yy_724)) rfl ?_
     show GO p e below T724 (mkF m 250 (la34 q0 q1 p2 p3 p4 b600 l0 l1 l2 l0 ee1 ee2 b635 ii oo (2 : Int32) b652 yy_724) []) _
     refine XS.aload X724.here hx rfl (hb hby at_250) rfl rfl ?_
     show GO p e below T724 (mkF m 252 (la34 q0 q1 p2 p3 p4 b600 l0 l1 l2 l0 ee1 ee2 b635 ii oo (2 : Int32) b652 yy_724) [(.ref yy_724)]) _
     refine st733.trans ?_
     show GO p e below T733 (mkF m 255 (la34 q0 q1 p2 p3 p4 b600 l0 l1 l2 l0 ee1 ee2 b635 ii oo (2 : Int32) b652 yy_724) [(.int 2)]) _
     refine XS.iload X733.here hx rfl (hb hby at_255) rfl ?_
     show GO p e below T733 (mkF m 257 (la34 q0 q1 p2 p3 p4 b600 l0 l1 l2 l0 ee1 ee2 b635 ii oo (2 : Int32) b652 yy_724) [(.int 2), (.int 2)]) _
     refine XS.icmpYes X733.here hx rfl (pc0 := 257) (pc' := 262) rfl (hb hby at_257) rfl (teq (rfl : (2 : Int32) = (2 : Int32))).1 (by decide) (by decide) ?_
     show GO p e below T733 (mkF m 262 (la34 q0 q1 p2 p3 p4 b600 l0 l1 l2 l0 ee1 ee2 b635 ii oo (2 : Int32) b652 yy_724) []) _
     refine XS.iload X733.here hx rfl (hb hby at_262) rfl ?_
     show GO p e below T733 (mkF m 264 (la34 q0 q1 p2 p3 p4 b600 l0 l1 l2 l0 ee1 ee2 b635 ii oo (2 : Int32) b652 yy_724) [(.int 2)]) _
     refine XS.iconst X733.here hx rfl (hb hby at_264) ?_
     show GO p e below T733 (mkF m 265 (la34 q0 q1 p2 p3 p4 b600 l0 l1 l2 l0 ee1 ee2 b635 ii oo (2 : Int32) b652 yy_724) [(.int 1), (.int 2)]) _
     refine XS.icmpNo X733.here hx rfl (hb hby at_265) rfl (flt ((by decide) : ¬ ((2 : Int32) < (1 : Int32)))).1 ?_
     show GO p e below T733 (mkF m 268 (la34 q0 q1 p2 p3 p4 b600 l0 l1 l2 l0 ee1 ee2 b635 ii oo (2 : Int32) b652 yy_724) []) _
     refine XS.aload X733.here hx rfl (hb hby at_268) rfl rfl ?_
     show GO p e below T733 (mkF m 270 (la34 q0 q1 p2 p3 p4 b600 l0 l1 l2 l0 ee1 ee2 b635 ii oo (2 : Int32) b652 yy_724) [(.ref yy_724)]) _
     refine XS.iconst X733.here hx rfl (hb hby at_270) ?_
     show GO p e below T733 (mkF m 271 (la34 q0 q1 p2 p3 p4 b600 l0 l1 l2 l0 ee1 ee2 b635 ii oo (2 : Int32) b652 yy_724) [(.int 0), (.ref yy_724)]) _
     refine st735.trans ?_
     show GO p e below T735 (mkF m 274 (la34 q0 q1 p2 p3 p4 b600 l0 l1 l2 l0 ee1 ee2 b635 ii oo (2 : Int32) b652 yy_724) [(.int x0)]) _
     refine XS.aload X735.here hx rfl (hb hby at_274) rfl rfl ?_
     show GO p e below T735 (mkF m 276 (la34 q0 q1 p2 p3 p4 b600 l0 l1 l2 l0 ee1 ee2 b635 ii oo (2 : Int32) b652 yy_724) [(.ref b600), (.int x0)]) _
     refine XS.iload X735.here hx rfl (hb hby at_276) rfl ?_
     show GO p e below T735 (mkF m 278 (la34 q0 q1 p2 p3 p4 b600 l0 l1 l2 l0 ee1 ee2 b635 ii oo (2 : Int32) b652 yy_724) [(.int oo), (.ref b600), (.int x0)]) _
     refine X735.caload hx (j := oo) (v := (.int x0)) (by rw [e735]; exact Ar737.1) (State.isArrayOf_alike hZ.alike Ar737.2.1) Ar737.2.2 hin737 hat737 (g := (mkF m 278 (la34 q0 q1 p2 p3 p4 b600 l0 l1 l2 l0 ee1 ee2 b635 ii oo (2 : Int32) b652 yy_724) [(.int oo), (.ref b600), (.int x0)])) rfl rfl (hb hby at_278) _ ?_
     show GO p e below T735 (mkF m 279 (la34 q0 q1 p2 p3 p4 b600 l0 l1 l2 l0 ee1 ee2 b635 ii oo (2 : Int32) b652 yy_724) [(.int x0), (.int x0)]) _
     refine XS.icmpYes X735.here hx rfl (pc0 := 279) (pc' := 284) rfl (hb hby at_279) rfl (teq (rfl : x0 = x0)).1 (by decide) (by decide) ?_
     show GO p e below T735 (mkF m 284 (la34 q0 q1 p2 p3 p4 b600 l0 l1 l2 l0 ee1 ee2 b635 ii oo (2 : Int32) b652 yy_724) []) _
     refine XS.iload X735.here hx rfl (hb hby at_284) rfl ?_
     show GO p e below T735 (mkF m 286 (la34 q0 q1 p2 p3 p4 b600 l0 l1 l2 l0 ee1 ee2 b635 ii oo (2 : Int32) b652 yy_724) [(.int 2)]) _
     refine XS.iconst X735.here hx rfl (hb hby at_286) ?_
     show GO p e below T735 (mkF m 287 (la34 q0 q1 p2 p3 p4 b600 l0 l1 l2 l0 ee1 ee2 b635 ii oo (2 : Int32) b652 yy_724) [(.int 2), (.int 2)]) _
     refine XS.icmpNo X735.here hx rfl (hb hby at_287) rfl (flt ((by decide) : ¬ ((2 : Int32) < (2 : Int32)))).1 ?_
     show GO p e below T735 (mkF m 290 (la34 q0 q1 p2 p3 p4 b600 l0 l1 l2 l0 ee1 ee2 b635 ii oo (2 : Int32) b652 yy_724) []) _
     refine XS.aload X735.here hx rfl (hb hby at_290) rfl rfl ?_
     show GO p e below T735 (mkF m 292 (la34 q0 q1 p2 p3 p4 b600 l0 l1 l2 l0 ee1 ee2 b635 ii oo (2 : Int32) b652 yy_724) [(.ref yy_724)]) _
     refine XS.iconst X735.here hx rfl (hb hby at_292) ?_
     show GO p e below T735 (mkF m 293 (la34 q0 q1 p2 p3 p4 b600 l0 l1 l2 l0 ee1 ee2 b635 ii oo (2 : Int32) b652 yy_724) [(.int 1), (.ref yy_724)]) _
     refine st738.trans ?_
     show GO p e below T738 (mkF m 296 (la34 q0 q1 p2 p3 p4 b600 l0 l1 l2 l0 ee1 ee2 b635 ii oo (2 : Int32) b652 yy_724) [(.int x1)]) _
     refine XS.aload X738.here hx rfl (hb hby at_296) rfl rfl ?_
     show GO p e below T738 (mkF m 298 (la34 q0 q1 p2 p3 p4 b600 l0 l1 l2 l0 ee1 ee2 b635 ii oo (2 : Int32) b652 yy_724) [(.ref b600), (.int x1)]) _
     refine XS.iload X738.here hx rfl (hb hby at_298) rfl ?_
     show GO p e below T738 (mkF m 300 (la34 q0 q1 p2 p3 p4 b600 l0 l1 l2 l0 ee1 ee2 b635 ii oo (2 : Int32) b652 yy_724) [(.int oo), (.ref b600), (.int x1)]) _
     refine XS.iconst X738.here hx rfl (hb hby at_300) ?_
     show GO p e below T738 (mkF m 301 (la34 q0 q1 p2 p3 p4 b600 l0 l1 l2 l0 ee1 ee2 b635 ii oo (2 : Int32) b652 yy_724) [(.int 1), (.int oo), (.ref b600), (.int x1)]) _
     refine XS.iadd X738.here hx rfl (hb hby at_301) rfl ?_
     show GO p e below T738 (mkF m 302 (la34 q0 q1 p2 p3 p4 b600 l0 l1 l2 l0 ee1 ee2 b635 ii oo (2 : Int32) b652 yy_724) [(.int (oo + (1 : Int32))), (.ref b600), (.int x1)]) _
     refine X738.caload hx (j := (oo + (1 : Int32))) (v := (.int x1)) (by rw [e738]; exact Ar739.1) (State.isArrayOf_alike hZ.alike Ar739.2.1) Ar739.2.2 hin739 hat739 (g := (mkF m 302 (la34 q0 q1 p2 p3 p4 b600 l0 l1 l2 l0 ee1 ee2 b635 ii oo (2 : Int32) b652 yy_724) [(.int (oo + (1 : Int32))), (.ref b600), (.int x1)])) rfl rfl (hb hby at_302) _ ?_
     show GO p e below T738 (mkF m 303 (la34 q0 q1 p2 p3 p4 b600 l0 l1 l2 l0 ee1 ee2 b635 ii oo (2 : Int32) b652 yy_724) [(.int x1), (.int x1)]) _
     refine XS.icmpYes X738.here hx rfl (pc0 := 303) (pc' := 308) rfl (hb hby at_303) rfl (teq (rfl : x1 = x1)).1 (by decide) (by decide) ?_
     show GO p e below T738 (mkF m 308 (la34 q0 q1 p2 p3 p4 b600 l0 l1 l2 l0 ee1 ee2 b635 ii oo (2 : Int32) b652 yy_724) []) _
     refine XS.iconst X738.here hx rfl (hb hby at_308) ?_
     show GO p e below T738 (mkF m 309 (la34 q0 q1 p2 p3 p4 b600 l0 l1 l2 l0 ee1 ee2 b635 ii oo (2 : Int32) b652 yy_724) [(.int 1)]) _
     exact retN X738 hx (t := .boolean) Bd.returns (by simp) (hb hby at_309) hr
    ·show Qrm0 Z q0 q1 p2 p3 p4 z0 f0 h0 n0 _ T738.heap _
     rw [e738]
     exact ⟨rfl, N738⟩
    ·show CHr Z EL1 s.vm s.heap T738.vm T738.heap
     rw [hh, e738]
     exact CE
   ·-- pc 245: CsvRecord.get by rm_get_2L
    have ge741 : n0 ≤ b652 := by omega
    have f742 : Old Z n0 h663 := (((((((((((((((O0.ext E600).wr W603 ge604).wr W607 ge604).wr W610 ge604).wr W613 ge604).wr W616 ge604).wr W619 ge604).wr W622 ge604).wr W625 ge604).ext E635).wr W638 ge639).wr W642 ge639).wr W645 ge639).ext E652).keep K663 (allS ge741 all0))
    have ne743 : b635 ≠ b652 := neN (by omega)
    have f744 : Arv Z h663 b635 k635 .int (3 : Int32) [(.int l0), (.int ee1), (.int ee2)] (.int 0) := ((V645.ext E652).keep K663 (ninS ne743 nin0))
    have ne745 : b600 ≠ b635 := neN (by omega)
    have ne746 : b600 ≠ b652 := neN (by omega)
    have f747 : Arv Z h663 b600 k600 .char (8 : Int32) [(.int y0), (.int y1), (.int y2), (.int y3), (.int y4), (.int y5), (.int y6), (.int y7)] (.int 0) := ((((((f634.ext E635).other W638 ne745).other W642 ne745).other W645 ne745).ext E652).keep K663 (ninS ne746 nin0))
    obtain ⟨cq740, kq740, q740a, q740b, q740c⟩ := isOf hZ e663 p663_0
    obtain ⟨_, _, ⟨T740, L740, k740, n740⟩, -, X740, ⟨Lc740, hQ740, l740, y740, z740⟩, st740⟩ := X663.virtualBack hx (y := (⟨kS2, "get", "(I)Ljava/lang/String;"⟩ : MethodName)) (z := (⟨kS2, "get", "(I)Ljava/lang/String;"⟩ : MethodName)) hown (mvT hZ (wd hw 31 rfl)) (mvT hZ (wd hw 32 rfl)) (notFace_of_selects (args := #[]) (mvT hZ (wd hw 34 rfl))) (mvT hZ (wd hw 34 rfl)) (mvT hZ (wd hw 33 rfl)) (by decide) (backOf (W := 0) (rm_get_2L l Z a0 hw [] b652 ii b635 k635 l0 ee1 ee2 z0 f0 b600 k600 ([(.int y0), (.int y1), (.int y2), (.int y3), (.int y4), (.int y5), (.int y6), (.int y7)]) oo x0 x1 h663 n0 nz663 f742 p663_1 p663_2 f744 f747 (by first | assumption | decide | omega) (by first | assumption | decide | omega) (by first | assumption | decide | omega) (by first | assumption | decide | omega) (by first | assumption | decide | omega) (by first | assumption | decide | omega) (by first | assumption | decide | omega) hx0 lb0 hx1 lb1 hb706 hb723 P) hZ (wd hw 35 rfl) (wd hw 5 rfl) (by decide) (by decide)) q740a q740c (g := (mkF m 245 (la33 q0 q1 p2 p3 p4 b600 l0 l1 l2 l0 ee1 ee2 b635 ii oo (2 : Int32) b652) [(.int ii), (.ref b652)])) rfl (by rw [hml]; rfl) (Steps.refl _) (argsL := [(.int ii)]) (rest := []) (lenOf pd_21 rfl) rfl (wz rfl) (hb hby at_245) (fun _ _ => ⟨rfl, e663, (by decide : 3 + 2 ≤ _), (by decide : 15 + 6 ≤ _)⟩)
    dsimp only [Pt.U, Pt.locs, Pt.cells, Pt.slots] at X740 l740 y740 z740 st740 hQ740
    subst l740 y740 z740
    obtain ⟨h740, e740⟩ : ∃ z, T740.heap = z := ⟨_, rfl⟩
    rw [e740] at hQ740
    obtain ⟨yy_740, t_740, k_740, rfl, N740q, K740, p740_0, p740_1, p740_2, p740_3⟩ := hQ740
    have N740 := Fr.app N663 N740q
    have C748 : CHr Z EL1 s.vm h0 s.vm h740 := C664.trans (CHr.keep K740 sf0 C664.1)
    have sz740 : h663.size ≤ h740.size := K740.1
    have nz740 := Nat.le_trans nz663 sz740
    have lt740_0 := ltA p740_0.lt
    have lt740_3 := ltA p740_3.lt
    -- pc 252: String.length by rm_sl_2_0
    have f750 : Old Z n0 h740 := (f742.keep K740 all0)
    obtain ⟨cq749, kq749, q749a, q749b, q749c⟩ := isOf hZ e740 p740_0
    obtain ⟨_, _, ⟨T749, L749, k749, n749⟩, -, X749, ⟨Lc749, hQ749, l749, y749, z749⟩, st749⟩ := X740.virtualBack hx (y := (⟨kS0, "length", "()I"⟩ : MethodName)) (z := (⟨kS0, "length", "()I"⟩ : MethodName)) hown (mvT hZ (wd hw 73 rfl)) (mvT hZ (wd hw 74 rfl)) (notFace_of_selects (args := #[]) (mvT hZ (wd hw 76 rfl))) (mvT hZ (wd hw 76 rfl)) (mvT hZ (wd hw 75 rfl)) (by decide) (backOf (W := 0) (rm_sl_2_0 l Z a0 hw [] yy_740 t_740 k_740 ([(.int (x0.toInt8.toInt32)), (.int (x1.toInt8.toInt32))]) z0 h740 n0 nz740 f750 p740_0 p740_1 p740_2 p740_3 (by first | assumption | decide | omega) (by first | assumption | decide | omega)) hZ (wd hw 77 rfl) (wd hw 46 rfl) (by decide) (by decide)) q749a q749c (g := (mkF m 252 (la34 q0 q1 p2 p3 p4 b600 l0 l1 l2 l0 ee1 ee2 b635 ii oo (2 : Int32) b652 yy_740) [(.ref yy_740)])) rfl (by rw [hml]; rfl) (Steps.refl _) (argsL := []) (rest := []) (lenOf pd_22 rfl) rfl (wz rfl) (hb hby at_252) (fun _ _ => ⟨rfl, e740, (by decide : 5 + 0 ≤ _), (by decide : 21 + 0 ≤ _)⟩)
    dsimp only [Pt.U, Pt.locs, Pt.cells, Pt.slots] at X749 l749 y749 z749 st749 hQ749
    subst l749 y749 z749
    obtain ⟨rfl, N749q, e749⟩ := hQ749
    have N749 := Fr.app N740 N749q
    -- pc 271: String.charAt by rm_at_2_0_0
    obtain ⟨cq751, kq751, q751a, q751b, q751c⟩ := isOf hZ e749 p740_0
    obtain ⟨_, _, ⟨T751, L751, k751, n751⟩, -, X751, ⟨Lc751, hQ751, l751, y751, z751⟩, st751⟩ := X749.virtualBack hx (y := (⟨kS0, "charAt", "(I)C"⟩ : MethodName)) (z := (⟨kS0, "charAt", "(I)C"⟩ : MethodName)) hown (mvT hZ (wd hw 113 rfl)) (mvT hZ (wd hw 114 rfl)) (notFace_of_selects (args := #[]) (mvT hZ (wd hw 116 rfl))) (mvT hZ (wd hw 116 rfl)) (mvT hZ (wd hw 115 rfl)) (by decide) (backOf (W := 0) (rm_at_2_0_0 l Z a0 hw [] yy_740 t_740 k_740 (x0.toInt8.toInt32) (x1.toInt8.toInt32) x0 z0 f0 h740 n0 nz740 f750 p740_0 p740_1 p740_2 p740_3 (by first | assumption | decide | omega) (by first | assumption | decide | omega) (by first | assumption | decide | omega) (by first | assumption | decide | omega) (own_ch8 lb0.1 hb706) (own_narid lb0.1 lb0.2)) hZ (wd hw 117 rfl) (wd hw 46 rfl) (by decide) (by decide)) q751a q751c (g := (mkF m 271 (la34 q0 q1 p2 p3 p4 b600 l0 l1 l2 l0 ee1 ee2 b635 ii oo (2 : Int32) b652 yy_740) [(.int 0), (.ref yy_740)])) rfl (by rw [hml]; rfl) (Steps.refl _) (argsL := [(.int 0)]) (rest := []) (lenOf pd_23 rfl) rfl (wz rfl) (hb hby at_271) (fun _ _ => ⟨rfl, e749, (by decide : 5 + 0 ≤ _), (by decide : 21 + 0 ≤ _)⟩)
    dsimp only [Pt.U, Pt.locs, Pt.cells, Pt.slots] at X751 l751 y751 z751 st751 hQ751
    subst l751 y751 z751
    obtain ⟨rfl, N751q, e751⟩ := hQ751
    have N751 := Fr.app N749 N751q
    have f752 : Arv Z h740 b600 k600 .char (8 : Int32) [(.int y0), (.int y1), (.int y2), (.int y3), (.int y4), (.int y5), (.int y6), (.int y7)] (.int 0) := (f747.keep K740 nin0)
    obtain ⟨cl753, Ar753, q753, S753, M753, H753, G753⟩ := id f752
    have hin753 : ¬ (oo < 0 ∨ cl753.slots.size ≤ (oo).toNatClampNeg) := inb_of S753 ob0
    have hat753 : cl753.slots[(oo).toNatClampNeg]? = some (.int x0) := Has.at H753 hin753 hx0
    -- pc 293: String.charAt by rm_at_2_0_1
    obtain ⟨cq754, kq754, q754a, q754b, q754c⟩ := isOf hZ e751 p740_0
    obtain ⟨_, _, ⟨T754, L754, k754, n754⟩, -, X754, ⟨Lc754, hQ754, l754, y754, z754⟩, st754⟩ := X751.virtualBack hx (y := (⟨kS0, "charAt", "(I)C"⟩ : MethodName)) (z := (⟨kS0, "charAt", "(I)C"⟩ : MethodName)) hown (mvT hZ (wd hw 113 rfl)) (mvT hZ (wd hw 114 rfl)) (notFace_of_selects (args := #[]) (mvT hZ (wd hw 116 rfl))) (mvT hZ (wd hw 116 rfl)) (mvT hZ (wd hw 115 rfl)) (by decide) (backOf (W := 0) (rm_at_2_0_1 l Z a0 hw [] yy_740 t_740 k_740 (x0.toInt8.toInt32) (x1.toInt8.toInt32) x1 z0 f0 h740 n0 nz740 f750 p740_0 p740_1 p740_2 p740_3 (by first | assumption | decide | omega) (by first | assumption | decide | omega) (by first | assumption | decide | omega) (by first | assumption | decide | omega) (own_ch8 lb1.1 hb723) (own_narid lb1.1 lb1.2)) hZ (wd hw 117 rfl) (wd hw 46 rfl) (by decide) (by decide)) q754a q754c (g := (mkF m 293 (la34 q0 q1 p2 p3 p4 b600 l0 l1 l2 l0 ee1 ee2 b635 ii oo (2 : Int32) b652 yy_740) [(.int 1), (.ref yy_740)])) rfl (by rw [hml]; rfl) (Steps.refl _) (argsL := [(.int 1)]) (rest := []) (lenOf pd_23 rfl) rfl (wz rfl) (hb hby at_293) (fun _ _ => ⟨rfl, e751, (by decide : 5 + 0 ≤ _), (by decide : 21 + 0 ≤ _)⟩)
    dsimp only [Pt.U, Pt.locs, Pt.cells, Pt.slots] at X754 l754 y754 z754 st754 hQ754
    subst l754 y754 z754
    obtain ⟨rfl, N754q, e754⟩ := hQ754
    have N754 := Fr.app N751 N754q
    obtain ⟨cl755, Ar755, q755, S755, M755, H755, G755⟩ := id f752
    have hin755 : ¬ ((oo + (1 : Int32)) < 0 ∨ cl755.slots.size ≤ ((oo + (1 : Int32))).toNatClampNeg) := inb_of S755 ob1
    have hat755 : cl755.slots[((oo + (1 : Int32))).toNatClampNeg]? = some (.int x1) := Has.at H755 hin755 hx1
    obtain ⟨fs, hr, hrun, hended, hE⟩ := X754.leaveW hS0 (by rw [e754]; omega) (v := some (.int 1)) (fun h => by rw [Bd.returns] at h; cases h)
    have CE := C748.trans (CHv.at X754 hZ (own_EW hw) C748.1)
    refine ⟨_, _, pre665 _ ?_, hrun, hended, _, _, rfl, ?_, ?_, ⟨hE.1, hE.2.1, hE.2.2.1, hE.2.2.2.mono (by decide) (by decide)⟩⟩
    ·show GO p e below T663 (mkF m 245 (la33 q0 q1 p2 p3 p4 b600 l0 l1 l2 l0 ee1 ee2 b635 ii oo (2 : Int32) b652) [(.int ii), (.ref b652)]) _
     refine st740.trans ?_
     show GO p e below T740 (mkF m 248 (la33 q0 q1 p2 p3 p4 b600 l0 l1 l2 l0 ee1 ee2 b635 ii oo (2 : Int32) b652) [(.ref yy_740)]) _
     refine XS.astore X740.here hx rfl (hb hby at_248) rfl rfl (l' := (la34 q0 q1 p2 p3 p4 b600 l0 l1 l2 l0 ee1 ee2 b635 ii oo (2 : Int32) b652 yy_740)) rfl ?_
     show GO p e below T740 (mkF m 250 (la34 q0 q1 p2 p3 p4 b600 l0 l1 l2 l0 ee1 ee2 b635 ii oo (2 : Int32) b652 yy_740) []) _
     refine XS.aload X740.here hx rfl (hb hby at_250) rfl rfl ?_
     show GO p e below T740 (mkF m 252 (la34 q0 q1 p2 p3 p4 b600 l0 l1 l2 l0 ee1 ee2 b635 ii oo (2 : Int32) b652 yy_740) [(.ref yy_740)]) _
     refine st749.trans ?_
     show GO p e below T749 (mkF m 255 (la34 q0 q1 p2 p3 p4 b600 l0 l1 l2 l0 ee1 ee2 b635 ii oo (2 : Int32) b652 yy_740) [(.int 2)]) _
     refine XS.iload X749.here hx rfl (hb hby at_255) rfl ?_
     show GO p e below T749 (mkF m 257 (la34 q0 q1 p2 p3 p4 b600 l0 l1 l2 l0 ee1 ee2 b635 ii oo (2 : Int32) b652 yy_740) [(.int 2), (.int 2)]) _
     refine XS.icmpYes X749.here hx rfl (pc0 := 257) (pc' := 262) rfl (hb hby at_257) rfl (teq (rfl : (2 : Int32) = (2 : Int32))).1 (by decide) (by decide) ?_
     show GO p e below T749 (mkF m 262 (la34 q0 q1 p2 p3 p4 b600 l0 l1 l2 l0 ee1 ee2 b635 ii oo (2 : Int32) b652 yy_740) []) _
     refine XS.iload X749.here hx rfl (hb hby at_262) rfl ?_
     show GO p e below T749 (mkF m 264 (la34 q0 q1 p2 p3 p4 b600 l0 l1 l2 l0 ee1 ee2 b635 ii oo (2 : Int32) b652 yy_740) [(.int 2)]) _
     refine XS.iconst X749.here hx rfl (hb hby at_264) ?_
     show GO p e below T749 (mkF m 265 (la34 q0 q1 p2 p3 p4 b600 l0 l1 l2 l0 ee1 ee2 b635 ii oo (2 : Int32) b652 yy_740) [(.int 1), (.int 2)]) _
     refine XS.icmpNo X749.here hx rfl (hb hby at_265) rfl (flt ((by decide) : ¬ ((2 : Int32) < (1 : Int32)))).1 ?_
     show GO p e below T749 (mkF m 268 (la34 q0 q1 p2 p3 p4 b600 l0 l1 l2 l0 ee1 ee2 b635 ii oo (2 : Int32) b652 yy_740) []) _
     refine XS.aload X749.here hx rfl (hb hby at_268) rfl rfl ?_
     show GO p e below T749 (mkF m 270 (la34 q0 q1 p2 p3 p4 b600 l0 l1 l2 l0 ee1 ee2 b635 ii oo (2 : Int32) b652 yy_740) [(.ref yy_740)]) _
     refine XS.iconst X749.here hx rfl (hb hby at_270) ?_
     show GO p e below T749 (mkF m 271 (la34 q0 q1 p2 p3 p4 b600 l0 l1 l2 l0 ee1 ee2 b635 ii oo (2 : Int32) b652 yy_740) [(.int 0), (.ref yy_740)]) _
     refine st751.trans ?_
     show GO p e below T751 (mkF m 274 (la34 q0 q1 p2 p3 p4 b600 l0 l1 l2 l0 ee1 ee2 b635 ii oo (2 : Int32) b652 yy_740) [(.int x0)]) _
     refine XS.aload X751.here hx rfl (hb hby at_274) rfl rfl ?_
     show GO p e below T751 (mkF m 276 (la34 q0 q1 p2 p3 p4 b600 l0 l1 l2 l0 ee1 ee2 b635 ii oo (2 : Int32) b652 yy_740) [(.ref b600), (.int x0)]) _
     refine XS.iload X751.here hx rfl (hb hby at_276) rfl ?_
     show GO p e below T751 (mkF m 278 (la34 q0 q1 p2 p3 p4 b600 l0 l1 l2 l0 ee1 ee2 b635 ii oo (2 : Int32) b652 yy_740) [(.int oo), (.ref b600), (.int x0)]) _
     refine X751.caload hx (j := oo) (v := (.int x0)) (by rw [e751]; exact Ar753.1) (State.isArrayOf_alike hZ.alike Ar753.2.1) Ar753.2.2 hin753 hat753 (g := (mkF m 278 (la34 q0 q1 p2 p3 p4 b600 l0 l1 l2 l0 ee1 ee2 b635 ii oo (2 : Int32) b652 yy_740) [(.int oo), (.ref b600), (.int x0)])) rfl rfl (hb hby at_278) _ ?_
     show GO p e below T751 (mkF m 279 (la34 q0 q1 p2 p3 p4 b600 l0 l1 l2 l0 ee1 ee2 b635 ii oo (2 : Int32) b652 yy_740) [(.int x0), (.int x0)]) _
     refine XS.icmpYes X751.here hx rfl (pc0 := 279) (pc' := 284) rfl (hb hby at_279) rfl (teq (rfl : x0 = x0)).1 (by decide) (by decide) ?_
     show GO p e below T751 (mkF m 284 (la34 q0 q1 p2 p3 p4 b600 l0 l1 l2 l0 ee1 ee2 b635 ii oo (2 : Int32) b652 yy_740) []) _
     refine XS.iload X751.here hx rfl (hb hby at_284) rfl ?_
     show GO p e below T751 (mkF m 286 (la34 q0 q1 p2 p3 p4 b600 l0 l1 l2 l0 ee1 ee2 b635 ii oo (2 : Int32) b652 yy_740) [(.int 2)]) _
     refine XS.iconst X751.here hx rfl (hb hby at_286) ?_
     show GO p e below T751 (mkF m 287 (la34 q0 q1 p2 p3 p4 b600 l0 l1 l2 l0 ee1 ee2 b635 ii oo (2 : Int32) b652 yy_740) [(.int 2), (.int 2)]) _
     refine XS.icmpNo X751.here hx rfl (hb hby at_287) rfl (flt ((by decide) : ¬ ((2 : Int32) < (2 : Int32)))).1 ?_
     show GO p e below T751 (mkF m 290 (la34 q0 q1 p2 p3 p4 b600 l0 l1 l2 l0 ee1 ee2 b635 ii oo (2 : Int32) b652 yy_740) []) _
     refine XS.aload X751.here hx rfl (hb hby at_290) rfl rfl ?_
     show GO p e below T751 (mkF m 292 (la34 q0 q1 p2 p3 p4 b600 l0 l1 l2 l0 ee1 ee2 b635 ii oo (2 : Int32) b652 yy_740) [(.ref yy_740)]) _
     refine XS.iconst X751.here hx rfl (hb hby at_292) ?_
     show GO p e below T751 (mkF m 293 (la34 q0 q1 p2 p3 p4 b600 l0 l1 l2 l0 ee1 ee2 b635 ii oo (2 : Int32) b652 yy_740) [(.int 1), (.ref yy_740)]) _
     refine st754.trans ?_
     show GO p e below T754 (mkF m 296 (la34 q0 q1 p2 p3 p4 b600 l0 l1 l2 l0 ee1 ee2 b635 ii oo (2 : Int32) b652 yy_740) [(.int x1)]) _
     refine XS.aload X754.here hx rfl (hb hby at_296) rfl rfl ?_
     show GO p e below T754 (mkF m 298 (la34 q0 q1 p2 p3 p4 b600 l0 l1 l2 l0 ee1 ee2 b635 ii oo (2 : Int32) b652 yy_740) [(.ref b600), (.int x1)]) _
     refine XS.iload X754.here hx rfl (hb hby at_298) rfl ?_
     show GO p e below T754 (mkF m 300 (la34 q0 q1 p2 p3 p4 b600 l0 l1 l2 l0 ee1 ee2 b635 ii oo (2 : Int32) b652 yy_740) [(.int oo), (.ref b600), (.int x1)]) _
     refine XS.iconst X754.here hx rfl (hb hby at_300) ?_
     show GO p e below T754 (mkF m 301 (la34 q0 q1 p2 p3 p4 b600 l0 l1 l2 l0 ee1 ee2 b635 ii oo (2 : Int32) b652 yy_740) [(.int 1), (.int oo), (.ref b600), (.int x1)]) _
     refine XS.iadd X754.here hx rfl (hb hby at_301) rfl ?_
     show GO p e below T754 (mkF m 302 (la34 q0 q1 p2 p3 p4 b600 l0 l1 l2 l0 ee1 ee2 b635 ii oo (2 : Int32) b652 yy_740) [(.int (oo + (1 : Int32))), (.ref b600), (.int x1)]) _
     refine X754.caload hx (j := (oo + (1 : Int32))) (v := (.int x1)) (by rw [e754]; exact Ar755.1) (State.isArrayOf_alike hZ.alike Ar755.2.1) Ar755.2.2 hin755 hat755 (g := (mkF m 302 (la34 q0 q1 p2 p3 p4 b600 l0 l1 l2 l0 ee1 ee2 b635 ii oo (2 : Int32) b652 yy_740) [(.int (oo + (1 : Int32))), (.ref b600), (.int x1)])) rfl rfl (hb hby at_302) _ ?_
     show GO p e below T754 (mkF m 303 (la34 q0 q1 p2 p3 p4 b600 l0 l1 l2 l0 ee1 ee2 b635 ii oo (2 : Int32) b652 yy_740) [(.int x1), (.int x1)]) _
     refine XS.icmpYes X754.here hx rfl (pc0 := 303) (pc' := 308) rfl (hb hby at_303) rfl (teq (rfl : x1 = x1)).1 (by decide) (by decide) ?_
     show GO p e below T754 (mkF m 308 (la34 q0 q1 p2 p3 p4 b600 l0 l1 l2 l0 ee1 ee2 b635 ii oo (2 : Int32) b652 yy_740) []) _
     refine XS.iconst X754.here hx rfl (hb hby at_308) ?_
     show GO p e below T754 (mkF m 309 (la34 q0 q1 p2 p3 p4 b600 l0 l1 l2 l0 ee1 ee2 b635 ii oo (2 : Int32) b652 yy_740) [(.int 1)]) _
     exact retN X754 hx (t := .boolean) Bd.returns (by simp) (hb hby at_309) hr
    ·show Qrm0 Z q0 q1 p2 p3 p4 z0 f0 h0 n0 _ T754.heap _
     rw [e754]
     exact ⟨rfl, N754⟩
    ·show CHr Z EL1 s.vm s.heap T754.vm T754.heap
     rw [hh, e754]
     exact CE
theorem comes_1 {Post : Tables → Env → Array Value → State → Outcome → State → Prop} (hpost : ∀ tb e args s v u, (limb_1_1.after args s (.returned v) u = true ∧ limb_1_2.after args s (.returned v) u = true ∧ True) → Jvm.D.FramedW s (.returned v) u (Jvm.fieldLocs frame_1_writes args s ++ Jvm.arrayLocs frame_1_arrays args s ++ Jvm.staticLocs frame_1_statics s) 24 1152 → Post tb e args s (.returned v) u) :
  ArmFor flags0 classFile x code maxLocals ret World_1 tables_1 room_1 Calls_1 rest_1 Pre_1 Post := by
 intro l hfl _ _ p e ha hc hk s m args below hf hA hF happ hP
 obtain ⟨hcalls, hrest, hpre⟩ := hP
 obtain ⟨-, -, -, hnamed, -, -, -, hat⟩ := (Spec.applies_iff hf).mp happ
 obtain ⟨hg, hn⟩ := and_e (Cond.before_iff.mp (show (Jvm.Cond.and given_1 narrow_1).before args s = true from hpre))
 obtain ⟨g0a, g0b⟩ := and_e hg
 obtain ⟨g1a, g1b⟩ := and_e g0b
 obtain ⟨g2a, g2b⟩ := and_e g1b
 obtain ⟨g3a, g3b⟩ := and_e g2b
 obtain ⟨g4a, g4b⟩ := and_e g3b
 obtain ⟨w0, w1, w2, w3, w4, rfl⟩ : ∃ w0 w1 w2 w3 w4 : Value, args = #[w0, w1, w2, w3, w4] := by
  have hs : args.size = 5 := by simpa [Cond.value, given_1] using g0a
  obtain ⟨L⟩ := args
  match L, hs with
  | [w0, w1, w2, w3, w4], _ => exact ⟨w0, w1, w2, w3, w4, rfl⟩
 have hw := fun d (hd : d ∈ tables_1) => atoms_spec (ws := Jvm.Cond.code x code maxLocals ret :: tables_1) hat d (List.mem_cons_of_mem _ hd)
 have hfit : Fit s := fun {y c} hc i hi => by
  obtain ⟨ha, rfl⟩ := Array.getElem?_eq_some_iff.mp hc
  have q := List.all_eq_true.mp ((Array.all_eq_true_iff_forall_mem.mp hF) _ (Array.getElem_mem ha)) i (List.mem_range.mpr hi)
  simpa [Array.getElem?_eq_getElem hi] using q
 obtain ⟨hsets, hown0⟩ := atoms_of _ (rest_1_c_eq ▸ (show rest_1_c.before _ s = true from hrest))
 have hr0 := Cond.before_iff.mp hown0
 obtain ⟨i0, ei0⟩ := isL_v g1a
 obtain rfl : w0 = (.long i0) := Option.some.inj ei0
 obtain ⟨i1, ei1⟩ := isL_v g2a
 obtain rfl : w1 = (.long i1) := Option.some.inj ei1
 obtain ⟨i2, ei2⟩ := is_v g3a
 obtain rfl : w2 = (.int i2) := Option.some.inj ei2
 obtain ⟨i3, ei3⟩ := is_v g4a
 obtain rfl : w3 = (.int i3) := Option.some.inj ei3
 obtain ⟨i4, ei4⟩ := is_v g4b
 obtain rfl : w4 = (.int i4) := Option.some.inj ei4
 have n3 := not_v (Cond.before_iff.mp (hsets _ (List.mem_of_getElem? (i := 2) rfl)))
 obtain ⟨z0, ez0⟩ := is_v (Cond.before_iff.mp (hsets _ (List.mem_of_getElem? (i := 1) rfl)))
 have SZ0 : Sta s s.heap kS0 "COMPACT_STRINGS" "Z" (.int z0) := Sta.start ez0 (Or.inl (hsets _ (List.mem_of_getElem? (i := 0) rfl)))
 have hz0 : ¬ (z0 = (0 : Int32)) := gotF (Cond.eq_ints ez0 (Term.int_eval (0))) n3
 have H0 : CHv s EL1 s.vm s.heap := CHv.start (own_EW hw) (fun p hp => hcalls.1 p (own_ELin p hp)) (hsets _ (List.mem_of_getElem? (i := 2) rfl)) (own_wb hw) (own_wi hw)
 obtain ⟨f0, ef0, rf0⟩ := isR_v (Cond.before_iff.mp (hsets _ (List.mem_of_getElem? (i := 8) rfl)))
 have SF0 : Sta s s.heap kS3 "SIOOBE_FORMATTER" "Ljava/util/function/BiFunction;" f0 := Sta.start ef0 (Or.inl (hsets _ (List.mem_of_getElem? (i := 7) rfl)))
 have S160 : Sta s s.heap kS1 "$assertionsDisabled" "Z" (.int 1) := Sta.start (own_eqi (Cond.before_iff.mp (hsets _ (List.mem_of_getElem? (i := 12) rfl)))) (Or.inl (hsets _ (List.mem_of_getElem? (i := 11) rfl)))
 have S161 : Sta s s.heap kS1 "HI_BYTE_SHIFT" "I" (.int 0) := Sta.start (own_eqi (Cond.before_iff.mp (hsets _ (List.mem_of_getElem? (i := 15) rfl)))) (Or.inl (hsets _ (List.mem_of_getElem? (i := 14) rfl)))
 have S162 : Sta s s.heap kS1 "LO_BYTE_SHIFT" "I" (.int 8) := Sta.start (own_eqi (Cond.before_iff.mp (hsets _ (List.mem_of_getElem? (i := 18) rfl)))) (Or.inl (hsets _ (List.mem_of_getElem? (i := 17) rfl)))
 obtain ⟨n, o, h1, h2, h3, _, L, rfl, ⟨rfl, N⟩, -, hq⟩ := rm0 l s _ hw tables_1 i0 i1 i2 i3 i4 z0 f0 s.heap s.heap.size (Nat.le_refl _) (Old.start s) SZ0 hz0 SF0 rf0 S160 S161 S162 p e ha hc hk s m _ below hf ((Spec.applies_iff_loose hf).mp happ).1 ⟨rfl, State.Warmed39.refl s, rfl, H0, fun _ h => absurd h (List.not_mem_nil)⟩ trivial
 refine ⟨n, _, h1, h2, h3, hpost _ _ _ _ _ _ ⟨Cond.after_iff.mpr rfl, Cond.after_iff.mpr (eq_i res_at (Term.int_eval (1)) rfl), trivial⟩ ⟨hq.1, hq.2.1, hq.2.2.1, (hq.2.2.2.sift fun y hy => Or.inr (N y hy)).mono (by decide) (by decide)⟩⟩
theorem main_1_1 : Claimed_1_1 := comes_1 fun _ _ _ _ _ _ h hF => ⟨h.1, hF⟩
theorem main_1_2 : Claimed_1_2 := comes_1 fun _ _ _ _ _ _ h hF => ⟨h.2.1, hF⟩
end Jvm.Pilot.@@N@@
namespace Jvm.Pilot.@@N@@
open Jvm Jvm.ClassFile Sem Op Lib Jvm.Free Jvm.Stand Jvm.Pilot.@@N@@.Jvm.D
/-! MADE BY PROGRAM (witnessworld.py) out of the Statement's table words and the real class files: 28 classes; the members and pool entries that the words name. The judged class is class 1, her method 1. -/
namespace start1
open Jvm.ClassFile
def u (s : String) : CpInfo := .utf8 (stringToUtf16 s)
/-- a pool by its gaps: so many unusable entries, then the entry; so many at the end -/
def gap : Nat → List CpInfo → List CpInfo
  | 0, r => r
  | n + 1, r => .unusable :: gap n r
def poolList (es : List (Nat × CpInfo)) (last : Nat) : List CpInfo := es.foldr (fun e r => gap e.1 (e.2 :: r)) (gap last [])
def pool (es : List (Nat × CpInfo)) (last : Nat) : Array CpInfo := ⟨poolList es last⟩
def fileOf (pool : Array CpInfo) (this : Nat) (attrs : Array Attribute := #[]) (ms : Array MethodInfo := #[]) (fl : Nat := 33) (sup : Nat := 0) (ifs : Array Nat := #[]) (fds : Array FieldInfo := #[]) : ClassFile where
  minorVersion := 0
  majorVersion := 65
  constantPool := pool
  accessFlags := fl
  thisClass := this
  superClass := sup
  interfaces := ifs
  fields := fds
  methods := ms
  attributes := attrs
def plain (name : String) (sup : Option ClassId) : Class where
  name := name
  kind := .ordinary
  loader := none
  accessFlags := 33
  super := sup
  interfaces := #[]
  cf := none
  fields := #[]
  methods := #[]
  instanceTypes := #[]
  staticTypes := #[]
  resolved := #[]
  callSites := []
  init := .initialized
  statics := none
  mirror := none

def pool0 : Array CpInfo := pool [(5, u "<init>"), (0, u "()V"), (1, .class_ 10), (1, u "java/lang/Object")] 113

def k0c0 : Code := { maxStack := 0, maxLocals := 1, code := object_method_1_code, exceptionTable := #[], attributes := #[] }
def k0m0 : Method := { name := "<init>", desc := "()V", sig := { parameters := [], returnType := none }, accessFlags := 1, code := some k0c0 }
/-- java/lang/Object -/
def k0 : Class := { plain "java/lang/Object" none with
  accessFlags := 33
  interfaces := #[]
  cf := some (fileOf pool0 8 #[] #[{ accessFlags := 1, nameIndex := 5, descriptorIndex := 6, attributes := #[] }] 33 0 #[] #[])
  fields := #[]
  methods := #[k0m0]
  instanceTypes := #[]
  staticTypes := #[]
  resolved := Array.replicate 124 none
  statics := none }

def pool1 : Array CpInfo := pool [(2, .class_ 4), (1, u "java/lang/Object"), (0, u "<init>"), (0, u "()V"), (0, .integer 2147483647), (0, .class_ 9), (0, u "com/example/rungwise/rungwise/formats/CsvRecord"), (0, .methodref 8 11), (0, .nameAndType 5 12), (0, u "([C[IZ)V"), (0, .methodref 8 14), (0, .nameAndType 15 16), (0, u "get"), (0, u "(I)Ljava/lang/String;"), (0, .methodref 18 19), (0, .class_ 20), (0, .nameAndType 21 22), (0, u "java/lang/String"), (0, u "length"), (0, u "()I"), (0, .methodref 18 24), (0, .nameAndType 25 26), (0, u "charAt"), (0, u "(I)C"), (0, .class_ 28), (0, u "com/example/rungwise/rungwise/formats/CsvRecordGetPinLaw"), (2, u "law"), (0, u "(JJIII)Z")] 7

def k1m0 : Method := { name := "<init>", desc := "()V", sig := { parameters := [], returnType := none }, accessFlags := 1, code := none }
def k1c1 : Code := { maxStack := 6, maxLocals := 20, code := code, exceptionTable := #[], attributes := #[] }
def k1m1 : Method := { name := "law", desc := "(JJIII)Z", sig := { parameters := [.long, .long, .int, .int, .int], returnType := some .boolean }, accessFlags := 9, code := some k1c1 }
/-- com/example/rungwise/rungwise/formats/CsvRecordGetPinLaw -/
def k1 : Class := { plain "com/example/rungwise/rungwise/formats/CsvRecordGetPinLaw" (some 0) with
  accessFlags := 49
  interfaces := #[]
  cf := some (fileOf pool1 27 #[] #[{ accessFlags := 1, nameIndex := 5, descriptorIndex := 6, attributes := #[] }, { accessFlags := 9, nameIndex := 31, descriptorIndex := 32, attributes := #[] }] 49 2 #[] #[])
  fields := #[]
  methods := #[k1m0, k1m1]
  instanceTypes := #[]
  staticTypes := #[]
  resolved := Array.replicate 40 none
  statics := none }

def pool2 : Array CpInfo := pool [(8, .class_ 10), (1, u "java/lang/Iterable"), (24, .class_ 36), (0, u "java/lang/Object")] 25

/-- java/lang/Iterable -/
def k2 : Class := { plain "java/lang/Iterable" (some 0) with
  accessFlags := 1537
  interfaces := #[]
  cf := some (fileOf pool2 8 #[] #[] 1537 35 #[] #[])
  fields := #[]
  methods := #[]
  instanceTypes := #[]
  staticTypes := #[]
  resolved := Array.replicate 62 none
  statics := none }

def pool3 : Array CpInfo := pool [(10, .class_ 12), (1, u "java/util/Collection"), (47, .class_ 61), (0, u "java/lang/Object"), (0, .class_ 63), (0, u "java/lang/Iterable")] 51

/-- java/util/Collection -/
def k3 : Class := { plain "java/util/Collection" (some 0) with
  accessFlags := 1537
  interfaces := #[2]
  cf := some (fileOf pool3 10 #[] #[] 1537 60 #[62] #[])
  fields := #[]
  methods := #[]
  instanceTypes := #[]
  staticTypes := #[]
  resolved := Array.replicate 115 none
  statics := none }

def pool4 : Array CpInfo := pool [(1, .methodref 2 3), (0, .class_ 4), (0, .nameAndType 5 6), (0, u "java/lang/Object"), (0, u "<init>"), (0, u "()V"), (1, .class_ 10), (1, u "java/util/AbstractCollection"), (66, .class_ 78), (0, u "java/util/Collection")] 81

def k4c0 : Code := { maxStack := 1, maxLocals := 1, code := jdk_22_method_1_code, exceptionTable := #[], attributes := #[] }
def k4m0 : Method := { name := "<init>", desc := "()V", sig := { parameters := [], returnType := none }, accessFlags := 4, code := some k4c0 }
/-- java/util/AbstractCollection -/
def k4 : Class := { plain "java/util/AbstractCollection" (some 0) with
  accessFlags := 1057
  interfaces := #[3]
  cf := some (fileOf pool4 8 #[] #[{ accessFlags := 4, nameIndex := 5, descriptorIndex := 6, attributes := #[] }] 1057 2 #[77] #[])
  fields := #[]
  methods := #[k4m0]
  instanceTypes := #[]
  staticTypes := #[]
  resolved := Array.replicate 160 none
  statics := none }

def pool5 : Array CpInfo := pool [(8, .class_ 10), (1, u "java/util/SequencedCollection"), (15, .class_ 27), (0, u "java/lang/Object"), (0, .class_ 29), (0, u "java/util/Collection")] 27

/-- java/util/SequencedCollection -/
def k5 : Class := { plain "java/util/SequencedCollection" (some 0) with
  accessFlags := 1537
  interfaces := #[3]
  cf := some (fileOf pool5 8 #[] #[] 1537 26 #[28] #[])
  fields := #[]
  methods := #[]
  instanceTypes := #[]
  staticTypes := #[]
  resolved := Array.replicate 57 none
  statics := none }

def pool6 : Array CpInfo := pool [(8, .class_ 10), (1, u "java/util/List"), (92, .class_ 104), (0, u "java/lang/Object"), (15, .class_ 121), (0, u "java/util/SequencedCollection")] 129

/-- java/util/List -/
def k6 : Class := { plain "java/util/List" (some 0) with
  accessFlags := 1537
  interfaces := #[5]
  cf := some (fileOf pool6 8 #[] #[] 1537 103 #[120] #[])
  fields := #[]
  methods := #[]
  instanceTypes := #[]
  staticTypes := #[]
  resolved := Array.replicate 251 none
  statics := none }

def pool7 : Array CpInfo := pool [(1, .methodref 2 3), (0, .class_ 4), (0, .nameAndType 5 6), (0, u "java/util/AbstractCollection"), (0, u "<init>"), (0, u "()V"), (0, .fieldref 8 9), (0, .class_ 10), (0, .nameAndType 11 12), (0, u "java/util/AbstractList"), (0, u "modCount"), (0, u "I"), (64, .class_ 78), (0, u "java/util/AbstractList$Itr"), (3, .class_ 83), (0, u "java/util/AbstractList$ListItr"), (9, .class_ 94), (0, u "java/util/AbstractList$RandomAccessSubList"), (3, .class_ 99), (0, u "java/util/AbstractList$SubList"), (33, .class_ 134), (0, u "java/util/List"), (73, .class_ 209), (0, u "java/util/AbstractList$SubList$1"), (0, .class_ 211), (0, u "java/util/AbstractList$RandomAccessSpliterator")] 6

def k7c0 : Code := { maxStack := 2, maxLocals := 1, code := jdk_39_method_1_code, exceptionTable := #[], attributes := #[] }
def k7m0 : Method := { name := "<init>", desc := "()V", sig := { parameters := [], returnType := none }, accessFlags := 4, code := some k7c0 }
/-- java/util/AbstractList -/
def k7 : Class := { plain "java/util/AbstractList" (some 4) with
  accessFlags := 1057
  interfaces := #[6]
  cf := some (fileOf pool7 8 #[.nestMembers #[93, 98, 208, 210, 82, 77]] #[{ accessFlags := 4, nameIndex := 5, descriptorIndex := 6, attributes := #[] }] 1057 2 #[133] #[{ accessFlags := 132, nameIndex := 11, descriptorIndex := 12, attributes := #[] }])
  fields := #[{ name := "modCount", type := .int, accessFlags := 132, slot := 0, constantValue := 0 }]
  methods := #[k7m0]
  instanceTypes := #[.int]
  staticTypes := #[]
  resolved := Array.replicate 218 none
  statics := none }

def pool8 : Array CpInfo := pool [(1, .class_ 2), (0, u "java/util/RandomAccess"), (0, .class_ 4), (0, u "java/lang/Object")] 2

/-- java/util/RandomAccess -/
def k8 : Class := { plain "java/util/RandomAccess" (some 0) with
  accessFlags := 1537
  interfaces := #[]
  cf := some (fileOf pool8 1 #[] #[] 1537 3 #[] #[])
  fields := #[]
  methods := #[]
  instanceTypes := #[]
  staticTypes := #[]
  resolved := Array.replicate 7 none
  statics := none }

def pool9 : Array CpInfo := pool [(1, .methodref 2 3), (0, .class_ 4), (0, .nameAndType 5 6), (0, u "java/util/AbstractList"), (0, u "<init>"), (0, u "()V"), (0, .fieldref 8 9), (0, .class_ 10), (0, .nameAndType 11 12), (0, u "com/example/rungwise/rungwise/formats/CsvRecord"), (0, u "text"), (0, u "[C"), (0, .fieldref 8 14), (0, .nameAndType 15 16), (0, u "ends"), (0, u "[I"), (0, .fieldref 8 18), (0, .nameAndType 19 20), (0, u "needsQuotes"), (0, u "Z"), (0, .methodref 22 23), (0, .class_ 24), (0, .nameAndType 25 26), (0, u "java/util/Objects"), (0, u "checkIndex"), (0, u "(II)I"), (0, .class_ 28), (0, u "java/lang/String"), (0, .methodref 27 30), (0, .nameAndType 5 31), (0, u "([CII)V"), (2, u "get"), (0, u "(I)Ljava/lang/String;"), (0, .class_ 37), (0, u "java/util/RandomAccess"), (0, u "([C[IZ)V")] 13

def k9c0 : Code := { maxStack := 2, maxLocals := 4, code := prog_30_method_1_code, exceptionTable := #[], attributes := #[] }
def k9m0 : Method := { name := "<init>", desc := "([C[IZ)V", sig := { parameters := [(.array .char), (.array .int), .boolean], returnType := none }, accessFlags := 0, code := some k9c0 }
def k9c1 : Code := { maxStack := 6, maxLocals := 3, code := prog_30_method_2_code, exceptionTable := #[], attributes := #[] }
def k9m1 : Method := { name := "get", desc := "(I)Ljava/lang/String;", sig := { parameters := [.int], returnType := some (.object "java/lang/String") }, accessFlags := 1, code := some k9c1 }
/-- com/example/rungwise/rungwise/formats/CsvRecord -/
def k9 : Class := { plain "com/example/rungwise/rungwise/formats/CsvRecord" (some 7) with
  accessFlags := 48
  interfaces := #[8]
  cf := some (fileOf pool9 8 #[] #[{ accessFlags := 0, nameIndex := 5, descriptorIndex := 38, attributes := #[] }, { accessFlags := 1, nameIndex := 34, descriptorIndex := 35, attributes := #[] }] 48 2 #[36] #[{ accessFlags := 18, nameIndex := 11, descriptorIndex := 12, attributes := #[] }, { accessFlags := 18, nameIndex := 15, descriptorIndex := 16, attributes := #[] }, { accessFlags := 18, nameIndex := 19, descriptorIndex := 20, attributes := #[] }])
  fields := #[{ name := "text", type := (.array .char), accessFlags := 18, slot := 1, constantValue := 0 }, { name := "ends", type := (.array .int), accessFlags := 18, slot := 2, constantValue := 0 }, { name := "needsQuotes", type := .boolean, accessFlags := 18, slot := 3, constantValue := 0 }]
  methods := #[k9m0, k9m1]
  instanceTypes := #[.int, (.array .char), (.array .int), .boolean]
  staticTypes := #[]
  resolved := Array.replicate 52 none
  statics := none }

def pool10 : Array CpInfo := pool [(2, .class_ 4), (1, u "java/lang/Object"), (0, u "<init>"), (0, u "()V"), (35, .class_ 44), (1, u "java/util/Objects"), (60, .methodref 106 107), (0, .class_ 108), (0, .nameAndType 109 110), (0, u "jdk/internal/util/Preconditions"), (0, u "checkIndex"), (0, u "(IILjava/util/function/BiFunction;)I"), (60, u "(II)I")] 12

def k10m0 : Method := { name := "<init>", desc := "()V", sig := { parameters := [], returnType := none }, accessFlags := 2, code := none }
def k10c1 : Code := { maxStack := 3, maxLocals := 2, code := jdk_31_method_17_code, exceptionTable := #[], attributes := #[] }
def k10m1 : Method := { name := "checkIndex", desc := "(II)I", sig := { parameters := [.int, .int], returnType := some .int }, accessFlags := 9, code := some k10c1 }
/-- java/util/Objects -/
def k10 : Class := { plain "java/util/Objects" (some 0) with
  accessFlags := 49
  interfaces := #[]
  cf := some (fileOf pool10 42 #[] #[{ accessFlags := 2, nameIndex := 5, descriptorIndex := 6, attributes := #[] }, { accessFlags := 9, nameIndex := 109, descriptorIndex := 171, attributes := #[] }] 49 2 #[] #[])
  fields := #[]
  methods := #[k10m0, k10m1]
  instanceTypes := #[]
  staticTypes := #[]
  resolved := Array.replicate 184 none
  statics := none }

def pool11 : Array CpInfo := pool [(2, .class_ 4), (1, u "java/lang/Object"), (0, u "<init>"), (0, u "()V"), (17, .class_ 26), (1, u "jdk/internal/util/Preconditions"), (6, u "checkIndex"), (15, u "checkFromIndexSize"), (5, .class_ 56), (0, u "jdk/internal/util/Preconditions$4"), (57, .class_ 115), (0, u "jdk/internal/util/Preconditions$1"), (7, u "SIOOBE_FORMATTER"), (0, u "Ljava/util/function/BiFunction;"), (0, .class_ 126), (0, u "jdk/internal/util/Preconditions$2"), (3, u "AIOOBE_FORMATTER"), (0, .class_ 132), (0, u "jdk/internal/util/Preconditions$3"), (3, u "IOOBE_FORMATTER"), (41, u "(IILjava/util/function/BiFunction;)I"), (4, u "(IIILjava/util/function/BiFunction;)I")] 10

def k11m0 : Method := { name := "<init>", desc := "()V", sig := { parameters := [], returnType := none }, accessFlags := 1, code := none }
def k11c1 : Code := { maxStack := 3, maxLocals := 3, code := jdk_41_method_11_code, exceptionTable := #[], attributes := #[] }
def k11m1 : Method := { name := "checkIndex", desc := "(IILjava/util/function/BiFunction;)I", sig := { parameters := [.int, .int, (.object "java/util/function/BiFunction")], returnType := some .int }, accessFlags := 9, code := some k11c1 }
def k11c2 : Code := { maxStack := 4, maxLocals := 4, code := jdk_41_method_13_code, exceptionTable := #[], attributes := #[] }
def k11m2 : Method := { name := "checkFromIndexSize", desc := "(IIILjava/util/function/BiFunction;)I", sig := { parameters := [.int, .int, .int, (.object "java/util/function/BiFunction")], returnType := some .int }, accessFlags := 9, code := some k11c2 }
/-- jdk/internal/util/Preconditions -/
def k11 : Class := { plain "jdk/internal/util/Preconditions" (some 0) with
  accessFlags := 33
  interfaces := #[]
  cf := some (fileOf pool11 24 #[.nestMembers #[55, 131, 125, 114]] #[{ accessFlags := 1, nameIndex := 5, descriptorIndex := 6, attributes := #[] }, { accessFlags := 9, nameIndex := 33, descriptorIndex := 178, attributes := #[] }, { accessFlags := 9, nameIndex := 49, descriptorIndex := 183, attributes := #[] }] 33 2 #[] #[{ accessFlags := 25, nameIndex := 123, descriptorIndex := 124, attributes := #[] }, { accessFlags := 25, nameIndex := 130, descriptorIndex := 124, attributes := #[] }, { accessFlags := 25, nameIndex := 136, descriptorIndex := 124, attributes := #[] }])
  fields := #[{ name := "SIOOBE_FORMATTER", type := (.object "java/util/function/BiFunction"), accessFlags := 25, slot := 0, constantValue := 0 }, { name := "AIOOBE_FORMATTER", type := (.object "java/util/function/BiFunction"), accessFlags := 25, slot := 1, constantValue := 0 }, { name := "IOOBE_FORMATTER", type := (.object "java/util/function/BiFunction"), accessFlags := 25, slot := 2, constantValue := 0 }]
  methods := #[k11m0, k11m1, k11m2]
  instanceTypes := #[]
  staticTypes := #[(.object "java/util/function/BiFunction"), (.object "java/util/function/BiFunction"), (.object "java/util/function/BiFunction")]
  resolved := Array.replicate 194 none
  statics := some 0 }

def pool12 : Array CpInfo := pool [(1, .class_ 2), (0, u "java/io/Serializable"), (0, .class_ 4), (0, u "java/lang/Object")] 2

/-- java/io/Serializable -/
def k12 : Class := { plain "java/io/Serializable" (some 0) with
  accessFlags := 1537
  interfaces := #[]
  cf := some (fileOf pool12 1 #[] #[] 1537 3 #[] #[])
  fields := #[]
  methods := #[]
  instanceTypes := #[]
  staticTypes := #[]
  resolved := Array.replicate 7 none
  statics := none }

def pool13 : Array CpInfo := pool [(1, .class_ 2), (0, u "java/lang/Comparable"), (0, .class_ 4), (0, u "java/lang/Object")] 7

/-- java/lang/Comparable -/
def k13 : Class := { plain "java/lang/Comparable" (some 0) with
  accessFlags := 1537
  interfaces := #[]
  cf := some (fileOf pool13 1 #[] #[] 1537 3 #[] #[])
  fields := #[]
  methods := #[]
  instanceTypes := #[]
  staticTypes := #[]
  resolved := Array.replicate 12 none
  statics := none }

def pool14 : Array CpInfo := pool [(2, .class_ 4), (1, u "java/lang/CharSequence"), (42, .class_ 48), (0, u "java/lang/CharSequence$1CodePointIterator"), (10, .class_ 60), (0, u "java/lang/CharSequence$1CharIterator"), (5, .class_ 67), (0, u "java/lang/Object")] 63

/-- java/lang/CharSequence -/
def k14 : Class := { plain "java/lang/CharSequence" (some 0) with
  accessFlags := 1537
  interfaces := #[]
  cf := some (fileOf pool14 2 #[.nestMembers #[47, 59]] #[] 1537 66 #[] #[])
  fields := #[]
  methods := #[]
  instanceTypes := #[]
  staticTypes := #[]
  resolved := Array.replicate 131 none
  statics := none }

def pool15 : Array CpInfo := pool [(1, .class_ 2), (0, u "java/lang/constant/Constable"), (0, .class_ 4), (0, u "java/lang/Object")] 6

/-- java/lang/constant/Constable -/
def k15 : Class := { plain "java/lang/constant/Constable" (some 0) with
  accessFlags := 1537
  interfaces := #[]
  cf := some (fileOf pool15 1 #[] #[] 1537 3 #[] #[])
  fields := #[]
  methods := #[]
  instanceTypes := #[]
  staticTypes := #[]
  resolved := Array.replicate 11 none
  statics := none }

def pool16 : Array CpInfo := pool [(1, .class_ 2), (0, u "java/lang/constant/ConstantDesc"), (0, .class_ 4), (0, u "java/lang/Object")] 32

/-- java/lang/constant/ConstantDesc -/
def k16 : Class := { plain "java/lang/constant/ConstantDesc" (some 0) with
  accessFlags := 1537
  interfaces := #[]
  cf := some (fileOf pool16 1 #[] #[] 1537 3 #[] #[])
  fields := #[]
  methods := #[]
  instanceTypes := #[]
  staticTypes := #[]
  resolved := Array.replicate 37 none
  statics := none }

def pool17 : Array CpInfo := pool [(1, .methodref 2 3), (0, .class_ 4), (0, .nameAndType 5 6), (0, u "java/lang/Object"), (0, u "<init>"), (0, u "()V"), (0, .string 8), (0, u ""), (0, .fieldref 10 11), (0, .class_ 12), (0, .nameAndType 13 14), (0, u "java/lang/String"), (0, u "value"), (0, u "[B"), (0, .fieldref 10 16), (0, .nameAndType 17 18), (0, u "coder"), (0, u "B"), (2, u "hash"), (0, u "I"), (2, u "hashIsZero"), (0, u "Z"), (0, .methodref 10 28), (0, .nameAndType 5 29), (0, u "([CIILjava/lang/Void;)V"), (0, .methodref 10 31), (0, .nameAndType 32 33), (0, u "rangeCheck"), (0, u "([CII)Ljava/lang/Void;"), (0, .methodref 10 35), (0, .nameAndType 36 37), (0, u "checkBoundsOffCount"), (0, u "(III)I"), (0, .fieldref 10 39), (0, .nameAndType 40 26), (0, u "COMPACT_STRINGS"), (1, .class_ 44), (1, u "java/lang/StringUTF16"), (0, u "compress"), (1, .methodref 42 48), (0, .nameAndType 49 50), (0, u "coderFromArrayLen"), (0, u "([BI)B"), (56, .class_ 109), (1, u "java/lang/StringLatin1"), (32, u "()Z"), (34, .methodref 42 178), (0, .nameAndType 45 179), (0, u "([CII)[B"), (154, u "()I"), (0, .methodref 10 336), (0, .nameAndType 17 337), (0, u "()B"), (25, u "([BI)C"), (27, u "(II)V"), (35, u "(I)C"), (64, .methodref 10 493), (0, .nameAndType 494 142), (0, u "isLatin1"), (0, .methodref 107 496), (0, .nameAndType 497 363), (0, u "charAt"), (0, .methodref 42 496), (2, u "checkIndex"), (5, u "length"), (67, .class_ 576), (0, u "java/lang/CharSequence"), (22, u "CASE_INSENSITIVE_ORDER"), (0, u "Ljava/util/Comparator;"), (371, u "([CII)V"), (80, .fieldref 1054 1055), (0, .class_ 1056), (0, .nameAndType 1057 1058), (0, u "jdk/internal/util/Preconditions"), (0, u "SIOOBE_FORMATTER"), (0, u "Ljava/util/function/BiFunction;"), (0, .methodref 1054 1060), (0, .nameAndType 501 1061), (0, u "(IILjava/util/function/BiFunction;)I"), (2, u "(IIILjava/util/function/BiFunction;)I"), (0, .methodref 1054 1066), (0, .nameAndType 1067 1064), (0, u "checkFromIndexSize"), (33, u "serialPersistentFields"), (0, u "[Ljava/io/ObjectStreamField;"), (0, .class_ 1104), (0, u "java/lang/String$CaseInsensitiveComparator"), (1, .class_ 1107), (0, u "java/io/Serializable"), (0, .class_ 1109), (0, u "java/lang/Comparable"), (0, .class_ 1111), (0, u "java/lang/constant/Constable"), (0, .class_ 1113), (0, u "java/lang/constant/ConstantDesc"), (2, u "serialVersionUID"), (0, u "J"), (3, u "REPL"), (0, u "C"), (2, u "LATIN1"), (1, u "UTF16")] 323

def k17m0 : Method := { name := "<init>", desc := "()V", sig := { parameters := [], returnType := none }, accessFlags := 1, code := none }
def k17c1 : Code := { maxStack := 7, maxLocals := 4, code := jdk_42_method_4_code, exceptionTable := #[], attributes := #[] }
def k17m1 : Method := { name := "<init>", desc := "([CII)V", sig := { parameters := [(.array .char), .int, .int], returnType := none }, accessFlags := 1, code := some k17c1 }
def k17c2 : Code := { maxStack := 3, maxLocals := 3, code := jdk_42_method_5_code, exceptionTable := #[], attributes := #[] }
def k17m2 : Method := { name := "rangeCheck", desc := "([CII)Ljava/lang/Void;", sig := { parameters := [(.array .char), .int, .int], returnType := some (.object "java/lang/Void") }, accessFlags := 10, code := some k17c2 }
def k17c3 : Code := { maxStack := 2, maxLocals := 1, code := jdk_42_method_54_code, exceptionTable := #[], attributes := #[] }
def k17m3 : Method := { name := "length", desc := "()I", sig := { parameters := [], returnType := some .int }, accessFlags := 1, code := some k17c3 }
def k17c4 : Code := { maxStack := 2, maxLocals := 2, code := jdk_42_method_56_code, exceptionTable := #[], attributes := #[] }
def k17m4 : Method := { name := "charAt", desc := "(I)C", sig := { parameters := [.int], returnType := some .char }, accessFlags := 1, code := some k17c4 }
def k17c5 : Code := { maxStack := 4, maxLocals := 6, code := jdk_42_method_149_code, exceptionTable := #[], attributes := #[] }
def k17m5 : Method := { name := "<init>", desc := "([CIILjava/lang/Void;)V", sig := { parameters := [(.array .char), .int, .int, (.object "java/lang/Void")], returnType := none }, accessFlags := 2, code := some k17c5 }
def k17c6 : Code := { maxStack := 1, maxLocals := 1, code := jdk_42_method_152_code, exceptionTable := #[], attributes := #[] }
def k17m6 : Method := { name := "coder", desc := "()B", sig := { parameters := [], returnType := some .byte }, accessFlags := 0, code := some k17c6 }
def k17c7 : Code := { maxStack := 1, maxLocals := 1, code := jdk_42_method_154_code, exceptionTable := #[], attributes := #[] }
def k17m7 : Method := { name := "isLatin1", desc := "()Z", sig := { parameters := [], returnType := some .boolean }, accessFlags := 0, code := some k17c7 }
def k17c8 : Code := { maxStack := 3, maxLocals := 2, code := jdk_42_method_155_code, exceptionTable := #[], attributes := #[] }
def k17m8 : Method := { name := "checkIndex", desc := "(II)V", sig := { parameters := [.int, .int], returnType := none }, accessFlags := 8, code := some k17c8 }
def k17c9 : Code := { maxStack := 4, maxLocals := 3, code := jdk_42_method_157_code, exceptionTable := #[], attributes := #[] }
def k17m9 : Method := { name := "checkBoundsOffCount", desc := "(III)I", sig := { parameters := [.int, .int, .int], returnType := some .int }, accessFlags := 8, code := some k17c9 }
/-- java/lang/String -/
def k17 : Class := { plain "java/lang/String" (some 0) with
  accessFlags := 49
  interfaces := #[12, 13, 14, 15, 16]
  cf := some (fileOf pool17 10 #[.nestMembers #[1103]] #[{ accessFlags := 1, nameIndex := 5, descriptorIndex := 6, attributes := #[] }, { accessFlags := 1, nameIndex := 5, descriptorIndex := 972, attributes := #[] }, { accessFlags := 10, nameIndex := 32, descriptorIndex := 33, attributes := #[] }, { accessFlags := 1, nameIndex := 507, descriptorIndex := 334, attributes := #[] }, { accessFlags := 1, nameIndex := 497, descriptorIndex := 427, attributes := #[] }, { accessFlags := 2, nameIndex := 5, descriptorIndex := 29, attributes := #[] }, { accessFlags := 0, nameIndex := 17, descriptorIndex := 337, attributes := #[] }, { accessFlags := 0, nameIndex := 494, descriptorIndex := 142, attributes := #[] }, { accessFlags := 8, nameIndex := 501, descriptorIndex := 391, attributes := #[] }, { accessFlags := 8, nameIndex := 36, descriptorIndex := 37, attributes := #[] }] 49 2 #[1106, 1108, 575, 1110, 1112] #[{ accessFlags := 18, nameIndex := 13, descriptorIndex := 14, attributes := #[] }, { accessFlags := 18, nameIndex := 17, descriptorIndex := 18, attributes := #[] }, { accessFlags := 2, nameIndex := 21, descriptorIndex := 22, attributes := #[] }, { accessFlags := 2, nameIndex := 25, descriptorIndex := 26, attributes := #[] }, { accessFlags := 26, nameIndex := 1116, descriptorIndex := 1117, attributes := #[] }, { accessFlags := 24, nameIndex := 40, descriptorIndex := 26, attributes := #[] }, { accessFlags := 26, nameIndex := 1101, descriptorIndex := 1102, attributes := #[] }, { accessFlags := 26, nameIndex := 1121, descriptorIndex := 1122, attributes := #[] }, { accessFlags := 25, nameIndex := 599, descriptorIndex := 600, attributes := #[] }, { accessFlags := 24, nameIndex := 1125, descriptorIndex := 18, attributes := #[] }, { accessFlags := 24, nameIndex := 1127, descriptorIndex := 18, attributes := #[] }])
  fields := #[{ name := "value", type := (.array .byte), accessFlags := 18, slot := 0, constantValue := 0 }, { name := "coder", type := .byte, accessFlags := 18, slot := 1, constantValue := 0 }, { name := "hash", type := .int, accessFlags := 2, slot := 2, constantValue := 0 }, { name := "hashIsZero", type := .boolean, accessFlags := 2, slot := 3, constantValue := 0 }, { name := "serialVersionUID", type := .long, accessFlags := 26, slot := 0, constantValue := 0 }, { name := "COMPACT_STRINGS", type := .boolean, accessFlags := 24, slot := 1, constantValue := 0 }, { name := "serialPersistentFields", type := (.array (.object "java/io/ObjectStreamField")), accessFlags := 26, slot := 2, constantValue := 0 }, { name := "REPL", type := .char, accessFlags := 26, slot := 3, constantValue := 0 }, { name := "CASE_INSENSITIVE_ORDER", type := (.object "java/util/Comparator"), accessFlags := 25, slot := 4, constantValue := 0 }, { name := "LATIN1", type := .byte, accessFlags := 24, slot := 5, constantValue := 0 }, { name := "UTF16", type := .byte, accessFlags := 24, slot := 6, constantValue := 0 }]
  methods := #[k17m0, k17m1, k17m2, k17m3, k17m4, k17m5, k17m6, k17m7, k17m8, k17m9]
  instanceTypes := #[(.array .byte), .byte, .int, .boolean]
  staticTypes := #[.long, .boolean, (.array (.object "java/io/ObjectStreamField")), .char, (.object "java/util/Comparator"), .byte, .byte]
  resolved := Array.replicate 1451 none
  statics := some 1 }

def pool18 : Array CpInfo := pool [(3, .class_ 4), (0, u "java/lang/String"), (1, .class_ 8), (1, u "java/lang/Object"), (0, u "<init>"), (0, u "()V"), (0, .methodref 12 13), (0, .class_ 14), (0, .nameAndType 15 16), (0, u "java/lang/StringUTF16"), (0, u "newBytesLength"), (0, u "(I)I"), (3, .integer 1073741823), (23, .fieldref 12 45), (0, .nameAndType 46 47), (0, u "$assertionsDisabled"), (0, u "Z"), (0, .methodref 12 49), (0, .nameAndType 50 51), (0, u "length"), (0, u "([B)I"), (7, .fieldref 12 60), (0, .nameAndType 61 62), (0, u "HI_BYTE_SHIFT"), (0, u "I"), (0, .fieldref 12 64), (0, .nameAndType 65 62), (0, u "LO_BYTE_SHIFT"), (1, .methodref 12 68), (0, .nameAndType 69 70), (0, u "checkIndex"), (0, u "(I[B)V"), (0, .methodref 12 72), (0, .nameAndType 73 74), (0, u "getChar"), (0, u "([BI)C"), (32, .methodref 12 108), (0, .nameAndType 109 110), (0, u "newBytesFor"), (0, u "(I)[B"), (0, .methodref 12 112), (0, .nameAndType 113 114), (0, u "putChar"), (0, u "([BII)V"), (0, .methodref 12 116), (0, .nameAndType 117 118), (0, u "compress"), (0, u "([CI[BII)I"), (0, .methodref 12 120), (0, .nameAndType 121 122), (0, u "toBytes"), (0, u "([CII)[B"), (138, u "coderFromArrayLen"), (0, u "([BI)B"), (106, .class_ 371), (1, u "java/lang/StringUTF16$LinesSpliterator"), (20, u "charAt"), (21, .methodref 3 415), (0, .nameAndType 69 416), (0, u "(II)V"), (13, u "MAX_LENGTH"), (196, .class_ 628), (0, u "java/lang/StringUTF16$CodePointsSpliterator"), (0, .class_ 630), (0, u "java/lang/StringUTF16$CharsSpliterator")] 4

def k18m0 : Method := { name := "<init>", desc := "()V", sig := { parameters := [], returnType := none }, accessFlags := 0, code := none }
def k18c1 : Code := { maxStack := 1, maxLocals := 1, code := jdk_52_method_2_code, exceptionTable := #[], attributes := #[] }
def k18m1 : Method := { name := "newBytesFor", desc := "(I)[B", sig := { parameters := [.int], returnType := some (.array .byte) }, accessFlags := 9, code := some k18c1 }
def k18c2 : Code := { maxStack := 4, maxLocals := 1, code := jdk_52_method_3_code, exceptionTable := #[], attributes := #[] }
def k18m2 : Method := { name := "newBytesLength", desc := "(I)I", sig := { parameters := [.int], returnType := some .int }, accessFlags := 9, code := some k18c2 }
def k18c3 : Code := { maxStack := 4, maxLocals := 3, code := jdk_52_method_4_code, exceptionTable := #[], attributes := #[] }
def k18m3 : Method := { name := "putChar", desc := "([BII)V", sig := { parameters := [(.array .byte), .int, .int], returnType := none }, accessFlags := 8, code := some k18c3 }
def k18c4 : Code := { maxStack := 3, maxLocals := 2, code := jdk_52_method_5_code, exceptionTable := #[], attributes := #[] }
def k18m4 : Method := { name := "getChar", desc := "([BI)C", sig := { parameters := [(.array .byte), .int], returnType := some .char }, accessFlags := 8, code := some k18c4 }
def k18c5 : Code := { maxStack := 2, maxLocals := 1, code := jdk_52_method_6_code, exceptionTable := #[], attributes := #[] }
def k18m5 : Method := { name := "length", desc := "([B)I", sig := { parameters := [(.array .byte)], returnType := some .int }, accessFlags := 9, code := some k18c5 }
def k18c6 : Code := { maxStack := 4, maxLocals := 5, code := jdk_52_method_14_code, exceptionTable := #[], attributes := #[] }
def k18m6 : Method := { name := "toBytes", desc := "([CII)[B", sig := { parameters := [(.array .char), .int, .int], returnType := some (.array .byte) }, accessFlags := 9, code := some k18c6 }
def k18c7 : Code := { maxStack := 2, maxLocals := 2, code := jdk_52_method_15_code, exceptionTable := #[], attributes := #[] }
def k18m7 : Method := { name := "coderFromArrayLen", desc := "([BI)B", sig := { parameters := [(.array .byte), .int], returnType := some .byte }, accessFlags := 8, code := some k18c7 }
def k18c8 : Code := { maxStack := 5, maxLocals := 6, code := jdk_52_method_16_code, exceptionTable := #[], attributes := #[] }
def k18m8 : Method := { name := "compress", desc := "([CII)[B", sig := { parameters := [(.array .char), .int, .int], returnType := some (.array .byte) }, accessFlags := 9, code := some k18c8 }
def k18c9 : Code := { maxStack := 3, maxLocals := 7, code := jdk_52_method_21_code, exceptionTable := #[], attributes := #[] }
def k18m9 : Method := { name := "compress", desc := "([CI[BII)I", sig := { parameters := [(.array .char), .int, (.array .byte), .int, .int], returnType := some .int }, accessFlags := 9, code := some k18c9 }
def k18c10 : Code := { maxStack := 2, maxLocals := 2, code := jdk_52_method_83_code, exceptionTable := #[], attributes := #[] }
def k18m10 : Method := { name := "charAt", desc := "([BI)C", sig := { parameters := [(.array .byte), .int], returnType := some .char }, accessFlags := 9, code := some k18c10 }
def k18c11 : Code := { maxStack := 2, maxLocals := 2, code := jdk_52_method_91_code, exceptionTable := #[], attributes := #[] }
def k18m11 : Method := { name := "checkIndex", desc := "(I[B)V", sig := { parameters := [.int, (.array .byte)], returnType := none }, accessFlags := 9, code := some k18c11 }
/-- java/lang/StringUTF16 -/
def k18 : Class := { plain "java/lang/StringUTF16" (some 0) with
  accessFlags := 48
  interfaces := #[]
  cf := some (fileOf pool18 12 #[.nestMembers #[627, 629, 369]] #[{ accessFlags := 0, nameIndex := 9, descriptorIndex := 10, attributes := #[] }, { accessFlags := 9, nameIndex := 109, descriptorIndex := 110, attributes := #[] }, { accessFlags := 9, nameIndex := 15, descriptorIndex := 16, attributes := #[] }, { accessFlags := 8, nameIndex := 113, descriptorIndex := 114, attributes := #[] }, { accessFlags := 8, nameIndex := 73, descriptorIndex := 74, attributes := #[] }, { accessFlags := 9, nameIndex := 50, descriptorIndex := 51, attributes := #[] }, { accessFlags := 9, nameIndex := 121, descriptorIndex := 122, attributes := #[] }, { accessFlags := 8, nameIndex := 261, descriptorIndex := 262, attributes := #[] }, { accessFlags := 9, nameIndex := 117, descriptorIndex := 122, attributes := #[] }, { accessFlags := 9, nameIndex := 117, descriptorIndex := 118, attributes := #[] }, { accessFlags := 9, nameIndex := 392, descriptorIndex := 74, attributes := #[] }, { accessFlags := 9, nameIndex := 69, descriptorIndex := 70, attributes := #[] }] 48 6 #[] #[{ accessFlags := 26, nameIndex := 61, descriptorIndex := 62, attributes := #[] }, { accessFlags := 26, nameIndex := 65, descriptorIndex := 62, attributes := #[] }, { accessFlags := 24, nameIndex := 430, descriptorIndex := 62, attributes := #[] }, { accessFlags := 4120, nameIndex := 46, descriptorIndex := 47, attributes := #[] }])
  fields := #[{ name := "HI_BYTE_SHIFT", type := .int, accessFlags := 26, slot := 0, constantValue := 0 }, { name := "LO_BYTE_SHIFT", type := .int, accessFlags := 26, slot := 1, constantValue := 0 }, { name := "MAX_LENGTH", type := .int, accessFlags := 24, slot := 2, constantValue := 0 }, { name := "$assertionsDisabled", type := .boolean, accessFlags := 4120, slot := 3, constantValue := 0 }]
  methods := #[k18m0, k18m1, k18m2, k18m3, k18m4, k18m5, k18m6, k18m7, k18m8, k18m9, k18m10, k18m11]
  instanceTypes := #[]
  staticTypes := #[.int, .int, .int, .boolean]
  resolved := Array.replicate 635 none
  statics := some 2 }

def pool19 : Array CpInfo := pool [(1, .class_ 2), (0, u "java/lang/String"), (1, .class_ 6), (1, u "java/lang/Object"), (0, u "<init>"), (0, u "()V"), (0, .methodref 1 10), (0, .nameAndType 11 12), (0, u "checkIndex"), (0, u "(II)V"), (1, .class_ 16), (1, u "java/lang/StringLatin1"), (36, u "([BI)C"), (67, u "$assertionsDisabled"), (0, u "Z"), (98, .class_ 223), (1, u "java/lang/StringLatin1$LinesSpliterator"), (28, u "charAt"), (137, .class_ 391), (0, u "java/lang/StringLatin1$CharsSpliterator")] 3

def k19m0 : Method := { name := "<init>", desc := "()V", sig := { parameters := [], returnType := none }, accessFlags := 0, code := none }
def k19c1 : Code := { maxStack := 2, maxLocals := 2, code := jdk_43_method_2_code, exceptionTable := #[], attributes := #[] }
def k19m1 : Method := { name := "charAt", desc := "([BI)C", sig := { parameters := [(.array .byte), .int], returnType := some .char }, accessFlags := 9, code := some k19c1 }
/-- java/lang/StringLatin1 -/
def k19 : Class := { plain "java/lang/StringLatin1" (some 0) with
  accessFlags := 48
  interfaces := #[]
  cf := some (fileOf pool19 14 #[.nestMembers #[390, 221]] #[{ accessFlags := 0, nameIndex := 7, descriptorIndex := 8, attributes := #[] }, { accessFlags := 9, nameIndex := 252, descriptorIndex := 53, attributes := #[] }] 48 4 #[] #[{ accessFlags := 4120, nameIndex := 121, descriptorIndex := 122, attributes := #[] }])
  fields := #[{ name := "$assertionsDisabled", type := .boolean, accessFlags := 4120, slot := 0, constantValue := 0 }]
  methods := #[k19m0, k19m1]
  instanceTypes := #[]
  staticTypes := #[.boolean]
  resolved := Array.replicate 395 none
  statics := none }

def pool20 : Array CpInfo := pool [(9, u "<init>"), (6, .class_ 18), (1, u "java/lang/Object"), (0, u "()V"), (1, .class_ 23), (1, u "jdk/internal/util/ArraysSupport"), (0, u "LOG2_ARRAY_LONG_INDEX_SCALE"), (0, u "I"), (2, u "U"), (0, u "Ljdk/internal/misc/Unsafe;"), (8, u "BIG_ENDIAN"), (0, u "Z"), (8, u "LOG2_BYTE_BIT_SIZE"), (4, u "LOG2_ARRAY_INT_INDEX_SCALE"), (54, u "JLA"), (0, u "Ljdk/internal/access/JavaLangAccess;"), (11, u "LOG2_ARRAY_BOOLEAN_INDEX_SCALE"), (9, u "LOG2_ARRAY_BYTE_INDEX_SCALE"), (5, u "LOG2_ARRAY_CHAR_INDEX_SCALE"), (5, u "LOG2_ARRAY_SHORT_INDEX_SCALE"), (18, u "LOG2_ARRAY_FLOAT_INDEX_SCALE"), (24, u "LOG2_ARRAY_DOUBLE_INDEX_SCALE"), (89, u "T_BOOLEAN"), (2, u "T_CHAR"), (1, u "T_FLOAT"), (1, u "T_DOUBLE"), (1, u "T_BYTE"), (1, u "T_SHORT"), (1, u "T_INT"), (1, u "T_LONG"), (1, u "SOFT_MAX_ARRAY_LENGTH")] 83

def k20m0 : Method := { name := "<init>", desc := "()V", sig := { parameters := [], returnType := none }, accessFlags := 2, code := none }
/-- jdk/internal/util/ArraysSupport -/
def k20 : Class := { plain "jdk/internal/util/ArraysSupport" (some 0) with
  accessFlags := 33
  interfaces := #[]
  cf := some (fileOf pool20 21 #[] #[{ accessFlags := 2, nameIndex := 9, descriptorIndex := 19, attributes := #[] }] 33 16 #[] #[{ accessFlags := 24, nameIndex := 28, descriptorIndex := 29, attributes := #[] }, { accessFlags := 26, nameIndex := 38, descriptorIndex := 39, attributes := #[] }, { accessFlags := 25, nameIndex := 121, descriptorIndex := 25, attributes := #[] }, { accessFlags := 25, nameIndex := 131, descriptorIndex := 25, attributes := #[] }, { accessFlags := 25, nameIndex := 137, descriptorIndex := 25, attributes := #[] }, { accessFlags := 25, nameIndex := 143, descriptorIndex := 25, attributes := #[] }, { accessFlags := 25, nameIndex := 53, descriptorIndex := 25, attributes := #[] }, { accessFlags := 25, nameIndex := 24, descriptorIndex := 25, attributes := #[] }, { accessFlags := 25, nameIndex := 162, descriptorIndex := 25, attributes := #[] }, { accessFlags := 25, nameIndex := 187, descriptorIndex := 25, attributes := #[] }, { accessFlags := 26, nameIndex := 48, descriptorIndex := 25, attributes := #[] }, { accessFlags := 25, nameIndex := 277, descriptorIndex := 25, attributes := #[] }, { accessFlags := 25, nameIndex := 280, descriptorIndex := 25, attributes := #[] }, { accessFlags := 25, nameIndex := 282, descriptorIndex := 25, attributes := #[] }, { accessFlags := 25, nameIndex := 284, descriptorIndex := 25, attributes := #[] }, { accessFlags := 25, nameIndex := 286, descriptorIndex := 25, attributes := #[] }, { accessFlags := 25, nameIndex := 288, descriptorIndex := 25, attributes := #[] }, { accessFlags := 25, nameIndex := 290, descriptorIndex := 25, attributes := #[] }, { accessFlags := 25, nameIndex := 292, descriptorIndex := 25, attributes := #[] }, { accessFlags := 26, nameIndex := 108, descriptorIndex := 109, attributes := #[] }, { accessFlags := 25, nameIndex := 294, descriptorIndex := 25, attributes := #[] }])
  fields := #[{ name := "U", type := (.object "jdk/internal/misc/Unsafe"), accessFlags := 24, slot := 0, constantValue := 0 }, { name := "BIG_ENDIAN", type := .boolean, accessFlags := 26, slot := 1, constantValue := 0 }, { name := "LOG2_ARRAY_BOOLEAN_INDEX_SCALE", type := .int, accessFlags := 25, slot := 2, constantValue := 0 }, { name := "LOG2_ARRAY_BYTE_INDEX_SCALE", type := .int, accessFlags := 25, slot := 3, constantValue := 0 }, { name := "LOG2_ARRAY_CHAR_INDEX_SCALE", type := .int, accessFlags := 25, slot := 4, constantValue := 0 }, { name := "LOG2_ARRAY_SHORT_INDEX_SCALE", type := .int, accessFlags := 25, slot := 5, constantValue := 0 }, { name := "LOG2_ARRAY_INT_INDEX_SCALE", type := .int, accessFlags := 25, slot := 6, constantValue := 0 }, { name := "LOG2_ARRAY_LONG_INDEX_SCALE", type := .int, accessFlags := 25, slot := 7, constantValue := 0 }, { name := "LOG2_ARRAY_FLOAT_INDEX_SCALE", type := .int, accessFlags := 25, slot := 8, constantValue := 0 }, { name := "LOG2_ARRAY_DOUBLE_INDEX_SCALE", type := .int, accessFlags := 25, slot := 9, constantValue := 0 }, { name := "LOG2_BYTE_BIT_SIZE", type := .int, accessFlags := 26, slot := 10, constantValue := 0 }, { name := "T_BOOLEAN", type := .int, accessFlags := 25, slot := 11, constantValue := 0 }, { name := "T_CHAR", type := .int, accessFlags := 25, slot := 12, constantValue := 0 }, { name := "T_FLOAT", type := .int, accessFlags := 25, slot := 13, constantValue := 0 }, { name := "T_DOUBLE", type := .int, accessFlags := 25, slot := 14, constantValue := 0 }, { name := "T_BYTE", type := .int, accessFlags := 25, slot := 15, constantValue := 0 }, { name := "T_SHORT", type := .int, accessFlags := 25, slot := 16, constantValue := 0 }, { name := "T_INT", type := .int, accessFlags := 25, slot := 17, constantValue := 0 }, { name := "T_LONG", type := .int, accessFlags := 25, slot := 18, constantValue := 0 }, { name := "JLA", type := (.object "jdk/internal/access/JavaLangAccess"), accessFlags := 26, slot := 19, constantValue := 0 }, { name := "SOFT_MAX_ARRAY_LENGTH", type := .int, accessFlags := 25, slot := 20, constantValue := 0 }]
  methods := #[k20m0]
  instanceTypes := #[]
  staticTypes := #[(.object "jdk/internal/misc/Unsafe"), .boolean, .int, .int, .int, .int, .int, .int, .int, .int, .int, .int, .int, .int, .int, .int, .int, .int, .int, (.object "jdk/internal/access/JavaLangAccess"), .int]
  resolved := Array.replicate 378 none
  statics := none }

def pool21 : Array CpInfo := pool [(1, u "java/lang/Cloneable"), (0, .class_ 1), (0, u "java/lang/Object"), (0, .class_ 3)] 3

/-- java/lang/Cloneable -/
def k21 : Class := { plain "java/lang/Cloneable" (some 0) with
  accessFlags := 1537
  interfaces := #[]
  cf := some (fileOf pool21 2 #[] #[] 1537 4 #[] #[])
  fields := #[]
  methods := #[]
  instanceTypes := #[]
  staticTypes := #[]
  resolved := Array.replicate 8 none
  statics := none }

/-- the primitive byte -/
def k22 : Class := { plain "byte" none with kind := .primitive 'B', accessFlags := 0x411 }
/-- [B -/
def k23 : Class := { plain "[B" (some 0) with kind := .array 22 .byte, interfaces := #[21, 12], accessFlags := 1041 }

/-- the primitive char -/
def k24 : Class := { plain "char" none with kind := .primitive 'C', accessFlags := 0x411 }
/-- [C -/
def k25 : Class := { plain "[C" (some 0) with kind := .array 24 .char, interfaces := #[21, 12], accessFlags := 1041 }

/-- the primitive int -/
def k26 : Class := { plain "int" none with kind := .primitive 'I', accessFlags := 0x411 }
/-- [I -/
def k27 : Class := { plain "[I" (some 0) with kind := .array 26 .int, interfaces := #[21, 12], accessFlags := 1041 }

def heap : Heap := #[{ cls := 11, slots := #[.null, .null, .null], vm := .statics 11 },
  { cls := 17, slots := #[.long 0, .int 1, .null, .int 0, .null, .int 0, .int 0], vm := .statics 17 },
  { cls := 18, slots := #[.int 0, .int 8, .int 0, .int 1], vm := .statics 18 }]
def classes : Array Class := #[k0, k1, k2, k3, k4, k5, k6, k7, k8, k9, k10, k11, k12, k13, k14, k15, k16, k17, k18, k19, k20, k21, k22, k23, k24, k25, k26, k27]
def interned : List (Array UInt16 × Addr) := []
def slotsUsed : Nat := 14
def theMethod : MethodId := ⟨1, 1⟩
def args0 : Array Value := #[.long 281479271743489, .long 77, .int 2, .int 1, .int 1]
def aboutOver (below : List Frame) : State where
  vm := { classes := classes, interned := interned.toArray }
  heap := heap
  slotsUsed := slotsUsed
  threads := #[{ frames := .invoking theMethod args0 :: below }]
def below0 : List Frame := [.native { method := ⟨0, 0⟩, args := #[] }]
def about1 : State := aboutOver below0
def p0 : Program := .bare "" "" ""
def e0 : Env := launch0.env 0 0 0
theorem w_frames : about1.frames = Frame.invoking theMethod args0 :: below0 := rfl
set_option maxRecDepth 65536 in
theorem w_args : argsFit about1.vm theMethod args0 = true := by decide +kernel
set_option maxRecDepth 65536 in
theorem w_heap : heapFits about1 = true := by decide +kernel
set_option maxRecDepth 65536 in
theorem w_runnable : about1.curStatus? = some .runnable := by decide +kernel
set_option maxRecDepth 65536 in
theorem w_alone : about1.alone = true := by decide +kernel
set_option maxRecDepth 65536 in
theorem w_named : about1.methodNamed? x = some theMethod := by decide +kernel
set_option maxRecDepth 65536 in
theorem w_hears : about1.hears theMethod below0 = true := by decide +kernel
set_option maxRecDepth 65536 in
theorem w_ripe : about1.ripe theMethod args0 below0 = true := by decide +kernel
theorem w_running : about1.status = .running := rfl
set_option maxRecDepth 65536 in
theorem w_room : about1.hasRoom e0.platform room_1 = true :=
  launch0.hasRoom_least _ room_1 (by decide +kernel) (by decide +kernel) (by decide +kernel) (by decide +kernel) (by decide +kernel) (by decide +kernel)
theorem allAtoms_all (ts : List Jvm.Cond) (a : Array Jvm.Value) (st : Jvm.State) : (allAtoms ts).before a st = ts.all (fun c => c.before a st) := by
  induction ts with
  | nil => rfl
  | cons c t ih =>
    show (Jvm.Cond.and c (allAtoms t)).before a st = _
    rw [Jvm.Cond.before_and, ih, List.all_cons]
def words1 : List Jvm.Cond := Jvm.Cond.code x code maxLocals ret :: tables_1
/-- a 'code' word, met by the world's own term for the bytes: nothing is compared byte by byte -/
theorem code_word {y : MethodName} {bytes : ByteArray} {mx : Nat} {rt : Option FieldType} {a : Array Value} {s : State} {m : MethodId} {meth : Method} {c : Code} (h1 : s.methodNamed? y = some m) (h2 : s.vm.method? m = some meth) (h3 : meth.code = some c) (h4 : c.code = bytes)
    (h5 : (c.maxLocals == mx && c.exceptionTable.isEmpty && decide (c.maxStack ≤ mostOperands) && decide (meth.sig.returnType = rt) && !meth.locks && decide (parseMethodDescriptor y.desc = some meth.sig)) = true) : (Jvm.Cond.code y bytes mx rt).before a s = true := by
  simp only [Bool.and_eq_true, beq_iff_eq, Bool.not_eq_true', decide_eq_true_eq] at h5
  obtain ⟨⟨⟨⟨⟨g1, g2⟩, g3⟩, g4⟩, g5⟩, g6⟩ := h5
  simp [Cond.before, Cond.holds, Cond.value, h1, h2, h3, h4, g1, g2, g3, g4, g5, g6]
def isCode : Jvm.Cond → Bool
  | .code _ _ _ _ => true
  | _ => false
theorem all_split {L : List Jvm.Cond} {P : Jvm.Cond → Bool} (h1 : L.all (fun c => isCode c || P c) = true) (h2 : ∀ c ∈ L.filter isCode, P c = true) : L.all P = true := by
  refine List.all_eq_true.mpr fun c hc => ?_
  have h := List.all_eq_true.mp h1 c hc
  rcases Bool.eq_false_or_eq_true (isCode c) with hi | hi
  · exact h2 c (List.mem_filter.mpr ⟨hc, hi⟩)
  · simpa [hi] using h
set_option maxRecDepth 65536 in
theorem w_c0 : (Jvm.Cond.code x code maxLocals ret).before args0 about1 = true := code_word (m := ⟨1, 1⟩) (meth := k1m1) (c := k1c1) (by decide +kernel) rfl rfl rfl (by decide +kernel)
set_option maxRecDepth 65536 in
theorem w_c1 : (Jvm.Cond.code ({ cls := "com/example/rungwise/rungwise/formats/CsvRecord", name := "<init>", desc := "([C[IZ)V" } : Jvm.MethodName) prog_30_method_1_code (4 : Nat) (Option.none : Option Jvm.ClassFile.FieldType)).before args0 about1 = true := code_word (m := ⟨9, 0⟩) (meth := k9m0) (c := k9c0) (by decide +kernel) rfl rfl rfl (by decide +kernel)
set_option maxRecDepth 65536 in
theorem w_c2 : (Jvm.Cond.code ({ cls := "java/util/AbstractList", name := "<init>", desc := "()V" } : Jvm.MethodName) jdk_39_method_1_code (1 : Nat) (Option.none : Option Jvm.ClassFile.FieldType)).before args0 about1 = true := code_word (m := ⟨7, 0⟩) (meth := k7m0) (c := k7c0) (by decide +kernel) rfl rfl rfl (by decide +kernel)
set_option maxRecDepth 65536 in
theorem w_c3 : (Jvm.Cond.code ({ cls := "java/util/AbstractCollection", name := "<init>", desc := "()V" } : Jvm.MethodName) jdk_22_method_1_code (1 : Nat) (Option.none : Option Jvm.ClassFile.FieldType)).before args0 about1 = true := code_word (m := ⟨4, 0⟩) (meth := k4m0) (c := k4c0) (by decide +kernel) rfl rfl rfl (by decide +kernel)
set_option maxRecDepth 65536 in
theorem w_c4 : (Jvm.Cond.code ({ cls := "java/lang/Object", name := "<init>", desc := "()V" } : Jvm.MethodName) object_method_1_code (1 : Nat) (Option.none : Option Jvm.ClassFile.FieldType)).before args0 about1 = true := code_word (m := ⟨0, 0⟩) (meth := k0m0) (c := k0c0) (by decide +kernel) rfl rfl rfl (by decide +kernel)
set_option maxRecDepth 65536 in
theorem w_c5 : (Jvm.Cond.code ({ cls := "com/example/rungwise/rungwise/formats/CsvRecord", name := "get", desc := "(I)Ljava/lang/String;" } : Jvm.MethodName) prog_30_method_2_code (3 : Nat) (Option.some (Jvm.ClassFile.FieldType.object "java/lang/String"))).before args0 about1 = true := code_word (m := ⟨9, 1⟩) (meth := k9m1) (c := k9c1) (by decide +kernel) rfl rfl rfl (by decide +kernel)
set_option maxRecDepth 65536 in
theorem w_c6 : (Jvm.Cond.code ({ cls := "java/util/Objects", name := "checkIndex", desc := "(II)I" } : Jvm.MethodName) jdk_31_method_17_code (2 : Nat) (Option.some Jvm.ClassFile.FieldType.int)).before args0 about1 = true := code_word (m := ⟨10, 1⟩) (meth := k10m1) (c := k10c1) (by decide +kernel) rfl rfl rfl (by decide +kernel)
set_option maxRecDepth 65536 in
theorem w_c7 : (Jvm.Cond.code ({ cls := "jdk/internal/util/Preconditions", name := "checkIndex", desc := "(IILjava/util/function/BiFunction;)I" } : Jvm.MethodName) jdk_41_method_11_code (3 : Nat) (Option.some Jvm.ClassFile.FieldType.int)).before args0 about1 = true := code_word (m := ⟨11, 1⟩) (meth := k11m1) (c := k11c1) (by decide +kernel) rfl rfl rfl (by decide +kernel)
set_option maxRecDepth 65536 in
theorem w_c8 : (Jvm.Cond.code ({ cls := "java/lang/String", name := "<init>", desc := "([CII)V" } : Jvm.MethodName) jdk_42_method_4_code (4 : Nat) (Option.none : Option Jvm.ClassFile.FieldType)).before args0 about1 = true := code_word (m := ⟨17, 1⟩) (meth := k17m1) (c := k17c1) (by decide +kernel) rfl rfl rfl (by decide +kernel)
set_option maxRecDepth 65536 in
theorem w_c9 : (Jvm.Cond.code ({ cls := "java/lang/String", name := "rangeCheck", desc := "([CII)Ljava/lang/Void;" } : Jvm.MethodName) jdk_42_method_5_code (3 : Nat) (Option.some (Jvm.ClassFile.FieldType.object "java/lang/Void"))).before args0 about1 = true := code_word (m := ⟨17, 2⟩) (meth := k17m2) (c := k17c2) (by decide +kernel) rfl rfl rfl (by decide +kernel)
set_option maxRecDepth 65536 in
theorem w_c10 : (Jvm.Cond.code ({ cls := "java/lang/String", name := "checkBoundsOffCount", desc := "(III)I" } : Jvm.MethodName) jdk_42_method_157_code (3 : Nat) (Option.some Jvm.ClassFile.FieldType.int)).before args0 about1 = true := code_word (m := ⟨17, 9⟩) (meth := k17m9) (c := k17c9) (by decide +kernel) rfl rfl rfl (by decide +kernel)
set_option maxRecDepth 65536 in
theorem w_c11 : (Jvm.Cond.code ({ cls := "jdk/internal/util/Preconditions", name := "checkFromIndexSize", desc := "(IIILjava/util/function/BiFunction;)I" } : Jvm.MethodName) jdk_41_method_13_code (4 : Nat) (Option.some Jvm.ClassFile.FieldType.int)).before args0 about1 = true := code_word (m := ⟨11, 2⟩) (meth := k11m2) (c := k11c2) (by decide +kernel) rfl rfl rfl (by decide +kernel)
set_option maxRecDepth 65536 in
theorem w_c12 : (Jvm.Cond.code ({ cls := "java/lang/String", name := "<init>", desc := "([CIILjava/lang/Void;)V" } : Jvm.MethodName) jdk_42_method_149_code (6 : Nat) (Option.none : Option Jvm.ClassFile.FieldType)).before args0 about1 = true := code_word (m := ⟨17, 5⟩) (meth := k17m5) (c := k17c5) (by decide +kernel) rfl rfl rfl (by decide +kernel)
set_option maxRecDepth 65536 in
theorem w_c13 : (Jvm.Cond.code ({ cls := "java/lang/String", name := "length", desc := "()I" } : Jvm.MethodName) jdk_42_method_54_code (1 : Nat) (Option.some Jvm.ClassFile.FieldType.int)).before args0 about1 = true := code_word (m := ⟨17, 3⟩) (meth := k17m3) (c := k17c3) (by decide +kernel) rfl rfl rfl (by decide +kernel)
set_option maxRecDepth 65536 in
theorem w_c14 : (Jvm.Cond.code ({ cls := "java/lang/String", name := "coder", desc := "()B" } : Jvm.MethodName) jdk_42_method_152_code (1 : Nat) (Option.some Jvm.ClassFile.FieldType.byte)).before args0 about1 = true := code_word (m := ⟨17, 6⟩) (meth := k17m6) (c := k17c6) (by decide +kernel) rfl rfl rfl (by decide +kernel)
set_option maxRecDepth 65536 in
theorem w_c15 : (Jvm.Cond.code ({ cls := "java/lang/StringUTF16", name := "compress", desc := "([CII)[B" } : Jvm.MethodName) jdk_52_method_16_code (6 : Nat) (Option.some (Jvm.ClassFile.FieldType.array Jvm.ClassFile.FieldType.byte))).before args0 about1 = true := code_word (m := ⟨18, 8⟩) (meth := k18m8) (c := k18c8) (by decide +kernel) rfl rfl rfl (by decide +kernel)
set_option maxRecDepth 65536 in
theorem w_c16 : (Jvm.Cond.code ({ cls := "java/lang/StringUTF16", name := "compress", desc := "([CI[BII)I" } : Jvm.MethodName) jdk_52_method_21_code (7 : Nat) (Option.some Jvm.ClassFile.FieldType.int)).before args0 about1 = true := code_word (m := ⟨18, 9⟩) (meth := k18m9) (c := k18c9) (by decide +kernel) rfl rfl rfl (by decide +kernel)
set_option maxRecDepth 65536 in
theorem w_c17 : (Jvm.Cond.code ({ cls := "java/lang/StringUTF16", name := "toBytes", desc := "([CII)[B" } : Jvm.MethodName) jdk_52_method_14_code (5 : Nat) (Option.some (Jvm.ClassFile.FieldType.array Jvm.ClassFile.FieldType.byte))).before args0 about1 = true := code_word (m := ⟨18, 6⟩) (meth := k18m6) (c := k18c6) (by decide +kernel) rfl rfl rfl (by decide +kernel)
set_option maxRecDepth 65536 in
theorem w_c18 : (Jvm.Cond.code ({ cls := "java/lang/StringUTF16", name := "newBytesFor", desc := "(I)[B" } : Jvm.MethodName) jdk_52_method_2_code (1 : Nat) (Option.some (Jvm.ClassFile.FieldType.array Jvm.ClassFile.FieldType.byte))).before args0 about1 = true := code_word (m := ⟨18, 1⟩) (meth := k18m1) (c := k18c1) (by decide +kernel) rfl rfl rfl (by decide +kernel)
set_option maxRecDepth 65536 in
theorem w_c19 : (Jvm.Cond.code ({ cls := "java/lang/StringUTF16", name := "newBytesLength", desc := "(I)I" } : Jvm.MethodName) jdk_52_method_3_code (1 : Nat) (Option.some Jvm.ClassFile.FieldType.int)).before args0 about1 = true := code_word (m := ⟨18, 2⟩) (meth := k18m2) (c := k18c2) (by decide +kernel) rfl rfl rfl (by decide +kernel)
set_option maxRecDepth 65536 in
theorem w_c20 : (Jvm.Cond.code ({ cls := "java/lang/StringUTF16", name := "putChar", desc := "([BII)V" } : Jvm.MethodName) jdk_52_method_4_code (3 : Nat) (Option.none : Option Jvm.ClassFile.FieldType)).before args0 about1 = true := code_word (m := ⟨18, 3⟩) (meth := k18m3) (c := k18c3) (by decide +kernel) rfl rfl rfl (by decide +kernel)
set_option maxRecDepth 65536 in
theorem w_c21 : (Jvm.Cond.code ({ cls := "java/lang/StringUTF16", name := "getChar", desc := "([BI)C" } : Jvm.MethodName) jdk_52_method_5_code (2 : Nat) (Option.some Jvm.ClassFile.FieldType.char)).before args0 about1 = true := code_word (m := ⟨18, 4⟩) (meth := k18m4) (c := k18c4) (by decide +kernel) rfl rfl rfl (by decide +kernel)
set_option maxRecDepth 65536 in
theorem w_c22 : (Jvm.Cond.code ({ cls := "java/lang/StringUTF16", name := "coderFromArrayLen", desc := "([BI)B" } : Jvm.MethodName) jdk_52_method_15_code (2 : Nat) (Option.some Jvm.ClassFile.FieldType.byte)).before args0 about1 = true := code_word (m := ⟨18, 7⟩) (meth := k18m7) (c := k18c7) (by decide +kernel) rfl rfl rfl (by decide +kernel)
set_option maxRecDepth 65536 in
theorem w_c23 : (Jvm.Cond.code ({ cls := "java/lang/String", name := "charAt", desc := "(I)C" } : Jvm.MethodName) jdk_42_method_56_code (2 : Nat) (Option.some Jvm.ClassFile.FieldType.char)).before args0 about1 = true := code_word (m := ⟨17, 4⟩) (meth := k17m4) (c := k17c4) (by decide +kernel) rfl rfl rfl (by decide +kernel)
set_option maxRecDepth 65536 in
theorem w_c24 : (Jvm.Cond.code ({ cls := "java/lang/String", name := "isLatin1", desc := "()Z" } : Jvm.MethodName) jdk_42_method_154_code (1 : Nat) (Option.some Jvm.ClassFile.FieldType.boolean)).before args0 about1 = true := code_word (m := ⟨17, 7⟩) (meth := k17m7) (c := k17c7) (by decide +kernel) rfl rfl rfl (by decide +kernel)
set_option maxRecDepth 65536 in
theorem w_c25 : (Jvm.Cond.code ({ cls := "java/lang/StringUTF16", name := "charAt", desc := "([BI)C" } : Jvm.MethodName) jdk_52_method_83_code (2 : Nat) (Option.some Jvm.ClassFile.FieldType.char)).before args0 about1 = true := code_word (m := ⟨18, 10⟩) (meth := k18m10) (c := k18c10) (by decide +kernel) rfl rfl rfl (by decide +kernel)
set_option maxRecDepth 65536 in
theorem w_c26 : (Jvm.Cond.code ({ cls := "java/lang/StringUTF16", name := "checkIndex", desc := "(I[B)V" } : Jvm.MethodName) jdk_52_method_91_code (2 : Nat) (Option.none : Option Jvm.ClassFile.FieldType)).before args0 about1 = true := code_word (m := ⟨18, 11⟩) (meth := k18m11) (c := k18c11) (by decide +kernel) rfl rfl rfl (by decide +kernel)
set_option maxRecDepth 65536 in
theorem w_c27 : (Jvm.Cond.code ({ cls := "java/lang/StringUTF16", name := "length", desc := "([B)I" } : Jvm.MethodName) jdk_52_method_6_code (1 : Nat) (Option.some Jvm.ClassFile.FieldType.int)).before args0 about1 = true := code_word (m := ⟨18, 5⟩) (meth := k18m5) (c := k18c5) (by decide +kernel) rfl rfl rfl (by decide +kernel)
set_option maxRecDepth 65536 in
theorem w_c28 : (Jvm.Cond.code ({ cls := "java/lang/String", name := "checkIndex", desc := "(II)V" } : Jvm.MethodName) jdk_42_method_155_code (2 : Nat) (Option.none : Option Jvm.ClassFile.FieldType)).before args0 about1 = true := code_word (m := ⟨17, 8⟩) (meth := k17m8) (c := k17c8) (by decide +kernel) rfl rfl rfl (by decide +kernel)
set_option maxRecDepth 65536 in
theorem w_c29 : (Jvm.Cond.code ({ cls := "java/lang/StringLatin1", name := "charAt", desc := "([BI)C" } : Jvm.MethodName) jdk_43_method_2_code (2 : Nat) (Option.some Jvm.ClassFile.FieldType.char)).before args0 about1 = true := code_word (m := ⟨19, 1⟩) (meth := k19m1) (c := k19c1) (by decide +kernel) rfl rfl rfl (by decide +kernel)
def codes1 : List Jvm.Cond := [Jvm.Cond.code x code maxLocals ret, Jvm.Cond.code ({ cls := "com/example/rungwise/rungwise/formats/CsvRecord", name := "<init>", desc := "([C[IZ)V" } : Jvm.MethodName) prog_30_method_1_code (4 : Nat) (Option.none : Option Jvm.ClassFile.FieldType), Jvm.Cond.code ({ cls := "java/util/AbstractList", name := "<init>", desc := "()V" } : Jvm.MethodName) jdk_39_method_1_code (1 : Nat) (Option.none : Option Jvm.ClassFile.FieldType), Jvm.Cond.code ({ cls := "java/util/AbstractCollection", name := "<init>", desc := "()V" } : Jvm.MethodName) jdk_22_method_1_code (1 : Nat) (Option.none : Option Jvm.ClassFile.FieldType), Jvm.Cond.code ({ cls := "java/lang/Object", name := "<init>", desc := "()V" } : Jvm.MethodName) object_method_1_code (1 : Nat) (Option.none : Option Jvm.ClassFile.FieldType), Jvm.Cond.code ({ cls := "com/example/rungwise/rungwise/formats/CsvRecord", name := "get", desc := "(I)Ljava/lang/String;" } : Jvm.MethodName) prog_30_method_2_code (3 : Nat) (Option.some (Jvm.ClassFile.FieldType.object "java/lang/String")), Jvm.Cond.code ({ cls := "java/util/Objects", name := "checkIndex", desc := "(II)I" } : Jvm.MethodName) jdk_31_method_17_code (2 : Nat) (Option.some Jvm.ClassFile.FieldType.int), Jvm.Cond.code ({ cls := "jdk/internal/util/Preconditions", name := "checkIndex", desc := "(IILjava/util/function/BiFunction;)I" } : Jvm.MethodName) jdk_41_method_11_code (3 : Nat) (Option.some Jvm.ClassFile.FieldType.int), Jvm.Cond.code ({ cls := "java/lang/String", name := "<init>", desc := "([CII)V" } : Jvm.MethodName) jdk_42_method_4_code (4 : Nat) (Option.none : Option Jvm.ClassFile.FieldType), Jvm.Cond.code ({ cls := "java/lang/String", name := "rangeCheck", desc := "([CII)Ljava/lang/Void;" } : Jvm.MethodName) jdk_42_method_5_code (3 : Nat) (Option.some (Jvm.ClassFile.FieldType.object "java/lang/Void")), Jvm.Cond.code ({ cls := "java/lang/String", name := "checkBoundsOffCount", desc := "(III)I" } : Jvm.MethodName) jdk_42_method_157_code (3 : Nat) (Option.some Jvm.ClassFile.FieldType.int), Jvm.Cond.code ({ cls := "jdk/internal/util/Preconditions", name := "checkFromIndexSize", desc := "(IIILjava/util/function/BiFunction;)I" } : Jvm.MethodName) jdk_41_method_13_code (4 : Nat) (Option.some Jvm.ClassFile.FieldType.int), Jvm.Cond.code ({ cls := "java/lang/String", name := "<init>", desc := "([CIILjava/lang/Void;)V" } : Jvm.MethodName) jdk_42_method_149_code (6 : Nat) (Option.none : Option Jvm.ClassFile.FieldType), Jvm.Cond.code ({ cls := "java/lang/String", name := "length", desc := "()I" } : Jvm.MethodName) jdk_42_method_54_code (1 : Nat) (Option.some Jvm.ClassFile.FieldType.int), Jvm.Cond.code ({ cls := "java/lang/String", name := "coder", desc := "()B" } : Jvm.MethodName) jdk_42_method_152_code (1 : Nat) (Option.some Jvm.ClassFile.FieldType.byte), Jvm.Cond.code ({ cls := "java/lang/StringUTF16", name := "compress", desc := "([CII)[B" } : Jvm.MethodName) jdk_52_method_16_code (6 : Nat) (Option.some (Jvm.ClassFile.FieldType.array Jvm.ClassFile.FieldType.byte)), Jvm.Cond.code ({ cls := "java/lang/StringUTF16", name := "compress", desc := "([CI[BII)I" } : Jvm.MethodName) jdk_52_method_21_code (7 : Nat) (Option.some Jvm.ClassFile.FieldType.int), Jvm.Cond.code ({ cls := "java/lang/StringUTF16", name := "toBytes", desc := "([CII)[B" } : Jvm.MethodName) jdk_52_method_14_code (5 : Nat) (Option.some (Jvm.ClassFile.FieldType.array Jvm.ClassFile.FieldType.byte)), Jvm.Cond.code ({ cls := "java/lang/StringUTF16", name := "newBytesFor", desc := "(I)[B" } : Jvm.MethodName) jdk_52_method_2_code (1 : Nat) (Option.some (Jvm.ClassFile.FieldType.array Jvm.ClassFile.FieldType.byte)), Jvm.Cond.code ({ cls := "java/lang/StringUTF16", name := "newBytesLength", desc := "(I)I" } : Jvm.MethodName) jdk_52_method_3_code (1 : Nat) (Option.some Jvm.ClassFile.FieldType.int), Jvm.Cond.code ({ cls := "java/lang/StringUTF16", name := "putChar", desc := "([BII)V" } : Jvm.MethodName) jdk_52_method_4_code (3 : Nat) (Option.none : Option Jvm.ClassFile.FieldType), Jvm.Cond.code ({ cls := "java/lang/StringUTF16", name := "getChar", desc := "([BI)C" } : Jvm.MethodName) jdk_52_method_5_code (2 : Nat) (Option.some Jvm.ClassFile.FieldType.char), Jvm.Cond.code ({ cls := "java/lang/StringUTF16", name := "coderFromArrayLen", desc := "([BI)B" } : Jvm.MethodName) jdk_52_method_15_code (2 : Nat) (Option.some Jvm.ClassFile.FieldType.byte), Jvm.Cond.code ({ cls := "java/lang/String", name := "charAt", desc := "(I)C" } : Jvm.MethodName) jdk_42_method_56_code (2 : Nat) (Option.some Jvm.ClassFile.FieldType.char), Jvm.Cond.code ({ cls := "java/lang/String", name := "isLatin1", desc := "()Z" } : Jvm.MethodName) jdk_42_method_154_code (1 : Nat) (Option.some Jvm.ClassFile.FieldType.boolean), Jvm.Cond.code ({ cls := "java/lang/StringUTF16", name := "charAt", desc := "([BI)C" } : Jvm.MethodName) jdk_52_method_83_code (2 : Nat) (Option.some Jvm.ClassFile.FieldType.char), Jvm.Cond.code ({ cls := "java/lang/StringUTF16", name := "checkIndex", desc := "(I[B)V" } : Jvm.MethodName) jdk_52_method_91_code (2 : Nat) (Option.none : Option Jvm.ClassFile.FieldType), Jvm.Cond.code ({ cls := "java/lang/StringUTF16", name := "length", desc := "([B)I" } : Jvm.MethodName) jdk_52_method_6_code (1 : Nat) (Option.some Jvm.ClassFile.FieldType.int), Jvm.Cond.code ({ cls := "java/lang/String", name := "checkIndex", desc := "(II)V" } : Jvm.MethodName) jdk_42_method_155_code (2 : Nat) (Option.none : Option Jvm.ClassFile.FieldType), Jvm.Cond.code ({ cls := "java/lang/StringLatin1", name := "charAt", desc := "([BI)C" } : Jvm.MethodName) jdk_43_method_2_code (2 : Nat) (Option.some Jvm.ClassFile.FieldType.char)]
set_option maxRecDepth 65536 in
theorem codes_eq : words1.filter isCode = codes1 := rfl
theorem w_codes : ∀ c ∈ words1.filter isCode, c.before args0 about1 = true := by
  rw [codes_eq]
  intro c hc
  simp only [codes1, List.mem_cons, List.not_mem_nil, or_false] at hc
  rcases hc with rfl | rfl | rfl | rfl | rfl | rfl | rfl | rfl | rfl | rfl | rfl | rfl | rfl | rfl | rfl | rfl | rfl | rfl | rfl | rfl | rfl | rfl | rfl | rfl | rfl | rfl | rfl | rfl | rfl | rfl
  · exact w_c0
  · exact w_c1
  · exact w_c2
  · exact w_c3
  · exact w_c4
  · exact w_c5
  · exact w_c6
  · exact w_c7
  · exact w_c8
  · exact w_c9
  · exact w_c10
  · exact w_c11
  · exact w_c12
  · exact w_c13
  · exact w_c14
  · exact w_c15
  · exact w_c16
  · exact w_c17
  · exact w_c18
  · exact w_c19
  · exact w_c20
  · exact w_c21
  · exact w_c22
  · exact w_c23
  · exact w_c24
  · exact w_c25
  · exact w_c26
  · exact w_c27
  · exact w_c28
  · exact w_c29
set_option maxRecDepth 65536 in
theorem w_t1 : (words1.take 24).all (fun c => isCode c || c.before args0 about1) = true := by decide +kernel
set_option maxRecDepth 65536 in
theorem w_t2 : ((words1.drop 24).take 24).all (fun c => isCode c || c.before args0 about1) = true := by decide +kernel
set_option maxRecDepth 65536 in
theorem w_t3 : (((words1.drop 24).drop 24).take 24).all (fun c => isCode c || c.before args0 about1) = true := by decide +kernel
set_option maxRecDepth 65536 in
theorem w_t4 : ((((words1.drop 24).drop 24).drop 24).take 24).all (fun c => isCode c || c.before args0 about1) = true := by decide +kernel
set_option maxRecDepth 65536 in
theorem w_t5 : (((((words1.drop 24).drop 24).drop 24).drop 24).take 24).all (fun c => isCode c || c.before args0 about1) = true := by decide +kernel
set_option maxRecDepth 65536 in
theorem w_t6 : (((((words1.drop 24).drop 24).drop 24).drop 24).drop 24).all (fun c => isCode c || c.before args0 about1) = true := by decide +kernel
theorem w_tables : (allAtoms (Jvm.Cond.code x code maxLocals ret :: tables_1)).before args0 about1 = true := by
  rw [allAtoms_all]
  show words1.all (fun c => c.before args0 about1) = true
  refine all_split ?_ w_codes
  rw [← List.take_append_drop 24 words1, List.all_append, w_t1, ← List.take_append_drop 24 (words1.drop 24), List.all_append, w_t2, ← List.take_append_drop 24 ((words1.drop 24).drop 24), List.all_append, w_t3, ← List.take_append_drop 24 (((words1.drop 24).drop 24).drop 24), List.all_append, w_t4, ← List.take_append_drop 24 ((((words1.drop 24).drop 24).drop 24).drop 24), List.all_append, w_t5, w_t6]
  rfl
set_option maxRecDepth 65536 in
theorem w_rest : rest_1_c.before args0 about1 = true := by decide +kernel
set_option maxRecDepth 65536 in
theorem w_case : (Jvm.Cond.and given_1 narrow_1).before args0 about1 = true := by decide +kernel
set_option maxRecDepth 65536 in
theorem w_consts : constsHeld consts_1 about1 := Jvm.Lit.constsHeldB_iff.mp (by decide +kernel)
theorem w_applies : (headSpec (Jvm.Cond.code x code maxLocals ret :: tables_1) room_1).applies x e0.platform about1 = true :=
  (Spec.applies_iff w_frames).mpr ⟨w_running, w_runnable, w_alone, w_named, w_hears, w_ripe, w_room, w_tables⟩
theorem atStart : AtStart classFile x code maxLocals ret World_1 tables_1 room_1 Calls_1 rest_1 Pre_1 launch0 p0 e0 about1 theMethod args0 below0 :=
  ⟨lists_1, trivial, launch0.admits_env _ _ _, launch0.least_env, fairChoices_fair.cas, fairChoices_fair.clock, w_frames, w_args, w_heap, w_applies, ⟨w_consts, trivial⟩, w_rest, w_case⟩
end start1
theorem witness_1 : WitnessClaimed_1 := ⟨start1.p0, start1.e0, start1.about1, start1.theMethod, start1.args0, start1.below0, start1.atStart⟩
end Jvm.Pilot.@@N@@
