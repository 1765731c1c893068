import JvmDerived
import JvmDerived.Pilot.@@N@@Statement
import JvmDerived.Pilot.@@N@@Code
set_option linter.unusedVariables false
set_option linter.unusedSimpArgs false
namespace Jvm.RoadKit
open Sem ClassFile Op Lib Jvm.Stand Jvm.Free Jvm.LawKit
section New
variable {p : Program} {l : Launch} {e : Env} {R : Room} {s : State} {m : MethodId} {args : Array Value} {below : List Frame} {meth : Method} {c : Code} {T : State} {locs : List Loc} {cells slots : Nat}
theorem retI (X : Stand p l e R s m args below meth c T locs cells slots) (hx : p.tables.exec = Jvm.exec) {pc : Nat} {Ls : Array Slot} {z : Int32} {rest : List Value} (hret : meth.sig.returnType = some .int) (hd : decode c.code pc = .ok (.ireturn, 1)) {fs : List Frame}
    (hl : ∀ (f : JFrame) (acts : List Action), f.method = m → f.locked = none → f.entered = [] → (doReturn e (T.setTop f) acts (some (.int z))).1 = T.setFrames fs) : Steps p.tables e below (T.setTop (mkF m pc Ls (.int z :: rest))) (T.setFrames fs) := by
  have hm' : T.vm.method? m = some meth := X.method'
  have hn : narrow .int (.int z) = .int z := rfl
  show Steps p.tables e below (T.setTop { method := m, pc := pc, locals := Ls, stack := _ :: rest, locked := none }) _
  jvm_step X.here [X.here.top, hx, hd, hm', hret, hn]
  first | (intro acts; rw [hl _ acts rfl rfl rfl]) | rw [hl _ _ rfl rfl rfl]
  exact Steps.refl _
end New
end Jvm.RoadKit
namespace Jvm.Pilot.@@N@@
open Jvm Jvm.ClassFile Sem Op Lib Jvm.Free Jvm.Stand Jvm.LawKit Jvm.RoadKit Bundle Jvm.Pilot.@@N@@.Jvm.D
theorem own_narb {r : Int32} (h : r = (0 : Int32) ∨ r = (1 : Int32)) : nar .boolean r = r := by rcases h with rfl | rfl <;> decide
theorem own_ag1 (x : Int32) : ¬ (x = x + (1 : Int32)) := fun q => by
  have h1 := c_iadd x 1
  have h2 := congrArg Int32.toInt q
  rw [show (1 : Int32).toInt = 1 by decide] at h1; omega
theorem own_x {p x : Int32} (h : x = ((p &&& (1023 : Int32)) + (1 : Int32))) : x + (1 : Int32) ≠ 0 ∧ 1 ≤ x.toInt ∧ x.toInt ≤ 1024 := by
  have h1 := c_mask p 1023 10 (by decide) (by decide)
  have h2 := c_iadd (p &&& (1023 : Int32)) 1
  have h3 := rng32 x
  rw [← h, show (1 : Int32).toInt = 1 by decide] at h2
  have h4 := c_iadd x 1
  rw [show (1 : Int32).toInt = 1 by decide] at h4
  refine ⟨fun q => ?_, by omega, by omega⟩
  rw [q, show (0 : Int32).toInt = 0 by decide] at h4; omega
theorem own_t {p x t : Int32} (a : 1 ≤ x.toInt) (b : x.toInt ≤ 1024) (h : t = ((p &&& (2147483647 : Int32)) % (x + (1 : Int32)))) : 0 ≤ t.toInt ∧ t.toInt ≤ x.toInt := by
  have h1 := c_mask p 2147483647 31 (by decide) (by decide)
  have h4 := c_iadd x 1
  have h5 := rng32 (x + 1)
  rw [show (1 : Int32).toInt = 1 by decide] at h4
  have h6 := (c_iremV (p &&& (2147483647 : Int32)) (x + 1)).1 (by omega) (by omega)
  rw [← h] at h6; omega
section OwnFp
open Jvm.FP Jvm.Free.Fl
theorem own_b {x : Int32} : B53 x.toInt64 := by
  have := rng32 x
  have := c_i2l x
  exact ⟨by omega, by omega⟩
theorem own_add (x y : Int32) (h1 : -2147483648 ≤ x.toInt + y.toInt) (h2 : x.toInt + y.toInt < 2147483648) : FP.dadd (FP.i2d x) (FP.i2d y) = FP.i2d (x + y) := by
  rw [i2d_w, i2d_w, i2d_w, dadd_w own_b own_b]
  congr 1
  refine Int64.toInt_inj.mp ?_
  have a := c_i2l x
  have b := c_i2l y
  have c := c_i2l (x + y)
  have d := c_iadd x y
  have r := rng32 (x + y)
  have e := c_ladd x.toInt64 y.toInt64
  have q := rng64 (x.toInt64 + y.toInt64)
  omega
theorem own_sub (x y : Int32) (h1 : -2147483648 ≤ x.toInt - y.toInt) (h2 : x.toInt - y.toInt < 2147483648) : FP.dsub (FP.i2d x) (FP.i2d y) = FP.i2d (x - y) := by
  rw [i2d_w, i2d_w, i2d_w, dsub_w own_b own_b]
  congr 1
  refine Int64.toInt_inj.mp ?_
  have a := c_i2l x
  have b := c_i2l y
  have c := c_i2l (x - y)
  have d := c_isub x y
  have r := rng32 (x - y)
  have e := c_lsub x.toInt64 y.toInt64
  have q := rng64 (x.toInt64 - y.toInt64)
  omega
theorem own_nn (x : Int32) : NoNaN64 (FP.i2d x) := nn_w (i2d_w x)
theorem own_ceq (x : Int32) : cmpValue (FP.dcmp (FP.i2d x) (FP.i2d x)) .l = (0 : Int32) := dcmpV_self (own_nn x) .l
theorem own_z0 : (0 : UInt64) = FP.i2d 0 := by decide +kernel
theorem own_z {x : Int32} (a : 1 ≤ x.toInt) (b : x.toInt ≤ 1024) : FP.dadd (0 : UInt64) (FP.i2d x) = FP.i2d x := by
  rw [own_z0, own_add 0 x (by rw [show (0 : Int32).toInt = 0 by decide]; omega) (by rw [show (0 : Int32).toInt = 0 by decide]; omega), Int32.zero_add]
theorem own_nn0 {x : Int32} (a : 1 ≤ x.toInt) (b : x.toInt ≤ 1024) : NoNaN64 (FP.dadd (0 : UInt64) (FP.i2d x)) := by rw [own_z a b]; exact own_nn x
theorem own_full {t x : Int32} (h : t = x) : ¬ ((cmpValue (FP.dcmp (FP.i2d t) (FP.i2d x)) .l) < (0 : Int32)) := by subst h; rw [own_ceq]; decide
theorem own_part {t x : Int32} (h0 : 0 ≤ t.toInt) (h1 : t.toInt ≤ x.toInt) (b : x.toInt ≤ 1024) (h : ¬ (t = x)) : (cmpValue (FP.dcmp (FP.i2d t) (FP.i2d x)) .l) < (0 : Int32) := by
  have : t.toInt ≠ x.toInt := fun q => h (Int32.toInt_inj.mp q)
  rw [i2d_w, i2d_w, dcmpV_w own_b own_b]
  refine (lw_lt _ _).mpr ?_
  rw [Int64.lt_iff_toInt_lt, c_i2l, c_i2l]; omega
theorem own_sub1 {x t : Int32} (a : 1 ≤ x.toInt) (b : x.toInt ≤ 1024) (h0 : 0 ≤ t.toInt) (h1 : t.toInt ≤ x.toInt) : FP.dsub (FP.i2d x) (FP.i2d t) = FP.i2d (x - t) := own_sub x t (by omega) (by omega)
theorem own_nns {x t : Int32} (a : 1 ≤ x.toInt) (b : x.toInt ≤ 1024) (h0 : 0 ≤ t.toInt) (h1 : t.toInt ≤ x.toInt) : NoNaN64 (FP.dsub (FP.i2d x) (FP.i2d t)) := by rw [own_sub1 a b h0 h1]; exact own_nn _
theorem own_sum {x y : Int32} (a : 1 ≤ x.toInt) (b : x.toInt ≤ 1024) (a' : 1 ≤ y.toInt) (b' : y.toInt ≤ 1024) : (x + y).toInt = x.toInt + y.toInt := by
  have d := c_iadd x y
  have r := rng32 (x + y)
  omega
theorem own_add2 {x y : Int32} (a : 1 ≤ x.toInt) (b : x.toInt ≤ 1024) (a' : 1 ≤ y.toInt) (b' : y.toInt ≤ 1024) : FP.dadd (FP.i2d x) (FP.i2d y) = FP.i2d (x + y) := own_add x y (by omega) (by omega)
theorem own_nna {x y : Int32} (a : 1 ≤ x.toInt) (b : x.toInt ≤ 1024) (a' : 1 ≤ y.toInt) (b' : y.toInt ≤ 1024) : NoNaN64 (FP.dadd (FP.i2d x) (FP.i2d y)) := by rw [own_add2 a b a' b']; exact own_nn _
theorem own_sub3 {x y t : Int32} (a : 1 ≤ x.toInt) (b : x.toInt ≤ 1024) (a' : 1 ≤ y.toInt) (b' : y.toInt ≤ 1024) (h0 : 0 ≤ t.toInt) (h1 : t.toInt ≤ x.toInt) : FP.dsub (FP.i2d (x + y)) (FP.i2d t) = FP.i2d (x + y - t) := by
  have := own_sum a b a' b'
  exact own_sub (x + y) t (by omega) (by omega)
theorem own_nns2 {x y t : Int32} (a : 1 ≤ x.toInt) (b : x.toInt ≤ 1024) (a' : 1 ≤ y.toInt) (b' : y.toInt ≤ 1024) (h0 : 0 ≤ t.toInt) (h1 : t.toInt ≤ x.toInt) : NoNaN64 (FP.dsub (FP.i2d (x + y)) (FP.i2d t)) := by rw [own_sub3 a b a' b' h0 h1]; exact own_nn _
theorem own_sub2 {x y t : Int32} (a : 1 ≤ x.toInt) (b : x.toInt ≤ 1024) (a' : 1 ≤ y.toInt) (b' : y.toInt ≤ 1024) (h0 : 0 ≤ t.toInt) (h1 : t.toInt ≤ x.toInt) (h : t = x) : FP.dsub (FP.i2d (x + y)) (FP.i2d t) = FP.i2d y := by
  rw [own_sub3 a b a' b' h0 h1]
  congr 1
  refine Int32.toInt_inj.mp ?_
  subst h
  have := own_sum a b a' b'
  have d := c_isub (t + y) t
  have r := rng32 (t + y - t)
  omega
end OwnFp

theorem ltA {a b : Nat} (h : @LT.lt Addr instLTNat a b) : @LT.lt Nat instLTNat a b := h
theorem ltN {a b : Nat} (h : @LT.lt Nat instLTNat a b) : @LT.lt Addr instLTNat a b := h
theorem neN {a b : Nat} (h : @Ne Nat a b) : @Ne Addr a b := h
abbrev GO (p : Program) (e : Env) (below : List Frame) (T : State) (g : JFrame) (t : State) : Prop := Steps p.tables e below (T.setTop g) t
theorem wd {Z : State} {a0 : Array Value} (hw : ∀ d ∈ tables_1, d.before a0 Z = true) (i : Nat) {d : Jvm.Cond} (h : tables_1[i]? = some d) : d.before a0 Z = true := hw _ (List.mem_of_getElem? h)
abbrev la0 (x0 : Addr) (x1 : Int32) (x2 : Int32) (x3 : UInt64) (x5 : Int32) : Array Slot := #[.val (.ref x0), .val (.int x1), .val (.int x2), .val (.double x3), .second, .val (.int x5), .unset, .unset, .unset]
abbrev la1 (x0 : Addr) (x1 : Int32) (x2 : Int32) (x3 : UInt64) (x5 : Int32) (x6 : Int32) : Array Slot := #[.val (.ref x0), .val (.int x1), .val (.int x2), .val (.double x3), .second, .val (.int x5), .val (.int x6), .unset, .unset]
abbrev la2 (x0 : Addr) (x1 : Int32) (x2 : Int32) (x3 : UInt64) (x5 : Int32) (x6 : Int32) (x7 : Int32) : Array Slot := #[.val (.ref x0), .val (.int x1), .val (.int x2), .val (.double x3), .second, .val (.int x5), .val (.int x6), .val (.int x7), .unset]
abbrev la3 (x0 : Addr) (x1 : Int32) (x2 : Int32) (x3 : UInt64) (x5 : Int32) (x6 : Int32) (x7 : Int32) (x8 : Int32) : Array Slot := #[.val (.ref x0), .val (.int x1), .val (.int x2), .val (.double x3), .second, .val (.int x5), .val (.int x6), .val (.int x7), .val (.int x8)]
abbrev la4 (x0 : Addr) (x1 : UInt64) : Array Slot := #[.val (.ref x0), .val (.double x1), .second]
abbrev la5 (x0 : Int32) (x1 : Int32) (x2 : Int32) (x3 : Int32) (x4 : Int32) (x5 : Int32) : Array Slot := #[.val (.int x0), .val (.int x1), .val (.int x2), .val (.int x3), .val (.int x4), .val (.int x5), .unset, .unset, .unset, .unset, .unset, .unset, .unset, .unset, .unset, .unset, .unset, .unset, .unset, .unset]
abbrev la6 (x0 : Int32) (x1 : Int32) (x2 : Int32) (x3 : Int32) (x4 : Int32) (x5 : Int32) (x6 : Int32) : Array Slot := #[.val (.int x0), .val (.int x1), .val (.int x2), .val (.int x3), .val (.int x4), .val (.int x5), .val (.int x6), .unset, .unset, .unset, .unset, .unset, .unset, .unset, .unset, .unset, .unset, .unset, .unset, .unset]
abbrev la7 (x0 : Int32) (x1 : Int32) (x2 : Int32) (x3 : Int32) (x4 : Int32) (x5 : Int32) (x6 : Int32) (x7 : Int32) : Array Slot := #[.val (.int x0), .val (.int x1), .val (.int x2), .val (.int x3), .val (.int x4), .val (.int x5), .val (.int x6), .val (.int x7), .unset, .unset, .unset, .unset, .unset, .unset, .unset, .unset, .unset, .unset, .unset, .unset]
abbrev la8 (x0 : Int32) (x1 : Int32) (x2 : Int32) (x3 : Int32) (x4 : Int32) (x5 : Int32) (x6 : Int32) (x7 : Int32) (x8 : Int32) : Array Slot := #[.val (.int x0), .val (.int x1), .val (.int x2), .val (.int x3), .val (.int x4), .val (.int x5), .val (.int x6), .val (.int x7), .val (.int x8), .unset, .unset, .unset, .unset, .unset, .unset, .unset, .unset, .unset, .unset, .unset]
abbrev la9 (x0 : Int32) (x1 : Int32) (x2 : Int32) (x3 : Int32) (x4 : Int32) (x5 : Int32) (x6 : Int32) (x7 : Int32) (x8 : Int32) (x9 : Int32) : Array Slot := #[.val (.int x0), .val (.int x1), .val (.int x2), .val (.int x3), .val (.int x4), .val (.int x5), .val (.int x6), .val (.int x7), .val (.int x8), .val (.int x9), .unset, .unset, .unset, .unset, .unset, .unset, .unset, .unset, .unset, .unset]
abbrev la10 (x0 : Int32) (x1 : Int32) (x2 : Int32) (x3 : Int32) (x4 : Int32) (x5 : Int32) (x6 : Int32) (x7 : Int32) (x8 : Int32) (x9 : Int32) (x10 : Int32) : Array Slot := #[.val (.int x0), .val (.int x1), .val (.int x2), .val (.int x3), .val (.int x4), .val (.int x5), .val (.int x6), .val (.int x7), .val (.int x8), .val (.int x9), .val (.int x10), .unset, .unset, .unset, .unset, .unset, .unset, .unset, .unset, .unset]
abbrev la11 (x0 : Int32) (x1 : Int32) (x2 : Int32) (x3 : Int32) (x4 : Int32) (x5 : Int32) (x6 : Int32) (x7 : Int32) (x8 : Int32) (x9 : Int32) (x10 : Int32) (x11 : Int32) : Array Slot := #[.val (.int x0), .val (.int x1), .val (.int x2), .val (.int x3), .val (.int x4), .val (.int x5), .val (.int x6), .val (.int x7), .val (.int x8), .val (.int x9), .val (.int x10), .val (.int x11), .unset, .unset, .unset, .unset, .unset, .unset, .unset, .unset]
abbrev la12 (x0 : Int32) (x1 : Int32) (x2 : Int32) (x3 : Int32) (x4 : Int32) (x5 : Int32) (x6 : Int32) (x7 : Int32) (x8 : Int32) (x9 : Int32) (x10 : Int32) (x11 : Int32) (x12 : Int32) : Array Slot := #[.val (.int x0), .val (.int x1), .val (.int x2), .val (.int x3), .val (.int x4), .val (.int x5), .val (.int x6), .val (.int x7), .val (.int x8), .val (.int x9), .val (.int x10), .val (.int x11), .val (.int x12), .unset, .unset, .unset, .unset, .unset, .unset, .unset]
abbrev la13 (x0 : Int32) (x1 : Int32) (x2 : Int32) (x3 : Int32) (x4 : Int32) (x5 : Int32) (x6 : Int32) (x7 : Int32) (x8 : Int32) (x9 : Int32) (x10 : Int32) (x11 : Int32) (x12 : Int32) (x13 : Int32) : Array Slot := #[.val (.int x0), .val (.int x1), .val (.int x2), .val (.int x3), .val (.int x4), .val (.int x5), .val (.int x6), .val (.int x7), .val (.int x8), .val (.int x9), .val (.int x10), .val (.int x11), .val (.int x12), .val (.int x13), .unset, .unset, .unset, .unset, .unset, .unset]
abbrev la14 (x0 : Int32) (x1 : Int32) (x2 : Int32) (x3 : Int32) (x4 : Int32) (x5 : Int32) (x6 : Int32) (x7 : Int32) (x8 : Int32) (x9 : Int32) (x10 : Int32) (x11 : Int32) (x12 : Int32) (x13 : Int32) (x14 : Addr) : Array Slot := #[.val (.int x0), .val (.int x1), .val (.int x2), .val (.int x3), .val (.int x4), .val (.int x5), .val (.int x6), .val (.int x7), .val (.int x8), .val (.int x9), .val (.int x10), .val (.int x11), .val (.int x12), .val (.int x13), .val (.ref x14), .unset, .unset, .unset, .unset, .unset]
abbrev la15 (x0 : Int32) (x1 : Int32) (x2 : Int32) (x3 : Int32) (x4 : Int32) (x5 : Int32) (x6 : Int32) (x7 : Int32) (x8 : Int32) (x9 : Int32) (x10 : Int32) (x11 : Int32) (x12 : Int32) (x13 : Int32) (x14 : Addr) (x15 : Int32) : Array Slot := #[.val (.int x0), .val (.int x1), .val (.int x2), .val (.int x3), .val (.int x4), .val (.int x5), .val (.int x6), .val (.int x7), .val (.int x8), .val (.int x9), .val (.int x10), .val (.int x11), .val (.int x12), .val (.int x13), .val (.ref x14), .val (.int x15), .unset, .unset, .unset, .unset]
abbrev la16 (x0 : Int32) (x1 : Int32) (x2 : Int32) (x3 : Int32) (x4 : Int32) (x5 : Int32) (x6 : Int32) (x7 : Int32) (x8 : Int32) (x9 : Int32) (x10 : Int32) (x11 : Int32) (x12 : Int32) (x13 : Int32) (x14 : Addr) (x15 : Int32) (x16 : UInt64) : Array Slot := #[.val (.int x0), .val (.int x1), .val (.int x2), .val (.int x3), .val (.int x4), .val (.int x5), .val (.int x6), .val (.int x7), .val (.int x8), .val (.int x9), .val (.int x10), .val (.int x11), .val (.int x12), .val (.int x13), .val (.ref x14), .val (.int x15), .val (.double x16), .second, .unset, .unset]
abbrev la17 (x0 : Int32) (x1 : Int32) (x2 : Int32) (x3 : Int32) (x4 : Int32) (x5 : Int32) (x6 : Int32) (x7 : Int32) (x8 : Int32) (x9 : Int32) (x10 : Int32) (x11 : Int32) (x12 : Int32) (x13 : Int32) (x14 : Addr) (x15 : Int32) (x16 : UInt64) (x18 : Int32) : Array Slot := #[.val (.int x0), .val (.int x1), .val (.int x2), .val (.int x3), .val (.int x4), .val (.int x5), .val (.int x6), .val (.int x7), .val (.int x8), .val (.int x9), .val (.int x10), .val (.int x11), .val (.int x12), .val (.int x13), .val (.ref x14), .val (.int x15), .val (.double x16), .second, .val (.int x18), .unset]
abbrev la18 (x0 : Int32) (x1 : Int32) (x2 : Int32) (x3 : Int32) (x4 : Int32) (x5 : Int32) (x6 : Int32) (x7 : Int32) (x8 : Int32) (x9 : Int32) (x10 : Int32) (x11 : Int32) (x12 : Int32) (x13 : Int32) (x14 : Addr) (x15 : Int32) (x16 : UInt64) (x18 : Int32) (x19 : Int32) : Array Slot := #[.val (.int x0), .val (.int x1), .val (.int x2), .val (.int x3), .val (.int x4), .val (.int x5), .val (.int x6), .val (.int x7), .val (.int x8), .val (.int x9), .val (.int x10), .val (.int x11), .val (.int x12), .val (.int x13), .val (.ref x14), .val (.int x15), .val (.double x16), .second, .val (.int x18), .val (.int x19)]
theorem pd_0 : parseMethodDescriptor "()V" = some ⟨[], none⟩ := by decide +kernel
theorem pd_1 : parseMethodDescriptor "(IIDZ)V" = some ⟨[.int, .int, .double, .boolean], none⟩ := by decide +kernel
theorem pd_2 : parseMethodDescriptor "(D)V" = some ⟨[.double], none⟩ := by decide +kernel
theorem pd_3 : parseMethodDescriptor "()I" = some ⟨[], some .int⟩ := by decide +kernel
theorem pd_4 : parseMethodDescriptor "()D" = some ⟨[], some .double⟩ := by decide +kernel
theorem pd_5 : parseMethodDescriptor "()Z" = some ⟨[], some .boolean⟩ := by decide +kernel
theorem pn_0 : plainName "com/example/occupancy/occupancy/loading/Block" = true := by first | (simp [plainName, overriddenIn]; done) | decide +kernel
theorem pn_1 : plainName "com/example/occupancy/occupancy/loading/BlockTakeFromHeadPinLaw" = true := by first | (simp [plainName, overriddenIn]; done) | decide +kernel
theorem d1_0 : decode prog_14_method_1_code 0 = .ok (.aload_n 0, 1) := by decide +kernel
theorem d1_1 : decode prog_14_method_1_code 1 = .ok (.invokespecial 1, 3) := by decide +kernel
theorem d1_4 : decode prog_14_method_1_code 4 = .ok (.aload_n 0, 1) := by decide +kernel
theorem d1_5 : decode prog_14_method_1_code 5 = .ok (.bipush 8, 2) := by decide +kernel
theorem d1_7 : decode prog_14_method_1_code 7 = .ok (.newarray .int, 2) := by decide +kernel
theorem d1_9 : decode prog_14_method_1_code 9 = .ok (.putfield 9, 3) := by decide +kernel
theorem d1_12 : decode prog_14_method_1_code 12 = .ok (.aload_n 0, 1) := by decide +kernel
theorem d1_13 : decode prog_14_method_1_code 13 = .ok (.bipush 8, 2) := by decide +kernel
theorem d1_15 : decode prog_14_method_1_code 15 = .ok (.newarray .int, 2) := by decide +kernel
theorem d1_17 : decode prog_14_method_1_code 17 = .ok (.putfield 13, 3) := by decide +kernel
theorem d1_20 : decode prog_14_method_1_code 20 = .ok (.aload_n 0, 1) := by decide +kernel
theorem d1_21 : decode prog_14_method_1_code 21 = .ok (.bipush 8, 2) := by decide +kernel
theorem d1_23 : decode prog_14_method_1_code 23 = .ok (.newarray .double, 2) := by decide +kernel
theorem d1_25 : decode prog_14_method_1_code 25 = .ok (.putfield 16, 3) := by decide +kernel
theorem d1_28 : decode prog_14_method_1_code 28 = .ok (.aload_n 0, 1) := by decide +kernel
theorem d1_29 : decode prog_14_method_1_code 29 = .ok (.bipush 8, 2) := by decide +kernel
theorem d1_31 : decode prog_14_method_1_code 31 = .ok (.newarray .boolean, 2) := by decide +kernel
theorem d1_33 : decode prog_14_method_1_code 33 = .ok (.putfield 20, 3) := by decide +kernel
theorem d1_36 : decode prog_14_method_1_code 36 = .ok (.return_, 1) := by decide +kernel
theorem d3_0 : decode prog_14_method_11_code 0 = .ok (.aload_n 0, 1) := by decide +kernel
theorem d3_1 : decode prog_14_method_11_code 1 = .ok (.getfield 9, 3) := by decide +kernel
theorem d3_4 : decode prog_14_method_11_code 4 = .ok (.arraylength, 1) := by decide +kernel
theorem d3_5 : decode prog_14_method_11_code 5 = .ok (.iconst 1, 1) := by decide +kernel
theorem d3_6 : decode prog_14_method_11_code 6 = .ok (.isub, 1) := by decide +kernel
theorem d3_7 : decode prog_14_method_11_code 7 = .ok (.istore 6, 2) := by decide +kernel
theorem d3_9 : decode prog_14_method_11_code 9 = .ok (.aload_n 0, 1) := by decide +kernel
theorem d3_10 : decode prog_14_method_11_code 10 = .ok (.getfield 32, 3) := by decide +kernel
theorem d3_13 : decode prog_14_method_11_code 13 = .ok (.aload_n 0, 1) := by decide +kernel
theorem d3_14 : decode prog_14_method_11_code 14 = .ok (.getfield 28, 3) := by decide +kernel
theorem d3_17 : decode prog_14_method_11_code 17 = .ok (.iadd, 1) := by decide +kernel
theorem d3_18 : decode prog_14_method_11_code 18 = .ok (.iconst 1, 1) := by decide +kernel
theorem d3_19 : decode prog_14_method_11_code 19 = .ok (.isub, 1) := by decide +kernel
theorem d3_20 : decode prog_14_method_11_code 20 = .ok (.iload 6, 2) := by decide +kernel
theorem d3_22 : decode prog_14_method_11_code 22 = .ok (.iand, 1) := by decide +kernel
theorem d3_23 : decode prog_14_method_11_code 23 = .ok (.istore 7, 2) := by decide +kernel
theorem d3_25 : decode prog_14_method_11_code 25 = .ok (.aload_n 0, 1) := by decide +kernel
theorem d3_26 : decode prog_14_method_11_code 26 = .ok (.getfield 28, 3) := by decide +kernel
theorem d3_29 : decode prog_14_method_11_code 29 = .ok (.ifCond .le 48, 3) := by decide +kernel
theorem d3_77 : decode prog_14_method_11_code 77 = .ok (.aload_n 0, 1) := by decide +kernel
theorem d3_78 : decode prog_14_method_11_code 78 = .ok (.getfield 28, 3) := by decide +kernel
theorem d3_81 : decode prog_14_method_11_code 81 = .ok (.aload_n 0, 1) := by decide +kernel
theorem d3_82 : decode prog_14_method_11_code 82 = .ok (.getfield 9, 3) := by decide +kernel
theorem d3_85 : decode prog_14_method_11_code 85 = .ok (.arraylength, 1) := by decide +kernel
theorem d3_86 : decode prog_14_method_11_code 86 = .ok (.if_icmp .ne 7, 3) := by decide +kernel
theorem d3_93 : decode prog_14_method_11_code 93 = .ok (.aload_n 0, 1) := by decide +kernel
theorem d3_94 : decode prog_14_method_11_code 94 = .ok (.getfield 32, 3) := by decide +kernel
theorem d3_97 : decode prog_14_method_11_code 97 = .ok (.aload_n 0, 1) := by decide +kernel
theorem d3_98 : decode prog_14_method_11_code 98 = .ok (.getfield 28, 3) := by decide +kernel
theorem d3_101 : decode prog_14_method_11_code 101 = .ok (.iadd, 1) := by decide +kernel
theorem d3_102 : decode prog_14_method_11_code 102 = .ok (.aload_n 0, 1) := by decide +kernel
theorem d3_103 : decode prog_14_method_11_code 103 = .ok (.getfield 9, 3) := by decide +kernel
theorem d3_106 : decode prog_14_method_11_code 106 = .ok (.arraylength, 1) := by decide +kernel
theorem d3_107 : decode prog_14_method_11_code 107 = .ok (.iconst 1, 1) := by decide +kernel
theorem d3_108 : decode prog_14_method_11_code 108 = .ok (.isub, 1) := by decide +kernel
theorem d3_109 : decode prog_14_method_11_code 109 = .ok (.iand, 1) := by decide +kernel
theorem d3_110 : decode prog_14_method_11_code 110 = .ok (.istore 8, 2) := by decide +kernel
theorem d3_112 : decode prog_14_method_11_code 112 = .ok (.aload_n 0, 1) := by decide +kernel
theorem d3_113 : decode prog_14_method_11_code 113 = .ok (.getfield 9, 3) := by decide +kernel
theorem d3_116 : decode prog_14_method_11_code 116 = .ok (.iload 8, 2) := by decide +kernel
theorem d3_118 : decode prog_14_method_11_code 118 = .ok (.iload_n 1, 1) := by decide +kernel
theorem d3_119 : decode prog_14_method_11_code 119 = .ok (.iastore, 1) := by decide +kernel
theorem d3_120 : decode prog_14_method_11_code 120 = .ok (.aload_n 0, 1) := by decide +kernel
theorem d3_121 : decode prog_14_method_11_code 121 = .ok (.getfield 13, 3) := by decide +kernel
theorem d3_124 : decode prog_14_method_11_code 124 = .ok (.iload 8, 2) := by decide +kernel
theorem d3_126 : decode prog_14_method_11_code 126 = .ok (.iload_n 2, 1) := by decide +kernel
theorem d3_127 : decode prog_14_method_11_code 127 = .ok (.iastore, 1) := by decide +kernel
theorem d3_128 : decode prog_14_method_11_code 128 = .ok (.aload_n 0, 1) := by decide +kernel
theorem d3_129 : decode prog_14_method_11_code 129 = .ok (.getfield 16, 3) := by decide +kernel
theorem d3_132 : decode prog_14_method_11_code 132 = .ok (.iload 8, 2) := by decide +kernel
theorem d3_134 : decode prog_14_method_11_code 134 = .ok (.dload_n 3, 1) := by decide +kernel
theorem d3_135 : decode prog_14_method_11_code 135 = .ok (.dastore, 1) := by decide +kernel
theorem d3_136 : decode prog_14_method_11_code 136 = .ok (.aload_n 0, 1) := by decide +kernel
theorem d3_137 : decode prog_14_method_11_code 137 = .ok (.getfield 20, 3) := by decide +kernel
theorem d3_140 : decode prog_14_method_11_code 140 = .ok (.iload 8, 2) := by decide +kernel
theorem d3_142 : decode prog_14_method_11_code 142 = .ok (.iload 5, 2) := by decide +kernel
theorem d3_144 : decode prog_14_method_11_code 144 = .ok (.bastore, 1) := by decide +kernel
theorem d3_145 : decode prog_14_method_11_code 145 = .ok (.aload_n 0, 1) := by decide +kernel
theorem d3_146 : decode prog_14_method_11_code 146 = .ok (.dup, 1) := by decide +kernel
theorem d3_147 : decode prog_14_method_11_code 147 = .ok (.getfield 28, 3) := by decide +kernel
theorem d3_150 : decode prog_14_method_11_code 150 = .ok (.iconst 1, 1) := by decide +kernel
theorem d3_151 : decode prog_14_method_11_code 151 = .ok (.iadd, 1) := by decide +kernel
theorem d3_152 : decode prog_14_method_11_code 152 = .ok (.putfield 28, 3) := by decide +kernel
theorem d3_155 : decode prog_14_method_11_code 155 = .ok (.aload_n 0, 1) := by decide +kernel
theorem d3_156 : decode prog_14_method_11_code 156 = .ok (.dup, 1) := by decide +kernel
theorem d3_157 : decode prog_14_method_11_code 157 = .ok (.getfield 24, 3) := by decide +kernel
theorem d3_160 : decode prog_14_method_11_code 160 = .ok (.dload_n 3, 1) := by decide +kernel
theorem d3_161 : decode prog_14_method_11_code 161 = .ok (.dadd, 1) := by decide +kernel
theorem d3_162 : decode prog_14_method_11_code 162 = .ok (.putfield 24, 3) := by decide +kernel
theorem d3_165 : decode prog_14_method_11_code 165 = .ok (.return_, 1) := by decide +kernel
theorem d3_32 : decode prog_14_method_11_code 32 = .ok (.aload_n 0, 1) := by decide +kernel
theorem d3_33 : decode prog_14_method_11_code 33 = .ok (.getfield 9, 3) := by decide +kernel
theorem d3_36 : decode prog_14_method_11_code 36 = .ok (.iload 7, 2) := by decide +kernel
theorem d3_38 : decode prog_14_method_11_code 38 = .ok (.iaload, 1) := by decide +kernel
theorem d3_39 : decode prog_14_method_11_code 39 = .ok (.iload_n 1, 1) := by decide +kernel
theorem d3_40 : decode prog_14_method_11_code 40 = .ok (.if_icmp .ne 37, 3) := by decide +kernel
theorem d4_0 : decode prog_14_method_12_code 0 = .ok (.dload_n 1, 1) := by decide +kernel
theorem d4_1 : decode prog_14_method_12_code 1 = .ok (.aload_n 0, 1) := by decide +kernel
theorem d4_2 : decode prog_14_method_12_code 2 = .ok (.getfield 16, 3) := by decide +kernel
theorem d4_5 : decode prog_14_method_12_code 5 = .ok (.aload_n 0, 1) := by decide +kernel
theorem d4_6 : decode prog_14_method_12_code 6 = .ok (.getfield 32, 3) := by decide +kernel
theorem d4_9 : decode prog_14_method_12_code 9 = .ok (.daload, 1) := by decide +kernel
theorem d4_10 : decode prog_14_method_12_code 10 = .ok (.dcmp .l, 1) := by decide +kernel
theorem d4_11 : decode prog_14_method_12_code 11 = .ok (.ifCond .lt 34, 3) := by decide +kernel
theorem d4_14 : decode prog_14_method_12_code 14 = .ok (.aload_n 0, 1) := by decide +kernel
theorem d4_15 : decode prog_14_method_12_code 15 = .ok (.aload_n 0, 1) := by decide +kernel
theorem d4_16 : decode prog_14_method_12_code 16 = .ok (.getfield 32, 3) := by decide +kernel
theorem d4_19 : decode prog_14_method_12_code 19 = .ok (.iconst 1, 1) := by decide +kernel
theorem d4_20 : decode prog_14_method_12_code 20 = .ok (.iadd, 1) := by decide +kernel
theorem d4_21 : decode prog_14_method_12_code 21 = .ok (.aload_n 0, 1) := by decide +kernel
theorem d4_22 : decode prog_14_method_12_code 22 = .ok (.getfield 9, 3) := by decide +kernel
theorem d4_25 : decode prog_14_method_12_code 25 = .ok (.arraylength, 1) := by decide +kernel
theorem d4_26 : decode prog_14_method_12_code 26 = .ok (.iconst 1, 1) := by decide +kernel
theorem d4_27 : decode prog_14_method_12_code 27 = .ok (.isub, 1) := by decide +kernel
theorem d4_28 : decode prog_14_method_12_code 28 = .ok (.iand, 1) := by decide +kernel
theorem d4_29 : decode prog_14_method_12_code 29 = .ok (.putfield 32, 3) := by decide +kernel
theorem d4_32 : decode prog_14_method_12_code 32 = .ok (.aload_n 0, 1) := by decide +kernel
theorem d4_33 : decode prog_14_method_12_code 33 = .ok (.dup, 1) := by decide +kernel
theorem d4_34 : decode prog_14_method_12_code 34 = .ok (.getfield 28, 3) := by decide +kernel
theorem d4_37 : decode prog_14_method_12_code 37 = .ok (.iconst 1, 1) := by decide +kernel
theorem d4_38 : decode prog_14_method_12_code 38 = .ok (.isub, 1) := by decide +kernel
theorem d4_39 : decode prog_14_method_12_code 39 = .ok (.putfield 28, 3) := by decide +kernel
theorem d4_42 : decode prog_14_method_12_code 42 = .ok (.goto 16, 3) := by decide +kernel
theorem d4_58 : decode prog_14_method_12_code 58 = .ok (.aload_n 0, 1) := by decide +kernel
theorem d4_59 : decode prog_14_method_12_code 59 = .ok (.aload_n 0, 1) := by decide +kernel
theorem d4_60 : decode prog_14_method_12_code 60 = .ok (.getfield 28, 3) := by decide +kernel
theorem d4_63 : decode prog_14_method_12_code 63 = .ok (.ifCond .ne 7, 3) := by decide +kernel
theorem d4_66 : decode prog_14_method_12_code 66 = .ok (.dconst 0, 1) := by decide +kernel
theorem d4_67 : decode prog_14_method_12_code 67 = .ok (.goto 9, 3) := by decide +kernel
theorem d4_76 : decode prog_14_method_12_code 76 = .ok (.putfield 24, 3) := by decide +kernel
theorem d4_79 : decode prog_14_method_12_code 79 = .ok (.return_, 1) := by decide +kernel
theorem d4_70 : decode prog_14_method_12_code 70 = .ok (.aload_n 0, 1) := by decide +kernel
theorem d4_71 : decode prog_14_method_12_code 71 = .ok (.getfield 24, 3) := by decide +kernel
theorem d4_74 : decode prog_14_method_12_code 74 = .ok (.dload_n 1, 1) := by decide +kernel
theorem d4_75 : decode prog_14_method_12_code 75 = .ok (.dsub, 1) := by decide +kernel
theorem d4_45 : decode prog_14_method_12_code 45 = .ok (.aload_n 0, 1) := by decide +kernel
theorem d4_46 : decode prog_14_method_12_code 46 = .ok (.getfield 16, 3) := by decide +kernel
theorem d4_49 : decode prog_14_method_12_code 49 = .ok (.aload_n 0, 1) := by decide +kernel
theorem d4_50 : decode prog_14_method_12_code 50 = .ok (.getfield 32, 3) := by decide +kernel
theorem d4_53 : decode prog_14_method_12_code 53 = .ok (.dup2, 1) := by decide +kernel
theorem d4_54 : decode prog_14_method_12_code 54 = .ok (.daload, 1) := by decide +kernel
theorem d4_55 : decode prog_14_method_12_code 55 = .ok (.dload_n 1, 1) := by decide +kernel
theorem d4_56 : decode prog_14_method_12_code 56 = .ok (.dsub, 1) := by decide +kernel
theorem d4_57 : decode prog_14_method_12_code 57 = .ok (.dastore, 1) := by decide +kernel
theorem d5_0 : decode prog_14_method_4_code 0 = .ok (.aload_n 0, 1) := by decide +kernel
theorem d5_1 : decode prog_14_method_4_code 1 = .ok (.getfield 28, 3) := by decide +kernel
theorem d5_4 : decode prog_14_method_4_code 4 = .ok (.ireturn, 1) := by decide +kernel
theorem d6_0 : decode prog_14_method_2_code 0 = .ok (.aload_n 0, 1) := by decide +kernel
theorem d6_1 : decode prog_14_method_2_code 1 = .ok (.getfield 24, 3) := by decide +kernel
theorem d6_4 : decode prog_14_method_2_code 4 = .ok (.dreturn, 1) := by decide +kernel
theorem d7_0 : decode prog_14_method_5_code 0 = .ok (.aload_n 0, 1) := by decide +kernel
theorem d7_1 : decode prog_14_method_5_code 1 = .ok (.getfield 9, 3) := by decide +kernel
theorem d7_4 : decode prog_14_method_5_code 4 = .ok (.aload_n 0, 1) := by decide +kernel
theorem d7_5 : decode prog_14_method_5_code 5 = .ok (.getfield 32, 3) := by decide +kernel
theorem d7_8 : decode prog_14_method_5_code 8 = .ok (.iaload, 1) := by decide +kernel
theorem d7_9 : decode prog_14_method_5_code 9 = .ok (.ireturn, 1) := by decide +kernel
theorem d8_0 : decode prog_14_method_6_code 0 = .ok (.aload_n 0, 1) := by decide +kernel
theorem d8_1 : decode prog_14_method_6_code 1 = .ok (.getfield 13, 3) := by decide +kernel
theorem d8_4 : decode prog_14_method_6_code 4 = .ok (.aload_n 0, 1) := by decide +kernel
theorem d8_5 : decode prog_14_method_6_code 5 = .ok (.getfield 32, 3) := by decide +kernel
theorem d8_8 : decode prog_14_method_6_code 8 = .ok (.iaload, 1) := by decide +kernel
theorem d8_9 : decode prog_14_method_6_code 9 = .ok (.ireturn, 1) := by decide +kernel
theorem d9_0 : decode prog_14_method_7_code 0 = .ok (.aload_n 0, 1) := by decide +kernel
theorem d9_1 : decode prog_14_method_7_code 1 = .ok (.getfield 16, 3) := by decide +kernel
theorem d9_4 : decode prog_14_method_7_code 4 = .ok (.aload_n 0, 1) := by decide +kernel
theorem d9_5 : decode prog_14_method_7_code 5 = .ok (.getfield 32, 3) := by decide +kernel
theorem d9_8 : decode prog_14_method_7_code 8 = .ok (.daload, 1) := by decide +kernel
theorem d9_9 : decode prog_14_method_7_code 9 = .ok (.dreturn, 1) := by decide +kernel
theorem d10_0 : decode prog_14_method_8_code 0 = .ok (.aload_n 0, 1) := by decide +kernel
theorem d10_1 : decode prog_14_method_8_code 1 = .ok (.getfield 20, 3) := by decide +kernel
theorem d10_4 : decode prog_14_method_8_code 4 = .ok (.aload_n 0, 1) := by decide +kernel
theorem d10_5 : decode prog_14_method_8_code 5 = .ok (.getfield 32, 3) := by decide +kernel
theorem d10_8 : decode prog_14_method_8_code 8 = .ok (.baload, 1) := by decide +kernel
theorem d10_9 : decode prog_14_method_8_code 9 = .ok (.ireturn, 1) := by decide +kernel
abbrev kS0 : String := "com/example/occupancy/occupancy/loading/Block"
def Qrm_1 (Z : State) (a1 : Addr) (u0 : Value) (u1 : Value) (u2 : Value) (u3 : Value) (u4 : Value) (u5 : Value) (u6 : Value) (h0 : Heap) (n0 : Nat) (v : Option Value) (h : Heap) (L : List Loc) : Prop := ∃ t0 : Addr, ∃ t1 : Addr, ∃ t2 : Addr, ∃ t3 : Addr, ∃ k0 : ClassId, ∃ k1 : ClassId, ∃ k2 : ClassId, ∃ k3 : ClassId, v = none ∧ Fr n0 L ∧ Keep h0 h [a1] ∧ Exa Z h a1 kS0 ∧ Fld Z h a1 kS0 "agents" "[I" (.ref t0) ∧ Arv Z h t0 k0 .int (8 : Int32) [(.int 0), (.int 0), (.int 0), (.int 0), (.int 0), (.int 0), (.int 0), (.int 0)] (.int 0) ∧ Fld Z h a1 kS0 "legs" "[I" (.ref t1) ∧ Arv Z h t1 k1 .int (8 : Int32) [(.int 0), (.int 0), (.int 0), (.int 0), (.int 0), (.int 0), (.int 0), (.int 0)] (.int 0) ∧ Fld Z h a1 kS0 "amounts" "[D" (.ref t2) ∧ Arv Z h t2 k2 .double (8 : Int32) [(.double (0 : UInt64)), (.double (0 : UInt64)), (.double (0 : UInt64)), (.double (0 : UInt64)), (.double (0 : UInt64)), (.double (0 : UInt64)), (.double (0 : UInt64)), (.double (0 : UInt64))] (.double (0 : UInt64)) ∧ Fld Z h a1 kS0 "rears" "[Z" (.ref t3) ∧ Arv Z h t3 k3 .boolean (8 : Int32) [(.int 0), (.int 0), (.int 0), (.int 0), (.int 0), (.int 0), (.int 0), (.int 0)] (.int 0) ∧ Fld Z h a1 kS0 "head" "I" u4 ∧ Fld Z h a1 kS0 "size" "I" u5 ∧ Fld Z h a1 kS0 "content" "D" u6 ∧ h0.size ≤ t0 ∧ LT.lt (α := Nat) t0 t1 ∧ LT.lt (α := Nat) t1 t2 ∧ LT.lt (α := Nat) t2 t3
theorem ef_rm_1 (m : MethodId) (x0 : Addr) : entryFrame m #[(.ref x0)] 1 = mkF m 0 #[.val (.ref x0)] [] := by first | rfl | (simp [entryFrame, mkF, argsToLocals, Value.category]; done)
set_option maxRecDepth 65536 in
set_option maxHeartbeats 40000000 in
theorem rm_1 (l : Launch) (Z : State) (a0 : Array Value) (hw : ∀ d ∈ tables_1, d.before a0 Z = true) (ws : List Jvm.Cond) (a1 : Addr) (u0 : Value) (u1 : Value) (u2 : Value) (u3 : Value) (u4 : Value) (u5 : Value) (u6 : Value) (h0 : Heap) (n0 : Nat) (Z0 : n0 ≤ h0.size) (E1 : Exa Z h0 a1 kS0) (F0 : Fld Z h0 a1 kS0 "agents" "[I" u0) (F1 : Fld Z h0 a1 kS0 "legs" "[I" u1) (F2 : Fld Z h0 a1 kS0 "amounts" "[D" u2) (F3 : Fld Z h0 a1 kS0 "rears" "[Z" u3) (F4 : Fld Z h0 a1 kS0 "head" "I" u4) (F5 : Fld Z h0 a1 kS0 "size" "I" u5) (F6 : Fld Z h0 a1 kS0 "content" "D" u6) (g1 : n0 ≤ a1) :
    MetFree l (⟨kS0, "<init>", "()V"⟩ : MethodName) (head1 (Jvm.Cond.code (⟨kS0, "<init>", "()V"⟩ : MethodName) prog_14_method_1_code 1 none :: ws) ({ frames := 1, cells := 4, slots := 32, locals := 12 } : Room)) (fun a U => a = #[(.ref a1)] ∧ Z.Warmed39 U.vm ∧ U.heap = h0) (fun _ _ _ _ _ => True) (fun _ U o U' => ∃ v L, o = .returned v ∧ Qrm_1 Z a1 u0 u1 u2 u3 u4 u5 u6 h0 n0 v U'.heap L ∧ FrameEnd U o U' L ({ frames := 1, cells := 4, slots := 32, locals := 12 } : Room).cells ({ frames := 1, cells := 4, slots := 32, locals := 12 } : Room).slots) := by
  refine MetFree.of_bodySF (plainFor_of_name pn_0) hisR ?_
  intro p e s m args below meth c s₁ Bd hml0 hP hK
  obtain ⟨rfl, hZ, hh⟩ := hP
  have hx := Bd.exec
  have hby := Bd.bytes
  have hml : c.maxLocals = 1 := hml0
  have hown : s.vm.findClass kS0 = some m.cls := findClass_of_methodNamed Bd.named
  have hnm := (name_of_methodNamed Bd.named Bd.method).1
  have X0 : Stand p l e ({ frames := 1, cells := 4, slots := 32, locals := 12 } : Room) s m #[(.ref a1)] below meth c s₁ [] 0 0 := Stand.of_body Bd
  have e0 : s₁.heap = h0 := by rw [← hh, Bd.state]; rfl
  have N0 := Fr.nil n0
  have pre0 : ∀ t, Steps p.tables e below (s₁.setTop (mkF m 0 #[.val (.ref a1)] [])) t → Steps p.tables e below (s₁.setTop (entryFrame m #[(.ref a1)] 1)) t := fun t k => castTop (ef_rm_1 m a1) k
  have lt_E1 := ltA E1.lt
  have lt_F0 := ltA F0.lt
  have lt_F1 := ltA F1.lt
  have lt_F2 := ltA F2.lt
  have lt_F3 := ltA F3.lt
  have lt_F4 := ltA F4.lt
  have lt_F5 := ltA F5.lt
  have lt_F6 := ltA F6.lt
  obtain ⟨T1, X1, e1, st1⟩ := initO X0 hx hZ hown (wd hw 7 rfl) (wd hw 8 rfl) (wd hw 9 rfl) e0 (g := (mkF m 1 #[.val (.ref a1)] [(.ref a1)])) rfl (by rw [hml]; rfl) rfl (hb hby d1_1) (by decide) (W := 0) (by show 2 * 0 + _ ≤ _; exact Nat.le_of_eq rfl) (by decide)
  obtain ⟨T2, h2, k2, X2, e2, E2, A2, st2⟩ := newP X1 hx hZ (wd hw 10 rfl) e1 (g := (mkF m 7 #[.val (.ref a1)] [(.int 8), (.ref a1)])) rfl (hb hby d1_7) rfl (by decide) (cap := 8) (by decide) (by decide) (by decide) (by decide)
  obtain ⟨b2, g2⟩ : ∃ z, z = h0.size := ⟨_, rfl⟩
  rw [← g2] at A2 st2
  have sz2 : h0.size ≤ h2.size := E2.1
  have lt2 := ltA A2.lt
  have V2 : Arv Z h2 b2 k2 .int (8 : Int32) [(.int 0), (.int 0), (.int 0), (.int 0), (.int 0), (.int 0), (.int 0), (.int 0)] (.int 0) := (Arv.new A2 (by decide)).pad (pad_rep [] (.int 0) 8)
  have f3 : Fld Z h2 a1 kS0 "agents" "[I" u0 := (F0.ext E2)
  have f4 : Exa Z h2 a1 kS0 := (E1.ext E2)
  obtain ⟨T5, h5, X5, e5, W5, st5⟩ := putF X2 hx hZ hown (host := "") (Or.inl (wd hw 11 rfl)) Via.refl e2 f3 f4 (Or.inl (wd hw 12 rfl)) (wd hw 2 rfl) (ty := (.array .int)) (by decide) rfl rfl (g := (mkF m 9 #[.val (.ref a1)] [(.ref b2), (.ref a1)])) rfl rfl (hb hby d1_9)
  have N5 := Fr.snoc X5 N0 (by omega : n0 ≤ a1)
  have sz5 : h2.size ≤ h5.size := Nat.le_of_eq W5.size.symm
  have f5 : Fld Z h5 a1 kS0 "agents" "[I" (.ref b2) := f3.same W5
  obtain ⟨T6, h6, k6, X6, e6, E6, A6, st6⟩ := newP X5 hx hZ (wd hw 10 rfl) e5 (g := (mkF m 15 #[.val (.ref a1)] [(.int 8), (.ref a1)])) rfl (hb hby d1_15) rfl (by decide) (cap := 8) (by decide) (by decide) (by decide) (by decide)
  obtain ⟨b6, g6⟩ : ∃ z, z = h5.size := ⟨_, rfl⟩
  rw [← g6] at A6 st6
  have sz6 : h5.size ≤ h6.size := E6.1
  have lt6 := ltA A6.lt
  have V6 : Arv Z h6 b6 k6 .int (8 : Int32) [(.int 0), (.int 0), (.int 0), (.int 0), (.int 0), (.int 0), (.int 0), (.int 0)] (.int 0) := (Arv.new A6 (by decide)).pad (pad_rep [] (.int 0) 8)
  have f7 : Fld Z h6 a1 kS0 "legs" "[I" u1 := (((F1.ext E2).other W5 (Or.inr (slot_ne (Or.inl (wd hw 14 rfl)) (Or.inl (wd hw 12 rfl)) (by decide) (t := (.array .int)) (t' := (.array .int)) (by decide) (by decide)))).ext E6)
  have f8 : Exa Z h6 a1 kS0 := ((f4.wr W5).ext E6)
  obtain ⟨T9, h9, X9, e9, W9, st9⟩ := putF X6 hx hZ hown (host := "") (Or.inl (wd hw 13 rfl)) Via.refl e6 f7 f8 (Or.inl (wd hw 14 rfl)) (wd hw 2 rfl) (ty := (.array .int)) (by decide) rfl rfl (g := (mkF m 17 #[.val (.ref a1)] [(.ref b6), (.ref a1)])) rfl rfl (hb hby d1_17)
  have N9 := Fr.snoc X9 N5 (by omega : n0 ≤ a1)
  have sz9 : h6.size ≤ h9.size := Nat.le_of_eq W9.size.symm
  have f9 : Fld Z h9 a1 kS0 "legs" "[I" (.ref b6) := f7.same W9
  obtain ⟨T10, h10, k10, X10, e10, E10, A10, st10⟩ := newP X9 hx hZ (wd hw 15 rfl) e9 (g := (mkF m 23 #[.val (.ref a1)] [(.int 8), (.ref a1)])) rfl (hb hby d1_23) rfl (by decide) (cap := 8) (by decide) (by decide) (by decide) (by decide)
  obtain ⟨b10, g10⟩ : ∃ z, z = h9.size := ⟨_, rfl⟩
  rw [← g10] at A10 st10
  have sz10 : h9.size ≤ h10.size := E10.1
  have lt10 := ltA A10.lt
  have V10 : Arv Z h10 b10 k10 .double (8 : Int32) [(.double (0 : UInt64)), (.double (0 : UInt64)), (.double (0 : UInt64)), (.double (0 : UInt64)), (.double (0 : UInt64)), (.double (0 : UInt64)), (.double (0 : UInt64)), (.double (0 : UInt64))] (.double (0 : UInt64)) := (Arv.new A10 (by decide)).pad (pad_rep [] (.double (0 : UInt64)) 8)
  have f11 : Fld Z h10 a1 kS0 "amounts" "[D" u2 := (((((F2.ext E2).other W5 (Or.inr (slot_ne (Or.inl (wd hw 17 rfl)) (Or.inl (wd hw 12 rfl)) (by decide) (t := (.array .double)) (t' := (.array .int)) (by decide) (by decide)))).ext E6).other W9 (Or.inr (slot_ne (Or.inl (wd hw 17 rfl)) (Or.inl (wd hw 14 rfl)) (by decide) (t := (.array .double)) (t' := (.array .int)) (by decide) (by decide)))).ext E10)
  have f12 : Exa Z h10 a1 kS0 := ((f8.wr W9).ext E10)
  obtain ⟨T13, h13, X13, e13, W13, st13⟩ := putF X10 hx hZ hown (host := "") (Or.inl (wd hw 16 rfl)) Via.refl e10 f11 f12 (Or.inl (wd hw 17 rfl)) (wd hw 2 rfl) (ty := (.array .double)) (by decide) rfl rfl (g := (mkF m 25 #[.val (.ref a1)] [(.ref b10), (.ref a1)])) rfl rfl (hb hby d1_25)
  have N13 := Fr.snoc X13 N9 (by omega : n0 ≤ a1)
  have sz13 : h10.size ≤ h13.size := Nat.le_of_eq W13.size.symm
  have f13 : Fld Z h13 a1 kS0 "amounts" "[D" (.ref b10) := f11.same W13
  obtain ⟨T14, h14, k14, X14, e14, E14, A14, st14⟩ := newP X13 hx hZ (wd hw 18 rfl) e13 (g := (mkF m 31 #[.val (.ref a1)] [(.int 8), (.ref a1)])) rfl (hb hby d1_31) rfl (by decide) (cap := 8) (by decide) (by decide) (by decide) (by decide)
  obtain ⟨b14, g14⟩ : ∃ z, z = h13.size := ⟨_, rfl⟩
  rw [← g14] at A14 st14
  have sz14 : h13.size ≤ h14.size := E14.1
  have lt14 := ltA A14.lt
  have V14 : Arv Z h14 b14 k14 .boolean (8 : Int32) [(.int 0), (.int 0), (.int 0), (.int 0), (.int 0), (.int 0), (.int 0), (.int 0)] (.int 0) := (Arv.new A14 (by decide)).pad (pad_rep [] (.int 0) 8)
  have f15 : Fld Z h14 a1 kS0 "rears" "[Z" u3 := (((((((F3.ext E2).other W5 (Or.inr (slot_ne (Or.inl (wd hw 20 rfl)) (Or.inl (wd hw 12 rfl)) (by decide) (t := (.array .boolean)) (t' := (.array .int)) (by decide) (by decide)))).ext E6).other W9 (Or.inr (slot_ne (Or.inl (wd hw 20 rfl)) (Or.inl (wd hw 14 rfl)) (by decide) (t := (.array .boolean)) (t' := (.array .int)) (by decide) (by decide)))).ext E10).other W13 (Or.inr (slot_ne (Or.inl (wd hw 20 rfl)) (Or.inl (wd hw 17 rfl)) (by decide) (t := (.array .boolean)) (t' := (.array .double)) (by decide) (by decide)))).ext E14)
  have f16 : Exa Z h14 a1 kS0 := ((f12.wr W13).ext E14)
  obtain ⟨T17, h17, X17, e17, W17, st17⟩ := putF X14 hx hZ hown (host := "") (Or.inl (wd hw 19 rfl)) Via.refl e14 f15 f16 (Or.inl (wd hw 20 rfl)) (wd hw 2 rfl) (ty := (.array .boolean)) (by decide) rfl rfl (g := (mkF m 33 #[.val (.ref a1)] [(.ref b14), (.ref a1)])) rfl rfl (hb hby d1_33)
  have N17 := Fr.snoc X17 N13 (by omega : n0 ≤ a1)
  have sz17 : h14.size ≤ h17.size := Nat.le_of_eq W17.size.symm
  have f17 : Fld Z h17 a1 kS0 "rears" "[Z" (.ref b14) := f15.same W17
  have f18 : Exa Z h17 a1 kS0 := (f16.wr W17)
  have f19 : Fld Z h17 a1 kS0 "agents" "[I" (.ref b2) := ((((((f5.ext E6).other W9 (Or.inr (slot_ne (Or.inl (wd hw 12 rfl)) (Or.inl (wd hw 14 rfl)) (by decide) (t := (.array .int)) (t' := (.array .int)) (by decide) (by decide)))).ext E10).other W13 (Or.inr (slot_ne (Or.inl (wd hw 12 rfl)) (Or.inl (wd hw 17 rfl)) (by decide) (t := (.array .int)) (t' := (.array .double)) (by decide) (by decide)))).ext E14).other W17 (Or.inr (slot_ne (Or.inl (wd hw 12 rfl)) (Or.inl (wd hw 20 rfl)) (by decide) (t := (.array .int)) (t' := (.array .boolean)) (by decide) (by decide))))
  have f20 : Arv Z h17 b2 k2 .int (8 : Int32) [(.int 0), (.int 0), (.int 0), (.int 0), (.int 0), (.int 0), (.int 0), (.int 0)] (.int 0) := (((((((V2.other W5 (neN (by omega))).ext E6).other W9 (neN (by omega))).ext E10).other W13 (neN (by omega))).ext E14).other W17 (neN (by omega)))
  have f21 : Fld Z h17 a1 kS0 "legs" "[I" (.ref b6) := ((((f9.ext E10).other W13 (Or.inr (slot_ne (Or.inl (wd hw 14 rfl)) (Or.inl (wd hw 17 rfl)) (by decide) (t := (.array .int)) (t' := (.array .double)) (by decide) (by decide)))).ext E14).other W17 (Or.inr (slot_ne (Or.inl (wd hw 14 rfl)) (Or.inl (wd hw 20 rfl)) (by decide) (t := (.array .int)) (t' := (.array .boolean)) (by decide) (by decide))))
  have f22 : Arv Z h17 b6 k6 .int (8 : Int32) [(.int 0), (.int 0), (.int 0), (.int 0), (.int 0), (.int 0), (.int 0), (.int 0)] (.int 0) := (((((V6.other W9 (neN (by omega))).ext E10).other W13 (neN (by omega))).ext E14).other W17 (neN (by omega)))
  have f23 : Fld Z h17 a1 kS0 "amounts" "[D" (.ref b10) := ((f13.ext E14).other W17 (Or.inr (slot_ne (Or.inl (wd hw 17 rfl)) (Or.inl (wd hw 20 rfl)) (by decide) (t := (.array .double)) (t' := (.array .boolean)) (by decide) (by decide))))
  have f24 : Arv Z h17 b10 k10 .double (8 : Int32) [(.double (0 : UInt64)), (.double (0 : UInt64)), (.double (0 : UInt64)), (.double (0 : UInt64)), (.double (0 : UInt64)), (.double (0 : UInt64)), (.double (0 : UInt64)), (.double (0 : UInt64))] (.double (0 : UInt64)) := (((V10.other W13 (neN (by omega))).ext E14).other W17 (neN (by omega)))
  have f25 : Arv Z h17 b14 k14 .boolean (8 : Int32) [(.int 0), (.int 0), (.int 0), (.int 0), (.int 0), (.int 0), (.int 0), (.int 0)] (.int 0) := (V14.other W17 (neN (by omega)))
  have f26 : Fld Z h17 a1 kS0 "head" "I" u4 := ((((((((F4.ext E2).other W5 (Or.inr (slot_ne (Or.inl (wd hw 27 rfl)) (Or.inl (wd hw 12 rfl)) (by decide) (t := .int) (t' := (.array .int)) (by decide) (by decide)))).ext E6).other W9 (Or.inr (slot_ne (Or.inl (wd hw 27 rfl)) (Or.inl (wd hw 14 rfl)) (by decide) (t := .int) (t' := (.array .int)) (by decide) (by decide)))).ext E10).other W13 (Or.inr (slot_ne (Or.inl (wd hw 27 rfl)) (Or.inl (wd hw 17 rfl)) (by decide) (t := .int) (t' := (.array .double)) (by decide) (by decide)))).ext E14).other W17 (Or.inr (slot_ne (Or.inl (wd hw 27 rfl)) (Or.inl (wd hw 20 rfl)) (by decide) (t := .int) (t' := (.array .boolean)) (by decide) (by decide))))
  have f27 : Fld Z h17 a1 kS0 "size" "I" u5 := ((((((((F5.ext E2).other W5 (Or.inr (slot_ne (Or.inl (wd hw 29 rfl)) (Or.inl (wd hw 12 rfl)) (by decide) (t := .int) (t' := (.array .int)) (by decide) (by decide)))).ext E6).other W9 (Or.inr (slot_ne (Or.inl (wd hw 29 rfl)) (Or.inl (wd hw 14 rfl)) (by decide) (t := .int) (t' := (.array .int)) (by decide) (by decide)))).ext E10).other W13 (Or.inr (slot_ne (Or.inl (wd hw 29 rfl)) (Or.inl (wd hw 17 rfl)) (by decide) (t := .int) (t' := (.array .double)) (by decide) (by decide)))).ext E14).other W17 (Or.inr (slot_ne (Or.inl (wd hw 29 rfl)) (Or.inl (wd hw 20 rfl)) (by decide) (t := .int) (t' := (.array .boolean)) (by decide) (by decide))))
  have f28 : Fld Z h17 a1 kS0 "content" "D" u6 := ((((((((F6.ext E2).other W5 (Or.inr (slot_ne (Or.inl (wd hw 31 rfl)) (Or.inl (wd hw 12 rfl)) (by decide) (t := .double) (t' := (.array .int)) (by decide) (by decide)))).ext E6).other W9 (Or.inr (slot_ne (Or.inl (wd hw 31 rfl)) (Or.inl (wd hw 14 rfl)) (by decide) (t := .double) (t' := (.array .int)) (by decide) (by decide)))).ext E10).other W13 (Or.inr (slot_ne (Or.inl (wd hw 31 rfl)) (Or.inl (wd hw 17 rfl)) (by decide) (t := .double) (t' := (.array .double)) (by decide) (by decide)))).ext E14).other W17 (Or.inr (slot_ne (Or.inl (wd hw 31 rfl)) (Or.inl (wd hw 20 rfl)) (by decide) (t := .double) (t' := (.array .boolean)) (by decide) (by decide))))
  obtain ⟨fs, hr, hrun, hended, hW, hsame⟩ := X17.leave (v := none) (fun _ => rfl)
  refine ⟨_, _, pre0 _ ?_, hrun, hended, _, _, rfl, ?_, ⟨_, rfl⟩, hW, hsame.mono (by decide) (by decide)⟩
  · show GO p e below s₁ (mkF m 0 #[.val (.ref a1)] []) _
    refine XS.aloadN X0.here hx rfl (hb hby d1_0) rfl rfl ?_
    show GO p e below s₁ (mkF m 1 #[.val (.ref a1)] [(.ref a1)]) _
    refine st1 _ ?_
    show GO p e below T1 (mkF m 4 #[.val (.ref a1)] []) _
    refine XS.aloadN X1.here hx rfl (hb hby d1_4) rfl rfl ?_
    show GO p e below T1 (mkF m 5 #[.val (.ref a1)] [(.ref a1)]) _
    refine XS.bipush X1.here hx rfl (hb hby d1_5) ?_
    show GO p e below T1 (mkF m 7 #[.val (.ref a1)] [(.int 8), (.ref a1)]) _
    refine st2 _ ?_
    show GO p e below T2 (mkF m 9 #[.val (.ref a1)] [(.ref b2), (.ref a1)]) _
    refine st5 _ ?_
    show GO p e below T5 (mkF m 12 #[.val (.ref a1)] []) _
    refine XS.aloadN X5.here hx rfl (hb hby d1_12) rfl rfl ?_
    show GO p e below T5 (mkF m 13 #[.val (.ref a1)] [(.ref a1)]) _
    refine XS.bipush X5.here hx rfl (hb hby d1_13) ?_
    show GO p e below T5 (mkF m 15 #[.val (.ref a1)] [(.int 8), (.ref a1)]) _
    refine st6 _ ?_
    show GO p e below T6 (mkF m 17 #[.val (.ref a1)] [(.ref b6), (.ref a1)]) _
    refine st9 _ ?_
    show GO p e below T9 (mkF m 20 #[.val (.ref a1)] []) _
    refine XS.aloadN X9.here hx rfl (hb hby d1_20) rfl rfl ?_
    show GO p e below T9 (mkF m 21 #[.val (.ref a1)] [(.ref a1)]) _
    refine XS.bipush X9.here hx rfl (hb hby d1_21) ?_
    show GO p e below T9 (mkF m 23 #[.val (.ref a1)] [(.int 8), (.ref a1)]) _
    refine st10 _ ?_
    show GO p e below T10 (mkF m 25 #[.val (.ref a1)] [(.ref b10), (.ref a1)]) _
    refine st13 _ ?_
    show GO p e below T13 (mkF m 28 #[.val (.ref a1)] []) _
    refine XS.aloadN X13.here hx rfl (hb hby d1_28) rfl rfl ?_
    show GO p e below T13 (mkF m 29 #[.val (.ref a1)] [(.ref a1)]) _
    refine XS.bipush X13.here hx rfl (hb hby d1_29) ?_
    show GO p e below T13 (mkF m 31 #[.val (.ref a1)] [(.int 8), (.ref a1)]) _
    refine st14 _ ?_
    show GO p e below T14 (mkF m 33 #[.val (.ref a1)] [(.ref b14), (.ref a1)]) _
    refine st17 _ ?_
    show GO p e below T17 (mkF m 36 #[.val (.ref a1)] []) _
    exact X17.returnOut hx Bd.returns (hb hby d1_36) hr
  · show Qrm_1 Z a1 u0 u1 u2 u3 u4 u5 u6 h0 n0 _ T17.heap _
    rw [e17]
    exact ⟨b2, b6, b10, b14, k2, k6, k10, k14, rfl, N17, (((((((((Keep.refl h0 [a1]).ext E2).wr W5 (Or.inl (List.mem_of_getElem? (i := 0) rfl))).ext E6).wr W9 (Or.inl (List.mem_of_getElem? (i := 0) rfl))).ext E10).wr W13 (Or.inl (List.mem_of_getElem? (i := 0) rfl))).ext E14).wr W17 (Or.inl (List.mem_of_getElem? (i := 0) rfl))), f18, f19, f20, f21, f22, f23, f24, f17, f25, f26, f27, f28, (by omega), (by omega), (by omega), (by omega)⟩
def Qrm_add0 (Z : State) (a1 : Addr) (p2 : Int32) (p3 : Int32) (d4 : UInt64) (p5 : Int32) (c1 : UInt64) (t0 : Addr) (k0 : ClassId) (vA : List Value) (t1 : Addr) (k1 : ClassId) (vL : List Value) (t2 : Addr) (k2 : ClassId) (vD : List Value) (t3 : Addr) (k3 : ClassId) (vR : List Value) (h0 : Heap) (n0 : Nat) (v : Option Value) (h : Heap) (L : List Loc) : Prop := v = none ∧ Fr n0 L ∧ Keep h0 h [a1, t0, t1, t2, t3] ∧ Exa Z h a1 kS0 ∧ Fld Z h a1 kS0 "head" "I" (.int 0) ∧ Fld Z h a1 kS0 "size" "I" (.int 1) ∧ Fld Z h a1 kS0 "content" "D" (.double (FP.dadd c1 d4)) ∧ Fld Z h a1 kS0 "agents" "[I" (.ref t0) ∧ Arv Z h t0 k0 .int (8 : Int32) (vA.set 0 (.int p2)) (.int 0) ∧ Fld Z h a1 kS0 "legs" "[I" (.ref t1) ∧ Arv Z h t1 k1 .int (8 : Int32) (vL.set 0 (.int p3)) (.int 0) ∧ Fld Z h a1 kS0 "amounts" "[D" (.ref t2) ∧ Arv Z h t2 k2 .double (8 : Int32) (vD.set 0 (.double d4)) (.double (0 : UInt64)) ∧ Fld Z h a1 kS0 "rears" "[Z" (.ref t3) ∧ Arv Z h t3 k3 .boolean (8 : Int32) (vR.set 0 (.int (nar .boolean p5))) (.int 0)
theorem ef_rm_add0 (m : MethodId) (x0 : Addr) (x1 : Int32) (x2 : Int32) (x3 : UInt64) (x4 : Int32) : entryFrame m #[(.ref x0), (.int x1), (.int x2), (.double x3), (.int x4)] 9 = mkF m 0 (la0 x0 x1 x2 x3 x4) [] := by first | rfl | (simp [entryFrame, mkF, argsToLocals, Value.category]; done)
set_option maxRecDepth 65536 in
set_option maxHeartbeats 40000000 in
theorem rm_add0 (l : Launch) (Z : State) (a0 : Array Value) (hw : ∀ d ∈ tables_1, d.before a0 Z = true) (ws : List Jvm.Cond) (a1 : Addr) (p2 : Int32) (p3 : Int32) (d4 : UInt64) (p5 : Int32) (c1 : UInt64) (t0 : Addr) (k0 : ClassId) (vA : List Value) (t1 : Addr) (k1 : ClassId) (vL : List Value) (t2 : Addr) (k2 : ClassId) (vD : List Value) (t3 : Addr) (k3 : ClassId) (vR : List Value) (h0 : Heap) (n0 : Nat) (Z0 : n0 ≤ h0.size) (E1 : Exa Z h0 a1 kS0) (Fh : Fld Z h0 a1 kS0 "head" "I" (.int 0)) (Fs : Fld Z h0 a1 kS0 "size" "I" (.int 0)) (Fc : Fld Z h0 a1 kS0 "content" "D" (.double c1)) (F0 : Fld Z h0 a1 kS0 "agents" "[I" (.ref t0)) (V0 : Arv Z h0 t0 k0 .int (8 : Int32) vA (.int 0)) (F1 : Fld Z h0 a1 kS0 "legs" "[I" (.ref t1)) (V1 : Arv Z h0 t1 k1 .int (8 : Int32) vL (.int 0)) (F2 : Fld Z h0 a1 kS0 "amounts" "[D" (.ref t2)) (V2 : Arv Z h0 t2 k2 .double (8 : Int32) vD (.double (0 : UInt64))) (F3 : Fld Z h0 a1 kS0 "rears" "[Z" (.ref t3)) (V3 : Arv Z h0 t3 k3 .boolean (8 : Int32) vR (.int 0)) (len0 : vA.length = 8) (len1 : vL.length = 8) (len2 : vD.length = 8) (len3 : vR.length = 8) (o1 : LT.lt (α := Nat) a1 t0) (o2 : LT.lt (α := Nat) t0 t1) (o3 : LT.lt (α := Nat) t1 t2) (o4 : LT.lt (α := Nat) t2 t3) (g1 : n0 ≤ a1) (hn : Jvm.Free.Fl.NoNaN64 (FP.dadd c1 d4)) :
    MetFree l (⟨kS0, "add", "(IIDZ)V"⟩ : MethodName) (head1 (Jvm.Cond.code (⟨kS0, "add", "(IIDZ)V"⟩ : MethodName) prog_14_method_11_code 9 none :: ws) ({ frames := 0, cells := 0, slots := 0, locals := 0 } : Room)) (fun a U => a = #[(.ref a1), (.int p2), (.int p3), (.double d4), (.int p5)] ∧ Z.Warmed39 U.vm ∧ U.heap = h0) (fun _ _ _ _ _ => True) (fun _ U o U' => ∃ v L, o = .returned v ∧ Qrm_add0 Z a1 p2 p3 d4 p5 c1 t0 k0 vA t1 k1 vL t2 k2 vD t3 k3 vR h0 n0 v U'.heap L ∧ FrameEnd U o U' L ({ frames := 0, cells := 0, slots := 0, locals := 0 } : Room).cells ({ frames := 0, cells := 0, slots := 0, locals := 0 } : Room).slots) := by
  refine MetFree.of_bodySF (plainFor_of_name pn_0) hisR ?_
  intro p e s m args below meth c s₁ Bd hml0 hP hK
  obtain ⟨rfl, hZ, hh⟩ := hP
  have hx := Bd.exec
  have hby := Bd.bytes
  have hml : c.maxLocals = 9 := hml0
  have hown : s.vm.findClass kS0 = some m.cls := findClass_of_methodNamed Bd.named
  have hnm := (name_of_methodNamed Bd.named Bd.method).1
  have X0 : Stand p l e ({ frames := 0, cells := 0, slots := 0, locals := 0 } : Room) s m #[(.ref a1), (.int p2), (.int p3), (.double d4), (.int p5)] below meth c s₁ [] 0 0 := Stand.of_body Bd
  have e0 : s₁.heap = h0 := by rw [← hh, Bd.state]; rfl
  have N0 := Fr.nil n0
  have pre0 : ∀ t, Steps p.tables e below (s₁.setTop (mkF m 0 (la0 a1 p2 p3 d4 p5) [])) t → Steps p.tables e below (s₁.setTop (entryFrame m #[(.ref a1), (.int p2), (.int p3), (.double d4), (.int p5)] 9)) t := fun t k => castTop (ef_rm_add0 m a1 p2 p3 d4 p5) k
  have lt_E1 := ltA E1.lt
  have lt_Fh := ltA Fh.lt
  have lt_Fs := ltA Fs.lt
  have lt_Fc := ltA Fc.lt
  have lt_F0 := ltA F0.lt
  have lt_V0 := ltA V0.lt
  have lt_F1 := ltA F1.lt
  have lt_V1 := ltA V1.lt
  have lt_F2 := ltA F2.lt
  have lt_V2 := ltA V2.lt
  have lt_F3 := ltA F3.lt
  have lt_V3 := ltA V3.lt
  obtain ⟨T29, X29, e29, st29⟩ := getF X0 hx hZ hown (host := "") (Or.inl (wd hw 11 rfl)) Via.refl e0 F0 (g := (mkF m 1 (la0 a1 p2 p3 d4 p5) [(.ref a1)])) rfl rfl (hb hby d3_1)
  obtain ⟨cl30, Ar30, -, S30, M30, -, -⟩ := id V0
  obtain ⟨T31, X31, e31, st31⟩ := getF X29 hx hZ hown (host := "") (Or.inl (wd hw 26 rfl)) Via.refl e29 Fh (g := (mkF m 10 (la1 a1 p2 p3 d4 p5 (7 : Int32)) [(.ref a1)])) rfl rfl (hb hby d3_10)
  obtain ⟨T32, X32, e32, st32⟩ := getF X31 hx hZ hown (host := "") (Or.inl (wd hw 28 rfl)) Via.refl e31 Fs (g := (mkF m 14 (la1 a1 p2 p3 d4 p5 (7 : Int32)) [(.ref a1), (.int 0)])) rfl rfl (hb hby d3_14)
  obtain ⟨T33, X33, e33, st33⟩ := getF X32 hx hZ hown (host := "") (Or.inl (wd hw 28 rfl)) Via.refl e32 Fs (g := (mkF m 26 (la2 a1 p2 p3 d4 p5 (7 : Int32) (7 : Int32)) [(.ref a1)])) rfl rfl (hb hby d3_26)
  obtain ⟨T34, X34, e34, st34⟩ := getF X33 hx hZ hown (host := "") (Or.inl (wd hw 28 rfl)) Via.refl e33 Fs (g := (mkF m 78 (la2 a1 p2 p3 d4 p5 (7 : Int32) (7 : Int32)) [(.ref a1)])) rfl rfl (hb hby d3_78)
  obtain ⟨T35, X35, e35, st35⟩ := getF X34 hx hZ hown (host := "") (Or.inl (wd hw 11 rfl)) Via.refl e34 F0 (g := (mkF m 82 (la2 a1 p2 p3 d4 p5 (7 : Int32) (7 : Int32)) [(.ref a1), (.int 0)])) rfl rfl (hb hby d3_82)
  obtain ⟨cl36, Ar36, -, S36, M36, -, -⟩ := id V0
  obtain ⟨T37, X37, e37, st37⟩ := getF X35 hx hZ hown (host := "") (Or.inl (wd hw 26 rfl)) Via.refl e35 Fh (g := (mkF m 94 (la2 a1 p2 p3 d4 p5 (7 : Int32) (7 : Int32)) [(.ref a1)])) rfl rfl (hb hby d3_94)
  obtain ⟨T38, X38, e38, st38⟩ := getF X37 hx hZ hown (host := "") (Or.inl (wd hw 28 rfl)) Via.refl e37 Fs (g := (mkF m 98 (la2 a1 p2 p3 d4 p5 (7 : Int32) (7 : Int32)) [(.ref a1), (.int 0)])) rfl rfl (hb hby d3_98)
  obtain ⟨T39, X39, e39, st39⟩ := getF X38 hx hZ hown (host := "") (Or.inl (wd hw 11 rfl)) Via.refl e38 F0 (g := (mkF m 103 (la2 a1 p2 p3 d4 p5 (7 : Int32) (7 : Int32)) [(.ref a1), (.int 0)])) rfl rfl (hb hby d3_103)
  obtain ⟨cl40, Ar40, -, S40, M40, -, -⟩ := id V0
  obtain ⟨T41, X41, e41, st41⟩ := getF X39 hx hZ hown (host := "") (Or.inl (wd hw 11 rfl)) Via.refl e39 F0 (g := (mkF m 113 (la3 a1 p2 p3 d4 p5 (7 : Int32) (7 : Int32) (0 : Int32)) [(.ref a1)])) rfl rfl (hb hby d3_113)
  obtain ⟨cl42, Ar42, q42, S42, M42, H42, G42⟩ := id V0
  have hin42 : ¬ ((0 : Int32) < 0 ∨ cl42.slots.size ≤ ((0 : Int32)).toNatClampNeg) := inb_of S42 ⟨by decide, by decide⟩
  obtain ⟨T43, h43, X43, e43, W43, st43⟩ := stI X41 hx hZ e41 Ar42 (j := (0 : Int32)) hin42 (g := (mkF m 119 (la3 a1 p2 p3 d4 p5 (7 : Int32) (7 : Int32) (0 : Int32)) [(.int p2), (.int 0), (.ref t0)])) rfl rfl (hb hby d3_119)
  have N43 := Fr.snoc X43 N0 (by omega : n0 ≤ t0)
  have sz43 : h0.size ≤ h43.size := Nat.le_of_eq W43.size.symm
  have V43 : Arv Z h43 t0 k0 .int (8 : Int32) (vA.set 0 (.int p2)) (.int 0) := Arv.set Ar42 q42 S42 M42 H42 G42 rfl W43 0 rfl (by omega)
  have f44 : Fld Z h43 a1 kS0 "legs" "[I" (.ref t1) := (F1.other W43 (Or.inl (neN (by omega))))
  obtain ⟨T45, X45, e45, st45⟩ := getF X43 hx hZ hown (host := "") (Or.inl (wd hw 13 rfl)) Via.refl e43 f44 (g := (mkF m 121 (la3 a1 p2 p3 d4 p5 (7 : Int32) (7 : Int32) (0 : Int32)) [(.ref a1)])) rfl rfl (hb hby d3_121)
  have f46 : Arv Z h43 t1 k1 .int (8 : Int32) vL (.int 0) := (V1.other W43 (neN (by omega)))
  obtain ⟨cl47, Ar47, q47, S47, M47, H47, G47⟩ := id f46
  have hin47 : ¬ ((0 : Int32) < 0 ∨ cl47.slots.size ≤ ((0 : Int32)).toNatClampNeg) := inb_of S47 ⟨by decide, by decide⟩
  obtain ⟨T48, h48, X48, e48, W48, st48⟩ := stI X45 hx hZ e45 Ar47 (j := (0 : Int32)) hin47 (g := (mkF m 127 (la3 a1 p2 p3 d4 p5 (7 : Int32) (7 : Int32) (0 : Int32)) [(.int p3), (.int 0), (.ref t1)])) rfl rfl (hb hby d3_127)
  have N48 := Fr.snoc X48 N43 (by omega : n0 ≤ t1)
  have sz48 : h43.size ≤ h48.size := Nat.le_of_eq W48.size.symm
  have V48 : Arv Z h48 t1 k1 .int (8 : Int32) (vL.set 0 (.int p3)) (.int 0) := Arv.set Ar47 q47 S47 M47 H47 G47 rfl W48 0 rfl (by omega)
  have f49 : Fld Z h48 a1 kS0 "amounts" "[D" (.ref t2) := ((F2.other W43 (Or.inl (neN (by omega)))).other W48 (Or.inl (neN (by omega))))
  obtain ⟨T50, X50, e50, st50⟩ := getF X48 hx hZ hown (host := "") (Or.inl (wd hw 16 rfl)) Via.refl e48 f49 (g := (mkF m 129 (la3 a1 p2 p3 d4 p5 (7 : Int32) (7 : Int32) (0 : Int32)) [(.ref a1)])) rfl rfl (hb hby d3_129)
  have f51 : Arv Z h48 t2 k2 .double (8 : Int32) vD (.double (0 : UInt64)) := ((V2.other W43 (neN (by omega))).other W48 (neN (by omega)))
  obtain ⟨cl52, Ar52, q52, S52, M52, H52, G52⟩ := id f51
  have hin52 : ¬ ((0 : Int32) < 0 ∨ cl52.slots.size ≤ ((0 : Int32)).toNatClampNeg) := inb_of S52 ⟨by decide, by decide⟩
  obtain ⟨T53, h53, X53, e53, W53, st53⟩ := stD X50 hx hZ e50 Ar52 (j := (0 : Int32)) hin52 (g := (mkF m 135 (la3 a1 p2 p3 d4 p5 (7 : Int32) (7 : Int32) (0 : Int32)) [(.double d4), (.int 0), (.ref t2)])) rfl rfl (hb hby d3_135)
  have N53 := Fr.snoc X53 N48 (by omega : n0 ≤ t2)
  have sz53 : h48.size ≤ h53.size := Nat.le_of_eq W53.size.symm
  have V53 : Arv Z h53 t2 k2 .double (8 : Int32) (vD.set 0 (.double d4)) (.double (0 : UInt64)) := Arv.set Ar52 q52 S52 M52 H52 G52 rfl W53 0 rfl (by omega)
  have f54 : Fld Z h53 a1 kS0 "rears" "[Z" (.ref t3) := (((F3.other W43 (Or.inl (neN (by omega)))).other W48 (Or.inl (neN (by omega)))).other W53 (Or.inl (neN (by omega))))
  obtain ⟨T55, X55, e55, st55⟩ := getF X53 hx hZ hown (host := "") (Or.inl (wd hw 19 rfl)) Via.refl e53 f54 (g := (mkF m 137 (la3 a1 p2 p3 d4 p5 (7 : Int32) (7 : Int32) (0 : Int32)) [(.ref a1)])) rfl rfl (hb hby d3_137)
  have f56 : Arv Z h53 t3 k3 .boolean (8 : Int32) vR (.int 0) := (((V3.other W43 (neN (by omega))).other W48 (neN (by omega))).other W53 (neN (by omega)))
  obtain ⟨cl57, Ar57, q57, S57, M57, H57, G57⟩ := id f56
  have hin57 : ¬ ((0 : Int32) < 0 ∨ cl57.slots.size ≤ ((0 : Int32)).toNatClampNeg) := inb_of S57 ⟨by decide, by decide⟩
  obtain ⟨T58, h58, X58, e58, W58, st58⟩ := stZ X55 hx hZ e55 Ar57 (j := (0 : Int32)) hin57 (g := (mkF m 144 (la3 a1 p2 p3 d4 p5 (7 : Int32) (7 : Int32) (0 : Int32)) [(.int p5), (.int 0), (.ref t3)])) rfl rfl (hb hby d3_144)
  have N58 := Fr.snoc X58 N53 (by omega : n0 ≤ t3)
  have sz58 : h53.size ≤ h58.size := Nat.le_of_eq W58.size.symm
  have V58 : Arv Z h58 t3 k3 .boolean (8 : Int32) (vR.set 0 (.int (nar .boolean p5))) (.int 0) := Arv.set Ar57 q57 S57 M57 H57 G57 (fits_nar_bool _) W58 0 rfl (by omega)
  have f59 : Fld Z h58 a1 kS0 "size" "I" (.int 0) := ((((Fs.other W43 (Or.inl (neN (by omega)))).other W48 (Or.inl (neN (by omega)))).other W53 (Or.inl (neN (by omega)))).other W58 (Or.inl (neN (by omega))))
  obtain ⟨T60, X60, e60, st60⟩ := getF X58 hx hZ hown (host := "") (Or.inl (wd hw 28 rfl)) Via.refl e58 f59 (g := (mkF m 147 (la3 a1 p2 p3 d4 p5 (7 : Int32) (7 : Int32) (0 : Int32)) [(.ref a1), (.ref a1)])) rfl rfl (hb hby d3_147)
  have f61 : Exa Z h58 a1 kS0 := ((((E1.wr W43).wr W48).wr W53).wr W58)
  obtain ⟨T62, h62, X62, e62, W62, st62⟩ := putF X60 hx hZ hown (host := "") (Or.inl (wd hw 28 rfl)) Via.refl e60 f59 f61 (Or.inl (wd hw 29 rfl)) (wd hw 2 rfl) (ty := .int) (by decide) rfl rfl (g := (mkF m 152 (la3 a1 p2 p3 d4 p5 (7 : Int32) (7 : Int32) (0 : Int32)) [(.int 1), (.ref a1)])) rfl rfl (hb hby d3_152)
  have N62 := Fr.snoc X62 N58 (by omega : n0 ≤ a1)
  have sz62 : h58.size ≤ h62.size := Nat.le_of_eq W62.size.symm
  have f62 : Fld Z h62 a1 kS0 "size" "I" (.int 1) := f59.same W62
  have f63 : Fld Z h62 a1 kS0 "content" "D" (.double c1) := (((((Fc.other W43 (Or.inl (neN (by omega)))).other W48 (Or.inl (neN (by omega)))).other W53 (Or.inl (neN (by omega)))).other W58 (Or.inl (neN (by omega)))).other W62 (Or.inr (slot_ne (Or.inl (wd hw 31 rfl)) (Or.inl (wd hw 29 rfl)) (by decide) (t := .double) (t' := .int) (by decide) (by decide))))
  obtain ⟨T64, X64, e64, st64⟩ := getF X62 hx hZ hown (host := "") (Or.inl (wd hw 30 rfl)) Via.refl e62 f63 (g := (mkF m 157 (la3 a1 p2 p3 d4 p5 (7 : Int32) (7 : Int32) (0 : Int32)) [(.ref a1), (.ref a1)])) rfl rfl (hb hby d3_157)
  have f65 : Exa Z h62 a1 kS0 := (f61.wr W62)
  obtain ⟨T66, h66, X66, e66, W66, st66⟩ := putF X64 hx hZ hown (host := "") (Or.inl (wd hw 30 rfl)) Via.refl e64 f63 f65 (Or.inl (wd hw 31 rfl)) (wd hw 2 rfl) (ty := .double) (by decide) rfl rfl (g := (mkF m 162 (la3 a1 p2 p3 d4 p5 (7 : Int32) (7 : Int32) (0 : Int32)) [(.double (FP.dadd c1 d4)), (.ref a1)])) rfl rfl (hb hby d3_162)
  have N66 := Fr.snoc X66 N62 (by omega : n0 ≤ a1)
  have sz66 : h62.size ≤ h66.size := Nat.le_of_eq W66.size.symm
  have f66 : Fld Z h66 a1 kS0 "content" "D" (.double (FP.dadd c1 d4)) := f63.same W66
  have f67 : Exa Z h66 a1 kS0 := (f65.wr W66)
  have f68 : Fld Z h66 a1 kS0 "head" "I" (.int 0) := ((((((Fh.other W43 (Or.inl (neN (by omega)))).other W48 (Or.inl (neN (by omega)))).other W53 (Or.inl (neN (by omega)))).other W58 (Or.inl (neN (by omega)))).other W62 (Or.inr (slot_ne (Or.inl (wd hw 27 rfl)) (Or.inl (wd hw 29 rfl)) (by decide) (t := .int) (t' := .int) (by decide) (by decide)))).other W66 (Or.inr (slot_ne (Or.inl (wd hw 27 rfl)) (Or.inl (wd hw 31 rfl)) (by decide) (t := .int) (t' := .double) (by decide) (by decide))))
  have f69 : Fld Z h66 a1 kS0 "size" "I" (.int 1) := (f62.other W66 (Or.inr (slot_ne (Or.inl (wd hw 29 rfl)) (Or.inl (wd hw 31 rfl)) (by decide) (t := .int) (t' := .double) (by decide) (by decide))))
  have f70 : Fld Z h66 a1 kS0 "agents" "[I" (.ref t0) := ((((((F0.other W43 (Or.inl (neN (by omega)))).other W48 (Or.inl (neN (by omega)))).other W53 (Or.inl (neN (by omega)))).other W58 (Or.inl (neN (by omega)))).other W62 (Or.inr (slot_ne (Or.inl (wd hw 12 rfl)) (Or.inl (wd hw 29 rfl)) (by decide) (t := (.array .int)) (t' := .int) (by decide) (by decide)))).other W66 (Or.inr (slot_ne (Or.inl (wd hw 12 rfl)) (Or.inl (wd hw 31 rfl)) (by decide) (t := (.array .int)) (t' := .double) (by decide) (by decide))))
  have f71 : Arv Z h66 t0 k0 .int (8 : Int32) (vA.set 0 (.int p2)) (.int 0) := (((((V43.other W48 (neN (by omega))).other W53 (neN (by omega))).other W58 (neN (by omega))).other W62 (neN (by omega))).other W66 (neN (by omega)))
  have f72 : Fld Z h66 a1 kS0 "legs" "[I" (.ref t1) := (((((f44.other W48 (Or.inl (neN (by omega)))).other W53 (Or.inl (neN (by omega)))).other W58 (Or.inl (neN (by omega)))).other W62 (Or.inr (slot_ne (Or.inl (wd hw 14 rfl)) (Or.inl (wd hw 29 rfl)) (by decide) (t := (.array .int)) (t' := .int) (by decide) (by decide)))).other W66 (Or.inr (slot_ne (Or.inl (wd hw 14 rfl)) (Or.inl (wd hw 31 rfl)) (by decide) (t := (.array .int)) (t' := .double) (by decide) (by decide))))
  have f73 : Arv Z h66 t1 k1 .int (8 : Int32) (vL.set 0 (.int p3)) (.int 0) := ((((V48.other W53 (neN (by omega))).other W58 (neN (by omega))).other W62 (neN (by omega))).other W66 (neN (by omega)))
  have f74 : Fld Z h66 a1 kS0 "amounts" "[D" (.ref t2) := ((((f49.other W53 (Or.inl (neN (by omega)))).other W58 (Or.inl (neN (by omega)))).other W62 (Or.inr (slot_ne (Or.inl (wd hw 17 rfl)) (Or.inl (wd hw 29 rfl)) (by decide) (t := (.array .double)) (t' := .int) (by decide) (by decide)))).other W66 (Or.inr (slot_ne (Or.inl (wd hw 17 rfl)) (Or.inl (wd hw 31 rfl)) (by decide) (t := (.array .double)) (t' := .double) (by decide) (by decide))))
  have f75 : Arv Z h66 t2 k2 .double (8 : Int32) (vD.set 0 (.double d4)) (.double (0 : UInt64)) := (((V53.other W58 (neN (by omega))).other W62 (neN (by omega))).other W66 (neN (by omega)))
  have f76 : Fld Z h66 a1 kS0 "rears" "[Z" (.ref t3) := (((f54.other W58 (Or.inl (neN (by omega)))).other W62 (Or.inr (slot_ne (Or.inl (wd hw 20 rfl)) (Or.inl (wd hw 29 rfl)) (by decide) (t := (.array .boolean)) (t' := .int) (by decide) (by decide)))).other W66 (Or.inr (slot_ne (Or.inl (wd hw 20 rfl)) (Or.inl (wd hw 31 rfl)) (by decide) (t := (.array .boolean)) (t' := .double) (by decide) (by decide))))
  have f77 : Arv Z h66 t3 k3 .boolean (8 : Int32) (vR.set 0 (.int (nar .boolean p5))) (.int 0) := ((V58.other W62 (neN (by omega))).other W66 (neN (by omega)))
  obtain ⟨fs, hr, hrun, hended, hW, hsame⟩ := X66.leave (v := none) (fun _ => rfl)
  refine ⟨_, _, pre0 _ ?_, hrun, hended, _, _, rfl, ?_, ⟨_, rfl⟩, hW, hsame.mono (by decide) (by decide)⟩
  · show GO p e below s₁ (mkF m 0 (la0 a1 p2 p3 d4 p5) []) _
    refine XS.aloadN X0.here hx rfl (hb hby d3_0) rfl rfl ?_
    show GO p e below s₁ (mkF m 1 (la0 a1 p2 p3 d4 p5) [(.ref a1)]) _
    refine st29 _ ?_
    show GO p e below T29 (mkF m 4 (la0 a1 p2 p3 d4 p5) [(.ref t0)]) _
    refine X29.arraylength hx (by rw [e29]; exact Ar30.1) (State.isArrayOf_alike hZ.alike Ar30.2.1) (g := (mkF m 4 (la0 a1 p2 p3 d4 p5) [(.ref t0)])) rfl rfl (hb hby d3_4) _ ?_
    rw [len_of S30 M30]
    show GO p e below T29 (mkF m 5 (la0 a1 p2 p3 d4 p5) [(.int 8)]) _
    refine XS.iconst X29.here hx rfl (hb hby d3_5) ?_
    show GO p e below T29 (mkF m 6 (la0 a1 p2 p3 d4 p5) [(.int 1), (.int 8)]) _
    refine XS.isub X29.here hx rfl (hb hby d3_6) rfl ?_
    rw [show ((8 : Int32) - (1 : Int32)) = (7 : Int32) from by decide]
    show GO p e below T29 (mkF m 7 (la0 a1 p2 p3 d4 p5) [(.int 7)]) _
    refine XS.istore X29.here hx rfl (hb hby d3_7) rfl (l' := (la1 a1 p2 p3 d4 p5 (7 : Int32))) rfl ?_
    show GO p e below T29 (mkF m 9 (la1 a1 p2 p3 d4 p5 (7 : Int32)) []) _
    refine XS.aloadN X29.here hx rfl (hb hby d3_9) rfl rfl ?_
    show GO p e below T29 (mkF m 10 (la1 a1 p2 p3 d4 p5 (7 : Int32)) [(.ref a1)]) _
    refine st31 _ ?_
    show GO p e below T31 (mkF m 13 (la1 a1 p2 p3 d4 p5 (7 : Int32)) [(.int 0)]) _
    refine XS.aloadN X31.here hx rfl (hb hby d3_13) rfl rfl ?_
    show GO p e below T31 (mkF m 14 (la1 a1 p2 p3 d4 p5 (7 : Int32)) [(.ref a1), (.int 0)]) _
    refine st32 _ ?_
    show GO p e below T32 (mkF m 17 (la1 a1 p2 p3 d4 p5 (7 : Int32)) [(.int 0), (.int 0)]) _
    refine XS.iadd X32.here hx rfl (hb hby d3_17) rfl ?_
    rw [show ((0 : Int32) + (0 : Int32)) = (0 : Int32) from by decide]
    show GO p e below T32 (mkF m 18 (la1 a1 p2 p3 d4 p5 (7 : Int32)) [(.int 0)]) _
    refine XS.iconst X32.here hx rfl (hb hby d3_18) ?_
    show GO p e below T32 (mkF m 19 (la1 a1 p2 p3 d4 p5 (7 : Int32)) [(.int 1), (.int 0)]) _
    refine XS.isub X32.here hx rfl (hb hby d3_19) rfl ?_
    rw [show ((0 : Int32) - (1 : Int32)) = (-1 : Int32) from by decide]
    show GO p e below T32 (mkF m 20 (la1 a1 p2 p3 d4 p5 (7 : Int32)) [(.int (-1))]) _
    refine XS.iload X32.here hx rfl (hb hby d3_20) rfl ?_
    show GO p e below T32 (mkF m 22 (la1 a1 p2 p3 d4 p5 (7 : Int32)) [(.int 7), (.int (-1))]) _
    refine XS.iand X32.here hx rfl (hb hby d3_22) rfl ?_
    rw [show ((-1 : Int32) &&& (7 : Int32)) = (7 : Int32) from by decide]
    show GO p e below T32 (mkF m 23 (la1 a1 p2 p3 d4 p5 (7 : Int32)) [(.int 7)]) _
    refine XS.istore X32.here hx rfl (hb hby d3_23) rfl (l' := (la2 a1 p2 p3 d4 p5 (7 : Int32) (7 : Int32))) rfl ?_
    show GO p e below T32 (mkF m 25 (la2 a1 p2 p3 d4 p5 (7 : Int32) (7 : Int32)) []) _
    refine XS.aloadN X32.here hx rfl (hb hby d3_25) rfl rfl ?_
    show GO p e below T32 (mkF m 26 (la2 a1 p2 p3 d4 p5 (7 : Int32) (7 : Int32)) [(.ref a1)]) _
    refine st33 _ ?_
    show GO p e below T33 (mkF m 29 (la2 a1 p2 p3 d4 p5 (7 : Int32) (7 : Int32)) [(.int 0)]) _
    refine XS.ifYes X33.here hx rfl (pc0 := 29) (pc' := 77) rfl (hb hby d3_29) rfl ((if0 _ _).trans (flt ((by decide) : ¬ ((0 : Int32) < (0 : Int32)))).2.2.2) (by decide) (by decide) ?_
    show GO p e below T33 (mkF m 77 (la2 a1 p2 p3 d4 p5 (7 : Int32) (7 : Int32)) []) _
    refine XS.aloadN X33.here hx rfl (hb hby d3_77) rfl rfl ?_
    show GO p e below T33 (mkF m 78 (la2 a1 p2 p3 d4 p5 (7 : Int32) (7 : Int32)) [(.ref a1)]) _
    refine st34 _ ?_
    show GO p e below T34 (mkF m 81 (la2 a1 p2 p3 d4 p5 (7 : Int32) (7 : Int32)) [(.int 0)]) _
    refine XS.aloadN X34.here hx rfl (hb hby d3_81) rfl rfl ?_
    show GO p e below T34 (mkF m 82 (la2 a1 p2 p3 d4 p5 (7 : Int32) (7 : Int32)) [(.ref a1), (.int 0)]) _
    refine st35 _ ?_
    show GO p e below T35 (mkF m 85 (la2 a1 p2 p3 d4 p5 (7 : Int32) (7 : Int32)) [(.ref t0), (.int 0)]) _
    refine X35.arraylength hx (by rw [e35]; exact Ar36.1) (State.isArrayOf_alike hZ.alike Ar36.2.1) (g := (mkF m 85 (la2 a1 p2 p3 d4 p5 (7 : Int32) (7 : Int32)) [(.ref t0), (.int 0)])) rfl rfl (hb hby d3_85) _ ?_
    rw [len_of S36 M36]
    show GO p e below T35 (mkF m 86 (la2 a1 p2 p3 d4 p5 (7 : Int32) (7 : Int32)) [(.int 8), (.int 0)]) _
    refine XS.icmpYes X35.here hx rfl (pc0 := 86) (pc' := 93) rfl (hb hby d3_86) rfl (feq ((by decide) : ¬ ((0 : Int32) = (8 : Int32)))).2 (by decide) (by decide) ?_
    show GO p e below T35 (mkF m 93 (la2 a1 p2 p3 d4 p5 (7 : Int32) (7 : Int32)) []) _
    refine XS.aloadN X35.here hx rfl (hb hby d3_93) rfl rfl ?_
    show GO p e below T35 (mkF m 94 (la2 a1 p2 p3 d4 p5 (7 : Int32) (7 : Int32)) [(.ref a1)]) _
    refine st37 _ ?_
    show GO p e below T37 (mkF m 97 (la2 a1 p2 p3 d4 p5 (7 : Int32) (7 : Int32)) [(.int 0)]) _
    refine XS.aloadN X37.here hx rfl (hb hby d3_97) rfl rfl ?_
    show GO p e below T37 (mkF m 98 (la2 a1 p2 p3 d4 p5 (7 : Int32) (7 : Int32)) [(.ref a1), (.int 0)]) _
    refine st38 _ ?_
    show GO p e below T38 (mkF m 101 (la2 a1 p2 p3 d4 p5 (7 : Int32) (7 : Int32)) [(.int 0), (.int 0)]) _
    refine XS.iadd X38.here hx rfl (hb hby d3_101) rfl ?_
    rw [show ((0 : Int32) + (0 : Int32)) = (0 : Int32) from by decide]
    show GO p e below T38 (mkF m 102 (la2 a1 p2 p3 d4 p5 (7 : Int32) (7 : Int32)) [(.int 0)]) _
    refine XS.aloadN X38.here hx rfl (hb hby d3_102) rfl rfl ?_
    show GO p e below T38 (mkF m 103 (la2 a1 p2 p3 d4 p5 (7 : Int32) (7 : Int32)) [(.ref a1), (.int 0)]) _
    refine st39 _ ?_
    show GO p e below T39 (mkF m 106 (la2 a1 p2 p3 d4 p5 (7 : Int32) (7 : Int32)) [(.ref t0), (.int 0)]) _
    refine X39.arraylength hx (by rw [e39]; exact Ar40.1) (State.isArrayOf_alike hZ.alike Ar40.2.1) (g := (mkF m 106 (la2 a1 p2 p3 d4 p5 (7 : Int32) (7 : Int32)) [(.ref t0), (.int 0)])) rfl rfl (hb hby d3_106) _ ?_
    rw [len_of S40 M40]
    show GO p e below T39 (mkF m 107 (la2 a1 p2 p3 d4 p5 (7 : Int32) (7 : Int32)) [(.int 8), (.int 0)]) _
    refine XS.iconst X39.here hx rfl (hb hby d3_107) ?_
    show GO p e below T39 (mkF m 108 (la2 a1 p2 p3 d4 p5 (7 : Int32) (7 : Int32)) [(.int 1), (.int 8), (.int 0)]) _
    refine XS.isub X39.here hx rfl (hb hby d3_108) rfl ?_
    rw [show ((8 : Int32) - (1 : Int32)) = (7 : Int32) from by decide]
    show GO p e below T39 (mkF m 109 (la2 a1 p2 p3 d4 p5 (7 : Int32) (7 : Int32)) [(.int 7), (.int 0)]) _
    refine XS.iand X39.here hx rfl (hb hby d3_109) rfl ?_
    rw [show ((0 : Int32) &&& (7 : Int32)) = (0 : Int32) from by decide]
    show GO p e below T39 (mkF m 110 (la2 a1 p2 p3 d4 p5 (7 : Int32) (7 : Int32)) [(.int 0)]) _
    refine XS.istore X39.here hx rfl (hb hby d3_110) rfl (l' := (la3 a1 p2 p3 d4 p5 (7 : Int32) (7 : Int32) (0 : Int32))) rfl ?_
    show GO p e below T39 (mkF m 112 (la3 a1 p2 p3 d4 p5 (7 : Int32) (7 : Int32) (0 : Int32)) []) _
    refine XS.aloadN X39.here hx rfl (hb hby d3_112) rfl rfl ?_
    show GO p e below T39 (mkF m 113 (la3 a1 p2 p3 d4 p5 (7 : Int32) (7 : Int32) (0 : Int32)) [(.ref a1)]) _
    refine st41 _ ?_
    show GO p e below T41 (mkF m 116 (la3 a1 p2 p3 d4 p5 (7 : Int32) (7 : Int32) (0 : Int32)) [(.ref t0)]) _
    refine XS.iload X41.here hx rfl (hb hby d3_116) rfl ?_
    show GO p e below T41 (mkF m 118 (la3 a1 p2 p3 d4 p5 (7 : Int32) (7 : Int32) (0 : Int32)) [(.int 0), (.ref t0)]) _
    refine XS.iloadN X41.here hx rfl (hb hby d3_118) rfl ?_
    show GO p e below T41 (mkF m 119 (la3 a1 p2 p3 d4 p5 (7 : Int32) (7 : Int32) (0 : Int32)) [(.int p2), (.int 0), (.ref t0)]) _
    refine st43 _ ?_
    show GO p e below T43 (mkF m 120 (la3 a1 p2 p3 d4 p5 (7 : Int32) (7 : Int32) (0 : Int32)) []) _
    refine XS.aloadN X43.here hx rfl (hb hby d3_120) rfl rfl ?_
    show GO p e below T43 (mkF m 121 (la3 a1 p2 p3 d4 p5 (7 : Int32) (7 : Int32) (0 : Int32)) [(.ref a1)]) _
    refine st45 _ ?_
    show GO p e below T45 (mkF m 124 (la3 a1 p2 p3 d4 p5 (7 : Int32) (7 : Int32) (0 : Int32)) [(.ref t1)]) _
    refine XS.iload X45.here hx rfl (hb hby d3_124) rfl ?_
    show GO p e below T45 (mkF m 126 (la3 a1 p2 p3 d4 p5 (7 : Int32) (7 : Int32) (0 : Int32)) [(.int 0), (.ref t1)]) _
    refine XS.iloadN X45.here hx rfl (hb hby d3_126) rfl ?_
    show GO p e below T45 (mkF m 127 (la3 a1 p2 p3 d4 p5 (7 : Int32) (7 : Int32) (0 : Int32)) [(.int p3), (.int 0), (.ref t1)]) _
    refine st48 _ ?_
    show GO p e below T48 (mkF m 128 (la3 a1 p2 p3 d4 p5 (7 : Int32) (7 : Int32) (0 : Int32)) []) _
    refine XS.aloadN X48.here hx rfl (hb hby d3_128) rfl rfl ?_
    show GO p e below T48 (mkF m 129 (la3 a1 p2 p3 d4 p5 (7 : Int32) (7 : Int32) (0 : Int32)) [(.ref a1)]) _
    refine st50 _ ?_
    show GO p e below T50 (mkF m 132 (la3 a1 p2 p3 d4 p5 (7 : Int32) (7 : Int32) (0 : Int32)) [(.ref t2)]) _
    refine XS.iload X50.here hx rfl (hb hby d3_132) rfl ?_
    show GO p e below T50 (mkF m 134 (la3 a1 p2 p3 d4 p5 (7 : Int32) (7 : Int32) (0 : Int32)) [(.int 0), (.ref t2)]) _
    refine XS.dloadN X50.here hx rfl (hb hby d3_134) rfl ?_
    show GO p e below T50 (mkF m 135 (la3 a1 p2 p3 d4 p5 (7 : Int32) (7 : Int32) (0 : Int32)) [(.double d4), (.int 0), (.ref t2)]) _
    refine st53 _ ?_
    show GO p e below T53 (mkF m 136 (la3 a1 p2 p3 d4 p5 (7 : Int32) (7 : Int32) (0 : Int32)) []) _
    refine XS.aloadN X53.here hx rfl (hb hby d3_136) rfl rfl ?_
    show GO p e below T53 (mkF m 137 (la3 a1 p2 p3 d4 p5 (7 : Int32) (7 : Int32) (0 : Int32)) [(.ref a1)]) _
    refine st55 _ ?_
    show GO p e below T55 (mkF m 140 (la3 a1 p2 p3 d4 p5 (7 : Int32) (7 : Int32) (0 : Int32)) [(.ref t3)]) _
    refine XS.iload X55.here hx rfl (hb hby d3_140) rfl ?_
    show GO p e below T55 (mkF m 142 (la3 a1 p2 p3 d4 p5 (7 : Int32) (7 : Int32) (0 : Int32)) [(.int 0), (.ref t3)]) _
    refine XS.iload X55.here hx rfl (hb hby d3_142) rfl ?_
    show GO p e below T55 (mkF m 144 (la3 a1 p2 p3 d4 p5 (7 : Int32) (7 : Int32) (0 : Int32)) [(.int p5), (.int 0), (.ref t3)]) _
    refine st58 _ ?_
    show GO p e below T58 (mkF m 145 (la3 a1 p2 p3 d4 p5 (7 : Int32) (7 : Int32) (0 : Int32)) []) _
    refine XS.aloadN X58.here hx rfl (hb hby d3_145) rfl rfl ?_
    show GO p e below T58 (mkF m 146 (la3 a1 p2 p3 d4 p5 (7 : Int32) (7 : Int32) (0 : Int32)) [(.ref a1)]) _
    refine XS.dup X58.here hx rfl (hb hby d3_146) rfl rfl ?_
    show GO p e below T58 (mkF m 147 (la3 a1 p2 p3 d4 p5 (7 : Int32) (7 : Int32) (0 : Int32)) [(.ref a1), (.ref a1)]) _
    refine st60 _ ?_
    show GO p e below T60 (mkF m 150 (la3 a1 p2 p3 d4 p5 (7 : Int32) (7 : Int32) (0 : Int32)) [(.int 0), (.ref a1)]) _
    refine XS.iconst X60.here hx rfl (hb hby d3_150) ?_
    show GO p e below T60 (mkF m 151 (la3 a1 p2 p3 d4 p5 (7 : Int32) (7 : Int32) (0 : Int32)) [(.int 1), (.int 0), (.ref a1)]) _
    refine XS.iadd X60.here hx rfl (hb hby d3_151) rfl ?_
    rw [show ((0 : Int32) + (1 : Int32)) = (1 : Int32) from by decide]
    show GO p e below T60 (mkF m 152 (la3 a1 p2 p3 d4 p5 (7 : Int32) (7 : Int32) (0 : Int32)) [(.int 1), (.ref a1)]) _
    refine st62 _ ?_
    show GO p e below T62 (mkF m 155 (la3 a1 p2 p3 d4 p5 (7 : Int32) (7 : Int32) (0 : Int32)) []) _
    refine XS.aloadN X62.here hx rfl (hb hby d3_155) rfl rfl ?_
    show GO p e below T62 (mkF m 156 (la3 a1 p2 p3 d4 p5 (7 : Int32) (7 : Int32) (0 : Int32)) [(.ref a1)]) _
    refine XS.dup X62.here hx rfl (hb hby d3_156) rfl rfl ?_
    show GO p e below T62 (mkF m 157 (la3 a1 p2 p3 d4 p5 (7 : Int32) (7 : Int32) (0 : Int32)) [(.ref a1), (.ref a1)]) _
    refine st64 _ ?_
    show GO p e below T64 (mkF m 160 (la3 a1 p2 p3 d4 p5 (7 : Int32) (7 : Int32) (0 : Int32)) [(.double c1), (.ref a1)]) _
    refine XS.dloadN X64.here hx rfl (hb hby d3_160) rfl ?_
    show GO p e below T64 (mkF m 161 (la3 a1 p2 p3 d4 p5 (7 : Int32) (7 : Int32) (0 : Int32)) [(.double d4), (.double c1), (.ref a1)]) _
    refine XS.daddS X64.here hx rfl (hb hby d3_161) rfl hn rfl ?_
    show GO p e below T64 (mkF m 162 (la3 a1 p2 p3 d4 p5 (7 : Int32) (7 : Int32) (0 : Int32)) [(.double (FP.dadd c1 d4)), (.ref a1)]) _
    refine st66 _ ?_
    show GO p e below T66 (mkF m 165 (la3 a1 p2 p3 d4 p5 (7 : Int32) (7 : Int32) (0 : Int32)) []) _
    exact X66.returnOut hx Bd.returns (hb hby d3_165) hr
  · show Qrm_add0 Z a1 p2 p3 d4 p5 c1 t0 k0 vA t1 k1 vL t2 k2 vD t3 k3 vR h0 n0 _ T66.heap _
    rw [e66]
    exact ⟨rfl, N66, (((((((Keep.refl h0 [a1, t0, t1, t2, t3]).wr W43 (Or.inl (List.mem_of_getElem? (i := 1) rfl))).wr W48 (Or.inl (List.mem_of_getElem? (i := 2) rfl))).wr W53 (Or.inl (List.mem_of_getElem? (i := 3) rfl))).wr W58 (Or.inl (List.mem_of_getElem? (i := 4) rfl))).wr W62 (Or.inl (List.mem_of_getElem? (i := 0) rfl))).wr W66 (Or.inl (List.mem_of_getElem? (i := 0) rfl))), f67, f68, f69, f66, f70, f71, f72, f73, f74, f75, f76, f77⟩
def Qrm_add1 (Z : State) (a1 : Addr) (p2 : Int32) (p3 : Int32) (d4 : UInt64) (p5 : Int32) (c1 : UInt64) (t0 : Addr) (k0 : ClassId) (vA : List Value) (t1 : Addr) (k1 : ClassId) (vL : List Value) (t2 : Addr) (k2 : ClassId) (vD : List Value) (t3 : Addr) (k3 : ClassId) (vR : List Value) (x7 : Int32) (h0 : Heap) (n0 : Nat) (v : Option Value) (h : Heap) (L : List Loc) : Prop := v = none ∧ Fr n0 L ∧ Keep h0 h [a1, t0, t1, t2, t3] ∧ Exa Z h a1 kS0 ∧ Fld Z h a1 kS0 "head" "I" (.int 0) ∧ Fld Z h a1 kS0 "size" "I" (.int 2) ∧ Fld Z h a1 kS0 "content" "D" (.double (FP.dadd c1 d4)) ∧ Fld Z h a1 kS0 "agents" "[I" (.ref t0) ∧ Arv Z h t0 k0 .int (8 : Int32) (vA.set 1 (.int p2)) (.int 0) ∧ Fld Z h a1 kS0 "legs" "[I" (.ref t1) ∧ Arv Z h t1 k1 .int (8 : Int32) (vL.set 1 (.int p3)) (.int 0) ∧ Fld Z h a1 kS0 "amounts" "[D" (.ref t2) ∧ Arv Z h t2 k2 .double (8 : Int32) (vD.set 1 (.double d4)) (.double (0 : UInt64)) ∧ Fld Z h a1 kS0 "rears" "[Z" (.ref t3) ∧ Arv Z h t3 k3 .boolean (8 : Int32) (vR.set 1 (.int (nar .boolean p5))) (.int 0)
theorem ef_rm_add1 (m : MethodId) (x0 : Addr) (x1 : Int32) (x2 : Int32) (x3 : UInt64) (x4 : Int32) : entryFrame m #[(.ref x0), (.int x1), (.int x2), (.double x3), (.int x4)] 9 = mkF m 0 (la0 x0 x1 x2 x3 x4) [] := by first | rfl | (simp [entryFrame, mkF, argsToLocals, Value.category]; done)
set_option maxRecDepth 65536 in
set_option maxHeartbeats 40000000 in
theorem rm_add1 (l : Launch) (Z : State) (a0 : Array Value) (hw : ∀ d ∈ tables_1, d.before a0 Z = true) (ws : List Jvm.Cond) (a1 : Addr) (p2 : Int32) (p3 : Int32) (d4 : UInt64) (p5 : Int32) (c1 : UInt64) (t0 : Addr) (k0 : ClassId) (vA : List Value) (t1 : Addr) (k1 : ClassId) (vL : List Value) (t2 : Addr) (k2 : ClassId) (vD : List Value) (t3 : Addr) (k3 : ClassId) (vR : List Value) (x7 : Int32) (h0 : Heap) (n0 : Nat) (Z0 : n0 ≤ h0.size) (E1 : Exa Z h0 a1 kS0) (Fh : Fld Z h0 a1 kS0 "head" "I" (.int 0)) (Fs : Fld Z h0 a1 kS0 "size" "I" (.int 1)) (Fc : Fld Z h0 a1 kS0 "content" "D" (.double c1)) (F0 : Fld Z h0 a1 kS0 "agents" "[I" (.ref t0)) (V0 : Arv Z h0 t0 k0 .int (8 : Int32) vA (.int 0)) (F1 : Fld Z h0 a1 kS0 "legs" "[I" (.ref t1)) (V1 : Arv Z h0 t1 k1 .int (8 : Int32) vL (.int 0)) (F2 : Fld Z h0 a1 kS0 "amounts" "[D" (.ref t2)) (V2 : Arv Z h0 t2 k2 .double (8 : Int32) vD (.double (0 : UInt64))) (F3 : Fld Z h0 a1 kS0 "rears" "[Z" (.ref t3)) (V3 : Arv Z h0 t3 k3 .boolean (8 : Int32) vR (.int 0)) (len0 : vA.length = 8) (len1 : vL.length = 8) (len2 : vD.length = 8) (len3 : vR.length = 8) (o1 : LT.lt (α := Nat) a1 t0) (o2 : LT.lt (α := Nat) t0 t1) (o3 : LT.lt (α := Nat) t1 t2) (o4 : LT.lt (α := Nat) t2 t3) (g1 : n0 ≤ a1) (hn : Jvm.Free.Fl.NoNaN64 (FP.dadd c1 d4)) (hx7 : vA.getD ((0 : Int32)).toNatClampNeg (.int 0) = (.int x7)) (hd7 : ¬ (x7 = p2)) :
    MetFree l (⟨kS0, "add", "(IIDZ)V"⟩ : MethodName) (head1 (Jvm.Cond.code (⟨kS0, "add", "(IIDZ)V"⟩ : MethodName) prog_14_method_11_code 9 none :: ws) ({ frames := 0, cells := 0, slots := 0, locals := 0 } : Room)) (fun a U => a = #[(.ref a1), (.int p2), (.int p3), (.double d4), (.int p5)] ∧ Z.Warmed39 U.vm ∧ U.heap = h0) (fun _ _ _ _ _ => True) (fun _ U o U' => ∃ v L, o = .returned v ∧ Qrm_add1 Z a1 p2 p3 d4 p5 c1 t0 k0 vA t1 k1 vL t2 k2 vD t3 k3 vR x7 h0 n0 v U'.heap L ∧ FrameEnd U o U' L ({ frames := 0, cells := 0, slots := 0, locals := 0 } : Room).cells ({ frames := 0, cells := 0, slots := 0, locals := 0 } : Room).slots) := by
  refine MetFree.of_bodySF (plainFor_of_name pn_0) hisR ?_
  intro p e s m args below meth c s₁ Bd hml0 hP hK
  obtain ⟨rfl, hZ, hh⟩ := hP
  have hx := Bd.exec
  have hby := Bd.bytes
  have hml : c.maxLocals = 9 := hml0
  have hown : s.vm.findClass kS0 = some m.cls := findClass_of_methodNamed Bd.named
  have hnm := (name_of_methodNamed Bd.named Bd.method).1
  have X0 : Stand p l e ({ frames := 0, cells := 0, slots := 0, locals := 0 } : Room) s m #[(.ref a1), (.int p2), (.int p3), (.double d4), (.int p5)] below meth c s₁ [] 0 0 := Stand.of_body Bd
  have e0 : s₁.heap = h0 := by rw [← hh, Bd.state]; rfl
  have N0 := Fr.nil n0
  have pre0 : ∀ t, Steps p.tables e below (s₁.setTop (mkF m 0 (la0 a1 p2 p3 d4 p5) [])) t → Steps p.tables e below (s₁.setTop (entryFrame m #[(.ref a1), (.int p2), (.int p3), (.double d4), (.int p5)] 9)) t := fun t k => castTop (ef_rm_add1 m a1 p2 p3 d4 p5) k
  have lt_E1 := ltA E1.lt
  have lt_Fh := ltA Fh.lt
  have lt_Fs := ltA Fs.lt
  have lt_Fc := ltA Fc.lt
  have lt_F0 := ltA F0.lt
  have lt_V0 := ltA V0.lt
  have lt_F1 := ltA F1.lt
  have lt_V1 := ltA V1.lt
  have lt_F2 := ltA F2.lt
  have lt_V2 := ltA V2.lt
  have lt_F3 := ltA F3.lt
  have lt_V3 := ltA V3.lt
  obtain ⟨T78, X78, e78, st78⟩ := getF X0 hx hZ hown (host := "") (Or.inl (wd hw 11 rfl)) Via.refl e0 F0 (g := (mkF m 1 (la0 a1 p2 p3 d4 p5) [(.ref a1)])) rfl rfl (hb hby d3_1)
  obtain ⟨cl79, Ar79, -, S79, M79, -, -⟩ := id V0
  obtain ⟨T80, X80, e80, st80⟩ := getF X78 hx hZ hown (host := "") (Or.inl (wd hw 26 rfl)) Via.refl e78 Fh (g := (mkF m 10 (la1 a1 p2 p3 d4 p5 (7 : Int32)) [(.ref a1)])) rfl rfl (hb hby d3_10)
  obtain ⟨T81, X81, e81, st81⟩ := getF X80 hx hZ hown (host := "") (Or.inl (wd hw 28 rfl)) Via.refl e80 Fs (g := (mkF m 14 (la1 a1 p2 p3 d4 p5 (7 : Int32)) [(.ref a1), (.int 0)])) rfl rfl (hb hby d3_14)
  obtain ⟨T82, X82, e82, st82⟩ := getF X81 hx hZ hown (host := "") (Or.inl (wd hw 28 rfl)) Via.refl e81 Fs (g := (mkF m 26 (la2 a1 p2 p3 d4 p5 (7 : Int32) (0 : Int32)) [(.ref a1)])) rfl rfl (hb hby d3_26)
  obtain ⟨T83, X83, e83, st83⟩ := getF X82 hx hZ hown (host := "") (Or.inl (wd hw 11 rfl)) Via.refl e82 F0 (g := (mkF m 33 (la2 a1 p2 p3 d4 p5 (7 : Int32) (0 : Int32)) [(.ref a1)])) rfl rfl (hb hby d3_33)
  obtain ⟨cl84, Ar84, q84, S84, M84, H84, G84⟩ := id V0
  have hin84 : ¬ ((0 : Int32) < 0 ∨ cl84.slots.size ≤ ((0 : Int32)).toNatClampNeg) := inb_of S84 ⟨by decide, by decide⟩
  have hat84 : cl84.slots[((0 : Int32)).toNatClampNeg]? = some (.int x7) := Has.at H84 hin84 hx7
  obtain ⟨T85, X85, e85, st85⟩ := getF X83 hx hZ hown (host := "") (Or.inl (wd hw 28 rfl)) Via.refl e83 Fs (g := (mkF m 78 (la2 a1 p2 p3 d4 p5 (7 : Int32) (0 : Int32)) [(.ref a1)])) rfl rfl (hb hby d3_78)
  obtain ⟨T86, X86, e86, st86⟩ := getF X85 hx hZ hown (host := "") (Or.inl (wd hw 11 rfl)) Via.refl e85 F0 (g := (mkF m 82 (la2 a1 p2 p3 d4 p5 (7 : Int32) (0 : Int32)) [(.ref a1), (.int 1)])) rfl rfl (hb hby d3_82)
  obtain ⟨cl87, Ar87, -, S87, M87, -, -⟩ := id V0
  obtain ⟨T88, X88, e88, st88⟩ := getF X86 hx hZ hown (host := "") (Or.inl (wd hw 26 rfl)) Via.refl e86 Fh (g := (mkF m 94 (la2 a1 p2 p3 d4 p5 (7 : Int32) (0 : Int32)) [(.ref a1)])) rfl rfl (hb hby d3_94)
  obtain ⟨T89, X89, e89, st89⟩ := getF X88 hx hZ hown (host := "") (Or.inl (wd hw 28 rfl)) Via.refl e88 Fs (g := (mkF m 98 (la2 a1 p2 p3 d4 p5 (7 : Int32) (0 : Int32)) [(.ref a1), (.int 0)])) rfl rfl (hb hby d3_98)
  obtain ⟨T90, X90, e90, st90⟩ := getF X89 hx hZ hown (host := "") (Or.inl (wd hw 11 rfl)) Via.refl e89 F0 (g := (mkF m 103 (la2 a1 p2 p3 d4 p5 (7 : Int32) (0 : Int32)) [(.ref a1), (.int 1)])) rfl rfl (hb hby d3_103)
  obtain ⟨cl91, Ar91, -, S91, M91, -, -⟩ := id V0
  obtain ⟨T92, X92, e92, st92⟩ := getF X90 hx hZ hown (host := "") (Or.inl (wd hw 11 rfl)) Via.refl e90 F0 (g := (mkF m 113 (la3 a1 p2 p3 d4 p5 (7 : Int32) (0 : Int32) (1 : Int32)) [(.ref a1)])) rfl rfl (hb hby d3_113)
  obtain ⟨cl93, Ar93, q93, S93, M93, H93, G93⟩ := id V0
  have hin93 : ¬ ((1 : Int32) < 0 ∨ cl93.slots.size ≤ ((1 : Int32)).toNatClampNeg) := inb_of S93 ⟨by decide, by decide⟩
  obtain ⟨T94, h94, X94, e94, W94, st94⟩ := stI X92 hx hZ e92 Ar93 (j := (1 : Int32)) hin93 (g := (mkF m 119 (la3 a1 p2 p3 d4 p5 (7 : Int32) (0 : Int32) (1 : Int32)) [(.int p2), (.int 1), (.ref t0)])) rfl rfl (hb hby d3_119)
  have N94 := Fr.snoc X94 N0 (by omega : n0 ≤ t0)
  have sz94 : h0.size ≤ h94.size := Nat.le_of_eq W94.size.symm
  have V94 : Arv Z h94 t0 k0 .int (8 : Int32) (vA.set 1 (.int p2)) (.int 0) := Arv.set Ar93 q93 S93 M93 H93 G93 rfl W94 1 rfl (by omega)
  have f95 : Fld Z h94 a1 kS0 "legs" "[I" (.ref t1) := (F1.other W94 (Or.inl (neN (by omega))))
  obtain ⟨T96, X96, e96, st96⟩ := getF X94 hx hZ hown (host := "") (Or.inl (wd hw 13 rfl)) Via.refl e94 f95 (g := (mkF m 121 (la3 a1 p2 p3 d4 p5 (7 : Int32) (0 : Int32) (1 : Int32)) [(.ref a1)])) rfl rfl (hb hby d3_121)
  have f97 : Arv Z h94 t1 k1 .int (8 : Int32) vL (.int 0) := (V1.other W94 (neN (by omega)))
  obtain ⟨cl98, Ar98, q98, S98, M98, H98, G98⟩ := id f97
  have hin98 : ¬ ((1 : Int32) < 0 ∨ cl98.slots.size ≤ ((1 : Int32)).toNatClampNeg) := inb_of S98 ⟨by decide, by decide⟩
  obtain ⟨T99, h99, X99, e99, W99, st99⟩ := stI X96 hx hZ e96 Ar98 (j := (1 : Int32)) hin98 (g := (mkF m 127 (la3 a1 p2 p3 d4 p5 (7 : Int32) (0 : Int32) (1 : Int32)) [(.int p3), (.int 1), (.ref t1)])) rfl rfl (hb hby d3_127)
  have N99 := Fr.snoc X99 N94 (by omega : n0 ≤ t1)
  have sz99 : h94.size ≤ h99.size := Nat.le_of_eq W99.size.symm
  have V99 : Arv Z h99 t1 k1 .int (8 : Int32) (vL.set 1 (.int p3)) (.int 0) := Arv.set Ar98 q98 S98 M98 H98 G98 rfl W99 1 rfl (by omega)
  have f100 : Fld Z h99 a1 kS0 "amounts" "[D" (.ref t2) := ((F2.other W94 (Or.inl (neN (by omega)))).other W99 (Or.inl (neN (by omega))))
  obtain ⟨T101, X101, e101, st101⟩ := getF X99 hx hZ hown (host := "") (Or.inl (wd hw 16 rfl)) Via.refl e99 f100 (g := (mkF m 129 (la3 a1 p2 p3 d4 p5 (7 : Int32) (0 : Int32) (1 : Int32)) [(.ref a1)])) rfl rfl (hb hby d3_129)
  have f102 : Arv Z h99 t2 k2 .double (8 : Int32) vD (.double (0 : UInt64)) := ((V2.other W94 (neN (by omega))).other W99 (neN (by omega)))
  obtain ⟨cl103, Ar103, q103, S103, M103, H103, G103⟩ := id f102
  have hin103 : ¬ ((1 : Int32) < 0 ∨ cl103.slots.size ≤ ((1 : Int32)).toNatClampNeg) := inb_of S103 ⟨by decide, by decide⟩
  obtain ⟨T104, h104, X104, e104, W104, st104⟩ := stD X101 hx hZ e101 Ar103 (j := (1 : Int32)) hin103 (g := (mkF m 135 (la3 a1 p2 p3 d4 p5 (7 : Int32) (0 : Int32) (1 : Int32)) [(.double d4), (.int 1), (.ref t2)])) rfl rfl (hb hby d3_135)
  have N104 := Fr.snoc X104 N99 (by omega : n0 ≤ t2)
  have sz104 : h99.size ≤ h104.size := Nat.le_of_eq W104.size.symm
  have V104 : Arv Z h104 t2 k2 .double (8 : Int32) (vD.set 1 (.double d4)) (.double (0 : UInt64)) := Arv.set Ar103 q103 S103 M103 H103 G103 rfl W104 1 rfl (by omega)
  have f105 : Fld Z h104 a1 kS0 "rears" "[Z" (.ref t3) := (((F3.other W94 (Or.inl (neN (by omega)))).other W99 (Or.inl (neN (by omega)))).other W104 (Or.inl (neN (by omega))))
  obtain ⟨T106, X106, e106, st106⟩ := getF X104 hx hZ hown (host := "") (Or.inl (wd hw 19 rfl)) Via.refl e104 f105 (g := (mkF m 137 (la3 a1 p2 p3 d4 p5 (7 : Int32) (0 : Int32) (1 : Int32)) [(.ref a1)])) rfl rfl (hb hby d3_137)
  have f107 : Arv Z h104 t3 k3 .boolean (8 : Int32) vR (.int 0) := (((V3.other W94 (neN (by omega))).other W99 (neN (by omega))).other W104 (neN (by omega)))
  obtain ⟨cl108, Ar108, q108, S108, M108, H108, G108⟩ := id f107
  have hin108 : ¬ ((1 : Int32) < 0 ∨ cl108.slots.size ≤ ((1 : Int32)).toNatClampNeg) := inb_of S108 ⟨by decide, by decide⟩
  obtain ⟨T109, h109, X109, e109, W109, st109⟩ := stZ X106 hx hZ e106 Ar108 (j := (1 : Int32)) hin108 (g := (mkF m 144 (la3 a1 p2 p3 d4 p5 (7 : Int32) (0 : Int32) (1 : Int32)) [(.int p5), (.int 1), (.ref t3)])) rfl rfl (hb hby d3_144)
  have N109 := Fr.snoc X109 N104 (by omega : n0 ≤ t3)
  have sz109 : h104.size ≤ h109.size := Nat.le_of_eq W109.size.symm
  have V109 : Arv Z h109 t3 k3 .boolean (8 : Int32) (vR.set 1 (.int (nar .boolean p5))) (.int 0) := Arv.set Ar108 q108 S108 M108 H108 G108 (fits_nar_bool _) W109 1 rfl (by omega)
  have f110 : Fld Z h109 a1 kS0 "size" "I" (.int 1) := ((((Fs.other W94 (Or.inl (neN (by omega)))).other W99 (Or.inl (neN (by omega)))).other W104 (Or.inl (neN (by omega)))).other W109 (Or.inl (neN (by omega))))
  obtain ⟨T111, X111, e111, st111⟩ := getF X109 hx hZ hown (host := "") (Or.inl (wd hw 28 rfl)) Via.refl e109 f110 (g := (mkF m 147 (la3 a1 p2 p3 d4 p5 (7 : Int32) (0 : Int32) (1 : Int32)) [(.ref a1), (.ref a1)])) rfl rfl (hb hby d3_147)
  have f112 : Exa Z h109 a1 kS0 := ((((E1.wr W94).wr W99).wr W104).wr W109)
  obtain ⟨T113, h113, X113, e113, W113, st113⟩ := putF X111 hx hZ hown (host := "") (Or.inl (wd hw 28 rfl)) Via.refl e111 f110 f112 (Or.inl (wd hw 29 rfl)) (wd hw 2 rfl) (ty := .int) (by decide) rfl rfl (g := (mkF m 152 (la3 a1 p2 p3 d4 p5 (7 : Int32) (0 : Int32) (1 : Int32)) [(.int 2), (.ref a1)])) rfl rfl (hb hby d3_152)
  have N113 := Fr.snoc X113 N109 (by omega : n0 ≤ a1)
  have sz113 : h109.size ≤ h113.size := Nat.le_of_eq W113.size.symm
  have f113 : Fld Z h113 a1 kS0 "size" "I" (.int 2) := f110.same W113
  have f114 : Fld Z h113 a1 kS0 "content" "D" (.double c1) := (((((Fc.other W94 (Or.inl (neN (by omega)))).other W99 (Or.inl (neN (by omega)))).other W104 (Or.inl (neN (by omega)))).other W109 (Or.inl (neN (by omega)))).other W113 (Or.inr (slot_ne (Or.inl (wd hw 31 rfl)) (Or.inl (wd hw 29 rfl)) (by decide) (t := .double) (t' := .int) (by decide) (by decide))))
  obtain ⟨T115, X115, e115, st115⟩ := getF X113 hx hZ hown (host := "") (Or.inl (wd hw 30 rfl)) Via.refl e113 f114 (g := (mkF m 157 (la3 a1 p2 p3 d4 p5 (7 : Int32) (0 : Int32) (1 : Int32)) [(.ref a1), (.ref a1)])) rfl rfl (hb hby d3_157)
  have f116 : Exa Z h113 a1 kS0 := (f112.wr W113)
  obtain ⟨T117, h117, X117, e117, W117, st117⟩ := putF X115 hx hZ hown (host := "") (Or.inl (wd hw 30 rfl)) Via.refl e115 f114 f116 (Or.inl (wd hw 31 rfl)) (wd hw 2 rfl) (ty := .double) (by decide) rfl rfl (g := (mkF m 162 (la3 a1 p2 p3 d4 p5 (7 : Int32) (0 : Int32) (1 : Int32)) [(.double (FP.dadd c1 d4)), (.ref a1)])) rfl rfl (hb hby d3_162)
  have N117 := Fr.snoc X117 N113 (by omega : n0 ≤ a1)
  have sz117 : h113.size ≤ h117.size := Nat.le_of_eq W117.size.symm
  have f117 : Fld Z h117 a1 kS0 "content" "D" (.double (FP.dadd c1 d4)) := f114.same W117
  have f118 : Exa Z h117 a1 kS0 := (f116.wr W117)
  have f119 : Fld Z h117 a1 kS0 "head" "I" (.int 0) := ((((((Fh.other W94 (Or.inl (neN (by omega)))).other W99 (Or.inl (neN (by omega)))).other W104 (Or.inl (neN (by omega)))).other W109 (Or.inl (neN (by omega)))).other W113 (Or.inr (slot_ne (Or.inl (wd hw 27 rfl)) (Or.inl (wd hw 29 rfl)) (by decide) (t := .int) (t' := .int) (by decide) (by decide)))).other W117 (Or.inr (slot_ne (Or.inl (wd hw 27 rfl)) (Or.inl (wd hw 31 rfl)) (by decide) (t := .int) (t' := .double) (by decide) (by decide))))
  have f120 : Fld Z h117 a1 kS0 "size" "I" (.int 2) := (f113.other W117 (Or.inr (slot_ne (Or.inl (wd hw 29 rfl)) (Or.inl (wd hw 31 rfl)) (by decide) (t := .int) (t' := .double) (by decide) (by decide))))
  have f121 : Fld Z h117 a1 kS0 "agents" "[I" (.ref t0) := ((((((F0.other W94 (Or.inl (neN (by omega)))).other W99 (Or.inl (neN (by omega)))).other W104 (Or.inl (neN (by omega)))).other W109 (Or.inl (neN (by omega)))).other W113 (Or.inr (slot_ne (Or.inl (wd hw 12 rfl)) (Or.inl (wd hw 29 rfl)) (by decide) (t := (.array .int)) (t' := .int) (by decide) (by decide)))).other W117 (Or.inr (slot_ne (Or.inl (wd hw 12 rfl)) (Or.inl (wd hw 31 rfl)) (by decide) (t := (.array .int)) (t' := .double) (by decide) (by decide))))
  have f122 : Arv Z h117 t0 k0 .int (8 : Int32) (vA.set 1 (.int p2)) (.int 0) := (((((V94.other W99 (neN (by omega))).other W104 (neN (by omega))).other W109 (neN (by omega))).other W113 (neN (by omega))).other W117 (neN (by omega)))
  have f123 : Fld Z h117 a1 kS0 "legs" "[I" (.ref t1) := (((((f95.other W99 (Or.inl (neN (by omega)))).other W104 (Or.inl (neN (by omega)))).other W109 (Or.inl (neN (by omega)))).other W113 (Or.inr (slot_ne (Or.inl (wd hw 14 rfl)) (Or.inl (wd hw 29 rfl)) (by decide) (t := (.array .int)) (t' := .int) (by decide) (by decide)))).other W117 (Or.inr (slot_ne (Or.inl (wd hw 14 rfl)) (Or.inl (wd hw 31 rfl)) (by decide) (t := (.array .int)) (t' := .double) (by decide) (by decide))))
  have f124 : Arv Z h117 t1 k1 .int (8 : Int32) (vL.set 1 (.int p3)) (.int 0) := ((((V99.other W104 (neN (by omega))).other W109 (neN (by omega))).other W113 (neN (by omega))).other W117 (neN (by omega)))
  have f125 : Fld Z h117 a1 kS0 "amounts" "[D" (.ref t2) := ((((f100.other W104 (Or.inl (neN (by omega)))).other W109 (Or.inl (neN (by omega)))).other W113 (Or.inr (slot_ne (Or.inl (wd hw 17 rfl)) (Or.inl (wd hw 29 rfl)) (by decide) (t := (.array .double)) (t' := .int) (by decide) (by decide)))).other W117 (Or.inr (slot_ne (Or.inl (wd hw 17 rfl)) (Or.inl (wd hw 31 rfl)) (by decide) (t := (.array .double)) (t' := .double) (by decide) (by decide))))
  have f126 : Arv Z h117 t2 k2 .double (8 : Int32) (vD.set 1 (.double d4)) (.double (0 : UInt64)) := (((V104.other W109 (neN (by omega))).other W113 (neN (by omega))).other W117 (neN (by omega)))
  have f127 : Fld Z h117 a1 kS0 "rears" "[Z" (.ref t3) := (((f105.other W109 (Or.inl (neN (by omega)))).other W113 (Or.inr (slot_ne (Or.inl (wd hw 20 rfl)) (Or.inl (wd hw 29 rfl)) (by decide) (t := (.array .boolean)) (t' := .int) (by decide) (by decide)))).other W117 (Or.inr (slot_ne (Or.inl (wd hw 20 rfl)) (Or.inl (wd hw 31 rfl)) (by decide) (t := (.array .boolean)) (t' := .double) (by decide) (by decide))))
  have f128 : Arv Z h117 t3 k3 .boolean (8 : Int32) (vR.set 1 (.int (nar .boolean p5))) (.int 0) := ((V109.other W113 (neN (by omega))).other W117 (neN (by omega)))
  obtain ⟨fs, hr, hrun, hended, hW, hsame⟩ := X117.leave (v := none) (fun _ => rfl)
  refine ⟨_, _, pre0 _ ?_, hrun, hended, _, _, rfl, ?_, ⟨_, rfl⟩, hW, hsame.mono (by decide) (by decide)⟩
  · show GO p e below s₁ (mkF m 0 (la0 a1 p2 p3 d4 p5) []) _
    refine XS.aloadN X0.here hx rfl (hb hby d3_0) rfl rfl ?_
    show GO p e below s₁ (mkF m 1 (la0 a1 p2 p3 d4 p5) [(.ref a1)]) _
    refine st78 _ ?_
    show GO p e below T78 (mkF m 4 (la0 a1 p2 p3 d4 p5) [(.ref t0)]) _
    refine X78.arraylength hx (by rw [e78]; exact Ar79.1) (State.isArrayOf_alike hZ.alike Ar79.2.1) (g := (mkF m 4 (la0 a1 p2 p3 d4 p5) [(.ref t0)])) rfl rfl (hb hby d3_4) _ ?_
    rw [len_of S79 M79]
    show GO p e below T78 (mkF m 5 (la0 a1 p2 p3 d4 p5) [(.int 8)]) _
    refine XS.iconst X78.here hx rfl (hb hby d3_5) ?_
    show GO p e below T78 (mkF m 6 (la0 a1 p2 p3 d4 p5) [(.int 1), (.int 8)]) _
    refine XS.isub X78.here hx rfl (hb hby d3_6) rfl ?_
    rw [show ((8 : Int32) - (1 : Int32)) = (7 : Int32) from by decide]
    show GO p e below T78 (mkF m 7 (la0 a1 p2 p3 d4 p5) [(.int 7)]) _
    refine XS.istore X78.here hx rfl (hb hby d3_7) rfl (l' := (la1 a1 p2 p3 d4 p5 (7 : Int32))) rfl ?_
    show GO p e below T78 (mkF m 9 (la1 a1 p2 p3 d4 p5 (7 : Int32)) []) _
    refine XS.aloadN X78.here hx rfl (hb hby d3_9) rfl rfl ?_
    show GO p e below T78 (mkF m 10 (la1 a1 p2 p3 d4 p5 (7 : Int32)) [(.ref a1)]) _
    refine st80 _ ?_
    show GO p e below T80 (mkF m 13 (la1 a1 p2 p3 d4 p5 (7 : Int32)) [(.int 0)]) _
    refine XS.aloadN X80.here hx rfl (hb hby d3_13) rfl rfl ?_
    show GO p e below T80 (mkF m 14 (la1 a1 p2 p3 d4 p5 (7 : Int32)) [(.ref a1), (.int 0)]) _
    refine st81 _ ?_
    show GO p e below T81 (mkF m 17 (la1 a1 p2 p3 d4 p5 (7 : Int32)) [(.int 1), (.int 0)]) _
    refine XS.iadd X81.here hx rfl (hb hby d3_17) rfl ?_
    rw [show ((0 : Int32) + (1 : Int32)) = (1 : Int32) from by decide]
    show GO p e below T81 (mkF m 18 (la1 a1 p2 p3 d4 p5 (7 : Int32)) [(.int 1)]) _
    refine XS.iconst X81.here hx rfl (hb hby d3_18) ?_
    show GO p e below T81 (mkF m 19 (la1 a1 p2 p3 d4 p5 (7 : Int32)) [(.int 1), (.int 1)]) _
    refine XS.isub X81.here hx rfl (hb hby d3_19) rfl ?_
    rw [show ((1 : Int32) - (1 : Int32)) = (0 : Int32) from by decide]
    show GO p e below T81 (mkF m 20 (la1 a1 p2 p3 d4 p5 (7 : Int32)) [(.int 0)]) _
    refine XS.iload X81.here hx rfl (hb hby d3_20) rfl ?_
    show GO p e below T81 (mkF m 22 (la1 a1 p2 p3 d4 p5 (7 : Int32)) [(.int 7), (.int 0)]) _
    refine XS.iand X81.here hx rfl (hb hby d3_22) rfl ?_
    rw [show ((0 : Int32) &&& (7 : Int32)) = (0 : Int32) from by decide]
    show GO p e below T81 (mkF m 23 (la1 a1 p2 p3 d4 p5 (7 : Int32)) [(.int 0)]) _
    refine XS.istore X81.here hx rfl (hb hby d3_23) rfl (l' := (la2 a1 p2 p3 d4 p5 (7 : Int32) (0 : Int32))) rfl ?_
    show GO p e below T81 (mkF m 25 (la2 a1 p2 p3 d4 p5 (7 : Int32) (0 : Int32)) []) _
    refine XS.aloadN X81.here hx rfl (hb hby d3_25) rfl rfl ?_
    show GO p e below T81 (mkF m 26 (la2 a1 p2 p3 d4 p5 (7 : Int32) (0 : Int32)) [(.ref a1)]) _
    refine st82 _ ?_
    show GO p e below T82 (mkF m 29 (la2 a1 p2 p3 d4 p5 (7 : Int32) (0 : Int32)) [(.int 1)]) _
    refine XS.ifNo X82.here hx rfl (hb hby d3_29) rfl ((if0 _ _).trans (tlt ((by decide) : (0 : Int32) < (1 : Int32))).2.2.2) ?_
    show GO p e below T82 (mkF m 32 (la2 a1 p2 p3 d4 p5 (7 : Int32) (0 : Int32)) []) _
    refine XS.aloadN X82.here hx rfl (hb hby d3_32) rfl rfl ?_
    show GO p e below T82 (mkF m 33 (la2 a1 p2 p3 d4 p5 (7 : Int32) (0 : Int32)) [(.ref a1)]) _
    refine st83 _ ?_
    show GO p e below T83 (mkF m 36 (la2 a1 p2 p3 d4 p5 (7 : Int32) (0 : Int32)) [(.ref t0)]) _
    refine XS.iload X83.here hx rfl (hb hby d3_36) rfl ?_
    show GO p e below T83 (mkF m 38 (la2 a1 p2 p3 d4 p5 (7 : Int32) (0 : Int32)) [(.int 0), (.ref t0)]) _
    refine X83.iaload hx (j := (0 : Int32)) (v := (.int x7)) (by rw [e83]; exact Ar84.1) (State.isArrayOf_alike hZ.alike Ar84.2.1) Ar84.2.2 hin84 hat84 (g := (mkF m 38 (la2 a1 p2 p3 d4 p5 (7 : Int32) (0 : Int32)) [(.int 0), (.ref t0)])) rfl rfl (hb hby d3_38) _ ?_
    show GO p e below T83 (mkF m 39 (la2 a1 p2 p3 d4 p5 (7 : Int32) (0 : Int32)) [(.int x7)]) _
    refine XS.iloadN X83.here hx rfl (hb hby d3_39) rfl ?_
    show GO p e below T83 (mkF m 40 (la2 a1 p2 p3 d4 p5 (7 : Int32) (0 : Int32)) [(.int p2), (.int x7)]) _
    refine XS.icmpYes X83.here hx rfl (pc0 := 40) (pc' := 77) rfl (hb hby d3_40) rfl (feq (hd7 : ¬ (x7 = p2))).2 (by decide) (by decide) ?_
    show GO p e below T83 (mkF m 77 (la2 a1 p2 p3 d4 p5 (7 : Int32) (0 : Int32)) []) _
    refine XS.aloadN X83.here hx rfl (hb hby d3_77) rfl rfl ?_
    show GO p e below T83 (mkF m 78 (la2 a1 p2 p3 d4 p5 (7 : Int32) (0 : Int32)) [(.ref a1)]) _
    refine st85 _ ?_
    show GO p e below T85 (mkF m 81 (la2 a1 p2 p3 d4 p5 (7 : Int32) (0 : Int32)) [(.int 1)]) _
    refine XS.aloadN X85.here hx rfl (hb hby d3_81) rfl rfl ?_
    show GO p e below T85 (mkF m 82 (la2 a1 p2 p3 d4 p5 (7 : Int32) (0 : Int32)) [(.ref a1), (.int 1)]) _
    refine st86 _ ?_
    show GO p e below T86 (mkF m 85 (la2 a1 p2 p3 d4 p5 (7 : Int32) (0 : Int32)) [(.ref t0), (.int 1)]) _
    refine X86.arraylength hx (by rw [e86]; exact Ar87.1) (State.isArrayOf_alike hZ.alike Ar87.2.1) (g := (mkF m 85 (la2 a1 p2 p3 d4 p5 (7 : Int32) (0 : Int32)) [(.ref t0), (.int 1)])) rfl rfl (hb hby d3_85) _ ?_
    rw [len_of S87 M87]
    show GO p e below T86 (mkF m 86 (la2 a1 p2 p3 d4 p5 (7 : Int32) (0 : Int32)) [(.int 8), (.int 1)]) _
    refine XS.icmpYes X86.here hx rfl (pc0 := 86) (pc' := 93) rfl (hb hby d3_86) rfl (feq ((by decide) : ¬ ((1 : Int32) = (8 : Int32)))).2 (by decide) (by decide) ?_
    show GO p e below T86 (mkF m 93 (la2 a1 p2 p3 d4 p5 (7 : Int32) (0 : Int32)) []) _
    refine XS.aloadN X86.here hx rfl (hb hby d3_93) rfl rfl ?_
    show GO p e below T86 (mkF m 94 (la2 a1 p2 p3 d4 p5 (7 : Int32) (0 : Int32)) [(.ref a1)]) _
    refine st88 _ ?_
    show GO p e below T88 (mkF m 97 (la2 a1 p2 p3 d4 p5 (7 : Int32) (0 : Int32)) [(.int 0)]) _
    refine XS.aloadN X88.here hx rfl (hb hby d3_97) rfl rfl ?_
    show GO p e below T88 (mkF m 98 (la2 a1 p2 p3 d4 p5 (7 : Int32) (0 : Int32)) [(.ref a1), (.int 0)]) _
    refine st89 _ ?_
    show GO p e below T89 (mkF m 101 (la2 a1 p2 p3 d4 p5 (7 : Int32) (0 : Int32)) [(.int 1), (.int 0)]) _
    refine XS.iadd X89.here hx rfl (hb hby d3_101) rfl ?_
    rw [show ((0 : Int32) + (1 : Int32)) = (1 : Int32) from by decide]
    show GO p e below T89 (mkF m 102 (la2 a1 p2 p3 d4 p5 (7 : Int32) (0 : Int32)) [(.int 1)]) _
    refine XS.aloadN X89.here hx rfl (hb hby d3_102) rfl rfl ?_
    show GO p e below T89 (mkF m 103 (la2 a1 p2 p3 d4 p5 (7 : Int32) (0 : Int32)) [(.ref a1), (.int 1)]) _
    refine st90 _ ?_
    show GO p e below T90 (mkF m 106 (la2 a1 p2 p3 d4 p5 (7 : Int32) (0 : Int32)) [(.ref t0), (.int 1)]) _
    refine X90.arraylength hx (by rw [e90]; exact Ar91.1) (State.isArrayOf_alike hZ.alike Ar91.2.1) (g := (mkF m 106 (la2 a1 p2 p3 d4 p5 (7 : Int32) (0 : Int32)) [(.ref t0), (.int 1)])) rfl rfl (hb hby d3_106) _ ?_
    rw [len_of S91 M91]
    show GO p e below T90 (mkF m 107 (la2 a1 p2 p3 d4 p5 (7 : Int32) (0 : Int32)) [(.int 8), (.int 1)]) _
    refine XS.iconst X90.here hx rfl (hb hby d3_107) ?_
    show GO p e below T90 (mkF m 108 (la2 a1 p2 p3 d4 p5 (7 : Int32) (0 : Int32)) [(.int 1), (.int 8), (.int 1)]) _
    refine XS.isub X90.here hx rfl (hb hby d3_108) rfl ?_
    rw [show ((8 : Int32) - (1 : Int32)) = (7 : Int32) from by decide]
    show GO p e below T90 (mkF m 109 (la2 a1 p2 p3 d4 p5 (7 : Int32) (0 : Int32)) [(.int 7), (.int 1)]) _
    refine XS.iand X90.here hx rfl (hb hby d3_109) rfl ?_
    rw [show ((1 : Int32) &&& (7 : Int32)) = (1 : Int32) from by decide]
    show GO p e below T90 (mkF m 110 (la2 a1 p2 p3 d4 p5 (7 : Int32) (0 : Int32)) [(.int 1)]) _
    refine XS.istore X90.here hx rfl (hb hby d3_110) rfl (l' := (la3 a1 p2 p3 d4 p5 (7 : Int32) (0 : Int32) (1 : Int32))) rfl ?_
    show GO p e below T90 (mkF m 112 (la3 a1 p2 p3 d4 p5 (7 : Int32) (0 : Int32) (1 : Int32)) []) _
    refine XS.aloadN X90.here hx rfl (hb hby d3_112) rfl rfl ?_
    show GO p e below T90 (mkF m 113 (la3 a1 p2 p3 d4 p5 (7 : Int32) (0 : Int32) (1 : Int32)) [(.ref a1)]) _
    refine st92 _ ?_
    show GO p e below T92 (mkF m 116 (la3 a1 p2 p3 d4 p5 (7 : Int32) (0 : Int32) (1 : Int32)) [(.ref t0)]) _
    refine XS.iload X92.here hx rfl (hb hby d3_116) rfl ?_
    show GO p e below T92 (mkF m 118 (la3 a1 p2 p3 d4 p5 (7 : Int32) (0 : Int32) (1 : Int32)) [(.int 1), (.ref t0)]) _
    refine XS.iloadN X92.here hx rfl (hb hby d3_118) rfl ?_
    show GO p e below T92 (mkF m 119 (la3 a1 p2 p3 d4 p5 (7 : Int32) (0 : Int32) (1 : Int32)) [(.int p2), (.int 1), (.ref t0)]) _
    refine st94 _ ?_
    show GO p e below T94 (mkF m 120 (la3 a1 p2 p3 d4 p5 (7 : Int32) (0 : Int32) (1 : Int32)) []) _
    refine XS.aloadN X94.here hx rfl (hb hby d3_120) rfl rfl ?_
    show GO p e below T94 (mkF m 121 (la3 a1 p2 p3 d4 p5 (7 : Int32) (0 : Int32) (1 : Int32)) [(.ref a1)]) _
    refine st96 _ ?_
    show GO p e below T96 (mkF m 124 (la3 a1 p2 p3 d4 p5 (7 : Int32) (0 : Int32) (1 : Int32)) [(.ref t1)]) _
    refine XS.iload X96.here hx rfl (hb hby d3_124) rfl ?_
    show GO p e below T96 (mkF m 126 (la3 a1 p2 p3 d4 p5 (7 : Int32) (0 : Int32) (1 : Int32)) [(.int 1), (.ref t1)]) _
    refine XS.iloadN X96.here hx rfl (hb hby d3_126) rfl ?_
    show GO p e below T96 (mkF m 127 (la3 a1 p2 p3 d4 p5 (7 : Int32) (0 : Int32) (1 : Int32)) [(.int p3), (.int 1), (.ref t1)]) _
    refine st99 _ ?_
    show GO p e below T99 (mkF m 128 (la3 a1 p2 p3 d4 p5 (7 : Int32) (0 : Int32) (1 : Int32)) []) _
    refine XS.aloadN X99.here hx rfl (hb hby d3_128) rfl rfl ?_
    show GO p e below T99 (mkF m 129 (la3 a1 p2 p3 d4 p5 (7 : Int32) (0 : Int32) (1 : Int32)) [(.ref a1)]) _
    refine st101 _ ?_
    show GO p e below T101 (mkF m 132 (la3 a1 p2 p3 d4 p5 (7 : Int32) (0 : Int32) (1 : Int32)) [(.ref t2)]) _
    refine XS.iload X101.here hx rfl (hb hby d3_132) rfl ?_
    show GO p e below T101 (mkF m 134 (la3 a1 p2 p3 d4 p5 (7 : Int32) (0 : Int32) (1 : Int32)) [(.int 1), (.ref t2)]) _
    refine XS.dloadN X101.here hx rfl (hb hby d3_134) rfl ?_
    show GO p e below T101 (mkF m 135 (la3 a1 p2 p3 d4 p5 (7 : Int32) (0 : Int32) (1 : Int32)) [(.double d4), (.int 1), (.ref t2)]) _
    refine st104 _ ?_
    show GO p e below T104 (mkF m 136 (la3 a1 p2 p3 d4 p5 (7 : Int32) (0 : Int32) (1 : Int32)) []) _
    refine XS.aloadN X104.here hx rfl (hb hby d3_136) rfl rfl ?_
    show GO p e below T104 (mkF m 137 (la3 a1 p2 p3 d4 p5 (7 : Int32) (0 : Int32) (1 : Int32)) [(.ref a1)]) _
    refine st106 _ ?_
    show GO p e below T106 (mkF m 140 (la3 a1 p2 p3 d4 p5 (7 : Int32) (0 : Int32) (1 : Int32)) [(.ref t3)]) _
    refine XS.iload X106.here hx rfl (hb hby d3_140) rfl ?_
    show GO p e below T106 (mkF m 142 (la3 a1 p2 p3 d4 p5 (7 : Int32) (0 : Int32) (1 : Int32)) [(.int 1), (.ref t3)]) _
    refine XS.iload X106.here hx rfl (hb hby d3_142) rfl ?_
    show GO p e below T106 (mkF m 144 (la3 a1 p2 p3 d4 p5 (7 : Int32) (0 : Int32) (1 : Int32)) [(.int p5), (.int 1), (.ref t3)]) _
    refine st109 _ ?_
    show GO p e below T109 (mkF m 145 (la3 a1 p2 p3 d4 p5 (7 : Int32) (0 : Int32) (1 : Int32)) []) _
    refine XS.aloadN X109.here hx rfl (hb hby d3_145) rfl rfl ?_
    show GO p e below T109 (mkF m 146 (la3 a1 p2 p3 d4 p5 (7 : Int32) (0 : Int32) (1 : Int32)) [(.ref a1)]) _
    refine XS.dup X109.here hx rfl (hb hby d3_146) rfl rfl ?_
    show GO p e below T109 (mkF m 147 (la3 a1 p2 p3 d4 p5 (7 : Int32) (0 : Int32) (1 : Int32)) [(.ref a1), (.ref a1)]) _
    refine st111 _ ?_
    show GO p e below T111 (mkF m 150 (la3 a1 p2 p3 d4 p5 (7 : Int32) (0 : Int32) (1 : Int32)) [(.int 1), (.ref a1)]) _
    refine XS.iconst X111.here hx rfl (hb hby d3_150) ?_
    show GO p e below T111 (mkF m 151 (la3 a1 p2 p3 d4 p5 (7 : Int32) (0 : Int32) (1 : Int32)) [(.int 1), (.int 1), (.ref a1)]) _
    refine XS.iadd X111.here hx rfl (hb hby d3_151) rfl ?_
    rw [show ((1 : Int32) + (1 : Int32)) = (2 : Int32) from by decide]
    show GO p e below T111 (mkF m 152 (la3 a1 p2 p3 d4 p5 (7 : Int32) (0 : Int32) (1 : Int32)) [(.int 2), (.ref a1)]) _
    refine st113 _ ?_
    show GO p e below T113 (mkF m 155 (la3 a1 p2 p3 d4 p5 (7 : Int32) (0 : Int32) (1 : Int32)) []) _
    refine XS.aloadN X113.here hx rfl (hb hby d3_155) rfl rfl ?_
    show GO p e below T113 (mkF m 156 (la3 a1 p2 p3 d4 p5 (7 : Int32) (0 : Int32) (1 : Int32)) [(.ref a1)]) _
    refine XS.dup X113.here hx rfl (hb hby d3_156) rfl rfl ?_
    show GO p e below T113 (mkF m 157 (la3 a1 p2 p3 d4 p5 (7 : Int32) (0 : Int32) (1 : Int32)) [(.ref a1), (.ref a1)]) _
    refine st115 _ ?_
    show GO p e below T115 (mkF m 160 (la3 a1 p2 p3 d4 p5 (7 : Int32) (0 : Int32) (1 : Int32)) [(.double c1), (.ref a1)]) _
    refine XS.dloadN X115.here hx rfl (hb hby d3_160) rfl ?_
    show GO p e below T115 (mkF m 161 (la3 a1 p2 p3 d4 p5 (7 : Int32) (0 : Int32) (1 : Int32)) [(.double d4), (.double c1), (.ref a1)]) _
    refine XS.daddS X115.here hx rfl (hb hby d3_161) rfl hn rfl ?_
    show GO p e below T115 (mkF m 162 (la3 a1 p2 p3 d4 p5 (7 : Int32) (0 : Int32) (1 : Int32)) [(.double (FP.dadd c1 d4)), (.ref a1)]) _
    refine st117 _ ?_
    show GO p e below T117 (mkF m 165 (la3 a1 p2 p3 d4 p5 (7 : Int32) (0 : Int32) (1 : Int32)) []) _
    exact X117.returnOut hx Bd.returns (hb hby d3_165) hr
  · show Qrm_add1 Z a1 p2 p3 d4 p5 c1 t0 k0 vA t1 k1 vL t2 k2 vD t3 k3 vR x7 h0 n0 _ T117.heap _
    rw [e117]
    exact ⟨rfl, N117, (((((((Keep.refl h0 [a1, t0, t1, t2, t3]).wr W94 (Or.inl (List.mem_of_getElem? (i := 1) rfl))).wr W99 (Or.inl (List.mem_of_getElem? (i := 2) rfl))).wr W104 (Or.inl (List.mem_of_getElem? (i := 3) rfl))).wr W109 (Or.inl (List.mem_of_getElem? (i := 4) rfl))).wr W113 (Or.inl (List.mem_of_getElem? (i := 0) rfl))).wr W117 (Or.inl (List.mem_of_getElem? (i := 0) rfl))), f118, f119, f120, f117, f121, f122, f123, f124, f125, f126, f127, f128⟩
def Qrm_takef0 (Z : State) (a1 : Addr) (d2 : UInt64) (z1 : Int32) (c1 : UInt64) (x1 : UInt64) (t0 : Addr) (k0 : ClassId) (vA : List Value) (t1 : Addr) (k1 : ClassId) (vL : List Value) (t2 : Addr) (k2 : ClassId) (vD : List Value) (t3 : Addr) (k3 : ClassId) (vR : List Value) (h0 : Heap) (n0 : Nat) (v : Option Value) (h : Heap) (L : List Loc) : Prop := v = none ∧ Fr n0 L ∧ Keep h0 h [a1, t0, t1, t2, t3] ∧ Exa Z h a1 kS0 ∧ Fld Z h a1 kS0 "head" "I" (.int 1) ∧ Fld Z h a1 kS0 "size" "I" (.int (z1 - (1 : Int32))) ∧ Fld Z h a1 kS0 "content" "D" (.double (if (z1 - (1 : Int32)) = (0 : Int32) then (0 : UInt64) else FP.dsub c1 d2)) ∧ Fld Z h a1 kS0 "agents" "[I" (.ref t0) ∧ Arv Z h t0 k0 .int (8 : Int32) vA (.int 0) ∧ Fld Z h a1 kS0 "legs" "[I" (.ref t1) ∧ Arv Z h t1 k1 .int (8 : Int32) vL (.int 0) ∧ Fld Z h a1 kS0 "amounts" "[D" (.ref t2) ∧ Arv Z h t2 k2 .double (8 : Int32) vD (.double (0 : UInt64)) ∧ Fld Z h a1 kS0 "rears" "[Z" (.ref t3) ∧ Arv Z h t3 k3 .boolean (8 : Int32) vR (.int 0)
theorem ef_rm_takef0 (m : MethodId) (x0 : Addr) (x1 : UInt64) : entryFrame m #[(.ref x0), (.double x1)] 3 = mkF m 0 (la4 x0 x1) [] := by first | rfl | (simp [entryFrame, mkF, argsToLocals, Value.category]; done)
set_option maxRecDepth 65536 in
set_option maxHeartbeats 40000000 in
theorem rm_takef0 (l : Launch) (Z : State) (a0 : Array Value) (hw : ∀ d ∈ tables_1, d.before a0 Z = true) (ws : List Jvm.Cond) (a1 : Addr) (d2 : UInt64) (z1 : Int32) (c1 : UInt64) (x1 : UInt64) (t0 : Addr) (k0 : ClassId) (vA : List Value) (t1 : Addr) (k1 : ClassId) (vL : List Value) (t2 : Addr) (k2 : ClassId) (vD : List Value) (t3 : Addr) (k3 : ClassId) (vR : List Value) (h0 : Heap) (n0 : Nat) (Z0 : n0 ≤ h0.size) (E1 : Exa Z h0 a1 kS0) (Fh : Fld Z h0 a1 kS0 "head" "I" (.int 0)) (Fs : Fld Z h0 a1 kS0 "size" "I" (.int z1)) (Fc : Fld Z h0 a1 kS0 "content" "D" (.double c1)) (F0 : Fld Z h0 a1 kS0 "agents" "[I" (.ref t0)) (V0 : Arv Z h0 t0 k0 .int (8 : Int32) vA (.int 0)) (F1 : Fld Z h0 a1 kS0 "legs" "[I" (.ref t1)) (V1 : Arv Z h0 t1 k1 .int (8 : Int32) vL (.int 0)) (F2 : Fld Z h0 a1 kS0 "amounts" "[D" (.ref t2)) (V2 : Arv Z h0 t2 k2 .double (8 : Int32) vD (.double (0 : UInt64))) (F3 : Fld Z h0 a1 kS0 "rears" "[Z" (.ref t3)) (V3 : Arv Z h0 t3 k3 .boolean (8 : Int32) vR (.int 0)) (len0 : vA.length = 8) (len1 : vL.length = 8) (len2 : vD.length = 8) (len3 : vR.length = 8) (o1 : LT.lt (α := Nat) a1 t0) (o2 : LT.lt (α := Nat) t0 t1) (o3 : LT.lt (α := Nat) t1 t2) (o4 : LT.lt (α := Nat) t2 t3) (g1 : n0 ≤ a1) (hx1 : vD.getD ((0 : Int32)).toNatClampNeg (.double (0 : UInt64)) = (.double x1)) (hcmp : ¬ ((cmpValue (FP.dcmp d2 x1) .l) < (0 : Int32))) (hn : Jvm.Free.Fl.NoNaN64 (FP.dsub c1 d2)) :
    MetFree l (⟨kS0, "takeFromHead", "(D)V"⟩ : MethodName) (head1 (Jvm.Cond.code (⟨kS0, "takeFromHead", "(D)V"⟩ : MethodName) prog_14_method_12_code 3 none :: ws) ({ frames := 0, cells := 0, slots := 0, locals := 0 } : Room)) (fun a U => a = #[(.ref a1), (.double d2)] ∧ Z.Warmed39 U.vm ∧ U.heap = h0) (fun _ _ _ _ _ => True) (fun _ U o U' => ∃ v L, o = .returned v ∧ Qrm_takef0 Z a1 d2 z1 c1 x1 t0 k0 vA t1 k1 vL t2 k2 vD t3 k3 vR h0 n0 v U'.heap L ∧ FrameEnd U o U' L ({ frames := 0, cells := 0, slots := 0, locals := 0 } : Room).cells ({ frames := 0, cells := 0, slots := 0, locals := 0 } : Room).slots) := by
  refine MetFree.of_bodySF (plainFor_of_name pn_0) hisR ?_
  intro p e s m args below meth c s₁ Bd hml0 hP hK
  obtain ⟨rfl, hZ, hh⟩ := hP
  have hx := Bd.exec
  have hby := Bd.bytes
  have hml : c.maxLocals = 3 := hml0
  have hown : s.vm.findClass kS0 = some m.cls := findClass_of_methodNamed Bd.named
  have hnm := (name_of_methodNamed Bd.named Bd.method).1
  have X0 : Stand p l e ({ frames := 0, cells := 0, slots := 0, locals := 0 } : Room) s m #[(.ref a1), (.double d2)] below meth c s₁ [] 0 0 := Stand.of_body Bd
  have e0 : s₁.heap = h0 := by rw [← hh, Bd.state]; rfl
  have N0 := Fr.nil n0
  have pre0 : ∀ t, Steps p.tables e below (s₁.setTop (mkF m 0 (la4 a1 d2) [])) t → Steps p.tables e below (s₁.setTop (entryFrame m #[(.ref a1), (.double d2)] 3)) t := fun t k => castTop (ef_rm_takef0 m a1 d2) k
  have lt_E1 := ltA E1.lt
  have lt_Fh := ltA Fh.lt
  have lt_Fs := ltA Fs.lt
  have lt_Fc := ltA Fc.lt
  have lt_F0 := ltA F0.lt
  have lt_V0 := ltA V0.lt
  have lt_F1 := ltA F1.lt
  have lt_V1 := ltA V1.lt
  have lt_F2 := ltA F2.lt
  have lt_V2 := ltA V2.lt
  have lt_F3 := ltA F3.lt
  have lt_V3 := ltA V3.lt
  obtain ⟨T129, X129, e129, st129⟩ := getF X0 hx hZ hown (host := "") (Or.inl (wd hw 16 rfl)) Via.refl e0 F2 (g := (mkF m 2 (la4 a1 d2) [(.ref a1), (.double d2)])) rfl rfl (hb hby d4_2)
  obtain ⟨T130, X130, e130, st130⟩ := getF X129 hx hZ hown (host := "") (Or.inl (wd hw 26 rfl)) Via.refl e129 Fh (g := (mkF m 6 (la4 a1 d2) [(.ref a1), (.ref t2), (.double d2)])) rfl rfl (hb hby d4_6)
  obtain ⟨cl131, Ar131, q131, S131, M131, H131, G131⟩ := id V2
  have hin131 : ¬ ((0 : Int32) < 0 ∨ cl131.slots.size ≤ ((0 : Int32)).toNatClampNeg) := inb_of S131 ⟨by decide, by decide⟩
  have hat131 : cl131.slots[((0 : Int32)).toNatClampNeg]? = some (.double x1) := Has.at H131 hin131 hx1
  obtain ⟨T132, X132, e132, st132⟩ := getF X130 hx hZ hown (host := "") (Or.inl (wd hw 26 rfl)) Via.refl e130 Fh (g := (mkF m 16 (la4 a1 d2) [(.ref a1), (.ref a1)])) rfl rfl (hb hby d4_16)
  obtain ⟨T133, X133, e133, st133⟩ := getF X132 hx hZ hown (host := "") (Or.inl (wd hw 11 rfl)) Via.refl e132 F0 (g := (mkF m 22 (la4 a1 d2) [(.ref a1), (.int 1), (.ref a1)])) rfl rfl (hb hby d4_22)
  obtain ⟨cl134, Ar134, -, S134, M134, -, -⟩ := id V0
  obtain ⟨T135, h135, X135, e135, W135, st135⟩ := putF X133 hx hZ hown (host := "") (Or.inl (wd hw 26 rfl)) Via.refl e133 Fh E1 (Or.inl (wd hw 27 rfl)) (wd hw 2 rfl) (ty := .int) (by decide) rfl rfl (g := (mkF m 29 (la4 a1 d2) [(.int 1), (.ref a1)])) rfl rfl (hb hby d4_29)
  have N135 := Fr.snoc X135 N0 (by omega : n0 ≤ a1)
  have sz135 : h0.size ≤ h135.size := Nat.le_of_eq W135.size.symm
  have f135 : Fld Z h135 a1 kS0 "head" "I" (.int 1) := Fh.same W135
  have f136 : Fld Z h135 a1 kS0 "size" "I" (.int z1) := (Fs.other W135 (Or.inr (slot_ne (Or.inl (wd hw 29 rfl)) (Or.inl (wd hw 27 rfl)) (by decide) (t := .int) (t' := .int) (by decide) (by decide))))
  obtain ⟨T137, X137, e137, st137⟩ := getF X135 hx hZ hown (host := "") (Or.inl (wd hw 28 rfl)) Via.refl e135 f136 (g := (mkF m 34 (la4 a1 d2) [(.ref a1), (.ref a1)])) rfl rfl (hb hby d4_34)
  have f138 : Exa Z h135 a1 kS0 := (E1.wr W135)
  obtain ⟨T139, h139, X139, e139, W139, st139⟩ := putF X137 hx hZ hown (host := "") (Or.inl (wd hw 28 rfl)) Via.refl e137 f136 f138 (Or.inl (wd hw 29 rfl)) (wd hw 2 rfl) (ty := .int) (by decide) rfl rfl (g := (mkF m 39 (la4 a1 d2) [(.int (z1 - (1 : Int32))), (.ref a1)])) rfl rfl (hb hby d4_39)
  have N139 := Fr.snoc X139 N135 (by omega : n0 ≤ a1)
  have sz139 : h135.size ≤ h139.size := Nat.le_of_eq W139.size.symm
  have f139 : Fld Z h139 a1 kS0 "size" "I" (.int (z1 - (1 : Int32))) := f136.same W139
  obtain ⟨T140, X140, e140, st140⟩ := getF X139 hx hZ hown (host := "") (Or.inl (wd hw 28 rfl)) Via.refl e139 f139 (g := (mkF m 60 (la4 a1 d2) [(.ref a1), (.ref a1)])) rfl rfl (hb hby d4_60)
  have pre141 : ∀ t, Steps p.tables e below (T140.setTop (mkF m 63 (la4 a1 d2) [(.int (z1 - (1 : Int32))), (.ref a1)])) t → Steps p.tables e below (s₁.setTop (entryFrame m #[(.ref a1), (.double d2)] 3)) t := by
    intro t kt
    refine pre0 t ?_
    show GO p e below s₁ (mkF m 0 (la4 a1 d2) []) _
    refine XS.dloadN X0.here hx rfl (hb hby d4_0) rfl ?_
    show GO p e below s₁ (mkF m 1 (la4 a1 d2) [(.double d2)]) _
    refine XS.aloadN X0.here hx rfl (hb hby d4_1) rfl rfl ?_
    show GO p e below s₁ (mkF m 2 (la4 a1 d2) [(.ref a1), (.double d2)]) _
    refine st129 _ ?_
    show GO p e below T129 (mkF m 5 (la4 a1 d2) [(.ref t2), (.double d2)]) _
    refine XS.aloadN X129.here hx rfl (hb hby d4_5) rfl rfl ?_
    show GO p e below T129 (mkF m 6 (la4 a1 d2) [(.ref a1), (.ref t2), (.double d2)]) _
    refine st130 _ ?_
    show GO p e below T130 (mkF m 9 (la4 a1 d2) [(.int 0), (.ref t2), (.double d2)]) _
    refine X130.daload hx (j := (0 : Int32)) (v := (.double x1)) (by rw [e130]; exact Ar131.1) (State.isArrayOf_alike hZ.alike Ar131.2.1) Ar131.2.2 hin131 hat131 (g := (mkF m 9 (la4 a1 d2) [(.int 0), (.ref t2), (.double d2)])) rfl rfl (hb hby d4_9) _ ?_
    show GO p e below T130 (mkF m 10 (la4 a1 d2) [(.double x1), (.double d2)]) _
    refine XS.dcmpS X130.here hx rfl (hb hby d4_10) rfl rfl ?_
    show GO p e below T130 (mkF m 11 (la4 a1 d2) [(.int (cmpValue (FP.dcmp d2 x1) .l))]) _
    refine XS.ifNo X130.here hx rfl (hb hby d4_11) rfl ((if0 _ _).trans (flt (hcmp : ¬ ((cmpValue (FP.dcmp d2 x1) .l) < (0 : Int32)))).1) ?_
    show GO p e below T130 (mkF m 14 (la4 a1 d2) []) _
    refine XS.aloadN X130.here hx rfl (hb hby d4_14) rfl rfl ?_
    show GO p e below T130 (mkF m 15 (la4 a1 d2) [(.ref a1)]) _
    refine XS.aloadN X130.here hx rfl (hb hby d4_15) rfl rfl ?_
    show GO p e below T130 (mkF m 16 (la4 a1 d2) [(.ref a1), (.ref a1)]) _
    refine st132 _ ?_
    show GO p e below T132 (mkF m 19 (la4 a1 d2) [(.int 0), (.ref a1)]) _
    refine XS.iconst X132.here hx rfl (hb hby d4_19) ?_
    show GO p e below T132 (mkF m 20 (la4 a1 d2) [(.int 1), (.int 0), (.ref a1)]) _
    refine XS.iadd X132.here hx rfl (hb hby d4_20) rfl ?_
    rw [show ((0 : Int32) + (1 : Int32)) = (1 : Int32) from by decide]
    show GO p e below T132 (mkF m 21 (la4 a1 d2) [(.int 1), (.ref a1)]) _
    refine XS.aloadN X132.here hx rfl (hb hby d4_21) rfl rfl ?_
    show GO p e below T132 (mkF m 22 (la4 a1 d2) [(.ref a1), (.int 1), (.ref a1)]) _
    refine st133 _ ?_
    show GO p e below T133 (mkF m 25 (la4 a1 d2) [(.ref t0), (.int 1), (.ref a1)]) _
    refine X133.arraylength hx (by rw [e133]; exact Ar134.1) (State.isArrayOf_alike hZ.alike Ar134.2.1) (g := (mkF m 25 (la4 a1 d2) [(.ref t0), (.int 1), (.ref a1)])) rfl rfl (hb hby d4_25) _ ?_
    rw [len_of S134 M134]
    show GO p e below T133 (mkF m 26 (la4 a1 d2) [(.int 8), (.int 1), (.ref a1)]) _
    refine XS.iconst X133.here hx rfl (hb hby d4_26) ?_
    show GO p e below T133 (mkF m 27 (la4 a1 d2) [(.int 1), (.int 8), (.int 1), (.ref a1)]) _
    refine XS.isub X133.here hx rfl (hb hby d4_27) rfl ?_
    rw [show ((8 : Int32) - (1 : Int32)) = (7 : Int32) from by decide]
    show GO p e below T133 (mkF m 28 (la4 a1 d2) [(.int 7), (.int 1), (.ref a1)]) _
    refine XS.iand X133.here hx rfl (hb hby d4_28) rfl ?_
    rw [show ((1 : Int32) &&& (7 : Int32)) = (1 : Int32) from by decide]
    show GO p e below T133 (mkF m 29 (la4 a1 d2) [(.int 1), (.ref a1)]) _
    refine st135 _ ?_
    show GO p e below T135 (mkF m 32 (la4 a1 d2) []) _
    refine XS.aloadN X135.here hx rfl (hb hby d4_32) rfl rfl ?_
    show GO p e below T135 (mkF m 33 (la4 a1 d2) [(.ref a1)]) _
    refine XS.dup X135.here hx rfl (hb hby d4_33) rfl rfl ?_
    show GO p e below T135 (mkF m 34 (la4 a1 d2) [(.ref a1), (.ref a1)]) _
    refine st137 _ ?_
    show GO p e below T137 (mkF m 37 (la4 a1 d2) [(.int z1), (.ref a1)]) _
    refine XS.iconst X137.here hx rfl (hb hby d4_37) ?_
    show GO p e below T137 (mkF m 38 (la4 a1 d2) [(.int 1), (.int z1), (.ref a1)]) _
    refine XS.isub X137.here hx rfl (hb hby d4_38) rfl ?_
    show GO p e below T137 (mkF m 39 (la4 a1 d2) [(.int (z1 - (1 : Int32))), (.ref a1)]) _
    refine st139 _ ?_
    show GO p e below T139 (mkF m 42 (la4 a1 d2) []) _
    refine XS.goto X139.here hx rfl (pc0 := 42) (pc' := 58) rfl (hb hby d4_42) (by decide) (by decide) ?_
    show GO p e below T139 (mkF m 58 (la4 a1 d2) []) _
    refine XS.aloadN X139.here hx rfl (hb hby d4_58) rfl rfl ?_
    show GO p e below T139 (mkF m 59 (la4 a1 d2) [(.ref a1)]) _
    refine XS.aloadN X139.here hx rfl (hb hby d4_59) rfl rfl ?_
    show GO p e below T139 (mkF m 60 (la4 a1 d2) [(.ref a1), (.ref a1)]) _
    refine st140 _ ?_
    exact kt
  by_cases hb142 : (z1 - (1 : Int32)) = (0 : Int32)
  · have f143 : Fld Z h139 a1 kS0 "content" "D" (.double c1) := ((Fc.other W135 (Or.inr (slot_ne (Or.inl (wd hw 31 rfl)) (Or.inl (wd hw 27 rfl)) (by decide) (t := .double) (t' := .int) (by decide) (by decide)))).other W139 (Or.inr (slot_ne (Or.inl (wd hw 31 rfl)) (Or.inl (wd hw 29 rfl)) (by decide) (t := .double) (t' := .int) (by decide) (by decide))))
    have f144 : Exa Z h139 a1 kS0 := (f138.wr W139)
    obtain ⟨T145, h145, X145, e145, W145, st145⟩ := putF X140 hx hZ hown (host := "") (Or.inl (wd hw 30 rfl)) Via.refl e140 f143 f144 (Or.inl (wd hw 31 rfl)) (wd hw 2 rfl) (ty := .double) (by decide) rfl rfl (g := (mkF m 76 (la4 a1 d2) [(.double FP.dconst0), (.ref a1)])) rfl rfl (hb hby d4_76)
    have N145 := Fr.snoc X145 N139 (by omega : n0 ≤ a1)
    have sz145 : h139.size ≤ h145.size := Nat.le_of_eq W145.size.symm
    have f145 : Fld Z h145 a1 kS0 "content" "D" (.double FP.dconst0) := f143.same W145
    have f146 : Fld Z h145 a1 kS0 "content" "D" (.double (if (z1 - (1 : Int32)) = (0 : Int32) then (0 : UInt64) else FP.dsub c1 d2)) := by
      have q := f145
      rw [if_pos hb142]
      exact q
    have f147 : Exa Z h145 a1 kS0 := (f144.wr W145)
    have f148 : Fld Z h145 a1 kS0 "head" "I" (.int 1) := ((f135.other W139 (Or.inr (slot_ne (Or.inl (wd hw 27 rfl)) (Or.inl (wd hw 29 rfl)) (by decide) (t := .int) (t' := .int) (by decide) (by decide)))).other W145 (Or.inr (slot_ne (Or.inl (wd hw 27 rfl)) (Or.inl (wd hw 31 rfl)) (by decide) (t := .int) (t' := .double) (by decide) (by decide))))
    have f149 : Fld Z h145 a1 kS0 "size" "I" (.int (z1 - (1 : Int32))) := (f139.other W145 (Or.inr (slot_ne (Or.inl (wd hw 29 rfl)) (Or.inl (wd hw 31 rfl)) (by decide) (t := .int) (t' := .double) (by decide) (by decide))))
    have f150 : Fld Z h145 a1 kS0 "agents" "[I" (.ref t0) := (((F0.other W135 (Or.inr (slot_ne (Or.inl (wd hw 12 rfl)) (Or.inl (wd hw 27 rfl)) (by decide) (t := (.array .int)) (t' := .int) (by decide) (by decide)))).other W139 (Or.inr (slot_ne (Or.inl (wd hw 12 rfl)) (Or.inl (wd hw 29 rfl)) (by decide) (t := (.array .int)) (t' := .int) (by decide) (by decide)))).other W145 (Or.inr (slot_ne (Or.inl (wd hw 12 rfl)) (Or.inl (wd hw 31 rfl)) (by decide) (t := (.array .int)) (t' := .double) (by decide) (by decide))))
    have f151 : Arv Z h145 t0 k0 .int (8 : Int32) vA (.int 0) := (((V0.other W135 (neN (by omega))).other W139 (neN (by omega))).other W145 (neN (by omega)))
    have f152 : Fld Z h145 a1 kS0 "legs" "[I" (.ref t1) := (((F1.other W135 (Or.inr (slot_ne (Or.inl (wd hw 14 rfl)) (Or.inl (wd hw 27 rfl)) (by decide) (t := (.array .int)) (t' := .int) (by decide) (by decide)))).other W139 (Or.inr (slot_ne (Or.inl (wd hw 14 rfl)) (Or.inl (wd hw 29 rfl)) (by decide) (t := (.array .int)) (t' := .int) (by decide) (by decide)))).other W145 (Or.inr (slot_ne (Or.inl (wd hw 14 rfl)) (Or.inl (wd hw 31 rfl)) (by decide) (t := (.array .int)) (t' := .double) (by decide) (by decide))))
    have f153 : Arv Z h145 t1 k1 .int (8 : Int32) vL (.int 0) := (((V1.other W135 (neN (by omega))).other W139 (neN (by omega))).other W145 (neN (by omega)))
    have f154 : Fld Z h145 a1 kS0 "amounts" "[D" (.ref t2) := (((F2.other W135 (Or.inr (slot_ne (Or.inl (wd hw 17 rfl)) (Or.inl (wd hw 27 rfl)) (by decide) (t := (.array .double)) (t' := .int) (by decide) (by decide)))).other W139 (Or.inr (slot_ne (Or.inl (wd hw 17 rfl)) (Or.inl (wd hw 29 rfl)) (by decide) (t := (.array .double)) (t' := .int) (by decide) (by decide)))).other W145 (Or.inr (slot_ne (Or.inl (wd hw 17 rfl)) (Or.inl (wd hw 31 rfl)) (by decide) (t := (.array .double)) (t' := .double) (by decide) (by decide))))
    have f155 : Arv Z h145 t2 k2 .double (8 : Int32) vD (.double (0 : UInt64)) := (((V2.other W135 (neN (by omega))).other W139 (neN (by omega))).other W145 (neN (by omega)))
    have f156 : Fld Z h145 a1 kS0 "rears" "[Z" (.ref t3) := (((F3.other W135 (Or.inr (slot_ne (Or.inl (wd hw 20 rfl)) (Or.inl (wd hw 27 rfl)) (by decide) (t := (.array .boolean)) (t' := .int) (by decide) (by decide)))).other W139 (Or.inr (slot_ne (Or.inl (wd hw 20 rfl)) (Or.inl (wd hw 29 rfl)) (by decide) (t := (.array .boolean)) (t' := .int) (by decide) (by decide)))).other W145 (Or.inr (slot_ne (Or.inl (wd hw 20 rfl)) (Or.inl (wd hw 31 rfl)) (by decide) (t := (.array .boolean)) (t' := .double) (by decide) (by decide))))
    have f157 : Arv Z h145 t3 k3 .boolean (8 : Int32) vR (.int 0) := (((V3.other W135 (neN (by omega))).other W139 (neN (by omega))).other W145 (neN (by omega)))
    obtain ⟨fs, hr, hrun, hended, hW, hsame⟩ := X145.leave (v := none) (fun _ => rfl)
    refine ⟨_, _, pre141 _ ?_, hrun, hended, _, _, rfl, ?_, ⟨_, rfl⟩, hW, hsame.mono (by decide) (by decide)⟩
    · show GO p e below T140 (mkF m 63 (la4 a1 d2) [(.int (z1 - (1 : Int32))), (.ref a1)]) _
      refine XS.ifNo X140.here hx rfl (hb hby d4_63) rfl ((if0 _ _).trans (teq (hb142 : (z1 - (1 : Int32)) = (0 : Int32))).2) ?_
      show GO p e below T140 (mkF m 66 (la4 a1 d2) [(.ref a1)]) _
      refine XS.dconst0 X140.here hx rfl (hb hby d4_66) rfl ?_
      show GO p e below T140 (mkF m 67 (la4 a1 d2) [(.double FP.dconst0), (.ref a1)]) _
      refine XS.goto X140.here hx rfl (pc0 := 67) (pc' := 76) rfl (hb hby d4_67) (by decide) (by decide) ?_
      show GO p e below T140 (mkF m 76 (la4 a1 d2) [(.double FP.dconst0), (.ref a1)]) _
      refine st145 _ ?_
      show GO p e below T145 (mkF m 79 (la4 a1 d2) []) _
      exact X145.returnOut hx Bd.returns (hb hby d4_79) hr
    · show Qrm_takef0 Z a1 d2 z1 c1 x1 t0 k0 vA t1 k1 vL t2 k2 vD t3 k3 vR h0 n0 _ T145.heap _
      rw [e145]
      exact ⟨rfl, N145, ((((Keep.refl h0 [a1, t0, t1, t2, t3]).wr W135 (Or.inl (List.mem_of_getElem? (i := 0) rfl))).wr W139 (Or.inl (List.mem_of_getElem? (i := 0) rfl))).wr W145 (Or.inl (List.mem_of_getElem? (i := 0) rfl))), f147, f148, f149, f146, f150, f151, f152, f153, f154, f155, f156, f157⟩
  · have f158 : Fld Z h139 a1 kS0 "content" "D" (.double c1) := ((Fc.other W135 (Or.inr (slot_ne (Or.inl (wd hw 31 rfl)) (Or.inl (wd hw 27 rfl)) (by decide) (t := .double) (t' := .int) (by decide) (by decide)))).other W139 (Or.inr (slot_ne (Or.inl (wd hw 31 rfl)) (Or.inl (wd hw 29 rfl)) (by decide) (t := .double) (t' := .int) (by decide) (by decide))))
    obtain ⟨T159, X159, e159, st159⟩ := getF X140 hx hZ hown (host := "") (Or.inl (wd hw 30 rfl)) Via.refl e140 f158 (g := (mkF m 71 (la4 a1 d2) [(.ref a1), (.ref a1)])) rfl rfl (hb hby d4_71)
    have f160 : Exa Z h139 a1 kS0 := (f138.wr W139)
    obtain ⟨T161, h161, X161, e161, W161, st161⟩ := putF X159 hx hZ hown (host := "") (Or.inl (wd hw 30 rfl)) Via.refl e159 f158 f160 (Or.inl (wd hw 31 rfl)) (wd hw 2 rfl) (ty := .double) (by decide) rfl rfl (g := (mkF m 76 (la4 a1 d2) [(.double (FP.dsub c1 d2)), (.ref a1)])) rfl rfl (hb hby d4_76)
    have N161 := Fr.snoc X161 N139 (by omega : n0 ≤ a1)
    have sz161 : h139.size ≤ h161.size := Nat.le_of_eq W161.size.symm
    have f161 : Fld Z h161 a1 kS0 "content" "D" (.double (FP.dsub c1 d2)) := f158.same W161
    have f162 : Fld Z h161 a1 kS0 "content" "D" (.double (if (z1 - (1 : Int32)) = (0 : Int32) then (0 : UInt64) else FP.dsub c1 d2)) := by
      have q := f161
      rw [if_neg hb142]
      exact q
    have f163 : Exa Z h161 a1 kS0 := (f160.wr W161)
    have f164 : Fld Z h161 a1 kS0 "head" "I" (.int 1) := ((f135.other W139 (Or.inr (slot_ne (Or.inl (wd hw 27 rfl)) (Or.inl (wd hw 29 rfl)) (by decide) (t := .int) (t' := .int) (by decide) (by decide)))).other W161 (Or.inr (slot_ne (Or.inl (wd hw 27 rfl)) (Or.inl (wd hw 31 rfl)) (by decide) (t := .int) (t' := .double) (by decide) (by decide))))
    have f165 : Fld Z h161 a1 kS0 "size" "I" (.int (z1 - (1 : Int32))) := (f139.other W161 (Or.inr (slot_ne (Or.inl (wd hw 29 rfl)) (Or.inl (wd hw 31 rfl)) (by decide) (t := .int) (t' := .double) (by decide) (by decide))))
    have f166 : Fld Z h161 a1 kS0 "agents" "[I" (.ref t0) := (((F0.other W135 (Or.inr (slot_ne (Or.inl (wd hw 12 rfl)) (Or.inl (wd hw 27 rfl)) (by decide) (t := (.array .int)) (t' := .int) (by decide) (by decide)))).other W139 (Or.inr (slot_ne (Or.inl (wd hw 12 rfl)) (Or.inl (wd hw 29 rfl)) (by decide) (t := (.array .int)) (t' := .int) (by decide) (by decide)))).other W161 (Or.inr (slot_ne (Or.inl (wd hw 12 rfl)) (Or.inl (wd hw 31 rfl)) (by decide) (t := (.array .int)) (t' := .double) (by decide) (by decide))))
    have f167 : Arv Z h161 t0 k0 .int (8 : Int32) vA (.int 0) := (((V0.other W135 (neN (by omega))).other W139 (neN (by omega))).other W161 (neN (by omega)))
    have f168 : Fld Z h161 a1 kS0 "legs" "[I" (.ref t1) := (((F1.other W135 (Or.inr (slot_ne (Or.inl (wd hw 14 rfl)) (Or.inl (wd hw 27 rfl)) (by decide) (t := (.array .int)) (t' := .int) (by decide) (by decide)))).other W139 (Or.inr (slot_ne (Or.inl (wd hw 14 rfl)) (Or.inl (wd hw 29 rfl)) (by decide) (t := (.array .int)) (t' := .int) (by decide) (by decide)))).other W161 (Or.inr (slot_ne (Or.inl (wd hw 14 rfl)) (Or.inl (wd hw 31 rfl)) (by decide) (t := (.array .int)) (t' := .double) (by decide) (by decide))))
    have f169 : Arv Z h161 t1 k1 .int (8 : Int32) vL (.int 0) := (((V1.other W135 (neN (by omega))).other W139 (neN (by omega))).other W161 (neN (by omega)))
    have f170 : Fld Z h161 a1 kS0 "amounts" "[D" (.ref t2) := (((F2.other W135 (Or.inr (slot_ne (Or.inl (wd hw 17 rfl)) (Or.inl (wd hw 27 rfl)) (by decide) (t := (.array .double)) (t' := .int) (by decide) (by decide)))).other W139 (Or.inr (slot_ne (Or.inl (wd hw 17 rfl)) (Or.inl (wd hw 29 rfl)) (by decide) (t := (.array .double)) (t' := .int) (by decide) (by decide)))).other W161 (Or.inr (slot_ne (Or.inl (wd hw 17 rfl)) (Or.inl (wd hw 31 rfl)) (by decide) (t := (.array .double)) (t' := .double) (by decide) (by decide))))
    have f171 : Arv Z h161 t2 k2 .double (8 : Int32) vD (.double (0 : UInt64)) := (((V2.other W135 (neN (by omega))).other W139 (neN (by omega))).other W161 (neN (by omega)))
    have f172 : Fld Z h161 a1 kS0 "rears" "[Z" (.ref t3) := (((F3.other W135 (Or.inr (slot_ne (Or.inl (wd hw 20 rfl)) (Or.inl (wd hw 27 rfl)) (by decide) (t := (.array .boolean)) (t' := .int) (by decide) (by decide)))).other W139 (Or.inr (slot_ne (Or.inl (wd hw 20 rfl)) (Or.inl (wd hw 29 rfl)) (by decide) (t := (.array .boolean)) (t' := .int) (by decide) (by decide)))).other W161 (Or.inr (slot_ne (Or.inl (wd hw 20 rfl)) (Or.inl (wd hw 31 rfl)) (by decide) (t := (.array .boolean)) (t' := .double) (by decide) (by decide))))
    have f173 : Arv Z h161 t3 k3 .boolean (8 : Int32) vR (.int 0) := (((V3.other W135 (neN (by omega))).other W139 (neN (by omega))).other W161 (neN (by omega)))
    obtain ⟨fs, hr, hrun, hended, hW, hsame⟩ := X161.leave (v := none) (fun _ => rfl)
    refine ⟨_, _, pre141 _ ?_, hrun, hended, _, _, rfl, ?_, ⟨_, rfl⟩, hW, hsame.mono (by decide) (by decide)⟩
    · show GO p e below T140 (mkF m 63 (la4 a1 d2) [(.int (z1 - (1 : Int32))), (.ref a1)]) _
      refine XS.ifYes X140.here hx rfl (pc0 := 63) (pc' := 70) rfl (hb hby d4_63) rfl ((if0 _ _).trans (feq (hb142 : ¬ ((z1 - (1 : Int32)) = (0 : Int32)))).2) (by decide) (by decide) ?_
      show GO p e below T140 (mkF m 70 (la4 a1 d2) [(.ref a1)]) _
      refine XS.aloadN X140.here hx rfl (hb hby d4_70) rfl rfl ?_
      show GO p e below T140 (mkF m 71 (la4 a1 d2) [(.ref a1), (.ref a1)]) _
      refine st159 _ ?_
      show GO p e below T159 (mkF m 74 (la4 a1 d2) [(.double c1), (.ref a1)]) _
      refine XS.dloadN X159.here hx rfl (hb hby d4_74) rfl ?_
      show GO p e below T159 (mkF m 75 (la4 a1 d2) [(.double d2), (.double c1), (.ref a1)]) _
      refine XS.dsubS X159.here hx rfl (hb hby d4_75) rfl hn rfl ?_
      show GO p e below T159 (mkF m 76 (la4 a1 d2) [(.double (FP.dsub c1 d2)), (.ref a1)]) _
      refine st161 _ ?_
      show GO p e below T161 (mkF m 79 (la4 a1 d2) []) _
      exact X161.returnOut hx Bd.returns (hb hby d4_79) hr
    · show Qrm_takef0 Z a1 d2 z1 c1 x1 t0 k0 vA t1 k1 vL t2 k2 vD t3 k3 vR h0 n0 _ T161.heap _
      rw [e161]
      exact ⟨rfl, N161, ((((Keep.refl h0 [a1, t0, t1, t2, t3]).wr W135 (Or.inl (List.mem_of_getElem? (i := 0) rfl))).wr W139 (Or.inl (List.mem_of_getElem? (i := 0) rfl))).wr W161 (Or.inl (List.mem_of_getElem? (i := 0) rfl))), f163, f164, f165, f162, f166, f167, f168, f169, f170, f171, f172, f173⟩
def Qrm_takep0 (Z : State) (a1 : Addr) (d2 : UInt64) (z1 : Int32) (c1 : UInt64) (x1 : UInt64) (t0 : Addr) (k0 : ClassId) (vA : List Value) (t1 : Addr) (k1 : ClassId) (vL : List Value) (t2 : Addr) (k2 : ClassId) (vD : List Value) (t3 : Addr) (k3 : ClassId) (vR : List Value) (h0 : Heap) (n0 : Nat) (v : Option Value) (h : Heap) (L : List Loc) : Prop := v = none ∧ Fr n0 L ∧ Keep h0 h [a1, t0, t1, t2, t3] ∧ Exa Z h a1 kS0 ∧ Fld Z h a1 kS0 "head" "I" (.int 0) ∧ Fld Z h a1 kS0 "size" "I" (.int z1) ∧ Fld Z h a1 kS0 "content" "D" (.double (if z1 = (0 : Int32) then (0 : UInt64) else FP.dsub c1 d2)) ∧ Fld Z h a1 kS0 "agents" "[I" (.ref t0) ∧ Arv Z h t0 k0 .int (8 : Int32) vA (.int 0) ∧ Fld Z h a1 kS0 "legs" "[I" (.ref t1) ∧ Arv Z h t1 k1 .int (8 : Int32) vL (.int 0) ∧ Fld Z h a1 kS0 "amounts" "[D" (.ref t2) ∧ Arv Z h t2 k2 .double (8 : Int32) (vD.set 0 (.double (FP.dsub x1 d2))) (.double (0 : UInt64)) ∧ Fld Z h a1 kS0 "rears" "[Z" (.ref t3) ∧ Arv Z h t3 k3 .boolean (8 : Int32) vR (.int 0)
theorem ef_rm_takep0 (m : MethodId) (x0 : Addr) (x1 : UInt64) : entryFrame m #[(.ref x0), (.double x1)] 3 = mkF m 0 (la4 x0 x1) [] := by first | rfl | (simp [entryFrame, mkF, argsToLocals, Value.category]; done)
set_option maxRecDepth 65536 in
set_option maxHeartbeats 40000000 in
theorem rm_takep0 (l : Launch) (Z : State) (a0 : Array Value) (hw : ∀ d ∈ tables_1, d.before a0 Z = true) (ws : List Jvm.Cond) (a1 : Addr) (d2 : UInt64) (z1 : Int32) (c1 : UInt64) (x1 : UInt64) (t0 : Addr) (k0 : ClassId) (vA : List Value) (t1 : Addr) (k1 : ClassId) (vL : List Value) (t2 : Addr) (k2 : ClassId) (vD : List Value) (t3 : Addr) (k3 : ClassId) (vR : List Value) (h0 : Heap) (n0 : Nat) (Z0 : n0 ≤ h0.size) (E1 : Exa Z h0 a1 kS0) (Fh : Fld Z h0 a1 kS0 "head" "I" (.int 0)) (Fs : Fld Z h0 a1 kS0 "size" "I" (.int z1)) (Fc : Fld Z h0 a1 kS0 "content" "D" (.double c1)) (F0 : Fld Z h0 a1 kS0 "agents" "[I" (.ref t0)) (V0 : Arv Z h0 t0 k0 .int (8 : Int32) vA (.int 0)) (F1 : Fld Z h0 a1 kS0 "legs" "[I" (.ref t1)) (V1 : Arv Z h0 t1 k1 .int (8 : Int32) vL (.int 0)) (F2 : Fld Z h0 a1 kS0 "amounts" "[D" (.ref t2)) (V2 : Arv Z h0 t2 k2 .double (8 : Int32) vD (.double (0 : UInt64))) (F3 : Fld Z h0 a1 kS0 "rears" "[Z" (.ref t3)) (V3 : Arv Z h0 t3 k3 .boolean (8 : Int32) vR (.int 0)) (len0 : vA.length = 8) (len1 : vL.length = 8) (len2 : vD.length = 8) (len3 : vR.length = 8) (o1 : LT.lt (α := Nat) a1 t0) (o2 : LT.lt (α := Nat) t0 t1) (o3 : LT.lt (α := Nat) t1 t2) (o4 : LT.lt (α := Nat) t2 t3) (g1 : n0 ≤ a1) (hx1 : vD.getD ((0 : Int32)).toNatClampNeg (.double (0 : UInt64)) = (.double x1)) (hcmp : (cmpValue (FP.dcmp d2 x1) .l) < (0 : Int32)) (hn : Jvm.Free.Fl.NoNaN64 (FP.dsub c1 d2)) (hn2 : Jvm.Free.Fl.NoNaN64 (FP.dsub x1 d2)) (hz1 : ¬ (z1 = (0 : Int32))) :
    MetFree l (⟨kS0, "takeFromHead", "(D)V"⟩ : MethodName) (head1 (Jvm.Cond.code (⟨kS0, "takeFromHead", "(D)V"⟩ : MethodName) prog_14_method_12_code 3 none :: ws) ({ frames := 0, cells := 0, slots := 0, locals := 0 } : Room)) (fun a U => a = #[(.ref a1), (.double d2)] ∧ Z.Warmed39 U.vm ∧ U.heap = h0) (fun _ _ _ _ _ => True) (fun _ U o U' => ∃ v L, o = .returned v ∧ Qrm_takep0 Z a1 d2 z1 c1 x1 t0 k0 vA t1 k1 vL t2 k2 vD t3 k3 vR h0 n0 v U'.heap L ∧ FrameEnd U o U' L ({ frames := 0, cells := 0, slots := 0, locals := 0 } : Room).cells ({ frames := 0, cells := 0, slots := 0, locals := 0 } : Room).slots) := by
  refine MetFree.of_bodySF (plainFor_of_name pn_0) hisR ?_
  intro p e s m args below meth c s₁ Bd hml0 hP hK
  obtain ⟨rfl, hZ, hh⟩ := hP
  have hx := Bd.exec
  have hby := Bd.bytes
  have hml : c.maxLocals = 3 := hml0
  have hown : s.vm.findClass kS0 = some m.cls := findClass_of_methodNamed Bd.named
  have hnm := (name_of_methodNamed Bd.named Bd.method).1
  have X0 : Stand p l e ({ frames := 0, cells := 0, slots := 0, locals := 0 } : Room) s m #[(.ref a1), (.double d2)] below meth c s₁ [] 0 0 := Stand.of_body Bd
  have e0 : s₁.heap = h0 := by rw [← hh, Bd.state]; rfl
  have N0 := Fr.nil n0
  have pre0 : ∀ t, Steps p.tables e below (s₁.setTop (mkF m 0 (la4 a1 d2) [])) t → Steps p.tables e below (s₁.setTop (entryFrame m #[(.ref a1), (.double d2)] 3)) t := fun t k => castTop (ef_rm_takep0 m a1 d2) k
  have lt_E1 := ltA E1.lt
  have lt_Fh := ltA Fh.lt
  have lt_Fs := ltA Fs.lt
  have lt_Fc := ltA Fc.lt
  have lt_F0 := ltA F0.lt
  have lt_V0 := ltA V0.lt
  have lt_F1 := ltA F1.lt
  have lt_V1 := ltA V1.lt
  have lt_F2 := ltA F2.lt
  have lt_V2 := ltA V2.lt
  have lt_F3 := ltA F3.lt
  have lt_V3 := ltA V3.lt
  obtain ⟨T174, X174, e174, st174⟩ := getF X0 hx hZ hown (host := "") (Or.inl (wd hw 16 rfl)) Via.refl e0 F2 (g := (mkF m 2 (la4 a1 d2) [(.ref a1), (.double d2)])) rfl rfl (hb hby d4_2)
  obtain ⟨T175, X175, e175, st175⟩ := getF X174 hx hZ hown (host := "") (Or.inl (wd hw 26 rfl)) Via.refl e174 Fh (g := (mkF m 6 (la4 a1 d2) [(.ref a1), (.ref t2), (.double d2)])) rfl rfl (hb hby d4_6)
  obtain ⟨cl176, Ar176, q176, S176, M176, H176, G176⟩ := id V2
  have hin176 : ¬ ((0 : Int32) < 0 ∨ cl176.slots.size ≤ ((0 : Int32)).toNatClampNeg) := inb_of S176 ⟨by decide, by decide⟩
  have hat176 : cl176.slots[((0 : Int32)).toNatClampNeg]? = some (.double x1) := Has.at H176 hin176 hx1
  obtain ⟨T177, X177, e177, st177⟩ := getF X175 hx hZ hown (host := "") (Or.inl (wd hw 16 rfl)) Via.refl e175 F2 (g := (mkF m 46 (la4 a1 d2) [(.ref a1)])) rfl rfl (hb hby d4_46)
  obtain ⟨T178, X178, e178, st178⟩ := getF X177 hx hZ hown (host := "") (Or.inl (wd hw 26 rfl)) Via.refl e177 Fh (g := (mkF m 50 (la4 a1 d2) [(.ref a1), (.ref t2)])) rfl rfl (hb hby d4_50)
  obtain ⟨cl179, Ar179, q179, S179, M179, H179, G179⟩ := id V2
  have hin179 : ¬ ((0 : Int32) < 0 ∨ cl179.slots.size ≤ ((0 : Int32)).toNatClampNeg) := inb_of S179 ⟨by decide, by decide⟩
  have hat179 : cl179.slots[((0 : Int32)).toNatClampNeg]? = some (.double x1) := Has.at H179 hin179 hx1
  obtain ⟨cl180, Ar180, q180, S180, M180, H180, G180⟩ := id V2
  have hin180 : ¬ ((0 : Int32) < 0 ∨ cl180.slots.size ≤ ((0 : Int32)).toNatClampNeg) := inb_of S180 ⟨by decide, by decide⟩
  obtain ⟨T181, h181, X181, e181, W181, st181⟩ := stD X178 hx hZ e178 Ar180 (j := (0 : Int32)) hin180 (g := (mkF m 57 (la4 a1 d2) [(.double (FP.dsub x1 d2)), (.int 0), (.ref t2)])) rfl rfl (hb hby d4_57)
  have N181 := Fr.snoc X181 N0 (by omega : n0 ≤ t2)
  have sz181 : h0.size ≤ h181.size := Nat.le_of_eq W181.size.symm
  have V181 : Arv Z h181 t2 k2 .double (8 : Int32) (vD.set 0 (.double (FP.dsub x1 d2))) (.double (0 : UInt64)) := Arv.set Ar180 q180 S180 M180 H180 G180 rfl W181 0 rfl (by omega)
  have f182 : Fld Z h181 a1 kS0 "size" "I" (.int z1) := (Fs.other W181 (Or.inl (neN (by omega))))
  obtain ⟨T183, X183, e183, st183⟩ := getF X181 hx hZ hown (host := "") (Or.inl (wd hw 28 rfl)) Via.refl e181 f182 (g := (mkF m 60 (la4 a1 d2) [(.ref a1), (.ref a1)])) rfl rfl (hb hby d4_60)
  have f184 : Fld Z h181 a1 kS0 "content" "D" (.double c1) := (Fc.other W181 (Or.inl (neN (by omega))))
  obtain ⟨T185, X185, e185, st185⟩ := getF X183 hx hZ hown (host := "") (Or.inl (wd hw 30 rfl)) Via.refl e183 f184 (g := (mkF m 71 (la4 a1 d2) [(.ref a1), (.ref a1)])) rfl rfl (hb hby d4_71)
  have f186 : Exa Z h181 a1 kS0 := (E1.wr W181)
  obtain ⟨T187, h187, X187, e187, W187, st187⟩ := putF X185 hx hZ hown (host := "") (Or.inl (wd hw 30 rfl)) Via.refl e185 f184 f186 (Or.inl (wd hw 31 rfl)) (wd hw 2 rfl) (ty := .double) (by decide) rfl rfl (g := (mkF m 76 (la4 a1 d2) [(.double (FP.dsub c1 d2)), (.ref a1)])) rfl rfl (hb hby d4_76)
  have N187 := Fr.snoc X187 N181 (by omega : n0 ≤ a1)
  have sz187 : h181.size ≤ h187.size := Nat.le_of_eq W187.size.symm
  have f187 : Fld Z h187 a1 kS0 "content" "D" (.double (FP.dsub c1 d2)) := f184.same W187
  have f188 : Fld Z h187 a1 kS0 "content" "D" (.double (if z1 = (0 : Int32) then (0 : UInt64) else FP.dsub c1 d2)) := by
    have q := f187
    rw [if_neg hz1]
    exact q
  have f189 : Exa Z h187 a1 kS0 := (f186.wr W187)
  have f190 : Fld Z h187 a1 kS0 "head" "I" (.int 0) := ((Fh.other W181 (Or.inl (neN (by omega)))).other W187 (Or.inr (slot_ne (Or.inl (wd hw 27 rfl)) (Or.inl (wd hw 31 rfl)) (by decide) (t := .int) (t' := .double) (by decide) (by decide))))
  have f191 : Fld Z h187 a1 kS0 "size" "I" (.int z1) := (f182.other W187 (Or.inr (slot_ne (Or.inl (wd hw 29 rfl)) (Or.inl (wd hw 31 rfl)) (by decide) (t := .int) (t' := .double) (by decide) (by decide))))
  have f192 : Fld Z h187 a1 kS0 "agents" "[I" (.ref t0) := ((F0.other W181 (Or.inl (neN (by omega)))).other W187 (Or.inr (slot_ne (Or.inl (wd hw 12 rfl)) (Or.inl (wd hw 31 rfl)) (by decide) (t := (.array .int)) (t' := .double) (by decide) (by decide))))
  have f193 : Arv Z h187 t0 k0 .int (8 : Int32) vA (.int 0) := ((V0.other W181 (neN (by omega))).other W187 (neN (by omega)))
  have f194 : Fld Z h187 a1 kS0 "legs" "[I" (.ref t1) := ((F1.other W181 (Or.inl (neN (by omega)))).other W187 (Or.inr (slot_ne (Or.inl (wd hw 14 rfl)) (Or.inl (wd hw 31 rfl)) (by decide) (t := (.array .int)) (t' := .double) (by decide) (by decide))))
  have f195 : Arv Z h187 t1 k1 .int (8 : Int32) vL (.int 0) := ((V1.other W181 (neN (by omega))).other W187 (neN (by omega)))
  have f196 : Fld Z h187 a1 kS0 "amounts" "[D" (.ref t2) := ((F2.other W181 (Or.inl (neN (by omega)))).other W187 (Or.inr (slot_ne (Or.inl (wd hw 17 rfl)) (Or.inl (wd hw 31 rfl)) (by decide) (t := (.array .double)) (t' := .double) (by decide) (by decide))))
  have f197 : Arv Z h187 t2 k2 .double (8 : Int32) (vD.set 0 (.double (FP.dsub x1 d2))) (.double (0 : UInt64)) := (V181.other W187 (neN (by omega)))
  have f198 : Fld Z h187 a1 kS0 "rears" "[Z" (.ref t3) := ((F3.other W181 (Or.inl (neN (by omega)))).other W187 (Or.inr (slot_ne (Or.inl (wd hw 20 rfl)) (Or.inl (wd hw 31 rfl)) (by decide) (t := (.array .boolean)) (t' := .double) (by decide) (by decide))))
  have f199 : Arv Z h187 t3 k3 .boolean (8 : Int32) vR (.int 0) := ((V3.other W181 (neN (by omega))).other W187 (neN (by omega)))
  obtain ⟨fs, hr, hrun, hended, hW, hsame⟩ := X187.leave (v := none) (fun _ => rfl)
  refine ⟨_, _, pre0 _ ?_, hrun, hended, _, _, rfl, ?_, ⟨_, rfl⟩, hW, hsame.mono (by decide) (by decide)⟩
  · show GO p e below s₁ (mkF m 0 (la4 a1 d2) []) _
    refine XS.dloadN X0.here hx rfl (hb hby d4_0) rfl ?_
    show GO p e below s₁ (mkF m 1 (la4 a1 d2) [(.double d2)]) _
    refine XS.aloadN X0.here hx rfl (hb hby d4_1) rfl rfl ?_
    show GO p e below s₁ (mkF m 2 (la4 a1 d2) [(.ref a1), (.double d2)]) _
    refine st174 _ ?_
    show GO p e below T174 (mkF m 5 (la4 a1 d2) [(.ref t2), (.double d2)]) _
    refine XS.aloadN X174.here hx rfl (hb hby d4_5) rfl rfl ?_
    show GO p e below T174 (mkF m 6 (la4 a1 d2) [(.ref a1), (.ref t2), (.double d2)]) _
    refine st175 _ ?_
    show GO p e below T175 (mkF m 9 (la4 a1 d2) [(.int 0), (.ref t2), (.double d2)]) _
    refine X175.daload hx (j := (0 : Int32)) (v := (.double x1)) (by rw [e175]; exact Ar176.1) (State.isArrayOf_alike hZ.alike Ar176.2.1) Ar176.2.2 hin176 hat176 (g := (mkF m 9 (la4 a1 d2) [(.int 0), (.ref t2), (.double d2)])) rfl rfl (hb hby d4_9) _ ?_
    show GO p e below T175 (mkF m 10 (la4 a1 d2) [(.double x1), (.double d2)]) _
    refine XS.dcmpS X175.here hx rfl (hb hby d4_10) rfl rfl ?_
    show GO p e below T175 (mkF m 11 (la4 a1 d2) [(.int (cmpValue (FP.dcmp d2 x1) .l))]) _
    refine XS.ifYes X175.here hx rfl (pc0 := 11) (pc' := 45) rfl (hb hby d4_11) rfl ((if0 _ _).trans (tlt (hcmp : (cmpValue (FP.dcmp d2 x1) .l) < (0 : Int32))).1) (by decide) (by decide) ?_
    show GO p e below T175 (mkF m 45 (la4 a1 d2) []) _
    refine XS.aloadN X175.here hx rfl (hb hby d4_45) rfl rfl ?_
    show GO p e below T175 (mkF m 46 (la4 a1 d2) [(.ref a1)]) _
    refine st177 _ ?_
    show GO p e below T177 (mkF m 49 (la4 a1 d2) [(.ref t2)]) _
    refine XS.aloadN X177.here hx rfl (hb hby d4_49) rfl rfl ?_
    show GO p e below T177 (mkF m 50 (la4 a1 d2) [(.ref a1), (.ref t2)]) _
    refine st178 _ ?_
    show GO p e below T178 (mkF m 53 (la4 a1 d2) [(.int 0), (.ref t2)]) _
    refine Jvm.Free.XT.dup2 X178.here hx rfl (hb hby d4_53) rfl rfl rfl ?_
    show GO p e below T178 (mkF m 54 (la4 a1 d2) [(.int 0), (.ref t2), (.int 0), (.ref t2)]) _
    refine X178.daload hx (j := (0 : Int32)) (v := (.double x1)) (by rw [e178]; exact Ar179.1) (State.isArrayOf_alike hZ.alike Ar179.2.1) Ar179.2.2 hin179 hat179 (g := (mkF m 54 (la4 a1 d2) [(.int 0), (.ref t2), (.int 0), (.ref t2)])) rfl rfl (hb hby d4_54) _ ?_
    show GO p e below T178 (mkF m 55 (la4 a1 d2) [(.double x1), (.int 0), (.ref t2)]) _
    refine XS.dloadN X178.here hx rfl (hb hby d4_55) rfl ?_
    show GO p e below T178 (mkF m 56 (la4 a1 d2) [(.double d2), (.double x1), (.int 0), (.ref t2)]) _
    refine XS.dsubS X178.here hx rfl (hb hby d4_56) rfl hn2 rfl ?_
    show GO p e below T178 (mkF m 57 (la4 a1 d2) [(.double (FP.dsub x1 d2)), (.int 0), (.ref t2)]) _
    refine st181 _ ?_
    show GO p e below T181 (mkF m 58 (la4 a1 d2) []) _
    refine XS.aloadN X181.here hx rfl (hb hby d4_58) rfl rfl ?_
    show GO p e below T181 (mkF m 59 (la4 a1 d2) [(.ref a1)]) _
    refine XS.aloadN X181.here hx rfl (hb hby d4_59) rfl rfl ?_
    show GO p e below T181 (mkF m 60 (la4 a1 d2) [(.ref a1), (.ref a1)]) _
    refine st183 _ ?_
    show GO p e below T183 (mkF m 63 (la4 a1 d2) [(.int z1), (.ref a1)]) _
    refine XS.ifYes X183.here hx rfl (pc0 := 63) (pc' := 70) rfl (hb hby d4_63) rfl ((if0 _ _).trans (feq (hz1 : ¬ (z1 = (0 : Int32)))).2) (by decide) (by decide) ?_
    show GO p e below T183 (mkF m 70 (la4 a1 d2) [(.ref a1)]) _
    refine XS.aloadN X183.here hx rfl (hb hby d4_70) rfl rfl ?_
    show GO p e below T183 (mkF m 71 (la4 a1 d2) [(.ref a1), (.ref a1)]) _
    refine st185 _ ?_
    show GO p e below T185 (mkF m 74 (la4 a1 d2) [(.double c1), (.ref a1)]) _
    refine XS.dloadN X185.here hx rfl (hb hby d4_74) rfl ?_
    show GO p e below T185 (mkF m 75 (la4 a1 d2) [(.double d2), (.double c1), (.ref a1)]) _
    refine XS.dsubS X185.here hx rfl (hb hby d4_75) rfl hn rfl ?_
    show GO p e below T185 (mkF m 76 (la4 a1 d2) [(.double (FP.dsub c1 d2)), (.ref a1)]) _
    refine st187 _ ?_
    show GO p e below T187 (mkF m 79 (la4 a1 d2) []) _
    exact X187.returnOut hx Bd.returns (hb hby d4_79) hr
  · show Qrm_takep0 Z a1 d2 z1 c1 x1 t0 k0 vA t1 k1 vL t2 k2 vD t3 k3 vR h0 n0 _ T187.heap _
    rw [e187]
    exact ⟨rfl, N187, (((Keep.refl h0 [a1, t0, t1, t2, t3]).wr W181 (Or.inl (List.mem_of_getElem? (i := 3) rfl))).wr W187 (Or.inl (List.mem_of_getElem? (i := 0) rfl))), f189, f190, f191, f188, f192, f193, f194, f195, f196, f197, f198, f199⟩
def Qrm_size (Z : State) (a1 : Addr) (v1 : Int32) (h0 : Heap) (n0 : Nat) (v : Option Value) (h : Heap) (L : List Loc) : Prop := v = some (.int v1) ∧ Fr n0 L ∧ h = h0
theorem ef_rm_size (m : MethodId) (x0 : Addr) : entryFrame m #[(.ref x0)] 1 = mkF m 0 #[.val (.ref x0)] [] := by first | rfl | (simp [entryFrame, mkF, argsToLocals, Value.category]; done)
set_option maxRecDepth 65536 in
set_option maxHeartbeats 40000000 in
theorem rm_size (l : Launch) (Z : State) (a0 : Array Value) (hw : ∀ d ∈ tables_1, d.before a0 Z = true) (ws : List Jvm.Cond) (a1 : Addr) (v1 : Int32) (h0 : Heap) (n0 : Nat) (Z0 : n0 ≤ h0.size) (F1 : Fld Z h0 a1 kS0 "size" "I" (.int v1)) :
    MetFree l (⟨kS0, "size", "()I"⟩ : MethodName) (head1 (Jvm.Cond.code (⟨kS0, "size", "()I"⟩ : MethodName) prog_14_method_4_code 1 (some .int) :: ws) ({ frames := 0, cells := 0, slots := 0, locals := 0 } : Room)) (fun a U => a = #[(.ref a1)] ∧ Z.Warmed39 U.vm ∧ U.heap = h0) (fun _ _ _ _ _ => True) (fun _ U o U' => ∃ v L, o = .returned v ∧ Qrm_size Z a1 v1 h0 n0 v U'.heap L ∧ FrameEnd U o U' L ({ frames := 0, cells := 0, slots := 0, locals := 0 } : Room).cells ({ frames := 0, cells := 0, slots := 0, locals := 0 } : Room).slots) := by
  refine MetFree.of_bodySF (plainFor_of_name pn_0) hisR ?_
  intro p e s m args below meth c s₁ Bd hml0 hP hK
  obtain ⟨rfl, hZ, hh⟩ := hP
  have hx := Bd.exec
  have hby := Bd.bytes
  have hml : c.maxLocals = 1 := hml0
  have hown : s.vm.findClass kS0 = some m.cls := findClass_of_methodNamed Bd.named
  have hnm := (name_of_methodNamed Bd.named Bd.method).1
  have X0 : Stand p l e ({ frames := 0, cells := 0, slots := 0, locals := 0 } : Room) s m #[(.ref a1)] below meth c s₁ [] 0 0 := Stand.of_body Bd
  have e0 : s₁.heap = h0 := by rw [← hh, Bd.state]; rfl
  have N0 := Fr.nil n0
  have pre0 : ∀ t, Steps p.tables e below (s₁.setTop (mkF m 0 #[.val (.ref a1)] [])) t → Steps p.tables e below (s₁.setTop (entryFrame m #[(.ref a1)] 1)) t := fun t k => castTop (ef_rm_size m a1) k
  have lt_F1 := ltA F1.lt
  obtain ⟨T200, X200, e200, st200⟩ := getF X0 hx hZ hown (host := "") (Or.inl (wd hw 28 rfl)) Via.refl e0 F1 (g := (mkF m 1 #[.val (.ref a1)] [(.ref a1)])) rfl rfl (hb hby d5_1)
  obtain ⟨fs, hr, hrun, hended, hW, hsame⟩ := X200.leave (v := some (.int v1)) (fun h => by rw [Bd.returns] at h; cases h)
  refine ⟨_, _, pre0 _ ?_, hrun, hended, _, _, rfl, ?_, ⟨_, rfl⟩, hW, hsame.mono (by decide) (by decide)⟩
  · show GO p e below s₁ (mkF m 0 #[.val (.ref a1)] []) _
    refine XS.aloadN X0.here hx rfl (hb hby d5_0) rfl rfl ?_
    show GO p e below s₁ (mkF m 1 #[.val (.ref a1)] [(.ref a1)]) _
    refine st200 _ ?_
    show GO p e below T200 (mkF m 4 #[.val (.ref a1)] [(.int v1)]) _
    exact retI X200 hx Bd.returns (hb hby d5_4) hr
  · show Qrm_size Z a1 v1 h0 n0 _ T200.heap _
    rw [e200]
    exact ⟨rfl, N0, rfl⟩
def Qrm_content (Z : State) (a1 : Addr) (v1 : UInt64) (h0 : Heap) (n0 : Nat) (v : Option Value) (h : Heap) (L : List Loc) : Prop := v = some (.double v1) ∧ Fr n0 L ∧ h = h0
theorem ef_rm_content (m : MethodId) (x0 : Addr) : entryFrame m #[(.ref x0)] 1 = mkF m 0 #[.val (.ref x0)] [] := by first | rfl | (simp [entryFrame, mkF, argsToLocals, Value.category]; done)
set_option maxRecDepth 65536 in
set_option maxHeartbeats 40000000 in
theorem rm_content (l : Launch) (Z : State) (a0 : Array Value) (hw : ∀ d ∈ tables_1, d.before a0 Z = true) (ws : List Jvm.Cond) (a1 : Addr) (v1 : UInt64) (h0 : Heap) (n0 : Nat) (Z0 : n0 ≤ h0.size) (F1 : Fld Z h0 a1 kS0 "content" "D" (.double v1)) :
    MetFree l (⟨kS0, "content", "()D"⟩ : MethodName) (head1 (Jvm.Cond.code (⟨kS0, "content", "()D"⟩ : MethodName) prog_14_method_2_code 1 (some .double) :: ws) ({ frames := 0, cells := 0, slots := 0, locals := 0 } : Room)) (fun a U => a = #[(.ref a1)] ∧ Z.Warmed39 U.vm ∧ U.heap = h0) (fun _ _ _ _ _ => True) (fun _ U o U' => ∃ v L, o = .returned v ∧ Qrm_content Z a1 v1 h0 n0 v U'.heap L ∧ FrameEnd U o U' L ({ frames := 0, cells := 0, slots := 0, locals := 0 } : Room).cells ({ frames := 0, cells := 0, slots := 0, locals := 0 } : Room).slots) := by
  refine MetFree.of_bodySF (plainFor_of_name pn_0) hisR ?_
  intro p e s m args below meth c s₁ Bd hml0 hP hK
  obtain ⟨rfl, hZ, hh⟩ := hP
  have hx := Bd.exec
  have hby := Bd.bytes
  have hml : c.maxLocals = 1 := hml0
  have hown : s.vm.findClass kS0 = some m.cls := findClass_of_methodNamed Bd.named
  have hnm := (name_of_methodNamed Bd.named Bd.method).1
  have X0 : Stand p l e ({ frames := 0, cells := 0, slots := 0, locals := 0 } : Room) s m #[(.ref a1)] below meth c s₁ [] 0 0 := Stand.of_body Bd
  have e0 : s₁.heap = h0 := by rw [← hh, Bd.state]; rfl
  have N0 := Fr.nil n0
  have pre0 : ∀ t, Steps p.tables e below (s₁.setTop (mkF m 0 #[.val (.ref a1)] [])) t → Steps p.tables e below (s₁.setTop (entryFrame m #[(.ref a1)] 1)) t := fun t k => castTop (ef_rm_content m a1) k
  have lt_F1 := ltA F1.lt
  obtain ⟨T201, X201, e201, st201⟩ := getF X0 hx hZ hown (host := "") (Or.inl (wd hw 30 rfl)) Via.refl e0 F1 (g := (mkF m 1 #[.val (.ref a1)] [(.ref a1)])) rfl rfl (hb hby d6_1)
  obtain ⟨fs, hr, hrun, hended, hW, hsame⟩ := X201.leave (v := some (.double v1)) (fun h => by rw [Bd.returns] at h; cases h)
  refine ⟨_, _, pre0 _ ?_, hrun, hended, _, _, rfl, ?_, ⟨_, rfl⟩, hW, hsame.mono (by decide) (by decide)⟩
  · show GO p e below s₁ (mkF m 0 #[.val (.ref a1)] []) _
    refine XS.aloadN X0.here hx rfl (hb hby d6_0) rfl rfl ?_
    show GO p e below s₁ (mkF m 1 #[.val (.ref a1)] [(.ref a1)]) _
    refine st201 _ ?_
    show GO p e below T201 (mkF m 4 #[.val (.ref a1)] [(.double v1)]) _
    exact retOut X201 hx Bd.returns rfl (Or.inr (Or.inr (Or.inl ⟨rfl, rfl, _, rfl⟩))) (hb hby d6_4) hr
  · show Qrm_content Z a1 v1 h0 n0 _ T201.heap _
    rw [e201]
    exact ⟨rfl, N0, rfl⟩
def Qrm_headAgent0 (Z : State) (a1 : Addr) (t1 : Addr) (k1 : ClassId) (vs : List Value) (v1 : Int32) (h0 : Heap) (n0 : Nat) (v : Option Value) (h : Heap) (L : List Loc) : Prop := v = some (.int v1) ∧ Fr n0 L ∧ h = h0
theorem ef_rm_headAgent0 (m : MethodId) (x0 : Addr) : entryFrame m #[(.ref x0)] 1 = mkF m 0 #[.val (.ref x0)] [] := by first | rfl | (simp [entryFrame, mkF, argsToLocals, Value.category]; done)
set_option maxRecDepth 65536 in
set_option maxHeartbeats 40000000 in
theorem rm_headAgent0 (l : Launch) (Z : State) (a0 : Array Value) (hw : ∀ d ∈ tables_1, d.before a0 Z = true) (ws : List Jvm.Cond) (a1 : Addr) (t1 : Addr) (k1 : ClassId) (vs : List Value) (v1 : Int32) (h0 : Heap) (n0 : Nat) (Z0 : n0 ≤ h0.size) (F1 : Fld Z h0 a1 kS0 "agents" "[I" (.ref t1)) (Fh : Fld Z h0 a1 kS0 "head" "I" (.int 0)) (V1 : Arv Z h0 t1 k1 .int (8 : Int32) vs (.int 0)) (hv : vs.getD ((0 : Int32)).toNatClampNeg (.int 0) = (.int v1)) :
    MetFree l (⟨kS0, "headAgent", "()I"⟩ : MethodName) (head1 (Jvm.Cond.code (⟨kS0, "headAgent", "()I"⟩ : MethodName) prog_14_method_5_code 1 (some .int) :: ws) ({ frames := 0, cells := 0, slots := 0, locals := 0 } : Room)) (fun a U => a = #[(.ref a1)] ∧ Z.Warmed39 U.vm ∧ U.heap = h0) (fun _ _ _ _ _ => True) (fun _ U o U' => ∃ v L, o = .returned v ∧ Qrm_headAgent0 Z a1 t1 k1 vs v1 h0 n0 v U'.heap L ∧ FrameEnd U o U' L ({ frames := 0, cells := 0, slots := 0, locals := 0 } : Room).cells ({ frames := 0, cells := 0, slots := 0, locals := 0 } : Room).slots) := by
  refine MetFree.of_bodySF (plainFor_of_name pn_0) hisR ?_
  intro p e s m args below meth c s₁ Bd hml0 hP hK
  obtain ⟨rfl, hZ, hh⟩ := hP
  have hx := Bd.exec
  have hby := Bd.bytes
  have hml : c.maxLocals = 1 := hml0
  have hown : s.vm.findClass kS0 = some m.cls := findClass_of_methodNamed Bd.named
  have hnm := (name_of_methodNamed Bd.named Bd.method).1
  have X0 : Stand p l e ({ frames := 0, cells := 0, slots := 0, locals := 0 } : Room) s m #[(.ref a1)] below meth c s₁ [] 0 0 := Stand.of_body Bd
  have e0 : s₁.heap = h0 := by rw [← hh, Bd.state]; rfl
  have N0 := Fr.nil n0
  have pre0 : ∀ t, Steps p.tables e below (s₁.setTop (mkF m 0 #[.val (.ref a1)] [])) t → Steps p.tables e below (s₁.setTop (entryFrame m #[(.ref a1)] 1)) t := fun t k => castTop (ef_rm_headAgent0 m a1) k
  have lt_F1 := ltA F1.lt
  have lt_Fh := ltA Fh.lt
  have lt_V1 := ltA V1.lt
  obtain ⟨T202, X202, e202, st202⟩ := getF X0 hx hZ hown (host := "") (Or.inl (wd hw 11 rfl)) Via.refl e0 F1 (g := (mkF m 1 #[.val (.ref a1)] [(.ref a1)])) rfl rfl (hb hby d7_1)
  obtain ⟨T203, X203, e203, st203⟩ := getF X202 hx hZ hown (host := "") (Or.inl (wd hw 26 rfl)) Via.refl e202 Fh (g := (mkF m 5 #[.val (.ref a1)] [(.ref a1), (.ref t1)])) rfl rfl (hb hby d7_5)
  obtain ⟨cl204, Ar204, q204, S204, M204, H204, G204⟩ := id V1
  have hin204 : ¬ ((0 : Int32) < 0 ∨ cl204.slots.size ≤ ((0 : Int32)).toNatClampNeg) := inb_of S204 ⟨by decide, by decide⟩
  have hat204 : cl204.slots[((0 : Int32)).toNatClampNeg]? = some (.int v1) := Has.at H204 hin204 hv
  obtain ⟨fs, hr, hrun, hended, hW, hsame⟩ := X203.leave (v := some (.int v1)) (fun h => by rw [Bd.returns] at h; cases h)
  refine ⟨_, _, pre0 _ ?_, hrun, hended, _, _, rfl, ?_, ⟨_, rfl⟩, hW, hsame.mono (by decide) (by decide)⟩
  · show GO p e below s₁ (mkF m 0 #[.val (.ref a1)] []) _
    refine XS.aloadN X0.here hx rfl (hb hby d7_0) rfl rfl ?_
    show GO p e below s₁ (mkF m 1 #[.val (.ref a1)] [(.ref a1)]) _
    refine st202 _ ?_
    show GO p e below T202 (mkF m 4 #[.val (.ref a1)] [(.ref t1)]) _
    refine XS.aloadN X202.here hx rfl (hb hby d7_4) rfl rfl ?_
    show GO p e below T202 (mkF m 5 #[.val (.ref a1)] [(.ref a1), (.ref t1)]) _
    refine st203 _ ?_
    show GO p e below T203 (mkF m 8 #[.val (.ref a1)] [(.int 0), (.ref t1)]) _
    refine X203.iaload hx (j := (0 : Int32)) (v := (.int v1)) (by rw [e203]; exact Ar204.1) (State.isArrayOf_alike hZ.alike Ar204.2.1) Ar204.2.2 hin204 hat204 (g := (mkF m 8 #[.val (.ref a1)] [(.int 0), (.ref t1)])) rfl rfl (hb hby d7_8) _ ?_
    show GO p e below T203 (mkF m 9 #[.val (.ref a1)] [(.int v1)]) _
    exact retI X203 hx Bd.returns (hb hby d7_9) hr
  · show Qrm_headAgent0 Z a1 t1 k1 vs v1 h0 n0 _ T203.heap _
    rw [e203]
    exact ⟨rfl, N0, rfl⟩
def Qrm_headAgent1 (Z : State) (a1 : Addr) (t1 : Addr) (k1 : ClassId) (vs : List Value) (v1 : Int32) (h0 : Heap) (n0 : Nat) (v : Option Value) (h : Heap) (L : List Loc) : Prop := v = some (.int v1) ∧ Fr n0 L ∧ h = h0
theorem ef_rm_headAgent1 (m : MethodId) (x0 : Addr) : entryFrame m #[(.ref x0)] 1 = mkF m 0 #[.val (.ref x0)] [] := by first | rfl | (simp [entryFrame, mkF, argsToLocals, Value.category]; done)
set_option maxRecDepth 65536 in
set_option maxHeartbeats 40000000 in
theorem rm_headAgent1 (l : Launch) (Z : State) (a0 : Array Value) (hw : ∀ d ∈ tables_1, d.before a0 Z = true) (ws : List Jvm.Cond) (a1 : Addr) (t1 : Addr) (k1 : ClassId) (vs : List Value) (v1 : Int32) (h0 : Heap) (n0 : Nat) (Z0 : n0 ≤ h0.size) (F1 : Fld Z h0 a1 kS0 "agents" "[I" (.ref t1)) (Fh : Fld Z h0 a1 kS0 "head" "I" (.int 1)) (V1 : Arv Z h0 t1 k1 .int (8 : Int32) vs (.int 0)) (hv : vs.getD ((1 : Int32)).toNatClampNeg (.int 0) = (.int v1)) :
    MetFree l (⟨kS0, "headAgent", "()I"⟩ : MethodName) (head1 (Jvm.Cond.code (⟨kS0, "headAgent", "()I"⟩ : MethodName) prog_14_method_5_code 1 (some .int) :: ws) ({ frames := 0, cells := 0, slots := 0, locals := 0 } : Room)) (fun a U => a = #[(.ref a1)] ∧ Z.Warmed39 U.vm ∧ U.heap = h0) (fun _ _ _ _ _ => True) (fun _ U o U' => ∃ v L, o = .returned v ∧ Qrm_headAgent1 Z a1 t1 k1 vs v1 h0 n0 v U'.heap L ∧ FrameEnd U o U' L ({ frames := 0, cells := 0, slots := 0, locals := 0 } : Room).cells ({ frames := 0, cells := 0, slots := 0, locals := 0 } : Room).slots) := by
  refine MetFree.of_bodySF (plainFor_of_name pn_0) hisR ?_
  intro p e s m args below meth c s₁ Bd hml0 hP hK
  obtain ⟨rfl, hZ, hh⟩ := hP
  have hx := Bd.exec
  have hby := Bd.bytes
  have hml : c.maxLocals = 1 := hml0
  have hown : s.vm.findClass kS0 = some m.cls := findClass_of_methodNamed Bd.named
  have hnm := (name_of_methodNamed Bd.named Bd.method).1
  have X0 : Stand p l e ({ frames := 0, cells := 0, slots := 0, locals := 0 } : Room) s m #[(.ref a1)] below meth c s₁ [] 0 0 := Stand.of_body Bd
  have e0 : s₁.heap = h0 := by rw [← hh, Bd.state]; rfl
  have N0 := Fr.nil n0
  have pre0 : ∀ t, Steps p.tables e below (s₁.setTop (mkF m 0 #[.val (.ref a1)] [])) t → Steps p.tables e below (s₁.setTop (entryFrame m #[(.ref a1)] 1)) t := fun t k => castTop (ef_rm_headAgent1 m a1) k
  have lt_F1 := ltA F1.lt
  have lt_Fh := ltA Fh.lt
  have lt_V1 := ltA V1.lt
  obtain ⟨T205, X205, e205, st205⟩ := getF X0 hx hZ hown (host := "") (Or.inl (wd hw 11 rfl)) Via.refl e0 F1 (g := (mkF m 1 #[.val (.ref a1)] [(.ref a1)])) rfl rfl (hb hby d7_1)
  obtain ⟨T206, X206, e206, st206⟩ := getF X205 hx hZ hown (host := "") (Or.inl (wd hw 26 rfl)) Via.refl e205 Fh (g := (mkF m 5 #[.val (.ref a1)] [(.ref a1), (.ref t1)])) rfl rfl (hb hby d7_5)
  obtain ⟨cl207, Ar207, q207, S207, M207, H207, G207⟩ := id V1
  have hin207 : ¬ ((1 : Int32) < 0 ∨ cl207.slots.size ≤ ((1 : Int32)).toNatClampNeg) := inb_of S207 ⟨by decide, by decide⟩
  have hat207 : cl207.slots[((1 : Int32)).toNatClampNeg]? = some (.int v1) := Has.at H207 hin207 hv
  obtain ⟨fs, hr, hrun, hended, hW, hsame⟩ := X206.leave (v := some (.int v1)) (fun h => by rw [Bd.returns] at h; cases h)
  refine ⟨_, _, pre0 _ ?_, hrun, hended, _, _, rfl, ?_, ⟨_, rfl⟩, hW, hsame.mono (by decide) (by decide)⟩
  · show GO p e below s₁ (mkF m 0 #[.val (.ref a1)] []) _
    refine XS.aloadN X0.here hx rfl (hb hby d7_0) rfl rfl ?_
    show GO p e below s₁ (mkF m 1 #[.val (.ref a1)] [(.ref a1)]) _
    refine st205 _ ?_
    show GO p e below T205 (mkF m 4 #[.val (.ref a1)] [(.ref t1)]) _
    refine XS.aloadN X205.here hx rfl (hb hby d7_4) rfl rfl ?_
    show GO p e below T205 (mkF m 5 #[.val (.ref a1)] [(.ref a1), (.ref t1)]) _
    refine st206 _ ?_
    show GO p e below T206 (mkF m 8 #[.val (.ref a1)] [(.int 1), (.ref t1)]) _
    refine X206.iaload hx (j := (1 : Int32)) (v := (.int v1)) (by rw [e206]; exact Ar207.1) (State.isArrayOf_alike hZ.alike Ar207.2.1) Ar207.2.2 hin207 hat207 (g := (mkF m 8 #[.val (.ref a1)] [(.int 1), (.ref t1)])) rfl rfl (hb hby d7_8) _ ?_
    show GO p e below T206 (mkF m 9 #[.val (.ref a1)] [(.int v1)]) _
    exact retI X206 hx Bd.returns (hb hby d7_9) hr
  · show Qrm_headAgent1 Z a1 t1 k1 vs v1 h0 n0 _ T206.heap _
    rw [e206]
    exact ⟨rfl, N0, rfl⟩
def Qrm_headLeg0 (Z : State) (a1 : Addr) (t1 : Addr) (k1 : ClassId) (vs : List Value) (v1 : Int32) (h0 : Heap) (n0 : Nat) (v : Option Value) (h : Heap) (L : List Loc) : Prop := v = some (.int v1) ∧ Fr n0 L ∧ h = h0
theorem ef_rm_headLeg0 (m : MethodId) (x0 : Addr) : entryFrame m #[(.ref x0)] 1 = mkF m 0 #[.val (.ref x0)] [] := by first | rfl | (simp [entryFrame, mkF, argsToLocals, Value.category]; done)
set_option maxRecDepth 65536 in
set_option maxHeartbeats 40000000 in
theorem rm_headLeg0 (l : Launch) (Z : State) (a0 : Array Value) (hw : ∀ d ∈ tables_1, d.before a0 Z = true) (ws : List Jvm.Cond) (a1 : Addr) (t1 : Addr) (k1 : ClassId) (vs : List Value) (v1 : Int32) (h0 : Heap) (n0 : Nat) (Z0 : n0 ≤ h0.size) (F1 : Fld Z h0 a1 kS0 "legs" "[I" (.ref t1)) (Fh : Fld Z h0 a1 kS0 "head" "I" (.int 0)) (V1 : Arv Z h0 t1 k1 .int (8 : Int32) vs (.int 0)) (hv : vs.getD ((0 : Int32)).toNatClampNeg (.int 0) = (.int v1)) :
    MetFree l (⟨kS0, "headLeg", "()I"⟩ : MethodName) (head1 (Jvm.Cond.code (⟨kS0, "headLeg", "()I"⟩ : MethodName) prog_14_method_6_code 1 (some .int) :: ws) ({ frames := 0, cells := 0, slots := 0, locals := 0 } : Room)) (fun a U => a = #[(.ref a1)] ∧ Z.Warmed39 U.vm ∧ U.heap = h0) (fun _ _ _ _ _ => True) (fun _ U o U' => ∃ v L, o = .returned v ∧ Qrm_headLeg0 Z a1 t1 k1 vs v1 h0 n0 v U'.heap L ∧ FrameEnd U o U' L ({ frames := 0, cells := 0, slots := 0, locals := 0 } : Room).cells ({ frames := 0, cells := 0, slots := 0, locals := 0 } : Room).slots) := by
  refine MetFree.of_bodySF (plainFor_of_name pn_0) hisR ?_
  intro p e s m args below meth c s₁ Bd hml0 hP hK
  obtain ⟨rfl, hZ, hh⟩ := hP
  have hx := Bd.exec
  have hby := Bd.bytes
  have hml : c.maxLocals = 1 := hml0
  have hown : s.vm.findClass kS0 = some m.cls := findClass_of_methodNamed Bd.named
  have hnm := (name_of_methodNamed Bd.named Bd.method).1
  have X0 : Stand p l e ({ frames := 0, cells := 0, slots := 0, locals := 0 } : Room) s m #[(.ref a1)] below meth c s₁ [] 0 0 := Stand.of_body Bd
  have e0 : s₁.heap = h0 := by rw [← hh, Bd.state]; rfl
  have N0 := Fr.nil n0
  have pre0 : ∀ t, Steps p.tables e below (s₁.setTop (mkF m 0 #[.val (.ref a1)] [])) t → Steps p.tables e below (s₁.setTop (entryFrame m #[(.ref a1)] 1)) t := fun t k => castTop (ef_rm_headLeg0 m a1) k
  have lt_F1 := ltA F1.lt
  have lt_Fh := ltA Fh.lt
  have lt_V1 := ltA V1.lt
  obtain ⟨T208, X208, e208, st208⟩ := getF X0 hx hZ hown (host := "") (Or.inl (wd hw 13 rfl)) Via.refl e0 F1 (g := (mkF m 1 #[.val (.ref a1)] [(.ref a1)])) rfl rfl (hb hby d8_1)
  obtain ⟨T209, X209, e209, st209⟩ := getF X208 hx hZ hown (host := "") (Or.inl (wd hw 26 rfl)) Via.refl e208 Fh (g := (mkF m 5 #[.val (.ref a1)] [(.ref a1), (.ref t1)])) rfl rfl (hb hby d8_5)
  obtain ⟨cl210, Ar210, q210, S210, M210, H210, G210⟩ := id V1
  have hin210 : ¬ ((0 : Int32) < 0 ∨ cl210.slots.size ≤ ((0 : Int32)).toNatClampNeg) := inb_of S210 ⟨by decide, by decide⟩
  have hat210 : cl210.slots[((0 : Int32)).toNatClampNeg]? = some (.int v1) := Has.at H210 hin210 hv
  obtain ⟨fs, hr, hrun, hended, hW, hsame⟩ := X209.leave (v := some (.int v1)) (fun h => by rw [Bd.returns] at h; cases h)
  refine ⟨_, _, pre0 _ ?_, hrun, hended, _, _, rfl, ?_, ⟨_, rfl⟩, hW, hsame.mono (by decide) (by decide)⟩
  · show GO p e below s₁ (mkF m 0 #[.val (.ref a1)] []) _
    refine XS.aloadN X0.here hx rfl (hb hby d8_0) rfl rfl ?_
    show GO p e below s₁ (mkF m 1 #[.val (.ref a1)] [(.ref a1)]) _
    refine st208 _ ?_
    show GO p e below T208 (mkF m 4 #[.val (.ref a1)] [(.ref t1)]) _
    refine XS.aloadN X208.here hx rfl (hb hby d8_4) rfl rfl ?_
    show GO p e below T208 (mkF m 5 #[.val (.ref a1)] [(.ref a1), (.ref t1)]) _
    refine st209 _ ?_
    show GO p e below T209 (mkF m 8 #[.val (.ref a1)] [(.int 0), (.ref t1)]) _
    refine X209.iaload hx (j := (0 : Int32)) (v := (.int v1)) (by rw [e209]; exact Ar210.1) (State.isArrayOf_alike hZ.alike Ar210.2.1) Ar210.2.2 hin210 hat210 (g := (mkF m 8 #[.val (.ref a1)] [(.int 0), (.ref t1)])) rfl rfl (hb hby d8_8) _ ?_
    show GO p e below T209 (mkF m 9 #[.val (.ref a1)] [(.int v1)]) _
    exact retI X209 hx Bd.returns (hb hby d8_9) hr
  · show Qrm_headLeg0 Z a1 t1 k1 vs v1 h0 n0 _ T209.heap _
    rw [e209]
    exact ⟨rfl, N0, rfl⟩
def Qrm_headLeg1 (Z : State) (a1 : Addr) (t1 : Addr) (k1 : ClassId) (vs : List Value) (v1 : Int32) (h0 : Heap) (n0 : Nat) (v : Option Value) (h : Heap) (L : List Loc) : Prop := v = some (.int v1) ∧ Fr n0 L ∧ h = h0
theorem ef_rm_headLeg1 (m : MethodId) (x0 : Addr) : entryFrame m #[(.ref x0)] 1 = mkF m 0 #[.val (.ref x0)] [] := by first | rfl | (simp [entryFrame, mkF, argsToLocals, Value.category]; done)
set_option maxRecDepth 65536 in
set_option maxHeartbeats 40000000 in
theorem rm_headLeg1 (l : Launch) (Z : State) (a0 : Array Value) (hw : ∀ d ∈ tables_1, d.before a0 Z = true) (ws : List Jvm.Cond) (a1 : Addr) (t1 : Addr) (k1 : ClassId) (vs : List Value) (v1 : Int32) (h0 : Heap) (n0 : Nat) (Z0 : n0 ≤ h0.size) (F1 : Fld Z h0 a1 kS0 "legs" "[I" (.ref t1)) (Fh : Fld Z h0 a1 kS0 "head" "I" (.int 1)) (V1 : Arv Z h0 t1 k1 .int (8 : Int32) vs (.int 0)) (hv : vs.getD ((1 : Int32)).toNatClampNeg (.int 0) = (.int v1)) :
    MetFree l (⟨kS0, "headLeg", "()I"⟩ : MethodName) (head1 (Jvm.Cond.code (⟨kS0, "headLeg", "()I"⟩ : MethodName) prog_14_method_6_code 1 (some .int) :: ws) ({ frames := 0, cells := 0, slots := 0, locals := 0 } : Room)) (fun a U => a = #[(.ref a1)] ∧ Z.Warmed39 U.vm ∧ U.heap = h0) (fun _ _ _ _ _ => True) (fun _ U o U' => ∃ v L, o = .returned v ∧ Qrm_headLeg1 Z a1 t1 k1 vs v1 h0 n0 v U'.heap L ∧ FrameEnd U o U' L ({ frames := 0, cells := 0, slots := 0, locals := 0 } : Room).cells ({ frames := 0, cells := 0, slots := 0, locals := 0 } : Room).slots) := by
  refine MetFree.of_bodySF (plainFor_of_name pn_0) hisR ?_
  intro p e s m args below meth c s₁ Bd hml0 hP hK
  obtain ⟨rfl, hZ, hh⟩ := hP
  have hx := Bd.exec
  have hby := Bd.bytes
  have hml : c.maxLocals = 1 := hml0
  have hown : s.vm.findClass kS0 = some m.cls := findClass_of_methodNamed Bd.named
  have hnm := (name_of_methodNamed Bd.named Bd.method).1
  have X0 : Stand p l e ({ frames := 0, cells := 0, slots := 0, locals := 0 } : Room) s m #[(.ref a1)] below meth c s₁ [] 0 0 := Stand.of_body Bd
  have e0 : s₁.heap = h0 := by rw [← hh, Bd.state]; rfl
  have N0 := Fr.nil n0
  have pre0 : ∀ t, Steps p.tables e below (s₁.setTop (mkF m 0 #[.val (.ref a1)] [])) t → Steps p.tables e below (s₁.setTop (entryFrame m #[(.ref a1)] 1)) t := fun t k => castTop (ef_rm_headLeg1 m a1) k
  have lt_F1 := ltA F1.lt
  have lt_Fh := ltA Fh.lt
  have lt_V1 := ltA V1.lt
  obtain ⟨T211, X211, e211, st211⟩ := getF X0 hx hZ hown (host := "") (Or.inl (wd hw 13 rfl)) Via.refl e0 F1 (g := (mkF m 1 #[.val (.ref a1)] [(.ref a1)])) rfl rfl (hb hby d8_1)
  obtain ⟨T212, X212, e212, st212⟩ := getF X211 hx hZ hown (host := "") (Or.inl (wd hw 26 rfl)) Via.refl e211 Fh (g := (mkF m 5 #[.val (.ref a1)] [(.ref a1), (.ref t1)])) rfl rfl (hb hby d8_5)
  obtain ⟨cl213, Ar213, q213, S213, M213, H213, G213⟩ := id V1
  have hin213 : ¬ ((1 : Int32) < 0 ∨ cl213.slots.size ≤ ((1 : Int32)).toNatClampNeg) := inb_of S213 ⟨by decide, by decide⟩
  have hat213 : cl213.slots[((1 : Int32)).toNatClampNeg]? = some (.int v1) := Has.at H213 hin213 hv
  obtain ⟨fs, hr, hrun, hended, hW, hsame⟩ := X212.leave (v := some (.int v1)) (fun h => by rw [Bd.returns] at h; cases h)
  refine ⟨_, _, pre0 _ ?_, hrun, hended, _, _, rfl, ?_, ⟨_, rfl⟩, hW, hsame.mono (by decide) (by decide)⟩
  · show GO p e below s₁ (mkF m 0 #[.val (.ref a1)] []) _
    refine XS.aloadN X0.here hx rfl (hb hby d8_0) rfl rfl ?_
    show GO p e below s₁ (mkF m 1 #[.val (.ref a1)] [(.ref a1)]) _
    refine st211 _ ?_
    show GO p e below T211 (mkF m 4 #[.val (.ref a1)] [(.ref t1)]) _
    refine XS.aloadN X211.here hx rfl (hb hby d8_4) rfl rfl ?_
    show GO p e below T211 (mkF m 5 #[.val (.ref a1)] [(.ref a1), (.ref t1)]) _
    refine st212 _ ?_
    show GO p e below T212 (mkF m 8 #[.val (.ref a1)] [(.int 1), (.ref t1)]) _
    refine X212.iaload hx (j := (1 : Int32)) (v := (.int v1)) (by rw [e212]; exact Ar213.1) (State.isArrayOf_alike hZ.alike Ar213.2.1) Ar213.2.2 hin213 hat213 (g := (mkF m 8 #[.val (.ref a1)] [(.int 1), (.ref t1)])) rfl rfl (hb hby d8_8) _ ?_
    show GO p e below T212 (mkF m 9 #[.val (.ref a1)] [(.int v1)]) _
    exact retI X212 hx Bd.returns (hb hby d8_9) hr
  · show Qrm_headLeg1 Z a1 t1 k1 vs v1 h0 n0 _ T212.heap _
    rw [e212]
    exact ⟨rfl, N0, rfl⟩
def Qrm_headAmount0 (Z : State) (a1 : Addr) (t1 : Addr) (k1 : ClassId) (vs : List Value) (v1 : UInt64) (h0 : Heap) (n0 : Nat) (v : Option Value) (h : Heap) (L : List Loc) : Prop := v = some (.double v1) ∧ Fr n0 L ∧ h = h0
theorem ef_rm_headAmount0 (m : MethodId) (x0 : Addr) : entryFrame m #[(.ref x0)] 1 = mkF m 0 #[.val (.ref x0)] [] := by first | rfl | (simp [entryFrame, mkF, argsToLocals, Value.category]; done)
set_option maxRecDepth 65536 in
set_option maxHeartbeats 40000000 in
theorem rm_headAmount0 (l : Launch) (Z : State) (a0 : Array Value) (hw : ∀ d ∈ tables_1, d.before a0 Z = true) (ws : List Jvm.Cond) (a1 : Addr) (t1 : Addr) (k1 : ClassId) (vs : List Value) (v1 : UInt64) (h0 : Heap) (n0 : Nat) (Z0 : n0 ≤ h0.size) (F1 : Fld Z h0 a1 kS0 "amounts" "[D" (.ref t1)) (Fh : Fld Z h0 a1 kS0 "head" "I" (.int 0)) (V1 : Arv Z h0 t1 k1 .double (8 : Int32) vs (.double (0 : UInt64))) (hv : vs.getD ((0 : Int32)).toNatClampNeg (.double (0 : UInt64)) = (.double v1)) :
    MetFree l (⟨kS0, "headAmount", "()D"⟩ : MethodName) (head1 (Jvm.Cond.code (⟨kS0, "headAmount", "()D"⟩ : MethodName) prog_14_method_7_code 1 (some .double) :: ws) ({ frames := 0, cells := 0, slots := 0, locals := 0 } : Room)) (fun a U => a = #[(.ref a1)] ∧ Z.Warmed39 U.vm ∧ U.heap = h0) (fun _ _ _ _ _ => True) (fun _ U o U' => ∃ v L, o = .returned v ∧ Qrm_headAmount0 Z a1 t1 k1 vs v1 h0 n0 v U'.heap L ∧ FrameEnd U o U' L ({ frames := 0, cells := 0, slots := 0, locals := 0 } : Room).cells ({ frames := 0, cells := 0, slots := 0, locals := 0 } : Room).slots) := by
  refine MetFree.of_bodySF (plainFor_of_name pn_0) hisR ?_
  intro p e s m args below meth c s₁ Bd hml0 hP hK
  obtain ⟨rfl, hZ, hh⟩ := hP
  have hx := Bd.exec
  have hby := Bd.bytes
  have hml : c.maxLocals = 1 := hml0
  have hown : s.vm.findClass kS0 = some m.cls := findClass_of_methodNamed Bd.named
  have hnm := (name_of_methodNamed Bd.named Bd.method).1
  have X0 : Stand p l e ({ frames := 0, cells := 0, slots := 0, locals := 0 } : Room) s m #[(.ref a1)] below meth c s₁ [] 0 0 := Stand.of_body Bd
  have e0 : s₁.heap = h0 := by rw [← hh, Bd.state]; rfl
  have N0 := Fr.nil n0
  have pre0 : ∀ t, Steps p.tables e below (s₁.setTop (mkF m 0 #[.val (.ref a1)] [])) t → Steps p.tables e below (s₁.setTop (entryFrame m #[(.ref a1)] 1)) t := fun t k => castTop (ef_rm_headAmount0 m a1) k
  have lt_F1 := ltA F1.lt
  have lt_Fh := ltA Fh.lt
  have lt_V1 := ltA V1.lt
  obtain ⟨T214, X214, e214, st214⟩ := getF X0 hx hZ hown (host := "") (Or.inl (wd hw 16 rfl)) Via.refl e0 F1 (g := (mkF m 1 #[.val (.ref a1)] [(.ref a1)])) rfl rfl (hb hby d9_1)
  obtain ⟨T215, X215, e215, st215⟩ := getF X214 hx hZ hown (host := "") (Or.inl (wd hw 26 rfl)) Via.refl e214 Fh (g := (mkF m 5 #[.val (.ref a1)] [(.ref a1), (.ref t1)])) rfl rfl (hb hby d9_5)
  obtain ⟨cl216, Ar216, q216, S216, M216, H216, G216⟩ := id V1
  have hin216 : ¬ ((0 : Int32) < 0 ∨ cl216.slots.size ≤ ((0 : Int32)).toNatClampNeg) := inb_of S216 ⟨by decide, by decide⟩
  have hat216 : cl216.slots[((0 : Int32)).toNatClampNeg]? = some (.double v1) := Has.at H216 hin216 hv
  obtain ⟨fs, hr, hrun, hended, hW, hsame⟩ := X215.leave (v := some (.double v1)) (fun h => by rw [Bd.returns] at h; cases h)
  refine ⟨_, _, pre0 _ ?_, hrun, hended, _, _, rfl, ?_, ⟨_, rfl⟩, hW, hsame.mono (by decide) (by decide)⟩
  · show GO p e below s₁ (mkF m 0 #[.val (.ref a1)] []) _
    refine XS.aloadN X0.here hx rfl (hb hby d9_0) rfl rfl ?_
    show GO p e below s₁ (mkF m 1 #[.val (.ref a1)] [(.ref a1)]) _
    refine st214 _ ?_
    show GO p e below T214 (mkF m 4 #[.val (.ref a1)] [(.ref t1)]) _
    refine XS.aloadN X214.here hx rfl (hb hby d9_4) rfl rfl ?_
    show GO p e below T214 (mkF m 5 #[.val (.ref a1)] [(.ref a1), (.ref t1)]) _
    refine st215 _ ?_
    show GO p e below T215 (mkF m 8 #[.val (.ref a1)] [(.int 0), (.ref t1)]) _
    refine X215.daload hx (j := (0 : Int32)) (v := (.double v1)) (by rw [e215]; exact Ar216.1) (State.isArrayOf_alike hZ.alike Ar216.2.1) Ar216.2.2 hin216 hat216 (g := (mkF m 8 #[.val (.ref a1)] [(.int 0), (.ref t1)])) rfl rfl (hb hby d9_8) _ ?_
    show GO p e below T215 (mkF m 9 #[.val (.ref a1)] [(.double v1)]) _
    exact retOut X215 hx Bd.returns rfl (Or.inr (Or.inr (Or.inl ⟨rfl, rfl, _, rfl⟩))) (hb hby d9_9) hr
  · show Qrm_headAmount0 Z a1 t1 k1 vs v1 h0 n0 _ T215.heap _
    rw [e215]
    exact ⟨rfl, N0, rfl⟩
def Qrm_headAmount1 (Z : State) (a1 : Addr) (t1 : Addr) (k1 : ClassId) (vs : List Value) (v1 : UInt64) (h0 : Heap) (n0 : Nat) (v : Option Value) (h : Heap) (L : List Loc) : Prop := v = some (.double v1) ∧ Fr n0 L ∧ h = h0
theorem ef_rm_headAmount1 (m : MethodId) (x0 : Addr) : entryFrame m #[(.ref x0)] 1 = mkF m 0 #[.val (.ref x0)] [] := by first | rfl | (simp [entryFrame, mkF, argsToLocals, Value.category]; done)
set_option maxRecDepth 65536 in
set_option maxHeartbeats 40000000 in
theorem rm_headAmount1 (l : Launch) (Z : State) (a0 : Array Value) (hw : ∀ d ∈ tables_1, d.before a0 Z = true) (ws : List Jvm.Cond) (a1 : Addr) (t1 : Addr) (k1 : ClassId) (vs : List Value) (v1 : UInt64) (h0 : Heap) (n0 : Nat) (Z0 : n0 ≤ h0.size) (F1 : Fld Z h0 a1 kS0 "amounts" "[D" (.ref t1)) (Fh : Fld Z h0 a1 kS0 "head" "I" (.int 1)) (V1 : Arv Z h0 t1 k1 .double (8 : Int32) vs (.double (0 : UInt64))) (hv : vs.getD ((1 : Int32)).toNatClampNeg (.double (0 : UInt64)) = (.double v1)) :
    MetFree l (⟨kS0, "headAmount", "()D"⟩ : MethodName) (head1 (Jvm.Cond.code (⟨kS0, "headAmount", "()D"⟩ : MethodName) prog_14_method_7_code 1 (some .double) :: ws) ({ frames := 0, cells := 0, slots := 0, locals := 0 } : Room)) (fun a U => a = #[(.ref a1)] ∧ Z.Warmed39 U.vm ∧ U.heap = h0) (fun _ _ _ _ _ => True) (fun _ U o U' => ∃ v L, o = .returned v ∧ Qrm_headAmount1 Z a1 t1 k1 vs v1 h0 n0 v U'.heap L ∧ FrameEnd U o U' L ({ frames := 0, cells := 0, slots := 0, locals := 0 } : Room).cells ({ frames := 0, cells := 0, slots := 0, locals := 0 } : Room).slots) := by
  refine MetFree.of_bodySF (plainFor_of_name pn_0) hisR ?_
  intro p e s m args below meth c s₁ Bd hml0 hP hK
  obtain ⟨rfl, hZ, hh⟩ := hP
  have hx := Bd.exec
  have hby := Bd.bytes
  have hml : c.maxLocals = 1 := hml0
  have hown : s.vm.findClass kS0 = some m.cls := findClass_of_methodNamed Bd.named
  have hnm := (name_of_methodNamed Bd.named Bd.method).1
  have X0 : Stand p l e ({ frames := 0, cells := 0, slots := 0, locals := 0 } : Room) s m #[(.ref a1)] below meth c s₁ [] 0 0 := Stand.of_body Bd
  have e0 : s₁.heap = h0 := by rw [← hh, Bd.state]; rfl
  have N0 := Fr.nil n0
  have pre0 : ∀ t, Steps p.tables e below (s₁.setTop (mkF m 0 #[.val (.ref a1)] [])) t → Steps p.tables e below (s₁.setTop (entryFrame m #[(.ref a1)] 1)) t := fun t k => castTop (ef_rm_headAmount1 m a1) k
  have lt_F1 := ltA F1.lt
  have lt_Fh := ltA Fh.lt
  have lt_V1 := ltA V1.lt
  obtain ⟨T217, X217, e217, st217⟩ := getF X0 hx hZ hown (host := "") (Or.inl (wd hw 16 rfl)) Via.refl e0 F1 (g := (mkF m 1 #[.val (.ref a1)] [(.ref a1)])) rfl rfl (hb hby d9_1)
  obtain ⟨T218, X218, e218, st218⟩ := getF X217 hx hZ hown (host := "") (Or.inl (wd hw 26 rfl)) Via.refl e217 Fh (g := (mkF m 5 #[.val (.ref a1)] [(.ref a1), (.ref t1)])) rfl rfl (hb hby d9_5)
  obtain ⟨cl219, Ar219, q219, S219, M219, H219, G219⟩ := id V1
  have hin219 : ¬ ((1 : Int32) < 0 ∨ cl219.slots.size ≤ ((1 : Int32)).toNatClampNeg) := inb_of S219 ⟨by decide, by decide⟩
  have hat219 : cl219.slots[((1 : Int32)).toNatClampNeg]? = some (.double v1) := Has.at H219 hin219 hv
  obtain ⟨fs, hr, hrun, hended, hW, hsame⟩ := X218.leave (v := some (.double v1)) (fun h => by rw [Bd.returns] at h; cases h)
  refine ⟨_, _, pre0 _ ?_, hrun, hended, _, _, rfl, ?_, ⟨_, rfl⟩, hW, hsame.mono (by decide) (by decide)⟩
  · show GO p e below s₁ (mkF m 0 #[.val (.ref a1)] []) _
    refine XS.aloadN X0.here hx rfl (hb hby d9_0) rfl rfl ?_
    show GO p e below s₁ (mkF m 1 #[.val (.ref a1)] [(.ref a1)]) _
    refine st217 _ ?_
    show GO p e below T217 (mkF m 4 #[.val (.ref a1)] [(.ref t1)]) _
    refine XS.aloadN X217.here hx rfl (hb hby d9_4) rfl rfl ?_
    show GO p e below T217 (mkF m 5 #[.val (.ref a1)] [(.ref a1), (.ref t1)]) _
    refine st218 _ ?_
    show GO p e below T218 (mkF m 8 #[.val (.ref a1)] [(.int 1), (.ref t1)]) _
    refine X218.daload hx (j := (1 : Int32)) (v := (.double v1)) (by rw [e218]; exact Ar219.1) (State.isArrayOf_alike hZ.alike Ar219.2.1) Ar219.2.2 hin219 hat219 (g := (mkF m 8 #[.val (.ref a1)] [(.int 1), (.ref t1)])) rfl rfl (hb hby d9_8) _ ?_
    show GO p e below T218 (mkF m 9 #[.val (.ref a1)] [(.double v1)]) _
    exact retOut X218 hx Bd.returns rfl (Or.inr (Or.inr (Or.inl ⟨rfl, rfl, _, rfl⟩))) (hb hby d9_9) hr
  · show Qrm_headAmount1 Z a1 t1 k1 vs v1 h0 n0 _ T218.heap _
    rw [e218]
    exact ⟨rfl, N0, rfl⟩
def Qrm_headIsRear0 (Z : State) (a1 : Addr) (t1 : Addr) (k1 : ClassId) (vs : List Value) (v1 : Int32) (h0 : Heap) (n0 : Nat) (v : Option Value) (h : Heap) (L : List Loc) : Prop := v = some (.int v1) ∧ Fr n0 L ∧ h = h0
theorem ef_rm_headIsRear0 (m : MethodId) (x0 : Addr) : entryFrame m #[(.ref x0)] 1 = mkF m 0 #[.val (.ref x0)] [] := by first | rfl | (simp [entryFrame, mkF, argsToLocals, Value.category]; done)
set_option maxRecDepth 65536 in
set_option maxHeartbeats 40000000 in
theorem rm_headIsRear0 (l : Launch) (Z : State) (a0 : Array Value) (hw : ∀ d ∈ tables_1, d.before a0 Z = true) (ws : List Jvm.Cond) (a1 : Addr) (t1 : Addr) (k1 : ClassId) (vs : List Value) (v1 : Int32) (h0 : Heap) (n0 : Nat) (Z0 : n0 ≤ h0.size) (F1 : Fld Z h0 a1 kS0 "rears" "[Z" (.ref t1)) (Fh : Fld Z h0 a1 kS0 "head" "I" (.int 0)) (V1 : Arv Z h0 t1 k1 .boolean (8 : Int32) vs (.int 0)) (hv : vs.getD ((0 : Int32)).toNatClampNeg (.int 0) = (.int v1)) (hbo : nar .boolean v1 = v1) :
    MetFree l (⟨kS0, "headIsRear", "()Z"⟩ : MethodName) (head1 (Jvm.Cond.code (⟨kS0, "headIsRear", "()Z"⟩ : MethodName) prog_14_method_8_code 1 (some .boolean) :: ws) ({ frames := 0, cells := 0, slots := 0, locals := 0 } : Room)) (fun a U => a = #[(.ref a1)] ∧ Z.Warmed39 U.vm ∧ U.heap = h0) (fun _ _ _ _ _ => True) (fun _ U o U' => ∃ v L, o = .returned v ∧ Qrm_headIsRear0 Z a1 t1 k1 vs v1 h0 n0 v U'.heap L ∧ FrameEnd U o U' L ({ frames := 0, cells := 0, slots := 0, locals := 0 } : Room).cells ({ frames := 0, cells := 0, slots := 0, locals := 0 } : Room).slots) := by
  refine MetFree.of_bodySF (plainFor_of_name pn_0) hisR ?_
  intro p e s m args below meth c s₁ Bd hml0 hP hK
  obtain ⟨rfl, hZ, hh⟩ := hP
  have hx := Bd.exec
  have hby := Bd.bytes
  have hml : c.maxLocals = 1 := hml0
  have hown : s.vm.findClass kS0 = some m.cls := findClass_of_methodNamed Bd.named
  have hnm := (name_of_methodNamed Bd.named Bd.method).1
  have X0 : Stand p l e ({ frames := 0, cells := 0, slots := 0, locals := 0 } : Room) s m #[(.ref a1)] below meth c s₁ [] 0 0 := Stand.of_body Bd
  have e0 : s₁.heap = h0 := by rw [← hh, Bd.state]; rfl
  have N0 := Fr.nil n0
  have pre0 : ∀ t, Steps p.tables e below (s₁.setTop (mkF m 0 #[.val (.ref a1)] [])) t → Steps p.tables e below (s₁.setTop (entryFrame m #[(.ref a1)] 1)) t := fun t k => castTop (ef_rm_headIsRear0 m a1) k
  have lt_F1 := ltA F1.lt
  have lt_Fh := ltA Fh.lt
  have lt_V1 := ltA V1.lt
  obtain ⟨T220, X220, e220, st220⟩ := getF X0 hx hZ hown (host := "") (Or.inl (wd hw 19 rfl)) Via.refl e0 F1 (g := (mkF m 1 #[.val (.ref a1)] [(.ref a1)])) rfl rfl (hb hby d10_1)
  obtain ⟨T221, X221, e221, st221⟩ := getF X220 hx hZ hown (host := "") (Or.inl (wd hw 26 rfl)) Via.refl e220 Fh (g := (mkF m 5 #[.val (.ref a1)] [(.ref a1), (.ref t1)])) rfl rfl (hb hby d10_5)
  obtain ⟨cl222, Ar222, q222, S222, M222, H222, G222⟩ := id V1
  have hin222 : ¬ ((0 : Int32) < 0 ∨ cl222.slots.size ≤ ((0 : Int32)).toNatClampNeg) := inb_of S222 ⟨by decide, by decide⟩
  have hat222 : cl222.slots[((0 : Int32)).toNatClampNeg]? = some (.int v1) := Has.at H222 hin222 hv
  obtain ⟨fs, hr, hrun, hended, hW, hsame⟩ := X221.leave (v := some (.int (nar .boolean v1))) (fun h => by rw [Bd.returns] at h; cases h)
  refine ⟨_, _, pre0 _ ?_, hrun, hended, _, _, rfl, ?_, ⟨_, rfl⟩, hW, hsame.mono (by decide) (by decide)⟩
  · show GO p e below s₁ (mkF m 0 #[.val (.ref a1)] []) _
    refine XS.aloadN X0.here hx rfl (hb hby d10_0) rfl rfl ?_
    show GO p e below s₁ (mkF m 1 #[.val (.ref a1)] [(.ref a1)]) _
    refine st220 _ ?_
    show GO p e below T220 (mkF m 4 #[.val (.ref a1)] [(.ref t1)]) _
    refine XS.aloadN X220.here hx rfl (hb hby d10_4) rfl rfl ?_
    show GO p e below T220 (mkF m 5 #[.val (.ref a1)] [(.ref a1), (.ref t1)]) _
    refine st221 _ ?_
    show GO p e below T221 (mkF m 8 #[.val (.ref a1)] [(.int 0), (.ref t1)]) _
    refine X221.baloadBooleans hx (j := (0 : Int32)) (v := (.int v1)) (by rw [e221]; exact Ar222.1) (State.isArrayOf_alike hZ.alike Ar222.2.1) Ar222.2.2 hin222 hat222 (g := (mkF m 8 #[.val (.ref a1)] [(.int 0), (.ref t1)])) rfl rfl (hb hby d10_8) _ ?_
    show GO p e below T221 (mkF m 9 #[.val (.ref a1)] [(.int v1)]) _
    exact retN X221 hx (t := .boolean) Bd.returns (by simp) (hb hby d10_9) hr
  · show Qrm_headIsRear0 Z a1 t1 k1 vs v1 h0 n0 _ T221.heap _
    rw [e221]
    exact ⟨(by rw [hbo]), N0, rfl⟩
def Qrm_headIsRear1 (Z : State) (a1 : Addr) (t1 : Addr) (k1 : ClassId) (vs : List Value) (v1 : Int32) (h0 : Heap) (n0 : Nat) (v : Option Value) (h : Heap) (L : List Loc) : Prop := v = some (.int v1) ∧ Fr n0 L ∧ h = h0
theorem ef_rm_headIsRear1 (m : MethodId) (x0 : Addr) : entryFrame m #[(.ref x0)] 1 = mkF m 0 #[.val (.ref x0)] [] := by first | rfl | (simp [entryFrame, mkF, argsToLocals, Value.category]; done)
set_option maxRecDepth 65536 in
set_option maxHeartbeats 40000000 in
theorem rm_headIsRear1 (l : Launch) (Z : State) (a0 : Array Value) (hw : ∀ d ∈ tables_1, d.before a0 Z = true) (ws : List Jvm.Cond) (a1 : Addr) (t1 : Addr) (k1 : ClassId) (vs : List Value) (v1 : Int32) (h0 : Heap) (n0 : Nat) (Z0 : n0 ≤ h0.size) (F1 : Fld Z h0 a1 kS0 "rears" "[Z" (.ref t1)) (Fh : Fld Z h0 a1 kS0 "head" "I" (.int 1)) (V1 : Arv Z h0 t1 k1 .boolean (8 : Int32) vs (.int 0)) (hv : vs.getD ((1 : Int32)).toNatClampNeg (.int 0) = (.int v1)) (hbo : nar .boolean v1 = v1) :
    MetFree l (⟨kS0, "headIsRear", "()Z"⟩ : MethodName) (head1 (Jvm.Cond.code (⟨kS0, "headIsRear", "()Z"⟩ : MethodName) prog_14_method_8_code 1 (some .boolean) :: ws) ({ frames := 0, cells := 0, slots := 0, locals := 0 } : Room)) (fun a U => a = #[(.ref a1)] ∧ Z.Warmed39 U.vm ∧ U.heap = h0) (fun _ _ _ _ _ => True) (fun _ U o U' => ∃ v L, o = .returned v ∧ Qrm_headIsRear1 Z a1 t1 k1 vs v1 h0 n0 v U'.heap L ∧ FrameEnd U o U' L ({ frames := 0, cells := 0, slots := 0, locals := 0 } : Room).cells ({ frames := 0, cells := 0, slots := 0, locals := 0 } : Room).slots) := by
  refine MetFree.of_bodySF (plainFor_of_name pn_0) hisR ?_
  intro p e s m args below meth c s₁ Bd hml0 hP hK
  obtain ⟨rfl, hZ, hh⟩ := hP
  have hx := Bd.exec
  have hby := Bd.bytes
  have hml : c.maxLocals = 1 := hml0
  have hown : s.vm.findClass kS0 = some m.cls := findClass_of_methodNamed Bd.named
  have hnm := (name_of_methodNamed Bd.named Bd.method).1
  have X0 : Stand p l e ({ frames := 0, cells := 0, slots := 0, locals := 0 } : Room) s m #[(.ref a1)] below meth c s₁ [] 0 0 := Stand.of_body Bd
  have e0 : s₁.heap = h0 := by rw [← hh, Bd.state]; rfl
  have N0 := Fr.nil n0
  have pre0 : ∀ t, Steps p.tables e below (s₁.setTop (mkF m 0 #[.val (.ref a1)] [])) t → Steps p.tables e below (s₁.setTop (entryFrame m #[(.ref a1)] 1)) t := fun t k => castTop (ef_rm_headIsRear1 m a1) k
  have lt_F1 := ltA F1.lt
  have lt_Fh := ltA Fh.lt
  have lt_V1 := ltA V1.lt
  obtain ⟨T223, X223, e223, st223⟩ := getF X0 hx hZ hown (host := "") (Or.inl (wd hw 19 rfl)) Via.refl e0 F1 (g := (mkF m 1 #[.val (.ref a1)] [(.ref a1)])) rfl rfl (hb hby d10_1)
  obtain ⟨T224, X224, e224, st224⟩ := getF X223 hx hZ hown (host := "") (Or.inl (wd hw 26 rfl)) Via.refl e223 Fh (g := (mkF m 5 #[.val (.ref a1)] [(.ref a1), (.ref t1)])) rfl rfl (hb hby d10_5)
  obtain ⟨cl225, Ar225, q225, S225, M225, H225, G225⟩ := id V1
  have hin225 : ¬ ((1 : Int32) < 0 ∨ cl225.slots.size ≤ ((1 : Int32)).toNatClampNeg) := inb_of S225 ⟨by decide, by decide⟩
  have hat225 : cl225.slots[((1 : Int32)).toNatClampNeg]? = some (.int v1) := Has.at H225 hin225 hv
  obtain ⟨fs, hr, hrun, hended, hW, hsame⟩ := X224.leave (v := some (.int (nar .boolean v1))) (fun h => by rw [Bd.returns] at h; cases h)
  refine ⟨_, _, pre0 _ ?_, hrun, hended, _, _, rfl, ?_, ⟨_, rfl⟩, hW, hsame.mono (by decide) (by decide)⟩
  · show GO p e below s₁ (mkF m 0 #[.val (.ref a1)] []) _
    refine XS.aloadN X0.here hx rfl (hb hby d10_0) rfl rfl ?_
    show GO p e below s₁ (mkF m 1 #[.val (.ref a1)] [(.ref a1)]) _
    refine st223 _ ?_
    show GO p e below T223 (mkF m 4 #[.val (.ref a1)] [(.ref t1)]) _
    refine XS.aloadN X223.here hx rfl (hb hby d10_4) rfl rfl ?_
    show GO p e below T223 (mkF m 5 #[.val (.ref a1)] [(.ref a1), (.ref t1)]) _
    refine st224 _ ?_
    show GO p e below T224 (mkF m 8 #[.val (.ref a1)] [(.int 1), (.ref t1)]) _
    refine X224.baloadBooleans hx (j := (1 : Int32)) (v := (.int v1)) (by rw [e224]; exact Ar225.1) (State.isArrayOf_alike hZ.alike Ar225.2.1) Ar225.2.2 hin225 hat225 (g := (mkF m 8 #[.val (.ref a1)] [(.int 1), (.ref t1)])) rfl rfl (hb hby d10_8) _ ?_
    show GO p e below T224 (mkF m 9 #[.val (.ref a1)] [(.int v1)]) _
    exact retN X224 hx (t := .boolean) Bd.returns (by simp) (hb hby d10_9) hr
  · show Qrm_headIsRear1 Z a1 t1 k1 vs v1 h0 n0 _ T224.heap _
    rw [e224]
    exact ⟨(by rw [hbo]), N0, rfl⟩
def Qrm0 (Z : State) (p0 : Int32) (p1 : Int32) (p2 : Int32) (p3 : Int32) (p4 : Int32) (p5 : Int32) (h0 : Heap) (n0 : Nat) (v : Option Value) (h : Heap) (L : List Loc) : Prop := v = some (.int 1) ∧ Fr n0 L
theorem ef_rm0 (m : MethodId) (x0 : Int32) (x1 : Int32) (x2 : Int32) (x3 : Int32) (x4 : Int32) (x5 : Int32) : entryFrame m #[(.int x0), (.int x1), (.int x2), (.int x3), (.int x4), (.int x5)] maxLocals = mkF m 0 (la5 x0 x1 x2 x3 x4 x5) [] := by first | (simp [entryFrame, mkF, argsToLocals, Value.category, maxLocals]; done) | rfl
set_option maxRecDepth 65536 in
set_option maxHeartbeats 40000000 in
theorem rm0 (l : Launch) (Z : State) (a0 : Array Value) (hw : ∀ d ∈ tables_1, d.before a0 Z = true) (ws : List Jvm.Cond) (p0 : Int32) (p1 : Int32) (p2 : Int32) (p3 : Int32) (p4 : Int32) (p5 : Int32) (h0 : Heap) (n0 : Nat) (Z0 : n0 ≤ h0.size) :
    MetFree l x (head1 (Jvm.Cond.code x code maxLocals ret :: ws) room_1) (fun a U => a = #[(.int p0), (.int p1), (.int p2), (.int p3), (.int p4), (.int p5)] ∧ Z.Warmed39 U.vm ∧ U.heap = h0) (fun _ _ _ _ _ => True) (fun _ U o U' => ∃ v L, o = .returned v ∧ Qrm0 Z p0 p1 p2 p3 p4 p5 h0 n0 v U'.heap L ∧ FrameEnd U o U' L room_1.cells room_1.slots) := by
  refine MetFree.of_bodySF (plainFor_of_name pn_1) hisR ?_
  intro p e s m args below meth c s₁ Bd hml0 hP hK
  obtain ⟨rfl, hZ, hh⟩ := hP
  have hx := Bd.exec
  have hby := Bd.bytes
  have hml : c.maxLocals = 20 := hml0
  have hown : s.vm.findClass "com/example/occupancy/occupancy/loading/BlockTakeFromHeadPinLaw" = some m.cls := findClass_of_methodNamed Bd.named
  have hnm := (name_of_methodNamed Bd.named Bd.method).1
  have X0 : Stand p l e room_1 s m #[(.int p0), (.int p1), (.int p2), (.int p3), (.int p4), (.int p5)] below meth c s₁ [] 0 0 := Stand.of_body Bd
  have e0 : s₁.heap = h0 := by rw [← hh, Bd.state]; rfl
  have N0 := Fr.nil n0
  have pre0 : ∀ t, Steps p.tables e below (s₁.setTop (mkF m 0 (la5 p0 p1 p2 p3 p4 p5) [])) t → Steps p.tables e below (s₁.setTop (entryFrame m #[(.int p0), (.int p1), (.int p2), (.int p3), (.int p4), (.int p5)] maxLocals)) t := fun t k => castTop (ef_rm0 m p0 p1 p2 p3 p4 p5) k
  have pre226 : ∀ t, Steps p.tables e below (s₁.setTop (mkF m 4 (la5 p0 p1 p2 p3 p4 p5) [(.int (p5 &&& (1 : Int32)))])) t → Steps p.tables e below (s₁.setTop (entryFrame m #[(.int p0), (.int p1), (.int p2), (.int p3), (.int p4), (.int p5)] maxLocals)) t := by
    intro t kt
    refine pre0 t ?_
    show GO p e below s₁ (mkF m 0 (la5 p0 p1 p2 p3 p4 p5) []) _
    refine XS.iload X0.here hx rfl (hb hby at_0) rfl ?_
    show GO p e below s₁ (mkF m 2 (la5 p0 p1 p2 p3 p4 p5) [(.int p5)]) _
    refine XS.iconst X0.here hx rfl (hb hby at_2) ?_
    show GO p e below s₁ (mkF m 3 (la5 p0 p1 p2 p3 p4 p5) [(.int 1), (.int p5)]) _
    refine XS.iand X0.here hx rfl (hb hby at_3) rfl ?_
    exact kt
  obtain ⟨r6, hr6, pre227⟩ : ∃ r6 : Int32, (r6 = (0 : Int32) ∨ r6 = (1 : Int32)) ∧ ∀ t, Steps p.tables e below (s₁.setTop (mkF m 12 (la5 p0 p1 p2 p3 p4 p5) [(.int r6)])) t → Steps p.tables e below (s₁.setTop (entryFrame m #[(.int p0), (.int p1), (.int p2), (.int p3), (.int p4), (.int p5)] maxLocals)) t := by
    by_cases hb228 : (p5 &&& (1 : Int32)) = (0 : Int32)
    · have pre229 : ∀ t, Steps p.tables e below (s₁.setTop (mkF m 12 (la5 p0 p1 p2 p3 p4 p5) [(.int 0)])) t → Steps p.tables e below (s₁.setTop (entryFrame m #[(.int p0), (.int p1), (.int p2), (.int p3), (.int p4), (.int p5)] maxLocals)) t := by
        intro t kt
        refine pre226 t ?_
        show GO p e below s₁ (mkF m 4 (la5 p0 p1 p2 p3 p4 p5) [(.int (p5 &&& (1 : Int32)))]) _
        refine XS.ifYes X0.here hx rfl (pc0 := 4) (pc' := 11) rfl (hb hby at_4) rfl ((if0 _ _).trans (teq (hb228 : (p5 &&& (1 : Int32)) = (0 : Int32))).1) (by decide) (by decide) ?_
        show GO p e below s₁ (mkF m 11 (la5 p0 p1 p2 p3 p4 p5) []) _
        refine XS.iconst X0.here hx rfl (hb hby at_11) ?_
        exact kt
      exact ⟨(0 : Int32), Or.inl rfl, fun t kt => pre229 t kt⟩
    · have pre230 : ∀ t, Steps p.tables e below (s₁.setTop (mkF m 12 (la5 p0 p1 p2 p3 p4 p5) [(.int 1)])) t → Steps p.tables e below (s₁.setTop (entryFrame m #[(.int p0), (.int p1), (.int p2), (.int p3), (.int p4), (.int p5)] maxLocals)) t := by
        intro t kt
        refine pre226 t ?_
        show GO p e below s₁ (mkF m 4 (la5 p0 p1 p2 p3 p4 p5) [(.int (p5 &&& (1 : Int32)))]) _
        refine XS.ifNo X0.here hx rfl (hb hby at_4) rfl ((if0 _ _).trans (feq (hb228 : ¬ ((p5 &&& (1 : Int32)) = (0 : Int32)))).1) ?_
        show GO p e below s₁ (mkF m 7 (la5 p0 p1 p2 p3 p4 p5) []) _
        refine XS.iconst X0.here hx rfl (hb hby at_7) ?_
        show GO p e below s₁ (mkF m 8 (la5 p0 p1 p2 p3 p4 p5) [(.int 1)]) _
        refine XS.goto X0.here hx rfl (pc0 := 8) (pc' := 12) rfl (hb hby at_8) (by decide) (by decide) ?_
        exact kt
      exact ⟨(1 : Int32), Or.inr rfl, fun t kt => pre230 t kt⟩
  have hbr6 := own_narb hr6
  have pre231 : ∀ t, Steps p.tables e below (s₁.setTop (mkF m 18 (la6 p0 p1 p2 p3 p4 p5 r6) [(.int (p5 &&& (2 : Int32)))])) t → Steps p.tables e below (s₁.setTop (entryFrame m #[(.int p0), (.int p1), (.int p2), (.int p3), (.int p4), (.int p5)] maxLocals)) t := by
    intro t kt
    refine pre227 t ?_
    show GO p e below s₁ (mkF m 12 (la5 p0 p1 p2 p3 p4 p5) [(.int r6)]) _
    refine XS.istore X0.here hx rfl (hb hby at_12) rfl (l' := (la6 p0 p1 p2 p3 p4 p5 r6)) rfl ?_
    show GO p e below s₁ (mkF m 14 (la6 p0 p1 p2 p3 p4 p5 r6) []) _
    refine XS.iload X0.here hx rfl (hb hby at_14) rfl ?_
    show GO p e below s₁ (mkF m 16 (la6 p0 p1 p2 p3 p4 p5 r6) [(.int p5)]) _
    refine XS.iconst X0.here hx rfl (hb hby at_16) ?_
    show GO p e below s₁ (mkF m 17 (la6 p0 p1 p2 p3 p4 p5 r6) [(.int 2), (.int p5)]) _
    refine XS.iand X0.here hx rfl (hb hby at_17) rfl ?_
    exact kt
  obtain ⟨r7, hr7, pre232⟩ : ∃ r7 : Int32, (r7 = (0 : Int32) ∨ r7 = (1 : Int32)) ∧ ∀ t, Steps p.tables e below (s₁.setTop (mkF m 26 (la6 p0 p1 p2 p3 p4 p5 r6) [(.int r7)])) t → Steps p.tables e below (s₁.setTop (entryFrame m #[(.int p0), (.int p1), (.int p2), (.int p3), (.int p4), (.int p5)] maxLocals)) t := by
    by_cases hb233 : (p5 &&& (2 : Int32)) = (0 : Int32)
    · have pre234 : ∀ t, Steps p.tables e below (s₁.setTop (mkF m 26 (la6 p0 p1 p2 p3 p4 p5 r6) [(.int 0)])) t → Steps p.tables e below (s₁.setTop (entryFrame m #[(.int p0), (.int p1), (.int p2), (.int p3), (.int p4), (.int p5)] maxLocals)) t := by
        intro t kt
        refine pre231 t ?_
        show GO p e below s₁ (mkF m 18 (la6 p0 p1 p2 p3 p4 p5 r6) [(.int (p5 &&& (2 : Int32)))]) _
        refine XS.ifYes X0.here hx rfl (pc0 := 18) (pc' := 25) rfl (hb hby at_18) rfl ((if0 _ _).trans (teq (hb233 : (p5 &&& (2 : Int32)) = (0 : Int32))).1) (by decide) (by decide) ?_
        show GO p e below s₁ (mkF m 25 (la6 p0 p1 p2 p3 p4 p5 r6) []) _
        refine XS.iconst X0.here hx rfl (hb hby at_25) ?_
        exact kt
      exact ⟨(0 : Int32), Or.inl rfl, fun t kt => pre234 t kt⟩
    · have pre235 : ∀ t, Steps p.tables e below (s₁.setTop (mkF m 26 (la6 p0 p1 p2 p3 p4 p5 r6) [(.int 1)])) t → Steps p.tables e below (s₁.setTop (entryFrame m #[(.int p0), (.int p1), (.int p2), (.int p3), (.int p4), (.int p5)] maxLocals)) t := by
        intro t kt
        refine pre231 t ?_
        show GO p e below s₁ (mkF m 18 (la6 p0 p1 p2 p3 p4 p5 r6) [(.int (p5 &&& (2 : Int32)))]) _
        refine XS.ifNo X0.here hx rfl (hb hby at_18) rfl ((if0 _ _).trans (feq (hb233 : ¬ ((p5 &&& (2 : Int32)) = (0 : Int32)))).1) ?_
        show GO p e below s₁ (mkF m 21 (la6 p0 p1 p2 p3 p4 p5 r6) []) _
        refine XS.iconst X0.here hx rfl (hb hby at_21) ?_
        show GO p e below s₁ (mkF m 22 (la6 p0 p1 p2 p3 p4 p5 r6) [(.int 1)]) _
        refine XS.goto X0.here hx rfl (pc0 := 22) (pc' := 26) rfl (hb hby at_22) (by decide) (by decide) ?_
        exact kt
      exact ⟨(1 : Int32), Or.inr rfl, fun t kt => pre235 t kt⟩
  have hbr7 := own_narb hr7
  have pre236 : ∀ t, Steps p.tables e below (s₁.setTop (mkF m 32 (la7 p0 p1 p2 p3 p4 p5 r6 r7) [(.int (p5 &&& (4 : Int32)))])) t → Steps p.tables e below (s₁.setTop (entryFrame m #[(.int p0), (.int p1), (.int p2), (.int p3), (.int p4), (.int p5)] maxLocals)) t := by
    intro t kt
    refine pre232 t ?_
    show GO p e below s₁ (mkF m 26 (la6 p0 p1 p2 p3 p4 p5 r6) [(.int r7)]) _
    refine XS.istore X0.here hx rfl (hb hby at_26) rfl (l' := (la7 p0 p1 p2 p3 p4 p5 r6 r7)) rfl ?_
    show GO p e below s₁ (mkF m 28 (la7 p0 p1 p2 p3 p4 p5 r6 r7) []) _
    refine XS.iload X0.here hx rfl (hb hby at_28) rfl ?_
    show GO p e below s₁ (mkF m 30 (la7 p0 p1 p2 p3 p4 p5 r6 r7) [(.int p5)]) _
    refine XS.iconst X0.here hx rfl (hb hby at_30) ?_
    show GO p e below s₁ (mkF m 31 (la7 p0 p1 p2 p3 p4 p5 r6 r7) [(.int 4), (.int p5)]) _
    refine XS.iand X0.here hx rfl (hb hby at_31) rfl ?_
    exact kt
  obtain ⟨r8, hr8, pre237⟩ : ∃ r8 : Int32, (r8 = (0 : Int32) ∨ r8 = (1 : Int32)) ∧ ∀ t, Steps p.tables e below (s₁.setTop (mkF m 40 (la7 p0 p1 p2 p3 p4 p5 r6 r7) [(.int r8)])) t → Steps p.tables e below (s₁.setTop (entryFrame m #[(.int p0), (.int p1), (.int p2), (.int p3), (.int p4), (.int p5)] maxLocals)) t := by
    by_cases hb238 : (p5 &&& (4 : Int32)) = (0 : Int32)
    · have pre239 : ∀ t, Steps p.tables e below (s₁.setTop (mkF m 40 (la7 p0 p1 p2 p3 p4 p5 r6 r7) [(.int 0)])) t → Steps p.tables e below (s₁.setTop (entryFrame m #[(.int p0), (.int p1), (.int p2), (.int p3), (.int p4), (.int p5)] maxLocals)) t := by
        intro t kt
        refine pre236 t ?_
        show GO p e below s₁ (mkF m 32 (la7 p0 p1 p2 p3 p4 p5 r6 r7) [(.int (p5 &&& (4 : Int32)))]) _
        refine XS.ifYes X0.here hx rfl (pc0 := 32) (pc' := 39) rfl (hb hby at_32) rfl ((if0 _ _).trans (teq (hb238 : (p5 &&& (4 : Int32)) = (0 : Int32))).1) (by decide) (by decide) ?_
        show GO p e below s₁ (mkF m 39 (la7 p0 p1 p2 p3 p4 p5 r6 r7) []) _
        refine XS.iconst X0.here hx rfl (hb hby at_39) ?_
        exact kt
      exact ⟨(0 : Int32), Or.inl rfl, fun t kt => pre239 t kt⟩
    · have pre240 : ∀ t, Steps p.tables e below (s₁.setTop (mkF m 40 (la7 p0 p1 p2 p3 p4 p5 r6 r7) [(.int 1)])) t → Steps p.tables e below (s₁.setTop (entryFrame m #[(.int p0), (.int p1), (.int p2), (.int p3), (.int p4), (.int p5)] maxLocals)) t := by
        intro t kt
        refine pre236 t ?_
        show GO p e below s₁ (mkF m 32 (la7 p0 p1 p2 p3 p4 p5 r6 r7) [(.int (p5 &&& (4 : Int32)))]) _
        refine XS.ifNo X0.here hx rfl (hb hby at_32) rfl ((if0 _ _).trans (feq (hb238 : ¬ ((p5 &&& (4 : Int32)) = (0 : Int32)))).1) ?_
        show GO p e below s₁ (mkF m 35 (la7 p0 p1 p2 p3 p4 p5 r6 r7) []) _
        refine XS.iconst X0.here hx rfl (hb hby at_35) ?_
        show GO p e below s₁ (mkF m 36 (la7 p0 p1 p2 p3 p4 p5 r6 r7) [(.int 1)]) _
        refine XS.goto X0.here hx rfl (pc0 := 36) (pc' := 40) rfl (hb hby at_36) (by decide) (by decide) ?_
        exact kt
      exact ⟨(1 : Int32), Or.inr rfl, fun t kt => pre240 t kt⟩
  have hbr8 := own_narb hr8
  obtain ⟨x9, hx9⟩ : ∃ z, z = ((p0 &&& (1023 : Int32)) + (1 : Int32)) := ⟨_, rfl⟩
  obtain ⟨x10, hx10⟩ : ∃ z, z = ((p1 &&& (1023 : Int32)) + (1 : Int32)) := ⟨_, rfl⟩
  obtain ⟨own_nz, hx9a, hx9b⟩ := own_x hx9
  obtain ⟨-, hx10a, hx10b⟩ := own_x hx10
  obtain ⟨t11, ht11⟩ : ∃ z, z = ((p2 &&& (2147483647 : Int32)) % (x9 + (1 : Int32))) := ⟨_, rfl⟩
  obtain ⟨ht0, ht1⟩ := own_t hx9a hx9b ht11
  obtain ⟨T241, h241, X241, e241, E241, A241, D241, U241, st241⟩ := newO X0 hx hZ hown (wd hw 1 rfl) (wd hw 2 rfl) (wd hw 3 rfl) e0 (g := (mkF m 82 (la13 p0 p1 p2 p3 p4 p5 r6 r7 r8 x9 x10 t11 (p3 + (1 : Int32)) (p4 - (1 : Int32))) [])) rfl (hb hby at_82) (by decide) (by decide)
  obtain ⟨b241, g241⟩ : ∃ z, z = h0.size := ⟨_, rfl⟩
  rw [← g241] at A241 D241 U241 st241
  have sz241 : h0.size ≤ h241.size := E241.1
  have lt241 := ltA A241.lt
  have f242 : Fld Z h241 b241 kS0 "agents" "[I" .null := D241 (Or.inl (wd hw 12 rfl)) (ty := (.array .int)) (by decide)
  have f243 : Fld Z h241 b241 kS0 "legs" "[I" .null := D241 (Or.inl (wd hw 14 rfl)) (ty := (.array .int)) (by decide)
  have f244 : Fld Z h241 b241 kS0 "amounts" "[D" .null := D241 (Or.inl (wd hw 17 rfl)) (ty := (.array .double)) (by decide)
  have f245 : Fld Z h241 b241 kS0 "rears" "[Z" .null := D241 (Or.inl (wd hw 20 rfl)) (ty := (.array .boolean)) (by decide)
  have f246 : Fld Z h241 b241 kS0 "head" "I" (.int 0) := D241 (Or.inl (wd hw 27 rfl)) (ty := .int) (by decide)
  have f247 : Fld Z h241 b241 kS0 "size" "I" (.int 0) := D241 (Or.inl (wd hw 29 rfl)) (ty := .int) (by decide)
  have f248 : Fld Z h241 b241 kS0 "content" "D" (.double (0 : UInt64)) := D241 (Or.inl (wd hw 31 rfl)) (ty := .double) (by decide)
  -- pc 86: Block.<init> by rm_1
  obtain ⟨_, _, ⟨T249, L249, k249, n249⟩, -, X249, ⟨Lc249, hQ249, l249, y249, z249⟩, st249⟩ := X241.specialBack hx (y := (⟨kS0, "<init>", "()V"⟩ : MethodName)) rfl hown (mvT hZ (wd hw 4 rfl)) (mvT hZ (wd hw 5 rfl)) (mvT hZ (wd hw 6 rfl)) (by decide) (backOf (W := 1) (rm_1 l Z a0 hw [] b241 .null .null .null .null (.int 0) (.int 0) (.double (0 : UInt64)) h241 n0 (by omega) A241 f242 f243 f244 f245 f246 f247 f248 (by first | assumption | decide | omega | exact neN (by omega))) hZ (wd hw 6 rfl) (wd hw 3 rfl) (by decide) (by decide)) (g := (mkF m 86 (la13 p0 p1 p2 p3 p4 p5 r6 r7 r8 x9 x10 t11 (p3 + (1 : Int32)) (p4 - (1 : Int32))) [(.ref b241), (.ref b241)])) rfl (by rw [hml]; rfl) (Steps.refl _) (a := b241) (argsL := []) (rest := [(.ref b241)]) (lenOf pd_0 rfl) rfl (by show 2 * 0 + _ ≤ _; exact Nat.le_of_eq rfl) (hb hby at_86) (fun _ _ => ⟨rfl, e241, (by decide : 1 + 4 ≤ _), (by decide : 7 + 32 ≤ _)⟩)
  dsimp only [Pt.U, Pt.locs, Pt.cells, Pt.slots] at X249 l249 y249 z249 st249 hQ249
  subst l249 y249 z249
  obtain ⟨h249, e249⟩ : ∃ z, T249.heap = z := ⟨_, rfl⟩
  rw [e249] at hQ249
  obtain ⟨t0_249, t1_249, t2_249, t3_249, k0_249, k1_249, k2_249, k3_249, rfl, N249q, K249, p249_0, p249_1, p249_2, p249_3, p249_4, p249_5, p249_6, p249_7, p249_8, p249_9, p249_10, p249_11, r249_0, r249_1, r249_2, r249_3⟩ := hQ249
  have N249 := Fr.app N0 N249q
  have sz249 : h241.size ≤ h249.size := K249.1
  have lt249_0 := ltA p249_0.lt
  have lt249_2 := ltA p249_2.lt
  have lt249_4 := ltA p249_4.lt
  have lt249_6 := ltA p249_6.lt
  have lt249_8 := ltA p249_8.lt
  -- pc 101: Block.add by rm_add0
  obtain ⟨cq250, kq250, q250a, q250b, q250c⟩ := isOf hZ e249 p249_0
  obtain ⟨_, _, ⟨T250, L250, k250, n250⟩, -, X250, ⟨Lc250, hQ250, l250, y250, z250⟩, st250⟩ := X249.virtualBack hx (y := (⟨kS0, "add", "(IIDZ)V"⟩ : MethodName)) (z := (⟨kS0, "add", "(IIDZ)V"⟩ : MethodName)) hown (mvT hZ (wd hw 21 rfl)) (mvT hZ (wd hw 22 rfl)) (notFace_of_selects (args := #[]) (mvT hZ (wd hw 24 rfl))) (mvT hZ (wd hw 24 rfl)) (mvT hZ (wd hw 23 rfl)) (by decide) (backOf (W := 0) (rm_add0 l Z a0 hw [] b241 p3 p4 (FP.i2d x9) r7 (0 : UInt64) t0_249 k0_249 ([(.int 0), (.int 0), (.int 0), (.int 0), (.int 0), (.int 0), (.int 0), (.int 0)]) t1_249 k1_249 ([(.int 0), (.int 0), (.int 0), (.int 0), (.int 0), (.int 0), (.int 0), (.int 0)]) t2_249 k2_249 ([(.double (0 : UInt64)), (.double (0 : UInt64)), (.double (0 : UInt64)), (.double (0 : UInt64)), (.double (0 : UInt64)), (.double (0 : UInt64)), (.double (0 : UInt64)), (.double (0 : UInt64))]) t3_249 k3_249 ([(.int 0), (.int 0), (.int 0), (.int 0), (.int 0), (.int 0), (.int 0), (.int 0)]) h249 n0 (by omega) p249_0 p249_9 p249_10 p249_11 p249_1 p249_2 p249_3 p249_4 p249_5 p249_6 p249_7 p249_8 rfl rfl rfl rfl (by first | assumption | decide | omega | exact neN (by omega)) (by first | assumption | decide | omega | exact neN (by omega)) (by first | assumption | decide | omega | exact neN (by omega)) (by first | assumption | decide | omega | exact neN (by omega)) (by first | assumption | decide | omega | exact neN (by omega)) (own_nn0 hx9a hx9b)) hZ (wd hw 25 rfl) (wd hw 3 rfl) (by decide) (by decide)) q250a q250c (g := (mkF m 101 (la14 p0 p1 p2 p3 p4 p5 r6 r7 r8 x9 x10 t11 (p3 + (1 : Int32)) (p4 - (1 : Int32)) b241) [(.int r7), (.double (FP.i2d x9)), (.int p4), (.int p3), (.ref b241)])) rfl (by rw [hml]; rfl) (Steps.refl _) (argsL := [(.int p3), (.int p4), (.double (FP.i2d x9)), (.int r7)]) (rest := []) (lenOf pd_1 rfl) rfl (by show 2 * 0 + _ ≤ _; exact Nat.le_of_eq rfl) (hb hby at_101) (fun _ _ => ⟨rfl, e249, (by decide : 5 + 0 ≤ _), (by decide : 39 + 0 ≤ _)⟩)
  dsimp only [Pt.U, Pt.locs, Pt.cells, Pt.slots] at X250 l250 y250 z250 st250 hQ250
  subst l250 y250 z250
  obtain ⟨h250, e250⟩ : ∃ z, T250.heap = z := ⟨_, rfl⟩
  rw [e250] at hQ250
  obtain ⟨rfl, N250q, K250, p250_0, p250_1, p250_2, p250_3, p250_4, p250_5, p250_6, p250_7, p250_8, p250_9, p250_10, p250_11⟩ := hQ250
  have N250 := Fr.app N249 N250q
  have sz250 : h249.size ≤ h250.size := K250.1
  have lt250_0 := ltA p250_0.lt
  have lt250_5 := ltA p250_5.lt
  have lt250_7 := ltA p250_7.lt
  have lt250_9 := ltA p250_9.lt
  have lt250_11 := ltA p250_11.lt
  have f251 : Arv Z h250 t0_249 k0_249 .int (8 : Int32) [(.int p3), (.int 0), (.int 0), (.int 0), (.int 0), (.int 0), (.int 0), (.int 0)] (.int 0) := by
    have q := p250_5
    exact q
  have f252 : Arv Z h250 t1_249 k1_249 .int (8 : Int32) [(.int p4), (.int 0), (.int 0), (.int 0), (.int 0), (.int 0), (.int 0), (.int 0)] (.int 0) := by
    have q := p250_7
    exact q
  have f253 : Arv Z h250 t2_249 k2_249 .double (8 : Int32) [(.double (FP.i2d x9)), (.double (0 : UInt64)), (.double (0 : UInt64)), (.double (0 : UInt64)), (.double (0 : UInt64)), (.double (0 : UInt64)), (.double (0 : UInt64)), (.double (0 : UInt64))] (.double (0 : UInt64)) := by
    have q := p250_9
    exact q
  have f254 : Arv Z h250 t3_249 k3_249 .boolean (8 : Int32) [(.int (nar .boolean r7)), (.int 0), (.int 0), (.int 0), (.int 0), (.int 0), (.int 0), (.int 0)] (.int 0) := by
    have q := p250_11
    exact q
  have f255 : Fld Z h250 b241 kS0 "content" "D" (.double (FP.i2d x9)) := by
    have q := p250_3
    rw [own_z hx9a hx9b] at q
    exact q
  have pre256 : ∀ t, Steps p.tables e below (T250.setTop (mkF m 106 (la14 p0 p1 p2 p3 p4 p5 r6 r7 r8 x9 x10 t11 (p3 + (1 : Int32)) (p4 - (1 : Int32)) b241) [(.int r6)])) t → Steps p.tables e below (s₁.setTop (entryFrame m #[(.int p0), (.int p1), (.int p2), (.int p3), (.int p4), (.int p5)] maxLocals)) t := by
    intro t kt
    refine pre237 t ?_
    show GO p e below s₁ (mkF m 40 (la7 p0 p1 p2 p3 p4 p5 r6 r7) [(.int r8)]) _
    refine XS.istore X0.here hx rfl (hb hby at_40) rfl (l' := (la8 p0 p1 p2 p3 p4 p5 r6 r7 r8)) rfl ?_
    show GO p e below s₁ (mkF m 42 (la8 p0 p1 p2 p3 p4 p5 r6 r7 r8) []) _
    refine XS.iloadN X0.here hx rfl (hb hby at_42) rfl ?_
    show GO p e below s₁ (mkF m 43 (la8 p0 p1 p2 p3 p4 p5 r6 r7 r8) [(.int p0)]) _
    refine XS.sipush X0.here hx rfl (hb hby at_43) ?_
    show GO p e below s₁ (mkF m 46 (la8 p0 p1 p2 p3 p4 p5 r6 r7 r8) [(.int 1023), (.int p0)]) _
    refine XS.iand X0.here hx rfl (hb hby at_46) rfl ?_
    show GO p e below s₁ (mkF m 47 (la8 p0 p1 p2 p3 p4 p5 r6 r7 r8) [(.int (p0 &&& (1023 : Int32)))]) _
    refine XS.iconst X0.here hx rfl (hb hby at_47) ?_
    show GO p e below s₁ (mkF m 48 (la8 p0 p1 p2 p3 p4 p5 r6 r7 r8) [(.int 1), (.int (p0 &&& (1023 : Int32)))]) _
    refine XS.iadd X0.here hx rfl (hb hby at_48) rfl ?_
    show GO p e below s₁ (mkF m 49 (la8 p0 p1 p2 p3 p4 p5 r6 r7 r8) [(.int ((p0 &&& (1023 : Int32)) + (1 : Int32)))]) _
    refine XS.istore X0.here hx rfl (hb hby at_49) rfl (l' := (la9 p0 p1 p2 p3 p4 p5 r6 r7 r8 ((p0 &&& (1023 : Int32)) + (1 : Int32)))) rfl ?_
    show GO p e below s₁ (mkF m 51 (la9 p0 p1 p2 p3 p4 p5 r6 r7 r8 ((p0 &&& (1023 : Int32)) + (1 : Int32))) []) _
    refine XS.iloadN X0.here hx rfl (hb hby at_51) rfl ?_
    show GO p e below s₁ (mkF m 52 (la9 p0 p1 p2 p3 p4 p5 r6 r7 r8 ((p0 &&& (1023 : Int32)) + (1 : Int32))) [(.int p1)]) _
    refine XS.sipush X0.here hx rfl (hb hby at_52) ?_
    show GO p e below s₁ (mkF m 55 (la9 p0 p1 p2 p3 p4 p5 r6 r7 r8 ((p0 &&& (1023 : Int32)) + (1 : Int32))) [(.int 1023), (.int p1)]) _
    refine XS.iand X0.here hx rfl (hb hby at_55) rfl ?_
    show GO p e below s₁ (mkF m 56 (la9 p0 p1 p2 p3 p4 p5 r6 r7 r8 ((p0 &&& (1023 : Int32)) + (1 : Int32))) [(.int (p1 &&& (1023 : Int32)))]) _
    refine XS.iconst X0.here hx rfl (hb hby at_56) ?_
    show GO p e below s₁ (mkF m 57 (la9 p0 p1 p2 p3 p4 p5 r6 r7 r8 ((p0 &&& (1023 : Int32)) + (1 : Int32))) [(.int 1), (.int (p1 &&& (1023 : Int32)))]) _
    refine XS.iadd X0.here hx rfl (hb hby at_57) rfl ?_
    show GO p e below s₁ (mkF m 58 (la9 p0 p1 p2 p3 p4 p5 r6 r7 r8 ((p0 &&& (1023 : Int32)) + (1 : Int32))) [(.int ((p1 &&& (1023 : Int32)) + (1 : Int32)))]) _
    refine XS.istore X0.here hx rfl (hb hby at_58) rfl (l' := (la10 p0 p1 p2 p3 p4 p5 r6 r7 r8 ((p0 &&& (1023 : Int32)) + (1 : Int32)) ((p1 &&& (1023 : Int32)) + (1 : Int32)))) rfl ?_
    rw [← hx9]
    rw [← hx10]
    show GO p e below s₁ (mkF m 60 (la10 p0 p1 p2 p3 p4 p5 r6 r7 r8 x9 x10) []) _
    refine XS.iloadN X0.here hx rfl (hb hby at_60) rfl ?_
    show GO p e below s₁ (mkF m 61 (la10 p0 p1 p2 p3 p4 p5 r6 r7 r8 x9 x10) [(.int p2)]) _
    refine X0.ldcInt hx hown (mvT hZ (wd hw 0 rfl)) (g := (mkF m 61 (la10 p0 p1 p2 p3 p4 p5 r6 r7 r8 x9 x10) [(.int p2)])) rfl (hb hby at_61) _ ?_
    show GO p e below s₁ (mkF m 63 (la10 p0 p1 p2 p3 p4 p5 r6 r7 r8 x9 x10) [(.int 2147483647), (.int p2)]) _
    refine XS.iand X0.here hx rfl (hb hby at_63) rfl ?_
    show GO p e below s₁ (mkF m 64 (la10 p0 p1 p2 p3 p4 p5 r6 r7 r8 x9 x10) [(.int (p2 &&& (2147483647 : Int32)))]) _
    refine XS.iload X0.here hx rfl (hb hby at_64) rfl ?_
    show GO p e below s₁ (mkF m 66 (la10 p0 p1 p2 p3 p4 p5 r6 r7 r8 x9 x10) [(.int x9), (.int (p2 &&& (2147483647 : Int32)))]) _
    refine XS.iconst X0.here hx rfl (hb hby at_66) ?_
    show GO p e below s₁ (mkF m 67 (la10 p0 p1 p2 p3 p4 p5 r6 r7 r8 x9 x10) [(.int 1), (.int x9), (.int (p2 &&& (2147483647 : Int32)))]) _
    refine XS.iadd X0.here hx rfl (hb hby at_67) rfl ?_
    show GO p e below s₁ (mkF m 68 (la10 p0 p1 p2 p3 p4 p5 r6 r7 r8 x9 x10) [(.int (x9 + (1 : Int32))), (.int (p2 &&& (2147483647 : Int32)))]) _
    refine iremM X0 hx rfl (hb hby at_68) rfl own_nz ?_
    show GO p e below s₁ (mkF m 69 (la10 p0 p1 p2 p3 p4 p5 r6 r7 r8 x9 x10) [(.int ((p2 &&& (2147483647 : Int32)) % (x9 + (1 : Int32))))]) _
    refine XS.istore X0.here hx rfl (hb hby at_69) rfl (l' := (la11 p0 p1 p2 p3 p4 p5 r6 r7 r8 x9 x10 ((p2 &&& (2147483647 : Int32)) % (x9 + (1 : Int32))))) rfl ?_
    rw [← ht11]
    show GO p e below s₁ (mkF m 71 (la11 p0 p1 p2 p3 p4 p5 r6 r7 r8 x9 x10 t11) []) _
    refine XS.iloadN X0.here hx rfl (hb hby at_71) rfl ?_
    show GO p e below s₁ (mkF m 72 (la11 p0 p1 p2 p3 p4 p5 r6 r7 r8 x9 x10 t11) [(.int p3)]) _
    refine XS.iconst X0.here hx rfl (hb hby at_72) ?_
    show GO p e below s₁ (mkF m 73 (la11 p0 p1 p2 p3 p4 p5 r6 r7 r8 x9 x10 t11) [(.int 1), (.int p3)]) _
    refine XS.iadd X0.here hx rfl (hb hby at_73) rfl ?_
    show GO p e below s₁ (mkF m 74 (la11 p0 p1 p2 p3 p4 p5 r6 r7 r8 x9 x10 t11) [(.int (p3 + (1 : Int32)))]) _
    refine XS.istore X0.here hx rfl (hb hby at_74) rfl (l' := (la12 p0 p1 p2 p3 p4 p5 r6 r7 r8 x9 x10 t11 (p3 + (1 : Int32)))) rfl ?_
    show GO p e below s₁ (mkF m 76 (la12 p0 p1 p2 p3 p4 p5 r6 r7 r8 x9 x10 t11 (p3 + (1 : Int32))) []) _
    refine XS.iload X0.here hx rfl (hb hby at_76) rfl ?_
    show GO p e below s₁ (mkF m 78 (la12 p0 p1 p2 p3 p4 p5 r6 r7 r8 x9 x10 t11 (p3 + (1 : Int32))) [(.int p4)]) _
    refine XS.iconst X0.here hx rfl (hb hby at_78) ?_
    show GO p e below s₁ (mkF m 79 (la12 p0 p1 p2 p3 p4 p5 r6 r7 r8 x9 x10 t11 (p3 + (1 : Int32))) [(.int 1), (.int p4)]) _
    refine XS.isub X0.here hx rfl (hb hby at_79) rfl ?_
    show GO p e below s₁ (mkF m 80 (la12 p0 p1 p2 p3 p4 p5 r6 r7 r8 x9 x10 t11 (p3 + (1 : Int32))) [(.int (p4 - (1 : Int32)))]) _
    refine XS.istore X0.here hx rfl (hb hby at_80) rfl (l' := (la13 p0 p1 p2 p3 p4 p5 r6 r7 r8 x9 x10 t11 (p3 + (1 : Int32)) (p4 - (1 : Int32)))) rfl ?_
    show GO p e below s₁ (mkF m 82 (la13 p0 p1 p2 p3 p4 p5 r6 r7 r8 x9 x10 t11 (p3 + (1 : Int32)) (p4 - (1 : Int32))) []) _
    refine st241 _ ?_
    show GO p e below T241 (mkF m 85 (la13 p0 p1 p2 p3 p4 p5 r6 r7 r8 x9 x10 t11 (p3 + (1 : Int32)) (p4 - (1 : Int32))) [(.ref b241)]) _
    refine XS.dup X241.here hx rfl (hb hby at_85) rfl rfl ?_
    show GO p e below T241 (mkF m 86 (la13 p0 p1 p2 p3 p4 p5 r6 r7 r8 x9 x10 t11 (p3 + (1 : Int32)) (p4 - (1 : Int32))) [(.ref b241), (.ref b241)]) _
    refine st249.trans ?_
    show GO p e below T249 (mkF m 89 (la13 p0 p1 p2 p3 p4 p5 r6 r7 r8 x9 x10 t11 (p3 + (1 : Int32)) (p4 - (1 : Int32))) [(.ref b241)]) _
    refine XS.astore X249.here hx rfl (hb hby at_89) rfl rfl (l' := (la14 p0 p1 p2 p3 p4 p5 r6 r7 r8 x9 x10 t11 (p3 + (1 : Int32)) (p4 - (1 : Int32)) b241)) rfl ?_
    show GO p e below T249 (mkF m 91 (la14 p0 p1 p2 p3 p4 p5 r6 r7 r8 x9 x10 t11 (p3 + (1 : Int32)) (p4 - (1 : Int32)) b241) []) _
    refine XS.aload X249.here hx rfl (hb hby at_91) rfl rfl ?_
    show GO p e below T249 (mkF m 93 (la14 p0 p1 p2 p3 p4 p5 r6 r7 r8 x9 x10 t11 (p3 + (1 : Int32)) (p4 - (1 : Int32)) b241) [(.ref b241)]) _
    refine XS.iloadN X249.here hx rfl (hb hby at_93) rfl ?_
    show GO p e below T249 (mkF m 94 (la14 p0 p1 p2 p3 p4 p5 r6 r7 r8 x9 x10 t11 (p3 + (1 : Int32)) (p4 - (1 : Int32)) b241) [(.int p3), (.ref b241)]) _
    refine XS.iload X249.here hx rfl (hb hby at_94) rfl ?_
    show GO p e below T249 (mkF m 96 (la14 p0 p1 p2 p3 p4 p5 r6 r7 r8 x9 x10 t11 (p3 + (1 : Int32)) (p4 - (1 : Int32)) b241) [(.int p4), (.int p3), (.ref b241)]) _
    refine XS.iload X249.here hx rfl (hb hby at_96) rfl ?_
    show GO p e below T249 (mkF m 98 (la14 p0 p1 p2 p3 p4 p5 r6 r7 r8 x9 x10 t11 (p3 + (1 : Int32)) (p4 - (1 : Int32)) b241) [(.int x9), (.int p4), (.int p3), (.ref b241)]) _
    refine XS.i2dS X249.here hx rfl (hb hby at_98) rfl rfl ?_
    show GO p e below T249 (mkF m 99 (la14 p0 p1 p2 p3 p4 p5 r6 r7 r8 x9 x10 t11 (p3 + (1 : Int32)) (p4 - (1 : Int32)) b241) [(.double (FP.i2d x9)), (.int p4), (.int p3), (.ref b241)]) _
    refine XS.iload X249.here hx rfl (hb hby at_99) rfl ?_
    show GO p e below T249 (mkF m 101 (la14 p0 p1 p2 p3 p4 p5 r6 r7 r8 x9 x10 t11 (p3 + (1 : Int32)) (p4 - (1 : Int32)) b241) [(.int r7), (.double (FP.i2d x9)), (.int p4), (.int p3), (.ref b241)]) _
    refine st250.trans ?_
    show GO p e below T250 (mkF m 104 (la14 p0 p1 p2 p3 p4 p5 r6 r7 r8 x9 x10 t11 (p3 + (1 : Int32)) (p4 - (1 : Int32)) b241) []) _
    refine XS.iload X250.here hx rfl (hb hby at_104) rfl ?_
    exact kt
  by_cases hb257 : r6 = (0 : Int32)
  · have pre258 : ∀ t, Steps p.tables e below (T250.setTop (mkF m 123 (la14 p0 p1 p2 p3 p4 p5 r6 r7 r8 x9 x10 t11 (p3 + (1 : Int32)) (p4 - (1 : Int32)) b241) [])) t → Steps p.tables e below (s₁.setTop (entryFrame m #[(.int p0), (.int p1), (.int p2), (.int p3), (.int p4), (.int p5)] maxLocals)) t := by
      intro t kt
      refine pre256 t ?_
      show GO p e below T250 (mkF m 106 (la14 p0 p1 p2 p3 p4 p5 r6 r7 r8 x9 x10 t11 (p3 + (1 : Int32)) (p4 - (1 : Int32)) b241) [(.int r6)]) _
      refine XS.ifYes X250.here hx rfl (pc0 := 106) (pc' := 123) rfl (hb hby at_106) rfl ((if0 _ _).trans (teq (hb257 : r6 = (0 : Int32))).1) (by decide) (by decide) ?_
      exact kt
    by_cases hb259 : t11 = x9
    · -- pc 128: Block.takeFromHead by rm_takef0
      obtain ⟨cq260, kq260, q260a, q260b, q260c⟩ := isOf hZ e250 p250_0
      obtain ⟨_, _, ⟨T260, L260, k260, n260⟩, -, X260, ⟨Lc260, hQ260, l260, y260, z260⟩, st260⟩ := X250.virtualBack hx (y := (⟨kS0, "takeFromHead", "(D)V"⟩ : MethodName)) (z := (⟨kS0, "takeFromHead", "(D)V"⟩ : MethodName)) hown (mvT hZ (wd hw 32 rfl)) (mvT hZ (wd hw 33 rfl)) (notFace_of_selects (args := #[]) (mvT hZ (wd hw 35 rfl))) (mvT hZ (wd hw 35 rfl)) (mvT hZ (wd hw 34 rfl)) (by decide) (backOf (W := 0) (rm_takef0 l Z a0 hw [] b241 (FP.i2d t11) (1 : Int32) (FP.i2d x9) (FP.i2d x9) t0_249 k0_249 ([(.int p3), (.int 0), (.int 0), (.int 0), (.int 0), (.int 0), (.int 0), (.int 0)]) t1_249 k1_249 ([(.int p4), (.int 0), (.int 0), (.int 0), (.int 0), (.int 0), (.int 0), (.int 0)]) t2_249 k2_249 ([(.double (FP.i2d x9)), (.double (0 : UInt64)), (.double (0 : UInt64)), (.double (0 : UInt64)), (.double (0 : UInt64)), (.double (0 : UInt64)), (.double (0 : UInt64)), (.double (0 : UInt64))]) t3_249 k3_249 ([(.int (nar .boolean r7)), (.int 0), (.int 0), (.int 0), (.int 0), (.int 0), (.int 0), (.int 0)]) h250 n0 (by omega) p250_0 p250_1 p250_2 f255 p250_4 f251 p250_6 f252 p250_8 f253 p250_10 f254 rfl rfl rfl rfl (by first | assumption | decide | omega | exact neN (by omega)) (by first | assumption | decide | omega | exact neN (by omega)) (by first | assumption | decide | omega | exact neN (by omega)) (by first | assumption | decide | omega | exact neN (by omega)) (by first | assumption | decide | omega | exact neN (by omega)) rfl (own_full hb259) (own_nns hx9a hx9b ht0 ht1)) hZ (wd hw 36 rfl) (wd hw 3 rfl) (by decide) (by decide)) q260a q260c (g := (mkF m 128 (la14 p0 p1 p2 p3 p4 p5 r6 r7 r8 x9 x10 t11 (p3 + (1 : Int32)) (p4 - (1 : Int32)) b241) [(.double (FP.i2d t11)), (.ref b241)])) rfl (by rw [hml]; rfl) (Steps.refl _) (argsL := [(.double (FP.i2d t11))]) (rest := []) (lenOf pd_2 rfl) rfl (by show 2 * 0 + _ ≤ _; exact Nat.le_of_eq rfl) (hb hby at_128) (fun _ _ => ⟨rfl, e250, (by decide : 5 + 0 ≤ _), (by decide : 39 + 0 ≤ _)⟩)
      dsimp only [Pt.U, Pt.locs, Pt.cells, Pt.slots] at X260 l260 y260 z260 st260 hQ260
      subst l260 y260 z260
      obtain ⟨h260, e260⟩ : ∃ z, T260.heap = z := ⟨_, rfl⟩
      rw [e260] at hQ260
      obtain ⟨rfl, N260q, K260, p260_0, p260_1, p260_2, p260_3, p260_4, p260_5, p260_6, p260_7, p260_8, p260_9, p260_10, p260_11⟩ := hQ260
      have N260 := Fr.app N250 N260q
      have sz260 : h250.size ≤ h260.size := K260.1
      have lt260_0 := ltA p260_0.lt
      have lt260_5 := ltA p260_5.lt
      have lt260_7 := ltA p260_7.lt
      have lt260_9 := ltA p260_9.lt
      have lt260_11 := ltA p260_11.lt
      have f261 : Fld Z h260 b241 kS0 "size" "I" (.int 0) := by
        have q := p260_2
        rw [show ((1 : Int32) - (1 : Int32)) = (0 : Int32) from by decide] at q
        exact q
      have f262 : Fld Z h260 b241 kS0 "content" "D" (.double (if (0 : Int32) = (0 : Int32) then (0 : UInt64) else FP.dsub (FP.i2d x9) (FP.i2d t11))) := by
        have q := p260_3
        rw [show ((1 : Int32) - (1 : Int32)) = (0 : Int32) from by decide] at q
        exact q
      have f263 : Fld Z h260 b241 kS0 "content" "D" (.double (0 : UInt64)) := by
        have q := f262
        rw [if_pos rfl] at q
        exact q
      -- pc 133: Block.size by rm_size
      obtain ⟨cq264, kq264, q264a, q264b, q264c⟩ := isOf hZ e260 p260_0
      obtain ⟨_, _, ⟨T264, L264, k264, n264⟩, -, X264, ⟨Lc264, hQ264, l264, y264, z264⟩, st264⟩ := X260.virtualBack hx (y := (⟨kS0, "size", "()I"⟩ : MethodName)) (z := (⟨kS0, "size", "()I"⟩ : MethodName)) hown (mvT hZ (wd hw 37 rfl)) (mvT hZ (wd hw 38 rfl)) (notFace_of_selects (args := #[]) (mvT hZ (wd hw 40 rfl))) (mvT hZ (wd hw 40 rfl)) (mvT hZ (wd hw 39 rfl)) (by decide) (backOf (W := 0) (rm_size l Z a0 hw [] b241 (0 : Int32) h260 n0 (by omega) f261) hZ (wd hw 41 rfl) (wd hw 3 rfl) (by decide) (by decide)) q264a q264c (g := (mkF m 133 (la14 p0 p1 p2 p3 p4 p5 r6 r7 r8 x9 x10 t11 (p3 + (1 : Int32)) (p4 - (1 : Int32)) b241) [(.ref b241)])) rfl (by rw [hml]; rfl) (Steps.refl _) (argsL := []) (rest := []) (lenOf pd_3 rfl) rfl (by show 2 * 0 + _ ≤ _; exact Nat.le_of_eq rfl) (hb hby at_133) (fun _ _ => ⟨rfl, e260, (by decide : 5 + 0 ≤ _), (by decide : 39 + 0 ≤ _)⟩)
      dsimp only [Pt.U, Pt.locs, Pt.cells, Pt.slots] at X264 l264 y264 z264 st264 hQ264
      subst l264 y264 z264
      obtain ⟨rfl, N264q, e264⟩ := hQ264
      have N264 := Fr.app N260 N264q
      -- pc 140: Block.content by rm_content
      obtain ⟨cq265, kq265, q265a, q265b, q265c⟩ := isOf hZ e264 p260_0
      obtain ⟨_, _, ⟨T265, L265, k265, n265⟩, -, X265, ⟨Lc265, hQ265, l265, y265, z265⟩, st265⟩ := X264.virtualBack hx (y := (⟨kS0, "content", "()D"⟩ : MethodName)) (z := (⟨kS0, "content", "()D"⟩ : MethodName)) hown (mvT hZ (wd hw 42 rfl)) (mvT hZ (wd hw 43 rfl)) (notFace_of_selects (args := #[]) (mvT hZ (wd hw 45 rfl))) (mvT hZ (wd hw 45 rfl)) (mvT hZ (wd hw 44 rfl)) (by decide) (backOf (W := 0) (rm_content l Z a0 hw [] b241 (0 : UInt64) h260 n0 (by omega) f263) hZ (wd hw 46 rfl) (wd hw 3 rfl) (by decide) (by decide)) q265a q265c (g := (mkF m 140 (la15 p0 p1 p2 p3 p4 p5 r6 r7 r8 x9 x10 t11 (p3 + (1 : Int32)) (p4 - (1 : Int32)) b241 (0 : Int32)) [(.ref b241)])) rfl (by rw [hml]; rfl) (Steps.refl _) (argsL := []) (rest := []) (lenOf pd_4 rfl) rfl (by show 2 * 0 + _ ≤ _; exact Nat.le_of_eq rfl) (hb hby at_140) (fun _ _ => ⟨rfl, e264, (by decide : 5 + 0 ≤ _), (by decide : 39 + 0 ≤ _)⟩)
      dsimp only [Pt.U, Pt.locs, Pt.cells, Pt.slots] at X265 l265 y265 z265 st265 hQ265
      subst l265 y265 z265
      obtain ⟨rfl, N265q, e265⟩ := hQ265
      have N265 := Fr.app N264 N265q
      obtain ⟨fs, hr, hrun, hended, hW, hsame⟩ := X265.leave (v := some (.int 1)) (fun h => by rw [Bd.returns] at h; cases h)
      refine ⟨_, _, pre258 _ ?_, hrun, hended, _, _, rfl, ?_, ⟨_, rfl⟩, hW, hsame.mono (by decide) (by decide)⟩
      · show GO p e below T250 (mkF m 123 (la14 p0 p1 p2 p3 p4 p5 r6 r7 r8 x9 x10 t11 (p3 + (1 : Int32)) (p4 - (1 : Int32)) b241) []) _
        refine XS.aload X250.here hx rfl (hb hby at_123) rfl rfl ?_
        show GO p e below T250 (mkF m 125 (la14 p0 p1 p2 p3 p4 p5 r6 r7 r8 x9 x10 t11 (p3 + (1 : Int32)) (p4 - (1 : Int32)) b241) [(.ref b241)]) _
        refine XS.iload X250.here hx rfl (hb hby at_125) rfl ?_
        show GO p e below T250 (mkF m 127 (la14 p0 p1 p2 p3 p4 p5 r6 r7 r8 x9 x10 t11 (p3 + (1 : Int32)) (p4 - (1 : Int32)) b241) [(.int t11), (.ref b241)]) _
        refine XS.i2dS X250.here hx rfl (hb hby at_127) rfl rfl ?_
        show GO p e below T250 (mkF m 128 (la14 p0 p1 p2 p3 p4 p5 r6 r7 r8 x9 x10 t11 (p3 + (1 : Int32)) (p4 - (1 : Int32)) b241) [(.double (FP.i2d t11)), (.ref b241)]) _
        refine st260.trans ?_
        show GO p e below T260 (mkF m 131 (la14 p0 p1 p2 p3 p4 p5 r6 r7 r8 x9 x10 t11 (p3 + (1 : Int32)) (p4 - (1 : Int32)) b241) []) _
        refine XS.aload X260.here hx rfl (hb hby at_131) rfl rfl ?_
        show GO p e below T260 (mkF m 133 (la14 p0 p1 p2 p3 p4 p5 r6 r7 r8 x9 x10 t11 (p3 + (1 : Int32)) (p4 - (1 : Int32)) b241) [(.ref b241)]) _
        refine st264.trans ?_
        show GO p e below T264 (mkF m 136 (la14 p0 p1 p2 p3 p4 p5 r6 r7 r8 x9 x10 t11 (p3 + (1 : Int32)) (p4 - (1 : Int32)) b241) [(.int 0)]) _
        refine XS.istore X264.here hx rfl (hb hby at_136) rfl (l' := (la15 p0 p1 p2 p3 p4 p5 r6 r7 r8 x9 x10 t11 (p3 + (1 : Int32)) (p4 - (1 : Int32)) b241 (0 : Int32))) rfl ?_
        show GO p e below T264 (mkF m 138 (la15 p0 p1 p2 p3 p4 p5 r6 r7 r8 x9 x10 t11 (p3 + (1 : Int32)) (p4 - (1 : Int32)) b241 (0 : Int32)) []) _
        refine XS.aload X264.here hx rfl (hb hby at_138) rfl rfl ?_
        show GO p e below T264 (mkF m 140 (la15 p0 p1 p2 p3 p4 p5 r6 r7 r8 x9 x10 t11 (p3 + (1 : Int32)) (p4 - (1 : Int32)) b241 (0 : Int32)) [(.ref b241)]) _
        refine st265.trans ?_
        show GO p e below T265 (mkF m 143 (la15 p0 p1 p2 p3 p4 p5 r6 r7 r8 x9 x10 t11 (p3 + (1 : Int32)) (p4 - (1 : Int32)) b241 (0 : Int32)) [(.double (0 : UInt64))]) _
        refine XS.dstore X265.here hx rfl (hb hby at_143) rfl (l' := (la16 p0 p1 p2 p3 p4 p5 r6 r7 r8 x9 x10 t11 (p3 + (1 : Int32)) (p4 - (1 : Int32)) b241 (0 : Int32) (0 : UInt64))) rfl ?_
        show GO p e below T265 (mkF m 145 (la16 p0 p1 p2 p3 p4 p5 r6 r7 r8 x9 x10 t11 (p3 + (1 : Int32)) (p4 - (1 : Int32)) b241 (0 : Int32) (0 : UInt64)) []) _
        refine XS.iload X265.here hx rfl (hb hby at_145) rfl ?_
        show GO p e below T265 (mkF m 147 (la16 p0 p1 p2 p3 p4 p5 r6 r7 r8 x9 x10 t11 (p3 + (1 : Int32)) (p4 - (1 : Int32)) b241 (0 : Int32) (0 : UInt64)) [(.int t11)]) _
        refine XS.iload X265.here hx rfl (hb hby at_147) rfl ?_
        show GO p e below T265 (mkF m 149 (la16 p0 p1 p2 p3 p4 p5 r6 r7 r8 x9 x10 t11 (p3 + (1 : Int32)) (p4 - (1 : Int32)) b241 (0 : Int32) (0 : UInt64)) [(.int x9), (.int t11)]) _
        refine XS.icmpNo X265.here hx rfl (hb hby at_149) rfl (teq (hb259 : t11 = x9)).2 ?_
        show GO p e below T265 (mkF m 152 (la16 p0 p1 p2 p3 p4 p5 r6 r7 r8 x9 x10 t11 (p3 + (1 : Int32)) (p4 - (1 : Int32)) b241 (0 : Int32) (0 : UInt64)) []) _
        refine XS.iload X265.here hx rfl (hb hby at_152) rfl ?_
        show GO p e below T265 (mkF m 154 (la16 p0 p1 p2 p3 p4 p5 r6 r7 r8 x9 x10 t11 (p3 + (1 : Int32)) (p4 - (1 : Int32)) b241 (0 : Int32) (0 : UInt64)) [(.int r6)]) _
        refine XS.ifNo X265.here hx rfl (hb hby at_154) rfl ((if0 _ _).trans (teq (hb257 : r6 = (0 : Int32))).2) ?_
        show GO p e below T265 (mkF m 157 (la16 p0 p1 p2 p3 p4 p5 r6 r7 r8 x9 x10 t11 (p3 + (1 : Int32)) (p4 - (1 : Int32)) b241 (0 : Int32) (0 : UInt64)) []) _
        refine XS.iload X265.here hx rfl (hb hby at_157) rfl ?_
        show GO p e below T265 (mkF m 159 (la16 p0 p1 p2 p3 p4 p5 r6 r7 r8 x9 x10 t11 (p3 + (1 : Int32)) (p4 - (1 : Int32)) b241 (0 : Int32) (0 : UInt64)) [(.int 0)]) _
        refine XS.ifNo X265.here hx rfl (hb hby at_159) rfl ((if0 _ _).trans (teq (rfl : (0 : Int32) = (0 : Int32))).2) ?_
        show GO p e below T265 (mkF m 162 (la16 p0 p1 p2 p3 p4 p5 r6 r7 r8 x9 x10 t11 (p3 + (1 : Int32)) (p4 - (1 : Int32)) b241 (0 : Int32) (0 : UInt64)) []) _
        refine XS.dload X265.here hx rfl (hb hby at_162) rfl ?_
        show GO p e below T265 (mkF m 164 (la16 p0 p1 p2 p3 p4 p5 r6 r7 r8 x9 x10 t11 (p3 + (1 : Int32)) (p4 - (1 : Int32)) b241 (0 : Int32) (0 : UInt64)) [(.double (0 : UInt64))]) _
        refine XS.dconst0 X265.here hx rfl (hb hby at_164) rfl ?_
        show GO p e below T265 (mkF m 165 (la16 p0 p1 p2 p3 p4 p5 r6 r7 r8 x9 x10 t11 (p3 + (1 : Int32)) (p4 - (1 : Int32)) b241 (0 : Int32) (0 : UInt64)) [(.double FP.dconst0), (.double (0 : UInt64))]) _
        refine XS.dcmpS X265.here hx rfl (hb hby at_165) rfl (show cmpValue (FP.dcmp (0 : UInt64) FP.dconst0) .l = (0 : Int32) from (by decide +kernel)) ?_
        show GO p e below T265 (mkF m 166 (la16 p0 p1 p2 p3 p4 p5 r6 r7 r8 x9 x10 t11 (p3 + (1 : Int32)) (p4 - (1 : Int32)) b241 (0 : Int32) (0 : UInt64)) [(.int 0)]) _
        refine XS.ifNo X265.here hx rfl (hb hby at_166) rfl ((if0 _ _).trans (teq (rfl : (0 : Int32) = (0 : Int32))).2) ?_
        show GO p e below T265 (mkF m 169 (la16 p0 p1 p2 p3 p4 p5 r6 r7 r8 x9 x10 t11 (p3 + (1 : Int32)) (p4 - (1 : Int32)) b241 (0 : Int32) (0 : UInt64)) []) _
        refine XS.iconst X265.here hx rfl (hb hby at_169) ?_
        show GO p e below T265 (mkF m 170 (la16 p0 p1 p2 p3 p4 p5 r6 r7 r8 x9 x10 t11 (p3 + (1 : Int32)) (p4 - (1 : Int32)) b241 (0 : Int32) (0 : UInt64)) [(.int 1)]) _
        refine XS.goto X265.here hx rfl (pc0 := 170) (pc' := 174) rfl (hb hby at_170) (by decide) (by decide) ?_
        show GO p e below T265 (mkF m 174 (la16 p0 p1 p2 p3 p4 p5 r6 r7 r8 x9 x10 t11 (p3 + (1 : Int32)) (p4 - (1 : Int32)) b241 (0 : Int32) (0 : UInt64)) [(.int 1)]) _
        exact retN X265 hx (t := .boolean) Bd.returns (by simp) (hb hby at_174) hr
      · show Qrm0 Z p0 p1 p2 p3 p4 p5 h0 n0 _ T265.heap _
        rw [e265]
        exact ⟨rfl, N265⟩
    · -- pc 128: Block.takeFromHead by rm_takep0
      obtain ⟨cq266, kq266, q266a, q266b, q266c⟩ := isOf hZ e250 p250_0
      obtain ⟨_, _, ⟨T266, L266, k266, n266⟩, -, X266, ⟨Lc266, hQ266, l266, y266, z266⟩, st266⟩ := X250.virtualBack hx (y := (⟨kS0, "takeFromHead", "(D)V"⟩ : MethodName)) (z := (⟨kS0, "takeFromHead", "(D)V"⟩ : MethodName)) hown (mvT hZ (wd hw 32 rfl)) (mvT hZ (wd hw 33 rfl)) (notFace_of_selects (args := #[]) (mvT hZ (wd hw 35 rfl))) (mvT hZ (wd hw 35 rfl)) (mvT hZ (wd hw 34 rfl)) (by decide) (backOf (W := 0) (rm_takep0 l Z a0 hw [] b241 (FP.i2d t11) (1 : Int32) (FP.i2d x9) (FP.i2d x9) t0_249 k0_249 ([(.int p3), (.int 0), (.int 0), (.int 0), (.int 0), (.int 0), (.int 0), (.int 0)]) t1_249 k1_249 ([(.int p4), (.int 0), (.int 0), (.int 0), (.int 0), (.int 0), (.int 0), (.int 0)]) t2_249 k2_249 ([(.double (FP.i2d x9)), (.double (0 : UInt64)), (.double (0 : UInt64)), (.double (0 : UInt64)), (.double (0 : UInt64)), (.double (0 : UInt64)), (.double (0 : UInt64)), (.double (0 : UInt64))]) t3_249 k3_249 ([(.int (nar .boolean r7)), (.int 0), (.int 0), (.int 0), (.int 0), (.int 0), (.int 0), (.int 0)]) h250 n0 (by omega) p250_0 p250_1 p250_2 f255 p250_4 f251 p250_6 f252 p250_8 f253 p250_10 f254 rfl rfl rfl rfl (by first | assumption | decide | omega | exact neN (by omega)) (by first | assumption | decide | omega | exact neN (by omega)) (by first | assumption | decide | omega | exact neN (by omega)) (by first | assumption | decide | omega | exact neN (by omega)) (by first | assumption | decide | omega | exact neN (by omega)) rfl (own_part ht0 ht1 hx9b hb259) (own_nns hx9a hx9b ht0 ht1) (own_nns hx9a hx9b ht0 ht1) (by decide)) hZ (wd hw 36 rfl) (wd hw 3 rfl) (by decide) (by decide)) q266a q266c (g := (mkF m 128 (la14 p0 p1 p2 p3 p4 p5 r6 r7 r8 x9 x10 t11 (p3 + (1 : Int32)) (p4 - (1 : Int32)) b241) [(.double (FP.i2d t11)), (.ref b241)])) rfl (by rw [hml]; rfl) (Steps.refl _) (argsL := [(.double (FP.i2d t11))]) (rest := []) (lenOf pd_2 rfl) rfl (by show 2 * 0 + _ ≤ _; exact Nat.le_of_eq rfl) (hb hby at_128) (fun _ _ => ⟨rfl, e250, (by decide : 5 + 0 ≤ _), (by decide : 39 + 0 ≤ _)⟩)
      dsimp only [Pt.U, Pt.locs, Pt.cells, Pt.slots] at X266 l266 y266 z266 st266 hQ266
      subst l266 y266 z266
      obtain ⟨h266, e266⟩ : ∃ z, T266.heap = z := ⟨_, rfl⟩
      rw [e266] at hQ266
      obtain ⟨rfl, N266q, K266, p266_0, p266_1, p266_2, p266_3, p266_4, p266_5, p266_6, p266_7, p266_8, p266_9, p266_10, p266_11⟩ := hQ266
      have N266 := Fr.app N250 N266q
      have sz266 : h250.size ≤ h266.size := K266.1
      have lt266_0 := ltA p266_0.lt
      have lt266_5 := ltA p266_5.lt
      have lt266_7 := ltA p266_7.lt
      have lt266_9 := ltA p266_9.lt
      have lt266_11 := ltA p266_11.lt
      have f267 : Arv Z h266 t2_249 k2_249 .double (8 : Int32) [(.double (FP.dsub (FP.i2d x9) (FP.i2d t11))), (.double (0 : UInt64)), (.double (0 : UInt64)), (.double (0 : UInt64)), (.double (0 : UInt64)), (.double (0 : UInt64)), (.double (0 : UInt64)), (.double (0 : UInt64))] (.double (0 : UInt64)) := by
        have q := p266_9
        exact q
      have f268 : Fld Z h266 b241 kS0 "content" "D" (.double (FP.i2d (x9 - t11))) := by
        have q := p266_3
        rw [if_neg (by decide), own_sub1 hx9a hx9b ht0 ht1] at q
        exact q
      -- pc 133: Block.size by rm_size
      obtain ⟨cq269, kq269, q269a, q269b, q269c⟩ := isOf hZ e266 p266_0
      obtain ⟨_, _, ⟨T269, L269, k269, n269⟩, -, X269, ⟨Lc269, hQ269, l269, y269, z269⟩, st269⟩ := X266.virtualBack hx (y := (⟨kS0, "size", "()I"⟩ : MethodName)) (z := (⟨kS0, "size", "()I"⟩ : MethodName)) hown (mvT hZ (wd hw 37 rfl)) (mvT hZ (wd hw 38 rfl)) (notFace_of_selects (args := #[]) (mvT hZ (wd hw 40 rfl))) (mvT hZ (wd hw 40 rfl)) (mvT hZ (wd hw 39 rfl)) (by decide) (backOf (W := 0) (rm_size l Z a0 hw [] b241 (1 : Int32) h266 n0 (by omega) p266_2) hZ (wd hw 41 rfl) (wd hw 3 rfl) (by decide) (by decide)) q269a q269c (g := (mkF m 133 (la14 p0 p1 p2 p3 p4 p5 r6 r7 r8 x9 x10 t11 (p3 + (1 : Int32)) (p4 - (1 : Int32)) b241) [(.ref b241)])) rfl (by rw [hml]; rfl) (Steps.refl _) (argsL := []) (rest := []) (lenOf pd_3 rfl) rfl (by show 2 * 0 + _ ≤ _; exact Nat.le_of_eq rfl) (hb hby at_133) (fun _ _ => ⟨rfl, e266, (by decide : 5 + 0 ≤ _), (by decide : 39 + 0 ≤ _)⟩)
      dsimp only [Pt.U, Pt.locs, Pt.cells, Pt.slots] at X269 l269 y269 z269 st269 hQ269
      subst l269 y269 z269
      obtain ⟨rfl, N269q, e269⟩ := hQ269
      have N269 := Fr.app N266 N269q
      -- pc 140: Block.content by rm_content
      obtain ⟨cq270, kq270, q270a, q270b, q270c⟩ := isOf hZ e269 p266_0
      obtain ⟨_, _, ⟨T270, L270, k270, n270⟩, -, X270, ⟨Lc270, hQ270, l270, y270, z270⟩, st270⟩ := X269.virtualBack hx (y := (⟨kS0, "content", "()D"⟩ : MethodName)) (z := (⟨kS0, "content", "()D"⟩ : MethodName)) hown (mvT hZ (wd hw 42 rfl)) (mvT hZ (wd hw 43 rfl)) (notFace_of_selects (args := #[]) (mvT hZ (wd hw 45 rfl))) (mvT hZ (wd hw 45 rfl)) (mvT hZ (wd hw 44 rfl)) (by decide) (backOf (W := 0) (rm_content l Z a0 hw [] b241 (FP.i2d (x9 - t11)) h266 n0 (by omega) f268) hZ (wd hw 46 rfl) (wd hw 3 rfl) (by decide) (by decide)) q270a q270c (g := (mkF m 140 (la15 p0 p1 p2 p3 p4 p5 r6 r7 r8 x9 x10 t11 (p3 + (1 : Int32)) (p4 - (1 : Int32)) b241 (1 : Int32)) [(.ref b241)])) rfl (by rw [hml]; rfl) (Steps.refl _) (argsL := []) (rest := []) (lenOf pd_4 rfl) rfl (by show 2 * 0 + _ ≤ _; exact Nat.le_of_eq rfl) (hb hby at_140) (fun _ _ => ⟨rfl, e269, (by decide : 5 + 0 ≤ _), (by decide : 39 + 0 ≤ _)⟩)
      dsimp only [Pt.U, Pt.locs, Pt.cells, Pt.slots] at X270 l270 y270 z270 st270 hQ270
      subst l270 y270 z270
      obtain ⟨rfl, N270q, e270⟩ := hQ270
      have N270 := Fr.app N269 N270q
      -- pc 288: Block.headAgent by rm_headAgent0
      obtain ⟨cq271, kq271, q271a, q271b, q271c⟩ := isOf hZ e270 p266_0
      obtain ⟨_, _, ⟨T271, L271, k271, n271⟩, -, X271, ⟨Lc271, hQ271, l271, y271, z271⟩, st271⟩ := X270.virtualBack hx (y := (⟨kS0, "headAgent", "()I"⟩ : MethodName)) (z := (⟨kS0, "headAgent", "()I"⟩ : MethodName)) hown (mvT hZ (wd hw 47 rfl)) (mvT hZ (wd hw 48 rfl)) (notFace_of_selects (args := #[]) (mvT hZ (wd hw 50 rfl))) (mvT hZ (wd hw 50 rfl)) (mvT hZ (wd hw 49 rfl)) (by decide) (backOf (W := 0) (rm_headAgent0 l Z a0 hw [] b241 t0_249 k0_249 ([(.int p3), (.int 0), (.int 0), (.int 0), (.int 0), (.int 0), (.int 0), (.int 0)]) p3 h266 n0 (by omega) p266_4 p266_1 p266_5 rfl) hZ (wd hw 51 rfl) (wd hw 3 rfl) (by decide) (by decide)) q271a q271c (g := (mkF m 288 (la18 p0 p1 p2 p3 p4 p5 r6 r7 r8 x9 x10 t11 (p3 + (1 : Int32)) (p4 - (1 : Int32)) b241 (1 : Int32) (FP.i2d (x9 - t11)) x9 (1 : Int32)) [(.ref b241)])) rfl (by rw [hml]; rfl) (Steps.refl _) (argsL := []) (rest := []) (lenOf pd_3 rfl) rfl (by show 2 * 0 + _ ≤ _; exact Nat.le_of_eq rfl) (hb hby at_288) (fun _ _ => ⟨rfl, e270, (by decide : 5 + 0 ≤ _), (by decide : 39 + 0 ≤ _)⟩)
      dsimp only [Pt.U, Pt.locs, Pt.cells, Pt.slots] at X271 l271 y271 z271 st271 hQ271
      subst l271 y271 z271
      obtain ⟨rfl, N271q, e271⟩ := hQ271
      have N271 := Fr.app N270 N271q
      -- pc 297: Block.headLeg by rm_headLeg0
      obtain ⟨cq272, kq272, q272a, q272b, q272c⟩ := isOf hZ e271 p266_0
      obtain ⟨_, _, ⟨T272, L272, k272, n272⟩, -, X272, ⟨Lc272, hQ272, l272, y272, z272⟩, st272⟩ := X271.virtualBack hx (y := (⟨kS0, "headLeg", "()I"⟩ : MethodName)) (z := (⟨kS0, "headLeg", "()I"⟩ : MethodName)) hown (mvT hZ (wd hw 52 rfl)) (mvT hZ (wd hw 53 rfl)) (notFace_of_selects (args := #[]) (mvT hZ (wd hw 55 rfl))) (mvT hZ (wd hw 55 rfl)) (mvT hZ (wd hw 54 rfl)) (by decide) (backOf (W := 0) (rm_headLeg0 l Z a0 hw [] b241 t1_249 k1_249 ([(.int p4), (.int 0), (.int 0), (.int 0), (.int 0), (.int 0), (.int 0), (.int 0)]) p4 h266 n0 (by omega) p266_6 p266_1 p266_7 rfl) hZ (wd hw 56 rfl) (wd hw 3 rfl) (by decide) (by decide)) q272a q272c (g := (mkF m 297 (la18 p0 p1 p2 p3 p4 p5 r6 r7 r8 x9 x10 t11 (p3 + (1 : Int32)) (p4 - (1 : Int32)) b241 (1 : Int32) (FP.i2d (x9 - t11)) x9 (1 : Int32)) [(.ref b241)])) rfl (by rw [hml]; rfl) (Steps.refl _) (argsL := []) (rest := []) (lenOf pd_3 rfl) rfl (by show 2 * 0 + _ ≤ _; exact Nat.le_of_eq rfl) (hb hby at_297) (fun _ _ => ⟨rfl, e271, (by decide : 5 + 0 ≤ _), (by decide : 39 + 0 ≤ _)⟩)
      dsimp only [Pt.U, Pt.locs, Pt.cells, Pt.slots] at X272 l272 y272 z272 st272 hQ272
      subst l272 y272 z272
      obtain ⟨rfl, N272q, e272⟩ := hQ272
      have N272 := Fr.app N271 N272q
      -- pc 307: Block.headAmount by rm_headAmount0
      obtain ⟨cq273, kq273, q273a, q273b, q273c⟩ := isOf hZ e272 p266_0
      obtain ⟨_, _, ⟨T273, L273, k273, n273⟩, -, X273, ⟨Lc273, hQ273, l273, y273, z273⟩, st273⟩ := X272.virtualBack hx (y := (⟨kS0, "headAmount", "()D"⟩ : MethodName)) (z := (⟨kS0, "headAmount", "()D"⟩ : MethodName)) hown (mvT hZ (wd hw 57 rfl)) (mvT hZ (wd hw 58 rfl)) (notFace_of_selects (args := #[]) (mvT hZ (wd hw 60 rfl))) (mvT hZ (wd hw 60 rfl)) (mvT hZ (wd hw 59 rfl)) (by decide) (backOf (W := 0) (rm_headAmount0 l Z a0 hw [] b241 t2_249 k2_249 ([(.double (FP.dsub (FP.i2d x9) (FP.i2d t11))), (.double (0 : UInt64)), (.double (0 : UInt64)), (.double (0 : UInt64)), (.double (0 : UInt64)), (.double (0 : UInt64)), (.double (0 : UInt64)), (.double (0 : UInt64))]) (FP.dsub (FP.i2d x9) (FP.i2d t11)) h266 n0 (by omega) p266_8 p266_1 f267 rfl) hZ (wd hw 61 rfl) (wd hw 3 rfl) (by decide) (by decide)) q273a q273c (g := (mkF m 307 (la18 p0 p1 p2 p3 p4 p5 r6 r7 r8 x9 x10 t11 (p3 + (1 : Int32)) (p4 - (1 : Int32)) b241 (1 : Int32) (FP.i2d (x9 - t11)) x9 (1 : Int32)) [(.ref b241)])) rfl (by rw [hml]; rfl) (Steps.refl _) (argsL := []) (rest := []) (lenOf pd_4 rfl) rfl (by show 2 * 0 + _ ≤ _; exact Nat.le_of_eq rfl) (hb hby at_307) (fun _ _ => ⟨rfl, e272, (by decide : 5 + 0 ≤ _), (by decide : 39 + 0 ≤ _)⟩)
      dsimp only [Pt.U, Pt.locs, Pt.cells, Pt.slots] at X273 l273 y273 z273 st273 hQ273
      subst l273 y273 z273
      obtain ⟨rfl, N273q, e273⟩ := hQ273
      have N273 := Fr.app N272 N273q
      -- pc 322: Block.headIsRear by rm_headIsRear0
      obtain ⟨cq274, kq274, q274a, q274b, q274c⟩ := isOf hZ e273 p266_0
      obtain ⟨_, _, ⟨T274, L274, k274, n274⟩, -, X274, ⟨Lc274, hQ274, l274, y274, z274⟩, st274⟩ := X273.virtualBack hx (y := (⟨kS0, "headIsRear", "()Z"⟩ : MethodName)) (z := (⟨kS0, "headIsRear", "()Z"⟩ : MethodName)) hown (mvT hZ (wd hw 62 rfl)) (mvT hZ (wd hw 63 rfl)) (notFace_of_selects (args := #[]) (mvT hZ (wd hw 65 rfl))) (mvT hZ (wd hw 65 rfl)) (mvT hZ (wd hw 64 rfl)) (by decide) (backOf (W := 0) (rm_headIsRear0 l Z a0 hw [] b241 t3_249 k3_249 ([(.int (nar .boolean r7)), (.int 0), (.int 0), (.int 0), (.int 0), (.int 0), (.int 0), (.int 0)]) (nar .boolean r7) h266 n0 (by omega) p266_10 p266_1 p266_11 rfl (by rw [hbr7, hbr7])) hZ (wd hw 66 rfl) (wd hw 3 rfl) (by decide) (by decide)) q274a q274c (g := (mkF m 322 (la18 p0 p1 p2 p3 p4 p5 r6 r7 r8 x9 x10 t11 (p3 + (1 : Int32)) (p4 - (1 : Int32)) b241 (1 : Int32) (FP.i2d (x9 - t11)) x9 (1 : Int32)) [(.ref b241)])) rfl (by rw [hml]; rfl) (Steps.refl _) (argsL := []) (rest := []) (lenOf pd_5 rfl) rfl (by show 2 * 0 + _ ≤ _; exact Nat.le_of_eq rfl) (hb hby at_322) (fun _ _ => ⟨rfl, e273, (by decide : 5 + 0 ≤ _), (by decide : 39 + 0 ≤ _)⟩)
      dsimp only [Pt.U, Pt.locs, Pt.cells, Pt.slots] at X274 l274 y274 z274 st274 hQ274
      subst l274 y274 z274
      obtain ⟨rfl, N274q, e274⟩ := hQ274
      have N274 := Fr.app N273 N274q
      obtain ⟨fs, hr, hrun, hended, hW, hsame⟩ := X274.leave (v := some (.int 1)) (fun h => by rw [Bd.returns] at h; cases h)
      refine ⟨_, _, pre258 _ ?_, hrun, hended, _, _, rfl, ?_, ⟨_, rfl⟩, hW, hsame.mono (by decide) (by decide)⟩
      · show GO p e below T250 (mkF m 123 (la14 p0 p1 p2 p3 p4 p5 r6 r7 r8 x9 x10 t11 (p3 + (1 : Int32)) (p4 - (1 : Int32)) b241) []) _
        refine XS.aload X250.here hx rfl (hb hby at_123) rfl rfl ?_
        show GO p e below T250 (mkF m 125 (la14 p0 p1 p2 p3 p4 p5 r6 r7 r8 x9 x10 t11 (p3 + (1 : Int32)) (p4 - (1 : Int32)) b241) [(.ref b241)]) _
        refine XS.iload X250.here hx rfl (hb hby at_125) rfl ?_
        show GO p e below T250 (mkF m 127 (la14 p0 p1 p2 p3 p4 p5 r6 r7 r8 x9 x10 t11 (p3 + (1 : Int32)) (p4 - (1 : Int32)) b241) [(.int t11), (.ref b241)]) _
        refine XS.i2dS X250.here hx rfl (hb hby at_127) rfl rfl ?_
        show GO p e below T250 (mkF m 128 (la14 p0 p1 p2 p3 p4 p5 r6 r7 r8 x9 x10 t11 (p3 + (1 : Int32)) (p4 - (1 : Int32)) b241) [(.double (FP.i2d t11)), (.ref b241)]) _
        refine st266.trans ?_
        show GO p e below T266 (mkF m 131 (la14 p0 p1 p2 p3 p4 p5 r6 r7 r8 x9 x10 t11 (p3 + (1 : Int32)) (p4 - (1 : Int32)) b241) []) _
        refine XS.aload X266.here hx rfl (hb hby at_131) rfl rfl ?_
        show GO p e below T266 (mkF m 133 (la14 p0 p1 p2 p3 p4 p5 r6 r7 r8 x9 x10 t11 (p3 + (1 : Int32)) (p4 - (1 : Int32)) b241) [(.ref b241)]) _
        refine st269.trans ?_
        show GO p e below T269 (mkF m 136 (la14 p0 p1 p2 p3 p4 p5 r6 r7 r8 x9 x10 t11 (p3 + (1 : Int32)) (p4 - (1 : Int32)) b241) [(.int 1)]) _
        refine XS.istore X269.here hx rfl (hb hby at_136) rfl (l' := (la15 p0 p1 p2 p3 p4 p5 r6 r7 r8 x9 x10 t11 (p3 + (1 : Int32)) (p4 - (1 : Int32)) b241 (1 : Int32))) rfl ?_
        show GO p e below T269 (mkF m 138 (la15 p0 p1 p2 p3 p4 p5 r6 r7 r8 x9 x10 t11 (p3 + (1 : Int32)) (p4 - (1 : Int32)) b241 (1 : Int32)) []) _
        refine XS.aload X269.here hx rfl (hb hby at_138) rfl rfl ?_
        show GO p e below T269 (mkF m 140 (la15 p0 p1 p2 p3 p4 p5 r6 r7 r8 x9 x10 t11 (p3 + (1 : Int32)) (p4 - (1 : Int32)) b241 (1 : Int32)) [(.ref b241)]) _
        refine st270.trans ?_
        show GO p e below T270 (mkF m 143 (la15 p0 p1 p2 p3 p4 p5 r6 r7 r8 x9 x10 t11 (p3 + (1 : Int32)) (p4 - (1 : Int32)) b241 (1 : Int32)) [(.double (FP.i2d (x9 - t11)))]) _
        refine XS.dstore X270.here hx rfl (hb hby at_143) rfl (l' := (la16 p0 p1 p2 p3 p4 p5 r6 r7 r8 x9 x10 t11 (p3 + (1 : Int32)) (p4 - (1 : Int32)) b241 (1 : Int32) (FP.i2d (x9 - t11)))) rfl ?_
        show GO p e below T270 (mkF m 145 (la16 p0 p1 p2 p3 p4 p5 r6 r7 r8 x9 x10 t11 (p3 + (1 : Int32)) (p4 - (1 : Int32)) b241 (1 : Int32) (FP.i2d (x9 - t11))) []) _
        refine XS.iload X270.here hx rfl (hb hby at_145) rfl ?_
        show GO p e below T270 (mkF m 147 (la16 p0 p1 p2 p3 p4 p5 r6 r7 r8 x9 x10 t11 (p3 + (1 : Int32)) (p4 - (1 : Int32)) b241 (1 : Int32) (FP.i2d (x9 - t11))) [(.int t11)]) _
        refine XS.iload X270.here hx rfl (hb hby at_147) rfl ?_
        show GO p e below T270 (mkF m 149 (la16 p0 p1 p2 p3 p4 p5 r6 r7 r8 x9 x10 t11 (p3 + (1 : Int32)) (p4 - (1 : Int32)) b241 (1 : Int32) (FP.i2d (x9 - t11))) [(.int x9), (.int t11)]) _
        refine XS.icmpYes X270.here hx rfl (pc0 := 149) (pc' := 238) rfl (hb hby at_149) rfl (feq (hb259 : ¬ (t11 = x9))).2 (by decide) (by decide) ?_
        show GO p e below T270 (mkF m 238 (la16 p0 p1 p2 p3 p4 p5 r6 r7 r8 x9 x10 t11 (p3 + (1 : Int32)) (p4 - (1 : Int32)) b241 (1 : Int32) (FP.i2d (x9 - t11))) []) _
        refine XS.iload X270.here hx rfl (hb hby at_238) rfl ?_
        show GO p e below T270 (mkF m 240 (la16 p0 p1 p2 p3 p4 p5 r6 r7 r8 x9 x10 t11 (p3 + (1 : Int32)) (p4 - (1 : Int32)) b241 (1 : Int32) (FP.i2d (x9 - t11))) [(.int r6)]) _
        refine XS.ifYes X270.here hx rfl (pc0 := 240) (pc' := 251) rfl (hb hby at_240) rfl ((if0 _ _).trans (teq (hb257 : r6 = (0 : Int32))).1) (by decide) (by decide) ?_
        show GO p e below T270 (mkF m 251 (la16 p0 p1 p2 p3 p4 p5 r6 r7 r8 x9 x10 t11 (p3 + (1 : Int32)) (p4 - (1 : Int32)) b241 (1 : Int32) (FP.i2d (x9 - t11))) []) _
        refine XS.iload X270.here hx rfl (hb hby at_251) rfl ?_
        show GO p e below T270 (mkF m 253 (la16 p0 p1 p2 p3 p4 p5 r6 r7 r8 x9 x10 t11 (p3 + (1 : Int32)) (p4 - (1 : Int32)) b241 (1 : Int32) (FP.i2d (x9 - t11))) [(.int x9)]) _
        refine XS.istore X270.here hx rfl (hb hby at_253) rfl (l' := (la17 p0 p1 p2 p3 p4 p5 r6 r7 r8 x9 x10 t11 (p3 + (1 : Int32)) (p4 - (1 : Int32)) b241 (1 : Int32) (FP.i2d (x9 - t11)) x9)) rfl ?_
        show GO p e below T270 (mkF m 255 (la17 p0 p1 p2 p3 p4 p5 r6 r7 r8 x9 x10 t11 (p3 + (1 : Int32)) (p4 - (1 : Int32)) b241 (1 : Int32) (FP.i2d (x9 - t11)) x9) []) _
        refine XS.iload X270.here hx rfl (hb hby at_255) rfl ?_
        show GO p e below T270 (mkF m 257 (la17 p0 p1 p2 p3 p4 p5 r6 r7 r8 x9 x10 t11 (p3 + (1 : Int32)) (p4 - (1 : Int32)) b241 (1 : Int32) (FP.i2d (x9 - t11)) x9) [(.int r6)]) _
        refine XS.ifYes X270.here hx rfl (pc0 := 257) (pc' := 264) rfl (hb hby at_257) rfl ((if0 _ _).trans (teq (hb257 : r6 = (0 : Int32))).1) (by decide) (by decide) ?_
        show GO p e below T270 (mkF m 264 (la17 p0 p1 p2 p3 p4 p5 r6 r7 r8 x9 x10 t11 (p3 + (1 : Int32)) (p4 - (1 : Int32)) b241 (1 : Int32) (FP.i2d (x9 - t11)) x9) []) _
        refine XS.iconst X270.here hx rfl (hb hby at_264) ?_
        show GO p e below T270 (mkF m 265 (la17 p0 p1 p2 p3 p4 p5 r6 r7 r8 x9 x10 t11 (p3 + (1 : Int32)) (p4 - (1 : Int32)) b241 (1 : Int32) (FP.i2d (x9 - t11)) x9) [(.int 1)]) _
        refine XS.istore X270.here hx rfl (hb hby at_265) rfl (l' := (la18 p0 p1 p2 p3 p4 p5 r6 r7 r8 x9 x10 t11 (p3 + (1 : Int32)) (p4 - (1 : Int32)) b241 (1 : Int32) (FP.i2d (x9 - t11)) x9 (1 : Int32))) rfl ?_
        show GO p e below T270 (mkF m 267 (la18 p0 p1 p2 p3 p4 p5 r6 r7 r8 x9 x10 t11 (p3 + (1 : Int32)) (p4 - (1 : Int32)) b241 (1 : Int32) (FP.i2d (x9 - t11)) x9 (1 : Int32)) []) _
        refine XS.iload X270.here hx rfl (hb hby at_267) rfl ?_
        show GO p e below T270 (mkF m 269 (la18 p0 p1 p2 p3 p4 p5 r6 r7 r8 x9 x10 t11 (p3 + (1 : Int32)) (p4 - (1 : Int32)) b241 (1 : Int32) (FP.i2d (x9 - t11)) x9 (1 : Int32)) [(.int 1)]) _
        refine XS.iload X270.here hx rfl (hb hby at_269) rfl ?_
        show GO p e below T270 (mkF m 271 (la18 p0 p1 p2 p3 p4 p5 r6 r7 r8 x9 x10 t11 (p3 + (1 : Int32)) (p4 - (1 : Int32)) b241 (1 : Int32) (FP.i2d (x9 - t11)) x9 (1 : Int32)) [(.int 1), (.int 1)]) _
        refine XS.icmpNo X270.here hx rfl (hb hby at_271) rfl (teq (rfl : (1 : Int32) = (1 : Int32))).2 ?_
        show GO p e below T270 (mkF m 274 (la18 p0 p1 p2 p3 p4 p5 r6 r7 r8 x9 x10 t11 (p3 + (1 : Int32)) (p4 - (1 : Int32)) b241 (1 : Int32) (FP.i2d (x9 - t11)) x9 (1 : Int32)) []) _
        refine XS.dload X270.here hx rfl (hb hby at_274) rfl ?_
        show GO p e below T270 (mkF m 276 (la18 p0 p1 p2 p3 p4 p5 r6 r7 r8 x9 x10 t11 (p3 + (1 : Int32)) (p4 - (1 : Int32)) b241 (1 : Int32) (FP.i2d (x9 - t11)) x9 (1 : Int32)) [(.double (FP.i2d (x9 - t11)))]) _
        refine XS.iload X270.here hx rfl (hb hby at_276) rfl ?_
        show GO p e below T270 (mkF m 278 (la18 p0 p1 p2 p3 p4 p5 r6 r7 r8 x9 x10 t11 (p3 + (1 : Int32)) (p4 - (1 : Int32)) b241 (1 : Int32) (FP.i2d (x9 - t11)) x9 (1 : Int32)) [(.int x9), (.double (FP.i2d (x9 - t11)))]) _
        refine XS.iload X270.here hx rfl (hb hby at_278) rfl ?_
        show GO p e below T270 (mkF m 280 (la18 p0 p1 p2 p3 p4 p5 r6 r7 r8 x9 x10 t11 (p3 + (1 : Int32)) (p4 - (1 : Int32)) b241 (1 : Int32) (FP.i2d (x9 - t11)) x9 (1 : Int32)) [(.int t11), (.int x9), (.double (FP.i2d (x9 - t11)))]) _
        refine XS.isub X270.here hx rfl (hb hby at_280) rfl ?_
        show GO p e below T270 (mkF m 281 (la18 p0 p1 p2 p3 p4 p5 r6 r7 r8 x9 x10 t11 (p3 + (1 : Int32)) (p4 - (1 : Int32)) b241 (1 : Int32) (FP.i2d (x9 - t11)) x9 (1 : Int32)) [(.int (x9 - t11)), (.double (FP.i2d (x9 - t11)))]) _
        refine XS.i2dS X270.here hx rfl (hb hby at_281) rfl rfl ?_
        show GO p e below T270 (mkF m 282 (la18 p0 p1 p2 p3 p4 p5 r6 r7 r8 x9 x10 t11 (p3 + (1 : Int32)) (p4 - (1 : Int32)) b241 (1 : Int32) (FP.i2d (x9 - t11)) x9 (1 : Int32)) [(.double (FP.i2d (x9 - t11))), (.double (FP.i2d (x9 - t11)))]) _
        refine XS.dcmpS X270.here hx rfl (hb hby at_282) rfl (show cmpValue (FP.dcmp (FP.i2d (x9 - t11)) (FP.i2d (x9 - t11))) .l = (0 : Int32) from (own_ceq _)) ?_
        show GO p e below T270 (mkF m 283 (la18 p0 p1 p2 p3 p4 p5 r6 r7 r8 x9 x10 t11 (p3 + (1 : Int32)) (p4 - (1 : Int32)) b241 (1 : Int32) (FP.i2d (x9 - t11)) x9 (1 : Int32)) [(.int 0)]) _
        refine XS.ifNo X270.here hx rfl (hb hby at_283) rfl ((if0 _ _).trans (teq (rfl : (0 : Int32) = (0 : Int32))).2) ?_
        show GO p e below T270 (mkF m 286 (la18 p0 p1 p2 p3 p4 p5 r6 r7 r8 x9 x10 t11 (p3 + (1 : Int32)) (p4 - (1 : Int32)) b241 (1 : Int32) (FP.i2d (x9 - t11)) x9 (1 : Int32)) []) _
        refine XS.aload X270.here hx rfl (hb hby at_286) rfl rfl ?_
        show GO p e below T270 (mkF m 288 (la18 p0 p1 p2 p3 p4 p5 r6 r7 r8 x9 x10 t11 (p3 + (1 : Int32)) (p4 - (1 : Int32)) b241 (1 : Int32) (FP.i2d (x9 - t11)) x9 (1 : Int32)) [(.ref b241)]) _
        refine st271.trans ?_
        show GO p e below T271 (mkF m 291 (la18 p0 p1 p2 p3 p4 p5 r6 r7 r8 x9 x10 t11 (p3 + (1 : Int32)) (p4 - (1 : Int32)) b241 (1 : Int32) (FP.i2d (x9 - t11)) x9 (1 : Int32)) [(.int p3)]) _
        refine XS.iloadN X271.here hx rfl (hb hby at_291) rfl ?_
        show GO p e below T271 (mkF m 292 (la18 p0 p1 p2 p3 p4 p5 r6 r7 r8 x9 x10 t11 (p3 + (1 : Int32)) (p4 - (1 : Int32)) b241 (1 : Int32) (FP.i2d (x9 - t11)) x9 (1 : Int32)) [(.int p3), (.int p3)]) _
        refine XS.icmpNo X271.here hx rfl (hb hby at_292) rfl (teq (rfl : p3 = p3)).2 ?_
        show GO p e below T271 (mkF m 295 (la18 p0 p1 p2 p3 p4 p5 r6 r7 r8 x9 x10 t11 (p3 + (1 : Int32)) (p4 - (1 : Int32)) b241 (1 : Int32) (FP.i2d (x9 - t11)) x9 (1 : Int32)) []) _
        refine XS.aload X271.here hx rfl (hb hby at_295) rfl rfl ?_
        show GO p e below T271 (mkF m 297 (la18 p0 p1 p2 p3 p4 p5 r6 r7 r8 x9 x10 t11 (p3 + (1 : Int32)) (p4 - (1 : Int32)) b241 (1 : Int32) (FP.i2d (x9 - t11)) x9 (1 : Int32)) [(.ref b241)]) _
        refine st272.trans ?_
        show GO p e below T272 (mkF m 300 (la18 p0 p1 p2 p3 p4 p5 r6 r7 r8 x9 x10 t11 (p3 + (1 : Int32)) (p4 - (1 : Int32)) b241 (1 : Int32) (FP.i2d (x9 - t11)) x9 (1 : Int32)) [(.int p4)]) _
        refine XS.iload X272.here hx rfl (hb hby at_300) rfl ?_
        show GO p e below T272 (mkF m 302 (la18 p0 p1 p2 p3 p4 p5 r6 r7 r8 x9 x10 t11 (p3 + (1 : Int32)) (p4 - (1 : Int32)) b241 (1 : Int32) (FP.i2d (x9 - t11)) x9 (1 : Int32)) [(.int p4), (.int p4)]) _
        refine XS.icmpNo X272.here hx rfl (hb hby at_302) rfl (teq (rfl : p4 = p4)).2 ?_
        show GO p e below T272 (mkF m 305 (la18 p0 p1 p2 p3 p4 p5 r6 r7 r8 x9 x10 t11 (p3 + (1 : Int32)) (p4 - (1 : Int32)) b241 (1 : Int32) (FP.i2d (x9 - t11)) x9 (1 : Int32)) []) _
        refine XS.aload X272.here hx rfl (hb hby at_305) rfl rfl ?_
        show GO p e below T272 (mkF m 307 (la18 p0 p1 p2 p3 p4 p5 r6 r7 r8 x9 x10 t11 (p3 + (1 : Int32)) (p4 - (1 : Int32)) b241 (1 : Int32) (FP.i2d (x9 - t11)) x9 (1 : Int32)) [(.ref b241)]) _
        refine st273.trans ?_
        show GO p e below T273 (mkF m 310 (la18 p0 p1 p2 p3 p4 p5 r6 r7 r8 x9 x10 t11 (p3 + (1 : Int32)) (p4 - (1 : Int32)) b241 (1 : Int32) (FP.i2d (x9 - t11)) x9 (1 : Int32)) [(.double (FP.dsub (FP.i2d x9) (FP.i2d t11)))]) _
        refine XS.iload X273.here hx rfl (hb hby at_310) rfl ?_
        show GO p e below T273 (mkF m 312 (la18 p0 p1 p2 p3 p4 p5 r6 r7 r8 x9 x10 t11 (p3 + (1 : Int32)) (p4 - (1 : Int32)) b241 (1 : Int32) (FP.i2d (x9 - t11)) x9 (1 : Int32)) [(.int x9), (.double (FP.dsub (FP.i2d x9) (FP.i2d t11)))]) _
        refine XS.iload X273.here hx rfl (hb hby at_312) rfl ?_
        show GO p e below T273 (mkF m 314 (la18 p0 p1 p2 p3 p4 p5 r6 r7 r8 x9 x10 t11 (p3 + (1 : Int32)) (p4 - (1 : Int32)) b241 (1 : Int32) (FP.i2d (x9 - t11)) x9 (1 : Int32)) [(.int t11), (.int x9), (.double (FP.dsub (FP.i2d x9) (FP.i2d t11)))]) _
        refine XS.isub X273.here hx rfl (hb hby at_314) rfl ?_
        show GO p e below T273 (mkF m 315 (la18 p0 p1 p2 p3 p4 p5 r6 r7 r8 x9 x10 t11 (p3 + (1 : Int32)) (p4 - (1 : Int32)) b241 (1 : Int32) (FP.i2d (x9 - t11)) x9 (1 : Int32)) [(.int (x9 - t11)), (.double (FP.dsub (FP.i2d x9) (FP.i2d t11)))]) _
        refine XS.i2dS X273.here hx rfl (hb hby at_315) rfl rfl ?_
        show GO p e below T273 (mkF m 316 (la18 p0 p1 p2 p3 p4 p5 r6 r7 r8 x9 x10 t11 (p3 + (1 : Int32)) (p4 - (1 : Int32)) b241 (1 : Int32) (FP.i2d (x9 - t11)) x9 (1 : Int32)) [(.double (FP.i2d (x9 - t11))), (.double (FP.dsub (FP.i2d x9) (FP.i2d t11)))]) _
        refine XS.dcmpS X273.here hx rfl (hb hby at_316) rfl (show cmpValue (FP.dcmp (FP.dsub (FP.i2d x9) (FP.i2d t11)) (FP.i2d (x9 - t11))) .l = (0 : Int32) from (by rw [own_sub1 hx9a hx9b ht0 ht1]; exact own_ceq _)) ?_
        show GO p e below T273 (mkF m 317 (la18 p0 p1 p2 p3 p4 p5 r6 r7 r8 x9 x10 t11 (p3 + (1 : Int32)) (p4 - (1 : Int32)) b241 (1 : Int32) (FP.i2d (x9 - t11)) x9 (1 : Int32)) [(.int 0)]) _
        refine XS.ifNo X273.here hx rfl (hb hby at_317) rfl ((if0 _ _).trans (teq (rfl : (0 : Int32) = (0 : Int32))).2) ?_
        show GO p e below T273 (mkF m 320 (la18 p0 p1 p2 p3 p4 p5 r6 r7 r8 x9 x10 t11 (p3 + (1 : Int32)) (p4 - (1 : Int32)) b241 (1 : Int32) (FP.i2d (x9 - t11)) x9 (1 : Int32)) []) _
        refine XS.aload X273.here hx rfl (hb hby at_320) rfl rfl ?_
        show GO p e below T273 (mkF m 322 (la18 p0 p1 p2 p3 p4 p5 r6 r7 r8 x9 x10 t11 (p3 + (1 : Int32)) (p4 - (1 : Int32)) b241 (1 : Int32) (FP.i2d (x9 - t11)) x9 (1 : Int32)) [(.ref b241)]) _
        refine st274.trans ?_
        show GO p e below T274 (mkF m 325 (la18 p0 p1 p2 p3 p4 p5 r6 r7 r8 x9 x10 t11 (p3 + (1 : Int32)) (p4 - (1 : Int32)) b241 (1 : Int32) (FP.i2d (x9 - t11)) x9 (1 : Int32)) [(.int (nar .boolean r7))]) _
        refine XS.iload X274.here hx rfl (hb hby at_325) rfl ?_
        show GO p e below T274 (mkF m 327 (la18 p0 p1 p2 p3 p4 p5 r6 r7 r8 x9 x10 t11 (p3 + (1 : Int32)) (p4 - (1 : Int32)) b241 (1 : Int32) (FP.i2d (x9 - t11)) x9 (1 : Int32)) [(.int r7), (.int (nar .boolean r7))]) _
        refine XS.icmpNo X274.here hx rfl (hb hby at_327) rfl (teq (hbr7 : (nar .boolean r7) = r7)).2 ?_
        show GO p e below T274 (mkF m 330 (la18 p0 p1 p2 p3 p4 p5 r6 r7 r8 x9 x10 t11 (p3 + (1 : Int32)) (p4 - (1 : Int32)) b241 (1 : Int32) (FP.i2d (x9 - t11)) x9 (1 : Int32)) []) _
        refine XS.iconst X274.here hx rfl (hb hby at_330) ?_
        show GO p e below T274 (mkF m 331 (la18 p0 p1 p2 p3 p4 p5 r6 r7 r8 x9 x10 t11 (p3 + (1 : Int32)) (p4 - (1 : Int32)) b241 (1 : Int32) (FP.i2d (x9 - t11)) x9 (1 : Int32)) [(.int 1)]) _
        refine XS.goto X274.here hx rfl (pc0 := 331) (pc' := 335) rfl (hb hby at_331) (by decide) (by decide) ?_
        show GO p e below T274 (mkF m 335 (la18 p0 p1 p2 p3 p4 p5 r6 r7 r8 x9 x10 t11 (p3 + (1 : Int32)) (p4 - (1 : Int32)) b241 (1 : Int32) (FP.i2d (x9 - t11)) x9 (1 : Int32)) [(.int 1)]) _
        exact retN X274 hx (t := .boolean) Bd.returns (by simp) (hb hby at_335) hr
      · show Qrm0 Z p0 p1 p2 p3 p4 p5 h0 n0 _ T274.heap _
        rw [e274]
        exact ⟨rfl, N274⟩
  · -- pc 120: Block.add by rm_add1
    obtain ⟨cq275, kq275, q275a, q275b, q275c⟩ := isOf hZ e250 p250_0
    obtain ⟨_, _, ⟨T275, L275, k275, n275⟩, -, X275, ⟨Lc275, hQ275, l275, y275, z275⟩, st275⟩ := X250.virtualBack hx (y := (⟨kS0, "add", "(IIDZ)V"⟩ : MethodName)) (z := (⟨kS0, "add", "(IIDZ)V"⟩ : MethodName)) hown (mvT hZ (wd hw 21 rfl)) (mvT hZ (wd hw 22 rfl)) (notFace_of_selects (args := #[]) (mvT hZ (wd hw 24 rfl))) (mvT hZ (wd hw 24 rfl)) (mvT hZ (wd hw 23 rfl)) (by decide) (backOf (W := 0) (rm_add1 l Z a0 hw [] b241 (p3 + (1 : Int32)) (p4 - (1 : Int32)) (FP.i2d x10) r8 (FP.i2d x9) t0_249 k0_249 ([(.int p3), (.int 0), (.int 0), (.int 0), (.int 0), (.int 0), (.int 0), (.int 0)]) t1_249 k1_249 ([(.int p4), (.int 0), (.int 0), (.int 0), (.int 0), (.int 0), (.int 0), (.int 0)]) t2_249 k2_249 ([(.double (FP.i2d x9)), (.double (0 : UInt64)), (.double (0 : UInt64)), (.double (0 : UInt64)), (.double (0 : UInt64)), (.double (0 : UInt64)), (.double (0 : UInt64)), (.double (0 : UInt64))]) t3_249 k3_249 ([(.int (nar .boolean r7)), (.int 0), (.int 0), (.int 0), (.int 0), (.int 0), (.int 0), (.int 0)]) p3 h250 n0 (by omega) p250_0 p250_1 p250_2 f255 p250_4 f251 p250_6 f252 p250_8 f253 p250_10 f254 rfl rfl rfl rfl (by first | assumption | decide | omega | exact neN (by omega)) (by first | assumption | decide | omega | exact neN (by omega)) (by first | assumption | decide | omega | exact neN (by omega)) (by first | assumption | decide | omega | exact neN (by omega)) (by first | assumption | decide | omega | exact neN (by omega)) (own_nna hx9a hx9b hx10a hx10b) rfl (own_ag1 p3)) hZ (wd hw 25 rfl) (wd hw 3 rfl) (by decide) (by decide)) q275a q275c (g := (mkF m 120 (la14 p0 p1 p2 p3 p4 p5 r6 r7 r8 x9 x10 t11 (p3 + (1 : Int32)) (p4 - (1 : Int32)) b241) [(.int r8), (.double (FP.i2d x10)), (.int (p4 - (1 : Int32))), (.int (p3 + (1 : Int32))), (.ref b241)])) rfl (by rw [hml]; rfl) (Steps.refl _) (argsL := [(.int (p3 + (1 : Int32))), (.int (p4 - (1 : Int32))), (.double (FP.i2d x10)), (.int r8)]) (rest := []) (lenOf pd_1 rfl) rfl (by show 2 * 0 + _ ≤ _; exact Nat.le_of_eq rfl) (hb hby at_120) (fun _ _ => ⟨rfl, e250, (by decide : 5 + 0 ≤ _), (by decide : 39 + 0 ≤ _)⟩)
    dsimp only [Pt.U, Pt.locs, Pt.cells, Pt.slots] at X275 l275 y275 z275 st275 hQ275
    subst l275 y275 z275
    obtain ⟨h275, e275⟩ : ∃ z, T275.heap = z := ⟨_, rfl⟩
    rw [e275] at hQ275
    obtain ⟨rfl, N275q, K275, p275_0, p275_1, p275_2, p275_3, p275_4, p275_5, p275_6, p275_7, p275_8, p275_9, p275_10, p275_11⟩ := hQ275
    have N275 := Fr.app N250 N275q
    have sz275 : h250.size ≤ h275.size := K275.1
    have lt275_0 := ltA p275_0.lt
    have lt275_5 := ltA p275_5.lt
    have lt275_7 := ltA p275_7.lt
    have lt275_9 := ltA p275_9.lt
    have lt275_11 := ltA p275_11.lt
    have f276 : Arv Z h275 t0_249 k0_249 .int (8 : Int32) [(.int p3), (.int (p3 + (1 : Int32))), (.int 0), (.int 0), (.int 0), (.int 0), (.int 0), (.int 0)] (.int 0) := by
      have q := p275_5
      exact q
    have f277 : Arv Z h275 t1_249 k1_249 .int (8 : Int32) [(.int p4), (.int (p4 - (1 : Int32))), (.int 0), (.int 0), (.int 0), (.int 0), (.int 0), (.int 0)] (.int 0) := by
      have q := p275_7
      exact q
    have f278 : Arv Z h275 t2_249 k2_249 .double (8 : Int32) [(.double (FP.i2d x9)), (.double (FP.i2d x10)), (.double (0 : UInt64)), (.double (0 : UInt64)), (.double (0 : UInt64)), (.double (0 : UInt64)), (.double (0 : UInt64)), (.double (0 : UInt64))] (.double (0 : UInt64)) := by
      have q := p275_9
      exact q
    have f279 : Arv Z h275 t3_249 k3_249 .boolean (8 : Int32) [(.int (nar .boolean r7)), (.int (nar .boolean r8)), (.int 0), (.int 0), (.int 0), (.int 0), (.int 0), (.int 0)] (.int 0) := by
      have q := p275_11
      exact q
    have f280 : Fld Z h275 b241 kS0 "content" "D" (.double (FP.i2d (x9 + x10))) := by
      have q := p275_3
      rw [own_add2 hx9a hx9b hx10a hx10b] at q
      exact q
    have pre281 : ∀ t, Steps p.tables e below (T275.setTop (mkF m 123 (la14 p0 p1 p2 p3 p4 p5 r6 r7 r8 x9 x10 t11 (p3 + (1 : Int32)) (p4 - (1 : Int32)) b241) [])) t → Steps p.tables e below (s₁.setTop (entryFrame m #[(.int p0), (.int p1), (.int p2), (.int p3), (.int p4), (.int p5)] maxLocals)) t := by
      intro t kt
      refine pre256 t ?_
      show GO p e below T250 (mkF m 106 (la14 p0 p1 p2 p3 p4 p5 r6 r7 r8 x9 x10 t11 (p3 + (1 : Int32)) (p4 - (1 : Int32)) b241) [(.int r6)]) _
      refine XS.ifNo X250.here hx rfl (hb hby at_106) rfl ((if0 _ _).trans (feq (hb257 : ¬ (r6 = (0 : Int32)))).1) ?_
      show GO p e below T250 (mkF m 109 (la14 p0 p1 p2 p3 p4 p5 r6 r7 r8 x9 x10 t11 (p3 + (1 : Int32)) (p4 - (1 : Int32)) b241) []) _
      refine XS.aload X250.here hx rfl (hb hby at_109) rfl rfl ?_
      show GO p e below T250 (mkF m 111 (la14 p0 p1 p2 p3 p4 p5 r6 r7 r8 x9 x10 t11 (p3 + (1 : Int32)) (p4 - (1 : Int32)) b241) [(.ref b241)]) _
      refine XS.iload X250.here hx rfl (hb hby at_111) rfl ?_
      show GO p e below T250 (mkF m 113 (la14 p0 p1 p2 p3 p4 p5 r6 r7 r8 x9 x10 t11 (p3 + (1 : Int32)) (p4 - (1 : Int32)) b241) [(.int (p3 + (1 : Int32))), (.ref b241)]) _
      refine XS.iload X250.here hx rfl (hb hby at_113) rfl ?_
      show GO p e below T250 (mkF m 115 (la14 p0 p1 p2 p3 p4 p5 r6 r7 r8 x9 x10 t11 (p3 + (1 : Int32)) (p4 - (1 : Int32)) b241) [(.int (p4 - (1 : Int32))), (.int (p3 + (1 : Int32))), (.ref b241)]) _
      refine XS.iload X250.here hx rfl (hb hby at_115) rfl ?_
      show GO p e below T250 (mkF m 117 (la14 p0 p1 p2 p3 p4 p5 r6 r7 r8 x9 x10 t11 (p3 + (1 : Int32)) (p4 - (1 : Int32)) b241) [(.int x10), (.int (p4 - (1 : Int32))), (.int (p3 + (1 : Int32))), (.ref b241)]) _
      refine XS.i2dS X250.here hx rfl (hb hby at_117) rfl rfl ?_
      show GO p e below T250 (mkF m 118 (la14 p0 p1 p2 p3 p4 p5 r6 r7 r8 x9 x10 t11 (p3 + (1 : Int32)) (p4 - (1 : Int32)) b241) [(.double (FP.i2d x10)), (.int (p4 - (1 : Int32))), (.int (p3 + (1 : Int32))), (.ref b241)]) _
      refine XS.iload X250.here hx rfl (hb hby at_118) rfl ?_
      show GO p e below T250 (mkF m 120 (la14 p0 p1 p2 p3 p4 p5 r6 r7 r8 x9 x10 t11 (p3 + (1 : Int32)) (p4 - (1 : Int32)) b241) [(.int r8), (.double (FP.i2d x10)), (.int (p4 - (1 : Int32))), (.int (p3 + (1 : Int32))), (.ref b241)]) _
      refine st275.trans ?_
      exact kt
    by_cases hb282 : t11 = x9
    · -- pc 128: Block.takeFromHead by rm_takef0
      obtain ⟨cq283, kq283, q283a, q283b, q283c⟩ := isOf hZ e275 p275_0
      obtain ⟨_, _, ⟨T283, L283, k283, n283⟩, -, X283, ⟨Lc283, hQ283, l283, y283, z283⟩, st283⟩ := X275.virtualBack hx (y := (⟨kS0, "takeFromHead", "(D)V"⟩ : MethodName)) (z := (⟨kS0, "takeFromHead", "(D)V"⟩ : MethodName)) hown (mvT hZ (wd hw 32 rfl)) (mvT hZ (wd hw 33 rfl)) (notFace_of_selects (args := #[]) (mvT hZ (wd hw 35 rfl))) (mvT hZ (wd hw 35 rfl)) (mvT hZ (wd hw 34 rfl)) (by decide) (backOf (W := 0) (rm_takef0 l Z a0 hw [] b241 (FP.i2d t11) (2 : Int32) (FP.i2d (x9 + x10)) (FP.i2d x9) t0_249 k0_249 ([(.int p3), (.int (p3 + (1 : Int32))), (.int 0), (.int 0), (.int 0), (.int 0), (.int 0), (.int 0)]) t1_249 k1_249 ([(.int p4), (.int (p4 - (1 : Int32))), (.int 0), (.int 0), (.int 0), (.int 0), (.int 0), (.int 0)]) t2_249 k2_249 ([(.double (FP.i2d x9)), (.double (FP.i2d x10)), (.double (0 : UInt64)), (.double (0 : UInt64)), (.double (0 : UInt64)), (.double (0 : UInt64)), (.double (0 : UInt64)), (.double (0 : UInt64))]) t3_249 k3_249 ([(.int (nar .boolean r7)), (.int (nar .boolean r8)), (.int 0), (.int 0), (.int 0), (.int 0), (.int 0), (.int 0)]) h275 n0 (by omega) p275_0 p275_1 p275_2 f280 p275_4 f276 p275_6 f277 p275_8 f278 p275_10 f279 rfl rfl rfl rfl (by first | assumption | decide | omega | exact neN (by omega)) (by first | assumption | decide | omega | exact neN (by omega)) (by first | assumption | decide | omega | exact neN (by omega)) (by first | assumption | decide | omega | exact neN (by omega)) (by first | assumption | decide | omega | exact neN (by omega)) rfl (own_full hb282) (own_nns2 hx9a hx9b hx10a hx10b ht0 ht1)) hZ (wd hw 36 rfl) (wd hw 3 rfl) (by decide) (by decide)) q283a q283c (g := (mkF m 128 (la14 p0 p1 p2 p3 p4 p5 r6 r7 r8 x9 x10 t11 (p3 + (1 : Int32)) (p4 - (1 : Int32)) b241) [(.double (FP.i2d t11)), (.ref b241)])) rfl (by rw [hml]; rfl) (Steps.refl _) (argsL := [(.double (FP.i2d t11))]) (rest := []) (lenOf pd_2 rfl) rfl (by show 2 * 0 + _ ≤ _; exact Nat.le_of_eq rfl) (hb hby at_128) (fun _ _ => ⟨rfl, e275, (by decide : 5 + 0 ≤ _), (by decide : 39 + 0 ≤ _)⟩)
      dsimp only [Pt.U, Pt.locs, Pt.cells, Pt.slots] at X283 l283 y283 z283 st283 hQ283
      subst l283 y283 z283
      obtain ⟨h283, e283⟩ : ∃ z, T283.heap = z := ⟨_, rfl⟩
      rw [e283] at hQ283
      obtain ⟨rfl, N283q, K283, p283_0, p283_1, p283_2, p283_3, p283_4, p283_5, p283_6, p283_7, p283_8, p283_9, p283_10, p283_11⟩ := hQ283
      have N283 := Fr.app N275 N283q
      have sz283 : h275.size ≤ h283.size := K283.1
      have lt283_0 := ltA p283_0.lt
      have lt283_5 := ltA p283_5.lt
      have lt283_7 := ltA p283_7.lt
      have lt283_9 := ltA p283_9.lt
      have lt283_11 := ltA p283_11.lt
      have f284 : Fld Z h283 b241 kS0 "size" "I" (.int 1) := by
        have q := p283_2
        rw [show ((2 : Int32) - (1 : Int32)) = (1 : Int32) from by decide] at q
        exact q
      have f285 : Fld Z h283 b241 kS0 "content" "D" (.double (if (1 : Int32) = (0 : Int32) then (0 : UInt64) else FP.dsub (FP.i2d (x9 + x10)) (FP.i2d t11))) := by
        have q := p283_3
        rw [show ((2 : Int32) - (1 : Int32)) = (1 : Int32) from by decide] at q
        exact q
      have f286 : Fld Z h283 b241 kS0 "content" "D" (.double (FP.i2d x10)) := by
        have q := f285
        rw [if_neg (by decide), own_sub2 hx9a hx9b hx10a hx10b ht0 ht1 hb282] at q
        exact q
      -- pc 133: Block.size by rm_size
      obtain ⟨cq287, kq287, q287a, q287b, q287c⟩ := isOf hZ e283 p283_0
      obtain ⟨_, _, ⟨T287, L287, k287, n287⟩, -, X287, ⟨Lc287, hQ287, l287, y287, z287⟩, st287⟩ := X283.virtualBack hx (y := (⟨kS0, "size", "()I"⟩ : MethodName)) (z := (⟨kS0, "size", "()I"⟩ : MethodName)) hown (mvT hZ (wd hw 37 rfl)) (mvT hZ (wd hw 38 rfl)) (notFace_of_selects (args := #[]) (mvT hZ (wd hw 40 rfl))) (mvT hZ (wd hw 40 rfl)) (mvT hZ (wd hw 39 rfl)) (by decide) (backOf (W := 0) (rm_size l Z a0 hw [] b241 (1 : Int32) h283 n0 (by omega) f284) hZ (wd hw 41 rfl) (wd hw 3 rfl) (by decide) (by decide)) q287a q287c (g := (mkF m 133 (la14 p0 p1 p2 p3 p4 p5 r6 r7 r8 x9 x10 t11 (p3 + (1 : Int32)) (p4 - (1 : Int32)) b241) [(.ref b241)])) rfl (by rw [hml]; rfl) (Steps.refl _) (argsL := []) (rest := []) (lenOf pd_3 rfl) rfl (by show 2 * 0 + _ ≤ _; exact Nat.le_of_eq rfl) (hb hby at_133) (fun _ _ => ⟨rfl, e283, (by decide : 5 + 0 ≤ _), (by decide : 39 + 0 ≤ _)⟩)
      dsimp only [Pt.U, Pt.locs, Pt.cells, Pt.slots] at X287 l287 y287 z287 st287 hQ287
      subst l287 y287 z287
      obtain ⟨rfl, N287q, e287⟩ := hQ287
      have N287 := Fr.app N283 N287q
      -- pc 140: Block.content by rm_content
      obtain ⟨cq288, kq288, q288a, q288b, q288c⟩ := isOf hZ e287 p283_0
      obtain ⟨_, _, ⟨T288, L288, k288, n288⟩, -, X288, ⟨Lc288, hQ288, l288, y288, z288⟩, st288⟩ := X287.virtualBack hx (y := (⟨kS0, "content", "()D"⟩ : MethodName)) (z := (⟨kS0, "content", "()D"⟩ : MethodName)) hown (mvT hZ (wd hw 42 rfl)) (mvT hZ (wd hw 43 rfl)) (notFace_of_selects (args := #[]) (mvT hZ (wd hw 45 rfl))) (mvT hZ (wd hw 45 rfl)) (mvT hZ (wd hw 44 rfl)) (by decide) (backOf (W := 0) (rm_content l Z a0 hw [] b241 (FP.i2d x10) h283 n0 (by omega) f286) hZ (wd hw 46 rfl) (wd hw 3 rfl) (by decide) (by decide)) q288a q288c (g := (mkF m 140 (la15 p0 p1 p2 p3 p4 p5 r6 r7 r8 x9 x10 t11 (p3 + (1 : Int32)) (p4 - (1 : Int32)) b241 (1 : Int32)) [(.ref b241)])) rfl (by rw [hml]; rfl) (Steps.refl _) (argsL := []) (rest := []) (lenOf pd_4 rfl) rfl (by show 2 * 0 + _ ≤ _; exact Nat.le_of_eq rfl) (hb hby at_140) (fun _ _ => ⟨rfl, e287, (by decide : 5 + 0 ≤ _), (by decide : 39 + 0 ≤ _)⟩)
      dsimp only [Pt.U, Pt.locs, Pt.cells, Pt.slots] at X288 l288 y288 z288 st288 hQ288
      subst l288 y288 z288
      obtain ⟨rfl, N288q, e288⟩ := hQ288
      have N288 := Fr.app N287 N288q
      -- pc 192: Block.headAgent by rm_headAgent1
      obtain ⟨cq289, kq289, q289a, q289b, q289c⟩ := isOf hZ e288 p283_0
      obtain ⟨_, _, ⟨T289, L289, k289, n289⟩, -, X289, ⟨Lc289, hQ289, l289, y289, z289⟩, st289⟩ := X288.virtualBack hx (y := (⟨kS0, "headAgent", "()I"⟩ : MethodName)) (z := (⟨kS0, "headAgent", "()I"⟩ : MethodName)) hown (mvT hZ (wd hw 47 rfl)) (mvT hZ (wd hw 48 rfl)) (notFace_of_selects (args := #[]) (mvT hZ (wd hw 50 rfl))) (mvT hZ (wd hw 50 rfl)) (mvT hZ (wd hw 49 rfl)) (by decide) (backOf (W := 0) (rm_headAgent1 l Z a0 hw [] b241 t0_249 k0_249 ([(.int p3), (.int (p3 + (1 : Int32))), (.int 0), (.int 0), (.int 0), (.int 0), (.int 0), (.int 0)]) (p3 + (1 : Int32)) h283 n0 (by omega) p283_4 p283_1 p283_5 rfl) hZ (wd hw 51 rfl) (wd hw 3 rfl) (by decide) (by decide)) q289a q289c (g := (mkF m 192 (la16 p0 p1 p2 p3 p4 p5 r6 r7 r8 x9 x10 t11 (p3 + (1 : Int32)) (p4 - (1 : Int32)) b241 (1 : Int32) (FP.i2d x10)) [(.ref b241)])) rfl (by rw [hml]; rfl) (Steps.refl _) (argsL := []) (rest := []) (lenOf pd_3 rfl) rfl (by show 2 * 0 + _ ≤ _; exact Nat.le_of_eq rfl) (hb hby at_192) (fun _ _ => ⟨rfl, e288, (by decide : 5 + 0 ≤ _), (by decide : 39 + 0 ≤ _)⟩)
      dsimp only [Pt.U, Pt.locs, Pt.cells, Pt.slots] at X289 l289 y289 z289 st289 hQ289
      subst l289 y289 z289
      obtain ⟨rfl, N289q, e289⟩ := hQ289
      have N289 := Fr.app N288 N289q
      -- pc 202: Block.headLeg by rm_headLeg1
      obtain ⟨cq290, kq290, q290a, q290b, q290c⟩ := isOf hZ e289 p283_0
      obtain ⟨_, _, ⟨T290, L290, k290, n290⟩, -, X290, ⟨Lc290, hQ290, l290, y290, z290⟩, st290⟩ := X289.virtualBack hx (y := (⟨kS0, "headLeg", "()I"⟩ : MethodName)) (z := (⟨kS0, "headLeg", "()I"⟩ : MethodName)) hown (mvT hZ (wd hw 52 rfl)) (mvT hZ (wd hw 53 rfl)) (notFace_of_selects (args := #[]) (mvT hZ (wd hw 55 rfl))) (mvT hZ (wd hw 55 rfl)) (mvT hZ (wd hw 54 rfl)) (by decide) (backOf (W := 0) (rm_headLeg1 l Z a0 hw [] b241 t1_249 k1_249 ([(.int p4), (.int (p4 - (1 : Int32))), (.int 0), (.int 0), (.int 0), (.int 0), (.int 0), (.int 0)]) (p4 - (1 : Int32)) h283 n0 (by omega) p283_6 p283_1 p283_7 rfl) hZ (wd hw 56 rfl) (wd hw 3 rfl) (by decide) (by decide)) q290a q290c (g := (mkF m 202 (la16 p0 p1 p2 p3 p4 p5 r6 r7 r8 x9 x10 t11 (p3 + (1 : Int32)) (p4 - (1 : Int32)) b241 (1 : Int32) (FP.i2d x10)) [(.ref b241)])) rfl (by rw [hml]; rfl) (Steps.refl _) (argsL := []) (rest := []) (lenOf pd_3 rfl) rfl (by show 2 * 0 + _ ≤ _; exact Nat.le_of_eq rfl) (hb hby at_202) (fun _ _ => ⟨rfl, e289, (by decide : 5 + 0 ≤ _), (by decide : 39 + 0 ≤ _)⟩)
      dsimp only [Pt.U, Pt.locs, Pt.cells, Pt.slots] at X290 l290 y290 z290 st290 hQ290
      subst l290 y290 z290
      obtain ⟨rfl, N290q, e290⟩ := hQ290
      have N290 := Fr.app N289 N290q
      -- pc 212: Block.headAmount by rm_headAmount1
      obtain ⟨cq291, kq291, q291a, q291b, q291c⟩ := isOf hZ e290 p283_0
      obtain ⟨_, _, ⟨T291, L291, k291, n291⟩, -, X291, ⟨Lc291, hQ291, l291, y291, z291⟩, st291⟩ := X290.virtualBack hx (y := (⟨kS0, "headAmount", "()D"⟩ : MethodName)) (z := (⟨kS0, "headAmount", "()D"⟩ : MethodName)) hown (mvT hZ (wd hw 57 rfl)) (mvT hZ (wd hw 58 rfl)) (notFace_of_selects (args := #[]) (mvT hZ (wd hw 60 rfl))) (mvT hZ (wd hw 60 rfl)) (mvT hZ (wd hw 59 rfl)) (by decide) (backOf (W := 0) (rm_headAmount1 l Z a0 hw [] b241 t2_249 k2_249 ([(.double (FP.i2d x9)), (.double (FP.i2d x10)), (.double (0 : UInt64)), (.double (0 : UInt64)), (.double (0 : UInt64)), (.double (0 : UInt64)), (.double (0 : UInt64)), (.double (0 : UInt64))]) (FP.i2d x10) h283 n0 (by omega) p283_8 p283_1 p283_9 rfl) hZ (wd hw 61 rfl) (wd hw 3 rfl) (by decide) (by decide)) q291a q291c (g := (mkF m 212 (la16 p0 p1 p2 p3 p4 p5 r6 r7 r8 x9 x10 t11 (p3 + (1 : Int32)) (p4 - (1 : Int32)) b241 (1 : Int32) (FP.i2d x10)) [(.ref b241)])) rfl (by rw [hml]; rfl) (Steps.refl _) (argsL := []) (rest := []) (lenOf pd_4 rfl) rfl (by show 2 * 0 + _ ≤ _; exact Nat.le_of_eq rfl) (hb hby at_212) (fun _ _ => ⟨rfl, e290, (by decide : 5 + 0 ≤ _), (by decide : 39 + 0 ≤ _)⟩)
      dsimp only [Pt.U, Pt.locs, Pt.cells, Pt.slots] at X291 l291 y291 z291 st291 hQ291
      subst l291 y291 z291
      obtain ⟨rfl, N291q, e291⟩ := hQ291
      have N291 := Fr.app N290 N291q
      -- pc 224: Block.headIsRear by rm_headIsRear1
      obtain ⟨cq292, kq292, q292a, q292b, q292c⟩ := isOf hZ e291 p283_0
      obtain ⟨_, _, ⟨T292, L292, k292, n292⟩, -, X292, ⟨Lc292, hQ292, l292, y292, z292⟩, st292⟩ := X291.virtualBack hx (y := (⟨kS0, "headIsRear", "()Z"⟩ : MethodName)) (z := (⟨kS0, "headIsRear", "()Z"⟩ : MethodName)) hown (mvT hZ (wd hw 62 rfl)) (mvT hZ (wd hw 63 rfl)) (notFace_of_selects (args := #[]) (mvT hZ (wd hw 65 rfl))) (mvT hZ (wd hw 65 rfl)) (mvT hZ (wd hw 64 rfl)) (by decide) (backOf (W := 0) (rm_headIsRear1 l Z a0 hw [] b241 t3_249 k3_249 ([(.int (nar .boolean r7)), (.int (nar .boolean r8)), (.int 0), (.int 0), (.int 0), (.int 0), (.int 0), (.int 0)]) (nar .boolean r8) h283 n0 (by omega) p283_10 p283_1 p283_11 rfl (by rw [hbr8, hbr8])) hZ (wd hw 66 rfl) (wd hw 3 rfl) (by decide) (by decide)) q292a q292c (g := (mkF m 224 (la16 p0 p1 p2 p3 p4 p5 r6 r7 r8 x9 x10 t11 (p3 + (1 : Int32)) (p4 - (1 : Int32)) b241 (1 : Int32) (FP.i2d x10)) [(.ref b241)])) rfl (by rw [hml]; rfl) (Steps.refl _) (argsL := []) (rest := []) (lenOf pd_5 rfl) rfl (by show 2 * 0 + _ ≤ _; exact Nat.le_of_eq rfl) (hb hby at_224) (fun _ _ => ⟨rfl, e291, (by decide : 5 + 0 ≤ _), (by decide : 39 + 0 ≤ _)⟩)
      dsimp only [Pt.U, Pt.locs, Pt.cells, Pt.slots] at X292 l292 y292 z292 st292 hQ292
      subst l292 y292 z292
      obtain ⟨rfl, N292q, e292⟩ := hQ292
      have N292 := Fr.app N291 N292q
      obtain ⟨fs, hr, hrun, hended, hW, hsame⟩ := X292.leave (v := some (.int 1)) (fun h => by rw [Bd.returns] at h; cases h)
      refine ⟨_, _, pre281 _ ?_, hrun, hended, _, _, rfl, ?_, ⟨_, rfl⟩, hW, hsame.mono (by decide) (by decide)⟩
      · show GO p e below T275 (mkF m 123 (la14 p0 p1 p2 p3 p4 p5 r6 r7 r8 x9 x10 t11 (p3 + (1 : Int32)) (p4 - (1 : Int32)) b241) []) _
        refine XS.aload X275.here hx rfl (hb hby at_123) rfl rfl ?_
        show GO p e below T275 (mkF m 125 (la14 p0 p1 p2 p3 p4 p5 r6 r7 r8 x9 x10 t11 (p3 + (1 : Int32)) (p4 - (1 : Int32)) b241) [(.ref b241)]) _
        refine XS.iload X275.here hx rfl (hb hby at_125) rfl ?_
        show GO p e below T275 (mkF m 127 (la14 p0 p1 p2 p3 p4 p5 r6 r7 r8 x9 x10 t11 (p3 + (1 : Int32)) (p4 - (1 : Int32)) b241) [(.int t11), (.ref b241)]) _
        refine XS.i2dS X275.here hx rfl (hb hby at_127) rfl rfl ?_
        show GO p e below T275 (mkF m 128 (la14 p0 p1 p2 p3 p4 p5 r6 r7 r8 x9 x10 t11 (p3 + (1 : Int32)) (p4 - (1 : Int32)) b241) [(.double (FP.i2d t11)), (.ref b241)]) _
        refine st283.trans ?_
        show GO p e below T283 (mkF m 131 (la14 p0 p1 p2 p3 p4 p5 r6 r7 r8 x9 x10 t11 (p3 + (1 : Int32)) (p4 - (1 : Int32)) b241) []) _
        refine XS.aload X283.here hx rfl (hb hby at_131) rfl rfl ?_
        show GO p e below T283 (mkF m 133 (la14 p0 p1 p2 p3 p4 p5 r6 r7 r8 x9 x10 t11 (p3 + (1 : Int32)) (p4 - (1 : Int32)) b241) [(.ref b241)]) _
        refine st287.trans ?_
        show GO p e below T287 (mkF m 136 (la14 p0 p1 p2 p3 p4 p5 r6 r7 r8 x9 x10 t11 (p3 + (1 : Int32)) (p4 - (1 : Int32)) b241) [(.int 1)]) _
        refine XS.istore X287.here hx rfl (hb hby at_136) rfl (l' := (la15 p0 p1 p2 p3 p4 p5 r6 r7 r8 x9 x10 t11 (p3 + (1 : Int32)) (p4 - (1 : Int32)) b241 (1 : Int32))) rfl ?_
        show GO p e below T287 (mkF m 138 (la15 p0 p1 p2 p3 p4 p5 r6 r7 r8 x9 x10 t11 (p3 + (1 : Int32)) (p4 - (1 : Int32)) b241 (1 : Int32)) []) _
        refine XS.aload X287.here hx rfl (hb hby at_138) rfl rfl ?_
        show GO p e below T287 (mkF m 140 (la15 p0 p1 p2 p3 p4 p5 r6 r7 r8 x9 x10 t11 (p3 + (1 : Int32)) (p4 - (1 : Int32)) b241 (1 : Int32)) [(.ref b241)]) _
        refine st288.trans ?_
        show GO p e below T288 (mkF m 143 (la15 p0 p1 p2 p3 p4 p5 r6 r7 r8 x9 x10 t11 (p3 + (1 : Int32)) (p4 - (1 : Int32)) b241 (1 : Int32)) [(.double (FP.i2d x10))]) _
        refine XS.dstore X288.here hx rfl (hb hby at_143) rfl (l' := (la16 p0 p1 p2 p3 p4 p5 r6 r7 r8 x9 x10 t11 (p3 + (1 : Int32)) (p4 - (1 : Int32)) b241 (1 : Int32) (FP.i2d x10))) rfl ?_
        show GO p e below T288 (mkF m 145 (la16 p0 p1 p2 p3 p4 p5 r6 r7 r8 x9 x10 t11 (p3 + (1 : Int32)) (p4 - (1 : Int32)) b241 (1 : Int32) (FP.i2d x10)) []) _
        refine XS.iload X288.here hx rfl (hb hby at_145) rfl ?_
        show GO p e below T288 (mkF m 147 (la16 p0 p1 p2 p3 p4 p5 r6 r7 r8 x9 x10 t11 (p3 + (1 : Int32)) (p4 - (1 : Int32)) b241 (1 : Int32) (FP.i2d x10)) [(.int t11)]) _
        refine XS.iload X288.here hx rfl (hb hby at_147) rfl ?_
        show GO p e below T288 (mkF m 149 (la16 p0 p1 p2 p3 p4 p5 r6 r7 r8 x9 x10 t11 (p3 + (1 : Int32)) (p4 - (1 : Int32)) b241 (1 : Int32) (FP.i2d x10)) [(.int x9), (.int t11)]) _
        refine XS.icmpNo X288.here hx rfl (hb hby at_149) rfl (teq (hb282 : t11 = x9)).2 ?_
        show GO p e below T288 (mkF m 152 (la16 p0 p1 p2 p3 p4 p5 r6 r7 r8 x9 x10 t11 (p3 + (1 : Int32)) (p4 - (1 : Int32)) b241 (1 : Int32) (FP.i2d x10)) []) _
        refine XS.iload X288.here hx rfl (hb hby at_152) rfl ?_
        show GO p e below T288 (mkF m 154 (la16 p0 p1 p2 p3 p4 p5 r6 r7 r8 x9 x10 t11 (p3 + (1 : Int32)) (p4 - (1 : Int32)) b241 (1 : Int32) (FP.i2d x10)) [(.int r6)]) _
        refine XS.ifYes X288.here hx rfl (pc0 := 154) (pc' := 175) rfl (hb hby at_154) rfl ((if0 _ _).trans (feq (hb257 : ¬ (r6 = (0 : Int32)))).2) (by decide) (by decide) ?_
        show GO p e below T288 (mkF m 175 (la16 p0 p1 p2 p3 p4 p5 r6 r7 r8 x9 x10 t11 (p3 + (1 : Int32)) (p4 - (1 : Int32)) b241 (1 : Int32) (FP.i2d x10)) []) _
        refine XS.iload X288.here hx rfl (hb hby at_175) rfl ?_
        show GO p e below T288 (mkF m 177 (la16 p0 p1 p2 p3 p4 p5 r6 r7 r8 x9 x10 t11 (p3 + (1 : Int32)) (p4 - (1 : Int32)) b241 (1 : Int32) (FP.i2d x10)) [(.int 1)]) _
        refine XS.iconst X288.here hx rfl (hb hby at_177) ?_
        show GO p e below T288 (mkF m 178 (la16 p0 p1 p2 p3 p4 p5 r6 r7 r8 x9 x10 t11 (p3 + (1 : Int32)) (p4 - (1 : Int32)) b241 (1 : Int32) (FP.i2d x10)) [(.int 1), (.int 1)]) _
        refine XS.icmpNo X288.here hx rfl (hb hby at_178) rfl (teq (rfl : (1 : Int32) = (1 : Int32))).2 ?_
        show GO p e below T288 (mkF m 181 (la16 p0 p1 p2 p3 p4 p5 r6 r7 r8 x9 x10 t11 (p3 + (1 : Int32)) (p4 - (1 : Int32)) b241 (1 : Int32) (FP.i2d x10)) []) _
        refine XS.dload X288.here hx rfl (hb hby at_181) rfl ?_
        show GO p e below T288 (mkF m 183 (la16 p0 p1 p2 p3 p4 p5 r6 r7 r8 x9 x10 t11 (p3 + (1 : Int32)) (p4 - (1 : Int32)) b241 (1 : Int32) (FP.i2d x10)) [(.double (FP.i2d x10))]) _
        refine XS.iload X288.here hx rfl (hb hby at_183) rfl ?_
        show GO p e below T288 (mkF m 185 (la16 p0 p1 p2 p3 p4 p5 r6 r7 r8 x9 x10 t11 (p3 + (1 : Int32)) (p4 - (1 : Int32)) b241 (1 : Int32) (FP.i2d x10)) [(.int x10), (.double (FP.i2d x10))]) _
        refine XS.i2dS X288.here hx rfl (hb hby at_185) rfl rfl ?_
        show GO p e below T288 (mkF m 186 (la16 p0 p1 p2 p3 p4 p5 r6 r7 r8 x9 x10 t11 (p3 + (1 : Int32)) (p4 - (1 : Int32)) b241 (1 : Int32) (FP.i2d x10)) [(.double (FP.i2d x10)), (.double (FP.i2d x10))]) _
        refine XS.dcmpS X288.here hx rfl (hb hby at_186) rfl (show cmpValue (FP.dcmp (FP.i2d x10) (FP.i2d x10)) .l = (0 : Int32) from (own_ceq x10)) ?_
        show GO p e below T288 (mkF m 187 (la16 p0 p1 p2 p3 p4 p5 r6 r7 r8 x9 x10 t11 (p3 + (1 : Int32)) (p4 - (1 : Int32)) b241 (1 : Int32) (FP.i2d x10)) [(.int 0)]) _
        refine XS.ifNo X288.here hx rfl (hb hby at_187) rfl ((if0 _ _).trans (teq (rfl : (0 : Int32) = (0 : Int32))).2) ?_
        show GO p e below T288 (mkF m 190 (la16 p0 p1 p2 p3 p4 p5 r6 r7 r8 x9 x10 t11 (p3 + (1 : Int32)) (p4 - (1 : Int32)) b241 (1 : Int32) (FP.i2d x10)) []) _
        refine XS.aload X288.here hx rfl (hb hby at_190) rfl rfl ?_
        show GO p e below T288 (mkF m 192 (la16 p0 p1 p2 p3 p4 p5 r6 r7 r8 x9 x10 t11 (p3 + (1 : Int32)) (p4 - (1 : Int32)) b241 (1 : Int32) (FP.i2d x10)) [(.ref b241)]) _
        refine st289.trans ?_
        show GO p e below T289 (mkF m 195 (la16 p0 p1 p2 p3 p4 p5 r6 r7 r8 x9 x10 t11 (p3 + (1 : Int32)) (p4 - (1 : Int32)) b241 (1 : Int32) (FP.i2d x10)) [(.int (p3 + (1 : Int32)))]) _
        refine XS.iload X289.here hx rfl (hb hby at_195) rfl ?_
        show GO p e below T289 (mkF m 197 (la16 p0 p1 p2 p3 p4 p5 r6 r7 r8 x9 x10 t11 (p3 + (1 : Int32)) (p4 - (1 : Int32)) b241 (1 : Int32) (FP.i2d x10)) [(.int (p3 + (1 : Int32))), (.int (p3 + (1 : Int32)))]) _
        refine XS.icmpNo X289.here hx rfl (hb hby at_197) rfl (teq (rfl : (p3 + (1 : Int32)) = (p3 + (1 : Int32)))).2 ?_
        show GO p e below T289 (mkF m 200 (la16 p0 p1 p2 p3 p4 p5 r6 r7 r8 x9 x10 t11 (p3 + (1 : Int32)) (p4 - (1 : Int32)) b241 (1 : Int32) (FP.i2d x10)) []) _
        refine XS.aload X289.here hx rfl (hb hby at_200) rfl rfl ?_
        show GO p e below T289 (mkF m 202 (la16 p0 p1 p2 p3 p4 p5 r6 r7 r8 x9 x10 t11 (p3 + (1 : Int32)) (p4 - (1 : Int32)) b241 (1 : Int32) (FP.i2d x10)) [(.ref b241)]) _
        refine st290.trans ?_
        show GO p e below T290 (mkF m 205 (la16 p0 p1 p2 p3 p4 p5 r6 r7 r8 x9 x10 t11 (p3 + (1 : Int32)) (p4 - (1 : Int32)) b241 (1 : Int32) (FP.i2d x10)) [(.int (p4 - (1 : Int32)))]) _
        refine XS.iload X290.here hx rfl (hb hby at_205) rfl ?_
        show GO p e below T290 (mkF m 207 (la16 p0 p1 p2 p3 p4 p5 r6 r7 r8 x9 x10 t11 (p3 + (1 : Int32)) (p4 - (1 : Int32)) b241 (1 : Int32) (FP.i2d x10)) [(.int (p4 - (1 : Int32))), (.int (p4 - (1 : Int32)))]) _
        refine XS.icmpNo X290.here hx rfl (hb hby at_207) rfl (teq (rfl : (p4 - (1 : Int32)) = (p4 - (1 : Int32)))).2 ?_
        show GO p e below T290 (mkF m 210 (la16 p0 p1 p2 p3 p4 p5 r6 r7 r8 x9 x10 t11 (p3 + (1 : Int32)) (p4 - (1 : Int32)) b241 (1 : Int32) (FP.i2d x10)) []) _
        refine XS.aload X290.here hx rfl (hb hby at_210) rfl rfl ?_
        show GO p e below T290 (mkF m 212 (la16 p0 p1 p2 p3 p4 p5 r6 r7 r8 x9 x10 t11 (p3 + (1 : Int32)) (p4 - (1 : Int32)) b241 (1 : Int32) (FP.i2d x10)) [(.ref b241)]) _
        refine st291.trans ?_
        show GO p e below T291 (mkF m 215 (la16 p0 p1 p2 p3 p4 p5 r6 r7 r8 x9 x10 t11 (p3 + (1 : Int32)) (p4 - (1 : Int32)) b241 (1 : Int32) (FP.i2d x10)) [(.double (FP.i2d x10))]) _
        refine XS.iload X291.here hx rfl (hb hby at_215) rfl ?_
        show GO p e below T291 (mkF m 217 (la16 p0 p1 p2 p3 p4 p5 r6 r7 r8 x9 x10 t11 (p3 + (1 : Int32)) (p4 - (1 : Int32)) b241 (1 : Int32) (FP.i2d x10)) [(.int x10), (.double (FP.i2d x10))]) _
        refine XS.i2dS X291.here hx rfl (hb hby at_217) rfl rfl ?_
        show GO p e below T291 (mkF m 218 (la16 p0 p1 p2 p3 p4 p5 r6 r7 r8 x9 x10 t11 (p3 + (1 : Int32)) (p4 - (1 : Int32)) b241 (1 : Int32) (FP.i2d x10)) [(.double (FP.i2d x10)), (.double (FP.i2d x10))]) _
        refine XS.dcmpS X291.here hx rfl (hb hby at_218) rfl (show cmpValue (FP.dcmp (FP.i2d x10) (FP.i2d x10)) .l = (0 : Int32) from (own_ceq x10)) ?_
        show GO p e below T291 (mkF m 219 (la16 p0 p1 p2 p3 p4 p5 r6 r7 r8 x9 x10 t11 (p3 + (1 : Int32)) (p4 - (1 : Int32)) b241 (1 : Int32) (FP.i2d x10)) [(.int 0)]) _
        refine XS.ifNo X291.here hx rfl (hb hby at_219) rfl ((if0 _ _).trans (teq (rfl : (0 : Int32) = (0 : Int32))).2) ?_
        show GO p e below T291 (mkF m 222 (la16 p0 p1 p2 p3 p4 p5 r6 r7 r8 x9 x10 t11 (p3 + (1 : Int32)) (p4 - (1 : Int32)) b241 (1 : Int32) (FP.i2d x10)) []) _
        refine XS.aload X291.here hx rfl (hb hby at_222) rfl rfl ?_
        show GO p e below T291 (mkF m 224 (la16 p0 p1 p2 p3 p4 p5 r6 r7 r8 x9 x10 t11 (p3 + (1 : Int32)) (p4 - (1 : Int32)) b241 (1 : Int32) (FP.i2d x10)) [(.ref b241)]) _
        refine st292.trans ?_
        show GO p e below T292 (mkF m 227 (la16 p0 p1 p2 p3 p4 p5 r6 r7 r8 x9 x10 t11 (p3 + (1 : Int32)) (p4 - (1 : Int32)) b241 (1 : Int32) (FP.i2d x10)) [(.int (nar .boolean r8))]) _
        refine XS.iload X292.here hx rfl (hb hby at_227) rfl ?_
        show GO p e below T292 (mkF m 229 (la16 p0 p1 p2 p3 p4 p5 r6 r7 r8 x9 x10 t11 (p3 + (1 : Int32)) (p4 - (1 : Int32)) b241 (1 : Int32) (FP.i2d x10)) [(.int r8), (.int (nar .boolean r8))]) _
        refine XS.icmpNo X292.here hx rfl (hb hby at_229) rfl (teq (hbr8 : (nar .boolean r8) = r8)).2 ?_
        show GO p e below T292 (mkF m 232 (la16 p0 p1 p2 p3 p4 p5 r6 r7 r8 x9 x10 t11 (p3 + (1 : Int32)) (p4 - (1 : Int32)) b241 (1 : Int32) (FP.i2d x10)) []) _
        refine XS.iconst X292.here hx rfl (hb hby at_232) ?_
        show GO p e below T292 (mkF m 233 (la16 p0 p1 p2 p3 p4 p5 r6 r7 r8 x9 x10 t11 (p3 + (1 : Int32)) (p4 - (1 : Int32)) b241 (1 : Int32) (FP.i2d x10)) [(.int 1)]) _
        refine XS.goto X292.here hx rfl (pc0 := 233) (pc' := 237) rfl (hb hby at_233) (by decide) (by decide) ?_
        show GO p e below T292 (mkF m 237 (la16 p0 p1 p2 p3 p4 p5 r6 r7 r8 x9 x10 t11 (p3 + (1 : Int32)) (p4 - (1 : Int32)) b241 (1 : Int32) (FP.i2d x10)) [(.int 1)]) _
        exact retN X292 hx (t := .boolean) Bd.returns (by simp) (hb hby at_237) hr
      · show Qrm0 Z p0 p1 p2 p3 p4 p5 h0 n0 _ T292.heap _
        rw [e292]
        exact ⟨rfl, N292⟩
    · -- pc 128: Block.takeFromHead by rm_takep0
      obtain ⟨cq293, kq293, q293a, q293b, q293c⟩ := isOf hZ e275 p275_0
      obtain ⟨_, _, ⟨T293, L293, k293, n293⟩, -, X293, ⟨Lc293, hQ293, l293, y293, z293⟩, st293⟩ := X275.virtualBack hx (y := (⟨kS0, "takeFromHead", "(D)V"⟩ : MethodName)) (z := (⟨kS0, "takeFromHead", "(D)V"⟩ : MethodName)) hown (mvT hZ (wd hw 32 rfl)) (mvT hZ (wd hw 33 rfl)) (notFace_of_selects (args := #[]) (mvT hZ (wd hw 35 rfl))) (mvT hZ (wd hw 35 rfl)) (mvT hZ (wd hw 34 rfl)) (by decide) (backOf (W := 0) (rm_takep0 l Z a0 hw [] b241 (FP.i2d t11) (2 : Int32) (FP.i2d (x9 + x10)) (FP.i2d x9) t0_249 k0_249 ([(.int p3), (.int (p3 + (1 : Int32))), (.int 0), (.int 0), (.int 0), (.int 0), (.int 0), (.int 0)]) t1_249 k1_249 ([(.int p4), (.int (p4 - (1 : Int32))), (.int 0), (.int 0), (.int 0), (.int 0), (.int 0), (.int 0)]) t2_249 k2_249 ([(.double (FP.i2d x9)), (.double (FP.i2d x10)), (.double (0 : UInt64)), (.double (0 : UInt64)), (.double (0 : UInt64)), (.double (0 : UInt64)), (.double (0 : UInt64)), (.double (0 : UInt64))]) t3_249 k3_249 ([(.int (nar .boolean r7)), (.int (nar .boolean r8)), (.int 0), (.int 0), (.int 0), (.int 0), (.int 0), (.int 0)]) h275 n0 (by omega) p275_0 p275_1 p275_2 f280 p275_4 f276 p275_6 f277 p275_8 f278 p275_10 f279 rfl rfl rfl rfl (by first | assumption | decide | omega | exact neN (by omega)) (by first | assumption | decide | omega | exact neN (by omega)) (by first | assumption | decide | omega | exact neN (by omega)) (by first | assumption | decide | omega | exact neN (by omega)) (by first | assumption | decide | omega | exact neN (by omega)) rfl (own_part ht0 ht1 hx9b hb282) (own_nns2 hx9a hx9b hx10a hx10b ht0 ht1) (own_nns hx9a hx9b ht0 ht1) (by decide)) hZ (wd hw 36 rfl) (wd hw 3 rfl) (by decide) (by decide)) q293a q293c (g := (mkF m 128 (la14 p0 p1 p2 p3 p4 p5 r6 r7 r8 x9 x10 t11 (p3 + (1 : Int32)) (p4 - (1 : Int32)) b241) [(.double (FP.i2d t11)), (.ref b241)])) rfl (by rw [hml]; rfl) (Steps.refl _) (argsL := [(.double (FP.i2d t11))]) (rest := []) (lenOf pd_2 rfl) rfl (by show 2 * 0 + _ ≤ _; exact Nat.le_of_eq rfl) (hb hby at_128) (fun _ _ => ⟨rfl, e275, (by decide : 5 + 0 ≤ _), (by decide : 39 + 0 ≤ _)⟩)
      dsimp only [Pt.U, Pt.locs, Pt.cells, Pt.slots] at X293 l293 y293 z293 st293 hQ293
      subst l293 y293 z293
      obtain ⟨h293, e293⟩ : ∃ z, T293.heap = z := ⟨_, rfl⟩
      rw [e293] at hQ293
      obtain ⟨rfl, N293q, K293, p293_0, p293_1, p293_2, p293_3, p293_4, p293_5, p293_6, p293_7, p293_8, p293_9, p293_10, p293_11⟩ := hQ293
      have N293 := Fr.app N275 N293q
      have sz293 : h275.size ≤ h293.size := K293.1
      have lt293_0 := ltA p293_0.lt
      have lt293_5 := ltA p293_5.lt
      have lt293_7 := ltA p293_7.lt
      have lt293_9 := ltA p293_9.lt
      have lt293_11 := ltA p293_11.lt
      have f294 : Arv Z h293 t2_249 k2_249 .double (8 : Int32) [(.double (FP.dsub (FP.i2d x9) (FP.i2d t11))), (.double (FP.i2d x10)), (.double (0 : UInt64)), (.double (0 : UInt64)), (.double (0 : UInt64)), (.double (0 : UInt64)), (.double (0 : UInt64)), (.double (0 : UInt64))] (.double (0 : UInt64)) := by
        have q := p293_9
        exact q
      have f295 : Fld Z h293 b241 kS0 "content" "D" (.double (FP.i2d ((x9 + x10) - t11))) := by
        have q := p293_3
        rw [if_neg (by decide), own_sub3 hx9a hx9b hx10a hx10b ht0 ht1] at q
        exact q
      -- pc 133: Block.size by rm_size
      obtain ⟨cq296, kq296, q296a, q296b, q296c⟩ := isOf hZ e293 p293_0
      obtain ⟨_, _, ⟨T296, L296, k296, n296⟩, -, X296, ⟨Lc296, hQ296, l296, y296, z296⟩, st296⟩ := X293.virtualBack hx (y := (⟨kS0, "size", "()I"⟩ : MethodName)) (z := (⟨kS0, "size", "()I"⟩ : MethodName)) hown (mvT hZ (wd hw 37 rfl)) (mvT hZ (wd hw 38 rfl)) (notFace_of_selects (args := #[]) (mvT hZ (wd hw 40 rfl))) (mvT hZ (wd hw 40 rfl)) (mvT hZ (wd hw 39 rfl)) (by decide) (backOf (W := 0) (rm_size l Z a0 hw [] b241 (2 : Int32) h293 n0 (by omega) p293_2) hZ (wd hw 41 rfl) (wd hw 3 rfl) (by decide) (by decide)) q296a q296c (g := (mkF m 133 (la14 p0 p1 p2 p3 p4 p5 r6 r7 r8 x9 x10 t11 (p3 + (1 : Int32)) (p4 - (1 : Int32)) b241) [(.ref b241)])) rfl (by rw [hml]; rfl) (Steps.refl _) (argsL := []) (rest := []) (lenOf pd_3 rfl) rfl (by show 2 * 0 + _ ≤ _; exact Nat.le_of_eq rfl) (hb hby at_133) (fun _ _ => ⟨rfl, e293, (by decide : 5 + 0 ≤ _), (by decide : 39 + 0 ≤ _)⟩)
      dsimp only [Pt.U, Pt.locs, Pt.cells, Pt.slots] at X296 l296 y296 z296 st296 hQ296
      subst l296 y296 z296
      obtain ⟨rfl, N296q, e296⟩ := hQ296
      have N296 := Fr.app N293 N296q
      -- pc 140: Block.content by rm_content
      obtain ⟨cq297, kq297, q297a, q297b, q297c⟩ := isOf hZ e296 p293_0
      obtain ⟨_, _, ⟨T297, L297, k297, n297⟩, -, X297, ⟨Lc297, hQ297, l297, y297, z297⟩, st297⟩ := X296.virtualBack hx (y := (⟨kS0, "content", "()D"⟩ : MethodName)) (z := (⟨kS0, "content", "()D"⟩ : MethodName)) hown (mvT hZ (wd hw 42 rfl)) (mvT hZ (wd hw 43 rfl)) (notFace_of_selects (args := #[]) (mvT hZ (wd hw 45 rfl))) (mvT hZ (wd hw 45 rfl)) (mvT hZ (wd hw 44 rfl)) (by decide) (backOf (W := 0) (rm_content l Z a0 hw [] b241 (FP.i2d ((x9 + x10) - t11)) h293 n0 (by omega) f295) hZ (wd hw 46 rfl) (wd hw 3 rfl) (by decide) (by decide)) q297a q297c (g := (mkF m 140 (la15 p0 p1 p2 p3 p4 p5 r6 r7 r8 x9 x10 t11 (p3 + (1 : Int32)) (p4 - (1 : Int32)) b241 (2 : Int32)) [(.ref b241)])) rfl (by rw [hml]; rfl) (Steps.refl _) (argsL := []) (rest := []) (lenOf pd_4 rfl) rfl (by show 2 * 0 + _ ≤ _; exact Nat.le_of_eq rfl) (hb hby at_140) (fun _ _ => ⟨rfl, e296, (by decide : 5 + 0 ≤ _), (by decide : 39 + 0 ≤ _)⟩)
      dsimp only [Pt.U, Pt.locs, Pt.cells, Pt.slots] at X297 l297 y297 z297 st297 hQ297
      subst l297 y297 z297
      obtain ⟨rfl, N297q, e297⟩ := hQ297
      have N297 := Fr.app N296 N297q
      -- pc 288: Block.headAgent by rm_headAgent0
      obtain ⟨cq298, kq298, q298a, q298b, q298c⟩ := isOf hZ e297 p293_0
      obtain ⟨_, _, ⟨T298, L298, k298, n298⟩, -, X298, ⟨Lc298, hQ298, l298, y298, z298⟩, st298⟩ := X297.virtualBack hx (y := (⟨kS0, "headAgent", "()I"⟩ : MethodName)) (z := (⟨kS0, "headAgent", "()I"⟩ : MethodName)) hown (mvT hZ (wd hw 47 rfl)) (mvT hZ (wd hw 48 rfl)) (notFace_of_selects (args := #[]) (mvT hZ (wd hw 50 rfl))) (mvT hZ (wd hw 50 rfl)) (mvT hZ (wd hw 49 rfl)) (by decide) (backOf (W := 0) (rm_headAgent0 l Z a0 hw [] b241 t0_249 k0_249 ([(.int p3), (.int (p3 + (1 : Int32))), (.int 0), (.int 0), (.int 0), (.int 0), (.int 0), (.int 0)]) p3 h293 n0 (by omega) p293_4 p293_1 p293_5 rfl) hZ (wd hw 51 rfl) (wd hw 3 rfl) (by decide) (by decide)) q298a q298c (g := (mkF m 288 (la18 p0 p1 p2 p3 p4 p5 r6 r7 r8 x9 x10 t11 (p3 + (1 : Int32)) (p4 - (1 : Int32)) b241 (2 : Int32) (FP.i2d ((x9 + x10) - t11)) (x9 + x10) (2 : Int32)) [(.ref b241)])) rfl (by rw [hml]; rfl) (Steps.refl _) (argsL := []) (rest := []) (lenOf pd_3 rfl) rfl (by show 2 * 0 + _ ≤ _; exact Nat.le_of_eq rfl) (hb hby at_288) (fun _ _ => ⟨rfl, e297, (by decide : 5 + 0 ≤ _), (by decide : 39 + 0 ≤ _)⟩)
      dsimp only [Pt.U, Pt.locs, Pt.cells, Pt.slots] at X298 l298 y298 z298 st298 hQ298
      subst l298 y298 z298
      obtain ⟨rfl, N298q, e298⟩ := hQ298
      have N298 := Fr.app N297 N298q
      -- pc 297: Block.headLeg by rm_headLeg0
      obtain ⟨cq299, kq299, q299a, q299b, q299c⟩ := isOf hZ e298 p293_0
      obtain ⟨_, _, ⟨T299, L299, k299, n299⟩, -, X299, ⟨Lc299, hQ299, l299, y299, z299⟩, st299⟩ := X298.virtualBack hx (y := (⟨kS0, "headLeg", "()I"⟩ : MethodName)) (z := (⟨kS0, "headLeg", "()I"⟩ : MethodName)) hown (mvT hZ (wd hw 52 rfl)) (mvT hZ (wd hw 53 rfl)) (notFace_of_selects (args := #[]) (mvT hZ (wd hw 55 rfl))) (mvT hZ (wd hw 55 rfl)) (mvT hZ (wd hw 54 rfl)) (by decide) (backOf (W := 0) (rm_headLeg0 l Z a0 hw [] b241 t1_249 k1_249 ([(.int p4), (.int (p4 - (1 : Int32))), (.int 0), (.int 0), (.int 0), (.int 0), (.int 0), (.int 0)]) p4 h293 n0 (by omega) p293_6 p293_1 p293_7 rfl) hZ (wd hw 56 rfl) (wd hw 3 rfl) (by decide) (by decide)) q299a q299c (g := (mkF m 297 (la18 p0 p1 p2 p3 p4 p5 r6 r7 r8 x9 x10 t11 (p3 + (1 : Int32)) (p4 - (1 : Int32)) b241 (2 : Int32) (FP.i2d ((x9 + x10) - t11)) (x9 + x10) (2 : Int32)) [(.ref b241)])) rfl (by rw [hml]; rfl) (Steps.refl _) (argsL := []) (rest := []) (lenOf pd_3 rfl) rfl (by show 2 * 0 + _ ≤ _; exact Nat.le_of_eq rfl) (hb hby at_297) (fun _ _ => ⟨rfl, e298, (by decide : 5 + 0 ≤ _), (by decide : 39 + 0 ≤ _)⟩)
      dsimp only [Pt.U, Pt.locs, Pt.cells, Pt.slots] at X299 l299 y299 z299 st299 hQ299
      subst l299 y299 z299
      obtain ⟨rfl, N299q, e299⟩ := hQ299
      have N299 := Fr.app N298 N299q
      -- pc 307: Block.headAmount by rm_headAmount0
      obtain ⟨cq300, kq300, q300a, q300b, q300c⟩ := isOf hZ e299 p293_0
      obtain ⟨_, _, ⟨T300, L300, k300, n300⟩, -, X300, ⟨Lc300, hQ300, l300, y300, z300⟩, st300⟩ := X299.virtualBack hx (y := (⟨kS0, "headAmount", "()D"⟩ : MethodName)) (z := (⟨kS0, "headAmount", "()D"⟩ : MethodName)) hown (mvT hZ (wd hw 57 rfl)) (mvT hZ (wd hw 58 rfl)) (notFace_of_selects (args := #[]) (mvT hZ (wd hw 60 rfl))) (mvT hZ (wd hw 60 rfl)) (mvT hZ (wd hw 59 rfl)) (by decide) (backOf (W := 0) (rm_headAmount0 l Z a0 hw [] b241 t2_249 k2_249 ([(.double (FP.dsub (FP.i2d x9) (FP.i2d t11))), (.double (FP.i2d x10)), (.double (0 : UInt64)), (.double (0 : UInt64)), (.double (0 : UInt64)), (.double (0 : UInt64)), (.double (0 : UInt64)), (.double (0 : UInt64))]) (FP.dsub (FP.i2d x9) (FP.i2d t11)) h293 n0 (by omega) p293_8 p293_1 f294 rfl) hZ (wd hw 61 rfl) (wd hw 3 rfl) (by decide) (by decide)) q300a q300c (g := (mkF m 307 (la18 p0 p1 p2 p3 p4 p5 r6 r7 r8 x9 x10 t11 (p3 + (1 : Int32)) (p4 - (1 : Int32)) b241 (2 : Int32) (FP.i2d ((x9 + x10) - t11)) (x9 + x10) (2 : Int32)) [(.ref b241)])) rfl (by rw [hml]; rfl) (Steps.refl _) (argsL := []) (rest := []) (lenOf pd_4 rfl) rfl (by show 2 * 0 + _ ≤ _; exact Nat.le_of_eq rfl) (hb hby at_307) (fun _ _ => ⟨rfl, e299, (by decide : 5 + 0 ≤ _), (by decide : 39 + 0 ≤ _)⟩)
      dsimp only [Pt.U, Pt.locs, Pt.cells, Pt.slots] at X300 l300 y300 z300 st300 hQ300
      subst l300 y300 z300
      obtain ⟨rfl, N300q, e300⟩ := hQ300
      have N300 := Fr.app N299 N300q
      -- pc 322: Block.headIsRear by rm_headIsRear0
      obtain ⟨cq301, kq301, q301a, q301b, q301c⟩ := isOf hZ e300 p293_0
      obtain ⟨_, _, ⟨T301, L301, k301, n301⟩, -, X301, ⟨Lc301, hQ301, l301, y301, z301⟩, st301⟩ := X300.virtualBack hx (y := (⟨kS0, "headIsRear", "()Z"⟩ : MethodName)) (z := (⟨kS0, "headIsRear", "()Z"⟩ : MethodName)) hown (mvT hZ (wd hw 62 rfl)) (mvT hZ (wd hw 63 rfl)) (notFace_of_selects (args := #[]) (mvT hZ (wd hw 65 rfl))) (mvT hZ (wd hw 65 rfl)) (mvT hZ (wd hw 64 rfl)) (by decide) (backOf (W := 0) (rm_headIsRear0 l Z a0 hw [] b241 t3_249 k3_249 ([(.int (nar .boolean r7)), (.int (nar .boolean r8)), (.int 0), (.int 0), (.int 0), (.int 0), (.int 0), (.int 0)]) (nar .boolean r7) h293 n0 (by omega) p293_10 p293_1 p293_11 rfl (by rw [hbr7, hbr7])) hZ (wd hw 66 rfl) (wd hw 3 rfl) (by decide) (by decide)) q301a q301c (g := (mkF m 322 (la18 p0 p1 p2 p3 p4 p5 r6 r7 r8 x9 x10 t11 (p3 + (1 : Int32)) (p4 - (1 : Int32)) b241 (2 : Int32) (FP.i2d ((x9 + x10) - t11)) (x9 + x10) (2 : Int32)) [(.ref b241)])) rfl (by rw [hml]; rfl) (Steps.refl _) (argsL := []) (rest := []) (lenOf pd_5 rfl) rfl (by show 2 * 0 + _ ≤ _; exact Nat.le_of_eq rfl) (hb hby at_322) (fun _ _ => ⟨rfl, e300, (by decide : 5 + 0 ≤ _), (by decide : 39 + 0 ≤ _)⟩)
      dsimp only [Pt.U, Pt.locs, Pt.cells, Pt.slots] at X301 l301 y301 z301 st301 hQ301
      subst l301 y301 z301
      obtain ⟨rfl, N301q, e301⟩ := hQ301
      have N301 := Fr.app N300 N301q
      obtain ⟨fs, hr, hrun, hended, hW, hsame⟩ := X301.leave (v := some (.int 1)) (fun h => by rw [Bd.returns] at h; cases h)
      refine ⟨_, _, pre281 _ ?_, hrun, hended, _, _, rfl, ?_, ⟨_, rfl⟩, hW, hsame.mono (by decide) (by decide)⟩
      · show GO p e below T275 (mkF m 123 (la14 p0 p1 p2 p3 p4 p5 r6 r7 r8 x9 x10 t11 (p3 + (1 : Int32)) (p4 - (1 : Int32)) b241) []) _
        refine XS.aload X275.here hx rfl (hb hby at_123) rfl rfl ?_
        show GO p e below T275 (mkF m 125 (la14 p0 p1 p2 p3 p4 p5 r6 r7 r8 x9 x10 t11 (p3 + (1 : Int32)) (p4 - (1 : Int32)) b241) [(.ref b241)]) _
        refine XS.iload X275.here hx rfl (hb hby at_125) rfl ?_
        show GO p e below T275 (mkF m 127 (la14 p0 p1 p2 p3 p4 p5 r6 r7 r8 x9 x10 t11 (p3 + (1 : Int32)) (p4 - (1 : Int32)) b241) [(.int t11), (.ref b241)]) _
        refine XS.i2dS X275.here hx rfl (hb hby at_127) rfl rfl ?_
        show GO p e below T275 (mkF m 128 (la14 p0 p1 p2 p3 p4 p5 r6 r7 r8 x9 x10 t11 (p3 + (1 : Int32)) (p4 - (1 : Int32)) b241) [(.double (FP.i2d t11)), (.ref b241)]) _
        refine st293.trans ?_
        show GO p e below T293 (mkF m 131 (la14 p0 p1 p2 p3 p4 p5 r6 r7 r8 x9 x10 t11 (p3 + (1 : Int32)) (p4 - (1 : Int32)) b241) []) _
        refine XS.aload X293.here hx rfl (hb hby at_131) rfl rfl ?_
        show GO p e below T293 (mkF m 133 (la14 p0 p1 p2 p3 p4 p5 r6 r7 r8 x9 x10 t11 (p3 + (1 : Int32)) (p4 - (1 : Int32)) b241) [(.ref b241)]) _
        refine st296.trans ?_
        show GO p e below T296 (mkF m 136 (la14 p0 p1 p2 p3 p4 p5 r6 r7 r8 x9 x10 t11 (p3 + (1 : Int32)) (p4 - (1 : Int32)) b241) [(.int 2)]) _
        refine XS.istore X296.here hx rfl (hb hby at_136) rfl (l' := (la15 p0 p1 p2 p3 p4 p5 r6 r7 r8 x9 x10 t11 (p3 + (1 : Int32)) (p4 - (1 : Int32)) b241 (2 : Int32))) rfl ?_
        show GO p e below T296 (mkF m 138 (la15 p0 p1 p2 p3 p4 p5 r6 r7 r8 x9 x10 t11 (p3 + (1 : Int32)) (p4 - (1 : Int32)) b241 (2 : Int32)) []) _
        refine XS.aload X296.here hx rfl (hb hby at_138) rfl rfl ?_
        show GO p e below T296 (mkF m 140 (la15 p0 p1 p2 p3 p4 p5 r6 r7 r8 x9 x10 t11 (p3 + (1 : Int32)) (p4 - (1 : Int32)) b241 (2 : Int32)) [(.ref b241)]) _
        refine st297.trans ?_
        show GO p e below T297 (mkF m 143 (la15 p0 p1 p2 p3 p4 p5 r6 r7 r8 x9 x10 t11 (p3 + (1 : Int32)) (p4 - (1 : Int32)) b241 (2 : Int32)) [(.double (FP.i2d ((x9 + x10) - t11)))]) _
        refine XS.dstore X297.here hx rfl (hb hby at_143) rfl (l' := (la16 p0 p1 p2 p3 p4 p5 r6 r7 r8 x9 x10 t11 (p3 + (1 : Int32)) (p4 - (1 : Int32)) b241 (2 : Int32) (FP.i2d ((x9 + x10) - t11)))) rfl ?_
        show GO p e below T297 (mkF m 145 (la16 p0 p1 p2 p3 p4 p5 r6 r7 r8 x9 x10 t11 (p3 + (1 : Int32)) (p4 - (1 : Int32)) b241 (2 : Int32) (FP.i2d ((x9 + x10) - t11))) []) _
        refine XS.iload X297.here hx rfl (hb hby at_145) rfl ?_
        show GO p e below T297 (mkF m 147 (la16 p0 p1 p2 p3 p4 p5 r6 r7 r8 x9 x10 t11 (p3 + (1 : Int32)) (p4 - (1 : Int32)) b241 (2 : Int32) (FP.i2d ((x9 + x10) - t11))) [(.int t11)]) _
        refine XS.iload X297.here hx rfl (hb hby at_147) rfl ?_
        show GO p e below T297 (mkF m 149 (la16 p0 p1 p2 p3 p4 p5 r6 r7 r8 x9 x10 t11 (p3 + (1 : Int32)) (p4 - (1 : Int32)) b241 (2 : Int32) (FP.i2d ((x9 + x10) - t11))) [(.int x9), (.int t11)]) _
        refine XS.icmpYes X297.here hx rfl (pc0 := 149) (pc' := 238) rfl (hb hby at_149) rfl (feq (hb282 : ¬ (t11 = x9))).2 (by decide) (by decide) ?_
        show GO p e below T297 (mkF m 238 (la16 p0 p1 p2 p3 p4 p5 r6 r7 r8 x9 x10 t11 (p3 + (1 : Int32)) (p4 - (1 : Int32)) b241 (2 : Int32) (FP.i2d ((x9 + x10) - t11))) []) _
        refine XS.iload X297.here hx rfl (hb hby at_238) rfl ?_
        show GO p e below T297 (mkF m 240 (la16 p0 p1 p2 p3 p4 p5 r6 r7 r8 x9 x10 t11 (p3 + (1 : Int32)) (p4 - (1 : Int32)) b241 (2 : Int32) (FP.i2d ((x9 + x10) - t11))) [(.int r6)]) _
        refine XS.ifNo X297.here hx rfl (hb hby at_240) rfl ((if0 _ _).trans (feq (hb257 : ¬ (r6 = (0 : Int32)))).1) ?_
        show GO p e below T297 (mkF m 243 (la16 p0 p1 p2 p3 p4 p5 r6 r7 r8 x9 x10 t11 (p3 + (1 : Int32)) (p4 - (1 : Int32)) b241 (2 : Int32) (FP.i2d ((x9 + x10) - t11))) []) _
        refine XS.iload X297.here hx rfl (hb hby at_243) rfl ?_
        show GO p e below T297 (mkF m 245 (la16 p0 p1 p2 p3 p4 p5 r6 r7 r8 x9 x10 t11 (p3 + (1 : Int32)) (p4 - (1 : Int32)) b241 (2 : Int32) (FP.i2d ((x9 + x10) - t11))) [(.int x9)]) _
        refine XS.iload X297.here hx rfl (hb hby at_245) rfl ?_
        show GO p e below T297 (mkF m 247 (la16 p0 p1 p2 p3 p4 p5 r6 r7 r8 x9 x10 t11 (p3 + (1 : Int32)) (p4 - (1 : Int32)) b241 (2 : Int32) (FP.i2d ((x9 + x10) - t11))) [(.int x10), (.int x9)]) _
        refine XS.iadd X297.here hx rfl (hb hby at_247) rfl ?_
        show GO p e below T297 (mkF m 248 (la16 p0 p1 p2 p3 p4 p5 r6 r7 r8 x9 x10 t11 (p3 + (1 : Int32)) (p4 - (1 : Int32)) b241 (2 : Int32) (FP.i2d ((x9 + x10) - t11))) [(.int (x9 + x10))]) _
        refine XS.goto X297.here hx rfl (pc0 := 248) (pc' := 253) rfl (hb hby at_248) (by decide) (by decide) ?_
        show GO p e below T297 (mkF m 253 (la16 p0 p1 p2 p3 p4 p5 r6 r7 r8 x9 x10 t11 (p3 + (1 : Int32)) (p4 - (1 : Int32)) b241 (2 : Int32) (FP.i2d ((x9 + x10) - t11))) [(.int (x9 + x10))]) _
        refine XS.istore X297.here hx rfl (hb hby at_253) rfl (l' := (la17 p0 p1 p2 p3 p4 p5 r6 r7 r8 x9 x10 t11 (p3 + (1 : Int32)) (p4 - (1 : Int32)) b241 (2 : Int32) (FP.i2d ((x9 + x10) - t11)) (x9 + x10))) rfl ?_
        show GO p e below T297 (mkF m 255 (la17 p0 p1 p2 p3 p4 p5 r6 r7 r8 x9 x10 t11 (p3 + (1 : Int32)) (p4 - (1 : Int32)) b241 (2 : Int32) (FP.i2d ((x9 + x10) - t11)) (x9 + x10)) []) _
        refine XS.iload X297.here hx rfl (hb hby at_255) rfl ?_
        show GO p e below T297 (mkF m 257 (la17 p0 p1 p2 p3 p4 p5 r6 r7 r8 x9 x10 t11 (p3 + (1 : Int32)) (p4 - (1 : Int32)) b241 (2 : Int32) (FP.i2d ((x9 + x10) - t11)) (x9 + x10)) [(.int r6)]) _
        refine XS.ifNo X297.here hx rfl (hb hby at_257) rfl ((if0 _ _).trans (feq (hb257 : ¬ (r6 = (0 : Int32)))).1) ?_
        show GO p e below T297 (mkF m 260 (la17 p0 p1 p2 p3 p4 p5 r6 r7 r8 x9 x10 t11 (p3 + (1 : Int32)) (p4 - (1 : Int32)) b241 (2 : Int32) (FP.i2d ((x9 + x10) - t11)) (x9 + x10)) []) _
        refine XS.iconst X297.here hx rfl (hb hby at_260) ?_
        show GO p e below T297 (mkF m 261 (la17 p0 p1 p2 p3 p4 p5 r6 r7 r8 x9 x10 t11 (p3 + (1 : Int32)) (p4 - (1 : Int32)) b241 (2 : Int32) (FP.i2d ((x9 + x10) - t11)) (x9 + x10)) [(.int 2)]) _
        refine XS.goto X297.here hx rfl (pc0 := 261) (pc' := 265) rfl (hb hby at_261) (by decide) (by decide) ?_
        show GO p e below T297 (mkF m 265 (la17 p0 p1 p2 p3 p4 p5 r6 r7 r8 x9 x10 t11 (p3 + (1 : Int32)) (p4 - (1 : Int32)) b241 (2 : Int32) (FP.i2d ((x9 + x10) - t11)) (x9 + x10)) [(.int 2)]) _
        refine XS.istore X297.here hx rfl (hb hby at_265) rfl (l' := (la18 p0 p1 p2 p3 p4 p5 r6 r7 r8 x9 x10 t11 (p3 + (1 : Int32)) (p4 - (1 : Int32)) b241 (2 : Int32) (FP.i2d ((x9 + x10) - t11)) (x9 + x10) (2 : Int32))) rfl ?_
        show GO p e below T297 (mkF m 267 (la18 p0 p1 p2 p3 p4 p5 r6 r7 r8 x9 x10 t11 (p3 + (1 : Int32)) (p4 - (1 : Int32)) b241 (2 : Int32) (FP.i2d ((x9 + x10) - t11)) (x9 + x10) (2 : Int32)) []) _
        refine XS.iload X297.here hx rfl (hb hby at_267) rfl ?_
        show GO p e below T297 (mkF m 269 (la18 p0 p1 p2 p3 p4 p5 r6 r7 r8 x9 x10 t11 (p3 + (1 : Int32)) (p4 - (1 : Int32)) b241 (2 : Int32) (FP.i2d ((x9 + x10) - t11)) (x9 + x10) (2 : Int32)) [(.int 2)]) _
        refine XS.iload X297.here hx rfl (hb hby at_269) rfl ?_
        show GO p e below T297 (mkF m 271 (la18 p0 p1 p2 p3 p4 p5 r6 r7 r8 x9 x10 t11 (p3 + (1 : Int32)) (p4 - (1 : Int32)) b241 (2 : Int32) (FP.i2d ((x9 + x10) - t11)) (x9 + x10) (2 : Int32)) [(.int 2), (.int 2)]) _
        refine XS.icmpNo X297.here hx rfl (hb hby at_271) rfl (teq (rfl : (2 : Int32) = (2 : Int32))).2 ?_
        show GO p e below T297 (mkF m 274 (la18 p0 p1 p2 p3 p4 p5 r6 r7 r8 x9 x10 t11 (p3 + (1 : Int32)) (p4 - (1 : Int32)) b241 (2 : Int32) (FP.i2d ((x9 + x10) - t11)) (x9 + x10) (2 : Int32)) []) _
        refine XS.dload X297.here hx rfl (hb hby at_274) rfl ?_
        show GO p e below T297 (mkF m 276 (la18 p0 p1 p2 p3 p4 p5 r6 r7 r8 x9 x10 t11 (p3 + (1 : Int32)) (p4 - (1 : Int32)) b241 (2 : Int32) (FP.i2d ((x9 + x10) - t11)) (x9 + x10) (2 : Int32)) [(.double (FP.i2d ((x9 + x10) - t11)))]) _
        refine XS.iload X297.here hx rfl (hb hby at_276) rfl ?_
        show GO p e below T297 (mkF m 278 (la18 p0 p1 p2 p3 p4 p5 r6 r7 r8 x9 x10 t11 (p3 + (1 : Int32)) (p4 - (1 : Int32)) b241 (2 : Int32) (FP.i2d ((x9 + x10) - t11)) (x9 + x10) (2 : Int32)) [(.int (x9 + x10)), (.double (FP.i2d ((x9 + x10) - t11)))]) _
        refine XS.iload X297.here hx rfl (hb hby at_278) rfl ?_
        show GO p e below T297 (mkF m 280 (la18 p0 p1 p2 p3 p4 p5 r6 r7 r8 x9 x10 t11 (p3 + (1 : Int32)) (p4 - (1 : Int32)) b241 (2 : Int32) (FP.i2d ((x9 + x10) - t11)) (x9 + x10) (2 : Int32)) [(.int t11), (.int (x9 + x10)), (.double (FP.i2d ((x9 + x10) - t11)))]) _
        refine XS.isub X297.here hx rfl (hb hby at_280) rfl ?_
        show GO p e below T297 (mkF m 281 (la18 p0 p1 p2 p3 p4 p5 r6 r7 r8 x9 x10 t11 (p3 + (1 : Int32)) (p4 - (1 : Int32)) b241 (2 : Int32) (FP.i2d ((x9 + x10) - t11)) (x9 + x10) (2 : Int32)) [(.int ((x9 + x10) - t11)), (.double (FP.i2d ((x9 + x10) - t11)))]) _
        refine XS.i2dS X297.here hx rfl (hb hby at_281) rfl rfl ?_
        show GO p e below T297 (mkF m 282 (la18 p0 p1 p2 p3 p4 p5 r6 r7 r8 x9 x10 t11 (p3 + (1 : Int32)) (p4 - (1 : Int32)) b241 (2 : Int32) (FP.i2d ((x9 + x10) - t11)) (x9 + x10) (2 : Int32)) [(.double (FP.i2d ((x9 + x10) - t11))), (.double (FP.i2d ((x9 + x10) - t11)))]) _
        refine XS.dcmpS X297.here hx rfl (hb hby at_282) rfl (show cmpValue (FP.dcmp (FP.i2d ((x9 + x10) - t11)) (FP.i2d ((x9 + x10) - t11))) .l = (0 : Int32) from (own_ceq _)) ?_
        show GO p e below T297 (mkF m 283 (la18 p0 p1 p2 p3 p4 p5 r6 r7 r8 x9 x10 t11 (p3 + (1 : Int32)) (p4 - (1 : Int32)) b241 (2 : Int32) (FP.i2d ((x9 + x10) - t11)) (x9 + x10) (2 : Int32)) [(.int 0)]) _
        refine XS.ifNo X297.here hx rfl (hb hby at_283) rfl ((if0 _ _).trans (teq (rfl : (0 : Int32) = (0 : Int32))).2) ?_
        show GO p e below T297 (mkF m 286 (la18 p0 p1 p2 p3 p4 p5 r6 r7 r8 x9 x10 t11 (p3 + (1 : Int32)) (p4 - (1 : Int32)) b241 (2 : Int32) (FP.i2d ((x9 + x10) - t11)) (x9 + x10) (2 : Int32)) []) _
        refine XS.aload X297.here hx rfl (hb hby at_286) rfl rfl ?_
        show GO p e below T297 (mkF m 288 (la18 p0 p1 p2 p3 p4 p5 r6 r7 r8 x9 x10 t11 (p3 + (1 : Int32)) (p4 - (1 : Int32)) b241 (2 : Int32) (FP.i2d ((x9 + x10) - t11)) (x9 + x10) (2 : Int32)) [(.ref b241)]) _
        refine st298.trans ?_
        show GO p e below T298 (mkF m 291 (la18 p0 p1 p2 p3 p4 p5 r6 r7 r8 x9 x10 t11 (p3 + (1 : Int32)) (p4 - (1 : Int32)) b241 (2 : Int32) (FP.i2d ((x9 + x10) - t11)) (x9 + x10) (2 : Int32)) [(.int p3)]) _
        refine XS.iloadN X298.here hx rfl (hb hby at_291) rfl ?_
        show GO p e below T298 (mkF m 292 (la18 p0 p1 p2 p3 p4 p5 r6 r7 r8 x9 x10 t11 (p3 + (1 : Int32)) (p4 - (1 : Int32)) b241 (2 : Int32) (FP.i2d ((x9 + x10) - t11)) (x9 + x10) (2 : Int32)) [(.int p3), (.int p3)]) _
        refine XS.icmpNo X298.here hx rfl (hb hby at_292) rfl (teq (rfl : p3 = p3)).2 ?_
        show GO p e below T298 (mkF m 295 (la18 p0 p1 p2 p3 p4 p5 r6 r7 r8 x9 x10 t11 (p3 + (1 : Int32)) (p4 - (1 : Int32)) b241 (2 : Int32) (FP.i2d ((x9 + x10) - t11)) (x9 + x10) (2 : Int32)) []) _
        refine XS.aload X298.here hx rfl (hb hby at_295) rfl rfl ?_
        show GO p e below T298 (mkF m 297 (la18 p0 p1 p2 p3 p4 p5 r6 r7 r8 x9 x10 t11 (p3 + (1 : Int32)) (p4 - (1 : Int32)) b241 (2 : Int32) (FP.i2d ((x9 + x10) - t11)) (x9 + x10) (2 : Int32)) [(.ref b241)]) _
        refine st299.trans ?_
        show GO p e below T299 (mkF m 300 (la18 p0 p1 p2 p3 p4 p5 r6 r7 r8 x9 x10 t11 (p3 + (1 : Int32)) (p4 - (1 : Int32)) b241 (2 : Int32) (FP.i2d ((x9 + x10) - t11)) (x9 + x10) (2 : Int32)) [(.int p4)]) _
        refine XS.iload X299.here hx rfl (hb hby at_300) rfl ?_
        show GO p e below T299 (mkF m 302 (la18 p0 p1 p2 p3 p4 p5 r6 r7 r8 x9 x10 t11 (p3 + (1 : Int32)) (p4 - (1 : Int32)) b241 (2 : Int32) (FP.i2d ((x9 + x10) - t11)) (x9 + x10) (2 : Int32)) [(.int p4), (.int p4)]) _
        refine XS.icmpNo X299.here hx rfl (hb hby at_302) rfl (teq (rfl : p4 = p4)).2 ?_
        show GO p e below T299 (mkF m 305 (la18 p0 p1 p2 p3 p4 p5 r6 r7 r8 x9 x10 t11 (p3 + (1 : Int32)) (p4 - (1 : Int32)) b241 (2 : Int32) (FP.i2d ((x9 + x10) - t11)) (x9 + x10) (2 : Int32)) []) _
        refine XS.aload X299.here hx rfl (hb hby at_305) rfl rfl ?_
        show GO p e below T299 (mkF m 307 (la18 p0 p1 p2 p3 p4 p5 r6 r7 r8 x9 x10 t11 (p3 + (1 : Int32)) (p4 - (1 : Int32)) b241 (2 : Int32) (FP.i2d ((x9 + x10) - t11)) (x9 + x10) (2 : Int32)) [(.ref b241)]) _
        refine st300.trans ?_
        show GO p e below T300 (mkF m 310 (la18 p0 p1 p2 p3 p4 p5 r6 r7 r8 x9 x10 t11 (p3 + (1 : Int32)) (p4 - (1 : Int32)) b241 (2 : Int32) (FP.i2d ((x9 + x10) - t11)) (x9 + x10) (2 : Int32)) [(.double (FP.dsub (FP.i2d x9) (FP.i2d t11)))]) _
        refine XS.iload X300.here hx rfl (hb hby at_310) rfl ?_
        show GO p e below T300 (mkF m 312 (la18 p0 p1 p2 p3 p4 p5 r6 r7 r8 x9 x10 t11 (p3 + (1 : Int32)) (p4 - (1 : Int32)) b241 (2 : Int32) (FP.i2d ((x9 + x10) - t11)) (x9 + x10) (2 : Int32)) [(.int x9), (.double (FP.dsub (FP.i2d x9) (FP.i2d t11)))]) _
        refine XS.iload X300.here hx rfl (hb hby at_312) rfl ?_
        show GO p e below T300 (mkF m 314 (la18 p0 p1 p2 p3 p4 p5 r6 r7 r8 x9 x10 t11 (p3 + (1 : Int32)) (p4 - (1 : Int32)) b241 (2 : Int32) (FP.i2d ((x9 + x10) - t11)) (x9 + x10) (2 : Int32)) [(.int t11), (.int x9), (.double (FP.dsub (FP.i2d x9) (FP.i2d t11)))]) _
        refine XS.isub X300.here hx rfl (hb hby at_314) rfl ?_
        show GO p e below T300 (mkF m 315 (la18 p0 p1 p2 p3 p4 p5 r6 r7 r8 x9 x10 t11 (p3 + (1 : Int32)) (p4 - (1 : Int32)) b241 (2 : Int32) (FP.i2d ((x9 + x10) - t11)) (x9 + x10) (2 : Int32)) [(.int (x9 - t11)), (.double (FP.dsub (FP.i2d x9) (FP.i2d t11)))]) _
        refine XS.i2dS X300.here hx rfl (hb hby at_315) rfl rfl ?_
        show GO p e below T300 (mkF m 316 (la18 p0 p1 p2 p3 p4 p5 r6 r7 r8 x9 x10 t11 (p3 + (1 : Int32)) (p4 - (1 : Int32)) b241 (2 : Int32) (FP.i2d ((x9 + x10) - t11)) (x9 + x10) (2 : Int32)) [(.double (FP.i2d (x9 - t11))), (.double (FP.dsub (FP.i2d x9) (FP.i2d t11)))]) _
        refine XS.dcmpS X300.here hx rfl (hb hby at_316) rfl (show cmpValue (FP.dcmp (FP.dsub (FP.i2d x9) (FP.i2d t11)) (FP.i2d (x9 - t11))) .l = (0 : Int32) from (by rw [own_sub1 hx9a hx9b ht0 ht1]; exact own_ceq _)) ?_
        show GO p e below T300 (mkF m 317 (la18 p0 p1 p2 p3 p4 p5 r6 r7 r8 x9 x10 t11 (p3 + (1 : Int32)) (p4 - (1 : Int32)) b241 (2 : Int32) (FP.i2d ((x9 + x10) - t11)) (x9 + x10) (2 : Int32)) [(.int 0)]) _
        refine XS.ifNo X300.here hx rfl (hb hby at_317) rfl ((if0 _ _).trans (teq (rfl : (0 : Int32) = (0 : Int32))).2) ?_
        show GO p e below T300 (mkF m 320 (la18 p0 p1 p2 p3 p4 p5 r6 r7 r8 x9 x10 t11 (p3 + (1 : Int32)) (p4 - (1 : Int32)) b241 (2 : Int32) (FP.i2d ((x9 + x10) - t11)) (x9 + x10) (2 : Int32)) []) _
        refine XS.aload X300.here hx rfl (hb hby at_320) rfl rfl ?_
        show GO p e below T300 (mkF m 322 (la18 p0 p1 p2 p3 p4 p5 r6 r7 r8 x9 x10 t11 (p3 + (1 : Int32)) (p4 - (1 : Int32)) b241 (2 : Int32) (FP.i2d ((x9 + x10) - t11)) (x9 + x10) (2 : Int32)) [(.ref b241)]) _
        refine st301.trans ?_
        show GO p e below T301 (mkF m 325 (la18 p0 p1 p2 p3 p4 p5 r6 r7 r8 x9 x10 t11 (p3 + (1 : Int32)) (p4 - (1 : Int32)) b241 (2 : Int32) (FP.i2d ((x9 + x10) - t11)) (x9 + x10) (2 : Int32)) [(.int (nar .boolean r7))]) _
        refine XS.iload X301.here hx rfl (hb hby at_325) rfl ?_
        show GO p e below T301 (mkF m 327 (la18 p0 p1 p2 p3 p4 p5 r6 r7 r8 x9 x10 t11 (p3 + (1 : Int32)) (p4 - (1 : Int32)) b241 (2 : Int32) (FP.i2d ((x9 + x10) - t11)) (x9 + x10) (2 : Int32)) [(.int r7), (.int (nar .boolean r7))]) _
        refine XS.icmpNo X301.here hx rfl (hb hby at_327) rfl (teq (hbr7 : (nar .boolean r7) = r7)).2 ?_
        show GO p e below T301 (mkF m 330 (la18 p0 p1 p2 p3 p4 p5 r6 r7 r8 x9 x10 t11 (p3 + (1 : Int32)) (p4 - (1 : Int32)) b241 (2 : Int32) (FP.i2d ((x9 + x10) - t11)) (x9 + x10) (2 : Int32)) []) _
        refine XS.iconst X301.here hx rfl (hb hby at_330) ?_
        show GO p e below T301 (mkF m 331 (la18 p0 p1 p2 p3 p4 p5 r6 r7 r8 x9 x10 t11 (p3 + (1 : Int32)) (p4 - (1 : Int32)) b241 (2 : Int32) (FP.i2d ((x9 + x10) - t11)) (x9 + x10) (2 : Int32)) [(.int 1)]) _
        refine XS.goto X301.here hx rfl (pc0 := 331) (pc' := 335) rfl (hb hby at_331) (by decide) (by decide) ?_
        show GO p e below T301 (mkF m 335 (la18 p0 p1 p2 p3 p4 p5 r6 r7 r8 x9 x10 t11 (p3 + (1 : Int32)) (p4 - (1 : Int32)) b241 (2 : Int32) (FP.i2d ((x9 + x10) - t11)) (x9 + x10) (2 : Int32)) [(.int 1)]) _
        exact retN X301 hx (t := .boolean) Bd.returns (by simp) (hb hby at_335) hr
      · show Qrm0 Z p0 p1 p2 p3 p4 p5 h0 n0 _ T301.heap _
        rw [e301]
        exact ⟨rfl, N301⟩
set_option maxRecDepth 65536 in
set_option maxHeartbeats 40000000 in
theorem comes_1 {Post : Tables → Env → Array Value → State → Outcome → State → Prop} (hpost : ∀ tb e args s v u, (limb_1_1.after args s (.returned v) u = true ∧ limb_1_2.after args s (.returned v) u = true ∧ True) → FrameEnd s (.returned v) u (Jvm.fieldLocs frame_1_writes args s ++ Jvm.arrayLocs frame_1_arrays args s ++ Jvm.staticLocs frame_1_statics s) 24 192 → Post tb e args s (.returned v) u) :
    ArmFor flags0 classFile x code maxLocals ret World_1 tables_1 room_1 Calls_1 rest_1 Pre_1 Post := by
  intro l hfl _ _ p e ha hc hk s m args below hf hA hF happ hP
  obtain ⟨hcalls, hrest, hpre⟩ := hP
  obtain ⟨-, -, -, hnamed, -, -, -, hat⟩ := (Spec.applies_iff hf).mp happ
  obtain ⟨hg, hn⟩ := and_e (Cond.before_iff.mp (show (Jvm.Cond.and given_1 narrow_1).before args s = true from hpre))
  obtain ⟨g0a, g0b⟩ := and_e hg
  obtain ⟨g1a, g1b⟩ := and_e g0b
  obtain ⟨g2a, g2b⟩ := and_e g1b
  obtain ⟨g3a, g3b⟩ := and_e g2b
  obtain ⟨g4a, g4b⟩ := and_e g3b
  obtain ⟨g5a, g5b⟩ := and_e g4b
  obtain ⟨w0, w1, w2, w3, w4, w5, rfl⟩ : ∃ w0 w1 w2 w3 w4 w5 : Value, args = #[w0, w1, w2, w3, w4, w5] := by
    have hs : args.size = 6 := by simpa [Cond.value, given_1] using g0a
    obtain ⟨L⟩ := args
    match L, hs with
    | [w0, w1, w2, w3, w4, w5], _ => exact ⟨w0, w1, w2, w3, w4, w5, rfl⟩
  have hw := fun d (hd : d ∈ tables_1) => atoms_spec (ws := Jvm.Cond.code x code maxLocals ret :: tables_1) hat d (List.mem_cons_of_mem _ hd)
  have hfit : Fit s := fun {y c} hc i hi => by
    obtain ⟨ha, rfl⟩ := Array.getElem?_eq_some_iff.mp hc
    have q := List.all_eq_true.mp ((Array.all_eq_true_iff_forall_mem.mp hF) _ (Array.getElem_mem ha)) i (List.mem_range.mpr hi)
    simpa [Array.getElem?_eq_getElem hi] using q
  obtain ⟨i0, ei0⟩ := is_v g1a
  obtain rfl : w0 = (.int i0) := Option.some.inj ei0
  obtain ⟨i1, ei1⟩ := is_v g2a
  obtain rfl : w1 = (.int i1) := Option.some.inj ei1
  obtain ⟨i2, ei2⟩ := is_v g3a
  obtain rfl : w2 = (.int i2) := Option.some.inj ei2
  obtain ⟨i3, ei3⟩ := is_v g4a
  obtain rfl : w3 = (.int i3) := Option.some.inj ei3
  obtain ⟨i4, ei4⟩ := is_v g5a
  obtain rfl : w4 = (.int i4) := Option.some.inj ei4
  obtain ⟨i5, ei5⟩ := is_v g5b
  obtain rfl : w5 = (.int i5) := Option.some.inj ei5
  obtain ⟨n, o, h1, h2, h3, _, L, rfl, ⟨rfl, N⟩, hq⟩ := rm0 l s _ hw tables_1 i0 i1 i2 i3 i4 i5 s.heap s.heap.size (Nat.le_refl _) p e ha hc hk s m _ below hf ((Spec.applies_iff_loose hf).mp happ).1 ⟨rfl, State.Warmed39.refl s, rfl⟩ trivial
  refine ⟨n, _, h1, h2, h3, hpost _ _ _ _ _ _ ⟨Cond.after_iff.mpr rfl, Cond.after_iff.mpr (eq_i res_at (Term.int_eval (1)) rfl), trivial⟩ ⟨hq.1, hq.2.1, (hq.2.2.sift fun y hy => Or.inr (N y hy)).mono (by decide) (by decide)⟩⟩
theorem main_1_1 : Claimed_1_1 := comes_1 fun _ _ _ _ _ _ h hF => ⟨h.1, hF⟩
theorem main_1_2 : Claimed_1_2 := comes_1 fun _ _ _ _ _ _ h hF => ⟨h.2.1, hF⟩
end Jvm.Pilot.@@N@@
namespace Jvm.Pilot.@@N@@
open Jvm Jvm.ClassFile Sem Op Lib Jvm.Free Jvm.Stand Jvm.Pilot.@@N@@.Jvm.D
/-! MADE BY PROGRAM (witnessworld.py) out of the Statement's table words and the real class files: 13 classes; the members and pool entries that the words name. The judged class is class 1, her method 1. -/
namespace start1
open Jvm.ClassFile
def u (s : String) : CpInfo := .utf8 (stringToUtf16 s)
/-- a pool by its gaps: so many unusable entries, then the entry; so many at the end -/
def gap : Nat → List CpInfo → List CpInfo
  | 0, r => r
  | n + 1, r => .unusable :: gap n r
def poolList (es : List (Nat × CpInfo)) (last : Nat) : List CpInfo := es.foldr (fun e r => gap e.1 (e.2 :: r)) (gap last [])
def pool (es : List (Nat × CpInfo)) (last : Nat) : Array CpInfo := ⟨poolList es last⟩
def fileOf (pool : Array CpInfo) (this : Nat) (attrs : Array Attribute := #[]) (ms : Array MethodInfo := #[]) (fl : Nat := 33) (sup : Nat := 0) (ifs : Array Nat := #[]) (fds : Array FieldInfo := #[]) : ClassFile where
  minorVersion := 0
  majorVersion := 65
  constantPool := pool
  accessFlags := fl
  thisClass := this
  superClass := sup
  interfaces := ifs
  fields := fds
  methods := ms
  attributes := attrs
def plain (name : String) (sup : Option ClassId) : Class where
  name := name
  kind := .ordinary
  loader := none
  accessFlags := 33
  super := sup
  interfaces := #[]
  cf := none
  fields := #[]
  methods := #[]
  instanceTypes := #[]
  staticTypes := #[]
  resolved := #[]
  callSites := []
  init := .initialized
  statics := none
  mirror := none

def pool0 : Array CpInfo := pool [(5, u "<init>"), (0, u "()V"), (1, .class_ 10), (1, u "java/lang/Object")] 113

def k0c0 : Code := { maxStack := 0, maxLocals := 1, code := object_method_1_code, exceptionTable := #[], attributes := #[] }
def k0m0 : Method := { name := "<init>", desc := "()V", sig := { parameters := [], returnType := none }, accessFlags := 1, code := some k0c0 }
/-- java/lang/Object -/
def k0 : Class := { plain "java/lang/Object" none with
  accessFlags := 33
  interfaces := #[]
  cf := some (fileOf pool0 8 #[] #[{ accessFlags := 1, nameIndex := 5, descriptorIndex := 6, attributes := #[] }] 33 0 #[] #[])
  fields := #[]
  methods := #[k0m0]
  instanceTypes := #[]
  staticTypes := #[]
  resolved := Array.replicate 124 none
  statics := none }

def pool1 : Array CpInfo := pool [(2, .class_ 4), (0, .nameAndType 5 6), (0, u "java/lang/Object"), (0, u "<init>"), (0, u "()V"), (0, .integer 2147483647), (0, .class_ 9), (0, u "com/example/occupancy/occupancy/loading/Block"), (0, .methodref 8 3), (0, .methodref 8 12), (0, .nameAndType 13 14), (0, u "add"), (0, u "(IIDZ)V"), (0, .methodref 8 16), (0, .nameAndType 17 18), (0, u "takeFromHead"), (0, u "(D)V"), (0, .methodref 8 20), (0, .nameAndType 21 22), (0, u "size"), (0, u "()I"), (0, .methodref 8 24), (0, .nameAndType 25 26), (0, u "content"), (0, u "()D"), (0, .methodref 8 28), (0, .nameAndType 29 22), (0, u "headAgent"), (0, .methodref 8 31), (0, .nameAndType 32 22), (0, u "headLeg"), (0, .methodref 8 34), (0, .nameAndType 35 26), (0, u "headAmount"), (0, .methodref 8 37), (0, .nameAndType 38 39), (0, u "headIsRear"), (0, u "()Z"), (0, .class_ 41), (0, u "com/example/occupancy/occupancy/loading/BlockTakeFromHeadPinLaw"), (2, u "law"), (0, u "(IIIIII)Z")] 3

def k1m0 : Method := { name := "<init>", desc := "()V", sig := { parameters := [], returnType := none }, accessFlags := 1, code := none }
def k1c1 : Code := { maxStack := 6, maxLocals := 20, code := code, exceptionTable := #[], attributes := #[] }
def k1m1 : Method := { name := "law", desc := "(IIIIII)Z", sig := { parameters := [.int, .int, .int, .int, .int, .int], returnType := some .boolean }, accessFlags := 9, code := some k1c1 }
/-- com/example/occupancy/occupancy/loading/BlockTakeFromHeadPinLaw -/
def k1 : Class := { plain "com/example/occupancy/occupancy/loading/BlockTakeFromHeadPinLaw" (some 0) with
  accessFlags := 49
  interfaces := #[]
  cf := some (fileOf pool1 40 #[] #[{ accessFlags := 1, nameIndex := 5, descriptorIndex := 6, attributes := #[] }, { accessFlags := 9, nameIndex := 44, descriptorIndex := 45, attributes := #[] }] 49 2 #[] #[])
  fields := #[]
  methods := #[k1m0, k1m1]
  instanceTypes := #[]
  staticTypes := #[]
  resolved := Array.replicate 49 none
  statics := none }

def pool2 : Array CpInfo := pool [(1, .methodref 2 3), (0, .class_ 4), (0, .nameAndType 5 6), (0, u "java/lang/Object"), (0, u "<init>"), (0, u "()V"), (0, .class_ 8), (0, u "com/example/occupancy/occupancy/loading/Block"), (0, .fieldref 7 10), (0, .nameAndType 11 12), (0, u "agents"), (0, u "[I"), (0, .fieldref 7 14), (0, .nameAndType 15 12), (0, u "legs"), (0, .fieldref 7 17), (0, .nameAndType 18 19), (0, u "amounts"), (0, u "[D"), (0, .fieldref 7 21), (0, .nameAndType 22 23), (0, u "rears"), (0, u "[Z"), (0, .fieldref 7 25), (0, .nameAndType 26 27), (0, u "content"), (0, u "D"), (0, .fieldref 7 29), (0, .nameAndType 30 31), (0, u "size"), (0, u "I"), (0, .fieldref 7 33), (0, .nameAndType 34 31), (0, u "head"), (7, u "INITIAL_CAPACITY"), (4, u "()D"), (1, u "()Z"), (1, u "()I"), (0, u "headAgent"), (0, u "headLeg"), (0, u "headAmount"), (0, u "headIsRear"), (1, u "add"), (0, u "(IIDZ)V"), (0, u "takeFromHead"), (0, u "(D)V")] 7

def k2c0 : Code := { maxStack := 2, maxLocals := 1, code := prog_14_method_1_code, exceptionTable := #[], attributes := #[] }
def k2m0 : Method := { name := "<init>", desc := "()V", sig := { parameters := [], returnType := none }, accessFlags := 0, code := some k2c0 }
def k2c1 : Code := { maxStack := 2, maxLocals := 1, code := prog_14_method_2_code, exceptionTable := #[], attributes := #[] }
def k2m1 : Method := { name := "content", desc := "()D", sig := { parameters := [], returnType := some .double }, accessFlags := 0, code := some k2c1 }
def k2c2 : Code := { maxStack := 1, maxLocals := 1, code := prog_14_method_4_code, exceptionTable := #[], attributes := #[] }
def k2m2 : Method := { name := "size", desc := "()I", sig := { parameters := [], returnType := some .int }, accessFlags := 0, code := some k2c2 }
def k2c3 : Code := { maxStack := 2, maxLocals := 1, code := prog_14_method_5_code, exceptionTable := #[], attributes := #[] }
def k2m3 : Method := { name := "headAgent", desc := "()I", sig := { parameters := [], returnType := some .int }, accessFlags := 0, code := some k2c3 }
def k2c4 : Code := { maxStack := 2, maxLocals := 1, code := prog_14_method_6_code, exceptionTable := #[], attributes := #[] }
def k2m4 : Method := { name := "headLeg", desc := "()I", sig := { parameters := [], returnType := some .int }, accessFlags := 0, code := some k2c4 }
def k2c5 : Code := { maxStack := 2, maxLocals := 1, code := prog_14_method_7_code, exceptionTable := #[], attributes := #[] }
def k2m5 : Method := { name := "headAmount", desc := "()D", sig := { parameters := [], returnType := some .double }, accessFlags := 0, code := some k2c5 }
def k2c6 : Code := { maxStack := 2, maxLocals := 1, code := prog_14_method_8_code, exceptionTable := #[], attributes := #[] }
def k2m6 : Method := { name := "headIsRear", desc := "()Z", sig := { parameters := [], returnType := some .boolean }, accessFlags := 0, code := some k2c6 }
def k2c7 : Code := { maxStack := 6, maxLocals := 9, code := prog_14_method_11_code, exceptionTable := #[], attributes := #[] }
def k2m7 : Method := { name := "add", desc := "(IIDZ)V", sig := { parameters := [.int, .int, .double, .boolean], returnType := none }, accessFlags := 0, code := some k2c7 }
def k2c8 : Code := { maxStack := 6, maxLocals := 3, code := prog_14_method_12_code, exceptionTable := #[], attributes := #[] }
def k2m8 : Method := { name := "takeFromHead", desc := "(D)V", sig := { parameters := [.double], returnType := none }, accessFlags := 0, code := some k2c8 }
/-- com/example/occupancy/occupancy/loading/Block -/
def k2 : Class := { plain "com/example/occupancy/occupancy/loading/Block" (some 0) with
  accessFlags := 32
  interfaces := #[]
  cf := some (fileOf pool2 7 #[] #[{ accessFlags := 0, nameIndex := 5, descriptorIndex := 6, attributes := #[] }, { accessFlags := 0, nameIndex := 26, descriptorIndex := 47, attributes := #[] }, { accessFlags := 0, nameIndex := 30, descriptorIndex := 51, attributes := #[] }, { accessFlags := 0, nameIndex := 52, descriptorIndex := 51, attributes := #[] }, { accessFlags := 0, nameIndex := 53, descriptorIndex := 51, attributes := #[] }, { accessFlags := 0, nameIndex := 54, descriptorIndex := 47, attributes := #[] }, { accessFlags := 0, nameIndex := 55, descriptorIndex := 49, attributes := #[] }, { accessFlags := 0, nameIndex := 57, descriptorIndex := 58, attributes := #[] }, { accessFlags := 0, nameIndex := 59, descriptorIndex := 60, attributes := #[] }] 32 2 #[] #[{ accessFlags := 26, nameIndex := 42, descriptorIndex := 31, attributes := #[] }, { accessFlags := 2, nameIndex := 11, descriptorIndex := 12, attributes := #[] }, { accessFlags := 2, nameIndex := 15, descriptorIndex := 12, attributes := #[] }, { accessFlags := 2, nameIndex := 18, descriptorIndex := 19, attributes := #[] }, { accessFlags := 2, nameIndex := 22, descriptorIndex := 23, attributes := #[] }, { accessFlags := 2, nameIndex := 34, descriptorIndex := 31, attributes := #[] }, { accessFlags := 2, nameIndex := 30, descriptorIndex := 31, attributes := #[] }, { accessFlags := 2, nameIndex := 26, descriptorIndex := 27, attributes := #[] }])
  fields := #[{ name := "INITIAL_CAPACITY", type := .int, accessFlags := 26, slot := 0, constantValue := 0 }, { name := "agents", type := (.array .int), accessFlags := 2, slot := 0, constantValue := 0 }, { name := "legs", type := (.array .int), accessFlags := 2, slot := 1, constantValue := 0 }, { name := "amounts", type := (.array .double), accessFlags := 2, slot := 2, constantValue := 0 }, { name := "rears", type := (.array .boolean), accessFlags := 2, slot := 3, constantValue := 0 }, { name := "head", type := .int, accessFlags := 2, slot := 4, constantValue := 0 }, { name := "size", type := .int, accessFlags := 2, slot := 5, constantValue := 0 }, { name := "content", type := .double, accessFlags := 2, slot := 6, constantValue := 0 }]
  methods := #[k2m0, k2m1, k2m2, k2m3, k2m4, k2m5, k2m6, k2m7, k2m8]
  instanceTypes := #[(.array .int), (.array .int), (.array .double), (.array .boolean), .int, .int, .double]
  staticTypes := #[.int]
  resolved := Array.replicate 68 none
  statics := none }

def pool3 : Array CpInfo := pool [(1, u "java/lang/Cloneable"), (0, .class_ 1), (0, u "java/lang/Object"), (0, .class_ 3)] 3

/-- java/lang/Cloneable -/
def k3 : Class := { plain "java/lang/Cloneable" (some 0) with
  accessFlags := 1537
  interfaces := #[]
  cf := some (fileOf pool3 2 #[] #[] 1537 4 #[] #[])
  fields := #[]
  methods := #[]
  instanceTypes := #[]
  staticTypes := #[]
  resolved := Array.replicate 8 none
  statics := none }

def pool4 : Array CpInfo := pool [(1, u "java/io/Serializable"), (0, .class_ 1), (0, u "java/lang/Object"), (0, .class_ 3)] 3

/-- java/io/Serializable -/
def k4 : Class := { plain "java/io/Serializable" (some 0) with
  accessFlags := 1537
  interfaces := #[]
  cf := some (fileOf pool4 2 #[] #[] 1537 4 #[] #[])
  fields := #[]
  methods := #[]
  instanceTypes := #[]
  staticTypes := #[]
  resolved := Array.replicate 8 none
  statics := none }

/-- the primitive boolean -/
def k5 : Class := { plain "boolean" none with kind := .primitive 'Z', accessFlags := 0x411 }
/-- [Z -/
def k6 : Class := { plain "[Z" (some 0) with kind := .array 5 .boolean, interfaces := #[3, 4], accessFlags := 1041 }

/-- the primitive byte -/
def k7 : Class := { plain "byte" none with kind := .primitive 'B', accessFlags := 0x411 }
/-- [B -/
def k8 : Class := { plain "[B" (some 0) with kind := .array 7 .byte, interfaces := #[3, 4], accessFlags := 1041 }

/-- the primitive double -/
def k9 : Class := { plain "double" none with kind := .primitive 'D', accessFlags := 0x411 }
/-- [D -/
def k10 : Class := { plain "[D" (some 0) with kind := .array 9 .double, interfaces := #[3, 4], accessFlags := 1041 }

/-- the primitive int -/
def k11 : Class := { plain "int" none with kind := .primitive 'I', accessFlags := 0x411 }
/-- [I -/
def k12 : Class := { plain "[I" (some 0) with kind := .array 11 .int, interfaces := #[3, 4], accessFlags := 1041 }

def heap : Heap := #[]
def classes : Array Class := #[k0, k1, k2, k3, k4, k5, k6, k7, k8, k9, k10, k11, k12]
def interned : List (Array UInt16 × Addr) := []
def slotsUsed : Nat := 0
def theMethod : MethodId := ⟨1, 1⟩
def args0 : Array Value := #[.int 5, .int 7, .int 3, .int 2, .int 1, .int 4]
def aboutOver (below : List Frame) : State where
  vm := { classes := classes, interned := interned.toArray }
  heap := heap
  slotsUsed := slotsUsed
  threads := #[{ frames := .invoking theMethod args0 :: below }]
def below0 : List Frame := [.native { method := ⟨0, 0⟩, args := #[] }]
def about1 : State := aboutOver below0
def p0 : Program := .bare "" "" ""
def e0 : Env := launch0.env 0 0 0
theorem w_frames : about1.frames = Frame.invoking theMethod args0 :: below0 := rfl
set_option maxRecDepth 65536 in
theorem w_args : argsFit about1.vm theMethod args0 = true := by decide +kernel
set_option maxRecDepth 65536 in
theorem w_heap : heapFits about1 = true := by decide +kernel
set_option maxRecDepth 65536 in
theorem w_runnable : about1.curStatus? = some .runnable := by decide +kernel
set_option maxRecDepth 65536 in
theorem w_alone : about1.alone = true := by decide +kernel
set_option maxRecDepth 65536 in
theorem w_named : about1.methodNamed? x = some theMethod := by decide +kernel
set_option maxRecDepth 65536 in
theorem w_hears : about1.hears theMethod below0 = true := by decide +kernel
set_option maxRecDepth 65536 in
theorem w_ripe : about1.ripe theMethod args0 below0 = true := by decide +kernel
theorem w_running : about1.status = .running := rfl
set_option maxRecDepth 65536 in
theorem w_room : about1.hasRoom e0.platform room_1 = true :=
  launch0.hasRoom_least _ room_1 (by decide +kernel) (by decide +kernel) (by decide +kernel) (by decide +kernel) (by decide +kernel) (by decide +kernel)
theorem allAtoms_all (ts : List Jvm.Cond) (a : Array Jvm.Value) (st : Jvm.State) : (allAtoms ts).before a st = ts.all (fun c => c.before a st) := by
  induction ts with
  | nil => rfl
  | cons c t ih =>
    show (Jvm.Cond.and c (allAtoms t)).before a st = _
    rw [Jvm.Cond.before_and, ih, List.all_cons]
def words1 : List Jvm.Cond := Jvm.Cond.code x code maxLocals ret :: tables_1
/-- a 'code' word, met by the world's own term for the bytes: nothing is compared byte by byte -/
theorem code_word {y : MethodName} {bytes : ByteArray} {mx : Nat} {rt : Option FieldType} {a : Array Value} {s : State} {m : MethodId} {meth : Method} {c : Code} (h1 : s.methodNamed? y = some m) (h2 : s.vm.method? m = some meth) (h3 : meth.code = some c) (h4 : c.code = bytes)
    (h5 : (c.maxLocals == mx && c.exceptionTable.isEmpty && decide (c.maxStack ≤ mostOperands) && decide (meth.sig.returnType = rt) && !meth.locks && decide (parseMethodDescriptor y.desc = some meth.sig)) = true) : (Jvm.Cond.code y bytes mx rt).before a s = true := by
  simp only [Bool.and_eq_true, beq_iff_eq, Bool.not_eq_true', decide_eq_true_eq] at h5
  obtain ⟨⟨⟨⟨⟨g1, g2⟩, g3⟩, g4⟩, g5⟩, g6⟩ := h5
  simp [Cond.before, Cond.holds, Cond.value, h1, h2, h3, h4, g1, g2, g3, g4, g5, g6]
def isCode : Jvm.Cond → Bool
  | .code _ _ _ _ => true
  | _ => false
theorem all_split {L : List Jvm.Cond} {P : Jvm.Cond → Bool} (h1 : L.all (fun c => isCode c || P c) = true) (h2 : ∀ c ∈ L.filter isCode, P c = true) : L.all P = true := by
  refine List.all_eq_true.mpr fun c hc => ?_
  have h := List.all_eq_true.mp h1 c hc
  rcases Bool.eq_false_or_eq_true (isCode c) with hi | hi
  · exact h2 c (List.mem_filter.mpr ⟨hc, hi⟩)
  · simpa [hi] using h
set_option maxRecDepth 65536 in
theorem w_c0 : (Jvm.Cond.code x code maxLocals ret).before args0 about1 = true := code_word (m := ⟨1, 1⟩) (meth := k1m1) (c := k1c1) (by decide +kernel) rfl rfl rfl (by decide +kernel)
set_option maxRecDepth 65536 in
theorem w_c1 : (Jvm.Cond.code ({ cls := "com/example/occupancy/occupancy/loading/Block", name := "<init>", desc := "()V" } : Jvm.MethodName) prog_14_method_1_code (1 : Nat) (Option.none : Option Jvm.ClassFile.FieldType)).before args0 about1 = true := code_word (m := ⟨2, 0⟩) (meth := k2m0) (c := k2c0) (by decide +kernel) rfl rfl rfl (by decide +kernel)
set_option maxRecDepth 65536 in
theorem w_c2 : (Jvm.Cond.code ({ cls := "java/lang/Object", name := "<init>", desc := "()V" } : Jvm.MethodName) object_method_1_code (1 : Nat) (Option.none : Option Jvm.ClassFile.FieldType)).before args0 about1 = true := code_word (m := ⟨0, 0⟩) (meth := k0m0) (c := k0c0) (by decide +kernel) rfl rfl rfl (by decide +kernel)
set_option maxRecDepth 65536 in
theorem w_c3 : (Jvm.Cond.code ({ cls := "com/example/occupancy/occupancy/loading/Block", name := "add", desc := "(IIDZ)V" } : Jvm.MethodName) prog_14_method_11_code (9 : Nat) (Option.none : Option Jvm.ClassFile.FieldType)).before args0 about1 = true := code_word (m := ⟨2, 7⟩) (meth := k2m7) (c := k2c7) (by decide +kernel) rfl rfl rfl (by decide +kernel)
set_option maxRecDepth 65536 in
theorem w_c4 : (Jvm.Cond.code ({ cls := "com/example/occupancy/occupancy/loading/Block", name := "takeFromHead", desc := "(D)V" } : Jvm.MethodName) prog_14_method_12_code (3 : Nat) (Option.none : Option Jvm.ClassFile.FieldType)).before args0 about1 = true := code_word (m := ⟨2, 8⟩) (meth := k2m8) (c := k2c8) (by decide +kernel) rfl rfl rfl (by decide +kernel)
set_option maxRecDepth 65536 in
theorem w_c5 : (Jvm.Cond.code ({ cls := "com/example/occupancy/occupancy/loading/Block", name := "size", desc := "()I" } : Jvm.MethodName) prog_14_method_4_code (1 : Nat) (Option.some Jvm.ClassFile.FieldType.int)).before args0 about1 = true := code_word (m := ⟨2, 2⟩) (meth := k2m2) (c := k2c2) (by decide +kernel) rfl rfl rfl (by decide +kernel)
set_option maxRecDepth 65536 in
theorem w_c6 : (Jvm.Cond.code ({ cls := "com/example/occupancy/occupancy/loading/Block", name := "content", desc := "()D" } : Jvm.MethodName) prog_14_method_2_code (1 : Nat) (Option.some Jvm.ClassFile.FieldType.double)).before args0 about1 = true := code_word (m := ⟨2, 1⟩) (meth := k2m1) (c := k2c1) (by decide +kernel) rfl rfl rfl (by decide +kernel)
set_option maxRecDepth 65536 in
theorem w_c7 : (Jvm.Cond.code ({ cls := "com/example/occupancy/occupancy/loading/Block", name := "headAgent", desc := "()I" } : Jvm.MethodName) prog_14_method_5_code (1 : Nat) (Option.some Jvm.ClassFile.FieldType.int)).before args0 about1 = true := code_word (m := ⟨2, 3⟩) (meth := k2m3) (c := k2c3) (by decide +kernel) rfl rfl rfl (by decide +kernel)
set_option maxRecDepth 65536 in
theorem w_c8 : (Jvm.Cond.code ({ cls := "com/example/occupancy/occupancy/loading/Block", name := "headLeg", desc := "()I" } : Jvm.MethodName) prog_14_method_6_code (1 : Nat) (Option.some Jvm.ClassFile.FieldType.int)).before args0 about1 = true := code_word (m := ⟨2, 4⟩) (meth := k2m4) (c := k2c4) (by decide +kernel) rfl rfl rfl (by decide +kernel)
set_option maxRecDepth 65536 in
theorem w_c9 : (Jvm.Cond.code ({ cls := "com/example/occupancy/occupancy/loading/Block", name := "headAmount", desc := "()D" } : Jvm.MethodName) prog_14_method_7_code (1 : Nat) (Option.some Jvm.ClassFile.FieldType.double)).before args0 about1 = true := code_word (m := ⟨2, 5⟩) (meth := k2m5) (c := k2c5) (by decide +kernel) rfl rfl rfl (by decide +kernel)
set_option maxRecDepth 65536 in
theorem w_c10 : (Jvm.Cond.code ({ cls := "com/example/occupancy/occupancy/loading/Block", name := "headIsRear", desc := "()Z" } : Jvm.MethodName) prog_14_method_8_code (1 : Nat) (Option.some Jvm.ClassFile.FieldType.boolean)).before args0 about1 = true := code_word (m := ⟨2, 6⟩) (meth := k2m6) (c := k2c6) (by decide +kernel) rfl rfl rfl (by decide +kernel)
def codes1 : List Jvm.Cond := [Jvm.Cond.code x code maxLocals ret, Jvm.Cond.code ({ cls := "com/example/occupancy/occupancy/loading/Block", name := "<init>", desc := "()V" } : Jvm.MethodName) prog_14_method_1_code (1 : Nat) (Option.none : Option Jvm.ClassFile.FieldType), Jvm.Cond.code ({ cls := "java/lang/Object", name := "<init>", desc := "()V" } : Jvm.MethodName) object_method_1_code (1 : Nat) (Option.none : Option Jvm.ClassFile.FieldType), Jvm.Cond.code ({ cls := "com/example/occupancy/occupancy/loading/Block", name := "add", desc := "(IIDZ)V" } : Jvm.MethodName) prog_14_method_11_code (9 : Nat) (Option.none : Option Jvm.ClassFile.FieldType), Jvm.Cond.code ({ cls := "com/example/occupancy/occupancy/loading/Block", name := "takeFromHead", desc := "(D)V" } : Jvm.MethodName) prog_14_method_12_code (3 : Nat) (Option.none : Option Jvm.ClassFile.FieldType), Jvm.Cond.code ({ cls := "com/example/occupancy/occupancy/loading/Block", name := "size", desc := "()I" } : Jvm.MethodName) prog_14_method_4_code (1 : Nat) (Option.some Jvm.ClassFile.FieldType.int), Jvm.Cond.code ({ cls := "com/example/occupancy/occupancy/loading/Block", name := "content", desc := "()D" } : Jvm.MethodName) prog_14_method_2_code (1 : Nat) (Option.some Jvm.ClassFile.FieldType.double), Jvm.Cond.code ({ cls := "com/example/occupancy/occupancy/loading/Block", name := "headAgent", desc := "()I" } : Jvm.MethodName) prog_14_method_5_code (1 : Nat) (Option.some Jvm.ClassFile.FieldType.int), Jvm.Cond.code ({ cls := "com/example/occupancy/occupancy/loading/Block", name := "headLeg", desc := "()I" } : Jvm.MethodName) prog_14_method_6_code (1 : Nat) (Option.some Jvm.ClassFile.FieldType.int), Jvm.Cond.code ({ cls := "com/example/occupancy/occupancy/loading/Block", name := "headAmount", desc := "()D" } : Jvm.MethodName) prog_14_method_7_code (1 : Nat) (Option.some Jvm.ClassFile.FieldType.double), Jvm.Cond.code ({ cls := "com/example/occupancy/occupancy/loading/Block", name := "headIsRear", desc := "()Z" } : Jvm.MethodName) prog_14_method_8_code (1 : Nat) (Option.some Jvm.ClassFile.FieldType.boolean)]
set_option maxRecDepth 65536 in
theorem codes_eq : words1.filter isCode = codes1 := rfl
theorem w_codes : ∀ c ∈ words1.filter isCode, c.before args0 about1 = true := by
  rw [codes_eq]
  intro c hc
  simp only [codes1, List.mem_cons, List.not_mem_nil, or_false] at hc
  rcases hc with rfl | rfl | rfl | rfl | rfl | rfl | rfl | rfl | rfl | rfl | rfl
  · exact w_c0
  · exact w_c1
  · exact w_c2
  · exact w_c3
  · exact w_c4
  · exact w_c5
  · exact w_c6
  · exact w_c7
  · exact w_c8
  · exact w_c9
  · exact w_c10
set_option maxRecDepth 65536 in
theorem w_t1 : (words1.take 24).all (fun c => isCode c || c.before args0 about1) = true := by decide +kernel
set_option maxRecDepth 65536 in
theorem w_t2 : ((words1.drop 24).take 24).all (fun c => isCode c || c.before args0 about1) = true := by decide +kernel
set_option maxRecDepth 65536 in
theorem w_t3 : ((words1.drop 24).drop 24).all (fun c => isCode c || c.before args0 about1) = true := by decide +kernel
theorem w_tables : (allAtoms (Jvm.Cond.code x code maxLocals ret :: tables_1)).before args0 about1 = true := by
  rw [allAtoms_all]
  show words1.all (fun c => c.before args0 about1) = true
  refine all_split ?_ w_codes
  rw [← List.take_append_drop 24 words1, List.all_append, w_t1, ← List.take_append_drop 24 (words1.drop 24), List.all_append, w_t2, w_t3]
  rfl
set_option maxRecDepth 65536 in
theorem w_case : (Jvm.Cond.and given_1 narrow_1).before args0 about1 = true := by decide +kernel
theorem w_applies : (headSpec (Jvm.Cond.code x code maxLocals ret :: tables_1) room_1).applies x e0.platform about1 = true :=
  (Spec.applies_iff w_frames).mpr ⟨w_running, w_runnable, w_alone, w_named, w_hears, w_ripe, w_room, w_tables⟩
theorem atStart : AtStart classFile x code maxLocals ret World_1 tables_1 room_1 Calls_1 rest_1 Pre_1 launch0 p0 e0 about1 theMethod args0 below0 :=
  ⟨lists_1, trivial, launch0.admits_env _ _ _, launch0.least_env, fairChoices_fair.cas, fairChoices_fair.clock, w_frames, w_args, w_heap, w_applies, trivial, trivial, w_case⟩
end start1
theorem witness_1 : WitnessClaimed_1 := ⟨start1.p0, start1.e0, start1.about1, start1.theMethod, start1.args0, start1.below0, start1.atStart⟩
end Jvm.Pilot.@@N@@
